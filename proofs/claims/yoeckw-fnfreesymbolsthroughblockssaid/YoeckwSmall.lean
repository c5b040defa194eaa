/-
  THE SMALL FUNCTIONS OF THE LAWS' OWN PACKAGE: the bounds on total length, the copies of slices.
-/
import Derived.Test.YoeckwBase
import Derived.Deep.OwnRows
namespace Go.Proofs.Yoeckw
open Go.RowKit

theorem add_none (b off j : Nat) : (⟨b, off, none⟩ : Addr).add j = ⟨b, off + j, none⟩ := by unfold Addr.add; split <;> simp_all

set_option maxHeartbeats 400000 in
theorem bytes10_yes (a : Option Addr) (len cap : Nat) (h : len ≤ 1048576) (w : World) :
    Calls Eckg.prog 10 #[.slice a len cap] w fun e w' => e = .returned (.bool true) ∧ w' = w := by
  have h1 : ¬ (1048576 : Int) < (len : Int) := by omega
  go_enter Eckg.func10, Eckg.ntmps10
  go_wp2
  go_ret
  exact ⟨rfl, rfl⟩
set_option maxHeartbeats 400000 in
theorem bytes10_no (a : Option Addr) (len cap : Nat) (h : 1048576 < len) (w : World) :
    Calls Eckg.prog 10 #[.slice a len cap] w fun e w' => e = .returned (.bool false) ∧ w' = w := by
  have h1 : (1048576 : Int) < (len : Int) := by omega
  go_enter Eckg.func10, Eckg.ntmps10
  go_wp2
  go_ret
  exact ⟨rfl, rfl⟩

set_option maxHeartbeats 400000 in
theorem bytes15_yes (a : Option Addr) (len cap : Nat) (h : len ≤ 1048576) (w : World) :
    Calls Eckg.prog 15 #[.slice a len cap] w fun e w' => e = .returned (.bool true) ∧ w' = w := by
  have h1 : ¬ (1048576 : Int) < (len : Int) := by omega
  go_enter Eckg.func15, Eckg.ntmps15
  go_wp2
  go_ret
  exact ⟨rfl, rfl⟩
set_option maxHeartbeats 400000 in
theorem bytes15_no (a : Option Addr) (len cap : Nat) (h : 1048576 < len) (w : World) :
    Calls Eckg.prog 15 #[.slice a len cap] w fun e w' => e = .returned (.bool false) ∧ w' = w := by
  have h1 : (1048576 : Int) < (len : Int) := by omega
  go_enter Eckg.func15, Eckg.ntmps15
  go_wp2
  go_ret
  exact ⟨rfl, rfl⟩

set_option maxHeartbeats 400000 in
theorem bytes21_yes (a : Option Addr) (len cap : Nat) (h : len ≤ 1048576) (w : World) :
    Calls Eckg.prog 21 #[.slice a len cap] w fun e w' => e = .returned (.bool true) ∧ w' = w := by
  have h1 : ¬ (1048576 : Int) < (len : Int) := by omega
  go_enter Eckg.func21, Eckg.ntmps21
  go_wp2
  go_ret
  exact ⟨rfl, rfl⟩
set_option maxHeartbeats 400000 in
theorem bytes21_no (a : Option Addr) (len cap : Nat) (h : 1048576 < len) (w : World) :
    Calls Eckg.prog 21 #[.slice a len cap] w fun e w' => e = .returned (.bool false) ∧ w' = w := by
  have h1 : (1048576 : Int) < (len : Int) := by omega
  go_enter Eckg.func21, Eckg.ntmps21
  go_wp2
  go_ret
  exact ⟨rfl, rfl⟩

set_option maxHeartbeats 400000 in
theorem bytes23_yes (a : Option Addr) (len cap : Nat) (h : len ≤ 1048576) (w : World) :
    Calls Eckg.prog 23 #[.slice a len cap] w fun e w' => e = .returned (.bool true) ∧ w' = w := by
  have h1 : ¬ (1048576 : Int) < (len : Int) := by omega
  go_enter Eckg.func23, Eckg.ntmps23
  go_wp2
  go_ret
  exact ⟨rfl, rfl⟩
set_option maxHeartbeats 400000 in
theorem bytes23_no (a : Option Addr) (len cap : Nat) (h : 1048576 < len) (w : World) :
    Calls Eckg.prog 23 #[.slice a len cap] w fun e w' => e = .returned (.bool false) ∧ w' = w := by
  have h1 : (1048576 : Int) < (len : Int) := by omega
  go_enter Eckg.func23, Eckg.ntmps23
  go_wp2
  go_ret
  exact ⟨rfl, rfl⟩

set_option maxHeartbeats 400000 in
theorem bytes24_yes (x y : Int) (a : Option Addr) (len cap : Nat) (h : len ≤ 1048576) (w : World) :
    Calls Eckg.prog 24 #[.int .i64 x, .int .i64 y, .slice a len cap] w fun e w' => e = .returned (.bool true) ∧ w' = w := by
  have h1 : ¬ (1048576 : Int) < (len : Int) := by omega
  go_enter Eckg.func24, Eckg.ntmps24
  go_wp2
  go_ret
  exact ⟨rfl, rfl⟩
set_option maxHeartbeats 400000 in
theorem bytes24_no (x y : Int) (a : Option Addr) (len cap : Nat) (h : 1048576 < len) (w : World) :
    Calls Eckg.prog 24 #[.int .i64 x, .int .i64 y, .slice a len cap] w fun e w' => e = .returned (.bool false) ∧ w' = w := by
  have h1 : (1048576 : Int) < (len : Int) := by omega
  go_enter Eckg.func24, Eckg.ntmps24
  go_wp2
  go_ret
  exact ⟨rfl, rfl⟩

set_option maxHeartbeats 400000 in
theorem bytes27_yes (x y z : Int) (a : Option Addr) (len cap : Nat) (h : len ≤ 1048576) (w : World) :
    Calls Eckg.prog 27 #[.int .i64 x, .int .i64 y, .int .i64 z, .slice a len cap] w fun e w' => e = .returned (.bool true) ∧ w' = w := by
  have h1 : ¬ (1048576 : Int) < (len : Int) := by omega
  go_enter Eckg.func27, Eckg.ntmps27
  go_wp2
  go_ret
  exact ⟨rfl, rfl⟩
set_option maxHeartbeats 400000 in
theorem bytes27_no (x y z : Int) (a : Option Addr) (len cap : Nat) (h : 1048576 < len) (w : World) :
    Calls Eckg.prog 27 #[.int .i64 x, .int .i64 y, .int .i64 z, .slice a len cap] w fun e w' => e = .returned (.bool false) ∧ w' = w := by
  have h1 : (1048576 : Int) < (len : Int) := by omega
  go_enter Eckg.func27, Eckg.ntmps27
  go_wp2
  go_ret
  exact ⟨rfl, rfl⟩


theorem info4 : (Eckg.prog.info? 4).map (fun i => (i.zero, i.size, i.bytes)) = some (some (.bool false), 1, 1) := by kernel_rfl

set_option maxHeartbeats 400000 in
theorem copyBools_nil (w : World) : Calls Eckg.prog 11 #[.slice none 0 0] w fun e w' => e = .returned (.slice none 0 0) ∧ w' = w := by
  have q : ∀ (w : World) (a : Option Addr) (n c n' c' : Nat), (binOp .eql 22 (.slice a n c) (.slice none n' c')).run Eckg.prog w = .ok (.bool a.isNone) w := fun w a n c n' c' => Lib.run_eql_slice_nil w _ _ a n c n' c' Eckg.underlying22
  go_enter Eckg.func11, Eckg.ntmps11
  go_wp2
  go_ret
  exact ⟨rfl, rfl⟩

set_option maxHeartbeats 400000 in
theorem copyBools_any (b off : Nat) (spot : Option Nat) (len cap : Nat) (V : Nat → Bool) (w : World) (hlen : len ≤ 4096) (hc : ∀ i, i < len → w.cell? ((⟨b, off, spot⟩ : Addr).add i) = some (.bool (V i))) :
    Calls Eckg.prog 11 #[.slice (some ⟨b, off, spot⟩) len cap] w fun e w' => e = .returned (.slice (some ⟨w.heap.size, 0, none⟩) len len) ∧ w'.rowIs w.heap.size 4 len (fun i => .bool (V i)) ∧ Below w.heap.size w w' := by
  have q : ∀ (w : World) (a : Option Addr) (n c n' c' : Nat), (binOp .eql 22 (.slice a n c) (.slice none n' c')).run Eckg.prog w = .ok (.bool a.isNone) w := fun w a n c n' c' => Lib.run_eql_slice_nil w _ _ a n c n' c' Eckg.underlying22
  have hmk := run_make_row' (P := Eckg.prog) 22 4 (.bool false) 1 Eckg.underlying22 info4 rfl .i64 .i64 len (by omega) (by omega)
  have HC := hide hc
  clear hc
  go_enter Eckg.func11, Eckg.ntmps11
  go_wp2
  have HR := hide (w.rowIs_made (.bool false) len 4)
  have HB := hide ((Below.refl w.heap.size w).alloc (Nat.le_refl _) (.cells (madeCells #[.bool false] len) 4))
  generalize hw1 : World.alloc w _ = w1
  rw [hw1] at HR HB
  clear hw1 hmk
  go_loopw [4] (fun i wr => ∃ k : Nat, k ≤ len ∧ i = .int .i64 k ∧ wr.rowIs w.heap.size 4 len (fun j => if j < k then .bool (V j) else .bool false) ∧ Below w.heap.size w wr) (fun i _ => len - (intOf i).toNat)
  case atStart => exact ⟨0, Nat.zero_le _, rfl, HR.out.congr (fun i _ => by simp), HB.out⟩
  case round =>
    obtain ⟨k, hk, rfl, hrow, hbel⟩ := hrel
    by_cases hlt : k < len
    · have hck := HC.out k hlt
      have hsp : spot = none := by simpa [Addr.add] using World.cell?_spot (HC.out 0 (by omega))
      subst hsp
      rw [add_none] at hck
      have hbW : b < w.heap.size := World.block_lt_of_cell? _ _ hck
      have c1 : wr.cell? ⟨b, off + k, none⟩ = some (.bool (V k)) := (hbel.cell (p := ⟨b, off + k, none⟩) hbW).trans hck
      have c2 := hrow.cell hlt
      have f2 := hrow.frozen k
      have hlti : (k : Int) < (len : Int) := by omega
      have HR2 := hide (hrow.set k (.bool (V k)))
      have HB2 := hide (hbel.setCell (p := ⟨w.heap.size, k, none⟩) (Nat.le_refl _) (.bool (V k)))
      clear hck hrow hbel
      go_wp2
      go_roundw
      case rel =>
        refine ⟨k + 1, by omega, by go_num, HR2.out.congr (fun j hj => ?_), HB2.out⟩
        by_cases hjk : j = k
        · subst hjk; simp
        · by_cases h1 : j < k
          · simp [hjk, h1, show j < k + 1 by omega]
          · simp [hjk, h1, show ¬ j < k + 1 by omega]
      case measure => simp [intOf]; omega
    · have hkl : k = len := by omega
      subst hkl
      have HR2 := hide hrow
      have HB2 := hide hbel
      clear hrow hbel
      go_wp2
      go_ret
      exact ⟨rfl, HR2.out.congr (fun j hj => by simp [hj]), HB2.out⟩

theorem info5 : (Eckg.prog.info? 5).map (fun i => (i.zero, i.size, i.bytes)) = some (some (.int .u8 0), 1, 1) := by kernel_rfl

set_option maxHeartbeats 400000 in
theorem copyBytes_nil (w : World) : Calls Eckg.prog 22 #[.slice none 0 0] w fun e w' => e = .returned (.slice none 0 0) ∧ w' = w := by
  have q : ∀ (w : World) (a : Option Addr) (n c n' c' : Nat), (binOp .eql 41 (.slice a n c) (.slice none n' c')).run Eckg.prog w = .ok (.bool a.isNone) w := fun w a n c n' c' => Lib.run_eql_slice_nil w _ _ a n c n' c' Eckg.underlying41
  go_enter Eckg.func22, Eckg.ntmps22
  go_wp2
  go_ret
  exact ⟨rfl, rfl⟩

set_option maxHeartbeats 400000 in
theorem copyBytes_any (b off : Nat) (spot : Option Nat) (len cap : Nat) (V : Nat → Int) (w : World) (hlen : len ≤ 4096) (hc : ∀ i, i < len → w.cell? ((⟨b, off, spot⟩ : Addr).add i) = some (.int .u8 (V i))) :
    Calls Eckg.prog 22 #[.slice (some ⟨b, off, spot⟩) len cap] w fun e w' => e = .returned (.slice (some ⟨w.heap.size, 0, none⟩) len len) ∧ w'.rowIs w.heap.size 5 len (fun i => .int .u8 (V i)) ∧ Below w.heap.size w w' := by
  have q : ∀ (w : World) (a : Option Addr) (n c n' c' : Nat), (binOp .eql 41 (.slice a n c) (.slice none n' c')).run Eckg.prog w = .ok (.bool a.isNone) w := fun w a n c n' c' => Lib.run_eql_slice_nil w _ _ a n c n' c' Eckg.underlying41
  have hmk := run_make_row' (P := Eckg.prog) 41 5 (.int .u8 0) 1 Eckg.underlying41 info5 rfl .i64 .i64 len (by omega) (by omega)
  have HC := hide hc
  clear hc
  go_enter Eckg.func22, Eckg.ntmps22
  go_wp2
  have HR := hide (w.rowIs_made (.int .u8 0) len 5)
  have HB := hide ((Below.refl w.heap.size w).alloc (Nat.le_refl _) (.cells (madeCells #[.int .u8 0] len) 5))
  generalize hw1 : World.alloc w _ = w1
  rw [hw1] at HR HB
  clear hw1 hmk
  go_loopw [4] (fun i wr => ∃ k : Nat, k ≤ len ∧ i = .int .i64 k ∧ wr.rowIs w.heap.size 5 len (fun j => if j < k then .int .u8 (V j) else .int .u8 0) ∧ Below w.heap.size w wr) (fun i _ => len - (intOf i).toNat)
  case atStart => exact ⟨0, Nat.zero_le _, rfl, HR.out.congr (fun i _ => by simp), HB.out⟩
  case round =>
    obtain ⟨k, hk, rfl, hrow, hbel⟩ := hrel
    by_cases hlt : k < len
    · have hck := HC.out k hlt
      have hsp : spot = none := by simpa [Addr.add] using World.cell?_spot (HC.out 0 (by omega))
      subst hsp
      rw [add_none] at hck
      have hbW : b < w.heap.size := World.block_lt_of_cell? _ _ hck
      have c1 : wr.cell? ⟨b, off + k, none⟩ = some (.int .u8 (V k)) := (hbel.cell (p := ⟨b, off + k, none⟩) hbW).trans hck
      have c2 := hrow.cell hlt
      have f2 := hrow.frozen k
      have hlti : (k : Int) < (len : Int) := by omega
      have HR2 := hide (hrow.set k (.int .u8 (V k)))
      have HB2 := hide (hbel.setCell (p := ⟨w.heap.size, k, none⟩) (Nat.le_refl _) (.int .u8 (V k)))
      clear hck hrow hbel
      go_wp2
      go_roundw
      case rel =>
        refine ⟨k + 1, by omega, by go_num, HR2.out.congr (fun j hj => ?_), HB2.out⟩
        by_cases hjk : j = k
        · subst hjk; simp
        · by_cases h1 : j < k
          · simp [hjk, h1, show j < k + 1 by omega]
          · simp [hjk, h1, show ¬ j < k + 1 by omega]
      case measure => simp [intOf]; omega
    · have hkl : k = len := by omega
      subst hkl
      have HR2 := hide hrow
      have HB2 := hide hbel
      clear hrow hbel
      go_wp2
      go_ret
      exact ⟨rfl, HR2.out.congr (fun j hj => by simp [hj]), HB2.out⟩

theorem info3 : (Eckg.prog.info? 3).map (fun i => (i.zero, i.size, i.bytes)) = some (some (.int .i64 0), 1, 8) := by kernel_rfl

set_option maxHeartbeats 400000 in
theorem copyInts_nil (w : World) : Calls Eckg.prog 25 #[.slice none 0 0] w fun e w' => e = .returned (.slice none 0 0) ∧ w' = w := by
  have q : ∀ (w : World) (a : Option Addr) (n c n' c' : Nat), (binOp .eql 44 (.slice a n c) (.slice none n' c')).run Eckg.prog w = .ok (.bool a.isNone) w := fun w a n c n' c' => Lib.run_eql_slice_nil w _ _ a n c n' c' Eckg.underlying44
  go_enter Eckg.func25, Eckg.ntmps25
  go_wp2
  go_ret
  exact ⟨rfl, rfl⟩

set_option maxHeartbeats 400000 in
theorem copyInts_any (b off : Nat) (spot : Option Nat) (len cap : Nat) (V : Nat → Int) (w : World) (hlen : len ≤ 4096) (hc : ∀ i, i < len → w.cell? ((⟨b, off, spot⟩ : Addr).add i) = some (.int .i64 (V i))) :
    Calls Eckg.prog 25 #[.slice (some ⟨b, off, spot⟩) len cap] w fun e w' => e = .returned (.slice (some ⟨w.heap.size, 0, none⟩) len len) ∧ w'.rowIs w.heap.size 3 len (fun i => .int .i64 (V i)) ∧ Below w.heap.size w w' := by
  have q : ∀ (w : World) (a : Option Addr) (n c n' c' : Nat), (binOp .eql 44 (.slice a n c) (.slice none n' c')).run Eckg.prog w = .ok (.bool a.isNone) w := fun w a n c n' c' => Lib.run_eql_slice_nil w _ _ a n c n' c' Eckg.underlying44
  have hmk := run_make_row' (P := Eckg.prog) 44 3 (.int .i64 0) 8 Eckg.underlying44 info3 rfl .i64 .i64 len (by omega) (by omega)
  have HC := hide hc
  clear hc
  go_enter Eckg.func25, Eckg.ntmps25
  go_wp2
  have HR := hide (w.rowIs_made (.int .i64 0) len 3)
  have HB := hide ((Below.refl w.heap.size w).alloc (Nat.le_refl _) (.cells (madeCells #[.int .i64 0] len) 3))
  generalize hw1 : World.alloc w _ = w1
  rw [hw1] at HR HB
  clear hw1 hmk
  go_loopw [4] (fun i wr => ∃ k : Nat, k ≤ len ∧ i = .int .i64 k ∧ wr.rowIs w.heap.size 3 len (fun j => if j < k then .int .i64 (V j) else .int .i64 0) ∧ Below w.heap.size w wr) (fun i _ => len - (intOf i).toNat)
  case atStart => exact ⟨0, Nat.zero_le _, rfl, HR.out.congr (fun i _ => by simp), HB.out⟩
  case round =>
    obtain ⟨k, hk, rfl, hrow, hbel⟩ := hrel
    by_cases hlt : k < len
    · have hck := HC.out k hlt
      have hsp : spot = none := by simpa [Addr.add] using World.cell?_spot (HC.out 0 (by omega))
      subst hsp
      rw [add_none] at hck
      have hbW : b < w.heap.size := World.block_lt_of_cell? _ _ hck
      have c1 : wr.cell? ⟨b, off + k, none⟩ = some (.int .i64 (V k)) := (hbel.cell (p := ⟨b, off + k, none⟩) hbW).trans hck
      have c2 := hrow.cell hlt
      have f2 := hrow.frozen k
      have hlti : (k : Int) < (len : Int) := by omega
      have HR2 := hide (hrow.set k (.int .i64 (V k)))
      have HB2 := hide (hbel.setCell (p := ⟨w.heap.size, k, none⟩) (Nat.le_refl _) (.int .i64 (V k)))
      clear hck hrow hbel
      go_wp2
      go_roundw
      case rel =>
        refine ⟨k + 1, by omega, by go_num, HR2.out.congr (fun j hj => ?_), HB2.out⟩
        by_cases hjk : j = k
        · subst hjk; simp
        · by_cases h1 : j < k
          · simp [hjk, h1, show j < k + 1 by omega]
          · simp [hjk, h1, show ¬ j < k + 1 by omega]
      case measure => simp [intOf]; omega
    · have hkl : k = len := by omega
      subst hkl
      have HR2 := hide hrow
      have HB2 := hide hbel
      clear hrow hbel
      go_wp2
      go_ret
      exact ⟨rfl, HR2.out.congr (fun j hj => by simp [hj]), HB2.out⟩

/-- Whatever slice came in: nil, or its cells known. -/
theorem copyBools_all (ao : Option Addr) (len cap : Nat) (V : Nat → Bool) (w : World) (hlen : len ≤ 4096)
    (h : (ao = none ∧ len = 0 ∧ cap = 0) ∨ ∃ a, ao = some a ∧ ∀ i, i < len → w.cell? (a.add i) = some (.bool (V i))) :
    Calls Eckg.prog 11 #[.slice ao len cap] w fun e w' => ∃ ao', e = .returned (.slice ao' len len) ∧ (0 < len → ao' = some ⟨w.heap.size, 0, none⟩ ∧ w'.rowIs w.heap.size 4 len (fun i => .bool (V i))) ∧ Below w.heap.size w w' := by
  rcases h with ⟨rfl, rfl, rfl⟩ | ⟨a, rfl, hc⟩
  · refine (copyBools_nil w).mono ?_
    rintro e w' ⟨rfl, rfl⟩
    exact ⟨none, rfl, fun h => absurd h (by omega), Below.refl _ _⟩
  · obtain ⟨b, off, spot⟩ := a
    refine (copyBools_any b off spot len cap V w hlen hc).mono ?_
    rintro e w' ⟨rfl, hr, hb⟩
    exact ⟨_, rfl, fun _ => ⟨rfl, hr⟩, hb⟩

/-- Whatever slice came in: nil, or its cells known. -/
theorem copyBytes_all (ao : Option Addr) (len cap : Nat) (V : Nat → Int) (w : World) (hlen : len ≤ 4096)
    (h : (ao = none ∧ len = 0 ∧ cap = 0) ∨ ∃ a, ao = some a ∧ ∀ i, i < len → w.cell? (a.add i) = some (.int .u8 (V i))) :
    Calls Eckg.prog 22 #[.slice ao len cap] w fun e w' => ∃ ao', e = .returned (.slice ao' len len) ∧ (0 < len → ao' = some ⟨w.heap.size, 0, none⟩ ∧ w'.rowIs w.heap.size 5 len (fun i => .int .u8 (V i))) ∧ Below w.heap.size w w' := by
  rcases h with ⟨rfl, rfl, rfl⟩ | ⟨a, rfl, hc⟩
  · refine (copyBytes_nil w).mono ?_
    rintro e w' ⟨rfl, rfl⟩
    exact ⟨none, rfl, fun h => absurd h (by omega), Below.refl _ _⟩
  · obtain ⟨b, off, spot⟩ := a
    refine (copyBytes_any b off spot len cap V w hlen hc).mono ?_
    rintro e w' ⟨rfl, hr, hb⟩
    exact ⟨_, rfl, fun _ => ⟨rfl, hr⟩, hb⟩

/-- Whatever slice came in: nil, or its cells known. -/
theorem copyInts_all (ao : Option Addr) (len cap : Nat) (V : Nat → Int) (w : World) (hlen : len ≤ 4096)
    (h : (ao = none ∧ len = 0 ∧ cap = 0) ∨ ∃ a, ao = some a ∧ ∀ i, i < len → w.cell? (a.add i) = some (.int .i64 (V i))) :
    Calls Eckg.prog 25 #[.slice ao len cap] w fun e w' => ∃ ao', e = .returned (.slice ao' len len) ∧ (0 < len → ao' = some ⟨w.heap.size, 0, none⟩ ∧ w'.rowIs w.heap.size 3 len (fun i => .int .i64 (V i))) ∧ Below w.heap.size w w' := by
  rcases h with ⟨rfl, rfl, rfl⟩ | ⟨a, rfl, hc⟩
  · refine (copyInts_nil w).mono ?_
    rintro e w' ⟨rfl, rfl⟩
    exact ⟨none, rfl, fun h => absurd h (by omega), Below.refl _ _⟩
  · obtain ⟨b, off, spot⟩ := a
    refine (copyInts_any b off spot len cap V w hlen hc).mono ?_
    rintro e w' ⟨rfl, hr, hb⟩
    exact ⟨_, rfl, fun _ => ⟨rfl, hr⟩, hb⟩

end Go.Proofs.Yoeckw
