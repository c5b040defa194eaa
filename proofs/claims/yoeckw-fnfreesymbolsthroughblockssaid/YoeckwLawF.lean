/-
  THE WALKS OF FnFreeSymbolsCaptureOrder AND FnFreeSymbolsThroughBlocks, out of zzFreeScriptB2's contract.
-/
import Derived.Test.YoeckwScript4
namespace Go.Proofs.Yoeckw
open Go.RowKit

/-- The slice that the copy hands on, as the script's contract asks it. -/
theorem copied {w w1 : World} {ao' : Option Addr} {len : Nat} {V : Nat → Int} (h : 0 < len → ao' = some ⟨w.heap.size, 0, none⟩ ∧ w1.rowIs w.heap.size 3 len (fun i => .int .i64 (V i))) :
    0 < len → ∃ b, ao' = some ⟨b, 0, none⟩ ∧ w1.rowIs b 3 len (fun i => .int .i64 (V i)) := fun hl => ⟨_, (h hl).1, (h hl).2⟩

set_option maxHeartbeats 400000 in
theorem lawF_in (nL nG : Nat) (ao : Option Addr) (len cap : Nat) (V : Nat → Int) (w : World) (hnL : nL ≤ 4096) (hnG : nG ≤ 4096) (hlen : len ≤ 4096) (hV : ∀ i, -9223372036854775808 ≤ V i ∧ V i ≤ 9223372036854775807)
    (h : (ao = none ∧ len = 0 ∧ cap = 0) ∨ ∃ a, ao = some a ∧ ∀ i, i < len → w.cell? (a.add i) = some (.int .i64 (V i))) :
    Calls Eckg.prog 8 #[.int .i64 nL, .int .i64 nG, .slice ao len cap] w fun e w' => e = .returned (.bool true) ∧ Below w.heap.size w w' := by
  have hd : decide ((4096 : Int) < (len : Int)) = false := by simp; omega
  have hl0 : decide ((nL : Int) < 0) = false := by simp
  have hl1 : decide ((4096 : Int) < (nL : Int)) = false := by simp; omega
  have hg0 : decide ((nG : Int) < 0) = false := by simp
  have hg1 : decide ((4096 : Int) < (nG : Int)) = false := by simp; omega
  have HC := hide (copyInts_all ao len cap V w hlen h)
  have HV := hide hV
  clear h hV
  go_enter Eckg.func8, Eckg.ntmps8
  go_wp2_with (go_at_call 24; refine (bytes24_yes _ _ _ _ _ (by omega) _).mono ?_; rintro e w' ⟨rfl, hw'⟩; replace hw' := hw'.symm; subst hw')
  go_at_call 25
  refine HC.out.mono ?_
  rintro e w1 ⟨ao', rfl, hrow, hbel⟩
  have HS := hide (script_any nL nG 0 len ao' V w1 hnL hnG (by omega) hlen HV.out (copied hrow))
  have HB := hide hbel
  clear hrow hbel HC
  go_wp2_with fail
  go_at_call 26
  refine HS.out.mono ?_
  rintro e w2 ⟨rfl, hb2⟩
  have HB2 := hide (HB.out.trans (hb2.mono HB.out.size))
  clear hb2
  go_wp2_with fail
  go_ret
  exact ⟨rfl, HB2.out⟩

set_option maxHeartbeats 400000 in
theorem lawF_long (x y : Int) (ao : Option Addr) (len cap : Nat) (w : World) (hlen : 1048576 < len) :
    Calls Eckg.prog 8 #[.int .i64 x, .int .i64 y, .slice ao len cap] w fun e w' => e = .returned (.bool true) ∧ Below w.heap.size w w' := by
  go_enter Eckg.func8, Eckg.ntmps8
  go_wp2_with (go_at_call 24; refine (bytes24_no _ _ _ _ _ (by omega) _).mono ?_; rintro e w' ⟨rfl, hw'⟩; replace hw' := hw'.symm; subst hw')
  go_ret
  exact ⟨rfl, Below.refl _ _⟩

set_option maxHeartbeats 400000 in
theorem lawF_mid (x y : Int) (ao : Option Addr) (len cap : Nat) (w : World) (h1 : len ≤ 1048576) (h2 : 4096 < len) :
    Calls Eckg.prog 8 #[.int .i64 x, .int .i64 y, .slice ao len cap] w fun e w' => e = .returned (.bool true) ∧ Below w.heap.size w w' := by
  have h4 : (4096 : Int) < (len : Int) := by omega
  go_enter Eckg.func8, Eckg.ntmps8
  go_wp2_with (go_at_call 24; refine (bytes24_yes _ _ _ _ _ (by omega) _).mono ?_; rintro e w' ⟨rfl, hw'⟩; replace hw' := hw'.symm; subst hw')
  go_ret
  exact ⟨rfl, Below.refl _ _⟩

set_option maxHeartbeats 400000 in
theorem lawF_out (x y : Int) (ao : Option Addr) (len cap : Nat) (w : World) (hlen : len ≤ 4096) (h : x < 0 ∨ 4096 < x ∨ y < 0 ∨ 4096 < y) :
    Calls Eckg.prog 8 #[.int .i64 x, .int .i64 y, .slice ao len cap] w fun e w' => e = .returned (.bool true) ∧ Below w.heap.size w w' := by
  have hd : decide ((4096 : Int) < (len : Int)) = false := by simp; omega
  by_cases h1 : x < 0
  · have b1 : decide (x < 0) = true := by simp [h1]
    clear h h1
    go_enter Eckg.func8, Eckg.ntmps8
    go_wp2_with (go_at_call 24; refine (bytes24_yes _ _ _ _ _ (by omega) _).mono ?_; rintro e w' ⟨rfl, hw'⟩; replace hw' := hw'.symm; subst hw')
    go_ret
    exact ⟨rfl, Below.refl _ _⟩
  · have b1 : decide (x < 0) = false := by simp; omega
    by_cases h2 : 4096 < x
    · have b2 : decide (4096 < x) = true := by simp [h2]
      clear h h1 h2
      go_enter Eckg.func8, Eckg.ntmps8
      go_wp2_with (go_at_call 24; refine (bytes24_yes _ _ _ _ _ (by omega) _).mono ?_; rintro e w' ⟨rfl, hw'⟩; replace hw' := hw'.symm; subst hw')
      go_ret
      exact ⟨rfl, Below.refl _ _⟩
    · have b2 : decide (4096 < x) = false := by simp; omega
      by_cases h3 : y < 0
      · have b3 : decide (y < 0) = true := by simp [h3]
        clear h h1 h2 h3
        go_enter Eckg.func8, Eckg.ntmps8
        go_wp2_with (go_at_call 24; refine (bytes24_yes _ _ _ _ _ (by omega) _).mono ?_; rintro e w' ⟨rfl, hw'⟩; replace hw' := hw'.symm; subst hw')
        go_ret
        exact ⟨rfl, Below.refl _ _⟩
      · have b3 : decide (y < 0) = false := by simp; omega
        have b4 : decide (4096 < y) = true := by simp; omega
        clear h h1 h2 h3
        go_enter Eckg.func8, Eckg.ntmps8
        go_wp2_with (go_at_call 24; refine (bytes24_yes _ _ _ _ _ (by omega) _).mono ?_; rintro e w' ⟨rfl, hw'⟩; replace hw' := hw'.symm; subst hw')
        go_ret
        exact ⟨rfl, Below.refl _ _⟩

/-- FnFreeSymbolsCaptureOrder returns true and leaves old memory alone. -/
theorem lawF_any (x y : Int) (ao : Option Addr) (len cap : Nat) (V : Nat → Int) (w : World) (hV : ∀ i, -9223372036854775808 ≤ V i ∧ V i ≤ 9223372036854775807)
    (h : (ao = none ∧ len = 0 ∧ cap = 0) ∨ ∃ a, ao = some a ∧ ∀ i, i < len → w.cell? (a.add i) = some (.int .i64 (V i))) :
    Calls Eckg.prog 8 #[.int .i64 x, .int .i64 y, .slice ao len cap] w fun e w' => e = .returned (.bool true) ∧ Below w.heap.size w w' := by
  by_cases h1 : 1048576 < len
  · exact lawF_long x y ao len cap w h1
  · by_cases h2 : 4096 < len
    · exact lawF_mid x y ao len cap w (by omega) h2
    · by_cases h3 : x < 0 ∨ 4096 < x ∨ y < 0 ∨ 4096 < y
      · exact lawF_out x y ao len cap w (by omega) h3
      · obtain ⟨nL, rfl⟩ := Int.eq_ofNat_of_zero_le (show 0 ≤ x by omega)
        obtain ⟨nG, rfl⟩ := Int.eq_ofNat_of_zero_le (show 0 ≤ y by omega)
        exact lawF_in nL nG ao len cap V w (by omega) (by omega) (by omega) hV h

set_option maxHeartbeats 400000 in
theorem lawG_in (nL nG D : Nat) (ao : Option Addr) (len cap : Nat) (V : Nat → Int) (w : World) (hnL : nL ≤ 4096) (hnG : nG ≤ 4096) (hD : D ≤ 4096) (hlen : len ≤ 4096) (hV : ∀ i, -9223372036854775808 ≤ V i ∧ V i ≤ 9223372036854775807)
    (h : (ao = none ∧ len = 0 ∧ cap = 0) ∨ ∃ a, ao = some a ∧ ∀ i, i < len → w.cell? (a.add i) = some (.int .i64 (V i))) :
    Calls Eckg.prog 9 #[.int .i64 nL, .int .i64 nG, .int .i64 D, .slice ao len cap] w fun e w' => e = .returned (.bool true) ∧ Below w.heap.size w w' := by
  have hd : decide ((4096 : Int) < (len : Int)) = false := by simp; omega
  have hl0 : decide ((nL : Int) < 0) = false := by simp
  have hl1 : decide ((4096 : Int) < (nL : Int)) = false := by simp; omega
  have hg0 : decide ((nG : Int) < 0) = false := by simp
  have hg1 : decide ((4096 : Int) < (nG : Int)) = false := by simp; omega
  have hz0 : decide ((D : Int) < 0) = false := by simp
  have hz1 : decide ((4096 : Int) < (D : Int)) = false := by simp; omega
  have HC := hide (copyInts_all ao len cap V w hlen h)
  have HV := hide hV
  clear h hV
  go_enter Eckg.func9, Eckg.ntmps9
  go_wp2_with (go_at_call 27; refine (bytes27_yes _ _ _ _ _ _ (by omega) _).mono ?_; rintro e w' ⟨rfl, hw'⟩; replace hw' := hw'.symm; subst hw')
  go_at_call 25
  refine HC.out.mono ?_
  rintro e w1 ⟨ao', rfl, hrow, hbel⟩
  have HS := hide (script_any nL nG D len ao' V w1 hnL hnG hD hlen HV.out (copied hrow))
  have HB := hide hbel
  clear hrow hbel HC
  go_wp2_with fail
  go_at_call 26
  refine HS.out.mono ?_
  rintro e w2 ⟨rfl, hb2⟩
  have HB2 := hide (HB.out.trans (hb2.mono HB.out.size))
  clear hb2
  go_wp2_with fail
  go_ret
  exact ⟨rfl, HB2.out⟩

set_option maxHeartbeats 400000 in
theorem lawG_long (x y z : Int) (ao : Option Addr) (len cap : Nat) (w : World) (hlen : 1048576 < len) :
    Calls Eckg.prog 9 #[.int .i64 x, .int .i64 y, .int .i64 z, .slice ao len cap] w fun e w' => e = .returned (.bool true) ∧ Below w.heap.size w w' := by
  go_enter Eckg.func9, Eckg.ntmps9
  go_wp2_with (go_at_call 27; refine (bytes27_no _ _ _ _ _ _ (by omega) _).mono ?_; rintro e w' ⟨rfl, hw'⟩; replace hw' := hw'.symm; subst hw')
  go_ret
  exact ⟨rfl, Below.refl _ _⟩

set_option maxHeartbeats 400000 in
theorem lawG_mid (x y z : Int) (ao : Option Addr) (len cap : Nat) (w : World) (h1 : len ≤ 1048576) (h2 : 4096 < len) :
    Calls Eckg.prog 9 #[.int .i64 x, .int .i64 y, .int .i64 z, .slice ao len cap] w fun e w' => e = .returned (.bool true) ∧ Below w.heap.size w w' := by
  have h4 : (4096 : Int) < (len : Int) := by omega
  go_enter Eckg.func9, Eckg.ntmps9
  go_wp2_with (go_at_call 27; refine (bytes27_yes _ _ _ _ _ _ (by omega) _).mono ?_; rintro e w' ⟨rfl, hw'⟩; replace hw' := hw'.symm; subst hw')
  go_ret
  exact ⟨rfl, Below.refl _ _⟩

set_option maxHeartbeats 400000 in
theorem lawG_out (x y z : Int) (ao : Option Addr) (len cap : Nat) (w : World) (hlen : len ≤ 4096) (h : x < 0 ∨ 4096 < x ∨ y < 0 ∨ 4096 < y ∨ z < 0 ∨ 4096 < z) :
    Calls Eckg.prog 9 #[.int .i64 x, .int .i64 y, .int .i64 z, .slice ao len cap] w fun e w' => e = .returned (.bool true) ∧ Below w.heap.size w w' := by
  have hd : decide ((4096 : Int) < (len : Int)) = false := by simp; omega
  by_cases h1 : x < 0
  · have b1 : decide (x < 0) = true := by simp [h1]
    clear h h1
    go_enter Eckg.func9, Eckg.ntmps9
    go_wp2_with (go_at_call 27; refine (bytes27_yes _ _ _ _ _ _ (by omega) _).mono ?_; rintro e w' ⟨rfl, hw'⟩; replace hw' := hw'.symm; subst hw')
    go_ret
    exact ⟨rfl, Below.refl _ _⟩
  · have b1 : decide (x < 0) = false := by simp; omega
    by_cases h2 : 4096 < x
    · have b2 : decide (4096 < x) = true := by simp [h2]
      clear h h1 h2
      go_enter Eckg.func9, Eckg.ntmps9
      go_wp2_with (go_at_call 27; refine (bytes27_yes _ _ _ _ _ _ (by omega) _).mono ?_; rintro e w' ⟨rfl, hw'⟩; replace hw' := hw'.symm; subst hw')
      go_ret
      exact ⟨rfl, Below.refl _ _⟩
    · have b2 : decide (4096 < x) = false := by simp; omega
      by_cases h3 : y < 0
      · have b3 : decide (y < 0) = true := by simp [h3]
        clear h h1 h2 h3
        go_enter Eckg.func9, Eckg.ntmps9
        go_wp2_with (go_at_call 27; refine (bytes27_yes _ _ _ _ _ _ (by omega) _).mono ?_; rintro e w' ⟨rfl, hw'⟩; replace hw' := hw'.symm; subst hw')
        go_ret
        exact ⟨rfl, Below.refl _ _⟩
      · have b3 : decide (y < 0) = false := by simp; omega
        by_cases h4 : 4096 < y
        · have b4 : decide (4096 < y) = true := by simp [h4]
          clear h h1 h2 h3 h4
          go_enter Eckg.func9, Eckg.ntmps9
          go_wp2_with (go_at_call 27; refine (bytes27_yes _ _ _ _ _ _ (by omega) _).mono ?_; rintro e w' ⟨rfl, hw'⟩; replace hw' := hw'.symm; subst hw')
          go_ret
          exact ⟨rfl, Below.refl _ _⟩
        · have b4 : decide (4096 < y) = false := by simp; omega
          by_cases h5 : z < 0
          · have b5 : decide (z < 0) = true := by simp [h5]
            clear h h1 h2 h3 h4 h5
            go_enter Eckg.func9, Eckg.ntmps9
            go_wp2_with (go_at_call 27; refine (bytes27_yes _ _ _ _ _ _ (by omega) _).mono ?_; rintro e w' ⟨rfl, hw'⟩; replace hw' := hw'.symm; subst hw')
            go_ret
            exact ⟨rfl, Below.refl _ _⟩
          · have b5 : decide (z < 0) = false := by simp; omega
            have b6 : decide (4096 < z) = true := by simp; omega
            clear h h1 h2 h3 h4 h5
            go_enter Eckg.func9, Eckg.ntmps9
            go_wp2_with (go_at_call 27; refine (bytes27_yes _ _ _ _ _ _ (by omega) _).mono ?_; rintro e w' ⟨rfl, hw'⟩; replace hw' := hw'.symm; subst hw')
            go_ret
            exact ⟨rfl, Below.refl _ _⟩

/-- FnFreeSymbolsThroughBlocks returns true and leaves old memory alone. -/
theorem lawG_any (x y z : Int) (ao : Option Addr) (len cap : Nat) (V : Nat → Int) (w : World) (hV : ∀ i, -9223372036854775808 ≤ V i ∧ V i ≤ 9223372036854775807)
    (h : (ao = none ∧ len = 0 ∧ cap = 0) ∨ ∃ a, ao = some a ∧ ∀ i, i < len → w.cell? (a.add i) = some (.int .i64 (V i))) :
    Calls Eckg.prog 9 #[.int .i64 x, .int .i64 y, .int .i64 z, .slice ao len cap] w fun e w' => e = .returned (.bool true) ∧ Below w.heap.size w w' := by
  by_cases h1 : 1048576 < len
  · exact lawG_long x y z ao len cap w h1
  · by_cases h2 : 4096 < len
    · exact lawG_mid x y z ao len cap w (by omega) h2
    · by_cases h3 : x < 0 ∨ 4096 < x ∨ y < 0 ∨ 4096 < y ∨ z < 0 ∨ 4096 < z
      · exact lawG_out x y z ao len cap w (by omega) h3
      · obtain ⟨nL, rfl⟩ := Int.eq_ofNat_of_zero_le (show 0 ≤ x by omega)
        obtain ⟨nG, rfl⟩ := Int.eq_ofNat_of_zero_le (show 0 ≤ y by omega)
        obtain ⟨D, rfl⟩ := Int.eq_ofNat_of_zero_le (show 0 ≤ z by omega)
        exact lawG_in nL nG D ao len cap V w (by omega) (by omega) (by omega) (by omega) hV h

end Go.Proofs.Yoeckw
