/-
  THE WALK OF zzItoaB2: a number in decimal.
-/
import Derived.Test.YoeckwBase
import Derived.Deep.OwnRows
namespace Go.Proofs.Yoeckw
open Go.RowKit

def digs : Nat → Nat → List Int
  | 0, _ => []
  | f + 1, n => if n = 0 then [] else digs f (n / 10) ++ [48 + ((n % 10 : Nat) : Int)]

def itoa (n : Nat) : ByteArray := strOfNums (if n = 0 then [48] else digs 20 n)

theorem digs_zero (f : Nat) : digs f 0 = [] := by cases f <;> simp [digs]

set_option maxHeartbeats 400000 in
theorem itoa_zero (w : World) :
    Calls Eckg.prog 18 #[.int .i64 (0 : Nat)] w fun e w' => e = .returned (.string (itoa 0)) ∧ Below w.heap.size w w' := by
  go_enter Eckg.func18, Eckg.ntmps18
  go_wp2
  go_ret
  exact ⟨rfl, Below.refl _ _⟩

theorem size5 : (Eckg.prog.info? 5).map (fun i => i.size) = some 1 := by kernel_rfl
theorem run_slice52 (w : World) (b c : Nat) (hc : c < 20) :
    (Instr.sliceAt 52 (.pointer (some ⟨b, 0, none⟩)) (some (.int .i64 (c : Int))) none none).run Eckg.prog w = .ok (.slice (some ⟨b, c, none⟩) (20 - c) (20 - c)) w := by
  have ht : Eckg.prog.underlying 52 = some (.array (Eckg.prog.arrayLen 52) (Eckg.prog.elem 52)) := by kernel_rfl
  have ha : Eckg.prog.arrayLen 52 = 20 := by kernel_rfl
  have he : Eckg.prog.elem 52 = 5 := by kernel_rfl
  obtain ⟨i, hi, hs⟩ := Option.map_eq_some_iff.1 size5
  rw [run_sliceAt_array_l w 52 ⟨b, 0, none⟩ ht .i64 (c : Int) (by omega) (by rw [ha]; omega), he, ha]
  have hne : ¬ (20 : Nat) = c := by omega
  simp [sizeOf, typeInfo, hi, hs, slicedAt, Addr.add, hne]
  exact Eq.symm

set_option maxHeartbeats 400000 in
theorem itoa_pos (n : Nat) (h0 : 0 < n) (hn : n ≤ 4096) (w : World) :
    Calls Eckg.prog 18 #[.int .i64 n] w fun e w' => e = .returned (.string (itoa n)) ∧ Below w.heap.size w w' := by
  have hp : (0 : Int) < (n : Int) := by omega
  have hd : decide (n = 0) = false := by simp; omega
  have hit : itoa n = strOfNums (digs 20 n) := by unfold itoa; rw [if_neg (by omega)]
  rw [hit]
  clear hit
  go_enter Eckg.func18, Eckg.ntmps18
  go_wp2
  have HR : Hid ((w.alloc (.cells #[.int .u8 0, .int .u8 0, .int .u8 0, .int .u8 0, .int .u8 0, .int .u8 0, .int .u8 0, .int .u8 0, .int .u8 0, .int .u8 0, .int .u8 0, .int .u8 0, .int .u8 0, .int .u8 0, .int .u8 0, .int .u8 0, .int .u8 0, .int .u8 0, .int .u8 0, .int .u8 0] 52)).rowIs w.heap.size 52 20 (fun _ => .int .u8 0)) := by
    refine World.rowIs_alloc w _ 52 _ fun i hi => ?_
    match i, hi with
    | 0, _ | 1, _ | 2, _ | 3, _ | 4, _ | 5, _ | 6, _ | 7, _ | 8, _ | 9, _ | 10, _ | 11, _ | 12, _ | 13, _ | 14, _ | 15, _ | 16, _ | 17, _ | 18, _ | 19, _ => rfl
    | k + 20, hi => exact absurd hi (by simp)
  have HB := hide ((Below.refl w.heap.size w).alloc (Nat.le_refl _) (.cells #[.int .u8 0, .int .u8 0, .int .u8 0, .int .u8 0, .int .u8 0, .int .u8 0, .int .u8 0, .int .u8 0, .int .u8 0, .int .u8 0, .int .u8 0, .int .u8 0, .int .u8 0, .int .u8 0, .int .u8 0, .int .u8 0, .int .u8 0, .int .u8 0, .int .u8 0, .int .u8 0] 52))
  generalize hw1 : World.alloc w _ = w1
  rw [hw1] at HR HB
  clear hw1
  go_loopw [0, 4] (fun nv iv wr => ∃ (m c : Nat) (suf : List Int), m ≤ n ∧ suf.length + c = 20 ∧ m < 10 ^ c ∧ nv = .int .i64 m ∧ iv = .int .i64 c ∧ digs 20 n = digs c m ++ suf ∧
      wr.rowIs w.heap.size 52 20 (fun j => if j < c then .int .u8 0 else .int .u8 (suf.getD (j - c) 0)) ∧ Below w.heap.size w wr) (fun nv _ _ => (intOf nv).toNat)
  case atStart => exact ⟨n, 20, [], Nat.le_refl _, rfl, by omega, rfl, rfl, by simp, HR.out.congr fun i hi => by simp [hi], HB.out⟩
  case round =>
    obtain ⟨m, c, suf, hmn, hlen, hpow, rfl, rfl, hdig, hrow, hbel⟩ := hrel
    by_cases hm : m = 0
    · subst hm
      have hdig' : digs 20 n = suf := by rw [hdig, digs_zero]; rfl
      have HD := hide hdig'
      have HBEL := hide hbel
      have hcv := run_convert_bytes_arg (P := Eckg.prog) wr 41 5 Eckg.underlying41 Eckg.underlying5 w.heap.size c (20 - c) (20 - c) suf (by omega) (fun i hi => by
        rw [hrow.cell (i := c + i) (by omega), if_neg (by omega), Nat.add_sub_cancel_left])
      have hcv9 := hcv 9 Eckg.underlying9
      have hc20 : c < 20 := by
        have hne : digs 20 n ≠ [] := by simp only [digs, if_neg (show ¬ n = 0 by omega)]; simp
        rw [hdig'] at hne
        have := List.length_pos_iff.2 hne
        omega
      have hsl := run_slice52 wr w.heap.size c hc20
      clear hdig hdig' hrow hbel hpow hcv
      go_wp2
      go_ret
      rw [HD.out]
      exact ⟨rfl, HBEL.out⟩
    · obtain ⟨c', rfl⟩ : ∃ c', c = c' + 1 := ⟨c - 1, by cases c with | zero => simp at hpow; omega | succ c => rfl⟩
      have hmi : (0 : Int) < (m : Int) := by omega
      have c1 := hrow.cell (i := c') (by omega)
      rw [if_pos (by omega)] at c1
      have f1 := hrow.frozen c'
      have HD := hide hdig
      have HP := hide hpow
      have HRW := hide (hrow.set c' (.int .u8 (48 + ((m % 10 : Nat) : Int))))
      have HBL := hide (hbel.setCell (p := ⟨w.heap.size, c', none⟩) (Nat.le_refl _) (.int .u8 (48 + ((m % 10 : Nat) : Int))))
      clear hdig hpow hrow hbel
      have hc20 : c' < 20 := by omega
      go_wp2
      go_roundw
      case rel =>
        refine ⟨m / 10, c', (48 + ((m % 10 : Nat) : Int)) :: suf, by omega, by simp; omega, ?_, rfl, rfl, ?_, HRW.out.congr fun j hj => ?_, HBL.out⟩
        · have := HP.out
          rw [Nat.pow_succ] at this
          omega
        · rw [HD.out, digs, if_neg hm]
          simp
        · by_cases h1 : j = c'
          · subst h1; simp
          · by_cases h2 : j < c'
            · simp [h1, h2, show j < c' + 1 by omega]
            · rw [if_neg h1, if_neg (by omega), if_neg h2]
              rw [show j - c' = (j - (c' + 1)) + 1 by omega]
              simp
      case measure => simp [intOf]; omega

/-- zzItoaB2. -/
theorem itoa_any (n : Nat) (hn : n ≤ 4096) (w : World) :
    Calls Eckg.prog 18 #[.int .i64 n] w fun e w' => e = .returned (.string (itoa n)) ∧ Below w.heap.size w w' := by
  by_cases h : n = 0
  · subst h; exact itoa_zero w
  · exact itoa_pos n (by omega) hn w

end Go.Proofs.Yoeckw
