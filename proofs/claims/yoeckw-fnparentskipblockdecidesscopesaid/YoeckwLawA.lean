/-
  THE WALK OF FnForkParentChain.
-/
import Derived.Test.YoeckwCalls
import Derived.Test.YoeckwSmall
import Derived.Test.YoeckwPtr
namespace Go.Proofs.Yoeckw
open Go.RowKit

/-- The fork chain: the k-th table first. -/
def chainOf (B : Nat) (V : Nat → Bool) : Nat → List Tb
  | 0 => [fresh B false]
  | k + 1 => fresh (B + 2 * (k + 1)) (V k) :: chainOf B V k

theorem chainOf_le (B : Nat) (V : Nat → Bool) : ∀ k, ∀ p ∈ chainOf B V k, p.b ≤ B + 2 * k
  | 0, p, h => by simp [chainOf] at h; subst h; simp [fresh]
  | k + 1, p, h => by
    simp only [chainOf, List.mem_cons] at h
    rcases h with rfl | h
    · simp [fresh]
    · have := chainOf_le B V k p h; omega

theorem chainOf_ge (B : Nat) (V : Nat → Bool) : ∀ k, ∀ p ∈ chainOf B V k, B ≤ p.b
  | 0, p, h => by simp [chainOf] at h; subst h; simp [fresh]
  | k + 1, p, h => by
    simp only [chainOf, List.mem_cons] at h
    rcases h with rfl | h
    · simp [fresh]
    · exact chainOf_ge B V k p h

theorem up_chainOf (B : Nat) (V : Nat → Bool) (k : Nat) : up (chainOf B V k) = some ⟨B + 2 * k + 1, 0, none⟩ := by
  cases k <;> simp [chainOf, up, fresh]

/-- The nearest table that is no block, as the law's own scan finds it: behind round k - 1. -/
def ownOf (V : Nat → Bool) : Nat → Nat
  | 0 => 0
  | k + 1 => if 0 < k ∧ V (k - 1) = false then k else ownOf V k

theorem ownOf_le (V : Nat → Bool) : ∀ k, ownOf V (k + 1) ≤ k
  | 0 => by simp [ownOf]
  | k + 1 => by
    rw [ownOf]
    have := ownOf_le V k
    split <;> omega

theorem par_true (B : Nat) (V : Nat → Bool) : ∀ k, parOf true (chainOf B V k) = if ownOf V (k + 1) = 0 then none else some ⟨B + 2 * (ownOf V (k + 1) - 1) + 1, 0, none⟩
  | 0 => by simp [chainOf, parOf, fresh, up, ownOf]
  | k + 1 => by
    have ih := par_true B V k
    rw [ownOf]
    simp only [chainOf, parOf]
    cases hv : V k
    · simp [fresh, up_chainOf, hv]
    · simpa [fresh, hv] using ih

theorem par_false (B : Nat) (V : Nat → Bool) : ∀ k, parOf false (chainOf B V k) = if k = 0 then none else some ⟨B + 2 * (k - 1) + 1, 0, none⟩
  | 0 => by simp [chainOf, parOf, up]
  | k + 1 => by simp [chainOf, parOf, up_chainOf]

theorem info26 : (Eckg.prog.info? 26).map (fun i => (i.zero, i.size, i.bytes)) = some (some (.pointer none), 1, 8) := by kernel_rfl

structure InvA (w wr : World) (T len : Nat) (ao' : Option Addr) (V : Nat → Bool) (k : Nat) : Prop where
  chain : Chain wr (chainOf (T + 1) V k)
  size : wr.heap.size = T + 1 + 2 * (k + 1)
  ts : wr.rowIs T 26 (len + 1) (fun j => if j ≤ k then .pointer (some ⟨T + 1 + 2 * j + 1, 0, none⟩) else .pointer none)
  bs : 0 < len → ao' = some ⟨w.heap.size, 0, none⟩ ∧ w.heap.size < T ∧ wr.rowIs w.heap.size 4 len (fun i => .bool (V i))
  bel : Below w.heap.size w wr
  hT : w.heap.size ≤ T

theorem invA_start {w w1 : World} {len : Nat} {ao' : Option Addr} {V : Nat → Bool} (hbel : Below w.heap.size w w1) (hrow : 0 < len → ao' = some ⟨w.heap.size, 0, none⟩ ∧ w1.rowIs w.heap.size 4 len (fun i => .bool (V i))) {w2 : World}
    (hw2 : w2 = ((w1.alloc (.cells (madeCells #[.pointer none] (len + 1)) 26)).alloc (.map #[] 0)).alloc ((fresh (w1.heap.size + 1) false).obj none)) :
    InvA w (w2.setCell ⟨w1.heap.size, 0, none⟩ (.pointer (some ⟨w1.heap.size + 2, 0, none⟩))) w1.heap.size len ao' V 0 := by
  have hsz := hbel.size
  have r0 := w1.rowIs_made (.pointer none) (len + 1) 26
  generalize hm : w1.alloc (.cells (madeCells #[.pointer none] (len + 1)) 26) = wm at *
  have hms : wm.heap.size = w1.heap.size + 1 := by rw [← hm]; simp
  have ht := fresh_tab wm false none
  rw [hms, ← hw2] at ht
  have hs2 : w2.heap.size = w1.heap.size + 3 := by rw [hw2]; simp [hms]
  have hk1 : Kept (fun _ => False) w1 w2 := by rw [hw2, ← hm]; exact (((Kept.refl _ _).alloc _).alloc _).alloc _
  have hk2 : Kept (fun _ => False) wm w2 := by rw [hw2]; exact ((Kept.refl _ _).alloc _).alloc _
  have r1 : w2.rowIs w1.heap.size 26 (len + 1) (fun _ => .pointer none) := r0.of_block (hk2.block _ r0.lt id)
  refine ⟨⟨?_, fun _ => rfl, fun p hp => by simp at hp, trivial⟩, by simp [hs2], (r1.set 0 _).congr fun j hj => ?_, fun hl => ?_, (hbel.trans (hk1.below hsz fun _ _ => id)).setCell hsz _, hsz⟩
  · exact Tab.kept (S := fun k => k = w1.heap.size) ht ((Kept.refl _ _).setCell _ _ fun _ => rfl) (by simp [fresh]) (by simp [fresh]; omega)
  · by_cases h0 : j = 0
    · subst h0; simp
    · simp [h0]
  · obtain ⟨h1, h2⟩ := hrow hl
    have hlt := h2.lt
    exact ⟨h1, hlt, (h2.of_block (hk1.block _ hlt id)).setOther (by simp; omega) _⟩

theorem invA_step {w wr w' : World} {T len : Nat} {ao' : Option Addr} {V : Nat → Bool} {k : Nat} (h : InvA w wr T len ao' V k)
    (hw : w' = (wr.drew.alloc (.map #[] 0)).alloc ((fresh wr.heap.size (V k)).obj (some ⟨T + 1 + 2 * k + 1, 0, none⟩))) :
    InvA w (w'.setCell ⟨T, k + 1, none⟩ (.pointer (some ⟨wr.heap.size + 1, 0, none⟩))) T len ao' V (k + 1) := by
  have hsz := h.size
  have ht := fresh_tab wr.drew (V k) (some ⟨T + 1 + 2 * k + 1, 0, none⟩)
  rw [World.size_drew, ← hw] at ht
  have kw : Kept (fun _ => False) wr w' := by rw [hw]; exact (((Kept.refl _ _).drew).alloc _).alloc _
  have hws : w'.heap.size = wr.heap.size + 2 := by rw [hw]; simp
  have kv : Kept (fun i => i = T) w' (w'.setCell ⟨T, k + 1, none⟩ (.pointer (some ⟨wr.heap.size + 1, 0, none⟩))) := (Kept.refl _ _).setCell _ _ fun _ => rfl
  have r1 : w'.rowIs T 26 (len + 1) _ := h.ts.of_block (kw.block _ h.ts.lt id)
  have r2 := r1.set (k + 1) (.pointer (some ⟨wr.heap.size + 1, 0, none⟩))
  have hs2 : (w'.setCell ⟨T, k + 1, none⟩ (.pointer (some ⟨wr.heap.size + 1, 0, none⟩))).heap.size = wr.heap.size + 2 := by simp [hws]
  generalize w'.setCell ⟨T, k + 1, none⟩ (.pointer (some ⟨wr.heap.size + 1, 0, none⟩)) = wn at *
  have kn : Kept (fun i => i = T) wr wn := (kw.mono fun _ _ => False.elim).trans kv
  have ht' := ht.kept kv (by simp [fresh]; omega) (by simp [fresh]; omega)
  have hTlt : T < wr.heap.size := by omega
  refine ⟨?_, by omega, r2.congr fun j hj => ?_, fun hl => ?_, h.bel.trans (kn.below h.bel.size fun i hi e => ?_), h.hT⟩
  · have e0 : T + 1 + 2 * (k + 1) = wr.heap.size := by omega
    refine ⟨?_, fun e => ?_, fun p hp => ?_, h.chain.kept kn fun i hi e => ?_⟩
    · rw [up_chainOf, e0]; exact ht'
    · cases k <;> simp [chainOf] at e
    · have := chainOf_le (T + 1) V k p hp
      simp [fresh]
      omega
    · obtain ⟨p, hp, hpi⟩ := hi
      have hge : T + 1 ≤ p.b := chainOf_ge (T + 1) V k p hp
      omega
  · by_cases hj1 : j = k + 1
    · subst hj1
      simp [hsz]
    · by_cases hj2 : j ≤ k
      · simp [hj1, hj2, show j ≤ k + 1 by omega]
      · simp [hj1, hj2, show ¬ j ≤ k + 1 by omega]
  · obtain ⟨h1, h2, h3⟩ := h.bs hl
    exact ⟨h1, h2, h3.of_block (kn.block _ h3.lt (by omega))⟩
  · have := h.hT
    omega

theorem chain_le {w : World} {B : Nat} {V : Nat → Bool} {m : Nat} : ∀ {k : Nat}, Chain w (chainOf B V k) → m ≤ k → Chain w (chainOf B V m)
  | 0, h, hm => by rw [show m = 0 by omega]; exact h
  | k + 1, h, hm => by
    by_cases e : m = k + 1
    · subst e; exact h
    · exact chain_le (k := k) h.tail (by omega)

theorem parent_chain (skip : Bool) {w : World} {B : Nat} {V : Nat → Bool} {k : Nat} (h : Chain w (chainOf B V k)) :
    Calls Eckg.prog 14 #[.pointer (some ⟨B + 2 * k + 1, 0, none⟩), .bool skip] w fun e w' => e = .returned (.pointer (parOf skip (chainOf B V k))) ∧ w' = w := by
  cases k with
  | zero => exact parent_any skip w [] (fresh B false) h
  | succ k => exact parent_any skip w (chainOf B V k) (fresh (B + 2 * (k + 1)) (V k)) h

theorem fork_facts {wr w' : World} {o1 o2 : Obj} (hw : w' = (wr.drew.alloc o1).alloc o2) {T n : Nat} {t : TypeId} {f : Nat → Value} (h : wr.rowIs T t n f) {i : Nat} (hi : i < n) : w'.cell? ⟨T, i, none⟩ = some (f i) ∧ w'.frozen? ⟨T, i, none⟩ = false := by
  have h' : w'.rowIs T t n f := by rw [hw]; exact (World.rowIs.alloc (World.rowIs.drew h) _).alloc _
  exact ⟨h'.cell hi, h'.frozen i⟩

set_option maxHeartbeats 400000 in
theorem lawA_short (ao : Option Addr) (len cap : Nat) (V : Nat → Bool) (w : World) (hlen : len ≤ 4096)
    (h : (ao = none ∧ len = 0 ∧ cap = 0) ∨ ∃ a, ao = some a ∧ ∀ i, i < len → w.cell? (a.add i) = some (.bool (V i))) :
    Calls Eckg.prog 3 #[.slice ao len cap] w fun e w' => e = .returned (.bool true) ∧ Below w.heap.size w w' := by
  have hmk := run_make_row' (P := Eckg.prog) 25 26 (.pointer none) 8 Eckg.underlying25 info26 rfl .i64 .i64 (len + 1) (by omega) (by omega)
  rw [show ((len + 1 : Nat) : Int) = (len : Int) + 1 from by omega] at hmk
  have hd : decide ((4096 : Int) < (len : Int)) = false := by simp; omega
  have HC := hide (copyBools_all ao len cap V w hlen h)
  clear h
  go_enter Eckg.func3, Eckg.ntmps3
  go_wp2_with (go_at_call 10; refine (bytes10_yes _ _ _ (by omega) _).mono ?_; rintro e w' ⟨rfl, hw'⟩; replace hw' := hw'.symm; subst hw')
  go_at_call 11
  refine HC.out.mono ?_
  rintro e w1 ⟨ao', rfl, hrow, hbel⟩
  have HROW := hide hrow
  have HBEL := hide hbel
  clear hrow hbel HC
  go_wp2_with fail
  go_at_call 12
  refine (new_any _).mono ?_
  rintro e w2 ⟨rfl, hw2⟩
  have hw2' : w2 = ((w1.alloc (.cells (madeCells #[.pointer none] (len + 1)) 26)).alloc (.map #[] 0)).alloc ((fresh (w1.heap.size + 1) false).obj none) := by rw [hw2]; simp
  have HI := hide (invA_start HBEL.out HROW.out hw2')
  have hr0 : w2.rowIs w1.heap.size 26 (len + 1) (fun _ => .pointer none) := by rw [hw2']; exact ((w1.rowIs_made (.pointer none) (len + 1) 26).alloc _).alloc _
  have c0 := hr0.cell (i := 0) (by omega)
  have f0 := hr0.frozen 0
  clear hr0 hw2 hw2' hmk HROW HBEL
  go_wp2_with fail
  generalize hw3 : World.setCell w2 _ _ = w3
  rw [hw3] at HI
  clear hw3 c0 f0 w2
  generalize w1.heap.size = T at *
  clear w1
  go_loopw [5] (fun i wr => ∃ k : Nat, k ≤ len ∧ i = .int .i64 k ∧ InvA w wr T len ao' V k) (fun i _ => len - (intOf i).toNat)
  case atStart => exact ⟨0, Nat.zero_le _, rfl, HI.out⟩
  case round =>
    obtain ⟨k, hk, rfl, hinv⟩ := hrel
    have HINV := hide hinv
    clear HI w3
    by_cases hlt : k < len
    · obtain ⟨hao, hwT, hbs⟩ := hinv.bs (by omega)
      subst hao
      have hti : (k : Int) < (len : Int) := by omega
      have cb := hbs.cell hlt
      have ct := hinv.ts.cell (i := k) (by omega)
      rw [if_pos (Nat.le_refl k)] at ct
      have ct1 := hinv.ts.cell (i := k + 1) (by omega)
      rw [if_neg (by omega)] at ct1
      have ft1 := hinv.ts.frozen (k + 1)
      have hTl := hinv.ts.lt
      clear hinv hbs
      go_wp2_with fail
      have HT := hide (fun w' o1 o2 hw => fork_facts (w' := w') (o1 := o1) (o2 := o2) hw HINV.out.ts (i := k + 1) (by omega))
      simp only [if_neg (show ¬ k + 1 ≤ k by omega)] at HT
      go_region_with ((go_at_call 13; refine (fork_any _ _ _).mono ?_; rintro e w' ⟨rfl, hw'⟩; obtain ⟨cx, fx⟩ := HT.out w' _ _ hw'; replace hw' := hide hw'))
      all_goals
        go_wp2_with fail
        go_roundw
        case rel => exact ⟨k + 1, by omega, by go_num, invA_step HINV.out hw'.out⟩
        case measure => simp [intOf]; omega
    · have hkl : k = len := by omega
      subst hkl
      clear hinv
      have hd2 : decide ((k : Int) < (k : Int)) = false := by simp
      go_wp2_with fail
      go_loop [6, 7] (fun o i => ∃ m : Nat, m ≤ k + 1 ∧ i = .int .i64 m ∧ o = .int .i64 (ownOf V m)) (fun _ i => k + 1 - (intOf i).toNat)
      case atStart => exact ⟨0, Nat.zero_le _, rfl, rfl⟩
      case round =>
        obtain ⟨m, hm, rfl, rfl⟩ := hrel
        by_cases hmk : m ≤ k
        · have hneq := neq26
          have hmi : (m : Int) ≤ (k : Int) := by omega
          have hch := chain_le HINV.out.chain hmk
          have PF := hide (parent_chain false hch)
          have PT := hide (parent_chain true hch)
          rw [par_false] at PF
          rw [par_true] at PT
          have ct : wr.cell? ⟨T, m, none⟩ = some (.pointer (some ⟨T + 1 + 2 * m + 1, 0, none⟩)) := by
            have := HINV.out.ts.cell (i := m) (by omega)
            rwa [if_pos hmk] at this
          clear hch
          cases m with
          | zero =>
            have e1 : ownOf V 1 = 0 := by simp [ownOf]
            rw [e1] at PT
            simp only [ownOf, if_true] at PF PT ⊢
            have E1 := hide e1
            clear e1
            go_wp2_with (first | (go_at_call_of 14 (Value.bool false); refine PF.out.mono ?_; rintro e w' ⟨rfl, hw'⟩; replace hw' := hw'.symm; subst hw') | (go_at_call_of 14 (Value.bool true); refine PT.out.mono ?_; rintro e w' ⟨rfl, hw'⟩; replace hw' := hw'.symm; subst hw'))
            go_round
            case rel => exact ⟨1, by omega, by go_num, by rw [E1.out]; rfl⟩
            case measure => simp [intOf]
          | succ j =>
            obtain ⟨hao, hwT, hbs⟩ := HINV.out.bs (by omega)
            subst hao
            have hji : (j : Int) < (k : Int) := by omega
            have cb := hbs.cell (i := j) (by omega)
            have cj : wr.cell? ⟨T, j, none⟩ = some (.pointer (some ⟨T + 1 + 2 * j + 1, 0, none⟩)) := by
              have := HINV.out.ts.cell (i := j) (by omega)
              rwa [if_pos (by omega)] at this
            have hol := ownOf_le V j
            have e1 : ownOf V (j + 1 + 1) = if V j = false then j + 1 else ownOf V (j + 1) := by rw [ownOf]; simp
            simp only [Nat.add_one_ne_zero, if_false, Nat.add_sub_cancel] at PF
            rw [e1] at PT
            have E1 := hide e1
            clear e1 hbs
            cases hV : V j
            · rw [hV] at cb
              have EV := hide hV
              simp only [hV, if_true, Nat.add_one_ne_zero, if_false, Nat.add_sub_cancel] at PT
              clear hV
              generalize ownOf V (j + 1) = o at *
              go_wp2_with (first | (go_at_call_of 14 (Value.bool false); refine PF.out.mono ?_; rintro e w' ⟨rfl, hw'⟩; replace hw' := hw'.symm; subst hw') | (go_at_call_of 14 (Value.bool true); refine PT.out.mono ?_; rintro e w' ⟨rfl, hw'⟩; replace hw' := hw'.symm; subst hw'))
              go_round
              case rel => exact ⟨j + 1 + 1, by omega, by go_num, by rw [E1.out, if_pos EV.out]; rfl⟩
              case measure => simp [intOf]; omega
            · rw [hV] at cb
              have EV := hide hV
              simp only [hV, Bool.true_eq_false, if_false] at PT
              clear hV
              generalize hgo : ownOf V (j + 1) = o at *
              have EO := hide hgo
              clear hgo
              cases o with
              | zero =>
                simp only [if_true] at PT
                go_wp2_with (first | (go_at_call_of 14 (Value.bool false); refine PF.out.mono ?_; rintro e w' ⟨rfl, hw'⟩; replace hw' := hw'.symm; subst hw') | (go_at_call_of 14 (Value.bool true); refine PT.out.mono ?_; rintro e w' ⟨rfl, hw'⟩; replace hw' := hw'.symm; subst hw'))
                go_round
                case rel => exact ⟨j + 1 + 1, by omega, by go_num, by rw [E1.out, if_neg (by rw [EV.out]; simp)]; rfl⟩
                case measure => simp [intOf]; omega
              | succ p =>
                simp only [Nat.add_one_ne_zero, if_false, Nat.add_sub_cancel] at PT
                have cp : wr.cell? ⟨T, p, none⟩ = some (.pointer (some ⟨T + 1 + 2 * p + 1, 0, none⟩)) := by
                  have := HINV.out.ts.cell (i := p) (by omega)
                  rwa [if_pos (by omega)] at this
                go_wp2_with (first | (go_at_call_of 14 (Value.bool false); refine PF.out.mono ?_; rintro e w' ⟨rfl, hw'⟩; replace hw' := hw'.symm; subst hw') | (go_at_call_of 14 (Value.bool true); refine PT.out.mono ?_; rintro e w' ⟨rfl, hw'⟩; replace hw' := hw'.symm; subst hw'))
                go_round
                case rel => exact ⟨j + 1 + 1, by omega, by go_num, by rw [E1.out, if_neg (by rw [EV.out]; simp)]; rfl⟩
                case measure => simp [intOf]; omega
        · have hmi : ¬ (m : Int) ≤ (k : Int) := by omega
          go_wp2_with fail
          go_ret
          exact ⟨rfl, HINV.out.bel⟩

set_option maxHeartbeats 400000 in
theorem lawA_long (ao : Option Addr) (len cap : Nat) (w : World) (hlen : 1048576 < len) :
    Calls Eckg.prog 3 #[.slice ao len cap] w fun e w' => e = .returned (.bool true) ∧ Below w.heap.size w w' := by
  go_enter Eckg.func3, Eckg.ntmps3
  go_wp2_with (go_at_call 10; refine (bytes10_no _ _ _ (by omega) _).mono ?_; rintro e w' ⟨rfl, hw'⟩; replace hw' := hw'.symm; subst hw')
  go_ret
  exact ⟨rfl, Below.refl _ _⟩

set_option maxHeartbeats 400000 in
theorem lawA_mid (ao : Option Addr) (len cap : Nat) (w : World) (h1 : len ≤ 1048576) (h2 : 4096 < len) :
    Calls Eckg.prog 3 #[.slice ao len cap] w fun e w' => e = .returned (.bool true) ∧ Below w.heap.size w w' := by
  have h4 : (4096 : Int) < (len : Int) := by omega
  go_enter Eckg.func3, Eckg.ntmps3
  go_wp2_with (go_at_call 10; refine (bytes10_yes _ _ _ (by omega) _).mono ?_; rintro e w' ⟨rfl, hw'⟩; replace hw' := hw'.symm; subst hw')
  go_ret
  exact ⟨rfl, Below.refl _ _⟩

/-- FnForkParentChain returns true, whatever slice came in, and leaves old memory alone. -/
theorem lawA_any (ao : Option Addr) (len cap : Nat) (V : Nat → Bool) (w : World)
    (h : (ao = none ∧ len = 0 ∧ cap = 0) ∨ ∃ a, ao = some a ∧ ∀ i, i < len → w.cell? (a.add i) = some (.bool (V i))) :
    Calls Eckg.prog 3 #[.slice ao len cap] w fun e w' => e = .returned (.bool true) ∧ Below w.heap.size w w' := by
  by_cases h1 : 1048576 < len
  · exact lawA_long ao len cap w h1
  · by_cases h2 : 4096 < len
    · exact lawA_mid ao len cap w (by omega) h2
    · exact lawA_short ao len cap V w (by omega) h

end Go.Proofs.Yoeckw
