/-
  THE WALKS OF THE SMALL FUNCTIONS: NewSymbolTable, Fork, Parent, MaxSymbols, FreeSymbols, nextIndex, updateMaxDefs.
-/
import Derived.Test.YoeckwBase
namespace Go.Proofs.Yoeckw
open Go.RowKit

/-- A new table in block b. -/
def fresh (b : Nat) (blk : Bool) : Tb := { b := b, blk := blk, es := #[], ck := 0, nd := 0, md := 0, fs := .slice none 0 0 }

set_option maxHeartbeats 400000 in
theorem new_any (w : World) :
    Calls Eckg.prog 12 #[] w fun e w' => e = .returned (.pointer (some ⟨w.heap.size + 1, 0, none⟩)) ∧ w' = (w.alloc (.map #[] 0)).alloc ((fresh w.heap.size false).obj none) := by
  have hmm := @run_makeMap Eckg.prog
  go_enter Eckg.func12, Eckg.ntmps12
  go_wp2
  go_ret
  exact ⟨rfl, rfl⟩

set_option maxHeartbeats 400000 in
theorem fork_any (w : World) (p : Addr) (blk : Bool) :
    Calls Eckg.prog 13 #[.pointer (some p), .bool blk] w fun e w' => e = .returned (.pointer (some ⟨w.heap.size + 1, 0, none⟩)) ∧ w' = (w.alloc (.map #[] 0)).alloc ((fresh w.heap.size blk).obj (some p)) := by
  have hmm := @run_makeMap Eckg.prog
  go_enter Eckg.func13, Eckg.ntmps13
  go_wp2
  go_ret
  exact ⟨rfl, rfl⟩

theorem fresh_tab (w : World) (blk : Bool) (par : Option Addr) : Tab ((w.alloc (.map #[] 0)).alloc ((fresh w.heap.size blk).obj par)) (fresh w.heap.size blk) par := by
  refine ⟨?_, ?_, fun e he => ?_, rfl⟩
  · have := at_new (w.alloc (.map #[] 0)) ((fresh w.heap.size blk).obj par)
    simpa [fresh] using this
  · exact at_alloc (at_new w _) _
  · simp [fresh] at he

set_option maxHeartbeats 400000 in
theorem maxSyms_any (w : World) (t : Tb) (par : Option Addr) (h : Tab w t par) :
    Calls Eckg.prog 17 #[.pointer (some ⟨t.b + 1, 0, none⟩)] w fun e w' => e = .returned (.int .i64 t.md) ∧ w' = w := by
  have c4 := h.c4
  clear h
  go_enter Eckg.func17, Eckg.ntmps17
  go_wp2
  go_ret
  exact ⟨rfl, rfl⟩

set_option maxHeartbeats 400000 in
theorem freeSyms_any (w : World) (t : Tb) (par : Option Addr) (h : Tab w t par) :
    Calls Eckg.prog 19 #[.pointer (some ⟨t.b + 1, 0, none⟩)] w fun e w' => e = .returned t.fs ∧ w' = w := by
  have c5 := h.c5
  clear h
  go_enter Eckg.func19, Eckg.ntmps19
  go_wp2
  go_ret
  exact ⟨rfl, rfl⟩

/-- Where Parent leads. -/
def parOf (skip : Bool) : List Tb → Option Addr
  | [] => none
  | t :: r => if skip && t.blk then parOf skip r else up r

set_option maxHeartbeats 400000 in
theorem parent_any (skip : Bool) (w : World) : ∀ (r : List Tb) (t : Tb), Chain w (t :: r) →
    Calls Eckg.prog 14 #[.pointer (some ⟨t.b + 1, 0, none⟩), .bool skip] w fun e w' => e = .returned (.pointer (parOf skip (t :: r))) ∧ w' = w := by
  intro r
  induction r with
  | nil =>
    intro t h
    have c0 := h.head.c0
    have c1 := h.head.c1
    have hb : t.blk = false := h.2.1 rfl
    have hpo : parOf skip [t] = none := by simp [parOf, hb, up]
    rw [hpo]
    rw [hb] at c1
    clear h hb hpo
    simp only [up] at c0
    cases skip
    · go_enter Eckg.func14, Eckg.ntmps14
      go_wp2_with fail
      go_ret
      exact ⟨rfl, rfl⟩
    · go_enter Eckg.func14, Eckg.ntmps14
      go_wp2_with fail
      go_ret
      exact ⟨rfl, rfl⟩
  | cons p r ih =>
    intro t h
    have c0 := h.head.c0
    have c1 := h.head.c1
    have ih' := ih p h.tail
    have IH := hide ih'
    clear ih ih' h
    simp only [up] at c0
    cases skip
    · have hpo : parOf false (t :: p :: r) = some ⟨p.b + 1, 0, none⟩ := by simp [parOf, up]
      rw [hpo]
      clear hpo
      go_enter Eckg.func14, Eckg.ntmps14
      go_wp2_with fail
      go_ret
      exact ⟨rfl, rfl⟩
    · cases hb : t.blk
      · have hpo : parOf true (t :: p :: r) = some ⟨p.b + 1, 0, none⟩ := by simp [parOf, up, hb]
        rw [hpo]
        rw [hb] at c1
        clear hpo hb
        go_enter Eckg.func14, Eckg.ntmps14
        go_wp2_with fail
        go_ret
        exact ⟨rfl, rfl⟩
      · have hpo : parOf true (t :: p :: r) = parOf true (p :: r) := by conv => lhs; unfold parOf; rw [hb]; simp
        rw [hpo]
        rw [hb] at c1
        clear hpo hb
        go_enter Eckg.func14, Eckg.ntmps14
        go_wp2_with (go_at_call 14; refine (IH.out).mono ?_; rintro e w' ⟨rfl, rfl⟩)
        go_ret
        exact ⟨rfl, rfl⟩

/-- The next free slot, as nextIndex reckons it. -/
def idx : List Tb → Nat
  | [] => 0
  | t :: r => if t.blk then idx r + t.nd else t.nd

set_option maxHeartbeats 400000 in
theorem nextIndex_any : ∀ (r : List Tb) (t : Tb) (w : World), Chain w (t :: r) → idx (t :: r) ≤ 9223372036854775807 →
    Calls Eckg.prog 28 #[.pointer (some ⟨t.b + 1, 0, none⟩)] w fun e w' => e = .returned (.int .i64 (idx (t :: r))) ∧ ∃ n, w' = w.drewN n := by
  intro r
  induction r with
  | nil =>
    intro t w h _
    have c3 := h.head.c3
    have c1 := h.head.c1
    have hb : t.blk = false := h.2.1 rfl
    have hix : idx [t] = t.nd := by simp [idx, hb]
    rw [hix]
    rw [hb] at c1
    clear h hb hix
    go_enter Eckg.func28, Eckg.ntmps28
    go_wp2_with fail
    go_ret
    exact ⟨rfl, 0, rfl⟩
  | cons p r ih =>
    intro t w h hle
    have c0 := h.head.c0
    have c1 := h.head.c1
    have c3 := h.head.c3
    simp only [up] at c0
    cases hb : t.blk
    · have hix : idx (t :: p :: r) = t.nd := by simp [idx, hb]
      rw [hix]
      rw [hb] at c1
      clear h hb hix ih
      go_enter Eckg.func28, Eckg.ntmps28
      go_wp2_with fail
      go_ret
      exact ⟨rfl, 0, rfl⟩
    · have hix : idx (t :: p :: r) = idx (p :: r) + t.nd := by conv => lhs; unfold idx; rw [hb]; simp
      rw [hix] at hle ⊢
      rw [hb] at c1
      have hle2 : idx (p :: r) ≤ 9223372036854775807 := by omega
      have IH : Hid (∀ w', Chain w' (p :: r) → Calls Eckg.prog 28 #[.pointer (some ⟨p.b + 1, 0, none⟩)] w' fun e w'' => e = .returned (.int .i64 (idx (p :: r))) ∧ ∃ n, w'' = w'.drewN n) := fun w' h' => ih p w' h' hle2
      have H := hide h.tail
      clear h hb hix ih
      generalize idx (p :: r) = m at *
      have hz : ((m + t.nd : Nat) : Int) = (m : Int) + (t.nd : Int) := by omega
      have HZ := hide hz
      clear hz
      go_enter Eckg.func28, Eckg.ntmps28
      go_wp2_with fail
      go_quiet ((go_at_call 28; refine Calls.quiet_of (IH.out _ ?_); exact Chain.drewN H.out _))
      go_wp2_with fail
      go_ret
      rw [HZ.out]
      exact ⟨rfl, _, rfl⟩

/-- What updateMaxDefs leaves. -/
def umd (x : Nat) : List Tb → List Tb
  | [] => []
  | t :: r => { t with md := if t.md < x then x else t.md } :: (if t.blk then umd x r else r)

theorem Tab.setMd {w : World} {t : Tb} {par : Option Addr} (h : Tab w t par) (x : Nat) : Tab (w.setCell ⟨t.b + 1, 4, none⟩ (.int .i64 x)) { t with md := x } par :=
  ⟨by rw [at_setCell h.cells]; rfl, at_setCell_other h.map (by show t.b ≠ t.b + 1; omega), h.keys, h.plain⟩

theorem up_umd (x : Nat) (L : List Tb) : up (umd x L) = up L := by cases L <;> rfl
theorem umd_b (x : Nat) : ∀ L : List Tb, (umd x L).map Tb.b = L.map Tb.b
  | [] => rfl
  | t :: r => by
    simp only [umd, List.map_cons]
    split
    · rw [umd_b x r]
    · rfl
theorem umd_nil (x : Nat) (L : List Tb) : umd x L = [] ↔ L = [] := by cases L <;> simp [umd]

theorem not_foot {r : List Tb} {b : Nat} (h : ∀ p ∈ r, p.b + 2 ≤ b) : ¬ Foot r b ∧ ¬ Foot r (b + 1) := by
  constructor <;> (rintro ⟨p, hp, e⟩; have := h p hp; omega)
theorem foot_tail {t : Tb} {r : List Tb} {k : Nat} (h : Foot r k) : Foot (t :: r) k := by
  obtain ⟨p, hp, e⟩ := h
  exact ⟨p, .tail _ hp, e⟩
theorem foot_head (t : Tb) (r : List Tb) : Foot (t :: r) t.b ∧ Foot (t :: r) (t.b + 1) := ⟨⟨t, .head _, .inl rfl⟩, ⟨t, .head _, .inr rfl⟩⟩
theorem le_of_map {L L' : List Tb} (h : L'.map Tb.b = L.map Tb.b) {b : Nat} (hb : ∀ p ∈ L, p.b + 2 ≤ b) : ∀ p ∈ L', p.b + 2 ≤ b := by
  intro p hp
  have : p.b ∈ L'.map Tb.b := List.mem_map_of_mem hp
  rw [h] at this
  obtain ⟨q, hq, e⟩ := List.mem_map.1 this
  have := hb q hq
  omega
theorem foot_of_map {L L' : List Tb} (h : L'.map Tb.b = L.map Tb.b) {k : Nat} (hk : Foot L' k) : Foot L k := by
  obtain ⟨p, hp, e⟩ := hk
  have : p.b ∈ L'.map Tb.b := List.mem_map_of_mem hp
  rw [h] at this
  obtain ⟨q, hq, e'⟩ := List.mem_map.1 this
  exact ⟨q, hq, by omega⟩

/-- One table's step of updateMaxDefs, its caller's part done. -/
theorem umd_step {w w1 : World} {t : Tb} {r : List Tb} {x : Nat} (h : Chain w (t :: r)) (hw : w1 = if t.md < x then w.setCell ⟨t.b + 1, 4, none⟩ (.int .i64 x) else w) :
    Tab w1 { t with md := if t.md < x then x else t.md } (up r) ∧ Chain w1 r ∧ Kept (Foot (t :: r)) w w1 ∧ w1.heap.size = w.heap.size := by
  subst hw
  split
  · refine ⟨h.head.setMd x, h.tail.kept (S := fun k => k = t.b + 1) ((Kept.refl _ _).setCell _ _ fun _ => rfl) ?_, (Kept.refl _ _).setCell _ _ fun _ => (foot_head t r).2, by simp⟩
    intro i hi e
    exact (not_foot h.2.2.1).2 (e ▸ hi)
  · exact ⟨h.head, h.tail, Kept.refl _ _, rfl⟩

theorem umd_done {w w1 w2 : World} {t : Tb} {r : List Tb} {x : Nat} (h : Chain w (t :: r)) (hb : t.blk = true) (h1 : Tab w1 { t with md := if t.md < x then x else t.md } (up r)) (k1 : Kept (Foot (t :: r)) w w1) (s1 : w1.heap.size = w.heap.size)
    (h2 : Chain w2 (umd x r)) (k2 : Kept (Foot r) w1 w2) (s2 : w2.heap.size = w1.heap.size) :
    Chain w2 (umd x (t :: r)) ∧ Kept (Foot (t :: r)) w w2 ∧ w2.heap.size = w.heap.size := by
  have hnf := not_foot h.2.2.1
  refine ⟨?_, k1.then k2 fun i _ hi => foot_tail hi, s2.trans s1⟩
  unfold umd
  rw [if_pos hb]
  refine ⟨?_, fun e => ?_, le_of_map (umd_b x r) h.2.2.1, h2⟩
  · rw [up_umd]
    exact h1.kept k2 hnf.1 hnf.2
  · exact absurd (h.2.1 ((umd_nil x r).1 e)) (by simp [hb])

theorem umd_last {w w1 : World} {t : Tb} {r : List Tb} {x : Nat} (h : Chain w (t :: r)) (hb : t.blk = false) (h1 : Tab w1 { t with md := if t.md < x then x else t.md } (up r)) (h2 : Chain w1 r) (k1 : Kept (Foot (t :: r)) w w1) (s1 : w1.heap.size = w.heap.size) :
    Chain w1 (umd x (t :: r)) ∧ Kept (Foot (t :: r)) w w1 ∧ w1.heap.size = w.heap.size := by
  refine ⟨?_, k1, s1⟩
  unfold umd
  have hb' : ¬ t.blk = true := by simp [hb]
  rw [if_neg hb']
  exact ⟨h1, fun _ => hb, h.2.2.1, h2⟩

set_option maxHeartbeats 400000 in
theorem umd_any (x : Nat) : ∀ (r : List Tb) (t : Tb) (w : World), Chain w (t :: r) →
    Calls Eckg.prog 29 #[.pointer (some ⟨t.b + 1, 0, none⟩), .int .i64 x] w fun e w' => e = .returned (.tuple #[]) ∧ Chain w' (umd x (t :: r)) ∧ Kept (Foot (t :: r)) w w' ∧ w'.heap.size = w.heap.size := by
  intro r
  induction r with
  | nil =>
    intro t w h
    have c0 := h.head.c0
    have c1 := h.head.c1
    have c4 := h.head.c4
    have f4 := h.head.fz 4
    have hb : t.blk = false := h.2.1 rfl
    have HB := hide hb
    have H := hide h
    rw [hb] at c1
    clear h hb
    by_cases hm : t.md < x
    · have hmi : (t.md : Int) < (x : Int) := by omega
      have HM := hide hm
      clear hm
      go_enter Eckg.func29, Eckg.ntmps29
      go_wp2_with fail
      go_end0
      obtain ⟨h1, h2, k1, s1⟩ := umd_step (x := x) H.out rfl
      rw [if_pos HM.out] at h2 k1 s1
      rw [if_pos (c := t.md < x) HM.out (t := w.setCell _ _)] at h1
      exact ⟨rfl, umd_last H.out HB.out h1 h2 k1 s1⟩
    · have hmi : ¬ (t.md : Int) < (x : Int) := by omega
      have HM := hide hm
      clear hm
      go_enter Eckg.func29, Eckg.ntmps29
      go_wp2_with fail
      go_end0
      obtain ⟨h1, h2, k1, s1⟩ := umd_step (x := x) H.out rfl
      rw [if_neg HM.out] at h2 k1 s1
      rw [if_neg (c := t.md < x) HM.out (t := w.setCell _ _)] at h1
      exact ⟨rfl, umd_last H.out HB.out h1 h2 k1 s1⟩
  | cons p r ih =>
    intro t w h
    have c0 := h.head.c0
    have c1 := h.head.c1
    have c4 := h.head.c4
    have f4 := h.head.fz 4
    simp only [up] at c0
    have H := hide h
    obtain ⟨h1, h2, k1, s1⟩ := umd_step (x := x) h rfl
    have IH := hide (ih p)
    clear h ih
    cases hb : t.blk
    · have HB := hide hb
      rw [hb] at c1
      clear hb
      by_cases hm : t.md < x
      · have hmi : (t.md : Int) < (x : Int) := by omega
        rw [if_pos hm] at h2 k1 s1
        rw [if_pos (c := t.md < x) hm (t := w.setCell _ _)] at h1
        have HH := hide (umd_last H.out HB.out h1 h2 k1 s1)
        clear hm h1 h2 k1 s1
        go_enter Eckg.func29, Eckg.ntmps29
        go_wp2_with fail
        go_end0
        exact ⟨rfl, HH.out⟩
      · have hmi : ¬ (t.md : Int) < (x : Int) := by omega
        rw [if_neg hm] at h2 k1 s1
        rw [if_neg (c := t.md < x) hm (t := w.setCell _ _)] at h1
        have HH := hide (umd_last H.out HB.out h1 h2 k1 s1)
        clear hm h1 h2 k1 s1
        go_enter Eckg.func29, Eckg.ntmps29
        go_wp2_with fail
        go_end0
        exact ⟨rfl, HH.out.1, HH.out.2.1, rfl⟩
    · have HB := hide hb
      rw [hb] at c1
      clear hb
      by_cases hm : t.md < x
      · have hmi : (t.md : Int) < (x : Int) := by omega
        rw [if_pos hm] at h2 k1 s1
        rw [if_pos (c := t.md < x) hm (t := w.setCell _ _)] at h1
        have H2 := hide h2
        have HH := hide (fun w2 => umd_done (w2 := w2) H.out HB.out h1 k1 s1)
        clear hm h1 h2 k1 s1
        go_enter Eckg.func29, Eckg.ntmps29
        go_wp2_with (go_at_call 29; refine (IH.out _ ?_).mono ?_; exact H2.out; rintro e w' ⟨rfl, h3⟩; replace h3 := hide h3)
        go_end0
        exact ⟨rfl, HH.out _ h3.out.1 h3.out.2.1 h3.out.2.2⟩
      · have hmi : ¬ (t.md : Int) < (x : Int) := by omega
        rw [if_neg hm] at h2 k1 s1
        rw [if_neg (c := t.md < x) hm (t := w.setCell _ _)] at h1
        have H2 := hide h2
        have HH := hide (fun w2 => umd_done (w2 := w2) H.out HB.out h1 k1 s1)
        clear hm h1 h2 k1 s1
        go_enter Eckg.func29, Eckg.ntmps29
        go_wp2_with (go_at_call 29; refine (IH.out _ ?_).mono ?_; exact H2.out; rintro e w' ⟨rfl, h3⟩; replace h3 := hide h3)
        go_end0
        exact ⟨rfl, HH.out _ h3.out.1 h3.out.2.1 h3.out.2.2⟩

end Go.Proofs.Yoeckw
