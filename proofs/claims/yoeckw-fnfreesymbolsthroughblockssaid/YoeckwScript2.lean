/-
  zzFreeScriptB2, the chain of blocks and the queries: what stands in memory.
-/
import Derived.Test.YoeckwScript1
namespace Go.Proofs.Yoeckw
open Go.RowKit

/-- The place of j among the captured, as the script's 'pos' has it. -/
def posOf (capt : List Nat) (j : Nat) : Int := if j ∈ capt then ((capt.idxOf j : Nat) : Int) else -1

theorem posOf_snoc (capt : List Nat) (j i : Nat) (hj : j ∉ capt) : posOf (capt ++ [j]) i = if i = j then ((capt.length : Nat) : Int) else posOf capt i := by
  unfold posOf
  by_cases e : i = j
  · subst e
    simp [List.idxOf_append, hj]
  · by_cases hi : i ∈ capt
    · simp [hi, e, List.idxOf_append]
    · simp [hi, e]

/-- The tables and rows of the script. -/
structure G3 (w wr : World) (nL nG D k GB LB CB FB QB : Nat) (pre : List Tb) (g f root : Tb) (gs ls : Nat → Nat) : Prop where
  chain : Chain wr (pre ++ [g, f, root])
  plen : pre.length = k
  hpre : ∀ p ∈ pre, p.blk = true ∧ p.es = #[] ∧ p.fs = .slice none 0 0
  gblk : g.blk = false
  gb : g.b = QB
  ffs : f.fs = .slice none 0 0
  fblk : f.blk = false
  fb : f.b = FB
  rfs : root.fs = .slice none 0 0
  rb : root.b = w.heap.size
  nmsG : Names wr root.es nmG sGlobal nG gs
  nmsL : Names wr f.es nmL sLocal nL ls
  rowG : wr.rowIs GB 29 nG (fun i => .pointer (some ⟨gs i, 0, none⟩))
  rowL : wr.rowIs LB 29 nL (fun i => .pointer (some ⟨ls i, 0, none⟩))
  rowC : wr.rowIs CB 26 (D + 1) (fun j => ((ptrs (pre ++ [g]))[j]?).getD (.pointer none))
  bel : Below w.heap.size w wr
  hGB : w.heap.size ≤ GB
  hLB : w.heap.size ≤ LB
  hCB : w.heap.size ≤ CB
  lo : ∀ p ∈ pre ++ [g, f, root], w.heap.size ≤ p.b

section
variable {w wr w' : World} {nL nG D k GB LB CB FB QB : Nat} {pre : List Tb} {g f root : Tb} {gs ls : Nat → Nat}

theorem G3.grown (h : G3 w wr nL nG D k GB LB CB FB QB pre g f root gs ls) (kp : Kept (fun _ => False) wr w') : G3 w w' nL nG D k GB LB CB FB QB pre g f root gs ls :=
  ⟨h.chain.kept kp fun _ _ => id, h.plen, h.hpre, h.gblk, h.gb, h.ffs, h.fblk, h.fb, h.rfs, h.rb, h.nmsG.keep (rows_grown kp), h.nmsL.keep (rows_grown kp), row_carry h.rowG (rows_grown kp), row_carry h.rowL (rows_grown kp), row_carry h.rowC (rows_grown kp),
    h.bel.trans (kp.below h.bel.size fun _ _ => id), h.hGB, h.hLB, h.hCB, h.lo⟩

/-- Another row is written. -/
theorem G3.other (h : G3 w wr nL nG D k GB LB CB FB QB pre g f root gs ls) {X : Nat} {c : Array Value} {e : TypeId} (hX : wr.heap[X]? = some (Obj.cells c e (0, 0))) (he : e ≠ 50) (he33 : 33 ≠ e) (hG : GB ≠ X) (hL : LB ≠ X) (hC : CB ≠ X) (hlo : w.heap.size ≤ X) (kp : Kept (fun i => i = X) wr w') :
    G3 w w' nL nG D k GB LB CB FB QB pre g f root gs ls := by
  have hsy : ∀ (j : Nat) (c' : Array Value), wr.heap[j]? = some (Obj.cells c' 33 (0, 0)) → w'.heap[j]? = wr.heap[j]? := fun j c' hj => kp.block j (lt_of_at hj) fun e0 => by rw [e0, hX] at hj; simp at hj; exact he33 hj.2.symm
  exact ⟨h.chain.kept kp fun i hi e0 => not_foot_of_type h.chain hX he (e0 ▸ hi), h.plen, h.hpre, h.gblk, h.gb, h.ffs, h.fblk, h.fb, h.rfs, h.rb, h.nmsG.keep hsy, h.nmsL.keep hsy, rowIs_keep h.rowG kp hG, rowIs_keep h.rowL kp hL, rowIs_keep h.rowC kp hC,
    h.bel.trans (kp.below h.bel.size fun i hi e0 => by omega), h.hGB, h.hLB, h.hCB, h.lo⟩

theorem G3.inner (h : G3 w wr nL nG D k GB LB CB FB QB pre g f root gs ls) : ∃ ib, up (pre ++ [g, f, root]) = some ⟨ib, 0, none⟩ ∧ (ptrs (pre ++ [g]))[k]? = some (.pointer (some ⟨ib, 0, none⟩)) := by
  have hl := h.plen
  cases pre with
  | nil =>
    simp at hl
    subst hl
    exact ⟨g.b + 1, rfl, rfl⟩
  | cons t r =>
    refine ⟨t.b + 1, rfl, ?_⟩
    rw [List.cons_append, ptrs_cons, List.getElem?_append_right (by rw [ptrs_length]; simp at hl ⊢; omega), ptrs_length]
    simp at hl ⊢
    simp [show k - (r.length + 1) = 0 by omega]

/-- The chain's start. -/
theorem g3_start {w1 w2 : World} (D : Nat) (h : G2 w wr nL nG GB LB FB nL f root gs ls) (h1 : Chain w1 [fresh wr.heap.size false, f, root]) (k1 : Kept (fun _ => False) wr w1)
    (hw2 : w2 = (mkRow w1 (.pointer none) (D + 1) 26).setCell ⟨w1.heap.size, 0, none⟩ (.pointer (some ⟨wr.heap.size + 1, 0, none⟩))) :
    G3 w w2 nL nG D 0 GB LB w1.heap.size FB wr.heap.size [] (fresh wr.heap.size false) f root gs ls := by
  have km := mkRow_kept w1 (.pointer none) (D + 1) 26
  have hr := mkRow_row w1 (.pointer none) (D + 1) 26
  generalize mkRow w1 (.pointer none) (D + 1) 26 = wm at *
  have k2 := k1.trans km
  have ks := store_kept wm w1.heap.size 0 (.pointer (some ⟨wr.heap.size + 1, 0, none⟩))
  rw [← hw2] at ks
  obtain ⟨c, hc, _⟩ := id hr
  have hs0 := h.bel.size
  have hs1 := k1.size
  have hGl := h.rowG.lt
  have hLl := h.rowL.lt
  have hsy : ∀ (j : Nat) (c' : Array Value), wm.heap[j]? = some (Obj.cells c' 33 (0, 0)) → w2.heap[j]? = wm.heap[j]? := fun j c' hj => ks.block j (lt_of_at hj) fun e0 => by rw [e0, hc] at hj; simp at hj
  have hch : Chain wm [fresh wr.heap.size false, f, root] := h1.kept km fun _ _ => id
  refine ⟨hch.kept ks fun i hi e0 => not_foot_of_type hch hc (by decide) (e0 ▸ hi), rfl, by simp, rfl, rfl, h.ffs, h.fblk, h.fb, h.rfs, h.rb, (h.nmsG.keep (rows_grown k2)).keep hsy, (h.nmsL.keep (rows_grown k2)).keep hsy, rowIs_keep (row_carry h.rowG (rows_grown k2)) ks (by omega), (rowIs_keep (row_carry h.rowL (rows_grown k2)) ks (by omega)).congr fun i hi => by rw [if_pos hi], ?_, (h.bel.trans (k2.below hs0 fun _ _ => id)).trans (ks.below (Nat.le_trans hs0 k2.size) fun i hi e0 => by omega), h.hGB, h.hLB, by omega, ?_⟩
  · rw [hw2]
    refine (hr.set 0 _).congr fun j hj => ?_
    by_cases e : j = 0
    · subst e; rfl
    · rw [if_neg e]
      have : (ptrs ([] ++ [fresh wr.heap.size false]))[j]? = none := by simp [ptrs]; omega
      rw [this]; rfl
  · intro p hp
    simp at hp
    rcases hp with rfl | rfl | rfl
    · simp [fresh]; exact hs0
    · exact h.lo
    · rw [h.rb]; exact Nat.le_refl _

/-- A block more. -/
theorem g3_step {w1 : World} {t : Tb} {r : List Tb} (h : G3 w wr nL nG D k GB LB CB FB QB pre g f root gs ls) (et : pre ++ [g, f, root] = t :: r) (h1 : Chain w1 (fresh wr.heap.size true :: t :: r)) (k1 : Kept (fun _ => False) wr w1) :
    G3 w (w1.setCell ⟨CB, k + 1, none⟩ (.pointer (some ⟨wr.heap.size + 1, 0, none⟩))) nL nG D (k + 1) GB LB CB FB QB (fresh wr.heap.size true :: pre) g f root gs ls := by
  have h' := h.grown k1
  have ks := store_kept w1 CB (k + 1) (.pointer (some ⟨wr.heap.size + 1, 0, none⟩))
  obtain ⟨c, hc, _⟩ := id h'.rowC
  have hsy : ∀ (j : Nat) (c' : Array Value), w1.heap[j]? = some (Obj.cells c' 33 (0, 0)) → (w1.setCell ⟨CB, k + 1, none⟩ (.pointer (some ⟨wr.heap.size + 1, 0, none⟩))).heap[j]? = w1.heap[j]? := fun j c' hj => ks.block j (lt_of_at hj) fun e0 => by rw [e0, hc] at hj; simp at hj
  have hGC : GB ≠ CB := fun e0 => by obtain ⟨c', hc', _⟩ := h'.rowG; rw [e0, hc] at hc'; simp at hc'
  have hLC : LB ≠ CB := fun e0 => by obtain ⟨c', hc', _⟩ := h'.rowL; rw [e0, hc] at hc'; simp at hc'
  have hch : Chain w1 (fresh wr.heap.size true :: (pre ++ [g, f, root])) := by rw [et]; exact h1
  refine ⟨hch.kept ks fun i hi e0 => not_foot_of_type hch hc (by decide) (e0 ▸ hi), by simp [h.plen], ?_, h.gblk, h.gb, h.ffs, h.fblk, h.fb, h.rfs, h.rb, h'.nmsG.keep hsy, h'.nmsL.keep hsy, rowIs_keep h'.rowG ks hGC, rowIs_keep h'.rowL ks hLC, ?_, h'.bel.trans (ks.below h'.bel.size fun i hi e0 => by have := h.hCB; omega), h.hGB, h.hLB, h.hCB, ?_⟩
  · intro p hp
    cases hp with
    | head => exact ⟨rfl, rfl, rfl⟩
    | tail _ hp => exact h.hpre p hp
  · refine (h'.rowC.set (k + 1) _).congr fun j hj => ?_
    have hlen : (ptrs (pre ++ [g])).length = k + 1 := by rw [ptrs_length]; simp [h.plen]
    rw [List.cons_append, ptrs_cons]
    by_cases e : j = k + 1
    · subst e
      rw [if_pos rfl, List.getElem?_append_right (by omega), hlen]
      simp [fresh]
    · rw [if_neg e]
      by_cases hlt : j < k + 1
      · rw [List.getElem?_append_left (by omega)]
      · rw [List.getElem?_eq_none (by omega), List.getElem?_eq_none (by simp [hlen]; omega)]
  · intro p hp
    cases hp with
    | head => simp [fresh]; exact h.bel.size
    | tail _ hp => exact h.lo p hp
end

end Go.Proofs.Yoeckw
