/-
  A STACK OF TABLES beside their chain; rows of cells that a call on the chain leaves alone.
-/
import Derived.Test.YoeckwMore
import Derived.Test.YoeckwSmall
namespace Go.Proofs.Yoeckw
open Go.RowKit

theorem not_foot_of_type {w : World} {L : List Tb} (h : Chain w L) {k : Nat} {c : Array Value} {e : TypeId} {fr : Nat × Nat} (hk : w.heap[k]? = some (.cells c e fr)) (he : e ≠ 50) : ¬ Foot L k := by
  rintro ⟨p, hp, hpk⟩
  obtain ⟨l, r, rfl⟩ := List.append_of_mem hp
  have ht := (Chain.suffix h).head
  rcases hpk with rfl | rfl
  · rw [ht.map] at hk; simp at hk
  · rw [ht.cells] at hk
    simp [Tb.obj] at hk
    exact he hk.2.1.symm

theorem owns_carry {w w' : World} {base n size : Nat} {e : TypeId} {v : Value} {xs : List Value} (h : w.ownsRow base e size v n xs) (hk : ∀ (k : Nat) (c : Array Value), w.heap[k]? = some (Obj.cells c e (0, 0)) → w'.heap[k]? = w.heap[k]?) : w'.ownsRow base e size v n xs := by
  refine ⟨h.1, ?_⟩
  rcases h.2 with hn | ⟨g, cap, cur, rfl, hb, hgg, rest⟩
  · exact .inl hn
  · exact .inr ⟨g, cap, cur, rfl, hb, (hk g _ hgg).trans hgg, rest⟩

theorem row_carry {w w' : World} {b n : Nat} {e : TypeId} {f : Nat → Value} (h : w.rowIs b e n f) (hk : ∀ (k : Nat) (c : Array Value), w.heap[k]? = some (Obj.cells c e (0, 0)) → w'.heap[k]? = w.heap[k]?) : w'.rowIs b e n f := by
  obtain ⟨c, hb, h1, h2⟩ := h
  exact ⟨c, (hk b c hb).trans hb, h1, h2⟩

/-- What a call on a chain leaves of rows that are no tables. -/
theorem rows_kept {w w' : World} {L : List Tb} (h : Chain w L) (kp : Kept (Foot L) w w') {e : TypeId} (he : e ≠ 50) : ∀ (k : Nat) (c : Array Value), w.heap[k]? = some (Obj.cells c e (0, 0)) → w'.heap[k]? = w.heap[k]? :=
  fun k _ hk => kp.block k (lt_of_at hk) (not_foot_of_type h hk he)
theorem rows_grown {w w' : World} (kp : Kept (fun _ => False) w w') {e : TypeId} : ∀ (k : Nat) (c : Array Value), w.heap[k]? = some (Obj.cells c e (0, 0)) → w'.heap[k]? = w.heap[k]? :=
  fun k _ hk => kp.block k (lt_of_at hk) id
theorem rows_below {w w' : World} (kp : Below w.heap.size w w') {e : TypeId} : ∀ (k : Nat) (c : Array Value), w.heap[k]? = some (Obj.cells c e (0, 0)) → w'.heap[k]? = w.heap[k]? :=
  fun k _ hk => kp.block k (lt_of_at hk)

/-- The stack's cells: the root first. -/
def ptrs (L : List Tb) : List Value := (L.map fun t => Value.pointer (some ⟨t.b + 1, 0, none⟩)).reverse
theorem ptrs_length (L : List Tb) : (ptrs L).length = L.length := by simp [ptrs]
theorem ptrs_cons (t : Tb) (r : List Tb) : ptrs (t :: r) = ptrs r ++ [.pointer (some ⟨t.b + 1, 0, none⟩)] := by simp [ptrs]
theorem ptrs_map {L L' : List Tb} (h : L'.map Tb.b = L.map Tb.b) : ptrs L' = ptrs L := by
  have e : ∀ M : List Tb, ptrs M = ((M.map Tb.b).map fun b => Value.pointer (some ⟨b + 1, 0, none⟩)).reverse := fun M => by simp [ptrs, Function.comp_def]
  rw [e, e, h]

theorem info26 : (Eckg.prog.info? 26).map (fun i => (i.zero, i.size, i.bytes)) = some (some (.pointer none), 1, 8) := by kernel_rfl

/-- A new row, behind a name. -/
def mkRow (w : World) (z : Value) (n : Nat) (e : TypeId) : World := w.alloc (.cells (madeCells #[z] n) e)
theorem mkRow_row (w : World) (z : Value) (n : Nat) (e : TypeId) : (mkRow w z n e).rowIs w.heap.size e n (fun _ => z) := w.rowIs_made z n e
theorem mkRow_kept (w : World) (z : Value) (n : Nat) (e : TypeId) : Kept (fun _ => False) w (mkRow w z n e) := (Kept.refl _ _).alloc _
theorem mkRow_size (w : World) (z : Value) (n : Nat) (e : TypeId) : (mkRow w z n e).heap.size = w.heap.size + 1 := by simp [mkRow]

/-- 'make([]*SymbolTable, 1, len+1)' and its kin. -/
theorem run_make1 (t e : TypeId) (z : Value) (ht : Eckg.prog.underlying t = some (.slice e)) (hi : (Eckg.prog.info? e).map (fun i => (i.zero, i.size, i.bytes)) = some (some z, 1, 8)) (hz : z.cells = #[z]) (n : Nat) (hn : n ≤ 4096) (w : World) :
    (Instr.makeSlice t (.int .i64 1) (.int .i64 ((n : Int) + 1))).run Eckg.prog w = .ok (.slice (some ⟨w.heap.size, 0, none⟩) 1 (n + 1)) (mkRow w z (n + 1) e) := by
  obtain ⟨i, hi0, hz0, hz1, hz2⟩ := info_parts hi
  have hr := run_make (P := Eckg.prog) w t e i z ht hi0 hz0 .i64 .i64 1 ((n : Int) + 1) (by omega) (by omega) (by rw [hz2]; omega) (by omega)
  rw [hr, hz, hz1, show ((n : Int) + 1).toNat = n + 1 by omega]
  simp [mkRow]

/-- One cell of a new row, stored. -/
theorem owns_first {w : World} {base n : Nat} {e : TypeId} {z v : Value} (hn : n ≤ 4096) {w' : World} {T : Nat} (h : w'.rowIs T e (n + 1) (fun _ => z)) (hT : base ≤ T) (hw : w = w'.setCell ⟨T, 0, none⟩ v) :
    w.ownsRow base e 1 (.slice (some ⟨T, 0, none⟩) 1 (n + 1)) 1 [v] := by
  obtain ⟨c, hc, hs, hv⟩ := h
  refine ⟨rfl, .inr ⟨T, n + 1, c.setIfInBounds 0 v, rfl, hT, ?_, by omega, by unfold maxLen; omega, by simp [hs], ?_⟩⟩
  · rw [hw]; exact at_setCell hc 0 v
  · have h0 : 0 < c.size := by omega
    have h1 := hv 0 (by omega)
    obtain ⟨l⟩ := c
    cases l with
    | nil => simp at h0
    | cons a l => simp [Array.setIfInBounds]

end Go.Proofs.Yoeckw
