/-
  Small contracts in the chain's words.
-/
import Derived.Test.YoeckwPath
import Derived.Test.YoeckwItoa
namespace Go.Proofs.Yoeckw
open Go.RowKit

theorem digs_length : ∀ f n, (digs f n).length ≤ f
  | 0, _ => by simp [digs]
  | f + 1, n => by
    rw [digs]
    split
    · simp
    · have := digs_length f (n / 10)
      simp
      omega
theorem itoa_size (n : Nat) : (itoa n).size ≤ 20 := by
  unfold itoa
  rw [strOfNums_size]
  split
  · simp
  · exact digs_length 20 n

theorem new_c (w : World) : Calls Eckg.prog 12 #[] w fun e w' => e = .returned (.pointer (some ⟨w.heap.size + 1, 0, none⟩)) ∧ Chain w' [fresh w.heap.size false] ∧ Kept (fun _ => False) w w' ∧ w'.heap.size = w.heap.size + 2 := by
  refine (new_any w).mono ?_
  rintro e w' ⟨rfl, rfl⟩
  exact ⟨rfl, ⟨fresh_tab w false none, fun _ => rfl, fun p hp => by simp at hp, trivial⟩, ((Kept.refl _ _).alloc _).alloc _, by simp⟩

theorem fork_c (w : World) (t : Tb) (r : List Tb) (blk : Bool) (h : Chain w (t :: r)) : Calls Eckg.prog 13 #[.pointer (some ⟨t.b + 1, 0, none⟩), .bool blk] w fun e w' =>
    e = .returned (.pointer (some ⟨w.heap.size + 1, 0, none⟩)) ∧ Chain w' (fresh w.heap.size blk :: t :: r) ∧ Kept (fun _ => False) w w' ∧ w'.heap.size = w.heap.size + 2 := by
  refine (fork_any w ⟨t.b + 1, 0, none⟩ blk).mono ?_
  rintro e w' ⟨rfl, rfl⟩
  have k : Kept (fun _ => False) w ((w.alloc (.map #[] 0)).alloc ((fresh w.heap.size blk).obj (some ⟨t.b + 1, 0, none⟩))) := ((Kept.refl _ _).alloc _).alloc _
  refine ⟨rfl, ⟨fresh_tab w blk _, fun e => by simp at e, fun p hp => ?_, h.kept k fun _ _ => id⟩, k, by simp⟩
  have := h.lt p hp
  simp [fresh]
  omega

theorem Chain.below {w w' : World} {L : List Tb} (h : Chain w L) (hb : Below w.heap.size w w') : Chain w' L := h.carry fun k hk => hb.block k (h.foot_lt hk)

end Go.Proofs.Yoeckw
