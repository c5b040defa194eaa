/-
  PLAIN LAWS on a chain of tables: blocks ahead of the first table that is none.
-/
import Derived.Test.YoeckwDefine
namespace Go.Proofs.Yoeckw

def mx (x : Nat) (t : Tb) : Tb := { t with md := if t.md < x then x else t.md }

theorem mx_b (x : Nat) (t : Tb) : (mx x t).b = t.b := rfl
theorem mx_blk (x : Nat) (t : Tb) : (mx x t).blk = t.blk := rfl
theorem mx_nd (x : Nat) (t : Tb) : (mx x t).nd = t.nd := rfl
theorem mx_es (x : Nat) (t : Tb) : (mx x t).es = t.es := rfl
theorem mx_fs (x : Nat) (t : Tb) : (mx x t).fs = t.fs := rfl
theorem mx_md (x : Nat) (t : Tb) : (mx x t).md = if t.md < x then x else t.md := rfl

theorem umd_pre (x : Nat) (t : Tb) (post : List Tb) (ht : t.blk = false) : ∀ pre : List Tb, (∀ p ∈ pre, p.blk = true) → umd x (pre ++ t :: post) = pre.map (mx x) ++ mx x t :: post
  | [], _ => by
    have : ¬ t.blk = true := by simp [ht]
    simp only [List.nil_append, List.map_nil, umd, if_neg this]
    rfl
  | p :: pre, h => by
    have hp := h p (.head _)
    simp only [List.cons_append, List.map_cons, umd, if_pos hp, umd_pre x t post ht pre fun q hq => h q (.tail _ hq)]
    rfl

def sumNd : List Tb → Nat
  | [] => 0
  | t :: r => sumNd r + t.nd

theorem idx_pre (t : Tb) (post : List Tb) (ht : t.blk = false) : ∀ pre : List Tb, (∀ p ∈ pre, p.blk = true) → idx (pre ++ t :: post) = t.nd + sumNd pre
  | [], _ => by simp [idx, ht, sumNd]
  | p :: pre, h => by
    have hp := h p (.head _)
    simp only [List.cons_append, idx, if_pos hp, idx_pre t post ht pre fun q hq => h q (.tail _ hq), sumNd]
    omega

theorem par_pre (t : Tb) (post : List Tb) (ht : t.blk = false) : ∀ pre : List Tb, (∀ p ∈ pre, p.blk = true) → parOf true (pre ++ t :: post) = up post
  | [], _ => by simp [parOf, ht]
  | p :: pre, h => by
    have hp := h p (.head _)
    simp only [List.cons_append, parOf, hp, par_pre t post ht pre fun q hq => h q (.tail _ hq)]
    simp

theorem up_none (L : List Tb) : up L = none ↔ L = [] := by cases L <;> simp [up]

/-- The last table of a chain is no block: so there is a first one that is none. -/
theorem first_plain {w : World} : ∀ {L : List Tb}, Chain w L → L ≠ [] → ∃ pre t post, L = pre ++ t :: post ∧ (∀ p ∈ pre, p.blk = true) ∧ t.blk = false
  | [], _, h => absurd rfl h
  | t :: r, h, _ => by
    cases hb : t.blk with
    | false => exact ⟨[], t, r, rfl, by simp, hb⟩
    | true =>
      have hr : r ≠ [] := fun e => by have := h.2.1 e; rw [hb] at this; cases this
      obtain ⟨pre, t', post, e, h1, h2⟩ := first_plain h.tail hr
      refine ⟨t :: pre, t', post, by rw [e]; rfl, fun p hp => ?_, h2⟩
      cases hp with
      | head => exact hb
      | tail _ hp => exact h1 p hp

/-- Define at the first of some blocks over a plain table that has a table above it. -/
theorem stepL_loc (es' : Array MapEntry) (ck' : Nat) (t : Tb) (r : List Tb) {pp : Addr} (h : parOf true (t :: r) = some pp) : stepL es' ck' (t :: r) = { t with es := es', ck := ck', nd := t.nd + 1 } :: r :=
  stepL_local es' ck' t r (by simp [h])

end Go.Proofs.Yoeckw
