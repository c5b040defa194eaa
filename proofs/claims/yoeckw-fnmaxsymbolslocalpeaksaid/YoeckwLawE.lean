/-
  THE WALK OF FnMaxSymbolsLocalPeak.
-/
import Derived.Test.YoeckwStack
import Derived.Deep.DeepCutAuto
namespace Go.Proofs.Yoeckw
open Go.RowKit

theorem info3b : (Eckg.prog.info? 3).map (fun i => (i.zero, i.size, i.bytes)) = some (some (.int .i64 0), 1, 8) := by kernel_rfl

def cnts (S : List Tb) : List Value := (S.map fun t => Value.int .i64 t.nd).reverse
theorem cnts_length (S : List Tb) : (cnts S).length = S.length := by simp [cnts]
theorem cnts_cons (t : Tb) (r : List Tb) : cnts (t :: r) = cnts r ++ [.int .i64 t.nd] := by simp [cnts]

/-- The tables of one function scope: blocks over the function's own. -/
def FormE (S : List Tb) (FB live peak : Nat) : Prop := ∃ pre f, S = pre ++ [f] ∧ (∀ p ∈ pre, p.blk = true) ∧ f.blk = false ∧ f.b = FB ∧ live = f.nd + sumNd pre ∧ f.md = peak

theorem sumNd_le : ∀ (L : List Tb), ∀ p ∈ L, p.nd ≤ sumNd L
  | t :: r, p, h => by
    cases h with
    | head => simp [sumNd]
    | tail _ h => have := sumNd_le r p h; simp [sumNd]; omega

theorem formE_nd {S : List Tb} {FB live peak : Nat} (h : FormE S FB live peak) : ∀ p ∈ S, p.nd ≤ live := by
  obtain ⟨pre, f, rfl, hpre, hb, _, hl, _⟩ := h
  intro p hp
  simp at hp
  rcases hp with hp | rfl
  · have := sumNd_le pre p hp; omega
  · omega
theorem formE_idx {S : List Tb} {FB live peak : Nat} (h : FormE S FB live peak) (root : Tb) : idx (S ++ [root]) = live := by
  obtain ⟨pre, f, rfl, hpre, hb, _, hl, _⟩ := h
  rw [List.append_assoc, List.singleton_append, idx_pre f [root] hb pre hpre, hl]
theorem formE_par {S : List Tb} {FB live peak : Nat} (h : FormE S FB live peak) (root : Tb) : parOf true (S ++ [root]) = some ⟨root.b + 1, 0, none⟩ := by
  obtain ⟨pre, f, rfl, hpre, hb, _, hl, _⟩ := h
  rw [List.append_assoc, List.singleton_append, par_pre f [root] hb pre hpre]
  rfl
theorem formE_sc {S : List Tb} {FB live peak : Nat} (h : FormE S FB live peak) (root : Tb) : scOf (S ++ [root]) = sLocal := by
  simp [scOf, formE_par h root]

theorem formE_define {t : Tb} {r : List Tb} {FB live peak : Nat} (h : FormE (t :: r) FB live peak) (root : Tb) (es' : Array MapEntry) (ck' : Nat) :
    ∃ t' r', umd (live + 1) (stepL es' ck' (t :: r ++ [root])) = t' :: r' ++ [root] ∧ FormE (t' :: r') FB (live + 1) (if peak < live + 1 then live + 1 else peak) ∧ (t' :: r').map Tb.b = (t :: r).map Tb.b ∧ t'.nd = t.nd + 1 ∧ cnts r' = cnts r := by
  have hp := formE_par h root
  have hst : stepL es' ck' (t :: r ++ [root]) = { t with es := es', ck := ck', nd := t.nd + 1 } :: (r ++ [root]) := stepL_loc es' ck' t (r ++ [root]) hp
  rw [hst]
  obtain ⟨pre, f, e, hpre, hb, hFB, hl, hm⟩ := h
  cases pre with
  | nil =>
    simp only [List.nil_append, List.cons.injEq] at e
    obtain ⟨rfl, rfl⟩ := e
    have hu := umd_pre (live + 1) { t with es := es', ck := ck', nd := t.nd + 1 } [root] hb [] (by simp)
    simp only [List.nil_append, List.map_nil] at hu ⊢
    refine ⟨_, [], hu, ⟨[], _, rfl, by simp, hb, hFB, ?_, ?_⟩, rfl, rfl, rfl⟩
    · rw [mx_nd]; simp [sumNd] at hl ⊢; omega
    · rw [mx_md]; show (if t.md < _ then _ else t.md) = _; rw [hm]
  | cons p pre =>
    simp only [List.cons_append, List.cons.injEq] at e
    obtain ⟨rfl, rfl⟩ := e
    have hpre' : ∀ p ∈ ({ t with es := es', ck := ck', nd := t.nd + 1 } : Tb) :: pre, p.blk = true := by
      intro p hp
      cases hp with
      | head => exact hpre t (.head _)
      | tail _ hp => exact hpre p (.tail _ hp)
    have hu := umd_pre (live + 1) f [root] hb _ hpre'
    refine ⟨mx (live + 1) { t with es := es', ck := ck', nd := t.nd + 1 }, pre.map (mx (live + 1)) ++ [mx (live + 1) f], ?_, ⟨_ :: pre.map (mx (live + 1)), _, rfl, ?_, hb, hFB, ?_, ?_⟩, ?_, rfl, ?_⟩
    · simpa using hu
    · intro q hq
      cases hq with
      | head => exact hpre t (.head _)
      | tail _ hq =>
        obtain ⟨x, hx, rfl⟩ := List.mem_map.1 hq
        exact hpre x (.tail _ hx)
    · have hs : ∀ M : List Tb, sumNd (M.map (mx (live + 1))) = sumNd M := fun M => by induction M with | nil => rfl | cons a b ih => simp [sumNd, ih, mx_nd]
      simp only [sumNd, hs, mx_nd] at hl ⊢
      omega
    · rw [mx_md, hm]
    · simp [Function.comp_def, mx_b]
    · simp [cnts, Function.comp_def, mx_nd]

/-- What stands beside the two rows. -/
structure RestE (w wr : World) (T C len : Nat) (ao' : Option Addr) (V : Nat → Int) (L : List Tb) : Prop where
  chain : Chain wr L
  bs : 0 < len → ao' = some ⟨w.heap.size, 0, none⟩ ∧ wr.rowIs w.heap.size 5 len (fun i => .int .u8 (V i))
  bel : Below w.heap.size w wr
  lo : ∀ p ∈ L, w.heap.size ≤ p.b
  hT : w.heap.size ≤ T
  hC : w.heap.size ≤ C

section
variable {w wr w' : World} {T C len : Nat} {ao' : Option Addr} {V : Nat → Int} {L : List Tb}
theorem RestE.grown (h : RestE w wr T C len ao' V L) (k : Kept (fun _ => False) wr w') : RestE w w' T C len ao' V L :=
  ⟨h.chain.kept k fun _ _ => id, fun hl => ⟨(h.bs hl).1, row_carry (h.bs hl).2 (rows_grown k)⟩, h.bel.trans (k.below h.bel.size fun _ _ => id), h.lo, h.hT, h.hC⟩
theorem kept_of_below {a b : World} (h : Below a.heap.size a b) : Kept (fun _ => False) a b := Kept.of_below h _
/-- A row of elements of another type written. -/
theorem rows_row {X : Nat} {c : Array Value} {e e' : TypeId} (hX : wr.heap[X]? = some (Obj.cells c e (0, 0))) (hne : e' ≠ e) (k : Kept (fun i => i = X) wr w') : ∀ (j : Nat) (c' : Array Value), wr.heap[j]? = some (Obj.cells c' e' (0, 0)) → w'.heap[j]? = wr.heap[j]? :=
  fun j c' hj => k.block j (lt_of_at hj) fun e0 => by rw [e0, hX] at hj; simp at hj; exact hne hj.2.symm
theorem RestE.row (h : RestE w wr T C len ao' V L) {X : Nat} {c : Array Value} {e : TypeId} (hX : wr.heap[X]? = some (Obj.cells c e (0, 0))) (he : e ≠ 50) (he5 : 5 ≠ e) (hXl : w.heap.size ≤ X) (k : Kept (fun i => i = X) wr w') : RestE w w' T C len ao' V L :=
  ⟨h.chain.kept k fun i hi e0 => not_foot_of_type h.chain hX he (e0 ▸ hi), fun hl => ⟨(h.bs hl).1, row_carry (h.bs hl).2 (rows_row hX he5 k)⟩,
    h.bel.trans (k.below h.bel.size fun i hi e0 => by omega), h.lo, h.hT, h.hC⟩
end

theorem owns_cells {w : World} {base T n cap : Nat} {e : TypeId} {xs : List Value} (h : w.ownsRow base e 1 (.slice (some ⟨T, 0, none⟩) n cap) n xs) : ∃ c, w.heap[T]? = some (Obj.cells c e (0, 0)) := by
  rcases h.2 with ⟨h0, _⟩ | ⟨g, cap, cur, hv, _, hh, _⟩
  · simp at h0
  · simp at hv; obtain ⟨rfl, _⟩ := hv; exact ⟨cur, hh⟩
theorem kept_of_grown {w w' : World} {o : Obj} {X : Nat} (hg : (w.alloc o).grownBy w' (some X)) : Kept (fun i => i = X) w w' :=
  ((Kept.refl _ w).alloc o).trans ⟨hg.os, hg.tape, hg.output, hg.size, fun i hi hn => hg.block i hi fun e => hn (Option.some.inj e)⟩

structure InvE (w wr : World) (T C FB R len : Nat) (ao' : Option Addr) (V : Nat → Int) (k live peak : Nat) (S : List Tb) (root : Tb) (cs : List Value) : Prop where
  rest : RestE w wr T C len ao' V (S ++ [root])
  form : FormE S FB live peak
  rb : root.b = R
  rmd : root.md = 0
  rnd : root.nd = 0
  own : wr.ownsRow T 26 1 (.slice (some ⟨T, 0, none⟩) S.length (len + 1)) S.length (ptrs S)
  ownC : wr.ownsRow C 3 1 (.slice (some ⟨C, 0, none⟩) S.length (len + 1)) S.length cs
  dep : S.length ≤ k + 1
  lv : live ≤ k
  pk : peak ≤ k

section
variable {w wr w' : World} {T C FB R len : Nat} {ao' : Option Addr} {V : Nat → Int} {k live peak : Nat} {S : List Tb} {root : Tb} {cs : List Value}
theorem InvE.below (h : InvE w wr T C FB R len ao' V k live peak S root cs) (hb : Below wr.heap.size wr w') : InvE w w' T C FB R len ao' V k live peak S root cs :=
  ⟨h.rest.grown (kept_of_below hb), h.form, h.rb, h.rmd, h.rnd, owns_carry h.own (rows_below hb), owns_carry h.ownC (rows_below hb), h.dep, h.lv, h.pk⟩
theorem InvE.next (h : InvE w wr T C FB R len ao' V k live peak S root cs) : InvE w wr T C FB R len ao' V (k + 1) live peak S root cs :=
  ⟨h.rest, h.form, h.rb, h.rmd, h.rnd, h.own, h.ownC, by have := h.dep; omega, by have := h.lv; omega, by have := h.pk; omega⟩
theorem InvE.ne (h : InvE w wr T C FB R len ao' V k live peak S root cs) : ∃ t r, S = t :: r := by
  obtain ⟨pre, f, e, _⟩ := h.form
  cases pre with
  | nil => exact ⟨f, [], e⟩
  | cons a b => exact ⟨a, b ++ [f], e⟩

/-- A Define at the top of the stack; the counts' row is not yet written. -/
theorem define_E (h : InvE w wr T C FB R len ao' V k live peak S root cs) (hk : k ≤ 4096) {t : Tb} {r : List Tb} (eS : S = t :: r) (name : ByteArray) :
    Calls Eckg.prog 16 #[.pointer (some ⟨t.b + 1, 0, none⟩), .string name] wr fun e w4 => ∃ ns, e = .returned (.pointer (some ⟨ns, 0, none⟩)) ∧ w4.cell? ⟨ns, 2, none⟩ = some (.int .i64 live) ∧ w4.cell? ⟨ns, 1, none⟩ = some (.string ⟨#[76, 79, 67, 65, 76]⟩) ∧
      ∃ t' r', r'.length = r.length ∧ t'.nd = t.nd + 1 ∧ cnts r' = cnts r ∧ InvE w w4 T C FB R len ao' V (k + 1) (live + 1) (if peak < live + 1 then live + 1 else peak) (t' :: r') root cs := by
  subst eS
  have hlv := h.lv
  have hpk := h.pk
  have hix := formE_idx h.form root
  have hnd : ∀ p ∈ t :: (r ++ [root]), p.nd < 1099511627776 := fun p hp => by
    have hp' : p ∈ (t :: r) ++ [root] := hp
    rw [List.mem_append, List.mem_singleton] at hp'
    rcases hp' with hp' | rfl
    · have := formE_nd h.form p hp'; omega
    · rw [h.rnd]; omega
  have hd := define_any name (r ++ [root]) t wr h.rest.chain (by rw [show t :: (r ++ [root]) = (t :: r) ++ [root] from rfl, hix]; omega) hnd
  refine hd.mono ?_
  rintro e w4 ⟨rfl, es', ck', hkeys, hlook, hm⟩
  rw [show t :: (r ++ [root]) = (t :: r) ++ [root] from rfl, hix, formE_sc h.form root] at hm
  obtain ⟨t', r', hu, hf, hmb, hnd', hcn⟩ := formE_define h.form root es' ck'
  have hmc := hm.chain
  rw [hu] at hmc
  have hlen : (t' :: r').length = (t :: r).length := by simpa using congrArg List.length hmb
  refine ⟨_, rfl, by rw [cell_at hm.sym]; rfl, by rw [cell_at hm.sym]; rfl, t', r', by simpa using hlen, hnd', hcn, ⟨hmc, fun hl => ?_, ?_, ?_, h.rest.hT, h.rest.hC⟩, hf, h.rb, h.rmd, h.rnd, ?_, ?_, ?_, by omega, ?_⟩
  · exact ⟨(h.rest.bs hl).1, row_carry (h.rest.bs hl).2 (rows_kept h.rest.chain hm.kept (by decide))⟩
  · refine h.rest.bel.trans (hm.kept.below h.rest.bel.size fun i hi hfoot => ?_)
    obtain ⟨p, hp, e⟩ := hfoot
    have := h.rest.lo p hp
    omega
  · intro p hp
    rw [List.mem_append, List.mem_singleton] at hp
    rcases hp with hp | rfl
    · have : p.b ∈ (t' :: r').map Tb.b := List.mem_map_of_mem hp
      rw [hmb] at this
      obtain ⟨q, hq, e⟩ := List.mem_map.1 this
      have := h.rest.lo q (by simp at hq ⊢; rcases hq with hq | hq <;> simp [hq])
      omega
    · exact h.rest.lo p (by simp)
  · rw [hlen, ptrs_map hmb]
    exact owns_carry h.own (rows_kept h.rest.chain hm.kept (by decide))
  · rw [hlen]
    exact owns_carry h.ownC (rows_kept h.rest.chain hm.kept (by decide))
  · rw [hlen]; have := h.dep; omega
  · split <;> omega

/-- A store into the counts' row. -/
theorem InvE.count (h : InvE w wr T C FB R len ao' V k live peak S root cs) (j : Nat) (v : Value) : InvE w (wr.setCell ⟨C, j, none⟩ v) T C FB R len ao' V k live peak S root (cs.set j v) := by
  obtain ⟨c, hc⟩ := owns_cells h.ownC
  have k1 : Kept (fun i => i = C) wr (wr.setCell ⟨C, j, none⟩ v) := (Kept.refl _ _).setCell _ _ fun _ => rfl
  exact ⟨h.rest.row hc (by decide) (by decide) h.rest.hC k1, h.form, h.rb, h.rmd, h.rnd, owns_carry h.own (rows_row hc (by decide) k1), (h.ownC.stored j v).1, h.dep, h.lv, h.pk⟩

/-- The top taken off. -/
theorem InvE.pop {t p : Tb} {r : List Tb} (h : InvE w wr T C FB R len ao' V k live peak (t :: p :: r) root (cnts (t :: p :: r))) : InvE w wr T C FB R len ao' V (k + 1) (live - t.nd) peak (p :: r) root (cnts (p :: r)) ∧ t.nd ≤ live := by
  obtain ⟨pre, f, e, hpre, hb, hFB, hl, hm⟩ := h.form
  have hd := h.dep
  have hlv := h.lv
  have hpk := h.pk
  cases pre with
  | nil => simp at e
  | cons x pre =>
    simp only [List.cons_append, List.cons.injEq] at e
    obtain ⟨rfl, e⟩ := e
    simp only [sumNd] at hl
    refine ⟨⟨⟨h.rest.chain.tail, h.rest.bs, h.rest.bel, fun q hq => h.rest.lo q (.tail _ hq), h.rest.hT, h.rest.hC⟩, ⟨pre, f, e, fun q hq => hpre q (.tail _ hq), hb, hFB, by omega, hm⟩, h.rb, h.rmd, h.rnd, ?_, ?_, by simp at hd ⊢; omega, by omega, by omega⟩, by omega⟩
    · have ho := h.own
      rw [ptrs_cons] at ho
      exact ownsRow_pop (by rw [ptrs_length]; simp) ho
    · have ho := h.ownC
      rw [cnts_cons] at ho
      exact ownsRow_pop (by rw [cnts_length]; simp) ho

/-- Behind the fork and the stack's append the counts are still owned. -/
theorem InvE.mid {w3 w4 : World} {o : Obj} (h : InvE w wr T C FB R len ao' V k live peak S root cs) (k3 : Kept (fun _ => False) wr w3) (hg : (w3.alloc o).grownBy w4 (some T)) :
    w4.ownsRow C 3 1 (.slice (some ⟨C, 0, none⟩) S.length (len + 1)) S.length cs := by
  obtain ⟨c, hc⟩ := owns_cells (owns_carry h.own (rows_grown k3))
  exact owns_carry (owns_carry h.ownC (rows_grown k3)) (rows_row hc (by decide) (kept_of_grown hg))

/-- A block opened. -/
theorem InvE.push {w3 w4 : World} {o o' : Obj} (h : InvE w wr T C FB R len ao' V k live peak S root (cnts S)) (h3 : Chain w3 (fresh wr.heap.size true :: (S ++ [root]))) (k3 : Kept (fun _ => False) wr w3)
    (own4 : w4.ownsRow T 26 1 (.slice (some ⟨T, 0, none⟩) (S.length + 1) (len + 1)) (S.length + 1) (ptrs S ++ [.pointer (some ⟨wr.heap.size + 1, 0, none⟩)])) (g4 : (w3.alloc o).grownBy w4 (some T))
    (own5 : w'.ownsRow C 3 1 (.slice (some ⟨C, 0, none⟩) (S.length + 1) (len + 1)) (S.length + 1) (cnts S ++ [.int .i64 0])) (g5 : (w4.alloc o').grownBy w' (some C)) :
    InvE w w' T C FB R len ao' V (k + 1) live peak (fresh wr.heap.size true :: S) root (cnts (fresh wr.heap.size true :: S)) := by
  have hsz := h.rest.bel.size
  have r3 : RestE w w3 T C len ao' V (fresh wr.heap.size true :: (S ++ [root])) := by
    have r0 := h.rest.grown k3
    refine ⟨h3, r0.bs, r0.bel, fun p hp => ?_, r0.hT, r0.hC⟩
    cases hp with
    | head => simp [fresh]; exact hsz
    | tail _ hp => exact h.rest.lo p hp
  obtain ⟨cT, hcT⟩ := owns_cells (owns_carry h.own (rows_grown k3))
  have r4 := r3.row hcT (by decide) (by decide) h.rest.hT (kept_of_grown g4)
  obtain ⟨cC, hcC⟩ := owns_cells (h.mid k3 g4)
  have r5 := r4.row hcC (by decide) (by decide) h.rest.hC (kept_of_grown g5)
  obtain ⟨pre, f, e, hpre, hrest⟩ := h.form
  have hd := h.dep
  have hlv := h.lv
  have hpk := h.pk
  refine ⟨r5, ⟨_ :: pre, f, by rw [e]; rfl, ?_, ?_⟩, h.rb, h.rmd, h.rnd, ?_, ?_, by simp; omega, by omega, by omega⟩
  · intro p hp
    cases hp with
    | head => rfl
    | tail _ hp => exact hpre p hp
  · obtain ⟨a, b, c, d⟩ := hrest
    exact ⟨a, b, by simp [sumNd, fresh]; omega, d⟩
  · rw [ptrs_cons]
    exact owns_carry own4 (rows_row hcC (by decide) (kept_of_grown g5))
  · rw [cnts_cons]
    exact own5
end

/-- The start. -/
theorem invE_start {w w1 w2 w3 : World} {len : Nat} {ao' : Option Addr} {V : Nat → Int} (hlen : len ≤ 4096) (hbel : Below w.heap.size w w1) (hrow : 0 < len → ao' = some ⟨w.heap.size, 0, none⟩ ∧ w1.rowIs w.heap.size 5 len (fun i => .int .u8 (V i)))
    (k2 : Kept (fun _ => False) w1 w2) (s2 : w2.heap.size = w1.heap.size + 2) (h3 : Chain w3 [fresh w2.heap.size false, fresh w1.heap.size false]) (k3 : Kept (fun _ => False) w2 w3) {w4 w5 : World}
    (hw4 : w4 = (mkRow w3 (.pointer none) (len + 1) 26).setCell ⟨w3.heap.size, 0, none⟩ (.pointer (some ⟨w2.heap.size + 1, 0, none⟩))) (hw5 : w5 = mkRow w4 (.int .i64 0) (len + 1) 3) :
    InvE w w5 w3.heap.size w4.heap.size w2.heap.size w1.heap.size len ao' V 0 0 0 [fresh w2.heap.size false] (fresh w1.heap.size false) (cnts [fresh w2.heap.size false]) := by
  have hs0 := hbel.size
  have hs2 := k2.size
  have hs3 := k3.size
  have r3 : RestE w w3 w3.heap.size w4.heap.size len ao' V [fresh w2.heap.size false, fresh w1.heap.size false] := by
    have kk := k2.trans k3
    have hs4 : w3.heap.size ≤ w4.heap.size := by rw [hw4]; simp [mkRow]
    refine ⟨h3, fun hl => ⟨(hrow hl).1, row_carry (hrow hl).2 (rows_grown kk)⟩, hbel.trans (kk.below hs0 fun _ _ => id), fun p hp => ?_, by omega, by omega⟩
    simp at hp
    rcases hp with rfl | rfl
    · simp [fresh]; omega
    · simp [fresh]; exact hs0
  have hr := mkRow_row w3 (.pointer none) (len + 1) 26
  have r3' := r3.grown (mkRow_kept w3 (.pointer none) (len + 1) 26)
  obtain ⟨c, hc, hcs, hcv⟩ := hr
  have k4 : Kept (fun i => i = w3.heap.size) (mkRow w3 (.pointer none) (len + 1) 26) w4 := by rw [hw4]; exact (Kept.refl _ _).setCell _ _ fun _ => rfl
  have r4 := r3'.row hc (by decide) (by decide) r3.hT k4
  have own4 : w4.ownsRow w3.heap.size 26 1 (.slice (some ⟨w3.heap.size, 0, none⟩) 1 (len + 1)) 1 [.pointer (some ⟨w2.heap.size + 1, 0, none⟩)] := owns_first hlen ⟨c, hc, hcs, hcv⟩ (Nat.le_refl _) hw4
  have k5 := mkRow_kept w4 (.int .i64 0) (len + 1) 3
  have r5 := r4.grown k5
  rw [← hw5] at k5 r5
  have hrC := mkRow_row w4 (.int .i64 0) (len + 1) 3
  rw [← hw5] at hrC
  refine ⟨r5, ⟨[], _, rfl, by simp, rfl, rfl, rfl, rfl⟩, rfl, rfl, rfl, owns_carry own4 (rows_grown k5), ?_, by simp, Nat.le_refl _, Nat.le_refl _⟩
  obtain ⟨c', hc', hcs', hcv'⟩ := hrC
  refine ⟨rfl, .inr ⟨w4.heap.size, len + 1, c', rfl, Nat.le_refl _, hc', by simp, by unfold maxLen; omega, by simp [hcs'], ?_⟩⟩
  have h1 := hcv' 0 (by omega)
  obtain ⟨l⟩ := c'
  cases l with
  | nil => simp at hcs'
  | cons a l => simp at h1; simp [cnts, fresh, h1]

set_option maxRecDepth 100000 in
set_option maxHeartbeats 2000000 in
theorem lawE_short (ao : Option Addr) (len cap : Nat) (V : Nat → Int) (w : World) (hlen : len ≤ 4096) (hV : ∀ i, 0 ≤ V i ∧ V i ≤ 255)
    (h : (ao = none ∧ len = 0 ∧ cap = 0) ∨ ∃ a, ao = some a ∧ ∀ i, i < len → w.cell? (a.add i) = some (.int .u8 (V i))) :
    Calls Eckg.prog 6 #[.slice ao len cap] w fun e w' => e = .returned (.bool true) ∧ Below w.heap.size w w' := by
  have hd : decide ((4096 : Int) < (len : Int)) = false := by simp; omega
  have hmk := run_make1 25 26 (.pointer none) Eckg.underlying25 info26 rfl len hlen
  have hmk2 := run_make1 44 3 (.int .i64 0) Eckg.underlying44 info3b rfl len hlen
  have HC := hide (copyBytes_all ao len cap V w hlen h)
  have HV := hide hV
  clear h hV
  go_enter Eckg.func6, Eckg.ntmps6
  go_wp2_with (go_at_call 21; refine (bytes21_yes _ _ _ (by omega) _).mono ?_; rintro e w' ⟨rfl, hw'⟩; replace hw' := hw'.symm; subst hw')
  go_at_call 22
  refine HC.out.mono ?_
  rintro e w1 ⟨ao', rfl, hrow, hbel⟩
  have HROW := hide hrow
  have HBEL := hide hbel
  clear hrow hbel HC
  go_wp2_with fail
  go_at_call 12
  refine (new_c _).mono ?_
  rintro e w2 ⟨rfl, h2, k2, s2⟩
  have H2 := hide h2
  have K2 := hide k2
  have S2 := hide s2
  clear h2 k2 s2
  go_wp2_with fail
  go_at_call 13
  refine (fork_c _ (fresh w1.heap.size false) [] false H2.out).mono ?_
  rintro e w3 ⟨rfl, h3, k3, s3⟩
  have HST := hide (fun w4 w5 hw4 hw5 => invE_start (w4 := w4) (w5 := w5) hlen HBEL.out HROW.out K2.out S2.out h3 k3 hw4 hw5)
  clear h3 k3 s3 H2 K2 S2
  have hc0 := (mkRow_row w3 (.pointer none) (len + 1) 26).cell (i := 0) (by omega)
  have hf0 := (mkRow_row w3 (.pointer none) (len + 1) 26).frozen 0
  have hsz4 : ((mkRow w3 (.pointer none) (len + 1) 26).setCell ⟨w3.heap.size, 0, none⟩ (.pointer (some ⟨w2.heap.size + 1, 0, none⟩))).heap.size = w3.heap.size + 1 := by simp [mkRow]
  go_wp2_with fail
  generalize hw5 : mkRow (World.setCell _ _ _) _ _ _ = w5
  have HI := hide (HST.out _ w5 rfl hw5.symm)
  rw [hsz4] at HI
  clear hw5 HST HROW HBEL hc0 hf0 hmk hmk2 hsz4
  generalize w3.heap.size = T at *
  generalize w2.heap.size = FB at *
  generalize w1.heap.size = R at *
  generalize T + 1 = C at *
  clear w1 w2 w3
  obtain ⟨i0, hi0, hz0, hz1, hz2⟩ := info_parts info26
  obtain ⟨i3, hi3, hy0, hy1, hy2⟩ := info_parts info3b
  go_loopw [5, 6, 7, 8, 9] (fun st ct lv pk i wr => ∃ (k live peak : Nat) (S : List Tb) (root : Tb), k ≤ len ∧ i = .int .i64 k ∧ lv = .int .i64 live ∧ pk = .int .i64 peak ∧ st = .slice (some ⟨T, 0, none⟩) S.length (len + 1) ∧ ct = .slice (some ⟨C, 0, none⟩) S.length (len + 1) ∧
      InvE w wr T C FB R len ao' V k live peak S root (cnts S)) (fun _ _ _ _ i _ => len - (intOf i).toNat)
  case atStart => exact ⟨0, 0, 0, _, _, Nat.zero_le _, rfl, rfl, rfl, rfl, rfl, HI.out⟩
  case round =>
    obtain ⟨k, live, peak, S, root, hk, rfl, rfl, rfl, rfl, rfl, hinv⟩ := hrel
    have HINV := hide hinv
    clear HI w5
    have hlv := hinv.lv
    have hpk := hinv.pk
    have hdep := hinv.dep
    obtain ⟨t, r, eS⟩ := hinv.ne
    by_cases hlt : k < len
    · obtain ⟨hao, hbs⟩ := hinv.rest.bs (by omega)
      subst hao
      have hki : (k : Int) < (len : Int) := by omega
      have cb := hbs.cell hlt
      have hVk := HV.out k
      have hSl : S.length = r.length + 1 := by rw [eS]; rfl
      have ct : wr.cell? ⟨T, r.length, none⟩ = some (.pointer (some ⟨t.b + 1, 0, none⟩)) := by
        rw [hinv.own.cellAt r.length (by omega), eS, ptrs_cons, List.getElem?_append_right (by simp [ptrs_length]), ptrs_length]
        simp
      have cc : wr.cell? ⟨C, r.length, none⟩ = some (.int .i64 t.nd) := by
        rw [hinv.ownC.cellAt r.length (by omega), eS, cnts_cons, List.getElem?_append_right (by simp [cnts_length]), cnts_length]
        simp
      rw [hSl] at hdep ⊢
      have HES := hide eS
      have HSL := hide hSl
      obtain ⟨d, hrl⟩ : ∃ d, r.length = d := ⟨_, rfl⟩
      rw [hrl] at hdep ct cc HSL ⊢
      have HRL := hide hrl
      clear eS hSl hbs hinv hrl
      generalize V k = v at *
      by_cases h0 : v % 3 = 0
      · have hb0 : (v % 3 == 0) = true := by simp [h0]
        have HX : Hid (∀ w3, Below wr.drew.heap.size wr.drew w3 → w3.cell? ⟨T, d, none⟩ = some (.pointer (some ⟨t.b + 1, 0, none⟩))) := fun w3 hb => (hb.cell (p := ⟨T, d, none⟩) (World.block_lt_of_cell? _ _ ct)).trans ct
        have HDEF : Hid (∀ w3, Below wr.drew.heap.size wr.drew w3 → ∀ name, Calls Eckg.prog 16 #[.pointer (some ⟨t.b + 1, 0, none⟩), .string name] w3 fun e w4 => ∃ ns, e = .returned (.pointer (some ⟨ns, 0, none⟩)) ∧ w4.cell? ⟨ns, 2, none⟩ = some (.int .i64 live) ∧ w4.cell? ⟨ns, 1, none⟩ = some (.string ⟨#[76, 79, 67, 65, 76]⟩) ∧
            ∃ t' r', r'.length = r.length ∧ t'.nd = t.nd + 1 ∧ cnts r' = cnts r ∧ InvE w w4 T C FB R len (some ⟨w.heap.size, 0, none⟩) V (k + 1) (live + 1) (if peak < live + 1 then live + 1 else peak) (t' :: r') root (cnts S)) := fun w3 hb name =>
          define_E (HINV.out.below ⟨hb.os, hb.tape, hb.output, hb.size, hb.block⟩) (by omega) HES.out name
        have hsz := itoa_size k
        have HIT := hide (itoa_any k (by omega))
        generalize itoa k = sk at *
        go_wp2_with fail
        clear hb0 h0
        go_cut [11] (fun s wx => ∃ ns, s = .pointer (some ⟨ns, 0, none⟩) ∧ wx.cell? ⟨ns, 2, none⟩ = some (.int .i64 live) ∧ wx.cell? ⟨ns, 1, none⟩ = some (.string ⟨#[76, 79, 67, 65, 76]⟩) ∧
            ∃ t' r', r'.length = r.length ∧ t'.nd = t.nd + 1 ∧ cnts r' = cnts r ∧ InvE w wx T C FB R len (some ⟨w.heap.size, 0, none⟩) V (k + 1) (live + 1) (if peak < live + 1 then live + 1 else peak) (t' :: r') root (cnts S))
        case first =>
          go_region_with (first | (go_at_call 18; refine (HIT.out _).mono ?_; rintro e w3 ⟨rfl, hb3⟩; have cx := HX.out w3 hb3) | (go_at_call 16; refine (HDEF.out _ (by assumption) _).mono ?_; rintro e w4 ⟨ns, rfl, y2, y1, hL⟩; replace hL := hide hL))
          all_goals
            go_wp2_with fail
            go_meet
            exact ⟨ns, rfl, y2, y1, hL.out⟩
        case rest =>
          obtain ⟨ns, rfl, y2, y1, t', r', hr', hnd', hcn', hi'⟩ := hcut
          have c4 : wc.cell? ⟨C, d, none⟩ = some (.int .i64 t.nd) := by
            rw [hi'.ownC.cellAt d (by simp; have := HRL.out; omega), HES.out, cnts_cons, List.getElem?_append_right (by simp [cnts_length]; have := HRL.out; omega), cnts_length]
            have := HRL.out
            simp [this]
          have f4 : wc.frozen? ⟨C, d, none⟩ = false := hi'.ownC.frozenAt d
          have htn : t.nd ≤ live := formE_nd HINV.out.form t (by rw [HES.out]; simp)
          have hfin : InvE w (wc.setCell ⟨C, d, none⟩ (.int .i64 ((t.nd : Int) + 1))) T C FB R len (some ⟨w.heap.size, 0, none⟩) V (k + 1) (live + 1) (if peak < live + 1 then live + 1 else peak) (t' :: r') root (cnts (t' :: r')) := by
            have h1 := hi'.count d (.int .i64 ((t.nd : Int) + 1))
            have e1 : (cnts S).set d (.int .i64 ((t.nd : Int) + 1)) = cnts (t' :: r') := by
              rw [HES.out, cnts_cons, cnts_cons, hcn', hnd', List.set_append_right _ _ (by simp [cnts_length]; have := HRL.out; omega), cnts_length]
              have := HRL.out
              simp [this]
            rw [e1] at h1
            exact h1
          have hlen' : (t' :: r').length = d + 1 := by simp; have := HRL.out; omega
          have HFIN := hide hfin
          have HLEN := hide hlen'
          clear hfin hlen' hi' hr' hnd' hcn'
          by_cases hp : peak < live + 1
          · have hpi : (peak : Int) < (live : Int) + 1 := by omega
            rw [if_pos hp] at HFIN
            clear hp
            go_wp2_with fail
            go_roundw
            case rel => exact ⟨k + 1, live + 1, live + 1, t' :: r', root, by omega, by go_num, by go_num, by go_num, by rw [HLEN.out], by rw [HLEN.out], HFIN.out⟩
            case measure => simp [intOf]; omega
          · have hpi : ¬ (peak : Int) < (live : Int) + 1 := by omega
            rw [if_neg hp] at HFIN
            clear hp
            go_wp2_with fail
            go_roundw
            case rel => exact ⟨k + 1, live + 1, peak, t' :: r', root, by omega, by go_num, by go_num, rfl, by rw [HLEN.out], by rw [HLEN.out], HFIN.out⟩
            case measure => simp [intOf]; omega
      · have hb0 : (v % 3 == 0) = false := by simp [h0]
        by_cases h1 : v % 3 = 1
        · have hb1 : (v % 3 == 1) = true := by simp [h1]
          have HFK := hide (fork_c wr t (r ++ [root]) true (by have := HINV.out.rest.chain; rw [HES.out] at this; exact this))
          go_wp2_with fail
          go_at_call 13
          refine HFK.out.mono ?_
          rintro e w3 ⟨rfl, h3, k3, s3⟩
          have h3' : Chain w3 (fresh wr.heap.size true :: (S ++ [root])) := by rw [HES.out]; exact h3
          have HO3 : Hid (w3.ownsRow T 26 1 (.slice (some ⟨T, 0, none⟩) (d + 1) (len + 1)) (d + 1) (ptrs S)) := by
            have := owns_carry HINV.out.own (rows_grown k3)
            rw [HSL.out] at this
            exact this
          have HMID : Hid (∀ w4 o, (w3.alloc o).grownBy w4 (some T) → w4.ownsRow C 3 1 (.slice (some ⟨C, 0, none⟩) (d + 1) (len + 1)) (d + 1) (cnts S)) := fun w4 o hg => by
            have := HINV.out.mid k3 hg
            rw [HSL.out] at this
            exact this
          have HPU : Hid (∀ w4 o w5 o', w4.ownsRow T 26 1 (.slice (some ⟨T, 0, none⟩) (d + 1 + 1) (len + 1)) (d + 1 + 1) (ptrs S ++ [.pointer (some ⟨wr.heap.size + 1, 0, none⟩)]) → (w3.alloc o).grownBy w4 (some T) →
              w5.ownsRow C 3 1 (.slice (some ⟨C, 0, none⟩) (d + 1 + 1) (len + 1)) (d + 1 + 1) (cnts S ++ [.int .i64 0]) → (w4.alloc o').grownBy w5 (some C) →
              InvE w w5 T C FB R len (some ⟨w.heap.size, 0, none⟩) V (k + 1) live peak (fresh wr.heap.size true :: S) root (cnts (fresh wr.heap.size true :: S))) := fun w4 o w5 o' ho hg ho5 hg5 => by
            refine InvE.push HINV.out h3' k3 (o := o) (o' := o') ?_ hg ?_ hg5
            · rw [HSL.out]; exact ho
            · rw [HSL.out]; exact ho5
          clear h3 h3' k3 s3 HFK h1 h0
          go_wp2_with (at_builtin; refine wpList_append_fits _ rfl _ _ 25 rfl T 26 i0 1 Eckg.underlying25 hi0 hz1 T (d + 1) (len + 1) (ptrs S) rfl (HO3.out.alloc _) ⟨w3.heap.size, 0, none⟩ 1 1 [.pointer (some ⟨wr.heap.size + 1, 0, none⟩)] rfl rfl (cell_one_new _ _ _) ?hone ?hcap ?hnext)
          case hone => intro u hu; simp at hu; subst hu; rfl
          case hcap => omega
          case hnext =>
            intro w4 hown4 hgrow4
            have HO4 := hide (HMID.out _ _ hgrow4)
            have HOW4 := hide hown4
            have HG4 := hide hgrow4
            clear hown4 hgrow4 HMID HO3
            go_wp2_with (at_builtin; refine wpList_append_fits _ rfl _ _ 44 rfl C 3 i3 1 Eckg.underlying44 hi3 hy1 C (d + 1) (len + 1) (cnts S) rfl (HO4.out.alloc _) ⟨w4.heap.size, 0, none⟩ 1 1 [.int .i64 0] rfl rfl (cell_one_new _ _ _) ?hone ?hcap ?hnext2)
            case hone => intro u hu; simp at hu; subst hu; rfl
            case hcap => omega
            case hnext2 =>
              intro w5 hown5 hgrow5
              have HN := hide (HPU.out _ _ _ _ HOW4.out HG4.out hown5 hgrow5)
              clear hown5 hgrow5
              go_wp2_with fail
              go_roundw
              case rel => exact ⟨k + 1, live, peak, _, root, by omega, by go_num, rfl, rfl, by simp [HSL.out], by simp [HSL.out], HN.out⟩
              case measure => simp [intOf]; omega
        · have hb1 : (v % 3 == 1) = false := by simp [h1]
          clear h1 h0
          cases r with
          | nil =>
            have hd0 : d = 0 := by have := HRL.out; simp at this; omega
            subst hd0
            go_wp2_with fail
            go_roundw
            case rel => exact ⟨k + 1, live, peak, S, root, by omega, by go_num, rfl, rfl, by rw [HSL.out], by rw [HSL.out], HINV.out.next⟩
            case measure => simp [intOf]; omega
          | cons p r' =>
            obtain ⟨d', rfl⟩ : ∃ d', d = d' + 1 := ⟨r'.length, by have := HRL.out; simp at this; omega⟩
            have hpop := InvE.pop (by have := HINV.out; rw [HES.out] at this; exact this)
            have htn : (t.nd : Int) ≤ (live : Int) := by have := hpop.2; omega
            have HPO := hide hpop.1
            have HTN := hide hpop.2
            clear hpop
            go_wp2_with fail
            go_roundw
            case rel => exact ⟨k + 1, live - t.nd, peak, p :: r', root, by omega, by go_num, by have := HTN.out; go_num, rfl, by rw [HRL.out], by rw [HRL.out], HPO.out⟩
            case measure => simp [intOf]; omega
    · have hkl : k = len := by omega
      subst hkl
      have hki : ¬ (k : Int) < (k : Int) := by omega
      obtain ⟨pre, f, e, hpre, hb, hFb, hn, hm⟩ := hinv.form
      have hch := hinv.rest.chain
      have hroot : Tab wr root none := (Chain.suffix hch).head
      have hf : Tab wr f (up [root]) := by
        rw [e, List.append_assoc] at hch
        exact (Chain.suffix hch).head
      have HM1 := hide (maxSyms_any wr f _ hf)
      have HM2 := hide (maxSyms_any wr root none hroot)
      rw [hFb, hm] at HM1
      rw [hinv.rb, hinv.rmd] at HM2
      clear hinv e hpre hb hFb hn hm hroot hf hch eS hlt
      go_wp2_with (first | (go_at_call_of 17 (Value.pointer (some { block := FB + 1, off := 0 })); refine HM1.out.mono ?_; rintro e w' ⟨rfl, hw'⟩; replace hw' := hw'.symm; subst hw') | (go_at_call_of 17 (Value.pointer (some { block := R + 1, off := 0 })); refine HM2.out.mono ?_; rintro e w' ⟨rfl, hw'⟩; replace hw' := hw'.symm; subst hw'))
      go_ret
      exact ⟨rfl, HINV.out.rest.bel⟩

set_option maxHeartbeats 400000 in
theorem lawE_long (ao : Option Addr) (len cap : Nat) (w : World) (hlen : 1048576 < len) :
    Calls Eckg.prog 6 #[.slice ao len cap] w fun e w' => e = .returned (.bool true) ∧ Below w.heap.size w w' := by
  go_enter Eckg.func6, Eckg.ntmps6
  go_wp2_with (go_at_call 21; refine (bytes21_no _ _ _ (by omega) _).mono ?_; rintro e w' ⟨rfl, hw'⟩; replace hw' := hw'.symm; subst hw')
  go_ret
  exact ⟨rfl, Below.refl _ _⟩

set_option maxHeartbeats 400000 in
theorem lawE_mid (ao : Option Addr) (len cap : Nat) (w : World) (h1 : len ≤ 1048576) (h2 : 4096 < len) :
    Calls Eckg.prog 6 #[.slice ao len cap] w fun e w' => e = .returned (.bool true) ∧ Below w.heap.size w w' := by
  have h4 : (4096 : Int) < (len : Int) := by omega
  go_enter Eckg.func6, Eckg.ntmps6
  go_wp2_with (go_at_call 21; refine (bytes21_yes _ _ _ (by omega) _).mono ?_; rintro e w' ⟨rfl, hw'⟩; replace hw' := hw'.symm; subst hw')
  go_ret
  exact ⟨rfl, Below.refl _ _⟩

/-- FnMaxSymbolsLocalPeak returns true, whatever bytes came in, and leaves old memory alone. -/
theorem lawE_any (ao : Option Addr) (len cap : Nat) (V : Nat → Int) (w : World) (hV : ∀ i, 0 ≤ V i ∧ V i ≤ 255)
    (h : (ao = none ∧ len = 0 ∧ cap = 0) ∨ ∃ a, ao = some a ∧ ∀ i, i < len → w.cell? (a.add i) = some (.int .u8 (V i))) :
    Calls Eckg.prog 6 #[.slice ao len cap] w fun e w' => e = .returned (.bool true) ∧ Below w.heap.size w w' := by
  by_cases h1 : 1048576 < len
  · exact lawE_long ao len cap w h1
  · by_cases h2 : 4096 < len
    · exact lawE_mid ao len cap w (by omega) h2
    · exact lawE_short ao len cap V w (by omega) hV h

end Go.Proofs.Yoeckw
