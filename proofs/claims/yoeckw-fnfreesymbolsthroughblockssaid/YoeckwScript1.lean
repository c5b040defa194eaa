/-
  zzFreeScriptB2, the first two loops: the globals, then the locals.
-/
import Derived.Test.YoeckwNames
import Derived.Test.YoeckwFree
namespace Go.Proofs.Yoeckw
open Go.RowKit

/-- 'make([]T, n)'. -/
theorem run_makeN (t e : TypeId) (z : Value) (ht : Eckg.prog.underlying t = some (.slice e)) (hi : (Eckg.prog.info? e).map (fun i => (i.zero, i.size, i.bytes)) = some (some z, 1, 8)) (hz : z.cells = #[z]) (n : Nat) (hn : n ≤ 4097) (w : World) :
    (Instr.makeSlice t (.int .i64 (n : Int)) (.int .i64 (n : Int))).run Eckg.prog w = .ok (.slice (some ⟨w.heap.size, 0, none⟩) n n) (mkRow w z n e) :=
  run_make_row' (P := Eckg.prog) t e z 8 ht hi hz .i64 .i64 n (by omega) (by omega) w

theorem rowIs_keep {w w' : World} {b n : Nat} {e : TypeId} {f : Nat → Value} {S : Nat → Prop} (h : w.rowIs b e n f) (k : Kept S w w') (hb : ¬ S b) : w'.rowIs b e n f := h.of_block (k.block b h.lt hb)

structure G1 (w wr : World) (nG GB k : Nat) (root : Tb) (gs : Nat → Nat) : Prop where
  chain : Chain wr [root]
  rb : root.b = w.heap.size
  blk : root.blk = false
  nd : root.nd = k
  fs : root.fs = .slice none 0 0
  names : Names wr root.es nmG sGlobal k gs
  row : wr.rowIs GB 29 nG (fun i => if i < k then .pointer (some ⟨gs i, 0, none⟩) else .pointer none)
  bel : Below w.heap.size w wr
  hGB : w.heap.size ≤ GB

theorem syms_grown {w w' : World} (k : Kept (fun _ => False) w w') : ∀ (j : Nat) (c : Array Value), w.heap[j]? = some (Obj.cells c 33 (0, 0)) → w'.heap[j]? = w.heap[j]? := rows_grown k

theorem g1_start {w w1 : World} (nG : Nat) (h1 : Chain w1 [fresh w.heap.size false]) (k1 : Kept (fun _ => False) w w1) : G1 w (mkRow w1 (.pointer none) nG 29) nG w1.heap.size 0 (fresh w.heap.size false) (fun _ => 0) := by
  have k2 := mkRow_kept w1 (.pointer none) nG 29
  exact ⟨h1.kept k2 fun _ _ => id, rfl, rfl, rfl, rfl, Names.empty _ _ _ _, (mkRow_row w1 (.pointer none) nG 29).congr fun i _ => by simp, (k1.trans k2).below (Nat.le_refl _) fun _ _ => id, k1.size⟩

theorem row_store {w : World} {b n k : Nat} {e : TypeId} {sy : Nat → Nat} {s : Nat} (h : w.rowIs b e n (fun i => if i < k then .pointer (some ⟨sy i, 0, none⟩) else .pointer none)) :
    (w.setCell ⟨b, k, none⟩ (.pointer (some ⟨s, 0, none⟩))).rowIs b e n (fun i => if i < k + 1 then .pointer (some ⟨if i = k then s else sy i, 0, none⟩) else .pointer none) := by
  refine (h.set k _).congr fun i _ => ?_
  by_cases e : i = k
  · subst e; simp
  · by_cases h1 : i < k
    · simp [e, h1, show i < k + 1 by omega]
    · simp [e, h1, show ¬ i < k + 1 by omega]

theorem store_kept (w : World) (b i : Nat) (v : Value) : Kept (fun j => j = b) w (w.setCell ⟨b, i, none⟩ v) := (Kept.refl _ _).setCell _ _ fun _ => rfl

/-- A global more. -/
theorem define_G1 {w wr w3 : World} {nG GB k : Nat} {root : Tb} {gs : Nat → Nat} (h : G1 w wr nG GB k root gs) (hk : k < nG) (hn : nG ≤ 4096) (hb : Below wr.heap.size wr w3) :
    Calls Eckg.prog 16 #[.pointer (some ⟨w.heap.size + 1, 0, none⟩), .string (nmG k)] w3 fun e w4 => ∃ ns, e = .returned (.pointer (some ⟨ns, 0, none⟩)) ∧ w4.cell? ⟨GB, k, none⟩ = some (.pointer none) ∧ w4.frozen? ⟨GB, k, none⟩ = false ∧
      ∃ root' gs', G1 w (w4.setCell ⟨GB, k, none⟩ (.pointer (some ⟨ns, 0, none⟩))) nG GB (k + 1) root' gs' := by
  have h3 := h.chain.below hb
  have hix : idx [root] = k := by simp [idx, h.blk, h.nd]
  have hsc : scOf [root] = sGlobal := by simp [scOf, parOf, h.blk, up]
  have hd := define_any (nmG k) [] root w3 h3 (by rw [hix]; omega) (fun p hp => by simp at hp; subst hp; rw [h.nd]; omega)
  rw [h.rb] at hd
  refine hd.mono ?_
  rintro e w4 ⟨rfl, es', ck', hkeys, hl, hm⟩
  rw [hix, hsc, stepL_root es' ck' root h.blk] at hm
  have hu := umd_pre (k + 1) { root with es := es', ck := ck', nd := root.nd + 1 } [] h.blk [] (by simp)
  rw [List.nil_append] at hu
  rw [hu] at hm
  have hrow4 : w4.rowIs GB 29 nG _ := row_carry (row_carry h.row (rows_below hb)) (rows_kept h3 hm.kept (by decide))
  have hn4 : Names w4 root.es nmG sGlobal k gs := (h.names.keep (rows_below hb)).keep (rows_kept h3 hm.kept (by decide))
  have hc := hrow4.cell hk
  rw [if_neg (by omega)] at hc
  obtain ⟨cG, hcG, _⟩ := id hrow4
  have ks := store_kept w4 GB k (.pointer (some ⟨w3.heap.size, 0, none⟩))
  have hlow : w.heap.size ≤ wr.heap.size := h.bel.size
  refine ⟨_, rfl, hc, hrow4.frozen k, mx (k + 1) { root with es := es', ck := ck', nd := root.nd + 1 }, fun i => if i = k then w3.heap.size else gs i, ?_, h.rb, h.blk, ?_, h.fs, ?_, row_store hrow4, ?_, h.hGB⟩
  · refine hm.chain.kept ks fun i hi e0 => not_foot_of_type hm.chain hcG (by decide) (e0 ▸ hi)
  · rw [mx_nd]; show root.nd + 1 = _; rw [h.nd]
  · have := hn4.add (es' := es') (fun i hi e => by have := nmG_inj (by omega) (by omega) e; omega) hl hm.sym
    exact this.keep fun j c hj => ks.block j (lt_of_at hj) fun e0 => by rw [e0, hcG] at hj; simp at hj
  · refine ((h.bel.trans (hb.mono hlow)).trans (hm.kept.below (Nat.le_trans hlow hb.size) fun i hi hf => ?_)).trans (ks.below (Nat.le_trans hlow (Nat.le_trans hb.size hm.kept.size)) fun i hi e0 => by have := h.hGB; omega)
    obtain ⟨p, hp, e⟩ := hf
    simp at hp
    subst hp
    have := h.rb
    omega

structure G2 (w wr : World) (nL nG GB LB FB k : Nat) (f root : Tb) (gs ls : Nat → Nat) : Prop where
  chain : Chain wr [f, root]
  fblk : f.blk = false
  fnd : f.nd = k
  ffs : f.fs = .slice none 0 0
  fb : f.b = FB
  rb : root.b = w.heap.size
  rfs : root.fs = .slice none 0 0
  rnd : root.nd ≤ 4096
  nmsG : Names wr root.es nmG sGlobal nG gs
  nmsL : Names wr f.es nmL sLocal k ls
  rowG : wr.rowIs GB 29 nG (fun i => .pointer (some ⟨gs i, 0, none⟩))
  rowL : wr.rowIs LB 29 nL (fun i => if i < k then .pointer (some ⟨ls i, 0, none⟩) else .pointer none)
  bel : Below w.heap.size w wr
  hGB : w.heap.size ≤ GB
  hLB : w.heap.size ≤ LB
  hne : GB ≠ LB
  lo : w.heap.size ≤ f.b

theorem g2_start {w wr w1 : World} {nG GB : Nat} {root : Tb} {gs : Nat → Nat} (nL : Nat) (hnG : nG ≤ 4096) (h : G1 w wr nG GB nG root gs) (h1 : Chain w1 [fresh wr.heap.size false, root]) (k1 : Kept (fun _ => False) wr w1) :
    G2 w (mkRow w1 (.pointer none) nL 29) nL nG GB w1.heap.size wr.heap.size 0 (fresh wr.heap.size false) root gs (fun _ => 0) := by
  have k2 := mkRow_kept w1 (.pointer none) nL 29
  have k := k1.trans k2
  have hs := h.bel.size
  have hGl := h.row.lt
  have hsz := k1.size
  refine ⟨h1.kept k2 fun _ _ => id, rfl, rfl, rfl, rfl, h.rb, h.fs, by rw [h.nd]; exact hnG, h.names.keep (syms_grown k), Names.empty _ _ _ _, ?_, (mkRow_row w1 (.pointer none) nL 29).congr fun i _ => by simp, h.bel.trans (k.below hs fun _ _ => id), h.hGB, by omega, by omega, by simp [fresh]; exact hs⟩
  exact (rowIs_keep h.row k id).congr fun i hi => by rw [if_pos hi]

/-- A local more. -/
theorem define_G2 {w wr w3 : World} {nL nG GB LB FB k : Nat} {f root : Tb} {gs ls : Nat → Nat} (h : G2 w wr nL nG GB LB FB k f root gs ls) (hk : k < nL) (hn : nL ≤ 4096) (hb : Below wr.heap.size wr w3) :
    Calls Eckg.prog 16 #[.pointer (some ⟨FB + 1, 0, none⟩), .string (nmL k)] w3 fun e w4 => ∃ ns, e = .returned (.pointer (some ⟨ns, 0, none⟩)) ∧ w4.cell? ⟨LB, k, none⟩ = some (.pointer none) ∧ w4.frozen? ⟨LB, k, none⟩ = false ∧
      ∃ f' ls', G2 w (w4.setCell ⟨LB, k, none⟩ (.pointer (some ⟨ns, 0, none⟩))) nL nG GB LB FB (k + 1) f' root gs ls' := by
  have h3 := h.chain.below hb
  have hix : idx [f, root] = k := by simp [idx, h.fblk, h.fnd]
  have hpar : parOf true [f, root] = some ⟨root.b + 1, 0, none⟩ := by simp [parOf, h.fblk, up]
  have hsc : scOf [f, root] = sLocal := by simp [scOf, hpar]
  have hd := define_any (nmL k) [root] f w3 h3 (by rw [hix]; omega) (fun p hp => by
    simp at hp
    rcases hp with rfl | rfl
    · rw [h.fnd]; omega
    · have := h.rnd; omega)
  rw [h.fb] at hd
  refine hd.mono ?_
  rintro e w4 ⟨rfl, es', ck', hkeys, hl, hm⟩
  rw [hix, hsc, stepL_loc es' ck' f [root] hpar] at hm
  have hu := umd_pre (k + 1) { f with es := es', ck := ck', nd := f.nd + 1 } [root] h.fblk [] (by simp)
  rw [List.nil_append] at hu
  rw [hu] at hm
  have hrow4 : w4.rowIs LB 29 nL _ := row_carry (row_carry h.rowL (rows_below hb)) (rows_kept h3 hm.kept (by decide))
  have hrowG4 : w4.rowIs GB 29 nG _ := row_carry (row_carry h.rowG (rows_below hb)) (rows_kept h3 hm.kept (by decide))
  have hn4 : Names w4 f.es nmL sLocal k ls := (h.nmsL.keep (rows_below hb)).keep (rows_kept h3 hm.kept (by decide))
  have hg4 : Names w4 root.es nmG sGlobal nG gs := (h.nmsG.keep (rows_below hb)).keep (rows_kept h3 hm.kept (by decide))
  have hc := hrow4.cell hk
  rw [if_neg (by omega)] at hc
  obtain ⟨cL, hcL, _⟩ := id hrow4
  have ks := store_kept w4 LB k (.pointer (some ⟨w3.heap.size, 0, none⟩))
  have hsy : ∀ (j : Nat) (c : Array Value), w4.heap[j]? = some (Obj.cells c 33 (0, 0)) → (w4.setCell ⟨LB, k, none⟩ (.pointer (some ⟨w3.heap.size, 0, none⟩))).heap[j]? = w4.heap[j]? := fun j c hj => ks.block j (lt_of_at hj) fun e0 => by rw [e0, hcL] at hj; simp at hj
  have hlow : w.heap.size ≤ wr.heap.size := h.bel.size
  refine ⟨_, rfl, hc, hrow4.frozen k, mx (k + 1) { f with es := es', ck := ck', nd := f.nd + 1 }, fun i => if i = k then w3.heap.size else ls i, ?_, h.fblk, ?_, h.ffs, h.fb, h.rb, h.rfs, h.rnd, hg4.keep hsy, ?_, ?_, row_store hrow4, ?_, h.hGB, h.hLB, h.hne, h.lo⟩
  · refine hm.chain.kept ks fun i hi e0 => not_foot_of_type hm.chain hcL (by decide) (e0 ▸ hi)
  · rw [mx_nd]; show f.nd + 1 = _; rw [h.fnd]
  · exact (hn4.add (es' := es') (fun i hi e => by have := nmL_inj (by omega) (by omega) e; omega) hl hm.sym).keep hsy
  · exact rowIs_keep hrowG4 ks h.hne
  · refine ((h.bel.trans (hb.mono hlow)).trans (hm.kept.below (Nat.le_trans hlow hb.size) fun i hi hf => ?_)).trans (ks.below (Nat.le_trans hlow (Nat.le_trans hb.size hm.kept.size)) fun i hi e0 => by have := h.hLB; omega)
    obtain ⟨p, hp, e⟩ := hf
    simp at hp
    rcases hp with rfl | rfl
    · have := h.lo; omega
    · have := h.rb; omega

end Go.Proofs.Yoeckw
