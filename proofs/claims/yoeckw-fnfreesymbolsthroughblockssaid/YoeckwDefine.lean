/-
  THE WALK OF (*SymbolTable).Define.
-/
import Derived.Test.YoeckwMaps
import Derived.Deep.LoopGhost
namespace Go.Proofs.Yoeckw
open Go.RowKit

def symObj (name sc : ByteArray) (i : Nat) : Obj := .cells #[.string name, .string sc, .int .i64 i, .bool false] 33
def sGlobal : ByteArray := ⟨#[71, 76, 79, 66, 65, 76]⟩
def sLocal : ByteArray := ⟨#[76, 79, 67, 65, 76]⟩

theorem Chain.replace {w w' : World} {t t' : Tb} {post : List Tb} (hb : t'.b = t.b) (hblk : t'.blk = t.blk) (k : Kept (fun k => k = t.b ∨ k = t.b + 1) w w') (ht : Tab w' t' (up post)) :
    ∀ pre, Chain w (pre ++ t :: post) → Chain w' (pre ++ t' :: post)
  | [], h => ⟨ht, fun e => hblk.trans (h.2.1 e), fun p hp => by rw [hb]; exact h.2.2.1 p hp, h.tail.kept k fun i hi e => by
      have hnf := not_foot h.2.2.1
      rcases e with e | e
      · exact hnf.1 (e ▸ hi)
      · exact hnf.2 (e ▸ hi)⟩
  | x :: pre, h => by
    have hlt : t.b + 2 ≤ x.b := h.2.2.1 t (by simp)
    refine ⟨?_, fun e => by simp at e, ?_, Chain.replace hb hblk k ht pre h.tail⟩
    · have e1 : up (pre ++ t' :: post) = up (pre ++ t :: post) := by
        cases pre with
        | nil => simp [up, hb]
        | cons y pre => rfl
      show Tab w' x (up (pre ++ t' :: post))
      rw [e1]
      exact h.head.kept k (by omega) (by omega)
    · intro p hp
      have hp' : p ∈ pre ++ t' :: post := hp
      rw [List.mem_append, List.mem_cons] at hp'
      rcases hp' with hp' | rfl | hp'
      · exact h.2.2.1 p (by simp [hp'])
      · rw [hb]; exact hlt
      · exact h.2.2.1 p (by simp [hp'])

theorem Tab.setNd {w : World} {t : Tb} {par : Option Addr} (h : Tab w t par) (x : Nat) : Tab (w.setCell ⟨t.b + 1, 3, none⟩ (.int .i64 x)) { t with nd := x } par :=
  ⟨by rw [at_setCell h.cells]; rfl, at_setCell_other h.map (by show t.b ≠ t.b + 1; omega), h.keys, h.plain⟩
theorem Tab.put {w : World} {t : Tb} {par : Option Addr} (h : Tab w t par) {es' : Array MapEntry} (hk : Keys es') (ck' : Nat) : Tab (putObj w t.b (.map es' ck')) { t with es := es', ck := ck' } par :=
  ⟨at_putObj_other h.cells (by show t.b + 1 ≠ t.b; omega), at_putObj h.map, hk, h.plain⟩

/-- In the midst of Define: what stands in the world wc; s: the new symbol's block. -/
structure Mid (w wc : World) (F L : List Tb) (s : Nat) (name sc : ByteArray) (i : Nat) : Prop where
  chain : Chain wc L
  sym : wc.heap[s]? = some (symObj name sc i)
  kept : Kept (Foot F) w wc
  size : wc.heap.size = s + 1
  news : s = w.heap.size

section
variable {w wc : World} {F pre post : List Tb} {t : Tb} {s : Nat} {name sc : ByteArray} {i : Nat}

theorem Mid.tab_ne (h : Mid w wc F (pre ++ t :: post) s name sc i) : t.b ≠ s ∧ t.b + 1 ≠ s := by
  have ht := (Chain.suffix h.chain).head
  constructor
  · intro e
    have := ht.map
    rw [e, h.sym] at this
    simp [symObj] at this
  · intro e
    have := ht.cells
    rw [e, h.sym] at this
    simp [symObj, Tb.obj] at this

theorem Mid.setNd (h : Mid w wc F (pre ++ t :: post) s name sc i) (hf : Foot F (t.b + 1)) (n : Nat) :
    Mid w (wc.setCell ⟨t.b + 1, 3, none⟩ (.int .i64 n)) F (pre ++ { t with nd := n } :: post) s name sc i := by
  have ht := (Chain.suffix h.chain).head
  have hne := h.tab_ne
  refine ⟨Chain.replace (t := t) (t' := { t with nd := n }) rfl rfl ((Kept.refl _ _).setCell _ _ fun _ => .inr rfl) (ht.setNd n) pre h.chain,
    at_setCell_other h.sym (Ne.symm hne.2), h.kept.setCell _ _ fun _ => hf, by simp [h.size], h.news⟩

theorem Mid.setScope (h : Mid w wc F post s name sc i) (sc' : ByteArray) : Mid w (wc.setCell ⟨s, 1, none⟩ (.string sc')) F post s name sc' i := by
  refine ⟨h.chain.kept (S := fun k => k = s) ((Kept.refl _ _).setCell _ _ fun _ => rfl) ?_, by rw [at_setCell h.sym]; rfl, h.kept.setCell _ _ fun hlt => ?_, by simp [h.size], h.news⟩
  · rintro k ⟨p, hp, e⟩ e'
    obtain ⟨l, r, rfl⟩ := List.append_of_mem hp
    have := h.tab_ne
    omega
  · have := h.news
    simp at hlt
    omega

theorem Mid.put (h : Mid w wc F (pre ++ t :: post) s name sc i) (hf : Foot F t.b) {es' : Array MapEntry} (hk : Keys es') (ck' : Nat) :
    Mid w (putObj wc t.b (.map es' ck')) F (pre ++ { t with es := es', ck := ck' } :: post) s name sc i := by
  have ht := (Chain.suffix h.chain).head
  have hne := h.tab_ne
  refine ⟨Chain.replace (t := t) (t' := { t with es := es', ck := ck' }) rfl rfl ((Kept.refl _ _).putObj _ _ fun _ => .inl rfl) (ht.put hk ck') pre h.chain,
    at_putObj_other h.sym (Ne.symm hne.1), h.kept.putObj _ _ fun _ => hf, by rw [putObj_size]; exact h.size, h.news⟩

theorem Mid.umd {w2 : World} (h : Mid w wc F (t :: post) s name sc i) (hf : ∀ k, Foot (t :: post) k → Foot F k) {x : Nat} (h2 : Chain w2 (umd x (t :: post)) ∧ Kept (Foot (t :: post)) wc w2 ∧ w2.heap.size = wc.heap.size) :
    Mid w w2 F (Yoeckw.umd x (t :: post)) s name sc i := by
  refine ⟨h2.1, h2.2.1.at h.sym ?_, h.kept.then h2.2.1 fun i _ hi => hf i hi, h2.2.2.trans h.size, h.news⟩
  rintro ⟨p, hp, e⟩
  obtain ⟨l, r, hlr⟩ := List.append_of_mem hp
  rw [hlr] at h
  have := h.tab_ne
  omega
end

def bump : List Tb → List Tb
  | [] => []
  | t :: r => if r.isEmpty then [{ t with nd := t.nd + 1 }] else t :: bump r
theorem bump_snoc : ∀ (pre : List Tb) (q : Tb), bump (pre ++ [q]) = pre ++ [{ q with nd := q.nd + 1 }]
  | [], q => by simp [bump]
  | x :: pre, q => by
    have e : (pre ++ [q]).isEmpty = false := by simp
    simp only [List.cons_append, bump, e, bump_snoc pre q]
    simp

/-- The tables behind a Define at the first of them, ahead of updateMaxDefs. -/
def stepL (es' : Array MapEntry) (ck' : Nat) : List Tb → List Tb
  | [] => []
  | t :: r => if (parOf true (t :: r)).isNone then (if r.isEmpty then [{ t with es := es', ck := ck', nd := t.nd + 1 }] else { t with es := es', ck := ck' } :: bump r)
      else { t with es := es', ck := ck', nd := t.nd + 1 } :: r

theorem parOf_nd (skip : Bool) (t : Tb) (r : List Tb) (n : Nat) : parOf skip ({ t with nd := n } :: r) = parOf skip (t :: r) := rfl

/-- Ahead of the test in Define: the symbol is laid, the first table's count has gone up. -/
theorem mid_start {w w1 : World} {t : Tb} {r : List Tb} (h : Chain w (t :: r)) (name : ByteArray) (i n : Nat) (hw : w1 = w.drewN n) :
    Mid w ((w1.setCell ⟨t.b + 1, 3, none⟩ (.int .i64 ((t.nd : Int) + 1))).alloc (symObj name ⟨#[]⟩ i)) (t :: r) ({ t with nd := t.nd + 1 } :: r) w.heap.size name ⟨#[]⟩ i := by
  subst hw
  have h1 : Chain (w.drewN n) (t :: r) := h.drewN n
  have h0 : Mid w ((w.drewN n).alloc (symObj name ⟨#[]⟩ i)) (t :: r) ([] ++ t :: r) w.heap.size name ⟨#[]⟩ i :=
    ⟨h1.kept (S := fun _ => False) ((Kept.refl _ _).alloc _) (fun _ _ => id), at_new (w.drewN n) _, ((Kept.refl _ _).drewN n).alloc _, by simp, rfl⟩
  have h2 := h0.setNd (foot_head t r).2 (t.nd + 1)
  rw [World.setCell_alloc_past (hn := h1.head.lt)] at h2
  exact h2

theorem Mid.facts {w w2 : World} {F r : List Tb} {t : Tb} {s : Nat} {name sc : ByteArray} {i : Nat} (h : Mid w w2 F (t :: r) s name sc i) :
    w2.cell? ⟨s, 0, none⟩ = some (.string name) ∧ w2.cell? ⟨s, 1, none⟩ = some (.string sc) ∧ w2.cell? ⟨s, 2, none⟩ = some (.int .i64 i) ∧ (∀ j, w2.frozen? ⟨s, j, none⟩ = false) ∧ t.b + 1 < s ∧ w2.heap.size = s + 1 := by
  refine ⟨by rw [cell_at h.sym]; rfl, by rw [cell_at h.sym]; rfl, by rw [cell_at h.sym]; rfl, fun j => unfrozen_at h.sym j, ?_, h.size⟩
  have h1 := h.chain.head.lt
  have h2 := (Mid.tab_ne (pre := []) h).2
  have h3 := h.size
  omega

theorem stepL_local (es' : Array MapEntry) (ck' : Nat) (t : Tb) (r : List Tb) (hg : (parOf true (t :: r)).isNone = false) : stepL es' ck' (t :: r) = { t with es := es', ck := ck', nd := t.nd + 1 } :: r := by
  simp only [stepL, hg]
  simp

set_option maxHeartbeats 400000 in
theorem define_local (name : ByteArray) (r : List Tb) (t : Tb) (w : World) (h : Chain w (t :: r)) (hi : idx (t :: r) < 1099511627776) (hnd : ∀ p ∈ t :: r, p.nd < 1099511627776) (hg : (parOf true (t :: r)).isNone = false) :
    Calls Eckg.prog 16 #[.pointer (some ⟨t.b + 1, 0, none⟩), .string name] w fun e w' => e = .returned (.pointer (some ⟨w.heap.size, 0, none⟩)) ∧
      ∃ es' ck', Keys es' ∧ (∀ s', look s' es'.toList = if s' = name then some (.pointer (some ⟨w.heap.size, 0, none⟩)) else look s' t.es.toList) ∧
        Mid w w' (t :: r) (umd (idx (t :: r) + 1) (stepL es' ck' (t :: r))) w.heap.size name sLocal (idx (t :: r)) := by
  have hndt := hnd t (.head _)
  have H := hide h
  have NX := hide (nextIndex_any r t w h (by omega))
  have MS := hide (fun n w1 => mid_start (w1 := w1) h name (idx (t :: r)) n)
  obtain ⟨pp, hpp⟩ : ∃ pp, parOf true (t :: r) = some pp := by
    cases hpo : parOf true (t :: r) with
    | none => simp [hpo] at hg
    | some pp => exact ⟨pp, rfl⟩
  have HPP := hide hpp
  have ST := hide (fun es' ck' => stepL_local es' ck' t r hg)
  clear h hnd hpp hg
  generalize hix : idx (t :: r) = ix at *
  clear hix
  go_enter Eckg.func16, Eckg.ntmps16
  go_wp2_with fail
  go_at_call 28
  refine NX.out.mono ?_
  rintro e w1 ⟨rfl, n, hw1⟩
  have HMS := hide (MS.out n w1 hw1)
  have hs1 : w1.heap.size = w.heap.size := by rw [hw1]; rfl
  have hc3 : w1.cell? ⟨t.b + 1, 3, none⟩ = some (.int .i64 t.nd) := by rw [hw1]; exact H.out.head.c3
  have hf3 : w1.frozen? ⟨t.b + 1, 3, none⟩ = false := by rw [hw1]; exact H.out.head.fz 3
  have hlt : t.b + 1 < w.heap.size := H.out.head.lt
  clear hw1 MS NX
  go_wp2_with fail
  go_at_call 14
  refine (parent_any true _ r { t with nd := t.nd + 1 } ?_).mono ?_
  · exact HMS.out.chain
  rintro e w2 ⟨rfl, hw2⟩
  have M2 : Mid w w2 (t :: r) ({ t with nd := t.nd + 1 } :: r) w.heap.size name ⟨#[]⟩ ix := by rw [hw2]; exact HMS.out
  rw [parOf_nd, HPP.out]
  have HM2 := hide M2
  obtain ⟨s0, s1, s2, sf, _, hs2⟩ := M2.facts
  have c2 : w2.cell? ⟨t.b + 1, 2, none⟩ = some (.map (some t.b)) := M2.chain.head.c2
  have f2 := sf 1
  clear M2 hw2 HMS hc3 hf3 hs1 sf
  go_wp2_with (at_mapUpdate; refine wpList_put _ rfl _ _ _ rfl t.b name _ rfl rfl rfl t.es t.ck ?_ ?_ ?_)
  · exact (HM2.out.setScope _).chain.head.map
  · exact HM2.out.chain.head.keys
  intro es' ck' hk' hl'
  have M3 := Mid.put (pre := []) (HM2.out.setScope sLocal) (foot_head t r).1 hk' ck'
  generalize hw3 : putObj _ _ _ = w3
  have M3' : Mid w w3 (t :: r) ({ t with es := es', ck := ck', nd := t.nd + 1 } :: r) w.heap.size name sLocal ix := by rw [← hw3]; exact M3
  clear hw3 M3 HM2 s0 s1 s2 hs2 c2 f2
  obtain ⟨_, _, s2, _, _, hs3⟩ := M3'.facts
  have HM3 := hide M3'
  have HL := hide hl'
  have HK := hide hk'
  clear M3' hl' hk'
  go_wp2_with fail
  go_at_call 29
  rw [show (ix : Int) + 1 = ((ix + 1 : Nat) : Int) from by omega]
  refine (umd_any (ix + 1) r { t with es := es', ck := ck', nd := t.nd + 1 } w3 HM3.out.chain).mono ?_
  rintro e w4 ⟨rfl, h4⟩
  have HM4 := hide (HM3.out.umd (fun k hk => by refine foot_of_map (L := t :: r) ?_ hk; rfl) h4)
  clear h4
  go_wp2_with fail
  go_ret
  refine ⟨rfl, es', ck', HK.out, HL.out, ?_⟩
  rw [ST.out]
  exact HM4.out

theorem stepL_root (es' : Array MapEntry) (ck' : Nat) (t : Tb) (hb : t.blk = false) : stepL es' ck' [t] = [{ t with es := es', ck := ck', nd := t.nd + 1 }] := by
  have : (parOf true [t]).isNone = true := by simp [parOf, hb, up]
  simp only [stepL, this]
  simp

set_option maxHeartbeats 400000 in
theorem define_root (name : ByteArray) (t : Tb) (w : World) (h : Chain w [t]) (hi : t.nd < 1099511627776) :
    Calls Eckg.prog 16 #[.pointer (some ⟨t.b + 1, 0, none⟩), .string name] w fun e w' => e = .returned (.pointer (some ⟨w.heap.size, 0, none⟩)) ∧
      ∃ es' ck', Keys es' ∧ (∀ s', look s' es'.toList = if s' = name then some (.pointer (some ⟨w.heap.size, 0, none⟩)) else look s' t.es.toList) ∧
        Mid w w' [t] (umd (idx [t] + 1) (stepL es' ck' [t])) w.heap.size name sGlobal (idx [t]) := by
  have hb : t.blk = false := h.2.1 rfl
  have hix : idx [t] = t.nd := by simp [idx, hb]
  have H := hide h
  have NX := hide (nextIndex_any [] t w h (by omega))
  have MS := hide (fun n w1 => mid_start (w1 := w1) h name (idx [t]) n)
  have hpp : parOf true [t] = none := by simp [parOf, hb, up]
  have HPP := hide hpp
  have ST := hide (fun es' ck' => stepL_root es' ck' t hb)
  rw [hix] at NX MS ⊢
  clear h hpp hb hix
  go_enter Eckg.func16, Eckg.ntmps16
  go_wp2_with fail
  go_at_call 28
  refine NX.out.mono ?_
  rintro e w1 ⟨rfl, n, hw1⟩
  have HMS := hide (MS.out n w1 hw1)
  have hs1 : w1.heap.size = w.heap.size := by rw [hw1]; rfl
  have hc3 : w1.cell? ⟨t.b + 1, 3, none⟩ = some (.int .i64 t.nd) := by rw [hw1]; exact H.out.head.c3
  have hf3 : w1.frozen? ⟨t.b + 1, 3, none⟩ = false := by rw [hw1]; exact H.out.head.fz 3
  have hlt : t.b + 1 < w.heap.size := H.out.head.lt
  clear hw1 MS NX
  go_wp2_with fail
  go_at_call 14
  refine (parent_any true _ [] { t with nd := t.nd + 1 } ?_).mono ?_
  · exact HMS.out.chain
  rintro e w2 ⟨rfl, hw2⟩
  have M2 : Mid w w2 [t] [{ t with nd := t.nd + 1 }] w.heap.size name ⟨#[]⟩ t.nd := by rw [hw2]; exact HMS.out
  rw [parOf_nd, HPP.out]
  have HM2 := hide M2
  obtain ⟨s0, s1, s2, sf, _, hs2⟩ := M2.facts
  have c2 : w2.cell? ⟨t.b + 1, 2, none⟩ = some (.map (some t.b)) := M2.chain.head.c2
  have c0 : w2.cell? ⟨t.b + 1, 0, none⟩ = some (.pointer none) := M2.chain.head.c0
  have f2 := sf 1
  clear M2 hw2 HMS hc3 hf3 hs1 sf
  go_wp2_with (at_mapUpdate; refine wpList_put _ rfl _ _ _ rfl t.b name _ rfl rfl rfl t.es t.ck ?_ ?_ ?_)
  · exact (HM2.out.setScope _).chain.head.map
  · exact HM2.out.chain.head.keys
  intro es' ck' hk' hl'
  have M3 := Mid.put (pre := []) (HM2.out.setScope sGlobal) (foot_head t []).1 hk' ck'
  generalize hw3 : putObj _ _ _ = w3
  have M3' : Mid w w3 [t] [{ t with es := es', ck := ck', nd := t.nd + 1 }] w.heap.size name sGlobal t.nd := by rw [← hw3]; exact M3
  clear hw3 M3 HM2 s0 s1 s2 hs2 c2 c0 f2
  obtain ⟨_, _, s2, _, _, hs3⟩ := M3'.facts
  have HM3 := hide M3'
  have HL := hide hl'
  have HK := hide hk'
  clear M3' hl' hk'
  go_wp2_with fail
  go_at_call 29
  rw [show (t.nd : Int) + 1 = ((t.nd + 1 : Nat) : Int) from by omega]
  refine (umd_any (t.nd + 1) [] { t with es := es', ck := ck', nd := t.nd + 1 } w3 HM3.out.chain).mono ?_
  rintro e w4 ⟨rfl, h4⟩
  have HM4 := hide (HM3.out.umd (fun k hk => by refine foot_of_map (L := [t]) ?_ hk; rfl) h4)
  clear h4
  go_wp2_with fail
  go_ret
  refine ⟨rfl, es', ck', HK.out, HL.out, ?_⟩
  rw [ST.out]
  exact HM4.out

theorem stepL_block (es' : Array MapEntry) (ck' : Nat) (t p : Tb) (r : List Tb) (hg : parOf true (t :: p :: r) = none) : stepL es' ck' (t :: p :: r) = { t with es := es', ck := ck' } :: bump (p :: r) := by
  have : (parOf true (t :: p :: r)).isNone = true := by simp [hg]
  simp only [stepL, this]
  simp

set_option maxHeartbeats 400000 in
theorem define_block (name : ByteArray) (p : Tb) (r : List Tb) (t : Tb) (w : World) (h : Chain w (t :: p :: r)) (hi : idx (t :: p :: r) < 1099511627776) (hnd : ∀ q ∈ t :: p :: r, q.nd < 1099511627776) (hg : parOf true (t :: p :: r) = none) :
    Calls Eckg.prog 16 #[.pointer (some ⟨t.b + 1, 0, none⟩), .string name] w fun e w' => e = .returned (.pointer (some ⟨w.heap.size, 0, none⟩)) ∧
      ∃ es' ck', Keys es' ∧ (∀ s', look s' es'.toList = if s' = name then some (.pointer (some ⟨w.heap.size, 0, none⟩)) else look s' t.es.toList) ∧
        Mid w w' (t :: p :: r) (umd (idx (t :: p :: r) + 1) (stepL es' ck' (t :: p :: r))) w.heap.size name sGlobal (idx (t :: p :: r)) := by
  have hndt := hnd t (.head _)
  have HND := hide hnd
  have H := hide h
  have NX := hide (nextIndex_any (p :: r) t w h (by omega))
  have MS := hide (fun n w1 => mid_start (w1 := w1) h name (idx (t :: p :: r)) n)
  have HPP := hide hg
  have ST := hide (fun es' ck' => stepL_block es' ck' t p r hg)
  clear h hnd hg
  generalize hix : idx (t :: p :: r) = ix at *
  clear hix
  go_enter Eckg.func16, Eckg.ntmps16
  go_wp2_with fail
  go_at_call 28
  refine NX.out.mono ?_
  rintro e w1 ⟨rfl, n, hw1⟩
  have HMS := hide (MS.out n w1 hw1)
  have hs1 : w1.heap.size = w.heap.size := by rw [hw1]; rfl
  have hc3 : w1.cell? ⟨t.b + 1, 3, none⟩ = some (.int .i64 t.nd) := by rw [hw1]; exact H.out.head.c3
  have hf3 : w1.frozen? ⟨t.b + 1, 3, none⟩ = false := by rw [hw1]; exact H.out.head.fz 3
  have hlt : t.b + 1 < w.heap.size := H.out.head.lt
  clear hw1 MS NX
  go_wp2_with fail
  go_at_call 14
  refine (parent_any true _ (p :: r) { t with nd := t.nd + 1 } ?_).mono ?_
  · exact HMS.out.chain
  rintro e w2 ⟨rfl, hw2⟩
  have M2 : Mid w w2 (t :: p :: r) ({ t with nd := t.nd + 1 } :: p :: r) w.heap.size name ⟨#[]⟩ ix := by rw [hw2]; exact HMS.out
  rw [parOf_nd, HPP.out]
  have HM2 := hide M2
  obtain ⟨s0, s1, s2, sf, _, hs2⟩ := M2.facts
  have c2 : w2.cell? ⟨t.b + 1, 2, none⟩ = some (.map (some t.b)) := M2.chain.head.c2
  have c0 : w2.cell? ⟨t.b + 1, 0, none⟩ = some (.pointer (some ⟨p.b + 1, 0, none⟩)) := M2.chain.head.c0
  have f2 := sf 1
  clear M2 hw2 HMS hc3 hf3 hs1 sf
  go_wp2_with fail
  have M3 := HM2.out.setScope sGlobal
  generalize hw3 : World.setCell w2 _ _ = w3
  have HM3 : Hid (Mid w w3 (t :: p :: r) ({ t with nd := t.nd + 1 } :: p :: r) w.heap.size name sGlobal ix) := by rw [← hw3]; exact M3
  clear hw3 M3 HM2 s0 s1 s2 hs2 c2 c0 f2 w2
  go_loopg [6] r.length (fun k v wr => wr = w3 ∧ ∃ pre q post, p :: r = pre ++ q :: post ∧ post.length = k ∧ v = .pointer (some ⟨q.b + 1, 0, none⟩))
  case atStart => exact ⟨rfl, [], p, r, rfl, rfl, rfl⟩
  case round =>
    obtain ⟨hwr, pre, q, post, he, hk, rfl⟩ := hrel
    subst hwr
    have hqt : q.b + 2 ≤ t.b := HM3.out.chain.2.2.1 q (by rw [he]; simp)
    have hq : Chain wr (q :: post) := Chain.suffix (pre := pre) (he ▸ HM3.out.chain.tail)
    have q0 := hq.head.c0
    cases post with
    | cons q' post' =>
      simp only [up] at q0
      have HE := hide he
      have HQ := hide hk
      clear he hq hk
      go_wp2_with fail
      go_roundg post'.length
      case measure => have := HQ.out; simp at this; omega
      case rel => exact ⟨rfl, pre ++ [q], q', post', by rw [HE.out]; simp, rfl, rfl⟩
    | nil =>
      simp only [up] at q0
      have q3 := hq.head.c3
      have qf := hq.head.fz 3
      have hqn : q.nd < 1099511627776 := HND.out q (by rw [he]; simp)
      have HE := hide he
      have HMc : Mid w wr (t :: p :: r) ([] ++ { t with nd := t.nd + 1 } :: (pre ++ [q])) w.heap.size name sGlobal ix := by rw [← he]; exact HM3.out
      have hfq : Foot (t :: p :: r) (q.b + 1) := ⟨q, by rw [he]; simp, .inr rfl⟩
      have HF := hide hfq
      have c3 : wr.cell? ⟨t.b + 1, 3, none⟩ = some (.int .i64 ((t.nd : Int) + 1)) := by have := HM3.out.chain.head.c3; exact this
      have f3 : wr.frozen? ⟨t.b + 1, 3, none⟩ = false := HM3.out.chain.head.fz 3
      have c2 : wr.cell? ⟨t.b + 1, 2, none⟩ = some (.map (some t.b)) := HM3.out.chain.head.c2
      have HM4 := hide (Mid.setNd HMc (foot_head t (p :: r)).2 t.nd)
      have HM5 := hide (Mid.setNd (pre := t :: pre) (post := []) (t := q) (F := t :: p :: r) HM4.out HF.out (q.nd + 1))
      clear hq hk he hfq HMc
      go_wp2_with (at_mapUpdate; refine wpList_put _ rfl _ _ _ rfl t.b name _ rfl rfl rfl t.es t.ck ?_ ?_ ?_)
      · exact HM5.out.chain.head.map
      · exact HM5.out.chain.head.keys
      intro es' ck' hk' hl'
      have M6 := Mid.put (pre := []) (t := t) HM5.out (foot_head t (p :: r)).1 hk' ck'
      generalize hw6 : putObj _ _ _ = w6
      have M6' : Mid w w6 (t :: p :: r) ({ t with es := es', ck := ck' } :: (pre ++ [{ q with nd := q.nd + 1 }])) w.heap.size name sGlobal ix := by rw [← hw6]; exact M6
      clear hw6 M6 HM5 HM4 c2 c3 f3 q0 q3 qf
      obtain ⟨_, _, s2, _, _, hs3⟩ := M6'.facts
      have HM6 := hide M6'
      have HL := hide hl'
      have HK := hide hk'
      clear M6' hl' hk'
      go_wp2_with fail
      go_at_call 29
      rw [show (ix : Int) + 1 = ((ix + 1 : Nat) : Int) from by omega]
      refine (umd_any (ix + 1) (pre ++ [{ q with nd := q.nd + 1 }]) { t with es := es', ck := ck' } w6 HM6.out.chain).mono ?_
      rintro e w7 ⟨rfl, h7⟩
      have HM7 := hide (HM6.out.umd (fun k hk => by refine foot_of_map (L := t :: p :: r) ?_ hk; rw [HE.out]; simp) h7)
      clear h7
      go_wp2_with fail
      go_ret
      refine ⟨rfl, es', ck', HK.out, HL.out, ?_⟩
      rw [ST.out, HE.out, bump_snoc, ← HE.out]
      exact HM7.out

/-- The scope that Define gives. -/
def scOf (L : List Tb) : ByteArray := if (parOf true L).isNone then sGlobal else sLocal

theorem define_any (name : ByteArray) (r : List Tb) (t : Tb) (w : World) (h : Chain w (t :: r)) (hi : idx (t :: r) < 1099511627776) (hnd : ∀ p ∈ t :: r, p.nd < 1099511627776) :
    Calls Eckg.prog 16 #[.pointer (some ⟨t.b + 1, 0, none⟩), .string name] w fun e w' => e = .returned (.pointer (some ⟨w.heap.size, 0, none⟩)) ∧
      ∃ es' ck', Keys es' ∧ (∀ s', look s' es'.toList = if s' = name then some (.pointer (some ⟨w.heap.size, 0, none⟩)) else look s' t.es.toList) ∧
        Mid w w' (t :: r) (umd (idx (t :: r) + 1) (stepL es' ck' (t :: r))) w.heap.size name (scOf (t :: r)) (idx (t :: r)) := by
  cases hg : (parOf true (t :: r)).isNone with
  | false =>
    have hs : scOf (t :: r) = sLocal := by simp [scOf, hg]
    rw [hs]
    exact define_local name r t w h hi hnd hg
  | true =>
    have hs : scOf (t :: r) = sGlobal := by simp [scOf, hg]
    rw [hs]
    cases r with
    | nil => exact define_root name t w h (hnd t (.head _))
    | cons p r => exact define_block name p r t w h hi hnd (by simpa using hg)

end Go.Proofs.Yoeckw
