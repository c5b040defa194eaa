/-
  THE WALK OF (*SymbolTable).defineFree, and Resolve where it captures.
-/
import Derived.Test.YoeckwResolve
import Derived.Maps.AppendAt
namespace Go.Proofs.Yoeckw
open Go.RowKit

theorem info29 : (Eckg.prog.info? 29).map (fun i => (i.zero, i.size, i.bytes)) = some (some (.pointer none), 1, 8) := by kernel_rfl

theorem owns_slice {w : World} {base n : Nat} {v : Value} {xs : List Value} (h : w.ownsRow base 29 1 v (n + 1) xs) : ∃ r cap, v = .slice (some ⟨r, 0, none⟩) (n + 1) cap := by
  rcases h.2 with ⟨_, e⟩ | ⟨g, cap, cur, hv, _⟩
  · omega
  · exact ⟨g, cap, hv⟩

/-- What lies in a block that is no row of symbols stays behind an append to such a row. -/
theorem grown_at {w w' : World} {base n : Nat} {v : Value} {xs : List Value} (h : w.ownsRow base 29 1 v n xs) (hg : w.grownBy w' v.ownBlock) {k : Nat} {o : Obj} (hk : w.heap[k]? = some o) (hno : ∀ c fr, o ≠ .cells c 29 fr) : w'.heap[k]? = some o := by
  refine (hg.block k (lt_of_at hk) fun e => ?_).trans hk
  rcases h.2 with ⟨rfl, _⟩ | ⟨g, cap, cur, rfl, _, hgg, _⟩
  · simp [Value.ownBlock] at e
  · simp [Value.ownBlock] at e
    subst e
    rw [hk] at hgg
    exact hno _ _ (Option.some.inj hgg)

/-- Behind the append and the store of the new free list. -/
structure FMid (w w2 : World) (g : Tb) (par : Option Addr) (v' : Value) (nm : ByteArray) (s i base n : Nat) (xs : List Value) : Prop where
  tab : Tab w2 { g with fs := v' } par
  sym : w2.heap[s]? = some (symObj nm sLocal i)
  own : w2.ownsRow base 29 1 v' (n + 1) (xs ++ [.pointer (some ⟨s, 0, none⟩)])
  kept : Kept (fun k => k = g.b ∨ k = g.b + 1 ∨ some k = g.fs.ownBlock) w w2

theorem owns_keep {w w' : World} {base n : Nat} {v : Value} {xs : List Value} (h : w.ownsRow base 29 1 v n xs) (hk : ∀ (k : Nat) (c : Array Value) (fr : Nat × Nat), w.heap[k]? = some (Obj.cells c 29 fr) → w'.heap[k]? = w.heap[k]?) : w'.ownsRow base 29 1 v n xs := by
  refine ⟨h.1, ?_⟩
  rcases h.2 with hn | ⟨g, cap, cur, rfl, hb, hgg, rest⟩
  · exact .inl hn
  · exact .inr ⟨g, cap, cur, rfl, hb, (hk g _ _ hgg).trans hgg, rest⟩

theorem free_mid {w w1 : World} {g : Tb} {par : Option Addr} {nm : ByteArray} {s i base n : Nat} {xs : List Value} (h : Tab w g par) (hs : w.heap[s]? = some (symObj nm sLocal i)) (hown : w.ownsRow base 29 1 g.fs n xs) {o : Obj} {v' : Value}
    (hown' : w1.ownsRow base 29 1 v' (n + 1) (xs ++ [.pointer (some ⟨s, 0, none⟩)])) (hg : (w.alloc o).grownBy w1 g.fs.ownBlock) :
    FMid w (w1.setCell ⟨g.b + 1, 5, none⟩ v') g par v' nm s i base n xs := by
  have ho1 := hown.alloc o
  have g1 : w1.heap[g.b + 1]? = some (g.obj par) := grown_at ho1 hg (at_alloc h.cells o) (by simp [Tb.obj])
  have g0 : w1.heap[g.b]? = some (.map g.es g.ck) := grown_at ho1 hg (at_alloc h.map o) (by simp)
  have gs : w1.heap[s]? = some (symObj nm sLocal i) := grown_at ho1 hg (at_alloc hs o) (by simp [symObj])
  have hsne : s ≠ g.b + 1 := fun e => by rw [e, g1] at gs; simp [Tb.obj, symObj] at gs
  obtain ⟨r, cap, hv⟩ := owns_slice hown'
  refine ⟨⟨?_, at_setCell_other g0 (by show g.b ≠ g.b + 1; omega), h.keys, by rw [hv]; rfl⟩, at_setCell_other gs hsne, owns_keep hown' fun k c fr hk => ?_, ?_⟩
  · show (w1.setCell ⟨g.b + 1, 5, none⟩ v').heap[g.b + 1]? = _
    rw [at_setCell g1]
    rfl
  · refine Below.heap_setCell _ _ _ _ fun e => ?_
    rw [e] at hk
    rw [show (⟨g.b + 1, 5, none⟩ : Addr).block = g.b + 1 from rfl, g1] at hk
    simp [Tb.obj] at hk
  · have k1 : Kept (fun k => k = g.b ∨ k = g.b + 1 ∨ some k = g.fs.ownBlock) (w.alloc o) w1 := ⟨hg.os, hg.tape, hg.output, hg.size, fun k hk hn => hg.block k hk fun e => hn (.inr (.inr e))⟩
    exact ((((Kept.refl _ w).alloc o)).trans k1).setCell _ _ fun _ => .inr (.inl rfl)

/-- .. and behind the new symbol. -/
theorem free_new {w w2 w3 : World} {g : Tb} {par : Option Addr} {v' : Value} {nm : ByteArray} {s i base n : Nat} {xs : List Value} (h : FMid w w2 g par v' nm s i base n xs) (hw : w3 = (w2.alloc (symObj nm sFree n)).drew) :
    FMid w w3 g par v' nm s i base n xs ∧ w3.heap[w2.heap.size]? = some (symObj nm sFree n) := by
  subst hw
  have k : Kept (fun _ => False) w2 (w2.alloc (symObj nm sFree n)).drew := ((Kept.refl _ _).alloc _).drew
  exact ⟨⟨h.tab.kept k id id, k.at h.sym id, owns_keep h.own fun j c fr hj => k.block j (lt_of_at hj) id, h.kept.then k fun _ _ => False.elim⟩, at_new w2 _⟩

theorem free_put {w w3 : World} {g : Tb} {par : Option Addr} {v' : Value} {nm : ByteArray} {s i base n ns : Nat} {xs : List Value} (h : FMid w w3 g par v' nm s i base n xs) (hns : w3.heap[ns]? = some (symObj nm sFree n)) {es' : Array MapEntry} (hk : Keys es') (ck' : Nat) :
    Tab (putObj w3.drew g.b (.map es' ck')) { g with fs := v', es := es', ck := ck' } par ∧ (putObj w3.drew g.b (.map es' ck')).ownsRow base 29 1 v' (n + 1) (xs ++ [.pointer (some ⟨s, 0, none⟩)]) ∧
      (putObj w3.drew g.b (.map es' ck')).heap[ns]? = some (symObj nm sFree n) ∧ Kept (fun k => k = g.b ∨ k = g.b + 1 ∨ some k = g.fs.ownBlock) w (putObj w3.drew g.b (.map es' ck')) := by
  have ht := h.tab
  have hm : w3.drew.heap[g.b]? = some (.map g.es g.ck) := ht.map
  have hc : w3.drew.heap[g.b + 1]? = some (({ g with fs := v' } : Tb).obj par) := ht.cells
  have hn' : w3.drew.heap[ns]? = some (symObj nm sFree n) := hns
  have hne : ns ≠ g.b := fun e => by rw [e, hm] at hn'; simp [symObj] at hn'
  refine ⟨⟨at_putObj_other hc (by show g.b + 1 ≠ g.b; omega), at_putObj hm, hk, ht.plain⟩, owns_keep (w := w3.drew) h.own fun k c fr hk => ?_, at_putObj_other hn' hne, (h.kept.drew).putObj _ _ fun _ => .inl rfl⟩
  have hkb : k ≠ g.b := fun e => by rw [e, hm] at hk; simp at hk
  exact (at_putObj_other hk hkb).trans hk.symm

set_option maxHeartbeats 800000 in
theorem defineFree_any (w : World) (g : Tb) (par : Option Addr) (nm : ByteArray) (s i base n : Nat) (xs : List Value) (h : Tab w g par) (hs : w.heap[s]? = some (symObj nm sLocal i))
    (hown : w.ownsRow base 29 1 g.fs n xs) (hn : n ≤ 1048576) (hbase : base ≤ w.heap.size) :
    Calls Eckg.prog 30 #[.pointer (some ⟨g.b + 1, 0, none⟩), .pointer (some ⟨s, 0, none⟩)] w fun e w' => ∃ ns fs' es' ck', e = .returned (.pointer (some ⟨ns, 0, none⟩)) ∧ w.heap.size ≤ ns ∧
      Tab w' { g with fs := fs', es := es', ck := ck' } par ∧ (∀ s', look s' es'.toList = if s' = nm then some (.pointer (some ⟨ns, 0, none⟩)) else look s' g.es.toList) ∧
      w'.ownsRow base 29 1 fs' (n + 1) (xs ++ [.pointer (some ⟨s, 0, none⟩)]) ∧ w'.heap[ns]? = some (symObj nm sFree n) ∧
      Kept (fun k => k = g.b ∨ k = g.b + 1 ∨ some k = g.fs.ownBlock) w w' := by
  obtain ⟨i0, hi0, hz0, hz1, hz2⟩ := info_parts info29
  have c5 := h.c5
  have f5 := h.fz 5
  have hlt := h.lt
  have H := hide h
  have HS := hide hs
  have HO := hide hown
  clear h hs hown
  go_enter Eckg.func30, Eckg.ntmps30
  go_wp2_with (at_builtin; refine wpList_append_own _ rfl _ _ 36 rfl base 29 i0 (.pointer none) 1 8 Eckg.underlying36 hi0 hz0 hz1 hz2 rfl (by decide) g.fs n xs rfl (HO.out.alloc _) ⟨w.heap.size, 0, none⟩ 1 1 [.pointer (some ⟨s, 0, none⟩)] rfl rfl (cell_one_new _ _ _) ?hone ?hmax ?hby ?hbs ?hnext)
  case hone => intro u hu; simp at hu; subst hu; rfl
  case hmax => unfold maxLen; omega
  case hby => omega
  case hbs => simp; omega
  case hnext =>
    intro v' w1 hown' hgrow _
    obtain ⟨r, cap, hv⟩ := owns_slice hown'
    have HF := hide (free_mid H.out HS.out HO.out hown' hgrow)
    have c5' : w1.cell? ⟨g.b + 1, 5, none⟩ = some g.fs := by
      have := grown_at (HO.out.alloc _) hgrow (at_alloc H.out.cells _) (by simp [Tb.obj])
      rw [cell_at this]; rfl
    have f5' : w1.frozen? ⟨g.b + 1, 5, none⟩ = false := by
      have := grown_at (HO.out.alloc _) hgrow (at_alloc H.out.cells _) (by simp [Tb.obj])
      exact unfrozen_at this 5
    rw [hv] at HF ⊢
    clear hown' hgrow c5 f5 hv
    go_wp2_with fail
    generalize hw2 : World.setCell w1 _ _ = w2
    rw [hw2] at HF
    clear hw2 c5' f5' w1
    have c5 : w2.cell? ⟨g.b + 1, 5, none⟩ = some (.slice (some ⟨r, 0, none⟩) (n + 1) cap) := HF.out.tab.c5
    have c2 : w2.cell? ⟨g.b + 1, 2, none⟩ = some (.map (some g.b)) := HF.out.tab.c2
    have s0 : w2.cell? ⟨s, 0, none⟩ = some (.string nm) := by rw [cell_at HF.out.sym]; rfl
    have hsl := lt_of_at HF.out.sym
    have hgl : g.b + 1 < w2.heap.size := HF.out.tab.lt
    go_region
    generalize hw3 : World.drew _ = w3
    have HN := hide (free_new HF.out hw3.symm)
    obtain ⟨es', ck', hput, hk', hl'⟩ := run_put g.ck H.out.keys g.b nm (.pointer (some ⟨w2.heap.size, 0, none⟩))
    have hrun := hput w3.drew HN.out.1.tab.map
    have HP := hide (free_put HN.out.1 HN.out.2 hk' ck')
    have HL := hide hl'
    have HSZ := hide (show w.heap.size ≤ w2.heap.size from HF.out.kept.size)
    have c2' : w3.cell? ⟨g.b + 1, 2, none⟩ = some (.map (some g.b)) := HN.out.1.tab.c2
    have s0' : w3.cell? ⟨s, 0, none⟩ = some (.string nm) := by rw [cell_at HN.out.1.sym]; rfl
    clear hput hk' hl' c5 c2 s0 hsl hgl hw3
    generalize w2.heap.size = ns at *
    go_wp2_with fail
    go_region
    go_wp2_with fail
    go_ret
    exact ⟨ns, _, es', ck', rfl, HSZ.out, HP.out.1, HL.out, HP.out.2⟩

/-- What a capture leaves. -/
def Captured (w : World) (g : Tb) (par : Option Addr) (name : ByteArray) (s base n : Nat) (xs : List Value) (ns : Nat) (w' : World) : Prop :=
  ∃ fs' es' ck', w.heap.size ≤ ns ∧ Tab w' { g with fs := fs', es := es', ck := ck' } par ∧ (∀ s', look s' es'.toList = if s' = name then some (.pointer (some ⟨ns, 0, none⟩)) else look s' g.es.toList) ∧
      w'.ownsRow base 29 1 fs' (n + 1) (xs ++ [.pointer (some ⟨s, 0, none⟩)]) ∧ w'.heap[ns]? = some (symObj name sFree n) ∧
      Kept (fun k => k = g.b ∨ k = g.b + 1 ∨ some k = g.fs.ownBlock) w w'

set_option maxHeartbeats 800000 in
/-- A function's table captures a local symbol of its parent. -/
theorem resolve_capture (name : ByteArray) (w : World) (g f : Tb) (parf : Option Addr) (recur : Bool) (h : Tab w g (some ⟨f.b + 1, 0, none⟩)) (hb : g.blk = false) (hl : look name g.es.toList = none)
    (hf : Tab w f parf) (s i base n : Nat) (xs : List Value) (hlf : look name f.es.toList = some (.pointer (some ⟨s, 0, none⟩))) (hs : w.heap[s]? = some (symObj name sLocal i))
    (hown : w.ownsRow base 29 1 g.fs n xs) (hn : n ≤ 1048576) (hbase : base ≤ w.heap.size) :
    Calls Eckg.prog 20 #[.pointer (some ⟨g.b + 1, 0, none⟩), .string name, .bool recur] w fun e w' => ∃ ns, e = .returned (.tuple #[.pointer (some ⟨ns, 0, none⟩), .int .i64 1, .bool true]) ∧ Captured w g (some ⟨f.b + 1, 0, none⟩) name s base n xs ns w' := by
  have c0 := h.c0
  have c1 := h.c1
  have c2 := h.c2
  have HM := hide h.map
  have HK := hide h.keys
  have HL := hide hl
  have HP := hide (resolve_hereL name name w f parf s i hf hlf hs)
  have HDF := hide (defineFree_any w g _ name s i base n xs h hs hown hn hbase)
  have s1 : w.cell? ⟨s, 1, none⟩ = some (.string sLocal) := by rw [cell_at hs]; rfl
  simp only [sLocal] at s1
  rw [hb] at c1
  clear h hl hlf hs hb hf hown
  go_enter Eckg.func20, Eckg.ntmps20
  go_wp2_with (first | (at_lookup; refine wpList_look _ rfl _ _ rfl g.b name rfl rfl g.es g.ck HM.out HK.out _ HL.out ?_) | (go_at_call 20; refine HP.out.mono ?_; rintro e w' ⟨rfl, hw'⟩; replace hw' := hw'.symm; subst hw'))
  go_at_call 30
  refine HDF.out.mono ?_
  rintro e w' ⟨ns, fs', es', ck', rfl, hrest⟩
  have HR := hide hrest
  clear hrest HDF
  go_wp2_with fail
  go_ret3
  exact ⟨ns, rfl, fs', es', ck', HR.out⟩

/-- Through a row of blocks. -/
theorem resolve_blocks (name : ByteArray) (w : World) (g : Tb) (post : List Tb) (D : Nat) (R : Nat → Nat → World → Prop)
    (hg : ∀ recur, Calls Eckg.prog 20 #[.pointer (some ⟨g.b + 1, 0, none⟩), .string name, .bool recur] w fun e w' => ∃ s d : Nat, e = .returned (.tuple #[.pointer (some ⟨s, 0, none⟩), .int .i64 d, .bool true]) ∧ d ≤ D ∧ R s d w') :
    ∀ pre : List Tb, Chain w (pre ++ g :: post) → (∀ p ∈ pre, p.blk = true) → (∀ p ∈ pre, look name p.es.toList = none) → D + pre.length < 1048576 →
      (∀ s d w', R s d w' → ∀ p ∈ pre, w'.cell? ⟨p.b + 1, 1, none⟩ = some (.bool true)) → ∀ recur,
    Calls Eckg.prog 20 #[.pointer (up (pre ++ g :: post)), .string name, .bool recur] w fun e w' => ∃ s d : Nat, e = .returned (.tuple #[.pointer (some ⟨s, 0, none⟩), .int .i64 (d + pre.length : Nat), .bool true]) ∧ d ≤ D ∧ R s d w' := by
  intro pre
  induction pre with
  | nil => intro _ _ _ _ _ recur; exact hg recur
  | cons t pre ih =>
    intro hch hblk hlook hlen hR recur
    have hih := ih hch.tail (fun p hp => hblk p (.tail _ hp)) (fun p hp => hlook p (.tail _ hp)) (by simp at hlen; omega) (fun s d w' hr p hp => hR s d w' hr p (.tail _ hp)) true
    obtain ⟨p, r, epr⟩ : ∃ p r, pre ++ g :: post = p :: r := by cases pre with | nil => exact ⟨_, _, rfl⟩ | cons a b => exact ⟨_, _, rfl⟩
    have ht : Tab w t (up (pre ++ g :: post)) := hch.head
    rw [epr] at ht hih
    have hD : D + pre.length < 1048576 := by simp at hlen; omega
    have hb := resolve_block name w t p recur ht (hlook t (.head _)) (D + pre.length) hD (fun s d w' => ∃ d0, d = d0 + pre.length ∧ d0 ≤ D ∧ R s d0 w')
      (hih.mono fun e w' ⟨s, d, he, hd, hr⟩ => ⟨s, d + pre.length, he, by omega, d, rfl, hd, hr⟩)
      (fun s d w' ⟨d0, _, _, hr⟩ => hR s d0 w' hr t (.head _))
    refine hb.mono fun e w' ⟨s, d, he, _, d0, hd0, hd1, hr⟩ => ⟨s, d0, ?_, hd1, hr⟩
    subst hd0
    exact he

/-- A global, from any depth. -/
theorem resolve_global (name nm : ByteArray) (w : World) (root : Tb) (s i : Nat) (hl : look name root.es.toList = some (.pointer (some ⟨s, 0, none⟩))) (hs : w.heap[s]? = some (symObj nm sGlobal i)) :
    ∀ ts : List Tb, Chain w (ts ++ [root]) → (∀ p ∈ ts, look name p.es.toList = none) → ts.length < 1048576 → ∀ recur,
    Calls Eckg.prog 20 #[.pointer (up (ts ++ [root])), .string name, .bool recur] w fun e w' => e = .returned (.tuple #[.pointer (some ⟨s, 0, none⟩), .int .i64 (ts.length : Nat), .bool true]) ∧ w' = w := by
  intro ts
  induction ts with
  | nil => intro hch _ _ recur; exact resolve_hereG name nm w root none s i recur hch.head hl hs
  | cons t ts ih =>
    intro hch hlook hlen recur
    have hih := ih hch.tail (fun p hp => hlook p (.tail _ hp)) (by simp at hlen; omega) true
    obtain ⟨p, r, epr⟩ : ∃ p r, ts ++ [root] = p :: r := by cases ts with | nil => exact ⟨_, _, rfl⟩ | cons a b => exact ⟨_, _, rfl⟩
    have ht : Tab w t (up (ts ++ [root])) := hch.head
    rw [epr] at ht hih
    have hD : ts.length < 1048576 := by simp at hlen; omega
    cases hb : t.blk with
    | false => exact resolve_plainG name nm w t p recur ht hb (hlook t (.head _)) s i ts.length hD hs hih
    | true =>
      have hx := resolve_block name w t p recur ht (hlook t (.head _)) ts.length hD (fun s' d' w' => s' = s ∧ d' = ts.length ∧ w' = w)
        (hih.mono fun e w' ⟨he, hw⟩ => ⟨s, ts.length, he, Nat.le_refl _, rfl, rfl, hw⟩)
        (fun s' d' w' ⟨_, _, hw⟩ => by rw [hw, ht.c1, hb])
      refine hx.mono fun e w' ⟨s', d', he, _, hs', hd', hw⟩ => ?_
      subst hs' hd'
      exact ⟨he, hw⟩

end Go.Proofs.Yoeckw
