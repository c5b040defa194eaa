/-
  zzFreeScriptB2, the queries: what each Resolve from the innermost block does.
-/
import Derived.Test.YoeckwScript2
namespace Go.Proofs.Yoeckw
open Go.RowKit

/-- One table of a chain turned; what else was written lies in no table of it. -/
theorem Chain.turn {w w' : World} {t t' : Tb} {post : List Tb} {S : Nat → Prop} (hb : t'.b = t.b) (hblk : t'.blk = t.blk) (k : Kept S w w') (hpost : ∀ i, Foot post i → ¬ S i) (ht : Tab w' t' (up post)) :
    ∀ pre, (∀ i, Foot pre i → ¬ S i) → Chain w (pre ++ t :: post) → Chain w' (pre ++ t' :: post)
  | [], _, h => ⟨ht, fun e => hblk.trans (h.2.1 e), fun p hp => by rw [hb]; exact h.2.2.1 p hp, h.tail.kept k hpost⟩
  | x :: pre, hpre, h => by
    have hlt : t.b + 2 ≤ x.b := h.2.2.1 t (by simp)
    refine ⟨?_, fun e => by simp at e, ?_, Chain.turn hb hblk k hpost ht pre (fun i hi => hpre i (foot_tail hi)) h.tail⟩
    · have e1 : up (pre ++ t' :: post) = up (pre ++ t :: post) := by
        cases pre with
        | nil => simp [up, hb]
        | cons y pre => rfl
      show Tab w' x (up (pre ++ t' :: post))
      rw [e1]
      exact h.head.kept k (hpre _ (foot_head x pre).1) (hpre _ (foot_head x pre).2)
    · intro p hp
      have hp' : p ∈ pre ++ t' :: post := hp
      rw [List.mem_append, List.mem_cons] at hp'
      rcases hp' with hp' | rfl | hp'
      · exact h.2.2.1 p (by simp [hp'])
      · rw [hb]; exact hlt
      · exact h.2.2.1 p (by simp [hp'])

theorem owns_cells3 {w : World} {base T n cap : Nat} {e : TypeId} {xs : List Value} (h : w.ownsRow base e 1 (.slice (some ⟨T, 0, none⟩) n cap) n xs) : ∃ c, w.heap[T]? = some (Obj.cells c e (0, 0)) := by
  rcases h.2 with ⟨h0, _⟩ | ⟨g, cap, cur, hv, _, hh, _⟩
  · simp at h0
  · simp at hv; obtain ⟨rfl, _⟩ := hv; exact ⟨cur, hh⟩
theorem kept_of_grown3 {w w' : World} {o : Obj} {X : Nat} (hg : (w.alloc o).grownBy w' (some X)) : Kept (fun i => i = X) w w' :=
  ((Kept.refl _ w).alloc o).trans ⟨hg.os, hg.tape, hg.output, hg.size, fun i hi hn => hg.block i hi fun e => hn (Option.some.inj e)⟩

def ptrsOf (ls : Nat → Nat) (l : List Nat) : List Value := l.map fun j => Value.pointer (some ⟨ls j, 0, none⟩)
theorem ptrsOf_snoc (ls : Nat → Nat) (l : List Nat) (j : Nat) : ptrsOf ls (l ++ [j]) = ptrsOf ls l ++ [.pointer (some ⟨ls j, 0, none⟩)] := by simp [ptrsOf]
theorem ptrsOf_length (ls : Nat → Nat) (l : List Nat) : (ptrsOf ls l).length = l.length := by simp [ptrsOf]

/-- What the queries have done so far. -/
structure G5 (wr : World) (nL PB WB base : Nat) (g : Tb) (ls : Nat → Nat) (capt : List Nat) (fy : Nat → Nat) (P : Nat → Int) (wl : List Nat) : Prop where
  rowP : wr.rowIs PB 3 nL (fun j => .int .i64 (P j))
  want : wr.ownsRow WB 29 1 (.slice (some ⟨WB, 0, none⟩) wl.length nL) wl.length (ptrsOf ls wl)
  free : wr.ownsRow base 29 1 g.fs capt.length (ptrsOf ls capt)
  nd : capt.Nodup
  lt : ∀ j ∈ capt, j < nL
  hit : ∀ j ∈ capt, look (nmL j) g.es.toList = some (.pointer (some ⟨fy j, 0, none⟩)) ∧ wr.heap[fy j]? = some (symObj (nmL j) sFree (capt.idxOf j))
  miss : ∀ s, (∀ j ∈ capt, s ≠ nmL j) → look s g.es.toList = none
  wlt : WB < base
  base_le : base ≤ wr.heap.size

section
variable {w wr w' : World} {nL nG D GB LB CB FB QB PB WB base : Nat} {pre : List Tb} {g f root : Tb} {gs ls : Nat → Nat} {capt : List Nat} {fy : Nat → Nat} {P : Nat → Int} {wl : List Nat}

theorem G5.grown (h : G5 wr nL PB WB base g ls capt fy P wl) (kp : Kept (fun _ => False) wr w') : G5 w' nL PB WB base g ls capt fy P wl :=
  ⟨row_carry h.rowP (rows_grown kp), owns_carry h.want (rows_grown kp), owns_carry h.free (rows_grown kp), h.nd, h.lt, fun j hj => ⟨(h.hit j hj).1, kp.at (h.hit j hj).2 id⟩, h.miss, h.wlt, Nat.le_trans h.base_le kp.size⟩

theorem free_block (h : G5 wr nL PB WB base g ls capt fy P wl) {X : Nat} (hX : some X = g.fs.ownBlock) : base ≤ X ∧ ∃ c, wr.heap[X]? = some (Obj.cells c 29 (0, 0)) := by
  rcases h.free.2 with ⟨e, _⟩ | ⟨r, cap, cur, e, hb, hc, _⟩
  · rw [e] at hX; simp [Value.ownBlock] at hX
  · rw [e] at hX
    simp [Value.ownBlock] at hX
    subst hX
    exact ⟨hb, cur, hc⟩

/-- A store into 'pos'. -/
theorem G5.setPos (h : G5 wr nL PB WB base g ls capt fy P wl) (j : Nat) (v : Int) : G5 (wr.setCell ⟨PB, j, none⟩ (.int .i64 v)) nL PB WB base g ls capt fy (fun i => if i = j then v else P i) wl := by
  have ks := store_kept wr PB j (.int .i64 v)
  obtain ⟨c, hc, _⟩ := id h.rowP
  have h29 : ∀ (i : Nat) (c' : Array Value), wr.heap[i]? = some (Obj.cells c' 29 (0, 0)) → (wr.setCell ⟨PB, j, none⟩ (.int .i64 v)).heap[i]? = wr.heap[i]? := fun i c' hi => ks.block i (lt_of_at hi) fun e0 => by rw [e0, hc] at hi; simp at hi
  refine ⟨(h.rowP.set j _).congr fun i _ => by split <;> rfl, owns_carry h.want h29, owns_carry h.free h29, h.nd, h.lt, fun i hi => ⟨(h.hit i hi).1, ks.at (h.hit i hi).2 fun e0 => ?_⟩, h.miss, h.wlt, by simp; exact h.base_le⟩
  have := (h.hit i hi).2
  rw [e0, hc] at this
  simp [symObj] at this

/-- An append to 'want'. -/
theorem G5.append {w3 : World} {o : Obj} (h : G5 wr nL PB WB base g ls capt fy P wl) (j : Nat) (hw : w3.ownsRow WB 29 1 (.slice (some ⟨WB, 0, none⟩) (wl.length + 1) nL) (wl.length + 1) (ptrsOf ls wl ++ [.pointer (some ⟨ls j, 0, none⟩)])) (hg : (wr.alloc o).grownBy w3 (some WB)) :
    G5 w3 nL PB WB base g ls capt fy P (wl ++ [j]) ∧ Kept (fun i => i = WB) wr w3 := by
  have kp := kept_of_grown3 hg
  obtain ⟨c, hc⟩ := owns_cells3 h.want
  have hwlt := h.wlt
  refine ⟨⟨rowIs_keep h.rowP kp fun e0 => ?_, ?_, ?_, h.nd, h.lt, fun i hi => ⟨(h.hit i hi).1, kp.at (h.hit i hi).2 fun e0 => ?_⟩, h.miss, h.wlt, Nat.le_trans h.base_le kp.size⟩, kp⟩
  · obtain ⟨c', hc', _⟩ := h.rowP
    rw [e0, hc] at hc'
    simp at hc'
  · rw [ptrsOf_snoc, List.length_append]; exact hw
  · refine ⟨h.free.1, ?_⟩
    rcases h.free.2 with hn | ⟨r, cap, cur, e, hb, hgg, rest⟩
    · exact .inl hn
    · exact .inr ⟨r, cap, cur, e, hb, kp.at hgg (by omega), rest⟩
  · have := (h.hit i hi).2
    rw [e0, hc] at this
    simp [symObj] at this

/-- What a capture may write. -/
def Hits (g : Tb) (k : Nat) : Prop := k = g.b ∨ k = g.b + 1 ∨ some k = g.fs.ownBlock

theorem not_hits (ht : Tab wr g (some ⟨f.b + 1, 0, none⟩)) (h5 : G5 wr nL PB WB base g ls capt fy P wl) {b : Nat} {c : Array Value} {e : TypeId} {fr : Nat × Nat} (hb : wr.heap[b]? = some (Obj.cells c e fr)) (he : e ≠ 50) (h29 : e ≠ 29 ∨ b < base) : ¬ Hits g b := by
  rintro (e0 | e0 | e0)
  · rw [e0, ht.map] at hb; simp at hb
  · rw [e0, ht.cells] at hb; simp [Tb.obj] at hb; exact he hb.2.1.symm
  · obtain ⟨hbase, c', hc'⟩ := free_block h5 e0
    rw [hc'] at hb
    simp at hb
    rcases h29 with h | h
    · exact h hb.2.1.symm
    · omega

theorem not_hits_foot (h5 : G5 wr nL PB WB base g ls capt fy P wl) {L : List Tb} (hL : Chain wr L) (ho : ∀ p ∈ L, p.b + 2 ≤ g.b ∨ g.b + 2 ≤ p.b) : ∀ i, Foot L i → ¬ Hits g i := by
  rintro i hi (e0 | e0 | e0)
  · obtain ⟨p, hp, e⟩ := hi; have := ho p hp; omega
  · obtain ⟨p, hp, e⟩ := hi; have := ho p hp; omega
  · obtain ⟨_, c', hc'⟩ := free_block h5 e0
    exact not_foot_of_type hL hc' (by decide) hi

theorem chain_above {w : World} {g : Tb} {post : List Tb} : ∀ {pre : List Tb}, Chain w (pre ++ g :: post) → ∀ p ∈ pre, g.b + 2 ≤ p.b
  | _ :: _, h, _, .head _ => h.2.2.1 g (by simp)
  | _ :: _, h, p, .tail _ hp => chain_above h.tail p hp

theorem chain_pre {w : World} {post : List Tb} : ∀ {pre : List Tb}, Chain w (pre ++ post) → ∀ p ∈ pre, ∃ par, Tab w p par
  | _ :: _, h, _, .head _ => ⟨_, h.head⟩
  | _ :: _, h, p, .tail _ hp => chain_pre h.tail p hp

theorem not_foot_pre {w : World} {pre post : List Tb} (h : Chain w (pre ++ post)) {k : Nat} {c : Array Value} {e : TypeId} {fr : Nat × Nat} (hk : w.heap[k]? = some (.cells c e fr)) (he : e ≠ 50) : ¬ Foot pre k := by
  rintro ⟨p, hp, e0⟩
  exact not_foot_of_type h hk he ⟨p, by simp [hp], e0⟩

theorem hits_pre (h3 : G3 w wr nL nG D D GB LB CB FB QB pre g f root gs ls) (h5 : G5 wr nL PB WB base g ls capt fy P wl) : ∀ i, Foot pre i → ¬ Hits g i := by
  rintro i ⟨p, hp, e⟩ (e0 | e0 | e0)
  · have := chain_above h3.chain p hp; omega
  · have := chain_above h3.chain p hp; omega
  · obtain ⟨_, c', hc'⟩ := free_block h5 e0
    exact not_foot_pre h3.chain hc' (by decide) ⟨p, hp, e⟩

theorem G_capture (h3 : G3 w wr nL nG D D GB LB CB FB QB pre g f root gs ls) (h5 : G5 wr nL PB WB base g ls capt fy P wl) (hn : nL ≤ 4096) {j ns : Nat} (hj : j < nL) (hnj : j ∉ capt) (hGb : GB < base) (hLb : LB < base)
    (hc : Captured wr g (some ⟨f.b + 1, 0, none⟩) (nmL j) (ls j) base capt.length (ptrsOf ls capt) ns w') :
    ∃ g', G3 w w' nL nG D D GB LB CB FB QB pre g' f root gs ls ∧ G5 w' nL PB WB base g' ls (capt ++ [j]) (fun i => if i = j then ns else fy i) P wl ∧ w'.heap[ns]? = some (symObj (nmL j) sFree capt.length) := by
  obtain ⟨fs', es', ck', hns, htab, hl, hown, hsym, kp0⟩ := hc
  have kp : Kept (Hits g) wr w' := kp0
  have hgt : Chain wr (g :: [f, root]) := Chain.suffix h3.chain
  have ht : Tab wr g (some ⟨f.b + 1, 0, none⟩) := hgt.head
  have hfo : f.b + 2 ≤ g.b := hgt.2.2.1 f (by simp)
  have hro : root.b + 2 ≤ g.b := hgt.2.2.1 root (by simp)
  have hpost := not_hits_foot h5 hgt.tail (fun p hp => by simp at hp; rcases hp with rfl | rfl <;> exact .inl (by assumption))
  have hpre := hits_pre h3 h5
  have hblk : ∀ {b : Nat} {c : Array Value} {e : TypeId} {fr : Nat × Nat}, wr.heap[b]? = some (Obj.cells c e fr) → e ≠ 50 → (e ≠ 29 ∨ b < base) → w'.heap[b]? = wr.heap[b]? := fun hb he h29 => kp.block _ (lt_of_at hb) (not_hits ht h5 hb he h29)
  have hsy : ∀ (i : Nat) (c : Array Value), wr.heap[i]? = some (Obj.cells c 33 (0, 0)) → w'.heap[i]? = wr.heap[i]? := fun i c hi => hblk hi (by decide) (.inl (by decide))
  have hrow : ∀ {b n : Nat} {e : TypeId} {F : Nat → Value}, wr.rowIs b e n F → e ≠ 50 → (e ≠ 29 ∨ b < base) → w'.rowIs b e n F := fun hr he h29 => by
    obtain ⟨c, hc, _⟩ := id hr
    exact hr.of_block (hblk hc he h29)
  have hbs : ∀ M : List Tb, (M ++ [{ g with fs := fs', es := es', ck := ck' }]).map Tb.b = (M ++ [g]).map Tb.b := fun M => by simp
  refine ⟨{ g with fs := fs', es := es', ck := ck' }, ⟨Chain.turn (t := g) (t' := { g with fs := fs', es := es', ck := ck' }) rfl rfl kp hpost htab pre hpre h3.chain, h3.plen, h3.hpre, h3.gblk, h3.gb, h3.ffs, h3.fblk, h3.fb, h3.rfs, h3.rb, h3.nmsG.keep hsy, h3.nmsL.keep hsy,
      hrow h3.rowG (by decide) (.inr hGb), hrow h3.rowL (by decide) (.inr hLb), ?_, ?_, h3.hGB, h3.hLB, h3.hCB, ?_⟩, ⟨hrow h5.rowP (by decide) (.inl (by decide)), ?_, ?_, ?_, ?_, ?_, ?_, h5.wlt, Nat.le_trans h5.base_le kp.size⟩, hsym⟩
  · rw [ptrs_map (hbs pre)]
    exact hrow h3.rowC (by decide) (.inl (by decide))
  · refine h3.bel.trans (kp.below h3.bel.size fun i hi hh => ?_)
    have hgl := h3.lo g (by simp)
    rcases hh with e0 | e0 | e0
    · omega
    · omega
    · have := (free_block h5 e0).1
      have := h3.hGB
      omega
  · intro p hp
    rw [List.mem_append] at hp
    rcases hp with hp | hp
    · exact h3.lo p (by simp [hp])
    · simp at hp
      rcases hp with rfl | rfl | rfl
      · exact h3.lo g (by simp)
      · exact h3.lo p (by simp)
      · exact h3.lo p (by simp)
  · obtain ⟨h1, h2⟩ := h5.want
    refine ⟨h1, ?_⟩
    rcases h2 with hn | ⟨r, cap, cur, e, hb, hgg, rest⟩
    · exact .inl hn
    · refine .inr ⟨r, cap, cur, e, hb, (hblk hgg (by decide) (.inr ?_)).trans hgg, rest⟩
      simp at e
      have := h5.wlt
      omega
  · rw [ptrsOf_snoc, List.length_append]; exact hown
  · exact List.nodup_append.2 ⟨h5.nd, by simp, fun a ha b hb => by simp at hb; subst hb; exact fun e => hnj (e ▸ ha)⟩
  · intro i hi
    simp at hi
    rcases hi with hi | rfl
    · exact h5.lt i hi
    · exact hj
  · intro i hi
    show look (nmL i) es'.toList = _ ∧ _
    rw [hl]
    by_cases e : i = j
    · subst e
      refine ⟨by simp, ?_⟩
      rw [if_pos rfl, hsym]
      simp [List.idxOf_append, hnj]
    · have hic : i ∈ capt := by simp at hi; rcases hi with hi | hi; exact hi; exact absurd hi e
      have hine : nmL i ≠ nmL j := fun e2 => e (nmL_inj (by have := h5.lt i hic; omega) (by omega) e2)
      rw [if_neg hine, if_neg e]
      refine ⟨(h5.hit i hic).1, ?_⟩
      rw [hsy _ _ (h5.hit i hic).2, (h5.hit i hic).2]
      simp [List.idxOf_append, hic]
  · intro t hts
    show look t es'.toList = none
    rw [hl, if_neg (hts j (by simp)), h5.miss t fun i hi => hts i (by simp [hi])]

/-- A local that is not yet captured. -/
theorem resolve_A1 (h3 : G3 w wr nL nG D D GB LB CB FB QB pre g f root gs ls) (h5 : G5 wr nL PB WB base g ls capt fy P wl) (hn : nL ≤ 4096) (hD : D ≤ 4096) {j : Nat} (hj : j < nL) (hnj : j ∉ capt) (hcl : capt.length ≤ 4096) (hGb : GB < base) (hLb : LB < base) {ib : Nat} (hib : up (pre ++ [g, f, root]) = some ⟨ib, 0, none⟩) :
    Calls Eckg.prog 20 #[.pointer (some ⟨ib, 0, none⟩), .string (nmL j), .bool false] wr fun e w' => ∃ ns : Nat, e = .returned (.tuple #[.pointer (some ⟨ns, 0, none⟩), .int .i64 ((D : Int) + 1), .bool true]) ∧ w'.heap[ns]? = some (symObj (nmL j) sFree capt.length) ∧
      ∃ g' fy', G3 w w' nL nG D D GB LB CB FB QB pre g' f root gs ls ∧ G5 w' nL PB WB base g' ls (capt ++ [j]) fy' P wl := by
  have hgt : Chain wr (g :: [f, root]) := Chain.suffix h3.chain
  have ht : Tab wr g (some ⟨f.b + 1, 0, none⟩) := hgt.head
  have hmiss : look (nmL j) g.es.toList = none := h5.miss _ fun i hi e => hnj (by have := nmL_inj (by omega) (by have := h5.lt i hi; omega) e; rw [this]; exact hi)
  have hcap := fun recur => resolve_capture (nmL j) wr g f _ recur ht h3.gblk hmiss hgt.tail.head (ls j) j base capt.length (ptrsOf ls capt) (h3.nmsL.hit j hj) (h3.nmsL.sym j hj) h5.free (by omega) h5.base_le
  have hb := resolve_blocks (nmL j) wr g [f, root] 1 (fun s d w' => d = 1 ∧ Captured wr g (some ⟨f.b + 1, 0, none⟩) (nmL j) (ls j) base capt.length (ptrsOf ls capt) s w')
    (fun recur => (hcap recur).mono fun e w' ⟨ns, he, hc⟩ => ⟨ns, 1, he, Nat.le_refl _, rfl, hc⟩) pre h3.chain (fun p hp => (h3.hpre p hp).1) (fun p hp => by rw [(h3.hpre p hp).2.1]; rfl) (by rw [h3.plen]; omega)
    (fun s d w' ⟨_, hc⟩ p hp => by
      obtain ⟨_, _, _, _, _, _, _, _, kp⟩ := hc
      obtain ⟨par, htp⟩ := chain_pre h3.chain p hp
      have hh := hits_pre h3 h5
      have := htp.kept (S := Hits g) kp (hh _ ⟨p, hp, .inl rfl⟩) (hh _ ⟨p, hp, .inr rfl⟩)
      rw [this.c1, (h3.hpre p hp).1]) false
  rw [hib] at hb
  refine hb.mono ?_
  rintro e w' ⟨s, d, rfl, _, rfl, hc⟩
  obtain ⟨g', hg3, hg5, hsy⟩ := G_capture h3 h5 hn hj hnj hGb hLb hc
  refine ⟨s, ?_, hsy, g', _, hg3, hg5⟩
  rw [h3.plen, show ((1 + D : Nat) : Int) = (D : Int) + 1 by omega]

/-- A local that is captured. -/
theorem resolve_A2 (h3 : G3 w wr nL nG D D GB LB CB FB QB pre g f root gs ls) (h5 : G5 wr nL PB WB base g ls capt fy P wl) (hD : D ≤ 4096) {j : Nat} (hj : j ∈ capt) {ib : Nat} (hib : up (pre ++ [g, f, root]) = some ⟨ib, 0, none⟩) :
    Calls Eckg.prog 20 #[.pointer (some ⟨ib, 0, none⟩), .string (nmL j), .bool false] wr fun e w' => e = .returned (.tuple #[.pointer (some ⟨fy j, 0, none⟩), .int .i64 (D : Int), .bool true]) ∧ w' = wr := by
  have hgt : Chain wr (g :: [f, root]) := Chain.suffix h3.chain
  have hb := resolve_blocks (nmL j) wr g [f, root] 0 (fun s d w' => s = fy j ∧ d = 0 ∧ w' = wr)
    (fun recur => (resolve_hereF (nmL j) (nmL j) wr g _ (fy j) _ recur hgt.head (h5.hit j hj).1 (h5.hit j hj).2).mono fun e w' ⟨he, hw⟩ => ⟨fy j, 0, he, Nat.le_refl _, rfl, rfl, hw⟩) pre h3.chain (fun p hp => (h3.hpre p hp).1) (fun p hp => by rw [(h3.hpre p hp).2.1]; rfl) (by rw [h3.plen]; omega)
    (fun s d w' ⟨_, _, hw⟩ p hp => by
      obtain ⟨par, htp⟩ := chain_pre h3.chain p hp
      rw [hw, htp.c1, (h3.hpre p hp).1]) false
  rw [hib] at hb
  refine hb.mono ?_
  rintro e w' ⟨s, d, rfl, _, rfl, rfl, hw⟩
  refine ⟨?_, hw⟩
  rw [h3.plen, Nat.zero_add]

/-- A global. -/
theorem resolve_B (h3 : G3 w wr nL nG D D GB LB CB FB QB pre g f root gs ls) (h5 : G5 wr nL PB WB base g ls capt fy P wl) (hD : D ≤ 4096) {i : Nat} (hi : i < nG) {ib : Nat} (hib : up (pre ++ [g, f, root]) = some ⟨ib, 0, none⟩) :
    Calls Eckg.prog 20 #[.pointer (some ⟨ib, 0, none⟩), .string (nmG i), .bool false] wr fun e w' => e = .returned (.tuple #[.pointer (some ⟨gs i, 0, none⟩), .int .i64 ((D : Int) + 2), .bool true]) ∧ w' = wr := by
  have e1 : pre ++ [g, f, root] = (pre ++ [g, f]) ++ [root] := by simp
  have hch := h3.chain
  rw [e1] at hch hib
  have hr := resolve_global (nmG i) (nmG i) wr root (gs i) i (h3.nmsG.hit i hi) (h3.nmsG.sym i hi) (pre ++ [g, f]) hch (fun p hp => by
    rw [List.mem_append] at hp
    rcases hp with hp | hp
    · rw [(h3.hpre p hp).2.1]; rfl
    · simp at hp
      rcases hp with rfl | rfl
      · exact h5.miss _ fun j _ => nmG_ne_nmL i j
      · exact h3.nmsL.miss _ fun j _ => nmG_ne_nmL i j) (by simp [h3.plen]; omega) false
  rw [hib] at hr
  refine hr.mono ?_
  rintro e w' ⟨rfl, hw⟩
  refine ⟨?_, hw⟩
  rw [show (((pre ++ [g, f]).length : Nat) : Int) = (D : Int) + 2 by simp [h3.plen]]

/-- A name that is nowhere. -/
theorem resolve_C (h3 : G3 w wr nL nG D D GB LB CB FB QB pre g f root gs ls) (h5 : G5 wr nL PB WB base g ls capt fy P wl) {ib : Nat} (hib : up (pre ++ [g, f, root]) = some ⟨ib, 0, none⟩) :
    Calls Eckg.prog 20 #[.pointer (some ⟨ib, 0, none⟩), .string sNone, .bool false] wr fun e w' => e = .returned (.tuple #[.pointer none, .int .i64 0, .bool false]) ∧ w' = wr := by
  obtain ⟨t, r, etr⟩ : ∃ t r, pre ++ [g, f, root] = t :: r := by cases pre with | nil => exact ⟨_, _, rfl⟩ | cons a b => exact ⟨_, _, rfl⟩
  have hch := h3.chain
  rw [etr] at hch hib
  simp only [up, Option.some.injEq] at hib
  have hr := resolve_none sNone wr r t false hch (fun p hp => by
    rw [← etr, List.mem_append] at hp
    rcases hp with hp | hp
    · rw [(h3.hpre p hp).2.1]; rfl
    · simp at hp
      rcases hp with rfl | rfl | rfl
      · exact h5.miss _ fun j _ => none_ne_nmL j
      · exact h3.nmsL.miss _ fun j _ => none_ne_nmL j
      · exact h3.nmsG.miss _ fun j _ => none_ne_nmG j)
  rw [hib] at hr
  exact hr
end

theorem row_ne {w : World} {a b n m : Nat} {e e' : TypeId} {F F' : Nat → Value} (h : w.rowIs a e n F) (h' : w.rowIs b e' m F') (he : e ≠ e') : a ≠ b := fun e0 => by
  obtain ⟨c, hc, _⟩ := h
  obtain ⟨c', hc', _⟩ := h'
  rw [e0, hc'] at hc
  simp at hc
  exact he hc.2.symm

/-- 'pos' is laid: a store of -1. -/
theorem pos_step {w wr : World} {nL nG D GB LB CB FB QB PB j : Nat} {pre : List Tb} {g f root : Tb} {gs ls : Nat → Nat} (h : G3 w wr nL nG D D GB LB CB FB QB pre g f root gs ls) (hP : w.heap.size ≤ PB)
    (hr : wr.rowIs PB 3 nL (fun i => if i < j then .int .i64 (-1) else .int .i64 0)) :
    G3 w (wr.setCell ⟨PB, j, none⟩ (.int .i64 (-1))) nL nG D D GB LB CB FB QB pre g f root gs ls ∧ (wr.setCell ⟨PB, j, none⟩ (.int .i64 (-1))).rowIs PB 3 nL (fun i => if i < j + 1 then .int .i64 (-1) else .int .i64 0) := by
  obtain ⟨c, hc, _⟩ := id hr
  refine ⟨h.other hc (by decide) (by decide) (row_ne h.rowG hr (by decide)) (row_ne h.rowL hr (by decide)) (row_ne h.rowC hr (by decide)) hP (store_kept _ _ _ _), (hr.set j _).congr fun i _ => ?_⟩
  by_cases e : i = j
  · subst e; simp
  · by_cases h1 : i < j
    · simp [e, h1, show i < j + 1 by omega]
    · simp [e, h1, show ¬ i < j + 1 by omega]

/-- 'make([]*Symbol, 0, n)'. -/
theorem run_make0 (n : Nat) (hn : n ≤ 4096) (w : World) : (Instr.makeSlice 36 (.int .i64 0) (.int .i64 (n : Int))).run Eckg.prog w = .ok (.slice (some ⟨w.heap.size, 0, none⟩) 0 n) (mkRow w (.pointer none) n 29) := by
  obtain ⟨i, hi0, hz0, hz1, hz2⟩ := info_parts info29
  have hr := run_make (P := Eckg.prog) w 36 29 i (.pointer none) Eckg.underlying36 hi0 hz0 .i64 .i64 0 (n : Int) (by omega) (by omega) (by rw [hz2]; omega) (by omega)
  rw [hr, hz1]
  simp [mkRow, Value.cells]

theorem g5_start {w wr : World} {nL nG D GB LB CB FB QB PB : Nat} {pre : List Tb} {f root : Tb} {gs ls : Nat → Nat} (hnL : nL ≤ 4096) (h : G3 w wr nL nG D D GB LB CB FB QB pre (fresh QB false) f root gs ls)
    (hr : wr.rowIs PB 3 nL (fun i => if i < nL then .int .i64 (-1) else .int .i64 0)) :
    G3 w (mkRow wr (.pointer none) nL 29) nL nG D D GB LB CB FB QB pre (fresh QB false) f root gs ls ∧
    G5 (mkRow wr (.pointer none) nL 29) nL PB wr.heap.size (wr.heap.size + 1) (fresh QB false) ls [] (fun _ => 0) (posOf []) [] := by
  have kp := mkRow_kept wr (.pointer none) nL 29
  refine ⟨h.grown kp, (row_carry hr (rows_grown kp)).congr fun i hi => by simp [hi, posOf], ?_, World.ownsRow_nil _ _ _ _, List.nodup_nil, by simp, by simp, fun _ _ => rfl, by omega, by rw [mkRow_size]; omega⟩
  exact World.ownsRow_made wr _ nL (Nat.le_refl _) (by unfold maxLen; omega) (by rw [size_madeCells]; simp)

theorem nodup_len : ∀ (n : Nat) (l : List Nat), l.Nodup → (∀ j ∈ l, j < n) → l.length ≤ n := by
  intro n
  induction n with
  | zero => intro l _ h; cases l with | nil => simp | cons a l => exact absurd (h a (.head _)) (by omega)
  | succ n ih =>
    intro l hn hl
    have h1 := ih (l.filter (· ≠ n)) (hn.filter _) (fun j hj => by
      simp at hj
      have := hl j hj.1
      omega)
    have h2 : l.length ≤ (l.filter (· ≠ n)).length + 1 := by
      have hc : l.count n ≤ 1 := List.nodup_iff_count.1 hn n
      have := List.length_eq_countP_add_countP (· ≠ n) (l := l)
      have e1 : l.countP (fun a => decide ¬ (decide (a ≠ n) = true)) = l.count n := by
        rw [List.count]
        congr 1
        funext a
        by_cases h : a = n <;> simp [h]
      rw [← List.countP_eq_length_filter]
      omega
    omega

/-- Behind a capture: 'pos' and 'want' are written. -/
theorem A1_done {w w4 w6 : World} {nL nG D GB LB CB FB QB PB WB j ns : Nat} {pre : List Tb} {g f root : Tb} {gs ls : Nat → Nat} {capt : List Nat} {fy : Nat → Nat} {nm : ByteArray} {o : Obj}
    (h3 : G3 w w4 nL nG D D GB LB CB FB QB pre g f root gs ls) (h5 : G5 w4 nL PB WB (WB + 1) g ls (capt ++ [j]) fy (posOf capt) capt) (hj : j < nL) (hnj : j ∉ capt) (hP : w.heap.size ≤ PB) (hG : GB < WB) (hL : LB < WB)
    (hsy : w4.heap[ns]? = some (symObj nm sFree capt.length))
    (hown : w6.ownsRow WB 29 1 (.slice (some ⟨WB, 0, none⟩) (capt.length + 1) nL) (capt.length + 1) (ptrsOf ls capt ++ [.pointer (some ⟨ls j, 0, none⟩)])) (hg : ((w4.setCell ⟨PB, j, none⟩ (.int .i64 capt.length)).alloc o).grownBy w6 (some WB)) :
    G3 w w6 nL nG D D GB LB CB FB QB pre g f root gs ls ∧ G5 w6 nL PB WB (WB + 1) g ls (capt ++ [j]) fy (posOf (capt ++ [j])) (capt ++ [j]) ∧ w6.cell? ⟨ns, 2, none⟩ = some (.int .i64 capt.length) ∧ w6.cell? ⟨PB, j, none⟩ = some (.int .i64 capt.length) := by
  have ks := store_kept w4 PB j (.int .i64 capt.length)
  obtain ⟨cP, hcP, _⟩ := id h5.rowP
  have h3a := h3.other hcP (by decide) (by decide) (row_ne h3.rowG h5.rowP (by decide)) (row_ne h3.rowL h5.rowP (by decide)) (row_ne h3.rowC h5.rowP (by decide)) hP ks
  have h5a := h5.setPos j capt.length
  have hsya : (w4.setCell ⟨PB, j, none⟩ (.int .i64 capt.length)).heap[ns]? = some (symObj nm sFree capt.length) := ks.at hsy fun e0 => by rw [e0, hcP] at hsy; simp [symObj] at hsy
  generalize w4.setCell ⟨PB, j, none⟩ (.int .i64 capt.length) = w5 at *
  obtain ⟨h5b, kw⟩ := h5a.append j hown hg
  obtain ⟨cW, hcW⟩ := owns_cells3 h5a.want
  have hCW : CB ≠ WB := fun e0 => by obtain ⟨c, hc, _⟩ := h3a.rowC; rw [e0, hcW] at hc; simp at hc
  have h3b := h3a.other hcW (by decide) (by decide) (by omega) (by omega) hCW (by have := h3.hGB; omega) kw
  have hfun : (fun i => if i = j then ((capt.length : Nat) : Int) else posOf capt i) = posOf (capt ++ [j]) := funext fun i => (posOf_snoc capt j i hnj).symm
  rw [hfun] at h5b
  refine ⟨h3b, h5b, ?_, ?_⟩
  · rw [cell_at (kw.at hsya fun e0 => by rw [e0, hcW] at hsya; simp [symObj] at hsya)]; rfl
  · rw [h5b.rowP.cell hj, posOf_snoc capt j j hnj, if_pos rfl]

theorem free_form {wr : World} {nL PB WB base : Nat} {g : Tb} {ls : Nat → Nat} {capt : List Nat} {fy : Nat → Nat} {P : Nat → Int} {wl : List Nat} (h : G5 wr nL PB WB base g ls capt fy P wl) :
    ∃ ao cap, g.fs = .slice ao capt.length cap ∧ (0 < capt.length → ∃ r, ao = some ⟨r, 0, none⟩ ∧ ∀ i, i < capt.length → wr.cell? ⟨r, i, none⟩ = (ptrsOf ls capt)[i]?) := by
  have hf := h.free
  rcases h.free.2 with ⟨e, e0⟩ | ⟨r, cap, cur, e, _⟩
  · exact ⟨none, 0, by rw [e, e0], fun hh => by omega⟩
  · refine ⟨some ⟨r, 0, none⟩, cap, e, fun _ => ⟨r, rfl, fun i hi => ?_⟩⟩
    rw [e] at hf
    exact hf.cellAt i (by omega)

theorem want_cell {wr : World} {nL PB WB base : Nat} {g : Tb} {ls : Nat → Nat} {capt : List Nat} {fy : Nat → Nat} {P : Nat → Int} {wl : List Nat} (h : G5 wr nL PB WB base g ls capt fy P wl) {i : Nat} (hi : i < wl.length) : wr.cell? ⟨WB, i, none⟩ = (ptrsOf ls wl)[i]? :=
  h.want.cellAt i (by omega)

theorem ptrsOf_get (ls : Nat → Nat) (l : List Nat) {i : Nat} (hi : i < l.length) : (ptrsOf ls l)[i]? = some (.pointer (some ⟨ls l[i], 0, none⟩)) := by simp [ptrsOf, hi]

theorem chain_cell {w wr : World} {nL nG D GB LB CB FB QB : Nat} {pre : List Tb} {g f root : Tb} {gs ls : Nat → Nat} (h : G3 w wr nL nG D D GB LB CB FB QB pre g f root gs ls) {i : Nat} (h1 : 1 ≤ i) (h2 : i ≤ D) :
    ∃ p par, wr.cell? ⟨CB, i, none⟩ = some (.pointer (some ⟨p.b + 1, 0, none⟩)) ∧ Tab wr p par ∧ p.fs = .slice none 0 0 := by
  have hl := h.plen
  have hc := h.rowC.cell (i := i) (by omega)
  have e1 : ptrs (pre ++ [g]) = .pointer (some ⟨g.b + 1, 0, none⟩) :: ptrs pre := by simp [ptrs]
  obtain ⟨i', rfl⟩ : ∃ i', i = i' + 1 := ⟨i - 1, by omega⟩
  rw [e1, List.getElem?_cons_succ] at hc
  have hlt : i' < pre.reverse.length := by simp; omega
  have hget : (ptrs pre)[i']? = some (.pointer (some ⟨(pre.reverse[i']).b + 1, 0, none⟩)) := by
    have : ptrs pre = pre.reverse.map fun t => Value.pointer (some ⟨t.b + 1, 0, none⟩) := by simp [ptrs]
    rw [this, List.getElem?_map, List.getElem?_eq_getElem hlt]
    rfl
  rw [hget] at hc
  have hm : pre.reverse[i'] ∈ pre := List.mem_reverse.1 (List.getElem_mem hlt)
  obtain ⟨par, ht⟩ := chain_pre h.chain _ hm
  exact ⟨_, par, hc, ht, (h.hpre _ hm).2.2⟩

end Go.Proofs.Yoeckw
