/-
  THE WALK OF FnMaxSymbolsGlobalCount.
-/
import Derived.Test.YoeckwStack
import Derived.Deep.DeepCutAuto
namespace Go.Proofs.Yoeckw
open Go.RowKit

/-- A chain of blocks over the root at global scope. -/
def FormD (L : List Tb) (R total : Nat) : Prop := ∃ pre root, L = pre ++ [root] ∧ (∀ p ∈ pre, p.blk = true ∧ p.nd = 0) ∧ root.blk = false ∧ root.b = R ∧ root.nd = total ∧ root.md = total

theorem sumNd_zero : ∀ L : List Tb, (∀ p ∈ L, p.nd = 0) → sumNd L = 0
  | [], _ => rfl
  | t :: r, h => by rw [sumNd, sumNd_zero r fun p hp => h p (.tail _ hp), h t (.head _)]

theorem formD_idx {L : List Tb} {R total : Nat} (h : FormD L R total) : idx L = total := by
  obtain ⟨pre, root, rfl, hpre, hb, _, hn, _⟩ := h
  rw [idx_pre root [] hb pre fun p hp => (hpre p hp).1, sumNd_zero pre fun p hp => (hpre p hp).2, hn]
  rfl
theorem formD_sc {L : List Tb} {R total : Nat} (h : FormD L R total) : scOf L = sGlobal := by
  obtain ⟨pre, root, rfl, hpre, hb, _, hn, _⟩ := h
  simp [scOf, par_pre root [] hb pre fun p hp => (hpre p hp).1, up]
theorem formD_nd {L : List Tb} {R total : Nat} (h : FormD L R total) : ∀ p ∈ L, p.nd ≤ total := by
  obtain ⟨pre, root, rfl, hpre, hb, _, hn, _⟩ := h
  intro p hp
  simp at hp
  rcases hp with hp | rfl
  · rw [(hpre p hp).2]; omega
  · omega

theorem formD_define {L : List Tb} {R total : Nat} (h : FormD L R total) (es' : Array MapEntry) (ck' : Nat) : FormD (umd (total + 1) (stepL es' ck' L)) R (total + 1) ∧ (umd (total + 1) (stepL es' ck' L)).map Tb.b = L.map Tb.b := by
  obtain ⟨pre, root, rfl, hpre, hb, hR, hn, hm⟩ := h
  cases pre with
  | nil =>
    rw [List.nil_append, stepL_root es' ck' root hb]
    have hu := umd_pre (total + 1) { root with es := es', ck := ck', nd := root.nd + 1 } [] hb [] (by simp)
    rw [List.nil_append] at hu
    rw [hu]
    refine ⟨⟨[], _, rfl, by simp, hb, hR, ?_, ?_⟩, rfl⟩
    · rw [mx_nd]; show root.nd + 1 = _; rw [hn]
    · rw [mx_md]; show (if root.md < _ then _ else root.md) = _; rw [hm]; simp
  | cons t pre =>
    have hpar : parOf true (t :: (pre ++ [root])) = none := by
      have := par_pre root [] hb (t :: pre) fun p hp => (hpre p hp).1
      simpa [up] using this
    obtain ⟨q, r, eq⟩ : ∃ q r, pre ++ [root] = q :: r := by cases pre with | nil => exact ⟨_, _, rfl⟩ | cons a b => exact ⟨_, _, rfl⟩
    have hst : stepL es' ck' (t :: pre ++ [root]) = ({ t with es := es', ck := ck' } :: pre) ++ [{ root with nd := root.nd + 1 }] := by
      rw [List.cons_append] at *
      have h0 : stepL es' ck' (t :: (pre ++ [root])) = { t with es := es', ck := ck' } :: bump (pre ++ [root]) := by
        rw [eq] at hpar ⊢
        exact stepL_block es' ck' t q r hpar
      rw [h0, bump_snoc]
      rfl
    have hpre' : ∀ p ∈ ({ t with es := es', ck := ck' } : Tb) :: pre, p.blk = true := by
      intro p hp
      cases hp with
      | head => exact (hpre t (.head _)).1
      | tail _ hp => exact (hpre p (.tail _ hp)).1
    rw [hst, umd_pre (total + 1) { root with nd := root.nd + 1 } [] hb _ hpre']
    refine ⟨⟨_, _, rfl, ?_, hb, hR, ?_, ?_⟩, ?_⟩
    · intro p hp
      obtain ⟨q, hq, rfl⟩ := List.mem_map.1 hp
      cases hq with
      | head => exact hpre t (.head _)
      | tail _ hq => exact hpre q (.tail _ hq)
    · rw [mx_nd]; show root.nd + 1 = _; rw [hn]
    · rw [mx_md]; show (if root.md < _ then _ else root.md) = _; rw [hm]; simp
    · simp [Function.comp_def, mx_b]

structure InvD (w wr : World) (T R len : Nat) (ao' : Option Addr) (V : Nat → Int) (k total : Nat) (L : List Tb) : Prop where
  chain : Chain wr L
  form : FormD L R total
  own : wr.ownsRow T 26 1 (.slice (some ⟨T, 0, none⟩) L.length (len + 1)) L.length (ptrs L)
  dep : L.length ≤ k + 1
  tot : total ≤ k
  bs : 0 < len → ao' = some ⟨w.heap.size, 0, none⟩ ∧ wr.rowIs w.heap.size 5 len (fun i => .int .u8 (V i))
  bel : Below w.heap.size w wr
  lo : ∀ p ∈ L, w.heap.size ≤ p.b
  hT : w.heap.size ≤ T

theorem InvD.below {w wr w3 : World} {T R len : Nat} {ao' : Option Addr} {V : Nat → Int} {k total : Nat} {L : List Tb} (h : InvD w wr T R len ao' V k total L) (hb : Below wr.heap.size wr w3) : InvD w w3 T R len ao' V k total L :=
  ⟨h.chain.below hb, h.form, owns_carry h.own (rows_below hb), h.dep, h.tot, fun hl => ⟨(h.bs hl).1, row_carry (h.bs hl).2 (rows_below hb)⟩, h.bel.trans (hb.mono h.bel.size), h.lo, h.hT⟩

theorem InvD.next {w wr : World} {T R len : Nat} {ao' : Option Addr} {V : Nat → Int} {k total : Nat} {L : List Tb} (h : InvD w wr T R len ao' V k total L) : InvD w wr T R len ao' V (k + 1) total L :=
  ⟨h.chain, h.form, h.own, by have := h.dep; omega, by have := h.tot; omega, h.bs, h.bel, h.lo, h.hT⟩

theorem InvD.ne {w wr : World} {T R len : Nat} {ao' : Option Addr} {V : Nat → Int} {k total : Nat} {L : List Tb} (h : InvD w wr T R len ao' V k total L) : ∃ t r, L = t :: r := by
  obtain ⟨pre, root, e, _⟩ := h.form
  cases pre with
  | nil => exact ⟨root, [], e⟩
  | cons a b => exact ⟨a, b ++ [root], e⟩

/-- A Define at the top of the stack. -/
theorem define_D {w w3 : World} {T R len : Nat} {ao' : Option Addr} {V : Nat → Int} {k total : Nat} {L : List Tb} (h : InvD w w3 T R len ao' V k total L) (hk : k ≤ 4096) (name : ByteArray) :
    Calls Eckg.prog 16 #[.pointer (up L), .string name] w3 fun e w4 => ∃ ns, e = .returned (.pointer (some ⟨ns, 0, none⟩)) ∧ w4.cell? ⟨ns, 2, none⟩ = some (.int .i64 total) ∧ w4.cell? ⟨ns, 1, none⟩ = some (.string ⟨#[71, 76, 79, 66, 65, 76]⟩) ∧
      ∃ L', L'.length = L.length ∧ InvD w w4 T R len ao' V (k + 1) (total + 1) L' := by
  obtain ⟨t, r, rfl⟩ := h.ne
  have htot := h.tot
  have hix := formD_idx h.form
  have hd := define_any name r t w3 h.chain (by rw [hix]; omega) (fun p hp => by have := formD_nd h.form p hp; omega)
  refine hd.mono ?_
  rintro e w4 ⟨rfl, es', ck', hkeys, hlook, hm⟩
  rw [hix, formD_sc h.form] at hm
  have hf := formD_define h.form es' ck'
  have hlen : (umd (total + 1) (stepL es' ck' (t :: r))).length = (t :: r).length := by
    have := congrArg List.length hf.2
    simpa using this
  refine ⟨_, rfl, by rw [cell_at hm.sym]; rfl, by rw [cell_at hm.sym]; rfl, _, hlen, hm.chain, hf.1, ?_, ?_, by omega, fun hl => ?_, ?_, ?_, h.hT⟩
  · rw [hlen, ptrs_map hf.2]
    exact owns_carry h.own (rows_kept h.chain hm.kept (by decide))
  · rw [hlen]; have := h.dep; omega
  · exact ⟨(h.bs hl).1, row_carry (h.bs hl).2 (rows_kept h.chain hm.kept (by decide))⟩
  · refine h.bel.trans (hm.kept.below h.bel.size fun i hi hfoot => ?_)
    obtain ⟨p, hp, e⟩ := hfoot
    have := h.lo p hp
    omega
  · intro p hp
    have : p.b ∈ (umd (total + 1) (stepL es' ck' (t :: r))).map Tb.b := List.mem_map_of_mem hp
    rw [hf.2] at this
    obtain ⟨q, hq, e⟩ := List.mem_map.1 this
    have := h.lo q hq
    omega

/-- The start. -/
theorem invD_start {w w1 w2 : World} {len : Nat} {ao' : Option Addr} {V : Nat → Int} (hlen : len ≤ 4096) (hbel : Below w.heap.size w w1) (hrow : 0 < len → ao' = some ⟨w.heap.size, 0, none⟩ ∧ w1.rowIs w.heap.size 5 len (fun i => .int .u8 (V i)))
    (h2 : Chain w2 [fresh w1.heap.size false]) (k2 : Kept (fun _ => False) w1 w2) {w3 : World}
    (hw3 : w3 = (mkRow w2 (.pointer none) (len + 1) 26).setCell ⟨w2.heap.size, 0, none⟩ (.pointer (some ⟨w1.heap.size + 1, 0, none⟩))) :
    InvD w w3 w2.heap.size w1.heap.size len ao' V 0 0 [fresh w1.heap.size false] := by
  have hr := mkRow_row w2 (.pointer none) (len + 1) 26
  have km := mkRow_kept w2 (.pointer none) (len + 1) 26
  generalize mkRow w2 (.pointer none) (len + 1) 26 = wm at *
  have k3 : Kept (fun i => i = w2.heap.size) wm w3 := by rw [hw3]; exact (Kept.refl _ _).setCell _ _ fun _ => rfl
  have hs1 : w1.heap.size ≤ w2.heap.size := k2.size
  have hs0 : w.heap.size ≤ w1.heap.size := hbel.size
  have kall : Kept (fun i => i = w2.heap.size) w1 w3 := ((k2.trans km).mono fun _ _ => False.elim).trans k3
  have hcl := h2.head.lt
  refine ⟨?_, ⟨[], _, rfl, by simp, rfl, rfl, rfl, rfl⟩, ?_, by simp, Nat.le_refl _, fun hl => ?_, hbel.trans (kall.below hs0 fun i hi e => by omega), ?_, by omega⟩
  · refine (h2.kept km fun _ _ => id).kept k3 fun i hi e => ?_
    obtain ⟨p, hp, hpi⟩ := hi
    simp at hp
    subst hp
    simp [fresh] at hpi hcl
    omega
  · exact owns_first hlen hr (Nat.le_refl _) hw3
  · obtain ⟨h1, h2'⟩ := hrow hl
    exact ⟨h1, h2'.of_block (kall.block _ h2'.lt (by have := h2'.lt; omega))⟩
  · intro p hp
    simp at hp
    subst hp
    exact hs0

/-- A fork laid on the stack. -/
theorem invD_push {w wr w3 w4 : World} {T R len : Nat} {ao' : Option Addr} {V : Nat → Int} {k total : Nat} {L : List Tb} (h : InvD w wr T R len ao' V k total L) {t : Tb} {r : List Tb} (eL : L = t :: r)
    (h3 : Chain w3 (fresh wr.heap.size true :: t :: r)) (k3 : Kept (fun _ => False) wr w3) {o : Obj}
    (hown : w4.ownsRow T 26 1 (.slice (some ⟨T, 0, none⟩) (L.length + 1) (len + 1)) (L.length + 1) (ptrs L ++ [.pointer (some ⟨wr.heap.size + 1, 0, none⟩)])) (hg : (w3.alloc o).grownBy w4 (some T)) :
    InvD w w4 T R len ao' V (k + 1) total (fresh wr.heap.size true :: L) := by
  subst eL
  have k4 : Kept (fun i => i = T) w3 w4 := ((Kept.refl _ w3).alloc o).trans ⟨hg.os, hg.tape, hg.output, hg.size, fun i hi hn => hg.block i hi fun e => hn (Option.some.inj e)⟩
  obtain ⟨pre, root, e, hpre, hrest⟩ := h.form
  have hsz := h.bel.size
  have hTcell : ∃ c, wr.heap[T]? = some (Obj.cells c 26 (0, 0)) := by
    rcases h.own.2 with ⟨h0, _⟩ | ⟨g, cap, cur, hv, _, hh, _⟩
    · simp at h0
    · simp at hv; obtain ⟨rfl, _⟩ := hv; exact ⟨cur, hh⟩
  obtain ⟨c, hc⟩ := hTcell
  have hT3 : w3.heap[T]? = some (Obj.cells c 26 (0, 0)) := k3.at hc id
  refine ⟨h3.kept k4 fun i hi e => not_foot_of_type h3 hT3 (by decide) (e ▸ hi), ⟨_ :: pre, root, by rw [e]; rfl, ?_, hrest⟩, ?_, ?_, ?_, fun hl => ?_, ?_, ?_, h.hT⟩
  · intro p hp
    cases hp with
    | head => exact ⟨rfl, rfl⟩
    | tail _ hp => exact hpre p hp
  · rw [ptrs_cons]; exact hown
  · have := h.dep; simp at this ⊢; omega
  · have := h.tot; omega
  · obtain ⟨h1, h2⟩ := h.bs hl
    have h5 := row_carry h2 (rows_grown k3)
    refine ⟨h1, h5.of_block (k4.block _ h5.lt fun e => ?_)⟩
    obtain ⟨c', hc', _⟩ := h5
    rw [e, hT3] at hc'
    simp at hc'
  · exact (h.bel.trans (k3.below hsz fun _ _ => id)).trans (k4.below (Nat.le_trans hsz k3.size) fun i hi e => by have := h.hT; omega)
  · intro p hp
    cases hp with
    | head => simp [fresh]; exact hsz
    | tail _ hp => exact h.lo p hp

/-- The top taken off. -/
theorem invD_pop {w wr : World} {T R len : Nat} {ao' : Option Addr} {V : Nat → Int} {k total : Nat} {t p : Tb} {r : List Tb} (h : InvD w wr T R len ao' V k total (t :: p :: r)) : InvD w wr T R len ao' V (k + 1) total (p :: r) := by
  obtain ⟨pre, root, e, hpre, hrest⟩ := h.form
  have hd := h.dep
  have ht := h.tot
  refine ⟨h.chain.tail, ?_, ?_, by simp at hd ⊢; omega, by omega, h.bs, h.bel, fun q hq => h.lo q (.tail _ hq), h.hT⟩
  · cases pre with
    | nil => simp at e
    | cons x pre =>
      simp only [List.cons_append, List.cons.injEq] at e
      exact ⟨pre, root, e.2, fun q hq => hpre q (.tail _ hq), hrest⟩
  · have ho := h.own
    rw [ptrs_cons] at ho
    exact ownsRow_pop (by rw [ptrs_length]; simp) ho

set_option maxHeartbeats 2000000 in
theorem lawD_short (ao : Option Addr) (len cap : Nat) (V : Nat → Int) (w : World) (hlen : len ≤ 4096) (hV : ∀ i, 0 ≤ V i ∧ V i ≤ 255)
    (h : (ao = none ∧ len = 0 ∧ cap = 0) ∨ ∃ a, ao = some a ∧ ∀ i, i < len → w.cell? (a.add i) = some (.int .u8 (V i))) :
    Calls Eckg.prog 7 #[.slice ao len cap] w fun e w' => e = .returned (.bool true) ∧ Below w.heap.size w w' := by
  have hd : decide ((4096 : Int) < (len : Int)) = false := by simp; omega
  have hmk := run_make1 25 26 (.pointer none) Eckg.underlying25 info26 rfl len hlen
  have HC := hide (copyBytes_all ao len cap V w hlen h)
  have HV := hide hV
  clear h hV
  go_enter Eckg.func7, Eckg.ntmps7
  go_wp2_with (go_at_call 23; refine (bytes23_yes _ _ _ (by omega) _).mono ?_; rintro e w' ⟨rfl, hw'⟩; replace hw' := hw'.symm; subst hw')
  go_at_call 22
  refine HC.out.mono ?_
  rintro e w1 ⟨ao', rfl, hrow, hbel⟩
  have HROW := hide hrow
  have HBEL := hide hbel
  clear hrow hbel HC
  go_wp2_with fail
  go_at_call 12
  refine (new_c _).mono ?_
  rintro e w2 ⟨rfl, h2, k2, s2⟩
  have HST := hide (fun w3 hw3 => invD_start (w3 := w3) hlen HBEL.out HROW.out h2 k2 hw3)
  clear h2 k2 s2
  have hc0 := (mkRow_row w2 (.pointer none) (len + 1) 26).cell (i := 0) (by omega)
  have hf0 := (mkRow_row w2 (.pointer none) (len + 1) 26).frozen 0
  go_wp2_with fail
  generalize hw3 : World.setCell (mkRow w2 _ _ _) _ _ = w3
  have HI := hide (HST.out w3 hw3.symm)
  clear hw3 HST HROW HBEL hc0 hf0 hmk
  generalize w2.heap.size = T at *
  generalize w1.heap.size = R at *
  clear w1 w2
  obtain ⟨i0, hi0, hz0, hz1, hz2⟩ := info_parts info26
  go_loopw [4, 5, 6] (fun st tv i wr => ∃ (k total : Nat) (L : List Tb), k ≤ len ∧ i = .int .i64 k ∧ tv = .int .i64 total ∧ st = .slice (some ⟨T, 0, none⟩) L.length (len + 1) ∧ InvD w wr T R len ao' V k total L) (fun _ _ i _ => len - (intOf i).toNat)
  case atStart => exact ⟨0, 0, _, Nat.zero_le _, rfl, rfl, rfl, HI.out⟩
  case round =>
    obtain ⟨k, total, L, hk, rfl, rfl, rfl, hinv⟩ := hrel
    have HINV := hide hinv
    clear HI w3
    have htot := hinv.tot
    have hdep := hinv.dep
    obtain ⟨t, r, eL⟩ := hinv.ne
    by_cases hlt : k < len
    · obtain ⟨hao, hbs⟩ := hinv.bs (by omega)
      subst hao
      have hki : (k : Int) < (len : Int) := by omega
      have cb := hbs.cell hlt
      have hVk := HV.out k
      have hLl : L.length = r.length + 1 := by rw [eL]; rfl
      have ct : wr.cell? ⟨T, r.length, none⟩ = some (.pointer (some ⟨t.b + 1, 0, none⟩)) := by
        rw [hinv.own.cellAt r.length (by omega), eL, ptrs_cons, List.getElem?_append_right (by simp [ptrs_length]), ptrs_length]
        simp
      rw [hLl] at hdep ⊢
      have HEL := hide eL
      have HLL := hide hLl
      generalize hrl : r.length = d at *
      clear eL hLl hbs hinv hrl
      generalize V k = v at *
      by_cases h0 : v % 3 = 0
      · have hb0 : (v % 3 == 0) = true := by simp [h0]
        have HX : Hid (∀ w3, Below wr.drew.heap.size wr.drew w3 → w3.cell? ⟨T, d, none⟩ = some (.pointer (some ⟨t.b + 1, 0, none⟩))) := fun w3 hb => (hb.cell (p := ⟨T, d, none⟩) (World.block_lt_of_cell? _ _ ct)).trans ct
        have HDEF : Hid (∀ w3, Below wr.drew.heap.size wr.drew w3 → ∀ name, Calls Eckg.prog 16 #[.pointer (some ⟨t.b + 1, 0, none⟩), .string name] w3 fun e w4 => ∃ ns, e = .returned (.pointer (some ⟨ns, 0, none⟩)) ∧ w4.cell? ⟨ns, 2, none⟩ = some (.int .i64 total) ∧ w4.cell? ⟨ns, 1, none⟩ = some (.string ⟨#[71, 76, 79, 66, 65, 76]⟩) ∧
            ∃ L', L'.length = L.length ∧ InvD w w4 T R len (some ⟨w.heap.size, 0, none⟩) V (k + 1) (total + 1) L') := fun w3 hb name => by
          have h3 : InvD w w3 T R len (some ⟨w.heap.size, 0, none⟩) V k total L := HINV.out.below ⟨hb.os, hb.tape, hb.output, hb.size, hb.block⟩
          have := define_D h3 (by omega) name
          rw [HEL.out] at this ⊢
          exact this
        have hsz := itoa_size k
        have HIT := hide (itoa_any k (by omega))
        generalize itoa k = sk at *
        go_wp2_with fail
        clear hb0 h0
        go_cut [8] (fun s wx => ∃ ns, s = .pointer (some ⟨ns, 0, none⟩) ∧ wx.cell? ⟨ns, 2, none⟩ = some (.int .i64 total) ∧ wx.cell? ⟨ns, 1, none⟩ = some (.string ⟨#[71, 76, 79, 66, 65, 76]⟩) ∧ ∃ L', L'.length = L.length ∧ InvD w wx T R len (some ⟨w.heap.size, 0, none⟩) V (k + 1) (total + 1) L')
        case first =>
          go_region_with (first | (go_at_call 18; refine (HIT.out _).mono ?_; rintro e w3 ⟨rfl, hb3⟩; have cx := HX.out w3 hb3) | (go_at_call 16; refine (HDEF.out _ (by assumption) _).mono ?_; rintro e w4 ⟨ns, rfl, y2, y1, hL⟩; replace hL := hide hL))
          all_goals
            go_wp2_with fail
            go_meet
            exact ⟨ns, rfl, y2, y1, hL.out⟩
        case rest =>
          obtain ⟨ns, rfl, y2, y1, hL⟩ := hcut
          have HL := hide hL
          clear hL
          go_wp2_with fail
          go_roundw
          case rel =>
            obtain ⟨L', hl', hi'⟩ := HL.out
            exact ⟨k + 1, total + 1, L', by omega, by go_num, by go_num, by rw [hl', HLL.out], hi'⟩
          case measure => simp [intOf]; omega
      · have hb0 : (v % 3 == 0) = false := by simp [h0]
        by_cases h1 : v % 3 = 1
        · have hb1 : (v % 3 == 1) = true := by simp [h1]
          have HFK := hide (fork_c wr t r true (HEL.out ▸ HINV.out.chain))
          go_wp2_with fail
          go_at_call 13
          refine HFK.out.mono ?_
          rintro e w3 ⟨rfl, h3, k3, s3⟩
          have own3 : w3.ownsRow T 26 1 (.slice (some ⟨T, 0, none⟩) (d + 1) (len + 1)) (d + 1) (ptrs L) := by
            have := owns_carry HINV.out.own (rows_grown k3)
            rw [HLL.out] at this
            exact this
          have HO3 := hide own3
          have HPU : Hid (∀ w4 o, w4.ownsRow T 26 1 (.slice (some ⟨T, 0, none⟩) (d + 1 + 1) (len + 1)) (d + 1 + 1) (ptrs L ++ [.pointer (some ⟨wr.heap.size + 1, 0, none⟩)]) → (w3.alloc o).grownBy w4 (some T) → InvD w w4 T R len (some ⟨w.heap.size, 0, none⟩) V (k + 1) total (fresh wr.heap.size true :: L)) := fun w4 o ho hg => by
            refine invD_push HINV.out HEL.out h3 k3 (o := o) ?_ hg
            rw [HLL.out]
            exact ho
          clear h3 k3 s3 own3 HFK h1 h0
          go_wp2_with (at_builtin; refine wpList_append_fits _ rfl _ _ 25 rfl T 26 i0 1 Eckg.underlying25 hi0 hz1 T (d + 1) (len + 1) (ptrs L) rfl (HO3.out.alloc _) ⟨w3.heap.size, 0, none⟩ 1 1 [.pointer (some ⟨wr.heap.size + 1, 0, none⟩)] rfl rfl (cell_one_new _ _ _) ?hone ?hcap ?hnext)
          case hone => intro u hu; simp at hu; subst hu; rfl
          case hcap => omega
          case hnext =>
            intro w4 hown4 hgrow4
            have HN := hide (HPU.out _ _ hown4 hgrow4)
            clear hown4 hgrow4
            go_wp2_with fail
            go_roundw
            case rel => exact ⟨k + 1, total, _, by omega, by go_num, rfl, by simp [HLL.out], HN.out⟩
            case measure => simp [intOf]; omega
        · have hb1 : (v % 3 == 1) = false := by simp [h1]
          clear h1 h0
          cases r with
          | nil =>
            have hd0 : d = 0 := by have := HLL.out; rw [HEL.out] at this; simp at this; omega
            subst hd0
            go_wp2_with fail
            go_roundw
            case rel => exact ⟨k + 1, total, L, by omega, by go_num, rfl, by rw [HLL.out], HINV.out.next⟩
            case measure => simp [intOf]; omega
          | cons p r' =>
            obtain ⟨d', rfl⟩ : ∃ d', d = d' + 1 := ⟨r'.length, by have := HLL.out; rw [HEL.out] at this; simp at this; omega⟩
            have hr' : (p :: r').length = d' + 1 := by have := HLL.out; rw [HEL.out] at this; simp at this ⊢; omega
            have HR' := hide hr'
            have HPO : Hid (InvD w wr T R len (some ⟨w.heap.size, 0, none⟩) V (k + 1) total (p :: r')) := invD_pop (HEL.out ▸ HINV.out)
            clear hr'
            go_wp2_with fail
            go_roundw
            case rel => exact ⟨k + 1, total, p :: r', by omega, by go_num, rfl, by rw [HR'.out], HPO.out⟩
            case measure => simp [intOf]; omega
    · have hkl : k = len := by omega
      subst hkl
      have hki : ¬ (k : Int) < (k : Int) := by omega
      obtain ⟨pre, root, e, hpre, hb, hRb, hn, hm⟩ := hinv.form
      have hroot : Tab wr root none := by
        have := hinv.chain
        rw [e] at this
        exact (Chain.suffix this).head
      have HMX := hide (maxSyms_any wr root none hroot)
      rw [hRb, hm] at HMX
      clear hinv e hpre hb hRb hn hm hroot eL hlt
      go_wp2_with (go_at_call 17; refine HMX.out.mono ?_; rintro e w' ⟨rfl, hw'⟩; replace hw' := hw'.symm; subst hw')
      go_ret
      exact ⟨rfl, HINV.out.bel⟩

set_option maxHeartbeats 400000 in
theorem lawD_long (ao : Option Addr) (len cap : Nat) (w : World) (hlen : 1048576 < len) :
    Calls Eckg.prog 7 #[.slice ao len cap] w fun e w' => e = .returned (.bool true) ∧ Below w.heap.size w w' := by
  go_enter Eckg.func7, Eckg.ntmps7
  go_wp2_with (go_at_call 23; refine (bytes23_no _ _ _ (by omega) _).mono ?_; rintro e w' ⟨rfl, hw'⟩; replace hw' := hw'.symm; subst hw')
  go_ret
  exact ⟨rfl, Below.refl _ _⟩

set_option maxHeartbeats 400000 in
theorem lawD_mid (ao : Option Addr) (len cap : Nat) (w : World) (h1 : len ≤ 1048576) (h2 : 4096 < len) :
    Calls Eckg.prog 7 #[.slice ao len cap] w fun e w' => e = .returned (.bool true) ∧ Below w.heap.size w w' := by
  have h4 : (4096 : Int) < (len : Int) := by omega
  go_enter Eckg.func7, Eckg.ntmps7
  go_wp2_with (go_at_call 23; refine (bytes23_yes _ _ _ (by omega) _).mono ?_; rintro e w' ⟨rfl, hw'⟩; replace hw' := hw'.symm; subst hw')
  go_ret
  exact ⟨rfl, Below.refl _ _⟩

/-- FnMaxSymbolsGlobalCount returns true, whatever bytes came in, and leaves old memory alone. -/
theorem lawD_any (ao : Option Addr) (len cap : Nat) (V : Nat → Int) (w : World) (hV : ∀ i, 0 ≤ V i ∧ V i ≤ 255)
    (h : (ao = none ∧ len = 0 ∧ cap = 0) ∨ ∃ a, ao = some a ∧ ∀ i, i < len → w.cell? (a.add i) = some (.int .u8 (V i))) :
    Calls Eckg.prog 7 #[.slice ao len cap] w fun e w' => e = .returned (.bool true) ∧ Below w.heap.size w w' := by
  by_cases h1 : 1048576 < len
  · exact lawD_long ao len cap w h1
  · by_cases h2 : 4096 < len
    · exact lawD_mid ao len cap w (by omega) h2
    · exact lawD_short ao len cap V w (by omega) hV h

end Go.Proofs.Yoeckw
