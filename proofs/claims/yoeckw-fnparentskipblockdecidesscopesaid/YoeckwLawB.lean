/-
  THE WALK OF FnParentSkipBlockDecidesScope.
-/
import Derived.Test.YoeckwLawA
import Derived.Test.YoeckwPath
namespace Go.Proofs.Yoeckw
open Go.RowKit

def allB (V : Nat → Bool) : Nat → Bool
  | 0 => true
  | k + 1 => allB V k && V k

theorem par_allB (B : Nat) (V : Nat → Bool) : ∀ k, (parOf true (chainOf B V k)).isNone = allB V k
  | 0 => by simp [chainOf, parOf, fresh, up, allB]
  | k + 1 => by
    have ih := par_allB B V k
    simp only [chainOf, parOf, allB]
    cases hv : V k
    · simp [fresh, up_chainOf]
    · simpa [fresh] using ih

theorem chainOf_nd (B : Nat) (V : Nat → Bool) : ∀ k, ∀ p ∈ chainOf B V k, p.nd = 0 ∧ p.md = 0
  | 0, p, h => by simp [chainOf] at h; subst h; simp [fresh]
  | k + 1, p, h => by
    simp only [chainOf, List.mem_cons] at h
    rcases h with rfl | h
    · simp [fresh]
    · exact chainOf_nd B V k p h

theorem idx_zero : ∀ L : List Tb, (∀ p ∈ L, p.nd = 0) → idx L = 0
  | [], _ => rfl
  | t :: r, h => by
    have h0 := h t (.head _)
    simp only [idx, h0, idx_zero r fun p hp => h p (.tail _ hp)]
    simp

theorem chainOf_root (B : Nat) (V : Nat → Bool) : ∀ k, ∃ pre, chainOf B V k = pre ++ [fresh B false]
  | 0 => ⟨[], rfl⟩
  | k + 1 => by
    obtain ⟨pre, e⟩ := chainOf_root B V k
    exact ⟨_ :: pre, by rw [chainOf, e]; rfl⟩

/-- The root's greatest count behind the first Define. -/
theorem root_after {w w' : World} {B : Nat} {V : Nat → Bool} {n : Nat} (h : Chain w (chainOf B V n)) {es' : Array MapEntry} {ck' : Nat} (h' : Chain w' (umd 1 (stepL es' ck' (chainOf B V n)))) :
    ∃ t, t.b = B ∧ t.md = (if allB V n then 1 else 0) ∧ Tab w' t none := by
  obtain ⟨pre, t, post, e, hpre, ht⟩ := first_plain h (by cases n <;> simp [chainOf])
  obtain ⟨pre0, e0⟩ := chainOf_root B V n
  have hpar : (parOf true (chainOf B V n)) = up post := by rw [e]; exact par_pre t post ht pre hpre
  have hall := par_allB B V n
  rw [hpar] at hall
  have hmd : ∀ p ∈ pre ++ t :: post, p.md = 0 := fun p hp => (chainOf_nd B V n p (by rw [e]; exact hp)).2
  cases post with
  | nil =>
    have hall' : allB V n = true := by rw [← hall]; rfl
    rw [hall', if_pos rfl]
    have hte : t = fresh B false := by
      have e1 : pre ++ [t] = pre0 ++ [fresh B false] := by rw [← e, ← e0]
      simpa using (List.append_inj' e1 rfl).2
    have hg : (parOf true (chainOf B V n)).isNone = true := by rw [hpar]; rfl
    cases pre with
    | nil =>
      simp only [List.nil_append] at e
      rw [e] at h' hg
      rw [stepL_root es' ck' t ht] at h'
      have h2 : umd 1 [{ t with es := es', ck := ck', nd := t.nd + 1 }] = [mx 1 { t with es := es', ck := ck', nd := t.nd + 1 }] := umd_pre 1 { t with es := es', ck := ck', nd := t.nd + 1 } [] ht [] (by simp)
      rw [h2] at h'
      refine ⟨_, ?_, ?_, h'.head⟩
      · rw [mx_b, hte]; rfl
      · rw [mx_md, hte]; rfl
    | cons p pre =>
      simp only [List.cons_append] at e
      rw [e] at h' hpar
      obtain ⟨q, r, eq⟩ : ∃ q r, pre ++ [t] = q :: r := by cases pre with | nil => exact ⟨_, _, rfl⟩ | cons a b => exact ⟨_, _, rfl⟩
      have hst : stepL es' ck' (p :: (pre ++ [t])) = { p with es := es', ck := ck' } :: bump (pre ++ [t]) := by
        rw [eq] at hpar ⊢
        exact stepL_block es' ck' p q r hpar
      rw [hst, bump_snoc] at h'
      have h2 : umd 1 ({ p with es := es', ck := ck' } :: (pre ++ [{ t with nd := t.nd + 1 }])) = ({ p with es := es', ck := ck' } :: pre).map (mx 1) ++ [mx 1 { t with nd := t.nd + 1 }] := by
        refine umd_pre 1 { t with nd := t.nd + 1 } [] ht ({ p with es := es', ck := ck' } :: pre) fun x hx => ?_
        cases hx with
        | head => exact hpre p (.head _)
        | tail _ hx => exact hpre x (.tail _ hx)
      rw [h2] at h'
      refine ⟨_, ?_, ?_, (Chain.suffix h').head⟩
      · rw [mx_b, hte]; rfl
      · rw [mx_md, hte]; rfl
  | cons q post =>
    have hall' : allB V n = false := by rw [← hall]; rfl
    rw [hall']
    obtain ⟨t0, r0, er⟩ : ∃ t0 r0, chainOf B V n = t0 :: r0 := by cases n with | zero => exact ⟨_, _, rfl⟩ | succ n => exact ⟨_, _, rfl⟩
    rw [er] at hpar e h'
    rw [stepL_loc es' ck' t0 r0 hpar] at h'
    -- the chain behind: blocks, a plain one, then the old tail
    have key : ∃ pre' t', { t0 with es := es', ck := ck', nd := t0.nd + 1 } :: r0 = pre' ++ t' :: q :: post ∧ (∀ p ∈ pre', p.blk = true) ∧ t'.blk = false := by
      cases pre with
      | nil =>
        simp only [List.nil_append, List.cons.injEq] at e
        obtain ⟨rfl, rfl⟩ := e
        exact ⟨[], _, rfl, by simp, ht⟩
      | cons p pre =>
        simp only [List.cons_append, List.cons.injEq] at e
        obtain ⟨rfl, rfl⟩ := e
        refine ⟨_ :: pre, t, rfl, fun x hx => ?_, ht⟩
        cases hx with
        | head => exact hpre t0 (.head _)
        | tail _ hx => exact hpre x (.tail _ hx)
    obtain ⟨pre', t', e', hpre', ht'⟩ := key
    rw [e', umd_pre 1 t' _ ht' pre' hpre'] at h'
    have hlast : ∃ post0, q :: post = post0 ++ [fresh B false] := by
      have e1 : (pre ++ [t]) ++ (q :: post) = pre0 ++ [fresh B false] := by rw [← e0, er, e]; simp
      obtain ⟨l, x, hx⟩ : ∃ l x, q :: post = l ++ [x] := ⟨_, _, (List.dropLast_concat_getLast (List.cons_ne_nil q post)).symm⟩
      rw [hx, ← List.append_assoc] at e1
      have := (List.append_inj' e1 rfl).2
      simp at this
      exact ⟨l, by rw [hx, this]⟩
    obtain ⟨post0, ep⟩ := hlast
    rw [ep] at h'
    have h3 : Chain w' ((pre'.map (mx 1) ++ mx 1 t' :: post0) ++ [fresh B false]) := by simpa using h'
    exact ⟨fresh B false, rfl, rfl, (Chain.suffix h3).head⟩

structure InvB (w wr : World) (B len : Nat) (ao' : Option Addr) (V : Nat → Bool) (k : Nat) : Prop where
  chain : Chain wr (chainOf B V k)
  size : wr.heap.size = B + 2 * (k + 1)
  bs : 0 < len → ao' = some ⟨w.heap.size, 0, none⟩ ∧ w.heap.size < B ∧ wr.rowIs w.heap.size 4 len (fun i => .bool (V i))
  bel : Below w.heap.size w wr
  hB : w.heap.size ≤ B

theorem invB_start {w w1 : World} {len : Nat} {ao' : Option Addr} {V : Nat → Bool} (hbel : Below w.heap.size w w1) (hrow : 0 < len → ao' = some ⟨w.heap.size, 0, none⟩ ∧ w1.rowIs w.heap.size 4 len (fun i => .bool (V i))) {w2 : World}
    (hw2 : w2 = (w1.alloc (.map #[] 0)).alloc ((fresh w1.heap.size false).obj none)) : InvB w w2 w1.heap.size len ao' V 0 := by
  have ht := fresh_tab w1 false none
  rw [← hw2] at ht
  have hs2 : w2.heap.size = w1.heap.size + 2 := by rw [hw2]; simp
  have hk1 : Kept (fun _ => False) w1 w2 := by rw [hw2]; exact ((Kept.refl _ _).alloc _).alloc _
  refine ⟨⟨ht, fun _ => rfl, fun p hp => by simp at hp, trivial⟩, by omega, fun hl => ?_, hbel.trans (hk1.below hbel.size fun _ _ => id), hbel.size⟩
  obtain ⟨h1, h2⟩ := hrow hl
  exact ⟨h1, h2.lt, h2.of_block (hk1.block _ h2.lt id)⟩

theorem invB_step {w wr w' : World} {B len : Nat} {ao' : Option Addr} {V : Nat → Bool} {k : Nat} (h : InvB w wr B len ao' V k)
    (hw : w' = (wr.alloc (.map #[] 0)).alloc ((fresh wr.heap.size (V k)).obj (some ⟨B + 2 * k + 1, 0, none⟩))) : InvB w w' B len ao' V (k + 1) := by
  have hsz := h.size
  have ht := fresh_tab wr (V k) (some ⟨B + 2 * k + 1, 0, none⟩)
  rw [← hw] at ht
  have hs2 : w'.heap.size = wr.heap.size + 2 := by rw [hw]; simp
  have hk1 : Kept (fun _ => False) wr w' := by rw [hw]; exact ((Kept.refl _ _).alloc _).alloc _
  refine ⟨⟨?_, fun e => ?_, fun p hp => ?_, h.chain.kept hk1 fun _ _ => id⟩, by omega, fun hl => ?_, h.bel.trans (hk1.below h.bel.size fun _ _ => id), h.hB⟩
  · rw [up_chainOf, show B + 2 * (k + 1) = wr.heap.size by omega]; exact ht
  · cases k <;> simp [chainOf] at e
  · have := chainOf_le B V k p hp
    simp [fresh]
    omega
  · obtain ⟨h1, h2, h3⟩ := h.bs hl
    exact ⟨h1, h2, h3.of_block (hk1.block _ h3.lt id)⟩

theorem define_chain (name : ByteArray) {w : World} {B : Nat} {V : Nat → Bool} {k : Nat} (h : Chain w (chainOf B V k)) :
    Calls Eckg.prog 16 #[.pointer (some ⟨B + 2 * k + 1, 0, none⟩), .string name] w fun e w' => e = .returned (.pointer (some ⟨w.heap.size, 0, none⟩)) ∧
      w'.heap[w.heap.size]? = some (symObj name (if allB V k then sGlobal else sLocal) 0) ∧ (∃ t, t.b = B ∧ t.md = (if allB V k then 1 else 0) ∧ Tab w' t none) ∧ Kept (Foot (chainOf B V k)) w w' := by
  have hz : idx (chainOf B V k) = 0 := idx_zero _ fun p hp => (chainOf_nd B V k p hp).1
  have hsc : scOf (chainOf B V k) = if allB V k then sGlobal else sLocal := by rw [scOf, par_allB]
  obtain ⟨t, r, e, hb⟩ : ∃ t r, chainOf B V k = t :: r ∧ t.b = B + 2 * k := by cases k with | zero => exact ⟨_, _, rfl, rfl⟩ | succ k => exact ⟨_, _, rfl, rfl⟩
  have hd := define_any name r t w (e ▸ h) (by rw [← e, hz]; omega) (fun p hp => by rw [(chainOf_nd B V k p (e ▸ hp)).1]; omega)
  rw [hb] at hd
  refine hd.mono ?_
  rintro e' w' ⟨rfl, es', ck', hk, hl, hm⟩
  rw [← e, hz, hsc] at hm
  exact ⟨rfl, hm.sym, root_after h hm.chain, hm.kept⟩

set_option maxHeartbeats 400000 in
theorem lawB_short (ao : Option Addr) (len cap : Nat) (V : Nat → Bool) (w : World) (hlen : len ≤ 4096)
    (h : (ao = none ∧ len = 0 ∧ cap = 0) ∨ ∃ a, ao = some a ∧ ∀ i, i < len → w.cell? (a.add i) = some (.bool (V i))) :
    Calls Eckg.prog 4 #[.slice ao len cap] w fun e w' => e = .returned (.bool true) ∧ Below w.heap.size w w' := by
  have hd : decide ((4096 : Int) < (len : Int)) = false := by simp; omega
  have HC := hide (copyBools_all ao len cap V w hlen h)
  clear h
  go_enter Eckg.func4, Eckg.ntmps4
  go_wp2_with (go_at_call 15; refine (bytes15_yes _ _ _ (by omega) _).mono ?_; rintro e w' ⟨rfl, hw'⟩; replace hw' := hw'.symm; subst hw')
  go_at_call 11
  refine HC.out.mono ?_
  rintro e w1 ⟨ao', rfl, hrow, hbel⟩
  have HROW := hide hrow
  have HBEL := hide hbel
  clear hrow hbel HC
  go_wp2_with fail
  go_at_call 12
  refine (new_any _).mono ?_
  rintro e w2 ⟨rfl, hw2⟩
  have HI := hide (invB_start HBEL.out HROW.out hw2)
  clear hw2 HROW HBEL
  generalize w1.heap.size = B at *
  clear w1
  go_wp2_with fail
  go_loopw [5, 6, 7] (fun l a i wr => ∃ k : Nat, k ≤ len ∧ i = .int .i64 k ∧ l = .pointer (some ⟨B + 2 * k + 1, 0, none⟩) ∧ a = .bool (allB V k) ∧ InvB w wr B len ao' V k) (fun _ _ i _ => len - (intOf i).toNat)
  case atStart => exact ⟨0, Nat.zero_le _, rfl, rfl, rfl, HI.out⟩
  case round =>
    obtain ⟨k, hk, rfl, rfl, rfl, hinv⟩ := hrel
    have HINV := hide hinv
    clear HI w2
    by_cases hlt : k < len
    · obtain ⟨hao, hwB, hbs⟩ := hinv.bs (by omega)
      subst hao
      have hti : (k : Int) < (len : Int) := by omega
      have cb := hbs.cell hlt
      have HBS := hide hbs
      have e1 : allB V (k + 1) = (allB V k && V k) := rfl
      have E1 := hide e1
      have hsz := hide hinv.size
      clear hinv hbs e1
      go_wp2_with fail
      go_at_call 13
      refine (fork_any _ _ _).mono ?_
      rintro e w' ⟨rfl, hw'⟩
      have HI2 := hide (invB_step HINV.out hw')
      have cb2 : w'.cell? ⟨w.heap.size, k, none⟩ = some (.bool (V k)) := (HI2.out.bs (by omega)).2.2.cell hlt
      rw [show wr.heap.size + 1 = B + 2 * (k + 1) + 1 by have := hsz.out; omega]
      clear hw' cb HBS
      generalize hall : allB V k = al at *
      cases hV : V k
      · rw [hV] at cb2 E1
        clear hV
        go_wp2_with fail
        go_roundw
        case rel => exact ⟨k + 1, by omega, by go_num, rfl, by rw [E1.out]; simp, HI2.out⟩
        case measure => simp [intOf]; omega
      · rw [hV] at cb2 E1
        clear hV
        go_wp2_with fail
        go_roundw
        case rel => exact ⟨k + 1, by omega, by go_num, rfl, by rw [E1.out]; simp, HI2.out⟩
        case measure => simp [intOf]; omega
    · have hkl : k = len := by omega
      subst hkl
      clear hinv
      have hneq := neq26
      go_wp2_with fail
      go_at_call 14
      refine (parent_chain true HINV.out.chain).mono ?_
      rintro e w' ⟨rfl, hw'⟩
      replace hw' := hw'.symm
      subst hw'
      have hpn := par_allB B V k
      have HDF := hide (define_chain ⟨#[120]⟩ HINV.out.chain)
      cases hall : allB V k
      · rw [hall] at hpn HDF
        obtain ⟨pp, hpp⟩ : ∃ pp, parOf true (chainOf B V k) = some pp := by
          cases hpo : parOf true (chainOf B V k) with
          | none => rw [hpo] at hpn; cases hpn
          | some pp => exact ⟨pp, rfl⟩
        rw [hpp]
        clear hpn hpp hall
        go_wp2_with fail
        go_loop [8, 9] (fun c i => ∃ m j : Nat, m + j = k ∧ i = .int .i64 m ∧ c = .pointer (some ⟨B + 2 * j + 1, 0, none⟩)) (fun _ i => k - (intOf i).toNat)
        case atStart => exact ⟨0, k, by omega, rfl, rfl⟩
        case round =>
          obtain ⟨m, j, hmj, rfl, rfl⟩ := hrel
          cases j with
          | succ j =>
            have hmi : (m : Int) < (k : Int) := by omega
            have PF := hide (parent_chain false (chain_le HINV.out.chain (m := j + 1) (by omega)))
            rw [par_false] at PF
            simp only [Nat.add_one_ne_zero, if_false, Nat.add_sub_cancel] at PF
            have HMJ := hide hmj
            clear hmj
            go_wp2_with (go_at_call 14; refine PF.out.mono ?_; rintro e w' ⟨rfl, hw'⟩; replace hw' := hw'.symm; subst hw')
            go_round
            case rel => exact ⟨m + 1, j, by have := HMJ.out; omega, by go_num, rfl⟩
            case measure => have := HMJ.out; simp [intOf]; omega
          | zero =>
            have hmi : ¬ (m : Int) < (k : Int) := by omega
            have PF := hide (parent_chain false (chain_le HINV.out.chain (m := 0) (by omega)))
            rw [par_false] at PF
            simp only [if_true, Nat.mul_zero, Nat.add_zero] at PF ⊢
            clear hmj
            go_wp2_with (go_at_call 14; refine PF.out.mono ?_; rintro e w' ⟨rfl, hw'⟩; replace hw' := hw'.symm; subst hw')
            refine HDF.out.mono ?_
            rintro e w3 ⟨rfl, hs, ⟨tt, htb, htm, htab⟩, hkept⟩
            have s1 : w3.cell? ⟨wr.heap.size, 1, none⟩ = some (.string ⟨#[76, 79, 67, 65, 76]⟩) := by rw [cell_at hs]; rfl
            have s2 : w3.cell? ⟨wr.heap.size, 2, none⟩ = some (.int .i64 0) := by rw [cell_at hs]; rfl
            have HMX := hide (maxSyms_any w3 tt none htab)
            rw [htb, htm] at HMX
            have HF := hide (HINV.out.bel.trans (hkept.below HINV.out.bel.size fun i hi hf => by
              obtain ⟨p, hp, hpi⟩ := hf
              have := chainOf_ge B V k p hp
              have := HINV.out.hB
              omega))
            clear hs htb htm htab hkept HDF
            go_wp2_with (go_at_call 17; refine HMX.out.mono ?_; rintro e w' ⟨rfl, hw'⟩; replace hw' := hw'.symm; subst hw')
            go_ret
            exact ⟨rfl, HF.out⟩
      · rw [hall] at hpn HDF
        have hpp : parOf true (chainOf B V k) = none := by simpa using hpn
        rw [hpp]
        clear hpn hpp hall
        go_wp2_with fail
        go_loop [8, 9] (fun c i => ∃ m j : Nat, m + j = k ∧ i = .int .i64 m ∧ c = .pointer (some ⟨B + 2 * j + 1, 0, none⟩)) (fun _ i => k - (intOf i).toNat)
        case atStart => exact ⟨0, k, by omega, rfl, rfl⟩
        case round =>
          obtain ⟨m, j, hmj, rfl, rfl⟩ := hrel
          cases j with
          | succ j =>
            have hmi : (m : Int) < (k : Int) := by omega
            have PF := hide (parent_chain false (chain_le HINV.out.chain (m := j + 1) (by omega)))
            rw [par_false] at PF
            simp only [Nat.add_one_ne_zero, if_false, Nat.add_sub_cancel] at PF
            have HMJ := hide hmj
            clear hmj
            go_wp2_with (go_at_call 14; refine PF.out.mono ?_; rintro e w' ⟨rfl, hw'⟩; replace hw' := hw'.symm; subst hw')
            go_round
            case rel => exact ⟨m + 1, j, by have := HMJ.out; omega, by go_num, rfl⟩
            case measure => have := HMJ.out; simp [intOf]; omega
          | zero =>
            have hmi : ¬ (m : Int) < (k : Int) := by omega
            have PF := hide (parent_chain false (chain_le HINV.out.chain (m := 0) (by omega)))
            rw [par_false] at PF
            simp only [if_true, Nat.mul_zero, Nat.add_zero] at PF ⊢
            clear hmj
            go_wp2_with (go_at_call 14; refine PF.out.mono ?_; rintro e w' ⟨rfl, hw'⟩; replace hw' := hw'.symm; subst hw')
            refine HDF.out.mono ?_
            rintro e w3 ⟨rfl, hs, ⟨tt, htb, htm, htab⟩, hkept⟩
            have s1 : w3.cell? ⟨wr.heap.size, 1, none⟩ = some (.string ⟨#[71, 76, 79, 66, 65, 76]⟩) := by rw [cell_at hs]; rfl
            have s2 : w3.cell? ⟨wr.heap.size, 2, none⟩ = some (.int .i64 0) := by rw [cell_at hs]; rfl
            have HMX := hide (maxSyms_any w3 tt none htab)
            rw [htb, htm] at HMX
            have HF := hide (HINV.out.bel.trans (hkept.below HINV.out.bel.size fun i hi hf => by
              obtain ⟨p, hp, hpi⟩ := hf
              have := chainOf_ge B V k p hp
              have := HINV.out.hB
              omega))
            clear hs htb htm htab hkept HDF
            go_wp2_with (go_at_call 17; refine HMX.out.mono ?_; rintro e w' ⟨rfl, hw'⟩; replace hw' := hw'.symm; subst hw')
            go_ret
            exact ⟨rfl, HF.out⟩

set_option maxHeartbeats 400000 in
theorem lawB_long (ao : Option Addr) (len cap : Nat) (w : World) (hlen : 1048576 < len) :
    Calls Eckg.prog 4 #[.slice ao len cap] w fun e w' => e = .returned (.bool true) ∧ Below w.heap.size w w' := by
  go_enter Eckg.func4, Eckg.ntmps4
  go_wp2_with (go_at_call 15; refine (bytes15_no _ _ _ (by omega) _).mono ?_; rintro e w' ⟨rfl, hw'⟩; replace hw' := hw'.symm; subst hw')
  go_ret
  exact ⟨rfl, Below.refl _ _⟩

set_option maxHeartbeats 400000 in
theorem lawB_mid (ao : Option Addr) (len cap : Nat) (w : World) (h1 : len ≤ 1048576) (h2 : 4096 < len) :
    Calls Eckg.prog 4 #[.slice ao len cap] w fun e w' => e = .returned (.bool true) ∧ Below w.heap.size w w' := by
  have h4 : (4096 : Int) < (len : Int) := by omega
  go_enter Eckg.func4, Eckg.ntmps4
  go_wp2_with (go_at_call 15; refine (bytes15_yes _ _ _ (by omega) _).mono ?_; rintro e w' ⟨rfl, hw'⟩; replace hw' := hw'.symm; subst hw')
  go_ret
  exact ⟨rfl, Below.refl _ _⟩

/-- FnParentSkipBlockDecidesScope returns true, whatever slice came in, and leaves old memory alone. -/
theorem lawB_any (ao : Option Addr) (len cap : Nat) (V : Nat → Bool) (w : World)
    (h : (ao = none ∧ len = 0 ∧ cap = 0) ∨ ∃ a, ao = some a ∧ ∀ i, i < len → w.cell? (a.add i) = some (.bool (V i))) :
    Calls Eckg.prog 4 #[.slice ao len cap] w fun e w' => e = .returned (.bool true) ∧ Below w.heap.size w w' := by
  by_cases h1 : 1048576 < len
  · exact lawB_long ao len cap w h1
  · by_cases h2 : 4096 < len
    · exact lawB_mid ao len cap w (by omega) h2
    · exact lawB_short ao len cap V w (by omega) h

end Go.Proofs.Yoeckw
