/-
  THE WALK OF FnForkFreshAndIndependent.
-/
import Derived.Test.YoeckwPath
import Derived.Test.YoeckwMore
import Derived.Test.YoeckwResolve
import Derived.Test.YoeckwPtr
namespace Go.Proofs.Yoeckw
open Go.RowKit

def sFresh : ByteArray := ⟨#[102, 114, 101, 115, 104]⟩

structure InvC (w wr : World) (k : Nat) (f : Tb) : Prop where
  chain : Chain wr [f, fresh w.heap.size false]
  fb : f.b = w.heap.size + 2
  blk : f.blk = false
  nd : f.nd = k
  md : f.md = k
  fs : f.fs = .slice none 0 0
  none : look sFresh f.es.toList = none
  bel : Below w.heap.size w wr

theorem invC_start {w w1 w2 : World} (h2 : Chain w2 [fresh w1.heap.size false, fresh w.heap.size false]) (k1 : Kept (fun _ => False) w w1) (s1 : w1.heap.size = w.heap.size + 2) (k2 : Kept (fun _ => False) w1 w2) :
    InvC w w2 0 (fresh (w.heap.size + 2) false) := by
  rw [s1] at h2
  exact ⟨h2, rfl, rfl, rfl, rfl, rfl, rfl, (k1.trans k2).below (Nat.le_refl _) fun _ _ => id⟩

theorem invC_step {w wr w3 w4 : World} {k : Nat} {f : Tb} (h : InvC w wr k f) (hb : Below wr.heap.size wr w3) {name : ByteArray} (hne : sFresh ≠ name) {es' : Array MapEntry} {ck' s : Nat} {v : Value} {sc : ByteArray} {i : Nat}
    (hl : ∀ s', look s' es'.toList = if s' = name then some v else look s' f.es.toList)
    (hm : Mid w3 w4 [f, fresh w.heap.size false] (umd (idx [f, fresh w.heap.size false] + 1) (stepL es' ck' [f, fresh w.heap.size false])) s name sc i) :
    ∃ f', InvC w w4 (k + 1) f' := by
  have hp : parOf true [f, fresh w.heap.size false] = some ⟨w.heap.size + 1, 0, none⟩ := by simp [parOf, h.blk, up, fresh]
  have hi : idx [f, fresh w.heap.size false] = k := by simp [idx, h.blk, h.nd]
  rw [stepL_loc es' ck' f _ hp, hi] at hm
  have hu : umd (k + 1) [{ f with es := es', ck := ck', nd := f.nd + 1 }, fresh w.heap.size false] = [mx (k + 1) { f with es := es', ck := ck', nd := f.nd + 1 }, fresh w.heap.size false] :=
    umd_pre (k + 1) { f with es := es', ck := ck', nd := f.nd + 1 } [fresh w.heap.size false] h.blk [] (by simp)
  rw [hu] at hm
  refine ⟨_, hm.chain, h.fb, h.blk, ?_, ?_, h.fs, ?_, ?_⟩
  · rw [mx_nd]; simp [h.nd]
  · rw [mx_md]; simp [h.md]
  · rw [mx_es, hl, if_neg hne]; exact h.none
  · have hlt : w.heap.size ≤ wr.heap.size := h.bel.size
    refine (h.bel.trans (hb.mono hlt)).trans (hm.kept.below (Nat.le_trans hlt hb.size) fun j hj hf => ?_)
    obtain ⟨p, hp, e⟩ := hf
    have := h.fb
    simp at hp
    rcases hp with rfl | rfl
    · omega
    · simp [fresh] at e; omega

theorem fresh_ne (s : ByteArray) : sFresh ≠ (⟨#[118]⟩ : ByteArray) ++ s := by
  intro e
  have := congrArg (fun b : ByteArray => b.data.toList.head?) e
  simp [sFresh] at this

/-- Behind the Define in the first fork. -/
theorem afterC {w6 w7 : World} {f root : Tb} {s : Nat} {block second : Bool} (hf : f.blk = false) (h1 : Chain w6 [fresh s block, f, root]) (h2 : Chain w6 [fresh (s + 2) second, f, root]) {es' : Array MapEntry} {ck' sy i x : Nat} {name sc : ByteArray}
    (hm : Mid w6 w7 [fresh s block, f, root] (umd x (stepL es' ck' [fresh s block, f, root])) sy name sc i) :
    ∃ f', f'.b = f.b ∧ f'.es = f.es ∧ Chain w7 [f', root] ∧ Chain w7 [fresh (s + 2) second, f', root] := by
  have hpar : ∃ pp, parOf true [fresh s block, f, root] = some pp := by
    cases block
    · exact ⟨_, by simp [parOf, fresh, up]; rfl⟩
    · exact ⟨_, by simp [parOf, fresh, hf, up]; rfl⟩
  obtain ⟨pp, hpp⟩ := hpar
  rw [stepL_loc es' ck' _ _ hpp] at hm
  have key : ∃ c f', f'.b = f.b ∧ f'.es = f.es ∧ f'.blk = f.blk ∧ Chain w7 [c, f', root] := by
    cases block with
    | false =>
      have hu := umd_pre x { (fresh s false) with es := es', ck := ck', nd := (fresh s false).nd + 1 } [f, root] rfl [] (by simp)
      have hm' := hm.chain
      rw [List.nil_append] at hu
      rw [hu] at hm'
      exact ⟨_, f, rfl, rfl, rfl, hm'⟩
    | true =>
      have hu := umd_pre x f [root] hf [{ (fresh s true) with es := es', ck := ck', nd := (fresh s true).nd + 1 }] (by simp [fresh])
      have hm' := hm.chain
      simp only [List.cons_append, List.nil_append] at hu
      rw [hu] at hm'
      exact ⟨_, mx x f, rfl, rfl, rfl, hm'⟩
  obtain ⟨c, f', e1, e2, e3, hc⟩ := key
  have hfs : f.b + 2 ≤ s := h1.2.2.1 f (by simp)
  have hrs : root.b + 2 ≤ s := h1.2.2.1 root (by simp)
  have hfl := h2.2.2.1 f (by simp)
  refine ⟨f', e1, e2, hc.tail, ?_, fun e => by simp at e, fun p hp => ?_, hc.tail⟩
  · have ht := h2.head
    have hup : up [f', root] = up [f, root] := by simp [up, e1]
    rw [hup]
    refine ht.kept hm.kept ?_ ?_
    all_goals
      rintro ⟨p, hp, e⟩
      simp at hp
      rcases hp with rfl | rfl | rfl
      all_goals first | omega | (simp [fresh] at e; done) | (simp [fresh] at e; omega)
  · simp at hp
    rcases hp with rfl | rfl
    · rw [e1]; exact hfl
    · exact h2.2.2.1 p (by simp)

theorem idxC {f root : Tb} {s k : Nat} {block : Bool} (hf : f.blk = false) (hk : f.nd = k) : idx [fresh s block, f, root] = if block then k else 0 := by
  cases block <;> simp [idx, fresh, hf, hk]
theorem scC {f root : Tb} {s : Nat} {block : Bool} (hf : f.blk = false) : scOf [fresh s block, f, root] = sLocal := by
  cases block <;> simp [scOf, parOf, fresh, hf, up]

set_option maxHeartbeats 400000 in
theorem lawC_short (n : Nat) (block second : Bool) (w : World) (hn : n ≤ 4096) :
    Calls Eckg.prog 5 #[.int .i64 n, .bool block, .bool second] w fun e w' => e = .returned (.bool true) ∧ Below w.heap.size w w' := by
  have hn0 : decide ((n : Int) < 0) = false := by simp
  have hn1 : decide ((4096 : Int) < (n : Int)) = false := by simp; omega
  go_enter Eckg.func5, Eckg.ntmps5
  go_wp2_with fail
  go_at_call 12
  refine (new_c _).mono ?_
  rintro e w1 ⟨rfl, h1, k1, s1⟩
  have H1 := hide h1
  have K1 := hide k1
  have S1 := hide s1
  clear h1 k1 s1
  go_wp2_with fail
  go_at_call 13
  refine (fork_c _ (fresh w.heap.size false) [] false H1.out).mono ?_
  rintro e w2 ⟨rfl, h2, k2, s2⟩
  have HI := hide (invC_start h2 K1.out S1.out k2)
  rw [S1.out]
  clear h2 k2 s2 H1 K1 S1 w1
  go_wp2_with fail
  go_loopw [9] (fun i wr => ∃ (k : Nat) (f : Tb), k ≤ n ∧ i = .int .i64 k ∧ InvC w wr k f) (fun i _ => n - (intOf i).toNat)
  case atStart => exact ⟨0, _, Nat.zero_le _, rfl, HI.out⟩
  case round =>
    obtain ⟨k, f, hk, rfl, hinv⟩ := hrel
    have HINV := hide hinv
    have hfb := hinv.fb
    clear HI w2 hinv
    by_cases hlt : k < n
    · have hki : (k : Int) < (n : Int) := by omega
      go_wp2_with fail
      go_at_call 18
      refine (itoa_any k (by omega) _).mono ?_
      rintro e w3 ⟨rfl, hb3⟩
      have HB3 := hide hb3
      have hsz := itoa_size k
      clear hb3
      have HNE := hide (fresh_ne (itoa k))
      generalize itoa k = sk at *
      go_wp2_with fail
      go_at_call 16
      rw [← hfb]
      refine (define_any _ [fresh w.heap.size false] f _ (HINV.out.chain.below HB3.out) ?_ ?_).mono ?_
      · have := HINV.out.nd
        simp [idx, HINV.out.blk]
        omega
      · intro p hp
        simp at hp
        rcases hp with rfl | rfl
        · have := HINV.out.nd
          omega
        · simp [fresh]
      rintro e w4 ⟨rfl, es', ck', hkeys, hlook, hmid⟩
      have HI4 := hide (invC_step HINV.out HB3.out HNE.out hlook hmid)
      clear hkeys hlook hmid
      go_wp2_with fail
      go_roundw
      case rel =>
        obtain ⟨f', hf'⟩ := HI4.out
        exact ⟨k + 1, f', by omega, by go_num, hf'⟩
      case measure => simp [intOf]; omega
    · have hkn : k = n := by omega
      subst hkn
      clear hlt
      have hki : ¬ (k : Int) < (k : Int) := by omega
      have HMD := hide HINV.out.md
      have HND := hide HINV.out.nd
      have HCH := hide HINV.out.chain
      have HBK := hide HINV.out.blk
      have HFS := hide HINV.out.fs
      have HNN := hide HINV.out.none
      have HBL := hide HINV.out.bel
      have hfl : f.b + 1 < wr.heap.size := HINV.out.chain.head.lt
      rw [← hfb]
      have HFB := hide hfb
      have hneq := neq26
      clear hfb HINV
      go_wp2_with fail
      go_at_call 17
      refine (maxSyms_any wr f _ HCH.out.head).mono ?_
      rintro e w' ⟨rfl, hw'⟩
      replace hw' := hw'.symm
      subst hw'
      rw [HMD.out]
      go_wp2_with fail
      go_at_call 13
      refine (fork_c wr f _ block HCH.out).mono ?_
      rintro e w5 ⟨rfl, h5, k5, s5⟩
      have H5 := hide h5
      have K5 := hide k5
      have S5 := hide s5
      clear h5 k5 s5
      go_wp2_with fail
      go_at_call 13
      refine (fork_c w5 f _ second H5.out.tail).mono ?_
      rintro e w6 ⟨rfl, h6, k6, s6⟩
      have H1 := hide (H5.out.kept k6 fun _ _ => id)
      have H2 := hide h6
      rw [S5.out] at H2 s6 ⊢
      have K6 := hide (K5.out.trans k6)
      have S6 := hide s6
      clear h6 k6 s6 K5 H5 S5
      generalize wr.heap.size = sN at *
      have q1 : (binOp .eql 26 (.pointer (some ⟨sN + 1, 0, none⟩)) (.pointer (some ⟨f.b + 1, 0, none⟩))).run Eckg.prog w6 = .ok (.bool false) w6 := eql26_other w6 (by intro e; simp at e <;> omega) H1.out.head.cells H1.out.tail.head.cells
      have q2 : (binOp .eql 26 (.pointer (some ⟨sN + 2 + 1, 0, none⟩)) (.pointer (some ⟨f.b + 1, 0, none⟩))).run Eckg.prog w6 = .ok (.bool false) w6 := eql26_other w6 (by intro e; simp at e <;> omega) H2.out.head.cells H1.out.tail.head.cells
      have q3 : (binOp .eql 26 (.pointer (some ⟨sN + 1, 0, none⟩)) (.pointer (some ⟨sN + 2 + 1, 0, none⟩))).run Eckg.prog w6 = .ok (.bool false) w6 := eql26_other w6 (by simp) H1.out.head.cells H2.out.head.cells
      have P1 := hide (parent_any false w6 _ _ H1.out)
      have P2 := hide (parent_any false w6 _ _ H2.out)
      have P3 := hide (parent_any false w6 _ _ H1.out.tail)
      have M1 := hide (maxSyms_any w6 _ _ H1.out.head)
      have M2 := hide (maxSyms_any w6 _ _ H2.out.head)
      have M3 := hide (maxSyms_any w6 _ _ H1.out.tail.head)
      have F1 := hide (freeSyms_any w6 _ _ H1.out.head)
      have F2 := hide (freeSyms_any w6 _ _ H2.out.head)
      have DF := hide (define_any sFresh _ _ w6 H1.out (by rw [idxC HBK.out HND.out]; split <;> omega) (by
        intro p hp
        simp at hp
        rcases hp with rfl | rfl | rfl
        · simp [fresh]
        · have := HND.out; omega
        · simp [fresh]))
      simp only [parOf, fresh, up, Bool.false_and, Bool.false_eq_true, if_false] at P1 P2 P3 M1 M2 F1 F2
      rw [HMD.out] at M3
      rw [idxC HBK.out HND.out, scC HBK.out] at DF
      go_wp2_with (first | (go_at_call_of 14 (Value.pointer (some { block := sN + 1, off := 0 })); refine P1.out.mono ?_; rintro e w' ⟨rfl, hw'⟩; replace hw' := hw'.symm; subst hw') | (go_at_call_of 14 (Value.pointer (some { block := sN + 2 + 1, off := 0 })); refine P2.out.mono ?_; rintro e w' ⟨rfl, hw'⟩; replace hw' := hw'.symm; subst hw') | (go_at_call_of 14 (Value.pointer (some { block := f.b + 1, off := 0 })); refine P3.out.mono ?_; rintro e w' ⟨rfl, hw'⟩; replace hw' := hw'.symm; subst hw') | (go_at_call_of 17 (Value.pointer (some { block := sN + 1, off := 0 })); refine M1.out.mono ?_; rintro e w' ⟨rfl, hw'⟩; replace hw' := hw'.symm; subst hw') | (go_at_call_of 17 (Value.pointer (some { block := sN + 2 + 1, off := 0 })); refine M2.out.mono ?_; rintro e w' ⟨rfl, hw'⟩; replace hw' := hw'.symm; subst hw') | (go_at_call_of 17 (Value.pointer (some { block := f.b + 1, off := 0 })); refine M3.out.mono ?_; rintro e w' ⟨rfl, hw'⟩; replace hw' := hw'.symm; subst hw') | (go_at_call_of 19 (Value.pointer (some { block := sN + 1, off := 0 })); refine F1.out.mono ?_; rintro e w' ⟨rfl, hw'⟩; replace hw' := hw'.symm; subst hw') | (go_at_call_of 19 (Value.pointer (some { block := sN + 2 + 1, off := 0 })); refine F2.out.mono ?_; rintro e w' ⟨rfl, hw'⟩; replace hw' := hw'.symm; subst hw'))
      go_at_call 16
      refine DF.out.mono ?_
      rintro e w7 ⟨rfl, es', ck', hk', hl', hm⟩
      have HA := hide (afterC HBK.out H1.out H2.out hm)
      have HB := hide (HBL.out.trans (K6.out.below HBL.out.size fun _ _ => id))
      have HB7 := hide (HB.out.trans (hm.kept.below HB.out.size fun j hj hf => by
        obtain ⟨p, hp, e⟩ := hf
        have h1 := HFB.out
        simp at hp
        rcases hp with rfl | rfl | rfl
        all_goals first | omega | (simp [fresh] at e; omega)))
      have y2 : w7.cell? ⟨w6.heap.size, 2, none⟩ = some (.int .i64 ((if block = true then k else 0 : Nat) : Int)) := by rw [cell_at hm.sym]; rfl
      have y1 : w7.cell? ⟨w6.heap.size, 1, none⟩ = some (.string ⟨#[76, 79, 67, 65, 76]⟩) := by rw [cell_at hm.sym]; rfl
      obtain ⟨f', e1, e2, hc1, hc2⟩ := HA.out
      have R2 := hide (resolve_none sFresh w7 _ _ false hc2 (by
        intro p hp
        simp at hp
        rcases hp with rfl | rfl | rfl
        · rfl
        · rw [e2]; exact HNN.out
        · rfl))
      have R1 := hide (resolve_none sFresh w7 _ _ false hc1 (by
        intro p hp
        simp at hp
        rcases hp with rfl | rfl
        · rw [e2]; exact HNN.out
        · rfl))
      rw [e1] at R1
      simp only [fresh] at R2
      clear hk' hl' hm HA hc1 hc2 e1 e2 DF P1 P2 P3 M1 M2 M3 F1 F2 q1 q2 q3 H1 H2
      generalize w6.heap.size = ns at *
      cases block
      all_goals
        simp only [Bool.false_eq_true, if_false, if_true] at y2
        go_wp2_with (first | (go_at_call_of 20 (Value.pointer (some { block := sN + 2 + 1, off := 0 })); refine R2.out.mono ?_; rintro e w' ⟨rfl, hw'⟩; replace hw' := hw'.symm; subst hw') | (go_at_call_of 20 (Value.pointer (some { block := f.b + 1, off := 0 })); refine R1.out.mono ?_; rintro e w' ⟨rfl, hw'⟩; replace hw' := hw'.symm; subst hw'))
        go_ret
        exact ⟨rfl, HB7.out⟩

set_option maxHeartbeats 400000 in
theorem lawC_out (n : Int) (block second : Bool) (w : World) (hn : n < 0 ∨ 4096 < n) :
    Calls Eckg.prog 5 #[.int .i64 n, .bool block, .bool second] w fun e w' => e = .returned (.bool true) ∧ Below w.heap.size w w' := by
  by_cases h0 : n < 0
  · go_enter Eckg.func5, Eckg.ntmps5
    go_wp2_with fail
    go_ret
    exact ⟨rfl, Below.refl _ _⟩
  · have hd : decide (n < 0) = false := by simp; omega
    have h1 : 4096 < n := by omega
    clear hn h0
    go_enter Eckg.func5, Eckg.ntmps5
    go_wp2_with fail
    go_ret
    exact ⟨rfl, Below.refl _ _⟩

/-- FnForkFreshAndIndependent returns true and leaves old memory alone. -/
theorem lawC_any (n : Int) (block second : Bool) (w : World) :
    Calls Eckg.prog 5 #[.int .i64 n, .bool block, .bool second] w fun e w' => e = .returned (.bool true) ∧ Below w.heap.size w w' := by
  by_cases h : n < 0 ∨ 4096 < n
  · exact lawC_out n block second w h
  · obtain ⟨m, rfl⟩ := Int.eq_ofNat_of_zero_le (show 0 ≤ n by omega)
    exact lawC_short m block second w (by omega)

end Go.Proofs.Yoeckw
