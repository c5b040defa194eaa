/-
  THE WALK OF zzFreeScriptB2.
-/
import Derived.Test.YoeckwScript3
import Derived.Test.YoeckwPtr
import Derived.Deep.DeepCutAuto
namespace Go.Proofs.Yoeckw
open Go.RowKit

theorem info3b : (Eckg.prog.info? 3).map (fun i => (i.zero, i.size, i.bytes)) = some (some (.int .i64 0), 1, 8) := by kernel_rfl

set_option maxRecDepth 100000 in
set_option maxHeartbeats 4000000 in
theorem script_any (nL nG D nq : Nat) (ao : Option Addr) (Qv : Nat → Int) (w : World) (hnL : nL ≤ 4096) (hnG : nG ≤ 4096) (hD : D ≤ 4096) (hnq : nq ≤ 4096) (hQ : ∀ i, -9223372036854775808 ≤ Qv i ∧ Qv i ≤ 9223372036854775807)
    (hq : 0 < nq → ∃ b, ao = some ⟨b, 0, none⟩ ∧ w.rowIs b 3 nq (fun i => .int .i64 (Qv i))) :
    Calls Eckg.prog 26 #[.int .i64 nL, .int .i64 nG, .int .i64 D, .slice ao nq nq] w fun e w' => e = .returned (.bool true) ∧ Below w.heap.size w w' := by
  have hmkG := run_makeN 36 29 (.pointer none) Eckg.underlying36 info29 rfl nG (by omega)
  have hmkL := run_makeN 36 29 (.pointer none) Eckg.underlying36 info29 rfl nL (by omega)
  have HQ := hide hQ
  have HQR := hide hq
  clear hQ hq
  go_enter Eckg.func26, Eckg.ntmps26
  go_wp2_with fail
  go_at_call 12
  refine (new_c _).mono ?_
  rintro e w1 ⟨rfl, h1, k1, s1⟩
  have HI := hide (g1_start nG h1 k1)
  clear h1 k1 s1
  go_wp2_with fail
  generalize mkRow w1 _ _ _ = w2 at *
  generalize w1.heap.size = GB at *
  clear w1 hmkG
  go_loopw [11] (fun i wr => ∃ (k : Nat) (root : Tb) (gs : Nat → Nat), k ≤ nG ∧ i = .int .i64 k ∧ G1 w wr nG GB k root gs) (fun i _ => nG - (intOf i).toNat)
  case atStart => exact ⟨0, _, _, Nat.zero_le _, rfl, HI.out⟩
  case round =>
    obtain ⟨k, root, gs, hk, rfl, hinv⟩ := hrel
    have HINV := hide hinv
    clear HI w2 hinv
    by_cases hlt : k < nG
    · have hki : (k : Int) < (nG : Int) := by omega
      have HDEF := hide (fun w3 hb => define_G1 (w3 := w3) HINV.out hlt hnG hb)
      simp only [nmG] at HDEF
      have hsz := itoa_size k
      have HIT := hide (itoa_any k (by omega))
      generalize itoa k = sk at *
      go_wp2_with (first | (go_at_call 18; refine (HIT.out _).mono ?_; rintro e w3 ⟨rfl, hb3⟩) | (go_at_call 16; refine (HDEF.out _ (by assumption)).mono ?_; rintro e w4 ⟨ns, rfl, cx, fx, hR⟩; replace hR := hide hR))
      go_roundw
      case rel =>
        obtain ⟨root', gs', hg⟩ := hR.out
        exact ⟨k + 1, root', gs', by omega, by go_num, hg⟩
      case measure => simp [intOf]; omega
    · have hkn : nG = k := by omega
      subst hkn
      have hki : ¬ (nG : Int) < (nG : Int) := by omega
      have HFK := hide (fork_c wr root [] false HINV.out.chain)
      rw [HINV.out.rb] at HFK
      clear hlt
      go_wp2_with fail
      go_at_call 13
      refine HFK.out.mono ?_
      rintro e w3 ⟨rfl, h3, k3, s3⟩
      have HI2 := hide (g2_start nL hnG HINV.out h3 k3)
      clear h3 k3 s3 HFK HINV
      go_wp2_with fail
      generalize mkRow w3 _ _ _ = w4 at *
      generalize w3.heap.size = LB at *
      generalize wr.heap.size = FB at *
      clear w3 wr hmkL
      go_loopw [14] (fun i wr => ∃ (k : Nat) (f : Tb) (ls : Nat → Nat), k ≤ nL ∧ i = .int .i64 k ∧ G2 w wr nL nG GB LB FB k f root gs ls) (fun i _ => nL - (intOf i).toNat)
      case atStart => exact ⟨0, _, _, Nat.zero_le _, rfl, HI2.out⟩
      case round =>
        obtain ⟨k, f, ls, hk, rfl, hinv⟩ := hrel
        have HINV := hide hinv
        clear HI2 w4 hinv
        by_cases hlt : k < nL
        · have hki : (k : Int) < (nL : Int) := by omega
          have HDEF := hide (fun w3 hb => define_G2 (w3 := w3) HINV.out hlt hnL hb)
          simp only [nmL] at HDEF
          have hsz := itoa_size k
          have HIT := hide (itoa_any k (by omega))
          generalize itoa k = sk at *
          go_wp2_with (first | (go_at_call 18; refine (HIT.out _).mono ?_; rintro e w3 ⟨rfl, hb3⟩) | (go_at_call 16; refine (HDEF.out _ (by assumption)).mono ?_; rintro e w4 ⟨ns, rfl, cx, fx, hR⟩; replace hR := hide hR))
          go_roundw
          case rel =>
            obtain ⟨f', ls', hg⟩ := hR.out
            exact ⟨k + 1, f', ls', by omega, by go_num, hg⟩
          case measure => simp [intOf]; omega
        · have hkn : nL = k := by omega
          subst hkn
          have hki : ¬ (nL : Int) < (nL : Int) := by omega
          have HFK := hide (fork_c wr f [root] false HINV.out.chain)
          rw [HINV.out.fb] at HFK
          have hmkC := run_makeN 25 26 (.pointer none) Eckg.underlying25 info26 rfl (D + 1) (by omega)
          rw [show ((D + 1 : Nat) : Int) = (D : Int) + 1 from by omega] at hmkC
          clear hlt
          go_wp2_with fail
          go_at_call 13
          refine HFK.out.mono ?_
          rintro e w3 ⟨rfl, h3, k3, s3⟩
          have HST := hide (fun w2 hw2 => g3_start (w2 := w2) D HINV.out h3 k3 hw2)
          have c0 := (mkRow_row w3 (.pointer none) (D + 1) 26).cell (i := 0) (by omega)
          have f0 := (mkRow_row w3 (.pointer none) (D + 1) 26).frozen 0
          clear h3 k3 s3 HFK HINV
          go_wp2_with fail
          generalize hw4 : World.setCell (mkRow w3 _ _ _) _ _ = w4
          have HI3 := hide (HST.out w4 hw4.symm)
          clear hw4 HST c0 f0 hmkC
          generalize w3.heap.size = CB at *
          generalize wr.heap.size = QB at *
          clear w3 wr
          go_loopw [17] (fun i wr => ∃ (k : Nat) (pre : List Tb), k ≤ D ∧ i = .int .i64 k ∧ G3 w wr nL nG D k GB LB CB FB QB pre (fresh QB false) f root gs ls) (fun i _ => D - (intOf i).toNat)
          case atStart => exact ⟨0, _, Nat.zero_le _, rfl, HI3.out⟩
          case round =>
            obtain ⟨k, pre, hk, rfl, hinv⟩ := hrel
            have HINV := hide hinv
            clear HI3 w4
            obtain ⟨ib, hib, hpt⟩ := hinv.inner
            have ck : wr.cell? ⟨CB, k, none⟩ = some (.pointer (some ⟨ib, 0, none⟩)) := by
              rw [hinv.rowC.cell (i := k) (by omega), hpt]; rfl
            by_cases hlt : k < D
            · have hki : (k : Int) < (D : Int) := by omega
              obtain ⟨t, r, etr⟩ : ∃ t r, pre ++ [fresh QB false, f, root] = t :: r := by cases pre with | nil => exact ⟨_, _, rfl⟩ | cons a b => exact ⟨_, _, rfl⟩
              have hib2 : ib = t.b + 1 := by rw [etr] at hib; simp [up] at hib; exact hib.symm
              have HFK := hide (fork_c wr t r true (by have := HINV.out.chain; rw [etr] at this; exact this))
              rw [← hib2] at HFK
              have HSTP := hide (fun w3 h3 k3 => g3_step (w1 := w3) HINV.out etr h3 k3)
              have hrc := hinv.rowC
              have HRC := hide hrc
              clear hinv hib hpt etr hib2 hrc
              go_wp2_with fail
              go_at_call 13
              refine HFK.out.mono ?_
              rintro e w3 ⟨rfl, h3, k3, s3⟩
              have HN := hide (HSTP.out w3 h3 k3)
              have hr3 := row_carry HRC.out (rows_grown k3)
              have c1 : ∃ v, w3.cell? ⟨CB, k + 1, none⟩ = some v := ⟨_, hr3.cell (i := k + 1) (by omega)⟩
              obtain ⟨v1, c1⟩ := c1
              have f1 := hr3.frozen (k + 1)
              clear h3 k3 s3 HFK HSTP hr3 HRC
              go_wp2_with fail
              go_roundw
              case rel => exact ⟨k + 1, _, by omega, by go_num, HN.out⟩
              case measure => simp [intOf]; omega
            · have hkn : D = k := by omega
              subst hkn
              have hki : ¬ (D : Int) < (D : Int) := by omega
              have hmkP := run_makeN 44 3 (.int .i64 0) Eckg.underlying44 info3b rfl nL (by omega)
              have HIB := hide hib
              clear hlt hinv hib hpt
              have HG3 := hide (HINV.out.grown (mkRow_kept wr (.int .i64 0) nL 3))
              have HRP := hide ((mkRow_row wr (.int .i64 0) nL 3).congr (g := fun i => if i < 0 then .int .i64 (-1) else .int .i64 0) fun i _ => by simp)
              have HPB := hide (show w.heap.size ≤ wr.heap.size from HINV.out.bel.size)
              go_wp2_with fail
              generalize mkRow wr _ _ _ = w5 at *
              generalize wr.heap.size = PB at *
              clear HINV ck wr hmkP
              go_loopw [20] (fun i wr => ∃ k : Nat, k ≤ nL ∧ i = .int .i64 k ∧ G3 w wr nL nG D D GB LB CB FB QB pre (fresh QB false) f root gs ls ∧ wr.rowIs PB 3 nL (fun i => if i < k then .int .i64 (-1) else .int .i64 0)) (fun i _ => nL - (intOf i).toNat)
              case atStart => exact ⟨0, Nat.zero_le _, rfl, HG3.out, HRP.out⟩
              case round =>
                obtain ⟨k, hk, rfl, hg3, hrp⟩ := hrel
                have HG := hide hg3
                have HR := hide hrp
                clear HG3 HRP w5 hg3
                by_cases hlt : k < nL
                · have hki : (k : Int) < (nL : Int) := by omega
                  have c1 := hrp.cell hlt
                  rw [if_neg (by omega)] at c1
                  have f1 := hrp.frozen k
                  have HS := hide (pos_step HG.out HPB.out HR.out)
                  clear hrp
                  go_wp2_with fail
                  go_roundw
                  case rel => exact ⟨k + 1, by omega, by go_num, HS.out.1, HS.out.2⟩
                  case measure => simp [intOf]; omega
                · have hkn : nL = k := by omega
                  subst hkn
                  have hki : ¬ (nL : Int) < (nL : Int) := by omega
                  have hmkW := run_make0 nL hnL
                  have HS5 := hide (g5_start hnL HG.out HR.out)
                  have HLB := hide (show GB < wr.heap.size ∧ LB < wr.heap.size from ⟨HG.out.rowG.lt, HG.out.rowL.lt⟩)
                  clear hrp hlt HG HR
                  go_wp2_with fail
                  generalize mkRow wr _ _ _ = w6 at *
                  generalize wr.heap.size = WB at *
                  clear hmkW wr
                  obtain ⟨i0, hi0, hz0, hz1, hz2⟩ := info_parts info29
                  go_loopw [21, 22] (fun wv i wr => ∃ (k : Nat) (g : Tb) (capt : List Nat) (fy : Nat → Nat), k ≤ nq ∧ i = .int .i64 k ∧ wv = .slice (some ⟨WB, 0, none⟩) capt.length nL ∧ G3 w wr nL nG D D GB LB CB FB QB pre g f root gs ls ∧ G5 wr nL PB WB (WB + 1) g ls capt fy (posOf capt) capt) (fun _ i _ => nq - (intOf i).toNat)
                  case atStart => exact ⟨0, _, [], _, Nat.zero_le _, rfl, rfl, HS5.out.1, HS5.out.2⟩
                  case round =>
                    obtain ⟨k, g, capt, fy, hk, rfl, rfl, hg3, hg5⟩ := hrel
                    have H3 := hide hg3
                    have H5 := hide hg5
                    have hcl : capt.length ≤ nL := nodup_len nL capt hg5.nd hg5.lt
                    have HIBg : Hid (up (pre ++ [g, f, root]) = some ⟨ib, 0, none⟩) := by
                      have h1 := HIB.out
                      cases pre with
                      | nil => simp [up] at h1 ⊢; rw [hg3.gb]; exact h1
                      | cons a b => exact h1
                    clear HS5 w6 hg3 hg5
                    by_cases hlt : k < nq
                    · obtain ⟨b, hao, hqr⟩ := HQR.out (by omega)
                      subst hao
                      have hki : (k : Int) < (nq : Int) := by omega
                      have cq : wr.cell? ⟨b, k, none⟩ = some (.int .i64 (Qv k)) := (H3.out.bel.cell (p := ⟨b, k, none⟩) hqr.lt).trans (hqr.cell hlt)
                      have hqb := HQ.out k
                      clear hqr
                      generalize Qv k = q at *
                      by_cases hA : 0 ≤ q ∧ q < nL
                      · obtain ⟨j, rfl⟩ := Int.eq_ofNat_of_zero_le hA.1
                        have hjn : j < nL := by have := hA.2; omega
                        have hji : (j : Int) < (nL : Int) := by omega
                        clear hA
                        have hsz := itoa_size j
                        have HIT := hide (itoa_any j (by omega))
                        by_cases hjc : j ∈ capt
                        · have HRES : Hid (∀ w3, Below wr.heap.size wr w3 → Calls Eckg.prog 20 #[.pointer (some ⟨ib, 0, none⟩), .string ((⟨#[76]⟩ : ByteArray) ++ itoa j), .bool false] w3 fun e w' => e = .returned (.tuple #[.pointer (some ⟨fy j, 0, none⟩), .int .i64 (D : Int), .bool true]) ∧ w' = w3) := fun w3 hb =>
                            resolve_A2 (H3.out.grown (Kept.of_below hb _)) (H5.out.grown (Kept.of_below hb _)) hD hjc HIBg.out
                          have HFY : Hid (∀ w3, Below wr.heap.size wr w3 → w3.heap[fy j]? = some (symObj ((⟨#[76]⟩ : ByteArray) ++ itoa j) sFree (capt.idxOf j)) ∧ w3.cell? ⟨PB, j, none⟩ = some (.int .i64 ((capt.idxOf j : Nat) : Int))) := fun w3 hb => by
                            have h5 := H5.out.grown (Kept.of_below hb _)
                            have hp := h5.rowP.cell hjn
                            rw [show posOf capt j = ((capt.idxOf j : Nat) : Int) by simp [posOf, hjc]] at hp
                            exact ⟨(h5.hit j hjc).2, hp⟩
                          clear hjc
                          generalize itoa j = sk at *
                          generalize capt.idxOf j = p at *
                          generalize fy j = ns at *
                          go_wp2_with (first | (go_at_call 18; refine (HIT.out _).mono ?_; rintro e w3 ⟨rfl, hb3⟩))
                          go_at_call 20
                          have hb3' : Below wr.heap.size wr w3 := by assumption
                          refine (HRES.out _ hb3').mono ?_
                          rintro e w' ⟨rfl, hw'⟩
                          replace hw' := hw'.symm
                          subst hw'
                          obtain ⟨hsy, cp⟩ := HFY.out _ hb3'
                          have y0 : w3.cell? ⟨ns, 0, none⟩ = some (.string ((⟨#[76]⟩ : ByteArray) ++ sk)) := by rw [cell_at hsy]; rfl
                          have y1 : w3.cell? ⟨ns, 1, none⟩ = some (.string ⟨#[70, 82, 69, 69]⟩) := by rw [cell_at hsy]; rfl
                          have y2 : w3.cell? ⟨ns, 2, none⟩ = some (.int .i64 p) := by rw [cell_at hsy]; rfl
                          have HB3 := hide hb3'
                          clear hsy HRES HIT HFY hb3' hb3
                          go_wp2_with fail
                          go_quiet (fail)
                          go_wp2_with fail
                          go_roundw
                          case rel => exact ⟨k + 1, g, capt, _, by omega, by go_num, rfl, (H3.out.grown (Kept.of_below HB3.out _)).grown ((Kept.refl _ _).drewN _), (H5.out.grown (Kept.of_below HB3.out _)).grown ((Kept.refl _ _).drewN _)⟩
                          case measure => simp [intOf]; omega
                        · have hlt2 : capt.length < nL := by
                            have := nodup_len nL (capt ++ [j]) (List.nodup_append.2 ⟨H5.out.nd, by simp, fun a ha b hb => by simp at hb; subst hb; exact fun e => hjc (e ▸ ha)⟩) (fun i hi => by simp at hi; rcases hi with hi | rfl; exact H5.out.lt i hi; exact hjn)
                            simp at this
                            omega
                          have HRES : Hid (∀ w3, Below wr.heap.size wr w3 → Calls Eckg.prog 20 #[.pointer (some ⟨ib, 0, none⟩), .string ((⟨#[76]⟩ : ByteArray) ++ itoa j), .bool false] w3 fun e w' => ∃ ns : Nat, e = .returned (.tuple #[.pointer (some ⟨ns, 0, none⟩), .int .i64 ((D : Int) + 1), .bool true]) ∧ w'.heap[ns]? = some (symObj ((⟨#[76]⟩ : ByteArray) ++ itoa j) sFree capt.length) ∧
                              ∃ g' fy', G3 w w' nL nG D D GB LB CB FB QB pre g' f root gs ls ∧ G5 w' nL PB WB (WB + 1) g' ls (capt ++ [j]) fy' (posOf capt) capt) := fun w3 hb =>
                            resolve_A1 (H3.out.grown (Kept.of_below hb _)) (H5.out.grown (Kept.of_below hb _)) hnL hD hjn hjc (by omega) (by have := HLB.out.1; omega) (by have := HLB.out.2; omega) HIBg.out
                          have HPN := hide (fun i => posOf_snoc capt j i hjc)
                          have hpj : posOf capt j = -1 := by simp [posOf, hjc]
                          have HPJ := hide hpj
                          have HJC := hide hjc
                          clear hpj hjc
                          generalize itoa j = sk at *
                          generalize hcn : capt.length = n at *
                          have HCN := hide hcn
                          clear hcn
                          go_wp2_with (first | (go_at_call 18; refine (HIT.out _).mono ?_; rintro e w3 ⟨rfl, hb3⟩))
                          go_at_call 20
                          refine (HRES.out _ (by assumption)).mono ?_
                          rintro e w4 ⟨ns, rfl, hsy, g', fy', hg3, hg5⟩
                          have y0 : w4.cell? ⟨ns, 0, none⟩ = some (.string ((⟨#[76]⟩ : ByteArray) ++ sk)) := by rw [cell_at hsy]; rfl
                          have y1 : w4.cell? ⟨ns, 1, none⟩ = some (.string ⟨#[70, 82, 69, 69]⟩) := by rw [cell_at hsy]; rfl
                          have HSY := hide hsy
                          have H3' := hide hg3
                          have H5' := hide hg5
                          have cp := hg5.rowP.cell hjn
                          rw [HPJ.out] at cp
                          have fp := hg5.rowP.frozen j
                          have hLP : LB ≠ PB := row_ne hg3.rowL hg5.rowP (by decide)
                          have cl : (w4.setCell ⟨PB, j, none⟩ (.int .i64 n)).cell? ⟨LB, j, none⟩ = some (.pointer (some ⟨ls j, 0, none⟩)) := by
                            rw [World.cell?_of_block (Below.heap_setCell w4 ⟨PB, j, none⟩ _ LB hLP)]
                            exact hg3.rowL.cell hjn
                          have HW5 : Hid ((w4.setCell ⟨PB, j, none⟩ (.int .i64 n)).ownsRow WB 29 1 (.slice (some ⟨WB, 0, none⟩) n nL) n (ptrsOf ls capt)) := by
                            have := (hg5.setPos j n).want
                            rw [HCN.out] at this
                            exact this
                          have HDONE : Hid (∀ w6 o, w6.ownsRow WB 29 1 (.slice (some ⟨WB, 0, none⟩) (n + 1) nL) (n + 1) (ptrsOf ls capt ++ [.pointer (some ⟨ls j, 0, none⟩)]) → ((w4.setCell ⟨PB, j, none⟩ (.int .i64 n)).alloc o).grownBy w6 (some WB) →
                              G3 w w6 nL nG D D GB LB CB FB QB pre g' f root gs ls ∧ G5 w6 nL PB WB (WB + 1) g' ls (capt ++ [j]) fy' (posOf (capt ++ [j])) (capt ++ [j]) ∧ w6.cell? ⟨ns, 2, none⟩ = some (.int .i64 n) ∧ w6.cell? ⟨PB, j, none⟩ = some (.int .i64 n)) := fun w6 o ho hg => by
                            have := A1_done (w6 := w6) (o := o) (nm := (⟨#[76]⟩ : ByteArray) ++ sk) hg3 hg5 hjn HJC.out HPB.out HLB.out.1 HLB.out.2 (by rw [HCN.out]; exact hsy) (by rw [HCN.out]; exact ho) (by rw [HCN.out]; exact hg)
                            rw [HCN.out] at this
                            exact this
                          clear hsy hg3 hg5 HRES HIT
                          go_wp2_with (at_builtin; refine wpList_append_fits _ rfl _ _ 36 rfl WB 29 i0 1 Eckg.underlying36 hi0 hz1 WB n nL (ptrsOf ls capt) rfl (HW5.out.alloc _) ⟨w4.heap.size, 0, none⟩ 1 1 [.pointer (some ⟨ls j, 0, none⟩)] rfl rfl ?hnew ?hone ?hcap ?hnext)
                          case hnew =>
                            intro i u hu
                            rw [show w4.heap.size = (w4.setCell ⟨PB, j, none⟩ (.int .i64 n)).heap.size by simp]
                            exact cell_one_new _ _ _ i u hu
                          case hone => intro u hu; simp at hu; subst hu; rfl
                          case hcap => omega
                          case hnext =>
                            intro w6 hown6 hgrow6
                            obtain ⟨hg3, hg5, y2, p2⟩ := HDONE.out _ _ hown6 hgrow6
                            have HE3 := hide hg3
                            have HE5 := hide hg5
                            clear hown6 hgrow6 hg3 hg5 HDONE HW5 cp fp cl y0 y1
                            go_wp2_with fail
                            go_quiet (fail)
                            go_wp2_with fail
                            go_roundw
                            case rel => exact ⟨k + 1, g', capt ++ [j], fy', by omega, by go_num, by simp [HCN.out], HE3.out.grown ((Kept.refl _ _).drewN _), HE5.out.grown ((Kept.refl _ _).drewN _)⟩
                            case measure => simp [intOf]; omega
                      · by_cases hB : (nL : Int) ≤ q ∧ q - nL < nG
                        · obtain ⟨i, hi⟩ := Int.eq_ofNat_of_zero_le (show 0 ≤ q - nL by omega)
                          have hin : i < nG := by have := hB.2; omega
                          have hqi : q = (nL : Int) + (i : Int) := by omega
                          subst hqi
                          have hii : (i : Int) < (nG : Int) := by omega
                          clear hA hB hi
                          have hsz := itoa_size i
                          have HIT := hide (itoa_any i (by omega))
                          have HRES : Hid (∀ w3, Below wr.heap.size wr w3 → Calls Eckg.prog 20 #[.pointer (some ⟨ib, 0, none⟩), .string ((⟨#[71]⟩ : ByteArray) ++ itoa i), .bool false] w3 fun e w' => e = .returned (.tuple #[.pointer (some ⟨gs i, 0, none⟩), .int .i64 ((D : Int) + 2), .bool true]) ∧ w' = w3) := fun w3 hb =>
                            resolve_B (H3.out.grown (Kept.of_below hb _)) (H5.out.grown (Kept.of_below hb _)) hD hin HIBg.out
                          have HGC : Hid (∀ w3, Below wr.heap.size wr w3 → w3.cell? ⟨GB, i, none⟩ = some (.pointer (some ⟨gs i, 0, none⟩))) := fun w3 hb => (H3.out.grown (Kept.of_below hb _)).rowG.cell hin
                          generalize itoa i = sk at *
                          generalize gs i = gi at *
                          have hneq := neq29
                          have hb1 : decide ((0 : Int) ≤ (nL : Int) + (i : Int)) = true := by simp; omega
                          have hb2 : decide ((nL : Int) + (i : Int) < (nL : Int)) = false := by simp; omega
                          have hb3 : decide ((nL : Int) ≤ (nL : Int) + (i : Int)) = true := by simp; omega
                          have hsub : (nL : Int) + (i : Int) - (nL : Int) = (i : Int) := by omega
                          go_wp2_with fail
                          go_at_call 18
                          refine (HIT.out _).mono ?_
                          rintro e w3 ⟨rfl, hbw⟩
                          have HBW := hide hbw
                          have cg := HGC.out _ hbw
                          have HR3 := hide (HRES.out _ hbw)
                          clear hbw HGC HRES HIT
                          go_wp2_with fail
                          go_at_call 20
                          refine HR3.out.mono ?_
                          rintro e w' ⟨rfl, hw'⟩
                          replace hw' := hw'.symm
                          subst hw'
                          clear HR3
                          go_wp2_with fail
                          go_roundw
                          case rel => exact ⟨k + 1, g, capt, _, by omega, by go_num, rfl, H3.out.grown (Kept.of_below HBW.out _), H5.out.grown (Kept.of_below HBW.out _)⟩
                          case measure => simp [intOf]; omega
                        · have HRES := hide (resolve_C H3.out H5.out HIBg.out)
                          by_cases hneg : q < 0
                          · have hb1 : decide ((0 : Int) ≤ q) = false := by simp; omega
                            have hb2 : decide ((nL : Int) ≤ q) = false := by simp; omega
                            clear hA hB
                            go_wp2_with (go_at_call 20; refine HRES.out.mono ?_; rintro e w' ⟨rfl, hw'⟩; replace hw' := hw'.symm; subst hw')
                            go_roundw
                            case rel => exact ⟨k + 1, g, capt, _, by omega, by go_num, rfl, H3.out, H5.out⟩
                            case measure => simp [intOf]; omega
                          · have hb1 : decide ((0 : Int) ≤ q) = true := by simp; omega
                            have hb2 : decide (q < (nL : Int)) = false := by simp; omega
                            have hb3 : decide ((nL : Int) ≤ q) = true := by simp; omega
                            have hb4 : decide (q - (nL : Int) < (nG : Int)) = false := by simp; omega
                            clear hA hB
                            go_wp2_with (go_at_call 20; refine HRES.out.mono ?_; rintro e w' ⟨rfl, hw'⟩; replace hw' := hw'.symm; subst hw')
                            go_roundw
                            case rel => exact ⟨k + 1, g, capt, _, by omega, by go_num, rfl, H3.out, H5.out⟩
                            case measure => simp [intOf]; omega
                    · have hkn : nq = k := by omega
                      subst hkn
                      have hki : ¬ (nq : Int) < (nq : Int) := by omega
                      have hgt : Chain wr (g :: [f, root]) := Chain.suffix H3.out.chain
                      have HF := hide (freeSyms_any wr g _ hgt.head)
                      rw [H3.out.gb] at HF
                      obtain ⟨aof, fcap, hfs, hfc⟩ := free_form H5.out
                      rw [hfs] at HF
                      have HFC := hide hfc
                      have HBL := hide H3.out.bel
                      clear hlt hgt hfs hfc HLB hi0 hz0 hz1 hz2 HIBg HIB
                      go_wp2_with (go_at_call 19; refine HF.out.mono ?_; rintro e w' ⟨rfl, hw'⟩; replace hw' := hw'.symm; subst hw')
                      have hneq := neq29
                      go_loopw [35] (fun i w7 => ∃ k : Nat, k ≤ capt.length ∧ i = .int .i64 k ∧ ∃ m, w7 = wr.drewN m) (fun i _ => capt.length - (intOf i).toNat)
                      case atStart => exact ⟨0, Nat.zero_le _, rfl, 0, rfl⟩
                      case round =>
                        obtain ⟨k, hk, rfl, m, hw⟩ := hrel
                        subst hw
                        by_cases hlt : k < capt.length
                        · obtain ⟨r, hao, hcell⟩ := HFC.out (by omega)
                          subst hao
                          have hki : (k : Int) < (capt.length : Int) := by omega
                          have c1 := hcell k hlt
                          have c2 := want_cell H5.out hlt
                          rw [ptrsOf_get ls capt hlt] at c1 c2
                          generalize ls capt[k] = pk at c1 c2
                          clear hcell HFC
                          go_wp2_with fail
                          go_quiet (fail)
                          go_wp2_with fail
                          go_roundw
                          case rel => exact ⟨k + 1, by omega, by go_num, _, rfl⟩
                          case measure => simp [intOf]; omega
                        · have hkc : k = capt.length := by omega
                          have hki : ¬ (k : Int) < (capt.length : Int) := by omega
                          clear HFC hlt
                          have H3m := hide (H3.out.grown ((Kept.refl _ _).drewN m))
                          go_wp2_with fail
                          go_loop [36] (fun i => ∃ k : Nat, 1 ≤ k ∧ k ≤ D + 1 ∧ i = .int .i64 k) (fun i => D + 1 - (intOf i).toNat)
                          case atStart => exact ⟨1, by omega, by omega, rfl⟩
                          case round =>
                            obtain ⟨i, hi1, hi2, rfl⟩ := hrel
                            by_cases hid : i ≤ D
                            · obtain ⟨p, par, cc, htp, hpf⟩ := chain_cell H3m.out hi1 hid
                              have hii : (i : Int) ≤ (D : Int) := by omega
                              have HFP := hide (freeSyms_any _ p par htp)
                              rw [hpf] at HFP
                              clear htp hpf
                              go_wp2_with (go_at_call 19; refine HFP.out.mono ?_; rintro e w' ⟨rfl, hw'⟩; replace hw' := hw'.symm; subst hw')
                              go_round
                              case rel => exact ⟨i + 1, by omega, by omega, by go_num⟩
                              case measure => simp [intOf]; omega
                            · have hii : ¬ (i : Int) ≤ (D : Int) := by omega
                              have hgt : Chain _ (g :: [f, root]) := Chain.suffix H3m.out.chain
                              have HF1 := hide (freeSyms_any _ f _ hgt.tail.head)
                              have HF2 := hide (freeSyms_any _ root _ hgt.tail.tail.head)
                              rw [H3.out.fb, H3.out.ffs] at HF1
                              rw [H3.out.rb, H3.out.rfs] at HF2
                              clear hgt
                              go_wp2_with (first | (go_at_call_of 19 (Value.pointer (some { block := FB + 1, off := 0 })); refine HF1.out.mono ?_; rintro e w' ⟨rfl, hw'⟩; replace hw' := hw'.symm; subst hw') | (go_at_call_of 19 (Value.pointer (some { block := w.heap.size + 1, off := 0 })); refine HF2.out.mono ?_; rintro e w' ⟨rfl, hw'⟩; replace hw' := hw'.symm; subst hw'))
                              go_ret
                              exact ⟨rfl, H3m.out.bel⟩

end Go.Proofs.Yoeckw
