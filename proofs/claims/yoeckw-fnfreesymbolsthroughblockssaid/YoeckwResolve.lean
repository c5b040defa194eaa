/-
  THE WALKS OF (*SymbolTable).Resolve.
-/
import Derived.Test.YoeckwDefine
namespace Go.Proofs.Yoeckw
open Go.RowKit

def sFree : ByteArray := ⟨#[70, 82, 69, 69]⟩

set_option maxHeartbeats 400000 in
/-- A name that no table of the chain holds. -/
theorem resolve_none (name : ByteArray) (w : World) : ∀ (r : List Tb) (t : Tb) (recur : Bool), Chain w (t :: r) → (∀ p ∈ t :: r, look name p.es.toList = none) →
    Calls Eckg.prog 20 #[.pointer (some ⟨t.b + 1, 0, none⟩), .string name, .bool recur] w fun e w' => e = .returned (.tuple #[.pointer none, .int .i64 0, .bool false]) ∧ w' = w := by
  intro r
  induction r with
  | nil =>
    intro t recur h hl
    have c0 := h.head.c0
    have c2 := h.head.c2
    have HM := hide h.head.map
    have HK := hide h.head.keys
    have HL := hide (hl t (.head _))
    simp only [up] at c0
    clear h hl
    go_enter Eckg.func20, Eckg.ntmps20
    go_wp2_with (at_lookup; refine wpList_look _ rfl _ _ rfl t.b name rfl rfl t.es t.ck HM.out HK.out none HL.out ?_)
    go_ret3
    exact ⟨rfl, rfl⟩
  | cons p r ih =>
    intro t recur h hl
    have c0 := h.head.c0
    have c2 := h.head.c2
    have HM := hide h.head.map
    have HK := hide h.head.keys
    have HL := hide (hl t (.head _))
    have IH := hide (ih p true h.tail (fun q hq => hl q (.tail _ hq)))
    simp only [up] at c0
    clear h hl ih
    go_enter Eckg.func20, Eckg.ntmps20
    go_wp2_with (first | (at_lookup; refine wpList_look _ rfl _ _ rfl t.b name rfl rfl t.es t.ck HM.out HK.out none HL.out ?_) | (go_at_call 20; refine IH.out.mono ?_; rintro e w' ⟨rfl, hw'⟩; replace hw' := hw'.symm; subst hw'))
    go_ret3
    exact ⟨rfl, rfl⟩

set_option maxHeartbeats 400000 in
theorem resolve_hereG (name nm : ByteArray) (w : World) (t : Tb) (par : Option Addr) (s i : Nat) (recur : Bool) (h : Tab w t par) (hl : look name t.es.toList = some (.pointer (some ⟨s, 0, none⟩))) (hs : w.heap[s]? = some (symObj nm sGlobal i)) :
    Calls Eckg.prog 20 #[.pointer (some ⟨t.b + 1, 0, none⟩), .string name, .bool recur] w fun e w' => e = .returned (.tuple #[.pointer (some ⟨s, 0, none⟩), .int .i64 0, .bool true]) ∧ w' = w := by
  have c2 := h.c2
  have HM := hide h.map
  have HK := hide h.keys
  have HL := hide hl
  have s1 : w.cell? ⟨s, 1, none⟩ = some (.string sGlobal) := by rw [cell_at hs]; rfl
  have s3 : w.cell? ⟨s, 3, none⟩ = some (.bool false) := by rw [cell_at hs]; rfl
  simp only [sGlobal] at s1
  clear h hl hs
  go_enter Eckg.func20, Eckg.ntmps20
  go_wp2_with (at_lookup; refine wpList_look _ rfl _ _ rfl t.b name rfl rfl t.es t.ck HM.out HK.out _ HL.out ?_)
  go_ret3
  exact ⟨rfl, rfl⟩

set_option maxHeartbeats 400000 in
theorem resolve_hereF (name nm : ByteArray) (w : World) (t : Tb) (par : Option Addr) (s i : Nat) (recur : Bool) (h : Tab w t par) (hl : look name t.es.toList = some (.pointer (some ⟨s, 0, none⟩))) (hs : w.heap[s]? = some (symObj nm sFree i)) :
    Calls Eckg.prog 20 #[.pointer (some ⟨t.b + 1, 0, none⟩), .string name, .bool recur] w fun e w' => e = .returned (.tuple #[.pointer (some ⟨s, 0, none⟩), .int .i64 0, .bool true]) ∧ w' = w := by
  have c2 := h.c2
  have HM := hide h.map
  have HK := hide h.keys
  have HL := hide hl
  have s1 : w.cell? ⟨s, 1, none⟩ = some (.string sFree) := by rw [cell_at hs]; rfl
  have s3 : w.cell? ⟨s, 3, none⟩ = some (.bool false) := by rw [cell_at hs]; rfl
  simp only [sFree] at s1
  clear h hl hs
  go_enter Eckg.func20, Eckg.ntmps20
  go_wp2_with (at_lookup; refine wpList_look _ rfl _ _ rfl t.b name rfl rfl t.es t.ck HM.out HK.out _ HL.out ?_)
  go_ret3
  exact ⟨rfl, rfl⟩

set_option maxHeartbeats 400000 in
theorem resolve_hereL (name nm : ByteArray) (w : World) (t : Tb) (par : Option Addr) (s i : Nat) (h : Tab w t par) (hl : look name t.es.toList = some (.pointer (some ⟨s, 0, none⟩))) (hs : w.heap[s]? = some (symObj nm sLocal i)) :
    Calls Eckg.prog 20 #[.pointer (some ⟨t.b + 1, 0, none⟩), .string name, .bool true] w fun e w' => e = .returned (.tuple #[.pointer (some ⟨s, 0, none⟩), .int .i64 0, .bool true]) ∧ w' = w := by
  have c2 := h.c2
  have HM := hide h.map
  have HK := hide h.keys
  have HL := hide hl
  have s1 : w.cell? ⟨s, 1, none⟩ = some (.string sLocal) := by rw [cell_at hs]; rfl
  have s3 : w.cell? ⟨s, 3, none⟩ = some (.bool false) := by rw [cell_at hs]; rfl
  simp only [sLocal] at s1
  clear h hl hs
  go_enter Eckg.func20, Eckg.ntmps20
  go_wp2_with (at_lookup; refine wpList_look _ rfl _ _ rfl t.b name rfl rfl t.es t.ck HM.out HK.out _ HL.out ?_)
  go_ret3
  exact ⟨rfl, rfl⟩

set_option maxHeartbeats 400000 in
/-- A block hands on what its parent finds. -/
theorem resolve_block (name : ByteArray) (w : World) (t p : Tb) (recur : Bool) (h : Tab w t (some ⟨p.b + 1, 0, none⟩)) (hl : look name t.es.toList = none) (D : Nat) (hD : D < 1048576) (R : Nat → Nat → World → Prop)
    (hp : Calls Eckg.prog 20 #[.pointer (some ⟨p.b + 1, 0, none⟩), .string name, .bool true] w fun e w' => ∃ s d : Nat, e = .returned (.tuple #[.pointer (some ⟨s, 0, none⟩), .int .i64 d, .bool true]) ∧ d ≤ D ∧ R s d w')
    (hR : ∀ s d w', R s d w' → w'.cell? ⟨t.b + 1, 1, none⟩ = some (.bool true)) :
    Calls Eckg.prog 20 #[.pointer (some ⟨t.b + 1, 0, none⟩), .string name, .bool recur] w fun e w' => ∃ s d : Nat, e = .returned (.tuple #[.pointer (some ⟨s, 0, none⟩), .int .i64 (d + 1 : Nat), .bool true]) ∧ d ≤ D ∧ R s d w' := by
  have c0 := h.c0
  have c2 := h.c2
  have HM := hide h.map
  have HK := hide h.keys
  have HL := hide hl
  have HP := hide hp
  have HR := hide hR
  clear h hl hp hR
  go_enter Eckg.func20, Eckg.ntmps20
  go_wp2_with (at_lookup; refine wpList_look _ rfl _ _ rfl t.b name rfl rfl t.es t.ck HM.out HK.out _ HL.out ?_)
  go_at_call 20
  refine HP.out.mono ?_
  rintro e w' ⟨s, d, rfl, hd, hr⟩
  have b1 := HR.out _ _ _ hr
  have HRR := hide hr
  clear hr HP HR
  go_wp2_with fail
  go_ret3
  exact ⟨s, d, rfl, hd, HRR.out⟩

set_option maxHeartbeats 400000 in
/-- A function's table hands on a global symbol that its parent finds. -/
theorem resolve_plainG (name nm : ByteArray) (w : World) (t p : Tb) (recur : Bool) (h : Tab w t (some ⟨p.b + 1, 0, none⟩)) (hb : t.blk = false) (hl : look name t.es.toList = none) (s i d : Nat) (hD : d < 1048576) (hs : w.heap[s]? = some (symObj nm sGlobal i))
    (hp : Calls Eckg.prog 20 #[.pointer (some ⟨p.b + 1, 0, none⟩), .string name, .bool true] w fun e w' => e = .returned (.tuple #[.pointer (some ⟨s, 0, none⟩), .int .i64 d, .bool true]) ∧ w' = w) :
    Calls Eckg.prog 20 #[.pointer (some ⟨t.b + 1, 0, none⟩), .string name, .bool recur] w fun e w' => e = .returned (.tuple #[.pointer (some ⟨s, 0, none⟩), .int .i64 (d + 1 : Nat), .bool true]) ∧ w' = w := by
  have c0 := h.c0
  have c1 := h.c1
  have c2 := h.c2
  have HM := hide h.map
  have HK := hide h.keys
  have HL := hide hl
  have HP := hide hp
  have s1 : w.cell? ⟨s, 1, none⟩ = some (.string sGlobal) := by rw [cell_at hs]; rfl
  simp only [sGlobal] at s1
  rw [hb] at c1
  clear h hl hp hs hb
  go_enter Eckg.func20, Eckg.ntmps20
  go_wp2_with (at_lookup; refine wpList_look _ rfl _ _ rfl t.b name rfl rfl t.es t.ck HM.out HK.out _ HL.out ?_)
  go_at_call 20
  refine HP.out.mono ?_
  rintro e w' ⟨rfl, hw'⟩
  replace hw' := hw'.symm
  subst hw'
  clear HP
  go_wp2_with fail
  go_ret3
  exact ⟨rfl, rfl⟩

end Go.Proofs.Yoeckw
