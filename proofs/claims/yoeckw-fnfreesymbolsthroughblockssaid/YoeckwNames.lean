/-
  THE NAMES OF THE SCRIPT: "G0", "G1", .. and "L0", "L1", .. are different from one another and from "none".
-/
import Derived.Test.YoeckwStack
namespace Go.Proofs.Yoeckw
open Go.RowKit

def dec (l : List UInt8) : Nat := l.foldl (fun a c => 10 * a + (c.toNat - 48)) 0
theorem dec_snoc (l : List UInt8) (c : UInt8) : dec (l ++ [c]) = 10 * dec l + (c.toNat - 48) := by simp [dec]
theorem digit (n : Nat) : (UInt8.ofNat (48 + ((n % 10 : Nat) : Int)).toNat).toNat - 48 = n % 10 := by
  have h : (48 + ((n % 10 : Nat) : Int)).toNat = 48 + n % 10 := by omega
  rw [h]
  have hlt : n % 10 < 10 := Nat.mod_lt _ (by omega)
  simp
  omega
theorem dec_digs : ∀ f n, n < 10 ^ f → dec ((digs f n).map fun z => UInt8.ofNat z.toNat) = n
  | 0, n, h => by simp at h; subst h; rfl
  | f + 1, n, h => by
    rw [digs]
    split
    · rename_i h0; subst h0; rfl
    · rw [List.map_append, List.map_singleton, dec_snoc, digit, dec_digs f (n / 10) (by rw [Nat.pow_succ] at h; omega)]
      omega
theorem dec_itoa (n : Nat) (h : n ≤ 4096) : dec (itoa n).data.toList = n := by
  unfold itoa
  rw [strOfNums_data]
  split
  · rename_i h0; subst h0; rfl
  · exact dec_digs 20 n (by omega)
theorem itoa_inj {i j : Nat} (hi : i ≤ 4096) (hj : j ≤ 4096) (h : itoa i = itoa j) : i = j := by
  rw [← dec_itoa i hi, ← dec_itoa j hj, h]

def nmG (i : Nat) : ByteArray := (⟨#[71]⟩ : ByteArray) ++ itoa i
def nmL (i : Nat) : ByteArray := (⟨#[76]⟩ : ByteArray) ++ itoa i
def sNone : ByteArray := ⟨#[110, 111, 110, 101]⟩

theorem app_list (c : UInt8) (s : ByteArray) : ((⟨#[c]⟩ : ByteArray) ++ s).data.toList = c :: s.data.toList := by simp
theorem app_inj {c : UInt8} {s t : ByteArray} (h : (⟨#[c]⟩ : ByteArray) ++ s = (⟨#[c]⟩ : ByteArray) ++ t) : s = t := by
  have := congrArg (fun b : ByteArray => b.data.toList) h
  simp only [app_list, List.cons.injEq, true_and] at this
  exact ByteArray.ext (Array.ext' this)
theorem nmG_inj {i j : Nat} (hi : i ≤ 4096) (hj : j ≤ 4096) (h : nmG i = nmG j) : i = j := itoa_inj hi hj (app_inj h)
theorem nmL_inj {i j : Nat} (hi : i ≤ 4096) (hj : j ≤ 4096) (h : nmL i = nmL j) : i = j := itoa_inj hi hj (app_inj h)
theorem head_ne {a b : ByteArray} (h : a.data.toList.head? ≠ b.data.toList.head?) : a ≠ b := fun e => h (by rw [e])
theorem nmG_ne_nmL (i j : Nat) : nmG i ≠ nmL j := head_ne (by rw [nmG, nmL, app_list, app_list]; simp)
theorem nmL_ne_nmG (i j : Nat) : nmL i ≠ nmG j := fun e => nmG_ne_nmL j i e.symm
theorem none_ne_nmG (i : Nat) : sNone ≠ nmG i := head_ne (by rw [nmG, app_list]; simp [sNone])
theorem none_ne_nmL (i : Nat) : sNone ≠ nmL i := head_ne (by rw [nmL, app_list]; simp [sNone])

/-- What a table holds: k symbols under the names nm 0, nm 1, .. -/
structure Names (w : World) (es : Array MapEntry) (nm : Nat → ByteArray) (sc : ByteArray) (k : Nat) (sy : Nat → Nat) : Prop where
  hit : ∀ i, i < k → look (nm i) es.toList = some (.pointer (some ⟨sy i, 0, none⟩))
  miss : ∀ s, (∀ i, i < k → s ≠ nm i) → look s es.toList = none
  sym : ∀ i, i < k → w.heap[sy i]? = some (symObj (nm i) sc i)

theorem Names.empty (w : World) (nm : Nat → ByteArray) (sc : ByteArray) (sy : Nat → Nat) : Names w #[] nm sc 0 sy := ⟨fun i h => by omega, fun _ _ => rfl, fun i h => by omega⟩

theorem Names.keep {w w' : World} {es : Array MapEntry} {nm : Nat → ByteArray} {sc : ByteArray} {k : Nat} {sy : Nat → Nat} (h : Names w es nm sc k sy) (hk : ∀ (j : Nat) (c : Array Value), w.heap[j]? = some (Obj.cells c 33 (0, 0)) → w'.heap[j]? = w.heap[j]?) : Names w' es nm sc k sy :=
  ⟨h.hit, h.miss, fun i hi => (hk _ _ (h.sym i hi)).trans (h.sym i hi)⟩

theorem Names.add {w : World} {es es' : Array MapEntry} {nm : Nat → ByteArray} {sc : ByteArray} {k : Nat} {sy : Nat → Nat} (h : Names w es nm sc k sy) (hinj : ∀ i, i < k → nm i ≠ nm k) {s : Nat}
    (hl : ∀ s', look s' es'.toList = if s' = nm k then some (.pointer (some ⟨s, 0, none⟩)) else look s' es.toList) (hs : w.heap[s]? = some (symObj (nm k) sc k)) :
    Names w es' nm sc (k + 1) (fun i => if i = k then s else sy i) := by
  refine ⟨fun i hi => ?_, fun t ht => ?_, fun i hi => ?_⟩
  · rw [hl]
    by_cases e : i = k
    · subst e; simp
    · rw [if_neg (hinj i (by omega)), if_neg e, h.hit i (by omega)]
  · rw [hl, if_neg (ht k (by omega)), h.miss t fun i hi => ht i (by omega)]
  · by_cases e : i = k
    · subst e; simpa using hs
    · rw [if_neg e]; exact h.sym i (by omega)

end Go.Proofs.Yoeckw
