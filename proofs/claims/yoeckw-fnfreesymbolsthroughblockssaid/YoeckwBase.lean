/-
  THE WORDS of this seat's proofs: what a symbol table is in memory, a chain of tables from one of them up to the root, and what a call leaves alone ('Kept').
-/
import Derived.Test.YoeckwProg
import Derived.WalkKit
import Derived.WalkSpells
import Derived.WalkLawsBesides
import Derived.BigQuiet
import Derived.Deep.QuietTactic
import Derived.Deep.RegionWith
namespace Go.Proofs.Yoeckw
open Go.RowKit

theorem hide {p : Prop} (h : p) : Hid p := h

/-! ### What a call leaves alone -/
/-- All old blocks but those in S read as before; no block has gone; the streams stand. -/
structure Kept (S : Nat → Prop) (w w' : World) : Prop where
  os : w'.os = w.os
  tape : w'.tape = w.tape
  output : w'.output = w.output
  size : w.heap.size ≤ w'.heap.size
  block : ∀ k, k < w.heap.size → ¬ S k → w'.heap[k]? = w.heap[k]?

theorem Kept.refl (S : Nat → Prop) (w : World) : Kept S w w := ⟨rfl, rfl, rfl, Nat.le_refl _, fun _ _ _ => rfl⟩
theorem Kept.trans {S : Nat → Prop} {a b c : World} (h : Kept S a b) (k : Kept S b c) : Kept S a c :=
  ⟨k.os.trans h.os, k.tape.trans h.tape, k.output.trans h.output, Nat.le_trans h.size k.size, fun i hi hn => (k.block i (Nat.lt_of_lt_of_le hi h.size) hn).trans (h.block i hi hn)⟩
theorem Kept.mono {S S' : Nat → Prop} {a b : World} (h : Kept S a b) (hs : ∀ k, k < a.heap.size → S k → S' k) : Kept S' a b :=
  ⟨h.os, h.tape, h.output, h.size, fun k hk hn => h.block k hk (fun x => hn (hs k hk x))⟩
/-- Two steps, the second of which may touch new blocks besides. -/
theorem Kept.then {S S' : Nat → Prop} {a b c : World} (h : Kept S a b) (k : Kept S' b c) (hs : ∀ i, i < a.heap.size → S' i → S i) : Kept S a c :=
  ⟨k.os.trans h.os, k.tape.trans h.tape, k.output.trans h.output, Nat.le_trans h.size k.size,
    fun i hi hn => (k.block i (Nat.lt_of_lt_of_le hi h.size) (fun x => hn (hs i hi x))).trans (h.block i hi hn)⟩
theorem Kept.drew {S : Nat → Prop} {a b : World} (h : Kept S a b) : Kept S a b.drew := ⟨h.os, h.tape, h.output, h.size, h.block⟩
theorem Kept.drewN {S : Nat → Prop} {a b : World} (h : Kept S a b) (n : Nat) : Kept S a (b.drewN n) := ⟨h.os, h.tape, h.output, h.size, h.block⟩
theorem Kept.alloc {S : Nat → Prop} {a b : World} (h : Kept S a b) (o : Obj) : Kept S a (b.alloc o) :=
  ⟨h.os, h.tape, h.output, by have := h.size; simp; omega, fun k hk hn => (Below.heap_alloc b o k (Nat.lt_of_lt_of_le hk h.size)).trans (h.block k hk hn)⟩
theorem Kept.setCell {S : Nat → Prop} {a b : World} (h : Kept S a b) (p : Addr) (v : Value) (hp : p.block < a.heap.size → S p.block) : Kept S a (b.setCell p v) :=
  ⟨h.os, h.tape, h.output, by have := h.size; simp; omega, fun k hk hn => (Below.heap_setCell b p v k (fun e => hn (e ▸ hp (e ▸ hk)))).trans (h.block k hk hn)⟩
theorem Kept.below {S : Nat → Prop} {a b : World} {B : Nat} (h : Kept S a b) (hB : B ≤ a.heap.size) (hs : ∀ k, k < B → ¬ S k) : Below B a b :=
  ⟨h.os, h.tape, h.output, h.size, fun k hk => h.block k (by omega) (hs k hk)⟩
theorem Kept.of_below {a b : World} (h : Below a.heap.size a b) (S : Nat → Prop) : Kept S a b := ⟨h.os, h.tape, h.output, h.size, fun k hk _ => h.block k hk⟩
theorem Kept.at {S : Nat → Prop} {a b : World} (h : Kept S a b) {k : Nat} {o : Obj} (hk : a.heap[k]? = some o) (hn : ¬ S k) : b.heap[k]? = some o :=
  (h.block k (Array.getElem?_eq_some_iff.1 hk).1 hn).trans hk

/-! ### A block's cells -/
theorem lt_of_at {w : World} {k : Nat} {o : Obj} (h : w.heap[k]? = some o) : k < w.heap.size := (Array.getElem?_eq_some_iff.1 h).1
theorem cell_at {w : World} {k : Nat} {c : Array Value} {t : TypeId} {fr : Nat × Nat} (h : w.heap[k]? = some (.cells c t fr)) (i : Nat) : w.cell? ⟨k, i, none⟩ = c[i]? := by
  simp [World.cell?, h]
theorem unfrozen_at {w : World} {k : Nat} {c : Array Value} {t : TypeId} (h : w.heap[k]? = some (.cells c t)) (i : Nat) : w.frozen? ⟨k, i, none⟩ = false := by
  simp [World.frozen?, h]
theorem at_setCell {w : World} {k : Nat} {c : Array Value} {t : TypeId} {fr : Nat × Nat} (h : w.heap[k]? = some (.cells c t fr)) (i : Nat) (v : Value) :
    (w.setCell ⟨k, i, none⟩ v).heap[k]? = some (.cells (c.setIfInBounds i v) t fr) := by
  simp [World.setCell, Array.getElem?_modify, h]
theorem at_setCell_other {w : World} {k j i : Nat} {v : Value} {o : Obj} (h : w.heap[k]? = some o) (hne : k ≠ j) : (w.setCell ⟨j, i, none⟩ v).heap[k]? = some o :=
  (Below.heap_setCell w ⟨j, i, none⟩ v k hne).trans h
theorem at_alloc {w : World} {k : Nat} {o : Obj} (h : w.heap[k]? = some o) (o' : Obj) : (w.alloc o').heap[k]? = some o :=
  (Below.heap_alloc w o' k (lt_of_at h)).trans h
theorem at_new (w : World) (o : Obj) : (w.alloc o).heap[w.heap.size]? = some o := heap_alloc_new w o

/-! ### A map's block -/
/-- The world with another object in a block that is there. -/
def putObj (w : World) (r : Nat) (o : Obj) : World := { w with heap := w.heap.setIfInBounds r o }
theorem putObj_size (w : World) (r : Nat) (o : Obj) : (putObj w r o).heap.size = w.heap.size := by simp [putObj]
theorem at_putObj {w : World} {r : Nat} {o o' : Obj} (h : w.heap[r]? = some o') : (putObj w r o).heap[r]? = some o := by
  simp only [putObj, Array.getElem?_setIfInBounds, if_pos (lt_of_at h), if_true]
theorem at_putObj_other {w : World} {r k : Nat} {o o' : Obj} (h : w.heap[k]? = some o') (hne : k ≠ r) : (putObj w r o).heap[k]? = some o' := by
  simp only [putObj, Array.getElem?_setIfInBounds, if_neg (Ne.symm hne)]; exact h
theorem cell?_putObj {w : World} {r : Nat} {o : Obj} {k i : Nat} (hne : k ≠ r) : (putObj w r o).cell? ⟨k, i, none⟩ = w.cell? ⟨k, i, none⟩ := by
  refine World.cell?_of_block ?_
  simp only [putObj, Array.getElem?_setIfInBounds, if_neg (Ne.symm hne)]
theorem frozen?_putObj {w : World} {r : Nat} {o : Obj} {k i : Nat} (hne : k ≠ r) : (putObj w r o).frozen? ⟨k, i, none⟩ = w.frozen? ⟨k, i, none⟩ := by
  refine World.frozen?_of_block ?_
  simp only [putObj, Array.getElem?_setIfInBounds, if_neg (Ne.symm hne)]
theorem Kept.putObj {S : Nat → Prop} {a b : World} (h : Kept S a b) (r : Nat) (o : Obj) (hr : r < a.heap.size → S r) : Kept S a (putObj b r o) :=
  ⟨h.os, h.tape, h.output, by rw [putObj_size]; exact h.size, fun k hk hn => by
    have hne : r ≠ k := fun e => hn (e ▸ hr (e ▸ hk))
    simp only [Yoeckw.putObj, Array.getElem?_setIfInBounds, if_neg hne]
    exact h.block k hk hn⟩

/-- What a map of strings holds at s. -/
def isKey (s : ByteArray) : Value → Bool
  | .string k => s == k
  | _ => false
def look (s : ByteArray) : List MapEntry → Option Value
  | [] => none
  | e :: es => if isKey s e.key then some e.val else look s es

/-! ### A table -/
/-- A table: its map lies in block b, its struct in block b + 1. -/
structure Tb where
  b : Nat
  blk : Bool
  es : Array MapEntry
  ck : Nat
  nd : Nat
  md : Nat
  fs : Value

def Tb.obj (t : Tb) (par : Option Addr) : Obj :=
  .cells #[.pointer par, .bool t.blk, .map (some t.b), .int .i64 t.nd, .int .i64 t.md, t.fs, .slice none 0 0] 50

/-- Every key is a string. -/
def Keys (es : Array MapEntry) : Prop := ∀ e ∈ es.toList, ∃ s, e.key = .string s

structure Tab (w : World) (t : Tb) (par : Option Addr) : Prop where
  cells : w.heap[t.b + 1]? = some (t.obj par)
  map : w.heap[t.b]? = some (.map t.es t.ck)
  keys : Keys t.es
  plain : t.fs.oneCell' = true

def up : List Tb → Option Addr
  | [] => none
  | t :: _ => some ⟨t.b + 1, 0, none⟩

/-- The chain from a table up to the root. -/
def Chain (w : World) : List Tb → Prop
  | [] => True
  | t :: r => Tab w t (up r) ∧ (r = [] → t.blk = false) ∧ (∀ p ∈ r, p.b + 2 ≤ t.b) ∧ Chain w r

section
variable {w : World} {t : Tb} {par : Option Addr}
theorem Tab.c0 (h : Tab w t par) : w.cell? ⟨t.b + 1, 0, none⟩ = some (.pointer par) := by rw [cell_at h.cells]; rfl
theorem Tab.c1 (h : Tab w t par) : w.cell? ⟨t.b + 1, 1, none⟩ = some (.bool t.blk) := by rw [cell_at h.cells]; rfl
theorem Tab.c2 (h : Tab w t par) : w.cell? ⟨t.b + 1, 2, none⟩ = some (.map (some t.b)) := by rw [cell_at h.cells]; rfl
theorem Tab.c3 (h : Tab w t par) : w.cell? ⟨t.b + 1, 3, none⟩ = some (.int .i64 t.nd) := by rw [cell_at h.cells]; rfl
theorem Tab.c4 (h : Tab w t par) : w.cell? ⟨t.b + 1, 4, none⟩ = some (.int .i64 t.md) := by rw [cell_at h.cells]; rfl
theorem Tab.c5 (h : Tab w t par) : w.cell? ⟨t.b + 1, 5, none⟩ = some t.fs := by rw [cell_at h.cells]; rfl
theorem Tab.fz (h : Tab w t par) (i : Nat) : w.frozen? ⟨t.b + 1, i, none⟩ = false := unfrozen_at h.cells i
theorem Tab.lt (h : Tab w t par) : t.b + 1 < w.heap.size := lt_of_at h.cells

/-- A table stays while its two blocks do. -/
theorem Tab.carry {w' : World} (h : Tab w t par) (h0 : w'.heap[t.b]? = w.heap[t.b]?) (h1 : w'.heap[t.b + 1]? = w.heap[t.b + 1]?) : Tab w' t par :=
  ⟨h1.trans h.cells, h0.trans h.map, h.keys, h.plain⟩
theorem Tab.kept {w' : World} {S : Nat → Prop} (h : Tab w t par) (k : Kept S w w') (h0 : ¬ S t.b) (h1 : ¬ S (t.b + 1)) : Tab w' t par :=
  h.carry (k.block _ (by have := h.lt; omega) h0) (k.block _ h.lt h1)
end

/-- The blocks of a chain's tables. -/
def Foot (L : List Tb) (k : Nat) : Prop := ∃ t ∈ L, k = t.b ∨ k = t.b + 1

theorem Chain.tail {w : World} {t : Tb} {r : List Tb} (h : Chain w (t :: r)) : Chain w r := h.2.2.2
theorem Chain.head {w : World} {t : Tb} {r : List Tb} (h : Chain w (t :: r)) : Tab w t (up r) := h.1
theorem Chain.lt {w : World} : ∀ {L : List Tb}, Chain w L → ∀ t ∈ L, t.b + 1 < w.heap.size
  | _ :: _, h, _, .head _ => h.head.lt
  | _ :: _, h, t, .tail _ hm => Chain.lt h.tail t hm
theorem Chain.foot_lt {w : World} {L : List Tb} (h : Chain w L) {k : Nat} (hk : Foot L k) : k < w.heap.size := by
  obtain ⟨t, ht, e⟩ := hk
  have := h.lt t ht
  omega
theorem Chain.carry {w w' : World} : ∀ {L : List Tb}, Chain w L → (∀ k, Foot L k → w'.heap[k]? = w.heap[k]?) → Chain w' L
  | [], _, _ => trivial
  | t :: _, h, hs => ⟨h.1.carry (hs _ ⟨t, .head _, .inl rfl⟩) (hs _ ⟨t, .head _, .inr rfl⟩), h.2.1, h.2.2.1, Chain.carry h.tail fun k ⟨t', ht', e⟩ => hs k ⟨t', .tail _ ht', e⟩⟩
theorem Chain.kept {w w' : World} {S : Nat → Prop} {L : List Tb} (h : Chain w L) (k : Kept S w w') (hs : ∀ i, Foot L i → ¬ S i) : Chain w' L :=
  h.carry fun i hi => k.block i (h.foot_lt hi) (hs i hi)
theorem Chain.drewN {w : World} {L : List Tb} (h : Chain w L) (n : Nat) : Chain (w.drewN n) L := h.carry fun _ _ => rfl
theorem Chain.suffix {w : World} : ∀ {pre L : List Tb}, Chain w (pre ++ L) → Chain w L
  | [], _, h => h
  | _ :: _, _, h => Chain.suffix h.tail

end Go.Proofs.Yoeckw
