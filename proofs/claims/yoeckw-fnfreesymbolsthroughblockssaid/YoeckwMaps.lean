/-
  A MAP OF STRINGS IN A TABLE: what a look-up and a store do, said of the entries as they lie.
-/
import Derived.Test.YoeckwCalls
import Derived.Maps.Own
import Derived.Maps.OwnOps
namespace Go.Proofs.Yoeckw
open Go.RowKit Go.MapKept

theorem keys_isKey {es : Array MapEntry} (h : Keys es) : ∀ x ∈ es.toList, IsKey .string x.key := by
  intro x hx
  obtain ⟨s, e⟩ := h x hx
  rw [e]
  trivial

theorem isKey_iff (s : ByteArray) (v : Value) : isKey s v = true ↔ v = .string s := by
  cases v <;> simp [isKey]
  rw [bytes_beq]
  exact eq_comm
theorem beq_self (s : ByteArray) : (s == s) = true := (bytes_beq s s).2 rfl
theorem beq_ne {s s' : ByteArray} (h : ¬ s' = s) : (s' == s) = false := by
  cases hb : (s' == s) with
  | false => rfl
  | true => exact absurd ((bytes_beq _ _).1 hb) h

theorem look_none {s : ByteArray} : ∀ {l : List MapEntry}, (∀ x ∈ l, x.key ≠ .string s) → look s l = none
  | [], _ => rfl
  | e :: es, h => by
    have h0 : isKey s e.key = false := by
      cases hk : isKey s e.key with
      | false => rfl
      | true => exact absurd ((isKey_iff _ _).1 hk) (h e (.head _))
    simp only [look, h0]
    exact look_none fun x hx => h x (.tail _ hx)

theorem look_append (s : ByteArray) : ∀ (l m : List MapEntry), look s (l ++ m) = (look s l).or (look s m)
  | [], m => by simp [look]
  | e :: es, m => by
    simp only [List.cons_append, look]
    cases isKey s e.key
    · simpa using look_append s es m
    · simp

theorem findNow_look (s : ByteArray) : ∀ (l : List MapEntry) (i : Nat), (∀ x ∈ l, IsKey .string x.key) →
    ∃ a, Instr.findNow .string (.string s) l i = some a ∧ a.map (·.2) = look s l
  | [], _, _ => ⟨none, rfl, rfl⟩
  | e :: es, i, h => by
    have h0 := h e (.head _)
    match hk : e.key, h0 with
    | .string k, _ =>
      simp only [Instr.findNow, hk, Instr.sameNow, look, isKey]
      cases hs : (s == k)
      · simpa using findNow_look s es (i + 1) fun x hx => h x (.tail _ hx)
      · exact ⟨_, rfl, rfl⟩

theorem run_look {w : World} {m : Nat} {es : Array MapEntry} {ck : Nat} (h : w.heap[m]? = some (.map es ck)) (hk : Keys es) (s : ByteArray) :
    (Instr.lookup 48 (.map (some m)) (.string s) true).run Eckg.prog w = .ok (.tuple #[(look s es.toList).getD (.pointer none), .bool (look s es.toList).isSome]) w := by
  have hkey : IsKey .string (.string s) := trivial
  obtain ⟨a, h1, h2⟩ := findNow_look s es.toList 0 (keys_isKey hk)
  rw [← h2]
  cases a with
  | none => simp [Instr.lookup, run_underlying Eckg.underlying48, MapKept.run_getObj_map h, run_checkKey Eckg.underlying9 hkey, run_findKey Eckg.underlying9 h1, Result.andThen]
  | some p => simp [Instr.lookup, run_underlying Eckg.underlying48, MapKept.run_getObj_map h, run_checkKey Eckg.underlying9 hkey, run_findKey Eckg.underlying9 h1, Result.andThen]

theorem look_modify (s : ByteArray) (v : Value) : ∀ (l : List MapEntry) (j : Nat) (e : MapEntry), l[j]? = some e → e.key = .string s → (∀ i < j, ∀ x, l[i]? = some x → x.key ≠ .string s) →
    ∀ s', look s' (l.modify j fun e => { e with key := .string s, val := v }) = if s' = s then some v else look s' l
  | [], j, e, h, _, _ => by simp at h
  | x :: xs, 0, e, h, hk, _ => by
    intro s'
    simp only [List.getElem?_cons_zero, Option.some.injEq] at h
    subst h
    simp only [List.modify_zero_cons, look, hk, isKey]
    by_cases hs : s' = s
    · subst hs; simp [beq_self]
    · simp [beq_ne hs, hs]
  | x :: xs, j + 1, e, h, hk, hn => by
    intro s'
    have h' : xs[j]? = some e := by simpa using h
    have ih := look_modify s v xs j e h' hk (fun i hi y hy => hn (i + 1) (by omega) y (by simpa using hy)) s'
    have hx : x.key ≠ .string s := hn 0 (by omega) x (by simp)
    simp only [List.modify_succ_cons, look, ih]
    by_cases hs : s' = s
    · subst hs
      have : isKey s' x.key = false := by
        cases hk : isKey s' x.key with
        | false => rfl
        | true => exact absurd ((isKey_iff _ _).1 hk) hx
      simp [this]
    · simp [hs]

theorem findNow_first (s : ByteArray) : ∀ (l : List MapEntry) (i : Nat), (∀ x ∈ l, IsKey .string x.key) → ∀ {j : Nat} {v : Value}, Instr.findNow .string (.string s) l i = some (some (i + j, v)) →
    ∀ i' < j, ∀ x, l[i']? = some x → x.key ≠ .string s
  | [], _, _, _, _, h => by simp [Instr.findNow] at h
  | e :: es, i, hks, j, v, h => by
    have h0 := hks e (.head _)
    match hk : e.key, h0 with
    | .string k, _ =>
      simp only [Instr.findNow, hk, Instr.sameNow] at h
      cases hs : (s == k) with
      | true => rw [hs] at h; simp at h; intro i' hi'; omega
      | false =>
        rw [hs] at h
        match j with
        | 0 => intro i' hi'; omega
        | j + 1 =>
          intro i' hi' x hx
          have h' : Instr.findNow .string (.string s) es (i + 1) = some (some (i + 1 + j, v)) := by rw [show i + 1 + j = i + (j + 1) by omega]; exact h
          match i' with
          | 0 =>
            simp only [List.getElem?_cons_zero, Option.some.injEq] at hx
            subst hx
            rw [hk]
            intro he
            simp only [Value.string.injEq] at he
            subst he
            rw [beq_self] at hs
            cases hs
          | i' + 1 => exact findNow_first s es (i + 1) (fun x hx => hks x (.tail _ hx)) h' i' (by omega) x (by simpa using hx)

theorem run_put {es : Array MapEntry} (ck : Nat) (hk : Keys es) (m : Nat) (s : ByteArray) (v : Value) :
    ∃ es' ck', (∀ w : World, w.heap[m]? = some (.map es ck) → (Instr.mapUpdate 48 (.map (some m)) (.string s) v).run Eckg.prog w = .ok () (putObj w m (.map es' ck'))) ∧ Keys es' ∧
      ∀ s', look s' es'.toList = if s' = s then some v else look s' es.toList := by
  have hkey : IsKey .string (.string s) := trivial
  rcases findNow_spec hkey es.toList 0 (keys_isKey hk) with ⟨h1, h2⟩ | ⟨j, e0, h1, h2, h3⟩
  · refine ⟨es.push ⟨.string s, v, ck⟩, ck + 1, fun w hb => ?_, ?_, fun s' => ?_⟩
    · simp [Instr.mapUpdate, run_underlying Eckg.underlying48, MapKept.run_getObj_map hb, run_checkKey Eckg.underlying9 hkey, run_findKey Eckg.underlying9 h1, MapKept.run_setObj_map _ hb, Result.andThen, putObj]
    · intro x hx
      simp only [Array.toList_push, List.mem_append, List.mem_singleton] at hx
      rcases hx with hx | rfl
      · exact hk x hx
      · exact ⟨s, rfl⟩
    · rw [Array.toList_push, look_append]
      by_cases hs : s' = s
      · subst hs
        rw [look_none h2]
        simp [look, isKey, beq_self]
      · simp [look, isKey, beq_ne hs, hs]
  · have hj : es[j]? = some e0 := by simpa using h2
    refine ⟨es.modify j (fun e' => { e' with key := .string s, val := v }), ck, fun w hb => ?_, ?_, fun s' => ?_⟩
    · simp [Instr.mapUpdate, run_underlying Eckg.underlying48, MapKept.run_getObj_map hb, run_checkKey Eckg.underlying9 hkey, run_findKey Eckg.underlying9 h1, hj, h3, run_keyThatStays hkey, MapKept.run_setObj_map _ hb, Result.andThen, putObj]
    · intro x hx
      rw [Array.toList_modify] at hx
      obtain ⟨i, hi⟩ := List.getElem?_of_mem hx
      rw [List.getElem?_modify] at hi
      cases hl : es.toList[i]? with
      | none => rw [hl] at hi; simp at hi
      | some y =>
        rw [hl] at hi
        obtain ⟨sy, hy⟩ := hk y (List.mem_of_getElem? hl)
        by_cases hij : j = i
        · simp [hij] at hi; exact ⟨s, by rw [← hi]⟩
        · simp [hij] at hi; exact ⟨sy, by rw [← hi, hy]⟩
    · rw [Array.toList_modify]
      exact look_modify s v es.toList j e0 h2 h3 (findNow_first s es.toList 0 (keys_isKey hk) (by simpa using h1)) s'

section
variable (w : World) {ops : Array Oper} {rest : List Oper} {o : Oper} {a : Act} {Q : Exit → Act → World → Prop}

/-- 'm[s] = u' at the operation. -/
theorem wpList_put (hg : o.guard = none) (m x v : Operand) (hop : o.op = Op.mapUpdate 48 m x v) (b : Nat) (s : ByteArray) (u : Value) (hm : a.eval m = .map (some b)) (hx : a.eval x = .string s) (hv : a.eval v = u)
    (es : Array MapEntry) (ck : Nat) (hb : w.heap[b]? = some (.map es ck)) (hk : Keys es)
    (hK : ∀ es' ck', Keys es' → (∀ s', look s' es'.toList = if s' = s then some u else look s' es.toList) → wpList Eckg.prog ops Q rest (a.put o.dst undef) (putObj w b (.map es' ck'))) :
    wpList Eckg.prog ops Q (o :: rest) a w := by
  refine wpList_plain hg fun K' hK' => ?_
  obtain ⟨es', ck', hrun, r1, r2⟩ := run_put ck hk b s u
  unfold Oper.wp
  simp [execOp, hop, hm, hx, hv, hrun w hb, Result.andThen]
  exact hK' _ _ (hK es' ck' r1 r2)

/-- 'u, ok := m[s]' at the operation. -/
theorem wpList_look (hg : o.guard = none) (m x : Operand) (hop : o.op = Op.lookup 48 m x true) (b : Nat) (s : ByteArray) (hm : a.eval m = .map (some b)) (hx : a.eval x = .string s)
    (es : Array MapEntry) (ck : Nat) (hb : w.heap[b]? = some (.map es ck)) (hk : Keys es) (r : Option Value) (hr : look s es.toList = r)
    (hK : wpList Eckg.prog ops Q rest (a.put o.dst (.tuple #[r.getD (.pointer none), .bool r.isSome])) w) :
    wpList Eckg.prog ops Q (o :: rest) a w := by
  refine wpList_plain hg fun K' hK' => ?_
  have hrun := run_look hb hk s
  rw [hr] at hrun
  unfold Oper.wp
  simp [execOp, hop, hm, hx, hrun, Result.andThen]
  exact hK' _ _ hK
end

end Go.Proofs.Yoeckw
