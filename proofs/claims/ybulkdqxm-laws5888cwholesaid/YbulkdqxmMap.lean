import Derived.Test.YbulkdqxmRows
import Derived.WalkKit
import Derived.WalkLawsBesides
import Derived.Below
import Derived.Maps.OwnSet
import Derived.Maps.OwnOps
import Derived.Laws.StructEq
namespace Go.Proofs.Ybulkdqxm
open Go.RowKit Go.MapKept
open Go.ChangeMaps (setBlock heap_setBlock_same)
set_option linter.unusedVariables false

theorem bytes_inj {a b : ByteArray} (h : a.toList = b.toList) : a = b := by
  rw [ByteArray.toList_eq, ByteArray.toList_eq] at h
  cases a; cases b; congr 1; exact Array.toList_inj.1 h
theorem beqB {a b : ByteArray} : (a == b) = true ↔ a = b := by
  rw [beq_toListBytes]
  exact ⟨fun h => bytes_inj (by simpa using h), fun h => by subst h; simp⟩
theorem lawfulB : LawfulBEq ByteArray := { eq_of_beq := fun h => beqB.1 h, rfl := beqB.2 rfl }
theorem hasB {ks : List ByteArray} {k : ByteArray} : ks.contains k = true ↔ k ∈ ks := by
  haveI := lawfulB
  simp
theorem hasF {ks : List ByteArray} {k : ByteArray} : ks.contains k = false ↔ k ∉ ks := by
  haveI := lawfulB
  simp

theorem grown_setBlock (w : World) (b : Nat) (o : Obj) : w.grownBy (setBlock w b o) (some b) :=
  ⟨rfl, rfl, rfl, by simp [setBlock], fun k hk hne => by
    have : b ≠ k := fun e => hne (by rw [e])
    simp [setBlock, this]⟩

/-- Block b is a map: its entries, in their order, are the keys ks with the values that 'val' gives. -/
def MapIs (w : World) (b : Nat) (ks : List ByteArray) (val : ByteArray → Value) : Prop :=
  ∃ es clock, w.heap[b]? = some (.map es clock) ∧ Stamped es clock ∧ es.toList.map (fun e => (e.key, e.val)) = ks.map (fun k => (Value.string k, val k))
theorem MapIs.of_block {w w' : World} {b : Nat} {ks : List ByteArray} {val : ByteArray → Value} (h : MapIs w b ks val) (hb : w'.heap[b]? = w.heap[b]?) : MapIs w' b ks val := by
  obtain ⟨es, cl, h1, h2, h3⟩ := h
  exact ⟨es, cl, hb.trans h1, h2, h3⟩
theorem MapIs.lt {w : World} {b : Nat} {ks : List ByteArray} {val : ByteArray → Value} (h : MapIs w b ks val) : b < w.heap.size := by
  obtain ⟨es, cl, h1, h2, h3⟩ := h
  exact (Array.getElem?_eq_some_iff.1 h1).1
theorem MapIs.below {W w' : World} {b : Nat} {ks : List ByteArray} {val : ByteArray → Value} (h : MapIs W b ks val) (hb : Below W.heap.size W w') : MapIs w' b ks val := h.of_block (hb.block b h.lt)
theorem MapIs.grown {W w' : World} {row : Option Nat} {b : Nat} {ks : List ByteArray} {val : ByteArray → Value} (h : MapIs W b ks val) (hb : W.grownBy w' row) (hne : some b ≠ row) : MapIs w' b ks val := h.of_block (hb.block b h.lt hne)
theorem keys_of {es : List MapEntry} {ks : List ByteArray} {val : ByteArray → Value} (h : es.map (fun e => (e.key, e.val)) = ks.map (fun k => (Value.string k, val k))) : es.map (·.key) = ks.map Value.string := by
  have := congrArg (List.map Prod.fst) h
  simpa [Function.comp_def] using this
theorem MapIs.nodup {w : World} {b : Nat} {ks : List ByteArray} {val : ByteArray → Value} (h : MapIs w b ks val) : ks.Nodup := by
  obtain ⟨es, cl, h1, h2, h3⟩ := h
  have hp := ((stamped_iff es cl).1 h2).2.2
  have hk := keys_of h3
  have : (es.toList.map (·.key)).Nodup := List.pairwise_map.2 (hp.imp fun h => h)
  rw [hk] at this
  exact (List.pairwise_map.1 this).imp fun hne e => hne (by rw [e])
theorem findNow_is (k : ByteArray) (val : ByteArray → Value) : ∀ (l : List MapEntry) (ks : List ByteArray) (i : Nat), l.map (fun e => (e.key, e.val)) = ks.map (fun k => (Value.string k, val k)) →
    Instr.findNow .string (.string k) l i = some (if ks.contains k then some (i + ks.idxOf k, val k) else none) := by
  haveI := lawfulB
  intro l
  induction l with
  | nil =>
    intro ks i h
    cases ks with
    | nil => rfl
    | cons a t => simp at h
  | cons e t ih =>
    intro ks i h
    cases ks with
    | nil => simp at h
    | cons a u =>
      simp only [List.map_cons, List.cons.injEq, Prod.mk.injEq] at h
      obtain ⟨⟨h1, h2⟩, h3⟩ := h
      by_cases hk : k = a
      · subst hk
        simp [Instr.findNow, Instr.sameNow, h1, h2]
      · have hk' : ¬ a = k := fun e => hk e.symm
        simp only [Instr.findNow, Instr.sameNow, h1]
        have hb : (k == a) = false := by simpa using hk
        simp only [hb]
        rw [ih u (i + 1) h3]
        have hb' : (a == k) = false := by simpa using hk'
        simp only [List.contains_cons, hb, Bool.false_or, List.idxOf_cons, hb']
        cases hm : u.contains k with
        | true => simp only [if_true, Option.some.injEq, Prod.mk.injEq, and_true, cond_false]; omega
        | false => simp only [Bool.false_eq_true, if_false]

section
variable {P : Program} {w : World} {b : Nat} {ks : List ByteArray} {val : ByteArray → Value}

theorem run_check_string {K : TypeId} (hK : P.underlying K = some .string) (e : Bool) (k : ByteArray) (w : World) : (Instr.checkKey e 10000 K (.string k)).run P w = .ok () w := by
  exact MapKept.run_checkKey hK (d := .string) (k := .string k) trivial e 9999
theorem run_find_is {K : TypeId} (hK : P.underlying K = some .string) {es : List MapEntry} (h : es.map (fun e => (e.key, e.val)) = ks.map (fun k => (Value.string k, val k))) (k : ByteArray) (w : World) :
    (Instr.findKey K (.string k) es).run P w = .ok (if ks.contains k then some (ks.idxOf k, val k) else none) w := by
  simp [Instr.findKey, run_underlying hK, findNow_is k val es ks 0 h]

def addK (ks : List ByteArray) (k : ByteArray) : List ByteArray := if ks.contains k then ks else ks ++ [k]
def addV (val : ByteArray → Value) (k : ByteArray) (v : Value) : ByteArray → Value := fun x => if x == k then v else val x

theorem run_lookup_is {t K E : TypeId} {z : Value} (ht : P.underlying t = some (.map K E)) (hK : P.underlying K = some .string) (hz : (zeroValue E).run P w = .ok z w) (h : MapIs w b ks val) (k : ByteArray) :
    (Instr.lookup t (.map (some b)) (.string k) true).run P w = .ok (.tuple #[if ks.contains k then val k else z, .bool (ks.contains k)]) w := by
  obtain ⟨es, cl, h1, h2, h3⟩ := h
  by_cases hk : ks.contains k = true
  · simp [Instr.lookup, run_underlying ht, MapKept.run_getObj_map h1, run_check_string hK, run_find_is hK h3, hk, Result.andThen]
  · simp [Instr.lookup, run_underlying ht, MapKept.run_getObj_map h1, run_check_string hK, run_find_is hK h3, hk, hz, Result.andThen]
theorem run_len_is {t K E : TypeId} (ht : P.underlying t = some (.map K E)) (h : MapIs w b ks val) (ty : TypeId) : (Builtin.len_ #[t] ty #[.map (some b)]).run P w = .ok (.int .i64 ks.length) w := by
  obtain ⟨es, cl, h1, h2, h3⟩ := h
  have hl : es.size = ks.length := by have := congrArg List.length h3; simpa using this
  simp [Builtin.len_, run_underlying ht, MapKept.run_getObj_map h1, hl, Result.andThen, goInt]

theorem modify_pairs {es : Array MapEntry} {ks : List ByteArray} {val : ByteArray → Value} (h : es.toList.map (fun e => (e.key, e.val)) = ks.map (fun k => (Value.string k, val k))) (hn : ks.Nodup) (k : ByteArray) (v : Value) (hk : k ∈ ks) :
    (es.modify (ks.idxOf k) fun e => { e with key := .string k, val := v }).toList.map (fun e => (e.key, e.val)) = ks.map (fun x => (Value.string x, addV val k v x)) := by
  haveI := lawfulB
  have hi : ks.idxOf k < ks.length := List.idxOf_lt_length_of_mem hk
  have hl : es.toList.length = ks.length := by have := congrArg List.length h; simpa using this
  apply List.ext_getElem?
  intro j
  have hj := congrArg (fun l => l[j]?) h
  simp only [List.getElem?_map] at hj
  rw [Array.toList_modify]
  simp only [List.getElem?_map, List.getElem?_modify]
  by_cases hji : ks.idxOf k = j
  · subst hji
    rw [List.getElem?_eq_getElem (by omega)] at hj ⊢
    rw [List.getElem?_eq_getElem hi] at hj ⊢
    simp [addV, List.getElem_idxOf]
  · by_cases hjl : j < ks.length
    · rw [List.getElem?_eq_getElem (by omega)] at hj ⊢
      rw [List.getElem?_eq_getElem hjl] at hj ⊢
      have hne : (ks[j] == k) = false := by
        rw [beq_eq_false_iff_ne]
        intro e
        apply hji
        rw [← e]
        exact hn.idxOf_getElem j hjl
      simp only [Option.map_some, Option.some.injEq, hji, if_false, addV, hne] at hj ⊢
      simpa using hj
    · rw [List.getElem?_eq_none (by omega)] at hj ⊢
      rw [List.getElem?_eq_none (by omega)]
      simp

theorem run_update_isz {t K E : TypeId} (ht : P.underlying t = some (.map K E)) (hK : P.underlying K = some .string) (h : MapIs w b ks val) (k : ByteArray) (v : Value) :
    ∃ w', (Instr.mapUpdate t (.map (some b)) (.string k) v).run P w = .ok () w' ∧ MapIs w' b (addK ks k) (addV val k v) ∧ w.grownBy w' (some b) ∧ w'.heap.size = w.heap.size := by
  haveI := lawfulB
  have hn := h.nodup
  have hlt := h.lt
  obtain ⟨es, cl, h1, h2, h3⟩ := h
  have hl : es.size = ks.length := by have := congrArg List.length h3; simpa using this
  by_cases hk : ks.contains k = true
  · have hm : k ∈ ks := hasB.1 hk
    have hi : ks.idxOf k < es.size := by rw [hl]; exact List.idxOf_lt_length_of_mem hm
    have hke : (es[ks.idxOf k]'hi).key = .string k := by
      have := congrArg (fun l => l[ks.idxOf k]?) (keys_of h3)
      simp only [List.getElem?_map] at this
      rw [List.getElem?_eq_getElem (by simpa using hi), List.getElem?_eq_getElem (by omega)] at this
      simpa [List.getElem_idxOf] using this
    refine ⟨setBlock w b (.map (es.modify (ks.idxOf k) fun e => { e with key := .string k, val := v }) cl), ?_, ⟨_, _, heap_setBlock_same h1 _, stamped_modify h2 _ _ (fun e _ => rfl) ?_, ?_⟩, ?_⟩
    · simp [Instr.mapUpdate, run_underlying ht, MapKept.run_getObj_map h1, run_check_string hK, run_find_is hK h3, hm, hi, hke, MapKept.run_keyThatStays (d := .string) (k := .string k) trivial, MapKept.run_setObj_map _ h1, Result.andThen, setBlock]
    · intro e he hei
      rw [Array.getElem?_eq_getElem hi] at hei
      cases hei
      exact hke.symm
    · rw [addK, if_pos hk]; exact modify_pairs h3 hn k v hm
    · exact ⟨grown_setBlock _ _ _, by simp [setBlock]⟩
  · have hm : k ∉ ks := fun h => hk (hasB.2 h)
    have hkf : ks.contains k = false := by simpa using hk
    refine ⟨setBlock w b (.map (es.push ⟨.string k, v, cl⟩) (cl + 1)), ?_, ⟨_, _, heap_setBlock_same h1 _, stamped_push h2 ?_, ?_⟩, ?_⟩
    · simp [Instr.mapUpdate, run_underlying ht, MapKept.run_getObj_map h1, run_check_string hK, run_find_is hK h3, hm, MapKept.run_setObj_map _ h1, Result.andThen, setBlock]
    · intro x hx e
      have : x.key ∈ es.toList.map (·.key) := List.mem_map.2 ⟨x, hx, rfl⟩
      rw [keys_of h3, e] at this
      obtain ⟨y, hy, he⟩ := List.mem_map.1 this
      cases he
      exact hm hy
    · rw [addK, if_neg (by simpa using hm)]
      simp only [Array.toList_push, List.map_append, h3, List.map_cons, List.map_nil]
      congr 1
      · apply List.map_congr_left
        intro x hx
        have : (x == k) = false := by rw [beq_eq_false_iff_ne]; intro e; exact hm (e ▸ hx)
        simp [addV, this]
      · simp [addV]
    · exact ⟨grown_setBlock _ _ _, by simp [setBlock]⟩
theorem run_update_is {t K E : TypeId} (ht : P.underlying t = some (.map K E)) (hK : P.underlying K = some .string) (h : MapIs w b ks val) (k : ByteArray) (v : Value) :
    ∃ w', (Instr.mapUpdate t (.map (some b)) (.string k) v).run P w = .ok () w' ∧ MapIs w' b (addK ks k) (addV val k v) ∧ w.grownBy w' (some b) := by
  obtain ⟨w', h1, h2, h3, _⟩ := run_update_isz (P := P) ht hK h k v
  exact ⟨w', h1, h2, h3⟩

def delK (ks : List ByteArray) (k : ByteArray) : List ByteArray := ks.filter (fun x => !(x == k))
theorem erase_pairs {es : Array MapEntry} {ks : List ByteArray} {val : ByteArray → Value} (h : es.toList.map (fun e => (e.key, e.val)) = ks.map (fun k => (Value.string k, val k))) (hn : ks.Nodup) (k : ByteArray) (hk : k ∈ ks) :
    (es.eraseIdxIfInBounds (ks.idxOf k)).toList.map (fun e => (e.key, e.val)) = (delK ks k).map (fun x => (Value.string x, val x)) := by
  haveI := lawfulB
  have hi : ks.idxOf k < ks.length := List.idxOf_lt_length_of_mem hk
  have hl : es.size = ks.length := by have := congrArg List.length h; simpa using this
  have e1 : (es.eraseIdxIfInBounds (ks.idxOf k)).toList = es.toList.eraseIdx (ks.idxOf k) := by
    unfold Array.eraseIdxIfInBounds
    rw [dif_pos (by omega)]
    simp
  have e2 : delK ks k = ks.eraseIdx (ks.idxOf k) := by
    rw [delK, ← List.erase_eq_eraseIdx_of_idxOf rfl, hn.erase_eq_filter]
    congr 1
  have hm : ∀ {α β : Type} (f : α → β) (l : List α) (i : Nat), (l.eraseIdx i).map f = (l.map f).eraseIdx i := by
    intro α β f l
    induction l with
    | nil => intro i; rfl
    | cons x t ih => intro i; cases i with
      | zero => rfl
      | succ n => simp [ih]
  rw [e1, e2, hm, h, hm]
theorem run_delete_is {t K E : TypeId} (ht : P.underlying t = some (.map K E)) (hK : P.underlying K = some .string) (h : MapIs w b ks val) (k : ByteArray) (ty : TypeId) :
    ∃ w', (Builtin.delete_ #[t, K] ty #[.map (some b), .string k]).run P w = .ok (.tuple #[]) w' ∧ MapIs w' b (delK ks k) val ∧ w.grownBy w' (some b) := by
  haveI := lawfulB
  have hn := h.nodup
  obtain ⟨es, cl, h1, h2, h3⟩ := h
  by_cases hk : ks.contains k = true
  · have hm : k ∈ ks := hasB.1 hk
    refine ⟨setBlock w b (.map (es.eraseIdxIfInBounds (ks.idxOf k)) cl), ?_, ⟨_, _, heap_setBlock_same h1 _, stamped_erase h2 _, erase_pairs h3 hn k hm⟩, grown_setBlock _ _ _⟩
    simp [Builtin.delete_, run_underlying ht, MapKept.run_getObj_map h1, run_check_string hK, run_find_is hK h3, hm, MapKept.run_setObj_map _ h1, Result.andThen, setBlock]
  · have hm : k ∉ ks := fun h => hk (hasB.2 h)
    have e2 : delK ks k = ks := by
      rw [delK, List.filter_eq_self]
      intro x hx
      have : (x == k) = false := by rw [beq_eq_false_iff_ne]; intro e; exact hm (e ▸ hx)
      simp [this]
    refine ⟨setBlock w b (.map es cl), ?_, ⟨_, _, heap_setBlock_same h1 _, h2, by rw [e2]; exact h3⟩, grown_setBlock _ _ _⟩
    simp [Builtin.delete_, run_underlying ht, MapKept.run_getObj_map h1, run_check_string hK, run_find_is hK h3, hm, MapKept.run_setObj_map _ h1, Result.andThen, setBlock]

/-! at the operation -/
variable {ops : Array Oper} {rest : List Oper} {o : Oper} {a : Act} {Q : Exit → Act → World → Prop}
theorem wpList_update_is (hg : o.guard = none) (m x v : Operand) (t : TypeId) (hop : o.op = Op.mapUpdate t m x v) (K E : TypeId) (ht : P.underlying t = some (.map K E)) (hK : P.underlying K = some .string)
    (b : Nat) (ks : List ByteArray) (val : ByteArray → Value) (hm : a.eval m = .map (some b)) (h : MapIs w b ks val) (k : ByteArray) (u : Value) (hx : a.eval x = .string k) (hv : a.eval v = u)
    (hK' : ∀ w', MapIs w' b (addK ks k) (addV val k u) → w.grownBy w' (some b) → w'.heap.size = w.heap.size → wpList P ops Q rest (a.put o.dst undef) w') : wpList P ops Q (o :: rest) a w := by
  refine wpList_plain hg fun K' hK2 => ?_
  obtain ⟨w', hrun, r1, r2, r3⟩ := run_update_isz (P := P) ht hK h k u
  unfold Oper.wp
  simp [execOp, hop, hm, hx, hv, hrun, Result.andThen]
  exact hK2 _ _ (hK' w' r1 r2 r3)
theorem wpList_lookup_is (hg : o.guard = none) (m x : Operand) (t : TypeId) (hop : o.op = Op.lookup t m x true) (K E : TypeId) (ht : P.underlying t = some (.map K E)) (hK : P.underlying K = some .string) {z : Value} (hz : (zeroValue E).run P w = .ok z w)
    (b : Nat) (ks : List ByteArray) (val : ByteArray → Value) (hm : a.eval m = .map (some b)) (h : MapIs w b ks val) (k : ByteArray) (hx : a.eval x = .string k) (v : Value) (r : Bool) (hv : (if ks.contains k then val k else z) = v) (hr : ks.contains k = r)
    (hK' : wpList P ops Q rest (a.put o.dst (.tuple #[v, .bool r])) w) : wpList P ops Q (o :: rest) a w := by
  refine wpList_plain hg fun K' hK2 => ?_
  have hrun := run_lookup_is (P := P) ht hK hz h k
  rw [hv, hr] at hrun
  unfold Oper.wp
  simp [execOp, hop, hm, hx, hrun, Result.andThen]
  exact hK2 _ _ hK'
theorem wpList_delete_is (hg : o.guard = none) (m x : Operand) (t K : TypeId) (hop : o.op = Op.call { callee := Callee.builtin Builtin.delete, args := #[m, x], argTypes := #[t, K] }) (E : TypeId) (ht : P.underlying t = some (.map K E)) (hK : P.underlying K = some .string)
    (b : Nat) (ks : List ByteArray) (val : ByteArray → Value) (hm : a.eval m = .map (some b)) (h : MapIs w b ks val) (k : ByteArray) (hx : a.eval x = .string k)
    (hK' : ∀ w', MapIs w' b (delK ks k) val → w.grownBy w' (some b) → wpList P ops Q rest (a.put o.dst (.tuple #[])) w') : wpList P ops Q (o :: rest) a w := by
  refine wpList_plain hg fun K' hK2 => ?_
  obtain ⟨w', hrun, r1, r2⟩ := run_delete_is (P := P) ht hK h k o.type
  unfold Oper.wp
  simp [execOp, hop, resolve, invoke, builtin, hm, hx, hrun, Result.andThen]
  exact hK2 _ _ (hK' w' r1 r2)
theorem wpList_len_is (hg : o.guard = none) (m : Operand) (t : TypeId) (hop : o.op = Op.call { callee := Callee.builtin Builtin.len, args := #[m], argTypes := #[t] }) (K E : TypeId) (ht : P.underlying t = some (.map K E))
    (b : Nat) (ks : List ByteArray) (val : ByteArray → Value) (hm : a.eval m = .map (some b)) (h : MapIs w b ks val)
    (hK' : wpList P ops Q rest (a.put o.dst (.int .i64 ks.length)) w) : wpList P ops Q (o :: rest) a w := by
  refine wpList_plain hg fun K' hK2 => ?_
  unfold Oper.wp
  simp [execOp, hop, resolve, invoke, builtin, hm, run_len_is ht h o.type, Result.andThen]
  exact hK2 _ _ hK'
theorem mapIs_made (w : World) (val : ByteArray → Value) : MapIs (w.alloc (.map #[] 0)) w.heap.size [] val := ⟨#[], 0, heap_alloc_new w _, stamped_empty 0, rfl⟩
end
end Go.Proofs.Ybulkdqxm
