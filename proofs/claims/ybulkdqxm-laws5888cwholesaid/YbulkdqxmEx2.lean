import Derived.Test.YbulkdqxmEx
import Derived.Lib.Builder
namespace Go.Proofs.Ybulkdqxm
open Go.RowKit Go.MapKept Go.Maps
set_option linter.unusedVariables false

/-- every key but id -/
def notId (id : ByteArray) : ByteArray → Bool := fun x => !(x == id)
theorem delK_eq (ks : List ByteArray) (id : ByteArray) : delK ks id = ks.filter (notId id) := rfl
theorem notId_no {x id : ByteArray} (h : (x.toList == id.toList) = true) : notId id x = false := by rw [notId, beq_toListBytes, h]; rfl
theorem notId_yes {x id : ByteArray} (h : (x.toList == id.toList) = false) : notId id x = true := by rw [notId, beq_toListBytes, h]; rfl
theorem notId_id (id : ByteArray) : notId id id = false := notId_no (by simp)
theorem ne_of_list {x id : ByteArray} (h : (x.toList == id.toList) = false) : x ≠ id := fun e => by subst e; simp at h
def all1 : ByteArray → Bool := fun _ => true
theorem cnt_all (K : Nat → ByteArray) (n : Nat) : cnt K all1 n = (firsts K n).length := by
  have h : (firsts K n).filter all1 = firsts K n := List.filter_eq_self.2 (fun _ _ => rfl)
  rw [cnt, h]
theorem firsts_in (K : Nat → ByteArray) (n : Nat) (x : ByteArray) (h : ∃ i, i < n ∧ K i = x) : (firsts K n).contains x = true := hasB.2 ((mem_firsts K n x).2 h)
theorem zs_cells {W : World} {g n : Nat} (hz : Zs W g n) {i : Nat} (hi : i < n) :
    W.cell? ⟨g + 1 + i, 0, none⟩ = some (.int .i64 0) ∧ W.cell? ⟨g + 1 + i, 1, none⟩ = some (.string { data := #[] }) ∧ W.cell? ⟨g + 1 + i, 2, none⟩ = some (.string { data := #[] }) ∧ W.cell? ⟨g + 1 + i, 3, none⟩ = some (.bool false) ∧ W.cell? ⟨g + 1 + i, 4, none⟩ = some (.bool false) ∧ W.cell? ⟨g + 1 + i, 5, none⟩ = some (.int .i64 0) := by
  have h := hz i hi
  refine ⟨?_, ?_, ?_, ?_, ?_, ?_⟩ <;> simp [World.cell?, h]
theorem wpList_len_n {P : Program} {w : World} {ops : Array Oper} {rest : List Oper} {o : Oper} {a : Act} {Q : Exit → Act → World → Prop} (hg : o.guard = none) (m : Operand) (t : TypeId) (hop : o.op = Op.call { callee := Callee.builtin Builtin.len, args := #[m], argTypes := #[t] }) (K E : TypeId) (ht : P.underlying t = some (.map K E))
    (b : Nat) (ks : List ByteArray) (val : ByteArray → Value) (hm : a.eval m = .map (some b)) (h : MapIs w b ks val) (n : Nat) (hn : ks.length = n)
    (hK' : wpList P ops Q rest (a.put o.dst (.int .i64 n)) w) : wpList P ops Q (o :: rest) a w :=
  wpList_len_is hg m t hop K E ht b ks val hm h (by rw [hn]; exact hK')
theorem zeroP48 (w : World) : (zeroValue 48).run Yba.prog w = .ok (.pointer none) w := Yba.zeroValue48 w
theorem zeroP55 (w : World) : (zeroValue 55).run Yba.prog w = .ok (.pointer none) w := Yba.zeroValue55 w
theorem held51 : Yba.prog.stoodInHeld 51 = false := by kernel_rfl
theorem held59 : Yba.prog.stoodInHeld 59 = false := by kernel_rfl
theorem guard51 : Yba.prog.eqGuardType Yba.prog.depth 51 = false := by kernel_rfl
theorem guard59 : Yba.prog.eqGuardType Yba.prog.depth 59 = false := by kernel_rfl
theorem neq51 (w : World) (a b : ByteArray) : (binOp .neq 51 (.agg #[.string a, .string b]) (.agg #[.string a, .string b])).run Yba.prog w = .ok (.bool false) w := by
  rw [run_neq_struct, show (10000 : Nat) = 9999 + 1 from rfl, run_equalIn_agg _ _ _ _ _ (by simp [Program.fieldsOf, Yba.underlying51]) held51]
  simp [go_sem, Program.fieldsOf, Yba.underlying51]
theorem neq59 (w : World) : (binOp .neq 59 (.agg #[.int .i64 0, .string { data := #[] }, .string { data := #[] }, .bool false, .bool false, .int .i64 0]) (.agg #[.int .i64 0, .string { data := #[] }, .string { data := #[] }, .bool false, .bool false, .int .i64 0])).run Yba.prog w = .ok (.bool false) w := by
  rw [run_neq_struct, show (10000 : Nat) = 9999 + 1 from rfl, run_equalIn_agg _ _ _ _ _ (by simp [Program.fieldsOf, Yba.underlying59]) held59]
  simp [go_sem, Program.fieldsOf, Yba.underlying59, Yba.underlying51]
theorem neqP48 (w : World) (a : Addr) : (binOp .neq 48 (.pointer (some a)) (.pointer (some a))).run Yba.prog w = .ok (.bool false) w := by
  obtain ⟨j, hj⟩ : ∃ j, Yba.prog.info? 53 = some j := Option.isSome_iff_exists.1 (by kernel_rfl)
  exact Lib.run_neq_ptr_same w a Yba.underlying48 hj
theorem neqP55 (w : World) (a : Addr) : (binOp .neq 55 (.pointer (some a)) (.pointer (some a))).run Yba.prog w = .ok (.bool false) w := by
  obtain ⟨j, hj⟩ : ∃ j, Yba.prog.info? 59 = some j := Option.isSome_iff_exists.1 (by kernel_rfl)
  exact Lib.run_neq_ptr_same w a Yba.underlying55 hj
theorem neqM40 (w : World) : (binOp .neq 40 (.map none) (.map none)).run Yba.prog w = .ok (.bool false) w := run_neq_map_nil w 40 9 9 none Yba.underlying40
theorem eqlM40 (r : Option Nat) (e : Bool) (h : r.isNone = e) (w : World) : (binOp .eql 40 (.map r) (.map none)).run Yba.prog w = .ok (.bool e) w := by rw [run_eql_map_nil w 40 9 9 r Yba.underlying40, h]
theorem eqlS23 (a : Option Addr) (n c : Nat) (e : Bool) (h : a.isNone = e) (w : World) : (binOp .eql 23 (.slice a n c) (.slice none 0 0)).run Yba.prog w = .ok (.bool e) w := by rw [Lib.run_eql_slice_nil w 23 9 a n c 0 0 Yba.underlying23, h]
theorem wpList_len_o {P : Program} {w : World} {ops : Array Oper} {rest : List Oper} {o : Oper} {a : Act} {Q : Exit → Act → World → Prop} (hg : o.guard = none) (m : Operand) (t : TypeId) (hop : o.op = Op.call { callee := Callee.builtin Builtin.len, args := #[m], argTypes := #[t] }) (K E : TypeId) (ht : P.underlying t = some (.map K E))
    (mb : Option Nat) (ks : List ByteArray) (val : ByteArray → Value) (hm : a.eval m = .map mb) (h : MapO w mb ks val) (n : Nat) (hn : ks.length = n)
    (hK' : wpList P ops Q rest (a.put o.dst (.int .i64 n)) w) : wpList P ops Q (o :: rest) a w := by
  rcases h with ⟨rfl, rfl⟩ | ⟨b, rfl, h⟩
  · subst hn
    refine wpList_plain hg fun K' hK2 => ?_
    unfold Oper.wp
    simp [execOp, hop, resolve, invoke, builtin, hm, Maps.len_nil ht o.type, Result.andThen]
    exact hK2 _ _ hK'
  · exact wpList_len_n hg m t hop K E ht b ks val hm h n hn hK'
theorem isNone_of {mb : Option Nat} {a : Option Addr} (h : mb = none ↔ a = none) {e : Bool} (he : mb.isNone = e) : a.isNone = e := by
  subst he
  cases mb with
  | none => rw [h.1 rfl]; rfl
  | some b =>
    cases a with
    | none => exact absurd (h.2 rfl) (by simp)
    | some x => rfl
theorem last15q (a : Option Addr) (n c : Nat) (K : Nat → ByteArray) (x : ByteArray) (w : World) (h : IsS w a n K) (hn : n ≤ 4096) (l : Nat) (hl : lastIx K n x = (l : Int)) (q : Nat) :
    Calls Yba.prog 15 #[.slice a n c, .string x] (w.drewN q) fun e w' => e = .returned (.int .i64 l) ∧ ∃ m, w' = w.drewN m := by
  refine (last15 a n c K x _ (h.below (below_drewN (Below.refl _ _) q)) hn).mono ?_
  rintro e w' ⟨rfl, rfl⟩
  exact ⟨by rw [hl], q, rfl⟩
theorem zeroT61 (w : World) : (zeroValue 61).run Yba.prog w = .ok (.agg #[.int .i64 0, .string { data := #[] }]) w := Yba.zeroValue61 w
end Go.Proofs.Ybulkdqxm
