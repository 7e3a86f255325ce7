import Derived.Test.YbulkdqyoRoute
import Derived.Laws.StructEq
namespace Go.Proofs.Ybulkdqyo
open Go.RowKit

theorem quiet_run {Pg : Program} {o : Oper} {a : Act} {C : World → Prop} {K : Act → Prop} (v : Value) (h : ∀ w, C w → (execOp a.eval o).run Pg w = .ok (.value v) w) (hK : K (a.put o.dst v)) : o.quiet Pg a C K :=
  ⟨v, fun w hw => by unfold Oper.quietAt; rw [h w hw]; exact ⟨rfl, rfl⟩, hK⟩

theorem quiet_load {Pg : Program} {o : Oper} {a : Act} {C : World → Prop} {K : Act → Prop} (ty : TypeId) (x : Operand) (ho : o.op = .load ty x) (b off : Nat) (hx : a.eval x = .pointer (some ⟨b, off, none⟩)) (cs : List Value) (d : TypeDesc)
    (hS : ∀ w, C w → w.rangeAt b off cs) (hu : Pg.underlying ty = some d) (hd : d.isRow = true) (hi : (Pg.info? ty).map (·.size) = some cs.length) (hK : K (a.put o.dst (.agg cs.toArray))) : o.quiet Pg a C K :=
  quiet_run _ (fun w hw => by
    unfold execOp
    simp only [ho, hx, Instr.loadAt, Instr.sureAddr, Sem.run_bind, Sem.run_pure, Result.andThen_ok, run_loadVar_mid w b off ty cs d (hS w hw) hu hd hi]) hK

theorem part21 (pe : Nat → Int) (i : Nat) (hi : i < 32) (w : World) : (part 21 (peCells pe).toArray (i * 1)).run Yba.prog w = .ok (.int .i32 (pe i)) w := by
  have h := Yba.isAgg21 w
  simp [part, h, peCells, hi]

theorem arr_equal (pe : Nat → Int) (d : Nat) (w : World) : (Op.equalIn (d + 2) 27 (.agg (peCells pe).toArray) (.agg (peCells pe).toArray)).run Yba.prog w = .ok true w := by
  have h2 := Yba.sizeOf21 w
  rw [Op.equalIn]
  simp only [Sem.run_bind, run_underlying Yba.underlying27, Result.andThen_ok, h2]
  rw [Std.Legacy.Range.forIn_eq_forIn_range']
  have hm : ∀ i, i ∈ List.range' ([:32] : Std.Legacy.Range).start ([:32] : Std.Legacy.Range).size ([:32] : Std.Legacy.Range).step → i < 32 := by
    intro i hi
    have hi' : i ∈ List.range' 0 32 1 := hi
    simp at hi'; exact hi'
  revert hm
  generalize List.range' ([:32] : Std.Legacy.Range).start ([:32] : Std.Legacy.Range).size ([:32] : Std.Legacy.Range).step = l
  intro hm
  induction l with
  | nil => simp
  | cons i l ih =>
    have hi := hm i (by simp)
    have ih := ih (fun j hj => hm j (List.mem_cons_of_mem _ hj))
    simp only [List.forIn_cons, Sem.run_bind, part21 pe i hi w, Result.andThen_ok, run_equalIn_int w d 21 .i32 .i32 (pe i) (pe i) Yba.underlying21]
    simp only [beq_self_eq_true, Bool.not_true, Bool.false_eq_true, if_false, Sem.run_pure, Result.andThen_ok]
    exact ih

theorem quiet_neq27 {o : Oper} {a : Act} {C : World → Prop} {K : Act → Prop} (x y : Operand) (t' : TypeId) (ho : o.op = .binOp .neq 27 x y t') (pe : Nat → Int) (hx : a.eval x = .agg (peCells pe).toArray) (hy : a.eval y = .agg (peCells pe).toArray)
    (hK : K (a.put o.dst (.bool false))) : o.quiet Yba.prog a C K :=
  quiet_run _ (fun w hw => by
    have hm : Yba.prog.eqGuardType Yba.prog.depth 27 = false := by kernel_rfl
    unfold execOp
    simp only [ho, hx, hy, Sem.run_bind, run_eqGuard_agg w .neq 27 x y _ _ hm, Result.andThen_ok, run_neq_struct]
    rw [show (10000 : Nat) = 9998 + 2 from rfl, arr_equal pe 9998 w]
    rfl) hK
end Go.Proofs.Ybulkdqyo
