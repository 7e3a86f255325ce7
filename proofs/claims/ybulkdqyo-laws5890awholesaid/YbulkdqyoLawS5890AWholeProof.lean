/-
  THE PROOF OF 'Rows.LawS5890AWholeSaid'. The frame is the guide's own way (as its skeleton tool writes it for the other laws of this seat), turned by hand to a slice of structs; the walks: YbulkdqyoPeers, YbulkdqyoSeq, YbulkdqyoRoute, YbulkdqyoArr, YbulkdqyoWalkA, YbulkdqyoWalkAM, YbulkdqyoWalkAY.
-/
import Derived.Test.YbulkdqyoRows
import Derived.Test.YbulkdqyoWalkA
import Derived.Test.YbulkdqyoWalkAY
import Derived.WalkKit
import Derived.ProofKit
import Derived.OpenShut
import Derived.ShutString
import Derived.ChangeOld
import Derived.Below
import Derived.SizedLaws
import Derived.Deep.SlicePairs
namespace Go.Proofs.Ybulkdqyo.lawS5890AWhole
open Go.ChangeShapes Go.WideShapes Go.ChangeAt Go.RowKit
open Go.Deep
set_option linter.unusedVariables false

theorem own : ownKnob Yba.prog.godebug = none := by kernel_rfl
theorem laidOut : laidOutB Yba.prog = true := by kernel_rfl
theorem bytes21 : Yba.prog.bytesOf 21 = 4 := by kernel_rfl
theorem bytes40 : Yba.prog.bytesOf 40 = 8 := by kernel_rfl
theorem cells40 : Yba.prog.cellsOf 40 = 2 := by kernel_rfl
theorem cells21 : Yba.prog.cellsOf 21 = 1 := by kernel_rfl

theorem walk (nodes : Int) (hn1 : -2147483648 ≤ nodes) (hn2 : nodes ≤ 2147483647) (pa ma : Option Addr) (lp pc lm mc : Nat) (hm : Bool) (P mp mq : Nat → Int) (stop : Int) (hs0 : 0 ≤ stop) (hs1 : stop ≤ 65535) (w : World)
    (h1 : lp ≤ 140737488355328) (h2 : lm ≤ 140737488355328) (hP : IsV w pa lp (fun j => .int .i32 (P j))) (hM : IsM w ma lm mp mq) :
    Calls Yba.prog 3 #[.int .i32 nodes, .slice pa lp pc, .bool hm, .slice ma lm mc, .int .u16 stop] w fun e w' => e = .returned (.bool true) ∧ Below w.heap.size w w' := by
  by_cases hl : lp + lm ≤ 1048576
  · obtain ⟨s, rfl⟩ := Int.eq_ofNat_of_zero_le hs0
    cases hm with
    | false => exact walkA_no nodes hn1 hn2 pa ma lp pc lm mc P s (by omega) w hl hP
    | true => exact walkA_yes nodes hn1 hn2 pa ma lp pc lm mc P mp mq s (by omega) w hl hP hM
  · exact walkA_big nodes pa ma lp pc lm mc hm stop w (by omega) h1 h2

set_option maxRecDepth 100000 in
theorem lifted (os : Os) (started : os.Started) (H : Type) (enc : TypeId × Value → H) :
    ReturnsInHanded {} Yba.checked os 3 .any (Rows.lawS5890AWholeSpec.pre6 enc Yba.prog Yba.f3 Rows.lawS5890AWholeRow.domain false) (Rows.lawS5890AWholeSpec.post enc Yba.prog Yba.f3 false true false false) := by
  refine returnsInHanded_of_change_sized (C := Yba.checked) own started (by kernel_rfl) Yba.func3
    (ChangeSpec.witness6 (enc := enc) (C := Yba.checked) false ⟨#[], #[.int .i32 0, .slice none 0 0, .bool false, .slice none 0 0, .int .u16 0], []⟩ 8 (by kernel_rfl) (by kernel_rfl) (by kernel_rfl) (by kernel_rfl)) ?_
  intro W base args ds gs before hval0 hW hcnd hsz0 _
  have hval : ∀ (j : Nat) t v, Yba.f3.params[j]? = some t → args[j]? = some v → Value.okWide Yba.prog W .any base t v := hval0
  have hsz : (DataW.weightsEach Yba.prog (Yba.f3.params.toList ++ Rows.lawS5890AWholeSpec.plain.varTypes Yba.prog) (ds ++ gs)).all (· ≤ reachBytes) = true := hsz0
  have hW' := hW
  obtain ⟨p, q, hA0, hV, rfl, hfz, hnd⟩ := hW
  have hA : DataW.TrodAll enc Yba.prog W 0 (fun _ => true) true Yba.f3.params.toList args.toList ds p := hA0
  rw [Yba.params3] at hA hval hsz
  obtain ⟨v0, vs0, d0, ds0, p0, q0, hargs, rfl, rfl, h0, r0⟩ := trodAll_cons hA
  obtain ⟨v1, vs1, d1, ds1, p1, q1, rfl, rfl, rfl, h1, r1⟩ := trodAll_cons r0
  obtain ⟨v2, vs2, d2, ds2, p2, q2, rfl, rfl, rfl, h2, r2⟩ := trodAll_cons r1
  obtain ⟨v3, vs3, d3, ds3, p3, q3, rfl, rfl, rfl, h3, r3⟩ := trodAll_cons r2
  obtain ⟨v4, vs4, d4, ds4, p4, q4, rfl, rfl, rfl, h4, r4⟩ := trodAll_cons r3
  obtain ⟨rfl, rfl, rfl⟩ := trodAll_nil r4
  obtain rfl : args = #[v0, v1, v2, v3, v4] := by cases args; simp_all
  obtain ⟨rfl, rfl⟩ := trodVars_none hV
  obtain ⟨a0, rfl, rfl, rfl, w0⟩ := open_int Yba.underlying21 (hval 0 21 v0 rfl rfl) h0
  obtain ⟨a1, len1, cap1, rfl⟩ := okWide_slice Yba.underlying22 (hval 1 22 v1 rfl rfl)
  have k1 := h1
  have lt1 : ∀ x ∈ p1, x.block < W.heap.size := by obtain ⟨m, hm⟩ := k1; exact DataW.trod_lt m _ _ _ hm
  obtain ⟨P, w1, bl1⟩ : ∃ P : Nat → Int, IsV W a1 len1 (fun j => .int .i32 (P j)) ∧ len1 ≤ 140737488355328 := by
    obtain ⟨fuel, hf⟩ := h1
    rcases open_ints Yba.underlying22 Yba.underlying21 (by kernel_rfl) hf with ⟨hcs, _⟩ | ⟨x, l, c, zs, hcs, _, hl, hm, hz, hx, hcell, hwz⟩
    · simp [Value.cells] at hcs
      obtain ⟨rfl, rfl, rfl⟩ := hcs
      exact ⟨fun _ => 0, .inl rfl, by omega⟩
    · simp [Value.cells] at hcs
      obtain ⟨rfl, rfl, rfl⟩ := hcs
      have hd : d1 = _ := congrArg Prod.fst hx
      rw [hd] at hsz
      have hb := sized_slice hsz (j := 1) (t := 22) (e := 21) rfl rfl Yba.underlying22
      rw [bytes21] at hb
      simp only [lits, List.length_map, List.length_take, List.length_drop, reachBytes] at hb
      simp at hz
      exact ⟨fun j => zs.getD j 0, isV_of (by omega) hcell, by omega⟩
  obtain ⟨a2, rfl, rfl, rfl⟩ := open_bool Yba.underlying4 (hval 2 4 v2 rfl rfl) h2
  obtain ⟨a3, len3, cap3, rfl⟩ := okWide_slice Yba.underlying23 (hval 3 23 v3 rfl rfl)
  have k3 := h3
  have lt3 : ∀ x ∈ p3, x.block < W.heap.size := by obtain ⟨m, hm⟩ := k3; exact DataW.trod_lt m _ _ _ hm
  obtain ⟨mp, mq, w3, bl3⟩ : ∃ mp mq : Nat → Int, IsM W a3 len3 mp mq ∧ len3 ≤ 140737488355328 := by
    obtain ⟨fuel, hf⟩ := h3
    rcases open_slice_pairs Yba.underlying23 Yba.underlying40 cells40 rfl rfl cells21 cells21 hf with ⟨hcs, _⟩ | ⟨x, l, c, m, k, V0, V1, D0, D1, P0, P1, hcs, _, hl, hm, hmm, hx, hall⟩
    · simp [Value.cells] at hcs
      obtain ⟨rfl, rfl, rfl⟩ := hcs
      exact ⟨fun _ => 0, fun _ => 0, .inl rfl, by omega⟩
    · simp [Value.cells] at hcs
      obtain ⟨rfl, rfl, rfl⟩ := hcs
      have hd : d3 = _ := congrArg Prod.fst hx
      rw [hd] at hsz
      have hb := sized_slice hsz (j := 3) (t := 23) (e := 40) rfl rfl Yba.underlying23
      rw [bytes40] at hb
      simp only [List.length_map, List.length_range, reachBytes] at hb
      simp at hmm
      refine ⟨fun i => intOf (V0 i), fun i => intOf (V1 i), ?_, by omega⟩
      by_cases h00 : len3 = 0
      · exact .inl h00
      · obtain ⟨b, off, spot⟩ := x
        have hspot : spot = none := by simpa [Addr.add] using World.cell?_spot (hall 0 (by omega)).1
        subst hspot
        refine .inr ⟨b, off, rfl, fun j hj => ?_⟩
        obtain ⟨e1, e2, t1, t2⟩ := hall j (by omega)
        obtain ⟨z1, hz1, _, _⟩ := DataW.trod_int Yba.underlying21 t1
        obtain ⟨z2, hz2, _, _⟩ := DataW.trod_int Yba.underlying21 t2
        simp at hz1 hz2
        rw [Addr.add_lit] at e1 e2
        rw [hz1] at e1
        rw [hz2] at e2
        simp only [hz1, hz2, intOf]
        exact ⟨e1, by rw [← Nat.add_assoc] at e2; exact e2⟩
  obtain ⟨a4, rfl, rfl, rfl, w4⟩ := open_int Yba.underlying24 (hval 4 24 v4 rfl rfl) h4
  clear hA0 hval0 hsz hsz0
  have b0 := bounds_i32 w0
  have b4 := bounds_u16 w4
  refine (walk a0 b0.1 b0.2 a1 a3 len1 cap1 len3 cap3 a2 P mp mq a4 b4.1 b4.2 W bl1 bl3 w1 w3).mono fun e W' ⟨he, bel⟩ => ?_
  subst he
  exact ⟨_, rfl, _, _, _, [], _, [], hW', trodAll_mk1 (shut_bool Yba.underlying4 _), (trodAll_cons_mk (shut_int Yba.underlying21 w0) (trodAll_cons_mk (Below.trod laidOut (by kernel_rfl) (of_decide_eq_true (by kernel_rfl)) k1 bel lt1) (trodAll_cons_mk (shut_bool Yba.underlying4 _) (trodAll_cons_mk (Below.trod laidOut (by kernel_rfl) (of_decide_eq_true (by kernel_rfl)) k3 bel lt3) (trodAll_cons_mk (shut_int Yba.underlying24 w4) trodAll_mk0))))), rfl, bel.frame _, fun h => by cases h⟩

theorem over : Rows.lawS5890AWholeRow.holds Yba.pinned (OpenSpec.ofChange Rows.lawS5890AWholeSpec) :=
  OpenClaim.holds_of_wide 3 Yba.f3 rfl rfl rfl rfl rfl rfl rfl ⟨rfl, rfl, rfl, rfl, rfl⟩ rfl rfl rfl rfl rfl (by kernel_rfl) Yba.func3 (by kernel_rfl)
    (of_decide_eq_true (by kernel_rfl)) (by unfold Func.isWrapper; first | (rw [if_pos (by decide +kernel)]; kernel_rfl) | (rw [if_neg (by decide +kernel)]; exact ⟨rfl, rfl⟩))
    (fun os started H enc _ => lifted os started H enc)

/-- THE STATEMENT -/
theorem proved : Rows.LawS5890AWholeSaid := over
#print axioms proved
end Go.Proofs.Ybulkdqyo.lawS5890AWhole
