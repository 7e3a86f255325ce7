/-
  THE PROOF OF 'Rows.LawS5888CWholeSaid'. The frame is the guide's own way (proof-skeleton.mjs, after YbulkdqxmLawS5888AWholeProof), turned by hand to eight slices of strings, a string and a bool; the walk: YbulkdqxmL1 (walkC).
-/
import Derived.Test.YbulkdqxmRows
import Derived.Test.YbulkdqxmL1
import Derived.WalkKit
import Derived.ProofKit
import Derived.OpenShut
import Derived.ShutString
import Derived.ChangeOld
import Derived.Below
import Derived.SliceStrings
import Derived.SizedLaws
namespace Go.Proofs.Ybulkdqxm.lawS5888CWhole
open Go.ChangeShapes Go.WideShapes Go.ChangeAt Go.RowKit
open Go.ChangeMaps (open_string shut_string)
set_option linter.unusedVariables false

theorem own : ownKnob Yba.prog.godebug = none := by kernel_rfl
theorem laidOut : laidOutB Yba.prog = true := by kernel_rfl
theorem bytes9 : Yba.prog.bytesOf 9 = 16 := by kernel_rfl

theorem isS_of {w : World} {x : Addr} {len : Nat} {ss : List ByteArray} (hl : len ≤ ss.length) (hc : ∀ i, i < ss.length → w.cell? (x.add i) = some (.string (ss.getD i ByteArray.empty))) : IsS w (some x) len (fun j => ss.getD j ByteArray.empty) := by
  by_cases h0 : len = 0
  · exact .inl h0
  · obtain ⟨b, off, spot⟩ := x
    have hspot : spot = none := by simpa [Addr.add] using World.cell?_spot (hc 0 (by omega))
    subst hspot
    exact .inr ⟨b, off, rfl, fun j hj => by have := hc j (by omega); rwa [Addr.add_lit] at this⟩
theorem size_of {ss : List ByteArray} (h : ∀ s ∈ ss, s.size ≤ maxLen) (i : Nat) (hi : i < ss.length) : (ss.getD i ByteArray.empty).size ≤ maxLen := by
  have : ss.getD i ByteArray.empty = ss[i] := by simp [List.getD, hi]
  rw [this]
  exact h _ (List.getElem_mem hi)

set_option maxRecDepth 100000 in
/-- too long: true at once -/
theorem big (a0 a1 a2 a5 a6 a7 a8 a9 : Option Addr) (n0 n1 n2 n5 n6 n7 n8 n9 c0 c1 c2 c5 c6 c7 c8 c9 : Nat) (id : ByteArray) (im : Bool) (w : World) (h : 4096 < n0 + n1 + n2 + n5 + n6 + n7 + n8 + n9) (b0 : n0 ≤ 140737488355328) (b1 : n1 ≤ 140737488355328) (b2 : n2 ≤ 140737488355328) (b5 : n5 ≤ 140737488355328) (b6 : n6 ≤ 140737488355328) (b7 : n7 ≤ 140737488355328) (b8 : n8 ≤ 140737488355328) (b9 : n9 ≤ 140737488355328) :
    Calls Yba.prog 4 #[.slice a0 n0 c0, .slice a1 n1 c1, .slice a2 n2 c2, .string id, .bool im, .slice a5 n5 c5, .slice a6 n6 c6, .slice a7 n7 c7, .slice a8 n8 c8, .slice a9 n9 c9] w fun e w' => e = .returned (.bool true) ∧ Below w.heap.size w w' := by
  go_enter Yba.func4, Yba.ntmps4
  go_wp2_with fail
  go_ret
  exact ⟨rfl, Below.refl _ _⟩

set_option maxRecDepth 100000 in
theorem lifted (os : Os) (started : os.Started) (H : Type) (enc : TypeId × Value → H) :
    ReturnsInHanded {} Yba.checked os 4 .any (Rows.lawS5888CWholeSpec.pre6 enc Yba.prog Yba.f4 Rows.lawS5888CWholeRow.domain false) (Rows.lawS5888CWholeSpec.post enc Yba.prog Yba.f4 false true false false) := by
  refine returnsInHanded_of_change_sized (C := Yba.checked) own started (by kernel_rfl) Yba.func4
    (ChangeSpec.witness6 (enc := enc) (C := Yba.checked) false ⟨#[], #[.slice none 0 0, .slice none 0 0, .slice none 0 0, .string ByteArray.empty, .bool false, .slice none 0 0, .slice none 0 0, .slice none 0 0, .slice none 0 0, .slice none 0 0], []⟩ 8 (by kernel_rfl) (by kernel_rfl) (by kernel_rfl) (by kernel_rfl)) ?_
  intro W base args ds gs before hval0 hW hcnd hsz0 _
  have hval : ∀ (j : Nat) t v, Yba.f4.params[j]? = some t → args[j]? = some v → Value.okWide Yba.prog W .any base t v := hval0
  have hsz : (DataW.weightsEach Yba.prog (Yba.f4.params.toList ++ Rows.lawS5888CWholeSpec.plain.varTypes Yba.prog) (ds ++ gs)).all (· ≤ reachBytes) = true := hsz0
  have hW' := hW
  obtain ⟨p, q, hA0, hV, rfl, hfz, hnd⟩ := hW
  have hA : DataW.TrodAll enc Yba.prog W 0 (fun _ => true) true Yba.f4.params.toList args.toList ds p := hA0
  rw [Yba.params4] at hA hval hsz
  obtain ⟨v0, vs0, d0, ds0, p0, q0, hargs, rfl, rfl, h0, r0⟩ := trodAll_cons hA
  obtain ⟨v1, vs1, d1, ds1, p1, q1, rfl, rfl, rfl, h1, r1⟩ := trodAll_cons r0
  obtain ⟨v2, vs2, d2, ds2, p2, q2, rfl, rfl, rfl, h2, r2⟩ := trodAll_cons r1
  obtain ⟨v3, vs3, d3, ds3, p3, q3, rfl, rfl, rfl, h3, r3⟩ := trodAll_cons r2
  obtain ⟨v4, vs4, d4, ds4, p4, q4, rfl, rfl, rfl, h4, r4⟩ := trodAll_cons r3
  obtain ⟨v5, vs5, d5, ds5, p5, q5, rfl, rfl, rfl, h5, r5⟩ := trodAll_cons r4
  obtain ⟨v6, vs6, d6, ds6, p6, q6, rfl, rfl, rfl, h6, r6⟩ := trodAll_cons r5
  obtain ⟨v7, vs7, d7, ds7, p7, q7, rfl, rfl, rfl, h7, r7⟩ := trodAll_cons r6
  obtain ⟨v8, vs8, d8, ds8, p8, q8, rfl, rfl, rfl, h8, r8⟩ := trodAll_cons r7
  obtain ⟨v9, vs9, d9, ds9, p9, q9, rfl, rfl, rfl, h9, r9⟩ := trodAll_cons r8
  obtain ⟨rfl, rfl, rfl⟩ := trodAll_nil r9
  obtain rfl : args = #[v0, v1, v2, v3, v4, v5, v6, v7, v8, v9] := by cases args; simp_all
  obtain ⟨rfl, rfl⟩ := trodVars_none hV
  obtain ⟨a0, n0, c0, rfl⟩ := okWide_slice Yba.underlying23 (hval 0 23 v0 rfl rfl)
  have k0 := h0
  have lt0 : ∀ x ∈ p0, x.block < W.heap.size := by obtain ⟨m, hm⟩ := k0; exact DataW.trod_lt m _ _ _ hm
  obtain ⟨K0, w0, bl0, nl0, sz0⟩ : ∃ K, IsS W a0 n0 K ∧ n0 ≤ 140737488355328 ∧ (a0 = none → n0 = 0 ∧ c0 = 0) ∧ (∀ i, i < n0 → (K i).size ≤ maxLen) := by
    obtain ⟨fuel, hf⟩ := h0
    rcases open_strings Yba.underlying23 Yba.underlying9 (by kernel_rfl) hf with ⟨hcs, _⟩ | ⟨x, l, c, ss, hcs, _, hl, hm, hz, hx, hcell, hws⟩
    · simp [Value.cells] at hcs
      obtain ⟨rfl, rfl, rfl⟩ := hcs
      exact ⟨fun _ => ByteArray.empty, .inl rfl, by omega, fun _ => ⟨rfl, rfl⟩, fun i hi => by omega⟩
    · simp [Value.cells] at hcs
      obtain ⟨rfl, rfl, rfl⟩ := hcs
      have hd : d0 = _ := congrArg Prod.fst hx
      rw [hd] at hsz
      have hb := sized_slice hsz (j := 0) (t := 23) (e := 9) rfl rfl Yba.underlying23
      rw [bytes9] at hb
      simp only [strs, List.length_map, List.length_take, List.length_drop, reachBytes] at hb
      simp at hz
      exact ⟨fun j => ss.getD j ByteArray.empty, isS_of (by omega) hcell, by omega, (fun h => by cases h), fun i hi => size_of hws i (by omega)⟩
  obtain ⟨a1, n1, c1, rfl⟩ := okWide_slice Yba.underlying23 (hval 1 23 v1 rfl rfl)
  have k1 := h1
  have lt1 : ∀ x ∈ p1, x.block < W.heap.size := by obtain ⟨m, hm⟩ := k1; exact DataW.trod_lt m _ _ _ hm
  obtain ⟨K1, w1, bl1, nl1, sz1⟩ : ∃ K, IsS W a1 n1 K ∧ n1 ≤ 140737488355328 ∧ (a1 = none → n1 = 0 ∧ c1 = 0) ∧ (∀ i, i < n1 → (K i).size ≤ maxLen) := by
    obtain ⟨fuel, hf⟩ := h1
    rcases open_strings Yba.underlying23 Yba.underlying9 (by kernel_rfl) hf with ⟨hcs, _⟩ | ⟨x, l, c, ss, hcs, _, hl, hm, hz, hx, hcell, hws⟩
    · simp [Value.cells] at hcs
      obtain ⟨rfl, rfl, rfl⟩ := hcs
      exact ⟨fun _ => ByteArray.empty, .inl rfl, by omega, fun _ => ⟨rfl, rfl⟩, fun i hi => by omega⟩
    · simp [Value.cells] at hcs
      obtain ⟨rfl, rfl, rfl⟩ := hcs
      have hd : d1 = _ := congrArg Prod.fst hx
      rw [hd] at hsz
      have hb := sized_slice hsz (j := 1) (t := 23) (e := 9) rfl rfl Yba.underlying23
      rw [bytes9] at hb
      simp only [strs, List.length_map, List.length_take, List.length_drop, reachBytes] at hb
      simp at hz
      exact ⟨fun j => ss.getD j ByteArray.empty, isS_of (by omega) hcell, by omega, (fun h => by cases h), fun i hi => size_of hws i (by omega)⟩
  obtain ⟨a2, n2, c2, rfl⟩ := okWide_slice Yba.underlying23 (hval 2 23 v2 rfl rfl)
  have k2 := h2
  have lt2 : ∀ x ∈ p2, x.block < W.heap.size := by obtain ⟨m, hm⟩ := k2; exact DataW.trod_lt m _ _ _ hm
  obtain ⟨K2, w2, bl2, nl2, sz2⟩ : ∃ K, IsS W a2 n2 K ∧ n2 ≤ 140737488355328 ∧ (a2 = none → n2 = 0 ∧ c2 = 0) ∧ (∀ i, i < n2 → (K i).size ≤ maxLen) := by
    obtain ⟨fuel, hf⟩ := h2
    rcases open_strings Yba.underlying23 Yba.underlying9 (by kernel_rfl) hf with ⟨hcs, _⟩ | ⟨x, l, c, ss, hcs, _, hl, hm, hz, hx, hcell, hws⟩
    · simp [Value.cells] at hcs
      obtain ⟨rfl, rfl, rfl⟩ := hcs
      exact ⟨fun _ => ByteArray.empty, .inl rfl, by omega, fun _ => ⟨rfl, rfl⟩, fun i hi => by omega⟩
    · simp [Value.cells] at hcs
      obtain ⟨rfl, rfl, rfl⟩ := hcs
      have hd : d2 = _ := congrArg Prod.fst hx
      rw [hd] at hsz
      have hb := sized_slice hsz (j := 2) (t := 23) (e := 9) rfl rfl Yba.underlying23
      rw [bytes9] at hb
      simp only [strs, List.length_map, List.length_take, List.length_drop, reachBytes] at hb
      simp at hz
      exact ⟨fun j => ss.getD j ByteArray.empty, isS_of (by omega) hcell, by omega, (fun h => by cases h), fun i hi => size_of hws i (by omega)⟩
  obtain ⟨id, rfl, rfl, rfl, w3⟩ := open_string Yba.underlying9 (hval 3 9 v3 rfl rfl) h3
  obtain ⟨im, rfl, rfl, rfl⟩ := open_bool Yba.underlying4 (hval 4 4 v4 rfl rfl) h4
  obtain ⟨a5, n5, c5, rfl⟩ := okWide_slice Yba.underlying23 (hval 5 23 v5 rfl rfl)
  have k5 := h5
  have lt5 : ∀ x ∈ p5, x.block < W.heap.size := by obtain ⟨m, hm⟩ := k5; exact DataW.trod_lt m _ _ _ hm
  obtain ⟨K5, w5, bl5, nl5, sz5⟩ : ∃ K, IsS W a5 n5 K ∧ n5 ≤ 140737488355328 ∧ (a5 = none → n5 = 0 ∧ c5 = 0) ∧ (∀ i, i < n5 → (K i).size ≤ maxLen) := by
    obtain ⟨fuel, hf⟩ := h5
    rcases open_strings Yba.underlying23 Yba.underlying9 (by kernel_rfl) hf with ⟨hcs, _⟩ | ⟨x, l, c, ss, hcs, _, hl, hm, hz, hx, hcell, hws⟩
    · simp [Value.cells] at hcs
      obtain ⟨rfl, rfl, rfl⟩ := hcs
      exact ⟨fun _ => ByteArray.empty, .inl rfl, by omega, fun _ => ⟨rfl, rfl⟩, fun i hi => by omega⟩
    · simp [Value.cells] at hcs
      obtain ⟨rfl, rfl, rfl⟩ := hcs
      have hd : d5 = _ := congrArg Prod.fst hx
      rw [hd] at hsz
      have hb := sized_slice hsz (j := 5) (t := 23) (e := 9) rfl rfl Yba.underlying23
      rw [bytes9] at hb
      simp only [strs, List.length_map, List.length_take, List.length_drop, reachBytes] at hb
      simp at hz
      exact ⟨fun j => ss.getD j ByteArray.empty, isS_of (by omega) hcell, by omega, (fun h => by cases h), fun i hi => size_of hws i (by omega)⟩
  obtain ⟨a6, n6, c6, rfl⟩ := okWide_slice Yba.underlying23 (hval 6 23 v6 rfl rfl)
  have k6 := h6
  have lt6 : ∀ x ∈ p6, x.block < W.heap.size := by obtain ⟨m, hm⟩ := k6; exact DataW.trod_lt m _ _ _ hm
  obtain ⟨K6, w6, bl6, nl6, sz6⟩ : ∃ K, IsS W a6 n6 K ∧ n6 ≤ 140737488355328 ∧ (a6 = none → n6 = 0 ∧ c6 = 0) ∧ (∀ i, i < n6 → (K i).size ≤ maxLen) := by
    obtain ⟨fuel, hf⟩ := h6
    rcases open_strings Yba.underlying23 Yba.underlying9 (by kernel_rfl) hf with ⟨hcs, _⟩ | ⟨x, l, c, ss, hcs, _, hl, hm, hz, hx, hcell, hws⟩
    · simp [Value.cells] at hcs
      obtain ⟨rfl, rfl, rfl⟩ := hcs
      exact ⟨fun _ => ByteArray.empty, .inl rfl, by omega, fun _ => ⟨rfl, rfl⟩, fun i hi => by omega⟩
    · simp [Value.cells] at hcs
      obtain ⟨rfl, rfl, rfl⟩ := hcs
      have hd : d6 = _ := congrArg Prod.fst hx
      rw [hd] at hsz
      have hb := sized_slice hsz (j := 6) (t := 23) (e := 9) rfl rfl Yba.underlying23
      rw [bytes9] at hb
      simp only [strs, List.length_map, List.length_take, List.length_drop, reachBytes] at hb
      simp at hz
      exact ⟨fun j => ss.getD j ByteArray.empty, isS_of (by omega) hcell, by omega, (fun h => by cases h), fun i hi => size_of hws i (by omega)⟩
  obtain ⟨a7, n7, c7, rfl⟩ := okWide_slice Yba.underlying23 (hval 7 23 v7 rfl rfl)
  have k7 := h7
  have lt7 : ∀ x ∈ p7, x.block < W.heap.size := by obtain ⟨m, hm⟩ := k7; exact DataW.trod_lt m _ _ _ hm
  obtain ⟨K7, w7, bl7, nl7, sz7⟩ : ∃ K, IsS W a7 n7 K ∧ n7 ≤ 140737488355328 ∧ (a7 = none → n7 = 0 ∧ c7 = 0) ∧ (∀ i, i < n7 → (K i).size ≤ maxLen) := by
    obtain ⟨fuel, hf⟩ := h7
    rcases open_strings Yba.underlying23 Yba.underlying9 (by kernel_rfl) hf with ⟨hcs, _⟩ | ⟨x, l, c, ss, hcs, _, hl, hm, hz, hx, hcell, hws⟩
    · simp [Value.cells] at hcs
      obtain ⟨rfl, rfl, rfl⟩ := hcs
      exact ⟨fun _ => ByteArray.empty, .inl rfl, by omega, fun _ => ⟨rfl, rfl⟩, fun i hi => by omega⟩
    · simp [Value.cells] at hcs
      obtain ⟨rfl, rfl, rfl⟩ := hcs
      have hd : d7 = _ := congrArg Prod.fst hx
      rw [hd] at hsz
      have hb := sized_slice hsz (j := 7) (t := 23) (e := 9) rfl rfl Yba.underlying23
      rw [bytes9] at hb
      simp only [strs, List.length_map, List.length_take, List.length_drop, reachBytes] at hb
      simp at hz
      exact ⟨fun j => ss.getD j ByteArray.empty, isS_of (by omega) hcell, by omega, (fun h => by cases h), fun i hi => size_of hws i (by omega)⟩
  obtain ⟨a8, n8, c8, rfl⟩ := okWide_slice Yba.underlying23 (hval 8 23 v8 rfl rfl)
  have k8 := h8
  have lt8 : ∀ x ∈ p8, x.block < W.heap.size := by obtain ⟨m, hm⟩ := k8; exact DataW.trod_lt m _ _ _ hm
  obtain ⟨K8, w8, bl8, nl8, sz8⟩ : ∃ K, IsS W a8 n8 K ∧ n8 ≤ 140737488355328 ∧ (a8 = none → n8 = 0 ∧ c8 = 0) ∧ (∀ i, i < n8 → (K i).size ≤ maxLen) := by
    obtain ⟨fuel, hf⟩ := h8
    rcases open_strings Yba.underlying23 Yba.underlying9 (by kernel_rfl) hf with ⟨hcs, _⟩ | ⟨x, l, c, ss, hcs, _, hl, hm, hz, hx, hcell, hws⟩
    · simp [Value.cells] at hcs
      obtain ⟨rfl, rfl, rfl⟩ := hcs
      exact ⟨fun _ => ByteArray.empty, .inl rfl, by omega, fun _ => ⟨rfl, rfl⟩, fun i hi => by omega⟩
    · simp [Value.cells] at hcs
      obtain ⟨rfl, rfl, rfl⟩ := hcs
      have hd : d8 = _ := congrArg Prod.fst hx
      rw [hd] at hsz
      have hb := sized_slice hsz (j := 8) (t := 23) (e := 9) rfl rfl Yba.underlying23
      rw [bytes9] at hb
      simp only [strs, List.length_map, List.length_take, List.length_drop, reachBytes] at hb
      simp at hz
      exact ⟨fun j => ss.getD j ByteArray.empty, isS_of (by omega) hcell, by omega, (fun h => by cases h), fun i hi => size_of hws i (by omega)⟩
  obtain ⟨a9, n9, c9, rfl⟩ := okWide_slice Yba.underlying23 (hval 9 23 v9 rfl rfl)
  have k9 := h9
  have lt9 : ∀ x ∈ p9, x.block < W.heap.size := by obtain ⟨m, hm⟩ := k9; exact DataW.trod_lt m _ _ _ hm
  obtain ⟨K9, w9, bl9, nl9, sz9⟩ : ∃ K, IsS W a9 n9 K ∧ n9 ≤ 140737488355328 ∧ (a9 = none → n9 = 0 ∧ c9 = 0) ∧ (∀ i, i < n9 → (K i).size ≤ maxLen) := by
    obtain ⟨fuel, hf⟩ := h9
    rcases open_strings Yba.underlying23 Yba.underlying9 (by kernel_rfl) hf with ⟨hcs, _⟩ | ⟨x, l, c, ss, hcs, _, hl, hm, hz, hx, hcell, hws⟩
    · simp [Value.cells] at hcs
      obtain ⟨rfl, rfl, rfl⟩ := hcs
      exact ⟨fun _ => ByteArray.empty, .inl rfl, by omega, fun _ => ⟨rfl, rfl⟩, fun i hi => by omega⟩
    · simp [Value.cells] at hcs
      obtain ⟨rfl, rfl, rfl⟩ := hcs
      have hd : d9 = _ := congrArg Prod.fst hx
      rw [hd] at hsz
      have hb := sized_slice hsz (j := 9) (t := 23) (e := 9) rfl rfl Yba.underlying23
      rw [bytes9] at hb
      simp only [strs, List.length_map, List.length_take, List.length_drop, reachBytes] at hb
      simp at hz
      exact ⟨fun j => ss.getD j ByteArray.empty, isS_of (by omega) hcell, by omega, (fun h => by cases h), fun i hi => size_of hws i (by omega)⟩
  clear hA0 hval0 hsz hsz0
  have hwalk : Calls Yba.prog 4 #[.slice a0 n0 c0, .slice a1 n1 c1, .slice a2 n2 c2, .string id, .bool im, .slice a5 n5 c5, .slice a6 n6 c6, .slice a7 n7 c7, .slice a8 n8 c8, .slice a9 n9 c9] W fun e w' => e = .returned (.bool true) ∧ Below W.heap.size W w' := by
    by_cases hn : n0 + n1 + n2 + n5 + n6 + n7 + n8 + n9 ≤ 4096
    · exact walkC a0 a1 a2 a5 a6 a7 a8 a9 n0 n1 n2 n5 n6 n7 n8 n9 c0 c1 c2 c5 c6 c7 c8 c9 K0 K1 K2 K5 K6 K7 K8 K9 id im W hn nl5 nl7 sz5 w0 w1 w2 w5 w6 w7 w8 w9
    · exact big a0 a1 a2 a5 a6 a7 a8 a9 n0 n1 n2 n5 n6 n7 n8 n9 c0 c1 c2 c5 c6 c7 c8 c9 id im W (by omega) bl0 bl1 bl2 bl5 bl6 bl7 bl8 bl9
  refine hwalk.mono fun e W' ⟨he, bel⟩ => ?_
  subst he
  exact ⟨_, rfl, _, _, _, [], _, [], hW', trodAll_mk1 (shut_bool Yba.underlying4 _), (trodAll_cons_mk (Below.trod laidOut (by kernel_rfl) (of_decide_eq_true (by kernel_rfl)) k0 bel lt0) (trodAll_cons_mk (Below.trod laidOut (by kernel_rfl) (of_decide_eq_true (by kernel_rfl)) k1 bel lt1) (trodAll_cons_mk (Below.trod laidOut (by kernel_rfl) (of_decide_eq_true (by kernel_rfl)) k2 bel lt2) (trodAll_cons_mk (shut_string Yba.underlying9 w3) (trodAll_cons_mk (shut_bool Yba.underlying4 _) (trodAll_cons_mk (Below.trod laidOut (by kernel_rfl) (of_decide_eq_true (by kernel_rfl)) k5 bel lt5) (trodAll_cons_mk (Below.trod laidOut (by kernel_rfl) (of_decide_eq_true (by kernel_rfl)) k6 bel lt6) (trodAll_cons_mk (Below.trod laidOut (by kernel_rfl) (of_decide_eq_true (by kernel_rfl)) k7 bel lt7) (trodAll_cons_mk (Below.trod laidOut (by kernel_rfl) (of_decide_eq_true (by kernel_rfl)) k8 bel lt8) (trodAll_cons_mk (Below.trod laidOut (by kernel_rfl) (of_decide_eq_true (by kernel_rfl)) k9 bel lt9) trodAll_mk0)))))))))), rfl, bel.frame _, fun h => by cases h⟩

theorem over : Rows.lawS5888CWholeRow.holds Yba.pinned (OpenSpec.ofChange Rows.lawS5888CWholeSpec) :=
  OpenClaim.holds_of_wide 4 Yba.f4 rfl rfl rfl rfl rfl rfl rfl ⟨rfl, rfl, rfl, rfl, rfl⟩ rfl rfl rfl rfl rfl (by kernel_rfl) Yba.func4 (by kernel_rfl)
    (of_decide_eq_true (by kernel_rfl)) (by unfold Func.isWrapper; first | (rw [if_pos (by decide +kernel)]; kernel_rfl) | (rw [if_neg (by decide +kernel)]; exact ⟨rfl, rfl⟩))
    (fun os started H enc _ => lifted os started H enc)

/-- THE STATEMENT -/
theorem proved : Rows.LawS5888CWholeSaid := over
#print axioms proved
end Go.Proofs.Ybulkdqxm.lawS5888CWhole
