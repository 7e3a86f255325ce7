import Derived.Test.YbulkdqxmKeys
import Derived.Sort.OwnSorted
import Derived.Laws.AppendOwnNone
import Derived.Deep.RegionHeld3
namespace Go.Proofs.Ybulkdqxm
open Go.RowKit Go.MapKept Go.Maps
set_option linter.unusedVariables false

/-- a map value, nil or not, with its keys -/
def MapO (w : World) (mb : Option Nat) (ks : List ByteArray) (val : ByteArray → Value) : Prop := (mb = none ∧ ks = []) ∨ ∃ b, mb = some b ∧ MapIs w b ks val
theorem MapO.below {W w' : World} {mb : Option Nat} {ks : List ByteArray} {val : ByteArray → Value} (h : MapO W mb ks val) (hb : Below W.heap.size W w') : MapO w' mb ks val := by
  rcases h with h | ⟨b, rfl, h⟩
  · exact .inl h
  · exact .inr ⟨b, rfl, h.below hb⟩
set_option maxHeartbeats 1000000 in
theorem collect20 (p : Nat) (mb : Option Nat) (ks : List ByteArray) (val : ByteArray → Value) (w : World) (hp : w.cell? ⟨p, 0, none⟩ = some (.map mb)) (h : MapO w mb ks val) (hs : ∀ k ∈ ks, k.size ≤ maxLen) (hl : ks.length ≤ 4096) :
    Calls Yba.prog 20 #[.func (.func 24) #[] #[.pointer (some ⟨p, 0, none⟩)]] w fun e w' => ∃ (v : Value) (ss : List (List UInt8)), e = .returned v ∧ (∀ x, x ∈ ss ↔ ∃ k, k ∈ ks ∧ k.data.toList = x) ∧ ss.length ≤ 4096 ∧
      w'.ownsRow w.heap.size 9 1 v ss.length (ss.map encStr) ∧ Below w.heap.size w w' := by
  rcases h with ⟨rfl, rfl⟩ | ⟨b, rfl, h⟩
  · have hseq : SeqGives Fence.wide 3 Yba.prog 24 #[.pointer (some ⟨p, 0, none⟩)] encStr (fun ss : List (List UInt8) => ss = []) 0 w :=
      AnyZ.keys_gives_nil (ρ := Yba.keys21_ren) { Yba.keys21 with } Fence.wide _ trivial rfl p _ (World.block_lt_of_cell? _ _ hp) hp
    have := AnyZ.collect_in Yba.collect20 Fence.wide 5 trivial trivial rfl (by omega) 24 #[.pointer (some ⟨p, 0, none⟩)] trivial (enters_of Yba.func24 (by kernel_rfl) rfl) _ 0 (Nat.zero_le _) (by omega) w hseq
    refine (callsIn_wide.1 this).mono ?_
    rintro e w' ⟨v, ss, rfl, rfl, hrow, hnil, hb⟩
    exact ⟨v, [], rfl, by simp, by simp, hrow, hb⟩
  · refine (collect20_some p b ks val w hp h hs hl).mono ?_
    rintro e w' ⟨v, ss, rfl, h1, h2, h3, _, h5⟩
    exact ⟨v, ss, rfl, h1, h2, h3, h5⟩
theorem sort22 (v : Value) (ss : List (List UInt8)) (base : Nat) (w : World) (hrow : w.ownsRow base 9 1 v ss.length (ss.map encStr)) (hl : ss.length ≤ 9000) :
    Calls Yba.prog 22 #[v] w fun e w' => e = .returned (.tuple #[]) ∧ (∃ ts : List (List UInt8), ts.Perm ss ∧ w'.ownsRow base 9 1 v ts.length (ts.map encStr)) ∧ w.grownBy w' v.ownBlock := by
  rcases hrow.2 with ⟨rfl, h0⟩ | ⟨g, cap, cur, rfl, hbase, hb, h1, h2, h3, h4⟩
  · refine (Yba.slices_Sort_string_none none 0 w).mono ?_
    rintro e w' ⟨rfl, rfl⟩
    exact ⟨rfl, ⟨ss, List.Perm.refl _, hrow⟩, ⟨rfl, rfl, rfl, Nat.le_refl _, fun _ _ _ => rfl⟩⟩
  · refine (Yba.slices_Sort_string g 0 cap ss w (holds_of_block hb (by simpa using h4)) (Array.getElem?_eq_some_iff.1 hb).1 (by omega)).mono ?_
    rintro e w' ⟨rfl, n, os, rfl⟩
    refine ⟨rfl, ⟨ss.mergeSort fun x y => decide (x ≤ y), List.mergeSort_perm _ _, ?_⟩, grownBy_sorted _⟩
    have hlen : (ss.mergeSort fun x y => decide (x ≤ y)).length = ss.length := List.length_mergeSort _
    rw [hlen]
    exact ownsRow_sorted hlen hbase hb h1 h2 h3
theorem info9 : (Yba.prog.info? 9).map (fun i => (i.zero, i.size, i.bytes)) = some (some (.string ByteArray.empty), 1, 16) := by kernel_rfl
theorem info_parts3 {P : Program} {e : TypeId} {z : Value} {s b : Nat} (h : (P.info? e).map (fun i => (i.zero, i.size, i.bytes)) = some (some z, s, b)) : ∃ i, P.info? e = some i ∧ i.zero = some z ∧ i.size = s ∧ i.bytes = b := by
  obtain ⟨i, hi, hzz⟩ := Option.map_eq_some_iff.1 h
  simp only [Prod.mk.injEq] at hzz
  exact ⟨i, hi, hzz.1, hzz.2.1, hzz.2.2⟩
theorem append_reads {o : Oper} {a : Act} {K' : Act → World → Prop} {Q : Exit → Act → World → Prop} (w : World) (s x : Operand) (ho : o.op = .call { callee := .builtin .append, args := #[s, x], argTypes := #[23, 23] })
    (base : Nat) (v : Value) (ss : List (List UInt8)) (hs : a.eval s = v) (hown : w.ownsRow base 9 1 v ss.length (ss.map encStr)) (ra : Option Addr) (rn rc : Nat) (RD : Nat → ByteArray) (hx : a.eval x = .slice ra rn rc) (hr : IsS w ra rn RD) (hnil : ra = none → rn = 0 ∧ rc = 0)
    (hl : ss.length ≤ 4096) (hl2 : rn ≤ 4096) (hbase : base ≤ w.heap.size)
    (h : ∀ v' w', w'.ownsRow base 9 1 v' (ss ++ (rowS RD rn).map (fun b => b.data.toList)).length ((ss ++ (rowS RD rn).map (fun b => b.data.toList)).map encStr) → w.grownBy w' v.ownBlock → K' (a.put o.dst v') w') : o.wp Yba.prog a w K' Q := by
  obtain ⟨i0, hI, hz0, hz1, hz2⟩ := info_parts3 info9
  have hmap : ((rowS RD rn).map (fun b => b.data.toList)).map encStr = (rowS RD rn).map Value.string := by
    simp [encStr, Function.comp_def]
  cases ra with
  | none =>
    obtain ⟨rfl, rfl⟩ := hnil rfl
    have hrun := run_append_owned_none (P := Yba.prog) (w := w) base 23 o.type 9 i0 1 Yba.underlying23 hI v ss.length (ss.map encStr) hown
    unfold Oper.wp
    simp [execOp, ho, resolve, invoke, builtin, hs, hx, hrun, Result.andThen]
    exact h v w (by simpa [rowS] using hown) ⟨rfl, rfl, rfl, Nat.le_refl _, fun _ _ _ => rfl⟩
  | some ad =>
    refine wp_append_own w s x 23 ho base 9 i0 (.string ByteArray.empty) 1 16 Yba.underlying23 hI hz0 hz1 hz2 rfl (by decide) v ss.length (ss.map encStr) hs hown ad rn rc ((rowS RD rn).map Value.string) hx (by simp [rowS_len]) ?_ ?_ (by unfold maxLen; omega) (by omega) hbase ?_
    · intro j u hu
      have hj : j < rn := by have := (List.getElem?_eq_some_iff.1 hu).1; simpa [rowS_len] using this
      rcases hr with h0 | ⟨b, off, hab, hc⟩
      · omega
      cases hab
      have : u = .string (RD j) := by
        simp [rowS, hj] at hu
        exact hu.symm
      rw [this, Addr.add_lit]
      exact hc j hj
    · intro u hu
      obtain ⟨y, _, rfl⟩ := List.mem_map.1 hu
      rfl
    · intro v' w' h2 h3 _
      refine h v' w' ?_ h3
      rw [List.map_append, hmap]
      simpa [rowS_len] using h2
end Go.Proofs.Ybulkdqxm
