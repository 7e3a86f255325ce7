import Derived.Test.YbulkdqyaRows
import Derived.WalkKit
import Derived.ProofKit
import Derived.OpenShut
import Derived.Below
import Derived.Laws.CopyOwn
import Derived.WalkLawsBesides
import Derived.Deep.QuietTactic
import Derived.BigQuiet
import Derived.WalkSmall
namespace Go.Proofs.Ybulkdqya
open Go.RowKit
set_option linter.unusedVariables false

theorem info2 : (Yba.prog.info? 2).map (fun i => (i.zero, i.size, i.bytes)) = some (some (.int .i64 0), 1, 8) := by kernel_rfl
theorem size2 : (Yba.prog.info? 2).map (·.size) = some 1 := by kernel_rfl

theorem walk_big (a0 : Option Addr) (len0 cap0 : Nat) (a1 a2 : Int) (w : World) (h : 1048576 < len0) (hb : len0 ≤ 9223372036854775807) :
    Calls Yba.prog 3 #[.slice a0 len0 cap0, .int .u64 a1, .int .i64 a2] w fun e w' => e = .returned (.bool true) ∧ Below w.heap.size w w' := by
  go_enter Yba.func3, Yba.ntmps3
  go_wp2_with fail
  go_ret
  exact ⟨rfl, Below.refl _ _⟩

/-- What a row that was made and then filled by a copy holds. -/
theorem cur_of_own {w : World} {base : Nat} {e : TypeId} {g n : Nat} {xs : List Value} (h : w.ownsRow base e 1 (.slice (some ⟨g, 0, none⟩) n n) n xs) : ∃ cur : List Value, w.heap[g]? = some (.cells cur.toArray e (0, 0)) ∧ cur.length = n := by
  rcases h.2 with ⟨hv, _⟩ | ⟨g', cap, cur, hv, _, hg, _, _, hs, _⟩
  · cases hv
  · simp only [Value.slice.injEq, Option.some.injEq, Addr.mk.injEq] at hv
    obtain ⟨⟨rfl, _⟩, _, rfl⟩ := hv
    exact ⟨cur.toList, by simpa using hg, by simpa using hs⟩

theorem splice_all {α : Type} (L cs : List α) (h : cs.length = L.length) : splice L 0 cs = cs := by
  simp [splice, h]

theorem cells_of_row {w : World} {g : Nat} {k : IntKind} {e : TypeId} (zs : List Int) (hg : w.heap[g]? = some (.cells (zs.map (Value.int k)).toArray e (0, 0))) : ∀ i, i < zs.length → w.cell? ⟨g, i, none⟩ = some (.int k (zs.getD i 0)) := by
  intro i hi
  rw [cell_of_row w g i _ e (0, 0) hg]
  simp [List.getD, hi]

/-- What 'target' answers: the value where it lies in 0 .. end-1, else 'end'. -/
def tgt (v e : Int) : Int := if v < 0 ∨ e ≤ v then e else v
theorem tgt_end {v e : Int} (h : v < 0 ∨ e ≤ v) : tgt v e = e := by simp [tgt, h]
theorem tgt_val {v e : Int} (h0 : 0 ≤ v) (h1 : v < e) : tgt v e = v := by unfold tgt; rw [if_neg (by omega)]

theorem target_any (m g len cap : Nat) (s e v : Int) (W : World) (hm : W.cell? ⟨m, 1, none⟩ = some (.slice (some ⟨g, 0, none⟩) len cap)) (h0 : 0 ≤ s) (hs : s < (len : Int))
    (hv : W.cell? ⟨g, s.toNat, none⟩ = some (.int .i64 v)) :
    Calls Yba.prog 4 #[.pointer (some ⟨m, 0, none⟩), .int .i64 s, .int .i64 e] W fun r w' => r = .returned (.int .i64 (tgt v e)) ∧ w' = W := by
  by_cases h1 : v < 0
  · have ht := tgt_end (v := v) (e := e) (.inl h1)
    rw [ht]; clear ht
    go_enter Yba.func4, Yba.ntmps4
    go_wp2
    go_ret
    exact ⟨rfl, rfl⟩
  · by_cases h2 : e ≤ v
    · rw [tgt_end (v := v) (e := e) (.inr h2)]
      go_enter Yba.func4, Yba.ntmps4
      go_wp2
      go_ret
      exact ⟨rfl, rfl⟩
    · rw [tgt_val (v := v) (e := e) (by omega) (by omega)]
      go_enter Yba.func4, Yba.ntmps4
      go_wp2
      go_ret
      exact ⟨rfl, rfl⟩

set_option maxRecDepth 100000 in
set_option maxHeartbeats 400000 in
theorem walk_pos (b off len cap : Nat) (zs : List Int) (a1 a2 : Int) (w : World) (h0 : 0 < len) (hbig : len ≤ 1048576) (hlc : len ≤ cap) (hz : zs.length = cap)
    (hc : ∀ i, i < zs.length → w.cell? ⟨b, off + i, none⟩ = some (.int .i64 (zs.getD i 0))) (hu : 0 ≤ a1) (hu' : a1 < 18446744073709551616)
    (hwz : ∀ n ∈ zs, -9223372036854775808 ≤ n ∧ n ≤ 9223372036854775807) (he : -9223372036854775808 ≤ a2) (he' : a2 ≤ 9223372036854775807) :
    Calls Yba.prog 3 #[.slice (some ⟨b, off, none⟩) len cap, .int .u64 a1, .int .i64 a2] w fun e w' => e = .returned (.bool true) ∧ Below w.heap.size w w' := by
  obtain ⟨i0, hi, hz0, hz1, hz2⟩ := info_parts info2
  have hne : ((len : Int) == 0) = false := by rw [beq_eq_false_iff_ne]; omega
  have hb : b < w.heap.size := World.block_lt_of_cell? _ _ (hc 0 (by omega))
  go_enter Yba.func3, Yba.ntmps3
  go_wp2_with (first
    | (at_make; refine wpList_make_full _ rfl _ _ 22 rfl w.heap.size 2 i0 (.int .i64 0) 1 Yba.underlying22 hi hz0 hz1 _ _ _ _ len rfl rfl rfl rfl (by rw [hz2]; omega) (by unfold maxLen; omega) (Nat.le_refl _) ?_)
    )
  intro w1 hown hgrow
  obtain ⟨cur, hg1, hcur⟩ := cur_of_own hown
  have hb1 : Below w.heap.size w w1 := (Below.refl _ _).grown hgrow (Nat.le_refl _) (fun k hk => by cases hk)
  obtain ⟨ys, hys⟩ : ∃ ys, ys = zs.take len := ⟨_, rfl⟩
  have hyl : ys.length = len := by rw [hys]; simp; omega
  have hyc : ∀ i, i < len → w.cell? ⟨b, off + i, none⟩ = some (.int .i64 (ys.getD i 0)) := by
    intro i hi; rw [hc i (by omega), hys]; simp [List.getD, hi]
  have hwf : ∀ i, i < len → -9223372036854775808 ≤ ys.getD i 0 ∧ ys.getD i 0 ≤ 9223372036854775807 := by
    intro i hi; rw [hys]; simp only [List.getD, List.getElem?_take, hi, if_true]
    have hl : i < zs.length := by omega
    simp only [List.getElem?_eq_getElem hl, Option.getD_some]; exact hwz _ (List.getElem_mem hl)
  obtain ⟨cs, hcs⟩ : ∃ cs, cs = ys.map (Value.int .i64) := ⟨_, rfl⟩
  have hcl : cs.length = len := by rw [hcs]; simpa using hyl
  have hcs1 : ∀ j v, cs[j]? = some v → w1.cell? ((⟨b, off, none⟩ : Addr).add j) = some v := by
    intro j v hv
    obtain ⟨hj, hv'⟩ := List.getElem?_eq_some_iff.1 hv
    rw [Addr.add_lit, hb1.cell (p := ⟨b, off + j, none⟩) hb, hyc j (by omega)]
    subst hcs; simp at hv' hj; simp [List.getD, hj, ← hv']
  have hcs2 : ∀ v ∈ cs, v.oneCell' = true := by rw [hcs]; exact ints_oneCell _ _
  have HCS : Hid (cs = ys.map (Value.int .i64)) := hcs
  have HYS : Hid (ys = zs.take len) := hys
  clear hwz hcs hys hown hgrow hc hi hz0 hz1 hz2
  go_wp2_with (refine wpList_copy_splice rfl (.tmp 20) (.tmp 21) 22 22 rfl 2 Yba.underlying22 size2 _ _ _ _ _ _ rfl rfl w.heap.size 0 cur 2 hg1 cs (by rw [hcl]; exact (Nat.min_self _).symm) (fun _ => ⟨rfl, _, rfl, hcs1⟩) (by omega) hcs2 w.heap.size w hb1 (Nat.le_refl _) ?_)
  intro w2 HG2 hB2
  have hg2 := HG2.out
  rw [splice_all _ _ (by omega), HCS.out] at hg2
  have hc2 := cells_of_row _ hg2
  have hx2 : ∀ i, i < len → w2.cell? ⟨b, off + i, none⟩ = some (.int .i64 (ys.getD i 0)) := fun i hi => (hB2.cell (p := ⟨b, off + i, none⟩) hb).trans (hyc i hi)
  have hs2 : w.heap.size < w2.heap.size := (Array.getElem?_eq_some_iff.1 hg2).1
  rw [hyl] at hc2
  clear HG2 hg2 hcs1 hcs2 hyc HYS HCS hg1
  have hml := Int.emod_lt_of_pos a1 (show 0 < (len : Int) by omega)
  have hmg := Int.emod_nonneg a1 (show (len : Int) ≠ 0 by omega)
  have hsl : (a1 % (len : Int)).toNat < len := by omega
  have hv := hc2 _ hsl
  have hwv := hwf _ hsl
  generalize ys.getD (a1 % (len : Int)).toNat 0 = v at hv hwv
  have HC : Hid (∀ i, i < len → w2.cell? ⟨w.heap.size, i, none⟩ = some (.int .i64 (ys.getD i 0))) := hc2
  have HX : Hid (∀ i, i < len → w2.cell? ⟨b, off + i, none⟩ = some (.int .i64 (ys.getD i 0))) := hx2
  clear hcl hcur hlc hz hwf hc2 hx2
  go_wp2_with fail
  refine (target_any _ w.heap.size len len _ _ v _ ?_ hmg hml ?_).mono ?_
  · go_simp
  · go_simp
  rintro e w' ⟨rfl, rfl⟩
  obtain ⟨hw1, hw2⟩ := hwv
  clear hml hmg hsl hv hu hu'
  have hway : (v < 0 ∧ 0 < a2) ∨ (v < 0 ∧ a2 ≤ 0) ∨ (0 ≤ v ∧ a2 ≤ v ∧ 0 < a2) ∨ (0 ≤ v ∧ a2 ≤ v ∧ a2 ≤ 0) ∨ (0 ≤ v ∧ v < a2) := by omega
  rcases hway with ⟨h1, h2⟩ | ⟨h1, h2⟩ | ⟨h1, h3, h2⟩ | ⟨h1, h3, h2⟩ | ⟨h1, h2⟩
  · have hd : decide (0 ≤ v) = false := by simp; omega
    rw [tgt_end (.inl h1)]
    clear he he' hw1 hw2
    go_wp2_with fail
    go_loopw [13] (fun i wr => ∃ k : Nat, k ≤ len ∧ i = .int .i64 k ∧ Below w.heap.size w wr ∧ Hid (∀ j, j < len → wr.cell? ⟨w.heap.size, j, none⟩ = some (.int .i64 (ys.getD j 0))) ∧ Hid (∀ j, j < len → wr.cell? ⟨b, off + j, none⟩ = some (.int .i64 (ys.getD j 0))))
      (fun i _ => len - (intOf i).toNat)
    case atStart => exact ⟨0, Nat.zero_le _, rfl, hB2.alloc (Nat.le_of_lt hs2) _, fun j hj => (World.cell?_alloc_lt _ _ _ hs2).trans (HC.out j hj), fun j hj => (World.cell?_alloc_lt _ _ _ (Nat.lt_trans hb hs2)).trans (HX.out j hj)⟩
    case round =>
      obtain ⟨k, hk, rfl, hBr, HCr, HXr⟩ := hrel
      by_cases hkl : k < len
      · have c1 := HCr.out k hkl
        have c2 := HXr.out k hkl
        have hki : (k : Int) < (len : Int) := by omega
        generalize ys.getD k 0 = y at c1 c2
        go_wp2_with fail
        go_quiet (fail)
        go_wp2
        go_roundw
        case rel => exact ⟨k + 1, by omega, by go_num, below_drewN hBr _, HCr, HXr⟩
        case measure => simp [intOf]; omega
      · go_wp2_with fail
        go_ret
        exact ⟨rfl, hBr⟩
  · have hd : decide (0 < a2) = false := by simp; omega
    rw [tgt_end (.inl h1)]
    clear he he' hw1 hw2
    go_wp2_with fail
    go_loopw [13] (fun i wr => ∃ k : Nat, k ≤ len ∧ i = .int .i64 k ∧ Below w.heap.size w wr ∧ Hid (∀ j, j < len → wr.cell? ⟨w.heap.size, j, none⟩ = some (.int .i64 (ys.getD j 0))) ∧ Hid (∀ j, j < len → wr.cell? ⟨b, off + j, none⟩ = some (.int .i64 (ys.getD j 0))))
      (fun i _ => len - (intOf i).toNat)
    case atStart => exact ⟨0, Nat.zero_le _, rfl, hB2.alloc (Nat.le_of_lt hs2) _, fun j hj => (World.cell?_alloc_lt _ _ _ hs2).trans (HC.out j hj), fun j hj => (World.cell?_alloc_lt _ _ _ (Nat.lt_trans hb hs2)).trans (HX.out j hj)⟩
    case round =>
      obtain ⟨k, hk, rfl, hBr, HCr, HXr⟩ := hrel
      by_cases hkl : k < len
      · have c1 := HCr.out k hkl
        have c2 := HXr.out k hkl
        have hki : (k : Int) < (len : Int) := by omega
        generalize ys.getD k 0 = y at c1 c2
        go_wp2_with fail
        go_quiet (fail)
        go_wp2
        go_roundw
        case rel => exact ⟨k + 1, by omega, by go_num, below_drewN hBr _, HCr, HXr⟩
        case measure => simp [intOf]; omega
      · go_wp2_with fail
        go_ret
        exact ⟨rfl, hBr⟩
  · rw [tgt_end (.inr h3)]
    clear he hw1
    go_wp2_with fail
    go_loopw [13] (fun i wr => ∃ k : Nat, k ≤ len ∧ i = .int .i64 k ∧ Below w.heap.size w wr ∧ Hid (∀ j, j < len → wr.cell? ⟨w.heap.size, j, none⟩ = some (.int .i64 (ys.getD j 0))) ∧ Hid (∀ j, j < len → wr.cell? ⟨b, off + j, none⟩ = some (.int .i64 (ys.getD j 0))))
      (fun i _ => len - (intOf i).toNat)
    case atStart => exact ⟨0, Nat.zero_le _, rfl, hB2.alloc (Nat.le_of_lt hs2) _, fun j hj => (World.cell?_alloc_lt _ _ _ hs2).trans (HC.out j hj), fun j hj => (World.cell?_alloc_lt _ _ _ (Nat.lt_trans hb hs2)).trans (HX.out j hj)⟩
    case round =>
      obtain ⟨k, hk, rfl, hBr, HCr, HXr⟩ := hrel
      by_cases hkl : k < len
      · have c1 := HCr.out k hkl
        have c2 := HXr.out k hkl
        have hki : (k : Int) < (len : Int) := by omega
        generalize ys.getD k 0 = y at c1 c2
        go_wp2_with fail
        go_quiet (fail)
        go_wp2
        go_roundw
        case rel => exact ⟨k + 1, by omega, by go_num, below_drewN hBr _, HCr, HXr⟩
        case measure => simp [intOf]; omega
      · go_wp2_with fail
        go_ret
        exact ⟨rfl, hBr⟩
  · have hd : decide (0 < a2) = false := by simp; omega
    rw [tgt_end (.inr h3)]
    clear he he' hw1 hw2
    go_wp2_with fail
    go_loopw [13] (fun i wr => ∃ k : Nat, k ≤ len ∧ i = .int .i64 k ∧ Below w.heap.size w wr ∧ Hid (∀ j, j < len → wr.cell? ⟨w.heap.size, j, none⟩ = some (.int .i64 (ys.getD j 0))) ∧ Hid (∀ j, j < len → wr.cell? ⟨b, off + j, none⟩ = some (.int .i64 (ys.getD j 0))))
      (fun i _ => len - (intOf i).toNat)
    case atStart => exact ⟨0, Nat.zero_le _, rfl, hB2.alloc (Nat.le_of_lt hs2) _, fun j hj => (World.cell?_alloc_lt _ _ _ hs2).trans (HC.out j hj), fun j hj => (World.cell?_alloc_lt _ _ _ (Nat.lt_trans hb hs2)).trans (HX.out j hj)⟩
    case round =>
      obtain ⟨k, hk, rfl, hBr, HCr, HXr⟩ := hrel
      by_cases hkl : k < len
      · have c1 := HCr.out k hkl
        have c2 := HXr.out k hkl
        have hki : (k : Int) < (len : Int) := by omega
        generalize ys.getD k 0 = y at c1 c2
        go_wp2_with fail
        go_quiet (fail)
        go_wp2
        go_roundw
        case rel => exact ⟨k + 1, by omega, by go_num, below_drewN hBr _, HCr, HXr⟩
        case measure => simp [intOf]; omega
      · go_wp2_with fail
        go_ret
        exact ⟨rfl, hBr⟩
  · rw [tgt_val h1 h2]
    clear he hw1
    go_wp2_with fail
    go_loopw [13] (fun i wr => ∃ k : Nat, k ≤ len ∧ i = .int .i64 k ∧ Below w.heap.size w wr ∧ Hid (∀ j, j < len → wr.cell? ⟨w.heap.size, j, none⟩ = some (.int .i64 (ys.getD j 0))) ∧ Hid (∀ j, j < len → wr.cell? ⟨b, off + j, none⟩ = some (.int .i64 (ys.getD j 0))))
      (fun i _ => len - (intOf i).toNat)
    case atStart => exact ⟨0, Nat.zero_le _, rfl, hB2.alloc (Nat.le_of_lt hs2) _, fun j hj => (World.cell?_alloc_lt _ _ _ hs2).trans (HC.out j hj), fun j hj => (World.cell?_alloc_lt _ _ _ (Nat.lt_trans hb hs2)).trans (HX.out j hj)⟩
    case round =>
      obtain ⟨k, hk, rfl, hBr, HCr, HXr⟩ := hrel
      by_cases hkl : k < len
      · have c1 := HCr.out k hkl
        have c2 := HXr.out k hkl
        have hki : (k : Int) < (len : Int) := by omega
        generalize ys.getD k 0 = y at c1 c2
        go_wp2_with fail
        go_quiet (fail)
        go_wp2
        go_roundw
        case rel => exact ⟨k + 1, by omega, by go_num, below_drewN hBr _, HCr, HXr⟩
        case measure => simp [intOf]; omega
      · go_wp2_with fail
        go_ret
        exact ⟨rfl, hBr⟩

set_option maxRecDepth 100000 in
set_option maxHeartbeats 400000 in
theorem walk_zero (a0 : Option Addr) (cap : Nat) (a1 a2 : Int) (w : World) (hu : 0 ≤ a1) (he : -9223372036854775808 ≤ a2) (he' : a2 ≤ 9223372036854775807) :
    Calls Yba.prog 3 #[.slice a0 0 cap, .int .u64 a1, .int .i64 a2] w fun e w' => e = .returned (.bool true) ∧ Below w.heap.size w w' := by
  obtain ⟨i0, hi, hz0, hz1, hz2⟩ := info_parts info2
  go_enter Yba.func3, Yba.ntmps3
  go_wp2_with (first
    | (at_make; refine wpList_make_full _ rfl _ _ 22 rfl w.heap.size 2 i0 (.int .i64 0) 1 Yba.underlying22 hi hz0 hz1 _ _ _ _ 0 rfl rfl rfl rfl (by omega) (by unfold maxLen; omega) (Nat.le_refl _) ?_)
    )
  intro w1 hown hgrow
  have hb1 : Below w.heap.size w w1 := (Below.refl _ _).grown hgrow (Nat.le_refl _) (fun k hk => by cases hk)
  have hs1 := hgrow.size
  clear hown hgrow hi hz0 hz1 hz2
  go_wp2_with (refine wpList_copy_nothing rfl (.tmp 20) (.tmp 21) 22 22 rfl 2 Yba.underlying22 size2 _ _ _ _ _ _ rfl rfl (Nat.min_self _) ?_)
  refine (target_any _ w1.heap.size 1 1 _ _ 0 _ ?_ ?_ ?_ ?_).mono ?_
  · go_simp
  · omega
  · omega
  · go_simp
  rintro e w' ⟨rfl, rfl⟩
  by_cases h2 : a2 ≤ 0
  · have hd : decide (0 < a2) = false := by simp; omega
    rw [tgt_end (.inr h2)]
    go_wp2_with fail
    go_ret
    exact ⟨rfl, (hb1.alloc hs1 _).alloc (by simp; omega) _⟩
  · rw [tgt_val (by omega) (by omega)]
    go_wp2_with fail
    go_ret
    exact ⟨rfl, (hb1.alloc hs1 _).alloc (by simp; omega) _⟩
end Go.Proofs.Ybulkdqya
