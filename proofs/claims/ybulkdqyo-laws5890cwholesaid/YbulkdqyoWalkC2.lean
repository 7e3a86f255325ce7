import Derived.Test.YbulkdqyoWalkC
namespace Go.Proofs.Ybulkdqyo
open Go.RowKit
set_option linter.unusedVariables false

theorem Rk_get {sh : Bool} {f : Nat → Int} {n j : Nat} (h : j < (Rk sh f n).length) : (Rk sh f n).getD j 0 < n ∧ sel sh (f ((Rk sh f n).getD j 0)) = true := by
  rw [List.getD, List.getElem?_eq_getElem h, Option.getD_some]
  exact Rk_mem (List.getElem_mem h)
theorem Rk_lt {sh : Bool} {f : Nat → Int} {n j : Nat} (h : j + 1 < (Rk sh f n).length) : (Rk sh f n).getD j 0 < (Rk sh f n).getD (j + 1) 0 := by
  have h1 : j < (Rk sh f n).length := by omega
  rw [List.getD, List.getElem?_eq_getElem h1, Option.getD_some, List.getD, List.getElem?_eq_getElem h, Option.getD_some]
  exact List.pairwise_iff_getElem.1 (Rk_sorted sh f n) j (j + 1) h1 h (by omega)

set_option maxRecDepth 100000 in
set_option maxHeartbeats 1000000 in
theorem walkC_pos (b off n c : Nat) (f : Nat → Int) (sh : Bool) (w : World) (h0 : 0 < n) (hn : n ≤ 1048576) (hc : ∀ j, j < n → w.cell? ⟨b, off + j, none⟩ = some (.int .u8 (f j))) :
    Calls Yba.prog 6 #[.slice (some ⟨b, off, none⟩) n c, .bool sh] w fun e w' => e = .returned (.bool true) ∧ Below w.heap.size w w' := by
  have hmk := run_make_row' (P := Yba.prog) 49 50 (.int .u8 0) 1 Yba.underlying49 info50 rfl .i64 .i64 n (by omega) (by omega)
  have hq := fun W a n c n' c' => run_neq_slice_nil_any (P := Yba.prog) W 49 50 a n c n' c' Yba.underlying49
  have hq2 := fun W a n c n' c' => Lib.run_eql_slice_nil (P := Yba.prog) W 22 21 a n c n' c' Yba.underlying22
  have hb : b < w.heap.size := World.block_lt_of_cell? _ _ (hc 0 h0)
  have HC : Hid (∀ j, j < n → w.cell? ⟨b, off + j, none⟩ = some (.int .u8 (f j))) := hc
  clear hc
  go_enter Yba.func6, Yba.ntmps6
  go_wp2_with (refine wpList_copy_row rfl (.tmp 21) (.tmp 22) 49 49 rfl 50 Yba.underlying49 size50 w.heap.size n n _ c rfl rfl 50 _ (fun j => .int .u8 (f j)) (World.rowIs_made w _ n 50) (.inr ⟨b, off, rfl, fun j hj => (World.cell?_alloc_lt _ _ _ hb).trans (HC.out j hj)⟩) (fun _ _ => rfl) ?_)
  intro w1 HR hgr
  have hb1 : Below w.heap.size w w1 := ((Below.refl _ _).alloc (Nat.le_refl _) _).grown hgr (by simp) (fun q hq => by cases hq; exact Nat.le_refl _)
  clear hgr hmk
  have HX : Hid (∀ j, j < n → w1.cell? ⟨b, off + j, none⟩ = some (.int .u8 (f j))) := fun j hj => (hb1.cell (p := ⟨b, off + j, none⟩) hb).trans (HC.out j hj)
  have hb' : b < w1.heap.size := Nat.lt_of_lt_of_le hb hb1.size
  have HB1 : Hid (Below w.heap.size w w1) := hb1
  clear hb1 HC
  go_wp2_with fail
  go_loop [6, 7] (fun t i => ∃ k : Nat, k ≤ n ∧ i = .int .i64 k ∧ t = .int .i64 ((Rk sh f k).length : Int)) (fun _ i => n - (intOf i).toNat)
  case atStart => exact ⟨0, Nat.zero_le _, rfl, rfl⟩
  case round =>
    obtain ⟨k, hk, rfl, rfl⟩ := hrel
    have hlk := Rk_le sh f k
    by_cases hkn : k < n
    · have c1 := HX.out k hkn
      cases hs : sel sh (f k) with
      | true =>
        have HL : Hid ((Rk sh f (k + 1)).length = (Rk sh f k).length + 1) := by rw [Rk_yes hs]; simp [Hid]
        have HE : Hid (sel sh (f k) = true) := hs
        clear hs
        go_wp2_with (go_at_call 11; refine (csel_eq HE.out _).mono ?_; rintro e w' ⟨rfl, rfl⟩)
        go_round
        case rel => exact ⟨k + 1, by omega, by go_num, by rw [HL.out]; go_num⟩
        case measure => simp [intOf]; omega
      | false =>
        have HL : Hid ((Rk sh f (k + 1)).length = (Rk sh f k).length) := by rw [Rk_no hs]; rfl
        have HE : Hid (sel sh (f k) = false) := hs
        clear hs
        go_wp2_with (go_at_call 11; refine (csel_eq HE.out _).mono ?_; rintro e w' ⟨rfl, rfl⟩)
        go_round
        case rel => exact ⟨k + 1, by omega, by go_num, by rw [HL.out]⟩
        case measure => simp [intOf]; omega
    · obtain rfl : k = n := by omega
      have hne : ((k : Int) != (k : Int)) = false := by simp
      by_cases hp : Rk sh f k = []
      · have hl0 : (Rk sh f k).length = 0 := by rw [hp]; rfl
        rw [hl0]
        clear hl0 hlk
        go_wp2_with fail
        refine (ranks_nil hn (.inr ⟨b, off, rfl, HX.out⟩) hp).mono ?_
        rintro e w2 ⟨rfl, hb2⟩
        have HB2 : Hid (Below w1.heap.size w1 w2) := hb2
        have HR2 : Hid (w2.rowIs w.heap.size 50 k (fun j => .int .u8 (f j))) := rowIs_below HR.out hb2 HR.out.lt
        have HX2 : Hid (∀ j, j < k → w2.cell? ⟨b, off + j, none⟩ = some (.int .u8 (f j))) := fun j hj => cell_below hb2 (HX.out j hj)
        clear hb2 hp
        go_wp2_with fail
        go_loopw [9] (fun i wr' => ∃ j : Nat, j ≤ k ∧ i = .int .i64 j ∧ ∃ q, w2.drewN q = wr') (fun i _ => k - (intOf i).toNat)
        case atStart => exact ⟨0, Nat.zero_le _, rfl, 0, rfl⟩
        case round =>
          obtain ⟨j, hj, rfl, q, rfl⟩ := hrel
          by_cases hjk : j < k
          · have c1 := HX2.out j hjk
            have c2 := HR2.out.cell hjk
            have hji : (j : Int) < (k : Int) := by omega
            go_wp2_with fail
            go_quiet (fail)
            go_wp2
            go_roundw
            case rel => exact ⟨j + 1, by omega, by go_num, _, rfl⟩
            case measure => simp [intOf]; omega
          · go_wp2_with fail
            go_ret
            exact ⟨rfl, below_drewN (HB1.out.trans (HB2.out.mono HB1.out.size)) _⟩
      · obtain ⟨L, hL⟩ : ∃ L, Rk sh f k = L := ⟨_, rfl⟩
        rw [hL] at hlk hp ⊢
        have HL : Hid (Rk sh f k = L) := hL
        have hl0 : 0 < L.length := List.length_pos_iff.2 hp
        clear hL
        go_wp2_with fail
        refine (ranks_pos h0 hn HX.out HL.out hp).mono ?_
        rintro e w2 ⟨g, cap, rfl, hg, hb2⟩
        have HB2 : Hid (Below w1.heap.size w1 w2) := hb2
        have HR2 : Hid (w2.rowIs w.heap.size 50 k (fun j => .int .u8 (f j))) := rowIs_below HR.out hb2 HR.out.lt
        have HX2 : Hid (∀ j, j < k → w2.cell? ⟨b, off + j, none⟩ = some (.int .u8 (f j))) := fun j hj => cell_below hb2 (HX.out j hj)
        have HG : Hid (∀ j, j < L.length → w2.cell? ⟨g, j, none⟩ = some (.int .i32 (L.getD j 0 : Nat))) := hg
        have hz : ((L.length : Int) == 0) = false := by rw [beq_eq_false_iff_ne]; omega
        have hne2 : ((L.length : Int) != (L.length : Int)) = false := by simp
        clear hb2 hp hg
        go_wp2_with fail
        go_loopw [9] (fun i wr' => ∃ j : Nat, j ≤ k ∧ i = .int .i64 j ∧ ∃ q, w2.drewN q = wr') (fun i _ => k - (intOf i).toNat)
        case atStart => exact ⟨0, Nat.zero_le _, rfl, 0, rfl⟩
        case round =>
          obtain ⟨j, hj, rfl, q, rfl⟩ := hrel
          by_cases hjk : j < k
          · have c1 := HX2.out j hjk
            have c2 := HR2.out.cell hjk
            have hji : (j : Int) < (k : Int) := by omega
            go_wp2_with fail
            go_quiet (fail)
            go_wp2
            go_roundw
            case rel => exact ⟨j + 1, by omega, by go_num, _, rfl⟩
            case measure => simp [intOf]; omega
          · go_wp2_with fail
            go_loop [10, 11] (fun t i => ∃ (m : Nat) (p : Int), m ≤ L.length ∧ i = .int .i64 m ∧ t = .int .i64 p ∧ -1 ≤ p ∧ (m < L.length → p < (L.getD m 0 : Nat))) (fun _ i => L.length - (intOf i).toNat)
            case atStart => exact ⟨0, -1, Nat.zero_le _, rfl, rfl, by omega, fun _ => by omega⟩
            case round =>
              obtain ⟨m, p, hm, rfl, rfl, hp1, hp2⟩ := hrel
              by_cases hml : m < L.length
              · have c1 := HG.out m hml
                have hp3 := hp2 hml
                have hget := Rk_get (sh := sh) (f := f) (n := k) (j := m) (by rw [HL.out]; exact hml)
                rw [HL.out] at hget
                have hnx : m + 1 < L.length → L.getD m 0 < L.getD (m + 1) 0 := fun h => by have := Rk_lt (sh := sh) (f := f) (n := k) (j := m) (by rw [HL.out]; exact h); rwa [HL.out] at this
                have HNX : Hid (m + 1 < L.length → L.getD m 0 < L.getD (m + 1) 0) := hnx
                obtain ⟨hg1, hg2⟩ := hget
                obtain ⟨e, he⟩ : ∃ e, L.getD m 0 = e := ⟨_, rfl⟩
                rw [he] at c1 hp3 hg1 hg2
                have c2 := HX2.out e hg1
                have HE : Hid (sel sh (f e) = true) := hg2
                have HEE : Hid (L.getD m 0 = e) := he
                clear hp2 hnx hg2 he
                go_wp2_with (go_at_call 11; refine (csel_eq HE.out _).mono ?_; rintro e w' ⟨rfl, rfl⟩)
                go_round
                case rel => exact ⟨m + 1, _, by omega, by go_num, rfl, by omega, fun h => by have := HNX.out h; rw [HEE.out] at this; omega⟩
                case measure => simp [intOf]; omega
              · go_wp2_with fail
                go_ret
                exact ⟨rfl, below_drewN (HB1.out.trans (HB2.out.mono HB1.out.size)) _⟩
end Go.Proofs.Ybulkdqyo
