import Derived.Test.YbulkdqyoBase
namespace Go.Proofs.Ybulkdqyo
open Go.RowKit
set_option linter.unusedVariables false

theorem walkB_big (a0 : Option Addr) (n c : Nat) (w : World) (h : 1048576 < n) (hb : n ≤ 9223372036854775807) :
    Calls Yba.prog 4 #[.slice a0 n c] w fun e w' => e = .returned (.bool true) ∧ Below w.heap.size w w' := by
  go_enter Yba.func4, Yba.ntmps4
  go_wp2_with fail
  go_ret
  exact ⟨rfl, Below.refl _ _⟩

/-- nil, or no element. -/
theorem walkB_zero (a0 : Option Addr) (c : Nat) (w : World) :
    Calls Yba.prog 4 #[.slice a0 0 c] w fun e w' => e = .returned (.bool true) ∧ Below w.heap.size w w' := by
  have hmk := run_make_row' (P := Yba.prog) 49 50 (.int .u8 0) 1 Yba.underlying49 info50 rfl .i64 .i64 0 (by omega) (by omega)
  simp only [Int.ofNat_zero] at hmk
  have hq := fun W a n c n' c' => run_neq_slice_nil_any (P := Yba.prog) W 48 5 a n c n' c' Yba.underlying48
  go_enter Yba.func4, Yba.ntmps4
  go_upto_if 15 with fail
  go_cut [3] from 11 (fun v wc => ∃ ka, v = .slice ka 0 0 ∧ Below w.heap.size w wc)
  case first =>
    cases a0 with
    | none =>
      go_wp2_with fail
      go_meet
      exact ⟨_, rfl, Below.refl _ _⟩
    | some x =>
      go_wp2_with fail
      refine wp_loop_rounds 1 ?_
      rw [rounds_succ]
      go_wp2_with fail
      go_meet
      exact ⟨_, rfl, (Below.refl _ _).alloc (Nat.le_refl _) _⟩
  case rest =>
    obtain ⟨ka, rfl, hb⟩ := hcut
    go_wp2_with (refine wpList_copy_nothing rfl (.tmp 36) (.tmp 37) 49 49 rfl 50 Yba.underlying49 size50 _ _ _ _ _ _ rfl rfl (Nat.min_self _) ?_)
    refine wp_loop_rounds 1 ?_
    rw [rounds_succ]
    go_wp2_with fail
    refine (contributors_any (f := fun _ => 0) (.inl rfl) (by omega)).mono ?_
    rintro e w1 ⟨rfl, rfl⟩
    go_wp2_with fail
    refine wp_loop_rounds 1 ?_
    rw [rounds_succ]
    go_wp2_with fail
    go_ret
    exact ⟨rfl, hb.alloc hb.size _⟩

/-- kinds as it is filled: the first k are set. -/
def fillF (z : Nat → Int) (k : Nat) : Nat → Value := fun j => .int .u8 (if j < k then z j % 4 else 0)
theorem fill_step (z : Nat → Int) (k n : Nat) : ∀ i, i < n → (if i = k then Value.int .u8 (z k % 4) else fillF z k i) = fillF z (k + 1) i := by
  intro i _
  unfold fillF
  by_cases h : i = k
  · subst h; simp
  · rw [if_neg h]
    by_cases h2 : i < k
    · rw [if_pos h2, if_pos (by omega)]
    · rw [if_neg h2, if_neg (by omega)]
def z4 (z : Nat → Int) : Nat → Int := fun j => z j % 4

theorem cnt_diff (f : Nat → Int) (m d : Nat) : cnt f m ≤ cnt f (m + d) ∧ cnt f (m + d) ≤ cnt f m + d := by
  induction d with
  | zero => simp
  | succ d ih => rw [← Nat.add_assoc]; simp only [cnt]; split <;> omega
/-- How many of the last ones, from m on, are no contributors. -/
def nonF (f : Nat → Int) (k m : Nat) : Int := ((k : Int) - m) - ((cnt f k : Int) - cnt f m)
theorem nonF_bd (f : Nat → Int) (k m : Nat) (h : m ≤ k) : 0 ≤ nonF f k m ∧ nonF f k m ≤ k := by
  have := cnt_diff f m (k - m)
  rw [show m + (k - m) = k by omega] at this
  unfold nonF; omega
theorem nonF_yes {f : Nat → Int} {k p : Nat} (h : f p = 1) : nonF f k p = nonF f k (p + 1) := by unfold nonF; rw [cnt_yes h]; omega
theorem nonF_no {f : Nat → Int} {k p : Nat} (h : ¬ f p = 1) : nonF f k p = nonF f k (p + 1) + 1 := by unfold nonF; rw [cnt_no h]; omega
theorem nonF_top (f : Nat → Int) (k : Nat) : nonF f k k = 0 := by unfold nonF; omega
theorem nonF_bot (f : Nat → Int) (k : Nat) : (k : Int) - nonF f k 0 = cnt f k := by unfold nonF; simp [cnt]; omega

set_option maxRecDepth 100000 in
set_option maxHeartbeats 1000000 in
theorem walkB_pos (b off n c : Nat) (z : Nat → Int) (w : World) (h0 : 0 < n) (hn : n ≤ 1048576) (hc : ∀ j, j < n → w.cell? ⟨b, off + j, none⟩ = some (.int .u8 (z j))) (hz : ∀ j, j < n → 0 ≤ z j ∧ z j ≤ 255) :
    Calls Yba.prog 4 #[.slice (some ⟨b, off, none⟩) n c] w fun e w' => e = .returned (.bool true) ∧ Below w.heap.size w w' := by
  have hmk := run_make_row' (P := Yba.prog) 49 50 (.int .u8 0) 1 Yba.underlying49 info50 rfl .i64 .i64 n (by omega) (by omega)
  have hq := fun W a n c n' c' => run_neq_slice_nil_any (P := Yba.prog) W 48 5 a n c n' c' Yba.underlying48
  have hb : b < w.heap.size := World.block_lt_of_cell? _ _ (hc 0 h0)
  have HC : Hid (∀ j, j < n → w.cell? ⟨b, off + j, none⟩ = some (.int .u8 (z j))) := hc
  have HZ : Hid (∀ j, j < n → 0 ≤ z j ∧ z j ≤ 255) := hz
  clear hc hz
  go_enter Yba.func4, Yba.ntmps4
  go_wp2_with fail
  go_loopw [4] (fun i wr => ∃ k : Nat, k ≤ n ∧ i = .int .i64 k ∧ Below w.heap.size w wr ∧ Hid (wr.rowIs w.heap.size 50 n (fillF z k)) ∧ wr.heap.size = w.heap.size + 1) (fun i _ => n - (intOf i).toNat)
  case atStart => exact ⟨0, Nat.zero_le _, rfl, (Below.refl _ _).alloc (Nat.le_refl _) _, World.rowIs_made w _ n 50, by simp⟩
  case round =>
    obtain ⟨k, hk, rfl, hbr, HR, hsz⟩ := hrel
    have HSZ : Hid (wr.heap.size = w.heap.size + 1) := hsz
    clear hsz
    by_cases hkn : k < n
    · have c1 : wr.cell? ⟨b, off + k, none⟩ = some (.int .u8 (z k)) := (hbr.cell (p := ⟨b, off + k, none⟩) hb).trans (HC.out k hkn)
      have c2 := HR.out.cell hkn
      have c3 := HR.out.frozen k
      obtain ⟨z1, z2⟩ := HZ.out k hkn
      go_wp2_with fail
      go_roundw
      case rel => exact ⟨k + 1, by omega, by go_num, hbr.setCell (Nat.le_refl _) _, (HR.out.set k _).congr (fill_step z k n), by rw [World.size_setCell]; exact HSZ.out⟩
      case measure => simp [intOf]; omega
    · obtain rfl : k = n := by omega
      have hrow : wr.rowIs w.heap.size 50 k (fun j => .int .u8 (z4 z j)) := HR.out.congr (fun i hi => by unfold fillF z4; rw [if_pos hi])
      have HR1 : Hid (wr.rowIs w.heap.size 50 k (fun j => .int .u8 (z4 z j))) := hrow
      clear hrow HR HC HZ
      go_wp2_with (refine wpList_copy_row rfl (.tmp 36) (.tmp 37) 49 49 rfl 50 Yba.underlying49 size50 wr.heap.size k k _ k rfl rfl 50 _ (fun j => .int .u8 (z4 z j)) (World.rowIs_made wr _ k 50) (isV_row (HR1.out.alloc _)) (fun _ _ => rfl) ?_)
      intro w2 HR2 hgr
      have hb2 : Below w.heap.size w w2 := (hbr.alloc hbr.size _).grown hgr (by have := hbr.size; simp; omega) (fun q hq => by cases hq; exact hbr.size)
      have HR3 : Hid (w2.rowIs w.heap.size 50 k (fun j => .int .u8 (z4 z j))) := rowIs_grown (HR1.out.alloc _) hgr (by rw [HSZ.out]; simp)
      clear hgr HR1 hbr hmk
      go_wp2_with fail
      go_loop [6, 7] (fun t i => ∃ m : Nat, m ≤ k ∧ i = .int .i64 ((m : Int) - 1) ∧ t = .int .i64 (nonF (z4 z) k m)) (fun _ i => (intOf i + 1).toNat)
      case atStart => exact ⟨k, Nat.le_refl _, rfl, by rw [nonF_top]⟩
      case round =>
        obtain ⟨m, hm, rfl, rfl⟩ := hrel
        by_cases hm0 : 0 < m
        · obtain ⟨p, rfl⟩ : ∃ p, m = p + 1 := ⟨m - 1, by omega⟩
          have e : ((p + 1 : Nat) : Int) - 1 = (p : Int) := by omega
          rw [e]
          clear e
          have c1 := HR3.out.cell (i := p) (by omega)
          obtain ⟨n1, n2⟩ := nonF_bd (z4 z) k (p + 1) hm
          by_cases hp1 : z4 z p = 1
          · have HS : Hid (nonF (z4 z) k p = nonF (z4 z) k (p + 1)) := nonF_yes hp1
            have hbq : (z4 z p != 1) = false := by simp [hp1]
            clear hp1
            go_wp2_with fail
            go_round
            case rel => exact ⟨p, by omega, rfl, by rw [HS.out]⟩
            case measure => simp [intOf]
          · have HS : Hid (nonF (z4 z) k p = nonF (z4 z) k (p + 1) + 1) := nonF_no hp1
            have hbq : (z4 z p != 1) = true := by simp [hp1]
            clear hp1
            go_wp2_with fail
            go_round
            case rel => exact ⟨p, by omega, rfl, by rw [HS.out]⟩
            case measure => simp [intOf]
        · obtain rfl : m = 0 := by omega
          have hfin := nonF_bot (z4 z) k
          obtain ⟨n1, n2⟩ := nonF_bd (z4 z) k 0 (by omega)
          have HF : Hid ((k : Int) - nonF (z4 z) k 0 = cnt (z4 z) k) := hfin
          clear hfin
          go_wp2_with fail
          rw [HF.out]
          refine (contributors_any (f := z4 z) (isV_row HR3.out) (by omega)).mono ?_
          rintro e w3 ⟨rfl, rfl⟩
          have hbe : ((cnt (z4 z) k : Int) != (cnt (z4 z) k : Int)) = false := by simp
          go_wp2_with fail
          go_loopw [10] (fun i wr' => ∃ j : Nat, j ≤ k ∧ i = .int .i64 j ∧ ∃ q, w2.drewN q = wr') (fun i _ => k - (intOf i).toNat)
          case atStart => exact ⟨0, Nat.zero_le _, rfl, 0, rfl⟩
          case round =>
            obtain ⟨j, hj, rfl, q, rfl⟩ := hrel
            by_cases hjk : j < k
            · have c1 := HR3.out.cell hjk
              have c2 := HR2.out.cell hjk
              have hji : (j : Int) < (k : Int) := by omega
              go_wp2_with fail
              go_quiet (fail)
              go_wp2
              go_roundw
              case rel => exact ⟨j + 1, by omega, by go_num, _, rfl⟩
              case measure => simp [intOf]; omega
            · go_wp2_with fail
              go_ret
              exact ⟨rfl, below_drewN hb2 _⟩
end Go.Proofs.Ybulkdqyo
