import Derived.Test.YbulkdqyoBase
namespace Go.Proofs.Ybulkdqyo
open Go.RowKit
set_option linter.unusedVariables false

def sel (sh : Bool) (v : Int) : Bool := (v != 0) == sh
def Rk (sh : Bool) (f : Nat → Int) (k : Nat) : List Nat := (List.range k).filter (fun j => sel sh (f j))
theorem Rk_yes {sh : Bool} {f : Nat → Int} {k : Nat} (h : sel sh (f k) = true) : Rk sh f (k + 1) = Rk sh f k ++ [k] := by simp [Rk, List.range_succ, List.filter_append, h]
theorem Rk_no {sh : Bool} {f : Nat → Int} {k : Nat} (h : sel sh (f k) = false) : Rk sh f (k + 1) = Rk sh f k := by simp [Rk, List.range_succ, List.filter_append, h]
theorem Rk_le (sh : Bool) (f : Nat → Int) (k : Nat) : (Rk sh f k).length ≤ k := by
  have := List.length_filter_le (fun j => sel sh (f j)) (List.range k); simpa [Rk] using this
theorem Rk_mem {sh : Bool} {f : Nat → Int} {k j : Nat} (h : j ∈ Rk sh f k) : j < k ∧ sel sh (f j) = true := by simpa [Rk] using h
theorem Rk_sorted (sh : Bool) (f : Nat → Int) (k : Nat) : (Rk sh f k).Pairwise (· < ·) := List.Pairwise.filter _ List.pairwise_lt_range
def vals (l : List Nat) : List Value := l.map (fun (j : Nat) => Value.int .i32 (j : Int))

theorem csel_any (v : Int) (sh : Bool) (w : World) : Calls Yba.prog 11 #[.int .u8 v, .bool sh] w fun e w' => e = .returned (.bool (sel sh v)) ∧ w = w' := by
  cases sh with
  | true =>
    have e : sel true v = (v != 0) := by simp [sel]
    rw [e]; clear e
    go_enter Yba.func11, Yba.ntmps11
    go_wp2
    go_ret
    exact ⟨rfl, rfl⟩
  | false =>
    have e : sel false v = (v == 0) := by simp [sel, bne]
    rw [e]; clear e
    go_enter Yba.func11, Yba.ntmps11
    go_wp2
    go_ret
    exact ⟨rfl, rfl⟩
theorem csel_eq {v : Int} {sh b : Bool} (h : sel sh v = b) (w : World) : Calls Yba.prog 11 #[.int .u8 v, .bool sh] w fun e w' => e = .returned (.bool b) ∧ w = w' := by subst h; exact csel_any v sh w
theorem shares_any (v : Int) (w : World) : Calls Yba.prog 14 #[.int .u8 v] w fun e w' => e = .returned (.bool (v != 0)) ∧ w = w' := by
  go_enter Yba.func14, Yba.ntmps14
  go_wp2
  go_ret
  exact ⟨rfl, rfl⟩

theorem ranks_none (a : Option Addr) (c : Nat) (sh : Bool) (w : World) : Calls Yba.prog 12 #[.slice a 0 c, .bool sh] w fun e w' => e = .returned (.slice none 0 0) ∧ w = w' := by
  go_enter Yba.func12, Yba.ntmps12
  go_wp2
  refine wp_loop_rounds 1 ?_
  rw [rounds_succ]
  go_wp2
  go_ret
  exact ⟨rfl, rfl⟩

set_option maxRecDepth 100000 in
set_option maxHeartbeats 400000 in
theorem ranks_any (b off n c : Nat) (f : Nat → Int) (sh : Bool) (w : World) (h0 : 0 < n) (hn : n ≤ 1048576) (hc : ∀ j, j < n → w.cell? ⟨b, off + j, none⟩ = some (.int .u8 (f j))) :
    Calls Yba.prog 12 #[.slice (some ⟨b, off, none⟩) n c, .bool sh] w fun e w' => ∃ v, e = .returned v ∧ w'.ownsRow w.heap.size 21 1 v (Rk sh f n).length (vals (Rk sh f n)) ∧ (Rk sh f n = [] ↔ v = .slice none 0 0) ∧ Below w.heap.size w w' := by
  obtain ⟨i0, hI, hz0, hz1, hz2⟩ := info_parts info21
  have hb : b < w.heap.size := World.block_lt_of_cell? _ _ (hc 0 h0)
  have HC : Hid (∀ j, j < n → w.cell? ⟨b, off + j, none⟩ = some (.int .u8 (f j))) := hc
  clear hc
  go_enter Yba.func12, Yba.ntmps12
  go_wp2
  go_loopw [5, 10] (fun v i wr => ∃ k : Nat, k ≤ n ∧ i = .int .i64 k ∧ Hid (wr.ownsRow w.heap.size 21 1 v (Rk sh f k).length (vals (Rk sh f k))) ∧ Hid (Rk sh f k = [] ↔ v = .slice none 0 0) ∧ Below w.heap.size w wr) (fun _ i _ => n - (intOf i).toNat)
  case atStart => exact ⟨0, Nat.zero_le _, rfl, World.ownsRow_nil _ _ _ _, by simp [Rk, Hid], Below.refl _ _⟩
  case round =>
    obtain ⟨k, hk, rfl, HO, HN, hbr⟩ := hrel
    by_cases hkn : k < n
    · have c1 : wr.cell? ⟨b, off + k, none⟩ = some (.int .u8 (f k)) := (hbr.cell (p := ⟨b, off + k, none⟩) hb).trans (HC.out k hkn)
      have hlk := Rk_le sh f k
      cases hs : sel sh (f k) with
      | true =>
        have HR : Hid (Rk sh f (k + 1) = Rk sh f k ++ [k]) := Rk_yes hs
        have hbe : ((f k != 0) == sh) = true := hs
        clear hs
        go_wp2_with (first | (go_at_call 14; refine (shares_any _ _).mono ?_; rintro e w' ⟨rfl, rfl⟩) | (at_builtin; refine wpList_append_own _ rfl _ _ 22 rfl w.heap.size 21 i0 (.int .i32 0) 1 4 Yba.underlying22 hI hz0 hz1 hz2 rfl (by decide) _ _ _ rfl (HO.out.alloc _) ⟨wr.heap.size, 0, none⟩ 1 1 [.int .i32 (k : Int)] rfl rfl (cell_one_new _ _ _) (ints_oneCell .i32 [(k : Int)]) (by unfold maxLen; omega) (by omega) (by have := hbr.size; simp; omega) ?_))
        intro v' w1 hown' hgrow hnl
        have R1 : w1.ownsRow w.heap.size 21 1 v' (Rk sh f (k + 1)).length (vals (Rk sh f (k + 1))) := by rw [HR.out]; simpa [vals] using hown'
        have R2 : Rk sh f (k + 1) = [] ↔ v' = .slice none 0 0 := by rw [HR.out]; simp [hnl]
        have R3 : Below w.heap.size w w1 := (hbr.alloc hbr.size _).grown hgrow (by have := hbr.size; simp; omega) (fun q hq => (HO.out.lt q hq).1)
        have H1 : Hid _ := R1
        have H2 : Hid _ := R2
        clear hown' hgrow hnl R1 R2
        go_wp2
        go_roundw
        case rel => exact ⟨k + 1, by omega, by go_num, H1, H2, R3⟩
        case measure => simp [intOf]; omega
      | false =>
        have HR : Hid (Rk sh f (k + 1) = Rk sh f k) := Rk_no hs
        have hbe : ((f k != 0) == sh) = false := hs
        clear hs
        go_wp2_with (go_at_call 14; refine (shares_any _ _).mono ?_; rintro e w' ⟨rfl, rfl⟩)
        go_roundw
        case rel => exact ⟨k + 1, by omega, by go_num, HR.out ▸ HO, HR.out ▸ HN, hbr⟩
        case measure => simp [intOf]; omega
    · obtain rfl : k = n := by omega
      go_wp2_with fail
      go_ret
      exact ⟨_, rfl, HO.out, HN.out, hbr⟩

theorem ranks_nil {a : Option Addr} {n c : Nat} {f : Nat → Int} {sh : Bool} {w : World} (hn : n ≤ 1048576) (hv : IsV w a n (fun j => .int .u8 (f j))) (hp : Rk sh f n = []) :
    Calls Yba.prog 12 #[.slice a n c, .bool sh] w fun e w' => e = .returned (.slice none 0 0) ∧ Below w.heap.size w w' := by
  by_cases h0 : n = 0
  · subst h0
    refine (ranks_none a c sh w).mono ?_
    rintro e w' ⟨rfl, rfl⟩
    exact ⟨rfl, Below.refl _ _⟩
  · rcases hv with h | ⟨b, off, rfl, hc⟩
    · exact absurd h h0
    · refine (ranks_any b off n c f sh w (by omega) hn hc).mono ?_
      rintro e w' ⟨v, rfl, _, hnil, hb⟩
      exact ⟨by rw [hnil.1 hp], hb⟩

theorem ranks_pos {b off n c : Nat} {f : Nat → Int} {sh : Bool} {w : World} (h0 : 0 < n) (hn : n ≤ 1048576) (hc : ∀ j, j < n → w.cell? ⟨b, off + j, none⟩ = some (.int .u8 (f j))) {L : List Nat} (hL : Rk sh f n = L) (hp : L ≠ []) :
    Calls Yba.prog 12 #[.slice (some ⟨b, off, none⟩) n c, .bool sh] w fun e w' => ∃ g cap, e = .returned (.slice (some ⟨g, 0, none⟩) L.length cap) ∧ (∀ j, j < L.length → w'.cell? ⟨g, j, none⟩ = some (.int .i32 (L.getD j 0 : Nat))) ∧ Below w.heap.size w w' := by
  subst hL
  refine (ranks_any b off n c f sh w h0 hn hc).mono ?_
  rintro e w' ⟨v, rfl, hown, hnil, hb⟩
  have hcl := fun g (hg : v.ownBlock = some g) => hown.cells hg
  rcases hown.2 with ⟨hv, hn0⟩ | ⟨g, cap, cur, hv, _⟩
  · exact absurd (List.eq_nil_of_length_eq_zero hn0) hp
  · refine ⟨g, cap, by rw [hv], fun j hj => ?_, hb⟩
    have := hcl g (by rw [hv]; rfl) j (.int .i32 ((Rk sh f n).getD j 0 : Nat)) (by simp [vals, hj, List.getD])
    rwa [Addr.add_lit, Nat.zero_add] at this

theorem walkC_big (a0 : Option Addr) (n c : Nat) (sh : Bool) (w : World) (h : 1048576 < n) (hb : n ≤ 9223372036854775807) :
    Calls Yba.prog 6 #[.slice a0 n c, .bool sh] w fun e w' => e = .returned (.bool true) ∧ Below w.heap.size w w' := by
  go_enter Yba.func6, Yba.ntmps6
  go_wp2_with fail
  go_ret
  exact ⟨rfl, Below.refl _ _⟩

set_option maxRecDepth 100000 in
set_option maxHeartbeats 400000 in
theorem walkC_zero (a0 : Option Addr) (c : Nat) (sh : Bool) (w : World) :
    Calls Yba.prog 6 #[.slice a0 0 c, .bool sh] w fun e w' => e = .returned (.bool true) ∧ Below w.heap.size w w' := by
  have hmk := run_make_row' (P := Yba.prog) 49 50 (.int .u8 0) 1 Yba.underlying49 info50 rfl .i64 .i64 0 (by omega) (by omega)
  simp only [Int.ofNat_zero] at hmk
  have hq := fun W a n c n' c' => run_neq_slice_nil_any (P := Yba.prog) W 49 50 a n c n' c' Yba.underlying49
  have hq2 := fun W a n c n' c' => Lib.run_eql_slice_nil (P := Yba.prog) W 22 21 a n c n' c' Yba.underlying22
  go_enter Yba.func6, Yba.ntmps6
  go_upto_if 17 with fail
  go_cut [5] from 13 (fun v wc => ∃ ka, v = .slice ka 0 0 ∧ Below w.heap.size w wc)
  case first =>
    cases a0 with
    | none =>
      go_wp2_with fail
      go_meet
      exact ⟨_, rfl, Below.refl _ _⟩
    | some x =>
      go_wp2_with (refine wpList_copy_nothing rfl (.tmp 21) (.tmp 22) 49 49 rfl 50 Yba.underlying49 size50 _ _ _ _ _ _ rfl rfl (Nat.min_self _) ?_)
      go_meet
      exact ⟨_, rfl, (Below.refl _ _).alloc (Nat.le_refl _) _⟩
  case rest =>
    obtain ⟨ka, rfl, hb⟩ := hcut
    go_wp2_with fail
    refine wp_loop_rounds 1 ?_
    rw [rounds_succ]
    go_wp2_with fail
    refine (ranks_none _ _ _ _).mono ?_
    rintro e w' ⟨rfl, rfl⟩
    go_wp2_with fail
    refine wp_loop_rounds 1 ?_
    rw [rounds_succ]
    go_wp2_with fail
    go_ret
    exact ⟨rfl, hb⟩
end Go.Proofs.Ybulkdqyo
