import Derived.Test.YbulkdqzqOn
import Derived.Laws.AppendOwn
import Derived.Laws.OwnMore
import Derived.Laws.MakeOwn
import Derived.Lib.SliceRun
namespace Go.Proofs.Ybulkdqzq
open Go.RowKit
set_option linter.unusedVariables false

theorem info26 : (Yba.prog.info? 26).map (fun i => (i.zero, i.size, i.bytes)) = some (some (.agg #[.int .i64 0, .int .i64 0, .int .i64 0]), 3, 24) := by kernel_rfl
theorem info_parts3 {P : Program} {e : TypeId} {z : Value} {s b : Nat} (h : (P.info? e).map (fun i => (i.zero, i.size, i.bytes)) = some (some z, s, b)) : ∃ i, P.info? e = some i ∧ i.zero = some z ∧ i.size = s ∧ i.bytes = b := by
  obtain ⟨i, hi, hzz⟩ := Option.map_eq_some_iff.1 h
  simp only [Prod.mk.injEq] at hzz
  exact ⟨i, hi, hzz.1, hzz.2.1, hzz.2.2⟩
def cellsD (d : Dt) : List Value := [.int .i64 d.1, .int .i64 d.2.1, .int .i64 d.2.2]
def rowD (D : Nat → Dt) : Nat → List Value
  | 0 => []
  | k + 1 => rowD D k ++ cellsD (D k)
theorem rowD_len (D : Nat → Dt) (n : Nat) : (rowD D n).length = n * 3 := by
  induction n with
  | zero => rfl
  | succ k ih => simp [rowD, cellsD, ih]; omega
theorem rowD_one (D : Nat → Dt) (n : Nat) : ∀ u ∈ rowD D n, u.oneCell' = true := by
  induction n with
  | zero => intro u h; simp [rowD] at h
  | succ k ih =>
    intro u h
    simp only [rowD, cellsD, List.mem_append, List.mem_cons, List.not_mem_nil, or_false] at h
    rcases h with h | rfl | rfl | rfl
    · exact ih u h
    all_goals rfl
theorem rowD_at (D : Nat → Dt) (n j : Nat) (h : j < n) : (rowD D n)[j * 3]? = some (.int .i64 (D j).1) ∧ (rowD D n)[j * 3 + 1]? = some (.int .i64 (D j).2.1) ∧ (rowD D n)[j * 3 + 2]? = some (.int .i64 (D j).2.2) := by
  induction n with
  | zero => omega
  | succ k ih =>
    have hl := rowD_len D k
    by_cases hj : j < k
    · obtain ⟨h1, h2, h3⟩ := ih hj
      refine ⟨?_, ?_, ?_⟩
      · rw [rowD, List.getElem?_append_left (by omega)]; exact h1
      · rw [rowD, List.getElem?_append_left (by omega)]; exact h2
      · rw [rowD, List.getElem?_append_left (by omega)]; exact h3
    · obtain rfl : j = k := by omega
      refine ⟨?_, ?_, ?_⟩
      · rw [rowD, List.getElem?_append_right (by omega), hl, show j * 3 - j * 3 = 0 by omega]; rfl
      · rw [rowD, List.getElem?_append_right (by omega), hl, show j * 3 + 1 - j * 3 = 1 by omega]; rfl
      · rw [rowD, List.getElem?_append_right (by omega), hl, show j * 3 + 2 - j * 3 = 2 by omega]; rfl
theorem isD_of_own {w : World} {base g n cap : Nat} {D : Nat → Dt} (h : w.ownsRow base 26 3 (.slice (some ⟨g, 0, none⟩) n cap) n (rowD D n)) : IsD w g n D := by
  intro j hj
  obtain ⟨h1, h2, h3⟩ := rowD_at D n j hj
  refine ⟨?_, ?_, ?_⟩
  · rw [h.cellAt _ (by omega)]; exact h1
  · rw [h.cellAt _ (by omega)]; exact h2
  · rw [h.cellAt _ (by omega)]; exact h3
theorem news_of_isD {w : World} {g n : Nat} {D : Nat → Dt} (h : IsD w g n D) : ∀ j u, (rowD D n)[j]? = some u → w.cell? ((⟨g, 0, none⟩ : Addr).add j) = some u := by
  intro j u hu
  have hl : j < n * 3 := by rw [← rowD_len D n]; exact (List.getElem?_eq_some_iff.1 hu).1
  have hq : j / 3 < n := by omega
  obtain ⟨h1, h2, h3⟩ := rowD_at D n (j / 3) hq
  obtain ⟨k1, k2, k3⟩ := h (j / 3) hq
  have hr : j = j / 3 * 3 ∨ j = j / 3 * 3 + 1 ∨ j = j / 3 * 3 + 2 := by omega
  simp only [Addr.add_lit, Nat.zero_add]
  rcases hr with hr | hr | hr
  · rw [← hr] at h1 k1; rw [k1, ← h1, hu]
  · rw [← hr] at h2 k2; rw [k2, ← h2, hu]
  · rw [← hr] at h3 k3; rw [k3, ← h3, hu]
theorem cell3_new (W : World) (a b c : Value) (T n : Nat) (h : n = W.heap.size) : ∀ j u, [a, b, c][j]? = some u → (W.alloc (.cells #[a, b, c] T)).cell? ((⟨n, 0, none⟩ : Addr).add j) = some u := by
  subst h
  intro j u hj
  match j, hj with
  | 0, hj => simp at hj; subst hj; simp [Addr.add]
  | 1, hj => simp at hj; subst hj; simp [Addr.add]
  | 2, hj => simp at hj; subst hj; simp [Addr.add]
theorem oneCellD (d : Dt) : ∀ u ∈ cellsD d, u.oneCell' = true := by
  intro u hu; simp [cellsD] at hu; rcases hu with rfl | rfl | rfl <;> rfl

set_option maxRecDepth 100000 in
set_option maxHeartbeats 1000000 in
theorem clone4 (g n cap : Nat) (D : Nat → Dt) (w : World) (hn : 0 < n) (hm : n ≤ 2097152) (hD : IsD w g n D) :
    Calls Yba.prog 4 #[.slice (some ⟨g, 0, none⟩) n cap] w fun e w' => (∃ g2 c2, e = .returned (.slice (some ⟨g2, 0, none⟩) n c2) ∧ IsD w' g2 n D) ∧ Below w.heap.size w w' := by
  have HD : Hid (IsD w g n D) := hD
  clear hD
  obtain ⟨i0, hI, hz0, hz1, hz2⟩ := info_parts3 info26
  have hg : g < w.heap.size := World.block_lt_of_cell? _ _ (HD.out 0 hn).1
  have hq := fun W a n c n' c' => Lib.run_eql_slice_nil (P := Yba.prog) W 24 26 a n c n' c' Yba.underlying24
  have HN : Hid (∀ j u, (rowD D n)[j]? = some u → (w.alloc (.cells #[] 26)).cell? ((⟨g, 0, none⟩ : Addr).add j) = some u) := news_of_isD (HD.out.below ((Below.refl _ _).alloc (Nat.le_refl _) _))
  go_enter Yba.func4, Yba.ntmps4
  go_wp2_with (at_builtin; refine wpList_append_own _ rfl _ _ 24 rfl w.heap.size 26 i0 (.agg #[.int .i64 0, .int .i64 0, .int .i64 0]) 3 24 Yba.underlying24 hI hz0 hz1 hz2 rfl (by decide) _ 0 [] rfl (World.ownsRow_made w #[] 0 (Nat.le_refl _) (Nat.zero_le _) rfl) ⟨g, 0, none⟩ n cap (rowD D n) rfl (rowD_len D n) HN.out (rowD_one D n) (by unfold maxLen; omega) (by omega) (by simp) ?_)
  intro v' w1 hown hgr hnn
  have hb1 : Below w.heap.size w w1 := ((Below.refl _ _).alloc (Nat.le_refl _) _).grown hgr (by simp) (by intro k hk; simp [Value.ownBlock] at hk; omega)
  obtain ⟨g2, c2, rfl, hd⟩ : ∃ g2 c2, v' = .slice (some ⟨g2, 0, none⟩) n c2 ∧ IsD w1 g2 n D := by
    rcases hown.2 with ⟨h, _⟩ | ⟨g2, c2, cur, h, _⟩
    · exact absurd h hnn
    · subst h; exact ⟨g2, c2, rfl, isD_of_own hown⟩
  have HE : Hid (IsD w1 g2 n D) := hd
  clear hd hown hgr hnn
  go_wp2
  go_ret
  exact ⟨⟨g2, c2, rfl, HE.out⟩, hb1⟩

set_option maxRecDepth 100000 in
set_option maxHeartbeats 1000000 in
theorem equal7 (g g2 n cap c2 : Nat) (D : Nat → Dt) (w : World) (hm : n ≤ 2097152) (hD : IsD w g n D) (hD2 : IsD w g2 n D) :
    Calls Yba.prog 7 #[.slice (some ⟨g, 0, none⟩) n cap, .slice (some ⟨g2, 0, none⟩) n c2] w fun e w' => e = .returned (.bool true) ∧ Below w.heap.size w w' := by
  have HD : Hid (IsD w g n D) := hD
  have HD2 : Hid (IsD w g2 n D) := hD2
  clear hD hD2
  go_enter Yba.func7, Yba.ntmps7
  go_wp2_with fail
  go_loopw [13] (fun i wr => ∃ k : Nat, k ≤ n ∧ i = .int .i64 k ∧ Hid (Below w.heap.size w wr)) (fun i _ => n - (intOf i).toNat)
  case atStart => exact ⟨0, Nat.zero_le _, rfl, Below.refl _ _⟩
  case round =>
    obtain ⟨k, hk, rfl, HB⟩ := hrel
    by_cases hkn : k < n
    · obtain ⟨a0, a1, a2⟩ := HD.out.below HB.out k hkn
      obtain ⟨b0, b1, b2⟩ := HD2.out.below HB.out k hkn
      go_wp2_with fail
      go_quiet (fail)
      go_wp2
      go_roundw
      case rel => exact ⟨k + 1, by omega, by go_num, below_drewN HB.out _⟩
      case measure => simp [intOf]; omega
    · obtain rfl : k = n := by omega
      go_wp2_with fail
      go_ret
      exact ⟨rfl, HB.out⟩
end Go.Proofs.Ybulkdqzq
