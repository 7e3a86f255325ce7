import Derived.Test.YbulkdqxmSt
namespace Go.Proofs.Ybulkdqxm
open Go.RowKit Go.MapKept Go.Maps
set_option linter.unusedVariables false

/-- a slice of n strings of the call's own, its row at lo or above -/
def IsN (w : World) (lo : Nat) (a : Option Addr) (n : Nat) (K : Nat → ByteArray) : Prop := n = 0 ∨ ∃ g, a = some ⟨g, 0, none⟩ ∧ lo ≤ g ∧ ∀ j, j < n → w.cell? ⟨g, j, none⟩ = some (.string (K j))
theorem IsN.isS {w : World} {lo : Nat} {a : Option Addr} {n : Nat} {K : Nat → ByteArray} (h : IsN w lo a n K) : IsS w a n K := by
  rcases h with h | ⟨g, ha, _, hc⟩
  · exact .inl h
  · exact .inr ⟨g, 0, ha, fun j hj => by rw [Nat.zero_add]; exact hc j hj⟩
theorem IsN.below {W w' : World} {lo : Nat} {a : Option Addr} {n : Nat} {K : Nat → ByteArray} (h : IsN W lo a n K) (hb : Below W.heap.size W w') : IsN w' lo a n K := by
  rcases h with h | ⟨g, ha, hl, hc⟩
  · exact .inl h
  · exact .inr ⟨g, ha, hl, fun j hj => cellB hb (hc j hj)⟩
/-- every block from B + 5 on that W had is as it was -/
def Keep (B : Nat) (W W' : World) : Prop := W.heap.size ≤ W'.heap.size ∧ ∀ k, B + 5 ≤ k → k < W.heap.size → W'.heap[k]? = W.heap[k]?
section
variable {B : Nat} {W W' W'' : World}
theorem Keep.refl (B : Nat) (W : World) : Keep B W W := ⟨Nat.le_refl _, fun _ _ _ => rfl⟩
theorem Keep.below (h : Keep B W W') (hb : Below W'.heap.size W' W'') : Keep B W W'' := ⟨Nat.le_trans h.1 hb.size, fun k h1 h2 => (hb.block k (Nat.lt_of_lt_of_le h2 h.1)).trans (h.2 k h1 h2)⟩
theorem Keep.grown (h : Keep B W W') {b : Nat} (hg : W'.grownBy W'' (some b)) (hb : b < B + 5 ∨ W.heap.size ≤ b) : Keep B W W'' :=
  ⟨Nat.le_trans h.1 hg.size, fun k h1 h2 => (hg.block k (Nat.lt_of_lt_of_le h2 h.1) (fun e => by cases e; omega)).trans (h.2 k h1 h2)⟩
theorem Keep.cell (h : Keep B W W') {p : Addr} {v : Value} (hp : W.cell? p = some v) (hb : B + 5 ≤ p.block) : W'.cell? p = some v :=
  (World.cell?_of_block (w := W) (h.2 p.block hb (World.block_lt_of_cell? _ _ hp))).trans hp
theorem Keep.mapIs (h : Keep B W W') {m : Nat} {ks : List ByteArray} {val : ByteArray → Value} (hm : MapIs W m ks val) (hb : B + 5 ≤ m) : MapIs W' m ks val := hm.of_block (h.2 m hb hm.lt)
theorem Keep.mapO (h : Keep B W W') {mb : Option Nat} {ks : List ByteArray} {val : ByteArray → Value} (hm : MapO W mb ks val) (hb : ∀ b, mb = some b → B + 6 ≤ b) : MapO W' mb ks val := by
  rcases hm with hm | ⟨b, rfl, hm⟩
  · exact .inl hm
  · exact .inr ⟨b, rfl, h.mapIs hm (by have := hb b rfl; omega)⟩
theorem Keep.rowIs (h : Keep B W W') {g t n : Nat} {f : Nat → Value} (hr : W.rowIs g t n f) (hb : B + 5 ≤ g) : W'.rowIs g t n f := hr.of_block (h.2 g hb hr.lt)
theorem Keep.isN (h : Keep B W W') {lo : Nat} {a : Option Addr} {n : Nat} {K : Nat → ByteArray} (hr : IsN W lo a n K) (hb : B + 5 ≤ lo) : IsN W' lo a n K := by
  rcases hr with h0 | ⟨g, ha, hl, hc⟩
  · exact .inl h0
  · exact .inr ⟨g, ha, hl, fun j hj => h.cell (hc j hj) (by show B + 5 ≤ g; omega)⟩
theorem Keep.but (h : Keep B W W') {b c : Nat} (hB : But W' W'' b c) (hb : b < B + 5) (hc : c < B + 5) : Keep B W W'' :=
  ⟨Nat.le_trans h.1 hB.2.2.2.1, fun k h1 h2 => (hB.2.2.2.2 k (Nat.lt_of_lt_of_le h2 h.1) (by omega) (by omega)).trans (h.2 k h1 h2)⟩
end

theorem clone6 (a : Option Addr) (n c : Nat) (K : Nat → ByteArray) (w : World) (h : IsS w a n K) (hnil : a = none → n = 0 ∧ c = 0) (hn : n ≤ 4096) :
    Calls Yba.prog 6 #[.slice a n c] w fun e w' => (∃ va vc, e = .returned (.slice va n vc) ∧ IsN w' w.heap.size va n K) ∧ Below w.heap.size w w' := by
  cases a with
  | none =>
    obtain ⟨rfl, rfl⟩ := hnil rfl
    refine (Yba.slices_Clone_string_nil 0 0 w).mono ?_
    rintro e w' ⟨rfl, rfl⟩
    exact ⟨⟨none, 0, rfl, .inl rfl⟩, Below.refl _ _⟩
  | some x =>
    by_cases h0 : n = 0
    · subst h0
      refine (Yba.slices_Clone_string_zero x c w).mono ?_
      rintro e w' ⟨v', rfl, hrow, hne, hb⟩
      rcases hrow.2 with ⟨rfl, _⟩ | ⟨g, cap, cur, rfl, _⟩
      · exact ⟨⟨none, 0, rfl, .inl rfl⟩, hb⟩
      · exact ⟨⟨_, cap, rfl, .inl rfl⟩, hb⟩
    · rcases h with h | ⟨b, off, hx, hc⟩
      · exact absurd h h0
      cases hx
      refine (Yba.slices_Clone_string b off n c (rowS K n) w (by rw [rowS_len]; exact Nat.le_refl _) (by omega) (fun j hj => ?_)).mono ?_
      · rw [rowS_len] at hj; rw [rowS_getD _ _ _ hj]; exact hc j hj
      · rintro e w' ⟨v', rfl, hrow, hne, hb⟩
        rw [rowS_take] at hrow
        rcases hrow.2 with ⟨rfl, h1⟩ | ⟨g, cap, cur, rfl, hlo, _⟩
        · exact absurd h1 h0
        · refine ⟨⟨_, cap, rfl, .inr ⟨g, rfl, hlo, fun j hj => ?_⟩⟩, hb⟩
          rw [hrow.cellAt j (by omega)]
          simp [rowS, hj]
theorem equal10 (a a' : Option Addr) (n c c' : Nat) (K : Nat → ByteArray) (w : World) (h : IsS w a n K) (h' : IsS w a' n K) (hn : n ≤ 4096) :
    Calls Yba.prog 10 #[.slice a n c, .slice a' n c'] w fun e w' => e = .returned (.bool true) ∧ Below w.heap.size w w' := by
  by_cases h0 : n = 0
  · subst h0
    refine (Yba.slices_Equal_string_empty a a' c 0 c' w (by omega)).mono ?_
    rintro e w' ⟨rfl, rfl⟩
    exact ⟨by simp, Below.refl _ _⟩
  · rcases h with h | ⟨b, off, rfl, hc⟩
    · exact absurd h h0
    rcases h' with h' | ⟨b', off', rfl, hc'⟩
    · exact absurd h' h0
    refine (Yba.slices_Equal_string b off n c b' off' n c' (rowS K n) (rowS K n) w (by rw [rowS_len]; exact Nat.le_refl _) (by rw [rowS_len]; exact Nat.le_refl _) (by omega) (by omega) (fun j hj => ?_) (fun j hj => ?_)).mono ?_
    · rw [rowS_len] at hj; rw [rowS_getD _ _ _ hj]; exact hc j hj
    · rw [rowS_len] at hj; rw [rowS_getD _ _ _ hj]; exact hc' j hj
    · rintro e w' ⟨rfl, q, rfl⟩
      exact ⟨by simp, below_drewN (Below.refl _ _) q⟩
end Go.Proofs.Ybulkdqxm
