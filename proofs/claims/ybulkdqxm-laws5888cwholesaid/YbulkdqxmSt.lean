import Derived.Test.YbulkdqxmRel
namespace Go.Proofs.Ybulkdqxm
open Go.RowKit Go.MapKept Go.Maps
set_option linter.unusedVariables false

/-- what stands while the maps are filled: B: the heap's size at the call; the maps' blocks B + 1 .. B + 4, h's block B + 5. -/
def St (w W : World) (B : Nat) (kp kh kf kt : List ByteArray) (vp vh vf vt : ByteArray → Value) : Prop :=
  Below B w W ∧ B + 6 ≤ W.heap.size ∧ (W.cell? ⟨B + 5, 0, none⟩ = some (.map (some (B + 1))) ∧ W.cell? ⟨B + 5, 1, none⟩ = some (.map (some (B + 2))) ∧ W.cell? ⟨B + 5, 2, none⟩ = some (.map (some (B + 3))) ∧ W.cell? ⟨B + 5, 3, none⟩ = some (.map (some (B + 4)))) ∧
  MapIs W (B + 1) kp vp ∧ MapIs W (B + 2) kh vh ∧ MapIs W (B + 3) kf vf ∧ MapIs W (B + 4) kt vt
section
variable {w W W' : World} {B : Nat} {kp kh kf kt kx : List ByteArray} {vp vh vf vt vx : ByteArray → Value}
theorem St.below (h : St w W B kp kh kf kt vp vh vf vt) (hb : Below W.heap.size W W') : St w W' B kp kh kf kt vp vh vf vt := by
  obtain ⟨h1, h2, ⟨c0, c1, c2, c3⟩, m1, m2, m3, m4⟩ := h
  exact ⟨h1.trans (hb.mono (by omega)), Nat.le_trans h2 hb.size, ⟨cellB hb c0, cellB hb c1, cellB hb c2, cellB hb c3⟩, m1.below hb, m2.below hb, m3.below hb, m4.below hb⟩
theorem cellG {b : Nat} (hg : W.grownBy W' (some b)) {p : Addr} {v : Value} (h : W.cell? p = some v) (hne : p.block ≠ b) : W'.cell? p = some v :=
  (World.cell?_of_block (w := W) (hg.block p.block (World.block_lt_of_cell? _ _ h) (fun e => hne (by cases e; rfl)))).trans h
theorem St.row (h : St w W B kp kh kf kt vp vh vf vt) {g : Nat} (hg : W.grownBy W' (some g)) (hb : B + 6 ≤ g) : St w W' B kp kh kf kt vp vh vf vt := by
  obtain ⟨h1, h2, ⟨c0, c1, c2, c3⟩, m1, m2, m3, m4⟩ := h
  have q : ∀ j, j ≤ 5 → some (B + j) ≠ some g := fun j hj e => by cases e; omega
  exact ⟨h1.grown hg (by omega) (fun k hk => by cases hk; omega), Nat.le_trans h2 hg.size, ⟨cellG hg c0 (by show B + 5 ≠ g; omega), cellG hg c1 (by show B + 5 ≠ g; omega), cellG hg c2 (by show B + 5 ≠ g; omega), cellG hg c3 (by show B + 5 ≠ g; omega)⟩,
    m1.grown hg (q 1 (by omega)), m2.grown hg (q 2 (by omega)), m3.grown hg (q 3 (by omega)), m4.grown hg (q 4 (by omega))⟩
theorem St.h (h : St w W B kp kh kf kt vp vh vf vt) (hg : W.grownBy W' (some (B + 2))) (hm : MapIs W' (B + 2) kx vx) : St w W' B kp kx kf kt vp vx vf vt := by
  obtain ⟨h1, h2, ⟨c0, c1, c2, c3⟩, m1, m2, m3, m4⟩ := h
  have q : ∀ j, j ≠ 2 → some (B + j) ≠ some (B + 2) := fun j hj e => hj (by simpa using e)
  exact ⟨h1.grown hg (by omega) (fun k hk => by cases hk; omega), Nat.le_trans h2 hg.size, ⟨cellG hg c0 (by simp), cellG hg c1 (by simp), cellG hg c2 (by simp), cellG hg c3 (by simp)⟩,
    m1.grown hg (q 1 (by omega)), hm, m3.grown hg (q 3 (by omega)), m4.grown hg (q 4 (by omega))⟩
theorem St.p (h : St w W B kp kh kf kt vp vh vf vt) (hg : W.grownBy W' (some (B + 1))) (hm : MapIs W' (B + 1) kx vx) : St w W' B kx kh kf kt vx vh vf vt := by
  obtain ⟨h1, h2, ⟨c0, c1, c2, c3⟩, m1, m2, m3, m4⟩ := h
  have q : ∀ j, j ≠ 1 → some (B + j) ≠ some (B + 1) := fun j hj e => hj (by simpa using e)
  exact ⟨h1.grown hg (by omega) (fun k hk => by cases hk; omega), Nat.le_trans h2 hg.size, ⟨cellG hg c0 (by simp), cellG hg c1 (by simp), cellG hg c2 (by simp), cellG hg c3 (by simp)⟩,
    hm, m2.grown hg (q 2 (by omega)), m3.grown hg (q 3 (by omega)), m4.grown hg (q 4 (by omega))⟩
theorem St.f (h : St w W B kp kh kf kt vp vh vf vt) (hg : W.grownBy W' (some (B + 3))) (hm : MapIs W' (B + 3) kx vx) : St w W' B kp kh kx kt vp vh vx vt := by
  obtain ⟨h1, h2, ⟨c0, c1, c2, c3⟩, m1, m2, m3, m4⟩ := h
  have q : ∀ j, j ≠ 3 → some (B + j) ≠ some (B + 3) := fun j hj e => hj (by simpa using e)
  exact ⟨h1.grown hg (by omega) (fun k hk => by cases hk; omega), Nat.le_trans h2 hg.size, ⟨cellG hg c0 (by simp), cellG hg c1 (by simp), cellG hg c2 (by simp), cellG hg c3 (by simp)⟩,
    m1.grown hg (q 1 (by omega)), m2.grown hg (q 2 (by omega)), hm, m4.grown hg (q 4 (by omega))⟩
theorem St.t (h : St w W B kp kh kf kt vp vh vf vt) (hg : W.grownBy W' (some (B + 4))) (hm : MapIs W' (B + 4) kx vx) : St w W' B kp kh kf kx vp vh vf vx := by
  obtain ⟨h1, h2, ⟨c0, c1, c2, c3⟩, m1, m2, m3, m4⟩ := h
  have q : ∀ j, j ≠ 4 → some (B + j) ≠ some (B + 4) := fun j hj e => hj (by simpa using e)
  exact ⟨h1.grown hg (by omega) (fun k hk => by cases hk; omega), Nat.le_trans h2 hg.size, ⟨cellG hg c0 (by simp), cellG hg c1 (by simp), cellG hg c2 (by simp), cellG hg c3 (by simp)⟩,
    m1.grown hg (q 1 (by omega)), m2.grown hg (q 2 (by omega)), m3.grown hg (q 3 (by omega)), hm⟩
end
/-- .. with nothing in the maps -/
theorem st_new (w w1 : World) (val : ByteArray → Value) (hb : Below w.heap.size w w1) (hs : w1.heap.size = w.heap.size + 5) (hm : ∀ j, 1 ≤ j → j ≤ 4 → ∀ val, MapIs w1 (w.heap.size + j) [] val) :
    St w (w1.alloc (.cells #[.map (some (w.heap.size + 1)), .map (some (w.heap.size + 2)), .map (some (w.heap.size + 3)), .map (some (w.heap.size + 4))] 44)) w.heap.size [] [] [] [] val val val val := by
  refine ⟨hb.alloc (by omega) _, by simp; omega, ?_, (hm 1 (by omega) (by omega) val).alloc _, (hm 2 (by omega) (by omega) val).alloc _, (hm 3 (by omega) (by omega) val).alloc _, (hm 4 (by omega) (by omega) val).alloc _⟩
  rw [← hs]
  refine ⟨by simp, by simp, by simp, by simp⟩
end Go.Proofs.Ybulkdqxm
