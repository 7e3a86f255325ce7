import Derived.Test.YbulkdqyoBase
namespace Go.Proofs.Ybulkdqyo
open Go.RowKit
set_option linter.unusedVariables false

def ivals (l : List Int) : List Value := l.map (Value.int .i32)

/-- 'got' lies in block gb and holds L; of all else that was there at W0 nothing has turned. -/
def Inv (W0 wr : World) (gb : Nat) (L : List Int) : Prop :=
  ∃ a c, wr.heap[gb]? = some (.cells #[.slice a L.length c] 22 (0, 0)) ∧ wr.ownsRow W0.heap.size 21 1 (.slice a L.length c) L.length (ivals L) ∧ W0.grownBy wr (some gb) ∧ gb < W0.heap.size

theorem Inv.cellOld {W0 wr : World} {gb : Nat} {L : List Int} (h : Inv W0 wr gb L) {p : Addr} {v : Value} (hp : W0.cell? p = some v) (hne : p.block ≠ gb) : wr.cell? p = some v := by
  obtain ⟨a, c, _, _, hg, _⟩ := h
  exact hg.cell hp (by simpa using hne)
theorem Inv.sizeLe {W0 wr : World} {gb : Nat} {L : List Int} (h : Inv W0 wr gb L) : W0.heap.size ≤ wr.heap.size := by
  obtain ⟨a, c, _, _, hg, _⟩ := h; exact hg.size
theorem slice_shape {w : World} {base : Nat} {e : TypeId} {v : Value} {n : Nat} {xs : List Value} (h : w.ownsRow base e 1 v n xs) : ∃ a c, v = .slice a n c := by
  rcases h.2 with ⟨hv, rfl⟩ | ⟨g, cap, cur, hv, _⟩
  · exact ⟨_, _, hv⟩
  · exact ⟨_, _, hv⟩
theorem grown_trans {a b c : World} {row : Option Nat} (h : a.grownBy b row) (k : b.grownBy c row) : a.grownBy c row :=
  ⟨k.os.trans h.os, k.tape.trans h.tape, k.output.trans h.output, Nat.le_trans h.size k.size, fun i hi hne => (k.block i (Nat.lt_of_lt_of_le hi h.size) hne).trans (h.block i hi hne)⟩
/-- A row of later blocks alone was written. -/
theorem grown_later {W0 a b : World} {gb : Nat} {row : Option Nat} (h : W0.grownBy a (some gb)) (k : a.grownBy b row) (hr : ∀ q, row = some q → W0.heap.size ≤ q) : W0.grownBy b (some gb) :=
  ⟨k.os.trans h.os, k.tape.trans h.tape, k.output.trans h.output, Nat.le_trans h.size k.size, fun i hi hne => (k.block i (Nat.lt_of_lt_of_le hi h.size) (fun e => by have := hr i e.symm; omega)).trans (h.block i hi hne)⟩
theorem grown_cell {W0 a : World} {gb : Nat} (h : W0.grownBy a (some gb)) (v : Value) : W0.grownBy (a.setCell ⟨gb, 0, none⟩ v) (some gb) :=
  ⟨h.os, h.tape, h.output, by rw [World.size_setCell]; exact h.size, fun i hi hne => (Below.heap_setCell _ _ _ _ (by simpa using hne)).trans (h.block i hi hne)⟩

/-- What the closure does to the state, outside the walk. -/
theorem inv_step {W0 wr w1 : World} {gb : Nat} {L : List Int} {p : Int} {a : Option Addr} {c : Nat} {o : Obj} {a' : Option Addr} {c' : Nat} (hblk : wr.heap[gb]? = some (.cells #[.slice a L.length c] 22 (0, 0)))
    (hown : wr.ownsRow W0.heap.size 21 1 (.slice a L.length c) L.length (ivals L)) (hg : W0.grownBy wr (some gb)) (hlt : gb < W0.heap.size)
    (hown' : w1.ownsRow W0.heap.size 21 1 (.slice a' (L.length + 1) c') (L.length + 1) (ivals L ++ [.int .i32 p])) (hgr : (wr.alloc o).grownBy w1 (Value.slice a L.length c).ownBlock) :
    Inv W0 (w1.setCell ⟨gb, 0, none⟩ (.slice a' (L.length + 1) c')) gb (L ++ [p]) := by
  have hge : ∀ q, (Value.slice a L.length c).ownBlock = some q → W0.heap.size ≤ q := fun q hq => (hown.lt q hq).1
  have hw1 : W0.grownBy w1 (some gb) := grown_later (grown_later hg (World.grownBy_alloc wr o none) (fun q hq => by cases hq)) hgr hge
  have hb1 : w1.heap[gb]? = some (.cells #[.slice a L.length c] 22 (0, 0)) := by
    rw [hgr.block gb (by have := hg.size; simp; omega) (fun e => by have := hge gb e.symm; omega)]
    rw [Below.heap_alloc _ _ _ (by have := hg.size; omega)]; exact hblk
  have hl : (L ++ [p]).length = L.length + 1 := by simp
  refine ⟨a', c', ?_, ?_, grown_cell hw1 _, hlt⟩
  · rw [hl]; exact one_setCell hb1
  · rw [hl]
    have := ownsRow_setCell_below hown' (a := ⟨gb, 0, none⟩) hlt (.slice a' (L.length + 1) c')
    simpa [ivals] using this

set_option maxHeartbeats 400000 in
theorem yield_any (W0 wr : World) (gb lb : Nat) (L : List Int) (p : Int) (lim : Nat) (hI : Inv W0 wr gb L) (hlim : W0.cell? ⟨lb, 0, none⟩ = some (.int .i64 lim)) (hlg : lb ≠ gb) (hL : L.length ≤ 2097152) (hll : lim ≤ 65535) (b : Bool) (hb : b = (lim == 0 || decide (L.length + 1 < lim))) :
    Calls Yba.prog 8 #[.int .i32 p, .pointer (some ⟨gb, 0, none⟩), .pointer (some ⟨lb, 0, none⟩)] wr fun e w' => e = .returned (.bool b) ∧ Inv W0 w' gb (L ++ [p]) := by
  obtain ⟨i0, hi, hz0, hz1, hz2⟩ := info_parts info21
  have c2 := hI.cellOld hlim hlg
  have hsz := hI.sizeLe
  obtain ⟨a, c, hblk, hown, hg, hlt⟩ := hI
  have c1 := cell_of_one hblk
  have f1 := free_of_one hblk
  have HB : Hid (wr.heap[gb]? = some (.cells #[.slice a L.length c] 22 (0, 0))) := hblk
  have HO : Hid (wr.ownsRow W0.heap.size 21 1 (.slice a L.length c) L.length (ivals L)) := hown
  have HG : Hid (W0.grownBy wr (some gb)) := hg
  have hgb : gb < wr.heap.size := by omega
  have hlb : lb < wr.heap.size := World.block_lt_of_cell? _ _ c2
  clear hblk hown hg
  go_enter Yba.func8, Yba.ntmps8
  go_wp2_with (at_builtin; refine wpList_append_own _ rfl _ _ 22 rfl W0.heap.size 21 i0 (.int .i32 0) 1 4 Yba.underlying22 hi hz0 hz1 hz2 rfl (by decide) _ _ _ rfl (HO.out.alloc _) ⟨wr.heap.size, 0, none⟩ 1 1 [.int .i32 p] rfl rfl (cell_one_new _ _ _) (ints_oneCell .i32 [p]) (by unfold maxLen; omega) (by omega) (by simp; omega) ?_)
  intro v' w1 hown' hgr hnl
  obtain ⟨a', c', hv'⟩ := slice_shape hown'
  rw [hv'] at hown' ⊢
  have R := inv_step HB.out HO.out HG.out hlt hown' hgr
  have HR : Hid (Inv W0 (w1.setCell ⟨gb, 0, none⟩ (.slice a' (L.length + 1) c')) gb (L ++ [p])) := R
  have d1 : w1.cell? ⟨gb, 0, none⟩ = some (.slice a L.length c) := (hgr.cell (a := ⟨gb, 0, none⟩) ((World.cell?_alloc_lt _ _ _ hgb).trans c1) (fun e => by have := (HO.out.lt gb e.symm).1; omega))
  have d2 : w1.frozen? ⟨gb, 0, none⟩ = false := by
    rw [World.frozen?_of_block (w := wr.alloc _) (hgr.block gb (by simp; omega) (fun e => by have := (HO.out.lt gb e.symm).1; omega))]
    rw [World.frozen?_of_block (w := wr) (Below.heap_alloc _ _ _ hgb)]; exact f1
  have d3 : w1.cell? ⟨lb, 0, none⟩ = some (.int .i64 lim) := (hgr.cell (a := ⟨lb, 0, none⟩) ((World.cell?_alloc_lt _ _ _ hlb).trans c2) (fun e => by have h1 := (HO.out.lt lb e.symm).1; have := World.block_lt_of_cell? _ _ hlim; simp at this; omega))
  have d4 : gb < w1.heap.size := World.block_lt_of_cell? _ _ d1
  clear hv' hown' hgr hnl R
  by_cases h0 : lim = 0
  · subst h0
    subst hb
    go_wp2_with fail
    go_ret
    exact ⟨by simp, HR.out⟩
  · have e0 : ((lim : Int) == 0) = false := by rw [beq_eq_false_iff_ne]; omega
    have hd : decide ((L.length : Int) + 1 < (lim : Int)) = b := by
      rw [hb, Bool.eq_iff_iff]; simp [h0]; omega
    have HD : Hid (decide ((L.length : Int) + 1 < (lim : Int)) = b) := hd
    clear hb hd
    go_wp2_with fail
    go_ret
    exact ⟨congrArg (fun x => Ending.returned (Value.bool x)) HD.out, HR.out⟩
end Go.Proofs.Ybulkdqyo
