import Derived.Test.YbulkdqyoRows
import Derived.WalkKit
import Derived.WalkLawsBesides
import Derived.WalkSpells
import Derived.WalkSmall
import Derived.OpenShut
import Derived.Below
import Derived.Laws.CopyOwn
import Derived.Deep.OwnRows
import Derived.Deep.LoopGhost
import Derived.Deep.Cut
import Derived.Deep.CutRange
import Derived.Deep.QuietTactic
import Derived.BigQuiet
namespace Go.Proofs.Ybulkdqyo
open Go.RowKit
set_option linter.unusedVariables false

theorem info50 : (Yba.prog.info? 50).map (fun i => (i.zero, i.size, i.bytes)) = some (some (.int .u8 0), 1, 1) := by kernel_rfl
theorem size50 : (Yba.prog.info? 50).map (·.size) = some 1 := by kernel_rfl
theorem info21 : (Yba.prog.info? 21).map (fun i => (i.zero, i.size, i.bytes)) = some (some (.int .i32 0), 1, 4) := by kernel_rfl

/-- A slice of n cells, nil and empty ones among them, as the world holds it. -/
def IsV (w : World) (a : Option Addr) (n : Nat) (f : Nat → Value) : Prop := n = 0 ∨ ∃ b off, a = some ⟨b, off, none⟩ ∧ ∀ j, j < n → w.cell? ⟨b, off + j, none⟩ = some (f j)
theorem cell_below {W w' : World} (hb : Below W.heap.size W w') {p : Addr} {v : Value} (h : W.cell? p = some v) : w'.cell? p = some v := (hb.cell (World.block_lt_of_cell? _ _ h)).trans h
theorem IsV.below {W w' : World} {a : Option Addr} {n : Nat} {f : Nat → Value} (h : IsV W a n f) (hb : Below W.heap.size W w') : IsV w' a n f := by
  rcases h with h | ⟨b, off, ha, hc⟩
  · exact .inl h
  · exact .inr ⟨b, off, ha, fun j hj => cell_below hb (hc j hj)⟩
theorem isV_of {w : World} {k : IntKind} {x : Addr} {len : Nat} {zs : List Int} (hl : len ≤ zs.length) (hc : ∀ i, i < zs.length → w.cell? (x.add i) = some (.int k (zs.getD i 0))) : IsV w (some x) len (fun j => .int k (zs.getD j 0)) := by
  by_cases h0 : len = 0
  · exact .inl h0
  · obtain ⟨b, off, spot⟩ := x
    have hspot : spot = none := by simpa [Addr.add] using World.cell?_spot (hc 0 (by omega))
    subst hspot
    exact .inr ⟨b, off, rfl, fun j hj => by have := hc j (by omega); rwa [Addr.add_lit] at this⟩
theorem isV_row {w : World} {g : Nat} {t : TypeId} {n : Nat} {f : Nat → Value} (h : w.rowIs g t n f) : IsV w (some ⟨g, 0, none⟩) n f := .inr ⟨g, 0, rfl, fun j hj => by rw [Nat.zero_add]; exact h.cell hj⟩

theorem rowIs_below {W w' : World} {B g : Nat} {t : TypeId} {n : Nat} {f : Nat → Value} (h : W.rowIs g t n f) (hb : Below B W w') (hg : g < B) : w'.rowIs g t n f := h.of_block (hb.block g hg)
theorem rowIs_grown {W w' : World} {g : Nat} {row : Option Nat} {t : TypeId} {n : Nat} {f : Nat → Value} (h : W.rowIs g t n f) (hb : W.grownBy w' row) (hg : some g ≠ row) : w'.rowIs g t n f := h.of_block (hb.block g h.lt hg)
theorem bt {a b c : World} (h : Below a.heap.size a b) (k : Below b.heap.size b c) : Below a.heap.size a c := h.trans (k.mono h.size)

theorem list_of {n : Nat} (f : Nat → Value) (l : List Value) (hl : l.length = n) (h : ∀ j, j < n → l[j]? = some (f j)) : l = (List.range n).map f := by
  apply List.ext_getElem?
  intro j
  by_cases hj : j < n
  · rw [h j hj]; simp [hj]
  · rw [List.getElem?_eq_none (by omega)]; simp [hj]

/-- 'copy(dst, src)', dst a whole row of the call's own, src as long: the row holds what src holds; no other block turns. -/
theorem wpList_copy_row {P : Program} {w : World} {ops : Array Oper} {rest : List Oper} {o : Oper} {a : Act} {Q : Exit → Act → World → Prop} (hgd : o.guard = none) (d s : Operand) (dT sT : TypeId)
    (ho : o.op = .call { callee := .builtin .copy, args := #[d, s], argTypes := #[dT, sT] }) (elem : TypeId) (hu : P.underlying dT = some (.slice elem)) (hsz : (P.info? elem).map (·.size) = some 1)
    (g n dCap : Nat) (sp : Option Addr) (sCap : Nat) (hd : a.eval d = .slice (some ⟨g, 0, none⟩) n dCap) (hs : a.eval s = .slice sp n sCap) (t : TypeId) (f0 f : Nat → Value) (hrow : w.rowIs g t n f0)
    (hsrc : IsV w sp n f) (h1 : ∀ j, j < n → (f j).oneCell' = true)
    (h : ∀ w', Hid (w'.rowIs g t n f) → w.grownBy w' (some g) → wpList P ops Q rest (a.put o.dst (goInt n)) w') : wpList P ops Q (o :: rest) a w := by
  by_cases h0 : n = 0
  · subst h0
    refine wpList_copy_nothing hgd d s dT sT ho elem hu hsz _ _ _ _ _ _ hd hs (by simp) ?_
    exact h w (hrow.congr (fun i hi => absurd hi (Nat.not_lt_zero _))) ⟨rfl, rfl, rfl, Nat.le_refl _, fun _ _ _ => rfl⟩
  · rcases hsrc with h' | ⟨b, off, rfl, hc⟩
    · exact absurd h' h0
    obtain ⟨cur, hg, hcs, hcell⟩ := hrow
    have hlen : ((List.range n).map f).length = n := by simp
    refine wpList_copy_own hgd d s dT sT ho elem hu hsz g 0 n dCap ⟨b, off, none⟩ n sCap hd hs cur t hg ((List.range n).map f) (by rw [hlen]; exact (Nat.min_self _).symm) ?_ (by rw [hlen, hcs]; omega) ?_ ?_
    · intro j v hv
      have hj : j < n := by have := (List.getElem?_eq_some_iff.1 hv).1; simpa using this
      rw [Addr.add_lit, hc j hj]
      simpa [hj] using hv
    · intro v hv
      obtain ⟨j, hj, rfl⟩ := List.mem_map.1 hv
      exact h1 j (List.mem_range.1 hj)
    · rw [hlen]
      refine h _ ?_ ?_
      · refine ⟨_, setRow_heap w g _ _ t _ hg, by simp [hcs], fun i hi => ?_⟩
        simp [List.getElem?_append, hi]
      · exact ⟨rfl, rfl, rfl, by simp [World.setRow], fun k _ hk => setRow_other w g k _ (fun e => hk (by rw [e]))⟩

/-- How many of the first n are contributors. -/
def cnt (f : Nat → Int) : Nat → Nat
  | 0 => 0
  | k + 1 => cnt f k + if f k = 1 then 1 else 0
theorem cnt_le (f : Nat → Int) (n : Nat) : cnt f n ≤ n := by
  induction n with
  | zero => simp [cnt]
  | succ k ih => simp only [cnt]; split <;> omega
theorem cnt_yes {f : Nat → Int} {k : Nat} (h : f k = 1) : cnt f (k + 1) = cnt f k + 1 := by simp [cnt, h]
theorem cnt_no {f : Nat → Int} {k : Nat} (h : ¬ f k = 1) : cnt f (k + 1) = cnt f k := by simp [cnt, h]

theorem contributors_any {a : Option Addr} {n c : Nat} {f : Nat → Int} {w : World} (hv : IsV w a n (fun j => .int .u8 (f j))) (hn : n ≤ 1048576) :
    Calls Yba.prog 9 #[.slice a n c] w fun e w' => e = .returned (.int .i64 (cnt f n)) ∧ w = w' := by
  by_cases h0 : n = 0
  · subst h0
    go_enter Yba.func9, Yba.ntmps9
    go_wp2
    refine wp_loop_rounds 1 ?_
    rw [rounds_succ]
    go_wp2
    go_ret
    exact ⟨rfl, rfl⟩
  rcases hv with h | ⟨b, off, rfl, hc⟩
  · exact absurd h h0
  have HC : Hid (∀ j, j < n → w.cell? ⟨b, off + j, none⟩ = some (.int .u8 (f j))) := hc
  clear hc
  go_enter Yba.func9, Yba.ntmps9
  go_wp2
  go_loop [3, 8] (fun t i => ∃ k : Nat, k ≤ n ∧ i = .int .i64 k ∧ t = .int .i64 (cnt f k)) (fun _ i => n - (intOf i).toNat)
  case atStart => exact ⟨0, Nat.zero_le _, rfl, rfl⟩
  case round =>
    obtain ⟨k, hk, rfl, rfl⟩ := hrel
    have hle := cnt_le f k
    by_cases hkn : k < n
    · have hc := HC.out k hkn
      by_cases h1 : f k = 1
      · have hs := cnt_yes h1
        have HS : Hid (cnt f (k + 1) = cnt f k + 1) := hs
        have hb : (f k == 1) = true := by simp [h1]
        clear hs h1
        go_wp2
        go_round
        case rel => exact ⟨k + 1, by omega, by go_num, by rw [HS.out]; go_num⟩
        case measure => simp [intOf]; omega
      · have hs := cnt_no h1
        have HS : Hid (cnt f (k + 1) = cnt f k) := hs
        have hb : (f k == 1) = false := by simp [h1]
        clear hs h1
        go_wp2
        go_round
        case rel => exact ⟨k + 1, by omega, by go_num, by rw [HS.out]⟩
        case measure => simp [intOf]; omega
    · obtain rfl : k = n := by omega
      go_wp2
      go_ret
      exact ⟨rfl, rfl⟩
end Go.Proofs.Ybulkdqyo
