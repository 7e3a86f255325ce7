import Derived.Test.YbulkdqxmModel
import Derived.Test.YbulkdqxmShelf
namespace Go.Proofs.Ybulkdqxm
open Go.RowKit
set_option linter.unusedVariables false

/-- A slice of n numbers, nil or empty ones among them, as the world holds it. -/
def IsI (w : World) (a : Option Addr) (n : Nat) (f : Nat → Int) : Prop := n = 0 ∨ ∃ b off, a = some ⟨b, off, none⟩ ∧ ∀ j, j < n → w.cell? ⟨b, off + j, none⟩ = some (.int .i64 (f j))
def IsS (w : World) (a : Option Addr) (n : Nat) (f : Nat → ByteArray) : Prop := n = 0 ∨ ∃ b off, a = some ⟨b, off, none⟩ ∧ ∀ j, j < n → w.cell? ⟨b, off + j, none⟩ = some (.string (f j))

theorem cell_below {W w' : World} (hb : Below W.heap.size W w') {p : Addr} {v : Value} (h : W.cell? p = some v) : w'.cell? p = some v := (hb.cell (World.block_lt_of_cell? _ _ h)).trans h
theorem IsI.below {W w' : World} {a : Option Addr} {n : Nat} {f : Nat → Int} (h : IsI W a n f) (hb : Below W.heap.size W w') : IsI w' a n f := by
  rcases h with h | ⟨b, off, ha, hc⟩
  · exact .inl h
  · exact .inr ⟨b, off, ha, fun j hj => cell_below hb (hc j hj)⟩
theorem IsS.below {W w' : World} {a : Option Addr} {n : Nat} {f : Nat → ByteArray} (h : IsS W a n f) (hb : Below W.heap.size W w') : IsS w' a n f := by
  rcases h with h | ⟨b, off, ha, hc⟩
  · exact .inl h
  · exact .inr ⟨b, off, ha, fun j hj => cell_below hb (hc j hj)⟩
theorem IsI.mono {W : World} {a : Option Addr} {n m : Nat} {f : Nat → Int} (h : IsI W a n f) (hm : m ≤ n) : IsI W a m f := by
  rcases h with h | ⟨b, off, ha, hc⟩
  · exact .inl (by omega)
  · exact .inr ⟨b, off, ha, fun j hj => hc j (by omega)⟩

theorem tab_len {α : Type} (n : Nat) (f : Nat → α) : ((List.range n).map f).length = n := by simp
theorem tab_get {α : Type} (n : Nat) (f : Nat → α) (d : α) (j : Nat) (h : j < n) : ((List.range n).map f).getD j d = f j := by simp [List.getD, h]

/-- The shape and the cells of a row that is owned. -/
theorem own_view {w : World} {base : Nat} {e : TypeId} {v : Value} {n : Nat} {xs : List Value} (h : w.ownsRow base e 1 v n xs) : (v = .slice none 0 0 ∧ n = 0) ∨ ∃ g cap, v = .slice (some ⟨g, 0, none⟩) n cap ∧ ∀ j u, xs[j]? = some u → w.cell? ⟨g, 0 + j, none⟩ = some u := by
  have hc := fun g (hg : v.ownBlock = some g) => h.cells hg
  rcases h.2 with ⟨hv, hn⟩ | ⟨g, cap, cur, hv, _⟩
  · exact .inl ⟨hv, hn⟩
  · refine .inr ⟨g, cap, hv, fun j u hu => ?_⟩
    have := hc g (by rw [hv]; rfl) j u hu
    rwa [Addr.add_lit] at this

theorem cloneI {a : Option Addr} {n c : Nat} {f : Nat → Int} {W : World} (hv : IsI W a n f) (hn : n ≤ 1048576) :
    Calls Yba.prog 5 #[.slice a n c] W fun e w' => ∃ a' c', e = .returned (.slice a' n c') ∧ IsI w' a' n f ∧ Below W.heap.size W w' := by
  cases a with
  | none =>
    have h0 : n = 0 := by rcases hv with h | ⟨b, off, ha, _⟩; exact h; cases ha
    subst h0
    refine (Yba.slices_Clone_int_nil 0 c W).mono ?_
    rintro e w' ⟨rfl, rfl⟩
    exact ⟨none, 0, rfl, .inl rfl, Below.refl _ _⟩
  | some a =>
    rcases hv with rfl | ⟨b, off, ha, hc⟩
    · refine (Yba.slices_Clone_int_zero a c W).mono ?_
      rintro e w' ⟨v', rfl, hown, hne, hb⟩
      rcases own_view hown with ⟨hv, _⟩ | ⟨g, cap, hv, _⟩
      · exact absurd hv hne
      · exact ⟨_, _, by rw [hv], .inl rfl, hb⟩
    · cases ha
      refine (Yba.slices_Clone_int b off n c ((List.range n).map f) W (by simp) (by omega) (fun j hj => ?_)).mono ?_
      · rw [tab_len] at hj; rw [tab_get n f 0 j hj]; exact hc j hj
      rintro e w' ⟨v', rfl, hown, hne, hb⟩
      rcases own_view hown with ⟨hv, _⟩ | ⟨g, cap, hv, hcell⟩
      · exact absurd hv hne
      · refine ⟨_, _, by rw [hv], .inr ⟨g, 0, rfl, fun j hj => hcell j _ ?_⟩, hb⟩
        simp [hj]

theorem cloneS {a : Option Addr} {n c : Nat} {f : Nat → ByteArray} {W : World} (hv : IsS W a n f) (hn : n ≤ 1048576) :
    Calls Yba.prog 6 #[.slice a n c] W fun e w' => ∃ a' c', e = .returned (.slice a' n c') ∧ IsS w' a' n f ∧ Below W.heap.size W w' := by
  cases a with
  | none =>
    have h0 : n = 0 := by rcases hv with h | ⟨b, off, ha, _⟩; exact h; cases ha
    subst h0
    refine (Yba.slices_Clone_string_nil 0 c W).mono ?_
    rintro e w' ⟨rfl, rfl⟩
    exact ⟨none, 0, rfl, .inl rfl, Below.refl _ _⟩
  | some a =>
    rcases hv with rfl | ⟨b, off, ha, hc⟩
    · refine (Yba.slices_Clone_string_zero a c W).mono ?_
      rintro e w' ⟨v', rfl, hown, hne, hb⟩
      rcases own_view hown with ⟨hv, _⟩ | ⟨g, cap, hv, _⟩
      · exact absurd hv hne
      · exact ⟨_, _, by rw [hv], .inl rfl, hb⟩
    · cases ha
      refine (Yba.slices_Clone_string b off n c ((List.range n).map f) W (by simp) (by omega) (fun j hj => ?_)).mono ?_
      · rw [tab_len] at hj; rw [tab_get n f _ j hj]; exact hc j hj
      rintro e w' ⟨v', rfl, hown, hne, hb⟩
      rcases own_view hown with ⟨hv, _⟩ | ⟨g, cap, hv, hcell⟩
      · exact absurd hv hne
      · refine ⟨_, _, by rw [hv], .inr ⟨g, 0, rfl, fun j hj => hcell j _ ?_⟩, hb⟩
        simp [hj]

theorem equalI {a1 a2 : Option Addr} {n c1 c2 : Nat} {f : Nat → Int} {W : World} (h1 : IsI W a1 n f) (h2 : IsI W a2 n f) (hn : n ≤ 1048576) :
    Calls Yba.prog 9 #[.slice a1 n c1, .slice a2 n c2] W fun e w' => e = .returned (.bool true) ∧ ∃ q, w' = W.drewN q := by
  rcases h1 with rfl | ⟨b1, o1, rfl, hc1⟩
  · refine (Yba.slices_Equal_int_empty a1 a2 c1 0 c2 W (by omega)).mono ?_
    rintro e w' ⟨rfl, rfl⟩
    exact ⟨by simp, 0, rfl⟩
  · by_cases h0 : n = 0
    · subst h0
      refine (Yba.slices_Equal_int_empty _ a2 c1 0 c2 W (by omega)).mono ?_
      rintro e w' ⟨rfl, rfl⟩
      exact ⟨by simp, 0, rfl⟩
    · rcases h2 with h | ⟨b2, o2, rfl, hc2⟩
      · exact absurd h h0
      · refine (Yba.slices_Equal_int b1 o1 n c1 b2 o2 n c2 ((List.range n).map f) ((List.range n).map f) W (by simp) (by simp) (by omega) (by omega) (fun j hj => ?_) (fun j hj => ?_)).mono ?_
        · rw [tab_len] at hj; rw [tab_get n f 0 j hj]; exact hc1 j hj
        · rw [tab_len] at hj; rw [tab_get n f 0 j hj]; exact hc2 j hj
        rintro e w' ⟨rfl, hq⟩
        exact ⟨by simp, hq⟩

theorem equalS {a1 a2 : Option Addr} {n c1 c2 : Nat} {f : Nat → ByteArray} {W : World} (h1 : IsS W a1 n f) (h2 : IsS W a2 n f) (hn : n ≤ 1048576) :
    Calls Yba.prog 10 #[.slice a1 n c1, .slice a2 n c2] W fun e w' => e = .returned (.bool true) ∧ ∃ q, w' = W.drewN q := by
  rcases h1 with rfl | ⟨b1, o1, rfl, hc1⟩
  · refine (Yba.slices_Equal_string_empty a1 a2 c1 0 c2 W (by omega)).mono ?_
    rintro e w' ⟨rfl, rfl⟩
    exact ⟨by simp, 0, rfl⟩
  · by_cases h0 : n = 0
    · subst h0
      refine (Yba.slices_Equal_string_empty _ a2 c1 0 c2 W (by omega)).mono ?_
      rintro e w' ⟨rfl, rfl⟩
      exact ⟨by simp, 0, rfl⟩
    · rcases h2 with h | ⟨b2, o2, rfl, hc2⟩
      · exact absurd h h0
      · refine (Yba.slices_Equal_string b1 o1 n c1 b2 o2 n c2 ((List.range n).map f) ((List.range n).map f) W (by simp) (by simp) (by omega) (by omega) (fun j hj => ?_) (fun j hj => ?_)).mono ?_
        · rw [tab_len] at hj; rw [tab_get n f _ j hj]; exact hc1 j hj
        · rw [tab_len] at hj; rw [tab_get n f _ j hj]; exact hc2 j hj
        rintro e w' ⟨rfl, hq⟩
        exact ⟨by simp, hq⟩

/-- A row of pieces. -/
def IsP (w : World) (g : Nat) (ps : List (Int × ByteArray × ByteArray)) : Prop :=
  ∀ j (h : j < ps.length), w.cell? ⟨g, 3 * j, none⟩ = some (.int .i64 ps[j].1) ∧ w.cell? ⟨g, 3 * j + 1, none⟩ = some (.string ps[j].2.1) ∧ w.cell? ⟨g, 3 * j + 2, none⟩ = some (.string ps[j].2.2)
theorem IsP.below {W w' : World} {g : Nat} {ps : List (Int × ByteArray × ByteArray)} (h : IsP W g ps) (hb : Below W.heap.size W w') : IsP w' g ps :=
  fun j hj => ⟨cell_below hb (h j hj).1, cell_below hb (h j hj).2.1, cell_below hb (h j hj).2.2⟩

theorem own_pieces {w : World} {base : Nat} {v : Value} {ps : List (Int × ByteArray × ByteArray)} (h : w.ownsRow base 35 3 v ps.length (flat ps)) (hne : ps ≠ []) : ∃ g cap, v = .slice (some ⟨g, 0, none⟩) ps.length cap ∧ IsP w g ps := by
  have hc := fun g (hg : v.ownBlock = some g) => h.cells hg
  rcases h.2 with ⟨hv, hn⟩ | ⟨g, cap, cur, hv, _⟩
  · exact absurd (List.eq_nil_of_length_eq_zero hn) hne
  · refine ⟨g, cap, hv, fun j hj => ?_⟩
    have hcg := hc g (by rw [hv]; rfl)
    have := flat_at ps j hj
    refine ⟨?_, ?_, ?_⟩
    · have := hcg _ _ this.1; rwa [Addr.add_lit, Nat.zero_add] at this
    · have := hcg _ _ this.2.1; rwa [Addr.add_lit, Nat.zero_add] at this
    · have := hcg _ _ this.2.2; rwa [Addr.add_lit, Nat.zero_add] at this

theorem cut_nil {rb n ic ns sc : Nat} {ia sa : Option Addr} {sf st : ByteArray} {ids : Nat → Int} {sp : Nat → ByteArray} {w : World} (hns : n ≤ ns + 1) (hbig : n ≤ 1048576) (hsm : ns ≤ 1048576)
    (h0 : w.cell? ⟨rb, 0, none⟩ = some (.slice ia n ic)) (h1 : w.cell? ⟨rb, 1, none⟩ = some (.slice sa ns sc)) (hi : IsI w ia n ids) (hs : IsS w sa ns sp) (hp : Pk sf st ids ns sp n = []) :
    Calls Yba.prog 7 #[.pointer (some ⟨rb, 0, none⟩), .agg #[.string sf, .string st]] w fun e w' => e = .returned (.slice none 0 0) ∧ Below w.heap.size w w' := by
  by_cases hn : n = 0
  · subst hn; exact cut_none rb sf st ia ic w h0
  · rcases hi with h | ⟨ib, io, rfl, hi⟩
    · exact absurd h hn
    have go : ∀ sb so, (0 < ns → sa = some ⟨sb, so, none⟩) → (∀ j, j < ns → w.cell? ⟨sb, so + j, none⟩ = some (.string (sp j))) → Calls Yba.prog 7 #[.pointer (some ⟨rb, 0, none⟩), .agg #[.string sf, .string st]] w fun e w' => e = .returned (.slice none 0 0) ∧ Below w.heap.size w w' := by
      intro sb so hsa hc
      refine (cut_some rb ib io n ic sa sb so ns sc sf st ids sp w (by omega) hns hbig hsm hsa h0 h1 hi hc).mono ?_
      rintro e w' ⟨v, rfl, hb, _, hnil⟩
      exact ⟨by rw [hnil.1 hp], hb⟩
    rcases hs with rfl | ⟨sb, so, rfl, hs⟩
    · exact go 0 0 (fun h => absurd h (Nat.lt_irrefl _)) (fun j hj => absurd hj (Nat.not_lt_zero _))
    · exact go sb so (fun _ => rfl) hs

theorem cut_pos {rb n ic ns sc : Nat} {ia sa : Option Addr} {sf st : ByteArray} {ids : Nat → Int} {sp : Nat → ByteArray} {w : World} (hns : n ≤ ns + 1) (hbig : n ≤ 1048576) (hsm : ns ≤ 1048576)
    (h0 : w.cell? ⟨rb, 0, none⟩ = some (.slice ia n ic)) (h1 : w.cell? ⟨rb, 1, none⟩ = some (.slice sa ns sc)) (hi : IsI w ia n ids) (hs : IsS w sa ns sp) {ps : List (Int × ByteArray × ByteArray)} (hps : Pk sf st ids ns sp n = ps) (hp : ps ≠ []) :
    Calls Yba.prog 7 #[.pointer (some ⟨rb, 0, none⟩), .agg #[.string sf, .string st]] w fun e w' => ∃ g cap, e = .returned (.slice (some ⟨g, 0, none⟩) ps.length cap) ∧ IsP w' g ps ∧ Below w.heap.size w w' := by
  subst hps
  by_cases hn : n = 0
  · subst hn; exact absurd rfl hp
  · rcases hi with h | ⟨ib, io, rfl, hi⟩
    · exact absurd h hn
    have go : ∀ sb so, (0 < ns → sa = some ⟨sb, so, none⟩) → (∀ j, j < ns → w.cell? ⟨sb, so + j, none⟩ = some (.string (sp j))) →
        Calls Yba.prog 7 #[.pointer (some ⟨rb, 0, none⟩), .agg #[.string sf, .string st]] w fun e w' => ∃ g cap, e = .returned (.slice (some ⟨g, 0, none⟩) (Pk sf st ids ns sp n).length cap) ∧ IsP w' g (Pk sf st ids ns sp n) ∧ Below w.heap.size w w' := by
      intro sb so hsa hc
      refine (cut_some rb ib io n ic sa sb so ns sc sf st ids sp w (by omega) hns hbig hsm hsa h0 h1 hi hc).mono ?_
      rintro e w' ⟨v, rfl, hb, hown, hnil⟩
      obtain ⟨g, cap, hv, hP⟩ := own_pieces hown hp
      exact ⟨g, cap, by rw [hv], hP, hb⟩
    rcases hs with rfl | ⟨sb, so, rfl, hs⟩
    · exact go 0 0 (fun h => absurd h (Nat.lt_irrefl _)) (fun j hj => absurd hj (Nat.not_lt_zero _))
    · exact go sb so (fun _ => rfl) hs

theorem model_nil {n ic ns sc : Nat} {ia sa : Option Addr} {sf st : ByteArray} {ids : Nat → Int} {sp : Nat → ByteArray} {w : World} (hns : n ≤ ns + 1) (hbig : n ≤ 1048576) (hsm : ns ≤ 1048576)
    (hi : IsI w ia n ids) (hs : IsS w sa ns sp) (hp : Pk sf st ids ns sp n = []) :
    Calls Yba.prog 8 #[.slice ia n ic, .slice sa ns sc, .agg #[.string sf, .string st]] w fun e w' => e = .returned (.slice none 0 0) ∧ Below w.heap.size w w' := by
  by_cases hn : n = 0
  · subst hn; exact model_none sf st ia sa ic ns sc w
  · rcases hi with h | ⟨ib, io, rfl, hi⟩
    · exact absurd h hn
    rcases hs with rfl | ⟨sb, so, rfl, hs⟩
    · refine (model_one ib io n ic sa sc sf st ids sp w (by omega) hns hbig hsm hi).mono ?_
      rintro e w' ⟨v, rfl, hb, _, hnil⟩
      exact ⟨by rw [hnil.1 hp], hb⟩
    · refine (model_some ib io n ic sb so ns sc sf st ids sp w (by omega) hns hbig hsm hi hs).mono ?_
      rintro e w' ⟨v, rfl, hb, _, hnil⟩
      exact ⟨by rw [hnil.1 hp], hb⟩

theorem model_pos {n ic ns sc : Nat} {ia sa : Option Addr} {sf st : ByteArray} {ids : Nat → Int} {sp : Nat → ByteArray} {w : World} (hns : n ≤ ns + 1) (hbig : n ≤ 1048576) (hsm : ns ≤ 1048576)
    (hi : IsI w ia n ids) (hs : IsS w sa ns sp) {ps : List (Int × ByteArray × ByteArray)} (hps : Pk sf st ids ns sp n = ps) (hp : ps ≠ []) :
    Calls Yba.prog 8 #[.slice ia n ic, .slice sa ns sc, .agg #[.string sf, .string st]] w fun e w' => ∃ g cap, e = .returned (.slice (some ⟨g, 0, none⟩) ps.length cap) ∧ IsP w' g ps ∧ Below w.heap.size w w' := by
  subst hps
  by_cases hn : n = 0
  · subst hn; exact absurd rfl hp
  · rcases hi with h | ⟨ib, io, rfl, hi⟩
    · exact absurd h hn
    rcases hs with rfl | ⟨sb, so, rfl, hs⟩
    · refine (model_one ib io n ic sa sc sf st ids sp w (by omega) hns hbig hsm hi).mono ?_
      rintro e w' ⟨v, rfl, hb, hown, hnil⟩
      obtain ⟨g, cap, hv, hP⟩ := own_pieces hown hp
      exact ⟨g, cap, by rw [hv], hP, hb⟩
    · refine (model_some ib io n ic sb so ns sc sf st ids sp w (by omega) hns hbig hsm hi hs).mono ?_
      rintro e w' ⟨v, rfl, hb, hown, hnil⟩
      obtain ⟨g, cap, hv, hP⟩ := own_pieces hown hp
      exact ⟨g, cap, by rw [hv], hP, hb⟩
end Go.Proofs.Ybulkdqxm
