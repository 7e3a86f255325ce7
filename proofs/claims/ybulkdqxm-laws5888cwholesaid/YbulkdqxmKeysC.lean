import Derived.Test.YbulkdqxmKeysB
namespace Go.Proofs.Ybulkdqxm
open Go.RowKit Go.MapKept Go.Maps
set_option linter.unusedVariables false

theorem own_mono' {w : World} {base base' : Nat} {e : TypeId} {size : Nat} {v : Value} {n : Nat} {xs : List Value} (h : w.ownsRow base e size v n xs) (hb : base' ≤ base) : w.ownsRow base' e size v n xs := by
  obtain ⟨h1, h2⟩ := h
  refine ⟨h1, ?_⟩
  rcases h2 with h2 | ⟨g, cap, cur, hv, hg, r⟩
  · exact .inl h2
  · exact .inr ⟨g, cap, cur, hv, Nat.le_trans hb hg, r⟩
theorem mkeys21e (mb : Option Nat) (W : World) : Calls Yba.prog 21 #[.map mb] W fun e w' => (∃ p, e = .returned (.func (.func 24) #[] #[.pointer (some ⟨p, 0, none⟩)]) ∧ w'.cell? ⟨p, 0, none⟩ = some (.map mb)) ∧ Below W.heap.size W w' := by
  refine (mkeys21 mb W).mono ?_
  rintro e w' ⟨rfl, rfl⟩
  exact ⟨⟨_, rfl, by simp⟩, (Below.refl _ _).alloc (Nat.le_refl _) _⟩
def inB (R : List (List UInt8)) (ks : List ByteArray) (RD : Nat → ByteArray) (rn : Nat) : Prop := ∀ k : ByteArray, k.data.toList ∈ R ↔ k ∈ ks ∨ ∃ i, i < rn ∧ RD i = k
theorem data_inj {a b : ByteArray} (h : a.data.toList = b.data.toList) : a = b := bytes_inj (by rw [ByteArray.toList_eq, ByteArray.toList_eq]; exact h)

set_option maxRecDepth 100000 in
set_option maxHeartbeats 1000000 in
theorem keys19 (pb : Nat) (mb : Option Nat) (ks : List ByteArray) (val : ByteArray → Value) (ra : Option Addr) (rn rc : Nat) (RD : Nat → ByteArray) (w : World)
    (h2 : w.cell? ⟨pb, 2, none⟩ = some (.map mb)) (h3 : w.cell? ⟨pb, 3, none⟩ = some (.slice ra rn rc)) (hM : MapO w mb ks val) (hs : ∀ k ∈ ks, k.size ≤ maxLen) (hl : ks.length ≤ 4096) (hR : IsS w ra rn RD) (hnil : ra = none → rn = 0 ∧ rc = 0) (hrn : rn ≤ 4096) :
    Calls Yba.prog 19 #[.pointer (some ⟨pb, 0, none⟩)] w fun e w' => (∃ (v : Value) (R : List (List UInt8)), e = .returned v ∧ w'.ownsRow w.heap.size 9 1 v R.length (R.map encStr) ∧ R.length ≤ 8192 ∧ inB R ks RD rn) ∧ Below w.heap.size w w' := by
  have HM : Hid (∀ W', Below w.heap.size w W' → MapO W' mb ks val) := fun W' h => hM.below h
  have HR : Hid (∀ W', Below w.heap.size w W' → IsS W' ra rn RD) := fun W' h => hR.below h
  have HC : Hid (∀ W', Below w.heap.size w W' → Below w.heap.size w W' ∧ W'.cell? ⟨pb, 2, none⟩ = some (.map mb) ∧ W'.cell? ⟨pb, 3, none⟩ = some (.slice ra rn rc)) := fun W' h => ⟨h, cellB h h2, cellB h h3⟩
  have HS : Hid (∀ k ∈ ks, k.size ≤ maxLen) := hs
  have HN : Hid (ra = none → rn = 0 ∧ rc = 0) := hnil
  have hB0 : Below w.heap.size w w.drew := (Below.refl _ _).drew
  clear hM hR hs hnil h2 h3
  go_enter Yba.func19, Yba.ntmps19
  go_wp2_with fail
  go_region_held3 (fun W' => Below w.heap.size w W' ∧ W'.cell? ⟨pb, 2, none⟩ = some (.map mb) ∧ W'.cell? ⟨pb, 3, none⟩ = some (.slice ra rn rc)) (exact HC.out _ (by assumption))
    (first
      | (go_at_call 21; refine (mkeys21e mb _).mono ?_; rintro e w2 ⟨⟨p, rfl, hp⟩, hb2⟩; have HP : Hid _ := hp; have hB2 := bt hB0 hb2; clear hb2 hp)
      | (go_at_call 20; refine (collect20 _ mb ks val _ HP.out (HM.out _ hB2) HS.out hl).mono ?_; rintro e w3 ⟨v, ss, rfl, hin, hlen, hrow, hb3⟩; have HIN : Hid _ := hin; have HROW : Hid (w3.ownsRow w.heap.size 9 1 v ss.length (ss.map encStr)) := own_mono' hrow hB2.size; have hB3 := bt hB2 hb3; clear hb3 hrow hin)
      | (refine append_reads _ _ _ rfl w.heap.size _ ss rfl HROW.out ra rn rc RD rfl (HR.out _ hB3) HN.out hlen hrn hB3.size ?_; intro v' w4 hrow4 hg4; have HROW4 : Hid _ := hrow4; have hB4 : Below w.heap.size w w4 := hB3.grown hg4 hB3.size (fun q hq => (HROW.out.lt q hq).1); clear hrow4 hg4))
  have hlen4 : (ss ++ (rowS RD rn).map (fun b => b.data.toList)).length ≤ 8192 := by simp [rowS_len]; omega
  have HL4 : Hid ((ss ++ (rowS RD rn).map (fun b => b.data.toList)).length ≤ 8192) := hlen4
  have HI4 : Hid (inB (ss ++ (rowS RD rn).map (fun b => b.data.toList)) ks RD rn) := by
    intro k
    rw [List.mem_append, HIN.out, List.mem_map]
    constructor
    · rintro (⟨k', hk', e⟩ | ⟨y, hy, e⟩)
      · exact .inl (data_inj e ▸ hk')
      · obtain ⟨i, hi, rfl⟩ := (mem_rowS RD rn y).1 hy
        exact .inr ⟨i, hi, data_inj e⟩
    · rintro (h | ⟨i, hi, rfl⟩)
      · exact .inl ⟨k, h, rfl⟩
      · exact .inr ⟨RD i, (mem_rowS RD rn _).2 ⟨i, hi, rfl⟩, rfl⟩
  generalize hL4 : (ss ++ (rowS RD rn).map (fun b => b.data.toList)) = L4 at *
  clear hL4 HIN hlen4
  go_wp2_with (go_at_call 22; refine (sort22 v' L4 w.heap.size _ HROW4.out (by have := HL4.out; omega)).mono ?_; rintro e w5 ⟨rfl, ⟨ts, hperm, hrow5⟩, hg5⟩; have HP5 : Hid _ := hperm; have HROW5 : Hid _ := hrow5; have hB5 : Below w.heap.size w w5 := hB4.grown hg5 hB4.size (fun q hq => (World.ownsRow.lt (w := w4) (base := w.heap.size) (e := 9) (size := 1) (n := L4.length) (xs := L4.map encStr) HROW4.out q hq).1); clear hperm hrow5 hg5)
  go_ret
  exact ⟨⟨v', ts, rfl, HROW5.out, by rw [HP5.out.length_eq]; exact HL4.out, fun k => by rw [HP5.out.mem_iff]; exact HI4.out k⟩, hB5⟩
end Go.Proofs.Ybulkdqxm
