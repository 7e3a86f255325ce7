import Derived.Test.YbulkdqxmSmall2
namespace Go.Proofs.Ybulkdqxm
open Go.RowKit Go.MapKept Go.Maps
set_option linter.unusedVariables false

theorem info48 : (Yba.prog.info? 48).map (fun i => (i.zero, i.size, i.bytes)) = some (some (.pointer none), 1, 8) := by kernel_rfl
abbrev ptrF (g i : Nat) : Value := .pointer (some ⟨g + 1 + i, 0, none⟩)
def ptrP (g j i : Nat) : Value := if i < j then ptrF g i else .pointer none
theorem grown_setCell (w : World) (b i : Nat) (v : Value) : w.grownBy (w.setCell ⟨b, i, none⟩ v) (some b) :=
  ⟨rfl, rfl, rfl, by simp, fun k hk hne => Below.heap_setCell w ⟨b, i, none⟩ v k (fun e => hne (by rw [e]))⟩
def v00 : ByteArray → Value := fun _ => undef
abbrev sC : Value := .string { data := #[99] }
abbrev sT : Value := .string { data := #[116] }
/-- what stands beside h: the row of parts, the map of writes, the copy of reads, owner, p -/
def Ex (W : World) (g n2 : Nat) (mb : Option Nat) (k5 : List ByteArray) (v5 : ByteArray → Value) (lo : Nat) (va : Option Addr) (n7 : Nat) (K7 : Nat → ByteArray) (OB : Nat) (a7 : Option Addr) (c7 : Nat) : Prop :=
  W.rowIs g 48 n2 (ptrF g) ∧ MapO W mb k5 v5 ∧ IsN W lo va n7 K7 ∧ (W.cell? ⟨OB, 0, none⟩ = some sC ∧ W.cell? ⟨OB, 1, none⟩ = some sT) ∧
  W.cell? ⟨OB + 1, 0, none⟩ = some sC ∧ W.cell? ⟨OB + 1, 1, none⟩ = some sT ∧ W.cell? ⟨OB + 1, 2, none⟩ = some (.map mb) ∧ W.cell? ⟨OB + 1, 3, none⟩ = some (.slice a7 n7 c7) ∧ W.cell? ⟨OB + 1, 4, none⟩ = some (.map none) ∧ W.cell? ⟨OB + 1, 5, none⟩ = some (.int .i64 2) ∧ W.cell? ⟨OB + 1, 6, none⟩ = some (.bool false)
section
variable {W W' : World} {g n2 : Nat} {mb : Option Nat} {k5 : List ByteArray} {v5 : ByteArray → Value} {lo : Nat} {va : Option Addr} {n7 : Nat} {K7 : Nat → ByteArray} {OB : Nat} {a7 : Option Addr} {c7 B : Nat}
theorem Ex.keep (h : Ex W g n2 mb k5 v5 lo va n7 K7 OB a7 c7) (k : Keep B W W') (h1 : B + 6 ≤ g) (h2 : ∀ b, mb = some b → B + 6 ≤ b) (h3 : B + 6 ≤ lo) (h4 : B + 6 ≤ OB) : Ex W' g n2 mb k5 v5 lo va n7 K7 OB a7 c7 := by
  obtain ⟨r1, r2, r3, ⟨o0, o1⟩, p0, p1, p2, p3, p4, p5, p6⟩ := h
  have q0 : B + 5 ≤ OB := by omega
  have q1 : B + 5 ≤ OB + 1 := by omega
  exact ⟨k.rowIs r1 (by omega), k.mapO r2 h2, k.isN r3 (by omega), ⟨k.cell o0 q0, k.cell o1 q0⟩, k.cell p0 q1, k.cell p1 q1, k.cell p2 q1, k.cell p3 q1, k.cell p4 q1, k.cell p5 q1, k.cell p6 q1⟩
theorem Ex.below (h : Ex W g n2 mb k5 v5 lo va n7 K7 OB a7 c7) (k : Below W.heap.size W W') : Ex W' g n2 mb k5 v5 lo va n7 K7 OB a7 c7 := by
  obtain ⟨r1, r2, r3, ⟨o0, o1⟩, p0, p1, p2, p3, p4, p5, p6⟩ := h
  exact ⟨r1.of_block (k.block g r1.lt), r2.below k, r3.below k, ⟨cellB k o0, cellB k o1⟩, cellB k p0, cellB k p1, cellB k p2, cellB k p3, cellB k p4, cellB k p5, cellB k p6⟩
theorem ex_new {w4 : World} (hr : w4.rowIs g 48 n2 (ptrF g)) (hm : MapO w4 mb k5 v5) (hv : IsN w4 lo va n7 K7) :
    Ex ((w4.alloc (.cells #[sC, sT] 51)).alloc (.cells #[sC, sT, .map mb, .slice a7 n7 c7, .map none, .int .i64 2, .bool false] 53)) g n2 mb k5 v5 lo va n7 K7 w4.heap.size a7 c7 := by
  have k : Below w4.heap.size w4 ((w4.alloc (.cells #[sC, sT] 51)).alloc (.cells #[sC, sT, .map mb, .slice a7 n7 c7, .map none, .int .i64 2, .bool false] 53)) := ((Below.refl _ _).alloc (Nat.le_refl _) _).alloc (by simp) _
  exact ⟨hr.of_block (k.block g hr.lt), hm.below k, hv.below k, ⟨by simp, by simp⟩, by simp, by simp, by simp, by simp, by simp, by simp, by simp⟩
end
theorem St.mp {w W : World} {B : Nat} {kp kh kf kt : List ByteArray} {vp vh vf vt : ByteArray → Value} (h : St w W B kp kh kf kt vp vh vf vt) : MapIs W (B + 1) kp vp := h.2.2.2.1
theorem info55 : (Yba.prog.info? 55).map (fun i => (i.zero, i.size, i.bytes)) = some (some (.pointer none), 1, 8) := by kernel_rfl
/-- the zero forced outcomes -/
abbrev Z59 : Array Value := #[.int .i64 0, .string { data := #[] }, .string { data := #[] }, .bool false, .bool false, .int .i64 0]
def Zs (W : World) (g n : Nat) : Prop := ∀ i, i < n → W.heap[g + 1 + i]? = some (.cells Z59 59)
theorem zs_step {wr : World} {g j : Nat} {v : Value} (hz : Zs wr g j) (hs : wr.heap.size = g + 1 + j) : Zs ((wr.setCell ⟨g, j, none⟩ v).alloc (.cells Z59 59)) g (j + 1) := by
  intro i hi
  by_cases e : i = j
  · subst e
    have h1 := heap_alloc_new (wr.setCell ⟨g, i, none⟩ v) (.cells Z59 59)
    have h2 : (wr.setCell ⟨g, i, none⟩ v).heap.size = g + 1 + i := by simp [hs]
    rw [h2] at h1
    exact h1
  · have hij : i < j := by omega
    have h1 := hz i hij
    rw [Below.heap_alloc _ _ _ (by simp [hs]; omega), Below.heap_setCell _ _ _ _ (by show g + 1 + i ≠ g; omega)]
    exact h1
theorem zs_grown {W W' : World} {g n b : Nat} (hz : Zs W g n) (hg : W.grownBy W' (some b)) (hb : b ≤ g) : Zs W' g n := fun i hi =>
  (hg.block _ (Array.getElem?_eq_some_iff.1 (hz i hi)).1 (fun e => by cases e; omega)).trans (hz i hi)
abbrev trm (K : Nat → ByteArray) (j : Nat) : Value := .agg #[.int .i64 j, .string (K j)]
theorem zs_keep {W W' : World} {g n B : Nat} (hz : Zs W g n) (hk : Keep B W W') (hb : B + 5 ≤ g) : Zs W' g n := fun i hi => (hk.2 _ (by omega) (Array.getElem?_eq_some_iff.1 (hz i hi)).1).trans (hz i hi)
def kpI (im : Bool) (ks : List ByteArray) (id : ByteArray) : List ByteArray := if im then addK ks id else ks
def vpI (im : Bool) (val : ByteArray → Value) (id : ByteArray) (v : Value) : ByteArray → Value := if im then addV val id v else val
theorem delK_kpI (im : Bool) (ks : List ByteArray) (id : ByteArray) : delK (kpI im ks id) id = delK ks id := by
  cases im with
  | false => rfl
  | true =>
    simp only [kpI, if_true, addK]
    split
    · rfl
    · rw [delK, delK, List.filter_append]
      have : (id == id) = true := beqB.2 rfl
      simp [this]
theorem vpI_ne (im : Bool) (val : ByteArray → Value) (id : ByteArray) (v : Value) (x : ByteArray) (h : x ≠ id) : vpI im val id v x = val x := by
  cases im with
  | false => rfl
  | true =>
    simp only [vpI, if_true, addV]
    rw [if_neg (fun e => h (beqB.1 e))]
/-- release, at the law's own state -/
theorem rel13 {w W : World} {K5 K7 : Nat → ByteArray} {kp kh kf kt : List ByteArray} {vp vh vf vt v5 : ByteArray → Value} {g n2 n5 n7 : Nat} {mb : Option Nat} {lo : Nat} {va a7 : Option Addr} {OB c7 : Nat} {id : ByteArray}
    (hS : St w W w.heap.size kp kh kf kt vp vh vf vt) (hE : Ex W g n2 mb (firsts K5 n5) v5 lo va n7 K7 OB a7 c7) (hs : ∀ i, i < n5 → (K5 i).size ≤ maxLen) (h7 : IsS w a7 n7 K7) (hnil : a7 = none → n7 = 0 ∧ c7 = 0) (hn5 : n5 ≤ 4096) (hn7 : n7 ≤ 4096) :
    Calls Yba.prog 13 #[.pointer (some ⟨w.heap.size + 5, 0, none⟩), .string id, .pointer (some ⟨OB + 1, 0, none⟩)] W fun e w' => e = .returned (.tuple #[]) ∧ St w w' w.heap.size (delK kp id) (kh.filter (gone (firsts K5 n5) K7 n7)) kf kt vp vh vf vt ∧ Keep w.heap.size W w' := by
  obtain ⟨s1, s2, ⟨c0, c1, c2, c3⟩, m1, m2, m3, m4⟩ := hS
  obtain ⟨r1, r2, r3, ⟨o0, o1⟩, p0, p1, p2, p3, p4, p5, p6⟩ := hE
  refine (release13 (w.heap.size + 5) (w.heap.size + 1) (w.heap.size + 2) (OB + 1) id mb (firsts K5 n5) v5 a7 n7 c7 K7 kp kh vp vh W c0 c1 m1 m2 (by omega) (by omega) (by omega) p2 p3 r2 (fun k hk => ?_) (Nat.le_trans (firsts_len K5 n5) hn5) (h7.below s1) hnil hn7).mono ?_
  · obtain ⟨i, hi, rfl⟩ := (mem_firsts K5 n5 k).1 hk
    exact hs i hi
  · rintro e w' ⟨rfl, hB, hh, hp⟩
    refine ⟨rfl, ⟨?_, Nat.le_trans s2 hB.2.2.2.1, ⟨hB.cell c0 (by simp) (by simp), hB.cell c1 (by simp) (by simp), hB.cell c2 (by simp) (by simp), hB.cell c3 (by simp) (by simp)⟩, hp, hh, hB.mapIs m3 (by omega) (by omega), hB.mapIs m4 (by omega) (by omega)⟩, (Keep.refl _ _).but hB (by omega) (by omega)⟩
    exact s1.trans ⟨hB.1, hB.2.1, hB.2.2.1, hB.2.2.2.1, fun k hk => hB.2.2.2.2 k (by omega) (by omega) (by omega)⟩
theorem firsts_has (K : Nat → ByteArray) (n : Nat) (x : ByteArray) : (firsts K n).contains x = inRow K n x := by
  rw [Bool.eq_iff_iff, hasB, mem_firsts, inRow_iff]
theorem gone_eq (K5 K7 : Nat → ByteArray) (n5 n7 : Nat) (x : ByteArray) : gone (firsts K5 n5) K7 n7 x = !(inRow K5 n5 x || inRow K7 n7 x) := by rw [gone, firsts_has]
theorem filt_has {ks : List ByteArray} {p : ByteArray → Bool} {x : ByteArray} (h : p x = false) : (ks.filter p).contains x = false := by
  rw [hasF]; simp [h]
theorem filt_has' {ks : List ByteArray} {p : ByteArray → Bool} {x : ByteArray} (h : p x = true) (hx : x ∈ ks) : (ks.filter p).contains x = true := by
  rw [hasB]; simp [h, hx]
theorem zero9 (w : World) : (zeroValue 9).run Yba.prog w = .ok (.string ByteArray.empty) w := Yba.zeroValue9 w
end Go.Proofs.Ybulkdqxm
