import Derived.Test.YbulkdqxmKeysC
namespace Go.Proofs.Ybulkdqxm
open Go.RowKit Go.MapKept Go.Maps
set_option linter.unusedVariables false

/-- nothing that was there has turned but blocks b and c -/
def But (w w' : World) (b c : Nat) : Prop := w'.os = w.os ∧ w'.tape = w.tape ∧ w'.output = w.output ∧ w.heap.size ≤ w'.heap.size ∧ ∀ k, k < w.heap.size → k ≠ b → k ≠ c → w'.heap[k]? = w.heap[k]?
theorem But.refl (w : World) (b c : Nat) : But w w b c := ⟨rfl, rfl, rfl, Nat.le_refl _, fun _ _ _ _ => rfl⟩
theorem But.trans {w w' w'' : World} {b c : Nat} (h : But w w' b c) (k : But w' w'' b c) : But w w'' b c := by
  obtain ⟨h1, h2, h3, h4, h5⟩ := h
  obtain ⟨k1, k2, k3, k4, k5⟩ := k
  exact ⟨k1.trans h1, k2.trans h2, k3.trans h3, Nat.le_trans h4 k4, fun i hi hb hc => (k5 i (by omega) hb hc).trans (h5 i hi hb hc)⟩
theorem But.of_below {w w' : World} (h : Below w.heap.size w w') (b c : Nat) : But w w' b c := ⟨h.os, h.tape, h.output, h.size, fun k hk _ _ => h.block k hk⟩
theorem But.of_grown {w w' : World} {b : Nat} (h : w.grownBy w' (some b)) (c : Nat) : But w w' b c := ⟨h.os, h.tape, h.output, h.size, fun k hk hb _ => h.block k hk (fun e => hb (by cases e; rfl))⟩
theorem But.swap {w w' : World} {b c : Nat} (h : But w w' b c) : But w w' c b := ⟨h.1, h.2.1, h.2.2.1, h.2.2.2.1, fun k hk hb hc => h.2.2.2.2 k hk hc hb⟩
theorem But.cell {w w' : World} {b c : Nat} (h : But w w' b c) {p : Addr} {v : Value} (hp : w.cell? p = some v) (hb : p.block ≠ b) (hc : p.block ≠ c) : w'.cell? p = some v :=
  (World.cell?_of_block (w := w) (h.2.2.2.2 p.block (World.block_lt_of_cell? _ _ hp) hb hc)).trans hp
theorem But.mapIs {w w' : World} {b c m : Nat} {ks : List ByteArray} {val : ByteArray → Value} (h : But w w' b c) (hm : MapIs w m ks val) (hb : m ≠ b) (hc : m ≠ c) : MapIs w' m ks val := hm.of_block (h.2.2.2.2 m hm.lt hb hc)

def notIn (R : List (List UInt8)) (x : ByteArray) : Bool := !(R.contains x.data.toList)
theorem delK_step (ks : List ByteArray) (R : List (List UInt8)) (j : Nat) (hj : j < R.length) : delK (ks.filter (notIn (R.take j))) ⟨(R[j]).toArray⟩ = ks.filter (notIn (R.take (j + 1))) := by
  haveI := lawfulB
  rw [delK, List.filter_filter]
  apply List.filter_congr
  intro x hx
  have e : (x == (⟨(R[j]).toArray⟩ : ByteArray)) = (x.data.toList == R[j]) := by
    rw [Bool.eq_iff_iff, beqB, beq_iff_eq]
    constructor
    · rintro rfl; simp
    · intro h; exact data_inj (by simpa using h)
  rw [List.take_succ_eq_append_getElem hj]
  simp only [notIn, e, List.contains_append]
  have e2 : [R[j]].contains x.data.toList = (x.data.toList == R[j]) := by
    rw [Bool.eq_iff_iff]; simp
  rw [e2, Bool.not_or, Bool.and_comm]
def gone (wks : List ByteArray) (RD : Nat → ByteArray) (rn : Nat) (x : ByteArray) : Bool := !(wks.contains x || inRow RD rn x)
theorem notIn_all {R : List (List UInt8)} {wks : List ByteArray} {RD : Nat → ByteArray} {rn : Nat} (h : inB R wks RD rn) (x : ByteArray) : notIn R x = gone wks RD rn x := by
  unfold notIn gone
  congr 1
  rw [Bool.eq_iff_iff, Bool.or_eq_true, hasB, inRow_iff]
  simpa using h x

def keyAt (R : List (List UInt8)) (j : Nat) : ByteArray := ⟨(R.getD j []).toArray⟩
theorem keys19s (pb : Nat) (mb : Option Nat) (ks : List ByteArray) (val : ByteArray → Value) (ra : Option Addr) (rn rc : Nat) (RD : Nat → ByteArray) (w : World)
    (h2 : w.cell? ⟨pb, 2, none⟩ = some (.map mb)) (h3 : w.cell? ⟨pb, 3, none⟩ = some (.slice ra rn rc)) (hM : MapO w mb ks val) (hs : ∀ k ∈ ks, k.size ≤ maxLen) (hl : ks.length ≤ 4096) (hR : IsS w ra rn RD) (hnil : ra = none → rn = 0 ∧ rc = 0) (hrn : rn ≤ 4096) :
    Calls Yba.prog 19 #[.pointer (some ⟨pb, 0, none⟩)] w fun e w' => (∃ (va : Option Addr) (vc : Nat) (R : List (List UInt8)), e = .returned (.slice va R.length vc) ∧ (R.length = 0 ∨ ∃ g, va = some ⟨g, 0, none⟩ ∧ w.heap.size ≤ g ∧ ∀ j, j < R.length → w'.cell? ⟨g, j, none⟩ = some (.string (keyAt R j))) ∧ R.length ≤ 8192 ∧ inB R ks RD rn) ∧ Below w.heap.size w w' := by
  refine (keys19 pb mb ks val ra rn rc RD w h2 h3 hM hs hl hR hnil hrn).mono ?_
  rintro e w' ⟨⟨v, R, rfl, hrow, hlen, hin⟩, hb⟩
  refine ⟨?_, hb⟩
  rcases hrow.2 with ⟨rfl, h0⟩ | ⟨g, cap, cur, rfl, hg, _⟩
  · exact ⟨none, 0, R, by rw [h0], .inl h0, hlen, hin⟩
  · refine ⟨some ⟨g, 0, none⟩, cap, R, rfl, .inr ⟨g, rfl, hg, fun j hj => ?_⟩, hlen, hin⟩
    rw [hrow.cellAt j (by omega)]
    simp [keyAt, encStr, List.getD, hj]
theorem keyAt_eq (R : List (List UInt8)) (j : Nat) (hj : j < R.length) : keyAt R j = ⟨(R[j]).toArray⟩ := by simp [keyAt, List.getD, hj]

set_option maxRecDepth 100000 in
set_option maxHeartbeats 1000000 in
theorem release13 (Hb Bp Bh pb : Nat) (id : ByteArray) (mb : Option Nat) (wks : List ByteArray) (wval : ByteArray → Value) (ra : Option Addr) (rn rc : Nat) (RD : Nat → ByteArray) (kp kh : List ByteArray) (vp vh : ByteArray → Value) (w : World)
    (c0 : w.cell? ⟨Hb, 0, none⟩ = some (.map (some Bp))) (c1 : w.cell? ⟨Hb, 1, none⟩ = some (.map (some Bh))) (hp : MapIs w Bp kp vp) (hh : MapIs w Bh kh vh) (hne : Bp ≠ Bh) (n1 : Hb ≠ Bp) (n2 : Hb ≠ Bh)
    (h2 : w.cell? ⟨pb, 2, none⟩ = some (.map mb)) (h3 : w.cell? ⟨pb, 3, none⟩ = some (.slice ra rn rc)) (hM : MapO w mb wks wval) (hs : ∀ k ∈ wks, k.size ≤ maxLen) (hl : wks.length ≤ 4096) (hR : IsS w ra rn RD) (hnil : ra = none → rn = 0 ∧ rc = 0) (hrn : rn ≤ 4096) :
    Calls Yba.prog 13 #[.pointer (some ⟨Hb, 0, none⟩), .string id, .pointer (some ⟨pb, 0, none⟩)] w fun e w' => e = .returned (.tuple #[]) ∧ But w w' Bh Bp ∧ MapIs w' Bh (kh.filter (gone wks RD rn)) vh ∧ MapIs w' Bp (delK kp id) vp := by
  have HP : Hid (MapIs w Bp kp vp) := hp
  have HH : Hid (MapIs w Bh kh vh) := hh
  have C0 : Hid (w.cell? ⟨Hb, 0, none⟩ = some (.map (some Bp))) := c0
  have C1 : Hid (w.cell? ⟨Hb, 1, none⟩ = some (.map (some Bh))) := c1
  have hBh := hh.lt
  have K19 : Hid (Calls Yba.prog 19 #[.pointer (some ⟨pb, 0, none⟩)] w fun e w' => (∃ (va : Option Addr) (vc : Nat) (R : List (List UInt8)), e = .returned (.slice va R.length vc) ∧ (R.length = 0 ∨ ∃ g, va = some ⟨g, 0, none⟩ ∧ w.heap.size ≤ g ∧ ∀ j, j < R.length → w'.cell? ⟨g, j, none⟩ = some (.string (keyAt R j))) ∧ R.length ≤ 8192 ∧ inB R wks RD rn) ∧ Below w.heap.size w w') :=
    keys19s pb mb wks wval ra rn rc RD w h2 h3 hM hs hl hR hnil hrn
  clear hp hh c0 c1 h2 h3 hM hs hR hnil
  go_enter Yba.func13, Yba.ntmps13
  go_wp2_with (go_at_call 19; refine K19.out.mono ?_; rintro e w5 ⟨⟨va, vc, R, rfl, hrow, hlen, hin⟩, hb5⟩; have HROW : Hid (R.length = 0 ∨ ∃ g, va = some ⟨g, 0, none⟩ ∧ w.heap.size ≤ g ∧ ∀ j, j < R.length → w5.cell? ⟨g, j, none⟩ = some (.string (keyAt R j))) := hrow; have HIN : Hid (inB R wks RD rn) := hin; have HB5 : Hid (Below w.heap.size w w5) := hb5; clear hrow hin hb5)
  clear K19
  have hBh5 : Bh < w5.heap.size := Nat.lt_of_lt_of_le hBh HB5.out.size
  have HP5 : Hid (MapIs w5 Bp kp vp) := HP.out.below HB5.out
  have HH5 : Hid (MapIs w5 Bh kh vh) := HH.out.below HB5.out
  have C05 : Hid (w5.cell? ⟨Hb, 0, none⟩ = some (.map (some Bp))) := cellB HB5.out C0.out
  have C15 : Hid (w5.cell? ⟨Hb, 1, none⟩ = some (.map (some Bh))) := cellB HB5.out C1.out
  go_loopw [11] (fun i wr => ∃ j : Nat, j ≤ R.length ∧ i = .int .i64 j ∧ Hid (But w5 wr Bh Bh) ∧ Hid (MapIs wr Bh (kh.filter (notIn (R.take j))) vh)) (fun i _ => R.length - (intOf i).toNat)
  case atStart =>
    refine ⟨0, Nat.zero_le _, rfl, But.refl _ _ _, ?_⟩
    have : kh.filter (notIn (R.take 0)) = kh := by rw [List.filter_eq_self]; intro x _; simp [notIn]
    show MapIs _ _ _ _
    rw [this]; exact HH5.out
  case round =>
    obtain ⟨j, hj, rfl, HBU, HMI⟩ := hrel
    have d1 := HBU.out.cell C15.out n2 n2
    by_cases hjn : j < R.length
    · rcases HROW.out with h0 | ⟨g, rfl, hg, hc⟩
      · omega
      have c2 := HBU.out.cell (hc j hjn) (by show g ≠ Bh; omega) (by show g ≠ Bh; omega)
      clear hc
      go_wp2_with (at_delete; refine wpList_delete_is rfl _ _ 40 9 rfl 9 Yba.underlying40 Yba.underlying9 Bh _ vh rfl HMI.out (keyAt R j) rfl ?_; intro w6 hm6 hg6; have HM6 : Hid _ := hm6; have HB6 : Hid (But w5 w6 Bh Bh) := HBU.out.trans (But.of_grown hg6 Bh); clear hm6 hg6)
      go_roundw
      case rel => exact ⟨j + 1, by omega, by go_num, HB6, by have := HM6.out; rw [keyAt_eq R j hjn, delK_step kh R j hjn] at this; exact this⟩
      case measure => simp [intOf]; omega
    · obtain rfl : j = R.length := by omega
      have d0 := HBU.out.cell C05.out n2 n2
      have HPj : Hid (MapIs wr Bp kp vp) := HBU.out.mapIs HP5.out hne hne
      go_wp2_with (at_delete; refine wpList_delete_is rfl _ _ 39 9 rfl 48 Yba.underlying39 Yba.underlying9 Bp _ vp rfl HPj.out id rfl ?_; intro w6 hm6 hg6; have HM6 : Hid (MapIs w6 Bp (delK kp id) vp) := hm6; have HG6 : Hid _ := hg6; clear hm6 hg6)
      refine bodyPost_end (results_none rfl _ _ _) rfl ?_
      have hgr : wr.grownBy w6 (some Bp) := HG6.out
      have hfin : kh.filter (notIn (R.take R.length)) = kh.filter (gone wks RD rn) := by
        rw [List.take_length]
        exact List.filter_congr fun x _ => notIn_all HIN.out x
      refine ⟨rfl, ?_, ?_, HM6.out⟩
      · exact ((But.of_below HB5.out Bh Bp).trans ⟨HBU.out.1, HBU.out.2.1, HBU.out.2.2.1, HBU.out.2.2.2.1, fun q hq h1 h2 => HBU.out.2.2.2.2 q hq h1 h1⟩).trans (But.of_grown hgr Bh).swap
      · rw [← hfin]
        exact HMI.out.grown hgr (by simp; exact fun e => hne e.symm)
end Go.Proofs.Ybulkdqxm
