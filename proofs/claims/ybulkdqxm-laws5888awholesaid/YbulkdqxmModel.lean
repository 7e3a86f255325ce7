import Derived.Test.YbulkdqxmCut
namespace Go.Proofs.Ybulkdqxm
open Go.RowKit
set_option linter.unusedVariables false

theorem lower_any (a b : ByteArray) (w : World) : Calls Yba.prog 17 #[.string a, .string b] w fun e w' => e = .returned (.string (lowS a b)) ∧ w' = w := by
  unfold lowS lt
  cases h : Op.bytesLess a.toList b.toList with
  | true =>
    rw [if_pos rfl]
    go_enter Yba.func17, Yba.ntmps17
    go_wp2
    go_ret
    exact ⟨rfl, rfl⟩
  | false =>
    rw [if_neg (by simp)]
    go_enter Yba.func17, Yba.ntmps17
    go_wp2
    go_ret
    exact ⟨rfl, rfl⟩

theorem upper_any (a b : ByteArray) (w : World) : Calls Yba.prog 18 #[.string a, .string b] w fun e w' => e = .returned (.string (upS a b)) ∧ w' = w := by
  by_cases h1 : a.toList = []
  · rw [up_1 h1]
    go_enter Yba.func18, Yba.ntmps18
    go_wp2
    go_ret
    exact ⟨rfl, rfl⟩
  · have g1 := emB h1
    by_cases h2 : b.toList = []
    · rw [up_2 h1 h2]
      go_enter Yba.func18, Yba.ntmps18
      go_wp2
      go_ret
      exact ⟨rfl, rfl⟩
    · have g2 := emB h2
      cases h3 : Op.bytesLess a.toList b.toList with
      | true =>
        have e : upS a b = a := by simp [upS, em, lt, h1, h2, h3]
        rw [e]; clear e
        go_enter Yba.func18, Yba.ntmps18
        go_wp2
        go_ret
        exact ⟨rfl, rfl⟩
      | false =>
        have e : upS a b = b := by simp [upS, em, lt, h1, h2, h3]
        rw [e]; clear e
        go_enter Yba.func18, Yba.ntmps18
        go_wp2
        go_ret
        exact ⟨rfl, rfl⟩

theorem lower_eq {a b f : ByteArray} (h : lowS a b = f) (w : World) : Calls Yba.prog 17 #[.string a, .string b] w fun e w' => e = .returned (.string f) ∧ w = w' := by
  subst h; exact (lower_any a b w).mono fun e w' h => ⟨h.1, h.2.symm⟩
theorem upper_eq {a b f : ByteArray} (h : upS a b = f) (w : World) : Calls Yba.prog 18 #[.string a, .string b] w fun e w' => e = .returned (.string f) ∧ w = w' := by
  subst h; exact (upper_any a b w).mono fun e w' h => ⟨h.1, h.2.symm⟩
theorem model_none (sf st : ByteArray) (a sa : Option Addr) (c ns sc : Nat) (w : World) :
    Calls Yba.prog 8 #[.slice a 0 c, .slice sa ns sc, .agg #[.string sf, .string st]] w fun e w' => e = .returned (.slice none 0 0) ∧ Below w.heap.size w w' := by
  go_enter Yba.func8, Yba.ntmps8
  go_wp2_with fail
  refine wp_loop_rounds 1 ?_
  rw [rounds_succ]
  go_wp2
  go_ret
  exact ⟨rfl, (Below.refl _ _).alloc (Nat.le_refl _) _⟩

theorem rel_keep1 {W0 wr w1 : World} {B : Nat} {v v' : Value} {ps : List (Int × ByteArray × ByteArray)} {p : Int × ByteArray × ByteArray} {o1 : Obj} (hbel : Below B W0 wr) (hB : B ≤ wr.heap.size)
    (hown : wr.ownsRow B 35 3 v ps.length (flat ps)) (hown' : w1.ownsRow B 35 3 v' (ps.length + 1) (flat ps ++ cellsP p)) (hgrow : (wr.alloc o1).grownBy w1 v.ownBlock) (hnl : ¬ v' = .slice none 0 0) :
    Below B W0 w1 ∧ w1.ownsRow B 35 3 v' (ps ++ [p]).length (flat (ps ++ [p])) ∧ (ps ++ [p] = [] ↔ v' = .slice none 0 0) := by
  refine ⟨(hbel.alloc hB o1).grown hgrow (by simp; omega) (fun k hk => (hown.lt k hk).1), ?_, ?_⟩
  · rw [flat_append]; simpa [flat] using hown'
  · simp [hnl]

set_option maxRecDepth 100000 in
set_option maxHeartbeats 1000000 in
theorem model_some (ib io n ic : Nat) (sb so ns sc : Nat) (sf st : ByteArray) (ids : Nat → Int) (sp : Nat → ByteArray) (w : World)
    (hn : 0 < n) (hns : n ≤ ns + 1) (hbig : n ≤ 1048576) (hsm : ns ≤ 1048576)
    (hi : ∀ j, j < n → w.cell? ⟨ib, io + j, none⟩ = some (.int .i64 (ids j))) (hs : ∀ j, j < ns → w.cell? ⟨sb, so + j, none⟩ = some (.string (sp j))) :
    Calls Yba.prog 8 #[.slice (some ⟨ib, io, none⟩) n ic, .slice (some ⟨sb, so, none⟩) ns sc, .agg #[.string sf, .string st]] w fun e w' => ∃ v, e = .returned v ∧ Below w.heap.size w w' ∧
      w'.ownsRow w.heap.size 35 3 v (Pk sf st ids ns sp n).length (flat (Pk sf st ids ns sp n)) ∧ (Pk sf st ids ns sp n = [] ↔ v = .slice none 0 0) := by
  obtain ⟨i0, hI, hz0, hz1, hz2⟩ := info_parts info35
  go_enter Yba.func8, Yba.ntmps8
  go_wp2_with fail
  go_loopw [7, 8] (fun v i wr => ∃ k : Nat, k ≤ n ∧ i = .int .i64 k ∧ Below (w.heap.size + 1) (w.alloc (.cells #[.string sf, .string st] 30)) wr ∧
      wr.ownsRow (w.heap.size + 1) 35 3 v (Pk sf st ids ns sp k).length (flat (Pk sf st ids ns sp k)) ∧ (Pk sf st ids ns sp k = [] ↔ v = .slice none 0 0))
    (fun _ i _ => n - (intOf i).toNat)
  case atStart => exact ⟨0, Nat.zero_le _, rfl, Below.refl _ _, World.ownsRow_nil _ _ _ _, by simp [Pk]⟩
  case round =>
    obtain ⟨k, hk, rfl, hbel, hown, hnil⟩ := hrel
    have hsz : w.heap.size < wr.heap.size := by have := hbel.size; simp at this; omega
    have s0 : wr.cell? ⟨w.heap.size, 0, none⟩ = some (.string sf) := (hbel.cell (p := ⟨w.heap.size, 0, none⟩) (Nat.lt_succ_self _)).trans (by simp)
    have s1 : wr.cell? ⟨w.heap.size, 1, none⟩ = some (.string st) := (hbel.cell (p := ⟨w.heap.size, 1, none⟩) (Nat.lt_succ_self _)).trans (by simp)
    by_cases hkn : k < n
    · have hib : ib < w.heap.size := World.block_lt_of_cell? _ _ (hi 0 hn)
      have qi : wr.cell? ⟨ib, io + k, none⟩ = some (.int .i64 (ids k)) :=
        (hbel.cell (p := ⟨ib, io + k, none⟩) (Nat.lt_succ_of_lt hib)).trans ((World.cell?_alloc_lt _ _ _ hib).trans (hi k hkn))
      have qs : ∀ j, j < ns → wr.cell? ⟨sb, so + j, none⟩ = some (.string (sp j)) := by
        intro j hj
        have hsb : sb < w.heap.size := World.block_lt_of_cell? _ _ (hs j hj)
        exact (hbel.cell (p := ⟨sb, so + j, none⟩) (Nat.lt_succ_of_lt hsb)).trans ((World.cell?_alloc_lt _ _ _ hsb).trans (hs j hj))
      have HS : Hid (∀ j, j < ns → wr.cell? ⟨sb, so + j, none⟩ = some (.string (sp j))) := qs
      clear hs qs
      have HO : Hid (wr.ownsRow (w.heap.size + 1) 35 3 u7 (Pk sf st ids ns sp k).length (flat (Pk sf st ids ns sp k))) := hown
      have HN : Hid (Pk sf st ids ns sp k = [] ↔ u7 = .slice none 0 0) := hnil
      have HB : Hid (Below (w.heap.size + 1) (w.alloc (.cells #[.string sf, .string st] 30)) wr) := hbel
      have hlk := Pk_le sf st ids ns sp k
      clear hi hown hnil hbel
      go_upto_if 20 with fail
      go_cut [8, 9] from 13 to 59 (fun i c wc => i = .int .i64 k ∧ c = .string (loF sp k) ∧ wr = wc)
      case first =>
        by_cases hk0 : 0 < k
        · have c1 := HS.out (k - 1) (by omega)
          go_wp2_with fail
          go_meet
          exact ⟨rfl, by simp [loF, hk0], rfl⟩
        · go_wp2_with fail
          go_meet
          exact ⟨rfl, by simp [loF, hk0]; rfl, rfl⟩
      case rest =>
        obtain ⟨rfl, rfl, rfl⟩ := hcut
        generalize hlo : loF sp k = lo
        have HLO : Hid (loF sp k = lo) := hlo
        clear hlo
        go_upto_if 29 with fail
        go_cut [8, 10] from 13 to 59 (fun i c wc => i = .int .i64 k ∧ c = .string (hiF ns sp k) ∧ wr = wc)
        case first =>
          by_cases hk0 : k < ns
          · have c1 := HS.out k hk0
            go_wp2_with fail
            go_meet
            exact ⟨rfl, by simp [hiF, hk0], rfl⟩
          · go_wp2_with fail
            go_meet
            exact ⟨rfl, by simp [hiF, hk0]; rfl, rfl⟩
        case rest =>
          obtain ⟨rfl, rfl, rfl⟩ := hcut
          generalize hhi : hiF ns sp k = hh
          have HSTEP : Hid (Pk sf st ids ns sp (k + 1) = Pk sf st ids ns sp k ++ pcs sf st (ids k) lo hh) := by
            show _ = _
            rw [← HLO.out, ← hhi]; rfl
          clear hhi
          obtain ⟨f, hf⟩ : ∃ f, lowS sf lo = f := ⟨_, rfl⟩
          obtain ⟨t, ht⟩ : ∃ t, upS st hh = t := ⟨_, rfl⟩
          have HF : Hid (lowS sf lo = f) := hf
          have HT : Hid (upS st hh = t) := ht
          clear hf ht
          go_upto_region 13 with (first | (go_at_call 17; refine (lower_eq HF.out _).mono ?_; rintro e w' ⟨rfl, rfl⟩) | (go_at_call 18; refine (upper_eq HT.out _).mono ?_; rintro e w' ⟨rfl, rfl⟩))
          go_cut [8, 48] from 13 to 59 (fun i c wc => i = .int .i64 k ∧ c = .bool (keepIt f t) ∧ wr = wc)
          case first =>
            by_cases e1 : t.toList = []
            · go_wp2_with fail
              go_meet
              exact ⟨rfl, by rw [keep_1 e1], rfl⟩
            · go_wp2_with fail
              go_meet
              exact ⟨rfl, by rw [keep_2 e1]; simp [e1], rfl⟩
          case rest =>
            obtain ⟨rfl, rfl, rfl⟩ := hcut
            cases e : keepIt f t with
            | true =>
              have R1 : Hid (Pk sf st ids ns sp (k + 1) = Pk sf st ids ns sp k ++ [(ids k, f, t)]) := HSTEP.out.trans (by rw [pcs_yes HF.out HT.out e])
              go_wp2_with (at_builtin; refine wpList_append_own _ rfl _ _ 31 rfl (w.heap.size + 1) 35 i0 (.agg #[.int .i64 0, .string ByteArray.empty, .string ByteArray.empty]) 3 40 Yba.underlying31 hI hz0 hz1 hz2 rfl (by decide) _ _ _ rfl (HO.out.alloc _) ⟨wr.heap.size, 0, none⟩ 1 1 (cellsP (ids k, f, t)) rfl rfl (cell3_new _ _ _ _ _ _ rfl) (oneCellP _) (by unfold maxLen; omega) (by omega) (by simp; omega) ?_)
              intro v' w1 hown' hgrow hnl
              have R := rel_keep1 HB.out (by omega) HO.out hown' hgrow hnl
              rw [← R1.out] at R
              clear hown' hgrow hnl
              obtain ⟨R1', R2', R3'⟩ := R
              go_wp2
              go_roundw
              case rel => exact ⟨k + 1, by omega, by go_num, R1', R2', R3'⟩
              case measure => simp [intOf]; omega
            | false =>
              have R1 : Hid (Pk sf st ids ns sp (k + 1) = Pk sf st ids ns sp k) := HSTEP.out.trans (by rw [pcs_no HF.out HT.out e, List.append_nil])
              go_wp2_with fail
              go_roundw
              case rel => exact ⟨k + 1, by omega, by go_num, HB.out, R1.out ▸ HO.out, R1.out ▸ HN.out⟩
              case measure => simp [intOf]; omega
    · obtain rfl : k = n := by omega
      go_wp2_with fail
      go_ret
      exact ⟨_, rfl, ((Below.refl _ _).alloc (Nat.le_refl _) _).trans (hbel.mono (Nat.le_succ _)), own_mono hown (Nat.le_succ _), hnil⟩

set_option maxRecDepth 100000 in
set_option maxHeartbeats 1000000 in
theorem model_one (ib io n ic : Nat) (sa : Option Addr) (sc : Nat) (sf st : ByteArray) (ids : Nat → Int) (sp : Nat → ByteArray) (w : World)
    (hn : 0 < n) (hns : n ≤ 0 + 1) (hbig : n ≤ 1048576) (hsm : 0 ≤ 1048576)
    (hi : ∀ j, j < n → w.cell? ⟨ib, io + j, none⟩ = some (.int .i64 (ids j))) :
    Calls Yba.prog 8 #[.slice (some ⟨ib, io, none⟩) n ic, .slice sa 0 sc, .agg #[.string sf, .string st]] w fun e w' => ∃ v, e = .returned v ∧ Below w.heap.size w w' ∧
      w'.ownsRow w.heap.size 35 3 v (Pk sf st ids 0 sp n).length (flat (Pk sf st ids 0 sp n)) ∧ (Pk sf st ids 0 sp n = [] ↔ v = .slice none 0 0) := by
  obtain ⟨i0, hI, hz0, hz1, hz2⟩ := info_parts info35
  go_enter Yba.func8, Yba.ntmps8
  go_wp2_with fail
  go_loopw [7, 8] (fun v i wr => ∃ k : Nat, k ≤ n ∧ i = .int .i64 k ∧ Below (w.heap.size + 1) (w.alloc (.cells #[.string sf, .string st] 30)) wr ∧
      wr.ownsRow (w.heap.size + 1) 35 3 v (Pk sf st ids 0 sp k).length (flat (Pk sf st ids 0 sp k)) ∧ (Pk sf st ids 0 sp k = [] ↔ v = .slice none 0 0))
    (fun _ i _ => n - (intOf i).toNat)
  case atStart => exact ⟨0, Nat.zero_le _, rfl, Below.refl _ _, World.ownsRow_nil _ _ _ _, by simp [Pk]⟩
  case round =>
    obtain ⟨k, hk, rfl, hbel, hown, hnil⟩ := hrel
    have hsz : w.heap.size < wr.heap.size := by have := hbel.size; simp at this; omega
    have s0 : wr.cell? ⟨w.heap.size, 0, none⟩ = some (.string sf) := (hbel.cell (p := ⟨w.heap.size, 0, none⟩) (Nat.lt_succ_self _)).trans (by simp)
    have s1 : wr.cell? ⟨w.heap.size, 1, none⟩ = some (.string st) := (hbel.cell (p := ⟨w.heap.size, 1, none⟩) (Nat.lt_succ_self _)).trans (by simp)
    by_cases hkn : k < n
    · have hib : ib < w.heap.size := World.block_lt_of_cell? _ _ (hi 0 hn)
      have qi : wr.cell? ⟨ib, io + k, none⟩ = some (.int .i64 (ids k)) :=
        (hbel.cell (p := ⟨ib, io + k, none⟩) (Nat.lt_succ_of_lt hib)).trans ((World.cell?_alloc_lt _ _ _ hib).trans (hi k hkn))
      have hk0 : ¬ 0 < k := by omega
      have HO : Hid (wr.ownsRow (w.heap.size + 1) 35 3 u7 (Pk sf st ids 0 sp k).length (flat (Pk sf st ids 0 sp k))) := hown
      have HN : Hid (Pk sf st ids 0 sp k = [] ↔ u7 = .slice none 0 0) := hnil
      have HB : Hid (Below (w.heap.size + 1) (w.alloc (.cells #[.string sf, .string st] 30)) wr) := hbel
      have hlk := Pk_le sf st ids 0 sp k
      clear hi hown hnil hbel
      go_upto_if 20 with fail
      go_cut [8, 9] from 13 to 59 (fun i c wc => i = .int .i64 k ∧ c = .string (loF sp k) ∧ wr = wc)
      case first =>
        go_wp2_with fail
        go_meet
        exact ⟨rfl, by simp [loF, hk0]; rfl, rfl⟩
      case rest =>
        obtain ⟨rfl, rfl, rfl⟩ := hcut
        generalize hlo : loF sp k = lo
        have HLO : Hid (loF sp k = lo) := hlo
        clear hlo
        go_upto_if 29 with fail
        go_cut [8, 10] from 13 to 59 (fun i c wc => i = .int .i64 k ∧ c = .string (hiF 0 sp k) ∧ wr = wc)
        case first =>
          go_wp2_with fail
          go_meet
          exact ⟨rfl, by simp [hiF]; rfl, rfl⟩
        case rest =>
          obtain ⟨rfl, rfl, rfl⟩ := hcut
          generalize hhi : hiF 0 sp k = hh
          have HSTEP : Hid (Pk sf st ids 0 sp (k + 1) = Pk sf st ids 0 sp k ++ pcs sf st (ids k) lo hh) := by
            show _ = _
            rw [← HLO.out, ← hhi]; rfl
          clear hhi
          obtain ⟨f, hf⟩ : ∃ f, lowS sf lo = f := ⟨_, rfl⟩
          obtain ⟨t, ht⟩ : ∃ t, upS st hh = t := ⟨_, rfl⟩
          have HF : Hid (lowS sf lo = f) := hf
          have HT : Hid (upS st hh = t) := ht
          clear hf ht
          go_upto_region 13 with (first | (go_at_call 17; refine (lower_eq HF.out _).mono ?_; rintro e w' ⟨rfl, rfl⟩) | (go_at_call 18; refine (upper_eq HT.out _).mono ?_; rintro e w' ⟨rfl, rfl⟩))
          go_cut [8, 48] from 13 to 59 (fun i c wc => i = .int .i64 k ∧ c = .bool (keepIt f t) ∧ wr = wc)
          case first =>
            by_cases e1 : t.toList = []
            · go_wp2_with fail
              go_meet
              exact ⟨rfl, by rw [keep_1 e1], rfl⟩
            · go_wp2_with fail
              go_meet
              exact ⟨rfl, by rw [keep_2 e1]; simp [e1], rfl⟩
          case rest =>
            obtain ⟨rfl, rfl, rfl⟩ := hcut
            cases e : keepIt f t with
            | true =>
              have R1 : Hid (Pk sf st ids 0 sp (k + 1) = Pk sf st ids 0 sp k ++ [(ids k, f, t)]) := HSTEP.out.trans (by rw [pcs_yes HF.out HT.out e])
              go_wp2_with (at_builtin; refine wpList_append_own _ rfl _ _ 31 rfl (w.heap.size + 1) 35 i0 (.agg #[.int .i64 0, .string ByteArray.empty, .string ByteArray.empty]) 3 40 Yba.underlying31 hI hz0 hz1 hz2 rfl (by decide) _ _ _ rfl (HO.out.alloc _) ⟨wr.heap.size, 0, none⟩ 1 1 (cellsP (ids k, f, t)) rfl rfl (cell3_new _ _ _ _ _ _ rfl) (oneCellP _) (by unfold maxLen; omega) (by omega) (by simp; omega) ?_)
              intro v' w1 hown' hgrow hnl
              have R := rel_keep1 HB.out (by omega) HO.out hown' hgrow hnl
              rw [← R1.out] at R
              clear hown' hgrow hnl
              obtain ⟨R1', R2', R3'⟩ := R
              go_wp2
              go_roundw
              case rel => exact ⟨k + 1, by omega, by go_num, R1', R2', R3'⟩
              case measure => simp [intOf]; omega
            | false =>
              have R1 : Hid (Pk sf st ids 0 sp (k + 1) = Pk sf st ids 0 sp k) := HSTEP.out.trans (by rw [pcs_no HF.out HT.out e, List.append_nil])
              go_wp2_with fail
              go_roundw
              case rel => exact ⟨k + 1, by omega, by go_num, HB.out, R1.out ▸ HO.out, R1.out ▸ HN.out⟩
              case measure => simp [intOf]; omega
    · obtain rfl : k = n := by omega
      go_wp2_with fail
      go_ret
      exact ⟨_, rfl, ((Below.refl _ _).alloc (Nat.le_refl _) _).trans (hbel.mono (Nat.le_succ _)), own_mono hown (Nat.le_succ _), hnil⟩
end Go.Proofs.Ybulkdqxm
