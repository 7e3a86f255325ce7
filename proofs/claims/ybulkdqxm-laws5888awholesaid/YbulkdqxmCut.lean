import Derived.Test.YbulkdqxmParts
import Derived.Test.YbulkdqxmRows
import Derived.WalkKit
import Derived.WalkLawsBesides
import Derived.Deep.LoopGhost
import Derived.Deep.Cut
import Derived.Deep.CutRange
import Derived.Deep.CutBlock
namespace Go.Proofs.Ybulkdqxm
open Go.RowKit
set_option linter.unusedVariables false

theorem info35 : (Yba.prog.info? 35).map (fun i => (i.zero, i.size, i.bytes)) = some (some (.agg #[.int .i64 0, .string ByteArray.empty, .string ByteArray.empty]), 3, 40) := by kernel_rfl

theorem low_max (a b : ByteArray) : Lib.maxS a b = lowS a b := by
  unfold Lib.maxS lowS lt
  rw [bytesLess_eq, Lib.toList_data, Lib.toList_data]
  by_cases h : a.data.toList < b.data.toList <;> simp [h]
theorem up_1 {st hi : ByteArray} (h1 : st.toList = []) : upS st hi = hi := by simp [upS, em, h1]
theorem up_2 {st hi : ByteArray} (h1 : ¬ st.toList = []) (h2 : hi.toList = []) : upS st hi = st := by simp [upS, em, h1, h2]
theorem up_3 {st hi : ByteArray} (h1 : ¬ st.toList = []) (h2 : ¬ hi.toList = []) (h3 : Op.bytesLess hi.toList st.toList = true) : upS st hi = hi := by
  rw [bytesLess_eq] at h3
  have h3' : hi.toList < st.toList := of_decide_eq_true h3
  have h4 : lt st hi = false := by unfold lt; rw [bytesLess_eq]; simpa using List.le_of_lt h3'
  simp [upS, em, h1, h2, h4]
theorem up_4 {st hi : ByteArray} (h1 : ¬ st.toList = []) (h2 : ¬ hi.toList = []) (h3 : Op.bytesLess hi.toList st.toList = false) : upS st hi = st := by
  rw [bytesLess_eq] at h3
  have h3' : ¬ hi.toList < st.toList := of_decide_eq_false h3
  by_cases h : st.toList < hi.toList
  · have h4 : lt st hi = true := by unfold lt; rw [bytesLess_eq]; simpa using h
    simp [upS, em, h1, h2, h4]
  · have e : st.toList = hi.toList := List.le_antisymm (List.not_lt.1 h3') (List.not_lt.1 h)
    have e' : st = hi := by
      rw [Lib.toList_data, Lib.toList_data] at e
      cases st; cases hi; congr 1; exact Array.toList_inj.1 e
    subst e'
    unfold upS; split <;> simp
/-- Cut's own test: is the piece's end the shard's? -/
def takeHi (st hi : ByteArray) : Bool := decide (st.toList = []) || (decide (¬ hi.toList = []) && Op.bytesLess hi.toList st.toList)
theorem take_1 {st hi : ByteArray} (h : st.toList = []) : takeHi st hi = true := by simp [takeHi, h]
theorem take_2 {st hi : ByteArray} (h : ¬ st.toList = []) (h2 : hi.toList = []) : takeHi st hi = false := by simp [takeHi, h, h2]
theorem take_3 {st hi : ByteArray} (h : ¬ st.toList = []) (h2 : ¬ hi.toList = []) : takeHi st hi = Op.bytesLess hi.toList st.toList := by simp [takeHi, h, h2]
theorem take_yes {st hi : ByteArray} (h : takeHi st hi = true) : upS st hi = hi := by
  by_cases h1 : st.toList = []
  · exact up_1 h1
  · by_cases h2 : hi.toList = []
    · rw [take_2 h1 h2] at h; cases h
    · exact up_3 h1 h2 ((take_3 h1 h2).symm.trans h)
theorem take_no {st hi : ByteArray} (h : takeHi st hi = false) : upS st hi = st := by
  by_cases h1 : st.toList = []
  · rw [take_1 h1] at h; cases h
  · by_cases h2 : hi.toList = []
    · exact up_2 h1 h2
    · exact up_4 h1 h2 ((take_3 h1 h2).symm.trans h)
theorem emB {a : ByteArray} (h : ¬ a.toList = []) : a.toList.isEmpty = false := by simpa using h
def keepIt (f t : ByteArray) : Bool := decide (t.toList = []) || Op.bytesLess f.toList t.toList
theorem keep_1 {f t : ByteArray} (h : t.toList = []) : keepIt f t = true := by simp [keepIt, h]
theorem keep_2 {f t : ByteArray} (h : ¬ t.toList = []) : keepIt f t = Op.bytesLess f.toList t.toList := by simp [keepIt, h]
theorem pcs_yes {sf st : ByteArray} {id : Int} {lo hi f t : ByteArray} (hf : lowS sf lo = f) (ht : upS st hi = t) (h : keepIt f t = true) : pcs sf st id lo hi = [(id, f, t)] := by
  unfold pcs; rw [hf, ht]; rw [if_pos]; simpa [keepIt, em, lt] using h
theorem pcs_no {sf st : ByteArray} {id : Int} {lo hi f t : ByteArray} (hf : lowS sf lo = f) (ht : upS st hi = t) (h : keepIt f t = false) : pcs sf st id lo hi = [] := by
  unfold pcs; rw [hf, ht]; rw [if_neg]; simpa [keepIt, em, lt] using h

theorem cell3_new (W : World) (a b c : Value) (T n : Nat) (h : n = W.heap.size) : ∀ j u, [a, b, c][j]? = some u → (W.alloc (.cells #[a, b, c] T)).cell? ((⟨n, 0, none⟩ : Addr).add j) = some u := by
  subst h
  intro j u hj
  match j, hj with
  | 0, hj => simp at hj; subst hj; simp [Addr.add]
  | 1, hj => simp at hj; subst hj; simp [Addr.add]
  | 2, hj => simp at hj; subst hj; simp [Addr.add]
theorem oneCellP (p : Int × ByteArray × ByteArray) : ∀ u ∈ cellsP p, u.oneCell' = true := by
  intro u hu; simp [cellsP] at hu; rcases hu with rfl | rfl | rfl <;> rfl
theorem own_mono {w : World} {base base' : Nat} {e : TypeId} {size : Nat} {v : Value} {n : Nat} {xs : List Value} (h : w.ownsRow base e size v n xs) (hb : base' ≤ base) : w.ownsRow base' e size v n xs := by
  obtain ⟨h1, h2⟩ := h
  refine ⟨h1, ?_⟩
  rcases h2 with h2 | ⟨g, cap, cur, hv, hg, r⟩
  · exact .inl h2
  · exact .inr ⟨g, cap, cur, hv, Nat.le_trans hb hg, r⟩
theorem rel_keep {W0 wr w1 : World} {B : Nat} {v v' : Value} {ps : List (Int × ByteArray × ByteArray)} {p : Int × ByteArray × ByteArray} {o1 o2 o3 : Obj} (hbel : Below B W0 wr) (hB : B ≤ wr.heap.size)
    (hown : wr.ownsRow B 35 3 v ps.length (flat ps)) (hown' : w1.ownsRow B 35 3 v' (ps.length + 1) (flat ps ++ cellsP p)) (hgrow : (((wr.alloc o1).alloc o2).alloc o3).grownBy w1 v.ownBlock) (hnl : ¬ v' = .slice none 0 0) :
    Below B W0 w1 ∧ w1.ownsRow B 35 3 v' (ps ++ [p]).length (flat (ps ++ [p])) ∧ (ps ++ [p] = [] ↔ v' = .slice none 0 0) := by
  refine ⟨(((hbel.alloc hB o1).alloc (by simp; omega) o2).alloc (by simp; omega) o3).grown hgrow (by simp; omega) (fun k hk => (hown.lt k hk).1), ?_, ?_⟩
  · rw [flat_append]; simpa [flat] using hown'
  · simp [hnl]
theorem rel_drop {W0 wr : World} {B : Nat} {v : Value} {ps : List (Int × ByteArray × ByteArray)} {o1 o2 : Obj} (hbel : Below B W0 wr) (hB : B ≤ wr.heap.size) (hown : wr.ownsRow B 35 3 v ps.length (flat ps)) (hnl : ps = [] ↔ v = .slice none 0 0) :
    Below B W0 ((wr.alloc o1).alloc o2) ∧ ((wr.alloc o1).alloc o2).ownsRow B 35 3 v (ps ++ []).length (flat (ps ++ [])) ∧ (ps ++ [] = [] ↔ v = .slice none 0 0) := by
  rw [List.append_nil]
  exact ⟨(hbel.alloc hB o1).alloc (by simp; omega) o2, (hown.alloc _).alloc _, hnl⟩

theorem cut_none (rb : Nat) (sf st : ByteArray) (a : Option Addr) (c : Nat) (w : World) (hr : w.cell? ⟨rb, 0, none⟩ = some (.slice a 0 c)) :
    Calls Yba.prog 7 #[.pointer (some ⟨rb, 0, none⟩), .agg #[.string sf, .string st]] w fun e w' => e = .returned (.slice none 0 0) ∧ Below w.heap.size w w' := by
  have hrb : rb < w.heap.size := World.block_lt_of_cell? _ _ hr
  have hr1 := fun o => (World.cell?_alloc_lt (o := o) w _ hrb).trans hr
  go_enter Yba.func7, Yba.ntmps7
  go_wp2_with fail
  refine wp_loop_rounds 1 ?_
  rw [rounds_succ]
  go_wp2
  go_ret
  exact ⟨rfl, (Below.refl _ _).alloc (Nat.le_refl _) _⟩

set_option maxRecDepth 100000 in
set_option maxHeartbeats 1000000 in
theorem cut_some (rb ib io n ic : Nat) (sa : Option Addr) (sb so ns sc : Nat) (sf st : ByteArray) (ids : Nat → Int) (sp : Nat → ByteArray) (w : World)
    (hn : 0 < n) (hns : n ≤ ns + 1) (hbig : n ≤ 1048576) (hsm : ns ≤ 1048576) (hsa : 0 < ns → sa = some ⟨sb, so, none⟩)
    (h0 : w.cell? ⟨rb, 0, none⟩ = some (.slice (some ⟨ib, io, none⟩) n ic)) (h1 : w.cell? ⟨rb, 1, none⟩ = some (.slice sa ns sc))
    (hi : ∀ j, j < n → w.cell? ⟨ib, io + j, none⟩ = some (.int .i64 (ids j))) (hs : ∀ j, j < ns → w.cell? ⟨sb, so + j, none⟩ = some (.string (sp j))) :
    Calls Yba.prog 7 #[.pointer (some ⟨rb, 0, none⟩), .agg #[.string sf, .string st]] w fun e w' => ∃ v, e = .returned v ∧ Below w.heap.size w w' ∧
      w'.ownsRow w.heap.size 35 3 v (Pk sf st ids ns sp n).length (flat (Pk sf st ids ns sp n)) ∧ (Pk sf st ids ns sp n = [] ↔ v = .slice none 0 0) := by
  obtain ⟨i0, hI, hz0, hz1, hz2⟩ := info_parts info35
  have hrb : rb < w.heap.size := World.block_lt_of_cell? _ _ h0
  have hr0 := fun o => (World.cell?_alloc_lt (o := o) w _ hrb).trans h0
  go_enter Yba.func7, Yba.ntmps7
  go_wp2_with fail
  obtain ⟨B, hB⟩ : ∃ B, B = w.heap.size := ⟨_, rfl⟩
  go_loopw [5, 15] (fun v i wr => ∃ k : Nat, k ≤ n ∧ i = .int .i64 k ∧ Below (w.heap.size + 1) (w.alloc (.cells #[.string sf, .string st] 30)) wr ∧
      wr.ownsRow (w.heap.size + 1) 35 3 v (Pk sf st ids ns sp k).length (flat (Pk sf st ids ns sp k)) ∧ (Pk sf st ids ns sp k = [] ↔ v = .slice none 0 0))
    (fun _ i _ => n - (intOf i).toNat)
  case atStart => exact ⟨0, Nat.zero_le _, rfl, Below.refl _ _, World.ownsRow_nil _ _ _ _, by simp [Pk]⟩
  case round =>
    obtain ⟨k, hk, rfl, hbel, hown, hnil⟩ := hrel
    have hsz : w.heap.size < wr.heap.size := by have := hbel.size; simp at this; omega
    have q0 : wr.cell? ⟨rb, 0, none⟩ = some (.slice (some ⟨ib, io, none⟩) n ic) := (hbel.cell (p := ⟨rb, 0, none⟩) (Nat.lt_succ_of_lt hrb)).trans (hr0 _)
    have q1 : wr.cell? ⟨rb, 1, none⟩ = some (.slice sa ns sc) := (hbel.cell (p := ⟨rb, 1, none⟩) (Nat.lt_succ_of_lt hrb)).trans ((World.cell?_alloc_lt _ _ _ hrb).trans h1)
    have s0 : wr.cell? ⟨w.heap.size, 0, none⟩ = some (.string sf) := (hbel.cell (p := ⟨w.heap.size, 0, none⟩) (Nat.lt_succ_self _)).trans (by simp)
    have s1 : wr.cell? ⟨w.heap.size, 1, none⟩ = some (.string st) := (hbel.cell (p := ⟨w.heap.size, 1, none⟩) (Nat.lt_succ_self _)).trans (by simp)
    have hrb' : rb < wr.heap.size := Nat.lt_trans hrb hsz
    by_cases hkn : k < n
    · have qi : wr.cell? ⟨ib, io + k, none⟩ = some (.int .i64 (ids k)) := by
        have hib : ib < w.heap.size := World.block_lt_of_cell? _ _ (hi 0 hn)
        exact (hbel.cell (p := ⟨ib, io + k, none⟩) (Nat.lt_succ_of_lt hib)).trans ((World.cell?_alloc_lt _ _ _ hib).trans (hi k hkn))
      have HI : Hid (∀ j, j < n → w.cell? ⟨ib, io + j, none⟩ = some (.int .i64 (ids j))) := hi
      have qs : ∀ j, j < ns → wr.cell? ⟨sb, so + j, none⟩ = some (.string (sp j)) := by
        intro j hj
        have hsb : sb < w.heap.size := World.block_lt_of_cell? _ _ (hs j hj)
        exact (hbel.cell (p := ⟨sb, so + j, none⟩) (Nat.lt_succ_of_lt hsb)).trans ((World.cell?_alloc_lt _ _ _ hsb).trans (hs j hj))
      have hsb' : 0 < ns → sb < wr.heap.size := fun h => World.block_lt_of_cell? _ _ (qs 0 h)
      have HS : Hid (∀ j, j < ns → wr.cell? ⟨sb, so + j, none⟩ = some (.string (sp j))) := qs
      have HSA : Hid (0 < ns → sa = some ⟨sb, so, none⟩) := hsa
      have HSB : Hid (0 < ns → sb < wr.heap.size) := hsb'
      have HR : Hid (∀ o, (w.alloc o).cell? ⟨rb, 0, none⟩ = some (.slice (some ⟨ib, io, none⟩) n ic)) := hr0
      have HO : Hid (wr.ownsRow (w.heap.size + 1) 35 3 u5 (Pk sf st ids ns sp k).length (flat (Pk sf st ids ns sp k))) := hown
      have HN : Hid (Pk sf st ids ns sp k = [] ↔ u5 = .slice none 0 0) := hnil
      clear hi hs qs hsa hsb' hr0 h0 h1 hown hnil
      go_upto_if 22 with fail
      go_cut [15] from 15 to 93 (fun i wc => i = .int .i64 k ∧ ∃ lo, lo = loF sp k ∧ wc = wr.alloc (.cells #[.string lo, .string ByteArray.empty] 30))
      case first =>
        by_cases hk0 : 0 < k
        · have hns0 : 0 < ns := by omega
          have q1' := q1
          rw [HSA.out hns0] at q1'
          have c1 := HS.out (k - 1) (by omega)
          have hsb2 := HSB.out hns0
          clear q1
          go_wp2_with fail
          go_meet
          exact ⟨rfl, _, rfl, by simp [loF, hk0]; rfl⟩
        · go_wp2_with fail
          go_meet
          exact ⟨rfl, _, rfl, by simp [loF, hk0]; rfl⟩
      case rest =>
        obtain ⟨rfl, lo, hlo, rfl⟩ := hcut
        have HLO : Hid (lo = loF sp k) := hlo
        clear hlo
        go_upto_if 38 with fail
        go_cut [15] from 15 to 93 (fun i wc => i = .int .i64 k ∧ ∃ hi, hi = hiF ns sp k ∧ wc = wr.alloc (.cells #[.string lo, .string hi] 30))
        case first =>
          by_cases hk0 : k < ns
          · have hns0 : 0 < ns := by omega
            have q1' := q1
            rw [HSA.out hns0] at q1'
            have c1 := HS.out k hk0
            have hsb2 := HSB.out hns0
            clear q1
            go_wp2_with fail
            go_meet
            exact ⟨rfl, _, rfl, by simp [hiF, hk0]⟩
          · go_wp2_with fail
            go_meet
            exact ⟨rfl, _, rfl, by simp [hiF, hk0]⟩
        case rest =>
          obtain ⟨rfl, hi, hhi, rfl⟩ := hcut
          have HHI : Hid (hi = hiF ns sp k) := hhi
          have HB : Hid (Below (w.heap.size + 1) (w.alloc (.cells #[.string sf, .string st] 30)) wr) := hbel
          have hstep : Pk sf st ids ns sp (k + 1) = Pk sf st ids ns sp k ++ pcs sf st (ids k) lo hi := by rw [HLO.out, HHI.out]; rfl
          have HSTEP : Hid (Pk sf st ids ns sp (k + 1) = Pk sf st ids ns sp k ++ pcs sf st (ids k) lo hi) := hstep
          have hlk := Pk_le sf st ids ns sp k
          clear hhi q0 q1 qi hbel hstep
          obtain ⟨f, hf⟩ : ∃ f, lowS sf lo = f := ⟨_, rfl⟩
          have hmax : ∀ W ts t, (Builtin.max_ ts t #[.string sf, .string lo]).run Yba.prog W = .ok (.string f) W := fun W ts t => (Lib.run_max_strs (P := Yba.prog) W ts t sf lo).trans (by rw [low_max, hf])
          have HF : Hid (lowS sf lo = f) := hf
          clear hf
          go_upto_region 11 with fail
          go_cut [15, 71] from 15 to 93 (fun i c wc => i = .int .i64 k ∧ c = .bool (takeHi st hi) ∧ wc = (wr.alloc (.cells #[.string lo, .string hi] 30)).alloc (.cells #[.int .i64 (ids k), .string f, .string st] 35))
          case first =>
            by_cases e1 : st.toList = []
            · have R : takeHi st hi = true := take_1 e1
              go_wp2_with fail
              go_meet
              exact ⟨rfl, by rw [R], rfl⟩
            · by_cases e2 : hi.toList = []
              · have R : takeHi st hi = false := take_2 e1 e2
                go_wp2_with fail
                go_meet
                exact ⟨rfl, by rw [R]; simp [e1], rfl⟩
              · have R : takeHi st hi = Op.bytesLess hi.toList st.toList := take_3 e1 e2
                go_wp2_with fail
                go_meet
                exact ⟨rfl, by rw [R, emB e1, emB e2]; rfl, rfl⟩
          case rest =>
            obtain ⟨rfl, rfl, rfl⟩ := hcut
            go_upto_if 71 with fail
            go_cut [15] from 15 to 93 (fun i wc => i = .int .i64 k ∧ wc = (wr.alloc (.cells #[.string lo, .string hi] 30)).alloc (.cells #[.int .i64 (ids k), .string f, .string (upS st hi)] 35))
            case first =>
              cases e : takeHi st hi with
              | true =>
                go_wp2_with fail
                go_meet
                exact ⟨rfl, by rw [take_yes e]⟩
              | false =>
                go_wp2_with fail
                go_meet
                exact ⟨rfl, by rw [take_no e]⟩
            case rest =>
              obtain ⟨rfl, rfl⟩ := hcut
              obtain ⟨t, ht⟩ : ∃ t, upS st hi = t := ⟨_, rfl⟩
              rw [ht]
              have HT : Hid (upS st hi = t) := ht
              clear ht
              go_upto_region 13 with fail
              go_cut [15, 88] from 15 to 93 (fun i c wc => i = .int .i64 k ∧ c = .bool (keepIt f t) ∧ wc = (wr.alloc (.cells #[.string lo, .string hi] 30)).alloc (.cells #[.int .i64 (ids k), .string f, .string t] 35))
              case first =>
                by_cases e1 : t.toList = []
                · go_wp2_with fail
                  go_meet
                  exact ⟨rfl, by rw [keep_1 e1], rfl⟩
                · go_wp2_with fail
                  go_meet
                  exact ⟨rfl, by rw [keep_2 e1]; simp [e1], rfl⟩
              case rest =>
                obtain ⟨rfl, rfl, rfl⟩ := hcut
                cases e : keepIt f t with
                | true =>
                  have R1 : Hid (Pk sf st ids ns sp (k + 1) = Pk sf st ids ns sp k ++ [(ids k, f, t)]) := HSTEP.out.trans (by rw [pcs_yes HF.out HT.out e])
                  go_wp2_with (at_builtin; refine wpList_append_own _ rfl _ _ 31 rfl (w.heap.size + 1) 35 i0 (.agg #[.int .i64 0, .string ByteArray.empty, .string ByteArray.empty]) 3 40 Yba.underlying31 hI hz0 hz1 hz2 rfl (by decide) _ _ _ rfl (((HO.out.alloc _).alloc _).alloc _) ⟨wr.heap.size + 2, 0, none⟩ 1 1 (cellsP (ids k, f, t)) rfl rfl (cell3_new _ _ _ _ _ _ (by simp)) (oneCellP _) (by unfold maxLen; omega) (by omega) (by simp; omega) ?_)
                  intro v' w1 hown' hgrow hnl
                  have R := rel_keep HB.out (by omega) HO.out hown' hgrow hnl
                  rw [← R1.out] at R
                  clear hown' hgrow hnl
                  obtain ⟨R1', R2', R3'⟩ := R
                  go_wp2
                  go_roundw
                  case rel => exact ⟨k + 1, by omega, by go_num, R1', R2', R3'⟩
                  case measure => simp [intOf]; omega
                | false =>
                  have R1 : Hid (Pk sf st ids ns sp (k + 1) = Pk sf st ids ns sp k ++ []) := HSTEP.out.trans (by rw [pcs_no HF.out HT.out e])
                  go_wp2_with fail
                  go_roundw
                  case rel => exact ⟨k + 1, by omega, by go_num, R1.out ▸ rel_drop HB.out (by omega) HO.out HN.out⟩
                  case measure => simp [intOf]; omega
    · obtain rfl : k = n := by omega
      go_wp2_with fail
      go_ret
      exact ⟨_, rfl, ((Below.refl _ _).alloc (Nat.le_refl _) _).trans (hbel.mono (Nat.le_succ _)), own_mono hown (Nat.le_succ _), hnil⟩
end Go.Proofs.Ybulkdqxm
