import Derived.Test.YbulkdqyoBase
namespace Go.Proofs.Ybulkdqyo
open Go.RowKit
set_option linter.unusedVariables false

/-- Is x named by one of the first k ranks? -/
def seenF (r : Nat → Nat) (k x : Nat) : Bool := (List.range k).any (fun j => r j == x)
theorem seen_succ (r : Nat → Nat) (k x : Nat) : seenF r (k + 1) x = (seenF r k x || r k == x) := by
  simp [seenF, List.range_succ]
def kindF (r : Nat → Nat) (k x : Nat) : Int := if seenF r k x then 1 else 0
theorem cnt_congr {f g : Nat → Int} {m : Nat} (h : ∀ x, x < m → f x = g x) : cnt f m = cnt g m := by
  induction m with
  | zero => rfl
  | succ m ih => simp only [cnt]; rw [ih (fun x hx => h x (by omega)), h m (by omega)]
theorem cnt_set {f g : Nat → Int} {p m : Nat} (hp : p < m) (h0 : ¬ f p = 1) (h1 : g p = 1) (hg : ∀ x, ¬ x = p → g x = f x) : cnt g m = cnt f m + 1 := by
  induction m with
  | zero => omega
  | succ m ih =>
    by_cases e : p = m
    · subst e
      rw [cnt_yes h1, cnt_no h0, cnt_congr (fun x hx => hg x (by omega))]
    · have ih := ih (by omega)
      have hm := hg m (by omega)
      by_cases h : f m = 1
      · rw [cnt_yes h, cnt_yes (hm.trans h), ih]
      · rw [cnt_no h, cnt_no (by rw [hm]; exact h), ih]
/-- How many different ranks the first k name. -/
def dist (r : Nat → Nat) (s k : Nat) : Nat := cnt (kindF r k) s
theorem dist_new {r : Nat → Nat} {s k : Nat} (hr : r k < s) (h : seenF r k (r k) = false) : dist r s (k + 1) = dist r s k + 1 := by
  unfold dist
  refine cnt_set (p := r k) hr (by simp [kindF, h]) (by simp [kindF, seen_succ]) (fun x e => ?_)
  simp only [kindF, seen_succ]
  have : (r k == x) = false := by rw [beq_eq_false_iff_ne]; omega
  rw [this, Bool.or_false]
theorem dist_old {r : Nat → Nat} {s k : Nat} (h : seenF r k (r k) = true) : dist r s (k + 1) = dist r s k := by
  unfold dist
  refine cnt_congr (fun x _ => ?_)
  simp only [kindF, seen_succ]
  by_cases e : x = r k
  · subst e; simp [h]
  · have : (r k == x) = false := by rw [beq_eq_false_iff_ne]; omega
    rw [this, Bool.or_false]
theorem seen_set (r : Nat → Nat) (k x : Nat) : (if x = r k then true else seenF r k x) = seenF r (k + 1) x := by
  rw [seen_succ]
  by_cases e : x = r k
  · subst e; simp
  · rw [if_neg e]
    have : (r k == x) = false := by rw [beq_eq_false_iff_ne]; omega
    rw [this, Bool.or_false]
theorem seen_keep {r : Nat → Nat} {k : Nat} (h : seenF r k (r k) = true) (x : Nat) : seenF r k x = seenF r (k + 1) x := by
  rw [← seen_set]
  by_cases e : x = r k
  · subst e; simp [h]
  · rw [if_neg e]
theorem dist_le (r : Nat → Nat) (s k : Nat) : dist r s k ≤ s := cnt_le _ _

set_option maxRecDepth 100000 in
set_option maxHeartbeats 400000 in
theorem kindsOf_any {s : Nat} {a : Option Addr} {n c : Nat} {r : Nat → Nat} {w : World} (hs : s ≤ 64) (hn : n ≤ 65536) (hv : IsV w a n (fun j => .int .i32 (r j))) (hr : ∀ j, j < n → r j < s) :
    Calls Yba.prog 10 #[.int .i64 s, .slice a n c] w fun e w' => e = .returned (.slice (some ⟨w.heap.size, 0, none⟩) s s) ∧ w'.rowIs w.heap.size 50 s (fun x => .int .u8 (kindF r n x)) ∧ Below w.heap.size w w' := by
  have hmk := run_make_row' (P := Yba.prog) 49 50 (.int .u8 0) 1 Yba.underlying49 info50 rfl .i64 .i64 s (by omega) (by omega)
  by_cases h0 : n = 0
  · subst h0
    go_enter Yba.func10, Yba.ntmps10
    go_wp2
    refine wp_loop_rounds 1 ?_
    rw [rounds_succ]
    go_wp2
    go_ret
    exact ⟨rfl, (World.rowIs_made w _ s 50).congr (fun i _ => by simp [kindF, seenF]), (Below.refl _ _).alloc (Nat.le_refl _) _⟩
  rcases hv with h | ⟨b, off, rfl, hc⟩
  · exact absurd h h0
  have hb : b < w.heap.size := World.block_lt_of_cell? _ _ (hc 0 (by omega))
  have HC : Hid (∀ j, j < n → w.cell? ⟨b, off + j, none⟩ = some (.int .i32 (r j))) := hc
  have HR : Hid (∀ j, j < n → r j < s) := hr
  clear hc hr
  go_enter Yba.func10, Yba.ntmps10
  go_wp2
  go_loopw [12] (fun i wr => ∃ k : Nat, k ≤ n ∧ i = .int .i64 k ∧ Below w.heap.size w wr ∧ Hid (wr.rowIs w.heap.size 50 s (fun x => .int .u8 (kindF r k x)))) (fun i _ => n - (intOf i).toNat)
  case atStart => exact ⟨0, Nat.zero_le _, rfl, (Below.refl _ _).alloc (Nat.le_refl _) _, (World.rowIs_made w _ s 50).congr (fun i _ => by simp [kindF, seenF])⟩
  case round =>
    obtain ⟨k, hk, rfl, hbr, HW⟩ := hrel
    by_cases hkn : k < n
    · have c1 : wr.cell? ⟨b, off + k, none⟩ = some (.int .i32 (r k)) := (hbr.cell (p := ⟨b, off + k, none⟩) hb).trans (HC.out k hkn)
      have hrk := HR.out k hkn
      have c2 := HW.out.cell hrk
      have c3 := HW.out.frozen (r k)
      go_wp2_with fail
      go_roundw
      case rel => exact ⟨k + 1, by omega, by go_num, hbr.setCell (Nat.le_refl _) _, (HW.out.set (r k) _).congr (fun x _ => by simp only [kindF, ← seen_set r k x]; by_cases e : x = r k <;> simp [e])⟩
      case measure => simp [intOf]; omega
    · obtain rfl : k = n := by omega
      go_wp2_with fail
      go_ret
      exact ⟨rfl, HW.out, hbr⟩

theorem idx_step (r : Nat → Nat) (k n : Nat) : ∀ i, i < n → (if i = k then Value.int .i32 (r k : Int) else Value.int .i32 (if i < k then (r i : Int) else 0)) = Value.int .i32 (if i < k + 1 then (r i : Int) else 0) := by
  intro i _
  by_cases h : i = k
  · subst h; simp
  · rw [if_neg h]
    by_cases h2 : i < k
    · rw [if_pos h2, if_pos (by omega)]
    · rw [if_neg h2, if_neg (by omega)]
theorem dist_zero (r : Nat → Nat) (s : Nat) : dist r s 0 = 0 := by
  unfold dist
  induction s with
  | zero => rfl
  | succ s ih => rw [cnt_no (by simp [kindF, seenF])]; exact ih
theorem seen_start (W : World) (r : Nat → Nat) (cs : Array Value) (hcs : cs = Array.replicate 64 (.bool false)) (g : Nat) (hg : g = W.heap.size) : (W.alloc (.cells cs 53)).rowIs g 53 64 (fun x => .bool (seenF r 0 x)) := by
  subst hcs; subst hg
  have := World.rowIs_alloc W (Array.replicate 64 (.bool false)) 53 (fun x => .bool (seenF r 0 x)) (fun i hi => by simp at hi; simp [hi, seenF])
  simpa using this

theorem walkK_big (n0 : Int) (a0 : Option Addr) (n c : Nat) (w : World) (h : 65536 < n) (hb : n ≤ 9223372036854775807) :
    Calls Yba.prog 5 #[.int .u8 n0, .slice a0 n c] w fun e w' => e = .returned (.bool true) ∧ Below w.heap.size w w' := by
  go_enter Yba.func5, Yba.ntmps5
  go_wp2_with fail
  go_ret
  exact ⟨rfl, Below.refl _ _⟩

set_option maxRecDepth 100000 in
set_option maxHeartbeats 1000000 in
theorem walkK_pos (n0 : Int) (hn0 : 0 ≤ n0) (hn1 : n0 ≤ 255) (b off n c : Nat) (z : Nat → Int) (w : World) (h0 : 0 < n) (hn : n ≤ 65536) (hc : ∀ j, j < n → w.cell? ⟨b, off + j, none⟩ = some (.int .u8 (z j))) (hz : ∀ j, j < n → 0 ≤ z j ∧ z j ≤ 255) :
    Calls Yba.prog 5 #[.int .u8 n0, .slice (some ⟨b, off, none⟩) n c] w fun e w' => e = .returned (.bool true) ∧ Below w.heap.size w w' := by
  have hmk := run_make_row' (P := Yba.prog) 22 21 (.int .i32 0) 4 Yba.underlying22 info21 rfl .i64 .i64 n (by omega) (by omega)
  have hb : b < w.heap.size := World.block_lt_of_cell? _ _ (hc 0 h0)
  have HC : Hid (∀ j, j < n → w.cell? ⟨b, off + j, none⟩ = some (.int .u8 (z j))) := hc
  have HZ : Hid (∀ j, j < n → 0 ≤ z j ∧ z j ≤ 255) := hz
  clear hc hz
  go_enter Yba.func5, Yba.ntmps5
  go_wp2_with fail
  obtain ⟨s, hs⟩ : ∃ s : Nat, n0 % 64 + 1 = (s : Int) := ⟨(n0 % 64 + 1).toNat, by omega⟩
  have hs1 : 1 ≤ s := by omega
  have hs2 : s ≤ 64 := by omega
  rw [hs]
  clear hs
  obtain ⟨r, hr⟩ : ∃ r : Nat → Nat, ∀ j, j < n → z j % (s : Int) = (r j : Int) ∧ r j < s := by
    refine ⟨fun j => (z j % (s : Int)).toNat, fun j hj => ?_⟩
    have := HZ.out j hj
    have h1 := Int.emod_nonneg (z j) (show (s : Int) ≠ 0 by omega)
    have h2 := Int.emod_lt_of_pos (z j) (show 0 < (s : Int) by omega)
    refine ⟨?_, ?_⟩ <;> simp only [] <;> omega
  have HR : Hid (∀ j, j < n → z j % (s : Int) = (r j : Int) ∧ r j < s) := hr
  clear hr
  go_loopw [8, 9] (fun d i wr => ∃ k : Nat, k ≤ n ∧ i = .int .i64 k ∧ d = .int .i64 (dist r s k) ∧ Below w.heap.size w wr ∧ Hid (wr.rowIs w.heap.size 21 n (fun j => .int .i32 (if j < k then (r j : Int) else 0))) ∧
      Hid (wr.rowIs (w.heap.size + 1) 53 64 (fun x => .bool (seenF r k x)))) (fun _ i _ => n - (intOf i).toNat)
  case atStart => exact ⟨0, Nat.zero_le _, rfl, by rw [dist_zero]; rfl, ((Below.refl _ _).alloc (Nat.le_refl _) _).alloc (by simp) _, ((World.rowIs_made w _ n 21).congr (fun i _ => by simp)).alloc _, seen_start _ r _ rfl _ (by simp)⟩
  case round =>
    obtain ⟨k, hk, rfl, rfl, hbr, HI, HS⟩ := hrel
    have hd := dist_le r s k
    by_cases hkn : k < n
    · have c1 : wr.cell? ⟨b, off + k, none⟩ = some (.int .u8 (z k)) := (hbr.cell (p := ⟨b, off + k, none⟩) hb).trans (HC.out k hkn)
      obtain ⟨z1, z2⟩ := HZ.out k hkn
      obtain ⟨hrk, hrs⟩ := HR.out k hkn
      have c2 := HI.out.cell hkn
      have c3 := HI.out.frozen k
      have c4 := HS.out.cell (i := r k) (by omega)
      have c5 := HS.out.frozen (r k)
      cases hse : seenF r k (r k) with
      | true =>
        rw [hse] at c4
        have HD : Hid (dist r s (k + 1) = dist r s k) := dist_old hse
        have HE : Hid (seenF r k (r k) = true) := hse
        clear hse
        go_wp2_with fail
        go_roundw
        case rel => exact ⟨k + 1, by omega, by go_num, by rw [HD.out], hbr.setCell (Nat.le_refl _) _, (HI.out.set k _).congr (idx_step r k n), (HS.out.setOther (by simp) _).congr (fun x _ => by rw [seen_keep HE.out x])⟩
        case measure => simp [intOf]; omega
      | false =>
        rw [hse] at c4
        have HD : Hid (dist r s (k + 1) = dist r s k + 1) := dist_new hrs hse
        have HE : Hid (seenF r k (r k) = false) := hse
        clear hse
        go_wp2_with fail
        go_roundw
        case rel => exact ⟨k + 1, by omega, by go_num, by rw [HD.out]; go_num, (hbr.setCell (Nat.le_refl _) _).setCell (Nat.le_succ _) _, ((HI.out.set k _).congr (idx_step r k n)).setOther (by simp) _, ((HS.out.setOther (by simp) _).set (r k) _).congr (fun x _ => by rw [← seen_set r k x]; by_cases e : x = r k <;> simp [e])⟩
        case measure => simp [intOf]; omega
    · obtain rfl : k = n := by omega
      have hv : wr.rowIs w.heap.size 21 k (fun j => .int .i32 (r j)) := HI.out.congr (fun i hi => by rw [if_pos hi])
      go_wp2_with fail
      refine (kindsOf_any hs2 hn (isV_row hv) (fun j hj => (HR.out j hj).2)).mono ?_
      rintro e w2 ⟨rfl, hrow, hb2⟩
      have HW : Hid (w2.rowIs wr.heap.size 50 s (fun x => .int .u8 (kindF r k x))) := hrow
      clear hrow hv
      go_wp2_with fail
      refine (contributors_any (f := kindF r k) (isV_row HW.out) (by omega)).mono ?_
      rintro e w3 ⟨rfl, rfl⟩
      have hbe : (((cnt (kindF r k) s : Nat) : Int) == ((dist r s k : Nat) : Int)) = true := by simp [dist]
      go_wp2_with fail
      go_ret
      exact ⟨rfl, hbr.trans (hb2.mono hbr.size)⟩

set_option maxRecDepth 100000 in
set_option maxHeartbeats 400000 in
theorem walkK_zero (n0 : Int) (hn0 : 0 ≤ n0) (hn1 : n0 ≤ 255) (a : Option Addr) (c : Nat) (w : World) :
    Calls Yba.prog 5 #[.int .u8 n0, .slice a 0 c] w fun e w' => e = .returned (.bool true) ∧ Below w.heap.size w w' := by
  have hmk := run_make_row' (P := Yba.prog) 22 21 (.int .i32 0) 4 Yba.underlying22 info21 rfl .i64 .i64 0 (by omega) (by omega)
  simp only [Int.ofNat_zero] at hmk
  go_enter Yba.func5, Yba.ntmps5
  go_wp2_with fail
  obtain ⟨s, hs⟩ : ∃ s : Nat, n0 % 64 + 1 = (s : Int) := ⟨(n0 % 64 + 1).toNat, by omega⟩
  have hs2 : s ≤ 64 := by omega
  rw [hs]
  clear hs
  refine wp_loop_rounds 1 ?_
  rw [rounds_succ]
  go_wp2_with fail
  refine (kindsOf_any (r := fun _ => 0) hs2 (by omega) (.inl rfl) (fun j hj => absurd hj (Nat.not_lt_zero _))).mono ?_
  rintro e w2 ⟨rfl, hrow, hb2⟩
  have hvw := isV_row hrow
  have HW : Hid (IsV w2 (some ⟨w.heap.size + 2, 0, none⟩) s (fun x => .int .u8 (kindF (fun _ => 0) 0 x))) := by show IsV _ _ _ _; simpa using hvw
  have HB : Hid (Below w.heap.size w w2) := (((Below.refl _ _).alloc (Nat.le_refl _) _).alloc (by simp) _).trans (hb2.mono (by simp; omega))
  clear hrow hb2 hvw
  go_wp2_with fail
  refine (contributors_any (f := kindF (fun _ => 0) 0) HW.out (by omega)).mono ?_
  rintro e w3 ⟨rfl, rfl⟩
  have hz : cnt (kindF (fun _ => 0) 0) s = 0 := dist_zero _ s
  rw [hz]
  clear hz
  go_wp2_with fail
  go_ret
  exact ⟨rfl, HB.out⟩
end Go.Proofs.Ybulkdqyo
