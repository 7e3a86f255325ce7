import Derived.Test.YbulkdqyoSeq
import Derived.Deep.MidRow
import Derived.Deep.CutBlock
namespace Go.Proofs.Ybulkdqyo
open Go.RowKit
set_option linter.unusedVariables false

set_option maxRecDepth 100000 in
theorem walkA_big (nodes : Int) (pa ma : Option Addr) (lp pc lm mc : Nat) (hm : Bool) (stop : Int) (w : World) (h : 1048576 < lp + lm) (h1 : lp ≤ 140737488355328) (h2 : lm ≤ 140737488355328) :
    Calls Yba.prog 3 #[.int .i32 nodes, .slice pa lp pc, .bool hm, .slice ma lm mc, .int .u16 stop] w fun e w' => e = .returned (.bool true) ∧ Below w.heap.size w w' := by
  go_enter Yba.func3, Yba.ntmps3
  go_wp2_with fail
  go_ret
  exact ⟨rfl, Below.refl _ _⟩

/-- A struct that is built, by the run of its parts. -/
theorem wpList_build {Pg : Program} {w : World} {ops : Array Oper} {rest : List Oper} {o : Oper} {a : Act} {Q : Exit → Act → World → Prop} (hgd : o.guard = none) (t : TypeId) (x0 x1 x2 x3 : Operand) (ho : o.op = .build t #[(0, x0), (1, x1), (2, x2), (3, x3)]) (v0 v1 v2 v3 v : Value)
    (h0 : a.eval x0 = v0) (h1 : a.eval x1 = v1) (h2 : a.eval x2 = v2) (h3 : a.eval x3 = v3)
    (hrun : (Instr.build t #[(0, v0), (1, v1), (2, v2), (3, v3)]).run Pg w = .ok v w) (h : wpList Pg ops Q rest (a.put o.dst v) w) : wpList Pg ops Q (o :: rest) a w := by
  refine wpList_plain hgd fun K hK => ?_
  unfold Oper.wp
  simp [execOp, ho, h0, h1, h2, h3, hrun, Result.andThen]
  exact hK _ _ h

/-- The route's 133 cells. -/
def rF (nd : Nat) (pe : Nat → Int) (mo : Option Addr) (i : Nat) : Value :=
  if i = 0 then .int .i32 7 else if i = 1 then .int .i32 3 else if i = 2 then .int .i32 2 else if i = 3 then .int .i32 nd else if i < 36 then .int .i32 (pe (i - 4)) else if i < 132 then .int .u8 0 else .pointer mo
def peF (P : Nat → Int) (k j : Nat) : Int := if j < k then P j else 0

def rcells (nd : Nat) : Array Value := (Array.range 133).map (rF nd (fun _ => 0) none)
theorem build32 (nd : Nat) (w : World) : (Instr.build 32 #[(0, .int .i32 7), (1, .int .i32 3), (2, .int .i32 2), (3, .int .i32 (nd : Int))]).run Yba.prog w = .ok (.agg (rcells nd)) w := by kernel_rfl
theorem compl_i32 (n : Int) (h1 : -2147483648 ≤ n) (h2 : n < 0) : bits BinOp.xor IntKind.i32 (-1) n = ((-n - 1).toNat : Int) := by
  show IntKind.i32.wrap ((BitVec.ofInt 32 (-1) ^^^ BitVec.ofInt 32 n).toNat : Int) = _
  have e1 : BitVec.ofInt 32 (-1) = BitVec.allOnes 32 := by decide
  rw [e1, BitVec.allOnes_xor, BitVec.toNat_not, BitVec.toNat_ofInt]
  simp [IntKind.wrap, IntKind.bits, IntKind.signed]
  omega

theorem rF_peer (nd : Nat) (pe : Nat → Int) (mo : Option Addr) (j : Nat) (h : j < 32) : rF nd pe mo (4 + j) = .int .i32 (pe j) := by
  unfold rF
  rw [if_neg (by omega), if_neg (by omega), if_neg (by omega), if_neg (by omega), if_pos (by omega), show 4 + j - 4 = j by omega]
theorem rF_congr {nd : Nat} {pe pe' : Nat → Int} {mo : Option Addr} (h : ∀ j, j < 32 → pe j = pe' j) : ∀ i, i < 133 → rF nd pe mo i = rF nd pe' mo i := by
  intro i hi
  unfold rF
  by_cases h36 : i < 36
  · simp only [h36, if_true]; rw [h (i - 4) (by omega)]
  · simp only [h36, if_false]
theorem r_start (w : World) (nd : Nat) (P : Nat → Int) : (w.alloc (.cells (rcells nd) 32)).rowIs w.heap.size 32 133 (rF nd (peF P 0) none) := by
  have hs : (rcells nd).size = 133 := by simp [rcells]
  have h := World.rowIs_alloc w (rcells nd) 32 (rF nd (fun _ => 0) none) (fun i hi => by rw [hs] at hi; simp [rcells, hi])
  rw [hs] at h
  exact h.congr (rF_congr (fun j _ => by simp [peF]))
theorem r_step (nd : Nat) (P : Nat → Int) (mo : Option Addr) (k : Nat) (hk : k < 32) : ∀ i, i < 133 → (if i = 4 + k then Value.int .i32 (P k) else rF nd (peF P k) mo i) = rF nd (peF P (k + 1)) mo i := by
  intro i hi
  by_cases e : i = 4 + k
  · rw [if_pos e, e, rF_peer _ _ _ _ hk]; simp [peF]
  · rw [if_neg e]
    unfold rF
    by_cases h36 : i < 36
    · simp only [h36, if_true]
      by_cases h4 : i < 4
      · rcases (show i = 0 ∨ i = 1 ∨ i = 2 ∨ i = 3 by omega) with rfl | rfl | rfl | rfl <;> simp
      · have : peF P k (i - 4) = peF P (k + 1) (i - 4) := by
          unfold peF
          by_cases h : i - 4 < k
          · rw [if_pos h, if_pos (by omega)]
          · rw [if_neg h, if_neg (by omega)]
        rw [this]
    · simp only [h36, if_false]
theorem r_more (nd : Nat) (pe : Nat → Int) (mo : Option Addr) : ∀ i, i < 133 → (if i = 132 then Value.pointer mo else rF nd pe none i) = rF nd pe mo i := by
  intro i hi
  by_cases e : i = 132
  · subst e; simp [rF]
  · rw [if_neg e]; unfold rF; simp only [show i < 132 by omega, if_true]
theorem peF_le (P : Nat → Int) (k lp : Nat) (h1 : k ≤ lp) (h2 : k ≤ 32) (h : ¬ k < lp ∨ ¬ k < 32) : ∀ j, j < 32 → peF P k j = peF P lp j := by
  intro j hj
  unfold peF
  by_cases h' : j < k
  · rw [if_pos h', if_pos (by omega)]
  · rw [if_neg h', if_neg (by omega)]

theorem want_view {w : World} {base n : Nat} {a : Option Addr} {c : Nat} {F : List Int} (h : w.ownsRow base 21 1 (.slice a F.length c) n (ivals F)) : IsV w a F.length (fun j => .int .i32 (F.getD j 0)) := by
  by_cases h0 : F.length = 0
  · exact .inl h0
  rcases h.2 with ⟨hv, _⟩ | ⟨g, cap, cur, hv, _⟩
  · simp at hv; exact absurd (by rw [hv.2.1]; rfl) h0
  · simp only [Value.slice.injEq] at hv
    obtain ⟨rfl, _, _⟩ := hv
    refine .inr ⟨g, 0, rfl, fun j hj => ?_⟩
    have := h.cells rfl j (.int .i32 (F.getD j 0)) (by simp [ivals, hj, List.getD])
    rwa [Addr.add_lit] at this

theorem own_cap {w : World} {base n m : Nat} {a : Option Addr} {c : Nat} {xs : List Value} (h : w.ownsRow base 21 1 (.slice a m c) n xs) : m ≤ c := by
  rcases h.2 with ⟨hv, _⟩ | ⟨g, cap, cur, hv, _, _, h1, _⟩
  · simp at hv; omega
  · simp only [Value.slice.injEq] at hv
    obtain ⟨_, rfl, rfl⟩ := hv
    exact h1

theorem three_below (W : World) (o1 o2 o3 : Obj) : Below W.heap.size W (((W.alloc o1).alloc o2).alloc o3) := (((Below.refl _ _).alloc (Nat.le_refl _) _).alloc (by simp) _).alloc (by simp; omega) _
theorem inv_start (W : World) (o1 o3 : Obj) : Inv (((W.alloc o1).alloc (.cells #[.slice none 0 0] 22)).alloc o3) (((W.alloc o1).alloc (.cells #[.slice none 0 0] 22)).alloc o3) (W.heap.size + 1) [] := by
  refine ⟨none, 0, ?_, World.ownsRow_nil _ _ _ _, ⟨rfl, rfl, rfl, Nat.le_refl _, fun _ _ _ => rfl⟩, by simp⟩
  rw [Below.heap_alloc _ _ _ (by simp)]
  have := heap_alloc_new (W.alloc o1) (.cells #[.slice none 0 0] 22)
  simpa using this

theorem inv_below {W w4 : World} {o1 o2 o3 : Obj} {L : List Int} (h : Inv (((W.alloc o1).alloc o2).alloc o3) w4 (W.heap.size + 1) L) : Below W.heap.size W w4 := by
  obtain ⟨a, c, _, _, hg, _⟩ := h
  have hb := three_below W o1 o2 o3
  refine ⟨hg.os.trans hb.os, hg.tape.trans hb.tape, hg.output.trans hb.output, Nat.le_trans hb.size hg.size, fun k hk => (hg.block k (Nat.lt_of_lt_of_le hk hb.size) ?_).trans (hb.block k hk)⟩
  intro e; simp at e; omega
theorem inv_got {W0 w4 : World} {gb : Nat} {L : List Int} (h : Inv W0 w4 gb L) : ∃ a c, w4.cell? ⟨gb, 0, none⟩ = some (.slice a L.length c) ∧ IsV w4 a L.length (fun j => .int .i32 (L.getD j 0)) := by
  obtain ⟨a, c, hblk, hown, _⟩ := h
  exact ⟨a, c, cell_of_one hblk, want_view hown⟩
theorem takeL_le (lim : Nat) (F : List Int) : (takeL lim F).length ≤ F.length := by
  unfold takeL; split
  · exact Nat.le_refl _
  · simp; omega
theorem takeL_get (lim : Nat) (F : List Int) (j : Nat) (h : j < (takeL lim F).length) : (takeL lim F).getD j 0 = F.getD j 0 := by
  unfold takeL at *
  split
  · rfl
  · rename_i h0
    simp [h0] at h
    simp [List.getD, show j < lim by omega]
theorem take_view {w : World} {a : Option Addr} {lim : Nat} {F : List Int} (h : IsV w a F.length (fun j => .int .i32 (F.getD j 0))) : IsV w a (takeL lim F).length (fun j => .int .i32 ((takeL lim F).getD j 0)) := by
  have hl := takeL_le lim F
  rcases h with h | ⟨b, off, ha, hc⟩
  · exact .inl (by omega)
  · exact .inr ⟨b, off, ha, fun j hj => by simp only [takeL_get lim F j hj]; exact hc j (by omega)⟩

/-- The 32 inline peers, as cells. -/
def peCells (pe : Nat → Int) : List Value := (List.range 32).map (fun j => .int .i32 (pe j))
theorem size27 : (Yba.prog.info? 27).map (·.size) = some 32 := by kernel_rfl
theorem pe_one (pe : Nat → Int) : ∀ v ∈ peCells pe, v.oneCell' = true := by
  intro v hv; obtain ⟨j, _, rfl⟩ := List.mem_map.1 hv; rfl
theorem pe_range {w : World} {R nd : Nat} {pe : Nat → Int} {mo : Option Addr} (h : w.rowIs R 32 133 (rF nd pe mo)) : w.rangeAt R 4 (peCells pe) := by
  intro j v hv
  have hj : j < 32 := by have := (List.getElem?_eq_some_iff.1 hv).1; simpa [peCells] using this
  rw [h.cell (by omega), rF_peer _ _ _ _ hj]
  simpa [peCells, hj] using hv
theorem pb_there (W : World) (zs : Array Value) (T n : Nat) (h : n = zs.size) : (W.alloc (.cells zs T)).there W.heap.size 0 n := by
  intro j hj
  have hb : (W.alloc (.cells zs T)).heap[W.heap.size]? = some (.cells zs T (0, 0)) := heap_alloc_new W _
  constructor
  · rw [cell_of_row _ _ _ _ _ _ hb]; simp; omega
  · exact frozen_of_row _ _ _ _ _ hb
theorem below_setCells {B : Nat} {w0 : World} (b : Nat) (hB : B ≤ b) : ∀ (vs : List Value) (o : Nat) (w : World), Below B w0 w → Below B w0 (w.setCells b o vs)
  | [], _, _, h => h
  | v :: r, o, w, h => below_setCells b hB r (o + 1) _ (h.setCell (p := ⟨b, o, none⟩) hB v)
theorem size_setCells (b : Nat) : ∀ (vs : List Value) (o : Nat) (w : World), (w.setCells b o vs).heap.size = w.heap.size
  | [], _, _ => rfl
  | v :: r, o, w => (size_setCells b r (o + 1) _).trans (World.size_setCell _ _ _)
theorem pb_below (W : World) (o : Obj) (vs : List Value) : Below W.heap.size W ((W.alloc o).setCells W.heap.size 0 vs) := below_setCells _ (Nat.le_refl _) vs 0 _ ((Below.refl _ _).alloc (Nat.le_refl _) _)
theorem pb_range (W : World) (zs : Array Value) (T : Nat) (vs : List Value) (h : vs.length = zs.size) : ((W.alloc (.cells zs T)).setCells W.heap.size 0 vs).rangeAt W.heap.size 0 vs :=
  World.rangeAt_setCells_same _ _ _ _ (pb_there W zs T vs.length h)
end Go.Proofs.Ybulkdqyo
