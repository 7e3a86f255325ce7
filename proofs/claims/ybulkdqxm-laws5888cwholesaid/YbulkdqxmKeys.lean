import Derived.Test.YbulkdqxmSmall
import Derived.Test.YbulkdqxmIter
namespace Go.Proofs.Ybulkdqxm
open Go.RowKit Go.MapKept Go.Maps
open Go.WideElems (Fit rd rg rd_mk rg_of rd_key)
set_option linter.unusedVariables false

/-- a reader that reads nothing of the elements -/
abbrev R0 : Value → Option (DataW Unit × List MemPlace) := fun _ => some (.map [], [])
theorem key9 (k : ByteArray) (h : k.size ≤ maxLen) : keyOf Yba.prog 9 (.string k) = some (.string k.data.toList) := by
  simp [keyOf, Yba.underlying9, mapKey, h]
theorem owns_of_mapIs {w : World} {b : Nat} {ks : List ByteArray} {val : ByteArray → Value} (h : MapIs w b ks val) (hs : ∀ k ∈ ks, k.size ≤ maxLen) (hl : ks.length ≤ maxLen) :
    ∃ D : DataW Unit, w.ownsMap Yba.prog 9 R0 b ks.length D ∧ ∀ x, x ∈ strKeys D ↔ ∃ k, k ∈ ks ∧ k.data.toList = x := by
  obtain ⟨es, cl, h1, h2, h3⟩ := h
  have hlen : es.size = ks.length := by have := congrArg List.length h3; simpa using this
  have hkk := keys_of h3
  have hrd : ∀ e ∈ es.toList, ∃ k, k ∈ ks ∧ e.key = .string k ∧ rd Yba.prog 9 R0 e = some (.string k.data.toList, .map []) := by
    intro e he
    have : e.key ∈ es.toList.map (·.key) := List.mem_map.2 ⟨e, he, rfl⟩
    rw [hkk] at this
    obtain ⟨k, hk, hke⟩ := List.mem_map.1 this
    refine ⟨k, hk, hke.symm, ?_⟩
    have hk9 := key9 k (hs k hk)
    rw [hke] at hk9
    obtain ⟨ek, ev, eb⟩ := e
    exact rd_mk (R := R0) hk9 rfl
  refine ⟨_, ⟨es, cl, h1, ⟨by omega, h2, fun e he => ?_⟩, by omega, rfl⟩, fun x => ?_⟩
  · obtain ⟨k, _, _, hr⟩ := hrd e he
    exact ⟨_, hr⟩
  · simp only [strKeys, List.mem_map]
    constructor
    · rintro ⟨p, hp, rfl⟩
      obtain ⟨e, he, rfl⟩ := List.mem_map.1 (mem_sorted.1 hp)
      obtain ⟨k, hk, _, hr⟩ := hrd e he
      exact ⟨k, hk, by rw [rg_of hr]; rfl⟩
    · rintro ⟨k, hk, rfl⟩
      have : Value.string k ∈ es.toList.map (·.key) := by rw [hkk]; exact List.mem_map.2 ⟨k, hk, rfl⟩
      obtain ⟨e, he, hke⟩ := List.mem_map.1 this
      obtain ⟨k', hk', hke', hr⟩ := hrd e he
      have : k' = k := by rw [hke'] at hke; cases hke; rfl
      subst this
      exact ⟨_, mem_sorted.2 (List.mem_map.2 ⟨e, he, rfl⟩), by rw [rg_of hr]; rfl⟩

theorem mkeys21 (mb : Option Nat) (W : World) : Calls Yba.prog 21 #[.map mb] W fun e w' => e = .returned (.func (.func 24) #[] #[.pointer (some ⟨W.heap.size, 0, none⟩)]) ∧ w' = W.alloc (.cells #[.map mb] 40) :=
  callsIn_wide.1 (AnyZ.keys_in Yba.keys21 Fence.wide 5 trivial rfl mb W)
set_option maxHeartbeats 1000000 in
theorem collect20_some (p b : Nat) (ks : List ByteArray) (val : ByteArray → Value) (w : World) (hp : w.cell? ⟨p, 0, none⟩ = some (.map (some b))) (h : MapIs w b ks val) (hs : ∀ k ∈ ks, k.size ≤ maxLen) (hl : ks.length ≤ 4096) :
    Calls Yba.prog 20 #[.func (.func 24) #[] #[.pointer (some ⟨p, 0, none⟩)]] w fun e w' => ∃ (v : Value) (ss : List (List UInt8)), e = .returned v ∧ (∀ x, x ∈ ss ↔ ∃ k, k ∈ ks ∧ k.data.toList = x) ∧ ss.length ≤ 4096 ∧
      w'.ownsRow w.heap.size 9 1 v ss.length (ss.map encStr) ∧ (v = .slice none 0 0 ↔ ss = []) ∧ Below w.heap.size w w' := by
  obtain ⟨D, hD, hm⟩ := owns_of_mapIs h hs (by unfold maxLen; omega)
  have hsz := hD.size_le
  have hseq : SeqGives Fence.wide 3 Yba.prog 24 #[.pointer (some ⟨p, 0, none⟩)] encStr (fun ss => ss.Perm (strKeys D)) (Maps.size D) w :=
    AnyZ.keys_gives (ρ := Yba.keys21_ren) { Yba.keys21 with } Fence.wide _ trivial rfl (by omega) p b ks.length D _ (World.block_lt_of_cell? _ _ hp) hp hD
  have := AnyZ.collect_in Yba.collect20 Fence.wide 5 trivial trivial rfl (by omega) 24 #[.pointer (some ⟨p, 0, none⟩)] trivial (enters_of Yba.func24 (by kernel_rfl) rfl) _ _ (by unfold maxLen; omega) (by omega) w hseq
  refine (callsIn_wide.1 this).mono ?_
  rintro e w' ⟨v, ss, rfl, hS, hrow, hnil, hb⟩
  refine ⟨v, ss, rfl, fun x => by rw [hS.mem_iff, hm], ?_, hrow, hnil, hb⟩
  have hl2 : (strKeys D).length = Maps.size D := by cases D <;> simp [strKeys, Maps.size]
  have := hS.length_eq
  omega
end Go.Proofs.Ybulkdqxm
