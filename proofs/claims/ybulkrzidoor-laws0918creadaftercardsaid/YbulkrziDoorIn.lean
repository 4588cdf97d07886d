import Derived.Test.YbulkrziDoorFits
import Derived.OpenShut
import Derived.Deep.Matrix
namespace Go.Proofs.YbulkrziDoor
open Go.Proofs Go.RowKit Go.WideShapes Go.ChangeShapes Go.Deep
set_option maxRecDepth 100000

/-- The slices of bytes that came in, as the walks read them. -/
theorem chunks_of {H : Type} {enc : TypeId × Value → H} {w : World} {fuel : Nat} {a : Option Addr} {len cap : Nat} {x : DataW H × List MemPlace} (h : DataW.trod enc Ybad.prog w 0 (fun _ => true) true fuel 22 [.slice a len cap] = some x) :
    ∃ vs css, Chunks w w.heap.size (.slice a len cap) vs css ∧ vs.length ≤ maxLen ∧ ∀ cs ∈ css, cs.length ≤ maxLen := by
  rcases open_int_rows Ybad.underlying22 Ybad.underlying26 Ybad.underlying5 (by kernel_rfl) (by kernel_rfl) h with ⟨he, _⟩ | ⟨a, len, cap, A, L, C, Z, he, _, hl, hm, _, hx⟩
  · simp only [List.cons.injEq, Value.slice.injEq, and_true] at he
    obtain ⟨rfl, rfl, rfl⟩ := he
    exact ⟨[], [], ⟨rfl, .inl ⟨rfl, none, 0, rfl⟩, fun j hj => absurd hj (Nat.not_lt_zero _)⟩, Nat.zero_le _, fun cs hc => by simp at hc⟩
  · simp only [List.cons.injEq, Value.slice.injEq, and_true] at he
    obtain ⟨rfl, rfl, rfl⟩ := he
    refine ⟨(List.range len).map fun r => .slice (A r) (L r) (C r), (List.range len).map fun r => (Z r).take (L r), ⟨by simp, ?_, ?_⟩, by simp; omega, ?_⟩
    · by_cases h0 : len = 0
      · subst h0
        exact .inl ⟨rfl, some a, cap, rfl⟩
      · obtain ⟨b, off, spot⟩ := a
        have hspot : spot = none := by simpa [Addr.add] using World.cell?_spot (hx 0 (by omega)).1
        subst hspot
        have hb : b < w.heap.size := World.block_lt_of_cell? w _ (hx 0 (by omega)).1
        refine .inr ⟨b, off, cap, by simp, hb, fun j hj => ?_⟩
        have hj' : j < len := by simpa using hj
        have := (hx j (by omega)).1
        rw [Addr.add_lit] at this
        rw [this]
        simp [List.getD, hj']
    · intro j hj
      have hj' : j < len := by simpa using hj
      obtain ⟨_, hlc, _, hzl, _, hn, hc⟩ := hx j (by omega)
      have e1 : ((List.range len).map fun r => Value.slice (A r) (L r) (C r)).getD j undef = .slice (A j) (L j) (C j) := by simp [List.getD, hj']
      have e2 : ((List.range len).map fun r => (Z r).take (L r)).getD j [] = (Z j).take (L j) := by simp [List.getD, hj']
      rw [e1, e2]
      by_cases h0 : L j = 0
      · rw [h0]
        exact .inl ⟨by simp, A j, C j, rfl, hn⟩
      · cases hA : A j with
        | none => have := hn hA; omega
        | some a' =>
          obtain ⟨_, hcell⟩ := hc a' hA
          obtain ⟨b, off, rfl, hcl⟩ := ints_at (zs := Z j) (fun i hi => hcell i (by omega)) (by omega)
          have hb : b < w.heap.size := World.block_lt_of_cell? w _ (hcl 0 (by omega))
          have htl : ((Z j).take (L j)).length = L j := by rw [List.length_take]; omega
          refine .inr ⟨b, off, C j, by rw [htl], hb, fun i hi => ?_⟩
          rw [htl] at hi
          rw [hcl i (by omega)]
          simp [List.getD, hi]
    · intro cs hcs
      simp only [List.mem_map, List.mem_range] at hcs
      obtain ⟨r, hr, rfl⟩ := hcs
      obtain ⟨_, hlc, hcm, _⟩ := hx r (by omega)
      rw [List.length_take]
      omega
end Go.Proofs.YbulkrziDoor
