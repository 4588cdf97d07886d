import Derived.Test.YbulkrziDoorRows
import Derived.Test.YbulkrziDoorOwn
namespace Go.Proofs.YbulkrziDoor
open Go.Proofs Go.RowKit
set_option maxRecDepth 100000

theorem info5 : (Ybad.prog.info? 5).map (fun i => (i.zero, i.size, i.bytes)) = some (some (.int .u8 0), 1, 1) := by kernel_rfl
theorem size5 : (Ybad.prog.info? 5).map (·.size) = some 1 := by kernel_rfl
theorem infoS : (Ybad.prog.info? 26).map (fun i => (i.zero, i.size, i.bytes)) = some (some (.slice none 0 0), 1, 24) := by kernel_rfl
theorem info2 : (Ybad.prog.info? 2).map (fun i => (i.zero, i.size, i.bytes)) = some (some (.int .i64 0), 1, 8) := by kernel_rfl
theorem sizeSS : (Ybad.prog.info? 22).map (·.size) = some 1 := by kernel_rfl
theorem sizeLS : (Ybad.prog.info? 48).map (·.size) = some 1 := by kernel_rfl

/-- Bytes, as cells; int64s, as cells. -/
def U (zs : List Int) : List Value := zs.map (Value.int .u8)
def I (zs : List Int) : List Value := zs.map (Value.int .i64)
theorem len_U (zs : List Int) : (U zs).length = zs.length := by simp [U]
theorem len_I (zs : List Int) : (I zs).length = zs.length := by simp [I]
theorem one_U (zs : List Int) : ∀ u ∈ U zs, u.oneCell' = true := ints_oneCell .u8 zs
theorem U_append (xs ys : List Int) : U xs ++ U ys = U (xs ++ ys) := by simp [U]
theorem I_append (xs ys : List Int) : I xs ++ I ys = I (xs ++ ys) := by simp [I]

/-- What is owned, read. -/
theorem Own.reads {w : World} {v : Value} {zs : List Int} (h : Own w 5 v (U zs)) : Reads w w.heap.size .u8 v zs := by
  rcases h.2 with ⟨rfl, hn⟩ | ⟨g, cap, cur, rfl, _, hg, _⟩
  · have hx : zs = [] := List.eq_nil_of_length_eq_zero (by simpa [U] using hn)
    subst hx
    exact .inl ⟨rfl, none, 0, rfl, fun _ => rfl⟩
  · rw [len_U]
    refine .inr ⟨g, 0, cap, rfl, (Array.getElem?_eq_some_iff.1 hg).1, fun i hi => ?_⟩
    have := World.ownsRow.cells (g := g) h rfl i (.int .u8 (zs.getD i 0)) (by simp [U, hi])
    rwa [Addr.add_lit] at this

/-- A slice of slices of bytes that came in, below B. -/
structure Chunks (w : World) (B : Nat) (v : Value) (vs : List Value) (css : List (List Int)) : Prop where
  len : vs.length = css.length
  outer : (vs = [] ∧ ∃ a cap, v = .slice a 0 cap) ∨ ∃ b o cap, v = .slice (some ⟨b, o, none⟩) vs.length cap ∧ b < B ∧ ∀ j, j < vs.length → w.cell? ⟨b, o + j, none⟩ = some (vs.getD j undef)
  inner : ∀ j, j < vs.length → Reads w B .u8 (vs.getD j undef) (css.getD j [])

theorem Chunks.below {w w' : World} {B : Nat} {v : Value} {vs : List Value} {css : List (List Int)} (h : Chunks w B v vs css) (hb : Below B w w') : Chunks w' B v vs css := by
  refine ⟨h.len, ?_, fun j hj => (h.inner j hj).below hb⟩
  rcases h.outer with h | ⟨b, o, cap, rfl, hlt, hc⟩
  · exact .inl h
  · exact .inr ⟨b, o, cap, rfl, hlt, fun j hj => by rw [hb.cell (p := ⟨b, o + j, none⟩) hlt]; exact hc j hj⟩
theorem Chunks.form {w : World} {B : Nat} {v : Value} {vs : List Value} {css : List (List Int)} (h : Chunks w B v vs css) : ∃ a cap, v = .slice a vs.length cap := by
  rcases h.outer with ⟨rfl, a, cap, rfl⟩ | ⟨b, o, cap, rfl, _⟩
  · exact ⟨a, cap, rfl⟩
  · exact ⟨_, cap, rfl⟩

def FitsPost (w : World) (css : List (List Int)) (e : Ending) (w' : World) : Prop := ∃ b : Bool, e = .returned (.bool b) ∧ w' = w ∧ (b = true → css.length ≤ 256 ∧ ∀ cs ∈ css, cs.length ≤ 4096)

set_option maxHeartbeats 1000000 in
/-- zzs0918cfits: where it answers true, every slice is short. -/
theorem fits_any (w : World) (B : Nat) (v : Value) (vs : List Value) (css : List (List Int)) (hc : Chunks w B v vs css) (hm : vs.length ≤ maxLen) (hml : ∀ cs ∈ css, cs.length ≤ maxLen) :
    Calls Ybad.prog 4 #[v] w (FitsPost w css) := by
  have HC : Hid (Chunks w B v vs css) := hc
  have HL : Hid (vs.length = css.length) := hc.len
  have HML : Hid (∀ cs ∈ css, cs.length ≤ maxLen) := hml
  obtain ⟨a, cap, rfl⟩ := hc.form
  clear hc hml
  unfold maxLen at hm
  by_cases hbig : 256 < vs.length
  · go_enter Ybad.func4, Ybad.ntmps4
    go_wp2
    go_ret
    exact ⟨false, rfl, rfl, fun h => by cases h⟩
  · go_enter Ybad.func4, Ybad.ntmps4
    go_wp2
    go_loop [10] (fun i => ∃ k : Nat, k ≤ vs.length ∧ i = .int .i64 k ∧ ∀ j, j < k → (css.getD j []).length ≤ 4096) (fun i => vs.length - (intOf i).toNat)
    case atStart => exact ⟨0, Nat.zero_le _, rfl, fun j hj => absurd hj (Nat.not_lt_zero _)⟩
    case round =>
      obtain ⟨k, hk, rfl, hall⟩ := hrel
      have HALL : Hid (∀ j, j < k → (css.getD j []).length ≤ 4096) := hall
      clear hall
      by_cases hlt : k < vs.length
      · rcases HC.out.outer with ⟨h0, _⟩ | ⟨b, o, cap', he, hbB, hcell⟩
        · rw [h0] at hlt; exact absurd hlt (Nat.not_lt_zero _)
        · simp only [Value.slice.injEq, true_and] at he
          obtain ⟨rfl, rfl⟩ := he
          have hck := hcell k hlt
          obtain ⟨ia, ic, hv⟩ := (HC.out.inner k hlt).len
          rw [hv] at hck
          have hlm : (css.getD k []).length ≤ maxLen := HML.out _ (by simp [List.getD, HL.out ▸ hlt])
          have HG : Hid (∀ j, j < k + 1 → j < k ∨ j = k) := fun j hj => by omega
          unfold maxLen at hlm
          generalize hL : (css.getD k []).length = L at *
          have HL2 : Hid ((css.getD k []).length = L) := hL
          clear hL hv hcell
          by_cases hbig2 : 4096 < L
          · go_wp2
            go_ret
            exact ⟨false, rfl, rfl, fun h => by cases h⟩
          · go_wp2
            go_round
            case rel => exact ⟨k + 1, by omega, by go_num, fun j hj => by
              rcases HG.out j hj with h | h
              · exact HALL.out j h
              · subst h; rw [HL2.out]; omega⟩
            case measure => simp [intOf]; omega
      · go_wp2
        go_ret
        refine ⟨true, rfl, rfl, fun _ => ⟨by rw [← HL.out]; omega, fun cs hcs => ?_⟩⟩
        obtain ⟨j, hj, rfl⟩ := List.mem_iff_getElem.1 hcs
        have := HALL.out j (by have := HL.out; omega)
        simpa [List.getD, hj] using this
end Go.Proofs.YbulkrziDoor
