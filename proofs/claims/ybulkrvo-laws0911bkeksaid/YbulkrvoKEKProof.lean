/-
  The proof of 'Rows.LawS0911BKEKSaid', over the frame that the kit's skeleton tool writes for other shapes, turned to two arrays of bytes; the walk is YbulkrvoLaw's.
-/
import Derived.Test.YbulkrvoRows
import Derived.Test.YbulkrvoLaw
import Derived.WalkKit
import Derived.ProofKit
import Derived.OpenShut
import Derived.ShutString
import Derived.ChangeOld
import Derived.Below
namespace Go.Proofs.Ybulkrvo.lawS0911BKEK
open Go.ChangeShapes Go.WideShapes Go.ChangeAt Go.RowKit
open Extern.Stop (cell)
set_option maxRecDepth 100000

theorem own : ownKnob Yba.prog.godebug = none := by kernel_rfl
theorem laidOut : laidOutB Yba.prog = true := by kernel_rfl
theorem cells22 : Yba.prog.cellsOf 22 = 16 := by kernel_rfl
theorem cells5 : Yba.prog.cellsOf 5 = 1 := by kernel_rfl

/-- The byte in a cell. -/
def byteOf : Value → UInt8 | .int _ n => UInt8.ofNat n.toNat | _ => 0
theorem cell_byteOf {n : Int} (h : (Lit.int .u8 n).wf = true) : cell (byteOf (.int .u8 n)) = .int .u8 n := by
  obtain ⟨h0, h1⟩ := bounds_u8 h
  unfold cell byteOf
  congr 1
  have : (UInt8.ofNat n.toNat).toNat = n.toNat := by
    rw [UInt8.toNat_ofNat']; omega
  rw [this]; exact Int.toNat_of_nonneg h0

/-- An array of sixteen bytes that came in. -/
theorem open_arr {H : Type} {enc : TypeId × Value → H} {W : World} {base : Nat} {v : Value} {d : DataW H} {p : List MemPlace} (hv : Value.okWide Yba.prog W .any base 22 v)
    (h : DataW.Trod enc Yba.prog W 0 (fun _ => true) true 22 v d p) : ∃ xs : List UInt8, xs.length = 16 ∧ v = .agg (arr xs) := by
  simp only [Value.okWide, Yba.underlying22] at hv
  obtain ⟨cs, rfl, hs, _⟩ := hv
  rw [cells22] at hs
  obtain ⟨fuel, hf⟩ := h
  obtain ⟨xs, m, _, _, _, hl, hg⟩ := DataW.trod_array Yba.underlying22 hf
  refine ⟨cs.toList.map byteOf, by simpa using hs, ?_⟩
  congr 1
  unfold arr
  apply Array.ext_getElem?
  intro i
  simp only [List.map_map, List.getElem?_toArray, List.getElem?_map, Array.getElem?_toList]
  by_cases hi : i < 16
  · have h1 := hg i hi
    rw [cells5, Nat.mul_one] at h1
    obtain ⟨y, hy⟩ : ∃ y, xs[i]? = some y := ⟨xs[i], List.getElem?_eq_getElem (by omega)⟩
    rw [hy] at h1
    obtain ⟨n, hn, _, hwf⟩ := DataW.trod_int Yba.underlying5 h1
    have hc : cs[i]? = some (.int .u8 n) := by
      have : (((Value.agg cs).cells.toList.drop i).take 1)[0]? = some (.int .u8 n) := by rw [hn]; rfl
      simpa [Value.cells] using this
    rw [hc]
    simp [cell_byteOf hwf]
  · rw [Array.getElem?_eq_none (by omega)]; rfl

theorem lifted (os : Os) (started : os.Started) (H : Type) (enc : TypeId × Value → H) :
    ReturnsInHanded {} Yba.checked os 3 .any (Rows.lawS0911BKEKSpec.pre6 enc Yba.prog Yba.f3 Rows.lawS0911BKEKRow.domain false) (Rows.lawS0911BKEKSpec.post enc Yba.prog Yba.f3 false true false false) := by
  refine returnsInHanded_of_change (C := Yba.checked) own started (by kernel_rfl) Yba.func3
    (ChangeSpec.witness6 (enc := enc) (C := Yba.checked) false ⟨#[], #[.agg #[.int .u8 0, .int .u8 0, .int .u8 0, .int .u8 0, .int .u8 0, .int .u8 0, .int .u8 0, .int .u8 0, .int .u8 0, .int .u8 0, .int .u8 0, .int .u8 0, .int .u8 0, .int .u8 0, .int .u8 0, .int .u8 0], .agg #[.int .u8 0, .int .u8 0, .int .u8 0, .int .u8 0, .int .u8 0, .int .u8 0, .int .u8 0, .int .u8 0, .int .u8 0, .int .u8 0, .int .u8 0, .int .u8 0, .int .u8 0, .int .u8 0, .int .u8 0, .int .u8 0], .bool false, .int .u8 0, .int .u8 0], []⟩ 8 (by kernel_rfl) (by kernel_rfl) (by kernel_rfl) (by kernel_rfl)) ?_
  intro W base args ds gs before hval0 hW hcnd _
  have hval : ∀ (j : Nat) t v, Yba.f3.params[j]? = some t → args[j]? = some v → Value.okWide Yba.prog W .any base t v := hval0
  have hW' := hW
  obtain ⟨p, q, hA0, hV, rfl, hfz, hnd⟩ := hW
  have hA : DataW.TrodAll enc Yba.prog W 0 (fun _ => true) true Yba.f3.params.toList args.toList ds p := hA0
  rw [Yba.params3] at hA hval
  obtain ⟨v0, vs0, d0, ds0, p0, q0, hargs, rfl, rfl, h0, r0⟩ := trodAll_cons hA
  obtain ⟨v1, vs1, d1, ds1, p1, q1, rfl, rfl, rfl, h1, r1⟩ := trodAll_cons r0
  obtain ⟨v2, vs2, d2, ds2, p2, q2, rfl, rfl, rfl, h2, r2⟩ := trodAll_cons r1
  obtain ⟨v3, vs3, d3, ds3, p3, q3, rfl, rfl, rfl, h3, r3⟩ := trodAll_cons r2
  obtain ⟨v4, vs4, d4, ds4, p4, q4, rfl, rfl, rfl, h4, r4⟩ := trodAll_cons r3
  obtain ⟨rfl, rfl, rfl⟩ := trodAll_nil r4
  obtain rfl : args = #[v0, v1, v2, v3, v4] := by cases args; simp_all
  obtain ⟨rfl, rfl⟩ := trodVars_none hV
  have k0 := h0
  have lt0 : ∀ x ∈ p0, x.block < W.heap.size := by obtain ⟨m, hm⟩ := k0; exact DataW.trod_lt m _ _ _ hm
  have k1 := h1
  have lt1 : ∀ x ∈ p1, x.block < W.heap.size := by obtain ⟨m, hm⟩ := k1; exact DataW.trod_lt m _ _ _ hm
  obtain ⟨xs, hxs, rfl⟩ := open_arr (hval 0 22 v0 rfl rfl) h0
  obtain ⟨ys, hys, rfl⟩ := open_arr (hval 1 22 v1 rfl rfl) h1
  obtain ⟨a2, rfl, rfl, rfl⟩ := open_bool Yba.underlying4 (hval 2 4 v2 rfl rfl) h2
  obtain ⟨a3, rfl, rfl, rfl, w3⟩ := open_int Yba.underlying5 (hval 3 5 v3 rfl rfl) h3
  obtain ⟨a4, rfl, rfl, rfl, w4⟩ := open_int Yba.underlying5 (hval 4 5 v4 rfl rfl) h4
  clear hA0 hval0
  obtain ⟨n0, n1⟩ := bounds_u8 w3
  obtain ⟨m0, m1⟩ := bounds_u8 w4
  refine (law_any xs ys hxs hys a2 a3 a4 W n0 n1 m0 m1).mono fun e W' ⟨he, bel⟩ => ?_
  subst he
  exact ⟨_, rfl, _, _, _, [], _, [], hW', trodAll_mk1 (shut_bool Yba.underlying4 _), (trodAll_cons_mk (Below.trod laidOut (by kernel_rfl) (of_decide_eq_true (by kernel_rfl)) k0 bel lt0) (trodAll_cons_mk (Below.trod laidOut (by kernel_rfl) (of_decide_eq_true (by kernel_rfl)) k1 bel lt1) (trodAll_cons_mk (shut_bool Yba.underlying4 _) (trodAll_cons_mk (shut_int Yba.underlying5 w3) (trodAll_cons_mk (shut_int Yba.underlying5 w4) trodAll_mk0))))), rfl, bel.frame _, fun h => by cases h⟩

theorem over : Rows.lawS0911BKEKRow.holds Yba.pinned (OpenSpec.ofChange Rows.lawS0911BKEKSpec) :=
  OpenClaim.holds_of_wide 3 Yba.f3 rfl rfl rfl rfl rfl rfl rfl ⟨rfl, rfl, rfl, rfl, rfl⟩ rfl rfl rfl rfl rfl (by kernel_rfl) Yba.func3 (by kernel_rfl)
    (of_decide_eq_true (by kernel_rfl)) (by unfold Func.isWrapper; first | (rw [if_pos (by decide +kernel)]; kernel_rfl) | (rw [if_neg (by decide +kernel)]; exact ⟨rfl, rfl⟩))
    (fun os started H enc _ => lifted os started H enc)

theorem proved : Rows.LawS0911BKEKSaid := over
end Go.Proofs.Ybulkrvo.lawS0911BKEK
