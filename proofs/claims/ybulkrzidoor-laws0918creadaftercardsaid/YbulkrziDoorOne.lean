import Derived.Test.YbulkrziDoorFlat
import Derived.Laws.BytesArg
namespace Go.Proofs.YbulkrziDoor
open Go.Proofs Go.RowKit
set_option maxRecDepth 100000

theorem own_some {w : World} {e : TypeId} {sv : Value} {xs : List Value} (h : Own w e sv xs) (hl : 0 < xs.length) :
    ∃ g cap, sv = .slice (some ⟨g, 0, none⟩) xs.length cap ∧ g < w.heap.size ∧ xs.length ≤ cap ∧ cap ≤ maxLen ∧ ∀ j, j < xs.length → w.cell? ⟨g, j, none⟩ = some (xs.getD j undef) := by
  rcases h.2 with ⟨rfl, hn⟩ | ⟨g, cap, cur, rfl, _, hg, hnc, hcm, hcs, htk⟩
  · omega
  · refine ⟨g, cap, rfl, (Array.getElem?_eq_some_iff.1 hg).1, hnc, hcm, fun j hj => ?_⟩
    have := World.ownsRow.cells (g := g) h rfl j (xs.getD j undef) (by simp [List.getD, hj])
    rw [Addr.add_lit] at this
    simpa using this

theorem one_of {w : World} {B pb : Nat} {dv sv : Value} {vs : List Value} {ps : List (List Int)} {sts : List Int} (hP : Pieces w B pb 0 0 dv sv vs ps sts) (h1 : ps.length = 1) :
    ∃ g gc h hc jb jc, One w pb g gc h hc jb jc ps.flatten := by
  obtain ⟨p, rfl⟩ : ∃ p, ps = [p] := List.length_eq_one_iff.1 h1
  obtain ⟨v, rfl⟩ : ∃ v, vs = [v] := List.length_eq_one_iff.1 hP.vlen
  obtain ⟨x, rfl⟩ : ∃ x, sts = [x] := List.length_eq_one_iff.1 hP.slen
  have hx : x = 0 := hP.s0 x rfl
  subst hx
  have hpos := hP.pos p (by simp)
  obtain ⟨hv, hap⟩ := hP.each 0 (by simp)
  have hv : Own w 5 v (U p) := hv
  have hap : Apart B pb dv sv v := hap
  obtain ⟨g, gc, hd, hg, hg1, hg2, hgc⟩ := own_some hP.data (by simp)
  obtain ⟨h, hc, hs, hh, hh1, hh2, hhc⟩ := own_some hP.starts (by simp [I])
  obtain ⟨jb, jc, hj, hjl, hj1, hj2, hjc⟩ := own_some hv (by rw [len_U]; exact hpos)
  subst hd hs hj
  have hfl : [p].flatten = p := by simp
  have hblk := hP.blk
  have e1 := hP.ap1
  have e2 := hP.ap2
  have e3 := (hap jb rfl).1
  rw [len_U] at hj1
  rw [hfl] at hblk
  rw [hfl]
  refine ⟨g, gc, h, hc, jb, jc, ⟨hblk, ?_, ?_, ?_, fun e => e1 (by simp [Value.ownBlock, e]), fun e => e2 (by simp [Value.ownBlock, e]), e3, hg, hh, hjl, hg1, hh1, hj1, hg2, hh2, hj2⟩⟩
  · rw [hgc 0 (by simp), List.getD, len_U]; rfl
  · rw [hhc 0 (by simp [I])]; rfl
  · intro j hj
    rw [hjc j (by rw [len_U]; exact hj), U]
    simp [List.getD, hj]

/-- (*pieces).flat, where there is a piece. -/
theorem flat_some (w : World) (B pb : Nat) (dv sv : Value) (vs : List Value) (ps : List (List Int)) (sts : List Int) (hP : Pieces w B pb 0 0 dv sv vs ps sts) (h1 : 1 ≤ ps.length)
    (hl : ∀ p ∈ ps, p.length ≤ 2000000) (hn : ps.length ≤ 1000) (hf : ps.flatten.length ≤ 1000000000) :
    Calls Ybad.prog 6 #[.pointer (some ⟨pb, 0, none⟩)] w fun e w' => ∃ g gc h hc jb jc, e = .returned (.slice (some ⟨jb, 0, none⟩) ps.flatten.length jc) ∧ One w' pb g gc h hc jb jc ps.flatten ∧ Mut w w' (fun k => k = pb) := by
  by_cases h2 : 2 ≤ ps.length
  · exact flat_many w B pb dv sv vs ps sts hP h2 hl hn hf
  · obtain ⟨g, gc, h, hc, jb, jc, o⟩ := one_of hP (by omega)
    refine (flat_one w pb g gc h hc jb jc _ o).mono ?_
    rintro e w' ⟨rfl, o', t⟩
    exact ⟨g, gc, h, hc, jb, jc, rfl, o', t.mut⟩

/-- A slice that holds the bytes zs. -/
def Holds (w : World) (v : Value) (zs : List Int) : Prop := ∃ b o cap, v = .slice (some ⟨b, o, none⟩) zs.length cap ∧ ∀ j, j < zs.length → w.cell? ⟨b, o + j, none⟩ = some (.int .u8 (zs.getD j 0))

theorem One.holds {w : World} {pb g gc h hc jb jc : Nat} {zs : List Int} (o : One w pb g gc h hc jb jc zs) : Holds w (.slice (some ⟨jb, 0, none⟩) zs.length jc) zs := ⟨jb, 0, jc, rfl, fun j hj => by rw [Nat.zero_add]; exact o.each j hj⟩
theorem Own.holds {w : World} {v : Value} {zs : List Int} (h : Own w 5 v (U zs)) (hl : 0 < zs.length) : Holds w v zs := by
  obtain ⟨g, cap, hv, _, _, _, hc⟩ := own_some h (by rw [len_U]; exact hl)
  rw [len_U] at hv hc
  refine ⟨g, 0, cap, hv, fun j hj => ?_⟩
  rw [Nat.zero_add, hc j hj, U]
  simp [List.getD, hj]

/-- What 'string(v)' gives. -/
theorem conv_holds {w : World} {v : Value} {zs : List Int} (h : Holds w v zs) : (convert 26 9 v).run Ybad.prog w = .ok (.string (strOfNums zs)) w := by
  obtain ⟨b, o, cap, rfl, hc⟩ := h
  exact run_convert_bytes_arg w 26 5 Ybad.underlying26 Ybad.underlying5 b o zs.length cap zs rfl hc 9 Ybad.underlying9

set_option maxHeartbeats 400000 in
/-- bytes.Equal at two slices of the same bytes. -/
theorem equal_same (w : World) (v1 v2 : Value) (zs : List Int) (h1 : Holds w v1 zs) (h2 : Holds w v2 zs) :
    Calls Ybad.prog 8 #[v1, v2] w fun e w' => e = .returned (.bool true) ∧ w' = w := by
  have c1 := conv_holds h1
  have c2 := conv_holds h2
  clear h1 h2
  go_enter Ybad.func8, Ybad.ntmps8
  go_wp2
  go_ret
  exact ⟨by simp, rfl⟩
end Go.Proofs.YbulkrziDoor
