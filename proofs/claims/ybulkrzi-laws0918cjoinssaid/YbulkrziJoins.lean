import Derived.Test.YbulkrziOne
import Derived.Laws.Cover3
namespace Go.Proofs.Ybulkrzi
open Go.Proofs Go.RowKit
set_option maxRecDepth 100000

/-- What is wanted, after 'flat'. -/
theorem want_holds {w w' : World} {pb : Nat} {wv : Value} {zs : List Int} (ho : Own w 5 wv (U zs)) (hb : ∀ k, wv.ownBlock = some k → k ≠ pb) (hm : Mut w w' (fun k => k = pb)) : Own w' 5 wv (U zs) :=
  ho.mut hm (fun k hk e => hb k hk e)

theorem pieces_lengths {css ps : List (List Int)} (hf : ps.flatten = css.flatten) (hn : css.length ≤ 256) (hl : ∀ cs ∈ css, cs.length ≤ 4096) :
    ps.flatten.length ≤ 1048576 ∧ ∀ p ∈ ps, p.length ≤ 1048576 := by
  have h1 : ∀ (xs : List (List Int)), (∀ cs ∈ xs, cs.length ≤ 4096) → xs.flatten.length ≤ xs.length * 4096 := by
    intro xs
    induction xs with
    | nil => intro _; simp
    | cons x xs ih =>
      intro h
      have h2 := h x (by simp)
      have h3 := ih (fun c hc => h c (by simp [hc]))
      simp only [List.flatten_cons, List.length_append, List.length_cons]
      omega
  have h2 : ps.flatten.length ≤ 1048576 := by rw [hf]; have := h1 css hl; omega
  refine ⟨h2, fun p hp => ?_⟩
  have : p.length ≤ ps.flatten.length := (List.sublist_flatten_of_mem hp).length_le
  omega

theorem eql_nil (w : World) (l c : Nat) : (binOp .eql 25 (.slice none l c) (.slice none 0 0)).run Yba.prog w = .ok (.bool true) w := by
  simp only [binOp]
  simp [run_equal_slice_nil w 25 5 none l c Yba.underlying25]
theorem eql_some (w : World) (a : Addr) (l c : Nat) : (binOp .eql 25 (.slice (some a) l c) (.slice none 0 0)).run Yba.prog w = .ok (.bool false) w := by
  simp only [binOp]
  simp [run_equal_slice_nil w 25 5 (some a) l c Yba.underlying25]

set_option maxHeartbeats 4000000 in
theorem joins_law (w : World) (v : Value) (vs0 : List Value) (css : List (List Int)) (hc : Chunks w w.heap.size v vs0 css) (hm : vs0.length ≤ maxLen) (hml : ∀ cs ∈ css, cs.length ≤ maxLen) :
    Calls Yba.prog 3 #[v] w fun e w' => e = .returned (.bool true) ∧ Below w.heap.size w w' := by
  have HC : Hid (Chunks w w.heap.size v vs0 css) := hc
  have HM : Hid (vs0.length ≤ maxLen) := hm
  have HML : Hid (∀ cs ∈ css, cs.length ≤ maxLen) := hml
  clear hc hm hml
  go_enter Yba.func3, Yba.ntmps3
  go_wp2_with fail
  refine (fits_any w w.heap.size v vs0 css HC.out HM.out HML.out).mono ?_
  rintro e w' ⟨b, rfl, rfl, hfit⟩
  cases b with
  | false =>
    clear hfit
    go_wp2
    go_ret
    exact ⟨rfl, Below.refl _ _⟩
  | true =>
    obtain ⟨hn, hl⟩ := hfit rfl
    clear hfit
    have HL4 : Hid (∀ cs ∈ css, cs.length ≤ 4096) := hl
    clear hl
    go_wp2_with fail
    refine (build_any w' v vs0 css HC.out hn HL4.out).mono ?_
    rintro e w1 ⟨wv, dv, sv, vs, ps, sts, rfl, hbt⟩
    have HBT : Hid (Built w' w1 w'.heap.size css css.length wv dv sv vs ps sts) := hbt
    clear hbt
    go_wp2_with fail
    by_cases h0 : ps.length = 0
    · have hps : ps = [] := List.eq_nil_of_length_eq_zero h0
      subst hps
      have hvs : vs = [] := List.eq_nil_of_length_eq_zero (by rw [HBT.out.pieces.vlen]; rfl)
      subst hvs
      obtain ⟨da, dc, hd⟩ := HBT.out.pieces.data.len
      have hw := HBT.out.want
      rw [← HBT.out.flat] at hw
      obtain ⟨wa, wc, hwv⟩ := hw.len
      have hblk : w1.heap[w'.heap.size]? = some (.cells (pcells 0 0 (.slice da 0 dc) sv 0) 43 (0, 0)) := by
        have := HBT.out.pieces.blk
        rw [hd] at this
        exact this
      have HBEL : Hid (Below w'.heap.size w' w1) := HBT.out.below
      have hwv0 : wv = .slice wa 0 wc := hwv
      clear hw hwv hd h0 HBT
      subst hwv0
      refine (flat_none w1 w'.heap.size da dc sv 0 hblk).mono ?_
      clear hblk
      rintro e w2 ⟨rfl, k2, t2⟩
      have HB2 : Hid (Below w'.heap.size w' w2) := HBEL.out.trans (t2.mut.below HBEL.out.size (fun k e => by omega))
      have c6 : w2.cell? ⟨w'.heap.size, 6, none⟩ = some (.slice da 0 dc) := by rw [cell_of_heap k2]; rfl
      have c8 : w2.cell? ⟨w'.heap.size, 8, none⟩ = some (.int .i64 0) := by rw [cell_of_heap k2]; rfl
      have hnil := eql_nil w2 0 0
      clear k2 t2
      go_wp2
      go_ret
      exact ⟨rfl, HB2.out⟩
    · obtain ⟨b1, b2⟩ := pieces_lengths (HBT.out.flat.trans (upto_all css)) hn HL4.out
      have hw := HBT.out.want
      rw [← HBT.out.flat] at hw
      have hzp : 0 < ps.flatten.length := by
        match ps, h0, HBT.out.pieces.pos with
        | p :: ps, _, hp =>
          have := hp p (by simp)
          simp only [List.flatten_cons, List.length_append]; omega
      have HBEL : Hid (Below w'.heap.size w' w1) := HBT.out.below
      have HBE : Hid (∀ k, wv.ownBlock = some k → k ≠ w'.heap.size) := fun k hk => (HBT.out.beside k hk).1
      have HW : Hid (Own w1 5 wv (U ps.flatten)) := hw
      refine (flat_some w1 w'.heap.size w'.heap.size dv sv vs ps sts HBT.out.pieces (by omega) (fun p hp => by have := b2 p hp; omega) (by have := HBT.out.few; omega) (by omega)).mono ?_
      rintro e w2 ⟨g, gc, h, hc, jb, jc, rfl, o, m2⟩
      have HB2 : Hid (Below w'.heap.size w' w2) := HBEL.out.trans (m2.below HBEL.out.size (fun k e => by omega))
      have HW2 : Hid (Own w2 5 wv (U ps.flatten)) := want_holds HW.out HBE.out m2
      have HO : Hid (One w2 w'.heap.size g gc h hc jb jc ps.flatten) := o
      clear hw HW HBT HBEL m2 o b2 h0
      generalize ps.flatten = zs at *
      obtain ⟨wa, wcap, hwv⟩ := HW2.out.len
      rw [len_U] at hwv
      subst hwv
      have c6 : w2.cell? ⟨w'.heap.size, 6, none⟩ = some (.slice (some ⟨g, 0, none⟩) 1 gc) := by rw [cell_of_heap HO.out.blk]; rfl
      have c7 : w2.cell? ⟨w'.heap.size, 7, none⟩ = some (.slice (some ⟨h, 0, none⟩) 1 hc) := by rw [cell_of_heap HO.out.blk]; rfl
      have c8 : w2.cell? ⟨w'.heap.size, 8, none⟩ = some (.int .i64 zs.length) := by rw [cell_of_heap HO.out.blk]; rfl
      have cg := HO.out.data
      have ch := HO.out.start
      have HH2 : Hid (Holds w2 (.slice wa zs.length wcap) zs) := HW2.out.holds hzp
      have hnil := eql_some w2 ⟨jb, 0, none⟩ zs.length jc
      go_wp2_with (first
                   | (go_at_call 7
                      refine (equal_same _ _ _ zs HO.out.holds HH2.out).mono ?_
                      rintro e w5 ⟨rfl, rfl⟩)
                   | (go_at_call 6
                      refine (flat_one _ _ _ _ _ _ _ _ _ HO.out).mono ?_
                      rintro e w3 ⟨rfl, o3, t3⟩
                      have HO3 : Hid (One w3 w'.heap.size g gc h hc jb jc zs) := o3
                      have HB3 : Hid (Below w'.heap.size w' w3) := HB2.out.trans (t3.mut.below HB2.out.size (fun k e => by omega))
                      have HH3 : Hid (Holds w3 (.slice wa zs.length wcap) zs) := (want_holds HW2.out HBE.out t3.mut).holds hzp
                      have c63 : w3.cell? ⟨w'.heap.size, 6, none⟩ = some (.slice (some ⟨g, 0, none⟩) 1 gc) := by rw [cell_of_heap o3.blk]; rfl
                      clear o3 t3)
                   )
      refine (equal_same _ _ _ zs HO3.out.holds HH3.out).mono ?_
      rintro e w4 ⟨rfl, rfl⟩
      go_wp2
      go_ret
      exact ⟨rfl, HB3.out⟩
end Go.Proofs.Ybulkrzi
