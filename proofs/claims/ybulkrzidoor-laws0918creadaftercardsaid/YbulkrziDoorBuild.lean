import Derived.Test.YbulkrziDoorAdd
namespace Go.Proofs.YbulkrziDoor
open Go.Proofs Go.RowKit
set_option maxRecDepth 100000

/-- A row beside a 'pieces' and all its pieces. -/
def Beside (B pb : Nat) (dv sv : Value) (vs : List Value) (wv : Value) : Prop :=
  ∀ k, wv.ownBlock = some k → k ≠ pb ∧ dv.ownBlock ≠ some k ∧ sv.ownBlock ≠ some k ∧ B ≤ k ∧ ∀ j, j < vs.length → (vs.getD j undef).ownBlock ≠ some k

/-- The row beside is appended to. -/
theorem pieces_want {w w' : World} {B pb : Nat} {st rc : Int} {dv sv : Value} {vs : List Value} {ps : List (List Int)} {sts : List Int} {wv wv2 : Value} (hP : Pieces w B pb st rc dv sv vs ps sts) (hA : Beside B pb dv sv vs wv) (hB : B ≤ w.heap.size) (hs : Step w wv w' wv2) :
    Pieces w' B pb st rc dv sv vs ps sts ∧ Beside B pb dv sv vs wv2 := by
  refine ⟨hP.mut hs.mut (fun e => (hA pb e).1 rfl) (fun k hk e => (hA k e).2.1 hk) (fun k hk e => (hA k e).2.2.1 hk) (fun j hj k hk e => (hA k e).2.2.2.2 j hj hk), ?_⟩
  intro k hk
  rcases hs.place with e | ⟨i, e, hi⟩
  · exact hA k (e ▸ hk)
  · have hki : k = i := by rw [hk] at e; simpa using e
    subst hki
    refine ⟨fun e => ?_, fun e => ?_, fun e => ?_, by omega, fun j hj e => ?_⟩
    · have := hP.lt; omega
    · have := hP.data.lt k e; omega
    · have := hP.starts.lt k e; omega
    · have := (hP.each j hj).1.lt k e; omega

/-- A piece is added. -/
theorem beside_add {w : World} {B pb : Nat} {dv sv dv2 sv2 : Value} {vs : List Value} {bv wv : Value} (hA : Beside B pb dv sv vs wv) (hw : ∀ k, wv.ownBlock = some k → k < w.heap.size)
    (pd : ∀ k, dv2.ownBlock = some k → dv.ownBlock = some k ∨ w.heap.size ≤ k) (psv : ∀ k, sv2.ownBlock = some k → sv.ownBlock = some k ∨ w.heap.size ≤ k) (hb : ∀ k, bv.ownBlock = some k → wv.ownBlock ≠ some k) :
    Beside B pb dv2 sv2 (vs ++ [bv]) wv := by
  intro k hk
  have hlt := hw k hk
  refine ⟨(hA k hk).1, fun e => ?_, fun e => ?_, (hA k hk).2.2.2.1, fun j hj e => ?_⟩
  · rcases pd k e with e' | e'
    · exact (hA k hk).2.1 e'
    · omega
  · rcases psv k e with e' | e'
    · exact (hA k hk).2.2.1 e'
    · omega
  · by_cases hjn : j < vs.length
    · rw [show (vs ++ [bv]).getD j undef = vs.getD j undef by simp [List.getD, List.getElem?_append_left hjn]] at e
      exact (hA k hk).2.2.2.2 j hjn e
    · have hjl : j = vs.length := by simp at hj; omega
      subst hjl
      rw [show (vs ++ [bv]).getD vs.length undef = bv by simp [List.getD]] at e
      exact hb k e hk

/-- The first k chunks, joined. -/
def upto (css : List (List Int)) (k : Nat) : List Int := (css.take k).flatten
theorem upto_zero (css : List (List Int)) : upto css 0 = [] := by simp [upto]
theorem upto_succ (css : List (List Int)) (k : Nat) (h : k < css.length) : upto css (k + 1) = upto css k ++ css.getD k [] := by
  unfold upto
  rw [List.take_succ_eq_append_getElem h, List.flatten_append]
  simp [List.getD, h]
theorem upto_len (css : List (List Int)) (k : Nat) (h : ∀ cs ∈ css, cs.length ≤ 4096) : (upto css k).length ≤ 4096 * k := by
  unfold upto
  have : ∀ l : List (List Int), (∀ cs ∈ l, cs.length ≤ 4096) → l.flatten.length ≤ 4096 * l.length := by
    intro l
    induction l with
    | nil => simp
    | cons a l ih =>
      intro hl
      have h1 := hl a (by simp)
      have h2 := ih (fun cs hcs => hl cs (by simp [hcs]))
      simp only [List.flatten_cons, List.length_append, List.length_cons]
      omega
  have h1 := this (css.take k) (fun cs hcs => h cs (List.mem_of_mem_take hcs))
  have h2 : (css.take k).length ≤ k := List.length_take_le _ _
  have : 4096 * (css.take k).length ≤ 4096 * k := Nat.mul_le_mul_left _ h2
  omega
theorem upto_all (css : List (List Int)) : upto css css.length = css.flatten := by simp [upto]

/-- The state of 'zzs0918cbuild' behind k chunks. -/
structure Built (w wr : World) (pb : Nat) (css : List (List Int)) (k : Nat) (wv dv sv : Value) (vs : List Value) (ps : List (List Int)) (sts : List Int) : Prop where
  pieces : Pieces wr w.heap.size pb 0 0 dv sv vs ps sts
  want : Own wr 5 wv (U (upto css k))
  beside : Beside w.heap.size pb dv sv vs wv
  flat : ps.flatten = upto css k
  few : ps.length ≤ k
  below : Below w.heap.size w wr

/-- The struct as it is made. -/
theorem built_start (w : World) (css : List (List Int)) : Built w (w.alloc (.cells #[.int .i32 0, .int .u32 0, .int .u32 0, .int .u32 0, .int .i32 0, .int .i32 0, .slice none 0 0, .slice none 0 0, .int .i64 0] 50)) w.heap.size css 0 (.slice none 0 0) (.slice none 0 0) (.slice none 0 0) [] [] [] := by
  refine ⟨⟨heap_alloc_new w _, Own.nil _ _, Own.nil _ _, rfl, rfl, fun x hx => by simp at hx, fun j hj => absurd hj (Nat.not_lt_zero _), fun p hp => by simp at hp, by simp [Value.ownBlock], by simp [Value.ownBlock], fun k hk => by simp [Value.ownBlock] at hk, Nat.le_refl _, fun k hk => by simp [Value.ownBlock] at hk, fun k hk => by simp [Value.ownBlock] at hk⟩,
    by rw [upto_zero]; exact Own.nil _ _, fun k hk => by simp [Value.ownBlock] at hk, by rw [upto_zero]; rfl, Nat.le_refl _, (Below.refl _ _).alloc (Nat.le_refl _) _⟩

/-- A row that a 'make' and a 'copy' have filled. -/
theorem own_filled {w : World} {g : Nat} {cur : Array Value} {cs : List Int} (h : w.heap[g]? = some (.cells (splice cur 0 (U cs)) 5 (0, 0))) (hc : cur.size = cs.length) (hm : cs.length ≤ maxLen) : Own w 5 (.slice (some ⟨g, 0, none⟩) cs.length cs.length) (U cs) := by
  refine ⟨by simp, .inr ⟨g, cs.length, _, by rw [len_U], Nat.zero_le _, h, by rw [len_U]; exact Nat.le_refl _, hm, ?_, ?_⟩⟩
  · rw [size_splice (by rw [len_U]; omega)]; omega
  · rw [Nat.mul_one]
    have := take_splice (c := cur) (o := 0) (vs := U cs) (xs := []) (by simp)
    simpa using this

/-- 'add' of a slice of the call's own, empty or not. -/
theorem add_both (w : World) (B pb g : Nat) (dv sv : Value) (vs : List Value) (ps : List (List Int)) (sts : List Int) (cs ws : List Int) (wv : Value)
    (hP : Pieces w B pb 0 0 dv sv vs ps sts) (hB : B ≤ w.heap.size) (hb : Own w 5 (.slice (some ⟨g, 0, none⟩) cs.length cs.length) (U cs)) (g1 : pb < g) (g2 : ∀ k, dv.ownBlock = some k → k < g) (g3 : ∀ k, sv.ownBlock = some k → k < g) (gB : B ≤ g)
    (hA : Beside B pb dv sv vs wv) (hW : Own w 5 wv (U ws)) (gw : ∀ k, wv.ownBlock = some k → k < g) (hn : ps.length ≤ 1000) (hf : ps.flatten.length ≤ 1000000000) (hcl : cs.length ≤ 1000000) :
    Calls Ybad.prog 9 #[.pointer (some ⟨pb, 0, none⟩), .slice (some ⟨g, 0, none⟩) cs.length cs.length] w fun e w' => e = .returned (.tuple #[]) ∧ ∃ dv2 sv2 vs2 ps2 sts2, Pieces w' B pb 0 0 dv2 sv2 vs2 ps2 sts2 ∧ ps2.flatten = ps.flatten ++ cs ∧ ps2.length ≤ ps.length + 1 ∧
      Mut w w' (Of pb dv sv) ∧ Beside B pb dv2 sv2 vs2 wv ∧ Own w' 5 wv (U ws) := by
  by_cases hz : cs.length = 0
  · refine (add_empty w pb _ cs.length _ hz).mono ?_
    rintro e w' ⟨rfl, rfl⟩
    have h0 : cs = [] := List.eq_nil_of_length_eq_zero hz
    exact ⟨rfl, dv, sv, vs, ps, sts, hP, by rw [h0, List.append_nil], by omega, Mut.refl _ _, hA, hW⟩
  · have hba : Apart B pb dv sv (.slice (some ⟨g, 0, none⟩) cs.length cs.length) := by
      intro k hk
      have hkg : g = k := by simpa [Value.ownBlock] using hk
      subst hkg
      exact ⟨by omega, fun e => by have := g2 _ e; omega, fun e => by have := g3 _ e; omega, gB⟩
    refine (add_any w B pb dv sv vs ps sts _ cs hP hB hb hba (by omega) hn hf hcl).mono ?_
    rintro e w' ⟨rfl, dv2, sv2, h1, h2, h3, h4⟩
    refine ⟨rfl, dv2, sv2, _, _, _, h1, by simp, by simp, h2, beside_add (w := w) hA hW.lt h3 h4 (fun k hk e => ?_), hW.mut h2 (fun k hk hO => ?_)⟩
    · have hkg : g = k := by simpa [Value.ownBlock] using hk
      have := gw k e; omega
    · rcases hO with e | e | e
      · exact (hA k hk).1 e
      · exact (hA k hk).2.1 e
      · exact (hA k hk).2.2.1 e

set_option maxHeartbeats 4000000 in
theorem build_any (w : World) (v : Value) (vs0 : List Value) (css : List (List Int)) (hc : Chunks w w.heap.size v vs0 css) (hn : css.length ≤ 256) (hl : ∀ cs ∈ css, cs.length ≤ 4096) :
    Calls Ybad.prog 5 #[v] w fun e w' => ∃ wv dv sv vs ps sts, e = .returned (.tuple #[.pointer (some ⟨w.heap.size, 0, none⟩), wv]) ∧ Built w w' w.heap.size css css.length wv dv sv vs ps sts := by
  have HC : Hid (Chunks w w.heap.size v vs0 css) := hc
  have HL : Hid (vs0.length = css.length) := hc.len
  have HH : Hid (∀ cs ∈ css, cs.length ≤ 4096) := hl
  have HS0 : Hid (Built w (w.alloc (.cells #[.int .i32 0, .int .u32 0, .int .u32 0, .int .u32 0, .int .i32 0, .int .i32 0, .slice none 0 0, .slice none 0 0, .int .i64 0] 50)) w.heap.size css 0 (.slice none 0 0) (.slice none 0 0) (.slice none 0 0) [] [] []) := built_start w css
  have hvn : vs0.length ≤ 256 := by rw [hc.len]; exact hn
  obtain ⟨a, cap, rfl⟩ := hc.form
  obtain ⟨i5, hi5, hz5, hs5, hb5⟩ := info_parts info5
  have HI : Hid (Ybad.prog.info? 5 = some i5) := hi5
  have HI2 : Hid (i5.zero = some (.int .u8 0)) := hz5
  have HI3 : Hid (i5.size = 1) := hs5
  have HI4 : Hid (i5.bytes = 1) := hb5
  clear hc hl hn hi5 hz5 hs5 hb5
  go_enter Ybad.func5, Ybad.ntmps5
  go_wp2
  go_loopw [5, 13] (fun b i wr => ∃ (k : Nat) (wv dv sv : Value) (vs : List Value) (ps : List (List Int)) (sts : List Int), k ≤ vs0.length ∧ b = wv ∧ i = .int .i64 k ∧ Built w wr w.heap.size css k wv dv sv vs ps sts) (fun _ i _ => vs0.length - (intOf i).toNat)
  case atStart => exact ⟨0, _, _, _, _, _, _, Nat.zero_le _, rfl, rfl, HS0.out⟩
  case round =>
    obtain ⟨k, wv, dv, sv, vs, ps, sts, hk, rfl, rfl, hbt⟩ := hrel
    have HBT : Hid (Built w wr w.heap.size css k u5 dv sv vs ps sts) := hbt
    clear hbt HS0
    by_cases hlt : k < vs0.length
    · have hcw := HC.out.below HBT.out.below
      rcases hcw.outer with ⟨h0, _⟩ | ⟨b, o, cap', he, hbB, hcell⟩
      · rw [h0] at hlt; exact absurd hlt (Nat.not_lt_zero _)
      · simp only [Value.slice.injEq, true_and] at he
        obtain ⟨rfl, rfl⟩ := he
        have hck := hcell k hlt
        have hin := hcw.inner k hlt
        obtain ⟨ia, ic, hv⟩ := hin.len
        rw [hv] at hck hin
        have hcl : (css.getD k []).length ≤ 4096 := HH.out _ (by simp [List.getD, HL.out ▸ hlt])
        have HU : Hid (upto css (k + 1) = upto css k ++ css.getD k []) := upto_succ css k (HL.out ▸ hlt)
        have hul := upto_len css k HH.out
        generalize css.getD k [] = cs at *
        have HIN : Hid (Reads wr w.heap.size .u8 (.slice ia cs.length ic) cs) := hin
        clear hcell hin hv hcw
        go_wp2_with (first
          | (at_make
             refine wpList_make_full _ rfl _ _ 26 rfl 0 5 i5 (.int .u8 0) 1 Ybad.underlying26 HI.out HI2.out HI3.out .i64 .i64 _ _ cs.length rfl rfl ?e1 ?e2 ?e3 ?e4 ?e5 ?_
             case e1 => rfl
             case e2 => rfl
             case e3 => rw [HI4.out]; omega
             case e4 => simp only [maxLen]; omega
             case e5 => exact Nat.zero_le _
             intro w1 h1 h2
             have hcur : ∃ cur, w1.heap[wr.heap.size]? = some (.cells cur 5 (0, 0)) ∧ cur.size = cs.length := by
               rcases h1.2 with ⟨he, _⟩ | ⟨g, cap2, cur, he, _, hg, _, _, hsz, _⟩
               · cases he
               · simp only [Value.slice.injEq, Option.some.injEq, Addr.mk.injEq, true_and] at he
                 obtain ⟨⟨rfl, _⟩, rfl⟩ := he
                 exact ⟨cur, hg, by omega⟩
             obtain ⟨cur, hcur, hcsz⟩ := hcur
             have M1 : Hid (Mut wr w1 (fun k => wr.heap.size ≤ k)) := ⟨h2.os, h2.tape, h2.output, h2.size, fun k hk _ => h2.block k hk (by simp)⟩
             have HCU : Hid (w1.heap[wr.heap.size]? = some (.cells cur 5 (0, 0))) := hcur
             have HCS : Hid (cur.size = cs.length) := hcsz
             clear h1 h2 hcur hcsz)
          | (refine step_copy rfl (.tmp 20) (.tmp 21) 26 26 rfl 5 Ybad.underlying26 size5 wr.heap.size 0 cs.length cs.length ?e1 cur HCU.out (.slice ia cs.length ic) ?e2 w.heap.size .u8 cs ?e3 (Nat.le_refl _) ?e4 ?_
             case e1 => rfl
             case e2 => rfl
             case e3 => exact HIN.out.below (M1.out.below HBT.out.below.size (fun k hk => by have := HBT.out.below.size; omega))
             case e4 => rw [HCS.out]; omega
             intro w2 k2 t2
             have M2 : Hid (Mut wr w2 (fun k => wr.heap.size ≤ k)) := M1.out.then t2.mut (fun k _ e => by omega)
             have HBO : Hid (Own w2 5 (.slice (some ⟨wr.heap.size, 0, none⟩) cs.length cs.length) (U cs)) := own_filled k2 HCS.out (by simp only [maxLen]; omega)
             clear k2 t2))
        have hP2 := HBT.out.pieces.mut M2.out (fun e => by have := HBT.out.pieces.lt; omega) (fun k hk e => by have := HBT.out.pieces.data.lt k hk; omega) (fun k hk e => by have := HBT.out.pieces.starts.lt k hk; omega) (fun j hj k hk e => by have := (HBT.out.pieces.each j hj).1.lt k hk; omega)
        have hW2 : Own w2 5 u5 (U (upto css k)) := HBT.out.want.mut M2.out (fun k hk e => by have := HBT.out.want.lt k hk; omega)
        have hb2 : Below w.heap.size w w2 := HBT.out.below.trans (M2.out.below HBT.out.below.size (fun k hk => by have := HBT.out.below.size; omega))
        refine (add_both w2 w.heap.size w.heap.size wr.heap.size dv sv vs ps sts cs (upto css k) u5 hP2 hb2.size HBO.out HBT.out.pieces.lt HBT.out.pieces.data.lt HBT.out.pieces.starts.lt HBT.out.below.size HBT.out.beside hW2 HBT.out.want.lt
          (by have := HBT.out.few; omega) (by rw [HBT.out.flat]; omega) (by omega)).mono ?_
        rintro e w3 ⟨rfl, dv3, sv3, vs3, ps3, sts3, p3, f3, l3, m3, b3, o3⟩
        have HP3 : Hid (Pieces w3 w.heap.size w.heap.size 0 0 dv3 sv3 vs3 ps3 sts3) := p3
        have HF3 : Hid (ps3.flatten = upto css (k + 1)) := by show ps3.flatten = _; rw [f3, HU.out, HBT.out.flat]
        have HL3 : Hid (ps3.length ≤ k + 1) := by have := HBT.out.few; show ps3.length ≤ k + 1; omega
        have hbl3 : Below w.heap.size w w3 := hb2.trans (m3.below hb2.size (fun k hk => by
          rcases hk with e | e | e
          · omega
          · exact HBT.out.pieces.lb1 k e
          · exact HBT.out.pieces.lb2 k e))
        have HB3 : Hid (Below w.heap.size w w3) := hbl3
        have HE3 : Hid (Beside w.heap.size w.heap.size dv3 sv3 vs3 u5) := b3
        have HO3 : Hid (Own w3 5 u5 (U (upto css k))) := o3
        have HIN3 : Hid (Reads w3 w.heap.size .u8 (.slice ia cs.length ic) cs) := by
          have h1 := HC.out.below hbl3
          have h2 := HIN.out
          exact h2.below ((M2.out.below HBT.out.below.size (fun k hk => by have := HBT.out.below.size; omega)).trans (m3.below hb2.size (fun k hk => by
            rcases hk with e | e | e
            · omega
            · exact HBT.out.pieces.lb1 k e
            · exact HBT.out.pieces.lb2 k e)))
        clear p3 f3 l3 m3 b3 o3 hbl3 hP2 hW2 hb2 M1 M2 HBO HCU HCS
        go_wp2_with (at_builtin
                     refine step_append rfl (.tmp 26) (.tmp 27) 26 26 rfl 5 (.int .u8 0) 1 Ybad.underlying26 info5 rfl u5 (U (upto css k)) ?e1 HO3.out (.slice ia cs.length ic) ?e2 cs.length (U cs) ?e3 ?e4 ?e5 ?_
                     case e1 => rfl
                     case e2 => rfl
                     case e3 => exact HIN3.out.src Ybad.underlying26
                     case e4 => rw [len_U]; simp only [maxLen]; omega
                     case e5 => rw [len_U]; omega
                     intro wv4 w4 h1 h2
                     have HS4 : Hid (Step w3 u5 w4 wv4) := h2
                     have HO4 : Hid (Own w4 5 wv4 (U (upto css (k + 1)))) := by show Own w4 5 wv4 (U (upto css (k + 1))); rw [HU.out, ← U_append]; exact h1
                     clear h1 h2)
        have hpw := pieces_want HP3.out HE3.out HB3.out.size HS4.out
        have hb4 : Below w.heap.size w w4 := HB3.out.trans (HS4.out.below (fun k hk => (HE3.out k hk).2.2.2.1) HB3.out.size)
        have HFIN : Hid (Built w w4 w.heap.size css (k + 1) wv4 dv3 sv3 vs3 ps3 sts3) := ⟨hpw.1, HO4.out, hpw.2, HF3.out, HL3.out, hb4⟩
        clear hpw hb4
        go_roundw
        case rel => exact ⟨k + 1, wv4, dv3, sv3, vs3, ps3, sts3, by omega, rfl, by go_num, HFIN.out⟩
        case measure => simp [intOf]; omega
    · have hkk : k = css.length := by have := HL.out; omega
      go_wp2
      go_ret2
      exact ⟨u5, dv, sv, vs, ps, sts, rfl, hkk ▸ HBT.out⟩
end Go.Proofs.YbulkrziDoor
