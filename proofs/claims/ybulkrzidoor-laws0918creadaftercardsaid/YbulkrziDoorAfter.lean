import Derived.Test.YbulkrziDoorRead
namespace Go.Proofs.YbulkrziDoor
open Go.Proofs Go.RowKit
set_option maxRecDepth 100000

theorem One.mut {w w' : World} {S : Nat → Prop} {pb g gc h hc jb jc : Nat} {zs : List Int} (o : One w pb g gc h hc jb jc zs) (m : Mut w w' S) (hS : ∀ k, k < w.heap.size → ¬ S k) : One w' pb g gc h hc jb jc zs := by
  have hpb : pb < w.heap.size := (Array.getElem?_eq_some_iff.1 o.blk).1
  have l1 := o.lt1
  have l2 := o.lt2
  have l3 := o.lt3
  have hsz := m.size
  have hc : ∀ b k, b < w.heap.size → w'.cell? ⟨b, k, none⟩ = w.cell? ⟨b, k, none⟩ := by
    intro b k hb
    simp [World.cell?, m.block b hb (hS b hb)]
  refine ⟨(m.block pb hpb (hS pb hpb)).trans o.blk, ?_, ?_, fun j hj => ?_, o.ne1, o.ne2, o.ne3, by omega, by omega, by omega, o.cap1, o.cap2, o.cap3, o.max1, o.max2, o.max3⟩
  · rw [hc _ _ l1]; exact o.data
  · rw [hc _ _ l2]; exact o.start
  · rw [hc _ _ l3]; exact o.each j hj

theorem pieces_lengths {css ps : List (List Int)} (hf : ps.flatten = css.flatten) (hn : css.length ≤ 256) (hl : ∀ cs ∈ css, cs.length ≤ 4096) :
    ps.flatten.length ≤ 1048576 ∧ ∀ p ∈ ps, p.length ≤ 1048576 := by
  have h1 : ∀ (xs : List (List Int)), (∀ cs ∈ xs, cs.length ≤ 4096) → xs.flatten.length ≤ xs.length * 4096 := by
    intro xs
    induction xs with
    | nil => intro _; simp
    | cons x xs ih =>
      intro h
      have h2 := h x (by simp)
      have h3 := ih (fun c hc => h c (by simp [hc]))
      simp only [List.flatten_cons, List.length_append, List.length_cons]
      omega
  have h2 : ps.flatten.length ≤ 1048576 := by rw [hf]; have := h1 css hl; omega
  refine ⟨h2, fun p hp => ?_⟩
  have : p.length ≤ ps.flatten.length := (List.sublist_flatten_of_mem hp).length_le
  omega

/-- The tail of what is wanted. -/
theorem holds_drop {w : World} {wb wcap : Nat} {zs : List Int} (hc : ∀ j, j < zs.length → w.cell? ⟨wb, j, none⟩ = some (.int .u8 (zs.getD j 0))) (o : Nat) (n : Nat) (hn : (zs.drop o).length = n) : Holds w (.slice (some ⟨wb, o, none⟩) n (wcap - o)) (zs.drop o) := by
  refine ⟨wb, o, wcap - o, by rw [hn], fun j hj => ?_⟩
  rw [List.length_drop] at hj
  rw [hc (o + j) (by omega)]
  simp [List.getD]

/-- What was copied. -/
theorem holds_splice {w : World} {bb n : Nat} {cur : Array Value} {ds : List Int} (hb : w.heap[bb]? = some (.cells (splice cur 0 (U ds)) 5 (0, 0))) (hn : ds.length = n) : Holds w (.slice (some ⟨bb, 0, none⟩) n n) ds := by
  refine ⟨bb, 0, n, by rw [hn], fun j hj => ?_⟩
  rw [cell_of_heap hb, Nat.zero_add]
  have h1 : (splice cur 0 (U ds))[j]? = (U ds)[j]? := by
    have hjU : j < (U ds).length := by rw [len_U]; exact hj
    simp only [splice, List.take_zero, List.nil_append, List.getElem?_toArray]
    rw [List.getElem?_append_left hjU]
  rw [h1, U, List.getElem?_map, List.getElem?_eq_getElem hj, List.getD, List.getElem?_eq_getElem hj]
  rfl

set_option maxHeartbeats 4000000 in
theorem readAfter_law (w : World) (v : Value) (vs0 : List Value) (css : List (List Int)) (off : Nat) (hoff : off ≤ 65535) (hc : Chunks w w.heap.size v vs0 css) (hm : vs0.length ≤ maxLen) (hml : ∀ cs ∈ css, cs.length ≤ maxLen) :
    Calls Ybad.prog 3 #[v, .int .u16 off] w fun e w' => e = .returned (.bool true) ∧ Below w.heap.size w w' := by
  have HC : Hid (Chunks w w.heap.size v vs0 css) := hc
  have HM : Hid (vs0.length ≤ maxLen) := hm
  have HML : Hid (∀ cs ∈ css, cs.length ≤ maxLen) := hml
  clear hc hm hml
  go_enter Ybad.func3, Ybad.ntmps3
  go_wp2_with fail
  refine (fits_any w w.heap.size v vs0 css HC.out HM.out HML.out).mono ?_
  rintro e w' ⟨b, rfl, rfl, hfit⟩
  cases b with
  | false =>
    clear hfit
    go_wp2
    go_ret
    exact ⟨rfl, Below.refl _ _⟩
  | true =>
    obtain ⟨hn, hl⟩ := hfit rfl
    clear hfit
    have HL4 : Hid (∀ cs ∈ css, cs.length ≤ 4096) := hl
    clear hl
    go_wp2_with fail
    refine (build_any w' v vs0 css HC.out hn HL4.out).mono ?_
    rintro e w1 ⟨wv, dv, sv, vs, ps, sts, rfl, hbt⟩
    have HBT : Hid (Built w' w1 w'.heap.size css css.length wv dv sv vs ps sts) := hbt
    clear hbt
    go_wp2_with fail
    by_cases h0 : ps.length = 0
    · have hps : ps = [] := List.eq_nil_of_length_eq_zero h0
      subst hps
      have hvs : vs = [] := List.eq_nil_of_length_eq_zero (by rw [HBT.out.pieces.vlen]; rfl)
      subst hvs
      obtain ⟨da, dc, hd⟩ := HBT.out.pieces.data.len
      have hw := HBT.out.want
      rw [← HBT.out.flat] at hw
      obtain ⟨wa, wc, hwv⟩ := hw.len
      have hblk : w1.heap[w'.heap.size]? = some (.cells (pcells 0 0 (.slice da 0 dc) sv 0) 50 (0, 0)) := by
        have := HBT.out.pieces.blk
        rw [hd] at this
        exact this
      have HBEL : Hid (Below w'.heap.size w' w1) := HBT.out.below
      have hwv0 : wv = .slice wa 0 wc := hwv
      clear hw hwv hd h0 HBT
      subst hwv0
      refine (flat_none w1 w'.heap.size da dc sv 0 hblk).mono ?_
      clear hblk
      rintro e w2 ⟨rfl, k2, t2⟩
      have HB2 : Hid (Below w'.heap.size w' w2) := HBEL.out.trans (t2.mut.below HBEL.out.size (fun k e => by omega))
      clear k2 t2
      go_wp2
      go_ret
      exact ⟨rfl, HB2.out⟩
    · obtain ⟨b1, b2⟩ := pieces_lengths (HBT.out.flat.trans (upto_all css)) hn HL4.out
      have hw := HBT.out.want
      rw [← HBT.out.flat] at hw
      have hzp : 0 < ps.flatten.length := by
        match ps, h0, HBT.out.pieces.pos with
        | p :: ps, _, hp =>
          have := hp p (by simp)
          simp only [List.flatten_cons, List.length_append]; omega
      have HBEL : Hid (Below w'.heap.size w' w1) := HBT.out.below
      have HBE : Hid (∀ k, wv.ownBlock = some k → k ≠ w'.heap.size ∧ w'.heap.size ≤ k) := fun k hk => ⟨(HBT.out.beside k hk).1, (HBT.out.beside k hk).2.2.2.1⟩
      have HW : Hid (Own w1 5 wv (U ps.flatten)) := hw
      refine (flat_some w1 w'.heap.size w'.heap.size dv sv vs ps sts HBT.out.pieces (by omega) (fun p hp => by have := b2 p hp; omega) (by have := HBT.out.few; omega) (by omega)).mono ?_
      rintro e w2 ⟨g, gc, h, hc, jb, jc, rfl, o, m2⟩
      have HB2 : Hid (Below w'.heap.size w' w2) := HBEL.out.trans (m2.below HBEL.out.size (fun k e => by omega))
      have HW2 : Hid (Own w2 5 wv (U ps.flatten)) := HW.out.mut m2 (fun k hk e => (HBE.out k hk).1 e)
      have HO : Hid (One w2 w'.heap.size g gc h hc jb jc ps.flatten) := o
      clear hw HW HBT HBEL m2 o b2 h0
      generalize ps.flatten = zs at *
      obtain ⟨wb, wcap, hwv, hwb, hwl, hwm, hwc⟩ := own_some HW2.out (by rw [len_U]; exact hzp)
      rw [len_U] at hwv hwl hwc
      subst hwv
      have hne := HBE.out wb rfl
      have HNE : Hid (wb ≠ w'.heap.size) := hne.1
      have HWB : Hid (wb < w2.heap.size) := hwb
      have HWC : Hid (∀ j, j < zs.length → w2.cell? ⟨wb, j, none⟩ = some (.int .u8 (zs.getD j 0))) := by
        intro j hj
        rw [hwc j hj, U]
        simp [List.getD, hj]
      clear hwc hne hwb HBE HW2
      have hL : ∃ L, zs.length = L := ⟨_, rfl⟩
      obtain ⟨L, hL⟩ := hL
      have HL : Hid (zs.length = L) := hL
      rw [hL] at b1 hzp hwl
      simp only [hL]
      clear hL
      unfold maxLen at hwm
      have hrem : ((off : Int).tmod (L : Int)) = ((off % L : Nat) : Int) := (Int.ofNat_tmod off L).symm
      have hlt : off % L < L := Nat.mod_lt _ hzp
      generalize off % L = q at hrem hlt
      obtain ⟨n, hqn⟩ : ∃ n, q + n = L := ⟨L - q, by omega⟩
      have hn0 : 0 < n := by omega
      have hnm : n ≤ 1048576 := by omega
      have hsub : (L : Int) - (q : Int) = (n : Int) := by omega
      have hLq : L - q = n := by omega
      have HQN : Hid (q + n = L) := hqn
      have HDL : Hid ((zs.drop q).length = n) := by show (zs.drop q).length = n; rw [List.length_drop, HL.out]; exact hLq
      obtain ⟨i5, hi5, hz5, hs5, hb5⟩ := info_parts info5
      have HI : Hid (Ybad.prog.info? 5 = some i5) := hi5
      have HI2 : Hid (i5.zero = some (.int .u8 0)) := hz5
      have HI3 : Hid (i5.size = 1) := hs5
      have HI4 : Hid (i5.bytes = 1) := hb5
      clear hi5 hz5 hs5 hb5
      go_wp2_with (at_make
                   refine wpList_make_full _ rfl _ _ 26 rfl 0 5 i5 (.int .u8 0) 1 Ybad.underlying26 HI.out HI2.out HI3.out .i64 .i64 _ _ n rfl rfl ?e1 ?e2 ?e3 ?e4 ?e5 ?_
                   case e1 => rfl
                   case e2 => rfl
                   case e3 => rw [HI4.out]; omega
                   case e4 => simp only [maxLen]; omega
                   case e5 => exact Nat.zero_le _
                   intro w3 h1 h2
                   have hcur : ∃ cur, w3.heap[w2.heap.size]? = some (.cells cur 5 (0, 0)) ∧ cur.size = n := by
                     rcases h1.2 with ⟨he, _⟩ | ⟨g, cap2, cur, he, _, hg, _, _, hsz, _⟩
                     · cases he
                     · simp only [Value.slice.injEq, Option.some.injEq, Addr.mk.injEq, true_and] at he
                       obtain ⟨⟨rfl, _⟩, rfl⟩ := he
                       exact ⟨cur, hg, by omega⟩
                   obtain ⟨cur, hcur, hcsz⟩ := hcur
                   have M3 : Hid (Mut w2 w3 (fun k => w2.heap.size ≤ k)) := ⟨h2.os, h2.tape, h2.output, h2.size, fun k hk _ => h2.block k hk (by simp)⟩
                   have HCU : Hid (w3.heap[w2.heap.size]? = some (.cells cur 5 (0, 0))) := hcur
                   have HCS : Hid (cur.size = n) := hcsz
                   clear h1 h2 hcur hcsz)
      have hpl2 : w'.heap.size < w2.heap.size := (Array.getElem?_eq_some_iff.1 HO.out.blk).1
      refine (readAt_one w3 _ _ _ _ _ _ _ zs q w2.heap.size n cur (HO.out.mut M3.out (fun k hk e => by omega)) HCU.out HCS.out (by rw [HL.out]; exact HQN.out) hn0 (by rw [HL.out]; omega) (by omega)).mono ?_
      rintro e w4 ⟨rfl, k4, m4⟩
      have M4 : Hid (Mut w2 w4 (fun k => k = w'.heap.size ∨ w2.heap.size ≤ k)) := (M3.out.mono (fun k _ e => .inr e)).then m4 (fun k _ e => e.elim .inl (fun e => .inr (by omega)))
      have HH1 : Hid (Holds w4 (.slice (some ⟨w2.heap.size, 0, none⟩) n n) (zs.drop q)) := holds_splice k4 HDL.out
      have HH2 : Hid (Holds w4 (.slice (some ⟨wb, q, none⟩) n (wcap - q)) (zs.drop q)) := by
        refine holds_drop (fun j hj => ?_) q n HDL.out
        have hw := HWB.out
        have : w4.heap[wb]? = w2.heap[wb]? := M4.out.block wb hw (fun e => e.elim HNE.out (fun e => by omega))
        rw [← HWC.out j hj]
        simp [World.cell?, this]
      have HB4 : Hid (Below w'.heap.size w' w4) := HB2.out.trans (M4.out.below HB2.out.size (fun k e => by omega))
      have hcq : ¬ (wcap = q) := by omega
      clear k4 m4 M3 HCU HCS
      go_wp2_with (go_at_call 8
                   refine (equal_same _ _ _ (zs.drop q) HH1.out HH2.out).mono ?_
                   rintro e w5 ⟨rfl, rfl⟩)
      go_ret
      exact ⟨rfl, HB4.out⟩
end Go.Proofs.YbulkrziDoor
