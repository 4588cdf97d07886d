import Derived.Test.YbulkrziDoorBuild
import Derived.Lib.MakeNoZero
import Derived.Laws.Externs
namespace Go.Proofs.YbulkrziDoor
open Go.Proofs Go.RowKit
set_option maxRecDepth 100000

/-- internal/bytealg.MakeNoZero: a new row of whatever bytes. -/
theorem makeNoZero_any (w : World) (n : Nat) (hn : n ≤ 281474976710656) : ∃ cs : Array Value, (callFunc 28 #[.int .i64 n]).run Ybad.prog w = .ok (.value (.slice (some ⟨w.heap.size, 0, none⟩) n cs.size)) (w.drew.drew.alloc (.cells cs 5)) ∧ n ≤ cs.size := by
  obtain ⟨cs, hr, hle, _⟩ := Lib.run_makeNoZero (P := Ybad.prog) w #[3] 26 5 Ybad.underlying26 n hn
  refine ⟨cs, ?_, hle⟩
  rw [run_callFunc_extern (e := Extern.BytealgMakeNoZero.makeNoZero #[3] #[26]) Ybad.func28 (by kernel_rfl) (by kernel_rfl) (by kernel_rfl) (by kernel_rfl), hr]
  rfl

set_option maxHeartbeats 4000000 in
theorem join_any (w : World) (dv : Value) (vs : List Value) (ps : List (List Int)) (hd : Own w 26 dv vs) (hlen : vs.length = ps.length) (h2 : 2 ≤ vs.length) (heach : ∀ j, j < vs.length → Own w 5 (vs.getD j undef) (U (ps.getD j [])))
    (hpos : ∀ p ∈ ps, 0 < p.length) (hl : ∀ p ∈ ps, p.length ≤ 2000000) (hn : ps.length ≤ 1000) (hf : ps.flatten.length ≤ 1000000000) :
    Calls Ybad.prog 12 #[dv, .slice none 0 0] w fun e w' => e = .returned (.slice (some ⟨w.heap.size, 0, none⟩) ps.flatten.length ps.flatten.length) ∧ w.heap.size < w'.heap.size ∧ (∀ j, j < ps.flatten.length → w'.cell? ⟨w.heap.size, j, none⟩ = some (.int .u8 (ps.flatten.getD j 0))) ∧ Mut w w' (fun k => w.heap.size ≤ k) := by
  obtain ⟨cs0, hmn, hmle⟩ := makeNoZero_any w ps.flatten.length (by omega)
  have HD : Hid (Own w 26 dv vs) := hd
  have HLN : Hid (vs.length = ps.length) := hlen
  have HE : Hid (∀ j, j < vs.length → Own w 5 (vs.getD j undef) (U (ps.getD j []))) := heach
  have HPOS : Hid (∀ p ∈ ps, 0 < p.length) := hpos
  have HLL : Hid (∀ p ∈ ps, p.length ≤ 2000000) := hl
  rcases hd.2 with ⟨rfl, hv0⟩ | ⟨g, cap, cur0, rfl, _, hg, hnc, hcm, hcs, htk⟩
  · omega
  have HCELL : Hid (∀ j, j < vs.length → w.cell? ⟨g, j, none⟩ = some (vs.getD j undef)) := by
    intro j hj
    have := World.ownsRow.cells (g := g) hd rfl j (vs.getD j undef) (by simp [List.getD, hj])
    rw [Addr.add_lit] at this
    simpa using this
  have hGL : g < w.heap.size := (Array.getElem?_eq_some_iff.1 hg).1
  have hvn : vs.length ≤ 1000 := by omega
  unfold maxLen at hcm
  have hT : ∃ T, ps.flatten.length = T := ⟨_, rfl⟩
  obtain ⟨T, hT⟩ := hT
  have HT : Hid (ps.flatten.length = T) := hT
  rw [hT] at hmn hmle hf
  clear hd hlen heach hpos hl hg hcs htk hT
  go_enter Ybad.func12, Ybad.ntmps12
  go_wp2
  go_loop [5, 44] (fun n i => ∃ k : Nat, k ≤ vs.length ∧ i = .int .i64 k ∧ n = .int .i64 (upto ps k).length) (fun _ i => vs.length - (intOf i).toNat)
  case atStart => exact ⟨0, Nat.zero_le _, rfl, by rw [upto_zero]; rfl⟩
  case round =>
    obtain ⟨k, hk, rfl, rfl⟩ := hrel
    have hule : (upto ps k).length ≤ T := by
      have : ps.flatten = upto ps k ++ (ps.drop k).flatten := by rw [upto, ← List.flatten_append, List.take_append_drop]
      rw [← HT.out, this, List.length_append]; omega
    by_cases hlt : k < vs.length
    · have hck := HCELL.out k hlt
      obtain ⟨ia, ic, hv⟩ := (HE.out k hlt).len
      rw [hv, len_U] at hck
      have hpl : (ps.getD k []).length ≤ 2000000 := HLL.out _ (by have := HLN.out; simp [List.getD, show k < ps.length by omega])
      have HU : Hid ((upto ps (k + 1)).length = (upto ps k).length + (ps.getD k []).length) := by
        show (upto ps (k + 1)).length = _
        rw [upto_succ ps k (by have := HLN.out; omega), List.length_append]
      clear hv
      generalize ps.getD k [] = p at *
      generalize hM : (upto ps k).length = M at *
      go_wp2
      go_round
      case rel => exact ⟨k + 1, by omega, by go_num, by rw [HU.out]; go_num⟩
      case measure => simp [intOf]; omega
    · have hkk : k = ps.length := by have := HLN.out; omega
      have hTT : (upto ps k).length = T := by rw [hkk, upto_all]; exact HT.out
      rw [hTT]
      clear hule hTT
      have hck := HCELL.out 0 (by omega)
      have hr0 := (HE.out 0 (by omega)).reads
      obtain ⟨ia, ic, hv⟩ := hr0.len
      rw [hv] at hck hr0
      have hp0l : (ps.getD 0 []).length ≤ T := by
        have : ps.flatten = upto ps 1 ++ (ps.drop 1).flatten := by rw [upto, ← List.flatten_append, List.take_append_drop]
        rw [← HT.out, this, List.length_append, upto_succ ps 0 (by have := HLN.out; omega), upto_zero]; simp
      have HU1 : Hid (upto ps 1 = ps.getD 0 []) := by show upto ps 1 = _; rw [upto_succ ps 0 (by have := HLN.out; omega), upto_zero]; rfl
      have hb0 : Below w.heap.size w (w.alloc (.cells cs0 5)).drew.drew := ((Below.refl _ _).alloc (Nat.le_refl _) _).drew.drew
      have HR0 : Hid (Reads (w.alloc (.cells cs0 5)).drew.drew w.heap.size .u8 (.slice ia (ps.getD 0 []).length ic) (ps.getD 0 [])) := hr0.below hb0
      have HK0 : Hid ((w.alloc (.cells cs0 5)).drew.drew.heap[w.heap.size]? = some (.cells cs0 5 (0, 0))) := heap_alloc_new w _
      generalize ps.getD 0 [] = p0 at *
      have hcap1 : ¬ (cap = 1) := by omega
      clear hv hr0 hb0
      go_wp2_with (refine step_copy rfl (.tmp 64) (.tmp 67) 26 26 rfl 5 Ybad.underlying26 size5 w.heap.size 0 T T ?e1 cs0 HK0.out (.slice ia p0.length ic) ?e2 w.heap.size .u8 p0 HR0.out hp0l ?e4 ?_
                   case e1 => rfl
                   case e2 => rfl
                   case e4 => omega
                   intro w1 k1 t1
                   have K1 : Hid (w1.heap[w.heap.size]? = some (.cells (splice cs0 0 (U p0)) 5 (0, 0))) := k1
                   have M1 : Hid (Mut w w1 (fun k => w.heap.size ≤ k)) := (((Mut.refl w _).alloc _).drew.drew).then t1.mut (fun k hk e => by omega)
                   clear k1 t1)
      have HK : Hid (∃ cur : Array Value, w1.heap[w.heap.size]? = some (.cells cur 5 (0, 0)) ∧ cur.size = cs0.size ∧ cur.toList.take (upto ps 1).length = U (upto ps 1)) :=
        ⟨_, K1.out, by rw [size_splice (by rw [len_U]; omega)], by rw [HU1.out]; have := take_splice (c := cs0) (o := 0) (vs := U p0) (xs := []) (by simp); simpa [len_U] using this⟩
      have HP0 : Hid (p0.length = (upto ps 1).length) := by show p0.length = _; rw [HU1.out]
      clear K1 HU1 HR0 HK0 hck hmn
      generalize hm : vs.length - 1 = m
      go_loopw [9, 72] (fun b i wr => ∃ (k : Nat) (cur : Array Value), k ≤ m ∧ i = .int .i64 k ∧ b = .int .i64 (upto ps (k + 1)).length ∧ wr.heap[w.heap.size]? = some (.cells cur 5 (0, 0)) ∧ cur.size = cs0.size ∧ cur.toList.take (upto ps (k + 1)).length = U (upto ps (k + 1)) ∧ Mut w wr (fun k => w.heap.size ≤ k)) (fun _ i _ => m - (intOf i).toNat)
      case atStart =>
        obtain ⟨cur, h1, h2, h3⟩ := HK.out
        exact ⟨0, cur, Nat.zero_le _, rfl, by rw [HP0.out], h1, h2, h3, M1.out⟩
      case round =>
        obtain ⟨q, cur, hq, rfl, rfl, hb, hsz, htk, hmu⟩ := hrel
        have HB : Hid (wr.heap[w.heap.size]? = some (.cells cur 5 (0, 0))) := hb
        have HTK : Hid (cur.toList.take (upto ps (q + 1)).length = U (upto ps (q + 1))) := htk
        have HMU : Hid (Mut w wr (fun k => w.heap.size ≤ k)) := hmu
        have hule : (upto ps (q + 1)).length ≤ T := by
          have : ps.flatten = upto ps (q + 1) ++ (ps.drop (q + 1)).flatten := by rw [upto, ← List.flatten_append, List.take_append_drop]
          rw [← HT.out, this, List.length_append]; omega
        by_cases hql : q < m
        · have hck : wr.cell? ⟨g, 1 + q, none⟩ = some (vs.getD (1 + q) undef) := by
            rw [(HMU.out.below (Nat.le_refl _) (fun _ h => h)).cell (p := ⟨g, 1 + q, none⟩) hGL]
            exact HCELL.out (1 + q) (by omega)
          have hrr := ((HE.out (1 + q) (by omega)).reads).below (HMU.out.below (Nat.le_refl _) (fun _ h => h))
          obtain ⟨ja, jc, hv⟩ := hrr.len
          rw [hv] at hck hrr
          have HRR : Hid (Reads wr w.heap.size .u8 (.slice ja (ps.getD (1 + q) []).length jc) (ps.getD (1 + q) [])) := hrr
          have hps : 0 < (ps.getD (1 + q) []).length := HPOS.out _ (by have := HLN.out; simp [List.getD, show 1 + q < ps.length by omega])
          have HUE : Hid (upto ps (q + 1 + 1) = upto ps (q + 1) ++ ps.getD (1 + q) []) := by
            show upto ps (q + 1 + 1) = _
            rw [upto_succ ps (q + 1) (by have := HLN.out; omega), Nat.add_comm q 1]
          have hul2 : (upto ps (q + 1)).length + (ps.getD (1 + q) []).length ≤ T := by
            have : ps.flatten = upto ps (q + 1 + 1) ++ (ps.drop (q + 1 + 1)).flatten := by rw [upto, ← List.flatten_append, List.take_append_drop]
            rw [← HT.out, this, List.length_append, HUE.out, List.length_append]; omega
          clear hv hrr
          generalize ps.getD (1 + q) [] = p at *
          generalize hM : (upto ps (q + 1)).length = M at *
          have HM : Hid ((upto ps (q + 1)).length = M) := hM
          clear hb htk hmu hM
          have hcn : (Builtin.copy_ #[26, 26] 3 #[.slice (some ⟨w.heap.size, M, none⟩) (T - M) (T - M), .slice none 0 0]).run Ybad.prog wr = .ok (.int .i64 0) wr := run_copy_nil Ybad.prog wr 26 26 3 5 _ _ _ Ybad.underlying26 (by rw [size5]; rfl)
          have hMx : ((M : Int) + 0) = M := Int.add_zero _
          go_wp2_with (refine step_copy rfl (.tmp 86) (.tmp 87) 26 26 rfl 5 Ybad.underlying26 size5 w.heap.size M (T - M) (T - M) ?e1 cur HB.out (.slice ja p.length jc) ?e2 w.heap.size .u8 p HRR.out ?e3 ?e4 ?_
                       case e1 => rfl
                       case e2 => rfl
                       case e3 => omega
                       case e4 => omega
                       intro w2 k2 t2
                       have HB2 : Hid (w2.heap[w.heap.size]? = some (.cells (splice cur M (U p)) 5 (0, 0))) := k2
                       have HM2 : Hid (Mut w w2 (fun k => w.heap.size ≤ k)) := HMU.out.then t2.mut (fun k hk e => by omega)
                       clear k2 t2)
          go_round
          case rel =>
            refine ⟨q + 1, splice cur M (U p), by omega, by go_num, ?_, HB2.out, ?_, ?_, HM2.out⟩
            · rw [HUE.out, List.length_append, HM.out]; go_num
            · rw [size_splice (by rw [len_U]; omega), hsz]
            · have := take_splice (c := cur) (o := M) (vs := U p) (xs := U (upto ps (q + 1))) HTK.out
              rw [HUE.out, ← U_append, List.length_append, HM.out]
              rw [len_U, len_U, HM.out] at this
              exact this
          case measure => simp [intOf]; omega
        · have hqq : upto ps (q + 1) = ps.flatten := by
            have : q + 1 = ps.length := by have := HLN.out; omega
            rw [this, upto_all]
          have HTF : Hid (cur.toList.take T = U ps.flatten) := by
            have := HTK.out
            rw [hqq, HT.out] at this
            exact this
          clear hb htk hmu hqq HTK
          go_wp2
          go_ret
          refine ⟨by rw [HT.out]; rfl, (Array.getElem?_eq_some_iff.1 HB.out).1, fun j hj => ?_, HMU.out⟩
          rw [cell_of_heap HB.out]
          rw [HT.out] at hj
          have h1 : (cur.toList.take T)[j]? = (U ps.flatten)[j]? := by rw [HTF.out]
          rw [List.getElem?_take_of_lt hj, Array.getElem?_toList] at h1
          rw [h1, U, List.getElem?_map, List.getElem?_eq_getElem (by rw [HT.out]; exact hj), List.getD, List.getElem?_eq_getElem (by rw [HT.out]; exact hj)]
          rfl
end Go.Proofs.YbulkrziDoor
