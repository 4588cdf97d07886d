import Derived.Test.YbulkrxeHead
namespace Go.Proofs.Ybulkrxe
open Go.Proofs Go.RowKit
set_option maxRecDepth 100000

/-- What a message is, whole. -/
def frame (typ : Int) (ds zs : List Int) : List Int := head typ ds.length zs ++ ds
theorem len_frame (typ : Int) (ds zs : List Int) : (frame typ ds zs).length ≤ 5 + 4 * zs.length + ds.length := by
  have := len_bes zs zs.length
  simp [frame, head, be]; omega

set_option maxHeartbeats 2000000 in
theorem expect_any (w : World) (pv : Value) (ps : List Int) (typ : Int) (dv : Value) (ds : List Int) (av : Value) (zs : List Int)
    (hp : Reads w w.heap.size .u8 pv ps) (hd : Reads w w.heap.size .u8 dv ds) (ha : Reads w w.heap.size .u32 av zs)
    (hz : ∀ z ∈ zs, 0 ≤ z ∧ z ≤ 4294967295) (hpl : ps.length ≤ 10000) (hdl : ds.length ≤ 1024) (hzl : zs.length ≤ 256) :
    Calls Yba.prog 8 #[pv, .int .u8 typ, dv, av] w fun e w' => ∃ sv', e = .returned sv' ∧ Own w' 5 sv' (U (ps ++ frame typ ds zs)) ∧ Step w (.slice none 0 0) w' sv' := by
  have HP : Hid (Reads w w.heap.size .u8 pv ps) := hp
  have HD : Hid (Reads w w.heap.size .u8 dv ds) := hd
  have HA : Hid (Reads w w.heap.size .u32 av zs) := ha
  have HZ : Hid (∀ z ∈ zs, 0 ≤ z ∧ z ≤ 4294967295) := hz
  obtain ⟨pa, pcap, rfl⟩ := hp.len
  obtain ⟨da, dcap, rfl⟩ := hd.len
  obtain ⟨aa, acap, rfl⟩ := ha.len
  obtain ⟨i5, hi5, hz5, hs5, hb5⟩ := info_parts info5
  have HI : Hid (Yba.prog.info? 5 = some i5) := hi5
  have HI2 : Hid (i5.zero = some (.int .u8 0)) := hz5
  have HI3 : Hid (i5.size = 1) := hs5
  have HI4 : Hid (i5.bytes = 1) := hb5
  clear hp hd ha hz hi5 hz5 hs5 hb5
  have hN : ∀ k, (Value.slice none 0 0).ownBlock = some k → w.heap.size ≤ k := fun k hk => by simp [Value.ownBlock] at hk
  have HN : Hid (∀ k, (Value.slice none 0 0).ownBlock = some k → w.heap.size ≤ k) := hN
  clear hN
  go_enter Yba.func8, Yba.ntmps8
  go_wp2_with (first
    | (at_make
       refine wpList_make_own _ rfl _ _ 22 rfl 0 5 i5 (.int .u8 0) 1 Yba.underlying22 HI.out HI2.out HI3.out .i64 .i64 _ (ps.length + 5 + 4 * zs.length + ds.length) rfl rfl ?e1 ?e2 ?e3 ?e4 ?_
       case e1 => omega
       case e2 => rw [HI4.out]; omega
       case e3 => simp only [maxLen]; omega
       case e4 => exact Nat.zero_le _
       intro w1 h1 h2
       have H1 : Hid (Own w1 5 (.slice (some ⟨w.heap.size, 0, none⟩) 0 (ps.length + 5 + 4 * zs.length + ds.length)) (U [])) := h1
       have H2 : Hid (Step w (.slice none 0 0) w1 (.slice (some ⟨w.heap.size, 0, none⟩) 0 (ps.length + 5 + 4 * zs.length + ds.length))) := ⟨h2, .inr ⟨w.heap.size, rfl, Nat.le_refl _⟩⟩
       clear h1 h2)
    | (at_builtin
       refine step_append rfl (.tmp 22) (.tmp 23) 22 22 rfl 5 (.int .u8 0) 1 Yba.underlying22 info5 rfl _ (U []) rfl H1.out (.slice pa ps.length pcap) ?e3 ps.length (U ps) ?e4 ?e5 ?e6 ?_
       case e3 => rfl
       case e4 => exact (HP.out.below (H2.out.below HN.out (Nat.le_refl _))).src Yba.underlying22
       case e5 => exact (bound_append (by simp) (by omega)).1
       case e6 => exact (bound_append (by simp) (by omega)).2
       intro sv2 w2 h1 h2
       have H3 : Hid (Own w2 5 sv2 (U ps)) := h1
       have H4 : Hid (Step w (.slice none 0 0) w2 sv2) := H2.out.trans h2
       clear h1 h2)
    | (at_builtin
       refine step_append rfl (.tmp 35) (.tmp 37) 22 22 rfl 5 (.int .u8 0) 1 Yba.underlying22 info5 rfl sv3 (U (ps ++ be (1 + 4 * (zs.length : Int) + ds.length))) ?e1 ?e2 (.slice (some ⟨w3.heap.size, 0, none⟩) 1 1) ?e3 1 (U [typ]) ?e4 ?e5 ?e6 ?_
       case e1 => rfl
       case e2 => exact H5.out.alloc _
       case e3 => rfl
       case e4 => exact src_one w3 typ
       case e5 => exact (bound_append (by simp [be]; omega) (by decide)).1
       case e6 => exact (bound_append (by simp [be]; omega) (by decide)).2
       intro sv4 w4 h1 h2
       have H7 : Hid (Own w4 5 sv4 (U (ps ++ be (1 + 4 * (zs.length : Int) + ds.length) ++ [typ]))) := by rw [← U_append]; exact h1
       have H8 : Hid (Step w (.slice none 0 0) w4 sv4) := (H6.out.alloc _).trans h2
       clear h1 h2)
    | (go_at_call 17
       refine (zbe_any _ sv2 ps _ H3.out (by omega) (by omega) (by omega)).mono ?_
       rintro e w3 ⟨sv3, rfl, h1, h2⟩
       have H5 : Hid (Own w3 5 sv3 (U (ps ++ be (1 + 4 * (zs.length : Int) + ds.length)))) := h1
       have H6 : Hid (Step w (.slice none 0 0) w3 sv3) := H4.out.trans h2
       clear h1 h2))
  go_loopw [9, 10] (fun b i wr => ∃ (k : Nat) (svk : Value), k ≤ zs.length ∧ b = svk ∧ i = .int .i64 k ∧ Own wr 5 svk (U (ps ++ be (1 + 4 * (zs.length : Int) + ds.length) ++ [typ] ++ bes zs k)) ∧ Step w (.slice none 0 0) wr svk) (fun _ i _ => zs.length - (intOf i).toNat)
  case atStart => exact ⟨0, sv4, Nat.zero_le _, rfl, rfl, by rw [bes_zero, List.append_nil]; exact H7.out, H8.out⟩
  case round =>
    obtain ⟨k, svk, hk, rfl, rfl, ho, hst⟩ := hrel
    have hlb := len_bes zs k
    have HK : Hid (Own wr 5 u9 (U (ps ++ be (1 + 4 * (zs.length : Int) + ds.length) ++ [typ] ++ bes zs k))) := ho
    have HT : Hid (Step w (.slice none 0 0) wr u9) := hst
    clear ho hst H1 H2 H3 H4 H5 H6 H7 H8
    by_cases hlt : k < zs.length
    · have hrr := HA.out.below (HT.out.below HN.out (Nat.le_refl _))
      rcases hrr with ⟨h0, _⟩ | ⟨b, o, cap', he, hbB, hc⟩
      · rw [h0] at hlt; exact absurd hlt (Nat.not_lt_zero _)
      · simp only [Value.slice.injEq, true_and] at he
        obtain ⟨rfl, rfl⟩ := he
        have hck := hc k hlt
        have hzk : 0 ≤ zs.getD k 0 ∧ zs.getD k 0 ≤ 4294967295 := by
          have : zs.getD k 0 ∈ zs := by simp [List.getD, hlt]
          exact HZ.out _ this
        obtain ⟨hz0, hz1⟩ := hzk
        have HB : Hid (bes zs (k + 1) = bes zs k ++ be (zs.getD k 0)) := bes_succ zs k hlt
        generalize zs.getD k 0 = z at *
        clear hc
        go_wp2_with (go_at_call 17
                     refine (zbe_any _ u9 _ z HK.out hz0 hz1 (by simp [be]; omega)).mono ?_
                     rintro e w5 ⟨sv5, rfl, h1, h2⟩
                     have H9 : Hid (Own w5 5 sv5 (U (ps ++ be (1 + 4 * (zs.length : Int) + ds.length) ++ [typ] ++ bes zs k ++ be z))) := h1
                     have H10 : Hid (Step wr u9 w5 sv5) := h2
                     clear h1 h2)
        go_roundw
        case rel => exact ⟨k + 1, sv5, by omega, rfl, by go_num, by rw [HB.out, ← List.append_assoc]; exact H9.out, HT.out.trans H10.out⟩
        case measure => simp [intOf]; omega
    · have hkk : k = zs.length := by omega
      subst hkk
      go_wp2_with (at_builtin
                   refine step_append rfl (.tmp 51) (.tmp 52) 22 22 rfl 5 (.int .u8 0) 1 Yba.underlying22 info5 rfl u9 _ ?e1 HK.out (.slice da ds.length dcap) ?e3 ds.length (U ds) ?e4 ?e5 ?e6 ?_
                   case e1 => rfl
                   case e3 => rfl
                   case e4 => exact (HD.out.below (HT.out.below HN.out (Nat.le_refl _))).src Yba.underlying22
                   case e5 => exact (bound_append (by simp [be]; omega) (by omega)).1
                   case e6 => exact (bound_append (by simp [be]; omega) (by omega)).2
                   intro sv6 w6 h1 h2
                   have H11 : Hid (Own w6 5 sv6 (U (ps ++ be (1 + 4 * (zs.length : Int) + ds.length) ++ [typ] ++ bes zs zs.length ++ ds))) := by rw [← U_append]; exact h1
                   have H12 : Hid (Step w (.slice none 0 0) w6 sv6) := HT.out.trans h2
                   clear h1 h2)
      go_ret
      exact ⟨sv6, rfl, by have := H11.out; simpa [frame, head, List.append_assoc] using this, H12.out⟩
end Go.Proofs.Ybulkrxe
