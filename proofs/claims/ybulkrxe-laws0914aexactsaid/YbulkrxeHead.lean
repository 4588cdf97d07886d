import Derived.Test.YbulkrxeBe
namespace Go.Proofs.Ybulkrxe
open Go.Proofs Go.RowKit
set_option maxRecDepth 100000

/-- The first k numbers, each in its four bytes. -/
def bes (zs : List Int) (k : Nat) : List Int := (zs.take k).flatMap be
theorem bes_zero (zs : List Int) : bes zs 0 = [] := by simp [bes]
theorem bes_succ (zs : List Int) (k : Nat) (h : k < zs.length) : bes zs (k + 1) = bes zs k ++ be (zs.getD k 0) := by
  unfold bes
  rw [List.take_succ_eq_append_getElem h, List.flatMap_append]
  simp [List.getD, h]
theorem len_bes (zs : List Int) (k : Nat) : (bes zs k).length ≤ 4 * k := by
  unfold bes
  have : ∀ l : List Int, (l.flatMap be).length = 4 * l.length := by
    intro l
    induction l with
    | nil => rfl
    | cons a l ih => rw [List.flatMap_cons, List.length_append, ih]; simp [be]; omega
  rw [this, List.length_take]
  omega

/-- What a message's head is: its length, its type, its numbers. -/
def head (typ : Int) (n : Nat) (zs : List Int) : List Int := be (1 + 4 * (zs.length : Int) + n) ++ [typ] ++ bes zs zs.length

set_option maxHeartbeats 1000000 in
theorem head_any (w : World) (B : Nat) (sv : Value) (xs : List Int) (typ : Int) (n : Nat) (av : Value) (zs : List Int) (hown : Own w 5 sv (U xs)) (hB : B ≤ w.heap.size) (hs : ∀ k, sv.ownBlock = some k → B ≤ k)
    (hr : Reads w B .u32 av zs) (hz : ∀ z ∈ zs, 0 ≤ z ∧ z ≤ 4294967295) (hzl : zs.length ≤ 256) (hnl : n ≤ 1024) (hn : xs.length ≤ 100000) :
    Calls Yba.prog 14 #[sv, .int .u8 typ, .int .i64 n, av] w fun e w' => ∃ sv', e = .returned sv' ∧ Own w' 5 sv' (U (xs ++ head typ n zs)) ∧ Step w sv w' sv' := by
  have HO : Hid (Own w 5 sv (U xs)) := hown
  have HR : Hid (Reads w B .u32 av zs) := hr
  have HS : Hid (∀ k, sv.ownBlock = some k → B ≤ k) := hs
  have HZ : Hid (∀ z ∈ zs, 0 ≤ z ∧ z ≤ 4294967295) := hz
  obtain ⟨aa, cap, rfl⟩ := hr.len
  clear hown hs hr hz
  go_enter Yba.func14, Yba.ntmps14
  go_wp2_with (first
    | (go_at_call 21
       refine (au32_any _ sv xs _ HO.out (by omega) (by omega) (by omega)).mono ?_
       rintro e w1 ⟨sv1, rfl, h1, h2⟩
       have H1 : Hid (Own w1 5 sv1 (U (xs ++ be (1 + 4 * (zs.length : Int) + n)))) := h1
       have H2 : Hid (Step w sv w1 sv1) := h2
       clear h1 h2)
    | (at_builtin
       refine step_append rfl (.tmp 21) (.tmp 23) 22 22 rfl 5 (.int .u8 0) 1 Yba.underlying22 info5 rfl sv1 (U (xs ++ be (1 + 4 * (zs.length : Int) + n))) ?e1 ?e2 (.slice (some ⟨w1.heap.size, 0, none⟩) 1 1) ?e3 1 (U [typ]) ?e4 ?e5 ?e6 ?_
       case e1 => rfl
       case e2 => exact H1.out.alloc _
       case e3 => rfl
       case e4 => exact src_one w1 typ
       case e5 => exact (bound_append (by simp [be]; omega) (by decide)).1
       case e6 => exact (bound_append (by simp [be]; omega) (by decide)).2
       intro sv2 w2 h1 h2
       have H3 : Hid (Own w2 5 sv2 (U (xs ++ be (1 + 4 * (zs.length : Int) + n) ++ [typ]))) := by rw [← U_append]; exact h1
       have H4 : Hid (Step w sv w2 sv2) := (H2.out.alloc _).trans h2
       clear h1 h2))
  go_loopw [0, 27] (fun b i wr => ∃ (k : Nat) (svk : Value), k ≤ zs.length ∧ b = svk ∧ i = .int .i64 k ∧ Own wr 5 svk (U (xs ++ be (1 + 4 * (zs.length : Int) + n) ++ [typ] ++ bes zs k)) ∧ Step w sv wr svk) (fun _ i _ => zs.length - (intOf i).toNat)
  case atStart => exact ⟨0, sv2, Nat.zero_le _, rfl, rfl, by rw [bes_zero, List.append_nil]; exact H3.out, H4.out⟩
  case round =>
    obtain ⟨k, svk, hk, rfl, rfl, ho, hst⟩ := hrel
    have hlb := len_bes zs k
    have HK : Hid (Own wr 5 u0 (U (xs ++ be (1 + 4 * (zs.length : Int) + n) ++ [typ] ++ bes zs k))) := ho
    have HT : Hid (Step w sv wr u0) := hst
    clear ho hst H1 H2 H3 H4
    by_cases hlt : k < zs.length
    · have hrr := HR.out.below (HT.out.below HS.out hB)
      rcases hrr with ⟨h0, _⟩ | ⟨b, o, cap', he, hbB, hc⟩
      · rw [h0] at hlt; exact absurd hlt (Nat.not_lt_zero _)
      · simp only [Value.slice.injEq, true_and] at he
        obtain ⟨rfl, rfl⟩ := he
        have hck := hc k hlt
        have hzk : 0 ≤ zs.getD k 0 ∧ zs.getD k 0 ≤ 4294967295 := by
          have : zs.getD k 0 ∈ zs := by simp [List.getD, hlt]
          exact HZ.out _ this
        obtain ⟨hz0, hz1⟩ := hzk
        have HB : Hid (bes zs (k + 1) = bes zs k ++ be (zs.getD k 0)) := bes_succ zs k hlt
        generalize zs.getD k 0 = z at *
        clear hc
        go_wp2_with (go_at_call 21
                     refine (au32_any _ u0 _ z HK.out hz0 hz1 (by simp [be]; omega)).mono ?_
                     rintro e w3 ⟨sv3, rfl, h1, h2⟩
                     have H5 : Hid (Own w3 5 sv3 (U (xs ++ be (1 + 4 * (zs.length : Int) + n) ++ [typ] ++ bes zs k ++ be z))) := h1
                     have H6 : Hid (Step wr u0 w3 sv3) := h2
                     clear h1 h2)
        go_roundw
        case rel => exact ⟨k + 1, sv3, by omega, rfl, by go_num, by rw [HB.out, ← List.append_assoc]; exact H5.out, HT.out.trans H6.out⟩
        case measure => simp [intOf]; omega
    · have hkk : k = zs.length := by omega
      subst hkk
      go_wp2
      go_ret
      exact ⟨u0, rfl, by have := HK.out; simpa [head, List.append_assoc] using this, HT.out⟩
end Go.Proofs.Ybulkrxe
