import Derived.Test.YbulkrvoReplaced
namespace Go.Proofs.Ybulkrvo
open Go.Proofs Go.RowKit
open Extern.Stop (cell)
set_option maxRecDepth 100000

theorem teks_first (l : Int) (h : 1 ≤ l) : (teks l)[0]? = some (.int .u32 0) := by
  unfold teks madeCells
  have h26 : 0 < l.toNat * 26 := by omega
  rw [Array.getElem?_map, Array.getElem?_range, if_pos h26]
  rfl

theorem keys_first (b : Nat) (l : Int) : (keys b l)[0]? = some (.slice (some ⟨b, 0, none⟩) l.toNat l.toNat) := by
  unfold keys
  exact get_splice_in (o := 0) (by rw [size46]; simp) 0 (by simp)
theorem keysAt_first (b : Nat) (l : Int) (xs : List UInt8) (h : xs.length = 16) : (keysAt b l xs)[0]? = some (.slice (some ⟨b, 0, none⟩) l.toNat l.toNat) := by
  unfold keysAt
  rw [get_splice_before (by rw [size_keys]; simp [size_arr, h]) 0 (by decide)]
  exact keys_first b l
theorem keysAt_spi (b : Nat) (l : Int) (xs : List UInt8) (h : xs.length = 16) (j : Nat) (hj : j < 16) : (keysAt b l xs)[1 + j]? = (arr xs).toList[j]? := by
  unfold keysAt
  exact get_splice_in (by rw [size_keys]; simp [size_arr, h]) j (by simp [size_arr, h, hj])
theorem groupAt_keys (b : Nat) : (groupAt b)[6]? = some (.pointer (some ⟨b, 0, none⟩)) := by
  unfold groupAt
  exact get_splice_in (o := 6) (by rw [size66]; simp) 0 (by simp)
theorem size_pull0 (b : Nat) : (splice Z53 0 [.pointer (some ⟨b, 0, none⟩)]).size = 50 := by rw [size_splice (by rw [size53]; simp), size53]
theorem pullAt_group (b : Nat) (K : Array Value) (hK : K.size = 33) : (pullAt b K)[0]? = some (.pointer (some ⟨b, 0, none⟩)) := by
  unfold pullAt
  rw [get_splice_before (by rw [size_pull0]; simp [hK]) 0 (by decide)]
  exact get_splice_in (o := 0) (by rw [size53]; simp) 0 (by simp)
theorem pullAt_keys (b : Nat) (K : Array Value) (hK : K.size = 33) (j : Nat) (hj : j < 33) : (pullAt b K)[4 + j]? = K[j]? := by
  unfold pullAt
  rw [get_splice_in (by rw [size_pull0]; simp [hK]) j (by simp [hK, hj])]
  simp

/-- What 'replaced' reads, out of the blocks that the pull left. -/
structure Reads (w : World) (s : Nat) (xs ys : List UInt8) (l1 l2 : Int) : Prop where
  h1 : w.cell? ⟨s + 7, 0, none⟩ = some (.pointer (some ⟨s + 6, 0, none⟩))
  h2 : w.cell? ⟨s + 6, 6, none⟩ = some (.pointer (some ⟨s + 3, 0, none⟩))
  h3 : w.rangeAt (s + 3) 1 (arr xs).toList
  h4 : w.rangeAt (s + 7) 5 (arr ys).toList
  h5 : w.cell? ⟨s + 3, 0, none⟩ = some (.slice (some ⟨s + 2, 0, none⟩) l1.toNat l1.toNat)
  h6 : w.cell? ⟨s + 7, 4, none⟩ = some (.slice (some ⟨s + 4, 0, none⟩) l2.toNat l2.toNat)
  h9 : w.cell? ⟨s + 2, 0, none⟩ = some (.int .u32 0)
  h10 : w.cell? ⟨s + 4, 0, none⟩ = some (.int .u32 0)

theorem reads_of {w W : World} {xs ys : List UInt8} {l1 l2 : Int} (h : Blocks w W (left w.heap.size xs ys l1 l2)) (hxs : xs.length = 16) (hys : ys.length = 16) (g1 : 1 ≤ l1) (g2 : 1 ≤ l2) : Reads W w.heap.size xs ys l1 l2 := by
  have hK := size_keysAt (w.heap.size + 4) l2 ys hys
  refine ⟨?_, ?_, ?_, ?_, ?_, ?_, ?_, ?_⟩
  · rw [h.cell 7 _ _ rfl 0]; exact pullAt_group _ _ hK
  · rw [h.cell 6 _ _ rfl 6]; exact groupAt_keys _
  · intro j v hj
    rw [h.cell 3 _ _ rfl (1 + j)]
    have hl : j < 16 := by have := (List.getElem?_eq_some_iff.1 hj).1; simpa [size_arr, hxs] using this
    rw [keysAt_spi _ _ _ hxs j hl]; exact hj
  · intro j v hj
    rw [h.cell 7 _ _ rfl (5 + j)]
    have hl : j < 16 := by have := (List.getElem?_eq_some_iff.1 hj).1; simpa [size_arr, hys] using this
    rw [show 5 + j = 4 + (1 + j) by omega, pullAt_keys _ _ hK (1 + j) (by omega), keysAt_spi _ _ _ hys j hl]; exact hj
  · rw [h.cell 3 _ _ rfl 0]; exact keysAt_first _ _ _ hxs
  · rw [h.cell 7 _ _ rfl 4, pullAt_keys _ _ hK 0 (by decide)]; exact keysAt_first _ _ _ hys
  · rw [h.cell 2 _ _ rfl 0]; exact teks_first _ g1
  · rw [h.cell 4 _ _ rfl 0]; exact teks_first _ g2

section
variable {P : Program} {ops : Array Oper} {rest : List Oper} {op : Oper} {a : Act} {W : World} {Q : Exit → Act → World → Prop}
theorem step_neq (hgd : Region.wanted op (yielded ops a.tmps) = true) (t e : TypeId) (x y : Operand) (u : TypeId) (ho : op.op = .binOp .neq t x y u) (xs ys : List UInt8) (n : Nat) (hx : a.eval x = .agg (arr xs)) (hy : a.eval y = .agg (arr ys))
    (ht : P.underlying t = some (.array n e)) (he : P.underlying e = some (.int .u8)) (hsz : ∀ w, (sizeOf e).run P w = .ok 1 w) (hxs : xs.length = n) (hys : ys.length = n) (hm : P.eqGuardType P.depth t = false)
    (h : wpList P ops Q rest (a.put op.dst (.bool (!(xs == ys)))) W) : wpList P ops Q (op :: rest) a W := by
  refine wpList_value hgd (v := .bool (!(xs == ys))) (W' := W) ?_ h
  unfold execOp
  simp only [ho, hx, hy, Sem.run_bind, run_eqGuard_agg W .neq t x y _ _ hm, Result.andThen_ok, run_neq_struct]
  unfold arr
  rw [run_equalIn_bytes W 9998 t e n ht he hsz xs ys hxs hys]
  rfl
end

set_option maxHeartbeats 1000000 in
theorem law_same (xs ys : List UInt8) (hxs : xs.length = 16) (hys : ys.length = 16) (n m : Int) (w : World) (hn0 : 0 ≤ n) (hn1 : n ≤ 255) (hm0 : 0 ≤ m) (hm1 : m ≤ 255) :
    Calls Yba.prog 3 #[.agg (arr xs), .agg (arr ys), .bool true, .int .u8 n, .int .u8 m] w fun e w' => e = .returned (.bool true) ∧ Below w.heap.size w w' := by
  have hb := Blocks.refl w
  have HX : Hid (xs.length = 16) := hxs
  have HY : Hid (ys.length = 16) := hys
  have HX22 : Hid ((Yba.prog.info? 22).map (·.size) = some (arr xs).size) := isize22 xs hxs
  have HY22 : Hid ((Yba.prog.info? 22).map (·.size) = some (arr ys).size) := isize22 ys hys
  clear hxs hys
  go_enter Yba.func3, Yba.ntmps3
  go_wp2_with (first
    | (refine step_box hb rfl 22 (.tmp 0) rfl (arr xs) ?e1 0 ?e2 ?_
       case e1 => rfl
       case e2 => rfl
       clear hb; intro W hb; simp only [List.nil_append] at hb)
    | (refine step_box hb rfl 22 (.tmp 1) rfl (arr ys) ?e1 1 ?e2 ?_
       case e1 => rfl
       case e2 => rfl
       clear hb; intro W hb; simp only [List.cons_append, List.nil_append] at hb)
    | (refine step_load hb rfl 22 (.tmp 5) rfl (w.heap.size + 0) 0 0 rfl ?e1 (arr xs) 22 ?e2 (arr xs) (extract_all rfl) _ Yba.underlying22 rfl ?e3 ?_
       case e1 => rfl
       case e2 => rfl
       case e3 => exact HX22.out)
    | (refine step_load hb rfl 22 (.tmp 6) rfl (w.heap.size + 1) 0 1 rfl ?e1 (arr ys) 22 ?e2 (arr ys) (extract_all rfl) _ Yba.underlying22 rfl ?e3 ?_
       case e1 => rfl
       case e2 => rfl
       case e3 => exact HY22.out)
    | (go_at_call 5
       refine (pull_same xs ys HX.out HY.out n m W hn0 hn1 hm0 hm1).mono ?_
       rintro e W2 ⟨rfl, hb2⟩
       have HB := Blocks.trans hb hb2
       have hr := reads_of hb2 HX.out HX.out (by omega) (by omega)
       clear hb hb2)
    | (go_at_call 6
       refine (replaced_none W2 _ _ _ _ _ _ _ _ _ xs xs HX.out HX.out (by simp) hr.h1 hr.h2 hr.h3 hr.h4 hr.h5 hr.h6 (by omega) (by omega) hr.h9 hr.h10).mono ?_
       rintro e W3 ⟨rfl, nq, rfl⟩))
  go_ret
  exact ⟨rfl, (HB.drewN nq).below⟩

set_option maxHeartbeats 1000000 in
theorem law_like (xs ys : List UInt8) (hxs : xs.length = 16) (hys : ys.length = 16) (hne : (xs == ys) = true) (n m : Int) (w : World) (hn0 : 0 ≤ n) (hn1 : n ≤ 255) (hm0 : 0 ≤ m) (hm1 : m ≤ 255) :
    Calls Yba.prog 3 #[.agg (arr xs), .agg (arr ys), .bool false, .int .u8 n, .int .u8 m] w fun e w' => e = .returned (.bool true) ∧ Below w.heap.size w w' := by
  have hb := Blocks.refl w
  have HX : Hid (xs.length = 16) := hxs
  have HY : Hid (ys.length = 16) := hys
  have HX22 : Hid ((Yba.prog.info? 22).map (·.size) = some (arr xs).size) := isize22 xs hxs
  have HY22 : Hid ((Yba.prog.info? 22).map (·.size) = some (arr ys).size) := isize22 ys hys
  clear hxs hys
  go_enter Yba.func3, Yba.ntmps3
  go_wp2_with (first
    | (refine step_box hb rfl 22 (.tmp 0) rfl (arr xs) ?e1 0 ?e2 ?_
       case e1 => rfl
       case e2 => rfl
       clear hb; intro W hb; simp only [List.nil_append] at hb)
    | (refine step_box hb rfl 22 (.tmp 1) rfl (arr ys) ?e1 1 ?e2 ?_
       case e1 => rfl
       case e2 => rfl
       clear hb; intro W hb; simp only [List.cons_append, List.nil_append] at hb)
    | (refine step_load hb rfl 22 (.tmp 5) rfl (w.heap.size + 0) 0 0 rfl ?e1 (arr xs) 22 ?e2 (arr xs) (extract_all rfl) _ Yba.underlying22 rfl ?e3 ?_
       case e1 => rfl
       case e2 => rfl
       case e3 => exact HX22.out)
    | (refine step_load hb rfl 22 (.tmp 6) rfl (w.heap.size + 1) 0 1 rfl ?e1 (arr ys) 22 ?e2 (arr ys) (extract_all rfl) _ Yba.underlying22 rfl ?e3 ?_
       case e1 => rfl
       case e2 => rfl
       case e3 => exact HY22.out)
    | (go_at_call 5
       refine (pull_other xs ys HX.out HY.out n m W hn0 hn1 hm0 hm1).mono ?_
       rintro e W2 ⟨rfl, hb2⟩
       have hb := Blocks.trans hb hb2
       have hr := reads_of hb2 HX.out HY.out (by omega) (by omega)
       clear hb2)
    | (refine step_neq rfl 22 5 (.tmp 23) (.tmp 24) 22 rfl xs ys 16 ?e1 ?e2 Yba.underlying22 Yba.underlying5 one5 HX.out HY.out eqGuard22 ?_
       case e1 => rfl
       case e2 => rfl
       rw [hne])
    | (go_at_call 6
       refine (replaced_none W2 _ _ _ _ _ _ _ _ _ xs ys HX.out HY.out hne hr.h1 hr.h2 hr.h3 hr.h4 hr.h5 hr.h6 (by omega) (by omega) hr.h9 hr.h10).mono ?_
       rintro e W3 ⟨rfl, nq, rfl⟩))
  go_ret
  exact ⟨rfl, (hb.drewN nq).below⟩

set_option maxHeartbeats 1000000 in
theorem law_unlike (xs ys : List UInt8) (hxs : xs.length = 16) (hys : ys.length = 16) (hne : (xs == ys) = false) (n m : Int) (w : World) (hn0 : 0 ≤ n) (hn1 : n ≤ 255) (hm0 : 0 ≤ m) (hm1 : m ≤ 255) :
    Calls Yba.prog 3 #[.agg (arr xs), .agg (arr ys), .bool false, .int .u8 n, .int .u8 m] w fun e w' => e = .returned (.bool true) ∧ Below w.heap.size w w' := by
  have hb := Blocks.refl w
  have HX : Hid (xs.length = 16) := hxs
  have HY : Hid (ys.length = 16) := hys
  have HX22 : Hid ((Yba.prog.info? 22).map (·.size) = some (arr xs).size) := isize22 xs hxs
  have HY22 : Hid ((Yba.prog.info? 22).map (·.size) = some (arr ys).size) := isize22 ys hys
  clear hxs hys
  go_enter Yba.func3, Yba.ntmps3
  go_wp2_with (first
    | (refine step_box hb rfl 22 (.tmp 0) rfl (arr xs) ?e1 0 ?e2 ?_
       case e1 => rfl
       case e2 => rfl
       clear hb; intro W hb; simp only [List.nil_append] at hb)
    | (refine step_box hb rfl 22 (.tmp 1) rfl (arr ys) ?e1 1 ?e2 ?_
       case e1 => rfl
       case e2 => rfl
       clear hb; intro W hb; simp only [List.cons_append, List.nil_append] at hb)
    | (refine step_load hb rfl 22 (.tmp 5) rfl (w.heap.size + 0) 0 0 rfl ?e1 (arr xs) 22 ?e2 (arr xs) (extract_all rfl) _ Yba.underlying22 rfl ?e3 ?_
       case e1 => rfl
       case e2 => rfl
       case e3 => exact HX22.out)
    | (refine step_load hb rfl 22 (.tmp 6) rfl (w.heap.size + 1) 0 1 rfl ?e1 (arr ys) 22 ?e2 (arr ys) (extract_all rfl) _ Yba.underlying22 rfl ?e3 ?_
       case e1 => rfl
       case e2 => rfl
       case e3 => exact HY22.out)
    | (go_at_call 5
       refine (pull_other xs ys HX.out HY.out n m W hn0 hn1 hm0 hm1).mono ?_
       rintro e W2 ⟨rfl, hb2⟩
       have hb := Blocks.trans hb hb2
       have hr := reads_of hb2 HX.out HY.out (by omega) (by omega)
       clear hb2)
    | (refine step_neq rfl 22 5 (.tmp 23) (.tmp 24) 22 rfl xs ys 16 ?e1 ?e2 Yba.underlying22 Yba.underlying5 one5 HX.out HY.out eqGuard22 ?_
       case e1 => rfl
       case e2 => rfl
       rw [hne])
    | (go_at_call 6
       refine (replaced_kek W2 _ _ _ xs ys HX.out HY.out hne hr.h1 hr.h2 hr.h3 hr.h4).mono ?_
       rintro e W3 ⟨rfl, nq, rfl⟩))
  go_ret
  exact ⟨rfl, (hb.drewN nq).below⟩

/-- THE WALK: whatever the two arrays, the flag and the two bytes. -/
theorem law_any (xs ys : List UInt8) (hxs : xs.length = 16) (hys : ys.length = 16) (same : Bool) (n m : Int) (w : World) (hn0 : 0 ≤ n) (hn1 : n ≤ 255) (hm0 : 0 ≤ m) (hm1 : m ≤ 255) :
    Calls Yba.prog 3 #[.agg (arr xs), .agg (arr ys), .bool same, .int .u8 n, .int .u8 m] w fun e w' => e = .returned (.bool true) ∧ Below w.heap.size w w' := by
  cases same with
  | true => exact law_same xs ys hxs hys n m w hn0 hn1 hm0 hm1
  | false =>
    cases hne : (xs == ys) with
    | true => exact law_like xs ys hxs hys hne n m w hn0 hn1 hm0 hm1
    | false => exact law_unlike xs ys hxs hys hne n m w hn0 hn1 hm0 hm1
end Go.Proofs.Ybulkrvo
