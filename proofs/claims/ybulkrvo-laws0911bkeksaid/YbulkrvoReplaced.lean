import Derived.Test.YbulkrvoPull
import Derived.Deep.QuietTactic
import Derived.BigQuiet
namespace Go.Proofs.Ybulkrvo
open Go.Proofs Go.RowKit
open Extern.Stop (cell)
set_option maxRecDepth 100000

section
variable {P : Program} {ops : Array Oper} {C : World → Prop} {Q : Act → Prop} {a : Act} {o : Oper} {rest : List Oper}
theorem quiet_value (hw : Region.wanted o (yielded ops a.tmps) = true) (v : Value) (h : ∀ W, C W → (execOp a.eval o).run P W = .ok (.value v) W) (hk : wpQuiet P ops C Q rest (a.put o.dst v)) :
    wpQuiet P ops C Q (o :: rest) a :=
  wpQuiet_step fun K hK => by
    rw [if_pos hw]
    exact ⟨v, fun W hW => by unfold Oper.quietAt; rw [h W hW]; exact ⟨rfl, rfl⟩, hK _ hk⟩

/-- A row is loaded, in a region that only reads. -/
theorem quiet_load {w : World} (hC : C = fun w' => ∃ n, w' = w.drewN n) (hw : Region.wanted o (yielded ops a.tmps) = true) (ty : TypeId) (x : Operand) (ho : o.op = .load ty x) (b off : Nat) (hx : a.eval x = .pointer (some ⟨b, off, none⟩))
    (cs : List Value) (hc : w.rangeAt b off cs) (d : TypeDesc) (hu : P.underlying ty = some d) (hd : d.isRow = true) (hs : (P.info? ty).map (·.size) = some cs.length)
    (hk : wpQuiet P ops C Q rest (a.put o.dst (.agg cs.toArray))) : wpQuiet P ops C Q (o :: rest) a := by
  subst hC
  refine quiet_value hw (.agg cs.toArray) ?_ hk
  rintro W ⟨n, rfl⟩
  have hr : (w.drewN n).rangeAt b off cs := hc
  unfold execOp
  simp only [ho, hx, Sem.run_bind, run_loadAt_mid (w.drewN n) b off ty cs d hr hu hd hs, Result.andThen_ok, Sem.run_pure]

/-- Two arrays of bytes, unlike or like. -/
theorem quiet_neq (hw : Region.wanted o (yielded ops a.tmps) = true) (t e : TypeId) (x y : Operand) (u : TypeId) (ho : o.op = .binOp .neq t x y u) (xs ys : List UInt8) (n : Nat) (hx : a.eval x = .agg (arr xs)) (hy : a.eval y = .agg (arr ys))
    (ht : P.underlying t = some (.array n e)) (he : P.underlying e = some (.int .u8)) (hsz : ∀ w, (sizeOf e).run P w = .ok 1 w) (hxs : xs.length = n) (hys : ys.length = n) (hm : P.eqGuardType P.depth t = false)
    (hk : wpQuiet P ops C Q rest (a.put o.dst (.bool (!(xs == ys))))) : wpQuiet P ops C Q (o :: rest) a := by
  refine quiet_value hw (.bool (!(xs == ys))) ?_ hk
  intro W _
  unfold execOp
  simp only [ho, hx, hy, Sem.run_bind, run_eqGuard_agg W .neq t x y _ _ hm, Result.andThen_ok, run_neq_struct]
  unfold arr
  rw [run_equalIn_bytes W 9998 t e n ht he hsz xs ys hxs hys]
  rfl
end

theorem eqGuard22 : Yba.prog.eqGuardType Yba.prog.depth 22 = false := by kernel_rfl
theorem one5 (w : World) : (Go.sizeOf 5).run Yba.prog w = .ok 1 w := Yba.sizeOf5 w

set_option maxHeartbeats 1000000 in
theorem replaced_kek (w : World) (pb gb kb : Nat) (xs ys : List UInt8) (hxs : xs.length = 16) (hys : ys.length = 16) (hne : (xs == ys) = false)
    (h1 : w.cell? ⟨pb, 0, none⟩ = some (.pointer (some ⟨gb, 0, none⟩))) (h2 : w.cell? ⟨gb, 6, none⟩ = some (.pointer (some ⟨kb, 0, none⟩)))
    (h3 : w.rangeAt kb 1 (arr xs).toList) (h4 : w.rangeAt pb 5 (arr ys).toList) :
    Calls Yba.prog 6 #[.pointer (some ⟨pb, 0, none⟩)] w fun e w' => e = .returned (.string ⟨#[75, 69, 75]⟩) ∧ ∃ n, w' = w.drewN n := by
  have H3 : Hid (w.rangeAt kb 1 (arr xs).toList) := h3
  have H4 : Hid (w.rangeAt pb 5 (arr ys).toList) := h4
  have HX : Hid (xs.length = 16) := hxs
  have HY : Hid (ys.length = 16) := hys
  clear h3 h4 hxs hys
  go_enter Yba.func6, Yba.ntmps6
  go_wp2_with fail
  refine wp_region_quiet_lit (by kernel_rfl) (by kernel_rfl) ?_
  repeat (first
    | (refine quiet_load (w := w) rfl rfl 22 (.tmp 15) rfl kb 1 ?e1 (arr xs).toList H3.out _ Yba.underlying22 rfl ?e2 ?_
       case e1 => rfl
       case e2 => simp [size_arr, HX.out, info22])
    | (refine quiet_load (w := w) rfl rfl 22 (.tmp 21) rfl pb 5 ?e1 (arr ys).toList H4.out _ Yba.underlying22 rfl ?e2 ?_
       case e1 => rfl
       case e2 => simp [size_arr, HY.out, info22])
    | (refine quiet_neq rfl 22 5 (.tmp 16) (.tmp 22) 22 rfl xs ys 16 ?e1 ?e2 Yba.underlying22 Yba.underlying5 one5 HX.out HY.out eqGuard22 ?_
       case e1 => rfl
       case e2 => rfl
       rw [hne])
    | go_big_quiet_step (fail)
    | quiet_step (fail))
  refine wpQuiet_nil ?_
  intro _ hw'
  obtain ⟨nq, hw''⟩ := hw'
  subst hw''
  go_wp2
  go_ret
  exact ⟨rfl, nq, rfl⟩

set_option maxHeartbeats 1000000 in
theorem replaced_none (w : World) (pb gb kb t1 t2 l1 c1 l2 c2 : Nat) (xs ys : List UInt8) (hxs : xs.length = 16) (hys : ys.length = 16) (hne : (xs == ys) = true)
    (h1 : w.cell? ⟨pb, 0, none⟩ = some (.pointer (some ⟨gb, 0, none⟩))) (h2 : w.cell? ⟨gb, 6, none⟩ = some (.pointer (some ⟨kb, 0, none⟩)))
    (h3 : w.rangeAt kb 1 (arr xs).toList) (h4 : w.rangeAt pb 5 (arr ys).toList)
    (h5 : w.cell? ⟨kb, 0, none⟩ = some (.slice (some ⟨t1, 0, none⟩) l1 c1)) (h6 : w.cell? ⟨pb, 4, none⟩ = some (.slice (some ⟨t2, 0, none⟩) l2 c2)) (h7 : 0 < l1) (h8 : 0 < l2)
    (h9 : w.cell? ⟨t1, 0, none⟩ = some (.int .u32 0)) (h10 : w.cell? ⟨t2, 0, none⟩ = some (.int .u32 0)) :
    Calls Yba.prog 6 #[.pointer (some ⟨pb, 0, none⟩)] w fun e w' => e = .returned (.string ⟨#[]⟩) ∧ ∃ n, w' = w.drewN n := by
  have H3 : Hid (w.rangeAt kb 1 (arr xs).toList) := h3
  have H4 : Hid (w.rangeAt pb 5 (arr ys).toList) := h4
  have HX : Hid (xs.length = 16) := hxs
  have HY : Hid (ys.length = 16) := hys
  clear h3 h4 hxs hys
  go_enter Yba.func6, Yba.ntmps6
  go_wp2_with fail
  refine wp_region_quiet_lit (by kernel_rfl) (by kernel_rfl) ?_
  repeat (first
    | (refine quiet_load (w := w) rfl rfl 22 (.tmp 15) rfl kb 1 ?e1 (arr xs).toList H3.out _ Yba.underlying22 rfl ?e2 ?_
       case e1 => rfl
       case e2 => simp [size_arr, HX.out, info22])
    | (refine quiet_load (w := w) rfl rfl 22 (.tmp 21) rfl pb 5 ?e1 (arr ys).toList H4.out _ Yba.underlying22 rfl ?e2 ?_
       case e1 => rfl
       case e2 => simp [size_arr, HY.out, info22])
    | (refine quiet_neq rfl 22 5 (.tmp 16) (.tmp 22) 22 rfl xs ys 16 ?e1 ?e2 Yba.underlying22 Yba.underlying5 one5 HX.out HY.out eqGuard22 ?_
       case e1 => rfl
       case e2 => rfl
       rw [hne])
    | go_big_quiet_step (fail)
    | quiet_step (fail))
  refine wpQuiet_nil ?_
  intro _ hw'
  obtain ⟨n0, hw''⟩ := hw'
  subst hw''
  go_wp2_with fail
  go_quiet (fail)
  go_wp2
  go_ret
  exact ⟨rfl, n0 + nq, by rw [World.drewN_drewN]⟩
end Go.Proofs.Ybulkrvo
