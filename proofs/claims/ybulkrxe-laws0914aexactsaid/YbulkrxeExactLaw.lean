import Derived.Test.YbulkrxeTakeLaw
import Derived.Deep.RegionLaw
import Derived.Deep.RegionWith
import Derived.Deep.CutRange
import Derived.Laws.Cover3
namespace Go.Proofs.Ybulkrxe
open Go.Proofs Go.RowKit Go.Conc Go.MuLone
set_option maxRecDepth 100000

theorem wpn_seq_k {P : Program} {Q : Exit → Act → World → Prop} {a : Act} {w : World} {x y : Code} (h : ∀ K : Act → World → Prop, (∀ a w, wpn P y Q a w → K a w) → x.wp P (Exit.then K Q) a w) : wpn P (.seq x y) Q a w :=
  wpn_seq (wpn_of_wp (h _ fun _ _ h => h))

theorem len_chan (w : World) (cb cap : Nat) (buf : Array Value) (cl : Bool) (s r : Nat) (h : w.heap[cb]? = some (.chan cap buf cl s r false)) : (Builtin.len_ #[25] 3 #[.chan (some cb)]).run Yba.prog w = .ok (.int .i64 buf.size) w := by
  have hg : (getObj cb).run Yba.prog w = .ok (.chan cap buf cl s r false) w := by simp [getObj, Sem.run, h]
  simp [Builtin.len_, hg, goInt]
theorem slice_nil (w : World) : (binOp .neq 33 (.slice none 0 0) (.slice none 0 0)).run Yba.prog w = .ok (.bool false) w := by
  simp only [binOp]
  simp [run_equal_slice_nil w 33 41 none 0 0 Yba.underlying33]

/-- The append in a region that draws its order. -/
theorem draw_append {P : Program} {ops : Array Oper} {op : Oper} {a : Act} {w : World} {K : Act → World → Prop} {Q : Exit → Act → World → Prop} {E : Prop} (hg : op.guard = none) (s x : Operand) (t tx : TypeId) (ho : op.op = .call { callee := .builtin .append, args := #[s, x], argTypes := #[t, tx] })
    (e : TypeId) (z : Value) (bytes : Nat) (ht : P.underlying t = some (.slice e)) (hi : (P.info? e).map (fun i => (i.zero, i.size, i.bytes)) = some (some z, 1, bytes)) (hz : z.cells.size = 1)
    (sv : Value) (xs : List Value) (hs : a.eval s = sv) (hown : Own w e sv xs) (xv : Value) (hx : a.eval x = xv) (m : Nat) (news : List Value) (hsrc : Src P 1 tx xv m news w) (h63 : xs.length + m ≤ maxLen) (hbytes : (xs.length + m) * bytes ≤ 140737488355328)
    (h : ∀ sv' w', Own w' e sv' (xs ++ news) → Step w sv w' sv' → K (a.put op.dst sv') w') : if Region.wanted op (yielded ops a.tmps) = true then op.wp P a w K Q else E := by
  have hw : Region.wanted op (yielded ops a.tmps) = true := by simp [Region.wanted, hg]
  rw [if_pos hw]
  obtain ⟨sv', w', hr, h1, h2⟩ := run_append_step (P := P) w t tx op.type e z bytes ht hi hz sv xs hown xv m news hsrc h63 hbytes
  unfold Oper.wp
  rw [exec_append s x t tx ho hs hx hr]
  exact h sv' w' h1 h2

/-- The outbox as the law makes it: its messages 'ps' in a row of its own. The channel first, then the row. -/
theorem outbox_of {W : World} {B cb : Nat} {sv : Value} {asked : Int} (hc : ∃ s r, W.heap[cb]? = some (.chan 1 #[] false s r false)) (hB : B ≤ cb) (hBW : B ≤ W.heap.size) (hsv : ∀ k, sv.ownBlock = some k → k < W.heap.size) (hne : sv.ownBlock ≠ some cb) :
    Outbox (W.alloc (.cells #[.int .i32 0, .int .u32 0, sv, .int .i64 asked, .slice none 0 0, .chan (some cb)] 35)) B W.heap.size cb 0 sv asked #[] := by
  obtain ⟨s, r, hc⟩ := hc
  have hlt : cb < W.heap.size := (Array.getElem?_eq_some_iff.1 hc).1
  exact ⟨heap_alloc_new _ _, ⟨s, r, by rw [Go.RowKit.Below.heap_alloc _ _ _ hlt]; exact hc⟩, by omega, fun e => by have := hsv _ e; omega, hne, hBW, hB⟩

set_option maxHeartbeats 2000000 in
theorem exact_true (w : World) (pv : Value) (ps : List Int) (typ : Int) (dv : Value) (ds : List Int) (av : Value) (zs : List Int) (asked : Int)
    (hp : Reads w w.heap.size .u8 pv ps) (hd : Reads w w.heap.size .u8 dv ds) (ha : Reads w w.heap.size .u32 av zs)
    (hz : ∀ z ∈ zs, 0 ≤ z ∧ z ≤ 4294967295) (l1 : ps.length ≤ 1024) (l2 : ds.length ≤ 1024) (l3 : zs.length ≤ 256) :
    Calls Yba.prog 3 #[pv, .int .u8 typ, dv, av, .int .i64 asked, .bool true] w fun e w' => e = .returned (.bool true) ∧ Below w.heap.size w w' := by
  have HP : Hid (Reads w w.heap.size .u8 pv ps) := hp
  have HD : Hid (Reads w w.heap.size .u8 dv ds) := hd
  have HA : Hid (Reads w w.heap.size .u32 av zs) := ha
  have HZ : Hid (∀ z ∈ zs, 0 ≤ z ∧ z ≤ 4294967295) := hz
  obtain ⟨pa, pc, rfl⟩ := hp.len
  obtain ⟨da, dc, rfl⟩ := hd.len
  obtain ⟨aa, ac, rfl⟩ := ha.len
  clear hp hd ha hz
  refine calls_of_wpn Yba.func3 rfl ?_
  simp only [Yba.ntmps3, List.size_toArray, List.length_cons, List.length_nil, Nat.reduceAdd, Nat.reduceSub, Array.replicate_succ, Array.replicate_zero, List.push_toArray, List.append_toArray, List.nil_append, List.cons_append]
  refine wpn_seq (wpn_of_wp ?_)
  go_wp2
  refine wpn_seq (wpn_of_wp ?_)
  go_wp2
  refine wpn_seq_k (fun K hK => ?_)
  have HM := chan_made
  go_cut [13] from 27 to 32 (fun o w' => ∃ (ob cb : Nat) (sv : Value), o = .pointer (some ⟨ob, 0, none⟩) ∧ Outbox w' w.heap.size ob cb 0 sv asked #[] ∧ Own w' 5 sv (U ps) ∧ (∀ k, sv.ownBlock = some k → w.heap.size ≤ k) ∧ Below w.heap.size w w')
  case first =>
    go_region_law (refine draw_append rfl (.const (.slice none 0 0)) (.tmp 27) 22 22 rfl 5 (.int .u8 0) 1 Yba.underlying22 info5 rfl (.slice none 0 0) [] rfl (Own.nil _ 5) (.slice pa ps.length pc) rfl ps.length (U ps) (by first | exact (HP.out.below (Below.refl _ _).drew).src Yba.underlying22 | exact (HP.out.below (((Below.refl _ _).alloc (Nat.le_refl _) _).drew)).src Yba.underlying22) (bound_append (xs := []) (by simp) (by omega)).1 (bound_append (xs := []) (by simp) (by omega)).2 ?_; intro sv1 w1 h1 h2; simp only [List.nil_append] at h1; obtain ⟨a1, c1, rfl⟩ := h1.len)
    all_goals go_wp2
    all_goals walk_nrm
    · have hb1 : Below w.heap.size w w1 := ((Below.refl _ w).drew).trans (h2.below (fun k hk => by simp [Value.ownBlock] at hk) (Nat.le_refl _))
      have hs1 : ∀ k, (Value.slice a1 (U ps).length c1).ownBlock = some k → w.heap.size ≤ k := h2.since (fun k hk => by simp [Value.ownBlock] at hk) (Nat.le_refl _)
      have hsz : (w1.alloc (.chan 1 #[] false 0 0 false)).heap.size = w1.heap.size + 1 := by simp
      have ho : Outbox ((w1.alloc (.chan 1 #[] false 0 0 false)).alloc (.cells #[.int .i32 0, .int .u32 0, .slice a1 (U ps).length c1, .int .i64 asked, .slice none 0 0, .chan (some w1.heap.size)] 35)) w.heap.size (w1.heap.size + 1) w1.heap.size 0 (.slice a1 (U ps).length c1) asked #[] := by
        have := outbox_of (W := w1.alloc (.chan 1 #[] false 0 0 false)) (B := w.heap.size) (cb := w1.heap.size) (sv := .slice a1 (U ps).length c1) (asked := asked) ⟨0, 0, heap_alloc_new _ _⟩ hb1.size (by rw [hsz]; have := hb1.size; omega) (fun k hk => by rw [hsz]; have := h1.lt k hk; omega) (fun e => by have := h1.lt _ e; omega)
        rwa [hsz] at this
      go_meet
      case rel => exact ⟨w1.heap.size + 1, w1.heap.size, .slice a1 (U ps).length c1, rfl, ho, (h1.alloc _).alloc _, hs1, (hb1.alloc hb1.size _).alloc (by rw [hsz]; have := hb1.size; omega) _⟩
    · have hb0 : Below w.heap.size w (w.alloc (.chan 1 #[] false 0 0 false)).drew := ((Below.refl _ w).alloc (Nat.le_refl _) _).drew
      have hbb := h2.below (B := (w.alloc (.chan 1 #[] false 0 0 false)).drew.heap.size) (fun k hk => by simp [Value.ownBlock] at hk) (Nat.le_refl _)
      have hsz : (w.alloc (.chan 1 #[] false 0 0 false)).drew.heap.size = w.heap.size + 1 := by simp
      rw [hsz] at hbb
      have hb1 : Below w.heap.size w w1 := hb0.trans (hbb.mono (by omega))
      have hs1 : ∀ k, (Value.slice a1 (U ps).length c1).ownBlock = some k → w.heap.size + 1 ≤ k := by
        have := h2.since (B := (w.alloc (.chan 1 #[] false 0 0 false)).drew.heap.size) (fun k hk => by simp [Value.ownBlock] at hk) (Nat.le_refl _)
        rwa [hsz] at this
      have hcb : w1.heap[w.heap.size]? = some (.chan 1 #[] false 0 0 false) := by
        rw [hbb.block _ (by omega)]; exact heap_alloc_new w _
      have ho := outbox_of (W := w1) (B := w.heap.size) (cb := w.heap.size) (sv := .slice a1 (U ps).length c1) (asked := asked) ⟨0, 0, hcb⟩ (Nat.le_refl _) hb1.size h1.lt (fun e => by have := hs1 _ e; omega)
      go_meet
      case rel => exact ⟨w1.heap.size, w.heap.size, .slice a1 (U ps).length c1, rfl, ho, h1.alloc _, fun k hk => by have := hs1 k hk; omega, hb1.alloc hb1.size _⟩
  case rest =>
    obtain ⟨ob, cb, sv, rfl, ho, hn, hs, hb⟩ := hcut
    refine hK _ _ ?_
    clear hK K HM
    refine wpn_seq ?_
    refine wpn_seq (wpn_of_wp ?_)
    go_wp2
    refine wpn_cond (t := true) rfl ?_
    simp only [if_true]
    refine wpn_region ?_
    simp only [List.size_toArray, List.length_cons, List.length_nil, Nat.reduceAdd, List.range, List.range.loop]
    have hq : wc.cell? ⟨ob, 5, none⟩ = some (.chan (some cb)) := by rw [cell_of_heap ho.blk]; rfl
    obtain ⟨s0, r0, hc⟩ := ho.chan
    have ht := touch_setChan wc cb 1 #[.agg #[]] false (s0 + 1) r0 false
    refine opn_value rfl rfl (v := .pointer (some ⟨ob, 0, none⟩)) (w' := wc) (by simp [go_sem]) ?_
    walk_nrm
    refine opn_value rfl rfl (v := .pointer (some ⟨ob, 0, none⟩)) (w' := wc) (by simp [go_sem]) ?_
    walk_nrm
    refine opn_value rfl rfl (v := .pointer (some ⟨ob, 5, none⟩)) (w' := wc) (by simp [go_sem]) ?_
    walk_nrm
    refine opn_value rfl rfl (v := .chan (some cb)) (w' := wc) (by simp [go_sem, hq]) ?_
    walk_nrm
    refine opn_value rfl rfl (v := .agg #[]) (w' := wc) (by simp [go_sem]) ?_
    walk_nrm
    refine opn_send rfl rfl (.tmp 37) (.tmp 38) rfl (c := cb) (cap := 1) (buf := #[]) (v := .agg #[]) rfl rfl hc (by simp) ?_
    refine opn_end ?_
    refine wpn_of_wp ?_
    walk_nrm
    have ho1 : Outbox (wc.setChan cb 1 #[.agg #[]] false (s0 + 1) r0 false) w.heap.size ob cb 0 sv asked #[.agg #[]] :=
      ⟨by rw [ht.other ob ho.ne]; exact ho.blk, ⟨s0 + 1, r0, heap_setChan wc cb 1 _ false (s0 + 1) r0 false ho.lt2⟩, ho.ne, ho.ap1, ho.ap2, ho.lb1, ho.lb2⟩
    have hn1 := hn.touch ht ho.ap2
    have hb1 := hb.trans (ht.below ho.lb2)
    generalize wc.setChan cb 1 #[.agg #[]] false (s0 + 1) r0 false = W1 at ho1 hn1 hb1 ⊢
    obtain ⟨buf1, hbuf, ho1⟩ : ∃ buf1, (buf1 = #[] ∨ buf1 = #[.agg #[]]) ∧ Outbox W1 w.heap.size ob cb 0 sv asked buf1 := ⟨_, .inr rfl, ho1⟩
    clear ht hc hq ho hn hb
    have HO1 : Hid (Outbox W1 w.heap.size ob cb 0 sv asked buf1) := ho1
    have HN1 : Hid (Own W1 5 sv (U ps)) := hn1
    have HB1 : Hid (Below w.heap.size w W1) := hb1
    have HS1 : Hid (∀ k, sv.ownBlock = some k → w.heap.size ≤ k) := hs
    have HF1 : Hid (buf1 = #[] ∨ buf1 = #[.agg #[]]) := hbuf
    clear ho1 hn1 hb1 hs hbuf
    go_wp2_with fail
    refine (queue_any W1 w.heap.size ob cb sv asked buf1 ps typ _ ds _ zs HO1.out HF1.out HN1.out HB1.out.size HS1.out (HD.out.below HB1.out) (HA.out.below HB1.out) HZ.out l2 l3 (by omega)).mono ?_
    rintro e W2 ⟨rfl, sv2, o2, n2, s2, b2⟩
    have HO2 : Hid (Outbox W2 w.heap.size ob cb 0 sv2 asked #[.agg #[]]) := o2
    have HN2 : Hid (Own W2 5 sv2 (U (ps ++ frame typ ds zs))) := n2
    have HB2 : Hid (Below w.heap.size w W2) := HB1.out.trans b2
    have c2 : W2.cell? ⟨ob, 2, none⟩ = some sv2 := by rw [cell_of_heap o2.blk]; rfl
    have c3 : W2.cell? ⟨ob, 3, none⟩ = some (.int .i64 asked) := by rw [cell_of_heap o2.blk]; rfl
    have c4 : W2.cell? ⟨ob, 4, none⟩ = some (.slice none 0 0) := by rw [cell_of_heap o2.blk]; rfl
    have c5 : W2.cell? ⟨ob, 5, none⟩ = some (.chan (some cb)) := by rw [cell_of_heap o2.blk]; rfl
    obtain ⟨s9, r9, hc9⟩ := o2.chan
    have hlen := len_chan W2 cb 1 #[.agg #[]] false s9 r9 hc9
    have hnn := slice_nil W2
    clear o2 n2 s2 b2 HO1 HN1 HB1 HS1 HF1 hc9
    go_wp2_with fail
    clear c3 c4 c5 hlen hnn
    have HBD : Hid (Below w.heap.size w W2.drew) := HB2.out.drew
    have HND : Hid (Own W2.drew 5 sv2 (U (ps ++ frame typ ds zs))) := HN2.out.drew
    have HLT : Hid (ob < W2.drew.heap.size) := HO2.out.lt1
    have HCD : Hid (W2.drew.cell? ⟨ob, 2, none⟩ = some sv2) := c2
    go_region_with (first
      | (go_at_call 8
         refine (expect_any W2.drew (.slice pa ps.length pc) ps typ (.slice da ds.length dc) ds (.slice aa zs.length ac) zs ((HP.out.below HBD.out).mono HBD.out.size) ((HD.out.below HBD.out).mono HBD.out.size) ((HA.out.below HBD.out).mono HBD.out.size) HZ.out (by omega) l2 l3).mono ?_
         rintro e W6 ⟨ev1, rfl, n6, s6⟩
         have hb6 : Below W2.drew.heap.size W2.drew W6 := s6.below (fun k hk => by simp [Value.ownBlock] at hk) (Nat.le_refl _)
         have HB6 : Hid (Below w.heap.size w W6) := HBD.out.trans (hb6.mono HBD.out.size)
         have HE6 : Hid (Own W6 5 ev1 (U (ps ++ frame typ ds zs))) := n6
         have HN6 : Hid (Own W6 5 sv2 (U (ps ++ frame typ ds zs))) := HND.out.same fun k hk => hb6.block k (HND.out.lt k hk)
         have c26 : W6.cell? ⟨ob, 2, none⟩ = some sv2 := by rw [hb6.cell (p := ⟨ob, 2, none⟩) HLT.out]; exact HCD.out
         clear n6 s6 hb6)
      | (go_at_call 7
         refine (equal_same W6 sv2 ev1 _ HN6.out HE6.out).mono ?_
         rintro e W8 ⟨rfl, rfl⟩))
    all_goals go_wp2
    all_goals go_ret
    all_goals exact ⟨rfl, HB6.out⟩

set_option maxHeartbeats 2000000 in
theorem exact_false (w : World) (pv : Value) (ps : List Int) (typ : Int) (dv : Value) (ds : List Int) (av : Value) (zs : List Int) (asked : Int)
    (hp : Reads w w.heap.size .u8 pv ps) (hd : Reads w w.heap.size .u8 dv ds) (ha : Reads w w.heap.size .u32 av zs)
    (hz : ∀ z ∈ zs, 0 ≤ z ∧ z ≤ 4294967295) (l1 : ps.length ≤ 1024) (l2 : ds.length ≤ 1024) (l3 : zs.length ≤ 256) :
    Calls Yba.prog 3 #[pv, .int .u8 typ, dv, av, .int .i64 asked, .bool false] w fun e w' => e = .returned (.bool true) ∧ Below w.heap.size w w' := by
  have HP : Hid (Reads w w.heap.size .u8 pv ps) := hp
  have HD : Hid (Reads w w.heap.size .u8 dv ds) := hd
  have HA : Hid (Reads w w.heap.size .u32 av zs) := ha
  have HZ : Hid (∀ z ∈ zs, 0 ≤ z ∧ z ≤ 4294967295) := hz
  obtain ⟨pa, pc, rfl⟩ := hp.len
  obtain ⟨da, dc, rfl⟩ := hd.len
  obtain ⟨aa, ac, rfl⟩ := ha.len
  clear hp hd ha hz
  refine calls_of_wpn Yba.func3 rfl ?_
  simp only [Yba.ntmps3, List.size_toArray, List.length_cons, List.length_nil, Nat.reduceAdd, Nat.reduceSub, Array.replicate_succ, Array.replicate_zero, List.push_toArray, List.append_toArray, List.nil_append, List.cons_append]
  refine wpn_seq (wpn_of_wp ?_)
  go_wp2
  refine wpn_seq (wpn_of_wp ?_)
  go_wp2
  refine wpn_seq_k (fun K hK => ?_)
  have HM := chan_made
  go_cut [13] from 27 to 32 (fun o w' => ∃ (ob cb : Nat) (sv : Value), o = .pointer (some ⟨ob, 0, none⟩) ∧ Outbox w' w.heap.size ob cb 0 sv asked #[] ∧ Own w' 5 sv (U ps) ∧ (∀ k, sv.ownBlock = some k → w.heap.size ≤ k) ∧ Below w.heap.size w w')
  case first =>
    go_region_law (refine draw_append rfl (.const (.slice none 0 0)) (.tmp 27) 22 22 rfl 5 (.int .u8 0) 1 Yba.underlying22 info5 rfl (.slice none 0 0) [] rfl (Own.nil _ 5) (.slice pa ps.length pc) rfl ps.length (U ps) (by first | exact (HP.out.below (Below.refl _ _).drew).src Yba.underlying22 | exact (HP.out.below (((Below.refl _ _).alloc (Nat.le_refl _) _).drew)).src Yba.underlying22) (bound_append (xs := []) (by simp) (by omega)).1 (bound_append (xs := []) (by simp) (by omega)).2 ?_; intro sv1 w1 h1 h2; simp only [List.nil_append] at h1; obtain ⟨a1, c1, rfl⟩ := h1.len)
    all_goals go_wp2
    all_goals walk_nrm
    · have hb1 : Below w.heap.size w w1 := ((Below.refl _ w).drew).trans (h2.below (fun k hk => by simp [Value.ownBlock] at hk) (Nat.le_refl _))
      have hs1 : ∀ k, (Value.slice a1 (U ps).length c1).ownBlock = some k → w.heap.size ≤ k := h2.since (fun k hk => by simp [Value.ownBlock] at hk) (Nat.le_refl _)
      have hsz : (w1.alloc (.chan 1 #[] false 0 0 false)).heap.size = w1.heap.size + 1 := by simp
      have ho : Outbox ((w1.alloc (.chan 1 #[] false 0 0 false)).alloc (.cells #[.int .i32 0, .int .u32 0, .slice a1 (U ps).length c1, .int .i64 asked, .slice none 0 0, .chan (some w1.heap.size)] 35)) w.heap.size (w1.heap.size + 1) w1.heap.size 0 (.slice a1 (U ps).length c1) asked #[] := by
        have := outbox_of (W := w1.alloc (.chan 1 #[] false 0 0 false)) (B := w.heap.size) (cb := w1.heap.size) (sv := .slice a1 (U ps).length c1) (asked := asked) ⟨0, 0, heap_alloc_new _ _⟩ hb1.size (by rw [hsz]; have := hb1.size; omega) (fun k hk => by rw [hsz]; have := h1.lt k hk; omega) (fun e => by have := h1.lt _ e; omega)
        rwa [hsz] at this
      go_meet
      case rel => exact ⟨w1.heap.size + 1, w1.heap.size, .slice a1 (U ps).length c1, rfl, ho, (h1.alloc _).alloc _, hs1, (hb1.alloc hb1.size _).alloc (by rw [hsz]; have := hb1.size; omega) _⟩
    · have hb0 : Below w.heap.size w (w.alloc (.chan 1 #[] false 0 0 false)).drew := ((Below.refl _ w).alloc (Nat.le_refl _) _).drew
      have hbb := h2.below (B := (w.alloc (.chan 1 #[] false 0 0 false)).drew.heap.size) (fun k hk => by simp [Value.ownBlock] at hk) (Nat.le_refl _)
      have hsz : (w.alloc (.chan 1 #[] false 0 0 false)).drew.heap.size = w.heap.size + 1 := by simp
      rw [hsz] at hbb
      have hb1 : Below w.heap.size w w1 := hb0.trans (hbb.mono (by omega))
      have hs1 : ∀ k, (Value.slice a1 (U ps).length c1).ownBlock = some k → w.heap.size + 1 ≤ k := by
        have := h2.since (B := (w.alloc (.chan 1 #[] false 0 0 false)).drew.heap.size) (fun k hk => by simp [Value.ownBlock] at hk) (Nat.le_refl _)
        rwa [hsz] at this
      have hcb : w1.heap[w.heap.size]? = some (.chan 1 #[] false 0 0 false) := by
        rw [hbb.block _ (by omega)]; exact heap_alloc_new w _
      have ho := outbox_of (W := w1) (B := w.heap.size) (cb := w.heap.size) (sv := .slice a1 (U ps).length c1) (asked := asked) ⟨0, 0, hcb⟩ (Nat.le_refl _) hb1.size h1.lt (fun e => by have := hs1 _ e; omega)
      go_meet
      case rel => exact ⟨w1.heap.size, w.heap.size, .slice a1 (U ps).length c1, rfl, ho, h1.alloc _, fun k hk => by have := hs1 k hk; omega, hb1.alloc hb1.size _⟩
  case rest =>
    obtain ⟨ob, cb, sv, rfl, ho, hn, hs, hb⟩ := hcut
    refine hK _ _ ?_
    clear hK K HM
    refine wpn_seq ?_
    refine wpn_seq (wpn_of_wp ?_)
    go_wp2
    refine wpn_cond (t := false) rfl ?_
    simp only [if_false, Bool.false_eq_true]
    refine wpn_of_wp ?_
    go_wp2
    refine wpn_of_wp ?_
    have ho1 := ho
    have hn1 := hn
    have hb1 := hb
    generalize wc = W1 at ho1 hn1 hb1 ⊢
    obtain ⟨buf1, hbuf, ho1⟩ : ∃ buf1, (buf1 = #[] ∨ buf1 = #[.agg #[]]) ∧ Outbox W1 w.heap.size ob cb 0 sv asked buf1 := ⟨_, .inl rfl, ho1⟩
    clear ho hn hb
    have HO1 : Hid (Outbox W1 w.heap.size ob cb 0 sv asked buf1) := ho1
    have HN1 : Hid (Own W1 5 sv (U ps)) := hn1
    have HB1 : Hid (Below w.heap.size w W1) := hb1
    have HS1 : Hid (∀ k, sv.ownBlock = some k → w.heap.size ≤ k) := hs
    have HF1 : Hid (buf1 = #[] ∨ buf1 = #[.agg #[]]) := hbuf
    clear ho1 hn1 hb1 hs hbuf
    go_wp2_with fail
    refine (queue_any W1 w.heap.size ob cb sv asked buf1 ps typ _ ds _ zs HO1.out HF1.out HN1.out HB1.out.size HS1.out (HD.out.below HB1.out) (HA.out.below HB1.out) HZ.out l2 l3 (by omega)).mono ?_
    rintro e W2 ⟨rfl, sv2, o2, n2, s2, b2⟩
    have HO2 : Hid (Outbox W2 w.heap.size ob cb 0 sv2 asked #[.agg #[]]) := o2
    have HN2 : Hid (Own W2 5 sv2 (U (ps ++ frame typ ds zs))) := n2
    have HB2 : Hid (Below w.heap.size w W2) := HB1.out.trans b2
    have c2 : W2.cell? ⟨ob, 2, none⟩ = some sv2 := by rw [cell_of_heap o2.blk]; rfl
    have c3 : W2.cell? ⟨ob, 3, none⟩ = some (.int .i64 asked) := by rw [cell_of_heap o2.blk]; rfl
    have c4 : W2.cell? ⟨ob, 4, none⟩ = some (.slice none 0 0) := by rw [cell_of_heap o2.blk]; rfl
    have c5 : W2.cell? ⟨ob, 5, none⟩ = some (.chan (some cb)) := by rw [cell_of_heap o2.blk]; rfl
    obtain ⟨s9, r9, hc9⟩ := o2.chan
    have hlen := len_chan W2 cb 1 #[.agg #[]] false s9 r9 hc9
    have hnn := slice_nil W2
    clear o2 n2 s2 b2 HO1 HN1 HB1 HS1 HF1 hc9
    go_wp2_with fail
    clear c3 c4 c5 hlen hnn
    have HBD : Hid (Below w.heap.size w W2.drew) := HB2.out.drew
    have HND : Hid (Own W2.drew 5 sv2 (U (ps ++ frame typ ds zs))) := HN2.out.drew
    have HLT : Hid (ob < W2.drew.heap.size) := HO2.out.lt1
    have HCD : Hid (W2.drew.cell? ⟨ob, 2, none⟩ = some sv2) := c2
    go_region_with (first
      | (go_at_call 8
         refine (expect_any W2.drew (.slice pa ps.length pc) ps typ (.slice da ds.length dc) ds (.slice aa zs.length ac) zs ((HP.out.below HBD.out).mono HBD.out.size) ((HD.out.below HBD.out).mono HBD.out.size) ((HA.out.below HBD.out).mono HBD.out.size) HZ.out (by omega) l2 l3).mono ?_
         rintro e W6 ⟨ev1, rfl, n6, s6⟩
         have hb6 : Below W2.drew.heap.size W2.drew W6 := s6.below (fun k hk => by simp [Value.ownBlock] at hk) (Nat.le_refl _)
         have HB6 : Hid (Below w.heap.size w W6) := HBD.out.trans (hb6.mono HBD.out.size)
         have HE6 : Hid (Own W6 5 ev1 (U (ps ++ frame typ ds zs))) := n6
         have HN6 : Hid (Own W6 5 sv2 (U (ps ++ frame typ ds zs))) := HND.out.same fun k hk => hb6.block k (HND.out.lt k hk)
         have c26 : W6.cell? ⟨ob, 2, none⟩ = some sv2 := by rw [hb6.cell (p := ⟨ob, 2, none⟩) HLT.out]; exact HCD.out
         clear n6 s6 hb6)
      | (go_at_call 7
         refine (equal_same W6 sv2 ev1 _ HN6.out HE6.out).mono ?_
         rintro e W8 ⟨rfl, rfl⟩))
    all_goals go_wp2
    all_goals go_ret
    all_goals exact ⟨rfl, HB6.out⟩
end Go.Proofs.Ybulkrxe
