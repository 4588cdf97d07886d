import Derived.Test.YbulkrziDoorFits
import Derived.Deep.RegionLaw
namespace Go.Proofs.YbulkrziDoor
open Go.Proofs Go.RowKit
set_option maxRecDepth 100000

/-- The nine cells of a 'pieces'. -/
def pcells (st rc : Int) (dv sv : Value) (size : Int) : Array Value := #[.int .i32 st, .int .u32 0, .int .u32 0, .int .u32 0, .int .i32 rc, .int .i32 0, dv, sv, .int .i64 size]

/-- A piece's row lies apart from the struct and from its two rows, since B. -/
def Apart (B pb : Nat) (dv sv v : Value) : Prop := ∀ k, v.ownBlock = some k → k ≠ pb ∧ dv.ownBlock ≠ some k ∧ sv.ownBlock ≠ some k ∧ B ≤ k

/-- A 'pieces' in memory, made by the call: the slices vs, their bytes ps, where they start. -/
structure Pieces (w : World) (B pb : Nat) (st rc : Int) (dv sv : Value) (vs : List Value) (ps : List (List Int)) (sts : List Int) : Prop where
  blk : w.heap[pb]? = some (.cells (pcells st rc dv sv ps.flatten.length) 50 (0, 0))
  data : Own w 26 dv vs
  starts : Own w 2 sv (I sts)
  vlen : vs.length = ps.length
  slen : sts.length = ps.length
  s0 : ∀ x, sts[0]? = some x → x = 0
  each : ∀ j, j < vs.length → Own w 5 (vs.getD j undef) (U (ps.getD j [])) ∧ Apart B pb dv sv (vs.getD j undef)
  pos : ∀ p ∈ ps, 0 < p.length
  ap1 : dv.ownBlock ≠ some pb
  ap2 : sv.ownBlock ≠ some pb
  ap3 : ∀ k, dv.ownBlock = some k → sv.ownBlock ≠ some k
  lb0 : B ≤ pb
  lb1 : ∀ k, dv.ownBlock = some k → B ≤ k
  lb2 : ∀ k, sv.ownBlock = some k → B ≤ k

theorem Pieces.lt {w : World} {B pb : Nat} {st rc : Int} {dv sv : Value} {vs : List Value} {ps : List (List Int)} {sts : List Int} (h : Pieces w B pb st rc dv sv vs ps sts) : pb < w.heap.size := (Array.getElem?_eq_some_iff.1 h.blk).1

/-- The blocks that belong to a 'pieces'. -/
def Of (pb : Nat) (dv sv : Value) (k : Nat) : Prop := k = pb ∨ dv.ownBlock = some k ∨ sv.ownBlock = some k

/-- What turns elsewhere leaves a 'pieces' as it was. -/
theorem Pieces.mut {w w' : World} {B pb : Nat} {st rc : Int} {dv sv : Value} {vs : List Value} {ps : List (List Int)} {sts : List Int} {S : Nat → Prop} (h : Pieces w B pb st rc dv sv vs ps sts) (hm : Mut w w' S)
    (h0 : ¬ S pb) (h1 : ∀ k, dv.ownBlock = some k → ¬ S k) (h2 : ∀ k, sv.ownBlock = some k → ¬ S k) (h3 : ∀ j, j < vs.length → ∀ k, (vs.getD j undef).ownBlock = some k → ¬ S k) : Pieces w' B pb st rc dv sv vs ps sts :=
  ⟨by rw [hm.block pb h.lt h0]; exact h.blk, h.data.mut hm h1, h.starts.mut hm h2, h.vlen, h.slen, h.s0, fun j hj => ⟨(h.each j hj).1.mut hm (h3 j hj), (h.each j hj).2⟩, h.pos, h.ap1, h.ap2, h.ap3, h.lb0, h.lb1, h.lb2⟩

/-- One value lies in the block that was made last. -/
theorem src_oneV (w : World) (v : Value) (h1 : v.oneCell' = true) (tx e' t : TypeId) (hk : Ybad.prog.underlying tx = some (.slice e')) : Src Ybad.prog 1 tx (.slice (some ⟨w.heap.size, 0, none⟩) 1 1) 1 [v] (w.alloc (.cells #[v] t (0, 0))) := by
  refine Src.ofSlice _ hk ⟨w.heap.size, 0, none⟩ 1 1 _ rfl ?_ (fun u hu => by simp at hu; subst hu; exact h1)
  intro j u hu
  rw [Addr.add_lit]
  have hj : j < 1 := by have := (List.getElem?_eq_some_iff.1 hu).1; simpa using this
  simp only [World.cell?, World.alloc, Array.getElem?_push_size]
  match j, hj with
  | 0, _ => simpa using hu

/-- The append in a region that draws its order. -/
theorem draw_append {P : Program} {ops : Array Oper} {op : Oper} {a : Act} {w : World} {K : Act → World → Prop} {Q : Exit → Act → World → Prop} {E : Prop} (hg : op.guard = none) (s x : Operand) (t tx : TypeId) (ho : op.op = .call { callee := .builtin .append, args := #[s, x], argTypes := #[t, tx] })
    (e : TypeId) (z : Value) (bytes : Nat) (ht : P.underlying t = some (.slice e)) (hi : (P.info? e).map (fun i => (i.zero, i.size, i.bytes)) = some (some z, 1, bytes)) (hz : z.cells.size = 1)
    (sv : Value) (xs : List Value) (hs : a.eval s = sv) (hown : Own w e sv xs) (xv : Value) (hx : a.eval x = xv) (m : Nat) (news : List Value) (hsrc : Src P 1 tx xv m news w) (h63 : xs.length + m ≤ maxLen) (hbytes : (xs.length + m) * bytes ≤ 140737488355328)
    (h : ∀ sv' w', Own w' e sv' (xs ++ news) → Step w sv w' sv' → K (a.put op.dst sv') w') : if Region.wanted op (yielded ops a.tmps) = true then op.wp P a w K Q else E := by
  have hw : Region.wanted op (yielded ops a.tmps) = true := by simp [Region.wanted, hg]
  rw [if_pos hw]
  obtain ⟨sv', w', hr, h1, h2⟩ := run_append_step (P := P) w t tx op.type e z bytes ht hi hz sv xs hown xv m news hsrc h63 hbytes
  unfold Oper.wp
  rw [exec_append s x t tx ho hs hx hr]
  exact h sv' w' h1 h2

set_option maxHeartbeats 2000000 in
/-- (*pieces).add of an empty slice. -/
theorem add_empty (w : World) (pb : Nat) (a : Option Addr) (n c : Nat) (hn : n = 0) :
    Calls Ybad.prog 9 #[.pointer (some ⟨pb, 0, none⟩), .slice a n c] w fun e w' => e = .returned (.tuple #[]) ∧ w' = w := by
  subst hn
  go_enter Ybad.func9, Ybad.ntmps9
  go_wp2
  refine bodyPost_ret (results_none rfl _ _ _) rfl ?_
  exact ⟨rfl, rfl⟩

/-- The pieces' own bookkeeping: what the two appends and the three stores of 'add' come to. -/
theorem pieces_add {w w2 w3 w4 w5 : World} {B pb : Nat} {dv sv dv2 sv2 : Value} {vs : List Value} {ps : List (List Int)} {sts : List Int} {bv : Value} {cs : List Int} {o1 o2 : Obj}
    (hP : Pieces w B pb 0 0 dv sv vs ps sts) (hB : B ≤ w.heap.size) (hb : Own w 5 bv (U cs)) (hba : Apart B pb dv sv bv) (hpos : 0 < cs.length)
    (h1 : Own w2 26 dv2 (vs ++ [bv])) (h2 : Step (w.alloc o1) dv w2 dv2) (t3 : Touch w2 w3 pb)
    (h3 : Own w4 2 sv2 (I sts ++ [.int .i64 ps.flatten.length])) (h4 : Step (w3.alloc o2).drew sv w4 sv2) (t5 : Touch w4 w5 pb)
    (b5 : w5.heap[pb]? = some (.cells (pcells 0 0 dv2 sv2 (ps.flatten.length + cs.length)) 50 (0, 0))) :
    Pieces w5 B pb 0 0 dv2 sv2 (vs ++ [bv]) (ps ++ [cs]) (sts ++ [(ps.flatten.length : Int)]) ∧ Mut w w5 (Of pb dv sv) ∧ (∀ k, dv2.ownBlock = some k → dv.ownBlock = some k ∨ w.heap.size ≤ k) ∧ (∀ k, sv2.ownBlock = some k → sv.ownBlock = some k ∨ w.heap.size ≤ k) := by
  have hs1 : (w.alloc o1).heap.size = w.heap.size + 1 := by simp
  have hs2 : (w3.alloc o2).drew.heap.size = w3.heap.size + 1 := by simp
  have sz2 : w.heap.size ≤ w2.heap.size := by have := h2.grown.size; omega
  have sz3 : w3.heap.size = w2.heap.size := t3.size
  have pl := hP.lt
  have pd : ∀ k, dv2.ownBlock = some k → dv.ownBlock = some k ∨ w.heap.size ≤ k := by
    intro k hk
    rcases h2.place with e | ⟨j, e, hj⟩
    · exact .inl (e ▸ hk)
    · rw [hk] at e; simp at e; exact .inr (by omega)
  have psv : ∀ k, sv2.ownBlock = some k → sv.ownBlock = some k ∨ w3.heap.size < k := by
    intro k hk
    rcases h4.place with e | ⟨j, e, hj⟩
    · exact .inl (e ▸ hk)
    · rw [hk] at e; simp at e; exact .inr (by omega)
  have m2 : Mut w w2 (Of pb dv sv) := ((Mut.refl w _).alloc o1).then h2.mut (fun k _ e => .inr (.inl e))
  have m3 : Mut w w3 (Of pb dv sv) := m2.then t3.mut (fun k _ e => .inl e)
  have m4 : Mut w w4 (Of pb dv sv) := ((m3.alloc o2).drew).then h4.mut (fun k _ e => .inr (.inr e))
  have m5 : Mut w w5 (Of pb dv sv) := m4.then t5.mut (fun k _ e => .inl e)
  have nd : dv2.ownBlock ≠ some pb := h2.apart (by omega) hP.ap1
  have ns : sv2.ownBlock ≠ some pb := h4.apart (by omega) hP.ap2
  have nds : ∀ k, dv2.ownBlock = some k → sv.ownBlock ≠ some k := by
    intro k hk hs
    rcases pd k hk with e | e
    · exact hP.ap3 k e hs
    · have := hP.starts.lt k hs; omega
  have eo : ∀ v zs, Own w 5 v (U zs) → Apart B pb dv sv v → Own w5 5 v (U zs) ∧ Apart B pb dv2 sv2 v := by
    intro v zs ho ha
    refine ⟨ho.mut m5 (fun k hk hO => ?_), fun k hk => ?_⟩
    · rcases hO with e | e | e
      · exact (ha k hk).1 e
      · exact (ha k hk).2.1 e
      · exact (ha k hk).2.2.1 e
    · have hlt := ho.lt k hk
      refine ⟨(ha k hk).1, fun e => ?_, fun e => ?_, (ha k hk).2.2.2⟩
      · rcases pd k e with e' | e'
        · exact (ha k hk).2.1 e'
        · omega
      · rcases psv k e with e' | e'
        · exact (ha k hk).2.2.1 e'
        · omega
  have hfl : (ps ++ [cs]).flatten.length = ps.flatten.length + cs.length := by simp
  refine ⟨⟨?_, ?_, ?_, ?_, ?_, ?_, ?_, ?_, nd, ns, ?_, hP.lb0, ?_, ?_⟩, m5, pd, fun k hk => ?_⟩
  · rw [hfl, Int.natCast_add]; exact b5
  · have a3 : Own w3 26 dv2 (vs ++ [bv]) := h1.mut t3.mut (fun k hk e => nd (by rw [hk, e]))
    have a4 : Own w4 26 dv2 (vs ++ [bv]) := (((a3.alloc o2).drew).mut h4.mut (fun k hk e => nds k hk e))
    exact a4.mut t5.mut (fun k hk e => nd (by rw [hk, e]))
  · have : Own w4 2 sv2 (I (sts ++ [(ps.flatten.length : Int)])) := by rw [← I_append]; exact h3
    exact this.mut t5.mut (fun k hk e => ns (by rw [hk, e]))
  · simp [hP.vlen]
  · simp [hP.slen]
  · intro x hx
    cases hst : sts with
    | nil =>
      have : ps.length = 0 := by rw [← hP.slen, hst]; rfl
      have hp0 : ps = [] := List.eq_nil_of_length_eq_zero this
      rw [hst, hp0] at hx
      simpa using hx.symm
    | cons a l =>
      rw [hst] at hx
      exact hP.s0 x (by rw [hst]; simpa using hx)
  · intro j hj
    by_cases hjn : j < vs.length
    · have e1 : (vs ++ [bv]).getD j undef = vs.getD j undef := by simp [List.getD, List.getElem?_append_left hjn]
      have e2 : (ps ++ [cs]).getD j [] = ps.getD j [] := by simp [List.getD, List.getElem?_append_left (show j < ps.length by have := hP.vlen; omega)]
      rw [e1, e2]
      exact eo _ _ (hP.each j hjn).1 (hP.each j hjn).2
    · have hjl : j = vs.length := by simp at hj; omega
      subst hjl
      have e1 : (vs ++ [bv]).getD vs.length undef = bv := by simp [List.getD]
      have e2 : (ps ++ [cs]).getD vs.length [] = cs := by rw [hP.vlen]; simp [List.getD]
      rw [e1, e2]
      exact eo _ _ hb hba
  · intro p hp
    simp at hp
    rcases hp with hp | rfl
    · exact hP.pos p hp
    · exact hpos
  · intro k hk hs
    rcases psv k hs with e | e
    · exact nds k hk e
    · have := h1.lt k hk; omega
  · exact h2.since hP.lb1 (by omega)
  · exact h4.since hP.lb2 (by have := m3.size; omega)
  · rcases psv k hk with e | e
    · exact .inl e
    · exact .inr (by omega)

set_option maxHeartbeats 4000000 in
theorem add_any (w : World) (B pb : Nat) (dv sv : Value) (vs : List Value) (ps : List (List Int)) (sts : List Int) (bv : Value) (cs : List Int)
    (hP : Pieces w B pb 0 0 dv sv vs ps sts) (hB : B ≤ w.heap.size) (hb : Own w 5 bv (U cs)) (hba : Apart B pb dv sv bv) (hpos : 0 < cs.length) (hn : ps.length ≤ 1000) (hf : ps.flatten.length ≤ 1000000000) (hcl : cs.length ≤ 1000000) :
    Calls Ybad.prog 9 #[.pointer (some ⟨pb, 0, none⟩), bv] w fun e w' => e = .returned (.tuple #[]) ∧ ∃ dv2 sv2, Pieces w' B pb 0 0 dv2 sv2 (vs ++ [bv]) (ps ++ [cs]) (sts ++ [(ps.flatten.length : Int)]) ∧ Mut w w' (Of pb dv sv) ∧
      (∀ k, dv2.ownBlock = some k → dv.ownBlock = some k ∨ w.heap.size ≤ k) ∧ (∀ k, sv2.ownBlock = some k → sv.ownBlock = some k ∨ w.heap.size ≤ k) := by
  have HP : Hid (Pieces w B pb 0 0 dv sv vs ps sts) := hP
  have HBO : Hid (Own w 5 bv (U cs)) := hb
  have HA : Hid (Apart B pb dv sv bv) := hba
  have HV : Hid (vs.length = ps.length) := hP.vlen
  have HSL : Hid (sts.length = ps.length) := hP.slen
  have HOD : Hid (Own w 26 dv vs) := hP.data
  have HOS : Hid (Own w 2 sv (I sts)) := hP.starts
  have HK : Hid (w.heap[pb]? = some (.cells (pcells 0 0 dv sv ps.flatten.length) 50 (0, 0))) := hP.blk
  have HPL : Hid (pb < w.heap.size) := hP.lt
  have H1a : Hid (dv.ownBlock ≠ some pb) := hP.ap1
  have H2a : Hid (sv.ownBlock ≠ some pb) := hP.ap2
  have H3a : Hid (∀ k, dv.ownBlock = some k → sv.ownBlock ≠ some k) := hP.ap3
  have c6 : w.cell? ⟨pb, 6, none⟩ = some dv := by rw [cell_of_heap hP.blk]; rfl
  obtain ⟨ba, bc, hbe⟩ := hb.len
  rw [len_U] at hbe
  subst hbe
  clear hP hb hba
  have hL0 : ∃ L, ps.flatten.length = L := ⟨_, rfl⟩
  obtain ⟨L, hL⟩ := hL0
  have HL : Hid (ps.flatten.length = L) := hL
  rw [hL] at hf
  have HKL : Hid (w.heap[pb]? = some (.cells (pcells 0 0 dv sv L) 50 (0, 0))) := by have := HK.out; rw [hL] at this; exact this
  clear hL HK
  go_enter Ybad.func9, Ybad.ntmps9
  go_wp2_with (first
    | (at_builtin
       refine step_append rfl (.tmp 11) (.tmp 13) 22 22 rfl 26 (.slice none 0 0) 24 Ybad.underlying22 infoS rfl dv vs ?e1 ?e2 (.slice (some ⟨w.heap.size, 0, none⟩) 1 1) ?e3 1 [.slice ba cs.length bc] ?e4 ?e5 ?e6 ?_
       case e1 => rfl
       case e2 => exact HOD.out.alloc _
       case e3 => rfl
       case e4 => exact src_oneV w _ rfl 22 26 26 Ybad.underlying22
       case e5 => have := HV.out; simp only [maxLen]; omega
       case e6 => have := HV.out; omega
       intro dv2 w2 h1 h2
       have G1 : Hid (Own w2 26 dv2 (vs ++ [.slice ba cs.length bc])) := h1
       have G2 : Hid (Step (w.alloc (.cells #[.slice ba cs.length bc] 26)) dv w2 dv2) := h2
       have hpl : pb < (w.alloc (.cells #[.slice ba cs.length bc] 26)).heap.size := by have := HPL.out; simp; omega
       have K2 : Hid (w2.heap[pb]? = some (.cells (pcells 0 0 dv sv L) 50 (0, 0))) := by
         show w2.heap[pb]? = _
         rw [h2.beside hpl H1a.out, Go.RowKit.Below.heap_alloc _ _ _ HPL.out]; exact HKL.out
       clear h1 h2 hpl c6)
    | (refine step_storeB rfl 22 (.tmp 16) (.tmp 14) rfl pb 6 ?e1 dv2 ?e2 ?e3 (pcells 0 0 dv sv L) 50 K2.out ?e4 sizeSS ?_
       case e1 => rfl
       case e2 => rfl
       case e3 => exact G1.out.one
       case e4 => simp [pcells]
       intro w3 k3 t3
       have K3 : Hid (w3.heap[pb]? = some (.cells (pcells 0 0 dv2 sv L) 50 (0, 0))) := k3
       have T3 : Hid (Touch w2 w3 pb) := t3
       have c7 : w3.cell? ⟨pb, 7, none⟩ = some sv := by rw [cell_of_heap k3]; rfl
       have c8 : w3.cell? ⟨pb, 8, none⟩ = some (.int .i64 L) := by rw [cell_of_heap k3]; rfl
       clear k3 t3))
  have OS3 : Hid (Own w3 2 sv (I sts)) := by
    have a2 : Own w2 2 sv (I sts) := (HOS.out.alloc _).mut G2.out.mut (fun k hk e => H3a.out k e hk)
    exact a2.mut T3.out.mut (fun k hk e => H2a.out (by rw [hk, e]))
  have PL3 : Hid (pb < w3.heap.size) := (Array.getElem?_eq_some_iff.1 K3.out).1
  have c7a : (w3.alloc (.cells #[.int .i64 L] 2)).cell? ⟨pb, 7, none⟩ = some sv := by rw [World.cell?_alloc_lt _ _ _ PL3.out]; exact c7
  go_region_law (refine draw_append rfl (.tmp 21) (.tmp 26) 48 48 rfl 2 (.int .i64 0) 8 Ybad.underlying48 info2 rfl sv (I sts) rfl (OS3.out.alloc _).drew (.slice (some ⟨w3.heap.size, 0, none⟩) 1 1) rfl 1 [.int .i64 L] (src_oneV w3.drew _ rfl 48 2 2 Ybad.underlying48) (by rw [len_I, HSL.out]; simp only [maxLen]; omega) (by rw [len_I, HSL.out]; omega) ?_
                 intro sv2 w4 h3 h4
                 have G3 : Hid (Own w4 2 sv2 (I sts ++ [.int .i64 L])) := h3
                 have G4 : Hid (Step (w3.alloc (.cells #[.int .i64 L] 2)).drew sv w4 sv2) := h4
                 have k4 : w4.heap[pb]? = some (.cells (pcells 0 0 dv2 sv L) 50 (0, 0)) := by
                   rw [h4.beside (by have := PL3.out; simp; omega) H2a.out]
                   exact (Go.RowKit.Below.heap_alloc _ _ _ PL3.out).trans K3.out
                 have K4 : Hid (w4.heap[pb]? = some (.cells (pcells 0 0 dv2 sv L) 50 (0, 0))) := k4
                 have c74 : w4.cell? ⟨pb, 7, none⟩ = some sv := by rw [cell_of_heap k4]; rfl
                 have f74 : w4.frozen? ⟨pb, 7, none⟩ = false := frozen_of_heap k4 7
                 have c84 : w4.cell? ⟨pb, 8, none⟩ = some (.int .i64 L) := by rw [cell_of_heap k4]; rfl
                 have f84 : w4.frozen? ⟨pb, 8, none⟩ = false := frozen_of_heap k4 8
                 obtain ⟨a4, c4, he4⟩ := h3.len
                 rw [show (I sts ++ [Value.int .i64 L]).length = (I sts).length + 1 from by simp] at he4
                 subst he4
                 clear h3 h4 k4)
  all_goals go_wp2
  all_goals go_end0
  all_goals
    refine ⟨rfl, dv2, .slice a4 ((I sts).length + 1) c4, ?_⟩
    refine pieces_add HP.out hB HBO.out HA.out hpos G1.out G2.out T3.out (by rw [HL.out]; exact G3.out) G4.out ((touch_setCell _ _ _ _).trans (touch_setCell _ _ _ _)) ?_
    rw [heap_setCell (heap_setCell K4.out), HL.out]
    rfl
end Go.Proofs.YbulkrziDoor
