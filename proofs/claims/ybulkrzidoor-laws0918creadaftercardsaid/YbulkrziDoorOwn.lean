/-
  A SLICE OF ONE-CELL ELEMENTS THAT THE CALL ITSELF MAKES AND APPENDS TO, AGAIN AND AGAIN, AMONG OTHER MEMORY OF THE CALL's OWN. 'Own w e sv xs': the value sv owns a row of elements of type e; its elements are xs. 'Step w sv w' sv'': from w to w' nothing older has turned but the row of sv; sv' is on the same row, or on a new one.
-/
import Derived.WalkKit
import Derived.Below
import Derived.Laws.AppendOwn
import Derived.Deep.AppendSrc
import Derived.Laws.CopyRow
namespace Go.Proofs.YbulkrziDoor
open Go Go.RowKit

def Own (w : World) (e : TypeId) (sv : Value) (xs : List Value) : Prop := w.ownsRow 0 e 1 sv xs.length xs

theorem Own.nil (w : World) (e : TypeId) : Own w e (.slice none 0 0) [] := World.ownsRow_nil w 0 e 1
theorem Own.alloc {w : World} {e : TypeId} {sv : Value} {xs : List Value} (h : Own w e sv xs) (o : Obj) : Own (w.alloc o) e sv xs := World.ownsRow.alloc h o
theorem Own.drew {w : World} {e : TypeId} {sv : Value} {xs : List Value} (h : Own w e sv xs) : Own w.drew e sv xs := h
theorem Own.same {w w' : World} {e : TypeId} {sv : Value} {xs : List Value} (h : Own w e sv xs) (hb : ∀ k, sv.ownBlock = some k → w'.heap[k]? = w.heap[k]?) : Own w' e sv xs := by
  refine ⟨h.1, ?_⟩
  rcases h.2 with hn | ⟨g, cap, cur, rfl, hb0, hg, rest⟩
  · exact .inl hn
  · exact .inr ⟨g, cap, cur, rfl, hb0, by rw [hb g rfl]; exact hg, rest⟩
theorem Own.lt {w : World} {e : TypeId} {sv : Value} {xs : List Value} (h : Own w e sv xs) : ∀ k, sv.ownBlock = some k → k < w.heap.size := fun k hk => (World.ownsRow.lt h k hk).2

structure Step (w : World) (sv : Value) (w' : World) (sv' : Value) : Prop where
  grown : w.grownBy w' sv.ownBlock
  place : sv'.ownBlock = sv.ownBlock ∨ ∃ k, sv'.ownBlock = some k ∧ w.heap.size ≤ k

theorem Step.refl (w : World) (sv : Value) : Step w sv w sv := ⟨World.grownBy.refl _ _, .inl rfl⟩
theorem Step.trans {w w1 w2 : World} {sv sv1 sv2 : Value} (h : Step w sv w1 sv1) (h2 : Step w1 sv1 w2 sv2) : Step w sv w2 sv2 := by
  refine ⟨⟨h2.grown.os.trans h.grown.os, h2.grown.tape.trans h.grown.tape, h2.grown.output.trans h.grown.output, Nat.le_trans h.grown.size h2.grown.size, ?_⟩, ?_⟩
  · intro k hk hne
    rw [h2.grown.block k (Nat.lt_of_lt_of_le hk h.grown.size) ?_, h.grown.block k hk hne]
    rcases h.place with e | ⟨j, e, hj⟩
    · rw [e]; exact hne
    · rw [e]; intro he; simp at he; omega
  · rcases h2.place with e | ⟨j, e, hj⟩
    · rcases h.place with e' | ⟨j', e', hj'⟩
      · exact .inl (e.trans e')
      · exact .inr ⟨j', e.trans e', hj'⟩
    · exact .inr ⟨j, e, Nat.le_trans h.grown.size hj⟩
theorem Step.alloc {w w' : World} {sv sv' : Value} (h : Step w sv w' sv') (o : Obj) : Step w sv (w'.alloc o) sv' := h.trans ⟨World.grownBy_alloc _ _ _, .inl rfl⟩
theorem Step.ofAlloc (w : World) (sv : Value) (o : Obj) : Step w sv (w.alloc o) sv := (Step.refl w sv).alloc o
theorem Step.drew {w w' : World} {sv sv' : Value} (h : Step w sv w' sv') : Step w sv w'.drew sv' := ⟨⟨h.grown.os, h.grown.tape, h.grown.output, h.grown.size, h.grown.block⟩, h.place⟩
/-- Where the row is since B, what lies below B has not turned. -/
theorem Step.below {w w' : World} {sv sv' : Value} (h : Step w sv w' sv') {B : Nat} (hs : ∀ k, sv.ownBlock = some k → B ≤ k) (hB : B ≤ w.heap.size) : Below B w w' :=
  ⟨h.grown.os, h.grown.tape, h.grown.output, h.grown.size, fun k hk => h.grown.block k (by omega) (fun e => by have := hs k e.symm; omega)⟩
theorem Step.since {w w' : World} {sv sv' : Value} (h : Step w sv w' sv') {B : Nat} (hs : ∀ k, sv.ownBlock = some k → B ≤ k) (hB : B ≤ w.heap.size) : ∀ k, sv'.ownBlock = some k → B ≤ k := by
  intro k hk
  rcases h.place with e | ⟨j, e, hj⟩
  · exact hs k (e ▸ hk)
  · rw [hk] at e; simp at e; omega
/-- A block beside the row. -/
theorem Step.beside {w w' : World} {sv sv' : Value} (h : Step w sv w' sv') {k : Nat} (hk : k < w.heap.size) (hne : sv.ownBlock ≠ some k) : w'.heap[k]? = w.heap[k]? := h.grown.block k hk (Ne.symm hne)
theorem Step.apart {w w' : World} {sv sv' : Value} (h : Step w sv w' sv') {k : Nat} (hk : k < w.heap.size) (hne : sv.ownBlock ≠ some k) : sv'.ownBlock ≠ some k := by
  rcases h.place with e | ⟨j, e, hj⟩
  · rw [e]; exact hne
  · rw [e]; intro he; simp at he; omega

theorem Own.len {w : World} {e : TypeId} {sv : Value} {xs : List Value} (h : Own w e sv xs) : ∃ a cap, sv = .slice a xs.length cap := by
  rcases h.2 with ⟨rfl, hn⟩ | ⟨g, cap, cur, rfl, _⟩
  · exact ⟨none, 0, by rw [hn]⟩
  · exact ⟨_, cap, rfl⟩

section
variable {P : Program}

/-- THE append: whatever is appended. -/
theorem run_append_step (w : World) (t tx ty e : TypeId) (z : Value) (bytes : Nat) (ht : P.underlying t = some (.slice e)) (hinfo : (P.info? e).map (fun i => (i.zero, i.size, i.bytes)) = some (some z, 1, bytes)) (hz : z.cells.size = 1)
    (sv : Value) (xs : List Value) (hown : Own w e sv xs) (x : Value) (m : Nat) (news : List Value) (hs : Src P 1 tx x m news w) (h63 : xs.length + m ≤ maxLen) (hbytes : (xs.length + m) * bytes ≤ 140737488355328) :
    ∃ sv' w', (Builtin.append_ #[t, tx] ty #[sv, x]).run P w = .ok sv' w' ∧ Own w' e sv' (xs ++ news) ∧ Step w sv w' sv' := by
  obtain ⟨i, hi, hz0, hsize, rfl⟩ := info_parts hinfo
  clear hinfo
  have hnl : news.length = m := by have := hs.newsLen; omega
  have hlen : (xs ++ news).length = (xs.length + m) := by rw [List.length_append, hnl]
  have hsmall : xs.length + m ≤ 9223372036854775807 := by simp only [maxLen] at h63; omega
  have hs' : Src P i.size tx x m news w := by rw [hsize]; exact hs
  have grown : ∀ (old : Nat), old < xs.length + m →
      Own (w.drew.alloc (.cells ((xs ++ news).toArray ++ Builtin.zeroCells z.cells (grownCap w (xs.length + m) old e - (xs.length + m))) e)) e
        (.slice (some ⟨w.heap.size, 0, none⟩) (xs.length + m) (grownCap w (xs.length + m) old e)) (xs ++ news) ∧
      Step w sv (w.drew.alloc (.cells ((xs ++ news).toArray ++ Builtin.zeroCells z.cells (grownCap w (xs.length + m) old e - (xs.length + m))) e)) (.slice (some ⟨w.heap.size, 0, none⟩) (xs.length + m) (grownCap w (xs.length + m) old e)) := by
    intro old ho
    have hge := grownCap_ge w (xs.length + m) old e
    have hcm : grownCap w (xs.length + m) old e ≤ maxLen := grownCap_le_maxLen w (xs.length + m) old e h63
    refine ⟨⟨by omega, .inr ⟨w.heap.size, _, _, by rw [hlen], Nat.zero_le _, _root_.Go.heap_alloc_new w.drew _, by rw [hlen]; exact hge, hcm, ?_, ?_⟩⟩, ⟨⟨rfl, rfl, rfl, by simp, fun k hk _ => _root_.Go.heap_alloc_old w.drew _ hk⟩, .inr ⟨w.heap.size, rfl, Nat.le_refl _⟩⟩⟩
    · simp only [Array.size_append, List.size_toArray, size_zeroCells, hz, hlen]
      omega
    · rw [hlen, Nat.mul_one, Array.toList_append, ← hlen]; exact List.take_left
  rcases hown.2 with ⟨rfl, hn⟩ | ⟨g, cap, cur, rfl, _, hg, hnc, hcm, hcs, htake⟩
  · have hx : xs = [] := List.eq_nil_of_length_eq_zero hn
    subst hx
    by_cases hm : m = 0
    · subst hm
      have hn : news = [] := List.eq_nil_of_length_eq_zero hnl
      subst hn
      refine ⟨.slice none 0 0, w, ?_, Own.nil w e, Step.refl _ _⟩
      rcases hs.kind with ⟨e', hk⟩ | hk <;> simp [Builtin.append_, run_underlying ht, run_underlying hk, sizeOf, typeInfo, hi, hs.len, hsize, hs.cells]
    · have hr := run_append_grow_src (P := P) w t tx ty e i z ht hi hz0 none 0 0 [] (by simp [Builtin.firstCells]) x m news hs' (by omega) (by have := hsmall; simp at this; omega) (growslice_fits (by omega) (by simpa using hbytes))
      have hgr := grown 0 (by simp; omega)
      simp only [List.length_nil, Nat.zero_add, List.nil_append] at hr hgr ⊢
      exact ⟨_, _, hr, hgr.1, hgr.2⟩
  · simp only [Nat.mul_one] at hcs htake
    by_cases hroom : xs.length + m ≤ cap
    · have hst := run_storeCells_at P g xs.length e news 0 cur w hg (by omega) hs.one
      simp only [Nat.add_zero] at hst
      have hr : (Builtin.append_ #[t, tx] ty #[.slice (some ⟨g, 0, none⟩) xs.length cap, x]).run P w = .ok (.slice (some ⟨g, 0, none⟩) (xs.length + m) cap) (w.setRow g (cur.toList.take xs.length ++ news ++ cur.toList.drop (xs.length + news.length)).toArray) := by
        rcases hs.kind with ⟨e', hk⟩ | hk <;> simp [Builtin.append_, run_underlying ht, run_underlying hk, sizeOf, typeInfo, hi, hsize, hs.len, hroom, hs.cells, Addr.add_lit, hst]
      refine ⟨_, _, hr, ⟨by omega, .inr ⟨g, cap, _, by rw [hlen], Nat.zero_le _, setRow_heap w g cur _ e _ hg, by rw [hlen]; exact hroom, hcm, ?_, ?_⟩⟩, ⟨⟨rfl, rfl, rfl, by simp, fun k _ hk => setRow_other w g k _ (fun e => hk (by simp [Value.ownBlock, e]))⟩, .inl rfl⟩⟩
      · simp only [List.size_toArray, List.length_append, List.length_take, List.length_drop, Array.length_toList]
        omega
      · rw [htake, Nat.mul_one]; exact List.take_left
    · have holds : ∀ j u, xs[j]? = some u → w.drew.cell? ((⟨g, 0, none⟩ : Addr).add j) = some u := World.ownsRow.cells (g := g) hown rfl
      have hr := run_append_grow_src (P := P) w t tx ty e i z ht hi hz0 (some ⟨g, 0, none⟩) xs.length cap xs (by rw [hsize]; exact run_firstCells_some w.drew 1 xs.length _ _ _ xs (by simp) holds) x m news hs' (by omega) (by omega) (growslice_fits (by omega) hbytes)
      have hgr := grown cap (by omega)
      exact ⟨_, _, hr, hgr.1, hgr.2⟩

variable {ops : Array Oper} {rest : List Oper} {op : Oper} {a : Act} {w : World} {Q : Exit → Act → World → Prop}

theorem wpList_value (hgd : Region.wanted op (yielded ops a.tmps) = true) {v : Value} {W' : World} (hrun : (execOp a.eval op).run P w = .ok (.value v) W') (h : wpList P ops Q rest (a.put op.dst v) W') :
    wpList P ops Q (op :: rest) a w :=
  wpList_step fun _ hK => by rw [if_pos hgd]; unfold Oper.wp; rw [hrun]; exact hK _ _ h
theorem wpList_quiet (hgd : Region.wanted op (yielded ops a.tmps) = true) {W' : World} (hrun : (execOp a.eval op).run P w = .ok .skip W') (h : wpList P ops Q rest (a.put op.dst undef) W') :
    wpList P ops Q (op :: rest) a w :=
  wpList_step fun _ hK => by rw [if_pos hgd]; unfold Oper.wp; rw [hrun]; exact hK _ _ h

theorem exec_append (s x : Operand) (t tx : TypeId) (ho : op.op = .call { callee := .builtin .append, args := #[s, x], argTypes := #[t, tx] }) {sv xv r : Value} {W' : World} (hs : a.eval s = sv) (hx : a.eval x = xv)
    (hr : (Builtin.append_ #[t, tx] op.type #[sv, xv]).run P w = .ok r W') : (execOp a.eval op).run P w = .ok (.value r) W' := by
  unfold execOp
  simp only [ho, resolve, invoke, builtin, Sem.run_bind, Sem.run_pure, Result.andThen_ok, List.map_toArray, List.map_cons, List.map_nil, hs, hx, hr]

/-- THE OPERATION, in a plain region. -/
theorem step_append (hgd : Region.wanted op (yielded ops a.tmps) = true) (s x : Operand) (t tx : TypeId) (ho : op.op = .call { callee := .builtin .append, args := #[s, x], argTypes := #[t, tx] })
    (e : TypeId) (z : Value) (bytes : Nat) (ht : P.underlying t = some (.slice e)) (hi : (P.info? e).map (fun i => (i.zero, i.size, i.bytes)) = some (some z, 1, bytes)) (hz : z.cells.size = 1)
    (sv : Value) (xs : List Value) (hs : a.eval s = sv) (hown : Own w e sv xs) (xv : Value) (hx : a.eval x = xv) (m : Nat) (news : List Value) (hsrc : Src P 1 tx xv m news w) (h63 : xs.length + m ≤ maxLen) (hbytes : (xs.length + m) * bytes ≤ 140737488355328)
    (h : ∀ sv' w', Own w' e sv' (xs ++ news) → Step w sv w' sv' → wpList P ops Q rest (a.put op.dst sv') w') : wpList P ops Q (op :: rest) a w := by
  obtain ⟨sv', w', hr, h1, h2⟩ := run_append_step (P := P) w t tx op.type e z bytes ht hi hz sv xs hown xv m news hsrc h63 hbytes
  exact wpList_value hgd (exec_append s x t tx ho hs hx hr) (h sv' w' h1 h2)
end

/-! ### What is read -/
/-- A slice of one-cell integers that lies below B: nil or empty, or its numbers are 'zs'. -/
def Reads (w : World) (B : Nat) (k : IntKind) (v : Value) (zs : List Int) : Prop :=
  (zs = [] ∧ ∃ a cap, v = .slice a 0 cap ∧ (a = none → cap = 0)) ∨
  ∃ b o cap, v = .slice (some ⟨b, o, none⟩) zs.length cap ∧ b < B ∧ ∀ j, j < zs.length → w.cell? ⟨b, o + j, none⟩ = some (.int k (zs.getD j 0))

theorem Reads.below {w w' : World} {B : Nat} {k : IntKind} {v : Value} {zs : List Int} (h : Reads w B k v zs) (hb : Below B w w') : Reads w' B k v zs := by
  rcases h with h | ⟨b, o, cap, rfl, hlt, hc⟩
  · exact .inl h
  · exact .inr ⟨b, o, cap, rfl, hlt, fun j hj => by rw [hb.cell (p := ⟨b, o + j, none⟩) hlt]; exact hc j hj⟩
theorem Reads.mono {w : World} {B B' : Nat} {k : IntKind} {v : Value} {zs : List Int} (h : Reads w B k v zs) (hb : B ≤ B') : Reads w B' k v zs := by
  rcases h with h | ⟨b, o, cap, rfl, hlt, hc⟩
  · exact .inl h
  · exact .inr ⟨b, o, cap, rfl, by omega, hc⟩
theorem Reads.len {w : World} {B : Nat} {k : IntKind} {v : Value} {zs : List Int} (h : Reads w B k v zs) : ∃ a cap, v = .slice a zs.length cap := by
  rcases h with ⟨rfl, a, cap, rfl, _⟩ | ⟨b, o, cap, rfl, _⟩
  · exact ⟨a, cap, rfl⟩
  · exact ⟨_, cap, rfl⟩

theorem Reads.src {P : Program} {w : World} {B : Nat} {k : IntKind} {v : Value} {zs : List Int} {tx e' : TypeId} (h : Reads w B k v zs) (hk : P.underlying tx = some (.slice e')) : Src P 1 tx v zs.length (zs.map (Value.int k)) w := by
  rcases h with ⟨rfl, a, cap, rfl, hn⟩ | ⟨b, o, cap, rfl, _, hc⟩
  · cases a with
    | none => exact Src.ofNil w hk cap
    | some a => exact Src.ofSlice w hk a 0 cap [] (by simp) (fun j u hu => by simp at hu) (fun u hu => by cases hu)
  · refine Src.ofSlice w hk ⟨b, o, none⟩ zs.length cap _ (by simp) ?_ (ints_oneCell k zs)
    intro j u hu
    have hj : j < zs.length := by have := (List.getElem?_eq_some_iff.1 hu).1; simpa using this
    rw [Addr.add_lit, hc j hj]
    rw [List.getElem?_map, List.getElem?_eq_getElem hj] at hu
    simp only [Option.map_some, Option.some.injEq] at hu
    rw [← hu, List.getD, List.getElem?_eq_getElem hj]; rfl

/-- What is owned, appended. -/
theorem Own.src {P : Program} {w : World} {e : TypeId} {v : Value} {xs : List Value} {tx e' : TypeId} (h : Own w e v xs) (hk : P.underlying tx = some (.slice e')) (h1 : ∀ u ∈ xs, u.oneCell' = true) : Src P 1 tx v xs.length xs w := by
  rcases h.2 with ⟨rfl, hn⟩ | ⟨g, cap, cur, rfl, _⟩
  · have hx : xs = [] := List.eq_nil_of_length_eq_zero hn
    subst hx
    exact Src.ofNil w hk 0
  · exact Src.ofSlice w hk ⟨g, 0, none⟩ xs.length cap xs (by simp) (World.ownsRow.cells (g := g) h rfl) h1

theorem Own.one {w : World} {e : TypeId} {sv : Value} {xs : List Value} (h : Own w e sv xs) : sv.oneCell' = true := by
  obtain ⟨a, c, rfl⟩ := h.len; rfl

section
variable {P : Program} {ops : Array Oper} {rest : List Oper} {op : Oper} {a : Act} {w : World} {Q : Exit → Act → World → Prop}
/-- A store of one cell. -/
theorem run_storeAt_one (w : World) (ty : TypeId) (b o : Nat) (v u : Value) (h1 : v.oneCell' = true) (hc : w.cell? ⟨b, o, none⟩ = some u) (hf : w.frozen? ⟨b, o, none⟩ = false) (hs : (P.info? ty).map (·.size) = some 1) :
    (Instr.storeAt ty (.pointer (some ⟨b, o, none⟩)) v).run P w = .ok () (w.setCell ⟨b, o, none⟩ v) := by
  have hst := run_store P w ⟨b, o, none⟩ v .plain h1
  rw [hc] at hst
  simp only [hf] at hst
  have e0 : (⟨b, o, none⟩ : Addr).add 0 = ⟨b, o, none⟩ := by simp [Addr.add]
  have hcl : v.cells = #[v] := by cases v <;> first | rfl | simp [Value.oneCell'] at h1
  cases hq : P.info? ty with
  | none => simp [hq] at hs
  | some i =>
    have hz : i.size = 1 := by simpa [hq] using hs
    simp [Instr.storeAt, Instr.sureAddr, storeVar, sizeOf, typeInfo, hq, hz, hcl, storeCells, e0, hst]

theorem step_store1 (hgd : Region.wanted op (yielded ops a.tmps) = true) (ty : TypeId) (x y : Operand) (ho : op.op = .store ty x y) (b o : Nat) (hx : a.eval x = .pointer (some ⟨b, o, none⟩)) (v u : Value) (hy : a.eval y = v)
    (h1 : v.oneCell' = true) (hc : w.cell? ⟨b, o, none⟩ = some u) (hf : w.frozen? ⟨b, o, none⟩ = false) (hs : (P.info? ty).map (·.size) = some 1)
    (h : wpList P ops Q rest (a.put op.dst undef) (w.setCell ⟨b, o, none⟩ v)) : wpList P ops Q (op :: rest) a w := by
  refine wpList_quiet hgd ?_ h
  unfold execOp
  simp only [ho, hx, hy, Sem.run_bind, run_storeAt_one w ty b o v u h1 hc hf hs, Result.andThen_ok, Sem.run_pure]
end

/-! ### What has turned between two worlds -/
structure Mut (w w' : World) (S : Nat → Prop) : Prop where
  os : w'.os = w.os
  tape : w'.tape = w.tape
  output : w'.output = w.output
  size : w.heap.size ≤ w'.heap.size
  block : ∀ k, k < w.heap.size → ¬ S k → w'.heap[k]? = w.heap[k]?

theorem Mut.refl (w : World) (S : Nat → Prop) : Mut w w S := ⟨rfl, rfl, rfl, Nat.le_refl _, fun _ _ _ => rfl⟩
theorem Mut.trans {w w1 w2 : World} {S : Nat → Prop} (h : Mut w w1 S) (h2 : Mut w1 w2 S) : Mut w w2 S :=
  ⟨h2.os.trans h.os, h2.tape.trans h.tape, h2.output.trans h.output, Nat.le_trans h.size h2.size, fun k hk hs => (h2.block k (Nat.lt_of_lt_of_le hk h.size) hs).trans (h.block k hk hs)⟩
/-- The second step may turn what is new besides. -/
theorem Mut.then {w w1 w2 : World} {S S2 : Nat → Prop} (h : Mut w w1 S) (h2 : Mut w1 w2 S2) (hs : ∀ k, k < w.heap.size → S2 k → S k) : Mut w w2 S :=
  ⟨h2.os.trans h.os, h2.tape.trans h.tape, h2.output.trans h.output, Nat.le_trans h.size h2.size, fun k hk hn => (h2.block k (Nat.lt_of_lt_of_le hk h.size) (fun e => hn (hs k hk e))).trans (h.block k hk hn)⟩
theorem Mut.mono {w w' : World} {S S' : Nat → Prop} (h : Mut w w' S) (hs : ∀ k, k < w.heap.size → S k → S' k) : Mut w w' S' := ⟨h.os, h.tape, h.output, h.size, fun k hk hn => h.block k hk (fun e => hn (hs k hk e))⟩
theorem Mut.below {w w' : World} {S : Nat → Prop} (h : Mut w w' S) {B : Nat} (hB : B ≤ w.heap.size) (hs : ∀ k, S k → B ≤ k) : Below B w w' :=
  ⟨h.os, h.tape, h.output, h.size, fun k hk => h.block k (by omega) (fun e => by have := hs k e; omega)⟩
theorem Mut.alloc {w w' : World} {S : Nat → Prop} (h : Mut w w' S) (o : Obj) : Mut w (w'.alloc o) S :=
  ⟨h.os, h.tape, h.output, Nat.le_trans h.size (by simp), fun k hk hn => (Below.heap_alloc w' o k (Nat.lt_of_lt_of_le hk h.size)).trans (h.block k hk hn)⟩
theorem Mut.drew {w w' : World} {S : Nat → Prop} (h : Mut w w' S) : Mut w w'.drew S := ⟨h.os, h.tape, h.output, h.size, h.block⟩
theorem Step.mut {w w' : World} {sv sv' : Value} (h : Step w sv w' sv') : Mut w w' (fun k => sv.ownBlock = some k) :=
  ⟨h.grown.os, h.grown.tape, h.grown.output, h.grown.size, fun k hk hn => h.grown.block k hk (fun e => hn e.symm)⟩
theorem Own.mut {w w' : World} {S : Nat → Prop} {e : TypeId} {sv : Value} {xs : List Value} (h : Own w e sv xs) (hm : Mut w w' S) (hs : ∀ k, sv.ownBlock = some k → ¬ S k) : Own w' e sv xs :=
  h.same fun k hk => hm.block k (h.lt k hk) (hs k hk)

/-- One block has turned, no other. -/
structure Touch (w w' : World) (b : Nat) : Prop where
  os : w'.os = w.os
  tape : w'.tape = w.tape
  output : w'.output = w.output
  size : w'.heap.size = w.heap.size
  other : ∀ k, k ≠ b → w'.heap[k]? = w.heap[k]?

theorem Touch.mut {w w' : World} {b : Nat} (h : Touch w w' b) : Mut w w' (fun k => k = b) := ⟨h.os, h.tape, h.output, by rw [h.size]; exact Nat.le_refl _, fun k _ hn => h.other k hn⟩
theorem Touch.trans {w w1 w2 : World} {b : Nat} (h : Touch w w1 b) (h2 : Touch w1 w2 b) : Touch w w2 b := ⟨h2.os.trans h.os, h2.tape.trans h.tape, h2.output.trans h.output, h2.size.trans h.size, fun k hk => (h2.other k hk).trans (h.other k hk)⟩
theorem touch_setCell (w : World) (b o : Nat) (v : Value) : Touch w (w.setCell ⟨b, o, none⟩ v) b :=
  ⟨rfl, rfl, rfl, by simp [World.setCell], fun k hk => by simp [World.setCell, Array.getElem?_modify, Ne.symm hk]⟩
theorem touch_setRow (w : World) (g : Nat) (cs : Array Value) : Touch w (w.setRow g cs) g :=
  ⟨rfl, rfl, rfl, by simp, fun k hk => setRow_other w g k cs hk⟩
theorem heap_setCell {w : World} {b o : Nat} {v : Value} {cs : Array Value} {t : TypeId} {fz : Nat × Nat} (h : w.heap[b]? = some (.cells cs t fz)) : (w.setCell ⟨b, o, none⟩ v).heap[b]? = some (.cells (cs.setIfInBounds o v) t fz) := by
  simp [World.setCell, Array.getElem?_modify, h]
theorem cell_of_heap {w : World} {b : Nat} {cs : Array Value} {t : TypeId} {fz : Nat × Nat} (h : w.heap[b]? = some (.cells cs t fz)) (o : Nat) : w.cell? ⟨b, o, none⟩ = cs[o]? := by
  simp [World.cell?, h]
theorem frozen_of_heap {w : World} {b : Nat} {cs : Array Value} {t : TypeId} (h : w.heap[b]? = some (.cells cs t (0, 0))) (o : Nat) : w.frozen? ⟨b, o, none⟩ = false := by
  simp [World.frozen?, h]

section
variable {P : Program} {ops : Array Oper} {rest : List Oper} {op : Oper} {a : Act} {w : World} {Q : Exit → Act → World → Prop}
/-- A store of one cell into a block that is known whole: what follows, from whatever world is left. -/
theorem step_storeB (hgd : Region.wanted op (yielded ops a.tmps) = true) (ty : TypeId) (x y : Operand) (ho : op.op = .store ty x y) (b o : Nat) (hx : a.eval x = .pointer (some ⟨b, o, none⟩)) (v : Value) (hy : a.eval y = v)
    (h1 : v.oneCell' = true) (cs : Array Value) (t : TypeId) (hb : w.heap[b]? = some (.cells cs t (0, 0))) (hlt : o < cs.size) (hs : (P.info? ty).map (·.size) = some 1)
    (h : ∀ w', w'.heap[b]? = some (.cells (cs.setIfInBounds o v) t (0, 0)) → Touch w w' b → wpList P ops Q rest (a.put op.dst undef) w') : wpList P ops Q (op :: rest) a w :=
  step_store1 hgd ty x y ho b o hx v cs[o] hy h1 (by rw [cell_of_heap hb]; simp [hlt]) (frozen_of_heap hb o) hs (h _ (heap_setCell hb) (touch_setCell _ _ _ _))
end

/-! ### copy -/
/-- A row with the cells 'vs' laid over it from 'o' on. -/
def splice (c : Array Value) (o : Nat) (vs : List Value) : Array Value := (c.toList.take o ++ vs ++ c.toList.drop (o + vs.length)).toArray
theorem size_splice {c : Array Value} {o : Nat} {vs : List Value} (h : o + vs.length ≤ c.size) : (splice c o vs).size = c.size := by
  simp [splice]; omega
/-- The cells up to the end of what was laid. -/
theorem take_splice {c : Array Value} {o : Nat} {vs xs : List Value} (hx : c.toList.take o = xs) : (splice c o vs).toList.take (xs.length + vs.length) = xs ++ vs := by
  rw [splice, hx, ← List.length_append]
  exact List.take_left

section
variable {P : Program} {ops : Array Oper} {rest : List Oper} {op : Oper} {a : Act} {w : World} {Q : Exit → Act → World → Prop}
theorem exec_copy (s x : Operand) (t tx : TypeId) (ho : op.op = .call { callee := .builtin .copy, args := #[s, x], argTypes := #[t, tx] }) {sv xv r : Value} {W' : World} (hs : a.eval s = sv) (hx : a.eval x = xv)
    (hr : (Builtin.copy_ #[t, tx] op.type #[sv, xv]).run P w = .ok r W') : (execOp a.eval op).run P w = .ok (.value r) W' := by
  unfold execOp
  simp only [ho, resolve, invoke, builtin, Sem.run_bind, Sem.run_pure, Result.andThen_ok, List.map_toArray, List.map_cons, List.map_nil, hs, hx, hr]

/-- 'copy' into a row of the call's own, from numbers that are read. -/
theorem step_copy (hgd : Region.wanted op (yielded ops a.tmps) = true) (s x : Operand) (t tx : TypeId) (ho : op.op = .call { callee := .builtin .copy, args := #[s, x], argTypes := #[t, tx] })
    (e : TypeId) (ht : P.underlying t = some (.slice e)) (hi : (P.info? e).map (·.size) = some 1)
    (g o dLen dCap : Nat) (hs : a.eval s = .slice (some ⟨g, o, none⟩) dLen dCap) (cur : Array Value) (hg : w.heap[g]? = some (.cells cur e (0, 0)))
    (xv : Value) (hx : a.eval x = xv) (B : Nat) (k : IntKind) (zs : List Int) (hr : Reads w B k xv zs) (hle : zs.length ≤ dLen) (hfit : o + zs.length ≤ cur.size)
    (h : ∀ w', w'.heap[g]? = some (.cells (splice cur o (zs.map (Value.int k))) e (0, 0)) → Touch w w' g → wpList P ops Q rest (a.put op.dst (.int .i64 zs.length)) w') : wpList P ops Q (op :: rest) a w := by
  rcases hr with ⟨rfl, ad, cap, rfl, hn⟩ | ⟨b, ob, cap, rfl, _, hc⟩
  · have hsp : splice cur o ([] : List Value) = cur := by simp [splice]
    cases ad with
    | none =>
      have hc0 := hn rfl
      subst hc0
      refine wpList_value hgd (exec_copy s x t tx ho hs hx (run_copy_nil P w t tx op.type e _ dLen dCap ht (by rw [hi]; rfl))) (h w (by simpa [hsp] using hg) ⟨rfl, rfl, rfl, rfl, fun _ _ => rfl⟩)
    | some ad =>
      have hr := run_copy_row P w t tx op.type e g o dLen dCap ad 0 cap cur e [] ht hi hg (by simp) (fun j v hv => by simp at hv) (by simpa using hfit) (fun v hv => by cases hv)
      refine wpList_value hgd (exec_copy s x t tx ho hs hx hr) (h _ ?_ (touch_setRow _ _ _))
      exact setRow_heap w g cur _ e _ hg
  · have hr := run_copy_row P w t tx op.type e g o dLen dCap ⟨b, ob, none⟩ zs.length cap cur e (zs.map (Value.int k)) ht hi hg (by rw [List.length_map]; exact (Nat.min_eq_left hle).symm) (fun j v hv => by
      have hj : j < zs.length := by have := (List.getElem?_eq_some_iff.1 hv).1; simpa using this
      rw [Addr.add_lit, hc j hj]
      rw [List.getElem?_map, List.getElem?_eq_getElem hj] at hv
      simp only [Option.map_some, Option.some.injEq] at hv
      rw [← hv, List.getD, List.getElem?_eq_getElem hj]; rfl) (by simpa using hfit) (ints_oneCell k zs)
    refine wpList_value hgd (exec_copy s x t tx ho hs hx (by simpa [goInt] using hr)) (h _ ?_ (touch_setRow _ _ _))
    simpa [splice] using setRow_heap w g cur _ e _ hg
end
end Go.Proofs.YbulkrziDoor
