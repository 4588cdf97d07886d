/-
  A COMMUNICATION INSIDE A WALK OF ONE GOROUTINE. 'Code.wpn': the kit's 'Code.wp', asked of frames of the plain kind alone: there a send, a select is a step of the machine's (Derived/Conc/LoneCalls, LoneSelect). The rules that join it to the kit's walk.
-/
import Derived.Conc.LoneCalls
import Derived.Conc.LoneSelect
import Derived.WalkKit
namespace Go.Proofs.Ybulkrxe
open Go Go.Conc

def wpn (P : Program) (c : Code) (Q : Exit → Act → World → Prop) (a : Act) (w : World) : Prop :=
  ∀ (b : Frame) (k : List Item) (cs : List Frame), b.kind = .normal → ∃ e a' w', Q e a' w' ∧ Arrives P (lone (b.at a (.code c :: k)) cs w) b k cs e a' w'

/-- The same of a region that has been begun. -/
def opn (P : Program) (ops : Array Oper) (l : List Nat) (Q : Exit → Act → World → Prop) (a : Act) (w : World) : Prop :=
  ∀ (b : Frame) (k : List Item) (cs : List Frame), b.kind = .normal → ∃ e a' w', Q e a' w' ∧ Arrives P (lone (b.at a (.inRegion ops l :: k)) cs w) b k cs e a' w'

section
variable {P : Program} {Q : Exit → Act → World → Prop} {a : Act} {w : World}

theorem wpn_of_wp {c : Code} (h : c.wp P Q a w) : wpn P c Q a w := fun b k cs _ => h b k cs

theorem wpn_seq {x y : Code} (h : wpn P x (Exit.then (wpn P y Q) Q) a w) : wpn P (.seq x y) Q a w := by
  intro b k cs hb
  obtain ⟨e, a₁, w₁, hq, harr⟩ := h b (.code y :: k) cs hb
  cases e with
  | normal =>
    obtain ⟨e₂, a₂, w₂, hq₂, harr₂⟩ := hq b k cs hb
    exact ⟨e₂, a₂, w₂, hq₂, .of_steps (.head step_seq harr) harr₂⟩
  | exit id => exact ⟨_, a₁, w₁, hq, .of_steps (.one step_seq) (.pass (x := .code y) rfl (fun _ _ => .inl (by simp)) harr)⟩
  | goto l => exact ⟨_, a₁, w₁, hq, .of_steps (.one step_seq) (.pass (x := .code y) rfl (fun _ _ => .inl (by simp)) harr)⟩
  | ret => exact ⟨_, a₁, w₁, hq, .of_steps (.one step_seq) (.pass (x := .code y) rfl (fun _ _ => .inl (by simp)) harr)⟩
  | panic ch => exact ⟨_, a₁, w₁, hq, .of_steps (.one step_seq) (.pass (x := .code y) rfl (fun _ _ => .inl (by simp)) harr)⟩
  | outgrown => exact ⟨_, a₁, w₁, hq, .of_steps (.one step_seq) (.pass (x := .code y) rfl (fun _ _ => .inl (by simp)) harr)⟩

theorem wpn_cond {c : Operand} {x y : Code} {t : Bool} (hc : a.eval c = .bool t) (h : wpn P (if t then x else y) Q a w) : wpn P (.cond c x y) Q a w :=
  fun b k cs hb => let ⟨e, a', w', q, r⟩ := h b k cs hb; ⟨e, a', w', q, .of_steps (.one (step_cond hc)) r⟩

theorem wpn_region {id : Nat} {ops : Array Oper} (h : opn P ops (List.range ops.size) Q a w) : wpn P (.region id ops false) Q a w :=
  fun b k cs hb => let ⟨e, a', w', q, r⟩ := h b k cs hb; ⟨e, a', w', q, .of_steps (.one step_region) r⟩

theorem opn_end {ops : Array Oper} (h : Q .normal a w) : opn P ops [] Q a w := fun _ _ _ _ => ⟨.normal, a, w, h, .one step_region_end⟩

/-- An operation that yields a value. -/
theorem opn_value {ops : Array Oper} {i : Nat} {rest : List Nat} {o : Oper} (ho : ops[i]? = some o) (hw : Region.wanted o (yielded ops a.tmps) = true) {v : Value} {w' : World} (hr : (execOp a.eval o).run P w = .ok (.value v) w')
    (h : opn P ops rest Q (a.put o.dst v) w') : opn P ops (i :: rest) Q a w := by
  intro b k cs hb
  obtain ⟨e, a', w'', hq, harr⟩ := h b k cs hb
  have hg := stepG_op (P := P) (b := b) (k := k) (cs := cs) (w := w) (rest := rest) ho hw
  have hfin : (b.at a (.inRegion ops (i :: rest) :: k)).finish v = b.at (a.put o.dst v) (.inRegion ops rest :: k) := by rw [Frame.finish_at, ho]; rfl
  refine ⟨e, a', w'', hq, .of_steps (.one (step_lone_go ?_)) harr⟩
  rw [hg, ← hfin]; simp [stepG.apply, hr]

/-- A send into a channel with room. -/
theorem opn_send {ops : Array Oper} {i : Nat} {rest : List Nat} {o : Oper} (ho : ops[i]? = some o) (hw : Region.wanted o (yielded ops a.tmps) = true) (x y : Operand) (hop : o.op = .send x y) {c cap s r : Nat} {buf : Array Value} {tm : Bool} {v : Value}
    (hx : a.eval x = .chan (some c)) (hy : a.eval y = v) (hc : w.heap[c]? = some (.chan cap buf false s r tm)) (hroom : buf.size < cap)
    (h : opn P ops rest Q (a.put o.dst undef) (w.setChan c cap (buf.push v) false (s + 1) r tm)) : opn P ops (i :: rest) Q a w := by
  intro b k cs hb
  obtain ⟨e, a', w'', hq, harr⟩ := h b k cs hb
  have hfin : (b.at a (.inRegion ops (i :: rest) :: k)).finish undef = b.at (a.put o.dst undef) (.inRegion ops rest :: k) := by rw [Frame.finish_at, ho]; rfl
  have hr : (execOp a.eval o).run P w = .ok (.comm #[scase c v (.tuple #[])] true .send) w := by
    unfold execOp; simp only [hop, hx, hy, scase, Sem.run_pure]
  have hst := step_lone_send_room (P := P) (cs := cs) (stepG_comm (P := P) (main := true) (b := b) (k := k) (cs := cs) (rest := rest) ho hw (by rw [hb]; decide) hr) hc hroom
  refine ⟨e, a', w'', hq, .of_steps (.one ?_) harr⟩
  rw [lone_eq_solo, hst, hfin]; rfl

/-- A select of one send, with a default: there is room. -/
theorem opn_select_room {ops : Array Oper} {i : Nat} {rest : List Nat} {o : Oper} (ho : ops[i]? = some o) (hw : Region.wanted o (yielded ops a.tmps) = true) (x y : Operand) (t : TypeId) (hop : o.op = .select #[{ chan := x, send := some y, elem := t }] false)
    {c cap s r : Nat} {buf : Array Value} {tm : Bool} {v z : Value} (hx : a.eval x = .chan (some c)) (hy : a.eval y = v) (hz : (zeroValue t).run P w = .ok z w) (hc : w.heap[c]? = some (.chan cap buf false s r tm)) (hroom : buf.size < cap)
    (h : opn P ops rest Q (a.put o.dst (.tuple #[goInt 0, .bool false])) (w.setChan c cap (buf.push v) false (s + 1) r tm)) : opn P ops (i :: rest) Q a w := by
  intro b k cs hb
  obtain ⟨e, a', w'', hq, harr⟩ := h b k cs hb
  have hfin : (b.at a (.inRegion ops (i :: rest) :: k)).finish (.tuple #[goInt 0, .bool false]) = b.at (a.put o.dst (.tuple #[goInt 0, .bool false])) (.inRegion ops rest :: k) := by rw [Frame.finish_at, ho]; rfl
  have hr : (execOp a.eval o).run P w = .ok (.comm #[scase c v z] false .select) w := by
    unfold execOp; simp [hop, hx, hy, hz, scase]
  have hst := step_lone_select_send_room (P := P) (cs := cs) (stepG_comm (P := P) (main := true) (b := b) (k := k) (cs := cs) (rest := rest) ho hw (by rw [hb]; decide) hr) hc hroom
  refine ⟨e, a', w'', hq, .of_steps (.one ?_) harr⟩
  rw [lone_eq_solo, hst, hfin]; rfl

/-- .. there is none: the default. -/
theorem opn_select_full {ops : Array Oper} {i : Nat} {rest : List Nat} {o : Oper} (ho : ops[i]? = some o) (hw : Region.wanted o (yielded ops a.tmps) = true) (x y : Operand) (t : TypeId) (hop : o.op = .select #[{ chan := x, send := some y, elem := t }] false)
    {c cap s r : Nat} {buf : Array Value} {tm : Bool} {v z : Value} (hx : a.eval x = .chan (some c)) (hy : a.eval y = v) (hz : (zeroValue t).run P w = .ok z w) (hc : w.heap[c]? = some (.chan cap buf false s r tm)) (hfull : cap ≤ buf.size)
    (h : opn P ops rest Q (a.put o.dst (.tuple #[goInt (-1), .bool false])) w) : opn P ops (i :: rest) Q a w := by
  intro b k cs hb
  obtain ⟨e, a', w'', hq, harr⟩ := h b k cs hb
  have hfin : (b.at a (.inRegion ops (i :: rest) :: k)).finish (.tuple #[goInt (-1), .bool false]) = b.at (a.put o.dst (.tuple #[goInt (-1), .bool false])) (.inRegion ops rest :: k) := by rw [Frame.finish_at, ho]; rfl
  have hr : (execOp a.eval o).run P w = .ok (.comm #[scase c v z] false .select) w := by
    unfold execOp; simp [hop, hx, hy, hz, scase]
  have hst := step_lone_select_send_full (P := P) (cs := cs) (stepG_comm (P := P) (main := true) (b := b) (k := k) (cs := cs) (rest := rest) ho hw (by rw [hb]; decide) hr) hc hfull
  refine ⟨e, a', w'', hq, .of_steps (.one ?_) harr⟩
  rw [lone_eq_solo, hst, hfin]; rfl

theorem calls_of_wpn {f : FuncId} {fn : Func} {c : Code} {args : Array Value} {R : Ending → World → Prop} (hf : P.funcs[f]? = some fn) (hb : fn.body = some c)
    (h : wpn P c (bodyPost P fn R) { tmps := args ++ Array.replicate (fn.ntmps - args.size) undef, defers := [] } w) : Calls P f args w R := by
  intro cs
  let b : Frame := { (default : Frame) with fn := f, kind := .normal }
  have henter : Frame.enter P f args .normal = b.at { tmps := args ++ Array.replicate (fn.ntmps - args.size) undef, defers := [] } [.code c] := by
    simp [Frame.enter, Frame.at, hf, hb, b]
  obtain ⟨e, a', w', hq, harr⟩ := h b [] cs rfl
  rw [← henter] at harr
  cases e with
  | normal =>
    obtain ⟨hd, v, hr, hR⟩ := hq
    exact ⟨.returned v, w', _, hR, Steps.trans harr (.one step_end), rfl, rfl, hd, rfl, fn, hf, hr⟩
  | ret =>
    obtain ⟨hd, v, hr, hR⟩ := hq
    obtain ⟨todo, hs⟩ := harr
    exact ⟨.returned v, w', _, hR, hs, rfl, rfl, hd, rfl, fn, hf, hr⟩
  | panic chain =>
    obtain ⟨hd, hR⟩ := hq
    obtain ⟨todo, hs⟩ := harr
    exact ⟨.panicked chain, w', _, hR, hs, rfl, rfl, hd, fn, hf⟩
  | outgrown =>
    rcases harr with h | h
    · exact absurd h (by simp [b])
    · exact ⟨.outgrown, w', Frame.enter P f args .normal, hq, h, by simp [Frame.enter, hf], trivial⟩
  | exit id => exact hq.elim
  | goto l => exact hq.elim
end
end Go.Proofs.Ybulkrxe
