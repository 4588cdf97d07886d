import Derived.Test.YbulkrxeTake
import Derived.Laws.Rows
namespace Go.Proofs.Ybulkrxe
open Go.Proofs Go.RowKit Go.Conc Go.MuLone
set_option maxRecDepth 100000

theorem chan_made (w : World) : (Instr.makeChan 25 (.int .i64 1)).run Yba.prog w = .ok (.chan (some w.heap.size)) (w.alloc (.chan 1 #[] false 0 0 false)) := by
  have h : (Yba.prog.info? 26).map (·.bytes) = some 0 := by kernel_rfl
  obtain ⟨i, hi, hb⟩ := Option.map_eq_some_iff.1 h
  simpa using run_makeChan (P := Yba.prog) (w := w) Yba.underlying25 hi .i64 1 (by omega) (by rw [hb]; omega)

/-- What is owned, read. -/
theorem Own.reads {w : World} {v : Value} {zs : List Int} (h : Own w 5 v (U zs)) : Reads w w.heap.size .u8 v zs := by
  rcases h.2 with ⟨rfl, hn⟩ | ⟨g, cap, cur, rfl, _, hg, _⟩
  · have hx : zs = [] := List.eq_nil_of_length_eq_zero (by simpa [U] using hn)
    subst hx
    exact .inl ⟨rfl, none, 0, rfl, fun _ => rfl⟩
  · rw [len_U]
    refine .inr ⟨g, 0, cap, rfl, (Array.getElem?_eq_some_iff.1 hg).1, fun i hi => ?_⟩
    have := World.ownsRow.cells (g := g) h rfl i (.int .u8 (zs.getD i 0)) (by simp [U, hi])
    rwa [Addr.add_lit] at this

/-- The outbox as it is made: nothing queued. -/
theorem outbox_made (w : World) (asked : Int) : Outbox ((w.alloc (.chan 1 #[] false 0 0 false)).alloc (.cells #[.int .i32 0, .int .u32 0, .slice none 0 0, .int .i64 asked, .slice none 0 0, .chan (some w.heap.size)] 35)) w.heap.size (w.heap.size + 1) w.heap.size 0 (.slice none 0 0) asked #[] := by
  have hs : (w.alloc (.chan 1 #[] false 0 0 false)).heap.size = w.heap.size + 1 := by simp
  refine ⟨?_, ⟨0, 0, ?_⟩, by omega, by simp [Value.ownBlock], by simp [Value.ownBlock], by omega, by omega⟩
  · rw [← hs]; exact heap_alloc_new _ _
  · rw [Go.RowKit.Below.heap_alloc _ _ _ (by rw [hs]; omega)]; exact heap_alloc_new _ _

set_option maxHeartbeats 2000000 in
theorem take_law (w : World) (t1 : Int) (dv1 : Value) (ds1 : List Int) (av1 : Value) (zs1 : List Int) (t2 : Int) (dv2 : Value) (ds2 : List Int) (av2 : Value) (zs2 : List Int) (asked : Int)
    (hd1 : Reads w w.heap.size .u8 dv1 ds1) (ha1 : Reads w w.heap.size .u32 av1 zs1) (hd2 : Reads w w.heap.size .u8 dv2 ds2) (ha2 : Reads w w.heap.size .u32 av2 zs2)
    (hz1 : ∀ z ∈ zs1, 0 ≤ z ∧ z ≤ 4294967295) (hz2 : ∀ z ∈ zs2, 0 ≤ z ∧ z ≤ 4294967295) (l1 : ds1.length ≤ 1024) (l2 : ds2.length ≤ 1024) (l3 : zs1.length ≤ 256) (l4 : zs2.length ≤ 256) :
    Calls Yba.prog 4 #[.int .u8 t1, dv1, av1, .int .u8 t2, dv2, av2, .int .i64 asked] w fun e w' => e = .returned (.bool true) ∧ Below w.heap.size w w' := by
  have HD1 : Hid (Reads w w.heap.size .u8 dv1 ds1) := hd1
  have HA1 : Hid (Reads w w.heap.size .u32 av1 zs1) := ha1
  have HD2 : Hid (Reads w w.heap.size .u8 dv2 ds2) := hd2
  have HA2 : Hid (Reads w w.heap.size .u32 av2 zs2) := ha2
  have HZ1 : Hid (∀ z ∈ zs1, 0 ≤ z ∧ z ≤ 4294967295) := hz1
  have HZ2 : Hid (∀ z ∈ zs2, 0 ≤ z ∧ z ≤ 4294967295) := hz2
  obtain ⟨da1, dc1, rfl⟩ := hd1.len
  obtain ⟨aa1, ac1, rfl⟩ := ha1.len
  obtain ⟨da2, dc2, rfl⟩ := hd2.len
  obtain ⟨aa2, ac2, rfl⟩ := ha2.len
  have HM := chan_made
  have HOM : Hid (Outbox ((w.alloc (.chan 1 #[] false 0 0 false)).alloc (.cells #[.int .i32 0, .int .u32 0, .slice none 0 0, .int .i64 asked, .slice none 0 0, .chan (some w.heap.size)] 35)) w.heap.size (w.heap.size + 1) w.heap.size 0 (.slice none 0 0) asked #[]) := outbox_made w asked
  clear hd1 ha1 hd2 ha2 hz1 hz2
  go_enter Yba.func4, Yba.ntmps4
  go_wp2_with fail
  have B1 : Below w.heap.size w ((w.alloc (.chan 1 #[] false 0 0 false)).alloc (.cells #[.int .i32 0, .int .u32 0, .slice none 0 0, .int .i64 asked, .slice none 0 0, .chan (some w.heap.size)] 35)) :=
    ((Below.refl _ _).alloc (Nat.le_refl _) _).alloc (by simp) _
  refine (queue_any _ w.heap.size (w.heap.size + 1) w.heap.size (.slice none 0 0) asked #[] [] t1 _ ds1 _ zs1 HOM.out (.inl rfl) (Own.nil _ 5) B1.size (fun k hk => by simp [Value.ownBlock] at hk)
    (HD1.out.below B1) (HA1.out.below B1) HZ1.out l1 l3 (by simp)).mono ?_
  rintro e W2 ⟨rfl, sv1, o2, n2, s2, b2⟩
  simp only [List.nil_append] at n2
  have B2 := B1.trans b2
  have HB2 : Hid (Below w.heap.size w W2) := B2
  have HO2 : Hid (Outbox W2 w.heap.size (w.heap.size + 1) w.heap.size 0 sv1 asked #[.agg #[]]) := o2
  have HN2 : Hid (Own W2 5 sv1 (U (frame t1 ds1 zs1))) := n2
  have HS2 : Hid (∀ k, sv1.ownBlock = some k → w.heap.size ≤ k) := s2
  clear o2 n2 s2 b2 B1 B2 HOM
  go_wp2_with fail
  have lf1 := len_frame t1 ds1 zs1
  refine (queue_any W2 w.heap.size (w.heap.size + 1) w.heap.size sv1 asked #[.agg #[]] (frame t1 ds1 zs1) t2 _ ds2 _ zs2 HO2.out (.inr rfl) HN2.out HB2.out.size HS2.out
    (HD2.out.below HB2.out) (HA2.out.below HB2.out) HZ2.out l2 l4 (by omega)).mono ?_
  rintro e W3 ⟨rfl, sv2, o3, n3, s3, b3⟩
  have HB3 : Hid (Below w.heap.size w W3) := HB2.out.trans b3
  have HO3 : Hid (Outbox W3 w.heap.size (w.heap.size + 1) w.heap.size 0 sv2 asked #[.agg #[]]) := o3
  have HN3 : Hid (Own W3 5 sv2 (U (frame t1 ds1 zs1 ++ frame t2 ds2 zs2))) := n3
  have HS3 : Hid (∀ k, sv2.ownBlock = some k → w.heap.size ≤ k) := s3
  clear o3 n3 s3 b3 HO2 HN2 HS2 HB2
  go_wp2_with fail
  refine (take_any W3 w.heap.size (w.heap.size + 1) w.heap.size sv2 asked #[.agg #[]] HO3.out).mono ?_
  rintro e W4 ⟨rfl, k4, g4⟩
  have HB4 : Hid (Below w.heap.size w W4) := HB3.out.trans ⟨g4.os, g4.tape, g4.output, g4.size, fun k hk => g4.block k (by have := HB3.out.size; omega) (by intro e; simp at e; omega)⟩
  have HN4 : Hid (Own W4 5 sv2 (U (frame t1 ds1 zs1 ++ frame t2 ds2 zs2))) := HN3.out.same fun k hk => g4.block k (HN3.out.lt k hk) (by rw [← hk]; exact HO3.out.ap1)
  have hlt4 : w.heap.size + 1 < W4.heap.size := (Array.getElem?_eq_some_iff.1 k4).1
  have c2 : W4.cell? ⟨w.heap.size + 1, 2, none⟩ = some (.slice none 0 0) := by rw [cell_of_heap k4]; rfl
  have hne4 : ¬ (W4.heap.size = w.heap.size + 1) := by omega
  clear k4 g4
  go_wp2_with fail
  have HB5 : Hid (Below w.heap.size w (W4.alloc (.cells #[.int .u32 0, .int .u32 0, .int .u32 0] 41))) := HB4.out.alloc (by have := HB4.out.size; omega) _
  have HN5 : Hid (Own (W4.alloc (.cells #[.int .u32 0, .int .u32 0, .int .u32 0] 41)) 5 sv2 (U (frame t1 ds1 zs1 ++ frame t2 ds2 zs2))) := HN4.out.alloc _
  generalize W4.alloc (.cells #[.int .u32 0, .int .u32 0, .int .u32 0] 41) = W5 at HB5 HN5 ⊢
  clear hlt4 hne4 c2 HB4 HN4 HB3 HO3 HN3 HS3
  have lf2 := len_frame t2 ds2 zs2
  refine (expect_any W5 (.slice none 0 0) [] t1 _ ds1 _ zs1 (.inl ⟨rfl, none, 0, rfl, fun _ => rfl⟩) ((HD1.out.below HB5.out).mono HB5.out.size) ((HA1.out.below HB5.out).mono HB5.out.size) HZ1.out (by simp) l1 l3).mono ?_
  rintro e W6 ⟨ev1, rfl, n6, s6⟩
  simp only [List.nil_append] at n6
  have hb6 : Below W5.heap.size W5 W6 := s6.below (fun k hk => by simp [Value.ownBlock] at hk) (Nat.le_refl _)
  have HB6 : Hid (Below w.heap.size w W6) := HB5.out.trans (hb6.mono HB5.out.size)
  have HE6 : Hid (Own W6 5 ev1 (U (frame t1 ds1 zs1))) := n6
  have HN6 : Hid (Own W6 5 sv2 (U (frame t1 ds1 zs1 ++ frame t2 ds2 zs2))) := HN5.out.same fun k hk => hb6.block k (HN5.out.lt k hk)
  clear n6 s6 hb6 HN5 HB5
  go_wp2_with fail
  refine (expect_any W6 ev1 (frame t1 ds1 zs1) t2 _ ds2 _ zs2 HE6.out.reads ((HD2.out.below HB6.out).mono HB6.out.size) ((HA2.out.below HB6.out).mono HB6.out.size) HZ2.out (by omega) l2 l4).mono ?_
  rintro e W7 ⟨ev2, rfl, n7, s7⟩
  have hb7 : Below W6.heap.size W6 W7 := s7.below (fun k hk => by simp [Value.ownBlock] at hk) (Nat.le_refl _)
  have HB7 : Hid (Below w.heap.size w W7) := HB6.out.trans (hb7.mono HB6.out.size)
  have HE7 : Hid (Own W7 5 ev2 (U (frame t1 ds1 zs1 ++ frame t2 ds2 zs2))) := n7
  have HN7 : Hid (Own W7 5 sv2 (U (frame t1 ds1 zs1 ++ frame t2 ds2 zs2))) := HN6.out.same fun k hk => hb7.block k (HN6.out.lt k hk)
  clear n7 s7 hb7 HN6 HB6 HE6
  go_wp2_with fail
  refine (equal_same W7 sv2 ev2 _ HN7.out HE7.out).mono ?_
  rintro e W8 ⟨rfl, rfl⟩
  go_wp2
  go_ret
  exact ⟨rfl, HB7.out⟩
end Go.Proofs.Ybulkrxe
