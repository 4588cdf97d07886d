import Derived.Test.YbulkrvoZeros
namespace Go.Proofs.Ybulkrvo
open Go.Proofs Go.RowKit
open Extern.Stop (cell)
set_option maxRecDepth 100000

/-- An array of bytes, as a value's cells. -/
def arr (xs : List UInt8) : Array Value := (xs.map cell).toArray
theorem size_arr (xs : List UInt8) : (arr xs).size = xs.length := by simp [arr]
theorem one_arr (xs : List UInt8) : ∀ v ∈ (arr xs).toList, v.oneCell' = true := by
  intro v hv
  simp [arr] at hv
  obtain ⟨b, _, rfl⟩ := hv
  rfl

/-- The TEKs that 'make' lays: their cells. -/
def Z79 : Array Value := #[.int .u32 0, .string ⟨#[]⟩, .int .i64 0, .slice none 0 0, .nilFunc, .int .i64 0, .string ⟨#[]⟩, .nilFunc, .int .i64 0, .int .u64 0, .int .u64 0, .pointer none, .int .u8 0, .int .u64 0, .int .u64 0, .pointer none, .int .u8 0, .int .u8 0, .int .u16 0, .int .u16 0, .int .u32 0, .int .u16 0, .int .u16 0, .bool false, .slice none 0 0, .slice none 0 0]
theorem info79 : (Yba.prog.info? 79).map (fun i => (i.zero, i.size, i.bytes)) = some (some (.agg Z79), 26, 240) := by kernel_rfl
theorem info22 : (Yba.prog.info? 22).map (·.size) = some 16 := by kernel_rfl
theorem info46 : (Yba.prog.info? 46).map (·.size) = some 33 := by kernel_rfl
theorem isize22 (xs : List UInt8) (h : xs.length = 16) : (Yba.prog.info? 22).map (·.size) = some (arr xs).size := by rw [size_arr, h]; exact info22

def teks (l : Int) : Array Value := madeCells Z79 (l.toNat * 26)
/-- The group's keys, the announced keys: the struct 'Keys' with its slice and its KEK's SPI. -/
def keys (b : Nat) (l : Int) : Array Value := splice Z46 0 [.slice (some ⟨b, 0, none⟩) l.toNat l.toNat]
def keysAt (b : Nat) (l : Int) (xs : List UInt8) : Array Value := splice (keys b l) 1 (arr xs).toList
def groupAt (b : Nat) : Array Value := splice Z66 6 [.pointer (some ⟨b, 0, none⟩)]
def pullAt (b : Nat) (K : Array Value) : Array Value := splice (splice Z53 0 [.pointer (some ⟨b, 0, none⟩)]) 4 K.toList
theorem size_keys (b : Nat) (l : Int) : (keys b l).size = 33 := by unfold keys; rw [size_splice (by rw [size46]; simp), size46]
theorem size_keysAt (b : Nat) (l : Int) (xs : List UInt8) (h : xs.length = 16) : (keysAt b l xs).size = 33 := by
  unfold keysAt; rw [size_splice (by rw [size_keys]; simp [size_arr, h]), size_keys]
theorem one_keys (b : Nat) (l : Int) : ∀ v ∈ (keys b l).toList, v.oneCell' = true := by
  intro v hv
  rcases mem_splice hv with h | h
  · exact (List.all_eq_true.1 one46) v h
  · simp at h; subst h; rfl
theorem extract_all {c : Array Value} {n : Nat} (h : n = c.size) : c.extract 0 (0 + n) = c := by subst h; simp

theorem made_keys (b : Nat) (l : Int) : Yba.prog.built 46 [(0, .slice (some ⟨b, 0, none⟩) l.toNat l.toNat)] = some (keys b l) := by
  unfold keys; exact made46 _ _ _
theorem made_group (b : Nat) : Yba.prog.built 66 [(3, .pointer (some ⟨b, 0, none⟩))] = some (groupAt b) := by
  unfold groupAt; exact made66 _
theorem made_pull (b : Nat) (K : Array Value) (hK : K.size = 33) : Yba.prog.built 53 [(0, .pointer (some ⟨b, 0, none⟩)), (4, .agg K)] = some (pullAt b K) := by
  unfold pullAt; exact made53 _ _ hK

/-- The blocks that 'zzs0911bpull' leaves behind the heap of size s. -/
def left (s : Nat) (xs ys : List UInt8) (l1 l2 : Int) : List (Array Value × TypeId) :=
  [(arr xs, 22), (arr ys, 22), (teks l1, 79), (keysAt (s + 2) l1 xs, 46), (teks l2, 79), (keysAt (s + 4) l2 ys, 46), (groupAt (s + 3), 66), (pullAt (s + 6) (keysAt (s + 4) l2 ys), 53)]

set_option maxHeartbeats 1000000 in
theorem pull_same (xs ys : List UInt8) (hxs : xs.length = 16) (hys : ys.length = 16) (n m : Int) (w : World) (hn0 : 0 ≤ n) (hn1 : n ≤ 255) (hm0 : 0 ≤ m) (hm1 : m ≤ 255) :
    Calls Yba.prog 5 #[.agg (arr xs), .agg (arr ys), .bool true, .int .u8 n, .int .u8 m] w fun e w' =>
      e = .returned (.pointer (some ⟨w.heap.size + 7, 0, none⟩)) ∧ Blocks w w' (left w.heap.size xs xs (n % 4 + 1) (m % 4 + 1)) := by
  have hb := Blocks.refl w
  have HX : Hid (xs.length = 16) := hxs
  have HY : Hid (ys.length = 16) := hys
  have HX22 : Hid ((Yba.prog.info? 22).map (·.size) = some (arr xs).size) := isize22 xs hxs
  have HY22 : Hid ((Yba.prog.info? 22).map (·.size) = some (arr ys).size) := isize22 ys hys
  have HK : Hid ((keysAt (w.heap.size + 4) (m % 4 + 1) xs).size = 33) := size_keysAt _ _ _ hxs
  clear hxs hys
  go_enter Yba.func5, Yba.ntmps5
  go_wp2_with (first
    | (refine step_box hb rfl 22 (.tmp 0) rfl (arr xs) ?e1 0 ?e2 ?_
       case e1 => rfl
       case e2 => rfl
       clear hb; intro W hb; simp only [List.nil_append] at hb)
    | (refine step_box hb rfl 22 (.tmp 1) rfl (arr ys) ?e1 1 ?e2 ?_
       case e1 => rfl
       case e2 => rfl
       clear hb; intro W hb; simp only [List.cons_append, List.nil_append] at hb)
    | (refine step_load hb rfl 22 (.tmp 5) rfl (w.heap.size + 0) 0 0 rfl ?e1 (arr xs) 22 ?e2 (arr xs) (extract_all rfl) _ Yba.underlying22 rfl ?e3 ?_
       case e1 => rfl
       case e2 => rfl
       case e3 => exact HX22.out)
    | (refine step_load hb rfl 22 (.tmp 6) rfl (w.heap.size + 1) 0 1 rfl ?e1 (arr xs) 22 ?e2 (arr xs) (extract_all rfl) _ Yba.underlying22 rfl ?e3 ?_
       case e1 => rfl
       case e2 => rfl
       case e3 => exact HX22.out)
    | (refine step_store hb rfl 22 (.tmp 6) (.tmp 14) rfl (w.heap.size + 1) 0 1 rfl ?e1 (arr xs) ?e2 (arr ys) 22 ?e3 ?e4 ?e5 (one_arr xs) [(arr xs, 22), (arr xs, 22)] ?e6 ?_
       case e1 => rfl
       case e2 => rfl
       case e3 => rfl
       case e4 => rw [size_arr, size_arr, HX.out, HY.out]; decide
       case e5 => exact HX22.out
       case e6 => rw [splice_whole (by rw [size_arr, size_arr, HX.out, HY.out])]; rfl
       clear hb; intro W hb)
    | (refine step_make hb rfl 44 (.tmp 18) rfl 79 Z79 26 240 Yba.underlying44 info79 .i64 (n % 4 + 1) ?e1 ?e2 ?e3 ?e4 2 ?e5 ?_
       case e1 => rfl
       case e2 => omega
       case e3 => omega
       case e4 => omega
       case e5 => rfl
       clear hb; intro W hb; simp only [List.cons_append, List.nil_append] at hb)
    | (refine step_build rfl 46 #[(0, .tmp 19)] rfl [(0, .slice (some ⟨w.heap.size + 2, 0, none⟩) (n % 4 + 1).toNat (n % 4 + 1).toNat)] ?e1 (keys (w.heap.size + 2) (n % 4 + 1)) ?e2 ?_
       case e1 => rfl
       case e2 => exact made_keys (w.heap.size + 2) (n % 4 + 1))
    | (refine step_alloc hb rfl 46 rfl Z46 z46 3 ?e1 ?_
       case e1 => rfl
       clear hb; intro W hb; simp only [List.cons_append, List.nil_append] at hb)
    | (refine step_alloc hb rfl 46 rfl Z46 z46 5 ?e1 ?_
       case e1 => rfl
       clear hb; intro W hb; simp only [List.cons_append, List.nil_append] at hb)
    | (refine step_store hb rfl 46 (.tmp 11) (.tmp 20) rfl (w.heap.size + 3) 0 3 rfl ?e1 (keys (w.heap.size + 2) (n % 4 + 1)) ?e2 Z46 46 ?e3 ?e4 ?e5 (one_keys _ _) [(arr xs, 22), (arr xs, 22), (teks (n % 4 + 1), 79), ((keys (w.heap.size + 2) (n % 4 + 1)), 46)] ?e6 ?_
       case e1 => rfl
       case e2 => rfl
       case e3 => rfl
       case e4 => rw [size_keys, size46]; decide
       case e5 => rw [size_keys]; exact info46
       case e6 => rw [splice_whole (by rw [size_keys, size46])]; rfl
       clear hb; intro W hb)
    | (refine step_store hb rfl 22 (.tmp 23) (.tmp 21) rfl (w.heap.size + 3) 1 3 rfl ?e1 (arr xs) ?e2 (keys (w.heap.size + 2) (n % 4 + 1)) 46 ?e3 ?e4 ?e5 (one_arr xs) [(arr xs, 22), (arr xs, 22), (teks (n % 4 + 1), 79), ((keysAt (w.heap.size + 2) (n % 4 + 1) xs), 46)] ?e6 ?_
       case e1 => rfl
       case e2 => rfl
       case e3 => rfl
       case e4 => rw [size_keys, size_arr, HX.out]; decide
       case e5 => exact HX22.out
       case e6 => rfl
       clear hb; intro W hb)
    | (refine step_make hb rfl 44 (.tmp 27) rfl 79 Z79 26 240 Yba.underlying44 info79 .i64 (m % 4 + 1) ?e1 ?e2 ?e3 ?e4 4 ?e5 ?_
       case e1 => rfl
       case e2 => omega
       case e3 => omega
       case e4 => omega
       case e5 => rfl
       clear hb; intro W hb; simp only [List.cons_append, List.nil_append] at hb)
    | (refine step_build rfl 46 #[(0, .tmp 28)] rfl [(0, .slice (some ⟨w.heap.size + 4, 0, none⟩) (m % 4 + 1).toNat (m % 4 + 1).toNat)] ?e1 (keys (w.heap.size + 4) (m % 4 + 1)) ?e2 ?_
       case e1 => rfl
       case e2 => exact made_keys (w.heap.size + 4) (m % 4 + 1))
    | (refine step_store hb rfl 46 (.tmp 12) (.tmp 29) rfl (w.heap.size + 5) 0 5 rfl ?e1 (keys (w.heap.size + 4) (m % 4 + 1)) ?e2 Z46 46 ?e3 ?e4 ?e5 (one_keys _ _) [(arr xs, 22), (arr xs, 22), (teks (n % 4 + 1), 79), ((keysAt (w.heap.size + 2) (n % 4 + 1) xs), 46), (teks (m % 4 + 1), 79), ((keys (w.heap.size + 4) (m % 4 + 1)), 46)] ?e6 ?_
       case e1 => rfl
       case e2 => rfl
       case e3 => rfl
       case e4 => rw [size_keys, size46]; decide
       case e5 => rw [size_keys]; exact info46
       case e6 => rw [splice_whole (by rw [size_keys, size46])]; rfl
       clear hb; intro W hb)
    | (refine step_store hb rfl 22 (.tmp 32) (.tmp 30) rfl (w.heap.size + 5) 1 5 rfl ?e1 (arr xs) ?e2 (keys (w.heap.size + 4) (m % 4 + 1)) 46 ?e3 ?e4 ?e5 (one_arr xs) [(arr xs, 22), (arr xs, 22), (teks (n % 4 + 1), 79), ((keysAt (w.heap.size + 2) (n % 4 + 1) xs), 46), (teks (m % 4 + 1), 79), ((keysAt (w.heap.size + 4) (m % 4 + 1) xs), 46)] ?e6 ?_
       case e1 => rfl
       case e2 => rfl
       case e3 => rfl
       case e4 => rw [size_keys, size_arr, HX.out]; decide
       case e5 => exact HX22.out
       case e6 => rfl
       clear hb; intro W hb)
    | (refine step_build rfl 66 #[(3, .tmp 11)] rfl [(3, .pointer (some ⟨w.heap.size + 3, 0, none⟩))] ?e1 (groupAt (w.heap.size + 3)) ?e2 ?_
       case e1 => rfl
       case e2 => exact made_group (w.heap.size + 3))
    | (refine step_box hb rfl 66 (.tmp 33) rfl (groupAt (w.heap.size + 3)) ?e1 6 ?e2 ?_
       case e1 => rfl
       case e2 => rfl
       clear hb; intro W hb; simp only [List.cons_append, List.nil_append] at hb)
    | (refine step_load hb rfl 46 (.tmp 12) rfl (w.heap.size + 5) 0 5 rfl ?e1 (keysAt (w.heap.size + 4) (m % 4 + 1) xs) 46 ?e2 (keysAt (w.heap.size + 4) (m % 4 + 1) xs) (extract_all rfl) _ Yba.underlying46 rfl ?e3 ?_
       case e1 => rfl
       case e2 => rfl
       case e3 => rw [HK.out]; exact info46)
    | (refine step_build rfl 53 #[(0, .tmp 34), (4, .tmp 35)] rfl [(0, .pointer (some ⟨w.heap.size + 6, 0, none⟩)), (4, .agg (keysAt (w.heap.size + 4) (m % 4 + 1) xs))] ?e1 (pullAt (w.heap.size + 6) (keysAt (w.heap.size + 4) (m % 4 + 1) xs)) ?e2 ?_
       case e1 => rfl
       case e2 => exact made_pull (w.heap.size + 6) (keysAt (w.heap.size + 4) (m % 4 + 1) xs) HK.out)
    | (refine step_box hb rfl 53 (.tmp 36) rfl (pullAt (w.heap.size + 6) (keysAt (w.heap.size + 4) (m % 4 + 1) xs)) ?e1 7 ?e2 ?_
       case e1 => rfl
       case e2 => rfl
       clear hb; intro W hb; simp only [List.cons_append, List.nil_append] at hb))
  go_ret
  exact ⟨rfl, hb⟩

set_option maxHeartbeats 1000000 in
theorem pull_other (xs ys : List UInt8) (hxs : xs.length = 16) (hys : ys.length = 16) (n m : Int) (w : World) (hn0 : 0 ≤ n) (hn1 : n ≤ 255) (hm0 : 0 ≤ m) (hm1 : m ≤ 255) :
    Calls Yba.prog 5 #[.agg (arr xs), .agg (arr ys), .bool false, .int .u8 n, .int .u8 m] w fun e w' =>
      e = .returned (.pointer (some ⟨w.heap.size + 7, 0, none⟩)) ∧ Blocks w w' (left w.heap.size xs ys (n % 4 + 1) (m % 4 + 1)) := by
  have hb := Blocks.refl w
  have HX : Hid (xs.length = 16) := hxs
  have HY : Hid (ys.length = 16) := hys
  have HX22 : Hid ((Yba.prog.info? 22).map (·.size) = some (arr xs).size) := isize22 xs hxs
  have HY22 : Hid ((Yba.prog.info? 22).map (·.size) = some (arr ys).size) := isize22 ys hys
  have HK : Hid ((keysAt (w.heap.size + 4) (m % 4 + 1) ys).size = 33) := size_keysAt _ _ _ hys
  clear hxs hys
  go_enter Yba.func5, Yba.ntmps5
  go_wp2_with (first
    | (refine step_box hb rfl 22 (.tmp 0) rfl (arr xs) ?e1 0 ?e2 ?_
       case e1 => rfl
       case e2 => rfl
       clear hb; intro W hb; simp only [List.nil_append] at hb)
    | (refine step_box hb rfl 22 (.tmp 1) rfl (arr ys) ?e1 1 ?e2 ?_
       case e1 => rfl
       case e2 => rfl
       clear hb; intro W hb; simp only [List.cons_append, List.nil_append] at hb)
    | (refine step_load hb rfl 22 (.tmp 5) rfl (w.heap.size + 0) 0 0 rfl ?e1 (arr xs) 22 ?e2 (arr xs) (extract_all rfl) _ Yba.underlying22 rfl ?e3 ?_
       case e1 => rfl
       case e2 => rfl
       case e3 => exact HX22.out)
    | (refine step_load hb rfl 22 (.tmp 6) rfl (w.heap.size + 1) 0 1 rfl ?e1 (arr ys) 22 ?e2 (arr ys) (extract_all rfl) _ Yba.underlying22 rfl ?e3 ?_
       case e1 => rfl
       case e2 => rfl
       case e3 => exact HY22.out)
    | (refine step_make hb rfl 44 (.tmp 18) rfl 79 Z79 26 240 Yba.underlying44 info79 .i64 (n % 4 + 1) ?e1 ?e2 ?e3 ?e4 2 ?e5 ?_
       case e1 => rfl
       case e2 => omega
       case e3 => omega
       case e4 => omega
       case e5 => rfl
       clear hb; intro W hb; simp only [List.cons_append, List.nil_append] at hb)
    | (refine step_build rfl 46 #[(0, .tmp 19)] rfl [(0, .slice (some ⟨w.heap.size + 2, 0, none⟩) (n % 4 + 1).toNat (n % 4 + 1).toNat)] ?e1 (keys (w.heap.size + 2) (n % 4 + 1)) ?e2 ?_
       case e1 => rfl
       case e2 => exact made_keys (w.heap.size + 2) (n % 4 + 1))
    | (refine step_alloc hb rfl 46 rfl Z46 z46 3 ?e1 ?_
       case e1 => rfl
       clear hb; intro W hb; simp only [List.cons_append, List.nil_append] at hb)
    | (refine step_alloc hb rfl 46 rfl Z46 z46 5 ?e1 ?_
       case e1 => rfl
       clear hb; intro W hb; simp only [List.cons_append, List.nil_append] at hb)
    | (refine step_store hb rfl 46 (.tmp 11) (.tmp 20) rfl (w.heap.size + 3) 0 3 rfl ?e1 (keys (w.heap.size + 2) (n % 4 + 1)) ?e2 Z46 46 ?e3 ?e4 ?e5 (one_keys _ _) [(arr xs, 22), (arr ys, 22), (teks (n % 4 + 1), 79), ((keys (w.heap.size + 2) (n % 4 + 1)), 46)] ?e6 ?_
       case e1 => rfl
       case e2 => rfl
       case e3 => rfl
       case e4 => rw [size_keys, size46]; decide
       case e5 => rw [size_keys]; exact info46
       case e6 => rw [splice_whole (by rw [size_keys, size46])]; rfl
       clear hb; intro W hb)
    | (refine step_store hb rfl 22 (.tmp 23) (.tmp 21) rfl (w.heap.size + 3) 1 3 rfl ?e1 (arr xs) ?e2 (keys (w.heap.size + 2) (n % 4 + 1)) 46 ?e3 ?e4 ?e5 (one_arr xs) [(arr xs, 22), (arr ys, 22), (teks (n % 4 + 1), 79), ((keysAt (w.heap.size + 2) (n % 4 + 1) xs), 46)] ?e6 ?_
       case e1 => rfl
       case e2 => rfl
       case e3 => rfl
       case e4 => rw [size_keys, size_arr, HX.out]; decide
       case e5 => exact HX22.out
       case e6 => rfl
       clear hb; intro W hb)
    | (refine step_make hb rfl 44 (.tmp 27) rfl 79 Z79 26 240 Yba.underlying44 info79 .i64 (m % 4 + 1) ?e1 ?e2 ?e3 ?e4 4 ?e5 ?_
       case e1 => rfl
       case e2 => omega
       case e3 => omega
       case e4 => omega
       case e5 => rfl
       clear hb; intro W hb; simp only [List.cons_append, List.nil_append] at hb)
    | (refine step_build rfl 46 #[(0, .tmp 28)] rfl [(0, .slice (some ⟨w.heap.size + 4, 0, none⟩) (m % 4 + 1).toNat (m % 4 + 1).toNat)] ?e1 (keys (w.heap.size + 4) (m % 4 + 1)) ?e2 ?_
       case e1 => rfl
       case e2 => exact made_keys (w.heap.size + 4) (m % 4 + 1))
    | (refine step_store hb rfl 46 (.tmp 12) (.tmp 29) rfl (w.heap.size + 5) 0 5 rfl ?e1 (keys (w.heap.size + 4) (m % 4 + 1)) ?e2 Z46 46 ?e3 ?e4 ?e5 (one_keys _ _) [(arr xs, 22), (arr ys, 22), (teks (n % 4 + 1), 79), ((keysAt (w.heap.size + 2) (n % 4 + 1) xs), 46), (teks (m % 4 + 1), 79), ((keys (w.heap.size + 4) (m % 4 + 1)), 46)] ?e6 ?_
       case e1 => rfl
       case e2 => rfl
       case e3 => rfl
       case e4 => rw [size_keys, size46]; decide
       case e5 => rw [size_keys]; exact info46
       case e6 => rw [splice_whole (by rw [size_keys, size46])]; rfl
       clear hb; intro W hb)
    | (refine step_store hb rfl 22 (.tmp 32) (.tmp 30) rfl (w.heap.size + 5) 1 5 rfl ?e1 (arr ys) ?e2 (keys (w.heap.size + 4) (m % 4 + 1)) 46 ?e3 ?e4 ?e5 (one_arr ys) [(arr xs, 22), (arr ys, 22), (teks (n % 4 + 1), 79), ((keysAt (w.heap.size + 2) (n % 4 + 1) xs), 46), (teks (m % 4 + 1), 79), ((keysAt (w.heap.size + 4) (m % 4 + 1) ys), 46)] ?e6 ?_
       case e1 => rfl
       case e2 => rfl
       case e3 => rfl
       case e4 => rw [size_keys, size_arr, HY.out]; decide
       case e5 => exact HY22.out
       case e6 => rfl
       clear hb; intro W hb)
    | (refine step_build rfl 66 #[(3, .tmp 11)] rfl [(3, .pointer (some ⟨w.heap.size + 3, 0, none⟩))] ?e1 (groupAt (w.heap.size + 3)) ?e2 ?_
       case e1 => rfl
       case e2 => exact made_group (w.heap.size + 3))
    | (refine step_box hb rfl 66 (.tmp 33) rfl (groupAt (w.heap.size + 3)) ?e1 6 ?e2 ?_
       case e1 => rfl
       case e2 => rfl
       clear hb; intro W hb; simp only [List.cons_append, List.nil_append] at hb)
    | (refine step_load hb rfl 46 (.tmp 12) rfl (w.heap.size + 5) 0 5 rfl ?e1 (keysAt (w.heap.size + 4) (m % 4 + 1) ys) 46 ?e2 (keysAt (w.heap.size + 4) (m % 4 + 1) ys) (extract_all rfl) _ Yba.underlying46 rfl ?e3 ?_
       case e1 => rfl
       case e2 => rfl
       case e3 => rw [HK.out]; exact info46)
    | (refine step_build rfl 53 #[(0, .tmp 34), (4, .tmp 35)] rfl [(0, .pointer (some ⟨w.heap.size + 6, 0, none⟩)), (4, .agg (keysAt (w.heap.size + 4) (m % 4 + 1) ys))] ?e1 (pullAt (w.heap.size + 6) (keysAt (w.heap.size + 4) (m % 4 + 1) ys)) ?e2 ?_
       case e1 => rfl
       case e2 => exact made_pull (w.heap.size + 6) (keysAt (w.heap.size + 4) (m % 4 + 1) ys) HK.out)
    | (refine step_box hb rfl 53 (.tmp 36) rfl (pullAt (w.heap.size + 6) (keysAt (w.heap.size + 4) (m % 4 + 1) ys)) ?e1 7 ?e2 ?_
       case e1 => rfl
       case e2 => rfl
       clear hb; intro W hb; simp only [List.cons_append, List.nil_append] at hb))
  go_ret
  exact ⟨rfl, hb⟩
end Go.Proofs.Ybulkrvo
