/-
  DERIVED. Centre: the walks of centre and square: two regions that draw their order and hold two calls each.
-/
import Derived.Test.YbulkbioyFloats
import Derived.Deep.RegionHeld3
namespace Go.Proofs.Ybulkbioy
open Go.RowKit
attribute [local go_sem] store_float

set_option maxHeartbeats 1600000 in
theorem centre_at (hs : Nat) (ha c r : Int) (w : World) (hx : (Grid.midV hs c).isSome = true) (hy : (Grid.midV hs r).isSome = true) :
    Calls Yba.prog 17 #[.agg #[.float .f64 hs, .int .i32 ha], .agg #[.int .i32 c, .int .i32 r]] w fun e w' =>
      e = .returned (.agg #[.float .f64 (Grid.mid hs c), .float .f64 (Grid.mid hs r)]) ∧ Below w.heap.size w w' := by
  have Hx : Hid ((Grid.midV hs c).isSome = true) := hx
  have Hy : Hid ((Grid.midV hs r).isSome = true) := hy
  clear hx hy
  go_enter Yba.func17, Yba.ntmps17
  go_wp2
  go_region_held3 (fun w' => w'.cell? ⟨w.heap.size, 0, none⟩ = some (.float .f64 hs) ∧ w'.cell? ⟨w.heap.size + 1, 0, none⟩ = some (.int .i32 c) ∧ w'.cell? ⟨w.heap.size + 1, 1, none⟩ = some (.int .i32 r)) (go_keep)
    (first | (go_at_call 21; refine (mid_fun _ hs _ _ ?_ ?_).mono ?_; (simp [*]); (first | exact Hx.out | exact Hy.out); rintro e w' ⟨rfl, rfl⟩))
  go_wp2
  refine bodyPost_ret (v := .agg #[.float .f64 (Grid.mid hs c), .float .f64 (Grid.mid hs r)]) (by simp [results, Yba.results17, go_sem]) rfl ⟨rfl, ?_⟩
  repeat (first | exact Below.refl _ _ | refine Below.drew ?_ | refine Below.setCell ?_ (by simp only [World.heap_alloc_size]; omega) _ | refine Below.alloc ?_ (by simp <;> omega) _)

theorem deep0 (w : World) (c : Array Value) (t : TypeId) (o2 o3 o4 o5 : Obj) (j : Nat) :
    (((((w.alloc (.cells c t)).alloc o2).alloc o3).alloc o4).alloc o5).cell? ⟨w.heap.size, j, none⟩ = c[j]? := by
  rw [World.cell?_alloc_lt _ _ _ (by simp only [World.size_alloc]; omega), World.cell?_alloc_lt _ _ _ (by simp only [World.size_alloc]; omega), World.cell?_alloc_lt _ _ _ (by simp only [World.size_alloc]; omega), World.cell?_alloc_lt _ _ _ (by simp)]
  simp
theorem deep1 (w : World) (c : Array Value) (t : TypeId) (o1 o3 o4 o5 : Obj) (j : Nat) :
    (((((w.alloc o1).alloc (.cells c t)).alloc o3).alloc o4).alloc o5).cell? ⟨w.heap.size + 1, j, none⟩ = c[j]? := by
  rw [World.cell?_alloc_lt _ _ _ (by simp only [World.size_alloc]; omega), World.cell?_alloc_lt _ _ _ (by simp only [World.size_alloc]; omega), World.cell?_alloc_lt _ _ _ (by simp)]
  simp

set_option maxHeartbeats 1600000 in
theorem square_at (cs : Nat) (ca : Int) (x y : Nat) (w : World) (ca0 : 1 ≤ ca) (ca1 : ca ≤ 15) (hx : (Grid.idxV cs ca x).isSome = true) (hy : (Grid.idxV cs ca y).isSome = true) :
    Calls Yba.prog 16 #[.agg #[.float .f64 cs, .int .i32 ca], .agg #[.float .f64 x, .float .f64 y]] w fun e w' =>
      e = .returned (.agg #[.int .i32 (Grid.idx cs ca x), .int .i32 (Grid.idx cs ca y)]) ∧ Below w.heap.size w w' := by
  have Hx : Hid ((Grid.idxV cs ca x).isSome = true) := hx
  have Hy : Hid ((Grid.idxV cs ca y).isSome = true) := hy
  clear hx hy
  go_enter Yba.func16, Yba.ntmps16
  go_wp2
  go_region_held3 (fun w' => w'.cell? ⟨w.heap.size, 0, none⟩ = some (.float .f64 cs) ∧ w'.cell? ⟨w.heap.size, 1, none⟩ = some (.int .i32 ca) ∧ w'.cell? ⟨w.heap.size + 1, 0, none⟩ = some (.float .f64 x) ∧ w'.cell? ⟨w.heap.size + 1, 1, none⟩ = some (.float .f64 y)) (first | (go_keep; done) | (simp [deep0, deep1]; done))
    (first | (go_at_call 20; refine (index_fun cs _ ca _ ca0 ca1 ?_).mono ?_; (first | exact Hx.out | exact Hy.out); rintro e w' ⟨rfl, rfl⟩))
  go_wp2
  refine bodyPost_ret (v := .agg #[.int .i32 (Grid.idx cs ca x), .int .i32 (Grid.idx cs ca y)]) (by simp [results, Yba.results16, go_sem]) rfl ⟨rfl, ?_⟩
  repeat (first | exact Below.refl _ _ | refine Below.drew ?_ | refine Below.setCell ?_ (by simp) _ | refine Below.alloc ?_ (by simp <;> omega) _)
end Go.Proofs.Ybulkbioy
