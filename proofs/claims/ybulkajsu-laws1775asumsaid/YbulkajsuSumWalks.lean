import Derived.Test.YbulkajsuRows
import Derived.WalkKit
import Derived.WalkSpells
import Derived.WalkLawsBesides
import Derived.Deep.QuietTactic
import Derived.BigQuiet
import Derived.RegionTactic
import Derived.Below
import Derived.Deep.RegionWith
namespace Go.Proofs.Ybulkajsu.Sum
open Go.RowKit

set_option maxHeartbeats 400000 in
theorem make_any (a b c d : Int) (w : World) :
    Calls Yba.prog 7 #[.agg #[.int .i64 a, .int .i64 b, .int .i64 c, .int .i64 d]] w fun e w' =>
      e = .returned (.agg #[.int .i64 a, .int .i64 b, .int .i64 c, .int .i64 d]) ∧
      w' = (w.alloc (.cells #[.int .i64 a, .int .i64 b, .int .i64 c, .int .i64 d] 23)).alloc (.cells #[.int .i64 a, .int .i64 b, .int .i64 c, .int .i64 d] 25) := by
  go_enter Yba.func7, Yba.ntmps7
  go_wp2
  exact bodyPost_ret (v := .agg #[.int .i64 a, .int .i64 b, .int .i64 c, .int .i64 d]) (by simp [results, Yba.results7, go_sem]) rfl ⟨rfl, rfl⟩


theorem old_cell {w : World} {g o : Nat} {v : Value} (h : w.cell? ⟨g, o, none⟩ = some v) (x : Obj) : (w.alloc x).cell? ⟨g, o, none⟩ = some v :=
  cell_later ((Below.refl _ _).alloc (Nat.le_refl _) _) h
theorem old_frozen {w : World} {g o : Nat} (hg : g < w.heap.size) (h : w.frozen? ⟨g, o, none⟩ = false) (x : Obj) : (w.alloc x).frozen? ⟨g, o, none⟩ = false :=
  (((Below.refl w.heap.size w).alloc (Nat.le_refl _) x).frozen (p := ⟨g, o, none⟩) hg).trans h

set_option maxHeartbeats 400000 in
theorem add_any (g : Nat) (a b c d a' b' c' d' : Int) (w : World) (hg : g < w.heap.size)
   (h0 : w.cell? ⟨g, 0, none⟩ = some (.int .i64 a)) (h1 : w.cell? ⟨g, 1, none⟩ = some (.int .i64 b))
   (h2 : w.cell? ⟨g, 2, none⟩ = some (.int .i64 c)) (h3 : w.cell? ⟨g, 3, none⟩ = some (.int .i64 d))
   (f0 : w.frozen? ⟨g, 0, none⟩ = false) (f1 : w.frozen? ⟨g, 1, none⟩ = false) 
   (f2 : w.frozen? ⟨g, 2, none⟩ = false) (f3 : w.frozen? ⟨g, 3, none⟩ = false) :
    Calls Yba.prog 8 #[.pointer (some ⟨g, 0, none⟩), .agg #[.int .i64 a', .int .i64 b', .int .i64 c', .int .i64 d']] w fun e w' =>
      e = .returned (.tuple #[]) ∧
      w' = (((((w.setCell ⟨g, 0, none⟩ (.int .i64 (wrap64 (a + a')))).setCell ⟨g, 1, none⟩ (.int .i64 (wrap64 (b + b')))).setCell ⟨g, 2, none⟩ (.int .i64 (wrap64 (c + c')))).setCell ⟨g, 3, none⟩ (.int .i64 (wrap64 (d + d')))).alloc (.cells #[.int .i64 a', .int .i64 b', .int .i64 c', .int .i64 d'] 25)).drew.drew.drew.drew := by
  have h0' := old_cell h0
  have h1' := old_cell h1
  have h2' := old_cell h2
  have h3' := old_cell h3
  have f0' := old_frozen hg f0
  have f1' := old_frozen hg f1
  have f2' := old_frozen hg f2
  have f3' := old_frozen hg f3
  go_enter Yba.func8, Yba.ntmps8
  go_wp2
  go_region
  go_wp2
  go_region
  go_wp2
  go_region
  go_wp2
  go_region
  go_end0
  exact ⟨rfl, rfl⟩

set_option maxHeartbeats 800000 in
theorem walk (a b c d a' b' c' d' : Int) (w : World) :
    Calls Yba.prog 3 #[.agg #[.int .i64 a, .int .i64 b, .int .i64 c, .int .i64 d], .agg #[.int .i64 a', .int .i64 b', .int .i64 c', .int .i64 d']] w fun e w' =>
      e = .returned (.bool true) ∧ Below w.heap.size w w' := by
  go_enter Yba.func3, Yba.ntmps3
  go_wp2_with fail
  refine (make_any a b c d _).mono ?_
  rintro e w' ⟨rfl, rfl⟩
  go_wp2_with fail
  refine (make_any a' b' c' d' _).mono ?_
  rintro e w' ⟨rfl, rfl⟩
  go_wp2_with fail
  refine (add_any _ a b c d a' b' c' d' _ (by simp [go_sem]) (by simp [go_sem]) (by simp [go_sem]) (by simp [go_sem]) (by simp [go_sem]) (by simp [go_sem]) (by simp [go_sem]) (by simp [go_sem]) (by simp [go_sem])).mono ?_
  rintro e w' ⟨rfl, rfl⟩
  go_wp2_with fail
  go_region_with (go_at_call 7; refine (make_any a' b' c' d' _).mono ?_; rintro e w' ⟨rfl, rfl⟩)
  all_goals
    go_wp2
    go_ret
    refine ⟨by simp [go_sem], ?_⟩
    repeat (first | exact Below.refl _ _ | refine Below.drew ?_ | refine Below.alloc ?_ (by simp; try omega) _)
end Go.Proofs.Ybulkajsu.Sum
