import Derived.Test.YbulkajsuRows
import Derived.WalkKit
import Derived.WalkSpells
import Derived.WalkLawsBesides
import Derived.Deep.QuietTactic
import Derived.BigQuiet
import Derived.RegionTactic
import Derived.Deep.RegionWith
import Derived.Below
import Derived.Lib.Strings
import Derived.Lib.Slices
import Derived.Lib.Walk
import Derived.Lib.Bytealg
namespace Go.Proofs.Ybulkajsu.C
open Go.RowKit

/-- The four keys by their rank in byte order. -/
def keyB : Nat → ByteArray
  | 0 => ⟨#[]⟩
  | 1 => ⟨#[97]⟩
  | 2 => ⟨#[97, 98]⟩
  | _ => ⟨#[98]⟩
/-- The rank of the key that zzs1775ckey gives for i. -/
def rk : Nat → Nat
  | 0 => 1
  | 1 => 3
  | 2 => 2
  | _ => 0
def sgn (i j : Nat) : Int := if i < j then -1 else if j < i then 1 else 0

theorem cmp_keys : ∀ i j, i < 4 → j < 4 → Lib.compareBytes (keyB i).data.toList (keyB j).data.toList = sgn i j := by
  intro i j hi hj
  rcases (show i = 0 ∨ i = 1 ∨ i = 2 ∨ i = 3 by omega) with rfl | rfl | rfl | rfl <;>
    rcases (show j = 0 ∨ j = 1 ∨ j = 2 ∨ j = 3 by omega) with rfl | rfl | rfl | rfl <;> decide

set_option maxHeartbeats 1000000 in
set_option maxRecDepth 100000 in
theorem compareString (a b : ByteArray) (w : World) :
    Calls Yba.prog 92 #[.string a, .string b] w fun e w' => e = .returned (.int .i64 (Lib.compareBytes a.data.toList b.data.toList)) ∧ w' = w := by
  go_enter Yba.func92, Yba.ntmps92
  go_wp2
  rw [run_callFunc_extern Yba.func93 (by kernel_rfl) (by kernel_rfl) (by kernel_rfl) (e := Extern.BytealgCompare.compare) (by kernel_rfl), Lib.run_compareString]
  simp only [Result.andThen]
  rw [Oper.upon_value]
  go_wp2
  go_ret
  exact ⟨rfl, rfl⟩

set_option maxHeartbeats 1000000 in
theorem stringsCompare (a b : ByteArray) (w : World) :
    Calls Yba.prog 91 #[.string a, .string b] w fun e w' => e = .returned (.int .i64 (Lib.compareBytes a.data.toList b.data.toList)) ∧ w' = w := by
  go_enter Yba.func91, Yba.ntmps91
  go_wp2_with (go_at_call 92; refine (compareString _ _ _).mono ?_; rintro e w' ⟨rfl, rfl⟩)
  go_ret
  exact ⟨rfl, rfl⟩

set_option maxHeartbeats 1000000 in
theorem compare90 (a b : ByteArray) (x y : Int) (w : World) :
    Calls Yba.prog 90 #[.agg #[], .agg #[.string a, .int .u64 x], .agg #[.string b, .int .u64 y]] w fun e w' => e = .returned (.int .i64 (Lib.compareBytes a.data.toList b.data.toList)) ∧
      w' = ((w.alloc (.cells #[] 51)).alloc (.cells #[.string a, .int .u64 x] 50)).alloc (.cells #[.string b, .int .u64 y] 50) := by
  go_enter Yba.func90, Yba.ntmps90
  go_wp2_with (go_at_call 91; refine (stringsCompare _ _ _).mono ?_; rintro e w' ⟨rfl, rfl⟩)
  go_ret
  exact ⟨rfl, rfl⟩

set_option maxHeartbeats 1000000 in
theorem ckey (k : Nat) (hk : k < 4) (w : World) :
    Calls Yba.prog 10 #[.int .i64 k] w fun e w' => e = .returned (.string (keyB (rk k))) ∧ w' = w := by
  rcases (show k = 0 ∨ k = 1 ∨ k = 2 ∨ k = 3 by omega) with rfl | rfl | rfl | rfl
  all_goals
    go_enter Yba.func10, Yba.ntmps10
    go_wp2
    go_ret
    exact ⟨rfl, rfl⟩

set_option maxHeartbeats 1000000 in
theorem leq89 (x y : Int) (w : World) :
    Calls Yba.prog 89 #[.int .u64 x, .int .u64 y] w fun e w' => e = .returned (.bool (decide (x ≤ y))) ∧ w' = w := by
  go_enter Yba.func89, Yba.ntmps89
  go_wp2
  go_ret
  exact ⟨rfl, rfl⟩

set_option maxHeartbeats 1000000 in
theorem decompose0 (w : World) :
    Calls Yba.prog 87 #[.int .u64 0] w fun e w' => e = .returned (.slice none 0 0) ∧ w' = w := by
  go_enter Yba.func87, Yba.ntmps87
  go_wp2
  go_ret
  exact ⟨rfl, rfl⟩

set_option maxHeartbeats 1000000 in
theorem decompose1 (x : Int) (hx : 0 < x) (w : World) :
    Calls Yba.prog 87 #[.int .u64 x] w fun e w' => e = .returned (.slice (some ⟨w.heap.size, 0, none⟩) 1 1) ∧ w' = w.alloc (.cells #[.int .u64 x] 45) := by
  have h : (x == 0) = false := beq_eq_false_iff_ne.2 (by omega)
  go_enter Yba.func87, Yba.ntmps87
  go_wp2
  go_ret
  exact ⟨rfl, rfl⟩

set_option maxHeartbeats 1000000 in
theorem join88 (x y : Int) (w : World) :
    Calls Yba.prog 88 #[.int .u64 x, .int .u64 y] w fun e w' => e = .returned (.int .u64 (if x < y then y else x)) ∧ w' = w := by
  by_cases h : x < y
  all_goals
    go_enter Yba.func88, Yba.ntmps88
    go_wp2
    go_ret
    exact ⟨by simp, rfl⟩

set_option maxHeartbeats 1000000 in
theorem sizeNil (w : World) :
    Calls Yba.prog 35 #[.pointer none] w fun e w' => e = .returned (.int .i64 0) ∧ w' = w := by
  go_enter Yba.func35, Yba.ntmps35
  go_wp2
  go_ret
  exact ⟨rfl, rfl⟩

set_option maxHeartbeats 1000000 in
theorem weightNil (w : World) :
    Calls Yba.prog 48 #[.pointer none] w fun e w' => e = .returned (.int .i64 1) ∧ w' = w := by
  go_enter Yba.func48, Yba.ntmps48
  go_wp2
  go_ret
  exact ⟨rfl, rfl⟩

set_option maxHeartbeats 1000000 in
theorem sizeNode (g n : Nat) (w : World) (h : w.cell? ⟨g, 3, none⟩ = some (.int .i64 n)) :
    Calls Yba.prog 35 #[.pointer (some ⟨g, 0, none⟩)] w fun e w' => e = .returned (.int .i64 n) ∧ w' = w := by
  go_enter Yba.func35, Yba.ntmps35
  go_wp2
  go_ret
  exact ⟨rfl, rfl⟩

set_option maxHeartbeats 1000000 in
theorem newNode (a : Option Addr) (n c : Nat) (hn : n ≤ 1000) (w : World) :
    Calls Yba.prog 36 #[.pointer none, .slice a n c, .pointer none] w fun e w' => e = .returned (.pointer (some ⟨w.heap.size, 0, none⟩)) ∧
      w' = w.alloc (.cells #[.slice a n c, .pointer none, .pointer none, .int .i64 n, .int .i64 1] 77) := by
  go_enter Yba.func36, Yba.ntmps36
  go_wp2_with (first
    | (go_at_call 35; refine (sizeNil _).mono ?_; rintro e w' ⟨rfl, rfl⟩)
    | (go_at_call 48; refine (weightNil _).mono ?_; rintro e w' ⟨rfl, rfl⟩))
  go_ret
  exact ⟨rfl, by simp⟩

set_option maxHeartbeats 1000000 in
theorem with1 (a b : ByteArray) (x y : Int) (w : World) :
    Calls Yba.prog 27 #[.agg #[.string a, .int .u64 x], .agg #[.string b, .int .u64 y]] w fun e w' => e = .returned (.agg #[.string b, .int .u64 y]) ∧
      w' = ((w.alloc (.cells #[.string a, .int .u64 x] 50)).alloc (.cells #[.string b, .int .u64 y] 50)).alloc (.cells #[.string b, .int .u64 y] 50) := by
  go_enter Yba.func27, Yba.ntmps27
  go_wp2
  exact bodyPost_ret (v := .agg #[.string b, .int .u64 y]) (by simp [results, Yba.results27, go_sem]) rfl ⟨rfl, rfl⟩
end Go.Proofs.Ybulkajsu.C
