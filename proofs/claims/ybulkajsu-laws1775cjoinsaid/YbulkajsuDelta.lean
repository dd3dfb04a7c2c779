import Derived.Test.YbulkajsuLeaves
import Derived.LoopN
import Derived.Stop.Asserts
import Derived.OwnWalk
import Derived.Maps.AppendAt
import Derived.RangeFuncBox
namespace Go.Proofs.Ybulkajsu.C
open Go.RowKit

set_option maxRecDepth 100000 in
set_option maxHeartbeats 400000 in
theorem joinAll0 (w : World) :
    Calls Yba.prog 28 #[.slice none 0 0] w fun e w' => e = .returned (.int .u64 0) ∧ w' = w := by
  go_enter Yba.func28, Yba.ntmps28
  go_wp2
  go_ret
  exact ⟨rfl, rfl⟩

set_option maxRecDepth 100000 in
set_option maxHeartbeats 400000 in
theorem joinAll1 (g c : Nat) (x : Int) (w : World) (h : w.cell? ⟨g, 0, none⟩ = some (.int .u64 x)) :
    Calls Yba.prog 28 #[.slice (some ⟨g, 0, none⟩) 1 c] w fun e w' => e = .returned (.int .u64 x) ∧ w' = w := by
  go_enter Yba.func28, Yba.ntmps28
  go_wp2
  go_ret
  exact ⟨rfl, rfl⟩

theorem method_leq (x : Int) (w : World) : (method 238 45 (.int .u64 x) "Leq").run Yba.prog w = .ok (89, .int .u64 x) w := by kernel_rfl
theorem method_dec (x : Int) (w : World) : (method 238 45 (.int .u64 x) "Decompose").run Yba.prog w = .ok (87, .int .u64 x) w := by kernel_rfl
theorem no_direct (x : Int) (w : World) : (Instr.typeAssert (.iface 45 (.int .u64 x)) 20 69 true).run Yba.prog w = .ok (.tuple #[.nilIface, .bool false]) w := run_typeAssert_lacksB Yba.underlying69 (by kernel_rfl) (by kernel_rfl) _ 20 w

set_option maxRecDepth 100000 in
set_option maxHeartbeats 400000 in
theorem isBottom (x : Int) (w : World) :
    Calls Yba.prog 18 #[.int .u64 x] w fun e w' => e = .returned (.bool (decide (x ≤ 0))) ∧ w' = w := by
  have hm := method_leq
  go_enter Yba.func18, Yba.ntmps18
  go_wp2_with (go_at_call 89; refine (leq89 _ _ _).mono ?_; rintro e w' ⟨rfl, rfl⟩)
  go_ret
  exact ⟨rfl, rfl⟩

set_option maxRecDepth 100000 in
set_option maxHeartbeats 400000 in
theorem delta0 (x : Int) (w : World) :
    Calls Yba.prog 17 #[.int .u64 0, .int .u64 x] w fun e w' => e = .returned (.int .u64 0) ∧ Below w.heap.size w w' := by
  have hm := method_leq
  have hd := method_dec
  have ha := no_direct
  go_enter Yba.func17, Yba.ntmps17
  go_wp2_with (first | (go_at_call 87; refine (decompose0 _).mono ?_; rintro e w' ⟨rfl, rfl⟩))
  refine wp_loop_rounds 1 ?_
  rw [rounds_succ]
  go_wp2_with (first | (go_at_call 28; refine (joinAll0 _).mono ?_; rintro e w' ⟨rfl, rfl⟩))
  go_ret
  exact ⟨rfl, Below.refl _ _⟩

set_option maxRecDepth 100000 in
set_option maxHeartbeats 400000 in
theorem deltaLe (d x : Int) (hd0 : 0 < d) (hx : d ≤ x) (w : World) :
    Calls Yba.prog 17 #[.int .u64 d, .int .u64 x] w fun e w' => e = .returned (.int .u64 0) ∧ Below w.heap.size w w' := by
  have hm := method_leq
  have hd := method_dec
  have ha := no_direct
  go_enter Yba.func17, Yba.ntmps17
  go_wp2_with (first | (go_at_call 87; refine (decompose1 _ hd0 _).mono ?_; rintro e w' ⟨rfl, rfl⟩))
  refine wp_loop_rounds 2 ?_
  rw [rounds_succ]
  go_wp2_with (first | (go_at_call 89; refine (leq89 _ _ _).mono ?_; rintro e w' ⟨rfl, rfl⟩))
  rw [rounds_succ]
  go_wp2_with (first | (go_at_call 28; refine (joinAll0 _).mono ?_; rintro e w' ⟨rfl, rfl⟩))
  go_ret
  exact ⟨rfl, (Below.refl _ _).alloc (Nat.le_refl _) _⟩

theorem cell_one_at (w : World) (x : Value) (t : TypeId) (n : Nat) (hn : n = w.heap.size) : ∀ j u, [x][j]? = some u → (w.alloc (.cells #[x] t)).cell? ((⟨n, 0, none⟩ : Addr).add j) = some u := by
  subst hn; exact cell_one_new w x t
/-- The first cell of a row of one element that is owned. -/
theorem own_one {w : World} {base g cap : Nat} {e : TypeId} {x : Value} (h : w.ownsRow base e 1 (.slice (some ⟨g, 0, none⟩) 1 cap) 1 [x]) : base ≤ g ∧ w.cell? ⟨g, 0, none⟩ = some x := by
  rcases h.2 with ⟨h0, _⟩ | ⟨g', cap', cur, hv, hb, hc, _, _, _, ht⟩
  · cases h0
  · simp at hv
    obtain ⟨rfl, rfl⟩ := hv
    refine ⟨hb, ?_⟩
    obtain ⟨l⟩ := cur
    match l, ht with
    | y :: r, ht =>
      simp at ht
      simp [World.cell?, hc, ht]
    | [], ht => simp at ht
theorem info45 : (Yba.prog.info? 45).map (fun i => (i.zero, i.size, i.bytes)) = some (some (.int .u64 0), 1, 8) := by kernel_rfl

set_option maxRecDepth 100000 in
set_option maxHeartbeats 400000 in
theorem deltaGt (d x : Int) (hd0 : 0 < d) (hx : x < d) (w : World) :
    Calls Yba.prog 17 #[.int .u64 d, .int .u64 x] w fun e w' => e = .returned (.int .u64 d) ∧ Below w.heap.size w w' := by
  have hm := method_leq
  have hd := method_dec
  have ha := no_direct
  have hle : decide (d ≤ x) = false := decide_eq_false (by omega)
  obtain ⟨i0, hi, hz0, hz1, hz2⟩ := info_parts info45
  go_enter Yba.func17, Yba.ntmps17
  go_wp2_with (first | (go_at_call 87; refine (decompose1 _ hd0 _).mono ?_; rintro e w' ⟨rfl, rfl⟩))
  refine wp_loop_rounds 2 ?_
  rw [rounds_succ]
  go_wp2_with (first
    | (go_at_call 89; refine (leq89 _ _ _).mono ?_; rintro e w' ⟨rfl, rfl⟩)
    | (at_builtin; go_must (refine wpList_append_own _ rfl _ _ 72 rfl w.heap.size 45 i0 (.int .u64 0) 1 8 Yba.underlying72 hi hz0 hz1 hz2 rfl (by decide) _ 0 [] rfl (World.ownsRow_nil _ _ _ _) ⟨w.heap.size + 1, 0, none⟩ 1 1 [.int .u64 d] rfl rfl (cell_one_at _ _ _ _ (by simp)) (by simp [Value.oneCell']) (by decide) (by decide) (by simp; omega) ?_); intro v' w1 hown' hgrow _; obtain ⟨g', cap', rfl⟩ := ownsRow_succ hown'))
  have hw1 := own_one (by simpa using hown')
  rw [rounds_succ]
  go_wp2_with (first | (go_at_call 28; refine (joinAll1 g' cap' d _ hw1.2).mono ?_; rintro e w' ⟨rfl, rfl⟩))
  go_ret
  refine ⟨rfl, (((Below.refl w.heap.size w).alloc (Nat.le_refl _) _).alloc (by simp) _).grown hgrow (by simp; omega) (fun k hk => by cases hk)⟩

end Go.Proofs.Ybulkajsu.C
