import Derived.Test.YbulkajsuBuild
namespace Go.Proofs.Ybulkajsu.C
open Go.RowKit

def BuildSays (a0 a1 : Option Addr) (len0 cap0 len1 cap1 : Nat) (w : World) : Prop :=
  Calls Yba.prog 9 #[.slice a0 len0 cap0, .slice a1 len1 cap1] w fun e w' =>
      ∃ root c0 c1 c2 c3, e = .returned (.tuple #[.agg #[.pointer root, .int .u64 0], .agg #[.int .u64 c0, .int .u64 c1, .int .u64 c2, .int .u64 c3]]) ∧ Four c0 c1 c2 c3 ∧ Tree w' root (mk c3 c0 c2 c1) ∧ Below w.heap.size w w'

set_option maxRecDepth 100000 in
set_option maxHeartbeats 1000000 in
theorem build_zero1 (a0 a1 : Option Addr) (len0 cap0 cap1 : Nat) (w : World) (hlt : 0 < len0) : BuildSays a0 a1 len0 cap0 0 cap1 w := by
  have hI : (0 : Int) < (len0 : Int) := by omega
  unfold BuildSays
  go_enter Yba.func9, Yba.ntmps9
  go_wp2_with fail
  refine wp_loop_rounds 1 ?_
  rw [rounds_succ]
  go_wp2_with fail
  go_region
  go_wp2_with fail
  refine bodyPost_ret (v := .tuple #[.agg #[.pointer none, .int .u64 0], .agg #[.int .u64 0, .int .u64 0, .int .u64 0, .int .u64 0]]) (by simp [results, Yba.results9, go_sem]) rfl ⟨none, 0, 0, 0, 0, rfl, by unfold Four; omega, .inl ⟨rfl, rfl⟩, ?_⟩
  repeat (first | exact Below.refl _ _ | refine Below.drew ?_ | refine Below.alloc ?_ (by first | omega | (simp; done) | (simp; omega)) _)

set_option maxRecDepth 100000 in
set_option maxHeartbeats 1000000 in
theorem build_zero2 (a0 a1 : Option Addr) (cap0 len1 cap1 : Nat) (w : World) : BuildSays a0 a1 0 cap0 len1 cap1 w := by
  have hI : ¬ (len1 : Int) < (0 : Int) := by omega
  unfold BuildSays
  go_enter Yba.func9, Yba.ntmps9
  go_wp2_with fail
  refine wp_loop_rounds 1 ?_
  rw [rounds_succ]
  go_wp2_with fail
  go_region
  go_wp2_with fail
  refine bodyPost_ret (v := .tuple #[.agg #[.pointer none, .int .u64 0], .agg #[.int .u64 0, .int .u64 0, .int .u64 0, .int .u64 0]]) (by simp [results, Yba.results9, go_sem]) rfl ⟨none, 0, 0, 0, 0, rfl, by unfold Four; omega, .inl ⟨rfl, rfl⟩, ?_⟩
  repeat (first | exact Below.refl _ _ | refine Below.drew ?_ | refine Below.alloc ?_ (by first | omega | (simp; done) | (simp; omega)) _)

theorem build_any (a0 a1 : Option Addr) (len0 cap0 len1 cap1 : Nat) (f0 f1 : Nat → Int) (w : World) (h0 : Bytes w a0 len0 f0) (h1 : Bytes w a1 len1 f1) (l0 : len0 ≤ 1024) (l1 : len1 ≤ 1024) : BuildSays a0 a1 len0 cap0 len1 cap1 w := by
  by_cases z0 : len0 = 0
  · subst z0; exact build_zero2 a0 a1 cap0 len1 cap1 w
  · by_cases z1 : len1 = 0
    · subst z1; exact build_zero1 a0 a1 len0 cap0 cap1 w (by omega)
    · obtain ⟨⟨b0, off0, rfl, _⟩, _⟩ := h0 0 (by omega)
      obtain ⟨⟨b1, off1, rfl, _⟩, _⟩ := h1 0 (by omega)
      have g0 : ∀ j, j < len0 → w.cell? ⟨b0, off0 + j, none⟩ = some (.int .u8 (f0 j)) ∧ 0 ≤ f0 j ∧ f0 j ≤ 255 := fun j hj => by
        obtain ⟨⟨b, off, e, hc⟩, h⟩ := h0 j hj
        simp at e
        obtain ⟨rfl, rfl⟩ := e
        exact ⟨hc, h⟩
      have g1 : ∀ j, j < len1 → w.cell? ⟨b1, off1 + j, none⟩ = some (.int .u8 (f1 j)) ∧ 0 ≤ f1 j ∧ f1 j ≤ 255 := fun j hj => by
        obtain ⟨⟨b, off, e, hc⟩, h⟩ := h1 j hj
        simp at e
        obtain ⟨rfl, rfl⟩ := e
        exact ⟨hc, h⟩
      by_cases hlt : len1 < len0
      · exact build_lt b0 off0 b1 off1 len0 cap0 len1 cap1 len1 f0 f1 w hlt rfl (fun j hj => g0 j (by omega)) g1 l0 l1
      · exact build_ge b0 off0 b1 off1 len0 cap0 len1 cap1 len0 f0 f1 w (by omega) rfl g0 (fun j hj => g1 j (by omega)) l0 l1
end Go.Proofs.Ybulkajsu.C
