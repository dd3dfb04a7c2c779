import Derived.Test.YbulkajsuTreeNew
import Derived.Laws.EntriesVeiled
namespace Go.Proofs.Ybulkajsu.C
open Go.RowKit

abbrev WT (w : World) (g n cap : Nat) : World := ((((((w.alloc (.cells #[.slice (some ⟨g, 0, none⟩) n cap] 75)).alloc (.cells #[.pointer none] 36)).alloc (.cells #[.int .i64 1] 3)).alloc (.cells #[.slice none 0 0, .pointer none, .pointer none, .int .i64 0, .int .i64 0] 77)).alloc (.cells #[.slice (some ⟨w.heap.size + 1 + 1 + 1, 0, none⟩) 1 1] 96)).alloc (.cells #[ntF w.heap.size (w.heap.size + 1 + 1) (w.heap.size + 1 + 1 + 1 + 1 + 1) (w.heap.size + 1 + 1 + 1 + 1)] 97))

set_option maxRecDepth 100000 in
set_option maxHeartbeats 2000000 in
theorem newTree_one (g n cap : Nat) (w : World) (hn0 : 0 < n) (hn : n ≤ 20) (hc : n ≤ cap) :
    Calls Yba.prog 40 #[.slice (some ⟨g, 0, none⟩) n cap] w fun e w' => ∃ gn, e = .returned (.agg #[.pointer (some ⟨gn, 0, none⟩)]) ∧ w.heap.size ≤ gn ∧ Below w.heap.size w w' ∧
      w'.cell? ⟨gn, 0, none⟩ = some (.slice (some ⟨g, 0, none⟩) n n) ∧ w'.cell? ⟨gn, 1, none⟩ = some (.pointer none) ∧ w'.cell? ⟨gn, 2, none⟩ = some (.pointer none) ∧ w'.cell? ⟨gn, 3, none⟩ = some (.int .i64 n) ∧ w'.cell? ⟨gn, 4, none⟩ = some (.int .i64 1) := by
  have q3 : ((n : Int) + 32 - 1) / 32 = 1 := by omega
  have hmk : ∀ w, (Instr.makeSlice 96 (.int .i64 1) (.int .i64 1)).run Yba.prog w = .ok (.slice (some ⟨w.heap.size, 0, none⟩) 1 1) (w.alloc (.cells #[.slice none 0 0, .pointer none, .pointer none, .int .i64 0, .int .i64 0] 77)) := fun _ => by kernel_rfl
  go_enter Yba.func40, Yba.ntmps40
  go_wp2_with fail
  have hB : Below w.heap.size w (WT w g n cap) := by
    repeat (first | exact Below.refl _ _ | refine Below.alloc ?_ (by first | omega | (simp; done) | (simp; omega)) _)
  have t1 : (WT w g n cap).cell? ⟨w.heap.size + 1, 0, none⟩ = some (.pointer none) := by simp [go_sem]
  have t2 : (WT w g n cap).frozen? ⟨w.heap.size + 1, 0, none⟩ = false := by simp [go_sem]
  have hsz : w.heap.size + 1 + 1 + 1 < (WT w g n cap).heap.size := by simp
  refine (nt_one w.heap.size (w.heap.size + 1 + 1) (w.heap.size + 1 + 1 + 1 + 1 + 1) (w.heap.size + 1 + 1 + 1 + 1) (w.heap.size + 1 + 1 + 1) g n cap (WT w g n cap) (by simp [go_sem]) (by simp [go_sem]) (by simp [go_sem]) (by simp [go_sem]) (by omega) hc ⟨_, by simp [go_sem]; rfl⟩ ⟨_, by simp [go_sem]; rfl⟩ ⟨_, by simp [go_sem]; rfl⟩ ⟨_, by simp [go_sem]; rfl⟩ ⟨_, by simp [go_sem]; rfl⟩ (fun o => by simp [go_sem]) (by omega)).mono ?_
  rintro e w1 ⟨rfl, k0, k1, k2, k3, k4, ht⟩
  have u1 : w1.cell? ⟨w.heap.size + 1, 0, none⟩ = some (.pointer none) := ht.cell t1 (by omega) (by omega)
  have u2 : w1.frozen? ⟨w.heap.size + 1, 0, none⟩ = false := ht.frozen t1 t2 (by omega) (by omega)
  have HT : Hid (Turn (WT w g n cap) w1 (w.heap.size + 1 + 1 + 1) (w.heap.size + 1 + 1 + 1)) := ht
  clear ht t1 t2
  have n1 : w.heap.size + 1 ≠ w.heap.size + 1 + 1 + 1 := by omega
  go_wp2_with fail
  refine bodyPost_ret (v := .agg #[.pointer (some ⟨w.heap.size + 1 + 1 + 1, 0, none⟩)]) (by simp [results, Yba.results40, go_sem, u1]) rfl ⟨w.heap.size + 1 + 1 + 1, rfl, by omega, ?_, ?_, ?_, ?_, ?_, ?_⟩
  · exact (hB.trans (HT.out.below (by omega) (by omega) (by omega))).setCell (p := ⟨w.heap.size + 1, 0, none⟩) (by show w.heap.size ≤ w.heap.size + 1; omega) _
  all_goals simp [go_sem, *]
end Go.Proofs.Ybulkajsu.C
