import Derived.Test.YbulkajsuBuildAll
namespace Go.Proofs.Ybulkajsu.C
open Go.RowKit

theorem delta_le (d x : Int) (hd : 0 ≤ d) (hx : d ≤ x) (w : World) :
    Calls Yba.prog 17 #[.int .u64 d, .int .u64 x] w fun e w' => e = .returned (.int .u64 0) ∧ Below w.heap.size w w' := by
  by_cases h : d = 0
  · subst h; exact delta0 x w
  · exact deltaLe d x (by omega) hx w

set_option maxRecDepth 100000 in
set_option maxHeartbeats 1000000 in
theorem merge_le (r : Nat) (hr : r < 4) (es : Es) (ha : Asc es) (hlen : es.length ≤ 31) (root : Option Addr) (run d : Int) (hd : 0 ≤ d) (hle : d ≤ val es r) (w : World) (hT : Tree w root es) :
    Calls Yba.prog 11 #[.agg #[.pointer root, .int .u64 run], .string (keyB r), .int .u64 d] w fun e w' =>
      e = .returned (.agg #[.pointer none, .int .u64 0]) ∧ Below w.heap.size w w' := by
  have HT : Hid (Tree w root es) := hT
  have HA : Hid (Asc es) := ha
  clear hT ha
  have HG : Hid (∀ (W : World), Tree W root es → Calls Yba.prog 14 #[.agg #[.pointer root, .int .u64 run], .string (keyB r)] W fun e w' => e = .returned (.int .u64 (val es r)) ∧ Below W.heap.size W w') := fun W hW => get_any r hr es HA.out hlen root run W hW
  generalize val es r = x at HG hle
  go_enter Yba.func11, Yba.ntmps11
  go_wp2_with fail
  refine (HG.out _ ?_).mono ?_
  · refine HT.out.below ?_
    repeat (first | exact Below.refl _ _ | refine Below.drew ?_ | refine below_dn ?_ | refine Below.alloc ?_ (by first | omega | (simp; done) | (simp; omega)) _)
  rintro e w1 ⟨rfl, hb1⟩
  go_wp2_with fail
  refine (delta_le d x hd hle _).mono ?_
  rintro e w2 ⟨rfl, hb2⟩
  have hz1 : w.heap.size + 1 < w1.heap.size := by have := hb1.size; simp at this; omega
  have c0 : w2.cell? ⟨w.heap.size + 1, 0, none⟩ = some (.pointer none) := (hb2.cell (p := ⟨w.heap.size + 1, 0, none⟩) hz1).trans ((hb1.cell (p := ⟨w.heap.size + 1, 0, none⟩) (by simp)).trans (by simp [go_sem]))
  have c1 : w2.cell? ⟨w.heap.size + 1, 1, none⟩ = some (.int .u64 0) := (hb2.cell (p := ⟨w.heap.size + 1, 1, none⟩) hz1).trans ((hb1.cell (p := ⟨w.heap.size + 1, 1, none⟩) (by simp)).trans (by simp [go_sem]))
  have f0 : w2.frozen? ⟨w.heap.size + 1, 0, none⟩ = false := (hb2.frozen (p := ⟨w.heap.size + 1, 0, none⟩) hz1).trans ((hb1.frozen (p := ⟨w.heap.size + 1, 0, none⟩) (by simp)).trans (by simp [go_sem]))
  have f1 : w2.frozen? ⟨w.heap.size + 1, 1, none⟩ = false := (hb2.frozen (p := ⟨w.heap.size + 1, 1, none⟩) hz1).trans ((hb1.frozen (p := ⟨w.heap.size + 1, 1, none⟩) (by simp)).trans (by simp [go_sem]))
  go_wp2_with fail
  refine (isBottom 0 _).mono ?_
  rintro e w3 ⟨rfl, rfl⟩
  go_wp2_with fail
  refine bodyPost_ret (v := .agg #[.pointer none, .int .u64 0]) (by simp [results, Yba.results11, go_sem, c0, c1]) rfl ⟨rfl, ?_⟩
  refine Below.setCell ?_ (by simp) _
  refine Below.setCell ?_ (by simp) _
  refine Below.trans ?_ (hb2.mono (by omega))
  refine Below.trans ?_ (hb1.mono (by simp; omega))
  repeat (first | exact Below.refl _ _ | refine Below.drew ?_ | refine below_dn ?_ | refine Below.alloc ?_ (by first | omega | (simp; done) | (simp; omega)) _)

set_option maxRecDepth 100000 in
set_option maxHeartbeats 1000000 in
theorem merge_gt (r : Nat) (hr : r < 4) (es : Es) (ha : Asc es) (hlen : es.length ≤ 31) (root : Option Addr) (run d : Int) (hd : 0 < d) (hle : val es r < d) (w : World) (hT : Tree w root es) :
    Calls Yba.prog 11 #[.agg #[.pointer root, .int .u64 run], .string (keyB r), .int .u64 d] w fun e w' =>
      ∃ root', e = .returned (.agg #[.pointer root', .int .u64 0]) ∧ Tree w' root' [(r, d)] ∧ Below w.heap.size w w' := by
  have HT : Hid (Tree w root es) := hT
  have HA : Hid (Asc es) := ha
  clear hT ha
  have HG : Hid (∀ (W : World), Tree W root es → Calls Yba.prog 14 #[.agg #[.pointer root, .int .u64 run], .string (keyB r)] W fun e w' => e = .returned (.int .u64 (val es r)) ∧ Below W.heap.size W w') := fun W hW => get_any r hr es HA.out hlen root run W hW
  generalize val es r = x at HG hle
  have hnb : decide (d ≤ 0) = false := decide_eq_false (by omega)
  go_enter Yba.func11, Yba.ntmps11
  go_wp2_with fail
  refine (HG.out _ ?_).mono ?_
  · refine HT.out.below ?_
    repeat (first | exact Below.refl _ _ | refine Below.drew ?_ | refine below_dn ?_ | refine Below.alloc ?_ (by first | omega | (simp; done) | (simp; omega)) _)
  rintro e w1 ⟨rfl, hb1⟩
  go_wp2_with fail
  refine (deltaGt d x hd hle _).mono ?_
  rintro e w2 ⟨rfl, hb2⟩
  have hz1 : w.heap.size + 1 < w1.heap.size := by have := hb1.size; simp at this; omega
  have hz2 : w.heap.size + 1 < w2.heap.size := by have := hb2.size; omega
  have c0 : w2.cell? ⟨w.heap.size + 1, 0, none⟩ = some (.pointer none) := (hb2.cell (p := ⟨w.heap.size + 1, 0, none⟩) hz1).trans ((hb1.cell (p := ⟨w.heap.size + 1, 0, none⟩) (by simp)).trans (by simp [go_sem]))
  have c1 : w2.cell? ⟨w.heap.size + 1, 1, none⟩ = some (.int .u64 0) := (hb2.cell (p := ⟨w.heap.size + 1, 1, none⟩) hz1).trans ((hb1.cell (p := ⟨w.heap.size + 1, 1, none⟩) (by simp)).trans (by simp [go_sem]))
  have f0 : w2.frozen? ⟨w.heap.size + 1, 0, none⟩ = false := (hb2.frozen (p := ⟨w.heap.size + 1, 0, none⟩) hz1).trans ((hb1.frozen (p := ⟨w.heap.size + 1, 0, none⟩) (by simp)).trans (by simp [go_sem]))
  have f1 : w2.frozen? ⟨w.heap.size + 1, 1, none⟩ = false := (hb2.frozen (p := ⟨w.heap.size + 1, 1, none⟩) hz1).trans ((hb1.frozen (p := ⟨w.heap.size + 1, 1, none⟩) (by simp)).trans (by simp [go_sem]))
  go_wp2_with fail
  refine (isBottom d _).mono ?_
  rintro e w3 ⟨rfl, rfl⟩
  go_wp2_with fail
  refine (with_any r hr d [] (asc_of (by simp) (by simp)) (by simp) none _ (.inl ⟨rfl, rfl⟩)).mono ?_
  rintro e w4 ⟨root', rfl, hT4, hb4⟩
  have HT4 : Hid (Tree w4 root' [(r, d)]) := hT4
  clear hT4
  have d0 : w4.cell? ⟨w.heap.size + 1, 0, none⟩ = some (.pointer none) := (hb4.cell (p := ⟨w.heap.size + 1, 0, none⟩) (by simp; omega)).trans ((World.cell?_alloc_past _ _ _ hz2).trans c0)
  have d1 : w4.cell? ⟨w.heap.size + 1, 1, none⟩ = some (.int .u64 0) := (hb4.cell (p := ⟨w.heap.size + 1, 1, none⟩) (by simp; omega)).trans ((World.cell?_alloc_past _ _ _ hz2).trans c1)
  have g0 : w4.frozen? ⟨w.heap.size + 1, 0, none⟩ = false := (hb4.frozen (p := ⟨w.heap.size + 1, 0, none⟩) (by simp; omega)).trans ((World.frozen?_alloc_past _ _ _ hz2).trans f0)
  have g1 : w4.frozen? ⟨w.heap.size + 1, 1, none⟩ = false := (hb4.frozen (p := ⟨w.heap.size + 1, 1, none⟩) (by simp; omega)).trans ((World.frozen?_alloc_past _ _ _ hz2).trans f1)
  have s0 : w4.cell? ⟨w3.heap.size, 0, none⟩ = some (.pointer none) := (hb4.cell (p := ⟨w3.heap.size, 0, none⟩) (by simp)).trans (by simp [go_sem])
  have s1 : w4.cell? ⟨w3.heap.size, 1, none⟩ = some (.int .u64 0) := (hb4.cell (p := ⟨w3.heap.size, 1, none⟩) (by simp)).trans (by simp [go_sem])
  have h0 : w4.frozen? ⟨w3.heap.size, 0, none⟩ = false := (hb4.frozen (p := ⟨w3.heap.size, 0, none⟩) (by simp)).trans (by simp [go_sem])
  have hne : ¬ w3.heap.size = w.heap.size + 1 := by omega
  have hne' : ¬ w.heap.size + 1 = w3.heap.size := by omega
  go_wp2_with fail
  refine bodyPost_ret (v := .agg #[.pointer root', .int .u64 0]) (by simp [results, Yba.results11, go_sem, d0, d1]) rfl ⟨root', rfl, ?_, ?_⟩
  · refine HT4.out.agree fun b o hb => ?_
    have n1 : ¬ b = w.heap.size + 1 := by rintro rfl; rcases hb with ⟨_, _, _, h⟩ | ⟨_, h⟩ <;> rw [d0] at h <;> cases h
    have n2 : ¬ b = w3.heap.size := by rintro rfl; rcases hb with ⟨_, _, _, h⟩ | ⟨_, h⟩ <;> rw [s0] at h <;> cases h
    rw [cell_set_ne n1, cell_set_ne n1, cell_set_ne n2]
  refine Below.setCell ?_ (by simp) _
  refine Below.setCell ?_ (by simp) _
  refine Below.setCell ?_ (by simp; omega) _
  refine Below.trans ?_ (hb4.mono (by simp; omega))
  refine Below.alloc ?_ (by omega) _
  refine Below.trans ?_ (hb2.mono (by omega))
  refine Below.trans ?_ (hb1.mono (by simp; omega))
  repeat (first | exact Below.refl _ _ | refine Below.drew ?_ | refine below_dn ?_ | refine Below.alloc ?_ (by first | omega | (simp; done) | (simp; omega)) _)
end Go.Proofs.Ybulkajsu.C
