import Derived.Test.YbulkajsuWalkA
import Derived.StillTailTactics
namespace Go.Proofs.Ybulkajsu.C
open Go.RowKit

/-- The kit's law on a drawn region with a forced tail, the world under a name. -/
theorem still_tail_at {P : Program} {id : Nat} {Q : Exit → Act → World → Prop} {a : Act} {w : World} {l : List Oper} (n : Nat) (hm : P.follows .mixedOrders = true) (hB : Region.lexTailB .any l.toArray n = true)
    (h : ∀ W, W = w.drew → wpStill P l.toArray W (fun a' => wpList P l.toArray Q (l.drop n) a' W) (l.take n) a) : (Code.region id l.toArray true).wp P Q a w :=
  wp_region_still_tail n hm hB (h _ rfl)

set_option maxRecDepth 100000 in
set_option maxHeartbeats 1000000 in
theorem nt_nil (k : Int) (b1 b3 b5 b4 : Nat) (w : World) :
    Calls Yba.prog 51 #[.int .i64 k, .int .i64 k, .pointer (some ⟨b1, 0, none⟩), .pointer (some ⟨b3, 0, none⟩), .pointer (some ⟨b5, 0, none⟩), .pointer (some ⟨b4, 0, none⟩)] w fun e w' => e = .returned (.pointer none) ∧ w' = w := by
  go_enter Yba.func51, Yba.ntmps51
  go_wp2_with fail
  go_ret
  exact ⟨rfl, rfl⟩

abbrev ntF (b1 b3 b5 b4 : Nat) : Value := .func (.func 51) #[] #[.pointer (some ⟨b1, 0, none⟩), .pointer (some ⟨b3, 0, none⟩), .pointer (some ⟨b5, 0, none⟩), .pointer (some ⟨b4, 0, none⟩)]

set_option maxRecDepth 100000 in
set_option maxHeartbeats 2000000 in
theorem nt_one (b1 b3 b5 b4 gn g n cap : Nat) (w : World)
    (h1 : w.cell? ⟨b1, 0, none⟩ = some (.slice (some ⟨g, 0, none⟩) n cap)) (h3 : w.cell? ⟨b3, 0, none⟩ = some (.int .i64 1)) (h5 : w.cell? ⟨b5, 0, none⟩ = some (ntF b1 b3 b5 b4)) (h4 : w.cell? ⟨b4, 0, none⟩ = some (.slice (some ⟨gn, 0, none⟩) 1 1))
    (hn : n ≤ 40) (hc : n ≤ cap)
    (z0 : ∃ v, w.cell? ⟨gn, 0, none⟩ = some v) (z1 : ∃ v, w.cell? ⟨gn, 1, none⟩ = some v) (z2 : ∃ v, w.cell? ⟨gn, 2, none⟩ = some v) (z3 : ∃ v, w.cell? ⟨gn, 3, none⟩ = some v) (z4 : ∃ v, w.cell? ⟨gn, 4, none⟩ = some v)
    (fz : ∀ o, w.frozen? ⟨gn, o, none⟩ = false)
    (d4 : b4 ≠ gn) :
    Calls Yba.prog 51 #[.int .i64 0, .int .i64 1, .pointer (some ⟨b1, 0, none⟩), .pointer (some ⟨b3, 0, none⟩), .pointer (some ⟨b5, 0, none⟩), .pointer (some ⟨b4, 0, none⟩)] w fun e w' => e = .returned (.pointer (some ⟨gn, 0, none⟩)) ∧
      w'.cell? ⟨gn, 0, none⟩ = some (.slice (some ⟨g, 0, none⟩) n n) ∧ w'.cell? ⟨gn, 1, none⟩ = some (.pointer none) ∧ w'.cell? ⟨gn, 2, none⟩ = some (.pointer none) ∧ w'.cell? ⟨gn, 3, none⟩ = some (.int .i64 n) ∧ w'.cell? ⟨gn, 4, none⟩ = some (.int .i64 1) ∧ Turn w w' gn gn := by
  obtain ⟨v0, z0⟩ := z0
  obtain ⟨v1, z1⟩ := z1
  obtain ⟨v2, z2⟩ := z2
  obtain ⟨v3, z3⟩ := z3
  obtain ⟨v4, z4⟩ := z4
  have f0 := fz 0
  have f1 := fz 1
  have f2 := fz 2
  have f3 := fz 3
  have f4 := fz 4
  clear fz
  have hn' : (n : Int) ≤ 40 := by omega
  go_enter Yba.func51, Yba.ntmps51
  go_wp2_with fail
  go_quiet (fail)
  go_wp2_with fail
  refine still_tail_at 34 (by kernel_rfl) (by kernel_rfl) (fun W hW => ?_)
  have e1 : W.cell? ⟨b1, 0, none⟩ = some (.slice (some ⟨g, 0, none⟩) n cap) := by rw [hW]; simpa [go_sem] using h1
  have e3 : W.cell? ⟨b3, 0, none⟩ = some (.int .i64 1) := by rw [hW]; simpa [go_sem] using h3
  have e5 : W.cell? ⟨b5, 0, none⟩ = some (ntF b1 b3 b5 b4) := by rw [hW]; simpa [go_sem] using h5
  have e4 : W.cell? ⟨b4, 0, none⟩ = some (.slice (some ⟨gn, 0, none⟩) 1 1) := by rw [hW]; simpa [go_sem] using h4
  have a0 : W.cell? ⟨gn, 0, none⟩ = some v0 := by rw [hW]; simpa [go_sem] using z0
  have a1 : W.cell? ⟨gn, 1, none⟩ = some v1 := by rw [hW]; simpa [go_sem] using z1
  have a2 : W.cell? ⟨gn, 2, none⟩ = some v2 := by rw [hW]; simpa [go_sem] using z2
  have a3 : W.cell? ⟨gn, 3, none⟩ = some v3 := by rw [hW]; simpa [go_sem] using z3
  have a4 : W.cell? ⟨gn, 4, none⟩ = some v4 := by rw [hW]; simpa [go_sem] using z4
  have p0 : W.frozen? ⟨gn, 0, none⟩ = false := by rw [hW]; simpa [go_sem] using f0
  have p1 : W.frozen? ⟨gn, 1, none⟩ = false := by rw [hW]; simpa [go_sem] using f1
  have p2 : W.frozen? ⟨gn, 2, none⟩ = false := by rw [hW]; simpa [go_sem] using f2
  have p3 : W.frozen? ⟨gn, 3, none⟩ = false := by rw [hW]; simpa [go_sem] using f3
  have p4 : W.frozen? ⟨gn, 4, none⟩ = false := by rw [hW]; simpa [go_sem] using f4
  have HW : Hid (Turn w W gn gn) := by rw [Hid, hW]; exact ((Turn.refl w gn gn).dn).drew
  clear hW h1 h3 h5 h4 z0 z1 z2 z3 z4 f0 f1 f2 f3 f4
  simp only [List.take_succ_cons, List.take_zero, List.drop_succ_cons, List.drop_zero]
  repeat (first | still_step | still_call (nt_nil _ b1 b3 b5 b4 _))
  refine wpStill_nil ?_
  go_wp2_with fail
  go_ret
  refine ⟨rfl, ?_, ?_, ?_, ?_, ?_, ((((HW.out.setCell).setCell).setCell).setCell).setCell⟩
  all_goals simp [go_sem, a0, a1, a2, a3, a4]
end Go.Proofs.Ybulkajsu.C
