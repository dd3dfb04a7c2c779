import Derived.Test.YbulkajsuUnionAll
import Derived.Deep.DeepCutAuto
namespace Go.Proofs.Ybulkajsu.C
open Go.RowKit

theorem Tree.setPtrO {w : World} {root p : Option Addr} {es : Es} {b o : Nat} {v : Value} (h : Tree w root es) (hb : w.cell? ⟨b, 0, none⟩ = some (.pointer p)) : Tree (w.setCell ⟨b, o, none⟩ v) root es := by
  rcases h with h0 | ⟨hp, g, c, cap, hr, hN⟩
  · exact .inl h0
  · have n1 : g ≠ b := by
      rintro rfl
      have := hN.chunk.symm.trans hb
      simp at this
    have n2 : c ≠ b := by
      rintro rfl
      have := (hN.ents 0 hp).1.symm.trans hb
      simp at this
    have ht : Turn w (w.setCell ⟨b, o, none⟩ v) b b := (Turn.refl _ _ _).setCell
    exact .inr ⟨hp, g, c, cap, hr, ⟨ht.cell hN.chunk n1 n1, ht.cell hN.left n1 n1, ht.cell hN.right n1 n1, ht.cell hN.size n1 n1, ht.cell hN.count n1 n1, hN.ents.turn ht n2 n2, hN.room⟩⟩

set_option maxRecDepth 100000 in
set_option maxHeartbeats 4000000 in
theorem join_any (ra rb : Option Addr) (es : Es) (r : Nat) (d x : Int) (w : World) (h1 : Tree w ra es) (h2 : Tree w rb (merged r d x)) (ha : Asc es) (hlen : es.length ≤ 4) (hr : r < 4) (hx : val es r = x) :
    Calls Yba.prog 13 #[.agg #[.pointer ra, .int .u64 0], .agg #[.pointer rb, .int .u64 0]] w fun e w' => ∃ root, e = .returned (.agg #[.pointer root, .int .u64 0]) ∧ Tree w' root (joined es r d x) ∧ Below w.heap.size w w' := by
  have T1 : Hid (Tree w ra es) := h1
  have T2 : Hid (Tree w rb (merged r d x)) := h2
  have HAsc : Hid (Asc es) := ha
  have HL : Hid (es.length ≤ 4) := hlen
  have HX : Hid (val es r = x) := hx
  clear h1 h2 ha hlen hx
  go_enter Yba.func13, Yba.ntmps13
  go_wp2_with fail
  go_region_held3 (fun w' => w'.cell? ⟨w.heap.size, 0, none⟩ = some (.pointer ra) ∧ w'.cell? ⟨w.heap.size, 1, none⟩ = some (.int .u64 0) ∧ w'.cell? ⟨w.heap.size + 1, 0, none⟩ = some (.pointer rb) ∧ w'.cell? ⟨w.heap.size + 1, 1, none⟩ = some (.int .u64 0)) ((repeat' apply And.intro) <;> (first | (simp [go_sem]; done) | (simp [go_sem, *]; done)))
    (first | (go_at_call 21; refine (union_any ra rb es r d x _ (T1.out.later ?_) (T2.out.later ?_) HAsc.out HL.out hr HX.out).mono ?_; (focus (repeat (first | exact Below.refl _ _ | refine Below.drew ?_ | refine below_dn ?_ | refine Below.alloc ?_ (by first | omega | (simp; done) | (simp; omega)) _))); (focus (repeat (first | exact Below.refl _ _ | refine Below.drew ?_ | refine below_dn ?_ | refine Below.alloc ?_ (by first | omega | (simp; done) | (simp; omega)) _))); rintro e w1 ⟨root, rfl, hT, hb⟩; have c01 : w1.cell? ⟨w.heap.size, 1, none⟩ = some (.int .u64 0) := (hb.cell (p := ⟨w.heap.size, 1, none⟩) (by first | (simp; done) | (simp; omega))).trans (by simp [go_sem]); have c11 : w1.cell? ⟨w.heap.size + 1, 1, none⟩ = some (.int .u64 0) := (hb.cell (p := ⟨w.heap.size + 1, 1, none⟩) (by first | (simp; done) | (simp; omega))).trans (by simp [go_sem]); have c00 : w1.cell? ⟨w.heap.size, 0, none⟩ = some (.pointer ra) := (hb.cell (p := ⟨w.heap.size, 0, none⟩) (by first | (simp; done) | (simp; omega))).trans (by simp [go_sem]); have c10 : w1.cell? ⟨w.heap.size + 1, 0, none⟩ = some (.pointer rb) := (hb.cell (p := ⟨w.heap.size + 1, 0, none⟩) (by first | (simp; done) | (simp; omega))).trans (by simp [go_sem]); have c20 : w1.cell? ⟨w.heap.size + 1 + 1, 0, none⟩ = some (.pointer none) := (hb.cell (p := ⟨w.heap.size + 1 + 1, 0, none⟩) (by first | (simp; done) | (simp; omega))).trans (by simp [go_sem]); have c21 : w1.cell? ⟨w.heap.size + 1 + 1, 1, none⟩ = some (.int .u64 0) := (hb.cell (p := ⟨w.heap.size + 1 + 1, 1, none⟩) (by first | (simp; done) | (simp; omega))).trans (by simp [go_sem]); have f20 : w1.frozen? ⟨w.heap.size + 1 + 1, 0, none⟩ = false := (hb.frozen (p := ⟨w.heap.size + 1 + 1, 0, none⟩) (by first | (simp; done) | (simp; omega))).trans (by simp [go_sem]); have f21 : w1.frozen? ⟨w.heap.size + 1 + 1, 1, none⟩ = false := (hb.frozen (p := ⟨w.heap.size + 1 + 1, 1, none⟩) (by first | (simp; done) | (simp; omega))).trans (by simp [go_sem]); have l2 : w.heap.size + 1 + 1 < w1.heap.size := World.block_lt_of_cell? _ _ c20; have l1 : w.heap.size + 1 < w1.heap.size := World.block_lt_of_cell? _ _ c11; have l0 : w.heap.size < w1.heap.size := World.block_lt_of_cell? _ _ c01; have HT : Hid (Tree w1 root (joined es r d x)) := hT; have HB : Hid (_) := hb; clear hT hb) | (go_at_call 23; refine (or_zero _ _ _ ?_ ?_).mono ?_; (focus (first | (simp [go_sem]; done) | (refine (HB.out.cell (p := ⟨w.heap.size + 1 + 1 + 1, 0, none⟩) ?_).trans ?_ <;> (simp [go_sem]; done)))); (focus (first | (simp [go_sem]; done) | (refine (HB.out.cell (p := ⟨w.heap.size + 1 + 1 + 1, 1, none⟩) ?_).trans ?_ <;> (simp [go_sem]; done)))); rintro e w9 ⟨rfl, hw9⟩; rw [hw9]; clear hw9 w9))
  all_goals
    (go_wp2_with fail
     refine bodyPost_ret (v := .agg #[.pointer root, .int .u64 0]) (by simp [results, Yba.results13, go_sem, *]) rfl ⟨root, rfl, ?_, ?_⟩
     · first
         | exact ((HT.out.setPtrO c20).setPtrO (World.cell?_setCell_same _ _ _ c20)).later ((Below.refl _ _).alloc (Nat.le_refl _) _)
         | exact (HT.out.setPtrO c20).setPtrO (World.cell?_setCell_same _ _ _ c20)
     · have HBW : Below w.heap.size w w1 := by
         refine Below.trans ?_ (HB.out.mono (by first | (simp; done) | (simp; omega)))
         repeat (first | exact Below.refl _ _ | refine Below.drew ?_ | refine below_dn ?_ | refine Below.alloc ?_ (by first | omega | (simp; done) | (simp; omega)) _)
       repeat (first | exact HBW | refine Below.alloc ?_ (by first | omega | (simp; omega)) _ | refine Below.setCell ?_ (by show w.heap.size ≤ w.heap.size + 1 + 1; omega) _))
end Go.Proofs.Ybulkajsu.C
