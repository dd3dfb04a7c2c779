import Derived.Test.YbulkajsuCopy
namespace Go.Proofs.Ybulkajsu.C
open Go.RowKit

abbrev both27 : Value := .func (.func 27) #[] #[]

theorem Ents.set2 {w : World} {c i r : Nat} {v : Int} {es : Es} (h : Ents w c es) (hi : i < es.length) :
    Ents ((w.setCell ⟨c, i * 2, none⟩ (.string (keyB r))).setCell ⟨c, i * 2 + 1, none⟩ (.int .u64 v)) c (es.set i (r, v)) := by
  intro j hj
  rw [List.length_set] at hj
  obtain ⟨a, b⟩ := h j hj
  obtain ⟨ai, bi⟩ := h i hi
  by_cases e : j = i
  · subst e
    have hg : (es.set j (r, v)).getD j (0, 0) = (r, v) := by simp [hj]
    rw [hg]
    constructor
    · rw [World.cell?_setCell_other _ _ _ _ (by simp)]
      exact World.cell?_setCell_same _ _ _ ai
    · have hb : (w.setCell ⟨c, j * 2, none⟩ (.string (keyB r))).cell? ⟨c, j * 2 + 1, none⟩ = some (.int .u64 (es.getD j (0, 0)).2) := by
        rw [World.cell?_setCell_other _ _ _ _ (by simp)]; exact bi
      exact World.cell?_setCell_same _ _ _ hb
  · have hg : (es.set i (r, v)).getD j (0, 0) = es.getD j (0, 0) := by simp [Ne.symm e]
    rw [hg]
    constructor
    · rw [World.cell?_setCell_other _ _ _ _ (by simp <;> omega), World.cell?_setCell_other _ _ _ _ (by simp <;> omega)]; exact a
    · rw [World.cell?_setCell_other _ _ _ _ (by simp <;> omega), World.cell?_setCell_other _ _ _ _ (by simp <;> omega)]; exact b

theorem below_dn {B n : Nat} {a w : World} (h : Below B a w) : Below B a (w.drewN n) := h.trans ⟨rfl, rfl, rfl, Nat.le_refl _, fun _ _ => rfl⟩

theorem searchH (nm : String) (hmc : ∀ w : World, (method 238 51 (.agg #[]) nm).run Yba.prog w = .ok (90, .agg #[]) w) (c n cap r i : Nat) (v : Int) (es : Es) (b : Bool) (w : World) (hE : Ents w c es) (ha : Asc es) (hr : r < 4) (hn : es.length = n) (hn4 : n ≤ 31) (hi : lo es r = i) (hb : has es r = b) :
    Calls Yba.prog 38 #[.slice (some ⟨c, 0, none⟩) n cap, .agg #[.string (keyB r), .int .u64 v], .func (.method nm) #[.iface 51 (.agg #[])] #[]] w fun e w' =>
      e = .returned (.tuple #[.int .i64 i, .bool b]) ∧ Below w.heap.size w w' := by
  rw [← hi, ← hb]; exact search nm hmc c n cap r v es w hE ha hr hn hn4

set_option maxRecDepth 100000 in
set_option maxHeartbeats 1000000 in
theorem insert_nil (r : Nat) (v : Int) (w : World) :
    Calls Yba.prog 26 #[.pointer none, .agg #[.string (keyB r), .int .u64 v], both27] w fun e w' =>
      ∃ root, e = .returned (.pointer root) ∧ Tree w' root [(r, v)] ∧ Below w.heap.size w w' := by
  go_enter Yba.func26, Yba.ntmps26
  go_wp2_with (first | (go_at_call 36; refine (newNode _ 1 1 (by omega) _).mono ?_; rintro e w' ⟨rfl, rfl⟩))
  go_ret
  refine ⟨_, rfl, .inr ⟨by simp, _, w.heap.size + 1, 1, rfl, ?_⟩, ?_⟩
  · refine ⟨?_, ?_, ?_, ?_, ?_, ?_, by simp⟩
    · simp [go_sem]
    · simp [go_sem]
    · simp [go_sem]
    · simp [go_sem]
    · simp [go_sem]
    · intro j hj
      obtain rfl : j = 0 := by simpa using hj
      constructor <;> simp [go_sem]
  · repeat (first | exact Below.refl _ _ | refine Below.drew ?_ | refine below_dn ?_ | refine Below.alloc ?_ (by first | omega | (simp; done) | (simp; omega)) _)

set_option maxRecDepth 100000 in
set_option maxHeartbeats 2000000 in
theorem insert_found (r g c cap n i : Nat) (v y : Int) (es : Es) (w : World) (h0 : w.cell? ⟨g, 0, none⟩ = some (.slice (some ⟨c, 0, none⟩) n cap)) (hl : w.cell? ⟨g, 1, none⟩ = some (.pointer none)) (hrt : w.cell? ⟨g, 2, none⟩ = some (.pointer none))
    (hpos : 0 < n) (hn : n ≤ 31) (hE : Ents w c es) (ha : Asc es) (hln : es.length = n) (hin : i < n) (hlo : lo es r = i) (hhas : has es r = true) (hat : es.getD i (0, 0) = (r, y)) (hr : r < 4) :
    Calls Yba.prog 26 #[.pointer (some ⟨g, 0, none⟩), .agg #[.string (keyB r), .int .u64 v], both27] w fun e w' =>
      ∃ root, e = .returned (.pointer root) ∧ Tree w' root (es.set i (r, v)) ∧ Below w.heap.size w w' := by
  have hmc := method_cmp
  simp only [Yba.t51, List.map, List.headD] at hmc
  have hnI : (0 : Int) < (n : Int) := by omega
  have hi0 : (0 : Int) ≤ (i : Int) := by omega
  have hi1 : (i : Int) < (n : Int) := by omega
  have hg : g < w.heap.size := World.block_lt_of_cell? _ _ h0
  have hgs := lts hg
  have HE : Hid (Ents w c es) := hE
  have HA : Hid (Asc es) := ha
  have HL : Hid (es.length = n) := hln
  have HLo : Hid (lo es r = i) := hlo
  have HHas : Hid (has es r = true) := hhas
  have HAt : Hid (es.getD i (0, 0) = (r, y)) := hat
  clear hE ha hln hlo hhas hat
  go_enter Yba.func26, Yba.ntmps26
  go_wp2_with fail
  go_quiet (fail)
  go_wp2_with fail
  go_quiet (fail)
  go_wp2_with fail
  go_region_held3 (fun w' => w'.cell? ⟨g, 0, none⟩ = some (.slice (some ⟨c, 0, none⟩) n cap) ∧ w'.cell? ⟨w.heap.size, 0, none⟩ = some (.string (keyB r)) ∧ w'.cell? ⟨w.heap.size, 1, none⟩ = some (.int .u64 v)) ((repeat' apply And.intro) <;> (first | (refine cell_later (w := w) ?_ (by assumption); (repeat (first | exact Below.refl _ _ | refine Below.drew ?_ | refine below_dn ?_ | refine Below.trans ?_ (hb.mono (by first | omega | (simp; done) | (simp; omega))) | refine Below.alloc ?_ (by first | omega | (simp; done) | (simp; omega)) _ | refine Below.setCell ?_ (by first | omega | (simp; done) | (simp; omega)) _)); done) | (simp [go_sem]; done) | (refine cell_later hb ?_; simp [go_sem]; done) | (refine (hb.frozen ?_).trans ?_ <;> simp [go_sem]; done)))
    (first | (go_at_call 38; refine (searchH _ hmc c n cap r i v es true _ ?_ HA.out hr HL.out (by omega) HLo.out HHas.out).mono ?_; (focus (refine HE.out.below ?_; (repeat (first | exact Below.refl _ _ | refine Below.drew ?_ | refine below_dn ?_ | refine Below.alloc ?_ (by first | omega | (simp; done) | (simp; omega)) _)))); rintro e w1 ⟨rfl, hb⟩))
  have hsz : w.heap.size + 1 < w1.heap.size := by have := hb.size; simp at this; omega
  go_wp2_with fail
  have B1 : Below w.heap.size w w1 := by
    repeat (first | exact Below.refl _ _ | refine Below.drew ?_ | refine below_dn ?_ | refine Below.trans ?_ (hb.mono (by first | omega | (simp; done) | (simp; omega))) | refine Below.alloc ?_ (by first | omega | (simp; done) | (simp; omega)) _ | refine Below.setCell ?_ (by first | omega | (simp; done) | (simp; omega)) _)
  refine (clone c cap n es HL.out hpos (by omega) w1 (HE.out.below B1)).mono ?_
  rintro e w2 ⟨g2, cap2, L, rfl, hge2, hgh2, htk2, hcp2, hb2⟩
  have E2 : Ents w2 g2 es := Ents.of_block hgh2 (by rw [HL.out]; exact htk2)
  obtain ⟨c0, c1⟩ := E2 i (by rw [HL.out]; exact hin)
  rw [HAt.out] at c0 c1
  have fz : ∀ k, w2.frozen? ⟨g2, k, none⟩ = false := fun k => by simp [World.frozen?, hgh2]
  have f0 := fz (i * 2)
  have f1 := fz (i * 2 + 1)
  have x0 : w2.cell? ⟨w.heap.size, 0, none⟩ = some (.string (keyB r)) := (hb2.cell (p := ⟨w.heap.size, 0, none⟩) (by simp; omega)).trans ((hb.cell (p := ⟨w.heap.size, 0, none⟩) (by simp; omega)).trans (by simp [go_sem]))
  have x1 : w2.cell? ⟨w.heap.size, 1, none⟩ = some (.int .u64 v) := (hb2.cell (p := ⟨w.heap.size, 1, none⟩) (by simp; omega)).trans ((hb.cell (p := ⟨w.heap.size, 1, none⟩) (by simp; omega)).trans (by simp [go_sem]))
  have hl2 : w2.cell? ⟨g, 1, none⟩ = some (.pointer none) := cell_later hb2 (cell_later B1 hl)
  have hr2 : w2.cell? ⟨g, 2, none⟩ = some (.pointer none) := cell_later hb2 (cell_later B1 hrt)
  have hgg2 : g2 < w2.heap.size := World.block_lt_of_cell? _ _ c0
  have hgw2 : g < w2.heap.size := World.block_lt_of_cell? _ _ hl2
  have hne : g ≠ g2 := by omega
  have hgs2 := lts hgg2
  have hgs3 := lts hgw2
  have HE2 : Hid (Ents w2 g2 es) := E2
  clear E2 hgh2 htk2 fz
  go_wp2_with fail
  go_region_with (go_at_call 27; refine (with1 _ _ _ _ _).mono ?_; rintro e w' ⟨rfl, rfl⟩)
  all_goals
    go_wp2_with fail
    go_region_held3 (fun w' => w'.cell? ⟨g, 1, none⟩ = some (.pointer none) ∧ w'.cell? ⟨g, 2, none⟩ = some (.pointer none)) ((repeat' apply And.intro) <;> (simp [go_sem, hl2, hr2, hgs3, hgw2]; done))
      (first | (go_at_call 36; refine (newNode _ n cap2 (by omega) _).mono ?_; rintro e w' ⟨rfl, rfl⟩))
    go_wp2_with fail
    go_ret
    refine ⟨_, rfl, .inr ⟨by rw [List.length_set, HL.out]; exact hpos, _, g2, cap2, rfl, ?_⟩, ?_⟩
    · have ES : Ents ((w2.setCell ⟨g2, i * 2, none⟩ (.string (keyB r))).setCell ⟨g2, i * 2 + 1, none⟩ (.int .u64 v)) g2 (es.set i (r, v)) := HE2.out.set2 (by rw [HL.out]; exact hin)
      have hlen : (es.set i (r, v)).length = n := by rw [List.length_set, HL.out]
      refine ⟨?_, ?_, ?_, ?_, ?_, ?_, by rw [hlen]; exact hcp2⟩
      · rw [hlen]; simp [go_sem]
      · simp [go_sem]
      · simp [go_sem]
      · rw [hlen]; simp [go_sem]
      · simp [go_sem]
      · refine ES.below ?_
        repeat (first | exact Below.refl _ _ | refine Below.drew ?_ | refine below_dn ?_ | refine Below.alloc ?_ (by first | omega | (simp; done) | (simp; omega)) _)
    · repeat (first | exact Below.refl _ _ | refine Below.drew ?_ | refine below_dn ?_ | refine Below.trans ?_ (hb.mono (by first | omega | (simp; done) | (simp; omega))) | refine Below.trans ?_ (hb2.mono (by first | omega | (simp; done) | (simp; omega))) | refine Below.alloc ?_ (by first | omega | (simp; done) | (simp; omega)) _ | refine Below.setCell ?_ (by first | omega | (simp; done) | (simp; omega)) _)

end Go.Proofs.Ybulkajsu.C
