import Derived.Test.YbulkajsuDrain
namespace Go.Proofs.Ybulkajsu.C
open Go.RowKit

abbrev bothF (bk bb : Nat) : Value := .func (.func 54) #[] #[.pointer (some ⟨bk, 0, none⟩), .pointer (some ⟨bb, 0, none⟩)]
theorem run_neq_keep (w : World) (bm : Nat) : (binOp .neq 60 (keepF bm) .nilFunc).run Yba.prog w = .ok (.bool true) w := by kernel_rfl
theorem run_neq_both (w : World) (bk bb : Nat) : (binOp .neq 99 (bothF bk bb) .nilFunc).run Yba.prog w = .ok (.bool true) w := by kernel_rfl

theorem Turn.setCell {a b : World} {x y o : Nat} {v : Value} (h : Turn a b x y) : Turn a (b.setCell ⟨x, o, none⟩ v) x y :=
  ⟨h.os, h.tape, h.output, by simpa [World.setCell] using h.size, fun k hk h1 h2 => (Below.heap_setCell _ _ _ _ h1).trans (h.block k hk h1 h2)⟩
theorem Turn.dn {a b : World} {x y q : Nat} (h : Turn a b x y) : Turn a (b.drewN q) x y := ⟨h.os, h.tape, h.output, h.size, h.block⟩

theorem descend_turn (b g : Nat) (p : Option Addr) (w : World) (hC : Curs w b 0 p) (hl : w.cell? ⟨g, 1, none⟩ = some (.pointer none)) (hne : g ≠ b) :
    Calls Yba.prog 57 #[.pointer (some ⟨b, 0, none⟩), .pointer (some ⟨g, 0, none⟩)] w fun e w' => e = .returned (.tuple #[]) ∧ Curs w' b 1 (some ⟨g, 0, none⟩) ∧ Turn w w' b b := by
  refine (descend_one b g p w hC hl hne).mono ?_
  rintro e w' ⟨rfl, rfl⟩
  refine ⟨rfl, ⟨?_, ?_, ?_, ?_⟩, (((Turn.refl w b b).setCell).setCell).drew⟩
  · simp [go_sem, hC.depth]
  · simp [go_sem, hC.fd]
  · simp [go_sem, hC.path]
  · simp [go_sem, hC.fp]
theorem next_turn (b g : Nat) (w : World) (hC : Curs w b 1 (some ⟨g, 0, none⟩)) (hr : w.cell? ⟨g, 2, none⟩ = some (.pointer none)) (hne : g ≠ b) :
    Calls Yba.prog 59 #[.pointer (some ⟨b, 0, none⟩)] w fun e w' => e = .returned (.slice none 0 0) ∧ Turn w w' b b := by
  refine (next_one b g w hC hr hne).mono ?_
  rintro e w' ⟨rfl, q, rfl⟩
  exact ⟨rfl, ((Turn.refl w b b).setCell).dn⟩
theorem chunk_turn (b g n cap : Nat) (a : Option Addr) (w : World) (hC : Curs w b 1 (some ⟨g, 0, none⟩)) (hc : w.cell? ⟨g, 0, none⟩ = some (.slice a n cap)) :
    Calls Yba.prog 58 #[.pointer (some ⟨b, 0, none⟩)] w fun e w' => e = .returned (.slice a n cap) ∧ Below w.heap.size w w' := by
  refine (chunk_one b g n cap a w hC.depth hC.path hc).mono ?_
  rintro e w' ⟨rfl, q, rfl⟩
  exact ⟨rfl, below_dn (Below.refl _ _)⟩
theorem Mrg.turnO {w w' : World} {bm g cap b : Nat} {L : Es} (h : Mrg w bm g cap L) (ht : Turn w w' b b) (h1 : bm ≠ b) (h2 : g ≠ b) : Mrg w' bm g cap L := by
  refine ⟨ht.cell h.box h1 h1, ht.frozen h.box h.fz h1 h1, ⟨h.row.1, ?_⟩, h.ne⟩
  rcases h.row.2 with ⟨h0, _⟩ | ⟨g', cap', cur, hv, hb', hc, r⟩
  · cases h0
  · refine .inr ⟨g', cap', cur, hv, hb', ?_, r⟩
    simp at hv
    have h3 : g' ≠ b := by rw [← hv.1]; exact h2
    exact (ht.block g' (Array.getElem?_eq_some_iff.1 hc).1 h3 h3).trans hc
theorem Curs.later {w w' : World} {b : Nat} {d : Int} {p : Option Addr} (h : Curs w b d p) (hb : Below w.heap.size w w') : Curs w' b d p :=
  h.turn (Turn.of_below (bm := b + 1) (g := b + 1) hb) (by omega) (by omega)

/-- The state of the walk: the members kept so far, the boxes of the closures, and all below B as it was. -/
structure St (w wr : World) (B bm g cap bk bb : Nat) (L : Es) : Prop where
  m : Mrg wr bm g cap L
  bel : Below B w wr
  kf : wr.cell? ⟨bk, 0, none⟩ = some (keepF bm)
  bf : wr.cell? ⟨bb, 0, none⟩ = some (.func (.func 22) #[] #[])
theorem St.step {w wr wr' : World} {B bm g cap bk bb : Nat} {L L' : Es} (h : St w wr B bm g cap bk bb L) (hM : Mrg wr' bm g cap L') (ht : Turn wr wr' bm g) (hB : B ≤ w.heap.size) (h1 : B ≤ bm) (h2 : B ≤ g) (h3 : bk ≠ bm) (h4 : bk ≠ g) (h5 : bb ≠ bm) (h6 : bb ≠ g) : St w wr' B bm g cap bk bb L' :=
  ⟨hM, h.bel.trans (ht.below h1 h2 (Nat.le_trans hB h.bel.size)), ht.cell h.kf h3 h4, ht.cell h.bf h5 h6⟩
theorem St.next {w wr wr' : World} {B bm g cap bk bb b : Nat} {L : Es} (h : St w wr B bm g cap bk bb L) (ht : Turn wr wr' b b) (hB : B ≤ w.heap.size) (h1 : B ≤ b) (h2 : bm ≠ b) (h3 : g ≠ b) (h4 : bk ≠ b) (h5 : bb ≠ b) : St w wr' B bm g cap bk bb L :=
  ⟨h.m.turnO ht h2 h3, h.bel.trans (ht.below h1 h1 (Nat.le_trans hB h.bel.size)), ht.cell h.kf h4 h4, ht.cell h.bf h5 h5⟩
theorem St.later {w wr wr' : World} {B bm g cap bk bb : Nat} {L : Es} (h : St w wr B bm g cap bk bb L) (hb : Below wr.heap.size wr wr') (hB : B ≤ w.heap.size) : St w wr' B bm g cap bk bb L :=
  ⟨h.m.turn0 hb, h.bel.trans (hb.mono (Nat.le_trans hB h.bel.size)), cell_later hb h.kf, cell_later hb h.bf⟩
theorem cell_belowB {w w' : World} {B x o : Nat} {v : Value} (hb : Below B w w') (hx : x < B) (hc : w.cell? ⟨x, o, none⟩ = some v) : w'.cell? ⟨x, o, none⟩ = some v :=
  (World.cell?_of_block (w := w) (hb.block x hx)).trans hc

theorem cursZero (w : World) (n : Nat) (hn : n = w.heap.size) : Curs (w.alloc (.cells Yba.zeroCells103 103)) n 0 none := by
  subst hn
  have z0 : Yba.zeroCells103[0]? = some (.pointer none) := by kernel_rfl
  have z1 : Yba.zeroCells103[104]? = some (.int .i64 0) := by kernel_rfl
  refine ⟨?_, ?_, ?_, ?_⟩
  · simp [go_sem]
    exact (Array.getElem?_eq_some_iff.1 z1).2
  · simp [go_sem]
  · simp [go_sem]
    exact (Array.getElem?_eq_some_iff.1 z0).2
  · simp [go_sem]
end Go.Proofs.Ybulkajsu.C
