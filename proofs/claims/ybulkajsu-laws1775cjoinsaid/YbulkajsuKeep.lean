import Derived.Test.YbulkajsuJLeaves
namespace Go.Proofs.Ybulkajsu.C
open Go.RowKit

/-- The variable 'merged' (box bm) holds a slice over the row at block g, with room up to cap; its members are L. -/
structure Mrg (w : World) (bm g cap : Nat) (L : Es) : Prop where
  box : w.cell? ⟨bm, 0, none⟩ = some (.slice (some ⟨g, 0, none⟩) L.length cap)
  fz : w.frozen? ⟨bm, 0, none⟩ = false
  row : w.ownsRow 0 50 2 (.slice (some ⟨g, 0, none⟩) L.length cap) L.length (cellsE L)
  ne : bm ≠ g

/-- Only the blocks bm and g have turned; new ones may lie behind. -/
structure Turn (w w' : World) (bm g : Nat) : Prop where
  os : w'.os = w.os
  tape : w'.tape = w.tape
  output : w'.output = w.output
  size : w.heap.size ≤ w'.heap.size
  block : ∀ k, k < w.heap.size → k ≠ bm → k ≠ g → w'.heap[k]? = w.heap[k]?

theorem Turn.refl (w : World) (bm g : Nat) : Turn w w bm g := ⟨rfl, rfl, rfl, Nat.le_refl _, fun _ _ _ _ => rfl⟩
theorem Turn.trans {a b c : World} {bm g : Nat} (h : Turn a b bm g) (k : Turn b c bm g) : Turn a c bm g :=
  ⟨k.os.trans h.os, k.tape.trans h.tape, k.output.trans h.output, Nat.le_trans h.size k.size, fun i hi h1 h2 => (k.block i (Nat.lt_of_lt_of_le hi h.size) h1 h2).trans (h.block i hi h1 h2)⟩
theorem Turn.of_below {a b : World} {bm g : Nat} (h : Below a.heap.size a b) : Turn a b bm g := ⟨h.os, h.tape, h.output, h.size, fun k hk _ _ => h.block k hk⟩
theorem Turn.below {a b : World} {bm g B : Nat} (h : Turn a b bm g) (h1 : B ≤ bm) (h2 : B ≤ g) (hB : B ≤ a.heap.size) : Below B a b := ⟨h.os, h.tape, h.output, h.size, fun k hk => h.block k (by omega) (by omega) (by omega)⟩
theorem Turn.cell {a b : World} {bm g x o : Nat} {v : Value} (h : Turn a b bm g) (hc : a.cell? ⟨x, o, none⟩ = some v) (h1 : x ≠ bm) (h2 : x ≠ g) : b.cell? ⟨x, o, none⟩ = some v :=
  (World.cell?_of_block (w := a) (h.block x (World.block_lt_of_cell? _ _ hc) h1 h2)).trans hc
theorem Turn.frozen {a b : World} {bm g x o : Nat} {v : Value} {f : Bool} (h : Turn a b bm g) (hc : a.cell? ⟨x, 0, none⟩ = some v) (hf : a.frozen? ⟨x, o, none⟩ = f) (h1 : x ≠ bm) (h2 : x ≠ g) : b.frozen? ⟨x, o, none⟩ = f :=
  (World.frozen?_of_block (w := a) (h.block x (World.block_lt_of_cell? _ _ hc) h1 h2)).trans hf

theorem cell_two_at (w : World) (x y : Value) (t : TypeId) (n : Nat) (hn : n = w.heap.size) : ∀ j u, [x, y][j]? = some u → (w.alloc (.cells #[x, y] t)).cell? ((⟨n, 0, none⟩ : Addr).add j) = some u := by
  subst hn
  intro j u hj
  rw [add_at]
  match j, hj with
  | 0, hj => simpa using hj
  | 1, hj => simpa using hj
  | j + 2, hj => simp at hj

theorem own_setOther {w : World} {base n cap g b : Nat} {e : TypeId} {xs : List Value} {v : Value} (h : w.ownsRow base e 2 (.slice (some ⟨g, 0, none⟩) n cap) n xs) (hne : b ≠ g) : (w.setCell ⟨b, 0, none⟩ v).ownsRow base e 2 (.slice (some ⟨g, 0, none⟩) n cap) n xs := by
  refine ⟨h.1, ?_⟩
  rcases h.2 with ⟨h0, _⟩ | ⟨g', cap', cur, hv, hb, hc, r⟩
  · cases h0
  · refine .inr ⟨g', cap', cur, hv, hb, ?_, r⟩
    simp at hv
    rw [Below.heap_setCell _ _ _ _ (by rw [← hv.1]; exact fun h => hne h.symm)]
    exact hc

theorem Mrg.blk {w : World} {bm g cap : Nat} {L : Es} (h : Mrg w bm g cap L) : ∃ o, w.heap[g]? = some o := by
  rcases h.row.2 with ⟨h0, _⟩ | ⟨g', cap', cur, hv, _, hc, _⟩
  · cases h0
  · simp at hv
    rw [hv.1]
    exact ⟨_, hc⟩
theorem Mrg.lt {w : World} {bm g cap : Nat} {L : Es} (h : Mrg w bm g cap L) : g < w.heap.size := by
  obtain ⟨o, ho⟩ := h.blk
  exact (Array.getElem?_eq_some_iff.1 ho).1

set_option maxRecDepth 100000 in
set_option maxHeartbeats 1000000 in
theorem keep_any (bm g cap k : Nat) (x : Int) (L : Es) (w : World) (hM : Mrg w bm g cap L) (hroom : L.length + 1 ≤ cap) :
    Calls Yba.prog 52 #[.agg #[.string (keyB k), .int .u64 x], .pointer (some ⟨bm, 0, none⟩)] w fun e w' =>
      e = .returned (.bool true) ∧ Mrg w' bm g cap (L ++ [(k, x)]) ∧ Turn w w' bm g := by
  obtain ⟨i0, hi, hz0, hz1, hz2⟩ := info_parts info50
  have c0 := hM.box
  have c1 := hM.fz
  have HM : Hid (Mrg w bm g cap L) := hM
  have hbm : bm < w.heap.size := World.block_lt_of_cell? _ _ c0
  have hbs := lts hbm
  have hg : g < w.heap.size := hM.lt
  have Hrow : Hid (w.ownsRow 0 50 2 (.slice (some ⟨g, 0, none⟩) L.length cap) L.length (cellsE L)) := hM.row
  have Hne : Hid (bm ≠ g) := hM.ne
  clear hM
  have HLL : Hid (cellsE (L ++ [(k, x)]) = cellsE L ++ [.string (keyB k), .int .u64 x]) := by rw [Hid, cellsE_append]; rfl
  have HLl : Hid ((L ++ [(k, x)]).length = L.length + 1) := by rw [Hid, List.length_append]; rfl
  generalize hn : L.length = n at *
  clear hn
  go_enter Yba.func52, Yba.ntmps52
  go_wp2_with (first | (at_builtin; go_must (refine wpList_append_fits _ rfl _ _ 75 rfl 0 50 i0 2 Yba.underlying75 hi hz1 g n cap _ rfl ((Hrow.out.alloc _).alloc _) ⟨w.heap.size + 1, 0, none⟩ 1 1 [.string (keyB k), .int .u64 x] rfl rfl (cell_two_at _ _ _ _ _ (by simp)) (by simp [Value.oneCell']) hroom ?_); intro w1 hown' hgrow; have d0 : w1.cell? ⟨bm, 0, none⟩ = some (.slice (some ⟨g, 0, none⟩) n cap) := (World.cell?_of_block (hgrow.block bm (by simp; omega) (fun e => Hne.out (by injection e)))).trans (by simp [go_sem, c0, hbm, hbs]); have d1 : w1.frozen? ⟨bm, 0, none⟩ = false := (World.frozen?_of_block (hgrow.block bm (by simp; omega) (fun e => Hne.out (by injection e)))).trans (by simp [go_sem, c1, hbm, hbs]); have HO : Hid (_) := hown'; have HG : Hid (_) := hgrow; clear hown' hgrow))
  go_ret
  refine ⟨rfl, ⟨?_, ?_, ?_, Hne.out⟩, ?_⟩
  · rw [HLl.out]
    exact World.cell?_setCell_same _ _ _ d0
  · rw [World.frozen?_setCell]; exact d1
  · rw [HLl.out, HLL.out]
    exact own_setOther HO.out (fun h => Hne.out h)
  · have hgr := HG.out
    refine ⟨hgr.os, hgr.tape, hgr.output, ?_, fun j hj h1 h2 => ?_⟩
    · have := hgr.size
      simp at this
      simp [World.setCell]
      omega
    · rw [Below.heap_setCell _ _ _ _ h1, hgr.block j (by simp; omega) (fun e => h2 (by injection e)), Below.heap_alloc _ _ _ (by simp; omega), Below.heap_alloc _ _ _ hj]

theorem Turn.drew {a b : World} {bm g : Nat} (h : Turn a b bm g) : Turn a b.drew bm g := ⟨h.os, h.tape, h.output, h.size, h.block⟩
theorem Mrg.turn0 {w w' : World} {bm g cap : Nat} {L : Es} (h : Mrg w bm g cap L) (hb : Below w.heap.size w w') : Mrg w' bm g cap L := by
  have hbm : bm < w.heap.size := World.block_lt_of_cell? _ _ h.box
  refine ⟨cell_later hb h.box, (hb.frozen (p := ⟨bm, 0, none⟩) hbm).trans h.fz, ⟨h.row.1, ?_⟩, h.ne⟩
  rcases h.row.2 with ⟨h0, _⟩ | ⟨g', cap', cur, hv, hb', hc, r⟩
  · cases h0
  · exact .inr ⟨g', cap', cur, hv, hb', (hb.block g' (Array.getElem?_eq_some_iff.1 hc).1).trans hc, r⟩

set_option maxRecDepth 100000 in
set_option maxHeartbeats 1000000 in
theorem both_any (bk bb bm g cap k k2 : Nat) (x y z : Int) (L : Es) (w : World) (hz : (if x < y then y else x) = z) (hM : Mrg w bm g cap L) (hroom : L.length + 1 ≤ cap)
    (hk : w.cell? ⟨bk, 0, none⟩ = some (.func (.func 52) #[] #[.pointer (some ⟨bm, 0, none⟩)])) (hb : w.cell? ⟨bb, 0, none⟩ = some (.func (.func 22) #[] #[])) (hkg : bk ≠ g) (hbg : bb ≠ g) :
    Calls Yba.prog 54 #[.agg #[.string (keyB k), .int .u64 x], .agg #[.string (keyB k2), .int .u64 y], .pointer (some ⟨bk, 0, none⟩), .pointer (some ⟨bb, 0, none⟩)] w fun e w' =>
      e = .returned (.bool true) ∧ Mrg w' bm g cap (L ++ [(k, z)]) ∧ Turn w w' bm g := by
  have HM : Hid (Mrg w bm g cap L) := hM
  have HZ : Hid ((if x < y then y else x) = z) := hz
  have hbk : bk < w.heap.size := World.block_lt_of_cell? _ _ hk
  have hbb : bb < w.heap.size := World.block_lt_of_cell? _ _ hb
  have hks := lts hbk
  have hbs := lts hbb
  have hroom' : Hid (L.length + 1 ≤ cap) := hroom
  clear hM hz hroom
  go_enter Yba.func54, Yba.ntmps54
  go_wp2_with fail
  have hkm : bk ≠ bm := by
    rintro rfl
    have := HM.out.box
    rw [hk] at this
    cases this
  have hbm' : bb ≠ bm := by
    rintro rfl
    have := HM.out.box
    rw [hb] at this
    cases this
  have hgl := HM.out.lt
  have hml : bm < w.heap.size := World.block_lt_of_cell? _ _ HM.out.box
  go_region_held3 (fun w' => w'.cell? ⟨bk, 0, none⟩ = some (.func (.func 52) #[] #[.pointer (some ⟨bm, 0, none⟩)]) ∧ w'.cell? ⟨bb, 0, none⟩ = some (.func (.func 22) #[] #[]) ∧ w'.cell? ⟨w.heap.size, 0, none⟩ = some (.string (keyB k)) ∧ w'.cell? ⟨w.heap.size, 1, none⟩ = some (.int .u64 x) ∧ w'.cell? ⟨w.heap.size + 1, 0, none⟩ = some (.string (keyB k2)) ∧ w'.cell? ⟨w.heap.size + 1, 1, none⟩ = some (.int .u64 y)) ((repeat' apply And.intro) <;> (first | (first | (refine cell_later (w := w) ?_ (by assumption); (repeat (first | exact Below.refl _ _ | refine Below.drew ?_ | refine below_dn ?_ | refine Below.trans ?_ (hb2.mono (by first | omega | (simp; done) | (simp; omega))) | refine Below.alloc ?_ (by first | omega | (simp; done) | (simp; omega)) _ | refine Below.setCell ?_ (by first | omega | (simp; done) | (simp; omega)) _)); done) | (refine cell_later hb2 ?_; simp [go_sem]; done) | (simp [go_sem]; done)) | (refine Turn.cell ht ?_ (by omega) (by omega); (first | (refine cell_later (w := w) ?_ (by assumption); (repeat (first | exact Below.refl _ _ | refine Below.drew ?_ | refine below_dn ?_ | refine Below.trans ?_ (hb2.mono (by first | omega | (simp; done) | (simp; omega))) | refine Below.alloc ?_ (by first | omega | (simp; done) | (simp; omega)) _ | refine Below.setCell ?_ (by first | omega | (simp; done) | (simp; omega)) _)); done) | (refine cell_later hb2 ?_; simp [go_sem]; done) | (simp [go_sem]; done)); done)))
    (first | (go_at_call 22; refine (joinValues (keyB k) (keyB k2) x y _).mono ?_; rw [HZ.out]; rintro e w2 ⟨rfl, hb2⟩) | (go_at_call 52; refine (keep_any bm g cap k z L _ (HM.out.turn0 ?_) hroom'.out).mono ?_; (focus (repeat (first | exact Below.refl _ _ | refine Below.drew ?_ | refine below_dn ?_ | refine Below.trans ?_ (hb2.mono (by first | omega | (simp; done) | (simp; omega))) | refine Below.alloc ?_ (by first | omega | (simp; done) | (simp; omega)) _ | refine Below.setCell ?_ (by first | omega | (simp; done) | (simp; omega)) _))); rintro e w3 ⟨rfl, hM3, ht⟩; have HM3 : Hid (_) := hM3; clear hM3))
  go_wp2_with fail
  go_ret
  refine ⟨rfl, HM3.out, (Turn.of_below ?_).trans ht⟩
  repeat (first | exact Below.refl _ _ | refine Below.drew ?_ | refine below_dn ?_ | refine Below.trans ?_ (hb2.mono (by first | omega | (simp; done) | (simp; omega))) | refine Below.alloc ?_ (by first | omega | (simp; done) | (simp; omega)) _ | refine Below.setCell ?_ (by first | omega | (simp; done) | (simp; omega)) _)
end Go.Proofs.Ybulkajsu.C
