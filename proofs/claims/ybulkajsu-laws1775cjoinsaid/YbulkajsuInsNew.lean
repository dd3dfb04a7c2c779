import Derived.Test.YbulkajsuInsert
namespace Go.Proofs.Ybulkajsu.C
open Go.RowKit

theorem size50 : (Yba.prog.info? 50).map (·.size) = some 2 := by kernel_rfl
theorem splice2 {α : Type} (L : List α) (off : Nat) (a b : α) (h : off + 2 ≤ L.length) : (L.set off a).set (off + 1) b = splice L off [a, b] := by
  apply List.ext_getElem?
  intro k
  simp only [splice, List.getElem?_set, List.getElem?_append, List.length_take, List.length_cons, List.length_nil, List.length_set]
  have hm : min off L.length = off := by omega
  rw [hm]
  by_cases h1 : k < off
  · rw [if_pos h1, if_neg (by omega), if_neg (by omega), List.getElem?_take, if_pos h1]
  · rw [if_neg h1]
    by_cases h2 : k = off
    · subst h2
      rw [if_neg (by omega), if_pos rfl, if_pos (by omega)]
      simp
    · by_cases h3 : k = off + 1
      · subst h3
        rw [if_pos rfl, if_pos (by omega), if_pos (by omega)]
        simp
      · rw [if_neg (by omega), if_neg (by omega), if_neg (by omega), List.getElem?_drop]
        congr 1; omega

theorem block_setCell2 {w : World} {g i : Nat} {L : List Value} {t : TypeId} {fr : Nat × Nat} (h : w.heap[g]? = some (.cells L.toArray t fr)) (v : Value) : (w.setCell ⟨g, i, none⟩ v).heap[g]? = some (.cells (L.set i v).toArray t fr) := by
  rw [setCell_eq_setRow w g i L.toArray t fr v h]
  have := setRow_heap w g L.toArray (L.toArray.setIfInBounds i v) t fr h
  rw [this]
  simp

theorem run_copy_spliceK {P : Program} {w : World} (dT sT ty : TypeId) (elem : TypeId) (k : Nat) (hu : P.underlying dT = some (.slice elem)) (hsz : (P.info? elem).map (·.size) = some k)
    (dp sp : Option Addr) (dLen dCap sLen sCap : Nat)
    (g off : Nat) (cur : List Value) (t : TypeId) (hg : w.heap[g]? = some (.cells cur.toArray t (0, 0))) (cs : List Value) (hn : cs.length = Nat.min sLen dLen * k)
    (hpos : 0 < Nat.min sLen dLen → dp = some ⟨g, off, none⟩ ∧ ∃ ad, sp = some ad ∧ ∀ j v, cs[j]? = some v → w.cell? (ad.add j) = some v)
    (hfit : off + cs.length ≤ cur.length) (h1 : ∀ v ∈ cs, v.oneCell' = true) (B : Nat) (w0 : World) (hb : Below B w0 w) (hBg : B ≤ g) :
    ∃ w', (Builtin.copy_ #[dT, sT] ty #[.slice dp dLen dCap, .slice sp sLen sCap]).run P w = .ok (goInt (Nat.min sLen dLen)) w' ∧ Hid (w'.heap[g]? = some (.cells (splice cur off cs).toArray t (0, 0))) ∧ Below B w0 w' := by
  by_cases h0 : Nat.min sLen dLen = 0
  · obtain rfl : cs = [] := List.eq_nil_of_length_eq_zero (by rw [hn, h0, Nat.zero_mul])
    rw [h0]
    exact ⟨w, run_copy_noneK (P := P) w dT sT ty elem k dp sp dLen dCap sLen sCap hu hsz h0, (show _ = _ by simpa [splice] using hg), hb⟩
  · obtain ⟨rfl, ad, rfl, hsrc⟩ := hpos (by omega)
    exact ⟨_, run_copy_rowK (P := P) w dT sT ty elem k g off dLen dCap ad sLen sCap cur.toArray t cs hu hsz hg hn hsrc (by simpa using hfit) h1, (show _ = _ by simpa [splice] using setRow_heap w g _ _ t _ hg), below_setRow hb hBg _⟩

/-- What the walk leaves behind newNode is a tree of the grown entries. -/
theorem new_tail {w w5 : World} {c2 n i r : Nat} {v : Int} {es : Es} {L : List Value} (hn : es.length = n) (hin : i ≤ n) (hg : w5.heap[c2]? = some (.cells L.toArray 50 (0, 0))) (hL : L = cellsE (es.take i ++ (r, v) :: es.drop i)) (hb : Below w.heap.size w w5) :
    ∃ root, Ending.returned (.pointer (some ⟨w5.heap.size, 0, none⟩)) = .returned (.pointer root) ∧
      Tree (w5.alloc (.cells #[.slice (some ⟨c2, 0, none⟩) (n + 1) (n + 1), .pointer none, .pointer none, .int .i64 ((n + 1 : Nat) : Int), .int .i64 1] 77)).drew root (es.take i ++ (r, v) :: es.drop i) ∧
      Below w.heap.size w (w5.alloc (.cells #[.slice (some ⟨c2, 0, none⟩) (n + 1) (n + 1), .pointer none, .pointer none, .int .i64 ((n + 1 : Nat) : Int), .int .i64 1] 77)).drew := by
  have hlen : (es.take i ++ (r, v) :: es.drop i).length = n + 1 := by simp [hn]; omega
  have hB : Below w5.heap.size w5 (w5.alloc (.cells #[.slice (some ⟨c2, 0, none⟩) (n + 1) (n + 1), .pointer none, .pointer none, .int .i64 ((n + 1 : Nat) : Int), .int .i64 1] 77)).drew := ((Below.refl _ _).alloc (Nat.le_refl _) _).drew
  refine ⟨_, rfl, .inr ⟨by omega, w5.heap.size, c2, n + 1, rfl, ?_⟩, hb.trans (hB.mono hb.size)⟩
  refine ⟨?_, ?_, ?_, ?_, ?_, ?_, by omega⟩
  · rw [hlen]; simp [go_sem]
  · simp [go_sem]
  · simp [go_sem]
  · rw [hlen]; simp [go_sem]
  · simp [go_sem]
  · exact (Ents.of_block hg (by rw [hL, hlen, List.take_of_length_le (by rw [cellsE_len, hlen]; exact Nat.le_refl _)])).below hB

set_option maxRecDepth 100000 in
set_option maxHeartbeats 2000000 in
theorem insert_new (r g c cap n i : Nat) (v : Int) (es : Es) (w : World) (h0 : w.cell? ⟨g, 0, none⟩ = some (.slice (some ⟨c, 0, none⟩) n cap)) (hl : w.cell? ⟨g, 1, none⟩ = some (.pointer none)) (hrt : w.cell? ⟨g, 2, none⟩ = some (.pointer none))
    (hcap : n ≤ cap) (hpos : 0 < n) (hn : n ≤ 30) (hE : Ents w c es) (ha : Asc es) (hln : es.length = n) (hin : i ≤ n) (hlo : lo es r = i) (hhas : has es r = false) (hr : r < 4) :
    Calls Yba.prog 26 #[.pointer (some ⟨g, 0, none⟩), .agg #[.string (keyB r), .int .u64 v], both27] w fun e w' =>
      ∃ root, e = .returned (.pointer root) ∧ Tree w' root (es.take i ++ (r, v) :: es.drop i) ∧ Below w.heap.size w w' := by
  have hmc := method_cmp
  simp only [Yba.t51, List.map, List.headD] at hmc
  obtain ⟨i0, hi, hz0, hz1, hz2⟩ := info_parts info50
  have hnI : (0 : Int) < (n : Int) := by omega
  have hi0 : (0 : Int) ≤ (i : Int) := by omega
  have hi1 : (i : Int) ≤ (n : Int) := by omega
  have hi2 : (i : Int) ≤ (cap : Int) := by omega
  have hg : g < w.heap.size := World.block_lt_of_cell? _ _ h0
  have hgs := lts hg
  have HE : Hid (Ents w c es) := hE
  have HA : Hid (Asc es) := ha
  have HL : Hid (es.length = n) := hln
  have HLo : Hid (lo es r = i) := hlo
  have HHas : Hid (has es r = false) := hhas
  clear hE ha hln hlo hhas
  go_enter Yba.func26, Yba.ntmps26
  go_wp2_with fail
  go_quiet (fail)
  go_wp2_with fail
  go_quiet (fail)
  go_wp2_with fail
  go_region_held3 (fun w' => w'.cell? ⟨g, 0, none⟩ = some (.slice (some ⟨c, 0, none⟩) n cap) ∧ w'.cell? ⟨w.heap.size, 0, none⟩ = some (.string (keyB r)) ∧ w'.cell? ⟨w.heap.size, 1, none⟩ = some (.int .u64 v)) ((repeat' apply And.intro) <;> (first | (refine cell_later (w := w) ?_ (by assumption); (repeat (first | exact Below.refl _ _ | refine Below.drew ?_ | refine below_dn ?_ | refine Below.trans ?_ (hb.mono (by first | omega | (simp; done) | (simp; omega))) | refine Below.alloc ?_ (by first | omega | (simp; done) | (simp; omega)) _ | refine Below.setCell ?_ (by first | omega | (simp; done) | (simp; omega)) _)); done) | (simp [go_sem]; done) | (refine cell_later hb ?_; simp [go_sem]; done) | (refine (hb.frozen ?_).trans ?_ <;> simp [go_sem]; done)))
    (first | (go_at_call 38; refine (searchH _ hmc c n cap r i v es false _ ?_ HA.out hr HL.out (by omega) HLo.out HHas.out).mono ?_; (focus (refine HE.out.below ?_; (repeat (first | exact Below.refl _ _ | refine Below.drew ?_ | refine below_dn ?_ | refine Below.alloc ?_ (by first | omega | (simp; done) | (simp; omega)) _)))); rintro e w1 ⟨rfl, hb⟩))
  have hsz : w.heap.size + 1 < w1.heap.size := by have := hb.size; simp at this; omega
  have B1 : Below w.heap.size w w1 := by
    repeat (first | exact Below.refl _ _ | refine Below.drew ?_ | refine below_dn ?_ | refine Below.trans ?_ (hb.mono (by first | omega | (simp; done) | (simp; omega))) | refine Below.alloc ?_ (by first | omega | (simp; done) | (simp; omega)) _ | refine Below.setCell ?_ (by first | omega | (simp; done) | (simp; omega)) _)
  have x0 : w1.cell? ⟨w.heap.size, 0, none⟩ = some (.string (keyB r)) := ((hb.cell (p := ⟨w.heap.size, 0, none⟩) (by simp; omega)).trans (by simp [go_sem]))
  have x1 : w1.cell? ⟨w.heap.size, 1, none⟩ = some (.int .u64 v) := ((hb.cell (p := ⟨w.heap.size, 1, none⟩) (by simp; omega)).trans (by simp [go_sem]))
  have HE1 : Hid (Ents w1 c es) := HE.out.below B1
  obtain ⟨X1, hX1⟩ : ∃ X1, X1 = cellsE (es.take i) := ⟨_, rfl⟩
  obtain ⟨X2, hX2⟩ : ∃ X2, X2 = cellsE (es.drop i) := ⟨_, rfl⟩
  have HX1 : Hid (X1 = cellsE (es.take i)) := hX1
  have HX2 : Hid (X2 = cellsE (es.drop i)) := hX2
  have HX1l : Hid (X1.length = i * 2) := by rw [Hid, hX1, cellsE_len, List.length_take, HL.out, Nat.min_eq_left hin]
  have HX2l : Hid (X2.length = (n - i) * 2) := by rw [Hid, hX2, cellsE_len, List.length_drop, HL.out]
  have HX1c : Hid (∀ j u, X1[j]? = some u → w1.cell? ((⟨c, 0, none⟩ : Addr).add j) = some u) := by
    intro j u hj
    refine HE1.out.cells j u ?_
    have e : cellsE es = X1 ++ X2 := by rw [hX1, hX2, ← cellsE_append, List.take_append_drop]
    rw [e, List.getElem?_append_left (by rcases Nat.lt_or_ge j X1.length with h | h; exact h; rw [List.getElem?_eq_none h] at hj; cases hj)]
    exact hj
  have HX2c : Hid (∀ j u, X2[j]? = some u → w1.cell? ⟨c, i * 2 + j, none⟩ = some u) := by
    intro j u hj
    have e : cellsE es = X1 ++ X2 := by rw [hX1, hX2, ← cellsE_append, List.take_append_drop]
    have := HE1.out.cells (i * 2 + j) u (by rw [e, List.getElem?_append_right (by rw [HX1l.out]; omega), HX1l.out, Nat.add_sub_cancel_left]; exact hj)
    rwa [add_at] at this
  have HO1 : Hid (∀ u ∈ X1, u.oneCell' = true) := by rw [Hid, hX1]; exact cellsE_one _
  have HO2 : Hid (∀ u ∈ X2, u.oneCell' = true) := by rw [Hid, hX2]; exact cellsE_one _
  clear hX1 hX2
  go_wp2_with (first
    | (at_make; go_must (refine wpList_make_full _ rfl _ _ 75 rfl w.heap.size 50 i0 _ 2 Yba.underlying75 hi hz0 hz1 .i64 .i64 _ _ (n + 1) rfl rfl (by omega) (by omega) (by rw [hz2]; omega) (by unfold maxLen; omega) (by omega) ?_); intro w2 hown hgrow; obtain ⟨L, hL, hLn⟩ := own_full hown; have HL2 : Hid (_) := hL; have HLn : Hid (_) := hLn; clear hown hL hLn; have B2 : Below w1.heap.size w1 w2 := (Below.refl _ _).grown hgrow (Nat.le_refl _) (fun k hk => by cases hk); have q0 : w2.cell? ⟨g, 0, none⟩ = some (.slice (some ⟨c, 0, none⟩) n cap) := cell_later B2 (cell_later B1 h0); clear hgrow))
  obtain ⟨w3, hrun, HG3, B3⟩ := run_copy_spliceK (P := Yba.prog) (w := w2) 75 75 3 50 2 Yba.underlying75 size50 (some ⟨w1.heap.size, 0, none⟩) (some ⟨c, 0, none⟩) (n + 1) (n + 1) i cap w1.heap.size 0 L 50 HL2.out X1 (by rw [HX1l.out]; show _ = min i (n + 1) * 2; rw [Nat.min_eq_left (by omega)]) (fun _ => ⟨rfl, ⟨c, 0, none⟩, rfl, fun j u hj => cell_later B2 (HX1c.out j u hj)⟩) (by rw [HX1l.out, HLn.out]; omega) HO1.out w1.heap.size w1 B2 (Nat.le_refl _)
  rw [hrun]
  simp only [Result.andThen]
  rw [Oper.upon_value]
  have HRow : Hid (∀ k, k < (n + 1) * 2 → (w3.cell? ⟨w1.heap.size, k, none⟩).isSome = true) := by
    intro k hk
    have := HG3.out
    simp [World.cell?, this, splice, HX1l.out, HLn.out]
    omega
  obtain ⟨u0, hu0⟩ := Option.isSome_iff_exists.1 (HRow.out (i * 2) (by omega))
  obtain ⟨u1, hu1⟩ := Option.isSome_iff_exists.1 (HRow.out (i * 2 + 1) (by omega))
  have fz : ∀ k, w3.frozen? ⟨w1.heap.size, k, none⟩ = false := fun k => by have := HG3.out; simp [World.frozen?, this]
  have f0 := fz (i * 2)
  have f1 := fz (i * 2 + 1)
  have y0 := cell_later B3 x0
  have y1 := cell_later B3 x1
  have q3 : w3.cell? ⟨g, 0, none⟩ = some (.slice (some ⟨c, 0, none⟩) n cap) := cell_later B3 (cell_later B1 h0)
  clear fz hrun
  have hj1 : (i : Int) < (n : Int) + 1 := by omega
  go_wp2_with fail
  obtain ⟨W4, hW4⟩ : ∃ W4, (w3.setCell ⟨w1.heap.size, i * 2, none⟩ (.string (keyB r))).setCell ⟨w1.heap.size, i * 2 + 1, none⟩ (.int .u64 v) = W4 := ⟨_, rfl⟩
  rw [hW4]
  have B4 : Below w1.heap.size w1 W4 := by
    rw [← hW4]
    exact (B3.setCell (p := ⟨w1.heap.size, i * 2, none⟩) (Nat.le_refl _) _).setCell (p := ⟨w1.heap.size, i * 2 + 1, none⟩) (Nat.le_refl _) _
  have HG4 : Hid (W4.heap[w1.heap.size]? = some (.cells (splice (splice L 0 X1) (i * 2) [.string (keyB r), .int .u64 v]).toArray 50 (0, 0))) := by
    rw [Hid, ← hW4, ← splice2 _ _ _ _ (by rw [length_splice _ _ _ (by rw [HX1l.out, HLn.out]; omega), HLn.out]; omega)]
    have a := block_setCell2 (i := i * 2) HG3.out (.string (keyB r))
    have b := block_setCell2 (i := i * 2 + 1) a (.int .u64 v)
    simpa using b
  have q4 : W4.cell? ⟨g, 0, none⟩ = some (.slice (some ⟨c, 0, none⟩) n cap) := cell_later B4 (cell_later B1 h0)
  have l4 : W4.cell? ⟨g, 1, none⟩ = some (.pointer none) := cell_later B4 (cell_later B1 hl)
  have r4 : W4.cell? ⟨g, 2, none⟩ = some (.pointer none) := cell_later B4 (cell_later B1 hrt)
  have HX2d : Hid (∀ j u, X2[j]? = some u → W4.cell? ⟨c, i * 2 + j, none⟩ = some u) := fun j u hj => cell_later B4 (HX2c.out j u hj)
  have HLs : Hid ((splice (splice L 0 X1) (i * 2) [.string (keyB r), .int .u64 v]).length = (n + 1) * 2) := by
    rw [Hid, length_splice, length_splice, HLn.out]
    · rw [HX1l.out, HLn.out]; omega
    · rw [length_splice _ _ _ (by rw [HX1l.out, HLn.out]; omega), HLn.out]; simp; omega
  have HXa : Hid (∀ j u, X2[j]? = some u → W4.drew.cell? ((⟨c, i * 2, none⟩ : Addr).add j) = some u) := fun j u hj => by
    have e : (⟨c, i * 2, none⟩ : Addr).add j = ⟨c, i * 2 + j, none⟩ := by unfold Addr.add; split <;> simp_all
    rw [e]; exact HX2d.out j u hj
  clear hW4 hu0 hu1 f0 f1 y0 y1 q3 x0 x1 q0
  have hw1 : IntKind.i64.wrap ((i : Int) + 1) = (i : Int) + 1 := by rw [IntKind.wrap_i64]; omega
  have ht1 : ((i : Int) + 1).toNat = i + 1 := by omega
  have HFin : Hid (splice (splice (splice L 0 X1) (i * 2) [.string (keyB r), .int .u64 v]) (i * 2 + 2) X2 = cellsE (es.take i ++ (r, v) :: es.drop i)) := by
    rw [Hid, splice_splice_splice L X1 [.string (keyB r), .int .u64 v] X2 (i * 2) 2 HX1l.out rfl (by rw [HX2l.out, HLn.out]; omega), cellsE_append, ← HX1.out, HX2.out]
    simp [cellsE]
  generalize splice (splice L 0 X1) (i * 2) [.string (keyB r), .int .u64 v] = L4 at *
  by_cases hlt : i < n
  · have hne : ¬ n = i := by omega
    have hne2 : ¬ cap = i := by omega
    have hb1 : (i : Int) + 1 ≤ (n : Int) + 1 := by omega
    have hb2 : (0 : Int) ≤ (i : Int) + 1 := by omega
    go_region_law (refine step_copy_spliceK rfl (.tmp 154) (.tmp 160) 75 75 rfl 50 2 Yba.underlying75 size50 (some ⟨w1.heap.size, (i + 1) * 2, none⟩) (some ⟨c, i * 2, none⟩) (n - i) (n - i) (n - i) (cap - i) rfl rfl w1.heap.size (i * 2 + 2) L4 50 HG4.out X2 (by rw [HX2l.out]; show _ = min (n - i) (n - i) * 2; rw [Nat.min_self]) (fun _ => ⟨by rw [show (i + 1) * 2 = i * 2 + 2 by omega], ⟨c, i * 2, none⟩, rfl, fun j u hj => (HXa.out j u hj)⟩) (by rw [HX2l.out, HLs.out]; omega) HO2.out w1.heap.size w1 B4.drew (Nat.le_refl _) ?_; intro w5 HG5 B5)
    have l5 : w5.cell? ⟨g, 1, none⟩ = some (.pointer none) := cell_later B5 (cell_later B1 hl)
    have r5 : w5.cell? ⟨g, 2, none⟩ = some (.pointer none) := cell_later B5 (cell_later B1 hrt)
    have hl33 : (n : Int) + 1 ≤ 32 := by omega
    clear q4 l4 r4
    go_wp2_with fail
    go_region_held3 (fun w' => w'.cell? ⟨g, 1, none⟩ = some (.pointer none) ∧ w'.cell? ⟨g, 2, none⟩ = some (.pointer none)) (go_keep)
      (first | (go_at_call 36; refine (newNode _ (n + 1) (n + 1) (by omega) _).mono ?_; rintro e w' ⟨rfl, rfl⟩))
    go_wp2_with fail
    go_ret
    exact new_tail HL.out hin HG5.out HFin.out (B1.trans (B5.mono (by omega)))
  · obtain rfl : i = n := by omega
    have hb1 : (i : Int) + 1 ≤ (i : Int) + 1 := by omega
    have hb2 : (0 : Int) ≤ (i : Int) + 1 := by omega
    have hX0 : Hid (X2 = []) := List.eq_nil_of_length_eq_zero (by rw [HX2l.out]; omega)
    by_cases hci : cap = i
    · go_region_law (refine step_copy_spliceK rfl (.tmp 154) (.tmp 160) 75 75 rfl 50 2 Yba.underlying75 size50 _ _ 0 0 0 _ rfl rfl w1.heap.size (i * 2 + 2) L4 50 HG4.out X2 (by rw [hX0.out]; rfl) (fun h => absurd h (by decide)) (by rw [HLs.out, hX0.out]; simp; omega) (by rw [hX0.out]; simp) w1.heap.size w1 B4.drew (Nat.le_refl _) ?_; intro w5 HG5 B5)
      have l5 : w5.cell? ⟨g, 1, none⟩ = some (.pointer none) := cell_later B5 (cell_later B1 hl)
      have r5 : w5.cell? ⟨g, 2, none⟩ = some (.pointer none) := cell_later B5 (cell_later B1 hrt)
      have hl33 : (i : Int) + 1 ≤ 32 := by omega
      clear q4 l4 r4
      go_wp2_with fail
      go_region_held3 (fun w' => w'.cell? ⟨g, 1, none⟩ = some (.pointer none) ∧ w'.cell? ⟨g, 2, none⟩ = some (.pointer none)) (go_keep)
        (first | (go_at_call 36; refine (newNode _ (i + 1) (i + 1) (by omega) _).mono ?_; rintro e w' ⟨rfl, rfl⟩))
      go_wp2_with fail
      go_ret
      exact new_tail HL.out hin HG5.out HFin.out (B1.trans (B5.mono (by omega)))
    · go_region_law (refine step_copy_spliceK rfl (.tmp 154) (.tmp 160) 75 75 rfl 50 2 Yba.underlying75 size50 _ _ 0 0 0 _ rfl rfl w1.heap.size (i * 2 + 2) L4 50 HG4.out X2 (by rw [hX0.out]; rfl) (fun h => absurd h (by decide)) (by rw [HLs.out, hX0.out]; simp; omega) (by rw [hX0.out]; simp) w1.heap.size w1 B4.drew (Nat.le_refl _) ?_; intro w5 HG5 B5)
      have l5 : w5.cell? ⟨g, 1, none⟩ = some (.pointer none) := cell_later B5 (cell_later B1 hl)
      have r5 : w5.cell? ⟨g, 2, none⟩ = some (.pointer none) := cell_later B5 (cell_later B1 hrt)
      have hl33 : (i : Int) + 1 ≤ 32 := by omega
      clear q4 l4 r4
      go_wp2_with fail
      go_region_held3 (fun w' => w'.cell? ⟨g, 1, none⟩ = some (.pointer none) ∧ w'.cell? ⟨g, 2, none⟩ = some (.pointer none)) (go_keep)
        (first | (go_at_call 36; refine (newNode _ (i + 1) (i + 1) (by omega) _).mono ?_; rintro e w' ⟨rfl, rfl⟩))
      go_wp2_with fail
      go_ret
      exact new_tail HL.out hin HG5.out HFin.out (B1.trans (B5.mono (by omega)))

end Go.Proofs.Ybulkajsu.C
