import Derived.Test.YbulkajsuWalkA
namespace Go.Proofs.Ybulkajsu.C
open Go.RowKit

theorem asc_from {es : Es} {k r : Nat} (ha : Asc es) (hr : r ≤ (es.getD k (0, 0)).1) : ∀ t, k ≤ t → t < es.length → r ≤ (es.getD t (0, 0)).1 := by
  intro t h1 h2
  rcases Nat.eq_or_lt_of_le h1 with h | h
  · rw [← h]; exact hr
  · have := ha.1 k t h h2
    omega
theorem ins_gt {es : Es} {k r : Nat} {d : Int} (ha : Asc es) (hl : ∀ t, t < k → (es.getD t (0, 0)).1 < r) (hk : k < es.length) (h : r < (es.getD k (0, 0)).1) : ins es r d = es.take k ++ (r, d) :: es.drop k := by
  have h1 := lo_eq es k r (Nat.le_of_lt hk) hl (asc_from ha (Nat.le_of_lt h))
  have h2 : has es r = false := by
    rw [has_at (k := (es.getD k (0, 0)).1) (y := (es.getD k (0, 0)).2) ha rfl hl hk rfl (Nat.le_of_lt h)]
    exact beq_eq_false_iff_ne.2 (by omega)
  rw [ins, h2, h1]
  rfl
theorem ins_eq {es : Es} {k r : Nat} {d : Int} (ha : Asc es) (hl : ∀ t, t < k → (es.getD t (0, 0)).1 < r) (hk : k < es.length) (h : (es.getD k (0, 0)).1 = r) : ins es r d = es.take k ++ (r, d) :: es.drop (k + 1) := by
  have h1 := lo_eq es k r (Nat.le_of_lt hk) hl (asc_from ha (by omega))
  have h2 : has es r = true := (has_iff es r).2 ⟨k, hk, h⟩
  rw [ins, h2, h1, if_pos rfl, List.set_eq_take_append_cons_drop, if_pos hk]
theorem ins_end {es : Es} {r : Nat} {d : Int} (hl : ∀ t, t < es.length → (es.getD t (0, 0)).1 < r) : ins es r d = es ++ [(r, d)] := by
  have h1 := lo_eq es es.length r (Nat.le_refl _) hl (fun t h1 h2 => by omega)
  rw [ins, has_none hl, h1]
  simp
theorem take_snoc {es : Es} {k : Nat} (hk : k < es.length) : es.take k ++ [es.getD k (0, 0)] = es.take (k + 1) := by
  rw [List.take_succ_eq_append_getElem hk]
  simp [List.getElem?_eq_getElem hk]

theorem drain_m (b bm g cap c n i m ccap gn : Nat) (es L : Es) (w : World) (hM : Mrg w bm g cap L) (hroom : L.length + m ≤ cap) (hE : Ents w c es) (hn : es.length = n) (him : i + m = n) (hm : 0 < m) (hn31 : n ≤ 31)
    (hC : Curs w b 1 (some ⟨gn, 0, none⟩)) (hr : w.cell? ⟨gn, 2, none⟩ = some (.pointer none)) (hb1 : b ≠ bm) (hb2 : b ≠ g) (hc1 : c ≠ bm) (hc2 : c ≠ g) (hg1 : gn ≠ bm) (hg2 : gn ≠ g) (hgb : gn ≠ b) (hcb : c ≠ b) (hbb : bm ≠ b) (hgb2 : g ≠ b) :
    Calls Yba.prog 60 #[.pointer (some ⟨b, 0, none⟩), .slice (some ⟨c, i * 2, none⟩) m ccap, keepF bm] w fun e w' => e = .returned (.bool true) ∧ Mrg w' bm g cap (L ++ es.drop i) ∧ ∀ B, B ≤ bm → B ≤ g → B ≤ b → B ≤ w.heap.size → Below B w w' := by
  obtain rfl : m = n - i := by omega
  exact drain_some b bm g cap c n i ccap gn es L w hM hroom hE hn (by omega) hn31 hC hr hb1 hb2 hc1 hc2 hg1 hg2 hgb hcb hbb hgb2
/-- Where the walk stands: both cursors have members; only the first one; none; only the second one. -/
def Stand (es : Es) (n r : Nat) (d : Int) (ca cb ga gb c c2 cy : Nat) (L : Es) (x y : Value) (wr : World) : Prop :=
  (∃ k m ccap, k + m = n ∧ 0 < m ∧ m ≤ ccap ∧ x = .slice (some ⟨c, k * 2, none⟩) m ccap ∧ y = .slice (some ⟨c2, 0, none⟩) 1 cy ∧ L = es.take k ∧ Curs wr ca 1 (some ⟨ga, 0, none⟩) ∧ Curs wr cb 1 (some ⟨gb, 0, none⟩) ∧ ∀ t, t < k → (es.getD t (0, 0)).1 < r) ∨
  (∃ i m ccap, i + m = n ∧ 0 < m ∧ x = .slice (some ⟨c, i * 2, none⟩) m ccap ∧ y = .slice none 0 0 ∧ L ++ es.drop i = ins es r d ∧ L.length ≤ i + 1 ∧ Curs wr ca 1 (some ⟨ga, 0, none⟩)) ∨
  (x = .slice none 0 0 ∧ y = .slice none 0 0 ∧ L = ins es r d) ∨
  (x = .slice none 0 0 ∧ y = .slice (some ⟨c2, 0, none⟩) 1 cy ∧ L ++ [(r, d)] = ins es r d ∧ L.length ≤ n ∧ Curs wr cb 1 (some ⟨gb, 0, none⟩))
def len2 : Value → Nat
  | .slice _ n _ => n
  | _ => 0

set_option maxRecDepth 100000 in
set_option maxHeartbeats 4000000 in
theorem walk_any (B bm g cap bk bb ga gb c cx c2 cy n r : Nat) (d : Int) (es : Es) (w : World) (hA : Node w ga c cx es) (hG : Node w gb c2 cy [(r, d)]) (ha : Asc es) (hr : r < 4) (hn : es.length = n) (hn31 : n ≤ 31) (hpos : 0 < n)
    (hd : ∀ k, k < n → (es.getD k (0, 0)).1 = r → (es.getD k (0, 0)).2 < d) (hM : Mrg w bm g cap []) (hcap : n + 1 ≤ cap) (hk : w.cell? ⟨bk, 0, none⟩ = some (keepF bm)) (hb : w.cell? ⟨bb, 0, none⟩ = some (.func (.func 22) #[] #[])) (hkg : bk ≠ g) (hbg : bb ≠ g)
    (h1B : ga < B) (h2B : gb < B) (h3B : c < B) (h4B : c2 < B) (hBm : B ≤ bm) (hBg : B ≤ g) :
    Calls Yba.prog 53 #[.pointer (some ⟨ga, 0, none⟩), .pointer (some ⟨gb, 0, none⟩), keepF bm, keepF bm, bothF bk bb] w fun e w' => e = .returned (.bool true) ∧ Mrg w' bm g cap (ins es r d) ∧ Below B w w' := by
  have hq1 := run_neq_keep
  have hq2 := run_neq_both
  have hmc := method_cmp
  simp only [Yba.t51, List.map, List.headD] at hmc
  have hkm : bk ≠ bm := by
    rintro rfl
    have := hM.box
    rw [hk] at this
    cases this
  have hbm' : bb ≠ bm := by
    rintro rfl
    have := hM.box
    rw [hb] at this
    cases this
  have hgl := hM.lt
  have hml : bm < w.heap.size := World.block_lt_of_cell? _ _ hM.box
  have hkl : bk < w.heap.size := World.block_lt_of_cell? _ _ hk
  have hbl : bb < w.heap.size := World.block_lt_of_cell? _ _ hb
  have HA : Hid (Node w ga c cx es) := hA
  have HG : Hid (Node w gb c2 cy [(r, d)]) := hG
  have HM : Hid (Mrg w bm g cap []) := hM
  have Ha : Hid (Asc es) := ha
  have Hd : Hid (∀ k, k < n → (es.getD k (0, 0)).1 = r → (es.getD k (0, 0)).2 < d) := hd
  have HN : Hid (es.length = n) := hn
  have HK : Hid (w.cell? ⟨bk, 0, none⟩ = some (keepF bm)) := hk
  have HBf : Hid (w.cell? ⟨bb, 0, none⟩ = some (.func (.func 22) #[] #[])) := hb
  have hBw : B ≤ w.heap.size := by omega
  clear hA hG hM ha hd hn hk hb
  go_enter Yba.func53, Yba.ntmps53
  have hZ := ((Below.refl w.heap.size w).alloc (Nat.le_refl _) (.cells #[] 51))
  have HW0 : Hid (Below w.heap.size w (((w.alloc (.cells #[] 51)).alloc (.cells Yba.zeroCells103 103)).alloc (.cells Yba.zeroCells103 103))) := (hZ.alloc (by simp) _).alloc (by simp; omega) _
  have HCa : Hid (Curs (((w.alloc (.cells #[] 51)).alloc (.cells Yba.zeroCells103 103)).alloc (.cells Yba.zeroCells103 103)) (w.heap.size + 1) 0 none) := (cursZero _ _ (by simp)).later ((Below.refl _ _).alloc (Nat.le_refl _) _)
  have HCb : Hid (Curs (((w.alloc (.cells #[] 51)).alloc (.cells Yba.zeroCells103 103)).alloc (.cells Yba.zeroCells103 103)) (w.heap.size + 1 + 1) 0 none) := cursZero _ _ (by simp)
  have hsz : w.heap.size ≤ (((w.alloc (.cells #[] 51)).alloc (.cells Yba.zeroCells103 103)).alloc (.cells Yba.zeroCells103 103)).heap.size := HW0.out.size
  clear hZ
  go_wp2_with fail
  generalize (((w.alloc (.cells #[] 51)).alloc (.cells Yba.zeroCells103 103)).alloc (.cells Yba.zeroCells103 103)) = W0 at HW0 HCa HCb hsz ⊢
  refine (descend_turn (w.heap.size + 1) ga none _ HCa.out (cell_belowB HW0.out (by omega) HA.out.left) (by omega)).mono ?_
  rintro e w1 ⟨rfl, hCa1, ht1⟩
  have HCa1 : Hid (Curs w1 (w.heap.size + 1) 1 (some ⟨ga, 0, none⟩)) := hCa1
  have HCb1 : Hid (Curs w1 (w.heap.size + 1 + 1) 0 none) := HCb.out.turn ht1 (by omega) (by omega)
  have HW1 : Hid (Below w.heap.size w w1) := HW0.out.trans (ht1.below (by omega) (by omega) hsz)
  clear hCa1 ht1 HCa HCb HW0 hsz
  go_wp2_with fail
  refine (descend_turn (w.heap.size + 1 + 1) gb none _ HCb1.out (cell_belowB HW1.out (by omega) HG.out.left) (by omega)).mono ?_
  rintro e w2 ⟨rfl, hCb2, ht2⟩
  have HCb2 : Hid (Curs w2 (w.heap.size + 1 + 1) 1 (some ⟨gb, 0, none⟩)) := hCb2
  have HCa2 : Hid (Curs w2 (w.heap.size + 1) 1 (some ⟨ga, 0, none⟩)) := HCa1.out.turn ht2 (by omega) (by omega)
  have HW2 : Hid (Below w.heap.size w w2) := HW1.out.trans (ht2.below (by omega) (by omega) HW1.out.size)
  clear hCb2 ht2 HCb1 HCa1 HW1
  go_wp2_with fail
  refine (chunk_turn (w.heap.size + 1) ga es.length cx _ _ HCa2.out (cell_belowB HW2.out (by omega) HA.out.chunk)).mono ?_
  rintro e w3 ⟨rfl, hb3⟩
  have HCb3 : Hid (Curs w3 (w.heap.size + 1 + 1) 1 (some ⟨gb, 0, none⟩)) := HCb2.out.later hb3
  have HCa3 : Hid (Curs w3 (w.heap.size + 1) 1 (some ⟨ga, 0, none⟩)) := HCa2.out.later hb3
  have HW3 : Hid (Below w.heap.size w w3) := HW2.out.trans (hb3.mono HW2.out.size)
  clear HCb2 HCa2 HW2 hb3
  go_wp2_with fail
  refine (chunk_turn (w.heap.size + 1 + 1) gb 1 cy _ _ HCb3.out (cell_belowB HW3.out (by omega) HG.out.chunk)).mono ?_
  rintro e w4 ⟨rfl, hb4⟩
  have HCb : Hid (Curs w4 (w.heap.size + 1 + 1) 1 (some ⟨gb, 0, none⟩)) := HCb3.out.later hb4
  have HCa : Hid (Curs w4 (w.heap.size + 1) 1 (some ⟨ga, 0, none⟩)) := HCa3.out.later hb4
  have HW : Hid (Below w.heap.size w w4) := HW3.out.trans (hb4.mono HW3.out.size)
  have HS : Hid (St w w4 B bm g cap bk bb []) := ⟨HM.out.turn0 HW.out, HW.out.mono hBw, cell_later HW.out HK.out, cell_later HW.out HBf.out⟩
  clear HCb3 HCa3 HW3 hb4 HM HK HBf HW
  rw [HN.out]
  go_wp2_with fail
  go_loopw [14, 15] (fun x y wr => ∃ L, St w wr B bm g cap bk bb L ∧ Stand es n r d (w.heap.size + 1) (w.heap.size + 1 + 1) ga gb c c2 cy L x y wr) (fun x y _ => len2 x + len2 y)
  case atStart =>
    have h1 := HA.out.room
    have h2 := HN.out
    exact ⟨[], HS.out, .inl ⟨0, n, cx, by omega, hpos, by omega, by simp, rfl, rfl, HCa.out, HCb.out, fun t ht => by omega⟩⟩
  case round =>
    obtain ⟨L, hS, hX⟩ := hrel
    have HS1 : Hid (St w wr B bm g cap bk bb L) := hS
    clear hS HS HCa HCb
    rcases hX with ⟨k, m, ccap, hkm2, hm, hmc2, rfl, rfl, rfl, hCa, hCb, hlt⟩ | ⟨i, m, ccap, him, hm, rfl, rfl, hL, hLl, hCa⟩ | ⟨rfl, rfl, rfl⟩ | ⟨rfl, rfl, hL, hLl, hCb⟩
    · have hkn : k < es.length := by rw [HN.out]; omega
      have HCa : Hid (Curs wr (w.heap.size + 1) 1 (some ⟨ga, 0, none⟩)) := hCa
      have HCb : Hid (Curs wr (w.heap.size + 1 + 1) 1 (some ⟨gb, 0, none⟩)) := hCb
      have Hlt : Hid (∀ t, t < k → (es.getD t (0, 0)).1 < r) := hlt
      have e0 := cell_belowB HS1.out.bel h3B (HA.out.ents k hkn).1
      have e1 := cell_belowB HS1.out.bel h3B (HA.out.ents k hkn).2
      have f0 : wr.cell? ⟨c2, 0, none⟩ = some (.string (keyB r)) := cell_belowB HS1.out.bel h4B (HG.out.ents 0 (by simp)).1
      have f1 : wr.cell? ⟨c2, 1, none⟩ = some (.int .u64 d) := cell_belowB HS1.out.bel h4B (HG.out.ents 0 (by simp)).2
      have HRa : Hid (w.cell? ⟨ga, 2, none⟩ = some (.pointer none)) := HA.out.right
      have HRb : Hid (w.cell? ⟨gb, 2, none⟩ = some (.pointer none)) := HG.out.right
      have Hsn : Hid (es.take k ++ [es.getD k (0, 0)] = es.take (k + 1)) := take_snoc hkn
      have hkk4 := Ha.out.2 k hkn
      have Hlk : Hid ((es.take k).length = k) := by rw [Hid, List.length_take]; omega
      have Hi1 : Hid (r < (es.getD k (0, 0)).1 → ins es r d = es.take k ++ (r, d) :: es.drop k) := fun h => ins_gt Ha.out Hlt.out hkn h
      have Hi2 : Hid ((es.getD k (0, 0)).1 = r → ins es r d = es.take k ++ (r, d) :: es.drop (k + 1)) := fun h => ins_eq Ha.out Hlt.out hkn h
      have Hdk : Hid ((es.getD k (0, 0)).1 = r → (es.getD k (0, 0)).2 < d) := Hd.out k (by omega)
      have Hlt2 : Hid ((es.getD k (0, 0)).1 < r → ∀ t, t < k + 1 → (es.getD t (0, 0)).1 < r) := by
        intro h t ht
        rcases Nat.lt_or_ge t k with h1 | h1
        · exact Hlt.out t h1
        · obtain rfl : t = k := by omega
          exact h
      generalize es.getD k (0, 0) = ee at e0 e1 Hsn hkk4 Hi1 Hi2 Hdk Hlt2
      obtain ⟨kk, y⟩ := ee
      simp only at e0 e1 hkk4
      clear hCa hCb hlt hkn
      have hc : c < wr.heap.size := World.block_lt_of_cell? _ _ e0
      have hc2 : c2 < wr.heap.size := World.block_lt_of_cell? _ _ f0
      have Hcy : Hid (cy = 1 ∨ ∃ c', cy = c' + 2) := by
        have h1 : 1 ≤ cy := HG.out.room
        rcases Nat.eq_or_lt_of_le h1 with h | h
        · exact .inl h.symm
        · exact .inr ⟨cy - 2, by omega⟩
      rcases Nat.lt_trichotomy kk r with hkr | hkr | hkr
      · have hsg := sgn_lt hkr
        by_cases hm1 : m = 1
        · subst hm1
          go_wp2_with fail
          go_region_held3 (fun w' => w'.cell? ⟨c, k * 2, none⟩ = some (.string (keyB kk)) ∧ w'.cell? ⟨c, k * 2 + 1, none⟩ = some (.int .u64 y) ∧ w'.cell? ⟨c2, 0, none⟩ = some (.string (keyB r)) ∧ w'.cell? ⟨c2, 1, none⟩ = some (.int .u64 d)) ((repeat' apply And.intro) <;> (first | (refine cell_later (w := wr) ?_ (by assumption); (repeat (first | exact Below.refl _ _ | refine Below.drew ?_ | refine below_dn ?_ | refine Below.alloc ?_ (by first | omega | (simp; done) | (simp; omega)) _)); done) | (simp [go_sem]; done)))
            (first | (go_at_call 90; refine (compareK kk r hkk4 hr y d _).mono ?_; rintro e w' ⟨rfl, rfl⟩))
          go_wp2_with fail
          refine (keep_any bm g cap kk y _ _ (HS1.out.m.turn0 (by (repeat (first | exact Below.refl _ _ | refine Below.drew ?_ | refine below_dn ?_ | refine Below.alloc ?_ (by first | omega | (simp; done) | (simp; omega)) _)))) (by rw [Hlk.out]; omega)).mono ?_
          rw [Hsn.out]
          rintro e w5 ⟨rfl, hM5, ht5⟩
          have HS5 : Hid (St w w5 B bm g cap bk bb (es.take (k + 1))) := (HS1.out.later (by (repeat (first | exact Below.refl _ _ | refine Below.drew ?_ | refine below_dn ?_ | refine Below.alloc ?_ (by first | omega | (simp; done) | (simp; omega)) _))) hBw).step hM5 ht5 hBw hBm hBg hkm hkg hbm' hbg
          have HCa5 : Hid (Curs w5 (w.heap.size + 1) 1 (some ⟨ga, 0, none⟩)) := (HCa.out.later (by (repeat (first | exact Below.refl _ _ | refine Below.drew ?_ | refine below_dn ?_ | refine Below.alloc ?_ (by first | omega | (simp; done) | (simp; omega)) _)))).turn ht5 (by omega) (by omega)
          have HCb5 : Hid (Curs w5 (w.heap.size + 1 + 1) 1 (some ⟨gb, 0, none⟩)) := (HCb.out.later (by (repeat (first | exact Below.refl _ _ | refine Below.drew ?_ | refine below_dn ?_ | refine Below.alloc ?_ (by first | omega | (simp; done) | (simp; omega)) _)))).turn ht5 (by omega) (by omega)
          clear hM5 ht5
          go_wp2_with fail
          all_goals (
            refine (next_turn (w.heap.size + 1) ga _ HCa5.out (cell_belowB HS5.out.bel h1B HRa.out) (by omega)).mono ?_
            rintro e w6 ⟨rfl, ht6⟩
            have HS6 : Hid (St w w6 B bm g cap bk bb _) := HS5.out.next ht6 hBw (by omega) (by omega) (by omega) (by omega) (by omega)
            have HCb6 : Hid (Curs w6 (w.heap.size + 1 + 1) 1 (some ⟨gb, 0, none⟩)) := HCb5.out.turn ht6 (by omega) (by omega)
            clear ht6
            go_wp2_with fail
            have hfull : es.take (k + 1) = es := List.take_of_length_le (by rw [HN.out]; omega)
            refine ⟨⟨es.take (k + 1), HS6.out, .inr (.inr (.inr ⟨rfl, rfl, ?_, ?_, HCb6.out⟩))⟩, ?_⟩
            · rw [hfull]
              refine (ins_end fun t ht => Hlt2.out hkr t ?_).symm
              rw [HN.out] at ht
              omega
            · rw [hfull, HN.out]; exact Nat.le_refl _
            · simp [len2])
        · obtain ⟨m, rfl⟩ : ∃ m', m = m' + 2 := ⟨m - 2, by omega⟩
          go_wp2_with fail
          go_region_held3 (fun w' => w'.cell? ⟨c, k * 2, none⟩ = some (.string (keyB kk)) ∧ w'.cell? ⟨c, k * 2 + 1, none⟩ = some (.int .u64 y) ∧ w'.cell? ⟨c2, 0, none⟩ = some (.string (keyB r)) ∧ w'.cell? ⟨c2, 1, none⟩ = some (.int .u64 d)) ((repeat' apply And.intro) <;> (first | (refine cell_later (w := wr) ?_ (by assumption); (repeat (first | exact Below.refl _ _ | refine Below.drew ?_ | refine below_dn ?_ | refine Below.alloc ?_ (by first | omega | (simp; done) | (simp; omega)) _)); done) | (simp [go_sem]; done)))
            (first | (go_at_call 90; refine (compareK kk r hkk4 hr y d _).mono ?_; rintro e w' ⟨rfl, rfl⟩))
          go_wp2_with fail
          refine (keep_any bm g cap kk y _ _ (HS1.out.m.turn0 (by (repeat (first | exact Below.refl _ _ | refine Below.drew ?_ | refine below_dn ?_ | refine Below.alloc ?_ (by first | omega | (simp; done) | (simp; omega)) _)))) (by rw [Hlk.out]; omega)).mono ?_
          rw [Hsn.out]
          rintro e w5 ⟨rfl, hM5, ht5⟩
          have HS5 : Hid (St w w5 B bm g cap bk bb (es.take (k + 1))) := (HS1.out.later (by (repeat (first | exact Below.refl _ _ | refine Below.drew ?_ | refine below_dn ?_ | refine Below.alloc ?_ (by first | omega | (simp; done) | (simp; omega)) _))) hBw).step hM5 ht5 hBw hBm hBg hkm hkg hbm' hbg
          have HCa5 : Hid (Curs w5 (w.heap.size + 1) 1 (some ⟨ga, 0, none⟩)) := (HCa.out.later (by (repeat (first | exact Below.refl _ _ | refine Below.drew ?_ | refine below_dn ?_ | refine Below.alloc ?_ (by first | omega | (simp; done) | (simp; omega)) _)))).turn ht5 (by omega) (by omega)
          have HCb5 : Hid (Curs w5 (w.heap.size + 1 + 1) 1 (some ⟨gb, 0, none⟩)) := (HCb.out.later (by (repeat (first | exact Below.refl _ _ | refine Below.drew ?_ | refine below_dn ?_ | refine Below.alloc ?_ (by first | omega | (simp; done) | (simp; omega)) _)))).turn ht5 (by omega) (by omega)
          clear hM5 ht5
          go_wp2_with fail
          refine ⟨⟨es.take (k + 1), HS5.out, .inl ⟨k + 1, m + 1, ccap - 1, by omega, by omega, by omega, by rw [Nat.add_mul], rfl, rfl, HCa5.out, HCb5.out, Hlt2.out hkr⟩⟩, ?_⟩
          simp [len2]
      · subst hkr
        have hsg := sgn_eq kk
        have Hyd : Hid (y < d) := Hdk.out rfl
        have Hi3 : Hid (ins es kk d = es.take k ++ (kk, d) :: es.drop (k + 1)) := Hi2.out rfl
        by_cases hm1 : m = 1
        · subst hm1
          rcases (show cy = 1 ∨ ∃ c', cy = c' + 2 from Hcy.out) with rfl | ⟨cy, rfl⟩
          all_goals (
            go_wp2_with fail
            go_region_held3 (fun w' => w'.cell? ⟨c, k * 2, none⟩ = some (.string (keyB kk)) ∧ w'.cell? ⟨c, k * 2 + 1, none⟩ = some (.int .u64 y) ∧ w'.cell? ⟨c2, 0, none⟩ = some (.string (keyB kk)) ∧ w'.cell? ⟨c2, 1, none⟩ = some (.int .u64 d)) ((repeat' apply And.intro) <;> (first | (refine cell_later (w := wr) ?_ (by assumption); (repeat (first | exact Below.refl _ _ | refine Below.drew ?_ | refine below_dn ?_ | refine Below.alloc ?_ (by first | omega | (simp; done) | (simp; omega)) _)); done) | (simp [go_sem]; done)))
              (first | (go_at_call 90; refine (compareK kk kk hkk4 hr y d _).mono ?_; rintro e w' ⟨rfl, rfl⟩))
            go_wp2_with fail
            go_region_held3 (fun w' => w'.cell? ⟨c, k * 2, none⟩ = some (.string (keyB kk)) ∧ w'.cell? ⟨c, k * 2 + 1, none⟩ = some (.int .u64 y) ∧ w'.cell? ⟨c2, 0, none⟩ = some (.string (keyB kk)) ∧ w'.cell? ⟨c2, 1, none⟩ = some (.int .u64 d)) ((repeat' apply And.intro) <;> (first | (refine cell_later (w := wr) ?_ (by assumption); (repeat (first | exact Below.refl _ _ | refine Below.drew ?_ | refine below_dn ?_ | refine Below.alloc ?_ (by first | omega | (simp; done) | (simp; omega)) _)); done) | (refine cell_later (w := w5) ?_ (by assumption); (repeat (first | exact Below.refl _ _ | refine Below.drew ?_ | refine below_dn ?_ | refine Below.alloc ?_ (by first | omega | (simp; done) | (simp; omega)) _)); done) | (simp [go_sem]; done)))
              (first | (go_at_call 54; refine (both_any bk bb bm g cap kk kk y d d _ _ (if_pos Hyd.out) (HS1.out.m.turn0 (by (repeat (first | exact Below.refl _ _ | refine Below.drew ?_ | refine below_dn ?_ | refine Below.alloc ?_ (by first | omega | (simp; done) | (simp; omega)) _)))) (by rw [Hlk.out]; omega) (cell_later (w := wr) (by (repeat (first | exact Below.refl _ _ | refine Below.drew ?_ | refine below_dn ?_ | refine Below.alloc ?_ (by first | omega | (simp; done) | (simp; omega)) _))) HS1.out.kf) (cell_later (w := wr) (by (repeat (first | exact Below.refl _ _ | refine Below.drew ?_ | refine below_dn ?_ | refine Below.alloc ?_ (by first | omega | (simp; done) | (simp; omega)) _))) HS1.out.bf) hkg hbg).mono ?_; rintro e w5 ⟨rfl, hM5, ht5⟩; have HS5 : Hid (St w w5 B bm g cap bk bb (es.take k ++ [(kk, d)])) := (HS1.out.later (by (repeat (first | exact Below.refl _ _ | refine Below.drew ?_ | refine below_dn ?_ | refine Below.alloc ?_ (by first | omega | (simp; done) | (simp; omega)) _))) hBw).step hM5 ht5 hBw hBm hBg hkm hkg hbm' hbg; have HCa5 : Hid (Curs w5 (w.heap.size + 1) 1 (some ⟨ga, 0, none⟩)) := (HCa.out.later (by (repeat (first | exact Below.refl _ _ | refine Below.drew ?_ | refine below_dn ?_ | refine Below.alloc ?_ (by first | omega | (simp; done) | (simp; omega)) _)))).turn ht5 (by omega) (by omega); have HCb5 : Hid (Curs w5 (w.heap.size + 1 + 1) 1 (some ⟨gb, 0, none⟩)) := (HCb.out.later (by (repeat (first | exact Below.refl _ _ | refine Below.drew ?_ | refine below_dn ?_ | refine Below.alloc ?_ (by first | omega | (simp; done) | (simp; omega)) _)))).turn ht5 (by omega) (by omega); have e05 : w5.cell? ⟨c, k * 2, none⟩ = some (.string (keyB kk)) := ht5.cell (cell_later (w := wr) (by (repeat (first | exact Below.refl _ _ | refine Below.drew ?_ | refine below_dn ?_ | refine Below.alloc ?_ (by first | omega | (simp; done) | (simp; omega)) _))) e0) (by omega) (by omega); have e15 : w5.cell? ⟨c, k * 2 + 1, none⟩ = some (.int .u64 y) := ht5.cell (cell_later (w := wr) (by (repeat (first | exact Below.refl _ _ | refine Below.drew ?_ | refine below_dn ?_ | refine Below.alloc ?_ (by first | omega | (simp; done) | (simp; omega)) _))) e1) (by omega) (by omega); have f05 : w5.cell? ⟨c2, 0, none⟩ = some (.string (keyB kk)) := ht5.cell (cell_later (w := wr) (by (repeat (first | exact Below.refl _ _ | refine Below.drew ?_ | refine below_dn ?_ | refine Below.alloc ?_ (by first | omega | (simp; done) | (simp; omega)) _))) f0) (by omega) (by omega); have f15 : w5.cell? ⟨c2, 1, none⟩ = some (.int .u64 d) := ht5.cell (cell_later (w := wr) (by (repeat (first | exact Below.refl _ _ | refine Below.drew ?_ | refine below_dn ?_ | refine Below.alloc ?_ (by first | omega | (simp; done) | (simp; omega)) _))) f1) (by omega) (by omega); clear hM5 ht5))
            go_wp2_with fail
            go_region
            go_wp2_with fail
            all_goals (
              have HS7 : Hid (St w w5.drew B bm g cap bk bb (es.take k ++ [(kk, d)])) := HS5.out.later ((Below.refl _ _).drew) hBw
              have HCa7 : Hid (Curs w5.drew (w.heap.size + 1) 1 (some ⟨ga, 0, none⟩)) := HCa5.out.later ((Below.refl _ _).drew)
              have HCb7 : Hid (Curs w5.drew (w.heap.size + 1 + 1) 1 (some ⟨gb, 0, none⟩)) := HCb5.out.later ((Below.refl _ _).drew)
              refine (next_turn (w.heap.size + 1) ga _ HCa7.out (cell_belowB HS7.out.bel h1B HRa.out) (by omega)).mono ?_
              rintro e w8 ⟨rfl, ht8⟩
              have HS8 : Hid (St w w8 B bm g cap bk bb _) := HS7.out.next ht8 hBw (by omega) (by omega) (by omega) (by omega) (by omega)
              have HCb8 : Hid (Curs w8 (w.heap.size + 1 + 1) 1 (some ⟨gb, 0, none⟩)) := HCb7.out.turn ht8 (by omega) (by omega)
              clear ht8
              go_wp2_with fail
              refine (next_turn (w.heap.size + 1 + 1) gb _ HCb8.out (cell_belowB HS8.out.bel h2B HRb.out) (by omega)).mono ?_
              rintro e w9 ⟨rfl, ht9⟩
              have HS9 : Hid (St w w9 B bm g cap bk bb _) := HS8.out.next ht9 hBw (by omega) (by omega) (by omega) (by omega) (by omega)
              clear ht9
              go_wp2_with fail
              refine ⟨⟨es.take k ++ [(kk, d)], HS9.out, .inr (.inr (.inl ⟨rfl, rfl, ?_⟩))⟩, ?_⟩
              · rw [Hi3.out, List.drop_of_length_le (by rw [HN.out]; omega)]
              · simp [len2]))
        · obtain ⟨m, rfl⟩ : ∃ m', m = m' + 2 := ⟨m - 2, by omega⟩
          rcases (show cy = 1 ∨ ∃ c', cy = c' + 2 from Hcy.out) with rfl | ⟨cy, rfl⟩
          all_goals (
            go_wp2_with fail
            go_region_held3 (fun w' => w'.cell? ⟨c, k * 2, none⟩ = some (.string (keyB kk)) ∧ w'.cell? ⟨c, k * 2 + 1, none⟩ = some (.int .u64 y) ∧ w'.cell? ⟨c2, 0, none⟩ = some (.string (keyB kk)) ∧ w'.cell? ⟨c2, 1, none⟩ = some (.int .u64 d)) ((repeat' apply And.intro) <;> (first | (refine cell_later (w := wr) ?_ (by assumption); (repeat (first | exact Below.refl _ _ | refine Below.drew ?_ | refine below_dn ?_ | refine Below.alloc ?_ (by first | omega | (simp; done) | (simp; omega)) _)); done) | (simp [go_sem]; done)))
              (first | (go_at_call 90; refine (compareK kk kk hkk4 hr y d _).mono ?_; rintro e w' ⟨rfl, rfl⟩))
            go_wp2_with fail
            go_region_held3 (fun w' => w'.cell? ⟨c, k * 2, none⟩ = some (.string (keyB kk)) ∧ w'.cell? ⟨c, k * 2 + 1, none⟩ = some (.int .u64 y) ∧ w'.cell? ⟨c2, 0, none⟩ = some (.string (keyB kk)) ∧ w'.cell? ⟨c2, 1, none⟩ = some (.int .u64 d)) ((repeat' apply And.intro) <;> (first | (refine cell_later (w := wr) ?_ (by assumption); (repeat (first | exact Below.refl _ _ | refine Below.drew ?_ | refine below_dn ?_ | refine Below.alloc ?_ (by first | omega | (simp; done) | (simp; omega)) _)); done) | (refine cell_later (w := w5) ?_ (by assumption); (repeat (first | exact Below.refl _ _ | refine Below.drew ?_ | refine below_dn ?_ | refine Below.alloc ?_ (by first | omega | (simp; done) | (simp; omega)) _)); done) | (simp [go_sem]; done)))
              (first | (go_at_call 54; refine (both_any bk bb bm g cap kk kk y d d _ _ (if_pos Hyd.out) (HS1.out.m.turn0 (by (repeat (first | exact Below.refl _ _ | refine Below.drew ?_ | refine below_dn ?_ | refine Below.alloc ?_ (by first | omega | (simp; done) | (simp; omega)) _)))) (by rw [Hlk.out]; omega) (cell_later (w := wr) (by (repeat (first | exact Below.refl _ _ | refine Below.drew ?_ | refine below_dn ?_ | refine Below.alloc ?_ (by first | omega | (simp; done) | (simp; omega)) _))) HS1.out.kf) (cell_later (w := wr) (by (repeat (first | exact Below.refl _ _ | refine Below.drew ?_ | refine below_dn ?_ | refine Below.alloc ?_ (by first | omega | (simp; done) | (simp; omega)) _))) HS1.out.bf) hkg hbg).mono ?_; rintro e w5 ⟨rfl, hM5, ht5⟩; have HS5 : Hid (St w w5 B bm g cap bk bb (es.take k ++ [(kk, d)])) := (HS1.out.later (by (repeat (first | exact Below.refl _ _ | refine Below.drew ?_ | refine below_dn ?_ | refine Below.alloc ?_ (by first | omega | (simp; done) | (simp; omega)) _))) hBw).step hM5 ht5 hBw hBm hBg hkm hkg hbm' hbg; have HCa5 : Hid (Curs w5 (w.heap.size + 1) 1 (some ⟨ga, 0, none⟩)) := (HCa.out.later (by (repeat (first | exact Below.refl _ _ | refine Below.drew ?_ | refine below_dn ?_ | refine Below.alloc ?_ (by first | omega | (simp; done) | (simp; omega)) _)))).turn ht5 (by omega) (by omega); have HCb5 : Hid (Curs w5 (w.heap.size + 1 + 1) 1 (some ⟨gb, 0, none⟩)) := (HCb.out.later (by (repeat (first | exact Below.refl _ _ | refine Below.drew ?_ | refine below_dn ?_ | refine Below.alloc ?_ (by first | omega | (simp; done) | (simp; omega)) _)))).turn ht5 (by omega) (by omega); have e05 : w5.cell? ⟨c, k * 2, none⟩ = some (.string (keyB kk)) := ht5.cell (cell_later (w := wr) (by (repeat (first | exact Below.refl _ _ | refine Below.drew ?_ | refine below_dn ?_ | refine Below.alloc ?_ (by first | omega | (simp; done) | (simp; omega)) _))) e0) (by omega) (by omega); have e15 : w5.cell? ⟨c, k * 2 + 1, none⟩ = some (.int .u64 y) := ht5.cell (cell_later (w := wr) (by (repeat (first | exact Below.refl _ _ | refine Below.drew ?_ | refine below_dn ?_ | refine Below.alloc ?_ (by first | omega | (simp; done) | (simp; omega)) _))) e1) (by omega) (by omega); have f05 : w5.cell? ⟨c2, 0, none⟩ = some (.string (keyB kk)) := ht5.cell (cell_later (w := wr) (by (repeat (first | exact Below.refl _ _ | refine Below.drew ?_ | refine below_dn ?_ | refine Below.alloc ?_ (by first | omega | (simp; done) | (simp; omega)) _))) f0) (by omega) (by omega); have f15 : w5.cell? ⟨c2, 1, none⟩ = some (.int .u64 d) := ht5.cell (cell_later (w := wr) (by (repeat (first | exact Below.refl _ _ | refine Below.drew ?_ | refine below_dn ?_ | refine Below.alloc ?_ (by first | omega | (simp; done) | (simp; omega)) _))) f1) (by omega) (by omega); clear hM5 ht5))
            go_wp2_with fail
            go_region
            go_wp2_with fail
            all_goals (
              have HS7 : Hid (St w w5.drew B bm g cap bk bb (es.take k ++ [(kk, d)])) := HS5.out.later ((Below.refl _ _).drew) hBw
              have HCa7 : Hid (Curs w5.drew (w.heap.size + 1) 1 (some ⟨ga, 0, none⟩)) := HCa5.out.later ((Below.refl _ _).drew)
              have HCb7 : Hid (Curs w5.drew (w.heap.size + 1 + 1) 1 (some ⟨gb, 0, none⟩)) := HCb5.out.later ((Below.refl _ _).drew)
              refine (next_turn (w.heap.size + 1 + 1) gb _ HCb7.out (cell_belowB HS7.out.bel h2B HRb.out) (by omega)).mono ?_
              rintro e w8 ⟨rfl, ht8⟩
              have HS8 : Hid (St w w8 B bm g cap bk bb _) := HS7.out.next ht8 hBw (by omega) (by omega) (by omega) (by omega) (by omega)
              have HCa8 : Hid (Curs w8 (w.heap.size + 1) 1 (some ⟨ga, 0, none⟩)) := HCa7.out.turn ht8 (by omega) (by omega)
              clear ht8
              go_wp2_with fail
              refine ⟨⟨es.take k ++ [(kk, d)], HS8.out, .inr (.inl ⟨k + 1, m + 1, ccap - 1, by omega, by omega, by rw [Nat.add_mul], rfl, ?_, ?_, HCa8.out⟩)⟩, ?_⟩
              · rw [Hi3.out, List.append_assoc]; rfl
              · rw [List.length_append, Hlk.out]; exact Nat.le_succ _
              · simp [len2]))
      · have hsg := sgn_gt hkr
        rcases (show cy = 1 ∨ ∃ c', cy = c' + 2 from Hcy.out) with rfl | ⟨cy, rfl⟩
        all_goals (
          go_wp2_with fail
          go_region_held3 (fun w' => w'.cell? ⟨c, k * 2, none⟩ = some (.string (keyB kk)) ∧ w'.cell? ⟨c, k * 2 + 1, none⟩ = some (.int .u64 y) ∧ w'.cell? ⟨c2, 0, none⟩ = some (.string (keyB r)) ∧ w'.cell? ⟨c2, 1, none⟩ = some (.int .u64 d)) ((repeat' apply And.intro) <;> (first | (refine cell_later (w := wr) ?_ (by assumption); (repeat (first | exact Below.refl _ _ | refine Below.drew ?_ | refine below_dn ?_ | refine Below.alloc ?_ (by first | omega | (simp; done) | (simp; omega)) _)); done) | (simp [go_sem]; done)))
            (first | (go_at_call 90; refine (compareK kk r hkk4 hr y d _).mono ?_; rintro e w' ⟨rfl, rfl⟩))
          go_wp2_with fail
          refine (keep_any bm g cap r d _ _ (HS1.out.m.turn0 (by (repeat (first | exact Below.refl _ _ | refine Below.drew ?_ | refine below_dn ?_ | refine Below.alloc ?_ (by first | omega | (simp; done) | (simp; omega)) _)))) (by rw [Hlk.out]; omega)).mono ?_
          rintro e w5 ⟨rfl, hM5, ht5⟩
          have HS5 : Hid (St w w5 B bm g cap bk bb (es.take k ++ [(r, d)])) := (HS1.out.later (by (repeat (first | exact Below.refl _ _ | refine Below.drew ?_ | refine below_dn ?_ | refine Below.alloc ?_ (by first | omega | (simp; done) | (simp; omega)) _))) hBw).step hM5 ht5 hBw hBm hBg hkm hkg hbm' hbg
          have HCa5 : Hid (Curs w5 (w.heap.size + 1) 1 (some ⟨ga, 0, none⟩)) := (HCa.out.later (by (repeat (first | exact Below.refl _ _ | refine Below.drew ?_ | refine below_dn ?_ | refine Below.alloc ?_ (by first | omega | (simp; done) | (simp; omega)) _)))).turn ht5 (by omega) (by omega)
          have HCb5 : Hid (Curs w5 (w.heap.size + 1 + 1) 1 (some ⟨gb, 0, none⟩)) := (HCb.out.later (by (repeat (first | exact Below.refl _ _ | refine Below.drew ?_ | refine below_dn ?_ | refine Below.alloc ?_ (by first | omega | (simp; done) | (simp; omega)) _)))).turn ht5 (by omega) (by omega)
          clear hM5 ht5
          go_wp2_with fail
          all_goals (
            refine (next_turn (w.heap.size + 1 + 1) gb _ HCb5.out (cell_belowB HS5.out.bel h2B HRb.out) (by omega)).mono ?_
            rintro e w6 ⟨rfl, ht6⟩
            have HS6 : Hid (St w w6 B bm g cap bk bb _) := HS5.out.next ht6 hBw (by omega) (by omega) (by omega) (by omega) (by omega)
            have HCa6 : Hid (Curs w6 (w.heap.size + 1) 1 (some ⟨ga, 0, none⟩)) := HCa5.out.turn ht6 (by omega) (by omega)
            clear ht6
            go_wp2_with fail
            refine ⟨⟨es.take k ++ [(r, d)], HS6.out, .inr (.inl ⟨k, m, ccap, hkm2, hm, rfl, rfl, ?_, ?_, HCa6.out⟩)⟩, ?_⟩
            · rw [Hi1.out hkr, List.append_assoc]; rfl
            · rw [List.length_append, Hlk.out]; exact Nat.le_refl _
            · simp [len2]))
    · have hp1 : decide (0 < m) = true := decide_eq_true hm
      have HE : Hid (Ents wr c es) := fun j hj => ⟨cell_belowB HS1.out.bel h3B (HA.out.ents j hj).1, cell_belowB HS1.out.bel h3B (HA.out.ents j hj).2⟩
      have HR : Hid (wr.cell? ⟨ga, 2, none⟩ = some (.pointer none)) := cell_belowB HS1.out.bel h1B HA.out.right
      have HCa : Hid (Curs wr (w.heap.size + 1) 1 (some ⟨ga, 0, none⟩)) := hCa
      have HL : Hid (L ++ es.drop i = ins es r d) := hL
      clear hCa hL
      go_wp2_with fail
      refine (drain_m (w.heap.size + 1) bm g cap c n i m ccap ga es L wr HS1.out.m (by omega) HE.out HN.out him hm hn31 HCa.out HR.out (by omega) (by omega) (by omega) (by omega) (by omega) (by omega) (by omega) (by omega) (by omega) (by omega)).mono ?_
      rintro e w5 ⟨rfl, hM5, hb5⟩
      have HM5 : Hid (Mrg _ _ _ _ _) := hM5
      have HB5 : Hid (Below B wr w5) := hb5 B hBm hBg (by omega) (Nat.le_trans hBw HS1.out.bel.size)
      clear hM5 hb5
      go_wp2_with fail
      refine (drain_none _ _ _ _ _).mono ?_
      rintro e w6 ⟨rfl, rfl⟩
      go_wp2_with fail
      go_ret
      refine ⟨rfl, ?_, ?_⟩
      · rw [← HL.out]; exact HM5.out
      · exact HS1.out.bel.trans HB5.out
    · go_wp2_with (first | (go_at_call 60; refine (drain_none _ _ _ _ _).mono ?_; rintro e w6 ⟨rfl, rfl⟩))
      go_ret
      exact ⟨rfl, HS1.out.m, HS1.out.bel⟩
    · have HE : Hid (Ents wr c2 [(r, d)]) := fun j hj => ⟨cell_belowB HS1.out.bel h4B (HG.out.ents j hj).1, cell_belowB HS1.out.bel h4B (HG.out.ents j hj).2⟩
      have HR : Hid (wr.cell? ⟨gb, 2, none⟩ = some (.pointer none)) := cell_belowB HS1.out.bel h2B HG.out.right
      have HCb : Hid (Curs wr (w.heap.size + 1 + 1) 1 (some ⟨gb, 0, none⟩)) := hCb
      have HL : Hid (L ++ [(r, d)] = ins es r d) := hL
      clear hCb hL
      go_wp2_with fail
      refine (drain_none _ _ _ _ _).mono ?_
      rintro e w6 ⟨rfl, rfl⟩
      go_wp2_with fail
      refine (drain_m (w.heap.size + 1 + 1) bm g cap c2 1 0 1 cy gb [(r, d)] L wr HS1.out.m (by omega) HE.out rfl rfl (by omega) (by omega) HCb.out HR.out (by omega) (by omega) (by omega) (by omega) (by omega) (by omega) (by omega) (by omega) (by omega) (by omega)).mono ?_
      rintro e w5 ⟨rfl, hM5, hb5⟩
      have HM5 : Hid (Mrg _ _ _ _ _) := hM5
      have HB5 : Hid (Below B wr w5) := hb5 B hBm hBg (by omega) (Nat.le_trans hBw HS1.out.bel.size)
      clear hM5 hb5
      go_wp2_with fail
      go_ret
      refine ⟨rfl, ?_, ?_⟩
      · rw [← HL.out]; exact HM5.out
      · exact HS1.out.bel.trans HB5.out
end Go.Proofs.Ybulkajsu.C
