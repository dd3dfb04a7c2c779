import Derived.Test.YbulkajsuJoin
namespace Go.Proofs.Ybulkajsu.C
open Go.RowKit

/-- The value under index i of the joined map. -/
def fw (f : Nat → Int) (q : Nat) (d : Int) (i : Nat) : Int := if i = q ∧ f i < d then d else f i
/-- How many of the first j are not zero. -/
def cnt (f : Nat → Int) : Nat → Nat
  | 0 => 0
  | j + 1 => cnt f j + (if f j = 0 then 0 else 1)

theorem cnt_le (f : Nat → Int) : ∀ j, cnt f j ≤ j
  | 0 => Nat.le_refl _
  | j + 1 => by
    have := cnt_le f j
    unfold cnt
    split <;> omega

theorem joined_mk (c0 c1 c2 c3 d : Int) (q : Nat) (hq : q < 4) (hF : Four c0 c1 c2 c3) :
    joined (mk c3 c0 c2 c1) (rk q) d (selq c0 c1 c2 c3 q) = mk (fw (selq c0 c1 c2 c3) q d 3) (fw (selq c0 c1 c2 c3) q d 0) (fw (selq c0 c1 c2 c3) q d 2) (fw (selq c0 c1 c2 c3) q d 1) := by
  unfold Four at hF
  unfold joined
  rcases (show q = 0 ∨ q = 1 ∨ q = 2 ∨ q = 3 by omega) with rfl | rfl | rfl | rfl
  · by_cases h : d ≤ c0
    · have h' : ¬ c0 < d := by omega
      simp [selq, fw, h, h']
    · have h' : c0 < d := by omega
      simp only [selq, if_neg h, rk]
      rw [(ins_mk c3 c0 c2 c1 d (by omega)).2.1]
      simp [fw, selq, h']
  · by_cases h : d ≤ c1
    · have h' : ¬ c1 < d := by omega
      simp [selq, fw, h, h']
    · have h' : c1 < d := by omega
      simp only [selq, if_neg h, rk]
      rw [(ins_mk c3 c0 c2 c1 d (by omega)).2.2.2]
      simp [fw, selq, h']
  · by_cases h : d ≤ c2
    · have h' : ¬ c2 < d := by omega
      simp [selq, fw, h, h']
    · have h' : c2 < d := by omega
      simp only [selq, if_neg h, rk]
      rw [(ins_mk c3 c0 c2 c1 d (by omega)).2.2.1]
      simp [fw, selq, h']
  · by_cases h : d ≤ c3
    · have h' : ¬ c3 < d := by omega
      simp [selq, fw, h, h']
    · have h' : c3 < d := by omega
      simp only [selq, if_neg h, rk]
      rw [(ins_mk c3 c0 c2 c1 d (by omega)).1]
      simp [fw, selq, h']
theorem mk_cnt (g : Nat → Int) : (mk (g 3) (g 0) (g 2) (g 1)).length = cnt g 4 := by
  unfold mk cnt cnt cnt cnt cnt
  by_cases h0 : g 0 = 0 <;> by_cases h1 : g 1 = 0 <;> by_cases h2 : g 2 = 0 <;> by_cases h3 : g 3 = 0 <;> simp [h0, h1, h2, h3]
theorem val_mk_at (g : Nat → Int) (q : Nat) (hq : q < 4) : val (mk (g 3) (g 0) (g 2) (g 1)) (rk q) = g q := by
  rw [selq_val (g 0) (g 1) (g 2) (g 3) q hq]
  rcases (show q = 0 ∨ q = 1 ∨ q = 2 ∨ q = 3 by omega) with rfl | rfl | rfl | rfl <;> rfl

set_option maxRecDepth 100000 in
set_option maxHeartbeats 1000000 in
theorem join_long0 (a0 a1 : Option Addr) (len0 cap0 len1 cap1 : Nat) (k d : Int) (w : World) (hl : 1024 < len0) :
    Calls Yba.prog 6 #[.slice a0 len0 cap0, .slice a1 len1 cap1, .int .u8 k, .int .u8 d] w fun e w' => e = .returned (.bool true) ∧ Below w.heap.size w w' := by
  have hI : (1024 : Int) < (len0 : Int) := by omega
  have hd : decide ((1024 : Int) < (len0 : Int)) = true := decide_eq_true hI
  go_enter Yba.func6, Yba.ntmps6
  go_wp2
  go_ret
  exact ⟨rfl, Below.refl _ _⟩
set_option maxRecDepth 100000 in
set_option maxHeartbeats 1000000 in
theorem join_long1 (a0 a1 : Option Addr) (len0 cap0 len1 cap1 : Nat) (k d : Int) (w : World) (hl0 : len0 ≤ 1024) (hl : 1024 < len1) :
    Calls Yba.prog 6 #[.slice a0 len0 cap0, .slice a1 len1 cap1, .int .u8 k, .int .u8 d] w fun e w' => e = .returned (.bool true) ∧ Below w.heap.size w w' := by
  have hI : (1024 : Int) < (len1 : Int) := by omega
  have hI0 : (len0 : Int) ≤ 1024 := by omega
  have hd : decide ((1024 : Int) < (len1 : Int)) = true := decide_eq_true hI
  go_enter Yba.func6, Yba.ntmps6
  go_wp2
  go_ret
  exact ⟨rfl, Below.refl _ _⟩

set_option maxRecDepth 100000 in
set_option maxHeartbeats 4000000 in
theorem join_short (a0 a1 : Option Addr) (len0 cap0 len1 cap1 : Nat) (f0 f1 : Nat → Int) (k d : Int) (w : World) (h0 : Bytes w a0 len0 f0) (h1 : Bytes w a1 len1 f1) (l0 : len0 ≤ 1024) (l1 : len1 ≤ 1024) (hk0 : 0 ≤ k) (hk1 : k ≤ 255) (hd0 : 0 ≤ d) (hd1 : d ≤ 255) :
    Calls Yba.prog 6 #[.slice a0 len0 cap0, .slice a1 len1 cap1, .int .u8 k, .int .u8 d] w fun e w' => e = .returned (.bool true) ∧ Below w.heap.size w w' := by
  have hb := build_any a0 a1 len0 cap0 len1 cap1 f0 f1 w h0 h1 l0 l1
  unfold BuildSays at hb
  have q0 : decide ((1024 : Int) < (len0 : Int)) = false := decide_eq_false (by omega)
  have q1 : decide ((1024 : Int) < (len1 : Int)) = false := decide_eq_false (by omega)
  obtain ⟨q, hq⟩ : ∃ q : Nat, k % 4 = q := ⟨(k % 4).toNat, by omega⟩
  have hq4 : q < 4 := by omega
  have hwd : IntKind.u64.wrap d = d := wrapU d hd0 hd1
  clear h0 h1
  go_enter Yba.func6, Yba.ntmps6
  go_wp2_with (first | (go_at_call 9; refine hb.mono ?_; clear hb; rintro e w1 ⟨root, c0, c1, c2, c3, rfl, hF, hT, hb1⟩; have HT : Hid (Tree w1 root (mk c3 c0 c2 c1)) := hT; have HF : Hid (Four c0 c1 c2 c3) := hF; have Hb1 : Hid (Below w.heap.size w w1) := hb1; clear hT hF hb1))
  have hx := selq_nn HF.out q
  rw [hq]
  go_cut [12] (fun s12 wx => ∃ br root2, s12 = .pointer (some ⟨br, 0, none⟩) ∧ wx.cell? ⟨br, 0, none⟩ = some (.pointer root2) ∧ wx.cell? ⟨br, 1, none⟩ = some (.int .u64 0) ∧ Tree wx root2 (merged (rk q) d (selq c0 c1 c2 c3 q)) ∧ Below (w1.heap.size + 1 + 1) ((w1.alloc (.cells #[.pointer root, .int .u64 0] 39)).alloc (.cells #[.int .u64 c0, .int .u64 c1, .int .u64 c2, .int .u64 c3] 40)) wx)
  case first =>
    go_region_held3 (fun w' => w'.cell? ⟨w1.heap.size, 0, none⟩ = some (.pointer root) ∧ w'.cell? ⟨w1.heap.size, 1, none⟩ = some (.int .u64 0)) ((repeat' apply And.intro) <;> (first | (simp [go_sem]; done) | (simp [go_sem, *]; done)))
      (first | (go_at_call 10; refine (ckey q hq4 _).mono ?_; rintro e w9 ⟨rfl, hw9⟩; rw [hw9]; clear hw9 w9) | (go_at_call 11; refine (merge_any (rk q) (rk_lt q) _ (mk_asc c3 c0 c2 c1) (Nat.le_trans (mk_len _ _ _ _) (by omega)) root 0 d _ hd0 hx.1 (selq_val c0 c1 c2 c3 q hq4) _ (HT.out.later ?_)).mono ?_; (focus (repeat (first | exact Below.refl _ _ | refine Below.drew ?_ | refine below_dn ?_ | refine Below.alloc ?_ (by first | omega | (simp; done) | (simp; omega)) _))); rintro e w2 ⟨root2, rfl, hT2, hb2⟩; (first | (have a0 : w2.cell? ⟨w1.heap.size, 0, none⟩ = some (.pointer root) := by (refine (hb2.cell (p := ⟨w1.heap.size, 0, none⟩) ?_).trans ?_ <;> (first | (simp [go_sem]; done) | (simp; omega)))) | skip); (first | (have a1 : w2.cell? ⟨w1.heap.size, 1, none⟩ = some (.int .u64 0) := by (refine (hb2.cell (p := ⟨w1.heap.size, 1, none⟩) ?_).trans ?_ <;> (first | (simp [go_sem]; done) | (simp; omega)))) | skip); (first | (have z0 : w2.cell? ⟨w1.heap.size + 1 + 1, 0, none⟩ = some (.pointer none) := by (refine (hb2.cell (p := ⟨w1.heap.size + 1 + 1, 0, none⟩) ?_).trans ?_ <;> (first | (simp [go_sem]; done) | (simp; omega)))) | skip); (first | (have z1 : w2.cell? ⟨w1.heap.size + 1 + 1, 1, none⟩ = some (.int .u64 0) := by (refine (hb2.cell (p := ⟨w1.heap.size + 1 + 1, 1, none⟩) ?_).trans ?_ <;> (first | (simp [go_sem]; done) | (simp; omega)))) | skip); (first | (have y0 : w2.frozen? ⟨w1.heap.size + 1 + 1, 0, none⟩ = false := by (refine (hb2.frozen (p := ⟨w1.heap.size + 1 + 1, 0, none⟩) ?_).trans ?_ <;> (first | (simp [go_sem]; done) | (simp; omega)))) | skip); (first | (have y1 : w2.frozen? ⟨w1.heap.size + 1 + 1, 1, none⟩ = false := by (refine (hb2.frozen (p := ⟨w1.heap.size + 1 + 1, 1, none⟩) ?_).trans ?_ <;> (first | (simp [go_sem]; done) | (simp; omega)))) | skip); (first | (have a2 : w2.cell? ⟨w1.heap.size + 1, 0, none⟩ = some (.int .u64 c0) := by (refine (hb2.cell (p := ⟨w1.heap.size + 1, 0, none⟩) ?_).trans ?_ <;> (first | (simp [go_sem]; done) | (simp; omega)))) | skip); have hs0 : w1.heap.size < w2.heap.size := World.block_lt_of_cell? _ _ a0; have hs1 : w1.heap.size + 1 < w2.heap.size := World.block_lt_of_cell? _ _ a2; (first | (have hs3 : w1.heap.size + 1 + 1 < w2.heap.size := World.block_lt_of_cell? _ _ z0) | skip); have HT2 : Hid (Tree w2 root2 (merged (rk q) d (selq c0 c1 c2 c3 q))) := hT2; have Hb2 : Hid (_) := hb2; clear hT2 hb2))
    all_goals (go_wp2_with fail; go_meet)
    all_goals first
      | (refine ⟨_, root2, rfl, ?_, ?_, ?_, ?_⟩
         · simp [go_sem]
         · simp [go_sem]
         · exact HT2.out.later ((Below.refl _ _).alloc (Nat.le_refl _) _)
         · refine Below.alloc (Below.trans ?_ (Hb2.out.mono (by first | (simp; done) | (simp; omega)))) (by omega) _
           repeat (first | exact Below.refl _ _ | refine Below.drew ?_ | refine below_dn ?_ | refine Below.alloc ?_ (by first | omega | (simp; done) | (simp; omega)) _))
      | (refine ⟨_, root2, rfl, ?_, ?_, ?_, ?_⟩
         · simp [go_sem, z0]
         · simp [go_sem, z1]
         · exact (HT2.out.setPtrO z0).setPtrO (World.cell?_setCell_same _ _ _ z0)
         · refine Below.setCell (Below.setCell (Below.trans ?_ (Hb2.out.mono (by first | (simp; done) | (simp; omega)))) (by show w1.heap.size + 1 + 1 ≤ w1.heap.size + 1 + 1; omega) _) (by show w1.heap.size + 1 + 1 ≤ w1.heap.size + 1 + 1; omega) _
           repeat (first | exact Below.refl _ _ | refine Below.drew ?_ | refine below_dn ?_ | refine Below.alloc ?_ (by first | omega | (simp; done) | (simp; omega)) _))
  case rest =>
    obtain ⟨br, root2, rfl, r0, r1, hTr, hBr⟩ := hcut
    have x0 : wc.cell? ⟨w1.heap.size, 0, none⟩ = some (.pointer root) := (hBr.cell (p := ⟨w1.heap.size, 0, none⟩) (by show w1.heap.size < w1.heap.size + 1 + 1; omega)).trans (by simp [go_sem])
    have x1 : wc.cell? ⟨w1.heap.size, 1, none⟩ = some (.int .u64 0) := (hBr.cell (p := ⟨w1.heap.size, 1, none⟩) (by show w1.heap.size < w1.heap.size + 1 + 1; omega)).trans (by simp [go_sem])
    have HV : Hid (∀ j, j < 4 → wc.cell? ⟨w1.heap.size + 1, j, none⟩ = some (.int .u64 (selq c0 c1 c2 c3 j))) := fun j hj => (hBr.cell (p := ⟨w1.heap.size + 1, j, none⟩) (by show w1.heap.size + 1 < w1.heap.size + 1 + 1; omega)).trans ((World.cell?_alloc_at _ _ _ _ (by simp)).trans (selq_at c0 c1 c2 c3 j hj))
    have HTr : Hid (Tree wc root2 (merged (rk q) d (selq c0 c1 c2 c3 q))) := hTr
    have hB1c : Below w1.heap.size w1 wc := by
      refine Below.trans ?_ (hBr.mono (by omega))
      repeat (first | exact Below.refl _ _ | refine Below.drew ?_ | refine below_dn ?_ | refine Below.alloc ?_ (by first | omega | (simp; done) | (simp; omega)) _)
    have HTc : Hid (Tree wc root (mk c3 c0 c2 c1)) := HT.out.later hB1c
    have HBw : Hid (Below w.heap.size w wc) := Hb1.out.trans (hB1c.mono Hb1.out.size)
    clear hTr hBr hB1c
    go_wp2_with (first | (go_at_call 13; refine (join_any root root2 (mk c3 c0 c2 c1) (rk q) d (selq c0 c1 c2 c3 q) _ HTc.out HTr.out (mk_asc _ _ _ _) (mk_len _ _ _ _) (rk_lt q) (selq_val c0 c1 c2 c3 q hq4)).mono ?_; rintro e w3 ⟨root3, rfl, hT3, hb3⟩; have HT3 : Hid (Tree w3 root3 (joined (mk c3 c0 c2 c1) (rk q) d (selq c0 c1 c2 c3 q))) := hT3; have Hb3 : Hid (Below wc.heap.size wc w3) := hb3; clear hT3 hb3))
    obtain ⟨W4, hW4⟩ : ∃ W4, W4 = w3.alloc (.cells #[.pointer root3, .int .u64 0] 39) := ⟨_, rfl⟩
    rw [← hW4]
    have b34 : Below w3.heap.size w3 W4 := by rw [hW4]; exact (Below.refl _ _).alloc (Nat.le_refl _) _
    have bc4 : Below wc.heap.size wc W4 := Hb3.out.trans (b34.mono Hb3.out.size)
    have y0 : W4.cell? ⟨w1.heap.size, 0, none⟩ = some (.pointer root) := cell_later bc4 x0
    have y1 : W4.cell? ⟨w1.heap.size, 1, none⟩ = some (.int .u64 0) := cell_later bc4 x1
    have z0 : W4.cell? ⟨w3.heap.size, 0, none⟩ = some (.pointer root3) := by rw [hW4]; simp [go_sem]
    have z1 : W4.cell? ⟨w3.heap.size, 1, none⟩ = some (.int .u64 0) := by rw [hW4]; simp [go_sem]
    obtain ⟨f, hf⟩ : ∃ f, f = selq c0 c1 c2 c3 := ⟨_, rfl⟩
    have HV4 : Hid (∀ j, j < 4 → W4.cell? ⟨w1.heap.size + 1, j, none⟩ = some (.int .u64 (f j))) := fun j hj => by rw [hf]; exact cell_later bc4 (HV.out j hj)
    have HTj : Hid (Tree W4 root3 (mk (fw f q d 3) (fw f q d 0) (fw f q d 2) (fw f q d 1))) := by
      have := HT3.out.later b34
      rw [joined_mk c0 c1 c2 c3 d q hq4 HF.out, ← hf] at this
      exact this
    have HTm : Hid (Tree W4 root (mk (f 3) (f 0) (f 2) (f 1))) := by rw [Hid, hf]; exact HTc.out.later bc4
    have HB4 : Hid (Below w.heap.size w W4) := HBw.out.trans (bc4.mono HBw.out.size)
    have Hnn : Hid (∀ j, 0 ≤ f j ∧ f j ≤ 255) := fun j => by rw [hf]; exact selq_nn HF.out j
    clear b34 bc4 hW4 hf x0 x1 HV HTr HTc HBw HT3 Hb3 r0 r1 HT HF Hb1 hx
    generalize w3.heap.size = bj at z0 z1 ⊢
    generalize w1.heap.size = bm at y0 y1 HV4 ⊢
    go_loopw [14, 15, 16] (fun t i u wr => ∃ j : Nat, i = .int .i64 j ∧ j ≤ 4 ∧ t = .int .i64 (cnt (fw f q d) j) ∧ Below W4.heap.size W4 wr) (fun _ i _ _ => 4 - (intOf i).toNat)
    case atStart => exact ⟨0, rfl, by omega, rfl, Below.refl _ _⟩
    case round =>
      obtain ⟨j, rfl, hj, rfl, hBr⟩ := hrel
      have HBr : Hid (Below W4.heap.size W4 wr) := hBr
      have k0 := cell_later hBr y0
      have k1 := cell_later hBr y1
      have k2 := cell_later hBr z0
      have k3 := cell_later hBr z1
      by_cases hj4 : j < 4
      · have k4 := cell_later hBr (HV4.out j hj4)
        have hji : (j : Int) < 4 := by omega
        have Hg : Hid (val (mk (fw f q d 3) (fw f q d 0) (fw f q d 2) (fw f q d 1)) (rk j) = fw f q d j) := val_mk_at (fw f q d) j hj4
        have Hf : Hid (val (mk (f 3) (f 0) (f 2) (f 1)) (rk j) = f j) := val_mk_at f j hj4
        clear hBr
        by_cases hjq : j = q
        · subst hjq
          by_cases hfd : f j < d
          · have e1 : decide (f j < d) = true := by simpa using hfd
            have Hgj : Hid (fw f j d j = d) := by rw [Hid, fw, if_pos ⟨rfl, hfd⟩]
            by_cases hz : d = 0
            · exact absurd hz (by have := (Hnn.out j).1; omega)
            · have Hcn : Hid (cnt (fw f j d) (j + 1) = cnt (fw f j d) j + 1) := by rw [Hid, cnt, Hgj.out, if_neg hz]
              have hw1 : wrap64 ((cnt (fw f j d) j : Int) + 1) = (cnt (fw f j d) j : Int) + 1 := IntWalk.wrap64_in _ (by have := cnt_le (fw f j d) j; omega)
              go_wp2_with fail
              go_region_held3 (fun w' => w'.cell? ⟨bj, 0, none⟩ = some (.pointer root3) ∧ w'.cell? ⟨bj, 1, none⟩ = some (.int .u64 0)) ((repeat' apply And.intro) <;> (first | assumption | (simp [go_sem]; done) | (simp [go_sem, *]; done)))
                (first | (go_at_call 10; refine (ckey j hj4 _).mono ?_; rintro e w9 ⟨rfl, hw9⟩; rw [hw9]; clear hw9 w9) | (go_at_call 14; refine (get_any (rk j) (rk_lt j) (mk (fw f j d 3) (fw f j d 0) (fw f j d 2) (fw f j d 1)) (mk_asc _ _ _ _) (Nat.le_trans (mk_len _ _ _ _) (by omega)) root3 0 _ (HTj.out.later ?_)).mono ?_; (focus (repeat (first | exact HBr.out | refine Below.drew ?_ | refine below_dn ?_))); rw [Hg.out, Hgj.out]; rintro e w5 ⟨rfl, hb5⟩; have j0 := cell_later hb5 k0; have j1 := cell_later hb5 k1; have j2 := cell_later hb5 k2; have j3 := cell_later hb5 k3; have j4 := cell_later hb5 k4; have HB5 : Hid (Below W4.heap.size W4 w5) := HBr.out.drew.trans (hb5.mono HBr.out.size); clear hb5))
              clear k0 k1 k2 k3 k4
              go_wp2_with fail
              go_region_held3 (fun w' => w'.cell? ⟨bm, 0, none⟩ = some (.pointer root) ∧ w'.cell? ⟨bm, 1, none⟩ = some (.int .u64 0) ∧ w'.cell? ⟨bm + 1, j, none⟩ = some (.int .u64 (f j))) ((repeat' apply And.intro) <;> (first | assumption | (simp [go_sem]; done) | (simp [go_sem, *]; done)))
                (first | (go_at_call 10; refine (ckey j hj4 _).mono ?_; rintro e w9 ⟨rfl, hw9⟩; rw [hw9]; clear hw9 w9) | (go_at_call 14; refine (get_any (rk j) (rk_lt j) (mk (f 3) (f 0) (f 2) (f 1)) (mk_asc _ _ _ _) (Nat.le_trans (mk_len _ _ _ _) (by omega)) root 0 _ (HTm.out.later ?_)).mono ?_; (focus (repeat (first | exact HB5.out | refine Below.drew ?_ | refine below_dn ?_))); rw [Hf.out]; rintro e w6 ⟨rfl, hb6⟩; have i0 := cell_later hb6 j0; have i1 := cell_later hb6 j1; have i4 := cell_later hb6 j4; have HB6 : Hid (Below W4.heap.size W4 w6) := HB5.out.drew.trans (hb6.mono HB5.out.size); clear hb6))
              go_wp2_with fail
              go_round
              case rel => exact ⟨j + 1, by go_num, hj4, by first | (rw [Hcn.out]; done) | (rw [Hcn.out]; rfl), HB6.out⟩
              case measure => simp [intOf]; omega
          · have e1 : decide (f j < d) = false := by simpa using hfd
            have Hgj : Hid (fw f j d j = f j) := by rw [Hid, fw, if_neg (fun h => hfd h.2)]
            by_cases hz : f j = 0
            · have Hcn : Hid (cnt (fw f j d) (j + 1) = cnt (fw f j d) j) := by rw [Hid, cnt, Hgj.out, if_pos hz, Nat.add_zero]
              go_wp2_with fail
              go_region_held3 (fun w' => w'.cell? ⟨bj, 0, none⟩ = some (.pointer root3) ∧ w'.cell? ⟨bj, 1, none⟩ = some (.int .u64 0)) ((repeat' apply And.intro) <;> (first | assumption | (simp [go_sem]; done) | (simp [go_sem, *]; done)))
                (first | (go_at_call 10; refine (ckey j hj4 _).mono ?_; rintro e w9 ⟨rfl, hw9⟩; rw [hw9]; clear hw9 w9) | (go_at_call 14; refine (get_any (rk j) (rk_lt j) (mk (fw f j d 3) (fw f j d 0) (fw f j d 2) (fw f j d 1)) (mk_asc _ _ _ _) (Nat.le_trans (mk_len _ _ _ _) (by omega)) root3 0 _ (HTj.out.later ?_)).mono ?_; (focus (repeat (first | exact HBr.out | refine Below.drew ?_ | refine below_dn ?_))); rw [Hg.out, Hgj.out]; rintro e w5 ⟨rfl, hb5⟩; have j0 := cell_later hb5 k0; have j1 := cell_later hb5 k1; have j2 := cell_later hb5 k2; have j3 := cell_later hb5 k3; have j4 := cell_later hb5 k4; have HB5 : Hid (Below W4.heap.size W4 w5) := HBr.out.drew.trans (hb5.mono HBr.out.size); clear hb5))
              clear k0 k1 k2 k3 k4
              go_wp2_with fail
              go_region_held3 (fun w' => w'.cell? ⟨bm, 0, none⟩ = some (.pointer root) ∧ w'.cell? ⟨bm, 1, none⟩ = some (.int .u64 0) ∧ w'.cell? ⟨bm + 1, j, none⟩ = some (.int .u64 (f j))) ((repeat' apply And.intro) <;> (first | assumption | (simp [go_sem]; done) | (simp [go_sem, *]; done)))
                (first | (go_at_call 10; refine (ckey j hj4 _).mono ?_; rintro e w9 ⟨rfl, hw9⟩; rw [hw9]; clear hw9 w9) | (go_at_call 14; refine (get_any (rk j) (rk_lt j) (mk (f 3) (f 0) (f 2) (f 1)) (mk_asc _ _ _ _) (Nat.le_trans (mk_len _ _ _ _) (by omega)) root 0 _ (HTm.out.later ?_)).mono ?_; (focus (repeat (first | exact HB5.out | refine Below.drew ?_ | refine below_dn ?_))); rw [Hf.out]; rintro e w6 ⟨rfl, hb6⟩; have i0 := cell_later hb6 j0; have i1 := cell_later hb6 j1; have i4 := cell_later hb6 j4; have HB6 : Hid (Below W4.heap.size W4 w6) := HB5.out.drew.trans (hb6.mono HB5.out.size); clear hb6))
              go_wp2_with fail
              go_round
              case rel => exact ⟨j + 1, by go_num, hj4, by first | (rw [Hcn.out]; done) | (rw [Hcn.out]; rfl), HB6.out⟩
              case measure => simp [intOf]; omega
            · have Hcn : Hid (cnt (fw f j d) (j + 1) = cnt (fw f j d) j + 1) := by rw [Hid, cnt, Hgj.out, if_neg hz]
              have hw1 : wrap64 ((cnt (fw f j d) j : Int) + 1) = (cnt (fw f j d) j : Int) + 1 := IntWalk.wrap64_in _ (by have := cnt_le (fw f j d) j; omega)
              go_wp2_with fail
              go_region_held3 (fun w' => w'.cell? ⟨bj, 0, none⟩ = some (.pointer root3) ∧ w'.cell? ⟨bj, 1, none⟩ = some (.int .u64 0)) ((repeat' apply And.intro) <;> (first | assumption | (simp [go_sem]; done) | (simp [go_sem, *]; done)))
                (first | (go_at_call 10; refine (ckey j hj4 _).mono ?_; rintro e w9 ⟨rfl, hw9⟩; rw [hw9]; clear hw9 w9) | (go_at_call 14; refine (get_any (rk j) (rk_lt j) (mk (fw f j d 3) (fw f j d 0) (fw f j d 2) (fw f j d 1)) (mk_asc _ _ _ _) (Nat.le_trans (mk_len _ _ _ _) (by omega)) root3 0 _ (HTj.out.later ?_)).mono ?_; (focus (repeat (first | exact HBr.out | refine Below.drew ?_ | refine below_dn ?_))); rw [Hg.out, Hgj.out]; rintro e w5 ⟨rfl, hb5⟩; have j0 := cell_later hb5 k0; have j1 := cell_later hb5 k1; have j2 := cell_later hb5 k2; have j3 := cell_later hb5 k3; have j4 := cell_later hb5 k4; have HB5 : Hid (Below W4.heap.size W4 w5) := HBr.out.drew.trans (hb5.mono HBr.out.size); clear hb5))
              clear k0 k1 k2 k3 k4
              go_wp2_with fail
              go_region_held3 (fun w' => w'.cell? ⟨bm, 0, none⟩ = some (.pointer root) ∧ w'.cell? ⟨bm, 1, none⟩ = some (.int .u64 0) ∧ w'.cell? ⟨bm + 1, j, none⟩ = some (.int .u64 (f j))) ((repeat' apply And.intro) <;> (first | assumption | (simp [go_sem]; done) | (simp [go_sem, *]; done)))
                (first | (go_at_call 10; refine (ckey j hj4 _).mono ?_; rintro e w9 ⟨rfl, hw9⟩; rw [hw9]; clear hw9 w9) | (go_at_call 14; refine (get_any (rk j) (rk_lt j) (mk (f 3) (f 0) (f 2) (f 1)) (mk_asc _ _ _ _) (Nat.le_trans (mk_len _ _ _ _) (by omega)) root 0 _ (HTm.out.later ?_)).mono ?_; (focus (repeat (first | exact HB5.out | refine Below.drew ?_ | refine below_dn ?_))); rw [Hf.out]; rintro e w6 ⟨rfl, hb6⟩; have i0 := cell_later hb6 j0; have i1 := cell_later hb6 j1; have i4 := cell_later hb6 j4; have HB6 : Hid (Below W4.heap.size W4 w6) := HB5.out.drew.trans (hb6.mono HB5.out.size); clear hb6))
              go_wp2_with fail
              go_round
              case rel => exact ⟨j + 1, by go_num, hj4, by first | (rw [Hcn.out]; done) | (rw [Hcn.out]; rfl), HB6.out⟩
              case measure => simp [intOf]; omega
        · have e1 : ¬ (j : Int) = (q : Int) := by omega
          have e2 : ((j : Int) == (q : Int)) = false := by simp; omega
          have Hgj : Hid (fw f q d j = f j) := by rw [Hid, fw, if_neg (fun h => hjq h.1)]
          by_cases hz : f j = 0
          · have Hcn : Hid (cnt (fw f q d) (j + 1) = cnt (fw f q d) j) := by rw [Hid, cnt, Hgj.out, if_pos hz, Nat.add_zero]
            go_wp2_with fail
            go_region_held3 (fun w' => w'.cell? ⟨bj, 0, none⟩ = some (.pointer root3) ∧ w'.cell? ⟨bj, 1, none⟩ = some (.int .u64 0)) ((repeat' apply And.intro) <;> (first | assumption | (simp [go_sem]; done) | (simp [go_sem, *]; done)))
              (first | (go_at_call 10; refine (ckey j hj4 _).mono ?_; rintro e w9 ⟨rfl, hw9⟩; rw [hw9]; clear hw9 w9) | (go_at_call 14; refine (get_any (rk j) (rk_lt j) (mk (fw f q d 3) (fw f q d 0) (fw f q d 2) (fw f q d 1)) (mk_asc _ _ _ _) (Nat.le_trans (mk_len _ _ _ _) (by omega)) root3 0 _ (HTj.out.later ?_)).mono ?_; (focus (repeat (first | exact HBr.out | refine Below.drew ?_ | refine below_dn ?_))); rw [Hg.out, Hgj.out]; rintro e w5 ⟨rfl, hb5⟩; have j0 := cell_later hb5 k0; have j1 := cell_later hb5 k1; have j2 := cell_later hb5 k2; have j3 := cell_later hb5 k3; have j4 := cell_later hb5 k4; have HB5 : Hid (Below W4.heap.size W4 w5) := HBr.out.drew.trans (hb5.mono HBr.out.size); clear hb5))
            clear k0 k1 k2 k3 k4
            go_wp2_with fail
            go_region_held3 (fun w' => w'.cell? ⟨bm, 0, none⟩ = some (.pointer root) ∧ w'.cell? ⟨bm, 1, none⟩ = some (.int .u64 0) ∧ w'.cell? ⟨bm + 1, j, none⟩ = some (.int .u64 (f j))) ((repeat' apply And.intro) <;> (first | assumption | (simp [go_sem]; done) | (simp [go_sem, *]; done)))
              (first | (go_at_call 10; refine (ckey j hj4 _).mono ?_; rintro e w9 ⟨rfl, hw9⟩; rw [hw9]; clear hw9 w9) | (go_at_call 14; refine (get_any (rk j) (rk_lt j) (mk (f 3) (f 0) (f 2) (f 1)) (mk_asc _ _ _ _) (Nat.le_trans (mk_len _ _ _ _) (by omega)) root 0 _ (HTm.out.later ?_)).mono ?_; (focus (repeat (first | exact HB5.out | refine Below.drew ?_ | refine below_dn ?_))); rw [Hf.out]; rintro e w6 ⟨rfl, hb6⟩; have i0 := cell_later hb6 j0; have i1 := cell_later hb6 j1; have i4 := cell_later hb6 j4; have HB6 : Hid (Below W4.heap.size W4 w6) := HB5.out.drew.trans (hb6.mono HB5.out.size); clear hb6))
            go_wp2_with fail
            go_round
            case rel => exact ⟨j + 1, by go_num, hj4, by first | (rw [Hcn.out]; done) | (rw [Hcn.out]; rfl), HB6.out⟩
            case measure => simp [intOf]; omega
          · have Hcn : Hid (cnt (fw f q d) (j + 1) = cnt (fw f q d) j + 1) := by rw [Hid, cnt, Hgj.out, if_neg hz]
            have hw1 : wrap64 ((cnt (fw f q d) j : Int) + 1) = (cnt (fw f q d) j : Int) + 1 := IntWalk.wrap64_in _ (by have := cnt_le (fw f q d) j; omega)
            go_wp2_with fail
            go_region_held3 (fun w' => w'.cell? ⟨bj, 0, none⟩ = some (.pointer root3) ∧ w'.cell? ⟨bj, 1, none⟩ = some (.int .u64 0)) ((repeat' apply And.intro) <;> (first | assumption | (simp [go_sem]; done) | (simp [go_sem, *]; done)))
              (first | (go_at_call 10; refine (ckey j hj4 _).mono ?_; rintro e w9 ⟨rfl, hw9⟩; rw [hw9]; clear hw9 w9) | (go_at_call 14; refine (get_any (rk j) (rk_lt j) (mk (fw f q d 3) (fw f q d 0) (fw f q d 2) (fw f q d 1)) (mk_asc _ _ _ _) (Nat.le_trans (mk_len _ _ _ _) (by omega)) root3 0 _ (HTj.out.later ?_)).mono ?_; (focus (repeat (first | exact HBr.out | refine Below.drew ?_ | refine below_dn ?_))); rw [Hg.out, Hgj.out]; rintro e w5 ⟨rfl, hb5⟩; have j0 := cell_later hb5 k0; have j1 := cell_later hb5 k1; have j2 := cell_later hb5 k2; have j3 := cell_later hb5 k3; have j4 := cell_later hb5 k4; have HB5 : Hid (Below W4.heap.size W4 w5) := HBr.out.drew.trans (hb5.mono HBr.out.size); clear hb5))
            clear k0 k1 k2 k3 k4
            go_wp2_with fail
            go_region_held3 (fun w' => w'.cell? ⟨bm, 0, none⟩ = some (.pointer root) ∧ w'.cell? ⟨bm, 1, none⟩ = some (.int .u64 0) ∧ w'.cell? ⟨bm + 1, j, none⟩ = some (.int .u64 (f j))) ((repeat' apply And.intro) <;> (first | assumption | (simp [go_sem]; done) | (simp [go_sem, *]; done)))
              (first | (go_at_call 10; refine (ckey j hj4 _).mono ?_; rintro e w9 ⟨rfl, hw9⟩; rw [hw9]; clear hw9 w9) | (go_at_call 14; refine (get_any (rk j) (rk_lt j) (mk (f 3) (f 0) (f 2) (f 1)) (mk_asc _ _ _ _) (Nat.le_trans (mk_len _ _ _ _) (by omega)) root 0 _ (HTm.out.later ?_)).mono ?_; (focus (repeat (first | exact HB5.out | refine Below.drew ?_ | refine below_dn ?_))); rw [Hf.out]; rintro e w6 ⟨rfl, hb6⟩; have i0 := cell_later hb6 j0; have i1 := cell_later hb6 j1; have i4 := cell_later hb6 j4; have HB6 : Hid (Below W4.heap.size W4 w6) := HB5.out.drew.trans (hb6.mono HB5.out.size); clear hb6))
            go_wp2_with fail
            go_round
            case rel => exact ⟨j + 1, by go_num, hj4, by first | (rw [Hcn.out]; done) | (rw [Hcn.out]; rfl), HB6.out⟩
            case measure => simp [intOf]; omega
      · have hj5 : j = 4 := by omega
        subst hj5
        clear hBr
        go_wp2_with (first | (go_at_call 15; refine (Len_any root3 0 _ _ (HTj.out.later ?_)).mono ?_; (focus (repeat (first | exact HBr.out | refine Below.drew ?_ | refine below_dn ?_))); rw [mk_cnt (fw f q d)]; rintro e w7 ⟨rfl, hb7⟩))
        go_ret
        exact ⟨by simp, HB4.out.trans ((HBr.out.trans (hb7.mono HBr.out.size)).mono HB4.out.size)⟩

theorem join_all (a0 a1 : Option Addr) (len0 cap0 len1 cap1 : Nat) (f0 f1 : Nat → Int) (k d : Int) (w : World) (h0 : Bytes w a0 len0 f0) (h1 : Bytes w a1 len1 f1) (hk0 : 0 ≤ k) (hk1 : k ≤ 255) (hd0 : 0 ≤ d) (hd1 : d ≤ 255) :
    Calls Yba.prog 6 #[.slice a0 len0 cap0, .slice a1 len1 cap1, .int .u8 k, .int .u8 d] w fun e w' => e = .returned (.bool true) ∧ Below w.heap.size w w' := by
  by_cases l0 : len0 ≤ 1024
  · by_cases l1 : len1 ≤ 1024
    · exact join_short a0 a1 len0 cap0 len1 cap1 f0 f1 k d w h0 h1 l0 l1 hk0 hk1 hd0 hd1
    · exact join_long1 a0 a1 len0 cap0 len1 cap1 k d w l0 (by omega)
  · exact join_long0 a0 a1 len0 cap0 len1 cap1 k d w (by omega)
end Go.Proofs.Ybulkajsu.C
