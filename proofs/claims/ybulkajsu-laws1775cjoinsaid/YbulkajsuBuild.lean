import Derived.Test.YbulkajsuInv
namespace Go.Proofs.Ybulkajsu.C
open Go.RowKit

set_option maxRecDepth 100000 in
set_option maxHeartbeats 2000000 in
theorem build_lt (b0 off0 b1 off1 len0 cap0 len1 cap1 n : Nat) (f0 f1 : Nat → Int) (w : World) (hlt : len1 < len0) (hnn : n = len1) (h0 : ∀ j, j < n → w.cell? ⟨b0, off0 + j, none⟩ = some (.int .u8 (f0 j)) ∧ 0 ≤ f0 j ∧ f0 j ≤ 255) (h1 : ∀ j, j < n → w.cell? ⟨b1, off1 + j, none⟩ = some (.int .u8 (f1 j)) ∧ 0 ≤ f1 j ∧ f1 j ≤ 255) (l0 : len0 ≤ 1024) (l1 : len1 ≤ 1024) :
    Calls Yba.prog 9 #[.slice (some ⟨b0, off0, none⟩) len0 cap0, .slice (some ⟨b1, off1, none⟩) len1 cap1] w fun e w' =>
      ∃ root c0 c1 c2 c3, e = .returned (.tuple #[.agg #[.pointer root, .int .u64 0], .agg #[.int .u64 c0, .int .u64 c1, .int .u64 c2, .int .u64 c3]]) ∧ Four c0 c1 c2 c3 ∧ Tree w' root (mk c3 c0 c2 c1) ∧ Below w.heap.size w w' := by
  have H0 : Hid (∀ j, j < n → w.cell? ⟨b0, off0 + j, none⟩ = some (.int .u8 (f0 j)) ∧ 0 ≤ f0 j ∧ f0 j ≤ 255) := h0
  have H1 : Hid (∀ j, j < n → w.cell? ⟨b1, off1 + j, none⟩ = some (.int .u8 (f1 j)) ∧ 0 ≤ f1 j ∧ f1 j ≤ 255) := h1
  have hb0 : Hid (∀ k : Nat, k < n → (k : Int) < (len0 : Int)) := fun k hk => by omega
  have hb1 : Hid (∀ k : Nat, k < n → (k : Int) < (len1 : Int)) := fun k hk => by omega
  have hd : decide (len1 < len0) = true := decide_eq_true (by omega)
  clear h0 h1
  subst hnn
  go_enter Yba.func9, Yba.ntmps9
  go_wp2_with fail
  go_loopw [9] (fun i wr => ∃ k : Nat, i = .int .i64 k ∧ k ≤ n ∧ ∃ root c0 c1 c2 c3, Inv w wr root c0 c1 c2 c3) (fun i _ => n - (intOf i).toNat)
  case atStart =>
    refine ⟨0, rfl, Nat.zero_le _, none, 0, 0, 0, 0, ?_⟩
    constructor
    all_goals first | (simp [go_sem]; done) | (intro j; simp [go_sem]; done) | (unfold Four; omega) | exact .inl ⟨rfl, rfl⟩ | ((repeat (first | exact Below.refl _ _ | refine Below.drew ?_ | refine below_dn ?_ | refine Below.alloc ?_ (by first | omega | (simp; done) | (simp; omega)) _)))
  case round =>
    obtain ⟨k, rfl, hk, root, c0, c1, c2, c3, hI⟩ := hrel
    have HI : Hid (Inv w wr root c0 c1 c2 c3) := hI
    by_cases hkn : k < n
    · have x0 := cell_later hI.bel (H0.out k hkn).1
      have y0 := cell_later hI.bel (H1.out k hkn).1
      obtain ⟨hx1, hx2⟩ := (H0.out k hkn).2
      obtain ⟨hy1, hy2⟩ := (H1.out k hkn).2
      generalize f0 k = x at x0 hx1 hx2
      generalize f1 k = y at y0 hy1 hy2
      have hI0 := hb0.out k hkn
      have hI1 := hb1.out k hkn
      by_cases hy : y = 0
      · subst hy
        clear hI
        go_wp2_with fail
        go_roundw
        case rel => exact ⟨k + 1, by go_num, by omega, root, c0, c1, c2, c3, HI.out⟩
        case measure => simp [intOf]; omega
      · have hyb : (y != 0) = true := by rw [bne_iff_ne]; exact hy
        obtain ⟨q, hq⟩ : ∃ q : Nat, x % 4 = q := ⟨(x % 4).toNat, by omega⟩
        have hq4 : q < 4 := by omega
        have hwy : IntKind.u64.wrap y = y := wrapU y hy1 hy2
        have m0 := hI.m0
        have m1 := hI.m1
        have Hy : Hid (¬ y = 0) := hy
        clear hI hy
        rcases (show q = 0 ∨ q = 1 ∨ q = 2 ∨ q = 3 by omega) with rfl | rfl | rfl | rfl
        · go_wp2_with fail
          go_region_with (first | (go_at_call 10; refine (ckeyL _ 0 rfl (by omega) _).mono ?_; rintro e w' ⟨rfl, rfl⟩) | (go_at_call 16; refine (with_any (rk 0) (by decide) y (mk c3 c0 c2 c1) (mk_asc _ _ _ _) (Nat.le_trans (mk_len _ _ _ _) (by omega)) root _ HI.out.tree.drew).mono ?_; rintro e w1 ⟨root', rfl, hT1, hb1⟩; have hI1 := HI.out.drew.later hb1; have HI1 : Hid (Inv w w1 root c0 c1 c2 c3) := hI1; have HT1 : Hid (Tree w1 root' (ins (mk c3 c0 c2 c1) (rk 0) y)) := hT1; have p0 := hI1.m0; have p1 := hI1.fm; have p2 := hI1.k0; have p3 := hI1.fk 0; clear hI1 hT1))
          all_goals
            go_wp2_with fail
            exact ⟨⟨k + 1, by go_num, by omega, root', y, c1, c2, c3, inv_store0 HI1.out (by have e := (ins_mk c3 c0 c2 c1 y Hy.out).2.1; rw [← e]; exact HT1.out) ⟨hy1, hy2⟩⟩, by simp [intOf]; omega⟩
        · go_wp2_with fail
          go_region_with (first | (go_at_call 10; refine (ckeyL _ 1 rfl (by omega) _).mono ?_; rintro e w' ⟨rfl, rfl⟩) | (go_at_call 16; refine (with_any (rk 1) (by decide) y (mk c3 c0 c2 c1) (mk_asc _ _ _ _) (Nat.le_trans (mk_len _ _ _ _) (by omega)) root _ HI.out.tree.drew).mono ?_; rintro e w1 ⟨root', rfl, hT1, hb1⟩; have hI1 := HI.out.drew.later hb1; have HI1 : Hid (Inv w w1 root c0 c1 c2 c3) := hI1; have HT1 : Hid (Tree w1 root' (ins (mk c3 c0 c2 c1) (rk 1) y)) := hT1; have p0 := hI1.m0; have p1 := hI1.fm; have p2 := hI1.k1; have p3 := hI1.fk 1; clear hI1 hT1))
          all_goals
            go_wp2_with fail
            exact ⟨⟨k + 1, by go_num, by omega, root', c0, y, c2, c3, inv_store1 HI1.out (by have e := (ins_mk c3 c0 c2 c1 y Hy.out).2.2.2; rw [← e]; exact HT1.out) ⟨hy1, hy2⟩⟩, by simp [intOf]; omega⟩
        · go_wp2_with fail
          go_region_with (first | (go_at_call 10; refine (ckeyL _ 2 rfl (by omega) _).mono ?_; rintro e w' ⟨rfl, rfl⟩) | (go_at_call 16; refine (with_any (rk 2) (by decide) y (mk c3 c0 c2 c1) (mk_asc _ _ _ _) (Nat.le_trans (mk_len _ _ _ _) (by omega)) root _ HI.out.tree.drew).mono ?_; rintro e w1 ⟨root', rfl, hT1, hb1⟩; have hI1 := HI.out.drew.later hb1; have HI1 : Hid (Inv w w1 root c0 c1 c2 c3) := hI1; have HT1 : Hid (Tree w1 root' (ins (mk c3 c0 c2 c1) (rk 2) y)) := hT1; have p0 := hI1.m0; have p1 := hI1.fm; have p2 := hI1.k2; have p3 := hI1.fk 2; clear hI1 hT1))
          all_goals
            go_wp2_with fail
            exact ⟨⟨k + 1, by go_num, by omega, root', c0, c1, y, c3, inv_store2 HI1.out (by have e := (ins_mk c3 c0 c2 c1 y Hy.out).2.2.1; rw [← e]; exact HT1.out) ⟨hy1, hy2⟩⟩, by simp [intOf]; omega⟩
        · go_wp2_with fail
          go_region_with (first | (go_at_call 10; refine (ckeyL _ 3 rfl (by omega) _).mono ?_; rintro e w' ⟨rfl, rfl⟩) | (go_at_call 16; refine (with_any (rk 3) (by decide) y (mk c3 c0 c2 c1) (mk_asc _ _ _ _) (Nat.le_trans (mk_len _ _ _ _) (by omega)) root _ HI.out.tree.drew).mono ?_; rintro e w1 ⟨root', rfl, hT1, hb1⟩; have hI1 := HI.out.drew.later hb1; have HI1 : Hid (Inv w w1 root c0 c1 c2 c3) := hI1; have HT1 : Hid (Tree w1 root' (ins (mk c3 c0 c2 c1) (rk 3) y)) := hT1; have p0 := hI1.m0; have p1 := hI1.fm; have p2 := hI1.k3; have p3 := hI1.fk 3; clear hI1 hT1))
          all_goals
            go_wp2_with fail
            exact ⟨⟨k + 1, by go_num, by omega, root', c0, c1, c2, y, inv_store3 HI1.out (by have e := (ins_mk c3 c0 c2 c1 y Hy.out).1; rw [← e]; exact HT1.out) ⟨hy1, hy2⟩⟩, by simp [intOf]; omega⟩
    · have m0 := hI.m0
      have m1 := hI.m1
      have k0 := hI.k0
      have k1 := hI.k1
      have k2 := hI.k2
      have k3 := hI.k3
      have r0 := hI.r0
      have r1 := hI.r1
      have s0 := hI.s0
      have s1 := hI.s1
      have s2 := hI.s2
      have s3 := hI.s3
      have fr0 := hI.fr 0
      have fr1 := hI.fr 1
      have fs0 := hI.fs 0
      have fs1 := hI.fs 1
      have fs2 := hI.fs 2
      have fs3 := hI.fs 3
      clear hI
      go_wp2_with fail
      go_region
      go_wp2_with fail
      refine bodyPost_ret (v := .tuple #[.agg #[.pointer root, .int .u64 0], .agg #[.int .u64 c0, .int .u64 c1, .int .u64 c2, .int .u64 c3]]) (by simp [results, Yba.results9, go_sem, r0, r1, s0, s1, s2, s3]) rfl ⟨root, c0, c1, c2, c3, rfl, HI.out.four, ?_, ?_⟩
      · refine HI.out.tree.agree fun b o hb => ?_
        have n1 : ¬ b = w.heap.size := by rintro rfl; rcases hb with ⟨_, _, _, h⟩ | ⟨_, h⟩ <;> rw [HI.out.r0] at h <;> cases h
        have n2 : ¬ b = w.heap.size + 1 := by rintro rfl; rcases hb with ⟨_, _, _, h⟩ | ⟨_, h⟩ <;> rw [HI.out.s0] at h <;> cases h
        simp only [World.cell?_drew]
        rw [cell_set_ne n2, cell_set_ne n2, cell_set_ne n2, cell_set_ne n2, cell_set_ne n1, cell_set_ne n1]
      · have := HI.out.bel
        refine Below.drew ?_
        iterate 6 refine Below.setCell ?_ (by first | omega | (simp; done) | (simp; omega)) _
        exact this

set_option maxRecDepth 100000 in
set_option maxHeartbeats 2000000 in
theorem build_ge (b0 off0 b1 off1 len0 cap0 len1 cap1 n : Nat) (f0 f1 : Nat → Int) (w : World) (hlt : len0 ≤ len1) (hnn : n = len0) (h0 : ∀ j, j < n → w.cell? ⟨b0, off0 + j, none⟩ = some (.int .u8 (f0 j)) ∧ 0 ≤ f0 j ∧ f0 j ≤ 255) (h1 : ∀ j, j < n → w.cell? ⟨b1, off1 + j, none⟩ = some (.int .u8 (f1 j)) ∧ 0 ≤ f1 j ∧ f1 j ≤ 255) (l0 : len0 ≤ 1024) (l1 : len1 ≤ 1024) :
    Calls Yba.prog 9 #[.slice (some ⟨b0, off0, none⟩) len0 cap0, .slice (some ⟨b1, off1, none⟩) len1 cap1] w fun e w' =>
      ∃ root c0 c1 c2 c3, e = .returned (.tuple #[.agg #[.pointer root, .int .u64 0], .agg #[.int .u64 c0, .int .u64 c1, .int .u64 c2, .int .u64 c3]]) ∧ Four c0 c1 c2 c3 ∧ Tree w' root (mk c3 c0 c2 c1) ∧ Below w.heap.size w w' := by
  have H0 : Hid (∀ j, j < n → w.cell? ⟨b0, off0 + j, none⟩ = some (.int .u8 (f0 j)) ∧ 0 ≤ f0 j ∧ f0 j ≤ 255) := h0
  have H1 : Hid (∀ j, j < n → w.cell? ⟨b1, off1 + j, none⟩ = some (.int .u8 (f1 j)) ∧ 0 ≤ f1 j ∧ f1 j ≤ 255) := h1
  have hb0 : Hid (∀ k : Nat, k < n → (k : Int) < (len0 : Int)) := fun k hk => by omega
  have hb1 : Hid (∀ k : Nat, k < n → (k : Int) < (len1 : Int)) := fun k hk => by omega
  have hd : decide (len1 < len0) = false := decide_eq_false (by omega)
  clear h0 h1
  subst hnn
  go_enter Yba.func9, Yba.ntmps9
  go_wp2_with fail
  go_loopw [9] (fun i wr => ∃ k : Nat, i = .int .i64 k ∧ k ≤ n ∧ ∃ root c0 c1 c2 c3, Inv w wr root c0 c1 c2 c3) (fun i _ => n - (intOf i).toNat)
  case atStart =>
    refine ⟨0, rfl, Nat.zero_le _, none, 0, 0, 0, 0, ?_⟩
    constructor
    all_goals first | (simp [go_sem]; done) | (intro j; simp [go_sem]; done) | (unfold Four; omega) | exact .inl ⟨rfl, rfl⟩ | ((repeat (first | exact Below.refl _ _ | refine Below.drew ?_ | refine below_dn ?_ | refine Below.alloc ?_ (by first | omega | (simp; done) | (simp; omega)) _)))
  case round =>
    obtain ⟨k, rfl, hk, root, c0, c1, c2, c3, hI⟩ := hrel
    have HI : Hid (Inv w wr root c0 c1 c2 c3) := hI
    by_cases hkn : k < n
    · have x0 := cell_later hI.bel (H0.out k hkn).1
      have y0 := cell_later hI.bel (H1.out k hkn).1
      obtain ⟨hx1, hx2⟩ := (H0.out k hkn).2
      obtain ⟨hy1, hy2⟩ := (H1.out k hkn).2
      generalize f0 k = x at x0 hx1 hx2
      generalize f1 k = y at y0 hy1 hy2
      have hI0 := hb0.out k hkn
      have hI1 := hb1.out k hkn
      by_cases hy : y = 0
      · subst hy
        clear hI
        go_wp2_with fail
        go_roundw
        case rel => exact ⟨k + 1, by go_num, by omega, root, c0, c1, c2, c3, HI.out⟩
        case measure => simp [intOf]; omega
      · have hyb : (y != 0) = true := by rw [bne_iff_ne]; exact hy
        obtain ⟨q, hq⟩ : ∃ q : Nat, x % 4 = q := ⟨(x % 4).toNat, by omega⟩
        have hq4 : q < 4 := by omega
        have hwy : IntKind.u64.wrap y = y := wrapU y hy1 hy2
        have m0 := hI.m0
        have m1 := hI.m1
        have Hy : Hid (¬ y = 0) := hy
        clear hI hy
        rcases (show q = 0 ∨ q = 1 ∨ q = 2 ∨ q = 3 by omega) with rfl | rfl | rfl | rfl
        · go_wp2_with fail
          go_region_with (first | (go_at_call 10; refine (ckeyL _ 0 rfl (by omega) _).mono ?_; rintro e w' ⟨rfl, rfl⟩) | (go_at_call 16; refine (with_any (rk 0) (by decide) y (mk c3 c0 c2 c1) (mk_asc _ _ _ _) (Nat.le_trans (mk_len _ _ _ _) (by omega)) root _ HI.out.tree.drew).mono ?_; rintro e w1 ⟨root', rfl, hT1, hb1⟩; have hI1 := HI.out.drew.later hb1; have HI1 : Hid (Inv w w1 root c0 c1 c2 c3) := hI1; have HT1 : Hid (Tree w1 root' (ins (mk c3 c0 c2 c1) (rk 0) y)) := hT1; have p0 := hI1.m0; have p1 := hI1.fm; have p2 := hI1.k0; have p3 := hI1.fk 0; clear hI1 hT1))
          all_goals
            go_wp2_with fail
            exact ⟨⟨k + 1, by go_num, by omega, root', y, c1, c2, c3, inv_store0 HI1.out (by have e := (ins_mk c3 c0 c2 c1 y Hy.out).2.1; rw [← e]; exact HT1.out) ⟨hy1, hy2⟩⟩, by simp [intOf]; omega⟩
        · go_wp2_with fail
          go_region_with (first | (go_at_call 10; refine (ckeyL _ 1 rfl (by omega) _).mono ?_; rintro e w' ⟨rfl, rfl⟩) | (go_at_call 16; refine (with_any (rk 1) (by decide) y (mk c3 c0 c2 c1) (mk_asc _ _ _ _) (Nat.le_trans (mk_len _ _ _ _) (by omega)) root _ HI.out.tree.drew).mono ?_; rintro e w1 ⟨root', rfl, hT1, hb1⟩; have hI1 := HI.out.drew.later hb1; have HI1 : Hid (Inv w w1 root c0 c1 c2 c3) := hI1; have HT1 : Hid (Tree w1 root' (ins (mk c3 c0 c2 c1) (rk 1) y)) := hT1; have p0 := hI1.m0; have p1 := hI1.fm; have p2 := hI1.k1; have p3 := hI1.fk 1; clear hI1 hT1))
          all_goals
            go_wp2_with fail
            exact ⟨⟨k + 1, by go_num, by omega, root', c0, y, c2, c3, inv_store1 HI1.out (by have e := (ins_mk c3 c0 c2 c1 y Hy.out).2.2.2; rw [← e]; exact HT1.out) ⟨hy1, hy2⟩⟩, by simp [intOf]; omega⟩
        · go_wp2_with fail
          go_region_with (first | (go_at_call 10; refine (ckeyL _ 2 rfl (by omega) _).mono ?_; rintro e w' ⟨rfl, rfl⟩) | (go_at_call 16; refine (with_any (rk 2) (by decide) y (mk c3 c0 c2 c1) (mk_asc _ _ _ _) (Nat.le_trans (mk_len _ _ _ _) (by omega)) root _ HI.out.tree.drew).mono ?_; rintro e w1 ⟨root', rfl, hT1, hb1⟩; have hI1 := HI.out.drew.later hb1; have HI1 : Hid (Inv w w1 root c0 c1 c2 c3) := hI1; have HT1 : Hid (Tree w1 root' (ins (mk c3 c0 c2 c1) (rk 2) y)) := hT1; have p0 := hI1.m0; have p1 := hI1.fm; have p2 := hI1.k2; have p3 := hI1.fk 2; clear hI1 hT1))
          all_goals
            go_wp2_with fail
            exact ⟨⟨k + 1, by go_num, by omega, root', c0, c1, y, c3, inv_store2 HI1.out (by have e := (ins_mk c3 c0 c2 c1 y Hy.out).2.2.1; rw [← e]; exact HT1.out) ⟨hy1, hy2⟩⟩, by simp [intOf]; omega⟩
        · go_wp2_with fail
          go_region_with (first | (go_at_call 10; refine (ckeyL _ 3 rfl (by omega) _).mono ?_; rintro e w' ⟨rfl, rfl⟩) | (go_at_call 16; refine (with_any (rk 3) (by decide) y (mk c3 c0 c2 c1) (mk_asc _ _ _ _) (Nat.le_trans (mk_len _ _ _ _) (by omega)) root _ HI.out.tree.drew).mono ?_; rintro e w1 ⟨root', rfl, hT1, hb1⟩; have hI1 := HI.out.drew.later hb1; have HI1 : Hid (Inv w w1 root c0 c1 c2 c3) := hI1; have HT1 : Hid (Tree w1 root' (ins (mk c3 c0 c2 c1) (rk 3) y)) := hT1; have p0 := hI1.m0; have p1 := hI1.fm; have p2 := hI1.k3; have p3 := hI1.fk 3; clear hI1 hT1))
          all_goals
            go_wp2_with fail
            exact ⟨⟨k + 1, by go_num, by omega, root', c0, c1, c2, y, inv_store3 HI1.out (by have e := (ins_mk c3 c0 c2 c1 y Hy.out).1; rw [← e]; exact HT1.out) ⟨hy1, hy2⟩⟩, by simp [intOf]; omega⟩
    · have m0 := hI.m0
      have m1 := hI.m1
      have k0 := hI.k0
      have k1 := hI.k1
      have k2 := hI.k2
      have k3 := hI.k3
      have r0 := hI.r0
      have r1 := hI.r1
      have s0 := hI.s0
      have s1 := hI.s1
      have s2 := hI.s2
      have s3 := hI.s3
      have fr0 := hI.fr 0
      have fr1 := hI.fr 1
      have fs0 := hI.fs 0
      have fs1 := hI.fs 1
      have fs2 := hI.fs 2
      have fs3 := hI.fs 3
      clear hI
      go_wp2_with fail
      go_region
      go_wp2_with fail
      refine bodyPost_ret (v := .tuple #[.agg #[.pointer root, .int .u64 0], .agg #[.int .u64 c0, .int .u64 c1, .int .u64 c2, .int .u64 c3]]) (by simp [results, Yba.results9, go_sem, r0, r1, s0, s1, s2, s3]) rfl ⟨root, c0, c1, c2, c3, rfl, HI.out.four, ?_, ?_⟩
      · refine HI.out.tree.agree fun b o hb => ?_
        have n1 : ¬ b = w.heap.size := by rintro rfl; rcases hb with ⟨_, _, _, h⟩ | ⟨_, h⟩ <;> rw [HI.out.r0] at h <;> cases h
        have n2 : ¬ b = w.heap.size + 1 := by rintro rfl; rcases hb with ⟨_, _, _, h⟩ | ⟨_, h⟩ <;> rw [HI.out.s0] at h <;> cases h
        simp only [World.cell?_drew]
        rw [cell_set_ne n2, cell_set_ne n2, cell_set_ne n2, cell_set_ne n2, cell_set_ne n1, cell_set_ne n1]
      · have := HI.out.bel
        refine Below.drew ?_
        iterate 6 refine Below.setCell ?_ (by first | omega | (simp; done) | (simp; omega)) _
        exact this

end Go.Proofs.Ybulkajsu.C
