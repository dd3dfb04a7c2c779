import Derived.Test.YbulkajukEarly
namespace Go.Proofs.Ybulkajuk.C
open Go.RowKit

set_option maxRecDepth 100000 in
set_option maxHeartbeats 2000000 in
theorem walk7_some (a0 : Option Addr) (len cap n m kk t : Nat) (zs : List Int) (w : World) (hl : len ≤ 1024) (hn : 0 < n) (hbig : (n : Int) < 9223372036854775808) (hk2 : kk ≤ 255) (hS : Src w.heap.size w a0 len zs) (ht : t = if kk < 1 then 1 else kk) (hm : Least m len n t) :
    Calls Yba.prog 7 #[.slice a0 len cap, .int .i64 n, .int .u8 kk] w fun e w' => e = .returned (.bool true) ∧ Below w.heap.size w w' := by
  have hd : decide (1024 < (len : Int)) = false := by simp; omega
  have hd2 : decide (0 < (n : Int)) = true := by simp; omega
  have HSrc : Hid (Src w.heap.size w a0 len zs) := hS
  have HM : Hid (Least m len n t) := hm
  have HT : Hid (t = if kk < 1 then 1 else kk) := ht
  have HI : Hid (0 < n ∧ len ≤ 1024 ∧ (n : Int) < 9223372036854775808) := ⟨hn, hl, hbig⟩
  have hml : m ≤ len := hm.l0
  have HZ : Hid (m ≤ zs.length) := by have := hS.1; rw [Hid]; omega
  obtain ⟨k, hk⟩ : ∃ k : Int, k = n := ⟨_, rfl⟩
  obtain ⟨q, hq⟩ : ∃ q : Int, q = kk := ⟨_, rfl⟩
  have hw : wrap64 q = q := IntWalk.wrap64_in _ (by omega)
  have hq0 : 0 ≤ q := by omega
  have hq1 : q ≤ 255 := by omega
  rw [← hk] at hd2
  have HK : Hid (k = n) := hk
  have HQ : Hid (q = kk) := hq
  rw [← hk, ← hq]
  clear hS hm ht hn hbig hk hq hk2
  go_enter Yba.func7, Yba.ntmps7
  go_wp2_with fail
  refine (lim17 _ _ _ k _).mono ?_
  rintro e w' ⟨rfl, rfl⟩
  go_wp2_with fail
  have h1 := (start w (.slice a0 len cap) 0 q).later (((Below.refl _ _).alloc (Nat.le_refl _) (.cells #[s19 w.heap.size (w.heap.size + 1)] 41)).alloc (by simp) (.cells #[.int .i64 k] 3))
  obtain ⟨i1, i2, i3⟩ := HI.out
  rw [HQ.out] at h1
  refine (lim25e w.heap.size w _ w.heap.size (w.heap.size + 1) (w.heap.size + 1 + 1) (w.heap.size + 1 + 1 + 1 + 1) _ _ a0 len cap n m kk t zs (Nat.le_refl _) (by omega) (by omega) (by omega) HSrc.out i1 i2 i3 HT.out HM.out (by rw [HQ.out]; exact h1) (by rw [HK.out]; simp [go_sem]) (by simp [go_sem])).mono ?_
  rintro e w' ⟨rfl, h2⟩
  clear h1
  have c0 := h2.p.cell
  have c1 := h2.q.cell
  rw [← HQ.out] at c1
  have c3 := h2.x.cell
  have HS2 : Hid (St0 w.heap.size w w' w.heap.size (w.heap.size + 1) (w.heap.size + 1 + 1) (w.heap.size + 1 + 1 + 1 + 1) (.slice a0 len cap) m kk (zs.take m)) := h2
  obtain ⟨g, c, hbo, hr, _⟩ := h2.o
  have hlm : (zs.take m).length = m := by rw [List.length_take]; exact Nat.min_eq_left HZ.out
  rw [hlm] at hbo hr
  have c2 := hbo.cell
  have HR : Hid (w'.ownsRow w.heap.size 3 1 (.slice (some ⟨g, 0, none⟩) m c) m (ints (zs.take m))) := hr
  clear hbo h2 hr hlm i1 i2 i3
  go_upto_if 27 with fail
  go_cut [11] (fun s11 wx => s11 = .int .i64 m ∧ w' = wx)
  case first =>
    by_cases x1 : k < (len : Int)
    · have y1 : decide (k < (len : Int)) = true := by simpa using x1
      by_cases x2 : q < 1
      · have y2 : decide (q < 1) = true := by simpa using x2
        by_cases x3 : 1 < k
        · have y3 : decide (1 < k) = true := by simpa using x3
          go_wp2_with fail
          go_meet
          refine ⟨congrArg (Value.int .i64) ?_, rfl⟩
          obtain ⟨m0, m1, m2, m3⟩ := HM.out
          have z1 := HT.out
          have z2 := HK.out
          have z3 := HQ.out
          split at z1 <;> omega
        · have y3 : decide (1 < k) = false := by simpa using x3
          go_wp2_with fail
          go_meet
          refine ⟨congrArg (Value.int .i64) ?_, rfl⟩
          obtain ⟨m0, m1, m2, m3⟩ := HM.out
          have z1 := HT.out
          have z2 := HK.out
          have z3 := HQ.out
          split at z1 <;> omega
      · have y2 : decide (q < 1) = false := by simpa using x2
        by_cases x3 : q < k
        · have y3 : decide (q < k) = true := by simpa using x3
          go_wp2_with fail
          go_meet
          refine ⟨congrArg (Value.int .i64) ?_, rfl⟩
          obtain ⟨m0, m1, m2, m3⟩ := HM.out
          have z1 := HT.out
          have z2 := HK.out
          have z3 := HQ.out
          split at z1 <;> omega
        · have y3 : decide (q < k) = false := by simpa using x3
          go_wp2_with fail
          go_meet
          refine ⟨congrArg (Value.int .i64) ?_, rfl⟩
          obtain ⟨m0, m1, m2, m3⟩ := HM.out
          have z1 := HT.out
          have z2 := HK.out
          have z3 := HQ.out
          split at z1 <;> omega
    · have y1 : decide (k < (len : Int)) = false := by simpa using x1
      by_cases x2 : q < 1
      · have y2 : decide (q < 1) = true := by simpa using x2
        by_cases x3 : 1 < (len : Int)
        · have y3 : decide (1 < (len : Int)) = true := by simpa using x3
          have y4 : decide (1 < len) = true := by simp; omega
          go_wp2_with fail
          go_meet
          refine ⟨congrArg (Value.int .i64) ?_, rfl⟩
          obtain ⟨m0, m1, m2, m3⟩ := HM.out
          have z1 := HT.out
          have z2 := HK.out
          have z3 := HQ.out
          split at z1 <;> omega
        · have y3 : decide (1 < (len : Int)) = false := by simpa using x3
          have y4 : decide (1 < len) = false := by simp; omega
          go_wp2_with fail
          go_meet
          refine ⟨congrArg (Value.int .i64) ?_, rfl⟩
          obtain ⟨m0, m1, m2, m3⟩ := HM.out
          have z1 := HT.out
          have z2 := HK.out
          have z3 := HQ.out
          split at z1 <;> omega
      · have y2 : decide (q < 1) = false := by simpa using x2
        by_cases x3 : q < (len : Int)
        · have y3 : decide (q < (len : Int)) = true := by simpa using x3
          go_wp2_with fail
          go_meet
          refine ⟨congrArg (Value.int .i64) ?_, rfl⟩
          obtain ⟨m0, m1, m2, m3⟩ := HM.out
          have z1 := HT.out
          have z2 := HK.out
          have z3 := HQ.out
          split at z1 <;> omega
        · have y3 : decide (q < (len : Int)) = false := by simpa using x3
          go_wp2_with fail
          go_meet
          refine ⟨congrArg (Value.int .i64) ?_, rfl⟩
          obtain ⟨m0, m1, m2, m3⟩ := HM.out
          have z1 := HT.out
          have z2 := HK.out
          have z3 := HQ.out
          split at z1 <;> omega
  case rest =>
    obtain ⟨rfl, rfl⟩ := hcut
    go_wp2_with fail
    go_loopw [13] (fun t wr => ∃ j : Nat, t = .int .i64 j ∧ j ≤ m ∧ Below w'.heap.size w' wr) (fun t _ => m - (intOf t).toNat)
    case atStart => exact ⟨0, rfl, Nat.zero_le _, Below.refl _ _⟩
    case round =>
      obtain ⟨j, rfl, hj, hB⟩ := hrel
      have HBw : Hid (Below w'.heap.size w' wr) := hB
      have k2 := cell_later hB c2
      have k3 := cell_later hB c3
      by_cases hjm : j < m
      · obtain ⟨hzl, h0 | ⟨x, rfl, hx⟩⟩ := HSrc.out
        · omega
        · have e1 := hx _ (HS2.out.bel.trans (hB.mono HS2.out.size)) j (by omega)
          have e2 : wr.cell? ⟨g, j, none⟩ = some (.int .i64 (zs.getD j 0)) := by
            have := cell_later hB (own_cell HR.out hjm)
            rw [show (zs.take m).getD j 0 = zs.getD j 0 by simp [List.getD, List.getElem?_take_of_lt hjm]] at this
            exact this
          have q1 : decide (j < m) = true := by simpa using hjm
          have q2 : (j : Int) < (m : Int) := by omega
          have q3 : (j : Int) < (len : Int) := by omega
          clear hx hB
          go_wp2_with fail
          go_quiet (fail)
          have hw1 : wrap64 ((j : Int) + 1) = (j : Int) + 1 := IntWalk.wrap64_in _ (by omega)
          go_wp2_with fail
          refine ⟨⟨j + 1, rfl, hjm, below_dn HBw.out⟩, ?_⟩
          simp only [intOf]
          omega
      · have q1 : decide (j < m) = false := by simpa using hjm
        clear hB
        go_wp2_with fail
        go_ret
        exact ⟨rfl, HS2.out.bel.trans (HBw.out.mono HS2.out.size)⟩

/-- The walk of LawS1778CEarlyStop. -/
theorem walk7 (a0 : Option Addr) (len cap : Nat) (n k : Int) (zs : List Int) (w : World) (hw : (Lit.int .i64 n).wf = true) (hk : (Lit.int .u8 k).wf = true) (hS : Src w.heap.size w a0 len zs) :
    Calls Yba.prog 7 #[.slice a0 len cap, .int .i64 n, .int .u8 k] w fun e w' => e = .returned (.bool true) ∧ Below w.heap.size w w' := by
  have hkb := bounds_u8 hk
  by_cases hl : 1024 < len
  · exact walk7_long a0 len cap n k w hl
  · by_cases hn : n ≤ 0
    · exact walk7_none a0 len cap n k w (by omega) hn (by omega) (by omega)
    · have hb := bounds_i64 hw
      have e : n = (n.toNat : Int) := by omega
      have e2 : k = (k.toNat : Int) := by omega
      rw [e, e2]
      refine walk7_some a0 len cap n.toNat (min (min len n.toNat) (if k.toNat < 1 then 1 else k.toNat)) k.toNat _ zs w (by omega) (by omega) (by omega) (by omega) hS rfl ⟨?_, ?_, ?_, ?_⟩
      all_goals split <;> omega
end Go.Proofs.Ybulkajuk.C
