import Derived.Test.YbulkajukLimit
import Derived.OpenShut
namespace Go.Proofs.Ybulkajuk.C
open Go.RowKit

/-- What the law's own loop reads: the row of the collected values and the slice that came in. -/
theorem own_cell {w : World} {N n cap g i : Nat} {out : List Int} (h : w.ownsRow N 3 1 (.slice (some ⟨g, 0, none⟩) n cap) n (ints out)) (hi : i < n) : w.cell? ⟨g, i, none⟩ = some (.int .i64 (out.getD i 0)) := by
  obtain ⟨hl, h2⟩ := h
  rcases h2 with ⟨h0, _⟩ | ⟨g', c', cur, hv, _, hg, hle, _, hsz, htk⟩
  · cases h0
  · simp at hv
    obtain ⟨rfl, rfl⟩ := hv
    simp at hl hsz htk
    have hc : i < cur.size := by omega
    have : (ints out)[i]? = cur.toList[i]? := by rw [← htk, List.getElem?_take_of_lt hi]
    simp [World.cell?, hg]
    have e1 : cur[i]? = some (.int .i64 (out.getD i 0)) := by
      have e2 : cur.toList[i]? = cur[i]? := by simp
      rw [← e2, ← this]
      simp [ints, List.getD, List.getElem?_eq_getElem (show i < out.length by omega)]
    simpa using e1

set_option maxRecDepth 100000 in
set_option maxHeartbeats 2000000 in
theorem walk6_long (a0 : Option Addr) (len cap : Nat) (n : Int) (w : World) (hl : 1024 < len) :
    Calls Yba.prog 6 #[.slice a0 len cap, .int .i64 n] w fun e w' => e = .returned (.bool true) ∧ Below w.heap.size w w' := by
  have hd : decide (1024 < (len : Int)) = true := by simp; omega
  go_enter Yba.func6, Yba.ntmps6
  go_wp2_with fail
  go_ret
  exact ⟨rfl, (Below.refl _ _).alloc (Nat.le_refl _) _⟩


abbrev W5 (w : World) (xv : Value) (p q : Int) : World := ((((w.alloc (.cells #[xv] 22)).alloc (.cells #[.int .i64 p] 3)).alloc (.cells #[.int .i64 q] 3)).alloc (.cells #[] 3)).alloc (.cells #[.slice (some ⟨w.heap.size + 1 + 1 + 1, 0, none⟩) 0 0] 22)

theorem cell_later {w w' : World} {g i : Nat} {v : Value} (hb : Below w.heap.size w w') (h : w.cell? ⟨g, i, none⟩ = some v) : w'.cell? ⟨g, i, none⟩ = some v :=
  (hb.cell (World.block_lt_of_cell? _ _ h)).trans h
theorem below_dn {n : Nat} {w w' : World} {k : Nat} (h : Below n w w') : Below n w (w'.drewN k) := ⟨h.os, h.tape, h.output, h.size, h.block⟩

theorem Boxed.at' (W : World) (t : TypeId) (v : Value) (n : Nat) (hn : n = W.heap.size) : Boxed (W.alloc (.cells #[v] t)) n t v := by subst hn; exact Boxed.new W t v

theorem start (w : World) (xv : Value) (p q : Int) : St0 w.heap.size w (W5 w xv p q) w.heap.size (w.heap.size + 1) (w.heap.size + 1 + 1) (w.heap.size + 1 + 1 + 1 + 1) xv p q [] := by
  refine ⟨((((Boxed.new w 22 xv).alloc _).alloc _).alloc _).alloc _, (((Boxed.at' _ 3 _ _ (by simp)).alloc _).alloc _).alloc _, ((Boxed.at' _ 3 _ _ (by simp)).alloc _).alloc _, ⟨w.heap.size + 1 + 1 + 1, 0, Boxed.at' _ 22 _ _ (by simp), ⟨rfl, .inr ⟨w.heap.size + 1 + 1 + 1, 0, #[], rfl, by omega, ?_, Nat.le_refl _, by decide, rfl, rfl⟩⟩, by omega, by omega⟩, ?_⟩
  · have h1 := World.alloc_heap_new (((w.alloc (.cells #[xv] 22)).alloc (.cells #[.int .i64 p] 3)).alloc (.cells #[.int .i64 q] 3)) (.cells #[] 3)
    have h2 := (World.grownBy_alloc ((((w.alloc (.cells #[xv] 22)).alloc (.cells #[.int .i64 p] 3)).alloc (.cells #[.int .i64 q] 3)).alloc (.cells #[] 3)) (.cells #[.slice (some ⟨w.heap.size + 1 + 1 + 1, 0, none⟩) 0 0] 22) none).block (w.heap.size + 1 + 1 + 1) (by simp) (by simp)
    rw [h2]
    simpa using h1
  · repeat (first | exact Below.refl _ _ | refine Below.alloc ?_ (by first | omega | (simp; done) | (simp; omega)) _)

set_option maxRecDepth 100000 in
set_option maxHeartbeats 2000000 in
theorem walk6_none (a0 : Option Addr) (len cap : Nat) (n : Int) (w : World) (hl : len ≤ 1024) (hn : n ≤ 0) :
    Calls Yba.prog 6 #[.slice a0 len cap, .int .i64 n] w fun e w' => e = .returned (.bool true) ∧ Below w.heap.size w w' := by
  have hd : decide (1024 < (len : Int)) = false := by simp; omega
  have hd2 : decide (0 < n) = false := by simp; omega
  have HN : Hid (n ≤ 0) := hn
  clear hn
  go_enter Yba.func6, Yba.ntmps6
  go_wp2_with fail
  refine (lim17 _ _ _ n _).mono ?_
  rintro e w' ⟨rfl, rfl⟩
  go_wp2_with fail
  refine (lim25_none _ _ _ n _ (by simp [go_sem]) HN.out).mono ?_
  rintro e w' ⟨rfl, hb⟩
  have h1 := (start w (.slice a0 len cap) 0 0).later (((Below.refl _ _).alloc (Nat.le_refl _) (.cells #[s16 (w.heap.size + 1) w.heap.size (w.heap.size + 1 + 1)] 41)).alloc (by simp) (.cells #[.int .i64 n] 3))
  have h2 := h1.later hb
  clear h1 hb
  have c0 := h2.p.cell
  have c1 := h2.q.cell
  obtain ⟨g, c, hbo, _⟩ := h2.o
  have c2 := hbo.cell
  have HB : Hid (Below w.heap.size w w') := h2.bel
  clear hbo h2
  simp only [List.length_nil] at c2
  go_wp2_with fail
  refine wp_loop_rounds 1 ?_
  rw [rounds_succ]
  go_wp2_with fail
  go_ret
  exact ⟨rfl, HB.out⟩

set_option maxRecDepth 100000 in
set_option maxHeartbeats 2000000 in
theorem walk6_some (a0 : Option Addr) (len cap n m : Nat) (zs : List Int) (w : World) (hl : len ≤ 1024) (hn : 0 < n) (hbig : (n : Int) < 9223372036854775808) (hS : Src w.heap.size w a0 len zs) (hm : m = if n < len then n else len) :
    Calls Yba.prog 6 #[.slice a0 len cap, .int .i64 n] w fun e w' => e = .returned (.bool true) ∧ Below w.heap.size w w' := by
  have hd : decide (1024 < (len : Int)) = false := by simp; omega
  have hd2 : decide (0 < (n : Int)) = true := by simp; omega
  have HSrc : Hid (Src w.heap.size w a0 len zs) := hS
  have HM : Hid (m = if n < len then n else len) := hm
  have HI : Hid (0 < n ∧ len ≤ 1024 ∧ (n : Int) < 9223372036854775808) := ⟨hn, hl, hbig⟩
  have hml : m ≤ len := by rw [hm]; split <;> omega
  have HZ : Hid (m ≤ zs.length) := by have := hS.1; rw [Hid]; omega
  have hmI : (if (n : Int) < (len : Int) then (n : Int) else len) = m := by rw [hm]; split <;> split <;> omega
  obtain ⟨k, hk⟩ : ∃ k : Int, k = n := ⟨_, rfl⟩
  rw [← hk] at hd2 hmI ⊢
  have HK : Hid (k = n) := hk
  clear hS hm hn hbig hk
  go_enter Yba.func6, Yba.ntmps6
  go_wp2_with fail
  refine (lim17 _ _ _ k _).mono ?_
  rintro e w' ⟨rfl, rfl⟩
  go_wp2_with fail
  have h1 := (start w (.slice a0 len cap) 0 0).later (((Below.refl _ _).alloc (Nat.le_refl _) (.cells #[s16 (w.heap.size + 1) w.heap.size (w.heap.size + 1 + 1)] 41)).alloc (by simp) (.cells #[.int .i64 k] 3))
  obtain ⟨i1, i2, i3⟩ := HI.out
  refine (lim25 w.heap.size w _ w.heap.size (w.heap.size + 1) (w.heap.size + 1 + 1) (w.heap.size + 1 + 1 + 1 + 1) _ _ a0 len cap n m zs (Nat.le_refl _) (by omega) (by omega) (by omega) HSrc.out i1 i2 i3 HM.out h1 (by rw [HK.out]; simp [go_sem]) (by simp [go_sem])).mono ?_
  rintro e w' ⟨rfl, h2⟩
  clear h1
  have c0 := h2.p.cell
  have c1 := h2.q.cell
  have c3 := h2.x.cell
  have HS2 : Hid (St0 w.heap.size w w' w.heap.size (w.heap.size + 1) (w.heap.size + 1 + 1) (w.heap.size + 1 + 1 + 1 + 1) (.slice a0 len cap) 1 m (zs.take m)) := h2
  obtain ⟨g, c, hbo, hr, _⟩ := h2.o
  have hlm : (zs.take m).length = m := by rw [List.length_take]; exact Nat.min_eq_left HZ.out
  rw [hlm] at hbo hr
  have c2 := hbo.cell
  have HR : Hid (w'.ownsRow w.heap.size 3 1 (.slice (some ⟨g, 0, none⟩) m c) m (ints (zs.take m))) := hr
  clear hbo h2 hr hlm i1 i2 i3
  by_cases hkl : k < (len : Int)
  · have hkm : k = m := by rw [if_pos hkl] at hmI; exact hmI
    have hd3 : decide ((m : Int) < (len : Int)) = true := by rw [← hkm]; simpa using hkl
    have t1 : decide (0 < m) = true := by rw [hkm] at hd2; simpa using hd2
    have t2 : decide (m < len) = true := by simpa using hd3
    clear hmI hkl
    subst hkm
    clear hd2 hd3
    go_wp2_with fail
    go_loopw [11] (fun t wr => ∃ j : Nat, t = .int .i64 j ∧ j ≤ m ∧ Below w'.heap.size w' wr) (fun t _ => m - (intOf t).toNat)
    case atStart => exact ⟨0, rfl, Nat.zero_le _, Below.refl _ _⟩
    case round =>
      obtain ⟨j, rfl, hj, hB⟩ := hrel
      have HBw : Hid (Below w'.heap.size w' wr) := hB
      have k2 := cell_later hB c2
      have k3 := cell_later hB c3
      by_cases hjm : j < m
      · obtain ⟨hzl, h0 | ⟨x, rfl, hx⟩⟩ := HSrc.out
        · omega
        · have e1 := hx _ (HS2.out.bel.trans (hB.mono HS2.out.size)) j (by omega)
          have e2 : wr.cell? ⟨g, j, none⟩ = some (.int .i64 (zs.getD j 0)) := by
            have := cell_later hB (own_cell HR.out hjm)
            rw [show (zs.take m).getD j 0 = zs.getD j 0 by simp [List.getD, List.getElem?_take_of_lt hjm]] at this
            exact this
          have q1 : decide (j < m) = true := by simpa using hjm
          have q2 : (j : Int) < (m : Int) := by omega
          have q3 : (j : Int) < (len : Int) := by omega
          clear hx hB
          go_wp2_with fail
          go_quiet (fail)
          have hw1 : wrap64 ((j : Int) + 1) = (j : Int) + 1 := IntWalk.wrap64_in _ (by omega)
          go_wp2_with fail
          refine ⟨⟨j + 1, rfl, hjm, below_dn HBw.out⟩, ?_⟩
          simp only [intOf]
          omega
      · have q1 : decide (j < m) = false := by simpa using hjm
        clear hB
        go_wp2_with fail
        go_ret
        exact ⟨rfl, HS2.out.bel.trans (HBw.out.mono HS2.out.size)⟩
  · have hkm : len = m := by rw [if_neg hkl] at hmI; omega
    have hd3 : decide (k < (len : Int)) = false := by simpa using hkl
    clear hmI hkl
    subst hkm
    go_wp2_with fail
    go_loopw [11] (fun t wr => ∃ j : Nat, t = .int .i64 j ∧ j ≤ len ∧ Below w'.heap.size w' wr) (fun t _ => len - (intOf t).toNat)
    case atStart => exact ⟨0, rfl, Nat.zero_le _, Below.refl _ _⟩
    case round =>
      obtain ⟨j, rfl, hj, hB⟩ := hrel
      have HBw : Hid (Below w'.heap.size w' wr) := hB
      have k2 := cell_later hB c2
      have k3 := cell_later hB c3
      by_cases hjm : j < len
      · obtain ⟨hzl, h0 | ⟨x, rfl, hx⟩⟩ := HSrc.out
        · omega
        · have e1 := hx _ (HS2.out.bel.trans (hB.mono HS2.out.size)) j (by omega)
          have e2 : wr.cell? ⟨g, j, none⟩ = some (.int .i64 (zs.getD j 0)) := by
            have := cell_later hB (own_cell HR.out hjm)
            rw [show (zs.take len).getD j 0 = zs.getD j 0 by simp [List.getD, List.getElem?_take_of_lt hjm]] at this
            exact this
          have q1 : decide (j < len) = true := by simpa using hjm
          have q2 : (j : Int) < (len : Int) := by omega
          have q3 : (j : Int) < (len : Int) := by omega
          clear hx hB
          go_wp2_with fail
          go_quiet (fail)
          have hw1 : wrap64 ((j : Int) + 1) = (j : Int) + 1 := IntWalk.wrap64_in _ (by omega)
          go_wp2_with fail
          refine ⟨⟨j + 1, rfl, hjm, below_dn HBw.out⟩, ?_⟩
          simp only [intOf]
          omega
      · have q1 : decide (j < len) = false := by simpa using hjm
        clear hB
        go_wp2_with fail
        go_ret
        exact ⟨rfl, HS2.out.bel.trans (HBw.out.mono HS2.out.size)⟩

/-- The walk of LawS1778CPrefix. -/
theorem walk6 (a0 : Option Addr) (len cap : Nat) (n : Int) (zs : List Int) (w : World) (hw : (Lit.int .i64 n).wf = true) (hS : Src w.heap.size w a0 len zs) :
    Calls Yba.prog 6 #[.slice a0 len cap, .int .i64 n] w fun e w' => e = .returned (.bool true) ∧ Below w.heap.size w w' := by
  by_cases hl : 1024 < len
  · exact walk6_long a0 len cap n w hl
  · by_cases hn : n ≤ 0
    · exact walk6_none a0 len cap n w (by omega) hn
    · have hb : n < 9223372036854775808 := by have := bounds_i64 hw; omega
      have e : n = (n.toNat : Int) := by omega
      rw [e]
      exact walk6_some a0 len cap n.toNat _ zs w (by omega) (by omega) (by omega) hS rfl

/-- The row that the frame gives, as the walks want it. -/
theorem src_of_row {w : World} {a : Option Addr} {len cap : Nat} {zs : List Int}
    (h : (a = none ∧ len = 0 ∧ cap = 0 ∧ zs = []) ∨ ∃ x, a = some x ∧ len ≤ cap ∧ cap ≤ maxLen ∧ zs.length = cap ∧ (∀ i, i < zs.length → w.cell? (x.add i) = some (.int .i64 (zs.getD i 0))) ∧ ∀ n ∈ zs, (Lit.int .i64 n).wf = true) : Src w.heap.size w a len zs := by
  rcases h with ⟨rfl, rfl, rfl, rfl⟩ | ⟨x, rfl, hl, _, hz, hc, _⟩
  · exact ⟨Nat.le_refl _, .inl ⟨rfl, rfl⟩⟩
  · refine ⟨by omega, .inr ⟨x, rfl, fun wr hb i hi => ?_⟩⟩
    have h1 := hc i (by omega)
    exact (hb.cell (World.block_lt_of_cell? _ _ h1)).trans h1
end Go.Proofs.Ybulkajuk.C
