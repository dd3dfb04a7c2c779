import Derived.Test.YbulkajukMaxInt
namespace Go.Proofs.Ybulkajuk.A
open Go.RowKit C

set_option maxRecDepth 100000 in
theorem seqInt9 (a0 : Option Addr) (len cap bc : Nat) (w : World) :
    Calls Yba.prog 9 #[.slice a0 len cap, .pointer (some ⟨bc, 0, none⟩)] w fun e w' => e = .returned (.func (.func 21) #[] #[.pointer (some ⟨w.heap.size, 0, none⟩), .pointer (some ⟨w.heap.size + 1, 0, none⟩)]) ∧ w' = (w.alloc (.cells #[.slice a0 len cap] 22)).alloc (.cells #[.pointer (some ⟨bc, 0, none⟩)] 27) := by
  go_enter Yba.func9, Yba.ntmps9
  go_wp2_with fail
  go_ret
  exact ⟨rfl, rfl⟩

theorem add0 (x : Addr) : x.add 0 = x := by
  unfold Addr.add
  split <;> simp_all
theorem mx_first (zs : List Int) (h : 0 < zs.length) : mx (zs.take 1) = zs[0]?.getD 0 := by
  cases zs with
  | nil => simp at h
  | cons y r => rfl
theorem mx_take (zs : List Int) (j : Nat) (h : j < zs.length) (h0 : 0 < j) : mx (zs.take (j + 1)) = if mx (zs.take j) < zs[j]?.getD 0 then zs[j]?.getD 0 else mx (zs.take j) := by
  have e := take_step zs j h
  rw [List.getD_eq_getElem?_getD] at e
  rw [← e]
  cases zs with
  | nil => simp at h
  | cons y r =>
    obtain ⟨j, rfl⟩ : ∃ i, j = i + 1 := ⟨j - 1, by omega⟩
    rw [List.take_succ_cons]
    exact mx_snoc y _ _

set_option maxRecDepth 100000 in
set_option maxHeartbeats 2000000 in
theorem walk3_long (a0 : Option Addr) (len cap : Nat) (w : World) (hl : 1024 < len) :
    Calls Yba.prog 3 #[.slice a0 len cap] w fun e w' => e = .returned (.bool true) ∧ Below w.heap.size w w' := by
  have hd : decide (1024 < (len : Int)) = true := by simp; omega
  go_enter Yba.func3, Yba.ntmps3
  go_wp2_with fail
  go_ret
  exact ⟨rfl, Below.refl _ _⟩

abbrev W3 (w : World) (a0 : Option Addr) (len cap : Nat) : World := ((w.alloc (.cells #[.int .i64 0] 3)).alloc (.cells #[.slice a0 len cap] 22)).alloc (.cells #[.pointer (some ⟨w.heap.size, 0, none⟩)] 27)

set_option maxRecDepth 100000 in
set_option maxHeartbeats 2000000 in
theorem walk3_short (a0 : Option Addr) (len cap : Nat) (zs : List Int) (w : World) (hl : len ≤ 1024) (hS : Src w.heap.size w a0 len zs) :
    Calls Yba.prog 3 #[.slice a0 len cap] w fun e w' => e = .returned (.bool true) ∧ Below w.heap.size w w' := by
  have hd : decide (1024 < (len : Int)) = false := by simp; omega
  have HSrc : Hid (Src w.heap.size w a0 len zs) := hS
  have HL : Hid (len ≤ 1024 ∧ len ≤ zs.length) := ⟨hl, hS.1⟩
  clear hS hl
  go_enter Yba.func3, Yba.ntmps3
  go_wp2_with fail
  refine (seqInt9 a0 len cap w.heap.size _).mono ?_
  rintro e w' ⟨rfl, rfl⟩
  go_wp2_with fail
  have b1 : Boxed (W3 w a0 len cap) w.heap.size 3 (.int .i64 0) := ((Boxed.new w 3 _).alloc _).alloc _
  have b2 : Boxed (W3 w a0 len cap) (w.heap.size + 1) 22 (.slice a0 len cap) := (C.Boxed.at' _ 22 _ _ (by simp)).alloc _
  have b3 : Boxed (W3 w a0 len cap) (w.heap.size + 1 + 1) 27 (.pointer (some ⟨w.heap.size, 0, none⟩)) := C.Boxed.at' _ 27 _ _ (by simp)
  have hB : Below w.heap.size w (W3 w a0 len cap) := by
    repeat (first | exact Below.refl _ _ | refine Below.alloc ?_ (by first | omega | (simp; done) | (simp; omega)) _)
  refine (maxInt w.heap.size w (W3 w a0 len cap) w.heap.size (w.heap.size + 1) (w.heap.size + 1 + 1) len cap a0 zs HSrc.out HL.out.1 (Nat.le_refl _) (Nat.le_refl _) (by omega) (by omega) (by simp) b1 b2 b3 hB).mono ?_
  rintro e w1 ⟨rfl, hb, hB1⟩
  have hlt : (zs.take len).length + 0 = len := by rw [List.length_take]; have := HL.out; omega
  rw [hlt] at hb
  have c0 := hb.cell
  have HB : Hid (Below w.heap.size w w1) := hB1
  clear b1 b2 b3 hB hb hB1 hlt
  by_cases h0 : len = 0
  · subst h0
    simp only [List.take_zero, mx, List.isEmpty_nil, Bool.not_true]
    go_wp2_with fail
    go_ret
    exact ⟨by simp, HB.out⟩
  · have hne : (zs.take len).isEmpty = false := by
      rw [List.isEmpty_eq_false_iff]
      intro h
      have h2 := congrArg List.length h
      rw [List.length_take] at h2
      simp only [List.length_nil] at h2
      have h3 := HL.out
      omega
    rw [hne]
    simp only [Bool.not_false]
    have z1 : ¬ (len : Int) = 0 := by omega
    have z2 : ((len : Int) == 0) = false := by simp; omega
    have z3 : ¬ len = 0 := h0
    obtain ⟨hzl, hh | ⟨x, rfl, hx⟩⟩ := HSrc.out
    · exact absurd hh.2 h0
    · have e0 : w1.cell? x = some (.int .i64 (mx (zs.take 1))) := by
        have e1 := hx _ HB.out 0 (by omega)
        rw [mx_first zs (by omega)]
        rw [add0] at e1
        simpa using e1
      have Hx : Hid (∀ wr, Below w.heap.size w wr → ∀ i, i < len → wr.cell? (x.add i) = some (.int .i64 (zs.getD i 0))) := hx
      have hpI : (0 : Int) < (len : Int) := by omega
      obtain ⟨M, hM⟩ : ∃ M, M = mx (zs.take len) := ⟨_, rfl⟩
      rw [← hM]
      have HM : Hid (M = mx (zs.take len)) := hM
      clear hM hx hne
      go_wp2_with fail
      have H1 : Hid (1 ≤ len) := Nat.pos_of_ne_zero h0
      go_loopw [6, 7] (fun t i wr => ∃ j : Nat, i = .int .i64 j ∧ 1 ≤ j ∧ j ≤ len ∧ t = .int .i64 (mx (zs.take j)) ∧ w1 = wr) (fun _ i _ => len - (intOf i).toNat)
      case atStart => exact ⟨1, rfl, Nat.le_refl _, H1.out, rfl, rfl⟩
      case round =>
        obtain ⟨j, rfl, hj1, hj, rfl, rfl⟩ := hrel
        by_cases hjl : j < len
        · have e1 := Hx.out _ HB.out j hjl
          have hjI : (j : Int) < (len : Int) := Int.ofNat_lt.2 hjl
          have q1 : decide (j < len) = true := by simpa using hjl
          have Hmt : Hid (mx (zs.take (j + 1)) = if mx (zs.take j) < zs[j]?.getD 0 then zs[j]?.getD 0 else mx (zs.take j)) := mx_take zs j (by omega) (by omega)
          have hw1 : wrap64 ((j : Int) + 1) = (j : Int) + 1 := wrapk j (by have := HL.out.1; omega)
          have HAr : Hid (1 ≤ j ∧ j < len) := ⟨hj1, hjl⟩
          clear hj1 hj hjl hzl h0 z1 z2 z3
          generalize mx (zs.take j) = m at Hmt ⊢
          by_cases hc : m < zs[j]?.getD 0
          · have hc2 : decide (m < zs[j]?.getD 0) = true := by simpa using hc
            go_wp2_with fail
            rw [hw1]
            refine ⟨⟨j + 1, rfl, by have := HAr.out; omega, HAr.out.2, by rw [Hmt.out, if_pos hc], trivial⟩, meas HAr.out.2⟩
          · have hc2 : decide (m < zs[j]?.getD 0) = false := by simpa using hc
            go_wp2_with fail
            rw [hw1]
            refine ⟨⟨j + 1, rfl, by have := HAr.out; omega, HAr.out.2, by rw [Hmt.out, if_neg hc], trivial⟩, meas HAr.out.2⟩
        · have q1 : decide (j < len) = false := by simpa using hjl
          have ej : j = len := by omega
          subst ej
          have hM := HM.out
          rw [← hM]
          clear hM HM
          go_wp2_with fail
          go_ret
          exact ⟨by simp, HB.out⟩

/-- The walk of LawS1778AInts. -/
theorem walk3 (a0 : Option Addr) (len cap : Nat) (zs : List Int) (w : World) (hS : Src w.heap.size w a0 len zs) :
    Calls Yba.prog 3 #[.slice a0 len cap] w fun e w' => e = .returned (.bool true) ∧ Below w.heap.size w w' := by
  by_cases hl : 1024 < len
  · exact walk3_long a0 len cap w hl
  · exact walk3_short a0 len cap zs w (by omega) hS
end Go.Proofs.Ybulkajuk.A
