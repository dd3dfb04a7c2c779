import Derived.Test.YbulkajukStr
namespace Go.Proofs.Ybulkajuk.S
open Go.RowKit C A

set_option maxRecDepth 100000 in
theorem seqStr11 (a0 : Option Addr) (len cap : Nat) (w : World) :
    Calls Yba.prog 11 #[.slice a0 len cap] w fun e w' => e = .returned (.func (.func 22) #[] #[.pointer (some ⟨w.heap.size, 0, none⟩)]) ∧ w' = w.alloc (.cells #[.slice a0 len cap] 29) := by
  go_enter Yba.func11, Yba.ntmps11
  go_wp2_with fail
  go_ret
  exact ⟨rfl, rfl⟩

set_option maxRecDepth 100000 in
set_option maxHeartbeats 2000000 in
theorem walk4_long (a0 : Option Addr) (len cap : Nat) (w : World) (hl : 1024 < len) :
    Calls Yba.prog 4 #[.slice a0 len cap] w fun e w' => e = .returned (.bool true) ∧ Below w.heap.size w w' := by
  have hd : decide (1024 < (len : Int)) = true := by simp; omega
  go_enter Yba.func4, Yba.ntmps4
  go_wp2_with fail
  go_ret
  exact ⟨rfl, Below.refl _ _⟩

set_option maxRecDepth 100000 in
set_option maxHeartbeats 2000000 in
theorem walk4_short (a0 : Option Addr) (len cap : Nat) (ss : List ByteArray) (w : World) (hl : len ≤ 1024) (hS : SrcS w.heap.size w a0 len ss) :
    Calls Yba.prog 4 #[.slice a0 len cap] w fun e w' => e = .returned (.bool true) ∧ Below w.heap.size w w' := by
  have hd : decide (1024 < (len : Int)) = false := by simp; omega
  have HSrc : Hid (SrcS w.heap.size w a0 len ss) := hS
  have HL : Hid (len ≤ 1024 ∧ len ≤ ss.length) := ⟨hl, hS.1⟩
  clear hS hl
  go_enter Yba.func4, Yba.ntmps4
  go_wp2_with fail
  refine (seqStr11 a0 len cap _).mono ?_
  rintro e w' ⟨rfl, rfl⟩
  go_wp2_with fail
  refine (maxStr w.heap.size w (w.alloc (.cells #[.slice a0 len cap] 29)) w.heap.size len cap a0 ss HSrc.out HL.out.1 (Nat.le_refl _) (Nat.le_refl _) (by simp) (Boxed.new w 29 _) ((Below.refl _ _).alloc (Nat.le_refl _) _)).mono ?_
  rintro e w1 ⟨rfl, hB1⟩
  have HB : Hid (Below w.heap.size w w1) := hB1
  clear hB1
  by_cases h0 : len = 0
  · subst h0
    simp only [List.take_zero, mxs, List.isEmpty_nil, Bool.not_true]
    go_wp2_with fail
    go_ret
    exact ⟨by simp, HB.out⟩
  · have hne : ss.take len ≠ [] := by
      intro h
      have h2 := congrArg List.length h
      rw [List.length_take] at h2
      simp only [List.length_nil] at h2
      have h3 := HL.out
      omega
    have hne2 : (ss.take len).isEmpty = false := by
      rw [List.isEmpty_eq_false_iff]
      exact hne
    rw [hne2]
    simp only [Bool.not_false]
    have z1 : ¬ (len : Int) = 0 := by omega
    have z2 : ((len : Int) == 0) = false := by simp; omega
    have z3 : ¬ len = 0 := h0
    obtain ⟨hzl, hh | ⟨x, rfl, hx⟩⟩ := HSrc.out
    · exact absurd hh.2 h0
    · have Hx : Hid (∀ wr, Below w.heap.size w wr → ∀ i, i < len → wr.cell? (x.add i) = some (.string (ss[i]?.getD ⟨#[]⟩))) := hx
      obtain ⟨sp1, sp2⟩ := mxs_spec hne
      have Hle : Hid (∀ i, i < len → Le (ss[i]?.getD ⟨#[]⟩) (mxs (ss.take len))) := fun i hi => sp1 _ (by
        have h2 : i < ss.length := by omega
        rw [List.mem_take_iff_getElem]
        exact ⟨i, by omega, by simp [List.getElem?_eq_getElem h2]⟩)
      have Hin : Hid (∃ i, i < len ∧ (ss[i]?.getD ⟨#[]⟩).toList = (mxs (ss.take len)).toList) := by
        rw [List.mem_take_iff_getElem] at sp2
        obtain ⟨i, hi, e⟩ := sp2
        have h2 : i < ss.length := by omega
        exact ⟨i, by omega, by rw [← e]; simp [List.getElem?_eq_getElem h2]⟩
      clear sp1 sp2 hx hne hne2
      generalize mxs (ss.take len) = M at Hle Hin ⊢
      go_wp2_with fail
      go_loopw [5, 6] (fun t i wr => ∃ j : Nat, ∃ b : Bool, i = .int .i64 j ∧ j ≤ len ∧ t = .bool b ∧ (b = true ↔ ∃ i, i < j ∧ (ss[i]?.getD ⟨#[]⟩).toList = M.toList) ∧ w1 = wr) (fun _ i _ => len - (intOf i).toNat)
      case atStart => exact ⟨0, false, rfl, Nat.zero_le _, rfl, by simp, rfl⟩
      case round =>
        obtain ⟨j, b, rfl, hj, rfl, hb, rfl⟩ := hrel
        have Hb : Hid (b = true ↔ ∃ i, i < j ∧ (ss[i]?.getD ⟨#[]⟩).toList = M.toList) := hb
        clear hb
        by_cases hjl : j < len
        · have e1 := Hx.out _ HB.out j hjl
          have hle := Hle.out j hjl
          have hjI : (j : Int) < (len : Int) := Int.ofNat_lt.2 hjl
          have q1 : decide (j < len) = true := by simpa using hjl
          have hw1 : wrap64 ((j : Int) + 1) = (j : Int) + 1 := wrapk j (by have := HL.out.1; omega)
          have HAr : Hid (j < len) := hjl
          have Hs : Hid (∀ s, s = ss[j]?.getD ⟨#[]⟩ → ((∃ i, i < j + 1 ∧ (ss[i]?.getD ⟨#[]⟩).toList = M.toList) ↔ (∃ i, i < j ∧ (ss[i]?.getD ⟨#[]⟩).toList = M.toList) ∨ s.toList = M.toList)) := by
            rintro s rfl
            constructor
            · rintro ⟨i, hi, e⟩
              by_cases hij : i = j
              · subst hij; exact .inr e
              · exact .inl ⟨i, by omega, e⟩
            · rintro (⟨i, hi, e⟩ | e)
              · exact ⟨i, by omega, e⟩
              · exact ⟨j, by omega, e⟩
          have hs := Hs.out _ rfl
          clear Hs hj hjl hzl h0 z1 z2 z3
          generalize ss[j]?.getD ⟨#[]⟩ = s at e1 hle hs
          have Hs2 : Hid (_) := hs
          clear hs
          have q2 : (Op.bytesLess s.toList M.toList || s.toList == M.toList) = true := by
            rcases hle with h | h
            · simp [h]
            · simp [h]
          clear hle
          by_cases hE : s.toList = M.toList
          · have q3 : (s.toList == M.toList) = true := by simpa using hE
            go_wp2_with fail
            rw [hw1]
            exact ⟨⟨j + 1, true, rfl, HAr.out, rfl, ⟨fun _ => Hs2.out.2 (.inr hE), fun _ => rfl⟩, trivial⟩, meas HAr.out⟩
          · have q3 : (s.toList == M.toList) = false := by simpa using hE
            have q4 : Op.bytesLess s.toList M.toList = true := by simpa [q3] using q2
            go_wp2_with fail
            rw [hw1]
            exact ⟨⟨j + 1, b, rfl, HAr.out, rfl, ⟨fun h => Hs2.out.2 (.inl (Hb.out.1 h)), fun h => Hb.out.2 ((Hs2.out.1 h).resolve_right hE)⟩, trivial⟩, meas HAr.out⟩
        · have q1 : decide (j < len) = false := by simpa using hjl
          have ej : j = len := by omega
          subst ej
          have hbt : b = true := Hb.out.2 Hin.out
          subst hbt
          go_wp2_with fail
          go_ret
          exact ⟨rfl, HB.out⟩

/-- The walk of LawS1778AStrings. -/
theorem walk4 (a0 : Option Addr) (len cap : Nat) (ss : List ByteArray) (w : World) (hS : SrcS w.heap.size w a0 len ss) :
    Calls Yba.prog 4 #[.slice a0 len cap] w fun e w' => e = .returned (.bool true) ∧ Below w.heap.size w w' := by
  by_cases hl : 1024 < len
  · exact walk4_long a0 len cap w hl
  · exact walk4_short a0 len cap ss w (by omega) hS
end Go.Proofs.Ybulkajuk.S
