import Derived.Test.YbulkajsuKeep
namespace Go.Proofs.Ybulkajsu.C
open Go.RowKit

theorem Ents.turn {w w' : World} {c bm g : Nat} {es : Es} (h : Ents w c es) (ht : Turn w w' bm g) (h1 : c ≠ bm) (h2 : c ≠ g) : Ents w' c es :=
  fun j hj => ⟨ht.cell (h j hj).1 h1 h2, ht.cell (h j hj).2 h1 h2⟩
theorem Curs.turn {w w' : World} {b bm g : Nat} {d : Int} {p : Option Addr} (h : Curs w b d p) (ht : Turn w w' bm g) (h1 : b ≠ bm) (h2 : b ≠ g) : Curs w' b d p :=
  ⟨ht.cell h.depth h1 h2, ht.frozen h.path h.fd h1 h2, ht.cell h.path h1 h2, ht.frozen h.path h.fp h1 h2⟩
theorem Mrg.other {w : World} {bm g cap b o : Nat} {L : Es} {v : Value} (h : Mrg w bm g cap L) (h1 : bm ≠ b) (h2 : g ≠ b) : Mrg (w.setCell ⟨b, o, none⟩ v) bm g cap L := by
  refine ⟨(cell_set_ne h1).trans h.box, by rw [World.frozen?_setCell]; exact h.fz, ⟨h.row.1, ?_⟩, h.ne⟩
  rcases h.row.2 with ⟨h0, _⟩ | ⟨g', cap', cur, hv, hb', hc, r⟩
  · cases h0
  · refine .inr ⟨g', cap', cur, hv, hb', ?_, r⟩
    simp at hv
    rw [Below.heap_setCell _ _ _ _ (by rw [← hv.1]; exact h2)]
    exact hc
theorem Mrg.draws {w : World} {bm g cap q : Nat} {L : Es} (h : Mrg w bm g cap L) : Mrg (w.drewN q) bm g cap L := h.turn0 ⟨rfl, rfl, rfl, Nat.le_refl _, fun _ _ => rfl⟩
abbrev keepF (bm : Nat) : Value := .func (.func 52) #[] #[.pointer (some ⟨bm, 0, none⟩)]

theorem run_eql_func (w : World) (bm : Nat) : (binOp .eql 60 (keepF bm) .nilFunc).run Yba.prog w = .ok (.bool false) w := by kernel_rfl

set_option maxRecDepth 100000 in
set_option maxHeartbeats 1000000 in
/-- 'drain' with nothing left. -/
theorem drain_none (b bm : Nat) (a : Option Addr) (cap : Nat) (w : World) :
    Calls Yba.prog 60 #[.pointer (some ⟨b, 0, none⟩), .slice a 0 cap, keepF bm] w fun e w' => e = .returned (.bool true) ∧ w = w' := by
  have hq := run_eql_func
  go_enter Yba.func60, Yba.ntmps60
  go_wp2_with fail
  refine wp_loop_rounds 1 ?_
  rw [rounds_succ]
  go_wp2_with fail
  go_ret
  exact ⟨rfl, rfl⟩

set_option maxRecDepth 100000 in
set_option maxHeartbeats 1000000 in
/-- 'drain' of the members from place i on. -/
theorem drain_some (b bm g cap c n i ccap gn : Nat) (es L : Es) (w : World) (hM : Mrg w bm g cap L) (hroom : L.length + (n - i) ≤ cap) (hE : Ents w c es) (hn : es.length = n) (hi : i < n) (hn31 : n ≤ 31)
    (hC : Curs w b 1 (some ⟨gn, 0, none⟩)) (hr : w.cell? ⟨gn, 2, none⟩ = some (.pointer none)) (hb1 : b ≠ bm) (hb2 : b ≠ g) (hc1 : c ≠ bm) (hc2 : c ≠ g) (hg1 : gn ≠ bm) (hg2 : gn ≠ g) (hgb : gn ≠ b) (hcb : c ≠ b) (hbb : bm ≠ b) (hgb2 : g ≠ b) :
    Calls Yba.prog 60 #[.pointer (some ⟨b, 0, none⟩), .slice (some ⟨c, i * 2, none⟩) (n - i) ccap, keepF bm] w fun e w' => e = .returned (.bool true) ∧ Mrg w' bm g cap (L ++ es.drop i) ∧ ∀ B, B ≤ bm → B ≤ g → B ≤ b → B ≤ w.heap.size → Below B w w' := by
  have hq := run_eql_func
  have HM : Hid (Mrg w bm g cap L) := hM
  have HE : Hid (Ents w c es) := hE
  have HC : Hid (Curs w b 1 (some ⟨gn, 0, none⟩)) := hC
  have HN : Hid (es.length = n) := hn
  have HR : Hid (L.length + (n - i) ≤ cap) := hroom
  have hpos : decide (0 < n - i) = true := decide_eq_true (by omega)
  clear hM hE hC hn hroom
  obtain ⟨m, hm⟩ : ∃ m, n - i = m := ⟨_, rfl⟩
  rw [hm] at hpos ⊢
  have HMm : Hid (n - i = m) := hm
  clear hm
  go_enter Yba.func60, Yba.ntmps60
  go_wp2_with fail
  refine wp_loop_rounds 2 ?_
  rw [rounds_succ]
  go_wp2_with fail
  go_loopw [18] (fun t wr => ∃ j : Nat, t = .int .i64 j ∧ j ≤ m ∧ Mrg wr bm g cap (L ++ (es.drop i).take j) ∧ Turn w wr bm g) (fun t _ => m - (intOf t).toNat)
  case atStart => exact ⟨0, rfl, Nat.zero_le _, by simpa using HM.out, Turn.refl _ _ _⟩
  case round =>
    obtain ⟨j, rfl, hj, hMj, hTj⟩ := hrel
    have HMj : Hid (Mrg wr bm g cap (L ++ (es.drop i).take j)) := hMj
    have HTj : Hid (Turn w wr bm g) := hTj
    clear hMj hTj
    by_cases hjm : j < m
    · have hij : i + j < es.length := by rw [HN.out]; have := HMm.out; omega
      obtain ⟨e0, e1⟩ := (HE.out.turn HTj.out hc1 hc2) (i + j) hij
      rw [Nat.add_mul] at e0 e1
      have Hstep : Hid (L ++ (es.drop i).take j ++ [es.getD (i + j) (0, 0)] = L ++ (es.drop i).take (j + 1)) := by
        rw [Hid, List.append_assoc, List.take_succ_eq_append_getElem (by rw [List.length_drop]; omega)]
        simp [List.getElem?_eq_getElem hij]
      have Hroom : Hid ((L ++ (es.drop i).take j).length + 1 ≤ cap) := by
        rw [Hid, List.length_append, List.length_take, List.length_drop, HN.out]
        have h1 := HR.out
        have h2 := HMm.out
        omega
      generalize es.getD (i + j) (0, 0) = e at e0 e1 Hstep
      obtain ⟨kk, y⟩ := e
      simp only at e0 e1
      have hji : (j : Int) < (m : Int) := by omega
      have HJ : Hid (j + 1 ≤ m) := hjm
      clear hij
      go_wp2_with (first | (go_at_call 52; refine (keep_any bm g cap kk y _ _ (HMj.out.turn0 ((Below.refl _ _).alloc (Nat.le_refl _) _)) Hroom.out).mono ?_; rw [Hstep.out]; rintro e w3 ⟨rfl, hM3, ht3⟩))
      have h1 := HJ.out
      have h4 : m ≤ 31 := by have := HMm.out; omega
      have hw : wrap64 ((j : Int) + 1) = ((j + 1 : Nat) : Int) := by rw [IntWalk.wrap64_in _ (by omega)]; omega
      rw [hw]
      refine ⟨⟨j + 1, rfl, h1, hM3, HTj.out.trans ((Turn.of_below ((Below.refl _ _).alloc (Nat.le_refl _) _)).trans ht3)⟩, ?_⟩
      simp only [intOf, Int.toNat_natCast]
      omega
    · have hCj : Curs wr b 1 (some ⟨gn, 0, none⟩) := HC.out.turn HTj.out hb1 hb2
      have hrj : wr.cell? ⟨gn, 2, none⟩ = some (.pointer none) := HTj.out.cell hr hg1 hg2
      have HCj : Hid (Curs wr b 1 (some ⟨gn, 0, none⟩)) := hCj
      clear hCj
      go_wp2_with (first | (go_at_call 59; refine (next_one b gn _ HCj.out hrj hgb).mono ?_; rintro e w3 ⟨rfl, q, hw3⟩))
      have Hfin : Hid (Mrg wr bm g cap (L ++ es.drop i)) := by
        have e : (es.drop i).take j = es.drop i := List.take_of_length_le (by rw [List.length_drop, HN.out]; have := HMm.out; omega)
        have := HMj.out
        rw [e] at this
        exact this
      have HW3 : Hid (_) := hw3
      clear hw3
      rw [rounds_succ]
      go_wp2_with fail
      go_ret
      refine ⟨rfl, ?_, fun B h1 h2 h3 h4 => ?_⟩
      · (try rw [HW3.out])
        exact (Hfin.out.other hbb hgb2).draws
      · (try rw [HW3.out])
        exact below_dn (((HTj.out.below h1 h2 h4)).setCell (p := ⟨b, 104, none⟩) h3 _)
end Go.Proofs.Ybulkajsu.C
