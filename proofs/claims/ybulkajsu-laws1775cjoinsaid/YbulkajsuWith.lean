import Derived.Test.YbulkajsuInsNew
namespace Go.Proofs.Ybulkajsu.C
open Go.RowKit

/-- A store into a box that holds a pointer turns no tree. -/
theorem Tree.setCell {w : World} {root : Option Addr} {es : Es} {b : Nat} {u : Option Addr} {x : Value} (h : Tree w root es) (hc : w.cell? ⟨b, 0, none⟩ = some (.pointer u)) : Tree (w.setCell ⟨b, 0, none⟩ x) root es := by
  rcases h with h | ⟨hpos, g, c, cap, hr, hN⟩
  · exact .inl h
  · have hg : g ≠ b := by
      rintro rfl
      have := hN.chunk
      rw [hc] at this
      cases this
    have hcb : c ≠ b := by
      rintro rfl
      have := (hN.ents 0 hpos).1
      rw [show 0 * 2 = 0 from rfl, hc] at this
      cases this
    have og : ∀ k, (w.setCell ⟨b, 0, none⟩ x).cell? ⟨g, k, none⟩ = w.cell? ⟨g, k, none⟩ := fun k => World.cell?_setCell_other _ _ _ _ (by simp)
    have oc : ∀ k, (w.setCell ⟨b, 0, none⟩ x).cell? ⟨c, k, none⟩ = w.cell? ⟨c, k, none⟩ := fun k => World.cell?_setCell_other _ _ _ _ (by simp)
    exact .inr ⟨hpos, g, c, cap, hr, by rw [og]; exact hN.chunk, by rw [og]; exact hN.left, by rw [og]; exact hN.right, by rw [og]; exact hN.size, by rw [og]; exact hN.count, fun j hj => by rw [oc, oc]; exact hN.ents j hj, hN.room⟩

def ins (es : Es) (r : Nat) (v : Int) : Es := if has es r then es.set (lo es r) (r, v) else es.take (lo es r) ++ (r, v) :: es.drop (lo es r)

theorem insert_any (r : Nat) (hr : r < 4) (v : Int) (es : Es) (ha : Asc es) (hlen : es.length ≤ 30) (root : Option Addr) (w : World) (hT : Tree w root es) :
    Calls Yba.prog 26 #[.pointer root, .agg #[.string (keyB r), .int .u64 v], both27] w fun e w' =>
      ∃ root', e = .returned (.pointer root') ∧ Tree w' root' (ins es r v) ∧ Below w.heap.size w w' := by
  rcases hT with ⟨rfl, rfl⟩ | ⟨hpos, g, c, cap, rfl, hN⟩
  · exact insert_nil r v w
  · by_cases hh : has es r = true
    · have hl := has_lo ha r
      rw [hh] at hl
      simp only [Bool.true_eq, Bool.and_eq_true, decide_eq_true_eq] at hl
      have hat : es.getD (lo es r) (0, 0) = (r, (at0 es r).2) := by
        show at0 es r = _
        exact Prod.ext hl.2 rfl
      unfold ins
      rw [if_pos hh]
      exact insert_found r g c cap es.length (lo es r) v (at0 es r).2 es w hN.chunk hN.left hN.right hpos (by omega) hN.ents ha rfl hl.1 rfl hh hat hr
    · have hf : has es r = false := by simpa using hh
      unfold ins
      rw [hf, if_neg (by simp)]
      exact insert_new r g c cap es.length (lo es r) v es w hN.chunk hN.left hN.right hN.room hpos (by omega) hN.ents ha rfl (lo_le es r) rfl hf hr

set_option maxRecDepth 100000 in
set_option maxHeartbeats 1000000 in
theorem with_any (r : Nat) (hr : r < 4) (v : Int) (es : Es) (ha : Asc es) (hlen : es.length ≤ 30) (root : Option Addr) (w : World) (hT : Tree w root es) :
    Calls Yba.prog 16 #[.agg #[.pointer root], .agg #[.string (keyB r), .int .u64 v]] w fun e w' =>
      ∃ root', e = .returned (.agg #[.pointer root']) ∧ Tree w' root' (ins es r v) ∧ Below w.heap.size w w' := by
  have HT : Hid (Tree w root es) := hT
  have HA : Hid (Asc es) := ha
  clear hT ha
  go_enter Yba.func16, Yba.ntmps16
  go_wp2_with fail
  refine (insert_any r hr v es HA.out hlen root _ ?_).mono ?_
  · refine HT.out.below ?_
    repeat (first | exact Below.refl _ _ | refine Below.drew ?_ | refine Below.alloc ?_ (by first | omega | (simp; done) | (simp; omega)) _)
  rintro e w1 ⟨root', rfl, hT1, hb⟩
  have HT1 : Hid (Tree w1 root' (ins es r v)) := hT1
  clear hT1
  have hc : w1.cell? ⟨w.heap.size + 1 + 1, 0, none⟩ = some (.pointer none) := (hb.cell (p := ⟨w.heap.size + 1 + 1, 0, none⟩) (by simp)).trans (by simp [go_sem])
  have hf : w1.frozen? ⟨w.heap.size + 1 + 1, 0, none⟩ = false := (hb.frozen (p := ⟨w.heap.size + 1 + 1, 0, none⟩) (by simp)).trans (by simp [go_sem])
  go_wp2_with fail
  exact bodyPost_ret (v := .agg #[.pointer root']) (by simp [results, Yba.results16, go_sem, *]) rfl ⟨root', rfl, HT1.out.setCell hc, (((((Below.refl w.heap.size w).alloc (Nat.le_refl _) _).alloc (by simp) _).alloc (by simp; omega) _).trans (hb.mono (by simp; omega))).setCell (p := ⟨w.heap.size + 1 + 1, 0, none⟩) (by simp; omega) _⟩

/-! ### The entries by the four values -/
def mk (a b c d : Int) : Es := (if a = 0 then [] else [(0, a)]) ++ ((if b = 0 then [] else [(1, b)]) ++ ((if c = 0 then [] else [(2, c)]) ++ (if d = 0 then [] else [(3, d)])))

theorem mk_len (a b c d : Int) : (mk a b c d).length ≤ 4 := by
  unfold mk
  by_cases h0 : a = 0 <;> by_cases h1 : b = 0 <;> by_cases h2 : c = 0 <;> by_cases h3 : d = 0 <;> simp [h0, h1, h2, h3]

theorem asc_of {es : Es} (h : es.Pairwise (fun x y => x.1 < y.1)) (h4 : ∀ e ∈ es, e.1 < 4) : Asc es := by
  constructor
  · intro i j hij hj
    have := List.pairwise_iff_getElem.1 h i j (by omega) hj hij
    simpa [List.getD_eq_getElem?_getD, List.getElem?_eq_getElem hj, List.getElem?_eq_getElem (show i < es.length by omega)] using this
  · intro j hj
    have := h4 es[j] (List.getElem_mem hj)
    simpa [List.getD_eq_getElem?_getD, List.getElem?_eq_getElem hj] using this

theorem mk_asc (a b c d : Int) : Asc (mk a b c d) := by
  apply asc_of <;> unfold mk <;> by_cases h0 : a = 0 <;> by_cases h1 : b = 0 <;> by_cases h2 : c = 0 <;> by_cases h3 : d = 0 <;> simp [h0, h1, h2, h3]

theorem ins_mk (a b c d v : Int) (hv : v ≠ 0) : ins (mk a b c d) 0 v = mk v b c d ∧ ins (mk a b c d) 1 v = mk a v c d ∧ ins (mk a b c d) 2 v = mk a b v d ∧ ins (mk a b c d) 3 v = mk a b c v := by
  unfold ins has lo mk
  by_cases h0 : a = 0 <;> by_cases h1 : b = 0 <;> by_cases h2 : c = 0 <;> by_cases h3 : d = 0 <;> simp [h0, h1, h2, h3, hv]

theorem val_mk (a b c d : Int) : val (mk a b c d) 0 = a ∧ val (mk a b c d) 1 = b ∧ val (mk a b c d) 2 = c ∧ val (mk a b c d) 3 = d := by
  unfold val at0 has lo mk
  by_cases h0 : a = 0 <;> by_cases h1 : b = 0 <;> by_cases h2 : c = 0 <;> by_cases h3 : d = 0 <;> simp [h0, h1, h2, h3]

end Go.Proofs.Ybulkajsu.C
