import Derived.Test.YbulkajsuMembers
namespace Go.Proofs.Ybulkajsu.C
open Go.RowKit

theorem Mrg.ents {w : World} {bm g cap : Nat} {L : Es} (h : Mrg w bm g cap L) : Ents w g L := by
  rcases h.row.2 with ⟨h0, _⟩ | ⟨g', c', cur, hv, _, hc, _, _, _, htk⟩
  · cases h0
  · simp at hv
    obtain ⟨rfl, rfl⟩ := hv
    exact Ents.of_block (L := cur.toList) (by simpa using hc) htk
theorem Mrg.room {w : World} {bm g cap : Nat} {L : Es} (h : Mrg w bm g cap L) : L.length ≤ cap := by
  rcases h.row.2 with ⟨h0, _⟩ | ⟨g', c', cur, hv, _, hc, hl, _⟩
  · cases h0
  · simp at hv
    omega
theorem ins_len (es : Es) (r : Nat) (d : Int) : 0 < (ins es r d).length := by
  unfold ins
  split
  · rename_i h
    rw [List.length_set]
    obtain ⟨k, hk, _⟩ := (has_iff es r).1 h
    omega
  · simp
    omega

set_option maxRecDepth 100000 in
set_option maxHeartbeats 2000000 in
theorem merge30 (ga gb c cx c2 cy n r : Nat) (d : Int) (es : Es) (w : World) (hA : Node w ga c cx es) (hG : Node w gb c2 cy [(r, d)]) (hne : ga ≠ gb) (ha : Asc es) (hr : r < 4) (hn : es.length = n) (hn4 : n ≤ 4) (hpos : 0 < n)
    (hd : ∀ k, k < n → (es.getD k (0, 0)).1 = r → (es.getD k (0, 0)).2 < d) :
    Calls Yba.prog 30 #[.agg #[.pointer (some ⟨ga, 0, none⟩)], .agg #[.pointer (some ⟨gb, 0, none⟩)], .func (.func 22) #[] #[]] w fun e w' => ∃ root, e = .returned (.agg #[.pointer root]) ∧ Tree w' root (ins es r d) ∧ Below w.heap.size w w' := by
  have bel3 : Below w.heap.size w (((w.alloc (.cells #[.pointer (some ⟨ga, 0, none⟩)] 36)).alloc (.cells #[.pointer (some ⟨gb, 0, none⟩)] 36)).alloc (.cells #[.pointer none] 36)) := by
    repeat (first | exact Below.refl _ _ | refine Below.alloc ?_ (by first | omega | (simp; done) | (simp; omega)) _)
  have HA : Hid (Node w ga c cx es) := hA
  have HG : Hid (Node w gb c2 cy [(r, d)]) := hG
  have HAsc : Hid (Asc es) := ha
  have HN : Hid (es.length = n) := hn
  have HD : Hid (∀ k, k < n → (es.getD k (0, 0)).1 = r → (es.getD k (0, 0)).2 < d) := hd
  have c6 : (((w.alloc (.cells #[.pointer (some ⟨ga, 0, none⟩)] 36)).alloc (.cells #[.pointer (some ⟨gb, 0, none⟩)] 36)).alloc (.cells #[.pointer none] 36)).cell? ⟨w.heap.size + 1 + 1, 0, none⟩ = some (.pointer none) := by simp [go_sem]
  have f6 : (((w.alloc (.cells #[.pointer (some ⟨ga, 0, none⟩)] 36)).alloc (.cells #[.pointer (some ⟨gb, 0, none⟩)] 36)).alloc (.cells #[.pointer none] 36)).frozen? ⟨w.heap.size + 1 + 1, 0, none⟩ = false := by simp [go_sem]
  have HC : Hid (_ ∧ _) := ⟨c6, f6⟩
  have HI : Hid (0 < (ins es r d).length) := ins_len es r d
  have Hb3 : Hid (_) := bel3
  clear hA hG ha hd c6 f6 bel3 hn
  go_enter Yba.func30, Yba.ntmps30
  go_wp2_with fail
  refine (mergeM ga gb c cx c2 cy n r d es _ (HA.out.below Hb3.out) (HG.out.below Hb3.out) hne HAsc.out hr HN.out hn4 hpos HD.out).mono ?_
  rintro e w1 ⟨bm, g, rfl, hM, hg, hb1⟩
  have d0 := cell_later hb1 HC.out.1
  have d1 : w1.frozen? ⟨w.heap.size + 1 + 1, 0, none⟩ = false := (hb1.frozen (p := ⟨w.heap.size + 1 + 1, 0, none⟩) (by simp)).trans HC.out.2
  have HMr : Hid (Mrg w1 bm g (n + 1) (ins es r d)) := hM
  have hsz : w.heap.size + 1 + 1 + 1 ≤ w1.heap.size := by have := hb1.size; simp at this; omega
  have Hb1 : Hid (_) := hb1
  clear hM hb1 HC
  have hroom := HMr.out.room
  have hposL := HI.out
  generalize hL : (ins es r d).length = L at hroom hposL
  go_wp2_with fail
  refine (newTree_one g L (n + 1) w1 hposL (by omega) hroom).mono ?_
  rintro e w2 ⟨gn, rfl, hgn, hb2, k0, k1, k2, k3, k4⟩
  have e0 := cell_later hb2 d0
  have e1 : w2.frozen? ⟨w.heap.size + 1 + 1, 0, none⟩ = false := (hb2.frozen (p := ⟨w.heap.size + 1 + 1, 0, none⟩) (by show w.heap.size + 1 + 1 < w1.heap.size; omega)).trans d1
  have hN : Node w2 gn g L (ins es r d) := ⟨by rw [hL]; exact k0, k1, k2, by rw [hL]; exact k3, k4, HMr.out.ents.below hb2, by rw [hL]; exact Nat.le_refl _⟩
  have HNn : Hid (Node w2 gn g L (ins es r d)) := hN
  have Hb2 : Hid (Below w1.heap.size w1 w2) := hb2
  clear hN hb2 k0 k1 k2 k3 k4
  have n1 : gn ≠ w.heap.size + 1 + 1 := by omega
  go_wp2_with fail
  refine bodyPost_ret (v := .agg #[.pointer (some ⟨gn, 0, none⟩)]) (by simp [results, Yba.results30, go_sem, e0]) rfl ⟨_, rfl, .inr ⟨HI.out, gn, g, L, rfl, ?_⟩, ?_⟩
  · have hN := HNn.out
    have ht : Turn w2 (w2.setCell ⟨w.heap.size + 1 + 1, 0, none⟩ (.pointer (some ⟨gn, 0, none⟩))) (w.heap.size + 1 + 1) (w.heap.size + 1 + 1) := (Turn.refl _ _ _).setCell
    have n2 : g ≠ w.heap.size + 1 + 1 := by
      simp at hg
      omega
    exact ⟨ht.cell hN.chunk n1 n1, ht.cell hN.left n1 n1, ht.cell hN.right n1 n1, ht.cell hN.size n1 n1, ht.cell hN.count n1 n1, hN.ents.turn ht n2 n2, hN.room⟩
  · exact (((Hb3.out.trans (Hb1.out.mono (by simp; omega))).trans (Hb2.out.mono (by omega)))).setCell (p := ⟨w.heap.size + 1 + 1, 0, none⟩) (by show w.heap.size ≤ w.heap.size + 1 + 1; omega) _
end Go.Proofs.Ybulkajsu.C
