import Derived.Test.YbulkajsuUnion
import Derived.Test.YbulkajsuExact
namespace Go.Proofs.Ybulkajsu.C
open Go.RowKit

/-- The length of the tree under a root, for the roots that are met. -/
theorem len_gen (w W : World) (L : Option Addr → Int) (root : Option Addr) (hL : ∃ es, Tree w root es ∧ L root = es.length) (hB : Below w.heap.size w W) :
    Calls Yba.prog 25 #[.agg #[.pointer root]] W fun e w' => e = .returned (.int .i64 (L root)) ∧ w' = W.alloc (.cells #[.pointer root] 36) := by
  obtain ⟨es, hT, hl⟩ := hL
  rw [hl]
  exact len_any root es W (hT.later hB)

def joined (es : Es) (r : Nat) (d x : Int) : Es := if d ≤ x then es else ins es r d

theorem Tree.setPtr {w : World} {root p : Option Addr} {es : Es} {b : Nat} {v : Value} (h : Tree w root es) (hb : w.cell? ⟨b, 0, none⟩ = some (.pointer p)) : Tree (w.setCell ⟨b, 0, none⟩ v) root es := by
  rcases h with h0 | ⟨hp, g, c, cap, hr, hN⟩
  · exact .inl h0
  · have n1 : g ≠ b := by
      rintro rfl
      have := hN.chunk.symm.trans hb
      simp at this
    have n2 : c ≠ b := by
      rintro rfl
      have := (hN.ents 0 hp).1.symm.trans hb
      simp at this
    have ht : Turn w (w.setCell ⟨b, 0, none⟩ v) b b := (Turn.refl _ _ _).setCell
    exact .inr ⟨hp, g, c, cap, hr, ⟨ht.cell hN.chunk n1 n1, ht.cell hN.left n1 n1, ht.cell hN.right n1 n1, ht.cell hN.size n1 n1, ht.cell hN.count n1 n1, hN.ents.turn ht n2 n2, hN.room⟩⟩

abbrev WU (w : World) (ra rb : Option Addr) : World := ((((w.alloc (.cells #[.pointer ra] 36)).alloc (.cells #[.pointer rb] 36)).alloc (.cells #[.pointer none] 36)).alloc (.cells #[.pointer ra] 36)).alloc (.cells #[.pointer rb] 36)

set_option maxRecDepth 100000 in
set_option maxHeartbeats 2000000 in
/-- union where the left tree is empty: the other. -/
theorem union_left (ra rb : Option Addr) (es2 : Es) (L : Option Addr → Int) (w : World) (h1 : Tree w ra []) (h2 : Tree w rb es2) (hLa : L ra = 0) (hLb : L rb = es2.length) :
    Calls Yba.prog 21 #[.agg #[.pointer ra], .agg #[.pointer rb], .func (.func 22) #[] #[]] w fun e w' => e = .returned (.agg #[.pointer rb]) ∧ Below w.heap.size w w' := by
  have T1 : Hid (∃ es, Tree w ra es ∧ L ra = es.length) := ⟨[], h1, by simpa using hLa⟩
  have T2 : Hid (∃ es, Tree w rb es ∧ L rb = es.length) := ⟨es2, h2, hLb⟩
  clear h1 h2
  go_enter Yba.func21, Yba.ntmps21
  go_wp2_with fail
  go_region_held3 (fun w' => w'.cell? ⟨w.heap.size, 0, none⟩ = some (.pointer ra) ∧ w'.cell? ⟨w.heap.size + 1, 0, none⟩ = some (.pointer rb)) ((repeat' apply And.intro) <;> (simp [go_sem]; done))
    (first | (go_at_call 25; refine (len_gen w _ L _ (by first | exact T1.out | exact T2.out) ?_).mono ?_; (focus (repeat (first | exact Below.refl _ _ | refine Below.drew ?_ | refine below_dn ?_ | refine Below.alloc ?_ (by first | omega | (simp; done) | (simp; omega)) _))); rintro e w' ⟨rfl, rfl⟩))
  go_wp2_with fail
  refine bodyPost_ret (v := .agg #[.pointer rb]) (by simp [results, Yba.results21, go_sem]) rfl ⟨rfl, ?_⟩
  repeat (first | exact Below.refl _ _ | refine Below.drew ?_ | refine below_dn ?_ | refine Below.alloc ?_ (by first | omega | (simp; done) | (simp; omega)) _)

set_option maxRecDepth 100000 in
set_option maxHeartbeats 2000000 in
/-- union where the right tree is empty: the left one. -/
theorem union_right (ra rb : Option Addr) (es : Es) (n : Nat) (L : Option Addr → Int) (w : World) (h1 : Tree w ra es) (h2 : Tree w rb []) (hn : es.length = n) (hpos : 0 < n) (hLa : L ra = n) (hLb : L rb = 0) :
    Calls Yba.prog 21 #[.agg #[.pointer ra], .agg #[.pointer rb], .func (.func 22) #[] #[]] w fun e w' => e = .returned (.agg #[.pointer ra]) ∧ Below w.heap.size w w' := by
  have T1 : Hid (∃ es, Tree w ra es ∧ L ra = es.length) := ⟨es, h1, by rw [hn]; exact hLa⟩
  have T2 : Hid (∃ es, Tree w rb es ∧ L rb = es.length) := ⟨[], h2, by simpa using hLb⟩
  have hz : ¬ (n : Int) = 0 := by omega
  have hz2 : ((n : Int) == 0) = false := by simp; omega
  have hz3 : ¬ n = 0 := by omega
  clear h1 h2 hn
  go_enter Yba.func21, Yba.ntmps21
  go_wp2_with fail
  go_region_held3 (fun w' => w'.cell? ⟨w.heap.size, 0, none⟩ = some (.pointer ra) ∧ w'.cell? ⟨w.heap.size + 1, 0, none⟩ = some (.pointer rb)) ((repeat' apply And.intro) <;> (simp [go_sem]; done))
    (first | (go_at_call 25; refine (len_gen w _ L _ (by first | exact T1.out | exact T2.out) ?_).mono ?_; (focus (repeat (first | exact Below.refl _ _ | refine Below.drew ?_ | refine below_dn ?_ | refine Below.alloc ?_ (by first | omega | (simp; done) | (simp; omega)) _))); rintro e w' ⟨rfl, rfl⟩))
  go_wp2_with fail
  refine bodyPost_ret (v := .agg #[.pointer ra]) (by simp [results, Yba.results21, go_sem]) rfl ⟨rfl, ?_⟩
  repeat (first | exact Below.refl _ _ | refine Below.drew ?_ | refine below_dn ?_ | refine Below.alloc ?_ (by first | omega | (simp; done) | (simp; omega)) _)

set_option maxRecDepth 100000 in
set_option maxHeartbeats 2000000 in
/-- union where both hold entries: they are merged. -/
theorem union_both (ga gb c cx c2 cy n r : Nat) (d : Int) (es : Es) (L : Option Addr → Int) (w : World) (hA : Node w ga c cx es) (hG : Node w gb c2 cy [(r, d)]) (hne : ga ≠ gb) (ha : Asc es) (hr : r < 4) (hn : es.length = n) (hn4 : n ≤ 4) (hpos : 0 < n)
    (hd : ∀ k, k < n → (es.getD k (0, 0)).1 = r → (es.getD k (0, 0)).2 < d) (ra rb : Option Addr) (hra : some ⟨ga, 0, none⟩ = ra) (hrb : some ⟨gb, 0, none⟩ = rb) (hLa : L ra = n) (hLb : L rb = 1) :
    Calls Yba.prog 21 #[.agg #[.pointer ra], .agg #[.pointer rb], .func (.func 22) #[] #[]] w fun e w' => ∃ root, e = .returned (.agg #[.pointer root]) ∧ Tree w' root (ins es r d) ∧ Below w.heap.size w w' := by
  have T1 : Hid (∃ es, Tree w ra es ∧ L ra = es.length) := ⟨es, .inr ⟨by omega, ga, c, cx, hra.symm, hA⟩, by rw [hn]; exact hLa⟩
  have T2 : Hid (∃ es, Tree w rb es ∧ L rb = es.length) := ⟨[(r, d)], .inr ⟨by simp, gb, c2, cy, hrb.symm, hG⟩, by simpa using hLb⟩
  have HA : Hid (Node w ga c cx es) := hA
  have HG : Hid (Node w gb c2 cy [(r, d)]) := hG
  have HAsc : Hid (Asc es) := ha
  have HN : Hid (es.length = n) := hn
  have HD : Hid (∀ k, k < n → (es.getD k (0, 0)).1 = r → (es.getD k (0, 0)).2 < d) := hd
  have HRa : Hid (some ⟨ga, 0, none⟩ = ra) := hra
  have HRb : Hid (some ⟨gb, 0, none⟩ = rb) := hrb
  have hz : ¬ (n : Int) = 0 := by omega
  have hz2 : ((n : Int) == 0) = false := by simp; omega
  have hz3 : ¬ n = 0 := by omega
  clear hA hG ha hn hd hra hrb
  go_enter Yba.func21, Yba.ntmps21
  go_wp2_with fail
  go_region_held3 (fun w' => w'.cell? ⟨w.heap.size, 0, none⟩ = some (.pointer ra) ∧ w'.cell? ⟨w.heap.size + 1, 0, none⟩ = some (.pointer rb)) ((repeat' apply And.intro) <;> (simp [go_sem]; done))
    (first | (go_at_call 25; refine (len_gen w _ L _ (by first | exact T1.out | exact T2.out) ?_).mono ?_; (focus (repeat (first | exact Below.refl _ _ | refine Below.drew ?_ | refine below_dn ?_ | refine Below.alloc ?_ (by first | omega | (simp; done) | (simp; omega)) _))); rintro e w' ⟨rfl, rfl⟩))
  go_wp2_with (first | (go_at_call 29; refine (near_yes n 1 (by omega) (by omega) (by omega) (by omega) _).mono ?_; rintro e w' ⟨rfl, rfl⟩))
  have hbU : Below w.heap.size w (WU w ra rb).drew := by
    repeat (first | exact Below.refl _ _ | refine Below.drew ?_ | refine below_dn ?_ | refine Below.alloc ?_ (by first | omega | (simp; done) | (simp; omega)) _)
  have hRa := HRa.out
  have hRb := HRb.out
  subst hRa hRb
  refine (merge30 ga gb c cx c2 cy n r d es _ (HA.out.below hbU) (HG.out.below hbU) hne HAsc.out hr HN.out hn4 hpos HD.out).mono ?_
  rintro e w1 ⟨root, rfl, hT, hb⟩
  have d0 : w1.cell? ⟨w.heap.size + 1 + 1, 0, none⟩ = some (.pointer none) := (hb.cell (p := ⟨w.heap.size + 1 + 1, 0, none⟩) (by simp)).trans (by simp [go_sem])
  have d1 : w1.frozen? ⟨w.heap.size + 1 + 1, 0, none⟩ = false := (hb.frozen (p := ⟨w.heap.size + 1 + 1, 0, none⟩) (by simp)).trans (by simp [go_sem])
  have HT : Hid (Tree w1 root (ins es r d)) := hT
  have Hb : Hid (Below w.heap.size w w1) := hbU.trans (hb.mono (by simp; omega))
  clear hT hb hbU
  go_wp2_with fail
  refine bodyPost_ret (v := .agg #[.pointer root]) (by simp [results, Yba.results21, go_sem, d0]) rfl ⟨root, rfl, HT.out.setPtr d0, Hb.out.setCell (p := ⟨w.heap.size + 1 + 1, 0, none⟩) (by show w.heap.size ≤ w.heap.size + 1 + 1; omega) _⟩

theorem val_at {es : Es} {k r : Nat} (ha : Asc es) (hk : k < es.length) (h : (es.getD k (0, 0)).1 = r) : val es r = (es.getD k (0, 0)).2 := by
  have h1 := lo_eq es k r (Nat.le_of_lt hk) (fun t ht => by have := ha.1 t k ht hk; omega) (asc_from ha (by omega))
  rw [val, if_pos ((has_iff es r).2 ⟨k, hk, h⟩), at0, h1]
theorem keyB_inj {a b : Nat} (ha : a < 4) (hb : b < 4) (h : keyB a = keyB b) : a = b := by
  obtain rfl | rfl | rfl | rfl : a = 0 ∨ a = 1 ∨ a = 2 ∨ a = 3 := by omega
  all_goals (obtain rfl | rfl | rfl | rfl : b = 0 ∨ b = 1 ∨ b = 2 ∨ b = 3 := by omega)
  all_goals first | rfl | (simp [keyB] at h)

/-- The join of a map and of the delta that Merge made of it. -/
theorem union_any (ra rb : Option Addr) (es : Es) (r : Nat) (d x : Int) (w : World) (h1 : Tree w ra es) (h2 : Tree w rb (merged r d x)) (ha : Asc es) (hlen : es.length ≤ 4) (hr : r < 4) (hx : val es r = x) :
    Calls Yba.prog 21 #[.agg #[.pointer ra], .agg #[.pointer rb], .func (.func 22) #[] #[]] w fun e w' => ∃ root, e = .returned (.agg #[.pointer root]) ∧ Tree w' root (joined es r d x) ∧ Below w.heap.size w w' := by
  by_cases hdx : d ≤ x
  · have hm : merged r d x = [] := by rw [merged, if_pos hdx]
    rw [hm] at h2
    have hrb : rb = none := by
      rcases h2 with ⟨_, h⟩ | ⟨hp, _⟩
      · exact h
      · simp at hp
    rw [joined, if_pos hdx]
    rcases h1 with ⟨rfl, rfl⟩ | hh
    · subst hrb
      exact (union_left none none [] (fun _ => 0) w (.inl ⟨rfl, rfl⟩) h2 rfl rfl).mono fun e w' h => ⟨none, h.1, .inl ⟨rfl, rfl⟩, h.2⟩
    · have h1 : Tree w ra es := .inr hh
      obtain ⟨hp, g, c, cap, hra, hN⟩ := hh
      subst hrb
      exact (union_right ra none es es.length (fun q => if q = none then 0 else es.length) w h1 h2 rfl hp (by rw [hra]; rfl) rfl).mono fun e w' h => ⟨ra, h.1, h1.later h.2, h.2⟩
  · have hm : merged r d x = [(r, d)] := by rw [merged, if_neg hdx]
    rw [hm] at h2
    rw [joined, if_neg hdx]
    rcases h1 with ⟨rfl, rfl⟩ | ⟨hp, ga, c, cx, rfl, hA⟩
    · have h3 : ins [] r d = [(r, d)] := by simp [ins, has, lo]
      rw [h3]
      have hrb : rb ≠ none := by
        rcases h2 with ⟨h, _⟩ | ⟨_, g, _, _, h, _⟩
        · cases h
        · rw [h]; simp
      exact (union_left none rb [(r, d)] (fun q => if q = none then 0 else 1) w (.inl ⟨rfl, rfl⟩) h2 rfl (by simp [hrb])).mono fun e w' h => ⟨rb, h.1, h2.later h.2, h.2⟩
    · rcases h2 with ⟨h, _⟩ | ⟨_, gb, c2, cy, rfl, hG⟩
      · cases h
      · have hd : ∀ k, k < es.length → (es.getD k (0, 0)).1 = r → (es.getD k (0, 0)).2 < d := fun k hk h => by
          have := val_at ha hk h
          omega
        have hne : ga ≠ gb := by
          rintro rfl
          have e1 := hA.chunk.symm.trans hG.chunk
          simp at e1
          obtain ⟨rfl, e2, _⟩ := e1
          obtain ⟨p0, p1⟩ := hA.ents 0 hp
          obtain ⟨q0, q1⟩ := hG.ents 0 (by simp)
          have e3 := p0.symm.trans q0
          have e4 := p1.symm.trans q1
          simp at e3 e4
          have h4 := ha.2 0 hp
          have e5 := keyB_inj (by simpa using h4) hr e3
          have := hd 0 hp (by simpa using e5)
          simp at this
          omega
        refine union_both ga gb c cx c2 cy es.length r d es (fun q => if q = some ⟨ga, 0, none⟩ then es.length else 1) w hA hG hne ha hr rfl hlen hp hd _ _ rfl rfl (by simp) ?_
        rw [if_neg]
        intro h
        simp at h
end Go.Proofs.Ybulkajsu.C
