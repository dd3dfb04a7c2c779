import Derived.Test.YbulkajukStr
import Derived.Deep.DeepCutAuto
namespace Go.Proofs.Ybulkajuk.B
open Go.RowKit C

theorem info9 : (Yba.prog.info? 9).map (fun i => (i.zero, i.size, i.bytes)) = some (some (.string ⟨#[]⟩), 1, 16) := by kernel_rfl
abbrev strs (L : List ByteArray) : List Value := L.map Value.string

/-- A variable's box that holds a slice over a row of the run's own. -/
structure Rw (M : Nat) (w : World) (b t e : Nat) (v : Value) (xs : List Value) : Prop where
  box : Boxed w b t v
  own : w.ownsRow M e 1 v xs.length xs
/-- Two rows do not share a block. -/
def Apart (v u : Value) : Prop := ∀ g, v.ownBlock = some g → u.ownBlock ≠ some g
theorem Apart.symm {v u : Value} (h : Apart v u) : Apart u v := fun g h1 h2 => h g h2 h1
theorem own_lt {w : World} {M e n : Nat} {v : Value} {xs : List Value} (h : w.ownsRow M e 1 v n xs) {g : Nat} (hg : v.ownBlock = some g) : M ≤ g ∧ g < w.heap.size := by
  rcases h.2 with ⟨rfl, _⟩ | ⟨g', c, cur, rfl, hb, hc, _⟩
  · simp [Value.ownBlock] at hg
  · simp [Value.ownBlock] at hg
    subst hg
    exact ⟨hb, (Array.getElem?_eq_some_iff.1 hc).1⟩
theorem apart_type {w : World} {M e e' n n' : Nat} {v u : Value} {xs ys : List Value} (h : w.ownsRow M e 1 v n xs) (k : w.ownsRow M e' 1 u n' ys) (hne : e ≠ e') : Apart v u := by
  intro g h1 h2
  rcases h.2 with ⟨rfl, _⟩ | ⟨g1, c, cur, rfl, hb, hc, _⟩
  · simp [Value.ownBlock] at h1
  · rcases k.2 with ⟨rfl, _⟩ | ⟨g2, c2, cur2, rfl, hb2, hc2, _⟩
    · simp [Value.ownBlock] at h2
    · simp [Value.ownBlock] at h1 h2
      subst h1 h2
      rw [hc] at hc2
      simp at hc2
      exact hne hc2.2

/-- Behind 'x = append(x, v)' on one row: what else there was is there. -/
structure Grew (M : Nat) (w w' : World) (b : Nat) (v v' : Value) : Prop where
  box : ∀ {c t : Nat} {u : Value}, Boxed w c t u → c < M → c ≠ b → Boxed w' c t u
  row : ∀ {e n : Nat} {u : Value} {xs : List Value}, w.ownsRow M e 1 u n xs → Apart u v → w'.ownsRow M e 1 u n xs
  apart : ∀ {e n : Nat} {u : Value} {xs : List Value}, w.ownsRow M e 1 u n xs → Apart v u → Apart v' u
  size : w.heap.size ≤ w'.heap.size
  below : ∀ {N : Nat}, N ≤ b → N ≤ M → Below N w w'

theorem grew_of {M : Nat} {w w1 : World} {b e n g' cap' k : Nat} {v : Value} {xs : List Value} {tmp : Obj} (hM : M ≤ w.heap.size) (hb : b < M) (hown : w.ownsRow M e 1 v n xs)
    (hgrow : (w.alloc tmp).grownBy w1 v.ownBlock) (hat : v.ownBlock = some g' ∨ g' = w.heap.size + 1) :
    Grew M w (w1.setCell ⟨b, 0, none⟩ (.slice (some ⟨g', 0, none⟩) k cap')) b v (.slice (some ⟨g', 0, none⟩) k cap') := by
  refine ⟨fun {c t u} hB hc hne => ?_, fun {e n u xs} hr hap => ?_, fun {e n u xs} hr hap => ?_, ?_, fun {N} h1 h2 => ?_⟩
  · exact bset ((hB.alloc tmp).kept hgrow (fun he => by have := (own_lt hown he.symm).1; omega)) hne
  · refine ((hr.alloc tmp).kept hgrow ?_).kept (grownBy_setCell' w1 b _) ?_
    · rcases hr.2 with ⟨rfl, _⟩ | ⟨g, c, cur, rfl, _⟩
      · exact .inl rfl
      · exact .inr (fun h => hap g rfl (by rw [← h]; rfl))
    · rcases hr.2 with ⟨rfl, _⟩ | ⟨g, c, cur, rfl, hg, _⟩
      · exact .inl rfl
      · exact .inr (fun h => by simp [Value.ownBlock] at h; omega)
  · intro g h1 h2
    simp [Value.ownBlock] at h1
    subst h1
    rcases hat with h | h
    · exact hap _ h h2
    · have := (own_lt hr h2).2
      omega
  · have h1 := hgrow.size
    simp at h1
    simp [World.setCell]
    omega
  · refine (((Below.refl N w).alloc (by omega) tmp).grown hgrow (by simp; omega) fun j ej => ?_).setCell (p := ⟨b, 0, none⟩) h1 _
    have := (own_lt hown ej).1
    omega

/-- The run's state. The boxes lie at N .. N + 13; the rows are younger. -/
structure St (N : Nat) (w0 w : World) (kv vv dF yF : Value) (t n p lim : Int) (dk : List Int) (dv : List ByteArray) (ok : List Int) (ov : List ByteArray) (dr : Bool) : Prop where
  k : Boxed w N 22 kv
  v : Boxed w (N + 1) 29 vv
  t : Boxed w (N + 2) 3 (.int .i64 t)
  n : Boxed w (N + 3) 3 (.int .i64 n)
  p : Boxed w (N + 4) 3 (.int .i64 p)
  lim : Boxed w (N + 7) 3 (.int .i64 lim)
  d : Boxed w (N + 11) 35 dF
  y : Boxed w (N + 12) 35 yF
  r : Boxed w (N + 13) 4 (.bool dr)
  rows : ∃ v1 v2 v3 v4, Rw (N + 14) w (N + 5) 22 3 v1 (ints dk) ∧ Rw (N + 14) w (N + 6) 29 9 v2 (strs dv) ∧ Rw (N + 14) w (N + 8) 22 3 v3 (ints ok) ∧ Rw (N + 14) w (N + 9) 29 9 v4 (strs ov) ∧ Apart v1 v3 ∧ Apart v2 v4
  bel : Below N w0 w
  size : N + 14 ≤ w.heap.size

section
variable {N : Nat} {w0 w : World} {kv vv dF yF : Value} {t n p lim : Int} {dk ok : List Int} {dv ov : List ByteArray} {dr : Bool}
theorem rw_set {M b c t e : Nat} {v u : Value} {xs : List Value} (h : Rw M w b t e v xs) (hc : c < M) (hne : b ≠ c) : Rw M (w.setCell ⟨c, 0, none⟩ u) b t e v xs := by
  refine ⟨bset h.box hne, h.own.kept (grownBy_setCell' w c u) ?_⟩
  rcases h.own.2 with ⟨rfl, _⟩ | ⟨g, c', cur, rfl, hg, _⟩
  · exact .inl rfl
  · exact .inr (fun h => by simp [Value.ownBlock] at h; omega)
theorem St.setP (h : St N w0 w kv vv dF yF t n p lim dk dv ok ov dr) (p' : Int) : St N w0 (w.setCell ⟨N + 4, 0, none⟩ (.int .i64 p')) kv vv dF yF t n p' lim dk dv ok ov dr := by
  obtain ⟨v1, v2, v3, v4, r1, r2, r3, r4, a1, a2⟩ := h.rows
  exact ⟨bset h.k (by omega), bset h.v (by omega), bset h.t (by omega), bset h.n (by omega), h.p.set _, bset h.lim (by omega), bset h.d (by omega), bset h.y (by omega), bset h.r (by omega), ⟨v1, v2, v3, v4, rw_set r1 (by omega) (by omega), rw_set r2 (by omega) (by omega), rw_set r3 (by omega) (by omega), rw_set r4 (by omega) (by omega), a1, a2⟩, h.bel.setCell (p := ⟨N + 4, 0, none⟩) (by show N ≤ N + 4; omega) _, by simpa [World.setCell] using h.size⟩
theorem St.setR (h : St N w0 w kv vv dF yF t n p lim dk dv ok ov dr) (b : Bool) : St N w0 (w.setCell ⟨N + 13, 0, none⟩ (.bool b)) kv vv dF yF t n p lim dk dv ok ov b := by
  obtain ⟨v1, v2, v3, v4, r1, r2, r3, r4, a1, a2⟩ := h.rows
  exact ⟨bset h.k (by omega), bset h.v (by omega), bset h.t (by omega), bset h.n (by omega), bset h.p (by omega), bset h.lim (by omega), bset h.d (by omega), bset h.y (by omega), h.r.set _, ⟨v1, v2, v3, v4, rw_set r1 (by omega) (by omega), rw_set r2 (by omega) (by omega), rw_set r3 (by omega) (by omega), rw_set r4 (by omega) (by omega), a1, a2⟩, h.bel.setCell (p := ⟨N + 13, 0, none⟩) (by show N ≤ N + 13; omega) _, by simpa [World.setCell] using h.size⟩

theorem St.row1 (h : St N w0 w kv vv dF yF t n p lim dk dv ok ov dr) : ∃ v1, Boxed w (N + 5) 22 v1 ∧ w.ownsRow (N + 14) 3 1 v1 dk.length (ints dk) ∧
    ∀ (w1 : World) (g' cap' : Nat) (x : Int) (tmp : Obj), w1.ownsRow (N + 14) 3 1 (.slice (some ⟨g', 0, none⟩) (dk.length + 1) cap') (dk.length + 1) (ints dk ++ [.int .i64 x]) → (w.alloc tmp).grownBy w1 v1.ownBlock → (v1.ownBlock = some g' ∨ g' = w.heap.size + 1) →
      St N w0 (w1.setCell ⟨N + 5, 0, none⟩ (.slice (some ⟨g', 0, none⟩) (dk.length + 1) cap')) kv vv dF yF t n p lim (dk ++ [x]) dv ok ov dr := by
  obtain ⟨v1, v2, v3, v4, r1, r2, r3, r4, a1, a2⟩ := h.rows
  have hl0 : (ints dk).length = dk.length := by simp
  have ow := r1.own
  rw [hl0] at ow
  refine ⟨v1, r1.box, ow, fun w1 g' cap' x tmp hown hgrow hat => ?_⟩
  have gr : Grew (N + 14) w (w1.setCell ⟨N + 5, 0, none⟩ (.slice (some ⟨g', 0, none⟩) (dk.length + 1) cap')) (N + 5) v1 (.slice (some ⟨g', 0, none⟩) (dk.length + 1) cap') := grew_of h.size (by omega) ow hgrow hat
  have hB1 : Boxed w1 (N + 5) 22 v1 := (r1.box.alloc tmp).kept hgrow (r1.box.not_row (by decide) ow)
  have k2 : Boxed (w1.setCell ⟨N + 5, 0, none⟩ (.slice (some ⟨g', 0, none⟩) (dk.length + 1) cap')) (N + 5) 22 (.slice (some ⟨g', 0, none⟩) (dk.length + 1) cap') := hB1.set _
  have k3 : (w1.setCell ⟨N + 5, 0, none⟩ (.slice (some ⟨g', 0, none⟩) (dk.length + 1) cap')).ownsRow (N + 14) 3 1 (.slice (some ⟨g', 0, none⟩) (dk.length + 1) cap') (dk.length + 1) (ints dk ++ [.int .i64 x]) := hown.kept (grownBy_setCell' w1 (N + 5) _) (.inr (hB1.not_row (by decide) hown).symm)
  have hmap : ints (dk ++ [x]) = ints dk ++ [.int .i64 x] := by simp [ints]
  have hlen : (ints dk ++ [Value.int .i64 x]).length = dk.length + 1 := by simp
  exact ⟨gr.box h.k (by omega) (by omega), gr.box h.v (by omega) (by omega), gr.box h.t (by omega) (by omega), gr.box h.n (by omega) (by omega), gr.box h.p (by omega) (by omega), gr.box h.lim (by omega) (by omega), gr.box h.d (by omega) (by omega), gr.box h.y (by omega) (by omega), gr.box h.r (by omega) (by omega),
    ⟨(.slice (some ⟨g', 0, none⟩) (dk.length + 1) cap'), v2, v3, v4, ⟨k2, by rw [hmap, hlen]; exact k3⟩, ⟨gr.box r2.box (by omega) (by omega), gr.row r2.own (apart_type r2.own r1.own (by decide))⟩, ⟨gr.box r3.box (by omega) (by omega), gr.row r3.own (a1.symm)⟩, ⟨gr.box r4.box (by omega) (by omega), gr.row r4.own (apart_type r4.own r1.own (by decide))⟩, gr.apart r3.own a1, a2⟩, h.bel.trans (gr.below (by omega) (by omega)), Nat.le_trans h.size gr.size⟩

theorem St.row2 (h : St N w0 w kv vv dF yF t n p lim dk dv ok ov dr) : ∃ v2, Boxed w (N + 6) 29 v2 ∧ w.ownsRow (N + 14) 9 1 v2 dv.length (strs dv) ∧
    ∀ (w1 : World) (g' cap' : Nat) (x : ByteArray) (tmp : Obj), w1.ownsRow (N + 14) 9 1 (.slice (some ⟨g', 0, none⟩) (dv.length + 1) cap') (dv.length + 1) (strs dv ++ [.string x]) → (w.alloc tmp).grownBy w1 v2.ownBlock → (v2.ownBlock = some g' ∨ g' = w.heap.size + 1) →
      St N w0 (w1.setCell ⟨N + 6, 0, none⟩ (.slice (some ⟨g', 0, none⟩) (dv.length + 1) cap')) kv vv dF yF t n p lim dk (dv ++ [x]) ok ov dr := by
  obtain ⟨v1, v2, v3, v4, r1, r2, r3, r4, a1, a2⟩ := h.rows
  have hl0 : (strs dv).length = dv.length := by simp
  have ow := r2.own
  rw [hl0] at ow
  refine ⟨v2, r2.box, ow, fun w1 g' cap' x tmp hown hgrow hat => ?_⟩
  have gr : Grew (N + 14) w (w1.setCell ⟨N + 6, 0, none⟩ (.slice (some ⟨g', 0, none⟩) (dv.length + 1) cap')) (N + 6) v2 (.slice (some ⟨g', 0, none⟩) (dv.length + 1) cap') := grew_of h.size (by omega) ow hgrow hat
  have hB1 : Boxed w1 (N + 6) 29 v2 := (r2.box.alloc tmp).kept hgrow (r2.box.not_row (by decide) ow)
  have k2 : Boxed (w1.setCell ⟨N + 6, 0, none⟩ (.slice (some ⟨g', 0, none⟩) (dv.length + 1) cap')) (N + 6) 29 (.slice (some ⟨g', 0, none⟩) (dv.length + 1) cap') := hB1.set _
  have k3 : (w1.setCell ⟨N + 6, 0, none⟩ (.slice (some ⟨g', 0, none⟩) (dv.length + 1) cap')).ownsRow (N + 14) 9 1 (.slice (some ⟨g', 0, none⟩) (dv.length + 1) cap') (dv.length + 1) (strs dv ++ [.string x]) := hown.kept (grownBy_setCell' w1 (N + 6) _) (.inr (hB1.not_row (by decide) hown).symm)
  have hmap : strs (dv ++ [x]) = strs dv ++ [.string x] := by simp [strs]
  have hlen : (strs dv ++ [Value.string x]).length = dv.length + 1 := by simp
  exact ⟨gr.box h.k (by omega) (by omega), gr.box h.v (by omega) (by omega), gr.box h.t (by omega) (by omega), gr.box h.n (by omega) (by omega), gr.box h.p (by omega) (by omega), gr.box h.lim (by omega) (by omega), gr.box h.d (by omega) (by omega), gr.box h.y (by omega) (by omega), gr.box h.r (by omega) (by omega),
    ⟨v1, (.slice (some ⟨g', 0, none⟩) (dv.length + 1) cap'), v3, v4, ⟨gr.box r1.box (by omega) (by omega), gr.row r1.own (apart_type r1.own r2.own (by decide))⟩, ⟨k2, by rw [hmap, hlen]; exact k3⟩, ⟨gr.box r3.box (by omega) (by omega), gr.row r3.own (apart_type r3.own r2.own (by decide))⟩, ⟨gr.box r4.box (by omega) (by omega), gr.row r4.own (a2.symm)⟩, a1, gr.apart r4.own a2⟩, h.bel.trans (gr.below (by omega) (by omega)), Nat.le_trans h.size gr.size⟩

theorem St.row3 (h : St N w0 w kv vv dF yF t n p lim dk dv ok ov dr) : ∃ v3, Boxed w (N + 8) 22 v3 ∧ w.ownsRow (N + 14) 3 1 v3 ok.length (ints ok) ∧
    ∀ (w1 : World) (g' cap' : Nat) (x : Int) (tmp : Obj), w1.ownsRow (N + 14) 3 1 (.slice (some ⟨g', 0, none⟩) (ok.length + 1) cap') (ok.length + 1) (ints ok ++ [.int .i64 x]) → (w.alloc tmp).grownBy w1 v3.ownBlock → (v3.ownBlock = some g' ∨ g' = w.heap.size + 1) →
      St N w0 (w1.setCell ⟨N + 8, 0, none⟩ (.slice (some ⟨g', 0, none⟩) (ok.length + 1) cap')) kv vv dF yF t n p lim dk dv (ok ++ [x]) ov dr := by
  obtain ⟨v1, v2, v3, v4, r1, r2, r3, r4, a1, a2⟩ := h.rows
  have hl0 : (ints ok).length = ok.length := by simp
  have ow := r3.own
  rw [hl0] at ow
  refine ⟨v3, r3.box, ow, fun w1 g' cap' x tmp hown hgrow hat => ?_⟩
  have gr : Grew (N + 14) w (w1.setCell ⟨N + 8, 0, none⟩ (.slice (some ⟨g', 0, none⟩) (ok.length + 1) cap')) (N + 8) v3 (.slice (some ⟨g', 0, none⟩) (ok.length + 1) cap') := grew_of h.size (by omega) ow hgrow hat
  have hB1 : Boxed w1 (N + 8) 22 v3 := (r3.box.alloc tmp).kept hgrow (r3.box.not_row (by decide) ow)
  have k2 : Boxed (w1.setCell ⟨N + 8, 0, none⟩ (.slice (some ⟨g', 0, none⟩) (ok.length + 1) cap')) (N + 8) 22 (.slice (some ⟨g', 0, none⟩) (ok.length + 1) cap') := hB1.set _
  have k3 : (w1.setCell ⟨N + 8, 0, none⟩ (.slice (some ⟨g', 0, none⟩) (ok.length + 1) cap')).ownsRow (N + 14) 3 1 (.slice (some ⟨g', 0, none⟩) (ok.length + 1) cap') (ok.length + 1) (ints ok ++ [.int .i64 x]) := hown.kept (grownBy_setCell' w1 (N + 8) _) (.inr (hB1.not_row (by decide) hown).symm)
  have hmap : ints (ok ++ [x]) = ints ok ++ [.int .i64 x] := by simp [ints]
  have hlen : (ints ok ++ [Value.int .i64 x]).length = ok.length + 1 := by simp
  exact ⟨gr.box h.k (by omega) (by omega), gr.box h.v (by omega) (by omega), gr.box h.t (by omega) (by omega), gr.box h.n (by omega) (by omega), gr.box h.p (by omega) (by omega), gr.box h.lim (by omega) (by omega), gr.box h.d (by omega) (by omega), gr.box h.y (by omega) (by omega), gr.box h.r (by omega) (by omega),
    ⟨v1, v2, (.slice (some ⟨g', 0, none⟩) (ok.length + 1) cap'), v4, ⟨gr.box r1.box (by omega) (by omega), gr.row r1.own (a1)⟩, ⟨gr.box r2.box (by omega) (by omega), gr.row r2.own (apart_type r2.own r3.own (by decide))⟩, ⟨k2, by rw [hmap, hlen]; exact k3⟩, ⟨gr.box r4.box (by omega) (by omega), gr.row r4.own (apart_type r4.own r3.own (by decide))⟩, (gr.apart r1.own a1.symm).symm, a2⟩, h.bel.trans (gr.below (by omega) (by omega)), Nat.le_trans h.size gr.size⟩

theorem St.row4 (h : St N w0 w kv vv dF yF t n p lim dk dv ok ov dr) : ∃ v4, Boxed w (N + 9) 29 v4 ∧ w.ownsRow (N + 14) 9 1 v4 ov.length (strs ov) ∧
    ∀ (w1 : World) (g' cap' : Nat) (x : ByteArray) (tmp : Obj), w1.ownsRow (N + 14) 9 1 (.slice (some ⟨g', 0, none⟩) (ov.length + 1) cap') (ov.length + 1) (strs ov ++ [.string x]) → (w.alloc tmp).grownBy w1 v4.ownBlock → (v4.ownBlock = some g' ∨ g' = w.heap.size + 1) →
      St N w0 (w1.setCell ⟨N + 9, 0, none⟩ (.slice (some ⟨g', 0, none⟩) (ov.length + 1) cap')) kv vv dF yF t n p lim dk dv ok (ov ++ [x]) dr := by
  obtain ⟨v1, v2, v3, v4, r1, r2, r3, r4, a1, a2⟩ := h.rows
  have hl0 : (strs ov).length = ov.length := by simp
  have ow := r4.own
  rw [hl0] at ow
  refine ⟨v4, r4.box, ow, fun w1 g' cap' x tmp hown hgrow hat => ?_⟩
  have gr : Grew (N + 14) w (w1.setCell ⟨N + 9, 0, none⟩ (.slice (some ⟨g', 0, none⟩) (ov.length + 1) cap')) (N + 9) v4 (.slice (some ⟨g', 0, none⟩) (ov.length + 1) cap') := grew_of h.size (by omega) ow hgrow hat
  have hB1 : Boxed w1 (N + 9) 29 v4 := (r4.box.alloc tmp).kept hgrow (r4.box.not_row (by decide) ow)
  have k2 : Boxed (w1.setCell ⟨N + 9, 0, none⟩ (.slice (some ⟨g', 0, none⟩) (ov.length + 1) cap')) (N + 9) 29 (.slice (some ⟨g', 0, none⟩) (ov.length + 1) cap') := hB1.set _
  have k3 : (w1.setCell ⟨N + 9, 0, none⟩ (.slice (some ⟨g', 0, none⟩) (ov.length + 1) cap')).ownsRow (N + 14) 9 1 (.slice (some ⟨g', 0, none⟩) (ov.length + 1) cap') (ov.length + 1) (strs ov ++ [.string x]) := hown.kept (grownBy_setCell' w1 (N + 9) _) (.inr (hB1.not_row (by decide) hown).symm)
  have hmap : strs (ov ++ [x]) = strs ov ++ [.string x] := by simp [strs]
  have hlen : (strs ov ++ [Value.string x]).length = ov.length + 1 := by simp
  exact ⟨gr.box h.k (by omega) (by omega), gr.box h.v (by omega) (by omega), gr.box h.t (by omega) (by omega), gr.box h.n (by omega) (by omega), gr.box h.p (by omega) (by omega), gr.box h.lim (by omega) (by omega), gr.box h.d (by omega) (by omega), gr.box h.y (by omega) (by omega), gr.box h.r (by omega) (by omega),
    ⟨v1, v2, v3, (.slice (some ⟨g', 0, none⟩) (ov.length + 1) cap'), ⟨gr.box r1.box (by omega) (by omega), gr.row r1.own (apart_type r1.own r4.own (by decide))⟩, ⟨gr.box r2.box (by omega) (by omega), gr.row r2.own (a2)⟩, ⟨gr.box r3.box (by omega) (by omega), gr.row r3.own (apart_type r3.own r4.own (by decide))⟩, ⟨k2, by rw [hmap, hlen]; exact k3⟩, a1, (gr.apart r2.own a2.symm).symm⟩, h.bel.trans (gr.below (by omega) (by omega)), Nat.le_trans h.size gr.size⟩
end

/-- One append to a row of the run, for the walk. -/
theorem lies_int {ops : Array Oper} {rest : List Oper} {o : Oper} {a : Act} {Q : Exit → Act → World → Prop} (w : World) (hgd : o.guard = none) (s x : Operand) (ho : o.op = .call { callee := .builtin .append, args := #[s, x], argTypes := #[22, 22] }) (M : Nat) (v : Value) (L : List Int) (z : Int) (hs : a.eval s = v) (hx : a.eval x = .slice (some ⟨w.heap.size, 0, none⟩) 1 1) (hown : w.ownsRow M 3 1 v L.length (ints L)) (hM : M ≤ w.heap.size) (hl : L.length ≤ 2000)
    (h : ∀ g cap w', w'.ownsRow M 3 1 (.slice (some ⟨g, 0, none⟩) (L.length + 1) cap) (L.length + 1) (ints L ++ [.int .i64 z]) → (w.alloc (.cells #[.int .i64 z] 3)).grownBy w' v.ownBlock → (v.ownBlock = some g ∨ g = w.heap.size + 1) → wpList Yba.prog ops Q rest (a.put o.dst (.slice (some ⟨g, 0, none⟩) (L.length + 1) cap)) w') : wpList Yba.prog ops Q (o :: rest) a (w.alloc (.cells #[.int .i64 z] 3)) := by
  obtain ⟨i0, hi, hz, hsz, hby⟩ := info_parts info3
  exact wpList_append_lies _ hgd s x 22 ho M 3 i0 (.int .i64 0) 1 8 Yba.underlying22 hi hz hsz hby rfl (by decide) v L.length (ints L) hs (hown.alloc _) ⟨w.heap.size, 0, none⟩ 1 1 [.int .i64 z] hx rfl (cell_one_at _ _ _ _ rfl) (by simp [Value.oneCell']) (by decide) (by unfold maxLen; omega) (by omega) (by simp; omega) (w.heap.size + 1) (by simp) (fun g cap w' h1 h2 h3 _ => h g cap w' h1 h2 h3)
theorem lies_str {ops : Array Oper} {rest : List Oper} {o : Oper} {a : Act} {Q : Exit → Act → World → Prop} (w : World) (hgd : o.guard = none) (s x : Operand) (ho : o.op = .call { callee := .builtin .append, args := #[s, x], argTypes := #[29, 29] }) (M : Nat) (v : Value) (L : List ByteArray) (z : ByteArray) (hs : a.eval s = v) (hx : a.eval x = .slice (some ⟨w.heap.size, 0, none⟩) 1 1) (hown : w.ownsRow M 9 1 v L.length (strs L)) (hM : M ≤ w.heap.size) (hl : L.length ≤ 2000)
    (h : ∀ g cap w', w'.ownsRow M 9 1 (.slice (some ⟨g, 0, none⟩) (L.length + 1) cap) (L.length + 1) (strs L ++ [.string z]) → (w.alloc (.cells #[.string z] 9)).grownBy w' v.ownBlock → (v.ownBlock = some g ∨ g = w.heap.size + 1) → wpList Yba.prog ops Q rest (a.put o.dst (.slice (some ⟨g, 0, none⟩) (L.length + 1) cap)) w') : wpList Yba.prog ops Q (o :: rest) a (w.alloc (.cells #[.string z] 9)) := by
  obtain ⟨i0, hi, hz, hsz, hby⟩ := info_parts info9
  exact wpList_append_lies _ hgd s x 29 ho M 9 i0 (.string ⟨#[]⟩) 1 16 Yba.underlying29 hi hz hsz hby rfl (by decide) v L.length (strs L) hs (hown.alloc _) ⟨w.heap.size, 0, none⟩ 1 1 [.string z] hx rfl (cell_one_at _ _ _ _ rfl) (by simp [Value.oneCell']) (by decide) (by unfold maxLen; omega) (by omega) (by simp; omega) (w.heap.size + 1) (by simp) (fun g cap w' h1 h2 h3 _ => h g cap w' h1 h2 h3)

set_option maxRecDepth 100000 in
set_option maxHeartbeats 1000000 in
/-- drop: it notes the pair and answers k < t. -/
theorem drop13 (N : Nat) (w0 w : World) (kv vv dF yF : Value) (t n p lim : Int) (dk ok : List Int) (dv ov : List ByteArray) (dr : Bool) (k : Int) (s : ByteArray) (h : St N w0 w kv vv dF yF t n p lim dk dv ok ov dr) (hl : dk.length ≤ 2000) (hl2 : dv.length ≤ 2000) :
    Calls Yba.prog 13 #[.int .i64 k, .string s, .pointer (some ⟨N + 5, 0, none⟩), .pointer (some ⟨N + 6, 0, none⟩), .pointer (some ⟨N + 2, 0, none⟩)] w fun e w' => e = .returned (.bool (decide (k < t))) ∧ St N w0 w' kv vv dF yF t n p lim (dk ++ [k]) (dv ++ [s]) ok ov dr := by
  obtain ⟨v1, b1, o1, n1⟩ := h.row1
  have c1 := b1.cell
  have hlt := b1.lt
  have HB1 : Hid (Boxed w (N + 5) 22 v1) := b1
  have HO1 : Hid (w.ownsRow (N + 14) 3 1 v1 dk.length (ints dk)) := o1
  have HN1 : Hid (_) := n1
  have HS : Hid (N + 14 ≤ w.heap.size) := h.size
  have HL : Hid (dk.length ≤ 2000 ∧ dv.length ≤ 2000) := ⟨hl, hl2⟩
  clear h b1 o1 n1 hl hl2
  go_enter Yba.func13, Yba.ntmps13
  go_upto_region 2 with (first | (at_builtin; go_must (refine lies_int w rfl _ _ rfl (N + 14) v1 dk k rfl rfl HO1.out HS.out HL.out.1 ?_); intro g cap w1 hown hgrow hat; have d := (HB1.out.alloc (.cells #[.int .i64 k] 3)).kept hgrow (HB1.out.not_row (by decide) HO1.out); have d0 := d.cell; have d1 := d.frozen; have HSt : Hid (_) := HN1.out w1 g cap k _ hown hgrow hat; clear hown hgrow hat d))
  have h2 := HSt.out
  clear d0 d1 c1 hlt HB1 HO1 HN1 HS HSt
  generalize w1.setCell ⟨N + 5, 0, none⟩ (.slice (some ⟨g, 0, none⟩) (dk.length + 1) cap) = w2 at h2 ⊢
  obtain ⟨v2, b2, o2, n2⟩ := h2.row2
  have c2 := b2.cell
  have hlt := b2.lt
  have HB1 : Hid (Boxed w2 (N + 6) 29 v2) := b2
  have HO1 : Hid (w2.ownsRow (N + 14) 9 1 v2 dv.length (strs dv)) := o2
  have HN1 : Hid (_) := n2
  have HS : Hid (N + 14 ≤ w2.heap.size) := h2.size
  clear h2 b2 o2 n2
  go_upto_region 3 with (first | (at_builtin; go_must (refine lies_str w2 rfl _ _ rfl (N + 14) v2 dv s rfl rfl HO1.out HS.out HL.out.2 ?_); intro g2 cap2 w3 hown hgrow hat; have d := (HB1.out.alloc (.cells #[.string s] 9)).kept hgrow (HB1.out.not_row (by decide) HO1.out); have d0 := d.cell; have d1 := d.frozen; have HSt : Hid (_) := HN1.out w3 g2 cap2 s _ hown hgrow hat; clear hown hgrow hat d))
  have h3 := HSt.out
  clear d0 d1 c2 hlt HB1 HO1 HN1 HS HSt
  generalize w3.setCell ⟨N + 6, 0, none⟩ (.slice (some ⟨g2, 0, none⟩) (dv.length + 1) cap2) = w4 at h3 ⊢
  have ct := h3.t.cell
  have H3 : Hid (_) := h3
  clear h3
  go_wp2_with fail
  go_ret
  exact ⟨by simp, H3.out⟩

set_option maxRecDepth 100000 in
set_option maxHeartbeats 1000000 in
/-- The consumer: it collects the pair and asks for more while there are fewer than the limit. -/
theorem cons15 (N : Nat) (w0 w : World) (kv vv dF yF : Value) (t n p lim : Int) (dk ok : List Int) (dv ov : List ByteArray) (dr : Bool) (k : Int) (s : ByteArray) (h : St N w0 w kv vv dF yF t n p lim dk dv ok ov dr) (hl : ok.length ≤ 2000) (hl2 : ov.length ≤ 2000) :
    Calls Yba.prog 15 #[.int .i64 k, .string s, .pointer (some ⟨N + 8, 0, none⟩), .pointer (some ⟨N + 9, 0, none⟩), .pointer (some ⟨N + 7, 0, none⟩)] w fun e w' => e = .returned (.bool (decide ((ok.length : Int) + 1 < lim))) ∧ St N w0 w' kv vv dF yF t n p lim dk dv (ok ++ [k]) (ov ++ [s]) dr := by
  obtain ⟨v1, b1, o1, n1⟩ := h.row3
  have c1 := b1.cell
  have hlt := b1.lt
  have HB1 : Hid (Boxed w (N + 8) 22 v1) := b1
  have HO1 : Hid (w.ownsRow (N + 14) 3 1 v1 ok.length (ints ok)) := o1
  have HN1 : Hid (_) := n1
  have HS : Hid (N + 14 ≤ w.heap.size) := h.size
  have HL : Hid (ok.length ≤ 2000 ∧ ov.length ≤ 2000) := ⟨hl, hl2⟩
  clear h b1 o1 n1 hl hl2
  go_enter Yba.func15, Yba.ntmps15
  go_upto_region 2 with (first | (at_builtin; go_must (refine lies_int w rfl _ _ rfl (N + 14) v1 ok k rfl rfl HO1.out HS.out HL.out.1 ?_); intro g cap w1 hown hgrow hat; have d := (HB1.out.alloc (.cells #[.int .i64 k] 3)).kept hgrow (HB1.out.not_row (by decide) HO1.out); have d0 := d.cell; have d1 := d.frozen; have HSt : Hid (_) := HN1.out w1 g cap k _ hown hgrow hat; clear hown hgrow hat d))
  have h2 := HSt.out
  clear d0 d1 c1 hlt HB1 HO1 HN1 HS HSt
  generalize w1.setCell ⟨N + 8, 0, none⟩ (.slice (some ⟨g, 0, none⟩) (ok.length + 1) cap) = w2 at h2 ⊢
  obtain ⟨v2, b2, o2, n2⟩ := h2.row4
  have c2 := b2.cell
  have hlt := b2.lt
  have HB1 : Hid (Boxed w2 (N + 9) 29 v2) := b2
  have HO1 : Hid (w2.ownsRow (N + 14) 9 1 v2 ov.length (strs ov)) := o2
  have HN1 : Hid (_) := n2
  have HS : Hid (N + 14 ≤ w2.heap.size) := h2.size
  clear h2 b2 o2 n2
  go_upto_region 3 with (first | (at_builtin; go_must (refine lies_str w2 rfl _ _ rfl (N + 14) v2 ov s rfl rfl HO1.out HS.out HL.out.2 ?_); intro g2 cap2 w3 hown hgrow hat; have d := (HB1.out.alloc (.cells #[.string s] 9)).kept hgrow (HB1.out.not_row (by decide) HO1.out); have d0 := d.cell; have d1 := d.frozen; have HSt : Hid (_) := HN1.out w3 g2 cap2 s _ hown hgrow hat; clear hown hgrow hat d))
  have h3 := HSt.out
  clear d0 d1 c2 hlt HB1 HO1 HN1 HS HSt
  generalize w3.setCell ⟨N + 9, 0, none⟩ (.slice (some ⟨g2, 0, none⟩) (ov.length + 1) cap2) = w4 at h3 ⊢
  have ct := h3.lim.cell
  obtain ⟨v5, b5, o5, _⟩ := h3.row3
  obtain ⟨g5, cap5, e5⟩ : ∃ g c, v5 = .slice (some ⟨g, 0, none⟩) (ok.length + 1) c := by
    rw [List.length_append] at o5
    exact ownsRow_succ o5
  subst e5
  have c5 := b5.cell
  clear b5 o5
  have H3 : Hid (_) := h3
  clear h3
  go_wp2_with fail
  go_ret
  exact ⟨by simp, H3.out⟩

end Go.Proofs.Ybulkajuk.B
