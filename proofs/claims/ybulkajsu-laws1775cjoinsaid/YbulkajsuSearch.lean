import Derived.Test.YbulkajsuDelta
import Derived.Deep.RegionHeld3
namespace Go.Proofs.Ybulkajsu.C
open Go.RowKit

abbrev Es := List (Nat × Int)
/-- Block c holds the entries es, two cells each. -/
def Ents (w : World) (c : Nat) (es : Es) : Prop :=
  ∀ j, j < es.length → w.cell? ⟨c, j * 2, none⟩ = some (.string (keyB (es.getD j (0, 0)).1)) ∧ w.cell? ⟨c, j * 2 + 1, none⟩ = some (.int .u64 (es.getD j (0, 0)).2)

theorem Ents.below {w w' : World} {c : Nat} {es : Es} (h : Ents w c es) (hb : Below w.heap.size w w') : Ents w' c es :=
  fun j hj => ⟨cell_later hb (h j hj).1, cell_later hb (h j hj).2⟩

/-- Sorted by rank, each rank once, each below 4. -/
def Asc (es : Es) : Prop := (∀ i j, i < j → j < es.length → (es.getD i (0, 0)).1 < (es.getD j (0, 0)).1) ∧ ∀ j, j < es.length → (es.getD j (0, 0)).1 < 4
/-- How many entries lie below rank r. -/
def lo (es : Es) (r : Nat) : Nat := (es.filter fun e => decide (e.1 < r)).length
def has (es : Es) (r : Nat) : Bool := es.any fun e => e.1 == r

theorem lo_step {es : Es} {m k n r : Nat} {y : Int} (hs : ∀ i j, i < j → j < es.length → (es.getD i (0, 0)).1 < (es.getD j (0, 0)).1) (hn : es.length = n) (hm : m < n) (he : es.getD m (0, 0) = (k, y)) (hk : k < r) :
    ∀ t, t < m + 1 → (es.getD t (0, 0)).1 < r := by
  intro t ht
  rcases Nat.lt_or_ge t m with h | h
  · have := hs t m h (by omega); rw [he] at this; simp only at this; omega
  · obtain rfl : t = m := by omega
    rw [he]; exact hk
theorem hi_step {es : Es} {m k n r : Nat} {y : Int} (hs : ∀ i j, i < j → j < es.length → (es.getD i (0, 0)).1 < (es.getD j (0, 0)).1) (hn : es.length = n) (he : es.getD m (0, 0) = (k, y)) (hk : ¬ k < r) :
    ∀ t, m ≤ t → t < n → r ≤ (es.getD t (0, 0)).1 := by
  intro t ht hl
  rcases Nat.lt_or_ge m t with h | h
  · have := hs m t h (by omega); rw [he] at this; simp only at this; omega
  · obtain rfl : t = m := by omega
    rw [he]; simp only; omega

theorem lo_eq : ∀ (es : Es) (a r : Nat), a ≤ es.length → (∀ t, t < a → (es.getD t (0, 0)).1 < r) → (∀ t, a ≤ t → t < es.length → r ≤ (es.getD t (0, 0)).1) → lo es r = a
  | [], a, r, h, _, _ => by simp at h; simp [lo, h]
  | e :: es, 0, r, _, _, hh => by
    have h0 := hh 0 (Nat.le_refl _) (by simp)
    simp at h0
    have := lo_eq es 0 r (Nat.zero_le _) (fun t h => absurd h (Nat.not_lt_zero _)) (fun t _ h2 => by have := hh (t + 1) (by omega) (by simp; omega); simpa using this)
    unfold lo at this ⊢
    rw [List.filter_cons_of_neg (by simp; omega)]
    exact this
  | e :: es, a + 1, r, h, hl, hh => by
    have h0 := hl 0 (by omega)
    simp at h0
    have := lo_eq es a r (by simp at h; omega) (fun t h => by have := hl (t + 1) (by omega); simpa using this) (fun t h1 h2 => by have := hh (t + 1) (by omega) (by simp; omega); simpa using this)
    unfold lo at this ⊢
    rw [List.filter_cons_of_pos (by simpa using h0), List.length_cons, this]

theorem has_iff (es : Es) (r : Nat) : has es r = true ↔ ∃ t, t < es.length ∧ (es.getD t (0, 0)).1 = r := by
  unfold has
  rw [List.any_eq_true]
  constructor
  · rintro ⟨e, he, h⟩
    obtain ⟨t, ht, rfl⟩ := List.getElem_of_mem he
    exact ⟨t, ht, by simpa [List.getD_eq_getElem?_getD, List.getElem?_eq_getElem ht] using h⟩
  · rintro ⟨t, ht, h⟩
    exact ⟨es[t], List.getElem_mem ht, by simpa [List.getD_eq_getElem?_getD, List.getElem?_eq_getElem ht] using h⟩

theorem has_at {es : Es} {a k n r : Nat} {y : Int} (ha : Asc es) (hn : es.length = n) (hl : ∀ t, t < a → (es.getD t (0, 0)).1 < r) (han : a < n) (he : es.getD a (0, 0) = (k, y)) (hrk : r ≤ k) : has es r = (k == r) := by
  rw [Bool.eq_iff_iff, has_iff]
  constructor
  · rintro ⟨t, ht, h⟩
    rcases Nat.lt_trichotomy t a with h1 | h1 | h1
    · have := hl t h1; omega
    · subst h1; rw [he] at h; simp at h; simp [h]
    · have := ha.1 a t h1 ht; rw [he] at this; simp only at this; omega
  · intro h
    exact ⟨a, by omega, by rw [he]; simpa using h⟩
theorem has_none {es : Es} {r : Nat} (hl : ∀ t, t < es.length → (es.getD t (0, 0)).1 < r) : has es r = false := by
  rw [Bool.eq_false_iff, ne_eq, has_iff]
  rintro ⟨t, ht, h⟩
  have := hl t ht
  omega

theorem method_cmp (w : World) : (method 238 51 (.agg #[]) ((Yba.t51.methods.toList.map Method.name).headD "none")).run Yba.prog w = .ok (90, .agg #[]) w := by kernel_rfl

theorem compareK (k r : Nat) (hk : k < 4) (hr : r < 4) (x y : Int) (w : World) :
    Calls Yba.prog 90 #[.agg #[], .agg #[.string (keyB k), .int .u64 x], .agg #[.string (keyB r), .int .u64 y]] w fun e w' => e = .returned (.int .i64 (sgn k r)) ∧
      w' = ((w.alloc (.cells #[] 51)).alloc (.cells #[.string (keyB k), .int .u64 x] 50)).alloc (.cells #[.string (keyB r), .int .u64 y] 50) :=
  (compare90 _ _ x y w).mono fun _ _ h => ⟨by rw [h.1, cmp_keys k r hk hr], h.2⟩

theorem keep3 {w : World} {p : Addr} {v : Value} (o1 o2 o3 : Obj) (h : w.cell? p = some v) : (((w.alloc o1).alloc o2).alloc o3).drew.cell? p = some v :=
  cell_later (((((Below.refl w.heap.size w).alloc (Nat.le_refl _) _).alloc (by simp) _).alloc (by simp; omega) _).drew) h

theorem sgn_lt {k r : Nat} (h : k < r) : sgn k r = -1 := by simp [sgn, h]
theorem sgn_gt {k r : Nat} (h : r < k) : sgn k r = 1 := by simp [sgn, h]; omega
theorem sgn_eq (k : Nat) : sgn k k = 0 := by simp [sgn]

set_option maxRecDepth 100000 in
set_option maxHeartbeats 1000000 in
theorem search (nm : String) (hmc : ∀ w : World, (method 238 51 (.agg #[]) nm).run Yba.prog w = .ok (90, .agg #[]) w) (c n cap r : Nat) (v : Int) (es : Es) (w : World) (hE : Ents w c es) (ha : Asc es) (hr : r < 4) (hn : es.length = n) (hn4 : n ≤ 31) :
    Calls Yba.prog 38 #[.slice (some ⟨c, 0, none⟩) n cap, .agg #[.string (keyB r), .int .u64 v], .func (.method nm) #[.iface 51 (.agg #[])] #[]] w fun e w' =>
      e = .returned (.tuple #[.int .i64 (lo es r), .bool (has es r)]) ∧ Below w.heap.size w w' := by
  go_enter Yba.func38, Yba.ntmps38
  go_wp2_with fail
  go_loopw [9, 10] (fun i j wr => ∃ a b : Nat, i = .int .i64 a ∧ j = .int .i64 b ∧ a ≤ b ∧ b ≤ n ∧ (∀ t, t < a → (es.getD t (0, 0)).1 < r) ∧ (∀ t, b ≤ t → t < n → r ≤ (es.getD t (0, 0)).1) ∧ Below (w.heap.size + 1) (w.alloc (.cells #[.string (keyB r), .int .u64 v] 50)) wr) (fun i j _ => (intOf j - intOf i).toNat)
  case atStart => exact ⟨0, n, rfl, rfl, by omega, by omega, fun t h => absurd h (Nat.not_lt_zero _), fun t h1 h2 => by omega, Below.refl _ _⟩
  case round =>
    obtain ⟨a, b, rfl, rfl, hab, hbn, hlo, hhi, hB⟩ := hrel
    have hB0 : Below w.heap.size w wr := ((Below.refl w.heap.size w).alloc (Nat.le_refl _) _).trans (hB.mono (by omega))
    have t0 : wr.cell? ⟨w.heap.size, 0, none⟩ = some (.string (keyB r)) := (hB.cell (p := ⟨w.heap.size, 0, none⟩) (by simp)).trans (by simp [go_sem])
    have t1 : wr.cell? ⟨w.heap.size, 1, none⟩ = some (.int .u64 v) := (hB.cell (p := ⟨w.heap.size, 1, none⟩) (by simp)).trans (by simp [go_sem])
    have hsz : w.heap.size < wr.heap.size := by have := hB.size; simp at this; omega
    have Ha : Hid (Asc es) := ha
    have Hs : Hid (∀ (i j : Nat), i < j → j < es.length → (es.getD i (0, 0)).fst < (es.getD j (0, 0)).fst) := ha.1
    have Hlo : Hid (∀ (t : Nat), t < a → (es.getD t (0, 0)).fst < r) := hlo
    have Hhi : Hid (∀ (t : Nat), b ≤ t → t < n → r ≤ (es.getD t (0, 0)).fst) := hhi
    have Hn : Hid (es.length = n) := hn
    have HE : Hid (Ents wr c es) := hE.below hB0
    clear hlo hhi hE
    by_cases hlt : a < b
    · obtain ⟨m, hm2⟩ : ∃ m : Nat, ((a : Int) + b) / 2 = m := ⟨(a + b) / 2, by omega⟩
      have hma : a ≤ m := by omega
      have hmb : m < b := by omega
      have hmn : m < n := by omega
      obtain ⟨e0, e1⟩ := HE.out m (by omega)
      have hk4 := ha.2 m (by omega)
      generalize hek : es.getD m (0, 0) = kv at e0 e1 hk4
      obtain ⟨k, y⟩ := kv
      have Hek : Hid (es.getD m (0, 0) = (k, y)) := hek
      simp only at e0 e1 hk4
      clear hek ha hn
      by_cases hkr : k < r
      · have hsg := sgn_lt hkr
        go_wp2_with fail
        go_region_with (go_at_call 90; refine (compareK k r hk4 hr y v _).mono ?_; rintro e w' ⟨rfl, rfl⟩)
        all_goals
          go_wp2
          go_roundw
          case rel => exact ⟨m + 1, b, by go_num, rfl, by omega, by omega, lo_step Hs.out Hn.out hmn Hek.out hkr, Hhi.out, by
            repeat (first | exact hB | refine Below.drew ?_ | refine Below.alloc ?_ (by first | omega | (simp; done) | (simp; omega)) _)⟩
          case measure => simp [intOf]; omega
      · have Hkr : Hid (¬ k < r) := hkr
        by_cases hgt : r < k
        · have hsg := sgn_gt hgt
          clear hkr
          go_wp2_with fail
          go_region_with (go_at_call 90; refine (compareK k r hk4 hr y v _).mono ?_; rintro e w' ⟨rfl, rfl⟩)
          all_goals
            go_wp2
            go_roundw
            case rel => exact ⟨a, m, rfl, rfl, by omega, by omega, Hlo.out, hi_step Hs.out Hn.out Hek.out Hkr.out, by
              repeat (first | exact hB | refine Below.drew ?_ | refine Below.alloc ?_ (by first | omega | (simp; done) | (simp; omega)) _)⟩
            case measure => simp [intOf]; omega
        · obtain rfl : k = r := by omega
          have hsg := sgn_eq k
          clear hkr hgt
          go_wp2_with fail
          go_region_with (go_at_call 90; refine (compareK k k hk4 hr y v _).mono ?_; rintro e w' ⟨rfl, rfl⟩)
          all_goals
            go_wp2
            go_roundw
            case rel => exact ⟨a, m, rfl, rfl, by omega, by omega, Hlo.out, hi_step Hs.out Hn.out Hek.out Hkr.out, by
              repeat (first | exact hB | refine Below.drew ?_ | refine Below.alloc ?_ (by first | omega | (simp; done) | (simp; omega)) _)⟩
            case measure => simp [intOf]; omega
    · obtain rfl : a = b := by omega
      have Hfin : Hid (lo es r = a) := lo_eq es a r (by omega) Hlo.out (fun t h1 h2 => Hhi.out t h1 (by omega))
      by_cases han : a < n
      · obtain ⟨e0, e1⟩ := HE.out a (by omega)
        have hk4 := ha.2 a (by omega)
        have hrk := Hhi.out a (Nat.le_refl _) han
        generalize hek : es.getD a (0, 0) = kv at e0 e1 hk4 hrk
        obtain ⟨k, y⟩ := kv
        have Hek : Hid (es.getD a (0, 0) = (k, y)) := hek
        simp only at e0 e1 hk4 hrk
        have Hhas : Hid (has es r = (k == r)) := has_at Ha.out Hn.out Hlo.out han hek hrk
        clear hek ha hn
        have hgd : decide ((a : Int) < (n : Int)) = true := decide_eq_true (by omega)
        have hgi : (a : Int) < (n : Int) := by omega
        by_cases hgt : r < k
        · have hsg := sgn_gt hgt
          go_wp2_with fail
          go_region_held3 (fun w' => w'.cell? ⟨c, a * 2, none⟩ = some (.string (keyB k)) ∧ w'.cell? ⟨c, a * 2 + 1, none⟩ = some (.int .u64 y) ∧ w'.cell? ⟨w.heap.size, 0, none⟩ = some (.string (keyB r)) ∧ w'.cell? ⟨w.heap.size, 1, none⟩ = some (.int .u64 v)) (first | (exact ⟨keep3 _ _ _ e0, keep3 _ _ _ e1, keep3 _ _ _ t0, keep3 _ _ _ t1⟩) | go_keep)
            (first | (go_at_call 90; refine (compareK k r hk4 hr y v _).mono ?_; rintro e w' ⟨rfl, rfl⟩))
          all_goals
            go_wp2
            go_ret2
            rw [Hfin.out, Hhas.out, show (k == r) = false from beq_eq_false_iff_ne.2 (by omega)]
            refine ⟨rfl, ?_⟩
            repeat (first | exact hB0 | refine Below.drew ?_ | refine Below.alloc ?_ (by first | omega | (simp; done) | (simp; omega)) _)
        · obtain rfl : k = r := by omega
          have hsg := sgn_eq k
          clear hgt
          go_wp2_with fail
          go_region_held3 (fun w' => w'.cell? ⟨c, a * 2, none⟩ = some (.string (keyB k)) ∧ w'.cell? ⟨c, a * 2 + 1, none⟩ = some (.int .u64 y) ∧ w'.cell? ⟨w.heap.size, 0, none⟩ = some (.string (keyB k)) ∧ w'.cell? ⟨w.heap.size, 1, none⟩ = some (.int .u64 v)) (first | (exact ⟨keep3 _ _ _ e0, keep3 _ _ _ e1, keep3 _ _ _ t0, keep3 _ _ _ t1⟩) | go_keep)
            (first | (go_at_call 90; refine (compareK k k hk4 hr y v _).mono ?_; rintro e w' ⟨rfl, rfl⟩))
          all_goals
            go_wp2
            go_ret2
            rw [Hfin.out, Hhas.out, show (k == k) = true from beq_self_eq_true k]
            refine ⟨rfl, ?_⟩
            repeat (first | exact hB0 | refine Below.drew ?_ | refine Below.alloc ?_ (by first | omega | (simp; done) | (simp; omega)) _)
      · obtain rfl : a = n := by omega
        have Hhas : Hid (has es r = false) := has_none (fun t ht => Hlo.out t (by omega))
        have hd : decide ((a : Int) < (a : Int)) = false := decide_eq_false (by omega)
        clear ha hn
        go_wp2_with fail
        go_quiet (fail)
        go_wp2
        go_ret2
        rw [Hfin.out, Hhas.out]
        refine ⟨rfl, ?_⟩
        exact hB0.trans ⟨rfl, rfl, rfl, Nat.le_refl _, fun _ _ => rfl⟩

end Go.Proofs.Ybulkajsu.C
