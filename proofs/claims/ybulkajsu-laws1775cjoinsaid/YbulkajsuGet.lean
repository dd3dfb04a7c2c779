import Derived.Test.YbulkajsuFind
namespace Go.Proofs.Ybulkajsu.C
open Go.RowKit

def at0 (es : Es) (r : Nat) : Nat × Int := es.getD (lo es r) (0, 0)
/-- The value under rank r; 0 where there is none. -/
def val (es : Es) (r : Nat) : Int := if has es r then (at0 es r).2 else 0

theorem lo_le (es : Es) (r : Nat) : lo es r ≤ es.length := List.length_filter_le _ _

/-- What lies ahead of 'lo' is below r; what lies from it on is not. -/
theorem lo_split {es : Es} (ha : Asc es) (r : Nat) : (∀ t, t < lo es r → (es.getD t (0, 0)).1 < r) ∧ (∀ t, lo es r ≤ t → t < es.length → r ≤ (es.getD t (0, 0)).1) := by
  have key : ∃ a, a ≤ es.length ∧ (∀ t, t < a → (es.getD t (0, 0)).1 < r) ∧ (∀ t, a ≤ t → t < es.length → r ≤ (es.getD t (0, 0)).1) := by
    have H : ∀ n, n ≤ es.length → ∃ a, a ≤ n ∧ (∀ t, t < a → (es.getD t (0, 0)).1 < r) ∧ (∀ t, a ≤ t → t < n → r ≤ (es.getD t (0, 0)).1) := by
      intro n
      induction n with
      | zero => intro _; exact ⟨0, Nat.le_refl _, fun t h => absurd h (Nat.not_lt_zero _), fun t _ h => absurd h (Nat.not_lt_zero _)⟩
      | succ n ih =>
        intro hn
        obtain ⟨a, ha1, ha2, ha3⟩ := ih (by omega)
        by_cases h : (es.getD n (0, 0)).1 < r
        · refine ⟨n + 1, Nat.le_refl _, fun t ht => ?_, fun t h1 h2 => by omega⟩
          rcases Nat.lt_or_ge t n with h' | h'
          · have := ha.1 t n h' (by omega); omega
          · obtain rfl : t = n := by omega
            exact h
        · refine ⟨a, by omega, ha2, fun t h1 h2 => ?_⟩
          rcases Nat.lt_or_ge t n with h' | h'
          · exact ha3 t h1 h'
          · obtain rfl : t = n := by omega
            omega
    exact H _ (Nat.le_refl _)
  obtain ⟨a, h1, h2, h3⟩ := key
  rw [lo_eq es a r h1 h2 h3]
  exact ⟨h2, h3⟩

theorem has_lo {es : Es} (ha : Asc es) (r : Nat) : has es r = (decide (lo es r < es.length) && decide ((at0 es r).1 = r)) := by
  obtain ⟨h1, h2⟩ := lo_split ha r
  by_cases h : lo es r < es.length
  · have := has_at (k := (at0 es r).1) (y := (at0 es r).2) ha rfl h1 h rfl (h2 _ (Nat.le_refl _) h)
    rw [this, decide_eq_true h, Bool.true_and]
    by_cases e : (at0 es r).1 = r
    · simp [e]
    · simp [e]
  · rw [decide_eq_false h, Bool.false_and]
    exact has_none (fun t ht => h1 t (by omega))

theorem sgn_nn {r k : Nat} (h : k ≤ r) : 0 ≤ sgn r k := by
  unfold sgn; rw [if_neg (by omega)]; split <;> omega
theorem sgn_np {r k : Nat} (h : r ≤ k) : sgn r k ≤ 0 := by
  unfold sgn; split
  · omega
  · rw [if_neg (by omega)]; omega

theorem first (r : Nat) (hr : r < 4) (v : Int) (es : Es) (ha : Asc es) (hlen : es.length ≤ 31) (root : Option Addr) (w : World) (hT : Tree w root es) :
    Calls Yba.prog 34 #[.agg #[.pointer root], .agg #[.string (keyB r), .int .u64 v]] w fun e w' =>
      e = .returned (.tuple #[.agg #[.string (keyB (at0 es r).1), .int .u64 (at0 es r).2], .bool (decide (lo es r < es.length))]) ∧ Below w.heap.size w w' := by
  obtain ⟨hs1, hs2⟩ := lo_split ha r
  rcases hT with ⟨rfl, rfl⟩ | ⟨hpos, g, c, cap, rfl, hN⟩
  · exact (first_nil r v w).mono fun _ _ h => ⟨by rw [h.1]; rfl, h.2⟩
  · obtain ⟨n, hn⟩ : ∃ n, es.length = n + 1 := ⟨es.length - 1, by omega⟩
    have hch := hN.chunk
    rw [hn] at hch
    have E0 := hN.ents 0 (by omega)
    have En := hN.ents n (by omega)
    by_cases h0 : r < (es.getD 0 (0, 0)).1
    · have e : lo es r = 0 := by
        rcases Nat.eq_zero_or_pos (lo es r) with h | h
        · exact h
        · have := hs1 0 h; omega
      have ea : at0 es r = es.getD 0 (0, 0) := by unfold at0; rw [e]
      refine (first_lt r g c cap (n + 1) (es.getD 0 (0, 0)).1 v (es.getD 0 (0, 0)).2 w hch hN.left (by omega) E0.1 E0.2 hr (ha.2 0 (by omega)) h0).mono fun _ _ h => ⟨?_, h.2⟩
      rw [h.1, e, ea, decide_eq_true (by omega)]
    · by_cases h1 : (es.getD n (0, 0)).1 < r
      · have e : lo es r = n + 1 := by
          rcases Nat.lt_or_ge (lo es r) (n + 1) with h | h
          · have := hs2 n (by omega) (by omega); omega
          · have := lo_le es r; omega
        have ea : at0 es r = (0, 0) := by unfold at0; rw [e]; simp [hn]
        have h00 : (es.getD 0 (0, 0)).1 < r := by
          rcases Nat.eq_zero_or_pos n with rfl | hp
          · exact h1
          · have := ha.1 0 n hp (by omega); omega
        refine (first_gt r g c cap n (es.getD 0 (0, 0)).1 (es.getD n (0, 0)).1 v (es.getD 0 (0, 0)).2 (es.getD n (0, 0)).2 w hch hN.right (by omega) E0.1 E0.2 En.1 En.2 hr (ha.2 0 (by omega)) (ha.2 n (by omega)) h00 h1).mono fun _ _ h => ⟨?_, h.2⟩
        rw [h.1, e, ea, hn, decide_eq_false (by omega)]
      · have hlt : lo es r < n + 1 := by
          rcases Nat.lt_or_ge (lo es r) (n + 1) with h | h
          · exact h
          · have := hs1 n (by omega); omega
        have Ei := hN.ents (lo es r) (by omega)
        refine (first_in r g c cap n (es.getD 0 (0, 0)).1 (es.getD n (0, 0)).1 (lo es r) (at0 es r).1 v (es.getD 0 (0, 0)).2 (es.getD n (0, 0)).2 (at0 es r).2 es w hch (by omega) hN.ents ha hn E0.1 E0.2 En.1 En.2 Ei.1 Ei.2 hlt rfl hr (ha.2 0 (by omega)) (ha.2 n (by omega)) (sgn_nn (by omega)) (sgn_np (by omega))).mono fun _ _ h => ⟨?_, h.2⟩
        rw [h.1, hn, decide_eq_true hlt]

/-- The callee 'firstFrom' by a plain answer. -/
def FirstSays (root : Option Addr) (r : Nat) (v : Int) (es : Es) (k : Nat) (y : Int) (b : Bool) : Prop :=
  ∀ (W : World), Tree W root es → Calls Yba.prog 34 #[.agg #[.pointer root], .agg #[.string (keyB r), .int .u64 v]] W fun e w' => e = .returned (.tuple #[.agg #[.string (keyB k), .int .u64 y], .bool b]) ∧ Below W.heap.size W w'

set_option maxRecDepth 100000 in
set_option maxHeartbeats 1000000 in
theorem find_no (r : Nat) (v : Int) (es : Es) (root : Option Addr) (k : Nat) (y : Int) (w : World) (hT : Tree w root es) (HF : FirstSays root r v es k y false) :
    Calls Yba.prog 24 #[.agg #[.pointer root], .agg #[.string (keyB r), .int .u64 v]] w fun e w' =>
      e = .returned (.tuple #[.agg #[.string (keyB 0), .int .u64 0], .bool false]) ∧ Below w.heap.size w w' := by
  have HT : Hid (Tree w root es) := hT
  clear hT
  go_enter Yba.func24, Yba.ntmps24
  go_wp2_with fail
  refine (HF _ ?_).mono ?_
  · refine HT.out.below ?_
    repeat (first | exact Below.refl _ _ | refine Below.drew ?_ | refine Below.alloc ?_ (by first | omega | (simp; done) | (simp; omega)) _)
  rintro e w1 ⟨rfl, hb⟩
  have hc0 : w1.cell? ⟨w.heap.size + 1 + 1, 0, none⟩ = some (.string ⟨#[]⟩) := (hb.cell (p := ⟨w.heap.size + 1 + 1, 0, none⟩) (by simp)).trans (by simp [go_sem])
  have hc1 : w1.cell? ⟨w.heap.size + 1 + 1, 1, none⟩ = some (.int .u64 0) := (hb.cell (p := ⟨w.heap.size + 1 + 1, 1, none⟩) (by simp)).trans (by simp [go_sem])
  have hf0 : w1.frozen? ⟨w.heap.size + 1 + 1, 0, none⟩ = false := (hb.frozen (p := ⟨w.heap.size + 1 + 1, 0, none⟩) (by simp)).trans (by simp [go_sem])
  have hf1 : w1.frozen? ⟨w.heap.size + 1 + 1, 1, none⟩ = false := (hb.frozen (p := ⟨w.heap.size + 1 + 1, 1, none⟩) (by simp)).trans (by simp [go_sem])
  have hsz : w.heap.size + 1 + 1 < w1.heap.size := by have := hb.size; simp at this; omega
  have hszs := lts hsz
  go_wp2_with fail
  refine bodyPost_ret (v := .tuple #[.agg #[.string (keyB 0), .int .u64 0], .bool false]) (by simp [results, Yba.results24, go_sem, keyB, *]) rfl ⟨rfl, ?_⟩
  repeat (first | exact Below.refl _ _ | refine Below.drew ?_ | refine Below.alloc ?_ (by first | omega | (simp; done) | (simp; omega)) _ | refine Below.setCell ?_ (by first | omega | (simp; done) | (simp; omega)) _ | refine Below.trans ?_ (hb.mono (by first | omega | (simp; done) | (simp; omega))))

set_option maxRecDepth 100000 in
set_option maxHeartbeats 1000000 in
theorem find_other (r : Nat) (hr : r < 4) (v : Int) (es : Es) (root : Option Addr) (k : Nat) (hk : k < 4) (hne : r < k) (y : Int) (w : World) (hT : Tree w root es) (HF : FirstSays root r v es k y true) :
    Calls Yba.prog 24 #[.agg #[.pointer root], .agg #[.string (keyB r), .int .u64 v]] w fun e w' =>
      e = .returned (.tuple #[.agg #[.string (keyB 0), .int .u64 0], .bool false]) ∧ Below w.heap.size w w' := by
  have HT : Hid (Tree w root es) := hT
  clear hT
  have hmc := method_cmp
  simp only [Yba.t51, List.map, List.headD] at hmc
  have hsg := sgn_lt hne
  go_enter Yba.func24, Yba.ntmps24
  go_wp2_with fail
  refine (HF _ ?_).mono ?_
  · refine HT.out.below ?_
    repeat (first | exact Below.refl _ _ | refine Below.drew ?_ | refine Below.alloc ?_ (by first | omega | (simp; done) | (simp; omega)) _)
  rintro e w1 ⟨rfl, hb⟩
  have hx0 : w1.cell? ⟨w.heap.size + 1, 0, none⟩ = some (.string (keyB r)) := (hb.cell (p := ⟨w.heap.size + 1, 0, none⟩) (by simp)).trans (by simp [go_sem])
  have hx1 : w1.cell? ⟨w.heap.size + 1, 1, none⟩ = some (.int .u64 v) := (hb.cell (p := ⟨w.heap.size + 1, 1, none⟩) (by simp)).trans (by simp [go_sem])
  have hc0 : w1.cell? ⟨w.heap.size + 1 + 1, 0, none⟩ = some (.string ⟨#[]⟩) := (hb.cell (p := ⟨w.heap.size + 1 + 1, 0, none⟩) (by simp)).trans (by simp [go_sem])
  have hc1 : w1.cell? ⟨w.heap.size + 1 + 1, 1, none⟩ = some (.int .u64 0) := (hb.cell (p := ⟨w.heap.size + 1 + 1, 1, none⟩) (by simp)).trans (by simp [go_sem])
  have hf0 : w1.frozen? ⟨w.heap.size + 1 + 1, 0, none⟩ = false := (hb.frozen (p := ⟨w.heap.size + 1 + 1, 0, none⟩) (by simp)).trans (by simp [go_sem])
  have hf1 : w1.frozen? ⟨w.heap.size + 1 + 1, 1, none⟩ = false := (hb.frozen (p := ⟨w.heap.size + 1 + 1, 1, none⟩) (by simp)).trans (by simp [go_sem])
  have hsz : w.heap.size + 1 + 1 < w1.heap.size := by have := hb.size; simp at this; omega
  have hsz1 : w.heap.size + 1 < w1.heap.size := by omega
  have hszs := lts hsz
  have hszs1 := lts hsz1
  go_wp2_with (first | (go_at_call 90; refine (compareK r k hr hk v y _).mono ?_; rintro e w' ⟨rfl, rfl⟩))
  refine bodyPost_ret (v := .tuple #[.agg #[.string (keyB 0), .int .u64 0], .bool false]) (by simp [results, Yba.results24, go_sem, keyB, *]) rfl ⟨rfl, ?_⟩
  repeat (first | exact Below.refl _ _ | refine Below.drew ?_ | refine Below.alloc ?_ (by first | omega | (simp; done) | (simp; omega)) _ | refine Below.setCell ?_ (by first | omega | (simp; done) | (simp; omega)) _ | refine Below.trans ?_ (hb.mono (by first | omega | (simp; done) | (simp; omega))))

set_option maxRecDepth 100000 in
set_option maxHeartbeats 1000000 in
theorem find_yes (r : Nat) (hr : r < 4) (v : Int) (es : Es) (root : Option Addr) (y : Int) (w : World) (hT : Tree w root es) (HF : FirstSays root r v es r y true) :
    Calls Yba.prog 24 #[.agg #[.pointer root], .agg #[.string (keyB r), .int .u64 v]] w fun e w' =>
      e = .returned (.tuple #[.agg #[.string (keyB r), .int .u64 y], .bool true]) ∧ Below w.heap.size w w' := by
  have HT : Hid (Tree w root es) := hT
  clear hT
  have hmc := method_cmp
  simp only [Yba.t51, List.map, List.headD] at hmc
  have hsg := sgn_eq r
  go_enter Yba.func24, Yba.ntmps24
  go_wp2_with fail
  refine (HF _ ?_).mono ?_
  · refine HT.out.below ?_
    repeat (first | exact Below.refl _ _ | refine Below.drew ?_ | refine Below.alloc ?_ (by first | omega | (simp; done) | (simp; omega)) _)
  rintro e w1 ⟨rfl, hb⟩
  have hx0 : w1.cell? ⟨w.heap.size + 1, 0, none⟩ = some (.string (keyB r)) := (hb.cell (p := ⟨w.heap.size + 1, 0, none⟩) (by simp)).trans (by simp [go_sem])
  have hx1 : w1.cell? ⟨w.heap.size + 1, 1, none⟩ = some (.int .u64 v) := (hb.cell (p := ⟨w.heap.size + 1, 1, none⟩) (by simp)).trans (by simp [go_sem])
  have hc0 : w1.cell? ⟨w.heap.size + 1 + 1, 0, none⟩ = some (.string ⟨#[]⟩) := (hb.cell (p := ⟨w.heap.size + 1 + 1, 0, none⟩) (by simp)).trans (by simp [go_sem])
  have hc1 : w1.cell? ⟨w.heap.size + 1 + 1, 1, none⟩ = some (.int .u64 0) := (hb.cell (p := ⟨w.heap.size + 1 + 1, 1, none⟩) (by simp)).trans (by simp [go_sem])
  have hf0 : w1.frozen? ⟨w.heap.size + 1 + 1, 0, none⟩ = false := (hb.frozen (p := ⟨w.heap.size + 1 + 1, 0, none⟩) (by simp)).trans (by simp [go_sem])
  have hf1 : w1.frozen? ⟨w.heap.size + 1 + 1, 1, none⟩ = false := (hb.frozen (p := ⟨w.heap.size + 1 + 1, 1, none⟩) (by simp)).trans (by simp [go_sem])
  have hsz : w.heap.size + 1 + 1 < w1.heap.size := by have := hb.size; simp at this; omega
  have hsz1 : w.heap.size + 1 < w1.heap.size := by omega
  have hszs := lts hsz
  have hszs1 := lts hsz1
  go_wp2_with (first | (go_at_call 90; refine (compareK r r hr hr v y _).mono ?_; rintro e w' ⟨rfl, rfl⟩))
  refine bodyPost_ret (v := .tuple #[.agg #[.string (keyB r), .int .u64 y], .bool true]) (by simp [results, Yba.results24, go_sem, *]) rfl ⟨rfl, ?_⟩
  repeat (first | exact Below.refl _ _ | refine Below.drew ?_ | refine Below.alloc ?_ (by first | omega | (simp; done) | (simp; omega)) _ | refine Below.setCell ?_ (by first | omega | (simp; done) | (simp; omega)) _ | refine Below.trans ?_ (hb.mono (by first | omega | (simp; done) | (simp; omega))))

theorem find_any (r : Nat) (hr : r < 4) (v : Int) (es : Es) (ha : Asc es) (hlen : es.length ≤ 31) (root : Option Addr) (w : World) (hT : Tree w root es) :
    Calls Yba.prog 24 #[.agg #[.pointer root], .agg #[.string (keyB r), .int .u64 v]] w fun e w' =>
      (∃ k b, e = .returned (.tuple #[.agg #[.string k, .int .u64 (val es r)], .bool b])) ∧ Below w.heap.size w w' := by
  have hv : val es r = if (decide (lo es r < es.length) && decide ((at0 es r).1 = r)) then (at0 es r).2 else 0 := by unfold val; rw [has_lo ha r]
  have hF := fun W hW => first r hr v es ha hlen root W hW
  by_cases hl : lo es r < es.length
  · rw [decide_eq_true hl] at hF
    have hge := (lo_split ha r).2 _ (Nat.le_refl _) hl
    have h4 := ha.2 _ hl
    by_cases he : (at0 es r).1 = r
    · rw [decide_eq_true hl, decide_eq_true he, Bool.and_self, if_pos rfl] at hv
      rw [he] at hF
      exact (find_yes r hr v es root (at0 es r).2 w hT hF).mono fun _ _ h => ⟨⟨keyB r, true, by rw [hv]; exact h.1⟩, h.2⟩
    · rw [decide_eq_false he, Bool.and_false, if_neg (by simp)] at hv
      have hlt : r < (at0 es r).1 := Nat.lt_of_le_of_ne hge (fun h => he h.symm)
      exact (find_other r hr v es root (at0 es r).1 h4 hlt (at0 es r).2 w hT hF).mono fun _ _ h => ⟨⟨keyB 0, false, by rw [hv]; exact h.1⟩, h.2⟩
  · rw [decide_eq_false hl] at hF
    rw [decide_eq_false hl, Bool.false_and, if_neg (by simp)] at hv
    exact (find_no r v es root (at0 es r).1 (at0 es r).2 w hT hF).mono fun _ _ h => ⟨⟨keyB 0, false, by rw [hv]; exact h.1⟩, h.2⟩

set_option maxRecDepth 100000 in
set_option maxHeartbeats 1000000 in
theorem get_any (r : Nat) (hr : r < 4) (es : Es) (ha : Asc es) (hlen : es.length ≤ 31) (root : Option Addr) (run : Int) (w : World) (hT : Tree w root es) :
    Calls Yba.prog 14 #[.agg #[.pointer root, .int .u64 run], .string (keyB r)] w fun e w' =>
      e = .returned (.int .u64 (val es r)) ∧ Below w.heap.size w w' := by
  have HT : Hid (Tree w root es) := hT
  have HA : Hid (Asc es) := ha
  clear hT ha
  generalize hx : val es r = x
  have HX : Hid (val es r = x) := hx
  clear hx
  go_enter Yba.func14, Yba.ntmps14
  go_wp2_with fail
  refine (find_any r hr 0 es HA.out hlen root _ ?_).mono ?_
  · refine HT.out.below ?_
    repeat (first | exact Below.refl _ _ | refine Below.drew ?_ | refine Below.alloc ?_ (by first | omega | (simp; done) | (simp; omega)) _)
  rw [HX.out]
  rintro e w1 ⟨⟨k, b, rfl⟩, hb⟩
  have hsz : w.heap.size < w1.heap.size := by have := hb.size; simp at this; omega
  go_wp2_with fail
  go_ret
  refine ⟨rfl, ?_⟩
  repeat (first | exact Below.refl _ _ | refine Below.drew ?_ | refine Below.trans ?_ (hb.mono (by first | omega | (simp; done) | (simp; omega))) | refine Below.alloc ?_ (by first | omega | (simp; done) | (simp; omega)) _ | refine Below.setCell ?_ (by first | omega | (simp; done) | (simp; omega)) _ )

end Go.Proofs.Ybulkajsu.C
