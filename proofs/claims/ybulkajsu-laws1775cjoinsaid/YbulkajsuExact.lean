import Derived.Test.YbulkajsuIter
namespace Go.Proofs.Ybulkajsu.C
open Go.RowKit Go.Shelf
attribute [local go_sem] Oper.semAt_some

set_option linter.unusedVariables false

set_option maxRecDepth 100000 in
set_option maxHeartbeats 1000000 in
theorem exact_long0 (a0 a1 : Option Addr) (len0 cap0 len1 cap1 : Nat) (k d : Int) (w : World) (hl : 1024 < len0) :
    Calls Yba.prog 5 #[.slice a0 len0 cap0, .slice a1 len1 cap1, .int .u8 k, .int .u8 d] w fun e w' => e = .returned (.bool true) ∧ Below w.heap.size w w' := by
  have hI : (1024 : Int) < (len0 : Int) := by omega
  have hd : decide ((1024 : Int) < (len0 : Int)) = true := decide_eq_true hI
  go_enter Yba.func5, Yba.ntmps5
  go_wp2
  go_ret
  exact ⟨rfl, Below.refl _ _⟩
set_option maxRecDepth 100000 in
set_option maxHeartbeats 1000000 in
theorem exact_long1 (a0 a1 : Option Addr) (len0 cap0 len1 cap1 : Nat) (k d : Int) (w : World) (hl0 : len0 ≤ 1024) (hl : 1024 < len1) :
    Calls Yba.prog 5 #[.slice a0 len0 cap0, .slice a1 len1 cap1, .int .u8 k, .int .u8 d] w fun e w' => e = .returned (.bool true) ∧ Below w.heap.size w w' := by
  have hI : (1024 : Int) < (len1 : Int) := by omega
  have hI0 : (len0 : Int) ≤ 1024 := by omega
  have hd : decide ((1024 : Int) < (len1 : Int)) = true := decide_eq_true hI
  go_enter Yba.func5, Yba.ntmps5
  go_wp2
  go_ret
  exact ⟨rfl, Below.refl _ _⟩

def selq (c0 c1 c2 c3 : Int) : Nat → Int
  | 0 => c0
  | 1 => c1
  | 2 => c2
  | _ => c3
theorem selq_val (c0 c1 c2 c3 : Int) (q : Nat) (hq : q < 4) : val (mk c3 c0 c2 c1) (rk q) = selq c0 c1 c2 c3 q := by
  obtain ⟨v0, v1, v2, v3⟩ := val_mk c3 c0 c2 c1
  rcases (show q = 0 ∨ q = 1 ∨ q = 2 ∨ q = 3 by omega) with rfl | rfl | rfl | rfl
  · exact v1
  · exact v3
  · exact v2
  · exact v0
theorem selq_at (c0 c1 c2 c3 : Int) (q : Nat) (hq : q < 4) : (#[Value.int .u64 c0, .int .u64 c1, .int .u64 c2, .int .u64 c3] : Array Value)[q]? = some (.int .u64 (selq c0 c1 c2 c3 q)) := by
  rcases (show q = 0 ∨ q = 1 ∨ q = 2 ∨ q = 3 by omega) with rfl | rfl | rfl | rfl <;> rfl
theorem rk_lt (q : Nat) : rk q < 4 := by
  unfold rk; split <;> omega

def lastK (pre : Es) : ByteArray := match pre.getLast? with
  | some x => keyB x.1
  | none => ⟨#[]⟩
def lastV (pre : Es) : Int := match pre.getLast? with
  | some x => x.2
  | none => 0
theorem lastK_snoc (pre : Es) (x : Nat × Int) : lastK (pre ++ [x]) = keyB x.1 := by simp [lastK]
theorem lastV_snoc (pre : Es) (x : Nat × Int) : lastV (pre ++ [x]) = x.2 := by simp [lastV]
/-- A tree whose cells lie below a bound. -/
theorem Tree.parts {w : World} {root : Option Addr} {es : Es} (h : Tree w root es) {n₀ : Nat} (hn : w.heap.size ≤ n₀) : (es = [] ∧ root = none) ∨ (0 < es.length ∧ ∃ g c cap, root = some ⟨g, 0, none⟩ ∧ g < n₀ ∧ c < n₀ ∧ Node w g c cap es) := by
  rcases h with h | ⟨hp, g, c, cap, hr, hN⟩
  · exact .inl h
  · exact .inr ⟨hp, g, c, cap, hr, Nat.lt_of_lt_of_le (World.block_lt_of_cell? _ _ hN.chunk) hn, Nat.lt_of_lt_of_le (World.block_lt_of_cell? _ _ (hN.ents 0 hp).1) hn, hN⟩
def merged (r : Nat) (d x : Int) : Es := if d ≤ x then [] else [(r, d)]
theorem merge_any (r : Nat) (hr : r < 4) (es : Es) (ha : Asc es) (hlen : es.length ≤ 31) (root : Option Addr) (run d x : Int) (hd : 0 ≤ d) (hx0 : 0 ≤ x) (hx : val es r = x) (w : World) (hT : Tree w root es) :
    Calls Yba.prog 11 #[.agg #[.pointer root, .int .u64 run], .string (keyB r), .int .u64 d] w fun e w' =>
      ∃ root', e = .returned (.agg #[.pointer root', .int .u64 0]) ∧ Tree w' root' (merged r d x) ∧ Below w.heap.size w w' := by
  subst hx
  unfold merged
  by_cases h : d ≤ val es r
  · rw [if_pos h]
    exact (merge_le r hr es ha hlen root run d hd h w hT).mono fun _ _ h => ⟨none, h.1, .inl ⟨rfl, rfl⟩, h.2⟩
  · rw [if_neg h]
    exact merge_gt r hr es ha hlen root run d (by omega) (by omega) w hT
theorem selq_nn {c0 c1 c2 c3 : Int} (h : Four c0 c1 c2 c3) (q : Nat) : 0 ≤ selq c0 c1 c2 c3 q ∧ selq c0 c1 c2 c3 q ≤ 255 := by
  unfold Four at h
  unfold selq
  split <;> omega

set_option maxRecDepth 100000 in
set_option maxHeartbeats 1000000 in
theorem exact_short (a0 a1 : Option Addr) (len0 cap0 len1 cap1 : Nat) (f0 f1 : Nat → Int) (k d : Int) (w : World) (h0 : Bytes w a0 len0 f0) (h1 : Bytes w a1 len1 f1) (l0 : len0 ≤ 1024) (l1 : len1 ≤ 1024) (hk0 : 0 ≤ k) (hk1 : k ≤ 255) (hd0 : 0 ≤ d) (hd1 : d ≤ 255) :
    Calls Yba.prog 5 #[.slice a0 len0 cap0, .slice a1 len1 cap1, .int .u8 k, .int .u8 d] w fun e w' => e = .returned (.bool true) ∧ Below w.heap.size w w' := by
  have hb := build_any a0 a1 len0 cap0 len1 cap1 f0 f1 w h0 h1 l0 l1
  unfold BuildSays at hb
  have HB : Hid (_) := hb
  clear hb h0 h1
  have q0 : decide ((1024 : Int) < (len0 : Int)) = false := decide_eq_false (by omega)
  have q1 : decide ((1024 : Int) < (len1 : Int)) = false := decide_eq_false (by omega)
  obtain ⟨q, hq⟩ : ∃ q : Nat, k % 4 = q := ⟨(k % 4).toNat, by omega⟩
  have hq4 : q < 4 := by omega
  have hwd : IntKind.u64.wrap d = d := wrapU d hd0 hd1
  refine (callsIn_wide (n := 5)).1 ?_
  refine callsIn_of_wp_marks Yba.func5 rfl trivial ?_ rfl
  simp only [Yba.ntmps5, List.size_toArray, List.length_cons, List.length_nil, Nat.reduceAdd, Nat.reduceSub, Array.replicate_succ, Array.replicate_zero, List.push_toArray, List.append_toArray, List.nil_append, List.cons_append]
  gi_wp2_with fail
  refine ⟨trivial, ?_⟩
  refine (callsIn_wide.2 HB.out).mono ?_
  rintro e w1 ⟨root, c0, c1, c2, c3, rfl, hF, hT, hb1⟩
  have HT : Hid (Tree w1 root (mk c3 c0 c2 c1)) := hT
  have HF : Hid (Four c0 c1 c2 c3) := hF
  clear hT hF HB
  gi_wp2_with fail
  refine ⟨trivial, ?_⟩
  refine (callsIn_wide.2 (ckey q hq4 _)).mono ?_
  rintro e w' ⟨rfl, rfl⟩
  gi_wp2_with fail
  refine ⟨trivial, ?_⟩
  have HT1 : Hid (Tree ((w1.alloc (.cells #[.pointer root, .int .u64 0] 39)).alloc (.cells #[.int .u64 c0, .int .u64 c1, .int .u64 c2, .int .u64 c3] 40)) root (mk c3 c0 c2 c1)) := HT.out.below (((Below.refl _ _).alloc (Nat.le_refl _) _).alloc (by simp) _)
  have hx := selq_nn HF.out q
  have Hsel : Hid ((#[Value.int .u64 c0, .int .u64 c1, .int .u64 c2, .int .u64 c3] : Array Value)[q]? = some (.int .u64 (selq c0 c1 c2 c3 q))) := selq_at c0 c1 c2 c3 q hq4
  have HM := merge_any (rk q) (rk_lt q) _ (mk_asc c3 c0 c2 c1) (Nat.le_trans (mk_len _ _ _ _) (by omega)) root 0 d _ hd0 hx.1 (selq_val c0 c1 c2 c3 q hq4) _ HT1.out
  generalize selq c0 c1 c2 c3 q = x at hx Hsel HM
  obtain ⟨es, hes⟩ : ∃ es, es = merged (rk q) d x := ⟨_, rfl⟩
  have Hes : Hid (es = merged (rk q) d x) := hes
  have hlen1 : es.length ≤ 1 := by rw [hes]; unfold merged; split <;> simp
  rw [← hes] at HM
  clear hes
  refine (callsIn_wide.2 HM).mono ?_
  clear HM
  rintro e w2 ⟨root2, rfl, hT2, hb2⟩
  have HT2 : Hid (Tree w2 root2 es) := hT2
  clear hT2 HT HT1 HF
  gi_wp2_with fail
  refine ⟨trivial, ?_⟩
  refine (callsIn_wide.2 (all_any root2 _)).mono ?_
  rintro e w' ⟨rfl, rfl⟩
  gi_wp2_with fail
  have bC := (((Boxed.new (w2.alloc (.cells #[.pointer root2, .int .u64 0] 39)) 3 (.int .i64 0)).alloc (.cells #[.string ⟨#[]⟩] 9)).alloc (.cells #[.int .u64 0] 45)).alloc (.cells #[.pointer root2] 36)
  have bK := ((Boxed.new ((w2.alloc (.cells #[.pointer root2, .int .u64 0] 39)).alloc (.cells #[.int .i64 0] 3)) 9 (.string ⟨#[]⟩)).alloc (.cells #[.int .u64 0] 45)).alloc (.cells #[.pointer root2] 36)
  have bV := (Boxed.new (((w2.alloc (.cells #[.pointer root2, .int .u64 0] 39)).alloc (.cells #[.int .i64 0] 3)).alloc (.cells #[.string ⟨#[]⟩] 9)) 45 (.int .u64 0)).alloc (.cells #[.pointer root2] 36)
  have bA := Boxed.new ((((w2.alloc (.cells #[.pointer root2, .int .u64 0] 39)).alloc (.cells #[.int .i64 0] 3)).alloc (.cells #[.string ⟨#[]⟩] 9)).alloc (.cells #[.int .u64 0] 45)) 36 (.pointer root2)
  simp only [World.size_alloc] at bC bK bV bA
  have B02 : Below w2.heap.size w2 (((((w2.alloc (.cells #[.pointer root2, .int .u64 0] 39)).alloc (.cells #[.int .i64 0] 3)).alloc (.cells #[.string ⟨#[]⟩] 9)).alloc (.cells #[.int .u64 0] 45)).alloc (.cells #[.pointer root2] 36)) := by
    repeat (first | exact Below.refl _ _ | refine Below.drew ?_ | refine below_dn ?_ | refine Below.alloc ?_ (by first | omega | (simp; done) | (simp; omega)) _)
  have hsz : (((((w2.alloc (.cells #[.pointer root2, .int .u64 0] 39)).alloc (.cells #[.int .i64 0] 3)).alloc (.cells #[.string ⟨#[]⟩] 9)).alloc (.cells #[.int .u64 0] 45)).alloc (.cells #[.pointer root2] 36)).heap.size = w2.heap.size + 5 := by simp
  obtain ⟨W0, hW0⟩ : ∃ W0, ((((w2.alloc (.cells #[.pointer root2, .int .u64 0] 39)).alloc (.cells #[.int .i64 0] 3)).alloc (.cells #[.string ⟨#[]⟩] 9)).alloc (.cells #[.int .u64 0] 45)).alloc (.cells #[.pointer root2] 36) = W0 := ⟨_, rfl⟩
  rw [hW0] at bC bK bV bA B02 hsz ⊢
  clear hW0
  have HT0 : Hid (Tree W0 root2 es) := HT2.out.below B02
  have hTP : (es = [] ∧ root2 = none) ∨ (0 < es.length ∧ ∃ g c cap, root2 = some ⟨g, 0, none⟩ ∧ g < w2.heap.size + 1 ∧ c < w2.heap.size + 1 ∧ Node W0 g c cap es) :=
    by rcases HT2.out.parts (n₀ := w2.heap.size + 1) (by omega) with h | ⟨hp, g, c, cap, hr, hg, hc, hN⟩; exact .inl h; exact .inr ⟨hp, g, c, cap, hr, hg, hc, hN.below B02⟩
  refine wpIn_rangeFunc_ownH (F := Fence.wide) rfl (by omega) (gf := 19) (lb := #[.pointer (some ⟨w2.heap.size + 1 + 1 + 1 + 1, 0, none⟩)]) rfl trivial (enters_of Yba.func19 (by kernel_rfl) rfl)
    (all_stops Fence.wide rfl (5 - 1) trivial trivial rfl (w2.heap.size + 1 + 1 + 1 + 1) (w2.heap.size + 1) root2 es W0 (by omega) bA.cell hTP (by omega)) belowK_t (belowK_b (by omega)) (Below.refl _ _) (fun _ => rfl)
    (fun pre W => (Boxed W (w2.heap.size + 1) 3 (.int .i64 (pre.length : Nat)) ∧ Boxed W (w2.heap.size + 1 + 1) 9 (.string (lastK pre)) ∧ Boxed W (w2.heap.size + 1 + 1 + 1) 45 (.int .u64 (lastV pre))) ∧ Below (w2.heap.size + 1) W0 W)
    (fun _ _ _ => False)
    (OwnFrom.and (OwnFrom.and (Own.from (boxed_own _ _ _) _) (OwnFrom.and (Own.from (boxed_own _ _ _) _) (Own.from (boxed_own _ _ _) _))) (ownFrom_below (by omega) (by omega)))
    (fun _ _ _ _ _ hs _ _ => hs)
    ⟨⟨bC, bK, bV⟩, Below.refl _ _⟩
    (fun x a' W => ∃ Bx, w2.heap.size + 1 + 1 + 1 + 1 < Bx ∧ (W.cell? ⟨Bx, 0, none⟩ = some (.string (keyB x.1)) ∧ W.cell? ⟨Bx, 1, none⟩ = some (.int .u64 x.2)) ∧ a' = { tmps := #[.slice a0 len0 cap0, .slice a1 len1 cap1, .int .u8 k, .int .u8 d, undef, undef, undef, undef, .bool false, .pointer (some ⟨w1.heap.size, 0, none⟩), .pointer (some ⟨w1.heap.size + 1, 0, none⟩), .int .i64 q, .string (keyB (rk q)), .pointer (some ⟨w2.heap.size, 0, none⟩), .pointer (some ⟨w2.heap.size + 1, 0, none⟩), .pointer (some ⟨w2.heap.size + 1 + 1, 0, none⟩), .pointer (some ⟨w2.heap.size + 1 + 1 + 1, 0, none⟩), .pointer (some ⟨Bx, 0, none⟩), .slice a0 len0 cap0, .int .i64 len0, .bool false, .bool false, .slice a1 len1 cap1, .int .i64 len1, .bool false, .bool false, .tuple #[.agg #[.pointer root, .int .u64 0], .agg #[.int .u64 c0, .int .u64 c1, .int .u64 c2, .int .u64 c3]], .slice a0 len0 cap0, .slice a1 len1 cap1, .tuple #[.agg #[.pointer root, .int .u64 0], .agg #[.int .u64 c0, .int .u64 c1, .int .u64 c2, .int .u64 c3]], .agg #[.pointer root, .int .u64 0], .agg #[.int .u64 c0, .int .u64 c1, .int .u64 c2, .int .u64 c3], .int .u8 k, .int .i64 k, .int .i64 q, .int .i64 q, .string (keyB (rk q)), .agg #[.pointer root, .int .u64 0], .string (keyB (rk q)), .int .u8 d, .int .u64 d, .agg #[.pointer root2, .int .u64 0], .pointer (some ⟨w2.heap.size, 0, none⟩), .agg #[.pointer root2], .func (.func 19) #[] #[.pointer (some ⟨w2.heap.size + 1 + 1 + 1 + 1, 0, none⟩)], .agg #[.string (keyB x.1), .int .u64 x.2], undef, undef, undef, undef, undef, undef, undef, undef, undef, undef, undef, undef, undef, undef, undef, undef, undef, undef, undef, undef, undef, undef, undef, undef, undef, undef, undef], defers := [] })
    (fun x a' _ X Y row hs hg hr => by obtain ⟨Bx, h1, h2, h3⟩ := hs; exact ⟨Bx, h1, ⟨cell_kept h2.1 hg (fun r e => (hr r e).2), cell_kept h2.2 hg (fun r e => (hr r e).2)⟩, h3⟩)
    ?assign ?body ?done ?stop
  case assign =>
    rintro l pre ⟨xk, xv⟩ W K ⟨⟨c1', c2', c3'⟩, hB1⟩ hK
    simp only [encE]
    gi_wp2
    have hlt := c3'.lt
    have hWs := hB1.size
    refine hK _ _ ((KeepsOthers.alloc _ _).from _) ((Below.refl _ W).alloc (by omega) _) ⟨⟨c1'.alloc _, c2'.alloc _, c3'.alloc _⟩, hB1.alloc (by omega) _⟩ ⟨W.heap.size, by omega, ⟨by simp [go_sem], by simp [go_sem]⟩, rfl⟩
  case body =>
    rintro l pre ⟨xk, xv⟩ a' W hl ⟨r, hr⟩ ⟨⟨bC1, bK1, bV1⟩, hB1⟩ ⟨Bx, hBx, ⟨x0, x1⟩, rfl⟩ hplt
    have cC := bC1.cell
    have cK := bK1.cell
    have cV := bV1.cell
    have fC := bC1.frozen
    have fK := bK1.frozen
    have fV := bV1.frozen
    have hpi : (pre.length : Int) ≤ 1 := by omega
    have hne1 : ¬ Bx = w2.heap.size + 1 := by omega
    have hne2 : ¬ Bx = w2.heap.size + 1 + 1 := by omega
    have hne3 : ¬ Bx = w2.heap.size + 1 + 1 + 1 := by omega
    simp only at x0 x1
    gi_wp2
    refine ⟨(((KeepsOthers.setCell _ _ _).trans (KeepsOthers.setCell _ _ _)).trans (KeepsOthers.setCell _ _ _)).from _, ?_, ⟨⟨?_, ?_, ?_⟩, ?_⟩⟩
    · exact (((Below.refl (w2.heap.size + 1) W).setCell (p := ⟨w2.heap.size + 1, 0, none⟩) (Nat.le_refl _) _).setCell (p := ⟨w2.heap.size + 1 + 1, 0, none⟩) (by simp) _).setCell (p := ⟨w2.heap.size + 1 + 1 + 1, 0, none⟩) (by simp) _
    · rw [List.length_append]
      exact ((bC1.set _).other (by omega) _).other (by omega) _
    · rw [lastK_snoc]
      exact ((bK1.other (by omega) _).set _).other (by omega) _
    · rw [lastV_snoc]
      exact ((bV1.other (by omega) _).other (by omega) _).set _
    · exact ((hB1.setCell (p := ⟨w2.heap.size + 1, 0, none⟩) (Nat.le_refl _) _).setCell (p := ⟨w2.heap.size + 1 + 1, 0, none⟩) (by simp) _).setCell (p := ⟨w2.heap.size + 1 + 1 + 1, 0, none⟩) (by simp) _
  case done =>
    rintro D ys W hD hys ⟨⟨bC1, bK1, bV1⟩, hB1⟩ hK
    have Hys : Hid (ys = merged (rk q) d x) := hys.trans Hes.out
    clear hys
    have hw12 : w1.heap.size + 1 < w2.heap.size := by have := hb2.size; simp at this; omega
    have hcur : W.cell? ⟨w1.heap.size + 1, q, none⟩ = some (.int .u64 x) :=
      (hB1.cell (p := ⟨w1.heap.size + 1, q, none⟩) (by simp; omega)).trans ((B02.cell (p := ⟨w1.heap.size + 1, q, none⟩) hw12).trans ((hb2.cell (p := ⟨w1.heap.size + 1, q, none⟩) (by simp)).trans ((World.cell?_alloc_at _ _ _ _ (by simp)).trans Hsel.out)))
    have hqi : (q : Int) < 4 := by omega
    have hfin : Below w.heap.size w W := (hb1.trans ((((Below.refl w1.heap.size w1).alloc (Nat.le_refl _) _).alloc (by simp) _).mono hb1.size)).trans ((hb2.mono (by have := hb1.size; simp; omega)).trans ((B02.mono (by have := hb1.size; omega)).trans (hB1.mono (by have := hb1.size; omega))))
    have hend : Below w.heap.size w (W.putObj D (.deferred none)) := hfin.trans (belowK_b (w := w) (Nat.le_refl _) W D _ _ (by have := hb1.size; omega) hK rfl rfl)
    have Hend : Hid (Below w.heap.size w (W.putObj D (.deferred none))) := hend
    clear hend hfin hb1 hb2 B02 hB1
    by_cases hdx : d ≤ x
    · have hy : ys = [] := by rw [Hys.out]; unfold merged; rw [if_pos hdx]
      rw [hy] at bC1
      have cC : W.cell? ⟨w2.heap.size + 1, 0, none⟩ = some (.int .i64 0) := by simpa using bC1.cell
      clear hy bC1 bK1 bV1
      gi_wp2
      refine ⟨by simp, .inl ⟨_, _, rfl, run_takeDeferred hK, ?_⟩⟩
      exact ⟨_, results_tmp rfl _ _ _, rfl, Hend.out⟩
    · have hy : ys = [(rk q, d)] := by rw [Hys.out]; unfold merged; rw [if_neg hdx]
      rw [hy] at bC1 bK1 bV1
      have cC : W.cell? ⟨w2.heap.size + 1, 0, none⟩ = some (.int .i64 1) := by simpa using bC1.cell
      have cK : W.cell? ⟨w2.heap.size + 1 + 1, 0, none⟩ = some (.string (keyB (rk q))) := by simpa [lastK] using bK1.cell
      have cV : W.cell? ⟨w2.heap.size + 1 + 1 + 1, 0, none⟩ = some (.int .u64 d) := by simpa [lastV] using bV1.cell
      clear hy bC1 bK1 bV1
      gi_wp2
      refine ⟨by simp, .inl ⟨_, _, rfl, run_takeDeferred hK, ?_⟩⟩
      exact ⟨_, results_tmp rfl _ _ _, rfl, Hend.out⟩
  case stop =>
    rintro D c pre W _ _ h _
    exact h.elim

theorem exact_all (a0 a1 : Option Addr) (len0 cap0 len1 cap1 : Nat) (f0 f1 : Nat → Int) (k d : Int) (w : World) (h0 : Bytes w a0 len0 f0) (h1 : Bytes w a1 len1 f1) (hk0 : 0 ≤ k) (hk1 : k ≤ 255) (hd0 : 0 ≤ d) (hd1 : d ≤ 255) :
    Calls Yba.prog 5 #[.slice a0 len0 cap0, .slice a1 len1 cap1, .int .u8 k, .int .u8 d] w fun e w' => e = .returned (.bool true) ∧ Below w.heap.size w w' := by
  by_cases l0 : len0 ≤ 1024
  · by_cases l1 : len1 ≤ 1024
    · exact exact_short a0 a1 len0 cap0 len1 cap1 f0 f1 k d w h0 h1 l0 l1 hk0 hk1 hd0 hd1
    · exact exact_long1 a0 a1 len0 cap0 len1 cap1 k d w l0 (by omega)
  · exact exact_long0 a0 a1 len0 cap0 len1 cap1 k d w (by omega)
end Go.Proofs.Ybulkajsu.C
