import Derived.Test.YbulkajsuMerge
import Derived.RangeFuncNested
import Derived.RangeFuncBound
import Derived.RangeFuncCalls
import Derived.RangeFuncLeaves
import Derived.Shelf.Abstract
import Derived.Shelf.RegionOpen
import Derived.OwnWalkIn
import Derived.TacticsInMore
import Derived.LoopNIn
import Derived.LoopIn
namespace Go.Proofs.Ybulkajsu.C
open Go.RowKit Go.Shelf
attribute [local go_sem] Oper.semAt_some

theorem room_of_none {F : Fence} (hd : F.depth = none) (k : Nat) : F.room k := fun d h => by rw [hd] at h; cases h
theorem roundIn_any {F : Fence} (hd : F.depth = none) {m m' : Nat} {P : Program} {l : Nat} {f : FuncId} {tmps : Array Value} {assign body : Code} {w : World} {R : Ending → World → Prop}
    (h : RoundIn F m P l f tmps assign body w R) : RoundIn F m' P l f tmps assign body w R := ⟨h.1, fun c cs _ => h.2 c cs (room_of_none hd _)⟩
theorem yieldAt_any {F : Fence} (hd : F.depth = none) {m : Nat} (m' : Nat) {P : Program} {l : Nat} {args : Array Value} {W : World} {R : Ending → World → Prop} (h : YieldAt F m P l args W R) : YieldAt F m' P l args W R := by
  obtain ⟨fn, tmps, assign, body, hy, hR⟩ := h
  exact ⟨fn, tmps, assign, body, hy, roundIn_any hd hR⟩

theorem Node.belowN {w w' : World} {g c cap n₀ : Nat} {es : Es} (h : Node w g c cap es) (hg : g < n₀) (hc : c < n₀) (hb : Below n₀ w w') : Node w' g c cap es :=
  ⟨(hb.cell (p := ⟨g, 0, none⟩) hg).trans h.chunk, (hb.cell (p := ⟨g, 1, none⟩) hg).trans h.left, (hb.cell (p := ⟨g, 2, none⟩) hg).trans h.right, (hb.cell (p := ⟨g, 3, none⟩) hg).trans h.size, (hb.cell (p := ⟨g, 4, none⟩) hg).trans h.count,
    fun j hj => ⟨(hb.cell (p := ⟨c, j * 2, none⟩) hc).trans (h.ents j hj).1, (hb.cell (p := ⟨c, j * 2 + 1, none⟩) hc).trans (h.ents j hj).2⟩, h.room⟩

def encE (x : Nat × Int) : Value := .agg #[.string (keyB x.1), .int .u64 x.2]

set_option maxRecDepth 100000 in
set_option maxHeartbeats 2000000 in
theorem ascend_nil (F : Fence) (h20 : F.fn 20) (hro : F.round = none) (n l : Nat) (W : World) :
    CallsIn F n Yba.prog 20 #[.pointer none, .func (.yield l) #[] #[]] W fun e W' => e = .returned (.bool true) ∧ W = W' := by
  refine callsIn_of_wp Yba.func20 rfl h20 ?_ hro
  simp only [Yba.ntmps20, List.size_toArray, List.length_cons, List.length_nil, Nat.reduceAdd, Nat.reduceSub, Array.replicate_succ, Array.replicate_zero, List.push_toArray, List.append_toArray, List.nil_append, List.cons_append]
  gi_wp2
  refine wpIn_loop_rounds 1 ?_
  rw [roundsIn_succ]
  gi_wp2
  go_ret
  exact ⟨rfl, rfl⟩

set_option maxRecDepth 100000 in
set_option maxHeartbeats 2000000 in
theorem ascend_in (F : Fence) (hd : F.depth = none) (h20 : F.fn 20) (hro : F.round = none) (n l n₀ B : Nat) (es : Es) (J Jx : Es → World → Prop) (hJ : AbidesFrom B J)
    (hY : ∀ m pre x W, J pre W → pre.length < es.length → YieldAt F m Yba.prog l #[encE x] W fun e W' =>
      (e = .returned (.bool true) ∧ J (pre ++ [x]) W' ∧ Below n₀ W W') ∨ (e = .returned (.bool false) ∧ Jx (pre ++ [x]) W'))
    (g c cap : Nat) (W : World) (hN : Node W g c cap es) (hg : g < n₀) (hc : c < n₀) (hpos : 0 < es.length) (h31 : es.length ≤ 31) (hn₀ : n₀ ≤ W.heap.size) (h0 : J [] W) :
    CallsIn F n Yba.prog 20 #[.pointer (some ⟨g, 0, none⟩), .func (.yield l) #[] #[]] W fun e W' =>
      (e = .returned (.bool true) ∧ J es W') ∨ (e = .returned (.bool false) ∧ ∃ q, q <+: es ∧ Jx q W') := by
  have hdd : ∀ k : Nat, (F.depth.isSome = true → 1 ≤ k) := fun k h => by rw [hd] at h; cases h
  have n0 := hN.chunk
  have n1 := hN.left
  have HN : Hid (Node W g c cap es) := hN
  obtain ⟨len, hlen⟩ : ∃ len, es.length = len := ⟨_, rfl⟩
  rw [hlen] at n0 hpos h31
  have HL : Hid (es.length = len) := hlen
  clear hN hlen
  refine callsIn_of_wp Yba.func20 rfl h20 ?_ hro
  simp only [Yba.ntmps20, List.size_toArray, List.length_cons, List.length_nil, Nat.reduceAdd, Nat.reduceSub, Array.replicate_succ, Array.replicate_zero, List.push_toArray, List.append_toArray, List.nil_append, List.cons_append]
  gi_wp2
  refine wpIn_loop_rounds 2 ?_
  rw [roundsIn_succ]
  gi_wp2_with (first | ((try refine ⟨hdd _, ?_⟩); gi_at_call 20; refine (ascend_nil F h20 hro _ l _).mono ?_; rintro e w' ⟨rfl, rfl⟩))
  gi_loopw [25] (fun i wr => ∃ k : Nat, i = .int .i64 k ∧ k ≤ len ∧ J (es.take k) wr ∧ Below n₀ W wr) (fun i _ => len - (intOf i).toNat)
  case atStart => exact ⟨0, rfl, Nat.zero_le _, h0, Below.refl _ _⟩
  case round =>
    obtain ⟨k, rfl, hk, hJk, hBk⟩ := hrel
    have HNk : Hid (Node wr g c cap es) := HN.out.belowN hg hc hBk
    by_cases hkl : k < len
    · obtain ⟨e0, e1⟩ := HNk.out.ents k (by rw [HL.out]; exact hkl)
      have Htk : Hid (es.take k ++ [es.getD k (0, 0)] = es.take (k + 1)) := by
        rw [Hid, List.take_succ_eq_append_getElem (by rw [HL.out]; exact hkl)]
        simp [List.getElem?_eq_getElem (show k < es.length by rw [HL.out]; exact hkl)]
      have Hpl : Hid ((es.take k).length < es.length) := by rw [Hid, List.length_take, HL.out]; omega
      generalize es.getD k (0, 0) = x at e0 e1 Htk
      obtain ⟨kk, y⟩ := x
      simp only at e0 e1
      have hki : (k : Int) < (len : Int) := by omega
      obtain ⟨fn, tmps, assign, body, hy, hR⟩ := hY (n - 1) (es.take k) (kk, y) (wr.alloc (.cells #[.string (keyB kk), .int .u64 y] 50)) (hJ _ _ _ none hJk (World.grownBy_alloc _ _ none) (fun r e => by cases e)) Hpl.out
      simp only [encE] at hy
      have HY : Hid (∀ m pre x W, J pre W → pre.length < es.length → YieldAt F m Yba.prog l #[encE x] W fun e W' =>
        (e = .returned (.bool true) ∧ J (pre ++ [x]) W' ∧ Below n₀ W W') ∨ (e = .returned (.bool false) ∧ Jx (pre ++ [x]) W')) := hY
      have HJk : Hid (J (es.take k) wr) := hJk
      clear hY hJk
      gi_wp2_with (first | ((try refine ⟨hdd _, ?_⟩); refine hR.mono ?_; clear hR; rintro e W3 (⟨rfl, hJ3, hb3⟩ | ⟨rfl, hx3⟩)))
      · exact ⟨⟨k + 1, by go_num, by omega, by rw [← Htk.out]; exact hJ3, (hBk.alloc (by have := hBk.size; omega) _).trans hb3⟩, by simp [intOf]; omega⟩
      · go_ret
        exact .inr ⟨rfl, es.take (k + 1), List.take_prefix _ _, by rw [← Htk.out]; exact hx3⟩
    · have rr := HNk.out.right
      have Hfin : Hid (J es wr) := by
        have e : es.take k = es := List.take_of_length_le (by rw [HL.out]; omega)
        rw [e] at hJk
        exact hJk
      clear hJk hY
      gi_wp2
      rw [roundsIn_succ]
      gi_wp2
      go_ret
      exact .inl ⟨rfl, Hfin.out⟩

set_option maxHeartbeats 1000000 in
theorem all1_in (F : Fence) (hd : F.depth = none) (n : Nat) (h19 : F.fn 19) (h20 : F.fn 20) (hro : F.round = none) (l Bt n₀ B : Nat) (root : Option Addr) (es : Es) (J Jx : Es → World → Prop) (hJ : AbidesFrom B J)
    (hY : ∀ pre x W, J pre W → pre.length < es.length → YieldAt F (n - 1) Yba.prog l #[encE x] W fun e W' =>
      (e = .returned (.bool true) ∧ J (pre ++ [x]) W' ∧ Below n₀ W W') ∨ (e = .returned (.bool false) ∧ Jx (pre ++ [x]) W'))
    (W : World) (hBt : W.cell? ⟨Bt, 0, none⟩ = some (.pointer root)) (hT : (es = [] ∧ root = none) ∨ (0 < es.length ∧ ∃ g c cap, root = some ⟨g, 0, none⟩ ∧ g < n₀ ∧ c < n₀ ∧ Node W g c cap es)) (h31 : es.length ≤ 31) (hn₀ : n₀ ≤ W.heap.size) (h0 : J [] W) :
    CallsIn F n Yba.prog 19 #[.func (.yield l) #[] #[], .pointer (some ⟨Bt, 0, none⟩)] W fun e W' => (∃ v, e = .returned v) ∧
      ((∃ ys, ys = es ∧ J ys W') ∨ (∃ pre, pre <+: es ∧ Jx pre W')) := by
  have hdd : ∀ k : Nat, (F.depth.isSome = true → 1 ≤ k) := fun k h => by rw [hd] at h; cases h
  have HY : Hid (∀ m pre x W, J pre W → pre.length < es.length → YieldAt F m Yba.prog l #[encE x] W fun e W' =>
        (e = .returned (.bool true) ∧ J (pre ++ [x]) W' ∧ Below n₀ W W') ∨ (e = .returned (.bool false) ∧ Jx (pre ++ [x]) W')) := fun m pre x W hj hl => yieldAt_any hd m (hY pre x W hj hl)
  clear hY
  rcases hT with ⟨rfl, rfl⟩ | ⟨hpos, g, c, cap, rfl, hg, hc, hN⟩
  · refine callsIn_of_wp Yba.func19 rfl h19 ?_ hro
    simp only [Yba.ntmps19, List.size_toArray, List.length_cons, List.length_nil, Nat.reduceAdd, Nat.reduceSub, Array.replicate_succ, Array.replicate_zero, List.push_toArray, List.append_toArray, List.nil_append, List.cons_append]
    gi_wp2_with ((try refine ⟨hdd _, ?_⟩); gi_at_call 20; refine (ascend_nil F h20 hro _ l _).mono ?_; rintro e W1 ⟨rfl, rfl⟩)
    go_end0
    exact ⟨⟨_, rfl⟩, .inl ⟨_, rfl, h0⟩⟩
  · have hp := ascend_in F hd h20 hro (n - 1) l n₀ B es J Jx hJ HY.out g c cap W hN hg hc hpos h31 hn₀ h0
    have HJ0 : Hid (J [] W) := h0
    clear h0 hN
    refine callsIn_of_wp Yba.func19 rfl h19 ?_ hro
    simp only [Yba.ntmps19, List.size_toArray, List.length_cons, List.length_nil, Nat.reduceAdd, Nat.reduceSub, Array.replicate_succ, Array.replicate_zero, List.push_toArray, List.append_toArray, List.nil_append, List.cons_append]
    gi_wp2_with ((try refine ⟨hdd _, ?_⟩); gi_at_call 20; refine hp.mono ?_; clear hp; rintro e W1 (⟨rfl, hJ1⟩ | ⟨rfl, q, hq, hx⟩))
    · go_end0
      exact ⟨⟨_, rfl⟩, .inl ⟨_, rfl, hJ1⟩⟩
    · go_end0
      exact ⟨⟨_, rfl⟩, .inr ⟨q, hq, hx⟩⟩

set_option maxHeartbeats 1000000 in
theorem all_any (root : Option Addr) (w : World) :
    Calls Yba.prog 12 #[.agg #[.pointer root]] w fun e w' => e = .returned (.func (.func 19) #[] #[.pointer (some ⟨w.heap.size, 0, none⟩)]) ∧ w' = w.alloc (.cells #[.pointer root] 36) := by
  go_enter Yba.func12, Yba.ntmps12
  go_wp2
  go_ret
  exact ⟨rfl, rfl⟩

theorem all_stops (F : Fence) (hd : F.depth = none) (n : Nat) (h19 : F.fn 19) (h20 : F.fn 20) (hro : F.round = none) (Bt n₀ : Nat) (root : Option Addr) (es : Es) (w : World) (hn₀ : n₀ ≤ w.heap.size)
    (hc : w.cell? ⟨Bt, 0, none⟩ = some (.pointer root)) (hT : (es = [] ∧ root = none) ∨ (0 < es.length ∧ ∃ g c cap, root = some ⟨g, 0, none⟩ ∧ g < n₀ ∧ c < n₀ ∧ Node w g c cap es)) (h31 : es.length ≤ 31) :
    SeqStopsK F n Yba.prog 19 #[.pointer (some ⟨Bt, 0, none⟩)] (fun x : Nat × Int => #[encE x]) (Below n₀) (fun ys => ys = es) (fun pre => pre <+: es) es.length w := fun l J Jx W hW hJ _ hY h0 =>
  all1_in F hd n h19 h20 hro l Bt n₀ W.heap.size root es J Jx hJ hY W (cell_later hW hc) (by rcases hT with h | ⟨hp, g, c, cap, hr, hg, hcc, hN⟩; exact .inl h; exact .inr ⟨hp, g, c, cap, hr, hg, hcc, hN.below hW⟩) h31 (Nat.le_trans hn₀ hW.size) h0

end Go.Proofs.Ybulkajsu.C
