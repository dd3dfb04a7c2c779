import Derived.Test.YbulkajukRange
import Derived.RangeFuncBound
import Derived.RangeFuncCalls
import Derived.RangeFuncLeaves
import Derived.Shelf.Abstract
import Derived.Shelf.RegionOpen
import Derived.OwnWalkIn
import Derived.TacticsInMore
import Derived.LoopNIn
import Derived.LoopIn
import Derived.StillTailTactics
namespace Go.Proofs.Ybulkajuk.A
open Go.RowKit Go.Shelf C
attribute [local go_sem] Oper.semAt_some

/-- The greatest of a list, as Max reckons it. -/
def mx : List Int → Int
  | [] => 0
  | x :: r => r.foldl (fun a b => if a < b then b else a) x
theorem mx_one (x : Int) : mx [x] = x := rfl
theorem mx_snoc (y : Int) (r : List Int) (x : Int) : mx (y :: r ++ [x]) = (if mx (y :: r) < x then x else mx (y :: r)) := by
  simp only [mx, List.cons_append, List.foldl_append, List.foldl_cons, List.foldl_nil]
  rfl

/-- The state of Max over ints: the counter of calls (c more than values taken in), the greatest so far, whether one was found; the iterator's boxes; what lay below N. -/
def Ic (N : Nat) (w0 : World) (bc bs bp bg bf : Nat) (sv : Value) (c : Nat) (pre : List Int) (W : World) : Prop :=
  ((Boxed W bc 3 (.int .i64 (pre.length + c : Nat)) ∧ Boxed W bg 3 (.int .i64 (mx pre)) ∧ Boxed W bf 4 (.bool (!pre.isEmpty))) ∧ (Boxed W bs 22 sv ∧ Boxed W bp 27 (.pointer (some ⟨bc, 0, none⟩)))) ∧ Below N w0 W

theorem Ic_own {N : Nat} {w0 : World} {bc bs bp bg bf c B : Nat} {sv : Value} (h1 : N ≤ B) (h2 : N ≤ w0.heap.size) : OwnFrom B (Ic N w0 bc bs bp bg bf sv c) :=
  OwnFrom.and (OwnFrom.and (OwnFrom.and (Own.from (boxed_own _ _ _) _) (OwnFrom.and (Own.from (boxed_own _ _ _) _) (Own.from (boxed_own _ _ _) _))) (OwnFrom.and (Own.from (boxed_own _ _ (fun _ => sv)) _) (Own.from (boxed_own _ _ (fun _ => .pointer (some ⟨bc, 0, none⟩))) _))) (ownFrom_below (by omega) (by omega))

theorem room_of_none {F : Fence} (hd : F.depth = none) (k : Nat) : F.room k := fun d h => by rw [hd] at h; cases h
theorem yieldAt_any {F : Fence} (hd : F.depth = none) {m : Nat} (m' : Nat) {P : Program} {l : Nat} {args : Array Value} {W : World} {R : Ending → World → Prop} (h : YieldAt F m P l args W R) : YieldAt F m' P l args W R := by
  obtain ⟨fn, tmps, assign, body, hy, hR⟩ := h
  exact ⟨fn, tmps, assign, body, hy, ⟨hR.1, fun c cs _ => hR.2 c cs (room_of_none hd _)⟩⟩
/-- The kit's law on a drawn region with a forced tail, the world under a name. -/
theorem still_tail_at {P : Program} {id : Nat} {Q : Exit → Act → World → Prop} {a : Act} {w : World} {l : List Oper} (n : Nat) (hm : P.follows .mixedOrders = true) (hB : Region.lexTailB .any l.toArray n = true)
    (h : ∀ W, W = w.drew → wpStill P l.toArray W (fun a' => wpList P l.toArray Q (l.drop n) a' W) (l.take n) a) : (Code.region id l.toArray true).wp P Q a w :=
  wp_region_still_tail n hm hB (h _ rfl)
theorem box_drew {W : World} {b : Nat} {t : TypeId} {v : Value} (h : Boxed W b t v) : Boxed W.drew b t v := h

theorem wrapk (k : Nat) (h : k ≤ 1024) : wrap64 ((k : Int) + 1) = (k : Int) + 1 := IntWalk.wrap64_in _ (by omega)
theorem meas {k len : Nat} (h : k < len) : len - (intOf (.int .i64 ((k : Int) + 1))).toNat < len - (intOf (.int .i64 (k : Int))).toNat := by
  simp only [intOf]
  omega
theorem blk_set {W : World} {k b : Nat} {o : Obj} {v : Value} (h : W.heap[k]? = some o) (hne : k ≠ b) : (W.setCell ⟨b, 0, none⟩ v).heap[k]? = some o :=
  (Below.heap_setCell _ _ _ k hne).trans h

set_option maxRecDepth 100000 in
set_option maxHeartbeats 1000000 in
theorem seq21 (n D N : Nat) (w0 : World) (bc bs bp bg bf len cap : Nat) (a0 : Option Addr) (zs : List Int) (hS : Src N w0 a0 len zs) (hl : len ≤ 1024) (hN : N ≤ bc) (d1 : bc < bs) (d2 : bs < bp) (d3 : bp < bg) (d4 : bg < bf) (d5 : bf < D) (r : Loop) (W : World)
    (hI : Ic N w0 bc bs bp bg bf (.slice a0 len cap) 0 [] W) (hL : W.heap[D + 1]? = some (.loop r)) (hK : W.heap[D]? = some (.deferred (some [])))
    (hY : ∀ pre x W1, Ic N w0 bc bs bp bg bf (.slice a0 len cap) 1 pre W1 → W1.heap[D + 1]? = some (.loop r) → W1.heap[D]? = some (.deferred (some [])) →
        YieldAt Fence.wide (n - 1) Yba.prog (D + 1) #[.int .i64 x] W1 fun e W' => e = .returned (.bool true) ∧ Ic N w0 bc bs bp bg bf (.slice a0 len cap) 0 (pre ++ [x]) W' ∧ W'.heap[D + 1]? = some (.loop r) ∧ W'.heap[D]? = some (.deferred (some []))) :
    CallsIn Fence.wide n Yba.prog 21 (#[.func (.yield (D + 1)) #[] #[], .pointer (some ⟨bs, 0, none⟩), .pointer (some ⟨bp, 0, none⟩)]) W fun e W' => (∃ v, e = .returned v) ∧ Ic N w0 bc bs bp bg bf (.slice a0 len cap) 0 (zs.take len) W' ∧ W'.heap[D + 1]? = some (.loop r) ∧ W'.heap[D]? = some (.deferred (some [])) := by
  have HY : Hid (∀ m pre x W1, Ic N w0 bc bs bp bg bf (.slice a0 len cap) 1 pre W1 → W1.heap[D + 1]? = some (.loop r) → W1.heap[D]? = some (.deferred (some [])) →
        YieldAt Fence.wide m Yba.prog (D + 1) #[.int .i64 x] W1 fun e W' => e = .returned (.bool true) ∧ Ic N w0 bc bs bp bg bf (.slice a0 len cap) 0 (pre ++ [x]) W' ∧ W'.heap[D + 1]? = some (.loop r) ∧ W'.heap[D]? = some (.deferred (some []))) := fun m pre x W1 h1 h2 h3 => yieldAt_any rfl m (hY pre x W1 h1 h2 h3)
  have HI : Hid (Ic N w0 bc bs bp bg bf (.slice a0 len cap) 0 [] W ∧ W.heap[D + 1]? = some (.loop r) ∧ W.heap[D]? = some (.deferred (some []))) := ⟨hI, hL, hK⟩
  have HSrc : Hid (Src N w0 a0 len zs) := hS
  clear hY hI hL hK hS
  refine callsIn_of_wp Yba.func21 rfl trivial ?_ rfl
  simp only [Yba.ntmps21, List.size_toArray, List.length_cons, List.length_nil, Nat.reduceAdd, Nat.reduceSub, Array.replicate_succ, Array.replicate_zero, List.push_toArray, List.append_toArray, List.nil_append, List.cons_append]
  gi_wp2
  gi_loopw [4] (fun i wr => ∃ k : Nat, i = .int .i64 k ∧ k ≤ len ∧ Ic N w0 bc bs bp bg bf (.slice a0 len cap) 0 (zs.take k) wr ∧ wr.heap[D + 1]? = some (.loop r) ∧ wr.heap[D]? = some (.deferred (some []))) (fun i _ => len - (intOf i).toNat)
  case atStart => exact ⟨0, rfl, Nat.zero_le _, HI.out⟩
  case round =>
    obtain ⟨k, rfl, hk, hIk, hLk, hKk⟩ := hrel
    have hB := hIk.2
    obtain ⟨⟨⟨b1, b2, b3⟩, b4, b5⟩, right⟩ := hIk
    have c1 := b1.cell
    have f1 := b1.frozen
    have c4 := b4.cell
    have c5 := b5.cell
    have m2 : bg ≠ bc := by omega
    have m3 : bf ≠ bc := by omega
    have m4 : bs ≠ bc := by omega
    have m5 : bp ≠ bc := by omega
    have m6 : D + 1 ≠ bc := by omega
    have m7 : D ≠ bc := by omega
    have n4 : bc ≠ bs := by omega
    have n5 : bc ≠ bp := by omega
    have HB : Hid (Below N w0 wr) := hB
    have HLK : Hid (wr.heap[D + 1]? = some (.loop r) ∧ wr.heap[D]? = some (.deferred (some []))) := ⟨hLk, hKk⟩
    have HIk : Hid (Boxed wr bc 3 (.int .i64 ((zs.take k).length + 0 : Nat)) ∧ Boxed wr bg 3 (.int .i64 (mx (zs.take k))) ∧ Boxed wr bf 4 (.bool (!(zs.take k).isEmpty)) ∧ Boxed wr bs 22 (.slice a0 len cap) ∧ Boxed wr bp 27 (.pointer (some ⟨bc, 0, none⟩))) := ⟨b1, b2, b3, b4, b5⟩
    clear hLk hKk hB b1 b2 b3 b4 b5
    by_cases hkl : k < len
    · obtain ⟨hzl, h0 | ⟨x, rfl, hx⟩⟩ := HSrc.out
      · omega
      · have hlk : (zs.take k).length = k := by rw [List.length_take]; omega
        rw [hlk] at c1
        simp only [Nat.add_zero] at c1
        have hkI : (k : Int) < (len : Int) := Int.ofNat_lt.2 hkl
        have hw1 : wrap64 ((k : Int) + 1) = (k : Int) + 1 := wrapk k (Nat.le_trans hk hl)
        have q1 : decide (k < len) = true := by simpa using hkl
        have hHx : Hid (∀ wr, Below N w0 wr → ∀ i, i < len → wr.cell? (x.add i) = some (.int .i64 (zs.getD i 0))) := hx
        clear hx
        gi_wp2
        refine wpIn_wide.2 ?_
        refine still_tail_at 6 (by kernel_rfl) (by kernel_rfl) (fun W' hW' => ?_)
        have c1' : W'.cell? ⟨bc, 0, none⟩ = some (.int .i64 k) := by rw [hW']; exact c1
        have f1' : W'.frozen? ⟨bc, 0, none⟩ = false := by rw [hW']; exact f1
        have c4' : W'.cell? ⟨bs, 0, none⟩ = some (.slice (some x) len cap) := by rw [hW']; exact c4
        have c5' : W'.cell? ⟨bp, 0, none⟩ = some (.pointer (some ⟨bc, 0, none⟩)) := by rw [hW']; exact c5
        have HIk' : Hid (Boxed W' bg 3 (.int .i64 (mx (zs.take k))) ∧ Boxed W' bf 4 (.bool (!(zs.take k).isEmpty)) ∧ Boxed W' bs 22 (.slice (some x) len cap) ∧ Boxed W' bp 27 (.pointer (some ⟨bc, 0, none⟩)) ∧ Boxed W' bc 3 (.int .i64 (k : Nat)) ∧ Below N w0 W' ∧ W'.heap[D + 1]? = some (.loop r) ∧ W'.heap[D]? = some (.deferred (some []))) := by
          obtain ⟨v1, v2, v3, v4, v5⟩ := HIk.out
          rw [hlk] at v1
          rw [Hid, hW']
          exact ⟨v2, v3, v4, v5, v1, HB.out.drew, HLK.out⟩
        clear hW' c1 f1 c4 c5 HIk HB HLK
        simp only [List.take_succ_cons, List.take_zero, List.drop_succ_cons, List.drop_zero]
        repeat still_step
        refine wpStill_nil ?_
        obtain ⟨v2, v3, v4, v5, v1, vB, vL, vK⟩ := HIk'.out
        have hB2 : Below N w0 (W'.setCell ⟨bc, 0, none⟩ (.int .i64 ((k : Int) + 1))) := vB.setCell (p := ⟨bc, 0, none⟩) hN _
        have hI1 : Ic N w0 bc bs bp bg bf (.slice (some x) len cap) 1 (zs.take k) (W'.setCell ⟨bc, 0, none⟩ (.int .i64 ((k : Int) + 1))) := by
          refine ⟨⟨⟨?_, bset v2 m2, bset v3 m3⟩, bset v4 m4, bset v5 m5⟩, hB2⟩
          rw [hlk]
          exact v1.set _
        have hL1 := blk_set (v := .int .i64 ((k : Int) + 1)) vL m6
        have hK1 := blk_set (v := .int .i64 ((k : Int) + 1)) vK m7
        have e0 := hHx.out _ hB2 k hkl
        obtain ⟨fn, tmps, assign, body, hy, hR⟩ := HY.out (n - 1) (zs.take k) (zs.getD k 0) _ hI1 hL1 hK1
        have Hst : Hid (zs.take k ++ [zs.getD k 0] = zs.take (k + 1)) := take_step zs k (Nat.lt_of_lt_of_le hkl hzl)
        have HR : Hid (RoundIn Fence.wide (n - 1) Yba.prog (D + 1) fn tmps assign body (W'.setCell ⟨bc, 0, none⟩ (.int .i64 ((k : Int) + 1))) _) := hR
        clear v1 v2 v3 v4 v5 vB vL vK hI1 hB2 hL1 hK1 HIk' hR
        have HE0 : Hid (_) := e0
        have HYy : Hid (_) := hy
        clear e0 hy
        have hw2 : IntKind.i64.wrap ((k : Int) + 1) = (k : Int) + 1 := by rw [IntWalk.i64_left]; exact hw1
        have HAr : Hid (k ≤ len ∧ k < len) := ⟨hk, hkl⟩
        have HM4 : Hid (bs ≠ bc) := m4
        clear n4 n5 m2 m3 m4 m5 m6 m7 d1 d2 d3 d4 d5 hN hl hk hkl hzl hlk
        generalize hQQ : (Exit.then _ _ : Exit → Act → World → Prop) = QQ
        have HQQ : Hid (_ = QQ) := hQQ
        clear hQQ
        go_wp2_with fail
        rw [← HQQ.out]
        clear HQQ QQ
        have e0 := HE0.out
        have hy := HYy.out
        simp only [List.getD_eq_getElem?_getD] at e0 hy
        clear HE0 HYy
        have c4'' : (W'.setCell ⟨bc, 0, none⟩ (.int .i64 ((k : Int) + 1))).cell? ⟨bs, 0, none⟩ = some (.slice (some x) len cap) := (World.cell?_of_block (Below.heap_setCell _ _ _ bs HM4.out)).trans c4'
        generalize W'.setCell ⟨bc, 0, none⟩ (.int .i64 ((k : Int) + 1)) = W2 at e0 hy HR c4'' ⊢
        clear c1' f1' c4' c5'
        gi_wp2_with fail
        refine ⟨fun h => (by cases h), RoundIn.mono HR.out ?_⟩
        rintro e W3 ⟨rfl, hI3, hL3, hK3⟩
        clear hw2
        gi_wp2_with fail
        rw [Hst.out] at hI3
        rw [hw1]
        exact ⟨⟨k + 1, rfl, HAr.out.2, hI3, hL3, hK3⟩, meas HAr.out.2⟩
    · have q1 : decide (k < len) = false := by simpa using hkl
      clear right n4 n5 m2 m3 m4 m5 m6 m7 d1 d2 d3 d4 d5 hN hl
      have HAr : Hid (k = len) := Nat.le_antisymm hk (Nat.le_of_not_lt hkl)
      clear hk hkl
      gi_wp2_with fail
      go_end0
      have e := HAr.out
      subst e
      obtain ⟨v1, v2, v3, v4, v5⟩ := HIk.out
      exact ⟨⟨_, rfl⟩, ⟨⟨⟨v1, v2, v3⟩, v4, v5⟩, HB.out⟩, HLK.out⟩
end Go.Proofs.Ybulkajuk.A
