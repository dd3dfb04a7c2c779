import Derived.Test.YbulkajukSeqInt
import Derived.Deep.QuietTactic
import Derived.BigQuiet
namespace Go.Proofs.Ybulkajuk.A
open Go.RowKit Go.Shelf C
attribute [local go_sem] Oper.semAt_some

set_option maxRecDepth 100000 in
set_option maxHeartbeats 1000000 in
theorem maxInt (N : Nat) (w0 w : World) (bc bs bp len cap : Nat) (a0 : Option Addr) (zs : List Int) (hS : Src N w0 a0 len zs) (hl : len ≤ 1024) (hN : N ≤ bc) (hN0 : N ≤ w0.heap.size) (d1 : bc < bs) (d2 : bs < bp) (d3 : bp < w.heap.size)
    (b1 : Boxed w bc 3 (.int .i64 0)) (b4 : Boxed w bs 22 (.slice a0 len cap)) (b5 : Boxed w bp 27 (.pointer (some ⟨bc, 0, none⟩))) (hB : Below N w0 w) :
    Calls Yba.prog 8 #[.func (.func 21) #[] #[.pointer (some ⟨bs, 0, none⟩), .pointer (some ⟨bp, 0, none⟩)]] w fun e w' => e = .returned (.tuple #[.int .i64 (mx (zs.take len)), .bool (!(zs.take len).isEmpty)]) ∧ Boxed w' bc 3 (.int .i64 ((zs.take len).length + 0 : Nat)) ∧ Below N w0 w' := by
  refine (callsIn_wide (n := 5)).1 ?_
  refine callsIn_of_wp_marks Yba.func8 rfl trivial ?_ rfl
  simp only [Yba.ntmps8, List.size_toArray, List.length_cons, List.length_nil, Nat.reduceAdd, Nat.reduceSub, Array.replicate_succ, Array.replicate_zero, List.push_toArray, List.append_toArray, List.nil_append, List.cons_append]
  have hI0 : Ic N w0 bc bs bp w.heap.size (w.heap.size + 1) (.slice a0 len cap) 0 [] ((w.alloc (.cells #[.int .i64 0] 3)).alloc (.cells #[.bool false] 4)) := by
    refine ⟨⟨⟨(b1.alloc _).alloc _, (Boxed.new w 3 (.int .i64 0)).alloc _, ?_⟩, (b4.alloc _).alloc _, (b5.alloc _).alloc _⟩, (hB.alloc (by omega) _).alloc (by simp; omega) _⟩
    exact C.Boxed.at' _ 4 _ _ (by simp)
  have HI0 : Hid (_) := hI0
  clear hI0 b1 b4 b5 hB
  gi_wp2_with fail
  have hsz : ((w.alloc (.cells #[.int .i64 0] 3)).alloc (.cells #[.bool false] 4)).heap.size = w.heap.size + 1 + 1 := by simp
  have HI1 := HI0.out
  clear HI0
  generalize (w.alloc (.cells #[.int .i64 0] 3)).alloc (.cells #[.bool false] 4) = w2 at hsz HI1 ⊢
  obtain ⟨bg, hbg⟩ : ∃ bg, bg = w.heap.size := ⟨_, rfl⟩
  rw [← hbg] at hsz HI1 d3 ⊢
  clear hbg
  have hNw : N ≤ w2.heap.size := by omega
  have hd5 : bg + 1 < w2.heap.size := by omega
  refine rangeFunc_wr (F := Fence.wide) (n := 5) rfl (by omega) (gf := 21) (lb := #[.pointer (some ⟨bs, 0, none⟩), .pointer (some ⟨bp, 0, none⟩)]) rfl trivial (enters_of Yba.func21 (by kernel_rfl) rfl) (encs := fun x : Int => #[.int .i64 x]) (fun _ => rfl)
    (Ic N w0 bc bs bp bg (bg + 1) (.slice a0 len cap) 0) (Ic N w0 bc bs bp bg (bg + 1) (.slice a0 len cap) 1) (Ic_own hNw hN0) (Ic_own hNw hN0) HI1 (fun x => { tmps := #[.func (.func 21) #[] #[.pointer (some ⟨bs, 0, none⟩), .pointer (some ⟨bp, 0, none⟩)], undef, .int .i64 0, .bool false, .pointer (some ⟨bg, 0, none⟩), .pointer (some ⟨bg + 1, 0, none⟩), .int .i64 x, .func (.func 21) #[] #[.pointer (some ⟨bs, 0, none⟩), .pointer (some ⟨bp, 0, none⟩)], .int .i64 x, undef, undef, undef, undef, undef, undef, undef, undef], defers := [] }) (zs.take len) ?seq ?assign ?body ?done
  case seq =>
    intro r W h1 h2 h3 h4
    exact seq21 (5 - 1) w2.heap.size N w0 bc bs bp bg (bg + 1) len cap a0 zs hS hl hN d1 d2 d3 (by omega) hd5 r W h1 h2 h3 (fun pre x W1 k1 k2 k3 => h4 pre x W1 k1 k2 k3)
  case assign =>
    intro l x W K hK
    gi_wp2_with fail
    exact hK
  case body =>
    intro l pre x W hI
    obtain ⟨⟨⟨b1, b2, b3⟩, b4, b5⟩, hB⟩ := hI
    have m1 : bc ≠ bg := by omega
    have m2 : bs ≠ bg := by omega
    have m3 : bp ≠ bg := by omega
    have m4 : bc ≠ bg + 1 := by omega
    have m5 : bs ≠ bg + 1 := by omega
    have m6 : bp ≠ bg + 1 := by omega
    have m7 : N ≤ bg := by omega
    have m8 : N ≤ bg + 1 := by omega
    have m9 : bg ≠ bg + 1 := by omega
    have m10 : bg + 1 ≠ bg := by omega
    have c2 := b2.cell
    have f2 := b2.frozen
    have c3 := b3.cell
    have f3 := b3.frozen
    have HB : Hid (_) := And.intro b1 (And.intro b4 (And.intro b5 (And.intro hB (And.intro b2 b3))))
    clear b1 b2 b3 b4 b5 hB HI1 hS hl hN hN0 d1 d2 d3 hsz hNw hd5
    cases pre with
    | nil =>
      simp only [List.isEmpty_nil, Bool.not_true] at c3
      gi_wp2_with fail
      obtain ⟨b1, b4, b5, hB, b2, b3⟩ := HB.out
      refine ⟨((KeepsOthers.setCell _ _ _).trans (KeepsOthers.setCell _ _ _)).from _, ⟨⟨⟨bset (bset b1 m1) m4, bset (b2.set _) m9, (bset b3 m10).set _⟩, bset (bset b4 m2) m5, bset (bset b5 m3) m6⟩, (hB.setCell (p := ⟨bg, 0, none⟩) m7 _).setCell (p := ⟨bg + 1, 0, none⟩) m8 _⟩⟩
    | cons y t =>
      have hst := mx_snoc y t x
      simp only [List.isEmpty_cons, Bool.not_false] at c3
      have Hst : Hid (_) := hst
      clear hst
      generalize hM : mx (y :: t) = M at c2 Hst
      have hln : (y :: (t ++ [x])).length + 0 = (y :: t).length + 1 := by simp
      gi_wp2_with fail
      all_goals
        (obtain ⟨b1, b4, b5, hB, b2, b3⟩ := HB.out
         refine ⟨(KeepsOthers.setCell _ _ _).from _, ⟨⟨⟨?_, ?_, bset b3 m10⟩, bset b4 m2, bset b5 m3⟩, hB.setCell (p := ⟨bg, 0, none⟩) m7 _⟩⟩
         · rw [hln]
           exact bset b1 m1
         · have e := Hst.out
           rw [List.cons_append] at e
           rw [e]
           first
             | (rw [if_pos (by assumption)]; exact b2.set _)
             | (rw [if_neg (by omega)]; exact b2.set _))
  case done =>
    intro D W hD hI hK
    obtain ⟨⟨⟨b1, b2, b3⟩, b4, b5⟩, hB⟩ := hI
    have c2 := b2.cell
    have c3 := b3.cell
    have hbD : bc ≠ D := by
      intro h
      subst h
      have := (show W.heap[bc]? = _ from b1).symm.trans hK
      cases this
    have HB : Hid (_) := And.intro b1 (And.intro hB (And.intro hK (And.intro hbD (Nat.le_trans hNw hD))))
    clear hbD
    clear b1 b2 b3 b4 b5 hB HI1 hS hl hN hN0 d1 d2 d3 hsz hNw hd5
    gi_wp2_with fail
    refine wpIn_wide.2 ?_
    go_quiet (fail)
    gi_wp2_with fail
    obtain ⟨b1, hB, hK', hbD, hND⟩ := HB.out
    refine ⟨by simp, .inl ⟨_, _, rfl, run_takeDeferred (w := W.drewN nq) hK', ?_⟩⟩
    refine ⟨_, results_tmp2 rfl _ _ _, rfl, (World.putObj_heap_other hbD).trans b1, ?_⟩
    exact (below_dn hB).trans ((Below.refl N (W.drewN nq)).grown (grownBy_putObj' (W.drewN nq) D _) (Nat.le_trans hND (Nat.le_of_lt (Array.getElem?_eq_some_iff.1 hK').1)) (fun k e => by cases e; exact hND))
end Go.Proofs.Ybulkajuk.A
