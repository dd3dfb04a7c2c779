import Derived.Test.YbulkajsuRows
import Derived.WalkKit
import Derived.ProofKit
import Derived.OpenShut
import Derived.ShutString
import Derived.ChangeOld
import Derived.Below
import Derived.Lib.SmallJoins
import Derived.Test.YbulkajsuSumWalks
namespace Go.Proofs.Ybulkajsu.lawS1775ASum
open Go.ChangeShapes Go.WideShapes Go.ChangeAt Go.RowKit Go.Joins

theorem own : ownKnob Yba.prog.godebug = none := by kernel_rfl
theorem laidOut : laidOutB Yba.prog = true := by kernel_rfl
theorem cells23 : Yba.prog.cellsOf 23 = 4 := by kernel_rfl

set_option maxRecDepth 100000 in
theorem lifted (os : Os) (started : os.Started) (H : Type) (enc : TypeId × Value → H) :
    ReturnsInHanded {} Yba.checked os 3 .any (Rows.lawS1775ASumSpec.pre6 enc Yba.prog Yba.f3 Rows.lawS1775ASumRow.domain false) (Rows.lawS1775ASumSpec.post enc Yba.prog Yba.f3 false true false false) := by
  refine returnsInHanded_of_change (C := Yba.checked) own started (by kernel_rfl) Yba.func3
    (ChangeSpec.witness6 (enc := enc) (C := Yba.checked) false ⟨#[], #[.agg #[.int .i64 0, .int .i64 0, .int .i64 0, .int .i64 0], .agg #[.int .i64 0, .int .i64 0, .int .i64 0, .int .i64 0]], []⟩ 8 (by kernel_rfl) (by kernel_rfl) (by kernel_rfl) (by kernel_rfl)) ?_
  intro W base args ds gs before hval0 hW hcnd _
  have hval : ∀ (j : Nat) t v, Yba.f3.params[j]? = some t → args[j]? = some v → Value.okWide Yba.prog W .any base t v := hval0
  have hW' := hW
  obtain ⟨p, q, hA0, hV, rfl, hfz, hnd⟩ := hW
  have hA : DataW.TrodAll enc Yba.prog W 0 (fun _ => true) true Yba.f3.params.toList args.toList ds p := hA0
  rw [Yba.params3] at hA hval
  obtain ⟨v0, vs0, d0, ds0, p0, q0, hargs, rfl, rfl, h0, r0⟩ := trodAll_cons hA
  obtain ⟨v1, vs1, d1, ds1, p1, q1, rfl, rfl, rfl, h1, r1⟩ := trodAll_cons r0
  obtain ⟨rfl, rfl, rfl⟩ := trodAll_nil r1
  obtain rfl : args = #[v0, v1] := by cases args; simp_all
  obtain ⟨rfl, rfl⟩ := trodVars_none hV
  have k0 := h0
  have lt0 : ∀ x ∈ p0, x.block < W.heap.size := by obtain ⟨m, hm⟩ := k0; exact DataW.trod_lt m _ _ _ hm
  have k1 := h1
  have lt1 : ∀ x ∈ p1, x.block < W.heap.size := by obtain ⟨m, hm⟩ := k1; exact DataW.trod_lt m _ _ _ hm
  obtain ⟨a, b, c, d, hv0⟩ : ∃ a b c d : Int, v0 = .agg #[.int .i64 a, .int .i64 b, .int .i64 c, .int .i64 d] := by
    obtain ⟨c0, c1, c2, c3, y0, y1, y2, y3, n, rfl, _, _, e0, e1, e2, e3⟩ := open_agg4 Yba.underlying23 (by kernel_rfl) cells23 (hval 0 23 v0 rfl rfl) h0
    obtain ⟨a, x0, _, _⟩ := DataW.trod_int Yba.underlying3 e0
    obtain ⟨b, x1, _, _⟩ := DataW.trod_int Yba.underlying3 e1
    obtain ⟨c, x2, _, _⟩ := DataW.trod_int Yba.underlying3 e2
    obtain ⟨d, x3, _, _⟩ := DataW.trod_int Yba.underlying3 e3
    simp at x0 x1 x2 x3
    subst x0 x1 x2 x3
    exact ⟨a, b, c, d, rfl⟩
  obtain ⟨a', b', c', d', hv1⟩ : ∃ a b c d : Int, v1 = .agg #[.int .i64 a, .int .i64 b, .int .i64 c, .int .i64 d] := by
    obtain ⟨c0, c1, c2, c3, y0, y1, y2, y3, n, rfl, _, _, e0, e1, e2, e3⟩ := open_agg4 Yba.underlying23 (by kernel_rfl) cells23 (hval 1 23 v1 rfl rfl) h1
    obtain ⟨a, x0, _, _⟩ := DataW.trod_int Yba.underlying3 e0
    obtain ⟨b, x1, _, _⟩ := DataW.trod_int Yba.underlying3 e1
    obtain ⟨c, x2, _, _⟩ := DataW.trod_int Yba.underlying3 e2
    obtain ⟨d, x3, _, _⟩ := DataW.trod_int Yba.underlying3 e3
    simp at x0 x1 x2 x3
    subst x0 x1 x2 x3
    exact ⟨a, b, c, d, rfl⟩
  subst hv0
  subst hv1
  clear hA0 hval0
  refine (Sum.walk a b c d a' b' c' d' W).mono fun e W' ⟨he, bel⟩ => ?_
  subst he
  exact ⟨_, rfl, _, _, _, [], _, [], hW', trodAll_mk1 (shut_bool Yba.underlying4 _), (trodAll_cons_mk (Below.trod laidOut (by kernel_rfl) (of_decide_eq_true (by kernel_rfl)) k0 bel lt0) (trodAll_cons_mk (Below.trod laidOut (by kernel_rfl) (of_decide_eq_true (by kernel_rfl)) k1 bel lt1) trodAll_mk0)), rfl, bel.frame _, fun h => by cases h⟩

theorem over : Rows.lawS1775ASumRow.holds Yba.pinned (OpenSpec.ofChange Rows.lawS1775ASumSpec) :=
  OpenClaim.holds_of_wide 3 Yba.f3 rfl rfl rfl rfl rfl rfl rfl ⟨rfl, rfl, rfl, rfl, rfl⟩ rfl rfl rfl rfl rfl (by kernel_rfl) Yba.func3 (by kernel_rfl)
    (of_decide_eq_true (by kernel_rfl)) (by unfold Func.isWrapper; first | (rw [if_pos (by decide +kernel)]; kernel_rfl) | (rw [if_neg (by decide +kernel)]; exact ⟨rfl, rfl⟩))
    (fun os started H enc _ => lifted os started H enc)

/-- THE STATEMENT -/
theorem proved : Rows.LawS1775ASumSaid := over
#print axioms proved
end Go.Proofs.Ybulkajsu.lawS1775ASum
