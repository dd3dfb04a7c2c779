import Derived.Test.YbulkajsuWith
namespace Go.Proofs.Ybulkajsu.C
open Go.RowKit

theorem ckeyL (q : Int) (k : Nat) (hq : q = (k : Int)) (hk : k < 4) (w : World) :
    Calls Yba.prog 10 #[.int .i64 q] w fun e w' => e = .returned (.string (keyB (rk k))) ∧ w' = w := by
  subst hq; exact ckey k hk w

theorem wrapU (y : Int) (h1 : 0 ≤ y) (h2 : y ≤ 255) : IntKind.u64.wrap y = y := by
  simp [IntKind.wrap, IntKind.bits, IntKind.signed]; omega

/-- A slice of bytes as the walk wants it: element j lies at offset off + j of block b. -/
def Bytes (w : World) (a : Option Addr) (len : Nat) (f : Nat → Int) : Prop :=
  ∀ j, j < len → (∃ b off, a = some ⟨b, off, none⟩ ∧ w.cell? ⟨b, off + j, none⟩ = some (.int .u8 (f j))) ∧ 0 ≤ f j ∧ f j ≤ 255
theorem Bytes.below {w w' : World} {a : Option Addr} {len : Nat} {f : Nat → Int} (h : Bytes w a len f) (hb : Below w.heap.size w w') : Bytes w' a len f :=
  fun j hj => by
    obtain ⟨⟨b, off, e, hc⟩, h1⟩ := h j hj
    exact ⟨⟨b, off, e, cell_later hb hc⟩, h1⟩

/-- The four values by index of zzs1775ckey, each a byte. -/
def Four (c0 c1 c2 c3 : Int) : Prop := (0 ≤ c0 ∧ c0 ≤ 255) ∧ (0 ≤ c1 ∧ c1 ≤ 255) ∧ (0 ≤ c2 ∧ c2 ≤ 255) ∧ (0 ≤ c3 ∧ c3 ≤ 255)

theorem cell_set_ne {w : World} {b b' o o' : Nat} {x : Value} (h : ¬ b = b') : (w.setCell ⟨b', o', none⟩ x).cell? ⟨b, o, none⟩ = w.cell? ⟨b, o, none⟩ :=
  World.cell?_setCell_other _ _ _ _ (fun e => h (by injection e with e1; exact e1.symm))

theorem Tree.agree {w w' : World} {root : Option Addr} {es : Es} (h : Tree w root es) (hw : ∀ b o, (∃ a n c, w.cell? ⟨b, 0, none⟩ = some (.slice a n c)) ∨ (∃ x, w.cell? ⟨b, 0, none⟩ = some (.string x)) → w'.cell? ⟨b, o, none⟩ = w.cell? ⟨b, o, none⟩) : Tree w' root es := by
  rcases h with h | ⟨hpos, g, c, cap, hr, hN⟩
  · exact .inl h
  · have og := fun o => hw g o (.inl ⟨_, _, _, hN.chunk⟩)
    have oc := fun o => hw c o (.inr ⟨_, by simpa using (hN.ents 0 hpos).1⟩)
    exact .inr ⟨hpos, g, c, cap, hr, by rw [og]; exact hN.chunk, by rw [og]; exact hN.left, by rw [og]; exact hN.right, by rw [og]; exact hN.size, by rw [og]; exact hN.count, fun j hj => by rw [oc, oc]; exact hN.ents j hj, hN.room⟩

/-- What holds between two rounds: m's box at B + 2, cur's box at B + 3. -/
structure Inv (w wr : World) (root : Option Addr) (c0 c1 c2 c3 : Int) : Prop where
  m0 : wr.cell? ⟨w.heap.size + 1 + 1, 0, none⟩ = some (.pointer root)
  m1 : wr.cell? ⟨w.heap.size + 1 + 1, 1, none⟩ = some (.int .u64 0)
  fm : wr.frozen? ⟨w.heap.size + 1 + 1, 0, none⟩ = false
  k0 : wr.cell? ⟨w.heap.size + 1 + 1 + 1, 0, none⟩ = some (.int .u64 c0)
  k1 : wr.cell? ⟨w.heap.size + 1 + 1 + 1, 1, none⟩ = some (.int .u64 c1)
  k2 : wr.cell? ⟨w.heap.size + 1 + 1 + 1, 2, none⟩ = some (.int .u64 c2)
  k3 : wr.cell? ⟨w.heap.size + 1 + 1 + 1, 3, none⟩ = some (.int .u64 c3)
  fk : ∀ j, wr.frozen? ⟨w.heap.size + 1 + 1 + 1, j, none⟩ = false
  r0 : wr.cell? ⟨w.heap.size, 0, none⟩ = some (.pointer none)
  r1 : wr.cell? ⟨w.heap.size, 1, none⟩ = some (.int .u64 0)
  fr : ∀ j, wr.frozen? ⟨w.heap.size, j, none⟩ = false
  s0 : wr.cell? ⟨w.heap.size + 1, 0, none⟩ = some (.int .u64 0)
  s1 : wr.cell? ⟨w.heap.size + 1, 1, none⟩ = some (.int .u64 0)
  s2 : wr.cell? ⟨w.heap.size + 1, 2, none⟩ = some (.int .u64 0)
  s3 : wr.cell? ⟨w.heap.size + 1, 3, none⟩ = some (.int .u64 0)
  fs : ∀ j, wr.frozen? ⟨w.heap.size + 1, j, none⟩ = false
  four : Four c0 c1 c2 c3
  tree : Tree wr root (mk c3 c0 c2 c1)
  bel : Below w.heap.size w wr

theorem Inv.later {w wr w1 : World} {root : Option Addr} {c0 c1 c2 c3 : Int} (h : Inv w wr root c0 c1 c2 c3) (hb : Below wr.heap.size wr w1) : Inv w w1 root c0 c1 c2 c3 := by
  have z : ∀ {b o : Nat} {v : Value}, wr.cell? ⟨b, o, none⟩ = some v → b < wr.heap.size := fun h => World.block_lt_of_cell? _ _ h
  exact ⟨cell_later hb h.m0, cell_later hb h.m1, (hb.frozen (p := ⟨_, _, none⟩) (z h.m0)).trans h.fm, cell_later hb h.k0, cell_later hb h.k1, cell_later hb h.k2, cell_later hb h.k3, fun j => (hb.frozen (p := ⟨_, _, none⟩) (z h.k0)).trans (h.fk j),
    cell_later hb h.r0, cell_later hb h.r1, fun j => (hb.frozen (p := ⟨_, _, none⟩) (z h.r0)).trans (h.fr j), cell_later hb h.s0, cell_later hb h.s1, cell_later hb h.s2, cell_later hb h.s3, fun j => (hb.frozen (p := ⟨_, _, none⟩) (z h.s0)).trans (h.fs j),
    h.four, h.tree.below hb, h.bel.trans (hb.mono h.bel.size)⟩
theorem Tree.drew {w : World} {root : Option Addr} {es : Es} (h : Tree w root es) : Tree w.drew root es := h.below (Below.refl _ _).drew
theorem Inv.drew {w wr : World} {root : Option Addr} {c0 c1 c2 c3 : Int} (h : Inv w wr root c0 c1 c2 c3) : Inv w wr.drew root c0 c1 c2 c3 :=
  h.later (Below.refl _ _).drew

theorem inv_store0 {w w1 : World} {root root' : Option Addr} {c0 c1 c2 c3 y : Int} (h : Inv w w1 root c0 c1 c2 c3) (hT : Tree w1 root' (mk c3 y c2 c1)) (hy : 0 ≤ y ∧ y ≤ 255) :
    Inv w ((w1.setCell ⟨w.heap.size + 1 + 1, 0, none⟩ (.pointer root')).setCell ⟨w.heap.size + 1 + 1 + 1, 0, none⟩ (.int .u64 y)) root' y c1 c2 c3 := by
  have m0 := h.m0
  have m1 := h.m1
  have k0 := h.k0
  have k1 := h.k1
  have k2 := h.k2
  have k3 := h.k3
  have r0 := h.r0
  have r1 := h.r1
  have s0 := h.s0
  have s1 := h.s1
  have s2 := h.s2
  have s3 := h.s3
  have hf := h.four
  unfold Four at hf
  refine ⟨?_, ?_, ?_, ?_, ?_, ?_, ?_, ?_, ?_, ?_, ?_, ?_, ?_, ?_, ?_, ?_, ?_, ?_, ?_⟩
  case refine_3 => rw [World.frozen?_setCell, World.frozen?_setCell]; exact h.fm
  case refine_8 => intro j; rw [World.frozen?_setCell, World.frozen?_setCell]; exact h.fk j
  case refine_11 => intro j; rw [World.frozen?_setCell, World.frozen?_setCell]; exact h.fr j
  case refine_16 => intro j; rw [World.frozen?_setCell, World.frozen?_setCell]; exact h.fs j
  case refine_17 => unfold Four; omega
  case refine_18 =>
    refine hT.agree fun b o hb => ?_
    have n1 : ¬ b = w.heap.size + 1 + 1 := by rintro rfl; rcases hb with ⟨_, _, _, h⟩ | ⟨_, h⟩ <;> rw [m0] at h <;> cases h
    have n2 : ¬ b = w.heap.size + 1 + 1 + 1 := by rintro rfl; rcases hb with ⟨_, _, _, h⟩ | ⟨_, h⟩ <;> rw [k0] at h <;> cases h
    rw [cell_set_ne n2, cell_set_ne n1]
  case refine_19 => exact (h.bel.setCell (p := ⟨w.heap.size + 1 + 1, 0, none⟩) (by simp; omega) _).setCell (p := ⟨w.heap.size + 1 + 1 + 1, 0, none⟩) (by simp; omega) _
  all_goals simp [go_sem, m0, m1, k0, k1, k2, k3, r0, r1, s0, s1, s2, s3]

theorem inv_store1 {w w1 : World} {root root' : Option Addr} {c0 c1 c2 c3 y : Int} (h : Inv w w1 root c0 c1 c2 c3) (hT : Tree w1 root' (mk c3 c0 c2 y)) (hy : 0 ≤ y ∧ y ≤ 255) :
    Inv w ((w1.setCell ⟨w.heap.size + 1 + 1, 0, none⟩ (.pointer root')).setCell ⟨w.heap.size + 1 + 1 + 1, 1, none⟩ (.int .u64 y)) root' c0 y c2 c3 := by
  have m0 := h.m0
  have m1 := h.m1
  have k0 := h.k0
  have k1 := h.k1
  have k2 := h.k2
  have k3 := h.k3
  have r0 := h.r0
  have r1 := h.r1
  have s0 := h.s0
  have s1 := h.s1
  have s2 := h.s2
  have s3 := h.s3
  have hf := h.four
  unfold Four at hf
  refine ⟨?_, ?_, ?_, ?_, ?_, ?_, ?_, ?_, ?_, ?_, ?_, ?_, ?_, ?_, ?_, ?_, ?_, ?_, ?_⟩
  case refine_3 => rw [World.frozen?_setCell, World.frozen?_setCell]; exact h.fm
  case refine_8 => intro j; rw [World.frozen?_setCell, World.frozen?_setCell]; exact h.fk j
  case refine_11 => intro j; rw [World.frozen?_setCell, World.frozen?_setCell]; exact h.fr j
  case refine_16 => intro j; rw [World.frozen?_setCell, World.frozen?_setCell]; exact h.fs j
  case refine_17 => unfold Four; omega
  case refine_18 =>
    refine hT.agree fun b o hb => ?_
    have n1 : ¬ b = w.heap.size + 1 + 1 := by rintro rfl; rcases hb with ⟨_, _, _, h⟩ | ⟨_, h⟩ <;> rw [m0] at h <;> cases h
    have n2 : ¬ b = w.heap.size + 1 + 1 + 1 := by rintro rfl; rcases hb with ⟨_, _, _, h⟩ | ⟨_, h⟩ <;> rw [k0] at h <;> cases h
    rw [cell_set_ne n2, cell_set_ne n1]
  case refine_19 => exact (h.bel.setCell (p := ⟨w.heap.size + 1 + 1, 0, none⟩) (by simp; omega) _).setCell (p := ⟨w.heap.size + 1 + 1 + 1, 1, none⟩) (by simp; omega) _
  all_goals simp [go_sem, m0, m1, k0, k1, k2, k3, r0, r1, s0, s1, s2, s3]

theorem inv_store2 {w w1 : World} {root root' : Option Addr} {c0 c1 c2 c3 y : Int} (h : Inv w w1 root c0 c1 c2 c3) (hT : Tree w1 root' (mk c3 c0 y c1)) (hy : 0 ≤ y ∧ y ≤ 255) :
    Inv w ((w1.setCell ⟨w.heap.size + 1 + 1, 0, none⟩ (.pointer root')).setCell ⟨w.heap.size + 1 + 1 + 1, 2, none⟩ (.int .u64 y)) root' c0 c1 y c3 := by
  have m0 := h.m0
  have m1 := h.m1
  have k0 := h.k0
  have k1 := h.k1
  have k2 := h.k2
  have k3 := h.k3
  have r0 := h.r0
  have r1 := h.r1
  have s0 := h.s0
  have s1 := h.s1
  have s2 := h.s2
  have s3 := h.s3
  have hf := h.four
  unfold Four at hf
  refine ⟨?_, ?_, ?_, ?_, ?_, ?_, ?_, ?_, ?_, ?_, ?_, ?_, ?_, ?_, ?_, ?_, ?_, ?_, ?_⟩
  case refine_3 => rw [World.frozen?_setCell, World.frozen?_setCell]; exact h.fm
  case refine_8 => intro j; rw [World.frozen?_setCell, World.frozen?_setCell]; exact h.fk j
  case refine_11 => intro j; rw [World.frozen?_setCell, World.frozen?_setCell]; exact h.fr j
  case refine_16 => intro j; rw [World.frozen?_setCell, World.frozen?_setCell]; exact h.fs j
  case refine_17 => unfold Four; omega
  case refine_18 =>
    refine hT.agree fun b o hb => ?_
    have n1 : ¬ b = w.heap.size + 1 + 1 := by rintro rfl; rcases hb with ⟨_, _, _, h⟩ | ⟨_, h⟩ <;> rw [m0] at h <;> cases h
    have n2 : ¬ b = w.heap.size + 1 + 1 + 1 := by rintro rfl; rcases hb with ⟨_, _, _, h⟩ | ⟨_, h⟩ <;> rw [k0] at h <;> cases h
    rw [cell_set_ne n2, cell_set_ne n1]
  case refine_19 => exact (h.bel.setCell (p := ⟨w.heap.size + 1 + 1, 0, none⟩) (by simp; omega) _).setCell (p := ⟨w.heap.size + 1 + 1 + 1, 2, none⟩) (by simp; omega) _
  all_goals simp [go_sem, m0, m1, k0, k1, k2, k3, r0, r1, s0, s1, s2, s3]

theorem inv_store3 {w w1 : World} {root root' : Option Addr} {c0 c1 c2 c3 y : Int} (h : Inv w w1 root c0 c1 c2 c3) (hT : Tree w1 root' (mk y c0 c2 c1)) (hy : 0 ≤ y ∧ y ≤ 255) :
    Inv w ((w1.setCell ⟨w.heap.size + 1 + 1, 0, none⟩ (.pointer root')).setCell ⟨w.heap.size + 1 + 1 + 1, 3, none⟩ (.int .u64 y)) root' c0 c1 c2 y := by
  have m0 := h.m0
  have m1 := h.m1
  have k0 := h.k0
  have k1 := h.k1
  have k2 := h.k2
  have k3 := h.k3
  have r0 := h.r0
  have r1 := h.r1
  have s0 := h.s0
  have s1 := h.s1
  have s2 := h.s2
  have s3 := h.s3
  have hf := h.four
  unfold Four at hf
  refine ⟨?_, ?_, ?_, ?_, ?_, ?_, ?_, ?_, ?_, ?_, ?_, ?_, ?_, ?_, ?_, ?_, ?_, ?_, ?_⟩
  case refine_3 => rw [World.frozen?_setCell, World.frozen?_setCell]; exact h.fm
  case refine_8 => intro j; rw [World.frozen?_setCell, World.frozen?_setCell]; exact h.fk j
  case refine_11 => intro j; rw [World.frozen?_setCell, World.frozen?_setCell]; exact h.fr j
  case refine_16 => intro j; rw [World.frozen?_setCell, World.frozen?_setCell]; exact h.fs j
  case refine_17 => unfold Four; omega
  case refine_18 =>
    refine hT.agree fun b o hb => ?_
    have n1 : ¬ b = w.heap.size + 1 + 1 := by rintro rfl; rcases hb with ⟨_, _, _, h⟩ | ⟨_, h⟩ <;> rw [m0] at h <;> cases h
    have n2 : ¬ b = w.heap.size + 1 + 1 + 1 := by rintro rfl; rcases hb with ⟨_, _, _, h⟩ | ⟨_, h⟩ <;> rw [k0] at h <;> cases h
    rw [cell_set_ne n2, cell_set_ne n1]
  case refine_19 => exact (h.bel.setCell (p := ⟨w.heap.size + 1 + 1, 0, none⟩) (by simp; omega) _).setCell (p := ⟨w.heap.size + 1 + 1 + 1, 3, none⟩) (by simp; omega) _
  all_goals simp [go_sem, m0, m1, k0, k1, k2, k3, r0, r1, s0, s1, s2, s3]


end Go.Proofs.Ybulkajsu.C
