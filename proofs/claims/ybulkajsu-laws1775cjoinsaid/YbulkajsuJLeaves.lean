import Derived.Test.YbulkajsuMerge
namespace Go.Proofs.Ybulkajsu.C
open Go.RowKit

set_option maxRecDepth 100000 in
set_option maxHeartbeats 400000 in
theorem len_any (root : Option Addr) (es : Es) (w : World) (hT : Tree w root es) :
    Calls Yba.prog 25 #[.agg #[.pointer root]] w fun e w' => e = .returned (.int .i64 es.length) ∧ w' = w.alloc (.cells #[.pointer root] 36) := by
  rcases hT with ⟨rfl, rfl⟩ | ⟨hpos, g, c, cap, rfl, hN⟩
  · go_enter Yba.func25, Yba.ntmps25
    go_wp2_with (go_at_call 35; refine (sizeNil _).mono ?_; rintro e w' ⟨rfl, rfl⟩)
    go_ret
    exact ⟨rfl, rfl⟩
  · have hs := hN.size
    have Hs : Hid (w.cell? ⟨g, 3, none⟩ = some (.int .i64 (es.length : Nat))) := hs
    clear hs hN
    generalize es.length = n at *
    go_enter Yba.func25, Yba.ntmps25
    go_wp2_with (go_at_call 35; refine (sizeNode g n _ (cell_later ((Below.refl _ _).alloc (Nat.le_refl _) _) Hs.out)).mono ?_; rintro e w' ⟨rfl, rfl⟩)
    go_ret
    exact ⟨rfl, rfl⟩

set_option maxRecDepth 100000 in
set_option maxHeartbeats 400000 in
theorem Len_any (root : Option Addr) (run : Int) (es : Es) (w : World) (hT : Tree w root es) :
    Calls Yba.prog 15 #[.agg #[.pointer root, .int .u64 run]] w fun e w' => e = .returned (.int .i64 es.length) ∧ Below w.heap.size w w' := by
  have HT : Hid (Tree w root es) := hT
  clear hT
  go_enter Yba.func15, Yba.ntmps15
  go_wp2_with (go_at_call 25; refine (len_any root es _ (HT.out.below ((Below.refl _ _).alloc (Nat.le_refl _) _))).mono ?_; rintro e w' ⟨rfl, rfl⟩)
  go_ret
  exact ⟨rfl, ((Below.refl _ _).alloc (Nat.le_refl _) _).alloc (by simp) _⟩

set_option maxRecDepth 100000 in
set_option maxHeartbeats 400000 in
theorem near_yes (m n : Nat) (hm : 1 ≤ m) (hm2 : m ≤ 31) (hn : 1 ≤ n) (hn2 : n ≤ 31) (w : World) :
    Calls Yba.prog 29 #[.int .i64 m, .int .i64 n] w fun e w' => e = .returned (.bool true) ∧ w' = w := by
  have h1 : (1 : Int) ≤ (m : Int) := by omega
  have h2 : (m : Int) ≤ 31 := by omega
  have h3 : (1 : Int) ≤ (n : Int) := by omega
  have h4 : (n : Int) ≤ 31 := by omega
  clear hm hm2 hn hn2
  generalize (m : Int) = a at *
  generalize (n : Int) = b at *
  go_enter Yba.func29, Yba.ntmps29
  go_wp2
  go_ret
  have hd : decide (max a b ≤ 32 * min a b) = true := decide_eq_true (by omega)
  exact ⟨by rw [← hd]; rfl, rfl⟩

set_option maxRecDepth 100000 in
set_option maxHeartbeats 400000 in
theorem or_zero (g c : Nat) (w : World) (h0 : w.cell? ⟨g, 0, none⟩ = some (.int .u64 0)) (h1 : w.cell? ⟨g, 1, none⟩ = some (.int .u64 0)) :
    Calls Yba.prog 23 #[.slice (some ⟨g, 0, none⟩) 2 c] w fun e w' => e = .returned (.int .u64 0) ∧ w' = w := by
  go_enter Yba.func23, Yba.ntmps23
  go_wp2
  refine wp_loop_rounds 3 ?_
  rw [rounds_succ]
  go_wp2
  rw [rounds_succ]
  go_wp2
  rw [rounds_succ]
  go_wp2
  go_ret
  exact ⟨rfl, rfl⟩

theorem method_join (x : Int) (w : World) : (method 238 45 (.int .u64 x) "Join").run Yba.prog w = .ok (88, .int .u64 x) w := by kernel_rfl

set_option maxRecDepth 100000 in
set_option maxHeartbeats 1000000 in
theorem joinValues (k k2 : ByteArray) (x y : Int) (w : World) :
    Calls Yba.prog 22 #[.agg #[.string k, .int .u64 x], .agg #[.string k2, .int .u64 y]] w fun e w' => e = .returned (.agg #[.string k, .int .u64 (if x < y then y else x)]) ∧ Below w.heap.size w w' := by
  have hm := method_join
  generalize hz : (if x < y then y else x) = z
  have HZ : Hid ((if x < y then y else x) = z) := hz
  clear hz
  go_enter Yba.func22, Yba.ntmps22
  go_wp2_with fail
  go_region_held3 (fun w' => w'.cell? ⟨w.heap.size, 0, none⟩ = some (.string k) ∧ w'.cell? ⟨w.heap.size, 1, none⟩ = some (.int .u64 x) ∧ w'.cell? ⟨w.heap.size + 1, 1, none⟩ = some (.int .u64 y)) ((repeat' apply And.intro) <;> (simp [go_sem]; done))
    (first | (go_at_call 88; refine (join88 x y _).mono ?_; rw [HZ.out]; rintro e w' ⟨rfl, rfl⟩))
  go_wp2_with fail
  refine bodyPost_ret (v := .agg #[.string k, .int .u64 z]) (by simp [results, Yba.results22, go_sem]) rfl ⟨rfl, ?_⟩
  repeat (first | exact Below.refl _ _ | refine Below.drew ?_ | refine Below.alloc ?_ (by first | omega | (simp; done) | (simp; omega)) _)

/-- A cursor at block b: d nodes on its path; the first place holds p. -/
structure Curs (w : World) (b : Nat) (d : Int) (p : Option Addr) : Prop where
  depth : w.cell? ⟨b, 104, none⟩ = some (.int .i64 d)
  fd : w.frozen? ⟨b, 104, none⟩ = false
  path : w.cell? ⟨b, 0, none⟩ = some (.pointer p)
  fp : w.frozen? ⟨b, 0, none⟩ = false

set_option maxRecDepth 100000 in
set_option maxHeartbeats 400000 in
theorem descend_nil (b : Nat) (w : World) :
    Calls Yba.prog 57 #[.pointer (some ⟨b, 0, none⟩), .pointer none] w fun e w' => e = .returned (.tuple #[]) ∧ w = w' := by
  go_enter Yba.func57, Yba.ntmps57
  go_wp2
  refine wp_loop_rounds 1 ?_
  rw [rounds_succ]
  go_wp2
  go_end0
  exact ⟨rfl, rfl⟩

set_option maxRecDepth 100000 in
set_option maxHeartbeats 1000000 in
theorem descend_one (b g : Nat) (p : Option Addr) (w : World) (hC : Curs w b 0 p) (hl : w.cell? ⟨g, 1, none⟩ = some (.pointer none)) (hne : g ≠ b) :
    Calls Yba.prog 57 #[.pointer (some ⟨b, 0, none⟩), .pointer (some ⟨g, 0, none⟩)] w fun e w' => e = .returned (.tuple #[]) ∧ w' = ((w.setCell ⟨b, 0, none⟩ (.pointer (some ⟨g, 0, none⟩))).setCell ⟨b, 104, none⟩ (.int .i64 1)).drew := by
  have c0 := hC.depth
  have c1 := hC.fd
  have c2 := hC.path
  have c3 := hC.fp
  have hne2 : ¬ g = b := hne
  have hne3 : ¬ b = g := fun h => hne h.symm
  go_enter Yba.func57, Yba.ntmps57
  go_wp2
  refine wp_loop_rounds 2 ?_
  rw [rounds_succ]
  go_wp2_with fail
  go_region
  go_wp2_with fail
  rw [rounds_succ]
  go_wp2_with fail
  go_end0
  exact ⟨rfl, rfl⟩

set_option maxRecDepth 100000 in
set_option maxHeartbeats 400000 in
theorem chunk_zero (b : Nat) (w : World) (h : w.cell? ⟨b, 104, none⟩ = some (.int .i64 0)) :
    Calls Yba.prog 58 #[.pointer (some ⟨b, 0, none⟩)] w fun e w' => e = .returned (.slice none 0 0) ∧ w = w' := by
  go_enter Yba.func58, Yba.ntmps58
  go_wp2
  go_ret
  exact ⟨rfl, rfl⟩

set_option maxRecDepth 100000 in
set_option maxHeartbeats 400000 in
theorem chunk_one (b g n cap : Nat) (a : Option Addr) (w : World) (h : w.cell? ⟨b, 104, none⟩ = some (.int .i64 1)) (hp : w.cell? ⟨b, 0, none⟩ = some (.pointer (some ⟨g, 0, none⟩))) (hc : w.cell? ⟨g, 0, none⟩ = some (.slice a n cap)) :
    Calls Yba.prog 58 #[.pointer (some ⟨b, 0, none⟩)] w fun e w' => e = .returned (.slice a n cap) ∧ ∃ q, w' = w.drewN q := by
  go_enter Yba.func58, Yba.ntmps58
  go_wp2
  go_quiet (fail)
  go_wp2
  go_ret
  exact ⟨rfl, _, rfl⟩

set_option maxRecDepth 100000 in
set_option maxHeartbeats 400000 in
theorem next_zero (b : Nat) (w : World) (h : w.cell? ⟨b, 104, none⟩ = some (.int .i64 0)) :
    Calls Yba.prog 59 #[.pointer (some ⟨b, 0, none⟩)] w fun e w' => e = .returned (.slice none 0 0) ∧ w = w' := by
  go_enter Yba.func59, Yba.ntmps59
  go_wp2_with (go_at_call 58; refine (chunk_zero b _ h).mono ?_; rintro e w' ⟨rfl, rfl⟩)
  go_ret
  exact ⟨rfl, rfl⟩

set_option maxRecDepth 100000 in
set_option maxHeartbeats 1000000 in
theorem next_one (b g : Nat) (w : World) (hC : Curs w b 1 (some ⟨g, 0, none⟩)) (hr : w.cell? ⟨g, 2, none⟩ = some (.pointer none)) (hne : g ≠ b) :
    Calls Yba.prog 59 #[.pointer (some ⟨b, 0, none⟩)] w fun e w' => e = .returned (.slice none 0 0) ∧ ∃ q, w' = (w.setCell ⟨b, 104, none⟩ (.int .i64 0)).drewN q := by
  have c0 := hC.depth
  have c1 := hC.fd
  have c2 := hC.path
  have hne2 : ¬ g = b := hne
  have hne3 : ¬ b = g := fun h => hne h.symm
  go_enter Yba.func59, Yba.ntmps59
  go_wp2_with fail
  go_quiet ((go_at_call 57; exact Calls.quiet_of_same ((descend_nil b _).mono fun _ _ h => ⟨h.1, h.2.symm⟩)))
  go_wp2_with (go_at_call 58; refine (chunk_zero b _ ?_).mono ?_; (focus (simp [go_sem, c0])); rintro e w' ⟨rfl, rfl⟩)
  go_ret
  exact ⟨rfl, _, rfl⟩
end Go.Proofs.Ybulkajsu.C
