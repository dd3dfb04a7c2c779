import Derived.Test.YbulkajukSkip
namespace Go.Proofs.Ybulkajuk.B
open Go.RowKit C

abbrev dF (N : Nat) : Value := .func (.func 13) #[] #[.pointer (some ⟨N + 5, 0, none⟩), .pointer (some ⟨N + 6, 0, none⟩), .pointer (some ⟨N + 2, 0, none⟩)]
abbrev yF (N : Nat) : Value := .func (.func 15) #[] #[.pointer (some ⟨N + 8, 0, none⟩), .pointer (some ⟨N + 9, 0, none⟩), .pointer (some ⟨N + 7, 0, none⟩)]

set_option maxRecDepth 100000 in
set_option maxHeartbeats 1000000 in
theorem skipA (N : Nat) (w0 w : World) (kv vv : Value) (t n p lim : Int) (dk ok : List Int) (dv ov : List ByteArray) (k : Int) (s : ByteArray) (h : St N w0 w kv vv (dF N) (yF N) t n p lim dk dv ok ov true) (hl : dk.length ≤ 2000) (hl2 : dv.length ≤ 2000) (hk : k < t) :
    Calls Yba.prog 24 #[.int .i64 k, .string s, .pointer (some ⟨N + 13, 0, none⟩), .pointer (some ⟨N + 11, 0, none⟩), .pointer (some ⟨N + 12, 0, none⟩)] w fun e w' => e = .returned (.bool true) ∧ St N w0 w' kv vv (dF N) (yF N) t n p lim (dk ++ [k]) (dv ++ [s]) ok ov true := by
  have c1 := h.r.cell
  have c2 := h.d.cell
  have hd : decide (k < t) = true := by simpa using hk
  have H : Hid (St N w0 w kv vv (dF N) (yF N) t n p lim dk dv ok ov true) := h
  clear h hk
  go_enter Yba.func24, Yba.ntmps24
  go_wp2_with (first | (go_at_call 13; refine (drop13 N w0 w kv vv (dF N) (yF N) t n p lim dk ok dv ov true k s H.out hl hl2).mono ?_; rw [hd]; rintro e w1 ⟨rfl, h1⟩; have H1 : Hid (St N w0 w1 kv vv (dF N) (yF N) t n p lim (dk ++ [k]) (dv ++ [s]) ok ov true) := h1; clear h1))
  go_ret
  exact ⟨rfl, H1.out⟩

set_option maxRecDepth 100000 in
set_option maxHeartbeats 1000000 in
theorem skipB (N : Nat) (w0 w : World) (kv vv : Value) (t n p lim : Int) (dk ok : List Int) (dv ov : List ByteArray) (k : Int) (s : ByteArray) (b : Bool) (h : St N w0 w kv vv (dF N) (yF N) t n p lim dk dv ok ov true) (hl : dk.length ≤ 2000) (hl2 : dv.length ≤ 2000) (hl3 : ok.length ≤ 2000) (hl4 : ov.length ≤ 2000) (hk : ¬ k < t) (hb : decide ((ok.length : Int) + 1 < lim) = b) :
    Calls Yba.prog 24 #[.int .i64 k, .string s, .pointer (some ⟨N + 13, 0, none⟩), .pointer (some ⟨N + 11, 0, none⟩), .pointer (some ⟨N + 12, 0, none⟩)] w fun e w' => e = .returned (.bool b) ∧ St N w0 w' kv vv (dF N) (yF N) t n p lim (dk ++ [k]) (dv ++ [s]) (ok ++ [k]) (ov ++ [s]) false := by
  have c1 := h.r.cell
  have c2 := h.d.cell
  have hd : decide (k < t) = false := by simpa using hk
  have H : Hid (St N w0 w kv vv (dF N) (yF N) t n p lim dk dv ok ov true) := h
  have Hb : Hid (decide ((ok.length : Int) + 1 < lim) = b) := hb
  have hne : N + 13 ≠ N + 12 := by omega
  clear h hk hb
  go_enter Yba.func24, Yba.ntmps24
  go_wp2_with (first | (go_at_call 13; refine (drop13 N w0 w kv vv (dF N) (yF N) t n p lim dk ok dv ov true k s H.out hl hl2).mono ?_; rw [hd]; rintro e w1 ⟨rfl, h1⟩; have x1 := h1.r.cell; have x2 := h1.r.frozen; have x3 := h1.y.cell; have H1 : Hid (St N w0 w1 kv vv (dF N) (yF N) t n p lim (dk ++ [k]) (dv ++ [s]) ok ov true) := h1; clear h1) | (go_at_call 15; refine (cons15 N w0 _ kv vv (dF N) (yF N) t n p lim (dk ++ [k]) ok (dv ++ [s]) ov false k s (H1.out.setR false) hl3 hl4).mono ?_; rw [Hb.out]; rintro e w2 ⟨rfl, h2⟩; have H2 : Hid (St N w0 w2 kv vv (dF N) (yF N) t n p lim (dk ++ [k]) (dv ++ [s]) (ok ++ [k]) (ov ++ [s]) false) := h2; clear h2))
  go_ret
  exact ⟨rfl, H2.out⟩

set_option maxRecDepth 100000 in
set_option maxHeartbeats 1000000 in
theorem skipC (N : Nat) (w0 w : World) (kv vv : Value) (t n p lim : Int) (dk ok : List Int) (dv ov : List ByteArray) (k : Int) (s : ByteArray) (b : Bool) (h : St N w0 w kv vv (dF N) (yF N) t n p lim dk dv ok ov false) (hl3 : ok.length ≤ 2000) (hl4 : ov.length ≤ 2000) (hb : decide ((ok.length : Int) + 1 < lim) = b) :
    Calls Yba.prog 24 #[.int .i64 k, .string s, .pointer (some ⟨N + 13, 0, none⟩), .pointer (some ⟨N + 11, 0, none⟩), .pointer (some ⟨N + 12, 0, none⟩)] w fun e w' => e = .returned (.bool b) ∧ St N w0 w' kv vv (dF N) (yF N) t n p lim dk dv (ok ++ [k]) (ov ++ [s]) false := by
  have c1 := h.r.cell
  have c2 := h.r.frozen
  have c3 := h.y.cell
  have H : Hid (St N w0 w kv vv (dF N) (yF N) t n p lim dk dv ok ov false) := h
  have Hb : Hid (decide ((ok.length : Int) + 1 < lim) = b) := hb
  have hne : N + 13 ≠ N + 12 := by omega
  clear h hb
  go_enter Yba.func24, Yba.ntmps24
  go_wp2_with (first | (go_at_call 15; refine (cons15 N w0 _ kv vv (dF N) (yF N) t n p lim dk ok dv ov false k s (H.out.setR false) hl3 hl4).mono ?_; rw [Hb.out]; rintro e w2 ⟨rfl, h2⟩; have H2 : Hid (St N w0 w2 kv vv (dF N) (yF N) t n p lim dk dv (ok ++ [k]) (ov ++ [s]) false) := h2; clear h2))
  go_ret
  exact ⟨rfl, H2.out⟩
end Go.Proofs.Ybulkajuk.B
