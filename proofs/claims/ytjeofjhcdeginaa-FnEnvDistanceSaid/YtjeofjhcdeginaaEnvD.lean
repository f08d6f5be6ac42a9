/- Walks: the distance of two envelopes. -/
import Derived.Test.YtjeofjhcdeginaaEnvW3
import Derived.Test.YtjeofjhcdeginaaNumW
import Derived.Test.YtjeofjhcdeginaaRoot
namespace Go.Proofs.Ytjeofjhcdeginaa
open Go.RowKit Go.Sort Fl FinW EnvW NumW
namespace EnvD
def eRnd (e : EV) : Bool := !(e.f && !whole4 e.a e.b e.c e.d)
def eRoundF (es : List EV) : Bool := es.all eRnd
set_option maxHeartbeats 1000000 in
theorem eround_any (A : Option Addr) (es : List EV) (n c : Nat) (hn : n = es.length) (hm : n ≤ 1000000) (w : World) (hA : EVs w w.heap.size A es) : Calls Try.prog 10 #[.slice A n c] w fun r w' => r = .returned (.bool (eRoundF es)) ∧ Below w.heap.size w w' := by
  subst hn
  go_enter Try.func10, Try.ntmps10
  go_wp2
  go_loopw [7] (fun i wr => ∃ k : Nat, k ≤ es.length ∧ i = .int .i64 k ∧ eRoundF (es.take k) = true ∧ Below w.heap.size w wr) (fun i _ => es.length - (intOf i).toNat)
  case atStart => exact ⟨0, Nat.zero_le _, rfl, rfl, Below.refl _ _⟩
  case round =>
    obtain ⟨k, hk, rfl, hall, hb⟩ := hrel
    by_cases hlt : k < es.length
    · obtain ⟨b, off, rfl, hbl, hc⟩ := hA (by intro h; subst h; simp at hlt)
      obtain ⟨c0, c1, c2, c3, c4⟩ := hc k hlt
      rw [← hb.cell (p := ⟨b, _, none⟩) hbl] at c0 c1 c2 c3 c4
      have h1 : eRoundF (es.take (k + 1)) = eRnd es[k] := by
        rw [List.take_succ_eq_append_getElem hlt]; unfold eRoundF at *; rw [List.all_append, hall]; simp
      have h0 : eRnd es[k] = false → eRoundF es = false := by
        intro hf
        unfold eRoundF
        rw [List.all_eq_false]
        exact ⟨es[k], List.getElem_mem _, by simpa using hf⟩
      have H1 := Lib.hid h1
      have H2 := Lib.hid hall
      have H0 := Lib.hid h0
      clear h1 hall h0
      generalize es[k] = E at *
      obtain ⟨f, ea, eb, ec, ed⟩ := E
      simp only at c0 c1 c2 c3 c4
      have e0 : eRnd ⟨f, ea, eb, ec, ed⟩ = !(f && !whole4 ea eb ec ed) := rfl
      have E0 := Lib.hid e0
      clear e0
      have C1 := ewhole_any ea eb ec ed
      unfold boxV at C1
      have C1 := Lib.hid C1
      cases f
      · go_wp2
        go_roundw
        case rel => exact ⟨k + 1, by omega, by go_num, by rw [H1.out, E0.out]; rfl, b_alloc hb _⟩
        case measure => simp [intOf]; omega
      · by_cases q : whole4 ea eb ec ed = true
        · go_wp2_with (go_at_call 23; with_reducible refine (C1.out _).mono ?_; rintro e w1 ⟨rfl, hb1⟩)
          go_roundw
          case rel => exact ⟨k + 1, by omega, by go_num, by rw [H1.out, E0.out, q]; rfl, b_trans (b_alloc hb _) hb1⟩
          case measure => simp [intOf]; omega
        · rw [Bool.not_eq_true] at q
          go_wp2_with (go_at_call 23; with_reducible refine (C1.out _).mono ?_; rintro e w1 ⟨rfl, hb1⟩)
          go_ret
          exact ⟨by rw [H0.out (by rw [E0.out, q]; rfl)]; rfl, b_trans (b_alloc hb _) hb1⟩
    · obtain rfl : k = es.length := by omega
      rw [List.take_length] at hall
      have H3 := Lib.hid hall
      clear hall
      go_wp2_with fail
      go_ret
      exact ⟨by rw [H3.out]; rfl, hb⟩
theorem ext_sqrt {x z : Nat} (h : Ieee.double.sqrt x = some z) (w : World) : (callFunc 41 #[.float .f64 x]).run Try.prog w = .ok (.value (.float .f64 z)) w := by
  have e1 : (Extern.MathSqrt.sqrt #[.float .f64 x]).run Try.prog w = .ok (.float .f64 z) w := by
    unfold Extern.MathSqrt.sqrt
    show (Sem.run Try.prog (match Ieee.double.sqrt x with | some r => _ | none => _) w) = _
    rw [h]; rfl
  refine (run_callFunc_extern (e := Extern.MathSqrt.sqrt) Try.func41 (by kernel_rfl) (by kernel_rfl) (by kernel_rfl) (by kernel_rfl) #[.float .f64 x] w).trans ?_
  rw [e1]; rfl
theorem sqrt_any {x z : Nat} (h : Ieee.double.sqrt x = some z) (w : World) : Calls Try.prog 35 #[.float .f64 x] w fun r w' => r = .returned (.float .f64 z) ∧ w = w' := by
  have h1 := fun w => ext_sqrt h w
  go_enter Try.func35, Try.ntmps35
  go_wp2_with fail
  go_ret
  exact ⟨rfl, rfl⟩
def gapG (a b c d : Nat) : Nat := gmax 0 (gmax (fsub a b) (fsub c d))
/-- along one axis: an envelope's least and greatest end -/
def distS (E O : EV) : Nat := fadd (fmul (gapG O.a E.c E.a O.c) (gapG O.a E.c E.a O.c)) (fmul (gapG O.b E.d E.b O.d) (gapG O.b E.d E.b O.d))
structure Fin4 (e : EV) : Prop where
  a : fin e.a
  b : fin e.b
  c : fin e.c
  d : fin e.d
set_option maxHeartbeats 1000000 in
theorem gdist_any (E O : EV) (hE : E.f = true) (hO : O.f = true) (fE : Fin4 E) (fO : Fin4 O) (q1 : fin (gapG O.a E.c E.a O.c)) (q2 : fin (gapG O.b E.d E.b O.d)) (q3 : fin (fmul (gapG O.a E.c E.a O.c) (gapG O.a E.c E.a O.c))) (q4 : fin (fmul (gapG O.b E.d E.b O.d) (gapG O.b E.d E.b O.d)))
    (z : Nat) (hz : Ieee.double.sqrt (distS E O) = some z) (w : World) : Calls Try.prog 24 #[E.gV, O.gV] w fun r w' => r = .returned (.tuple #[.float .f64 z, .bool true]) ∧ Below w.heap.size w w' := by
  have c1 := isempty_any E
  have c2 := isempty_any O
  have c3 := fun w => sqrt_any hz w
  have e1 : gapG O.a E.c E.a O.c = gmax 0 (gmax (fsub O.a E.c) (fsub E.a O.c)) := rfl
  have e2 : gapG O.b E.d E.b O.d = gmax 0 (gmax (fsub O.b E.d) (fsub E.b O.d)) := rfl
  have e3 : distS E O = fadd (fmul (gapG O.a E.c E.a O.c) (gapG O.a E.c E.a O.c)) (fmul (gapG O.b E.d E.b O.d) (gapG O.b E.d E.b O.d)) := rfl
  rw [e3] at c3
  rw [e1] at q1 q3 c3
  rw [e2] at q2 q4 c3
  clear e1 e2 e3 hz
  obtain ⟨fa, fb, fc, fd⟩ := fE
  obtain ⟨ga, gb, gc, gd⟩ := fO
  obtain ⟨f, a, b, c, d⟩ := E
  obtain ⟨f', a', b', c', d'⟩ := O
  simp only at hE hO fa fb fc fd ga gb gc gd q1 q2 q3 q4 c3
  subst hE hO
  have C1 := Lib.hid c1
  have C2 := Lib.hid c2
  have C3 := Lib.hid c3
  clear c1 c2 c3
  unfold EV.gV EV.gcells at *
  go_enter Try.func24, Try.ntmps24
  go_wp2_with fail
  refine (C1.out _).mono ?_
  rintro e w1 ⟨rfl, hb1⟩
  obtain ⟨bcw1, bfw1⟩ := bcell hb1
  have zw1_0 : w.heap.size < w1.heap.size := by have := hb1.size; (try simp at this); omega
  have zw1_1 : w.heap.size + 1 < w1.heap.size := by have := hb1.size; (try simp at this); omega
  go_wp2_with fail
  refine (C2.out _).mono ?_
  rintro e w2 ⟨rfl, hb2⟩
  obtain ⟨bcw2, bfw2⟩ := bcell hb2
  have zw2_0 : w.heap.size < w2.heap.size := by have := hb2.size; (try simp at this); omega
  have zw2_1 : w.heap.size + 1 < w2.heap.size := by have := hb2.size; (try simp at this); omega
  go_wp2_with (first | (go_at_call 34; refine (gmax_any _ _ _).mono ?_; rintro e w3 ⟨rfl, rfl⟩) | (go_at_call 35; with_reducible refine (C3.out _).mono ?_; rintro e w3 ⟨rfl, rfl⟩))
  refine bodyPost_ret (v := .tuple #[.float .f64 z, .bool true]) (by simp [results, Try.results24, go_sem]) rfl ⟨rfl, ?_⟩
  (repeat (first | exact Below.refl _ _ | refine b_alloc ?_ _ | refine b_drew ?_ | refine b_drewN ?_ _ | refine b_set ?_ _ (by first | (simp; done) | (simp; omega) | assumption | (dsimp only; omega)) _ | refine b_trans ?_ (by assumption)))
end EnvD
end Go.Proofs.Ytjeofjhcdeginaa
