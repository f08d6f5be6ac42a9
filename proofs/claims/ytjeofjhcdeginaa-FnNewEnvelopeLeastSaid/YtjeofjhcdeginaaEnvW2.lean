/- Walks: envelopes, more. -/
import Derived.Test.YtjeofjhcdeginaaEnvW
import Derived.Test.YtjeofjhcdeginaaMakers
namespace Go.Proofs.Ytjeofjhcdeginaa
open Go.RowKit Go.Sort Fl FinW
namespace EnvW
/-- a slice of envelopes below block B -/
def EVs (w : World) (B : Nat) (A : Option Addr) (es : List EV) : Prop :=
  es ≠ [] → ∃ b off, A = some ⟨b, off, none⟩ ∧ b < B ∧ ∀ i (_ : i < es.length), w.cell? ⟨b, off + i * 5, none⟩ = some (.bool es[i].f) ∧ w.cell? ⟨b, off + i * 5 + 1, none⟩ = some (.float .f64 es[i].a) ∧ w.cell? ⟨b, off + i * 5 + 2, none⟩ = some (.float .f64 es[i].b) ∧
    w.cell? ⟨b, off + i * 5 + 3, none⟩ = some (.float .f64 es[i].c) ∧ w.cell? ⟨b, off + i * 5 + 4, none⟩ = some (.float .f64 es[i].d)
def EV.small (e : EV) : Prop := e.a < 2^64 ∧ e.b < 2^64 ∧ e.c < 2^64 ∧ e.d < 2^64
def eFit (e : EV) : Bool := !(e.f && !fin4 e.a e.b e.c e.d)
def eFitsF (es : List EV) : Bool := es.all eFit
set_option maxHeartbeats 1000000 in
theorem efits_any (A : Option Addr) (es : List EV) (n c : Nat) (hn : n = es.length) (hm : n ≤ 1000000) (hs : ∀ e ∈ es, e.small) (w : World) (hA : EVs w w.heap.size A es) : Calls Try.prog 6 #[.slice A n c] w fun r w' => r = .returned (.bool (eFitsF es)) ∧ Below w.heap.size w w' := by
  subst hn
  go_enter Try.func6, Try.ntmps6
  go_wp2
  go_loopw [7] (fun i wr => ∃ k : Nat, k ≤ es.length ∧ i = .int .i64 k ∧ eFitsF (es.take k) = true ∧ Below w.heap.size w wr) (fun i _ => es.length - (intOf i).toNat)
  case atStart => exact ⟨0, Nat.zero_le _, rfl, rfl, Below.refl _ _⟩
  case round =>
    obtain ⟨k, hk, rfl, hall, hb⟩ := hrel
    by_cases hlt : k < es.length
    · obtain ⟨b, off, rfl, hbl, hc⟩ := hA (by intro h; subst h; simp at hlt)
      obtain ⟨c0, c1, c2, c3, c4⟩ := hc k hlt
      rw [← hb.cell (p := ⟨b, _, none⟩) hbl] at c0 c1 c2 c3 c4
      have h1 : eFitsF (es.take (k + 1)) = eFit es[k] := by
        rw [List.take_succ_eq_append_getElem hlt]; unfold eFitsF at *; rw [List.all_append, hall]; simp
      have h0 : eFit es[k] = false → eFitsF es = false := by
        intro hf
        unfold eFitsF
        rw [List.all_eq_false]
        exact ⟨es[k], List.getElem_mem _, by simpa using hf⟩
      have hsm := hs es[k] (List.getElem_mem _)
      have H1 := Lib.hid h1
      have H2 := Lib.hid hall
      have H0 := Lib.hid h0
      clear h1 hall h0
      generalize es[k] = E at *
      obtain ⟨f, ea, eb, ec, ed⟩ := E
      obtain ⟨s1, s2, s3, s4⟩ := hsm
      simp only at c0 c1 c2 c3 c4 s1 s2 s3 s4
      have e0 : eFit ⟨f, ea, eb, ec, ed⟩ = !(f && !fin4 ea eb ec ed) := rfl
      have E0 := Lib.hid e0
      clear e0
      have C1 := Lib.hid (efin_any ea eb ec ed s1 s2 s3 s4)
      cases f
      · go_wp2
        go_roundw
        case rel => exact ⟨k + 1, by omega, by go_num, by rw [H1.out, E0.out]; rfl, b_alloc hb _⟩
        case measure => simp [intOf]; omega
      · by_cases q : fin4 ea eb ec ed = true
        · go_wp2_with (go_at_call 15; with_reducible refine (C1.out _).mono ?_; rintro e w1 ⟨rfl, hb1⟩)
          go_roundw
          case rel => exact ⟨k + 1, by omega, by go_num, by rw [H1.out, E0.out, q]; rfl, b_trans (b_alloc hb _) hb1⟩
          case measure => simp [intOf]; omega
        · rw [Bool.not_eq_true] at q
          go_wp2_with (go_at_call 15; with_reducible refine (C1.out _).mono ?_; rintro e w1 ⟨rfl, hb1⟩)
          go_ret
          exact ⟨by rw [H0.out (by rw [E0.out, q]; rfl)]; rfl, b_trans (b_alloc hb _) hb1⟩
    · obtain rfl : k = es.length := by omega
      rw [List.take_length] at hall
      have H3 := Lib.hid hall
      clear hall
      go_wp2_with fail
      go_ret
      exact ⟨by rw [H3.out]; rfl, hb⟩
def eHasF (e : EV) (x y : Nat) : Bool := e.f && fle e.a x && fle x e.c && fle e.b y && fle y e.d
/-- an envelope of the package: least, greatest, not empty -/
def EV.gcells (e : EV) : Array Value := #[.float .f64 e.a, .float .f64 e.b, .float .f64 e.c, .float .f64 e.d, .bool e.f]
def EV.gV (e : EV) : Value := .agg e.gcells
theorem isempty_any (e : EV) (w : World) : Calls Try.prog 31 #[e.gV] w fun r w' => r = .returned (.bool (!e.f)) ∧ Below w.heap.size w w' := by
  obtain ⟨f, a, b, c, d⟩ := e
  unfold EV.gV EV.gcells
  go_enter Try.func31, Try.ntmps31
  go_wp2
  go_ret
  refine ⟨rfl, ?_⟩
  (repeat (first | exact Below.refl _ _ | refine b_alloc ?_ _ | refine b_drew ?_ | refine b_drewN ?_ _ | refine b_set ?_ _ (by first | (simp; done) | (simp; omega) | assumption | (dsimp only; omega)) _ | refine b_trans ?_ (by assumption)))
theorem unchecked_any (a b c d : Nat) (w : World) : Calls Try.prog 37 #[xyV a b, xyV c d] w fun r w' => r = .returned (EV.gV ⟨true, a, b, c, d⟩) ∧ Below w.heap.size w w' := by
  unfold xyV EV.gV EV.gcells
  go_enter Try.func37, Try.ntmps37
  go_wp2
  refine bodyPost_ret (v := .agg #[.float .f64 a, .float .f64 b, .float .f64 c, .float .f64 d, .bool true]) (by simp [results, Try.results37, go_sem]) rfl ⟨rfl, ?_⟩
  (repeat (first | exact Below.refl _ _ | refine b_alloc ?_ _ | refine b_drew ?_ | refine b_drewN ?_ _ | refine b_set ?_ _ (by first | (simp; done) | (simp; omega) | assumption | (dsimp only; omega)) _ | refine b_trans ?_ (by assumption)))
def gmin (a b : Nat) : Nat := if !feq a a || flt a b then a else b
def gmax (a b : Nat) : Nat := if !feq a a || flt b a then a else b
theorem gmin_any (a b : Nat) (w : World) : Calls Try.prog 38 #[.float .f64 a, .float .f64 b] w fun r w' => r = .returned (.float .f64 (gmin a b)) ∧ w = w' := by
  have e0 : gmin a b = if !feq a a || flt a b then a else b := rfl
  have H0 := Lib.hid e0
  clear e0
  go_enter Try.func38, Try.ntmps38
  go_wp2_with (go_at_call 27; with_reducible refine (nan_any a _).mono ?_; rintro e w1 ⟨rfl, rfl⟩)
  all_goals
    go_ret
    exact ⟨by rw [H0.out]; simp [*], rfl⟩
theorem gmax_any (a b : Nat) (w : World) : Calls Try.prog 34 #[.float .f64 a, .float .f64 b] w fun r w' => r = .returned (.float .f64 (gmax a b)) ∧ w = w' := by
  have e0 : gmax a b = if !feq a a || flt b a then a else b := rfl
  have H0 := Lib.hid e0
  clear e0
  go_enter Try.func34, Try.ntmps34
  go_wp2_with (go_at_call 27; with_reducible refine (nan_any a _).mono ?_; rintro e w1 ⟨rfl, rfl⟩)
  all_goals
    go_ret
    exact ⟨by rw [H0.out]; simp [*], rfl⟩
end EnvW
end Go.Proofs.Ytjeofjhcdeginaa
