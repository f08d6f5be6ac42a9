/- Walks: the envelope of places. -/
import Derived.Test.YtjeofjhcdeginaaEnvW3
import Derived.Test.YtjeofjhcdeginaaEnvPV
namespace Go.Proofs.Ytjeofjhcdeginaa
open Go.RowKit Go.Sort Fl FinW EnvW EnvP
namespace NewE
def eListF (ps : List (Nat × Nat)) : Bool := ps.all fun p => finB p.1 && finB p.2
set_option maxHeartbeats 1000000 in
theorem elist_any (A : Option Addr) (ps : List (Nat × Nat)) (n c : Nat) (hn : n = ps.length) (hm : n ≤ 2147483647) (hs : ∀ p ∈ ps, p.1 < 2^64 ∧ p.2 < 2^64) (w : World) (hA : XYs w w.heap.size A ps) :
    Calls Try.prog 5 #[.slice A n c] w fun r w' => r = .returned (.bool (decide (n ≤ 2000) && eListF ps)) ∧ Below w.heap.size w w' := by
  subst hn
  by_cases h2000 : ps.length ≤ 2000
  · rw [decide_eq_true h2000, Bool.true_and]
    go_enter Try.func5, Try.ntmps5
    go_wp2
    go_loopw [10] (fun i wr => ∃ k : Nat, k ≤ ps.length ∧ i = .int .i64 k ∧ eListF (ps.take k) = true ∧ Below w.heap.size w wr) (fun i _ => ps.length - (intOf i).toNat)
    case atStart => exact ⟨0, Nat.zero_le _, rfl, rfl, Below.refl _ _⟩
    case round =>
      obtain ⟨k, hk, rfl, hall, hb⟩ := hrel
      by_cases hlt : k < ps.length
      · obtain ⟨b, off, rfl, hbl, hc⟩ := hA (by intro h; subst h; simp at hlt)
        obtain ⟨c1, c2⟩ := hc k hlt
        rw [← hb.cell (p := ⟨b, _, none⟩) hbl] at c1 c2
        have h1 : eListF (ps.take (k + 1)) = (finB ps[k].1 && finB ps[k].2) := by
          rw [List.take_succ_eq_append_getElem hlt]; unfold eListF at *; rw [List.all_append, hall]; simp
        have h0 : (finB ps[k].1 && finB ps[k].2) = false → eListF ps = false := by
          intro hf
          unfold eListF
          rw [List.all_eq_false]
          exact ⟨ps[k], List.getElem_mem _, by simpa using hf⟩
        obtain ⟨s1, s2⟩ := hs ps[k] (List.getElem_mem _)
        generalize ps[k].1 = x at *
        generalize ps[k].2 = y at *
        have C1 := Lib.hid (gfin_any x s1)
        have C2 := Lib.hid (gfin_any y s2)
        have H1 := Lib.hid h1
        have H0 := Lib.hid h0
        have H2 := Lib.hid hall
        clear h1 h0 hall
        by_cases q1 : finB x = true
        · by_cases q2 : finB y = true
          · go_wp2_with (first | (go_at_call 14; with_reducible refine (C1.out _).mono ?_; rintro e w1 ⟨rfl, rfl⟩) | (go_at_call 14; with_reducible refine (C2.out _).mono ?_; rintro e w1 ⟨rfl, rfl⟩))
            go_roundw
            case rel => exact ⟨k + 1, by omega, by go_num, by rw [H1.out, q1, q2]; rfl, b_alloc hb _⟩
            case measure => simp [intOf]; omega
          · rw [Bool.not_eq_true] at q2
            go_wp2_with (first | (go_at_call 14; with_reducible refine (C1.out _).mono ?_; rintro e w1 ⟨rfl, rfl⟩) | (go_at_call 14; with_reducible refine (C2.out _).mono ?_; rintro e w1 ⟨rfl, rfl⟩))
            go_ret
            exact ⟨by rw [H0.out (by rw [q2, Bool.and_false])]; rfl, b_alloc hb _⟩
        · rw [Bool.not_eq_true] at q1
          go_wp2_with (first | (go_at_call 14; with_reducible refine (C1.out _).mono ?_; rintro e w1 ⟨rfl, rfl⟩) | (go_at_call 14; with_reducible refine (C2.out _).mono ?_; rintro e w1 ⟨rfl, rfl⟩))
          go_ret
          exact ⟨by rw [H0.out (by rw [q1, Bool.false_and])]; rfl, b_alloc hb _⟩
      · obtain rfl : k = ps.length := by omega
        rw [List.take_length] at hall
        have H3 := Lib.hid hall
        clear hall
        go_wp2_with fail
        go_ret
        exact ⟨by rw [H3.out]; rfl, hb⟩
  · rw [decide_eq_false h2000, Bool.false_and]
    go_enter Try.func5, Try.ntmps5
    go_wp2
    go_ret
    exact ⟨rfl, Below.refl _ _⟩
theorem xy_any (x y : Nat) (w : World) : Calls Try.prog 21 #[xyV x y] w fun r w' => r = .returned (xyV x y) ∧ Below w.heap.size w w' := by
  unfold xyV
  go_enter Try.func21, Try.ntmps21
  go_wp2
  refine bodyPost_ret (v := .agg #[.float .f64 x, .float .f64 y]) (by simp [results, Try.results21, go_sem]) rfl ⟨rfl, ?_⟩
  (repeat (first | exact Below.refl _ _ | refine b_alloc ?_ _ | refine b_drew ?_ | refine b_drewN ?_ _ | refine b_set ?_ _ (by first | (simp; done) | (simp; omega) | assumption | (dsimp only; omega)) _ | refine b_trans ?_ (by assumption)))
end NewE
end Go.Proofs.Ytjeofjhcdeginaa
