/- Walks: a place of a sequence. -/
import Derived.Test.YtllomldpbkeioaaG7
import Derived.BigRegion
namespace Go.Proofs.Ytllomldpbkeioaa
open Go.RowKit Go.Sort
namespace Geo
set_option linter.unusedSimpArgs false
def CV (d : Nat) (p : P4) : Value := .agg #[.float .f64 p.x, .float .f64 p.y, .float .f64 p.z, .float .f64 p.m, .int .u8 d]
set_option maxHeartbeats 4000000 in
theorem get_any (d : Nat) (hd : d < 4) (ns : List Nat) (A : Option Addr) (c : Nat) (k : Nat) (hm : ns.length ≤ 100000) (hlt : k < ns.length / wd d) (w : World) (hA : Fs w w.heap.size A ns) :
    Calls Try.prog 56 #[SV d A ns.length c, .int .i64 k] w fun r w' => r = .returned (CV d (placeAt d ns k)) ∧ Below w.heap.size w w' := by
  have cd := dimension_any d hd
  unfold SV CV
  rcases four hd with rfl | rfl | rfl | rfl
  · have e0 : wd 0 = 2 := rfl
    simp only [c0, c1, c2, c3, c4, wd0, wd1, wd2, wd3] at cd hlt
    obtain ⟨b, off, rfl, hbl, hc⟩ := hA (by intro h; subst h; simp at hlt)
    have qx := hc (k * 2) (by omega)
    have qy := hc (k * 2 + 1) (by omega)
    have h1 : placeAt 0 ns k = ⟨ns[k * 2], ns[k * 2 + 1], 0, 0⟩ := by
      unfold placeAt; rw [e0, getD_in' (by omega), getD_in' (by omega)]; rfl
    rw [h1]
    clear h1
    generalize ns[k * 2] = x at *
    generalize ns[k * 2 + 1] = y at *
    have g1 : (0 : Int) ≤ ((k * 2 : Nat) : Int) := by omega
    have g2 : ((k * 2 : Nat) : Int) + 0 < (ns.length : Int) := by omega
    have g3 : ((k * 2 : Nat) : Int) + 1 < (ns.length : Int) := by omega
    have CD := Lib.hid cd
    clear cd hc
    have hsz : b < w.heap.size + 1 := by omega
    have hsz2 : b < w.heap.size + 1 + 1 := by omega
    go_enter Try.func56, Try.ntmps56
    go_wp2_with (go_at_call 59; refine (CD.out _).mono ?_; rintro e w1 ⟨rfl, rfl⟩)
    go_region
    go_wp2
    refine bodyPost_ret (v := .agg #[.float .f64 x, .float .f64 y, .float .f64 0, .float .f64 0, .int .u8 0]) (by simp [results, Try.results56, go_sem]) rfl ⟨rfl, ?_⟩
    repeat (first | with_reducible exact Below.refl _ _ | with_reducible refine b_drew ?_ | with_reducible refine b_alloc ?_ _ | with_reducible refine b_set ?_ _ (by simp) _)
  · have e0 : wd 1 = 3 := rfl
    simp only [c0, c1, c2, c3, c4, wd0, wd1, wd2, wd3] at cd hlt
    obtain ⟨b, off, rfl, hbl, hc⟩ := hA (by intro h; subst h; simp at hlt)
    have qx := hc (k * 3) (by omega)
    have qy := hc (k * 3 + 1) (by omega)
    have qz := hc (k * 3 + 2) (by omega)
    have h1 : placeAt 1 ns k = ⟨ns[k * 3], ns[k * 3 + 1], ns[k * 3 + 2], 0⟩ := by
      unfold placeAt; rw [e0, getD_in' (by omega), getD_in' (by omega), getD_in' (by omega)]; rfl
    rw [h1]
    clear h1
    generalize ns[k * 3] = x at *
    generalize ns[k * 3 + 1] = y at *
    generalize ns[k * 3 + 2] = z at *
    have g1 : (0 : Int) ≤ ((k * 3 : Nat) : Int) := by omega
    have g2 : ((k * 3 : Nat) : Int) + 0 < (ns.length : Int) := by omega
    have g3 : ((k * 3 : Nat) : Int) + 1 < (ns.length : Int) := by omega
    have g4 : ((k * 3 : Nat) : Int) + 2 < (ns.length : Int) := by omega
    have CD := Lib.hid cd
    clear cd hc
    have hsz : b < w.heap.size + 1 := by omega
    have hsz2 : b < w.heap.size + 1 + 1 := by omega
    go_enter Try.func56, Try.ntmps56
    go_wp2_with (go_at_call 59; refine (CD.out _).mono ?_; rintro e w1 ⟨rfl, rfl⟩)
    go_region
    go_wp2
    refine bodyPost_ret (v := .agg #[.float .f64 x, .float .f64 y, .float .f64 z, .float .f64 0, .int .u8 1]) (by simp [results, Try.results56, go_sem]) rfl ⟨rfl, ?_⟩
    repeat (first | with_reducible exact Below.refl _ _ | with_reducible refine b_drew ?_ | with_reducible refine b_alloc ?_ _ | with_reducible refine b_set ?_ _ (by simp) _)
  · have e0 : wd 2 = 3 := rfl
    simp only [c0, c1, c2, c3, c4, wd0, wd1, wd2, wd3] at cd hlt
    obtain ⟨b, off, rfl, hbl, hc⟩ := hA (by intro h; subst h; simp at hlt)
    have qx := hc (k * 3) (by omega)
    have qy := hc (k * 3 + 1) (by omega)
    have qm := hc (k * 3 + 2) (by omega)
    have h1 : placeAt 2 ns k = ⟨ns[k * 3], ns[k * 3 + 1], 0, ns[k * 3 + 2]⟩ := by
      unfold placeAt; rw [e0, getD_in' (by omega), getD_in' (by omega), getD_in' (by omega)]; rfl
    rw [h1]
    clear h1
    generalize ns[k * 3] = x at *
    generalize ns[k * 3 + 1] = y at *
    generalize ns[k * 3 + 2] = m at *
    have g1 : (0 : Int) ≤ ((k * 3 : Nat) : Int) := by omega
    have g2 : ((k * 3 : Nat) : Int) + 0 < (ns.length : Int) := by omega
    have g3 : ((k * 3 : Nat) : Int) + 1 < (ns.length : Int) := by omega
    have g4 : ((k * 3 : Nat) : Int) + 2 < (ns.length : Int) := by omega
    have CD := Lib.hid cd
    clear cd hc
    have hsz : b < w.heap.size + 1 := by omega
    have hsz2 : b < w.heap.size + 1 + 1 := by omega
    go_enter Try.func56, Try.ntmps56
    go_wp2_with (go_at_call 59; refine (CD.out _).mono ?_; rintro e w1 ⟨rfl, rfl⟩)
    go_region
    go_wp2
    refine bodyPost_ret (v := .agg #[.float .f64 x, .float .f64 y, .float .f64 0, .float .f64 m, .int .u8 2]) (by simp [results, Try.results56, go_sem]) rfl ⟨rfl, ?_⟩
    repeat (first | with_reducible exact Below.refl _ _ | with_reducible refine b_drew ?_ | with_reducible refine b_alloc ?_ _ | with_reducible refine b_set ?_ _ (by simp) _)
  · have e0 : wd 3 = 4 := rfl
    simp only [c0, c1, c2, c3, c4, wd0, wd1, wd2, wd3] at cd hlt
    obtain ⟨b, off, rfl, hbl, hc⟩ := hA (by intro h; subst h; simp at hlt)
    have qx := hc (k * 4) (by omega)
    have qy := hc (k * 4 + 1) (by omega)
    have qz := hc (k * 4 + 2) (by omega)
    have qm := hc (k * 4 + 3) (by omega)
    have h1 : placeAt 3 ns k = ⟨ns[k * 4], ns[k * 4 + 1], ns[k * 4 + 2], ns[k * 4 + 3]⟩ := by
      unfold placeAt; rw [e0, getD_in' (by omega), getD_in' (by omega), getD_in' (by omega), getD_in' (by omega)]; rfl
    rw [h1]
    clear h1
    generalize ns[k * 4] = x at *
    generalize ns[k * 4 + 1] = y at *
    generalize ns[k * 4 + 2] = z at *
    generalize ns[k * 4 + 3] = m at *
    have g1 : (0 : Int) ≤ ((k * 4 : Nat) : Int) := by omega
    have g2 : ((k * 4 : Nat) : Int) + 0 < (ns.length : Int) := by omega
    have g3 : ((k * 4 : Nat) : Int) + 1 < (ns.length : Int) := by omega
    have g4 : ((k * 4 : Nat) : Int) + 2 < (ns.length : Int) := by omega
    have g5 : ((k * 4 : Nat) : Int) + 3 < (ns.length : Int) := by omega
    have CD := Lib.hid cd
    clear cd hc
    have hsz : b < w.heap.size + 1 := by omega
    have hsz2 : b < w.heap.size + 1 + 1 := by omega
    go_enter Try.func56, Try.ntmps56
    go_wp2_with (go_at_call 59; refine (CD.out _).mono ?_; rintro e w1 ⟨rfl, rfl⟩)
    go_region
    go_wp2
    refine bodyPost_ret (v := .agg #[.float .f64 x, .float .f64 y, .float .f64 z, .float .f64 m, .int .u8 3]) (by simp [results, Try.results56, go_sem]) rfl ⟨rfl, ?_⟩
    repeat (first | with_reducible exact Below.refl _ _ | with_reducible refine b_drew ?_ | with_reducible refine b_alloc ?_ _ | with_reducible refine b_set ?_ _ (by simp) _)
end Geo
end Go.Proofs.Ytllomldpbkeioaa
