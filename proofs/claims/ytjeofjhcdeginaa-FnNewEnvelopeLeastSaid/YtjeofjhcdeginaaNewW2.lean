/- Walks: places copied. -/
import Derived.Test.YtjeofjhcdeginaaNewW
import Derived.Laws.OwnMore
namespace Go.Proofs.Ytjeofjhcdeginaa
open Go.RowKit Go.Sort Fl FinW EnvW EnvP
namespace NewE
/-- 'make' of a whole row -/
theorem mk_full {P : Program} {t e : TypeId} {i : TypeInfo} {z : Value} {size bytes : Nat} (ht : P.underlying t = some (.slice e)) (hi : P.info? e = some i) (hz : i.zero = some z) (hsize : i.size = size) (hb : i.bytes = bytes)
    (n : Nat) (hn : bytes * n ≤ 281474976710656) (h63 : n ≤ 9223372036854775807) (w : World) : (Instr.makeSlice t (.int .i64 n) (.int .i64 n)).run P w = .ok (.slice (some ⟨w.heap.size, 0, none⟩) n n) (w.alloc (.cells (madeCells z.cells (n * size)) e)) := by
  subst hsize hb
  have h := run_make (P := P) w t e i z ht hi hz .i64 .i64 n n (by omega) (Int.le_refl _) (by omega) (by omega)
  simpa using h
theorem two_in {cs : Array Value} {n k : Nat} (h : cs.size = n * 2) (hk : k < n) : ∃ u v, cs[k * 2]? = some u ∧ cs[k * 2 + 1]? = some v :=
  ⟨_, _, Array.getElem?_eq_getElem (by omega), Array.getElem?_eq_getElem (by omega)⟩
def Laid (cs : Array Value) (ps : List (Nat × Nat)) (k : Nat) : Prop := ∀ j (_ : j < ps.length), j < k → cs[j * 2]? = some (.float .f64 ps[j].1) ∧ cs[j * 2 + 1]? = some (.float .f64 ps[j].2)
theorem Laid.next {cs : Array Value} {ps : List (Nat × Nat)} {k : Nat} (h : Laid cs ps k) (hk : k < ps.length) (hs : cs.size = ps.length * 2) :
    Laid ((cs.setIfInBounds (k * 2) (.float .f64 ps[k].1)).setIfInBounds (k * 2 + 1) (.float .f64 ps[k].2)) ps (k + 1) := by
  intro j hj hjk
  by_cases e : j = k
  · subst e
    simp [Array.getElem?_setIfInBounds]
    omega
  · obtain ⟨h1, h2⟩ := h j hj (by omega)
    simp only [Array.getElem?_setIfInBounds]
    rw [if_neg (by omega), if_neg (by omega), if_neg (by omega), if_neg (by omega)]
    exact ⟨h1, h2⟩
set_option maxHeartbeats 1000000 in
theorem xys_any (A : Option Addr) (ps : List (Nat × Nat)) (n c : Nat) (hn : n = ps.length) (hm : n ≤ 2000) (w : World) (hA : XYs w w.heap.size A ps) :
    Calls Try.prog 18 #[.slice A n c] w fun r w' => ∃ A' c', r = .returned (.slice A' n c') ∧ XYs w' w'.heap.size A' ps ∧ Below w.heap.size w w' := by
  subst hn
  have cx := fun x y w => xy_any x y w
  unfold xyV at cx
  have CX := Lib.hid cx
  clear cx
  obtain ⟨i0, hi, hz0, hz1, hz2⟩ := info_parts (P := Try.prog) (e := 44) (z := .agg #[.float .f64 0, .float .f64 0]) (size := 2) (bytes := 16) (by kernel_rfl)
  have hmk := fun (w : World) => mk_full (t := 48) Try.underlying48 hi hz0 hz1 hz2 ps.length (by omega) (by omega) w
  obtain ⟨M, hM⟩ : ∃ M, M = madeCells (Value.agg #[.float .f64 0, .float .f64 0]).cells (ps.length * 2) := ⟨_, rfl⟩
  have hMs : M.size = ps.length * 2 := by rw [hM, size_madeCells]
  rw [← hM] at hmk
  clear hM
  go_enter Try.func18, Try.ntmps18
  go_wp2
  go_loopw [11] (fun i wr => ∃ (k : Nat) (cs : Array Value), k ≤ ps.length ∧ i = .int .i64 k ∧ Blk wr w.heap.size 44 cs ∧ cs.size = ps.length * 2 ∧ Laid cs ps k ∧ Below w.heap.size w wr) (fun i _ => ps.length - (intOf i).toNat)
  case atStart => exact ⟨0, M, Nat.zero_le _, rfl, Blk.newAt _ _ _ rfl, hMs, fun j _ h => absurd h (by omega), b_alloc (Below.refl _ _) _⟩
  case round =>
    obtain ⟨k, cs, hk, rfl, hB, hsz, hL, hb⟩ := hrel
    by_cases hlt : k < ps.length
    · obtain ⟨b, off, rfl, hbl, hc⟩ := hA (by intro h; subst h; simp at hlt)
      obtain ⟨c1, c2⟩ := hc k hlt
      rw [← hb.cell (p := ⟨b, _, none⟩) hbl] at c1 c2
      have hL' := hL.next hlt hsz
      generalize ps[k].1 = x at *
      generalize ps[k].2 = y at *
      go_wp2_with fail
      refine (CX.out _ _ _).mono ?_
      rintro e w1 ⟨rfl, hb1⟩
      have hB1 := (hB.alloc (.cells #[.float .f64 x, .float .f64 y] 32)).stay hb1
      obtain ⟨u, v, q0, q1⟩ := two_in hsz hlt
      rw [← hB1.cell] at q0 q1
      have fz := hB1.frozen
      go_wp2
      go_roundw
      case rel =>
        refine ⟨k + 1, (cs.setIfInBounds (k * 2) (.float .f64 x)).setIfInBounds (k * 2 + 1) (.float .f64 y), by omega, by go_num, ?_, by simp [hsz], hL', ?_⟩
        · exact (hB1.set_ _ _).set_ _ _
        · exact b_set (b_set (b_trans (b_alloc hb _) hb1) _ (Nat.le_refl _) _) _ (Nat.le_refl _) _
      case measure => simp [intOf]; omega
    · obtain rfl : k = ps.length := by omega
      go_wp2
      go_ret
      refine ⟨_, _, rfl, ?_, hb⟩
      intro _
      refine ⟨_, _, rfl, hB.lt, fun j hj => ?_⟩
      rw [hB.cell, hB.cell, Nat.zero_add]
      exact hL j hj hj
end NewE
end Go.Proofs.Ytjeofjhcdeginaa
