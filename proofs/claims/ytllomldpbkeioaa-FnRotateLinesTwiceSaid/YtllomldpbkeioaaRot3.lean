/- The law of lines moved around twice, walked. -/
import Derived.Test.YtllomldpbkeioaaRot2
import Derived.Test.YtllomldpbkeioaaG14
namespace Go.Proofs.Ytllomldpbkeioaa
open Go.RowKit Go.Sort
namespace Rot
open Geo
set_option linter.unusedSimpArgs false
def goodL (g : G) : Bool := decide (0 ≤ g.dim) && (decide (g.dim ≤ 3) && (decide (g.kids.length = 0) && decide (g.nums.length % wd (dim3 g.dim) = 0)))
set_option maxHeartbeats 2000000 in
theorem good2_any (g : G) (hk : g.kind = 2) (A : Option Addr) (c : Nat) (A' : Option Addr) (c' : Nat) (w : World) :
    Calls Try.prog 9 #[GV g A c A' c'] w fun r w' => r = .returned (.bool (goodL g)) ∧ Below w.heap.size w w' := by
  have hlf := leaf2_any
  unfold goodL GV gCells
  rw [hk]
  clear hk
  generalize g.kids.length = kl at *
  generalize g.nums.length = n at *
  generalize g.dim = dim at *
  have hd := dim3_lt dim
  have hwd := fun w => width_any (dim3 dim) hd w
  by_cases q1 : 0 ≤ dim
  · by_cases q2 : dim ≤ 3
    · have hdd : (dim3 dim : Int) = dim := by unfold dim3; omega
      rw [hdd] at hwd
      have hw := wd_le (dim3 dim)
      generalize wd (dim3 dim) = W at *
      have hmod : (n : Int) % (W : Int) = ((n % W : Nat) : Int) := (Int.natCast_emod _ _).symm
      have hml : n % W < W := Nat.mod_lt _ (by omega)
      generalize n % W = m at *
      have hW0 : ¬ ((W : Int) = 0) := by omega
      have hWp : (0 : Int) < (W : Int) := by omega
      have HLF := Lib.hid hlf
      have HWD := Lib.hid hwd
      clear hlf hwd hdd hd
      rw [decide_eq_true q1, decide_eq_true q2]
      by_cases q3 : kl = 0
      · subst q3
        rw [decide_eq_true rfl]
        by_cases q4 : m = 0
        · subst q4
          rw [decide_eq_true rfl]
          rw [c0] at hmod
          go_enter Try.func9, Try.ntmps9
          go_wp2_with fail
          refine (HLF.out _).mono ?_
          rintro e w1 ⟨rfl, rfl⟩
          go_wp2_with fail
          refine (HWD.out _).mono ?_
          rintro e w1 ⟨rfl, rfl⟩
          go_wp2_with fail
          go_ret
          refine ⟨rfl, ?_⟩
          (repeat (first | exact Below.refl _ _ | refine b_alloc ?_ _ | refine b_drew ?_ | refine b_drewN ?_ _ | refine b_set ?_ _ (by first | (simp; done) | (simp; omega) | assumption | (dsimp only; omega)) _ | refine b_trans ?_ (by assumption)))
        · have hm0 : ¬ ((m : Int) = 0) := by omega
          have hm1 : ((m : Int) == 0) = false := beq_eq_false_iff_ne.2 hm0
          rw [decide_eq_false q4]
          go_enter Try.func9, Try.ntmps9
          go_wp2_with fail
          refine (HLF.out _).mono ?_
          rintro e w1 ⟨rfl, rfl⟩
          go_wp2_with fail
          refine (HWD.out _).mono ?_
          rintro e w1 ⟨rfl, rfl⟩
          go_wp2_with fail
          go_ret
          refine ⟨rfl, ?_⟩
          (repeat (first | exact Below.refl _ _ | refine b_alloc ?_ _ | refine b_drew ?_ | refine b_drewN ?_ _ | refine b_set ?_ _ (by first | (simp; done) | (simp; omega) | assumption | (dsimp only; omega)) _ | refine b_trans ?_ (by assumption)))
      · have hk0 : ¬ ((kl : Int) = 0) := by omega
        have hk1 : ((kl : Int) == 0) = false := beq_eq_false_iff_ne.2 hk0
        rw [decide_eq_false q3]
        go_enter Try.func9, Try.ntmps9
        go_wp2_with fail
        refine (HLF.out _).mono ?_
        rintro e w1 ⟨rfl, rfl⟩
        go_wp2_with fail
        go_ret
        refine ⟨rfl, ?_⟩
        (repeat (first | exact Below.refl _ _ | refine b_alloc ?_ _ | refine b_drew ?_ | refine b_drewN ?_ _ | refine b_set ?_ _ (by first | (simp; done) | (simp; omega) | assumption | (dsimp only; omega)) _ | refine b_trans ?_ (by assumption)))
    · rw [decide_eq_true q1, decide_eq_false q2]
      clear hlf hwd
      go_enter Try.func9, Try.ntmps9
      go_wp2_with fail
      go_ret
      refine ⟨rfl, ?_⟩
      (repeat (first | exact Below.refl _ _ | refine b_alloc ?_ _ | refine b_drew ?_ | refine b_drewN ?_ _ | refine b_set ?_ _ (by first | (simp; done) | (simp; omega) | assumption | (dsimp only; omega)) _ | refine b_trans ?_ (by assumption)))
  · rw [decide_eq_false q1]
    clear hlf hwd
    go_enter Try.func9, Try.ntmps9
    go_wp2_with fail
    go_ret
    refine ⟨rfl, ?_⟩
    (repeat (first | exact Below.refl _ _ | refine b_alloc ?_ _ | refine b_drew ?_ | refine b_drewN ?_ _ | refine b_set ?_ _ (by first | (simp; done) | (simp; omega) | assumption | (dsimp only; omega)) _ | refine b_trans ?_ (by assumption)))
/-- a line to which nothing has to be done -/
def Gline (g : G) : Prop := g.kind = 2 ∧ goodL g = true
theorem outG_good {g : G} (h : Gline g) : outG g = g := by
  obtain ⟨h1, h2⟩ := h
  obtain ⟨k, d, ns, kids⟩ := g
  simp only [goodL, G.kind, G.dim, G.nums, G.kids, Bool.and_eq_true, decide_eq_true_eq] at h1 h2
  obtain ⟨q1, q2, q3, q4⟩ := h2
  replace q1 := of_decide_eq_true q1
  replace q2 := of_decide_eq_true q2
  replace q3 := of_decide_eq_true q3
  replace q4 := of_decide_eq_true q4
  subst h1
  have hk : kids = [] := List.eq_nil_of_length_eq_zero q3
  subst hk
  have hd : (dim3 d : Int) = d := by unfold dim3; omega
  unfold outG lineF
  simp only [G.kind, G.dim, G.nums, if_true]
  rw [whole_self q4, nums_places (dim3_lt d) q4, hd]
/-- moved around -/
def rotL (gs : List G) (r : Nat) : List G := gs.drop (gs.length - r) ++ gs.take (gs.length - r)
theorem rotOut_good {gs : List G} (h : ∀ g ∈ gs, Gline g) {r : Nat} (hr : r ≤ gs.length) : rotOut gs r = rotL gs r := by
  apply List.ext_getElem?
  intro i
  by_cases h1 : i < gs.length
  · have hl := rt_lt hr h1
    have e1 : (rotOut gs r)[i]? = some (outG (gs.getD (rt gs.length r i) noG)) := by
      unfold rotOut
      rw [List.getElem?_map, List.getElem?_range h1]; rfl
    rw [e1, List.getD_eq_getElem?_getD, List.getElem?_eq_getElem hl, Option.getD_some, outG_good (h _ (List.getElem_mem hl)), ← List.getElem?_eq_getElem hl]
    unfold rotL
    have el : (gs.drop (gs.length - r)).length = r := by rw [List.length_drop]; omega
    by_cases q : i < r
    · rw [List.getElem?_append_left (by omega), List.getElem?_drop]
      congr 1
      unfold rt; rw [if_pos q]; omega
    · rw [List.getElem?_append_right (by omega), el, List.getElem?_take, if_pos (by omega)]
      congr 1
      unfold rt; rw [if_neg q]
  · rw [List.getElem?_eq_none (by rw [rotOut_length]; omega), List.getElem?_eq_none (by unfold rotL; rw [List.length_append, List.length_drop, List.length_take]; omega)]
theorem rotL_length {gs : List G} {r : Nat} : (rotL gs r).length = gs.length := by
  unfold rotL; rw [List.length_append, List.length_drop, List.length_take]; omega
theorem rotL_mem {gs : List G} {r : Nat} {g : G} (h : g ∈ rotL gs r) : g ∈ gs := by
  unfold rotL at h
  rcases List.mem_append.1 h with h | h
  · exact List.mem_of_mem_drop h
  · exact List.mem_of_mem_take h
theorem rotL_twice {gs : List G} {r : Nat} (hr : r ≤ gs.length) : rotL (rotL gs r) (gs.length - r) = gs := by
  have hl := rotL_length (gs := gs) (r := r)
  have el : (gs.drop (gs.length - r)).length = r := by rw [List.length_drop]; omega
  have e : gs.length - (gs.length - r) = r := by omega
  have e1 : (rotL gs r).drop r = gs.take (gs.length - r) := by
    unfold rotL
    rw [List.drop_append, el, Nat.sub_self, List.drop_of_length_le (by omega), List.nil_append, List.drop_zero]
  have e2 : (rotL gs r).take r = gs.drop (gs.length - r) := by
    unfold rotL
    rw [List.take_append, el, Nat.sub_self, List.take_of_length_le (by omega), List.take_zero, List.append_nil]
  show (rotL gs r).drop ((rotL gs r).length - (gs.length - r)) ++ (rotL gs r).take ((rotL gs r).length - (gs.length - r)) = gs
  rw [hl, e, e1, e2, List.take_append_drop]
theorem szL_mem' {l : List G} {g : G} (h : g ∈ l) : g.nums.length ≤ szL l := by
  have := szL_mem h
  obtain ⟨k, d, ns, kids⟩ := g
  unfold sz at this
  simp only [G.nums]
  omega
set_option maxHeartbeats 4000000 in
theorem walk (A : Option Addr) (c : Nat) (gs : List G) (right : Int) (w : World) (_ : gs.length ≤ c) (hmax : gs.length ≤ maxLen) (hA : Gs w w.heap.size A gs) :
    Calls Try.prog 3 #[.slice A gs.length c, .int .i64 right] w fun r w' => r = .returned (.bool true) ∧ Below w.heap.size w w' := by
  have hmax' : gs.length ≤ 9223372036854775807 := hmax
  clear hmax
  by_cases q0 : gs.length ≤ 2147483647
  · have s1 := small_any gs A gs.length c rfl q0 w hA
    cases hS : decide (0 ≤ wtL gs 2000)
    · rw [hS] at s1
      have S1 := Lib.hid s1
      clear s1
      go_enter Try.func3, Try.ntmps3
      go_wp2_with fail
      refine S1.out.mono ?_
      rintro e w1 ⟨rfl, hb1⟩
      go_wp2_with fail
      go_ret
      exact ⟨rfl, hb1⟩
    · rw [hS] at s1
      have hsz : szL gs ≤ 2000 := by
        have h1 := (wtL_range gs 2000 (by omega)).2.2 (of_decide_eq_true hS)
        have h2 := of_decide_eq_true hS
        omega
      clear hS
      have hlen := szL_len gs
      have S1 := Lib.hid s1
      clear s1
      by_cases q1 : 0 ≤ right
      · by_cases q2 : right ≤ gs.length
        · obtain ⟨r, rfl⟩ : ∃ r : Nat, right = (r : Int) := ⟨right.toNat, by omega⟩
          have hr : r ≤ gs.length := by omega
          have hm : ∀ g ∈ gs, g.nums.length ≤ 10000 := fun g hg => by have := szL_mem' hg; omega
          have hd1 : decide (gs.length < r) = false := decide_eq_false (by omega)
          have hd2 : decide ((r : Int) < 0) = false := decide_eq_false (by omega)
          have hd3 : decide ((gs.length : Int) < (r : Int)) = false := decide_eq_false (by omega)
          have HR := Lib.hid hr
          clear hr q1 q2
          go_enter Try.func3, Try.ntmps3
          go_wp2_with fail
          refine S1.out.mono ?_
          rintro e w1 ⟨rfl, hb1⟩
          clear S1
          go_wp2_with fail
          go_loopw [25] (fun i wr => ∃ k : Nat, k ≤ gs.length ∧ i = .int .i64 k ∧ Hid (∀ i (_ : i < gs.length), i < k → Gline gs[i]) ∧ Below w.heap.size w wr) (fun i _ => gs.length - (intOf i).toNat)
          case atStart => exact ⟨0, Nat.zero_le _, rfl, fun i _ h => absurd h (by omega), hb1⟩
          case round =>
            obtain ⟨k, hk, rfl, hgd, hb⟩ := hrel
            by_cases hlt : k < gs.length
            · obtain ⟨b, off, A1, c1, A2, c2, rfl, hbl, p0, p1, p2, p3, hgm⟩ := (hA.below hb hb.size).at hlt
              have hba := b_alloc (Below.refl wr.heap.size wr) (.cells (gCells gs[k] A1 c1 A2 c2) 26)
              have hstep : Gline gs[k] → ∀ i (_ : i < gs.length), i < k + 1 → Gline gs[i] := fun h i hi hik => by
                by_cases e : i = k
                · subst e; exact h
                · exact hgd.out i hi (by omega)
              have HSTEP := Lib.hid hstep
              clear hgd hstep hgm
              by_cases hk2 : gs[k].kind = 2
              · have s2 := fun w => good2_any gs[k] hk2 A1 c1 A2 c2 w
                cases hgood : goodL gs[k]
                · rw [hgood] at s2
                  unfold GV gCells at *
                  generalize gs[k] = g0 at *
                  rw [hk2] at s2 p0 hba
                  have S2 := Lib.hid s2
                  clear s2 hgood hk2 HSTEP
                  go_wp2_with fail
                  refine (S2.out _).mono ?_
                  rintro e w2 ⟨rfl, hb2⟩
                  go_wp2_with fail
                  go_ret
                  exact ⟨rfl, b_trans (b_trans hb hba) hb2⟩
                · rw [hgood] at s2
                  have hnew := HSTEP.out ⟨hk2, hgood⟩
                  have HNEW := Lib.hid hnew
                  clear HSTEP hnew
                  unfold GV gCells at *
                  generalize gs[k] = g0 at *
                  rw [hk2] at s2 p0 hba
                  have S2 := Lib.hid s2
                  clear s2 hgood hk2
                  go_wp2_with fail
                  refine (S2.out _).mono ?_
                  rintro e w2 ⟨rfl, hb2⟩
                  go_wp2_with fail
                  go_roundw
                  case rel => exact ⟨k + 1, by omega, by go_num, HNEW, b_trans (b_trans hb hba) hb2⟩
                  case measure => simp [intOf]; omega
              · unfold gCells at *
                generalize gs[k] = g0 at *
                have hk3 : (g0.kind == 2) = false := beq_eq_false_iff_ne.2 hk2
                clear HSTEP
                go_wp2_with fail
                go_ret
                exact ⟨rfl, b_trans hb hba⟩
            · obtain rfl : k = gs.length := by omega
              have hall : ∀ g ∈ gs, Gline g := fun g hg => by
                obtain ⟨i, hi, rfl⟩ := List.mem_iff_getElem.1 hg
                exact hgd.out i hi hi
              have hr := HR.out
              have e1 := rotOut_good hall hr
              have e2 := rotOut_good (gs := rotL gs r) (fun g hg => hall g (rotL_mem hg)) (r := gs.length - r) (by rw [rotL_length]; omega)
              rw [rotL_twice hr] at e2
              have s2 := rotlines_any gs A c r hr (by omega) hm wr (hA.below hb hb.size)
              rw [e1] at s2
              have s3 := fun A c w hA => rotlines_any (rotL gs r) A c (gs.length - r) (by rw [rotL_length]; omega) (by rw [rotL_length]; omega) (fun g hg => hm g (rotL_mem hg)) w hA
              rw [e2, rotL_length] at s3
              have s4 := fun A c A' c' w h1 h2 => samegeoms_any gs gs A c A' c' (by omega) w h1 h2
              rw [sameL_refl] at s4
              have hrl := rotL_length (gs := gs) (r := r)
              unfold GsR at s2 s3
              rw [hrl] at s2
              have hsub : (gs.length : Int) - (r : Int) = ((gs.length - r : Nat) : Int) := by omega
              generalize gs.length - r = q at *
              generalize rotL gs r = R at *
              have S2 := Lib.hid s2
              have S3 := Lib.hid s3
              have S4 := Lib.hid s4
              clear s2 s3 s4 e1 e2 hall hgd hm hlt
              go_wp2_with fail
              refine S2.out.mono ?_
              rintro e w2 ⟨⟨A2, c2, rfl, hc2, hg2⟩, hb2⟩
              have hB2 := b_trans hb hb2
              go_wp2_with fail
              refine (S3.out _ _ _ hg2).mono ?_
              rintro e w3 ⟨⟨A3, c3, rfl, hc3, hg3⟩, hb3⟩
              have hB3 := b_trans hB2 hb3
              go_wp2_with fail
              refine (S4.out _ _ _ _ _ hg3 (hA.below hB3 hB3.size)).mono ?_
              rintro e w4 ⟨rfl, hb4⟩
              go_wp2_with fail
              go_ret
              exact ⟨rfl, b_trans hB3 hb4⟩
        · clear hA
          go_enter Try.func3, Try.ntmps3
          go_wp2_with fail
          refine S1.out.mono ?_
          rintro e w1 ⟨rfl, hb1⟩
          go_wp2_with fail
          go_ret
          exact ⟨rfl, hb1⟩
      · clear hA
        go_enter Try.func3, Try.ntmps3
        go_wp2_with fail
        refine S1.out.mono ?_
        rintro e w1 ⟨rfl, hb1⟩
        go_wp2_with fail
        go_ret
        exact ⟨rfl, hb1⟩
  · clear hA
    go_enter Try.func3, Try.ntmps3
    go_wp2_with fail
    go_ret
    exact ⟨rfl, Below.refl _ _⟩
end Rot
end Go.Proofs.Ytllomldpbkeioaa
