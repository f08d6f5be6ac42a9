/- Walks: small geometries; widths and types. -/
import Derived.Test.YtllomldpbkeioaaG1
import Derived.Laws.BitsAllLaws
namespace Go.Proofs.Ytllomldpbkeioaa
open Go.RowKit Go.Sort
namespace Geo
@[go_sem] theorem bi_0_1 : bits .and .i64 0 1 = 0 := by decide +kernel
@[go_sem] theorem bi_0_2 : bits .and .i64 0 2 = 0 := by decide +kernel
@[go_sem] theorem bi_0_3 : bits .and .i64 0 3 = 0 := by decide +kernel
@[go_sem] theorem bi_1_1 : bits .and .i64 1 1 = 1 := by decide +kernel
@[go_sem] theorem bi_1_2 : bits .and .i64 1 2 = 0 := by decide +kernel
@[go_sem] theorem bi_1_3 : bits .and .i64 1 3 = 1 := by decide +kernel
@[go_sem] theorem bi_2_1 : bits .and .i64 2 1 = 0 := by decide +kernel
@[go_sem] theorem bi_2_2 : bits .and .i64 2 2 = 2 := by decide +kernel
@[go_sem] theorem bi_2_3 : bits .and .i64 2 3 = 2 := by decide +kernel
@[go_sem] theorem bi_3_1 : bits .and .i64 3 1 = 1 := by decide +kernel
@[go_sem] theorem bi_3_2 : bits .and .i64 3 2 = 2 := by decide +kernel
@[go_sem] theorem bi_3_3 : bits .and .i64 3 3 = 3 := by decide +kernel
@[go_sem] theorem bu_0_1 : bits .and .u8 0 1 = 0 := by decide +kernel
@[go_sem] theorem bu_0_2 : bits .and .u8 0 2 = 0 := by decide +kernel
@[go_sem] theorem bu_0_3 : bits .and .u8 0 3 = 0 := by decide +kernel
@[go_sem] theorem bu_1_1 : bits .and .u8 1 1 = 1 := by decide +kernel
@[go_sem] theorem bu_1_2 : bits .and .u8 1 2 = 0 := by decide +kernel
@[go_sem] theorem bu_1_3 : bits .and .u8 1 3 = 1 := by decide +kernel
@[go_sem] theorem bu_2_1 : bits .and .u8 2 1 = 0 := by decide +kernel
@[go_sem] theorem bu_2_2 : bits .and .u8 2 2 = 2 := by decide +kernel
@[go_sem] theorem bu_2_3 : bits .and .u8 2 3 = 2 := by decide +kernel
@[go_sem] theorem bu_3_1 : bits .and .u8 3 1 = 1 := by decide +kernel
@[go_sem] theorem bu_3_2 : bits .and .u8 3 2 = 2 := by decide +kernel
@[go_sem] theorem bu_3_3 : bits .and .u8 3 3 = 3 := by decide +kernel
set_option maxHeartbeats 1000000 in
theorem small_any (gs : List G) (A : Option Addr) (n c : Nat) (hn : n = gs.length) (hm : n ≤ 2147483647) (w : World) (hA : Gs w w.heap.size A gs) :
    Calls Try.prog 8 #[.slice A n c] w fun r w' => r = .returned (.bool (decide (0 ≤ wtL gs 2000))) ∧ Below w.heap.size w w' := by
  subst hn
  go_enter Try.func8, Try.ntmps8
  go_wp2
  go_loopw [3, 4] (fun lv i wr => ∃ (j : Nat) (L : Int), j ≤ gs.length ∧ lv = .int .i64 L ∧ i = .int .i64 j ∧ -1 ≤ L ∧ L ≤ 2000 ∧ Hid (wtL (gs.drop j) L = wtL gs 2000) ∧ Below w.heap.size w wr) (fun _ i _ => gs.length - (intOf i).toNat)
  case atStart => exact ⟨0, 2000, Nat.zero_le _, rfl, rfl, by omega, by omega, rfl, Below.refl _ _⟩
  case round =>
    obtain ⟨j, L, hj, rfl, rfl, hm1, hm2, HW, hb⟩ := hrel
    by_cases q4 : j < gs.length
    · by_cases q5 : 0 ≤ L
      · obtain ⟨b, off, A1, c1, A2, c2, rfl, hbl, c0, c11, c22, c33, hgm⟩ := (hA.below hb hb.size).at q4
        have ihk := weight_any gs[j] A1 c1 A2 c2 L hm1 hm2
        have hw := (wtL_drop q4 q5).symm.trans HW.out
        obtain ⟨r1, r2, _⟩ := wt_range gs[j] L hm1
        unfold GV gCells at ihk
        have IK := Lib.hid ihk
        have HW2 := Lib.hid hw
        clear HW hw ihk
        generalize wt gs[j] L = L' at *
        generalize gs[j] = g' at *
        go_wp2_with fail
        refine (IK.out _ hgm).mono ?_
        rintro e w1 ⟨rfl, hb1⟩
        go_wp2_with fail
        go_roundw
        case rel => exact ⟨j + 1, L', by omega, rfl, by go_num, r1, by omega, HW2.out, b_trans hb hb1⟩
        case measure => simp [intOf]; omega
      · go_wp2_with fail
        go_ret
        refine ⟨?_, hb⟩
        have := HW.out
        rw [wtL_neg _ (by omega)] at this
        rw [← this, decide_eq_false (by omega)]; rfl
    · obtain rfl : j = gs.length := by omega
      go_wp2_with fail
      go_ret
      refine ⟨?_, hb⟩
      have := HW.out
      rw [List.drop_length] at this
      rw [← this]; rfl
theorem fits2_any (g : G) (A : Option Addr) (c : Nat) (A' : Option Addr) (c' : Nat) (w : World) :
    Calls Try.prog 12 #[GV g A c A' c'] w fun r w' => r = .returned (.bool (decide (g.nums.length ≤ 2147483647) && decide (g.kids.length ≤ 2147483647))) ∧ Below w.heap.size w w' := by
  unfold GV gCells
  generalize g.nums.length = n
  generalize g.kids.length = m
  by_cases q1 : n ≤ 2147483647
  · by_cases q2 : m ≤ 2147483647
    · go_enter Try.func12, Try.ntmps12
      go_wp2
      go_ret
      refine ⟨by rw [decide_eq_true q1, decide_eq_true q2]; rfl, ?_⟩
      (repeat (first | exact Below.refl _ _ | refine b_alloc ?_ _ | refine b_drew ?_ | refine b_drewN ?_ _ | refine b_set ?_ _ (by first | (simp; done) | (simp; omega) | assumption | (dsimp only; omega)) _ | refine b_trans ?_ (by assumption)))
    · go_enter Try.func12, Try.ntmps12
      go_wp2
      go_ret
      refine ⟨by rw [decide_eq_true q1, decide_eq_false q2]; rfl, ?_⟩
      (repeat (first | exact Below.refl _ _ | refine b_alloc ?_ _ | refine b_drew ?_ | refine b_drewN ?_ _ | refine b_set ?_ _ (by first | (simp; done) | (simp; omega) | assumption | (dsimp only; omega)) _ | refine b_trans ?_ (by assumption)))
  · go_enter Try.func12, Try.ntmps12
    go_wp2
    go_ret
    refine ⟨by rw [decide_eq_false q1]; rfl, ?_⟩
    (repeat (first | exact Below.refl _ _ | refine b_alloc ?_ _ | refine b_drew ?_ | refine b_drewN ?_ _ | refine b_set ?_ _ (by first | (simp; done) | (simp; omega) | assumption | (dsimp only; omega)) _ | refine b_trans ?_ (by assumption)))
theorem width_any (d : Nat) (hd : d < 4) (w : World) : Calls Try.prog 31 #[.int .i64 d] w fun r w' => r = .returned (.int .i64 (wd d)) ∧ w = w' := by
  rcases four hd with rfl | rfl | rfl | rfl
  all_goals
    go_enter Try.func31, Try.ntmps31
    go_wp2
    go_ret
    exact ⟨rfl, rfl⟩
abbrev aw : Value := .agg #[.int .i64 2, .int .i64 3, .int .i64 3, .int .i64 4]
theorem ix0 (w : World) : (Instr.index 109 aw (.int .u8 0)).run Try.prog w = .ok (.int .i64 2) w := by kernel_rfl
theorem ix1 (w : World) : (Instr.index 109 aw (.int .u8 1)).run Try.prog w = .ok (.int .i64 3) w := by kernel_rfl
theorem ix2 (w : World) : (Instr.index 109 aw (.int .u8 2)).run Try.prog w = .ok (.int .i64 3) w := by kernel_rfl
theorem ix3 (w : World) : (Instr.index 109 aw (.int .u8 3)).run Try.prog w = .ok (.int .i64 4) w := by kernel_rfl
theorem dimension_any (d : Nat) (hd : d < 4) (w : World) : Calls Try.prog 59 #[.int .u8 d] w fun r w' => r = .returned (.int .i64 (wd d)) ∧ w = w' := by
  have i0 := ix0
  have i1 := ix1
  have i2 := ix2
  have i3 := ix3
  rcases four hd with rfl | rfl | rfl | rfl
  all_goals
    go_enter Try.func59, Try.ntmps59
    go_wp2
    go_ret
    exact ⟨rfl, rfl⟩
theorem is3d_any (d : Nat) (hd : d < 4) (w : World) : Calls Try.prog 57 #[.int .u8 d] w fun r w' => r = .returned (.bool (decide (d % 2 = 1))) ∧ w = w' := by
  rcases four hd with rfl | rfl | rfl | rfl
  all_goals
    go_enter Try.func57, Try.ntmps57
    go_wp2
    go_ret
    exact ⟨rfl, rfl⟩
theorem ismeas_any (d : Nat) (hd : d < 4) (w : World) : Calls Try.prog 58 #[.int .u8 d] w fun r w' => r = .returned (.bool (decide (d / 2 % 2 = 1))) ∧ w = w' := by
  rcases four hd with rfl | rfl | rfl | rfl
  all_goals
    go_enter Try.func58, Try.ntmps58
    go_wp2
    go_ret
    exact ⟨rfl, rfl⟩
theorem and3 (n : Int) : bits .and .i64 n 3 = n % 4 := by
  have h3 : (BitVec.ofInt 64 3).toNat = 2 ^ 2 - 1 := by decide
  have key : (BitVec.ofInt 64 n &&& BitVec.ofInt 64 3).toNat = (n % ((2 ^ 64 : Nat) : Int)).toNat % 2 ^ 2 := by
    rw [BitVec.toNat_and, BitVec.toNat_ofInt, h3, Nat.and_two_pow_sub_one_eq_mod]
  show IntKind.i64.wrap ((BitVec.ofInt 64 n &&& BitVec.ofInt 64 3).toNat : Nat) = n % 4
  rw [key, IntKind.wrap_i64]
  omega
/-- the last two bits -/
def dim3 (d : Int) : Nat := (d % 4).toNat
theorem dim3_lt (d : Int) : dim3 d < 4 := by unfold dim3; omega
theorem dimof_any (d : Int) (w : World) : Calls Try.prog 40 #[.int .i64 d] w fun r w' => r = .returned (.int .u8 (dim3 d)) ∧ w = w' := by
  go_enter Try.func40, Try.ntmps40
  go_wp2
  go_ret
  refine ⟨?_, rfl⟩
  have : bits .and .i64 d 3 % 256 = (dim3 d : Int) := by rw [and3]; unfold dim3; omega
  show Ending.returned (Value.int .u8 (bits .and .i64 d 3 % 256)) = _
  rw [this]
end Geo
end Go.Proofs.Ytllomldpbkeioaa
