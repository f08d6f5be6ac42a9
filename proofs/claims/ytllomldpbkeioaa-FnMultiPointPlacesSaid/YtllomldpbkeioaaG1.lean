/- Walks: how heavy a geometry is. -/
import Derived.Test.YtllomldpbkeioaaChecked
import Derived.Test.YtllomldpbkeioaaG0
namespace Go.Proofs.Ytllomldpbkeioaa
open Go.RowKit Go.Sort
namespace Geo
mutual
def wt : G → Int → Int
  | .mk _ _ ns kids, left => if left < 1 ∨ left < ns.length ∨ left < kids.length then -1 else wtL kids (left - 1 - ns.length)
def wtL : List G → Int → Int
  | [], left => left
  | g :: l, left => if 0 ≤ left then wtL l (wt g left) else left
end
mutual
def sz : G → Nat
  | .mk _ _ ns kids => 1 + ns.length + szL kids
def szL : List G → Nat
  | [] => 0
  | g :: l => sz g + szL l
end
theorem wt_range (g : G) : ∀ left : Int, -1 ≤ left → -1 ≤ wt g left ∧ wt g left ≤ max left (-1) ∧ (0 ≤ wt g left → wt g left = left - sz g) := by
  refine G.ind g fun k d ns kids ih => ?_
  have hL : ∀ (l : List G), (∀ x ∈ l, x ∈ kids) → ∀ left : Int, -1 ≤ left → -1 ≤ wtL l left ∧ wtL l left ≤ max left (-1) ∧ (0 ≤ wtL l left → wtL l left = left - szL l) := by
    intro l
    induction l with
    | nil => intro _ left h; unfold wtL szL; exact ⟨h, by omega, fun _ => by omega⟩
    | cons x l ihl =>
      intro hl left h
      unfold wtL szL
      by_cases h0 : 0 ≤ left
      · rw [if_pos h0]
        obtain ⟨a1, a2, a3⟩ := ih x (hl x (List.mem_cons_self ..)) left h
        obtain ⟨b1, b2, b3⟩ := ihl (fun y hy => hl y (List.mem_cons_of_mem _ hy)) (wt x left) a1
        refine ⟨b1, by omega, fun h5 => ?_⟩
        have := b3 h5
        have := a3 (by omega)
        omega
      · rw [if_neg h0]; exact ⟨h, by omega, fun h5 => absurd h5 h0⟩
  intro left h
  unfold wt sz
  by_cases h1 : left < 1 ∨ left < ns.length ∨ left < kids.length
  · rw [if_pos h1]; exact ⟨by omega, by omega, fun h => by omega⟩
  · rw [if_neg h1]
    obtain ⟨b1, b2, b3⟩ := hL kids (fun _ h => h) (left - 1 - ns.length) (by omega)
    exact ⟨b1, by omega, fun h5 => by have := b3 h5; omega⟩
theorem wtL_range (l : List G) : ∀ left : Int, -1 ≤ left → -1 ≤ wtL l left ∧ wtL l left ≤ max left (-1) ∧ (0 ≤ wtL l left → wtL l left = left - szL l) := by
  induction l with
  | nil => intro left h; unfold wtL szL; exact ⟨h, by omega, fun _ => by omega⟩
  | cons x l ihl =>
    intro left h
    unfold wtL szL
    by_cases h0 : 0 ≤ left
    · rw [if_pos h0]
      obtain ⟨a1, a2, a3⟩ := wt_range x left h
      obtain ⟨b1, b2, b3⟩ := ihl (wt x left) a1
      refine ⟨b1, by omega, fun h5 => ?_⟩
      have := b3 h5
      have := a3 (by omega)
      omega
    · rw [if_neg h0]; exact ⟨h, by omega, fun h5 => absurd h5 h0⟩
theorem wtL_neg (l : List G) {left : Int} (h : left < 0) : wtL l left = left := by
  cases l with
  | nil => rfl
  | cons g l => unfold wtL; rw [if_neg (by omega)]
theorem wtL_drop {l : List G} {k : Nat} (h : k < l.length) {left : Int} (h0 : 0 ≤ left) : wtL (l.drop k) left = wtL (l.drop (k + 1)) (wt l[k] left) := by
  rw [List.drop_eq_getElem_cons h]
  conv => lhs; unfold wtL
  rw [if_pos h0]
/-- one of the geometries behind an address -/
theorem Gs.at {w : World} {B : Nat} {A : Option Addr} {gs : List G} (h : Gs w B A gs) {i : Nat} (hi : i < gs.length) : ∃ b off A1 c1 A2 c2, A = some ⟨b, off, none⟩ ∧ b < B ∧ w.cell? ⟨b, off + i * 4, none⟩ = some (.int .i64 gs[i].kind) ∧ w.cell? ⟨b, off + i * 4 + 1, none⟩ = some (.int .i64 gs[i].dim) ∧
    w.cell? ⟨b, off + i * 4 + 2, none⟩ = some (.slice A1 gs[i].nums.length c1) ∧ w.cell? ⟨b, off + i * 4 + 3, none⟩ = some (.slice A2 gs[i].kids.length c2) ∧ GM w B gs[i] A1 c1 A2 c2 := by
  obtain ⟨b, off, e, hb, hall⟩ := h (fun e => by rw [e] at hi; simp at hi)
  obtain ⟨A1, c1, A2, c2, hc, hg⟩ := hall i hi
  exact ⟨b, off, A1, c1, A2, c2, e, hb, hc 0 (by omega), hc 1 (by omega), hc 2 (by omega), hc 3 (by omega), hg⟩
set_option maxHeartbeats 1000000 in
theorem weight_any (g : G) : ∀ (A : Option Addr) (c : Nat) (A' : Option Addr) (c' : Nat) (left : Int), -1 ≤ left → left ≤ 2000 → ∀ w : World, GM w w.heap.size g A c A' c' →
    Calls Try.prog 29 #[GV g A c A' c', .int .i64 left] w fun r w' => r = .returned (.int .i64 (wt g left)) ∧ Below w.heap.size w w' := by
  refine G.ind g fun k d ns kids ih => ?_
  intro A c A' c' left hl0 hl1 w hg
  obtain ⟨hn, hc, hc', hk⟩ := hg.parts
  unfold GV gCells
  simp only [G.kind, G.dim, G.nums, G.kids] at *
  have e0 : wt (.mk k d ns kids) left = if left < 1 ∨ left < ns.length ∨ left < kids.length then -1 else wtL kids (left - 1 - ns.length) := by conv => lhs; unfold wt
  have H0 := Lib.hid e0
  clear e0 hg
  by_cases q1 : left < 1
  · go_enter Try.func29, Try.ntmps29
    go_wp2
    go_ret
    refine ⟨by rw [H0.out, if_pos (.inl q1)]; rfl, ?_⟩
    (repeat (first | exact Below.refl _ _ | refine b_alloc ?_ _ | refine b_drew ?_ | refine b_drewN ?_ _ | refine b_set ?_ _ (by first | (simp; done) | (simp; omega) | assumption | (dsimp only; omega)) _ | refine b_trans ?_ (by assumption)))
  by_cases q2 : left < ns.length
  · go_enter Try.func29, Try.ntmps29
    go_wp2
    go_ret
    refine ⟨by rw [H0.out, if_pos (.inr (.inl q2))]; rfl, ?_⟩
    (repeat (first | exact Below.refl _ _ | refine b_alloc ?_ _ | refine b_drew ?_ | refine b_drewN ?_ _ | refine b_set ?_ _ (by first | (simp; done) | (simp; omega) | assumption | (dsimp only; omega)) _ | refine b_trans ?_ (by assumption)))
  by_cases q3 : left < kids.length
  · go_enter Try.func29, Try.ntmps29
    go_wp2
    go_ret
    refine ⟨by rw [H0.out, if_pos (.inr (.inr q3))]; rfl, ?_⟩
    (repeat (first | exact Below.refl _ _ | refine b_alloc ?_ _ | refine b_drew ?_ | refine b_drewN ?_ _ | refine b_set ?_ _ (by first | (simp; done) | (simp; omega) | assumption | (dsimp only; omega)) _ | refine b_trans ?_ (by assumption)))
  have e1 : wt (.mk k d ns kids) left = wtL kids (left - 1 - ns.length) := by rw [H0.out, if_neg (by omega)]
  have H1 := Lib.hid e1
  have hr := wtL_range kids (left - 1 - ns.length) (by omega)
  clear e1 H0
  have IH := Lib.hid ih
  clear ih
  obtain ⟨L0, hL0⟩ : ∃ L0, L0 = left - 1 - (ns.length : Int) := ⟨_, rfl⟩
  have hL1 : -1 ≤ L0 := by omega
  have hL2 : L0 ≤ 2000 := by omega
  rw [← hL0] at H1
  go_enter Try.func29, Try.ntmps29
  go_wp2
  rw [← hL0]
  clear hL0
  go_loopw [1, 5] (fun lv i wr => ∃ (j : Nat) (L : Int), j ≤ kids.length ∧ lv = .int .i64 L ∧ i = .int .i64 j ∧ -1 ≤ L ∧ L ≤ 2000 ∧ Hid (wtL (kids.drop j) L = wtL kids L0) ∧ Blk wr w.heap.size 26 #[.int .i64 k, .int .i64 d, .slice A ns.length c, .slice A' kids.length c'] ∧ Below w.heap.size w wr) (fun _ i _ => kids.length - (intOf i).toNat)
  case atStart => exact ⟨0, L0, Nat.zero_le _, rfl, rfl, hL1, hL2, rfl, Blk.newAt _ _ _ rfl, b_alloc (Below.refl _ _) _⟩
  case round =>
    obtain ⟨j, L, hj, rfl, rfl, hm1, hm2, HW, hB, hb⟩ := hrel
    have p3 := hB.cell 3
    simp at p3
    have zB := hB.lt
    by_cases q4 : j < kids.length
    · by_cases q5 : 0 ≤ L
      · obtain ⟨b, off, A1, c1, A2, c2, rfl, hbl, c0, c11, c22, c33, hgm⟩ := (hk.below hb hb.size).at q4
        have ihk := IH.out kids[j] (List.getElem_mem _) A1 c1 A2 c2 L hm1 hm2
        have hw := (wtL_drop q4 q5).symm.trans HW.out
        obtain ⟨r1, r2, _⟩ := wt_range kids[j] L hm1
        unfold GV gCells at ihk
        have IK := Lib.hid ihk
        have HW2 := Lib.hid hw
        clear HW hw ihk
        generalize wt kids[j] L = L' at *
        generalize kids[j] = g' at *
        go_wp2_with fail
        refine (IK.out _ hgm).mono ?_
        rintro e w1 ⟨rfl, hb1⟩
        go_wp2_with fail
        go_roundw
        case rel => exact ⟨j + 1, L', by omega, rfl, by go_num, r1, by omega, HW2.out, hB.stay hb1, b_trans hb hb1⟩
        case measure => simp [intOf]; omega
      · go_wp2_with fail
        go_ret
        refine ⟨?_, hb⟩
        have := HW.out
        rw [wtL_neg _ (by omega)] at this
        rw [H1.out, ← this]; rfl
    · obtain rfl : j = kids.length := by omega
      go_wp2_with fail
      go_ret
      refine ⟨?_, hb⟩
      have := HW.out
      rw [List.drop_length] at this
      rw [H1.out, ← this]; rfl
end Geo
end Go.Proofs.Ytllomldpbkeioaa
