/- Walks: a row of sequences turned about. -/
import Derived.Test.YtllomldpbkeioaaG9
import Derived.BigRegion
namespace Go.Proofs.Ytllomldpbkeioaa
open Go.RowKit Go.Sort
namespace Geo
set_option linter.unusedSimpArgs false
/-- where what now lies at i lay before -/
def rv (o n i : Nat) : Nat := if o ≤ i ∧ i < o + n then 2 * o + n - 1 - i else i
/-- the same after k rounds -/
def rvk (o n k i : Nat) : Nat := if (o ≤ i ∧ i < o + k) ∨ (o + n ≤ i + k ∧ i < o + n) then 2 * o + n - 1 - i else i
theorem grown_drew {w w' : World} {row : Option Nat} (h : w.grownBy w' row) : w.grownBy w'.drew row := ⟨h.os, h.tape, h.output, h.size, h.block⟩
theorem grown_set {w w' : World} {g : Nat} (h : w.grownBy w' (some g)) (i : Nat) (v : Value) : w.grownBy (w'.setCell ⟨g, i, none⟩ v) (some g) :=
  ⟨h.os, h.tape, h.output, by simpa using h.size, fun k hk hne => (Below.heap_setCell w' ⟨g, i, none⟩ v k (fun e => hne (by simp at e; rw [e]))).trans (h.block k hk hne)⟩
theorem grown_refl (w : World) (row : Option Nat) : w.grownBy w row := ⟨rfl, rfl, rfl, Nat.le_refl _, fun _ _ _ => rfl⟩
theorem grown_trans {w w1 w2 : World} {row : Option Nat} (h : w.grownBy w1 row) (k : w1.grownBy w2 row) : w.grownBy w2 row :=
  ⟨k.os.trans h.os, k.tape.trans h.tape, k.output.trans h.output, Nat.le_trans h.size k.size, fun b hb hne => (k.block b (Nat.lt_of_lt_of_le hb h.size) hne).trans (h.block b hb hne)⟩
def RevR (g : Nat) (t : TypeId) (cs : Array Value) (o n : Nat) (w w' : World) : Prop := w.grownBy w' (some g) ∧ ∃ cs', Blk w' g t cs' ∧ cs'.size = cs.size ∧ ∀ i j, j < 2 → cs'[i * 2 + j]? = cs[rv o n i * 2 + j]?
def RevK (cs cs' : Array Value) (o n k : Nat) : Prop := cs'.size = cs.size ∧ ∀ i j, j < 2 → cs'[i * 2 + j]? = cs[rvk o n k i * 2 + j]?
theorem revk_zero (cs : Array Value) (o n : Nat) : RevK cs cs o n 0 := ⟨rfl, fun i j _ => by
  have : rvk o n 0 i = i := by unfold rvk; rw [if_neg (by omega)]
  rw [this]⟩
theorem revk_end {cs cs' : Array Value} {o n k : Nat} (h : RevK cs cs' o n k) (hk : k = n / 2) : ∀ i j, j < 2 → cs'[i * 2 + j]? = cs[rv o n i * 2 + j]? := fun i j hj => by
  rw [h.2 i j hj]
  have : rvk o n k i = rv o n i := by
    unfold rvk rv
    split <;> split <;> omega
  rw [this]
theorem set_at {cs : Array Value} {m i : Nat} {v : Value} : (cs.setIfInBounds m v)[i]? = if m = i then (if i < cs.size then some v else none) else cs[i]? := by
  rw [Array.getElem?_setIfInBounds]
  by_cases h : m = i
  · subst h; simp
  · simp [h]
theorem revk_step {cs cs' : Array Value} {o n k : Nat} (h : RevK cs cs' o n k) (hk : k < n / 2) (hsz : (o + n) * 2 ≤ cs.size) {a b c d : Value} {J : Nat} (hJ : J + k + 1 = n)
    (ha : cs'[(o + k) * 2]? = some a) (hb : cs'[(o + k) * 2 + 1]? = some b) (hc : cs'[(o + J) * 2]? = some c) (hd : cs'[(o + J) * 2 + 1]? = some d) :
    RevK cs ((((cs'.setIfInBounds ((o + k) * 2) c).setIfInBounds ((o + k) * 2 + 1) d).setIfInBounds ((o + J) * 2) a).setIfInBounds ((o + J) * 2 + 1) b) o n (k + 1) := by
  refine ⟨by simpa using h.1, fun i j hj => ?_⟩
  have e1 : rvk o n k (o + k) = o + k := by unfold rvk; rw [if_neg (by omega)]
  have e2 : rvk o n k (o + J) = o + J := by unfold rvk; rw [if_neg (by omega)]
  have f1 := h.2 (o + k) 0 (by omega)
  have f2 := h.2 (o + k) 1 (by omega)
  have f3 := h.2 (o + J) 0 (by omega)
  have f4 := h.2 (o + J) 1 (by omega)
  rw [e1, Nat.add_zero] at f1
  rw [e1] at f2
  rw [e2, Nat.add_zero] at f3
  rw [e2] at f4
  rw [ha] at f1
  rw [hb] at f2
  rw [hc] at f3
  rw [hd] at f4
  have hs := h.1
  by_cases q1 : i = o + k
  · subst q1
    have : rvk o n (k + 1) (o + k) = o + J := by unfold rvk; rw [if_pos (by omega)]; omega
    rw [this]
    simp only [set_at, Array.size_setIfInBounds]
    rcases (by omega : j = 0 ∨ j = 1) with rfl | rfl
    · rw [if_neg (by omega), if_neg (by omega), if_neg (by omega), if_pos (by omega), if_pos (by omega), Nat.add_zero, f3]
    · rw [if_neg (by omega), if_neg (by omega), if_pos (by omega), if_pos (by omega), f4]
  · by_cases q2 : i = o + J
    · subst q2
      have : rvk o n (k + 1) (o + J) = o + k := by unfold rvk; rw [if_pos (by omega)]; omega
      rw [this]
      simp only [set_at, Array.size_setIfInBounds]
      rcases (by omega : j = 0 ∨ j = 1) with rfl | rfl
      · rw [if_neg (by omega), if_pos (by omega), if_pos (by omega), Nat.add_zero, f1]
      · rw [if_pos (by omega), if_pos (by omega), f2]
    · have : rvk o n (k + 1) i = rvk o n k i := by
        unfold rvk
        split <;> split <;> omega
      rw [this, ← h.2 i j hj]
      simp only [set_at, Array.size_setIfInBounds]
      rw [if_neg (by omega), if_neg (by omega), if_neg (by omega), if_neg (by omega)]
/-- a row of sequences -/
def SqCells (cs : Array Value) : Prop := ∀ i, i * 2 + 1 < cs.size → ∃ (d : Int) (A : Option Addr) (n c : Nat), cs[i * 2]? = some (.int .u8 d) ∧ cs[i * 2 + 1]? = some (.slice A n c)
theorem rvk_lt {o n k i m : Nat} (h : i * 2 + 1 < m) (hm : (o + n) * 2 ≤ m) (hk : k ≤ n) : rvk o n k i * 2 + 1 < m := by
  unfold rvk
  split <;> omega
theorem revk_sq {cs cs' : Array Value} {o n k : Nat} (h : RevK cs cs' o n k) (hsz : (o + n) * 2 ≤ cs.size) (hk : k ≤ n) (hq : SqCells cs) : SqCells cs' := fun i hi => by
  rw [h.1] at hi
  obtain ⟨d, A, m, c, h1, h2⟩ := hq _ (rvk_lt (k := k) (i := i) hi hsz hk)
  have f1 := h.2 i 0 (by omega)
  have f2 := h.2 i 1 (by omega)
  rw [Nat.add_zero, Nat.add_zero] at f1
  exact ⟨d, A, m, c, f1.trans h1, f2.trans h2⟩
set_option maxHeartbeats 2000000 in
theorem reverse_any (g : Nat) (t : TypeId) (cs : Array Value) (o n cap : Nat) (hsz : (o + n) * 2 ≤ cs.size) (hn : n ≤ 100000) (hq : SqCells cs) (w : World) (hB : Blk w g t cs) :
    Calls Try.prog 69 #[.slice (some ⟨g, o * 2, none⟩) n cap] w fun r w' => r = .returned (.tuple #[]) ∧ RevR g t cs o n w w' := by
  obtain ⟨H, hH⟩ : ∃ H, H = n / 2 := ⟨_, rfl⟩
  have hd : ((n : Int) / 2) = (H : Int) := by omega
  have HH := Lib.hid hH
  clear hH
  go_enter Try.func69, Try.ntmps69
  go_wp2_with fail
  go_loopw [3] (fun i wr => ∃ (k : Nat) (cs' : Array Value), k ≤ H ∧ i = .int .i64 k ∧ RevK cs cs' o n k ∧ Blk wr g t cs' ∧ w.grownBy wr (some g)) (fun i _ => n - (intOf i).toNat)
  case atStart => exact ⟨0, cs, Nat.zero_le _, rfl, revk_zero _ _ _, hB, grown_refl _ _⟩
  case round =>
    obtain ⟨k, cs', hk, rfl, hr, kb, hgr⟩ := hrel
    have hH := HH.out
    by_cases hlt : k < H
    · obtain ⟨J, hJ⟩ : ∃ J, J + k + 1 = n := ⟨n - k - 1, by omega⟩
      have hs := hr.1
      obtain ⟨a, ba, na, ca, ha, hb⟩ := revk_sq hr hsz (by omega) hq (o + k) (by omega)
      obtain ⟨c, bc, nc, cc, hc, hdd⟩ := revk_sq hr hsz (by omega) hq (o + J) (by omega)
      have hstep := revk_step hr (by omega) hsz hJ ha hb hc hdd
      have HS := Lib.hid hstep
      rw [← kb.cell] at ha hb hc hdd
      rw [show (o + k) * 2 = o * 2 + k * 2 by omega] at ha hb
      rw [show (o + J) * 2 = o * 2 + J * 2 by omega] at hc hdd
      have hf := kb.frozen
      have zl := kb.lt
      have hJI : (n : Int) - (k : Int) - 1 = (J : Int) := by omega
      have i1 : (J : Int) < (n : Int) := by omega
      have i2 : (k : Int) < (n : Int) := by omega
      have i3 : (k : Int) < (H : Int) := by omega
      clear hstep hr hH
      go_wp2_with fail
      go_region
      all_goals go_wp2_with fail
      refine ⟨⟨k + 1, _, by omega, by go_num, HS.out, ?_, ?_⟩, by simp [intOf]; omega⟩
      · rw [show (o + k) * 2 = o * 2 + k * 2 by omega, show (o + J) * 2 = o * 2 + J * 2 by omega]
        exact (((((kb.set_ _ _).set_ _ _).set_ _ _).set_ _ _).drew)
      · exact grown_drew (grown_set (grown_set (grown_set (grown_set hgr _ _) _ _) _ _) _ _)
    · obtain rfl : k = H := by omega
      clear hlt hH
      go_wp2_with fail
      refine bodyPost_end (v := .tuple #[]) (by simp [results, Try.results69, go_sem]) rfl ⟨rfl, hgr, cs', kb, hr.1, revk_end hr HH.out⟩
/-- where what now lies at i lay before the turn -/
def rt (n r i : Nat) : Nat := if i < r then i + (n - r) else i - r
def RotR (g : Nat) (t : TypeId) (cs : Array Value) (n r : Nat) (w w' : World) : Prop := w.grownBy w' (some g) ∧ ∃ cs', Blk w' g t cs' ∧ cs'.size = cs.size ∧ ∀ i, i < n → ∀ j, j < 2 → cs'[i * 2 + j]? = cs[rt n r i * 2 + j]?
theorem rev_sq {cs cs' : Array Value} {o n : Nat} (hs : cs'.size = cs.size) (h : ∀ i j, j < 2 → cs'[i * 2 + j]? = cs[rv o n i * 2 + j]?) (hsz : (o + n) * 2 ≤ cs.size) (hq : SqCells cs) : SqCells cs' := fun i hi => by
  rw [hs] at hi
  obtain ⟨d, A, m, c, h1, h2⟩ := hq (rv o n i) (by unfold rv; split <;> omega)
  have f1 := h i 0 (by omega)
  have f2 := h i 1 (by omega)
  rw [Nat.add_zero, Nat.add_zero] at f1
  exact ⟨d, A, m, c, f1.trans h1, f2.trans h2⟩
theorem rv_three {n r i : Nat} (hr : r ≤ n) (hi : i < n) : rv 0 n (rv 0 r (rv r (n - r) i)) = rt n r i := by
  unfold rv rt
  split <;> split <;> split <;> split <;> omega
set_option maxHeartbeats 2000000 in
theorem rotate_any (g : Nat) (t : TypeId) (cs : Array Value) (n r : Nat) (hsz : n * 2 = cs.size) (hn : n ≤ 100000) (hr : r ≤ n) (hq : SqCells cs) (w : World) (hB : Blk w g t cs) :
    Calls Try.prog 53 #[.slice (some ⟨g, 0, none⟩) n n, .int .i64 r] w fun e w' => e = .returned (.tuple #[]) ∧ RotR g t cs n r w w' := by
  by_cases h0 : r = 0
  · subst h0
    go_enter Try.func53, Try.ntmps53
    go_wp2_with fail
    refine bodyPost_ret (v := .tuple #[]) (by simp [results, Try.results53, go_sem]) rfl ⟨rfl, grown_refl _ _, cs, hB, rfl, fun i hi j _ => ?_⟩
    have : rt n 0 i = i := by unfold rt; rw [if_neg (by omega)]; rfl
    rw [this]
  by_cases h1 : r = n
  · subst h1
    have hz : ¬ ((r : Int) = 0) := by omega
    go_enter Try.func53, Try.ntmps53
    go_wp2_with fail
    refine bodyPost_ret (v := .tuple #[]) (by simp [results, Try.results53, go_sem]) rfl ⟨rfl, grown_refl _ _, cs, hB, rfl, fun i hi j _ => ?_⟩
    have : rt r r i = i := by unfold rt; rw [if_pos hi]; omega
    rw [this]
  · have hz : ¬ ((r : Int) = 0) := by omega
    have hz2 : ¬ ((r : Int) = (n : Int)) := by omega
    have hz3 : ((r : Int) == 0) = false := beq_eq_false_iff_ne.2 hz
    have hz4 : ((r : Int) == (n : Int)) = false := beq_eq_false_iff_ne.2 hz2
    have c1 := fun w hB => reverse_any g t cs 0 n n (by omega) hn hq w hB
    rw [Nat.zero_mul] at c1
    have c2 := fun cs1 (hs : cs1.size = cs.size) hq1 w hB => reverse_any g t cs1 0 r n (by omega) (by omega) hq1 w hB
    rw [Nat.zero_mul] at c2
    have c3 := fun cs1 (hs : cs1.size = cs.size) hq1 w hB => reverse_any g t cs1 r (n - r) (n - r) (by omega) (by omega) hq1 w hB
    have hrl : (r : Int) < (n : Int) := by omega
    have hrl0 : (0 : Int) ≤ (r : Int) := by omega
    have C1 := Lib.hid c1
    have C2 := Lib.hid c2
    have C3 := Lib.hid c3
    clear c1 c2 c3 h0 h1
    go_enter Try.func53, Try.ntmps53
    go_wp2_with fail
    refine (C1.out _ hB).mono ?_
    rintro e w1 ⟨rfl, hg1, cs1, kb1, hs1, hp1⟩
    have hq1 := rev_sq hs1 hp1 (by omega) hq
    go_wp2_with fail
    refine (C2.out cs1 hs1 hq1 _ kb1).mono ?_
    rintro e w2 ⟨rfl, hg2, cs2, kb2, hs2, hp2⟩
    have hq2 := rev_sq hs2 hp2 (by omega) hq1
    go_wp2_with fail
    refine (C3.out cs2 (hs2.trans hs1) hq2 _ kb2).mono ?_
    rintro e w3 ⟨rfl, hg3, cs3, kb3, hs3, hp3⟩
    go_wp2_with fail
    refine bodyPost_end (v := .tuple #[]) (by simp [results, Try.results53, go_sem]) rfl ⟨rfl, grown_trans (grown_trans hg1 hg2) hg3, cs3, kb3, (hs3.trans hs2).trans hs1, fun i hi j hj => ?_⟩
    rw [hp3 i j hj, hp2 _ j hj, hp1 _ j hj, rv_three hr hi]
theorem door_rotate_any (g : Nat) (t : TypeId) (cs : Array Value) (n r : Nat) (hsz : n * 2 = cs.size) (hn : n ≤ 100000) (hr : r ≤ n) (hq : SqCells cs) (w : World) (hB : Blk w g t cs) :
    Calls Try.prog 35 #[.slice (some ⟨g, 0, none⟩) n n, .int .i64 r] w fun e w' => e = .returned (.tuple #[]) ∧ RotR g t cs n r w w' := by
  have c1 := rotate_any g t cs n r hsz hn hr hq w hB
  have C1 := Lib.hid c1
  clear c1
  go_enter Try.func35, Try.ntmps35
  go_wp2_with fail
  refine C1.out.mono ?_
  rintro e w1 ⟨rfl, h⟩
  go_wp2_with fail
  exact bodyPost_end (v := .tuple #[]) (by simp [results, Try.results35, go_sem]) rfl ⟨rfl, h⟩
end Geo
end Go.Proofs.Ytllomldpbkeioaa
