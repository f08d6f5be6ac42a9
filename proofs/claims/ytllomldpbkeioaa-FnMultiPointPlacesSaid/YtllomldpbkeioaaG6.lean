/- Walks: sequences. -/
import Derived.Test.YtllomldpbkeioaaG5
import Derived.Laws.CopyOwn
namespace Go.Proofs.Ytllomldpbkeioaa
open Go.RowKit Go.Sort
theorem setRow_same (w : World) (g : Nat) (cur : Array Value) (t : TypeId) (hg : Blk w g t cur) : w.setRow g cur = w := setRow_self w g cur t (0, 0) hg
/-- 'copy' over the whole of a row of one's own -/
theorem wpList_copy_all {P : Program} {w : World} {ops : Array Oper} {rest : List Oper} {o : Oper} {a : Act} {Q : Exit → Act → World → Prop} {t e : TypeId} {z : Value} {bytes : Nat} (S : SL P t e z 1 bytes) (hgd : o.guard = none) (d s : Operand)
    (ho : o.op = .call { callee := .builtin .copy, args := #[d, s], argTypes := #[t, t] }) (g : Nat) {t' : TypeId} {cur : Array Value} (hB : Blk w g t' cur) (cs : List Value) (hcur : cur.size = cs.length) {dCap : Nat} (hd : a.eval d = .slice (some ⟨g, 0, none⟩) cs.length dCap)
    {X : Option Addr} {sLen sCap : Nat} (hs : a.eval s = .slice X sLen sCap) (hle : cs.length ≤ sLen) (hsrc : Cell1 w X cs.length cs) (h1 : ∀ u ∈ cs, u.oneCell' = true)
    (h : wpList P ops Q rest (a.put o.dst (goInt cs.length)) (w.setRow g cs.toArray)) : wpList P ops Q (o :: rest) a w := by
  obtain ⟨i, hi, hz, hsz, hb⟩ := S.info
  have hsz1 : (P.info? e).map (·.size) = some 1 := by rw [hi]; simp [hsz]
  by_cases h0 : cs = []
  · subst h0
    have : cur = #[] := Array.eq_empty_of_size_eq_zero (by simpa using hcur)
    subst this
    rw [show ([] : List Value).toArray = #[] from rfl, setRow_same w g #[] t' hB] at h
    exact wpList_copy_nothing hgd d s t t ho e S.ht hsz1 _ X _ dCap sLen sCap hd hs (by simp) h
  · rcases hsrc with hc | ⟨ad, rfl, hc⟩
    · exact absurd (List.eq_nil_of_length_eq_zero hc) h0
    · refine wpList_copy_own hgd d s t t ho e S.ht hsz1 g 0 _ dCap ad sLen sCap hd hs cur t' hB cs (Nat.min_eq_right hle).symm hc (by omega) h1 ?_
      have : (cur.toList.take 0 ++ (cs ++ cur.toList.drop (0 + cs.length))).toArray = cs.toArray := by
        rw [List.take_zero, List.nil_append, List.drop_of_length_le (by simp; omega), List.append_nil]
      rw [this]
      exact h
theorem Blk.row {w : World} {g : Nat} {t : TypeId} {cur : Array Value} (h : Blk w g t cur) (cs : Array Value) : Blk (w.setRow g cs) g t cs := setRow_heap w g cur cs t (0, 0) h
theorem Blk.rowFar {w : World} {g k : Nat} {t : TypeId} {cur : Array Value} (h : Blk w k t cur) (hk : k ≠ g) (cs : Array Value) : Blk (w.setRow g cs) k t cur := (setRow_other w g k cs hk).trans h
theorem mk_all {P : Program} {t e : TypeId} {z : Value} {size bytes : Nat} (S : SL P t e z size bytes) (n : Nat) (hn : bytes * n ≤ 281474976710656) (h63 : n ≤ 9223372036854775807) (w : World) :
    (Instr.makeSlice t (.int .i64 n) (.int .i64 n)).run P w = .ok (.slice (some ⟨w.heap.size, 0, none⟩) n n) (w.alloc (.cells (madeCells z.cells (n * size)) e)) := by
  obtain ⟨i, hi, hz, hs, hb⟩ := S.info
  subst hs hb
  have h := run_make (P := P) w t e i z S.ht hi hz .i64 .i64 n n (by omega) (Int.le_refl _) (by omega) (by omega)
  simpa using h
namespace Geo
theorem fs_cell1 {w : World} {B : Nat} {A : Option Addr} {ns : List Nat} (h : Fs w B A ns) (k : Nat) (hk : k ≤ ns.length) : Cell1 w A k (fl (ns.take k)) := by
  by_cases hne : k = 0
  · exact .inl hne
  · obtain ⟨b, off, e, hb, hc⟩ := h (fun e => by subst e; simp at hk; omega)
    refine .inr ⟨_, e, fun j u hu => ?_⟩
    unfold fl at hu
    rw [List.getElem?_map, Option.map_eq_some_iff] at hu
    obtain ⟨x, h1, rfl⟩ := hu
    rw [List.getElem?_take] at h1
    split at h1
    · obtain ⟨h2, rfl⟩ := List.getElem?_eq_some_iff.1 h1
      have := hc j h2
      have hadd : (⟨b, off, none⟩ : Addr).add j = ⟨b, off + j, none⟩ := by unfold Addr.add; split <;> simp_all
      rw [hadd]; exact this
    · cases h1
theorem fs_of_blk {w : World} {g : Nat} {t : TypeId} {ns : List Nat} (h : Blk w g t (fl ns).toArray) : Fs w w.heap.size (some ⟨g, 0, none⟩) ns := by
  intro _
  refine ⟨g, 0, rfl, h.lt, fun i hi => ?_⟩
  rw [h.cell, Nat.zero_add]
  simp [fl, hi]
def SV (d : Nat) (A : Option Addr) (n c : Nat) : Value := .agg #[.int .u8 d, .slice A n c]
def SR (d : Nat) (ns : List Nat) (r : Ending) (w' : World) : Prop := ∃ A c, r = .returned (SV d A ns.length c) ∧ ns.length ≤ c ∧ Fs w' w'.heap.size A ns
theorem c0 : ((0 : Nat) : Int) = 0 := rfl
theorem c1 : ((1 : Nat) : Int) = 1 := rfl
theorem c2 : ((2 : Nat) : Int) = 2 := rfl
theorem c3 : ((3 : Nat) : Int) = 3 := rfl
theorem c4 : ((4 : Nat) : Int) = 4 := rfl
theorem wd0 : wd 0 = 2 := rfl
theorem wd1 : wd 1 = 3 := rfl
theorem wd2 : wd 2 = 3 := rfl
theorem wd3 : wd 3 = 4 := rfl
set_option maxHeartbeats 1000000 in
theorem newseq_any (d : Nat) (hd : d < 4) (A : Option Addr) (n c : Nat) (hn : n % wd d = 0) (hm : n ≤ 1000000) (w : World) :
    Calls Try.prog 68 #[.slice A n c, .int .u8 d] w fun r w' => r = .returned (SV d A n c) ∧ Below w.heap.size w w' := by
  have cd := dimension_any d hd
  unfold SV
  rcases four hd with rfl | rfl | rfl | rfl
  all_goals
    simp only [c0, c1, c2, c3, c4, wd0, wd1, wd2, wd3] at *
    have CD := Lib.hid cd
    clear cd
    go_enter Try.func68, Try.ntmps68
    go_wp2_with (go_at_call 59; refine (CD.out _).mono ?_; rintro e w1 ⟨rfl, rfl⟩)
    refine bodyPost_ret (v := .agg #[_, .slice A n c]) (by simp [results, Try.results68, go_sem]) rfl ⟨rfl, ?_⟩
    (repeat (first | exact Below.refl _ _ | refine b_alloc ?_ _ | refine b_drew ?_ | refine b_drewN ?_ _ | refine b_set ?_ _ (by first | (simp; done) | (simp; omega) | assumption | (dsimp only; omega)) _ | refine b_trans ?_ (by assumption)))
set_option maxHeartbeats 1000000 in
set_option linter.unusedSimpArgs false in
set_option maxRecDepth 20000 in
theorem sequence_any (dim : Int) (ns : List Nat) (A : Option Addr) (c : Nat) (hm : ns.length ≤ 100000) (w : World) (hA : Fs w w.heap.size A ns) :
    Calls Try.prog 52 #[.slice A ns.length c, .int .i64 dim] w fun r w' => SR (dim3 dim) (whole (dim3 dim) ns) r w' ∧ Below w.heap.size w w' := by
  have c1' := dimof_any dim
  have hd := dim3_lt dim
  generalize dim3 dim = d at *
  have c2' := dimension_any d hd
  have c3' := fun A n c hn hm w => newseq_any d hd A n c hn hm w
  obtain ⟨m, hmm⟩ : ∃ m, m = ns.length / wd d * wd d := ⟨_, rfl⟩
  have hwl := whole_length d ns
  rw [← hmm] at hwl
  have hmle : m ≤ ns.length := by rw [hmm]; exact div_mul_le' _ _
  have hmk := fun w => mk_all slF m (by omega) (by omega) w
  have hsub : (ns.length : Int) - (ns.length : Int) % (wd d : Int) = (m : Int) := by
    have := Nat.div_add_mod ns.length (wd d)
    rw [Nat.mul_comm, ← hmm] at this
    omega
  have hmod : m % wd d = 0 := by rw [hmm, Nat.mul_mod_left]
  have hwt : whole d ns = ns.take m := by unfold whole; rw [← hmm]
  obtain ⟨M, hM⟩ : ∃ M, M = madeCells (Value.float .f64 0).cells (m * 1) := ⟨_, rfl⟩
  have hMs : M.size = m := by rw [hM, size_madeCells, Nat.mul_one]
  rw [← hM] at hmk
  clear hM
  have c3' := fun A c w => c3' A m c hmod (by omega) w
  unfold SV at c3'
  have hsrc := fun (w' : World) (hb : Below w.heap.size w w') => fs_cell1 (hA.below hb hb.size) m hmle
  rw [← hwt] at hsrc
  have hfl : (fl (whole d ns)).length = m := by rw [fl_length, hwl]
  have HW := Lib.hid hwt
  have HL := Lib.hid hwl
  have HF := Lib.hid hfl
  have HC := Lib.hid hsrc
  clear hwt hwl hmod hmm hfl hsrc
  obtain ⟨F, hF⟩ : ∃ F, F = fl (whole d ns) := ⟨_, rfl⟩
  have HFF := Lib.hid hF
  rw [← hF] at HF HC
  clear hF
  rcases four hd with rfl | rfl | rfl | rfl
  all_goals
    simp only [c0, c1, c2, c3, c4, wd0, wd1, wd2, wd3] at c1' c2' c3' hsub
    have C3 := Lib.hid c3'
    have C2 := Lib.hid c2'
    have C1 := Lib.hid c1'
    rw [← hsub] at hmk
    clear c3' c2' c1' hsub
    go_enter Try.func52, Try.ntmps52
    go_wp2_with fail
    refine (C1.out _).mono ?_
    rintro e w1 ⟨rfl, rfl⟩
    go_wp2_with fail
    refine (C2.out _).mono ?_
    rintro e w1 ⟨rfl, rfl⟩
    go_wp2_with (refine wpList_copy_all slF (by rfl) _ _ (by rfl) (w.heap.size + 1) (Blk.newAt _ _ _ (by simp)) F (by rw [HF.out]; exact hMs) (dCap := m) (by rw [HF.out]; rfl) (X := A) (sLen := ns.length) (sCap := c) (by rfl) (by rw [HF.out]; exact hmle) (by rw [HF.out]; exact HC.out _ (b_alloc (b_alloc (Below.refl _ _) _) _)) (by rw [HFF.out]; exact fl_one _) ?_)
    refine (C3.out _ _ _).mono ?_
    rintro e w1 ⟨rfl, hb1⟩
    have k0 := (((Blk.newAt w 55 #[.int .u8 0, .slice none 0 0] rfl).alloc (.cells M 66)).rowFar (by omega) F.toArray).stay hb1
    have k1 := ((Blk.newAt (w.alloc (.cells #[.int .u8 0, .slice none 0 0] 55)) 66 M (n := w.heap.size + 1) (by simp)).row F.toArray).stay hb1
    have hbb : Below w.heap.size w w1 := b_trans (below_setRow (b_alloc (b_alloc (Below.refl _ _) _) _) (by omega) _) hb1
    have p0 := k0.cell 0
    have p1 := k0.cell 1
    have fz := k0.frozen
    simp at p0 p1
    clear HC hmk
    go_wp2
    first
      | refine bodyPost_ret (v := .agg #[.int .u8 0, .slice (some ⟨w.heap.size + 1, 0, none⟩) m m]) (by simp [results, Try.results52, go_sem, p0, p1]; done) rfl ⟨⟨_, _, by rw [HL.out]; rfl, by rw [HL.out]; exact Nat.le_refl _, ?_⟩, ?_⟩
      | refine bodyPost_ret (v := .agg #[.int .u8 1, .slice (some ⟨w.heap.size + 1, 0, none⟩) m m]) (by simp [results, Try.results52, go_sem, p0, p1]; done) rfl ⟨⟨_, _, by rw [HL.out]; rfl, by rw [HL.out]; exact Nat.le_refl _, ?_⟩, ?_⟩
      | refine bodyPost_ret (v := .agg #[.int .u8 2, .slice (some ⟨w.heap.size + 1, 0, none⟩) m m]) (by simp [results, Try.results52, go_sem, p0, p1]; done) rfl ⟨⟨_, _, by rw [HL.out]; rfl, by rw [HL.out]; exact Nat.le_refl _, ?_⟩, ?_⟩
      | refine bodyPost_ret (v := .agg #[.int .u8 3, .slice (some ⟨w.heap.size + 1, 0, none⟩) m m]) (by simp [results, Try.results52, go_sem, p0, p1]; done) rfl ⟨⟨_, _, by rw [HL.out]; rfl, by rw [HL.out]; exact Nat.le_refl _, ?_⟩, ?_⟩
    · refine fs_of_blk (t := 66) ?_
      rw [← HFF.out]
      refine (k1.far ?_ _).far ?_ _
      · simp
      · simp
    · exact b_set (b_set hbb _ (Nat.le_refl _) _) _ (Nat.le_refl _) _
end Geo
end Go.Proofs.Ytllomldpbkeioaa
