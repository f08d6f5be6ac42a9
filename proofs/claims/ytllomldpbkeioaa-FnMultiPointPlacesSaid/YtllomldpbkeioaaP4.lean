/- Walks: several points. -/
import Derived.Test.YtllomldpbkeioaaP3
namespace Go.Proofs.Ytllomldpbkeioaa
open Go.RowKit Go.Sort
namespace Geo
set_option linter.unusedSimpArgs false
def MVR (L : List Pt) (d : Nat) (e : Ending) (w' : World) : Prop := ∃ A c, e = .returned (.agg #[.slice A L.length c, .int .u8 d]) ∧ PtM w' w'.heap.size A L
def andD (qs : List Pt) : Nat := qs.foldl (fun a q => a &&& q.d) 3
theorem and44u {a b : Nat} (ha : a < 4) (hb : b < 4) : bits .and .u8 (a : Int) (b : Int) = ((a &&& b : Nat) : Int) := by
  rcases four ha with rfl | rfl | rfl | rfl <;> rcases four hb with rfl | rfl | rfl | rfl <;> decide +kernel
theorem andD_lt' (L : List Pt) : ∀ a : Nat, a < 4 → L.foldl (fun a q => a &&& q.d) a < 4 := by
  induction L with
  | nil => intro a h; exact h
  | cons x L ih => intro a h; rw [List.foldl_cons]; exact ih _ (Nat.lt_of_le_of_lt Nat.and_le_left h)
theorem andD_lt (L : List Pt) : andD L < 4 := andD_lt' L 3 (by omega)
theorem andD_snoc (L : List Pt) (q : Pt) : andD (L ++ [q]) = andD L &&& q.d := by unfold andD; rw [List.foldl_append]; rfl
theorem PtM.set {w : World} {B : Nat} {A : Option Addr} {qs : List Pt} (h : PtM w B A qs) {p : Addr} (ho : ∀ b off, A = some ⟨b, off, none⟩ → b ≠ p.block) (u : Value) : PtM (w.setCell p u) B A qs := fun hne => by
  obtain ⟨b, off, e, hb, hc⟩ := h hne
  refine ⟨b, off, e, hb, fun i hi j hj => ?_⟩
  rw [World.cell?_of_block (a := ⟨b, _, none⟩) (Below.heap_setCell w p u b (ho b off e))]
  exact hc i hi j hj
theorem PtM.up {w : World} {B B' : Nat} {A : Option Addr} {qs : List Pt} (h : PtM w B A qs) (hB : B ≤ B') : PtM w B' A qs := fun hne => by
  obtain ⟨b, off, e, hb, hc⟩ := h hne
  exact ⟨b, off, e, by omega, hc⟩
/-- a block of another shape is none of theirs -/
theorem PtM.off {w : World} {B : Nat} {A : Option Addr} {qs : List Pt} (h : PtM w B A qs) (hne : qs ≠ []) {g : Nat} {t : TypeId} {cs : Array Value} (hb : Blk w g t cs) (hf : noF cs = true) : ∀ b off, A = some ⟨b, off, none⟩ → b ≠ g := fun b off e hbg => by
  obtain ⟨b', off', e', _, hc⟩ := h hne
  rw [e] at e'
  simp at e'
  obtain ⟨rfl, rfl⟩ := e'
  subst hbg
  have h0 : 0 < qs.length := List.length_pos_iff.2 hne
  have := hc 0 h0 0 (by omega)
  rw [hb.cell] at this
  exact noF_at hf this
set_option maxHeartbeats 2000000 in
theorem newmp_any (qs : List Pt) (hqs : ∀ q ∈ qs, q.d < 4) (hne : qs ≠ []) (A : Option Addr) (c : Nat) (hl : qs.length ≤ 10000) (w : World) (hA : PtM w w.heap.size A qs) :
    Calls Try.prog 64 #[.slice A qs.length c] w fun e w' => MVR (qs.map (forceP (andD qs))) (andD qs) e w' ∧ Below w.heap.size w w' := by
  have s1 := fun (w' : World) (hb : Below w.heap.size w w') => forceslice_any qs hqs (andD qs) (andD_lt qs) A c hl w' (hA.below hb hb.size)
  have hD := andD_lt qs
  have hlen : (qs.map (forceP (andD qs))).length = qs.length := List.length_map ..
  have hne2 : qs.map (forceP (andD qs)) ≠ [] := by simpa using hne
  have hDt : andD qs = andD (qs.take qs.length) := by rw [List.take_length]
  unfold PtR at s1
  unfold MVR
  rw [hlen] at s1 ⊢
  obtain ⟨T, hT⟩ : ∃ T : Nat → Nat, T = fun k => andD (qs.take k) := ⟨_, rfl⟩
  have hT0 : T 0 = 3 := by rw [hT]; rfl
  have hTn : andD qs = T qs.length := by rw [hT]; exact hDt
  have hTs : ∀ k (h : k < qs.length), T (k + 1) = T k &&& qs[k].d := fun k h => by
    rw [hT]
    show andD (qs.take (k + 1)) = _
    rw [List.take_succ_eq_append_getElem h, andD_snoc]
  have hTl : ∀ k, T k < 4 := fun k => by rw [hT]; exact andD_lt _
  have HT0 := Lib.hid hT0
  have HTN := Lib.hid hTn
  have HTS := Lib.hid hTs
  have HTL := Lib.hid hTl
  have hpos : ¬ ((qs.length : Int) = 0) := fun h => hne (List.eq_nil_of_length_eq_zero (by omega))
  have hposb : ((qs.length : Int) == 0) = false := beq_eq_false_iff_ne.2 hpos
  clear hT hT0 hTn hTs hTl hDt hlen
  generalize qs.map (forceP (andD qs)) = R at *
  generalize andD qs = D at *
  have S1 := Lib.hid s1
  clear s1
  have hb0 := b_alloc (Below.refl w.heap.size w) (.cells #[.slice none 0 0, .int .u8 0] 81)
  have k0 := Blk.new w 81 #[.slice none 0 0, .int .u8 0]
  go_enter Try.func64, Try.ntmps64
  go_wp2_with fail
  go_loopw [3, 13] (fun lv i wr => ∃ k : Nat, k ≤ qs.length ∧ lv = .int .u8 (T k : Nat) ∧ i = .int .i64 k ∧ Blk wr w.heap.size 81 #[.slice none 0 0, .int .u8 0] ∧ Below w.heap.size w wr) (fun _ i _ => qs.length - (intOf i).toNat)
  case atStart => exact ⟨0, Nat.zero_le _, by rw [HT0.out]; rfl, rfl, k0, hb0⟩
  case round =>
    clear k0 hb0
    obtain ⟨k, hk, rfl, rfl, kb, hb⟩ := hrel
    have hTk := HTL.out k
    by_cases hlt : k < qs.length
    · obtain ⟨b, off, rfl, hbl, q0, q1, q2, q3, q4, q5⟩ := (hA.below hb hb.size).at hlt
      have hq := hqs qs[k] (List.getElem_mem hlt)
      have s1 := fun w => pctype_any qs[k].p qs[k].d qs[k].f w
      have hts := HTS.out k hlt
      have hand := and44u hTk hq
      have HT1 := Lib.hid hts
      unfold PV pCells at s1
      have S2 := Lib.hid s1
      have hba := b_alloc (Below.refl wr.heap.size wr) (.cells #[.float .f64 qs[k].p.x, .float .f64 qs[k].p.y, .float .f64 qs[k].p.z, .float .f64 qs[k].p.m, .int .u8 qs[k].d, .bool qs[k].f] 100)
      have kb1 := kb.alloc (.cells #[.float .f64 qs[k].p.x, .float .f64 qs[k].p.y, .float .f64 qs[k].p.z, .float .f64 qs[k].p.m, .int .u8 qs[k].d, .bool qs[k].f] 100)
      have hB1 := b_trans hb hba
      clear s1 hts hq
      generalize T k = a at *
      generalize qs[k] = q at *
      go_wp2_with fail
      refine (S2.out _).mono ?_
      rintro e w2 ⟨rfl, hb2⟩
      go_wp2_with fail
      go_roundw
      case rel => exact ⟨k + 1, by omega, by rw [HT1.out], by go_num, kb1.stay hb2, b_trans hB1 hb2⟩
      case measure => simp [intOf]; omega
    · obtain rfl : k = qs.length := by omega
      rw [← HTN.out]
      clear hlt hTk
      go_wp2_with fail
      refine (S1.out _ hb).mono ?_
      rintro e w2 ⟨⟨A2, c2, rfl, hp⟩, hb2⟩
      have kb2 := kb.stay hb2
      have hB2 := b_trans hb hb2
      have r0 := kb2.cell 0
      have r1 := kb2.cell 1
      have fz := kb2.frozen
      have hof := hp.off hne2 kb2 (by simp [noF])
      simp at r0 r1
      clear S1
      go_wp2_with fail
      refine bodyPost_ret (v := .agg #[.slice A2 qs.length c2, .int .u8 D]) (by simp [results, Try.results64, go_sem, r0, r1]) rfl ⟨⟨A2, c2, rfl, ?_⟩, ?_⟩
      · exact ((hp.set hof _).set hof _).up (by simp)
      · exact b_set (b_set hB2 _ (Nat.le_refl _) _) _ (Nat.le_refl _) _
theorem mpforce_any (d' : Nat) (hd' : d' < 4) (d : Nat) (w : World) :
    Calls Try.prog 63 #[.agg #[.slice none 0 0, .int .u8 d], .int .u8 d'] w fun e w' => MVR [] d' e w' ∧ Below w.heap.size w w' := by
  have s1 := fun (w' : World) => forceslice_any [] (fun q h => by cases h) d' hd' none 0 (by simp) w' (PtM.nil _ _ _)
  unfold PtR at s1
  simp only [List.map_nil, List.length_nil, c0] at s1
  unfold MVR
  have S1 := Lib.hid s1
  clear s1
  have hb0 := b_alloc (b_alloc (Below.refl w.heap.size w) (.cells #[.slice none 0 0, .int .u8 d] 81)) (.cells #[.slice none 0 0, .int .u8 0] 81)
  have k1 := Blk.newAt (w.alloc (.cells #[.slice none 0 0, .int .u8 d] 81)) 81 #[.slice none 0 0, .int .u8 0] (n := w.heap.size + 1) (by simp)
  go_enter Try.func63, Try.ntmps63
  go_wp2_with fail
  refine (S1.out _).mono ?_
  rintro e w2 ⟨⟨A2, c2, rfl, hp⟩, hb2⟩
  have kb2 := k1.stay hb2
  have hB2 := b_trans hb0 hb2
  have r0 := kb2.cell 0
  have r1 := kb2.cell 1
  have fz := kb2.frozen
  simp at r0 r1
  clear S1
  go_wp2_with fail
  refine bodyPost_ret (v := .agg #[.slice A2 0 c2, .int .u8 d']) (by simp [results, Try.results63, go_sem, r0, r1]) rfl ⟨⟨A2, c2, rfl, PtM.nil _ _ _⟩, ?_⟩
  exact b_set (b_set hB2 _ (Nat.le_succ _) _) _ (Nat.le_succ _) _
end Geo
end Go.Proofs.Ytllomldpbkeioaa
