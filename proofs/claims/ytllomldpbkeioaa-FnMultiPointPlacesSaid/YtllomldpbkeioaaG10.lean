/- Walks: a sequence under another type of coordinates. -/
import Derived.Test.YtllomldpbkeioaaG9
namespace Go.Proofs.Ytllomldpbkeioaa
open Go.RowKit Go.Sort
namespace Geo
set_option linter.unusedSimpArgs false
/-- a row that begins so -/
def Beg (cs : Array Value) (ns : List Nat) : Prop := ∃ rest, cs.toList = fl ns ++ rest
theorem Beg.set {cs : Array Value} {ns : List Nat} (h : Beg cs ns) {m : Nat} (hm : m = ns.length) (hs : m < cs.size) (x : Nat) : Beg (cs.setIfInBounds m (.float .f64 x)) (ns ++ [x]) := by
  obtain ⟨rest, hr⟩ := h
  subst hm
  have hl : cs.toList.length = ns.length + rest.length := by rw [hr]; simp [fl_length]
  rw [Array.length_toList] at hl
  cases rest with
  | nil => simp at hl; omega
  | cons r rest =>
    refine ⟨rest, ?_⟩
    rw [Array.toList_setIfInBounds, hr, List.set_append_right _ _ (by rw [fl_length]; exact Nat.le_refl _), fl_length, Nat.sub_self, List.set_cons_zero, fl_append, List.append_assoc]
    rfl
theorem Beg.all {cs : Array Value} {ns : List Nat} (h : Beg cs ns) (hs : cs.size = ns.length) : cs = (fl ns).toArray := by
  obtain ⟨rest, hr⟩ := h
  have hl : cs.toList.length = ns.length + rest.length := by rw [hr]; simp [fl_length]
  rw [Array.length_toList] at hl
  obtain rfl : rest = [] := List.eq_nil_of_length_eq_zero (by omega)
  rw [List.append_nil] at hr
  rw [← hr]
theorem Beg.nil (cs : Array Value) : Beg cs [] := ⟨cs.toList, rfl⟩
theorem some_at {cs : Array Value} {i : Nat} (h : i < cs.size) : ∃ v, cs[i]? = some v := ⟨_, Array.getElem?_eq_getElem h⟩
def SRF (d d' : Nat) (ns : List Nat) (r : Ending) (w' : World) : Prop := SR d' (if d = d' then ns else numsF d' (placesF d ns)) r w'
set_option maxHeartbeats 8000000 in
theorem force_any (d d' : Nat) (hd : d < 4) (hd' : d' < 4) (ns : List Nat) (A : Option Addr) (c : Nat) (hc : ns.length ≤ c) (hm : ns.length ≤ 100000) (w : World) (hA : Fs w w.heap.size A ns) :
    Calls Try.prog 39 #[SV d A ns.length c, .int .u8 d'] w fun r w' => SRF d d' ns r w' ∧ Below w.heap.size w w' := by
  unfold SRF
  by_cases he : d = d'
  · subst he
    rw [if_pos rfl]
    unfold SR
    unfold SV
    go_enter Try.func39, Try.ntmps39
    go_wp2
    refine bodyPost_ret (v := .agg #[.int .u8 d, .slice A ns.length c]) (by simp [results, Try.results39, go_sem]) rfl ⟨⟨A, c, rfl, hc, ?_⟩, ?_⟩
    · exact hA.below (b_alloc (b_alloc (Below.refl _ _) _) _) (by simp; omega)
    · exact b_alloc (b_alloc (Below.refl _ _) _) _
  rw [if_neg he]
  have hne : ¬ ((d : Int) = (d' : Int)) := by omega
  by_cases h0 : ns = []
  · subst h0
    have e0 : numsF d' (placesF d []) = [] := by simp [placesF, placesN, numsF]
    rw [e0]
    clear e0 he
    unfold SR SV
    go_enter Try.func39, Try.ntmps39
    go_wp2
    refine bodyPost_ret (v := .agg #[.int .u8 d', .slice none 0 0]) (by simp [results, Try.results39, go_sem]) rfl ⟨⟨none, 0, rfl, Nat.le_refl _, Fs.nil _ _ _⟩, ?_⟩
    exact b_alloc (b_alloc (Below.refl _ _) _) _
  have hpos : ¬ ((ns.length : Int) = 0) := by
    intro h
    exact h0 (List.eq_nil_of_length_eq_zero (by omega))
  have ln := fun w => length_any d hd A ns.length c (by omega) w
  have gt := fun k hlt (w' : World) (hb : Below w.heap.size w w') => get_any d hd ns A c k hm hlt w' (hA.below hb hb.size)
  have dm := fun w => dimension_any d' hd' w
  have hp : placesF d ns = placesN d ns (ns.length / wd d) := rfl
  have HP := Lib.hid hp
  have hN : ns.length / wd d ≤ 100000 := Nat.le_trans (Nat.div_le_self _ _) hm
  clear hp he h0 hc
  unfold SR SV CV at *
  have LN := Lib.hid ln
  have GT := Lib.hid gt
  clear ln gt
  obtain ⟨N, hNN⟩ : ∃ N, N = ns.length / wd d := ⟨_, rfl⟩
  rw [← hNN] at hN LN GT HP
  clear hNN
  rcases four hd' with rfl | rfl | rfl | rfl
  · simp only [c0, c1, c2, c3, c4, wd0, wd1, wd2, wd3] at dm hne
    have DM := Lib.hid dm
    clear dm
    have hmk := fun w => mk_all slF (2 * N) (by omega) (by omega) w
    obtain ⟨Z, hZ⟩ : ∃ M, M = madeCells (Value.float .f64 0).cells (2 * N * 1) := ⟨_, rfl⟩
    have hZs : Z.size = 2 * N := by rw [hZ, size_madeCells, Nat.mul_one]
    rw [← hZ] at hmk
    clear hZ
    rw [show (((2 * N : Nat) : Nat) : Int) = 2 * (N : Int) by omega] at hmk
    go_enter Try.func39, Try.ntmps39
    go_wp2_with fail
    refine (LN.out _).mono ?_
    rintro e w1 ⟨rfl, hb1⟩
    go_wp2_with fail
    refine (DM.out _).mono ?_
    rintro e w2 ⟨rfl, rfl⟩
    have kt := ((Blk.newAt w 55 #[.int .u8 d, .slice A ns.length c] rfl).alloc (.cells #[.int .u8 0, .slice none 0 0] 55)).stay hb1
    have kr := (Blk.newAt (w.alloc (.cells #[.int .u8 d, .slice A ns.length c] 55)) 55 #[.int .u8 0, .slice none 0 0] (n := w.heap.size + 1) (by simp)).stay hb1
    have hbw1 : Below w.heap.size w w1 := b_trans (b_alloc (b_alloc (Below.refl _ _) _) _) hb1
    have z1 := kr.lt
    have kg := Blk.new w1 66 Z
    have kt1 := kt.alloc (.cells Z 66)
    have kr1 := kr.alloc (.cells Z 66)
    have hbg := b_alloc hbw1 (.cells Z 66)
    obtain ⟨g, hg⟩ : ∃ g, g = w1.heap.size := ⟨_, rfl⟩
    rw [← hg] at kg
    have HG := Lib.hid hg
    have hgB : w.heap.size + 1 < g := by omega
    clear hb1
    go_wp2_with fail
    rw [← hg]
    clear hg
    go_loopw [8] (fun i wr => ∃ (k : Nat) (cs : Array Value), k ≤ N ∧ cs.size = 2 * N ∧ i = .int .i64 k ∧ Beg cs (numsF 0 (placesN d ns k)) ∧ Blk wr g 66 cs ∧ Blk wr w.heap.size 55 #[.int .u8 d, .slice A ns.length c] ∧ Blk wr (w.heap.size + 1) 55 #[.int .u8 0, .slice none 0 0] ∧ Below w.heap.size w wr) (fun i _ => N - (intOf i).toNat)
    case atStart =>
      exact ⟨0, Z, Nat.zero_le _, hZs, rfl, Beg.nil _, kg, kt1, kr1, hbg⟩
    case round =>
      clear kg kt1 kr1 kt kr hbg hbw1
      obtain ⟨k, cs, hk, hcs, rfl, hbeg, kg, kt, kr, hb⟩ := hrel
      have t0 := kt.cell 0
      have t1 := kt.cell 1
      simp at t0 t1
      have zt := kt.lt
      by_cases hlt : k < N
      · have GTk := Lib.hid (GT.out k hlt)
        have h1 : numsF 0 (placesN d ns (k + 1)) = numsF 0 (placesN d ns k) ++ numsOf 0 (placeAt d ns k) := by
          rw [placesN_succ, numsF_append, numsF_one]
        have H1 := Lib.hid h1
        have hl : 2 * k = (numsF 0 (placesN d ns k)).length := by rw [numsF_length (by omega), placesN_length]; exact Nat.mul_comm _ _
        have HL := Lib.hid hl
        have HCS := Lib.hid hcs
        have HBG := Lib.hid hbeg
        have hltI : (k : Int) < (N : Int) := by omega
        clear h1 hl GT LN HP hbeg
        go_wp2_with fail
        refine (GTk.out _ hb).mono ?_
        rintro e w2 ⟨rfl, hb2⟩
        have kg2 := kg.stay hb2
        have kt2 := kt.stay hb2
        have kr2 := kr.stay hb2
        have hbw2 := b_trans hb hb2
        have zr2 := kr2.lt
        have zg2 := kg2.lt
        have gf := kg2.frozen
        obtain ⟨v0, hv0⟩ := some_at (cs := cs) (i := 2 * k) (by omega)
        rw [← kg2.cell] at hv0
        have i0 : (2 * (k : Int)) + 0 < 2 * (N : Int) := by omega
        obtain ⟨v1, hv1⟩ := some_at (cs := cs) (i := 2 * k + 1) (by omega)
        rw [← kg2.cell] at hv1
        have i1 : (2 * (k : Int)) + 1 < 2 * (N : Int) := by omega
        have ip : (0 : Int) ≤ 2 * (k : Int) := by omega
        generalize placeAt d ns k = p at *
        clear kg kt kr hb GTk t0 t1 hcs
        go_wp2
        refine ⟨⟨k + 1, ((cs.setIfInBounds (2 * k) (.float .f64 p.x)).setIfInBounds (2 * k + 1) (.float .f64 p.y)), by omega, by have := HCS.out; simpa using this, by go_num, ?_, ?_, ?_, ?_, ?_⟩, ?_⟩
        · rw [H1.out]
          have hl := HL.out
          have hcs := HCS.out
          have q0 := HBG.out
          have q1 := q0.set (m := 2 * k) (by first | omega | (simp; omega)) (by first | omega | (simp; omega)) p.x
          have q2 := q1.set (m := 2 * k + 1) (by first | omega | (simp; omega)) (by first | omega | (simp; omega)) p.y
          simpa [numsOf, List.append_assoc] using q2
        · exact (((kg2.set_ _ _).set_ _ _)).alloc _
        · exact (((kt2.far (by simp; omega) _).far (by simp; omega) _)).alloc _
        · exact (((kr2.far (by simp; omega) _).far (by simp; omega) _)).alloc _
        · exact b_alloc (b_set (b_set (hbw2) _ (by simp; omega) _) _ (by simp; omega) _) _
        · simp [intOf]; omega
      · obtain rfl : k = N := by omega
        have hltI : ¬ ((k : Int) < (k : Int)) := by omega
        clear GT LN hmk
        have rf := kr.frozen
        have r0 := kr.cell 0
        have r1 := kr.cell 1
        have zr := kr.lt
        simp at r0 r1
        go_wp2_with fail
        have hl : cs.size = (numsF 0 (placesN d ns k)).length := by rw [hcs, numsF_length (by omega), placesN_length]; exact Nat.mul_comm _ _
        have kg' := kg
        rw [hbeg.all hl] at kg'
        refine bodyPost_ret (v := .agg #[.int .u8 0, .slice (some ⟨g, 0, none⟩) (2 * k) (2 * k)]) (by simp [results, Try.results39, go_sem, r0, r1]) rfl ⟨⟨some ⟨g, 0, none⟩, 2 * k, ?_, ?_, ?_⟩, ?_⟩
        · rw [HP.out, ← hl, hcs]
        · rw [HP.out, ← hl, hcs]; exact Nat.le_refl _
        · rw [HP.out]
          exact fs_of_blk (((kg'.far (by simp; omega) _).far (by simp; omega) _))
        · exact b_set (b_set hb _ (by simp) _) _ (by simp) _
  · simp only [c0, c1, c2, c3, c4, wd0, wd1, wd2, wd3] at dm hne
    have DM := Lib.hid dm
    clear dm
    have hmk := fun w => mk_all slF (3 * N) (by omega) (by omega) w
    obtain ⟨Z, hZ⟩ : ∃ M, M = madeCells (Value.float .f64 0).cells (3 * N * 1) := ⟨_, rfl⟩
    have hZs : Z.size = 3 * N := by rw [hZ, size_madeCells, Nat.mul_one]
    rw [← hZ] at hmk
    clear hZ
    rw [show (((3 * N : Nat) : Nat) : Int) = 3 * (N : Int) by omega] at hmk
    go_enter Try.func39, Try.ntmps39
    go_wp2_with fail
    refine (LN.out _).mono ?_
    rintro e w1 ⟨rfl, hb1⟩
    go_wp2_with fail
    refine (DM.out _).mono ?_
    rintro e w2 ⟨rfl, rfl⟩
    have kt := ((Blk.newAt w 55 #[.int .u8 d, .slice A ns.length c] rfl).alloc (.cells #[.int .u8 0, .slice none 0 0] 55)).stay hb1
    have kr := (Blk.newAt (w.alloc (.cells #[.int .u8 d, .slice A ns.length c] 55)) 55 #[.int .u8 0, .slice none 0 0] (n := w.heap.size + 1) (by simp)).stay hb1
    have hbw1 : Below w.heap.size w w1 := b_trans (b_alloc (b_alloc (Below.refl _ _) _) _) hb1
    have z1 := kr.lt
    have kg := Blk.new w1 66 Z
    have kt1 := kt.alloc (.cells Z 66)
    have kr1 := kr.alloc (.cells Z 66)
    have hbg := b_alloc hbw1 (.cells Z 66)
    obtain ⟨g, hg⟩ : ∃ g, g = w1.heap.size := ⟨_, rfl⟩
    rw [← hg] at kg
    have HG := Lib.hid hg
    have hgB : w.heap.size + 1 < g := by omega
    clear hb1
    go_wp2_with fail
    rw [← hg]
    clear hg
    go_loopw [8] (fun i wr => ∃ (k : Nat) (cs : Array Value), k ≤ N ∧ cs.size = 3 * N ∧ i = .int .i64 k ∧ Beg cs (numsF 1 (placesN d ns k)) ∧ Blk wr g 66 cs ∧ Blk wr w.heap.size 55 #[.int .u8 d, .slice A ns.length c] ∧ Blk wr (w.heap.size + 1) 55 #[.int .u8 0, .slice none 0 0] ∧ Below w.heap.size w wr) (fun i _ => N - (intOf i).toNat)
    case atStart =>
      exact ⟨0, Z, Nat.zero_le _, hZs, rfl, Beg.nil _, kg, kt1, kr1, hbg⟩
    case round =>
      clear kg kt1 kr1 kt kr hbg hbw1
      obtain ⟨k, cs, hk, hcs, rfl, hbeg, kg, kt, kr, hb⟩ := hrel
      have t0 := kt.cell 0
      have t1 := kt.cell 1
      simp at t0 t1
      have zt := kt.lt
      by_cases hlt : k < N
      · have GTk := Lib.hid (GT.out k hlt)
        have h1 : numsF 1 (placesN d ns (k + 1)) = numsF 1 (placesN d ns k) ++ numsOf 1 (placeAt d ns k) := by
          rw [placesN_succ, numsF_append, numsF_one]
        have H1 := Lib.hid h1
        have hl : 3 * k = (numsF 1 (placesN d ns k)).length := by rw [numsF_length (by omega), placesN_length]; exact Nat.mul_comm _ _
        have HL := Lib.hid hl
        have HCS := Lib.hid hcs
        have HBG := Lib.hid hbeg
        have hltI : (k : Int) < (N : Int) := by omega
        clear h1 hl GT LN HP hbeg
        go_wp2_with fail
        refine (GTk.out _ hb).mono ?_
        rintro e w2 ⟨rfl, hb2⟩
        have kg2 := kg.stay hb2
        have kt2 := kt.stay hb2
        have kr2 := kr.stay hb2
        have hbw2 := b_trans hb hb2
        have zr2 := kr2.lt
        have zg2 := kg2.lt
        have gf := kg2.frozen
        obtain ⟨v0, hv0⟩ := some_at (cs := cs) (i := 3 * k) (by omega)
        rw [← kg2.cell] at hv0
        have i0 : (3 * (k : Int)) + 0 < 3 * (N : Int) := by omega
        obtain ⟨v1, hv1⟩ := some_at (cs := cs) (i := 3 * k + 1) (by omega)
        rw [← kg2.cell] at hv1
        have i1 : (3 * (k : Int)) + 1 < 3 * (N : Int) := by omega
        obtain ⟨v2, hv2⟩ := some_at (cs := cs) (i := 3 * k + 2) (by omega)
        rw [← kg2.cell] at hv2
        have i2 : (3 * (k : Int)) + 2 < 3 * (N : Int) := by omega
        have ip : (0 : Int) ≤ 3 * (k : Int) := by omega
        generalize placeAt d ns k = p at *
        clear kg kt kr hb GTk t0 t1 hcs
        go_wp2
        refine ⟨⟨k + 1, (((cs.setIfInBounds (3 * k) (.float .f64 p.x)).setIfInBounds (3 * k + 1) (.float .f64 p.y)).setIfInBounds (3 * k + 2) (.float .f64 p.z)), by omega, by have := HCS.out; simpa using this, by go_num, ?_, ?_, ?_, ?_, ?_⟩, ?_⟩
        · rw [H1.out]
          have hl := HL.out
          have hcs := HCS.out
          have q0 := HBG.out
          have q1 := q0.set (m := 3 * k) (by first | omega | (simp; omega)) (by first | omega | (simp; omega)) p.x
          have q2 := q1.set (m := 3 * k + 1) (by first | omega | (simp; omega)) (by first | omega | (simp; omega)) p.y
          have q3 := q2.set (m := 3 * k + 2) (by first | omega | (simp; omega)) (by first | omega | (simp; omega)) p.z
          simpa [numsOf, List.append_assoc] using q3
        · exact ((((kg2.set_ _ _).set_ _ _).set_ _ _)).alloc _
        · exact ((((kt2.far (by simp; omega) _).far (by simp; omega) _).far (by simp; omega) _)).alloc _
        · exact ((((kr2.far (by simp; omega) _).far (by simp; omega) _).far (by simp; omega) _)).alloc _
        · exact b_alloc (b_set (b_set (b_set (hbw2) _ (by simp; omega) _) _ (by simp; omega) _) _ (by simp; omega) _) _
        · simp [intOf]; omega
      · obtain rfl : k = N := by omega
        have hltI : ¬ ((k : Int) < (k : Int)) := by omega
        clear GT LN hmk
        have rf := kr.frozen
        have r0 := kr.cell 0
        have r1 := kr.cell 1
        have zr := kr.lt
        simp at r0 r1
        go_wp2_with fail
        have hl : cs.size = (numsF 1 (placesN d ns k)).length := by rw [hcs, numsF_length (by omega), placesN_length]; exact Nat.mul_comm _ _
        have kg' := kg
        rw [hbeg.all hl] at kg'
        refine bodyPost_ret (v := .agg #[.int .u8 1, .slice (some ⟨g, 0, none⟩) (3 * k) (3 * k)]) (by simp [results, Try.results39, go_sem, r0, r1]) rfl ⟨⟨some ⟨g, 0, none⟩, 3 * k, ?_, ?_, ?_⟩, ?_⟩
        · rw [HP.out, ← hl, hcs]
        · rw [HP.out, ← hl, hcs]; exact Nat.le_refl _
        · rw [HP.out]
          exact fs_of_blk (((kg'.far (by simp; omega) _).far (by simp; omega) _))
        · exact b_set (b_set hb _ (by simp) _) _ (by simp) _
  · simp only [c0, c1, c2, c3, c4, wd0, wd1, wd2, wd3] at dm hne
    have DM := Lib.hid dm
    clear dm
    have hmk := fun w => mk_all slF (3 * N) (by omega) (by omega) w
    obtain ⟨Z, hZ⟩ : ∃ M, M = madeCells (Value.float .f64 0).cells (3 * N * 1) := ⟨_, rfl⟩
    have hZs : Z.size = 3 * N := by rw [hZ, size_madeCells, Nat.mul_one]
    rw [← hZ] at hmk
    clear hZ
    rw [show (((3 * N : Nat) : Nat) : Int) = 3 * (N : Int) by omega] at hmk
    go_enter Try.func39, Try.ntmps39
    go_wp2_with fail
    refine (LN.out _).mono ?_
    rintro e w1 ⟨rfl, hb1⟩
    go_wp2_with fail
    refine (DM.out _).mono ?_
    rintro e w2 ⟨rfl, rfl⟩
    have kt := ((Blk.newAt w 55 #[.int .u8 d, .slice A ns.length c] rfl).alloc (.cells #[.int .u8 0, .slice none 0 0] 55)).stay hb1
    have kr := (Blk.newAt (w.alloc (.cells #[.int .u8 d, .slice A ns.length c] 55)) 55 #[.int .u8 0, .slice none 0 0] (n := w.heap.size + 1) (by simp)).stay hb1
    have hbw1 : Below w.heap.size w w1 := b_trans (b_alloc (b_alloc (Below.refl _ _) _) _) hb1
    have z1 := kr.lt
    have kg := Blk.new w1 66 Z
    have kt1 := kt.alloc (.cells Z 66)
    have kr1 := kr.alloc (.cells Z 66)
    have hbg := b_alloc hbw1 (.cells Z 66)
    obtain ⟨g, hg⟩ : ∃ g, g = w1.heap.size := ⟨_, rfl⟩
    rw [← hg] at kg
    have HG := Lib.hid hg
    have hgB : w.heap.size + 1 < g := by omega
    clear hb1
    go_wp2_with fail
    rw [← hg]
    clear hg
    go_loopw [8] (fun i wr => ∃ (k : Nat) (cs : Array Value), k ≤ N ∧ cs.size = 3 * N ∧ i = .int .i64 k ∧ Beg cs (numsF 2 (placesN d ns k)) ∧ Blk wr g 66 cs ∧ Blk wr w.heap.size 55 #[.int .u8 d, .slice A ns.length c] ∧ Blk wr (w.heap.size + 1) 55 #[.int .u8 0, .slice none 0 0] ∧ Below w.heap.size w wr) (fun i _ => N - (intOf i).toNat)
    case atStart =>
      exact ⟨0, Z, Nat.zero_le _, hZs, rfl, Beg.nil _, kg, kt1, kr1, hbg⟩
    case round =>
      clear kg kt1 kr1 kt kr hbg hbw1
      obtain ⟨k, cs, hk, hcs, rfl, hbeg, kg, kt, kr, hb⟩ := hrel
      have t0 := kt.cell 0
      have t1 := kt.cell 1
      simp at t0 t1
      have zt := kt.lt
      by_cases hlt : k < N
      · have GTk := Lib.hid (GT.out k hlt)
        have h1 : numsF 2 (placesN d ns (k + 1)) = numsF 2 (placesN d ns k) ++ numsOf 2 (placeAt d ns k) := by
          rw [placesN_succ, numsF_append, numsF_one]
        have H1 := Lib.hid h1
        have hl : 3 * k = (numsF 2 (placesN d ns k)).length := by rw [numsF_length (by omega), placesN_length]; exact Nat.mul_comm _ _
        have HL := Lib.hid hl
        have HCS := Lib.hid hcs
        have HBG := Lib.hid hbeg
        have hltI : (k : Int) < (N : Int) := by omega
        clear h1 hl GT LN HP hbeg
        go_wp2_with fail
        refine (GTk.out _ hb).mono ?_
        rintro e w2 ⟨rfl, hb2⟩
        have kg2 := kg.stay hb2
        have kt2 := kt.stay hb2
        have kr2 := kr.stay hb2
        have hbw2 := b_trans hb hb2
        have zr2 := kr2.lt
        have zg2 := kg2.lt
        have gf := kg2.frozen
        obtain ⟨v0, hv0⟩ := some_at (cs := cs) (i := 3 * k) (by omega)
        rw [← kg2.cell] at hv0
        have i0 : (3 * (k : Int)) + 0 < 3 * (N : Int) := by omega
        obtain ⟨v1, hv1⟩ := some_at (cs := cs) (i := 3 * k + 1) (by omega)
        rw [← kg2.cell] at hv1
        have i1 : (3 * (k : Int)) + 1 < 3 * (N : Int) := by omega
        obtain ⟨v2, hv2⟩ := some_at (cs := cs) (i := 3 * k + 2) (by omega)
        rw [← kg2.cell] at hv2
        have i2 : (3 * (k : Int)) + 2 < 3 * (N : Int) := by omega
        have ip : (0 : Int) ≤ 3 * (k : Int) := by omega
        generalize placeAt d ns k = p at *
        clear kg kt kr hb GTk t0 t1 hcs
        go_wp2
        refine ⟨⟨k + 1, (((cs.setIfInBounds (3 * k) (.float .f64 p.x)).setIfInBounds (3 * k + 1) (.float .f64 p.y)).setIfInBounds (3 * k + 2) (.float .f64 p.m)), by omega, by have := HCS.out; simpa using this, by go_num, ?_, ?_, ?_, ?_, ?_⟩, ?_⟩
        · rw [H1.out]
          have hl := HL.out
          have hcs := HCS.out
          have q0 := HBG.out
          have q1 := q0.set (m := 3 * k) (by first | omega | (simp; omega)) (by first | omega | (simp; omega)) p.x
          have q2 := q1.set (m := 3 * k + 1) (by first | omega | (simp; omega)) (by first | omega | (simp; omega)) p.y
          have q3 := q2.set (m := 3 * k + 2) (by first | omega | (simp; omega)) (by first | omega | (simp; omega)) p.m
          simpa [numsOf, List.append_assoc] using q3
        · exact ((((kg2.set_ _ _).set_ _ _).set_ _ _)).alloc _
        · exact ((((kt2.far (by simp; omega) _).far (by simp; omega) _).far (by simp; omega) _)).alloc _
        · exact ((((kr2.far (by simp; omega) _).far (by simp; omega) _).far (by simp; omega) _)).alloc _
        · exact b_alloc (b_set (b_set (b_set (hbw2) _ (by simp; omega) _) _ (by simp; omega) _) _ (by simp; omega) _) _
        · simp [intOf]; omega
      · obtain rfl : k = N := by omega
        have hltI : ¬ ((k : Int) < (k : Int)) := by omega
        clear GT LN hmk
        have rf := kr.frozen
        have r0 := kr.cell 0
        have r1 := kr.cell 1
        have zr := kr.lt
        simp at r0 r1
        go_wp2_with fail
        have hl : cs.size = (numsF 2 (placesN d ns k)).length := by rw [hcs, numsF_length (by omega), placesN_length]; exact Nat.mul_comm _ _
        have kg' := kg
        rw [hbeg.all hl] at kg'
        refine bodyPost_ret (v := .agg #[.int .u8 2, .slice (some ⟨g, 0, none⟩) (3 * k) (3 * k)]) (by simp [results, Try.results39, go_sem, r0, r1]) rfl ⟨⟨some ⟨g, 0, none⟩, 3 * k, ?_, ?_, ?_⟩, ?_⟩
        · rw [HP.out, ← hl, hcs]
        · rw [HP.out, ← hl, hcs]; exact Nat.le_refl _
        · rw [HP.out]
          exact fs_of_blk (((kg'.far (by simp; omega) _).far (by simp; omega) _))
        · exact b_set (b_set hb _ (by simp) _) _ (by simp) _
  · simp only [c0, c1, c2, c3, c4, wd0, wd1, wd2, wd3] at dm hne
    have DM := Lib.hid dm
    clear dm
    have hmk := fun w => mk_all slF (4 * N) (by omega) (by omega) w
    obtain ⟨Z, hZ⟩ : ∃ M, M = madeCells (Value.float .f64 0).cells (4 * N * 1) := ⟨_, rfl⟩
    have hZs : Z.size = 4 * N := by rw [hZ, size_madeCells, Nat.mul_one]
    rw [← hZ] at hmk
    clear hZ
    rw [show (((4 * N : Nat) : Nat) : Int) = 4 * (N : Int) by omega] at hmk
    go_enter Try.func39, Try.ntmps39
    go_wp2_with fail
    refine (LN.out _).mono ?_
    rintro e w1 ⟨rfl, hb1⟩
    go_wp2_with fail
    refine (DM.out _).mono ?_
    rintro e w2 ⟨rfl, rfl⟩
    have kt := ((Blk.newAt w 55 #[.int .u8 d, .slice A ns.length c] rfl).alloc (.cells #[.int .u8 0, .slice none 0 0] 55)).stay hb1
    have kr := (Blk.newAt (w.alloc (.cells #[.int .u8 d, .slice A ns.length c] 55)) 55 #[.int .u8 0, .slice none 0 0] (n := w.heap.size + 1) (by simp)).stay hb1
    have hbw1 : Below w.heap.size w w1 := b_trans (b_alloc (b_alloc (Below.refl _ _) _) _) hb1
    have z1 := kr.lt
    have kg := Blk.new w1 66 Z
    have kt1 := kt.alloc (.cells Z 66)
    have kr1 := kr.alloc (.cells Z 66)
    have hbg := b_alloc hbw1 (.cells Z 66)
    obtain ⟨g, hg⟩ : ∃ g, g = w1.heap.size := ⟨_, rfl⟩
    rw [← hg] at kg
    have HG := Lib.hid hg
    have hgB : w.heap.size + 1 < g := by omega
    clear hb1
    go_wp2_with fail
    rw [← hg]
    clear hg
    go_loopw [8] (fun i wr => ∃ (k : Nat) (cs : Array Value), k ≤ N ∧ cs.size = 4 * N ∧ i = .int .i64 k ∧ Beg cs (numsF 3 (placesN d ns k)) ∧ Blk wr g 66 cs ∧ Blk wr w.heap.size 55 #[.int .u8 d, .slice A ns.length c] ∧ Blk wr (w.heap.size + 1) 55 #[.int .u8 0, .slice none 0 0] ∧ Below w.heap.size w wr) (fun i _ => N - (intOf i).toNat)
    case atStart =>
      exact ⟨0, Z, Nat.zero_le _, hZs, rfl, Beg.nil _, kg, kt1, kr1, hbg⟩
    case round =>
      clear kg kt1 kr1 kt kr hbg hbw1
      obtain ⟨k, cs, hk, hcs, rfl, hbeg, kg, kt, kr, hb⟩ := hrel
      have t0 := kt.cell 0
      have t1 := kt.cell 1
      simp at t0 t1
      have zt := kt.lt
      by_cases hlt : k < N
      · have GTk := Lib.hid (GT.out k hlt)
        have h1 : numsF 3 (placesN d ns (k + 1)) = numsF 3 (placesN d ns k) ++ numsOf 3 (placeAt d ns k) := by
          rw [placesN_succ, numsF_append, numsF_one]
        have H1 := Lib.hid h1
        have hl : 4 * k = (numsF 3 (placesN d ns k)).length := by rw [numsF_length (by omega), placesN_length]; exact Nat.mul_comm _ _
        have HL := Lib.hid hl
        have HCS := Lib.hid hcs
        have HBG := Lib.hid hbeg
        have hltI : (k : Int) < (N : Int) := by omega
        clear h1 hl GT LN HP hbeg
        go_wp2_with fail
        refine (GTk.out _ hb).mono ?_
        rintro e w2 ⟨rfl, hb2⟩
        have kg2 := kg.stay hb2
        have kt2 := kt.stay hb2
        have kr2 := kr.stay hb2
        have hbw2 := b_trans hb hb2
        have zr2 := kr2.lt
        have zg2 := kg2.lt
        have gf := kg2.frozen
        obtain ⟨v0, hv0⟩ := some_at (cs := cs) (i := 4 * k) (by omega)
        rw [← kg2.cell] at hv0
        have i0 : (4 * (k : Int)) + 0 < 4 * (N : Int) := by omega
        obtain ⟨v1, hv1⟩ := some_at (cs := cs) (i := 4 * k + 1) (by omega)
        rw [← kg2.cell] at hv1
        have i1 : (4 * (k : Int)) + 1 < 4 * (N : Int) := by omega
        obtain ⟨v2, hv2⟩ := some_at (cs := cs) (i := 4 * k + 2) (by omega)
        rw [← kg2.cell] at hv2
        have i2 : (4 * (k : Int)) + 2 < 4 * (N : Int) := by omega
        obtain ⟨v3, hv3⟩ := some_at (cs := cs) (i := 4 * k + 3) (by omega)
        rw [← kg2.cell] at hv3
        have i3 : (4 * (k : Int)) + 3 < 4 * (N : Int) := by omega
        have ip : (0 : Int) ≤ 4 * (k : Int) := by omega
        generalize placeAt d ns k = p at *
        clear kg kt kr hb GTk t0 t1 hcs
        go_wp2
        refine ⟨⟨k + 1, ((((cs.setIfInBounds (4 * k) (.float .f64 p.x)).setIfInBounds (4 * k + 1) (.float .f64 p.y)).setIfInBounds (4 * k + 2) (.float .f64 p.z)).setIfInBounds (4 * k + 3) (.float .f64 p.m)), by omega, by have := HCS.out; simpa using this, by go_num, ?_, ?_, ?_, ?_, ?_⟩, ?_⟩
        · rw [H1.out]
          have hl := HL.out
          have hcs := HCS.out
          have q0 := HBG.out
          have q1 := q0.set (m := 4 * k) (by first | omega | (simp; omega)) (by first | omega | (simp; omega)) p.x
          have q2 := q1.set (m := 4 * k + 1) (by first | omega | (simp; omega)) (by first | omega | (simp; omega)) p.y
          have q3 := q2.set (m := 4 * k + 2) (by first | omega | (simp; omega)) (by first | omega | (simp; omega)) p.z
          have q4 := q3.set (m := 4 * k + 3) (by first | omega | (simp; omega)) (by first | omega | (simp; omega)) p.m
          simpa [numsOf, List.append_assoc] using q4
        · exact (((((kg2.set_ _ _).set_ _ _).set_ _ _).set_ _ _)).alloc _
        · exact (((((kt2.far (by simp; omega) _).far (by simp; omega) _).far (by simp; omega) _).far (by simp; omega) _)).alloc _
        · exact (((((kr2.far (by simp; omega) _).far (by simp; omega) _).far (by simp; omega) _).far (by simp; omega) _)).alloc _
        · exact b_alloc (b_set (b_set (b_set (b_set (hbw2) _ (by simp; omega) _) _ (by simp; omega) _) _ (by simp; omega) _) _ (by simp; omega) _) _
        · simp [intOf]; omega
      · obtain rfl : k = N := by omega
        have hltI : ¬ ((k : Int) < (k : Int)) := by omega
        clear GT LN hmk
        have rf := kr.frozen
        have r0 := kr.cell 0
        have r1 := kr.cell 1
        have zr := kr.lt
        simp at r0 r1
        go_wp2_with fail
        have hl : cs.size = (numsF 3 (placesN d ns k)).length := by rw [hcs, numsF_length (by omega), placesN_length]; exact Nat.mul_comm _ _
        have kg' := kg
        rw [hbeg.all hl] at kg'
        refine bodyPost_ret (v := .agg #[.int .u8 3, .slice (some ⟨g, 0, none⟩) (4 * k) (4 * k)]) (by simp [results, Try.results39, go_sem, r0, r1]) rfl ⟨⟨some ⟨g, 0, none⟩, 4 * k, ?_, ?_, ?_⟩, ?_⟩
        · rw [HP.out, ← hl, hcs]
        · rw [HP.out, ← hl, hcs]; exact Nat.le_refl _
        · rw [HP.out]
          exact fs_of_blk (((kg'.far (by simp; omega) _).far (by simp; omega) _))
        · exact b_set (b_set hb _ (by simp) _) _ (by simp) _
end Geo
end Go.Proofs.Ytllomldpbkeioaa
