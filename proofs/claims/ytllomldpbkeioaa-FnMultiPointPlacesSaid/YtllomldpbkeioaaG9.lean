/- Walks: a sequence as plain data. -/
import Derived.Test.YtllomldpbkeioaaG8
namespace Go.Proofs.Ytllomldpbkeioaa
open Go.RowKit Go.Sort
namespace Geo
set_option linter.unusedSimpArgs false
def GR (g : G) (r : Ending) (w' : World) : Prop := ∃ A c A' c', r = .returned (GV g A c A' c') ∧ GM w' w'.heap.size g A c A' c'
set_option maxHeartbeats 8000000 in
theorem plainseq_any (d : Nat) (hd : d < 4) (ns : List Nat) (A : Option Addr) (c : Nat) (hm : ns.length ≤ 100000) (w : World) (hA : Fs w w.heap.size A ns) :
    Calls Try.prog 36 #[SV d A ns.length c] w fun r w' => GR (.mk 2 d (numsF d (placesF d ns)) []) r w' ∧ Below w.heap.size w w' := by
  have ct := fun w => ctype_any d A ns.length c w
  have ln := fun w => length_any d hd A ns.length c (by omega) w
  have gt := fun k hlt (w' : World) (hb : Below w.heap.size w w') => get_any d hd ns A c k hm hlt w' (hA.below hb hb.size)
  have i3 := fun w => is3d_any d hd w
  have im := fun w => ismeas_any d hd w
  unfold SV CV at *
  rcases four hd with rfl | rfl | rfl | rfl
  · simp only [c0, c1, c2, c3, c4, wd0, wd1, wd2, wd3] at ct ln gt i3 im
    have CT := Lib.hid ct
    have LN := Lib.hid ln
    have GT := Lib.hid gt
    have I3 := Lib.hid i3
    have IM := Lib.hid im
    clear ct ln gt i3 im
    go_enter Try.func36, Try.ntmps36
    go_wp2_with fail
    refine (CT.out _).mono ?_
    rintro e w0 ⟨rfl, hb0⟩
    have kt0 := ((Blk.newAt w 55 #[.int .u8 0, .slice A ns.length c] rfl).alloc (.cells #[.int .i64 0, .int .i64 0, .slice none 0 0, .slice none 0 0] 26)).stay hb0
    have kz0 := (Blk.newAt (w.alloc (.cells #[.int .u8 0, .slice A ns.length c] 55)) 26 #[.int .i64 0, .int .i64 0, .slice none 0 0, .slice none 0 0] (n := w.heap.size + 1) (by simp)).stay hb0
    have hbw0 : Below w.heap.size w w0 := b_trans (b_alloc (b_alloc (Below.refl _ _) _) _) hb0
    have z0 := kz0.lt
    clear hb0
    go_wp2_with fail
    obtain ⟨g3, hg3⟩ : ∃ g3, g3 = w0.heap.size := ⟨_, rfl⟩
    have hg3t : w.heap.size ≠ g3 := by omega
    have hg3z : w.heap.size + 1 ≠ g3 := by omega
    have hg3B : w.heap.size ≤ g3 := by omega
    rw [← hg3]
    have HG3 := Lib.hid hg3
    clear hg3
    go_loopw [4] (fun i wr => ∃ (k n : Nat) (Ao : Option Addr) (co : Nat), k ≤ ns.length / 2 ∧ Hid (n = k * 2) ∧ i = .int .i64 k ∧ wr.ownsRow w.heap.size 66 1 (.slice Ao n co) n (fl (numsF 0 (placesN 0 ns k))) ∧ Blk wr g3 26 #[.int .i64 2, .int .i64 0, .slice Ao n co, .slice none 0 0] ∧ Blk wr w.heap.size 55 #[.int .u8 0, .slice A ns.length c] ∧ Blk wr (w.heap.size + 1) 26 #[.int .i64 0, .int .i64 0, .slice none 0 0, .slice none 0 0] ∧ Below w.heap.size w wr) (fun i _ => ns.length - (intOf i).toNat)
    case atStart =>
      refine ⟨0, 0, none, 0, Nat.zero_le _, rfl, rfl, World.ownsRow_nil _ _ _ _, ?_, kt0.alloc _, kz0.alloc _, b_alloc hbw0 _⟩
      exact Blk.newAt _ _ _ HG3.out
    case round =>
      obtain ⟨k, n, Ao, co, hk, HN, rfl, hown, kg, kt, kz, hb⟩ := hrel
      have hn' : n ≤ 400000 := by have := HN.out; omega
      have t0 := kt.cell 0
      have t1 := kt.cell 1
      have s0 := kg.cell 0
      have s1 := kg.cell 1
      have s2 := kg.cell 2
      have s3 := kg.cell 3
      have u0 := kz.cell 0
      have u1 := kz.cell 1
      have u2 := kz.cell 2
      have u3 := kz.cell 3
      have zf := kz.frozen
      have gf := kg.frozen
      simp at t0 t1 s0 s1 s2 s3 u0 u1 u2 u3
      have zg := kg.lt
      have zt := kt.lt
      go_wp2_with fail
      refine (LN.out _).mono ?_
      rintro e w1 ⟨rfl, hb1⟩
      have kg1 := kg.stay hb1
      have kt1 := kt.stay hb1
      have kz1 := kz.stay hb1
      have hown1 := own_below hown hb1
      have hbw1 := b_trans hb hb1
      have t0 := kt1.cell 0
      have t1 := kt1.cell 1
      have s0 := kg1.cell 0
      have s1 := kg1.cell 1
      have s2 := kg1.cell 2
      have s3 := kg1.cell 3
      have u0 := kz1.cell 0
      have u1 := kz1.cell 1
      have u2 := kz1.cell 2
      have u3 := kz1.cell 3
      have zf := kz1.frozen
      have gf := kg1.frozen
      simp at t0 t1 s0 s1 s2 s3 u0 u1 u2 u3
      by_cases hlt : k < ns.length / 2
      · have h1 : numsF 0 (placesN 0 ns (k + 1)) = numsF 0 (placesN 0 ns k) ++ numsOf 0 (placeAt 0 ns k) := by
          rw [placesN_succ, numsF_append, numsF_one]
        have H1 := Lib.hid h1
        clear h1
        have GTk := Lib.hid (GT.out k hlt)
        have hltI : (k : Int) < ((ns.length / 2 : Nat) : Int) := by omega
        go_wp2_with fail
        refine (GTk.out _ hbw1).mono ?_
        rintro e w2 ⟨rfl, hb2'⟩
        have kg2 := kg1.stay hb2'
        have kt2 := kt1.stay hb2'
        have kz2 := kz1.stay hb2'
        have hown2 := own_below hown1 hb2'
        have hb2 := b_trans hbw1 hb2'
        have zg2 := kg2.lt
        have hg3p : w2.heap.size ≠ g3 := by omega
        generalize placeAt 0 ns k = p at *
        have t0 := kt2.cell 0
        have t1 := kt2.cell 1
        have s2 := kg2.cell 2
        have gf := kg2.frozen
        simp at t0 t1 s2
        clear hb hb1 hbw1 hb2' kg kg1 kt kt1 kz kz1 hown hown1 kt0 kz0 hbw0
        go_wp2_with (first
          | (go_at_call 57; refine (I3.out _).mono ?_; rintro e w9 ⟨rfl, rfl⟩)
          | (go_at_call 58; refine (IM.out _).mono ?_; rintro e w9 ⟨rfl, rfl⟩)
          | (at_builtin; refine wpList_app slF (by rfl) _ _ (by rfl) w.heap.size (A := Ao) (n := n) (c := co) (xs := fl (numsF 0 (placesN 0 ns k))) (by rfl) (by repeat (first | exact hown2 | apply World.ownsRow.alloc)) (X := some ⟨w2.heap.size + 1, 0, none⟩) (m := 2) (cx := 2) (fl [p.x, p.y]) (by rfl) (by rfl) (cell1_blk (Blk.newAt _ _ _ (by simp)) 2) (fl_one _) (fun h => by cases h) (by unfold maxLen; omega) (by omega) (by have := hb2.size; simp at this ⊢; omega) ?_; intro A1 c1 v1 hown11 hgr1; have kg11 := ((kg2.alloc _).alloc _).grown hgr1 (own_other hown2 (kg2) (by decide)); have kt11 := ((kt2.alloc _).alloc _).grown hgr1 (own_other hown2 (kt2) (by decide)); have kz11 := ((kz2.alloc _).alloc _).grown hgr1 (own_other hown2 (kz2) (by decide)); have kp11 := ((Blk.newAt w2 91 #[.float .f64 p.x, .float .f64 p.y, .float .f64 p.z, .float .f64 p.m, .int .u8 0] rfl).alloc _).grown hgr1 (own_new hown2 (Nat.le_refl _)); have hb11 : Below w.heap.size w v1 := b_grown (b_alloc (b_alloc hb2 _) _) hgr1 (by have := hb2.size; simp at this ⊢; omega) (fun k hk => (hown2.lt k hk).1); have ho31 := own_other hown11 kg11 (by decide); have hown31 := own_set hown11 (p := ⟨g3, 2, none⟩) ho31 (.slice A1 (n + 2) c1); have kg31 := (kg11.set_ 2 (.slice A1 (n + 2) c1)); have kt31 := kt11.far (p := ⟨g3, 2, none⟩) hg3t (.slice A1 (n + 2) c1); have kz31 := kz11.far (p := ⟨g3, 2, none⟩) hg3z (.slice A1 (n + 2) c1); have kp31 := kp11.far (p := ⟨g3, 2, none⟩) hg3p (.slice A1 (n + 2) c1); have hb31 := b_set hb11 ⟨g3, 2, none⟩ hg3B (.slice A1 (n + 2) c1); have gz1 := kg11.cell 2; have gf1 := kg11.frozen; have gn1 := kg31.cell 2; have px1 := kp31.cell 0; have py1 := kp31.cell 1; have pz1 := kp31.cell 2; have pm1 := kp31.cell 3; have pt1 := kp31.cell 4; simp at gz1 gn1 px1 py1 pz1 pm1 pt1))
        go_roundw
        case rel =>
          refine ⟨k + 1, _, A1, c1, by omega, by have := HN.out; unfold Hid; omega, by go_num, ?_, kg31, kt31, kz31, hb31⟩
          rw [H1.out]
          have := hown31
          simp only [← fl_append, List.append_assoc] at this
          exact this
        case measure => simp [intOf]; omega
      · obtain rfl : k = ns.length / 2 := by omega
        have h2 : placesF 0 ns = placesN 0 ns (ns.length / 2) := by unfold placesF; rw [show wd 0 = 2 from rfl]
        obtain ⟨f1, f2, f3⟩ := fs_of_own hown1
        rw [← h2] at f1 f2 f3
        have F2 := Lib.hid f2
        have ho := f3.off kz1 (by simp [noF])
        have hltI : ¬ (((ns.length / 2 : Nat) : Int) < ((ns.length / 2 : Nat) : Int)) := by omega
        clear f2 h2 kg kt kz hown HN
        go_wp2_with fail
        refine bodyPost_ret (v := .agg #[.int .i64 2, .int .i64 0, .slice Ao n co, .slice none 0 0]) (by simp [results, Try.results36, go_sem, u0, u1, u2, u3]) rfl ⟨⟨Ao, co, none, 0, ?_, ?_⟩, ?_⟩
        · unfold GV gCells
          rw [F2.out]; rfl
        · refine GM.of ?_ f1 (Nat.le_refl _) (Gs.nil _ _ _)
          exact ((((f3.set ho _ _).set ho _ _).set ho _ _).set ho _ _).up (by simp)
        · exact b_set (b_set (b_set (b_set hbw1 _ (Nat.le_succ _) _) _ (Nat.le_succ _) _) _ (Nat.le_succ _) _) _ (Nat.le_succ _) _
  · simp only [c0, c1, c2, c3, c4, wd0, wd1, wd2, wd3] at ct ln gt i3 im
    have CT := Lib.hid ct
    have LN := Lib.hid ln
    have GT := Lib.hid gt
    have I3 := Lib.hid i3
    have IM := Lib.hid im
    clear ct ln gt i3 im
    go_enter Try.func36, Try.ntmps36
    go_wp2_with fail
    refine (CT.out _).mono ?_
    rintro e w0 ⟨rfl, hb0⟩
    have kt0 := ((Blk.newAt w 55 #[.int .u8 1, .slice A ns.length c] rfl).alloc (.cells #[.int .i64 0, .int .i64 0, .slice none 0 0, .slice none 0 0] 26)).stay hb0
    have kz0 := (Blk.newAt (w.alloc (.cells #[.int .u8 1, .slice A ns.length c] 55)) 26 #[.int .i64 0, .int .i64 0, .slice none 0 0, .slice none 0 0] (n := w.heap.size + 1) (by simp)).stay hb0
    have hbw0 : Below w.heap.size w w0 := b_trans (b_alloc (b_alloc (Below.refl _ _) _) _) hb0
    have z0 := kz0.lt
    clear hb0
    go_wp2_with fail
    obtain ⟨g3, hg3⟩ : ∃ g3, g3 = w0.heap.size := ⟨_, rfl⟩
    have hg3t : w.heap.size ≠ g3 := by omega
    have hg3z : w.heap.size + 1 ≠ g3 := by omega
    have hg3B : w.heap.size ≤ g3 := by omega
    rw [← hg3]
    have HG3 := Lib.hid hg3
    clear hg3
    go_loopw [4] (fun i wr => ∃ (k n : Nat) (Ao : Option Addr) (co : Nat), k ≤ ns.length / 3 ∧ Hid (n = k * 3) ∧ i = .int .i64 k ∧ wr.ownsRow w.heap.size 66 1 (.slice Ao n co) n (fl (numsF 1 (placesN 1 ns k))) ∧ Blk wr g3 26 #[.int .i64 2, .int .i64 1, .slice Ao n co, .slice none 0 0] ∧ Blk wr w.heap.size 55 #[.int .u8 1, .slice A ns.length c] ∧ Blk wr (w.heap.size + 1) 26 #[.int .i64 0, .int .i64 0, .slice none 0 0, .slice none 0 0] ∧ Below w.heap.size w wr) (fun i _ => ns.length - (intOf i).toNat)
    case atStart =>
      refine ⟨0, 0, none, 0, Nat.zero_le _, rfl, rfl, World.ownsRow_nil _ _ _ _, ?_, kt0.alloc _, kz0.alloc _, b_alloc hbw0 _⟩
      exact Blk.newAt _ _ _ HG3.out
    case round =>
      obtain ⟨k, n, Ao, co, hk, HN, rfl, hown, kg, kt, kz, hb⟩ := hrel
      have hn' : n ≤ 400000 := by have := HN.out; omega
      have t0 := kt.cell 0
      have t1 := kt.cell 1
      have s0 := kg.cell 0
      have s1 := kg.cell 1
      have s2 := kg.cell 2
      have s3 := kg.cell 3
      have u0 := kz.cell 0
      have u1 := kz.cell 1
      have u2 := kz.cell 2
      have u3 := kz.cell 3
      have zf := kz.frozen
      have gf := kg.frozen
      simp at t0 t1 s0 s1 s2 s3 u0 u1 u2 u3
      have zg := kg.lt
      have zt := kt.lt
      go_wp2_with fail
      refine (LN.out _).mono ?_
      rintro e w1 ⟨rfl, hb1⟩
      have kg1 := kg.stay hb1
      have kt1 := kt.stay hb1
      have kz1 := kz.stay hb1
      have hown1 := own_below hown hb1
      have hbw1 := b_trans hb hb1
      have t0 := kt1.cell 0
      have t1 := kt1.cell 1
      have s0 := kg1.cell 0
      have s1 := kg1.cell 1
      have s2 := kg1.cell 2
      have s3 := kg1.cell 3
      have u0 := kz1.cell 0
      have u1 := kz1.cell 1
      have u2 := kz1.cell 2
      have u3 := kz1.cell 3
      have zf := kz1.frozen
      have gf := kg1.frozen
      simp at t0 t1 s0 s1 s2 s3 u0 u1 u2 u3
      by_cases hlt : k < ns.length / 3
      · have h1 : numsF 1 (placesN 1 ns (k + 1)) = numsF 1 (placesN 1 ns k) ++ numsOf 1 (placeAt 1 ns k) := by
          rw [placesN_succ, numsF_append, numsF_one]
        have H1 := Lib.hid h1
        clear h1
        have GTk := Lib.hid (GT.out k hlt)
        have hltI : (k : Int) < ((ns.length / 3 : Nat) : Int) := by omega
        go_wp2_with fail
        refine (GTk.out _ hbw1).mono ?_
        rintro e w2 ⟨rfl, hb2'⟩
        have kg2 := kg1.stay hb2'
        have kt2 := kt1.stay hb2'
        have kz2 := kz1.stay hb2'
        have hown2 := own_below hown1 hb2'
        have hb2 := b_trans hbw1 hb2'
        have zg2 := kg2.lt
        have hg3p : w2.heap.size ≠ g3 := by omega
        generalize placeAt 1 ns k = p at *
        have t0 := kt2.cell 0
        have t1 := kt2.cell 1
        have s2 := kg2.cell 2
        have gf := kg2.frozen
        simp at t0 t1 s2
        clear hb hb1 hbw1 hb2' kg kg1 kt kt1 kz kz1 hown hown1 kt0 kz0 hbw0
        go_wp2_with (first
          | (go_at_call 57; refine (I3.out _).mono ?_; rintro e w9 ⟨rfl, rfl⟩)
          | (go_at_call 58; refine (IM.out _).mono ?_; rintro e w9 ⟨rfl, rfl⟩)
          | (at_builtin; refine wpList_app slF (by rfl) _ _ (by rfl) w.heap.size (A := Ao) (n := n) (c := co) (xs := fl (numsF 1 (placesN 1 ns k))) (by rfl) (by repeat (first | exact hown2 | apply World.ownsRow.alloc)) (X := some ⟨w2.heap.size + 1, 0, none⟩) (m := 2) (cx := 2) (fl [p.x, p.y]) (by rfl) (by rfl) (cell1_blk (Blk.newAt _ _ _ (by simp)) 2) (fl_one _) (fun h => by cases h) (by unfold maxLen; omega) (by omega) (by have := hb2.size; simp at this ⊢; omega) ?_; intro A1 c1 v1 hown11 hgr1; have kg11 := ((kg2.alloc _).alloc _).grown hgr1 (own_other hown2 (kg2) (by decide)); have kt11 := ((kt2.alloc _).alloc _).grown hgr1 (own_other hown2 (kt2) (by decide)); have kz11 := ((kz2.alloc _).alloc _).grown hgr1 (own_other hown2 (kz2) (by decide)); have kp11 := ((Blk.newAt w2 91 #[.float .f64 p.x, .float .f64 p.y, .float .f64 p.z, .float .f64 p.m, .int .u8 1] rfl).alloc _).grown hgr1 (own_new hown2 (Nat.le_refl _)); have hb11 : Below w.heap.size w v1 := b_grown (b_alloc (b_alloc hb2 _) _) hgr1 (by have := hb2.size; simp at this ⊢; omega) (fun k hk => (hown2.lt k hk).1); have ho31 := own_other hown11 kg11 (by decide); have hown31 := own_set hown11 (p := ⟨g3, 2, none⟩) ho31 (.slice A1 (n + 2) c1); have kg31 := (kg11.set_ 2 (.slice A1 (n + 2) c1)); have kt31 := kt11.far (p := ⟨g3, 2, none⟩) hg3t (.slice A1 (n + 2) c1); have kz31 := kz11.far (p := ⟨g3, 2, none⟩) hg3z (.slice A1 (n + 2) c1); have kp31 := kp11.far (p := ⟨g3, 2, none⟩) hg3p (.slice A1 (n + 2) c1); have hb31 := b_set hb11 ⟨g3, 2, none⟩ hg3B (.slice A1 (n + 2) c1); have gz1 := kg11.cell 2; have gf1 := kg11.frozen; have gn1 := kg31.cell 2; have px1 := kp31.cell 0; have py1 := kp31.cell 1; have pz1 := kp31.cell 2; have pm1 := kp31.cell 3; have pt1 := kp31.cell 4; simp at gz1 gn1 px1 py1 pz1 pm1 pt1)
          | (at_builtin; refine wpList_app slF (by rfl) _ _ (by rfl) w.heap.size (A := A1) (n := (n + 2)) (c := c1) (xs := fl (numsF 1 (placesN 1 ns k)) ++ fl [p.x, p.y]) (by rfl) (by repeat (first | exact hown31 | apply World.ownsRow.alloc)) (X := some ⟨v1.heap.size, 0, none⟩) (m := 1) (cx := 1) (fl [p.z]) (by rfl) (by rfl) (cell1_blk (Blk.newAt _ _ _ (by simp)) 1) (fl_one _) (fun h => by cases h) (by unfold maxLen; omega) (by omega) (by have := hb31.size; simp at this ⊢; omega) ?_; intro A2 c2 v2 hown12 hgr2; have kg12 := (kg31.alloc _).grown hgr2 (own_other hown31 (kg31) (by decide)); have kt12 := (kt31.alloc _).grown hgr2 (own_other hown31 (kt31) (by decide)); have kz12 := (kz31.alloc _).grown hgr2 (own_other hown31 (kz31) (by decide)); have kp12 := (kp31.alloc _).grown hgr2 (own_other hown31 kp31 (by decide)); have hb12 : Below w.heap.size w v2 := b_grown (b_alloc hb31 _) hgr2 (by have := hb31.size; simp at this ⊢; omega) (fun k hk => (hown31.lt k hk).1); have ho32 := own_other hown12 kg12 (by decide); have hown32 := own_set hown12 (p := ⟨g3, 2, none⟩) ho32 (.slice A2 ((n + 2) + 1) c2); have kg32 := (kg12.set_ 2 (.slice A2 ((n + 2) + 1) c2)); have kt32 := kt12.far (p := ⟨g3, 2, none⟩) hg3t (.slice A2 ((n + 2) + 1) c2); have kz32 := kz12.far (p := ⟨g3, 2, none⟩) hg3z (.slice A2 ((n + 2) + 1) c2); have kp32 := kp12.far (p := ⟨g3, 2, none⟩) hg3p (.slice A2 ((n + 2) + 1) c2); have hb32 := b_set hb12 ⟨g3, 2, none⟩ hg3B (.slice A2 ((n + 2) + 1) c2); have gz2 := kg12.cell 2; have gf2 := kg12.frozen; have gn2 := kg32.cell 2; have px2 := kp32.cell 0; have py2 := kp32.cell 1; have pz2 := kp32.cell 2; have pm2 := kp32.cell 3; have pt2 := kp32.cell 4; simp at gz2 gn2 px2 py2 pz2 pm2 pt2))
        go_roundw
        case rel =>
          refine ⟨k + 1, _, A2, c2, by omega, by have := HN.out; unfold Hid; omega, by go_num, ?_, kg32, kt32, kz32, hb32⟩
          rw [H1.out]
          have := hown32
          simp only [← fl_append, List.append_assoc] at this
          exact this
        case measure => simp [intOf]; omega
      · obtain rfl : k = ns.length / 3 := by omega
        have h2 : placesF 1 ns = placesN 1 ns (ns.length / 3) := by unfold placesF; rw [show wd 1 = 3 from rfl]
        obtain ⟨f1, f2, f3⟩ := fs_of_own hown1
        rw [← h2] at f1 f2 f3
        have F2 := Lib.hid f2
        have ho := f3.off kz1 (by simp [noF])
        have hltI : ¬ (((ns.length / 3 : Nat) : Int) < ((ns.length / 3 : Nat) : Int)) := by omega
        clear f2 h2 kg kt kz hown HN
        go_wp2_with fail
        refine bodyPost_ret (v := .agg #[.int .i64 2, .int .i64 1, .slice Ao n co, .slice none 0 0]) (by simp [results, Try.results36, go_sem, u0, u1, u2, u3]) rfl ⟨⟨Ao, co, none, 0, ?_, ?_⟩, ?_⟩
        · unfold GV gCells
          rw [F2.out]; rfl
        · refine GM.of ?_ f1 (Nat.le_refl _) (Gs.nil _ _ _)
          exact ((((f3.set ho _ _).set ho _ _).set ho _ _).set ho _ _).up (by simp)
        · exact b_set (b_set (b_set (b_set hbw1 _ (Nat.le_succ _) _) _ (Nat.le_succ _) _) _ (Nat.le_succ _) _) _ (Nat.le_succ _) _
  · simp only [c0, c1, c2, c3, c4, wd0, wd1, wd2, wd3] at ct ln gt i3 im
    have CT := Lib.hid ct
    have LN := Lib.hid ln
    have GT := Lib.hid gt
    have I3 := Lib.hid i3
    have IM := Lib.hid im
    clear ct ln gt i3 im
    go_enter Try.func36, Try.ntmps36
    go_wp2_with fail
    refine (CT.out _).mono ?_
    rintro e w0 ⟨rfl, hb0⟩
    have kt0 := ((Blk.newAt w 55 #[.int .u8 2, .slice A ns.length c] rfl).alloc (.cells #[.int .i64 0, .int .i64 0, .slice none 0 0, .slice none 0 0] 26)).stay hb0
    have kz0 := (Blk.newAt (w.alloc (.cells #[.int .u8 2, .slice A ns.length c] 55)) 26 #[.int .i64 0, .int .i64 0, .slice none 0 0, .slice none 0 0] (n := w.heap.size + 1) (by simp)).stay hb0
    have hbw0 : Below w.heap.size w w0 := b_trans (b_alloc (b_alloc (Below.refl _ _) _) _) hb0
    have z0 := kz0.lt
    clear hb0
    go_wp2_with fail
    obtain ⟨g3, hg3⟩ : ∃ g3, g3 = w0.heap.size := ⟨_, rfl⟩
    have hg3t : w.heap.size ≠ g3 := by omega
    have hg3z : w.heap.size + 1 ≠ g3 := by omega
    have hg3B : w.heap.size ≤ g3 := by omega
    rw [← hg3]
    have HG3 := Lib.hid hg3
    clear hg3
    go_loopw [4] (fun i wr => ∃ (k n : Nat) (Ao : Option Addr) (co : Nat), k ≤ ns.length / 3 ∧ Hid (n = k * 3) ∧ i = .int .i64 k ∧ wr.ownsRow w.heap.size 66 1 (.slice Ao n co) n (fl (numsF 2 (placesN 2 ns k))) ∧ Blk wr g3 26 #[.int .i64 2, .int .i64 2, .slice Ao n co, .slice none 0 0] ∧ Blk wr w.heap.size 55 #[.int .u8 2, .slice A ns.length c] ∧ Blk wr (w.heap.size + 1) 26 #[.int .i64 0, .int .i64 0, .slice none 0 0, .slice none 0 0] ∧ Below w.heap.size w wr) (fun i _ => ns.length - (intOf i).toNat)
    case atStart =>
      refine ⟨0, 0, none, 0, Nat.zero_le _, rfl, rfl, World.ownsRow_nil _ _ _ _, ?_, kt0.alloc _, kz0.alloc _, b_alloc hbw0 _⟩
      exact Blk.newAt _ _ _ HG3.out
    case round =>
      obtain ⟨k, n, Ao, co, hk, HN, rfl, hown, kg, kt, kz, hb⟩ := hrel
      have hn' : n ≤ 400000 := by have := HN.out; omega
      have t0 := kt.cell 0
      have t1 := kt.cell 1
      have s0 := kg.cell 0
      have s1 := kg.cell 1
      have s2 := kg.cell 2
      have s3 := kg.cell 3
      have u0 := kz.cell 0
      have u1 := kz.cell 1
      have u2 := kz.cell 2
      have u3 := kz.cell 3
      have zf := kz.frozen
      have gf := kg.frozen
      simp at t0 t1 s0 s1 s2 s3 u0 u1 u2 u3
      have zg := kg.lt
      have zt := kt.lt
      go_wp2_with fail
      refine (LN.out _).mono ?_
      rintro e w1 ⟨rfl, hb1⟩
      have kg1 := kg.stay hb1
      have kt1 := kt.stay hb1
      have kz1 := kz.stay hb1
      have hown1 := own_below hown hb1
      have hbw1 := b_trans hb hb1
      have t0 := kt1.cell 0
      have t1 := kt1.cell 1
      have s0 := kg1.cell 0
      have s1 := kg1.cell 1
      have s2 := kg1.cell 2
      have s3 := kg1.cell 3
      have u0 := kz1.cell 0
      have u1 := kz1.cell 1
      have u2 := kz1.cell 2
      have u3 := kz1.cell 3
      have zf := kz1.frozen
      have gf := kg1.frozen
      simp at t0 t1 s0 s1 s2 s3 u0 u1 u2 u3
      by_cases hlt : k < ns.length / 3
      · have h1 : numsF 2 (placesN 2 ns (k + 1)) = numsF 2 (placesN 2 ns k) ++ numsOf 2 (placeAt 2 ns k) := by
          rw [placesN_succ, numsF_append, numsF_one]
        have H1 := Lib.hid h1
        clear h1
        have GTk := Lib.hid (GT.out k hlt)
        have hltI : (k : Int) < ((ns.length / 3 : Nat) : Int) := by omega
        go_wp2_with fail
        refine (GTk.out _ hbw1).mono ?_
        rintro e w2 ⟨rfl, hb2'⟩
        have kg2 := kg1.stay hb2'
        have kt2 := kt1.stay hb2'
        have kz2 := kz1.stay hb2'
        have hown2 := own_below hown1 hb2'
        have hb2 := b_trans hbw1 hb2'
        have zg2 := kg2.lt
        have hg3p : w2.heap.size ≠ g3 := by omega
        generalize placeAt 2 ns k = p at *
        have t0 := kt2.cell 0
        have t1 := kt2.cell 1
        have s2 := kg2.cell 2
        have gf := kg2.frozen
        simp at t0 t1 s2
        clear hb hb1 hbw1 hb2' kg kg1 kt kt1 kz kz1 hown hown1 kt0 kz0 hbw0
        go_wp2_with (first
          | (go_at_call 57; refine (I3.out _).mono ?_; rintro e w9 ⟨rfl, rfl⟩)
          | (go_at_call 58; refine (IM.out _).mono ?_; rintro e w9 ⟨rfl, rfl⟩)
          | (at_builtin; refine wpList_app slF (by rfl) _ _ (by rfl) w.heap.size (A := Ao) (n := n) (c := co) (xs := fl (numsF 2 (placesN 2 ns k))) (by rfl) (by repeat (first | exact hown2 | apply World.ownsRow.alloc)) (X := some ⟨w2.heap.size + 1, 0, none⟩) (m := 2) (cx := 2) (fl [p.x, p.y]) (by rfl) (by rfl) (cell1_blk (Blk.newAt _ _ _ (by simp)) 2) (fl_one _) (fun h => by cases h) (by unfold maxLen; omega) (by omega) (by have := hb2.size; simp at this ⊢; omega) ?_; intro A1 c1 v1 hown11 hgr1; have kg11 := ((kg2.alloc _).alloc _).grown hgr1 (own_other hown2 (kg2) (by decide)); have kt11 := ((kt2.alloc _).alloc _).grown hgr1 (own_other hown2 (kt2) (by decide)); have kz11 := ((kz2.alloc _).alloc _).grown hgr1 (own_other hown2 (kz2) (by decide)); have kp11 := ((Blk.newAt w2 91 #[.float .f64 p.x, .float .f64 p.y, .float .f64 p.z, .float .f64 p.m, .int .u8 2] rfl).alloc _).grown hgr1 (own_new hown2 (Nat.le_refl _)); have hb11 : Below w.heap.size w v1 := b_grown (b_alloc (b_alloc hb2 _) _) hgr1 (by have := hb2.size; simp at this ⊢; omega) (fun k hk => (hown2.lt k hk).1); have ho31 := own_other hown11 kg11 (by decide); have hown31 := own_set hown11 (p := ⟨g3, 2, none⟩) ho31 (.slice A1 (n + 2) c1); have kg31 := (kg11.set_ 2 (.slice A1 (n + 2) c1)); have kt31 := kt11.far (p := ⟨g3, 2, none⟩) hg3t (.slice A1 (n + 2) c1); have kz31 := kz11.far (p := ⟨g3, 2, none⟩) hg3z (.slice A1 (n + 2) c1); have kp31 := kp11.far (p := ⟨g3, 2, none⟩) hg3p (.slice A1 (n + 2) c1); have hb31 := b_set hb11 ⟨g3, 2, none⟩ hg3B (.slice A1 (n + 2) c1); have gz1 := kg11.cell 2; have gf1 := kg11.frozen; have gn1 := kg31.cell 2; have px1 := kp31.cell 0; have py1 := kp31.cell 1; have pz1 := kp31.cell 2; have pm1 := kp31.cell 3; have pt1 := kp31.cell 4; simp at gz1 gn1 px1 py1 pz1 pm1 pt1)
          | (at_builtin; refine wpList_app slF (by rfl) _ _ (by rfl) w.heap.size (A := A1) (n := (n + 2)) (c := c1) (xs := fl (numsF 2 (placesN 2 ns k)) ++ fl [p.x, p.y]) (by rfl) (by repeat (first | exact hown31 | apply World.ownsRow.alloc)) (X := some ⟨v1.heap.size, 0, none⟩) (m := 1) (cx := 1) (fl [p.m]) (by rfl) (by rfl) (cell1_blk (Blk.newAt _ _ _ (by simp)) 1) (fl_one _) (fun h => by cases h) (by unfold maxLen; omega) (by omega) (by have := hb31.size; simp at this ⊢; omega) ?_; intro A2 c2 v2 hown12 hgr2; have kg12 := (kg31.alloc _).grown hgr2 (own_other hown31 (kg31) (by decide)); have kt12 := (kt31.alloc _).grown hgr2 (own_other hown31 (kt31) (by decide)); have kz12 := (kz31.alloc _).grown hgr2 (own_other hown31 (kz31) (by decide)); have kp12 := (kp31.alloc _).grown hgr2 (own_other hown31 kp31 (by decide)); have hb12 : Below w.heap.size w v2 := b_grown (b_alloc hb31 _) hgr2 (by have := hb31.size; simp at this ⊢; omega) (fun k hk => (hown31.lt k hk).1); have ho32 := own_other hown12 kg12 (by decide); have hown32 := own_set hown12 (p := ⟨g3, 2, none⟩) ho32 (.slice A2 ((n + 2) + 1) c2); have kg32 := (kg12.set_ 2 (.slice A2 ((n + 2) + 1) c2)); have kt32 := kt12.far (p := ⟨g3, 2, none⟩) hg3t (.slice A2 ((n + 2) + 1) c2); have kz32 := kz12.far (p := ⟨g3, 2, none⟩) hg3z (.slice A2 ((n + 2) + 1) c2); have kp32 := kp12.far (p := ⟨g3, 2, none⟩) hg3p (.slice A2 ((n + 2) + 1) c2); have hb32 := b_set hb12 ⟨g3, 2, none⟩ hg3B (.slice A2 ((n + 2) + 1) c2); have gz2 := kg12.cell 2; have gf2 := kg12.frozen; have gn2 := kg32.cell 2; have px2 := kp32.cell 0; have py2 := kp32.cell 1; have pz2 := kp32.cell 2; have pm2 := kp32.cell 3; have pt2 := kp32.cell 4; simp at gz2 gn2 px2 py2 pz2 pm2 pt2))
        go_roundw
        case rel =>
          refine ⟨k + 1, _, A2, c2, by omega, by have := HN.out; unfold Hid; omega, by go_num, ?_, kg32, kt32, kz32, hb32⟩
          rw [H1.out]
          have := hown32
          simp only [← fl_append, List.append_assoc] at this
          exact this
        case measure => simp [intOf]; omega
      · obtain rfl : k = ns.length / 3 := by omega
        have h2 : placesF 2 ns = placesN 2 ns (ns.length / 3) := by unfold placesF; rw [show wd 2 = 3 from rfl]
        obtain ⟨f1, f2, f3⟩ := fs_of_own hown1
        rw [← h2] at f1 f2 f3
        have F2 := Lib.hid f2
        have ho := f3.off kz1 (by simp [noF])
        have hltI : ¬ (((ns.length / 3 : Nat) : Int) < ((ns.length / 3 : Nat) : Int)) := by omega
        clear f2 h2 kg kt kz hown HN
        go_wp2_with fail
        refine bodyPost_ret (v := .agg #[.int .i64 2, .int .i64 2, .slice Ao n co, .slice none 0 0]) (by simp [results, Try.results36, go_sem, u0, u1, u2, u3]) rfl ⟨⟨Ao, co, none, 0, ?_, ?_⟩, ?_⟩
        · unfold GV gCells
          rw [F2.out]; rfl
        · refine GM.of ?_ f1 (Nat.le_refl _) (Gs.nil _ _ _)
          exact ((((f3.set ho _ _).set ho _ _).set ho _ _).set ho _ _).up (by simp)
        · exact b_set (b_set (b_set (b_set hbw1 _ (Nat.le_succ _) _) _ (Nat.le_succ _) _) _ (Nat.le_succ _) _) _ (Nat.le_succ _) _
  · simp only [c0, c1, c2, c3, c4, wd0, wd1, wd2, wd3] at ct ln gt i3 im
    have CT := Lib.hid ct
    have LN := Lib.hid ln
    have GT := Lib.hid gt
    have I3 := Lib.hid i3
    have IM := Lib.hid im
    clear ct ln gt i3 im
    go_enter Try.func36, Try.ntmps36
    go_wp2_with fail
    refine (CT.out _).mono ?_
    rintro e w0 ⟨rfl, hb0⟩
    have kt0 := ((Blk.newAt w 55 #[.int .u8 3, .slice A ns.length c] rfl).alloc (.cells #[.int .i64 0, .int .i64 0, .slice none 0 0, .slice none 0 0] 26)).stay hb0
    have kz0 := (Blk.newAt (w.alloc (.cells #[.int .u8 3, .slice A ns.length c] 55)) 26 #[.int .i64 0, .int .i64 0, .slice none 0 0, .slice none 0 0] (n := w.heap.size + 1) (by simp)).stay hb0
    have hbw0 : Below w.heap.size w w0 := b_trans (b_alloc (b_alloc (Below.refl _ _) _) _) hb0
    have z0 := kz0.lt
    clear hb0
    go_wp2_with fail
    obtain ⟨g3, hg3⟩ : ∃ g3, g3 = w0.heap.size := ⟨_, rfl⟩
    have hg3t : w.heap.size ≠ g3 := by omega
    have hg3z : w.heap.size + 1 ≠ g3 := by omega
    have hg3B : w.heap.size ≤ g3 := by omega
    rw [← hg3]
    have HG3 := Lib.hid hg3
    clear hg3
    go_loopw [4] (fun i wr => ∃ (k n : Nat) (Ao : Option Addr) (co : Nat), k ≤ ns.length / 4 ∧ Hid (n = k * 4) ∧ i = .int .i64 k ∧ wr.ownsRow w.heap.size 66 1 (.slice Ao n co) n (fl (numsF 3 (placesN 3 ns k))) ∧ Blk wr g3 26 #[.int .i64 2, .int .i64 3, .slice Ao n co, .slice none 0 0] ∧ Blk wr w.heap.size 55 #[.int .u8 3, .slice A ns.length c] ∧ Blk wr (w.heap.size + 1) 26 #[.int .i64 0, .int .i64 0, .slice none 0 0, .slice none 0 0] ∧ Below w.heap.size w wr) (fun i _ => ns.length - (intOf i).toNat)
    case atStart =>
      refine ⟨0, 0, none, 0, Nat.zero_le _, rfl, rfl, World.ownsRow_nil _ _ _ _, ?_, kt0.alloc _, kz0.alloc _, b_alloc hbw0 _⟩
      exact Blk.newAt _ _ _ HG3.out
    case round =>
      obtain ⟨k, n, Ao, co, hk, HN, rfl, hown, kg, kt, kz, hb⟩ := hrel
      have hn' : n ≤ 400000 := by have := HN.out; omega
      have t0 := kt.cell 0
      have t1 := kt.cell 1
      have s0 := kg.cell 0
      have s1 := kg.cell 1
      have s2 := kg.cell 2
      have s3 := kg.cell 3
      have u0 := kz.cell 0
      have u1 := kz.cell 1
      have u2 := kz.cell 2
      have u3 := kz.cell 3
      have zf := kz.frozen
      have gf := kg.frozen
      simp at t0 t1 s0 s1 s2 s3 u0 u1 u2 u3
      have zg := kg.lt
      have zt := kt.lt
      go_wp2_with fail
      refine (LN.out _).mono ?_
      rintro e w1 ⟨rfl, hb1⟩
      have kg1 := kg.stay hb1
      have kt1 := kt.stay hb1
      have kz1 := kz.stay hb1
      have hown1 := own_below hown hb1
      have hbw1 := b_trans hb hb1
      have t0 := kt1.cell 0
      have t1 := kt1.cell 1
      have s0 := kg1.cell 0
      have s1 := kg1.cell 1
      have s2 := kg1.cell 2
      have s3 := kg1.cell 3
      have u0 := kz1.cell 0
      have u1 := kz1.cell 1
      have u2 := kz1.cell 2
      have u3 := kz1.cell 3
      have zf := kz1.frozen
      have gf := kg1.frozen
      simp at t0 t1 s0 s1 s2 s3 u0 u1 u2 u3
      by_cases hlt : k < ns.length / 4
      · have h1 : numsF 3 (placesN 3 ns (k + 1)) = numsF 3 (placesN 3 ns k) ++ numsOf 3 (placeAt 3 ns k) := by
          rw [placesN_succ, numsF_append, numsF_one]
        have H1 := Lib.hid h1
        clear h1
        have GTk := Lib.hid (GT.out k hlt)
        have hltI : (k : Int) < ((ns.length / 4 : Nat) : Int) := by omega
        go_wp2_with fail
        refine (GTk.out _ hbw1).mono ?_
        rintro e w2 ⟨rfl, hb2'⟩
        have kg2 := kg1.stay hb2'
        have kt2 := kt1.stay hb2'
        have kz2 := kz1.stay hb2'
        have hown2 := own_below hown1 hb2'
        have hb2 := b_trans hbw1 hb2'
        have zg2 := kg2.lt
        have hg3p : w2.heap.size ≠ g3 := by omega
        generalize placeAt 3 ns k = p at *
        have t0 := kt2.cell 0
        have t1 := kt2.cell 1
        have s2 := kg2.cell 2
        have gf := kg2.frozen
        simp at t0 t1 s2
        clear hb hb1 hbw1 hb2' kg kg1 kt kt1 kz kz1 hown hown1 kt0 kz0 hbw0
        go_wp2_with (first
          | (go_at_call 57; refine (I3.out _).mono ?_; rintro e w9 ⟨rfl, rfl⟩)
          | (go_at_call 58; refine (IM.out _).mono ?_; rintro e w9 ⟨rfl, rfl⟩)
          | (at_builtin; refine wpList_app slF (by rfl) _ _ (by rfl) w.heap.size (A := Ao) (n := n) (c := co) (xs := fl (numsF 3 (placesN 3 ns k))) (by rfl) (by repeat (first | exact hown2 | apply World.ownsRow.alloc)) (X := some ⟨w2.heap.size + 1, 0, none⟩) (m := 2) (cx := 2) (fl [p.x, p.y]) (by rfl) (by rfl) (cell1_blk (Blk.newAt _ _ _ (by simp)) 2) (fl_one _) (fun h => by cases h) (by unfold maxLen; omega) (by omega) (by have := hb2.size; simp at this ⊢; omega) ?_; intro A1 c1 v1 hown11 hgr1; have kg11 := ((kg2.alloc _).alloc _).grown hgr1 (own_other hown2 (kg2) (by decide)); have kt11 := ((kt2.alloc _).alloc _).grown hgr1 (own_other hown2 (kt2) (by decide)); have kz11 := ((kz2.alloc _).alloc _).grown hgr1 (own_other hown2 (kz2) (by decide)); have kp11 := ((Blk.newAt w2 91 #[.float .f64 p.x, .float .f64 p.y, .float .f64 p.z, .float .f64 p.m, .int .u8 3] rfl).alloc _).grown hgr1 (own_new hown2 (Nat.le_refl _)); have hb11 : Below w.heap.size w v1 := b_grown (b_alloc (b_alloc hb2 _) _) hgr1 (by have := hb2.size; simp at this ⊢; omega) (fun k hk => (hown2.lt k hk).1); have ho31 := own_other hown11 kg11 (by decide); have hown31 := own_set hown11 (p := ⟨g3, 2, none⟩) ho31 (.slice A1 (n + 2) c1); have kg31 := (kg11.set_ 2 (.slice A1 (n + 2) c1)); have kt31 := kt11.far (p := ⟨g3, 2, none⟩) hg3t (.slice A1 (n + 2) c1); have kz31 := kz11.far (p := ⟨g3, 2, none⟩) hg3z (.slice A1 (n + 2) c1); have kp31 := kp11.far (p := ⟨g3, 2, none⟩) hg3p (.slice A1 (n + 2) c1); have hb31 := b_set hb11 ⟨g3, 2, none⟩ hg3B (.slice A1 (n + 2) c1); have gz1 := kg11.cell 2; have gf1 := kg11.frozen; have gn1 := kg31.cell 2; have px1 := kp31.cell 0; have py1 := kp31.cell 1; have pz1 := kp31.cell 2; have pm1 := kp31.cell 3; have pt1 := kp31.cell 4; simp at gz1 gn1 px1 py1 pz1 pm1 pt1)
          | (at_builtin; refine wpList_app slF (by rfl) _ _ (by rfl) w.heap.size (A := A1) (n := (n + 2)) (c := c1) (xs := fl (numsF 3 (placesN 3 ns k)) ++ fl [p.x, p.y]) (by rfl) (by repeat (first | exact hown31 | apply World.ownsRow.alloc)) (X := some ⟨v1.heap.size, 0, none⟩) (m := 1) (cx := 1) (fl [p.z]) (by rfl) (by rfl) (cell1_blk (Blk.newAt _ _ _ (by simp)) 1) (fl_one _) (fun h => by cases h) (by unfold maxLen; omega) (by omega) (by have := hb31.size; simp at this ⊢; omega) ?_; intro A2 c2 v2 hown12 hgr2; have kg12 := (kg31.alloc _).grown hgr2 (own_other hown31 (kg31) (by decide)); have kt12 := (kt31.alloc _).grown hgr2 (own_other hown31 (kt31) (by decide)); have kz12 := (kz31.alloc _).grown hgr2 (own_other hown31 (kz31) (by decide)); have kp12 := (kp31.alloc _).grown hgr2 (own_other hown31 kp31 (by decide)); have hb12 : Below w.heap.size w v2 := b_grown (b_alloc hb31 _) hgr2 (by have := hb31.size; simp at this ⊢; omega) (fun k hk => (hown31.lt k hk).1); have ho32 := own_other hown12 kg12 (by decide); have hown32 := own_set hown12 (p := ⟨g3, 2, none⟩) ho32 (.slice A2 ((n + 2) + 1) c2); have kg32 := (kg12.set_ 2 (.slice A2 ((n + 2) + 1) c2)); have kt32 := kt12.far (p := ⟨g3, 2, none⟩) hg3t (.slice A2 ((n + 2) + 1) c2); have kz32 := kz12.far (p := ⟨g3, 2, none⟩) hg3z (.slice A2 ((n + 2) + 1) c2); have kp32 := kp12.far (p := ⟨g3, 2, none⟩) hg3p (.slice A2 ((n + 2) + 1) c2); have hb32 := b_set hb12 ⟨g3, 2, none⟩ hg3B (.slice A2 ((n + 2) + 1) c2); have gz2 := kg12.cell 2; have gf2 := kg12.frozen; have gn2 := kg32.cell 2; have px2 := kp32.cell 0; have py2 := kp32.cell 1; have pz2 := kp32.cell 2; have pm2 := kp32.cell 3; have pt2 := kp32.cell 4; simp at gz2 gn2 px2 py2 pz2 pm2 pt2)
          | (at_builtin; refine wpList_app slF (by rfl) _ _ (by rfl) w.heap.size (A := A2) (n := ((n + 2) + 1)) (c := c2) (xs := fl (numsF 3 (placesN 3 ns k)) ++ fl [p.x, p.y] ++ fl [p.z]) (by rfl) (by repeat (first | exact hown32 | apply World.ownsRow.alloc)) (X := some ⟨v2.heap.size, 0, none⟩) (m := 1) (cx := 1) (fl [p.m]) (by rfl) (by rfl) (cell1_blk (Blk.newAt _ _ _ (by simp)) 1) (fl_one _) (fun h => by cases h) (by unfold maxLen; omega) (by omega) (by have := hb32.size; simp at this ⊢; omega) ?_; intro A3 c3 v3 hown13 hgr3; have kg13 := (kg32.alloc _).grown hgr3 (own_other hown32 (kg32) (by decide)); have kt13 := (kt32.alloc _).grown hgr3 (own_other hown32 (kt32) (by decide)); have kz13 := (kz32.alloc _).grown hgr3 (own_other hown32 (kz32) (by decide)); have kp13 := (kp32.alloc _).grown hgr3 (own_other hown32 kp32 (by decide)); have hb13 : Below w.heap.size w v3 := b_grown (b_alloc hb32 _) hgr3 (by have := hb32.size; simp at this ⊢; omega) (fun k hk => (hown32.lt k hk).1); have ho33 := own_other hown13 kg13 (by decide); have hown33 := own_set hown13 (p := ⟨g3, 2, none⟩) ho33 (.slice A3 (((n + 2) + 1) + 1) c3); have kg33 := (kg13.set_ 2 (.slice A3 (((n + 2) + 1) + 1) c3)); have kt33 := kt13.far (p := ⟨g3, 2, none⟩) hg3t (.slice A3 (((n + 2) + 1) + 1) c3); have kz33 := kz13.far (p := ⟨g3, 2, none⟩) hg3z (.slice A3 (((n + 2) + 1) + 1) c3); have kp33 := kp13.far (p := ⟨g3, 2, none⟩) hg3p (.slice A3 (((n + 2) + 1) + 1) c3); have hb33 := b_set hb13 ⟨g3, 2, none⟩ hg3B (.slice A3 (((n + 2) + 1) + 1) c3); have gz3 := kg13.cell 2; have gf3 := kg13.frozen; have gn3 := kg33.cell 2; have px3 := kp33.cell 0; have py3 := kp33.cell 1; have pz3 := kp33.cell 2; have pm3 := kp33.cell 3; have pt3 := kp33.cell 4; simp at gz3 gn3 px3 py3 pz3 pm3 pt3))
        go_roundw
        case rel =>
          refine ⟨k + 1, _, A3, c3, by omega, by have := HN.out; unfold Hid; omega, by go_num, ?_, kg33, kt33, kz33, hb33⟩
          rw [H1.out]
          have := hown33
          simp only [← fl_append, List.append_assoc] at this
          exact this
        case measure => simp [intOf]; omega
      · obtain rfl : k = ns.length / 4 := by omega
        have h2 : placesF 3 ns = placesN 3 ns (ns.length / 4) := by unfold placesF; rw [show wd 3 = 4 from rfl]
        obtain ⟨f1, f2, f3⟩ := fs_of_own hown1
        rw [← h2] at f1 f2 f3
        have F2 := Lib.hid f2
        have ho := f3.off kz1 (by simp [noF])
        have hltI : ¬ (((ns.length / 4 : Nat) : Int) < ((ns.length / 4 : Nat) : Int)) := by omega
        clear f2 h2 kg kt kz hown HN
        go_wp2_with fail
        refine bodyPost_ret (v := .agg #[.int .i64 2, .int .i64 3, .slice Ao n co, .slice none 0 0]) (by simp [results, Try.results36, go_sem, u0, u1, u2, u3]) rfl ⟨⟨Ao, co, none, 0, ?_, ?_⟩, ?_⟩
        · unfold GV gCells
          rw [F2.out]; rfl
        · refine GM.of ?_ f1 (Nat.le_refl _) (Gs.nil _ _ _)
          exact ((((f3.set ho _ _).set ho _ _).set ho _ _).set ho _ _).up (by simp)
        · exact b_set (b_set (b_set (b_set hbw1 _ (Nat.le_succ _) _) _ (Nat.le_succ _) _) _ (Nat.le_succ _) _) _ (Nat.le_succ _) _
end Geo
end Go.Proofs.Ytllomldpbkeioaa
