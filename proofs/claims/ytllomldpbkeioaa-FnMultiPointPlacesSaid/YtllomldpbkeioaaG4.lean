/- Walks: numbers out of places; the same numbers. -/
import Derived.Test.YtllomldpbkeioaaG3
import Derived.Test.YtllomldpbkeioaaGX
import Derived.BigQuiet
namespace Go.Proofs.Ytllomldpbkeioaa
open Go.RowKit Go.Sort
namespace Geo
def fl (ns : List Nat) : List Value := ns.map (Value.float .f64)
theorem fl_append (a b : List Nat) : fl (a ++ b) = fl a ++ fl b := List.map_append ..
theorem fl_length (a : List Nat) : (fl a).length = a.length := List.length_map ..
theorem fl_one (ns : List Nat) : ∀ u ∈ fl ns, u.oneCell' = true := by
  intro u hu
  obtain ⟨x, _, rfl⟩ := List.mem_map.1 hu
  rfl
theorem fs_of_own {w : World} {B : Nat} {e : TypeId} {A : Option Addr} {n c : Nat} {ns : List Nat} (h : w.ownsRow B e 1 (.slice A n c) n (fl ns)) : ns.length ≤ c ∧ n = ns.length ∧ Fs w w.heap.size A ns := by
  have hl := h.1
  rw [fl_length] at hl
  refine ⟨?_, by omega, fun hne => ?_⟩
  · obtain ⟨A', c', e1, h1⟩ := own_shape h
    simp at e1
    omega
  · obtain ⟨b, e1, hlt, _, hc⟩ := own_lies h (fun e => hne (List.eq_nil_of_length_eq_zero (by rw [← fl_length, e]; rfl)))
    refine ⟨b, 0, e1, hlt, fun i hi => ?_⟩
    rw [Nat.zero_add, hc i (by rw [fl_length]; exact hi)]
    simp [fl]
theorem fx_of_own {w : World} {B : Nat} {e : TypeId} {A : Option Addr} {n c : Nat} {ns : List Nat} (h : w.ownsRow B e 1 (.slice A n c) n (fl ns)) : FX w (Fr B w) A ns := by
  intro hne
  obtain ⟨b, e1, hlt, hB, hc⟩ := own_lies h (fun e => hne (List.eq_nil_of_length_eq_zero (by rw [← fl_length, e]; rfl)))
  refine ⟨b, 0, e1, ⟨hB, hlt⟩, fun i hi => ?_⟩
  rw [Nat.zero_add, hc i (by rw [fl_length]; exact hi)]
  simp [fl]
/-- rows of other types lie apart -/
theorem own_other {w : World} {B : Nat} {e t : TypeId} {size : Nat} {v : Value} {n : Nat} {xs : List Value} (h : w.ownsRow B e size v n xs) {g : Nat} {cs : Array Value} (hb : Blk w g t cs) (hne : e ≠ t) : some g ≠ v.ownBlock := by
  intro heq
  rcases h.2 with ⟨rfl, _⟩ | ⟨g', cap, cur, rfl, _, hg, _⟩
  · simp [Value.ownBlock] at heq
  · simp [Value.ownBlock] at heq
    subst heq
    unfold Blk at hb
    rw [hb] at hg
    simp at hg
    exact hne hg.2.symm
theorem own_new {w : World} {B : Nat} {e : TypeId} {size : Nat} {v : Value} {n : Nat} {xs : List Value} (h : w.ownsRow B e size v n xs) {g : Nat} (hg : w.heap.size ≤ g) : some g ≠ v.ownBlock := by
  intro heq
  have := (h.lt g heq.symm).2
  omega
set_option maxHeartbeats 4000000 in
theorem nums_anyz (d : Nat) (hd : d < 4) (ps : List P4) (A : Option Addr) (c : Nat) (hm : ps.length ≤ 2000) (w : World) (hA : Ps w w.heap.size A ps) :
    Calls Try.prog 16 #[.slice A ps.length c, .int .i64 d] w fun r w' => FRz w.heap.size (numsF d ps) r w' ∧ Below w.heap.size w w' := by
  rcases four hd with rfl | rfl | rfl | rfl
  · rw [show ((0 : Nat) : Int) = 0 from rfl]
    go_enter Try.func16, Try.ntmps16
    go_wp2
    go_loopw [5, 10] (fun lv i wr => ∃ (k n : Nat) (Ao : Option Addr) (co : Nat), k ≤ ps.length ∧ n = k * 2 ∧ lv = .slice Ao n co ∧ i = .int .i64 k ∧ wr.ownsRow w.heap.size 66 1 (.slice Ao n co) n (fl (numsF 0 (ps.take k))) ∧ Below w.heap.size w wr) (fun _ i _ => ps.length - (intOf i).toNat)
    case atStart => exact ⟨0, 0, none, 0, Nat.zero_le _, rfl, rfl, rfl, World.ownsRow_nil _ _ _ _, Below.refl _ _⟩
    case round =>
      obtain ⟨k, n, Ao, co, hk, hn, rfl, rfl, hown, hb⟩ := hrel
      have HN := Lib.hid hn
      have hn' : n ≤ 8000 := by omega
      clear hn
      by_cases hlt : k < ps.length
      · obtain ⟨b, off, rfl, hbl, hc⟩ := hA (by intro h; subst h; simp at hlt)
        obtain ⟨c0, c1, c2, c3⟩ := hc k hlt
        rw [← hb.cell (p := ⟨b, _, none⟩) hbl] at c0 c1 c2 c3
        have h1 : numsF 0 (ps.take (k + 1)) = numsF 0 (ps.take k) ++ numsOf 0 ps[k] := by
          rw [List.take_succ_eq_append_getElem hlt, numsF_append, numsF_one]
        have hbz : b < wr.heap.size := Nat.lt_of_lt_of_le hbl hb.size
        generalize ps[k] = p at *
        obtain ⟨x, y, z, m⟩ := p
        simp only at c0 c1 c2 c3
        have H1 := Lib.hid h1
        clear h1
        go_wp2_with (first
          | (at_builtin; refine wpList_app slF (by rfl) _ _ (by rfl) w.heap.size (A := Ao) (n := n) (c := co) (xs := fl (numsF 0 (ps.take k))) (by rfl) (by repeat (first | exact hown | apply World.ownsRow.alloc | apply own_drew | apply own_drewN)) (X := some ⟨wr.heap.size + 1, 0, none⟩) (m := 2) (cx := 2) (fl [x, y]) (by rfl) (by rfl) (cell1_blk (Blk.newAt _ _ _ (by simp)) 2) (fl_one _) (fun h => by cases h) (by unfold maxLen; omega) (by omega) (by have := hb.size; simp; omega) ?_; intro A1 c1 w1 hown1 hgr1; have kp1 := ((Blk.newAt wr 68 #[.float .f64 x, .float .f64 y, .float .f64 z, .float .f64 m] rfl).alloc _).grown hgr1 (own_new hown (Nat.le_refl _)); have qx1 := kp1.cell 0; have qy1 := kp1.cell 1; have qz1 := kp1.cell 2; have qm1 := kp1.cell 3; simp at qx1 qy1 qz1 qm1; have hb1 : Below w.heap.size w w1 := b_grown (b_alloc (b_alloc hb _) _) hgr1 (by have := hb.size; simp; omega) (fun k hk => (hown.lt k hk).1)))
        go_roundw
        case rel =>
          refine ⟨k + 1, _, A1, c1, by omega, by have := HN.out; omega, rfl, by go_num, ?_, hb1⟩
          rw [H1.out]
          have := hown1
          simp only [← fl_append, List.append_assoc] at this
          exact this
        case measure => simp [intOf]; omega
      · obtain rfl : k = ps.length := by omega
        rw [List.take_length] at hown
        obtain ⟨f1, f2, _⟩ := fs_of_own hown
        have f3 := fx_of_own hown
        have F2 := Lib.hid f2
        clear f2
        go_wp2
        go_ret
        refine ⟨⟨Ao, co, ?_, f1, f3⟩, hb⟩
        rw [← F2.out]; rfl
  · rw [show ((1 : Nat) : Int) = 1 from rfl]
    go_enter Try.func16, Try.ntmps16
    go_wp2
    go_loopw [5, 10] (fun lv i wr => ∃ (k n : Nat) (Ao : Option Addr) (co : Nat), k ≤ ps.length ∧ n = k * 3 ∧ lv = .slice Ao n co ∧ i = .int .i64 k ∧ wr.ownsRow w.heap.size 66 1 (.slice Ao n co) n (fl (numsF 1 (ps.take k))) ∧ Below w.heap.size w wr) (fun _ i _ => ps.length - (intOf i).toNat)
    case atStart => exact ⟨0, 0, none, 0, Nat.zero_le _, rfl, rfl, rfl, World.ownsRow_nil _ _ _ _, Below.refl _ _⟩
    case round =>
      obtain ⟨k, n, Ao, co, hk, hn, rfl, rfl, hown, hb⟩ := hrel
      have HN := Lib.hid hn
      have hn' : n ≤ 8000 := by omega
      clear hn
      by_cases hlt : k < ps.length
      · obtain ⟨b, off, rfl, hbl, hc⟩ := hA (by intro h; subst h; simp at hlt)
        obtain ⟨c0, c1, c2, c3⟩ := hc k hlt
        rw [← hb.cell (p := ⟨b, _, none⟩) hbl] at c0 c1 c2 c3
        have h1 : numsF 1 (ps.take (k + 1)) = numsF 1 (ps.take k) ++ numsOf 1 ps[k] := by
          rw [List.take_succ_eq_append_getElem hlt, numsF_append, numsF_one]
        have hbz : b < wr.heap.size := Nat.lt_of_lt_of_le hbl hb.size
        generalize ps[k] = p at *
        obtain ⟨x, y, z, m⟩ := p
        simp only at c0 c1 c2 c3
        have H1 := Lib.hid h1
        clear h1
        go_wp2_with (first
          | (at_builtin; refine wpList_app slF (by rfl) _ _ (by rfl) w.heap.size (A := Ao) (n := n) (c := co) (xs := fl (numsF 1 (ps.take k))) (by rfl) (by repeat (first | exact hown | apply World.ownsRow.alloc | apply own_drew | apply own_drewN)) (X := some ⟨wr.heap.size + 1, 0, none⟩) (m := 2) (cx := 2) (fl [x, y]) (by rfl) (by rfl) (cell1_blk (Blk.newAt _ _ _ (by simp)) 2) (fl_one _) (fun h => by cases h) (by unfold maxLen; omega) (by omega) (by have := hb.size; simp; omega) ?_; intro A1 c1 w1 hown1 hgr1; have kp1 := ((Blk.newAt wr 68 #[.float .f64 x, .float .f64 y, .float .f64 z, .float .f64 m] rfl).alloc _).grown hgr1 (own_new hown (Nat.le_refl _)); have qx1 := kp1.cell 0; have qy1 := kp1.cell 1; have qz1 := kp1.cell 2; have qm1 := kp1.cell 3; simp at qx1 qy1 qz1 qm1; have hb1 : Below w.heap.size w w1 := b_grown (b_alloc (b_alloc hb _) _) hgr1 (by have := hb.size; simp; omega) (fun k hk => (hown.lt k hk).1))
          | (at_builtin; refine wpList_app slF (by rfl) _ _ (by rfl) w.heap.size (A := A1) (n := (n + 2)) (c := c1) (xs := fl (numsF 1 (ps.take k)) ++ fl [x, y]) (by rfl) (by repeat (first | exact hown1 | apply World.ownsRow.alloc | apply own_drew | apply own_drewN)) (X := some ⟨w1.heap.size, 0, none⟩) (m := 1) (cx := 1) (fl [z]) (by rfl) (by rfl) (cell1_blk (Blk.newAt _ _ _ (by simp)) 1) (fl_one _) (fun h => by cases h) (by unfold maxLen; omega) (by omega) (by have := hb1.size; simp; omega) ?_; intro A2 c2 w2 hown2 hgr2; have kp2 := (kp1.alloc _).grown hgr2 (own_other hown1 kp1 (by decide)); have qx2 := kp2.cell 0; have qy2 := kp2.cell 1; have qz2 := kp2.cell 2; have qm2 := kp2.cell 3; simp at qx2 qy2 qz2 qm2; have hb2 : Below w.heap.size w w2 := b_grown (b_alloc hb1 _) hgr2 (by have := hb1.size; simp; omega) (fun k hk => (hown1.lt k hk).1)))
        go_roundw
        case rel =>
          refine ⟨k + 1, _, A2, c2, by omega, by have := HN.out; omega, rfl, by go_num, ?_, hb2⟩
          rw [H1.out]
          have := hown2
          simp only [← fl_append, List.append_assoc] at this
          exact this
        case measure => simp [intOf]; omega
      · obtain rfl : k = ps.length := by omega
        rw [List.take_length] at hown
        obtain ⟨f1, f2, _⟩ := fs_of_own hown
        have f3 := fx_of_own hown
        have F2 := Lib.hid f2
        clear f2
        go_wp2
        go_ret
        refine ⟨⟨Ao, co, ?_, f1, f3⟩, hb⟩
        rw [← F2.out]; rfl
  · rw [show ((2 : Nat) : Int) = 2 from rfl]
    go_enter Try.func16, Try.ntmps16
    go_wp2
    go_loopw [5, 10] (fun lv i wr => ∃ (k n : Nat) (Ao : Option Addr) (co : Nat), k ≤ ps.length ∧ n = k * 3 ∧ lv = .slice Ao n co ∧ i = .int .i64 k ∧ wr.ownsRow w.heap.size 66 1 (.slice Ao n co) n (fl (numsF 2 (ps.take k))) ∧ Below w.heap.size w wr) (fun _ i _ => ps.length - (intOf i).toNat)
    case atStart => exact ⟨0, 0, none, 0, Nat.zero_le _, rfl, rfl, rfl, World.ownsRow_nil _ _ _ _, Below.refl _ _⟩
    case round =>
      obtain ⟨k, n, Ao, co, hk, hn, rfl, rfl, hown, hb⟩ := hrel
      have HN := Lib.hid hn
      have hn' : n ≤ 8000 := by omega
      clear hn
      by_cases hlt : k < ps.length
      · obtain ⟨b, off, rfl, hbl, hc⟩ := hA (by intro h; subst h; simp at hlt)
        obtain ⟨c0, c1, c2, c3⟩ := hc k hlt
        rw [← hb.cell (p := ⟨b, _, none⟩) hbl] at c0 c1 c2 c3
        have h1 : numsF 2 (ps.take (k + 1)) = numsF 2 (ps.take k) ++ numsOf 2 ps[k] := by
          rw [List.take_succ_eq_append_getElem hlt, numsF_append, numsF_one]
        have hbz : b < wr.heap.size := Nat.lt_of_lt_of_le hbl hb.size
        generalize ps[k] = p at *
        obtain ⟨x, y, z, m⟩ := p
        simp only at c0 c1 c2 c3
        have H1 := Lib.hid h1
        clear h1
        go_wp2_with (first
          | (at_builtin; refine wpList_app slF (by rfl) _ _ (by rfl) w.heap.size (A := Ao) (n := n) (c := co) (xs := fl (numsF 2 (ps.take k))) (by rfl) (by repeat (first | exact hown | apply World.ownsRow.alloc | apply own_drew | apply own_drewN)) (X := some ⟨wr.heap.size + 1, 0, none⟩) (m := 2) (cx := 2) (fl [x, y]) (by rfl) (by rfl) (cell1_blk (Blk.newAt _ _ _ (by simp)) 2) (fl_one _) (fun h => by cases h) (by unfold maxLen; omega) (by omega) (by have := hb.size; simp; omega) ?_; intro A1 c1 w1 hown1 hgr1; have kp1 := ((Blk.newAt wr 68 #[.float .f64 x, .float .f64 y, .float .f64 z, .float .f64 m] rfl).alloc _).grown hgr1 (own_new hown (Nat.le_refl _)); have qx1 := kp1.cell 0; have qy1 := kp1.cell 1; have qz1 := kp1.cell 2; have qm1 := kp1.cell 3; simp at qx1 qy1 qz1 qm1; have hb1 : Below w.heap.size w w1 := b_grown (b_alloc (b_alloc hb _) _) hgr1 (by have := hb.size; simp; omega) (fun k hk => (hown.lt k hk).1))
          | (at_builtin; refine wpList_app slF (by rfl) _ _ (by rfl) w.heap.size (A := A1) (n := (n + 2)) (c := c1) (xs := fl (numsF 2 (ps.take k)) ++ fl [x, y]) (by rfl) (by repeat (first | exact hown1 | apply World.ownsRow.alloc | apply own_drew | apply own_drewN)) (X := some ⟨w1.heap.size, 0, none⟩) (m := 1) (cx := 1) (fl [m]) (by rfl) (by rfl) (cell1_blk (Blk.newAt _ _ _ (by simp)) 1) (fl_one _) (fun h => by cases h) (by unfold maxLen; omega) (by omega) (by have := hb1.size; simp; omega) ?_; intro A2 c2 w2 hown2 hgr2; have kp2 := (kp1.alloc _).grown hgr2 (own_other hown1 kp1 (by decide)); have qx2 := kp2.cell 0; have qy2 := kp2.cell 1; have qz2 := kp2.cell 2; have qm2 := kp2.cell 3; simp at qx2 qy2 qz2 qm2; have hb2 : Below w.heap.size w w2 := b_grown (b_alloc hb1 _) hgr2 (by have := hb1.size; simp; omega) (fun k hk => (hown1.lt k hk).1)))
        go_roundw
        case rel =>
          refine ⟨k + 1, _, A2, c2, by omega, by have := HN.out; omega, rfl, by go_num, ?_, hb2⟩
          rw [H1.out]
          have := hown2
          simp only [← fl_append, List.append_assoc] at this
          exact this
        case measure => simp [intOf]; omega
      · obtain rfl : k = ps.length := by omega
        rw [List.take_length] at hown
        obtain ⟨f1, f2, _⟩ := fs_of_own hown
        have f3 := fx_of_own hown
        have F2 := Lib.hid f2
        clear f2
        go_wp2
        go_ret
        refine ⟨⟨Ao, co, ?_, f1, f3⟩, hb⟩
        rw [← F2.out]; rfl
  · rw [show ((3 : Nat) : Int) = 3 from rfl]
    go_enter Try.func16, Try.ntmps16
    go_wp2
    go_loopw [5, 10] (fun lv i wr => ∃ (k n : Nat) (Ao : Option Addr) (co : Nat), k ≤ ps.length ∧ n = k * 4 ∧ lv = .slice Ao n co ∧ i = .int .i64 k ∧ wr.ownsRow w.heap.size 66 1 (.slice Ao n co) n (fl (numsF 3 (ps.take k))) ∧ Below w.heap.size w wr) (fun _ i _ => ps.length - (intOf i).toNat)
    case atStart => exact ⟨0, 0, none, 0, Nat.zero_le _, rfl, rfl, rfl, World.ownsRow_nil _ _ _ _, Below.refl _ _⟩
    case round =>
      obtain ⟨k, n, Ao, co, hk, hn, rfl, rfl, hown, hb⟩ := hrel
      have HN := Lib.hid hn
      have hn' : n ≤ 8000 := by omega
      clear hn
      by_cases hlt : k < ps.length
      · obtain ⟨b, off, rfl, hbl, hc⟩ := hA (by intro h; subst h; simp at hlt)
        obtain ⟨c0, c1, c2, c3⟩ := hc k hlt
        rw [← hb.cell (p := ⟨b, _, none⟩) hbl] at c0 c1 c2 c3
        have h1 : numsF 3 (ps.take (k + 1)) = numsF 3 (ps.take k) ++ numsOf 3 ps[k] := by
          rw [List.take_succ_eq_append_getElem hlt, numsF_append, numsF_one]
        have hbz : b < wr.heap.size := Nat.lt_of_lt_of_le hbl hb.size
        generalize ps[k] = p at *
        obtain ⟨x, y, z, m⟩ := p
        simp only at c0 c1 c2 c3
        have H1 := Lib.hid h1
        clear h1
        go_wp2_with (first
          | (at_builtin; refine wpList_app slF (by rfl) _ _ (by rfl) w.heap.size (A := Ao) (n := n) (c := co) (xs := fl (numsF 3 (ps.take k))) (by rfl) (by repeat (first | exact hown | apply World.ownsRow.alloc | apply own_drew | apply own_drewN)) (X := some ⟨wr.heap.size + 1, 0, none⟩) (m := 2) (cx := 2) (fl [x, y]) (by rfl) (by rfl) (cell1_blk (Blk.newAt _ _ _ (by simp)) 2) (fl_one _) (fun h => by cases h) (by unfold maxLen; omega) (by omega) (by have := hb.size; simp; omega) ?_; intro A1 c1 w1 hown1 hgr1; have kp1 := ((Blk.newAt wr 68 #[.float .f64 x, .float .f64 y, .float .f64 z, .float .f64 m] rfl).alloc _).grown hgr1 (own_new hown (Nat.le_refl _)); have qx1 := kp1.cell 0; have qy1 := kp1.cell 1; have qz1 := kp1.cell 2; have qm1 := kp1.cell 3; simp at qx1 qy1 qz1 qm1; have hb1 : Below w.heap.size w w1 := b_grown (b_alloc (b_alloc hb _) _) hgr1 (by have := hb.size; simp; omega) (fun k hk => (hown.lt k hk).1))
          | (at_builtin; refine wpList_app slF (by rfl) _ _ (by rfl) w.heap.size (A := A1) (n := (n + 2)) (c := c1) (xs := fl (numsF 3 (ps.take k)) ++ fl [x, y]) (by rfl) (by repeat (first | exact hown1 | apply World.ownsRow.alloc | apply own_drew | apply own_drewN)) (X := some ⟨w1.heap.size, 0, none⟩) (m := 1) (cx := 1) (fl [z]) (by rfl) (by rfl) (cell1_blk (Blk.newAt _ _ _ (by simp)) 1) (fl_one _) (fun h => by cases h) (by unfold maxLen; omega) (by omega) (by have := hb1.size; simp; omega) ?_; intro A2 c2 w2 hown2 hgr2; have kp2 := (kp1.alloc _).grown hgr2 (own_other hown1 kp1 (by decide)); have qx2 := kp2.cell 0; have qy2 := kp2.cell 1; have qz2 := kp2.cell 2; have qm2 := kp2.cell 3; simp at qx2 qy2 qz2 qm2; have hb2 : Below w.heap.size w w2 := b_grown (b_alloc hb1 _) hgr2 (by have := hb1.size; simp; omega) (fun k hk => (hown1.lt k hk).1))
          | (at_builtin; refine wpList_app slF (by rfl) _ _ (by rfl) w.heap.size (A := A2) (n := ((n + 2) + 1)) (c := c2) (xs := fl (numsF 3 (ps.take k)) ++ fl [x, y] ++ fl [z]) (by rfl) (by repeat (first | exact hown2 | apply World.ownsRow.alloc | apply own_drew | apply own_drewN)) (X := some ⟨w2.heap.size, 0, none⟩) (m := 1) (cx := 1) (fl [m]) (by rfl) (by rfl) (cell1_blk (Blk.newAt _ _ _ (by simp)) 1) (fl_one _) (fun h => by cases h) (by unfold maxLen; omega) (by omega) (by have := hb2.size; simp; omega) ?_; intro A3 c3 w3 hown3 hgr3; have kp3 := (kp2.alloc _).grown hgr3 (own_other hown2 kp2 (by decide)); have qx3 := kp3.cell 0; have qy3 := kp3.cell 1; have qz3 := kp3.cell 2; have qm3 := kp3.cell 3; simp at qx3 qy3 qz3 qm3; have hb3 : Below w.heap.size w w3 := b_grown (b_alloc hb2 _) hgr3 (by have := hb2.size; simp; omega) (fun k hk => (hown2.lt k hk).1)))
        go_roundw
        case rel =>
          refine ⟨k + 1, _, A3, c3, by omega, by have := HN.out; omega, rfl, by go_num, ?_, hb3⟩
          rw [H1.out]
          have := hown3
          simp only [← fl_append, List.append_assoc] at this
          exact this
        case measure => simp [intOf]; omega
      · obtain rfl : k = ps.length := by omega
        rw [List.take_length] at hown
        obtain ⟨f1, f2, _⟩ := fs_of_own hown
        have f3 := fx_of_own hown
        have F2 := Lib.hid f2
        clear f2
        go_wp2
        go_ret
        refine ⟨⟨Ao, co, ?_, f1, f3⟩, hb⟩
        rw [← F2.out]; rfl
theorem nums_any (d : Nat) (hd : d < 4) (ps : List P4) (A : Option Addr) (c : Nat) (hm : ps.length ≤ 2000) (w : World) (hA : Ps w w.heap.size A ps) :
    Calls Try.prog 16 #[.slice A ps.length c, .int .i64 d] w fun r w' => FsR (numsF d ps) r w' ∧ Below w.heap.size w w' :=
  (nums_anyz d hd ps A c hm w hA).mono fun _ _ ⟨⟨A', c', h1, h2, h3⟩, hb⟩ => ⟨⟨A', c', h1, h2, h3.fs Fr.lt⟩, hb⟩
end Geo
end Go.Proofs.Ytllomldpbkeioaa

