/- Walks: places out of numbers, numbers out of places. -/
import Derived.Test.YtllomldpbkeioaaG2
import Derived.Test.YtllomldpbkeioaaApp
namespace Go.Proofs.Ytllomldpbkeioaa
open Go.RowKit Go.Sort
namespace Geo
theorem slF : SL Try.prog 24 66 (.float .f64 0) 1 8 := ⟨Try.underlying24, info_parts (by kernel_rfl), rfl, by decide⟩
theorem slP : SL Try.prog 31 68 (.agg #[.float .f64 0, .float .f64 0, .float .f64 0, .float .f64 0]) 4 32 := ⟨Try.underlying31, info_parts (by kernel_rfl), rfl, by decide⟩
def pcell (p : P4) : List Value := [.float .f64 p.x, .float .f64 p.y, .float .f64 p.z, .float .f64 p.m]
def pcells (ps : List P4) : List Value := ps.flatMap pcell
theorem pcells_snoc (ps : List P4) (p : P4) : pcells (ps ++ [p]) = pcells ps ++ pcell p := by unfold pcells; rw [List.flatMap_append]; simp
theorem pcells_length (ps : List P4) : (pcells ps).length = ps.length * 4 := by
  unfold pcells
  induction ps with
  | nil => rfl
  | cons p ps ih => rw [List.flatMap_cons, List.length_append, ih, List.length_cons]; simp [pcell]; omega
theorem pcells_get (ps : List P4) : ∀ (i : Nat) (h : i < ps.length) (r : Nat), r < 4 → (pcells ps)[i * 4 + r]? = (pcell ps[i])[r]? := by
  unfold pcells
  induction ps with
  | nil => intro i h; simp at h
  | cons p ps ih =>
    intro i h r hr
    rw [List.flatMap_cons]
    cases i with
    | zero => rw [List.getElem?_append_left (by simp [pcell]; omega)]; simp
    | succ i =>
      rw [List.getElem?_append_right (by simp [pcell]; omega), show (i + 1) * 4 + r - (pcell p).length = i * 4 + r by simp [pcell]; omega]
      exact ih i (by simpa using h) r hr
theorem ps_of_own {w : World} {B : Nat} {e : TypeId} {A : Option Addr} {n c : Nat} {ps : List P4} (h : w.ownsRow B e 4 (.slice A n c) n (pcells ps)) : Ps w w.heap.size A ps := by
  intro hne
  have hl := pcells_length ps
  have hpos : 0 < ps.length := List.length_pos_iff.2 hne
  obtain ⟨b, e1, hlt, _, hc⟩ := own_lies h (fun e => by rw [e] at hl; simp at hl; omega)
  refine ⟨b, 0, e1, hlt, fun i hi => ?_⟩
  have key : ∀ r, r < 4 → w.cell? ⟨b, 0 + i * 4 + r, none⟩ = (pcell ps[i])[r]? := by
    intro r hr
    rw [Nat.zero_add, hc _ (by omega), ← pcells_get ps i hi r hr, List.getElem?_eq_getElem]
  exact ⟨key 0 (by omega), key 1 (by omega), key 2 (by omega), key 3 (by omega)⟩
def PsR (ps : List P4) (r : Ending) (w' : World) : Prop := ∃ A c, r = .returned (.slice A ps.length c) ∧ Ps w' w'.heap.size A ps
def FsR (ns : List Nat) (r : Ending) (w' : World) : Prop := ∃ A c, r = .returned (.slice A ns.length c) ∧ ns.length ≤ c ∧ Fs w' w'.heap.size A ns
theorem pcell_one (p : P4) : ∀ u ∈ pcell p, u.oneCell' = true := by
  intro u hu
  simp [pcell] at hu
  rcases hu with rfl | rfl | rfl | rfl <;> rfl
set_option maxHeartbeats 4000000 in
theorem places_any (d : Nat) (hd : d < 4) (ns : List Nat) (A : Option Addr) (c : Nat) (hm : ns.length ≤ 2000) (w : World) (hA : Fs w w.heap.size A ns) :
    Calls Try.prog 37 #[.slice A ns.length c, .int .i64 d] w fun r w' => PsR (placesF d ns) r w' ∧ Below w.heap.size w w' := by
  have cw := width_any d hd
  rcases four hd with rfl | rfl | rfl | rfl
  · have e0 : wd 0 = 2 := rfl
    rw [e0] at cw
    have CW := Lib.hid cw
    clear cw
    go_enter Try.func37, Try.ntmps37
    go_wp2_with (go_at_call 31; refine (CW.out _).mono ?_; rintro e w1 ⟨rfl, rfl⟩)
    go_loopw [5, 7] (fun lv i wr => ∃ (k : Nat) (Ao : Option Addr) (co : Nat), k ≤ ns.length / 2 ∧ lv = .slice Ao k co ∧ i = .int .i64 ((k * 2 : Nat) : Int) ∧ wr.ownsRow w.heap.size 68 4 (.slice Ao k co) k (pcells (placesN 0 ns k)) ∧ Below w.heap.size w wr) (fun _ i _ => ns.length - (intOf i).toNat)
    case atStart => exact ⟨0, none, 0, Nat.zero_le _, rfl, rfl, World.ownsRow_nil _ _ _ _, Below.refl _ _⟩
    case round =>
      obtain ⟨k, Ao, co, hk, rfl, rfl, hown, hb⟩ := hrel
      by_cases hlt : k < ns.length / 2
      · obtain ⟨b, off, rfl, hbl, hc⟩ := hA (by intro h; subst h; simp at hlt)
        have cx := hc (k * 2) (by omega)
        rw [← hb.cell (p := ⟨b, _, none⟩) hbl] at cx
        have cy := hc (k * 2 + 1) (by omega)
        rw [← hb.cell (p := ⟨b, _, none⟩) hbl] at cy
        have h1 : placesN 0 ns (k + 1) = placesN 0 ns k ++ [⟨ns[k * 2], ns[k * 2 + 1], 0, 0⟩] := by
          rw [placesN_succ]; congr 2; unfold placeAt; rw [e0, getD_in' (by omega), getD_in' (by omega)]; rfl
        generalize ns[k * 2] = x at *
        generalize ns[k * 2 + 1] = y at *
        have hbz : b < wr.heap.size := Nat.lt_of_lt_of_le hbl hb.size
        have g1 : (0 : Int) ≤ ((k * 2 : Nat) : Int) := by omega
        have g2 : ((k * 2 : Nat) : Int) + 0 < (ns.length : Int) := by omega
        have g3 : ((k * 2 : Nat) : Int) + 1 < (ns.length : Int) := by omega
        have g9 : ((k * 2 : Nat) : Int) + 2 ≤ (ns.length : Int) := by omega
        go_wp2
        go_region
        go_wp2_with (at_builtin; refine wpList_app slP (by rfl) _ _ (by rfl) w.heap.size (A := Ao) (n := k) (c := co) (xs := pcells (placesN 0 ns k)) (by rfl) (by repeat (first | exact hown | apply World.ownsRow.alloc | apply own_drew | apply own_drewN | refine own_set ?_ (by have := hown.lt; intro e; have := (hown.lt _ e.symm).2; simp at this) _)) (X := some ⟨wr.heap.size + 1, 0, none⟩) (m := 1) (cx := 1) (pcell ⟨x, y, 0, 0⟩) (by rfl) (by rfl) (cell1_blk (Blk.newAt _ _ _ (by simp)) 1) (pcell_one _) (fun h => by cases h) (by unfold maxLen; omega) (by omega) (by have := hb.size; simp; omega) ?_; intro A1 c1' w1 hown1 hgr)
        go_roundw
        case rel =>
          refine ⟨k + 1, A1, c1', by omega, rfl, by congr 1; omega, by rw [h1, pcells_snoc]; exact hown1, ?_⟩
          refine b_grown ?_ hgr (by have := hb.size; simp; omega) (fun k hk => (hown.lt k hk).1)
          repeat (first | with_reducible exact hb | with_reducible refine b_drew ?_ | with_reducible refine b_alloc ?_ _ | with_reducible refine b_set ?_ _ hb.size _)
        case measure => simp [intOf]; omega
      · obtain rfl : k = ns.length / 2 := by omega
        have g9 : ¬ ((ns.length / 2 * 2 : Nat) : Int) + 2 ≤ (ns.length : Int) := by omega
        have h2 : Hid (placesF 0 ns = placesN 0 ns (ns.length / 2)) := by unfold Hid placesF; rw [e0]
        go_wp2
        go_ret
        have h2 := h2.out
        refine ⟨⟨Ao, co, ?_, ?_⟩, hb⟩
        · rw [h2, placesN_length]; rfl
        · rw [h2]; exact ps_of_own hown
  · have e0 : wd 1 = 3 := rfl
    rw [e0] at cw
    have CW := Lib.hid cw
    clear cw
    go_enter Try.func37, Try.ntmps37
    go_wp2_with (go_at_call 31; refine (CW.out _).mono ?_; rintro e w1 ⟨rfl, rfl⟩)
    go_loopw [5, 7] (fun lv i wr => ∃ (k : Nat) (Ao : Option Addr) (co : Nat), k ≤ ns.length / 3 ∧ lv = .slice Ao k co ∧ i = .int .i64 ((k * 3 : Nat) : Int) ∧ wr.ownsRow w.heap.size 68 4 (.slice Ao k co) k (pcells (placesN 1 ns k)) ∧ Below w.heap.size w wr) (fun _ i _ => ns.length - (intOf i).toNat)
    case atStart => exact ⟨0, none, 0, Nat.zero_le _, rfl, rfl, World.ownsRow_nil _ _ _ _, Below.refl _ _⟩
    case round =>
      obtain ⟨k, Ao, co, hk, rfl, rfl, hown, hb⟩ := hrel
      by_cases hlt : k < ns.length / 3
      · obtain ⟨b, off, rfl, hbl, hc⟩ := hA (by intro h; subst h; simp at hlt)
        have cx := hc (k * 3) (by omega)
        rw [← hb.cell (p := ⟨b, _, none⟩) hbl] at cx
        have cy := hc (k * 3 + 1) (by omega)
        rw [← hb.cell (p := ⟨b, _, none⟩) hbl] at cy
        have cz := hc (k * 3 + 2) (by omega)
        rw [← hb.cell (p := ⟨b, _, none⟩) hbl] at cz
        have h1 : placesN 1 ns (k + 1) = placesN 1 ns k ++ [⟨ns[k * 3], ns[k * 3 + 1], ns[k * 3 + 2], 0⟩] := by
          rw [placesN_succ]; congr 2; unfold placeAt; rw [e0, getD_in' (by omega), getD_in' (by omega), getD_in' (by omega)]; rfl
        generalize ns[k * 3] = x at *
        generalize ns[k * 3 + 1] = y at *
        generalize ns[k * 3 + 2] = z at *
        have hbz : b < wr.heap.size := Nat.lt_of_lt_of_le hbl hb.size
        have g1 : (0 : Int) ≤ ((k * 3 : Nat) : Int) := by omega
        have g2 : ((k * 3 : Nat) : Int) + 0 < (ns.length : Int) := by omega
        have g3 : ((k * 3 : Nat) : Int) + 1 < (ns.length : Int) := by omega
        have g4 : ((k * 3 : Nat) : Int) + 2 < (ns.length : Int) := by omega
        have g9 : ((k * 3 : Nat) : Int) + 3 ≤ (ns.length : Int) := by omega
        go_wp2
        go_region
        go_wp2_with (at_builtin; refine wpList_app slP (by rfl) _ _ (by rfl) w.heap.size (A := Ao) (n := k) (c := co) (xs := pcells (placesN 1 ns k)) (by rfl) (by repeat (first | exact hown | apply World.ownsRow.alloc | apply own_drew | apply own_drewN | refine own_set ?_ (by have := hown.lt; intro e; have := (hown.lt _ e.symm).2; simp at this) _)) (X := some ⟨wr.heap.size + 1, 0, none⟩) (m := 1) (cx := 1) (pcell ⟨x, y, z, 0⟩) (by rfl) (by rfl) (cell1_blk (Blk.newAt _ _ _ (by simp)) 1) (pcell_one _) (fun h => by cases h) (by unfold maxLen; omega) (by omega) (by have := hb.size; simp; omega) ?_; intro A1 c1' w1 hown1 hgr)
        go_roundw
        case rel =>
          refine ⟨k + 1, A1, c1', by omega, rfl, by congr 1; omega, by rw [h1, pcells_snoc]; exact hown1, ?_⟩
          refine b_grown ?_ hgr (by have := hb.size; simp; omega) (fun k hk => (hown.lt k hk).1)
          repeat (first | with_reducible exact hb | with_reducible refine b_drew ?_ | with_reducible refine b_alloc ?_ _ | with_reducible refine b_set ?_ _ hb.size _)
        case measure => simp [intOf]; omega
      · obtain rfl : k = ns.length / 3 := by omega
        have g9 : ¬ ((ns.length / 3 * 3 : Nat) : Int) + 3 ≤ (ns.length : Int) := by omega
        have h2 : Hid (placesF 1 ns = placesN 1 ns (ns.length / 3)) := by unfold Hid placesF; rw [e0]
        go_wp2
        go_ret
        have h2 := h2.out
        refine ⟨⟨Ao, co, ?_, ?_⟩, hb⟩
        · rw [h2, placesN_length]; rfl
        · rw [h2]; exact ps_of_own hown
  · have e0 : wd 2 = 3 := rfl
    rw [e0] at cw
    have CW := Lib.hid cw
    clear cw
    go_enter Try.func37, Try.ntmps37
    go_wp2_with (go_at_call 31; refine (CW.out _).mono ?_; rintro e w1 ⟨rfl, rfl⟩)
    go_loopw [5, 7] (fun lv i wr => ∃ (k : Nat) (Ao : Option Addr) (co : Nat), k ≤ ns.length / 3 ∧ lv = .slice Ao k co ∧ i = .int .i64 ((k * 3 : Nat) : Int) ∧ wr.ownsRow w.heap.size 68 4 (.slice Ao k co) k (pcells (placesN 2 ns k)) ∧ Below w.heap.size w wr) (fun _ i _ => ns.length - (intOf i).toNat)
    case atStart => exact ⟨0, none, 0, Nat.zero_le _, rfl, rfl, World.ownsRow_nil _ _ _ _, Below.refl _ _⟩
    case round =>
      obtain ⟨k, Ao, co, hk, rfl, rfl, hown, hb⟩ := hrel
      by_cases hlt : k < ns.length / 3
      · obtain ⟨b, off, rfl, hbl, hc⟩ := hA (by intro h; subst h; simp at hlt)
        have cx := hc (k * 3) (by omega)
        rw [← hb.cell (p := ⟨b, _, none⟩) hbl] at cx
        have cy := hc (k * 3 + 1) (by omega)
        rw [← hb.cell (p := ⟨b, _, none⟩) hbl] at cy
        have cm := hc (k * 3 + 2) (by omega)
        rw [← hb.cell (p := ⟨b, _, none⟩) hbl] at cm
        have h1 : placesN 2 ns (k + 1) = placesN 2 ns k ++ [⟨ns[k * 3], ns[k * 3 + 1], 0, ns[k * 3 + 2]⟩] := by
          rw [placesN_succ]; congr 2; unfold placeAt; rw [e0, getD_in' (by omega), getD_in' (by omega), getD_in' (by omega)]; rfl
        generalize ns[k * 3] = x at *
        generalize ns[k * 3 + 1] = y at *
        generalize ns[k * 3 + 2] = m at *
        have hbz : b < wr.heap.size := Nat.lt_of_lt_of_le hbl hb.size
        have g1 : (0 : Int) ≤ ((k * 3 : Nat) : Int) := by omega
        have g2 : ((k * 3 : Nat) : Int) + 0 < (ns.length : Int) := by omega
        have g3 : ((k * 3 : Nat) : Int) + 1 < (ns.length : Int) := by omega
        have g4 : ((k * 3 : Nat) : Int) + 2 < (ns.length : Int) := by omega
        have g9 : ((k * 3 : Nat) : Int) + 3 ≤ (ns.length : Int) := by omega
        go_wp2
        go_region
        go_wp2_with (at_builtin; refine wpList_app slP (by rfl) _ _ (by rfl) w.heap.size (A := Ao) (n := k) (c := co) (xs := pcells (placesN 2 ns k)) (by rfl) (by repeat (first | exact hown | apply World.ownsRow.alloc | apply own_drew | apply own_drewN | refine own_set ?_ (by have := hown.lt; intro e; have := (hown.lt _ e.symm).2; simp at this) _)) (X := some ⟨wr.heap.size + 1, 0, none⟩) (m := 1) (cx := 1) (pcell ⟨x, y, 0, m⟩) (by rfl) (by rfl) (cell1_blk (Blk.newAt _ _ _ (by simp)) 1) (pcell_one _) (fun h => by cases h) (by unfold maxLen; omega) (by omega) (by have := hb.size; simp; omega) ?_; intro A1 c1' w1 hown1 hgr)
        go_roundw
        case rel =>
          refine ⟨k + 1, A1, c1', by omega, rfl, by congr 1; omega, by rw [h1, pcells_snoc]; exact hown1, ?_⟩
          refine b_grown ?_ hgr (by have := hb.size; simp; omega) (fun k hk => (hown.lt k hk).1)
          repeat (first | with_reducible exact hb | with_reducible refine b_drew ?_ | with_reducible refine b_alloc ?_ _ | with_reducible refine b_set ?_ _ hb.size _)
        case measure => simp [intOf]; omega
      · obtain rfl : k = ns.length / 3 := by omega
        have g9 : ¬ ((ns.length / 3 * 3 : Nat) : Int) + 3 ≤ (ns.length : Int) := by omega
        have h2 : Hid (placesF 2 ns = placesN 2 ns (ns.length / 3)) := by unfold Hid placesF; rw [e0]
        go_wp2
        go_ret
        have h2 := h2.out
        refine ⟨⟨Ao, co, ?_, ?_⟩, hb⟩
        · rw [h2, placesN_length]; rfl
        · rw [h2]; exact ps_of_own hown
  · have e0 : wd 3 = 4 := rfl
    rw [e0] at cw
    have CW := Lib.hid cw
    clear cw
    go_enter Try.func37, Try.ntmps37
    go_wp2_with (go_at_call 31; refine (CW.out _).mono ?_; rintro e w1 ⟨rfl, rfl⟩)
    go_loopw [5, 7] (fun lv i wr => ∃ (k : Nat) (Ao : Option Addr) (co : Nat), k ≤ ns.length / 4 ∧ lv = .slice Ao k co ∧ i = .int .i64 ((k * 4 : Nat) : Int) ∧ wr.ownsRow w.heap.size 68 4 (.slice Ao k co) k (pcells (placesN 3 ns k)) ∧ Below w.heap.size w wr) (fun _ i _ => ns.length - (intOf i).toNat)
    case atStart => exact ⟨0, none, 0, Nat.zero_le _, rfl, rfl, World.ownsRow_nil _ _ _ _, Below.refl _ _⟩
    case round =>
      obtain ⟨k, Ao, co, hk, rfl, rfl, hown, hb⟩ := hrel
      by_cases hlt : k < ns.length / 4
      · obtain ⟨b, off, rfl, hbl, hc⟩ := hA (by intro h; subst h; simp at hlt)
        have cx := hc (k * 4) (by omega)
        rw [← hb.cell (p := ⟨b, _, none⟩) hbl] at cx
        have cy := hc (k * 4 + 1) (by omega)
        rw [← hb.cell (p := ⟨b, _, none⟩) hbl] at cy
        have cz := hc (k * 4 + 2) (by omega)
        rw [← hb.cell (p := ⟨b, _, none⟩) hbl] at cz
        have cm := hc (k * 4 + 3) (by omega)
        rw [← hb.cell (p := ⟨b, _, none⟩) hbl] at cm
        have h1 : placesN 3 ns (k + 1) = placesN 3 ns k ++ [⟨ns[k * 4], ns[k * 4 + 1], ns[k * 4 + 2], ns[k * 4 + 3]⟩] := by
          rw [placesN_succ]; congr 2; unfold placeAt; rw [e0, getD_in' (by omega), getD_in' (by omega), getD_in' (by omega), getD_in' (by omega)]; rfl
        generalize ns[k * 4] = x at *
        generalize ns[k * 4 + 1] = y at *
        generalize ns[k * 4 + 2] = z at *
        generalize ns[k * 4 + 3] = m at *
        have hbz : b < wr.heap.size := Nat.lt_of_lt_of_le hbl hb.size
        have g1 : (0 : Int) ≤ ((k * 4 : Nat) : Int) := by omega
        have g2 : ((k * 4 : Nat) : Int) + 0 < (ns.length : Int) := by omega
        have g3 : ((k * 4 : Nat) : Int) + 1 < (ns.length : Int) := by omega
        have g4 : ((k * 4 : Nat) : Int) + 2 < (ns.length : Int) := by omega
        have g5 : ((k * 4 : Nat) : Int) + 3 < (ns.length : Int) := by omega
        have g9 : ((k * 4 : Nat) : Int) + 4 ≤ (ns.length : Int) := by omega
        go_wp2
        go_region
        go_wp2_with (at_builtin; refine wpList_app slP (by rfl) _ _ (by rfl) w.heap.size (A := Ao) (n := k) (c := co) (xs := pcells (placesN 3 ns k)) (by rfl) (by repeat (first | exact hown | apply World.ownsRow.alloc | apply own_drew | apply own_drewN | refine own_set ?_ (by have := hown.lt; intro e; have := (hown.lt _ e.symm).2; simp at this) _)) (X := some ⟨wr.heap.size + 1, 0, none⟩) (m := 1) (cx := 1) (pcell ⟨x, y, z, m⟩) (by rfl) (by rfl) (cell1_blk (Blk.newAt _ _ _ (by simp)) 1) (pcell_one _) (fun h => by cases h) (by unfold maxLen; omega) (by omega) (by have := hb.size; simp; omega) ?_; intro A1 c1' w1 hown1 hgr)
        go_roundw
        case rel =>
          refine ⟨k + 1, A1, c1', by omega, rfl, by congr 1; omega, by rw [h1, pcells_snoc]; exact hown1, ?_⟩
          refine b_grown ?_ hgr (by have := hb.size; simp; omega) (fun k hk => (hown.lt k hk).1)
          repeat (first | with_reducible exact hb | with_reducible refine b_drew ?_ | with_reducible refine b_alloc ?_ _ | with_reducible refine b_set ?_ _ hb.size _)
        case measure => simp [intOf]; omega
      · obtain rfl : k = ns.length / 4 := by omega
        have g9 : ¬ ((ns.length / 4 * 4 : Nat) : Int) + 4 ≤ (ns.length : Int) := by omega
        have h2 : Hid (placesF 3 ns = placesN 3 ns (ns.length / 4)) := by unfold Hid placesF; rw [e0]
        go_wp2
        go_ret
        have h2 := h2.out
        refine ⟨⟨Ao, co, ?_, ?_⟩, hb⟩
        · rw [h2, placesN_length]; rfl
        · rw [h2]; exact ps_of_own hown
end Geo
end Go.Proofs.Ytllomldpbkeioaa

