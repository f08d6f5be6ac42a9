/- Walks: the same geometry. -/
import Derived.Test.YtllomldpbkeioaaG4
import Derived.BigQuiet
namespace Go.Proofs.Ytllomldpbkeioaa
open Go.RowKit Go.Sort
namespace Geo
theorem ext_bits (a : Nat) (w : World) : (callFunc 46 #[.float .f64 a]).run Try.prog w = .ok (.value (.int .u64 a)) w := by kernel_rfl
theorem Fs.at {w : World} {B : Nat} {A : Option Addr} {ns : List Nat} (h : Fs w B A ns) {i : Nat} (hi : i < ns.length) : ∃ b off, A = some ⟨b, off, none⟩ ∧ b < B ∧ w.cell? ⟨b, off + i, none⟩ = some (.float .f64 ns[i]) := by
  obtain ⟨b, off, e, hb, hall⟩ := h (fun e => by rw [e] at hi; simp at hi)
  exact ⟨b, off, e, hb, hall i hi⟩
set_option maxHeartbeats 1000000 in
theorem samenums_any (a b : List Nat) (A : Option Addr) (c : Nat) (A' : Option Addr) (c' : Nat) (hm : a.length ≤ 1000000) (w : World) (hA : Fs w w.heap.size A a) (hA' : Fs w w.heap.size A' b) :
    Calls Try.prog 38 #[.slice A a.length c, .slice A' b.length c'] w fun r w' => r = .returned (.bool (decide (a = b))) ∧ Below w.heap.size w w' := by
  have hx := ext_bits
  by_cases hl : a.length = b.length
  · go_enter Try.func38, Try.ntmps38
    go_wp2
    go_loopw [14] (fun i wr => ∃ (k : Nat), k ≤ a.length ∧ i = .int .i64 k ∧ Hid (a.take k = b.take k) ∧ Below w.heap.size w wr) (fun i _ => a.length - (intOf i).toNat)
    case atStart => exact ⟨0, Nat.zero_le _, rfl, rfl, Below.refl _ _⟩
    case round =>
      obtain ⟨k, hk, rfl, HE, hb⟩ := hrel
      by_cases hlt : k < a.length
      · obtain ⟨b1, o1, rfl, hb1, hc1⟩ := (hA.below hb hb.size).at hlt
        obtain ⟨b2, o2, rfl, hb2, hc2⟩ := (hA'.below hb hb.size).at (show k < b.length by omega)
        have h1 : a.take (k + 1) = a.take k ++ [a[k]] := List.take_succ_eq_append_getElem hlt
        have h2 : b.take (k + 1) = b.take k ++ [b[k]'(by omega)] := List.take_succ_eq_append_getElem (by omega)
        have h3 : a = b → a[k] = b[k]'(by omega) := fun e => by subst e; rfl
        have g1 : (k : Int) < (b.length : Int) := by omega
        have H1 := Lib.hid h1
        have H2 := Lib.hid h2
        have H3 := Lib.hid h3
        clear h1 h2 h3
        generalize a[k] = x at *
        generalize b[k]'(by omega) = y at *
        go_wp2
        refine wp_region_below (by kernel_rfl) (by kernel_rfl) ?_
        repeat (go_big_quiet_step (fail))
        refine wpQuiet_nil ?_
        intro w1 hbq
        by_cases hxy : x = y
        · subst hxy
          go_wp2
          go_roundw
          case rel => exact ⟨k + 1, by omega, by go_num, by unfold Hid; rw [H1.out, H2.out, HE.out], b_trans hb hbq⟩
          case measure => simp [intOf]; omega
        · go_wp2
          go_ret
          refine ⟨?_, b_trans hb hbq⟩
          rw [decide_eq_false (fun e => hxy (H3.out e))]; rfl
      · obtain rfl : k = a.length := by omega
        go_wp2_with fail
        go_ret
        refine ⟨?_, hb⟩
        have := HE.out
        rw [List.take_length, hl, List.take_length] at this
        rw [decide_eq_true this]; rfl
  · go_enter Try.func38, Try.ntmps38
    go_wp2
    go_ret
    refine ⟨?_, Below.refl _ _⟩
    rw [decide_eq_false (fun e => hl (by rw [e]))]; rfl
mutual
def sameG : G → G → Bool
  | .mk k d ns kids, .mk k' d' ns' kids' => decide (k = k') && decide (d = d') && decide (ns = ns') && sameL kids kids'
def sameL : List G → List G → Bool
  | [], [] => true
  | g :: l, g' :: l' => sameG g g' && sameL l l'
  | [], _ :: _ => false
  | _ :: _, [] => false
end
theorem sameG_refl (g : G) : sameG g g = true := by
  refine G.ind g fun k d ns kids ih => ?_
  unfold sameG
  have : ∀ l : List G, (∀ x ∈ l, x ∈ kids) → sameL l l = true := by
    intro l
    induction l with
    | nil => intro _; rfl
    | cons x l ihl =>
      intro h
      unfold sameL
      rw [ih x (h x (List.mem_cons_self ..)), ihl (fun y hy => h y (List.mem_cons_of_mem _ hy))]; rfl
  rw [this kids (fun _ h => h)]
  simp
theorem sameL_refl (l : List G) : sameL l l = true := by
  induction l with
  | nil => rfl
  | cons x l ih => unfold sameL; rw [sameG_refl, ih]; rfl
theorem sameL_len : ∀ (a b : List G), sameL a b = true → a.length = b.length
  | [], [], _ => rfl
  | g :: a, h :: b, hs => by unfold sameL at hs; rw [Bool.and_eq_true] at hs; simp [sameL_len a b hs.2]
  | [], _ :: _, hs => by unfold sameL at hs; cases hs
  | _ :: _, [], hs => by unfold sameL at hs; cases hs
theorem sameL_snoc : ∀ (a b : List G) (x y : G), a.length = b.length → sameL (a ++ [x]) (b ++ [y]) = (sameL a b && sameG x y)
  | [], [], x, y, _ => by
    show (sameG x y && sameL [] []) = (sameL [] [] && sameG x y)
    unfold sameL; simp
  | g :: a, h :: b, x, y, hl => by
    show (sameG g h && sameL (a ++ [x]) (b ++ [y])) = (sameL (g :: a) (h :: b) && sameG x y)
    rw [sameL_snoc a b x y (by simpa using hl)]
    conv => rhs; lhs; unfold sameL
    rw [Bool.and_assoc]
  | [], _ :: _, _, _, hl => by simp at hl
  | _ :: _, [], _, _, hl => by simp at hl
theorem sameL_false {a b : List G} (hl : a.length = b.length) {k : Nat} (hk : k < a.length) (h : sameG a[k] (b[k]'(by omega)) = false) : sameL a b = false := by
  induction a generalizing b k with
  | nil => simp at hk
  | cons x a ih =>
    cases b with
    | nil => simp at hl
    | cons y b =>
      unfold sameL
      cases k with
      | zero => have h' : sameG x y = false := h; rw [h']; rfl
      | succ k => rw [ih (by simpa using hl) (by simpa using hk) h, Bool.and_false]
/-- the contract of SameGeom at a geometry -/
def SGc (g : G) : Prop := ∀ (h : G) (A : Option Addr) (c : Nat) (A' : Option Addr) (c' : Nat) (E : Option Addr) (e : Nat) (E' : Option Addr) (e' : Nat) (w : World), sz g ≤ 100000 → GM w w.heap.size g A c A' c' → GM w w.heap.size h E e E' e' →
  Calls Try.prog 14 #[GV g A c A' c', GV h E e E' e'] w fun r w' => r = .returned (.bool (sameG g h)) ∧ Below w.heap.size w w'
theorem szL_mem {l : List G} {g : G} (h : g ∈ l) : sz g ≤ szL l := by
  induction l with
  | nil => cases h
  | cons x l ih =>
    unfold szL
    rcases List.mem_cons.1 h with e | e
    · subst e; omega
    · have := ih e; omega
theorem szL_len (l : List G) : l.length ≤ szL l := by
  induction l with
  | nil => simp
  | cons x l ih =>
    unfold szL
    have : 1 ≤ sz x := by cases x; unfold sz; omega
    simp; omega
set_option maxHeartbeats 1000000 in
theorem samegeoms_of (a b : List G) (A : Option Addr) (c : Nat) (A' : Option Addr) (c' : Nat) (ih : ∀ x ∈ a, SGc x) (hm : szL a ≤ 100000) (w : World) (hA : Gs w w.heap.size A a) (hA' : Gs w w.heap.size A' b) :
    Calls Try.prog 10 #[.slice A a.length c, .slice A' b.length c'] w fun r w' => r = .returned (.bool (sameL a b)) ∧ Below w.heap.size w w' := by
  have hlen := szL_len a
  by_cases hl : a.length = b.length
  · go_enter Try.func10, Try.ntmps10
    go_wp2
    go_loopw [14] (fun i wr => ∃ (k : Nat), k ≤ a.length ∧ i = .int .i64 k ∧ Hid (sameL (a.take k) (b.take k) = true) ∧ Below w.heap.size w wr) (fun i _ => a.length - (intOf i).toNat)
    case atStart => exact ⟨0, Nat.zero_le _, rfl, (by unfold Hid; simp [sameL]), Below.refl _ _⟩
    case round =>
      obtain ⟨k, hk, rfl, HE, hb⟩ := hrel
      by_cases hlt : k < a.length
      · obtain ⟨b1, o1, A1, n1, A2, n2, rfl, hb1, p0, p1, p2, p3, hg⟩ := (hA.below hb hb.size).at hlt
        obtain ⟨b2, o2, E1, e1, E2, e2, rfl, hb2, q0, q1, q2, q3, hh⟩ := (hA'.below hb hb.size).at (show k < b.length by omega)
        have ihk := ih a[k] (List.getElem_mem _) (b[k]'(by omega)) A1 n1 A2 n2 E1 e1 E2 e2
        have hsz := szL_mem (List.getElem_mem hlt)
        have h1 : sameL (a.take (k + 1)) (b.take (k + 1)) = (sameL (a.take k) (b.take k) && sameG a[k] (b[k]'(by omega))) := by
          rw [List.take_succ_eq_append_getElem hlt, List.take_succ_eq_append_getElem (show k < b.length by omega)]
          exact sameL_snoc _ _ _ _ (by simp; omega)
        have h2 : sameG a[k] (b[k]'(by omega)) = false → sameL a b = false := fun h => sameL_false hl hlt h
        have g1 : (k : Int) < (b.length : Int) := by omega
        rw [HE.out, Bool.true_and] at h1
        have H1 := Lib.hid h1
        have H2 := Lib.hid h2
        have IK : ∀ w : World, GM w w.heap.size a[k] A1 n1 A2 n2 → GM w w.heap.size (b[k]'(by omega)) E1 e1 E2 e2 → _ := fun w => ihk w (by omega)
        clear h1 h2 ihk
        generalize sameG a[k] (b[k]'(by omega)) = q at *
        generalize a[k] = x at *
        generalize b[k]'(by omega) = y at *
        unfold GV gCells at IK
        have IK2 := fun p => Calls.inClassG (w := wr.alloc (.cells #[.int .i64 x.kind, .int .i64 x.dim, .slice A1 x.nums.length n1, .slice A2 x.kids.length n2] 26)) (fun w' hw' => IK w' (hg.mov (b_trans (b_alloc (Below.refl _ _) _) hw') (by have := hw'.size; simp at this; omega)) (hh.mov (b_trans (b_alloc (Below.refl _ _) _) hw') (by have := hw'.size; simp at this; omega))) p
        have zb1 : b1 < wr.heap.size + 1 := by omega
        have zb2 : b2 < wr.heap.size + 1 := by omega
        go_wp2
        refine wp_region_below (by kernel_rfl) (by kernel_rfl) ?_
        repeat (go_big_quiet_step ((with_reducible exact IK2 _)))
        refine wpQuiet_nil ?_
        intro w1 hbq
        have hbw := b_trans (b_alloc hb (.cells #[.int .i64 x.kind, .int .i64 x.dim, .slice A1 x.nums.length n1, .slice A2 x.kids.length n2] 26)) hbq
        cases q
        · go_wp2
          go_ret
          exact ⟨by rw [H2.out (by simp)]; rfl, hbw⟩
        · go_wp2
          go_roundw
          case rel => exact ⟨k + 1, by omega, by go_num, H1.out, hbw⟩
          case measure => simp [intOf]; omega
      · obtain rfl : k = a.length := by omega
        go_wp2_with fail
        go_ret
        refine ⟨?_, hb⟩
        have := HE.out
        rw [List.take_length, hl, List.take_length] at this
        rw [this]; rfl
  · go_enter Try.func10, Try.ntmps10
    go_wp2
    go_ret
    refine ⟨?_, Below.refl _ _⟩
    cases hs : sameL a b with
    | false => rfl
    | true => exact absurd (sameL_len a b hs) hl
set_option maxHeartbeats 1000000 in
theorem samegeom_any (g : G) : SGc g := by
  refine G.ind g fun k d ns kids ih => ?_
  intro h A c A' c' E e E' e' w hs hg hh
  obtain ⟨k2, d2, ns2, kids2⟩ := h
  obtain ⟨n1, _, _, l1⟩ := hg.parts
  obtain ⟨n2, _, _, l2⟩ := hh.parts
  unfold GV gCells
  unfold sz at hs
  simp only [G.kind, G.dim, G.nums, G.kids] at *
  have C1 := fun (w' : World) (hb : Below w.heap.size w w') => samenums_any ns ns2 A c E e (by omega) w' (n1.below hb hb.size) (n2.below hb hb.size)
  have C2 := fun (w' : World) (hb : Below w.heap.size w w') => samegeoms_of kids kids2 A' c' E' e' ih (by omega) w' (l1.below hb hb.size) (l2.below hb hb.size)
  have e0 : sameG (.mk k d ns kids) (.mk k2 d2 ns2 kids2) = (decide (k = k2) && decide (d = d2) && decide (ns = ns2) && sameL kids kids2) := by conv => lhs; unfold sameG
  have H0 := Lib.hid e0
  clear e0 hg hh ih
  generalize sameL kids kids2 = q at *
  generalize decide (ns = ns2) = r at *
  have C1 := Lib.hid C1
  have C2 := Lib.hid C2
  by_cases q1 : k = k2
  · by_cases q2 : d = d2
    · subst q1 q2
      have hb0 := b_alloc (b_alloc (Below.refl w.heap.size w) (.cells #[.int .i64 k, .int .i64 d, .slice A ns.length c, .slice A' kids.length c'] 26)) (.cells #[.int .i64 k, .int .i64 d, .slice E ns2.length e, .slice E' kids2.length e'] 26)
      go_enter Try.func14, Try.ntmps14
      go_wp2_with fail
      refine (C1.out _ hb0).mono ?_
      rintro e w1 ⟨rfl, hb1⟩
      obtain ⟨bcw1, bfw1⟩ := bcell hb1
      have zw1_0 : w.heap.size < w1.heap.size := by have := hb1.size; (try simp at this); omega
      have zw1_1 : w.heap.size + 1 < w1.heap.size := by have := hb1.size; (try simp at this); omega
      cases r
      · go_wp2_with fail
        go_ret
        exact ⟨by rw [H0.out]; simp, b_trans hb0 hb1⟩
      · go_wp2_with fail
        refine (C2.out _ (b_trans hb0 hb1)).mono ?_
        rintro e w2 ⟨rfl, hb2⟩
        go_wp2_with fail
        go_ret
        exact ⟨by rw [H0.out]; simp, b_trans (b_trans hb0 hb1) hb2⟩
    · go_enter Try.func14, Try.ntmps14
      go_wp2
      go_ret
      refine ⟨by rw [H0.out, decide_eq_false q2]; simp, ?_⟩
      (repeat (first | exact Below.refl _ _ | refine b_alloc ?_ _ | refine b_drew ?_ | refine b_drewN ?_ _ | refine b_set ?_ _ (by first | (simp; done) | (simp; omega) | assumption | (dsimp only; omega)) _ | refine b_trans ?_ (by assumption)))
  · go_enter Try.func14, Try.ntmps14
    go_wp2
    go_ret
    refine ⟨by rw [H0.out, decide_eq_false q1]; simp, ?_⟩
    (repeat (first | exact Below.refl _ _ | refine b_alloc ?_ _ | refine b_drew ?_ | refine b_drewN ?_ _ | refine b_set ?_ _ (by first | (simp; done) | (simp; omega) | assumption | (dsimp only; omega)) _ | refine b_trans ?_ (by assumption)))
theorem samegeoms_any (a b : List G) (A : Option Addr) (c : Nat) (A' : Option Addr) (c' : Nat) (hm : szL a ≤ 100000) (w : World) (hA : Gs w w.heap.size A a) (hA' : Gs w w.heap.size A' b) :
    Calls Try.prog 10 #[.slice A a.length c, .slice A' b.length c'] w fun r w' => r = .returned (.bool (sameL a b)) ∧ Below w.heap.size w w' :=
  samegeoms_of a b A c A' c' (fun x _ => samegeom_any x) hm w hA hA'
end Geo
end Go.Proofs.Ytllomldpbkeioaa
