/- Walks: the places of several points. -/
import Derived.Test.YtllomldpbkeioaaP5
namespace Go.Proofs.Ytllomldpbkeioaa
open Go.RowKit Go.Sort
namespace Geo
set_option linter.unusedSimpArgs false
theorem grown_alloc {w w' : World} {row : Option Nat} {o : Obj} (h : (w.alloc o).grownBy w' row) : w.grownBy w' row :=
  ⟨h.os, h.tape, h.output, Nat.le_trans (by simp) h.size, fun k hk hne => (h.block k (by simp; omega) hne).trans (Below.heap_alloc w o k hk)⟩
def AppR (w : World) (B d : Nat) (p : P4) (A : Option Addr) (n c : Nat) (ns : List Nat) (r : Ending) (w' : World) : Prop :=
  ∃ A' c', r = .returned (.slice A' (n + wd d) c') ∧ w'.ownsRow B 66 1 (.slice A' (n + wd d) c') (n + wd d) (fl (ns ++ numsOf d p)) ∧ w.grownBy w' (Value.ownBlock (.slice A n c))
set_option maxHeartbeats 2000000 in
theorem appf_any (p : P4) (d : Nat) (hd : d < 4) (B : Nat) (A : Option Addr) (n c : Nat) (ns : List Nat) (hn : n ≤ 20000) (w : World) (hB : B ≤ w.heap.size) (hown : w.ownsRow B 66 1 (.slice A n c) n (fl ns)) :
    Calls Try.prog 67 #[CV d p, .slice A n c] w fun r w' => AppR w B d p A n c ns r w' := by
  unfold CV AppR
  obtain ⟨x, y, z, m⟩ := p
  rcases four hd with rfl | rfl | rfl | rfl
  · simp only [c0, c1, c2, c3, c4, wd0, wd1, wd2, wd3] at *
    have ho2 := own_below hown (b_alloc (b_alloc (Below.refl _ _) (.cells #[.float .f64 x, .float .f64 y, .float .f64 z, .float .f64 m, .int .u8 0] 91)) (.cells #[.float .f64 x, .float .f64 y] 66))
    go_enter Try.func67, Try.ntmps67
    go_wp2_with (at_builtin; refine wpList_app slF (by rfl) _ _ (by rfl) B (A := A) (n := n) (c := c) (xs := fl ns) (by rfl) ho2 (X := some ⟨w.heap.size + 1, 0, none⟩) (m := 2) (cx := 2) (fl [x, y]) (by rfl) (by rfl) (cell1_blk (Blk.newAt _ _ _ (by simp)) 2) (fl_one _) (fun h => by cases h) (by unfold maxLen; omega) (by omega) (by simp; omega) ?_; intro A5 c5 w6 hown6 hgr6)
    refine bodyPost_ret (v := .slice A5 (n + 2) c5) (by simp [results, Try.results67, go_sem]) rfl ⟨A5, c5, rfl, ?_, grown_alloc (grown_alloc hgr6)⟩
    rw [fl_append]
    exact hown6
  · simp only [c0, c1, c2, c3, c4, wd0, wd1, wd2, wd3] at *
    have ho2 := own_below hown (b_alloc (b_alloc (Below.refl _ _) (.cells #[.float .f64 x, .float .f64 y, .float .f64 z, .float .f64 m, .int .u8 1] 91)) (.cells #[.float .f64 x, .float .f64 y, .float .f64 z] 66))
    go_enter Try.func67, Try.ntmps67
    go_wp2_with (at_builtin; refine wpList_app slF (by rfl) _ _ (by rfl) B (A := A) (n := n) (c := c) (xs := fl ns) (by rfl) ho2 (X := some ⟨w.heap.size + 1, 0, none⟩) (m := 3) (cx := 3) (fl [x, y, z]) (by rfl) (by rfl) (cell1_blk (Blk.newAt _ _ _ (by simp)) 3) (fl_one _) (fun h => by cases h) (by unfold maxLen; omega) (by omega) (by simp; omega) ?_; intro A5 c5 w6 hown6 hgr6)
    refine bodyPost_ret (v := .slice A5 (n + 3) c5) (by simp [results, Try.results67, go_sem]) rfl ⟨A5, c5, rfl, ?_, grown_alloc (grown_alloc hgr6)⟩
    rw [fl_append]
    exact hown6
  · simp only [c0, c1, c2, c3, c4, wd0, wd1, wd2, wd3] at *
    have ho2 := own_below hown (b_alloc (b_alloc (Below.refl _ _) (.cells #[.float .f64 x, .float .f64 y, .float .f64 z, .float .f64 m, .int .u8 2] 91)) (.cells #[.float .f64 x, .float .f64 y, .float .f64 m] 66))
    go_enter Try.func67, Try.ntmps67
    go_wp2_with (at_builtin; refine wpList_app slF (by rfl) _ _ (by rfl) B (A := A) (n := n) (c := c) (xs := fl ns) (by rfl) ho2 (X := some ⟨w.heap.size + 1, 0, none⟩) (m := 3) (cx := 3) (fl [x, y, m]) (by rfl) (by rfl) (cell1_blk (Blk.newAt _ _ _ (by simp)) 3) (fl_one _) (fun h => by cases h) (by unfold maxLen; omega) (by omega) (by simp; omega) ?_; intro A5 c5 w6 hown6 hgr6)
    refine bodyPost_ret (v := .slice A5 (n + 3) c5) (by simp [results, Try.results67, go_sem]) rfl ⟨A5, c5, rfl, ?_, grown_alloc (grown_alloc hgr6)⟩
    rw [fl_append]
    exact hown6
  · simp only [c0, c1, c2, c3, c4, wd0, wd1, wd2, wd3] at *
    have ho2 := own_below hown (b_alloc (b_alloc (Below.refl _ _) (.cells #[.float .f64 x, .float .f64 y, .float .f64 z, .float .f64 m, .int .u8 3] 91)) (.cells #[.float .f64 x, .float .f64 y, .float .f64 z, .float .f64 m] 66))
    go_enter Try.func67, Try.ntmps67
    go_wp2_with (at_builtin; refine wpList_app slF (by rfl) _ _ (by rfl) B (A := A) (n := n) (c := c) (xs := fl ns) (by rfl) ho2 (X := some ⟨w.heap.size + 1, 0, none⟩) (m := 4) (cx := 4) (fl [x, y, z, m]) (by rfl) (by rfl) (cell1_blk (Blk.newAt _ _ _ (by simp)) 4) (fl_one _) (fun h => by cases h) (by unfold maxLen; omega) (by omega) (by simp; omega) ?_; intro A5 c5 w6 hown6 hgr6)
    refine bodyPost_ret (v := .slice A5 (n + 4) c5) (by simp [results, Try.results67, go_sem]) rfl ⟨A5, c5, rfl, ?_, grown_alloc (grown_alloc hgr6)⟩
    rw [fl_append]
    exact hown6
theorem mpctype_any (A : Option Addr) (n c d : Nat) (w : World) : Calls Try.prog 65 #[.agg #[.slice A n c, .int .u8 d]] w fun r w' => r = .returned (.int .u8 d) ∧ Below w.heap.size w w' := by
  go_enter Try.func65, Try.ntmps65
  go_wp2
  go_ret
  refine ⟨rfl, ?_⟩
  (repeat (first | exact Below.refl _ _ | refine b_alloc ?_ _ | refine b_drew ?_ | refine b_drewN ?_ _ | refine b_set ?_ _ (by first | (simp; done) | (simp; omega) | assumption | (dsimp only; omega)) _ | refine b_trans ?_ (by assumption)))
theorem own_made {w : World} {B g : Nat} {e : TypeId} {cs : Array Value} {cap : Nat} (h : Blk w g e cs) (hs : cs.size = cap) (hB : B ≤ g) (hc : cap ≤ maxLen) : w.ownsRow B e 1 (.slice (some ⟨g, 0, none⟩) 0 cap) 0 [] :=
  ⟨by simp, .inr ⟨g, cap, cs, rfl, hB, h, Nat.zero_le _, hc, by simpa using hs, by simp⟩⟩
theorem mk_cap (n : Nat) (hn : n ≤ 100000) (w : World) : (Instr.makeSlice 24 (.int .i64 0) (.int .i64 n)).run Try.prog w = .ok (.slice (some ⟨w.heap.size, 0, none⟩) 0 n) (w.alloc (.cells (madeCells (Value.float .f64 0).cells n) 66)) := by
  obtain ⟨i, hi, hz, hs, hb⟩ := slF.info
  have h := run_make (P := Try.prog) w 24 66 i (.float .f64 0) slF.ht hi hz .i64 .i64 0 n (by omega) (by omega) (by rw [hb]; omega) (by omega)
  rw [hs] at h
  simpa using h
/-- the numbers of those that are not empty -/
def ptNums (L : List Pt) : List Nat := (L.filter (·.f)).flatMap fun q => numsOf q.d q.p
theorem ptNums_snoc (L : List Pt) (q : Pt) : ptNums (L ++ [q]) = if q.f then ptNums L ++ numsOf q.d q.p else ptNums L := by
  unfold ptNums
  rw [List.filter_append]
  cases h : q.f <;> simp [h]
theorem ptNums_mod {D : Nat} (hD : D < 4) : ∀ (L : List Pt), (∀ q ∈ L, q.d = D) → (ptNums L).length % wd D = 0
  | [], _ => by simp [ptNums]
  | q :: L, h => by
    have h1 := ptNums_mod hD L fun x hx => h x (by simp [hx])
    have h2 := h q (by simp)
    unfold ptNums at *
    rw [List.filter_cons]
    split
    · rw [List.flatMap_cons, List.length_append, numsOf_length (by rw [h2]; exact hD), h2, Nat.add_mod, h1, Nat.mod_self]; simp
    · exact h1
theorem ptNums_len (L : List Pt) (h : ∀ q ∈ L, q.d < 4) : (ptNums L).length ≤ L.length * 4 := by
  induction L with
  | nil => simp [ptNums]
  | cons q L ih =>
    have h1 := ih fun x hx => h x (by simp [hx])
    unfold ptNums at *
    rw [List.filter_cons, List.length_cons]
    split
    · rw [List.flatMap_cons, List.length_append, numsOf_length (h q (by simp))]
      have := (wd_le q.d).2
      omega
    · omega
end Geo
end Go.Proofs.Ytllomldpbkeioaa
