/- Walks: several points out of plain data. -/
import Derived.Test.YtllomldpbkeioaaP4
import Derived.Test.YtllomldpbkeioaaApp2
namespace Go.Proofs.Ytllomldpbkeioaa
open Go.RowKit Go.Sort
namespace Geo
set_option linter.unusedSimpArgs false
def ptCells (L : List Pt) : List Value := L.flatMap fun q => q.cells.toList
theorem ptCells_length (L : List Pt) : (ptCells L).length = L.length * 6 := by
  unfold ptCells
  induction L with
  | nil => rfl
  | cons q L ih => rw [List.flatMap_cons, List.length_append, ih, List.length_cons, Nat.succ_mul, Nat.add_comm]; rfl
theorem ptCells_get (L : List Pt) : ∀ (i : Nat) (h : i < L.length) (r : Nat), r < 6 → (ptCells L)[i * 6 + r]? = L[i].cells[r]? := by
  induction L with
  | nil => intro i h; simp at h
  | cons q L ih =>
    intro i h r hr
    unfold ptCells at *
    rw [List.flatMap_cons]
    have hql : q.cells.toList.length = 6 := rfl
    cases i with
    | zero =>
      rw [List.getElem?_append_left (by omega)]
      simp
    | succ i =>
      have h' : i < L.length := by simpa using h
      rw [List.getElem?_append_right (by omega), List.getElem_cons_succ, ← ih i h' r hr]
      congr 1
      omega
theorem ptm_of_own {w : World} {B : Nat} {e : TypeId} {A : Option Addr} {n c : Nat} {L : List Pt} (h : w.ownsRow B e 6 (.slice A n c) n (ptCells L)) : n = L.length ∧ PtM w w.heap.size A L := by
  have hl := h.1
  rw [ptCells_length] at hl
  refine ⟨by omega, fun hne => ?_⟩
  obtain ⟨b, e1, hlt, _, hc⟩ := own_lies h (fun e => hne (List.eq_nil_of_length_eq_zero (by
    have := ptCells_length L
    rw [e] at this
    simp at this
    omega)))
  refine ⟨b, 0, e1, hlt, fun i hi j hj => ?_⟩
  have hll := ptCells_length L
  rw [Nat.zero_add, hc (i * 6 + j) (by omega), ← ptCells_get L i hi j hj, List.getElem?_eq_getElem]
def ptsOf (kids : List G) : List Pt := (kids.filter fun k => decide (k.kind = 1)).map ptOf
theorem ptsOf_snoc (L : List G) (k : G) : ptsOf (L ++ [k]) = if k.kind = 1 then ptsOf L ++ [ptOf k] else ptsOf L := by
  unfold ptsOf
  rw [List.filter_append]
  by_cases h : k.kind = 1 <;> simp [h]
theorem ptOf_d (g : G) : (ptOf g).d < 4 := by
  unfold ptOf
  split <;> exact dim3_lt _
def mpD (d : Int) (L : List Pt) : Nat := if L = [] then dim3 d else andD L
set_option maxHeartbeats 4000000 in
theorem multipoint_any (d : Int) (ns : List Nat) (kids : List G) (A : Option Addr) (c : Nat) (A' : Option Addr) (c' : Nat) (hkl : kids.length ≤ 2000) (hkn : ∀ k ∈ kids, k.nums.length ≤ 2000) (w : World) (hg : GM w w.heap.size (.mk 4 d ns kids) A c A' c') :
    Calls Try.prog 48 #[GV (.mk 4 d ns kids) A c A' c'] w fun e w' => MVR ((ptsOf kids).map (forceP (mpD d (ptsOf kids)))) (mpD d (ptsOf kids)) e w' ∧ Below w.heap.size w w' := by
  obtain ⟨_, _, _, hgs⟩ := hg.parts
  simp only [G.kids] at hgs
  obtain ⟨PL, hPL⟩ : ∃ PL : Nat → List Pt, PL = fun j => ptsOf (kids.take j) := ⟨_, rfl⟩
  have hP0 : PL 0 = [] := by rw [hPL]; rfl
  have hPn : ptsOf kids = PL kids.length := by rw [hPL]; simp only [List.take_length]
  have hPl : ∀ j, (PL j).length ≤ 2000 := fun j => by
    rw [hPL]
    show (ptsOf (kids.take j)).length ≤ 2000
    unfold ptsOf
    rw [List.length_map]
    exact Nat.le_trans (List.length_filter_le _ _) (by rw [List.length_take]; omega)
  have hPs : ∀ j (h : j < kids.length), (kids[j].kind = 1 → PL (j + 1) = PL j ++ [ptOf kids[j]]) ∧ (¬ kids[j].kind = 1 → PL (j + 1) = PL j) := fun j h => by
    rw [hPL]
    have e : ptsOf (kids.take (j + 1)) = if kids[j].kind = 1 then ptsOf (kids.take j) ++ [ptOf kids[j]] else ptsOf (kids.take j) := by rw [List.take_succ_eq_append_getElem h, ptsOf_snoc]
    exact ⟨fun q => e.trans (if_pos q), fun q => e.trans (if_neg q)⟩
  have hPd : ∀ q ∈ PL kids.length, q.d < 4 := fun q hq => by
    rw [← hPn] at hq
    obtain ⟨k, _, rfl⟩ := List.mem_map.1 hq
    exact ptOf_d k
  rw [hPn]
  have HP0 := Lib.hid hP0
  have HPL := Lib.hid hPl
  have HPS := Lib.hid hPs
  clear hPL hP0 hPn hPl hPs hg
  rw [show GV (.mk 4 d ns kids) A c A' c' = .agg #[.int .i64 4, .int .i64 d, .slice A ns.length c, .slice A' kids.length c'] from rfl]
  have hb0 := b_alloc (b_alloc (Below.refl w.heap.size w) (.cells #[.int .i64 4, .int .i64 d, .slice A ns.length c, .slice A' kids.length c'] 26)) (.cells #[.slice none 0 0, .int .u8 0] 81)
  have k0 := (Blk.newAt w 26 #[.int .i64 4, .int .i64 d, .slice A ns.length c, .slice A' kids.length c'] rfl).alloc (.cells #[.slice none 0 0, .int .u8 0] 81)
  have k1 := Blk.newAt (w.alloc (.cells #[.int .i64 4, .int .i64 d, .slice A ns.length c, .slice A' kids.length c'] 26)) 81 #[.slice none 0 0, .int .u8 0] (n := w.heap.size + 1) (by simp)
  go_enter Try.func48, Try.ntmps48
  go_wp2_with fail
  go_loopw [3, 9] (fun lv i wr => ∃ (j n : Nat) (Ao : Option Addr) (co : Nat), j ≤ kids.length ∧ lv = .slice Ao n co ∧ i = .int .i64 j ∧ wr.ownsRow (w.heap.size + 2) 100 6 (.slice Ao n co) n (ptCells (PL j)) ∧ Blk wr w.heap.size 26 #[.int .i64 4, .int .i64 d, .slice A ns.length c, .slice A' kids.length c'] ∧ Blk wr (w.heap.size + 1) 81 #[.slice none 0 0, .int .u8 0] ∧ Below w.heap.size w wr) (fun _ i _ => kids.length - (intOf i).toNat)
  case atStart => exact ⟨0, 0, none, 0, Nat.zero_le _, rfl, rfl, by rw [HP0.out]; exact World.ownsRow_nil _ _ _ _, k0, k1, hb0⟩
  case round =>
    clear k0 k1 hb0
    obtain ⟨j, n, Ao, co, hj, rfl, rfl, hown, kb, kr, hb⟩ := hrel
    obtain ⟨hn, hpm⟩ := ptm_of_own hown
    have hn2 : n ≤ 2000 := by have := HPL.out j; omega
    have HN := Lib.hid hn
    have o0 := kb.cell 0
    have o1 := kb.cell 1
    have zb := kb.lt
    simp at o0 o1
    clear hn
    by_cases hlt : j < kids.length
    · obtain ⟨b, off, B1, d1, B2, d2, e0, hbl, q0, q1, q2, q3, hgm⟩ := (hgs.below hb hb.size).at hlt
      have hps := HPS.out j hlt
      have hkn1 := hkn kids[j] (List.getElem_mem hlt)
      generalize kids[j] = g0 at *
      obtain ⟨k', d', ns', kids'⟩ := g0
      simp only [G.kind, G.dim, G.nums, G.kids] at hkn1 q0 q1 q2 q3
      subst e0
      have hba := b_alloc (Below.refl wr.heap.size wr) (.cells #[.int .i64 k', .int .i64 d', .slice B1 ns'.length d1, .slice B2 kids'.length d2] 26)
      have hg7 := hgm.mov hba hba.size
      have kb1 := kb.alloc (.cells #[.int .i64 k', .int .i64 d', .slice B1 ns'.length d1, .slice B2 kids'.length d2] 26)
      have kr1 := kr.alloc (.cells #[.int .i64 k', .int .i64 d', .slice B1 ns'.length d1, .slice B2 kids'.length d2] 26)
      have hown1 := own_below hown hba
      have hB1 := b_trans hb hba
      clear hgm hown hpm
      by_cases hk : k' = 1
      · subst hk
        have hps := hps.1 rfl
        have s1 := point_any d' ns' kids' B1 d1 B2 d2 (by omega) _ hg7
        have HPS1 := Lib.hid hps
        rw [show GV (.mk 1 d' ns' kids') B1 d1 B2 d2 = .agg #[.int .i64 1, .int .i64 d', .slice B1 ns'.length d1, .slice B2 kids'.length d2] from rfl] at s1
        unfold Pt.V PV pCells at s1
        have S1 := Lib.hid s1
        clear s1 hps hg7
        generalize ptOf (.mk 1 d' ns' kids') = q at *
        go_wp2_with fail
        refine S1.out.mono ?_
        rintro e9 w3 ⟨rfl, hb3⟩
        have kb3 := (kb1.stay hb3).alloc (.cells #[.float .f64 q.p.x, .float .f64 q.p.y, .float .f64 q.p.z, .float .f64 q.p.m, .int .u8 q.d, .bool q.f] 100)
        have kr3 := (kr1.stay hb3).alloc (.cells #[.float .f64 q.p.x, .float .f64 q.p.y, .float .f64 q.p.z, .float .f64 q.p.m, .int .u8 q.d, .bool q.f] 100)
        have hb4 := b_alloc hb3 (.cells #[.float .f64 q.p.x, .float .f64 q.p.y, .float .f64 q.p.z, .float .f64 q.p.m, .int .u8 q.d, .bool q.f] 100)
        have hown3 := own_below hown1 hb4
        have hB3 := b_trans hB1 hb4
        have z3 : w.heap.size + 2 ≤ (w3.alloc (.cells #[.float .f64 q.p.x, .float .f64 q.p.y, .float .f64 q.p.z, .float .f64 q.p.m, .int .u8 q.d, .bool q.f] 100)).heap.size := by have := kr3.lt; omega
        clear S1 kb1 kr1 hown1 hB1 hb3 hb4 hba
        go_wp2_with (at_builtin; refine wpList_app2 slPt (by rfl) _ _ (by rfl) (w.heap.size + 2) (A := Ao) (n := n) (c := co) (xs := ptCells (PL j)) (by rfl) hown3 (X := some ⟨w3.heap.size, 0, none⟩) (m := 1) (cx := 1) #[.float .f64 q.p.x, .float .f64 q.p.y, .float .f64 q.p.z, .float .f64 q.p.m, .int .u8 q.d, .bool q.f].toList (by rfl) (by rfl) (cell1_blk (Blk.newAt _ _ _ rfl) 1) (fun u hu => by simp at hu; rcases hu with rfl | rfl | rfl | rfl | rfl | rfl <;> rfl) (fun h => by cases h) (by unfold maxLen; omega) (by omega) z3 ?_; intro A5 c5 w6 hown6 hgr6 hnew6)
        go_roundw
        case rel =>
          refine ⟨j + 1, n + 1, A5, c5, by omega, rfl, by go_num, ?_, kb3.grown hgr6 (own_far hown3 (by omega)), kr3.grown hgr6 (own_far hown3 (by omega)), b_grown hB3 hgr6 hB3.size (fun b hb => by have := (hown3.lt b hb).1; omega)⟩
          rw [HPS1.out]
          have e7 : ptCells (PL j ++ [q]) = ptCells (PL j) ++ q.cells.toList := by unfold ptCells; simp
          rw [e7]
          exact hown6
        case measure => simp [intOf]; omega
      · have hkb : (k' == 1) = false := beq_eq_false_iff_ne.2 hk
        have hps := hps.2 hk
        have HPS1 := Lib.hid hps
        clear hps hg7
        go_wp2_with fail
        go_roundw
        case rel => exact ⟨j + 1, n, Ao, co, by omega, rfl, by go_num, by rw [HPS1.out]; exact hown1, kb1, kr1, hB1⟩
        case measure => simp [intOf]; omega
    · obtain rfl : j = kids.length := by omega
      have r0 := kr.cell 0
      have r1 := kr.cell 1
      have fr := kr.frozen
      have zr := kr.lt
      simp at r0 r1
      by_cases hE : PL kids.length = []
      · have hn0 : n = 0 := by rw [HN.out, hE]; rfl
        subst hn0
        have hD : mpD d (PL kids.length) = dim3 d := by unfold mpD; rw [if_pos hE]
        have HE := Lib.hid hE
        have HD := Lib.hid hD
        have s1 := fun w => mpforce_any (dim3 d) (dim3_lt d) 0 w
        have s2 := fun w => dimof_any d w
        unfold MVR at s1
        simp only [List.map_nil, List.length_nil, c0] at s1
        generalize dim3 d = D at *
        have S1 := Lib.hid s1
        have S2 := Lib.hid s2
        clear s1 s2 hlt hE hpm hown hD hPd
        go_wp2_with fail
        refine (S2.out _).mono ?_
        rintro e9 w3 ⟨rfl, rfl⟩
        go_wp2_with fail
        refine (S1.out _).mono ?_
        rintro e9 w3 ⟨⟨A3, c3, rfl, hp⟩, hb3⟩
        have kr3 := kr.stay hb3
        have hB3 := b_trans hb hb3
        have r0 := kr3.cell 0
        have r1 := kr3.cell 1
        have fr3 := kr3.frozen
        simp at r0 r1
        clear S1 S2 kr kb
        go_wp2_with fail
        refine bodyPost_ret (v := .agg #[.slice A3 0 c3, .int .u8 D]) (by simp [results, Try.results48, go_sem, r0, r1]) rfl ⟨?_, ?_⟩
        · rw [HD.out, HE.out]; exact ⟨A3, c3, rfl, PtM.nil _ _ _⟩
        exact b_set (b_set hB3 _ (Nat.le_succ _) _) _ (Nat.le_succ _) _
      · have hD : mpD d (PL kids.length) = andD (PL kids.length) := by unfold mpD; rw [if_neg hE]
        have HD := Lib.hid hD
        have s1 := newmp_any (PL kids.length) hPd hE Ao co (by have := HPL.out kids.length; omega) wr hpm
        have hn0 : n ≠ 0 := fun h => hE (List.eq_nil_of_length_eq_zero (by rw [← HN.out]; exact h))
        have hnb : ((n : Int) == 0) = false := beq_eq_false_iff_ne.2 (by omega)
        have hnz : ¬ ((n : Int) = 0) := by omega
        have hmne : (PL kids.length).map (forceP (andD (PL kids.length))) ≠ [] := by simpa using hE
        have hlen : ((PL kids.length).map (forceP (andD (PL kids.length)))).length = (PL kids.length).length := List.length_map ..
        unfold MVR at s1
        rw [hlen, ← HN.out] at s1
        have HLEN := Lib.hid hlen
        generalize hR : (PL kids.length).map (forceP (andD (PL kids.length))) = R at *
        generalize andD (PL kids.length) = D at *
        have HR := Lib.hid hR
        clear hR
        have S1 := Lib.hid s1
        clear s1 hlt hE hpm hown hD hPd hn0 hlen
        go_wp2_with fail
        refine S1.out.mono ?_
        rintro e9 w3 ⟨⟨A3, c3, rfl, hp⟩, hb3⟩
        have kr3 := kr.stay hb3
        have hB3 := b_trans hb hb3
        have r0 := kr3.cell 0
        have r1 := kr3.cell 1
        have fr3 := kr3.frozen
        have hof := hp.off hmne kr3 (by simp [noF])
        simp at r0 r1
        clear S1 kr kb
        go_wp2_with fail
        refine bodyPost_ret (v := .agg #[.slice A3 n c3, .int .u8 D]) (by simp [results, Try.results48, go_sem, r0, r1]) rfl ⟨?_, ?_⟩
        · rw [HD.out, HR.out]
          refine ⟨A3, c3, by rw [HLEN.out, ← HN.out], ?_⟩
          exact ((hp.set hof _).set hof _).up (by simp)
        · exact b_set (b_set hB3 _ (Nat.le_succ _) _) _ (Nat.le_succ _) _
end Geo
end Go.Proofs.Ytllomldpbkeioaa
