/- Walks: the places of several points, read. -/
import Derived.Test.YtllomldpbkeioaaP6
import Derived.Test.YtllomldpbkeioaaTail
namespace Go.Proofs.Ytllomldpbkeioaa
open Go.RowKit Go.Sort
namespace Geo
set_option linter.unusedSimpArgs false
set_option maxHeartbeats 4000000 in
theorem mpdump_any (L : List Pt) (D : Nat) (hD : D < 4) (hL : ∀ q ∈ L, q.d = D) (A : Option Addr) (c : Nat) (hl : L.length ≤ 2000) (w : World) (hA : PtM w w.heap.size A L) :
    Calls Try.prog 49 #[.agg #[.slice A L.length c, .int .u8 D]] w fun r w' => SR D (ptNums L) r w' ∧ Below w.heap.size w w' := by
  obtain ⟨F, hF⟩ : ∃ F : Nat → List Nat, F = fun j => ptNums (L.take j) := ⟨_, rfl⟩
  have hF0 : F 0 = [] := by rw [hF]; rfl
  have hFn : ptNums L = F L.length := by rw [hF]; simp only [List.take_length]
  have hFl : ∀ j, (F j).length ≤ 8000 := fun j => by
    rw [hF]
    have h1 := ptNums_len (L.take j) (fun q hq => by rw [hL q (List.mem_of_mem_take hq)]; exact hD)
    rw [List.length_take] at h1
    show (ptNums (L.take j)).length ≤ 8000
    omega
  have hFs : ∀ j (h : j < L.length), (L[j].f = true → F (j + 1) = F j ++ numsOf L[j].d L[j].p) ∧ (L[j].f = false → F (j + 1) = F j) := fun j h => by
    rw [hF]
    have e : ptNums (L.take (j + 1)) = if L[j].f then ptNums (L.take j) ++ numsOf L[j].d L[j].p else ptNums (L.take j) := by rw [List.take_succ_eq_append_getElem h, ptNums_snoc]
    exact ⟨fun q => e.trans (if_pos q), fun q => e.trans (by rw [q]; rfl)⟩
  have hmod : (F L.length).length % wd D = 0 := by rw [← hFn]; exact ptNums_mod hD L hL
  have s1 := fun A n w => mpctype_any A n c D w
  have hwd := fun (w : World) => Calls.inClassEq (w := w) (fun w => dimension_any D hD w)
  have s9 := fun A n c hm hn w => newseq_any D hD A n c hm hn w
  have hw := wd_le D
  have hmm : ((L.length : Int) * (wd D : Int)) = ((L.length * wd D : Nat) : Int) := (Int.natCast_mul _ _).symm
  have hcap : L.length * wd D ≤ 8000 := Nat.le_trans (Nat.mul_le_mul_left _ hw.2) (by omega)
  have hmk := fun w => mk_cap (L.length * wd D) (by omega) w
  rw [hFn]
  generalize L.length * wd D = cap at *
  obtain ⟨Z, hZ⟩ : ∃ M, M = madeCells (Value.float .f64 0).cells cap := ⟨_, rfl⟩
  have hZs : Z.size = cap := by rw [hZ, size_madeCells]
  rw [← hZ] at hmk
  have HF0 := Lib.hid hF0
  have HFL := Lib.hid hFl
  have HFS := Lib.hid hFs
  have HMOD := Lib.hid hmod
  have S1 := Lib.hid s1
  clear hZ hF hF0 hFn hFl hFs hmod s1
  unfold SV at s9
  have S9 := Lib.hid s9
  clear s9
  have hb0 := b_alloc (b_alloc (Below.refl w.heap.size w) (.cells #[.slice A L.length c, .int .u8 D] 81)) (.cells #[.int .u8 0, .slice none 0 0] 55)
  have k0 := (Blk.newAt w 81 #[.slice A L.length c, .int .u8 D] rfl).alloc (.cells #[.int .u8 0, .slice none 0 0] 55)
  have k1 := Blk.newAt (w.alloc (.cells #[.slice A L.length c, .int .u8 D] 81)) 55 #[.int .u8 0, .slice none 0 0] (n := w.heap.size + 1) (by simp)
  go_enter Try.func49, Try.ntmps49
  go_wp2_with fail
  refine (S1.out _ _ _).mono ?_
  rintro e w1 ⟨rfl, hb1⟩
  have k0 := k0.stay hb1
  have k1 := k1.stay hb1
  have hB1 := b_trans hb0 hb1
  have o0 := k0.cell 0
  have z0 := k0.lt
  have z1 := k1.lt
  simp at o0
  clear S1
  go_wp2_with fail
  refine wp_tail_below 6 (by kernel_rfl) (by kernel_rfl) ?_
  simp only [List.take_succ_cons, List.take_zero, List.drop_succ_cons, List.drop_zero]
  repeat (go_big_quiet_step ((with_reducible exact hwd _ _)))
  refine wpQuiet_nil ?_
  intro w2 hb2
  have k0 := k0.stay hb2
  have k1 := k1.stay hb2
  have hB2 := b_trans hB1 hb2
  have z0 := k0.lt
  have z1 := k1.lt
  have o0 := k0.cell 0
  simp at o0
  have kz := Blk.new w2 66 Z
  have k0 := k0.alloc (.cells Z 66)
  have k1 := k1.alloc (.cells Z 66)
  have hB3 := b_alloc hB2 (.cells Z 66)
  have how := own_made (B := w.heap.size + 2) kz hZs (by omega) (by unfold maxLen; omega)
  clear hb1 hb2
  go_wp2_with fail
  go_loopw [4, 22] (fun lv i wr => ∃ (j n : Nat) (Ao : Option Addr) (co : Nat), j ≤ L.length ∧ lv = .slice Ao n co ∧ i = .int .i64 j ∧ wr.ownsRow (w.heap.size + 2) 66 1 (.slice Ao n co) n (fl (F j)) ∧ Blk wr (w.heap.size + 1) 55 #[.int .u8 0, .slice none 0 0] ∧ Below w.heap.size w wr) (fun _ i _ => L.length - (intOf i).toNat)
  case atStart => exact ⟨0, 0, some ⟨w2.heap.size, 0, none⟩, cap, Nat.zero_le _, rfl, rfl, by rw [HF0.out]; exact how, k1, hB3⟩
  case round =>
    clear k0 k1 hB3 how kz hB1 hB2 hb0 hmk o0
    obtain ⟨j, n, Ao, co, hj, rfl, rfl, hown, kr, hb⟩ := hrel
    obtain ⟨f1, f2, _⟩ := fs_of_own hown
    have hn : n ≤ 8000 := by have := HFL.out j; omega
    have HN := Lib.hid f2
    clear f2 f1
    by_cases hlt : j < L.length
    · obtain ⟨b, off, e0, hbl, q0, q1, q2, q3, q4, q5⟩ := (hA.below hb hb.size).at hlt
      have hq := hL L[j] (List.getElem_mem hlt)
      have hfs := HFS.out j hlt
      generalize L[j] = q at *
      have hq4 : q.d < 4 := by omega
      clear hq
      have s2 := fun w => pcoords_any q.p q.d q.f w
      unfold PV pCells CV at s2
      subst e0
      cases hf : q.f
      · rw [hf] at s2 q5
        have hfs1 := hfs.2 hf
        have HF1 := Lib.hid hfs1
        have S2 := Lib.hid s2
        clear s2 hfs hfs1 hf
        have hba := b_alloc (Below.refl wr.heap.size wr) (.cells #[.float .f64 q.p.x, .float .f64 q.p.y, .float .f64 q.p.z, .float .f64 q.p.m, .int .u8 q.d, .bool false] 100)
        have kr1 := kr.alloc (.cells #[.float .f64 q.p.x, .float .f64 q.p.y, .float .f64 q.p.z, .float .f64 q.p.m, .int .u8 q.d, .bool false] 100)
        have hown1 := own_below hown hba
        have hB1 := b_trans hb hba
        go_wp2_with fail
        refine (S2.out _).mono ?_
        rintro e9 w3 ⟨rfl, hb3⟩
        have hb4 := b_alloc hb3 (.cells #[.float .f64 q.p.x, .float .f64 q.p.y, .float .f64 q.p.z, .float .f64 q.p.m, .int .u8 q.d] 91)
        have kr3 := (kr1.stay hb3).alloc (.cells #[.float .f64 q.p.x, .float .f64 q.p.y, .float .f64 q.p.z, .float .f64 q.p.m, .int .u8 q.d] 91)
        have hown3 := own_below hown1 hb4
        have hB3 := b_trans hB1 hb4
        clear hba kr1 hown1 hB1 hb3 hb4 S2
        go_wp2_with fail
        go_roundw
        case rel => exact ⟨j + 1, n, Ao, co, by omega, rfl, by go_num, by rw [HF1.out]; exact hown3, kr3, hB3⟩
        case measure => simp [intOf]; omega
      · rw [hf] at s2 q5
        have hfs1 := hfs.1 hf
        have HF1 := Lib.hid hfs1
        have S2 := Lib.hid s2
        clear s2 hfs hfs1 hf
        have hba := b_alloc (Below.refl wr.heap.size wr) (.cells #[.float .f64 q.p.x, .float .f64 q.p.y, .float .f64 q.p.z, .float .f64 q.p.m, .int .u8 q.d, .bool true] 100)
        have kr1 := kr.alloc (.cells #[.float .f64 q.p.x, .float .f64 q.p.y, .float .f64 q.p.z, .float .f64 q.p.m, .int .u8 q.d, .bool true] 100)
        have hown1 := own_below hown hba
        have hB1 := b_trans hb hba
        go_wp2_with fail
        refine (S2.out _).mono ?_
        rintro e9 w3 ⟨rfl, hb3⟩
        have hb4 := b_alloc hb3 (.cells #[.float .f64 q.p.x, .float .f64 q.p.y, .float .f64 q.p.z, .float .f64 q.p.m, .int .u8 q.d] 91)
        have kr3 := (kr1.stay hb3).alloc (.cells #[.float .f64 q.p.x, .float .f64 q.p.y, .float .f64 q.p.z, .float .f64 q.p.m, .int .u8 q.d] 91)
        have hown3 := own_below hown1 hb4
        have hB3 := b_trans hB1 hb4
        clear hba kr1 hown1 hB1 hb3 hb4 S2
        go_wp2_with fail
        have s3 := appf_any q.p q.d hq4 (w.heap.size + 2) Ao n co (F j) (by omega) (w3.alloc (.cells #[.float .f64 q.p.x, .float .f64 q.p.y, .float .f64 q.p.z, .float .f64 q.p.m, .int .u8 q.d] 91)) (by have := kr3.lt; omega) hown3
        unfold AppR CV at s3
        have S3 := Lib.hid s3
        clear s3
        refine S3.out.mono ?_
        rintro e9 w5 ⟨A5, c5, rfl, hown5, hgr5⟩
        have kr5 := kr3.grown hgr5 (own_far hown3 (by omega))
        have hB5 := b_grown hB3 hgr5 hB3.size (fun b hb => by have := (hown3.lt b hb).1; omega)
        clear S3
        go_wp2_with fail
        go_roundw
        case rel => exact ⟨j + 1, n + wd q.d, A5, c5, by omega, rfl, by go_num, by rw [HF1.out]; exact hown5, kr5, hB5⟩
        case measure => simp [intOf]; omega
    · obtain rfl : j = L.length := by omega
      obtain ⟨g1, g2, g3⟩ := fs_of_own hown
      have s9 := fun w => S9.out Ao n co (by rw [HN.out]; exact HMOD.out) (by omega) w
      have S10 := Lib.hid s9
      have hba : n = (F L.length).length := g2
      have G2 := Lib.hid g2
      clear s9 S9 g2 hba hlt hown
      go_wp2_with fail
      refine (S10.out _).mono ?_
      rintro e9 w3 ⟨rfl, hb3⟩
      have kr3 := kr.stay hb3
      have hB3 := b_trans hb hb3
      have hf3 := g3.below hb3 hb3.size
      have r0 := kr3.cell 0
      have r1 := kr3.cell 1
      have fr := kr3.frozen
      have zr := kr3.lt
      have hof := hf3.off kr3 (by simp [noF])
      simp at r0 r1
      clear S10
      go_wp2_with fail
      have hset := b_set (b_set hB3 ⟨w.heap.size + 1, 0, none⟩ (by simp) (.int .u8 D)) ⟨w.heap.size + 1, 1, none⟩ (by simp) (.slice Ao n co)
      have hfset := ((hf3.set hof 0 (.int .u8 D)).set hof 1 (.slice Ao n co)).up (B' := ((w3.setCell ⟨w.heap.size + 1, 0, none⟩ (.int .u8 D)).setCell ⟨w.heap.size + 1, 1, none⟩ (.slice Ao n co)).heap.size) (by simp)
      have hba := b_alloc (Below.refl ((w3.setCell ⟨w.heap.size + 1, 0, none⟩ (.int .u8 D)).setCell ⟨w.heap.size + 1, 1, none⟩ (.slice Ao n co)).heap.size _) (.cells #[.int .u8 D, .slice Ao n co] 55)
      have kF := ((kr3.set_ 0 (.int .u8 D)).set_ 1 (.slice Ao n co)).alloc (.cells #[.int .u8 D, .slice Ao n co] 55)
      have w0 := kF.cell 0
      have w1' := kF.cell 1
      simp only [List.setIfInBounds_toArray, List.set_cons_zero, List.set_cons_succ, List.getElem?_toArray, List.getElem?_cons_zero, List.getElem?_cons_succ] at w0 w1'
      refine bodyPost_ret (v := .agg #[.int .u8 D, .slice Ao n co]) (by simp [results, Try.results49, go_sem, w0, w1']) rfl ⟨⟨Ao, co, by rw [← G2.out]; rfl, g1, hfset.below hba hba.size⟩, b_alloc hset _⟩
end Geo
end Go.Proofs.Ytllomldpbkeioaa
