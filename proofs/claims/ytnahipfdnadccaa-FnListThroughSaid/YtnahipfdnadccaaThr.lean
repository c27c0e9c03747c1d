/- The walk over the law FnListThrough. Conditions of this file: none. -/
import Derived.Test.YtnahipfdnadccaaThrB
import Derived.Deep.DeepCutAuto
namespace Go.Proofs.Ytnahipfdnadccaa
open Go.RowKit

set_option maxRecDepth 100000 in
set_option maxHeartbeats 12000000 in
theorem thr_w (c d : Int) (ah : Bool) (w : World) (hc : 0 ≤ c ∧ c ≤ 65535) (hd : 0 ≤ d ∧ d ≤ 65535) (hG : Glob w) :
    Calls Try.prog 11 #[.int .u16 c, .int .u16 d, .bool ah] w fun e w' => e = .returned (.bool true) ∧ Below w.heap.size w w' := by
  obtain ⟨r, hcr⟩ : ∃ r : Nat, c.tmod 2500 = r := ⟨(c.tmod 2500).toNat, by have := Int.tmod_nonneg 2500 hc.1; omega⟩
  have hr : r < 2500 := by have := Int.tmod_lt_of_pos c (b := 2500) (by omega); omega
  obtain ⟨n, hnr⟩ : ∃ n : Nat, n = 1 + r := ⟨_, rfl⟩
  obtain ⟨k, hdk⟩ : ∃ k : Nat, d.tmod n = k := ⟨(d.tmod n).toNat, by have := Int.tmod_nonneg n hd.1; omega⟩
  have hk : k < n := by have := Int.tmod_lt_of_pos d (b := n) (by omega); omega
  have hn1 : 1 ≤ n := by omega
  have hn : n ≤ 2500 := by omega
  have hwc : IntKind.i64.wrap c = c := by rw [IntKind.wrap_i64]; omega
  have hwd : IntKind.i64.wrap d = d := by rw [IntKind.wrap_i64]; omega
  have hwn : IntKind.i64.wrap (1 + (r : Int)) = (n : Int) := by rw [IntKind.wrap_i64]; omega
  have hn0 : ¬ (n = 0) := by omega
  obtain ⟨kk, hkk⟩ : ∃ kk, kk = undK ah := ⟨_, rfl⟩
  have HG := Lib.hid hG
  have HRN := Lib.hid (thrRun ah n hn)
  have HK := Lib.hid hkk
  have HRR := Lib.hid hnr
  clear hG hc hd hkk hnr
  go_enter Try.func11, Try.ntmps11
  go_upto_if 27 with (fail)
  go_cut [8, 27] from 28 to 28 (fun v8 _ wc => v8 = .int .u8 (kk : Int) ∧ wc = w)
  case first =>
    cases ah with
    | false =>
      go_wp2_with fail
      go_meet
      case rel => exact ⟨by rw [HK.out]; rfl, rfl⟩
    | true =>
      go_wp2_with fail
      go_meet
      case rel => exact ⟨by rw [HK.out]; rfl, rfl⟩
  case rest =>
    obtain ⟨rfl, rfl⟩ := hcut
    have hst := heap_alloc_last wc (.cells (thrT ah n |>.flatMap Stp.cells).toArray 29)
    have hb1 : Below wc.heap.size wc (wc.alloc (.cells (thrT ah n |>.flatMap Stp.cells).toArray 29)) := (Below.refl _ wc).alloc (Nat.le_refl _) _
    have hG1 := HG.out.stay (Stay.of_below hb1)
    have hrun := listRun_n _ (.slice none 0 0) 0 [] (thrT ah n) wc.heap.size 0 1 (lt_of_block hst) (steps_at hst) (new0 _) (show 0 + 100000 * (1 + 1) < 33554431 by decide) hG1
    rw [HRN.out, show (thrT ah n).length = 1 from rfl] at hrun
    have HRUN := Lib.hid hrun
    have hX : (thrT ah n |>.flatMap Stp.cells).toArray = #[.int .u8 (kk : Int), .int .i64 0, .int .i64 (n : Int), .int .i64 0, .int .i64 11] := by rw [HK.out]; rfl
    rw [hX] at HRUN hb1 hst hG1
    have HB1 := Lib.hid hb1
    have HST := Lib.hid hst
    have HG1 := Lib.hid hG1
    have HX0 := Lib.hid hX
    clear hst hrun hX hb1 hG1 HG
    go_upto_region 6 with (fail)
    generalize wc.alloc (Obj.cells #[.int .u8 (kk : Int), .int .i64 0, .int .i64 (n : Int), .int .i64 0, .int .i64 11] 29) = w1 at HRUN HB1 HST HG1 ⊢
    have HSB : Hid (wc.heap.size < w1.heap.size) := lt_of_block HST.out
    have HBW : Hid (wc.heap.size ≤ wc.heap.size) := Nat.le_refl _
    obtain ⟨sb, hsb⟩ : ∃ sb, sb = wc.heap.size := ⟨_, rfl⟩
    rw [← hsb] at HRUN HST HSB ⊢
    clear hsb HBW
    go_wp2_with fail
    refine HRUN.out.mono ?_
    rintro e2 w2 ⟨l, p', rfl, hb, ⟨g, cap, rfl, ho⟩, ⟨pa, pc, rfl, hp⟩⟩
    clear HRUN hp
    obtain ⟨a1, c1, hc1, hv1⟩ := ho 1 (thrX ah n) rfl
    have hXl := thrX_len ah n
    obtain ⟨X, hX⟩ : ∃ X, X = thrX ah n := ⟨_, rfl⟩
    rw [← hX] at hc1 hv1 hXl
    obtain ⟨ax, cx, hax, -, hcx⟩ := hv1
    rw [hXl] at hc1
    obtain ⟨gx, ox, hgo, -⟩ := hcx 0 (.int .i64 (X.getD 0 0)) (by rw [List.getElem?_map, getD_at (by omega)]; rfl)
    rw [List.length_map, hXl] at hax
    simp only [Value.slice.injEq] at hax
    obtain ⟨rfl, -, rfl⟩ := hax
    subst hgo
    have HX : Hid (∀ (i : Nat) (x : Int), X[i]? = some x → w2.cell? ⟨gx, ox + i, none⟩ = some (.int .i64 x)) := fun i x hx => by
      obtain ⟨g', o', h1, h2⟩ := hcx i (.int .i64 x) (by rw [List.getElem?_map, hx]; rfl)
      simp only [Option.some.injEq, Addr.mk.injEq] at h1
      obtain ⟨rfl, rfl, -⟩ := h1
      exact h2
    have HLT : Hid (g < w2.heap.size) := World.block_lt_of_cell? w2 _ hc1
    have HLX : Hid (gx < w2.heap.size) := World.block_lt_of_cell? w2 _ (HX.out 0 _ (getD_at (by omega)))
    have HC1 := Lib.hid hc1
    have HXL := Lib.hid hXl
    have HEX := Lib.hid hX
    have HB2 : Hid (Below w1.heap.size w1 w2) := hb
    have hnn : ((n : Int) != (n : Int)) = false := by simp
    have hn0' : (0 : Int) < (n : Int) := by omega
    clear ho hcx hXl hb hX
    simp only [List.length_cons, List.length_nil, Nat.zero_add, Nat.reduceAdd]
    go_wp2_with fail
    clear hc1
    go_loopg [13, 14, 53] n (fun q v13 v14 v53 wr => ∃ j : Nat, j + q = n ∧ v53 = .int .i64 (j : Int) ∧ St w2 wr v13 (nexts j) v14 (wantA X j))
    case atStart => exact ⟨0, by omega, rfl, St.nil _ _ (Below.refl _ _)⟩
    case round =>
      obtain ⟨j, hjk, rfl, hS⟩ := hrel
      have HS := Lib.hid hS
      clear hS
      by_cases hlt : j < n
      · have h1 : decide ((j : Int) < (n : Int)) = true := by simp; omega
        have hw1 : IntKind.i64.wrap ((j : Int) + 1) = ((j + 1 : Nat) : Int) := by rw [IntKind.wrap_i64]; omega
        have HXJ : Hid (w2.cell? ⟨gx, ox + j, none⟩ = some (.int .i64 (X.getD j 0))) := HX.out _ _ (getD_at (by have := HXL.out; omega))
        obtain ⟨y, hy⟩ : ∃ y, y = X.getD j 0 := ⟨_, rfl⟩
        rw [← hy] at HXJ
        have HY := Lib.hid hy
        clear hy
        go_upto_region 15 with (fail)
        have HR0 : Hid (Below w2.heap.size w2 wr.drew) := HS.out.below.drew
        have HS0 := Lib.hid HS.out.drew
        clear HS
        have HS := Lib.hid HS0.out
        clear HS0
        refine region_tree (fun W => Below w2.heap.size w2 W) (.two [0, 1, 4, 5, 6, 7, 8, 9, 10] 2 (.two [] 3 (.one [] 11 (.one [] 12 (.one [] 13 (.one [] 14 .stop)))) 11 (.one [] 3 (.one [] 12 (.one [] 13 (.one [] 14 .stop))))) 11 (.one [] 2 (.one [] 3 (.one [] 12 (.one [] 13 (.one [] 14 .stop)))))) (by kernel_rfl) (by intro dst v c a w h; cases dst <;> exact h) (by kernel_rfl) HR0.out ?_
        clear HR0
        generalize wr.drew = wq at HS ⊢
        refine t_two ?_
        simp only [opsOf, List.getElem?_toArray, List.getElem?_cons_succ, List.getElem?_cons_zero]
        repeat (refine r_read ?_ (by kernel_rfl) ?_ (fun K hK => ?_); rotate_left 1; (intro W hR; have hc1 := (hR.cell HLT.out).trans HC1.out; have hx := (hR.cell HLX.out).trans HXJ.out; clear hR; go_simp; try with_reducible rfl); go_simp; refine hK _ ?_; clear hK K)
        refine t_nil2 ?_ ?_
        · refine r_op rfl (fun K hK => ?_)
          go_simp
          have hs := HS.out.alloc (.cells #[.int .u8 0, .int .i64 0] 54)
          have hq := heap_alloc_last wq (.cells #[.int .u8 0, .int .i64 0] 54)
          clear HS
          refine hK _ _ hs.below ?_
          clear hK K
          generalize wq.alloc (.cells #[.int .u8 0, .int .i64 0] 54) = x1 at hs hq ⊢
          generalize wq.heap.size = qm at hq ⊢
          have HS := Lib.hid hs
          have HQM := Lib.hid hq
          clear hs hq
          refine t_two0 ?_ ?_
          · refine r_op rfl (fun K hK => ?_)
            refine ite_yes (by kernel_rfl) ?_
            refine wp_app_mov (.tmp 56) (.tmp 58) rfl HS.out rfl qm ⟨0, 0⟩ rfl HQM.out (by simp [nexts_len]; omega) ?_
            intro mv' x2 hs hk
            clear HS hk HQM
            go_simp
            refine hK _ _ hs.below ?_
            clear hK K
            have HS := Lib.hid hs
            clear hs
            refine t_one0 ?_
            refine r_op rfl (fun K hK => ?_)
            go_simp
            have hs := HS.out.alloc (.cells #[.int .i64 y] 2)
            have hq := heap_alloc_last x2 (.cells #[.int .i64 y] 2)
            clear HS
            refine hK _ _ hs.below ?_
            clear hK K
            generalize x2.alloc (.cells #[.int .i64 y] 2) = x3 at hs hq ⊢
            generalize x2.heap.size = qw at hq ⊢
            have HS := Lib.hid hs
            have HQW := Lib.hid hq
            clear hs hq
            refine t_one0 ?_
            refine r_op rfl (fun K hK => ?_)
            refine ite_yes (by kernel_rfl) ?_
            refine wp_app_want (.tmp 60) (.tmp 67) rfl HS.out rfl qw y rfl HQW.out (by simp [wantA]; omega) ?_
            intro wv' x4 hs hk
            clear HS hk HQW
            go_simp
            refine hK _ _ hs.below ?_
            clear hK K
            have HS := Lib.hid hs
            clear hs
            refine t_one0 ?_
            refine r_op rfl (fun K hK => ?_)
            go_simp
            refine hK _ _ HS.out.below ?_
            clear hK K
            refine t_one0 ?_
            refine r_op rfl (fun K hK => ?_)
            go_simp
            refine hK _ _ HS.out.below ?_
            clear hK K
            refine t_end ?_
            go_wp2_with fail
            go_roundg (gk - 1)
            case measure => omega
            case rel => exact ⟨j + 1, by omega, rfl, by rw [nexts_succ, wantA_succ, ← HY.out]; exact HS.out⟩
          · refine r_op rfl (fun K hK => ?_)
            go_simp
            have hs := HS.out.alloc (.cells #[.int .i64 y] 2)
            have hq := heap_alloc_last x1 (.cells #[.int .i64 y] 2)
            have hm := ((But.refl (fun _ => False) x1).alloc (.cells #[.int .i64 y] 2)).at HQM.out id
            clear HS HQM
            refine hK _ _ hs.below ?_
            clear hK K
            generalize x1.alloc (.cells #[.int .i64 y] 2) = x2 at hs hq hm ⊢
            generalize x1.heap.size = qw at hq ⊢
            have HS := Lib.hid hs
            have HQM := Lib.hid hm
            have HQW := Lib.hid hq
            clear hs hm hq
            refine t_one0 ?_
            refine r_op rfl (fun K hK => ?_)
            refine ite_yes (by kernel_rfl) ?_
            refine wp_app_mov (.tmp 56) (.tmp 58) rfl HS.out rfl qm ⟨0, 0⟩ rfl HQM.out (by simp [nexts_len]; omega) ?_
            intro mv' x3 hs hk
            have hw := hk _ _ _ _ HQW.out (by decide)
            clear HS hk HQM HQW
            go_simp
            refine hK _ _ hs.below ?_
            clear hK K
            have HS := Lib.hid hs
            have HQW := Lib.hid hw
            clear hs hw
            refine t_one0 ?_
            refine r_op rfl (fun K hK => ?_)
            refine ite_yes (by kernel_rfl) ?_
            refine wp_app_want (.tmp 60) (.tmp 67) rfl HS.out rfl qw y rfl HQW.out (by simp [wantA]; omega) ?_
            intro wv' x4 hs hk
            clear HS hk HQW
            go_simp
            refine hK _ _ hs.below ?_
            clear hK K
            have HS := Lib.hid hs
            clear hs
            refine t_one0 ?_
            refine r_op rfl (fun K hK => ?_)
            go_simp
            refine hK _ _ HS.out.below ?_
            clear hK K
            refine t_one0 ?_
            refine r_op rfl (fun K hK => ?_)
            go_simp
            refine hK _ _ HS.out.below ?_
            clear hK K
            refine t_end ?_
            go_wp2_with fail
            go_roundg (gk - 1)
            case measure => omega
            case rel => exact ⟨j + 1, by omega, rfl, by rw [nexts_succ, wantA_succ, ← HY.out]; exact HS.out⟩
        · refine r_op rfl (fun K hK => ?_)
          go_simp
          have hs := HS.out.alloc (.cells #[.int .i64 y] 2)
          have hq := heap_alloc_last wq (.cells #[.int .i64 y] 2)
          clear HS
          refine hK _ _ hs.below ?_
          clear hK K
          generalize wq.alloc (.cells #[.int .i64 y] 2) = x1 at hs hq ⊢
          generalize wq.heap.size = qw at hq ⊢
          have HS := Lib.hid hs
          have HQW := Lib.hid hq
          clear hs hq
          refine t_one0 ?_
          refine r_op rfl (fun K hK => ?_)
          go_simp
          have hs := HS.out.alloc (.cells #[.int .u8 0, .int .i64 0] 54)
          have hq := heap_alloc_last x1 (.cells #[.int .u8 0, .int .i64 0] 54)
          have hw := ((But.refl (fun _ => False) x1).alloc (.cells #[.int .u8 0, .int .i64 0] 54)).at HQW.out id
          clear HS HQW
          refine hK _ _ hs.below ?_
          clear hK K
          generalize x1.alloc (.cells #[.int .u8 0, .int .i64 0] 54) = x2 at hs hq hw ⊢
          generalize x1.heap.size = qm at hq ⊢
          have HS := Lib.hid hs
          have HQW := Lib.hid hw
          have HQM := Lib.hid hq
          clear hs hw hq
          refine t_one0 ?_
          refine r_op rfl (fun K hK => ?_)
          refine ite_yes (by kernel_rfl) ?_
          refine wp_app_mov (.tmp 56) (.tmp 58) rfl HS.out rfl qm ⟨0, 0⟩ rfl HQM.out (by simp [nexts_len]; omega) ?_
          intro mv' x3 hs hk
          have hw := hk _ _ _ _ HQW.out (by decide)
          clear HS hk HQM HQW
          go_simp
          refine hK _ _ hs.below ?_
          clear hK K
          have HS := Lib.hid hs
          have HQW := Lib.hid hw
          clear hs hw
          refine t_one0 ?_
          refine r_op rfl (fun K hK => ?_)
          refine ite_yes (by kernel_rfl) ?_
          refine wp_app_want (.tmp 60) (.tmp 67) rfl HS.out rfl qw y rfl HQW.out (by simp [wantA]; omega) ?_
          intro wv' x4 hs hk
          clear HS hk HQW
          go_simp
          refine hK _ _ hs.below ?_
          clear hK K
          have HS := Lib.hid hs
          clear hs
          refine t_one0 ?_
          refine r_op rfl (fun K hK => ?_)
          go_simp
          refine hK _ _ HS.out.below ?_
          clear hK K
          refine t_one0 ?_
          refine r_op rfl (fun K hK => ?_)
          go_simp
          refine hK _ _ HS.out.below ?_
          clear hK K
          refine t_end ?_
          go_wp2_with fail
          go_roundg (gk - 1)
          case measure => omega
          case rel => exact ⟨j + 1, by omega, rfl, by rw [nexts_succ, wantA_succ, ← HY.out]; exact HS.out⟩
      · have h1 : decide ((j : Int) < (n : Int)) = false := by simp; omega
        obtain rfl : n = j := by omega
        go_wp2_with (at_builtin; refine wpList_app_mov rfl (.tmp 70) (.tmp 72) rfl (HS.out.alloc _) rfl _ ⟨3, 0⟩ rfl (heap_alloc_last _ _) (by simp [nexts_len]; omega) ?_)
        intro mv2 w5 hs5 _
        have HS' := Lib.hid hs5
        clear HS hs5
        have HS := Lib.hid HS'.out
        clear HS'
        go_wp2_with fail
        go_loopg [13, 14, 75] n (fun q v13 v14 v75 wr => ∃ j : Nat, j + q = n ∧ v75 = .int .i64 (j : Int) ∧ St w2 wr v13 (nexts n ++ [⟨3, 0⟩] ++ prevs j) v14 (wantA X n ++ wantB X j))
        case atStart => exact ⟨0, by omega, rfl, by simpa [prevs, wantB] using HS.out⟩
        case round =>
          obtain ⟨j, hjk, rfl, hS⟩ := hrel
          have HS := Lib.hid hS
          clear hS
          by_cases hlt : j < n
          · have h1 : decide ((j : Int) < (n : Int)) = true := by simp; omega
            have hw1 : IntKind.i64.wrap ((j : Int) + 1) = ((j + 1 : Nat) : Int) := by rw [IntKind.wrap_i64]; omega
            have hw2 : IntKind.i64.wrap ((n : Int) - 1) = ((n - 1 : Nat) : Int) := by rw [IntKind.wrap_i64]; omega
            have hw3 : IntKind.i64.wrap (((n - 1 : Nat) : Int) - (j : Int)) = ((n - 1 - j : Nat) : Int) := by rw [IntKind.wrap_i64]; omega
            have h2 : ((n - 1 - j : Nat) : Int) < (n : Int) := by omega
            have h3 : n - 1 - j < n := by omega
            have HXJ : Hid (w2.cell? ⟨gx, ox + (n - 1 - j), none⟩ = some (.int .i64 (X.getD (n - 1 - j) 0))) := HX.out _ _ (getD_at (by have := HXL.out; omega))
            obtain ⟨y, hy⟩ : ∃ y, y = X.getD (n - 1 - j) 0 := ⟨_, rfl⟩
            rw [← hy] at HXJ
            have HY := Lib.hid hy
            clear hy
            go_upto_region 21 with (fail)
            have HR0 : Hid (Below w2.heap.size w2 wr.drew) := HS.out.below.drew
            have HS0 := Lib.hid HS.out.drew
            clear HS
            have HS := Lib.hid HS0.out
            clear HS0
            refine region_tree (fun W => Below w2.heap.size w2 W) (.two [0, 1, 4, 5, 6, 7, 8, 9, 10, 11, 12, 13] 2 (.two [] 3 (.one [] 14 (.one [] 15 (.one [] 16 (.one [] 17 .stop)))) 14 (.one [] 3 (.one [] 15 (.one [] 16 (.one [] 17 .stop))))) 14 (.one [] 2 (.one [] 3 (.one [] 15 (.one [] 16 (.one [] 17 .stop)))))) (by kernel_rfl) (by intro dst v c a w h; cases dst <;> exact h) (by kernel_rfl) HR0.out ?_
            clear HR0
            generalize wr.drew = wq at HS ⊢
            refine t_two ?_
            simp only [opsOf, List.getElem?_toArray, List.getElem?_cons_succ, List.getElem?_cons_zero]
            repeat (refine r_read ?_ (by kernel_rfl) ?_ (fun K hK => ?_); rotate_left 1; (intro W hR; have hc1 := (hR.cell HLT.out).trans HC1.out; have hx := (hR.cell HLX.out).trans HXJ.out; clear hR; go_simp; try with_reducible rfl); go_simp; refine hK _ ?_; clear hK K)
            refine t_nil2 ?_ ?_
            · refine r_op rfl (fun K hK => ?_)
              go_simp
              have hs := HS.out.alloc (.cells #[.int .u8 1, .int .i64 0] 54)
              have hq := heap_alloc_last wq (.cells #[.int .u8 1, .int .i64 0] 54)
              clear HS
              refine hK _ _ hs.below ?_
              clear hK K
              generalize wq.alloc (.cells #[.int .u8 1, .int .i64 0] 54) = x1 at hs hq ⊢
              generalize wq.heap.size = qm at hq ⊢
              have HS := Lib.hid hs
              have HQM := Lib.hid hq
              clear hs hq
              refine t_two0 ?_ ?_
              · refine r_op rfl (fun K hK => ?_)
                refine ite_yes (by kernel_rfl) ?_
                refine wp_app_mov (.tmp 78) (.tmp 80) rfl HS.out rfl qm ⟨1, 0⟩ rfl HQM.out (by simp [nexts_len, prevs_len]; omega) ?_
                intro mv' x2 hs hk
                clear HS hk HQM
                go_simp
                refine hK _ _ hs.below ?_
                clear hK K
                have HS := Lib.hid hs
                clear hs
                refine t_one0 ?_
                refine r_op rfl (fun K hK => ?_)
                go_simp
                have hs := HS.out.alloc (.cells #[.int .i64 y] 2)
                have hq := heap_alloc_last x2 (.cells #[.int .i64 y] 2)
                clear HS
                refine hK _ _ hs.below ?_
                clear hK K
                generalize x2.alloc (.cells #[.int .i64 y] 2) = x3 at hs hq ⊢
                generalize x2.heap.size = qw at hq ⊢
                have HS := Lib.hid hs
                have HQW := Lib.hid hq
                clear hs hq
                refine t_one0 ?_
                refine r_op rfl (fun K hK => ?_)
                refine ite_yes (by kernel_rfl) ?_
                refine wp_app_want (.tmp 82) (.tmp 92) rfl HS.out rfl qw y rfl HQW.out (by simp [wantA, wantB]; omega) ?_
                intro wv' x4 hs hk
                clear HS hk HQW
                go_simp
                refine hK _ _ hs.below ?_
                clear hK K
                have HS := Lib.hid hs
                clear hs
                refine t_one0 ?_
                refine r_op rfl (fun K hK => ?_)
                go_simp
                refine hK _ _ HS.out.below ?_
                clear hK K
                refine t_one0 ?_
                refine r_op rfl (fun K hK => ?_)
                go_simp
                refine hK _ _ HS.out.below ?_
                clear hK K
                refine t_end ?_
                go_wp2_with fail
                go_roundg (gk - 1)
                case measure => omega
                case rel => exact ⟨j + 1, by omega, rfl, by rw [prevs_succ, wantB_succ, HXL.out, ← HY.out, ← List.append_assoc, ← List.append_assoc]; exact HS.out⟩
              · refine r_op rfl (fun K hK => ?_)
                go_simp
                have hs := HS.out.alloc (.cells #[.int .i64 y] 2)
                have hq := heap_alloc_last x1 (.cells #[.int .i64 y] 2)
                have hm := ((But.refl (fun _ => False) x1).alloc (.cells #[.int .i64 y] 2)).at HQM.out id
                clear HS HQM
                refine hK _ _ hs.below ?_
                clear hK K
                generalize x1.alloc (.cells #[.int .i64 y] 2) = x2 at hs hq hm ⊢
                generalize x1.heap.size = qw at hq ⊢
                have HS := Lib.hid hs
                have HQM := Lib.hid hm
                have HQW := Lib.hid hq
                clear hs hm hq
                refine t_one0 ?_
                refine r_op rfl (fun K hK => ?_)
                refine ite_yes (by kernel_rfl) ?_
                refine wp_app_mov (.tmp 78) (.tmp 80) rfl HS.out rfl qm ⟨1, 0⟩ rfl HQM.out (by simp [nexts_len, prevs_len]; omega) ?_
                intro mv' x3 hs hk
                have hw := hk _ _ _ _ HQW.out (by decide)
                clear HS hk HQM HQW
                go_simp
                refine hK _ _ hs.below ?_
                clear hK K
                have HS := Lib.hid hs
                have HQW := Lib.hid hw
                clear hs hw
                refine t_one0 ?_
                refine r_op rfl (fun K hK => ?_)
                refine ite_yes (by kernel_rfl) ?_
                refine wp_app_want (.tmp 82) (.tmp 92) rfl HS.out rfl qw y rfl HQW.out (by simp [wantA, wantB]; omega) ?_
                intro wv' x4 hs hk
                clear HS hk HQW
                go_simp
                refine hK _ _ hs.below ?_
                clear hK K
                have HS := Lib.hid hs
                clear hs
                refine t_one0 ?_
                refine r_op rfl (fun K hK => ?_)
                go_simp
                refine hK _ _ HS.out.below ?_
                clear hK K
                refine t_one0 ?_
                refine r_op rfl (fun K hK => ?_)
                go_simp
                refine hK _ _ HS.out.below ?_
                clear hK K
                refine t_end ?_
                go_wp2_with fail
                go_roundg (gk - 1)
                case measure => omega
                case rel => exact ⟨j + 1, by omega, rfl, by rw [prevs_succ, wantB_succ, HXL.out, ← HY.out, ← List.append_assoc, ← List.append_assoc]; exact HS.out⟩
            · refine r_op rfl (fun K hK => ?_)
              go_simp
              have hs := HS.out.alloc (.cells #[.int .i64 y] 2)
              have hq := heap_alloc_last wq (.cells #[.int .i64 y] 2)
              clear HS
              refine hK _ _ hs.below ?_
              clear hK K
              generalize wq.alloc (.cells #[.int .i64 y] 2) = x1 at hs hq ⊢
              generalize wq.heap.size = qw at hq ⊢
              have HS := Lib.hid hs
              have HQW := Lib.hid hq
              clear hs hq
              refine t_one0 ?_
              refine r_op rfl (fun K hK => ?_)
              go_simp
              have hs := HS.out.alloc (.cells #[.int .u8 1, .int .i64 0] 54)
              have hq := heap_alloc_last x1 (.cells #[.int .u8 1, .int .i64 0] 54)
              have hw := ((But.refl (fun _ => False) x1).alloc (.cells #[.int .u8 1, .int .i64 0] 54)).at HQW.out id
              clear HS HQW
              refine hK _ _ hs.below ?_
              clear hK K
              generalize x1.alloc (.cells #[.int .u8 1, .int .i64 0] 54) = x2 at hs hq hw ⊢
              generalize x1.heap.size = qm at hq ⊢
              have HS := Lib.hid hs
              have HQW := Lib.hid hw
              have HQM := Lib.hid hq
              clear hs hw hq
              refine t_one0 ?_
              refine r_op rfl (fun K hK => ?_)
              refine ite_yes (by kernel_rfl) ?_
              refine wp_app_mov (.tmp 78) (.tmp 80) rfl HS.out rfl qm ⟨1, 0⟩ rfl HQM.out (by simp [nexts_len, prevs_len]; omega) ?_
              intro mv' x3 hs hk
              have hw := hk _ _ _ _ HQW.out (by decide)
              clear HS hk HQM HQW
              go_simp
              refine hK _ _ hs.below ?_
              clear hK K
              have HS := Lib.hid hs
              have HQW := Lib.hid hw
              clear hs hw
              refine t_one0 ?_
              refine r_op rfl (fun K hK => ?_)
              refine ite_yes (by kernel_rfl) ?_
              refine wp_app_want (.tmp 82) (.tmp 92) rfl HS.out rfl qw y rfl HQW.out (by simp [wantA, wantB]; omega) ?_
              intro wv' x4 hs hk
              clear HS hk HQW
              go_simp
              refine hK _ _ hs.below ?_
              clear hK K
              have HS := Lib.hid hs
              clear hs
              refine t_one0 ?_
              refine r_op rfl (fun K hK => ?_)
              go_simp
              refine hK _ _ HS.out.below ?_
              clear hK K
              refine t_one0 ?_
              refine r_op rfl (fun K hK => ?_)
              go_simp
              refine hK _ _ HS.out.below ?_
              clear hK K
              refine t_end ?_
              go_wp2_with fail
              go_roundg (gk - 1)
              case measure => omega
              case rel => exact ⟨j + 1, by omega, rfl, by rw [prevs_succ, wantB_succ, HXL.out, ← HY.out, ← List.append_assoc, ← List.append_assoc]; exact HS.out⟩
          · have h1 : decide ((j : Int) < (n : Int)) = false := by simp; omega
            obtain rfl : n = j := by omega
            go_wp2_with (at_builtin; refine wpList_app_mov rfl (.tmp 95) (.tmp 98) rfl (HS.out.alloc _) rfl _ ⟨4, (k : Int)⟩ rfl (heap_alloc_last _ _) (by simp [nexts_len, prevs_len]; omega) ?_)
            intro mv2 w5 hs5 _
            have HS' := Lib.hid hs5
            clear HS hs5
            have HS := Lib.hid HS'.out
            clear HS'
            go_wp2_with fail
            go_loopg [13, 14, 17] (n - k) (fun q v13 v14 v17 wr => ∃ (mv wv : Value) (j i : Nat), mv = v13 ∧ wv = v14 ∧ i = k + j ∧ j + q = n - k ∧ v17 = .int .i64 (i : Int) ∧ St w2 wr v13 (nexts n ++ [⟨3, 0⟩] ++ prevs n ++ [⟨4, (k : Int)⟩] ++ nexts j) v14 (wantA X n ++ wantB X n ++ wantC X k j))
            case atStart => exact ⟨_, _, 0, k, rfl, rfl, rfl, by omega, rfl, by simpa [nexts, wantC] using HS.out⟩
            case round =>
              obtain ⟨v13, v14, j, i, rfl, rfl, hi, hjk, rfl, hS⟩ := hrel
              have HS := Lib.hid hS
              clear hS
              by_cases hlt : j < n - k
              · have h1 : decide ((i : Int) < (n : Int)) = true := by simp; omega
                have hw1 : IntKind.i64.wrap ((i : Int) + 1) = ((i + 1 : Nat) : Int) := by rw [IntKind.wrap_i64]; omega
                have h3 : i < n := by omega
                have HI := Lib.hid hi
                clear hi
                have HXJ : Hid (w2.cell? ⟨gx, ox + i, none⟩ = some (.int .i64 (X.getD i 0))) := HX.out _ _ (getD_at (by have := HXL.out; omega))
                obtain ⟨y, hy⟩ : ∃ y, y = X.getD i 0 := ⟨_, rfl⟩
                rw [← hy] at HXJ
                have HY := Lib.hid hy
                clear hy
                go_upto_region 27 with (fail)
                have HR0 : Hid (Below w2.heap.size w2 wr.drew) := HS.out.below.drew
                have HS0 := Lib.hid HS.out.drew
                clear HS
                have HS := Lib.hid HS0.out
                clear HS0
                refine region_tree (fun W => Below w2.heap.size w2 W) (.two [0, 1, 4, 5, 6, 7, 8, 9, 10] 2 (.two [] 3 (.one [] 11 (.one [] 12 (.one [] 13 (.one [] 14 .stop)))) 11 (.one [] 3 (.one [] 12 (.one [] 13 (.one [] 14 .stop))))) 11 (.one [] 2 (.one [] 3 (.one [] 12 (.one [] 13 (.one [] 14 .stop)))))) (by kernel_rfl) (by intro dst v c a w h; cases dst <;> exact h) (by kernel_rfl) HR0.out ?_
                clear HR0
                generalize wr.drew = wq at HS ⊢
                refine t_two ?_
                simp only [opsOf, List.getElem?_toArray, List.getElem?_cons_succ, List.getElem?_cons_zero]
                repeat (refine r_read ?_ (by kernel_rfl) ?_ (fun K hK => ?_); rotate_left 1; (intro W hR; have hc1 := (hR.cell HLT.out).trans HC1.out; have hx := (hR.cell HLX.out).trans HXJ.out; clear hR; go_simp; try with_reducible rfl); go_simp; refine hK _ ?_; clear hK K)
                refine t_nil2 ?_ ?_
                · refine r_op rfl (fun K hK => ?_)
                  go_simp
                  have hs := HS.out.alloc (.cells #[.int .u8 0, .int .i64 0] 54)
                  have hq := heap_alloc_last wq (.cells #[.int .u8 0, .int .i64 0] 54)
                  clear HS
                  refine hK _ _ hs.below ?_
                  clear hK K
                  generalize wq.alloc (.cells #[.int .u8 0, .int .i64 0] 54) = x1 at hs hq ⊢
                  generalize wq.heap.size = qm at hq ⊢
                  have HS := Lib.hid hs
                  have HQM := Lib.hid hq
                  clear hs hq
                  refine t_two0 ?_ ?_
                  · refine r_op rfl (fun K hK => ?_)
                    refine ite_yes (by kernel_rfl) ?_
                    refine wp_app_mov (.tmp 106) (.tmp 108) rfl HS.out rfl qm ⟨0, 0⟩ rfl HQM.out (by simp [nexts_len, prevs_len]; omega) ?_
                    intro mv' x2 hs hk
                    clear HS hk HQM
                    go_simp
                    refine hK _ _ hs.below ?_
                    clear hK K
                    have HS := Lib.hid hs
                    clear hs
                    refine t_one0 ?_
                    refine r_op rfl (fun K hK => ?_)
                    go_simp
                    have hs := HS.out.alloc (.cells #[.int .i64 y] 2)
                    have hq := heap_alloc_last x2 (.cells #[.int .i64 y] 2)
                    clear HS
                    refine hK _ _ hs.below ?_
                    clear hK K
                    generalize x2.alloc (.cells #[.int .i64 y] 2) = x3 at hs hq ⊢
                    generalize x2.heap.size = qw at hq ⊢
                    have HS := Lib.hid hs
                    have HQW := Lib.hid hq
                    clear hs hq
                    refine t_one0 ?_
                    refine r_op rfl (fun K hK => ?_)
                    refine ite_yes (by kernel_rfl) ?_
                    refine wp_app_want (.tmp 110) (.tmp 117) rfl HS.out rfl qw y rfl HQW.out (by simp [wantA, wantB, wantC]; omega) ?_
                    intro wv' x4 hs hk
                    clear HS hk HQW
                    go_simp
                    refine hK _ _ hs.below ?_
                    clear hK K
                    have HS := Lib.hid hs
                    clear hs
                    refine t_one0 ?_
                    refine r_op rfl (fun K hK => ?_)
                    go_simp
                    refine hK _ _ HS.out.below ?_
                    clear hK K
                    refine t_one0 ?_
                    refine r_op rfl (fun K hK => ?_)
                    go_simp
                    refine hK _ _ HS.out.below ?_
                    clear hK K
                    refine t_end ?_
                    go_wp2_with fail
                    go_roundg (gk - 1)
                    case measure => omega
                    case rel => exact ⟨_, _, j + 1, i + 1, rfl, rfl, by have := HI.out; omega, by omega, rfl, by rw [nexts_succ, wantC_succ, ← HI.out, ← HY.out, ← List.append_assoc, ← List.append_assoc]; exact HS.out⟩
                  · refine r_op rfl (fun K hK => ?_)
                    go_simp
                    have hs := HS.out.alloc (.cells #[.int .i64 y] 2)
                    have hq := heap_alloc_last x1 (.cells #[.int .i64 y] 2)
                    have hm := ((But.refl (fun _ => False) x1).alloc (.cells #[.int .i64 y] 2)).at HQM.out id
                    clear HS HQM
                    refine hK _ _ hs.below ?_
                    clear hK K
                    generalize x1.alloc (.cells #[.int .i64 y] 2) = x2 at hs hq hm ⊢
                    generalize x1.heap.size = qw at hq ⊢
                    have HS := Lib.hid hs
                    have HQM := Lib.hid hm
                    have HQW := Lib.hid hq
                    clear hs hm hq
                    refine t_one0 ?_
                    refine r_op rfl (fun K hK => ?_)
                    refine ite_yes (by kernel_rfl) ?_
                    refine wp_app_mov (.tmp 106) (.tmp 108) rfl HS.out rfl qm ⟨0, 0⟩ rfl HQM.out (by simp [nexts_len, prevs_len]; omega) ?_
                    intro mv' x3 hs hk
                    have hw := hk _ _ _ _ HQW.out (by decide)
                    clear HS hk HQM HQW
                    go_simp
                    refine hK _ _ hs.below ?_
                    clear hK K
                    have HS := Lib.hid hs
                    have HQW := Lib.hid hw
                    clear hs hw
                    refine t_one0 ?_
                    refine r_op rfl (fun K hK => ?_)
                    refine ite_yes (by kernel_rfl) ?_
                    refine wp_app_want (.tmp 110) (.tmp 117) rfl HS.out rfl qw y rfl HQW.out (by simp [wantA, wantB, wantC]; omega) ?_
                    intro wv' x4 hs hk
                    clear HS hk HQW
                    go_simp
                    refine hK _ _ hs.below ?_
                    clear hK K
                    have HS := Lib.hid hs
                    clear hs
                    refine t_one0 ?_
                    refine r_op rfl (fun K hK => ?_)
                    go_simp
                    refine hK _ _ HS.out.below ?_
                    clear hK K
                    refine t_one0 ?_
                    refine r_op rfl (fun K hK => ?_)
                    go_simp
                    refine hK _ _ HS.out.below ?_
                    clear hK K
                    refine t_end ?_
                    go_wp2_with fail
                    go_roundg (gk - 1)
                    case measure => omega
                    case rel => exact ⟨_, _, j + 1, i + 1, rfl, rfl, by have := HI.out; omega, by omega, rfl, by rw [nexts_succ, wantC_succ, ← HI.out, ← HY.out, ← List.append_assoc, ← List.append_assoc]; exact HS.out⟩
                · refine r_op rfl (fun K hK => ?_)
                  go_simp
                  have hs := HS.out.alloc (.cells #[.int .i64 y] 2)
                  have hq := heap_alloc_last wq (.cells #[.int .i64 y] 2)
                  clear HS
                  refine hK _ _ hs.below ?_
                  clear hK K
                  generalize wq.alloc (.cells #[.int .i64 y] 2) = x1 at hs hq ⊢
                  generalize wq.heap.size = qw at hq ⊢
                  have HS := Lib.hid hs
                  have HQW := Lib.hid hq
                  clear hs hq
                  refine t_one0 ?_
                  refine r_op rfl (fun K hK => ?_)
                  go_simp
                  have hs := HS.out.alloc (.cells #[.int .u8 0, .int .i64 0] 54)
                  have hq := heap_alloc_last x1 (.cells #[.int .u8 0, .int .i64 0] 54)
                  have hw := ((But.refl (fun _ => False) x1).alloc (.cells #[.int .u8 0, .int .i64 0] 54)).at HQW.out id
                  clear HS HQW
                  refine hK _ _ hs.below ?_
                  clear hK K
                  generalize x1.alloc (.cells #[.int .u8 0, .int .i64 0] 54) = x2 at hs hq hw ⊢
                  generalize x1.heap.size = qm at hq ⊢
                  have HS := Lib.hid hs
                  have HQW := Lib.hid hw
                  have HQM := Lib.hid hq
                  clear hs hw hq
                  refine t_one0 ?_
                  refine r_op rfl (fun K hK => ?_)
                  refine ite_yes (by kernel_rfl) ?_
                  refine wp_app_mov (.tmp 106) (.tmp 108) rfl HS.out rfl qm ⟨0, 0⟩ rfl HQM.out (by simp [nexts_len, prevs_len]; omega) ?_
                  intro mv' x3 hs hk
                  have hw := hk _ _ _ _ HQW.out (by decide)
                  clear HS hk HQM HQW
                  go_simp
                  refine hK _ _ hs.below ?_
                  clear hK K
                  have HS := Lib.hid hs
                  have HQW := Lib.hid hw
                  clear hs hw
                  refine t_one0 ?_
                  refine r_op rfl (fun K hK => ?_)
                  refine ite_yes (by kernel_rfl) ?_
                  refine wp_app_want (.tmp 110) (.tmp 117) rfl HS.out rfl qw y rfl HQW.out (by simp [wantA, wantB, wantC]; omega) ?_
                  intro wv' x4 hs hk
                  clear HS hk HQW
                  go_simp
                  refine hK _ _ hs.below ?_
                  clear hK K
                  have HS := Lib.hid hs
                  clear hs
                  refine t_one0 ?_
                  refine r_op rfl (fun K hK => ?_)
                  go_simp
                  refine hK _ _ HS.out.below ?_
                  clear hK K
                  refine t_one0 ?_
                  refine r_op rfl (fun K hK => ?_)
                  go_simp
                  refine hK _ _ HS.out.below ?_
                  clear hK K
                  refine t_end ?_
                  go_wp2_with fail
                  go_roundg (gk - 1)
                  case measure => omega
                  case rel => exact ⟨_, _, j + 1, i + 1, rfl, rfl, by have := HI.out; omega, by omega, rfl, by rw [nexts_succ, wantC_succ, ← HI.out, ← HY.out, ← List.append_assoc, ← List.append_assoc]; exact HS.out⟩
              · have h1 : decide ((i : Int) < (n : Int)) = false := by simp; omega
                have h3 : ¬ i < n := by omega
                clear hi
                go_upto_region 28 with (fail)
                obtain rfl : j = n - k := by omega
                obtain ⟨M, hM⟩ : ∃ M, M = thrM n k := ⟨_, rfl⟩
                obtain ⟨Wn, hW⟩ : ∃ Wn, Wn = wantA X n ++ wantB X n ++ wantC X k (n - k) := ⟨_, rfl⟩
                obtain ⟨S, hS⟩ : ∃ S, S = thrS X k := ⟨_, rfl⟩
                have hs1 : St w2 wr v13 M v14 Wn := by rw [hM, hW]; exact HS.out
                obtain ⟨L, hL⟩ : ∃ L, L = 2 * n + 2 + (n - k) := ⟨_, rfl⟩
                have hxn := HXL.out
                have hMl : M.length = L := by rw [hM, hL]; exact thrM_len n k hk
                have hSl : S.length = L := by rw [hS, hL, ← hxn]; exact thrS_len X k (by omega)
                have hmv : (mvs X M (0, [])).2 = S := by rw [hM, hS, ← hxn]; exact thr_mvs X k (by omega)
                have hgo : AllGood X M S := by rw [hM, hS, ← hxn]; exact thr_good X k (by omega)
                have hgt : gotOf M S = Wn := by rw [hM, hS, hW, ← hxn]; exact thr_got X k
                have hd1 : ∃ s : Sn, S[n - 1]? = some s ∧ s.done = true := by rw [hS, ← hxn]; exact thr_done1 X k (by omega)
                have hd2 : ∃ s : Sn, S[2 * n]? = some s ∧ s.done = true := by rw [hS, ← hxn]; exact thr_done2 X k (by omega)
                have hd3 : ∃ s : Sn, S[L - 1]? = some s ∧ s.done = true := by rw [hS, hL, ← hxn]; exact thr_done3 X k (by omega)
                have hL1 : 1 ≤ L ∧ L ≤ 10000 := by omega
                have HLN := Lib.hid hL
                have HWL : Hid (Wn.length ≤ 10000) := by show _ ≤ _; rw [hW]; simp [wantA, wantB, wantC]; omega
                clear HS hM hW hS hL hlt h1
                have hk4 : ∀ (j : Nat) (a : Mov), M[j]? = some a → a.k ≤ 4 := fun j a ha => by
                  have hj : j < S.length := by have := (List.getElem?_eq_some_iff.1 ha).1; omega
                  exact (allGood_at X M S j a _ hgo ha (List.getElem?_eq_getElem hj)).1
                have hMW := MovW.of_own hs1.mo rfl
                have hbw1 : Below w1.heap.size w1 wr := HB2.out.trans (hs1.below.mono HB2.out.size)
                have hG5 : Glob wr := HG1.out.stay (Stay.of_below hbw1)
                have hst5 : wr.heap[sb]? = some (.cells (thrT ah n |>.flatMap Stp.cells).toArray 29 (0, 0)) := by rw [HX0.out]; exact (hbw1.block sb HSB.out).trans HST.out
                have hV := vers_w wr (.slice none 0 0) 0 [] (.slice (some ⟨sb, 0, none⟩) 1 1) (thrT ah n) sb 0 1 rfl (lt_of_block hst5) (steps_at hst5) (new0 _) (show 0 + 100000 * (1 + 1) < 33554431 by decide) hG5
                rw [HRN.out] at hV
                have hit := iterate_w wr (.slice none 0 0) _ v13 _ 1 _ _ X M (by simp) (by rw [HEX.out]; rfl) hMW hk4 (by omega) hV
                rw [hmv, hMl] at hit
                rcases hMW with ⟨_, h0⟩ | ⟨mb, mo, mc, hv13, hmb, hmc⟩
                · rw [h0] at hMl; simp at hMl; omega
                rw [hMl] at hv13
                subst hv13
                have HIT : Hid (Calls Try.prog 25 #[.slice none 0 0, .slice (some ⟨sb, 0, none⟩) 1 1, .int .i64 1, .slice (some ⟨mb, mo, none⟩) L mc] wr fun e w' => ∃ sn, e = .returned (.tuple #[.bool (isDone 0 X.length), sn]) ∧ Below wr.heap.size wr w' ∧ w'.ownsRow wr.heap.size 59 4 sn L (S.flatMap Sn.cells)) := hit
                have HS := Lib.hid hs1
                have HBW1 := Lib.hid hbw1
                have HGR := Lib.hid hG5
                have HMC := Lib.hid hmc
                have HMB := Lib.hid hmb
                have HML := Lib.hid hMl
                have HSL := Lib.hid hSl
                have HGO := Lib.hid hgo
                have HGT := Lib.hid hgt
                have HD := Lib.hid (And.intro hd1 (And.intro hd2 hd3))
                have HHL := Lib.hid hL1
                have hLL : ((L : Int) != (L : Int)) = false := by simp
                clear hs1 hbw1 hG5 hst5 hV hit hmc hmb hMl hSl hgo hgt hd1 hd2 hd3 hmv hxn hk4 hL1
                go_wp2_with fail
                refine HIT.out.mono ?_
                rintro e5 w5 ⟨sn, rfl, hB5, hO5⟩
                clear HIT
                rcases SnW.of_own hO5 HSL.out.symm with ⟨_, h0⟩ | ⟨qb, qo, qc, hsn, hqb, hqc⟩
                · have h1 := HSL.out; have h2 := HHL.out; rw [h0] at h1; simp at h1; omega
                rw [HSL.out] at hsn
                subst hsn
                have HQC := Lib.hid hqc
                have HQB := Lib.hid hqb
                have HM5 : Hid (∀ j s, M[j]? = some s → ∀ i u, s.cells[i]? = some u → w5.cell? ⟨mb, mo + j * 2 + i, none⟩ = some u) := fun j s hs i u hu => (hB5.cell HMB.out).trans (HMC.out j s hs i u hu)
                have HMB5 : Hid (mb < w5.heap.size) := Nat.lt_of_lt_of_le HMB.out hB5.size
                have hB25 : Below w2.heap.size w2 w5 := HS.out.below.trans (hB5.mono HS.out.below.size)
                have HC5 : Hid (w5.cell? ⟨g, 1, none⟩ = some (.slice (some ⟨gx, ox, none⟩) n c1)) := (hB25.cell HLT.out).trans HC1.out
                have HX5 : Hid (∀ (i : Nat) (x : Int), X[i]? = some x → w5.cell? ⟨gx, ox + i, none⟩ = some (.int .i64 x)) := fun i x hx => (hB25.cell HLX.out).trans (HX.out i x hx)
                have HLT5 : Hid (g < w5.heap.size) := Nat.lt_of_lt_of_le HLT.out hB25.size
                have HLX5 : Hid (gx < w5.heap.size) := Nat.lt_of_lt_of_le HLX.out hB25.size
                have HW5 := Lib.hid ((SlV.of_own HS.out.wo).below hB5)
                have HG5 : Hid (Glob w5) := HGR.out.stay (Stay.of_below hB5)
                have HB5 : Hid (Below wc.heap.size wc w5) := HB1.out.trans ((HBW1.out.mono HB1.out.size).trans (hB5.mono (Nat.le_trans HB1.out.size HBW1.out.size)))
                clear hB5 hO5 hB25 hqc hqb HS HC1 HX HB2 HGR HBW1 HMC HMB HG1 HST HSB
                go_wp2_with fail
                go_loopg [20, 132] L (fun q v20 v132 wr => ∃ (gv : Value) (j : Nat), gv = v20 ∧ j + q = L ∧ v132 = .int .i64 (j : Int) ∧ Below w5.heap.size w5 wr ∧ wr.ownsRow w5.heap.size 2 1 v20 (gotOf (M.take j) (S.take j)).length ((gotOf (M.take j) (S.take j)).map (Value.int .i64)))
                case atStart => exact ⟨_, 0, rfl, by omega, rfl, Below.refl _ _, World.ownsRow_nil _ _ _ _⟩
                case round =>
                  obtain ⟨gv, j, rfl, hjk, rfl, hB, hO⟩ := hrel
                  have HB := Lib.hid hB
                  have hw1 : IntKind.i64.wrap ((j : Int) + 1) = ((j + 1 : Nat) : Int) := by have := HHL.out; rw [IntKind.wrap_i64]; omega
                  by_cases hlt : j < L
                  · have h1 : decide ((j : Int) < (L : Int)) = true := by simp; omega
                    obtain ⟨⟨mk, mm⟩, hm⟩ : ∃ m, M[j]? = some m := ⟨M[j]'(by have := HML.out; omega), List.getElem?_eq_getElem _⟩
                    obtain ⟨⟨six, sval, span, sdone⟩, hs⟩ : ∃ s, S[j]? = some s := ⟨S[j]'(by have := HSL.out; omega), List.getElem?_eq_getElem _⟩
                    have HGD := Lib.hid (allGood_at X M S j _ _ HGO.out hm hs)
                    have e0 : wr.cell? ⟨mb, mo + j * 2, none⟩ = some (.int .u8 (mk : Int)) := (HB.out.cell HMB5.out).trans (HM5.out j _ hm 0 _ rfl)
                    have e1 : wr.cell? ⟨mb, mo + j * 2 + 1, none⟩ = some (.int .i64 mm) := (HB.out.cell HMB5.out).trans (HM5.out j _ hm 1 _ rfl)
                    have HNX := Lib.hid (gotOf_take M S j _ _ hm hs)
                    have hGl := gotOf_len (M.take j) (S.take j)
                    obtain ⟨G, hG⟩ : ∃ G, G = gotOf (M.take j) (S.take j) := ⟨_, rfl⟩
                    rw [← hG] at hO HNX hGl
                    have hGj : G.length ≤ j := by rw [List.length_take] at hGl; omega
                    have HO := Lib.hid hO
                    have HGJ := Lib.hid hGj
                    have HSJ := Lib.hid hs
                    clear hm hs hB hO hG hGl hGj
                    rcases (show mk = 0 ∨ mk = 1 ∨ 2 ≤ mk by omega) with hk2 | hk2 | hk2
                    · subst hk2
                      replace e0 : wr.cell? ⟨mb, mo + j * 2, none⟩ = some (.int .u8 0) := e0
                      go_upto_region 35 with (fail)
                      have hb6 : Below w5.heap.size w5 (wr.alloc (Obj.cells #[(.int .u8 0), .int .i64 mm] 54)) := HB.out.alloc HB.out.size _
                      have hq6 := heap_alloc_last wr (Obj.cells #[(.int .u8 0), .int .i64 mm] 54)
                      have ho6 := HO.out.alloc (Obj.cells #[(.int .u8 0), .int .i64 mm] 54)
                      generalize wr.alloc (Obj.cells #[(.int .u8 0), .int .i64 mm] 54) = w6 at hb6 hq6 ho6 ⊢
                      generalize wr.heap.size = qz at hq6 ⊢
                      have m0 := cell_at (j := 0) hq6 rfl
                      have HB6 := Lib.hid hb6
                      have HO6 := Lib.hid ho6
                      clear hb6 hq6 ho6 e0 e1 HB HO
                      obtain ⟨ix, hix, hsx, hxx⟩ := HGD.out.2 (by simp)
                      simp only at hsx hxx
                      subst hsx
                      have s0 : w6.cell? ⟨qb, qo + j * 4, none⟩ = some (.int .i64 (ix : Int)) := (HB6.out.cell HQB.out).trans (HQC.out j _ HSJ.out 0 _ rfl)
                      have s1 : w6.cell? ⟨qb, qo + j * 4 + 1, none⟩ = some (.int .i64 sval) := (HB6.out.cell HQB.out).trans (HQC.out j _ HSJ.out 1 _ rfl)
                      have x0 : w6.cell? ⟨gx, ox + ix, none⟩ = some (.int .i64 sval) := (HB6.out.cell HLX5.out).trans (HX5.out ix _ hxx)
                      have c0 : w6.cell? ⟨g, 1, none⟩ = some (.slice (some ⟨gx, ox, none⟩) n c1) := (HB6.out.cell HLT5.out).trans HC5.out
                      have hix2 : ix < n := by have := HXL.out; omega
                      have hix3 : ¬ n ≤ ix := by omega
                      have hss : (sval != sval) = false := by simp
                      clear hix hxx
                      go_upto_region 36 with (fail)
                      refine region_still (by kernel_rfl) (by kernel_rfl) (Veil.out ?_)
                      repeat (refine v_step (fun K hK => ?_); go_simp; refine hK _ ?_; clear hK K)
                      refine v_nil ⟨?_⟩
                      go_upto_region 38 with (fail)
                      have HB7 : Hid (Below w5.heap.size w5 w6.drew) := HB6.out.drew
                      have HO7 : Hid (w6.drew.ownsRow w5.heap.size 2 1 gv G.length (G.map (Value.int .i64))) := HO6.out
                      have s7 : w6.drew.cell? ⟨qb, qo + j * 4 + 1, none⟩ = some (.int .i64 sval) := s1
                      clear HB6 HO6 s0 s1 x0 c0 m0
                      generalize w6.drew = w7 at HB7 HO7 s7 ⊢
                      go_wp2_with (at_builtin; refine wpList_app_one rfl (.tmp 178) (.tmp 184) rfl (HO7.out.alloc _) rfl _ sval rfl (heap_alloc_last _ _) (by have := HGJ.out; have := HHL.out; omega) (by have := HB7.out.size; simp; omega) ?_)
                      intro v2 w8 hown hgrow
                      have HFIN := Lib.hid (And.intro hown (below_grown (HB7.out.alloc HB7.out.size (.cells #[.int .i64 sval] 2)) HO7.out (Nat.le_refl _) (Nat.le_refl _) hgrow))
                      clear hown hgrow HB7 HO7 s7
                      go_wp2_with fail
                      go_roundg (gk - 1)
                      case measure => omega
                      case rel =>
                        have h := HNX.out
                        rw [if_pos (by simp)] at h
                        refine ⟨_, j + 1, rfl, by omega, rfl, HFIN.out.2, ?_⟩
                        rw [h]
                        simpa using HFIN.out.1
                    · subst hk2
                      replace e0 : wr.cell? ⟨mb, mo + j * 2, none⟩ = some (.int .u8 1) := e0
                      go_upto_region 35 with (fail)
                      have hb6 : Below w5.heap.size w5 (wr.alloc (Obj.cells #[(.int .u8 1), .int .i64 mm] 54)) := HB.out.alloc HB.out.size _
                      have hq6 := heap_alloc_last wr (Obj.cells #[(.int .u8 1), .int .i64 mm] 54)
                      have ho6 := HO.out.alloc (Obj.cells #[(.int .u8 1), .int .i64 mm] 54)
                      generalize wr.alloc (Obj.cells #[(.int .u8 1), .int .i64 mm] 54) = w6 at hb6 hq6 ho6 ⊢
                      generalize wr.heap.size = qz at hq6 ⊢
                      have m0 := cell_at (j := 0) hq6 rfl
                      have HB6 := Lib.hid hb6
                      have HO6 := Lib.hid ho6
                      clear hb6 hq6 ho6 e0 e1 HB HO
                      obtain ⟨ix, hix, hsx, hxx⟩ := HGD.out.2 (by simp)
                      simp only at hsx hxx
                      subst hsx
                      have s0 : w6.cell? ⟨qb, qo + j * 4, none⟩ = some (.int .i64 (ix : Int)) := (HB6.out.cell HQB.out).trans (HQC.out j _ HSJ.out 0 _ rfl)
                      have s1 : w6.cell? ⟨qb, qo + j * 4 + 1, none⟩ = some (.int .i64 sval) := (HB6.out.cell HQB.out).trans (HQC.out j _ HSJ.out 1 _ rfl)
                      have x0 : w6.cell? ⟨gx, ox + ix, none⟩ = some (.int .i64 sval) := (HB6.out.cell HLX5.out).trans (HX5.out ix _ hxx)
                      have c0 : w6.cell? ⟨g, 1, none⟩ = some (.slice (some ⟨gx, ox, none⟩) n c1) := (HB6.out.cell HLT5.out).trans HC5.out
                      have hix2 : ix < n := by have := HXL.out; omega
                      have hix3 : ¬ n ≤ ix := by omega
                      have hss : (sval != sval) = false := by simp
                      clear hix hxx
                      go_upto_region 36 with (fail)
                      refine region_still (by kernel_rfl) (by kernel_rfl) (Veil.out ?_)
                      repeat (refine v_step (fun K hK => ?_); go_simp; refine hK _ ?_; clear hK K)
                      refine v_nil ⟨?_⟩
                      go_upto_region 38 with (fail)
                      have HB7 : Hid (Below w5.heap.size w5 w6.drew) := HB6.out.drew
                      have HO7 : Hid (w6.drew.ownsRow w5.heap.size 2 1 gv G.length (G.map (Value.int .i64))) := HO6.out
                      have s7 : w6.drew.cell? ⟨qb, qo + j * 4 + 1, none⟩ = some (.int .i64 sval) := s1
                      clear HB6 HO6 s0 s1 x0 c0 m0
                      generalize w6.drew = w7 at HB7 HO7 s7 ⊢
                      go_wp2_with (at_builtin; refine wpList_app_one rfl (.tmp 178) (.tmp 184) rfl (HO7.out.alloc _) rfl _ sval rfl (heap_alloc_last _ _) (by have := HGJ.out; have := HHL.out; omega) (by have := HB7.out.size; simp; omega) ?_)
                      intro v2 w8 hown hgrow
                      have HFIN := Lib.hid (And.intro hown (below_grown (HB7.out.alloc HB7.out.size (.cells #[.int .i64 sval] 2)) HO7.out (Nat.le_refl _) (Nat.le_refl _) hgrow))
                      clear hown hgrow HB7 HO7 s7
                      go_wp2_with fail
                      go_roundg (gk - 1)
                      case measure => omega
                      case rel =>
                        have h := HNX.out
                        rw [if_pos (by simp)] at h
                        refine ⟨_, j + 1, rfl, by omega, rfl, HFIN.out.2, ?_⟩
                        rw [h]
                        simpa using HFIN.out.1
                    · have hk0 : ¬ mk = 0 := by omega
                      have hk1 : ¬ mk = 1 := by omega
                      have hz0 : ((mk : Int) == 0) = false := by simp; omega
                      have hz1 : ((mk : Int) == 1) = false := by simp; omega
                      go_upto_region 35 with (fail)
                      have hb6 : Below w5.heap.size w5 (wr.alloc (Obj.cells #[(.int .u8 (mk : Int)), .int .i64 mm] 54)) := HB.out.alloc HB.out.size _
                      have hq6 := heap_alloc_last wr (Obj.cells #[(.int .u8 (mk : Int)), .int .i64 mm] 54)
                      have ho6 := HO.out.alloc (Obj.cells #[(.int .u8 (mk : Int)), .int .i64 mm] 54)
                      generalize wr.alloc (Obj.cells #[(.int .u8 (mk : Int)), .int .i64 mm] 54) = w6 at hb6 hq6 ho6 ⊢
                      generalize wr.heap.size = qz at hq6 ⊢
                      have m0 := cell_at (j := 0) hq6 rfl
                      have HB6 := Lib.hid hb6
                      have HO6 := Lib.hid ho6
                      clear hb6 hq6 ho6 e0 e1 HB HO
                      go_wp2_with fail
                      go_roundg (gk - 1)
                      case measure => omega
                      case rel =>
                        have h := HNX.out
                        rw [if_neg (by show ¬ mk ≤ 1; omega), List.append_nil] at h
                        refine ⟨_, j + 1, rfl, by omega, rfl, HB6.out, ?_⟩
                        rw [h]
                        exact HO6.out
                  · have h1 : decide ((j : Int) < (L : Int)) = false := by simp; omega
                    go_upto_region 40 with (fail)
                    obtain rfl : L = j := by omega
                    have hOw : wr.ownsRow w5.heap.size 2 1 gv Wn.length (Wn.map (Value.int .i64)) := by
                      have h := hO
                      rw [show M.take L = M by rw [← HML.out, List.take_length], show S.take L = S by rw [← HSL.out, List.take_length], HGT.out] at h
                      exact h
                    have HGV := Lib.hid (SlV.of_own hOw)
                    obtain ⟨a1, ha1⟩ : ∃ a1, a1 = n - 1 := ⟨_, rfl⟩
                    obtain ⟨a2, ha2⟩ : ∃ a2, a2 = 2 * n := ⟨_, rfl⟩
                    obtain ⟨a3, ha3⟩ : ∃ a3, a3 = L - 1 := ⟨_, rfl⟩
                    have hLn := HLN.out
                    have hLb := HHL.out
                    have hwa1 : IntKind.i64.wrap ((n : Int) - 1) = (a1 : Int) := by rw [IntKind.wrap_i64]; omega
                    have hwa2 : IntKind.i64.wrap (2 * (n : Int)) = (a2 : Int) := by rw [IntKind.wrap_i64]; omega
                    have hwa3 : IntKind.i64.wrap ((L : Int) - 1) = (a3 : Int) := by rw [IntKind.wrap_i64]; omega
                    have hb1 : a1 < L := by omega
                    have hb2 : a2 < L := by omega
                    have hb3 : a3 < L := by omega
                    obtain ⟨⟨t1, ht1, hu1⟩, ⟨t2, ht2, hu2⟩, ⟨t3, ht3, hu3⟩⟩ := HD.out
                    rw [← ha1] at ht1
                    rw [← ha2] at ht2
                    rw [← ha3] at ht3
                    have HT1 : Hid (w5.cell? ⟨qb, qo + a1 * 4 + 3, none⟩ = some (.bool true)) := HQC.out a1 t1 ht1 3 _ (by rw [← hu1]; rfl)
                    have HT2 : Hid (w5.cell? ⟨qb, qo + a2 * 4 + 3, none⟩ = some (.bool true)) := HQC.out a2 t2 ht2 3 _ (by rw [← hu2]; rfl)
                    have HT3 : Hid (w5.cell? ⟨qb, qo + a3 * 4 + 3, none⟩ = some (.bool true)) := HQC.out a3 t3 ht3 3 _ (by rw [← hu3]; rfl)
                    clear hOw hO hB ha1 ha2 ha3 hLn hLb t1 ht1 hu1 t2 ht2 hu2 t3 ht3 hu3 hlt h1
                    go_wp2_with fail
                    refine (equal_ints (xs := Wn) (ys := Wn) HGV.out (HW5.out.below HB.out) (by have := HWL.out; omega)).mono ?_
                    rintro e6 w6 ⟨he6, hs6⟩
                    rw [decide_eq_true rfl] at he6
                    subst he6
                    have hR : Below w5.heap.size w5 w6 := HB.out.trans (hs6.below _)
                    have HR6 := Lib.hid hR
                    have hc1 := (hR.cell HQB.out).trans HT1.out
                    have hc2 := (hR.cell HQB.out).trans HT2.out
                    have hc3 := (hR.cell HQB.out).trans HT3.out
                    clear hs6 hR HGV HB
                    go_wp2_with fail
                    refine (awake _ (HG5.out.stay (Stay.of_below HR6.out))).mono ?_
                    rintro e7 w7 ⟨rfl, hb7⟩
                    have HR7 : Hid (Below w5.heap.size w5 w7) := HR6.out.trans (hb7.mono HR6.out.size)
                    clear hb7 hc1 hc2 hc3
                    go_wp2_with fail
                    go_ret
                    exact ⟨rfl, HB5.out.trans (HR7.out.mono HB5.out.size)⟩

end Go.Proofs.Ytnahipfdnadccaa
