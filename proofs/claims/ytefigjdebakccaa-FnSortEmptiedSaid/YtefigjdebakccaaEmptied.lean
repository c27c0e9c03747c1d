/- The walk over the law FnSortEmptied. -/
import Derived.Test.YtefigjdebakccaaEmpt
import Derived.Test.YtefigjdebakccaaSRig
import Derived.Test.YtefigjdebakccaaOpn
import Derived.Test.YtefigjdebakccaaMaps
namespace Go.Proofs.Ytefigjdebakccaa
open Go.RowKit

theorem nat_rem (i n : Nat) (hn : n < 1000000) (hn0 : ¬ n = 0) : ((i : Int)).tmod (n : Int) = ((i % n : Nat) : Int) ∧ IntKind.i64.wrap ((i % n : Nat) : Int) = ((i % n : Nat) : Int) := by
  have h := Nat.mod_lt i (show 0 < n by omega)
  refine ⟨?_, by rw [IntKind.wrap_i64]; omega⟩
  rw [Int.tmod_eq_emod_of_nonneg (by omega)]
  exact (Int.natCast_emod i n).symm
theorem field46 (a : Value) (ka va : Option Addr) (n1 c1 n2 c2 : Nat) (w : World) : Sem.run Try.prog (Instr.field 46 (.agg #[a, .slice ka n1 c1, .slice va n2 c2]) 1) w = .ok (.slice ka n1 c1) w := by kernel_rfl

theorem many_new1 (w : World) (cs : Array Value) (t : TypeId) (o : Obj) : ∀ j u, cs.toList[j]? = some u → ((w.alloc o).alloc (.cells cs t)).cell? ((⟨w.heap.size + 1, 0, none⟩ : Addr).add j) = some u := fun j u hu => by
  have h := heap_alloc_last (w.alloc o) (.cells cs t)
  rw [size_alloc] at h
  rw [addr_add, Nat.zero_add]
  exact cell_at h (by simpa using hu)
def emMv : List Mv := [(5, 0), (1, 0), (5, 0), (2, 0)]
theorem em_mv {w : World} {b : Nat} (h : w.heap[b]? = some (.cells #[.int .u8 5, .int .i64 0, .int .u8 1, .int .i64 0, .int .u8 5, .int .i64 0, .int .u8 2, .int .i64 0] 44 (0, 0))) : MovesV w (.slice (some ⟨b, 0, none⟩) 4 4) emMv := by
  refine ⟨_, 4, rfl, fun i m hm => ⟨b, 0, rfl, ?_⟩⟩
  match i, hm with
  | 0, hm => cases hm; exact ⟨cell_at h rfl, cell_at h rfl⟩
  | 1, hm => cases hm; exact ⟨cell_at h rfl, cell_at h rfl⟩
  | 2, hm => cases hm; exact ⟨cell_at h rfl, cell_at h rfl⟩
  | 3, hm => cases hm; exact ⟨cell_at h rfl, cell_at h rfl⟩
  | i + 4, hm => simp [emMv] at hm
/-- the steps at the end, as they lie in memory -/
theorem em_stps {w : World} {B made : Nat} {v r : Value} {S : List Stp} (hS : ∀ s ∈ S, s.moves = []) (h : w.ownsRow B 27 5 v (S.length + 2) (stcells S (List.replicate S.length (.slice none 0 0)) ++ [.int .u8 3, .int .i64 (made : Int), .int .i64 0, .int .i64 0, .slice none 0 0, .int .u8 6, .int .i64 (made : Int), .int .i64 0, .int .i64 0, r])) (hr : MovesV w r emMv) :
    StpsV w v (S ++ [⟨3, made, 0, 0, []⟩] ++ [⟨6, made, 0, 0, emMv⟩]) := by
  refine stps_read (rs := List.replicate S.length (.slice none 0 0) ++ [.slice none 0 0] ++ [r]) (B := B) (T := 27) (n := S.length + 2) (by simp) (by simp) ?_ (fun i s q hs hq => ?_)
  · rw [stcells_snoc _ _ (by simp), stcells_snoc _ _ (by simp), List.append_assoc]
    exact h
  · by_cases hi : i < S.length + 1
    · rw [List.getElem?_append_left (by simp; omega)] at hs hq
      have e1 : s.moves = [] := by
        rcases List.mem_append.1 (List.mem_of_getElem? hs) with h | h
        · exact hS s h
        · rw [List.mem_singleton.1 h]
      have e2 : q = .slice none 0 0 := by
        rcases List.mem_append.1 (List.mem_of_getElem? hq) with h | h
        · exact (List.mem_replicate.1 h).2
        · exact List.mem_singleton.1 h
      rw [e1, e2]
      exact movesV_nil w
    · rw [List.getElem?_append_right (by simp; omega)] at hs hq
      obtain ⟨j, hj⟩ : ∃ j, i - (S ++ [(⟨3, made, 0, 0, []⟩ : Stp)]).length = j := ⟨_, rfl⟩
      have hj2 : i - (List.replicate S.length (Value.slice none 0 0) ++ [Value.slice none 0 0]).length = j := by rw [← hj]; simp
      rw [hj] at hs
      rw [hj2] at hq
      cases j with
      | zero => cases hs; cases hq; exact hr
      | succ j => simp at hs
theorem EmS.fin {lt : Int → Int → Bool} {S : List Stp} {made : Nat} (h : EmS lt S made []) :
    Right 1 (S ++ [⟨3, made, 0, 0, []⟩] ++ [⟨6, made, 0, 0, emMv⟩]) ∧ (run lt [[]] (S ++ [⟨3, made, 0, 0, []⟩] ++ [⟨6, made, 0, 0, emMv⟩]))[S.length + 1]? = some ⟨0, false, [], [], [(0, 0, true), (0, 0, false), (0, 0, true), (0, 0, false)]⟩ := by
  obtain ⟨h1, h2⟩ := (h.ask 3 ⟨by decide, by decide⟩).walk emMv (by decide) (by decide)
  rw [List.length_append] at h2
  exact ⟨h1, h2⟩
theorem em_last {w : World} {B : Nat} {v : Value} {ts : List Told} {k : Nat} {t : Told} (h : ToldsP w B v ts) (ht : ts[k]? = some t) (hl : t.seen = [(0, 0, true), (0, 0, false), (0, 0, true), (0, 0, false)]) :
    ∃ g c g2 c2, v = .slice (some ⟨g, 0, none⟩) ts.length c ∧ w.cell? ⟨g, k * 5 + 4, none⟩ = some (.slice (some ⟨g2, 0, none⟩) 4 c2) ∧ w.cell? ⟨g2, 2, none⟩ = some (.bool true) := by
  obtain ⟨rs, h0, h1, h2⟩ := h
  obtain ⟨r, hr⟩ : ∃ r, rs[k]? = some r := ⟨_, List.getElem?_eq_getElem (by rw [h0]; exact (List.getElem?_eq_some_iff.1 ht).1)⟩
  obtain ⟨k1, k2, k3, k4, k5⟩ := tcells_at ht hr
  obtain ⟨g, c, e1, q1⟩ := own_read h1 k5
  obtain ⟨-, -, hs⟩ := h2 k t r ht hr
  rw [hl] at hs
  rcases hs with ⟨-, h⟩ | ⟨g2, c2, cur, e2, e3, e4⟩
  · cases h
  · obtain ⟨-, -, p3⟩ := e4 0 _ rfl
    rw [e2] at q1
    exact ⟨g, c, g2, c2, e1, q1, cell_at e3 p3⟩

set_option maxRecDepth 100000 in
set_option maxHeartbeats 3200000 in
theorem lempt_w (o : Nat) (u : Value) (xs : List Int) (tv : Value) (ts : List Int) (htw : ∀ t ∈ ts, 0 ≤ t ∧ t ≤ 255) (w : World) (hu : RdN w u xs) (ht : RdK .u8 w tv ts) : Calls Try.prog 13 #[.int .u8 (o : Int), u, tv] w fun e w' => e = .returned (.bool true) ∧ Below w.heap.size w w' := by
  obtain ⟨i27, hi, hz0, hz1, hz2⟩ := info_parts info27
  have HI := Lib.hid (And.intro hi (And.intro hz0 (And.intro hz1 hz2)))
  clear hi hz0 hz1 hz2
  have HT := Lib.hid ht
  have HTW := Lib.hid htw
  obtain ⟨ta, tc, rfl, -⟩ := ht
  obtain ⟨m, hm⟩ : ∃ m, m = ts.length := ⟨_, rfl⟩
  rw [← hm] at HT ⊢
  have HM := Lib.hid hm
  clear hm htw
  have HU := Lib.hid hu
  obtain ⟨ua, uc, rfl, -⟩ := hu
  obtain ⟨n, hn⟩ : ∃ n, n = xs.length := ⟨_, rfl⟩
  rw [← hn] at HU ⊢
  have HN := Lib.hid hn
  clear hn
  go_enter Try.func13, Try.ntmps13
  by_cases c1 : 2147483647 < n
  · have d1 : decide ((2147483647 : Int) < (n : Int)) = true := by simp; omega
    go_wp2_with fail
    go_ret
    exact ⟨rfl, Below.refl _ _⟩
  have d1 : decide ((2147483647 : Int) < (n : Int)) = false := by simp; omega
  by_cases c3 : 2147483647 < m
  · have d3 : decide ((2147483647 : Int) < (m : Int)) = true := by simp; omega
    go_wp2_with fail
    go_ret
    exact ⟨rfl, Below.refl _ _⟩
  have d3 : decide ((2147483647 : Int) < (m : Int)) = false := by simp; omega
  by_cases c0 : 3 < o
  · have d0 : decide ((3 : Int) < (o : Int)) = true := by simp; omega
    go_wp2_with fail
    refine (awake_w w).mono ?_
    rintro e wa ⟨rfl, hba⟩
    have HBA := Lib.hid (hba)
    clear hba
    go_wp2_with fail
    refine bodyPost_ret (results_tmp rfl _ _ _) rfl ?_
    exact ⟨rfl, HBA.out⟩
  have d0 : decide ((3 : Int) < (o : Int)) = false := by simp; omega
  have HKS := Lib.hid (sortKeys_w _ xs 60 w HU.out.rdi (by rw [← HN.out]; omega))
  by_cases c2 : KeysOk xs 60
  case neg =>
    have d2 : decide (KeysOk xs 60) = false := decide_eq_false c2
    rw [d2] at HKS
    clear c2 d2
    go_wp2_with fail
    refine HKS.out.mono ?_
    rintro e w1 ⟨rfl, rfl⟩
    go_wp2_with fail
    refine (awake_w w).mono ?_
    rintro e wa ⟨rfl, hba⟩
    have HBA := Lib.hid (hba)
    clear hba
    go_wp2_with fail
    refine bodyPost_ret (results_tmp rfl _ _ _) rfl ?_
    exact ⟨rfl, HBA.out⟩
  have d2 : decide (KeysOk xs 60) = true := decide_eq_true c2
  rw [d2] at HKS
  have hn3 : n ≤ 60 := by rw [HN.out]; exact c2.2
  have HN3 := Lib.hid hn3
  by_cases c4 : 60 < m
  · have d4 : decide ((60 : Int) < (m : Int)) = true := by simp; omega
    clear c2 d2
    go_wp2_with fail
    refine HKS.out.mono ?_
    rintro e w1 ⟨rfl, rfl⟩
    go_wp2_with fail
    refine (awake_w w).mono ?_
    rintro e wa ⟨rfl, hba⟩
    have HBA := Lib.hid (hba)
    clear hba
    go_wp2_with fail
    refine bodyPost_ret (results_tmp rfl _ _ _) rfl ?_
    exact ⟨rfl, HBA.out⟩
  have d4 : decide ((60 : Int) < (m : Int)) = false := by simp; omega
  have hm3 : m ≤ 60 := by omega
  have HM3 := Lib.hid hm3
  clear c0 c1 c2 c3 c4 d2 hn3 hm3
  have HSO := Lib.hid (sorted_w o _ xs w HU.out.rdi (by rw [← HN.out]; have := HN3.out; omega))
  obtain ⟨F, hF⟩ : ∃ F, F = fill (ltO o) 0 xs [] := ⟨_, rfl⟩
  rw [← hF] at HSO
  have HF := Lib.hid hF
  have hfl : F.length ≤ 60 := by
    rw [HF.out]
    have h1 := fill_len (ord_ltO o) xs 0 (es := []) List.Pairwise.nil
    have := HN3.out
    rw [← HN.out, List.length_nil] at h1
    omega
  clear hF
  go_wp2_with fail
  refine HKS.out.mono ?_
  rintro e w1 ⟨rfl, rfl⟩
  clear HKS
  go_wp2_with fail
  refine HSO.out.mono ?_
  rintro e w2 ⟨v2, rfl, hpt, hb2⟩
  have HB2 := Lib.hid hb2
  obtain ⟨ka, kc, va, vc, rfl, hk, -⟩ := hpt
  have HCL := Lib.hid (cloneI_w _ _ w2 hk.rdn (by rw [List.length_map]; omega))
  obtain ⟨fl, hfll⟩ : ∃ m, m = F.length := ⟨_, rfl⟩
  rw [List.length_map, ← hfll] at HCL
  rw [← hfll] at hfl ⊢
  have HFLL := Lib.hid hfll
  have HFL := Lib.hid hfl
  have hfd := field46 (.int .u8 (o : Int)) ka va fl kc fl vc
  clear hk hb2 hfl hfll HSO
  go_wp2_with fail
  clear hfd
  refine HCL.out.mono ?_
  rintro e w3 ⟨v3, rfl, ho3, hb3⟩
  have HO3 := Lib.hid ho3
  have HB3 := Lib.hid (HB2.out.trans (hb3.mono HB2.out.size))
  have HFI := Lib.hid (filled_w (.slice ua n uc) xs w3 (HU.out.rdi.below HB3.out) (by rw [← HN.out]; have := HN3.out; omega))
  rw [← HN.out] at HFI
  obtain ⟨a3, c3, rfl⟩ := own_len ho3
  have HSZ2 : Hid (w.heap.size ≤ w2.heap.size) := HB2.out.size
  clear ho3 hb3 HCL HB2
  go_wp2_with fail
  refine HFI.out.mono ?_
  rintro e w4 ⟨v4, rfl, ho4, hb4⟩
  have HO4 := Lib.hid ho4
  have HO34 := Lib.hid (own_below HO3.out hb4)
  have HB4 := Lib.hid (HB3.out.trans (hb4.mono HB3.out.size))
  have HS34 : Hid (w3.heap.size ≤ w4.heap.size) := hb4.size
  have HSZ : Hid (w.heap.size ≤ w2.heap.size ∧ w.heap.size ≤ w3.heap.size) := ⟨HSZ2.out, HB3.out.size⟩
  clear ho4 hb4 HFI HO3
  go_wp2_with fail
  go_loopg [7, 8, 9, 10, 11] fl (fun k v7 v8 v9 v10 v11 wr => ∃ (j made : Nat) (left : List Int) (S : List Stp), left.length = k ∧ j + k = fl ∧ wr.ownsRow w2.heap.size 3 1 v7 k (left.map (Value.int .i64)) ∧ wr.ownsRow w3.heap.size 27 5 v8 S.length (stcells S (List.replicate S.length (.slice none 0 0))) ∧ EmS (ltO o) S made left ∧ S.length = n + 2 * j ∧ made = n + j ∧ v9 = .int .i64 (made : Int) ∧ v10 = .int .i64 (j : Int) ∧ Below w.heap.size w wr ∧ w3.heap.size ≤ wr.heap.size)
  case atStart =>
    refine ⟨0, n, F.map (·.1), filled xs, by rw [List.length_map, HFLL.out], by omega, HO34.out, ?_, ?_, by rw [filled_len, HN.out, Nat.mul_zero, Nat.add_zero], rfl, rfl, rfl, HB4.out, HS34.out⟩
    · have h := HO4.out
      rw [fcells_st] at h
      rw [filled_len, ← HN.out]
      rw [← HN.out] at h
      exact h
    · have h := EmS.start (ord_ltO o) xs
      rw [← HF.out, ← HN.out] at h
      exact h
  case round =>
    obtain ⟨j, made, left, S, hll, hjk, h7, h8, hem, hsl, hmade, rfl, rfl, hb, hws⟩ := hrel
    have HWS1 := Lib.hid hws
    have HLL := Lib.hid hll
    have HO7 := Lib.hid h7
    have HO8 := Lib.hid h8
    have HEM := Lib.hid hem
    have HSL := Lib.hid hsl
    have HMD := Lib.hid hmade
    have HB := Lib.hid hb
    have HJK := Lib.hid hjk
    obtain ⟨a7, c7, rfl⟩ := own_len h7
    clear hll h7 h8 hem hsl hmade hb hjk hws
    by_cases hlt : 0 < gk
    · have h1 : decide ((0 : Int) < (gk : Int)) = true := by simp; omega
      have hgn : ¬ gk = 0 := by omega
      have hjm : (j : Int) + 1 < 1000 ∧ (made : Int) + 1 < 1000 := by have := HJK.out; have := HMD.out; have := HFL.out; have := HN3.out; omega
      have hw1 : IntKind.i64.wrap ((j : Int) + 1) = ((j + 1 : Nat) : Int) := by rw [IntKind.wrap_i64]; omega
      have hw2 : IntKind.i64.wrap ((made : Int) + 1) = ((made + 1 : Nat) : Int) := by rw [IntKind.wrap_i64]; omega
      clear hjm
      go_upto_if 53 with (fail)
      go_cut [11] from 54 to 61 (fun v11 wc => ∃ kk : Nat, v11 = .int .i64 (kk : Int) ∧ kk < gk ∧ wc = wr)
      case first =>
        by_cases hjm : j < m
        · have dj : decide ((j : Int) < (m : Int)) = true := by simp; omega
          have hj0 : (0 : Int) ≤ (j : Int) := by omega
          have hj1 : (j : Int) < (m : Int) := by omega
          obtain ⟨x, hx⟩ : ∃ x, ts[j]? = some x := ⟨_, List.getElem?_eq_getElem (by rw [← HM.out]; exact hjm)⟩
          obtain ⟨ta2, tc2, hv, -, hread⟩ := HT.out.below HB.out
          obtain ⟨g1, o1, hg1, hc1⟩ := hread j x hx
          simp only [Value.slice.injEq] at hv
          have hma : ta = some ⟨g1, o1, none⟩ := hv.1.trans hg1
          subst hma
          have htr := HTW.out x (List.mem_of_getElem? hx)
          obtain ⟨t, rfl⟩ : ∃ t : Nat, x = (t : Int) := ⟨x.toNat, by omega⟩
          have HTR : Hid (t ≤ 255) := by show t ≤ 255; omega
          obtain ⟨b, hb⟩ : ∃ b, b = t % gk := ⟨_, rfl⟩
          have hbn : b < gk := by rw [hb]; exact Nat.mod_lt _ (by omega)
          obtain ⟨t3, t4⟩ := nat_rem t gk (by have := HJK.out; have := HFL.out; omega) hgn
          rw [← hb] at t3 t4
          have t5 : IntKind.i64.wrap (t : Int) = (t : Int) := by have := HTR.out; rw [IntKind.wrap_i64]; omega
          clear hv hg1 hread hx htr hb hjm
          go_wp2_with fail
          go_meet
          case rel => exact ⟨b, rfl, hbn, rfl⟩
        · have dj : decide ((j : Int) < (m : Int)) = false := by simp; omega
          go_wp2_with fail
          go_meet
          case rel => exact ⟨0, rfl, hlt, rfl⟩
      case rest =>
        obtain ⟨kk, rfl, hkk, hww⟩ := hcut
        subst hww
        obtain ⟨g7, c7', hs7⟩ := own_shape HO7.out hgn
        simp only [Value.slice.injEq] at hs7
        obtain ⟨rfl, -, rfl⟩ := hs7
        obtain ⟨key, hkey⟩ : ∃ key, left[kk]? = some key := ⟨_, List.getElem?_eq_getElem (by rw [HLL.out]; exact hkk)⟩
        have q1 := own_cell HO7.out (i := kk) (u := .int .i64 key) (by rw [List.getElem?_map, hkey]; rfl)
        have HKEY := Lib.hid hkey
        have hk0 : (0 : Int) ≤ (kk : Int) := by omega
        have hk1 : (kk : Int) < (gk : Int) := by omega
        have hwk : IntKind.i64.wrap ((kk : Int) + 1) = ((kk + 1 : Nat) : Int) := by have := HJK.out; have := HFL.out; rw [IntKind.wrap_i64]; omega
        have HSB : Hid (S.length ≤ 1000) := by have := HSL.out; have := HJK.out; have := HFL.out; have := HN3.out; show S.length ≤ 1000; omega
        clear hkey
        go_wp2_with (at_builtin; refine wpList_append_own _ rfl (.tmp 62) (.tmp 69) 28 rfl w3.heap.size 27 i27 (.agg #[.int .u8 0, .int .i64 0, .int .i64 0, .int .i64 0, .slice none 0 0]) 5 56 Try.underlying28 HI.out.1 HI.out.2.1 HI.out.2.2.1 HI.out.2.2.2 rfl (by decide) _ _ _ rfl (HO8.out.alloc _) ⟨wc.heap.size, 0, none⟩ 1 1 [.int .u8 1, .int .i64 (made : Int), .int .i64 key, .int .i64 0, .slice none 0 0] rfl rfl (five_new _ _ _ _ _ _ _) (five_one rfl rfl rfl rfl rfl) (by have := HSB.out; unfold maxLen; omega) (by have := HSB.out; omega) (by have := HWS1.out; rw [size_alloc]; omega) ?_)
        intro x1 y1 hown1 hgrow1 _
        have hA1 : Below wc.heap.size wc (wc.alloc (.cells #[.int .u8 1, .int .i64 (made : Int), .int .i64 key, .int .i64 0, .slice none 0 0] 27)) := (Below.refl _ _).alloc (Nat.le_refl _) _
        have HK1 : Hid (KB 27 wc y1) := (KB.of_below 27 hA1).trans (KB.grown (HO8.out.alloc _) hgrow1)
        have HBB1 : Hid (Below w3.heap.size wc y1) := below_grown ((Below.refl w3.heap.size wc).alloc HWS1.out _) HO8.out (Nat.le_refl _) HWS1.out hgrow1
        have HO71 := Lib.hid (HK1.out.own HO7.out (by decide))
        have HO81 : Hid (y1.ownsRow w3.heap.size 27 5 x1 (S.length + 1) (stcells (S ++ [⟨1, made, key, 0, []⟩]) (List.replicate (S.length + 1) (.slice none 0 0)))) := by
          show y1.ownsRow w3.heap.size 27 5 x1 (S.length + 1) (stcells (S ++ [⟨1, made, key, 0, []⟩]) (List.replicate (S.length + 1) (.slice none 0 0)))
          rw [List.replicate_succ', stcells_snoc _ _ (by rw [List.length_replicate])]
          exact hown1
        have HDEL := Lib.hid (del1_w w2.heap.size _ left kk (by rw [HLL.out]; exact hkk) y1 (by rw [HLL.out]; exact HO71.out))
        rw [HLL.out] at HDEL
        have HWS2' : Hid (w3.heap.size ≤ y1.heap.size) := Nat.le_trans HWS1.out HBB1.out.size
        clear hown1 hgrow1 hA1 q1
        go_wp2_with fail
        refine HDEL.out.mono ?_
        rintro e z1 ⟨u1, rfl, hou, hgu⟩
        have HKD : Hid (KB 3 y1 z1) := KB.grown HO71.out hgu
        have HOU := Lib.hid hou
        have HO82 := Lib.hid (HKD.out.own HO81.out (by decide))
        have HW23 : Hid (w.heap.size ≤ w2.heap.size ∧ w.heap.size ≤ w3.heap.size ∧ w.heap.size ≤ y1.heap.size) := by have := HSZ.out; have := HWS2'.out; show w.heap.size ≤ w2.heap.size ∧ w.heap.size ≤ w3.heap.size ∧ w.heap.size ≤ y1.heap.size; omega
        have HBD : Hid (Below w.heap.size wc z1) := (HBB1.out.mono HW23.out.2.1).trans (below_grown (Below.refl w.heap.size y1) HO71.out HW23.out.1 HW23.out.2.2 hgu)
        have HWS2 : Hid (w3.heap.size ≤ z1.heap.size) := Nat.le_trans HWS2'.out hgu.size
        obtain ⟨au, cu, rfl⟩ := own_len hou
        clear hou hgu
        go_wp2_with (at_builtin; refine wpList_append_own _ rfl (.tmp 78) (.tmp 81) 28 rfl w3.heap.size 27 i27 (.agg #[.int .u8 0, .int .i64 0, .int .i64 0, .int .i64 0, .slice none 0 0]) 5 56 Try.underlying28 HI.out.1 HI.out.2.1 HI.out.2.2.1 HI.out.2.2.2 rfl (by decide) _ _ _ rfl (HO82.out.alloc _) ⟨z1.heap.size, 0, none⟩ 1 1 [.int .u8 4, .int .i64 ((made + 1 : Nat) : Int), .int .i64 0, .int .i64 0, .slice none 0 0] rfl rfl (five_new _ _ _ _ _ _ _) (five_one rfl rfl rfl rfl rfl) (by have := HSB.out; unfold maxLen; omega) (by have := HSB.out; omega) (by have := HWS2.out; rw [size_alloc]; omega) ?_)
        intro x2 y2 hown2 hgrow2 _
        have hA2 : Below z1.heap.size z1 (z1.alloc (.cells #[.int .u8 4, .int .i64 ((made + 1 : Nat) : Int), .int .i64 0, .int .i64 0, .slice none 0 0] 27)) := (Below.refl _ _).alloc (Nat.le_refl _) _
        have HK2 : Hid (KB 27 z1 y2) := (KB.of_below 27 hA2).trans (KB.grown (HO82.out.alloc _) hgrow2)
        have HBB2 : Hid (Below w3.heap.size z1 y2) := below_grown ((Below.refl w3.heap.size z1).alloc HWS2.out _) HO82.out (Nat.le_refl _) HWS2.out hgrow2
        have HOU2 := Lib.hid (HK2.out.own HOU.out (by decide))
        have HO83 : Hid (y2.ownsRow w3.heap.size 27 5 x2 (S.length + 1 + 1) (stcells (S ++ [⟨1, made, key, 0, []⟩] ++ [⟨4, made + 1, 0, 0, []⟩]) (List.replicate (S.length + 1 + 1) (.slice none 0 0)))) := by
          show y2.ownsRow w3.heap.size 27 5 x2 (S.length + 1 + 1) (stcells (S ++ [⟨1, made, key, 0, []⟩] ++ [⟨4, made + 1, 0, 0, []⟩]) (List.replicate (S.length + 1 + 1) (.slice none 0 0)))
          rw [List.replicate_succ', stcells_snoc _ _ (by rw [List.length_replicate, List.length_append]; rfl)]
          exact hown2
        have HBE : Hid (Below w.heap.size w y2) := HB.out.trans (HBD.out.trans (HBB2.out.mono HW23.out.2.1))
        have HWE : Hid (w3.heap.size ≤ y2.heap.size) := Nat.le_trans HWS2.out HBB2.out.size
        clear hown2 hgrow2 hA2
        go_wp2_with fail
        go_roundg (gk - 1)
        case measure => omega
        case rel =>
          refine ⟨j + 1, made + 1, left.eraseIdx kk, S ++ [⟨1, made, key, 0, []⟩] ++ [⟨4, made + 1, 0, 0, []⟩], by rw [List.length_eraseIdx, if_pos (by rw [HLL.out]; exact hkk), HLL.out], by have := HJK.out; omega, HOU2.out, ?_, (HEM.out.gone (ord_ltO o) HKEY.out).ask 4 ⟨by decide, by decide⟩, ?_, by have := HMD.out; omega, rfl, rfl, HBE.out, HWE.out⟩
          · rw [List.length_append, List.length_append]
            exact HO83.out
          · rw [List.length_append, List.length_append, HSL.out]
            simp only [List.length_singleton]
            omega
    · have h1 : decide ((0 : Int) < (gk : Int)) = false := by simp; omega
      obtain rfl : 0 = gk := by omega
      have HEM0 : Hid (EmS (ltO o) S made []) := by
        have h := HEM.out
        rw [List.eq_nil_of_length_eq_zero HLL.out] at h
        exact h
      have HSB : Hid (S.length ≤ 600) := by have := HSL.out; have := HJK.out; have := HFL.out; have := HN3.out; show S.length ≤ 600; omega
      clear hlt
      go_wp2_with (at_builtin; refine wpList_append_own _ rfl (.tmp 83) (.tmp 93) 28 rfl w3.heap.size 27 i27 (.agg #[.int .u8 0, .int .i64 0, .int .i64 0, .int .i64 0, .slice none 0 0]) 5 56 Try.underlying28 HI.out.1 HI.out.2.1 HI.out.2.2.1 HI.out.2.2.2 rfl (by decide) _ _ _ rfl ((HO8.out.alloc _).alloc _) ⟨wr.heap.size + 1, 0, none⟩ 2 2 [.int .u8 3, .int .i64 (made : Int), .int .i64 0, .int .i64 0, .slice none 0 0, .int .u8 6, .int .i64 (made : Int), .int .i64 0, .int .i64 0, .slice (some ⟨wr.heap.size, 0, none⟩) 4 4] rfl rfl (many_new1 _ _ _ _) (by intro u hu; simp only [List.mem_cons, List.not_mem_nil, or_false] at hu; rcases hu with rfl | rfl | rfl | rfl | rfl | rfl | rfl | rfl | rfl | rfl <;> rfl) (by have := HSB.out; unfold maxLen; omega) (by have := HSB.out; omega) (by have := HWS1.out; rw [size_alloc, size_alloc]; omega) ?_)
      intro x1 y1 hown1 hgrow1 _
      have hA1 : Below wr.heap.size wr (wr.alloc (.cells #[.int .u8 5, .int .i64 0, .int .u8 1, .int .i64 0, .int .u8 5, .int .i64 0, .int .u8 2, .int .i64 0] 44)) := (Below.refl _ _).alloc (Nat.le_refl _) _
      obtain ⟨X, hX⟩ : ∃ X, X = wr.alloc (.cells #[.int .u8 5, .int .i64 0, .int .u8 1, .int .i64 0, .int .u8 5, .int .i64 0, .int .u8 2, .int .i64 0] 44) := ⟨_, rfl⟩
      have hXm : X.heap[wr.heap.size]? = some (.cells #[.int .u8 5, .int .i64 0, .int .u8 1, .int .i64 0, .int .u8 5, .int .i64 0, .int .u8 2, .int .i64 0] 44 (0, 0)) := by rw [hX]; exact heap_alloc_last wr _
      have hO8X := HO8.out.alloc (.cells #[.int .u8 5, .int .i64 0, .int .u8 1, .int .i64 0, .int .u8 5, .int .i64 0, .int .u8 2, .int .i64 0] 44)
      rw [← hX] at hgrow1 hA1 hO8X
      have hXs : wr.heap.size ≤ X.heap.size := hA1.size
      have hA2 : Below X.heap.size X (X.alloc (.cells #[.int .u8 3, .int .i64 (made : Int), .int .i64 0, .int .i64 0, .slice none 0 0, .int .u8 6, .int .i64 (made : Int), .int .i64 0, .int .i64 0, .slice (some ⟨wr.heap.size, 0, none⟩) 4 4] 27)) := (Below.refl _ _).alloc (Nat.le_refl _) _
      have hK1 : KB 27 X y1 := (KB.of_below 27 hA2).trans (KB.grown (hO8X.alloc _) hgrow1)
      have hBB1 : Below w3.heap.size X y1 := below_grown ((Below.refl w3.heap.size X).alloc (by have := HWS1.out; omega) _) hO8X (Nat.le_refl _) (by have := HWS1.out; omega) hgrow1
      have HW23 : Hid (w.heap.size ≤ w3.heap.size) := HSZ.out.2
      have HBY : Hid (Below w.heap.size w y1) := HB.out.trans ((hA1.mono HB.out.size).trans (hBB1.mono HW23.out))
      have hmv : MovesV y1 (.slice (some ⟨wr.heap.size, 0, none⟩) 4 4) emMv := em_mv (hK1 _ _ _ hXm (by decide))
      have hst := em_stps (made := made) HEM0.out.2.2.1 hown1 hmv
      obtain ⟨hr1, hlast⟩ := HEM0.out.fin
      have hmo : ∀ s ∈ S ++ [(⟨3, made, 0, 0, []⟩ : Stp)] ++ [⟨6, made, 0, 0, emMv⟩], s.moves.length ≤ 40 := fun s hs => by
        rcases List.mem_append.1 hs with hs | hs
        · rcases List.mem_append.1 hs with hs | hs
          · rw [HEM0.out.2.2.1 s hs]; exact Nat.zero_le _
          · rw [List.mem_singleton.1 hs]; exact Nat.zero_le _
        · rw [List.mem_singleton.1 hs]; exact (by decide : 4 ≤ 40)
      obtain ⟨L, hL⟩ : ∃ L, L = S ++ [(⟨3, made, 0, 0, []⟩ : Stp)] ++ [⟨6, made, 0, 0, emMv⟩] := ⟨_, rfl⟩
      have hll : L.length = S.length + 1 + 1 := by rw [hL, List.length_append, List.length_append]; rfl
      rw [← hL] at hst hr1 hlast hmo
      obtain ⟨K, hK⟩ : ∃ K, K = S.length + 1 := ⟨_, rfl⟩
      rw [← hK] at hlast hll
      have HLL2 : Hid (L.length = K + 1 ∧ K ≤ 700) := ⟨hll, by have := HSB.out; omega⟩
      have HST := Lib.hid hst
      have HRL := Lib.hid hr1
      have HLAST := Lib.hid hlast
      have HMO := Lib.hid hmo
      obtain ⟨xa, xc, hx1⟩ := own_len hown1
      rw [show S.length + 2 = K + 1 by omega] at hx1
      subst hx1
      obtain ⟨N, hN⟩ : ∃ N, N = K + 1 := ⟨_, rfl⟩
      rw [← hN] at HST ⊢
      have HN2 : Hid (N = K + 1) := hN
      have HRUN := Lib.hid (srun_w o [] List.Pairwise.nil (Nat.zero_le _) _ L _ y1 (pt_nil y1 o) HST.out HRL.out (by have := HLL2.out; omega))
      clear hown1 hgrow1 hA1 hX hXm hO8X hXs hA2 hK1 hBB1 hmv hst hr1 hlast hmo hL hll hK hN
      go_wp2_with fail
      refine HRUN.out.mono ?_
      rintro e z1 ⟨tv, vv, rfl, htd, -, hb1⟩
      obtain ⟨g, tc, g2, c2, rfl, hc1, hc2⟩ := em_last htd HLAST.out rfl
      rw [run_len, HLL2.out.1, ← HN2.out]
      have HTD := Lib.hid htd
      have HB1 := Lib.hid (HBY.out.trans (hb1.mono HBY.out.size))
      have HST1 := Lib.hid (HST.out.below hb1)
      have HTS := Lib.hid (tosort_w _ L z1 HST1.out (by have := HLL2.out; omega) (fun s hs => by have := HMO.out s hs; omega))
      clear htd hb1 HRUN HST
      go_wp2_with fail
      refine HTS.out.mono ?_
      rintro e z2 ⟨v4, rfl, hv4, hb4⟩
      have HRM := Lib.hid (runMaps_w o L v4 z2 hv4.stps HRL.out (by have := HLL2.out; omega))
      have HB4 := Lib.hid (HB1.out.trans (hb4.mono HB1.out.size))
      have HTD4 := Lib.hid (HTD.out.below hb4)
      replace hc1 := bcell hb4 hc1
      replace hc2 := bcell hb4 hc2
      obtain ⟨v4a, v4c, rfl⟩ : ∃ a c, v4 = .slice a L.length c := by
        obtain ⟨rs, -, h, -⟩ := hv4
        exact own_len h
      clear hv4 hb4 HTS HTD
      go_wp2_with fail
      refine HRM.out.mono ?_
      rintro e z3 ⟨v5, rfl, hv5, hb5⟩
      have HB5 := Lib.hid (HB4.out.trans (hb5.mono HB4.out.size))
      obtain ⟨v5a, v5c, rfl⟩ : ∃ a c, v5 = .slice a (run (ltO o) [[]] L).length c := by
        obtain ⟨rs, -, h, -⟩ := hv5
        exact own_len h
      have hrl : (run (ltO o) [[]] L).length = N := by rw [run_len, HLL2.out.1, HN2.out]
      rw [hrl] at hv5 ⊢
      have htd5 := (HTD4.out.below hb5).tldp
      rw [hrl] at htd5
      have HEQ := Lib.hid (eqf40_w _ _ (run (ltO o) [[]] L) (by rw [run_len]; have := HLL2.out; omega) (run_short o L [[]] 0 (fun es hes => by rw [List.mem_singleton.1 hes]; exact ⟨List.Pairwise.nil, Nat.le_refl _⟩) (by have := HLL2.out; omega) (fun s hs => by have := HMO.out s hs; omega)) z3 hv5.tld htd5)
      replace hc1 := bcell hb5 hc1
      replace hc2 := bcell hb5 hc2
      clear hv5 hb5 HRM HTD4 hrl htd5
      go_wp2_with fail
      refine HEQ.out.mono ?_
      rintro e z4 ⟨rfl, hb6⟩
      have HB6 := Lib.hid (HB5.out.trans (hb6.mono HB5.out.size))
      replace hc1 := bcell hb6 hc1
      replace hc2 := bcell hb6 hc2
      have hwn : IntKind.i64.wrap ((N : Int) - 1) = (K : Int) := by have := HLL2.out; have := HN2.out; rw [IntKind.wrap_i64]; omega
      have hnk : (N : Int) - 1 = (K : Int) := by have := HN2.out; omega
      have hwd : IntKind.i64.wrap (K : Int) = (K : Int) := by have := HLL2.out; rw [IntKind.wrap_i64]; omega
      have hk0 : (0 : Int) ≤ (K : Int) := by omega
      have hk1 : (K : Int) < (N : Int) := by have := HN2.out; omega
      clear hb6 HEQ
      go_wp2_with fail
      refine (awake_w z4).mono ?_
      rintro e wa ⟨rfl, hba⟩
      have HBA := Lib.hid (HB6.out.trans (hba.mono HB6.out.size))
      clear hba
      go_wp2_with fail
      refine bodyPost_ret (results_tmp rfl _ _ _) rfl ?_
      exact ⟨rfl, HBA.out⟩
theorem lempt_c (c : Int) (hc : 0 ≤ c) (u : Value) (xs : List Int) (tv : Value) (ts : List Int) (htw : ∀ t ∈ ts, 0 ≤ t ∧ t ≤ 255) (w : World) (hu : RdN w u xs) (ht : RdK .u8 w tv ts) : Calls Try.prog 13 #[.int .u8 c, u, tv] w fun e w' => e = .returned (.bool true) ∧ Below w.heap.size w w' := by
  obtain ⟨o, rfl⟩ : ∃ o : Nat, c = (o : Int) := ⟨c.toNat, by omega⟩
  exact lempt_w o u xs tv ts htw w hu ht
end Go.Proofs.Ytefigjdebakccaa
