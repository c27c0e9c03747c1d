/- An iterator over a map: to the next pair. -/
import Derived.Test.YtpkndcmgialgcaaItrA
namespace Go.Proofs.Ytpkndcmgialgcaa
open Go.RowKit

/-- on the way to the next pair: k levels are left -/
def Nx (h : Int → Nat) (S : Nat → Prop) (w : World) (trie : Bool) (ib mb : Nat) (target : List (Int × Int)) (k : Nat) (wr : World) : Prop :=
  But (· = ib) w wr ∧ ∃ arr : Array Value, (k = 0 ∧ ItB wr ib mb arr (-1) ∧ target = []) ∨
    ∃ (d r : Nat) (v : Value) (after : List (Int × Int)) (x : Nat), k = d + 1 ∧ r + d = 7 ∧ ItB wr ib mb arr (d : Int) ∧ arr[1 + d * 2]? = some v ∧ arr[1 + d * 2 + 1]? = some (.int .i64 (x : Int)) ∧
      ((∃ es, Low h S w trie arr d r v es after ∧ LeafK h S w v es ∧ x < es.length ∧ es.length < 100000000 ∧ target = es.drop (x + 1) ++ after) ∨
       ∃ (r' : Nat) (c : Nat → List (Int × Int)) (kid : Nat → Value) (f : Nat), r = r' + 1 ∧ Brn h S w r' d v c kid f x ∧ f < 32 ∧ c f ≠ [] ∧ Low h S w trie arr d r v (cat c) after ∧ target = tailD c (f + 1) ++ after)
theorem nx_down {h : Int → Nat} {S : Nat → Prop} {w wr : World} {trie : Bool} {ib mb d r : Nat} {arr : Array Value} {v : Value} {es after target : List (Int × Int)} (hrd : r + d = 7) (hb : But (· = ib) w wr) (hi : ItB wr ib mb arr (d : Int)) (hl : Low h S w trie arr d r v es after) (ht : target = after) :
    Nx h S w trie ib mb target d (wr.setCell ⟨ib, 65, none⟩ (.int .i64 ((d : Int) - 1))) := by
  refine ⟨hb.setCell (.inl rfl) _, arr.setIfInBounds 65 (.int .i64 ((d : Int) - 1)), ?_⟩
  have hi2 := hi.setDep ((d : Int) - 1)
  have hsz := hi.2.1
  cases d with
  | zero =>
    obtain ⟨h1, h2, h3⟩ := hl
    exact .inl ⟨rfl, by simpa using hi2, by rw [ht, h1]⟩
  | succ d =>
    have e : ((d + 1 : Nat) : Int) - 1 = (d : Int) := by omega
    rw [e] at hi2 ⊢
    obtain ⟨vk, c, kid, f, x, aft, h1, h2, h3, h4, h5, h6, h7, h8, h9⟩ := hl
    refine .inr ⟨d, r + 1, vk, aft, x, rfl, by omega, hi2, by rw [Array.getElem?_setIfInBounds_ne (by omega)]; exact h1, by rw [Array.getElem?_setIfInBounds_ne (by omega)]; exact h2, .inr ⟨r, c, kid, f, rfl, h3, h4, h5, h9.arr fun j hj => Array.getElem?_setIfInBounds_ne (by omega), by rw [ht, h8]⟩⟩
theorem Nx.drew {h : Int → Nat} {S : Nat → Prop} {w wr : World} {trie : Bool} {ib mb k : Nat} {target : List (Int × Int)} (n : Nx h S w trie ib mb target k wr) : Nx h S w trie ib mb target k wr.drew := ⟨n.1.drew, n.2⟩

theorem ne172 {w : World} {ib b : Nat} {a0 c : Array Value} {t : TypeId} (h0 : w.heap[ib]? = some (.cells a0 172 (0, 0))) (hb : w.heap[b]? = some (Obj.cells c t (0, 0))) (ht : t ≠ 172) : ¬ b = ib := fun e => by
  subst e
  rw [hb] at h0
  simp only [Option.some.injEq, Obj.cells.injEq] at h0
  exact ht h0.2.1

/-- a slice's length -/
theorem Ents.len {S : Nat → Prop} {w : World} {v : Value} {es : List (Int × Int)} (he : Ents S w v es) : ∃ nb c, v = .slice (some ⟨nb, 0, none⟩) es.length c := by
  obtain ⟨b, c, arr, h1, _⟩ := he
  exact ⟨b, c, h1⟩

/-- the iterator goes down to another child -/
theorem go_child {h : Int → Nat} {S : Nat → Prop} {w Y : World} {trie : Bool} {ib mb d r' f f' x' : Nat} {a0 arr arr3 : Array Value} {v : Value} {c : Nat → List (Int × Int)} {kid : Nat → Value} {after target : List (Int × Int)} (hrd : r' + 1 + d = 7) (h0 : w.heap[ib]? = some (.cells a0 172 (0, 0))) (hb : But (· = ib) w Y)
    (hi : ItB Y ib mb arr3 ((d + 1 : Nat) : Int)) (hn : arr3[1 + (d + 1) * 2]? = some (kid f')) (hl : Low h S w trie arr d (r' + 1) v (cat c) after) (ha : ∀ j, j < 1 + d * 2 → arr3[j]? = arr[j]?) (hv : arr3[1 + d * 2]? = some v) (hx : arr3[1 + d * 2 + 1]? = some (.int .i64 (x' : Int)))
    (hB : Brn h S w r' d v c kid f' x') (hf : f < f') (hf' : f' < 32) (hc : c f' ≠ []) (hbt : ∀ i, f < i → i < f' → c i = []) (ht : target = tailD c (f + 1) ++ after) (htl : target.length < 100000000) :
    Calls Try.prog 102 #[.pointer (some ⟨ib, 0, none⟩)] Y fun e w' => e = .returned (.tuple #[]) ∧ But (· = ib) w w' ∧ St h S w' trie ib mb target := by
  have hs := hb.stay172 h0
  have et : target = c f' ++ (tailD c (f' + 1) ++ after) := by
    rw [ht, tailD_to c (a := f + 1) (b := f') (by omega) (by omega) (fun g h1 h2 => hbt g (by omega) h2), tailD_step c hf', List.append_assoc]
  refine (first_w h S trie Y ib mb arr3 (d + 1) r' (kid f') (c f') (tailD c (f' + 1) ++ after) (by rw [← et]; exact htl) (by omega) hi hn ((low_down hl ha hv hx hB hf' hc).stay hs)).mono ?_
  rintro e w' ⟨rfl, hb2, hst⟩
  refine ⟨rfl, hb.trans hb2, ?_⟩
  rw [et]
  exact hst

set_option maxRecDepth 100000 in
set_option maxHeartbeats 3200000 in
theorem next_w (h : Int → Nat) (S : Nat → Prop) (trie : Bool) (w : World) (ib mb : Nat) (arr : Array Value) (d r : Nat) (v : Value) (es after : List (Int × Int)) (x : Nat) (hl8 : es.length < 100000000) (htl : (es.drop (x + 1) ++ after).length < 100000000) (hrd : r + d = 7) (hi : ItB w ib mb arr (d : Int)) (hv : arr[1 + d * 2]? = some v) (hx : arr[1 + d * 2 + 1]? = some (.int .i64 (x : Int)))
    (hl : Low h S w trie arr d r v es after) (hlk : LeafK h S w v es) (hxl : x < es.length) :
    Calls Try.prog 103 #[.pointer (some ⟨ib, 0, none⟩)] w fun e w' => e = .returned (.tuple #[]) ∧ But (· = ib) w w' ∧ St h S w' trie ib mb (es.drop (x + 1) ++ after) := by
  obtain ⟨target, htar⟩ : ∃ target, target = es.drop (x + 1) ++ after := ⟨_, rfl⟩
  rw [← htar] at htl ⊢
  have HTL := Lib.hid htl
  clear htl
  have H0 := Lib.hid hi.1
  have HNX : Hid (Nx h S w trie ib mb target (d + 1) w) := ⟨But.refl _ w, arr, .inr ⟨d, r, v, after, x, rfl, hrd, hi, hv, hx, .inl ⟨es, hl, hlk, hxl, hl8, htar⟩⟩⟩
  clear hi hv hl hrd htar hx hlk hxl
  go_enter Try.func103, Try.ntmps103
  go_wp2_with fail
  go_loopg [] (d + 1) (fun k wr => Nx h S w trie ib mb target k wr)
  case atStart => exact HNX.out
  case round =>
    obtain ⟨hb, arr, ⟨rfl, hi, ht⟩ | ⟨d, r, v, after, x, rfl, hrd, hi, hv, hx, hcase⟩⟩ := hrel
    · have HI := Lib.hid hi
      have HB := Lib.hid hb
      have HT := Lib.hid ht
      have cd := cell_at hi.1 hi.2.2.2.1
      clear hi hb ht
      go_wp2_with fail
      refine bodyPost_end (results_none rfl _ _ _) rfl ?_
      exact ⟨rfl, HB.out, arr, .inl ⟨HI.out, HT.out⟩⟩
    · have hlk := hi.2.2.2.2
      have hd32 : d < 32 := by omega
      have cd := cell_at hi.1 hi.2.2.2.1
      have cv := cell_at hi.1 hv
      have cx := cell_at hi.1 hx
      have fd : wr.frozen? ⟨ib, 65, none⟩ = false := frozen_of_row _ _ _ _ _ hi.1
      have fx : wr.frozen? ⟨ib, 1 + d * 2 + 1, none⟩ = false := frozen_of_row _ _ _ _ _ hi.1
      have hd0 : (0 : Int) ≤ (d : Int) := by omega
      have hd1 : (d : Int) < 32 := by omega
      have hge : decide ((0 : Int) ≤ (d : Int)) = true := by simp
      have hwd : IntKind.i64.wrap ((d : Int) - 1) = (d : Int) - 1 := by rw [IntKind.wrap_i64]; omega
      have HI := Lib.hid hi
      have HV := Lib.hid hv
      have HX := Lib.hid hx
      have HB := Lib.hid hb
      have HRD := Lib.hid hrd
      clear hi hv hx hb hrd hlk
      rcases hcase with ⟨es, hl, hlk, hxl, hl9, ht⟩ | ⟨r', c, kid, f, hr', hB, hf, hc, hl, ht⟩
      · have HL := Lib.hid hl
        have HT := Lib.hid ht
        have HLK := Lib.hid hlk
        have hw1 : IntKind.i64.wrap ((x : Int) + 1) = (x : Int) + 1 := by rw [IntKind.wrap_i64]; omega
        have hw2 : IntKind.i64.wrap ((es.length : Int) - 1) = (es.length : Int) - 1 := by rw [IntKind.wrap_i64]; omega
        have HDOWN : Hid (es.length ≤ x + 1 → Nx h S w trie ib mb target d (wr.setCell ⟨ib, 65, none⟩ (.int .i64 ((d : Int) - 1)))) := fun hle =>
          nx_down HRD.out HB.out HI.out HL.out (by rw [HT.out, List.drop_of_length_le hle, List.nil_append])
        have HUP : Hid (x + 1 < es.length → But (· = ib) w (wr.setCell ⟨ib, 1 + d * 2 + 1, none⟩ (.int .i64 ((x : Int) + 1))) ∧ St h S (wr.setCell ⟨ib, 1 + d * 2 + 1, none⟩ (.int .i64 ((x : Int) + 1))) trie ib mb target) := fun hlt => by
          have h9 := st_leaf HRD.out H0.out HB.out HI.out HV.out HL.out HLK.out hl9 hlt
          have e9 : ((x + 1 : Nat) : Int) = (x : Int) + 1 := by omega
          rw [← HT.out, e9] at h9
          exact h9
        clear hl ht
        go_upto_region 2 with (fail)
        refine region_tail 8 (by kernel_rfl) (by kernel_rfl) ?_
        simp only [List.take_succ_cons, List.take_zero, List.drop_succ_cons, List.drop_zero]
        repeat still_step
        refine wpStill_nil ?_
        rcases hlk with hlk | hlk
        · rcases hlk with ⟨b, k, y, rfl, h2, h3, h4⟩ | ⟨b, xx, sl, rfl, h2, h3, h4, h5, h6⟩
          · have t1 := as184_177 b
            have t2 := as184_252 b
            have t3 := as184_256 b
            have t4 := as184_184 b
            have h3l : es.length ≤ x + 1 := by rw [h3] at hxl ⊢; simp at hxl ⊢
            clear h2 h3 h4
            go_wp2_with fail
            go_roundg d
            case measure => omega
            case rel => exact (HDOWN.out h3l).drew
          · have t1 := as187_177 b
            have t2 := as187_252 b
            have t3 := as187_256 b
            have t4 := as187_184 b
            have t5 := as187_187 b
            obtain ⟨nb, cc, rfl⟩ := h3.len
            have hbb := HB.out.at h2 (ne172 H0.out h2 (by decide))
            have hsl := cell_at (j := 1) hbb rfl
            by_cases hlt : x + 1 < es.length
            · have h1 : decide ((x : Int) < (es.length : Int) - 1) = true := by simp; omega
              clear h2 h3 h4 h5 h6 hbb
              go_upto_region 29 with (fail)
              refine region_tail 10 (by kernel_rfl) (by kernel_rfl) ?_
              simp only [List.take_succ_cons, List.take_zero, List.drop_succ_cons, List.drop_zero]
              repeat still_step
              refine wpStill_nil ?_
              go_wp2_with fail
              refine bodyPost_ret (results_none rfl _ _ _) rfl ?_
              exact ⟨rfl, st_drew (st_drew (HUP.out hlt))⟩
            · have h1 : decide ((x : Int) < (es.length : Int) - 1) = false := by simp; omega
              clear h2 h3 h4 h5 h6 hbb
              go_upto_region 29 with (fail)
              refine region_tail 10 (by kernel_rfl) (by kernel_rfl) ?_
              simp only [List.take_succ_cons, List.take_zero, List.drop_succ_cons, List.drop_zero]
              repeat still_step
              refine wpStill_nil ?_
              go_wp2_with fail
              go_roundg d
              case measure => omega
              case rel => exact (HDOWN.out (by omega)).drew.drew
            
        · obtain ⟨b, sl, rfl, h2, h3, h4, h5, h6⟩ := hlk
          have t1 := as177_177 b
          obtain ⟨nb, cc, rfl⟩ := h3.len
          have hbb := HB.out.at h2 (ne172 H0.out h2 (by decide))
          have hsl := cell_at (j := 0) hbb rfl
          by_cases hlt : x + 1 < es.length
          · have h1 : decide ((x : Int) < (es.length : Int) - 1) = true := by simp; omega
            clear h2 h3 h4 h5 h6 hbb
            go_upto_region 6 with (fail)
            refine region_tail 10 (by kernel_rfl) (by kernel_rfl) ?_
            simp only [List.take_succ_cons, List.take_zero, List.drop_succ_cons, List.drop_zero]
            repeat still_step
            refine wpStill_nil ?_
            go_wp2_with fail
            refine bodyPost_ret (results_none rfl _ _ _) rfl ?_
            exact ⟨rfl, st_drew (st_drew (HUP.out hlt))⟩
          · have h1 : decide ((x : Int) < (es.length : Int) - 1) = false := by simp; omega
            clear h2 h3 h4 h5 h6 hbb
            go_upto_region 6 with (fail)
            refine region_tail 10 (by kernel_rfl) (by kernel_rfl) ?_
            simp only [List.take_succ_cons, List.take_zero, List.drop_succ_cons, List.drop_zero]
            repeat still_step
            refine wpStill_nil ?_
            go_wp2_with fail
            go_roundg d
            case measure => omega
            case rel => exact (HDOWN.out (by omega)).drew.drew
          
      · have HL := Lib.hid hl
        have HT := Lib.hid ht
        have HBR := Lib.hid hB
        have HR' := Lib.hid hr'
        obtain ⟨hk0, hk1, hbr⟩ := hB
        have HK := Lib.hid (And.intro hk0 hk1)
        have HC := Lib.hid hc
        have HDOWN : Hid (tailD c (f + 1) = [] → Nx h S w trie ib mb target d (wr.setCell ⟨ib, 65, none⟩ (.int .i64 ((d : Int) - 1)))) := fun he =>
          nx_down HRD.out HB.out HI.out HL.out (by rw [HT.out, he, List.nil_append])
        clear hl ht hr' hk0 hk1 hc
        go_upto_region 2 with (fail)
        refine region_tail 8 (by kernel_rfl) (by kernel_rfl) ?_
        simp only [List.take_succ_cons, List.take_zero, List.drop_succ_cons, List.drop_zero]
        repeat still_step
        refine wpStill_nil ?_
        rcases hbr with ⟨hbr, hxe⟩ | ⟨hbr, hxe⟩
        · have HBM := Lib.hid hbr
          obtain ⟨b, m, nb, cap, ar, rfl, h7, h8, h9, h10, h11, h12, h13, h14⟩ := hbr
          have t1 := as252_177 b
          have t2 := as252_252 b
          have HBK := Lib.hid (And.intro h7 (And.intro h9 h12))
          have HXE := Lib.hid hxe
          have hx32 : x ≤ 32 := by have := cnt_le (pres c) f; omega
          have hn32 := cnt_le (pres c) 32
          have hbb := HB.out.at h7 (ne172 H0.out h7 (by decide))
          have hsl := cell_at (j := 1) hbb rfl
          have hw1 : IntKind.i64.wrap ((x : Int) + 1) = (x : Int) + 1 := by rw [IntKind.wrap_i64]; omega
          have hw2 : IntKind.i64.wrap ((cnt (pres c) 32 : Int) - 1) = (cnt (pres c) 32 : Int) - 1 := by rw [IntKind.wrap_i64]; omega
          clear h7 h8 h9 h10 h11 h12 h13 h14 hbb
          by_cases hlt : x + 1 < cnt (pres c) 32
          · have h1 : decide ((x : Int) < (cnt (pres c) 32 : Int) - 1) = true := by simp; omega
            obtain ⟨g, hfg, hg32, hcg, hcnt, hbt⟩ := next_pres (c := c) (f := f) HC.out (by rw [← hxe]; exact hlt)
            obtain ⟨kt, kq, hkl⟩ := (HK.out.2 g hg32 hcg).ptr
            have HG := Lib.hid (And.intro hcg (And.intro hcnt hbt))
            have HKL := Lib.hid hkl
            have hcnt' : cnt (pres c) g = x + 1 := by rw [hcnt, hxe]
            have HCNT := Lib.hid hcnt'
            clear hxe hcg hcnt hbt hkl hcnt'
            go_upto_region 10 with (fail)
            refine region_tail 10 (by kernel_rfl) (by kernel_rfl) ?_
            simp only [List.take_succ_cons, List.take_zero, List.drop_succ_cons, List.drop_zero]
            repeat still_step
            refine wpStill_nil ?_
            go_upto_region 12 with (fail)
            obtain ⟨y, hy⟩ : ∃ y, y = x + 1 := ⟨_, rfl⟩
            have hyx : (x : Int) + 1 = (y : Int) := by omega
            rw [hyx]
            clear hyx
            have hcnt' := HCNT.out
            rw [← hy] at hcnt' hlt
            have HCNT := Lib.hid hcnt'
            have hyn : y < cnt (pres c) 32 := hlt
            clear hcnt' hlt hy hx32
            have HBa : Hid (But (· = ib) w (wr.setCell ⟨ib, 1 + d * 2 + 1, none⟩ (.int .i64 (y : Int))).drew.drew) := (HB.out.setCell (.inl rfl) _).drew.drew
            clear cd cv cx fd fx hsl h1
            have HIa : Hid (ItB (wr.setCell ⟨ib, 1 + d * 2 + 1, none⟩ (.int .i64 (y : Int))).drew.drew ib mb (arr.setIfInBounds (1 + d * 2 + 1) (.int .i64 (y : Int))) (d : Int)) := HI.out.setIdx hd32 (y : Int)
            generalize (wr.setCell ⟨ib, 1 + d * 2 + 1, none⟩ (.int .i64 (y : Int))).drew.drew = X at HIa HBa ⊢
            obtain ⟨ar1, har1⟩ : ∃ ar1, ar1 = arr.setIfInBounds (1 + d * 2 + 1) (.int .i64 (y : Int)) := ⟨_, rfl⟩
            rw [← har1] at HIa
            have HA1 := Lib.hid har1
            clear har1
            have hbb := HBa.out.at HBK.out.1 (ne172 H0.out HBK.out.1 (by decide))
            have hbn := HBa.out.at HBK.out.2.1 (ne172 H0.out HBK.out.2.1 (by decide))
            have hc1 := cell_at (j := 1) hbb rfl
            have hk := HBK.out.2.2 g hg32 (pres_t.2 HG.out.1)
            rw [HCNT.out, HKL.out] at hk
            have hn0 := cell_at hbn hk
            clear hbb hbn hk
            have cd := cell_at HIa.out.1 HIa.out.2.2.2.1
            have ci := cell_at (j := 1 + d * 2 + 1) (v := .int .i64 (y : Int)) HIa.out.1 (by rw [HA1.out, Array.getElem?_setIfInBounds_self_of_lt (by have := HI.out.2.1; omega)])
            have hd2 : d + 1 < 32 := by have := HRD.out; omega
            obtain ⟨un, hun⟩ : ∃ u, ar1[1 + (d + 1) * 2]? = some u := ⟨_, Array.getElem?_eq_getElem (by have := HIa.out.2.1; omega)⟩
            have cn := cell_at HIa.out.1 hun
            have fn : X.frozen? ⟨ib, 1 + (d + 1) * 2, none⟩ = false := frozen_of_row _ _ _ _ _ HIa.out.1
            have hd3 : (d : Int) + 1 < 32 := by omega
            have hd4 : (0 : Int) ≤ (d : Int) + 1 := by omega
            have hdt : ((d : Int) + 1).toNat = d + 1 := by omega
            have hwp : IntKind.i64.wrap ((d : Int) + 1) = (d : Int) + 1 := by rw [IntKind.wrap_i64]; omega
            clear hun
            refine region_tail 20 (by kernel_rfl) (by kernel_rfl) ?_
            simp only [List.take_succ_cons, List.take_zero, List.drop_succ_cons, List.drop_zero]
            repeat still_step
            refine wpStill_nil ?_
            go_upto_region 13 with (fail)
            have HIb : Hid (ItB (X.setCell ⟨ib, 1 + (d + 1) * 2, none⟩ (.iface kt (.pointer (some ⟨kq, 0, none⟩)))).drew ib mb (ar1.setIfInBounds (1 + (d + 1) * 2) (.iface kt (.pointer (some ⟨kq, 0, none⟩)))) (d : Int)) := HIa.out.setNode hd2 (.iface kt (.pointer (some ⟨kq, 0, none⟩)))
            have HBb2 : Hid (But (· = ib) w (X.setCell ⟨ib, 1 + (d + 1) * 2, none⟩ (.iface kt (.pointer (some ⟨kq, 0, none⟩)))).drew) := (HBa.out.setCell (.inl rfl) _).drew
            clear cd cn fn ci hc1 hn0
            generalize (X.setCell ⟨ib, 1 + (d + 1) * 2, none⟩ (.iface kt (.pointer (some ⟨kq, 0, none⟩)))).drew = Y at HIb HBb2 ⊢
            have cd := cell_at HIb.out.1 HIb.out.2.2.2.1
            have fd : Y.frozen? ⟨ib, 65, none⟩ = false := frozen_of_row _ _ _ _ _ HIb.out.1
            go_wp2_with fail
            have HIc : Hid (ItB (Y.setCell ⟨ib, 65, none⟩ (.int .i64 ((d : Int) + 1))) ib mb ((ar1.setIfInBounds (1 + (d + 1) * 2) (.iface kt (.pointer (some ⟨kq, 0, none⟩)))).setIfInBounds 65 (.int .i64 ((d : Int) + 1))) ((d + 1 : Nat) : Int)) := HIb.out.setDep ((d : Int) + 1)
            have HBc : Hid (But (· = ib) w (Y.setCell ⟨ib, 65, none⟩ (.int .i64 ((d : Int) + 1)))) := HBb2.out.setCell (.inl rfl) _
            have hsz := HIa.out.2.1
            have hsz2 := HIb.out.2.1
            have hsz0 := HI.out.2.1
            refine (go_child (h := h) (S := S) (trie := trie) (c := c) (kid := kid) (d := d) (r' := r') (f := f) (f' := g) (x' := y) (arr := arr) (v := .iface 252 (.pointer (some ⟨b, 0, none⟩))) (after := after) (target := target) (by have := HRD.out; have := HR'.out; omega) H0.out HBc.out HIc.out ?_ (by rw [← HR'.out]; exact HL.out) (fun j hj => ?_) ?_ ?_ ⟨HK.out.1, HK.out.2, .inl ⟨HBM.out, HCNT.out.symm⟩⟩ hfg hg32 HG.out.1 HG.out.2.2 HT.out HTL.out).mono ?_
            · rw [Array.getElem?_setIfInBounds_ne (by omega), Array.getElem?_setIfInBounds_self_of_lt (by omega), HKL.out]
            · rw [Array.getElem?_setIfInBounds_ne (by omega), Array.getElem?_setIfInBounds_ne (by omega), HA1.out, Array.getElem?_setIfInBounds_ne (by omega)]
            · rw [Array.getElem?_setIfInBounds_ne (by omega), Array.getElem?_setIfInBounds_ne (by omega), HA1.out, Array.getElem?_setIfInBounds_ne (by omega)]
              exact HV.out
            · rw [Array.getElem?_setIfInBounds_ne (by omega), Array.getElem?_setIfInBounds_ne (by omega), HA1.out, Array.getElem?_setIfInBounds_self_of_lt (by omega)]
            rintro e w' ⟨rfl, hb', hst⟩
            have HST := Lib.hid (And.intro hb' hst)
            clear hb' hst
            go_wp2_with fail
            refine bodyPost_ret (results_none rfl _ _ _) rfl ?_
            exact ⟨rfl, HST.out⟩

          · have h1 : decide ((x : Int) < (cnt (pres c) 32 : Int) - 1) = false := by simp; omega
            have HNO := Lib.hid (no_next HC.out hf (by rw [← hxe]; exact hlt))
            clear hxe
            go_upto_region 10 with (fail)
            refine region_tail 10 (by kernel_rfl) (by kernel_rfl) ?_
            simp only [List.take_succ_cons, List.take_zero, List.drop_succ_cons, List.drop_zero]
            repeat still_step
            refine wpStill_nil ?_
            go_wp2_with fail
            go_roundg d
            case measure => omega
            case rel => exact (HDOWN.out HNO.out).drew.drew
        · have HBM := Lib.hid hbr
          obtain ⟨b, ar, rfl, h7, h8, h9, h10, h11⟩ := hbr
          have t1 := as256_177 b
          have t2 := as256_252 b
          have t3 := as256_256 b
          have HBK := Lib.hid (And.intro h7 h10)
          obtain rfl : f = x := hxe.symm
          have hw1 : IntKind.i64.wrap ((f : Int) + 1) = (f : Int) + 1 := by rw [IntKind.wrap_i64]; omega
          clear h7 h8 h9 h10 h11 hxe
          obtain ⟨G, hG32, hfG, hGb, hGc⟩ : ∃ G, G ≤ 32 ∧ f < G ∧ (∀ i, f < i → i < G → c i = []) ∧ (G = 32 ∨ c G ≠ []) := by
            by_cases hlt : cnt (pres c) f + 1 < cnt (pres c) 32
            · obtain ⟨g, hfg, hg32, hcg, hcnt, hbt⟩ := next_pres (c := c) (f := f) HC.out hlt
              exact ⟨g, by omega, hfg, hbt, .inr hcg⟩
            · refine ⟨32, Nat.le_refl _, hf, fun i h1 h2 => ?_, .inl rfl⟩
              by_cases hp : pres c i = true
              · have h6 := cnt_lt (pres c) h1 (pres_t.2 HC.out)
                have h7 := cnt_lt (pres c) h2 hp
                omega
              · simpa [pres_t] using hp
          have HG := Lib.hid (And.intro hGb hGc)
          clear hGb hGc
          go_wp2_with fail
          obtain ⟨wo, rfl⟩ : ∃ wo : World, wo = wr := ⟨_, rfl⟩
          go_loopg [6] (G - (f + 1)) (fun k v wr => ∃ i : Nat, i + k = G ∧ f < i ∧ v = .int .i64 (i : Int) ∧ wr = wo.drew)
          case atStart => exact ⟨f + 1, by omega, by omega, by simp, rfl⟩
          case round =>
            obtain ⟨i, hik, hfi, rfl, rfl⟩ := hrel
            have hbb := HB.out.at HBK.out.1 (ne172 H0.out HBK.out.1 (by decide))
            have hi0 : (0 : Int) ≤ (i : Int) := by omega
            by_cases hi32 : i < 32
            · have h1 : decide ((i : Int) < 32) = true := by simp; omega
              have hi1 : (i : Int) < 32 := by omega
              have hwi : IntKind.i64.wrap ((i : Int) + 1) = (i : Int) + 1 := by rw [IntKind.wrap_i64]; omega
              by_cases hlt : i < G
              · have hkn : kid i = .nilIface := HK.out.1 i hi32 (HG.out.1 i hfi hlt)
                have hci : wo.cell? ⟨b, 1 + i, none⟩ = some .nilIface := cell_at hbb (by rw [HBK.out.2 i hi32, hkn])
                clear hbb hkn
                go_wp2_with fail
                go_roundg (gk - 1)
                case measure => omega
                case rel => exact ⟨i + 1, by omega, by omega, rfl, rfl⟩
              · obtain rfl : i = G := by omega
                have hcg : c i ≠ [] := by
                  rcases HG.out.2 with h9 | h9
                  · omega
                  · exact h9
                obtain ⟨kt, kq, hkl⟩ := (HK.out.2 i hi32 hcg).ptr
                have HKL := Lib.hid hkl
                have HCG := Lib.hid hcg
                have hci : wo.cell? ⟨b, 1 + i, none⟩ = some (.iface kt (.pointer (some ⟨kq, 0, none⟩))) := cell_at hbb (by rw [HBK.out.2 i hi32, hkl])
                clear hbb hlt hik hkl hcg
                go_upto_region 22 with (fail)
                have HBa : Hid (But (· = ib) w (wo.setCell ⟨ib, 1 + d * 2 + 1, none⟩ (.int .i64 (i : Int))).drew) := (HB.out.setCell (.inl rfl) _).drew
                clear cd cv cx fd fx hci
                have HIa : Hid (ItB (wo.setCell ⟨ib, 1 + d * 2 + 1, none⟩ (.int .i64 (i : Int))).drew ib mb (arr.setIfInBounds (1 + d * 2 + 1) (.int .i64 (i : Int))) (d : Int)) := HI.out.setIdx hd32 (i : Int)
                generalize (wo.setCell ⟨ib, 1 + d * 2 + 1, none⟩ (.int .i64 (i : Int))).drew = X at HIa HBa ⊢
                obtain ⟨ar1, har1⟩ : ∃ ar1, ar1 = arr.setIfInBounds (1 + d * 2 + 1) (.int .i64 (i : Int)) := ⟨_, rfl⟩
                rw [← har1] at HIa
                have HA1 := Lib.hid har1
                clear har1
                have hbb := HBa.out.at HBK.out.1 (ne172 H0.out HBK.out.1 (by decide))
                have hci : X.cell? ⟨b, 1 + i, none⟩ = some (.iface kt (.pointer (some ⟨kq, 0, none⟩))) := cell_at hbb (by rw [HBK.out.2 i hi32, HKL.out])
                have cd := cell_at HIa.out.1 HIa.out.2.2.2.1
                have ci := cell_at (j := 1 + d * 2 + 1) (v := .int .i64 (i : Int)) HIa.out.1 (by rw [HA1.out, Array.getElem?_setIfInBounds_self_of_lt (by have := HI.out.2.1; omega)])
                have hd2 : d + 1 < 32 := by have := HRD.out; have := HR'.out; omega
                obtain ⟨un, hun⟩ : ∃ u, ar1[1 + (d + 1) * 2]? = some u := ⟨_, Array.getElem?_eq_getElem (by have := HIa.out.2.1; omega)⟩
                have cn := cell_at HIa.out.1 hun
                have fn : X.frozen? ⟨ib, 1 + (d + 1) * 2, none⟩ = false := frozen_of_row _ _ _ _ _ HIa.out.1
                have hd3 : (d : Int) + 1 < 32 := by omega
                have hd4 : (0 : Int) ≤ (d : Int) + 1 := by omega
                have hdt : ((d : Int) + 1).toNat = d + 1 := by omega
                have hwp : IntKind.i64.wrap ((d : Int) + 1) = (d : Int) + 1 := by rw [IntKind.wrap_i64]; omega
                clear hun hbb
                refine region_tail 19 (by kernel_rfl) (by kernel_rfl) ?_
                simp only [List.take_succ_cons, List.take_zero, List.drop_succ_cons, List.drop_zero]
                repeat still_step
                refine wpStill_nil ?_
                go_upto_region 23 with (fail)
                have HIb : Hid (ItB (X.setCell ⟨ib, 1 + (d + 1) * 2, none⟩ (.iface kt (.pointer (some ⟨kq, 0, none⟩)))).drew ib mb (ar1.setIfInBounds (1 + (d + 1) * 2) (.iface kt (.pointer (some ⟨kq, 0, none⟩)))) (d : Int)) := HIa.out.setNode hd2 (.iface kt (.pointer (some ⟨kq, 0, none⟩)))
                have HBb2 : Hid (But (· = ib) w (X.setCell ⟨ib, 1 + (d + 1) * 2, none⟩ (.iface kt (.pointer (some ⟨kq, 0, none⟩)))).drew) := (HBa.out.setCell (.inl rfl) _).drew
                clear cd cn fn ci hci
                generalize (X.setCell ⟨ib, 1 + (d + 1) * 2, none⟩ (.iface kt (.pointer (some ⟨kq, 0, none⟩)))).drew = Y at HIb HBb2 ⊢
                have cd := cell_at HIb.out.1 HIb.out.2.2.2.1
                have fd : Y.frozen? ⟨ib, 65, none⟩ = false := frozen_of_row _ _ _ _ _ HIb.out.1
                go_wp2_with fail
                have HIc : Hid (ItB (Y.setCell ⟨ib, 65, none⟩ (.int .i64 ((d : Int) + 1))) ib mb ((ar1.setIfInBounds (1 + (d + 1) * 2) (.iface kt (.pointer (some ⟨kq, 0, none⟩)))).setIfInBounds 65 (.int .i64 ((d : Int) + 1))) ((d + 1 : Nat) : Int)) := HIb.out.setDep ((d : Int) + 1)
                have HBc : Hid (But (· = ib) w (Y.setCell ⟨ib, 65, none⟩ (.int .i64 ((d : Int) + 1)))) := HBb2.out.setCell (.inl rfl) _
                have hsz := HIa.out.2.1
                have hsz2 := HIb.out.2.1
                have hsz0 := HI.out.2.1
                refine (go_child (h := h) (S := S) (trie := trie) (c := c) (kid := kid) (d := d) (r' := r') (f := f) (f' := i) (x' := i) (arr := arr) (v := .iface 256 (.pointer (some ⟨b, 0, none⟩))) (after := after) (target := target) (by have := HRD.out; have := HR'.out; omega) H0.out HBc.out HIc.out ?_ (by rw [← HR'.out]; exact HL.out) (fun j hj => ?_) ?_ ?_ ⟨HK.out.1, HK.out.2, .inr ⟨HBM.out, rfl⟩⟩ hfi hi32 HCG.out HG.out.1 HT.out HTL.out).mono ?_
                · rw [Array.getElem?_setIfInBounds_ne (by omega), Array.getElem?_setIfInBounds_self_of_lt (by omega), HKL.out]
                · rw [Array.getElem?_setIfInBounds_ne (by omega), Array.getElem?_setIfInBounds_ne (by omega), HA1.out, Array.getElem?_setIfInBounds_ne (by omega)]
                · rw [Array.getElem?_setIfInBounds_ne (by omega), Array.getElem?_setIfInBounds_ne (by omega), HA1.out, Array.getElem?_setIfInBounds_ne (by omega)]
                  exact HV.out
                · rw [Array.getElem?_setIfInBounds_ne (by omega), Array.getElem?_setIfInBounds_ne (by omega), HA1.out, Array.getElem?_setIfInBounds_self_of_lt (by omega)]
                rintro e w' ⟨rfl, hb', hst⟩
                have HST := Lib.hid (And.intro hb' hst)
                clear hb' hst
                go_wp2_with fail
                refine bodyPost_ret (results_none rfl _ _ _) rfl ?_
                exact ⟨rfl, HST.out⟩

            · have h1 : decide ((i : Int) < 32) = false := by simp; omega
              have hiG : i = G := by omega
              have HNO : Hid (tailD c (f + 1) = []) := by
                show tailD c (f + 1) = []
                rw [tailD_to c (a := f + 1) (b := 32) (by omega) (Nat.le_refl _) fun g h1 h2 => HG.out.1 g (by omega) (by omega), tailD_end c (Nat.le_refl _)]
              clear hbb
              go_wp2_with fail
              go_roundg d
              case measure => omega
              case rel => exact (HDOWN.out HNO.out).drew
end Go.Proofs.Ytpkndcmgialgcaa
