/- An iterator over a map: Done, First, Next, Iterator. -/
import Derived.Test.YtpkndcmgialgcaaItrB
namespace Go.Proofs.Ytpkndcmgialgcaa
open Go.RowKit

set_option maxRecDepth 100000 in
set_option maxHeartbeats 400000 in
theorem done_c (ib : Nat) (d : Int) (w : World) (hc : w.cell? ⟨ib, 65, none⟩ = some (.int .i64 d)) :
    Calls Try.prog 60 #[.pointer (some ⟨ib, 0, none⟩)] w fun e w' => e = .returned (.bool (d == -1)) ∧ w = w' := by
  go_enter Try.func60, Try.ntmps60
  go_wp2
  go_ret
  exact ⟨rfl, rfl⟩
theorem done_w {h : Int → Nat} {S : Nat → Prop} {trie : Bool} {w : World} {ib mb : Nat} {rest : List (Int × Int)} (n : St h S w trie ib mb rest) :
    Calls Try.prog 60 #[.pointer (some ⟨ib, 0, none⟩)] w fun e w' => e = .returned (.bool rest.isEmpty) ∧ w = w' := by
  obtain ⟨arr, ⟨h1, h2⟩ | ⟨d, r, v, es, after, x, h1, h2, h3, h4, h5, h6, h7, hle, h8⟩⟩ := n
  · refine (done_c ib (-1) w (cell_at h1.1 h1.2.2.2.1)).mono ?_
    rintro e w' ⟨rfl, rfl⟩
    exact ⟨by rw [h2]; rfl, rfl⟩
  · refine (done_c ib (d : Int) w (cell_at h2.1 h2.2.2.2.1)).mono ?_
    rintro e w' ⟨rfl, rfl⟩
    refine ⟨?_, rfl⟩
    have e1 : rest.isEmpty = false := by
      rw [h8, List.drop_eq_getElem_cons h7]
      rfl
    have e2 : ((d : Int) == -1) = false := by simp only [beq_eq_false_iff_ne, ne_eq]; omega
    rw [e1, e2]

/-- the pair at which an iterator stands -/
theorem St.head {h : Int → Nat} {S : Nat → Prop} {trie : Bool} {w : World} {ib mb : Nat} {y : Int × Int} {rest : List (Int × Int)} (n : St h S w trie ib mb (y :: rest)) :
    ∃ (arr : Array Value) (d r : Nat) (v : Value) (es after : List (Int × Int)) (x : Nat), r + d = 7 ∧ ItB w ib mb arr (d : Int) ∧ arr[1 + d * 2]? = some v ∧ arr[1 + d * 2 + 1]? = some (.int .i64 (x : Int)) ∧ Low h S w trie arr d r v es after ∧ LeafK h S w v es ∧ x < es.length ∧ es.length < 100000000 ∧ rest = es.drop (x + 1) ++ after ∧ es[x]? = some y := by
  obtain ⟨arr, ⟨h1, h2⟩ | ⟨d, r, v, es, after, x, h1, h2, h3, h4, h5, h6, h7, hle, h8⟩⟩ := n
  · cases h2
  · rw [List.drop_eq_getElem_cons h7] at h8
    simp only [List.cons_append, List.cons.injEq] at h8
    exact ⟨arr, d, r, v, es, after, x, h1, h2, h3, h4, h5, h6, h7, hle, h8.2, by rw [h8.1]; exact List.getElem?_eq_getElem h7⟩

set_option maxRecDepth 100000 in
set_option maxHeartbeats 400000 in
theorem next_e {h : Int → Nat} {S : Nat → Prop} {trie : Bool} {w : World} {ib mb : Nat} (n : St h S w trie ib mb []) :
    Calls Try.prog 62 #[.pointer (some ⟨ib, 0, none⟩)] w fun e w' => e = .returned (.tuple #[.int .i64 0, .int .i64 0, .bool false]) ∧ w = w' := by
  have HD := Lib.hid (done_w n)
  clear n
  go_enter Try.func62, Try.ntmps62
  go_wp2_with fail
  refine HD.out.mono ?_
  rintro e w' ⟨rfl, rfl⟩
  go_wp2_with fail
  refine bodyPost_ret (results_tmp3 rfl _ _ _) rfl ?_
  exact ⟨rfl, rfl⟩

theorem region_still {P : Program} {id : Nat} {Q : Exit → Act → World → Prop} {a : Act} {w : World} {l : List Oper} (hm : P.follows .mixedOrders = true) (hB : Region.lexB .any l.toArray = true)
    (h : wpStill P l.toArray w.drew (fun a' => Q .normal a' w.drew) l a) : (Code.region id l.toArray true).wp P Q a w :=
  wp_region_still_lit hm hB h
theorem stay_heap {w W : World} (h : W.heap = w.heap) : Stay w W := fun b c t hb _ => by rw [h]; exact hb
theorem next_at {h : Int → Nat} {S : Nat → Prop} {trie : Bool} {w : World} {ib mb : Nat} {y : Int × Int} {rest : List (Int × Int)} (hlen : rest.length < 90000000) (n : St h S w trie ib mb (y :: rest)) (W : World) (hb : But (· = ib) w W) (hW : W.heap = w.heap) :
    Calls Try.prog 103 #[.pointer (some ⟨ib, 0, none⟩)] W fun e w' => e = .returned (.tuple #[]) ∧ But (· = ib) w w' ∧ St h S w' trie ib mb rest := by
  obtain ⟨arr, d, r, v, es, after, x, h1, h2, h3, h4, h5, h6, h7, hle, h8, h9⟩ := n.head
  refine (next_w h S trie W ib mb arr d r v es after x hle (by rw [← h8]; omega) h1 ⟨by rw [hW]; exact h2.1, h2.2⟩ h3 h4 (h5.stay (stay_heap hW)) (h6.stay (stay_heap hW)) h7).mono ?_
  rintro e w' ⟨rfl, hb2, hs⟩
  exact ⟨rfl, hb.trans hb2, by rw [h8]; exact hs⟩

set_option maxRecDepth 100000 in
set_option maxHeartbeats 3200000 in
theorem next_s {h : Int → Nat} {S : Nat → Prop} {trie : Bool} {w : World} {ib mb : Nat} {y : Int × Int} {rest : List (Int × Int)} (hlen : rest.length < 90000000) (n : St h S w trie ib mb (y :: rest)) :
    Calls Try.prog 62 #[.pointer (some ⟨ib, 0, none⟩)] w fun e w' => e = .returned (.tuple #[.int .i64 y.1, .int .i64 y.2, .bool true]) ∧ But (· = ib) w w' ∧ St h S w' trie ib mb rest := by
  have HD := Lib.hid (done_w n)
  have HN := Lib.hid (next_at hlen n)
  obtain ⟨arr, d, r, v, es, after, x, h1, h2, h3, h4, h5, h6, h7, hle, h8, h9⟩ := n.head
  have hd32 : d < 32 := by omega
  have cd := cell_at h2.1 h2.2.2.2.1
  have cv := cell_at h2.1 h3
  have cx := cell_at h2.1 h4
  have hd0 : (0 : Int) ≤ (d : Int) := by omega
  have hd1 : (d : Int) < 32 := by omega
  clear n h1 h2 h3 h4 h5 h8
  have H9 := Lib.hid h9
  clear h9
  go_enter Try.func62, Try.ntmps62
  go_wp2_with fail
  refine HD.out.mono ?_
  rintro e w' ⟨rfl, rfl⟩
  go_upto_region 3 with (fail)
  refine region_tail 8 (by kernel_rfl) (by kernel_rfl) ?_
  simp only [List.take_succ_cons, List.take_zero, List.drop_succ_cons, List.drop_zero]
  repeat still_step
  refine wpStill_nil ?_
  rcases h6 with h6 | h6
  · rcases h6 with ⟨b, k, u, rfl, g2, g3, g4⟩ | ⟨b, xx, sl, rfl, g2, g3, g4, g5, g6⟩
    · have t1 := as184_177 b
      have t2 := as184_184 b
      have hc1 := cell_at (j := 1) g2 rfl
      have hc2 := cell_at (j := 2) g2 rfl
      have hy : y = (k, u) := by
        have := H9.out
        rw [g3] at this
        rcases x with _ | x
        · simpa using this.symm
        · simp at this
      subst hy
      clear g2 g3 g4
      go_upto_region 11 with (fail)
      refine region_still (by kernel_rfl) (by kernel_rfl) (Veil.out ?_)
      repeat (refine v_step (fun K hK => ?_); go_simp; refine hK _ ?_; clear hK K)
      refine v_nil ⟨?_⟩
      go_wp2_with fail
      refine (HN.out _ (But.refl (· = ib) w).drew.drew rfl).mono ?_
      rintro e w' ⟨rfl, hp⟩
      have HP := Lib.hid hp
      clear hp
      go_wp2_with fail
      refine bodyPost_ret (results_tmp3 rfl _ _ _) rfl ?_
      exact ⟨rfl, HP.out⟩
    · have t1 := as187_177 b
      have t2 := as187_184 b
      have t3 := as187_187 b
      obtain ⟨nb, cc, rfl, hr⟩ := g3.reads
      have hc1 := cell_at (j := 1) g2 rfl
      obtain ⟨hk1, hk2⟩ := hr x y H9.out
      clear g2 g3 g4 g5 g6 hr
      go_upto_region 14 with (fail)
      refine region_still (by kernel_rfl) (by kernel_rfl) (Veil.out ?_)
      repeat (refine v_step (fun K hK => ?_); go_simp; refine hK _ ?_; clear hK K)
      refine v_nil ⟨?_⟩
      go_upto_region 15 with (fail)
      refine region_still (by kernel_rfl) (by kernel_rfl) (Veil.out ?_)
      repeat (refine v_step (fun K hK => ?_); go_simp; refine hK _ ?_; clear hK K)
      refine v_nil ⟨?_⟩
      go_wp2_with fail
      refine (HN.out _ (But.refl (· = ib) w).drew.drew.drew rfl).mono ?_
      rintro e w' ⟨rfl, hp⟩
      have HP := Lib.hid hp
      clear hp
      go_wp2_with fail
      refine bodyPost_ret (results_tmp3 rfl _ _ _) rfl ?_
      exact ⟨rfl, HP.out⟩
  · obtain ⟨b, sl, rfl, g2, g3, g4, g5, g6⟩ := h6
    have t1 := as177_177 b
    obtain ⟨nb, cc, rfl, hr⟩ := g3.reads
    have hc1 := cell_at (j := 0) g2 rfl
    obtain ⟨hk1, hk2⟩ := hr x y H9.out
    clear g2 g3 g4 g5 g6 hr
    go_upto_region 7 with (fail)
    refine region_still (by kernel_rfl) (by kernel_rfl) (Veil.out ?_)
    repeat (refine v_step (fun K hK => ?_); go_simp; refine hK _ ?_; clear hK K)
    refine v_nil ⟨?_⟩
    go_upto_region 8 with (fail)
    refine region_still (by kernel_rfl) (by kernel_rfl) (Veil.out ?_)
    repeat (refine v_step (fun K hK => ?_); go_simp; refine hK _ ?_; clear hK K)
    refine v_nil ⟨?_⟩
    go_wp2_with fail
    refine (HN.out _ (But.refl (· = ib) w).drew.drew.drew rfl).mono ?_
    rintro e w' ⟨rfl, hp⟩
    have HP := Lib.hid hp
    clear hp
    go_wp2_with fail
    refine bodyPost_ret (results_tmp3 rfl _ _ _) rfl ?_
    exact ⟨rfl, HP.out⟩

set_option maxRecDepth 100000 in
set_option maxHeartbeats 400000 in
theorem ifirst_e (ib mb : Nat) (w : World) (c0 : w.cell? ⟨ib, 0, none⟩ = some (.pointer (some ⟨mb, 0, none⟩))) (c1 : w.cell? ⟨mb, 1, none⟩ = some .nilIface) (u : Value) (c2 : w.cell? ⟨ib, 65, none⟩ = some u) (f2 : w.frozen? ⟨ib, 65, none⟩ = false) :
    Calls Try.prog 61 #[.pointer (some ⟨ib, 0, none⟩)] w fun e w' => e = .returned (.tuple #[]) ∧ w' = w.setCell ⟨ib, 65, none⟩ (.int .i64 (-1)) := by
  go_enter Try.func61, Try.ntmps61
  go_wp2
  refine bodyPost_ret (results_none rfl _ _ _) rfl ?_
  exact ⟨rfl, rfl⟩

set_option maxRecDepth 100000 in
set_option maxHeartbeats 800000 in
theorem ifirst_r (h : Int → Nat) (S : Nat → Prop) (trie : Bool) (ib mb : Nat) (arr : Array Value) (dd : Int) (w : World) (es : List (Int × Int)) (hlen : es.length < 90000000) (hes : es ≠ []) (hi : ItB w ib mb arr dd) (t q : Nat) (c1 : w.cell? ⟨mb, 1, none⟩ = some (.iface t (.pointer (some ⟨q, 0, none⟩)))) (hr : Root h S w trie (.iface t (.pointer (some ⟨q, 0, none⟩))) es) :
    Calls Try.prog 61 #[.pointer (some ⟨ib, 0, none⟩)] w fun e w' => e = .returned (.tuple #[]) ∧ But (· = ib) w w' ∧ St h S w' trie ib mb es := by
  have c0 := cell_at hi.1 hi.2.2.1
  obtain ⟨x0, hx0⟩ := hi.2.2.2.2 0 (by omega)
  obtain ⟨u0, hu0⟩ : ∃ u, arr[1]? = some u := ⟨_, Array.getElem?_eq_getElem (by have := hi.2.1; omega)⟩
  have cn := cell_at hi.1 hu0
  have cx := cell_at hi.1 hx0
  have fn : w.frozen? ⟨ib, 1, none⟩ = false := frozen_of_row _ _ _ _ _ hi.1
  have fx : w.frozen? ⟨ib, 2, none⟩ = false := frozen_of_row _ _ _ _ _ hi.1
  have HI := Lib.hid hi
  have HR := Lib.hid hr
  clear hi hr hu0 hx0
  go_enter Try.func61, Try.ntmps61
  go_upto_region 2 with (fail)
  refine region_tail 12 (by kernel_rfl) (by kernel_rfl) ?_
  simp only [List.take_succ_cons, List.take_zero, List.drop_succ_cons, List.drop_zero]
  repeat still_step
  refine wpStill_nil ?_
  go_upto_region 3 with (fail)
  have HIa : Hid (ItB ((w.setCell ⟨ib, 1, none⟩ (.iface t (.pointer (some ⟨q, 0, none⟩)))).setCell ⟨ib, 2, none⟩ (.int .i64 0)).drew ib mb ((arr.setIfInBounds 1 (.iface t (.pointer (some ⟨q, 0, none⟩)))).setIfInBounds 2 (.int .i64 0)) dd) :=
    (HI.out.setNode (j := 0) (by omega) (.iface t (.pointer (some ⟨q, 0, none⟩)))).setIdx (j := 0) (by omega) 0
  have HBa : Hid (But (· = ib) w ((w.setCell ⟨ib, 1, none⟩ (.iface t (.pointer (some ⟨q, 0, none⟩)))).setCell ⟨ib, 2, none⟩ (.int .i64 0)).drew) := (((But.refl (· = ib) w).setCell (.inl rfl) _).setCell (.inl rfl) _).drew
  clear c0 c1 cn cx fn fx
  generalize ((w.setCell ⟨ib, 1, none⟩ (.iface t (.pointer (some ⟨q, 0, none⟩)))).setCell ⟨ib, 2, none⟩ (.int .i64 0)).drew = X at HIa HBa ⊢
  have cd := cell_at HIa.out.1 HIa.out.2.2.2.1
  have fd : X.frozen? ⟨ib, 65, none⟩ = false := frozen_of_row _ _ _ _ _ HIa.out.1
  go_wp2_with fail
  have HIb : Hid (ItB (X.setCell ⟨ib, 65, none⟩ (.int .i64 0)) ib mb (((arr.setIfInBounds 1 (.iface t (.pointer (some ⟨q, 0, none⟩)))).setIfInBounds 2 (.int .i64 0)).setIfInBounds 65 (.int .i64 0)) ((0 : Nat) : Int)) := HIa.out.setDep 0
  have HBb : Hid (But (· = ib) w (X.setCell ⟨ib, 65, none⟩ (.int .i64 0))) := HBa.out.setCell (.inl rfl) _
  have hsz := HI.out.2.1
  refine (first_w h S trie _ ib mb _ 0 7 (.iface t (.pointer (some ⟨q, 0, none⟩))) es [] (by rw [List.append_nil]; omega) (by omega) HIb.out ?_ ⟨rfl, hes, HR.out.stay (HBb.out.stay172 HI.out.1)⟩).mono ?_
  · show (((arr.setIfInBounds 1 (.iface t (.pointer (some ⟨q, 0, none⟩)))).setIfInBounds 2 (.int .i64 0)).setIfInBounds 65 (.int .i64 0))[1]? = _
    rw [Array.getElem?_setIfInBounds_ne (by omega), Array.getElem?_setIfInBounds_ne (by omega), Array.getElem?_setIfInBounds_self_of_lt (by omega)]
  rintro e w' ⟨rfl, hb', hst⟩
  rw [List.append_nil] at hst
  have HST := Lib.hid (And.intro (HBb.out.trans hb') hst)
  clear hb' hst
  go_wp2_with fail
  refine bodyPost_end (results_none rfl _ _ _) rfl ?_
  exact ⟨rfl, HST.out⟩

theorem z172 : ∀ i : Nat, i < 32 → ∃ x, Try.zeroCells172[1 + i * 2 + 1]? = some (.int .i64 x) := fun i hi => ⟨0, match i, hi with
  | 0, _ => rfl
  | 1, _ => rfl
  | 2, _ => rfl
  | 3, _ => rfl
  | 4, _ => rfl
  | 5, _ => rfl
  | 6, _ => rfl
  | 7, _ => rfl
  | 8, _ => rfl
  | 9, _ => rfl
  | 10, _ => rfl
  | 11, _ => rfl
  | 12, _ => rfl
  | 13, _ => rfl
  | 14, _ => rfl
  | 15, _ => rfl
  | 16, _ => rfl
  | 17, _ => rfl
  | 18, _ => rfl
  | 19, _ => rfl
  | 20, _ => rfl
  | 21, _ => rfl
  | 22, _ => rfl
  | 23, _ => rfl
  | 24, _ => rfl
  | 25, _ => rfl
  | 26, _ => rfl
  | 27, _ => rfl
  | 28, _ => rfl
  | 29, _ => rfl
  | 30, _ => rfl
  | 31, _ => rfl
  | i + 32, h => absurd h (by omega)⟩
theorem z172_size : Try.zeroCells172.size = 66 := rfl
theorem z172_dep : Try.zeroCells172[65]? = some (.int .i64 0) := rfl
theorem new_itb (w : World) (mb : Nat) : ItB (w.alloc (.cells (Try.zeroCells172.setIfInBounds 0 (.pointer (some ⟨mb, 0, none⟩))) 172)) w.heap.size mb (Try.zeroCells172.setIfInBounds 0 (.pointer (some ⟨mb, 0, none⟩))) 0 := by
  refine ⟨heap_alloc_last w _, by rw [Array.size_setIfInBounds]; exact z172_size, by rw [Array.getElem?_setIfInBounds_self_of_lt (by rw [z172_size]; omega)], by rw [Array.getElem?_setIfInBounds_ne (by omega)]; exact z172_dep, fun i hi => ?_⟩
  obtain ⟨x, hx⟩ := z172 i hi
  exact ⟨x, by rw [Array.getElem?_setIfInBounds_ne (by omega)]; exact hx⟩

/-- First, whatever the iterator's state -/
theorem ifirst_any {h : Int → Nat} {mo mu sh : Int} {S : Nat → Prop} {w : World} {ib mb : Nat} {arr : Array Value} {dd : Int} {m : MS Int Int} (hlen : m.es.length < 90000000) (hi : ItB w ib mb arr dd) (n : MapAt h mo mu sh S w mb m) :
    Calls Try.prog 61 #[.pointer (some ⟨ib, 0, none⟩)] w fun e w' => e = .returned (.tuple #[]) ∧ But (· = ib) w w' ∧ St h S w' m.trie ib mb m.es := by
  obtain ⟨root, h1, h2, h3, h4⟩ := n
  by_cases h0 : m.es = []
  · rw [if_pos h0] at h4
    subst h4
    refine (ifirst_e ib mb w (cell_at hi.1 hi.2.2.1) (cell_at h1 rfl) _ (cell_at hi.1 hi.2.2.2.1) (frozen_of_row _ _ _ _ _ hi.1)).mono ?_
    rintro e w' ⟨rfl, rfl⟩
    exact ⟨rfl, (But.refl (· = ib) w).setCell (.inl rfl) _, _, .inl ⟨hi.setDep (-1), h0⟩⟩
  · rw [if_neg h0] at h4
    obtain ⟨t, q, rfl⟩ := h4.ptr
    exact ifirst_r h S m.trie ib mb arr dd w m.es hlen h0 hi t q (cell_at h1 rfl) h4

set_option maxRecDepth 100000 in
set_option maxHeartbeats 800000 in
theorem iter_w {h : Int → Nat} {mo mu sh : Int} {S : Nat → Prop} {w : World} {mb : Nat} {m : MS Int Int} (hlen : m.es.length < 90000000) (n : MapAt h mo mu sh S w mb m) :
    Calls Try.prog 57 #[.pointer (some ⟨mb, 0, none⟩)] w fun e w' => e = .returned (.pointer (some ⟨w.heap.size, 0, none⟩)) ∧ Below w.heap.size w w' ∧ St h S w' m.trie w.heap.size mb m.es := by
  have HF := Lib.hid (ifirst_any hlen (new_itb w mb) (n.keeps (Keeps.of_stay (Stay.of_below ((Below.refl w.heap.size w).alloc (Nat.le_refl _) _)))))
  clear n
  go_enter Try.func57, Try.ntmps57
  go_wp2_with fail
  refine HF.out.mono ?_
  rintro e w' ⟨rfl, hb, hs⟩
  have HP := Lib.hid (And.intro hb hs)
  clear hb hs
  go_wp2_with fail
  go_ret
  exact ⟨rfl, But.below ((But.of_below ((Below.refl w.heap.size w).alloc (Nat.le_refl _) _)).trans HP.out.1) (Nat.le_refl _) (fun k hk => by omega), HP.out.2⟩
end Go.Proofs.Ytpkndcmgialgcaa
