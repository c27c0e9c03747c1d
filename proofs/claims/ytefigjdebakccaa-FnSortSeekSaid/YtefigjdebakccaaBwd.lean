/- The reference: the pairs from the last one to the first one. -/
import Derived.Test.YtefigjdebakccaaWout
namespace Go.Proofs.Ytefigjdebakccaa
open Go.RowKit

/-- two rows of one's own -/
def Two2 (B : Nat) (kv : Value) (n : Nat) (ks : List Int) (vv : Value) (m : Nat) (vs : List Int) (W : World) : Prop := W.ownsRow B 3 1 kv n (ks.map (Value.int .i64)) ∧ W.ownsRow B 3 1 vv m (vs.map (Value.int .i64)) ∧ (kv.ownBlock = none ∨ kv.ownBlock ≠ vv.ownBlock)
/-- a number beside them -/
def Nw (kv vv : Value) (nb : Nat) (x : Int) (W : World) : Prop := W.heap[nb]? = some (.cells #[.int .i64 x] 3 (0, 0)) ∧ (∀ k, kv.ownBlock = some k → k ≠ nb) ∧ (∀ k, vv.ownBlock = some k → k ≠ nb)
section
variable {B n m nb : Nat} {kv vv v' : Value} {ks vs : List Int} {x y : Int} {W W' : World}
theorem Two2.alloc (h : Two2 B kv n ks vv m vs W) (o : Obj) : Two2 B kv n ks vv m vs (W.alloc o) := ⟨h.1.alloc o, h.2.1.alloc o, h.2.2⟩
theorem Two2.drew (h : Two2 B kv n ks vv m vs W) : Two2 B kv n ks vv m vs W.drew := h
theorem Nw.alloc (h : Nw kv vv nb x W) (o : Obj) : Nw kv vv nb x (W.alloc o) := ⟨at_alloc h.1, h.2⟩
theorem Two2.new (h : Two2 B kv n ks vv m vs W) (x : Int) : Nw kv vv W.heap.size x (W.alloc (.cells #[.int .i64 x] 3)) :=
  ⟨heap_alloc_last _ _, fun k hk => by have := (h.1.lt k hk).2; omega, fun k hk => by have := (h.2.1.lt k hk).2; omega⟩
theorem Nw.read (h : Nw kv vv nb x W) : ∀ (i : Nat) (y : Int), [x][i]? = some y → ∃ g q, some (⟨nb, 0, none⟩ : Addr) = some ⟨g, q, none⟩ ∧ W.cell? ⟨g, q + i, none⟩ = some (.int .i64 y) := fun _i _y hy =>
  ⟨nb, 0, rfl, one_read (cell_at (j := 0) h.1 rfl) hy⟩
theorem Two2.growK (h : Two2 B kv n ks vv m vs W) (ho : W'.ownsRow B 3 1 v' (n + 1) ((ks ++ [x]).map (Value.int .i64))) (hg : W.grownBy W' kv.ownBlock) (hat : v'.ownBlock = kv.ownBlock ∨ v'.ownBlock = some W.heap.size) : Two2 B v' (n + 1) (ks ++ [x]) vv m vs W' := by
  obtain ⟨h1, h2, h3⟩ := h
  refine ⟨ho, own_but h2 (but_grown hg) fun k hk e => ?_, ?_⟩
  · rcases h3 with h | h
    · rw [h] at e; cases e
    · exact h (e.trans hk.symm)
  · rcases hat with h | h
    · rw [h]; exact h3
    · refine .inr fun e => ?_
      rw [h] at e
      have := (h2.lt _ e.symm).2
      omega
theorem Two2.growV (h : Two2 B kv n ks vv m vs W) (ho : W'.ownsRow B 3 1 v' (m + 1) ((vs ++ [x]).map (Value.int .i64))) (hg : W.grownBy W' vv.ownBlock) (hat : v'.ownBlock = vv.ownBlock ∨ v'.ownBlock = some W.heap.size) : Two2 B kv n ks v' (m + 1) (vs ++ [x]) W' := by
  obtain ⟨h1, h2, h3⟩ := h
  refine ⟨own_but h1 (but_grown hg) fun k hk e => ?_, ho, ?_⟩
  · rcases h3 with h | h
    · rw [h] at hk; cases hk
    · exact h (hk.trans e.symm)
  · rcases hat with h | h
    · rw [h]; exact h3
    · refine .inr fun e => ?_
      rw [h] at e
      have := (h1.lt _ e).2
      omega
theorem Nw.growK (h : Nw kv vv nb x W) (hg : W.grownBy W' kv.ownBlock) (hat : v'.ownBlock = kv.ownBlock ∨ v'.ownBlock = some W.heap.size) : Nw v' vv nb x W' := by
  obtain ⟨h1, h2, h3⟩ := h
  refine ⟨(but_grown hg).at h1 fun e => h2 nb e rfl, fun k hk => ?_, h3⟩
  rcases hat with h | h
  · rw [h] at hk; exact h2 k hk
  · rw [h] at hk
    have := lt_of_block h1
    have := Option.some.inj hk
    omega
theorem Nw.growV (h : Nw kv vv nb x W) (hg : W.grownBy W' vv.ownBlock) (hat : v'.ownBlock = vv.ownBlock ∨ v'.ownBlock = some W.heap.size) : Nw kv v' nb x W' := by
  obtain ⟨h1, h2, h3⟩ := h
  refine ⟨(but_grown hg).at h1 fun e => h3 nb e rfl, h2, fun k hk => ?_⟩
  rcases hat with h | h
  · rw [h] at hk; exact h3 k hk
  · rw [h] at hk
    have := lt_of_block h1
    have := Option.some.inj hk
    omega
end
/-- a box beside rows of one's own -/
def Rb (w : World) (b : Nat) (c : Array Value) (W : World) : Prop := Below w.heap.size w W ∧ W.heap[b]? = some (.cells c 46 (0, 0))
theorem Rb.drew {w W : World} {b : Nat} {c : Array Value} (h : Rb w b c W) : Rb w b c W.drew := ⟨h.1.drew, h.2⟩
theorem Rb.alloc {w W : World} {b : Nat} {c : Array Value} (h : Rb w b c W) (o : Obj) : Rb w b c (W.alloc o) := ⟨h.1.alloc h.1.size _, at_alloc h.2⟩
theorem Rb.grow {w W W' : World} {b n : Nat} {c : Array Value} {v : Value} {cs : List Value} (h : Rb w b c W) (ho : W.ownsRow w.heap.size 3 1 v n cs) (hg : W.grownBy W' v.ownBlock) : Rb w b c W' :=
  ⟨h.1.trans (below_grown (Below.refl w.heap.size W) ho (Nat.le_refl _) h.1.size hg), (but_grown hg).at h.2 fun e => own_off ho h.2 (by decide) b e rfl⟩

set_option maxRecDepth 100000 in
set_option maxHeartbeats 3200000 in
theorem backward_w (o : Nat) (es : List (Int × Int)) (hl : es.length < 100000) (pv : Value) (w : World) (hp : PVc w pv o es) :
    Calls Try.prog 48 #[pv] w fun e w' => ∃ kv vv, e = .returned (.tuple #[kv, vv]) ∧ IV w' kv (es.reverse.map (·.1)) ∧ IV w' vv (es.reverse.map (·.2)) ∧ Below w.heap.size w w' := by
  obtain ⟨ka, kc, va, vc, rfl, hr, hk, hv⟩ := hp
  obtain ⟨n, hn⟩ : ∃ n, n = es.length := ⟨_, rfl⟩
  have HR := Lib.hid hr
  rw [← hn] at hk hv hl ⊢
  have HN := Lib.hid hn
  clear hr hn hk hv
  obtain ⟨n1, hn1⟩ : ∃ n1 : Int, n1 = (n : Int) - 1 := ⟨_, rfl⟩
  have hw0 : IntKind.i64.wrap ((n : Int) - 1) = n1 := by rw [IntKind.wrap_i64]; omega
  have hw00 : (n : Int) - 1 = n1 := hn1.symm
  have HN1 := Lib.hid hn1
  clear hn1
  go_enter Try.func48, Try.ntmps48
  have HX : Hid (Rb w w.heap.size #[.int .u8 (o : Int), .slice ka n kc, .slice va n vc] (w.alloc (.cells #[.int .u8 (o : Int), .slice ka n kc, .slice va n vc] 46))) := ⟨(Below.refl _ _).alloc (Nat.le_refl _) _, heap_alloc_last w _⟩
  have x1 := cell_at (j := 1) HX.out.2 rfl
  go_wp2_with fail
  clear x1
  generalize w.alloc (.cells #[.int .u8 (o : Int), .slice ka n kc, .slice va n vc] 46) = X at HX ⊢
  obtain ⟨b1, hb1⟩ : ∃ b, b = w.heap.size := ⟨_, rfl⟩
  rw [← hb1] at HX ⊢
  obtain rfl : b1 = w.heap.size := hb1
  go_loopg [2, 3, 4] n (fun k kv vv v4 wr => ∃ (i : Nat) (z : Int), i + k = n ∧ v4 = .int .i64 z ∧ z + (i : Int) + 1 = (n : Int) ∧ Two2 w.heap.size kv i ((es.reverse.take i).map (·.1)) vv i ((es.reverse.take i).map (·.2)) wr ∧ Rb w w.heap.size #[.int .u8 (o : Int), .slice ka n kc, .slice va n vc] wr)
  case atStart => exact ⟨0, n1, by omega, rfl, by have := HN1.out; omega, ⟨World.ownsRow_nil _ _ _ _, World.ownsRow_nil _ _ _ _, .inl rfl⟩, HX.out⟩
  case round =>
    obtain ⟨i, z, hik, rfl, hz, ht, hb⟩ := hrel
    have HZ := Lib.hid hz
    have HT := Lib.hid ht
    have HB := Lib.hid hb
    obtain ⟨a2, cc2, rfl⟩ := own_len ht.1
    obtain ⟨a3, cc3, rfl⟩ := own_len ht.2.1
    clear hz ht hb
    by_cases hlt : 0 ≤ z
    · obtain ⟨m, rfl⟩ : ∃ m : Nat, z = (m : Int) := ⟨z.toNat, by omega⟩
      have hz := HZ.out
      have hmn : m < n := by omega
      have h1 : decide ((0 : Int) ≤ (m : Int)) = true := by simp
      have e3 : (0 : Int) ≤ (m : Int) := by omega
      have e4 : (m : Int) < (n : Int) := by omega
      obtain ⟨z2, hz2⟩ : ∃ z2 : Int, z2 = (m : Int) - 1 := ⟨_, rfl⟩
      have hw2 : IntKind.i64.wrap ((m : Int) - 1) = z2 := by rw [IntKind.wrap_i64]; omega
      have hw3 : (m : Int) - 1 = z2 := hz2.symm
      have HZ2 := Lib.hid hz2
      obtain ⟨⟨ek, ev⟩, he⟩ : ∃ e, es[m]? = some e := ⟨_, List.getElem?_eq_getElem (by rw [← HN.out]; exact hmn)⟩
      have hrev : es.reverse[i]? = some (ek, ev) := by
        rw [List.getElem?_reverse (by rw [← HN.out]; omega), ← HN.out, show n - 1 - i = m by omega]
        exact he
      have HRV := Lib.hid hrev
      obtain ⟨⟨gk1, hka, hck⟩, gk2, hva, hcv⟩ := HR.out m _ he
      subst hka hva
      have HCC : Hid (w.cell? ⟨gk1, m, none⟩ = some (.int .i64 ek) ∧ w.cell? ⟨gk2, m, none⟩ = some (.int .i64 ev)) := ⟨hck, hcv⟩
      have HIL : Hid (i ≤ 100000) := by show i ≤ 100000; omega
      obtain ⟨P, hP⟩ : ∃ P, P = (es.reverse.take i).map (·.1) := ⟨_, rfl⟩
      obtain ⟨V, hV⟩ : ∃ V, V = (es.reverse.take i).map (·.2) := ⟨_, rfl⟩
      rw [← hP, ← hV] at HT
      have HP := Lib.hid hP
      have HV := Lib.hid hV
      clear hz hz2 he hrev hck hcv hP hV hmn
      go_upto_region 4 with (fail)
      have HB0 : Hid (Rb w w.heap.size #[.int .u8 (o : Int), .slice (some ⟨gk1, 0, none⟩) n kc, .slice (some ⟨gk2, 0, none⟩) n vc] wr.drew) := HB.out.drew
      have HT0 : Hid (Two2 w.heap.size (.slice a2 i cc2) i P (.slice a3 i cc3) i V wr.drew) := HT.out
      refine region_tree (fun W => Rb w w.heap.size #[.int .u8 (o : Int), .slice (some ⟨gk1, 0, none⟩) n kc, .slice (some ⟨gk2, 0, none⟩) n vc] W) (.two [0, 1, 2, 3, 4, 5, 8, 9, 10, 11, 12, 13] 6 (.two [] 7 (.one [] 14 (.one [] 15 (.one [] 16 (.one [] 17 .stop)))) 14 (.one [] 7 (.one [] 15 (.one [] 16 (.one [] 17 .stop))))) 14 (.one [] 6 (.one [] 7 (.one [] 15 (.one [] 16 (.one [] 17 .stop)))))) (by kernel_rfl) (by intro dst v c a w h; cases dst <;> exact h) (by kernel_rfl) HB0.out ?_
      refine t_two ?_
      simp only [opsOf, List.getElem?_toArray, List.getElem?_cons_succ, List.getElem?_cons_zero]
      repeat (refine r_read ?_ (by kernel_rfl) ?_ (fun K hK => ?_); rotate_left 1; (intro W hR; have q1 := cell_at (j := 1) hR.2 rfl; have q2 := cell_at (j := 2) hR.2 rfl; have c1 := bcell hR.1 HCC.out.1; have c2 := bcell hR.1 HCC.out.2; clear hR; go_simp; try with_reducible rfl); go_simp; refine hK _ ?_; clear hK K)
      refine t_nil2 ?_ ?_
      · refine r_op rfl (fun K hK => ?_)
        go_simp
        have HB1 : Hid (Rb w w.heap.size #[.int .u8 (o : Int), .slice (some ⟨gk1, 0, none⟩) n kc, .slice (some ⟨gk2, 0, none⟩) n vc] (wr.alloc (.cells #[.int .i64 ek] 3)).drew) := HB0.out.alloc _
        have HT1 : Hid (Two2 w.heap.size (Value.slice a2 i cc2) i P (Value.slice a3 i cc3) i V (wr.alloc (.cells #[.int .i64 ek] 3)).drew) := HT0.out.alloc _
        have HN1 : Hid (Nw (Value.slice a2 i cc2) (Value.slice a3 i cc3) wr.heap.size ek (wr.alloc (.cells #[.int .i64 ek] 3)).drew) := HT0.out.new ek
        refine hK _ _ HB1.out ?_
        clear hK K
        generalize (wr.alloc (.cells #[.int .i64 ek] 3)).drew = w1 at HB1 HT1 HN1 ⊢
        obtain ⟨nb1, hnb1⟩ : ∃ b, b = wr.heap.size := ⟨_, rfl⟩
        rw [← hnb1] at HN1 ⊢
        clear hnb1
        refine t_two0 ?_ ?_
        · refine r_op rfl (fun K hK => ?_)
          refine ite_yes (by kernel_rfl) ?_
          refine app_any (.tmp 13) (.tmp 19) rfl w.heap.size (i) (Value.slice a2 i cc2) (P.map (Value.int .i64)) rfl HT1.out.1 (by have := HIL.out; omega) [ek] (by simp) (some ⟨nb1, 0, none⟩) 1 rfl (by intro h; cases h) HN1.out.read HB1.out.1.size ?_
          intro v2 w2 ho2 hg2 hat2
          have HB2 := Lib.hid (HB1.out.grow HT1.out.1 hg2)
          have HT2 := Lib.hid (HT1.out.growK (x := ek) (by rw [List.map_append]; exact ho2) hg2 hat2)
          clear ho2 hg2 hat2
          refine hK _ _ HB2.out ?_
          clear hK K
          refine t_one0 ?_
          refine r_op rfl (fun K hK => ?_)
          go_simp
          have HB3 : Hid (Rb w w.heap.size #[.int .u8 (o : Int), .slice (some ⟨gk1, 0, none⟩) n kc, .slice (some ⟨gk2, 0, none⟩) n vc] (w2.alloc (.cells #[.int .i64 ev] 3))) := HB2.out.alloc _
          have HT3 : Hid (Two2 w.heap.size v2 (i + 1) (P ++ [ek]) (Value.slice a3 i cc3) i V (w2.alloc (.cells #[.int .i64 ev] 3))) := HT2.out.alloc _
          have HN3 : Hid (Nw v2 (Value.slice a3 i cc3) w2.heap.size ev (w2.alloc (.cells #[.int .i64 ev] 3))) := HT2.out.new ev
          refine hK _ _ HB3.out ?_
          clear hK K
          generalize (w2.alloc (.cells #[.int .i64 ev] 3)) = w3 at HB3 HT3 HN3 ⊢
          obtain ⟨nb3, hnb3⟩ : ∃ b, b = w2.heap.size := ⟨_, rfl⟩
          rw [← hnb3] at HN3 ⊢
          clear hnb3
          refine t_one0 ?_
          refine r_op rfl (fun K hK => ?_)
          refine ite_yes (by kernel_rfl) ?_
          refine app_any (.tmp 21) (.tmp 27) rfl w.heap.size (i) (Value.slice a3 i cc3) (V.map (Value.int .i64)) rfl HT3.out.2.1 (by have := HIL.out; omega) [ev] (by simp) (some ⟨nb3, 0, none⟩) 1 rfl (by intro h; cases h) HN3.out.read HB3.out.1.size ?_
          intro v4 w4 ho4 hg4 hat4
          have HB4 := Lib.hid (HB3.out.grow HT3.out.2.1 hg4)
          have HT4 := Lib.hid (HT3.out.growV (x := ev) (by rw [List.map_append]; exact ho4) hg4 hat4)
          clear ho4 hg4 hat4
          refine hK _ _ HB4.out ?_
          clear hK K
          refine t_one0 ?_
          refine r_op rfl (fun K hK => ?_)
          go_simp
          refine hK _ _ HB4.out ?_
          clear hK K
          refine t_one0 ?_
          refine r_op rfl (fun K hK => ?_)
          go_simp
          refine hK _ _ HB4.out ?_
          clear hK K
          refine t_end ?_
          go_wp2_with fail
          go_roundg (gk - 1)
          case measure => have := HZ.out; omega
          case rel =>
            have e1 : (es.reverse.take (i + 1)).map (·.1) = P ++ [ek] := by rw [List.take_add_one, HRV.out, List.map_append, HP.out]; rfl
            have e2 : (es.reverse.take (i + 1)).map (·.2) = V ++ [ev] := by rw [List.take_add_one, HRV.out, List.map_append, HV.out]; rfl
            refine ⟨i + 1, z2, by have := HZ.out; omega, rfl, by have := HZ.out; have := HZ2.out; omega, ?_, HB4.out⟩
            rw [e1, e2]
            exact HT4.out
        · refine r_op rfl (fun K hK => ?_)
          go_simp
          have HB2 : Hid (Rb w w.heap.size #[.int .u8 (o : Int), .slice (some ⟨gk1, 0, none⟩) n kc, .slice (some ⟨gk2, 0, none⟩) n vc] (w1.alloc (.cells #[.int .i64 ev] 3))) := HB1.out.alloc _
          have HT2 : Hid (Two2 w.heap.size (Value.slice a2 i cc2) i P (Value.slice a3 i cc3) i V (w1.alloc (.cells #[.int .i64 ev] 3))) := HT1.out.alloc _
          have HN2 : Hid (Nw (Value.slice a2 i cc2) (Value.slice a3 i cc3) w1.heap.size ev (w1.alloc (.cells #[.int .i64 ev] 3))) := HT1.out.new ev
          have HN26 : Hid (Nw (Value.slice a2 i cc2) (Value.slice a3 i cc3) nb1 ek (w1.alloc (.cells #[.int .i64 ev] 3))) := HN1.out.alloc _
          refine hK _ _ HB2.out ?_
          clear hK K
          generalize (w1.alloc (.cells #[.int .i64 ev] 3)) = w2 at HB2 HT2 HN2 HN26 ⊢
          obtain ⟨nb2, hnb2⟩ : ∃ b, b = w1.heap.size := ⟨_, rfl⟩
          rw [← hnb2] at HN2 ⊢
          clear hnb2
          refine t_one0 ?_
          refine r_op rfl (fun K hK => ?_)
          refine ite_yes (by kernel_rfl) ?_
          refine app_any (.tmp 13) (.tmp 19) rfl w.heap.size (i) (Value.slice a2 i cc2) (P.map (Value.int .i64)) rfl HT2.out.1 (by have := HIL.out; omega) [ek] (by simp) (some ⟨nb1, 0, none⟩) 1 rfl (by intro h; cases h) HN26.out.read HB2.out.1.size ?_
          intro v3 w3 ho3 hg3 hat3
          have HB3 := Lib.hid (HB2.out.grow HT2.out.1 hg3)
          have HT3 := Lib.hid (HT2.out.growK (x := ek) (by rw [List.map_append]; exact ho3) hg3 hat3)
          have HN314 := Lib.hid (HN2.out.growK hg3 hat3)
          clear ho3 hg3 hat3
          refine hK _ _ HB3.out ?_
          clear hK K
          refine t_one0 ?_
          refine r_op rfl (fun K hK => ?_)
          refine ite_yes (by kernel_rfl) ?_
          refine app_any (.tmp 21) (.tmp 27) rfl w.heap.size (i) (Value.slice a3 i cc3) (V.map (Value.int .i64)) rfl HT3.out.2.1 (by have := HIL.out; omega) [ev] (by simp) (some ⟨nb2, 0, none⟩) 1 rfl (by intro h; cases h) HN314.out.read HB3.out.1.size ?_
          intro v4 w4 ho4 hg4 hat4
          have HB4 := Lib.hid (HB3.out.grow HT3.out.2.1 hg4)
          have HT4 := Lib.hid (HT3.out.growV (x := ev) (by rw [List.map_append]; exact ho4) hg4 hat4)
          clear ho4 hg4 hat4
          refine hK _ _ HB4.out ?_
          clear hK K
          refine t_one0 ?_
          refine r_op rfl (fun K hK => ?_)
          go_simp
          refine hK _ _ HB4.out ?_
          clear hK K
          refine t_one0 ?_
          refine r_op rfl (fun K hK => ?_)
          go_simp
          refine hK _ _ HB4.out ?_
          clear hK K
          refine t_end ?_
          go_wp2_with fail
          go_roundg (gk - 1)
          case measure => have := HZ.out; omega
          case rel =>
            have e1 : (es.reverse.take (i + 1)).map (·.1) = P ++ [ek] := by rw [List.take_add_one, HRV.out, List.map_append, HP.out]; rfl
            have e2 : (es.reverse.take (i + 1)).map (·.2) = V ++ [ev] := by rw [List.take_add_one, HRV.out, List.map_append, HV.out]; rfl
            refine ⟨i + 1, z2, by have := HZ.out; omega, rfl, by have := HZ.out; have := HZ2.out; omega, ?_, HB4.out⟩
            rw [e1, e2]
            exact HT4.out
      · refine r_op rfl (fun K hK => ?_)
        go_simp
        have HB1 : Hid (Rb w w.heap.size #[.int .u8 (o : Int), .slice (some ⟨gk1, 0, none⟩) n kc, .slice (some ⟨gk2, 0, none⟩) n vc] (wr.alloc (.cells #[.int .i64 ev] 3)).drew) := HB0.out.alloc _
        have HT1 : Hid (Two2 w.heap.size (Value.slice a2 i cc2) i P (Value.slice a3 i cc3) i V (wr.alloc (.cells #[.int .i64 ev] 3)).drew) := HT0.out.alloc _
        have HN1 : Hid (Nw (Value.slice a2 i cc2) (Value.slice a3 i cc3) wr.heap.size ev (wr.alloc (.cells #[.int .i64 ev] 3)).drew) := HT0.out.new ev
        refine hK _ _ HB1.out ?_
        clear hK K
        generalize (wr.alloc (.cells #[.int .i64 ev] 3)).drew = w1 at HB1 HT1 HN1 ⊢
        obtain ⟨nb1, hnb1⟩ : ∃ b, b = wr.heap.size := ⟨_, rfl⟩
        rw [← hnb1] at HN1 ⊢
        clear hnb1
        refine t_one0 ?_
        refine r_op rfl (fun K hK => ?_)
        go_simp
        have HB2 : Hid (Rb w w.heap.size #[.int .u8 (o : Int), .slice (some ⟨gk1, 0, none⟩) n kc, .slice (some ⟨gk2, 0, none⟩) n vc] (w1.alloc (.cells #[.int .i64 ek] 3))) := HB1.out.alloc _
        have HT2 : Hid (Two2 w.heap.size (Value.slice a2 i cc2) i P (Value.slice a3 i cc3) i V (w1.alloc (.cells #[.int .i64 ek] 3))) := HT1.out.alloc _
        have HN2 : Hid (Nw (Value.slice a2 i cc2) (Value.slice a3 i cc3) w1.heap.size ek (w1.alloc (.cells #[.int .i64 ek] 3))) := HT1.out.new ek
        have HN214 : Hid (Nw (Value.slice a2 i cc2) (Value.slice a3 i cc3) nb1 ev (w1.alloc (.cells #[.int .i64 ek] 3))) := HN1.out.alloc _
        refine hK _ _ HB2.out ?_
        clear hK K
        generalize (w1.alloc (.cells #[.int .i64 ek] 3)) = w2 at HB2 HT2 HN2 HN214 ⊢
        obtain ⟨nb2, hnb2⟩ : ∃ b, b = w1.heap.size := ⟨_, rfl⟩
        rw [← hnb2] at HN2 ⊢
        clear hnb2
        refine t_one0 ?_
        refine r_op rfl (fun K hK => ?_)
        refine ite_yes (by kernel_rfl) ?_
        refine app_any (.tmp 13) (.tmp 19) rfl w.heap.size (i) (Value.slice a2 i cc2) (P.map (Value.int .i64)) rfl HT2.out.1 (by have := HIL.out; omega) [ek] (by simp) (some ⟨nb2, 0, none⟩) 1 rfl (by intro h; cases h) HN2.out.read HB2.out.1.size ?_
        intro v3 w3 ho3 hg3 hat3
        have HB3 := Lib.hid (HB2.out.grow HT2.out.1 hg3)
        have HT3 := Lib.hid (HT2.out.growK (x := ek) (by rw [List.map_append]; exact ho3) hg3 hat3)
        have HN314 := Lib.hid (HN214.out.growK hg3 hat3)
        clear ho3 hg3 hat3
        refine hK _ _ HB3.out ?_
        clear hK K
        refine t_one0 ?_
        refine r_op rfl (fun K hK => ?_)
        refine ite_yes (by kernel_rfl) ?_
        refine app_any (.tmp 21) (.tmp 27) rfl w.heap.size (i) (Value.slice a3 i cc3) (V.map (Value.int .i64)) rfl HT3.out.2.1 (by have := HIL.out; omega) [ev] (by simp) (some ⟨nb1, 0, none⟩) 1 rfl (by intro h; cases h) HN314.out.read HB3.out.1.size ?_
        intro v4 w4 ho4 hg4 hat4
        have HB4 := Lib.hid (HB3.out.grow HT3.out.2.1 hg4)
        have HT4 := Lib.hid (HT3.out.growV (x := ev) (by rw [List.map_append]; exact ho4) hg4 hat4)
        clear ho4 hg4 hat4
        refine hK _ _ HB4.out ?_
        clear hK K
        refine t_one0 ?_
        refine r_op rfl (fun K hK => ?_)
        go_simp
        refine hK _ _ HB4.out ?_
        clear hK K
        refine t_one0 ?_
        refine r_op rfl (fun K hK => ?_)
        go_simp
        refine hK _ _ HB4.out ?_
        clear hK K
        refine t_end ?_
        go_wp2_with fail
        go_roundg (gk - 1)
        case measure => have := HZ.out; omega
        case rel =>
          have e1 : (es.reverse.take (i + 1)).map (·.1) = P ++ [ek] := by rw [List.take_add_one, HRV.out, List.map_append, HP.out]; rfl
          have e2 : (es.reverse.take (i + 1)).map (·.2) = V ++ [ev] := by rw [List.take_add_one, HRV.out, List.map_append, HV.out]; rfl
          refine ⟨i + 1, z2, by have := HZ.out; omega, rfl, by have := HZ.out; have := HZ2.out; omega, ?_, HB4.out⟩
          rw [e1, e2]
          exact HT4.out
    · have h1 : decide ((0 : Int) ≤ z) = false := by simp; omega
      have hi : i = n := by have := HZ.out; omega
      have e1 : es.reverse.take i = es.reverse := List.take_of_length_le (by rw [List.length_reverse, hi, HN.out]; exact Nat.le_refl _)
      rw [e1] at HT
      have HK1 : Hid (IV wr (.slice a2 i cc2) (es.reverse.map (·.1))) := IV.of_own (n := i) (by rw [List.length_map, List.length_reverse, hi, HN.out]) rfl HT.out.1
      have HK2 : Hid (IV wr (.slice a3 i cc3) (es.reverse.map (·.2))) := IV.of_own (n := i) (by rw [List.length_map, List.length_reverse, hi, HN.out]) rfl HT.out.2.1
      clear hi e1 HT
      go_wp2_with fail
      go_ret2
      refine ⟨_, _, rfl, ?_, ?_, HB.out.1⟩
      · first | exact HK1.out | (rw [← List.map_reverse]; exact HK1.out)
      · first | exact HK2.out | (rw [← List.map_reverse]; exact HK2.out)
end Go.Proofs.Ytefigjdebakccaa
