/- slices.Grow of nothing, slices.Concat of two slices. Conditions of this file: none. -/
import Derived.Test.YtnahipfdnadccaaUndP
import Derived.Lib.AppendZeros
namespace Go.Proofs.Ytnahipfdnadccaa
open Go.RowKit

theorem wpList_append_sln {ops : Array Oper} {w : World} {rest : List Oper} {o : Oper} {a : Act} {Q : Exit → Act → World → Prop} (hgd : o.guard = none) (s x : Operand) (ho : o.op = .call { callee := .builtin .append, args := #[s, x], argTypes := #[32, 32] })
    (B : Nat) (v : Value) (n : Nat) (xs : List Int) (hs : a.eval s = v) (hown : w.ownsRow B 2 1 v n (xs.map (Value.int .i64))) (u : Value) (ys : List Int) (hx : a.eval x = u) (hu : SlN w u (ys.map (Value.int .i64)))
    (hn : n + ys.length ≤ 1000000000) (hbase : B ≤ w.heap.size)
    (h : ∀ v' w', w'.ownsRow B 2 1 v' (n + ys.length) ((xs ++ ys).map (Value.int .i64)) → w.grownBy w' v.ownBlock → wpList Try.prog ops Q rest (a.put o.dst v') w') : wpList Try.prog ops Q (o :: rest) a w :=
  wpList_plain hgd fun _ hK => wp_append_sln (ops := ops) s x ho B v n xs hs hown u ys hx hu hn hbase fun v' w' h1 h2 => hK _ _ (h v' w' h1 h2)

theorem cut_nil (w : World) : (Instr.sliceAt 32 (.slice none 0 0) none (some (.int .i64 0)) none).run Try.prog w = .ok (.slice none 0 0) w := by kernel_rfl
theorem cut_zero (g n c : Nat) (w : World) : (Instr.sliceAt 32 (.slice (some ⟨g, 0, none⟩) n c) none (some (.int .i64 0)) none).run Try.prog w = .ok (.slice (some ⟨g, 0, none⟩) 0 c) w := by
  rw [run_sliceAt_slice w 32 _ _ _ _ und32, run_slice_h w 32 _ _ c und32 .i64 0 (by omega) (by omega), size32]
  simp only [Result.andThen_ok, sliced]
  by_cases e : c = 0
  · subst e; rfl
  · rw [if_neg e]; rfl

set_option maxRecDepth 100000 in
set_option maxHeartbeats 800000 in
theorem grow_w (n : Nat) (w : World) (hn : n ≤ 1000000) :
    Calls Try.prog 34 #[.slice none 0 0, .int .i64 (n : Int)] w fun e w' => ∃ v, e = .returned v ∧ w'.ownsRow w.heap.size 2 1 v 0 [] ∧ Below w.heap.size w w' := by
  obtain ⟨i2, hi, hz0, hz1, hz2⟩ := info_parts info2
  have hw1 : IntKind.i64.wrap (n : Int) = (n : Int) := by rw [IntKind.wrap_i64]; omega
  have hc0 := cut_nil
  rcases Nat.eq_zero_or_pos n with h0 | h0
  · subst h0
    clear hi hz0 hz1 hz2
    go_enter Try.func34, Try.ntmps34
    go_wp2_with fail
    go_ret
    exact ⟨_, rfl, World.ownsRow_nil _ _ _ _, Below.refl _ _⟩
  · have hrun := Lib.run_append_nil_zeros (P := Try.prog) w 32 3 32 2 i2 (.int .i64 0) .i64 .i64 Try.underlying32 Try.underlying3 hi hz0 n h0 (by rw [hz1]; omega) (by omega) (by rw [hz2]; omega)
    have hge := grownCap_ge w n 0 2
    have hle := grownCap_le_maxLen w n 0 2 (by unfold maxLen; omega)
    have hO : Hid ((w.drew.alloc (.cells (Builtin.zeroCells (Value.int .i64 0).cells n ++ Builtin.zeroCells (Value.int .i64 0).cells (grownCap w n 0 2 - n)) 2)).ownsRow w.heap.size 2 1 (.slice (some ⟨w.heap.size, 0, none⟩) 0 (grownCap w n 0 2)) 0 []) :=
      World.ownsRow_made (base := w.heap.size) (e := 2) (size := 1) w.drew _ _ (Nat.le_refl _) hle (by rw [Array.size_append, size_zeroCells, size_zeroCells]; show n * 1 + (grownCap w n 0 2 - n) * 1 = _; omega)
    have hB : Hid (Below w.heap.size w (w.drew.alloc (.cells (Builtin.zeroCells (Value.int .i64 0).cells n ++ Builtin.zeroCells (Value.int .i64 0).cells (grownCap w n 0 2 - n)) 2))) := (Below.refl _ w).drew.alloc (Nat.le_refl _) _
    have HR := Lib.hid hrun
    have hpos : decide (0 < (n : Int)) = true := by simp; omega
    generalize grownCap w n 0 2 = cp at HR hO hB
    generalize w.drew.alloc (.cells (Builtin.zeroCells (Value.int .i64 0).cells n ++ Builtin.zeroCells (Value.int .i64 0).cells (cp - n)) 2) = w2 at HR hO hB
    have hc2 := cut_zero w.heap.size n cp
    clear hrun hge hle hi hz0 hz1 hz2
    go_enter Try.func34, Try.ntmps34
    go_wp2_with (at_builtin; refine Lib.wpList_append_run w rfl (.tmp 20) (.tmp 21) 32 3 rfl _ _ rfl rfl _ _ HR.out ?_)
    go_wp2_with fail
    go_ret
    exact ⟨_, rfl, hO.out, hB.out⟩

set_option maxRecDepth 100000 in
set_option maxHeartbeats 1600000 in
theorem concat_w (q cap : Nat) (ua ub : Value) (xs ys : List Int) (w : World) (h0 : w.cell? ⟨q, 0, none⟩ = some ua) (h1 : w.cell? ⟨q, 1, none⟩ = some ub) (ha : SlN w ua (xs.map (Value.int .i64))) (hb : SlN w ub (ys.map (Value.int .i64)))
    (hx : xs.length ≤ 1000) (hy : ys.length ≤ 1000) :
    Calls Try.prog 24 #[.slice (some ⟨q, 0, none⟩) 2 cap] w fun e w' => ∃ v, e = .returned v ∧ w'.ownsRow w.heap.size 2 1 v (xs.length + ys.length) ((xs ++ ys).map (Value.int .i64)) ∧ Below w.heap.size w w' := by
  have HA := Lib.hid ha
  have HB := Lib.hid hb
  have HX := Lib.hid hx
  have HY := Lib.hid hy
  have H0 := Lib.hid h0
  have H1 := Lib.hid h1
  obtain ⟨aa, ca, rfl, -, -⟩ := ha
  obtain ⟨ab, cb, rfl, -, -⟩ := hb
  rw [List.length_map] at HA HB H0 H1
  have HQ : Hid (q < w.heap.size) := World.block_lt_of_cell? w _ h0
  clear hx hy h0 h1
  go_enter Try.func24, Try.ntmps24
  go_wp2_with fail
  go_loopg [3, 11] 2 (fun k v3 i wr => ∃ j s : Nat, j + k = 2 ∧ i = .int .i64 (j : Int) ∧ v3 = .int .i64 (s : Int) ∧ w = wr ∧ (j = 0 ∧ s = 0 ∨ j = 1 ∧ s = xs.length ∨ j = 2 ∧ s = xs.length + ys.length))
  case atStart => exact ⟨0, 0, by omega, rfl, rfl, rfl, .inl ⟨rfl, rfl⟩⟩
  case round =>
    obtain ⟨j, s, hjk, rfl, rfl, rfl, hs⟩ := hrel
    rcases hs with ⟨rfl, rfl⟩ | ⟨rfl, rfl⟩ | ⟨rfl, rfl⟩
    · have e0 := H0.out
      have hw1 : IntKind.i64.wrap (xs.length : Int) = (xs.length : Int) := by have := HX.out; rw [IntKind.wrap_i64]; omega
      have hn : decide ((xs.length : Int) < 0) = false := by simp
      go_wp2_with fail
      go_roundg 1
      case measure => omega
      case rel => exact ⟨1, xs.length, by omega, rfl, rfl, rfl, .inr (.inl ⟨rfl, rfl⟩)⟩
    · have e1 := H1.out
      obtain ⟨t, ht⟩ : ∃ t, t = xs.length + ys.length := ⟨_, rfl⟩
      have hw1 : IntKind.i64.wrap ((xs.length : Int) + ys.length) = (t : Int) := by have := HX.out; have := HY.out; rw [IntKind.wrap_i64]; omega
      have hn : decide ((t : Int) < 0) = false := by simp
      have HT := Lib.hid ht
      clear ht
      go_wp2_with fail
      go_roundg 0
      case measure => omega
      case rel => exact ⟨2, t, by omega, rfl, rfl, rfl, .inr (.inr ⟨rfl, HT.out⟩)⟩
    · obtain ⟨t, ht⟩ : ∃ t, t = xs.length + ys.length := ⟨_, rfl⟩
      rw [← ht]
      have HGR := Lib.hid (grow_w t w (by have := HX.out; have := HY.out; omega))
      have HT := Lib.hid ht
      clear ht hjk
      go_wp2_with fail
      refine HGR.out.mono ?_
      rintro e w1 ⟨v, rfl, ho, hb⟩
      have HO := Lib.hid ho
      have HBW := Lib.hid hb
      clear ho hb HGR
      go_wp2_with fail
      go_loopg [6, 27] 2 (fun k v6 i wz => ∃ (j s : Nat) (zs : List Int), j + k = 2 ∧ i = .int .i64 (j : Int) ∧ wz.ownsRow w.heap.size 2 1 v6 s (zs.map (Value.int .i64)) ∧ Below w.heap.size w wz ∧ (j = 0 ∧ s = 0 ∧ zs = [] ∨ j = 1 ∧ s = xs.length ∧ zs = xs ∨ j = 2 ∧ s = xs.length + ys.length ∧ zs = xs ++ ys))
      case atStart => exact ⟨0, 0, [], by omega, rfl, HO.out, HBW.out, .inl ⟨rfl, rfl, rfl⟩⟩
      case round =>
        clear HO HBW
        obtain ⟨j, s, zs, hjk, rfl, ho, hb, hs⟩ := hrel
        have HO := Lib.hid ho
        have HBW := Lib.hid hb
        clear ho hb
        rcases hs with ⟨rfl, rfl, rfl⟩ | ⟨rfl, rfl, rfl⟩ | ⟨rfl, rfl, rfl⟩
        · have e0 := (HBW.out.cell HQ.out).trans H0.out
          go_wp2_with (at_builtin; refine wpList_append_sln rfl (.tmp 31) (.tmp 32) rfl w.heap.size _ 0 [] rfl HO.out _ xs rfl (HA.out.below HBW.out) (by have := HX.out; omega) HBW.out.size ?_)
          intro v2 w2 hown2 hgrow2
          have HO2 := Lib.hid hown2
          have HB2 := Lib.hid (Below.grown HBW.out hgrow2 HBW.out.size (fun k hk => (HO.out.lt k hk).1))
          clear hown2 hgrow2
          go_wp2_with fail
          go_roundg 1
          case measure => omega
          case rel => exact ⟨1, xs.length, xs, by omega, rfl, by simpa using HO2.out, HB2.out, .inr (.inl ⟨rfl, rfl, rfl⟩)⟩
        · have e1 := (HBW.out.cell HQ.out).trans H1.out
          go_wp2_with (at_builtin; refine wpList_append_sln rfl (.tmp 31) (.tmp 32) rfl w.heap.size _ zs.length zs rfl HO.out _ ys rfl (HB.out.below HBW.out) (by have := HX.out; have := HY.out; omega) HBW.out.size ?_)
          intro v2 w2 hown2 hgrow2
          have HO2 := Lib.hid hown2
          have HB2 := Lib.hid (Below.grown HBW.out hgrow2 HBW.out.size (fun k hk => (HO.out.lt k hk).1))
          clear hown2 hgrow2
          go_wp2_with fail
          go_roundg 0
          case measure => omega
          case rel => exact ⟨2, zs.length + ys.length, zs ++ ys, by omega, rfl, by simpa using HO2.out, HB2.out, .inr (.inr ⟨rfl, rfl, rfl⟩)⟩
        · go_wp2_with fail
          go_ret
          exact ⟨_, rfl, HO.out, HBW.out⟩

end Go.Proofs.Ytnahipfdnadccaa
