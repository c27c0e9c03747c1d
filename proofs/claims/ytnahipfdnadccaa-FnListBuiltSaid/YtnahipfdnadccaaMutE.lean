/- A list's slice in place; its set and slice in place that panic. Conditions of this file: none. -/
import Derived.Test.YtnahipfdnadccaaMutD
namespace Go.Proofs.Ytnahipfdnadccaa
open Go.RowKit

theorem Glob.but {S : Nat → Prop} {w W : World} (hg : Glob w) (hb : But S w W) (h0 : ¬ S 0) : Glob W := by
  obtain ⟨cs, h1, h2⟩ := hg
  exact ⟨cs, hb.at h1 h0, h2⟩

/-- the world at the loop's head: the head, its tree, where the slice stands -/
def SliceMW (w0 : World) (b : Nat) (S : Nat → Prop) (n s : Nat) (ys : List Int) (d : Nat) (w : World) : Prop :=
  ∃ (o q : Nat) (zs : List Int) (p : Nat), w.heap[b]? = some (.cells #[.iface (ty d) (.pointer (some ⟨p, 0, none⟩)), .int .i64 (o : Int), .int .i64 (s : Int)] 113 (0, 0)) ∧
    SNode w d S (.iface (ty d) (.pointer (some ⟨p, 0, none⟩))) (win q zs) ∧ SliceInv n s ys d o q zs ∧ But (· = b) w0 w
/-- the world behind the loop -/
def SliceME (w0 : World) (b : Nat) (S : Nat → Prop) (n s : Nat) (ys : List Int) (w : World) : Prop :=
  ∃ (d o p : Nat), w.heap[b]? = some (.cells #[.iface (ty d) (.pointer (some ⟨p, 0, none⟩)), .int .i64 (o : Int), .int .i64 (s : Int)] 113 (0, 0)) ∧
    SNode w d S (.iface (ty d) (.pointer (some ⟨p, 0, none⟩))) (win o ys) ∧ Dep n d o s ∧ ys.length = s ∧ But (· = b) w0 w
theorem SNode.drewn {S : Nat → Prop} {w : World} {d : Nat} {v : Value} {f : Nat → Option Int} (h : SNode w d S v f) : SNode w.drew d S v f :=
  SNode.stay (w := w) (w' := w.drew) h (fun _ _ _ h _ => h)
theorem SliceME.drewn {w0 : World} {b : Nat} {S : Nat → Prop} {n s : Nat} {ys : List Int} {w : World} (h : SliceME w0 b S n s ys w) : SliceME w0 b S n s ys w.drew := by
  obtain ⟨d, o, p, h1, h2, h3, h4, h5⟩ := h
  exact ⟨d, o, p, h1, h2.drewn, h3, h4, h5.drew⟩

theorem slice_snode {n s : Nat} {ys : List Int} {d o q : Nat} {zs : List Int} {w : World} {S : Nat → Prop} {v : Value} (h : SliceInv n s ys d o q zs) (hn : SNode w d S v (win q zs)) : SNode w d S v (win o ys) := by
  obtain ⟨h1, h2, h3, h4, h5, h6, h7, h8, h9, h10⟩ := h
  rcases Nat.eq_zero_or_pos s with hs | hs
  · have hy : ys = [] := List.eq_nil_of_length_eq_zero (h10.trans hs)
    subst hy
    refine SNode.mono _ _ _ _ _ hn fun j y _ hy => ?_
    unfold win at hy
    split at hy <;> simp at hy
  · obtain ⟨rfl, rfl⟩ := h8 hs
    exact hn
theorem slice_schild {n s : Nat} {ys : List Int} {d o q : Nat} {zs : List Int} {w : World} {S : Nat → Prop} {p : Nat} (h : SliceInv n s ys (d + 1) o q zs) (hn : n < 33554432) (he : slot (o : Int) (d + 1) = slot ((o : Int) + s - 1) (d + 1))
    (hd : SNode w (d + 1) S (.iface 122 (.pointer (some ⟨p, 0, none⟩))) (win q zs)) :
    ∃ (arr : Array Value) (c : Nat), w.heap[p]? = some (.cells arr 125 (0, 0)) ∧ arr.size = 33 ∧ arr[1 + slot (o : Int) (d + 1)]? = some (.iface (ty d) (.pointer (some ⟨c, 0, none⟩))) ∧
      SNode w d S (.iface (ty d) (.pointer (some ⟨c, 0, none⟩))) (win (q - slot (o : Int) (d + 1) * 32 ^ (d + 1)) zs) := by
  obtain ⟨-, k1, k2⟩ := slice_step h hn he
  have hlt := slot_lt (o : Int) (d + 1)
  generalize slot (o : Int) (d + 1) = i at *
  obtain ⟨b, arr, T, g1, g2, g3, g4, g5, g6, g8, g9⟩ := hd
  simp only [Value.iface.injEq, Value.pointer.injEq, Option.some.injEq, Addr.mk.injEq, true_and, and_true] at g1
  subst g1
  obtain ⟨c, hc, g7⟩ := g5 i hlt
  obtain ⟨-, -, -, -, -, h6, h7, -, -, -⟩ := k2
  have hz : 0 < zs.length := by
    rcases Nat.eq_zero_or_pos zs.length with h | h
    · exact absurd (List.eq_nil_of_length_eq_zero h) h7
    · exact h
  have hfun : ∀ j, win q zs (i * 32 ^ (d + 1) + j) = win (q - i * 32 ^ (d + 1)) zs j := fun j => by
    have e : q = i * 32 ^ (d + 1) + (q - i * 32 ^ (d + 1)) := by omega
    have := win_shift (o := q - i * 32 ^ (d + 1)) (m := i * 32 ^ (d + 1)) (xs := zs) j
    rw [← e] at this
    exact this
  rcases g7 with ⟨rfl, g7⟩ | g7
  · exfalso
    have h1 := g7 (q - i * 32 ^ (d + 1)) (by omega)
    rw [hfun] at h1
    unfold win at h1
    rw [if_pos (Nat.le_refl _), Nat.sub_self, List.getElem?_eq_getElem hz] at h1
    cases h1
  · obtain ⟨r, rfl⟩ := g7.ptr
    refine ⟨arr, r, g2, g3, hc, SNode.mono _ _ _ _ _ (g7.inS fun x hx _ => (g8 i x hx).1) fun j y _ hy => ?_⟩
    rw [hfun]; exact hy

/-- a write of the head leaves the tree -/
theorem snode_head {S : Nat → Prop} {w : World} {b d j : Nat} {v u : Value} {f : Nat → Option Int} (h : SNode w d S v f) (hS : ∀ x, S x → x ≠ b) : SNode (w.setCell ⟨b, j, none⟩ u) d S v f :=
  h.but ((But.refl (· = b) w).setCell (p := ⟨b, j, none⟩) (.inl rfl) u) hS

set_option maxRecDepth 100000 in
set_option maxHeartbeats 1600000 in
theorem slice_mut_w (G : Nat → Prop) (b d p t o s x e n : Nat) (ys zs : List Int) (q : Nat) (w : World) (S : Nat → Prop) (hx : x ≤ e) (he : e ≤ s) (hne : ¬ (x = 0 ∧ e = s)) (ho : o + s ≤ 1152921504606846976) (ht : t = ty d) (hn : n < 33554432) (hG : Glob w) (hB0 : ¬ G 0) (hBh : ∀ x, w.heap.size ≤ x → G x) (hBb : G b) (hS : ∀ x, S x → G x ∧ x ≠ b)
    (hblk : w.heap[b]? = some (.cells #[.iface t (.pointer (some ⟨p, 0, none⟩)), .int .i64 (o : Int), .int .i64 (s : Int)] 113 (0, 0)))
    (hnode : SNode w d S (.iface (ty d) (.pointer (some ⟨p, 0, none⟩))) (win q zs)) (hinv : SliceInv n (e - x) ys d (o + x) q zs) :
    Calls Try.prog 69 #[.pointer (some ⟨b, 0, none⟩), .int .i64 (x : Int), .int .i64 (e : Int), .bool true] w (SPostG G w (.pointer (some ⟨b, 0, none⟩)) n ys) := by
  obtain ⟨hc0, hc1, hc2⟩ := head_cells hblk
  have hx1 : decide ((s : Int) < (x : Int)) = false := by simp; omega
  have hx2 : decide ((s : Int) < (e : Int)) = false := by simp; omega
  have hx3 : decide ((e : Int) < (x : Int)) = false := by simp; omega
  have HT := Lib.hid ht; clear ht
  have HI := Lib.hid hinv; clear hinv
  have HN0 := Lib.hid hnode; clear hnode
  have HG := Lib.hid hG; clear hG
  have HSS := Lib.hid hS; clear hS
  have HBK := Lib.hid hblk
  have HBL : Hid (b < w.heap.size) := lt_of_block hblk
  have hf1 := head_free hblk 1
  have hf2 := head_free hblk 2
  have hn1 : ¬ s < x := by omega
  have hn2 : ¬ s < e := by omega
  have hn3 : ¬ e < x := by omega
  go_enter Try.func69, Try.ntmps69
  go_upto_region 7 with (fail)
  go_cut [47] from 38 to 46 (fun v wc => v = .bool false ∧ w = wc)
  case first =>
    by_cases hx0 : x = 0
    · have h1 : ((x : Int) == 0) = true := by simp; omega
      have h2 : ((e : Int) == (s : Int)) = false := by simp; omega
      go_wp2_with fail
      go_meet
      case rel => exact ⟨rfl, rfl⟩
    · have h1 : ((x : Int) == 0) = false := by simp; omega
      go_wp2_with fail
      go_meet
      case rel => exact ⟨rfl, rfl⟩
  case rest =>
    obtain ⟨rfl, rfl⟩ := hcut
    have hw8 : IntKind.i64.wrap ((o : Int) + x) = (o : Int) + x := by rw [IntKind.wrap_i64]; omega
    have hw9 : IntKind.i64.wrap ((e : Int) - x) = (e : Int) - x := by rw [IntKind.wrap_i64]; omega
    clear hblk
    go_upto_block 0 with (fail)
    have hL0 := head_set2' (head_set1 HBK.out (.int .i64 ((o : Int) + x))) (.int .i64 ((e : Int) - x))
    have hB : But (· = b) w ((w.setCell ⟨b, 1, none⟩ (.int .i64 ((o : Int) + x))).setCell ⟨b, 2, none⟩ (.int .i64 ((e : Int) - x))) := ((But.refl (· = b) w).setCell (p := ⟨b, 1, none⟩) (.inl rfl) _).setCell (p := ⟨b, 2, none⟩) (.inl rfl) _
    generalize hW : (w.setCell ⟨b, 1, none⟩ (.int .i64 ((o : Int) + x))).setCell ⟨b, 2, none⟩ (.int .i64 ((e : Int) - x)) = W at hL0 hB ⊢
    have hS : Hid (SliceMW w b S n (e - x) ys d W) := by
      refine ⟨o + x, q, zs, p, ?_, HN0.out.but hB fun x hx he => (HSS.out x hx).2 he, HI.out, hB⟩
      rw [hL0, HT.out]
      have e1 : ((o : Int) + x) = ((o + x : Nat) : Int) := by omega
      have e2 : ((e : Int) - x) = ((e - x : Nat) : Int) := by omega
      rw [e1, e2]
    have HM : Hid (e - x ≤ s) := by show _ ≤ _; omega
    generalize e - x = m at hS HM ⊢
    clear hW hL0 hc0 hc1 hc2 hf1 hf2 hw8 hw9 hB HT HI HN0 hx1 hx2 hx3 HBK
    go_cut [] from 10 to 135 (fun wd => SliceME w b S n m ys wd)
    case first =>
      go_wp2_with fail
      go_loopg [] d (fun k wr => SliceMW w b S n m ys k wr)
      case atStart => exact hS.out
      case round =>
        clear hS W HG
        obtain ⟨o', q', zs', p', hL, hn', hI, hb⟩ := hrel
        have HI := Lib.hid hI
        have HB := Lib.hid hb
        have hon := hI.2.1
        have hon2 := pow_le8 hI.2.2.1
        have hgk := hI.2.2.1
        clear hI hb
        by_cases hg : gk ≤ 1
        · have hdep := Lib.hid (depth_any hn'.node)
          obtain ⟨h1, h2, h3⟩ := disp_ty disp_depth0 disp_depth1 gk
          have HE : Hid (SliceME w b S n m ys wr) := by
            exact ⟨gk, o', p', hL, slice_snode HI.out hn', slice_stop HI.out hn (.inl hg), HI.out.2.2.2.2.2.2.2.2.2, HB.out⟩
          generalize ty gk = t' at *
          generalize fn 91 101 gk = f' at *
          obtain ⟨hd0, hd1, hd2⟩ := head_cells hL
          have hlt : decide ((1 : Int) < (gk : Int)) = false := by simp; omega
          clear hL hn'
          go_wp2_with fail
          refine hdep.out.mono ?_
          rintro e' w' ⟨rfl, rfl⟩
          go_wp2_with fail
          go_meet
          case rel => exact HE.out
        · obtain ⟨D, rfl⟩ : ∃ D, gk = D + 1 := ⟨gk - 1, by omega⟩
          obtain ⟨h1, h2, h3⟩ := disp_depth1
          obtain ⟨hd0, hd1, hd2⟩ := head_cells hL
          have hty : ty (D + 1) = 122 := rfl
          rw [hty] at hL hd0 hn'
          have hf0 := head_free hL 0
          have hf1 := head_free hL 1
          obtain ⟨arr, a1, a2, a3, a4, a5⟩ : ∃ arr : Array Value, wr.heap[p']? = some (.cells arr 125 (0, 0)) ∧ arr[0]? = some (.int .u64 ((D : Int) + 1)) ∧ True ∧ True ∧ True := by
            obtain ⟨b', arr, T, g1, g2, g3, g4, g5, g6⟩ := hn'
            simp only [Value.iface.injEq, Value.pointer.injEq, Option.some.injEq, Addr.mk.injEq, true_and, and_true] at g1
            subst g1
            exact ⟨arr, g2, g4, trivial, trivial, trivial⟩
          have hpd := Lib.hid (cell_at a1 a2)
          have hgt : decide ((1 : Int) < (D : Int) + 1) = true := by simp; omega
          have hcd : ∀ W : World, W.cell? ⟨p', 0, none⟩ = some (.int .u64 ((D : Int) + 1)) → Hid (Calls Try.prog 101 #[.pointer (some ⟨p', 0, none⟩)] W fun e w'' => e = .returned (.int .u64 ((D : Int) + 1)) ∧ w'' = W) := fun W h => (depth_w1 p' _ W h).mono fun e w'' h => ⟨h.1, h.2.symm⟩
          have HCD := Lib.hid hcd; clear hcd
          go_wp2_with fail
          refine (depth_w1 p' _ wr hpd.out).mono ?_
          rintro e' w' ⟨rfl, rfl⟩
          go_wp2_with fail
          have hw5 : IntKind.u64.wrap (((D : Int) + 1) * 5) = ((D : Int) + 1) * 5 := by rw [IntKind.wrap_u64]; omega
          have hw5a : 0 ≤ ((D : Int) + 1) * 5 := by omega
          have hw5b : ((D : Int) + 1) * 5 ≤ 64 := by omega
          have hw5c : (((D : Int) + 1) * 5).toNat = (D + 1) * 5 := by omega
          have hsl1 := slot_eq (o' : Int) (D + 1)
          have hsl2 := slot_eq ((o' : Int) + m - 1) (D + 1)
          have hw6 : IntKind.i64.wrap ((o' : Int) + m) = (o' : Int) + m := by rw [IntKind.wrap_i64]; omega
          have hw7 : IntKind.i64.wrap ((o' : Int) + m - 1) = (o' : Int) + m - 1 := by rw [IntKind.wrap_i64]; omega
          by_cases hij : slot (o' : Int) (D + 1) = slot ((o' : Int) + m - 1) (D + 1)
          · obtain ⟨arr', c, r1, r2, r3, r4⟩ := slice_schild HI.out hn hij hn'
            have HS := Lib.hid (slice_step HI.out hn hij)
            have HJ := Lib.hid hij
            rw [← hij] at hsl2
            clear hij
            generalize hi : slot (o' : Int) (D + 1) = i at hsl1 hsl2 r3
            have HIi := Lib.hid hi
            clear hi
            have hnn : ((i : Int) != (i : Int)) = false := by simp
            refine region_still (by kernel_rfl) (by kernel_rfl) ?_
            repeat still_step
            still_call ((HCD.out wr.drew hpd.out).out)
            repeat still_step
            refine wpStill_nil ?_
            go_wp2_with fail
            refine region_still (by kernel_rfl) (by kernel_rfl) ?_
            repeat still_step
            still_call ((HCD.out wr.drew.drew hpd.out).out)
            repeat still_step
            refine wpStill_nil ?_
            go_wp2_with fail
            have hM := HS.out.1
            rw [HIi.out] at hM
            have hMM := Lib.hid (show i * 32 ^ (D + 1) = i * 32 ^ (D + 1) from rfl)
            have hsh := pow_two (i := i) (d := D + 1)
            generalize hMdef : i * 32 ^ (D + 1) = M at hM hsh
            have HMdef := Lib.hid hMdef
            clear hMdef hMM hsl1 hsl2
            have hwM : IntKind.i64.wrap (M : Int) = (M : Int) := by rw [IntKind.wrap_i64]; omega
            have hwS : IntKind.i64.wrap ((o' : Int) - M) = (o' : Int) - M := by rw [IntKind.wrap_i64]; omega
            refine region_tail 15 (by kernel_rfl) (by kernel_rfl) ?_
            simp only [List.take_succ_cons, List.take_zero, List.drop_succ_cons, List.drop_zero]
            repeat still_step
            still_call ((HCD.out wr.drew.drew.drew hpd.out).out)
            repeat still_step
            refine wpStill_nil ?_
            have hpne : ¬ p' = b := by
              intro e1
              rw [e1, hL] at r1
              simp only [Option.some.injEq, Obj.cells.injEq] at r1
              exact absurd r1.2.1 (by decide)
            have hpne2 : ¬ b = p' := fun e1 => hpne e1.symm
            have hkid := cell_at r1 r3
            clear hw5 hw5a hw5b hw5c hw6 hw7 hsh hwM hwS
            go_wp2_with fail
            rw [run_assert122]
            have hS1 := head_set1 hL (.int .i64 ((o' : Int) - M))
            have hk1 : (wr.setCell ⟨b, 1, none⟩ (.int .i64 ((o' : Int) - M))).heap[p']? = some (.cells arr' 125 (0, 0)) := by
              rw [heap_setCell_other _ _ _ _ (by show p' ≠ b; exact hpne)]; exact r1
            have hkid' := cell_at hk1 r3
            have HN1 := Lib.hid (snode_head (b := b) (j := 1) (u := .int .i64 ((o' : Int) - M)) r4 fun x hx => (HSS.out x hx).2)
            have HB1 := Lib.hid (HB.out.setCell (p := ⟨b, 1, none⟩) (.inl rfl) (.int .i64 ((o' : Int) - M)))
            generalize hV : wr.setCell ⟨b, 1, none⟩ (.int .i64 ((o' : Int) - M)) = V at hS1 hkid' HN1 HB1 ⊢
            have HS1 := Lib.hid hS1
            clear hV hS1 hk1 r1 r4 r3 hL hd0 hd1 hd2 hkid hf0 hf1 hpd HCD
            obtain ⟨hd0, hd1, hd2⟩ := head_cells HS1.out
            have hf0 := head_free HS1.out 0
            have hi32 : i < 32 := by have := slot_lt (o' : Int) (D + 1); rw [HIi.out] at this; exact this
            generalize htd : ty D = td at hkid' HN1
            have HTD := Lib.hid htd
            clear htd
            go_wp2_with fail
            go_roundg D
            case measure => omega
            case rel =>
              obtain ⟨k1, k2, k3⟩ := HS.out
              rw [HIi.out, HMdef.out] at k1 k2 k3
              have e1 : ((o' : Int) - M) = ((o' - M : Nat) : Int) := by omega
              refine ⟨o' - M, q' - M, zs', c, ?_, ?_, k3, ?_⟩
              · have := head_set0 HS1.out (Value.iface td (Value.pointer (some { block := c, off := 0 })))
                rw [HTD.out, ← e1]
                exact this
              · have := snode_head (b := b) (j := 0) (u := Value.iface td (Value.pointer (some { block := c, off := 0 }))) HN1.out fun x hx => (HSS.out x hx).2
                rw [HIi.out, HMdef.out] at this
                rw [HTD.out]
                exact this.drewn.drewn.drewn
              · exact ((HB1.out.setCell (p := ⟨b, 0, none⟩) (.inl rfl) (Value.iface td (Value.pointer (some { block := c, off := 0 })))).drew).drew.drew
          · have HE : Hid (SliceME w b S n m ys wr) := ⟨D + 1, o', p', hL, slice_snode HI.out hn', slice_stop HI.out hn (.inr hij), HI.out.2.2.2.2.2.2.2.2.2, HB.out⟩
            have hnn : ((slot (o' : Int) (D + 1) : Int) != (slot ((o' : Int) + m - 1) (D + 1) : Int)) = true := by simp; omega
            clear hij
            generalize slot (o' : Int) (D + 1) = i at hsl1 hnn
            generalize slot ((o' : Int) + m - 1) (D + 1) = j at hsl2 hnn
            refine region_still (by kernel_rfl) (by kernel_rfl) ?_
            repeat still_step
            still_call ((HCD.out wr.drew hpd.out).out)
            repeat still_step
            refine wpStill_nil ?_
            go_wp2_with fail
            refine region_still (by kernel_rfl) (by kernel_rfl) ?_
            repeat still_step
            still_call ((HCD.out wr.drew.drew hpd.out).out)
            repeat still_step
            refine wpStill_nil ?_
            go_wp2_with fail
            go_meet
            case rel => exact HE.out.drewn.drewn
    case rest =>
      obtain ⟨d', o', p', hL, hn', hD, hys, hb⟩ := hcut
      have HDep := Lib.hid hD
      have HB := Lib.hid hb
      have HYS := Lib.hid hys
      have hon := hD.2.1
      have hd7 := hD.2.2.1
      have hon2 := pow_le8 hd7
      clear hD hb hys hS W
      have HN := Lib.hid hn'
      clear hn'
      have HT := Lib.hid (disp_ty disp_deleteBefore0 disp_deleteBefore1 d')
      have HT2 := Lib.hid (disp_ty disp_deleteAfter0 disp_deleteAfter1 d')
      have HL := Lib.hid hL
      have HDB : ∀ (V : World) (S : Nat → Prop) (r : Nat) (f : Nat → Option Int), Glob V → SNode V d' S (.iface (ty d') (.pointer (some ⟨r, 0, none⟩))) f → Hid (Calls Try.prog (fn 90 100 d') #[.pointer (some ⟨r, 0, none⟩), .int .i64 (o' : Int), .bool true] V (MutPost S V d' r (before (o' : Int) d' f))) := fun V S r f hg h => dbm_any (o' : Int) d' S V r f hg (by omega) h
      have HDA : ∀ (V : World) (S : Nat → Prop) (r : Nat) (f : Nat → Option Int), Glob V → SNode V d' S (.iface (ty d') (.pointer (some ⟨r, 0, none⟩))) f → Hid (Calls Try.prog (fn 89 99 d') #[.pointer (some ⟨r, 0, none⟩), .int .i64 ((o' : Int) + m - 1), .bool true] V (MutPost S V d' r (behind ((o' : Int) + m - 1) d' f))) := fun V S r f hg h => dam_any ((o' : Int) + m - 1) d' S V r f hg (by omega) h
      unfold MutPost at HDB HDA
      have HDB' := Lib.hid HDB
      have HDA' := Lib.hid HDA
      clear HDB HDA
      generalize hty : ty d' = t' at hL HL HN HT HT2 HDB' HDA'
      have HTY := Lib.hid hty
      clear hty
      generalize fn 90 100 d' = f1 at HT HDB'
      generalize fn 89 99 d' = f2 at HT2 HDA'
      obtain ⟨hd0, hd1, hd2⟩ := head_cells hL
      clear hL
      obtain ⟨h1, h2, h3⟩ := HT.out
      go_wp2_with fail
      have HGW : Hid (Glob wc.drew) := HG.out.but HB.out.drew fun h => hB0 (by rw [show (0 : Nat) = b from h]; exact hBb)
      have HC1 := Lib.hid (HDB'.out wc.drew S p' _ HGW.out HN.out.drewn).out
      refine region_fix [0] [1, 2, 3, 4, 5, 6, 7, 8, 9, 10, 11] [12, 13, 14, 15] (by kernel_rfl) (by intro dst v c a w h; cases dst <;> exact h) (by kernel_rfl) ?_
      simp only [opsOf, List.getElem?_toArray, List.getElem?_cons_succ, List.getElem?_cons_zero]
      refine wpPure_step ?_ rfl (fun W => ?_) ?_; rotate_left 1; · go_simp; try with_reducible rfl
      refine wpPure_nil ?_
      repeat still_step
      refine wpStill_nil ?_
      go_wp2_with fail
      refine HC1.out.mono ?_
      rintro e1 w1 ⟨rfl, hn1, hb1⟩
      have hz1 : w1.heap[b]? = _ := (hb1.block b (Nat.lt_of_lt_of_le HBL.out HB.out.drew.size) (fun h => (HSS.out b h).2 rfl)).trans HL.out
      have hc0 := cell_at (j := 0) hz1 rfl
      have hf0 := head_free hz1 0
      have HN1 := Lib.hid hn1
      have HB1 : Hid (But G w w1) := (HB.out.drew.wider fun x _ hx => by rw [show x = b from hx]; exact hBb).trans (hb1.wider fun x _ hx => (HSS.out x hx).1)
      have HBZ : Hid (b < w1.heap.size) := Nat.lt_of_lt_of_le HBL.out HB1.out.size
      have HSZ : Hid (wc.drew.heap.size ≤ w1.heap.size) := hb1.size
      have HSC : Hid (w.heap.size ≤ wc.drew.heap.size) := HB.out.drew.size
      have HZ1 := Lib.hid hz1
      have HS1 : Hid (∀ x, New S wc.drew x → G x ∧ x ≠ b) := fun x hx => hx.elim (HSS.out x) fun h => ⟨hBh x (Nat.le_trans HSC.out h), by have := HBL.out; have := HSC.out; omega⟩
      clear hn1 hb1 hz1 hd0 hd1 hd2 HL HN HB HC1
      go_wp2_with fail
      have hU1 := head_set0 HZ1.out (.iface t' (.pointer (some ⟨p', 0, none⟩)))
      have HU2 := Lib.hid (HB1.out.setCell (p := ⟨b, 0, none⟩) (.inl hBb) (.iface t' (.pointer (some ⟨p', 0, none⟩))))
      have HU3 := Lib.hid (snode_head (b := b) (j := 0) (u := .iface t' (.pointer (some ⟨p', 0, none⟩))) HN1.out fun x hx => (HS1.out x hx).2)
      generalize hU : w1.setCell ⟨b, 0, none⟩ (.iface t' (.pointer (some ⟨p', 0, none⟩))) = U at hU1 HU2 HU3 ⊢
      have HU1 := Lib.hid hU1
      clear hU hc0 hf0 HZ1 HB1 HN1
      obtain ⟨hd0, hd1, hd2⟩ := head_cells hU1
      clear hU1
      have hw6 : IntKind.i64.wrap ((o' : Int) + m) = (o' : Int) + m := by rw [IntKind.wrap_i64]; omega
      have hw7 : IntKind.i64.wrap ((o' : Int) + m - 1) = (o' : Int) + m - 1 := by rw [IntKind.wrap_i64]; omega
      clear h1 h2 h3
      obtain ⟨h1, h2, h3⟩ := HT2.out
      have HGU : Hid (Glob U.drew) := HG.out.but HU2.out.drew hB0
      have HC2 := Lib.hid (HDA'.out U.drew _ p' _ HGU.out HU3.out.drewn).out
      refine region_fix [0] [1, 2, 3, 4, 5, 6, 7, 8, 9, 10, 11, 12, 13, 14, 15, 16, 17] [18, 19, 20, 21] (by kernel_rfl) (by intro dst v c a w h; cases dst <;> exact h) (by kernel_rfl) ?_
      simp only [opsOf, List.getElem?_toArray, List.getElem?_cons_succ, List.getElem?_cons_zero]
      refine wpPure_step ?_ rfl (fun W => ?_) ?_; rotate_left 1; · go_simp; try with_reducible rfl
      refine wpPure_nil ?_
      repeat still_step
      refine wpStill_nil ?_
      go_wp2_with fail
      refine HC2.out.mono ?_
      rintro e1 w2 ⟨rfl, hn1, hb1⟩
      have hbU : b < U.drew.heap.size := Nat.lt_of_lt_of_le HBL.out HU2.out.drew.size
      have hz1 : w2.heap[b]? = _ := (hb1.block b hbU (fun h => (HS1.out b h).2 rfl)).trans HU1.out
      have hc0 := cell_at (j := 0) hz1 rfl
      have hf0 := head_free hz1 0
      have HN1 := Lib.hid hn1
      have HB1 := Lib.hid hb1
      have HZ1 := Lib.hid hz1
      clear hn1 hb1 hz1 hd0 hd1 hd2 HU1 HU3 HC2 hw6 hw7
      go_wp2_with fail
      go_ret
      have hle := HU2.out.drew.size
      have HX := smutG_end (G := G) (d := d') (o := o') (n := n) (p := p') (w := w) (W := U.drew) (V := w2) (S := New S wc.drew) (xs := ys) hBh hle hBb HS1.out (Nat.lt_of_lt_of_le HBL.out hle) HU2.out.drew HB1.out (by rw [HTY.out]; exact HN1.out) HZ1.out (by rw [HYS.out]) (fun j y hy => slice_keeps (n := n) HDep.out HYS.out hy) (by rw [HYS.out]; exact HDep.out)
      rw [HTY.out] at HX
      exact HX

set_option maxRecDepth 100000 in
set_option maxHeartbeats 400000 in
theorem slice_whole_mw (b : Nat) (s : Nat) (w : World) (hc2 : w.cell? ⟨b, 2, none⟩ = some (.int .i64 (s : Int))) :
    Calls Try.prog 69 #[.pointer (some ⟨b, 0, none⟩), .int .i64 0, .int .i64 (s : Int), .bool true] w fun e w' => e = .returned (.pointer (some ⟨b, 0, none⟩)) ∧ w' = w := by
  have h1 : decide ((s : Int) < 0) = false := by simp
  have h2 : decide ((s : Int) < (s : Int)) = false := by simp
  have h3 : ((s : Int) == (s : Int)) = true := by simp
  go_enter Try.func69, Try.ntmps69
  go_wp2_with fail
  go_ret
  exact ⟨rfl, rfl⟩

theorem slice_gsmut {G : Nat → Prop} {w : World} {v : Value} {n a b : Nat} {xs : List Int} (h : SListG G w v n xs) (hB : ∀ x, w.heap.size ≤ x → G x) (hB0 : ¬ G 0) (hab : a ≤ b) (hb : b ≤ xs.length) (hn : n < 33554432) (hG : Glob w) :
    Calls Try.prog 69 #[v, .int .i64 (a : Int), .int .i64 (b : Int), .bool true] w (SPostG G w v n ((xs.drop a).take (b - a))) := by
  have h' := h
  obtain ⟨p, d, o, r, S, rfl, hbb, hS, hblk, hnode, hD⟩ := h
  by_cases hne : a = 0 ∧ b = xs.length
  · obtain ⟨rfl, rfl⟩ := hne
    obtain ⟨hc0, hc1, hc2⟩ := head_cells hblk
    refine (slice_whole_mw p _ w hc2).mono ?_
    rintro e w' ⟨rfl, rfl⟩
    have e1 : (xs.drop 0).take (xs.length - 0) = xs := by simp
    rw [e1]
    exact ⟨rfl, h', But.refl _ _⟩
  · obtain ⟨k, m, hI⟩ := slice_start hD hab hb hne hn
    have h1 := hD.2.1
    have h2 := pow_le8 hD.2.2.1
    refine slice_mut_w G p d r (ty d) o xs.length a b n _ _ (o + k) w S hab hb hne (by omega) rfl hn hG hB0 hB hbb hS hblk ?_ hI
    exact SNode.mono _ _ _ _ _ hnode fun j y _ hy => win_sub hy

set_option maxRecDepth 100000 in
set_option maxHeartbeats 400000 in
theorem set_panics_mw (b : Nat) (s i x : Int) (w : World) (hc2 : w.cell? ⟨b, 2, none⟩ = some (.int .i64 s)) (hi : i < 0 ∨ s ≤ i) :
    Calls Try.prog 68 #[.pointer (some ⟨b, 0, none⟩), .int .i64 i, .int .i64 x, .bool true] w (Threw w) := by
  by_cases h0 : i < 0
  · have h1 : decide (i < 0) = true := by simp [h0]
    clear hi
    go_enter Try.func68, Try.ntmps68
    go_wp2_with fail
    exact ⟨rfl, rfl, _, rfl⟩
  · have h1 : decide (i < 0) = false := by simp [h0]
    have h2 : decide (s ≤ i) = true := by simp; omega
    clear hi
    go_enter Try.func68, Try.ntmps68
    go_wp2_with fail
    exact ⟨rfl, rfl, _, rfl⟩

set_option maxRecDepth 100000 in
set_option maxHeartbeats 400000 in
theorem slice_panics_mw (b : Nat) (s x e : Int) (w : World) (hc2 : w.cell? ⟨b, 2, none⟩ = some (.int .i64 s)) (hi : x < 0 ∨ s < x ∨ e < 0 ∨ s < e ∨ e < x) :
    Calls Try.prog 69 #[.pointer (some ⟨b, 0, none⟩), .int .i64 x, .int .i64 e, .bool true] w (Threw w) := by
  by_cases h0 : x < 0 ∨ s < x
  · by_cases h0' : x < 0
    · have h1 : decide (x < 0) = true := by simp [h0']
      clear hi h0
      go_enter Try.func69, Try.ntmps69
      go_wp2_with fail
      exact ⟨rfl, rfl, _, rfl⟩
    · have h1 : decide (x < 0) = false := by simp [h0']
      have h2 : decide (s < x) = true := by simp; omega
      clear hi h0
      go_enter Try.func69, Try.ntmps69
      go_wp2_with fail
      exact ⟨rfl, rfl, _, rfl⟩
  · have h1 : decide (x < 0) = false := by simp; omega
    have h2 : decide (s < x) = false := by simp; omega
    by_cases h3 : e < 0 ∨ s < e
    · by_cases h3' : e < 0
      · have h5 : decide (e < 0) = true := by simp [h3']
        clear hi h0 h3
        go_enter Try.func69, Try.ntmps69
        go_wp2_with fail
        exact ⟨rfl, rfl, _, rfl⟩
      · have h5 : decide (e < 0) = false := by simp [h3']
        have h6 : decide (s < e) = true := by simp; omega
        clear hi h0 h3
        go_enter Try.func69, Try.ntmps69
        go_wp2_with fail
        exact ⟨rfl, rfl, _, rfl⟩
    · have h5 : decide (e < 0) = false := by simp; omega
      have h6 : decide (s < e) = false := by simp; omega
      have h7 : decide (e < x) = true := by simp; omega
      clear hi h0 h3
      go_enter Try.func69, Try.ntmps69
      go_wp2_with fail
      exact ⟨rfl, rfl, _, rfl⟩

end Go.Proofs.Ytnahipfdnadccaa

