/- The plain arithmetic of a slice's contraction.

The walk over a list's slice (as a copy).

A list's slice: all of it, and what any slice answers. -/
import Derived.Test.YtnahipfdnadccaaListG
import Derived.Deep.DeepCutAuto
import Derived.Deep.CutBlock
import Derived.Deep.LoopGhost
namespace Go.Proofs.Ytnahipfdnadccaa
open Go.RowKit

theorem slot_nat {m d : Nat} (h : m < 32 ^ (d + 1)) : slot (m : Int) d = m / 32 ^ d := by
  unfold slot
  rw [← cast32 d]
  have e : (32 : Nat) ^ (d + 1) = 32 ^ d * 32 := Nat.pow_succ _ _
  have hp := pos32 d
  have h1 : m / 32 ^ d < 32 := Nat.div_lt_of_lt_mul (by omega)
  have h2 : ((m : Int) / ((32 ^ d : Nat) : Int)) = ((m / 32 ^ d : Nat) : Int) := by simp
  rw [h2]
  generalize m / 32 ^ d = x at *
  omega
theorem slot_neg (d : Nat) : slot (-1) d = 31 := by
  unfold slot
  rw [← cast32 d]
  have hp := pos32 d
  have h1 : (-1 : Int) / ((32 ^ d : Nat) : Int) = -1 :=
    ((Int.ediv_emod_unique (a := -1) (b := ((32 ^ d : Nat) : Int)) (r := ((32 ^ d : Nat) : Int) - 1) (q := -1) (by omega)).2 ⟨by omega, by omega, by omega⟩).1
  rw [h1]
  rfl
theorem slot_top (d : Nat) : slot ((32 ^ (d + 1) : Nat) : Int) d = 0 := by
  unfold slot
  rw [← cast32 d]
  have e : (32 : Nat) ^ (d + 1) = 32 ^ d * 32 := Nat.pow_succ _ _
  have hp := pos32 d
  have h2 : (((32 ^ (d + 1) : Nat) : Int) / ((32 ^ d : Nat) : Int)) = ((32 ^ (d + 1) / 32 ^ d : Nat) : Int) := by simp
  rw [h2, e, Nat.mul_div_cancel_left _ hp]
  rfl

/-- where a slice stands while the tree is contracted: s items from o on are wanted (ys), the tree of depth d has the window zs from q on, which shows that the way is there -/
def SliceInv (n s : Nat) (ys : List Int) (d o q : Nat) (zs : List Int) : Prop :=
  s ≤ n ∧ o + s ≤ 32 ^ (d + 1) ∧ d ≤ 7 ∧ (6 ≤ d → o + s ≤ 33285996544 + n) ∧ (1 ≤ o ∨ 1 ≤ s ∨ d < 6) ∧ q + zs.length ≤ 32 ^ (d + 1) ∧ zs ≠ [] ∧ (1 ≤ s → q = o ∧ zs = ys) ∧ (s = 0 → zs.length = 1 ∧ (q = o ∨ q + 1 = o)) ∧ ys.length = s

theorem div_same {o i M : Nat} (hM : 0 < M) (h : o / M = i) : i * M ≤ o ∧ o < i * M + M := by
  have h1 := Nat.div_add_mod o M
  have h2 := Nat.mod_lt o hM
  rw [h, Nat.mul_comm] at h1
  omega

/-- one round: the window lies in one child -/
theorem slice_step {n s : Nat} {ys : List Int} {d o q : Nat} {zs : List Int} (h : SliceInv n s ys (d + 1) o q zs) (hn : n < 33554432) (he : slot (o : Int) (d + 1) = slot ((o : Int) + s - 1) (d + 1)) :
    slot (o : Int) (d + 1) * 32 ^ (d + 1) ≤ o ∧ slot (o : Int) (d + 1) * 32 ^ (d + 1) ≤ q ∧ SliceInv n s ys d (o - slot (o : Int) (d + 1) * 32 ^ (d + 1)) (q - slot (o : Int) (d + 1) * 32 ^ (d + 1)) zs := by
  obtain ⟨h1, h2, h3, h4, h5, h6, h7, h8, h9, h10⟩ := h
  have e : (32 : Nat) ^ (d + 1 + 1) = 32 ^ (d + 1) * 32 := Nat.pow_succ _ _
  have hM := pos32 (d + 1)
  have hlt : o < 32 ^ (d + 1 + 1) := by
    rcases Nat.lt_or_ge o (32 ^ (d + 1 + 1)) with h | h
    · exact h
    · exfalso
      have ho : o = 32 ^ (d + 1 + 1) := by omega
      have hs : s = 0 := by omega
      subst hs
      have e2 : ((o : Int) + (0 : Nat) - 1) = ((o - 1 : Nat) : Int) := by omega
      rw [e2, slot_nat (m := o - 1) (by omega), ho, slot_top] at he
      have : (32 ^ (d + 1 + 1) - 1) / 32 ^ (d + 1) = 31 := by
        rw [e]
        have : 32 ^ (d + 1) * 32 - 1 = 32 ^ (d + 1) * 31 + (32 ^ (d + 1) - 1) := by omega
        rw [this, Nat.mul_add_div hM, Nat.div_eq_of_lt (by omega)]
      omega
  rw [slot_nat hlt] at he ⊢
  generalize hi : o / 32 ^ (d + 1) = i at *
  obtain ⟨g1, g2⟩ := div_same hM hi
  have hz : zs.length ≠ 0 := fun h => h7 (List.eq_nil_of_length_eq_zero h)
  have hi7 : 6 ≤ d → i = 0 := fun h6' => by
    have := h4 (by omega)
    obtain rfl : d = 6 := by omega
    have e7 : (32 : Nat) ^ (6 + 1) = 34359738368 := by decide
    rcases Nat.eq_zero_or_pos i with h | h
    · exact h
    · exfalso
      have : 1 * 32 ^ (6 + 1) ≤ i * 32 ^ (6 + 1) := Nat.mul_le_mul_right _ h
      omega
  have key : ∃ hq : i * 32 ^ (d + 1) ≤ q, q + zs.length ≤ i * 32 ^ (d + 1) + 32 ^ (d + 1) ∧ o + s ≤ i * 32 ^ (d + 1) + 32 ^ (d + 1) ∧ (1 ≤ s ∨ i * 32 ^ (d + 1) < o) := by
    rcases Nat.eq_zero_or_pos s with hs | hs
    · subst hs
      obtain ⟨hl, hq⟩ := h9 rfl
      rcases Nat.eq_zero_or_pos o with ho | ho
      · exfalso
        subst ho
        have e2 : (((0 : Nat) : Int) + (0 : Nat) - 1) = -1 := by omega
        rw [e2, slot_neg] at he
        rw [Nat.zero_div] at hi
        omega
      · have e2 : ((o : Int) + (0 : Nat) - 1) = ((o - 1 : Nat) : Int) := by omega
        rw [e2, slot_nat (by omega)] at he
        obtain ⟨g3, g4⟩ := div_same hM he.symm
        exact ⟨by omega, by omega, by omega, .inr (by omega)⟩
    · obtain ⟨rfl, rfl⟩ := h8 hs
      have e2 : ((q : Int) + s - 1) = ((q + s - 1 : Nat) : Int) := by omega
      rw [e2, slot_nat (by omega)] at he
      obtain ⟨g3, g4⟩ := div_same hM he.symm
      exact ⟨g1, by omega, by omega, .inl hs⟩
  obtain ⟨k1, k2, k3, k4⟩ := key
  refine ⟨g1, k1, h1, by omega, by omega, fun h6' => ?_, ?_, by omega, h7, fun hs => ?_, fun hs => ?_, h10⟩
  · have := h4 (by omega)
    omega
  · rcases k4 with h | h
    · exact .inr (.inl h)
    · exact .inl (by omega)
  · obtain ⟨a1, a2⟩ := h8 hs
    exact ⟨by omega, a2⟩
  · obtain ⟨a1, a2⟩ := h9 hs
    exact ⟨a1, by omega⟩

/-- the loop is left: the depth is as it should be -/
theorem slice_stop {n s : Nat} {ys : List Int} {d o q : Nat} {zs : List Int} (h : SliceInv n s ys d o q zs) (hn : n < 33554432) (he : d ≤ 1 ∨ slot (o : Int) d ≠ slot ((o : Int) + s - 1) d) : Dep n d o s := by
  obtain ⟨h1, h2, h3, h4, h5, h6, h7, h8, h9, h10⟩ := h
  refine ⟨h1, h2, h3, fun h6' => ⟨?_, by have := h4 h6'; omega⟩⟩
  rcases he with he | he
  · omega
  · have hM := pos32 d
    have h32 : 33554432 ≤ 32 ^ d := by
      have : (32 : Nat) ^ 5 ≤ 32 ^ d := Nat.pow_le_pow_right (by decide) (by omega)
      have e5 : (32 : Nat) ^ 5 = 33554432 := by decide
      omega
    have e : (32 : Nat) ^ (d + 1) = 32 ^ d * 32 := Nat.pow_succ _ _
    rcases Nat.eq_zero_or_pos s with hs | hs
    · subst hs
      have ho : 1 ≤ o := by omega
      have e2 : ((o : Int) + (0 : Nat) - 1) = ((o - 1 : Nat) : Int) := by omega
      rcases Nat.lt_or_ge o (32 ^ d) with hlt | hge
      · exfalso
        apply he
        rw [e2, slot_nat (m := o - 1) (by omega), slot_nat (by omega), Nat.div_eq_of_lt (by omega), Nat.div_eq_of_lt (by omega)]
      · omega
    · rcases Nat.lt_or_ge (o + s) (32 ^ d + 1) with hlt | hge
      · exfalso
        apply he
        have e2 : ((o : Int) + s - 1) = ((o + s - 1 : Nat) : Int) := by omega
        rw [e2, slot_nat (m := o + s - 1) (by omega), slot_nat (by omega), Nat.div_eq_of_lt (by omega), Nat.div_eq_of_lt (by omega)]
      · omega

theorem pow_two {i d : Nat} : (i : Int) * 2 ^ (d * 5) = ((i * 32 ^ d : Nat) : Int) := by rw [pow25, Int.natCast_mul, cast32]

/-- the wanted items stand in the tree -/
theorem slice_node {n s : Nat} {ys : List Int} {d o q : Nat} {zs : List Int} {w : World} {v : Value} (h : SliceInv n s ys d o q zs) (hn : Node Any w d v (win q zs)) : Node Any w d v (win o ys) := by
  obtain ⟨h1, h2, h3, h4, h5, h6, h7, h8, h9, h10⟩ := h
  rcases Nat.eq_zero_or_pos s with hs | hs
  · have hy : ys = [] := List.eq_nil_of_length_eq_zero (h10.trans hs)
    subst hy
    refine Node.mono _ _ _ _ hn fun j y _ hy => ?_
    unfold win at hy
    split at hy <;> simp at hy
  · obtain ⟨rfl, rfl⟩ := h8 hs
    exact hn

/-- the one child in which all lies -/
theorem slice_child {n s : Nat} {ys : List Int} {d o q : Nat} {zs : List Int} {w : World} {p : Nat} (h : SliceInv n s ys (d + 1) o q zs) (hn : n < 33554432) (he : slot (o : Int) (d + 1) = slot ((o : Int) + s - 1) (d + 1))
    (hd : Node Any w (d + 1) (.iface 122 (.pointer (some ⟨p, 0, none⟩))) (win q zs)) :
    ∃ (arr : Array Value) (c : Nat), w.heap[p]? = some (.cells arr 125 (0, 0)) ∧ arr.size = 33 ∧ arr[1 + slot (o : Int) (d + 1)]? = some (.iface (ty d) (.pointer (some ⟨c, 0, none⟩))) ∧
      Node Any w d (.iface (ty d) (.pointer (some ⟨c, 0, none⟩))) (win (q - slot (o : Int) (d + 1) * 32 ^ (d + 1)) zs) := by
  obtain ⟨-, k1, k2⟩ := slice_step h hn he
  have hlt := slot_lt (o : Int) (d + 1)
  generalize slot (o : Int) (d + 1) = i at *
  obtain ⟨b, arr, g1, g2, g3, g4, g5, g6⟩ := hd
  simp only [Value.iface.injEq, Value.pointer.injEq, Option.some.injEq, Addr.mk.injEq, true_and, and_true] at g1
  subst g1
  obtain ⟨c, hc, g7⟩ := g5 i hlt
  obtain ⟨-, -, -, -, -, h6, h7, -, -, -⟩ := k2
  have hz : 0 < zs.length := by
    rcases Nat.eq_zero_or_pos zs.length with h | h
    · exact absurd (List.eq_nil_of_length_eq_zero h) h7
    · exact h
  have hfun : ∀ j, win q zs (i * 32 ^ (d + 1) + j) = win (q - i * 32 ^ (d + 1)) zs j := fun j => by
    have e : q = i * 32 ^ (d + 1) + (q - i * 32 ^ (d + 1)) := by omega
    have := win_shift (o := q - i * 32 ^ (d + 1)) (m := i * 32 ^ (d + 1)) (xs := zs) j
    rw [← e] at this
    exact this
  rcases g7 with ⟨rfl, g7⟩ | g7
  · exfalso
    have h1 := g7 (q - i * 32 ^ (d + 1)) (by omega)
    rw [hfun] at h1
    unfold win at h1
    rw [if_pos (Nat.le_refl _), Nat.sub_self, List.getElem?_eq_getElem hz] at h1
    cases h1
  · obtain ⟨r, rfl⟩ := g7.ptr
    refine ⟨arr, r, g2, g3, hc, Node.mono _ _ _ _ g7 fun j y _ hy => ?_⟩
    rw [hfun]; exact hy

end Go.Proofs.Ytnahipfdnadccaa

namespace Go.Proofs.Ytnahipfdnadccaa
open Go.RowKit

/-- the world at the loop's head: the new head, its tree, where the slice stands -/
def SliceW (w0 : World) (n s : Nat) (ys : List Int) (d : Nat) (w : World) : Prop :=
  ∃ (o q : Nat) (zs : List Int) (p : Nat), w.heap[w0.heap.size]? = some (.cells #[.iface (ty d) (.pointer (some ⟨p, 0, none⟩)), .int .i64 (o : Int), .int .i64 (s : Int)] 113 (0, 0)) ∧
    Node Any w d (.iface (ty d) (.pointer (some ⟨p, 0, none⟩))) (win q zs) ∧ SliceInv n s ys d o q zs ∧ Below w0.heap.size w0 w

/-- the world behind the loop -/
def SliceE (w0 : World) (n s : Nat) (ys : List Int) (w : World) : Prop :=
  ∃ (d o p : Nat), w.heap[w0.heap.size]? = some (.cells #[.iface (ty d) (.pointer (some ⟨p, 0, none⟩)), .int .i64 (o : Int), .int .i64 (s : Int)] 113 (0, 0)) ∧
    Node Any w d (.iface (ty d) (.pointer (some ⟨p, 0, none⟩))) (win o ys) ∧ Dep n d o s ∧ ys.length = s ∧ Below w0.heap.size w0 w

/-- what is asked of the slice's tree outlives the two deletes -/
theorem slice_keeps {n d o m : Nat} {ys : List Int} (hD : Dep n d o m) (hys : ys.length = m) {j : Nat} {y : Int} (h : win o ys j = some y) : behind ((o : Int) + m - 1) d (before (o : Int) d (win o ys)) j = some y := by
  have hle := hD.2.1
  have hj : o ≤ j ∧ j < o + m := by
    unfold win at h
    split at h
    · have : j - o < ys.length := by
        rcases Nat.lt_or_ge (j - o) ys.length with h' | h'
        · exact h'
        · rw [List.getElem?_eq_none h'] at h; cases h
      omega
    · cases h
  have e1 : ((o : Int) + m - 1) = ((o + m - 1 : Nat) : Int) := by omega
  unfold behind
  rw [e1, loc_nat _ _ (by omega), if_pos (by omega)]
  unfold before
  rw [loc_nat _ _ (by omega), if_pos (by omega)]
  exact h

theorem SliceE.drewn {w0 : World} {n s : Nat} {ys : List Int} {w : World} (h : SliceE w0 n s ys w) : SliceE w0 n s ys w.drew := by
  obtain ⟨d, o, p, h1, h2, h3, h4, h5⟩ := h
  exact ⟨d, o, p, h1, Node.drewn h2, h3, h4, h5.drew⟩

set_option maxRecDepth 100000 in
theorem run_assert122 (p' : Nat) (W : World) : Sem.run Try.prog (Instr.typeAssert (Value.iface 122 (Value.pointer (some { block := p', off := 0 }))) 100 122 false) W = .ok (Value.pointer (some { block := p', off := 0 })) W := by kernel_rfl

set_option maxRecDepth 100000 in
set_option maxHeartbeats 1600000 in
theorem slice_w (b d p t o s x e n : Nat) (ys zs : List Int) (q : Nat) (w : World) (hx : x ≤ e) (he : e ≤ s) (hne : ¬ (x = 0 ∧ e = s)) (ho : o + s ≤ 1152921504606846976) (ht : t = ty d) (hn : n < 33554432) (hG : Glob w)
    (hblk : w.heap[b]? = some (.cells #[.iface t (.pointer (some ⟨p, 0, none⟩)), .int .i64 (o : Int), .int .i64 (s : Int)] 113 (0, 0)))
    (hnode : Node Any w d (.iface (ty d) (.pointer (some ⟨p, 0, none⟩))) (win q zs)) (hinv : SliceInv n (e - x) ys d (o + x) q zs) :
    Calls Try.prog 69 #[.pointer (some ⟨b, 0, none⟩), .int .i64 (x : Int), .int .i64 (e : Int), .bool false] w (ListPost w n ys) := by
  obtain ⟨hc0, hc1, hc2⟩ := head_cells hblk
  have hx1 : decide ((s : Int) < (x : Int)) = false := by simp; omega
  have hx2 : decide ((s : Int) < (e : Int)) = false := by simp; omega
  have hx3 : decide ((e : Int) < (x : Int)) = false := by simp; omega
  have HT := Lib.hid ht; clear ht
  have HI := Lib.hid hinv; clear hinv
  have HN0 := Lib.hid hnode; clear hnode
  have HG := Lib.hid hG; clear hG
  go_enter Try.func69, Try.ntmps69
  go_upto_region 7 with (fail)
  go_cut [47] from 38 to 46 (fun v wc => v = .bool false ∧ w = wc)
  case first =>
    by_cases hx0 : x = 0
    · have h1 : ((x : Int) == 0) = true := by simp; omega
      have h2 : ((e : Int) == (s : Int)) = false := by simp; omega
      go_wp2_with fail
      go_meet
      case rel => exact ⟨rfl, rfl⟩
    · have h1 : ((x : Int) == 0) = false := by simp; omega
      go_wp2_with fail
      go_meet
      case rel => exact ⟨rfl, rfl⟩
  case rest =>
    obtain ⟨rfl, rfl⟩ := hcut
    have hca : ∀ O, (w.alloc O).cell? ⟨b, 1, none⟩ = some (.int .i64 (o : Int)) := fun O => (((Below.refl w.heap.size w).alloc (Nat.le_refl _) O).cell (p := ⟨b, 1, none⟩) (lt_of_block hblk)).trans hc1
    go_upto_block 0 with (go_at_call 70; refine (clone_w b t p o s _ hblk).mono ?_; rintro e w' ⟨rfl, rfl⟩)
    have hZ : Hid ((w.alloc (Obj.cells #[.iface t (.pointer (some ⟨p, 0, none⟩)), .int .i64 ((o : Int) + x), .int .i64 ((e : Int) - x)] 113)).heap[w.heap.size]? = some (.cells #[.iface t (.pointer (some ⟨p, 0, none⟩)), .int .i64 ((o : Int) + x), .int .i64 ((e : Int) - x)] 113 (0, 0))) := heap_alloc_last w _
    have hB : Hid (Below w.heap.size w (w.alloc (Obj.cells #[.iface t (.pointer (some ⟨p, 0, none⟩)), .int .i64 ((o : Int) + x), .int .i64 ((e : Int) - x)] 113))) := (Below.refl _ _).alloc (Nat.le_refl _) _
    generalize hW : w.alloc (Obj.cells #[.iface t (.pointer (some ⟨p, 0, none⟩)), .int .i64 ((o : Int) + x), .int .i64 ((e : Int) - x)] 113) = W at hZ hB ⊢
    have hS : Hid (SliceW w n (e - x) ys d W) := by
      refine ⟨o + x, q, zs, p, ?_, Node.stay (Stay.of_below hB.out) _ _ _ HN0.out, HI.out, hB.out⟩
      rw [hZ.out, HT.out]
      have e1 : ((o : Int) + x) = ((o + x : Nat) : Int) := by omega
      have e2 : ((e : Int) - x) = ((e - x : Nat) : Int) := by omega
      rw [e1, e2]
    have HM : Hid (e - x ≤ s) := by show _ ≤ _; omega
    generalize e - x = m at hS HM ⊢
    clear hW hblk hca hc0 hc1 hc2 hZ hB HT HI HN0 hx1 hx2 hx3
    go_cut [] from 10 to 135 (fun wd => SliceE w n m ys wd)
    case first =>
      go_wp2_with fail
      go_loopg [] d (fun k wr => SliceW w n m ys k wr)
      case atStart => exact hS.out
      case round =>
        clear hS W HG
        obtain ⟨o', q', zs', p', hL, hn', hI, hb⟩ := hrel
        have HI := Lib.hid hI
        have HB := Lib.hid hb
        have hon := hI.2.1
        have hon2 := pow_le8 hI.2.2.1
        have hgk := hI.2.2.1
        clear hI hb
        by_cases hg : gk ≤ 1
        · have hdep := Lib.hid (depth_any hn')
          obtain ⟨h1, h2, h3⟩ := disp_ty disp_depth0 disp_depth1 gk
          have HE : Hid (SliceE w n m ys wr) := by
            exact ⟨gk, o', p', hL, slice_node HI.out hn', slice_stop HI.out hn (.inl hg), HI.out.2.2.2.2.2.2.2.2.2, HB.out⟩
          generalize ty gk = t' at *
          generalize fn 91 101 gk = f' at *
          obtain ⟨hd0, hd1, hd2⟩ := head_cells hL
          have hlt : decide ((1 : Int) < (gk : Int)) = false := by simp; omega
          clear hL hn'
          go_wp2_with fail
          refine hdep.out.mono ?_
          rintro e' w' ⟨rfl, rfl⟩
          go_wp2_with fail
          go_meet
          case rel => exact HE.out
        · obtain ⟨D, rfl⟩ : ∃ D, gk = D + 1 := ⟨gk - 1, by omega⟩
          obtain ⟨h1, h2, h3⟩ := disp_depth1
          obtain ⟨hd0, hd1, hd2⟩ := head_cells hL
          have hty : ty (D + 1) = 122 := rfl
          rw [hty] at hL hd0 hn'
          have hf0 := head_free hL 0
          have hf1 := head_free hL 1
          obtain ⟨arr, a1, a2, a3, a4, a5⟩ : ∃ arr : Array Value, wr.heap[p']? = some (.cells arr 125 (0, 0)) ∧ arr[0]? = some (.int .u64 ((D : Int) + 1)) ∧ True ∧ True ∧ True := by
            obtain ⟨b', arr, g1, g2, g3, g4, g5, g6⟩ := hn'
            simp only [Value.iface.injEq, Value.pointer.injEq, Option.some.injEq, Addr.mk.injEq, true_and, and_true] at g1
            subst g1
            exact ⟨arr, g2, g4, trivial, trivial, trivial⟩
          have hpd := Lib.hid (cell_at a1 a2)
          have hgt : decide ((1 : Int) < (D : Int) + 1) = true := by simp; omega
          have hcd : ∀ W : World, W.cell? ⟨p', 0, none⟩ = some (.int .u64 ((D : Int) + 1)) → Hid (Calls Try.prog 101 #[.pointer (some ⟨p', 0, none⟩)] W fun e w'' => e = .returned (.int .u64 ((D : Int) + 1)) ∧ w'' = W) := fun W h => (depth_w1 p' _ W h).mono fun e w'' h => ⟨h.1, h.2.symm⟩
          have HCD := Lib.hid hcd; clear hcd
          go_wp2_with fail
          refine (depth_w1 p' _ wr hpd.out).mono ?_
          rintro e' w' ⟨rfl, rfl⟩
          go_wp2_with fail
          have hw5 : IntKind.u64.wrap (((D : Int) + 1) * 5) = ((D : Int) + 1) * 5 := by rw [IntKind.wrap_u64]; omega
          have hw5a : 0 ≤ ((D : Int) + 1) * 5 := by omega
          have hw5b : ((D : Int) + 1) * 5 ≤ 64 := by omega
          have hw5c : (((D : Int) + 1) * 5).toNat = (D + 1) * 5 := by omega
          have hsl1 := slot_eq (o' : Int) (D + 1)
          have hsl2 := slot_eq ((o' : Int) + m - 1) (D + 1)
          have hw6 : IntKind.i64.wrap ((o' : Int) + m) = (o' : Int) + m := by rw [IntKind.wrap_i64]; omega
          have hw7 : IntKind.i64.wrap ((o' : Int) + m - 1) = (o' : Int) + m - 1 := by rw [IntKind.wrap_i64]; omega
          by_cases hij : slot (o' : Int) (D + 1) = slot ((o' : Int) + m - 1) (D + 1)
          · obtain ⟨arr', c, r1, r2, r3, r4⟩ := slice_child HI.out hn hij hn'
            have HS := Lib.hid (slice_step HI.out hn hij)
            have HJ := Lib.hid hij
            rw [← hij] at hsl2
            clear hij
            generalize hi : slot (o' : Int) (D + 1) = i at hsl1 hsl2 r3
            have HIi := Lib.hid hi
            clear hi
            have hnn : ((i : Int) != (i : Int)) = false := by simp
            refine region_still (by kernel_rfl) (by kernel_rfl) ?_
            repeat still_step
            still_call ((HCD.out wr.drew hpd.out).out)
            repeat still_step
            refine wpStill_nil ?_
            go_wp2_with fail
            refine region_still (by kernel_rfl) (by kernel_rfl) ?_
            repeat still_step
            still_call ((HCD.out wr.drew.drew hpd.out).out)
            repeat still_step
            refine wpStill_nil ?_
            go_wp2_with fail
            have hM := HS.out.1
            rw [HIi.out] at hM
            have hMM := Lib.hid (show i * 32 ^ (D + 1) = i * 32 ^ (D + 1) from rfl)
            have hsh := pow_two (i := i) (d := D + 1)
            generalize hMdef : i * 32 ^ (D + 1) = M at hM hsh
            have HMdef := Lib.hid hMdef
            clear hMdef hMM hsl1 hsl2
            have hwM : IntKind.i64.wrap (M : Int) = (M : Int) := by rw [IntKind.wrap_i64]; omega
            have hwS : IntKind.i64.wrap ((o' : Int) - M) = (o' : Int) - M := by rw [IntKind.wrap_i64]; omega
            refine region_tail 15 (by kernel_rfl) (by kernel_rfl) ?_
            simp only [List.take_succ_cons, List.take_zero, List.drop_succ_cons, List.drop_zero]
            repeat still_step
            still_call ((HCD.out wr.drew.drew.drew hpd.out).out)
            repeat still_step
            refine wpStill_nil ?_
            have hpne : ¬ p' = w.heap.size := by
              intro e1
              rw [e1, hL] at r1
              simp only [Option.some.injEq, Obj.cells.injEq] at r1
              exact absurd r1.2.1 (by decide)
            have hpne2 : ¬ w.heap.size = p' := fun e1 => hpne e1.symm
            have hkid := cell_at r1 r3
            clear hw5 hw5a hw5b hw5c hw6 hw7 hsh hwM hwS
            go_wp2_with fail
            rw [run_assert122]
            have hS1 := head_set1 hL (.int .i64 ((o' : Int) - M))
            have hk1 : (wr.setCell ⟨w.heap.size, 1, none⟩ (.int .i64 ((o' : Int) - M))).heap[p']? = some (.cells arr' 125 (0, 0)) := by
              rw [heap_setCell_other _ _ _ _ (by show p' ≠ w.heap.size; exact hpne)]; exact r1
            have hkid' := cell_at hk1 r3
            have HN1 := Lib.hid (node_head (j := 1) (u := .int .i64 ((o' : Int) - M)) hL r4)
            have HB1 := Lib.hid (HB.out.setCell (p := ⟨w.heap.size, 1, none⟩) (Nat.le_refl _) (.int .i64 ((o' : Int) - M)))
            generalize hV : wr.setCell ⟨w.heap.size, 1, none⟩ (.int .i64 ((o' : Int) - M)) = V at hS1 hkid' HN1 HB1 ⊢
            have HS1 := Lib.hid hS1
            clear hV hS1 hk1 r1 r4 r3 hL hd0 hd1 hd2 hkid hf0 hf1 hpd HCD
            obtain ⟨hd0, hd1, hd2⟩ := head_cells HS1.out
            have hf0 := head_free HS1.out 0
            have hi32 : i < 32 := by have := slot_lt (o' : Int) (D + 1); rw [HIi.out] at this; exact this
            generalize htd : ty D = td at hkid' HN1
            have HTD := Lib.hid htd
            clear htd
            go_wp2_with fail
            go_roundg D
            case measure => omega
            case rel =>
              obtain ⟨k1, k2, k3⟩ := HS.out
              rw [HIi.out, HMdef.out] at k1 k2 k3
              have e1 : ((o' : Int) - M) = ((o' - M : Nat) : Int) := by omega
              refine ⟨o' - M, q' - M, zs', c, ?_, ?_, k3, ?_⟩
              · have := head_set0 HS1.out (Value.iface td (Value.pointer (some { block := c, off := 0 })))
                rw [HTD.out, ← e1]
                exact this
              · have := node_head (j := 0) (u := Value.iface td (Value.pointer (some { block := c, off := 0 }))) HS1.out HN1.out
                rw [HIi.out, HMdef.out] at this
                rw [HTD.out]
                exact Node.drewn (Node.drewn (Node.drewn this))
              · exact ((HB1.out.setCell (p := ⟨w.heap.size, 0, none⟩) (Nat.le_refl _) (Value.iface td (Value.pointer (some { block := c, off := 0 })))).drew).drew.drew
          · have HE : Hid (SliceE w n m ys wr) := ⟨D + 1, o', p', hL, slice_node HI.out hn', slice_stop HI.out hn (.inr hij), HI.out.2.2.2.2.2.2.2.2.2, HB.out⟩
            have hnn : ((slot (o' : Int) (D + 1) : Int) != (slot ((o' : Int) + m - 1) (D + 1) : Int)) = true := by simp; omega
            clear hij
            generalize slot (o' : Int) (D + 1) = i at hsl1 hnn
            generalize slot ((o' : Int) + m - 1) (D + 1) = j at hsl2 hnn
            refine region_still (by kernel_rfl) (by kernel_rfl) ?_
            repeat still_step
            still_call ((HCD.out wr.drew hpd.out).out)
            repeat still_step
            refine wpStill_nil ?_
            go_wp2_with fail
            refine region_still (by kernel_rfl) (by kernel_rfl) ?_
            repeat still_step
            still_call ((HCD.out wr.drew.drew hpd.out).out)
            repeat still_step
            refine wpStill_nil ?_
            go_wp2_with fail
            go_meet
            case rel => exact HE.out.drewn.drewn
    case rest =>
      obtain ⟨d', o', p', hL, hn', hD, hys, hb⟩ := hcut
      have HDep := Lib.hid hD
      have HB := Lib.hid hb
      have HYS := Lib.hid hys
      have hon := hD.2.1
      have hd7 := hD.2.2.1
      have hon2 := pow_le8 hd7
      clear hD hb hys hS W
      have HN := Lib.hid hn'
      clear hn'
      have HT := Lib.hid (disp_ty disp_deleteBefore0 disp_deleteBefore1 d')
      have HT2 := Lib.hid (disp_ty disp_deleteAfter0 disp_deleteAfter1 d')
      have HL := Lib.hid hL
      have HDB : ∀ (V : World) (S : Nat → Prop) (r : Nat) (f : Nat → Option Int), Glob V → Node S V d' (.iface (ty d') (.pointer (some ⟨r, 0, none⟩))) f → Hid (Calls Try.prog (fn 90 100 d') #[.pointer (some ⟨r, 0, none⟩), .int .i64 (o' : Int), .bool false] V (DelPost S V d' (before (o' : Int) d' f))) := fun V S r f hg h => db_any (o' : Int) d' S V r f hg (by omega) h
      have HDA : ∀ (V : World) (S : Nat → Prop) (r : Nat) (f : Nat → Option Int), Node S V d' (.iface (ty d') (.pointer (some ⟨r, 0, none⟩))) f → Hid (Calls Try.prog (fn 89 99 d') #[.pointer (some ⟨r, 0, none⟩), .int .i64 ((o' : Int) + m - 1), .bool false] V (DelPost S V d' (behind ((o' : Int) + m - 1) d' f))) := fun V S r f h => da_any ((o' : Int) + m - 1) d' S V r f (by omega) h
      have HDB' := Lib.hid HDB
      have HDA' := Lib.hid HDA
      clear HDB HDA
      generalize hty : ty d' = t' at hL HL HN HT HT2 HDB' HDA'
      have HTY := Lib.hid hty
      clear hty
      generalize fn 90 100 d' = f1 at HT HDB'
      generalize fn 89 99 d' = f2 at HT2 HDA'
      obtain ⟨hd0, hd1, hd2⟩ := head_cells hL
      clear hL
      obtain ⟨h1, h2, h3⟩ := HT.out
      go_wp2_with fail
      have HC1 : Hid (Calls Try.prog f1 #[.pointer (some ⟨p', 0, none⟩), .int .i64 (o' : Int), .bool false] wc.drew (DelPost Any wc.drew d' (before (o' : Int) d' (win o' ys)))) := (HDB'.out wc.drew Any p' _ (HG.out.stay (Stay.of_below HB.out.drew)) (Node.drewn HN.out)).out
      refine region_fix [0] [1, 2, 3, 4, 5, 6, 7, 8, 9, 10, 11] [12, 13, 14, 15] (by kernel_rfl) (by intro dst v c a w h; cases dst <;> exact h) (by kernel_rfl) ?_
      simp only [opsOf, List.getElem?_toArray, List.getElem?_cons_succ, List.getElem?_cons_zero]
      refine wpPure_step ?_ rfl (fun W => ?_) ?_; rotate_left 1; · go_simp; try with_reducible rfl
      refine wpPure_nil ?_
      repeat still_step
      refine wpStill_nil ?_
      go_wp2_with fail
      refine HC1.out.mono ?_
      rintro e1 w1 ⟨v1, rfl, hn1, hb1⟩
      obtain ⟨r1, hr1⟩ := hn1.ptr
      rw [HTY.out] at hr1
      subst hr1
      have hz1 := after_cell HL hb1
      have hc0 := cell_at (j := 0) hz1 rfl
      have hf0 := head_free hz1 0
      have HN1 := Lib.hid hn1
      have HB1 := Lib.hid (HB.out.drew.trans (hb1.mono HB.out.size))
      have HZ1 := Lib.hid hz1
      clear hn1 hb1 hz1 hd0 hd1 hd2 HL HN HB HC1
      go_wp2_with fail
      have hU1 := head_set0 HZ1.out (.iface t' (.pointer (some ⟨r1, 0, none⟩)))
      have HU2 := Lib.hid (HB1.out.setCell (p := ⟨w.heap.size, 0, none⟩) (Nat.le_refl _) (.iface t' (.pointer (some ⟨r1, 0, none⟩))))
      have HU3 := Lib.hid (node_head (j := 0) (u := .iface t' (.pointer (some ⟨r1, 0, none⟩))) HZ1.out HN1.out)
      generalize hU : w1.setCell ⟨w.heap.size, 0, none⟩ (.iface t' (.pointer (some ⟨r1, 0, none⟩))) = U at hU1 HU2 HU3 ⊢
      have HU1 := Lib.hid hU1
      clear hU hc0 hf0 HZ1 HB1 HN1
      obtain ⟨hd0, hd1, hd2⟩ := head_cells hU1
      clear hU1
      have hw6 : IntKind.i64.wrap ((o' : Int) + m) = (o' : Int) + m := by rw [IntKind.wrap_i64]; omega
      have hw7 : IntKind.i64.wrap ((o' : Int) + m - 1) = (o' : Int) + m - 1 := by rw [IntKind.wrap_i64]; omega
      clear h1 h2 h3
      obtain ⟨h1, h2, h3⟩ := HT2.out
      have HC2 : Hid (Calls Try.prog f2 #[.pointer (some ⟨r1, 0, none⟩), .int .i64 ((o' : Int) + m - 1), .bool false] U.drew (DelPost (New Any wc.drew) U.drew d' (behind ((o' : Int) + m - 1) d' (before (o' : Int) d' (win o' ys))))) := (HDA'.out U.drew _ r1 _ (Node.drewn HU3.out)).out
      refine region_fix [0] [1, 2, 3, 4, 5, 6, 7, 8, 9, 10, 11, 12, 13, 14, 15, 16, 17] [18, 19, 20, 21] (by kernel_rfl) (by intro dst v c a w h; cases dst <;> exact h) (by kernel_rfl) ?_
      simp only [opsOf, List.getElem?_toArray, List.getElem?_cons_succ, List.getElem?_cons_zero]
      refine wpPure_step ?_ rfl (fun W => ?_) ?_; rotate_left 1; · go_simp; try with_reducible rfl
      refine wpPure_nil ?_
      repeat still_step
      refine wpStill_nil ?_
      go_wp2_with fail
      refine HC2.out.mono ?_
      rintro e1 w2 ⟨v1, rfl, hn1, hb1⟩
      obtain ⟨r2, hr1⟩ := hn1.ptr
      rw [HTY.out] at hr1
      subst hr1
      have hz1 := after_cell HU1 hb1
      have hc0 := cell_at (j := 0) hz1 rfl
      have hf0 := head_free hz1 0
      have HN1 := Lib.hid hn1
      have HB1 := Lib.hid hb1
      have HZ1 := Lib.hid hz1
      clear hn1 hb1 hz1 hd0 hd1 hd2 HU1 HU3 HC2 hw6 hw7
      go_wp2_with fail
      go_ret
      have HH : HeadPost w d' (o' : Int) (m : Int) (behind ((o' : Int) + m - 1) d' (before (o' : Int) d' (win o' ys))) (.returned (.pointer (some ⟨w.heap.size, 0, none⟩))) (w2.setCell ⟨w.heap.size, 0, none⟩ (.iface (ty d') (.pointer (some ⟨r2, 0, none⟩)))) :=
        head_end rfl rfl (Nat.le_refl _) HU2.out HZ1.out (by rw [HTY.out]; exact HN1.out) HB1.out
      rw [HTY.out] at HH
      refine HH.list (xs := ys) (fun j y hy => slice_keeps (n := n) HDep.out HYS.out hy) (by rw [HYS.out]) (by rw [HYS.out]; exact HDep.out)

end Go.Proofs.Ytnahipfdnadccaa

namespace Go.Proofs.Ytnahipfdnadccaa
open Go.RowKit

set_option maxRecDepth 100000 in
set_option maxHeartbeats 400000 in
theorem slice_whole_w (b : Nat) (s : Nat) (w : World) (hc2 : w.cell? ⟨b, 2, none⟩ = some (.int .i64 (s : Int))) :
    Calls Try.prog 69 #[.pointer (some ⟨b, 0, none⟩), .int .i64 0, .int .i64 (s : Int), .bool false] w fun e w' => e = .returned (.pointer (some ⟨b, 0, none⟩)) ∧ w' = w := by
  have h1 : decide ((s : Int) < 0) = false := by simp
  have h2 : decide ((s : Int) < (s : Int)) = false := by simp
  have h3 : ((s : Int) == (s : Int)) = true := by simp
  go_enter Try.func69, Try.ntmps69
  go_wp2_with fail
  go_ret
  exact ⟨rfl, rfl⟩

theorem win_sub {o k m j : Nat} {xs : List Int} {y : Int} (h : win (o + k) ((xs.drop k).take m) j = some y) : win o xs j = some y := by
  unfold win at *
  split at h
  · rename_i hj
    rw [if_pos (by omega)]
    rw [List.getElem?_take] at h
    split at h
    · rw [List.getElem?_drop] at h
      have e : k + (j - (o + k)) = j - o := by omega
      rw [e] at h
      exact h
    · cases h
  · cases h

theorem slice_start {n d o a b : Nat} {xs : List Int} (hD : Dep n d o xs.length) (hab : a ≤ b) (hb : b ≤ xs.length) (hne : ¬ (a = 0 ∧ b = xs.length)) (hn : n < 33554432) :
    ∃ k m, SliceInv n (b - a) ((xs.drop a).take (b - a)) d (o + a) (o + k) ((xs.drop k).take m) := by
  obtain ⟨h1, h2, h3, h4⟩ := hD
  have key : ∀ k m, k + m ≤ xs.length → 1 ≤ m → (1 ≤ b - a → k = a ∧ m = b - a) → (b - a = 0 → m = 1 ∧ (k = a ∨ k + 1 = a)) → SliceInv n (b - a) ((xs.drop a).take (b - a)) d (o + a) (o + k) ((xs.drop k).take m) := by
    intro k m hk hm g1 g2
    have hl : ((xs.drop k).take m).length = m := by simp; omega
    refine ⟨by omega, by omega, h3, fun h6 => by have := h4 h6; omega, ?_, by omega, ?_, ?_, ?_, by simp; omega⟩
    · rcases Nat.lt_or_ge d 6 with h | h
      · exact .inr (.inr h)
      · have := h4 h
        exact .inl (by omega)
    · intro e
      rw [e] at hl
      simp at hl
      omega
    · intro hs
      obtain ⟨rfl, rfl⟩ := g1 hs
      exact ⟨rfl, rfl⟩
    · intro hs
      obtain ⟨e1, e2⟩ := g2 hs
      exact ⟨by omega, by omega⟩
  rcases Nat.eq_zero_or_pos (b - a) with h | h
  · rcases Nat.lt_or_ge a xs.length with hl | hl
    · exact ⟨a, 1, key a 1 (by omega) (by omega) (by omega) (by omega)⟩
    · exact ⟨a - 1, 1, key (a - 1) 1 (by omega) (by omega) (by omega) (by omega)⟩
  · exact ⟨a, b - a, key a (b - a) (by omega) (by omega) (by omega) (by omega)⟩

/-- what a list's slice answers -/
theorem slice_list {w : World} {v : Value} {n a b : Nat} {xs : List Int} (h : IsList w v n xs) (hab : a ≤ b) (hb : b ≤ xs.length) (hn : n < 33554432) (hG : Glob w) :
    Calls Try.prog 60 #[v, .int .i64 (a : Int), .int .i64 (b : Int)] w (ListPost w n ((xs.drop a).take (b - a))) := by
  obtain ⟨p, d, o, rfl, r, hblk, hnode, hD⟩ := h
  by_cases hne : a = 0 ∧ b = xs.length
  · obtain ⟨rfl, rfl⟩ := hne
    obtain ⟨hc0, hc1, hc2⟩ := head_cells hblk
    refine Slice_w _ _ _ _ _ ((slice_whole_w p _ w hc2).mono ?_) (fun e w' h => .inl ⟨_, h.choose_spec.1⟩)
    rintro e w' ⟨rfl, rfl⟩
    have e1 : (xs.drop 0).take (xs.length - 0) = xs := by simp
    rw [e1]
    exact ⟨_, rfl, ⟨p, d, o, rfl, r, hblk, hnode, hD⟩, Below.refl _ _⟩
  · obtain ⟨k, m, hI⟩ := slice_start hD hab hb hne hn
    have h1 := hD.2.1
    have h2 := pow_le8 hD.2.2.1
    refine Slice_w _ _ _ _ _ (slice_w p d r (ty d) o xs.length a b n _ _ (o + k) w hab hb hne (by omega) rfl hn hG hblk ?_ hI) (fun e w' h => .inl ⟨_, h.choose_spec.1⟩)
    exact Node.mono _ _ _ _ hnode fun j y _ hy => win_sub hy

end Go.Proofs.Ytnahipfdnadccaa
