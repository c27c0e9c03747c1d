/- A list in memory; the walks over its head: clone, cap, Len, Get.

The walks over a list: Set, Append (as copies). -/
import Derived.Test.YtnahipfdnadccaaBranchD
import Derived.Deep.RegionHeld3
namespace Go.Proofs.Ytnahipfdnadccaa
open Go.RowKit

theorem region_still {P : Program} {id : Nat} {Q : Exit → Act → World → Prop} {a : Act} {w : World} {l : List Oper} (hm : P.follows .mixedOrders = true) (hB : Region.lexB .any l.toArray = true)
    (h : wpStill P l.toArray w.drew (fun a' => Q .normal a' w.drew) l a) : (Code.region id l.toArray true).wp P Q a w :=
  wp_region_still_lit hm hB h

/-- how deep a list's tree may be, how far its first item may lie, behind n steps of one item each -/
def Dep (n d o s : Nat) : Prop := s ≤ n ∧ o + s ≤ 32 ^ (d + 1) ∧ d ≤ 7 ∧ (6 ≤ d → 33554432 ≤ o + n ∧ o + s ≤ 33285996544 + n)

def Any (_ : Nat) : Prop := True

/-- a list's head in block b: its tree has depth d, its first item place o -/
def ListAt (w : World) (b n d o : Nat) (xs : List Int) : Prop :=
  ∃ p, w.heap[b]? = some (.cells #[.iface (ty d) (.pointer (some ⟨p, 0, none⟩)), .int .i64 (o : Int), .int .i64 (xs.length : Int)] 113 (0, 0)) ∧
    Node Any w d (.iface (ty d) (.pointer (some ⟨p, 0, none⟩))) (win o xs) ∧ Dep n d o xs.length

/-- v is a list of the numbers xs -/
def IsList (w : World) (v : Value) (n : Nat) (xs : List Int) : Prop := ∃ b d o, v = .pointer (some ⟨b, 0, none⟩) ∧ ListAt w b n d o xs

theorem ListAt.stay {w w' : World} {b n d o : Nat} {xs : List Int} (h : ListAt w b n d o xs) (s : Stay w w') : ListAt w' b n d o xs := by
  obtain ⟨p, h1, h2, h3⟩ := h
  exact ⟨p, s b _ 113 h1 (.inr (.inr (.inl rfl))), Node.stay s _ _ _ h2, h3⟩
theorem IsList.stay {w w' : World} {v : Value} {n : Nat} {xs : List Int} (h : IsList w v n xs) (s : Stay w w') : IsList w' v n xs := by
  obtain ⟨b, d, o, h1, h2⟩ := h
  exact ⟨b, d, o, h1, h2.stay s⟩
theorem Dep.more {n m d o s : Nat} (h : Dep n d o s) (hm : n ≤ m) : Dep m d o s := ⟨by have := h.1; omega, h.2.1, h.2.2.1, fun h6 => by have := h.2.2.2 h6; omega⟩
theorem IsList.more {w : World} {v : Value} {n m : Nat} {xs : List Int} (h : IsList w v n xs) (hm : n ≤ m) : IsList w v m xs := by
  obtain ⟨b, d, o, h1, p, h2, h3, h4⟩ := h
  exact ⟨b, d, o, h1, p, h2, h3, h4.more hm⟩

/-- the cells of a list's head -/
theorem head_cells {w : World} {b : Nat} {r o s : Value} (h : w.heap[b]? = some (.cells #[r, o, s] 113 (0, 0))) :
    w.cell? ⟨b, 0, none⟩ = some r ∧ w.cell? ⟨b, 1, none⟩ = some o ∧ w.cell? ⟨b, 2, none⟩ = some s :=
  ⟨cell_at h rfl, cell_at h rfl, cell_at h rfl⟩
theorem head_free {w : World} {b : Nat} {c : Array Value} (h : w.heap[b]? = some (.cells c 113 (0, 0))) (j : Nat) : w.frozen? ⟨b, j, none⟩ = false := frozen_of_row _ _ _ _ _ h

theorem pow_cap {d : Nat} (h : d < 12) : wrap64 (2 ^ (d * 5)) = ((32 ^ d : Nat) : Int) := by
  rw [pow25, cast32]
  have h1 : (32 : Nat) ^ d ≤ 32 ^ 11 := Nat.pow_le_pow_right (by decide) (by omega)
  have h2 : (32 : Nat) ^ 11 = 36028797018963968 := by decide
  rw [← cast32]
  have h3 := pos32 d
  generalize 32 ^ d = m at *
  unfold wrap64
  omega

set_option maxRecDepth 100000 in
set_option maxHeartbeats 400000 in
theorem clone_w (b t p : Nat) (o s : Int) (w : World) (hblk : w.heap[b]? = some (.cells #[.iface t (.pointer (some ⟨p, 0, none⟩)), .int .i64 o, .int .i64 s] 113 (0, 0))) :
    Calls Try.prog 70 #[.pointer (some ⟨b, 0, none⟩)] w fun e w' => e = .returned (.pointer (some ⟨w.heap.size, 0, none⟩)) ∧ w.alloc (.cells #[.iface t (.pointer (some ⟨p, 0, none⟩)), .int .i64 o, .int .i64 s] 113) = w' := by
  obtain ⟨hc0, hc1, hc2⟩ := head_cells hblk
  go_enter Try.func70, Try.ntmps70
  go_wp2
  go_ret
  exact ⟨rfl, rfl⟩

set_option maxRecDepth 100000 in
set_option maxHeartbeats 400000 in
theorem cap_w (b t p fid d : Nat) (o s : Int) (w : World) (hd : d < 12) (hblk : w.heap[b]? = some (.cells #[.iface t (.pointer (some ⟨p, 0, none⟩)), .int .i64 o, .int .i64 s] 113 (0, 0)))
    (h0 : Disp t fid "pub-frond/pub/immutable.depth") (h4 : Calls Try.prog fid #[.pointer (some ⟨p, 0, none⟩)] w fun e w' => e = .returned (.int .u64 (d : Int)) ∧ w = w') :
    Calls Try.prog 71 #[.pointer (some ⟨b, 0, none⟩)] w fun e w' => e = .returned (.int .i64 ((32 ^ d : Nat) : Int)) ∧ w' = w := by
  obtain ⟨hc0, hc1, hc2⟩ := head_cells hblk
  obtain ⟨h1, h2, h3⟩ := h0
  have H4 := Lib.hid h4; clear h4
  go_enter Try.func71, Try.ntmps71
  go_wp2_with fail
  refine H4.out.mono ?_
  rintro e w' ⟨rfl, rfl⟩
  go_wp2
  go_ret
  refine ⟨?_, rfl⟩
  rw [← pow_cap hd]
  rfl

theorem cap_any {w : World} {b n d o : Nat} {xs : List Int} (h : ListAt w b n d o xs) : Calls Try.prog 71 #[.pointer (some ⟨b, 0, none⟩)] w fun e w' => e = .returned (.int .i64 ((32 ^ d : Nat) : Int)) ∧ w' = w := by
  obtain ⟨p, h1, h2, h3⟩ := h
  exact cap_w b (ty d) p (fn 91 101 d) d _ _ w (by have := h3.2.2.1; omega) h1 (disp_ty disp_depth0 disp_depth1 d) (depth_any h2)

set_option maxRecDepth 100000 in
set_option maxHeartbeats 400000 in
theorem len_list_w (b : Nat) (s : Int) (w : World) (hc : w.cell? ⟨b, 2, none⟩ = some (.int .i64 s)) :
    Calls Try.prog 61 #[.pointer (some ⟨b, 0, none⟩)] w fun e w' => e = .returned (.int .i64 s) ∧ w = w' := by
  go_enter Try.func61, Try.ntmps61
  go_wp2
  go_ret
  exact ⟨rfl, rfl⟩

theorem len_any {w : World} {v : Value} {n : Nat} {xs : List Int} (h : IsList w v n xs) : Calls Try.prog 61 #[v] w fun e w' => e = .returned (.int .i64 (xs.length : Int)) ∧ w = w' := by
  obtain ⟨b, d, o, rfl, p, h1, h2, h3⟩ := h
  exact len_list_w b _ w (cell_at h1 rfl)

set_option maxRecDepth 100000 in
set_option maxHeartbeats 800000 in
theorem get_list_w (b t p fid o s i : Nat) (x : Int) (w : World) (hi : i < s) (ho : o + s ≤ 1152921504606846976) (hblk : w.heap[b]? = some (.cells #[.iface t (.pointer (some ⟨p, 0, none⟩)), .int .i64 (o : Int), .int .i64 (s : Int)] 113 (0, 0)))
    (h0 : Disp t fid "pub-frond/pub/immutable.get") (h4 : ∀ w', Below w.heap.size w w' → Calls Try.prog fid #[.pointer (some ⟨p, 0, none⟩), .int .i64 ((o : Int) + i)] w' fun e w'' => e = .returned (.int .i64 x) ∧ w' = w'') :
    Calls Try.prog 62 #[.pointer (some ⟨b, 0, none⟩), .int .i64 (i : Int)] w fun e w' => e = .returned (.int .i64 x) ∧ w.drew = w' := by
  obtain ⟨hc0, hc1, hc2⟩ := head_cells hblk
  obtain ⟨h1, h2, h3⟩ := h0
  have H4 := Lib.hid h4; clear h4
  have hi1 : decide ((s : Int) ≤ (i : Int)) = false := by simp; omega
  go_enter Try.func62, Try.ntmps62
  go_wp2
  have hw1 : IntKind.i64.wrap ((o : Int) + i) = (o : Int) + i := by rw [IntKind.wrap_i64]; omega
  refine region_still (by kernel_rfl) (by kernel_rfl) ?_
  repeat still_step
  still_call ((H4.out _ (Below.refl _ _).drew).mono fun e w'' h => ⟨h.1, h.2.symm⟩)
  repeat still_step
  refine wpStill_nil ?_
  clear hw1
  go_wp2
  go_ret
  exact ⟨rfl, rfl⟩

theorem win_get {o i : Nat} {xs : List Int} (hi : i < xs.length) : win o xs (o + i) = some xs[i] := by
  unfold win
  rw [if_pos (by omega), show o + i - o = i by omega, List.getElem?_eq_getElem hi]

theorem pow_le8 {d : Nat} (h : d ≤ 7) : 32 ^ (d + 1) ≤ 1099511627776 := by
  have : (32 : Nat) ^ (d + 1) ≤ 32 ^ 8 := Nat.pow_le_pow_right (by decide) (by omega)
  have e : (32 : Nat) ^ 8 = 1099511627776 := by decide
  omega

theorem get_list {w : World} {v : Value} {n i : Nat} {xs : List Int} (h : IsList w v n xs) (hi : i < xs.length) :
    Calls Try.prog 62 #[v, .int .i64 (i : Int)] w fun e w' => e = .returned (.int .i64 xs[i]) ∧ w.drew = w' := by
  obtain ⟨b, d, o, rfl, p, h1, h2, h3⟩ := h
  have hp := pow_le8 h3.2.2.1
  have hle := h3.2.1
  refine get_list_w b (ty d) p (fn 92 102 d) o xs.length i xs[i] w hi (by omega) h1 (disp_ty disp_get0 disp_get1 d) fun w' hb => ?_
  have e : ((o : Int) + i) = ((o + i : Nat) : Int) := by omega
  rw [e]
  refine get_any _ _ d p _ (by have := h3.2.2.1; omega) (Node.stay (Stay.of_below hb) _ _ _ h2) ?_
  rw [loc_nat _ _ (by omega)]
  exact win_get hi

end Go.Proofs.Ytnahipfdnadccaa

namespace Go.Proofs.Ytnahipfdnadccaa
open Go.RowKit

/-- a new head -/
def HeadPost (w : World) (d : Nat) (o s : Int) (g : Nat → Option Int) (e : Ending) (w' : World) : Prop :=
  ∃ L q, e = .returned (.pointer (some ⟨L, 0, none⟩)) ∧ w'.heap[L]? = some (.cells #[.iface (ty d) (.pointer (some ⟨q, 0, none⟩)), .int .i64 o, .int .i64 s] 113 (0, 0)) ∧
    Node Any w' d (.iface (ty d) (.pointer (some ⟨q, 0, none⟩))) g ∧ Below w.heap.size w w' ∧ w.heap.size ≤ L

/-- the head's root is written: the tree stays -/
theorem node_head {S : Nat → Prop} {w : World} {L d j : Nat} {c : Array Value} {v u : Value} {g : Nat → Option Int} (hL : w.heap[L]? = some (.cells c 113 (0, 0))) (h : Node S w d v g) : Node S (w.setCell ⟨L, j, none⟩ u) d v g :=
  Node.stayS (fun b c' t _ hb ht => by
    rw [heap_setCell_other]
    · exact hb
    · intro e
      have e' : b = L := e
      rw [e', hL] at hb
      simp only [Option.some.injEq, Obj.cells.injEq] at hb
      rcases ht with ht | ht <;> rw [ht] at hb <;> exact absurd hb.2.1 (by decide)) (fun _ h _ => h) _ _ _ h

theorem head_end {w W w' : World} {L d q : Nat} {r o s : Value} {o' s' : Int} {S : Nat → Prop} {g : Nat → Option Int} (ho : o = .int .i64 o') (hs : s = .int .i64 s') (hLw : w.heap.size ≤ L) (hW : Below w.heap.size w W)
    (hL : w'.heap[L]? = some (.cells #[r, o, s] 113 (0, 0))) (hn : Node S w' d (.iface (ty d) (.pointer (some ⟨q, 0, none⟩))) g) (hb : Below W.drew.heap.size W.drew w') :
    HeadPost w d o' s' g (.returned (.pointer (some ⟨L, 0, none⟩))) (w'.setCell ⟨L, 0, none⟩ (.iface (ty d) (.pointer (some ⟨q, 0, none⟩)))) := by
  subst ho
  subst hs
  refine ⟨L, q, rfl, ?_, (node_head hL hn).inS fun _ _ _ => trivial, ?_, hLw⟩
  · have := heap_setCell_same w' L 0 _ 113 (.iface (ty d) (.pointer (some ⟨q, 0, none⟩))) hL
    simpa using this
  · refine Below.setCell ?_ hLw _
    exact hW.drew.trans (hb.mono hW.size)

set_option maxRecDepth 100000 in
set_option maxHeartbeats 1600000 in
theorem set_list_w (b d p fid t k o s i : Nat) (f : Nat → Option Int) (x : Int) (w : World) (hi : i < s) (ho : o + s ≤ 1152921504606846976) (ht : t = ty d)
    (hblk : w.heap[b]? = some (.cells #[.iface t (.pointer (some ⟨p, 0, none⟩)), .int .i64 (o : Int), .int .i64 (s : Int)] 113 (0, 0)))
    (h0 : Disp t fid "pub-frond/pub/immutable.set") (h4 : ∀ w', Below w.heap.size w w' → Calls Try.prog fid #[.pointer (some ⟨p, 0, none⟩), .int .i64 ((o : Int) + i), .int .i64 x, .bool false] w' (SetPost Any w' d f k x)) :
    Calls Try.prog 68 #[.pointer (some ⟨b, 0, none⟩), .int .i64 (i : Int), .int .i64 x, .bool false] w (HeadPost w d o s (upd f k x)) := by
  obtain ⟨hc0, hc1, hc2⟩ := head_cells hblk
  obtain ⟨h1, h2, h3⟩ := h0
  have H4 := Lib.hid h4; clear h4
  have HT := Lib.hid ht; clear ht
  have hi1 : decide ((s : Int) ≤ (i : Int)) = false := by simp; omega
  go_enter Try.func68, Try.ntmps68
  go_wp2_with (go_at_call 70; refine (clone_w b t p o s _ hblk).mono ?_; rintro e w' ⟨rfl, rfl⟩)
  have hZ : Hid ((w.alloc (Obj.cells #[.iface t (.pointer (some ⟨p, 0, none⟩)), .int .i64 (o : Int), .int .i64 (s : Int)] 113)).heap[w.heap.size]? = some (.cells #[.iface t (.pointer (some ⟨p, 0, none⟩)), .int .i64 (o : Int), .int .i64 (s : Int)] 113 (0, 0))) := heap_alloc_last w _
  have hB : Hid (Below w.heap.size w (w.alloc (Obj.cells #[.iface t (.pointer (some ⟨p, 0, none⟩)), .int .i64 (o : Int), .int .i64 (s : Int)] 113))) := (Below.refl _ _).alloc (Nat.le_refl _) _
  generalize hW : w.alloc (Obj.cells #[.iface t (.pointer (some ⟨p, 0, none⟩)), .int .i64 (o : Int), .int .i64 (s : Int)] 113) = W at hZ hB ⊢
  clear hW
  have hd0 := cell_at (j := 0) hZ.out rfl
  have hd1 : W.cell? ⟨b, 1, none⟩ = some (.int .i64 (o : Int)) := (hB.out.cell (p := ⟨b, 1, none⟩) (lt_of_block hblk)).trans hc1
  have hw1 : IntKind.i64.wrap ((o : Int) + i) = (o : Int) + i := by rw [IntKind.wrap_i64]; omega
  clear hc0 hc1 hc2 hblk
  go_region_with (first | ((with_reducible refine (H4.out _ hB.out.drew).mono ?_); rintro e w' ⟨v', rfl, hn, hb⟩; obtain ⟨q, rfl⟩ := hn.ptr; have hz' := after_cell hZ hb; have hc' := cell_at (j := 0) hz' rfl; have hf' := head_free hz' 0; have HN := Lib.hid (And.intro hn hb); have HZ' := Lib.hid hz'; clear hn hb hz'))
  all_goals
    go_wp2
    go_ret
    exact head_end rfl rfl (Nat.le_refl _) hB.out HZ'.out HN.out.1 HN.out.2

set_option maxRecDepth 100000 in
set_option maxHeartbeats 400000 in
theorem Set_w (v : Value) (i x : Int) (w : World) (R : Ending → World → Prop) (h : Calls Try.prog 68 #[v, .int .i64 i, .int .i64 x, .bool false] w R) (hR : ∀ e w', R e w' → (∃ u, e = .returned u) ∨ ∃ c, e = .panicked c) :
    Calls Try.prog 59 #[v, .int .i64 i, .int .i64 x] w R := by
  have H := Lib.hid h; clear h
  have HR := Lib.hid hR; clear hR
  go_enter Try.func59, Try.ntmps59
  go_wp2_with fail
  refine H.out.mono ?_
  intro e w' h
  rcases HR.out e w' h with ⟨u, rfl⟩ | ⟨c, rfl⟩
  · have HH := Lib.hid h; clear h
    go_wp2
    exact HH.out
  · exact ⟨rfl, h⟩

set_option maxRecDepth 100000 in
set_option maxHeartbeats 400000 in
theorem Slice_w (v : Value) (i x : Int) (w : World) (R : Ending → World → Prop) (h : Calls Try.prog 69 #[v, .int .i64 i, .int .i64 x, .bool false] w R) (hR : ∀ e w', R e w' → (∃ u, e = .returned u) ∨ ∃ c, e = .panicked c) :
    Calls Try.prog 60 #[v, .int .i64 i, .int .i64 x] w R := by
  have H := Lib.hid h; clear h
  have HR := Lib.hid hR; clear hR
  go_enter Try.func60, Try.ntmps60
  go_wp2_with fail
  refine H.out.mono ?_
  intro e w' h
  rcases HR.out e w' h with ⟨u, rfl⟩ | ⟨c, rfl⟩
  · have HH := Lib.hid h; clear h
    go_wp2
    exact HH.out
  · exact ⟨rfl, h⟩

set_option maxRecDepth 100000 in
set_option maxHeartbeats 400000 in
theorem Append_w (v : Value) (x : Int) (w : World) (R : Ending → World → Prop) (h : Calls Try.prog 66 #[v, .int .i64 x, .bool false] w R) (hR : ∀ e w', R e w' → (∃ u, e = .returned u) ∨ ∃ c, e = .panicked c) :
    Calls Try.prog 57 #[v, .int .i64 x] w R := by
  have H := Lib.hid h; clear h
  have HR := Lib.hid hR; clear hR
  go_enter Try.func57, Try.ntmps57
  go_wp2_with fail
  refine H.out.mono ?_
  intro e w' h
  rcases HR.out e w' h with ⟨u, rfl⟩ | ⟨c, rfl⟩
  · have HH := Lib.hid h; clear h
    go_wp2
    exact HH.out
  · exact ⟨rfl, h⟩

set_option maxRecDepth 100000 in
set_option maxHeartbeats 400000 in
theorem Prepend_w (v : Value) (x : Int) (w : World) (R : Ending → World → Prop) (h : Calls Try.prog 67 #[v, .int .i64 x, .bool false] w R) (hR : ∀ e w', R e w' → (∃ u, e = .returned u) ∨ ∃ c, e = .panicked c) :
    Calls Try.prog 58 #[v, .int .i64 x] w R := by
  have H := Lib.hid h; clear h
  have HR := Lib.hid hR; clear hR
  go_enter Try.func58, Try.ntmps58
  go_wp2_with fail
  refine H.out.mono ?_
  intro e w' h
  rcases HR.out e w' h with ⟨u, rfl⟩ | ⟨c, rfl⟩
  · have HH := Lib.hid h; clear h
    go_wp2
    exact HH.out
  · exact ⟨rfl, h⟩

theorem win_set {o i : Nat} {xs : List Int} {x : Int} (hi : i < xs.length) : win o (xs.set i x) = upd (win o xs) (o + i) x := by
  funext j
  unfold win upd
  by_cases h : j = o + i
  · subst h
    rw [if_pos rfl, if_pos (by omega), show o + i - o = i by omega, List.getElem?_set_self hi]
  · rw [if_neg h]
    show _ = if o ≤ j then xs[j - o]? else none
    split
    · rw [List.getElem?_set_ne (by omega)]
    · rfl

/-- the post of a step: another list -/
def ListPost (w : World) (n : Nat) (xs : List Int) (e : Ending) (w' : World) : Prop := ∃ v, e = .returned v ∧ IsList w' v n xs ∧ Below w.heap.size w w'

theorem HeadPost.list {w : World} {d o n : Nat} {s : Int} {g : Nat → Option Int} {xs : List Int} {e : Ending} {w' : World} (h : HeadPost w d o s g e w') (hg : ∀ j y, win o xs j = some y → g j = some y) (hs : s = (xs.length : Int)) (hd : Dep n d o xs.length) :
    ListPost w n xs e w' := by
  obtain ⟨L, q, rfl, hL, hn, hb, _⟩ := h
  subst hs
  exact ⟨_, rfl, ⟨L, d, o, rfl, q, hL, Node.mono _ _ _ _ hn (fun j y _ hy => hg j y hy), hd⟩, hb⟩

theorem set_list {w : World} {v : Value} {n i : Nat} {xs : List Int} (x : Int) (h : IsList w v n xs) (hi : i < xs.length) :
    Calls Try.prog 59 #[v, .int .i64 (i : Int), .int .i64 x] w (ListPost w n (xs.set i x)) := by
  obtain ⟨b, d, o, rfl, p, h1, h2, h3⟩ := h
  have hp := pow_le8 h3.2.2.1
  have hle := h3.2.1
  refine (Set_w _ _ _ _ _ (set_list_w b d p (fn 93 103 d) (ty d) (o + i) o xs.length i (win o xs) x w hi (by omega) rfl h1 (disp_ty disp_set0 disp_set1 d) fun w' hb => ?_) ?_).mono fun e w' h => ?_
  · have e : ((o : Int) + i) = ((o + i : Nat) : Int) := by omega
    rw [e]
    have := set_any ((o + i : Nat) : Int) x d Any w' p _ (by have := h3.2.2.1; omega) (Node.stay (Stay.of_below hb) _ _ _ h2)
    rw [loc_nat _ _ (by omega)] at this
    exact this
  · rintro e w' ⟨L, q, rfl, _⟩; exact .inl ⟨_, rfl⟩
  · refine h.list (xs := xs.set i x) (fun j y hy => ?_) (by simp) (by simpa using h3)
    rw [win_set hi] at hy; exact hy

end Go.Proofs.Ytnahipfdnadccaa
