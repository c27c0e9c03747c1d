/- The walks over a list: Set, Append (as copies). -/
import Derived.Test.YtnahipfdnadccaaListA
namespace Go.Proofs.Ytnahipfdnadccaa
open Go.RowKit

/-- a new head -/
def HeadPost (w : World) (d : Nat) (o s : Int) (g : Nat → Option Int) (e : Ending) (w' : World) : Prop :=
  ∃ L q, e = .returned (.pointer (some ⟨L, 0, none⟩)) ∧ w'.heap[L]? = some (.cells #[.iface (ty d) (.pointer (some ⟨q, 0, none⟩)), .int .i64 o, .int .i64 s] 113 (0, 0)) ∧
    Node Any w' d (.iface (ty d) (.pointer (some ⟨q, 0, none⟩))) g ∧ Below w.heap.size w w' ∧ w.heap.size ≤ L

/-- the head's root is written: the tree stays -/
theorem node_head {S : Nat → Prop} {w : World} {L d j : Nat} {c : Array Value} {v u : Value} {g : Nat → Option Int} (hL : w.heap[L]? = some (.cells c 113 (0, 0))) (h : Node S w d v g) : Node S (w.setCell ⟨L, j, none⟩ u) d v g :=
  Node.stayS (fun b c' t _ hb ht => by
    rw [heap_setCell_other]
    · exact hb
    · intro e
      have e' : b = L := e
      rw [e', hL] at hb
      simp only [Option.some.injEq, Obj.cells.injEq] at hb
      rcases ht with ht | ht <;> rw [ht] at hb <;> exact absurd hb.2.1 (by decide)) (fun _ h _ => h) _ _ _ h

theorem head_end {w W w' : World} {L d q : Nat} {r o s : Value} {o' s' : Int} {S : Nat → Prop} {g : Nat → Option Int} (ho : o = .int .i64 o') (hs : s = .int .i64 s') (hLw : w.heap.size ≤ L) (hW : Below w.heap.size w W)
    (hL : w'.heap[L]? = some (.cells #[r, o, s] 113 (0, 0))) (hn : Node S w' d (.iface (ty d) (.pointer (some ⟨q, 0, none⟩))) g) (hb : Below W.drew.heap.size W.drew w') :
    HeadPost w d o' s' g (.returned (.pointer (some ⟨L, 0, none⟩))) (w'.setCell ⟨L, 0, none⟩ (.iface (ty d) (.pointer (some ⟨q, 0, none⟩)))) := by
  subst ho
  subst hs
  refine ⟨L, q, rfl, ?_, (node_head hL hn).inS fun _ _ _ => trivial, ?_, hLw⟩
  · have := heap_setCell_same w' L 0 _ 113 (.iface (ty d) (.pointer (some ⟨q, 0, none⟩))) hL
    simpa using this
  · refine Below.setCell ?_ hLw _
    exact hW.drew.trans (hb.mono hW.size)

set_option maxRecDepth 100000 in
set_option maxHeartbeats 1600000 in
theorem set_list_w (b d p fid t k o s i : Nat) (f : Nat → Option Int) (x : Int) (w : World) (hi : i < s) (ho : o + s ≤ 1152921504606846976) (ht : t = ty d)
    (hblk : w.heap[b]? = some (.cells #[.iface t (.pointer (some ⟨p, 0, none⟩)), .int .i64 (o : Int), .int .i64 (s : Int)] 113 (0, 0)))
    (h0 : Disp t fid "pub-frond/pub/immutable.set") (h4 : ∀ w', Below w.heap.size w w' → Calls Try.prog fid #[.pointer (some ⟨p, 0, none⟩), .int .i64 ((o : Int) + i), .int .i64 x, .bool false] w' (SetPost Any w' d f k x)) :
    Calls Try.prog 68 #[.pointer (some ⟨b, 0, none⟩), .int .i64 (i : Int), .int .i64 x, .bool false] w (HeadPost w d o s (upd f k x)) := by
  obtain ⟨hc0, hc1, hc2⟩ := head_cells hblk
  obtain ⟨h1, h2, h3⟩ := h0
  have H4 := Lib.hid h4; clear h4
  have HT := Lib.hid ht; clear ht
  have hi1 : decide ((s : Int) ≤ (i : Int)) = false := by simp; omega
  go_enter Try.func68, Try.ntmps68
  go_wp2_with (go_at_call 70; refine (clone_w b t p o s _ hblk).mono ?_; rintro e w' ⟨rfl, rfl⟩)
  have hZ : Hid ((w.alloc (Obj.cells #[.iface t (.pointer (some ⟨p, 0, none⟩)), .int .i64 (o : Int), .int .i64 (s : Int)] 113)).heap[w.heap.size]? = some (.cells #[.iface t (.pointer (some ⟨p, 0, none⟩)), .int .i64 (o : Int), .int .i64 (s : Int)] 113 (0, 0))) := heap_alloc_last w _
  have hB : Hid (Below w.heap.size w (w.alloc (Obj.cells #[.iface t (.pointer (some ⟨p, 0, none⟩)), .int .i64 (o : Int), .int .i64 (s : Int)] 113))) := (Below.refl _ _).alloc (Nat.le_refl _) _
  generalize hW : w.alloc (Obj.cells #[.iface t (.pointer (some ⟨p, 0, none⟩)), .int .i64 (o : Int), .int .i64 (s : Int)] 113) = W at hZ hB ⊢
  clear hW
  have hd0 := cell_at (j := 0) hZ.out rfl
  have hd1 : W.cell? ⟨b, 1, none⟩ = some (.int .i64 (o : Int)) := (hB.out.cell (p := ⟨b, 1, none⟩) (lt_of_block hblk)).trans hc1
  have hw1 : IntKind.i64.wrap ((o : Int) + i) = (o : Int) + i := by rw [IntKind.wrap_i64]; omega
  clear hc0 hc1 hc2 hblk
  go_region_with (first | ((with_reducible refine (H4.out _ hB.out.drew).mono ?_); rintro e w' ⟨v', rfl, hn, hb⟩; obtain ⟨q, rfl⟩ := hn.ptr; have hz' := after_cell hZ hb; have hc' := cell_at (j := 0) hz' rfl; have hf' := head_free hz' 0; have HN := Lib.hid (And.intro hn hb); have HZ' := Lib.hid hz'; clear hn hb hz'))
  all_goals
    go_wp2
    go_ret
    exact head_end rfl rfl (Nat.le_refl _) hB.out HZ'.out HN.out.1 HN.out.2

set_option maxRecDepth 100000 in
set_option maxHeartbeats 400000 in
theorem Set_w (v : Value) (i x : Int) (w : World) (R : Ending → World → Prop) (h : Calls Try.prog 68 #[v, .int .i64 i, .int .i64 x, .bool false] w R) (hR : ∀ e w', R e w' → (∃ u, e = .returned u) ∨ ∃ c, e = .panicked c) :
    Calls Try.prog 59 #[v, .int .i64 i, .int .i64 x] w R := by
  have H := Lib.hid h; clear h
  have HR := Lib.hid hR; clear hR
  go_enter Try.func59, Try.ntmps59
  go_wp2_with fail
  refine H.out.mono ?_
  intro e w' h
  rcases HR.out e w' h with ⟨u, rfl⟩ | ⟨c, rfl⟩
  · have HH := Lib.hid h; clear h
    go_wp2
    exact HH.out
  · exact ⟨rfl, h⟩

set_option maxRecDepth 100000 in
set_option maxHeartbeats 400000 in
theorem Slice_w (v : Value) (i x : Int) (w : World) (R : Ending → World → Prop) (h : Calls Try.prog 69 #[v, .int .i64 i, .int .i64 x, .bool false] w R) (hR : ∀ e w', R e w' → (∃ u, e = .returned u) ∨ ∃ c, e = .panicked c) :
    Calls Try.prog 60 #[v, .int .i64 i, .int .i64 x] w R := by
  have H := Lib.hid h; clear h
  have HR := Lib.hid hR; clear hR
  go_enter Try.func60, Try.ntmps60
  go_wp2_with fail
  refine H.out.mono ?_
  intro e w' h
  rcases HR.out e w' h with ⟨u, rfl⟩ | ⟨c, rfl⟩
  · have HH := Lib.hid h; clear h
    go_wp2
    exact HH.out
  · exact ⟨rfl, h⟩

set_option maxRecDepth 100000 in
set_option maxHeartbeats 400000 in
theorem Append_w (v : Value) (x : Int) (w : World) (R : Ending → World → Prop) (h : Calls Try.prog 66 #[v, .int .i64 x, .bool false] w R) (hR : ∀ e w', R e w' → (∃ u, e = .returned u) ∨ ∃ c, e = .panicked c) :
    Calls Try.prog 57 #[v, .int .i64 x] w R := by
  have H := Lib.hid h; clear h
  have HR := Lib.hid hR; clear hR
  go_enter Try.func57, Try.ntmps57
  go_wp2_with fail
  refine H.out.mono ?_
  intro e w' h
  rcases HR.out e w' h with ⟨u, rfl⟩ | ⟨c, rfl⟩
  · have HH := Lib.hid h; clear h
    go_wp2
    exact HH.out
  · exact ⟨rfl, h⟩

set_option maxRecDepth 100000 in
set_option maxHeartbeats 400000 in
theorem Prepend_w (v : Value) (x : Int) (w : World) (R : Ending → World → Prop) (h : Calls Try.prog 67 #[v, .int .i64 x, .bool false] w R) (hR : ∀ e w', R e w' → (∃ u, e = .returned u) ∨ ∃ c, e = .panicked c) :
    Calls Try.prog 58 #[v, .int .i64 x] w R := by
  have H := Lib.hid h; clear h
  have HR := Lib.hid hR; clear hR
  go_enter Try.func58, Try.ntmps58
  go_wp2_with fail
  refine H.out.mono ?_
  intro e w' h
  rcases HR.out e w' h with ⟨u, rfl⟩ | ⟨c, rfl⟩
  · have HH := Lib.hid h; clear h
    go_wp2
    exact HH.out
  · exact ⟨rfl, h⟩

theorem win_set {o i : Nat} {xs : List Int} {x : Int} (hi : i < xs.length) : win o (xs.set i x) = upd (win o xs) (o + i) x := by
  funext j
  unfold win upd
  by_cases h : j = o + i
  · subst h
    rw [if_pos rfl, if_pos (by omega), show o + i - o = i by omega, List.getElem?_set_self hi]
  · rw [if_neg h]
    show _ = if o ≤ j then xs[j - o]? else none
    split
    · rw [List.getElem?_set_ne (by omega)]
    · rfl

/-- the post of a step: another list -/
def ListPost (w : World) (n : Nat) (xs : List Int) (e : Ending) (w' : World) : Prop := ∃ v, e = .returned v ∧ IsList w' v n xs ∧ Below w.heap.size w w'

theorem HeadPost.list {w : World} {d o n : Nat} {s : Int} {g : Nat → Option Int} {xs : List Int} {e : Ending} {w' : World} (h : HeadPost w d o s g e w') (hg : ∀ j y, win o xs j = some y → g j = some y) (hs : s = (xs.length : Int)) (hd : Dep n d o xs.length) :
    ListPost w n xs e w' := by
  obtain ⟨L, q, rfl, hL, hn, hb, _⟩ := h
  subst hs
  exact ⟨_, rfl, ⟨L, d, o, rfl, q, hL, Node.mono _ _ _ _ hn (fun j y _ hy => hg j y hy), hd⟩, hb⟩

theorem set_list {w : World} {v : Value} {n i : Nat} {xs : List Int} (x : Int) (h : IsList w v n xs) (hi : i < xs.length) :
    Calls Try.prog 59 #[v, .int .i64 (i : Int), .int .i64 x] w (ListPost w n (xs.set i x)) := by
  obtain ⟨b, d, o, rfl, p, h1, h2, h3⟩ := h
  have hp := pow_le8 h3.2.2.1
  have hle := h3.2.1
  refine (Set_w _ _ _ _ _ (set_list_w b d p (fn 93 103 d) (ty d) (o + i) o xs.length i (win o xs) x w hi (by omega) rfl h1 (disp_ty disp_set0 disp_set1 d) fun w' hb => ?_) ?_).mono fun e w' h => ?_
  · have e : ((o : Int) + i) = ((o + i : Nat) : Int) := by omega
    rw [e]
    have := set_any ((o + i : Nat) : Int) x d Any w' p _ (by have := h3.2.2.1; omega) (Node.stay (Stay.of_below hb) _ _ _ h2)
    rw [loc_nat _ _ (by omega)] at this
    exact this
  · rintro e w' ⟨L, q, rfl, _⟩; exact .inl ⟨_, rfl⟩
  · refine h.list (xs := xs.set i x) (fun j y hy => ?_) (by simp) (by simpa using h3)
    rw [win_set hi] at hy; exact hy

end Go.Proofs.Ytnahipfdnadccaa
