/- Sorted maps: what one holds; new, set, delete, get, length (as copies). -/
import Derived.Test.YtefigjdebakccaaNewB
namespace Go.Proofs.Ytefigjdebakccaa
open Go.RowKit

def CmpAt (o : Nat) (cv : Value) (es : List (Int × Int)) : Prop := (cv = .nilIface ∧ o = 0 ∧ es = []) ∨ CmpIs o cv
/-- a sorted map of an order: k bounds its height -/
def SMapAt (w : World) (b o k : Nat) (es : List (Int × Int)) : Prop := ∃ root cv, w.heap[b]? = some (.cells #[.int .i64 (es.length : Int), root, cv] 122 (0, 0)) ∧ Srt (ltO o) es ∧ CmpAt o cv es ∧ ((es = [] ∧ root = .nilIface) ∨ ∃ r n, Cnt w r n root es ∧ 31 * r + n ≤ k)
theorem SMapAt.below {w w' : World} {b o k : Nat} {es : List (Int × Int)} (h : SMapAt w b o k es) (hb : Below w.heap.size w w') : SMapAt w' b o k es := by
  obtain ⟨root, cv, h1, h2, h3, h4⟩ := h
  exact ⟨root, cv, below_at hb h1, h2, h3, h4.imp id fun ⟨r, n, h5, h6⟩ => ⟨r, n, h5.stay (Stay.of_below hb), h6⟩⟩
theorem SMapAt.more {w : World} {b o k k' : Nat} {es : List (Int × Int)} (h : SMapAt w b o k es) (hk : k ≤ k') : SMapAt w b o k' es := by
  obtain ⟨root, cv, h1, h2, h3, h4⟩ := h
  exact ⟨root, cv, h1, h2, h3, h4.imp id fun ⟨r, n, h5, h6⟩ => ⟨r, n, h5, by omega⟩⟩

set_option maxRecDepth 100000 in
set_option maxHeartbeats 400000 in
theorem snew_w (o : Nat) (cv : Value) (hc : CmpAt o cv []) (w : World) : Calls Try.prog 49 #[cv] w fun e w' => ∃ b : Nat, e = .returned (.pointer (some ⟨b, 0, none⟩)) ∧ SMapAt w' b o 0 [] ∧ Below w.heap.size w w' := by
  have HC := Lib.hid hc
  rcases hc with ⟨rfl, -, -⟩ | ⟨ty, v, fid, rfl, -, -⟩
  all_goals
    go_enter Try.func49, Try.ntmps49
    go_wp2_with fail
    go_ret
    exact ⟨_, rfl, ⟨.nilIface, _, heap_alloc_last w _, List.Pairwise.nil, HC.out, .inl ⟨rfl, rfl⟩⟩, (Below.refl _ _).alloc (Nat.le_refl _) _⟩

set_option maxRecDepth 100000 in
set_option maxHeartbeats 400000 in
theorem slen_w (b o k : Nat) (es : List (Int × Int)) (w : World) (h : SMapAt w b o k es) : Calls Try.prog 55 #[.pointer (some ⟨b, 0, none⟩)] w fun e w' => e = .returned (.int .i64 (es.length : Int)) ∧ w = w' := by
  obtain ⟨root, cv, h1, -⟩ := h
  have h0 := cell_at (j := 0) h1 rfl
  clear h1
  obtain ⟨n, hn⟩ : ∃ n, n = es.length := ⟨_, rfl⟩
  rw [← hn] at h0 ⊢
  clear hn
  go_enter Try.func55, Try.ntmps55
  go_wp2
  go_ret
  exact ⟨rfl, rfl⟩

set_option maxRecDepth 100000 in
set_option maxHeartbeats 1600000 in
theorem sget_w (b o k : Nat) (key : Int) (es : List (Int × Int)) (w : World) (h : SMapAt w b o k es) :
    Calls Try.prog 54 #[.pointer (some ⟨b, 0, none⟩), .int .i64 key] w fun e w' => e = .returned (.tuple #[.int .i64 ((look (ltO o) es key).getD 0), .bool (look (ltO o) es key).isSome]) ∧ Below w.heap.size w w' := by
  obtain ⟨root, cv, h1, h2, h3, ⟨rfl, rfl⟩ | ⟨r, n, h4, h5⟩⟩ := h
  · have h0 := cell_at (j := 1) h1 rfl
    clear h1 h2 h3
    go_enter Try.func54, Try.ntmps54
    go_wp2_with fail
    go_ret2
    exact ⟨rfl, Below.refl _ _⟩
  · have hc : CmpIs o cv := by
      rcases h3 with ⟨-, -, rfl⟩ | h
      · exact absurd rfl h4.sn.ne
      · exact h
    obtain ⟨ty, p, fid, rfl, ⟨d1, d2, d3⟩, hcall⟩ := get_any o cv hc key (h4.sn.stay (w' := w.drew) (Stay.of_below (Below.refl _ _).drew)) h2
    have HC := Lib.hid hcall
    have h0 := cell_at (j := 1) h1 rfl
    have h9 := cell_at (j := 2) h1 rfl
    obtain ⟨cty, cvv, cfid, rfl, -, -⟩ := hc
    clear h1 h2 h3 h4 h5 hcall
    go_enter Try.func54, Try.ntmps54
    go_upto_region 4 with (fail)
    have HR0 : Hid (Below w.heap.size w w.drew) := (Below.refl _ w).drew
    have HX : Hid (w.cell? ⟨b, 1, none⟩ = some (.iface ty (.pointer (some ⟨p, 0, none⟩))) ∧ w.cell? ⟨b, 2, none⟩ = some (.iface cty cvv)) := ⟨h0, h9⟩
    clear h0 h9
    refine region_segsR (fun W => Below w.heap.size w W) [([0, 1, 2, 3, 4, 5, 6, 7, 8, 9, 10], [11]), ([12, 13], [14]), ([], [15])] (by kernel_rfl) (by intro dst v c a w h; cases dst <;> exact h) (by kernel_rfl) HR0.out ?_
    refine r_segs ?_
    simp only [opsOf, List.getElem?_toArray, List.getElem?_cons_succ, List.getElem?_cons_zero]
    repeat (refine r_read ?_ (by kernel_rfl) ?_ (fun K hK => ?_); rotate_left 1; (intro W hR; have x0 := bcell hR HX.out.1; have x1 := bcell hR HX.out.2; clear hR; go_simp; try with_reducible rfl); go_simp; refine hK _ ?_; clear hK K)
    refine r_nil1 ?_
    refine r_op rfl (fun K hK => ?_)
    go_simp
    refine HC.out.mono ?_
    rintro e w' ⟨rfl, hb⟩
    have HB : Hid (Below w.heap.size w w') := Below.undrew hb
    clear hb
    refine hK _ _ HB.out ?_
    clear hK K
    refine r_segs ?_
    simp only [opsOf, List.getElem?_toArray, List.getElem?_cons_succ, List.getElem?_cons_zero]
    repeat (refine r_read ?_ (by kernel_rfl) ?_ (fun K hK => ?_); rotate_left 1; (intro W hR; clear hR; go_simp; try with_reducible rfl); go_simp; refine hK _ ?_; clear hK K)
    refine r_nil1 ?_
    refine r_op rfl (fun K hK => ?_)
    go_simp
    refine hK _ _ HB.out ?_
    clear hK K
    refine r_segs ?_
    simp only [opsOf]
    refine r_nil1 ?_
    refine r_op rfl (fun K hK => ?_)
    go_simp
    refine hK _ _ HB.out ?_
    clear hK K
    refine r_end ?_
    go_wp2_with fail
    go_ret2
    exact ⟨rfl, HB.out⟩
end Go.Proofs.Ytefigjdebakccaa
