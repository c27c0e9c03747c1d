/- A small map whose keys stand in order. -/
import Derived.Test.YtefigjdebakccaaCut2
import Derived.Test.YtefigjdebakccaaPln
namespace Go.Proofs.Ytefigjdebakccaa
open Go.RowKit

/-- v is a slice of what steps told -/
def TldV (w : World) (v : Value) (ts : List Told) : Prop :=
  ∃ (a : Option Addr) (c : Nat), v = .slice a ts.length c ∧ ∀ (i : Nat) (t : Told), ts[i]? = some t → ∃ g q ks vs ss, a = some ⟨g, q, none⟩ ∧ w.cell? ⟨g, q + i * 5, none⟩ = some (.int .i64 t.val) ∧ w.cell? ⟨g, q + i * 5 + 1, none⟩ = some (.bool t.yes) ∧
    w.cell? ⟨g, q + i * 5 + 2, none⟩ = some ks ∧ w.cell? ⟨g, q + i * 5 + 3, none⟩ = some vs ∧ w.cell? ⟨g, q + i * 5 + 4, none⟩ = some ss ∧ IV w ks t.keys ∧ IV w vs t.vals ∧ SV w ss t.seen
theorem TldV.below {w w' : World} {v : Value} {ts : List Told} (h : TldV w v ts) (b : Below w.heap.size w w') : TldV w' v ts := by
  obtain ⟨a, c, h1, h2⟩ := h
  refine ⟨a, c, h1, fun i t ht => ?_⟩
  obtain ⟨g, q, ks, vs, ss, h3, h4, h5, h6, h7, h8, h9, h10, h11⟩ := h2 i t ht
  exact ⟨g, q, ks, vs, ss, h3, bcell b h4, bcell b h5, bcell b h6, bcell b h7, bcell b h8, h9.kb (by decide) (KB.of_below 0 b), h10.kb (by decide) (KB.of_below 0 b), h11.kb (by decide) (KB.of_below 0 b)⟩
theorem ToldsV.tld {w : World} {B : Nat} {v : Value} {ts : List Told} (h : ToldsV w B v ts) : TldV w v ts := by
  obtain ⟨rs, h0, h1, h2⟩ := h
  obtain ⟨a, c, hv⟩ := own_len h1
  refine ⟨a, c, hv, fun i t ht => ?_⟩
  obtain ⟨r, hr⟩ : ∃ r, rs[i]? = some r := ⟨_, List.getElem?_eq_getElem (by rw [h0]; exact (List.getElem?_eq_some_iff.1 ht).1)⟩
  obtain ⟨k1, k2, k3, k4, k5⟩ := tcells_at ht hr
  obtain ⟨g, c1, e1, q1⟩ := own_read h1 k1
  obtain ⟨g2, c2, e2, q2⟩ := own_read h1 k2
  obtain ⟨g3, c3, e3, q3⟩ := own_read h1 k3
  obtain ⟨g4, c4, e4, q4⟩ := own_read h1 k4
  obtain ⟨g5, c5, e5, q5⟩ := own_read h1 k5
  rw [hv] at e1 e2 e3 e4 e5
  simp only [Value.slice.injEq] at e1 e2 e3 e4 e5
  have k2 : g2 = g := by have := e2.1.symm.trans e1.1; simpa using this
  have k3 : g3 = g := by have := e3.1.symm.trans e1.1; simpa using this
  have k4 : g4 = g := by have := e4.1.symm.trans e1.1; simpa using this
  have k5 : g5 = g := by have := e5.1.symm.trans e1.1; simpa using this
  subst k2 k3 k4 k5
  obtain ⟨v1, v2, v3⟩ := h2 i t r ht hr
  exact ⟨g5, 0, r.1, r.2.1, r.2.2, e1.1, by rw [Nat.zero_add]; exact q1, by rw [Nat.zero_add]; exact q2, by rw [Nat.zero_add]; exact q3, by rw [Nat.zero_add]; exact q4, by rw [Nat.zero_add]; exact q5, v1, v2, v3⟩
def awk : List Stp := [⟨0, 0, 5, 50, []⟩, ⟨0, 1, 3, 30, []⟩, ⟨4, 2, 0, 0, []⟩, ⟨3, 1, 0, 0, []⟩]
theorem awk_run : run (ltO 1) [[]] awk = [⟨0, false, [], [], []⟩, ⟨0, false, [], [], []⟩, ⟨0, false, [3, 5], [30, 50], []⟩, ⟨1, false, [], [], []⟩] := by rfl
theorem awk_right : Right 1 awk := by simp [awk, Right]
theorem IV.slice {w : World} {v : Value} {xs : List Int} (h : IV w v xs) : ∃ a c, v = .slice a xs.length c := by
  obtain ⟨a, c, h1, -⟩ := h.reads
  exact ⟨a, c, h1⟩
theorem rdi_pair {w : World} {a b : Int} {t : TypeId} : RdI (w.alloc (.cells #[.int .i64 a, .int .i64 b] t)) (.slice (some ⟨w.heap.size, 0, none⟩) 2 2) [a, b] := by
  refine ⟨_, 2, rfl, fun i x hx => ⟨w.heap.size, 0, rfl, ?_⟩⟩
  rw [Nat.zero_add]
  refine cell_at (heap_alloc_last w _) ?_
  match i, hx with
  | 0, hx => simp at hx; subst hx; rfl
  | 1, hx => simp at hx; subst hx; rfl
  | i + 2, hx => simp at hx

theorem own_cell5 {w : World} {B n g cap i s : Nat} {e : TypeId} {cs : List Value} {u : Value} (h : w.ownsRow B e s (.slice (some ⟨g, 0, none⟩) n cap) n cs) (hu : cs[i]? = some u) : w.cell? ⟨g, i, none⟩ = some u := by
  obtain ⟨g', c', e1, e2⟩ := own_read h hu
  simp only [Value.slice.injEq, Option.some.injEq, Addr.mk.injEq] at e1
  rw [e1.1.1]
  exact e2
/-- the steps of sortAwake as they lie in memory -/
def awkCells : Array Value := #[.int .u8 0, .int .i64 0, .int .i64 5, .int .i64 50, .slice none 0 0, .int .u8 0, .int .i64 1, .int .i64 3, .int .i64 30, .slice none 0 0, .int .u8 4, .int .i64 2, .int .i64 0, .int .i64 0, .slice none 0 0, .int .u8 3, .int .i64 1, .int .i64 0, .int .i64 0, .slice none 0 0]
theorem awk_stps (w : World) : StpsV (w.alloc (.cells awkCells 89)) (.slice (some ⟨w.heap.size, 0, none⟩) 4 4) awk := by
  have h := heap_alloc_last w (.cells awkCells 89)
  refine ⟨_, 4, rfl, fun i s hs => ⟨w.heap.size, 0, .slice none 0 0, rfl, ?_⟩⟩
  have key : ∀ n : Nat, s.moves = [] → awkCells[n * 5]? = some (.int .u8 (s.op : Int)) → awkCells[n * 5 + 1]? = some (.int .i64 (s.on : Int)) → awkCells[n * 5 + 2]? = some (.int .i64 s.key) → awkCells[n * 5 + 3]? = some (.int .i64 s.val) → awkCells[n * 5 + 4]? = some (.slice none 0 0) →
      (w.alloc (.cells awkCells 89)).cell? ⟨w.heap.size, 0 + n * 5, none⟩ = some (.int .u8 (s.op : Int)) ∧ (w.alloc (.cells awkCells 89)).cell? ⟨w.heap.size, 0 + n * 5 + 1, none⟩ = some (.int .i64 (s.on : Int)) ∧ (w.alloc (.cells awkCells 89)).cell? ⟨w.heap.size, 0 + n * 5 + 2, none⟩ = some (.int .i64 s.key) ∧
      (w.alloc (.cells awkCells 89)).cell? ⟨w.heap.size, 0 + n * 5 + 3, none⟩ = some (.int .i64 s.val) ∧ (w.alloc (.cells awkCells 89)).cell? ⟨w.heap.size, 0 + n * 5 + 4, none⟩ = some (.slice none 0 0) ∧ MovesV (w.alloc (.cells awkCells 89)) (.slice none 0 0) s.moves := by
    intro n h0 h1 h2 h3 h4 h5
    rw [Nat.zero_add]
    exact ⟨cell_at h h1, cell_at h h2, cell_at h h3, cell_at h h4, cell_at h h5, by rw [h0]; exact movesV_nil _⟩
  match i, hs with
  | 0, hs => cases hs; exact key 0 rfl rfl rfl rfl rfl rfl
  | 1, hs => cases hs; exact key 1 rfl rfl rfl rfl rfl rfl
  | 2, hs => cases hs; exact key 2 rfl rfl rfl rfl rfl rfl
  | 3, hs => cases hs; exact key 3 rfl rfl rfl rfl rfl rfl
  | i + 4, hs => simp [awk] at hs

set_option maxRecDepth 100000 in
set_option maxHeartbeats 3200000 in
theorem awake_w (w : World) : Calls Try.prog 16 #[] w fun e w' => e = .returned (.bool true) ∧ Below w.heap.size w w' := by
  have hs := awk_stps w
  have hr := runMaps_w 1 awk _ _ hs awk_right (by decide)
  have HR := Lib.hid hr
  unfold awkCells at HR
  clear hs hr
  go_enter Try.func16, Try.ntmps16
  go_wp2_with fail
  refine HR.out.mono ?_
  rintro e w1 ⟨v, rfl, hv, hb⟩
  rw [awk_run] at hv
  obtain ⟨rs, hr1, hr2, hr3⟩ := hv
  obtain ⟨⟨r00, r01, r02⟩, ⟨r10, r11, r12⟩, ⟨r20, r21, r22⟩, ⟨r30, r31, r32⟩, rfl⟩ : ∃ a b c d, rs = [a, b, c, d] := by
    match rs, hr1 with
    | [a, b, c, d], _ => exact ⟨a, b, c, d, rfl⟩
  obtain ⟨k1, k2, -⟩ := hr3 2 _ _ rfl rfl
  obtain ⟨g, c, rfl⟩ := own_shape hr2 (by decide)
  have e1 := own_cell5 hr2 (i := 12) (u := r20) rfl
  have e2 := own_cell5 hr2 (i := 13) (u := r21) rfl
  have e3 := own_cell5 hr2 (i := 15) (u := .int .i64 1) rfl
  have HB : Hid (Below w.heap.size w w1) := ((Below.refl w.heap.size w).alloc (Nat.le_refl _) _).trans (hb.mono (by rw [size_alloc]; exact Nat.le_succ _))
  have hq1 : ∀ W, Below w1.heap.size w1 W → Calls Try.prog 18 #[r20, .slice (some ⟨W.heap.size, 0, none⟩) 2 2] (W.alloc (.cells #[.int .i64 3, .int .i64 5] 3)) fun e w' => e = .returned (.bool true) ∧ Below (W.alloc (.cells #[.int .i64 3, .int .i64 5] 3)).heap.size (W.alloc (.cells #[.int .i64 3, .int .i64 5] 3)) w' := fun W hW =>
    (equal_w _ _ _ _ _ ((k1.rdi.below hW).below ((Below.refl _ _).alloc (Nat.le_refl _) _)) rdi_pair (by decide) (by decide)).mono fun e w' h => h
  have hq2 : ∀ W, Below w1.heap.size w1 W → Calls Try.prog 18 #[r21, .slice (some ⟨W.heap.size, 0, none⟩) 2 2] (W.alloc (.cells #[.int .i64 30, .int .i64 50] 3)) fun e w' => e = .returned (.bool true) ∧ Below (W.alloc (.cells #[.int .i64 30, .int .i64 50] 3)).heap.size (W.alloc (.cells #[.int .i64 30, .int .i64 50] 3)) w' := fun W hW =>
    (equal_w _ _ _ _ _ ((k2.rdi.below hW).below ((Below.refl _ _).alloc (Nat.le_refl _) _)) rdi_pair (by decide) (by decide)).mono fun e w' h => h
  have Q1 := Lib.hid hq1
  have Q2 := Lib.hid hq2
  obtain ⟨a1, c1, rfl⟩ := k1.slice
  obtain ⟨a2, c2, rfl⟩ := k2.slice
  clear hq1 hq2 k1 k2 hr1 hr2 hr3 hb HR
  go_wp2_with fail
  refine (Q1.out w1 (Below.refl _ _)).mono ?_
  rintro e w2 ⟨rfl, hb2⟩
  have hB2 : Below w1.heap.size w1 w2 := ((Below.refl w1.heap.size w1).alloc (Nat.le_refl _) _).trans (hb2.mono (by rw [size_alloc]; exact Nat.le_succ _))
  have e2' := bcell hB2 e2
  have e3' := bcell hB2 e3
  have HB2 := Lib.hid hB2
  clear hb2 hB2 e1 e2 e3
  go_wp2_with fail
  refine (Q2.out w2 HB2.out).mono ?_
  rintro e w3 ⟨rfl, hb3⟩
  have hB3 : Below w2.heap.size w2 w3 := ((Below.refl w2.heap.size w2).alloc (Nat.le_refl _) _).trans (hb3.mono (by rw [size_alloc]; exact Nat.le_succ _))
  have e3 := bcell hB3 e3'
  have HB3 : Hid (Below w.heap.size w w3) := (HB.out.trans (HB2.out.mono HB.out.size)).trans (hB3.mono (HB.out.trans (HB2.out.mono HB.out.size)).size)
  clear hb3 hB3 e2' e3'
  go_wp2_with fail
  refine bodyPost_ret (results_tmp rfl _ _ _) rfl ?_
  exact ⟨rfl, HB3.out⟩
end Go.Proofs.Ytefigjdebakccaa
