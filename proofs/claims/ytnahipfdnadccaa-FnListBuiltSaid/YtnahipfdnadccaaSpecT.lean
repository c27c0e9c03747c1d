/- spec.ListVersions. Conditions of this file: none.

slices.EqualFunc over slices.Equal, listSame: of slices that read the same. Conditions of this file: none.

listTo; versionsOf of no steps; ListRun of any steps. Conditions of this file: none. -/
import Derived.Test.YtnahipfdnadccaaDoB
import Derived.Test.YtnahipfdnadccaaTree
namespace Go.Proofs.Ytnahipfdnadccaa
open Go.RowKit

/-- ListDo, a step of any kind -/
theorem do_any (u : Value) (xs : List Int) (k : Nat) (F I E V : Int) (w : World) (hs : SlN w u (xs.map (Value.int .i64))) (hl : xs.length ≤ 2147483647) (hk : k ≤ 5) (hI : 4 ≤ k → 0 ≤ I ∧ I ≤ 100000) :
    Calls Try.prog 32 #[u, .agg #[.int .u8 (k : Int), .int .i64 F, .int .i64 I, .int .i64 E, .int .i64 V]] w (DoPost w xs k I E V) := by
  match k, hk with
  | 0, _ => exact do_w0 u xs F I E V w hs hl
  | 1, _ => exact do_w1 u xs F I E V w hs hl
  | 2, _ => exact do_w2 u xs F I E V w hs hl
  | 3, _ => exact do_w3 u xs F I E V w hs hl
  | 4, _ => exact do_w4 u xs F I E V w hs hl (hI (by omega))
  | 5, _ => exact do_w5 u xs F I E V w hs hl (hI (by omega))

/-- sv is a slice of steps -/
def StpV (w : World) (sv : Value) (steps : List Stp) : Prop :=
  ∃ (a : Option Addr) (cap : Nat), sv = .slice a steps.length cap ∧ ∀ j s, steps[j]? = some s → ∃ sb so, a = some ⟨sb, so, none⟩ ∧ ∀ i u, s.cells[i]? = some u → w.cell? ⟨sb, so + j * 5 + i, none⟩ = some u
theorem StpV.below {w w' : World} {sv : Value} {steps : List Stp} (h : StpV w sv steps) (b : Below w.heap.size w w') : StpV w' sv steps := by
  obtain ⟨a, cap, h1, h2⟩ := h
  refine ⟨a, cap, h1, fun j s hs => ?_⟩
  obtain ⟨sb, so, h3, h4⟩ := h2 j s hs
  exact ⟨sb, so, h3, fun i u hu => (b.cell (World.block_lt_of_cell? w _ (h4 i u hu))).trans (h4 i u hu)⟩

/-- what ListVersions has made -/
structure SV (w : World) (vs : List (List Int)) (ps : List Bool) (l p : Value) (T : Nat) (wr : World) : Prop where
  below : Below w.heap.size w wr
  ownP : wr.ownsRow w.heap.size 4 1 p ps.length (ps.map Value.bool)
  ownL : ∃ us : List Value, wr.ownsRow w.heap.size 32 1 l vs.length us ∧ us.length = vs.length ∧ ∀ (i : Nat) (u : Value), us[i]? = some u → ∃ xs : List Int, vs[i]? = some xs ∧ SlS wr u (xs.map (Value.int .i64)) ∧ xs.length ≤ T

theorem SV.step {w wr w' : World} {vs : List (List Int)} {ps : List Bool} {l p : Value} {T : Nat} (h : SV w vs ps l p T wr) (b : Below wr.heap.size wr w') : SV w vs ps l p T w' := by
  obtain ⟨us, h1, h2, h3⟩ := h.ownL
  refine ⟨h.below.trans (b.mono h.below.size), own_below h.ownP b, us, own_below h1 b, h2, fun i u hu => ?_⟩
  obtain ⟨xs, h4, h5, h6⟩ := h3 i u hu
  exact ⟨xs, h4, h5.below b, h6⟩

theorem grown_keep2 {A w' : World} {B n : Nat} {e : TypeId} {l : Value} {us : List Value} {o : Obj} (ho : A.ownsRow B e 1 l n us) (he : e ≠ 2) (hg : (A.alloc o).grownBy w' l.ownBlock) :
    ∀ (g : Nat) (cur : Array Value), A.heap[g]? = some (Obj.cells cur 2 (0, 0)) → w'.heap[g]? = A.heap[g]? := fun g cur h => by
  have hlt := lt_of_block h
  rw [hg.block g (by simp; omega) (fun e1 => ?_), Below.heap_alloc _ _ _ hlt]
  rcases ho.2 with ⟨h1, _⟩ | ⟨g', cap, c, h1, _, h2, _⟩
  · rw [h1] at e1; cases e1
  · rw [h1] at e1
    simp only [Value.ownBlock, Option.some.injEq] at e1
    subst e1
    rw [h2] at h
    simp only [Option.some.injEq, Obj.cells.injEq] at h
    exact he h.2.1

theorem sv_push {w A w1 w2 : World} {vs : List (List Int)} {ps : List Bool} {l p v l' p' : Value} {us : List Value} {ys : List Int} {b : Bool} {n m T T' : Nat} {zl zp : List Value}
    (hB : Below w.heap.size w A) (hP : A.ownsRow w.heap.size 4 1 p ps.length (ps.map Value.bool)) (hL : A.ownsRow w.heap.size 32 1 l vs.length us) (hul : us.length = vs.length)
    (hall : ∀ (i : Nat) (u : Value), us[i]? = some u → ∃ xs : List Int, vs[i]? = some xs ∧ SlS A u (xs.map (Value.int .i64)) ∧ xs.length ≤ T) (hy : SlS A v (ys.map (Value.int .i64))) (hyl : ys.length ≤ T') (hTT : T ≤ T')
    (h1 : w1.ownsRow w.heap.size 32 1 l' n zl) (hg1 : (A.alloc (.cells #[v] 32)).grownBy w1 l.ownBlock) (h2 : w2.ownsRow w.heap.size 4 1 p' m zp) (hg2 : (w1.alloc (.cells #[.bool b] 4)).grownBy w2 p.ownBlock)
    (hn : n = vs.length + 1) (hm : m = ps.length + 1) (hzl : zl = us ++ [v]) (hzp : zp = (ps ++ [b]).map Value.bool) : SV w (vs ++ [ys]) (ps ++ [b]) l' p' T' w2 := by
  subst hn
  subst hm
  subst hzl
  subst hzp
  have hP1 : w1.ownsRow w.heap.size 4 1 p ps.length (ps.map Value.bool) := (hP.alloc (.cells #[v] 32)).kept hg1 (own_ne hP hL (by decide))
  have hB1 := below_grown (hB.alloc hB.size (.cells #[v] 32)) hL (Nat.le_refl _) (Nat.le_refl _) hg1
  have hL2 : w2.ownsRow w.heap.size 32 1 l' (vs.length + 1) (us ++ [v]) := (h1.alloc (.cells #[.bool b] 4)).kept hg2 (own_ne h1 hP1 (by decide))
  have hB2 := below_grown (hB1.alloc hB1.size (.cells #[.bool b] 4)) hP1 (Nat.le_refl _) (Nat.le_refl _) hg2
  have k1 := grown_keep2 hL (by decide) hg1
  have k2 := grown_keep2 hP1 (by decide) hg2
  have key : ∀ {u : Value} {cs : List Value}, SlS A u cs → SlS w2 u cs := fun h => (h.keep k1).keep k2
  refine ⟨hB2, by simpa using h2, us ++ [v], by simpa using hL2, by simp [hul], fun i q hq => ?_⟩
  rcases Nat.lt_or_ge i us.length with h | h
  · rw [List.getElem?_append_left h] at hq
    obtain ⟨xs, h3, h4, h5⟩ := hall i q hq
    exact ⟨xs, by rw [List.getElem?_append_left (by omega)]; exact h3, key h4, Nat.le_trans h5 hTT⟩
  · rw [List.getElem?_append_right h] at hq
    have : i - us.length = 0 := by
      rcases Nat.eq_zero_or_pos (i - us.length) with h | h
      · exact h
      · rw [List.getElem?_eq_none (by simp; omega)] at hq; cases hq
    rw [this] at hq
    simp only [List.getElem?_cons_zero, Option.some.injEq] at hq
    subst hq
    exact ⟨ys, by rw [List.getElem?_append_right (by omega), show i - vs.length = 0 by omega]; rfl, key hy, hyl⟩

theorem builtE (w : World) {B : Nat} (x : Value) (e : TypeId) (h : B ≤ w.heap.size) : (w.alloc (.cells #[x] e)).ownsRow B e 1 (.slice (some ⟨w.heap.size, 0, none⟩) 1 1) 1 [x] :=
  ⟨rfl, .inr ⟨w.heap.size, 1, #[x], rfl, h, heap_alloc_last w _, Nat.le_refl _, by unfold maxLen; omega, rfl, rfl⟩⟩
theorem made0' (w : World) : (w.alloc (.cells #[] 2)).ownsRow w.heap.size 2 1 (.slice (some ⟨w.heap.size, 0, none⟩) 0 0) 0 [] :=
  World.ownsRow_made (base := w.heap.size) (e := 2) (size := 1) w #[] 0 (Nat.le_refl _) (by decide) rfl

/-- the first version stands -/
theorem sv_first {w A : World} {u : Value} {xs : List Int} (hB : Below w.heap.size w A) (hu : SlS A u (xs.map (Value.int .i64))) :
    SV w [xs] [] (.slice (some ⟨A.heap.size, 0, none⟩) 1 1) (.slice none 0 0) xs.length (A.alloc (.cells #[u] 32)) := by
  refine ⟨hB.alloc hB.size _, World.ownsRow_nil _ _ _ _, [u], builtE A u 32 hB.size, rfl, fun i q hq => ?_⟩
  have hi : i = 0 := by
    rcases Nat.eq_zero_or_pos i with h | h
    · exact h
    · rw [List.getElem?_eq_none (by simp; omega)] at hq; cases hq
  subst hi
  simp only [List.getElem?_cons_zero, Option.some.injEq] at hq
  subst hq
  exact ⟨xs, rfl, hu.below ((Below.refl _ A).alloc (Nat.le_refl _) _), Nat.le_refl _⟩

theorem first_own {w w1 : World} {v1 : Value} {xs : List Int} (h : w1.ownsRow w.heap.size 2 1 v1 xs.length (xs.map (Value.int .i64))) (hn : ¬ v1 = .slice none 0 0) (hg : (w.alloc (.cells #[] 2)).grownBy w1 (Value.ownBlock (.slice (some ⟨w.heap.size, 0, none⟩) 0 0))) :
    SlS w1 v1 (xs.map (Value.int .i64)) ∧ Below w.heap.size w w1 := by
  refine ⟨?_, Below.grown ((Below.refl _ w).alloc (Nat.le_refl _) (.cells #[] 2)) hg (by simp) fun k hk => by simp only [Value.ownBlock, Option.some.injEq] at hk; omega⟩
  rcases h.2 with ⟨h1, _⟩ | ⟨g, cap, cur, h1, _⟩
  · exact absurd h1 hn
  · subst h1
    exact SlS.of_own h

theorem first_news {w : World} {ad : Addr} {xs : List Int} {cap : Nat} (h : SlN w (.slice (some ad) (xs.map (Value.int .i64)).length cap) (xs.map (Value.int .i64))) :
    ∀ j u, (xs.map (Value.int .i64))[j]? = some u → (w.alloc (.cells #[] 2)).cell? (ad.add j) = some u := fun j u hu => by
  obtain ⟨a, c, h1, _, h2⟩ := h
  obtain ⟨g, o, h3, h4⟩ := h2 j u hu
  simp only [Value.slice.injEq] at h1
  obtain ⟨h1, -⟩ := h1
  rw [h3] at h1
  simp only [Option.some.injEq] at h1
  subst h1
  have hB : Below w.heap.size w (w.alloc (.cells #[] 2)) := (Below.refl _ w).alloc (Nat.le_refl _) _
  rw [Addr.add_lit]
  exact (hB.cell (World.block_lt_of_cell? w _ h4)).trans h4

/-- a step that is asked -/
def Asked (most n : Nat) (s : Stp) : Prop := s.k ≤ 5 ∧ 0 ≤ s.F ∧ s.F < n ∧ (4 ≤ s.k → 0 ≤ s.I ∧ s.I ≤ most)

theorem Asked.ok {most n : Nat} {s : Stp} (h : Asked most n s) (hm : most ≤ 100000) : s.ok n = true := by
  obtain ⟨h1, h2, h3, h4⟩ := h
  unfold Stp.ok
  simp only [Bool.and_eq_true, decide_eq_true_eq, Bool.or_eq_true]
  refine ⟨h2, h3, ?_, h1⟩
  by_cases h5 : 4 ≤ s.k
  · have := h4 h5
    exact .inr ⟨this.1, by omega⟩
  · exact .inl ⟨by omega, by omega⟩

theorem stepOf_len {xs ys : List Int} {k : Nat} {I E V : Int} (h : stepOf xs k I E V = some ys) (hI : 4 ≤ k → 0 ≤ I ∧ I ≤ 100000) : ys.length ≤ xs.length + 100001 := by
  unfold stepOf at h
  split at h
  · cases h; simp
  split at h
  · cases h; simp
  split at h
  · split at h
    · cases h; simp
    · cases h
  split at h
  · split at h
    · cases h; simp; omega
    · cases h
  split at h
  · cases h
    have := hI (by omega)
    simp [up]; omega
  · cases h
    by_cases h4 : 4 ≤ k
    · have := hI h4
      simp [up]; omega
    · omega

theorem make_ok2 {s : Stp} {vs : List (List Int)} {xs : List Int} (h : s.ok vs.length = true) (hx : vs[s.F.toNat]? = some xs) :
    s.make vs = match stepOf xs s.k s.I s.E s.V with | some ys => (ys, false) | none => (xs, true) := by
  unfold Stp.make
  rw [if_pos h]
  have : vs.getD s.F.toNat [] = xs := by simp [List.getD, hx]
  rw [this]
  cases stepOf xs s.k s.I s.E s.V <;> rfl

theorem SlS.shape {w : World} {u : Value} {xs : List Int} (h : SlS w u (xs.map (Value.int .i64))) : ∃ g o c, u = .slice (some ⟨g, o, none⟩) xs.length c := by
  obtain ⟨g, o, c, _, rfl, _⟩ := h
  exact ⟨g, o, c, by rw [List.length_map]⟩

end Go.Proofs.Ytnahipfdnadccaa

namespace Go.Proofs.Ytnahipfdnadccaa
open Go.RowKit

theorem SV.outer {w wr : World} {vs : List (List Int)} {ps : List Bool} {l p : Value} {T : Nat} (h : SV w vs ps l p T wr) (hne : vs ≠ []) : Outer wr l vs ∧ ∀ (i : Nat) (xs : List Int), vs[i]? = some xs → xs.length ≤ T := by
  obtain ⟨us, h1, h2, h3⟩ := h.ownL
  have key : ∀ (i : Nat) (xs : List Int), vs[i]? = some xs → ∃ u, us[i]? = some u ∧ SlS wr u (xs.map (Value.int .i64)) ∧ xs.length ≤ T := fun i xs hi => by
    have hlt : i < us.length := by
      rw [h2]
      exact (List.getElem?_eq_some_iff.1 hi).1
    obtain ⟨ys, h4, h5, h6⟩ := h3 i us[i] (List.getElem?_eq_getElem hlt)
    rw [hi] at h4
    cases h4
    exact ⟨_, List.getElem?_eq_getElem hlt, h5, h6⟩
  refine ⟨?_, fun i xs hi => (key i xs hi).choose_spec.2.2⟩
  rcases h1.2 with ⟨_, h0⟩ | ⟨g, cap, cur, rfl, _⟩
  · exact absurd (List.eq_nil_of_length_eq_zero h0) hne
  · refine ⟨g, cap, rfl, fun i xs hi => ?_⟩
    obtain ⟨u, h4, h5, _⟩ := key i xs hi
    obtain ⟨a, o, c, rfl⟩ := h5.shape
    exact ⟨_, c, own_cell h1 h4, h5.slv⟩

set_option maxRecDepth 100000 in
set_option maxHeartbeats 1600000 in
theorem equalF_w (g1 c1 g2 c2 : Nat) (vs : List (List Int)) (w : World) (hb : ∀ (i : Nat) (xs : List Int), vs[i]? = some xs → xs.length ≤ 1000000) (hl : vs.length ≤ 1000000)
    (h1 : ∀ (i : Nat) (xs : List Int), vs[i]? = some xs → ∃ a c, w.cell? ⟨g1, i, none⟩ = some (.slice a xs.length c) ∧ SlV w (.slice a xs.length c) (xs.map (Value.int .i64)))
    (h2 : ∀ (i : Nat) (xs : List Int), vs[i]? = some xs → ∃ a c, w.cell? ⟨g2, i, none⟩ = some (.slice a xs.length c) ∧ SlV w (.slice a xs.length c) (xs.map (Value.int .i64))) :
    Calls Try.prog 33 #[.slice (some ⟨g1, 0, none⟩) vs.length c1, .slice (some ⟨g2, 0, none⟩) vs.length c2, .func (.func 16) #[] #[]] w fun e w' => e = .returned (.bool true) ∧ Same w w' := by
  have H1 := Lib.hid h1; clear h1
  have H2 := Lib.hid h2; clear h2
  have HB := Lib.hid hb; clear hb
  have HL := Lib.hid hl; clear hl
  go_enter Try.func33, Try.ntmps33
  go_wp2_with fail
  go_loopg [17] vs.length (fun k i wr => ∃ j : Nat, j + k = vs.length ∧ i = .int .i64 (j : Int) ∧ Same w wr)
  case atStart => exact ⟨0, by omega, rfl, Same.refl w⟩
  case round =>
    obtain ⟨j, hjk, rfl, hS⟩ := hrel
    have HS := Lib.hid hS
    clear hS
    have hw1 : IntKind.i64.wrap ((j : Int) + 1) = (j : Int) + 1 := by have := HL.out; rw [IntKind.wrap_i64]; omega
    by_cases hlt : j < vs.length
    · have h1 : decide ((j : Int) < (vs.length : Int)) = true := by simp; omega
      obtain ⟨xs, hx⟩ : ∃ xs, vs[j]? = some xs := ⟨vs[j], List.getElem?_eq_getElem hlt⟩
      obtain ⟨a1, d1, k1, s1⟩ := H1.out j xs hx
      obtain ⟨a2, d2, k2, s2⟩ := H2.out j xs hx
      have q1 := HS.out.cell k1
      have q2 := HS.out.cell k2
      have HE : Hid (Calls Try.prog 16 #[.slice a1 xs.length d1, .slice a2 xs.length d2] wr fun e w' => e = .returned (.bool true) ∧ Same wr w') :=
        (equal_ints (xs := xs) (ys := xs) (s1.same HS.out) (s2.same HS.out) (by have := HB.out j xs hx; omega)).mono fun e w' h => ⟨by rw [h.1, decide_eq_true rfl], h.2⟩
      clear k1 k2 s1 s2 hx
      go_wp2_with fail
      refine HE.out.mono ?_
      rintro e w' ⟨rfl, hs⟩
      have HS2 := Lib.hid (HS.out.trans hs)
      clear hs
      go_wp2_with fail
      go_roundg (gk - 1)
      case measure => omega
      case rel => exact ⟨j + 1, by omega, rfl, HS2.out⟩
    · have h1 : decide ((j : Int) < (vs.length : Int)) = false := by simp; omega
      obtain rfl : j = vs.length := by omega
      go_wp2_with fail
      go_ret
      exact ⟨rfl, HS.out⟩

set_option maxRecDepth 100000 in
set_option maxHeartbeats 800000 in
theorem listSame_w {w : World} {l1 l2 : Value} {vs : List (List Int)} (h1 : Outer w l1 vs) (h2 : Outer w l2 vs) (hb : ∀ (i : Nat) (xs : List Int), vs[i]? = some xs → xs.length ≤ 1000000) (hl : vs.length ≤ 1000000) :
    Calls Try.prog 22 #[l1, l2] w fun e w' => e = .returned (.bool true) ∧ Same w w' := by
  obtain ⟨g1, c1, rfl, k1⟩ := h1
  obtain ⟨g2, c2, rfl, k2⟩ := h2
  have HE := Lib.hid (equalF_w g1 c1 g2 c2 vs w hb hl k1 k2)
  clear hb hl k1 k2
  go_enter Try.func22, Try.ntmps22
  go_wp2_with fail
  refine HE.out.mono ?_
  rintro e w' ⟨rfl, hs⟩
  have HS := Lib.hid hs
  clear hs
  go_wp2_with fail
  go_ret
  exact ⟨rfl, HS.out⟩

end Go.Proofs.Ytnahipfdnadccaa

namespace Go.Proofs.Ytnahipfdnadccaa
open Go.RowKit

theorem info29 : (Try.prog.info? 29).map (fun i => (i.zero, i.size, i.bytes)) = some (some (.agg #[.int .u8 0, .int .i64 0, .int .i64 0, .int .i64 0, .int .i64 0]), 5, 40) := by kernel_rfl

/-- sv is a slice of steps that lies somewhere, or it is nil and there is none -/
def StpW (w : World) (sv : Value) (steps : List Stp) : Prop :=
  (sv = .slice none 0 0 ∧ steps = []) ∨ ∃ sb so cap, sv = .slice (some ⟨sb, so, none⟩) steps.length cap ∧ sb < w.heap.size ∧ ∀ j s, steps[j]? = some s → ∀ i u, s.cells[i]? = some u → w.cell? ⟨sb, so + j * 5 + i, none⟩ = some u

theorem StpW.of_own {w : World} {B n : Nat} {v : Value} {steps : List Stp} (h : w.ownsRow B 29 5 v n (steps.flatMap Stp.cells)) (hn : n = steps.length) : StpW w v steps := by
  subst hn
  rcases h.2 with ⟨h1, h2⟩ | ⟨g, cap, cur, h1, h2, h3, _⟩
  · exact .inl ⟨h1, List.eq_nil_of_length_eq_zero h2⟩
  · refine .inr ⟨g, 0, cap, h1, lt_of_block h3, fun j s hs i u hu => ?_⟩
    have h4 := h.cells (g := g) (by rw [h1]; rfl) (j * 5 + i) u (flat_get steps j s hs i u hu)
    rw [Addr.add_lit] at h4
    rw [Nat.add_assoc]
    exact h4

theorem stp_cells5 {w : World} (s : Stp) (t : TypeId) : ∀ j u, s.cells[j]? = some u → (w.alloc (.cells s.cells.toArray t)).cell? ((⟨w.heap.size, 0, none⟩ : Addr).add j) = some u := fun j u hu => by
  rw [Addr.add_lit, Nat.zero_add]
  exact cell_at (heap_alloc_last w _) (by simpa using hu)
theorem stp_one (s : Stp) : ∀ u ∈ s.cells, u.oneCell' = true := fun u hu => by
  simp only [Stp.cells, List.mem_cons, List.not_mem_nil, or_false] at hu
  rcases hu with rfl | rfl | rfl | rfl | rfl <;> rfl

set_option maxRecDepth 100000 in
set_option maxHeartbeats 1600000 in
theorem listTo_w (sv : Value) (steps : List Stp) (w : World) (hs : StpV w sv steps) (hl : steps.length ≤ 1000) :
    Calls Try.prog 21 #[sv] w fun e w' => ∃ v, e = .returned v ∧ StpW w' v steps ∧ Below w.heap.size w w' := by
  obtain ⟨i29, hi, hz0, hz1, hz2⟩ := info_parts info29
  have HI := Lib.hid (And.intro hi (And.intro hz0 (And.intro hz1 hz2)))
  clear hi hz0 hz1 hz2
  obtain ⟨sa, sc, rfl, hcells⟩ := hs
  have HCE := Lib.hid hcells
  have HL := Lib.hid hl
  clear hcells hl
  go_enter Try.func21, Try.ntmps21
  go_wp2_with fail
  go_loopg [3, 8] steps.length (fun k v i wr => ∃ j : Nat, j + k = steps.length ∧ i = .int .i64 (j : Int) ∧ wr.ownsRow w.heap.size 29 5 v j ((steps.take j).flatMap Stp.cells) ∧ Below w.heap.size w wr)
  case atStart => exact ⟨0, by omega, rfl, World.ownsRow_nil _ _ _ _, Below.refl _ _⟩
  case round =>
    obtain ⟨j, hjk, rfl, ho, hb⟩ := hrel
    have HO := Lib.hid ho
    have HB := Lib.hid hb
    clear ho hb
    have hw1 : IntKind.i64.wrap ((j : Int) + 1) = (j : Int) + 1 := by have := HL.out; rw [IntKind.wrap_i64]; omega
    by_cases hlt : j < steps.length
    · have h1 : decide ((j : Int) < (steps.length : Int)) = true := by simp; omega
      obtain ⟨⟨sk, sF, sI, sE, sV⟩, hs⟩ : ∃ s, s = steps[j] := ⟨_, rfl⟩
      have hs' : steps[j]? = some ⟨sk, sF, sI, sE, sV⟩ := by rw [List.getElem?_eq_getElem hlt, hs]
      obtain ⟨sb, so, rfl, hcells⟩ := HCE.out j _ hs'
      have hsb : sb < w.heap.size := World.block_lt_of_cell? w _ (hcells 0 _ rfl)
      have e0 : wr.cell? ⟨sb, so + j * 5, none⟩ = some (.int .u8 (sk : Int)) := (HB.out.cell hsb).trans (hcells 0 _ rfl)
      have e1 : wr.cell? ⟨sb, so + j * 5 + 1, none⟩ = some (.int .i64 sF) := (HB.out.cell hsb).trans (hcells 1 _ rfl)
      have e2 : wr.cell? ⟨sb, so + j * 5 + 2, none⟩ = some (.int .i64 sI) := (HB.out.cell hsb).trans (hcells 2 _ rfl)
      have e3 : wr.cell? ⟨sb, so + j * 5 + 3, none⟩ = some (.int .i64 sE) := (HB.out.cell hsb).trans (hcells 3 _ rfl)
      have e4 : wr.cell? ⟨sb, so + j * 5 + 4, none⟩ = some (.int .i64 sV) := (HB.out.cell hsb).trans (hcells 4 _ rfl)
      have HS := Lib.hid hs'
      clear hcells hs hs' hsb
      go_upto_region 5 with (fail)
      have hA : Below wr.heap.size wr (wr.alloc (.cells #[.int .u8 (sk : Int), .int .i64 sF, .int .i64 sI, .int .i64 sE, .int .i64 sV] 42)) := (Below.refl _ wr).alloc (Nat.le_refl _) _
      have hbx := heap_alloc_last wr (.cells #[.int .u8 (sk : Int), .int .i64 sF, .int .i64 sI, .int .i64 sE, .int .i64 sV] 42)
      have HOX := Lib.hid (own_below HO.out hA)
      have HBX := Lib.hid (HB.out.trans (hA.mono HB.out.size))
      generalize wr.heap.size = bx at hbx ⊢
      generalize wr.alloc (.cells #[.int .u8 (sk : Int), .int .i64 sF, .int .i64 sI, .int .i64 sE, .int .i64 sV] 42) = X at hbx HOX HBX ⊢
      clear e0 e1 e2 e3 e4 hA HO HB wr
      have s0 := cell_at (j := 0) hbx rfl
      have s1 := cell_at (j := 1) hbx rfl
      have s2 := cell_at (j := 2) hbx rfl
      have s3 := cell_at (j := 3) hbx rfl
      have s4 := cell_at (j := 4) hbx rfl
      go_wp2_with (at_builtin; refine wpList_append_own _ rfl (.tmp 12) (.tmp 14) 30 rfl w.heap.size 29 i29 (.agg #[.int .u8 0, .int .i64 0, .int .i64 0, .int .i64 0, .int .i64 0]) 5 40 Try.underlying30 HI.out.1 HI.out.2.1 HI.out.2.2.1 HI.out.2.2.2 rfl (by decide) _ _ _ rfl (HOX.out.alloc _) ⟨X.heap.size, 0, none⟩ 1 1 (Stp.cells ⟨sk, sF, sI, sE, sV⟩) rfl rfl (stp_cells5 _ _) (stp_one _) (by have := HL.out; unfold maxLen; omega) (by have := HL.out; omega) (by have := HBX.out.size; simp; omega) ?_)
      intro v2 w2 hown2 hgrow2 _
      have HO2 := Lib.hid hown2
      have HB2 := Lib.hid (below_grown (HBX.out.alloc HBX.out.size (.cells (Stp.cells ⟨sk, sF, sI, sE, sV⟩).toArray 29)) HOX.out (Nat.le_refl _) (Nat.le_refl _) hgrow2)
      clear hown2 hgrow2
      go_wp2_with fail
      go_roundg (gk - 1)
      case measure => omega
      case rel =>
        refine ⟨j + 1, by omega, rfl, ?_, HB2.out⟩
        have e1 : steps.take (j + 1) = steps.take j ++ [⟨sk, sF, sI, sE, sV⟩] := by
          rw [List.take_add_one, HS.out]; rfl
        rw [e1, List.flatMap_append]
        simpa [List.flatMap_cons, List.flatMap_nil] using HO2.out
    · have h1 : decide ((j : Int) < (steps.length : Int)) = false := by simp; omega
      obtain rfl : j = steps.length := by omega
      go_wp2_with fail
      go_ret
      refine ⟨_, rfl, ?_, HB.out⟩
      have h := HO.out
      rw [List.take_length] at h
      exact StpW.of_own h rfl

set_option maxRecDepth 100000 in
set_option maxHeartbeats 1600000 in
theorem vers_nil (w : World) (v0 : Value) (n0 : Nat) (xs0 : List Int) (hnew : Calls Try.prog 55 #[v0] w (ListPost w n0 xs0)) :
    Calls Try.prog 29 #[v0, .slice none 0 0] w fun e w' => ∃ l p, e = .returned (.tuple #[l, p]) ∧ Vers w n0 [xs0] [] l p w' := by
  obtain ⟨i72, hi, hz0, hz1, hz2⟩ := info_parts info72
  have HI72 := Lib.hid (And.intro hi (And.intro hz0 (And.intro hz1 hz2)))
  clear hi hz0 hz1 hz2
  have HN := Lib.hid hnew
  clear hnew
  go_enter Try.func29, Try.ntmps29
  go_wp2_with fail
  refine HN.out.mono ?_
  rintro e w1 ⟨r, rfl, k1, k2⟩
  have K1 := Lib.hid k1
  have K2 := Lib.hid k2
  obtain ⟨rb, rd, ro, rfl, _⟩ := k1
  clear k2 HN
  go_wp2_with (at_builtin; refine wpList_append_own _ rfl (.tmp 11) (.tmp 14) 69 rfl w.heap.size 72 i72 (.pointer none) 1 8 Try.underlying69 HI72.out.1 HI72.out.2.1 HI72.out.2.2.1 HI72.out.2.2.2 rfl (by decide) _ _ _ rfl (World.ownsRow_nil _ _ _ _) ⟨w1.heap.size, 0, none⟩ 1 1 [.pointer (some ⟨rb, 0, none⟩)] rfl rfl (new_cell _ _ _) (one_oneCell rfl) (by unfold maxLen; omega) (by omega) (by have := K2.out.size; simp; omega) ?_)
  intro l0 w2 hown hgrow _
  have HV : Hid (Vers w n0 [xs0] [] l0 (.slice none 0 0) w2) := by
    have hA : Below w.heap.size w (w1.alloc (.cells #[.pointer (some ⟨rb, 0, none⟩)] 72)) := K2.out.alloc K2.out.size _
    have hb : Below w.heap.size w w2 := below_grown hA (World.ownsRow_nil w1 w.heap.size 72 1) (Nat.le_refl _) (Nat.le_refl _) hgrow
    refine ⟨hb, World.ownsRow_nil _ _ _ _, ?_⟩
    exact vers_push (vs := []) (ptrs := []) (grown_stay (World.ownsRow_nil _ w.heap.size 72 1) hgrow (by decide)) (fun i r h => by simp at h) rfl (K1.out.stay (Stay.of_below ((Below.refl _ w1).alloc (Nat.le_refl _) _))) hown
  clear hown hgrow K1 K2
  go_wp2_with fail
  go_loopg [4, 5, 18] 0 (fun k l p i wr => i = .int .i64 0 ∧ Vers w n0 [xs0] [] l p wr)
  case atStart => exact ⟨rfl, HV.out⟩
  case round =>
    clear HV
    obtain ⟨rfl, hV⟩ := hrel
    have HV := Lib.hid hV
    clear hV
    go_wp2_with fail
    refine bodyPost_ret (results_tmp2 rfl _ _ _) rfl ?_
    exact ⟨_, _, rfl, HV.out⟩

/-- ListRun of any steps -/
theorem listRun_s (w : World) (v0 : Value) (n0 : Nat) (xs0 : List Int) (steps : List Stp) (sv : Value) (hs : StpW w sv steps)
    (hnew : Calls Try.prog 55 #[v0] w (ListPost w n0 xs0)) (hn : n0 + 100000 * (steps.length + 1) < 33554431) (hG : Glob w) :
    Calls Try.prog 15 #[v0, sv] w fun e w' => ∃ l p, e = .returned (.tuple #[l, p]) ∧ Below w.heap.size w w' ∧ Outer w' l (versRun steps ([xs0], [])).1 ∧
      SlV w' p ((versRun steps ([xs0], [])).2.map Value.bool) := by
  rcases hs with ⟨rfl, rfl⟩ | ⟨sb, so, cap, rfl, h1, h2⟩
  · refine (run_w w v0 _ n0 [xs0] [] (by simp at hn; omega) (by simp) (vers_nil w v0 n0 xs0 hnew)).mono ?_
    rintro e w' ⟨l, p, rfl, h1, h2, h3⟩
    exact ⟨l, p, rfl, h1, h2.outer (by simp), SlV.of_own h3⟩
  · exact listRun_any w v0 n0 xs0 steps sb so cap h1 h2 hnew hn hG

end Go.Proofs.Ytnahipfdnadccaa
