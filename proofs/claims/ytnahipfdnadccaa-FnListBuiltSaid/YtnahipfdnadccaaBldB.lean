/- A step of a builder, as the closure of ListBuild makes it. Conditions of this file: none. -/
import Derived.Test.YtnahipfdnadccaaBldA
import Derived.Test.YtnahipfdnadccaaItrF
namespace Go.Proofs.Ytnahipfdnadccaa
open Go.RowKit

/-- behind a step: it is made, or it panics and nothing has changed -/
def BPost (G : Nat → Prop) (w : World) (bb lb n : Nat) (xs : List Int) (k : Nat) (I E V : Int) (e : Ending) (w' : World) : Prop :=
  (∃ ys, stepOf xs k I E V = some ys ∧ e = .returned (.tuple #[]) ∧ Bld G w' bb lb (n + 100000) ys ∧ But (fun x => G x ∨ x = bb) w w') ∨ (stepOf xs k I E V = none ∧ Threw w e w')

section
variable (bs vb bb lb n : Nat) (F I E V : Int) (G : Nat → Prop) (w : World) (xs : List Int)
  (hv : w.heap[vb]? = some (.cells #[.pointer (some ⟨bb, 0, none⟩)] 86 (0, 0))) (hB : Bld G w bb lb n xs) (hn : n + 100000 < 33554431) (hG : Glob w)

set_option maxRecDepth 100000 in
set_option maxHeartbeats 800000 in
include hv hB hn in
theorem bcl_w0 (hs : w.heap[bs]? = some (.cells #[.int .u8 0, .int .i64 F, .int .i64 I, .int .i64 E, .int .i64 V] 29 (0, 0))) :
    Calls Try.prog 46 #[.pointer (some ⟨bs, 0, none⟩), .pointer (some ⟨vb, 0, none⟩)] w (BPost G w bb lb n xs 0 I E V) := by
  have s0 := cell_at (j := 0) hs rfl
  have s4 := cell_at (j := 4) hs rfl
  have v0 := cell_at (j := 0) hv rfl
  have HC := Lib.hid (bld_append_w V hB (append_gsmut V hB.lst hB.new (by omega)))
  clear hs hv hB
  go_enter Try.func46, Try.ntmps46
  go_wp2_with fail
  refine HC.out.mono ?_
  rintro e w' ⟨rfl, h1, h2⟩
  have H1 := Lib.hid h1
  have H2 := Lib.hid h2
  clear h1 h2 HC s0 s4 v0
  go_wp2_with fail
  refine bodyPost_end (results_none rfl _ _ _) rfl ?_
  exact .inl ⟨_, rfl, rfl, H1.out.mono (by omega), H2.out⟩

set_option maxRecDepth 100000 in
set_option maxHeartbeats 800000 in
include hv hB hn in
theorem bcl_w1 (hs : w.heap[bs]? = some (.cells #[.int .u8 1, .int .i64 F, .int .i64 I, .int .i64 E, .int .i64 V] 29 (0, 0))) :
    Calls Try.prog 46 #[.pointer (some ⟨bs, 0, none⟩), .pointer (some ⟨vb, 0, none⟩)] w (BPost G w bb lb n xs 1 I E V) := by
  have s0 := cell_at (j := 0) hs rfl
  have s4 := cell_at (j := 4) hs rfl
  have v0 := cell_at (j := 0) hv rfl
  have HC := Lib.hid (bld_prepend_w V hB (prepend_gsmut V hB.lst hB.new (by omega)))
  clear hs hv hB
  go_enter Try.func46, Try.ntmps46
  go_wp2_with fail
  refine HC.out.mono ?_
  rintro e w' ⟨rfl, h1, h2⟩
  have H1 := Lib.hid h1
  have H2 := Lib.hid h2
  clear h1 h2 HC s0 s4 v0
  go_wp2_with fail
  refine bodyPost_end (results_none rfl _ _ _) rfl ?_
  exact .inl ⟨_, rfl, rfl, H1.out.mono (by omega), H2.out⟩

set_option maxRecDepth 100000 in
set_option maxHeartbeats 800000 in
include hv hB hn  in
theorem bcl_w2 (hs : w.heap[bs]? = some (.cells #[.int .u8 2, .int .i64 F, .int .i64 I, .int .i64 E, .int .i64 V] 29 (0, 0))) :
    Calls Try.prog 46 #[.pointer (some ⟨bs, 0, none⟩), .pointer (some ⟨vb, 0, none⟩)] w (BPost G w bb lb n xs 2 I E V) := by
  have s0 := cell_at (j := 0) hs rfl
  have s2 := cell_at (j := 2) hs rfl
  have s3 := cell_at (j := 3) hs rfl
  have s4 := cell_at (j := 4) hs rfl
  have v0 := cell_at (j := 0) hv rfl
  have HBL := Lib.hid hB
  have HGL := Lib.hid hn
  clear hs hv hB
  by_cases hc : 0 ≤ I ∧ I < xs.length
  · have HC := Lib.hid (show Calls Try.prog 48 #[.pointer (some ⟨bb, 0, none⟩), .int .i64 I, .int .i64 V] w _ from bld_set_w (m := n) (ys := xs.set I.toNat V) I V HBL.out (by have h := set_gsmut (i := I.toNat) V HBL.out.lst HBL.out.new (by omega); rw [Int.toNat_of_nonneg hc.1] at h; exact h))
    have HST := Lib.hid (show stepOf xs 2 I E V = some (xs.set I.toNat V) by unfold stepOf; rw [if_neg (by decide), if_neg (by decide), if_pos rfl, if_pos hc])
    have _ := hn
    clear hc
    go_enter Try.func46, Try.ntmps46
    go_wp2_with fail
    refine HC.out.mono ?_
    rintro e w' ⟨rfl, h1, h2⟩
    have H1 := Lib.hid h1
    have H2 := Lib.hid h2
    clear h1 h2 HC s0 s2 s3 s4 v0
    go_wp2_with fail
    refine bodyPost_end (results_none rfl _ _ _) rfl ?_
    exact .inl ⟨_, HST.out, rfl, H1.out.mono (by omega), H2.out⟩
  · have HST := Lib.hid (show stepOf xs 2 I E V = none by unfold stepOf; rw [if_neg (by decide), if_neg (by decide), if_pos rfl, if_neg hc])
    have hpan : Calls Try.prog 48 #[.pointer (some ⟨bb, 0, none⟩), .int .i64 I, .int .i64 V] w (Threw w) := by
      refine bld_set_p _ _ HBL.out.blk ?_
      obtain ⟨b, d, o, p, S, hb, _, _, h1, h2, h3⟩ := HBL.out.lst
      simp only [Value.pointer.injEq, Option.some.injEq, Addr.mk.injEq, and_true] at hb
      subst hb
      exact set_panics_mw _ _ _ _ w (head_cells h1).2.2 (by omega)
    have HC := Lib.hid hpan
    clear hpan hc
    go_enter Try.func46, Try.ntmps46
    go_wp2_with fail
    refine HC.out.mono ?_
    rintro e w' ⟨rfl, v, rfl⟩
    exact ⟨rfl, .inr ⟨HST.out, rfl, v, rfl⟩⟩

set_option maxRecDepth 100000 in
set_option maxHeartbeats 800000 in
include hv hB hn hG in
theorem bcl_w3 (hs : w.heap[bs]? = some (.cells #[.int .u8 3, .int .i64 F, .int .i64 I, .int .i64 E, .int .i64 V] 29 (0, 0))) :
    Calls Try.prog 46 #[.pointer (some ⟨bs, 0, none⟩), .pointer (some ⟨vb, 0, none⟩)] w (BPost G w bb lb n xs 3 I E V) := by
  have s0 := cell_at (j := 0) hs rfl
  have s2 := cell_at (j := 2) hs rfl
  have s3 := cell_at (j := 3) hs rfl
  have s4 := cell_at (j := 4) hs rfl
  have v0 := cell_at (j := 0) hv rfl
  have HBL := Lib.hid hB
  have HGL := Lib.hid hG
  clear hs hv hB
  by_cases hc : 0 ≤ I ∧ I ≤ E ∧ E ≤ xs.length
  · have HC := Lib.hid (show Calls Try.prog 49 #[.pointer (some ⟨bb, 0, none⟩), .int .i64 I, .int .i64 E] w _ from bld_slice_w (m := n) (ys := (xs.drop I.toNat).take (E.toNat - I.toNat)) I E HBL.out (by have h := slice_gsmut (a := I.toNat) (b := E.toNat) HBL.out.lst HBL.out.new HBL.out.low (by omega) (by omega) (by omega) HGL.out; rw [Int.toNat_of_nonneg hc.1, Int.toNat_of_nonneg (by omega)] at h; exact h))
    have HST := Lib.hid (show stepOf xs 3 I E V = some ((xs.drop I.toNat).take (E.toNat - I.toNat)) by unfold stepOf; rw [if_neg (by decide), if_neg (by decide), if_neg (by decide), if_pos rfl, if_pos hc])
    have _ := hn
    clear hc
    go_enter Try.func46, Try.ntmps46
    go_wp2_with fail
    refine HC.out.mono ?_
    rintro e w' ⟨rfl, h1, h2⟩
    have H1 := Lib.hid h1
    have H2 := Lib.hid h2
    clear h1 h2 HC s0 s2 s3 s4 v0
    go_wp2_with fail
    refine bodyPost_end (results_none rfl _ _ _) rfl ?_
    exact .inl ⟨_, HST.out, rfl, H1.out.mono (by omega), H2.out⟩
  · have HST := Lib.hid (show stepOf xs 3 I E V = none by unfold stepOf; rw [if_neg (by decide), if_neg (by decide), if_neg (by decide), if_pos rfl, if_neg hc])
    have hpan : Calls Try.prog 49 #[.pointer (some ⟨bb, 0, none⟩), .int .i64 I, .int .i64 E] w (Threw w) := by
      refine bld_slice_p _ _ HBL.out.blk ?_
      obtain ⟨b, d, o, p, S, hb, _, _, h1, h2, h3⟩ := HBL.out.lst
      simp only [Value.pointer.injEq, Option.some.injEq, Addr.mk.injEq, and_true] at hb
      subst hb
      exact slice_panics_mw _ _ _ _ w (head_cells h1).2.2 (by omega)
    have HC := Lib.hid hpan
    clear hpan hc
    go_enter Try.func46, Try.ntmps46
    go_wp2_with fail
    refine HC.out.mono ?_
    rintro e w' ⟨rfl, v, rfl⟩
    exact ⟨rfl, .inr ⟨HST.out, rfl, v, rfl⟩⟩

set_option maxRecDepth 100000 in
set_option maxHeartbeats 1600000 in
include hv hB hn in
theorem bcl_w4 (hs : w.heap[bs]? = some (.cells #[.int .u8 4, .int .i64 F, .int .i64 I, .int .i64 E, .int .i64 V] 29 (0, 0))) (hgs : ¬ G bs) (hgv : ¬ G vb) (hI : 0 ≤ I ∧ I ≤ 100000) :
    Calls Try.prog 46 #[.pointer (some ⟨bs, 0, none⟩), .pointer (some ⟨vb, 0, none⟩)] w (BPost G w bb lb n xs 4 I E V) := by
  obtain ⟨m, rfl⟩ : ∃ m : Nat, I = m := ⟨I.toNat, by omega⟩
  have hm : m ≤ 100000 := by omega
  have s0 := cell_at (j := 0) hs rfl
  have hbs : bs ≠ bb := ne_of_ty hs hB.blk (by decide)
  have hvs : vb ≠ bb := ne_of_ty hv hB.blk (by decide)
  have HS := Lib.hid hs
  have HV := Lib.hid hv
  have HBL := Lib.hid hB
  clear hs hv hB hI
  go_enter Try.func46, Try.ntmps46
  go_wp2_with fail
  clear s0
  go_loopg [2] m (fun q p wr => ∃ i : Nat, p = .int .i64 (i : Int) ∧ i + q = m ∧ Bld G wr bb lb (n + i) (xs ++ up i V) ∧ But (fun x => G x ∨ x = bb) w wr)
  case atStart => exact ⟨0, rfl, by omega, by simpa [up_zero] using HBL.out, But.refl _ _⟩
  case round =>
    clear HBL
    obtain ⟨i, rfl, hik, g1, g2⟩ := hrel
    have hs1 := g2.at HS.out fun h => h.elim hgs hbs
    have s2 := cell_at (j := 2) hs1 rfl
    have s4 := cell_at (j := 4) hs1 rfl
    have v0 := cell_at (j := 0) (g2.at HV.out fun h => h.elim hgv hvs) rfl
    have G1 := Lib.hid g1
    have G2 := Lib.hid g2
    clear g1 g2 hs1
    by_cases hlt : i < m
    · have h1 : decide ((i : Int) < (m : Int)) = true := by simp; omega
      have hw1 : IntKind.i64.wrap ((i : Int) + 1) = ((i + 1 : Nat) : Int) := by rw [IntKind.wrap_i64]; omega
      have HC := Lib.hid (bld_append_w (wrap64 (V + i)) G1.out (append_gsmut (wrap64 (V + i)) G1.out.lst G1.out.new (by omega)))
      go_wp2_with fail
      refine (counted_w m wr (by omega)).mono ?_
      rintro e w' ⟨rfl, rfl⟩
      go_wp2_with fail
      refine HC.out.mono ?_
      rintro e w' ⟨rfl, k1, k2⟩
      have K1 := Lib.hid k1
      have K2 := Lib.hid (G2.out.trans k2)
      clear k1 k2 s2 s4 v0 HC
      go_wp2_with fail
      go_roundg (gk - 1)
      case measure => omega
      case rel =>
        refine ⟨i + 1, rfl, by omega, ?_, K2.out⟩
        have e1 : n + (i + 1) = n + i + 1 := by omega
        rw [e1, up_succ]
        simpa using K1.out
    · have h1 : decide ((i : Int) < (m : Int)) = false := by simp; omega
      obtain rfl : m = i := by omega
      go_wp2_with fail
      refine (counted_w m wr (by omega)).mono ?_
      rintro e w' ⟨rfl, rfl⟩
      go_wp2_with fail
      refine bodyPost_end (results_none rfl _ _ _) rfl ?_
      exact .inl ⟨_, by simp [stepOf], rfl, G1.out.mono (by omega), G2.out⟩

set_option maxRecDepth 100000 in
set_option maxHeartbeats 1600000 in
include hv hB hn in
theorem bcl_w5 (hs : w.heap[bs]? = some (.cells #[.int .u8 5, .int .i64 F, .int .i64 I, .int .i64 E, .int .i64 V] 29 (0, 0))) (hgs : ¬ G bs) (hgv : ¬ G vb) (hI : 0 ≤ I ∧ I ≤ 100000) :
    Calls Try.prog 46 #[.pointer (some ⟨bs, 0, none⟩), .pointer (some ⟨vb, 0, none⟩)] w (BPost G w bb lb n xs 5 I E V) := by
  obtain ⟨m, rfl⟩ : ∃ m : Nat, I = m := ⟨I.toNat, by omega⟩
  have hm : m ≤ 100000 := by omega
  have s0 := cell_at (j := 0) hs rfl
  have hbs : bs ≠ bb := ne_of_ty hs hB.blk (by decide)
  have hvs : vb ≠ bb := ne_of_ty hv hB.blk (by decide)
  have HS := Lib.hid hs
  have HV := Lib.hid hv
  have HBL := Lib.hid hB
  clear hs hv hB hI
  go_enter Try.func46, Try.ntmps46
  go_wp2_with fail
  clear s0
  go_loopg [3] m (fun q p wr => ∃ i : Nat, p = .int .i64 (i : Int) ∧ i + q = m ∧ Bld G wr bb lb (n + i) ((up i V).reverse ++ xs) ∧ But (fun x => G x ∨ x = bb) w wr)
  case atStart => exact ⟨0, rfl, by omega, by simpa [up_zero] using HBL.out, But.refl _ _⟩
  case round =>
    clear HBL
    obtain ⟨i, rfl, hik, g1, g2⟩ := hrel
    have hs1 := g2.at HS.out fun h => h.elim hgs hbs
    have s2 := cell_at (j := 2) hs1 rfl
    have s4 := cell_at (j := 4) hs1 rfl
    have v0 := cell_at (j := 0) (g2.at HV.out fun h => h.elim hgv hvs) rfl
    have G1 := Lib.hid g1
    have G2 := Lib.hid g2
    clear g1 g2 hs1
    by_cases hlt : i < m
    · have h1 : decide ((i : Int) < (m : Int)) = true := by simp; omega
      have hw1 : IntKind.i64.wrap ((i : Int) + 1) = ((i + 1 : Nat) : Int) := by rw [IntKind.wrap_i64]; omega
      have HC := Lib.hid (bld_prepend_w (wrap64 (V + i)) G1.out (prepend_gsmut (wrap64 (V + i)) G1.out.lst G1.out.new (by omega)))
      go_wp2_with fail
      refine (counted_w m wr (by omega)).mono ?_
      rintro e w' ⟨rfl, rfl⟩
      go_wp2_with fail
      refine HC.out.mono ?_
      rintro e w' ⟨rfl, k1, k2⟩
      have K1 := Lib.hid k1
      have K2 := Lib.hid (G2.out.trans k2)
      clear k1 k2 s2 s4 v0 HC
      go_wp2_with fail
      go_roundg (gk - 1)
      case measure => omega
      case rel =>
        refine ⟨i + 1, rfl, by omega, ?_, K2.out⟩
        have e1 : n + (i + 1) = n + i + 1 := by omega
        rw [e1, up_succ]
        simpa using K1.out
    · have h1 : decide ((i : Int) < (m : Int)) = false := by simp; omega
      obtain rfl : m = i := by omega
      go_wp2_with fail
      refine (counted_w m wr (by omega)).mono ?_
      rintro e w' ⟨rfl, rfl⟩
      go_wp2_with fail
      refine bodyPost_end (results_none rfl _ _ _) rfl ?_
      exact .inl ⟨_, by simp [stepOf], rfl, G1.out.mono (by omega), G2.out⟩

end

theorem bcl_any (bs vb bb lb n k : Nat) (F I E V : Int) (G : Nat → Prop) (w : World) (xs : List Int) (hs : w.heap[bs]? = some (.cells #[.int .u8 (k : Int), .int .i64 F, .int .i64 I, .int .i64 E, .int .i64 V] 29 (0, 0)))
    (hv : w.heap[vb]? = some (.cells #[.pointer (some ⟨bb, 0, none⟩)] 86 (0, 0))) (hB : Bld G w bb lb n xs) (hn : n + 100000 < 33554431) (hG : Glob w) (hgs : ¬ G bs) (hgv : ¬ G vb) (hk : k ≤ 5) (hI : 4 ≤ k → 0 ≤ I ∧ I ≤ 100000) :
    Calls Try.prog 46 #[.pointer (some ⟨bs, 0, none⟩), .pointer (some ⟨vb, 0, none⟩)] w (BPost G w bb lb n xs k I E V) := by
  rcases (show k = 0 ∨ k = 1 ∨ k = 2 ∨ k = 3 ∨ k = 4 ∨ k = 5 by omega) with rfl | rfl | rfl | rfl | rfl | rfl
  · exact bcl_w0 bs vb bb lb n F I E V G w xs hv hB hn hs
  · exact bcl_w1 bs vb bb lb n F I E V G w xs hv hB hn hs
  · exact bcl_w2 bs vb bb lb n F I E V G w xs hv hB hn hs
  · exact bcl_w3 bs vb bb lb n F I E V G w xs hv hB hn hG hs
  · exact bcl_w4 bs vb bb lb n F I E V G w xs hv hB hn hs hgs hgv (hI (by omega))
  · exact bcl_w5 bs vb bb lb n F I E V G w xs hv hB hn hs hgs hgv (hI (by omega))

set_option maxRecDepth 100000 in
set_option maxHeartbeats 400000 in
/-- thrown of a closure: whether the closure panics, what it does -/
theorem thrown_w46 (cap : Array Value) (w : World) (R : Bool → World → Prop)
    (h : Calls Try.prog 46 cap (w.alloc (.cells #[.bool false] 4)) fun e w' => w'.cell? ⟨w.heap.size, 0, none⟩ = some (.bool false) ∧ w'.frozen? ⟨w.heap.size, 0, none⟩ = false ∧
      ((e = .returned (.tuple #[]) ∧ R false w') ∨ ∃ t v, e = .panicked [{ v := .iface t v, recovered := false }] ∧ R true w')) :
    Calls Try.prog 37 #[.func (.func 46) #[] cap] w fun e w'' => ∃ b w', e = .returned (.bool b) ∧ R b w' ∧ But (· = w.heap.size) w' w'' := by
  have hmf : ∀ (fn : Fn) (first cap : Array Value) (w : World), (Instr.makeFunc fn first cap).run Try.prog w = .ok (.func fn first cap) w := fun _ _ _ _ => rfl
  go_enter_defers Try.func37, Try.ntmps37
  go_wp2_with fail
  refine h.mono ?_
  rintro e w' ⟨h1, h2, ⟨rfl, h3⟩ | ⟨t, v, rfl, h3⟩⟩
  · have H3 := Lib.hid h3; clear h3 h
    go_wp2_with fail
    refine leaves_cons (f := 63) (args := #[.pointer (some ⟨w.heap.size, 0, none⟩)]) (by simp) (by simp [go_sem]) ?_
    refine (catch_idle ⟨w.heap.size, 0, none⟩ false _ ?_ ?_).mono ?_
    · simp [go_sem, h1]
    · simp [go_sem, h2]
    rintro e u' w'' ⟨rfl, rfl, rfl⟩
    have hl := World.cell?_setCell_same (v := .bool false) _ _ (World.cell?_setCell_same (v := .bool false) _ _ h1)
    simp [Leaves, settle, results, Try.results37, go_sem, hl]
    exact ⟨_, H3.out, ((But.refl (· = w.heap.size) w').setCell (p := ⟨w.heap.size, 0, none⟩) (.inl rfl) _).setCell (p := ⟨w.heap.size, 0, none⟩) (.inl rfl) _⟩
  · have H3 := Lib.hid h3; clear h3 h
    refine leaves_cons (f := 63) (args := #[.pointer (some ⟨w.heap.size, 0, none⟩)]) (by simp) (by simp [go_sem]) ?_
    refine (catch_panic ⟨w.heap.size, 0, none⟩ false _ _ [] _ ?_ ?_).mono ?_
    · simp [go_sem, h1]
    · simp [go_sem, h2]
    rintro e u' w'' ⟨rfl, rfl, rfl⟩
    have hl := World.cell?_setCell_same (v := .bool true) _ _ h1
    simp [Leaves, settle, results, Try.results37, go_sem, hl]
    exact ⟨_, H3.out, (But.refl (· = w.heap.size) w').setCell (p := ⟨w.heap.size, 0, none⟩) (.inl rfl) _⟩

theorem SListG.narrow {G G' : Nat → Prop} {w : World} {v : Value} {n : Nat} {xs : List Int} (h : SListG G w v n xs) (hg : ∀ x, G x → x < w.heap.size → G' x) : SListG G' w v n xs := by
  obtain ⟨b, d, o, p, S, h1, h2, h3, h4, h5, h6⟩ := h
  exact ⟨b, d, o, p, fun x => S x ∧ x < w.heap.size, h1, hg b h2 (lt_of_block h4), fun x hx => ⟨hg x (h3 x hx.1).1 hx.2, (h3 x hx.1).2⟩, h4, h5.inS fun x h1 h2 => ⟨h1, h2⟩, h6⟩

/-- the blocks of a builder's list, what was made between the sizes a and b left out -/
def gap (G : Nat → Prop) (a b : Nat) (x : Nat) : Prop := (G x ∧ x < a) ∨ b ≤ x
theorem Bld.gap {G : Nat → Prop} {w w' : World} {bb lb n : Nat} {xs : List Int} (h : Bld G w bb lb n xs) (hb : But (fun x => ¬ G x ∧ x ≠ bb) w w') (hs : Stay w w') : Bld (gap G w.heap.size w'.heap.size) w' bb lb n xs := by
  have hbb := lt_of_block h.blk
  refine ⟨hb.at h.blk fun e => e.2 rfl, (h.lst.narrow (G' := Go.Proofs.Ytnahipfdnadccaa.gap G w.heap.size w'.heap.size) fun x hx hl => .inl ⟨hx, hl⟩).stay hs, ?_, fun x hx => .inr hx, ?_⟩
  · rintro (h1 | h1)
    · exact h.out h1.1
    · have := hb.size; omega
  · rintro (h1 | h1)
    · exact h.low h1.1
    · have := hb.size; omega
theorem gap_sub {G : Nat → Prop} {w w' : World} (hn : ∀ x, w.heap.size ≤ x → G x) (hs : w.heap.size ≤ w'.heap.size) : ∀ x, gap G w.heap.size w'.heap.size x → G x := fun x hx => hx.elim (fun h => h.1) fun h => hn x (Nat.le_trans hs h)
theorem Bld.wide {G G' : Nat → Prop} {w : World} {bb lb n : Nat} {xs : List Int} (h : Bld G' w bb lb n xs) (hg : ∀ x, G' x → G x) (ho : ¬ G bb) (hl : ¬ G 0) : Bld G w bb lb n xs :=
  ⟨h.blk, h.lst.narrow fun x hx _ => hg x hx, ho, fun x hx => hg x (h.new x hx), hl⟩

end Go.Proofs.Ytnahipfdnadccaa

