/- What a version of a map tells.

What all versions tell. -/
import Derived.Test.YtpkndcmgialgcaaVers
namespace Go.Proofs.Ytpkndcmgialgcaa
open Go.RowKit

theorem info52 : (Try.prog.info? 52).map (fun i => (i.zero, i.size, i.bytes)) = some (some (.agg #[.int .i64 0, .int .i64 0]), 2, 16) := by kernel_rfl
theorem size46 : (Try.prog.info? 46).map (·.size) = some 2 := by kernel_rfl
/-- v is a slice of pairs in a row of its own -/
def Pairs (w : World) (B : Nat) (v : Value) (es : List (Int × Int)) : Prop := w.ownsRow B 52 2 v es.length (ecells es)

theorem But.set1 {a w : World} {b i : Nat} (h : But (· = b) a w) (u : Value) : But (· = b) a (w.setCell ⟨b, i, none⟩ u) := h.setCell (.inl rfl) _
theorem pair_new (w : World) (a b : Int) (t : TypeId) : ∀ j u, [Value.int .i64 a, .int .i64 b][j]? = some u → (w.alloc (.cells #[.int .i64 a, .int .i64 b] t)).cell? ((⟨w.heap.size, 0, none⟩ : Addr).add j) = some u := fun j u hu => by
  rw [addr_add, Nat.zero_add]
  exact cell_at (heap_alloc_last w _) (by simpa using hu)
theorem pair_one (a b : Int) : ∀ u ∈ [Value.int .i64 a, .int .i64 b], u.oneCell' = true := fun u hu => by
  simp only [List.mem_cons, List.not_mem_nil, or_false] at hu
  rcases hu with rfl | rfl <;> rfl

set_option maxRecDepth 100000 in
set_option maxHeartbeats 1600000 in
theorem mapSeen_w (h : Int → Nat) (S : Nat → Prop) (trie : Bool) (w : World) (ib mb : Nat) (n : Int) (es : List (Int × Int)) (hl : es.length < 80000000) (hs : St h S w trie ib mb es) (hib : ib < w.heap.size) :
    Calls Try.prog 55 #[.int .i64 n, .pointer (some ⟨ib, 0, none⟩)] w fun e w' => ∃ sl, e = .returned (.agg #[.int .i64 n, sl]) ∧ Pairs w' w.heap.size sl es ∧ But (· = ib) w w' := by
  obtain ⟨i52, hi, hz0, hz1, hz2⟩ := info_parts info52
  have HI := Lib.hid (And.intro hi (And.intro hz0 (And.intro hz1 hz2)))
  clear hi hz0 hz1 hz2
  have HS := Lib.hid hs
  have HIB := Lib.hid hib
  clear hs hib
  go_enter Try.func55, Try.ntmps55
  go_wp2_with fail
  have HA : Hid (But (· = ib) w ((w.alloc (Obj.cells #[Value.int IntKind.i64 0, Value.slice none 0 0] 46)).alloc (Obj.cells #[Value.int IntKind.i64 n, Value.slice none 0 0] 46))) := ((But.refl _ w).alloc _).alloc _
  have HBA : Hid (Below w.heap.size w ((w.alloc (Obj.cells #[Value.int IntKind.i64 0, Value.slice none 0 0] 46)).alloc (Obj.cells #[Value.int IntKind.i64 n, Value.slice none 0 0] 46))) := ((Below.refl _ _).alloc (Nat.le_refl _) _).alloc (by rw [size_alloc]; omega) _
  have HR : Hid (((w.alloc (Obj.cells #[Value.int IntKind.i64 0, Value.slice none 0 0] 46)).alloc (Obj.cells #[Value.int IntKind.i64 n, Value.slice none 0 0] 46)).heap[w.heap.size]? = some (.cells #[.int .i64 0, .slice none 0 0] 46 (0, 0))) := at_alloc (heap_alloc_last w _)
  have HX : Hid (((w.alloc (Obj.cells #[Value.int IntKind.i64 0, Value.slice none 0 0] 46)).alloc (Obj.cells #[Value.int IntKind.i64 n, Value.slice none 0 0] 46)).heap[w.heap.size + 1]? = some (.cells #[.int .i64 n, .slice none 0 0] 46 (0, 0))) := by
    have h := heap_alloc_last (w.alloc (Obj.cells #[Value.int IntKind.i64 0, Value.slice none 0 0] 46)) (Obj.cells #[Value.int IntKind.i64 n, Value.slice none 0 0] 46)
    rw [size_alloc] at h
    exact h
  have HS2 : Hid (St h S ((w.alloc (Obj.cells #[Value.int IntKind.i64 0, Value.slice none 0 0] 46)).alloc (Obj.cells #[Value.int IntKind.i64 n, Value.slice none 0 0] 46)) trie ib mb es) := HS.out.stay (Stay.of_below HBA.out) fun arr ha => below_at HBA.out ha
  clear HBA
  generalize (w.alloc (Obj.cells #[Value.int IntKind.i64 0, Value.slice none 0 0] 46)).alloc (Obj.cells #[Value.int IntKind.i64 n, Value.slice none 0 0] 46) = W at HA HR HX HS2 ⊢
  obtain ⟨tb, htb⟩ : ∃ tb, tb = w.heap.size := ⟨_, rfl⟩
  obtain ⟨xb, hxb⟩ : ∃ xb, xb = tb + 1 := ⟨_, rfl⟩
  rw [← htb] at HR HX ⊢
  rw [← hxb] at HX ⊢
  have HT := Lib.hid htb
  have HXB := Lib.hid hxb
  clear htb hxb
  go_loopg [] es.length (fun k wr => ∃ (done rest : List (Int × Int)) (sl : Value), es = done ++ rest ∧ k = rest.length ∧ St h S wr trie ib mb rest ∧ wr.heap[xb]? = some (.cells #[.int .i64 n, sl] 46 (0, 0)) ∧ wr.heap[tb]? = some (.cells #[.int .i64 0, .slice none 0 0] 46 (0, 0)) ∧ wr.ownsRow tb 52 2 sl done.length (ecells done) ∧ But (· = ib) w wr)
  case atStart => exact ⟨[], es, _, rfl, rfl, HS2.out, HX.out, HR.out, World.ownsRow_nil _ _ _ _, HA.out⟩
  case round =>
    obtain ⟨done, rest, sl, hes, hk, hst, hx, hr, ho, hb⟩ := hrel
    have HST := Lib.hid hst
    have HX2 := Lib.hid hx
    have HR2 := Lib.hid hr
    have HO := Lib.hid ho
    have HB := Lib.hid hb
    have HES := Lib.hid hes
    have HK := Lib.hid hk
    clear hk
    clear hst hx hr ho hb hes HA HR HX HS2
    go_wp2_with fail
    refine (done_w HST.out).mono ?_
    rintro e w' ⟨rfl, rfl⟩
    cases rest with
    | nil =>
      have x0 := cell_at (j := 0) HX2.out rfl
      have x1 := cell_at (j := 1) HX2.out rfl
      have r0 := cell_at (j := 0) HR2.out rfl
      have r1 := cell_at (j := 1) HR2.out rfl
      have f0 : wr.frozen? ⟨tb, 0, none⟩ = false := frozen_of_row _ _ _ _ _ HR2.out
      have f1 : wr.frozen? ⟨tb, 1, none⟩ = false := frozen_of_row _ _ _ _ _ HR2.out
      have hsl : sl = .slice none 0 0 ∨ ∃ g m c, sl = .slice (some ⟨g, 0, none⟩) m c := by
        rcases HO.out.2 with ⟨h9, _⟩ | ⟨g, cap, cur, h9, _⟩
        · exact .inl h9
        · exact .inr ⟨g, _, cap, h9⟩
      simp only [List.isEmpty_nil]
      rcases hsl with rfl | ⟨g, m, c, rfl⟩
      · go_wp2_with fail
        have hg := heap_setCell_same _ tb 1 _ 46 (.slice none 0 0) (heap_setCell_same wr tb 0 _ 46 (.int .i64 n) HR2.out)
        have hg2 : ((wr.setCell ⟨tb, 0, none⟩ (.int .i64 n)).setCell ⟨tb, 1, none⟩ (.slice none 0 0)).heap[tb]? = some (.cells #[.int .i64 n, (.slice none 0 0)] 46 (0, 0)) := by simpa using hg
        refine bodyPost_ret (v := .agg #[.int .i64 n, (.slice none 0 0)]) (results_cell_row rfl _ _ tb 46 _ (0, 0) _ rfl hg2 Try.underlying46 rfl size46) rfl ?_
        refine ⟨_, rfl, ?_, (HB.out.setCell (.inr (by rw [HT.out]; exact Nat.le_refl _)) _).setCell (.inr (by rw [HT.out]; exact Nat.le_refl _)) _⟩
        have e1 : es = done := by rw [HES.out, List.append_nil]
        unfold Pairs
        rw [e1, ← HT.out]
        exact own_but HO.out (((But.refl (· = tb) wr).setCell (.inl rfl) _).setCell (.inl rfl) _) (own_off HO.out HR2.out (by decide))
      · go_wp2_with fail
        have hg := heap_setCell_same _ tb 1 _ 46 (.slice (some ⟨g, 0, none⟩) m c) (heap_setCell_same wr tb 0 _ 46 (.int .i64 n) HR2.out)
        have hg2 : ((wr.setCell ⟨tb, 0, none⟩ (.int .i64 n)).setCell ⟨tb, 1, none⟩ (.slice (some ⟨g, 0, none⟩) m c)).heap[tb]? = some (.cells #[.int .i64 n, (.slice (some ⟨g, 0, none⟩) m c)] 46 (0, 0)) := by simpa using hg
        refine bodyPost_ret (v := .agg #[.int .i64 n, (.slice (some ⟨g, 0, none⟩) m c)]) (results_cell_row rfl _ _ tb 46 _ (0, 0) _ rfl hg2 Try.underlying46 rfl size46) rfl ?_
        refine ⟨_, rfl, ?_, (HB.out.setCell (.inr (by rw [HT.out]; exact Nat.le_refl _)) _).setCell (.inr (by rw [HT.out]; exact Nat.le_refl _)) _⟩
        have e1 : es = done := by rw [HES.out, List.append_nil]
        unfold Pairs
        rw [e1, ← HT.out]
        exact own_but HO.out (((But.refl (· = tb) wr).setCell (.inl rfl) _).setCell (.inl rfl) _) (own_off HO.out HR2.out (by decide))
    | cons y rest =>
      have hl2 : rest.length < 90000000 := by
        have := HES.out
        have := congrArg List.length this
        rw [List.length_append, List.length_cons] at this
        omega
      have hdl : done.length < 80000000 := by
        have := congrArg List.length HES.out
        rw [List.length_append] at this
        omega
      have HDL := Lib.hid hdl
      simp only [List.isEmpty_cons]
      go_wp2_with fail
      refine (next_s hl2 HST.out).mono ?_
      rintro e w2 ⟨rfl, hb2, hst2⟩
      have HST2 := Lib.hid hst2
      have hne1 : xb ≠ ib := by have := HXB.out; have := HT.out; have := HIB.out; omega
      have hne2 : tb ≠ ib := by have := HT.out; have := HIB.out; omega
      have HX3 := Lib.hid (hb2.at HX2.out hne1)
      have HR3 := Lib.hid (hb2.at HR2.out hne2)
      have HO3 := Lib.hid (own_but HO.out hb2 fun k hk e1 => by have := (HO.out.lt k hk).1; have := HT.out; have := HIB.out; omega)
      have HB3 := Lib.hid (HB.out.trans hb2)
      clear hb2 hst2 hl2 hdl hne1 hne2 HST HX2 HR2 HO HB
      have hx1 := cell_at (j := 1) HX3.out rfl
      obtain ⟨y1, y2⟩ := y
      go_wp2_with (at_builtin; refine wpList_append_own _ rfl (.tmp 21) (.tmp 25) 44 rfl tb 52 i52 (.agg #[.int .i64 0, .int .i64 0]) 2 16 Try.underlying44 HI.out.1 HI.out.2.1 HI.out.2.2.1 HI.out.2.2.2 rfl (by decide) _ _ _ rfl (HO3.out.alloc _) ⟨w2.heap.size, 0, none⟩ 1 1 [.int .i64 y1, .int .i64 y2] rfl rfl (pair_new _ _ _ _) (pair_one _ _) (by have := HDL.out; unfold maxLen; omega) (by have := HDL.out; omega) (by have := HB3.out.size; have := HT.out; rw [size_alloc]; omega) ?_)
      intro v4 w4 hown4 hgrow4 _
      have hg4 := but_grown hgrow4
      have HX4 : Hid (w4.heap[xb]? = some (.cells #[.int .i64 n, sl] 46 (0, 0))) := by
        have h9 := own_off HO3.out HX3.out (by decide)
        exact hg4.at (at_alloc HX3.out) fun e1 => h9 xb e1 rfl
      have HR4 : Hid (w4.heap[tb]? = some (.cells #[.int .i64 0, .slice none 0 0] 46 (0, 0))) := by
        have h9 := own_off HO3.out HR3.out (by decide)
        exact hg4.at (at_alloc HR3.out) fun e1 => h9 tb e1 rfl
      have hA4 : Below tb w2 w4 := below_grown ((Below.refl tb w2).alloc (by have := HB3.out.size; have := HT.out; omega) (.cells #[.int .i64 y1, .int .i64 y2] 52)) HO3.out (Nat.le_refl _) (by have := HB3.out.size; have := HT.out; omega) hgrow4
      have HS4 : Hid (St h S w4 trie ib mb rest) := by
        have hAA : Below w2.heap.size w2 (w2.alloc (.cells #[.int .i64 y1, .int .i64 y2] 52)) := (Below.refl _ _).alloc (Nat.le_refl _) _
        exact HST2.out.stay ((Stay.of_below hAA).trans (grown_stay (HO3.out.alloc _) (Below.refl _ _) hgrow4 (by unfold Own; simp))) fun arr ha => (hA4.block ib (by have := HT.out; have := HIB.out; omega)).trans ha
      have HB4 : Hid (But (· = ib) w w4) := ⟨hA4.os.trans HB3.out.os, hA4.tape.trans HB3.out.tape, hA4.output.trans HB3.out.output, Nat.le_trans HB3.out.size hA4.size, fun k hk hs => (hA4.block k (by have := HT.out; omega)).trans (HB3.out.block k hk hs)⟩
      obtain ⟨g4, c4, rfl⟩ : ∃ g4 c4, v4 = .slice (some ⟨g4, 0, none⟩) (done.length + 1) c4 := by
        rcases hown4.2 with ⟨-, h9⟩ | ⟨g, cap, cur, h9, -⟩
        · omega
        · exact ⟨g, cap, h9⟩
      have HO4 := Lib.hid hown4
      clear hown4 hgrow4 hg4 hA4 hx1
      have hx1 := cell_at (j := 1) HX4.out rfl
      have hxf : w4.frozen? ⟨xb, 1, none⟩ = false := frozen_of_row _ _ _ _ _ HX4.out
      go_wp2_with fail
      go_roundg rest.length
      case measure => have := HK.out; simp only [List.length_cons] at this; omega
      case rel =>
        have hbs : But (· = xb) w4 (w4.setCell ⟨xb, 1, none⟩ (.slice (some ⟨g4, 0, none⟩) (done.length + 1) c4)) := (But.refl _ w4).set1 _
        have hne1 : xb ≠ ib := by have := HXB.out; have := HT.out; have := HIB.out; omega
        refine ⟨done ++ [(y1, y2)], rest, _, by rw [HES.out, List.append_assoc]; rfl, rfl, ?_, heap_setCell_same w4 xb 1 _ 46 _ HX4.out, ?_, ?_, HB4.out.setCell (.inr (by have := HXB.out; have := HT.out; show _ ≤ xb; omega)) _⟩
        · exact HS4.out.stay (fun b c t hb ht => hbs.at hb fun e1 => by
            subst e1
            rw [HX4.out] at hb
            simp only [Option.some.injEq, Obj.cells.injEq] at hb
            exact absurd (hb.2.1 ▸ ht) (by unfold Own; simp)) fun arr ha => hbs.at ha fun e1 => hne1 e1.symm
        · exact hbs.at HR4.out (by have := HXB.out; omega)
        · rw [List.length_append, ecells_append]
          exact own_but HO4.out hbs (own_off HO4.out HX4.out (by decide))
end Go.Proofs.Ytpkndcmgialgcaa

namespace Go.Proofs.Ytpkndcmgialgcaa
open Go.RowKit

/-- sl is a slice of these pairs -/
def SeenV (w : World) (sl : Value) (es : List (Int × Int)) : Prop :=
  (sl = .slice none 0 0 ∧ es = []) ∨ ∃ (g c : Nat) (cur : Array Value), sl = .slice (some ⟨g, 0, none⟩) es.length c ∧ w.heap[g]? = some (.cells cur 52 (0, 0)) ∧ ∀ i e, es[i]? = some e → cur[i * 2]? = some (.int .i64 e.1) ∧ cur[i * 2 + 1]? = some (.int .i64 e.2)
theorem SeenV.keep {w w' : World} {sl : Value} {es : List (Int × Int)} (hk : ∀ (g : Nat) (cur : Array Value), w.heap[g]? = some (.cells cur 52 (0, 0)) → w'.heap[g]? = some (.cells cur 52 (0, 0))) : SeenV w sl es → SeenV w' sl es
  | .inl h => .inl h
  | .inr ⟨g, c, cur, h1, h2, h3⟩ => .inr ⟨g, c, cur, h1, hk g cur h2, h3⟩
theorem SeenV.below {w w' : World} {sl : Value} {es : List (Int × Int)} (hb : Below w.heap.size w w') (n : SeenV w sl es) : SeenV w' sl es := n.keep fun _ _ h => below_at hb h
theorem SeenV.of_pairs {w : World} {B : Nat} {sl : Value} {es : List (Int × Int)} (n : Pairs w B sl es) : SeenV w sl es := by
  rcases n.2 with ⟨h1, h2⟩ | ⟨g, cap, cur, h1, h2, h3, h4, h5, h6, h7⟩
  · exact .inl ⟨h1, List.eq_nil_of_length_eq_zero h2⟩
  · refine .inr ⟨g, cap, cur, h1, h3, fun i e he => ?_⟩
    obtain ⟨h8, h9⟩ := ecells_at he
    have hi : i < es.length := (List.getElem?_eq_some_iff.1 he).1
    rw [← h7, List.getElem?_take, if_pos (by omega), Array.getElem?_toList] at h8 h9
    exact ⟨h8, h9⟩

/-- versions as their cells -/
def scells : List (MS Int Int) → List Value → List Value
  | m :: vs, sl :: sls => .int .i64 (m.es.length : Nat) :: sl :: scells vs sls
  | _, _ => []
theorem scells_snoc : ∀ {vs : List (MS Int Int)} {sls : List Value} (m : MS Int Int) (sl : Value), vs.length = sls.length → scells (vs ++ [m]) (sls ++ [sl]) = scells vs sls ++ [.int .i64 (m.es.length : Nat), sl]
  | [], [], _, _, _ => rfl
  | [], _ :: _, _, _, h => by simp at h
  | _ :: _, [], _, _, h => by simp at h
  | a :: vs, b :: sls, m, sl, h => by
    simp only [List.cons_append, scells]
    rw [scells_snoc m sl (by simpa using h)]
theorem scells_at : ∀ {vs : List (MS Int Int)} {sls : List Value} {i : Nat} {m : MS Int Int} {sl : Value}, vs[i]? = some m → sls[i]? = some sl → (scells vs sls)[i * 2]? = some (.int .i64 (m.es.length : Nat)) ∧ (scells vs sls)[i * 2 + 1]? = some sl
  | [], _, _, _, _, h, _ => by simp at h
  | _ :: _, [], _, _, _, _, h => by simp at h
  | a :: vs, b :: sls, 0, m, sl, h1, h2 => by
    simp at h1 h2
    subst h1 h2
    exact ⟨rfl, rfl⟩
  | a :: vs, b :: sls, i + 1, m, sl, h1, h2 => by
    have ih := scells_at (vs := vs) (sls := sls) (i := i) (m := m) (sl := sl) (by simpa using h1) (by simpa using h2)
    rw [show (i + 1) * 2 = i * 2 + 1 + 1 by omega]
    simpa [scells] using ih

/-- v lists what the versions tell -/
def Seens (w : World) (B : Nat) (v : Value) (vs : List (MS Int Int)) : Prop :=
  ∃ sls : List Value, sls.length = vs.length ∧ w.ownsRow B 46 2 v vs.length (scells vs sls) ∧ ∀ (i : Nat) (sl : Value), sls[i]? = some sl → ∃ m : MS Int Int, vs[i]? = some m ∧ SeenV w sl m.es
theorem Seens.below {w w' : World} {B : Nat} {v : Value} {vs : List (MS Int Int)} (hb : Below w.heap.size w w') : Seens w B v vs → Seens w' B v vs
  | ⟨sls, h1, h2, h3⟩ => ⟨sls, h1, own_below h2 hb, fun i sl hi => by obtain ⟨m, h4, h5⟩ := h3 i sl hi; exact ⟨m, h4, h5.below hb⟩⟩

theorem info46 : (Try.prog.info? 46).map (fun i => (i.zero, i.size, i.bytes)) = some (some (.agg #[.int .i64 0, .slice none 0 0]), 2, 32) := by kernel_rfl
theorem two_new (w : World) (a b : Value) (t : TypeId) : ∀ j u, [a, b][j]? = some u → (w.alloc (.cells #[a, b] t)).cell? ((⟨w.heap.size, 0, none⟩ : Addr).add j) = some u := fun j u hu => by
  rw [addr_add, Nat.zero_add]
  exact cell_at (heap_alloc_last w _) (by simpa using hu)
theorem two_one {a b : Value} (ha : a.oneCell' = true) (hb : b.oneCell' = true) : ∀ u ∈ [a, b], u.oneCell' = true := fun u hu => by
  simp only [List.mem_cons, List.not_mem_nil, or_false] at hu
  rcases hu with rfl | rfl
  · exact ha
  · exact hb

set_option maxRecDepth 100000 in
set_option maxHeartbeats 3200000 in
theorem run_w (h : Int → Nat) (mo mu sh : Int) (hH : HashIs mo mu sh h) (h0 : (mo == 0) = false) (sv : Value) (steps : List Stp) (w : World) (hs : StpW w sv steps) (hn : steps.length ≤ 500) :
    Calls Try.prog 23 #[av mo mu sh, sv] w fun e w' => ∃ v, e = .returned v ∧ Seens w' w.heap.size v (versM h steps [MS.empty]) ∧ Below w.heap.size w w' := by
  obtain ⟨i46, hi, hz0, hz1, hz2⟩ := info_parts info46
  have HI := Lib.hid (And.intro hi (And.intro hz0 (And.intro hz1 hz2)))
  clear hi hz0 hz1 hz2
  have HS := Lib.hid hs
  have HH := Lib.hid hH
  have H0 := Lib.hid h0
  have HN := Lib.hid hn
  clear hs hH h0 hn
  have hbx : Below w.heap.size w (w.alloc (.cells #[.int .u32 mo, .int .u32 mu, .int .u8 sh] 34)) := (Below.refl _ _).alloc (Nat.le_refl _) _
  have HMO := Lib.hid (mapsOf_w h mo mu sh HH.out H0.out sv steps _ (HS.out.below hbx) HN.out)
  have HBX := Lib.hid hbx
  clear hbx
  obtain ⟨vs, hvs⟩ : ∃ vs, vs = versM h steps [MS.empty] := ⟨_, rfl⟩
  rw [← hvs]
  have HVS := Lib.hid hvs
  clear hvs
  unfold av
  go_enter Try.func23, Try.ntmps23
  go_wp2_with fail
  refine HMO.out.mono ?_
  rintro e w1 ⟨l, rfl, hv, hb1⟩
  have hvs := HVS.out
  rw [← hvs] at hv
  have hvl : vs.length = steps.length + 1 := by rw [hvs, versM_len]; rfl
  have hok : AllOk (steps.length + 1) vs := by
    rw [hvs]
    exact versM_ok (h := h) steps 1 [MS.empty] (fun m hm => by
      simp only [List.mem_singleton] at hm
      subst hm
      exact ⟨by simp [MS.empty, Once], by simp [MS.empty]⟩)
  obtain ⟨ptrs, hoL, hpl, hpI⟩ := hv
  obtain ⟨g, lcap, rfl⟩ : ∃ g lcap, l = .slice (some ⟨g, 0, none⟩) vs.length lcap := by
    rcases hoL.2 with ⟨_, h0⟩ | ⟨g, lcap, cur, h9, _⟩
    · omega
    · exact ⟨g, lcap, h9⟩
  have HVL := Lib.hid hvl
  have HOK := Lib.hid hok
  have HOL := Lib.hid hoL
  have HPL := Lib.hid hpl
  have HPI := Lib.hid hpI
  have HB1 : Hid (Below w.heap.size w w1) := HBX.out.trans (hb1.mono HBX.out.size)
  clear hvs hvl hok hoL hpl hpI hb1 HMO HBX
  go_wp2_with fail
  go_loopg [5, 12] vs.length (fun k v i wr => ∃ j : Nat, j + k = vs.length ∧ i = .int .i64 (j : Int) ∧ Seens wr w1.heap.size v (vs.take j) ∧ Below w1.heap.size w1 wr)
  case atStart => exact ⟨0, by omega, rfl, ⟨[], rfl, World.ownsRow_nil _ _ _ _, fun i sl hi => by simp at hi⟩, Below.refl _ _⟩
  case round =>
    obtain ⟨j, hjk, rfl, hse, hbw⟩ := hrel
    have HSE := Lib.hid hse
    have HB := Lib.hid hbw
    clear hse hbw
    have hw1 : IntKind.i64.wrap ((j : Int) + 1) = (j : Int) + 1 := by have := HVL.out; have := HN.out; rw [IntKind.wrap_i64]; omega
    by_cases hlt : j < vs.length
    · have h1 : decide ((j : Int) < (vs.length : Int)) = true := by simp; omega
      obtain ⟨r, hr⟩ : ∃ r, ptrs[j]? = some r := ⟨ptrs[j]'(by rw [HPL.out]; exact hlt), List.getElem?_eq_getElem _⟩
      obtain ⟨m, hm, mb, rfl, hmap⟩ := HPI.out j r hr
      have hcm : wr.cell? ⟨g, j, none⟩ = some (.pointer (some ⟨mb, 0, none⟩)) := own_cell (own_below HOL.out HB.out) hr
      have hmap2 : MapAt h mo mu sh Any wr mb m := hmap.keeps (Keeps.of_stay (Stay.of_below HB.out))
      obtain ⟨hon, hml⟩ := HOK.out m (List.mem_of_getElem? hm)
      have hml2 : m.es.length < 80000000 := by have := HN.out; omega
      have HM := Lib.hid hm
      have HMAP := Lib.hid hmap2
      have hc0 : wr.cell? ⟨mb, 0, none⟩ = some (.int .i64 (m.es.length : Nat)) := by
        obtain ⟨root, q1, _⟩ := hmap2
        exact cell_at q1 rfl
      have HML := Lib.hid hml2
      clear hr hm hmap hmap2 hon hml hml2
      go_wp2_with fail
      refine (len_w mb _ wr hc0).mono ?_
      rintro e w' ⟨rfl, rfl⟩
      clear hc0
      go_wp2_with fail
      refine (iter_w (by have := HML.out; omega) HMAP.out).mono ?_
      rintro e w2 ⟨rfl, hb2, hst⟩
      have HST := Lib.hid hst
      have HB2 := Lib.hid hb2
      have HLT : Hid (wr.heap.size < w2.heap.size) := by
        obtain ⟨arr, ⟨q1, _⟩ | ⟨_, _, _, _, _, _, _, q1, _⟩⟩ := hst
        · exact lt_of_block q1.1
        · exact lt_of_block q1.1
      clear hst hb2
      go_wp2_with fail
      refine (mapSeen_w h Any m.trie w2 wr.heap.size mb (m.es.length : Nat) m.es HML.out HST.out HLT.out).mono ?_
      rintro e w3 ⟨sl, rfl, hp, hb3⟩
      have HP := Lib.hid (SeenV.of_pairs hp)
      have hb23 : Below wr.heap.size wr w3 := But.below ((But.of_below HB2.out).trans hb3) (Nat.le_refl _) (fun k hk => by omega)
      have HSE3 := Lib.hid (HSE.out.below hb23)
      have HB3 := Lib.hid (HB.out.trans (hb23.mono HB.out.size))
      have hone : sl.oneCell' = true := by
        rcases hp.2 with ⟨h9, _⟩ | ⟨g, cap, cur, h9, _⟩
        · rw [h9]; rfl
        · rw [h9]; rfl
      clear hp hb3 hb23 HSE HB HB2 HST hcm
      obtain ⟨sls, q1, q2, q3⟩ := HSE3.out
      have htl : (vs.take j).length = j := by rw [List.length_take]; omega
      have HTL := Lib.hid htl
      rw [htl] at q1 q2
      have HO := Lib.hid q2
      have HQ := Lib.hid (And.intro q1 q3)
      clear q1 q2 q3 htl HSE3
      go_wp2_with (at_builtin; refine wpList_append_own _ rfl (.tmp 16) (.tmp 22) 32 rfl w1.heap.size 46 i46 (.agg #[.int .i64 0, .slice none 0 0]) 2 32 Try.underlying32 HI.out.1 HI.out.2.1 HI.out.2.2.1 HI.out.2.2.2 rfl (by decide) _ _ _ rfl (HO.out.alloc _) ⟨w3.heap.size, 0, none⟩ 1 1 [.int .i64 (m.es.length : Nat), sl] rfl rfl (two_new _ _ _ _) (two_one rfl hone) (by have := HVL.out; have := HN.out; unfold maxLen; omega) (by have := HVL.out; have := HN.out; omega) (by have := HB3.out.size; rw [size_alloc]; omega) ?_)
      intro v4 w4 hown4 hgrow4 _
      have hg4 := but_grown hgrow4
      have HB4 := Lib.hid (below_grown (HB3.out.alloc HB3.out.size (.cells #[.int .i64 (m.es.length : Nat), sl] 46)) HO.out (Nat.le_refl _) (Nat.le_refl _) hgrow4)
      have hkeep : ∀ (g : Nat) (cur : Array Value), w3.heap[g]? = some (.cells cur 52 (0, 0)) → w4.heap[g]? = some (.cells cur 52 (0, 0)) := fun g cur hg => hg4.at (at_alloc hg) fun e1 => own_off HO.out hg (by decide) g e1 rfl
      have HSE4 : Hid (Seens w4 w1.heap.size v4 (vs.take (j + 1))) := by
        have e1 : vs.take (j + 1) = vs.take j ++ [m] := by rw [List.take_add_one, HM.out]; rfl
        have hlen2 : (vs.take j).length = sls.length := by rw [HTL.out, HQ.out.1]
        refine ⟨sls ++ [sl], by rw [e1, List.length_append, List.length_append, hlen2]; rfl, ?_, fun i q hi => ?_⟩
        · rw [e1, scells_snoc m sl hlen2, List.length_append, HTL.out]
          exact hown4
        · rw [e1]
          rcases Nat.lt_or_ge i sls.length with h9 | h9
          · rw [List.getElem?_append_left h9] at hi
            obtain ⟨m', h10, h11⟩ := HQ.out.2 i q hi
            exact ⟨m', by rw [List.getElem?_append_left (by omega)]; exact h10, h11.keep hkeep⟩
          · rw [List.getElem?_append_right h9] at hi
            have e2 : i - sls.length = 0 := by
              rcases Nat.eq_zero_or_pos (i - sls.length) with h10 | h10
              · exact h10
              · rw [List.getElem?_eq_none (by simp; omega)] at hi; cases hi
            rw [e2] at hi
            simp only [List.getElem?_cons_zero, Option.some.injEq] at hi
            subst hi
            exact ⟨m, by rw [List.getElem?_append_right (by omega), show i - (vs.take j).length = 0 by omega]; rfl, HP.out.keep hkeep⟩
      clear hown4 hgrow4 hg4 hkeep
      go_wp2_with fail
      go_roundg (gk - 1)
      case measure => omega
      case rel => exact ⟨j + 1, by omega, rfl, HSE4.out, HB4.out⟩
    · have h1 : decide ((j : Int) < (vs.length : Int)) = false := by simp; omega
      obtain rfl : j = vs.length := by omega
      go_wp2_with fail
      have hse := HSE.out
      rw [List.take_length] at hse
      refine bodyPost_ret (results_tmp rfl _ _ _) rfl ?_
      obtain ⟨sls, q1, q2, q3⟩ := hse
      exact ⟨_, rfl, ⟨sls, q1, own_base q2 HB1.out.size, q3⟩, HB1.out.trans (HB.out.mono HB1.out.size)⟩
end Go.Proofs.Ytpkndcmgialgcaa
