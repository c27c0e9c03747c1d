/- ListRun: what the versions hold. Conditions of this file: none. -/
import Derived.Test.YtnahipfdnadccaaVersA
namespace Go.Proofs.Ytnahipfdnadccaa
open Go.RowKit

theorem info32 : (Try.prog.info? 32).map (fun i => (i.zero, i.size, i.bytes)) = some (some (.slice none 0 0), 1, 24) := by kernel_rfl

theorem grown_below {w w' : World} (h : Below w.heap.size w w') : w.grownBy w' none := ⟨h.os, h.tape, h.output, h.size, fun k hk _ => h.block k hk⟩
theorem own_below {w w' : World} {b size n : Nat} {e : TypeId} {v : Value} {xs : List Value} (ho : w.ownsRow b e size v n xs) (h : Below w.heap.size w w') : w'.ownsRow b e size v n xs :=
  ho.kept (grown_below h) (by cases hv : v.ownBlock <;> simp)
theorem own_base {w : World} {b b' size n : Nat} {e : TypeId} {v : Value} {xs : List Value} (ho : w.ownsRow b e size v n xs) (h : b' ≤ b) : w.ownsRow b' e size v n xs := by
  refine ⟨ho.1, ?_⟩
  rcases ho.2 with h1 | ⟨g, cap, cur, h1, h2, h3⟩
  · exact .inl h1
  · exact .inr ⟨g, cap, cur, h1, Nat.le_trans h h2, h3⟩

/-- v is a slice of whole numbers, the call's own -/
def Ints (w : World) (B : Nat) (u : Value) (xs : List Int) : Prop := w.ownsRow B 2 1 u xs.length (xs.map (Value.int .i64)) ∧ (xs = [] → u = .slice none 0 0)
/-- v is a slice of slices of whole numbers, the call's own -/
def Rows2 (w : World) (B : Nat) (v : Value) (vs : List (List Int)) : Prop :=
  ∃ us : List Value, w.ownsRow B 32 1 v vs.length us ∧ us.length = vs.length ∧ ∀ (i : Nat) (u : Value), us[i]? = some u → ∃ xs : List Int, vs[i]? = some xs ∧ Ints w B u xs

theorem rows2_push {w0 A w1 : World} {vs : List (List Int)} {v' u : Value} {us : List Value} {ys : List Int}
    (hkeep : ∀ u xs, Ints A w0.heap.size u xs → Ints w1 w0.heap.size u xs)
    (hall : ∀ (i : Nat) (u : Value), us[i]? = some u → ∃ xs : List Int, vs[i]? = some xs ∧ Ints A w0.heap.size u xs) (hlen : us.length = vs.length) (hr : Ints A w0.heap.size u ys)
    (hown : w1.ownsRow w0.heap.size 32 1 v' (vs.length + 1) (us ++ [u])) : Rows2 w1 w0.heap.size v' (vs ++ [ys]) := by
  refine ⟨us ++ [u], by simpa using hown, by simp [hlen], fun i q hq => ?_⟩
  rcases Nat.lt_or_ge i us.length with h | h
  · rw [List.getElem?_append_left h] at hq
    obtain ⟨xs, h1, h2⟩ := hall i q hq
    exact ⟨xs, by rw [List.getElem?_append_left (by omega)]; exact h1, hkeep _ _ h2⟩
  · rw [List.getElem?_append_right h] at hq
    have : i - us.length = 0 := by
      rcases Nat.eq_zero_or_pos (i - us.length) with h | h
      · exact h
      · rw [List.getElem?_eq_none (by simp; omega)] at hq; cases hq
    rw [this] at hq
    simp only [List.getElem?_cons_zero, Option.some.injEq] at hq
    subst hq
    exact ⟨ys, by rw [List.getElem?_append_right (by omega), show i - vs.length = 0 by omega]; rfl, hkeep _ _ hr⟩

theorem Vers.kept {w wr w' : World} {n : Nat} {vs : List (List Int)} {ps : List Bool} {l p : Value} (h : Vers w n vs ps l p wr) (hb : Below w.heap.size w w') (hs : Stay wr w')
    (hP : wr.ownsRow w.heap.size 4 1 p ps.length (ps.map Value.bool) → w'.ownsRow w.heap.size 4 1 p ps.length (ps.map Value.bool))
    (hL : ∀ ptrs, wr.ownsRow w.heap.size 72 1 l vs.length ptrs → w'.ownsRow w.heap.size 72 1 l vs.length ptrs) : Vers w n vs ps l p w' := by
  obtain ⟨ptrs, h1, h2, h3⟩ := h.ownL
  exact ⟨hb, hP h.ownP, ptrs, hL _ h1, h2, fun i r hr => by
    obtain ⟨xs, h4, h5⟩ := h3 i r hr
    exact ⟨xs, h4, h5.stay hs⟩⟩

set_option maxRecDepth 100000 in
set_option maxHeartbeats 1600000 in
/-- ListRun, given what versionsOf does -/
theorem run_w (w : World) (v0 sv : Value) (n : Nat) (vs : List (List Int)) (ps : List Bool) (hn : n < 33554432) (hvs : vs.length ≤ 1000000)
    (h : Calls Try.prog 29 #[v0, sv] w fun e w' => ∃ l p, e = .returned (.tuple #[l, p]) ∧ Vers w n vs ps l p w') :
    Calls Try.prog 15 #[v0, sv] w fun e w' => ∃ l p, e = .returned (.tuple #[l, p]) ∧ Below w.heap.size w w' ∧ Rows2 w' w.heap.size l vs ∧ w'.ownsRow w.heap.size 4 1 p ps.length (ps.map Value.bool) := by
  obtain ⟨i32, hi, hz0, hz1, hz2⟩ := info_parts info32
  have HI := Lib.hid (And.intro hi (And.intro hz0 (And.intro hz1 hz2)))
  clear hi hz0 hz1 hz2
  have HH := Lib.hid h
  clear h
  go_enter Try.func15, Try.ntmps15
  go_wp2_with fail
  refine HH.out.mono ?_
  rintro e w1 ⟨l, p, rfl, hV⟩
  have HV := Lib.hid hV
  obtain ⟨ptrs, hoL, hpl, -⟩ := hV.ownL
  have hll : ∃ la lc, l = .slice la vs.length lc := by
    rcases hoL.2 with ⟨h1, h2⟩ | ⟨g, cap, cur, h1, _⟩
    · exact ⟨none, 0, by rw [h1, h2]⟩
    · exact ⟨_, _, h1⟩
  obtain ⟨la, lc, rfl⟩ := hll
  clear hV hoL hpl HH
  go_wp2_with fail
  go_loopg [4, 18] vs.length (fun k v i wr => ∃ j : Nat, j + k = vs.length ∧ i = .int .i64 (j : Int) ∧ Vers w n vs ps (.slice la vs.length lc) p wr ∧ Rows2 wr w.heap.size v (vs.take j))
  case atStart => exact ⟨0, by omega, rfl, HV.out, [], World.ownsRow_nil _ _ _ _, rfl, fun i u h => by simp at h⟩
  case round =>
    clear HV ptrs
    obtain ⟨j, hjk, rfl, hV, hR⟩ := hrel
    have HV := Lib.hid hV
    clear hV
    have hw1 : IntKind.i64.wrap ((j : Int) + 1) = (j : Int) + 1 := by rw [IntKind.wrap_i64]; omega
    by_cases hlt : j < vs.length
    · have h1 : decide ((j : Int) < (vs.length : Int)) = true := by simp; omega
      obtain ⟨us, hoU, hul, hUI⟩ := hR
      have htl : (vs.take j).length = j := by simp; omega
      rw [htl] at hoU hul
      obtain ⟨ptrs, hoL, hpl, hpI⟩ := HV.out.ownL
      obtain ⟨q, hq⟩ : ∃ q, ptrs[j]? = some q := ⟨ptrs[j]'(by rw [hpl]; exact hlt), List.getElem?_eq_getElem _⟩
      obtain ⟨xs, hxs, hql⟩ := hpI j q hq
      have HQL := Lib.hid hql
      rcases hoL.2 with ⟨_, h0⟩ | ⟨g, lcap, cur, hl1, -, -, -, -, -, -⟩
      · omega
      have hcell : wr.cell? ⟨g, j, none⟩ = some q := by
        have h1 := hoL.cells (g := g) (by rw [hl1]; rfl) j _ hq
        rw [Addr.add_lit, Nat.zero_add] at h1
        exact h1
      simp only [Value.slice.injEq] at hl1
      obtain ⟨rfl, -, rfl⟩ := hl1
      have HOU := Lib.hid hoU
      have HUI := Lib.hid hUI
      have HUL := Lib.hid hul
      have HXS := Lib.hid hxs
      clear hoU hUI hul hxs hoL hpl hpI hq hql htl
      go_wp2_with fail
      refine (got_any HQL.out hn).mono ?_
      rintro e w2 ⟨u, rfl, k1, k2, k3⟩
      have K := Lib.hid (And.intro k1 k3)
      have K2 := Lib.hid k2
      have hV2 : Vers w n vs ps (.slice (some ⟨g, 0, none⟩) vs.length lc) p w2 := HV.out.kept (HV.out.below.trans (k2.mono HV.out.below.size)) (Stay.of_below k2) (fun h => own_below h k2) (fun _ h => own_below h k2)
      have hO2 := own_below HOU.out k2
      have hsl : ∃ ua uc, u = .slice ua xs.length uc := by
        rcases k1.2 with ⟨h1, h2⟩ | ⟨g, cap, cur, h1, _⟩
        · exact ⟨none, 0, by rw [h1, h2]⟩
        · exact ⟨_, _, h1⟩
      obtain ⟨ua, uc, rfl⟩ := hsl
      have HV2 := Lib.hid hV2
      have HO2 := Lib.hid hO2
      clear k1 k2 k3 hV2 hO2 hcell
      go_wp2_with (at_builtin; refine wpList_append_own _ rfl (.tmp 22) (.tmp 25) 24 rfl w.heap.size 32 i32 (.slice none 0 0) 1 24 Try.underlying24 HI.out.1 HI.out.2.1 HI.out.2.2.1 HI.out.2.2.2 rfl (by decide) _ _ _ rfl (HO2.out.alloc _) ⟨w2.heap.size, 0, none⟩ 1 1 [.slice ua xs.length uc] rfl rfl (new_cell _ _ _) (one_oneCell rfl) (by unfold maxLen; omega) (by omega) (by have := HV2.out.below.size; simp; omega) ?_)
      intro v' w3 hown3 hgrow3 _
      have hA : Below w2.heap.size w2 (w2.alloc (.cells #[.slice ua xs.length uc] 32)) := (Below.refl _ w2).alloc (Nat.le_refl _) _
      have hB3 := below_grown (HV2.out.below.alloc HV2.out.below.size (.cells #[.slice ua xs.length uc] 32)) HO2.out (Nat.le_refl _) (Nat.le_refl _) hgrow3
      have keep : ∀ {b size n : Nat} {e : TypeId} {v : Value} {xs : List Value}, e ≠ 32 → w2.ownsRow b e size v n xs → w3.ownsRow b e size v n xs := fun he h =>
        (own_below h hA).kept hgrow3 (own_ne h HO2.out he)
      have HV3 := Lib.hid (HV2.out.kept hB3 ((Stay.of_below hA).trans (grown_stay (HO2.out.alloc _) hgrow3 (by decide))) (fun h => keep (by decide) h) (fun _ h => keep (by decide) h))
      have hR3 : Rows2 w3 w.heap.size v' (vs.take j ++ [xs]) := by
        refine rows2_push (A := w2) (fun u ys h => ⟨keep (by decide) h.1, h.2⟩) (fun i u hu => ?_) (us := us) (by rw [HUL.out]; simp; omega) ⟨own_base K.out.1 (HV.out.below.size), K.out.2⟩ ?_
        · obtain ⟨ys, h1, h2⟩ := HUI.out i u hu
          exact ⟨ys, h1, own_below h2.1 K2.out, h2.2⟩
        · have e : (vs.take j).length = j := by simp; omega
          rw [e]
          exact hown3
      have HR3 := Lib.hid hR3
      clear hR3 hown3 hgrow3 hA hB3 keep
      go_wp2_with fail
      go_roundg (gk - 1)
      case measure => omega
      case rel =>
        refine ⟨j + 1, by omega, rfl, HV3.out, ?_⟩
        rw [List.take_add_one, HXS.out]
        exact HR3.out
    · have h1 : decide ((j : Int) < (vs.length : Int)) = false := by simp; omega
      obtain rfl : j = vs.length := by omega
      rw [List.take_length] at hR
      have HR := Lib.hid hR
      clear hR
      go_wp2_with fail
      refine bodyPost_ret (results_tmp2 rfl _ _ _) rfl ?_
      exact ⟨_, _, rfl, HV.out.below, HR.out, HV.out.ownP⟩

end Go.Proofs.Ytnahipfdnadccaa
