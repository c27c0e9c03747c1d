/- Maps made by setting keys one behind the other; what the versions tell, of views. -/
import Derived.Test.YtpkndcmgialgcaaGetM
import Derived.Test.YtpkndcmgialgcaaMUnd
namespace Go.Proofs.Ytpkndcmgialgcaa
open Go.RowKit Go.Maps

section
variable (h : Int → Nat) (K V : Nat → Int)
def seqAll (j : Nat) : MS Int Int := (List.range j).foldl (fun m i => m.set h (K i) (V i)) MS.empty
def stc (i : Nat) : Stp := ⟨0, (i : Int), K i, V i, 0⟩
def stcs (j : Nat) : List Stp := (List.range j).map (stc K V)
theorem seqAll_succ (j : Nat) : seqAll h K V (j + 1) = (seqAll h K V j).set h (K j) (V j) := by unfold seqAll; rw [List.range_succ, List.foldl_append]; rfl
theorem stcs_succ (j : Nat) : stcs K V (j + 1) = stcs K V j ++ [stc K V j] := by unfold stcs; rw [List.range_succ, List.map_append]; rfl
theorem stcs_len (j : Nat) : (stcs K V j).length = j := by unfold stcs; rw [List.length_map, List.length_range]
end
section
variable {h : Int → Nat} {K V : Nat → Int}
theorem seqAll_once : ∀ j, Once (seqAll h K V j).es
  | 0 => by simp [seqAll, MS.empty, Once]
  | j + 1 => by rw [seqAll_succ]; exact set_once (seqAll_once j) _ _
theorem seqAll_len : ∀ j, (seqAll h K V j).es.length ≤ j
  | 0 => by simp [seqAll, MS.empty]
  | j + 1 => by
    rw [seqAll_succ]
    have := set_len (h := h) (seqAll_once (h := h) (K := K) (V := V) j) (K j) (V j)
    have := seqAll_len j
    omega
theorem chain_last : ∀ j, (versM h (stcs K V j) [MS.empty])[j]? = some (seqAll h K V j)
  | 0 => rfl
  | j + 1 => by
    have hl : (versM h (stcs K V j) [MS.empty]).length = j + 1 := by rw [versM_len, stcs_len]; rfl
    rw [stcs_succ, versM_snoc, List.getElem?_append_right (by omega), hl, Nat.sub_self, seqAll_succ]
    have hok : (stc K V j).ok (versM h (stcs K V j) [MS.empty]).length = true := by
      rw [hl]
      exact Asked.ok (most := 0) ⟨by show (0 : Int) ≤ j; omega, by show (j : Int) < _; omega, by show 0 ≤ 3; omega, by show (0 : Int) ≤ 0; omega, by show (0 : Int) ≤ 0; omega⟩ (by omega)
    rw [make_of hok (m := seqAll h K V j) (by show (versM h (stcs K V j) [MS.empty])[((j : Nat) : Int).toNat]? = _; rw [Int.toNat_natCast]; exact chain_last j)]
    rfl
theorem seqAll_wf (hk : ∀ i, Wf (K i)) (hv : ∀ i, Wf (V i)) : ∀ j, WfAll (seqAll h K V j).es
  | 0 => by simp [seqAll, MS.empty, WfAll]
  | j + 1 => by rw [seqAll_succ]; exact set_wf (seqAll_once j) (seqAll_wf hk hv j) (hk j) (hv j)
theorem seqAll_some : ∀ (j : Nat) (k : Int), (look (seqAll h K V j).es k).isSome = true ↔ ∃ i, i < j ∧ K i = k
  | 0, k => by simp [seqAll, MS.empty, look]
  | j + 1, k => by
    rw [seqAll_succ, set_look (MS.set_is h _ (seqAll_once j) _ _) (seqAll_once j)]
    by_cases e : k = K j
    · rw [if_pos e]
      exact ⟨fun _ => ⟨j, by omega, e.symm⟩, fun _ => rfl⟩
    · rw [if_neg e, seqAll_some j k]
      exact ⟨fun ⟨i, h1, h2⟩ => ⟨i, by omega, h2⟩, fun ⟨i, h1, h2⟩ => ⟨i, by
        rcases Nat.lt_or_ge i j with h3 | h3
        · exact h3
        · exact absurd (by rw [← h2, show i = j by omega]) e, h2⟩⟩
theorem seqAll_of {g : Int → Int} : ∀ (j : Nat) (k : Int), (∀ i, i < j → V i = g (K i)) → (∃ i, i < j ∧ K i = k) → look (seqAll h K V j).es k = some (g k)
  | 0, k, _, ⟨i, h1, _⟩ => by omega
  | j + 1, k, hg, ⟨i, h1, h2⟩ => by
    rw [seqAll_succ, set_look (MS.set_is h _ (seqAll_once j) _ _) (seqAll_once j)]
    by_cases e : k = K j
    · rw [if_pos e, hg j (by omega), e]
    · rw [if_neg e]
      exact seqAll_of j k (fun i hi => hg i (by omega)) ⟨i, by
        rcases Nat.lt_or_ge i j with h3 | h3
        · exact h3
        · exact absurd (by rw [← h2, show i = j by omega]) e, h2⟩
/-- the same keys in another order, with what the first map has -/
theorem seqAll_again {K' V' : Nat → Int} {n : Nat} (h1 : ∀ i, i < n → ∃ j, j < n ∧ K j = K' i) (h2 : ∀ j, j < n → ∃ i, i < n ∧ K' i = K j) (hV : ∀ i, i < n → V' i = (look (seqAll h K V n).es (K' i)).getD 0) (k : Int) : look (seqAll h K' V' n).es k = look (seqAll h K V n).es k := by
  by_cases e : ∃ i, i < n ∧ K' i = k
  · rw [seqAll_of (g := fun k => (look (seqAll h K V n).es k).getD 0) n k hV e]
    obtain ⟨i, h3, h4⟩ := e
    obtain ⟨j, h5, h6⟩ := h1 i h3
    have h7 := (seqAll_some (h := h) (K := K) (V := V) n k).2 ⟨j, h5, by rw [h6, h4]⟩
    cases hh : look (seqAll h K V n).es k with
    | none => rw [hh] at h7; cases h7
    | some v => simp
  · have h3 : look (seqAll h K' V' n).es k = none := by
      cases hh : look (seqAll h K' V' n).es k with
      | none => rfl
      | some v => exact absurd ((seqAll_some (h := h) n k).1 (by rw [hh]; rfl)) e
    have h4 : look (seqAll h K V n).es k = none := by
      cases hh : look (seqAll h K V n).es k with
      | none => rfl
      | some v =>
        obtain ⟨j, h5, h6⟩ := (seqAll_some (h := h) (K := K) (V := V) n k).1 (by rw [hh]; rfl)
        obtain ⟨i, h7, h8⟩ := h2 j h5
        exact absurd ⟨i, h7, by rw [h8, h6]⟩ e
    rw [h3, h4]
end
theorem GD.of_look {D : DataW Unit} {es es' : List (Int × Int)} (g : GD D es) (ho : Once es) (ho' : Once es') (hl : ∀ k, look es' k = look es k) : GD D es' :=
  ⟨by rw [g.size, look_len ho' ho hl], g.tidy, fun k => by rw [g.has, has_look ho, has_look ho', hl], fun k v hk z => g.at_ k v (by rw [← hl]; exact hk) z⟩
theorem GM.of_look {w : World} {b : Nat} {es es' : List (Int × Int)} (g : GM w b es) (ho : Once es) (ho' : Once es') (hl : ∀ k, look es' k = look es k) : GM w b es' := by
  obtain ⟨D, h1, h2⟩ := g
  exact .of h1 (h2.of_look ho ho' hl)

/-- v tells the versions vs (a view) -/
def SeenL (w : World) (v : Value) (vs : List (MS Int Int)) : Prop :=
  ∃ (a : Option Addr) (cap : Nat), v = .slice a vs.length cap ∧ ∀ i m, vs[i]? = some m → ∃ g o pa pc, a = some ⟨g, o, none⟩ ∧ w.cell? ⟨g, o + i * 2, none⟩ = some (.int .i64 (m.es.length : Nat)) ∧ w.cell? ⟨g, o + i * 2 + 1, none⟩ = some (.slice pa m.es.length pc) ∧ PairV w (.slice pa m.es.length pc) m.es
theorem SeenL.below {w w' : World} {v : Value} {vs : List (MS Int Int)} (h : SeenL w v vs) (b : Below w.heap.size w w') : SeenL w' v vs := by
  obtain ⟨a, cap, h1, h2⟩ := h
  refine ⟨a, cap, h1, fun i m hm => ?_⟩
  obtain ⟨g, o, pa, pc, h3, h4, h5, h6⟩ := h2 i m hm
  exact ⟨g, o, pa, pc, h3, (b.cell (World.block_lt_of_cell? w _ h4)).trans h4, (b.cell (World.block_lt_of_cell? w _ h5)).trans h5, h6.below b⟩
def GVersL (w : World) (v : Value) (vs : List (MS Int Int)) : Prop :=
  ∃ (a : Option Addr) (cap : Nat), v = .slice a vs.length cap ∧ ∀ i m, vs[i]? = some m → ∃ g o mb, a = some ⟨g, o, none⟩ ∧ w.cell? ⟨g, o + i, none⟩ = some (.map (some mb)) ∧ GM w mb m.es
theorem GVersL.below {w w' : World} {v : Value} {vs : List (MS Int Int)} (h : GVersL w v vs) (b : Below w.heap.size w w') : GVersL w' v vs := by
  obtain ⟨a, cap, h1, h2⟩ := h
  refine ⟨a, cap, h1, fun i m hm => ?_⟩
  obtain ⟨g, o, mb, h3, h4, h5⟩ := h2 i m hm
  exact ⟨g, o, mb, h3, (b.cell (World.block_lt_of_cell? w _ h4)).trans h4, h5.below b⟩
/-- the last of all versions, as a view -/
theorem Seens.last {w : World} {B g c n c' : Nat} {vs : List (MS Int Int)} {m : MS Int Int} (h : Seens w B (.slice (some ⟨g, 0, none⟩) vs.length c) vs) (hm : vs[n]? = some m) (_hl : vs.length = n + 1) : SeenL w (.slice (some ⟨g, n * 2, none⟩) 1 c') [m] := by
  refine ⟨_, _, rfl, fun i m' hm' => ?_⟩
  rcases i with _ | i
  · simp only [List.getElem?_cons_zero, Option.some.injEq] at hm'
    subst hm'
    obtain ⟨pa, pc, h1, h2, h3⟩ := seens_at h hm
    exact ⟨g, n * 2, pa, pc, rfl, h1, h2, h3⟩
  · simp at hm'
end Go.Proofs.Ytpkndcmgialgcaa
