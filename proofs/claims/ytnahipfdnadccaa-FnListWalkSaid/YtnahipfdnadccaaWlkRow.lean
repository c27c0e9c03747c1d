/- The row of the law FnListWalk. Conditions of this row: none (its domain is empty). -/
import Derived.Test.YtnahipfdnadccaaRows
import Derived.Test.YtnahipfdnadccaaWlk
import Derived.Test.YtnahipfdnadccaaOpen
import Derived.Carry
import Derived.ProofKit
namespace Go.Proofs.Ytnahipfdnadccaa
open Go.ChangeShapes Go.WideShapes Go.ChangeAt Go.RowKit

theorem cellsOf85 : Try.prog.cellsOf 85 = 2 := by kernel_rfl
instance : Inhabited Mov := ⟨⟨0, 0⟩⟩

theorem wf_u8 {c : Int} (h : (Lit.int IntKind.u8 c).wf = true) : 0 ≤ c ∧ c ≤ 255 := by
  have m1 : IntKind.u8.min = 0 := by decide
  have m2 : IntKind.u8.max = 255 := by decide
  simp [Lit.wf, m1, m2] at h
  omega

set_option maxRecDepth 100000 in
theorem mov_each {H : Type} {enc : TypeId × Value → H} {W : World} {sb so i n base : Nat} {spare : Nat → Bool} {held : Bool} {cs' : List Value} {x : DataW H × List MemPlace}
    (h1 : W.cells? 0 ((⟨sb, so, none⟩ : Addr).add (i * 2)) 2 = some cs') (h2 : DataW.trod enc Try.prog W base spare held n 85 cs' = some x) :
    ∃ s : Mov, ∀ j u, s.cells[j]? = some u → W.cell? ⟨sb, so + i * 2 + j, none⟩ = some u := by
  obtain ⟨_, hlen, hcell⟩ := World.cells?_some h1
  obtain ⟨xs, k, _, _, _, hxl, hf⟩ := DataW.trod_struct Try.underlying85 h2
  have hxl' : xs.length = 2 := hxl
  match cs', hlen, xs, hxl' with
  | [v0, v1], _, [y0, y1], _ =>
    have f0 : DataW.trod enc Try.prog W base spare held k 5 [v0] = some y0 := hf 0 _ rfl
    have f1 : DataW.trod enc Try.prog W base spare held k 3 [v1] = some y1 := hf 1 _ rfl
    obtain ⟨n0, e0, _, w0⟩ := DataW.trod_int Try.underlying5 f0
    obtain ⟨n1, e1, _⟩ := DataW.trod_int Try.underlying3 f1
    simp at e0 e1
    subst e0
    subst e1
    have h0 : 0 ≤ n0 := (wf_u8 w0).1
    refine ⟨⟨n0.toNat, n1⟩, fun j u hu => ?_⟩
    have hj : j < 2 := (List.getElem?_eq_some_iff.1 hu).1
    have hc := hcell j hj
    rw [Addr.add_lit, Addr.add_lit] at hc
    rw [hc, ← hu]
    have e : ((n0.toNat : Nat) : Int) = n0 := by omega
    simp only [Mov.cells, e]

set_option maxRecDepth 100000 in
/-- a slice of moves, opened -/
theorem mov_open {H : Type} {enc : TypeId × Value → H} {W : World} {r : Reach} {base : Nat} {sv : Value} {d : DataW H} {ps : List MemPlace} (hval : Value.okWide Try.prog W r base 60 sv) (h : DataW.Trod enc Try.prog W 0 (fun _ => true) true 60 sv d ps) :
    ∃ moves : List Mov, MovV W sv moves := by
  obtain ⟨a0, len, cap, rfl⟩ := okWide_slice Try.underlying60 hval
  obtain ⟨fuel, hf⟩ := h
  rcases Deep.open_slice Try.underlying60 hf with ⟨hcs, _⟩ | ⟨a, len', cap', m, n, D, Pl, hcs, _, hl, hm, hmm, hx, hall⟩
  · simp [Value.cells] at hcs
    obtain ⟨rfl, rfl, rfl⟩ := hcs
    exact ⟨[], none, 0, rfl, fun j s hs => by simp at hs⟩
  · simp [Value.cells] at hcs
    obtain ⟨rfl, rfl, rfl⟩ := hcs
    simp only [if_true] at hmm
    subst hmm
    rw [cellsOf85] at hall
    rcases Nat.eq_zero_or_pos len with h0 | h0
    · subst h0
      exact ⟨[], some a, _, rfl, fun j s hs => by simp at hs⟩
    · obtain ⟨cs0, g1, _⟩ := hall 0 (by omega)
      obtain ⟨_, _, g2⟩ := World.cells?_some g1
      have g3 := g2 0 (by omega)
      obtain ⟨b, o, rfl⟩ : ∃ b o, a = ⟨b, o, none⟩ := by
        have hl2 : cs0.length = 2 := (World.cells?_some g1).2.1
        match cs0, hl2 with
        | v0 :: _, _ =>
          rw [Nat.zero_mul] at g3
          have : a.add 0 = a := by simp [Addr.add]
          rw [this] at g3
          exact spot_none g3
      obtain ⟨f, hfun⟩ := Deep.choose_lt (n := len) (p := fun i (s : Mov) => ∀ j u, s.cells[j]? = some u → W.cell? ⟨b, o + i * 2 + j, none⟩ = some u) (fun i hi => by
        obtain ⟨cs', h1, h2⟩ := hall i (by omega)
        exact mov_each h1 h2)
      refine ⟨(List.range len).map f, some ⟨b, o, none⟩, _, by rw [List.length_map, List.length_range], fun j s hs => ⟨b, o, rfl, ?_⟩⟩
      simp only [List.getElem?_map, Option.map_eq_some_iff] at hs
      obtain ⟨i, hi, rfl⟩ := hs
      have hij : i = j ∧ j < len := by
        rw [List.getElem?_eq_some_iff] at hi
        obtain ⟨h1, h2⟩ := hi
        simp at h1 h2
        exact ⟨h2.symm, h1⟩
      obtain ⟨rfl, hlt⟩ := hij
      exact hfun i hlt

set_option maxRecDepth 100000 in
theorem wlk_lifted (os : Os) (started : os.Started) (H : Type) (enc : TypeId × Value → H) :
    ReturnsInHanded {} Try.checked os 12 .any (Rows.fnListWalkSpec.pre6 enc Try.prog Try.f12 Rows.fnListWalkRow.domain false) (Rows.fnListWalkSpec.post enc Try.prog Try.f12 false true false false) := by
  refine returnsInHanded_of_change_shaped (C := Try.checked) own1 started (by kernel_rfl) Try.func12
    (ChangeSpec.witness6 (enc := enc) (C := Try.checked) false ⟨#[], #[.slice none 0 0, .slice none 0 0, .int .u8 0, .slice none 0 0], []⟩ 8 (by kernel_rfl) (by kernel_rfl) (by kernel_rfl) (by kernel_rfl)) ?_
  intro W base args ds gs before hval0 hW hcnd _ hsh _
  have hval : ∀ (j : Nat) t v, Try.f12.params[j]? = some t → args[j]? = some v → Value.okWide Try.prog W .any base t v := hval0
  have hW' := hW
  obtain ⟨p, q, hA0, hV, rfl, hfz, hnd⟩ := hW
  have hA : DataW.TrodAll enc Try.prog W 0 (fun _ => true) true Try.f12.params.toList args.toList ds p := hA0
  rw [Try.params12] at hA hval
  obtain ⟨v0, v1, v2, v3, d0, d1, d2, d3, p0, p1, p2, p3, rfl, rfl, rfl, h0, h1, h2, h3⟩ := trodAll_four hA
  obtain ⟨rfl, rfl⟩ := trodVars_none hV
  obtain ⟨xs0, hu, -⟩ := ints_open Try.underlying32 Try.underlying2 (by kernel_rfl) (hval 0 32 v0 rfl rfl) h0
  obtain ⟨steps, hs⟩ := stp_open (hval 1 41 v1 rfl rfl) h1
  obtain ⟨c, rfl, rfl, rfl, wc⟩ := open_int Try.underlying5 (hval 2 5 v2 rfl rfl) h2
  obtain ⟨moves, hm⟩ := mov_open (hval 3 60 v3 rfl rfl) h3
  clear hA0 hval0
  simp only [List.append_nil, List.nil_append, List.append_assoc] at hW'
  have hlt : ∀ x ∈ p0 ++ (p1 ++ p3), x.block < W.heap.size := fun x hx => by simpa using hW'.lt x hx
  refine (wlk_w v0 v1 v3 c xs0 steps moves W hu hs hm (wf_u8 wc) (glob_shape hsh)).mono fun e W' ⟨he, hB⟩ => ?_
  subst he
  exact ⟨_, rfl, _, _, _, [], p0 ++ (p1 ++ p3), [], hW', trodAll_mk1 (shut_bool Try.underlying4 _), trodAll_mk4 (Below.trod laidOut1 (by kernel_rfl) (of_decide_eq_true (by kernel_rfl)) h0 hB (fun x hx => hlt x (List.mem_append_left _ hx)))
    (Below.trod laidOut1 (by kernel_rfl) (of_decide_eq_true (by kernel_rfl)) h1 hB (fun x hx => hlt x (List.mem_append_right _ (List.mem_append_left _ hx)))) (shut_int Try.underlying5 wc) (Below.trod laidOut1 (by kernel_rfl) (of_decide_eq_true (by kernel_rfl)) h3 hB (fun x hx => hlt x (List.mem_append_right _ (List.mem_append_right _ hx)))), rfl, hB.frame _, fun h => by cases h⟩

theorem wlk_holds : Rows.FnListWalkSaid :=
  OpenClaim.holds_of_wide 12 Try.f12 rfl rfl rfl rfl rfl rfl rfl ⟨rfl, rfl, rfl, rfl, rfl⟩ rfl rfl rfl rfl rfl (by kernel_rfl) Try.func12 (by kernel_rfl)
    (of_decide_eq_true (by kernel_rfl)) (by unfold Func.isWrapper; first | (rw [if_pos (by decide +kernel)]; kernel_rfl) | (rw [if_neg (by decide +kernel)]; exact ⟨rfl, rfl⟩))
    (fun os started H enc _ => wlk_lifted os started H enc)

end Go.Proofs.Ytnahipfdnadccaa
