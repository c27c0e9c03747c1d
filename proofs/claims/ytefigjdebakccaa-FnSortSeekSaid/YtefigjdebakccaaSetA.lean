/- set at any node (as a copy). -/
import Derived.Test.YtefigjdebakccaaBSet
namespace Go.Proofs.Ytefigjdebakccaa
open Go.RowKit

theorem sset_any (o : Nat) (cv : Value) (hc : CmpIs o cv) (key val : Int) : ∀ {r : Nat} {w : World} {n rb : Nat} {old : Bool} {v : Value} {es : List (Int × Int)}, Cnt w r n v es → Srt (ltO o) es → Flag w rb old → ∃ (ty p fid : Nat), v = .iface ty (.pointer (some ⟨p, 0, none⟩)) ∧ Disp ty (.pointer (some ⟨p, 0, none⟩)) fid "pub-frond/pub/immutable.set" ∧
    Calls Try.prog fid #[.pointer (some ⟨p, 0, none⟩), .int .i64 key, .int .i64 val, cv, .bool false, .pointer (some ⟨rb, 0, none⟩)] w (SSet w rb (old || (look (ltO o) es key).isNone) r n (ins (ltO o) es key val))
  | 0, w, n, rb, old, v, es, ⟨⟨b, sl, h1, h2, hE, h7, h8⟩, hn⟩, hs, hf => by
    obtain ⟨g, q, c, arr, rfl, h4, h5, h6⟩ := hE
    subst hn
    refine ⟨138, b, 107, h1, disp_l_set b, ?_⟩
    have hg : g ≠ rb := hf.other h4 (by decide)
    cases hx : look (ltO o) es key with
    | none =>
      rw [Option.isNone_none, Bool.or_true]
      exact leafSet_new o cv hc key val b g q c rb es hs h8 h5 w old hf h2 (fun i e hi => ⟨cell_at h4 (h6 i e hi).1, cell_at h4 (h6 i e hi).2⟩) hg hx
    | some x =>
      rw [Option.isNone_some, Bool.or_false]
      exact leafSet_old o cv hc key val x b g q c rb es hs h8 w old hf h2 (fun i e hi => ⟨cell_at h4 (h6 i e hi).1, cell_at h4 (h6 i e hi).2⟩) hx
  | r + 1, w, n, rb, old, v, es, ⟨kids, ⟨b, sl, h1, h2, hR, h7, h8⟩, h9, h10, hn⟩, hs, hf => by
    obtain ⟨g, q, c, arr, rfl, h4, h5, h6⟩ := hR
    subst h10 hn
    have hK := Srt.kids hs h9
    have hne : ess kids ≠ [] := fun e => h7 (List.eq_nil_of_length_eq_zero (by rw [← ess_len, e]; rfl))
    obtain ⟨k1, -, -⟩ := kids_at (ord_ltO o) hK 0 key hne
    obtain ⟨i, hi⟩ : ∃ i, i = cut (ltO o) 0 (ess kids) key - 1 := ⟨_, rfl⟩
    rw [← hi] at k1
    obtain ⟨kd, hkd⟩ : ∃ kd, kids[i]? = some kd := ⟨_, List.getElem?_eq_getElem (show i < kids.length by rw [ess_len] at k1; exact k1)⟩
    have hm := List.mem_of_getElem? hkd
    have hlook := look_kid (ord_ltO o) hK (d := 0) (k := key) (by rw [← hi]; exact ess_get hkd)
    have hsk : Srt (ltO o) kd.2 := hs.kid (List.mem_of_getElem? (ess_get hkd))
    obtain ⟨m, hcnt⟩ := (h9 kd hm).cnt
    obtain ⟨ty, p, fid, e1, e2, e3⟩ := sset_any o cv hc key val hcnt hsk hf
    have hg : g ≠ rb := hf.other h4 (by decide)
    rw [krow_len] at h2 h5
    refine ⟨147, b, 114, h1, disp_b_set b, ?_⟩
    rw [hlook]
    refine brSet_one o cv hc key val b g q c rb r kids hK h8 h5 w old hf h2 (fun i e hi => ⟨cell_at h4 (h6 i e hi).1, cell_at h4 (h6 i e hi).2⟩) hg h9 i hi kd hkd ty p fid e1 e2 _ m fun W hW => ?_
    obtain ⟨ty2, p2, fid2, f1, f2, f3⟩ := sset_any o cv hc key val (hcnt.stay (Stay.of_below hW)) hsk (hf.below hW)
    obtain ⟨rfl, rfl, rfl⟩ := disp_one e2 f2 (e1.symm.trans f1)
    exact f3
end Go.Proofs.Ytefigjdebakccaa
