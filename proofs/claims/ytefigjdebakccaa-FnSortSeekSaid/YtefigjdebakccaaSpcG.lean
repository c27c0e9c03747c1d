/- The reference: the value of a key; from where on. -/
import Derived.Test.YtefigjdebakccaaSpc
namespace Go.Proofs.Ytefigjdebakccaa
open Go.RowKit

/-- two slices read these pairs -/
def PR (w : World) (ka va : Option Addr) (es : List (Int × Int)) : Prop := ∀ (i : Nat) (e : Int × Int), es[i]? = some e → (∃ g, ka = some ⟨g, 0, none⟩ ∧ w.cell? ⟨g, i, none⟩ = some (.int .i64 e.1)) ∧ ∃ g, va = some ⟨g, 0, none⟩ ∧ w.cell? ⟨g, i, none⟩ = some (.int .i64 e.2)
theorem PR.below {w w' : World} {ka va : Option Addr} {es : List (Int × Int)} (h : PR w ka va es) (hb : Below w.heap.size w w') : PR w' ka va es := fun i e he => by
  obtain ⟨⟨g, h1, h2⟩, g', h3, h4⟩ := h i e he
  exact ⟨⟨g, h1, bcell hb h2⟩, g', h3, bcell hb h4⟩
theorem PV.reads {w : World} {v : Value} {o : Nat} {es : List (Int × Int)} (h : PV w v o es) : ∃ ka kc va vc, v = .agg #[.int .u8 (o : Int), .slice ka es.length kc, .slice va es.length vc] ∧ PR w ka va es := by
  obtain ⟨kv, vv, rfl, h1, h2⟩ := h
  obtain ⟨ka, kc, rfl, h3⟩ := h1.reads
  obtain ⟨va, vc, rfl, h4⟩ := h2.reads
  refine ⟨ka, kc, va, vc, by rw [List.length_map, List.length_map], fun i e he => ⟨?_, ?_⟩⟩
  · exact h3 i e.1 (by rw [List.getElem?_map, he]; rfl)
  · exact h4 i e.2 (by rw [List.getElem?_map, he]; rfl)

set_option maxRecDepth 100000 in
set_option maxHeartbeats 800000 in
theorem pget_w (o : Nat) (key : Int) (es : List (Int × Int)) (hs : Srt (ltO o) es) (hl : es.length < 1000000) (pv : Value) (w : World) (hp : PV w pv o es) :
    Calls Try.prog 47 #[pv, .int .i64 key] w fun e w' => e = .returned (.tuple #[.int .i64 ((look (ltO o) es key).getD 0), .bool (look (ltO o) es key).isSome]) ∧ Below w.heap.size w w' := by
  obtain ⟨ka, kc, va, vc, rfl, hr⟩ := hp.reads
  have hbx : Below w.heap.size w (w.alloc (.cells #[.int .u8 (o : Int), .slice ka es.length kc, .slice va es.length vc] 46)) := (Below.refl _ _).alloc (Nat.le_refl _) _
  have HPL := Lib.hid (place_w o key es hs hl ka va kc es.length vc _ fun i e he => (hr.below hbx i e he).1)
  have HR := Lib.hid hr
  have HS := Lib.hid hs
  have HBX := Lib.hid hbx
  have hle := at_le (lt := ltO o) es key
  have hlk := at_look (ord_ltO o) hs key
  obtain ⟨n, hn⟩ : ∃ n, n = es.length := ⟨_, rfl⟩
  obtain ⟨p, hp⟩ : ∃ p, p = at_ (ltO o) es key := ⟨_, rfl⟩
  rw [← hn, ← hp] at hle
  rw [← hp] at hlk
  rw [← hn] at hl HPL HBX ⊢
  rw [← hp] at HPL
  have HLK := Lib.hid hlk
  have HNE := Lib.hid hn
  clear hr hs hbx hp hlk hn
  go_enter Try.func47, Try.ntmps47
  have HX : Hid ((w.alloc (.cells #[.int .u8 (o : Int), .slice ka n kc, .slice va n vc] 46)).heap[w.heap.size]? = some (.cells #[.int .u8 (o : Int), .slice ka n kc, .slice va n vc] 46 (0, 0))) := heap_alloc_last w _
  have y0 := cell_at (j := 0) HX.out rfl
  have y1 := cell_at (j := 1) HX.out rfl
  have y2 := cell_at (j := 2) HX.out rfl
  cases hq : look (ltO o) es key with
  | none =>
    rw [hq] at HPL
    clear hq
    simp only [Option.isSome_none] at HPL
    go_wp2_with fail
    refine HPL.out.mono ?_
    rintro e w2 ⟨rfl, hb2⟩
    have HB2 := Lib.hid (HBX.out.trans (hb2.mono HBX.out.size))
    clear hb2
    go_wp2_with fail
    go_ret2
    exact ⟨rfl, HB2.out⟩
  | some x =>
    have hes := (HLK.out.1 x hq).1
    rw [hq] at HPL
    clear hq
    simp only [Option.isSome_some] at HPL
    obtain ⟨-, g, hg, hc⟩ := HR.out p _ hes
    subst hg
    have hpl : p < es.length := (List.getElem?_eq_some_iff.1 hes).1
    have HES := Lib.hid hes
    clear hes
    go_wp2_with fail
    refine HPL.out.mono ?_
    rintro e w2 ⟨rfl, hb2⟩
    have y2' := bcell hb2 y2
    have hc' := bcell (HBX.out.trans (hb2.mono HBX.out.size)) hc
    have HB2 := Lib.hid (HBX.out.trans (hb2.mono HBX.out.size))
    have hp0 : (0 : Int) ≤ (p : Int) := by omega
    have hp1 : (p : Int) < (n : Int) := by have := HNE.out; omega
    clear hb2 hc y0 y1 y2 hpl
    go_wp2_with fail
    go_ret2
    exact ⟨rfl, HB2.out⟩

set_option maxRecDepth 100000 in
set_option maxHeartbeats 800000 in
theorem pfrom_w (o : Nat) (key : Int) (es : List (Int × Int)) (hs : Srt (ltO o) es) (hl : es.length < 1000000) (pv : Value) (w : World) (hp : PV w pv o es) :
    Calls Try.prog 60 #[pv, .int .i64 key] w fun e w' => e = .returned (.int .i64 (at_ (ltO o) es key : Nat)) ∧ Below w.heap.size w w' := by
  obtain ⟨ka, kc, va, vc, rfl, hr⟩ := hp.reads
  have hbx : Below w.heap.size w (w.alloc (.cells #[.int .u8 (o : Int), .slice ka es.length kc, .slice va es.length vc] 46)) := (Below.refl _ _).alloc (Nat.le_refl _) _
  have HPL := Lib.hid (place_w o key es hs hl ka va kc es.length vc _ fun i e he => (hr.below hbx i e he).1)
  have HBX := Lib.hid hbx
  obtain ⟨n, hn⟩ : ∃ n, n = es.length := ⟨_, rfl⟩
  rw [← hn] at hl HPL HBX ⊢
  clear hr hs hbx hn
  go_enter Try.func60, Try.ntmps60
  have HX : Hid ((w.alloc (.cells #[.int .u8 (o : Int), .slice ka n kc, .slice va n vc] 46)).heap[w.heap.size]? = some (.cells #[.int .u8 (o : Int), .slice ka n kc, .slice va n vc] 46 (0, 0))) := heap_alloc_last w _
  have y0 := cell_at (j := 0) HX.out rfl
  have y1 := cell_at (j := 1) HX.out rfl
  have y2 := cell_at (j := 2) HX.out rfl
  go_wp2_with fail
  refine HPL.out.mono ?_
  rintro e w2 ⟨rfl, hb2⟩
  have HB2 := Lib.hid (HBX.out.trans (hb2.mono HBX.out.size))
  clear hb2
  go_wp2_with fail
  go_ret
  exact ⟨rfl, HB2.out⟩
end Go.Proofs.Ytefigjdebakccaa
