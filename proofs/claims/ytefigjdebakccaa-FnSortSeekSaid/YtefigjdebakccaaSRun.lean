/- The reference: versions and what was told, as they lie in memory.

The reference: what steps over versions tell. -/
import Derived.Test.YtefigjdebakccaaBwd
import Derived.Test.YtefigjdebakccaaTos
import Derived.Test.YtefigjdebakccaaAwk
namespace Go.Proofs.Ytefigjdebakccaa
open Go.RowKit

/-- v is a slice of what moves told (the reference's type) -/
def SP (w : World) (v : Value) (l : List Sn) : Prop :=
  (v = .slice none 0 0 ∧ l = []) ∨ ∃ (g c : Nat) (cur : Array Value), v = .slice (some ⟨g, 0, none⟩) l.length c ∧ w.heap[g]? = some (.cells cur 68 (0, 0)) ∧ ∀ (i : Nat) (x : Sn), l[i]? = some x → cur[i * 3]? = some (Value.int .i64 x.1) ∧ cur[i * 3 + 1]? = some (Value.int .i64 x.2.1) ∧ cur[i * 3 + 2]? = some (Value.bool x.2.2)
theorem SP.kb {T : TypeId} {w w' : World} {v : Value} {l : List Sn} (hT : 68 ≠ T) (h : KB T w w') : SP w v l → SP w' v l
  | .inl h1 => .inl h1
  | .inr ⟨g, c, cur, h1, h2, h3⟩ => .inr ⟨g, c, cur, h1, h _ _ _ h2 hT, h3⟩
theorem SP.nil (w : World) : SP w (.slice none 0 0) [] := .inl ⟨rfl, rfl⟩
theorem SP.one {w : World} {v : Value} {xs : List Sn} (h : SP w v xs) : v.oneCell' = true := by
  rcases h with ⟨h, -⟩ | ⟨g, c, cur, h, -⟩
  · rw [h]; rfl
  · rw [h]; rfl
theorem SP.of_own {w : World} {B n : Nat} {v : Value} {l : List Sn} (hn : n = l.length) (h : w.ownsRow B 68 3 v n (sncells l)) : SP w v l := by
  subst hn
  rcases h.2 with ⟨h1, h2⟩ | ⟨g, cap, cur, h1, h2, h3, h4, h5, h6, h7⟩
  · exact .inl ⟨h1, List.eq_nil_of_length_eq_zero h2⟩
  · refine .inr ⟨g, cap, cur, h1, h3, fun i x hx => ?_⟩
    have hi : i < l.length := (List.getElem?_eq_some_iff.1 hx).1
    obtain ⟨h8, h9, h10⟩ := sncells_at hx
    rw [← h7, List.getElem?_take, if_pos (by omega), Array.getElem?_toList] at h8 h9 h10
    exact ⟨h8, h9, h10⟩
def pcells (o : Nat) : List (Value × Value) → List Value
  | [] => []
  | p :: l => .int .u8 (o : Int) :: p.1 :: p.2 :: pcells o l
theorem pcells_snoc (o : Nat) : ∀ (l : List (Value × Value)) (p : Value × Value), pcells o (l ++ [p]) = pcells o l ++ [.int .u8 (o : Int), p.1, p.2]
  | [], _ => rfl
  | a :: l, p => by
    simp only [List.cons_append, pcells]
    rw [pcells_snoc o l p]
theorem pcells_at (o : Nat) : ∀ {l : List (Value × Value)} {i : Nat} {p : Value × Value}, l[i]? = some p → (pcells o l)[i * 3]? = some (.int .u8 (o : Int)) ∧ (pcells o l)[i * 3 + 1]? = some p.1 ∧ (pcells o l)[i * 3 + 2]? = some p.2
  | [], _, _, h => by simp at h
  | a :: l, 0, p, h => by
    have : a = p := by simpa using h
    subst this
    exact ⟨rfl, rfl, rfl⟩
  | a :: l, i + 1, p, h => by
    have ih := pcells_at o (l := l) (i := i) (p := p) (by simpa using h)
    rw [show (i + 1) * 3 = i * 3 + 1 + 1 + 1 by omega]
    simpa [pcells] using ih
/-- the versions of the reference -/
def VersP (w : World) (B o L : Nat) (v : Value) (vs : List Es) : Prop :=
  ∃ ps : List (Value × Value), ps.length = vs.length ∧ w.ownsRow B 46 3 v vs.length (pcells o ps) ∧ ∀ (i : Nat) (p : Value × Value) (es : Es), ps[i]? = some p → vs[i]? = some es → PT w (.agg #[.int .u8 (o : Int), p.1, p.2]) o es ∧ Srt (ltO o) es ∧ es.length ≤ L
theorem VersP.kb {T : TypeId} {w w' : World} {B o L : Nat} {v : Value} {vs : List Es} (h : KB T w w') (hT : 3 ≠ T) (hT2 : 46 ≠ T) : VersP w B o L v vs → VersP w' B o L v vs
  | ⟨ps, h1, h2, h3⟩ => ⟨ps, h1, h.own h2 hT2, fun i p es hp he => ⟨(h3 i p es hp he).1.kb hT h, (h3 i p es hp he).2⟩⟩
theorem VersP.below {w w' : World} {B o L : Nat} {v : Value} {vs : List Es} (h : Below w.heap.size w w') (n : VersP w B o L v vs) : VersP w' B o L v vs := n.kb (KB.of_below 0 h) (by decide) (by decide)
theorem VersP.more {w : World} {B o L L' : Nat} {v : Value} {vs : List Es} (hL : L ≤ L') : VersP w B o L v vs → VersP w B o L' v vs
  | ⟨ps, h1, h2, h3⟩ => ⟨ps, h1, h2, fun i p es hp he => ⟨(h3 i p es hp he).1, (h3 i p es hp he).2.1, Nat.le_trans (h3 i p es hp he).2.2 hL⟩⟩
/-- a version more -/
theorem versP_snoc {w : World} {B o L : Nat} {v : Value} {vs : List Es} {ps : List (Value × Value)} {p : Value × Value} {es : Es} (h1 : ps.length = vs.length) (ho : w.ownsRow B 46 3 v (vs.length + 1) (pcells o ps ++ [.int .u8 (o : Int), p.1, p.2]))
    (hold : ∀ (i : Nat) (p : Value × Value) (es : Es), ps[i]? = some p → vs[i]? = some es → PT w (.agg #[.int .u8 (o : Int), p.1, p.2]) o es ∧ Srt (ltO o) es ∧ es.length ≤ L) (hnew : PT w (.agg #[.int .u8 (o : Int), p.1, p.2]) o es ∧ Srt (ltO o) es ∧ es.length ≤ L) : VersP w B o L v (vs ++ [es]) := by
  refine ⟨ps ++ [p], by rw [List.length_append, List.length_append, h1]; rfl, ?_, fun i p' es' hp he => ?_⟩
  · rw [pcells_snoc, List.length_append]
    exact ho
  · rcases Nat.lt_or_ge i vs.length with h9 | h9
    · rw [List.getElem?_append_left (by omega)] at hp
      rw [List.getElem?_append_left h9] at he
      exact hold i p' es' hp he
    · rw [List.getElem?_append_right (by omega), h1] at hp
      rw [List.getElem?_append_right h9] at he
      have e : i - vs.length = 0 := by
        rcases Nat.eq_zero_or_pos (i - vs.length) with h | h
        · exact h
        · rw [List.getElem?_eq_none (by simp; omega)] at he; cases he
      rw [e] at hp he
      simp only [List.getElem?_cons_zero, Option.some.injEq] at hp he
      subst hp he
      exact hnew
/-- what the reference told -/
def ToldsP (w : World) (B : Nat) (v : Value) (ts : List Told) : Prop :=
  ∃ rs : List Sls, rs.length = ts.length ∧ w.ownsRow B 63 5 v ts.length (tcells ts rs) ∧ ∀ (i : Nat) (t : Told) (r : Sls), ts[i]? = some t → rs[i]? = some r → IV w r.1 t.keys ∧ IV w r.2.1 t.vals ∧ SP w r.2.2 t.seen
theorem ToldsP.kb {T : TypeId} {w w' : World} {B : Nat} {v : Value} {ts : List Told} (h : KB T w w') (hT1 : 63 ≠ T) (hT2 : 3 ≠ T) (hT3 : 68 ≠ T) : ToldsP w B v ts → ToldsP w' B v ts
  | ⟨rs, h1, h2, h3⟩ => ⟨rs, h1, h.own h2 hT1, fun i t r ht hr => ⟨(h3 i t r ht hr).1.kb hT2 h, (h3 i t r ht hr).2.1.kb hT2 h, (h3 i t r ht hr).2.2.kb hT3 h⟩⟩
theorem ToldsP.below {w w' : World} {B : Nat} {v : Value} {ts : List Told} (h : Below w.heap.size w w') (n : ToldsP w B v ts) : ToldsP w' B v ts := n.kb (KB.of_below 0 h) (by decide) (by decide) (by decide)
theorem ToldsP.set {w : World} {B b i : Nat} {v : Value} {ts : List Told} {c : Array Value} (hb : w.heap[b]? = some (.cells c 63 (0, 0))) (hne : ∀ k, v.ownBlock = some k → k ≠ b) (u : Value) : ToldsP w B v ts → ToldsP (w.setCell ⟨b, i, none⟩ u) B v ts
  | ⟨rs, h1, h2, h3⟩ => ⟨rs, h1, own_but h2 ((But.refl (· = b) w).setCell (.inl rfl) u) fun k hk e => hne k hk e, fun j t r ht hr => ⟨(h3 j t r ht hr).1.kb (by decide) (KB.set hb u), (h3 j t r ht hr).2.1.kb (by decide) (KB.set hb u), (h3 j t r ht hr).2.2.kb (by decide) (KB.set hb u)⟩⟩
theorem toldP_snoc {w : World} {B : Nat} {v : Value} {ts : List Told} {rs : List Sls} {t : Told} {r : Sls} (h1 : rs.length = ts.length) (ho : w.ownsRow B 63 5 v (ts.length + 1) (tcells ts rs ++ [.int .i64 t.val, .bool t.yes, r.1, r.2.1, r.2.2]))
    (hold : ∀ (i : Nat) (t : Told) (r : Sls), ts[i]? = some t → rs[i]? = some r → IV w r.1 t.keys ∧ IV w r.2.1 t.vals ∧ SP w r.2.2 t.seen) (hnew : IV w r.1 t.keys ∧ IV w r.2.1 t.vals ∧ SP w r.2.2 t.seen) : ToldsP w B v (ts ++ [t]) := by
  refine ⟨rs ++ [r], by rw [List.length_append, List.length_append, h1]; rfl, ?_, fun i t' r' ht hr => ?_⟩
  · rw [tcells_snoc t r h1.symm, List.length_append]
    exact ho
  · rcases Nat.lt_or_ge i ts.length with h9 | h9
    · rw [List.getElem?_append_left h9] at ht
      rw [List.getElem?_append_left (by omega)] at hr
      exact hold i t' r' ht hr
    · rw [List.getElem?_append_right h9] at ht
      rw [List.getElem?_append_right (by omega)] at hr
      have e : i - ts.length = 0 := by
        rcases Nat.eq_zero_or_pos (i - ts.length) with h | h
        · exact h
        · rw [List.getElem?_eq_none (by simp; omega)] at ht; cases ht
      rw [h1] at hr
      rw [e] at ht hr
      simp only [List.getElem?_cons_zero, Option.some.injEq] at ht hr
      subst ht hr
      exact hnew
/-- in a step of the reference: what lies in memory; t is being told -/
def Sts (w : World) (H o L : Nat) (v5 : Value) (vs : List Es) (v4 : Value) (ts : List Told) (b9 : Nat) (x0 x1 x2 x3 x4 : Value) (W : World) : Prop :=
  Below H w W ∧ VersP W H o L v5 vs ∧ ToldsP W H v4 ts ∧ W.heap[b9]? = some (.cells #[x0, x1, x2, x3, x4] 63 (0, 0)) ∧ H ≤ b9 ∧ (∀ k, v4.ownBlock = some k → k ≠ b9) ∧ H ≤ w.heap.size
section
variable {w W W' : World} {H o L b9 : Nat} {v5 v4 x0 x1 x2 x3 x4 : Value} {vs : List Es} {ts : List Told}
theorem Sts.below (h : Sts w H o L v5 vs v4 ts b9 x0 x1 x2 x3 x4 W) (hb : Below W.heap.size W W') : Sts w H o L v5 vs v4 ts b9 x0 x1 x2 x3 x4 W' := by
  obtain ⟨h1, h2, h3, h5, h6, h7, h8⟩ := h
  exact ⟨h1.trans (hb.mono (Nat.le_trans h8 h1.size)), h2.below hb, h3.below hb, below_at hb h5, h6, h7, h8⟩
theorem Sts.f (h : Sts w H o L v5 vs v4 ts b9 x0 x1 x2 x3 x4 W) (i : Nat) : W.frozen? ⟨b9, i, none⟩ = false := frozen_of_row _ _ _ _ _ h.2.2.2.1
theorem Sts.c (h : Sts w H o L v5 vs v4 ts b9 x0 x1 x2 x3 x4 W) : W.cell? ⟨b9, 0, none⟩ = some x0 ∧ W.cell? ⟨b9, 1, none⟩ = some x1 ∧ W.cell? ⟨b9, 2, none⟩ = some x2 ∧ W.cell? ⟨b9, 3, none⟩ = some x3 ∧ W.cell? ⟨b9, 4, none⟩ = some x4 :=
  ⟨cell_at h.2.2.2.1 rfl, cell_at h.2.2.2.1 rfl, cell_at h.2.2.2.1 rfl, cell_at h.2.2.2.1 rfl, cell_at h.2.2.2.1 rfl⟩
theorem Sts.kb (h : Sts w H o L v5 vs v4 ts b9 x0 x1 x2 x3 x4 W) (i : Nat) (u : Value) : KB 63 W (W.setCell ⟨b9, i, none⟩ u) := KB.set h.2.2.2.1 u
theorem Sts.set (h : Sts w H o L v5 vs v4 ts b9 x0 x1 x2 x3 x4 W) (i : Nat) (u : Value) {y0 y1 y2 y3 y4 : Value} (hy : #[x0, x1, x2, x3, x4].setIfInBounds i u = #[y0, y1, y2, y3, y4]) : Sts w H o L v5 vs v4 ts b9 y0 y1 y2 y3 y4 (W.setCell ⟨b9, i, none⟩ u) := by
  have hk := h.kb i u
  obtain ⟨h1, h2, h3, h5, h6, h7, h8⟩ := h
  refine ⟨h1.setCell h6 _, h2.kb hk (by decide) (by decide), h3.set h5 h7 u, ?_, h6, h7, h8⟩
  rw [← hy]
  exact heap_setCell_same _ _ _ _ _ _ h5
end
/-- what a step told stands in its five cells -/
def Tld1 (W : World) (t : Told) (x0 x1 x2 x3 x4 : Value) : Prop := x0 = .int .i64 t.val ∧ x1 = .bool t.yes ∧ IV W x2 t.keys ∧ IV W x3 t.vals ∧ SP W x4 t.seen
theorem three_own (w : World) {B : Nat} (a b c : Value) (t : TypeId) (h : B ≤ w.heap.size) : (w.alloc (.cells #[a, b, c] t)).ownsRow B t 3 (.slice (some ⟨w.heap.size, 0, none⟩) 1 1) 1 [a, b, c] :=
  ⟨rfl, .inr ⟨w.heap.size, 1, #[a, b, c], rfl, h, heap_alloc_last w _, Nat.le_refl _, by unfold maxLen; omega, rfl, rfl⟩⟩
theorem three_new' (w : World) (a b c : Value) (t : TypeId) : ∀ j u, [a, b, c][j]? = some u → (w.alloc (.cells #[a, b, c] t)).cell? ((⟨w.heap.size, 0, none⟩ : Addr).add j) = some u := three_new w a b c t
theorem three_one {a b c : Value} (ha : a.oneCell' = true) (hb : b.oneCell' = true) (hc : c.oneCell' = true) : ∀ u ∈ [a, b, c], u.oneCell' = true := fun u hu => by
  simp only [List.mem_cons, List.not_mem_nil, or_false] at hu
  rcases hu with rfl | rfl | rfl <;> assumption
theorem info46 : (Try.prog.info? 46).map (fun i => (i.zero, i.size, i.bytes)) = some (some (.agg #[.int .u8 0, .slice none 0 0, .slice none 0 0]), 3, 56) := by kernel_rfl
theorem info63 : (Try.prog.info? 63).map (fun i => (i.zero, i.size, i.bytes)) = some (some (.agg #[.int .i64 0, .bool false, .slice none 0 0, .slice none 0 0, .slice none 0 0]), 5, 88) := by kernel_rfl
end Go.Proofs.Ytefigjdebakccaa

namespace Go.Proofs.Ytefigjdebakccaa
open Go.RowKit

set_option maxRecDepth 100000 in
set_option maxHeartbeats 6400000 in
theorem srun_w (o : Nat) (es0 : Es) (hs0 : Srt (ltO o) es0) (h0l : es0.length ≤ 1000) (pv : Value) (steps : List Stp) (sv : Value) (w : World) (hp : PT w pv o es0) (hs : StpsV w sv steps) (hr : Right 1 steps) (hn : steps.length ≤ 800) :
    Calls Try.prog 24 #[pv, sv] w fun e w' => ∃ tv vv, e = .returned (.tuple #[tv, vv]) ∧ ToldsP w' w.heap.size tv (run (ltO o) [es0] steps) ∧ VersP w' w.heap.size o (1000 + steps.length) vv (vers (ltO o) [es0] steps) ∧ Below w.heap.size w w' := by
  obtain ⟨i46, hi, hz0, hz1, hz2⟩ := info_parts info46
  have HI := Lib.hid (And.intro hi (And.intro hz0 (And.intro hz1 hz2)))
  clear hi hz0 hz1 hz2
  obtain ⟨i63, hi, hz0, hz1, hz2⟩ := info_parts info63
  have HJ := Lib.hid (And.intro hi (And.intro hz0 (And.intro hz1 hz2)))
  clear hi hz0 hz1 hz2
  have HS := Lib.hid hs
  obtain ⟨sa, scap, rfl, -⟩ := hs
  obtain ⟨tot, htot⟩ : ∃ tot, tot = run (ltO o) [es0] steps := ⟨_, rfl⟩
  obtain ⟨fin, hfin⟩ : ∃ fin, fin = vers (ltO o) [es0] steps := ⟨_, rfl⟩
  rw [← htot, ← hfin]
  obtain ⟨n, hnn⟩ : ∃ n, n = steps.length := ⟨_, rfl⟩
  rw [← hnn] at hn ⊢
  have HN := Lib.hid hnn
  have HTOT := Lib.hid htot
  have HFIN := Lib.hid hfin
  have HR := Lib.hid hr
  have HPT0 := Lib.hid hp
  have HSR0 := Lib.hid (And.intro hs0 h0l)
  obtain ⟨ka0, kc0, va0, vc0, rfl, -⟩ := hp
  obtain ⟨n0, hn0⟩ : ∃ n0, n0 = es0.length := ⟨_, rfl⟩
  rw [← hn0] at HPT0 ⊢
  clear hnn htot hfin hr hn0 hs0 h0l
  go_enter Try.func24, Try.ntmps24
  have HX : Hid ((w.alloc (.cells #[.int .u8 (o : Int), .slice ka0 n0 kc0, .slice va0 n0 vc0] 46)).heap[w.heap.size]? = some (.cells #[.int .u8 (o : Int), .slice ka0 n0 kc0, .slice va0 n0 vc0] 46 (0, 0))) := heap_alloc_last w _
  have x0 := cell_at (j := 0) HX.out rfl
  have x1 := cell_at (j := 1) HX.out rfl
  have x2 := cell_at (j := 2) HX.out rfl
  go_upto_region 2 with (fail)
  have hbx : Below w.heap.size w ((w.alloc (.cells #[.int .u8 (o : Int), .slice ka0 n0 kc0, .slice va0 n0 vc0] 46)).alloc (.cells #[.int .u8 (o : Int), .slice ka0 n0 kc0, .slice va0 n0 vc0] 46)) := ((Below.refl _ _).alloc (Nat.le_refl _) _).alloc (by rw [size_alloc]; omega) _
  have HV0 : Hid (VersP ((w.alloc (.cells #[.int .u8 (o : Int), .slice ka0 n0 kc0, .slice va0 n0 vc0] 46)).alloc (.cells #[.int .u8 (o : Int), .slice ka0 n0 kc0, .slice va0 n0 vc0] 46)) w.heap.size o (1000 + 0) (.slice (some ⟨w.heap.size + 1, 0, none⟩) 1 1) [es0]) := by
    have h := three_own (w.alloc (.cells #[.int .u8 (o : Int), .slice ka0 n0 kc0, .slice va0 n0 vc0] 46)) (B := w.heap.size) (.int .u8 (o : Int)) (.slice ka0 n0 kc0) (.slice va0 n0 vc0) 46 (by rw [size_alloc]; omega)
    rw [size_alloc] at h
    refine ⟨[(.slice ka0 n0 kc0, .slice va0 n0 vc0)], rfl, h, fun i p es hp he => ?_⟩
    rcases i with _ | i
    · simp only [List.getElem?_cons_zero, Option.some.injEq] at hp he
      subst hp he
      exact ⟨HPT0.out.below hbx, HSR0.out.1, by have := HSR0.out.2; omega⟩
    · simp at he
  have HBX := Lib.hid hbx
  clear hbx x0 x1 x2 HX
  generalize (w.alloc (.cells #[.int .u8 (o : Int), .slice ka0 n0 kc0, .slice va0 n0 vc0] 46)).alloc (.cells #[.int .u8 (o : Int), .slice ka0 n0 kc0, .slice va0 n0 vc0] 46) = X0 at HV0 HBX ⊢
  go_wp2_with fail
  go_loopg [4, 5, 14] n (fun k v4 v5 v14 wr => ∃ (j : Nat) (vs : List Es) (ts : List Told), j + k = n ∧ v14 = .int .i64 (j : Int) ∧ VersP wr w.heap.size o (1000 + j) v5 vs ∧ ToldsP wr w.heap.size v4 ts ∧ ts.length = j ∧ 1 ≤ vs.length ∧ vs.length ≤ j + 1 ∧ tot = ts ++ run (ltO o) vs (steps.drop j) ∧ fin = vers (ltO o) vs (steps.drop j) ∧ Right vs.length (steps.drop j) ∧ Below w.heap.size w wr)
  case atStart => exact ⟨0, [es0], [], by omega, rfl, HV0.out, ⟨[], rfl, World.ownsRow_nil _ _ _ _, fun i t r h => by simp at h⟩, rfl, by simp, by simp, HTOT.out, HFIN.out, HR.out, HBX.out⟩
  case round =>
    obtain ⟨j, vs, ts, hjk, rfl, hv, ht, htl, hv1, hvl, htot, hfin, hright, hb⟩ := hrel
    have HVL := Lib.hid (And.intro hv1 hvl)
    have HVS := Lib.hid hv
    have HTS := Lib.hid ht
    have HTL := Lib.hid htl
    have HTO := Lib.hid htot
    have HFI := Lib.hid hfin
    have HRI := Lib.hid hright
    have HB := Lib.hid hb
    clear hv ht htl htot hfin hright hb hvl hv1 HV0 HBX
    by_cases hlt : j < n
    · have h1 : decide ((j : Int) < (n : Int)) = true := by simp; omega
      have hw1 : IntKind.i64.wrap ((j : Int) + 1) = (j : Int) + 1 := by rw [IntKind.wrap_i64]; omega
      have hj0 : (0 : Int) ≤ (j : Int) := by omega
      have hj1 : (j : Int) < (n : Int) := by omega
      obtain ⟨s, hs⟩ : ∃ s, steps[j]? = some s := ⟨_, List.getElem?_eq_getElem (by rw [← HN.out]; exact hlt)⟩
      obtain ⟨hon, hop6, hm5, hml, hri⟩ := right_drop hs HRI.out
      obtain ⟨a, cap, hav, hread⟩ := HS.out.below HB.out
      simp only [Value.slice.injEq] at hav
      obtain ⟨g, q, mv, ha, c0, c1, c2, c3, c4, hmv⟩ := hread j s hs
      have hsa : sa = some ⟨g, q, none⟩ := hav.1.trans ha
      subst hsa
      have HMV := Lib.hid hmv
      have HS2 := Lib.hid hs
      have HM5 := Lib.hid hm5
      have HRI2 := Lib.hid hri
      obtain ⟨ma, mcap, rfl, -⟩ := hmv
      obtain ⟨ps, hbl, hov, hvm⟩ := HVS.out
      obtain ⟨es, hes⟩ : ∃ es, vs[s.on]? = some es := ⟨_, List.getElem?_eq_getElem hon⟩
      obtain ⟨⟨p1, p2⟩, hmb⟩ : ∃ b, ps[s.on]? = some b := ⟨_, List.getElem?_eq_getElem (by rw [hbl]; exact hon)⟩
      obtain ⟨hpt, hsrt, hel⟩ := hvm s.on _ es hmb hes
      obtain ⟨g5, cap5, h5⟩ := own_shape hov (by omega)
      subst h5
      obtain ⟨q0, q1, q2⟩ := pcells_at o hmb
      have hc0 := own_cell5 hov q0
      have hc1 := own_cell5 hov q1
      have hc2 := own_cell5 hov q2
      obtain ⟨es1, hes1⟩ : ∃ m, m = es.length := ⟨_, rfl⟩
      have HPT := Lib.hid hpt
      obtain ⟨ka, kc, va, vc, hag, -⟩ := hpt
      simp only [Value.agg.injEq, Array.mk.injEq, List.cons.injEq, and_true, true_and] at hag
      obtain ⟨rfl, rfl⟩ := hag
      rw [← hes1] at hc1 hc2 HPT
      have HES := Lib.hid hes1
      have HVO : Hid (verOf vs s = es) := by
        show vs.getD s.on [] = es
        rw [List.getD_eq_getElem?_getD, hes]
        rfl
      obtain ⟨N5, hN5⟩ : ∃ N5, N5 = vs.length := ⟨_, rfl⟩
      have hN5m : N5 < 1000000 := by have := HVL.out; omega
      rw [← hN5] at hon hov HRI2 ⊢
      have HN5 := Lib.hid hN5
      obtain ⟨op, on, key, val, moves⟩ := s
      obtain ⟨ml, hmll⟩ : ∃ ml, ml = moves.length := ⟨_, rfl⟩
      have HML := Lib.hid (And.intro hmll hml)
      simp only [← hmll] at c4 HMV
      simp only at hon hop6 c0 c1 c2 c3 hc0 hc1 hc2 hml hm5
      have hon' : (on : Int) < (N5 : Int) := by omega
      have hon0 : (0 : Int) ≤ (on : Int) := by omega
      have HEL : Hid (es.length ≤ 1800) := by show es.length ≤ 1800; omega
      have HSRT := Lib.hid hsrt
      have HESL : Hid (es.length ≤ 1000 + j) := hel
      clear hread hav ha hs hm5 hri hbl hov hvm hes hmb hN5 q0 q1 q2 hes1 hsrt hel hmll hml
      go_upto_region 5 with (fail)
      have hbx : Below wr.heap.size wr (wr.alloc (.cells #[.int .u8 (op : Int), .int .i64 (on : Int), .int .i64 key, .int .i64 val, .slice ma ml mcap] 27)) := (Below.refl _ _).alloc (Nat.le_refl _) _
      have HX7 : Hid ((wr.alloc (.cells #[.int .u8 (op : Int), .int .i64 (on : Int), .int .i64 key, .int .i64 val, .slice ma ml mcap] 27)).heap[wr.heap.size]? = some (.cells #[.int .u8 (op : Int), .int .i64 (on : Int), .int .i64 key, .int .i64 val, .slice ma ml mcap] 27 (0, 0))) := heap_alloc_last wr _
      have HVX := Lib.hid (HVS.out.below hbx)
      have HTX := Lib.hid (HTS.out.below hbx)
      have HPX := Lib.hid (HPT.out.below hbx)
      have HMVX := Lib.hid (HMV.out.below hbx)
      have HBX := Lib.hid (HB.out.trans (hbx.mono HB.out.size))
      replace hc0 := bcell hbx hc0
      replace hc1 := bcell hbx hc1
      replace hc2 := bcell hbx hc2
      clear hbx c0 c1 c2 c3 c4 HVS HTS HPT HMV HB
      generalize wr.alloc (.cells #[.int .u8 (op : Int), .int .i64 (on : Int), .int .i64 key, .int .i64 val, .slice ma ml mcap] 27) = X at HX7 HVX HTX HPX HMVX HBX hc0 hc1 hc2 ⊢
      generalize wr.heap.size = b7 at HX7 ⊢
      clear wr
      have x1 := cell_at (j := 1) HX7.out rfl
      go_upto_region 6 with (fail)
      have hbx : Below X.heap.size X ((X.alloc (.cells #[.int .u8 (o : Int), .slice ka es1 kc, .slice va es1 vc] 46)).alloc (.cells #[.int .i64 0, .bool false, .slice none 0 0, .slice none 0 0, .slice none 0 0] 63)) := ((Below.refl _ _).alloc (Nat.le_refl _) _).alloc (by rw [size_alloc]; omega) _
      have HX8 : Hid (((X.alloc (.cells #[.int .u8 (o : Int), .slice ka es1 kc, .slice va es1 vc] 46)).alloc (.cells #[.int .i64 0, .bool false, .slice none 0 0, .slice none 0 0, .slice none 0 0] 63)).heap[X.heap.size]? = some (.cells #[.int .u8 (o : Int), .slice ka es1 kc, .slice va es1 vc] 46 (0, 0))) := at_alloc (heap_alloc_last X _)
      have HX72 := Lib.hid (below_at hbx HX7.out)
      have HG : Hid (Sts w w.heap.size o (1000 + j) (.slice (some ⟨g5, 0, none⟩) N5 cap5) vs u4 ts (X.heap.size + 1) (.int .i64 0) (.bool false) (.slice none 0 0) (.slice none 0 0) (.slice none 0 0) ((X.alloc (.cells #[.int .u8 (o : Int), .slice ka es1 kc, .slice va es1 vc] 46)).alloc (.cells #[.int .i64 0, .bool false, .slice none 0 0, .slice none 0 0, .slice none 0 0] 63))) := by
        have hv := HVX.out.below hbx
        have h9 := heap_alloc_last (X.alloc (.cells #[.int .u8 (o : Int), .slice ka es1 kc, .slice va es1 vc] 46)) (.cells #[.int .i64 0, .bool false, .slice none 0 0, .slice none 0 0, .slice none 0 0] 63)
        rw [size_alloc] at h9
        rw [← HN5.out] at *
        refine ⟨HBX.out.trans (hbx.mono HBX.out.size), hv, HTX.out.below hbx, h9, by have := HBX.out.size; omega, fun k hk e => ?_, Nat.le_refl _⟩
        obtain ⟨rs, -, ho, -⟩ := HTX.out
        have := (ho.lt k hk).2
        omega
      have HPY := Lib.hid (HPX.out.below hbx)
      have HMVY := Lib.hid (HMVX.out.below hbx)
      clear hbx HX7 HVX HTX HPX HMVX HBX hc0 hc1 hc2 x1
      generalize (X.alloc (.cells #[.int .u8 (o : Int), .slice ka es1 kc, .slice va es1 vc] 46)).alloc (.cells #[.int .i64 0, .bool false, .slice none 0 0, .slice none 0 0, .slice none 0 0] 63) = Y at HX8 HX72 HG HPY HMVY ⊢
      obtain ⟨b8, hb8⟩ : ∃ b, b = X.heap.size := ⟨_, rfl⟩
      obtain ⟨b9, hb9⟩ : ∃ b, b = b8 + 1 := ⟨_, rfl⟩
      rw [← hb8] at HX8 HG ⊢
      rw [← hb9] at HG ⊢
      clear hb8 hb9
      clear X
      have y0 := cell_at (j := 0) HX72.out rfl
      have y2 := cell_at (j := 2) HX72.out rfl
      have y3 := cell_at (j := 3) HX72.out rfl
      have y4 := cell_at (j := 4) HX72.out rfl
      have p0 := cell_at (j := 0) HX8.out rfl
      have p1 := cell_at (j := 1) HX8.out rfl
      have p2 := cell_at (j := 2) HX8.out rfl
      have HOP : op = 0 ∨ op = 1 ∨ op = 2 ∨ op = 3 ∨ op = 4 ∨ op = 5 ∨ op = 6 := by omega
      have HNX : Hid (N5 ≤ 801) := by have h1 := HVL.out; have h2 := HN5.out; show N5 ≤ 801; omega
      clear hop6
      go_upto_block 2 with (fail)
      go_cut [5] from 26 to 86 (fun v5 wc => ∃ x0 x1 x2 x3 x4 : Value, Sts w w.heap.size o (1000 + (j + 1)) v5 (next (ltO o) vs ⟨op, on, key, val, moves⟩) u4 ts b9 x0 x1 x2 x3 x4 wc ∧ Tld1 wc (tell (ltO o) es ⟨op, on, key, val, moves⟩) x0 x1 x2 x3 x4)
      case first =>
        rcases HOP with rfl | rfl | rfl | rfl | rfl | rfl | rfl
        · have HW : Hid (Calls Try.prog 41 #[.agg #[.int .u8 (o : Int), .slice ka es1 kc, .slice va es1 vc], .int .i64 key, .int .i64 val] Y fun e w' => ∃ v, e = .returned v ∧ PT w' v o (ins (ltO o) es key val) ∧ Below Y.heap.size Y w') := by
            have hp := HPY.out
            rw [HES.out] at hp ⊢
            exact with_w o key val es HSRT.out (by have := HEL.out; omega) _ Y hp.pvc
          go_wp2_with fail
          refine HW.out.mono ?_
          rintro e w2 ⟨v, rfl, hpt, hb2⟩
          obtain ⟨L2, hL2⟩ : ∃ L2, L2 = (ins (ltO o) es key val).length := ⟨_, rfl⟩
          have HPT := Lib.hid hpt
          obtain ⟨ka2, kc2, va2, vc2, rfl, -⟩ := hpt
          rw [← hL2] at HPT ⊢
          have HG2 := Lib.hid (HG.out.below hb2)
          have HB2 := Lib.hid hb2
          clear hb2 hL2 HG HW HPY HMVY y0 y2 y3 y4 p0 p1 p2 HX8 HX72
          obtain ⟨ps, q1, q2, q3⟩ := HG2.out.2.1
          rw [← HN5.out] at q2
          have HOV := Lib.hid q2
          have HQV := Lib.hid (And.intro q1 q3)
          clear q1 q2 q3
          go_wp2_with (at_builtin; refine wpList_append_own _ rfl (.tmp 28) (.tmp 35) 53 rfl w.heap.size 46 i46 (.agg #[.int .u8 0, .slice none 0 0, .slice none 0 0]) 3 56 Try.underlying53 HI.out.1 HI.out.2.1 HI.out.2.2.1 HI.out.2.2.2 rfl (by decide) _ _ _ rfl (HOV.out.alloc _) ⟨w2.heap.size, 0, none⟩ 1 1 [.int .u8 (o : Int), .slice ka2 L2 kc2, .slice va2 L2 vc2] rfl rfl (three_new' _ _ _ _ _) (three_one rfl rfl rfl) (by have := HNX.out; unfold maxLen; omega) (by have := HNX.out; omega) (by have := HG2.out.1.size; rw [size_alloc]; omega) ?_)
          intro v5n w3 hown3 hgrow3 _
          have hwz : w.heap.size ≤ w2.heap.size := HG2.out.1.size
          have hA3 : Below w2.heap.size w2 (w2.alloc (.cells #[.int .u8 (o : Int), .slice ka2 L2 kc2, .slice va2 L2 vc2] 46)) := (Below.refl _ _).alloc (Nat.le_refl _) _
          have HKB : Hid (KB 46 w2 w3) := (KB.of_below 46 hA3).trans (KB.grown (HOV.out.alloc _) hgrow3)
          have HBW := Lib.hid (below_grown ((Below.refl w.heap.size w2).alloc hwz (.cells #[.int .u8 (o : Int), .slice ka2 L2 kc2, .slice va2 L2 vc2] 46)) HOV.out (Nat.le_refl _) hwz hgrow3)
          have HO3 := Lib.hid hown3
          clear hown3 hgrow3 hA3 hwz
          go_wp2_with fail
          go_meet
          case rel =>
            refine ⟨_, _, _, _, _, ?_, rfl, rfl, IV.nil _, IV.nil _, SP.nil _⟩
            obtain ⟨s1, s2, s3, s5, s6, s7, s8⟩ := HG2.out
            refine ⟨s1.trans HBW.out, ?_, s3.kb HKB.out (by decide) (by decide) (by decide), HKB.out _ _ _ s5 (by decide), s6, s7, s8⟩
            have hnx : next (ltO o) vs ⟨0, on, key, val, moves⟩ = vs ++ [ins (ltO o) es key val] := by show vs ++ [ins (ltO o) (verOf vs _) key val] = _; rw [HVO.out]
            rw [hnx]
            refine versP_snoc (p := (.slice ka2 L2 kc2, .slice va2 L2 vc2)) HQV.out.1 (by rw [← HN5.out]; exact HO3.out) (fun i p es' hp he => ?_) ⟨HPT.out.kb (by decide) HKB.out, ins_srt (ord_ltO o) HSRT.out _ _, ?_⟩
            · obtain ⟨r1, r2, r3⟩ := HQV.out.2 i p es' hp he
              exact ⟨r1.kb (by decide) HKB.out, r2, by omega⟩
            · have r3 := HESL.out
              rw [ins_len (ord_ltO o) HSRT.out]
              split <;> omega
        · have HW : Hid (Calls Try.prog 42 #[.agg #[.int .u8 (o : Int), .slice ka es1 kc, .slice va es1 vc], .int .i64 key] Y fun e w' => ∃ v, e = .returned v ∧ PT w' v o (del (ltO o) es key) ∧ Below Y.heap.size Y w') := by
            have hp := HPY.out
            rw [HES.out] at hp ⊢
            exact without_w o key es HSRT.out (by have := HEL.out; omega) _ Y hp
          go_wp2_with fail
          refine HW.out.mono ?_
          rintro e w2 ⟨v, rfl, hpt, hb2⟩
          obtain ⟨L2, hL2⟩ : ∃ L2, L2 = (del (ltO o) es key).length := ⟨_, rfl⟩
          have HPT := Lib.hid hpt
          obtain ⟨ka2, kc2, va2, vc2, rfl, -⟩ := hpt
          rw [← hL2] at HPT ⊢
          have HG2 := Lib.hid (HG.out.below hb2)
          have HB2 := Lib.hid hb2
          clear hb2 hL2 HG HW HPY HMVY y0 y2 y3 y4 p0 p1 p2 HX8 HX72
          obtain ⟨ps, q1, q2, q3⟩ := HG2.out.2.1
          rw [← HN5.out] at q2
          have HOV := Lib.hid q2
          have HQV := Lib.hid (And.intro q1 q3)
          clear q1 q2 q3
          go_wp2_with (at_builtin; refine wpList_append_own _ rfl (.tmp 39) (.tmp 44) 53 rfl w.heap.size 46 i46 (.agg #[.int .u8 0, .slice none 0 0, .slice none 0 0]) 3 56 Try.underlying53 HI.out.1 HI.out.2.1 HI.out.2.2.1 HI.out.2.2.2 rfl (by decide) _ _ _ rfl (HOV.out.alloc _) ⟨w2.heap.size, 0, none⟩ 1 1 [.int .u8 (o : Int), .slice ka2 L2 kc2, .slice va2 L2 vc2] rfl rfl (three_new' _ _ _ _ _) (three_one rfl rfl rfl) (by have := HNX.out; unfold maxLen; omega) (by have := HNX.out; omega) (by have := HG2.out.1.size; rw [size_alloc]; omega) ?_)
          intro v5n w3 hown3 hgrow3 _
          have hwz : w.heap.size ≤ w2.heap.size := HG2.out.1.size
          have hA3 : Below w2.heap.size w2 (w2.alloc (.cells #[.int .u8 (o : Int), .slice ka2 L2 kc2, .slice va2 L2 vc2] 46)) := (Below.refl _ _).alloc (Nat.le_refl _) _
          have HKB : Hid (KB 46 w2 w3) := (KB.of_below 46 hA3).trans (KB.grown (HOV.out.alloc _) hgrow3)
          have HBW := Lib.hid (below_grown ((Below.refl w.heap.size w2).alloc hwz (.cells #[.int .u8 (o : Int), .slice ka2 L2 kc2, .slice va2 L2 vc2] 46)) HOV.out (Nat.le_refl _) hwz hgrow3)
          have HO3 := Lib.hid hown3
          clear hown3 hgrow3 hA3 hwz
          go_wp2_with fail
          go_meet
          case rel =>
            refine ⟨_, _, _, _, _, ?_, rfl, rfl, IV.nil _, IV.nil _, SP.nil _⟩
            obtain ⟨s1, s2, s3, s5, s6, s7, s8⟩ := HG2.out
            refine ⟨s1.trans HBW.out, ?_, s3.kb HKB.out (by decide) (by decide) (by decide), HKB.out _ _ _ s5 (by decide), s6, s7, s8⟩
            have hnx : next (ltO o) vs ⟨1, on, key, val, moves⟩ = vs ++ [del (ltO o) es key] := by show vs ++ [del (ltO o) (verOf vs _) key] = _; rw [HVO.out]
            rw [hnx]
            refine versP_snoc (p := (.slice ka2 L2 kc2, .slice va2 L2 vc2)) HQV.out.1 (by rw [← HN5.out]; exact HO3.out) (fun i p es' hp he => ?_) ⟨HPT.out.kb (by decide) HKB.out, del_srt (ord_ltO o) HSRT.out _, ?_⟩
            · obtain ⟨r1, r2, r3⟩ := HQV.out.2 i p es' hp he
              exact ⟨r1.kb (by decide) HKB.out, r2, by omega⟩
            · have r3 := HESL.out
              rw [del_len (ord_ltO o) HSRT.out]
              split <;> omega
        · have hget := pget_w o key es HSRT.out (by have := HEL.out; omega) _ Y (HPY.out |> fun h => (by rw [HES.out] at h; exact h.pv : PV Y (.agg #[.int .u8 (o : Int), .slice ka es.length kc, .slice va es.length vc]) o es))
          rw [← HES.out] at hget
          obtain ⟨ga, hga⟩ : ∃ ga, ga = (look (ltO o) es key).getD 0 := ⟨_, rfl⟩
          obtain ⟨gb, hgb⟩ : ∃ gb, gb = (look (ltO o) es key).isSome := ⟨_, rfl⟩
          rw [← hga, ← hgb] at hget
          have HGA := Lib.hid hga
          have HGB := Lib.hid hgb
          have HGET := Lib.hid hget
          clear hga hgb hget
          go_wp2_with fail
          refine HGET.out.mono ?_
          rintro e w2 ⟨rfl, hb2⟩
          have HG2 := Lib.hid (HG.out.below hb2)
          clear hb2 HGET
          clear HG HPY HMVY y0 y2 y3 y4 p0 p1 p2 HX8 HX72
          obtain ⟨z0, z1, z2, z3, z4⟩ := HG2.out.c
          have f0 := HG2.out.f 0
          have f1 := HG2.out.f 1
          have HGN := Lib.hid ((HG2.out.set 0 (.int .i64 ga) (y0 := .int .i64 ga) (y1 := .bool false) (y2 := .slice none 0 0) (y3 := .slice none 0 0) (y4 := .slice none 0 0) rfl).set 1 (.bool gb) (y0 := .int .i64 ga) (y1 := .bool gb) (y2 := .slice none 0 0) (y3 := .slice none 0 0) (y4 := .slice none 0 0) rfl)
          go_wp2_with fail
          go_meet
          case rel =>
            refine ⟨_, _, _, _, _, ?_, by show (Value.int .i64 ga) = _; rw [HGA.out]; rfl, by show (Value.bool gb) = _; rw [HGB.out]; rfl, IV.nil _, IV.nil _, SP.nil _⟩
            obtain ⟨s1, s2, s3, s5, s6, s7, s8⟩ := HGN.out
            exact ⟨s1, s2.more (by omega), s3, s5, s6, s7, s8⟩
        · obtain ⟨z0, z1, z2, z3, z4⟩ := HG.out.c
          have f0 := HG.out.f 0
          have HGN := Lib.hid (HG.out.set 0 (.int .i64 (es1 : Int)) (y0 := .int .i64 (es1 : Int)) (y1 := .bool false) (y2 := .slice none 0 0) (y3 := .slice none 0 0) (y4 := .slice none 0 0) rfl)
          go_wp2_with fail
          go_meet
          case rel =>
            refine ⟨_, _, _, _, _, ?_, by show (Value.int .i64 (es1 : Int)) = _; rw [HES.out]; rfl, rfl, IV.nil _, IV.nil _, SP.nil _⟩
            obtain ⟨s1, s2, s3, s5, s6, s7, s8⟩ := HGN.out
            exact ⟨s1, s2.more (by omega), s3, s5, s6, s7, s8⟩
        · obtain ⟨hik, hiv⟩ : IV Y (.slice ka es1 kc) (es.map (·.1)) ∧ IV Y (.slice va es1 vc) (es.map (·.2)) := by
            have h := HPY.out
            obtain ⟨ka', kc', va', vc', e1, i1, i2, -⟩ := h
            simp only [Value.agg.injEq, Array.mk.injEq, List.cons.injEq, and_true, true_and] at e1
            rw [← e1.1] at i1
            rw [← e1.2] at i2
            exact ⟨i1, i2⟩
          have HIK := Lib.hid hik
          have HIV := Lib.hid hiv
          clear hik hiv
          go_upto_region 16 with (fail)
          have HS2 := HG.out.set 2 (Value.slice ka es1 kc) (y0 := .int .i64 0) (y1 := .bool false) (y2 := (Value.slice ka es1 kc)) (y3 := .slice none 0 0) (y4 := .slice none 0 0) rfl
          have HS3 := HS2.set 3 (Value.slice va es1 vc) (y0 := .int .i64 0) (y1 := .bool false) (y2 := (Value.slice ka es1 kc)) (y3 := (Value.slice va es1 vc)) (y4 := .slice none 0 0) rfl
          have HGD : Hid (Sts w w.heap.size o (1000 + j) (.slice (some ⟨g5, 0, none⟩) N5 cap5) vs u4 ts b9 (.int .i64 0) (.bool false) (.slice none 0 0) (.slice none 0 0) (.slice none 0 0) Y.drew) := HG.out.below ((Below.refl _ Y).drew)
          have HG4 : Hid (Sts w w.heap.size o (1000 + j) (.slice (some ⟨g5, 0, none⟩) N5 cap5) vs u4 ts b9 (.int .i64 0) (.bool false) (Value.slice ka es1 kc) (.slice none 0 0) (.slice none 0 0) (Y.setCell ⟨b9, 2, none⟩ (Value.slice ka es1 kc)).drew) := HS2.below ((Below.refl _ _).drew)
          have HGN : Hid (Sts w w.heap.size o (1000 + j) (.slice (some ⟨g5, 0, none⟩) N5 cap5) vs u4 ts b9 (.int .i64 0) (.bool false) (Value.slice ka es1 kc) (Value.slice va es1 vc) (.slice none 0 0) ((Y.setCell ⟨b9, 2, none⟩ (Value.slice ka es1 kc)).setCell ⟨b9, 3, none⟩ (Value.slice va es1 vc)).drew) := HS3.below ((Below.refl _ _).drew)
          have HR0 : Hid (Y.drew.heap[b8]? = some (.cells #[.int .u8 (o : Int), .slice ka es1 kc, .slice va es1 vc] 46 (0, 0))) := HX8.out
          have hr1 := HG.out.kb 2 (Value.slice ka es1 kc) _ _ _ HX8.out (by decide)
          have HR1 : Hid ((Y.setCell ⟨b9, 2, none⟩ (Value.slice ka es1 kc)).drew.heap[b8]? = some (.cells #[.int .u8 (o : Int), .slice ka es1 kc, .slice va es1 vc] 46 (0, 0))) := hr1
          have HR2 : Hid (((Y.setCell ⟨b9, 2, none⟩ (Value.slice ka es1 kc)).setCell ⟨b9, 3, none⟩ (Value.slice va es1 vc)).drew.heap[b8]? = some (.cells #[.int .u8 (o : Int), .slice ka es1 kc, .slice va es1 vc] 46 (0, 0))) := HS2.kb 3 (Value.slice va es1 vc) _ _ _ hr1 (by decide)
          have HKN : Hid (IV ((Y.setCell ⟨b9, 2, none⟩ (Value.slice ka es1 kc)).setCell ⟨b9, 3, none⟩ (Value.slice va es1 vc)).drew (Value.slice ka es1 kc) (es.map (·.1))) := ((HIK.out.kb (by decide) (HG.out.kb 2 (Value.slice ka es1 kc))).kb (by decide) (HS2.kb 3 (Value.slice va es1 vc))).kb (T := 0) (by decide) (KB.of_below 0 ((Below.refl _ _).drew))
          have HLN : Hid (IV ((Y.setCell ⟨b9, 2, none⟩ (Value.slice ka es1 kc)).setCell ⟨b9, 3, none⟩ (Value.slice va es1 vc)).drew (Value.slice va es1 vc) (es.map (·.2))) := ((HIV.out.kb (by decide) (HG.out.kb 2 (Value.slice ka es1 kc))).kb (by decide) (HS2.kb 3 (Value.slice va es1 vc))).kb (T := 0) (by decide) (KB.of_below 0 ((Below.refl _ _).drew))
          clear HS2 HS3 hr1
          refine region_tree (fun W => W.heap[b8]? = some (.cells #[.int .u8 (o : Int), .slice ka es1 kc, .slice va es1 vc] 46 (0, 0))) (.one [0, 1, 2, 3, 4] 5 (.one [6] 7 .stop)) (by kernel_rfl) (by intro dst v c a w h; cases dst <;> exact h) (by kernel_rfl) HR0.out ?_
          refine t_one ?_
          simp only [opsOf, List.getElem?_toArray, List.getElem?_cons_succ, List.getElem?_cons_zero]
          repeat (refine r_read ?_ (by kernel_rfl) ?_ (fun K hK => ?_); rotate_left 1; (intro W hR; have q1 := cell_at (j := 1) hR rfl; have q2 := cell_at (j := 2) hR rfl; clear hR; go_simp; try with_reducible rfl); go_simp; refine hK _ ?_; clear hK K)
          refine t_nil1 ?_
          refine r_op rfl (fun K hK => ?_)
          obtain ⟨z0, z1, z2, z3, z4⟩ := HGD.out.c
          have f2 := HGD.out.f 2
          go_simp
          refine hK _ _ HR1.out ?_
          clear hK K z0 z1 z2 z3 z4 f2
          refine t_one ?_
          simp only [opsOf, List.getElem?_toArray, List.getElem?_cons_succ, List.getElem?_cons_zero]
          repeat (refine r_read ?_ (by kernel_rfl) ?_ (fun K hK => ?_); rotate_left 1; (intro W hR; have q1 := cell_at (j := 1) hR rfl; have q2 := cell_at (j := 2) hR rfl; clear hR; go_simp; try with_reducible rfl); go_simp; refine hK _ ?_; clear hK K)
          refine t_nil1 ?_
          refine r_op rfl (fun K hK => ?_)
          obtain ⟨z0, z1, z2, z3, z4⟩ := HG4.out.c
          have f3 := HG4.out.f 3
          go_simp
          refine hK _ _ HR2.out ?_
          clear hK K z0 z1 z2 z3 z4 f3
          refine t_end ?_
          go_wp2_with fail
          go_meet
          case rel =>
            refine ⟨_, _, _, _, _, ?_, rfl, rfl, HKN.out, HLN.out, SP.nil _⟩
            obtain ⟨s1, s2, s3, s5, s6, s7, s8⟩ := HGN.out
            exact ⟨s1, s2.more (by omega), s3, s5, s6, s7, s8⟩
        · have hbw := backward_w o es (by have := HEL.out; omega) _ Y (HPY.out |> fun h => (by rw [HES.out] at h; exact h.pvc : PVc Y (.agg #[.int .u8 (o : Int), .slice ka es.length kc, .slice va es.length vc]) o es))
          rw [← HES.out] at hbw
          have HBWD := Lib.hid hbw
          clear hbw
          go_wp2_with fail
          refine HBWD.out.mono ?_
          rintro e w2 ⟨kv, vv, rfl, hik, hiv, hb2⟩
          have HIK := Lib.hid hik
          have HIV := Lib.hid hiv
          obtain ⟨ak, ck, hsk⟩ := hik.slice
          obtain ⟨av, cv, hsv⟩ := hiv.slice
          obtain ⟨mk, hmk⟩ : ∃ m, m = (es.reverse.map (·.1)).length := ⟨_, rfl⟩
          obtain ⟨mv2, hmv⟩ : ∃ m, m = (es.reverse.map (·.2)).length := ⟨_, rfl⟩
          rw [← hmk] at hsk
          rw [← hmv] at hsv
          subst hsk hsv
          have HG2 := Lib.hid (HG.out.below hb2)
          clear hb2 HBWD hik hiv hmk hmv
          clear HG HPY HMVY y0 y2 y3 y4 p0 p1 p2 HX8 HX72
          obtain ⟨z0, z1, z2, z3, z4⟩ := HG2.out.c
          have f2 := HG2.out.f 2
          have f3 := HG2.out.f 3
          have HG4 := Lib.hid (HG2.out.set 2 (Value.slice ak mk ck) (y0 := .int .i64 0) (y1 := .bool false) (y2 := (Value.slice ak mk ck)) (y3 := .slice none 0 0) (y4 := .slice none 0 0) rfl)
          have HGN := Lib.hid (HG4.out.set 3 (Value.slice av mv2 cv) (y0 := .int .i64 0) (y1 := .bool false) (y2 := (Value.slice ak mk ck)) (y3 := (Value.slice av mv2 cv)) (y4 := .slice none 0 0) rfl)
          have HKN := Lib.hid ((HIK.out.kb (by decide) (HG2.out.kb 2 (Value.slice ak mk ck))).kb (by decide) (HG4.out.kb 3 (Value.slice av mv2 cv)))
          have HLN := Lib.hid ((HIV.out.kb (by decide) (HG2.out.kb 2 (Value.slice ak mk ck))).kb (by decide) (HG4.out.kb 3 (Value.slice av mv2 cv)))
          go_wp2_with fail
          go_meet
          case rel =>
            refine ⟨_, _, _, _, _, ?_, rfl, rfl, HKN.out, HLN.out, SP.nil _⟩
            obtain ⟨s1, s2, s3, s5, s6, s7, s8⟩ := HGN.out
            exact ⟨s1, s2.more (by omega), s3, s5, s6, s7, s8⟩
        · have hpw := pwalk_w o es HSRT.out (by have := HEL.out; omega) moves HM5.out HML.out.2 (.slice ma ml mcap) _ Y HMVY.out (HPY.out |> fun h => (by rw [HES.out] at h; exact h.pv : PV Y (.agg #[.int .u8 (o : Int), .slice ka es.length kc, .slice va es.length vc]) o es))
          rw [← HES.out] at hpw
          have HPW := Lib.hid hpw
          clear hpw
          go_wp2_with fail
          refine HPW.out.mono ?_
          rintro e w2 ⟨sv2, rfl, hsv, hb2⟩
          have HSP : Hid (SP w2 sv2 (seens (ltO o) es (pos es 0) moves)) := SP.of_own (by rw [seens_len]) hsv
          obtain ⟨sa2, cs, hss⟩ := own_len hsv
          rw [← HML.out.1] at hss
          subst hss
          have HG2 := Lib.hid (HG.out.below hb2)
          clear hb2 HPW hsv
          clear HG HPY HMVY y0 y2 y3 y4 p0 p1 p2 HX8 HX72
          obtain ⟨z0, z1, z2, z3, z4⟩ := HG2.out.c
          have f4 := HG2.out.f 4
          have HGN := Lib.hid (HG2.out.set 4 (.slice sa2 ml cs) (y0 := .int .i64 0) (y1 := .bool false) (y2 := .slice none 0 0) (y3 := .slice none 0 0) (y4 := .slice sa2 ml cs) rfl)
          have HSN := Lib.hid (HSP.out.kb (by decide) (HG2.out.kb 4 (.slice sa2 ml cs)))
          go_wp2_with fail
          go_meet
          case rel =>
            refine ⟨_, _, _, _, _, ?_, rfl, rfl, IV.nil _, IV.nil _, HSN.out⟩
            obtain ⟨s1, s2, s3, s5, s6, s7, s8⟩ := HGN.out
            exact ⟨s1, s2.more (by omega), s3, s5, s6, s7, s8⟩
      case rest =>
      obtain ⟨x0, x1, x2, x3, x4, hst, rfl, rfl, hi2, hi3, hi4⟩ := hcut
      obtain ⟨W, rfl⟩ : ∃ W : World, W = wc := ⟨_, rfl⟩
      obtain ⟨v5, rfl⟩ : ∃ v : Value, v = u5 := ⟨_, rfl⟩
      have HG2 := Lib.hid hst
      have o2 := hi2.one
      have o3 := hi3.one
      have o4 := hi4.one
      have HI2 := Lib.hid hi2
      have HI3 := Lib.hid hi3
      have HI4 := Lib.hid hi4
      obtain ⟨t, htt⟩ : ∃ t, t = tell (ltO o) es ⟨op, on, key, val, moves⟩ := ⟨_, rfl⟩
      rw [← htt] at HI2 HI3 HI4 HG2
      have HT := Lib.hid htt
      obtain ⟨tv, tyes, tk, tvs, tsn⟩ := t
      simp only at HG2
      clear hst hi2 hi3 hi4 HG HPY HMVY y0 y2 y3 y4 p0 p1 p2 HX8 HX72 HOP htt
      obtain ⟨z0, z1, z2, z3, z4⟩ := HG2.out.c
      obtain ⟨rs, q1, q2, q3⟩ := HG2.out.2.2.1
      obtain ⟨nt, hnt⟩ : ∃ nt, nt = ts.length := ⟨_, rfl⟩
      rw [← hnt] at q2
      have HNT := Lib.hid hnt
      have HO := Lib.hid q2
      have HQ := Lib.hid (And.intro q1 q3)
      have hnt2 : nt ≤ 800 := by have := HTL.out; omega
      clear q1 q2 q3 hnt
      go_wp2_with (at_builtin; refine wpList_append_own _ rfl (.tmp 87) (.tmp 89) 52 rfl w.heap.size 63 i63 (.agg #[.int .i64 0, .bool false, .slice none 0 0, .slice none 0 0, .slice none 0 0]) 5 88 Try.underlying52 HJ.out.1 HJ.out.2.1 HJ.out.2.2.1 HJ.out.2.2.2 rfl (by decide) _ _ _ rfl (HO.out.alloc _) ⟨W.heap.size, 0, none⟩ 1 1 [.int .i64 tv, .bool tyes, x2, x3, x4] rfl rfl (five_new _ _ _ _ _ _ _) (five_one rfl rfl o2 o3 o4) (by unfold maxLen; omega) (by omega) (by have := HG2.out.1.size; rw [size_alloc]; omega) ?_)
      intro v4n w4 hown4 hgrow4 _
      have hwz : w.heap.size ≤ W.heap.size := HG2.out.1.size
      have hA4 : Below W.heap.size W (W.alloc (.cells #[.int .i64 tv, .bool tyes, x2, x3, x4] 63)) := (Below.refl _ _).alloc (Nat.le_refl _) _
      have HBW := Lib.hid (below_grown ((Below.refl w.heap.size W).alloc hwz (.cells #[.int .i64 tv, .bool tyes, x2, x3, x4] 63)) HO.out (Nat.le_refl _) hwz hgrow4)
      have HKB : Hid (KB 63 W w4) := (KB.of_below 63 hA4).trans (KB.grown (HO.out.alloc _) hgrow4)
      have HO4 := Lib.hid hown4
      clear hown4 hgrow4 hA4 hwz z0 z1 z2 z3 z4 o2 o3 o4
      go_wp2_with fail
      go_roundg (gk - 1)
      case measure => omega
      case rel =>
        refine ⟨j + 1, next (ltO o) vs ⟨op, on, key, val, moves⟩, ts ++ [⟨tv, tyes, tk, tvs, tsn⟩], by omega, rfl, HG2.out.2.1.kb HKB.out (by decide) (by decide), ?_, ?_, ?_, ?_, ?_, ?_, ?_, ?_⟩
        · refine toldP_snoc (r := (x2, x3, x4)) HQ.out.1 (by rw [← HNT.out]; exact HO4.out) (fun i t r ht hr => ?_) ?_
          · obtain ⟨k1, k2, k3⟩ := HQ.out.2 i t r ht hr
            exact ⟨k1.kb (by decide) HKB.out, k2.kb (by decide) HKB.out, k3.kb (by decide) HKB.out⟩
          · exact ⟨HI2.out.kb (by decide) HKB.out, HI3.out.kb (by decide) HKB.out, HI4.out.kb (by decide) HKB.out⟩
        · rw [List.length_append, HTL.out]; rfl
        · rw [next_len]; have := HVL.out; split <;> omega
        · rw [next_len]; have := HVL.out; split <;> omega
        · rw [HTO.out, run_drop HS2.out, HVO.out, ← HT.out, List.append_assoc]; rfl
        · rw [HFI.out]
          obtain ⟨hl, he⟩ := List.getElem?_eq_some_iff.1 HS2.out
          rw [List.drop_eq_getElem_cons hl, he]
          rfl
        · have h := HRI2.out
          rw [next_len, ← HN5.out]
          exact h
        · exact HG2.out.1.trans HBW.out
    · have h1 : decide ((j : Int) < (n : Int)) = false := by simp; omega
      have hjn : j = n := by omega
      have hd : steps.drop j = [] := List.drop_eq_nil_of_le (by rw [hjn, HN.out]; exact Nat.le_refl _)
      have HJN := Lib.hid hjn
      have HTE : Hid (tot = ts) := by show tot = ts; rw [HTO.out, hd]; exact List.append_nil _
      have HFE : Hid (fin = vs) := by show fin = vs; rw [HFI.out, hd]; rfl
      clear hjn hd
      go_wp2_with fail
      go_ret2
      refine ⟨_, _, rfl, ?_, ?_, HB.out⟩
      · rw [HTE.out]; exact HTS.out
      · rw [HFE.out, ← HJN.out]; exact HVS.out
end Go.Proofs.Ytefigjdebakccaa
