/- The reference's pairs while new ones are made of them: what lies in memory. -/
import Derived.Test.YtefigjdebakccaaCut2
import Derived.Test.YtefigjdebakccaaTre2
namespace Go.Proofs.Ytefigjdebakccaa
open Go.RowKit

/-- the reference's pairs, as they are read -/
def PVc (w : World) (v : Value) (o : Nat) (es : List (Int × Int)) : Prop := ∃ ka kc va vc, v = .agg #[.int .u8 (o : Int), .slice ka es.length kc, .slice va es.length vc] ∧ PR w ka va es ∧ Home ka es.length kc ∧ Home va es.length vc
theorem PVc.below {w w' : World} {v : Value} {o : Nat} {es : List (Int × Int)} (h : PVc w v o es) (b : Below w.heap.size w w') : PVc w' v o es := by
  obtain ⟨ka, kc, va, vc, h1, h2, h3, h4⟩ := h
  exact ⟨ka, kc, va, vc, h1, h2.below b, h3, h4⟩
theorem PR.keys {w : World} {ka va : Option Addr} {es : List (Int × Int)} (h : PR w ka va es) : ∀ (i : Nat) (x : Int), (es.map (·.1))[i]? = some x → ∃ g, ka = some ⟨g, 0, none⟩ ∧ w.cell? ⟨g, i, none⟩ = some (.int .i64 x) := fun i x hx => by
  rw [List.getElem?_map] at hx
  cases he : es[i]? with
  | none => rw [he] at hx; cases hx
  | some e =>
    rw [he] at hx
    obtain rfl := Option.some.inj hx
    exact (h i e he).1
theorem PR.vals {w : World} {ka va : Option Addr} {es : List (Int × Int)} (h : PR w ka va es) : ∀ (i : Nat) (x : Int), (es.map (·.2))[i]? = some x → ∃ g, va = some ⟨g, 0, none⟩ ∧ w.cell? ⟨g, i, none⟩ = some (.int .i64 x) := fun i x hx => by
  rw [List.getElem?_map] at hx
  cases he : es[i]? with
  | none => rw [he] at hx; cases hx
  | some e =>
    rw [he] at hx
    obtain rfl := Option.some.inj hx
    exact (h i e he).2
theorem own_homeW {w : World} {B s n : Nat} {e : TypeId} {cs : List Value} {a : Option Addr} {k c : Nat} (h : w.ownsRow B e s (.slice a k c) n cs) : k = n ∧ Home a n c := by
  rcases h.2 with ⟨h1, h0⟩ | ⟨g, cap, cur, h1, h2, h3, h4, h5⟩
  · simp only [Value.slice.injEq] at h1
    obtain ⟨rfl, rfl, rfl⟩ := h1
    exact ⟨h0.symm, by omega, fun _ => rfl, fun x hx => by cases hx⟩
  · simp only [Value.slice.injEq] at h1
    obtain ⟨rfl, rfl, rfl⟩ := h1
    exact ⟨rfl, h4, fun e => (by cases e), fun x hx => ⟨g, (Option.some.inj hx).symm⟩⟩
theorem own_at {w w' : World} {B n s b : Nat} {e : TypeId} {v : Value} {cs : List Value} {x : Obj} (hx : w.heap[b]? = some x) (hb : b < B) (ho : w.ownsRow B e s v n cs) (hg : w.grownBy w' v.ownBlock) : w'.heap[b]? = some x := by
  rw [hg.block b (lt_of_block hx) fun e1 => by have := (ho.lt b e1.symm).1; omega]
  exact hx
/-- what stays while a row of one's own, from B on, is being made -/
structure Rw (w : World) (B b3 b6 b9 : Nat) (c3 c6 c9 : Array Value) (ov : Value) (ocs : List Value) (W : World) : Prop where
  bel : Below w.heap.size w W
  k3 : W.heap[b3]? = some (.cells c3 46 (0, 0))
  k6 : W.heap[b6]? = some (.cells c6 46 (0, 0))
  k9 : W.heap[b9]? = some (.cells c9 46 (0, 0))
  own : W.ownsRow w.heap.size 3 1 ov ocs.length ocs
  olt : ∀ k, ov.ownBlock = some k → k < B
  wB : w.heap.size ≤ B
  BW : B ≤ W.heap.size
  l3 : b3 < B
  l6 : b6 < B
  l9 : b9 < B
section
variable {w W W' : World} {B b3 b6 b9 : Nat} {c3 c6 c9 : Array Value} {ov : Value} {ocs : List Value}
theorem Rw.drew (h : Rw w B b3 b6 b9 c3 c6 c9 ov ocs W) : Rw w B b3 b6 b9 c3 c6 c9 ov ocs W.drew := ⟨h.bel.drew, h.k3, h.k6, h.k9, h.own, h.olt, h.wB, h.BW, h.l3, h.l6, h.l9⟩
theorem Rw.alloc (h : Rw w B b3 b6 b9 c3 c6 c9 ov ocs W) (o : Obj) : Rw w B b3 b6 b9 c3 c6 c9 ov ocs (W.alloc o) :=
  ⟨h.bel.alloc h.bel.size _, at_alloc h.k3, at_alloc h.k6, at_alloc h.k9, h.own.alloc _, h.olt, h.wB, by rw [size_alloc]; exact Nat.le_succ_of_le h.BW, h.l3, h.l6, h.l9⟩
theorem Rw.grow (h : Rw w B b3 b6 b9 c3 c6 c9 ov ocs W) {v : Value} {n : Nat} {cs : List Value} (ho : W.ownsRow B 3 1 v n cs) (hg : W.grownBy W' v.ownBlock) : Rw w B b3 b6 b9 c3 c6 c9 ov ocs W' :=
  ⟨h.bel.trans (below_grown (Below.refl w.heap.size W) ho h.wB h.bel.size hg), own_at h.k3 h.l3 ho hg, own_at h.k6 h.l6 ho hg, own_at h.k9 h.l9 ho hg, own_but h.own (but_grown hg) (fun k hk e => by have := h.olt k hk; have := (ho.lt k e).1; omega), h.olt, h.wB, Nat.le_trans h.BW hg.size, h.l3, h.l6, h.l9⟩
end
/-- what has been made -/
def Out (w : World) (b3 b6 b9 : Nat) (c3 c6 : Array Value) (o : Nat) (kv : Value) (kcs : List Value) (vv : Value) (vcs : List Value) (W : World) : Prop :=
  Below w.heap.size w W ∧ W.heap[b3]? = some (.cells c3 46 (0, 0)) ∧ W.heap[b6]? = some (.cells c6 46 (0, 0)) ∧ W.heap[b9]? = some (.cells #[.int .u8 (o : Int), kv, vv] 46 (0, 0)) ∧ W.ownsRow w.heap.size 3 1 kv kcs.length kcs ∧ W.ownsRow w.heap.size 3 1 vv vcs.length vcs ∧
  (kv.ownBlock = none ∨ kv.ownBlock ≠ vv.ownBlock) ∧ w.heap.size ≤ b9 ∧ b3 ≠ b9 ∧ b6 ≠ b9
section
variable {w W W' : World} {b3 b6 b9 o : Nat} {c3 c6 : Array Value} {kv vv : Value} {kcs vcs : List Value}
/-- the values' row is left alone -/
theorem Out.rwK (h : Out w b3 b6 b9 c3 c6 o kv kcs vv vcs W) : Rw w W.heap.size b3 b6 b9 c3 c6 #[.int .u8 (o : Int), kv, vv] vv vcs W := by
  obtain ⟨h1, h2, h3, h4, -, h6, -⟩ := h
  exact ⟨h1, h2, h3, h4, h6, fun k hk => (h6.lt k hk).2, h1.size, Nat.le_refl _, lt_of_block h2, lt_of_block h3, lt_of_block h4⟩
/-- the keys' row is left alone -/
theorem Out.rwV (h : Out w b3 b6 b9 c3 c6 o kv kcs vv vcs W) : Rw w W.heap.size b3 b6 b9 c3 c6 #[.int .u8 (o : Int), kv, vv] kv kcs W := by
  obtain ⟨h1, h2, h3, h4, h5, -⟩ := h
  exact ⟨h1, h2, h3, h4, h5, fun k hk => (h5.lt k hk).2, h1.size, Nat.le_refl _, lt_of_block h2, lt_of_block h3, lt_of_block h4⟩
theorem own_set9 {s n b i : Nat} {v u : Value} {cs : List Value} {c9 : Array Value} (ho : W.ownsRow s 3 1 v n cs) (h9 : W.heap[b]? = some (.cells c9 46 (0, 0))) : (W.setCell ⟨b, i, none⟩ u).ownsRow s 3 1 v n cs :=
  own_but ho ((But.refl (· = b) W).setCell (p := ⟨b, i, none⟩) (.inl rfl) u) (own_off ho h9 (by decide))
theorem Out.ofK {B : Nat} {v : Value} {cs : List Value} {c9 : Array Value} (h : Rw w B b3 b6 b9 c3 c6 c9 vv vcs W) (h9 : c9 = #[.int .u8 (o : Int), kv, vv]) (ho : W.ownsRow B 3 1 v cs.length cs) (hb : w.heap.size ≤ b9) (n3 : b3 ≠ b9) (n6 : b6 ≠ b9) :
    Out w b3 b6 b9 c3 c6 o v cs vv vcs (W.setCell ⟨b9, 1, none⟩ v) := by
  subst h9
  refine ⟨h.bel.setCell (p := ⟨b9, 1, none⟩) hb _, ?_, ?_, heap_setCell_same _ _ _ _ _ _ h.k9, own_base (own_set9 ho h.k9) h.wB, own_set9 h.own h.k9, ?_, hb, n3, n6⟩
  · rw [heap_setCell_other _ _ _ _ (by exact n3)]; exact h.k3
  · rw [heap_setCell_other _ _ _ _ (by exact n6)]; exact h.k6
  · cases hv : v.ownBlock with
    | none => exact .inl rfl
    | some k => exact .inr fun e => by have := (ho.lt k hv).1; have := h.olt k e.symm; omega
theorem Out.ofV {B : Nat} {v : Value} {cs : List Value} {c9 : Array Value} (h : Rw w B b3 b6 b9 c3 c6 c9 kv kcs W) (h9 : c9 = #[.int .u8 (o : Int), kv, vv]) (ho : W.ownsRow B 3 1 v cs.length cs) (hb : w.heap.size ≤ b9) (n3 : b3 ≠ b9) (n6 : b6 ≠ b9) :
    Out w b3 b6 b9 c3 c6 o kv kcs v cs (W.setCell ⟨b9, 2, none⟩ v) := by
  subst h9
  refine ⟨h.bel.setCell (p := ⟨b9, 2, none⟩) hb _, ?_, ?_, heap_setCell_same _ _ _ _ _ _ h.k9, own_set9 h.own h.k9, own_base (own_set9 ho h.k9) h.wB, ?_, hb, n3, n6⟩
  · rw [heap_setCell_other _ _ _ _ (by exact n3)]; exact h.k3
  · rw [heap_setCell_other _ _ _ _ (by exact n6)]; exact h.k6
  · cases hv : kv.ownBlock with
    | none => exact .inl rfl
    | some k => exact .inr fun e => by have := (ho.lt k e.symm).1; have := h.olt k hv; omega
/-- while both rows grow -/
def Rw2 (w : World) (b3 b6 b9 : Nat) (c3 c6 : Array Value) (o : Nat) (vv : Value) (W : World) : Prop :=
  Below w.heap.size w W ∧ W.heap[b3]? = some (.cells c3 46 (0, 0)) ∧ W.heap[b6]? = some (.cells c6 46 (0, 0)) ∧ (∃ x, W.heap[b9]? = some (.cells #[.int .u8 (o : Int), x, vv] 46 (0, 0))) ∧ w.heap.size ≤ b9 ∧ b3 ≠ b9 ∧ b6 ≠ b9
theorem Rw2.grow (h : Rw2 w b3 b6 b9 c3 c6 o vv W) {v : Value} {n : Nat} {cs : List Value} (ho : W.ownsRow w.heap.size 3 1 v n cs) (hg : W.grownBy W' v.ownBlock) : Rw2 w b3 b6 b9 c3 c6 o vv W' := by
  obtain ⟨h1, h2, h3, ⟨x, h4⟩, h5⟩ := h
  have hb := but_grown hg
  have off : ∀ {b : Nat} {c : Array Value}, W.heap[b]? = some (.cells c 46 (0, 0)) → W'.heap[b]? = some (.cells c 46 (0, 0)) := fun {b c} hx => hb.at hx fun e => own_off ho hx (by decide) b e rfl
  exact ⟨h1.trans (below_grown (Below.refl w.heap.size W) ho (Nat.le_refl _) h1.size hg), off h2, off h3, ⟨x, off h4⟩, h5⟩
theorem Rw2.set (h : Rw2 w b3 b6 b9 c3 c6 o vv W) (u : Value) : Rw2 w b3 b6 b9 c3 c6 o vv (W.setCell ⟨b9, 1, none⟩ u) := by
  obtain ⟨h1, h2, h3, ⟨x, h4⟩, h5, n3, n6⟩ := h
  refine ⟨h1.setCell (p := ⟨b9, 1, none⟩) h5 _, ?_, ?_, ⟨u, heap_setCell_same _ _ _ _ _ _ h4⟩, h5, n3, n6⟩
  · rw [heap_setCell_other _ _ _ _ (by exact n3)]; exact h2
  · rw [heap_setCell_other _ _ _ _ (by exact n6)]; exact h3
theorem Rw2.drew (h : Rw2 w b3 b6 b9 c3 c6 o vv W) : Rw2 w b3 b6 b9 c3 c6 o vv W.drew := ⟨h.1.drew, h.2⟩
theorem Out.rw2 (h : Out w b3 b6 b9 c3 c6 o kv kcs vv vcs W) : Rw2 w b3 b6 b9 c3 c6 o vv W := ⟨h.1, h.2.1, h.2.2.1, ⟨kv, h.2.2.2.1⟩, h.2.2.2.2.2.2.2⟩
/-- rows of one's own are pairs -/
theorem pvc_own {es : List (Int × Int)} {g1 c1 g2 c2 : Nat} {k v : Value} (hk : k = .slice (some ⟨g1, 0, none⟩) es.length c1) (hv : v = .slice (some ⟨g2, 0, none⟩) es.length c2) (h1 : W.ownsRow w.heap.size 3 1 k es.length ((es.map (·.1)).map (Value.int .i64)))
    (h2 : W.ownsRow w.heap.size 3 1 v es.length ((es.map (·.2)).map (Value.int .i64))) : PVc W (.agg #[.int .u8 (o : Int), k, v]) o es := by
  subst hk hv
  exact ⟨_, c1, _, c2, rfl, fun i e he => ⟨⟨g1, rfl, own_cell h1 (by rw [List.getElem?_map, List.getElem?_map, he]; rfl)⟩, g2, rfl, own_cell h2 (by rw [List.getElem?_map, List.getElem?_map, he]; rfl)⟩, (own_homeW h1).2, (own_homeW h2).2⟩
end
/-- the reference's pairs in blocks of whole numbers -/
def PT (w : World) (v : Value) (o : Nat) (es : List (Int × Int)) : Prop := ∃ ka kc va vc, v = .agg #[.int .u8 (o : Int), .slice ka es.length kc, .slice va es.length vc] ∧ IV w (.slice ka es.length kc) (es.map (·.1)) ∧ IV w (.slice va es.length vc) (es.map (·.2)) ∧ Home ka es.length kc ∧ Home va es.length vc
theorem PT.pv {w : World} {v : Value} {o : Nat} {es : List (Int × Int)} (h : PT w v o es) : PV w v o es := by
  obtain ⟨ka, kc, va, vc, rfl, h1, h2, -⟩ := h
  exact ⟨_, _, rfl, h1, h2⟩
theorem PT.pvc {w : World} {v : Value} {o : Nat} {es : List (Int × Int)} (h : PT w v o es) : PVc w v o es := by
  obtain ⟨ka, kc, va, vc, rfl, h1, h2, h3, h4⟩ := h
  refine ⟨ka, kc, va, vc, rfl, fun i e he => ⟨?_, ?_⟩, h3, h4⟩
  · obtain ⟨a, c, e1, r⟩ := h1.reads
    simp only [Value.slice.injEq] at e1
    obtain ⟨rfl, -, -⟩ := e1
    exact r i e.1 (by rw [List.getElem?_map, he]; rfl)
  · obtain ⟨a, c, e1, r⟩ := h2.reads
    simp only [Value.slice.injEq] at e1
    obtain ⟨rfl, -, -⟩ := e1
    exact r i e.2 (by rw [List.getElem?_map, he]; rfl)
theorem PT.kb {T : TypeId} {w w' : World} {v : Value} {o : Nat} {es : List (Int × Int)} (hT : 3 ≠ T) (b : KB T w w') (h : PT w v o es) : PT w' v o es := by
  obtain ⟨ka, kc, va, vc, h0, h1, h2, h3, h4⟩ := h
  exact ⟨ka, kc, va, vc, h0, h1.kb hT b, h2.kb hT b, h3, h4⟩
theorem PT.below {w w' : World} {v : Value} {o : Nat} {es : List (Int × Int)} (h : PT w v o es) (b : Below w.heap.size w w') : PT w' v o es := h.kb (T := 0) (by decide) (KB.of_below 0 b)
theorem pt_any {W : World} {o B : Nat} {es : List (Int × Int)} {a1 a2 : Option Addr} {n1 n2 c1 c2 : Nat} (h1 : W.ownsRow B 3 1 (.slice a1 n1 c1) es.length ((es.map (·.1)).map (Value.int .i64)))
    (h2 : W.ownsRow B 3 1 (.slice a2 n2 c2) es.length ((es.map (·.2)).map (Value.int .i64))) : PT W (.agg #[.int .u8 (o : Int), .slice a1 n1 c1, .slice a2 n2 c2]) o es := by
  obtain ⟨k1, k2⟩ := own_homeW h1
  obtain ⟨k3, k4⟩ := own_homeW h2
  subst k1 k3
  exact ⟨a1, c1, a2, c2, rfl, IV.of_own (by rw [List.length_map]) rfl h1, IV.of_own (by rw [List.length_map]) rfl h2, k2, k4⟩
theorem size46 : (Try.prog.info? 46).map (·.size) = some 3 := by kernel_rfl
theorem set3_at {E : World} {b : Nat} {a0 a1 a2 x y z : Value} (h : E.heap[b]? = some (.cells #[a0, a1, a2] 46 (0, 0))) : (((E.setCell ⟨b, 0, none⟩ x).setCell ⟨b, 1, none⟩ y).setCell ⟨b, 2, none⟩ z).heap[b]? = some (.cells #[x, y, z] 46 (0, 0)) :=
  heap_setCell_same _ _ _ _ _ _ (heap_setCell_same _ _ _ _ _ _ (heap_setCell_same _ _ _ _ _ _ h))
theorem set3_but (E : World) (b : Nat) (x y z : Value) : But (· = b) E (((E.setCell ⟨b, 0, none⟩ x).setCell ⟨b, 1, none⟩ y).setCell ⟨b, 2, none⟩ z) :=
  (((But.refl (· = b) E).setCell (p := ⟨b, 0, none⟩) (.inl rfl) _).setCell (p := ⟨b, 1, none⟩) (.inl rfl) _).setCell (p := ⟨b, 2, none⟩) (.inl rfl) _
end Go.Proofs.Ytefigjdebakccaa
