/- What a sorted map's nodes hold in memory, and what keeps them; where a key stands in a leaf. -/
import Derived.Test.YtefigjdebakccaaSrch
namespace Go.Proofs.Ytefigjdebakccaa
open Go.RowKit

/-- the blocks of a sorted map's own kinds stand as they stood -/
def Own (t : TypeId) : Prop := t = 143 ∨ t = 140 ∨ t = 165 ∨ t = 163
theorem own143 : Own 143 := by unfold Own; simp
theorem own140 : Own 140 := by unfold Own; simp
theorem own165 : Own 165 := by unfold Own; simp
theorem own163 : Own 163 := by unfold Own; simp
theorem own122 : ¬ Own 122 := by unfold Own; simp
theorem own4 : ¬ Own 4 := by unfold Own; simp
def Stay (w w' : World) : Prop := ∀ (b : Nat) (c : Array Value) (t : TypeId), w.heap[b]? = some (Obj.cells c t (0, 0)) → Own t → w'.heap[b]? = some (Obj.cells c t (0, 0))
theorem Stay.refl (w : World) : Stay w w := fun _ _ _ h _ => h
theorem Stay.trans {a b c : World} (h : Stay a b) (k : Stay b c) : Stay a c := fun b x t h1 h2 => k b x t (h b x t h1 h2) h2
theorem Stay.of_below {w w' : World} (h : Below w.heap.size w w') : Stay w w' := fun b c t h1 _ => by rw [h.block b (lt_of_block h1)]; exact h1
/-- the flag in block rb is r -/
def Flag (w : World) (rb : Nat) (r : Bool) : Prop := w.heap[rb]? = some (.cells #[.bool r] 4 (0, 0))
theorem Flag.other {w : World} {rb b : Nat} {r : Bool} {c : Array Value} {t : TypeId} (h : Flag w rb r) (hb : w.heap[b]? = some (Obj.cells c t (0, 0))) (ht : t ≠ 4) : b ≠ rb := by
  rintro rfl
  unfold Flag at h
  rw [hb] at h
  simp only [Option.some.injEq, Obj.cells.injEq] at h
  exact ht h.2.1
theorem But.stay {w w' : World} {rb : Nat} {r : Bool} (h : But (· = rb) w w') (hf : Flag w rb r) : Stay w w' := fun b c t hb ht => h.at hb fun e => hf.other hb (by rintro rfl; exact own4 ht) e
theorem But.set {a w : World} {rb : Nat} (h : But (· = rb) a w) (u : Value) : But (· = rb) a (w.setCell ⟨rb, 0, none⟩ u) :=
  ⟨h.os, h.tape, h.output, Nat.le_trans h.size (by simp), fun k hk hs => by
    rw [heap_setCell_other _ _ _ _ (by exact hs)]; exact h.block k hk hs⟩
theorem at_alloc {w : World} {b : Nat} {x o : Obj} (h : w.heap[b]? = some x) : (w.alloc o).heap[b]? = some x := by
  rw [Below.heap_alloc _ _ _ (lt_of_block h)]; exact h
theorem below_at {w w' : World} {b : Nat} {x : Obj} (h : Below w.heap.size w w') (hb : w.heap[b]? = some x) : w'.heap[b]? = some x := by
  rw [h.block b (lt_of_block hb)]; exact hb
theorem Flag.set {w : World} {rb : Nat} {r : Bool} (h : Flag w rb r) (u : Bool) : Flag (w.setCell ⟨rb, 0, none⟩ (.bool u)) rb u := heap_setCell_same _ _ _ _ _ _ h
theorem Flag.below {w w' : World} {rb : Nat} {r : Bool} (h : Flag w rb r) (hb : Below w.heap.size w w') : Flag w' rb r := below_at hb h

/-- a slice's pairs -/
def Ents (w : World) (sl : Value) (es : List (Int × Int)) : Prop :=
  ∃ (b o c : Nat) (arr : Array Value), sl = .slice (some ⟨b, o, none⟩) es.length c ∧ w.heap[b]? = some (.cells arr 140 (0, 0)) ∧ es.length ≤ c ∧ ∀ (i : Nat) (e : Int × Int), es[i]? = some e → arr[o + i * 2]? = some (.int .i64 e.1) ∧ arr[o + i * 2 + 1]? = some (.int .i64 e.2)
/-- a leaf -/
def LeafN (w : World) (v : Value) (es : List (Int × Int)) : Prop := ∃ (b : Nat) (sl : Value), v = .iface 138 (.pointer (some ⟨b, 0, none⟩)) ∧ w.heap[b]? = some (.cells #[sl] 143 (0, 0)) ∧ Ents w sl es ∧ es ≠ [] ∧ es.length ≤ 32
/-- a slice's children: each with its first key -/
def Rows2 (w : World) (sl : Value) (row : List (Int × Value)) : Prop :=
  ∃ (b o c : Nat) (arr : Array Value), sl = .slice (some ⟨b, o, none⟩) row.length c ∧ w.heap[b]? = some (.cells arr 163 (0, 0)) ∧ row.length ≤ c ∧ ∀ (i : Nat) (e : Int × Value), row[i]? = some e → arr[o + i * 2]? = some (.int .i64 e.1) ∧ arr[o + i * 2 + 1]? = some e.2
abbrev Kid := Value × List (Int × Int)
def krow (kids : List Kid) : List (Int × Value) := kids.map fun kd => (hd 0 kd.2, kd.1)
/-- a branch -/
def BranN (w : World) (v : Value) (kids : List Kid) : Prop := ∃ (b : Nat) (sl : Value), v = .iface 147 (.pointer (some ⟨b, 0, none⟩)) ∧ w.heap[b]? = some (.cells #[sl] 165 (0, 0)) ∧ Rows2 w sl (krow kids) ∧ kids ≠ [] ∧ kids.length ≤ 32
def ess (kids : List Kid) : List (List (Int × Int)) := kids.map (·.2)
/-- a node of height r -/
def SN (w : World) : Nat → Value → List (Int × Int) → Prop
  | 0, v, es => LeafN w v es
  | r + 1, v, es => ∃ kids, BranN w v kids ∧ (∀ kd ∈ kids, SN w r kd.1 kd.2) ∧ es = (ess kids).flatten
theorem Ents.stay {w w' : World} {sl : Value} {es : List (Int × Int)} (hs : Stay w w') : Ents w sl es → Ents w' sl es
  | ⟨b, o, c, arr, h1, h2, h3⟩ => ⟨b, o, c, arr, h1, hs b arr 140 h2 own140, h3⟩
theorem LeafN.stay {w w' : World} {v : Value} {es : List (Int × Int)} (hs : Stay w w') : LeafN w v es → LeafN w' v es
  | ⟨b, sl, h1, h2, h3, h4⟩ => ⟨b, sl, h1, hs b _ 143 h2 own143, h3.stay hs, h4⟩
theorem Rows2.stay {w w' : World} {sl : Value} {row : List (Int × Value)} (hs : Stay w w') : Rows2 w sl row → Rows2 w' sl row
  | ⟨b, o, c, arr, h1, h2, h3⟩ => ⟨b, o, c, arr, h1, hs b arr 163 h2 own163, h3⟩
theorem BranN.stay {w w' : World} {v : Value} {kids : List Kid} (hs : Stay w w') : BranN w v kids → BranN w' v kids
  | ⟨b, sl, h1, h2, h3, h4⟩ => ⟨b, sl, h1, hs b _ 165 h2 own165, h3.stay hs, h4⟩
theorem SN.stay {w w' : World} (hs : Stay w w') : ∀ {r : Nat} {v : Value} {es : List (Int × Int)}, SN w r v es → SN w' r v es
  | 0, _, _, n => LeafN.stay hs n
  | _r + 1, _, _, ⟨kids, h1, h2, h3⟩ => ⟨kids, h1.stay hs, fun kd hk => SN.stay hs (h2 kd hk), h3⟩
theorem SN.ne {w : World} : ∀ {r : Nat} {v : Value} {es : List (Int × Int)}, SN w r v es → es ≠ []
  | 0, _, _, ⟨_, _, _, _, _, h, _⟩ => h
  | _r + 1, _, _, ⟨kids, ⟨_, _, _, _, _, h, _⟩, h2, h3⟩ => by
    subst h3
    cases kids with
    | nil => exact absurd rfl h
    | cons kd kids =>
      intro e
      have h4 := SN.ne (h2 kd (.head _))
      have : kd.2 ++ (ess kids).flatten = [] := e
      exact h4 (List.append_eq_nil_iff.1 this).1
theorem SN.ptr {w : World} : ∀ {r : Nat} {v : Value} {es : List (Int × Int)}, SN w r v es → ∃ ty p : Nat, v = .iface ty (.pointer (some ⟨p, 0, none⟩))
  | 0, _, _, ⟨b, _, h, _⟩ => ⟨_, b, h⟩
  | _r + 1, _, _, ⟨_, ⟨b, _, h, _⟩, _⟩ => ⟨_, b, h⟩

set_option maxRecDepth 100000 in
set_option maxHeartbeats 400000 in
theorem leafCl_w (o : Nat) (cv : Value) (hc : CmpIs o cv) (key x : Int) (nb cb nx kb g q N c i : Nat) (w : World) (r : Bool) (hr : r = !ltO o x key) (hi : i < N)
    (h1 : w.cell? ⟨cb, 0, none⟩ = some cv) (h2 : w.cell? ⟨nx, 0, none⟩ = some (.pointer (some ⟨nb, 0, none⟩))) (h3 : w.cell? ⟨kb, 0, none⟩ = some (.int .i64 key)) (h4 : w.cell? ⟨nb, 0, none⟩ = some (.slice (some ⟨g, q, none⟩) N c))
    (h5 : w.cell? ⟨g, q + i * 2, none⟩ = some (.int .i64 x)) :
    Calls Try.prog 109 #[.int .i64 (i : Int), .pointer (some ⟨cb, 0, none⟩), .pointer (some ⟨nx, 0, none⟩), .pointer (some ⟨kb, 0, none⟩)] w fun e w' => e = .returned (.bool r) ∧ Below w.heap.size w w' := by
  obtain ⟨ty, v, fid, rfl, ⟨d1, d2, d3⟩, hcall⟩ := hc
  have hcm : (cmpO o x key != -1) = r := by
    rw [hr]
    cases h : ltO o x key with
    | true => rw [cmp_lo h]; rfl
    | false =>
      have : cmpO o x key ≠ -1 := fun e => by rw [cmp_neg] at e; rw [e] at h; cases h
      simpa using this
  have HCM := Lib.hid hcm
  have HC := Lib.hid hcall
  have hi' : (i : Int) < (N : Int) := by omega
  have hi0 : (0 : Int) ≤ (i : Int) := by omega
  clear hr hcm hcall
  go_enter Try.func109, Try.ntmps109
  go_wp2_with fail
  refine region_tail 13 (by kernel_rfl) (by kernel_rfl) ?_
  simp only [List.take_succ_cons, List.take_zero, List.drop_succ_cons, List.drop_zero]
  repeat still_step
  refine wpStill_nil ?_
  go_wp2_with fail
  refine (HC.out _ _ _).mono ?_
  rintro e w' ⟨rfl, rfl⟩
  have hcm := HCM.out
  go_wp2_with fail
  go_ret
  exact ⟨rfl, (Below.refl _ _).drew⟩
end Go.Proofs.Ytefigjdebakccaa
