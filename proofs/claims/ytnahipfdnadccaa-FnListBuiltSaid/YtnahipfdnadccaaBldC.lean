/- ListBuild: steps on a builder. Conditions of this file: none. -/
import Derived.Test.YtnahipfdnadccaaBldB
import Derived.Test.YtnahipfdnadccaaThrB
namespace Go.Proofs.Ytnahipfdnadccaa
open Go.RowKit

/-- what a step makes of what is there, and whether it panics -/
def bldStep (xs : List Int) (s : Stp) : List Int × Bool := match stepOf xs s.k s.I s.E s.V with | some ys => (ys, false) | none => (xs, true)
def bldRun : List Stp → List Int × List Bool → List Int × List Bool
  | [], r => r
  | s :: rest, r => bldRun rest ((bldStep r.1 s).1, r.2 ++ [(bldStep r.1 s).2])
theorem bldRun_snoc : ∀ (l : List Stp) (s : Stp) (r : List Int × List Bool), bldRun (l ++ [s]) r = ((bldStep (bldRun l r).1 s).1, (bldRun l r).2 ++ [(bldStep (bldRun l r).1 s).2])
  | [], _, _ => rfl
  | a :: l, s, r => by simp only [List.cons_append, bldRun]; exact bldRun_snoc l s _
theorem bldRun_len : ∀ (l : List Stp) (r : List Int × List Bool), (bldRun l r).2.length = l.length + r.2.length
  | [], r => by simp [bldRun]
  | a :: l, r => by simp only [bldRun]; rw [bldRun_len l]; simp; omega

theorem own_but {w w' : World} {S : Nat → Prop} {b size n : Nat} {e : TypeId} {v : Value} {xs : List Value} (ho : w.ownsRow b e size v n xs) (hb : But S w w') (h : ∀ k, v.ownBlock = some k → ¬ S k) : w'.ownsRow b e size v n xs := by
  refine ⟨ho.1, ?_⟩
  rcases ho.2 with h1 | ⟨g, cap, cur, h1, h2, h3, h4⟩
  · exact .inl h1
  · exact .inr ⟨g, cap, cur, h1, h2, hb.at h3 (h g (by rw [h1]; rfl)), h4⟩
theorem but_grown {w w' : World} {ob : Option Nat} (h : w.grownBy w' ob) : But (fun x => ob = some x) w w' := ⟨h.os, h.tape, h.output, h.size, fun k hk hn => h.block k hk fun e => hn e.symm⟩
theorem but_alloc (w : World) (o : Obj) (S : Nat → Prop) : But S w (w.alloc o) := (But.refl S w).alloc _
theorem own_off {w : World} {b size n bb : Nat} {e t : TypeId} {v : Value} {xs : List Value} {c : Array Value} {z : Nat × Nat} (ho : w.ownsRow b e size v n xs) (hb : w.heap[bb]? = some (.cells c t z)) (he : e ≠ t) : ∀ k, v.ownBlock = some k → ¬ k = bb := fun k hk e1 => by
  rcases own_ne_block ho hb he with h | h
  · rw [h] at hk; cases hk
  · exact h (e1 ▸ hk)

set_option maxRecDepth 100000 in
set_option maxHeartbeats 800000 in
theorem nlb_w (w : World) (hw : 0 < w.heap.size) : Calls Try.prog 44 #[] w fun e w' => ∃ bb lb, e = .returned (.pointer (some ⟨bb, 0, none⟩)) ∧ Below w.heap.size w w' ∧ w.heap.size ≤ bb ∧ Bld (fun x => w.heap.size ≤ x ∧ x ≠ bb) w' bb lb 0 [] := by
  have hsz : (fresh w).heap.size = w.heap.size + 2 := by simp [fresh]
  have HF := Lib.hid (And.intro (fresh_head w) (And.intro (fresh_node (fun x => x = w.heap.size) w rfl) (And.intro (fresh_below w) hsz)))
  clear hsz
  go_enter Try.func44, Try.ntmps44
  go_wp2_with fail
  refine (new0_w w).mono ?_
  rintro e w' ⟨rfl, rfl⟩
  generalize fresh w = F at HF ⊢
  go_wp2_with fail
  go_ret
  obtain ⟨h1, h2, h3, h4⟩ := HF.out
  have hA : Below F.heap.size F (F.alloc (.cells #[.pointer (some ⟨w.heap.size + 1, 0, none⟩)] 115)) := (Below.refl _ F).alloc (Nat.le_refl _) _
  have hst := Stay.of_below hA
  refine ⟨F.heap.size, w.heap.size + 1, rfl, h3.trans (hA.mono (by omega)), by omega, heap_alloc_last F _, ⟨w.heap.size + 1, 0, 0, w.heap.size, fun x => x = w.heap.size, rfl, ⟨by omega, by omega⟩, fun x hx => ⟨⟨by omega, by omega⟩, by omega⟩, hst _ _ 113 h1 (.inr (.inr (.inl rfl))), SNode.stay (d := 0) h2 hst, by simp [Dep]⟩, fun h => h.2 rfl, fun x hx => ⟨by have := hA.size; omega, (by have h : F.heap.size + 1 ≤ x := by { simpa using hx }; omega)⟩, fun h => by have := h.1; omega⟩

theorem results_tmp4 {fn : Func} {t u v x : Tmp} (h : fn.results = #[.tmp t, .tmp u, .tmp v, .tmp x]) (tmps : Array Value) (P : Program) (w : World) :
    (results fn tmps).run P w = .ok (.tuple #[tmps.getD t undef, tmps.getD u undef, tmps.getD v undef, tmps.getD x undef]) w := by
  simp [results, h]

theorem wpList_app_one' {W : World} {ops : Array Oper} {rest : List Oper} {o : Oper} {a : Act} {Q : Exit → Act → World → Prop} (hgd : o.guard = none) (s x : Operand) (ho : o.op = .call { callee := .builtin .append, args := #[s, x], argTypes := #[32, 32] })
    {B : Nat} {v : Value} {ys : List Int} (hown : W.ownsRow B 2 1 v ys.length (ys.map (Value.int .i64))) (hs : a.eval s = v) (q : Nat) (y : Int) (hx : a.eval x = .slice (some ⟨q, 0, none⟩) 1 1) (hq : W.heap[q]? = some (.cells #[.int .i64 y] 2 (0, 0)))
    (hl : ys.length ≤ 33554431) (hB : B ≤ W.heap.size)
    (h : ∀ v' w', w'.ownsRow B 2 1 v' (ys ++ [y]).length ((ys ++ [y]).map (Value.int .i64)) → W.grownBy w' v.ownBlock → wpList Try.prog ops Q rest (a.put o.dst v') w') : wpList Try.prog ops Q (o :: rest) a W := by
  obtain ⟨i2, hi, hz0, hz1, hz2⟩ := info_parts info2
  refine wpList_append_own (P := Try.prog) W hgd s x 32 ho B 2 i2 (.int .i64 0) 1 8 Try.underlying32 hi hz0 hz1 hz2 rfl (by decide) v _ _ hs hown ⟨q, 0, none⟩ 1 1 [.int .i64 y] hx rfl (fun j u hu => ?_) (ints_one [y]) (by unfold maxLen; omega) (by omega) hB (fun v' w' h1 h2 _ => h v' w' (by simpa using h1) h2)
  rw [Addr.add_lit, Nat.zero_add]
  exact cell_at hq (by simpa using hu)

/-- a variable that holds a builder -/
def Var (w : World) (vb bb : Nat) : Prop := w.heap[vb]? = some (.cells #[.pointer (some ⟨bb, 0, none⟩)] 86 (0, 0))

/-- one step, thrown: what it leaves -/
def ThrPost (G : Nat → Prop) (wr : World) (bb lb N : Nat) (xs : List Int) (s : Stp) (A1 : World) (e : Ending) (w'' : World) : Prop :=
  e = .returned (.bool (bldStep xs s).2) ∧ But (fun x => G x ∨ x = bb) wr w'' ∧ Bld (gap G wr.heap.size (A1.heap.size + 1)) w'' bb lb (N + 100000) (bldStep xs s).1 ∧ A1.heap.size + 1 ≤ w''.heap.size

theorem thrown_bld (G : Nat → Prop) (wr A1 : World) (vb bb lb N : Nat) (xs : List Int) (s : Stp) (hB : Bld G wr bb lb N xs) (hv : Var wr vb bb) (hgv : ¬ G vb) (hG : Glob wr) (hN : N + 100000 < 33554431) (hk : s.k ≤ 5) (hI : 4 ≤ s.k → 0 ≤ s.I ∧ s.I ≤ 100000)
    (hA : Below wr.heap.size wr A1) (hs : A1.heap[wr.heap.size]? = some (.cells #[.int .u8 (s.k : Int), .int .i64 s.F, .int .i64 s.I, .int .i64 s.E, .int .i64 s.V] 29 (0, 0))) (hz : A1.heap.size = wr.heap.size + 1) :
    Calls Try.prog 37 #[.func (.func 46) #[] #[.pointer (some ⟨wr.heap.size, 0, none⟩), .pointer (some ⟨vb, 0, none⟩)]] A1 (ThrPost G wr bb lb N xs s A1) := by
  have hbb := lt_of_block hB.blk
  have hvb := lt_of_block hv
  have hL := heap_alloc_last A1 (.cells #[.bool false] 4)
  have hA2 : Below wr.heap.size wr (A1.alloc (.cells #[.bool false] 4)) := hA.alloc hA.size _
  have hz2 : (A1.alloc (.cells #[.bool false] 4)).heap.size = A1.heap.size + 1 := by simp
  have hBut : But (fun x => ¬ G x ∧ x ≠ bb) wr (A1.alloc (.cells #[.bool false] 4)) := (But.of_below (S := fun _ => False) hA2).wider fun _ _ h => h.elim
  have hB2 := hB.gap hBut (Stay.of_below hA2)
  rw [hz2] at hB2
  have hs2 : (A1.alloc (.cells #[.bool false] 4)).heap[wr.heap.size]? = _ := ((but_alloc A1 (.cells #[.bool false] 4) (fun _ => False)).at hs id)
  have hv2 : (A1.alloc (.cells #[.bool false] 4)).heap[vb]? = _ := (hA2.block vb hvb).trans hv
  have hgs : ¬ gap G wr.heap.size (A1.heap.size + 1) wr.heap.size := fun h => h.elim (fun h => by have := h.2; omega) fun h => by omega
  have hgL : ¬ gap G wr.heap.size (A1.heap.size + 1) A1.heap.size := fun h => h.elim (fun h => by have := h.2; omega) fun h => by omega
  have hgv2 : ¬ gap G wr.heap.size (A1.heap.size + 1) vb := fun h => h.elim (fun h => hgv h.1) fun h => by omega
  have hcl := bcl_any wr.heap.size vb bb lb N s.k s.F s.I s.E s.V _ _ xs hs2 hv2 hB2 hN (hG.stay (Stay.of_below hA2)) hgs hgv2 hk hI
  refine (thrown_w46 _ A1 (fun b w' => But (fun x => gap G wr.heap.size (A1.heap.size + 1) x ∨ x = bb) (A1.alloc (.cells #[.bool false] 4)) w' ∧ Bld (gap G wr.heap.size (A1.heap.size + 1)) w' bb lb (N + 100000) (bldStep xs s).1 ∧ b = (bldStep xs s).2) (hcl.mono ?_)).mono ?_
  · rintro e w' (⟨ys, h1, rfl, h2, h3⟩ | ⟨h1, rfl, v, rfl⟩)
    · have h4 := h3.at hL fun h => h.elim hgL fun h => by omega
      exact ⟨cell_at h4 rfl, frozen_of_row _ _ _ _ _ h4, .inl ⟨rfl, h3, by unfold bldStep; rw [h1]; exact h2, by unfold bldStep; rw [h1]⟩⟩
    · exact ⟨cell_at hL rfl, frozen_of_row _ _ _ _ _ hL, .inr ⟨_, _, rfl, But.refl _ _, by unfold bldStep; rw [h1]; exact hB2.mono (by omega), by unfold bldStep; rw [h1]⟩⟩
  · rintro e w'' ⟨b, w', rfl, ⟨h1, h2, rfl⟩, h3⟩
    have hL' := h1.at hL fun h => h.elim hgL fun h => by omega
    have hst : Stay w' w'' := h3.stay fun b c t _ e h' => by
      have e' : b = A1.heap.size := e
      subst e'
      rw [hL'] at h'
      simp only [Option.some.injEq, Obj.cells.injEq] at h'
      rw [← h'.2.1]
      decide
    refine ⟨rfl, ?_, h2.stay (h3.wider fun x _ hx => by rw [show x = A1.heap.size from hx]; exact ⟨hgL, by omega⟩) hst, Nat.le_trans (by rw [hz2]; exact Nat.le_refl _) (Nat.le_trans h1.size h3.size)⟩
    have c1 : But (fun x => (G x ∨ x = bb) ∨ wr.heap.size ≤ x) wr (A1.alloc (.cells #[.bool false] 4)) := (But.of_below (S := fun _ => False) hA2).wider fun _ _ h => h.elim
    have c2 : But (fun x => (G x ∨ x = bb) ∨ wr.heap.size ≤ x) (A1.alloc (.cells #[.bool false] 4)) w' := h1.wider fun x _ hx => by
      rcases hx with (hx | hx) | hx
      · exact .inl (.inl hx.1)
      · exact .inr (by omega)
      · exact .inl (.inr hx)
    have c3 : But (fun x => (G x ∨ x = bb) ∨ wr.heap.size ≤ x) w' w'' := h3.wider fun x _ hx => .inr (by have h : x = A1.heap.size := hx; omega)
    exact ((c1.trans c2).trans c3).wider fun x hx h => h.elim id fun h => by omega

end Go.Proofs.Ytnahipfdnadccaa
