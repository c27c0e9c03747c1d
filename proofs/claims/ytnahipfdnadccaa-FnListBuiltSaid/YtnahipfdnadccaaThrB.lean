/- The law FnListThrough: what its moves tell. Conditions of this file: none.

The law FnListThrough: its two growing rows (moves, what is wanted), and what an append does to them. Conditions of this file: none. -/
import Derived.Test.YtnahipfdnadccaaItrG
import Derived.Test.YtnahipfdnadccaaTree
import Derived.Test.YtnahipfdnadccaaJoinP
namespace Go.Proofs.Ytnahipfdnadccaa

theorem mvs_app (xs : List Int) : ∀ (l l' : List Mov) (r : Int × List Sn), mvs xs (l ++ l') r = mvs xs l' (mvs xs l r)
  | [], _, _ => rfl
  | a :: l, l', r => by simp only [List.cons_append, mvs]; exact mvs_app xs l l' _

/-- c moves ahead from a -/
def nexts (c : Nat) : List Mov := List.replicate c ⟨0, 0⟩
def prevs (c : Nat) : List Mov := List.replicate c ⟨1, 0⟩
/-- what they tell -/
def tellN (xs : List Int) (a : Nat) : Nat → List Sn
  | 0 => []
  | c + 1 => tellN xs a c ++ [⟨((a + c : Nat) : Int), xs.getD (a + c) 0, false, isDone ((a + c + 1 : Nat) : Int) xs.length⟩]
def tellP (xs : List Int) : Nat → List Sn
  | 0 => []
  | c + 1 => tellP xs c ++ [⟨((xs.length - 1 - c : Nat) : Int), xs.getD (xs.length - 1 - c) 0, false, isDone ((xs.length : Int) - 2 - c) xs.length⟩]

theorem nexts_succ (c : Nat) : nexts (c + 1) = nexts c ++ [⟨0, 0⟩] := by simp [nexts, List.replicate_succ']
theorem prevs_succ (c : Nat) : prevs (c + 1) = prevs c ++ [⟨1, 0⟩] := by simp [prevs, List.replicate_succ']
theorem nexts_len (c : Nat) : (nexts c).length = c := by simp [nexts]
theorem prevs_len (c : Nat) : (prevs c).length = c := by simp [prevs]
theorem tellN_len (xs : List Int) (a : Nat) : ∀ c, (tellN xs a c).length = c
  | 0 => rfl
  | c + 1 => by simp [tellN, tellN_len xs a c]
theorem tellP_len (xs : List Int) : ∀ c, (tellP xs c).length = c
  | 0 => rfl
  | c + 1 => by simp [tellP, tellP_len xs c]

theorem not_done {idx : Int} {len : Nat} (h0 : 0 ≤ idx) (h1 : idx < len) : isDone idx len = false := by
  simp [isDone]; omega

theorem mvs_nexts (xs : List Int) (a : Nat) (acc : List Sn) : ∀ c, a + c ≤ xs.length → mvs xs (nexts c) ((a : Int), acc) = (((a + c : Nat) : Int), acc ++ tellN xs a c)
  | 0, _ => by simp [nexts, mvs, tellN]
  | c + 1, h => by
    rw [nexts_succ, mvs_snoc, mvs_nexts xs a acc c (by omega)]
    have hd : isDone ((a + c : Nat) : Int) xs.length = false := not_done (by omega) (by omega)
    have h2 : mvTo xs ((a + c : Nat) : Int) 0 0 = ((a + (c + 1) : Nat) : Int) := by simp only [mvTo, if_true, hd]; simp; omega
    have h3 : mvIdx xs ((a + c : Nat) : Int) 0 = ((a + c : Nat) : Int) := by simp only [mvIdx, hd]; simp
    have h5 : ((a + c : Nat) : Int).toNat = a + c := Int.toNat_natCast _
    have h4 : mvVal xs ((a + c : Nat) : Int) 0 = xs.getD (a + c) 0 := by simp only [mvVal, hd, h5]; simp [List.getD]
    simp only [Mov.tell, h2, h3, h4, tellN, List.append_assoc]
    simp [mvPan, Nat.add_assoc]

theorem mvs_prevs (xs : List Int) (acc : List Sn) : ∀ c, c ≤ xs.length → mvs xs (prevs c) ((xs.length : Int) - 1, acc) = ((xs.length : Int) - 1 - c, acc ++ tellP xs c)
  | 0, _ => by simp [prevs, mvs, tellP]
  | c + 1, h => by
    rw [prevs_succ, mvs_snoc, mvs_prevs xs acc c (by omega)]
    have hd : isDone ((xs.length : Int) - 1 - c) xs.length = false := not_done (by omega) (by omega)
    have h2 : mvTo xs ((xs.length : Int) - 1 - c) 1 0 = (xs.length : Int) - 2 - c := by simp only [mvTo, hd]; simp; omega
    have h3 : mvIdx xs ((xs.length : Int) - 1 - c) 1 = ((xs.length - 1 - c : Nat) : Int) := by simp only [mvIdx, hd]; simp; omega
    have h5 : ((xs.length : Int) - 1 - c).toNat = xs.length - 1 - c := by omega
    have h4 : mvVal xs ((xs.length : Int) - 1 - c) 1 = xs.getD (xs.length - 1 - c) 0 := by simp only [mvVal, hd, h5]; simp [List.getD]
    simp only [Mov.tell, h2, h3, h4, tellP, List.append_assoc]
    have h6 : (xs.length : Int) - 1 - (c : Int) - 1 = (xs.length : Int) - 1 - ((c + 1 : Nat) : Int) := by omega
    have h7 : (xs.length : Int) - 2 - (c : Int) = (xs.length : Int) - 1 - ((c + 1 : Nat) : Int) := by omega
    simp [mvPan]
    omega

/-- the moves of the law -/
def thrM (n k : Nat) : List Mov := nexts n ++ [⟨3, 0⟩] ++ prevs n ++ [⟨4, (k : Int)⟩] ++ nexts (n - k)
def thrS (xs : List Int) (k : Nat) : List Sn :=
  tellN xs 0 xs.length ++ [⟨0, 0, false, false⟩] ++ tellP xs xs.length ++ [⟨0, 0, false, false⟩] ++ tellN xs k (xs.length - k)
theorem thr_mvs (xs : List Int) (k : Nat) (hk : k < xs.length) : (mvs xs (thrM xs.length k) (0, [])).2 = thrS xs k := by
  have h0 := mvs_nexts xs 0 [] xs.length (by omega)
  have h1 := mvs_prevs xs (tellN xs 0 xs.length ++ [⟨0, 0, false, false⟩]) xs.length (by omega)
  have h2 := mvs_nexts xs k (tellN xs 0 xs.length ++ [⟨0, 0, false, false⟩] ++ tellP xs xs.length ++ [⟨0, 0, false, false⟩]) (xs.length - k) (by omega)
  have hz : xs.length ≠ 0 := by omega
  have e1 : ∀ i : Int, mvTo xs i 3 0 = (xs.length : Int) - 1 := fun i => by simp [mvTo, hz]; omega
  have e2 : ∀ i : Int, mvTo xs i 4 (k : Int) = (k : Int) := fun i => by simp [mvTo, mvPan]; omega
  have t1 : ∀ i : Int, Mov.tell xs i ⟨3, 0⟩ = ⟨0, 0, false, false⟩ := fun i => by
    simp only [Mov.tell, e1]
    rw [not_done (by omega) (by omega)]
    simp [mvIdx, mvVal, mvPan]
  have t2 : ∀ i : Int, Mov.tell xs i ⟨4, (k : Int)⟩ = ⟨0, 0, false, false⟩ := fun i => by
    simp only [Mov.tell, e2]
    rw [not_done (by omega) (by omega)]
    simp [mvIdx, mvVal, mvPan]
    omega
  unfold thrM thrS
  rw [mvs_app, mvs_app, mvs_app, mvs_app]
  rw [Int.ofNat_zero] at h0
  rw [h0]
  simp only [mvs, e1, t1, List.nil_append]
  rw [h1]
  simp only [e2, t2]
  rw [h2]

/-- what is taken of what is told: that of moves ahead and back -/
def gotOf : List Mov → List Sn → List Int
  | m :: ms, s :: ss => (if m.k ≤ 1 then [s.val] else []) ++ gotOf ms ss
  | _, _ => []
theorem gotOf_app : ∀ (ms ms' : List Mov) (ss ss' : List Sn), ms.length = ss.length → gotOf (ms ++ ms') (ss ++ ss') = gotOf ms ss ++ gotOf ms' ss'
  | [], _, [], _, _ => rfl
  | m :: ms, ms', s :: ss, ss', h => by
    simp only [List.cons_append, gotOf, List.append_assoc]
    rw [gotOf_app ms ms' ss ss' (by simpa using h)]
theorem gotOf_len : ∀ (ms : List Mov) (ss : List Sn), (gotOf ms ss).length ≤ ms.length
  | [], _ => by simp [gotOf]
  | m :: ms, [] => by simp [gotOf]
  | m :: ms, s :: ss => by
    have := gotOf_len ms ss
    simp only [gotOf, List.length_append, List.length_cons]
    split <;> simp <;> omega
theorem gotOf_nexts (xs : List Int) (a : Nat) : ∀ c, gotOf (nexts c) (tellN xs a c) = (List.range c).map fun i => xs.getD (a + i) 0
  | 0 => rfl
  | c + 1 => by
    rw [nexts_succ, tellN, gotOf_app _ _ _ _ (by rw [nexts_len, tellN_len]), gotOf_nexts xs a c, List.range_succ, List.map_append]
    rfl
theorem gotOf_prevs (xs : List Int) : ∀ c, gotOf (prevs c) (tellP xs c) = (List.range c).map fun i => xs.getD (xs.length - 1 - i) 0
  | 0 => rfl
  | c + 1 => by
    rw [prevs_succ, tellP, gotOf_app _ _ _ _ (by rw [prevs_len, tellP_len]), gotOf_prevs xs c, List.range_succ, List.map_append]
    rfl
/-- what is wanted -/
def wantA (xs : List Int) (j : Nat) : List Int := (List.range j).map fun i => xs.getD (0 + i) 0
def wantB (xs : List Int) (j : Nat) : List Int := (List.range j).map fun i => xs.getD (xs.length - 1 - i) 0
def wantC (xs : List Int) (k j : Nat) : List Int := (List.range j).map fun i => xs.getD (k + i) 0
theorem wantA_succ (xs : List Int) (j : Nat) : wantA xs (j + 1) = wantA xs j ++ [xs.getD j 0] := by simp [wantA, List.range_succ]
theorem wantB_succ (xs : List Int) (j : Nat) : wantB xs (j + 1) = wantB xs j ++ [xs.getD (xs.length - 1 - j) 0] := by simp [wantB, List.range_succ]
theorem wantC_succ (xs : List Int) (k j : Nat) : wantC xs k (j + 1) = wantC xs k j ++ [xs.getD (k + j) 0] := by simp [wantC, List.range_succ]
theorem thr_got (xs : List Int) (k : Nat) : gotOf (thrM xs.length k) (thrS xs k) = wantA xs xs.length ++ wantB xs xs.length ++ wantC xs k (xs.length - k) := by
  have l1 := nexts_len xs.length
  have l2 := prevs_len xs.length
  have l3 := tellN_len xs 0 xs.length
  have l4 := tellP_len xs xs.length
  unfold thrM thrS
  rw [gotOf_app _ _ _ _ (by simp [l1, l2, l3, l4]), gotOf_app _ _ _ _ (by simp [l1, l2, l3, l4]), gotOf_app _ _ _ _ (by simp [l1, l3]), gotOf_app _ _ _ _ (by simp [l1, l3])]
  rw [gotOf_nexts, gotOf_nexts, gotOf_prevs]
  simp [gotOf, wantA, wantB, wantC]

theorem thrM_len (n k : Nat) (_hk : k < n) : (thrM n k).length = 2 * n + 2 + (n - k) := by simp [thrM, nexts_len, prevs_len]; omega
theorem thrS_len (xs : List Int) (k : Nat) (_hk : k < xs.length) : (thrS xs k).length = 2 * xs.length + 2 + (xs.length - k) := by simp [thrS, tellN_len, tellP_len]; omega
theorem gotOf_take : ∀ (ms : List Mov) (ss : List Sn) (j : Nat) (m : Mov) (s : Sn), ms[j]? = some m → ss[j]? = some s → gotOf (ms.take (j + 1)) (ss.take (j + 1)) = gotOf (ms.take j) (ss.take j) ++ (if m.k ≤ 1 then [s.val] else [])
  | m' :: ms, s' :: ss, 0, m, s, h1, h2 => by
    simp only [List.getElem?_cons_zero, Option.some.injEq] at h1 h2
    subst h1; subst h2
    simp [gotOf]
  | m' :: ms, s' :: ss, j + 1, m, s, h1, h2 => by
    simp only [List.getElem?_cons_succ] at h1 h2
    simp only [List.take_succ_cons, gotOf, List.append_assoc]
    rw [gotOf_take ms ss j m s h1 h2]

/-- a move ahead or back tells an item at its place -/
def Good (xs : List Int) (m : Mov) (s : Sn) : Prop := m.k ≤ 4 ∧ (m.k ≤ 1 → ∃ i : Nat, i < xs.length ∧ s.ix = (i : Int) ∧ xs[i]? = some s.val)
def AllGood (xs : List Int) : List Mov → List Sn → Prop
  | m :: ms, s :: ss => Good xs m s ∧ AllGood xs ms ss
  | _, _ => True
theorem allGood_app (xs : List Int) : ∀ (ms ms' : List Mov) (ss ss' : List Sn), ms.length = ss.length → AllGood xs ms ss → AllGood xs ms' ss' → AllGood xs (ms ++ ms') (ss ++ ss')
  | [], _, [], _, _, _, h => h
  | m :: ms, ms', s :: ss, ss', h, h1, h2 => ⟨h1.1, allGood_app xs ms ms' ss ss' (by simpa using h) h1.2 h2⟩
theorem allGood_at (xs : List Int) : ∀ (ms : List Mov) (ss : List Sn) (j : Nat) (m : Mov) (s : Sn), AllGood xs ms ss → ms[j]? = some m → ss[j]? = some s → Good xs m s
  | m' :: ms, s' :: ss, 0, m, s, h, h1, h2 => by
    simp only [List.getElem?_cons_zero, Option.some.injEq] at h1 h2
    subst h1; subst h2
    exact h.1
  | m' :: ms, s' :: ss, j + 1, m, s, h, h1, h2 => by
    simp only [List.getElem?_cons_succ] at h1 h2
    exact allGood_at xs ms ss j m s h.2 h1 h2
theorem getD_at {xs : List Int} {i : Nat} (h : i < xs.length) : xs[i]? = some (xs.getD i 0) := by
  rw [List.getElem?_eq_getElem h]; simp [List.getD, h]
theorem good_nexts (xs : List Int) (a : Nat) : ∀ c, a + c ≤ xs.length → AllGood xs (nexts c) (tellN xs a c)
  | 0, _ => trivial
  | c + 1, h => by
    rw [nexts_succ, tellN]
    exact allGood_app _ _ _ _ _ (by rw [nexts_len, tellN_len]) (good_nexts xs a c (by omega)) ⟨⟨by decide, fun _ => ⟨a + c, by omega, rfl, getD_at (by omega)⟩⟩, trivial⟩
theorem good_prevs (xs : List Int) : ∀ c, c ≤ xs.length → AllGood xs (prevs c) (tellP xs c)
  | 0, _ => trivial
  | c + 1, h => by
    rw [prevs_succ, tellP]
    exact allGood_app _ _ _ _ _ (by rw [prevs_len, tellP_len]) (good_prevs xs c (by omega)) ⟨⟨by decide, fun _ => ⟨xs.length - 1 - c, by omega, rfl, getD_at (by omega)⟩⟩, trivial⟩
theorem thr_good (xs : List Int) (k : Nat) (hk : k < xs.length) : AllGood xs (thrM xs.length k) (thrS xs k) := by
  have l1 := nexts_len xs.length
  have l2 := prevs_len xs.length
  have l3 := tellN_len xs 0 xs.length
  have l4 := tellP_len xs xs.length
  have g1 := good_nexts xs 0 xs.length (by omega)
  have g2 := good_prevs xs xs.length (by omega)
  have g3 := good_nexts xs k (xs.length - k) (by omega)
  have s1 : ∀ m s, m.k ≤ 4 → 1 < m.k → AllGood xs [m] [s] := fun m s h h' => ⟨⟨h, fun h'' => by omega⟩, trivial⟩
  unfold thrM thrS
  refine allGood_app _ _ _ _ _ (by simp [l1, l2, l3, l4]) (allGood_app _ _ _ _ _ (by simp [l1, l2, l3, l4]) (allGood_app _ _ _ _ _ (by simp [l1, l3]) (allGood_app _ _ _ _ _ (by simp [l1, l3]) g1 (s1 _ _ ?_ ?_)) g2) (s1 _ _ ?_ ?_)) g3 <;> simp

/-- what is told at the ends of the three ways: it is done -/
theorem thr_done1 (xs : List Int) (k : Nat) (hk : k < xs.length) : ∃ s : Sn, (thrS xs k)[xs.length - 1]? = some s ∧ s.done = true := by
  have l3 := tellN_len xs 0 (xs.length - 1)
  refine ⟨⟨((0 + (xs.length - 1) : Nat) : Int), xs.getD (0 + (xs.length - 1)) 0, false, isDone ((0 + (xs.length - 1) + 1 : Nat) : Int) xs.length⟩, ?_, by simp [isDone]; omega⟩
  have e : tellN xs 0 xs.length = tellN xs 0 (xs.length - 1 + 1) := by rw [show xs.length - 1 + 1 = xs.length by omega]
  unfold thrS
  rw [e, tellN]
  simp only [List.append_assoc]
  rw [List.getElem?_append_right (by omega), l3, Nat.sub_self]
  rfl
theorem thr_done2 (xs : List Int) (k : Nat) (hk : k < xs.length) : ∃ s : Sn, (thrS xs k)[2 * xs.length]? = some s ∧ s.done = true := by
  have l3 := tellN_len xs 0 xs.length
  have l4 := tellP_len xs (xs.length - 1)
  refine ⟨⟨((xs.length - 1 - (xs.length - 1) : Nat) : Int), xs.getD (xs.length - 1 - (xs.length - 1)) 0, false, isDone ((xs.length : Int) - 2 - ((xs.length - 1 : Nat) : Int)) xs.length⟩, ?_, by simp [isDone]; omega⟩
  have e : tellP xs xs.length = tellP xs (xs.length - 1 + 1) := by rw [show xs.length - 1 + 1 = xs.length by omega]
  unfold thrS
  rw [e, tellP]
  simp only [List.append_assoc]
  rw [List.getElem?_append_right (by omega), l3, List.getElem?_append_right (by simp; omega)]
  rw [List.getElem?_append_right (by simp [l4]; omega), l4]
  rw [show 2 * xs.length - xs.length - [(⟨0, 0, false, false⟩ : Sn)].length - (xs.length - 1) = 0 by simp; omega]
  rfl
theorem thr_done3 (xs : List Int) (k : Nat) (hk : k < xs.length) : ∃ s : Sn, (thrS xs k)[2 * xs.length + 2 + (xs.length - k) - 1]? = some s ∧ s.done = true := by
  have l3 := tellN_len xs 0 xs.length
  have l4 := tellP_len xs xs.length
  have l5 := tellN_len xs k (xs.length - k - 1)
  refine ⟨⟨((k + (xs.length - k - 1) : Nat) : Int), xs.getD (k + (xs.length - k - 1)) 0, false, isDone ((k + (xs.length - k - 1) + 1 : Nat) : Int) xs.length⟩, ?_, by simp [isDone]; omega⟩
  have e : tellN xs k (xs.length - k) = tellN xs k (xs.length - k - 1 + 1) := by rw [show xs.length - k - 1 + 1 = xs.length - k by omega]
  unfold thrS
  rw [e, tellN]
  rw [List.getElem?_append_right (by simp [l3, l4]; omega), List.getElem?_append_right (by simp [l3, l4, l5]; omega)]
  rw [show 2 * xs.length + 2 + (xs.length - k) - 1 - (tellN xs 0 xs.length ++ [(⟨0, 0, false, false⟩ : Sn)] ++ tellP xs xs.length ++ [(⟨0, 0, false, false⟩ : Sn)]).length - (tellN xs k (xs.length - k - 1)).length = 0 by simp [l3, l4, l5]; omega]
  rfl

end Go.Proofs.Ytnahipfdnadccaa

namespace Go.Proofs.Ytnahipfdnadccaa
open Go.RowKit

theorem info54 : (Try.prog.info? 54).map (fun i => (i.zero, i.size, i.bytes)) = some (some (.agg #[.int .u8 0, .int .i64 0]), 2, 16) := by kernel_rfl

/-- behind w0: a row of moves, a row of whole numbers, both the call's own -/
structure St (w0 : World) (W : World) (mv : Value) (ms : List Mov) (wv : Value) (ws : List Int) : Prop where
  below : Below w0.heap.size w0 W
  mo : W.ownsRow w0.heap.size 54 2 mv ms.length (ms.flatMap Mov.cells)
  wo : W.ownsRow w0.heap.size 2 1 wv ws.length (ws.map (Value.int .i64))

section
variable {w0 W : World} {mv wv : Value} {ms : List Mov} {ws : List Int}
theorem St.alloc (h : St w0 W mv ms wv ws) (o : Obj) : St w0 (W.alloc o) mv ms wv ws := ⟨h.below.alloc h.below.size _, h.mo.alloc o, h.wo.alloc o⟩
theorem St.drew (h : St w0 W mv ms wv ws) : St w0 W.drew mv ms wv ws := ⟨h.below.drew, h.mo, h.wo⟩
theorem St.nil (w0 W : World) (h : Below w0.heap.size w0 W) : St w0 W (.slice none 0 0) [] (.slice none 0 0) [] := ⟨h, World.ownsRow_nil _ _ _ _, World.ownsRow_nil _ _ _ _⟩

/-- blocks of another type stay -/
def Kept (e : TypeId) (w w' : World) : Prop := ∀ (b : Nat) (c : Array Value) (t : TypeId) (z : Nat × Nat), w.heap[b]? = some (Obj.cells c t z) → e ≠ t → w'.heap[b]? = some (Obj.cells c t z)
theorem kept_of_grown {w w' : World} {b size n : Nat} {e : TypeId} {v : Value} {xs : List Value} (ho : w.ownsRow b e size v n xs) (hg : w.grownBy w' v.ownBlock) : Kept e w w' := fun k c t z hk ht => by
  rw [hg.block k (lt_of_block hk) ?_]
  · exact hk
  · rcases own_ne_block ho hk ht with h | h
    · rw [h]; simp
    · exact fun e => h e.symm
theorem row_of_kept {w w' : World} {b size size' n n' b' : Nat} {e e' : TypeId} {v v' : Value} {xs xs' : List Value} (ho : w.ownsRow b e size v n xs) (ho' : w.ownsRow b' e' size' v' n' xs') (hg : w.grownBy w' v.ownBlock) (he : e ≠ e') : w'.ownsRow b' e' size' v' n' xs' :=
  ho'.kept hg (own_ne ho' ho he.symm)

theorem mov_cells2 (m : Mov) {q : Nat} (hq : W.heap[q]? = some (.cells m.cells.toArray 54 (0, 0))) : ∀ j u, m.cells[j]? = some u → W.cell? ((⟨q, 0, none⟩ : Addr).add j) = some u := fun j u hu => by
  rw [Addr.add_lit, Nat.zero_add]
  exact cell_at hq (by simpa using hu)
theorem mov_one (m : Mov) : ∀ u ∈ m.cells, u.oneCell' = true := fun u hu => by
  simp only [Mov.cells, List.mem_cons, List.not_mem_nil, or_false] at hu
  rcases hu with rfl | rfl <;> rfl

theorem wp_app_mov {o : Oper} {a : Act} {K : Act → World → Prop} {Q : Exit → Act → World → Prop} (s x : Operand) (ho : o.op = .call { callee := .builtin .append, args := #[s, x], argTypes := #[52, 52] })
    (hS : St w0 W mv ms wv ws) (hs : a.eval s = mv) (q : Nat) (m : Mov) (hx : a.eval x = .slice (some ⟨q, 0, none⟩) 1 1) (hq : W.heap[q]? = some (.cells m.cells.toArray 54 (0, 0))) (hl : ms.length ≤ 100000)
    (h : ∀ v' w', St w0 w' v' (ms ++ [m]) wv ws → Kept 54 W w' → K (a.put o.dst v') w') : o.wp Try.prog a W K Q := by
  obtain ⟨i54, hi, hz0, hz1, hz2⟩ := info_parts info54
  refine wp_append_own W s x 52 ho w0.heap.size 54 i54 (.agg #[.int .u8 0, .int .i64 0]) 2 16 Try.underlying52 hi hz0 hz1 hz2 rfl (by decide) mv _ _ hs hS.mo ⟨q, 0, none⟩ 1 1 m.cells hx rfl (mov_cells2 m hq) (mov_one m) (by unfold maxLen; omega) (by omega) hS.below.size (fun v' w' h1 h2 _ => h v' w' ⟨?_, ?_, ?_⟩ (kept_of_grown hS.mo h2))
  · exact below_grown hS.below hS.mo (Nat.le_refl _) (Nat.le_refl _) h2
  · simpa using h1
  · exact row_of_kept hS.mo hS.wo h2 (by decide)
theorem wp_app_want {o : Oper} {a : Act} {K : Act → World → Prop} {Q : Exit → Act → World → Prop} (s x : Operand) (ho : o.op = .call { callee := .builtin .append, args := #[s, x], argTypes := #[32, 32] })
    (hS : St w0 W mv ms wv ws) (hs : a.eval s = wv) (q : Nat) (y : Int) (hx : a.eval x = .slice (some ⟨q, 0, none⟩) 1 1) (hq : W.heap[q]? = some (.cells #[.int .i64 y] 2 (0, 0))) (hl : ws.length ≤ 100000)
    (h : ∀ v' w', St w0 w' mv ms v' (ws ++ [y]) → Kept 2 W w' → K (a.put o.dst v') w') : o.wp Try.prog a W K Q := by
  obtain ⟨i2, hi, hz0, hz1, hz2⟩ := info_parts info2
  refine wp_append_own W s x 32 ho w0.heap.size 2 i2 (.int .i64 0) 1 8 Try.underlying32 hi hz0 hz1 hz2 rfl (by decide) wv _ _ hs hS.wo ⟨q, 0, none⟩ 1 1 [.int .i64 y] hx rfl (fun j u hu => ?_) (ints_one [y]) (by unfold maxLen; omega) (by omega) hS.below.size (fun v' w' h1 h2 _ => h v' w' ⟨?_, ?_, ?_⟩ (kept_of_grown hS.wo h2))
  · rw [Addr.add_lit, Nat.zero_add]
    exact cell_at hq (by simpa using hu)
  · exact below_grown hS.below hS.wo (Nat.le_refl _) (Nat.le_refl _) h2
  · exact row_of_kept hS.wo hS.mo h2 (by decide)
  · simpa using h1
theorem wpList_app_mov {ops : Array Oper} {rest : List Oper} {o : Oper} {a : Act} {Q : Exit → Act → World → Prop} (hgd : o.guard = none) (s x : Operand) (ho : o.op = .call { callee := .builtin .append, args := #[s, x], argTypes := #[52, 52] })
    (hS : St w0 W mv ms wv ws) (hs : a.eval s = mv) (q : Nat) (m : Mov) (hx : a.eval x = .slice (some ⟨q, 0, none⟩) 1 1) (hq : W.heap[q]? = some (.cells m.cells.toArray 54 (0, 0))) (hl : ms.length ≤ 100000)
    (h : ∀ v' w', St w0 w' v' (ms ++ [m]) wv ws → Kept 54 W w' → wpList Try.prog ops Q rest (a.put o.dst v') w') : wpList Try.prog ops Q (o :: rest) a W :=
  wpList_plain hgd fun _ hK => wp_app_mov s x ho hS hs q m hx hq hl fun v' w' h1 h2 => hK _ _ (h v' w' h1 h2)
theorem wpList_app_want {ops : Array Oper} {rest : List Oper} {o : Oper} {a : Act} {Q : Exit → Act → World → Prop} (hgd : o.guard = none) (s x : Operand) (ho : o.op = .call { callee := .builtin .append, args := #[s, x], argTypes := #[32, 32] })
    (hS : St w0 W mv ms wv ws) (hs : a.eval s = wv) (q : Nat) (y : Int) (hx : a.eval x = .slice (some ⟨q, 0, none⟩) 1 1) (hq : W.heap[q]? = some (.cells #[.int .i64 y] 2 (0, 0))) (hl : ws.length ≤ 100000)
    (h : ∀ v' w', St w0 w' mv ms v' (ws ++ [y]) → Kept 2 W w' → wpList Try.prog ops Q rest (a.put o.dst v') w') : wpList Try.prog ops Q (o :: rest) a W :=
  wpList_plain hgd fun _ hK => wp_app_want s x ho hS hs q y hx hq hl fun v' w' h1 h2 => hK _ _ (h v' w' h1 h2)
end

theorem wpList_app_one {W : World} {ops : Array Oper} {rest : List Oper} {o : Oper} {a : Act} {Q : Exit → Act → World → Prop} (hgd : o.guard = none) (s x : Operand) (ho : o.op = .call { callee := .builtin .append, args := #[s, x], argTypes := #[32, 32] })
    {B : Nat} {v : Value} {ys : List Int} (hown : W.ownsRow B 2 1 v ys.length (ys.map (Value.int .i64))) (hs : a.eval s = v) (q : Nat) (y : Int) (hx : a.eval x = .slice (some ⟨q, 0, none⟩) 1 1) (hq : W.heap[q]? = some (.cells #[.int .i64 y] 2 (0, 0)))
    (hl : ys.length ≤ 100000) (hB : B ≤ W.heap.size)
    (h : ∀ v' w', w'.ownsRow B 2 1 v' (ys ++ [y]).length ((ys ++ [y]).map (Value.int .i64)) → W.grownBy w' v.ownBlock → wpList Try.prog ops Q rest (a.put o.dst v') w') : wpList Try.prog ops Q (o :: rest) a W := by
  obtain ⟨i2, hi, hz0, hz1, hz2⟩ := info_parts info2
  refine wpList_append_own (P := Try.prog) W hgd s x 32 ho B 2 i2 (.int .i64 0) 1 8 Try.underlying32 hi hz0 hz1 hz2 rfl (by decide) v _ _ hs hown ⟨q, 0, none⟩ 1 1 [.int .i64 y] hx rfl (fun j u hu => ?_) (ints_one [y]) (by unfold maxLen; omega) (by omega) hB (fun v' w' h1 h2 _ => h v' w' (by simpa using h1) h2)
  rw [Addr.add_lit, Nat.zero_add]
  exact cell_at hq (by simpa using hu)

theorem flat_at {α : Type} (f : α → List Value) (c : Nat) (hf : ∀ a, (f a).length = c) : ∀ (l : List α) (j : Nat) (s : α), l[j]? = some s → ∀ (i : Nat) (u : Value), (f s)[i]? = some u → (l.flatMap f)[j * c + i]? = some u
  | [], j, s, h, i, u, hu => by simp at h
  | a :: l, 0, s, h, i, u, hu => by
    simp only [List.getElem?_cons_zero, Option.some.injEq] at h
    subst h
    have hi : i < (f a).length := (List.getElem?_eq_some_iff.1 hu).1
    rw [List.flatMap_cons, Nat.zero_mul, Nat.zero_add, List.getElem?_append_left hi]
    exact hu
  | a :: l, j + 1, s, h, i, u, hu => by
    rw [List.getElem?_cons_succ] at h
    have hl := hf a
    have hm : (j + 1) * c = j * c + c := Nat.succ_mul j c
    rw [List.flatMap_cons, List.getElem?_append_right (by omega), show (j + 1) * c + i - (f a).length = j * c + i by omega]
    exact flat_at f c hf l j s h i u hu

theorem MovW.of_own {w : World} {B n : Nat} {v : Value} {ms : List Mov} (h : w.ownsRow B 54 2 v n (ms.flatMap Mov.cells)) (hn : n = ms.length) : MovW w v ms := by
  subst hn
  rcases h.2 with ⟨h1, h2⟩ | ⟨g, cap, cur, h1, h2, h3, _⟩
  · exact .inl ⟨h1, List.eq_nil_of_length_eq_zero h2⟩
  · refine .inr ⟨g, 0, cap, h1, lt_of_block h3, fun j s hs i u hu => ?_⟩
    have h4 := h.cells (g := g) (by rw [h1]; rfl) (j * 2 + i) u (flat_at Mov.cells 2 (fun _ => rfl) ms j s hs i u hu)
    rw [Addr.add_lit] at h4
    rw [Nat.add_assoc]
    exact h4
theorem MovW.below {w w' : World} {v : Value} {ms : List Mov} (h : MovW w v ms) (b : Below w.heap.size w w') : MovW w' v ms := by
  rcases h with h | ⟨sb, so, cap, h1, h2, h3⟩
  · exact .inl h
  · exact .inr ⟨sb, so, cap, h1, Nat.lt_of_lt_of_le h2 b.size, fun j s hs i u hu => (b.cell h2).trans (h3 j s hs i u hu)⟩

/-- sv is a slice of what moves tell, and lies somewhere; or it is nil and there is none -/
def SnW (w : World) (sv : Value) (sn : List Sn) : Prop :=
  (sv = .slice none 0 0 ∧ sn = []) ∨ ∃ sb so cap, sv = .slice (some ⟨sb, so, none⟩) sn.length cap ∧ sb < w.heap.size ∧ ∀ j s, sn[j]? = some s → ∀ i u, s.cells[i]? = some u → w.cell? ⟨sb, so + j * 4 + i, none⟩ = some u
theorem SnW.of_own {w : World} {B n : Nat} {e : TypeId} {v : Value} {sn : List Sn} (h : w.ownsRow B e 4 v n (sn.flatMap Sn.cells)) (hn : n = sn.length) : SnW w v sn := by
  subst hn
  rcases h.2 with ⟨h1, h2⟩ | ⟨g, cap, cur, h1, h2, h3, _⟩
  · exact .inl ⟨h1, List.eq_nil_of_length_eq_zero h2⟩
  · refine .inr ⟨g, 0, cap, h1, lt_of_block h3, fun j s hs i u hu => ?_⟩
    have h4 := h.cells (g := g) (by rw [h1]; rfl) (j * 4 + i) u (flat_at Sn.cells 4 (fun _ => rfl) sn j s hs i u hu)
    rw [Addr.add_lit] at h4
    rw [Nat.add_assoc]
    exact h4

/-- the list of the law, and what its step makes -/
def thrX (ah : Bool) (n : Nat) : List Int := if ah then (up n 11).reverse else up n 11
theorem thrX_len (ah : Bool) (n : Nat) : (thrX ah n).length = n := by cases ah <;> simp [thrX, up_length]
def thrT (ah : Bool) (n : Nat) : List Stp := [⟨undK ah, 0, n, 0, 11⟩]
theorem thrRun (ah : Bool) (n : Nat) (hn : n ≤ 2500) : versRun (thrT ah n) ([[]], []) = ([[], thrX ah n], [false]) := by
  have m1 : Stp.make ⟨undK ah, 0, n, 0, 11⟩ [[]] = (thrX ah n, false) := by
    cases ah
    · exact make_fine (xs := []) (by simp [Stp.ok, undK]; omega) rfl (by simp [stepOf, undK, thrX])
    · exact make_fine (xs := []) (by simp [Stp.ok, undK]; omega) rfl (by simp [stepOf, undK, thrX])
  simp only [thrT, versRun, List.nil_append, List.cons_append, m1]

end Go.Proofs.Ytnahipfdnadccaa
