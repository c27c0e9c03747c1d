/- Steps over versions of sorted maps: what they tell; what lies in memory. -/
import Derived.Test.YtefigjdebakccaaWlk
namespace Go.Proofs.Ytefigjdebakccaa
open Go.RowKit

/-- a step -/
structure Stp where
  op : Nat
  on : Nat
  key : Int
  val : Int
  moves : List (Nat × Int)
/-- what a step tells -/
structure Told where
  val : Int
  yes : Bool
  keys : List Int
  vals : List Int
  seen : List Sn
abbrev Es := List (Int × Int)
def tell (lt : Int → Int → Bool) (es : Es) (s : Stp) : Told :=
  if s.op = 2 then ⟨(look lt es s.key).getD 0, (look lt es s.key).isSome, [], [], []⟩
  else if s.op = 3 then ⟨(es.length : Nat), false, [], [], []⟩
  else if s.op = 4 then ⟨0, false, es.map (·.1), es.map (·.2), []⟩
  else if s.op = 5 then ⟨0, false, es.reverse.map (·.1), es.reverse.map (·.2), []⟩
  else if s.op = 6 then ⟨0, false, [], [], seens lt es (pos es 0) s.moves⟩
  else ⟨0, false, [], [], []⟩
def verOf (vs : List Es) (s : Stp) : Es := vs.getD s.on []
def next (lt : Int → Int → Bool) (vs : List Es) (s : Stp) : List Es :=
  if s.op = 0 then vs ++ [ins lt (verOf vs s) s.key s.val] else if s.op = 1 then vs ++ [del lt (verOf vs s) s.key] else vs
def run (lt : Int → Int → Bool) : List Es → List Stp → List Told
  | _, [] => []
  | vs, s :: l => tell lt (verOf vs s) s :: run lt (next lt vs s) l
def vers (lt : Int → Int → Bool) : List Es → List Stp → List Es
  | vs, [] => vs
  | vs, s :: l => vers lt (next lt vs s) l
/-- steps on versions that are there -/
def Right : Nat → List Stp → Prop
  | _, [] => True
  | n, s :: l => s.on < n ∧ s.op ≤ 6 ∧ (∀ m ∈ s.moves, m.1 ≤ 5) ∧ s.moves.length ≤ 100000 ∧ Right (if s.op ≤ 1 then n + 1 else n) l
theorem run_len (lt : Int → Int → Bool) : ∀ (l : List Stp) (vs : List Es), (run lt vs l).length = l.length
  | [], _ => rfl
  | s :: l, vs => by
    show (run lt (next lt vs s) l).length + 1 = l.length + 1
    rw [run_len lt l]
theorem next_len (lt : Int → Int → Bool) (vs : List Es) (s : Stp) : (next lt vs s).length = if s.op ≤ 1 then vs.length + 1 else vs.length := by
  unfold next
  by_cases h0 : s.op = 0
  · rw [if_pos h0, if_pos (by omega), List.length_append]; rfl
  · rw [if_neg h0]
    by_cases h1 : s.op = 1
    · rw [if_pos h1, if_pos (by omega), List.length_append]; rfl
    · rw [if_neg h1, if_neg (by omega)]
theorem run_drop {lt : Int → Int → Bool} {vs : List Es} {l : List Stp} {j : Nat} {s : Stp} (h : l[j]? = some s) : run lt vs (l.drop j) = tell lt (verOf vs s) s :: run lt (next lt vs s) (l.drop (j + 1)) := by
  obtain ⟨hl, he⟩ := List.getElem?_eq_some_iff.1 h
  rw [List.drop_eq_getElem_cons hl, he]
  rfl
theorem right_drop {n : Nat} {l : List Stp} {j : Nat} {s : Stp} (h : l[j]? = some s) (hr : Right n (l.drop j)) : s.on < n ∧ s.op ≤ 6 ∧ (∀ m ∈ s.moves, m.1 ≤ 5) ∧ s.moves.length ≤ 100000 ∧ Right (if s.op ≤ 1 then n + 1 else n) (l.drop (j + 1)) := by
  obtain ⟨hl, he⟩ := List.getElem?_eq_some_iff.1 h
  rw [List.drop_eq_getElem_cons hl, he] at hr
  exact hr

/-- the blocks of all types but T stand as they stood -/
def KB (T : TypeId) (w w' : World) : Prop := ∀ (b : Nat) (c : Array Value) (t : TypeId), w.heap[b]? = some (Obj.cells c t (0, 0)) → t ≠ T → w'.heap[b]? = some (Obj.cells c t (0, 0))
theorem KB.of_below {w w' : World} (T : TypeId) (h : Below w.heap.size w w') : KB T w w' := fun _ _ _ hb _ => below_at h hb
theorem KB.trans {T : TypeId} {a b c : World} (h : KB T a b) (k : KB T b c) : KB T a c := fun x y t h1 h2 => k x y t (h x y t h1 h2) h2
theorem KB.set {T : TypeId} {w : World} {b i : Nat} {c : Array Value} (h : w.heap[b]? = some (.cells c T (0, 0))) (u : Value) : KB T w (w.setCell ⟨b, i, none⟩ u) := fun x y t h1 h2 => by
  rw [heap_setCell_other _ _ _ _ (by
    show x ≠ b
    rintro rfl
    rw [h] at h1
    simp only [Option.some.injEq, Obj.cells.injEq] at h1
    exact h2 h1.2.1.symm)]
  exact h1
theorem KB.grown {T : TypeId} {A w' : World} {B s n : Nat} {v : Value} {cs : List Value} (ho : A.ownsRow B T s v n cs) (hg : A.grownBy w' v.ownBlock) : KB T A w' := fun b c t h1 h2 =>
  (but_grown hg).at h1 fun e => by
    rcases ho.2 with ⟨h3, -⟩ | ⟨g, cap, cur, h3, h4, h5, -⟩
    · rw [h3] at e; cases e
    · rw [h3] at e
      obtain rfl : g = b := Option.some.inj e
      rw [h5] at h1
      simp only [Option.some.injEq, Obj.cells.injEq] at h1
      exact h2 h1.2.1.symm
theorem KB.own {T e : TypeId} {w w' : World} {B s n : Nat} {v : Value} {cs : List Value} (h : KB T w w') (ho : w.ownsRow B e s v n cs) (hne : e ≠ T) : w'.ownsRow B e s v n cs := by
  refine ⟨ho.1, ?_⟩
  rcases ho.2 with h1 | ⟨g, cap, cur, h1, h2, h3, h4⟩
  · exact .inl h1
  · exact .inr ⟨g, cap, cur, h1, h2, h g cur e h3 hne, h4⟩
theorem KB.stay {T : TypeId} {w w' : World} (h : KB T w w') (hT : ¬ Own T) : Stay w w' := fun b c t h1 h2 => h b c t h1 (by rintro rfl; exact hT h2)
theorem SMapAt.kb {T : TypeId} {w w' : World} {b o k : Nat} {es : Es} (n : SMapAt w b o k es) (h : KB T w w') (hT : ¬ Own T) (hT2 : 122 ≠ T) : SMapAt w' b o k es := by
  obtain ⟨root, cv, h1, h2, h3, h4⟩ := n
  exact ⟨root, cv, h _ _ _ h1 hT2, h2, h3, h4.imp id fun ⟨r, m, h5, h6⟩ => ⟨r, m, h5.stay (h.stay hT), h6⟩⟩
theorem own35 : ¬ Own 35 := by unfold Own; simp
theorem own96 : ¬ Own 96 := by unfold Own; simp

/-- v is a slice of whole numbers -/
def IV (w : World) (v : Value) (xs : List Int) : Prop :=
  (v = .slice none 0 0 ∧ xs = []) ∨ ∃ (g c : Nat) (cur : Array Value), v = .slice (some ⟨g, 0, none⟩) xs.length c ∧ w.heap[g]? = some (.cells cur 3 (0, 0)) ∧ ∀ (i : Nat) (x : Int), xs[i]? = some x → cur[i]? = some (Value.int .i64 x)
/-- v is a slice of what moves told -/
def SV (w : World) (v : Value) (l : List Sn) : Prop :=
  (v = .slice none 0 0 ∧ l = []) ∨ ∃ (g c : Nat) (cur : Array Value), v = .slice (some ⟨g, 0, none⟩) l.length c ∧ w.heap[g]? = some (.cells cur 49 (0, 0)) ∧ ∀ (i : Nat) (x : Sn), l[i]? = some x → cur[i * 3]? = some (Value.int .i64 x.1) ∧ cur[i * 3 + 1]? = some (Value.int .i64 x.2.1) ∧ cur[i * 3 + 2]? = some (Value.bool x.2.2)
theorem IV.kb {T : TypeId} {w w' : World} {v : Value} {xs : List Int} (hT : 3 ≠ T) (h : KB T w w') : IV w v xs → IV w' v xs
  | .inl h1 => .inl h1
  | .inr ⟨g, c, cur, h1, h2, h3⟩ => .inr ⟨g, c, cur, h1, h _ _ _ h2 hT, h3⟩
theorem SV.kb {T : TypeId} {w w' : World} {v : Value} {l : List Sn} (hT : 49 ≠ T) (h : KB T w w') : SV w v l → SV w' v l
  | .inl h1 => .inl h1
  | .inr ⟨g, c, cur, h1, h2, h3⟩ => .inr ⟨g, c, cur, h1, h _ _ _ h2 hT, h3⟩
theorem IV.nil (w : World) : IV w (.slice none 0 0) [] := .inl ⟨rfl, rfl⟩
theorem SV.nil (w : World) : SV w (.slice none 0 0) [] := .inl ⟨rfl, rfl⟩
theorem IV.one {w : World} {v : Value} {xs : List Int} (h : IV w v xs) : v.oneCell' = true := by
  rcases h with ⟨h, -⟩ | ⟨g, c, cur, h, -⟩
  · rw [h]; rfl
  · rw [h]; rfl
theorem SV.one {w : World} {v : Value} {xs : List Sn} (h : SV w v xs) : v.oneCell' = true := by
  rcases h with ⟨h, -⟩ | ⟨g, c, cur, h, -⟩
  · rw [h]; rfl
  · rw [h]; rfl
/-- a slice's form -/
def IsSl (v : Value) : Prop := v = .slice none 0 0 ∨ ∃ g n c : Nat, v = .slice (some ⟨g, 0, none⟩) n c
theorem IV.sl {w : World} {v : Value} {xs : List Int} (h : IV w v xs) : IsSl v := by
  rcases h with ⟨h, -⟩ | ⟨g, c, cur, h, -⟩
  · exact .inl h
  · exact .inr ⟨g, _, c, h⟩
theorem SV.sl {w : World} {v : Value} {xs : List Sn} (h : SV w v xs) : IsSl v := by
  rcases h with ⟨h, -⟩ | ⟨g, c, cur, h, -⟩
  · exact .inl h
  · exact .inr ⟨g, _, c, h⟩
theorem IV.of_own {w : World} {B : Nat} {v : Value} {xs : List Int} {cs : List Value} {n : Nat} (hn : n = xs.length) (hcs : cs = xs.map (Value.int .i64)) (h : w.ownsRow B 3 1 v n cs) : IV w v xs := by
  subst hn hcs
  rcases h.2 with ⟨h1, h2⟩ | ⟨g, cap, cur, h1, h2, h3, h4, h5, h6, h7⟩
  · exact .inl ⟨h1, List.eq_nil_of_length_eq_zero h2⟩
  · refine .inr ⟨g, cap, cur, h1, h3, fun i x hx => ?_⟩
    have hi : i < xs.length := (List.getElem?_eq_some_iff.1 hx).1
    have h8 : (xs.map (Value.int .i64))[i]? = some (.int .i64 x) := by rw [List.getElem?_map, hx]; rfl
    rw [← h7, List.getElem?_take, if_pos (by omega), Array.getElem?_toList] at h8
    exact h8
theorem sncells_at : ∀ {l : List Sn} {i : Nat} {x : Sn}, l[i]? = some x → (sncells l)[i * 3]? = some (.int .i64 x.1) ∧ (sncells l)[i * 3 + 1]? = some (.int .i64 x.2.1) ∧ (sncells l)[i * 3 + 2]? = some (.bool x.2.2)
  | [], _, _, h => by simp at h
  | a :: l, 0, x, h => by
    have : a = x := by simpa using h
    subst this
    exact ⟨rfl, rfl, rfl⟩
  | a :: l, i + 1, x, h => by
    have ih := sncells_at (l := l) (i := i) (x := x) (by simpa using h)
    rw [show (i + 1) * 3 = i * 3 + 1 + 1 + 1 by omega, show i * 3 + 1 + 1 + 1 + 1 = i * 3 + 1 + 1 + 1 + 1 by rfl]
    simpa [sncells] using ih
theorem SV.of_own {w : World} {B n : Nat} {v : Value} {l : List Sn} (hn : n = l.length) (h : w.ownsRow B 49 3 v n (sncells l)) : SV w v l := by
  subst hn
  rcases h.2 with ⟨h1, h2⟩ | ⟨g, cap, cur, h1, h2, h3, h4, h5, h6, h7⟩
  · exact .inl ⟨h1, List.eq_nil_of_length_eq_zero h2⟩
  · refine .inr ⟨g, cap, cur, h1, h3, fun i x hx => ?_⟩
    have hi : i < l.length := (List.getElem?_eq_some_iff.1 hx).1
    obtain ⟨h8, h9, h10⟩ := sncells_at hx
    rw [← h7, List.getElem?_take, if_pos (by omega), Array.getElem?_toList] at h8 h9 h10
    exact ⟨h8, h9, h10⟩

/-- the versions -/
def VersV (w : World) (B o k : Nat) (v : Value) (vs : List Es) : Prop :=
  ∃ bs : List Nat, bs.length = vs.length ∧ w.ownsRow B 96 1 v vs.length (bs.map fun b => .pointer (some ⟨b, 0, none⟩)) ∧ ∀ (i b : Nat) (es : Es), bs[i]? = some b → vs[i]? = some es → SMapAt w b o k es ∧ es.length ≤ k
theorem VersV.kb {T : TypeId} {w w' : World} {B o k : Nat} {v : Value} {vs : List Es} (h : KB T w w') (hT : ¬ Own T) (hT2 : 122 ≠ T) (hT3 : 96 ≠ T) : VersV w B o k v vs → VersV w' B o k v vs
  | ⟨bs, h1, h2, h3⟩ => ⟨bs, h1, h.own h2 hT3, fun i b es hb he => ⟨(h3 i b es hb he).1.kb h hT hT2, (h3 i b es hb he).2⟩⟩
theorem VersV.below {w w' : World} {B o k : Nat} {v : Value} {vs : List Es} (h : Below w.heap.size w w') : VersV w B o k v vs → VersV w' B o k v vs
  | ⟨bs, h1, h2, h3⟩ => ⟨bs, h1, own_below h2 h, fun i b es hb he => ⟨(h3 i b es hb he).1.below h, (h3 i b es hb he).2⟩⟩
theorem VersV.more {w : World} {B o k : Nat} {v : Value} {vs : List Es} : VersV w B o k v vs → VersV w B o (k + 1) v vs
  | ⟨bs, h1, h2, h3⟩ => ⟨bs, h1, h2, fun i b es hb he => ⟨(h3 i b es hb he).1.more (Nat.le_succ _), Nat.le_succ_of_le (h3 i b es hb he).2⟩⟩
/-- what was told, as cells -/
abbrev Sls := Value × Value × Value
def tcells : List Told → List Sls → List Value
  | t :: ts, r :: rs => .int .i64 t.val :: .bool t.yes :: r.1 :: r.2.1 :: r.2.2 :: tcells ts rs
  | _, _ => []
theorem tcells_snoc : ∀ {ts : List Told} {rs : List Sls} (t : Told) (r : Sls), ts.length = rs.length → tcells (ts ++ [t]) (rs ++ [r]) = tcells ts rs ++ [.int .i64 t.val, .bool t.yes, r.1, r.2.1, r.2.2]
  | [], [], _, _, _ => rfl
  | [], _ :: _, _, _, h => by simp at h
  | _ :: _, [], _, _, h => by simp at h
  | a :: ts, b :: rs, t, r, h => by
    simp only [List.cons_append, tcells]
    rw [tcells_snoc t r (by simpa using h)]
theorem tcells_at : ∀ {ts : List Told} {rs : List Sls} {i : Nat} {t : Told} {r : Sls}, ts[i]? = some t → rs[i]? = some r → (tcells ts rs)[i * 5]? = some (.int .i64 t.val) ∧ (tcells ts rs)[i * 5 + 1]? = some (.bool t.yes) ∧ (tcells ts rs)[i * 5 + 2]? = some r.1 ∧ (tcells ts rs)[i * 5 + 3]? = some r.2.1 ∧ (tcells ts rs)[i * 5 + 4]? = some r.2.2
  | [], _, _, _, _, h, _ => by simp at h
  | _ :: _, [], _, _, _, _, h => by simp at h
  | a :: ts, b :: rs, 0, t, r, h1, h2 => by
    simp at h1 h2
    subst h1 h2
    exact ⟨rfl, rfl, rfl, rfl, rfl⟩
  | a :: ts, b :: rs, i + 1, t, r, h1, h2 => by
    have ih := tcells_at (ts := ts) (rs := rs) (i := i) (t := t) (r := r) (by simpa using h1) (by simpa using h2)
    rw [show (i + 1) * 5 = i * 5 + 1 + 1 + 1 + 1 + 1 by omega]
    simpa [tcells] using ih
/-- v lists what was told -/
def ToldsV (w : World) (B : Nat) (v : Value) (ts : List Told) : Prop :=
  ∃ rs : List Sls, rs.length = ts.length ∧ w.ownsRow B 35 5 v ts.length (tcells ts rs) ∧ ∀ (i : Nat) (t : Told) (r : Sls), ts[i]? = some t → rs[i]? = some r → IV w r.1 t.keys ∧ IV w r.2.1 t.vals ∧ SV w r.2.2 t.seen
theorem ToldsV.kb {T : TypeId} {w w' : World} {B : Nat} {v : Value} {ts : List Told} (h : KB T w w') (hT1 : 35 ≠ T) (hT2 : 3 ≠ T) (hT3 : 49 ≠ T) : ToldsV w B v ts → ToldsV w' B v ts
  | ⟨rs, h1, h2, h3⟩ => ⟨rs, h1, h.own h2 hT1, fun i t r ht hr => ⟨(h3 i t r ht hr).1.kb hT2 h, (h3 i t r ht hr).2.1.kb hT2 h, (h3 i t r ht hr).2.2.kb hT3 h⟩⟩
theorem ToldsV.below {w w' : World} {B : Nat} {v : Value} {ts : List Told} (h : Below w.heap.size w w') (n : ToldsV w B v ts) : ToldsV w' B v ts := n.kb (KB.of_below 0 h) (by decide) (by decide) (by decide)
/-- what was told, but for a block of type 35 that is no part of it -/
theorem ToldsV.set {w : World} {B b i : Nat} {v : Value} {ts : List Told} {c : Array Value} (hb : w.heap[b]? = some (.cells c 35 (0, 0))) (hne : ∀ k, v.ownBlock = some k → k ≠ b) (u : Value) : ToldsV w B v ts → ToldsV (w.setCell ⟨b, i, none⟩ u) B v ts
  | ⟨rs, h1, h2, h3⟩ => ⟨rs, h1, own_but h2 ((But.refl (· = b) w).setCell (.inl rfl) u) fun k hk e => hne k hk e, fun j t r ht hr => ⟨(h3 j t r ht hr).1.kb (by decide) (KB.set hb u), (h3 j t r ht hr).2.1.kb (by decide) (KB.set hb u), (h3 j t r ht hr).2.2.kb (by decide) (KB.set hb u)⟩⟩
/-- v is a slice of these steps -/
def StpsV (w : World) (v : Value) (l : List Stp) : Prop :=
  ∃ (a : Option Addr) (cap : Nat), v = .slice a l.length cap ∧ ∀ (i : Nat) (s : Stp), l[i]? = some s → ∃ g q mv, a = some ⟨g, q, none⟩ ∧ w.cell? ⟨g, q + i * 5, none⟩ = some (.int .u8 (s.op : Int)) ∧ w.cell? ⟨g, q + i * 5 + 1, none⟩ = some (.int .i64 (s.on : Int)) ∧
    w.cell? ⟨g, q + i * 5 + 2, none⟩ = some (.int .i64 s.key) ∧ w.cell? ⟨g, q + i * 5 + 3, none⟩ = some (.int .i64 s.val) ∧ w.cell? ⟨g, q + i * 5 + 4, none⟩ = some mv ∧ MovesV w mv s.moves
theorem StpsV.below {w w' : World} {v : Value} {l : List Stp} (h : StpsV w v l) (b : Below w.heap.size w w') : StpsV w' v l := by
  obtain ⟨a, cap, h1, h2⟩ := h
  refine ⟨a, cap, h1, fun i s hs => ?_⟩
  obtain ⟨g, q, mv, h3, h4, h5, h6, h7, h8, h9⟩ := h2 i s hs
  exact ⟨g, q, mv, h3, bcell b h4, bcell b h5, bcell b h6, bcell b h7, bcell b h8, h9.below b⟩

set_option maxRecDepth 100000 in
set_option maxHeartbeats 400000 in
theorem order_w (o : Nat) (w : World) : Calls Try.prog 50 #[.int .u8 (o : Int)] w fun e w' => ∃ cv, e = .returned cv ∧ CmpAt o cv [] ∧ w = w' := by
  cases o with
  | zero =>
    go_enter Try.func50, Try.ntmps50
    go_wp2_with fail
    go_ret
    exact ⟨_, rfl, .inl ⟨rfl, rfl, rfl⟩, rfl⟩
  | succ o =>
    obtain ⟨p, hp⟩ : ∃ p : Nat, p = o + 1 := ⟨_, rfl⟩
    have h1 : ((p : Int) == 0) = false := by simp; omega
    rw [← hp]
    have hc := cmp_order (o := p) (by omega)
    have HC := Lib.hid hc
    clear hp hc
    go_enter Try.func50, Try.ntmps50
    go_wp2_with fail
    go_ret
    exact ⟨_, rfl, .inr HC.out, rfl⟩
set_option maxRecDepth 100000 in
set_option maxHeartbeats 400000 in
theorem at_w (i n : Nat) (hi : i < n) (hn : n < 1000000) (w : World) : Calls Try.prog 51 #[.int .i64 (i : Int), .int .i64 (n : Int)] w fun e w' => e = .returned (.int .i64 (i : Int)) ∧ w = w' := by
  have h1 : decide ((i : Int) < 0) = false := by simp
  have h2 : ¬ n = 0 := by omega
  have h3 : (i : Int).tmod (n : Int) = (i : Int) := by rw [Int.tmod_eq_emod_of_nonneg (by omega)]; exact Int.emod_eq_of_lt (by omega) (by omega)
  have h4 : IntKind.i64.wrap (i : Int) = (i : Int) := by rw [IntKind.wrap_i64]; omega
  clear hi hn
  go_enter Try.func51, Try.ntmps51
  go_wp2_with fail
  go_ret
  exact ⟨rfl, rfl⟩
end Go.Proofs.Ytefigjdebakccaa
