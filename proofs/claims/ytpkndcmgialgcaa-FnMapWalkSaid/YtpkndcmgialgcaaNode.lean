/- What a map's nodes hold in memory, and what keeps them. -/
import Derived.Test.YtpkndcmgialgcaaVal
namespace Go.Proofs.Ytpkndcmgialgcaa
open Go.RowKit

/-- the blocks of a map's own kinds stand as they stood -/
def Own (t : TypeId) : Prop := t = 186 ∨ t = 189 ∨ t = 180 ∨ t = 165 ∨ t = 255 ∨ t = 259 ∨ t = 183 ∨ t = 167
theorem own186 : Own 186 := by unfold Own; simp
theorem own189 : Own 189 := by unfold Own; simp
theorem own180 : Own 180 := by unfold Own; simp
theorem own165 : Own 165 := by unfold Own; simp
theorem own255 : Own 255 := by unfold Own; simp
theorem own259 : Own 259 := by unfold Own; simp
theorem own183 : Own 183 := by unfold Own; simp
theorem own167 : Own 167 := by unfold Own; simp
theorem own4 : ¬ Own 4 := by unfold Own; simp
def Stay (w w' : World) : Prop := ∀ (b : Nat) (c : Array Value) (t : TypeId), w.heap[b]? = some (Obj.cells c t (0, 0)) → Own t → w'.heap[b]? = some (Obj.cells c t (0, 0))
theorem Stay.refl (w : World) : Stay w w := fun _ _ _ h _ => h
theorem Stay.trans {a b c : World} (h : Stay a b) (k : Stay b c) : Stay a c := fun b x t h1 h2 => k b x t (h b x t h1 h2) h2
theorem Stay.of_below {w w' : World} (h : Below w.heap.size w w') : Stay w w' := fun b c t h1 _ => by rw [h.block b (lt_of_block h1)]; exact h1

/-- all that was there stays, but for the blocks of S -/
structure But (S : Nat → Prop) (w w' : World) : Prop where
  os : w'.os = w.os
  tape : w'.tape = w.tape
  output : w'.output = w.output
  size : w.heap.size ≤ w'.heap.size
  block : ∀ k, k < w.heap.size → ¬ S k → w'.heap[k]? = w.heap[k]?
theorem But.refl (S : Nat → Prop) (w : World) : But S w w := ⟨rfl, rfl, rfl, Nat.le_refl _, fun _ _ _ => rfl⟩
theorem But.trans {S : Nat → Prop} {a b c : World} (h : But S a b) (k : But S b c) : But S a c :=
  ⟨k.os.trans h.os, k.tape.trans h.tape, k.output.trans h.output, Nat.le_trans h.size k.size, fun x hx hs => (k.block x (Nat.lt_of_lt_of_le hx h.size) hs).trans (h.block x hx hs)⟩
theorem But.of_below {S : Nat → Prop} {w w' : World} (h : Below w.heap.size w w') : But S w w' := ⟨h.os, h.tape, h.output, h.size, fun k hk _ => h.block k hk⟩
theorem But.below {S : Nat → Prop} {w w' : World} {B : Nat} (h : But S w w') (hB : B ≤ w.heap.size) (hS : ∀ k, S k → B ≤ k) : Below B w w' :=
  ⟨h.os, h.tape, h.output, h.size, fun k hk => h.block k (by omega) fun hs => by have := hS k hs; omega⟩
theorem But.drew {S : Nat → Prop} {a w : World} (h : But S a w) : But S a w.drew := ⟨h.os, h.tape, h.output, h.size, h.block⟩
theorem But.at {S : Nat → Prop} {w w' : World} (h : But S w w') {b : Nat} {o : Obj} (hb : w.heap[b]? = some o) (hs : ¬ S b) : w'.heap[b]? = some o := by
  rw [h.block b (lt_of_block hb) hs]; exact hb

theorem But.alloc {S : Nat → Prop} {a w : World} (h : But S a w) (o : Obj) : But S a (w.alloc o) :=
  ⟨h.os, h.tape, h.output, Nat.le_trans h.size (by simp), fun k hk hs => (Below.heap_alloc _ _ _ (Nat.lt_of_lt_of_le hk h.size)).trans (h.block k hk hs)⟩
theorem But.setCell {S : Nat → Prop} {a w : World} (h : But S a w) {p : Addr} (hp : S p.block ∨ a.heap.size ≤ p.block) (u : Value) : But S a (w.setCell p u) :=
  ⟨h.os, h.tape, h.output, Nat.le_trans h.size (by simp [World.setCell]), fun k hk hs => (Below.heap_setCell _ _ _ _ (fun e => by
    subst e
    rcases hp with hp | hp
    · exact hs hp
    · omega)).trans (h.block k hk hs)⟩
theorem But.wider {S S' : Nat → Prop} {w w' : World} (h : But S w w') (hS : ∀ k, k < w.heap.size → S k → S' k) : But S' w w' :=
  ⟨h.os, h.tape, h.output, h.size, fun k hk hs => h.block k hk fun h' => hs (hS k hk h')⟩

/-- the flag in block rb is r -/
def Flag (w : World) (rb : Nat) (r : Bool) : Prop := w.heap[rb]? = some (.cells #[.bool r] 4 (0, 0))
theorem Flag.other {w : World} {rb b : Nat} {r : Bool} {c : Array Value} {t : TypeId} (h : Flag w rb r) (hb : w.heap[b]? = some (Obj.cells c t (0, 0))) (ht : t ≠ 4) : b ≠ rb := by
  rintro rfl
  unfold Flag at h
  rw [hb] at h
  simp only [Option.some.injEq, Obj.cells.injEq] at h
  exact ht h.2.1
theorem But.stay {w w' : World} {rb : Nat} {r : Bool} (h : But (· = rb) w w') (hf : Flag w rb r) : Stay w w' := fun b c t hb ht => h.at hb fun e => hf.other hb (by rintro rfl; exact own4 ht) e
theorem But.set {a w : World} {rb : Nat} (h : But (· = rb) a w) (u : Value) : But (· = rb) a (w.setCell ⟨rb, 0, none⟩ u) :=
  ⟨h.os, h.tape, h.output, Nat.le_trans h.size (by simp), fun k hk hs => by
    rw [heap_setCell_other _ _ _ _ (by exact hs)]; exact h.block k hk hs⟩
theorem Flag.set {w : World} {rb : Nat} {r : Bool} (h : Flag w rb r) (u : Bool) : Flag (w.setCell ⟨rb, 0, none⟩ (.bool u)) rb u := heap_setCell_same _ _ _ _ _ _ h

section
variable (h : Int → Nat) (S : Nat → Prop)

/-- a slice's pairs -/
def Ents (w : World) (v : Value) (es : List (Int × Int)) : Prop :=
  ∃ (b c : Nat) (arr : Array Value), v = .slice (some ⟨b, 0, none⟩) es.length c ∧ w.heap[b]? = some (.cells arr 180 (0, 0)) ∧ arr.size = 2 * c ∧ es.length ≤ c ∧
    (∀ i e, es[i]? = some e → arr[2 * i]? = some (.int .i64 e.1) ∧ arr[2 * i + 1]? = some (.int .i64 e.2)) ∧ S b

/-- a leaf: pairs of one hash -/
def Leaf (w : World) (v : Value) (es : List (Int × Int)) : Prop :=
  (∃ (b : Nat) (k y : Int), v = .iface 184 (.pointer (some ⟨b, 0, none⟩)) ∧ w.heap[b]? = some (.cells #[.int .u32 (h k : Nat), .int .i64 k, .int .i64 y] 186 (0, 0)) ∧ es = [(k, y)] ∧ S b) ∨
  (∃ (b x : Nat) (sl : Value), v = .iface 187 (.pointer (some ⟨b, 0, none⟩)) ∧ w.heap[b]? = some (.cells #[.int .u32 x, sl] 189 (0, 0)) ∧ Ents S w sl es ∧ 2 ≤ es.length ∧ (∀ e ∈ es, h e.1 = x) ∧ S b)

/-- a branch with a bitmap: the children p says stand side by side -/
def Bmp (w : World) (v : Value) (p : Nat → Bool) (kid : Nat → Value) : Prop :=
  ∃ (b m nb cap : Nat) (arr : Array Value), v = .iface 252 (.pointer (some ⟨b, 0, none⟩)) ∧ w.heap[b]? = some (.cells #[.int .u32 m, .slice (some ⟨nb, 0, none⟩) (cnt p 32) cap] 255 (0, 0)) ∧ Bm m p ∧
    w.heap[nb]? = some (.cells arr 165 (0, 0)) ∧ arr.size = cap ∧ cnt p 32 ≤ cap ∧ (∀ f, f < 32 → p f = true → arr[cnt p f]? = some (kid f)) ∧ S b ∧ S nb
/-- a branch with 32 places -/
def Hsh (w : World) (v : Value) (p : Nat → Bool) (kid : Nat → Value) : Prop :=
  ∃ (b : Nat) (arr : Array Value), v = .iface 256 (.pointer (some ⟨b, 0, none⟩)) ∧ w.heap[b]? = some (.cells arr 259 (0, 0)) ∧ arr.size = 33 ∧ (arr[0]? = some (.int .u64 (cnt p 32 : Nat)) ∧ 16 ≤ cnt p 32) ∧ (∀ f, f < 32 → arr[1 + f]? = some (kid f)) ∧ S b

def pres (c : Nat → List (Int × Int)) (f : Nat) : Bool := !(c f).isEmpty
theorem pres_t {c : Nat → List (Int × Int)} {f : Nat} : pres c f = true ↔ c f ≠ [] := by unfold pres; cases c f <;> simp
theorem pres_f {c : Nat → List (Int × Int)} {f : Nat} : pres c f = false ↔ c f = [] := by unfold pres; cases c f <;> simp

/-- a node: r levels are left, t are behind -/
def Node (w : World) : Nat → Nat → Value → List (Int × Int) → Prop
  | 0, _, v, es => Leaf h S w v es
  | r + 1, t, v, es => Leaf h S w v es ∨ ∃ (c : Nat → List (Int × Int)) (kid : Nat → Value), es = cat c ∧ Sorts h t c ∧ es ≠ [] ∧
      (∀ f, f < 32 → c f = [] → kid f = .nilIface) ∧ (∀ f, f < 32 → c f ≠ [] → Node w r (t + 1) (kid f) (c f)) ∧ (Bmp S w v (pres c) kid ∨ Hsh S w v (pres c) kid)
end

section
variable {h : Int → Nat} {S S' : Nat → Prop} {w w' : World}
/-- what keeps the blocks of S -/
def Keeps (S S' : Nat → Prop) (w w' : World) : Prop := ∀ (b : Nat) (c : Array Value) (t : TypeId), S b → w.heap[b]? = some (Obj.cells c t (0, 0)) → Own t → w'.heap[b]? = some (Obj.cells c t (0, 0)) ∧ S' b
theorem Ents.keeps {v : Value} {es : List (Int × Int)} (hk : Keeps S S' w w') : Ents S w v es → Ents S' w' v es
  | ⟨b, c, arr, h1, h2, h3, h4, h5, h6⟩ => ⟨b, c, arr, h1, (hk b arr 180 h6 h2 own180).1, h3, h4, h5, (hk b arr 180 h6 h2 own180).2⟩
theorem Leaf.keeps {v : Value} {es : List (Int × Int)} (hk : Keeps S S' w w') : Leaf h S w v es → Leaf h S' w' v es
  | .inl ⟨b, k, y, h1, h2, h3, h4⟩ => .inl ⟨b, k, y, h1, (hk b _ 186 h4 h2 own186).1, h3, (hk b _ 186 h4 h2 own186).2⟩
  | .inr ⟨b, x, sl, h1, h2, h3, h4, h5, h6⟩ => .inr ⟨b, x, sl, h1, (hk b _ 189 h6 h2 own189).1, h3.keeps hk, h4, h5, (hk b _ 189 h6 h2 own189).2⟩
theorem Bmp.keeps {v : Value} {p : Nat → Bool} {kid : Nat → Value} (hk : Keeps S S' w w') : Bmp S w v p kid → Bmp S' w' v p kid
  | ⟨b, m, nb, cap, arr, h1, h2, h3, h4, h5, h6, h7, h8, h9⟩ => ⟨b, m, nb, cap, arr, h1, (hk b _ 255 h8 h2 own255).1, h3, (hk nb _ 165 h9 h4 own165).1, h5, h6, h7,
      (hk b _ 255 h8 h2 own255).2, (hk nb _ 165 h9 h4 own165).2⟩
theorem Hsh.keeps {v : Value} {p : Nat → Bool} {kid : Nat → Value} (hk : Keeps S S' w w') : Hsh S w v p kid → Hsh S' w' v p kid
  | ⟨b, arr, h1, h2, h3, h4, h5, h6⟩ => ⟨b, arr, h1, (hk b _ 259 h6 h2 own259).1, h3, h4, h5, (hk b _ 259 h6 h2 own259).2⟩
theorem Node.keeps (hk : Keeps S S' w w') : ∀ {r t : Nat} {v : Value} {es : List (Int × Int)}, Node h S w r t v es → Node h S' w' r t v es
  | 0, _, _, _, n => Leaf.keeps hk n
  | _r + 1, _t, _v, _es, .inl n => .inl (Leaf.keeps hk n)
  | _r + 1, _t, _v, _es, .inr ⟨c, kid, h1, h2, h3, h4, h5, h6⟩ => .inr ⟨c, kid, h1, h2, h3, h4, fun f hf hc => Node.keeps hk (h5 f hf hc), h6.imp (Bmp.keeps hk) (Hsh.keeps hk)⟩
theorem Keeps.of_stay (hs : Stay w w') : Keeps S S w w' := fun b c t h1 h2 h3 => ⟨hs b c t h2 h3, h1⟩
theorem Node.stay {r t : Nat} {v : Value} {es : List (Int × Int)} (hs : Stay w w') (n : Node h S w r t v es) : Node h S w' r t v es := n.keeps (Keeps.of_stay hs)
theorem Node.inS {r t : Nat} {v : Value} {es : List (Int × Int)} (hS : ∀ b, b < w.heap.size → S b → S' b) (n : Node h S w r t v es) : Node h S' w r t v es :=
  n.keeps fun b _ _ h1 h2 _ => ⟨h2, hS b (lt_of_block h2) h1⟩
theorem Leaf.node {r t : Nat} {v : Value} {es : List (Int × Int)} (n : Leaf h S w v es) : Node h S w r t v es := by
  cases r with
  | zero => exact n
  | succ r => exact .inl n
theorem Leaf.ne {v : Value} {es : List (Int × Int)} : Leaf h S w v es → es ≠ []
  | .inl ⟨_, _, _, _, _, h3, _⟩ => by rw [h3]; simp
  | .inr ⟨_, _, _, _, _, _, h4, _⟩ => by rintro rfl; simp at h4
theorem Node.ne {r t : Nat} {v : Value} {es : List (Int × Int)} (n : Node h S w r t v es) : es ≠ [] := by
  cases r with
  | zero => exact Leaf.ne n
  | succ r =>
    rcases n with n | ⟨c, kid, h1, h2, h3, h4, h5, h6⟩
    · exact n.ne
    · exact h3
/-- a block of S, or one that is new behind w -/
def New (S : Nat → Prop) (w : World) (b : Nat) : Prop := S b ∨ w.heap.size ≤ b
end
end Go.Proofs.Ytpkndcmgialgcaa
