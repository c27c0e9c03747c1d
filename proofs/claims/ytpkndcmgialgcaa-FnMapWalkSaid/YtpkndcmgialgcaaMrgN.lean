/- A leaf that meets a key of another hash: the branch that joins them. -/
import Derived.Test.YtpkndcmgialgcaaMrg
namespace Go.Proofs.Ytpkndcmgialgcaa
open Go.RowKit

section
variable (h : Int → Nat)
/-- the parts behind a set -/
def setC (r t : Nat) (c : Nat → List (Int × Int)) (k v : Int) (f : Nat) : List (Int × Int) := if f = frag t (h k) then setR h r (t + 1) (c f) k v else c f
theorem setR_setC {r t : Nat} {c : Nat → List (Int × Int)} (hs : Sorts h t c) (k v : Int) : setR h (r + 1) t (cat c) k v = cat (setC h r t c k v) := setR_cat h hs k v
theorem setR_ne (r t : Nat) (es : List (Int × Int)) (k v : Int) : setR h r t es k v ≠ [] := fun e => by
  have h1 := ((setR_is h r t es k v).mem (k, v)).2 (.inl rfl)
  rw [e] at h1
  cases h1
theorem sorts_setC {r t : Nat} {c : Nat → List (Int × Int)} (hs : Sorts h t c) (k v : Int) : Sorts h t (setC h r t c k v) := fun f hf e he => by
  unfold setC at he
  by_cases e1 : f = frag t (h k)
  · rw [if_pos e1] at he
    rcases ((setR_is h r (t + 1) (c f) k v).mem e).1 he with h1 | h1
    · rw [h1, e1]
    · exact hs f hf e h1.1
  · rw [if_neg e1] at he
    exact hs f hf e he
theorem pres_setC {r t : Nat} {c : Nat → List (Int × Int)} (k v : Int) (f : Nat) : pres (setC h r t c k v) f = (pres c f || decide (f = frag t (h k))) := by
  by_cases e : f = frag t (h k)
  · have h1 : setC h r t c k v f ≠ [] := by unfold setC; rw [if_pos e]; exact setR_ne h _ _ _ _ _
    rw [pres_t.2 h1, decide_eq_true e, Bool.or_true]
  · have h1 : setC h r t c k v f = c f := by unfold setC; rw [if_neg e]
    unfold pres
    rw [h1, decide_eq_false e, Bool.or_false]
/-- one part alone -/
def one (t x : Nat) (es : List (Int × Int)) (f : Nat) : List (Int × Int) := if f = frag t x then es else []
theorem cat_one' (t x : Nat) (es : List (Int × Int)) : cat (one t x es) = es := by
  rw [cat_one (frag_lt t x)]
  · unfold one; rw [if_pos rfl]
  · intro f _ hne
    unfold one
    rw [if_neg hne]
theorem sorts_one {t x : Nat} {es : List (Int × Int)} (hx : ∀ e ∈ es, h e.1 = x) : Sorts h t (one t x es) := fun f _ e he => by
  unfold one at he
  by_cases e1 : f = frag t x
  · rw [if_pos e1] at he
    rw [hx e he, e1]
  · rw [if_neg e1] at he; cases he
end

section
variable {h : Int → Nat} {S : Nat → Prop} {w : World}
theorem Leaf.ptr {v : Value} {es : List (Int × Int)} (n : Leaf h S w v es) : ∃ ty p : Nat, v = .iface ty (.pointer (some ⟨p, 0, none⟩)) := by
  rcases n with ⟨b, _, _, h1, _⟩ | ⟨b, _, _, h1, _⟩
  · exact ⟨_, b, h1⟩
  · exact ⟨_, b, h1⟩
theorem Node.ptr {r t : Nat} {v : Value} {es : List (Int × Int)} (n : Node h S w r t v es) : ∃ ty p : Nat, v = .iface ty (.pointer (some ⟨p, 0, none⟩)) := by
  cases r with
  | zero => exact Leaf.ptr n
  | succ r =>
    rcases n with n | ⟨c, kid, h1, h2, h3, h4, h5, h6⟩
    · exact n.ptr
    · rcases h6 with ⟨b, m, nb, cap, arr, h7, _⟩ | ⟨b, arr, h7, _⟩
      · exact ⟨_, b, h7⟩
      · exact ⟨_, b, h7⟩
theorem Leaf.khv {v : Value} {es : List (Int × Int)} {x : Nat} (n : Leaf h S w v es) (hx : ∀ e ∈ es, h e.1 = x) :
    ∃ ty p fid : Nat, v = .iface ty (.pointer (some ⟨p, 0, none⟩)) ∧ Disp ty (.pointer (some ⟨p, 0, none⟩)) fid "pub-frond/pub/immutable.keyHashValue" ∧
      Calls Try.prog fid #[.pointer (some ⟨p, 0, none⟩)] w fun e w' => e = .returned (.int .u32 (x : Int)) ∧ w = w' := by
  rcases n with ⟨b, k, y, rfl, h2, rfl, h4⟩ | ⟨b, x', sl, rfl, h2, h3, h4, h5, h6⟩
  · have e := hx (k, y) (by simp)
    have e : h k = x := e
    subst e
    exact ⟨_, _, _, rfl, disp_khv184 b, khv_val b _ w (cell_at h2 rfl)⟩
  · obtain ⟨a, ha⟩ : ∃ a, a ∈ es := by
      cases es with
      | nil => simp at h4
      | cons a es => exact ⟨a, by simp⟩
    have e : x' = x := (h5 a ha).symm.trans (hx a ha)
    subst e
    exact ⟨_, _, _, rfl, disp_khv187 b, khv_col b _ w (cell_at h2 rfl)⟩
end
theorem cnt_at {i n : Nat} : cnt (fun f => decide (f = i)) n = if i < n then 1 else 0 := by
  rw [cnt_more (p := fun _ => false) (f := i) rfl (by simp) (fun k hk => by simp [hk]), cnt_none (fun _ _ => rfl), Nat.zero_add]
theorem frag_eq_of {t x y : Nat} (ha : x % 32 ^ t = y % 32 ^ t) (hf : frag t x = frag t y) : x % 32 ^ (t + 1) = y % 32 ^ (t + 1) := by
  have e : (32 ^ (t + 1) : Nat) = 32 ^ t * 32 := Nat.pow_succ _ _
  unfold frag at hf
  rw [e, Nat.mod_mul, Nat.mod_mul, ha, hf]

theorem Keeps.of_below {S S' : Nat → Prop} {w w' : World} (hb : Below w.heap.size w w') (hS : ∀ b, b < w.heap.size → S b → S' b) : Keeps S S' w w' := fun b c t h1 h2 _ =>
  ⟨by rw [hb.block b (lt_of_block h2)]; exact h2, hS b (lt_of_block h2) h1⟩
theorem size_alloc (w : World) (o : Obj) : (w.alloc o).heap.size = w.heap.size + 1 := by show (w.heap.push o).size = _; simp
theorem at_alloc {w : World} {b : Nat} {o o' : Obj} (h : w.heap[b]? = some o) : (w.alloc o').heap[b]? = some o := (Below.heap_alloc w o' b (lt_of_block h)).trans h

section
variable {h : Int → Nat} {S : Nat → Prop} {w : World}
theorem mrg_ne_node (r : Nat) {t : Nat} {v : Value} {es : List (Int × Int)} {x m : Nat} {key val : Int} (n : Leaf h S w v es) (hx : ∀ e ∈ es, h e.1 = x) (hne : frag t x ≠ frag t (h key))
    (hm : Bm m (fun f => decide (f = frag t x) || decide (f = frag t (h key)))) :
    Node h (New S w) (mrgW w m (h key) key val (if frag t x < frag t (h key) then #[v, .iface 184 (.pointer (some ⟨w.heap.size + 1, 0, none⟩))] else #[.iface 184 (.pointer (some ⟨w.heap.size + 1, 0, none⟩)), v])) (r + 1) t (.iface 252 (.pointer (some ⟨w.heap.size, 0, none⟩))) (setR h (r + 1) t es key val) ∧
    Below w.heap.size w (mrgW w m (h key) key val (if frag t x < frag t (h key) then #[v, .iface 184 (.pointer (some ⟨w.heap.size + 1, 0, none⟩))] else #[.iface 184 (.pointer (some ⟨w.heap.size + 1, 0, none⟩)), v])) := by
  have hi := frag_lt t x
  have hj := frag_lt t (h key)
  generalize hkids : (if frag t x < frag t (h key) then #[v, .iface 184 (.pointer (some ⟨w.heap.size + 1, 0, none⟩))] else #[.iface 184 (.pointer (some ⟨w.heap.size + 1, 0, none⟩)), v] : Array Value) = kids
  have hB : Below w.heap.size w (mrgW w m (h key) key val kids) := (((Below.refl _ _).alloc (Nat.le_refl _) _).alloc (by rw [size_alloc]; omega) _).alloc (by rw [size_alloc, size_alloc]; omega) _
  refine ⟨?_, hB⟩
  have hA : (mrgW w m (h key) key val kids).heap[w.heap.size]? = some (.cells #[.int .u32 m, .slice (some ⟨w.heap.size + 1 + 1, 0, none⟩) 2 2] 255 (0, 0)) := at_alloc (at_alloc (heap_alloc_last w _))
  have hV : (mrgW w m (h key) key val kids).heap[w.heap.size + 1]? = some (.cells #[.int .u32 (h key : Nat), .int .i64 key, .int .i64 val] 186 (0, 0)) := by
    have h1 := heap_alloc_last (w.alloc (.cells #[.int .u32 m, .slice (some ⟨w.heap.size + 1 + 1, 0, none⟩) 2 2] 255)) (.cells #[.int .u32 (h key : Nat), .int .i64 key, .int .i64 val] 186)
    rw [size_alloc] at h1
    exact at_alloc h1
  have hK : (mrgW w m (h key) key val kids).heap[w.heap.size + 1 + 1]? = some (.cells kids 165 (0, 0)) := by
    have h1 := heap_alloc_last ((w.alloc (.cells #[.int .u32 m, .slice (some ⟨w.heap.size + 1 + 1, 0, none⟩) 2 2] 255)).alloc (.cells #[.int .u32 (h key : Nat), .int .i64 key, .int .i64 val] 186)) (.cells kids 165)
    rw [size_alloc, size_alloc] at h1
    exact h1
  have hsC := setR_setC h (r := r) (sorts_one h (t := t) hx) key val
  rw [cat_one'] at hsC
  rw [hsC]
  have hp : ∀ f, pres (setC h r t (one t x es) key val) f = (decide (f = frag t x) || decide (f = frag t (h key))) := fun f => by
    rw [pres_setC]
    congr 1
    unfold one
    by_cases e : f = frag t x
    · rw [decide_eq_true e]
      exact pres_t.2 (by show (if _ then _ else _) ≠ _; rw [if_pos e]; exact n.ne)
    · rw [decide_eq_false e]
      exact pres_f.2 (by show (if _ then _ else _) = _; rw [if_neg e])
  have hci : setC h r t (one t x es) key val (frag t x) = es := by unfold setC one; rw [if_neg hne, if_pos rfl]
  have hcj : setC h r t (one t x es) key val (frag t (h key)) = [(key, val)] := by unfold setC one; rw [if_pos rfl, if_neg fun e => hne e.symm]; exact setR_nil h _ _ _ _
  have hcount : ∀ nn, cnt (pres (setC h r t (one t x es) key val)) nn = (if frag t x < nn then 1 else 0) + if frag t (h key) < nn then 1 else 0 := fun nn => by
    rw [cnt_more (p := fun f => decide (f = frag t x)) (f := frag t (h key)) (by simpa using fun e => hne e.symm) (by rw [hp]; simp) (fun k hk => by rw [hp]; simp [hk]), cnt_at]
  have h32 : cnt (pres (setC h r t (one t x es) key val)) 32 = 2 := by rw [hcount, if_pos hi, if_pos hj]
  refine .inr ⟨_, fun f => if f = frag t x then v else if f = frag t (h key) then .iface 184 (.pointer (some ⟨w.heap.size + 1, 0, none⟩)) else .nilIface, rfl, sorts_setC h (sorts_one h hx) key val, ?_, ?_, ?_, .inl ?_⟩
  · rw [← hsC]; exact setR_ne h _ _ _ _ _
  · intro f hf hc
    have := hp f
    rw [pres_f.2 hc] at this
    have e1 : ¬ f = frag t x := fun e => by rw [decide_eq_true e] at this; simp at this
    have e2 : ¬ f = frag t (h key) := fun e => by rw [decide_eq_true e] at this; simp at this
    simp only [e1, e2, if_false]
  · intro f hf hc
    by_cases e1 : f = frag t x
    · subst e1
      simp only [if_true]
      rw [hci]
      exact (Leaf.keeps (Keeps.of_below hB fun b _ hb => .inl hb) n).node
    · by_cases e2 : f = frag t (h key)
      · subst e2
        simp only [e1, if_false, if_true]
        rw [hcj]
        exact Leaf.node (.inl ⟨w.heap.size + 1, key, val, rfl, hV, rfl, .inr (by omega)⟩)
      · have := hp f
        rw [pres_t.2 hc, decide_eq_false e1, decide_eq_false e2] at this
        cases this
  · refine ⟨w.heap.size, m, w.heap.size + 1 + 1, 2, kids, rfl, by rw [h32]; exact hA, bm_congr hm fun i _ => (hp i).symm, hK, ?_, by rw [h32]; exact Nat.le_refl _, ?_, .inr (Nat.le_refl _), .inr (by omega)⟩
    · rw [← hkids]; split <;> rfl
    · intro f hf hc
      rw [hp] at hc
      rw [hcount, ← hkids]
      by_cases e1 : f = frag t x
      · subst e1
        rw [if_neg (Nat.lt_irrefl _)]
        simp only [if_true]
        by_cases e3 : frag t x < frag t (h key)
        · rw [if_pos e3, if_neg (by omega)]; rfl
        · rw [if_neg e3, if_pos (by omega)]; rfl
      · have e2 : f = frag t (h key) := by simpa [e1] using hc
        subst e2
        simp only [e1, if_false, if_true, Nat.lt_irrefl]
        by_cases e3 : frag t x < frag t (h key)
        · rw [if_pos e3, if_pos e3]; rfl
        · rw [if_neg e3, if_neg e3]; rfl

theorem mrg_eq_node {r t : Nat} {es : List (Int × Int)} {x m : Nat} {key val : Int} {w1 : World} {v1 : Value} (hx : ∀ e ∈ es, h e.1 = x) (he : frag t x = frag t (h key)) (hm : Bm m (fun f => decide (f = frag t (h key))))
    (n1 : Node h (fun b => New S w b ∧ b ≠ w.heap.size) w1 r (t + 1) v1 (setR h r (t + 1) es key val)) (hb : Below w.heap.size w w1) (hz : w1.heap[w.heap.size]? = some (.cells #[.int .u32 m, .slice none 0 0] 255 (0, 0))) :
    Node h (New S w) (mrg1 w w1 v1) (r + 1) t (.iface 252 (.pointer (some ⟨w.heap.size, 0, none⟩))) (setR h (r + 1) t es key val) ∧ Below w.heap.size w (mrg1 w w1 v1) := by
  have hj := frag_lt t (h key)
  have hlt := lt_of_block hz
  refine ⟨?_, (hb.alloc hb.size _).setCell (Nat.le_refl _) _⟩
  have hA : (mrg1 w w1 v1).heap[w.heap.size]? = some (.cells #[.int .u32 m, .slice (some ⟨w1.heap.size, 0, none⟩) 1 1] 255 (0, 0)) := heap_setCell_same _ _ _ _ _ _ (at_alloc hz)
  have hK : (mrg1 w w1 v1).heap[w1.heap.size]? = some (.cells #[v1] 165 (0, 0)) := by
    unfold mrg1
    rw [heap_setCell_other _ _ _ _ (by show w1.heap.size ≠ w.heap.size; omega)]
    exact heap_alloc_last w1 _
  have hsC := setR_setC h (r := r) (sorts_one h (t := t) hx) key val
  rw [cat_one'] at hsC
  rw [hsC]
  have hp : ∀ f, pres (setC h r t (one t x es) key val) f = decide (f = frag t (h key)) := fun f => by
    rw [pres_setC]
    by_cases e : f = frag t (h key)
    · rw [decide_eq_true e, Bool.or_true]
    · rw [decide_eq_false e, Bool.or_false]
      exact pres_f.2 (by show (if _ then _ else _) = _; rw [if_neg (he ▸ e)])
  have hcj : setC h r t (one t x es) key val (frag t (h key)) = setR h r (t + 1) es key val := by unfold setC one; rw [if_pos rfl, if_pos he.symm]
  have hcount : ∀ nn, cnt (pres (setC h r t (one t x es) key val)) nn = if frag t (h key) < nn then 1 else 0 := fun nn => by
    rw [cnt_congr (fun f _ => hp f), cnt_at]
  have h32 : cnt (pres (setC h r t (one t x es) key val)) 32 = 1 := by rw [hcount, if_pos hj]
  refine .inr ⟨_, fun f => if f = frag t (h key) then v1 else .nilIface, rfl, sorts_setC h (sorts_one h hx) key val, ?_, ?_, ?_, .inl ?_⟩
  · rw [← hsC]; exact setR_ne h _ _ _ _ _
  · intro f hf hc
    have := hp f
    rw [pres_f.2 hc] at this
    have e2 : ¬ f = frag t (h key) := fun e => by rw [decide_eq_true e] at this; simp at this
    simp only [e2, if_false]
  · intro f hf hc
    by_cases e2 : f = frag t (h key)
    · subst e2
      simp only [if_true]
      rw [hcj]
      refine n1.keeps fun b c ty h1 h2 _ => ⟨?_, h1.1⟩
      show (mrg1 w w1 v1).heap[b]? = _
      unfold mrg1
      rw [heap_setCell_other _ _ _ _ h1.2]
      exact at_alloc h2
    · have := hp f
      rw [pres_t.2 hc, decide_eq_false e2] at this
      cases this
  · refine ⟨w.heap.size, m, w1.heap.size, 1, #[v1], rfl, by rw [h32]; exact hA, bm_congr hm fun i _ => (hp i).symm, hK, rfl, by rw [h32]; exact Nat.le_refl _, ?_, .inr (Nat.le_refl _), .inr hb.size⟩
    intro f hf hc
    rw [hp] at hc
    have e2 : f = frag t (h key) := by simpa using hc
    subst e2
    rw [hcount, if_neg (Nat.lt_irrefl _)]
    simp only [if_true]
    rfl
end

theorem or_bits (i j : Nat) (hi : i < 32) (hj : j < 32) : bits BinOp.or IntKind.u32 (2 ^ i % 4294967296) (2 ^ j % 4294967296) = ((2 ^ i ||| 2 ^ j : Nat) : Int) := by
  rw [pow_mod hi, pow_mod hj, or_u32 _ _ (pow_lt hi) (pow_lt hj)]

/-- the join -/
theorem merge_any {h : Int → Nat} (hlt : ∀ k, h k < 4294967296) (key val : Int) : ∀ (r t : Nat) {S : Nat → Prop} {w : World} {v : Value} {es : List (Int × Int)} {x : Nat}, r + 1 + t = 7 → Leaf h S w v es → (∀ e ∈ es, h e.1 = x) → x ≠ h key → x < 4294967296 →
    x % 32 ^ t = h key % 32 ^ t →
    Calls Try.prog 177 #[v, .int .u64 (5 * t : Nat), .int .u32 (h key), .int .i64 key, .int .i64 val] w fun e w' =>
      ∃ v', e = .returned v' ∧ Node h (New S w) w' (r + 1) t v' (setR h (r + 1) t es key val) ∧ Below w.heap.size w w' := by
  intro r
  induction r with
  | zero =>
    intro t S w v es x hrt n hx hne hxl ha
    have hfne : frag t x ≠ frag t (h key) := fun e => by
      have h1 := frag_eq_of ha e
      have h2 : t + 1 = 7 := by omega
      rw [h2] at h1
      have h3 := hlt key
      omega
    obtain ⟨ty, p, fid, rfl, hd, hc⟩ := n.khv hx
    refine (merge_ne ty p fid x (h key) (5 * t) key val (frag t x) (frag t (h key)) (frag_lt _ _) (frag_lt _ _) (by omega) (frag_bits t x hxl) (frag_bits t _ (hlt key)) (by simp only [beq_eq_false_iff_ne, ne_eq]; omega) _ (or_bits _ _ (frag_lt _ _) (frag_lt _ _)) w hd hc).mono ?_
    rintro e w' ⟨rfl, rfl⟩
    exact ⟨_, rfl, mrg_ne_node 0 n hx hfne (bm_or (bm_one (frag_lt _ _)) (frag_lt _ _))⟩
  | succ r ih =>
    intro t S w v es x hrt n hx hne hxl ha
    obtain ⟨ty, p, fid, rfl, hd, hc⟩ := n.khv hx
    by_cases hf : frag t x = frag t (h key)
    · have hf1 := frag_bits t x hxl
      rw [hf] at hf1
      refine (merge_eq ty p fid x (h key) (5 * t) key val (frag t (h key)) (frag_lt _ _) (by omega) hf1 (frag_bits t _ (hlt key)) _ (or_bits _ _ (frag_lt _ _) (frag_lt _ _)) w hd hc
        (fun v1 w1 => Node h (fun b => New S w b ∧ b ≠ w.heap.size) w1 (r + 1) (t + 1) v1 (setR h (r + 1) (t + 1) es key val)) (fun w1 hb1 hs1 => ?_)).mono ?_
      · have n1 : Leaf h (fun b => S b ∧ b < w.heap.size) w1 _ es := Leaf.keeps (Keeps.of_below hb1 fun b hb hS => ⟨hS, hb⟩) n
        refine (ih (t + 1) (by omega) n1 hx hne hxl (frag_eq_of ha hf)).mono ?_
        rintro e w2 ⟨v', rfl, n2, hb2⟩
        obtain ⟨ty', q, rfl⟩ := n2.ptr
        refine ⟨⟨ty', q, rfl, n2.inS fun b _ hb => ?_⟩, hb2⟩
        rcases hb with hb | hb
        · exact ⟨.inl hb.1, by omega⟩
        · exact ⟨.inr (by omega), by omega⟩
      · rintro e w' ⟨rfl, v1, w1, n1, hb1, hz, rfl⟩
        have hm := bm_or (bm_one (frag_lt t (h key))) (frag_lt t (h key))
        exact ⟨_, rfl, mrg_eq_node hx hf (bm_congr hm fun i _ => by simp) n1 hb1 hz⟩
    · refine (merge_ne ty p fid x (h key) (5 * t) key val (frag t x) (frag t (h key)) (frag_lt _ _) (frag_lt _ _) (by omega) (frag_bits t x hxl) (frag_bits t _ (hlt key)) (by simp only [beq_eq_false_iff_ne, ne_eq]; omega) _ (or_bits _ _ (frag_lt _ _) (frag_lt _ _)) w hd hc).mono ?_
      rintro e w' ⟨rfl, rfl⟩
      exact ⟨_, rfl, mrg_ne_node (r + 1) n hx hf (bm_or (bm_one (frag_lt _ _)) (frag_lt _ _))⟩
end Go.Proofs.Ytpkndcmgialgcaa
