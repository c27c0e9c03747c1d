/- delete at a node of whatever kind (as a copy).

delete at any node (as a copy). -/
import Derived.Test.YtpkndcmgialgcaaHshF
namespace Go.Proofs.Ytpkndcmgialgcaa
open Go.RowKit

/-- what a delete at a node leaves (as a copy) -/
def DelPost (h : Int → Nat) (S : Nat → Prop) (w : World) (rb r t : Nat) (es : List (Int × Int)) (key : Int) (v : Value) (e : Ending) (w' : World) : Prop :=
  But (· = rb) w w' ∧ Flag w' rb (has es key) ∧ (if has es key = true then (if del es key = [] then e = .returned .nilIface else ∃ v', e = .returned v' ∧ Node h (New S w) w' r t v' (del es key)) else e = .returned v)
theorem DelPost.no {h : Int → Nat} {S : Nat → Prop} {w w' : World} {rb r t : Nat} {es : List (Int × Int)} {key : Int} {v : Value} (hh : has es key = false) (hb : But (· = rb) w w') (hf : Flag w' rb false) : DelPost h S w rb r t es key v (.returned v) w' :=
  ⟨hb, by rw [hh]; exact hf, by rw [if_neg (by rw [hh]; simp)]⟩
theorem DelPost.nil {h : Int → Nat} {S : Nat → Prop} {w w' : World} {rb r t : Nat} {es : List (Int × Int)} {key : Int} {v : Value} (hh : has es key = true) (hd : del es key = []) (hb : But (· = rb) w w') (hf : Flag w' rb true) : DelPost h S w rb r t es key v (.returned .nilIface) w' :=
  ⟨hb, by rw [hh]; exact hf, by rw [if_pos hh, if_pos hd]⟩
theorem DelPost.some {h : Int → Nat} {S : Nat → Prop} {w w' : World} {rb r t : Nat} {es : List (Int × Int)} {key : Int} {v v' : Value} (hh : has es key = true) (hd : del es key ≠ []) (hb : But (· = rb) w w') (hf : Flag w' rb true) (n : Node h (New S w) w' r t v' (del es key)) : DelPost h S w rb r t es key v (.returned v') w' :=
  ⟨hb, by rw [hh]; exact hf, by rw [if_pos hh, if_neg hd]; exact ⟨_, rfl, n⟩⟩

theorem disp_del184 (p : Nat) : Disp 184 (.pointer (some ⟨p, 0, none⟩)) 173 "pub-frond/pub/immutable.delete" := ⟨fun w => by kernel_rfl, fun w => by kernel_rfl, fun a w => by kernel_rfl⟩
theorem disp_del187 (p : Nat) : Disp 187 (.pointer (some ⟨p, 0, none⟩)) 178 "pub-frond/pub/immutable.delete" := ⟨fun w => by kernel_rfl, fun w => by kernel_rfl, fun a w => by kernel_rfl⟩
theorem disp_del252 (p : Nat) : Disp 252 (.pointer (some ⟨p, 0, none⟩)) 198 "pub-frond/pub/immutable.delete" := ⟨fun w => by kernel_rfl, fun w => by kernel_rfl, fun a w => by kernel_rfl⟩
theorem disp_del256 (p : Nat) : Disp 256 (.pointer (some ⟨p, 0, none⟩)) 203 "pub-frond/pub/immutable.delete" := ⟨fun w => by kernel_rfl, fun w => by kernel_rfl, fun a w => by kernel_rfl⟩

theorem has_no {es : List (Int × Int)} {key : Int} (h : ∀ y ∈ es, y.1 ≠ key) : has es key = false := by
  rw [Bool.eq_false_iff]
  intro h1
  obtain ⟨y, hy, hk⟩ := has_iff.1 h1
  exact h y hy hk
/-- a delete of the pair at place i -/
theorem del_at {es : List (Int × Int)} {i : Nat} {y : Int × Int} {key : Int} (hy : es[i]? = some y) (hyk : y.1 = key) (ho : ∀ z j, es[j]? = some z → z.1 = key → j = i) : del es key = es.take i ++ es.drop (i + 1) := by
  have hi : i < es.length := (List.getElem?_eq_some_iff.1 hy).1
  have e1 : es = es.take i ++ es[i] :: es.drop (i + 1) := by rw [← List.drop_eq_getElem_cons hi, List.take_append_drop]
  have hyi : es[i] = y := (List.getElem?_eq_some_iff.1 hy).2
  have hf : ∀ l : List (Int × Int), (∀ z ∈ l, z.1 ≠ key) → l.filter (fun e => decide (e.1 ≠ key)) = l := fun l hl => List.filter_eq_self.2 fun z hz => by simpa using hl z hz
  have h1 : ∀ z ∈ es.take i, z.1 ≠ key := fun z hz e => by
    obtain ⟨k, hk⟩ := List.getElem?_of_mem hz
    rw [List.getElem?_take] at hk
    split at hk
    · have := ho z k hk e; omega
    · cases hk
  have h2 : ∀ z ∈ es.drop (i + 1), z.1 ≠ key := fun z hz e => by
    obtain ⟨k, hk⟩ := List.getElem?_of_mem hz
    rw [List.getElem?_drop] at hk
    have := ho z _ hk e
    omega
  unfold del
  conv => lhs; rw [e1]
  rw [List.filter_append, List.filter_cons_of_neg (by rw [hyi]; simpa using hyk), hf _ h1, hf _ h2]

/-- delete at a leaf -/
theorem leaf_del {h : Int → Nat} {S : Nat → Prop} (mo mu sh key : Int) (r t : Nat) (sf hh : Int) {w : World} {v : Value} {rb : Nat} {es : List (Int × Int)}
    (hl : es.length < 100000000) (ho : Once es) (n : Leaf h S w v es) (hf : Flag w rb false) :
    ∃ (ty p fid : Nat), v = .iface ty (.pointer (some ⟨p, 0, none⟩)) ∧ Disp ty (.pointer (some ⟨p, 0, none⟩)) fid "pub-frond/pub/immutable.delete" ∧
      Calls Try.prog fid #[.pointer (some ⟨p, 0, none⟩), .int .i64 key, .int .u64 sf, .int .u32 hh, .iface 175 (av mo mu sh), .bool false, .pointer (some ⟨rb, 0, none⟩)] w
        (DelPost h S w rb r t es key v) := by
  rcases n with ⟨b, k, y, rfl, h2, rfl, h4⟩ | ⟨b, x, sl, rfl, h2, h3, h4, h5, h6⟩
  · refine ⟨_, _, _, rfl, disp_del184 b, (val_del mo mu sh b rb (h k) k y key sf hh false (decide (k = key)) (Lib.hid rfl) w h2 hf).mono ?_⟩
    rintro e w' ⟨rfl, hb, hf'⟩
    by_cases hk : k = key
    · rw [decide_eq_true hk] at hf' ⊢
      exact DelPost.nil (by simp [has, hk]) (by simp [del, hk]) hb hf'
    · rw [decide_eq_false hk] at hf' ⊢
      exact DelPost.no (by simp [has, hk]) hb hf'
  · refine ⟨_, _, _, rfl, disp_del187 b, ?_⟩
    have hcap : ∃ nb c, sl = .slice (some ⟨nb, 0, none⟩) es.length c ∧ es.length ≤ c := by
      obtain ⟨nb, c, arr, h7, h8, h9, h10, h11, h12⟩ := h3
      exact ⟨nb, c, h7, h10⟩
    obtain ⟨nb, c, rfl, hr⟩ := h3.reads
    have hcap : es.length ≤ c := by
      obtain ⟨nb', c', h7, h8⟩ := hcap
      simp only [Value.slice.injEq] at h7
      omega
    have hnb := h3.ne_flag hf
    by_cases hh' : has es key = true
    · obtain ⟨y, hy, hyk⟩ := has_iff.1 hh'
      obtain ⟨i, hi⟩ := List.getElem?_of_mem hy
      have hil : i < es.length := (List.getElem?_eq_some_iff.1 hi).1
      have huniq : ∀ z j, es[j]? = some z → z.1 = key → j = i := fun z j hj hz => once_at ho hj hi (hz.trans hyk.symm)
      have hda := del_at hi hyk huniq
      have hdl : (del es key).length = es.length - 1 := by rw [hda, List.length_append, List.length_take, List.length_drop]; omega
      have hdn : del es key ≠ [] := fun e => by rw [e] at hdl; simp at hdl; omega
      by_cases h22 : es.length = 2
      · have hj : 1 - i < es.length := by omega
        refine (col_del_v mo mu sh b rb x nb c es key sf hh false h22 w h2 hr hnb hf y es[1 - i] i (1 - i) (by omega) hi hyk (List.getElem?_eq_getElem hj) huniq).mono ?_
        rintro e w' ⟨q, rfl, hq, hv, hb, hf'⟩
        refine DelPost.some hh' hdn hb hf' (Leaf.node (.inl ⟨q, es[1 - i].1, es[1 - i].2, rfl, ?_, ?_, .inr hq⟩))
        · rw [h5 _ (List.getElem_mem hj)]; exact hv
        · rw [hda]
          obtain ⟨a, b, rfl⟩ : ∃ a b, es = [a, b] := by
            match es, h22 with
            | [a, b], _ => exact ⟨a, b, rfl⟩
          rcases i with _ | i
          · rfl
          · obtain rfl : i = 0 := by omega
            rfl
      · refine (col_del_c mo mu sh b rb x nb c es key sf hh hl (by omega) hcap w h2 hr hnb hf y i hi hyk huniq).mono ?_
        intro e w' hp
        rw [← hda] at hp
        obtain ⟨v', rfl, n', hb, hf'⟩ := col_node (S := S) (r := r) (t := t) hp (by omega) (fun z hz => h5 z ((del_mem z).1 hz).1)
        exact DelPost.some hh' hdn hb hf' n'
    · have hno : has es key = false := by simpa using hh'
      refine (col_del_n mo mu sh b rb x nb c es key sf hh false hl w h2 hr hf (fun z hz e => hh' (has_iff.2 ⟨z, hz, e⟩))).mono ?_
      rintro e w' ⟨rfl, hb, hf'⟩
      exact DelPost.no hno hb hf'

section
variable (h : Int → Nat)
/-- the parts behind a delete -/
def delC (t : Nat) (c : Nat → List (Int × Int)) (k : Int) (f : Nat) : List (Int × Int) := if f = frag t (h k) then del (c f) k else c f
theorem del_delC {t : Nat} {c : Nat → List (Int × Int)} (hs : Sorts h t c) (k : Int) : del (cat c) k = cat (delC h t c k) := del_cat h hs k
theorem sorts_delC {t : Nat} {c : Nat → List (Int × Int)} (hs : Sorts h t c) (k : Int) : Sorts h t (delC h t c k) := fun f hf e he => by
  unfold delC at he
  by_cases e1 : f = frag t (h k)
  · rw [if_pos e1] at he
    exact hs f hf e ((del_mem e).1 he).1
  · rw [if_neg e1] at he
    exact hs f hf e he
theorem pres_delC_nil {t : Nat} {c : Nat → List (Int × Int)} {k : Int} (hd : del (c (frag t (h k))) k = []) (f : Nat) : pres (delC h t c k) f = (pres c f && !decide (f = frag t (h k))) := by
  by_cases e : f = frag t (h k)
  · subst e
    rw [pres_f.2 (by unfold delC; rw [if_pos rfl]; exact hd)]
    simp
  · have h1 : delC h t c k f = c f := by unfold delC; rw [if_neg e]
    unfold pres
    rw [h1]
    simp [e]
theorem pres_delC {t : Nat} {c : Nat → List (Int × Int)} {k : Int} (hd : del (c (frag t (h k))) k ≠ []) (f : Nat) : pres (delC h t c k) f = pres c f := by
  by_cases e : f = frag t (h k)
  · subst e
    rw [pres_t.2 (by unfold delC; rw [if_pos rfl]; exact hd), pres_t.2 fun e => hd (by rw [e]; rfl)]
  · have h1 : delC h t c k f = c f := by unfold delC; rw [if_neg e]
    unfold pres
    rw [h1]
end

theorem row_del {p q : Nat → Bool} {kid : Nat → Value} {L : List Value} {j : Nat} (hl : L.length = cnt p 32) (hk : ∀ f, f < 32 → p f = true → L[cnt p f]? = some (kid f)) (hj : j < 32) (hp : p j = true) (hq : ∀ i, q i = (p i && !decide (i = j))) :
    (L.take (cnt p j) ++ L.drop (cnt p j + 1)).length = cnt q 32 ∧ ∀ f, f < 32 → q f = true → (L.take (cnt p j) ++ L.drop (cnt p j + 1))[cnt q f]? = some (kid f) := by
  have hqj : q j = false := by rw [hq]; simp
  have hcq : ∀ n, cnt p n = cnt q n + if j < n then 1 else 0 := fun n => cnt_more hqj hp (fun i hi => by rw [hq]; simp [hi])
  have hm := cnt_lt p hj hp
  have htl : (L.take (cnt p j)).length = cnt p j := by rw [List.length_take]; omega
  refine ⟨?_, fun f hf hqf => ?_⟩
  · rw [List.length_append, htl, List.length_drop, hl, hcq 32, if_pos hj]
    rw [hcq 32, if_pos hj] at hm
    omega
  · have hpf : p f = true := by rw [hq] at hqf; simp at hqf; exact hqf.1
    have hfj : ¬ f = j := fun e => by rw [e, hqj] at hqf; cases hqf
    have h9 := hk f hf hpf
    have hcf := hcq f
    rcases Nat.lt_or_ge f j with h1 | h1
    · have h2 := cnt_lt p h1 hpf
      rw [if_neg (by omega)] at hcf
      rw [List.getElem?_append_left (by rw [htl]; omega), List.getElem?_take, if_pos (by omega), ← Nat.add_zero (cnt q f), ← hcf]
      exact h9
    · have h2 := cnt_lt p (show j < f by omega) hp
      rw [if_pos (by omega)] at hcf
      rw [List.getElem?_append_right (by rw [htl]; omega), htl, List.getElem?_drop, show cnt p j + 1 + (cnt q f - cnt p j) = cnt p f by omega]
      exact h9

section
variable {h : Int → Nat} {S : Nat → Prop} {w w' : World}
/-- a branch whose child at the key's place is another, or none any more -/
theorem del_branch {r t : Nat} {c : Nat → List (Int × Int)} {kid : Nat → Value} {key : Int} {v v2 : Value} {pp : Nat → Bool} (hs : Sorts h t c) (h4 : ∀ f, f < 32 → c f = [] → kid f = .nilIface) (h5 : ∀ f, f < 32 → c f ≠ [] → Node h S w r (t + 1) (kid f) (c f))
    (hst : Stay w w') (hne : del (cat c) key ≠ []) (n2 : del (c (frag t (h key))) key ≠ [] → Node h (New S w) w' r (t + 1) v2 (del (c (frag t (h key))) key)) (n3 : del (c (frag t (h key))) key = [] → v2 = .nilIface)
    (hpp : ∀ f, pres (delC h t c key) f = pp f) (hB : Bmp (New S w) w' v pp (fun f => if f = frag t (h key) then v2 else kid f) ∨ Hsh (New S w) w' v pp (fun f => if f = frag t (h key) then v2 else kid f)) :
    Node h (New S w) w' (r + 1) t v (del (cat c) key) := by
  have hp : pres (delC h t c key) = pp := funext hpp
  rw [del_delC h hs] at hne ⊢
  refine .inr ⟨_, fun f => if f = frag t (h key) then v2 else kid f, rfl, sorts_delC h hs key, hne, ?_, ?_, by rw [hp]; exact hB⟩
  · intro f hf hc
    show (if _ then _ else _) = _
    unfold delC at hc
    by_cases e : f = frag t (h key)
    · subst e
      rw [if_pos rfl] at hc ⊢
      exact n3 hc
    · rw [if_neg e] at hc ⊢
      exact h4 f hf hc
  · intro f hf hc
    unfold delC at hc ⊢
    show Node _ _ _ _ _ (if _ then _ else _) _
    by_cases e : f = frag t (h key)
    · subst e
      rw [if_pos rfl] at hc ⊢
      rw [if_pos rfl]
      exact n2 hc
    · rw [if_neg e] at hc ⊢
      rw [if_neg e]
      exact (Node.stay hst (h5 f hf hc)).inS fun b _ hb => .inl hb
end
theorem cat_nil {c : Nat → List (Int × Int)} (hc : ∀ f, f < 32 → c f = []) : cat c = [] := by
  rw [cat_one (f0 := 0) (by omega) fun f hf _ => hc f hf]
  exact hc 0 (by omega)
theorem xor_bit {m f : Nat} (hm : m < 4294967296) (hf : f < 32) : bits BinOp.xor IntKind.u32 m (2 ^ f % 4294967296) = ((m ^^^ 2 ^ f : Nat) : Int) := by
  rw [pow_mod hf, xor_u32 _ _ hm (pow_lt hf)]
theorem cnt_pos {p : Nat → Bool} {n : Nat} (h : 0 < cnt p n) : ∃ f, f < n ∧ p f = true := by
  obtain ⟨f, h1, h2, _⟩ := cnt_surj h
  exact ⟨f, h1, h2⟩
theorem Bmp.of_own {S : Nat → Prop} {w : World} {B b m : Nat} {q : Nat → Bool} {kid : Nat → Value} {sl : Value} (hb : w.heap[b]? = some (.cells #[.int .u32 m, sl] 255 (0, 0))) (hm : Bm m q) (ho : w.ownsRow B 165 1 sl (cnt q 32) (kidL q kid 32)) (hpos : 0 < cnt q 32) (hS : S b) (hSB : ∀ g, B ≤ g → S g) :
    Bmp S w (.iface 252 (.pointer (some ⟨b, 0, none⟩))) q kid := by
  rcases ho.2 with ⟨-, h9⟩ | ⟨g, cap, cur, rfl, hg, hc, hn, -, hsz, ht⟩
  · omega
  · refine ⟨b, m, g, cap, cur, rfl, hb, hm, hc, by rw [hsz, Nat.mul_one], hn, fun f hf hq => ?_, hS, hSB g hg⟩
    have h1 := kidL_at kid hf hq
    rw [← ht, Nat.mul_one, List.getElem?_take, if_pos (cnt_lt q hf hq), Array.getElem?_toList] at h1
    exact h1
theorem Bmp.kids {S : Nat → Prop} {w : World} {v : Value} {p : Nat → Bool} {kid kid' : Nat → Value} (h : Bmp S w v p kid) (hk : ∀ f, f < 32 → p f = true → kid f = kid' f) : Bmp S w v p kid' := by
  obtain ⟨b, m, nb, cap, arr, h1, h2, h3, h4, h5, h6, h7, h8⟩ := h
  exact ⟨b, m, nb, cap, arr, h1, h2, h3, h4, h5, h6, fun f hf hp => by rw [h7 f hf hp, hk f hf hp], h8⟩
end Go.Proofs.Ytpkndcmgialgcaa

namespace Go.Proofs.Ytpkndcmgialgcaa
open Go.RowKit

/-- delete at any node -/
theorem del_any {h : Int → Nat} (hlt : ∀ k, h k < 4294967296) (mo mu sh key : Int) : ∀ (r t : Nat) {S : Nat → Prop} {w : World} {v : Value} {rb : Nat} {es : List (Int × Int)}, r + t = 7 → es.length < 100000000 → Once es → Node h S w r t v es → Flag w rb false →
    ∃ (ty p fid : Nat), v = .iface ty (.pointer (some ⟨p, 0, none⟩)) ∧ Disp ty (.pointer (some ⟨p, 0, none⟩)) fid "pub-frond/pub/immutable.delete" ∧
      Calls Try.prog fid #[.pointer (some ⟨p, 0, none⟩), .int .i64 key, .int .u64 (5 * t : Nat), .int .u32 (h key : Nat), .iface 175 (av mo mu sh), .bool false, .pointer (some ⟨rb, 0, none⟩)] w
        (DelPost h S w rb r t es key v)
  | 0, t, S, w, v, rb, es, hrt, hl, ho, n, hf => leaf_del mo mu sh key 0 t _ _ hl ho n hf
  | r + 1, t, S, w, v, rb, es, hrt, hl, ho, .inl n, hf => leaf_del mo mu sh key (r + 1) t _ _ hl ho n hf
  | r + 1, t, S, w, v, rb, es, hrt, hl, ho, .inr ⟨c, kid, h1, h2, h3, h4, h5, h6⟩, hf => by
    subst h1
    have hj := frag_lt t (h key)
    have hb := frag_bits t (h key) (hlt key)
    have hhas := has_part h2 key
    have hone : ∀ f, f < 32 → pres c f = true → ∃ ty q : Nat, kid f = .iface ty (.pointer (some ⟨q, 0, none⟩)) := fun f hf hp => (h5 f hf (pres_t.1 hp)).ptr
    have hone' : ∀ f, f < 32 → pres c f = true → (kid f).oneCell' = true := fun f hf hp => by obtain ⟨ty, q, e⟩ := hone f hf hp; rw [e]; rfl
    have hnil : ∀ f, f < 32 → ¬ pres c f = true → kid f = .nilIface := fun f hf hp => h4 f hf (by simpa [pres_t] using hp)
    by_cases hc : c (frag t (h key)) = []
    · have hp : pres c (frag t (h key)) = false := pres_f.2 hc
      have hno : has (cat c) key = false := by rw [hhas, hc]; rfl
      rcases h6 with ⟨b, m, nb, cap, arr, rfl, h7, h8, h9, h10, h11, h12, h13, h14⟩ | ⟨b, arr, rfl, h7, h8, h9, h10, h11⟩
      · refine ⟨_, _, _, rfl, disp_del252 b, (bmp_del_n _ b rb (5 * t) (h key) key false (frag t (h key)) m hj (by omega) hb ?_ w (cell_at h7 rfl)).mono ?_⟩
        · rw [and_bit m _ h8.1 hj, (bm_test h8 hj).2 hp]
          rfl
        · rintro e w' ⟨rfl, rfl⟩
          exact DelPost.no hno (But.refl _ _) hf
      · refine ⟨_, _, _, rfl, disp_del256 b, (hsh_del_n _ b rb (5 * t) (h key) key false (frag t (h key)) hj (by omega) hb w (cell_at h7 (by rw [h10 _ hj, h4 _ hj hc]))).mono ?_⟩
        rintro e w' ⟨rfl, rfl⟩
        exact DelPost.no hno (But.refl _ _) hf
    · have hp : pres c (frag t (h key)) = true := pres_t.2 hc
      have hlc : (c (frag t (h key))).length < 100000000 := Nat.lt_of_le_of_lt (len_part c hj) hl
      have hoc := once_part h2 ho hj
      have hn := h5 _ hj hc
      obtain ⟨ty, p, fid, hv, hd, _⟩ := del_any hlt mo mu sh key r (t + 1) (by omega) hlc hoc hn hf
      have hcall : ∀ w', Below w.heap.size w w' → Calls Try.prog fid #[.pointer (some ⟨p, 0, none⟩), .int .i64 key, .int .u64 (5 * t + 5 : Nat), .int .u32 (h key : Nat), .iface 175 (av mo mu sh), .bool false, .pointer (some ⟨rb, 0, none⟩)] w'
          (DelPost h S w' rb r (t + 1) (c (frag t (h key))) key (.iface ty (.pointer (some ⟨p, 0, none⟩)))) := fun w' hb' => by
        obtain ⟨ty2, p2, fid2, hv2, hd2, hc2⟩ := del_any hlt mo mu sh key r (t + 1) (by omega) hlc hoc (hn.stay (Stay.of_below hb')) (hf.below hb')
        obtain ⟨rfl, rfl, rfl⟩ := disp_one hd hd2 (hv.symm.trans hv2)
        rw [← hv]
        exact hc2
      by_cases hh : has (c (frag t (h key))) key = true
      · have hyes : has (cat c) key = true := by rw [hhas, hh]
        by_cases hdn : del (c (frag t (h key))) key = []
        · -- the child goes
          have hcall' : ∀ w', Below w.heap.size w w' → Calls Try.prog fid #[.pointer (some ⟨p, 0, none⟩), .int .i64 key, .int .u64 (5 * t + 5 : Nat), .int .u32 (h key : Nat), .iface 175 (av mo mu sh), .bool false, .pointer (some ⟨rb, 0, none⟩)] w'
              fun e w2 => e = .returned .nilIface ∧ But (· = rb) w w2 ∧ Flag w2 rb true := fun w' hb' => (hcall w' hb').mono fun e w2 hp2 => by
            obtain ⟨p1, p2, p3⟩ := hp2
            rw [if_pos hh, if_pos hdn] at p3
            rw [hh] at p2
            exact ⟨p3, (But.of_below hb').trans p1, p2⟩
          have hpd := pres_delC_nil h (t := t) (c := c) hdn
          have hcp : ∀ n, cnt (pres c) n = cnt (fun f => pres c f && !decide (f = frag t (h key))) n + if frag t (h key) < n then 1 else 0 := fun n => cnt_more (by simp) hp (fun i hi => by simp [hi])
          rcases h6 with ⟨b, m, nb, cap, arr, rfl, h7, h8, h9, h10, h11, h12, h13, h14⟩ | ⟨b, arr, rfl, h7, h8, h9, h10, h11⟩
          · obtain ⟨L, hL, hcs, hkid⟩ := bmp_list h12 hone' (by rw [h10]; exact h11)
            have hne : ¬ (m &&& 2 ^ frag t (h key) = 0) := fun e => by rw [bm_test h8 hj, hp] at e; cases e
            have hz : (bits BinOp.and IntKind.u32 (m : Int) (2 ^ frag t (h key) % 4294967296) == 0) = false := by
              rw [and_bit m _ h8.1 hj]
              simp only [beq_eq_false_iff_ne, ne_eq]
              omega
            have hr : bits BinOp.and IntKind.u32 m ((2 ^ frag t (h key) - 1) % 4294967296) = ((m &&& (2 ^ frag t (h key) - 1) : Nat) : Int) := and_low2 m _ h8.1 hj
            by_cases hn1 : cnt (pres c) 32 = 1
            · have hdc : del (cat c) key = [] := by
                rw [del_delC h h2]
                refine cat_nil fun f hf => ?_
                have h20 : ¬ (fun f => pres c f && !decide (f = frag t (h key))) f = true := fun h20 => by
                  have := cnt_lt (fun f => pres c f && !decide (f = frag t (h key))) hf h20
                  have := hcp 32
                  rw [if_pos hj] at this
                  omega
                have h21 := hpd f
                rw [← pres_f, h21]
                simpa using h20
              refine ⟨_, _, _, rfl, disp_del252 b, (bmp_del_x _ b rb nb (cnt (pres c) 32) cap arr (5 * t) (h key) key false (frag t (h key)) m (cnt (pres c) (frag t (h key))) hj (by omega) hb w hz _ hr (and_lt h8.1) (bm_rank h8 hj).symm (cnt_lt _ hj hp) (cnt_le _ _) hn1 h7 h9
                (hf.other h7 (by decide)) (hf.other h9 (by decide)) p ty fid (by rw [h12 _ hj hp, hv]) hd hcall').mono ?_⟩
              rintro e w' ⟨rfl, hb2, hf2⟩
              exact DelPost.nil hyes hdc hb2 hf2
            · have hpos := cnt_lt (pres c) hj hp
              refine ⟨_, _, _, rfl, disp_del252 b, (bmp_del_y _ b rb nb (cnt (pres c) 32) cap arr (5 * t) (h key) key false (frag t (h key)) m (cnt (pres c) (frag t (h key))) hj (by omega) hb w hz _ hr (and_lt h8.1) (bm_rank h8 hj).symm (cnt_lt _ hj hp) (cnt_le _ _) L hL hcs (by omega) h11 (m ^^^ 2 ^ frag t (h key)) (xor_bit h8.1 hj) h7 h9
                (hf.other h7 (by decide)) (hf.other h9 (by decide)) p ty fid (by rw [h12 _ hj hp, hv]) hd hcall').mono ?_⟩
              rintro e w' ⟨w2, hb2, hf2, b', g, rfl, hb', hg', h15, h16, hb3⟩
              have hb4 : But (· = rb) w w' := hb2.trans (But.of_below hb3)
              obtain ⟨hl1, hk1⟩ := row_del hL hkid hj hp (q := fun i => pres c i && !decide (i = frag t (h key))) (fun i => rfl)
              have hnd : del (cat c) key ≠ [] := by
                have h20 := hcp 32
                rw [if_pos hj] at h20
                obtain ⟨f, hf, hqf⟩ := cnt_pos (p := fun f => pres c f && !decide (f = frag t (h key))) (n := 32) (by omega)
                rw [← hpd f] at hqf
                rw [del_delC h h2]
                intro e
                obtain ⟨x, hx⟩ := List.exists_mem_of_ne_nil _ (pres_t.1 hqf)
                have := mem_cat.2 ⟨f, hf, hx⟩
                rw [e] at this
                cases this
              refine DelPost.some hyes hnd hb4 (hf2.below hb3) (del_branch (v2 := .nilIface) h2 h4 h5 (hb4.stay hf) hnd (fun h9 => absurd hdn h9) (fun _ => rfl) hpd (.inl (Bmp.of_list h15 h16 (bm_xor h8 hj hp) hl1 (fun f hf hq => ?_) (.inr (Nat.le_trans hb2.size hb')) (.inr (Nat.le_trans hb2.size hg')))))
              rw [hk1 f hf hq, if_neg]
              rintro rfl
              simp at hq
          · have hall : arr.all (·.oneCell') = true := hsh_one h8 h9.1 h10 fun f hf => by
              by_cases hpf : pres c f = true
              · exact hone' f hf hpf
              · rw [hnil f hf hpf]; rfl
            have h20 := hcp 32
            rw [if_pos hj] at h20
            have hge := h9.2
            have hnd : del (cat c) key ≠ [] := by
              obtain ⟨f, hf, hqf⟩ := cnt_pos (p := fun f => pres c f && !decide (f = frag t (h key))) (n := 32) (by omega)
              rw [← hpd f] at hqf
              rw [del_delC h h2]
              intro e
              obtain ⟨x, hx⟩ := List.exists_mem_of_ne_nil _ (pres_t.1 hqf)
              have := mem_cat.2 ⟨f, hf, hx⟩
              rw [e] at this
              cases this
            by_cases hn16 : cnt (pres c) 32 ≤ 16
            · refine ⟨_, _, _, rfl, disp_del256 b, (hsh_del_b _ b rb arr (5 * t) (h key) key (frag t (h key)) hj (by omega) hb w h7 h8 kid (pres c) h10 (hf.other h7 (by decide)) p ty fid (by rw [h10 _ hj, hv]) (cnt (pres c) 32) h9.1 hn16 (by omega) (fun f hf => ?_) false hd (hcall' w (Below.refl _ w))).mono ?_⟩
              · by_cases hpf : pres c f = true
                · rw [if_pos hpf]; exact hone f hf hpf
                · rw [if_neg hpf]; exact hnil f hf hpf
              rintro e w' ⟨w2, b', m, sl, hb2, hf2, rfl, hb', h15, hm, ho', hb3⟩
              have hb4 : But (· = rb) w w' := hb2.trans (But.of_below hb3)
              have hB := Bmp.of_own (S := New S w) h15 hm ho' (by omega) (.inr (Nat.le_trans hb2.size hb')) (fun g hg => .inr (Nat.le_trans hb2.size hg))
              refine DelPost.some hyes hnd hb4 (hf2.below hb3) (del_branch (v2 := .nilIface) h2 h4 h5 (hb4.stay hf) hnd (fun h9 => absurd hdn h9) (fun _ => rfl) hpd (.inl ?_))
              refine Bmp.kids hB fun f hf hq => ?_
              show kid f = if _ then _ else _
              rw [if_neg]
              rintro rfl
              simp at hq
            · refine ⟨_, _, _, rfl, disp_del256 b, (hsh_del_x _ b rb arr (5 * t) (h key) key (frag t (h key)) hj (by omega) hb w h7 h8 hall (hf.other h7 (by decide)) p ty fid (by rw [h10 _ hj, hv]) (cnt (pres c) 32) h9.1 (by omega) (cnt_le _ _) hd (hcall' w (Below.refl _ w))).mono ?_⟩
              rintro e w' ⟨w2, hb2, hf2, rfl, rfl⟩
              have hb3 : Below w2.heap.size w2 (w2.alloc (.cells ((arr.setIfInBounds (1 + frag t (h key)) .nilIface).setIfInBounds 0 (.int .u64 ((cnt (pres c) 32 : Nat) - 1 : Int))) 259)) := (Below.refl _ _).alloc (Nat.le_refl _) _
              have hb4 := hb2.trans (But.of_below hb3)
              refine DelPost.some hyes hnd hb4 (hf2.below hb3) (del_branch (v2 := .nilIface) h2 h4 h5 (hb4.stay hf) hnd (fun h9 => absurd hdn h9) (fun _ => rfl) hpd (.inr ?_))
              refine ⟨w2.heap.size, (arr.setIfInBounds (1 + frag t (h key)) .nilIface).setIfInBounds 0 (.int .u64 ((cnt (pres c) 32 : Nat) - 1 : Int)), rfl, heap_alloc_last w2 _, by simp [h8], ⟨?_, by omega⟩, ?_, .inr hb2.size⟩
              · rw [Array.getElem?_setIfInBounds_self_of_lt (by rw [Array.size_setIfInBounds]; omega)]
                congr 2
                omega
              · intro f hf
                show _ = some (if _ then _ else _)
                rw [Array.getElem?_setIfInBounds_ne (by omega)]
                by_cases e : f = frag t (h key)
                · subst e
                  rw [if_pos rfl, Array.getElem?_setIfInBounds_self_of_lt (by omega)]
                · rw [if_neg e, Array.getElem?_setIfInBounds_ne (by omega)]
                  exact h10 f hf
        · -- the child changes
          have hcall' : ∀ w', Below w.heap.size w w' → Calls Try.prog fid #[.pointer (some ⟨p, 0, none⟩), .int .i64 key, .int .u64 (5 * t + 5 : Nat), .int .u32 (h key : Nat), .iface 175 (av mo mu sh), .bool false, .pointer (some ⟨rb, 0, none⟩)] w'
              fun e w2 => ∃ ty q, e = .returned (.iface ty (.pointer (some ⟨q, 0, none⟩))) ∧ Node h (New S w) w2 r (t + 1) (.iface ty (.pointer (some ⟨q, 0, none⟩))) (del (c (frag t (h key))) key) ∧ But (· = rb) w w2 ∧ Flag w2 rb true := fun w' hb' => (hcall w' hb').mono fun e w2 hp2 => by
            obtain ⟨p1, p2, p3⟩ := hp2
            rw [if_pos hh, if_neg hdn] at p3
            rw [hh] at p2
            obtain ⟨v', rfl, n2⟩ := p3
            obtain ⟨ty3, q, rfl⟩ := n2.ptr
            exact ⟨ty3, q, rfl, n2.inS fun b _ hb => New.of hb'.size hb, (But.of_below hb').trans p1, p2⟩
          have hpd := pres_delC h (t := t) (c := c) hdn
          have hnd : del (cat c) key ≠ [] := by
            rw [del_delC h h2]
            intro e
            obtain ⟨x, hx⟩ := List.exists_mem_of_ne_nil _ hdn
            have := mem_cat (c := delC h t c key) (e := x) |>.2 ⟨frag t (h key), hj, by unfold delC; rw [if_pos rfl]; exact hx⟩
            rw [e] at this
            cases this
          rcases h6 with ⟨b, m, nb, cap, arr, rfl, h7, h8, h9, h10, h11, h12, h13, h14⟩ | ⟨b, arr, rfl, h7, h8, h9, h10, h11⟩
          · obtain ⟨L, hL, hcs, hkid⟩ := bmp_list h12 hone' (by rw [h10]; exact h11)
            have hne : ¬ (m &&& 2 ^ frag t (h key) = 0) := fun e => by rw [bm_test h8 hj, hp] at e; cases e
            have hz : (bits BinOp.and IntKind.u32 (m : Int) (2 ^ frag t (h key) % 4294967296) == 0) = false := by
              rw [and_bit m _ h8.1 hj]
              simp only [beq_eq_false_iff_ne, ne_eq]
              omega
            have hr : bits BinOp.and IntKind.u32 m ((2 ^ frag t (h key) - 1) % 4294967296) = ((m &&& (2 ^ frag t (h key) - 1) : Nat) : Int) := and_low2 m _ h8.1 hj
            refine ⟨_, _, _, rfl, disp_del252 b, (bmp_del_k _ b rb nb (cnt (pres c) 32) cap arr (5 * t) (h key) key false (frag t (h key)) m (cnt (pres c) (frag t (h key))) hj (by omega) hb w hz _ hr (and_lt h8.1) (bm_rank h8 hj).symm (cnt_lt _ hj hp) (cnt_le _ _) L hL hcs
              (fun v2 w2 => Node h (New S w) w2 r (t + 1) v2 (del (c (frag t (h key))) key)) h7 h9 (hf.other h7 (by decide)) (hf.other h9 (by decide)) p ty fid (by rw [h12 _ hj hp, hv]) hd hcall').mono ?_⟩
            rintro e w' ⟨w2, v2, n2, hb2, hf2, b', g, rfl, hb', hg', h15, h16, hb3⟩
            have hb4 : But (· = rb) w w' := hb2.trans (But.of_below hb3)
            exact DelPost.some hyes hnd hb4 (hf2.below hb3) (del_branch h2 h4 h5 (hb4.stay hf) hnd (fun _ => n2.stay (Stay.of_below hb3)) (fun h9 => absurd h9 hdn) hpd
              (.inl (Bmp.of_list h15 h16 h8 (by rw [List.length_set, hL]) (row_set hL hkid hj hp v2) (.inr (Nat.le_trans hb2.size hb')) (.inr (Nat.le_trans hb2.size hg')))))
          · have hall : arr.all (·.oneCell') = true := hsh_one h8 h9.1 h10 fun f hf => by
              by_cases hpf : pres c f = true
              · exact hone' f hf hpf
              · rw [hnil f hf hpf]; rfl
            refine ⟨_, _, _, rfl, disp_del256 b, (hsh_del_k _ b rb arr (5 * t) (h key) key (frag t (h key)) hj (by omega) hb w h7 h8 hall (hf.other h7 (by decide)) p ty fid (by rw [h10 _ hj, hv]) hd
              (fun v2 w2 => Node h (New S w) w2 r (t + 1) v2 (del (c (frag t (h key))) key)) (hcall' w (Below.refl _ w))).mono ?_⟩
            rintro e w' ⟨w2, v2, n2, hb2, hf2, rfl, rfl⟩
            have hb3 : Below w2.heap.size w2 (w2.alloc (.cells (arr.setIfInBounds (1 + frag t (h key)) v2) 259)) := (Below.refl _ _).alloc (Nat.le_refl _) _
            have hb4 := hb2.trans (But.of_below hb3)
            refine DelPost.some hyes hnd hb4 (hf2.below hb3) (del_branch h2 h4 h5 (hb4.stay hf) hnd (fun _ => n2.stay (Stay.of_below hb3)) (fun h9 => absurd h9 hdn) hpd (.inr ?_))
            refine ⟨w2.heap.size, arr.setIfInBounds (1 + frag t (h key)) v2, rfl, heap_alloc_last w2 _, by simp [h8], ⟨?_, h9.2⟩, ?_, .inr hb2.size⟩
            · rw [Array.getElem?_setIfInBounds_ne (by omega)]; exact h9.1
            · intro f hf
              show _ = some (if _ then _ else _)
              by_cases e : f = frag t (h key)
              · subst e
                rw [if_pos rfl, Array.getElem?_setIfInBounds_self_of_lt (by omega)]
              · rw [if_neg e, Array.getElem?_setIfInBounds_ne (by omega)]
                exact h10 f hf
      · -- nothing is there
        have hh' : has (c (frag t (h key))) key = false := by simpa using hh
        have hno : has (cat c) key = false := by rw [hhas, hh']
        have hcall' : ∀ w', Below w.heap.size w w' → Calls Try.prog fid #[.pointer (some ⟨p, 0, none⟩), .int .i64 key, .int .u64 (5 * t + 5 : Nat), .int .u32 (h key : Nat), .iface 175 (av mo mu sh), .bool false, .pointer (some ⟨rb, 0, none⟩)] w'
            fun e w2 => e = .returned (.iface ty (.pointer (some ⟨p, 0, none⟩))) ∧ But (· = rb) w w2 ∧ Flag w2 rb false := fun w' hb' => (hcall w' hb').mono fun e w2 hp2 => by
          obtain ⟨p1, p2, p3⟩ := hp2
          rw [if_neg hh] at p3
          rw [hh'] at p2
          exact ⟨p3, (But.of_below hb').trans p1, p2⟩
        rcases h6 with ⟨b, m, nb, cap, arr, rfl, h7, h8, h9, h10, h11, h12, h13, h14⟩ | ⟨b, arr, rfl, h7, h8, h9, h10, h11⟩
        · have hne : ¬ (m &&& 2 ^ frag t (h key) = 0) := fun e => by rw [bm_test h8 hj, hp] at e; cases e
          have hz : (bits BinOp.and IntKind.u32 (m : Int) (2 ^ frag t (h key) % 4294967296) == 0) = false := by
            rw [and_bit m _ h8.1 hj]
            simp only [beq_eq_false_iff_ne, ne_eq]
            omega
          have hr : bits BinOp.and IntKind.u32 m ((2 ^ frag t (h key) - 1) % 4294967296) = ((m &&& (2 ^ frag t (h key) - 1) : Nat) : Int) := and_low2 m _ h8.1 hj
          refine ⟨_, _, _, rfl, disp_del252 b, (bmp_del_s _ b rb nb (cnt (pres c) 32) cap arr (5 * t) (h key) key false (frag t (h key)) m (cnt (pres c) (frag t (h key))) hj (by omega) hb w hz _ hr (and_lt h8.1) (bm_rank h8 hj).symm (cnt_lt _ hj hp) (cnt_le _ _) h7 h9
            (hf.other h7 (by decide)) (hf.other h9 (by decide)) p ty fid (by rw [h12 _ hj hp, hv]) hd hcall').mono ?_⟩
          rintro e w' ⟨rfl, hb2, hf2⟩
          exact DelPost.no hno hb2 hf2
        · refine ⟨_, _, _, rfl, disp_del256 b, (hsh_del_s _ b rb (5 * t) (h key) key false (frag t (h key)) hj (by omega) hb w p ty fid (cell_at h7 (by rw [h10 _ hj, hv])) hd (hcall' w (Below.refl _ w))).mono ?_⟩
          rintro e w' ⟨rfl, hb2, hf2⟩
          exact DelPost.no hno hb2 hf2
end Go.Proofs.Ytpkndcmgialgcaa
