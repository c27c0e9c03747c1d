/- set at a node of whatever kind (as a copy). -/
import Derived.Test.YtpkndcmgialgcaaBmpG
namespace Go.Proofs.Ytpkndcmgialgcaa
open Go.RowKit

theorem cnt_surj {p : Nat → Bool} : ∀ {n k : Nat}, k < cnt p n → ∃ f, f < n ∧ p f = true ∧ cnt p f = k
  | 0, k, h => by rw [cnt_zero] at h; omega
  | n + 1, k, h => by
    rw [cnt_succ] at h
    by_cases hk : k < cnt p n
    · obtain ⟨f, h1, h2, h3⟩ := cnt_surj hk
      exact ⟨f, by omega, h2, h3⟩
    · by_cases hp : p n = true
      · exact ⟨n, by omega, hp, by rw [if_pos hp] at h; omega⟩
      · rw [if_neg hp] at h; omega
theorem cnt_inj {p : Nat → Bool} {a b : Nat} (ha : p a = true) (hb : p b = true) (h : cnt p a = cnt p b) : a = b := by
  rcases Nat.lt_trichotomy a b with h1 | h1 | h1
  · have := cnt_lt p h1 ha; omega
  · exact h1
  · have := cnt_lt p h1 hb; omega

/-- a bitmap's row as a list -/
theorem bmp_list {p : Nat → Bool} {kid : Nat → Value} {arr : Array Value} (hk : ∀ f, f < 32 → p f = true → arr[cnt p f]? = some (kid f)) (hone : ∀ f, f < 32 → p f = true → (kid f).oneCell' = true) (hcap : cnt p 32 ≤ arr.size) :
    ∃ L : List Value, L.length = cnt p 32 ∧ (∀ (k : Nat) (v : Value), L[k]? = some v → arr[k]? = some v ∧ v.oneCell' = true) ∧ (∀ f, f < 32 → p f = true → L[cnt p f]? = some (kid f)) := by
  have hlen : (arr.toList.take (cnt p 32)).length = cnt p 32 := by rw [List.length_take, Array.length_toList]; omega
  refine ⟨arr.toList.take (cnt p 32), hlen, fun k v hv => ?_, fun f hf hp => ?_⟩
  · have hkl : k < cnt p 32 := by
      rcases Nat.lt_or_ge k (cnt p 32) with h | h
      · exact h
      · rw [List.getElem?_eq_none (by omega)] at hv; cases hv
    obtain ⟨f, h1, h2, h3⟩ := cnt_surj hkl
    have h4 : arr[k]? = some v := by
      rw [List.getElem?_take, if_pos hkl, Array.getElem?_toList] at hv
      exact hv
    refine ⟨h4, ?_⟩
    have h5 := hk f h1 h2
    rw [h3, h4] at h5
    cases h5
    exact hone f h1 h2
  · rw [List.getElem?_take, if_pos (cnt_lt p hf hp), Array.getElem?_toList]
    exact hk f hf hp

section
variable {S : Nat → Prop} {w : World}
theorem Bmp.of_list {m b g : Nat} {p : Nat → Bool} {kid : Nat → Value} {L : List Value} (hb : w.heap[b]? = some (.cells #[.int .u32 m, .slice (some ⟨g, 0, none⟩) L.length L.length] 255 (0, 0))) (hg : w.heap[g]? = some (.cells L.toArray 165 (0, 0)))
    (hm : Bm m p) (hl : L.length = cnt p 32) (hk : ∀ f, f < 32 → p f = true → L[cnt p f]? = some (kid f)) (hSb : S b) (hSg : S g) : Bmp S w (.iface 252 (.pointer (some ⟨b, 0, none⟩))) p kid :=
  ⟨b, m, g, L.length, L.toArray, rfl, by rw [← hl]; exact hb, hm, hg, by simp, by omega, fun f hf hp => by rw [List.getElem?_toArray]; exact hk f hf hp, hSb, hSg⟩
end

theorem row_set {p : Nat → Bool} {kid : Nat → Value} {L : List Value} {j : Nat} (hl : L.length = cnt p 32) (hk : ∀ f, f < 32 → p f = true → L[cnt p f]? = some (kid f)) (hj : j < 32) (hp : p j = true) (v : Value) :
    ∀ f, f < 32 → p f = true → (L.set (cnt p j) v)[cnt p f]? = some (if f = j then v else kid f) := fun f hf hpf => by
  by_cases e : f = j
  · subst e
    rw [List.getElem?_set_self (by rw [hl]; exact cnt_lt p hf hp), if_pos rfl]
  · rw [List.getElem?_set_ne (fun h => e (cnt_inj hp hpf h).symm), if_neg e]
    exact hk f hf hpf
theorem row_ins {p q : Nat → Bool} {kid : Nat → Value} {L : List Value} {j : Nat} (hl : L.length = cnt p 32) (hk : ∀ f, f < 32 → p f = true → L[cnt p f]? = some (kid f)) (hj : j < 32) (hp : p j = false) (hq : ∀ i, q i = (p i || decide (i = j))) (v : Value) :
    (L.take (cnt p j) ++ v :: L.drop (cnt p j)).length = cnt q 32 ∧ ∀ f, f < 32 → q f = true → (L.take (cnt p j) ++ v :: L.drop (cnt p j))[cnt q f]? = some (if f = j then v else kid f) := by
  have hqj : q j = true := by rw [hq]; simp
  have hcq : ∀ n, cnt q n = cnt p n + if j < n then 1 else 0 := fun n => cnt_more hp hqj (fun i hi => by rw [hq]; simp [hi])
  have hm := cnt_mono p (show j ≤ 32 by omega)
  have htl : (L.take (cnt p j)).length = cnt p j := by rw [List.length_take]; omega
  refine ⟨?_, fun f hf hqf => ?_⟩
  · rw [List.length_append, List.length_cons, htl, List.length_drop, hcq, if_pos hj]; omega
  · rw [hcq]
    rcases Nat.lt_trichotomy f j with h1 | h1 | h1
    · have hpf : p f = true := by rw [hq] at hqf; simpa [show ¬ f = j by omega] using hqf
      have h2 := cnt_lt p h1 hpf
      rw [if_neg (by omega), if_neg (by omega), List.getElem?_append_left (by rw [htl]; omega), List.getElem?_take, if_pos (by omega)]
      exact hk f hf hpf
    · subst h1
      rw [if_neg (by omega), if_pos rfl, List.getElem?_append_right (by rw [htl]; omega), htl, Nat.add_zero, Nat.sub_self]
      rfl
    · have hpf : p f = true := by rw [hq] at hqf; simpa [show ¬ f = j by omega] using hqf
      have h2 := cnt_mono p (show j ≤ f by omega)
      rw [if_pos h1, if_neg (by omega), List.getElem?_append_right (by rw [htl]; omega), htl, show cnt p f + 1 - cnt p j = (cnt p f - cnt p j) + 1 by omega, List.getElem?_cons_succ, List.getElem?_drop, show cnt p j + (cnt p f - cnt p j) = cnt p f by omega]
      exact hk f hf hpf

section
variable {h : Int → Nat} {S : Nat → Prop} {w w' : World}
/-- a branch whose child at the key's place is new -/
theorem set_branch {r t : Nat} {c : Nat → List (Int × Int)} {kid : Nat → Value} {key val : Int} {v v2 : Value} (hs : Sorts h t c) (h4 : ∀ f, f < 32 → c f = [] → kid f = .nilIface) (h5 : ∀ f, f < 32 → c f ≠ [] → Node h S w r (t + 1) (kid f) (c f))
    (hst : Stay w w') (n2 : Node h (New S w) w' r (t + 1) v2 (setR h r (t + 1) (c (frag t (h key))) key val))
    (hB : Bmp (New S w) w' v (fun f => pres c f || decide (f = frag t (h key))) (fun f => if f = frag t (h key) then v2 else kid f) ∨ Hsh (New S w) w' v (fun f => pres c f || decide (f = frag t (h key))) (fun f => if f = frag t (h key) then v2 else kid f)) :
    Node h (New S w) w' (r + 1) t v (setR h (r + 1) t (cat c) key val) := by
  have hp : pres (setC h r t c key val) = fun f => pres c f || decide (f = frag t (h key)) := funext fun f => pres_setC h key val f
  rw [setR_setC h hs]
  refine .inr ⟨_, fun f => if f = frag t (h key) then v2 else kid f, rfl, sorts_setC h hs key val, ?_, ?_, ?_, by rw [hp]; exact hB⟩
  · rw [← setR_setC h hs]; exact setR_ne h _ _ _ _ _
  · intro f hf hc
    have h1 := congrFun hp f
    rw [pres_f.2 hc] at h1
    have e : ¬ f = frag t (h key) := fun e => by rw [decide_eq_true e] at h1; simp at h1
    show (if _ then _ else _) = _
    rw [if_neg e]
    unfold setC at hc
    rw [if_neg e] at hc
    exact h4 f hf hc
  · intro f hf hc
    unfold setC at hc ⊢
    by_cases e : f = frag t (h key)
    · subst e
      show Node _ _ _ _ _ (if _ then _ else _) _
      rw [if_pos rfl, if_pos rfl]
      exact n2
    · rw [if_neg e] at hc
      show Node _ _ _ _ _ (if _ then _ else _) _
      rw [if_neg e, if_neg e]
      exact (Node.stay hst (h5 f hf hc)).inS fun b _ hb => .inl hb
end
theorem has_part {h : Int → Nat} {t : Nat} {c : Nat → List (Int × Int)} (hs : Sorts h t c) (key : Int) : has (cat c) key = has (c (frag t (h key))) key := has_cat h hs key
theorem once_part {h : Int → Nat} {t : Nat} {c : Nat → List (Int × Int)} (hs : Sorts h t c) (ho : Once (cat c)) {f : Nat} (hf : f < 32) : Once (c f) := by
  rw [← part_cat h hs hf]
  exact List.Nodup.sublist (List.Sublist.map _ List.filter_sublist) ho
theorem mod_part {h : Int → Nat} {t : Nat} {c : Nat → List (Int × Int)} {key : Int} (hs : Sorts h t c) (ha : ∀ e ∈ cat c, h e.1 % 32 ^ t = h key % 32 ^ t) : ∀ e ∈ c (frag t (h key)), h e.1 % 32 ^ (t + 1) = h key % 32 ^ (t + 1) := fun e he =>
  frag_eq_of (ha e (mem_cat.2 ⟨_, frag_lt _ _, he⟩)) (hs _ (frag_lt _ _) e he)
theorem and_low2 (m f : Nat) (hm : m < 4294967296) (hf : f < 32) : bits BinOp.and IntKind.u32 m ((2 ^ f - 1) % 4294967296) = ((m &&& (2 ^ f - 1) : Nat) : Int) := by
  have h := and_low m f hm hf
  rw [pow_mod hf] at h
  have e : (2 : Int) ^ f = ((2 ^ f : Nat) : Int) := by simp
  rw [e]
  exact h
theorem or_bit {m f : Nat} (hm : m < 4294967296) (hf : f < 32) : bits BinOp.or IntKind.u32 m (2 ^ f % 4294967296) = ((m ||| 2 ^ f : Nat) : Int) := by
  rw [pow_mod hf, or_u32 _ _ hm (pow_lt hf)]
theorem bm_or_same {m f : Nat} {p : Nat → Bool} (h : Bm m p) (hf : f < 32) (hp : p f = true) : m ||| 2 ^ f = m := by
  apply Nat.eq_of_testBit_eq
  intro i
  rw [Nat.testBit_or, Nat.testBit_two_pow]
  by_cases e : f = i
  · subst e; rw [h.2 f hf, hp]; rfl
  · simp [e]
theorem disp_one {ty p fid ty2 p2 fid2 : Nat} {name : String} (hd : Disp ty (.pointer (some ⟨p, 0, none⟩)) fid name) (hd2 : Disp ty2 (.pointer (some ⟨p2, 0, none⟩)) fid2 name)
    (hv : Value.iface ty (.pointer (some ⟨p, 0, none⟩)) = .iface ty2 (.pointer (some ⟨p2, 0, none⟩))) : ty = ty2 ∧ p = p2 ∧ fid = fid2 := by
  simp only [Value.iface.injEq, Value.pointer.injEq, Option.some.injEq, Addr.mk.injEq, and_true] at hv
  obtain ⟨rfl, rfl⟩ := hv
  have e := (hd.2.1 default).symm.trans (hd2.2.1 default)
  simp only [Result.ok.injEq, Prod.mk.injEq, and_true] at e
  exact ⟨rfl, rfl, e⟩
theorem all_one {arr : Array Value} (h : ∀ (i : Nat) (v : Value), arr[i]? = some v → v.oneCell' = true) : arr.all (·.oneCell') = true := by
  rw [Array.all_eq_true]
  intro i hi
  exact h i _ (Array.getElem?_eq_getElem hi)

/-- the 32 places with their number ahead: all are one cell -/
theorem hsh_one {arr : Array Value} {n : Nat} {kid : Nat → Value} (hs : arr.size = 33) (h0 : arr[0]? = some (.int .u64 (n : Nat))) (hk : ∀ f, f < 32 → arr[1 + f]? = some (kid f)) (ho : ∀ f, f < 32 → (kid f).oneCell' = true) : arr.all (·.oneCell') = true := by
  refine all_one fun i v hv => ?_
  rcases i with _ | i
  · rw [h0] at hv; cases hv; rfl
  · have hi : i < 32 := by
      rcases Nat.lt_or_ge i 32 with h | h
      · exact h
      · rw [Array.getElem?_eq_none (by omega)] at hv; cases hv
    rw [Nat.add_comm, hk i hi] at hv
    cases hv
    exact ho i hi
theorem hsh_of_row {S : Nat → Prop} {w : World} {p q : Nat → Bool} {kid kid' : Nat → Value} {b j n : Nat} {v : Value} (hb : w.heap[b]? = some (.cells (((hrow p kid 32).set (1 + j) v).set 0 (.int .u64 (n + 1 : Nat))).toArray 259 (0, 0))) (hq : cnt q 32 = n + 1) (hn : 16 ≤ n + 1)
    (hk : ∀ f, f < 32 → (f = j ∧ kid' f = v) ∨ (f ≠ j ∧ (if decide (f < 32) && p f then kid f else .nilIface) = kid' f)) (hS : S b) : Hsh S w (.iface 256 (.pointer (some ⟨b, 0, none⟩))) q kid' := by
  refine ⟨b, _, rfl, hb, ?_, ⟨?_, by rw [hq]; exact hn⟩, fun f hf => ?_, hS⟩
  · rw [List.size_toArray, List.length_set, List.length_set, hrow_len]
  · rw [List.getElem?_toArray, List.getElem?_set_self (by rw [List.length_set, hrow_len]; omega), hq]
  · rw [List.getElem?_toArray, List.getElem?_set_ne (by omega)]
    rcases hk f hf with ⟨rfl, e⟩ | ⟨hne, e⟩
    · rw [List.getElem?_set_self (by rw [hrow_len]; omega), e]
    · rw [List.getElem?_set_ne (by omega), hrow_at _ _ _ hf, e]

/-- set at any node -/
theorem set_any {h : Int → Nat} (hlt : ∀ k, h k < 4294967296) (mo mu sh key val : Int) : ∀ (r t : Nat) {S : Nat → Prop} {w : World} {v : Value} {rb : Nat} {es : List (Int × Int)} {old : Bool}, r + t = 7 → es.length < 100000000 → Once es → Node h S w r t v es → Flag w rb old → (∀ e ∈ es, h e.1 % 32 ^ t = h key % 32 ^ t) →
    ∃ (ty p fid : Nat), v = .iface ty (.pointer (some ⟨p, 0, none⟩)) ∧ Disp ty (.pointer (some ⟨p, 0, none⟩)) fid "pub-frond/pub/immutable.set" ∧
      Calls Try.prog fid #[.pointer (some ⟨p, 0, none⟩), .int .i64 key, .int .i64 val, .int .u64 (5 * t : Nat), .int .u32 (h key : Nat), .iface 175 (av mo mu sh), .bool false, .pointer (some ⟨rb, 0, none⟩)] w
        (SetPost h S w rb old r t es key val)
  | 0, t, S, w, v, rb, es, old, hrt, hl, ho, n, hf, ha => leaf_set hlt mo mu sh key val 0 t hrt hl ho n hf ha
  | r + 1, t, S, w, v, rb, es, old, hrt, hl, ho, .inl n, hf, ha => leaf_set hlt mo mu sh key val (r + 1) t hrt hl ho n hf ha
  | r + 1, t, S, w, v, rb, es, old, hrt, hl, ho, .inr ⟨c, kid, h1, h2, h3, h4, h5, h6⟩, hf, ha => by
    subst h1
    have hj := frag_lt t (h key)
    have hb := frag_bits t (h key) (hlt key)
    have hhas := has_part h2 key
    have hone : ∀ f, f < 32 → pres c f = true → ∃ ty q : Nat, kid f = .iface ty (.pointer (some ⟨q, 0, none⟩)) := fun f hf hp => (h5 f hf (pres_t.1 hp)).ptr
    have hone' : ∀ f, f < 32 → pres c f = true → (kid f).oneCell' = true := fun f hf hp => by obtain ⟨ty, q, e⟩ := hone f hf hp; rw [e]; rfl
    by_cases hc : c (frag t (h key)) = []
    · have hp : pres c (frag t (h key)) = false := pres_f.2 hc
      have hno : has (cat c) key = false := by rw [hhas, hc]; rfl
      have hset : setR h r (t + 1) (c (frag t (h key))) key val = [(key, val)] := by rw [hc]; exact setR_nil h _ _ _ _
      have hleaf : ∀ {w' : World} {q : Nat}, w.heap.size ≤ q → w'.heap[q]? = some (.cells #[.int .u32 (h key : Nat), .int .i64 key, .int .i64 val] 186 (0, 0)) →
          Node h (New S w) w' r (t + 1) (.iface 184 (.pointer (some ⟨q, 0, none⟩))) (setR h r (t + 1) (c (frag t (h key))) key val) := fun hq hv => by
        rw [hset]
        exact Leaf.node (.inl ⟨_, key, val, rfl, hv, rfl, .inr hq⟩)
      rcases h6 with ⟨b, m, nb, cap, arr, rfl, h7, h8, h9, h10, h11, h12, h13, h14⟩ | ⟨b, arr, rfl, h7, h8, h9, h10, h11⟩
      · obtain ⟨L, hL, hcs, hkid⟩ := bmp_list h12 hone' (by rw [h10]; exact h11)
        have hz : (bits BinOp.and IntKind.u32 (m : Int) (2 ^ frag t (h key) % 4294967296) != 0) = false := by
          rw [and_bit m _ h8.1 hj, (bm_test h8 hj).2 hp]
          rfl
        have hr : bits BinOp.and IntKind.u32 m ((2 ^ frag t (h key) - 1) % 4294967296) = ((m &&& (2 ^ frag t (h key) - 1) : Nat) : Int) := and_low2 m _ h8.1 hj
        have hin : cnt (pres c) (frag t (h key)) ≤ cnt (pres c) 32 := cnt_mono _ (by omega)
        by_cases hn : cnt (pres c) 32 ≤ 16
        · refine ⟨_, _, _, rfl, disp_set252 b, (bmp_set_n _ b rb nb (cnt (pres c) 32) cap arr (5 * t) (h key) key val (frag t (h key)) m _ (cnt (pres c) (frag t (h key))) hj (by omega) hb w hz (or_bit h8.1 hj) _ hr (and_lt h8.1) (bm_rank h8 hj).symm hin hn h11 h7 h9 L hL hcs old hf).mono ?_⟩
          rintro e w' ⟨w2, q, hb2, hf2, hq, hv2, b', g, rfl, hb', hg', h15, h16, hb3⟩
          obtain ⟨hl1, hk1⟩ := row_ins hL hkid hj hp (fun i => rfl) (.iface 184 (.pointer (some ⟨q, 0, none⟩)))
          have hb4 : But (· = rb) w w' := hb2.trans (But.of_below hb3)
          refine ⟨_, rfl, set_branch h2 h4 h5 (hb4.stay hf) (hleaf hq ((hb3.block _ (lt_of_block hv2)).trans hv2)) (.inl ?_), hb4, ?_⟩
          · exact Bmp.of_list h15 h16 (bm_or h8 hj) hl1 hk1 (.inr (Nat.le_trans hb2.size hb')) (.inr (Nat.le_trans hb2.size hg'))
          · rw [hno, Bool.not_false, Bool.or_true]; exact hf2.below hb3
        · have hn32 := cnt_le (pres c) 32
          refine ⟨_, _, _, rfl, disp_set252 b, (bmp_set_g _ b rb nb (cnt (pres c) 32) cap arr (5 * t) (h key) key val (frag t (h key)) m (cnt (pres c) (frag t (h key))) hj (by omega) hb w hz _ hr (and_lt h8.1) (bm_rank h8 hj).symm hin ⟨by omega, hn32⟩ h11 h7 h9 L hL hcs old hf (pres c) kid h8 rfl hkid hone).mono ?_⟩
          rintro e w' ⟨w2, q, hb2, hf2, hq, hv2, hb3, b', rfl, hb', h15⟩
          have hb4 : But (· = rb) w w' := hb2.trans (But.of_below hb3)
          refine ⟨_, rfl, set_branch h2 h4 h5 (hb4.stay hf) (hleaf hq ((hb3.block _ (lt_of_block hv2)).trans hv2)) (.inr ?_), hb4, ?_⟩
          · refine hsh_of_row h15 ?_ ?_ ?_ (.inr (Nat.le_trans hb2.size hb'))
            · rw [cnt_more (p := pres c) (f := frag t (h key)) hp (by simp) (fun i hi => by simp [hi]), if_pos hj]
            · omega
            · intro f hf
              by_cases e : f = frag t (h key)
              · exact .inl ⟨e, by rw [if_pos e]⟩
              · refine .inr ⟨e, ?_⟩
                rw [if_neg e]
                by_cases hpf : pres c f = true
                · rw [decide_eq_true hf, hpf]; rfl
                · rw [h4 f hf (by simpa [pres_t] using hpf)]
                  simp
          · rw [hno, Bool.not_false, Bool.or_true]; exact hf2.below hb3
      · have hn32 := cnt_le (pres c) 32
        have hall : arr.all (·.oneCell') = true := hsh_one h8 h9.1 h10 fun f hf => by
          by_cases hpf : pres c f = true
          · exact hone' f hf hpf
          · rw [h4 f hf (by simpa [pres_t] using hpf)]; rfl
        refine ⟨_, _, _, rfl, disp_set256 b, (hsh_set_n _ b rb arr (5 * t) (h key) key val (frag t (h key)) hj (by omega) hb (cnt (pres c) 32) hn32 old w h7 h8 hall hf (by rw [h10 _ hj, h4 _ hj hc]) h9.1).mono ?_⟩
        rintro e w' ⟨w1, hb2, hf2, rfl, rfl⟩
        have hb3 : Below w1.heap.size w1 ((w1.alloc (.cells #[.int .u32 (h key : Nat), .int .i64 key, .int .i64 val] 186)).alloc (.cells ((arr.setIfInBounds 0 (.int .u64 ((cnt (pres c) 32 : Nat) + 1 : Int))).setIfInBounds (1 + frag t (h key)) (.iface 184 (.pointer (some ⟨w1.heap.size, 0, none⟩)))) 259)) :=
          ((Below.refl _ _).alloc (Nat.le_refl _) _).alloc (by rw [size_alloc]; omega) _
        have hb4 := hb2.trans (But.of_below hb3)
        have hcq : cnt (fun i => pres c i || decide (i = frag t (h key))) 32 = cnt (pres c) 32 + 1 := by
          rw [cnt_more (p := pres c) (q := fun i => pres c i || decide (i = frag t (h key))) (f := frag t (h key)) hp (by simp) (fun i hi => by simp [hi]), if_pos hj]
        refine ⟨_, rfl, set_branch h2 h4 h5 (hb4.stay hf) (hleaf hb2.size (at_alloc (heap_alloc_last w1 _))) (.inr ?_), hb4, ?_⟩
        · refine ⟨w1.heap.size + 1, (arr.setIfInBounds 0 (.int .u64 ((cnt (pres c) 32 : Nat) + 1 : Int))).setIfInBounds (1 + frag t (h key)) (.iface 184 (.pointer (some ⟨w1.heap.size, 0, none⟩))), rfl, ?_, ?_, ⟨?_, ?_⟩, ?_, .inr (Nat.le_trans hb2.size (by omega))⟩
          · have h15 := heap_alloc_last (w1.alloc (.cells #[.int .u32 (h key : Nat), .int .i64 key, .int .i64 val] 186)) (.cells ((arr.setIfInBounds 0 (.int .u64 ((cnt (pres c) 32 : Nat) + 1 : Int))).setIfInBounds (1 + frag t (h key)) (.iface 184 (.pointer (some ⟨w1.heap.size, 0, none⟩)))) 259)
            rw [size_alloc] at h15
            exact h15
          · simp [h8]
          · rw [hcq, Array.getElem?_setIfInBounds_ne (by omega), Array.getElem?_setIfInBounds_self_of_lt (by omega)]
            rfl
          · rw [hcq]
            have := h9.2
            omega
          · intro f hf
            show _ = some (if _ then _ else _)
            by_cases e : f = frag t (h key)
            · subst e
              rw [if_pos rfl, Array.getElem?_setIfInBounds_self_of_lt (by rw [Array.size_setIfInBounds]; omega)]
            · rw [if_neg e, Array.getElem?_setIfInBounds_ne (by omega), Array.getElem?_setIfInBounds_ne (by omega)]
              exact h10 f hf
        · rw [hno, Bool.not_false, Bool.or_true]; exact hf2.below hb3
    · have hp : pres c (frag t (h key)) = true := pres_t.2 hc
      have hlc : (c (frag t (h key))).length < 100000000 := Nat.lt_of_le_of_lt (len_part c hj) hl
      have hoc := once_part h2 ho hj
      have hac := mod_part h2 ha
      have hn := h5 _ hj hc
      have hpq : ∀ i, (pres c i || decide (i = frag t (h key))) = pres c i := fun i => by
        by_cases e : i = frag t (h key)
        · subst e; rw [hp]; rfl
        · simp [e]
      have hpq' : (fun i => pres c i || decide (i = frag t (h key))) = pres c := funext hpq
      obtain ⟨ty, p, fid, hv, hd, _⟩ := set_any hlt mo mu sh key val r (t + 1) (by omega) hlc hoc hn hf hac
      have hcall : ∀ w', Below w.heap.size w w' → Calls Try.prog fid #[.pointer (some ⟨p, 0, none⟩), .int .i64 key, .int .i64 val, .int .u64 (5 * t + 5 : Nat), .int .u32 (h key : Nat), .iface 175 (av mo mu sh), .bool false, .pointer (some ⟨rb, 0, none⟩)] w'
          fun e w2 => ∃ ty q, e = .returned (.iface ty (.pointer (some ⟨q, 0, none⟩))) ∧ (Node h (New S w) w2 r (t + 1) (.iface ty (.pointer (some ⟨q, 0, none⟩))) (setR h r (t + 1) (c (frag t (h key))) key val) ∧ Flag w2 rb (old || !has (cat c) key)) ∧ But (· = rb) w w2 := fun w' hb' => by
        obtain ⟨ty2, p2, fid2, hv2, hd2, hc2⟩ := set_any hlt mo mu sh key val r (t + 1) (by omega) hlc hoc (hn.stay (Stay.of_below hb')) (hf.below hb') hac
        obtain ⟨rfl, rfl, rfl⟩ := disp_one hd hd2 (hv.symm.trans hv2)
        refine hc2.mono ?_
        rintro e w2 ⟨v2, rfl, n2, hb2, hf2⟩
        obtain ⟨ty3, q, rfl⟩ := n2.ptr
        exact ⟨ty3, q, rfl, ⟨n2.inS fun b _ hb => New.of hb'.size hb, by rw [hhas]; exact hf2⟩, (But.of_below hb').trans hb2⟩
      rcases h6 with ⟨b, m, nb, cap, arr, rfl, h7, h8, h9, h10, h11, h12, h13, h14⟩ | ⟨b, arr, rfl, h7, h8, h9, h10, h11⟩
      · obtain ⟨L, hL, hcs, hkid⟩ := bmp_list h12 hone' (by rw [h10]; exact h11)
        have hne : ¬ (m &&& 2 ^ frag t (h key) = 0) := fun e => by rw [bm_test h8 hj, hp] at e; cases e
        have hz : (bits BinOp.and IntKind.u32 (m : Int) (2 ^ frag t (h key) % 4294967296) != 0) = true := by
          rw [and_bit m _ h8.1 hj]
          simp only [bne_iff_ne, ne_eq]
          omega
        have hr : bits BinOp.and IntKind.u32 m ((2 ^ frag t (h key) - 1) % 4294967296) = ((m &&& (2 ^ frag t (h key) - 1) : Nat) : Int) := and_low2 m _ h8.1 hj
        refine ⟨_, _, _, rfl, disp_set252 b, (bmp_set_k _ b rb nb (cnt (pres c) 32) cap arr (5 * t) (h key) key val (frag t (h key)) m (cnt (pres c) (frag t (h key))) hj (by omega) hb w hz (by rw [or_bit h8.1 hj, bm_or_same h8 hj hp]) _ hr (and_lt h8.1) (bm_rank h8 hj).symm (cnt_lt _ hj hp) (cnt_le _ _) h7 h9 L hL hcs
          (hf.other h7 (by decide)) (hf.other h9 (by decide)) p ty fid (by rw [h12 _ hj hp, hv]) hd (fun v2 w2 => Node h (New S w) w2 r (t + 1) v2 (setR h r (t + 1) (c (frag t (h key))) key val) ∧ Flag w2 rb (old || !has (cat c) key)) hcall).mono ?_⟩
        rintro e w' ⟨w2, v2, ⟨n2, hf2⟩, hb2, b', g, rfl, hb', hg', h15, h16, hb3⟩
        have hb4 : But (· = rb) w w' := hb2.trans (But.of_below hb3)
        refine ⟨_, rfl, set_branch h2 h4 h5 (hb4.stay hf) (n2.stay (Stay.of_below hb3)) (.inl ?_), hb4, hf2.below hb3⟩
        rw [hpq']
        exact Bmp.of_list h15 h16 h8 (by rw [List.length_set, hL]) (row_set hL hkid hj hp v2) (.inr (Nat.le_trans hb2.size hb')) (.inr (Nat.le_trans hb2.size hg'))
      · have hall : arr.all (·.oneCell') = true := hsh_one h8 h9.1 h10 fun f hf => by
          by_cases hpf : pres c f = true
          · exact hone' f hf hpf
          · rw [h4 f hf (by simpa [pres_t] using hpf)]; rfl
        refine ⟨_, _, _, rfl, disp_set256 b, (hsh_set_k _ b rb arr (5 * t) (h key) key val (frag t (h key)) hj (by omega) hb w h7 h8 hall (hf.other h7 (by decide)) p ty fid (by rw [h10 _ hj, hv]) hd
          (fun v2 w2 => Node h (New S w) w2 r (t + 1) v2 (setR h r (t + 1) (c (frag t (h key))) key val) ∧ Flag w2 rb (old || !has (cat c) key)) (hcall w (Below.refl _ w))).mono ?_⟩
        rintro e w' ⟨w1, v2, ⟨n2, hf2⟩, hb2, rfl, rfl⟩
        have hb3 : Below w1.heap.size w1 (w1.alloc (.cells (arr.setIfInBounds (1 + frag t (h key)) v2) 259)) := (Below.refl _ _).alloc (Nat.le_refl _) _
        have hb4 := hb2.trans (But.of_below hb3)
        refine ⟨_, rfl, set_branch h2 h4 h5 (hb4.stay hf) (n2.stay (Stay.of_below hb3)) (.inr ?_), hb4, hf2.below hb3⟩
        rw [hpq']
        refine ⟨w1.heap.size, arr.setIfInBounds (1 + frag t (h key)) v2, rfl, heap_alloc_last w1 _, by simp [h8], ⟨?_, h9.2⟩, ?_, .inr hb2.size⟩
        · rw [Array.getElem?_setIfInBounds_ne (by omega)]; exact h9.1
        · intro f hf
          show _ = some (if _ then _ else _)
          by_cases e : f = frag t (h key)
          · subst e
            rw [if_pos rfl, Array.getElem?_setIfInBounds_self_of_lt (by omega)]
          · rw [if_neg e, Array.getElem?_setIfInBounds_ne (by omega)]
            exact h10 f hf
end Go.Proofs.Ytpkndcmgialgcaa
