/- A map's root: get, set and delete (as a copy).

A map's methods: new, clone, len, get, set and delete (as a copy). -/
import Derived.Test.YtpkndcmgialgcaaArrG
namespace Go.Proofs.Ytpkndcmgialgcaa
open Go.RowKit

/-- a root of up to eight pairs -/
def ArrN (S : Nat → Prop) (w : World) (v : Value) (es : List (Int × Int)) : Prop :=
  ∃ (b : Nat) (sl : Value), v = .iface 177 (.pointer (some ⟨b, 0, none⟩)) ∧ w.heap[b]? = some (.cells #[sl] 183 (0, 0)) ∧ Ents S w sl es ∧ 0 < es.length ∧ es.length ≤ 8 ∧ S b
def Root (h : Int → Nat) (S : Nat → Prop) (w : World) (trie : Bool) (v : Value) (es : List (Int × Int)) : Prop := if trie = true then Node h S w 7 0 v es else ArrN S w v es

section
variable {h : Int → Nat} {S S' : Nat → Prop} {w w' : World}
theorem ArrN.keeps {v : Value} {es : List (Int × Int)} (hk : Keeps S S' w w') : ArrN S w v es → ArrN S' w' v es
  | ⟨b, sl, h1, h2, h3, h4, h5, h6⟩ => ⟨b, sl, h1, (hk b _ 183 h6 h2 own183).1, h3.keeps hk, h4, h5, (hk b _ 183 h6 h2 own183).2⟩
theorem Root.keeps {t : Bool} {v : Value} {es : List (Int × Int)} (hk : Keeps S S' w w') (n : Root h S w t v es) : Root h S' w' t v es := by
  unfold Root at n ⊢
  split
  · rename_i e; rw [if_pos e] at n; exact Node.keeps hk n
  · rename_i e; rw [if_neg e] at n; exact ArrN.keeps hk n
theorem Root.stay {t : Bool} {v : Value} {es : List (Int × Int)} (hs : Stay w w') (n : Root h S w t v es) : Root h S w' t v es := n.keeps (Keeps.of_stay hs)
theorem Root.inS {t : Bool} {v : Value} {es : List (Int × Int)} (hS : ∀ b, b < w.heap.size → S b → S' b) (n : Root h S w t v es) : Root h S' w t v es :=
  n.keeps fun b _ _ h1 h2 _ => ⟨h2, hS b (lt_of_block h2) h1⟩
theorem Root.node {v : Value} {es : List (Int × Int)} (n : Node h S w 7 0 v es) : Root h S w true v es := by unfold Root; rw [if_pos rfl]; exact n
theorem Root.arr {v : Value} {es : List (Int × Int)} (n : ArrN S w v es) : Root h S w false v es := by unfold Root; rw [if_neg (by simp)]; exact n
theorem Root.ptr {t : Bool} {v : Value} {es : List (Int × Int)} (n : Root h S w t v es) : ∃ ty p : Nat, v = .iface ty (.pointer (some ⟨p, 0, none⟩)) := by
  unfold Root at n
  split at n
  · exact n.ptr
  · obtain ⟨b, sl, h1, _⟩ := n
    exact ⟨_, b, h1⟩
theorem ArrPost.root {rb : Nat} {fl : Bool} {es' : List (Int × Int)} {e : Ending} (hp : ArrPost w rb fl es' e w') (h1 : 0 < es'.length) (h8 : es'.length ≤ 8) :
    ∃ v', e = .returned v' ∧ Root h (New S w) w' false v' es' ∧ But (· = rb) w w' ∧ Flag w' rb fl := by
  obtain ⟨b', g, rfl, h3, h4, h5, h6, h7, h9⟩ := hp
  exact ⟨_, rfl, Root.arr ⟨b', _, rfl, h5, Ents.of_cells h6 (.inr h4), h1, h8, .inr h3⟩, h7, h9⟩
theorem ArrN.reads {v : Value} {es : List (Int × Int)} (n : ArrN S w v es) : ∃ b nb c, v = .iface 177 (.pointer (some ⟨b, 0, none⟩)) ∧ w.heap[b]? = some (.cells #[.slice (some ⟨nb, 0, none⟩) es.length c] 183 (0, 0)) ∧ es.length ≤ c ∧
    (∀ (i : Nat) (x : Int × Int), es[i]? = some x → w.cell? ⟨nb, i * 2, none⟩ = some (.int .i64 x.1) ∧ w.cell? ⟨nb, i * 2 + 1, none⟩ = some (.int .i64 x.2)) ∧ (∀ rb r, Flag w rb r → nb ≠ rb) := by
  obtain ⟨b, sl, h1, h2, h3, h4, h5, h6⟩ := n
  have hf : ∀ rb r, Flag w rb r → ∃ nb c, sl = .slice (some ⟨nb, 0, none⟩) es.length c ∧ es.length ≤ c ∧ nb ≠ rb := fun rb r hf => by
    obtain ⟨nb, c, arr, h7, h8, h9, h10, h11, h12⟩ := h3
    exact ⟨nb, c, h7, h10, hf.other h8 (by decide)⟩
  have hc : ∃ nb c, sl = .slice (some ⟨nb, 0, none⟩) es.length c ∧ es.length ≤ c := by
    obtain ⟨nb, c, arr, h7, h8, h9, h10, h11, h12⟩ := h3
    exact ⟨nb, c, h7, h10⟩
  obtain ⟨nb, c, rfl, hr⟩ := h3.reads
  refine ⟨b, nb, c, h1, h2, ?_, hr, fun rb r hfl => ?_⟩
  · obtain ⟨nb', c', h7, h8⟩ := hc
    simp only [Value.slice.injEq] at h7
    omega
  · obtain ⟨nb', c', h7, h8, h9⟩ := hf rb r hfl
    simp only [Value.slice.injEq, Option.some.injEq, Addr.mk.injEq, and_true, true_and] at h7
    obtain ⟨rfl, -⟩ := h7
    exact h9
end

theorem disp_get177 (p : Nat) : Disp 177 (.pointer (some ⟨p, 0, none⟩)) 169 "pub-frond/pub/immutable.get" := ⟨fun w => by kernel_rfl, fun w => by kernel_rfl, fun a w => by kernel_rfl⟩
theorem disp_set177 (p : Nat) : Disp 177 (.pointer (some ⟨p, 0, none⟩)) 171 "pub-frond/pub/immutable.set" := ⟨fun w => by kernel_rfl, fun w => by kernel_rfl, fun a w => by kernel_rfl⟩
theorem disp_del177 (p : Nat) : Disp 177 (.pointer (some ⟨p, 0, none⟩)) 168 "pub-frond/pub/immutable.delete" := ⟨fun w => by kernel_rfl, fun w => by kernel_rfl, fun a w => by kernel_rfl⟩

theorem upd_len (es : List (Int × Int)) (k v : Int) : (upd es k v).length = es.length := by unfold upd; rw [List.length_map]

section
variable {h : Int → Nat} {S : Nat → Prop} {mo mu sh : Int}
theorem root_get (hH : HashIs mo mu sh h) (key : Int) {t : Bool} {w : World} {v : Value} {es : List (Int × Int)} (hl : es.length < 90000000) (n : Root h S w t v es) :
    ∃ (ty p fid : Nat), v = .iface ty (.pointer (some ⟨p, 0, none⟩)) ∧ Disp ty (.pointer (some ⟨p, 0, none⟩)) fid "pub-frond/pub/immutable.get" ∧
      Calls Try.prog fid #[.pointer (some ⟨p, 0, none⟩), .int .i64 key, .int .u64 0, .int .u32 (h key : Nat), .iface 175 (av mo mu sh)] w (GetPost (look es key) w) := by
  unfold Root at n
  split at n
  · exact get_any hH.1 mo mu sh key 7 0 (by omega) (by omega) n
  · obtain ⟨b, nb, c, rfl, h2, h3, h4, h5⟩ := n.reads
    exact ⟨_, _, _, rfl, disp_get177 b, arr_get_w mo mu sh b nb c es key w (by omega) (cell_at h2 rfl) _ _ h4⟩

/-- what a set at a root leaves -/
def RSet (h : Int → Nat) (S : Nat → Prop) (w : World) (rb : Nat) (old : Bool) (m : MS Int Int) (key val : Int) (e : Ending) (w' : World) : Prop :=
  ∃ v', e = .returned v' ∧ Root h (New S w) w' (m.set h key val).trie v' (m.set h key val).es ∧ But (· = rb) w w' ∧ Flag w' rb (old || !has m.es key)
theorem root_set (hH : HashIs mo mu sh h) (key val : Int) (m : MS Int Int) {w : World} {v : Value} {rb : Nat} {old : Bool} (hl : m.es.length < 90000000) (ho : Once m.es) (hne : m.es ≠ []) (n : Root h S w m.trie v m.es) (hf : Flag w rb old) :
    ∃ (ty p fid : Nat), v = .iface ty (.pointer (some ⟨p, 0, none⟩)) ∧ Disp ty (.pointer (some ⟨p, 0, none⟩)) fid "pub-frond/pub/immutable.set" ∧
      Calls Try.prog fid #[.pointer (some ⟨p, 0, none⟩), .int .i64 key, .int .i64 val, .int .u64 0, .int .u32 (h key : Nat), .iface 175 (av mo mu sh), .bool false, .pointer (some ⟨rb, 0, none⟩)] w (RSet h S w rb old m key val) := by
  obtain ⟨trie, es⟩ := m
  cases trie with
  | true =>
    have n' : Node h S w 7 0 v es := by unfold Root at n; rw [if_pos rfl] at n; exact n
    obtain ⟨ty, p, fid, hv, hd, hc⟩ := set_any hH.1 mo mu sh key val 7 0 (by omega) (by show es.length < _; have : es.length < 90000000 := hl; omega) ho n' hf (fun e _ => by simp [Nat.mod_one])
    refine ⟨ty, p, fid, hv, hd, hc.mono ?_⟩
    rintro e w' ⟨v', rfl, n2, hb, hf2⟩
    have e1 : MS.set h ⟨true, es⟩ key val = ⟨true, setR h 7 0 es key val⟩ := by
      unfold MS.set
      rw [if_neg hne, if_pos rfl]
    exact ⟨v', rfl, by rw [e1]; exact Root.node n2, hb, hf2⟩
  | false =>
    have n' : ArrN S w v es := by unfold Root at n; rw [if_neg (by simp)] at n; exact n
    obtain ⟨b, nb, c, rfl, h2, h3, h4, h5⟩ := n'.reads
    obtain ⟨-, -, -, -, -, hpos, h8, -⟩ := n'
    have hnb := h5 rb old hf
    refine ⟨_, _, _, rfl, disp_set177 b, ?_⟩
    by_cases hh : has es key = true
    · obtain ⟨y, hy, hyk⟩ := has_iff.1 hh
      obtain ⟨i, hi⟩ := List.getElem?_of_mem hy
      have huniq : ∀ z j, es[j]? = some z → z.1 = key → j = i := fun z j hj hz => once_at ho hj hi (hz.trans hyk.symm)
      refine (arr_set_u mo mu sh b rb nb c es key val _ (h key : Nat) old (by have : es.length < 90000000 := hl; omega) w h2 h4 hnb hf y i hi hyk huniq).mono fun e w' hp => ?_
      rw [← upd_set hi hyk huniq] at hp
      obtain ⟨v', rfl, n2, hb, hf2⟩ := hp.root (h := h) (S := S) (by rw [upd_len]; exact hpos) (by rw [upd_len]; exact h8)
      have e1 : MS.set h ⟨false, es⟩ key val = ⟨false, upd es key val⟩ := by
        unfold MS.set
        rw [if_neg hne, if_neg (by simp), if_pos hh]
      exact ⟨v', rfl, by rw [e1]; exact n2, hb, by show Flag _ _ (_ || !has es key); rw [hh, Bool.not_true, Bool.or_false]; exact hf2⟩
    · have hno : ∀ y ∈ es, y.1 ≠ key := fun y hy e => hh (has_iff.2 ⟨y, hy, e⟩)
      have hh' : has es key = false := by simpa using hh
      by_cases hl8 : es.length < 8
      · refine (arr_set_n mo mu sh b rb nb c es key val _ (h key : Nat) old hl8 hpos w h2 h4 hnb hf hno).mono fun e w' hp => ?_
        obtain ⟨v', rfl, n2, hb, hf2⟩ := hp.root (h := h) (S := S) (by simp) (by simp; omega)
        have e1 : MS.set h ⟨false, es⟩ key val = ⟨false, es ++ [(key, val)]⟩ := by
          unfold MS.set
          rw [if_neg hne, if_neg (by simp), if_neg hh, if_pos hl8]
        exact ⟨v', rfl, by rw [e1]; exact n2, hb, by show Flag _ _ (_ || !has es key); rw [hh', Bool.not_false, Bool.or_true]; exact hf2⟩
      · refine (arr_set_g h S mo mu sh hH b rb nb c es key val _ (h key : Nat) old (by omega) (by omega) w h2 h4 hnb hf hno).mono fun e w' hp => ?_
        obtain ⟨v', rfl, n2, -, hb, hf2⟩ := hp
        have e1 : MS.set h ⟨false, es⟩ key val = ⟨true, growL h key val es⟩ := by
          unfold MS.set
          rw [if_neg hne, if_neg (by simp), if_neg hh, if_neg hl8]
          rfl
        exact ⟨v', rfl, by rw [e1]; exact Root.node n2, hb, by show Flag _ _ (_ || !has es key); rw [hh', Bool.not_false, Bool.or_true]; exact hf2⟩

/-- what a delete at a root leaves -/
def RDel (h : Int → Nat) (S : Nat → Prop) (w : World) (rb : Nat) (t : Bool) (es : List (Int × Int)) (key : Int) (v : Value) (e : Ending) (w' : World) : Prop :=
  But (· = rb) w w' ∧ Flag w' rb (has es key) ∧ (if has es key = true then (if del es key = [] then e = .returned .nilIface else ∃ v', e = .returned v' ∧ Root h (New S w) w' t v' (del es key)) else e = .returned v)
theorem root_del (hH : HashIs mo mu sh h) (key : Int) {t : Bool} {es : List (Int × Int)} {w : World} {v : Value} {rb : Nat} (hl : es.length < 90000000) (ho : Once es) (n : Root h S w t v es) (hf : Flag w rb false) :
    ∃ (ty p fid : Nat), v = .iface ty (.pointer (some ⟨p, 0, none⟩)) ∧ Disp ty (.pointer (some ⟨p, 0, none⟩)) fid "pub-frond/pub/immutable.delete" ∧
      Calls Try.prog fid #[.pointer (some ⟨p, 0, none⟩), .int .i64 key, .int .u64 0, .int .u32 (h key : Nat), .iface 175 (av mo mu sh), .bool false, .pointer (some ⟨rb, 0, none⟩)] w (RDel h S w rb t es key v) := by
  cases t with
  | true =>
    have n' : Node h S w 7 0 v es := by unfold Root at n; rw [if_pos rfl] at n; exact n
    obtain ⟨ty, p, fid, hv, hd, hc⟩ := del_any hH.1 mo mu sh key 7 0 (by omega) (by omega) ho n' hf
    refine ⟨ty, p, fid, hv, hd, hc.mono ?_⟩
    rintro e w' ⟨hb, hf2, hp⟩
    refine ⟨hb, hf2, ?_⟩
    split
    · rename_i hh
      rw [if_pos hh] at hp
      split
      · rename_i hd; rw [if_pos hd] at hp; exact hp
      · rename_i hd; rw [if_neg hd] at hp
        obtain ⟨v', he, n2⟩ := hp
        exact ⟨v', he, Root.node n2⟩
    · rename_i hh
      rw [if_neg hh] at hp; exact hp
  | false =>
    have n' : ArrN S w v es := by unfold Root at n; rw [if_neg (by simp)] at n; exact n
    obtain ⟨b, nb, c, rfl, h2, h3, h4, h5⟩ := n'.reads
    obtain ⟨-, -, -, -, -, hpos, h8, -⟩ := n'
    have hnb := h5 rb false hf
    refine ⟨_, _, _, rfl, disp_del177 b, ?_⟩
    by_cases hh : has es key = true
    · obtain ⟨y, hy, hyk⟩ := has_iff.1 hh
      obtain ⟨i, hi⟩ := List.getElem?_of_mem hy
      have hil : i < es.length := (List.getElem?_eq_some_iff.1 hi).1
      have huniq : ∀ z j, es[j]? = some z → z.1 = key → j = i := fun z j hj hz => once_at ho hj hi (hz.trans hyk.symm)
      have hda := del_at hi hyk huniq
      have hdl : (del es key).length = es.length - 1 := by rw [hda, List.length_append, List.length_take, List.length_drop]; omega
      by_cases h1 : es.length = 1
      · have hdn : del es key = [] := List.eq_nil_of_length_eq_zero (by omega)
        refine (arr_del_x mo mu sh b rb nb c es key _ _ false h1 w h2 h4 hf y hy hyk).mono ?_
        rintro e w' ⟨rfl, hb, hf2⟩
        exact ⟨hb, by rw [hh]; exact hf2, by rw [if_pos hh, if_pos hdn]⟩
      · have hdn : del es key ≠ [] := fun e => by rw [e] at hdl; simp at hdl; omega
        refine (arr_del_c mo mu sh b rb nb c es key _ _ (by omega) (by omega) h3 w h2 h4 hnb hf y i hi hyk huniq).mono fun e w' hp => ?_
        rw [← hda] at hp
        obtain ⟨v', rfl, n2, hb, hf2⟩ := hp.root (h := h) (S := S) (by omega) (by omega)
        exact ⟨hb, by rw [hh]; exact hf2, by rw [if_pos hh, if_neg hdn]; exact ⟨v', rfl, n2⟩⟩
    · have hno : ∀ y ∈ es, y.1 ≠ key := fun y hy e => hh (has_iff.2 ⟨y, hy, e⟩)
      have hh' : has es key = false := by simpa using hh
      refine (arr_del_n mo mu sh b rb nb c es key _ _ false (by omega) w h2 h4 hf hno).mono ?_
      rintro e w' ⟨rfl, hb, hf2⟩
      exact ⟨hb, by rw [hh']; exact hf2, by rw [if_neg hh]⟩
end
end Go.Proofs.Ytpkndcmgialgcaa

namespace Go.Proofs.Ytpkndcmgialgcaa
open Go.RowKit

/-- the map m lies in block b -/
def MapAt (h : Int → Nat) (mo mu sh : Int) (S : Nat → Prop) (w : World) (b : Nat) (m : MS Int Int) : Prop :=
  ∃ root : Value, w.heap[b]? = some (.cells #[.int .i64 (m.es.length : Nat), root, .iface 175 (av mo mu sh)] 167 (0, 0)) ∧ S b ∧ Once m.es ∧ (if m.es = [] then root = .nilIface else Root h S w m.trie root m.es)
def IsMap (h : Int → Nat) (mo mu sh : Int) (S : Nat → Prop) (w : World) (v : Value) (m : MS Int Int) : Prop := ∃ b, v = .pointer (some ⟨b, 0, none⟩) ∧ MapAt h mo mu sh S w b m

section
variable {h : Int → Nat} {mo mu sh : Int} {S S' : Nat → Prop} {w w' : World}
theorem MapAt.keeps {b : Nat} {m : MS Int Int} (hk : Keeps S S' w w') : MapAt h mo mu sh S w b m → MapAt h mo mu sh S' w' b m
  | ⟨root, h1, h2, h3, h4⟩ => ⟨root, (hk b _ 167 h2 h1 own167).1, (hk b _ 167 h2 h1 own167).2, h3, by
      split
      · rename_i e; rw [if_pos e] at h4; exact h4
      · rename_i e; rw [if_neg e] at h4; exact h4.keeps hk⟩
theorem IsMap.keeps {v : Value} {m : MS Int Int} (hk : Keeps S S' w w') : IsMap h mo mu sh S w v m → IsMap h mo mu sh S' w' v m
  | ⟨b, h1, h2⟩ => ⟨b, h1, h2.keeps hk⟩
theorem IsMap.stay {v : Value} {m : MS Int Int} (hs : Stay w w') (n : IsMap h mo mu sh S w v m) : IsMap h mo mu sh S w' v m := n.keeps (Keeps.of_stay hs)
theorem IsMap.inS {v : Value} {m : MS Int Int} (hS : ∀ b, b < w.heap.size → S b → S' b) (n : IsMap h mo mu sh S w v m) : IsMap h mo mu sh S' w v m :=
  n.keeps fun b _ _ h1 h2 _ => ⟨h2, hS b (lt_of_block h2) h1⟩
theorem IsMap.once {v : Value} {m : MS Int Int} (n : IsMap h mo mu sh S w v m) : Once m.es := by obtain ⟨b, h1, root, h2, h3, h4, h5⟩ := n; exact h4
end

theorem size167 : (Try.prog.info? 167).map (·.size) = some 3 := by kernel_rfl
set_option maxRecDepth 100000 in
set_option maxHeartbeats 400000 in
theorem mclone_w (b : Nat) (arr : Array Value) (w : World) (hblk : w.heap[b]? = some (.cells arr 167 (0, 0))) (hs : arr.size = 3) (hone : arr.all (·.oneCell') = true) :
    Calls Try.prog 133 #[.pointer (some ⟨b, 0, none⟩)] w fun e w' => e = .returned (.pointer (some ⟨w.heap.size, 0, none⟩)) ∧ w' = w.alloc (.cells arr 167) := by
  have hst := fun (c : Array Value) (hc : c.size = 3) => run_storeCells_new (P := Try.prog) w 167 c arr (size167.trans (by rw [hs])) (by rw [hc, hs]) hone
  go_enter Try.func133, Try.ntmps133
  go_wp2_with (first | (with_reducible refine wpList_load_row rfl 167 _ rfl b rfl 167 arr (0, 0) _ hblk Try.underlying167 rfl (size167.trans (by rw [hs])) ?_))
  go_ret
  exact ⟨rfl, rfl⟩

set_option maxRecDepth 100000 in
set_option maxHeartbeats 400000 in
theorem new_w (mo mu sh : Int) (w : World) :
    Calls Try.prog 97 #[.iface 175 (av mo mu sh)] w fun e w' => e = .returned (.pointer (some ⟨w.heap.size, 0, none⟩)) ∧ w' = w.alloc (.cells #[.int .i64 0, .nilIface, .iface 175 (av mo mu sh)] 167) := by
  go_enter Try.func97, Try.ntmps97
  go_wp2
  go_ret
  exact ⟨rfl, rfl⟩

set_option maxRecDepth 100000 in
set_option maxHeartbeats 400000 in
theorem len_w (b : Nat) (n : Int) (w : World) (hc : w.cell? ⟨b, 0, none⟩ = some (.int .i64 n)) :
    Calls Try.prog 56 #[.pointer (some ⟨b, 0, none⟩)] w fun e w' => e = .returned (.int .i64 n) ∧ w = w' := by
  go_enter Try.func56, Try.ntmps56
  go_wp2
  go_ret
  exact ⟨rfl, rfl⟩
end Go.Proofs.Ytpkndcmgialgcaa
