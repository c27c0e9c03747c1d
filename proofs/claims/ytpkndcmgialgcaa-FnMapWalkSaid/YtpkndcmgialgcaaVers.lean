/- Steps over maps: what they are, and which go out from a version that exists.

Versions of maps, made by steps. -/
import Derived.Test.YtpkndcmgialgcaaItrC
namespace Go.Proofs.Ytpkndcmgialgcaa
open Go.RowKit

/-- a step -/
structure Stp where
  k : Nat
  F : Int
  K : Int
  V : Int
  C : Int
def Stp.cells (s : Stp) : List Value := [.int .u8 (s.k : Int), .int .i64 s.F, .int .i64 s.K, .int .i64 s.V, .int .i64 s.C]
def Stp.ok (s : Stp) (n : Nat) : Bool := decide (0 ≤ s.F) && (decide (s.F < n) && (decide (s.k ≤ 3) && (decide (s.k < 2) || (decide (0 ≤ s.C) && decide (s.C ≤ 100000)))))
/-- the i-th key of many -/
def Stp.key (s : Stp) (i : Nat) : Int := wrap64 (s.K + wrap64 ((i : Int) * s.V))

section
variable (h : Int → Nat)
def mkMany (s : Stp) (m : MS Int Int) (n : Nat) : MS Int Int := (List.range n).foldl (fun m i => m.set h (s.key i) (i : Int)) m
def mkLess (s : Stp) (m : MS Int Int) (n : Nat) : MS Int Int := (List.range n).foldl (fun m i => m.del (s.key i)) m
/-- what a step makes of a map -/
def Stp.act (s : Stp) (m : MS Int Int) : MS Int Int :=
  match s.k with
  | 0 => m.set h s.K s.V
  | 1 => m.del s.K
  | 2 => mkMany h s m s.C.toNat
  | _ => mkLess s m s.C.toNat
def MS.empty : MS Int Int := ⟨false, []⟩
def Stp.make (s : Stp) (vs : List (MS Int Int)) : MS Int Int := if s.ok vs.length then s.act h (vs.getD s.F.toNat MS.empty) else MS.empty
def versM (steps : List Stp) (vs : List (MS Int Int)) : List (MS Int Int) := steps.foldl (fun vs s => vs ++ [s.make h vs]) vs
theorem versM_snoc (l : List Stp) (s : Stp) (vs : List (MS Int Int)) : versM h (l ++ [s]) vs = versM h l vs ++ [s.make h (versM h l vs)] := by unfold versM; rw [List.foldl_append]; rfl
theorem versM_len : ∀ (l : List Stp) (vs : List (MS Int Int)), (versM h l vs).length = l.length + vs.length
  | [], vs => by simp [versM]
  | s :: l, vs => by
    show (versM h l (vs ++ [s.make h vs])).length = _
    rw [versM_len l]
    simp
    omega
theorem mkMany_succ (s : Stp) (m : MS Int Int) (n : Nat) : mkMany h s m (n + 1) = (mkMany h s m n).set h (s.key n) (n : Int) := by unfold mkMany; rw [List.range_succ, List.foldl_append]; rfl
theorem mkLess_succ (s : Stp) (m : MS Int Int) (n : Nat) : mkLess s m (n + 1) = (mkLess s m n).del (s.key n) := by unfold mkLess; rw [List.range_succ, List.foldl_append]; rfl
end

section
variable {h : Int → Nat}
theorem set_once {m : MS Int Int} (ho : Once m.es) (k v : Int) : Once (m.set h k v).es := (MS.set_is h m ho k v).once ho
theorem set_len {m : MS Int Int} (ho : Once m.es) (k v : Int) : (m.set h k v).es.length ≤ m.es.length + 1 := by
  rw [(MS.set_is h m ho k v).length]
  split <;> omega
theorem mdel_once {m : MS Int Int} (ho : Once m.es) (k : Int) : Once (m.del k).es := del_once ho k
theorem mdel_len (m : MS Int Int) (k : Int) : (m.del k).es.length ≤ m.es.length := List.length_filter_le _ _
theorem mkMany_ok {s : Stp} {m : MS Int Int} (ho : Once m.es) : ∀ n, Once (mkMany h s m n).es ∧ (mkMany h s m n).es.length ≤ m.es.length + n
  | 0 => ⟨ho, Nat.le_refl _⟩
  | n + 1 => by
    obtain ⟨h1, h2⟩ := mkMany_ok ho n
    rw [mkMany_succ]
    exact ⟨set_once h1 _ _, by have := set_len (h := h) h1 (s.key n) (n : Int); omega⟩
theorem mkLess_ok {s : Stp} {m : MS Int Int} (ho : Once m.es) : ∀ n, Once (mkLess s m n).es ∧ (mkLess s m n).es.length ≤ m.es.length
  | 0 => ⟨ho, Nat.le_refl _⟩
  | n + 1 => by
    obtain ⟨h1, h2⟩ := mkLess_ok (s := s) ho n
    rw [mkLess_succ]
    exact ⟨mdel_once h1 _, by have := mdel_len (mkLess s m n) (s.key n); omega⟩
theorem act_ok {s : Stp} {m : MS Int Int} (ho : Once m.es) (hc : s.k = 2 → s.C ≤ 100000) : Once (s.act h m).es ∧ (s.act h m).es.length ≤ m.es.length + 100000 := by
  unfold Stp.act
  split
  · exact ⟨set_once ho _ _, by have := set_len (h := h) ho s.K s.V; omega⟩
  · exact ⟨mdel_once ho _, by have := mdel_len m s.K; omega⟩
  · rename_i e
    obtain ⟨h1, h2⟩ := mkMany_ok (h := h) (s := s) ho s.C.toNat
    have := hc e
    exact ⟨h1, by omega⟩
  · obtain ⟨h1, h2⟩ := mkLess_ok (s := s) ho s.C.toNat
    exact ⟨h1, by omega⟩
theorem ok_cases {s : Stp} {n : Nat} (h : s.ok n = true) : 0 ≤ s.F ∧ s.F < n ∧ s.k ≤ 3 ∧ (2 ≤ s.k → 0 ≤ s.C ∧ s.C ≤ 100000) := by
  simp only [Stp.ok, Bool.and_eq_true, Bool.or_eq_true, decide_eq_true_eq] at h
  refine ⟨h.1, h.2.1, h.2.2.1, fun h2 => ?_⟩
  rcases h.2.2.2 with h3 | h3
  · omega
  · exact h3
/-- all versions: no key twice, not too many -/
def AllOk (n : Nat) (vs : List (MS Int Int)) : Prop := ∀ m ∈ vs, Once m.es ∧ m.es.length ≤ 100000 * n
theorem make_ok {n : Nat} {s : Stp} {vs : List (MS Int Int)} (hv : AllOk n vs) : AllOk (n + 1) (vs ++ [s.make h vs]) := fun m hm => by
  rcases List.mem_append.1 hm with hm | hm
  · obtain ⟨h1, h2⟩ := hv m hm
    exact ⟨h1, by omega⟩
  · simp only [List.mem_singleton] at hm
    subst hm
    unfold Stp.make
    split
    · rename_i hok
      obtain ⟨h1, h2, h3, h4⟩ := ok_cases hok
      have hi : s.F.toNat < vs.length := by omega
      have e : vs.getD s.F.toNat MS.empty = vs[s.F.toNat] := by rw [List.getD_eq_getElem?_getD, List.getElem?_eq_getElem hi]; rfl
      rw [e]
      obtain ⟨h5, h6⟩ := hv _ (List.getElem_mem hi)
      obtain ⟨h7, h8⟩ := act_ok (h := h) (s := s) h5 (fun e => (h4 (by omega)).2)
      exact ⟨h7, by omega⟩
    · exact ⟨by simp [MS.empty, Once], by simp [MS.empty]⟩
theorem versM_ok : ∀ (l : List Stp) (n : Nat) (vs : List (MS Int Int)), AllOk n vs → AllOk (l.length + n) (versM h l vs)
  | [], n, vs, hv => by simpa [versM] using hv
  | s :: l, n, vs, hv => by
    have := versM_ok l (n + 1) _ (make_ok (h := h) (s := s) hv)
    rw [List.length_cons, show l.length + 1 + n = l.length + (n + 1) by omega]
    exact this
end

set_option maxRecDepth 100000 in
set_option maxHeartbeats 400000 in
theorem hasher_w (mo mu sh : Int) (h0 : (mo == 0) = false) (w : World) :
    Calls Try.prog 59 #[av mo mu sh] w fun e w' => e = .returned (.iface 175 (av mo mu sh)) ∧ Below w.heap.size w w' := by
  unfold av
  go_enter Try.func59, Try.ntmps59
  go_wp2
  go_ret
  exact ⟨rfl, (Below.refl _ _).alloc (Nat.le_refl _) _⟩

set_option maxRecDepth 100000 in
set_option maxHeartbeats 1600000 in
theorem mapStep_w (k : Nat) (F K V C : Int) (n : Nat) (r : Bool) (hr : r = Stp.ok ⟨k, F, K, V, C⟩ n) (w : World) :
    Calls Try.prog 98 #[.agg #[.int .u8 (k : Int), .int .i64 F, .int .i64 K, .int .i64 V, .int .i64 C], .int .i64 (n : Int)] w fun e w' => e = .returned (.bool r) ∧ Below w.heap.size w w' := by
  have HR := Lib.hid hr
  clear hr
  have hb : ∀ o, Below w.heap.size w (w.alloc o) := fun o => (Below.refl _ _).alloc (Nat.le_refl _) _
  have HBB := Lib.hid hb
  clear hb
  by_cases c1 : 0 ≤ F
  · have d1 : decide (0 ≤ F) = true := by simp [c1]
    by_cases c2 : F < (n : Int)
    · have d2 : decide (F < (n : Int)) = true := by simp [c2]
      by_cases c3 : k ≤ 3
      · have d3 : decide ((k : Int) ≤ 3) = true := by simp; omega
        have e3 : decide (k ≤ 3) = true := by simp [c3]
        by_cases c4 : k < 2
        · have d4 : decide ((k : Int) < 2) = true := by simp; omega
          have e4 : decide (k < 2) = true := by simp [c4]
          go_enter Try.func98, Try.ntmps98
          go_wp2
          go_ret
          exact ⟨by rw [HR.out]; simp [Stp.ok, *], HBB.out _⟩
        · have d4 : decide ((k : Int) < 2) = false := by simp; omega
          have e4 : decide (k < 2) = false := by simp [c4]
          by_cases c5 : 0 ≤ C
          · have d5 : decide (0 ≤ C) = true := by simp [c5]
            by_cases c6 : C ≤ 100000
            · have d6 : decide (C ≤ 100000) = true := by simp [c6]
              go_enter Try.func98, Try.ntmps98
              go_wp2
              go_ret
              exact ⟨by rw [HR.out]; simp [Stp.ok, *], HBB.out _⟩
            · have d6 : decide (C ≤ 100000) = false := by simp; omega
              go_enter Try.func98, Try.ntmps98
              go_wp2
              go_ret
              exact ⟨by rw [HR.out]; simp [Stp.ok, *], HBB.out _⟩
          · have d5 : decide (0 ≤ C) = false := by simp; omega
            go_enter Try.func98, Try.ntmps98
            go_wp2
            go_ret
            exact ⟨by rw [HR.out]; simp [Stp.ok, *], HBB.out _⟩
      · have d3 : decide ((k : Int) ≤ 3) = false := by simp; omega
        have e3 : decide (k ≤ 3) = false := by simp [c3]
        go_enter Try.func98, Try.ntmps98
        go_wp2
        go_ret
        exact ⟨by rw [HR.out]; simp [Stp.ok, *], HBB.out _⟩
    · have d2 : decide (F < (n : Int)) = false := by simp; omega
      go_enter Try.func98, Try.ntmps98
      go_wp2
      go_ret
      exact ⟨by rw [HR.out]; simp [Stp.ok, *], HBB.out _⟩
  · have d1 : decide (0 ≤ F) = false := by simp; omega
    go_enter Try.func98, Try.ntmps98
    go_wp2
    go_ret
    exact ⟨by rw [HR.out]; simp [Stp.ok, *], HBB.out _⟩
end Go.Proofs.Ytpkndcmgialgcaa

namespace Go.Proofs.Ytpkndcmgialgcaa
open Go.RowKit

def Any (_ : Nat) : Prop := True
theorem IsMap.any {h : Int → Nat} {mo mu sh : Int} {S : Nat → Prop} {w : World} {v : Value} {m : MS Int Int} (n : IsMap h mo mu sh S w v m) : IsMap h mo mu sh Any w v m := n.inS fun _ _ _ => trivial

/-- sv is a slice of steps that lies somewhere, or it is nil and there is none -/
def StpW (w : World) (sv : Value) (steps : List Stp) : Prop :=
  (sv = .slice none 0 0 ∧ steps = []) ∨ ∃ sb so cap, sv = .slice (some ⟨sb, so, none⟩) steps.length cap ∧ sb < w.heap.size ∧ ∀ j s, steps[j]? = some s → ∀ i u, s.cells[i]? = some u → w.cell? ⟨sb, so + j * 5 + i, none⟩ = some u
theorem StpW.below {w w' : World} {sv : Value} {steps : List Stp} (hs : StpW w sv steps) (hb : Below w.heap.size w w') : StpW w' sv steps := by
  rcases hs with h | ⟨sb, so, cap, h1, h2, h3⟩
  · exact .inl h
  · exact .inr ⟨sb, so, cap, h1, Nat.lt_of_lt_of_le h2 hb.size, fun j s hj i u hu => (hb.cell h2).trans (h3 j s hj i u hu)⟩

theorem info112 : (Try.prog.info? 112).map (fun i => (i.zero, i.size, i.bytes)) = some (some (.pointer none), 1, 8) := by kernel_rfl

/-- l lists the versions vs -/
def Vers (h : Int → Nat) (mo mu sh : Int) (B : Nat) (vs : List (MS Int Int)) (l : Value) (wr : World) : Prop :=
  ∃ ptrs : List Value, wr.ownsRow B 112 1 l vs.length ptrs ∧ ptrs.length = vs.length ∧ ∀ (i : Nat) (r : Value), ptrs[i]? = some r → ∃ m, vs[i]? = some m ∧ IsMap h mo mu sh Any wr r m
section
variable {h : Int → Nat} {mo mu sh : Int}
theorem Vers.below {B : Nat} {vs : List (MS Int Int)} {l : Value} {w w' : World} (n : Vers h mo mu sh B vs l w) (hb : Below w.heap.size w w') : Vers h mo mu sh B vs l w' := by
  obtain ⟨ptrs, h1, h2, h3⟩ := n
  refine ⟨ptrs, own_below h1 hb, h2, fun i r hr => ?_⟩
  obtain ⟨m, h4, h5⟩ := h3 i r hr
  exact ⟨m, h4, h5.stay (Stay.of_below hb)⟩
theorem grown_stay {w w' : World} {base size n : Nat} {e : TypeId} {v : Value} {xs : List Value} (ho : w.ownsRow base e size v n xs) {A : World} (hA : Below w.heap.size w A) (hg : A.grownBy w' v.ownBlock) (he : ¬ Own e) : Stay A w' := fun b c t hb ht => by
  rw [hg.block b (lt_of_block hb) fun e1 => ?_]
  · exact hb
  · rcases ho.2 with ⟨rfl, _⟩ | ⟨g, cap, cur, rfl, _, h2, _⟩
    · cases e1
    · have e2 : b = g := by simpa [Value.ownBlock] using e1
      subst e2
      rw [below_at hA h2] at hb
      simp only [Option.some.injEq, Obj.cells.injEq] at hb
      exact he (hb.2.1 ▸ ht)
theorem own112 : ¬ Own 112 := by unfold Own; simp
/-- one version more -/
theorem vers_push {B : Nat} {vs : List (MS Int Int)} {l l' r : Value} {w A w1 : World} {ptrs : List Value} {m : MS Int Int} (ho : w.ownsRow B 112 1 l vs.length ptrs) (hpl : ptrs.length = vs.length) (hall : ∀ (i : Nat) (r : Value), ptrs[i]? = some r → ∃ m, vs[i]? = some m ∧ IsMap h mo mu sh Any w r m)
    (hA : Below w.heap.size w A) (hr : IsMap h mo mu sh Any A r m) (hown : w1.ownsRow B 112 1 l' (vs.length + 1) (ptrs ++ [r])) (hg : A.grownBy w1 l.ownBlock) : Vers h mo mu sh B (vs ++ [m]) l' w1 := by
  have hst := grown_stay ho hA hg own112
  refine ⟨ptrs ++ [r], by simpa using hown, by simp [hpl], fun i q hq => ?_⟩
  rcases Nat.lt_or_ge i ptrs.length with h1 | h1
  · rw [List.getElem?_append_left h1] at hq
    obtain ⟨m', h2, h3⟩ := hall i q hq
    exact ⟨m', by rw [List.getElem?_append_left (by omega)]; exact h2, (h3.stay (Stay.of_below hA)).stay hst⟩
  · rw [List.getElem?_append_right h1] at hq
    have e1 : i - ptrs.length = 0 := by
      rcases Nat.eq_zero_or_pos (i - ptrs.length) with h2 | h2
      · exact h2
      · rw [List.getElem?_eq_none (by simp; omega)] at hq; cases hq
    rw [e1] at hq
    simp only [List.getElem?_cons_zero, Option.some.injEq] at hq
    subst hq
    exact ⟨m, by rw [List.getElem?_append_right (by omega), show i - vs.length = 0 by omega]; rfl, hr.stay hst⟩
theorem new_map (_hH : HashIs mo mu sh h) (w : World) : IsMap h mo mu sh Any (w.alloc (.cells #[.int .i64 0, .nilIface, .iface 175 (av mo mu sh)] 167)) (.pointer (some ⟨w.heap.size, 0, none⟩)) MS.empty :=
  ⟨w.heap.size, rfl, .nilIface, heap_alloc_last w _, trivial, by simp [Once, MS.empty], by rw [if_pos (show MS.empty.es = [] from rfl)]⟩
end

/-- the loop over set -/
theorem map_set_any {h : Int → Nat} {mo mu sh : Int} (hH : HashIs mo mu sh h) (key val : Int) {m : MS Int Int} {w : World} {v : Value} (hl : m.es.length < 90000000) (n : IsMap h mo mu sh Any w v m) :
    Calls Try.prog 99 #[v, .int .i64 key, .int .i64 val] w fun e w' => ∃ q, e = .returned (.pointer (some ⟨q, 0, none⟩)) ∧ IsMap h mo mu sh Any w' (.pointer (some ⟨q, 0, none⟩)) (m.set h key val) ∧ Below w.heap.size w w' := by
  refine (map_set hH key val hl n).mono ?_
  rintro e w' ⟨v', rfl, n2, hb⟩
  obtain ⟨q, rfl, h9⟩ := n2
  exact ⟨q, rfl, IsMap.any (S := New Any w) ⟨q, rfl, h9⟩, hb⟩
theorem map_del_any {h : Int → Nat} {mo mu sh : Int} (hH : HashIs mo mu sh h) (key : Int) {m : MS Int Int} {w : World} {v : Value} (hl : m.es.length < 90000000) (n : IsMap h mo mu sh Any w v m) :
    Calls Try.prog 100 #[v, .int .i64 key] w fun e w' => ∃ q, e = .returned (.pointer (some ⟨q, 0, none⟩)) ∧ IsMap h mo mu sh Any w' (.pointer (some ⟨q, 0, none⟩)) (m.del key) ∧ Below w.heap.size w w' := by
  refine (map_del hH key hl n).mono ?_
  rintro e w' ⟨v', rfl, n2, hb⟩
  obtain ⟨q, rfl, h9⟩ := n2
  exact ⟨q, rfl, IsMap.any (S := New Any w) ⟨q, rfl, h9⟩, hb⟩

set_option maxRecDepth 100000 in
set_option maxHeartbeats 3200000 in
theorem mapsOf_w (h : Int → Nat) (mo mu sh : Int) (hH : HashIs mo mu sh h) (h0 : (mo == 0) = false) (sv : Value) (steps : List Stp) (w : World) (hs : StpW w sv steps) (hn : steps.length ≤ 500) :
    Calls Try.prog 54 #[av mo mu sh, sv] w fun e w' => ∃ l, e = .returned l ∧ Vers h mo mu sh w.heap.size (versM h steps [MS.empty]) l w' ∧ Below w.heap.size w w' := by
  obtain ⟨i112, hi, hz0, hz1, hz2⟩ := info_parts info112
  have HI := Lib.hid (And.intro hi (And.intro hz0 (And.intro hz1 hz2)))
  clear hi hz0 hz1 hz2
  have HS := Lib.hid hs
  have HH := Lib.hid hH
  have H0 := Lib.hid h0
  have HN := Lib.hid hn
  clear hs hH h0 hn
  unfold av
  go_enter Try.func54, Try.ntmps54
  go_wp2_with fail
  refine (hasher_w mo mu sh H0.out _).mono ?_
  rintro e w1 ⟨rfl, hb1⟩
  have HZ1 : Hid (w1.heap[w.heap.size]? = some (.cells #[.int .u32 mo, .int .u32 mu, .int .u8 sh] 34 (0, 0))) := below_at hb1 (heap_alloc_last w _)
  have HB1 : Hid (Below w.heap.size w w1) := ((Below.refl w.heap.size w).alloc (Nat.le_refl _) (.cells #[.int .u32 mo, .int .u32 mu, .int .u8 sh] 34)).trans (hb1.mono (by rw [size_alloc]; omega))
  clear hb1
  go_wp2_with fail
  refine (new_w mo mu sh _).mono ?_
  rintro e w2 ⟨rfl, rfl⟩
  have hb2 : Below w1.heap.size w1 (w1.alloc (.cells #[.int .i64 0, .nilIface, .iface 175 (av mo mu sh)] 167)) := (Below.refl _ _).alloc (Nat.le_refl _) _
  have HM2 := Lib.hid (new_map HH.out w1)
  have HZ2 := Lib.hid (below_at hb2 HZ1.out)
  have HB2 := Lib.hid (HB1.out.trans (hb2.mono HB1.out.size))
  clear hb2 HZ1 HB1
  generalize w1.alloc (.cells #[.int .i64 0, .nilIface, .iface 175 (av mo mu sh)] 167) = W at HM2 HZ2 HB2 ⊢
  generalize w1.heap.size = nb at HM2 ⊢
  clear w1
  go_upto_region 2 with (fail)
  have hA : Below W.heap.size W (W.alloc (.cells #[.pointer (some ⟨nb, 0, none⟩)] 112)) := (Below.refl _ _).alloc (Nat.le_refl _) _
  have HV : Hid (Vers h mo mu sh w.heap.size (versM h (steps.take 0) [MS.empty]) (.slice (some ⟨W.heap.size, 0, none⟩) 1 1) (W.alloc (.cells #[.pointer (some ⟨nb, 0, none⟩)] 112))) := by
    refine ⟨[.pointer (some ⟨nb, 0, none⟩)], builtE W _ 112 HB2.out.size, rfl, fun i r hr => ?_⟩
    rcases i with _ | i
    · simp only [List.getElem?_cons_zero, Option.some.injEq] at hr
      subst hr
      exact ⟨MS.empty, rfl, HM2.out.stay (Stay.of_below hA)⟩
    · simp at hr
  have HZ3 := Lib.hid (below_at hA HZ2.out)
  have HB3 := Lib.hid (HB2.out.trans (hA.mono HB2.out.size))
  clear hA HZ2 HB2 HM2
  generalize W.alloc (.cells #[.pointer (some ⟨nb, 0, none⟩)] 112) = W2 at HV HZ3 HB3 ⊢
  generalize Value.slice (some ⟨W.heap.size, 0, none⟩) 1 1 = l0 at HV ⊢
  clear W
  obtain ⟨hb, hhb⟩ : ∃ hb, hb = w.heap.size := ⟨_, rfl⟩
  have hbge := Lib.hid (Nat.le_of_eq hhb.symm)
  rw [← hhb] at HZ3 ⊢
  clear hhb
  have hlen : ∃ a c, sv = .slice a steps.length c := by
    rcases HS.out with ⟨h1, h2⟩ | ⟨sb, so, cap, h1, h2, h3⟩
    · exact ⟨none, 0, by rw [h1, h2]; rfl⟩
    · exact ⟨_, cap, h1⟩
  obtain ⟨sa, sc, rfl⟩ := hlen
  go_wp2_with fail
  go_loopg [5, 18] steps.length (fun k l i wr => ∃ j : Nat, j + k = steps.length ∧ i = .int .i64 (j : Int) ∧ Vers h mo mu sh w.heap.size (versM h (steps.take j) [MS.empty]) l wr ∧ Below w.heap.size w wr ∧ wr.heap[hb]? = some (.cells #[.int .u32 mo, .int .u32 mu, .int .u8 sh] 34 (0, 0)))
  case atStart => exact ⟨0, by omega, rfl, HV.out, HB3.out, HZ3.out⟩
  case round =>
    clear HV HB3 HZ3
    obtain ⟨j, hjk, rfl, hv, hbw, hz⟩ := hrel
    have HV := Lib.hid hv
    have HB := Lib.hid hbw
    have HZ := Lib.hid hz
    clear hv hbw hz
    have hw1 : IntKind.i64.wrap ((j : Int) + 1) = (j : Int) + 1 := by have := HN.out; rw [IntKind.wrap_i64]; omega
    by_cases hlt : j < steps.length
    · have h1 : decide ((j : Int) < (steps.length : Int)) = true := by simp; omega
      obtain ⟨⟨sk, sF, sK, sV, sC⟩, hs⟩ : ∃ s, s = steps[j] := ⟨_, rfl⟩
      have hs' : steps[j]? = some ⟨sk, sF, sK, sV, sC⟩ := by rw [List.getElem?_eq_getElem hlt, hs]
      obtain ⟨sb, so, rfl, hsb, hcells⟩ : ∃ sb so, sa = some ⟨sb, so, none⟩ ∧ sb < w.heap.size ∧ ∀ i u, (Stp.mk sk sF sK sV sC).cells[i]? = some u → w.cell? ⟨sb, so + j * 5 + i, none⟩ = some u := by
        rcases HS.out with ⟨h1, h2⟩ | ⟨sb, so, cap, h1, h2, h3⟩
        · rw [h2] at hlt; simp at hlt
        · simp only [Value.slice.injEq] at h1
          exact ⟨sb, so, h1.1, h2, fun i u hu => h3 j _ hs' i u hu⟩
      have e0 : wr.cell? ⟨sb, so + j * 5, none⟩ = some (.int .u8 (sk : Int)) := (HB.out.cell hsb).trans (hcells 0 _ rfl)
      have e1 : wr.cell? ⟨sb, so + j * 5 + 1, none⟩ = some (.int .i64 sF) := (HB.out.cell hsb).trans (hcells 1 _ rfl)
      have e2 : wr.cell? ⟨sb, so + j * 5 + 2, none⟩ = some (.int .i64 sK) := (HB.out.cell hsb).trans (hcells 2 _ rfl)
      have e3 : wr.cell? ⟨sb, so + j * 5 + 3, none⟩ = some (.int .i64 sV) := (HB.out.cell hsb).trans (hcells 3 _ rfl)
      have e4 : wr.cell? ⟨sb, so + j * 5 + 4, none⟩ = some (.int .i64 sC) := (HB.out.cell hsb).trans (hcells 4 _ rfl)
      have HST := Lib.hid hs'
      clear hs hs' hcells
      go_upto_region 5 with (fail)
      have hA : Below wr.heap.size wr (wr.alloc (.cells #[.int .u8 (sk : Int), .int .i64 sF, .int .i64 sK, .int .i64 sV, .int .i64 sC] 88)) := (Below.refl _ wr).alloc (Nat.le_refl _) _
      have HX := Lib.hid (heap_alloc_last wr (.cells #[.int .u8 (sk : Int), .int .i64 sF, .int .i64 sK, .int .i64 sV, .int .i64 sC] 88))
      have HV2 := Lib.hid (HV.out.below hA)
      have HB2 := Lib.hid (HB.out.trans (hA.mono HB.out.size))
      have HZ2 := Lib.hid (below_at hA HZ.out)
      generalize wr.alloc (.cells #[.int .u8 (sk : Int), .int .i64 sF, .int .i64 sK, .int .i64 sV, .int .i64 sC] 88) = X at HX HV2 HB2 HZ2 ⊢
      generalize wr.heap.size = bx at HX ⊢
      clear e0 e1 e2 e3 e4 hA HV HB HZ wr
      have z0 := cell_at (j := 0) HZ2.out rfl
      have z1 := cell_at (j := 1) HZ2.out rfl
      have z2 := cell_at (j := 2) HZ2.out rfl
      go_wp2_with fail
      refine (hasher_w mo mu sh H0.out _).mono ?_
      rintro e w1 ⟨rfl, hb1⟩
      go_wp2_with fail
      refine (new_w mo mu sh _).mono ?_
      rintro e w2 ⟨rfl, rfl⟩
      have hb2 : Below X.heap.size X (w1.alloc (.cells #[.int .i64 0, .nilIface, .iface 175 (av mo mu sh)] 167)) := hb1.alloc hb1.size _
      have HM := Lib.hid (new_map HH.out w1)
      have HX3 := Lib.hid (below_at hb2 HX.out)
      have HV3 := Lib.hid (HV2.out.below hb2)
      have HB3 := Lib.hid (HB2.out.trans (hb2.mono HB2.out.size))
      have HZ3 := Lib.hid (below_at hb2 HZ2.out)
      clear hb1 hb2 HX HV2 HB2 HZ2 z0 z1 z2
      generalize w1.alloc (.cells #[.int .i64 0, .nilIface, .iface 175 (av mo mu sh)] 167) = Y at HM HX3 HV3 HB3 HZ3 ⊢
      generalize w1.heap.size = nb at HM ⊢
      clear w1 X
      obtain ⟨vs, hR⟩ : ∃ vs, vs = versM h (steps.take j) [MS.empty] := ⟨_, rfl⟩
      have hvl : vs.length = j + 1 := by
        rw [hR, versM_len, List.length_take, Nat.min_eq_left (Nat.le_of_lt hlt)]; rfl
      have hok : AllOk (j + 1) vs := by
        have h9 := versM_ok (h := h) (steps.take j) 1 [MS.empty] (fun m hm => by
          simp only [List.mem_singleton] at hm
          subst hm
          exact ⟨by simp [MS.empty, Once], by simp [MS.empty]⟩)
        rw [List.length_take, Nat.min_eq_left (Nat.le_of_lt hlt), ← hR] at h9
        exact h9
      have hV9 := HV3.out
      rw [← hR] at hV9
      obtain ⟨ptrs, hoL, hpl, hpI⟩ := hV9
      have HR := Lib.hid hR
      have HVL := Lib.hid hvl
      have HOK := Lib.hid hok
      have HOL := Lib.hid hoL
      have HPL := Lib.hid hpl
      have HPI := Lib.hid hpI
      have hll : ∃ g lcap, u5 = .slice (some ⟨g, 0, none⟩) vs.length lcap := by
        rcases hoL.2 with ⟨_, h0⟩ | ⟨g, lcap, cur, h9, _⟩
        · omega
        · exact ⟨g, lcap, h9⟩
      obtain ⟨g, lcap, rfl⟩ := hll
      have s0 := cell_at (j := 0) HX3.out rfl
      have s1 := cell_at (j := 1) HX3.out rfl
      have s2 := cell_at (j := 2) HX3.out rfl
      have s3 := cell_at (j := 3) HX3.out rfl
      have s4 := cell_at (j := 4) HX3.out rfl
      obtain ⟨ok, hokd⟩ : ∃ ok, ok = Stp.ok ⟨sk, sF, sK, sV, sC⟩ vs.length := ⟨_, rfl⟩
      have HOKD := Lib.hid hokd
      clear hR hvl hok hoL hpl hpI hokd HV3
      go_wp2_with fail
      refine (mapStep_w sk sF sK sV sC vs.length ok HOKD.out _).mono ?_
      rintro e w2 ⟨rfl, hb2⟩
      have HX4 := Lib.hid (below_at hb2 HX3.out)
      have HB4 := Lib.hid (HB3.out.trans (hb2.mono HB3.out.size))
      have HZ4 := Lib.hid (below_at hb2 HZ3.out)
      have HM4 := Lib.hid (HM.out.stay (Stay.of_below hb2))
      have HY := Lib.hid hb2
      clear hb2 HX3 HB3 HZ3 HM s0 s1 s2 s3 s4
      go_upto_if 28 with (fail)
      go_cut [8, 9, 10, 11, 28] from 29 to 86 (fun v8 _ _ _ _ wc => ∃ q, v8 = .pointer (some ⟨q, 0, none⟩) ∧ IsMap h mo mu sh Any wc (.pointer (some ⟨q, 0, none⟩)) (Stp.make h ⟨sk, sF, sK, sV, sC⟩ vs) ∧ Below w2.heap.size w2 wc)
      case first =>
        cases ok with
        | false =>
          have hmake : Stp.make h ⟨sk, sF, sK, sV, sC⟩ vs = MS.empty := by unfold Stp.make; rw [← HOKD.out]; rfl
          have HMK := Lib.hid hmake
          clear hmake
          go_wp2_with fail
          go_meet
          case rel => exact ⟨nb, rfl, by rw [HMK.out]; exact HM4.out, Below.refl _ _⟩
        | true =>
          obtain ⟨g1, g2, g3, g4⟩ := ok_cases HOKD.out.symm
          have g1 : 0 ≤ sF := g1
          have g2 : sF < (vs.length : Int) := g2
          have g3 : sk ≤ 3 := g3
          have g4 : 2 ≤ sk → 0 ≤ sC ∧ sC ≤ 100000 := g4
          obtain ⟨f, rfl⟩ : ∃ f : Nat, sF = (f : Int) := ⟨sF.toNat, by omega⟩
          have hfl : f < vs.length := by omega
          obtain ⟨r, hr⟩ : ∃ r, ptrs[f]? = some r := ⟨ptrs[f]'(by rw [HPL.out]; exact hfl), List.getElem?_eq_getElem _⟩
          obtain ⟨m, hm, hmap⟩ := HPI.out f r hr
          have hmap2 := hmap.stay (Stay.of_below HY.out)
          obtain ⟨mb, rfl, hmap3⟩ := hmap2
          have hcm : w2.cell? ⟨g, f, none⟩ = some (.pointer (some ⟨mb, 0, none⟩)) := own_cell (own_below HOL.out HY.out) hr
          have HMP : Hid (IsMap h mo mu sh Any w2 (.pointer (some ⟨mb, 0, none⟩)) m) := ⟨mb, rfl, hmap3⟩
          have hmk : Stp.make h ⟨sk, (f : Int), sK, sV, sC⟩ vs = Stp.act h ⟨sk, (f : Int), sK, sV, sC⟩ m := by
            unfold Stp.make
            rw [← HOKD.out, if_pos rfl]
            congr 1
            show vs.getD ((f : Int)).toNat MS.empty = m
            rw [Int.toNat_natCast, List.getD_eq_getElem?_getD, hm]
            rfl
          obtain ⟨hon, hml⟩ := HOK.out m (List.mem_of_getElem? hm)
          have hml2 : m.es.length < 60000000 := by have := HN.out; omega
          have HON := Lib.hid hon
          have s0 := cell_at (j := 0) HX4.out rfl
          have s1 := cell_at (j := 1) HX4.out rfl
          have s2 := cell_at (j := 2) HX4.out rfl
          have s3 := cell_at (j := 3) HX4.out rfl
          have s4 := cell_at (j := 4) HX4.out rfl
          clear hr hm hmap hmap3 hon hml g1
          have hk4 : sk = 0 ∨ sk = 1 ∨ sk = 2 ∨ sk = 3 := by omega
          rcases hk4 with rfl | rfl | rfl | rfl
          · have hmake : Stp.make h ⟨0, (f : Int), sK, sV, sC⟩ vs = m.set h sK sV := by rw [hmk]; rfl
            have HMK := Lib.hid hmake
            clear hmake hmk g4
            go_wp2_with fail
            refine (map_set_any HH.out sK sV (by omega) HMP.out).mono ?_
            rintro e w3 ⟨q, rfl, hm3, hb3⟩
            have HM3 := Lib.hid hm3
            have HB3 := Lib.hid hb3
            clear hm3 hb3 s0 s1 s2 s3 s4 hcm
            go_wp2_with fail
            go_meet
            case rel => exact ⟨q, rfl, by rw [HMK.out]; exact HM3.out, HB3.out⟩
          · have hmake : Stp.make h ⟨1, (f : Int), sK, sV, sC⟩ vs = m.del sK := by rw [hmk]; rfl
            have HMK := Lib.hid hmake
            clear hmake hmk g4
            go_wp2_with fail
            refine (map_del_any HH.out sK (by omega) HMP.out).mono ?_
            rintro e w3 ⟨q, rfl, hm3, hb3⟩
            have HM3 := Lib.hid hm3
            have HB3 := Lib.hid hb3
            clear hm3 hb3 s0 s1 s2 s3 s4 hcm
            go_wp2_with fail
            go_meet
            case rel => exact ⟨q, rfl, by rw [HMK.out]; exact HM3.out, HB3.out⟩
          · obtain ⟨c1, c2⟩ := g4 (Nat.le_refl 2)
            obtain ⟨cn, rfl⟩ : ∃ cn : Nat, sC = (cn : Int) := ⟨sC.toNat, by omega⟩
            have hmake : Stp.make h ⟨2, (f : Int), sK, sV, (cn : Int)⟩ vs = mkMany h ⟨2, (f : Int), sK, sV, (cn : Int)⟩ m cn := by rw [hmk]; rfl
            have HMK := Lib.hid hmake
            have hcn : cn ≤ 100000 := by omega
            clear hmake hmk g4 c1 c2
            go_wp2_with fail
            go_loopg [8, 10] cn (fun k v8 v10 wc => ∃ (i q : Nat), i + k = cn ∧ v10 = .int .i64 (i : Int) ∧ v8 = .pointer (some ⟨q, 0, none⟩) ∧ IsMap h mo mu sh Any wc (.pointer (some ⟨q, 0, none⟩)) (mkMany h ⟨2, (f : Int), sK, sV, (cn : Int)⟩ m i) ∧ Below w2.heap.size w2 wc)
            case atStart => exact ⟨0, mb, by omega, rfl, rfl, HMP.out, Below.refl _ _⟩
            case round =>
              obtain ⟨i, q, hik, rfl, rfl, hmi, hbi⟩ := hrel
              have HMI := Lib.hid hmi
              have HBI := Lib.hid hbi
              have hX5 := below_at hbi HX4.out
              clear hmi hbi s0 s1 s2 s3 s4 hcm
              have s2 := cell_at (j := 2) hX5 rfl
              have s3 := cell_at (j := 3) hX5 rfl
              have s4 := cell_at (j := 4) hX5 rfl
              clear hX5
              have hwi : IntKind.i64.wrap ((i : Int) + 1) = (i : Int) + 1 := by rw [IntKind.wrap_i64]; omega
              by_cases hlt2 : i < cn
              · have h2 : decide ((i : Int) < (cn : Int)) = true := by simp; omega
                obtain ⟨o1, o2⟩ := mkMany_ok (h := h) (s := ⟨2, (f : Int), sK, sV, (cn : Int)⟩) HON.out i
                have ho2 : (mkMany h ⟨2, (f : Int), sK, sV, (cn : Int)⟩ m i).es.length < 90000000 := by omega
                have HO2 := Lib.hid ho2
                clear o1 o2 ho2
                go_wp2_with fail
                refine (map_set_any HH.out (Stp.key ⟨2, (f : Int), sK, sV, (cn : Int)⟩ i) (i : Int) HO2.out HMI.out).mono ?_
                rintro e w3 ⟨q2, rfl, hm3, hb3⟩
                have HM3 := Lib.hid hm3
                have HB3 := Lib.hid (HBI.out.trans (hb3.mono HBI.out.size))
                clear hm3 hb3 s2 s3 s4
                go_wp2_with fail
                go_roundg (gk - 1)
                case measure => omega
                case rel => exact ⟨i + 1, q2, by omega, rfl, rfl, by rw [mkMany_succ]; exact HM3.out, HB3.out⟩
              · have h2 : decide ((i : Int) < (cn : Int)) = false := by simp; omega
                obtain rfl : i = cn := by omega
                go_wp2_with fail
                go_meet
                case rel => exact ⟨q, rfl, by rw [HMK.out]; exact HMI.out, HBI.out⟩
          · obtain ⟨c1, c2⟩ := g4 (Nat.le_succ 2)
            obtain ⟨cn, rfl⟩ : ∃ cn : Nat, sC = (cn : Int) := ⟨sC.toNat, by omega⟩
            have hmake : Stp.make h ⟨3, (f : Int), sK, sV, (cn : Int)⟩ vs = mkLess ⟨3, (f : Int), sK, sV, (cn : Int)⟩ m cn := by rw [hmk]; rfl
            have HMK := Lib.hid hmake
            have hcn : cn ≤ 100000 := by omega
            clear hmake hmk g4 c1 c2
            go_wp2_with fail
            go_loopg [8, 11] cn (fun k v8 v10 wc => ∃ (i q : Nat), i + k = cn ∧ v10 = .int .i64 (i : Int) ∧ v8 = .pointer (some ⟨q, 0, none⟩) ∧ IsMap h mo mu sh Any wc (.pointer (some ⟨q, 0, none⟩)) (mkLess ⟨3, (f : Int), sK, sV, (cn : Int)⟩ m i) ∧ Below w2.heap.size w2 wc)
            case atStart => exact ⟨0, mb, by omega, rfl, rfl, HMP.out, Below.refl _ _⟩
            case round =>
              obtain ⟨i, q, hik, rfl, rfl, hmi, hbi⟩ := hrel
              have HMI := Lib.hid hmi
              have HBI := Lib.hid hbi
              have hX5 := below_at hbi HX4.out
              clear hmi hbi s0 s1 s2 s3 s4 hcm
              have s2 := cell_at (j := 2) hX5 rfl
              have s3 := cell_at (j := 3) hX5 rfl
              have s4 := cell_at (j := 4) hX5 rfl
              clear hX5
              have hwi : IntKind.i64.wrap ((i : Int) + 1) = (i : Int) + 1 := by rw [IntKind.wrap_i64]; omega
              by_cases hlt2 : i < cn
              · have h2 : decide ((i : Int) < (cn : Int)) = true := by simp; omega
                obtain ⟨o1, o2⟩ := mkLess_ok (s := ⟨3, (f : Int), sK, sV, (cn : Int)⟩) HON.out i
                have ho2 : (mkLess ⟨3, (f : Int), sK, sV, (cn : Int)⟩ m i).es.length < 90000000 := by omega
                have HO2 := Lib.hid ho2
                clear o1 o2 ho2
                go_wp2_with fail
                refine (map_del_any HH.out (Stp.key ⟨3, (f : Int), sK, sV, (cn : Int)⟩ i) HO2.out HMI.out).mono ?_
                rintro e w3 ⟨q2, rfl, hm3, hb3⟩
                have HM3 := Lib.hid hm3
                have HB3 := Lib.hid (HBI.out.trans (hb3.mono HBI.out.size))
                clear hm3 hb3 s2 s3 s4
                go_wp2_with fail
                go_roundg (gk - 1)
                case measure => omega
                case rel => exact ⟨i + 1, q2, by omega, rfl, rfl, by rw [mkLess_succ]; exact HM3.out, HB3.out⟩
              · have h2 : decide ((i : Int) < (cn : Int)) = false := by simp; omega
                obtain rfl : i = cn := by omega
                go_wp2_with fail
                go_meet
                case rel => exact ⟨q, rfl, by rw [HMK.out]; exact HMI.out, HBI.out⟩
      case rest =>
        obtain ⟨q, rfl, hm5, hb5⟩ := hcut
        have hyc : Below Y.heap.size Y wc := HY.out.trans (hb5.mono HY.out.size)
        have HO5 := Lib.hid (own_below HOL.out hyc)
        have HM5 := Lib.hid hm5
        have HB5 := Lib.hid (HB4.out.trans (hb5.mono HB4.out.size))
        have HZ5 := Lib.hid (below_at hb5 HZ4.out)
        have HYC := Lib.hid hyc
        clear hm5 hb5 hyc
        go_wp2_with (at_builtin; refine wpList_append_own _ rfl (.tmp 87) (.tmp 89) 110 rfl w.heap.size 112 i112 (.pointer none) 1 8 Try.underlying110 HI.out.1 HI.out.2.1 HI.out.2.2.1 HI.out.2.2.2 rfl (by decide) _ _ _ rfl (HO5.out.alloc _) ⟨wc.heap.size, 0, none⟩ 1 1 [.pointer (some ⟨q, 0, none⟩)] rfl rfl (new_cell _ _ _) (one_oneCell rfl) (by have := HVL.out; have := HN.out; unfold maxLen; omega) (by have := HVL.out; have := HN.out; omega) (by have := HB5.out.size; rw [size_alloc]; omega) ?_)
        intro l' w6 hown6 hgrow6 _
        have hA : Below wc.heap.size wc (wc.alloc (.cells #[.pointer (some ⟨q, 0, none⟩)] 112)) := (Below.refl _ _).alloc (Nat.le_refl _) _
        have HB6 := Lib.hid (below_grown (HB5.out.alloc HB5.out.size (.cells #[.pointer (some ⟨q, 0, none⟩)] 112)) HO5.out (Nat.le_refl _) (Nat.le_refl _) hgrow6)
        have HZ6 : Hid (w6.heap[hb]? = some (.cells #[.int .u32 mo, .int .u32 mu, .int .u8 sh] 34 (0, 0))) := by
          have hlt6 := lt_of_block HZ5.out
          show w6.heap[hb]? = _
          rw [hgrow6.block hb (by rw [size_alloc]; omega) fun e1 => own_off HO5.out HZ5.out (by decide) hb e1.symm rfl]
          exact at_alloc HZ5.out
        have HV6 : Hid (Vers h mo mu sh w.heap.size (vs ++ [Stp.make h ⟨sk, sF, sK, sV, sC⟩ vs]) l' w6) :=
          vers_push HO5.out HPL.out (fun i r hr => by
            obtain ⟨m, h8, h9⟩ := HPI.out i r hr
            exact ⟨m, h8, h9.stay (Stay.of_below HYC.out)⟩) hA (HM5.out.stay (Stay.of_below hA)) hown6 hgrow6
        clear hown6 hgrow6 hA
        go_wp2_with fail
        go_roundg (gk - 1)
        case measure => omega
        case rel =>
          refine ⟨j + 1, by omega, rfl, ?_, HB6.out, HZ6.out⟩
          have e1 : steps.take (j + 1) = steps.take j ++ [⟨sk, sF, sK, sV, sC⟩] := by rw [List.take_add_one, HST.out]; rfl
          rw [e1, versM_snoc, ← HR.out]
          exact HV6.out
    · have h1 : decide ((j : Int) < (steps.length : Int)) = false := by simp; omega
      obtain rfl : j = steps.length := by omega
      go_wp2_with fail
      have hv := HV.out
      rw [List.take_length] at hv
      refine bodyPost_ret (results_tmp rfl _ _ _) rfl ?_
      exact ⟨_, rfl, hv, HB.out⟩
end Go.Proofs.Ytpkndcmgialgcaa
