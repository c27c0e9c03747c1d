/- versionsOf: what versions a list of steps makes. Conditions of this file: none.

ListRun: what the versions hold. Conditions of this file: none.

slices.Equal over whole numbers and over bools. Conditions of this file: none. -/
import Derived.Test.YtnahipfdnadccaaClos
import Derived.Test.YtnahipfdnadccaaNewA
import Derived.Deep.DeepCutAuto
import Derived.Deep.CutBlock
namespace Go.Proofs.Ytnahipfdnadccaa
open Go.RowKit

/-- a step -/
structure Stp where
  k : Nat
  F : Int
  I : Int
  E : Int
  V : Int

def Stp.cells (s : Stp) : List Value := [.int .u8 (s.k : Int), .int .i64 s.F, .int .i64 s.I, .int .i64 s.E, .int .i64 s.V]

/-- whether a step is done -/
def Stp.ok (s : Stp) (n : Nat) : Bool := decide (0 ≤ s.F) && (decide (s.F < n) && ((decide (s.k ≠ 4) && decide (s.k ≠ 5) || (decide (0 ≤ s.I) && decide (s.I ≤ 100000))) && decide (s.k ≤ 5)))

/-- what a step makes of the versions there are, and whether it panics -/
def Stp.make (s : Stp) (vs : List (List Int)) : List Int × Bool :=
  if s.ok vs.length then
    match stepOf (vs.getD s.F.toNat []) s.k s.I s.E s.V with
    | some ys => (ys, false)
    | none => (vs.getD s.F.toNat [], true)
  else ([], false)

/-- all versions, and which steps panicked -/
def versRun : List Stp → List (List Int) × List Bool → List (List Int) × List Bool
  | [], r => r
  | s :: rest, r => versRun rest (r.1 ++ [(s.make r.1).1], r.2 ++ [(s.make r.1).2])

theorem versRun_snoc : ∀ (l : List Stp) (s : Stp) (r : List (List Int) × List Bool), versRun (l ++ [s]) r = ((versRun l r).1 ++ [(s.make (versRun l r).1).1], (versRun l r).2 ++ [(s.make (versRun l r).1).2])
  | [], s, r => rfl
  | a :: l, s, r => by simp only [List.cons_append, versRun]; exact versRun_snoc l s _

theorem versRun_len : ∀ (l : List Stp) (r : List (List Int) × List Bool), (versRun l r).1.length = l.length + r.1.length
  | [], r => by simp [versRun]
  | a :: l, r => by simp only [versRun]; rw [versRun_len l]; simp; omega

theorem versRun_lenP : ∀ (l : List Stp) (r : List (List Int) × List Bool), (versRun l r).2.length = l.length + r.2.length
  | [], r => by simp [versRun]
  | a :: l, r => by simp only [versRun]; rw [versRun_lenP l]; simp; omega

theorem bound_a {n0 j len K B : Nat} (h : n0 + K * (len + 1) < B) (hj : j < len) : n0 + K * j + K < B := by
  have h1 : K * (j + 1) ≤ K * (len + 1) := Nat.mul_le_mul_left _ (by omega)
  rw [Nat.mul_succ] at h1
  exact Nat.lt_of_le_of_lt (by rw [Nat.add_assoc]; exact Nat.add_le_add_left h1 _) h
theorem bound_b {n0 j sk : Nat} {sI : Int} (hI : 4 ≤ sk → 0 ≤ sI ∧ sI ≤ 100000) : n0 + 100000 * j + (if 4 ≤ sk then sI.toNat else 1) ≤ n0 + 100000 * (j + 1) := by
  split
  · have := hI (by assumption); omega
  · omega
theorem bound_c {n0 j : Nat} : n0 + 100000 * j ≤ n0 + 100000 * (j + 1) := by omega

theorem info72 : (Try.prog.info? 72).map (fun i => (i.zero, i.size, i.bytes)) = some (some (.pointer none), 1, 8) := by kernel_rfl
theorem info4 : (Try.prog.info? 4).map (fun i => (i.zero, i.size, i.bytes)) = some (some (.bool false), 1, 1) := by kernel_rfl

theorem own_ne {w : World} {b b' size size' n n' : Nat} {e e' : TypeId} {v v' : Value} {xs xs' : List Value} (h : w.ownsRow b e size v n xs) (h' : w.ownsRow b' e' size' v' n' xs') (he : e ≠ e') :
    v.ownBlock = none ∨ v.ownBlock ≠ v'.ownBlock := by
  rcases h.2 with ⟨rfl, _⟩ | ⟨g, cap, cur, rfl, _, hg, _⟩
  · exact .inl rfl
  · rcases h'.2 with ⟨rfl, _⟩ | ⟨g', cap', cur', rfl, _, hg', _⟩
    · right; simp [Value.ownBlock]
    · right
      intro e1
      simp only [Value.ownBlock, Option.some.injEq] at e1
      subst e1
      rw [hg] at hg'
      simp only [Option.some.injEq, Obj.cells.injEq] at hg'
      exact he hg'.2.1

/-- where the loop stands: the versions vs and which steps panicked, each version of at most n single steps -/
structure Vers (w : World) (n : Nat) (vs : List (List Int)) (ps : List Bool) (l p : Value) (wr : World) : Prop where
  below : Below w.heap.size w wr
  ownP : wr.ownsRow w.heap.size 4 1 p ps.length (ps.map Value.bool)
  ownL : ∃ ptrs : List Value, wr.ownsRow w.heap.size 72 1 l vs.length ptrs ∧ ptrs.length = vs.length ∧ ∀ (i : Nat) (r : Value), ptrs[i]? = some r → ∃ xs : List Int, vs[i]? = some xs ∧ IsList wr r n xs

theorem below_grown {B base size n : Nat} {w0 wr A w1 : World} {e : TypeId} {v : Value} {xs : List Value} (hb : Below B w0 A) (ho : wr.ownsRow base e size v n xs) (hBb : B ≤ base) (hBh : B ≤ w0.heap.size)
    (hg : A.grownBy w1 v.ownBlock) : Below B w0 w1 :=
  Below.grown hb hg (Nat.le_trans hBh hb.size) fun k hk => Nat.le_trans hBb (ho.lt k hk).1

/-- a list of versions grows by one -/
theorem vers_push {w A w1 : World} {n : Nat} {vs : List (List Int)} {l' r : Value} {ptrs : List Value} {ys : List Int} (hst : Stay A w1)
    (hall : ∀ (i : Nat) (r : Value), ptrs[i]? = some r → ∃ xs : List Int, vs[i]? = some xs ∧ IsList A r n xs) (hlen : ptrs.length = vs.length) (hr : IsList A r n ys)
    (hown : w1.ownsRow w.heap.size 72 1 l' (vs.length + 1) (ptrs ++ [r])) :
    ∃ ptrs : List Value, w1.ownsRow w.heap.size 72 1 l' (vs ++ [ys]).length ptrs ∧ ptrs.length = (vs ++ [ys]).length ∧ ∀ (i : Nat) (r : Value), ptrs[i]? = some r → ∃ xs : List Int, (vs ++ [ys])[i]? = some xs ∧ IsList w1 r n xs := by
  refine ⟨ptrs ++ [r], by simpa using hown, by simp [hlen], fun i q hq => ?_⟩
  rcases Nat.lt_or_ge i ptrs.length with h | h
  · rw [List.getElem?_append_left h] at hq
    obtain ⟨xs, h1, h2⟩ := hall i q hq
    exact ⟨xs, by rw [List.getElem?_append_left (by omega)]; exact h1, h2.stay hst⟩
  · rw [List.getElem?_append_right h] at hq
    have : i - ptrs.length = 0 := by
      rcases Nat.eq_zero_or_pos (i - ptrs.length) with h | h
      · exact h
      · rw [List.getElem?_eq_none (by simp; omega)] at hq; cases hq
    rw [this] at hq
    simp only [List.getElem?_cons_zero, Option.some.injEq] at hq
    subst hq
    exact ⟨ys, by rw [List.getElem?_append_right (by omega), show i - vs.length = 0 by omega]; rfl, hr.stay hst⟩

set_option maxRecDepth 100000 in
set_option maxHeartbeats 1600000 in
theorem vers_w (w : World) (v0 : Value) (n0 : Nat) (xs0 : List Int) (sv : Value) (steps : List Stp) (sb so cap : Nat) (hsv : sv = .slice (some ⟨sb, so, none⟩) steps.length cap)
    (hsb : sb < w.heap.size) (hsteps : ∀ j s, steps[j]? = some s → ∀ i u, s.cells[i]? = some u → w.cell? ⟨sb, so + j * 5 + i, none⟩ = some u)
    (hnew : Calls Try.prog 55 #[v0] w (ListPost w n0 xs0)) (hn : n0 + 100000 * (steps.length + 1) < 33554431) (hG : Glob w) :
    Calls Try.prog 29 #[v0, sv] w fun e w' => ∃ l p, e = .returned (.tuple #[l, p]) ∧ Vers w (n0 + 100000 * steps.length) (versRun steps ([xs0], [])).1 (versRun steps ([xs0], [])).2 l p w' := by
  subst hsv
  obtain ⟨i72, hi, hz0, hz1, hz2⟩ := info_parts info72
  have HI72 := Lib.hid (And.intro hi (And.intro hz0 (And.intro hz1 hz2)))
  clear hi hz0 hz1 hz2
  obtain ⟨i4, hi, hz0, hz1, hz2⟩ := info_parts info4
  have HI4 := Lib.hid (And.intro hi (And.intro hz0 (And.intro hz1 hz2)))
  clear hi hz0 hz1 hz2
  have HST := Lib.hid hsteps
  have HG := Lib.hid hG
  have HN := Lib.hid hnew
  clear hsteps hG hnew
  go_enter Try.func29, Try.ntmps29
  go_wp2_with fail
  refine HN.out.mono ?_
  rintro e w1 ⟨r, rfl, k1, k2⟩
  have K1 := Lib.hid k1
  have K2 := Lib.hid k2
  obtain ⟨rb, rd, ro, rfl, _⟩ := k1
  clear k2 HN
  go_wp2_with (at_builtin; refine wpList_append_own _ rfl (.tmp 11) (.tmp 14) 69 rfl w.heap.size 72 i72 (.pointer none) 1 8 Try.underlying69 HI72.out.1 HI72.out.2.1 HI72.out.2.2.1 HI72.out.2.2.2 rfl (by decide) _ _ _ rfl (World.ownsRow_nil _ _ _ _) ⟨w1.heap.size, 0, none⟩ 1 1 [.pointer (some ⟨rb, 0, none⟩)] rfl rfl (new_cell _ _ _) (one_oneCell rfl) (by unfold maxLen; omega) (by omega) (by have := K2.out.size; simp; omega) ?_)
  intro l0 w2 hown hgrow _
  have HV : Hid (Vers w (n0 + 100000 * 0) (versRun (steps.take 0) ([xs0], [])).1 (versRun (steps.take 0) ([xs0], [])).2 l0 (.slice none 0 0) w2) := by
    have hA : Below w.heap.size w (w1.alloc (.cells #[.pointer (some ⟨rb, 0, none⟩)] 72)) := K2.out.alloc K2.out.size _
    have hb : Below w.heap.size w w2 := below_grown hA (World.ownsRow_nil w1 w.heap.size 72 1) (Nat.le_refl _) (Nat.le_refl _) hgrow
    refine ⟨hb, World.ownsRow_nil _ _ _ _, ?_⟩
    exact vers_push (vs := []) (ptrs := []) (grown_stay (World.ownsRow_nil _ w.heap.size 72 1) hgrow (by decide)) (fun i r h => by simp at h) rfl (K1.out.stay (Stay.of_below ((Below.refl _ w1).alloc (Nat.le_refl _) _))) hown
  clear hown hgrow K1 K2
  go_wp2_with fail
  go_loopg [4, 5, 18] steps.length (fun k l p i wr => ∃ j : Nat, j + k = steps.length ∧ i = .int .i64 (j : Int) ∧ Vers w (n0 + 100000 * j) (versRun (steps.take j) ([xs0], [])).1 (versRun (steps.take j) ([xs0], [])).2 l p wr)
  case atStart => exact ⟨0, by omega, rfl, HV.out⟩
  case round =>
    clear HV
    obtain ⟨j, hjk, rfl, hV⟩ := hrel
    have HV := Lib.hid hV
    clear hV
    have hw1 : IntKind.i64.wrap ((j : Int) + 1) = (j : Int) + 1 := by rw [IntKind.wrap_i64]; omega
    by_cases hlt : j < steps.length
    · have h1 : decide ((j : Int) < (steps.length : Int)) = true := by simp; omega
      obtain ⟨⟨sk, sF, sI, sE, sV⟩, hs⟩ : ∃ s, s = steps[j] := ⟨_, rfl⟩
      have hs' : steps[j]? = some ⟨sk, sF, sI, sE, sV⟩ := by rw [List.getElem?_eq_getElem hlt, hs]
      have hcells := HST.out j _ hs'
      have e0 : wr.cell? ⟨sb, so + j * 5, none⟩ = some (.int .u8 (sk : Int)) := (HV.out.below.cell hsb).trans (hcells 0 _ rfl)
      have e1 : wr.cell? ⟨sb, so + j * 5 + 1, none⟩ = some (.int .i64 sF) := (HV.out.below.cell hsb).trans (hcells 1 _ rfl)
      have e2 : wr.cell? ⟨sb, so + j * 5 + 2, none⟩ = some (.int .i64 sI) := (HV.out.below.cell hsb).trans (hcells 2 _ rfl)
      have e3 : wr.cell? ⟨sb, so + j * 5 + 3, none⟩ = some (.int .i64 sE) := (HV.out.below.cell hsb).trans (hcells 3 _ rfl)
      have e4 : wr.cell? ⟨sb, so + j * 5 + 4, none⟩ = some (.int .i64 sV) := (HV.out.below.cell hsb).trans (hcells 4 _ rfl)
      have HS := Lib.hid hs'
      clear hcells hs hs'
      have HNN : Hid (n0 + 100000 * j + 100000 < 33554431) := bound_a hn hlt
      obtain ⟨⟨vs, ps⟩, hR⟩ : ∃ R, R = versRun (steps.take j) ([xs0], []) := ⟨_, rfl⟩
      have hvl : vs.length = j + 1 := by
        have := versRun_len (steps.take j) ([xs0], [])
        rw [← hR] at this
        simpa [List.length_take, Nat.min_eq_left (Nat.le_of_lt hlt), Nat.add_comm] using this
      have hV := HV.out
      rw [← hR] at hV
      have HR := Lib.hid hR
      have HB := Lib.hid hV.below
      have HP := Lib.hid hV.ownP
      obtain ⟨ptrs, hoL, hpl, hpI⟩ := hV.ownL
      have HOL := Lib.hid hoL
      have HPI := Lib.hid hpI
      have HPL := Lib.hid hpl
      have HVL := Lib.hid hvl
      clear HV hV hR hpI hpl
      rcases hoL.2 with ⟨_, h0⟩ | ⟨g, lcap, cur, rfl, -, hg2, hg3, -, hg5, hg6⟩
      · simp only at h0; omega
      have HG2 := Lib.hid hg2
      clear hvl hoL hg2 hg3 hg5 hg6
      simp only at HOL HP ⊢
      go_wp2_with fail
      refine (new0_w _).mono ?_
      rintro e w' ⟨rfl, rfl⟩
      have hFs : (fresh (wr.alloc (.cells #[.int .u8 (sk : Int), .int .i64 sF, .int .i64 sI, .int .i64 sE, .int .i64 sV] 29))).heap[wr.heap.size]? = some (.cells #[.int .u8 (sk : Int), .int .i64 sF, .int .i64 sI, .int .i64 sE, .int .i64 sV] 29 (0, 0)) :=
        ((fresh_below _).block _ (by simp)).trans (heap_alloc_last wr _)
      have hFl := fresh_list (wr.alloc (.cells #[.int .u8 (sk : Int), .int .i64 sF, .int .i64 sI, .int .i64 sE, .int .i64 sV] 29))
      have hFb : But (fun _ => False) wr (fresh (wr.alloc (.cells #[.int .u8 (sk : Int), .int .i64 sF, .int .i64 sI, .int .i64 sE, .int .i64 sV] 29))) :=
        ((But.refl _ wr).alloc _).trans (But.of_below (fresh_below _))
      generalize (wr.alloc (.cells #[.int .u8 (sk : Int), .int .i64 sF, .int .i64 sI, .int .i64 sE, .int .i64 sV] 29)).heap.size + 1 = nb at hFl ⊢
      generalize fresh (wr.alloc (.cells #[.int .u8 (sk : Int), .int .i64 sF, .int .i64 sI, .int .i64 sE, .int .i64 sV] 29)) = F at hFs hFl hFb ⊢
      have HFs := Lib.hid hFs
      have HFl := Lib.hid hFl
      have HFb := Lib.hid hFb
      clear hFs hFl hFb e0 e1 e2 e3 e4
      go_upto_region 7 with (fail)
      have hXb : But (fun _ => False) wr (F.alloc (Obj.cells #[Value.pointer (some { block := nb, off := 0 })] 72)) := HFb.out.alloc _
      have hXs := ((But.refl (fun _ => False) F).alloc (.cells #[Value.pointer (some { block := nb, off := 0 })] 72)).at HFs.out id
      have hXx := heap_alloc_last F (.cells #[Value.pointer (some { block := nb, off := 0 })] 72)
      have hXl := HFl.out.stay (((But.refl (fun _ => False) F).alloc (.cells #[Value.pointer (some { block := nb, off := 0 })] 72)).stay fun _ _ _ _ h => h.elim)
      have hbx : wr.heap.size < F.heap.size := lt_of_block HFs.out
      generalize F.heap.size = bx at hXx hbx ⊢
      generalize F.alloc (Obj.cells #[Value.pointer (some { block := nb, off := 0 })] 72) = X at hXb hXs hXx hXl ⊢
      have HXb := Lib.hid hXb
      have HXs := Lib.hid hXs
      have HXx := Lib.hid hXx
      have HXl := Lib.hid hXl
      clear hXb hXs hXx hXl HFs HFl HFb
      have s0 := cell_at (j := 0) HXs.out rfl
      have s1 := cell_at (j := 1) HXs.out rfl
      have s2 := cell_at (j := 2) HXs.out rfl
      go_cut [57] from 23 to 56 (fun v wc => v = .bool (Stp.ok ⟨sk, sF, sI, sE, sV⟩ vs.length) ∧ X = wc)
      case first =>
        clear HG2 HOL HP HPI HPL HR HS HB HXs HXx HXl HXb HVL hw1 h1
        by_cases c1 : 0 ≤ sF
        · have d1 : decide (0 ≤ sF) = true := by simp [c1]
          by_cases c2 : sF < (vs.length : Int)
          · have d2 : decide (sF < (vs.length : Int)) = true := by simp [c2]
            by_cases c4 : sk = 4
            · subst c4
              by_cases c6 : 0 ≤ sI
              · have d6 : decide (0 ≤ sI) = true := by simp [c6]
                by_cases c7 : sI ≤ 100000
                · have d7 : decide (sI ≤ 100000) = true := by simp [c7]
                  go_wp2_with fail
                  go_meet
                  case rel => exact ⟨by simp only [Stp.ok, d1, d2, d6, d7]; rfl, rfl⟩
                · have d7 : decide (sI ≤ 100000) = false := by simp; omega
                  go_wp2_with fail
                  go_meet
                  case rel => exact ⟨by simp only [Stp.ok, d1, d2, d6, d7]; rfl, rfl⟩
              · have d6 : decide (0 ≤ sI) = false := by simp; omega
                go_wp2_with fail
                go_meet
                case rel => exact ⟨by simp only [Stp.ok, d1, d2, d6]; rfl, rfl⟩
            have n4 : ((sk : Int) != 4) = true := by simp; omega
            by_cases c5 : sk = 5
            · subst c5
              by_cases c6 : 0 ≤ sI
              · have d6 : decide (0 ≤ sI) = true := by simp [c6]
                by_cases c7 : sI ≤ 100000
                · have d7 : decide (sI ≤ 100000) = true := by simp [c7]
                  go_wp2_with fail
                  go_meet
                  case rel => exact ⟨by simp only [Stp.ok, d1, d2, d6, d7]; rfl, rfl⟩
                · have d7 : decide (sI ≤ 100000) = false := by simp; omega
                  go_wp2_with fail
                  go_meet
                  case rel => exact ⟨by simp only [Stp.ok, d1, d2, d6, d7]; rfl, rfl⟩
              · have d6 : decide (0 ≤ sI) = false := by simp; omega
                go_wp2_with fail
                go_meet
                case rel => exact ⟨by simp only [Stp.ok, d1, d2, d6]; rfl, rfl⟩
            have n5 : ((sk : Int) != 5) = true := by simp; omega
            have m4 : decide (sk ≠ 4) = true := by simp; omega
            have m5 : decide (sk ≠ 5) = true := by simp; omega
            by_cases c8 : sk ≤ 5
            · have d8 : decide ((sk : Int) ≤ 5) = true := by simp; omega
              have m8 : decide (sk ≤ 5) = true := by simp; omega
              go_wp2_with fail
              go_meet
              case rel => exact ⟨by simp only [Stp.ok, d1, d2, m4, m5, m8]; rfl, rfl⟩
            · have d8 : decide ((sk : Int) ≤ 5) = false := by simp; omega
              have m8 : decide (sk ≤ 5) = false := by simp; omega
              go_wp2_with fail
              go_meet
              case rel => exact ⟨by simp only [Stp.ok, d1, d2, m4, m5, m8]; rfl, rfl⟩
          · have d2 : decide (sF < (vs.length : Int)) = false := by simp; omega
            go_wp2_with fail
            go_meet
            case rel => exact ⟨by simp only [Stp.ok, d1, d2]; rfl, rfl⟩
        · have d1 : decide (0 ≤ sF) = false := by simp; omega
          go_wp2_with fail
          go_meet
          case rel => exact ⟨by simp only [Stp.ok, d1]; rfl, rfl⟩
      case rest =>
        obtain ⟨rfl, rfl⟩ := hcut
        clear s0 s1 s2
        go_upto_if 57 with (fail)
        go_cut [9, 10, 21, 57] from 58 to 66 (fun v9 _ _ _ wc => ∃ (r : Nat), v9 = .bool (Stp.make ⟨sk, sF, sI, sE, sV⟩ vs).2 ∧ wc.heap[bx]? = some (.cells #[.pointer (some ⟨r, 0, none⟩)] 72 (0, 0)) ∧
          IsList wc (.pointer (some ⟨r, 0, none⟩)) (n0 + 100000 * (j + 1)) (Stp.make ⟨sk, sF, sI, sE, sV⟩ vs).1 ∧ But (· = bx) X wc)
        case first =>
          by_cases hok : Stp.ok ⟨sk, sF, sI, sE, sV⟩ vs.length = true
          · have hok' := hok
            unfold Stp.ok at hok'
            simp only [Bool.and_eq_true, decide_eq_true_eq, Bool.or_eq_true] at hok'
            obtain ⟨c1, c2, c3, c4⟩ := hok'
            obtain ⟨f, rfl⟩ : ∃ f : Nat, sF = f := ⟨sF.toNat, by omega⟩
            have hf : f < vs.length := by omega
            obtain ⟨q, hq⟩ : ∃ q, ptrs[f]? = some q := ⟨ptrs[f]'(by rw [HPL.out]; exact hf), List.getElem?_eq_getElem _⟩
            obtain ⟨xs, hxs, hql⟩ := HPI.out f q hq
            have HQL := Lib.hid (hql.stay (HXb.out.stay fun _ _ _ _ h => h.elim))
            obtain ⟨qb, qd, qo, rfl, _⟩ := hql
            have hcell : X.cell? ⟨g, f, none⟩ = some (.pointer (some ⟨qb, 0, none⟩)) := by
              have h1 := HOL.out.cells (g := g) rfl f _ hq
              have h2 : (⟨g, 0, none⟩ : Addr).add f = ⟨g, f, none⟩ := by rw [Addr.add_lit, Nat.zero_add]
              rw [h2] at h1
              exact (World.cell?_of_block (HXb.out.block g (lt_of_block HG2.out) id)).trans h1
            have hmake : Stp.make ⟨sk, f, sI, sE, sV⟩ vs = match stepOf xs sk sI sE sV with | some ys => (ys, false) | none => (xs, true) := by
              unfold Stp.make
              rw [if_pos hok]
              have : vs.getD f [] = xs := by simp [List.getD, hxs]
              simp only [Int.toNat_natCast, this]
            have HMK := Lib.hid hmake
            clear hmake hxs
            rw [hok]
            have s1 := cell_at (j := 1) HXs.out rfl
            clear hok HXl
            go_wp2_with fail
            have hYb : But (fun _ => False) X (X.alloc (Obj.cells #[Value.pointer (some { block := qb, off := 0 })] 72)) := (But.refl _ X).alloc _
            have hYs : Stay X (X.alloc (Obj.cells #[Value.pointer (some { block := qb, off := 0 })] 72)) := hYb.stay fun _ _ _ _ h => h.elim
            have hYf := heap_alloc_last X (Obj.cells #[Value.pointer (some { block := qb, off := 0 })] 72)
            have hbs : wr.heap.size ≠ bx := Nat.ne_of_lt hbx
            have hI : 4 ≤ sk → 0 ≤ sI ∧ sI ≤ 100000 := fun h4 => by
              rcases c3 with ⟨h, h'⟩ | h
              · omega
              · exact h
            have hmore : n0 + 100000 * j + (if 4 ≤ sk then sI.toNat else 1) ≤ n0 + 100000 * (j + 1) := bound_b hI
            refine (thrown_any wr.heap.size X.heap.size bx qb sk f sI sE sV _ _ (n0 + 100000 * j) xs (hYb.at HXs.out id) hYf (hYb.at HXx.out id) hbs (HQL.out.stay hYs) c4 hI HNN.out
              (HG.out.stay (((Stay.of_below HB.out).trans (HXb.out.stay fun _ _ _ _ h => h.elim)).trans hYs))).mono ?_
            rintro e w' (⟨ys, r, g1, rfl, g2, g3, g4⟩ | ⟨g1, rfl, g2⟩)
            · have hm := HMK.out
              rw [g1] at hm
              have HM := Lib.hid hm
              have G2 := Lib.hid g2
              have G3 := Lib.hid (g3.more hmore)
              have G4 := Lib.hid ((hYb.wider (S' := (· = bx)) fun _ _ h => h.elim).trans g4)
              obtain ⟨rb', _, _, rfl, _⟩ := g3
              clear g2 g4 hm hYb hYs hYf hcell hq s1 hmore HMK g1
              go_wp2_with fail
              go_meet
              case rel =>
                rw [HM.out]
                exact ⟨rb', rfl, G2.out, G3.out, G4.out⟩
            · have hm := HMK.out
              rw [g1] at hm
              have HM := Lib.hid hm
              have hf' := cell_at (j := 0) (g2.at hYf id) rfl
              have hx' := g2.at (hYb.at HXx.out id) id
              have hx0 := cell_at (j := 0) hx' rfl
              have hx1 := frozen_of_row _ _ 0 _ _ hx'
              have HX' := Lib.hid hx'
              have G3 := Lib.hid (((HQL.out.stay hYs).stay (g2.stay fun _ _ _ _ h => h.elim)).more (m := n0 + 100000 * (j + 1)) (by omega))
              have G4 := Lib.hid ((hYb.trans g2).wider (S' := (· = bx)) fun _ _ h => h.elim)
              clear g2 hm hYb hYs hYf hcell hq s1 hmore HMK g1 hx'
              go_wp2_with fail
              go_meet
              case rel =>
                rw [HM.out]
                have R := cpost_end HX'.out G3.out G4.out
                exact ⟨qb, rfl, (by have := heap_setCell_same w' bx 0 _ 72 (.pointer (some ⟨qb, 0, none⟩)) HX'.out; simpa using this), G3.out.stay (stay_var HX'.out), G4.out.setCell (.inl rfl) _⟩
          · rw [Bool.not_eq_true] at hok
            have hmake : Stp.make ⟨sk, sF, sI, sE, sV⟩ vs = ([], false) := by
              unfold Stp.make
              rw [hok]
              rfl
            have HMK := Lib.hid hmake
            clear hmake
            rw [hok]
            go_wp2_with fail
            go_meet
            case rel =>
              rw [HMK.out]
              exact ⟨nb, rfl, HXx.out, HXl.out.more (by omega), But.refl _ _⟩
        case rest =>
          obtain ⟨r, rfl, k1, k2, k3⟩ := hcut
          have hW : But (· = bx) wr wc := (HXb.out.wider fun _ _ h => h.elim).trans k3
          have hGW : wr.grownBy wc (some bx) := ⟨hW.os, hW.tape, hW.output, hW.size, fun k hk hne => hW.block k hk fun e => hne (by rw [e])⟩
          have hstW : Stay wr wc := hW.stay fun b c t fz hb h => by subst hb; have := lt_of_block h; omega
          have hL1 := HOL.out.kept hGW (.inr fun e => by have := (HOL.out.lt bx e).2; omega)
          have hP1 := HP.out.kept hGW (by
            rcases h : Value.ownBlock u5 with _ | k
            · exact .inl rfl
            · refine .inr fun e => ?_
              have := (HP.out.lt k h).2
              simp only [Option.some.injEq] at e
              omega)
          have hpsl : ps.length = j := by
            have := versRun_lenP (steps.take j) ([xs0], [])
            rw [← HR.out] at this
            simpa [List.length_take, Nat.min_eq_left (Nat.le_of_lt hlt)] using this
          have hbW : Below w.heap.size w wc := HB.out.trans (hW.below HB.out.size fun k hk => by have := HB.out.size; omega)
          have x0 := cell_at (j := 0) k1 rfl
          have HL1 := Lib.hid hL1
          have HP1 := Lib.hid hP1
          have HBW := Lib.hid hbW
          have HSTW := Lib.hid hstW
          have K2 := Lib.hid k2
          have HPSL := Lib.hid hpsl
          clear hW hGW hstW hL1 hP1 hbW k1 k2 k3 HXb HXs HXx HXl HOL HP HG2 hbx hpsl
          generalize hmk : Stp.make ⟨sk, sF, sI, sE, sV⟩ vs = mk at K2 ⊢
          have HMK := Lib.hid hmk
          clear hmk
          obtain ⟨mys, mp⟩ := mk
          simp only at K2 ⊢
          go_wp2_with (at_builtin; refine wpList_append_own _ rfl (.tmp 67) (.tmp 69) 69 rfl w.heap.size 72 i72 (.pointer none) 1 8 Try.underlying69 HI72.out.1 HI72.out.2.1 HI72.out.2.2.1 HI72.out.2.2.2 rfl (by decide) _ _ _ rfl (HL1.out.alloc _) ⟨wc.heap.size, 0, none⟩ 1 1 [.pointer (some ⟨r, 0, none⟩)] rfl rfl (new_cell _ _ _) (one_oneCell rfl) (by rw [HVL.out]; unfold maxLen; omega) (by rw [HVL.out]; omega) (by have := HBW.out.size; simp; omega) ?_)
          intro l' w2 hown2 hgrow2 _
          have hP2 := (HP1.out.alloc (.cells #[.pointer (some ⟨r, 0, none⟩)] 72)).kept hgrow2 (own_ne HP1.out HL1.out (by decide))
          have hb2 := below_grown (HBW.out.alloc HBW.out.size (.cells #[.pointer (some ⟨r, 0, none⟩)] 72)) HL1.out (Nat.le_refl _) (Nat.le_refl _) hgrow2
          have hst2 : Stay wc w2 := (Stay.of_below ((Below.refl _ wc).alloc (Nat.le_refl _) _)).trans (grown_stay (HL1.out.alloc _) hgrow2 (by decide))
          have HP2 := Lib.hid hP2
          have HB2 := Lib.hid hb2
          have HST2 := Lib.hid hst2
          have HL2 := Lib.hid hown2
          clear hP2 hb2 hst2 hown2 hgrow2
          go_wp2_with (at_builtin; refine wpList_append_own _ rfl (.tmp 71) (.tmp 73) 25 rfl w.heap.size 4 i4 (.bool false) 1 1 Try.underlying25 HI4.out.1 HI4.out.2.1 HI4.out.2.2.1 HI4.out.2.2.2 rfl (by decide) _ _ _ rfl (HP2.out.alloc _) ⟨w2.heap.size, 0, none⟩ 1 1 [.bool mp] rfl rfl (new_cell _ _ _) (one_oneCell rfl) (by rw [HPSL.out]; unfold maxLen; omega) (by rw [HPSL.out]; omega) (by have := HB2.out.size; simp; omega) ?_)
          intro p' w3 hown3 hgrow3 _
          have HL3 := Lib.hid ((HL2.out.alloc (.cells #[.bool mp] 4)).kept hgrow3 (own_ne HL2.out HP2.out (by decide)))
          have HB3 := Lib.hid (below_grown (HB2.out.alloc HB2.out.size (.cells #[.bool mp] 4)) HP2.out (Nat.le_refl _) (Nat.le_refl _) hgrow3)
          have HST3 := Lib.hid (HST2.out.trans ((Stay.of_below ((Below.refl _ w2).alloc (Nat.le_refl _) _)).trans (grown_stay (HP2.out.alloc _) hgrow3 (by decide))))
          have HP3 := Lib.hid hown3
          clear hown3 hgrow3 x0
          go_wp2_with fail
          go_roundg (gk - 1)
          case measure => omega
          case rel =>
            refine ⟨j + 1, by omega, rfl, ?_⟩
            have e1 : steps.take (j + 1) = steps.take j ++ [⟨sk, sF, sI, sE, sV⟩] := by
              rw [List.take_add_one, HS.out]; rfl
            rw [e1, versRun_snoc, ← HR.out]
            simp only [HMK.out]
            refine ⟨HB3.out, by simpa using HP3.out, ?_⟩
            refine vers_push HST3.out (fun i q hq => ?_) HPL.out K2.out (by simpa using HL3.out)
            obtain ⟨xs, h1, h2⟩ := HPI.out i q hq
            exact ⟨xs, h1, (h2.stay HSTW.out).more (by omega)⟩
    · have h1 : decide ((j : Int) < (steps.length : Int)) = false := by simp; omega
      obtain rfl : j = steps.length := by omega
      go_wp2_with fail
      have h := HV.out
      rw [List.take_length] at h
      refine bodyPost_ret (results_tmp2 rfl _ _ _) rfl ?_
      exact ⟨_, _, rfl, h⟩

end Go.Proofs.Ytnahipfdnadccaa

namespace Go.Proofs.Ytnahipfdnadccaa
open Go.RowKit

theorem info32 : (Try.prog.info? 32).map (fun i => (i.zero, i.size, i.bytes)) = some (some (.slice none 0 0), 1, 24) := by kernel_rfl

theorem grown_below {w w' : World} (h : Below w.heap.size w w') : w.grownBy w' none := ⟨h.os, h.tape, h.output, h.size, fun k hk _ => h.block k hk⟩
theorem own_below {w w' : World} {b size n : Nat} {e : TypeId} {v : Value} {xs : List Value} (ho : w.ownsRow b e size v n xs) (h : Below w.heap.size w w') : w'.ownsRow b e size v n xs :=
  ho.kept (grown_below h) (by cases hv : v.ownBlock <;> simp)
theorem own_base {w : World} {b b' size n : Nat} {e : TypeId} {v : Value} {xs : List Value} (ho : w.ownsRow b e size v n xs) (h : b' ≤ b) : w.ownsRow b' e size v n xs := by
  refine ⟨ho.1, ?_⟩
  rcases ho.2 with h1 | ⟨g, cap, cur, h1, h2, h3⟩
  · exact .inl h1
  · exact .inr ⟨g, cap, cur, h1, Nat.le_trans h h2, h3⟩

/-- v is a slice of whole numbers, the call's own -/
def Ints (w : World) (B : Nat) (u : Value) (xs : List Int) : Prop := w.ownsRow B 2 1 u xs.length (xs.map (Value.int .i64)) ∧ (xs = [] → u = .slice none 0 0)
/-- v is a slice of slices of whole numbers, the call's own -/
def Rows2 (w : World) (B : Nat) (v : Value) (vs : List (List Int)) : Prop :=
  ∃ us : List Value, w.ownsRow B 32 1 v vs.length us ∧ us.length = vs.length ∧ ∀ (i : Nat) (u : Value), us[i]? = some u → ∃ xs : List Int, vs[i]? = some xs ∧ Ints w B u xs

theorem rows2_push {w0 A w1 : World} {vs : List (List Int)} {v' u : Value} {us : List Value} {ys : List Int}
    (hkeep : ∀ u xs, Ints A w0.heap.size u xs → Ints w1 w0.heap.size u xs)
    (hall : ∀ (i : Nat) (u : Value), us[i]? = some u → ∃ xs : List Int, vs[i]? = some xs ∧ Ints A w0.heap.size u xs) (hlen : us.length = vs.length) (hr : Ints A w0.heap.size u ys)
    (hown : w1.ownsRow w0.heap.size 32 1 v' (vs.length + 1) (us ++ [u])) : Rows2 w1 w0.heap.size v' (vs ++ [ys]) := by
  refine ⟨us ++ [u], by simpa using hown, by simp [hlen], fun i q hq => ?_⟩
  rcases Nat.lt_or_ge i us.length with h | h
  · rw [List.getElem?_append_left h] at hq
    obtain ⟨xs, h1, h2⟩ := hall i q hq
    exact ⟨xs, by rw [List.getElem?_append_left (by omega)]; exact h1, hkeep _ _ h2⟩
  · rw [List.getElem?_append_right h] at hq
    have : i - us.length = 0 := by
      rcases Nat.eq_zero_or_pos (i - us.length) with h | h
      · exact h
      · rw [List.getElem?_eq_none (by simp; omega)] at hq; cases hq
    rw [this] at hq
    simp only [List.getElem?_cons_zero, Option.some.injEq] at hq
    subst hq
    exact ⟨ys, by rw [List.getElem?_append_right (by omega), show i - vs.length = 0 by omega]; rfl, hkeep _ _ hr⟩

theorem Vers.kept {w wr w' : World} {n : Nat} {vs : List (List Int)} {ps : List Bool} {l p : Value} (h : Vers w n vs ps l p wr) (hb : Below w.heap.size w w') (hs : Stay wr w')
    (hP : wr.ownsRow w.heap.size 4 1 p ps.length (ps.map Value.bool) → w'.ownsRow w.heap.size 4 1 p ps.length (ps.map Value.bool))
    (hL : ∀ ptrs, wr.ownsRow w.heap.size 72 1 l vs.length ptrs → w'.ownsRow w.heap.size 72 1 l vs.length ptrs) : Vers w n vs ps l p w' := by
  obtain ⟨ptrs, h1, h2, h3⟩ := h.ownL
  exact ⟨hb, hP h.ownP, ptrs, hL _ h1, h2, fun i r hr => by
    obtain ⟨xs, h4, h5⟩ := h3 i r hr
    exact ⟨xs, h4, h5.stay hs⟩⟩

set_option maxRecDepth 100000 in
set_option maxHeartbeats 1600000 in
/-- ListRun, given what versionsOf does -/
theorem run_w (w : World) (v0 sv : Value) (n : Nat) (vs : List (List Int)) (ps : List Bool) (hn : n < 33554432) (hvs : vs.length ≤ 1000000)
    (h : Calls Try.prog 29 #[v0, sv] w fun e w' => ∃ l p, e = .returned (.tuple #[l, p]) ∧ Vers w n vs ps l p w') :
    Calls Try.prog 15 #[v0, sv] w fun e w' => ∃ l p, e = .returned (.tuple #[l, p]) ∧ Below w.heap.size w w' ∧ Rows2 w' w.heap.size l vs ∧ w'.ownsRow w.heap.size 4 1 p ps.length (ps.map Value.bool) := by
  obtain ⟨i32, hi, hz0, hz1, hz2⟩ := info_parts info32
  have HI := Lib.hid (And.intro hi (And.intro hz0 (And.intro hz1 hz2)))
  clear hi hz0 hz1 hz2
  have HH := Lib.hid h
  clear h
  go_enter Try.func15, Try.ntmps15
  go_wp2_with fail
  refine HH.out.mono ?_
  rintro e w1 ⟨l, p, rfl, hV⟩
  have HV := Lib.hid hV
  obtain ⟨ptrs, hoL, hpl, -⟩ := hV.ownL
  have hll : ∃ la lc, l = .slice la vs.length lc := by
    rcases hoL.2 with ⟨h1, h2⟩ | ⟨g, cap, cur, h1, _⟩
    · exact ⟨none, 0, by rw [h1, h2]⟩
    · exact ⟨_, _, h1⟩
  obtain ⟨la, lc, rfl⟩ := hll
  clear hV hoL hpl HH
  go_wp2_with fail
  go_loopg [4, 18] vs.length (fun k v i wr => ∃ j : Nat, j + k = vs.length ∧ i = .int .i64 (j : Int) ∧ Vers w n vs ps (.slice la vs.length lc) p wr ∧ Rows2 wr w.heap.size v (vs.take j))
  case atStart => exact ⟨0, by omega, rfl, HV.out, [], World.ownsRow_nil _ _ _ _, rfl, fun i u h => by simp at h⟩
  case round =>
    clear HV ptrs
    obtain ⟨j, hjk, rfl, hV, hR⟩ := hrel
    have HV := Lib.hid hV
    clear hV
    have hw1 : IntKind.i64.wrap ((j : Int) + 1) = (j : Int) + 1 := by rw [IntKind.wrap_i64]; omega
    by_cases hlt : j < vs.length
    · have h1 : decide ((j : Int) < (vs.length : Int)) = true := by simp; omega
      obtain ⟨us, hoU, hul, hUI⟩ := hR
      have htl : (vs.take j).length = j := by simp; omega
      rw [htl] at hoU hul
      obtain ⟨ptrs, hoL, hpl, hpI⟩ := HV.out.ownL
      obtain ⟨q, hq⟩ : ∃ q, ptrs[j]? = some q := ⟨ptrs[j]'(by rw [hpl]; exact hlt), List.getElem?_eq_getElem _⟩
      obtain ⟨xs, hxs, hql⟩ := hpI j q hq
      have HQL := Lib.hid hql
      rcases hoL.2 with ⟨_, h0⟩ | ⟨g, lcap, cur, hl1, -, -, -, -, -, -⟩
      · omega
      have hcell : wr.cell? ⟨g, j, none⟩ = some q := by
        have h1 := hoL.cells (g := g) (by rw [hl1]; rfl) j _ hq
        rw [Addr.add_lit, Nat.zero_add] at h1
        exact h1
      simp only [Value.slice.injEq] at hl1
      obtain ⟨rfl, -, rfl⟩ := hl1
      have HOU := Lib.hid hoU
      have HUI := Lib.hid hUI
      have HUL := Lib.hid hul
      have HXS := Lib.hid hxs
      clear hoU hUI hul hxs hoL hpl hpI hq hql htl
      go_wp2_with fail
      refine (got_any HQL.out hn).mono ?_
      rintro e w2 ⟨u, rfl, k1, k2, k3⟩
      have K := Lib.hid (And.intro k1 k3)
      have K2 := Lib.hid k2
      have hV2 : Vers w n vs ps (.slice (some ⟨g, 0, none⟩) vs.length lc) p w2 := HV.out.kept (HV.out.below.trans (k2.mono HV.out.below.size)) (Stay.of_below k2) (fun h => own_below h k2) (fun _ h => own_below h k2)
      have hO2 := own_below HOU.out k2
      have hsl : ∃ ua uc, u = .slice ua xs.length uc := by
        rcases k1.2 with ⟨h1, h2⟩ | ⟨g, cap, cur, h1, _⟩
        · exact ⟨none, 0, by rw [h1, h2]⟩
        · exact ⟨_, _, h1⟩
      obtain ⟨ua, uc, rfl⟩ := hsl
      have HV2 := Lib.hid hV2
      have HO2 := Lib.hid hO2
      clear k1 k2 k3 hV2 hO2 hcell
      go_wp2_with (at_builtin; refine wpList_append_own _ rfl (.tmp 22) (.tmp 25) 24 rfl w.heap.size 32 i32 (.slice none 0 0) 1 24 Try.underlying24 HI.out.1 HI.out.2.1 HI.out.2.2.1 HI.out.2.2.2 rfl (by decide) _ _ _ rfl (HO2.out.alloc _) ⟨w2.heap.size, 0, none⟩ 1 1 [.slice ua xs.length uc] rfl rfl (new_cell _ _ _) (one_oneCell rfl) (by unfold maxLen; omega) (by omega) (by have := HV2.out.below.size; simp; omega) ?_)
      intro v' w3 hown3 hgrow3 _
      have hA : Below w2.heap.size w2 (w2.alloc (.cells #[.slice ua xs.length uc] 32)) := (Below.refl _ w2).alloc (Nat.le_refl _) _
      have hB3 := below_grown (HV2.out.below.alloc HV2.out.below.size (.cells #[.slice ua xs.length uc] 32)) HO2.out (Nat.le_refl _) (Nat.le_refl _) hgrow3
      have keep : ∀ {b size n : Nat} {e : TypeId} {v : Value} {xs : List Value}, e ≠ 32 → w2.ownsRow b e size v n xs → w3.ownsRow b e size v n xs := fun he h =>
        (own_below h hA).kept hgrow3 (own_ne h HO2.out he)
      have HV3 := Lib.hid (HV2.out.kept hB3 ((Stay.of_below hA).trans (grown_stay (HO2.out.alloc _) hgrow3 (by decide))) (fun h => keep (by decide) h) (fun _ h => keep (by decide) h))
      have hR3 : Rows2 w3 w.heap.size v' (vs.take j ++ [xs]) := by
        refine rows2_push (A := w2) (fun u ys h => ⟨keep (by decide) h.1, h.2⟩) (fun i u hu => ?_) (us := us) (by rw [HUL.out]; simp; omega) ⟨own_base K.out.1 (HV.out.below.size), K.out.2⟩ ?_
        · obtain ⟨ys, h1, h2⟩ := HUI.out i u hu
          exact ⟨ys, h1, own_below h2.1 K2.out, h2.2⟩
        · have e : (vs.take j).length = j := by simp; omega
          rw [e]
          exact hown3
      have HR3 := Lib.hid hR3
      clear hR3 hown3 hgrow3 hA hB3 keep
      go_wp2_with fail
      go_roundg (gk - 1)
      case measure => omega
      case rel =>
        refine ⟨j + 1, by omega, rfl, HV3.out, ?_⟩
        rw [List.take_add_one, HXS.out]
        exact HR3.out
    · have h1 : decide ((j : Int) < (vs.length : Int)) = false := by simp; omega
      obtain rfl : j = vs.length := by omega
      rw [List.take_length] at hR
      have HR := Lib.hid hR
      clear hR
      go_wp2_with fail
      refine bodyPost_ret (results_tmp2 rfl _ _ _) rfl ?_
      exact ⟨_, _, rfl, HV.out.below, HR.out, HV.out.ownP⟩

end Go.Proofs.Ytnahipfdnadccaa

namespace Go.Proofs.Ytnahipfdnadccaa
open Go.RowKit

/-- memory, streams and tape are as they were -/
structure Same (w w' : World) : Prop where
  heap : w'.heap = w.heap
  os : w'.os = w.os
  tape : w'.tape = w.tape
  output : w'.output = w.output
theorem Same.refl (w : World) : Same w w := ⟨rfl, rfl, rfl, rfl⟩
theorem Same.drew {w w' : World} (h : Same w w') : Same w w'.drew := ⟨h.heap, h.os, h.tape, h.output⟩
theorem Same.trans {a b c : World} (h : Same a b) (k : Same b c) : Same a c := ⟨k.heap.trans h.heap, k.os.trans h.os, k.tape.trans h.tape, k.output.trans h.output⟩
theorem Same.cell {w w' : World} (h : Same w w') {a : Addr} {v : Value} (hc : w.cell? a = some v) : w'.cell? a = some v := by
  rw [World.cell?_of_block (w := w) (by rw [h.heap])]; exact hc
theorem Same.below {w w' : World} (h : Same w w') (B : Nat) : Below B w w' := ⟨h.os, h.tape, h.output, by rw [h.heap]; exact Nat.le_refl _, fun k _ => by rw [h.heap]⟩

/-- u is a slice that reads cs -/
def SlV (w : World) (u : Value) (cs : List Value) : Prop :=
  ∃ (a : Option Addr) (cap : Nat), u = .slice a cs.length cap ∧ ∀ (i : Nat) (c : Value), cs[i]? = some c → ∃ g o, a = some ⟨g, o, none⟩ ∧ w.cell? ⟨g, o + i, none⟩ = some c
theorem SlV.same {w w' : World} {u : Value} {cs : List Value} (h : SlV w u cs) (s : Same w w') : SlV w' u cs := by
  obtain ⟨a, cap, h1, h2⟩ := h
  exact ⟨a, cap, h1, fun i c hc => by obtain ⟨g, o, h3, h4⟩ := h2 i c hc; exact ⟨g, o, h3, s.cell h4⟩⟩
theorem SlV.below {w w' : World} {u : Value} {cs : List Value} (h : SlV w u cs) (s : Below w.heap.size w w') : SlV w' u cs := by
  obtain ⟨a, cap, h1, h2⟩ := h
  exact ⟨a, cap, h1, fun i c hc => by obtain ⟨g, o, h3, h4⟩ := h2 i c hc; exact ⟨g, o, h3, (s.cell (World.block_lt_of_cell? w _ h4)).trans h4⟩⟩
theorem SlV.of_own {w : World} {B n : Nat} {e : TypeId} {u : Value} {cs : List Value} (h : w.ownsRow B e 1 u n cs) : SlV w u cs := by
  have hn : cs.length = n := by simpa using h.1
  rcases h.2 with ⟨rfl, rfl⟩ | ⟨g, cap, cur, rfl, _⟩
  · have : cs = [] := List.eq_nil_of_length_eq_zero hn
    subst this
    exact ⟨none, 0, rfl, fun i c hc => by simp at hc⟩
  · refine ⟨_, cap, by rw [hn], fun i c hc => ⟨g, 0, rfl, ?_⟩⟩
    have := h.cells (g := g) rfl i c hc
    rwa [Addr.add_lit] at this


set_option maxRecDepth 100000 in
set_option maxHeartbeats 800000 in
theorem equal_ints_w (g o cap g' o' cap' : Nat) (xs ys : List Int) (w : World) (hl : xs.length = ys.length) (hm : xs.length < 1000000000)
    (hx : ∀ (i : Nat) (x : Int), xs[i]? = some x → w.cell? ⟨g, o + i, none⟩ = some (Value.int .i64 x)) (hy : ∀ (i : Nat) (x : Int), ys[i]? = some x → w.cell? ⟨g', o' + i, none⟩ = some (Value.int .i64 x)) :
    Calls Try.prog 16 #[.slice (some ⟨g, o, none⟩) xs.length cap, .slice (some ⟨g', o', none⟩) xs.length cap'] w fun e w' => e = .returned (.bool (decide (xs = ys))) ∧ Same w w' := by
  have HX := Lib.hid hx; clear hx
  have HY := Lib.hid hy; clear hy
  have HL := Lib.hid hl; clear hl
  have hnn : ((xs.length : Int) != (xs.length : Int)) = false := by simp
  go_enter Try.func16, Try.ntmps16
  go_wp2_with fail
  clear hnn
  go_loopg [13] xs.length (fun k v wr => ∃ i : Nat, i + k = xs.length ∧ v = .int .i64 (i : Int) ∧ xs.take i = ys.take i ∧ Same w wr)
  case atStart => exact ⟨0, by omega, rfl, rfl, Same.refl w⟩
  case round =>
    obtain ⟨i, hik, rfl, ht, hs⟩ := hrel
    have HT := Lib.hid ht; clear ht
    have HS := Lib.hid hs
    have hw1 : IntKind.i64.wrap ((i : Int) + 1) = (i : Int) + 1 := by rw [IntKind.wrap_i64]; omega
    by_cases hlt : i < xs.length
    · have h1 : decide ((i : Int) < (xs.length : Int)) = true := by simp; omega
      obtain ⟨x, hxi⟩ : ∃ x, xs[i]? = some x := ⟨xs[i], List.getElem?_eq_getElem hlt⟩
      obtain ⟨y, hyi⟩ : ∃ y, ys[i]? = some y := ⟨ys[i]'(by rw [← HL.out]; exact hlt), List.getElem?_eq_getElem _⟩
      have cx := hs.cell (HX.out i x hxi)
      have cy := hs.cell (HY.out i y hyi)
      have HXI := Lib.hid hxi; clear hxi
      have HYI := Lib.hid hyi; clear hyi hs
      by_cases he : x = y
      · have hne : (x != y) = false := by simp [he]
        have HE := Lib.hid he; clear he
        go_wp2_with fail
        refine region_still (by kernel_rfl) (by kernel_rfl) ?_
        repeat still_step
        refine wpStill_nil ?_
        go_wp2_with fail
        go_roundg (gk - 1)
        case measure => omega
        case rel =>
          refine ⟨i + 1, by omega, rfl, ?_, HS.out.drew⟩
          rw [List.take_add_one, List.take_add_one, HXI.out, HYI.out, HT.out, HE.out]
      · have hne : (x != y) = true := by simp [he]
        have HE := Lib.hid he; clear he
        go_wp2_with fail
        refine region_still (by kernel_rfl) (by kernel_rfl) ?_
        repeat still_step
        refine wpStill_nil ?_
        go_wp2_with fail
        go_ret
        refine ⟨?_, HS.out.drew⟩
        have : ¬ xs = ys := fun e => by
          have h1 := HXI.out
          rw [e, HYI.out] at h1
          exact HE.out (Option.some.inj h1).symm
        rw [decide_eq_false this]
        rfl
    · have h1 : decide ((i : Int) < (xs.length : Int)) = false := by simp; omega
      go_wp2_with fail
      go_ret
      refine ⟨?_, HS.out⟩
      have h2 := HT.out
      rw [List.take_of_length_le (by omega), List.take_of_length_le (by rw [← HL.out]; omega)] at h2
      rw [decide_eq_true h2]
      rfl

set_option maxRecDepth 100000 in
set_option maxHeartbeats 800000 in
theorem equal_ints_0 (a a' : Option Addr) (cap cap' : Nat) (w : World) :
    Calls Try.prog 16 #[.slice a 0 cap, .slice a' 0 cap'] w fun e w' => e = .returned (.bool true) ∧ Same w w' := by
  go_enter Try.func16, Try.ntmps16
  go_wp2_with fail
  refine wp_loop_once ?_
  go_wp2_with fail
  go_ret
  exact ⟨rfl, Same.refl w⟩

set_option maxRecDepth 100000 in
set_option maxHeartbeats 800000 in
theorem equal_ints_ne (a a' : Option Addr) (n n' cap cap' : Nat) (w : World) (hn : n ≠ n') :
    Calls Try.prog 16 #[.slice a n cap, .slice a' n' cap'] w fun e w' => e = .returned (.bool false) ∧ Same w w' := by
  have hnn : ((n : Int) != (n' : Int)) = true := by simp; omega
  go_enter Try.func16, Try.ntmps16
  go_wp2_with fail
  go_ret
  exact ⟨rfl, Same.refl w⟩

/-- slices.Equal -/
theorem equal_ints {w : World} {u v : Value} {xs ys : List Int} (hu : SlV w u (xs.map (Value.int .i64))) (hv : SlV w v (ys.map (Value.int .i64))) (hm : xs.length < 1000000000) :
    Calls Try.prog 16 #[u, v] w fun e w' => e = .returned (.bool (decide (xs = ys))) ∧ Same w w' := by
  obtain ⟨a, cap, rfl, hu⟩ := hu
  obtain ⟨a', cap', rfl, hv⟩ := hv
  rw [List.length_map, List.length_map]
  by_cases hl : xs.length = ys.length
  · rcases Nat.eq_zero_or_pos xs.length with h0 | h0
    · have e1 := List.eq_nil_of_length_eq_zero h0
      have e2 := List.eq_nil_of_length_eq_zero (hl ▸ h0 : ys.length = 0)
      subst e1 e2
      exact (equal_ints_0 a a' cap cap' w).mono fun e w' h => ⟨by rw [h.1]; rfl, h.2⟩
    · obtain ⟨g, o, rfl, _⟩ := hu 0 ((Value.int .i64) xs[0]) (by rw [List.getElem?_map, List.getElem?_eq_getElem h0]; rfl)
      obtain ⟨g', o', rfl, _⟩ := hv 0 (Value.int .i64 ys[0]) (by rw [List.getElem?_map, List.getElem?_eq_getElem (by omega)]; rfl)
      rw [← hl]
      refine equal_ints_w g o cap g' o' cap' xs ys w hl hm (fun i x hx => ?_) (fun i x hx => ?_)
      · obtain ⟨g2, o2, h1, h2⟩ := hu i (Value.int .i64 x) (by rw [List.getElem?_map, hx]; rfl)
        simp only [Option.some.injEq, Addr.mk.injEq, and_true] at h1
        obtain ⟨rfl, rfl⟩ := h1
        exact h2
      · obtain ⟨g2, o2, h1, h2⟩ := hv i (Value.int .i64 x) (by rw [List.getElem?_map, hx]; rfl)
        simp only [Option.some.injEq, Addr.mk.injEq, and_true] at h1
        obtain ⟨rfl, rfl⟩ := h1
        exact h2
  · refine (equal_ints_ne a a' xs.length ys.length cap cap' w hl).mono fun e w' h => ⟨?_, h.2⟩
    rw [h.1, decide_eq_false fun e => hl (by rw [e])]


set_option maxRecDepth 100000 in
set_option maxHeartbeats 800000 in
theorem equal_bools_w (g o cap g' o' cap' : Nat) (xs ys : List Bool) (w : World) (hl : xs.length = ys.length) (hm : xs.length < 1000000000)
    (hx : ∀ (i : Nat) (x : Bool), xs[i]? = some x → w.cell? ⟨g, o + i, none⟩ = some (Value.bool x)) (hy : ∀ (i : Nat) (x : Bool), ys[i]? = some x → w.cell? ⟨g', o' + i, none⟩ = some (Value.bool x)) :
    Calls Try.prog 23 #[.slice (some ⟨g, o, none⟩) xs.length cap, .slice (some ⟨g', o', none⟩) xs.length cap'] w fun e w' => e = .returned (.bool (decide (xs = ys))) ∧ Same w w' := by
  have HX := Lib.hid hx; clear hx
  have HY := Lib.hid hy; clear hy
  have HL := Lib.hid hl; clear hl
  have hnn : ((xs.length : Int) != (xs.length : Int)) = false := by simp
  go_enter Try.func23, Try.ntmps23
  go_wp2_with fail
  clear hnn
  go_loopg [13] xs.length (fun k v wr => ∃ i : Nat, i + k = xs.length ∧ v = .int .i64 (i : Int) ∧ xs.take i = ys.take i ∧ Same w wr)
  case atStart => exact ⟨0, by omega, rfl, rfl, Same.refl w⟩
  case round =>
    obtain ⟨i, hik, rfl, ht, hs⟩ := hrel
    have HT := Lib.hid ht; clear ht
    have HS := Lib.hid hs
    have hw1 : IntKind.i64.wrap ((i : Int) + 1) = (i : Int) + 1 := by rw [IntKind.wrap_i64]; omega
    by_cases hlt : i < xs.length
    · have h1 : decide ((i : Int) < (xs.length : Int)) = true := by simp; omega
      obtain ⟨x, hxi⟩ : ∃ x, xs[i]? = some x := ⟨xs[i], List.getElem?_eq_getElem hlt⟩
      obtain ⟨y, hyi⟩ : ∃ y, ys[i]? = some y := ⟨ys[i]'(by rw [← HL.out]; exact hlt), List.getElem?_eq_getElem _⟩
      have cx := hs.cell (HX.out i x hxi)
      have cy := hs.cell (HY.out i y hyi)
      have HXI := Lib.hid hxi; clear hxi
      have HYI := Lib.hid hyi; clear hyi hs
      cases x <;> cases y
      · go_wp2_with fail
        refine region_still (by kernel_rfl) (by kernel_rfl) ?_
        repeat still_step
        refine wpStill_nil ?_
        go_wp2_with fail
        go_roundg (gk - 1)
        case measure => omega
        case rel =>
          refine ⟨i + 1, by omega, rfl, ?_, HS.out.drew⟩
          rw [List.take_add_one, List.take_add_one, HXI.out, HYI.out, HT.out]
      · go_wp2_with fail
        refine region_still (by kernel_rfl) (by kernel_rfl) ?_
        repeat still_step
        refine wpStill_nil ?_
        go_wp2_with fail
        go_ret
        refine ⟨?_, HS.out.drew⟩
        have : ¬ xs = ys := fun e => by
          have h1 := HXI.out
          rw [e, HYI.out] at h1
          exact absurd (Option.some.inj h1) (by decide)
        rw [decide_eq_false this]
        rfl
      · go_wp2_with fail
        refine region_still (by kernel_rfl) (by kernel_rfl) ?_
        repeat still_step
        refine wpStill_nil ?_
        go_wp2_with fail
        go_ret
        refine ⟨?_, HS.out.drew⟩
        have : ¬ xs = ys := fun e => by
          have h1 := HXI.out
          rw [e, HYI.out] at h1
          exact absurd (Option.some.inj h1) (by decide)
        rw [decide_eq_false this]
        rfl
      · go_wp2_with fail
        refine region_still (by kernel_rfl) (by kernel_rfl) ?_
        repeat still_step
        refine wpStill_nil ?_
        go_wp2_with fail
        go_roundg (gk - 1)
        case measure => omega
        case rel =>
          refine ⟨i + 1, by omega, rfl, ?_, HS.out.drew⟩
          rw [List.take_add_one, List.take_add_one, HXI.out, HYI.out, HT.out]
    · have h1 : decide ((i : Int) < (xs.length : Int)) = false := by simp; omega
      go_wp2_with fail
      go_ret
      refine ⟨?_, HS.out⟩
      have h2 := HT.out
      rw [List.take_of_length_le (by omega), List.take_of_length_le (by rw [← HL.out]; omega)] at h2
      rw [decide_eq_true h2]
      rfl

set_option maxRecDepth 100000 in
set_option maxHeartbeats 800000 in
theorem equal_bools_0 (a a' : Option Addr) (cap cap' : Nat) (w : World) :
    Calls Try.prog 23 #[.slice a 0 cap, .slice a' 0 cap'] w fun e w' => e = .returned (.bool true) ∧ Same w w' := by
  go_enter Try.func23, Try.ntmps23
  go_wp2_with fail
  refine wp_loop_once ?_
  go_wp2_with fail
  go_ret
  exact ⟨rfl, Same.refl w⟩

set_option maxRecDepth 100000 in
set_option maxHeartbeats 800000 in
theorem equal_bools_ne (a a' : Option Addr) (n n' cap cap' : Nat) (w : World) (hn : n ≠ n') :
    Calls Try.prog 23 #[.slice a n cap, .slice a' n' cap'] w fun e w' => e = .returned (.bool false) ∧ Same w w' := by
  have hnn : ((n : Int) != (n' : Int)) = true := by simp; omega
  go_enter Try.func23, Try.ntmps23
  go_wp2_with fail
  go_ret
  exact ⟨rfl, Same.refl w⟩

/-- slices.Equal -/
theorem equal_bools {w : World} {u v : Value} {xs ys : List Bool} (hu : SlV w u (xs.map Value.bool)) (hv : SlV w v (ys.map Value.bool)) (hm : xs.length < 1000000000) :
    Calls Try.prog 23 #[u, v] w fun e w' => e = .returned (.bool (decide (xs = ys))) ∧ Same w w' := by
  obtain ⟨a, cap, rfl, hu⟩ := hu
  obtain ⟨a', cap', rfl, hv⟩ := hv
  rw [List.length_map, List.length_map]
  by_cases hl : xs.length = ys.length
  · rcases Nat.eq_zero_or_pos xs.length with h0 | h0
    · have e1 := List.eq_nil_of_length_eq_zero h0
      have e2 := List.eq_nil_of_length_eq_zero (hl ▸ h0 : ys.length = 0)
      subst e1 e2
      exact (equal_bools_0 a a' cap cap' w).mono fun e w' h => ⟨by rw [h.1]; rfl, h.2⟩
    · obtain ⟨g, o, rfl, _⟩ := hu 0 (Value.bool xs[0]) (by rw [List.getElem?_map, List.getElem?_eq_getElem h0]; rfl)
      obtain ⟨g', o', rfl, _⟩ := hv 0 (Value.bool ys[0]) (by rw [List.getElem?_map, List.getElem?_eq_getElem (by omega)]; rfl)
      rw [← hl]
      refine equal_bools_w g o cap g' o' cap' xs ys w hl hm (fun i x hx => ?_) (fun i x hx => ?_)
      · obtain ⟨g2, o2, h1, h2⟩ := hu i (Value.bool x) (by rw [List.getElem?_map, hx]; rfl)
        simp only [Option.some.injEq, Addr.mk.injEq, and_true] at h1
        obtain ⟨rfl, rfl⟩ := h1
        exact h2
      · obtain ⟨g2, o2, h1, h2⟩ := hv i (Value.bool x) (by rw [List.getElem?_map, hx]; rfl)
        simp only [Option.some.injEq, Addr.mk.injEq, and_true] at h1
        obtain ⟨rfl, rfl⟩ := h1
        exact h2
  · refine (equal_bools_ne a a' xs.length ys.length cap cap' w hl).mono fun e w' h => ⟨?_, h.2⟩
    rw [h.1, decide_eq_false fun e => hl (by rw [e])]

end Go.Proofs.Ytnahipfdnadccaa
