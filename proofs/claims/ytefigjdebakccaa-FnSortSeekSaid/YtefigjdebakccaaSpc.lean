/- The reference: pairs in an order; where a key stands. -/
import Derived.Test.YtefigjdebakccaaRunA
namespace Go.Proofs.Ytefigjdebakccaa
open Go.RowKit

theorem at_is {o : Nat} {es : List (Int × Int)} (hs : Srt (ltO o) es) {key : Int} {j : Nat} (hj : j ≤ es.length) (hlo : ∀ (i : Nat) (e : Int × Int), i < j → es[i]? = some e → ltO o e.1 key = true) (hhi : ∀ e, es[j]? = some e → ltO o e.1 key = false) : at_ (ltO o) es key = j := by
  have hle := at_le (lt := ltO o) es key
  rcases Nat.lt_trichotomy (at_ (ltO o) es key) j with h | h | h
  · obtain ⟨e, he⟩ : ∃ e, es[at_ (ltO o) es key]? = some e := ⟨_, List.getElem?_eq_getElem (by omega)⟩
    have h1 := hlo _ e h he
    rw [at_mono hs (Nat.le_refl _) he] at h1
    cases h1
  · exact h
  · obtain ⟨e, he⟩ : ∃ e, es[j]? = some e := ⟨_, List.getElem?_eq_getElem (by omega)⟩
    have h1 := hhi e he
    rw [at_lo h he] at h1
    cases h1
theorem look_some {o : Nat} {es : List (Int × Int)} (hs : Srt (ltO o) es) {key v : Int} (h : es[at_ (ltO o) es key]? = some (key, v)) : look (ltO o) es key = some v := by
  cases hl : look (ltO o) es key with
  | none => exact absurd rfl ((((at_look (ord_ltO o) hs key).2 hl).1 _ h))
  | some x =>
    have := ((at_look (ord_ltO o) hs key).1 x hl).1
    rw [h] at this
    cases this
    rfl
theorem look_none {o : Nat} {es : List (Int × Int)} (hs : Srt (ltO o) es) {key : Int} (h : ∀ e, es[at_ (ltO o) es key]? = some e → e.1 ≠ key) : look (ltO o) es key = none := by
  cases hl : look (ltO o) es key with
  | none => rfl
  | some x => exact absurd rfl (h _ ((at_look (ord_ltO o) hs key).1 x hl).1)
theorem tmod_two (a : Int) : (a.tmod 2 == 0) = decide (a % 2 = 0) := by
  by_cases h : a % 2 = 0
  · have h2 : a.tmod 2 = 0 := Int.tmod_eq_zero_of_dvd (Int.dvd_of_emod_eq_zero h)
    rw [h2]; simp [h]
  · have h2 : a.tmod 2 ≠ 0 := fun e => h (Int.emod_eq_zero_of_dvd (Int.dvd_of_tmod_eq_zero e))
    simp [h, h2]
theorem tmod_small (a : Int) : IntKind.i64.wrap (a.tmod 2) = a.tmod 2 := by
  have h1 : a.tmod 2 < 2 := by
    have := Int.tmod_lt_of_pos a (show (0 : Int) < 2 by omega)
    exact this
  have h2 : -2 < a.tmod 2 := by
    have := Int.lt_tmod_of_pos a (show (0 : Int) < 2 by omega)
    exact this
  rw [IntKind.wrap_i64]
  omega

set_option maxRecDepth 100000 in
set_option maxHeartbeats 800000 in
theorem ahead_w (o : Nat) (a b : Int) (w : World) : Calls Try.prog 20 #[.int .u8 (o : Int), .int .i64 a, .int .i64 b] w fun e w' => e = .returned (.bool (ltO o a b)) ∧ w = w' := by
  by_cases h2 : o = 2
  · subst h2
    rw [ltO_two]
    go_enter Try.func20, Try.ntmps20
    go_wp2_with fail
    go_ret
    exact ⟨rfl, rfl⟩
  by_cases h3 : o = 3
  · subst h3
    rw [ltO_three]
    have ta := tmod_two a
    have tb := tmod_two b
    obtain ⟨pa, hpa⟩ : ∃ pa, pa = decide (a % 2 = 0) := ⟨_, rfl⟩
    obtain ⟨pb, hpb⟩ : ∃ pb, pb = decide (b % 2 = 0) := ⟨_, rfl⟩
    rw [← hpa] at ta ⊢
    rw [← hpb] at tb ⊢
    have wa := tmod_small a
    have wb := tmod_small b
    obtain ⟨ma, hma⟩ : ∃ m, m = a.tmod 2 := ⟨_, rfl⟩
    obtain ⟨mb, hmb⟩ : ∃ m, m = b.tmod 2 := ⟨_, rfl⟩
    have ea := hma.symm
    have eb := hmb.symm
    rw [ea] at ta wa
    rw [eb] at tb wb
    clear hpa hpb hma hmb
    cases pa <;> cases pb
    all_goals
      go_enter Try.func20, Try.ntmps20
      go_wp2_with fail
      go_ret
      first | exact ⟨rfl, rfl⟩ | (refine ⟨?_, rfl⟩; simp)
  · rw [ltO_else h2 h3]
    have q2 : ((o : Int) == 2) = false := by simp; omega
    have q3 : ((o : Int) == 3) = false := by simp; omega
    clear h2 h3
    go_enter Try.func20, Try.ntmps20
    go_wp2_with fail
    go_ret
    exact ⟨rfl, rfl⟩

/-- the reference's pairs -/
def PV (w : World) (v : Value) (o : Nat) (es : List (Int × Int)) : Prop := ∃ kv vv, v = .agg #[.int .u8 (o : Int), kv, vv] ∧ IV w kv (es.map (·.1)) ∧ IV w vv (es.map (·.2))
theorem IV.reads {w : World} {v : Value} {xs : List Int} (h : IV w v xs) : ∃ a c, v = .slice a xs.length c ∧ (∀ (i : Nat) (x : Int), xs[i]? = some x → ∃ g, a = some ⟨g, 0, none⟩ ∧ w.cell? ⟨g, i, none⟩ = some (.int .i64 x)) := by
  rcases h with ⟨rfl, rfl⟩ | ⟨g, c, cur, rfl, h2, h3⟩
  · exact ⟨none, 0, rfl, fun i x hx => by simp at hx⟩
  · exact ⟨_, c, rfl, fun i x hx => ⟨g, rfl, cell_at h2 (h3 i x hx)⟩⟩

set_option maxRecDepth 100000 in
set_option maxHeartbeats 1600000 in
theorem place_w (o : Nat) (key : Int) (es : List (Int × Int)) (hs : Srt (ltO o) es) (hl : es.length < 1000000) (ka va : Option Addr) (kc vn vc : Nat) (w : World) (hr : ∀ (i : Nat) (e : Int × Int), es[i]? = some e → ∃ g, ka = some ⟨g, 0, none⟩ ∧ w.cell? ⟨g, i, none⟩ = some (.int .i64 e.1)) :
    Calls Try.prog 62 #[.agg #[.int .u8 (o : Int), .slice ka es.length kc, .slice va vn vc], .int .i64 key] w fun e w' => e = .returned (.tuple #[.int .i64 (at_ (ltO o) es key : Nat), .bool (look (ltO o) es key).isSome]) ∧ Below w.heap.size w w' := by
  have HR := Lib.hid hr
  have HS := Lib.hid hs
  obtain ⟨n, hn⟩ : ∃ n, n = es.length := ⟨_, rfl⟩
  rw [← hn] at hl ⊢
  have HN := Lib.hid hn
  clear hr hs hn
  go_enter Try.func62, Try.ntmps62
  go_upto_region 1 with (fail)
  have hbx : Below w.heap.size w (w.alloc (.cells #[.int .u8 (o : Int), .slice ka n kc, .slice va vn vc] 46)) := (Below.refl _ _).alloc (Nat.le_refl _) _
  have HX : Hid ((w.alloc (.cells #[.int .u8 (o : Int), .slice ka n kc, .slice va vn vc] 46)).heap[w.heap.size]? = some (.cells #[.int .u8 (o : Int), .slice ka n kc, .slice va vn vc] 46 (0, 0))) := heap_alloc_last w _
  have HB := Lib.hid hbx
  clear hbx
  obtain ⟨X, hX⟩ : ∃ X, X = w.alloc (.cells #[.int .u8 (o : Int), .slice ka n kc, .slice va vn vc] 46) := ⟨_, rfl⟩
  rw [← hX] at HX HB ⊢
  clear hX
  obtain ⟨b, hb⟩ : ∃ b, b = w.heap.size := ⟨_, rfl⟩
  rw [← hb] at HX ⊢
  clear hb
  have x0 := cell_at (j := 0) HX.out rfl
  have x1 := cell_at (j := 1) HX.out rfl
  go_wp2_with fail
  go_loopg [11] n (fun k v wr => ∃ j : Nat, j + k = n ∧ v = .int .i64 (j : Int) ∧ wr = X ∧ ∀ (i : Nat) (e : Int × Int), i < j → es[i]? = some e → ltO o e.1 key = true)
  case atStart => exact ⟨0, by omega, rfl, rfl, fun i e h => by omega⟩
  case round =>
    obtain ⟨j, hjk, rfl, rfl, hlo⟩ := hrel
    have HLO := Lib.hid hlo
    clear hlo
    by_cases hlt : j < n
    · have h1 : decide ((j : Int) < (n : Int)) = true := by simp; omega
      have hw1 : IntKind.i64.wrap ((j : Int) + 1) = (j : Int) + 1 := by rw [IntKind.wrap_i64]; omega
      have hj0 : (0 : Int) ≤ (j : Int) := by omega
      have hj1 : (j : Int) < (n : Int) := by omega
      obtain ⟨e, he⟩ : ∃ e, es[j]? = some e := ⟨_, List.getElem?_eq_getElem (by rw [← HN.out]; exact hlt)⟩
      obtain ⟨g, hg, hc⟩ := HR.out j e he
      subst hg
      have hc2 := bcell HB.out hc
      have HE := Lib.hid he
      clear he hc
      obtain ⟨ek, ev⟩ := e
      by_cases hk : ek = key
      · have d : (ek == key) = true := by simpa using hk
        have HK := Lib.hid hk
        clear hk
        go_wp2_with fail
        go_ret2
        have e1 : at_ (ltO o) es key = j := at_is HS.out (by rw [← HN.out]; omega) HLO.out fun e he => by
          rw [HE.out] at he
          cases he
          show ltO o ek key = false
          rw [HK.out]
          exact (ord_ltO o).irrefl key
        have e2 : look (ltO o) es key = some ev := look_some HS.out (by rw [e1, HE.out, HK.out])
        refine ⟨?_, HB.out⟩
        rw [e1, e2]
        rfl
      · have d : (ek == key) = false := by simpa using hk
        have HK := Lib.hid hk
        clear hk
        go_wp2_with fail
        refine (ahead_w o key ek wr).mono ?_
        rintro e w' ⟨rfl, rfl⟩
        cases hq : ltO o key ek with
        | true =>
          have HQ := Lib.hid hq
          clear hq
          go_wp2_with fail
          go_ret2
          have e1 : at_ (ltO o) es key = j := at_is HS.out (by rw [← HN.out]; omega) HLO.out fun e he => by
            rw [HE.out] at he
            cases he
            exact (ord_ltO o).asymm HQ.out
          have e2 : look (ltO o) es key = none := look_none HS.out fun e he => by
            rw [e1, HE.out] at he
            cases he
            exact HK.out
          refine ⟨?_, HB.out⟩
          rw [e1, e2]
          rfl
        | false =>
          have HQ := Lib.hid hq
          clear hq
          go_wp2_with fail
          go_roundg (gk - 1)
          case measure => omega
          case rel =>
            refine ⟨j + 1, by omega, rfl, rfl, fun i e hi he => ?_⟩
            by_cases hij : i < j
            · exact HLO.out i e hij he
            · obtain rfl : i = j := by omega
              rw [HE.out] at he
              cases he
              rcases (ord_ltO o).total HK.out with h | h
              · exact h
              · rw [HQ.out] at h; cases h
    · have h1 : decide ((j : Int) < (n : Int)) = false := by simp; omega
      have hjn : j = n := by omega
      have HJN := Lib.hid hjn
      clear hjn
      go_wp2_with fail
      go_ret2
      have e1 : at_ (ltO o) es key = n := at_is HS.out (by rw [← HN.out]; exact Nat.le_refl _) (by rw [← HJN.out]; exact HLO.out) fun e he => by
        rw [HN.out, List.getElem?_eq_none (Nat.le_refl _)] at he
        cases he
      have e2 : look (ltO o) es key = none := look_none HS.out fun e he => by
        rw [e1, HN.out, List.getElem?_eq_none (Nat.le_refl _)] at he
        cases he
      refine ⟨?_, HB.out⟩
      rw [e1, e2]
      rfl
end Go.Proofs.Ytefigjdebakccaa
