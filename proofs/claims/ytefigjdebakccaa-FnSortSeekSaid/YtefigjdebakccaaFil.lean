/- The steps that fill a map. -/
import Derived.Test.YtefigjdebakccaaHlp
import Derived.Test.YtefigjdebakccaaRun
namespace Go.Proofs.Ytefigjdebakccaa
open Go.RowKit

theorem info27 : (Try.prog.info? 27).map (fun i => (i.zero, i.size, i.bytes)) = some (some (.agg #[.int .u8 0, .int .i64 0, .int .i64 0, .int .i64 0, .slice none 0 0]), 5, 56) := by kernel_rfl
/-- keys set one behind the other, with their places -/
def fillFrom : Nat → List Int → List Stp
  | _, [] => []
  | i, x :: xs => ⟨0, i, x, i, []⟩ :: fillFrom (i + 1) xs
def filled (xs : List Int) : List Stp := fillFrom 0 xs
def fcells : Nat → List Int → List Value
  | _, [] => []
  | i, x :: xs => .int .u8 0 :: .int .i64 (i : Int) :: .int .i64 x :: .int .i64 (i : Int) :: .slice none 0 0 :: fcells (i + 1) xs
theorem fillFrom_len : ∀ (xs : List Int) (i : Nat), (fillFrom i xs).length = xs.length
  | [], _ => rfl
  | x :: xs, i => by
    show (fillFrom (i + 1) xs).length + 1 = xs.length + 1
    rw [fillFrom_len xs]
theorem fcells_snoc : ∀ (xs : List Int) (i : Nat) (x : Int), fcells i (xs ++ [x]) = fcells i xs ++ [.int .u8 0, .int .i64 ((i + xs.length : Nat) : Int), .int .i64 x, .int .i64 ((i + xs.length : Nat) : Int), .slice none 0 0]
  | [], i, x => rfl
  | a :: xs, i, x => by
    simp only [List.cons_append, fcells]
    rw [fcells_snoc xs (i + 1) x]
    simp only [List.length_cons]
    rw [show i + 1 + xs.length = i + (xs.length + 1) by omega]
theorem fcells_at : ∀ (xs : List Int) (k i : Nat) (s : Stp), (fillFrom k xs)[i]? = some s → (fcells k xs)[i * 5]? = some (.int .u8 (s.op : Int)) ∧ (fcells k xs)[i * 5 + 1]? = some (.int .i64 (s.on : Int)) ∧ (fcells k xs)[i * 5 + 2]? = some (.int .i64 s.key) ∧ (fcells k xs)[i * 5 + 3]? = some (.int .i64 s.val) ∧ (fcells k xs)[i * 5 + 4]? = some (.slice none 0 0) ∧ s.moves = []
  | [], _, _, _, h => by simp [fillFrom] at h
  | a :: xs, k, 0, s, h => by
    simp [fillFrom] at h
    subst h
    exact ⟨rfl, rfl, rfl, rfl, rfl, rfl⟩
  | a :: xs, k, i + 1, s, h => by
    have ih := fcells_at xs (k + 1) i s (by simpa [fillFrom] using h)
    rw [show (i + 1) * 5 = i * 5 + 1 + 1 + 1 + 1 + 1 by omega]
    simpa [fcells] using ih
theorem movesV_nil (w : World) : MovesV w (.slice none 0 0) [] := ⟨none, 0, rfl, fun i m h => by simp at h⟩
theorem own_read {w : World} {B s n i : Nat} {e : TypeId} {v : Value} {cs : List Value} {u : Value} (h : w.ownsRow B e s v n cs) (hi : cs[i]? = some u) : ∃ g c, v = .slice (some ⟨g, 0, none⟩) n c ∧ w.cell? ⟨g, i, none⟩ = some u := by
  have hlt := (List.getElem?_eq_some_iff.1 hi).1
  rcases h.2 with ⟨-, h0⟩ | ⟨g, cap, cur, rfl, -⟩
  · have := h.1
    subst h0
    omega
  · exact ⟨g, cap, rfl, own_cells h hi⟩
theorem stps_fill {w : World} {B n : Nat} {v : Value} {xs : List Int} (hn : n = xs.length) (h : w.ownsRow B 27 5 v n (fcells 0 xs)) : StpsV w v (filled xs) := by
  obtain ⟨a, c, hv⟩ := own_len h
  refine ⟨a, c, by rw [hv, hn]; unfold filled; rw [fillFrom_len], fun i s hs => ?_⟩
  obtain ⟨h1, h2, h3, h4, h5, h6⟩ := fcells_at xs 0 i s hs
  obtain ⟨g, c1, e1, q1⟩ := own_read h h1
  obtain ⟨g2, c2, e2, q2⟩ := own_read h h2
  obtain ⟨g3, c3, e3, q3⟩ := own_read h h3
  obtain ⟨g4, c4, e4, q4⟩ := own_read h h4
  obtain ⟨g5, c5, e5, q5⟩ := own_read h h5
  rw [hv] at e1 e2 e3 e4 e5
  simp only [Value.slice.injEq] at e1 e2 e3 e4 e5
  have k2 : g2 = g := by have := e2.1.symm.trans e1.1; simpa using this
  have k3 : g3 = g := by have := e3.1.symm.trans e1.1; simpa using this
  have k4 : g4 = g := by have := e4.1.symm.trans e1.1; simpa using this
  have k5 : g5 = g := by have := e5.1.symm.trans e1.1; simpa using this
  subst k2 k3 k4 k5
  exact ⟨g5, 0, _, e1.1, by rw [Nat.zero_add]; exact q1, by rw [Nat.zero_add]; exact q2, by rw [Nat.zero_add]; exact q3, by rw [Nat.zero_add]; exact q4, by rw [Nat.zero_add]; exact q5, by rw [h6]; exact movesV_nil w⟩

set_option maxRecDepth 100000 in
set_option maxHeartbeats 1600000 in
theorem filled_w (u : Value) (xs : List Int) (w : World) (hu : RdI w u xs) (hl : xs.length < 100000) :
    Calls Try.prog 37 #[u] w fun e w' => ∃ v, e = .returned v ∧ w'.ownsRow w.heap.size 27 5 v xs.length (fcells 0 xs) ∧ Below w.heap.size w w' := by
  obtain ⟨i27, hi, hz0, hz1, hz2⟩ := info_parts info27
  have HI := Lib.hid (And.intro hi (And.intro hz0 (And.intro hz1 hz2)))
  clear hi hz0 hz1 hz2
  obtain ⟨ua, uc, rfl, hu2⟩ := hu
  obtain ⟨n, hn⟩ : ∃ n, n = xs.length := ⟨_, rfl⟩
  rw [← hn] at hl ⊢
  have HU := Lib.hid hu2
  have HN := Lib.hid hn
  clear hu2 hn
  go_enter Try.func37, Try.ntmps37
  go_wp2_with fail
  go_loopg [3, 8] n (fun k sv v wr => ∃ j : Nat, j + k = n ∧ v = .int .i64 (j : Int) ∧ wr.ownsRow w.heap.size 27 5 sv j (fcells 0 (xs.take j)) ∧ Below w.heap.size w wr)
  case atStart => exact ⟨0, by omega, rfl, World.ownsRow_nil _ _ _ _, Below.refl _ _⟩
  case round =>
    obtain ⟨j, hjk, rfl, ho, hb⟩ := hrel
    have HO := Lib.hid ho
    have HB := Lib.hid hb
    clear ho hb
    by_cases hlt : j < n
    · have h1 : decide ((j : Int) < (n : Int)) = true := by simp; omega
      have hw1 : IntKind.i64.wrap ((j : Int) + 1) = (j : Int) + 1 := by rw [IntKind.wrap_i64]; omega
      have hj0 : (0 : Int) ≤ (j : Int) := by omega
      have hj1 : (j : Int) < (n : Int) := by omega
      obtain ⟨x, hx⟩ : ∃ x, xs[j]? = some x := ⟨_, List.getElem?_eq_getElem (by rw [← HN.out]; exact hlt)⟩
      obtain ⟨g1, o1, hg1, hc1⟩ := HU.out j x hx
      subst hg1
      have hc := bcell HB.out hc1
      have HX := Lib.hid hx
      have hwz := HB.out.size
      have HWZ := Lib.hid hwz
      clear hx hc1 hwz
      go_wp2_with (at_builtin; refine wpList_append_own _ rfl (.tmp 13) (.tmp 18) 28 rfl w.heap.size 27 i27 (.agg #[.int .u8 0, .int .i64 0, .int .i64 0, .int .i64 0, .slice none 0 0]) 5 56 Try.underlying28 HI.out.1 HI.out.2.1 HI.out.2.2.1 HI.out.2.2.2 rfl (by decide) _ _ _ rfl (HO.out.alloc _) ⟨wr.heap.size, 0, none⟩ 1 1 [.int .u8 0, .int .i64 (j : Int), .int .i64 x, .int .i64 (j : Int), .slice none 0 0] rfl rfl (five_new _ _ _ _ _ _ _) (five_one rfl rfl rfl rfl rfl) (by unfold maxLen; omega) (by omega) (by have := HWZ.out; rw [size_alloc]; omega) ?_)
      intro v4 w4 hown4 hgrow4 _
      have HB4 := Lib.hid (HB.out.trans (below_grown ((Below.refl w.heap.size wr).alloc HWZ.out (.cells #[.int .u8 0, .int .i64 (j : Int), .int .i64 x, .int .i64 (j : Int), .slice none 0 0] 27)) HO.out (Nat.le_refl _) HWZ.out hgrow4))
      have HO4 := Lib.hid hown4
      clear hown4 hgrow4
      go_wp2_with fail
      go_roundg (gk - 1)
      case measure => omega
      case rel =>
        refine ⟨j + 1, by omega, rfl, ?_, HB4.out⟩
        have ht : (xs.take j).length = j := by rw [List.length_take, ← HN.out]; omega
        rw [List.take_add_one, HX.out]
        show w4.ownsRow _ 27 5 _ _ (fcells 0 (xs.take j ++ [x]))
        rw [fcells_snoc, ht, Nat.zero_add]
        exact HO4.out
    · have h1 : decide ((j : Int) < (n : Int)) = false := by simp; omega
      have hjn : j = n := by omega
      have HJN := Lib.hid hjn
      clear hjn
      go_wp2_with fail
      refine bodyPost_ret (results_tmp rfl _ _ _) rfl ?_
      refine ⟨_, rfl, ?_, HB.out⟩
      have h := HO.out
      rw [List.take_of_length_le (by rw [HJN.out, HN.out]; exact Nat.le_refl _)] at h
      rw [← HJN.out]
      exact h
end Go.Proofs.Ytefigjdebakccaa
