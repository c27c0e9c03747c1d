/- Steps copied. -/
import Derived.Test.YtefigjdebakccaaMaps
import Derived.Deep.Slices
namespace Go.Proofs.Ytefigjdebakccaa
open Go.RowKit

theorem stcells_cell : ∀ {L : List Stp} {rs : List Value} {j : Nat} {u : Value}, (stcells L rs)[j]? = some u → ∃ (i : Nat) (s : Stp) (r : Value), L[i]? = some s ∧ rs[i]? = some r ∧
    ((j = i * 5 ∧ u = .int .u8 (s.op : Int)) ∨ (j = i * 5 + 1 ∧ u = .int .i64 (s.on : Int)) ∨ (j = i * 5 + 2 ∧ u = .int .i64 s.key) ∨ (j = i * 5 + 3 ∧ u = .int .i64 s.val) ∨ (j = i * 5 + 4 ∧ u = r))
  | [], _, j, u, h => by simp [stcells] at h
  | _ :: _, [], j, u, h => by simp [stcells] at h
  | a :: L, b :: rs, j, u, h => by
    rcases j with _ | _ | _ | _ | _ | j
    · simp [stcells] at h
      exact ⟨0, a, b, rfl, rfl, .inl ⟨rfl, h.symm⟩⟩
    · simp [stcells] at h
      exact ⟨0, a, b, rfl, rfl, .inr (.inl ⟨rfl, h.symm⟩)⟩
    · simp [stcells] at h
      exact ⟨0, a, b, rfl, rfl, .inr (.inr (.inl ⟨rfl, h.symm⟩))⟩
    · simp [stcells] at h
      exact ⟨0, a, b, rfl, rfl, .inr (.inr (.inr (.inl ⟨rfl, h.symm⟩)))⟩
    · simp [stcells] at h
      exact ⟨0, a, b, rfl, rfl, .inr (.inr (.inr (.inr ⟨rfl, h.symm⟩)))⟩
    · simp [stcells] at h
      obtain ⟨i, s, r, h1, h2, h3⟩ := stcells_cell h
      refine ⟨i + 1, s, r, h1, h2, ?_⟩
      rcases h3 with ⟨e, f⟩ | ⟨e, f⟩ | ⟨e, f⟩ | ⟨e, f⟩ | ⟨e, f⟩
      · exact .inl ⟨by omega, f⟩
      · exact .inr (.inl ⟨by omega, f⟩)
      · exact .inr (.inr (.inl ⟨by omega, f⟩))
      · exact .inr (.inr (.inr (.inl ⟨by omega, f⟩)))
      · exact .inr (.inr (.inr (.inr ⟨by omega, f⟩)))
theorem stcells_len : ∀ {L : List Stp} {rs : List Value}, rs.length = L.length → (stcells L rs).length = L.length * 5
  | [], [], _ => rfl
  | [], _ :: _, h => by simp at h
  | _ :: _, [], h => by simp at h
  | a :: L, b :: rs, h => by
    simp only [stcells, List.length_cons]
    rw [stcells_len (by simpa using h)]
    omega
theorem stcells_app : ∀ {L : List Stp} {rs : List Value} (M : List Stp) (qs : List Value), rs.length = L.length → stcells (L ++ M) (rs ++ qs) = stcells L rs ++ stcells M qs
  | [], [], _, _, _ => rfl
  | [], _ :: _, _, _, h => by simp at h
  | _ :: _, [], _, _, h => by simp at h
  | a :: L, b :: rs, M, qs, h => by
    simp only [List.cons_append, stcells]
    rw [stcells_app M qs (by simpa using h)]
theorem stcells_one {L : List Stp} {rs : List Value} (h : ∀ r ∈ rs, r.oneCell' = true) : ∀ u ∈ stcells L rs, u.oneCell' = true := fun u hu => by
  obtain ⟨j, hj⟩ := List.getElem?_of_mem hu
  obtain ⟨i, s, r, h1, h2, h3⟩ := stcells_cell hj
  rcases h3 with ⟨-, rfl⟩ | ⟨-, rfl⟩ | ⟨-, rfl⟩ | ⟨-, rfl⟩ | ⟨-, rfl⟩
  · rfl
  · rfl
  · rfl
  · rfl
  · exact h _ (List.mem_of_getElem? h2)
theorem MovesV.one {w : World} {v : Value} {ms : List Mv} (h : MovesV w v ms) : v.oneCell' = true := by
  obtain ⟨a, c, rfl, -⟩ := h
  rfl
/-- the cells of steps that came in -/
theorem stp_rows {w : World} {v : Value} {L : List Stp} (h : StpsV w v L) : ∃ (a : Option Addr) (cap : Nat) (rs : List Value), v = .slice a L.length cap ∧ rs.length = L.length ∧ (∀ (i : Nat) (s : Stp) (r : Value), L[i]? = some s → rs[i]? = some r → MovesV w r s.moves) ∧ (∀ r ∈ rs, r.oneCell' = true) ∧
    ∀ ad, a = some ad → ∀ (j : Nat) (u : Value), (stcells L rs)[j]? = some u → w.cell? (ad.add j) = some u := by
  obtain ⟨a, cap, h1, h2⟩ := h
  obtain ⟨f, hf⟩ := Deep.choose_lt (α := Value) (n := L.length) (p := fun i mv => ∀ s, L[i]? = some s → ∃ g q, a = some ⟨g, q, none⟩ ∧ w.cell? ⟨g, q + i * 5, none⟩ = some (.int .u8 (s.op : Int)) ∧ w.cell? ⟨g, q + i * 5 + 1, none⟩ = some (.int .i64 (s.on : Int)) ∧
    w.cell? ⟨g, q + i * 5 + 2, none⟩ = some (.int .i64 s.key) ∧ w.cell? ⟨g, q + i * 5 + 3, none⟩ = some (.int .i64 s.val) ∧ w.cell? ⟨g, q + i * 5 + 4, none⟩ = some mv ∧ MovesV w mv s.moves) (fun i hi => by
    obtain ⟨s, hs⟩ : ∃ s, L[i]? = some s := ⟨_, List.getElem?_eq_getElem hi⟩
    obtain ⟨g, q, mv, h3⟩ := h2 i s hs
    exact ⟨mv, fun s' hs' => by rw [hs] at hs'; cases hs'; exact ⟨g, q, h3⟩⟩)
  have hrs : ∀ (i : Nat) (r : Value), ((List.range L.length).map f)[i]? = some r → i < L.length ∧ r = f i := fun i r hr => by
    rw [List.getElem?_map, Option.map_eq_some_iff] at hr
    obtain ⟨k, hk, rfl⟩ := hr
    rw [List.getElem?_eq_some_iff] at hk
    obtain ⟨h3, h4⟩ := hk
    simp at h3 h4
    subst h4
    exact ⟨h3, rfl⟩
  refine ⟨a, cap, (List.range L.length).map f, h1, by rw [List.length_map, List.length_range], fun i s r hs hr => ?_, fun r hr => ?_, fun ad had j u hu => ?_⟩
  · obtain ⟨h3, rfl⟩ := hrs i r hr
    obtain ⟨g, q, -, -, -, -, -, -, h4⟩ := hf i h3 s hs
    exact h4
  · obtain ⟨i, hi⟩ := List.getElem?_of_mem hr
    obtain ⟨h3, rfl⟩ := hrs i r hi
    obtain ⟨g, q, -, -, -, -, -, -, h4⟩ := hf i h3 _ (List.getElem?_eq_getElem h3)
    exact h4.one
  · obtain ⟨i, s, r, hs, hr, h5⟩ := stcells_cell hu
    obtain ⟨h3, rfl⟩ := hrs i r hr
    obtain ⟨g, q, ha, k0, k1, k2, k3, k4, -⟩ := hf i h3 s hs
    rw [had] at ha
    obtain rfl := Option.some.inj ha
    rw [Addr.add_lit]
    rcases h5 with ⟨rfl, rfl⟩ | ⟨rfl, rfl⟩ | ⟨rfl, rfl⟩ | ⟨rfl, rfl⟩ | ⟨rfl, rfl⟩
    · exact k0
    · rw [← Nat.add_assoc]; exact k1
    · rw [← Nat.add_assoc]; exact k2
    · rw [← Nat.add_assoc]; exact k3
    · rw [← Nat.add_assoc]; exact k4
theorem eq_nil28_t (w : World) : Sem.run Try.prog (binOp BinOp.eql 28 (Value.slice none 0 0) (Value.slice none 0 0)) w = .ok (.bool true) w := by kernel_rfl
theorem eq_nil28_f (ad : Addr) (n c : Nat) (w : World) : Sem.run Try.prog (binOp BinOp.eql 28 (Value.slice (some ad) n c) (Value.slice none 0 0)) w = .ok (.bool false) w := by kernel_rfl

set_option maxRecDepth 100000 in
set_option maxHeartbeats 800000 in
theorem clone27_w (v : Value) (L : List Stp) (hl : L.length ≤ 1000000) (w : World) (h : StpsV w v L) (hnil : ∀ (n c : Nat), v = .slice none n c → c = 0) :
    Calls Try.prog 27 #[v] w fun e w' => ∃ u, e = .returned u ∧ ∃ rs : List Value, w'.ownsRow w.heap.size 27 5 u L.length (stcells L rs) ∧ rs.length = L.length ∧ (∀ (i : Nat) (s : Stp) (r : Value), L[i]? = some s → rs[i]? = some r → MovesV w r s.moves) ∧ Below w.heap.size w w' := by
  obtain ⟨i27, hi, hz0, hz1, hz2⟩ := info_parts info27
  have HI := Lib.hid (And.intro hi (And.intro hz0 (And.intro hz1 hz2)))
  clear hi hz0 hz1 hz2
  have hno : ∀ c, v = .slice none L.length c → L.length = 0 := by
    obtain ⟨a, cap, h1, h2⟩ := h
    intro c hc
    rcases Nat.eq_zero_or_pos L.length with h0 | h0
    · exact h0
    · obtain ⟨s, hs⟩ : ∃ s, L[0]? = some s := ⟨_, List.getElem?_eq_getElem h0⟩
      obtain ⟨g, q, mv, ha, -⟩ := h2 0 s hs
      rw [h1] at hc
      simp only [Value.slice.injEq] at hc
      rw [hc.1] at ha
      cases ha
  obtain ⟨a, cap, rs, rfl, hrl, hm, ho, hc⟩ := stp_rows h
  obtain ⟨n, hn⟩ : ∃ n, n = L.length := ⟨_, rfl⟩
  rw [← hn] at hl hrl hno ⊢
  have HN := Lib.hid hn
  have HRL := Lib.hid hrl
  have HM := Lib.hid hm
  clear hm hn hrl h
  cases a with
  | none =>
    have hc0 := hnil _ cap rfl
    have hn0 : n = 0 := hno cap rfl
    subst hc0 hn0
    have hL : L = [] := List.eq_nil_of_length_eq_zero HN.out.symm
    have HL := Lib.hid hL
    clear hL
    have hq := eq_nil28_t
    clear hc hnil
    go_enter Try.func27, Try.ntmps27
    go_wp2_with fail
    refine bodyPost_ret (results_tmp rfl _ _ _) rfl ?_
    refine ⟨_, rfl, [], ?_, rfl, fun i s r h1 h2 => by simp at h2, Below.refl _ _⟩
    rw [HL.out]
    exact World.ownsRow_nil _ _ _ _
  | some ad =>
    have HO : Hid ((w.alloc (.cells #[] 27)).ownsRow w.heap.size 27 5 (.slice (some ⟨w.heap.size, 0, none⟩) 0 0) 0 []) := World.ownsRow_made (base := w.heap.size) (e := 27) (size := 5) w #[] 0 (Nat.le_refl _) (by decide) rfl
    have HNEW : Hid (∀ j u, (stcells L rs)[j]? = some u → (w.alloc (.cells #[] 27)).cell? (ad.add j) = some u) := fun j u hu => bcell ((Below.refl _ _).alloc (Nat.le_refl _) _) (hc ad rfl j u hu)
    have HONE := Lib.hid (stcells_one (L := L) ho)
    have HLEN : Hid ((stcells L rs).length = n * 5) := by show _ = _; rw [stcells_len (by rw [HRL.out, HN.out]), HN.out]
    clear hc hnil hno ho
    have hq := eq_nil28_f
    go_enter Try.func27, Try.ntmps27
    go_wp2_with (at_builtin; refine wpList_append_own _ rfl (.tmp 5) (.tmp 6) 28 rfl w.heap.size 27 i27 (.agg #[.int .u8 0, .int .i64 0, .int .i64 0, .int .i64 0, .slice none 0 0]) 5 56 Try.underlying28 HI.out.1 HI.out.2.1 HI.out.2.2.1 HI.out.2.2.2 rfl (by decide) _ _ _ rfl HO.out ad n cap (stcells L rs) rfl HLEN.out HNEW.out HONE.out (by unfold maxLen; omega) (by omega) (by simp) ?_)
    intro v1 w1 hown1 hgrow1 hnil1
    have HB : Hid (Below w.heap.size w w1) := Below.grown ((Below.refl _ w).alloc (Nat.le_refl _) (.cells #[] 27)) hgrow1 (by simp) fun k hk => by simp only [Value.ownBlock, Option.some.injEq] at hk; omega
    have HO1 := Lib.hid hown1
    clear hown1 hgrow1 hnil1
    go_wp2_with fail
    refine bodyPost_ret (results_tmp rfl _ _ _) rfl ?_
    refine ⟨_, rfl, rs, ?_, HRL.out, HM.out, HB.out⟩
    have h := HO1.out
    simpa using h
end Go.Proofs.Ytefigjdebakccaa
