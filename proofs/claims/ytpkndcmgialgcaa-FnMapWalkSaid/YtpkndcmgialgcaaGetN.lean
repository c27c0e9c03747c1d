/- get at a node of whatever kind. -/
import Derived.Test.YtpkndcmgialgcaaGetC
namespace Go.Proofs.Ytpkndcmgialgcaa
open Go.RowKit

theorem disp_get184 (p : Nat) : Disp 184 (.pointer (some ⟨p, 0, none⟩)) 174 "pub-frond/pub/immutable.get" := ⟨fun w => by kernel_rfl, fun w => by kernel_rfl, fun a w => by kernel_rfl⟩
theorem disp_get187 (p : Nat) : Disp 187 (.pointer (some ⟨p, 0, none⟩)) 179 "pub-frond/pub/immutable.get" := ⟨fun w => by kernel_rfl, fun w => by kernel_rfl, fun a w => by kernel_rfl⟩
theorem disp_get252 (p : Nat) : Disp 252 (.pointer (some ⟨p, 0, none⟩)) 199 "pub-frond/pub/immutable.get" := ⟨fun w => by kernel_rfl, fun w => by kernel_rfl, fun a w => by kernel_rfl⟩
theorem disp_get256 (p : Nat) : Disp 256 (.pointer (some ⟨p, 0, none⟩)) 204 "pub-frond/pub/immutable.get" := ⟨fun w => by kernel_rfl, fun w => by kernel_rfl, fun a w => by kernel_rfl⟩

theorem len_part (c : Nat → List (Int × Int)) {f : Nat} (hf : f < 32) : (c f).length ≤ (cat c).length := by
  have key : ∀ l : List Nat, f ∈ l → (c f).length ≤ (l.flatMap c).length := by
    intro l
    induction l with
    | nil => intro h; cases h
    | cons a l ih =>
      intro h
      rw [List.flatMap_cons, List.length_append]
      rcases List.mem_cons.1 h with h | h
      · subst h; omega
      · have := ih h; omega
  exact key _ (List.mem_range.2 hf)
theorem frag_bits (t x : Nat) (hx : x < 4294967296) : bits BinOp.and IntKind.u32 ((x : Int) / 2 ^ (5 * t)) 31 = (frag t x : Nat) := by
  have e : (2 : Int) ^ (5 * t) = ((2 ^ (5 * t) : Nat) : Int) := by simp
  have h2 : x / 2 ^ (5 * t) ≤ x := Nat.div_le_self _ _
  have h3 : 2 ^ (5 * t) = 32 ^ t := by rw [Nat.pow_mul]
  rw [e]
  have e2 : (x : Int) / ((2 ^ (5 * t) : Nat) : Int) = ((x / 2 ^ (5 * t) : Nat) : Int) := (Int.natCast_ediv _ _).symm
  unfold frag
  rw [e2, ← h3]
  generalize x / 2 ^ (5 * t) = q at h2 ⊢
  rw [mask31 _ (by omega) (by omega)]
  omega
theorem Ents.reads {S : Nat → Prop} {w : World} {v : Value} {es : List (Int × Int)} (he : Ents S w v es) :
    ∃ nb c, v = .slice (some ⟨nb, 0, none⟩) es.length c ∧ ∀ (i : Nat) (x : Int × Int), es[i]? = some x → w.cell? ⟨nb, i * 2, none⟩ = some (.int .i64 x.1) ∧ w.cell? ⟨nb, i * 2 + 1, none⟩ = some (.int .i64 x.2) := by
  obtain ⟨b, c, arr, rfl, h2, h3, h4, h5, h6⟩ := he
  refine ⟨b, c, rfl, fun i x hx => ?_⟩
  obtain ⟨h7, h8⟩ := h5 i x hx
  rw [Nat.mul_comm] at h7 h8
  exact ⟨cell_at h2 h7, cell_at h2 h8⟩

/-- get of a leaf -/
theorem leaf_get {h : Int → Nat} {S : Nat → Prop} {w : World} {v : Value} {es : List (Int × Int)} (mo mu sh key : Int) (sf hh : Int) (hl : es.length < 1000000000) (n : Leaf h S w v es) :
    ∃ (ty p fid : Nat), v = .iface ty (.pointer (some ⟨p, 0, none⟩)) ∧ Disp ty (.pointer (some ⟨p, 0, none⟩)) fid "pub-frond/pub/immutable.get" ∧
      Calls Try.prog fid #[.pointer (some ⟨p, 0, none⟩), .int .i64 key, .int .u64 sf, .int .u32 hh, .iface 175 (av mo mu sh)] w (GetPost (look es key) w) := by
  rcases n with ⟨b, k, y, rfl, h2, rfl, h4⟩ | ⟨b, x, sl, rfl, h2, h3, h4, h5, h6⟩
  · refine ⟨_, _, _, rfl, disp_get184 b, (val_get_w mo mu sh b (h k) k y key sf hh (decide (k = key)) (Lib.hid rfl) w h2).mono ?_⟩
    rintro e w' ⟨rfl, hb⟩
    refine ⟨?_, hb⟩
    by_cases e1 : k = key
    · rw [look_at (i := 0) (x := (k, y)) rfl e1 (by simp), decide_eq_true e1]
      rfl
    · rw [look_none (by simpa using e1), decide_eq_false e1]
      rfl
  · obtain ⟨nb, c, rfl, hr⟩ := h3.reads
    exact ⟨_, _, _, rfl, disp_get187 b, col_get_w mo mu sh b nb c es key w hl (cell_at h2 rfl) sf hh hr⟩

/-- get at any node -/
theorem get_any {h : Int → Nat} (hlt : ∀ k, h k < 4294967296) {S : Nat → Prop} (mo mu sh key : Int) : ∀ (r t : Nat) {w : World} {v : Value} {es : List (Int × Int)}, r + t = 7 → es.length < 1000000000 → Node h S w r t v es →
    ∃ (ty p fid : Nat), v = .iface ty (.pointer (some ⟨p, 0, none⟩)) ∧ Disp ty (.pointer (some ⟨p, 0, none⟩)) fid "pub-frond/pub/immutable.get" ∧
      Calls Try.prog fid #[.pointer (some ⟨p, 0, none⟩), .int .i64 key, .int .u64 (5 * t : Nat), .int .u32 (h key), .iface 175 (av mo mu sh)] w (GetPost (look es key) w)
  | 0, t, w, v, es, _, hl, n => leaf_get mo mu sh key _ _ hl n
  | r + 1, t, w, v, es, hrt, hl, .inl n => leaf_get mo mu sh key _ _ hl n
  | r + 1, t, w, v, es, hrt, hl, .inr ⟨c, kid, h1, h2, h3, h4, h5, h6⟩ => by
    subst h1
    have hj := frag_lt t (h key)
    have hb := frag_bits t (h key) (hlt key)
    rw [find_cat h h2 key]
    have h5' := h5
    generalize hjj : frag t (h key) = j at hj hb ⊢
    have hsh : ((5 * t : Nat) : Int) = ((5 * t : Nat) : Int) := rfl
    clear hsh
    by_cases hc : c j = []
    · have hk := h4 j hj hc
      have hp : pres c j = false := pres_f.2 hc
      have hlk : look (c j) key = none := by rw [hc]; rfl
      rw [hlk]
      rcases h6 with ⟨b, m, nb, cap, arr, rfl, h7, h8, h9, h10, h11, h12, h13, h14⟩ | ⟨b, arr, rfl, h7, h8, h9, h10, h11⟩
      · refine ⟨_, _, _, rfl, disp_get252 b, bmp_get_n _ b (5 * t) (h key) key j m hj (by omega) hb ?_ w (cell_at h7 rfl)⟩
        rw [and_bit m j h8.1 hj, (bm_test h8 hj).2 hp]
        rfl
      · exact ⟨_, _, _, rfl, disp_get256 b, hsh_get_n _ b (5 * t) (h key) key j hj (by omega) hb w (cell_at h7 (by rw [h10 j hj, hk]))⟩
    · have hp : pres c j = true := pres_t.2 hc
      have hlc : (c j).length < 1000000000 := Nat.lt_of_le_of_lt (len_part c hj) hl
      have hn := h5 j hj hc
      obtain ⟨ty, p, fid, hv, hd, _⟩ := get_any hlt mo mu sh key r (t + 1) (by omega) hlc hn
      have hcall : ∀ w', Below w.heap.size w w' → Calls Try.prog fid #[.pointer (some ⟨p, 0, none⟩), .int .i64 key, .int .u64 (5 * t + 5 : Nat), .int .u32 (h key), .iface 175 (av mo mu sh)] w' (GetPost (look (c j) key) w') := fun w' hb' => by
        obtain ⟨ty2, p2, fid2, hv2, hd2, hc2⟩ := get_any hlt mo mu sh key r (t + 1) (by omega) hlc (hn.stay (Stay.of_below hb'))
        rw [hv] at hv2
        simp only [Value.iface.injEq, Value.pointer.injEq, Option.some.injEq, Addr.mk.injEq, and_true] at hv2
        obtain ⟨rfl, rfl⟩ := hv2
        have e := (hd.2.1 w').symm.trans (hd2.2.1 w')
        simp only [Result.ok.injEq, Prod.mk.injEq, and_true] at e
        rw [e]
        exact hc2
      rcases h6 with ⟨b, m, nb, cap, arr, rfl, h7, h8, h9, h10, h11, h12, h13, h14⟩ | ⟨b, arr, rfl, h7, h8, h9, h10, h11⟩
      · have hne : ¬ (m &&& 2 ^ j = 0) := fun e => by rw [bm_test h8 hj, hp] at e; cases e
        refine ⟨_, _, _, rfl, disp_get252 b, bmp_get_w _ b (5 * t) (h key) key j m nb (cnt (pres c) 32) cap (cnt (pres c) j) hj (by omega) hb ?_ (m &&& (2 ^ j - 1)) ?_ (and_lt h8.1) (bm_rank h8 hj).symm (cnt_lt _ hj hp) w p ty fid
          (cell_at h7 rfl) (cell_at h7 rfl) (cell_at h9 (by rw [h12 j hj hp, hv])) hd _ hcall⟩
        · rw [and_bit m j h8.1 hj]
          simp only [beq_eq_false_iff_ne, ne_eq]
          omega
        · rw [IntKind.wrap_u32]
          exact and_low m j h8.1 hj
      · exact ⟨_, _, _, rfl, disp_get256 b, hsh_get_w _ b (5 * t) (h key) key j hj (by omega) hb w p ty fid (cell_at h7 (by rw [h10 j hj, hv])) hd _ (hcall w (Below.refl _ w))⟩
end Go.Proofs.Ytpkndcmgialgcaa
