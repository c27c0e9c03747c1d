/- An iterator over a sorted map: where it stands; to the first pair below a node. -/
import Derived.Test.YtefigjdebakccaaSDelM
namespace Go.Proofs.Ytefigjdebakccaa
open Go.RowKit

/-- an iterator's block: its map, its depth -/
def ItB (w : World) (ib mb : Nat) (arr : Array Value) (d : Int) : Prop :=
  w.heap[ib]? = some (.cells arr 133 (0, 0)) ∧ arr.size = 66 ∧ arr[0]? = some (.pointer (some ⟨mb, 0, none⟩)) ∧ arr[65]? = some (.int .i64 d) ∧ ∀ i, i < 32 → ∃ x, arr[1 + i * 2 + 1]? = some (.int .i64 x)
theorem own133 : ¬ Own 133 := by unfold Own; simp
theorem But.stay133 {w w' : World} {ib : Nat} {arr : Array Value} (h : But (· = ib) w w') (hf : w.heap[ib]? = some (.cells arr 133 (0, 0))) : Stay w w' := fun b c t hb ht => h.at hb fun e => by
  subst e
  rw [hf] at hb
  simp only [Option.some.injEq, Obj.cells.injEq] at hb
  exact own133 (hb.2.1 ▸ ht)
theorem ne133 {w : World} {ib b : Nat} {a0 c : Array Value} {t : TypeId} (h0 : w.heap[ib]? = some (.cells a0 133 (0, 0))) (hb : w.heap[b]? = some (Obj.cells c t (0, 0))) (ht : t ≠ 133) : ¬ b = ib := fun e => by
  subst e
  rw [hb] at h0
  simp only [Option.some.injEq, Obj.cells.injEq] at h0
  exact ht h0.2.1
theorem ItB.setIdx {w : World} {ib mb : Nat} {arr : Array Value} {d : Int} (hi : ItB w ib mb arr d) {j : Nat} (hj : j < 32) (y : Int) : ItB (w.setCell ⟨ib, 1 + j * 2 + 1, none⟩ (.int .i64 y)) ib mb (arr.setIfInBounds (1 + j * 2 + 1) (.int .i64 y)) d := by
  obtain ⟨h1, h2, h3, h4, h5⟩ := hi
  refine ⟨heap_setCell_same _ _ _ _ _ _ h1, by simp [h2], by rw [Array.getElem?_setIfInBounds_ne (by omega)]; exact h3, by rw [Array.getElem?_setIfInBounds_ne (by omega)]; exact h4, fun i hi' => ?_⟩
  by_cases e : i = j
  · subst e
    exact ⟨y, by rw [Array.getElem?_setIfInBounds_self_of_lt (by omega)]⟩
  · obtain ⟨x, hx⟩ := h5 i hi'
    exact ⟨x, by rw [Array.getElem?_setIfInBounds_ne (by omega)]; exact hx⟩
theorem ItB.setNode {w : World} {ib mb : Nat} {arr : Array Value} {d : Int} (hi : ItB w ib mb arr d) {j : Nat} (hj : j < 32) (u : Value) : ItB (w.setCell ⟨ib, 1 + j * 2, none⟩ u) ib mb (arr.setIfInBounds (1 + j * 2) u) d := by
  obtain ⟨h1, h2, h3, h4, h5⟩ := hi
  refine ⟨heap_setCell_same _ _ _ _ _ _ h1, by simp [h2], by rw [Array.getElem?_setIfInBounds_ne (by omega)]; exact h3, by rw [Array.getElem?_setIfInBounds_ne (by omega)]; exact h4, fun i hi' => ?_⟩
  obtain ⟨x, hx⟩ := h5 i hi'
  exact ⟨x, by rw [Array.getElem?_setIfInBounds_ne (by omega)]; exact hx⟩
theorem ItB.setDep {w : World} {ib mb : Nat} {arr : Array Value} {d : Int} (hi : ItB w ib mb arr d) (y : Int) : ItB (w.setCell ⟨ib, 65, none⟩ (.int .i64 y)) ib mb (arr.setIfInBounds 65 (.int .i64 y)) y := by
  obtain ⟨h1, h2, h3, h4, h5⟩ := hi
  refine ⟨heap_setCell_same _ _ _ _ _ _ h1, by simp [h2], by rw [Array.getElem?_setIfInBounds_ne (by omega)]; exact h3, by rw [Array.getElem?_setIfInBounds_self_of_lt (by omega)], fun i hi' => ?_⟩
  obtain ⟨x, hx⟩ := h5 i hi'
  exact ⟨x, by rw [Array.getElem?_setIfInBounds_ne (by omega)]; exact hx⟩

/-- the way down to a node v of height r, at level d: what stands ahead of it, and behind it -/
def Low (w : World) (arr : Array Value) : Nat → Nat → Value → List (Int × Int) → List (Int × Int) → List (Int × Int) → Prop
  | 0, r, v, bef, es, aft => bef = [] ∧ aft = [] ∧ SN w r v es
  | d + 1, r, v, bef, es, aft => ∃ (vk : Value) (kids : List Kid) (x : Nat) (kd : Kid) (befk aftk : List (Int × Int)), arr[1 + d * 2]? = some vk ∧ arr[1 + d * 2 + 1]? = some (.int .i64 (x : Int)) ∧ BranN w vk kids ∧ (∀ kd ∈ kids, SN w r kd.1 kd.2) ∧ kids[x]? = some kd ∧
      v = kd.1 ∧ es = kd.2 ∧ bef = befk ++ (ess (kids.take x)).flatten ∧ aft = (ess (kids.drop (x + 1))).flatten ++ aftk ∧ Low w arr d (r + 1) vk befk (ess kids).flatten aftk
/-- where the iterator stands: at a place of all pairs, or at none -/
def St (w : World) (ib mb : Nat) (all : List (Int × Int)) (p : Option Nat) : Prop :=
  ∃ arr, (ItB w ib mb arr (-1) ∧ p = none) ∨ ∃ (d : Nat) (v : Value) (bef es aft : List (Int × Int)) (x : Nat), d ≤ 31 ∧ ItB w ib mb arr (d : Int) ∧ arr[1 + d * 2]? = some v ∧ arr[1 + d * 2 + 1]? = some (.int .i64 (x : Int)) ∧ Low w arr d 0 v bef es aft ∧ x < es.length ∧ all = bef ++ es ++ aft ∧ p = some (bef.length + x)
theorem Low.sn {w : World} {arr : Array Value} : ∀ {d r : Nat} {v : Value} {bef es aft : List (Int × Int)}, Low w arr d r v bef es aft → SN w r v es
  | 0, _, _, _, _, _, h => h.2.2
  | _d + 1, _, _, _, _, _, ⟨_, _, _, kd, _, _, _, _, _, h4, h5, h6, h7, _⟩ => by subst h6 h7; exact h4 kd (List.mem_of_getElem? h5)
theorem Low.stay {w w' : World} {arr : Array Value} (hs : Stay w w') : ∀ {d r : Nat} {v : Value} {bef es aft : List (Int × Int)}, Low w arr d r v bef es aft → Low w' arr d r v bef es aft
  | 0, _, _, _, _, _, ⟨h1, h2, h3⟩ => ⟨h1, h2, h3.stay hs⟩
  | _d + 1, _, _, _, _, _, ⟨vk, kids, x, kd, befk, aftk, h1, h2, h3, h4, h5, h6, h7, h8, h9, h10⟩ => ⟨vk, kids, x, kd, befk, aftk, h1, h2, h3.stay hs, fun kd hk => (h4 kd hk).stay hs, h5, h6, h7, h8, h9, Low.stay hs h10⟩
theorem Low.arr {w : World} {arr arr' : Array Value} : ∀ {d r : Nat} {v : Value} {bef es aft : List (Int × Int)}, (∀ j, j < 1 + d * 2 → arr'[j]? = arr[j]?) → Low w arr d r v bef es aft → Low w arr' d r v bef es aft
  | 0, _, _, _, _, _, _, hl => hl
  | d + 1, _, _, _, _, _, ha, ⟨vk, kids, x, kd, befk, aftk, h1, h2, h3, h4, h5, h6, h7, h8, h9, h10⟩ =>
    ⟨vk, kids, x, kd, befk, aftk, by rw [ha _ (by omega)]; exact h1, by rw [ha _ (by omega)]; exact h2, h3, h4, h5, h6, h7, h8, h9, Low.arr (fun j hj => ha j (by omega)) h10⟩
theorem St.stay {w w' : World} {ib mb : Nat} {all : List (Int × Int)} {p : Option Nat} (hs : Stay w w') (hi : ∀ arr, w.heap[ib]? = some (.cells arr 133 (0, 0)) → w'.heap[ib]? = some (.cells arr 133 (0, 0))) : St w ib mb all p → St w' ib mb all p
  | ⟨arr, .inl ⟨h1, h2⟩⟩ => ⟨arr, .inl ⟨⟨hi _ h1.1, h1.2⟩, h2⟩⟩
  | ⟨arr, .inr ⟨d, v, bef, es, aft, x, h1, h2, h3, h4, h5, h6⟩⟩ => ⟨arr, .inr ⟨d, v, bef, es, aft, x, h1, ⟨hi _ h2.1, h2.2⟩, h3, h4, h5.stay hs, h6⟩⟩

theorem kid_split {kids : List Kid} {x : Nat} {kd : Kid} (h : kids[x]? = some kd) : (ess kids).flatten = (ess (kids.take x)).flatten ++ kd.2 ++ (ess (kids.drop (x + 1))).flatten := by
  obtain ⟨hl, he⟩ := List.getElem?_eq_some_iff.1 h
  conv => lhs; rw [← List.take_append_drop x kids, List.drop_eq_getElem_cons hl, he]
  unfold ess
  simp
theorem kid_take {kids : List Kid} {x : Nat} {kd : Kid} (h : kids[x]? = some kd) : (ess (kids.take (x + 1))).flatten = (ess (kids.take x)).flatten ++ kd.2 := by
  obtain ⟨hl, he⟩ := List.getElem?_eq_some_iff.1 h
  rw [List.take_add_one, h]
  unfold ess
  simp
/-- the iterator's arrays, one level further down -/
theorem down_rel {w : World} {arr ar1 ar3 : Array Value} {d r x : Nat} {v : Value} {kids : List Kid} {kd : Kid} {bef aft : List (Int × Int)} {u : Value} {z : Int} (hsz : arr.size = 66) (hd : d + 1 < 32) (h1 : ar1 = arr.setIfInBounds (1 + d * 2 + 1) (.int .i64 (x : Int)))
    (h3 : ar3 = ((ar1.setIfInBounds (1 + (d + 1) * 2) kd.1).setIfInBounds (1 + (d + 1) * 2 + 1) u).setIfInBounds 65 (.int .i64 z)) (hv : arr[1 + d * 2]? = some v) (hl : Low w arr d (r + 1) v bef (ess kids).flatten aft)
    (hB : BranN w v kids) (hk : ∀ kd ∈ kids, SN w r kd.1 kd.2) (hx : kids[x]? = some kd) :
    ar3[1 + (d + 1) * 2]? = some kd.1 ∧ Low w ar3 (d + 1) r kd.1 (bef ++ (ess (kids.take x)).flatten) kd.2 ((ess (kids.drop (x + 1))).flatten ++ aft) := by
  subst h3 h1
  refine ⟨?_, v, kids, x, kd, bef, aft, ?_, ?_, hB, hk, hx, rfl, rfl, rfl, rfl, hl.arr fun j hj => ?_⟩
  · rw [Array.getElem?_setIfInBounds_ne (by omega), Array.getElem?_setIfInBounds_ne (by omega), Array.getElem?_setIfInBounds_self_of_lt (by simp; omega)]
  · rw [Array.getElem?_setIfInBounds_ne (by omega), Array.getElem?_setIfInBounds_ne (by omega), Array.getElem?_setIfInBounds_ne (by omega), Array.getElem?_setIfInBounds_ne (by omega)]
    exact hv
  · rw [Array.getElem?_setIfInBounds_ne (by omega), Array.getElem?_setIfInBounds_ne (by omega), Array.getElem?_setIfInBounds_ne (by omega), Array.getElem?_setIfInBounds_self_of_lt (by omega)]
  · rw [Array.getElem?_setIfInBounds_ne (by omega), Array.getElem?_setIfInBounds_ne (by omega), Array.getElem?_setIfInBounds_ne (by omega), Array.getElem?_setIfInBounds_ne (by omega)]
/-- the iterator stands at place x of a leaf -/
theorem st_leaf {w wr : World} {ib mb d x : Nat} {arr a0 : Array Value} {v : Value} {all bef es aft : List (Int × Int)} (hrd : d ≤ 31) (h0 : w.heap[ib]? = some (.cells a0 133 (0, 0))) (hb : But (· = ib) w wr) (hi : ItB wr ib mb arr (d : Int)) (hv : arr[1 + d * 2]? = some v) (hl : Low w arr d 0 v bef es aft)
    (hx : x < es.length) (ha : all = bef ++ es ++ aft) : But (· = ib) w (wr.setCell ⟨ib, 1 + d * 2 + 1, none⟩ (.int .i64 (x : Int))) ∧ St (wr.setCell ⟨ib, 1 + d * 2 + 1, none⟩ (.int .i64 (x : Int))) ib mb all (some (bef.length + x)) := by
  have hb2 : But (· = ib) w (wr.setCell ⟨ib, 1 + d * 2 + 1, none⟩ (.int .i64 (x : Int))) := hb.setCell (.inl rfl) _
  have hs := hb2.stay133 h0
  refine ⟨hb2, arr.setIfInBounds (1 + d * 2 + 1) (.int .i64 (x : Int)), .inr ⟨d, v, bef, es, aft, x, hrd, hi.setIdx (by omega) _, ?_, ?_, ?_, hx, ha, rfl⟩⟩
  · rw [Array.getElem?_setIfInBounds_ne (by omega)]; exact hv
  · have := hi.2.1
    rw [Array.getElem?_setIfInBounds_self_of_lt (by omega)]
  · exact (hl.arr fun j hj => Array.getElem?_setIfInBounds_ne (by omega)).stay hs
theorem stay_drew (w : World) : Stay w w.drew := fun _ _ _ h _ => h
theorem st_drew {w wr : World} {ib mb : Nat} {all : List (Int × Int)} {p : Option Nat} (hp : But (· = ib) w wr ∧ St wr ib mb all p) : But (· = ib) w wr.drew ∧ St wr.drew ib mb all p :=
  ⟨hp.1.drew, hp.2.stay (stay_drew wr) fun _ h => h⟩
theorem as147_147 (p : Nat) (W : World) : Sem.run Try.prog (Instr.typeAssert (Value.iface 147 (Value.pointer (some { block := p, off := 0 }))) 120 147 true) W = .ok (.tuple #[.pointer (some ⟨p, 0, none⟩), .bool true]) W := by kernel_rfl
theorem as147_138 (p : Nat) (W : World) : Sem.run Try.prog (Instr.typeAssert (Value.iface 147 (Value.pointer (some { block := p, off := 0 }))) 120 138 true) W = .ok (.tuple #[.pointer none, .bool false]) W := by kernel_rfl
theorem as138_147 (p : Nat) (W : World) : Sem.run Try.prog (Instr.typeAssert (Value.iface 138 (Value.pointer (some { block := p, off := 0 }))) 120 147 true) W = .ok (.tuple #[.pointer none, .bool false]) W := by kernel_rfl
theorem as138_138 (p : Nat) (W : World) : Sem.run Try.prog (Instr.typeAssert (Value.iface 138 (Value.pointer (some { block := p, off := 0 }))) 120 138 true) W = .ok (.tuple #[.pointer (some ⟨p, 0, none⟩), .bool true]) W := by kernel_rfl
/-- a branch's slice, and a child's cell -/
theorem BranN.cells {w : World} {v : Value} {kids : List Kid} (h : BranN w v kids) : ∃ b g q c : Nat, ∃ arr : Array Value, v = .iface 147 (.pointer (some ⟨b, 0, none⟩)) ∧ w.heap[b]? = some (.cells #[.slice (some ⟨g, q, none⟩) kids.length c] 165 (0, 0)) ∧ w.heap[g]? = some (.cells arr 163 (0, 0)) ∧ (∀ (i : Nat) (kd : Kid), kids[i]? = some kd → arr[q + i * 2 + 1]? = some kd.1) ∧ 0 < kids.length ∧ kids.length ≤ 32 := by
  obtain ⟨b, sl, h1, h2, ⟨g, q, c, arr, rfl, h4, h5, h6⟩, h7, h8⟩ := h
  rw [krow_len] at h2
  exact ⟨b, g, q, c, arr, h1, h2, h4, fun i kd hi => (h6 i _ (krow_get hi)).2, List.length_pos_iff.2 h7, h8⟩
/-- a leaf's slice, and its cells -/
theorem LeafN.cells {w : World} {v : Value} {es : List (Int × Int)} (h : LeafN w v es) : ∃ b g q c : Nat, ∃ arr : Array Value, v = .iface 138 (.pointer (some ⟨b, 0, none⟩)) ∧ w.heap[b]? = some (.cells #[.slice (some ⟨g, q, none⟩) es.length c] 143 (0, 0)) ∧ w.heap[g]? = some (.cells arr 140 (0, 0)) ∧ (∀ (i : Nat) (e : Int × Int), es[i]? = some e → arr[q + i * 2]? = some (.int .i64 e.1) ∧ arr[q + i * 2 + 1]? = some (.int .i64 e.2)) ∧ 0 < es.length ∧ es.length ≤ 32 := by
  obtain ⟨b, sl, h1, h2, ⟨g, q, c, arr, rfl, h4, h5, h6⟩, h7, h8⟩ := h
  exact ⟨b, g, q, c, arr, h1, h2, h4, h6, List.length_pos_iff.2 h7, h8⟩

set_option maxRecDepth 100000 in
set_option maxHeartbeats 3200000 in
theorem first_w (w : World) (ib mb : Nat) (arr : Array Value) (d r : Nat) (v : Value) (all bef es aft : List (Int × Int)) (hrd : r + d ≤ 31) (hi : ItB w ib mb arr (d : Int)) (hv : arr[1 + d * 2]? = some v) (hl : Low w arr d r v bef es aft) (ha : all = bef ++ es ++ aft) :
    Calls Try.prog 83 #[.pointer (some ⟨ib, 0, none⟩)] w fun e w' => e = .returned (.tuple #[]) ∧ But (· = ib) w w' ∧ St w' ib mb all (some bef.length) := by
  have HI := Lib.hid hi
  have HV := Lib.hid hv
  have HL := Lib.hid hl
  have HRD := Lib.hid hrd
  have HALL := Lib.hid ha
  clear hi hv hl hrd ha
  go_enter Try.func83, Try.ntmps83
  go_wp2_with fail
  go_loopg [] r (fun k wr => ∃ (d r : Nat) (v : Value) (es aft : List (Int × Int)) (arr : Array Value), k = r ∧ r + d ≤ 31 ∧ ItB wr ib mb arr (d : Int) ∧ arr[1 + d * 2]? = some v ∧ Low w arr d r v bef es aft ∧ all = bef ++ es ++ aft ∧ But (· = ib) w wr)
  case atStart => exact ⟨d, r, v, es, aft, arr, rfl, HRD.out, HI.out, HV.out, HL.out, HALL.out, But.refl _ _⟩
  case round =>
    obtain ⟨d, r, v, es, aft, arr, hkr, hrd, hi, hv, hl, hall, hb⟩ := hrel
    have hlk := hi.2.2.2.2
    have hd32 : d < 32 := by omega
    obtain ⟨x0, hx0⟩ := hlk d hd32
    have cd := cell_at hi.1 hi.2.2.2.1
    have cv := cell_at hi.1 hv
    have cx := cell_at hi.1 hx0
    have fx : wr.frozen? ⟨ib, 1 + d * 2 + 1, none⟩ = false := frozen_of_row _ _ _ _ _ hi.1
    have hd0 : (0 : Int) ≤ (d : Int) := by omega
    have hd1 : (d : Int) < 32 := by omega
    have HI2 := Lib.hid hi
    have HV2 := Lib.hid hv
    have HL2 := Lib.hid hl
    have HALL2 := Lib.hid hall
    have HB2 := Lib.hid hb
    have HRD2 := Lib.hid hrd
    clear hi hv hl hall hb hrd hlk hx0
    go_upto_region 0 with (fail)
    refine region_tail 8 (by kernel_rfl) (by kernel_rfl) ?_
    simp only [List.take_succ_cons, List.take_zero, List.drop_succ_cons, List.drop_zero]
    repeat still_step
    refine wpStill_nil ?_
    rcases r with _ | r
    · obtain ⟨b, g, q, c, ar, rfl, -, -, -, hpos, -⟩ := LeafN.cells HL2.out.sn
      have HEND := Lib.hid (st_leaf (d := d) (by have := HRD2.out; omega) HI.out.1 HB2.out HI2.out HV2.out HL2.out hpos HALL2.out)
      have t1 := as138_147 b
      have t2 := as138_138 b
      go_wp2_with fail
      refine bodyPost_ret (results_none rfl _ _ _) rfl ?_
      exact ⟨rfl, st_drew HEND.out⟩
    · have hsn := HL2.out.sn
      obtain ⟨kids, hB, hk, rfl⟩ := hsn
      have HBN := Lib.hid hB
      have HK := Lib.hid hk
      obtain ⟨b, g, q, c, ar, rfl, h7, h9, h12, hpos, hle⟩ := hB.cells
      obtain ⟨kd, hkd⟩ : ∃ kd, kids[0]? = some kd := ⟨_, List.getElem?_eq_getElem hpos⟩
      obtain ⟨kt, kq, hkl⟩ := (hk kd (List.mem_of_getElem? hkd)).ptr
      have HKD := Lib.hid hkd
      have HKL := Lib.hid hkl
      have hk0 := h12 0 kd hkd
      rw [hkl] at hk0
      have HBK := Lib.hid (And.intro h7 (And.intro h9 hk0))
      have t1 := as147_147 b
      have hw : IntKind.i64.wrap ((d : Int) + 1) = (d : Int) + 1 := by rw [IntKind.wrap_i64]; omega
      clear h7 h9 h12 hB hk hkd hkl hk0
      go_upto_region 5 with (fail)
      have HIa := Lib.hid (HI2.out.setIdx hd32 0)
      have HBa : Hid (But (· = ib) w (wr.setCell ⟨ib, 1 + d * 2 + 1, none⟩ (.int .i64 0))) := HB2.out.setCell (.inl rfl) _
      clear cd cv cx fx
      generalize wr.setCell ⟨ib, 1 + d * 2 + 1, none⟩ (.int .i64 0) = X at HIa HBa ⊢
      obtain ⟨ar1, har1⟩ : ∃ ar1, ar1 = arr.setIfInBounds (1 + d * 2 + 1) (.int .i64 0) := ⟨_, rfl⟩
      rw [← har1] at HIa
      have HA1 := Lib.hid har1
      have ci := cell_at (j := 1 + d * 2 + 1) (v := .int .i64 0) HIa.out.1 (by rw [har1, Array.getElem?_setIfInBounds_self_of_lt (by have := HI2.out.2.1; omega)])
      clear har1
      have hbb := HBa.out.at HBK.out.1 (ne133 HI.out.1 HBK.out.1 (by decide))
      have hbn := HBa.out.at HBK.out.2.1 (ne133 HI.out.1 HBK.out.2.1 (by decide))
      have hc1 := cell_at (j := 0) hbb rfl
      have hn0 := cell_at hbn HBK.out.2.2
      have cd := cell_at HIa.out.1 HIa.out.2.2.2.1
      have hd2 : d + 1 < 32 := by have := HRD2.out; omega
      obtain ⟨un, hun⟩ : ∃ u, ar1[1 + (d + 1) * 2]? = some u := ⟨_, Array.getElem?_eq_getElem (by have := HIa.out.2.1; omega)⟩
      obtain ⟨xn, hxn⟩ := HIa.out.2.2.2.2 (d + 1) hd2
      have cn := cell_at HIa.out.1 hun
      have cm := cell_at HIa.out.1 hxn
      have fn : X.frozen? ⟨ib, 1 + (d + 1) * 2, none⟩ = false := frozen_of_row _ _ _ _ _ HIa.out.1
      have fm : X.frozen? ⟨ib, 1 + (d + 1) * 2 + 1, none⟩ = false := frozen_of_row _ _ _ _ _ HIa.out.1
      have hd3 : (d : Int) + 1 < 32 := by omega
      have hd4 : (0 : Int) ≤ (d : Int) + 1 := by omega
      have hdt : ((d : Int) + 1).toNat = d + 1 := by omega
      have hpos' : (0 : Int) < (kids.length : Int) := by omega
      clear hbb hbn hun hxn
      refine region_tail 21 (by kernel_rfl) (by kernel_rfl) ?_
      simp only [List.take_succ_cons, List.take_zero, List.drop_succ_cons, List.drop_zero]
      repeat still_step
      refine wpStill_nil ?_
      go_upto_region 6 with (fail)
      have HIb : Hid (ItB (((X.setCell ⟨ib, 1 + (d + 1) * 2, none⟩ (.iface kt (.pointer (some ⟨kq, 0, none⟩)))).setCell ⟨ib, 1 + (d + 1) * 2 + 1, none⟩ (.int .i64 0)).drew.drew) ib mb ((ar1.setIfInBounds (1 + (d + 1) * 2) (.iface kt (.pointer (some ⟨kq, 0, none⟩)))).setIfInBounds (1 + (d + 1) * 2 + 1) (.int .i64 0)) (d : Int)) := (HIa.out.setNode hd2 (.iface kt (.pointer (some ⟨kq, 0, none⟩)))).setIdx hd2 0
      have HBb : Hid (But (· = ib) w (((X.setCell ⟨ib, 1 + (d + 1) * 2, none⟩ (.iface kt (.pointer (some ⟨kq, 0, none⟩)))).setCell ⟨ib, 1 + (d + 1) * 2 + 1, none⟩ (.int .i64 0)).drew.drew)) := ((HBa.out.setCell (.inl rfl) _).setCell (.inl rfl) _).drew.drew
      clear cd cn cm fn fm hc1 hn0 ci
      generalize (((X.setCell ⟨ib, 1 + (d + 1) * 2, none⟩ (.iface kt (.pointer (some ⟨kq, 0, none⟩)))).setCell ⟨ib, 1 + (d + 1) * 2 + 1, none⟩ (.int .i64 0)).drew.drew) = Y at HIb HBb ⊢
      have cd := cell_at HIb.out.1 HIb.out.2.2.2.1
      have fd : Y.frozen? ⟨ib, 65, none⟩ = false := frozen_of_row _ _ _ _ _ HIb.out.1
      go_wp2_with fail
      go_roundg r
      case measure => omega
      case rel =>
        obtain ⟨g1, g2⟩ := down_rel (x := 0) HI2.out.2.1 hd2 HA1.out rfl HV2.out HL2.out HBN.out HK.out HKD.out (u := .int .i64 0) (z := (d : Int) + 1)
        rw [HKL.out] at g1
        refine ⟨d + 1, r, kd.1, kd.2, (ess (kids.drop (0 + 1))).flatten ++ aft, _, rfl, by have := HRD2.out; omega, HIb.out.setDep ((d : Int) + 1), ?_, ?_, ?_, HBb.out.setCell (.inl rfl) _⟩
        · rw [HKL.out]; exact g1
        · rw [HKL.out, show (ess (kids.take 0)).flatten = [] from rfl, List.append_nil] at g2; rw [HKL.out]; exact g2
        · rw [HALL2.out, kid_split HKD.out, show (ess (kids.take 0)).flatten = [] from rfl]; simp only [List.append_assoc, List.nil_append]
end Go.Proofs.Ytefigjdebakccaa
