/- Moves of an iterator over a sorted map. -/
import Derived.Test.YtefigjdebakccaaFrt
namespace Go.Proofs.Ytefigjdebakccaa
open Go.RowKit

abbrev Sn := Int × Int × Bool
/-- the place behind a move -/
def mvPos (lt : Int → Int → Bool) (es : List (Int × Int)) (p : Option Nat) (m : Nat × Int) : Option Nat :=
  if m.1 = 0 then pos es 0 else if m.1 = 1 then ppos es.length else if m.1 = 2 then p.bind (fun i => pos es (i + 1)) else if m.1 = 3 then p.bind ppos else if m.1 = 4 then pos es (at_ lt es m.2) else p
/-- what a move tells -/
def mvSeen (es : List (Int × Int)) (p : Option Nat) (m : Nat × Int) : Sn :=
  if m.1 = 2 ∨ m.1 = 3 then match p with
    | none => (0, 0, false)
    | some i => match es[i]? with
      | some y => (y.1, y.2, true)
      | none => (0, 0, false)
  else if m.1 = 5 then (0, 0, p.isNone) else (0, 0, false)
def seens (lt : Int → Int → Bool) (es : List (Int × Int)) : Option Nat → List (Nat × Int) → List Sn
  | _, [] => []
  | p, m :: ms => mvSeen es p m :: seens lt es (mvPos lt es p m) ms
theorem seens_len (lt : Int → Int → Bool) (es : List (Int × Int)) : ∀ (ms : List (Nat × Int)) (p : Option Nat), (seens lt es p ms).length = ms.length
  | [], _ => rfl
  | m :: ms, p => by
    show (seens lt es (mvPos lt es p m) ms).length + 1 = ms.length + 1
    rw [seens_len lt es ms]
def sncells (l : List Sn) : List Value := l.flatMap fun s => [.int .i64 s.1, .int .i64 s.2.1, .bool s.2.2]
theorem sncells_append (a b : List Sn) : sncells (a ++ b) = sncells a ++ sncells b := by unfold sncells; rw [List.flatMap_append]
/-- v is a slice of these moves -/
def MovesV (w : World) (v : Value) (ms : List (Nat × Int)) : Prop :=
  ∃ (a : Option Addr) (cap : Nat), v = .slice a ms.length cap ∧ ∀ (i : Nat) (m : Nat × Int), ms[i]? = some m → ∃ g q, a = some ⟨g, q, none⟩ ∧ w.cell? ⟨g, q + i * 2, none⟩ = some (.int .u8 (m.1 : Int)) ∧ w.cell? ⟨g, q + i * 2 + 1, none⟩ = some (.int .i64 m.2)
theorem MovesV.below {w w' : World} {v : Value} {ms : List (Nat × Int)} (h : MovesV w v ms) (b : Below w.heap.size w w') : MovesV w' v ms := by
  obtain ⟨a, cap, h1, h2⟩ := h
  refine ⟨a, cap, h1, fun i e he => ?_⟩
  obtain ⟨g, o, h3, h4, h5⟩ := h2 i e he
  exact ⟨g, o, h3, (b.cell (World.block_lt_of_cell? w _ h4)).trans h4, (b.cell (World.block_lt_of_cell? w _ h5)).trans h5⟩
theorem info49 : (Try.prog.info? 49).map (fun i => (i.zero, i.size, i.bytes)) = some (some (.agg #[.int .i64 0, .int .i64 0, .bool false]), 3, 24) := by kernel_rfl
theorem three_new (w : World) (a b c : Value) (t : TypeId) : ∀ j u, [a, b, c][j]? = some u → (w.alloc (.cells #[a, b, c] t)).cell? ((⟨w.heap.size, 0, none⟩ : Addr).add j) = some u := fun j u hu => by
  rw [addr_add, Nat.zero_add]
  exact cell_at (heap_alloc_last w _) (by simpa using hu)
theorem sn_one (a b : Int) (c : Bool) : ∀ u ∈ [Value.int .i64 a, .int .i64 b, .bool c], u.oneCell' = true := fun u hu => by
  simp only [List.mem_cons, List.not_mem_nil, or_false] at hu
  rcases hu with rfl | rfl | rfl <;> rfl
theorem own49 : ¬ Own 49 := by unfold Own; simp
theorem own110 : ¬ Own 110 := by unfold Own; simp

theorem SMapAt.but {w W : World} {ib mb o k : Nat} {es : List (Int × Int)} {a0 : Array Value} (h : SMapAt w mb o k es) (hb : But (· = ib) w W) (h0 : w.heap[ib]? = some (.cells a0 133 (0, 0))) : SMapAt W mb o k es := by
  obtain ⟨root, cv, h1, h2, h3, h4⟩ := h
  exact ⟨root, cv, hb.at h1 (ne133 h0 h1 (by decide)), h2, h3, h4.imp id fun ⟨r, n, h5, h6⟩ => ⟨r, n, h5.stay (hb.stay133 h0), h6⟩⟩
theorem St.cells {w : World} {ib mb : Nat} {all : List (Int × Int)} {p : Option Nat} (n : St w ib mb all p) : ∃ arr, w.heap[ib]? = some (.cells arr 133 (0, 0)) := by
  obtain ⟨arr, dd, h⟩ := n.itb
  exact ⟨arr, h.1⟩
/-- what a move tells is being made -/
def Rdy (w : World) (ib b8 : Nat) (sv : Value) (j : Nat) (cs : List Value) (x y z : Value) (W : World) : Prop :=
  But (· = ib) w W ∧ W.ownsRow w.heap.size 49 3 sv j cs ∧ W.heap[b8]? = some (.cells #[x, y, z] 49 (0, 0)) ∧ w.heap.size ≤ b8 ∧ ib < w.heap.size ∧ (∀ k, sv.ownBlock = some k → k ≠ b8)
section
variable {w W W' : World} {ib b8 j mb : Nat} {sv x y z : Value} {cs : List Value}
theorem Rdy.call (h : Rdy w ib b8 sv j cs x y z W) (hb : But (· = ib) W W') : Rdy w ib b8 sv j cs x y z W' := by
  obtain ⟨h1, h2, h3, h4, h5, h6⟩ := h
  exact ⟨h1.trans hb, own_but h2 hb (fun k hk e => by have := (h2.lt k hk).1; omega), hb.at h3 (by omega), h4, h5, h6⟩
theorem Rdy.f (h : Rdy w ib b8 sv j cs x y z W) (i : Nat) : W.frozen? ⟨b8, i, none⟩ = false := frozen_of_row _ _ _ _ _ h.2.2.1
theorem Rdy.c0 (h : Rdy w ib b8 sv j cs x y z W) : W.cell? ⟨b8, 0, none⟩ = some x := cell_at h.2.2.1 rfl
theorem Rdy.c1 (h : Rdy w ib b8 sv j cs x y z W) : W.cell? ⟨b8, 1, none⟩ = some y := cell_at h.2.2.1 rfl
theorem Rdy.c2 (h : Rdy w ib b8 sv j cs x y z W) : W.cell? ⟨b8, 2, none⟩ = some z := cell_at h.2.2.1 rfl
theorem Rdy.own (h : Rdy w ib b8 sv j cs x y z W) (i : Nat) (u : Value) : (W.setCell ⟨b8, i, none⟩ u).ownsRow w.heap.size 49 3 sv j cs :=
  own_but h.2.1 ((But.refl (· = b8) W).setCell (.inl rfl) u) fun k hk e => h.2.2.2.2.2 k hk e
theorem Rdy.but (h : Rdy w ib b8 sv j cs x y z W) (i : Nat) (u : Value) : But (· = ib) w (W.setCell ⟨b8, i, none⟩ u) := h.1.setCell (.inr h.2.2.2.1) u
theorem Rdy.s0 (h : Rdy w ib b8 sv j cs x y z W) (u : Value) : Rdy w ib b8 sv j cs u y z (W.setCell ⟨b8, 0, none⟩ u) := ⟨h.but 0 u, h.own 0 u, heap_setCell_same _ _ _ _ _ _ h.2.2.1, h.2.2.2⟩
theorem Rdy.s1 (h : Rdy w ib b8 sv j cs x y z W) (u : Value) : Rdy w ib b8 sv j cs x u z (W.setCell ⟨b8, 1, none⟩ u) := ⟨h.but 1 u, h.own 1 u, heap_setCell_same _ _ _ _ _ _ h.2.2.1, h.2.2.2⟩
theorem Rdy.s2 (h : Rdy w ib b8 sv j cs x y z W) (u : Value) : Rdy w ib b8 sv j cs x y u (W.setCell ⟨b8, 2, none⟩ u) := ⟨h.but 2 u, h.own 2 u, heap_setCell_same _ _ _ _ _ _ h.2.2.1, h.2.2.2⟩
theorem Rdy.st {all : List (Int × Int)} {p : Option Nat} (h : Rdy w ib b8 sv j cs x y z W) (i : Nat) (u : Value) (n : St W ib mb all p) : St (W.setCell ⟨b8, i, none⟩ u) ib mb all p := by
  have hb : But (· = b8) W (W.setCell ⟨b8, i, none⟩ u) := (But.refl (· = b8) W).setCell (.inl rfl) u
  obtain ⟨-, -, h3, h4, h5, -⟩ := h
  refine n.stay (fun b c t h1 ht => hb.at h1 fun e => ?_) fun arr ha => hb.at ha (by omega)
  subst e
  rw [h3] at h1
  simp only [Option.some.injEq, Obj.cells.injEq] at h1
  exact own49 (h1.2.1 ▸ ht)
end
theorem seens_step {lt : Int → Int → Bool} {es : List (Int × Int)} {p : Option Nat} {ms : List (Nat × Int)} {j : Nat} {m : Nat × Int} (hm : ms[j]? = some m) : seens lt es p (ms.drop j) = mvSeen es p m :: seens lt es (mvPos lt es p m) (ms.drop (j + 1)) := by
  obtain ⟨hl, he⟩ := List.getElem?_eq_some_iff.1 hm
  rw [List.drop_eq_getElem_cons hl, he]
  rfl

set_option maxRecDepth 100000 in
set_option maxHeartbeats 3200000 in
theorem walked_w (o k ib mb : Nat) (hk : k < 900) (es : List (Int × Int)) (ms : List (Nat × Int)) (hm5 : ∀ m ∈ ms, m.1 ≤ 5) (hml : ms.length ≤ 100000) (mv : Value) (w0 w : World) (hmv : MovesV w0 mv ms) (hb0 : Below w0.heap.size w0 w) (h0 : w0.heap.size ≤ ib) (hib : ib < w.heap.size) (_hmb : mb < w.heap.size) (p0 : Option Nat) (hst : St w ib mb es p0) (hmap : SMapAt w mb o k es) :
    Calls Try.prog 59 #[.pointer (some ⟨ib, 0, none⟩), mv] w fun e w' => ∃ sv, e = .returned sv ∧ w'.ownsRow w.heap.size 49 3 sv ms.length (sncells (seens (ltO o) es p0 ms)) ∧ But (· = ib) w w' := by
  obtain ⟨i49, hi, hz0, hz1, hz2⟩ := info_parts info49
  have HI := Lib.hid (And.intro hi (And.intro hz0 (And.intro hz1 hz2)))
  clear hi hz0 hz1 hz2
  have HMV := Lib.hid hmv
  have HB0 := Lib.hid hb0
  have HIB := Lib.hid hib
  have HIB0 := Lib.hid h0
  have HST0 := Lib.hid hst
  have HMAP := Lib.hid hmap
  have HM5 := Lib.hid hm5
  obtain ⟨ma, mcap, rfl, -⟩ := hmv
  obtain ⟨n, hn⟩ : ∃ n, n = ms.length := ⟨_, rfl⟩
  rw [← hn] at hml ⊢
  have HN := Lib.hid hn
  obtain ⟨tot, htot⟩ : ∃ tot, tot = seens (ltO o) es p0 ms := ⟨_, rfl⟩
  rw [← htot]
  have HTOT := Lib.hid htot
  clear hb0 hib h0 hst hmap hm5 hn htot
  go_enter Try.func59, Try.ntmps59
  go_wp2_with fail
  go_loopg [5, 11] n (fun k sv v wr => ∃ (outs : List Sn) (p : Option Nat), k + outs.length = n ∧ v = .int .i64 (outs.length : Int) ∧ tot = outs ++ seens (ltO o) es p (ms.drop outs.length) ∧ St wr ib mb es p ∧ wr.ownsRow w.heap.size 49 3 sv outs.length (sncells outs) ∧ But (· = ib) w wr)
  case atStart => exact ⟨[], p0, rfl, rfl, HTOT.out, HST0.out, World.ownsRow_nil _ _ _ _, But.refl _ _⟩
  case round =>
    obtain ⟨outs, p, hk2, rfl, htot, hst, how, hb⟩ := hrel
    have HST := Lib.hid hst
    have HOW := Lib.hid how
    have HB := Lib.hid hb
    have HTO := Lib.hid htot
    clear hst how hb htot
    obtain ⟨j, hj⟩ : ∃ j, j = outs.length := ⟨_, rfl⟩
    rw [← hj] at hk2 HOW HTO ⊢
    have HJ := Lib.hid hj
    clear hj
    by_cases hlt : j < n
    · have h1 : decide ((j : Int) < (n : Int)) = true := by simp; omega
      have hw1 : IntKind.i64.wrap ((j : Int) + 1) = (j : Int) + 1 := by rw [IntKind.wrap_i64]; omega
      have hj0 : (0 : Int) ≤ (j : Int) := by omega
      have hj1 : (j : Int) < (n : Int) := by omega
      obtain ⟨m, hm⟩ : ∃ m, ms[j]? = some m := ⟨_, List.getElem?_eq_getElem (by rw [← HN.out]; exact hlt)⟩
      have hbw : Below w0.heap.size w0 wr := HB0.out.trans (HB.out.below (by exact HB0.out.size) (fun k hk => by rw [hk]; exact HIB0.out))
      have hmv2 := HMV.out.below hbw
      obtain ⟨a, cap, hv, hread⟩ := hmv2
      obtain ⟨g, q, ha, c0, c1⟩ := hread j m hm
      simp only [Value.slice.injEq] at hv
      obtain ⟨hv1, -, -⟩ := hv
      have hma : ma = some ⟨g, q, none⟩ := hv1.trans ha
      subst hma
      have HM := Lib.hid hm
      have hle5 := HM5.out m (List.mem_of_getElem? hm)
      obtain ⟨op, key⟩ := m
      clear hread hv1 ha hm hbw
      go_upto_region 6 with (fail)
      have hbx : Below wr.heap.size wr ((wr.alloc (Obj.cells #[Value.int IntKind.u8 op, Value.int IntKind.i64 key] 110)).alloc (Obj.cells #[Value.int IntKind.i64 0, Value.int IntKind.i64 0, Value.bool false] 49)) := ((Below.refl _ _).alloc (Nat.le_refl _) _).alloc (by rw [size_alloc]; omega) _
      have HSTX := Lib.hid (HST.out.stay (Stay.of_below hbx) fun arr ha => below_at hbx ha)
      have hwb : w.heap.size ≤ wr.heap.size := HB.out.size
      have HX7 : Hid (((wr.alloc (Obj.cells #[Value.int IntKind.u8 op, Value.int IntKind.i64 key] 110)).alloc (Obj.cells #[Value.int IntKind.i64 0, Value.int IntKind.i64 0, Value.bool false] 49)).heap[wr.heap.size]? = some (.cells #[Value.int IntKind.u8 op, Value.int IntKind.i64 key] 110 (0, 0))) := at_alloc (heap_alloc_last wr _)
      have HR : Hid (Rdy w ib (wr.heap.size + 1) u5 j (sncells outs) (.int .i64 0) (.int .i64 0) (.bool false) ((wr.alloc (Obj.cells #[Value.int IntKind.u8 op, Value.int IntKind.i64 key] 110)).alloc (Obj.cells #[Value.int IntKind.i64 0, Value.int IntKind.i64 0, Value.bool false] 49))) := by
        refine ⟨HB.out.trans (But.of_below hbx), own_below HOW.out hbx, ?_, by omega, HIB.out, fun k hk e => ?_⟩
        · have h := heap_alloc_last (wr.alloc (Obj.cells #[Value.int IntKind.u8 op, Value.int IntKind.i64 key] 110)) (Obj.cells #[Value.int IntKind.i64 0, Value.int IntKind.i64 0, Value.bool false] 49)
          rw [size_alloc] at h
          exact h
        · have := (HOW.out.lt k hk).2
          omega
      have hb7 : wr.heap.size ≠ ib := by have := HIB.out; omega
      generalize (wr.alloc (Obj.cells #[Value.int IntKind.u8 op, Value.int IntKind.i64 key] 110)).alloc (Obj.cells #[Value.int IntKind.i64 0, Value.int IntKind.i64 0, Value.bool false] 49) = X at HSTX HX7 HR ⊢
      generalize wr.heap.size = b7 at HX7 HR hb7 ⊢
      obtain ⟨b8, hb8⟩ : ∃ b8, b8 = b7 + 1 := ⟨_, rfl⟩
      rw [← hb8] at HR ⊢
      clear hb8 hbx hwb c0 c1 HST HOW HB
      have x0 := cell_at (j := 0) HX7.out rfl
      have x1 := cell_at (j := 1) HX7.out rfl
      obtain ⟨arrX, ddX, hitb⟩ := HSTX.out.itb
      obtain ⟨arr0, har0⟩ := HST0.out.cells
      have HITB := Lib.hid hitb
      have HMX := Lib.hid (HMAP.out.but HR.out.1 har0)
      clear hitb har0
      have HOP : op = 0 ∨ op = 1 ∨ op = 2 ∨ op = 3 ∨ op = 4 ∨ op = 5 := by have : op ≤ 5 := hle5; omega
      clear hle5 hlt
      rcases HOP with rfl | rfl | rfl | rfl | rfl | rfl
      · go_wp2_with fail
        refine (ifirst_w hk HITB.out HMX.out).mono ?_
        rintro e w2 ⟨rfl, hb2, hst2⟩
        have HST2 := Lib.hid hst2
        have HR2 := Lib.hid (HR.out.call hb2)
        clear hb2 hst2 HSTX HR HX7 HITB HMX
        have x1 : True := trivial
        have x0 : True := trivial
        have HSN : Hid (mvSeen es p (0, key) = (0, 0, false)) := rfl
        have HPN : Hid (mvPos (ltO o) es p (0, key) = pos es 0) := rfl
        clear x0 x1
        have e0 := HR2.out.c0
        have e1 := HR2.out.c1
        have e2 := HR2.out.c2
        go_wp2_with (at_builtin; refine wpList_append_own _ rfl (.tmp 58) (.tmp 60) 33 rfl w.heap.size 49 i49 (.agg #[.int .i64 0, .int .i64 0, .bool false]) 3 24 Try.underlying33 HI.out.1 HI.out.2.1 HI.out.2.2.1 HI.out.2.2.2 rfl (by decide) _ _ _ rfl (HR2.out.2.1.alloc _) ⟨w2.heap.size, 0, none⟩ 1 1 [.int .i64 (0), .int .i64 (0), .bool (false)] rfl rfl (three_new _ _ _ _ _) (sn_one _ _ _) (by unfold maxLen; omega) (by omega) (by have := HR2.out.1.size; rw [size_alloc]; omega) ?_)
        intro v4 w4 hown4 hgrow4 _
        have hwz : w.heap.size ≤ w2.heap.size := HR2.out.1.size
        have hA4 : Below w2.heap.size w2 (w2.alloc (.cells #[.int .i64 (0), .int .i64 (0), .bool (false)] 49)) := (Below.refl _ _).alloc (Nat.le_refl _) _
        have hBW := below_grown ((Below.refl w.heap.size w2).alloc hwz (.cells #[.int .i64 (0), .int .i64 (0), .bool (false)] 49)) HR2.out.2.1 (Nat.le_refl _) hwz hgrow4
        have HST4 : Hid (St w4 ib mb es (pos es 0)) := HST2.out.keep hBW ((Stay.of_below hA4).trans (grown_stay (HR2.out.2.1.alloc _) (Below.refl _ _) hgrow4 own49)) HIB.out
        have HB4 : Hid (But (· = ib) w w4) := ⟨hBW.os.trans HR2.out.1.os, hBW.tape.trans HR2.out.1.tape, hBW.output.trans HR2.out.1.output, Nat.le_trans HR2.out.1.size hBW.size, fun k hk hs => (hBW.block k hk).trans (HR2.out.1.block k hk hs)⟩
        have HO4 := Lib.hid hown4
        clear hown4 hgrow4 hA4 hBW e0 e1 e2
        go_wp2_with fail
        go_roundg (gk - 1)
        case measure => omega
        case rel =>
          have hj := HJ.out
          refine ⟨outs ++ [(0, 0, false)], pos es 0, ?_, ?_, ?_, HST4.out, ?_, HB4.out⟩
          · rw [List.length_append, List.length_singleton]; omega
          · rw [List.length_append, List.length_singleton, ← hj]; rfl
          · rw [HTO.out, seens_step HM.out, HSN.out, HPN.out, List.length_append, List.length_singleton, ← hj, List.append_assoc]; rfl
          · rw [List.length_append, List.length_singleton, ← hj, sncells_append]; exact HO4.out
      · go_wp2_with fail
        refine (ilast_w hk HITB.out HMX.out).mono ?_
        rintro e w2 ⟨rfl, hb2, hst2⟩
        have HST2 := Lib.hid hst2
        have HR2 := Lib.hid (HR.out.call hb2)
        clear hb2 hst2 HSTX HR HX7 HITB HMX
        have x1 : True := trivial
        have x0 : True := trivial
        have HSN : Hid (mvSeen es p (1, key) = (0, 0, false)) := rfl
        have HPN : Hid (mvPos (ltO o) es p (1, key) = ppos es.length) := rfl
        clear x0 x1
        have e0 := HR2.out.c0
        have e1 := HR2.out.c1
        have e2 := HR2.out.c2
        go_wp2_with (at_builtin; refine wpList_append_own _ rfl (.tmp 58) (.tmp 60) 33 rfl w.heap.size 49 i49 (.agg #[.int .i64 0, .int .i64 0, .bool false]) 3 24 Try.underlying33 HI.out.1 HI.out.2.1 HI.out.2.2.1 HI.out.2.2.2 rfl (by decide) _ _ _ rfl (HR2.out.2.1.alloc _) ⟨w2.heap.size, 0, none⟩ 1 1 [.int .i64 (0), .int .i64 (0), .bool (false)] rfl rfl (three_new _ _ _ _ _) (sn_one _ _ _) (by unfold maxLen; omega) (by omega) (by have := HR2.out.1.size; rw [size_alloc]; omega) ?_)
        intro v4 w4 hown4 hgrow4 _
        have hwz : w.heap.size ≤ w2.heap.size := HR2.out.1.size
        have hA4 : Below w2.heap.size w2 (w2.alloc (.cells #[.int .i64 (0), .int .i64 (0), .bool (false)] 49)) := (Below.refl _ _).alloc (Nat.le_refl _) _
        have hBW := below_grown ((Below.refl w.heap.size w2).alloc hwz (.cells #[.int .i64 (0), .int .i64 (0), .bool (false)] 49)) HR2.out.2.1 (Nat.le_refl _) hwz hgrow4
        have HST4 : Hid (St w4 ib mb es (ppos es.length)) := HST2.out.keep hBW ((Stay.of_below hA4).trans (grown_stay (HR2.out.2.1.alloc _) (Below.refl _ _) hgrow4 own49)) HIB.out
        have HB4 : Hid (But (· = ib) w w4) := ⟨hBW.os.trans HR2.out.1.os, hBW.tape.trans HR2.out.1.tape, hBW.output.trans HR2.out.1.output, Nat.le_trans HR2.out.1.size hBW.size, fun k hk hs => (hBW.block k hk).trans (HR2.out.1.block k hk hs)⟩
        have HO4 := Lib.hid hown4
        clear hown4 hgrow4 hA4 hBW e0 e1 e2
        go_wp2_with fail
        go_roundg (gk - 1)
        case measure => omega
        case rel =>
          have hj := HJ.out
          refine ⟨outs ++ [(0, 0, false)], ppos es.length, ?_, ?_, ?_, HST4.out, ?_, HB4.out⟩
          · rw [List.length_append, List.length_singleton]; omega
          · rw [List.length_append, List.length_singleton, ← hj]; rfl
          · rw [HTO.out, seens_step HM.out, HSN.out, HPN.out, List.length_append, List.length_singleton, ← hj, List.append_assoc]; rfl
          · rw [List.length_append, List.length_singleton, ← hj, sncells_append]; exact HO4.out
      · rcases p with _ | i
        · go_wp2_with fail
          refine (inext_none HSTX.out).mono ?_
          rintro e w2 ⟨rfl, rfl⟩
          have f0 := HR.out.f 0
          have f1 := HR.out.f 1
          have f2 := HR.out.f 2
          have q0 := HR.out.c0
          have q1 := HR.out.c1
          have q2 := HR.out.c2
          go_upto_region 19 with (fail)
          have HR2 := Lib.hid (((HR.out.s0 (.int .i64 0)).s1 (.int .i64 0)).s2 (.bool false))
          have HST2 := Lib.hid (((HR.out.s0 (.int .i64 0)).s1 (.int .i64 0)).st 2 (.bool false) ((HR.out.s0 (.int .i64 0)).st 1 (.int .i64 0) (HR.out.st 0 (.int .i64 0) HSTX.out)))
          clear f0 f1 f2 q0 q1 q2 HSTX HR HX7 HITB HMX x0 x1
          generalize ((X.setCell ⟨b8, 0, none⟩ (.int .i64 0)).setCell ⟨b8, 1, none⟩ (.int .i64 0)).setCell ⟨b8, 2, none⟩ (.bool false) = Z at HR2 HST2 ⊢
          have x1 : True := trivial
          have x0 : True := trivial
          have HSN : Hid (mvSeen es none (2, key) = (0, 0, false)) := rfl
          have HPN : Hid (mvPos (ltO o) es none (2, key) = none) := rfl
          clear x0 x1
          have e0 := HR2.out.c0
          have e1 := HR2.out.c1
          have e2 := HR2.out.c2
          go_wp2_with (at_builtin; refine wpList_append_own _ rfl (.tmp 58) (.tmp 60) 33 rfl w.heap.size 49 i49 (.agg #[.int .i64 0, .int .i64 0, .bool false]) 3 24 Try.underlying33 HI.out.1 HI.out.2.1 HI.out.2.2.1 HI.out.2.2.2 rfl (by decide) _ _ _ rfl (HR2.out.2.1.alloc _) ⟨Z.heap.size, 0, none⟩ 1 1 [.int .i64 (0), .int .i64 (0), .bool (false)] rfl rfl (three_new _ _ _ _ _) (sn_one _ _ _) (by unfold maxLen; omega) (by omega) (by have := HR2.out.1.size; rw [size_alloc]; omega) ?_)
          intro v4 w4 hown4 hgrow4 _
          have hwz : w.heap.size ≤ Z.heap.size := HR2.out.1.size
          have hA4 : Below Z.heap.size Z (Z.alloc (.cells #[.int .i64 (0), .int .i64 (0), .bool (false)] 49)) := (Below.refl _ _).alloc (Nat.le_refl _) _
          have hBW := below_grown ((Below.refl w.heap.size Z).alloc hwz (.cells #[.int .i64 (0), .int .i64 (0), .bool (false)] 49)) HR2.out.2.1 (Nat.le_refl _) hwz hgrow4
          have HST4 : Hid (St w4 ib mb es (none)) := HST2.out.keep hBW ((Stay.of_below hA4).trans (grown_stay (HR2.out.2.1.alloc _) (Below.refl _ _) hgrow4 own49)) HIB.out
          have HB4 : Hid (But (· = ib) w w4) := ⟨hBW.os.trans HR2.out.1.os, hBW.tape.trans HR2.out.1.tape, hBW.output.trans HR2.out.1.output, Nat.le_trans HR2.out.1.size hBW.size, fun k hk hs => (hBW.block k hk).trans (HR2.out.1.block k hk hs)⟩
          have HO4 := Lib.hid hown4
          clear hown4 hgrow4 hA4 hBW e0 e1 e2
          go_wp2_with fail
          go_roundg (gk - 1)
          case measure => omega
          case rel =>
            have hj := HJ.out
            refine ⟨outs ++ [(0, 0, false)], none, ?_, ?_, ?_, HST4.out, ?_, HB4.out⟩
            · rw [List.length_append, List.length_singleton]; omega
            · rw [List.length_append, List.length_singleton, ← hj]; rfl
            · rw [HTO.out, seens_step HM.out, HSN.out, HPN.out, List.length_append, List.length_singleton, ← hj, List.append_assoc]; rfl
            · rw [List.length_append, List.length_singleton, ← hj, sncells_append]; exact HO4.out
        · obtain ⟨y, hy⟩ : ∃ y, es[i]? = some y := ⟨_, List.getElem?_eq_getElem HSTX.out.lt⟩
          have HY := Lib.hid hy
          clear hy
          obtain ⟨y1, y2⟩ := y
          go_wp2_with fail
          refine (inext_some HSTX.out HY.out).mono ?_
          rintro e w2 ⟨rfl, hb2, hst2⟩
          have HSTY := Lib.hid hst2
          have HRY := Lib.hid (HR.out.call hb2)
          clear hb2 hst2 HSTX HR HITB HMX x0 x1
          have f0 := HRY.out.f 0
          have f1 := HRY.out.f 1
          have f2 := HRY.out.f 2
          have q0 := HRY.out.c0
          have q1 := HRY.out.c1
          have q2 := HRY.out.c2
          go_upto_region 19 with (fail)
          have HR2 := Lib.hid (((HRY.out.s0 (.int .i64 y1)).s1 (.int .i64 y2)).s2 (.bool true))
          have HST2 := Lib.hid (((HRY.out.s0 (.int .i64 y1)).s1 (.int .i64 y2)).st 2 (.bool true) ((HRY.out.s0 (.int .i64 y1)).st 1 (.int .i64 y2) (HRY.out.st 0 (.int .i64 y1) HSTY.out)))
          clear f0 f1 f2 q0 q1 q2 HSTY HRY HX7
          generalize ((w2.setCell ⟨b8, 0, none⟩ (.int .i64 y1)).setCell ⟨b8, 1, none⟩ (.int .i64 y2)).setCell ⟨b8, 2, none⟩ (.bool true) = Z at HR2 HST2 ⊢
          have x1 : True := trivial
          have x0 : True := trivial
          have HSN : Hid (mvSeen es (some i) (2, key) = (y1, y2, true)) := by show (match es[i]? with | some y => (y.1, y.2, true) | none => (0, 0, false)) = _; rw [HY.out]
          have HPN : Hid (mvPos (ltO o) es (some i) (2, key) = pos es (i + 1)) := rfl
          clear x0 x1
          have e0 := HR2.out.c0
          have e1 := HR2.out.c1
          have e2 := HR2.out.c2
          go_wp2_with (at_builtin; refine wpList_append_own _ rfl (.tmp 58) (.tmp 60) 33 rfl w.heap.size 49 i49 (.agg #[.int .i64 0, .int .i64 0, .bool false]) 3 24 Try.underlying33 HI.out.1 HI.out.2.1 HI.out.2.2.1 HI.out.2.2.2 rfl (by decide) _ _ _ rfl (HR2.out.2.1.alloc _) ⟨Z.heap.size, 0, none⟩ 1 1 [.int .i64 (y1), .int .i64 (y2), .bool (true)] rfl rfl (three_new _ _ _ _ _) (sn_one _ _ _) (by unfold maxLen; omega) (by omega) (by have := HR2.out.1.size; rw [size_alloc]; omega) ?_)
          intro v4 w4 hown4 hgrow4 _
          have hwz : w.heap.size ≤ Z.heap.size := HR2.out.1.size
          have hA4 : Below Z.heap.size Z (Z.alloc (.cells #[.int .i64 (y1), .int .i64 (y2), .bool (true)] 49)) := (Below.refl _ _).alloc (Nat.le_refl _) _
          have hBW := below_grown ((Below.refl w.heap.size Z).alloc hwz (.cells #[.int .i64 (y1), .int .i64 (y2), .bool (true)] 49)) HR2.out.2.1 (Nat.le_refl _) hwz hgrow4
          have HST4 : Hid (St w4 ib mb es (pos es (i + 1))) := HST2.out.keep hBW ((Stay.of_below hA4).trans (grown_stay (HR2.out.2.1.alloc _) (Below.refl _ _) hgrow4 own49)) HIB.out
          have HB4 : Hid (But (· = ib) w w4) := ⟨hBW.os.trans HR2.out.1.os, hBW.tape.trans HR2.out.1.tape, hBW.output.trans HR2.out.1.output, Nat.le_trans HR2.out.1.size hBW.size, fun k hk hs => (hBW.block k hk).trans (HR2.out.1.block k hk hs)⟩
          have HO4 := Lib.hid hown4
          clear hown4 hgrow4 hA4 hBW e0 e1 e2
          go_wp2_with fail
          go_roundg (gk - 1)
          case measure => omega
          case rel =>
            have hj := HJ.out
            refine ⟨outs ++ [(y1, y2, true)], pos es (i + 1), ?_, ?_, ?_, HST4.out, ?_, HB4.out⟩
            · rw [List.length_append, List.length_singleton]; omega
            · rw [List.length_append, List.length_singleton, ← hj]; rfl
            · rw [HTO.out, seens_step HM.out, HSN.out, HPN.out, List.length_append, List.length_singleton, ← hj, List.append_assoc]; rfl
            · rw [List.length_append, List.length_singleton, ← hj, sncells_append]; exact HO4.out
      · rcases p with _ | i
        · go_wp2_with fail
          refine (iprev_none HSTX.out).mono ?_
          rintro e w2 ⟨rfl, rfl⟩
          have f0 := HR.out.f 0
          have f1 := HR.out.f 1
          have f2 := HR.out.f 2
          have q0 := HR.out.c0
          have q1 := HR.out.c1
          have q2 := HR.out.c2
          go_upto_region 19 with (fail)
          have HR2 := Lib.hid (((HR.out.s0 (.int .i64 0)).s1 (.int .i64 0)).s2 (.bool false))
          have HST2 := Lib.hid (((HR.out.s0 (.int .i64 0)).s1 (.int .i64 0)).st 2 (.bool false) ((HR.out.s0 (.int .i64 0)).st 1 (.int .i64 0) (HR.out.st 0 (.int .i64 0) HSTX.out)))
          clear f0 f1 f2 q0 q1 q2 HSTX HR HX7 HITB HMX x0 x1
          generalize ((X.setCell ⟨b8, 0, none⟩ (.int .i64 0)).setCell ⟨b8, 1, none⟩ (.int .i64 0)).setCell ⟨b8, 2, none⟩ (.bool false) = Z at HR2 HST2 ⊢
          have x1 : True := trivial
          have x0 : True := trivial
          have HSN : Hid (mvSeen es none (3, key) = (0, 0, false)) := rfl
          have HPN : Hid (mvPos (ltO o) es none (3, key) = none) := rfl
          clear x0 x1
          have e0 := HR2.out.c0
          have e1 := HR2.out.c1
          have e2 := HR2.out.c2
          go_wp2_with (at_builtin; refine wpList_append_own _ rfl (.tmp 58) (.tmp 60) 33 rfl w.heap.size 49 i49 (.agg #[.int .i64 0, .int .i64 0, .bool false]) 3 24 Try.underlying33 HI.out.1 HI.out.2.1 HI.out.2.2.1 HI.out.2.2.2 rfl (by decide) _ _ _ rfl (HR2.out.2.1.alloc _) ⟨Z.heap.size, 0, none⟩ 1 1 [.int .i64 (0), .int .i64 (0), .bool (false)] rfl rfl (three_new _ _ _ _ _) (sn_one _ _ _) (by unfold maxLen; omega) (by omega) (by have := HR2.out.1.size; rw [size_alloc]; omega) ?_)
          intro v4 w4 hown4 hgrow4 _
          have hwz : w.heap.size ≤ Z.heap.size := HR2.out.1.size
          have hA4 : Below Z.heap.size Z (Z.alloc (.cells #[.int .i64 (0), .int .i64 (0), .bool (false)] 49)) := (Below.refl _ _).alloc (Nat.le_refl _) _
          have hBW := below_grown ((Below.refl w.heap.size Z).alloc hwz (.cells #[.int .i64 (0), .int .i64 (0), .bool (false)] 49)) HR2.out.2.1 (Nat.le_refl _) hwz hgrow4
          have HST4 : Hid (St w4 ib mb es (none)) := HST2.out.keep hBW ((Stay.of_below hA4).trans (grown_stay (HR2.out.2.1.alloc _) (Below.refl _ _) hgrow4 own49)) HIB.out
          have HB4 : Hid (But (· = ib) w w4) := ⟨hBW.os.trans HR2.out.1.os, hBW.tape.trans HR2.out.1.tape, hBW.output.trans HR2.out.1.output, Nat.le_trans HR2.out.1.size hBW.size, fun k hk hs => (hBW.block k hk).trans (HR2.out.1.block k hk hs)⟩
          have HO4 := Lib.hid hown4
          clear hown4 hgrow4 hA4 hBW e0 e1 e2
          go_wp2_with fail
          go_roundg (gk - 1)
          case measure => omega
          case rel =>
            have hj := HJ.out
            refine ⟨outs ++ [(0, 0, false)], none, ?_, ?_, ?_, HST4.out, ?_, HB4.out⟩
            · rw [List.length_append, List.length_singleton]; omega
            · rw [List.length_append, List.length_singleton, ← hj]; rfl
            · rw [HTO.out, seens_step HM.out, HSN.out, HPN.out, List.length_append, List.length_singleton, ← hj, List.append_assoc]; rfl
            · rw [List.length_append, List.length_singleton, ← hj, sncells_append]; exact HO4.out
        · obtain ⟨y, hy⟩ : ∃ y, es[i]? = some y := ⟨_, List.getElem?_eq_getElem HSTX.out.lt⟩
          have HY := Lib.hid hy
          clear hy
          obtain ⟨y1, y2⟩ := y
          go_wp2_with fail
          refine (iprev_some HSTX.out HY.out).mono ?_
          rintro e w2 ⟨rfl, hb2, hst2⟩
          have HSTY := Lib.hid hst2
          have HRY := Lib.hid (HR.out.call hb2)
          clear hb2 hst2 HSTX HR HITB HMX x0 x1
          have f0 := HRY.out.f 0
          have f1 := HRY.out.f 1
          have f2 := HRY.out.f 2
          have q0 := HRY.out.c0
          have q1 := HRY.out.c1
          have q2 := HRY.out.c2
          go_upto_region 19 with (fail)
          have HR2 := Lib.hid (((HRY.out.s0 (.int .i64 y1)).s1 (.int .i64 y2)).s2 (.bool true))
          have HST2 := Lib.hid (((HRY.out.s0 (.int .i64 y1)).s1 (.int .i64 y2)).st 2 (.bool true) ((HRY.out.s0 (.int .i64 y1)).st 1 (.int .i64 y2) (HRY.out.st 0 (.int .i64 y1) HSTY.out)))
          clear f0 f1 f2 q0 q1 q2 HSTY HRY HX7
          generalize ((w2.setCell ⟨b8, 0, none⟩ (.int .i64 y1)).setCell ⟨b8, 1, none⟩ (.int .i64 y2)).setCell ⟨b8, 2, none⟩ (.bool true) = Z at HR2 HST2 ⊢
          have x1 : True := trivial
          have x0 : True := trivial
          have HSN : Hid (mvSeen es (some i) (3, key) = (y1, y2, true)) := by show (match es[i]? with | some y => (y.1, y.2, true) | none => (0, 0, false)) = _; rw [HY.out]
          have HPN : Hid (mvPos (ltO o) es (some i) (3, key) = ppos i) := rfl
          clear x0 x1
          have e0 := HR2.out.c0
          have e1 := HR2.out.c1
          have e2 := HR2.out.c2
          go_wp2_with (at_builtin; refine wpList_append_own _ rfl (.tmp 58) (.tmp 60) 33 rfl w.heap.size 49 i49 (.agg #[.int .i64 0, .int .i64 0, .bool false]) 3 24 Try.underlying33 HI.out.1 HI.out.2.1 HI.out.2.2.1 HI.out.2.2.2 rfl (by decide) _ _ _ rfl (HR2.out.2.1.alloc _) ⟨Z.heap.size, 0, none⟩ 1 1 [.int .i64 (y1), .int .i64 (y2), .bool (true)] rfl rfl (three_new _ _ _ _ _) (sn_one _ _ _) (by unfold maxLen; omega) (by omega) (by have := HR2.out.1.size; rw [size_alloc]; omega) ?_)
          intro v4 w4 hown4 hgrow4 _
          have hwz : w.heap.size ≤ Z.heap.size := HR2.out.1.size
          have hA4 : Below Z.heap.size Z (Z.alloc (.cells #[.int .i64 (y1), .int .i64 (y2), .bool (true)] 49)) := (Below.refl _ _).alloc (Nat.le_refl _) _
          have hBW := below_grown ((Below.refl w.heap.size Z).alloc hwz (.cells #[.int .i64 (y1), .int .i64 (y2), .bool (true)] 49)) HR2.out.2.1 (Nat.le_refl _) hwz hgrow4
          have HST4 : Hid (St w4 ib mb es (ppos i)) := HST2.out.keep hBW ((Stay.of_below hA4).trans (grown_stay (HR2.out.2.1.alloc _) (Below.refl _ _) hgrow4 own49)) HIB.out
          have HB4 : Hid (But (· = ib) w w4) := ⟨hBW.os.trans HR2.out.1.os, hBW.tape.trans HR2.out.1.tape, hBW.output.trans HR2.out.1.output, Nat.le_trans HR2.out.1.size hBW.size, fun k hk hs => (hBW.block k hk).trans (HR2.out.1.block k hk hs)⟩
          have HO4 := Lib.hid hown4
          clear hown4 hgrow4 hA4 hBW e0 e1 e2
          go_wp2_with fail
          go_roundg (gk - 1)
          case measure => omega
          case rel =>
            have hj := HJ.out
            refine ⟨outs ++ [(y1, y2, true)], ppos i, ?_, ?_, ?_, HST4.out, ?_, HB4.out⟩
            · rw [List.length_append, List.length_singleton]; omega
            · rw [List.length_append, List.length_singleton, ← hj]; rfl
            · rw [HTO.out, seens_step HM.out, HSN.out, HPN.out, List.length_append, List.length_singleton, ← hj, List.append_assoc]; rfl
            · rw [List.length_append, List.length_singleton, ← hj, sncells_append]; exact HO4.out
      · go_wp2_with fail
        refine (iseek_w key hk HITB.out HMX.out).mono ?_
        rintro e w2 ⟨rfl, hb2, hst2⟩
        have HST2 := Lib.hid hst2
        have HR2 := Lib.hid (HR.out.call hb2)
        clear hb2 hst2 HSTX HR HX7 HITB HMX
        have x1 : True := trivial
        have x0 : True := trivial
        have HSN : Hid (mvSeen es p (4, key) = (0, 0, false)) := rfl
        have HPN : Hid (mvPos (ltO o) es p (4, key) = pos es (at_ (ltO o) es key)) := rfl
        clear x0 x1
        have e0 := HR2.out.c0
        have e1 := HR2.out.c1
        have e2 := HR2.out.c2
        go_wp2_with (at_builtin; refine wpList_append_own _ rfl (.tmp 58) (.tmp 60) 33 rfl w.heap.size 49 i49 (.agg #[.int .i64 0, .int .i64 0, .bool false]) 3 24 Try.underlying33 HI.out.1 HI.out.2.1 HI.out.2.2.1 HI.out.2.2.2 rfl (by decide) _ _ _ rfl (HR2.out.2.1.alloc _) ⟨w2.heap.size, 0, none⟩ 1 1 [.int .i64 (0), .int .i64 (0), .bool (false)] rfl rfl (three_new _ _ _ _ _) (sn_one _ _ _) (by unfold maxLen; omega) (by omega) (by have := HR2.out.1.size; rw [size_alloc]; omega) ?_)
        intro v4 w4 hown4 hgrow4 _
        have hwz : w.heap.size ≤ w2.heap.size := HR2.out.1.size
        have hA4 : Below w2.heap.size w2 (w2.alloc (.cells #[.int .i64 (0), .int .i64 (0), .bool (false)] 49)) := (Below.refl _ _).alloc (Nat.le_refl _) _
        have hBW := below_grown ((Below.refl w.heap.size w2).alloc hwz (.cells #[.int .i64 (0), .int .i64 (0), .bool (false)] 49)) HR2.out.2.1 (Nat.le_refl _) hwz hgrow4
        have HST4 : Hid (St w4 ib mb es (pos es (at_ (ltO o) es key))) := HST2.out.keep hBW ((Stay.of_below hA4).trans (grown_stay (HR2.out.2.1.alloc _) (Below.refl _ _) hgrow4 own49)) HIB.out
        have HB4 : Hid (But (· = ib) w w4) := ⟨hBW.os.trans HR2.out.1.os, hBW.tape.trans HR2.out.1.tape, hBW.output.trans HR2.out.1.output, Nat.le_trans HR2.out.1.size hBW.size, fun k hk hs => (hBW.block k hk).trans (HR2.out.1.block k hk hs)⟩
        have HO4 := Lib.hid hown4
        clear hown4 hgrow4 hA4 hBW e0 e1 e2
        go_wp2_with fail
        go_roundg (gk - 1)
        case measure => omega
        case rel =>
          have hj := HJ.out
          refine ⟨outs ++ [(0, 0, false)], pos es (at_ (ltO o) es key), ?_, ?_, ?_, HST4.out, ?_, HB4.out⟩
          · rw [List.length_append, List.length_singleton]; omega
          · rw [List.length_append, List.length_singleton, ← hj]; rfl
          · rw [HTO.out, seens_step HM.out, HSN.out, HPN.out, List.length_append, List.length_singleton, ← hj, List.append_assoc]; rfl
          · rw [List.length_append, List.length_singleton, ← hj, sncells_append]; exact HO4.out
      · go_wp2_with fail
        refine (done_w HSTX.out).mono ?_
        rintro e w2 ⟨rfl, rfl⟩
        have f2 := HR.out.f 2
        have q2 := HR.out.c2
        obtain ⟨pb, hpb⟩ : ∃ pb, pb = p.isNone := ⟨_, rfl⟩
        rw [← hpb]
        have HPB := Lib.hid hpb
        clear hpb
        go_upto_region 19 with (fail)
        have HR2 := Lib.hid (HR.out.s2 (.bool pb))
        have HST2 := Lib.hid (HR.out.st 2 (.bool pb) HSTX.out)
        clear f2 q2 HSTX HR HX7 HITB HMX x0 x1
        generalize X.setCell ⟨b8, 2, none⟩ (.bool pb) = Z at HR2 HST2 ⊢
        have x1 : True := trivial
        have x0 : True := trivial
        have HSN : Hid (mvSeen es p (5, key) = (0, 0, pb)) := by rw [HPB.out]; rfl
        have HPN : Hid (mvPos (ltO o) es p (5, key) = p) := rfl
        clear x0 x1
        have e0 := HR2.out.c0
        have e1 := HR2.out.c1
        have e2 := HR2.out.c2
        go_wp2_with (at_builtin; refine wpList_append_own _ rfl (.tmp 58) (.tmp 60) 33 rfl w.heap.size 49 i49 (.agg #[.int .i64 0, .int .i64 0, .bool false]) 3 24 Try.underlying33 HI.out.1 HI.out.2.1 HI.out.2.2.1 HI.out.2.2.2 rfl (by decide) _ _ _ rfl (HR2.out.2.1.alloc _) ⟨Z.heap.size, 0, none⟩ 1 1 [.int .i64 (0), .int .i64 (0), .bool (pb)] rfl rfl (three_new _ _ _ _ _) (sn_one _ _ _) (by unfold maxLen; omega) (by omega) (by have := HR2.out.1.size; rw [size_alloc]; omega) ?_)
        intro v4 w4 hown4 hgrow4 _
        have hwz : w.heap.size ≤ Z.heap.size := HR2.out.1.size
        have hA4 : Below Z.heap.size Z (Z.alloc (.cells #[.int .i64 (0), .int .i64 (0), .bool (pb)] 49)) := (Below.refl _ _).alloc (Nat.le_refl _) _
        have hBW := below_grown ((Below.refl w.heap.size Z).alloc hwz (.cells #[.int .i64 (0), .int .i64 (0), .bool (pb)] 49)) HR2.out.2.1 (Nat.le_refl _) hwz hgrow4
        have HST4 : Hid (St w4 ib mb es (p)) := HST2.out.keep hBW ((Stay.of_below hA4).trans (grown_stay (HR2.out.2.1.alloc _) (Below.refl _ _) hgrow4 own49)) HIB.out
        have HB4 : Hid (But (· = ib) w w4) := ⟨hBW.os.trans HR2.out.1.os, hBW.tape.trans HR2.out.1.tape, hBW.output.trans HR2.out.1.output, Nat.le_trans HR2.out.1.size hBW.size, fun k hk hs => (hBW.block k hk).trans (HR2.out.1.block k hk hs)⟩
        have HO4 := Lib.hid hown4
        clear hown4 hgrow4 hA4 hBW e0 e1 e2
        go_wp2_with fail
        go_roundg (gk - 1)
        case measure => omega
        case rel =>
          have hj := HJ.out
          refine ⟨outs ++ [(0, 0, pb)], p, ?_, ?_, ?_, HST4.out, ?_, HB4.out⟩
          · rw [List.length_append, List.length_singleton]; omega
          · rw [List.length_append, List.length_singleton, ← hj]; rfl
          · rw [HTO.out, seens_step HM.out, HSN.out, HPN.out, List.length_append, List.length_singleton, ← hj, List.append_assoc]; rfl
          · rw [List.length_append, List.length_singleton, ← hj, sncells_append]; exact HO4.out
    · have h1 : decide ((j : Int) < (n : Int)) = false := by simp; omega
      have hjn : j = n := by omega
      have HJN := Lib.hid hjn
      clear hjn
      go_wp2_with fail
      refine bodyPost_ret (results_tmp rfl _ _ _) rfl ?_
      refine ⟨_, rfl, ?_, HB.out⟩
      have ht := HTO.out
      rw [List.drop_of_length_le (by rw [HJN.out, HN.out]; exact Nat.le_refl _)] at ht
      rw [ht, show seens (ltO o) es p [] = [] from by cases p <;> rfl, List.append_nil, ← HJN.out]
      exact HOW.out
end Go.Proofs.Ytefigjdebakccaa
