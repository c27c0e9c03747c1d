/- The walks over a branch with a bitmap that grows: set (as a copy). -/
import Derived.Test.YtpkndcmgialgcaaBmpT
namespace Go.Proofs.Ytpkndcmgialgcaa
open Go.RowKit

/-- the 32 places, filled up to i -/
def hrow (p : Nat → Bool) (kid : Nat → Value) (i : Nat) : List Value := .int .u64 (cnt p i : Nat) :: (List.range 32).map fun f => if decide (f < i) && p f then kid f else .nilIface
theorem hrow_len (p : Nat → Bool) (kid : Nat → Value) (i : Nat) : (hrow p kid i).length = 33 := by simp [hrow]
theorem hrow_at (p : Nat → Bool) (kid : Nat → Value) (i : Nat) {f : Nat} (hf : f < 32) : (hrow p kid i)[1 + f]? = some (if decide (f < i) && p f then kid f else .nilIface) := by
  unfold hrow
  rw [Nat.add_comm, List.getElem?_cons_succ, List.getElem?_map, List.getElem?_range hf]
  rfl
theorem hrow_f {p : Nat → Bool} (kid : Nat → Value) {i : Nat} (hp : p i = false) : hrow p kid (i + 1) = hrow p kid i := by
  unfold hrow
  rw [cnt_succ, hp]
  congr 1
  apply List.map_congr_left
  intro f _
  by_cases e : f = i
  · subst e; simp [hp]
  · have : (f < i + 1) = (f < i) := by apply propext; omega
    simp only [this]
theorem hrow_t {p : Nat → Bool} (kid : Nat → Value) {i : Nat} (hi : i < 32) (hp : p i = true) : ((hrow p kid i).set (1 + i) (kid i)).set 0 (.int .u64 (cnt p i + 1 : Nat)) = hrow p kid (i + 1) := by
  apply List.ext_getElem?
  intro k
  rcases k with _ | k
  · rw [List.getElem?_set_self (by rw [List.length_set, hrow_len]; omega)]
    unfold hrow
    rw [cnt_succ, if_pos hp]
    rfl
  · rw [List.getElem?_set_ne (by omega)]
    rcases Nat.lt_or_ge k 32 with hk | hk
    · rw [show k + 1 = 1 + k by omega, hrow_at _ _ _ hk]
      by_cases e : k = i
      · subst e
        rw [List.getElem?_set_self (by rw [hrow_len]; omega)]
        simp [hp]
      · rw [List.getElem?_set_ne (by omega), hrow_at _ _ _ hk]
        have : (k < i + 1) = (k < i) := by apply propext; omega
        simp only [this]
    · rw [List.getElem?_eq_none (by rw [List.length_set, hrow_len]; omega), List.getElem?_eq_none (by rw [hrow_len]; omega)]

set_option maxRecDepth 100000 in
set_option maxHeartbeats 1600000 in
theorem bmp_set_g (H : Value) (b rb nb n cap : Nat) (arr : Array Value) (sf hh : Nat) (key val : Int) (j m i : Nat) (hj : j < 32) (hs : sf < 32) (hb : bits BinOp.and IntKind.u32 ((hh : Int) / 2 ^ sf) 31 = (j : Int)) (w : World)
    (hz : (bits BinOp.and IntKind.u32 (m : Int) (2 ^ j % 4294967296) != 0) = false)
    (mr : Nat) (hr : bits BinOp.and IntKind.u32 m ((2 ^ j - 1) % 4294967296) = (mr : Int)) (hmr : mr < 4294967296) (hi : i = cnt mr.testBit 32) (hin : i ≤ n) (hn : 16 < n ∧ n ≤ 32) (hcap : n ≤ cap)
    (hblk : w.heap[b]? = some (.cells #[.int .u32 m, .slice (some ⟨nb, 0, none⟩) n cap] 255 (0, 0))) (hnb : w.heap[nb]? = some (.cells arr 165 (0, 0))) (L : List Value) (hL : L.length = n) (hcs : ∀ (k : Nat) (v : Value), L[k]? = some v → arr[k]? = some v ∧ v.oneCell' = true)
    (r : Bool) (hf : Flag w rb r) (p : Nat → Bool) (kid : Nat → Value) (hp : Bm m p) (hpn : cnt p 32 = n) (hkid : ∀ f, f < 32 → p f = true → L[cnt p f]? = some (kid f)) (hlit : ∀ f, f < 32 → p f = true → ∃ t q : Nat, kid f = .iface t (.pointer (some ⟨q, 0, none⟩))) :
    Calls Try.prog 200 #[.pointer (some ⟨b, 0, none⟩), .int .i64 key, .int .i64 val, .int .u64 sf, .int .u32 hh, H, .bool false, .pointer (some ⟨rb, 0, none⟩)] w fun e w' =>
      ∃ w2 q, But (· = rb) w w2 ∧ Flag w2 rb true ∧ w.heap.size ≤ q ∧ w2.heap[q]? = some (.cells #[.int .u32 hh, .int .i64 key, .int .i64 val] 186 (0, 0)) ∧ Below w2.heap.size w2 w' ∧
        ∃ b' : Nat, e = .returned (.iface 256 (.pointer (some ⟨b', 0, none⟩))) ∧ w2.heap.size ≤ b' ∧ w'.heap[b']? = some (.cells (((hrow p kid 32).set (1 + j) (.iface 184 (.pointer (some ⟨q, 0, none⟩)))).set 0 (.int .u64 (n + 1 : Nat))).toArray 259 (0, 0)) := by
  have hc0 := cell_at (j := 0) hblk rfl
  have hc1 := cell_at (j := 1) hblk rfl
  have HP : ∀ w, Hid (Calls Try.prog 201 #[.int .u32 mr] w fun e w' => e = .returned (.int .i64 (i : Nat)) ∧ Below w.heap.size w w') := fun w => by
    have hp := pop_w (mr : Int) w (by omega) (by omega)
    rw [Int.toNat_natCast, ← hi] at hp
    exact Lib.hid hp
  have HNE := Lib.hid (And.intro (hf.other hblk (by decide)) (hf.other hnb (by decide)))
  have HBLK := Lib.hid hblk
  have HNB := Lib.hid hnb
  have HLL := Lib.hid (And.intro hL hcs)
  have HN := Lib.hid (And.intro hn (And.intro hin hcap))
  have HF := Lib.hid hf
  have HPK := Lib.hid (And.intro hp (And.intro hpn (And.intro hkid hlit)))
  have hr' := cell_at (j := 0) hf rfl
  have hz' : w.frozen? ⟨rb, 0, none⟩ = false := frozen_of_row _ _ _ _ _ hf
  clear hblk hnb hL hcs hi hmr hf hp hpn hkid hlit
  go_enter Try.func200, Try.ntmps200
  go_upto_region 6 with (fail)
  have HB2 : Hid (But (· = rb) w (w.setCell ⟨rb, 0, none⟩ (.bool true))) := (But.refl _ w).set _
  have HF2 : Hid (Flag (w.setCell ⟨rb, 0, none⟩ (.bool true)) rb true) := HF.out.set true
  clear hr' hz' hc0 hc1
  generalize w.setCell ⟨rb, 0, none⟩ (.bool true) = w0 at HB2 HF2 ⊢
  have hc0 := cell_at (j := 0) (HB2.out.at HBLK.out HNE.out.1) rfl
  go_wp2_with fail
  with_reducible refine (HP _).out.mono ?_
  rintro e w1 ⟨rfl, hb1⟩
  have HB3 := Lib.hid (HB2.out.trans (But.of_below hb1))
  have HF3 := Lib.hid (HF2.out.below hb1)
  clear hb1 hc0 HB2 HF2
  clear w0
  go_wp2_with fail
  refine (newval_w _ _ _ _).mono ?_
  rintro e w2' ⟨rfl, rfl⟩
  have HB4 : Hid (But (· = rb) w (w1.alloc (.cells #[.int .u32 hh, .int .i64 key, .int .i64 val] 186))) := HB3.out.alloc _
  have HF4 : Hid (Flag (w1.alloc (.cells #[.int .u32 hh, .int .i64 key, .int .i64 val] 186)) rb true) := at_alloc HF3.out
  have HV4 : Hid ((w1.alloc (.cells #[.int .u32 hh, .int .i64 key, .int .i64 val] 186)).heap[w1.heap.size]? = some (.cells #[.int .u32 hh, .int .i64 key, .int .i64 val] 186 (0, 0))) := heap_alloc_last w1 _
  have HQ4 := Lib.hid HB3.out.size
  clear HB3 HF3
  generalize w1.alloc (.cells #[.int .u32 hh, .int .i64 key, .int .i64 val] 186) = w2 at HB4 HF4 HV4 ⊢
  generalize w1.heap.size = q at HV4 HQ4 ⊢
  clear w1
  have HB2b := Lib.hid (HB4.out.at HBLK.out HNE.out.1)
  have HB2n := Lib.hid (HB4.out.at HNB.out HNE.out.2)
  have hc0 := cell_at (j := 0) HB2b.out rfl
  have hc1 := cell_at (j := 1) HB2b.out rfl
  have h16 : decide ((16 : Int) < (n : Int)) = true := by simp; omega
  have h16' : 16 < n := by omega
  have HN17 := Lib.hid hn
  clear hn
  go_upto_region 13 with (fail)
  change Code.wp _ _ _ _ (w2.alloc (Obj.cells (hrow p kid 0).toArray 259))
  have HB5 : Hid (Below w2.heap.size w2 (w2.alloc (Obj.cells (hrow p kid 0).toArray 259))) := (Below.refl _ _).alloc (Nat.le_refl _) _
  have HZ5 : Hid ((w2.alloc (Obj.cells (hrow p kid 0).toArray 259)).heap[w2.heap.size]? = some (.cells (hrow p kid 0).toArray 259 (0, 0))) := heap_alloc_last w2 _
  clear hc0 hc1 h16 h16'
  generalize w2.alloc (Obj.cells (hrow p kid 0).toArray 259) = W at HB5 HZ5 ⊢
  go_wp2_with fail
  go_loopg [23] 32 (fun k v wr => ∃ f : Nat, f + k = 32 ∧ v = .int .u64 (f : Int) ∧ wr.heap[w2.heap.size]? = some (.cells (hrow p kid f).toArray 259 (0, 0)) ∧ Below w2.heap.size w2 wr)
  case atStart => exact ⟨0, rfl, rfl, HZ5.out, HB5.out⟩
  case round =>
    obtain ⟨f, hfk, rfl, hrw, hbw⟩ := hrel
    have HR := Lib.hid hrw
    have HBW := Lib.hid hbw
    have hc0 := (hbw.cell (lt_of_block HB2b.out)).trans (cell_at (j := 0) HB2b.out rfl)
    have hc1 := (hbw.cell (lt_of_block HB2b.out)).trans (cell_at (j := 1) HB2b.out rfl)
    have hw1 : IntKind.u64.wrap ((f : Int) + 1) = (f : Int) + 1 := by rw [IntKind.wrap_u64]; omega
    by_cases hlt : f < 32
    · have h1 : decide ((f : Int) < 32) = true := by simp; omega
      have hbit := and_bit m f HPK.out.1.1 hlt
      have htest := bm_test HPK.out.1 hlt
      cases hpf : p f with
      | false =>
        have hb0 : (bits BinOp.and IntKind.u32 (m : Int) (2 ^ f % 4294967296) != 0) = false := by rw [hbit, htest.2 hpf]; rfl
        have HPF := Lib.hid hpf
        clear hrw hbw hpf htest hbit
        go_wp2_with fail
        go_roundg (gk - 1)
        case measure => omega
        case rel =>
          exact ⟨f + 1, by omega, rfl, by rw [hrow_f kid HPF.out]; exact HR.out, HBW.out⟩
      | true =>
        have hb0 : (bits BinOp.and IntKind.u32 (m : Int) (2 ^ f % 4294967296) != 0) = true := by
          rw [hbit]
          have : ¬ (m &&& 2 ^ f = 0) := fun e => by rw [htest.1 e] at hpf; cases hpf
          simp only [bne_iff_ne, ne_eq]
          omega
        obtain ⟨c, hc⟩ : ∃ c, c = cnt p f := ⟨_, rfl⟩
        have hcn : c < n := by have := cnt_lt p hlt hpf; have := HPK.out.2.1; omega
        have hLc := HPK.out.2.2.1 f hlt hpf
        rw [← hc] at hLc
        obtain ⟨kt, kq, hkl⟩ := HPK.out.2.2.2 f hlt hpf
        rw [hkl] at hLc
        have HKL := Lib.hid hkl
        clear hkl
        have hcn' : (c : Int) < (n : Int) := by omega
        have hr0 : wr.cell? ⟨w2.heap.size, 0, none⟩ = some (.int .u64 (c : Int)) := cell_at hrw (by rw [hc]; rfl)
        have hz0 : wr.frozen? ⟨w2.heap.size, 0, none⟩ = false := frozen_of_row _ _ _ _ _ hrw
        have hr1 : wr.cell? ⟨w2.heap.size, 1 + f, none⟩ = some .nilIface := cell_at hrw (by rw [List.getElem?_toArray, hrow_at _ _ _ hlt]; simp)
        have hz1 : wr.frozen? ⟨w2.heap.size, 1 + f, none⟩ = false := frozen_of_row _ _ _ _ _ hrw
        have hcc := (hbw.cell (p := ⟨nb, c, none⟩) (lt_of_block HB2n.out)).trans (cell_at HB2n.out (HLL.out.2 _ _ hLc).1)
        have HPF := Lib.hid hpf
        have HC := Lib.hid hc
        have hwc : IntKind.u64.wrap ((c : Int) + 1) = (c : Int) + 1 := by rw [IntKind.wrap_u64]; have := HN17.out; omega
        clear hrw hbw hpf htest hbit hc hLc
        go_wp2_with fail
        have hfi : (f : Int) < 32 := by omega
        have hf0 : (0 : Int) ≤ (f : Int) := by omega
        clear h1
        refine region_tail 11 (by kernel_rfl) (by kernel_rfl) ?_
        simp only [List.take_succ_cons, List.take_zero, List.drop_succ_cons, List.drop_zero]
        repeat still_step
        refine wpStill_nil ?_
        go_wp2_with fail
        go_roundg (gk - 1)
        case measure => omega
        case rel =>
          refine ⟨f + 1, by omega, rfl, ?_, ?_⟩
          · rw [heap_drew]
            refine (heap_setCell_same _ _ _ _ _ _ (heap_setCell_same _ _ _ _ _ _ HR.out)).trans ?_
            rw [List.setIfInBounds_toArray, List.setIfInBounds_toArray, ← HKL.out, ← hrow_t kid hlt HPF.out, ← HC.out]
            rfl
          · exact ((HBW.out.setCell (Nat.le_refl _) _).setCell (Nat.le_refl _) _).drew
    · have h1 : decide ((f : Int) < 32) = false := by simp; omega
      have he : f = 32 := by omega
      have HR32 : Hid (wr.heap[w2.heap.size]? = some (.cells (hrow p kid 32).toArray 259 (0, 0))) := by rw [← he]; exact HR.out
      have hr0 : wr.cell? ⟨w2.heap.size, 0, none⟩ = some (.int .u64 (n : Int)) := cell_at HR32.out (by rw [← HPK.out.2.1]; rfl)
      have hz0 : wr.frozen? ⟨w2.heap.size, 0, none⟩ = false := frozen_of_row _ _ _ _ _ HR32.out
      obtain ⟨vj, hvj⟩ : ∃ vj, (hrow p kid 32)[1 + j]? = some vj := ⟨_, hrow_at p kid 32 hj⟩
      have hr1 : wr.cell? ⟨w2.heap.size, 1 + j, none⟩ = some vj := cell_at HR32.out (by rw [List.getElem?_toArray]; exact hvj)
      have hz1 : wr.frozen? ⟨w2.heap.size, 1 + j, none⟩ = false := frozen_of_row _ _ _ _ _ HR32.out
      have hwn : IntKind.u64.wrap ((n : Int) + 1) = (n : Int) + 1 := by rw [IntKind.wrap_u64]; have := HN17.out; omega
      clear he hvj
      go_wp2_with fail
      go_ret
      refine ⟨w2, q, HB4.out, HF4.out, HQ4.out, HV4.out, (HBW.out.setCell (Nat.le_refl _) _).setCell (Nat.le_refl _) _, w2.heap.size, rfl, Nat.le_refl _, ?_⟩
      refine (heap_setCell_same _ _ _ _ _ _ (heap_setCell_same _ _ _ _ _ _ HR32.out)).trans ?_
      rw [List.setIfInBounds_toArray, List.setIfInBounds_toArray]
      rfl
end Go.Proofs.Ytpkndcmgialgcaa
