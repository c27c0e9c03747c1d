/- The walks over thrown and its deferred closure: what a call of a closure does, and whether it panics. -/
import Derived.Test.YtnahipfdnadccaaBase
import Derived.Defers
import Derived.Recover
import Derived.Laws.Pointers
namespace Go.Proofs.Ytnahipfdnadccaa
open Go.RowKit

set_option maxRecDepth 100000 in
set_option maxHeartbeats 400000 in
theorem catch_panic (p : Addr) (x : Bool) (u : TypeId) (pv : Value) (older : List PanicEntry) (w : World) (hc : w.cell? p = some (.bool x)) (hz : w.frozen? p = false) :
    CallsD Try.prog 63 #[.pointer (some p)] (.panicking ({ v := .iface u pv, recovered := false } :: older)) w fun e u' w' =>
      e = .returned (.tuple #[]) ∧ u' = .panicking ({ v := .iface u pv, recovered := true } :: older) ∧ w' = w.setCell p (.bool true) := by
  refine callsD_of_wpS Try.func63 rfl fun c₀ cs hu => ?_
  apply wpS_region
  simp [wpOpsS, go_sem, recoverD, hu, Try.ntmps63, hc, hz, bodyPostS, results, Try.results63]

set_option maxRecDepth 100000 in
set_option maxHeartbeats 400000 in
theorem catch_idle (p : Addr) (x : Bool) (w : World) (hc : w.cell? p = some (.bool x)) (hz : w.frozen? p = false) :
    CallsD Try.prog 63 #[.pointer (some p)] .returning w fun e u' w' => e = .returned (.tuple #[]) ∧ u' = .returning ∧ w' = w.setCell p (.bool false) := by
  refine callsD_of_wpS Try.func63 rfl fun c₀ cs hu => ?_
  apply wpS_region
  simp [wpOpsS, go_sem, recoverD, hu, Try.ntmps63, hc, hz, bodyPostS, results, Try.results63]
  cases c₀
  simp_all

set_option maxRecDepth 100000 in
set_option maxHeartbeats 400000 in
/-- thrown of a closure: whether the closure panics, what it does -/
theorem thrown_w (cap : Array Value) (w : World) (R : Bool → World → Prop)
    (h : Calls Try.prog 56 cap (w.alloc (.cells #[.bool false] 4)) fun e w' => w'.cell? ⟨w.heap.size, 0, none⟩ = some (.bool false) ∧ w'.frozen? ⟨w.heap.size, 0, none⟩ = false ∧
      ((e = .returned (.tuple #[]) ∧ R false w') ∨ ∃ t v, e = .panicked [{ v := .iface t v, recovered := false }] ∧ R true w')) :
    Calls Try.prog 37 #[.func (.func 56) #[] cap] w fun e w'' => ∃ b w', e = .returned (.bool b) ∧ R b w' ∧ ((b = false ∧ w'' = (w'.setCell ⟨w.heap.size, 0, none⟩ (.bool false)).setCell ⟨w.heap.size, 0, none⟩ (.bool false)) ∨ (b = true ∧ w'' = w'.setCell ⟨w.heap.size, 0, none⟩ (.bool true))) := by
  have hmf : ∀ (fn : Fn) (first cap : Array Value) (w : World), (Instr.makeFunc fn first cap).run Try.prog w = .ok (.func fn first cap) w := fun _ _ _ _ => rfl
  go_enter_defers Try.func37, Try.ntmps37
  go_wp2_with fail
  refine h.mono ?_
  rintro e w' ⟨h1, h2, ⟨rfl, h3⟩ | ⟨t, v, rfl, h3⟩⟩
  · have H3 := Lib.hid h3; clear h3 h
    go_wp2_with fail
    refine leaves_cons (f := 63) (args := #[.pointer (some ⟨w.heap.size, 0, none⟩)]) (by simp) (by simp [go_sem]) ?_
    refine (catch_idle ⟨w.heap.size, 0, none⟩ false _ ?_ ?_).mono ?_
    · simp [go_sem, h1]
    · simp [go_sem, h2]
    rintro e u' w'' ⟨rfl, rfl, rfl⟩
    have hl := World.cell?_setCell_same (v := .bool false) _ _ (World.cell?_setCell_same (v := .bool false) _ _ h1)
    simp [Leaves, settle, results, Try.results37, go_sem, hl]
    exact ⟨_, H3.out, rfl⟩
  · have H3 := Lib.hid h3; clear h3 h
    refine leaves_cons (f := 63) (args := #[.pointer (some ⟨w.heap.size, 0, none⟩)]) (by simp) (by simp [go_sem]) ?_
    refine (catch_panic ⟨w.heap.size, 0, none⟩ false _ _ [] _ ?_ ?_).mono ?_
    · simp [go_sem, h1]
    · simp [go_sem, h2]
    rintro e u' w'' ⟨rfl, rfl, rfl⟩
    have hl := World.cell?_setCell_same (v := .bool true) _ _ h1
    simp [Leaves, settle, results, Try.results37, go_sem, hl]
    exact ⟨_, H3.out, rfl⟩

end Go.Proofs.Ytnahipfdnadccaa
