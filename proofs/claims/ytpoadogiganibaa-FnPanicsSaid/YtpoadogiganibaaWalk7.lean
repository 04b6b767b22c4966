/- The contract of Panics: it tells whether the division panics. -/
import Derived.Test.YtpoadogiganibaaRows
import Derived.WalkKit
import Derived.WalkLawsBesides
import Derived.WalkSpells
import Derived.Outline
import Derived.Lib.Hide
import Derived.Defers
import Derived.Recover
import Derived.Laws.Pointers
import Derived.Laws.Panics
import Derived.Deep.QuietTactic
import Derived.BigQuiet
import Derived.RegionDies
import Derived.Test.YtpoadogiganibaaWalk3
set_option linter.unusedVariables false
namespace Go.Proofs.Ytpoadogiganibaa
open Go.RowKit Go.Proofs.Ytpoadogiganibaa.Plain


theorem catch_panicking (p : Addr) (x : Bool) (u : TypeId) (pv : Value) (older : List PanicEntry) (w : World) (hc : w.cell? p = some (.bool x)) (hz : w.frozen? p = false) :
    CallsD Try.prog 34 #[.pointer (some p)] (.panicking ({ v := .iface u pv, recovered := false } :: older)) w fun e u' w' =>
      e = .returned (.tuple #[]) ∧ u' = .panicking ({ v := .iface u pv, recovered := true } :: older) ∧ w' = w.setCell p (.bool true) := by
  refine callsD_of_wpS Try.func34 rfl fun c₀ cs hu => ?_
  apply wpS_region
  simp [wpOpsS, go_sem, recoverD, hu, Try.ntmps34, hc, hz, bodyPostS, results, Try.results34]

theorem catch_idle (p : Addr) (x : Bool) (w : World) (hc : w.cell? p = some (.bool x)) (hz : w.frozen? p = false) :
    CallsD Try.prog 34 #[.pointer (some p)] .returning w fun e u' w' => e = .returned (.tuple #[]) ∧ u' = .returning ∧ w' = w.setCell p (.bool false) := by
  refine callsD_of_wpS Try.func34 rfl fun c₀ cs hu => ?_
  apply wpS_region
  simp [wpOpsS, go_sem, recoverD, hu, Try.ntmps34, hc, hz, bodyPostS, results, Try.results34]
  cases c₀
  simp_all

/-- a call that panics with a value of its own or of the runtime's, and leaves the memory as it was -/
def Pan (w : World) (e : Ending) (w' : World) : Prop := ∃ u pv, e = .panicked [{ v := .iface u pv, recovered := false }] ∧ ∃ m, w' = w.drewN m

set_option maxHeartbeats 1000000 in
theorem div64_zero (hi lo : Nat) (w : World) : Calls Try.prog 32 #[.int .u64 (hi : Int), .int .u64 (lo : Int), .int .u64 0] w (Pan w) := by
  go_enter Try.func32, Try.ntmps32
  go_wp2
  exact ⟨rfl, _, _, rfl, 0, rfl⟩
set_option maxHeartbeats 1000000 in
theorem div64_over (hi lo y : Nat) (h0 : 0 < y) (h : y ≤ hi) (w : World) : Calls Try.prog 32 #[.int .u64 (hi : Int), .int .u64 (lo : Int), .int .u64 (y : Int)] w (Pan w) := by
  have n1 : ((y : Int) == 0) = false := by simp; omega
  have n3 : decide (y ≤ hi) = true := by simp; omega
  go_enter Try.func32, Try.ntmps32
  go_wp2
  exact ⟨rfl, _, _, rfl, 0, rfl⟩
set_option maxHeartbeats 1000000 in
theorem div32_over (hi lo y : Nat) (h0 : 0 < y) (h : y ≤ hi) (w : World) : Calls Try.prog 35 #[.int .u32 (hi : Int), .int .u32 (lo : Int), .int .u32 (y : Int)] w (Pan w) := by
  have n1 : ((y : Int) == 0) = false := by simp; omega
  have n2 : ((y : Int) != 0) = true := by simp; omega
  have n3 : decide (y ≤ hi) = true := by simp; omega
  go_enter Try.func35, Try.ntmps35
  go_wp2
  exact ⟨rfl, _, _, rfl, 0, rfl⟩
set_option maxHeartbeats 1000000 in
theorem rem32_zero (hi lo : Nat) (hh : hi < 4294967296) (hl : lo < 4294967296) (w : World) : Calls Try.prog 36 #[.int .u32 (hi : Int), .int .u32 (lo : Int), .int .u32 0] w (Pan w) := by
  go_enter Try.func36, Try.ntmps36
  go_wp2
  exact ⟨rfl, _, _, rfl, 0, rfl⟩
set_option maxHeartbeats 1000000 in
theorem rem64_zero (hi lo : Nat) (hh : hi < 18446744073709551616) (w : World) : Calls Try.prog 33 #[.int .u64 (hi : Int), .int .u64 (lo : Int), .int .u64 0] w (Pan w) := by
  go_enter Try.func33, Try.ntmps33
  go_wp2
  exact ⟨rfl, _, _, rfl, 0, rfl⟩
set_option maxHeartbeats 1000000 in
theorem div32_zero (hi lo : Nat) (hh : hi < 4294967296) (hl : lo < 4294967296) (w : World) : Calls Try.prog 35 #[.int .u32 (hi : Int), .int .u32 (lo : Int), .int .u32 0] w (Pan w) := by
  have hw0 : IntKind.u64.wrap 0 = 0 := by decide
  go_enter Try.func35, Try.ntmps35
  go_wp2
  go_region_dies
  all_goals (try go_wp2)
  all_goals exact ⟨rfl, _, _, rfl, 1, rfl⟩

set_option maxHeartbeats 1000000 in
theorem p0_over (hi lo y : Nat) (h0 : 0 < y) (h : y ≤ hi) (w : World) :
    Calls Try.prog 25 #[.int .i64 0, .int .u64 (hi : Int), .int .u64 (lo : Int), .int .u64 (y : Int)] w fun e w' => e = .returned (.bool true) ∧ Grown w w' := by
  have hmf : ∀ (fn : Fn) (first cap : Array Value) (w : World), (Instr.makeFunc fn first cap).run Try.prog w = .ok (.func fn first cap) w := fun _ _ _ _ => rfl
  go_enter_defers Try.func25, Try.ntmps25
  go_wp2_with (go_at_call 32; refine (div64_over hi lo y h0 h _).mono ?_; rintro e w' ⟨u, pv, rfl, m, rfl⟩)
  refine leaves_cons (f := 34) (args := #[.pointer (some ⟨w.heap.size, 0, none⟩)]) (by simp) (by simp [go_sem]) ?_
  refine (catch_panicking ⟨w.heap.size, 0, none⟩ false _ _ [] _ ?_ ?_).mono ?_
  · simp [go_sem]
  · simp [go_sem]
  rintro e u' w'' ⟨rfl, rfl, rfl⟩
  simp [Leaves, settle, results, Try.results25, go_sem]
  exact Grown.setCell (w' := (w.alloc _).drewN m) ((Grown.refl w).alloc _ _) (Nat.le_refl _) _

set_option maxHeartbeats 1000000 in
theorem p0_no (hi lo y : Nat) (hh : hi < y) (hl : lo < 18446744073709551616) (hy : y < 18446744073709551616) (w : World) :
    Calls Try.prog 25 #[.int .i64 0, .int .u64 (hi : Int), .int .u64 (lo : Int), .int .u64 (y : Int)] w fun e w' => e = .returned (.bool false) ∧ Grown w w' := by
  have hmf : ∀ (fn : Fn) (first cap : Array Value) (w : World), (Instr.makeFunc fn first cap).run Try.prog w = .ok (.func fn first cap) w := fun _ _ _ _ => rfl
  go_enter_defers Try.func25, Try.ntmps25
  go_wp2_with (go_at_call 32; refine (div64_any hi lo y hh hl hy _).mono ?_; rintro e w' ⟨rfl, m, rfl⟩)
  refine leaves_cons (f := 34) (args := #[.pointer (some ⟨w.heap.size, 0, none⟩)]) (by simp) (by simp [go_sem]) ?_
  refine (catch_idle ⟨w.heap.size, 0, none⟩ false _ ?_ ?_).mono ?_
  · simp [go_sem]
  · simp [go_sem]
  rintro e u' w'' ⟨rfl, rfl, rfl⟩
  simp [Leaves, settle, results, Try.results25, go_sem]
  exact Grown.setCell (Grown.setCell (w' := (w.alloc _).drewN m) ((Grown.refl w).alloc _ _) (Nat.le_refl _) _) (Nat.le_refl _) _

set_option maxHeartbeats 1000000 in
theorem p0_zero (hi lo : Nat) (w : World) :
    Calls Try.prog 25 #[.int .i64 0, .int .u64 (hi : Int), .int .u64 (lo : Int), .int .u64 0] w fun e w' => e = .returned (.bool true) ∧ Grown w w' := by
  have hmf : ∀ (fn : Fn) (first cap : Array Value) (w : World), (Instr.makeFunc fn first cap).run Try.prog w = .ok (.func fn first cap) w := fun _ _ _ _ => rfl
  go_enter_defers Try.func25, Try.ntmps25
  go_wp2_with (go_at_call 32; refine (div64_zero hi lo _).mono ?_; rintro e w' ⟨u, pv, rfl, m, rfl⟩)
  refine leaves_cons (f := 34) (args := #[.pointer (some ⟨w.heap.size, 0, none⟩)]) (by simp) (by simp [go_sem]) ?_
  refine (catch_panicking ⟨w.heap.size, 0, none⟩ false _ _ [] _ ?_ ?_).mono ?_
  · simp [go_sem]
  · simp [go_sem]
  rintro e u' w'' ⟨rfl, rfl, rfl⟩
  simp [Leaves, settle, results, Try.results25, go_sem]
  exact Grown.setCell (w' := (w.alloc _).drewN m) ((Grown.refl w).alloc _ _) (Nat.le_refl _) _

set_option maxHeartbeats 1000000 in
theorem p2_zero (hi lo : Nat) (hh : hi < 18446744073709551616) (w : World) :
    Calls Try.prog 25 #[.int .i64 2, .int .u64 (hi : Int), .int .u64 (lo : Int), .int .u64 0] w fun e w' => e = .returned (.bool true) ∧ Grown w w' := by
  have hmf : ∀ (fn : Fn) (first cap : Array Value) (w : World), (Instr.makeFunc fn first cap).run Try.prog w = .ok (.func fn first cap) w := fun _ _ _ _ => rfl
  go_enter_defers Try.func25, Try.ntmps25
  go_wp2_with (go_at_call 33; refine (rem64_zero hi lo hh _).mono ?_; rintro e w' ⟨u, pv, rfl, m, rfl⟩)
  refine leaves_cons (f := 34) (args := #[.pointer (some ⟨w.heap.size, 0, none⟩)]) (by simp) (by simp [go_sem]) ?_
  refine (catch_panicking ⟨w.heap.size, 0, none⟩ false _ _ [] _ ?_ ?_).mono ?_
  · simp [go_sem]
  · simp [go_sem]
  rintro e u' w'' ⟨rfl, rfl, rfl⟩
  simp [Leaves, settle, results, Try.results25, go_sem]
  exact Grown.setCell (w' := (w.alloc _).drewN m) ((Grown.refl w).alloc _ _) (Nat.le_refl _) _

set_option maxHeartbeats 1000000 in
theorem p2_no (hi lo y : Nat) (hh : hi < 18446744073709551616) (hl : lo < 18446744073709551616) (h0 : 0 < y) (hy : y < 18446744073709551616) (w : World) :
    Calls Try.prog 25 #[.int .i64 2, .int .u64 (hi : Int), .int .u64 (lo : Int), .int .u64 (y : Int)] w fun e w' => e = .returned (.bool false) ∧ Grown w w' := by
  have hmf : ∀ (fn : Fn) (first cap : Array Value) (w : World), (Instr.makeFunc fn first cap).run Try.prog w = .ok (.func fn first cap) w := fun _ _ _ _ => rfl
  go_enter_defers Try.func25, Try.ntmps25
  go_wp2_with (go_at_call 33; refine (rem64_any hi lo y hh hl h0 hy _).mono ?_; rintro e w' ⟨rfl, m, rfl⟩)
  refine leaves_cons (f := 34) (args := #[.pointer (some ⟨w.heap.size, 0, none⟩)]) (by simp) (by simp [go_sem]) ?_
  refine (catch_idle ⟨w.heap.size, 0, none⟩ false _ ?_ ?_).mono ?_
  · simp [go_sem]
  · simp [go_sem]
  rintro e u' w'' ⟨rfl, rfl, rfl⟩
  simp [Leaves, settle, results, Try.results25, go_sem]
  exact Grown.setCell (Grown.setCell (w' := (w.alloc _).drewN m) ((Grown.refl w).alloc _ _) (Nat.le_refl _) _) (Nat.le_refl _) _

set_option maxHeartbeats 1000000 in
theorem p1_over (hi lo y hi2 lo2 y2 : Nat) (hhi : (hi : Int) % 4294967296 = (hi2 : Int)) (hlo : (lo : Int) % 4294967296 = (lo2 : Int)) (hy : (y : Int) % 4294967296 = (y2 : Int)) (h0 : 0 < y2) (h : y2 ≤ hi2) (w : World) :
    Calls Try.prog 25 #[.int .i64 1, .int .u64 (hi : Int), .int .u64 (lo : Int), .int .u64 (y : Int)] w fun e w' => e = .returned (.bool true) ∧ Grown w w' := by
  have hmf : ∀ (fn : Fn) (first cap : Array Value) (w : World), (Instr.makeFunc fn first cap).run Try.prog w = .ok (.func fn first cap) w := fun _ _ _ _ => rfl
  have rhi : ∀ _ : True, _ = _ := fun _ => hhi
  have rlo : ∀ _ : True, _ = _ := fun _ => hlo
  have ry : ∀ _ : True, _ = _ := fun _ => hy
  have b1 : hi2 < 4294967296 := by omega
  have b2 : lo2 < 4294967296 := by omega
  have b3 : y2 < 4294967296 := by omega
  clear hhi hlo hy
  go_enter_defers Try.func25, Try.ntmps25
  go_wp2_with (go_at_call 35; refine (div32_over hi2 lo2 y2 h0 h _).mono ?_; rintro e w' ⟨u, pv, rfl, m, rfl⟩)
  refine leaves_cons (f := 34) (args := #[.pointer (some ⟨w.heap.size, 0, none⟩)]) (by simp) (by simp [go_sem]) ?_
  refine (catch_panicking ⟨w.heap.size, 0, none⟩ false _ _ [] _ ?_ ?_).mono ?_
  · simp [go_sem]
  · simp [go_sem]
  rintro e u' w'' ⟨rfl, rfl, rfl⟩
  simp [Leaves, settle, results, Try.results25, go_sem]
  exact Grown.setCell (w' := (w.alloc _).drewN m) ((Grown.refl w).alloc _ _) (Nat.le_refl _) _

set_option maxHeartbeats 1000000 in
theorem p1_no (hi lo y hi2 lo2 y2 : Nat) (hhi : (hi : Int) % 4294967296 = (hi2 : Int)) (hlo : (lo : Int) % 4294967296 = (lo2 : Int)) (hy : (y : Int) % 4294967296 = (y2 : Int)) (hh : hi2 < y2) (w : World) :
    Calls Try.prog 25 #[.int .i64 1, .int .u64 (hi : Int), .int .u64 (lo : Int), .int .u64 (y : Int)] w fun e w' => e = .returned (.bool false) ∧ Grown w w' := by
  have hmf : ∀ (fn : Fn) (first cap : Array Value) (w : World), (Instr.makeFunc fn first cap).run Try.prog w = .ok (.func fn first cap) w := fun _ _ _ _ => rfl
  have rhi : ∀ _ : True, _ = _ := fun _ => hhi
  have rlo : ∀ _ : True, _ = _ := fun _ => hlo
  have ry : ∀ _ : True, _ = _ := fun _ => hy
  have b1 : hi2 < 4294967296 := by omega
  have b2 : lo2 < 4294967296 := by omega
  have b3 : y2 < 4294967296 := by omega
  clear hhi hlo hy
  go_enter_defers Try.func25, Try.ntmps25
  go_wp2_with (go_at_call 35; refine (div32_any hi2 lo2 y2 b1 b2 b3 hh _).mono ?_; rintro e w' ⟨rfl, m, rfl⟩)
  refine leaves_cons (f := 34) (args := #[.pointer (some ⟨w.heap.size, 0, none⟩)]) (by simp) (by simp [go_sem]) ?_
  refine (catch_idle ⟨w.heap.size, 0, none⟩ false _ ?_ ?_).mono ?_
  · simp [go_sem]
  · simp [go_sem]
  rintro e u' w'' ⟨rfl, rfl, rfl⟩
  simp [Leaves, settle, results, Try.results25, go_sem]
  exact Grown.setCell (Grown.setCell (w' := (w.alloc _).drewN m) ((Grown.refl w).alloc _ _) (Nat.le_refl _) _) (Nat.le_refl _) _

set_option maxHeartbeats 1000000 in
theorem p1_zero (hi lo y hi2 lo2 : Nat) (hhi : (hi : Int) % 4294967296 = (hi2 : Int)) (hlo : (lo : Int) % 4294967296 = (lo2 : Int)) (hy : (y : Int) % 4294967296 = 0) (w : World) :
    Calls Try.prog 25 #[.int .i64 1, .int .u64 (hi : Int), .int .u64 (lo : Int), .int .u64 (y : Int)] w fun e w' => e = .returned (.bool true) ∧ Grown w w' := by
  have hmf : ∀ (fn : Fn) (first cap : Array Value) (w : World), (Instr.makeFunc fn first cap).run Try.prog w = .ok (.func fn first cap) w := fun _ _ _ _ => rfl
  have rhi : ∀ _ : True, _ = _ := fun _ => hhi
  have rlo : ∀ _ : True, _ = _ := fun _ => hlo
  have ry : ∀ _ : True, _ = _ := fun _ => hy
  have b1 : hi2 < 4294967296 := by omega
  have b2 : lo2 < 4294967296 := by omega
  clear hhi hlo hy
  go_enter_defers Try.func25, Try.ntmps25
  go_wp2_with (go_at_call 35; refine (div32_zero hi2 lo2 b1 b2 _).mono ?_; rintro e w' ⟨u, pv, rfl, m, rfl⟩)
  refine leaves_cons (f := 34) (args := #[.pointer (some ⟨w.heap.size, 0, none⟩)]) (by simp) (by simp [go_sem]) ?_
  refine (catch_panicking ⟨w.heap.size, 0, none⟩ false _ _ [] _ ?_ ?_).mono ?_
  · simp [go_sem]
  · simp [go_sem]
  rintro e u' w'' ⟨rfl, rfl, rfl⟩
  simp [Leaves, settle, results, Try.results25, go_sem]
  exact Grown.setCell (w' := (w.alloc _).drewN m) ((Grown.refl w).alloc _ _) (Nat.le_refl _) _

set_option maxHeartbeats 1000000 in
theorem p3_zero (hi lo y hi2 lo2 : Nat) (hhi : (hi : Int) % 4294967296 = (hi2 : Int)) (hlo : (lo : Int) % 4294967296 = (lo2 : Int)) (hy : (y : Int) % 4294967296 = 0) (w : World) :
    Calls Try.prog 25 #[.int .i64 3, .int .u64 (hi : Int), .int .u64 (lo : Int), .int .u64 (y : Int)] w fun e w' => e = .returned (.bool true) ∧ Grown w w' := by
  have hmf : ∀ (fn : Fn) (first cap : Array Value) (w : World), (Instr.makeFunc fn first cap).run Try.prog w = .ok (.func fn first cap) w := fun _ _ _ _ => rfl
  have rhi : ∀ _ : True, _ = _ := fun _ => hhi
  have rlo : ∀ _ : True, _ = _ := fun _ => hlo
  have ry : ∀ _ : True, _ = _ := fun _ => hy
  have b1 : hi2 < 4294967296 := by omega
  have b2 : lo2 < 4294967296 := by omega
  clear hhi hlo hy
  go_enter_defers Try.func25, Try.ntmps25
  go_wp2_with (go_at_call 36; refine (rem32_zero hi2 lo2 b1 b2 _).mono ?_; rintro e w' ⟨u, pv, rfl, m, rfl⟩)
  refine leaves_cons (f := 34) (args := #[.pointer (some ⟨w.heap.size, 0, none⟩)]) (by simp) (by simp [go_sem]) ?_
  refine (catch_panicking ⟨w.heap.size, 0, none⟩ false _ _ [] _ ?_ ?_).mono ?_
  · simp [go_sem]
  · simp [go_sem]
  rintro e u' w'' ⟨rfl, rfl, rfl⟩
  simp [Leaves, settle, results, Try.results25, go_sem]
  exact Grown.setCell (w' := (w.alloc _).drewN m) ((Grown.refl w).alloc _ _) (Nat.le_refl _) _

set_option maxHeartbeats 1000000 in
theorem p3_no (hi lo y hi2 lo2 y2 : Nat) (hhi : (hi : Int) % 4294967296 = (hi2 : Int)) (hlo : (lo : Int) % 4294967296 = (lo2 : Int)) (hy : (y : Int) % 4294967296 = (y2 : Int)) (h0 : 0 < y2) (w : World) :
    Calls Try.prog 25 #[.int .i64 3, .int .u64 (hi : Int), .int .u64 (lo : Int), .int .u64 (y : Int)] w fun e w' => e = .returned (.bool false) ∧ Grown w w' := by
  have hmf : ∀ (fn : Fn) (first cap : Array Value) (w : World), (Instr.makeFunc fn first cap).run Try.prog w = .ok (.func fn first cap) w := fun _ _ _ _ => rfl
  have rhi : ∀ _ : True, _ = _ := fun _ => hhi
  have rlo : ∀ _ : True, _ = _ := fun _ => hlo
  have ry : ∀ _ : True, _ = _ := fun _ => hy
  have b1 : hi2 < 4294967296 := by omega
  have b2 : lo2 < 4294967296 := by omega
  have b3 : y2 < 4294967296 := by omega
  clear hhi hlo hy
  go_enter_defers Try.func25, Try.ntmps25
  go_wp2_with (go_at_call 36; refine (rem32_any hi2 lo2 y2 b1 b2 b3 h0 _).mono ?_; rintro e w' ⟨rfl, rfl⟩)
  refine leaves_cons (f := 34) (args := #[.pointer (some ⟨w.heap.size, 0, none⟩)]) (by simp) (by simp [go_sem]) ?_
  refine (catch_idle ⟨w.heap.size, 0, none⟩ false _ ?_ ?_).mono ?_
  · simp [go_sem]
  · simp [go_sem]
  rintro e u' w'' ⟨rfl, rfl, rfl⟩
  simp [Leaves, settle, results, Try.results25, go_sem]
  first | exact (Grown.refl w).alloc _ _ | exact Grown.setCell ((Grown.refl w).alloc _ _) (Nat.le_refl _) _

end Go.Proofs.Ytpoadogiganibaa
