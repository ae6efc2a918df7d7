/- 'same' compares bytes; 'quietly' calls a closure that returns, and says true. -/
import Derived.Test.YtechapgchjdhaaaDoorApp
namespace Go.Proofs.YtechapgchjdhaaaDoor
open Go.RowKit

theorem beq_dec (a b : List UInt8) : (a == b) = decide (a = b) := by by_cases h : a = b <;> simp [h]

set_option maxHeartbeats 400000 in
theorem same_any (w : World) (B : Nat) (A A' : Option Addr) (n c n' c' : Nat) (bs bs' : List UInt8) (hr : Rd w B A bs) (hr' : Rd w B A' bs') (hn : n = bs.length) (hn' : n' = bs'.length) :
    Calls Tryd.prog 14 #[.slice A n c, .slice A' n' c'] w fun e w' => e = .returned (.bool (decide (bs = bs'))) ∧ w = w' := by
  have e1 := run_string_of (P := Tryd.prog) 22 5 9 Tryd.underlying22 Tryd.underlying5 Tryd.underlying9 hr n c hn
  have e2 := run_string_of (P := Tryd.prog) 22 5 9 Tryd.underlying22 Tryd.underlying5 Tryd.underlying9 hr' n' c' hn'
  clear hr hr' hn hn'
  go_enter Tryd.func14, Tryd.ntmps14
  go_wp2
  go_ret
  exact ⟨congrArg (fun b => Ending.returned (.bool b)) (beq_dec bs bs'), rfl⟩

theorem hide {p : Prop} (h : p) : Hid p := h
theorem unhide {p : Prop} (h : Hid p) : p := h

theorem catch_idle (p : Addr) (w : World) :
    CallsD Tryd.prog 68 #[.pointer (some p)] .returning w fun e u' w' => e = .returned (.tuple #[]) ∧ u' = .returning ∧ w' = w := by
  refine callsD_of_wpS Tryd.func68 rfl fun c₀ cs hu => ?_
  apply wpS_seq
  apply wpS_region
  simp [wpOpsS, go_sem, recoverD, hu, Tryd.ntmps68, Exit.thenS]
  refine wpS_cond (t := false) (by simp [Act.eval, Array.replicate]) ?_
  simp only [Bool.false_eq_true, if_false]
  refine wpS_of_wp (wp_skip ?_)
  cases c₀
  simp_all [bodyPostS, results, Tryd.results68]

set_option maxHeartbeats 400000 in
theorem quietly_ok (w : World) (f : FuncId) (first cap : Array Value) (R : World → Prop)
    (hcf : ∀ (args : Array Value) (w : World), (callFunc f args).run Tryd.prog w = .ok (.enter f args) w)
    (hf : Calls Tryd.prog f (first ++ cap) (w.alloc (.cells #[.bool false] 4)) fun e w' => e = .returned (.tuple #[]) ∧ Blk w' w.heap.size 4 #[.bool false] ∧ R (w'.setCell ⟨w.heap.size, 0, none⟩ (.bool true))) :
    Calls Tryd.prog 38 #[.func (.func f) first cap] w fun e w' => e = .returned (.bool true) ∧ R w' := by
  have hmf : ∀ (fn : Fn) (first cap : Array Value) (w : World), (Instr.makeFunc fn first cap).run Tryd.prog w = .ok (.func fn first cap) w := fun _ _ _ _ => rfl
  have HF := hide hf
  clear hf
  go_enter_defers Tryd.func38, Tryd.ntmps38
  go_wp2_with (with_reducible refine (unhide HF).mono ?_; rintro e w1 ⟨rfl, hb, hR⟩; have h1 := hb.cell 0; have h2 := hb.frozen 0)
  refine leaves_cons (f := 68) (args := #[.pointer (some ⟨w.heap.size, 0, none⟩)]) (by simp) (by simp [go_sem]) ?_
  refine (catch_idle ⟨w.heap.size, 0, none⟩ _).mono ?_
  rintro e u' w'' ⟨rfl, rfl, rfl⟩
  have h3 : (w1.setCell ⟨w.heap.size, 0, none⟩ (.bool true)).cell? ⟨w.heap.size, 0, none⟩ = some (.bool true) := World.cell?_setCell_same w1 _ _ h1
  simp [Leaves, settle, results, Tryd.results38, go_sem, h3]
  exact hR

/-- The same with what the closure leaves alone. -/
theorem quietly_kp (w : World) (f : FuncId) (cap : Array Value) (S : Nat → Prop) (Q : World → Prop)
    (hcf : ∀ (args : Array Value) (w : World), (callFunc f args).run Tryd.prog w = .ok (.enter f args) w)
    (hS : S w.heap.size) (hQ : ∀ w1, Q w1 → Q (w1.setCell ⟨w.heap.size, 0, none⟩ (.bool true)))
    (hf : Calls Tryd.prog f cap (w.alloc (.cells #[.bool false] 4)) fun e w' => e = .returned (.tuple #[]) ∧ Kp S (w.alloc (.cells #[.bool false] 4)) w' ∧ Q w') :
    Calls Tryd.prog 38 #[.func (.func f) #[] cap] w fun e w' => e = .returned (.bool true) ∧ Kp S w w' ∧ Q w' := by
  refine quietly_ok w f #[] cap (fun w' => Kp S w w' ∧ Q w') hcf ?_
  rw [Array.empty_append]
  refine hf.mono ?_
  rintro e w1 ⟨he, hk, hq⟩
  refine ⟨he, (Blk.new w 4 _).kp hk hS, ?_, hQ w1 hq⟩
  exact (((Kp.refl S w).alloc _).trans hk).setCell (fun h => absurd h (Nat.lt_irrefl _)) _
end Go.Proofs.YtechapgchjdhaaaDoor
