/- The checks of a header: State's methods, OpCode's methods, ws.CheckHeader, spec.Fine: the walks. -/
import Derived.Test.YtechapgchjdhaaaDoorImk
namespace Go.Proofs.YtechapgchjdhaaaDoor
open Go.RowKit

/-- The state of a connection: four bits. -/
def st4 (s c e f : Bool) : Int := (if s then 1 else 0) + (if c then 2 else 0) + (if e then 4 else 0) + (if f then 8 else 0)

theorem set_any (w : World) (a b : Int) : Calls Tryd.prog 51 #[.int .u8 a, .int .u8 b] w fun e w' => e = .returned (.int .u8 (bits .or .u8 a b)) ∧ w = w' := by
  go_enter Tryd.func51, Tryd.ntmps51
  go_wp2
  go_ret
  exact ⟨rfl, rfl⟩

theorem is_any (w : World) (a b : Int) (p : Bool) (h : decide (bits .and .u8 a b = 0) = !p) : Calls Tryd.prog 94 #[.int .u8 a, .int .u8 b] w fun e w' => e = .returned (.bool p) ∧ w = w' := by
  cases p
  · have h' : bits .and .u8 a b = 0 := by simpa using h
    clear h
    go_enter Tryd.func94, Tryd.ntmps94
    go_wp2
    go_ret
    exact ⟨rfl, rfl⟩
  · have h' : ¬ bits .and .u8 a b = 0 := by simpa using h
    clear h
    go_enter Tryd.func94, Tryd.ntmps94
    go_wp2
    go_ret
    exact ⟨by show Ending.returned (.bool (bits .and .u8 a b != 0)) = _; simp [h'], rfl⟩

theorem server_any (w : World) (s c e f : Bool) : Calls Tryd.prog 79 #[.int .u8 (st4 s c e f)] w fun r w' => r = .returned (.bool s) ∧ w = w' := by
  have h := is_any w (st4 s c e f) 1 s (by revert s c e f; decide)
  go_enter Tryd.func79, Tryd.ntmps79
  go_wp2_with (refine h.mono ?_; rintro e w1 ⟨rfl, rfl⟩)
  go_ret
  exact ⟨rfl, rfl⟩
theorem client_any (w : World) (s c e f : Bool) : Calls Tryd.prog 80 #[.int .u8 (st4 s c e f)] w fun r w' => r = .returned (.bool c) ∧ w = w' := by
  have h := is_any w (st4 s c e f) 2 c (by revert s c e f; decide)
  go_enter Tryd.func80, Tryd.ntmps80
  go_wp2_with (refine h.mono ?_; rintro e w1 ⟨rfl, rfl⟩)
  go_ret
  exact ⟨rfl, rfl⟩
theorem extended_any (w : World) (s c e f : Bool) : Calls Tryd.prog 78 #[.int .u8 (st4 s c e f)] w fun r w' => r = .returned (.bool e) ∧ w = w' := by
  have h := is_any w (st4 s c e f) 4 e (by revert s c e f; decide)
  go_enter Tryd.func78, Tryd.ntmps78
  go_wp2_with (refine h.mono ?_; rintro e w1 ⟨rfl, rfl⟩)
  go_ret
  exact ⟨rfl, rfl⟩
theorem fragmented_any (w : World) (s c e f : Bool) : Calls Tryd.prog 81 #[.int .u8 (st4 s c e f)] w fun r w' => r = .returned (.bool f) ∧ w = w' := by
  have h := is_any w (st4 s c e f) 8 f (by revert s c e f; decide)
  go_enter Tryd.func81, Tryd.ntmps81
  go_wp2_with (refine h.mono ?_; rintro e w1 ⟨rfl, rfl⟩)
  go_ret
  exact ⟨rfl, rfl⟩

/-- A reserved opcode; a control opcode. -/
def resB (op : Int) : Bool := (decide (3 ≤ op) && decide (op ≤ 7)) || (decide (11 ≤ op) && decide (op ≤ 15))
theorem op_cases {op : Int} (h : 0 ≤ op ∧ op < 16) : op = 0 ∨ op = 1 ∨ op = 2 ∨ op = 3 ∨ op = 4 ∨ op = 5 ∨ op = 6 ∨ op = 7 ∨ op = 8 ∨ op = 9 ∨ op = 10 ∨ op = 11 ∨ op = 12 ∨ op = 13 ∨ op = 14 ∨ op = 15 := by omega

theorem reserved_any (w : World) (op : Int) (h : 0 ≤ op ∧ op < 16) : Calls Tryd.prog 76 #[.int .u8 op] w fun r w' => r = .returned (.bool (resB op)) ∧ w = w' := by
  rcases op_cases h with rfl | rfl | rfl | rfl | rfl | rfl | rfl | rfl | rfl | rfl | rfl | rfl | rfl | rfl | rfl | rfl
  all_goals
    go_enter Tryd.func76, Tryd.ntmps76
    go_wp2
    go_ret
    exact ⟨rfl, rfl⟩
theorem control_any (w : World) (op : Int) (h : 0 ≤ op ∧ op < 16) : Calls Tryd.prog 77 #[.int .u8 op] w fun r w' => r = .returned (.bool (decide (8 ≤ op))) ∧ w = w' := by
  rcases op_cases h with rfl | rfl | rfl | rfl | rfl | rfl | rfl | rfl | rfl | rfl | rfl | rfl | rfl | rfl | rfl | rfl
  all_goals
    go_enter Tryd.func77, Tryd.ntmps77
    go_wp2
    go_ret
    exact ⟨rfl, rfl⟩

/-- Is the header in order? -/
def fineB (fin : Bool) (rsv op : Int) (mk : Bool) (len : Int) (s c e f : Bool) : Bool :=
  !resB op && !(decide (8 ≤ op) && (decide (125 < len) || !fin)) && !(decide (rsv ≠ 0) && !e) && !(s && !mk) && !(c && mk) && !(f && !decide (8 ≤ op) && decide (op ≠ 0)) && !(!f && decide (op = 0))

/-- An error, or none. -/
def ErrIs (w w' : World) (ok : Bool) (e : Ending) : Prop := (∃ v, e = .returned v ∧ (v = .nilIface ↔ ok = true) ∧ (v = .nilIface ∨ ∃ x, v = .iface 118 (.string x))) ∧ KT w w'

theorem err_bad {w w' : World} {ok : Bool} (x : ByteArray) (h : ok = false) (hk : KT w w') : ErrIs w w' ok (.returned (.iface 118 (.string x))) := ⟨⟨_, rfl, by simp [h], Or.inr ⟨x, rfl⟩⟩, hk⟩
theorem err_ok {w w' : World} {ok : Bool} (h : ok = true) (hk : KT w w') : ErrIs w w' ok (.returned .nilIface) := ⟨⟨_, rfl, by simp [h], Or.inl rfl⟩, hk⟩

set_option maxRecDepth 100000 in
set_option maxHeartbeats 4000000 in
theorem checkHeader (w : World) (fin : Bool) (rsv op : Int) (mk : Bool) (M : Nat → UInt8) (len : Int) (s c e f : Bool) (h : 0 ≤ op ∧ op < 16) :
    Calls Tryd.prog 53 #[wval fin rsv op mk M len, .int .u8 (st4 s c e f)] w fun r w' => ErrIs w w' (fineB fin rsv op mk len s c e f) r := by
  have hR := fun w => reserved_any w op h
  have hC := fun w => control_any w op h
  have hS := fun w => server_any w s c e f
  have hL := fun w => client_any w s c e f
  have hE := fun w => extended_any w s c e f
  have hF := fun w => fragmented_any w s c e f
  have HR := hide hR
  have HC := hide hC
  have HS := hide hS
  have HL := hide hL
  have HE := hide hE
  have HF := hide hF
  clear hR hC hS hL hE hF
  obtain ⟨st, hst⟩ : ∃ st, st = st4 s c e f := ⟨_, rfl⟩
  rw [← hst] at HS HL HE HF ⊢
  clear hst
  go_enter Tryd.func53, Tryd.ntmps53
  go_wp2_with (first
    | (with_reducible refine (unhide HR _).mono ?_; rintro r w1 ⟨rfl, rfl⟩)
    | (with_reducible refine (unhide HC _).mono ?_; rintro r w1 ⟨rfl, rfl⟩)
    | (with_reducible refine (unhide HS _).mono ?_; rintro r w1 ⟨rfl, rfl⟩)
    | (with_reducible refine (unhide HL _).mono ?_; rintro r w1 ⟨rfl, rfl⟩)
    | (with_reducible refine (unhide HE _).mono ?_; rintro r w1 ⟨rfl, rfl⟩)
    | (with_reducible refine (unhide HF _).mono ?_; rintro r w1 ⟨rfl, rfl⟩))
  all_goals go_ret
  all_goals clear HR HC HS HL HE HF
  all_goals (try simp only [Bool.not_eq_true', Bool.not_eq_false', bne_iff_ne, ne_eq, beq_iff_eq, Bool.not_eq_true, bne_eq_false_iff_eq, beq_eq_false_iff_ne, decide_eq_false_iff_not, Int.not_le] at *)
  all_goals first
    | (refine err_bad _ ?_ ((KT.refl _).alloc _); simp [fineB, *]; done)
    | (refine err_ok ?_ ((KT.refl _).alloc _); simp [fineB, *]; done)
    | (refine err_bad _ ?_ ((KT.refl _).alloc _); simp [fineB, *]; (try intros); omega)
    | (refine err_ok ?_ ((KT.refl _).alloc _); simp [fineB, *]; (try intros); omega)
    | (refine err_bad _ ?_ ((KT.refl _).alloc _); simp_all [fineB]; done)
    | (refine err_ok ?_ ((KT.refl _).alloc _); simp_all [fineB]; done)
    | (refine err_bad _ ?_ ((KT.refl _).alloc _); simp_all [fineB]; omega)
    | (refine err_ok ?_ ((KT.refl _).alloc _); simp_all [fineB]; omega)
end Go.Proofs.YtechapgchjdhaaaDoor
