/- Headers as values; equality of masks and headers; laws.header, (spec.Header).Proper, impl.given, impl.told: the walks. -/
import Derived.Test.YtechapgchjdhaaaDoorFci
import Derived.Test.YtechapgchjdhaaaDoorReg
namespace Go.Proofs.YtechapgchjdhaaaDoor
open Go.RowKit

/-- A header of the thin package or of the reference: its nine cells. -/
abbrev hcells (fin : Bool) (rsv op : Int) (mk : Bool) (M : Nat → UInt8) (len : Int) : Array Value := #[.bool fin, .int .i64 rsv, .int .i64 op, .bool mk, bv (M 0), bv (M 1), bv (M 2), bv (M 3), .int .i64 len]
abbrev hval (fin : Bool) (rsv op : Int) (mk : Bool) (M : Nat → UInt8) (len : Int) : Value := .agg (hcells fin rsv op mk M len)
/-- A header of the package: its nine cells. -/
abbrev wcells (fin : Bool) (rsv op : Int) (mk : Bool) (M : Nat → UInt8) (len : Int) : Array Value := #[.bool fin, .int .u8 rsv, .int .u8 op, .bool mk, bv (M 0), bv (M 1), bv (M 2), bv (M 3), .int .i64 len]
abbrev wval (fin : Bool) (rsv op : Int) (mk : Bool) (M : Nat → UInt8) (len : Int) : Value := .agg (wcells fin rsv op mk M len)

theorem run_equalIn_mask (w : World) (d : Nat) (M N : Nat → UInt8) :
    (Op.equalIn (d + 2) 23 (mval M) (mval N)).run Tryd.prog w = .ok (((M 0 == N 0) && (M 1 == N 1) && (M 2 == N 2) && (M 3 == N 3))) w := by
  obtain ⟨i0, hi, hz0, hz1, hz2⟩ := info_parts info5
  have hb : ∀ a b : UInt8, ((a.toNat : Int) == (b.toNat : Int)) = (a == b) := fun a b => by
    rw [Bool.eq_iff_iff]
    simp only [beq_iff_eq]
    constructor
    · intro h; exact UInt8.toNat_inj.1 (by omega)
    · intro h; rw [h]
  have hag : (isAgg 5).run Tryd.prog w = .ok false w := by simp [isAgg, run_underlying Tryd.underlying5]
  have he : ∀ a b : UInt8, (Op.equalIn (d + 1) 5 (bv a) (bv b)).run Tryd.prog w = .ok (a == b) w := fun a b => by
    rw [run_equalIn_int w d 5 .u8 .u8 _ _ Tryd.underlying5, hb]
  have hp0 : ∀ a b c d : Value, (part 5 #[a, b, c, d] 0).run Tryd.prog w = .ok a w := fun a b c d => by simp [part, hag]
  have hp1 : ∀ a b c d : Value, (part 5 #[a, b, c, d] 1).run Tryd.prog w = .ok b w := fun a b c d => by simp [part, hag]
  have hp2 : ∀ a b c d : Value, (part 5 #[a, b, c, d] 2).run Tryd.prog w = .ok c w := fun a b c d => by simp [part, hag]
  have hp3 : ∀ a b c d : Value, (part 5 #[a, b, c, d] 3).run Tryd.prog w = .ok d w := fun a b c d => by simp [part, hag]
  rw [Op.equalIn]
  simp only [Sem.run_bind, run_underlying Tryd.underlying23, Result.andThen_ok, sizeOf, typeInfo, run_program, hi, Sem.run_pure, hz1, Nat.mul_one, Std.Legacy.Range.forIn_eq_forIn_range', Std.Legacy.Range.size]
  rw [show List.range' 0 ((4 - 0 + 1 - 1) / 1) = [0, 1, 2, 3] from rfl]
  simp only [List.forIn_cons, List.forIn_nil, Sem.run_bind, hp0, he, Result.andThen_ok]
  by_cases h0 : M 0 = N 0 <;> by_cases h1 : M 1 = N 1 <;> by_cases h2 : M 2 = N 2 <;> by_cases h3 : M 3 = N 3 <;>
    simp [Sem.run_pure, Sem.run_bind, Result.andThen, hp1, hp2, hp3, he, h0, h1, h2, h3]

/-- '==' of two masks. -/
theorem run_eql_mask (w : World) (M N : Nat → UInt8) : (binOp .eql 23 (mval M) (mval N)).run Tryd.prog w = .ok (.bool ((M 0 == N 0) && (M 1 == N 1) && (M 2 == N 2) && (M 3 == N 3))) w := by
  rw [run_eql_struct, show (10000 : Nat) = 9998 + 2 from rfl, run_equalIn_mask]
  rfl

theorem info23 : (Tryd.prog.info? 23).map (fun i => i.size) = some 4 := by kernel_rfl
theorem stood30 : Tryd.prog.stoodInHeld 30 = false := by kernel_rfl

/-- A header is equal to itself. -/
theorem run_eql_hval (w : World) (fin : Bool) (rsv op : Int) (mk : Bool) (M : Nat → UInt8) (len : Int) : (binOp .eql 30 (hval fin rsv op mk M len) (hval fin rsv op mk M len)).run Tryd.prog w = .ok (.bool true) w := by
  have hf : Tryd.prog.fieldsOf 30 = #[{ name := "Fin", type := 4, offset := 0, embedded := false, tag := "", pkgPath := "", byteOffset := 0 }, { name := "Rsv", type := 3, offset := 1, embedded := false, tag := "", pkgPath := "", byteOffset := 8 },
        { name := "Op", type := 3, offset := 2, embedded := false, tag := "", pkgPath := "", byteOffset := 16 }, { name := "Masked", type := 4, offset := 3, embedded := false, tag := "", pkgPath := "", byteOffset := 24 },
        { name := "Mask", type := 23, offset := 4, embedded := false, tag := "", pkgPath := "", byteOffset := 25 }, { name := "Length", type := 2, offset := 8, embedded := false, tag := "", pkgPath := "", byteOffset := 32 }] := by
    unfold Program.fieldsOf; rw [Tryd.underlying30]
  have ht : Tryd.prog.underlying 30 = some (.struct (Tryd.prog.fieldsOf 30)) := by rw [hf]; exact Tryd.underlying30
  have a4 : (isAgg 4).run Tryd.prog w = .ok false w := by simp [isAgg, run_underlying Tryd.underlying4]
  have a3 : (isAgg 3).run Tryd.prog w = .ok false w := by simp [isAgg, run_underlying Tryd.underlying3]
  have a2 : (isAgg 2).run Tryd.prog w = .ok false w := by simp [isAgg, run_underlying Tryd.underlying2]
  have a23 : (isAgg 23).run Tryd.prog w = .ok true w := by simp [isAgg, run_underlying Tryd.underlying23]
  have p0 : (part 4 (hcells fin rsv op mk M len) 0).run Tryd.prog w = .ok (.bool fin) w := by simp [part, a4]
  have p1 : (part 3 (hcells fin rsv op mk M len) 1).run Tryd.prog w = .ok (.int .i64 rsv) w := by simp [part, a3]
  have p2 : (part 3 (hcells fin rsv op mk M len) 2).run Tryd.prog w = .ok (.int .i64 op) w := by simp [part, a3]
  have p3 : (part 4 (hcells fin rsv op mk M len) 3).run Tryd.prog w = .ok (.bool mk) w := by simp [part, a4]
  have p4 : (part 23 (hcells fin rsv op mk M len) 4).run Tryd.prog w = .ok (mval M) w := by simp [part, a23]
  have p8 : (part 2 (hcells fin rsv op mk M len) 8).run Tryd.prog w = .ok (.int .i64 len) w := by simp [part, a2]
  have hm : (Op.equalIn 9999 23 (mval M) (mval M)).run Tryd.prog w = .ok true w := (run_equalIn_mask w 9997 M M).trans (by simp)
  have e4 : ∀ b, (Op.equalIn 9999 4 (.bool b) (.bool b)).run Tryd.prog w = .ok true w := fun b => (run_equalIn_bool' w 9998 4 b b Tryd.underlying4).trans (by simp)
  have e3 : ∀ z, (Op.equalIn 9999 3 (.int .i64 z) (.int .i64 z)).run Tryd.prog w = .ok true w := fun z => (run_equalIn_int w 9998 3 .i64 .i64 z z Tryd.underlying3).trans (by simp)
  have e2 : ∀ z, (Op.equalIn 9999 2 (.int .i64 z) (.int .i64 z)).run Tryd.prog w = .ok true w := fun z => (run_equalIn_int w 9998 2 .i64 .i64 z z Tryd.underlying2).trans (by simp)
  rw [run_eql_struct, show (10000 : Nat) = 9999 + 1 from rfl, run_equalIn_agg w 9999 30 _ _ ht stood30, hf]
  simp only [Op.eqFields]
  have n1 : "Fin" ≠ "_" := by decide
  have n2 : "Rsv" ≠ "_" := by decide
  have n3 : "Op" ≠ "_" := by decide
  have n4 : "Masked" ≠ "_" := by decide
  have n5 : "Mask" ≠ "_" := by decide
  have n6 : "Length" ≠ "_" := by decide
  simp only [n1, n2, n3, n4, n5, n6, ne_eq, not_false_eq_true, if_true, Sem.run_bind, p0, p1, p2, p3, p4, p8, e4, e3, e2, hm, Result.andThen_ok, Bool.not_true, Bool.false_eq_true, if_false, Sem.run_pure]

set_option maxRecDepth 100000 in
set_option maxHeartbeats 1000000 in
theorem header_any (w : World) (fin : Bool) (rsv op : Int) (mk : Bool) (M : Nat → UInt8) (len : Int) :
    Calls Tryd.prog 16 #[hval fin rsv op mk M len] w fun e w' => e = .returned (hval fin rsv op mk M len) ∧ Kp (fun _ => True) w w' := by
  go_enter Tryd.func16, Tryd.ntmps16
  go_wp2
  refine bodyPost_ret (v := hval fin rsv op mk M len) (by simp [results, Tryd.results16, go_sem]) rfl ⟨rfl, ?_⟩
  exact ((Kp.refl _ w).alloc _).alloc _

set_option maxRecDepth 100000 in
set_option maxHeartbeats 1000000 in
theorem told_any (w : World) (fin : Bool) (rsv op : Int) (mk : Bool) (M : Nat → UInt8) (len : Int) (h1 : 0 ≤ rsv ∧ rsv ≤ 255) (h2 : 0 ≤ op ∧ op ≤ 255) :
    Calls Tryd.prog 44 #[wval fin rsv op mk M len] w fun e w' => e = .returned (hval fin rsv op mk M len) ∧ Kp (fun _ => True) w w' := by
  go_enter Tryd.func44, Tryd.ntmps44
  go_wp2
  refine bodyPost_ret (v := hval fin rsv op mk M len) (by simp [results, Tryd.results44, go_sem]) rfl ⟨rfl, ?_⟩
  exact ((Kp.refl _ w).alloc _).alloc _

set_option maxRecDepth 100000 in
set_option maxHeartbeats 1000000 in
theorem given_any (w : World) (fin : Bool) (rsv op : Int) (mk : Bool) (M : Nat → UInt8) (len : Int) (h1 : 0 ≤ rsv ∧ rsv ≤ 255) (h2 : 0 ≤ op ∧ op ≤ 255) :
    Calls Tryd.prog 41 #[hval fin rsv op mk M len] w fun e w' => e = .returned (.tuple #[wval fin rsv op mk M len, .bool true]) ∧ Kp (fun _ => True) w w' := by
  go_enter Tryd.func41, Tryd.ntmps41
  go_wp2
  go_region
  go_wp2
  refine bodyPost_ret (v := .tuple #[wval fin rsv op mk M len, .bool true]) (by simp [results, Tryd.results41, go_sem]) rfl ⟨rfl, ?_⟩
  exact ((((Kp.refl _ w).alloc _).alloc _).alloc _).drew

def zmask (M : Nat → UInt8) : Bool := (M 0 == 0) && (M 1 == 0) && (M 2 == 0) && (M 3 == 0)
def properB (rsv op : Int) (mk : Bool) (M : Nat → UInt8) (len : Int) : Bool := decide (0 ≤ rsv) && decide (rsv < 8) && decide (0 ≤ op) && decide (op < 16) && decide (0 ≤ len) && (mk || zmask M)

theorem properB_spec (rsv op : Int) (mk : Bool) (M : Nat → UInt8) (len : Int) (h : properB rsv op mk M len = true) : 0 ≤ rsv ∧ rsv < 8 ∧ 0 ≤ op ∧ op < 16 ∧ 0 ≤ len ∧ (mk = true ∨ zmask M = true) := by
  simp only [properB, Bool.and_eq_true, decide_eq_true_eq, Bool.or_eq_true] at h
  obtain ⟨⟨⟨⟨⟨h1, h2⟩, h3⟩, h4⟩, h5⟩, h6⟩ := h
  exact ⟨h1, h2, h3, h4, h5, h6⟩
theorem properB_no (rsv op : Int) (mk : Bool) (M : Nat → UInt8) (len : Int) (h : rsv < 0 ∨ 8 ≤ rsv ∨ op < 0 ∨ 16 ≤ op ∨ len < 0) : false = properB rsv op mk M len := by
  cases hb : properB rsv op mk M len with
  | false => rfl
  | true =>
    obtain ⟨h1, h2, h3, h4, h5, _⟩ := properB_spec rsv op mk M len hb
    omega

set_option maxRecDepth 100000 in
set_option maxHeartbeats 2000000 in
theorem proper_any (w : World) (fin : Bool) (rsv op : Int) (mk : Bool) (M : Nat → UInt8) (len : Int) :
    Calls Tryd.prog 17 #[hval fin rsv op mk M len] w fun e w' => e = .returned (.bool (properB rsv op mk M len)) ∧ Kp (fun _ => True) w w' := by
  have hq : ∀ w : World, (binOp .eql 23 (.agg #[bv (M 0), bv (M 1), bv (M 2), bv (M 3)]) (.agg #[.int .u8 0, .int .u8 0, .int .u8 0, .int .u8 0])).run Tryd.prog w = .ok (.bool (zmask M)) w := fun w => run_eql_mask w M (fun _ => 0)
  have hk : ∀ x, Kp (fun _ => True) w (w.alloc x) := fun x => (Kp.refl _ w).alloc x
  have fin0 : ∀ b : Bool, b = properB rsv op mk M len → ∀ x, (Ending.returned (.bool b) = .returned (.bool (properB rsv op mk M len)) ∧ Kp (fun _ => True) w (w.alloc x)) := fun b hb x => ⟨by rw [hb], hk x⟩
  have HF := hide fin0
  clear fin0 hk
  by_cases h1 : 0 ≤ rsv
  · by_cases h2 : rsv < 8
    · by_cases h3 : 0 ≤ op
      · by_cases h4 : op < 16
        · by_cases h5 : 0 ≤ len
          · cases mk
            · go_enter Tryd.func17, Tryd.ntmps17
              go_wp2
              go_ret
              exact unhide HF _ (by simp [properB, h1, h2, h3, h4, h5]) _
            · go_enter Tryd.func17, Tryd.ntmps17
              go_wp2
              go_ret
              exact unhide HF _ (by simp [properB, h1, h2, h3, h4, h5]) _
          · go_enter Tryd.func17, Tryd.ntmps17
            go_wp2
            go_ret
            exact unhide HF _ (properB_no _ _ _ _ _ (by omega)) _
        · go_enter Tryd.func17, Tryd.ntmps17
          go_wp2
          go_ret
          exact unhide HF _ (properB_no _ _ _ _ _ (by omega)) _
      · go_enter Tryd.func17, Tryd.ntmps17
        go_wp2
        go_ret
        exact unhide HF _ (properB_no _ _ _ _ _ (by omega)) _
    · go_enter Tryd.func17, Tryd.ntmps17
      go_wp2
      go_ret
      exact unhide HF _ (properB_no _ _ _ _ _ (by omega)) _
  · go_enter Tryd.func17, Tryd.ntmps17
    go_wp2
    go_ret
    exact unhide HF _ (properB_no _ _ _ _ _ (by omega)) _
end Go.Proofs.YtechapgchjdhaaaDoor
