/- A method behind an interface value: whether its receiver is seen to be nil, and which function it is. -/
import Derived.Test.YtechapgchjdhaaaDoorBase
namespace Go.Proofs.YtechapgchjdhaaaDoor
open Go.RowKit

/-- What a type's method is: the way to it is empty, and its function takes a pointer. -/
def Mthd (t : TypeId) (name : String) (f : FuncId) : Prop := ((Tryd.prog.info? t).bind fun i => (i.methods.find? (·.name == name)).map fun m => (m.path, m.func)) = some (#[], some (f, true))

theorem mthd_spec {t : TypeId} {name : String} {f : FuncId} (h : Mthd t name f) : ∃ i m, Tryd.prog.info? t = some i ∧ i.methods.find? (·.name == name) = some m ∧ m.path = #[] ∧ m.func = some (f, true) := by
  unfold Mthd at h
  cases hi : Tryd.prog.info? t with
  | none => rw [hi] at h; cases h
  | some i =>
    rw [hi] at h
    simp only [Option.bind_some] at h
    cases hm : i.methods.find? (·.name == name) with
    | none => rw [hm] at h; cases h
    | some m =>
      rw [hm] at h
      simp only [Option.map_some, Option.some.injEq, Prod.mk.injEq] at h
      exact ⟨i, m, rfl, hm, h.1, h.2⟩

theorem nil_ahead {t : TypeId} {name : String} {f : FuncId} (h : Mthd t name f) (k : Nat) (v : Value) (w : World) : (nilAhead (k + 1) t v name).run Tryd.prog w = .ok (some false) w := by
  obtain ⟨i, m, hi, hm, hp, hf⟩ := mthd_spec h
  rw [nilAhead]
  simp [typeInfo, hi, hm, hp, hf, followBlind]

theorem mthd_write : Mthd 119 "Write" 125 := by
  unfold Mthd
  kernel_rfl
theorem mthd_read : Mthd 119 "Read" 124 := by
  unfold Mthd
  kernel_rfl
theorem nil_write (B : Nat) (w : World) : (nilAhead 284 119 (.pointer (some ⟨B, 0, none⟩)) "Write").run Tryd.prog w = .ok (some false) w := nil_ahead mthd_write 283 _ _
theorem nil_read (B : Nat) (w : World) : (nilAhead 284 119 (.pointer (some ⟨B, 0, none⟩)) "Read").run Tryd.prog w = .ok (some false) w := nil_ahead mthd_read 283 _ _
end Go.Proofs.YtechapgchjdhaaaDoor
