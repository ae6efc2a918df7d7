/- ReadFull over a plain buffer: the walk. -/
import Derived.Test.YtechapgchjdhaaaDoorRdb
import Derived.Deep.RegionWith
namespace Go.Proofs.YtechapgchjdhaaaDoor
open Go.RowKit

/-- The end of bytes where it was not expected, as an error. -/
abbrev ueof : Value := .iface 143 (.string ⟨#[117, 110, 101, 120, 112, 101, 99, 116, 101, 100, 32, 69, 79, 70]⟩)
abbrev rdr (B : Nat) : Value := .iface 119 (.pointer (some ⟨B, 0, none⟩))

theorem info143 : (Tryd.prog.info? 143).map (·.comparable) = some true := by kernel_rfl
/-- '==' of two errors that are texts. -/
theorem run_eql_err (w : World) (a b : ByteArray) : (binOp .eql 96 (.iface 143 (.string a)) (.iface 143 (.string b))).run Tryd.prog w = .ok (.bool (a == b)) w := by
  cases hi : Tryd.prog.info? 143 with
  | none => have := info143; simp [hi] at this
  | some i =>
    have hcc : i.comparable = true := by have := info143; simpa [hi] using this
    have h : ∀ d : Nat, (Op.equalIn (d + 2) 96 (.iface 143 (.string a)) (.iface 143 (.string b))).run Tryd.prog w = .ok (a == b) w := fun d => by
      simp [Op.equalIn, run_underlying Tryd.underlying96, run_underlying Tryd.underlying143, typeInfo, hi, hcc]
    simp only [binOp]
    simp [Op.equal, Op.maxDepth, h 9998]
theorem run_eql_eof (w : World) : (binOp .eql 96 eof eof).run Tryd.prog w = .ok (.bool true) w := by
  rw [run_eql_err]
  have : ((⟨#[69, 79, 70]⟩ : ByteArray) == ⟨#[69, 79, 70]⟩) = true := by first | decide | decide +kernel | exact beq_self_eq_true _ | rfl
  rw [this]

/-- What reading leaves: k bytes more lie in the row, and are gone from the buffer. -/
structure Took (w w' : World) (B L g t off k : Nat) (cur : Array Value) (bs : List UInt8) : Prop where
  row : ∃ cur', Blk w' g t cur' ∧ Upd cur cur' off k (fun i => bs.getD i 0)
  buf : BufR w' B L (bs.drop k)
  kp : KpTwo g B w w'

theorem KpTwo.drew {g B : Nat} {w w' : World} (h : KpTwo g B w.drew w') : KpTwo g B w w' := ⟨h.os, h.tape, h.output, h.size, h.block⟩

theorem bufRead_drew (w : World) (B L : Nat) (bs : List UInt8) (h : BufR w B L bs) (hne : bs ≠ []) (t g off m c : Nat) (cur : Array Value) (hg : Blk w g t cur) (hfit : off + m ≤ cur.size) (ht : t ≠ 149) (hL : L ≤ g) (hLB : L ≤ B) (k : Nat) (hk : k = min bs.length m) :
    Calls Tryd.prog 124 #[.pointer (some ⟨B, 0, none⟩), .slice (some ⟨g, off, none⟩) m c] w.drew fun e w' => e = .returned (.tuple #[.int .i64 k, .nilIface]) ∧ Took w w' B L g t off k cur bs :=
  (bufRead_some w.drew B L bs h hne t g off m c cur hg hfit ht hL hLB k hk).mono fun _ _ ⟨h1, cur', h2, h3, h4, h5⟩ => ⟨h1, ⟨cur', h2, h3⟩, h4, h5.drew⟩

/-- How far a loop has come whose every round reads all that is wanted. -/
def Full (w wr : World) (B L g t off m : Nat) (cur : Array Value) (bs : List UInt8) (n : Int) : Prop := (n = 0 ∧ wr = w) ∨ (n = m ∧ Took w wr B L g t off m cur bs)

set_option maxRecDepth 100000 in
set_option maxHeartbeats 1000000 in
theorem readFull_ok (w : World) (B L : Nat) (bs : List UInt8) (h : BufR w B L bs) (t g off m c : Nat) (cur : Array Value) (hg : Blk w g t cur) (hfit : off + m ≤ cur.size) (ht : t ≠ 149) (hL : L ≤ g) (hLB : L ≤ B) (hm : 0 < m) (hmc : m ≤ c) (hc : c ≤ 9223372036854775807) (hlen : m ≤ bs.length) :
    Calls Tryd.prog 102 #[rdr B, .slice (some ⟨g, off, none⟩) m c] w fun e w' => e = .returned (.tuple #[.int .i64 m, .nilIface]) ∧ Took w w' B L g t off m cur bs := by
  have hne : bs ≠ [] := by rintro rfl; simp at hlen; omega
  have HR := hide (bufRead_drew w B L bs h hne t g off m c cur hg hfit ht hL hLB m (by omega))
  have hnr := nil_read B
  have hm0 : m ≠ 0 := by omega
  clear h hg hne hlen
  go_enter Tryd.func102, Tryd.ntmps102
  go_wp2_with fail
  go_loopw [4, 5] (fun n e wr => ∃ z, n = .int .i64 z ∧ e = .nilIface ∧ Full w wr B L g t off m cur bs z) (fun n _ _ => (m - intOf n).toNat)
  case atStart => exact ⟨0, rfl, rfl, Or.inl ⟨rfl, rfl⟩⟩
  case round =>
    obtain ⟨z, rfl, rfl, hz⟩ := hrel
    rcases hz with ⟨rfl, rfl⟩ | ⟨rfl, hT⟩
    · go_upto_region 3 with fail
      go_region_with ((with_reducible refine (unhide HR).mono ?_); rintro e w5 ⟨rfl, hq⟩; have HQ := hide hq; clear hq)
      go_wp2_with fail
      go_roundw
      case rel => exact ⟨m, rfl, rfl, Or.inr ⟨rfl, unhide HQ⟩⟩
      case measure => simp [intOf]; omega
    · have HT := hide hT
      clear hT
      go_wp2_with fail
      refine bodyPost_ret (v := .tuple #[.int .i64 m, .nilIface]) (by simp [results, Tryd.results102, go_sem]) rfl ⟨rfl, unhide HT⟩

set_option maxRecDepth 100000 in
set_option maxHeartbeats 1000000 in
theorem readFull_none (w : World) (B L : Nat) (h : BufR w B L []) (A : Option Addr) (m c : Nat) (hm : 0 < m) :
    Calls Tryd.prog 102 #[rdr B, .slice A m c] w fun e w' => e = .returned (.tuple #[.int .i64 0, eof]) ∧ KT w w' := by
  have HR : Hid (∀ P, Calls Tryd.prog 124 #[.pointer (some ⟨B, 0, none⟩), .slice P m c] w.drew fun e w' => e = .returned (.tuple #[.int .i64 0, eof]) ∧ w.drew = w') := fun P => bufRead_nil w.drew B L h P m c hm
  have hnr := nil_read B
  have hm0 : m ≠ 0 := by omega
  clear h
  go_enter Tryd.func102, Tryd.ntmps102
  go_wp2_with fail
  go_loopw [4, 5] (fun n e wr => n = .int .i64 0 ∧ ((e = .nilIface ∧ wr = w) ∨ (e = eof ∧ wr = w.drew))) (fun _ e _ => match e with | .nilIface => 1 | _ => 0)
  case atStart => exact ⟨rfl, Or.inl ⟨rfl, rfl⟩⟩
  case round =>
    obtain ⟨rfl, hz⟩ := hrel
    rcases hz with ⟨rfl, rfl⟩ | ⟨rfl, rfl⟩
    · go_upto_region 3 with fail
      go_region_with ((with_reducible refine (unhide HR _).mono ?_); rintro e w5 ⟨rfl, rfl⟩)
      go_wp2_with fail
      go_roundw
      case rel => exact ⟨rfl, Or.inr ⟨rfl, trivial⟩⟩
      case measure => simp
    · go_wp2_with fail
      refine bodyPost_ret (v := .tuple #[.int .i64 0, eof]) (by simp [results, Tryd.results102, go_sem]) rfl ⟨rfl, (KT.refl w).drew⟩

/-- How far a loop has come that reads all there is, and then the end. -/
def Short (w wr : World) (B L g t off : Nat) (cur : Array Value) (bs : List UInt8) (n : Int) (e : Value) : Prop :=
  (n = 0 ∧ e = .nilIface ∧ wr = w) ∨ (n = bs.length ∧ e = .nilIface ∧ Took w wr B L g t off bs.length cur bs) ∨ (n = bs.length ∧ e = eof ∧ Took w wr B L g t off bs.length cur bs)

set_option maxRecDepth 100000 in
set_option maxHeartbeats 1000000 in
theorem readFull_short (w : World) (B L : Nat) (bs : List UInt8) (h : BufR w B L bs) (t g off m c : Nat) (cur : Array Value) (hg : Blk w g t cur) (hfit : off + m ≤ cur.size) (ht : t ≠ 149) (hL : L ≤ g) (hLB : L ≤ B) (hmc : m ≤ c) (hc : c ≤ 9223372036854775807) (hne : bs ≠ []) (hlen : bs.length < m) :
    Calls Tryd.prog 102 #[rdr B, .slice (some ⟨g, off, none⟩) m c] w fun e w' => e = .returned (.tuple #[.int .i64 bs.length, ueof]) ∧ Took w w' B L g t off bs.length cur bs := by
  have hpos := List.length_pos_iff.2 hne
  have HR := hide (bufRead_drew w B L bs h hne t g off m c cur hg hfit ht hL hLB bs.length (by omega))
  have HE : Hid (∀ wr, Took w wr B L g t off bs.length cur bs → ∀ P c', Calls Tryd.prog 124 #[.pointer (some ⟨B, 0, none⟩), .slice P (m - bs.length) c'] wr.drew fun e w' => e = .returned (.tuple #[.int .i64 0, eof]) ∧ wr.drew = w') := fun wr hT P c' => by
    have := hT.buf
    rw [List.drop_length] at this
    exact bufRead_nil wr.drew B L this P _ c' (by omega)
  have hnr := nil_read B
  have hm0 : m ≠ 0 := by omega
  have hcl : c - bs.length ≠ 0 := by omega
  have hcl2 : c ≠ bs.length := by omega
  have hqe := run_eql_eof
  clear h hg hne
  go_enter Tryd.func102, Tryd.ntmps102
  go_wp2_with fail
  go_loopw [4, 5] (fun n e wr => ∃ z, n = .int .i64 z ∧ Short w wr B L g t off cur bs z e) (fun n e _ => match e with | .nilIface => 1 + (bs.length - intOf n).toNat | _ => 0)
  case atStart => exact ⟨0, rfl, Or.inl ⟨rfl, rfl, rfl⟩⟩
  case round =>
    obtain ⟨z, rfl, hz⟩ := hrel
    rcases hz with ⟨rfl, rfl, rfl⟩ | ⟨rfl, rfl, hT⟩ | ⟨rfl, rfl, hT⟩
    · go_upto_region 3 with fail
      go_region_with ((with_reducible refine (unhide HR).mono ?_); rintro e w5 ⟨rfl, hq⟩; have HQ := hide hq; clear hq)
      go_wp2_with fail
      go_roundw
      case rel => exact ⟨bs.length, rfl, Or.inr (Or.inl ⟨rfl, rfl, unhide HQ⟩)⟩
      case measure => simp [intOf]; omega
    · have HT := hide hT
      have HF := hide (unhide HE wr hT)
      clear hT
      go_upto_region 3 with fail
      go_region_with ((with_reducible refine (unhide HF _ _).mono ?_); rintro e w5 ⟨rfl, rfl⟩)
      all_goals go_wp2_with fail
      all_goals go_roundw
      all_goals first
        | exact ⟨bs.length, rfl, Or.inr (Or.inr ⟨rfl, rfl, ⟨(unhide HT).row, (unhide HT).buf, Kp.drew (unhide HT).kp⟩⟩)⟩
        | simp [intOf]
    · have HT := hide hT
      clear hT
      go_wp2_with fail
      refine bodyPost_ret (v := .tuple #[.int .i64 bs.length, ueof]) (by simp [results, Tryd.results102, go_sem]) rfl ⟨rfl, unhide HT⟩
end Go.Proofs.YtechapgchjdhaaaDoor
