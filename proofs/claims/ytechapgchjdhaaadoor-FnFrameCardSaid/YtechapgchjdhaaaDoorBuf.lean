/- The plain buffer: NewBuffer, Bytes, Write; bePutUint64: the walks. -/
import Derived.Test.YtechapgchjdhaaaDoorHbs
import Derived.Test.YtechapgchjdhaaaDoorClo
namespace Go.Proofs.YtechapgchjdhaaaDoor
open Go.RowKit

set_option maxHeartbeats 400000 in
theorem bePutUint64_any (w : World) (g off n c v : Nat) (t : TypeId) (cs : Array Value) (hn : 8 ≤ n) (hn' : n ≤ 9223372036854775807) (_hv : v < 18446744073709551616) (hb : Blk w g t cs) (hs : off + 8 ≤ cs.size) :
    Calls Tryd.prog 95 #[.slice (some ⟨g, off, none⟩) n c, .int .u64 v] w fun e w' => e = .returned (.tuple #[]) ∧ ∃ cs', Blk w' g t cs' ∧ Upd cs cs' off 8 (fun i => digit v (7 - i)) ∧ Kp (· ≠ g) w w' := by
  have h7 : w.cell? ⟨g, off + 7, none⟩ = some (cs[off + 7]'(by omega)) := (hb.cell _).trans (Array.getElem?_eq_getElem (by omega))
  go_enter Tryd.func95, Tryd.ntmps95
  go_wp2
  go_loopw [4] (fun i wr => ∃ k : Nat, k ≤ 8 ∧ i = .int .i64 k ∧ ∃ cs', Blk wr g t cs' ∧ Upd cs cs' off k (fun i => digit v (7 - i)) ∧ Kp (· ≠ g) w wr) (fun i _ => 8 - (intOf i).toNat)
  case atStart => exact ⟨0, by omega, rfl, cs, hb, Upd.zero _ _ _, Kp.refl _ _⟩
  case round =>
    obtain ⟨k, hk, rfl, cs', hb', hu, hkp⟩ := hrel
    by_cases hlt : k < 8
    · have hc : wr.cell? ⟨g, off + k, none⟩ = some (cs'[off + k]'(by have := hu.size; omega)) := (hb'.cell _).trans (Array.getElem?_eq_getElem (by have := hu.size; omega))
      have hf := hb'.frozen (off + k)
      clear hb h7
      go_wp2
      go_roundw
      case rel => exact ⟨k + 1, by omega, by go_num, _, by rw [show 56 - 8 * k = 8 * (7 - k) by omega, digit_int]; exact hb'.set_ _ _, hu.step (F := fun i => digit v (7 - i)) (by omega), hkp.setCell (by simp) _⟩
      case measure => simp [intOf]; omega
    · obtain rfl : k = 8 := by omega
      go_wp2
      go_end0
      exact ⟨rfl, cs', hb', hu, hkp⟩

theorem newBuffer (w : World) (A : Option Addr) (n c : Nat) : Calls Tryd.prog 82 #[.slice A n c] w fun e w' => e = .returned (.pointer (some ⟨w.heap.size, 0, none⟩)) ∧ Blk w' w.heap.size 149 #[.slice A n c] ∧ KT w w' := by
  go_enter Tryd.func82, Tryd.ntmps82
  go_wp2
  go_ret
  exact ⟨rfl, Blk.new w 149 _, (KT.refl w).alloc _⟩

theorem bufBytes (w : World) (B : Nat) (v : Value) (hb : Blk w B 149 #[v]) : Calls Tryd.prog 84 #[.pointer (some ⟨B, 0, none⟩)] w fun e w' => e = .returned v ∧ w = w' := by
  have c0 := hb.one
  go_enter Tryd.func84, Tryd.ntmps84
  go_wp2
  go_ret
  exact ⟨rfl, rfl⟩

/-- A buffer that holds a slice of its own. -/
structure BufAt (w : World) (B base : Nat) (v : Value) (xs : List UInt8) : Prop where
  blk : Blk w B 149 #[v]
  own : Own w base v xs

/-- What Write leaves: all but the buffer's variable and the block of its slice. -/
def KpBuf (B : Nat) (v : Value) : World → World → Prop := Kp (fun k => k ≠ B ∧ some k ≠ v.ownBlock)

theorem own_slice {w : World} {base : Nat} {v : Value} {xs : List UInt8} (h : Own w base v xs) : ∃ A c, v = .slice A xs.length c := by
  rcases h.2 with ⟨rfl, h2⟩ | ⟨g, cap, cur, rfl, _⟩
  · exact ⟨none, 0, by rw [h2]⟩
  · exact ⟨_, _, rfl⟩

theorem own_other {w : World} {base B : Nat} {t : TypeId} {cs : Array Value} {v : Value} {xs : List UInt8} (h : Own w base v xs) (hb : Blk w B t cs) (ht : t ≠ 5) : v.ownBlock ≠ some B := by
  rcases h.2 with ⟨rfl, _⟩ | ⟨g, cap, cur, rfl, _, hg, _⟩
  · simp [Value.ownBlock]
  · intro e
    obtain rfl : g = B := by simpa [Value.ownBlock] using e
    have := hb.symm.trans hg
    simp at this
    exact ht this.2

set_option maxHeartbeats 400000 in
theorem bufWrite (w : World) (B base : Nat) (v : Value) (xs : List UInt8) (h : BufAt w B base v xs) (L : Nat) (A : Option Addr) (c : Nat) (bs : List UInt8) (hr : Rd w L A bs) (hlen : xs.length + bs.length ≤ 140737488355328) (hbase : base ≤ w.heap.size) :
    Calls Tryd.prog 125 #[.pointer (some ⟨B, 0, none⟩), .slice A bs.length c] w fun e w' => e = .returned (.tuple #[.int .i64 bs.length, .nilIface]) ∧ ∃ v', BufAt w' B base v' (xs ++ bs) ∧ (v ≠ .slice none 0 0 ∨ bs ≠ [] → v' ≠ .slice none 0 0) ∧ KpBuf B v w w' := by
  have c0 := h.blk.one
  have hne := own_other h.own h.blk (by decide)
  have H := hide h
  have HR := hide hr
  have HN := hide hne
  clear h hr hne
  go_enter Tryd.func125, Tryd.ntmps125
  go_wp2_with (at_builtin; refine wpList_append_bytes rfl (.tmp 10) (.tmp 11) rfl base v xs rfl (unhide H).own L A bs.length c bs rfl (unhide HR) rfl hlen hbase ?_; intro v1 w1 hown1 hg1 hnil1; obtain ⟨A1, d1, rfl⟩ := own_slice hown1; have hb1 : Blk w1 B 149 #[v] := (hg1.block B (unhide H).blk.lt (Ne.symm (unhide HN))).trans (unhide H).blk; have c1 := hb1.one; have f1 := hb1.frozen 0; have HO := hide hown1; have HG := hide hg1; have HB := hide hb1; have HZ := hide hnil1; clear hown1 hg1 hb1 hnil1)
  have ho := unhide HO
  have hz := unhide HZ
  refine bodyPost_ret (v := .tuple #[.int .i64 bs.length, .nilIface]) (by simp [results, Tryd.results125, go_sem]) rfl ⟨rfl, _, ⟨Blk.put (l := [v]) (unhide HB) 0 _, ?_⟩, ?_, ?_⟩
  · rw [show xs.length + bs.length = (xs ++ bs).length from by simp]
    exact ownsRow_setCell_other (a := ⟨B, 0, none⟩) ho (own_other (t := 149) ho (unhide HB) (by decide)) _
  · rintro h e
    have := hz.1 (by rw [List.length_append]; exact e)
    rcases h with h | h
    · exact h this.1
    · exact h (List.eq_nil_of_length_eq_zero this.2)
  · exact ((Kp.refl _ w).grown (unhide HG) (fun g e _ h => h.2 e.symm)).setCell (p := ⟨B, 0, none⟩) (fun _ h => h.1 rfl) _
end Go.Proofs.YtechapgchjdhaaaDoor
