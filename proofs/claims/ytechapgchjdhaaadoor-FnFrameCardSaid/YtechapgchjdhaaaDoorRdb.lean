/- The plain buffer read: Buffer.Read, Buffer.Len; ReadFull over a buffer; beUint64: the walks. -/
import Derived.Test.YtechapgchjdhaaaDoorBuf
import Derived.Test.YtechapgchjdhaaaDoorMth
namespace Go.Proofs.YtechapgchjdhaaaDoor
open Go.RowKit

/-- The built-in copy of bytes into a block of any type that is known whole. -/
theorem wpList_copy_into {w : World} {ops : Array Oper} {rest : List Oper} {o : Oper} {a : Act} {Q : Exit → Act → World → Prop} (hgd : o.guard = none) (d s : Operand)
    (ho : o.op = .call { callee := .builtin .copy, args := #[d, s], argTypes := #[22, 22] })
    (t : TypeId) (g off dLen dCap : Nat) (hd : a.eval d = .slice (some ⟨g, off, none⟩) dLen dCap) (A : Option Addr) (n c : Nat) (hs : a.eval s = .slice A n c)
    (B : Nat) (bs : List UInt8) (hr : Rd w B A bs) (hn : n = bs.length) (cur : Array Value) (hg : Blk w g t cur) (k : Nat) (hk : k = min bs.length dLen) (hfit : off + k ≤ cur.size)
    (h : ∀ w' cs', Blk w' g t cs' → Upd cur cs' off k (fun i => bs.getD i 0) → Kp (· ≠ g) w w' → wpList Tryd.prog ops Q rest (a.put o.dst (.int .i64 k)) w') : wpList Tryd.prog ops Q (o :: rest) a w := by
  subst hn
  by_cases h0 : k = 0
  · subst h0
    exact wpList_copy_nothing hgd d s 22 22 ho 5 Tryd.underlying22 sized5 _ _ dLen dCap bs.length c hd hs hk.symm (h w cur hg (Upd.zero _ _ _) (Kp.refl _ _))
  · have hne : bs ≠ [] := by rintro rfl; simp at hk; omega
    obtain ⟨gs, os, rfl, _, hb⟩ := hr hne
    have hlen : ((bs.take k).map bv).length = k := by simp; omega
    refine wpList_copy_own hgd d s 22 22 ho 5 Tryd.underlying22 sized5 g off dLen dCap ⟨gs, os, none⟩ bs.length c hd hs cur t hg ((bs.take k).map bv) (by rw [hlen]; exact hk) ?_ (by rw [hlen]; exact hfit) (oneCell_bytes _) ?_
    · intro j v hj
      have hjl : j < k := by have := (List.getElem?_eq_some_iff.1 hj).1; omega
      have hadd : (⟨gs, os, none⟩ : Addr).add j = ⟨gs, os + j, none⟩ := by unfold Addr.add; split <;> simp_all
      rw [hadd, hb j (by omega)]
      rw [List.getElem?_map, List.getElem?_take, if_pos hjl, List.getElem?_eq_getElem (by omega)] at hj
      exact hj
    · rw [hlen]
      refine h _ _ (setRow_heap w g cur _ t _ hg) ⟨?_, ?_, ?_⟩ ⟨rfl, rfl, rfl, by simp, fun i _ hi => setRow_other w g i _ hi⟩
      · simp only [List.size_toArray, List.length_append, List.length_take, List.length_drop, hlen, Array.length_toList]
        omega
      · intro i hi
        simp only [List.getElem?_toArray]
        rw [List.getElem?_append_right (by simp; omega), List.getElem?_append_left (by simp; omega)]
        simp only [List.length_take, Array.length_toList]
        rw [show off + i - min off cur.size = i by omega, List.getElem?_map, List.getElem?_take, if_pos hi, List.getElem?_eq_getElem (by omega)]
        simp [List.getD, List.getElem?_eq_getElem (show i < bs.length by omega)]
      · intro j hj
        simp only [List.getElem?_toArray]
        rcases hj with hj | hj
        · rw [List.getElem?_append_left (by simp; omega), List.getElem?_take, if_pos hj, Array.getElem?_toList]
        · rw [List.getElem?_append_right (by simp; omega), List.getElem?_append_right (by simp; omega), List.getElem?_drop]
          simp only [List.length_take, Array.length_toList, hlen]
          rw [show off + k + (j - min off cur.size - k) = j by omega, Array.getElem?_toList]

/-- The end of bytes, as an error. -/
abbrev eof : Value := .iface 143 (.string ⟨#[69, 79, 70]⟩)

/-- A buffer that still has these bytes; they lie below block L. -/
def BufR (w : World) (B L : Nat) (bs : List UInt8) : Prop := ∃ A c, Blk w B 149 #[.slice A bs.length c] ∧ Rd w L A bs ∧ bs.length ≤ c ∧ c ≤ maxLen

theorem BufR.on {w w' : World} {B L : Nat} {bs : List UInt8} {S : Nat → Prop} (h : BufR w B L bs) (hk : Kp S w w') (hB : S B) (hL : ∀ g, g < L → S g) (hl : L ≤ w.heap.size) : BufR w' B L bs := by
  obtain ⟨A, c, hb, hr, h1, h2⟩ := h
  exact ⟨A, c, hb.kp hk hB, hr.kp hk hl hL, h1, h2⟩

set_option maxHeartbeats 400000 in
theorem bufLen (w : World) (B L : Nat) (bs : List UInt8) (h : BufR w B L bs) : Calls Tryd.prog 89 #[.pointer (some ⟨B, 0, none⟩)] w fun e w' => e = .returned (.int .i64 bs.length) ∧ w = w' := by
  obtain ⟨A, c, hb, hr, h1, h2⟩ := h
  have c0 := hb.one
  go_enter Tryd.func89, Tryd.ntmps89
  go_wp2
  go_ret
  exact ⟨rfl, rfl⟩

set_option maxHeartbeats 400000 in
theorem bufRead_nil (w : World) (B L : Nat) (h : BufR w B L []) (P : Option Addr) (m c : Nat) (hm : 0 < m) : Calls Tryd.prog 124 #[.pointer (some ⟨B, 0, none⟩), .slice P m c] w fun e w' => e = .returned (.tuple #[.int .i64 0, eof]) ∧ w = w' := by
  obtain ⟨A, ca, hb, hr, h1, h2⟩ := h
  have c0 := hb.one
  simp only [List.length_nil] at c0
  have hm0 : m ≠ 0 := by omega
  go_enter Tryd.func124, Tryd.ntmps124
  go_wp2
  refine bodyPost_ret (v := .tuple #[.int .i64 0, eof]) (by simp [results, Tryd.results124, go_sem]) rfl ⟨rfl, rfl⟩

def KpTwo (g B : Nat) : World → World → Prop := Kp (fun i => i ≠ g ∧ i ≠ B)

theorem Byt.drop {w : World} {g off k : Nat} {bs : List UInt8} (h : Byt w g off bs) : Byt w g (off + k) (bs.drop k) := fun i hi => by
  have hi' : k + i < bs.length := by rw [List.length_drop] at hi; omega
  rw [show off + k + i = off + (k + i) by omega, h (k + i) hi', List.getElem_drop]
theorem Rd.drop {w : World} {L k : Nat} {A : Option Addr} {bs : List UInt8} (h : Rd w L A bs) : Rd w L (Option.map (fun x => x.add k) A) (bs.drop k) := fun hne => by
  obtain ⟨g, off, rfl, hg, hb⟩ := h (by rintro rfl; simp at hne)
  refine ⟨g, off + k, ?_, hg, hb.drop⟩
  simp [Addr.add]

set_option maxHeartbeats 1000000 in
theorem bufRead_some (w : World) (B L : Nat) (bs : List UInt8) (h : BufR w B L bs) (hne : bs ≠ []) (t g off m c : Nat) (cur : Array Value) (hg : Blk w g t cur) (hfit : off + m ≤ cur.size) (ht : t ≠ 149) (hL : L ≤ g) (hLB : L ≤ B) (k : Nat) (hk : k = min bs.length m) :
    Calls Tryd.prog 124 #[.pointer (some ⟨B, 0, none⟩), .slice (some ⟨g, off, none⟩) m c] w fun e w' => e = .returned (.tuple #[.int .i64 k, .nilIface]) ∧
      ∃ cur', Blk w' g t cur' ∧ Upd cur cur' off k (fun i => bs.getD i 0) ∧ BufR w' B L (bs.drop k) ∧ KpTwo g B w w' := by
  obtain ⟨A, ca, hb, hr, h1, h2⟩ := h
  have c0 := hb.one
  have hpos := List.length_pos_iff.2 hne
  have hgB : B ≠ g := fun e => by
    subst e
    have := hb.symm.trans hg
    simp at this
    exact ht this.2.symm
  have hn0 : bs.length ≠ 0 := by omega
  have hkl : k ≤ bs.length := by omega
  have HK := hide hk
  have HR := hide hr
  clear hr hk
  go_enter Tryd.func124, Tryd.ntmps124
  go_wp2_with (with_reducible refine wpList_copy_into rfl (.tmp 17) (.tmp 21) rfl t g off m c rfl A bs.length ca rfl L bs (unhide HR) rfl cur hg k (unhide HK) (by have := unhide HK; omega) ?_; intro w1 cs1 hb1 hu1 hk1; have hbB := hb.kp hk1 hgB; have c1 := hbB.one; have f1 := hbB.frozen 0; have HB := hide hb1; have HU := hide hu1; have HBB := hide hbB; clear hb1 hu1 hbB)
  · refine bodyPost_ret (v := .tuple #[.int .i64 k, .nilIface]) (by simp [results, Tryd.results124, go_sem]) rfl ⟨rfl, cs1, (unhide HB).far (p := ⟨B, 0, none⟩) (Ne.symm hgB) _, unhide HU, ?_, ?_⟩
    · have hz : bs.drop k = [] := List.drop_eq_nil_of_le (by omega)
      have e : bs.length - k = (bs.drop k).length := by rw [List.length_drop]
      refine ⟨A, 0, ?_, by rw [hz]; exact Rd.nil, by rw [hz]; exact Nat.zero_le _, Nat.zero_le _⟩
      rw [← e]
      exact Blk.put (l := [_]) (unhide HBB) 0 _
    · exact (hk1.mono fun _ _ h => h.1).setCell (p := ⟨B, 0, none⟩) (fun _ h => h.2 rfl) _
  · refine bodyPost_ret (v := .tuple #[.int .i64 k, .nilIface]) (by simp [results, Tryd.results124, go_sem]) rfl ⟨rfl, cs1, (unhide HB).far (p := ⟨B, 0, none⟩) (Ne.symm hgB) _, unhide HU, ?_, ?_⟩
    · refine ⟨_, ca - k, ?_, (((unhide HR).kp hk1 ?_ (fun i hi => by omega)).setCell (p := ⟨B, 0, none⟩) hLB _).drop, ?_, ?_⟩
      · rw [List.length_drop]
        exact Blk.put (l := [_]) (unhide HBB) 0 _
      · exact Nat.le_trans hLB (Nat.le_of_lt hb.lt)
      · rw [List.length_drop]; omega
      · omega
    · exact (hk1.mono fun _ _ h => h.1).setCell (p := ⟨B, 0, none⟩) (fun _ h => h.2 rfl) _
end Go.Proofs.YtechapgchjdhaaaDoor
