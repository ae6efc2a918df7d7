/- Strings of bytes: appended to a new row, copied into a block that is known whole, cut; numbers of two bytes. -/
import Derived.Test.YtechapgchjdhaaaDoorCpy
import Derived.Deep.AppendSrc
namespace Go.Proofs.YtechapgchjdhaaaDoor
open Go.RowKit

/-- A string of these bytes. -/
def Str (bs : List UInt8) : ByteArray := ⟨bs.toArray⟩
theorem Str_size (bs : List UInt8) : (Str bs).size = bs.length := by simp [Str, ByteArray.size]
theorem Str_all (s : ByteArray) : s = Str s.data.toList := rfl
theorem Str_extract (bs : List UInt8) (i j : Nat) : (Str bs).extract i j = Str ((bs.take j).drop i) := by
  unfold Str
  apply ByteArray.ext
  simp [ByteArray.data_extract, List.drop_take]
theorem Str_cells (bs : List UInt8) : byteCells (Str bs) = bs.map bv := rfl

theorem firstCells_str (bs : List UInt8) (n : Nat) (w : World) : (Builtin.firstCells 1 n (.string (Str bs))).run Tryd.prog w = .ok ((bs.take n).map bv).toArray w := by
  simp only [Builtin.firstCells, Str_extract, Sem.run_pure, List.drop_zero]
  congr 1
  apply Array.ext'
  simp [Str]

/-- string(b) of a slice that reads as bytes. -/
theorem run_str_of {w : World} {B : Nat} {A : Option Addr} {bs : List UInt8} (h : Rd w B A bs) (n cap : Nat) (hn : n = bs.length) : (convert 22 9 (.slice A n cap)).run Tryd.prog w = .ok (.string (Str bs)) w :=
  run_string_of 22 5 9 Tryd.underlying22 Tryd.underlying5 Tryd.underlying9 h n cap hn

/-- The built-in copy of a string's bytes into a block that is known whole. -/
theorem wpList_copy_str {w : World} {ops : Array Oper} {rest : List Oper} {o : Oper} {a : Act} {Q : Exit → Act → World → Prop} (hgd : o.guard = none) (d s : Operand)
    (ho : o.op = .call { callee := .builtin .copy, args := #[d, s], argTypes := #[22, 9] })
    (p : Option Addr) (g off dLen dCap : Nat) (hd : a.eval d = .slice p dLen dCap) (bs : List UInt8) (hs : a.eval s = .string (Str bs))
    (cur : Array Value) (hg : Blk w g 5 cur) (k : Nat) (hk : k = min bs.length dLen) (hp : 0 < k → p = some ⟨g, off, none⟩) (hfit : off + k ≤ cur.size)
    (h : ∀ w' cs', Blk w' g 5 cs' → Upd cur cs' off k (fun i => bs.getD i 0) → Kp (· ≠ g) w w' → wpList Tryd.prog ops Q rest (a.put o.dst (.int .i64 k)) w') : wpList Tryd.prog ops Q (o :: rest) a w := by
  refine wpList_plain hgd fun K hK => ?_
  have hlen : ((bs.take k).map bv).length = k := by simp; omega
  obtain ⟨i0, hi, hz0, hz1, hz2⟩ := info_parts info5
  have hmin : Nat.min bs.length dLen = k := hk.symm
  by_cases h0 : k = 0
  · have hrun : (Builtin.copy_ #[22, 9] o.type #[.slice p dLen dCap, .string (Str bs)]).run Tryd.prog w = .ok (goInt k) w := by
      have hf := firstCells_str bs k w
      rw [h0] at hf hmin
      simp only [List.take_zero, List.map_nil] at hf
      cases p <;> simp [Builtin.copy_, run_underlying Tryd.underlying22, Builtin.lenOf, sizeOf, typeInfo, hi, hz1, Str_size, hmin, hf, storeCells, h0]
    unfold Oper.wp
    simp [execOp, ho, resolve, invoke, builtin, hd, hs, hrun, Result.andThen]
    refine hK _ _ (h w cur hg ?_ (Kp.refl _ _))
    rw [h0]
    exact Upd.zero _ _ _
  · obtain rfl := hp (by omega)
    have hst := run_storeCells_at Tryd.prog g off 5 ((bs.take k).map bv) 0 cur w hg (by rw [hlen]; exact hfit) (oneCell_bytes _)
    have hrun : (Builtin.copy_ #[22, 9] o.type #[.slice (some ⟨g, off, none⟩) dLen dCap, .string (Str bs)]).run Tryd.prog w = .ok (goInt k) (w.setRow g (cur.toList.take off ++ (bs.take k).map bv ++ cur.toList.drop (off + k)).toArray) := by
      rw [hlen] at hst
      simp only [Nat.add_zero] at hst
      have hf := firstCells_str bs k w
      simp [Builtin.copy_, run_underlying Tryd.underlying22, Builtin.lenOf, sizeOf, typeInfo, hi, hz1, Str_size, hmin, hf]
      simp only [List.map_take, List.append_assoc] at hst ⊢
      rw [hst]
      rfl
    unfold Oper.wp
    simp only [execOp, ho, resolve, invoke, builtin, hd, hs, hrun, Result.andThen, List.map_toArray, List.map_cons, List.map_nil, Sem.run_bind, Sem.run_pure]
    refine hK _ _ (h _ _ (setRow_heap w g cur _ 5 _ hg) ⟨?_, ?_, ?_⟩ ⟨rfl, rfl, rfl, by simp, fun i _ hi => setRow_other w g i _ hi⟩)
    · simp only [List.size_toArray, List.length_append, List.length_take, List.length_drop, hlen, Array.length_toList]
      omega
    · intro i hi
      simp only [List.getElem?_toArray]
      rw [List.append_assoc, List.getElem?_append_right (by simp; omega), List.getElem?_append_left (by simp; omega)]
      simp only [List.length_take, Array.length_toList]
      rw [show off + i - min off cur.size = i by omega, List.getElem?_map, List.getElem?_take, if_pos hi, List.getElem?_eq_getElem (by omega)]
      simp [List.getD, List.getElem?_eq_getElem (show i < bs.length by omega)]
    · intro j hj
      simp only [List.getElem?_toArray]
      rcases hj with hj | hj
      · rw [List.append_assoc, List.getElem?_append_left (by simp; omega), List.getElem?_take, if_pos hj, Array.getElem?_toList]
      · rw [List.append_assoc, List.getElem?_append_right (by simp; omega), List.getElem?_append_right (by simp; omega), List.getElem?_drop]
        simp only [List.length_take, Array.length_toList, hlen]
        rw [show off + k + (j - min off cur.size - k) = j by omega, Array.getElem?_toList]

/-- A row that is full, a string behind it: a slice of the bytes of both; nothing old has turned. -/
def Grown (w w' : World) (bs : List UInt8) (v : Value) : Prop := ∃ g cap, v = .slice (some ⟨g, 0, none⟩) bs.length cap ∧ Rd w' w'.heap.size (some ⟨g, 0, none⟩) bs ∧ Kp (fun _ => True) w w' ∧ bs.length ≤ cap ∧ cap ≤ maxLen

theorem run_append_str (w : World) (ty : TypeId) (g : Nat) (xs rs : List UInt8) (hb : Blk w g 5 (xs.map bv).toArray) (hlen : xs.length + rs.length ≤ 70368744177664) :
    ∃ v' w', (Builtin.append_ #[22, 9] ty #[.slice (some ⟨g, 0, none⟩) xs.length xs.length, .string (Str rs)]).run Tryd.prog w = .ok v' w' ∧ Grown w w' (xs ++ rs) v' := by
  obtain ⟨i0, hi, hz0, hz1, hz2⟩ := info_parts info5
  have hcell : ∀ (w' : World), (∀ j, w'.cell? ⟨g, j, none⟩ = w.cell? ⟨g, j, none⟩) → ∀ j u, (xs.map bv)[j]? = some u → w'.cell? ((⟨g, 0, none⟩ : Addr).add j) = some u := by
    intro w' hw j u hu
    have hadd : (⟨g, 0, none⟩ : Addr).add j = ⟨g, j, none⟩ := by unfold Addr.add; split <;> simp_all
    rw [hadd, hw, hb.cell]
    simpa using hu
  have hsrc : Src Tryd.prog i0.size 9 (.string (Str rs)) rs.length (rs.map bv) w := by
    have := Src.ofString (P := Tryd.prog) w Tryd.underlying9 (Str rs)
    rw [Str_size, Str_cells] at this
    rw [hz1]
    exact this
  by_cases h0 : rs.length = 0
  · obtain rfl := List.eq_nil_of_length_eq_zero h0
    have := run_append_room_src (P := Tryd.prog) w 22 9 ty 5 i0 Tryd.underlying22 hi g 0 xs.length xs.length (.string (Str [])) 0 [] hsrc (by omega) (fun j hj => absurd hj (by simp)) (fun j hj => absurd hj (by simp))
    refine ⟨_, _, this, g, xs.length, by simp, ?_, ?_, by simp, by simp only [maxLen]; simp at hlen; omega⟩
    · have hr : Rd w w.heap.size (some ⟨g, 0, none⟩) (xs ++ []) := by
        rw [List.append_nil]
        exact Rd.of_byt (Blk.byt (pre := []) (rest := []) rfl (by simpa using hb)) hb.lt
      exact hr
    · exact Kp.refl _ w
  · have hold := run_firstCells_some (P := Tryd.prog) w.drew i0.size xs.length ⟨g, 0, none⟩ xs.length xs.length (xs.map bv) (by simp [hz1]) (hcell w.drew (fun _ => rfl))
    have hfit : Builtin.nextslicecap (xs.length + rs.length) xs.length * i0.bytes ≤ 281474976710656 := growslice_fits (by omega) (by rw [hz2]; omega)
    have := run_append_grow_src (P := Tryd.prog) w 22 9 ty 5 i0 (.int .u8 0) Tryd.underlying22 hi hz0 (some ⟨g, 0, none⟩) xs.length xs.length (xs.map bv) hold (.string (Str rs)) rs.length (rs.map bv) hsrc (by omega) (by omega) hfit
    refine ⟨_, _, this, w.heap.size, _, by rw [List.length_append], ?_, ?_, ?_, ?_⟩
    · have hblk : Blk (w.drew.alloc (.cells ((xs.map bv ++ rs.map bv).toArray ++ Builtin.zeroCells (Value.int .u8 0).cells (grownCap w (xs.length + rs.length) xs.length 5 - (xs.length + rs.length))) 5)) w.heap.size 5 ((xs ++ rs).map bv ++ (Builtin.zeroCells (Value.int .u8 0).cells (grownCap w (xs.length + rs.length) xs.length 5 - (xs.length + rs.length))).toList).toArray := by
        have e : ∀ z : Array Value, (xs.map bv ++ rs.map bv).toArray ++ z = ((xs ++ rs).map bv ++ z.toList).toArray := fun z => by
          apply Array.ext'
          simp
        rw [e]
        exact Blk.new w.drew 5 _
      exact Rd.of_byt (Blk.byt (pre := []) rfl hblk) (by simp)
    · exact ((Kp.refl _ w).drew).alloc _
    · rw [List.length_append]
      exact grownCap_ge _ _ _ _
    · exact grownCap_le_maxLen _ _ _ _ (by simp only [maxLen]; omega)

theorem wpList_append_str {w : World} {ops : Array Oper} {rest : List Oper} {o : Oper} {a : Act} {Q : Exit → Act → World → Prop} (hgd : o.guard = none) (s x : Operand)
    (ho : o.op = .call { callee := .builtin .append, args := #[s, x], argTypes := #[22, 9] })
    (g : Nat) (xs rs : List UInt8) (hs : a.eval s = .slice (some ⟨g, 0, none⟩) xs.length xs.length) (hb : Blk w g 5 (xs.map bv).toArray) (hx : a.eval x = .string (Str rs)) (hlen : xs.length + rs.length ≤ 70368744177664)
    (h : ∀ v' w', Grown w w' (xs ++ rs) v' → wpList Tryd.prog ops Q rest (a.put o.dst v') w') : wpList Tryd.prog ops Q (o :: rest) a w := by
  refine wpList_plain hgd fun K hK => ?_
  obtain ⟨v', w', hr, h2⟩ := run_append_str w o.type g xs rs hb hlen
  unfold Oper.wp execOp
  simp only [ho, resolve, invoke, builtin, Sem.run_bind, Sem.run_pure, Result.andThen_ok, List.map_toArray, List.map_cons, List.map_nil, hs, hx, hr]
  exact hK _ _ (h v' w' h2)

set_option maxHeartbeats 400000 in
theorem beUint16_any (w : World) (g off n c : Nat) (b : Nat → UInt8) (hn : 2 ≤ n) (hn' : n ≤ 9223372036854775807) (hb : ∀ i, i < 2 → w.cell? ⟨g, off + i, none⟩ = some (bv (b i))) :
    Calls Tryd.prog 75 #[.slice (some ⟨g, off, none⟩) n c] w fun e w' => e = .returned (.int .u16 (acc b 2)) ∧ w = w' := by
  have h7 := hb 1 (by omega)
  go_enter Tryd.func75, Tryd.ntmps75
  go_wp2
  go_loop [3, 4] (fun v i => ∃ k : Nat, k ≤ 2 ∧ i = .int .i64 k ∧ v = .int .u16 (acc b k)) (fun _ i => 2 - (intOf i).toNat)
  case atStart => exact ⟨0, by omega, rfl, rfl⟩
  case round =>
    obtain ⟨k, hk, rfl, rfl⟩ := hrel
    by_cases hlt : k < 2
    · have hc := hb k (by omega)
      have ha : acc b k < 256 := Nat.lt_of_lt_of_le (acc_lt _ k) (Nat.le_trans (Nat.pow_le_pow_right (by omega) (show k ≤ 1 by omega)) (by decide))
      have hbb := u8lt (b k)
      clear hb h7
      go_wp2
      go_round
      case rel => exact ⟨k + 1, by omega, by go_num, by rw [or_step_u16 _ _ ha]; rfl⟩
      case measure => simp [intOf]; omega
    · obtain rfl : k = 2 := by omega
      go_wp2
      go_ret
      exact ⟨rfl, rfl⟩

set_option maxHeartbeats 400000 in
theorem bePutUint16_any (w : World) (g off n c v : Nat) (t : TypeId) (cs : Array Value) (hn : 2 ≤ n) (hn' : n ≤ 9223372036854775807) (hv : v < 65536) (hb : Blk w g t cs) (hs : off + 2 ≤ cs.size) :
    Calls Tryd.prog 93 #[.slice (some ⟨g, off, none⟩) n c, .int .u16 v] w fun e w' => e = .returned (.tuple #[]) ∧ ∃ cs', Blk w' g t cs' ∧ Upd cs cs' off 2 (fun i => digit v (1 - i)) ∧ Kp (· ≠ g) w w' := by
  have h7 : w.cell? ⟨g, off + 1, none⟩ = some (cs[off + 1]'(by omega)) := (hb.cell _).trans (Array.getElem?_eq_getElem (by omega))
  go_enter Tryd.func93, Tryd.ntmps93
  go_wp2
  go_loopw [4] (fun i wr => ∃ k : Nat, k ≤ 2 ∧ i = .int .i64 k ∧ ∃ cs', Blk wr g t cs' ∧ Upd cs cs' off k (fun i => digit v (1 - i)) ∧ Kp (· ≠ g) w wr) (fun i _ => 2 - (intOf i).toNat)
  case atStart => exact ⟨0, by omega, rfl, cs, hb, Upd.zero _ _ _, Kp.refl _ _⟩
  case round =>
    obtain ⟨k, hk, rfl, cs', hb', hu, hkp⟩ := hrel
    by_cases hlt : k < 2
    · have hc : wr.cell? ⟨g, off + k, none⟩ = some (cs'[off + k]'(by have := hu.size; omega)) := (hb'.cell _).trans (Array.getElem?_eq_getElem (by have := hu.size; omega))
      have hf := hb'.frozen (off + k)
      clear hb h7
      go_wp2
      go_roundw
      case rel => exact ⟨k + 1, by omega, by go_num, _, by rw [show 8 - 8 * k = 8 * (1 - k) by omega, digit_int]; exact hb'.set_ _ _, hu.step (F := fun i => digit v (1 - i)) (by omega), hkp.setCell (by simp) _⟩
      case measure => simp [intOf]; omega
    · obtain rfl : k = 2 := by omega
      go_wp2
      go_end0
      exact ⟨rfl, cs', hb', hu, hkp⟩
end Go.Proofs.YtechapgchjdhaaaDoor
