/- append of bytes onto a row of the call's own, the source nil, empty or not; a copy of bytes; the comparison of two byte slices. -/
import Derived.Test.YtechapgchjdhaaaDoorBase
namespace Go.Proofs.YtechapgchjdhaaaDoor
open Go.RowKit

theorem info5 : (Tryd.prog.info? 5).map (fun i => (i.zero, i.size, i.bytes)) = some (some (.int .u8 0), 1, 1) := by kernel_rfl

/-- A slice of bytes of the call's own: nil, or at the head of a row from block base on. -/
abbrev Own (w : World) (base : Nat) (v : Value) (bs : List UInt8) : Prop := w.ownsRow base 5 1 v bs.length (bs.map bv)

theorem oneCell_bytes (bs : List UInt8) : ∀ u ∈ bs.map bv, u.oneCell' = true := by
  intro u hu
  obtain ⟨b, _, rfl⟩ := List.mem_map.1 hu
  rfl

theorem run_append_bytes (w : World) (ty : TypeId) (base : Nat) (v : Value) (xs : List UInt8) (hown : Own w base v xs)
    (B : Nat) (A : Option Addr) (n c : Nat) (bs : List UInt8) (hr : Rd w B A bs) (hn : n = bs.length) (hlen : xs.length + bs.length ≤ 140737488355328) (hbase : base ≤ w.heap.size) :
    ∃ v' w', (Builtin.append_ #[22, 22] ty #[v, .slice A n c]).run Tryd.prog w = .ok v' w' ∧ Own w' base v' (xs ++ bs) ∧ w.grownBy w' v.ownBlock ∧ (v' = .slice none 0 0 ↔ v = .slice none 0 0 ∧ bs.length = 0) := by
  subst hn
  obtain ⟨i0, hi, hz0, hz1, hz2⟩ := info_parts info5
  rcases A with _ | a
  · have hb : bs = [] := by
      apply Classical.byContradiction; intro hne
      obtain ⟨_, _, h, _⟩ := hr hne
      cases h
    subst hb
    refine ⟨v, w, ?_, by simpa using hown, ⟨rfl, rfl, rfl, Nat.le_refl _, fun _ _ _ => rfl⟩, by simp⟩
    rcases hown.2 with ⟨rfl, _⟩ | ⟨g, cap, cur, rfl, _, _, hnc, _⟩
    · simp [Builtin.append_, run_underlying Tryd.underlying22, sizeOf, typeInfo, hi, Builtin.lenOf, Builtin.firstCells]
    · simp [Builtin.append_, run_underlying Tryd.underlying22, sizeOf, typeInfo, hi, Builtin.lenOf, Builtin.firstCells, hnc, storeCells]
  · have hcells : ∀ j u, (bs.map bv)[j]? = some u → w.cell? (a.add j) = some u := by
      intro j u hu
      have hj : j < bs.length := by
        have := (List.getElem?_eq_some_iff.1 hu).1
        simpa using this
      obtain ⟨g, off, h, _, hb⟩ := hr (by intro e; subst e; simp at hj)
      obtain rfl := Option.some.inj h
      have hadd : (⟨g, off, none⟩ : Addr).add j = ⟨g, off + j, none⟩ := by unfold Addr.add; split <;> simp_all
      rw [hadd, hb j hj]
      rw [List.getElem?_map, List.getElem?_eq_getElem hj] at hu
      exact hu
    have := run_append_own (P := Tryd.prog) w base 22 ty 5 i0 (.int .u8 0) 1 1 Tryd.underlying22 hi hz0 hz1 hz2 rfl (by omega) v xs.length (xs.map bv) hown a bs.length c (bs.map bv) (by simp) hcells (oneCell_bytes bs) (by simp only [maxLen]; omega) (by omega) hbase
    obtain ⟨v', w', h1, h2, h3, h4⟩ := this
    exact ⟨v', w', h1, by unfold Own; rw [List.length_append, List.map_append]; exact h2, h3, h4⟩

theorem wpList_append_bytes {w : World} {ops : Array Oper} {rest : List Oper} {o : Oper} {a : Act} {Q : Exit → Act → World → Prop} (hgd : o.guard = none) (s x : Operand)
    (ho : o.op = .call { callee := .builtin .append, args := #[s, x], argTypes := #[22, 22] })
    (base : Nat) (v : Value) (xs : List UInt8) (hs : a.eval s = v) (hown : Own w base v xs)
    (B : Nat) (A : Option Addr) (n c : Nat) (bs : List UInt8) (hx : a.eval x = .slice A n c) (hr : Rd w B A bs) (hn : n = bs.length) (hlen : xs.length + bs.length ≤ 140737488355328) (hbase : base ≤ w.heap.size)
    (h : ∀ v' w', Own w' base v' (xs ++ bs) → w.grownBy w' v.ownBlock → (v' = .slice none 0 0 ↔ v = .slice none 0 0 ∧ bs.length = 0) → wpList Tryd.prog ops Q rest (a.put o.dst v') w') : wpList Tryd.prog ops Q (o :: rest) a w := by
  refine wpList_plain hgd fun K hK => ?_
  obtain ⟨v', w', hr, h2, h3, h4⟩ := run_append_bytes w o.type base v xs hown B A n c bs hr hn hlen hbase
  unfold Oper.wp execOp
  simp only [ho, resolve, invoke, builtin, Sem.run_bind, Sem.run_pure, Result.andThen_ok, List.map_toArray, List.map_cons, List.map_nil, hs, hx, hr]
  exact hK _ _ (h v' w' h2 h3 h4)

/-- What an owned slice that is not nil is: its block, whole. -/
theorem Own.form {w : World} {base : Nat} {v : Value} {bs : List UInt8} (h : Own w base v bs) (hv : v ≠ .slice none 0 0) :
    ∃ g rest, v = .slice (some ⟨g, 0, none⟩) bs.length (bs.length + rest.length) ∧ base ≤ g ∧ Blk w g 5 (bs.map bv ++ rest).toArray ∧ bs.length + rest.length ≤ maxLen := by
  rcases h.2 with ⟨e, _⟩ | ⟨g, cap, cur, rfl, hb, hg, hn, hm, hsz, ht⟩
  · exact absurd e hv
  · have hl : cur.toList.length = cap := by simpa using hsz
    refine ⟨g, cur.toList.drop bs.length, ?_, hb, ?_, ?_⟩
    · have : bs.length + (cur.toList.drop bs.length).length = cap := by simp only [List.length_drop, hl]; omega
      rw [this]
    · unfold Blk
      rw [← ht, Nat.mul_one, List.take_append_drop]
      exact hg
    · simp only [List.length_drop, hl]; omega

def Fresh (w w' : World) (bs : List UInt8) (e : Ending) : Prop :=
  ∃ g rest, e = .returned (.slice (some ⟨g, 0, none⟩) bs.length (bs.length + rest.length)) ∧ w.heap.size ≤ g ∧ Blk w' g 5 (bs.map bv ++ rest).toArray ∧ bs.length + rest.length ≤ maxLen ∧ Kp (fun _ => True) w w'

set_option maxHeartbeats 400000 in
theorem copied_any (w : World) (A : Option Addr) (n c : Nat) (bs : List UInt8) (hr : Rd w w.heap.size A bs) (hn : n = bs.length) (hlen : bs.length ≤ 140737488355328) :
    Calls Tryd.prog 37 #[.slice A n c] w fun e w' => Fresh w w' bs e := by
  go_enter Tryd.func37, Tryd.ntmps37
  have hown : Own (w.alloc (.cells #[] 5)) w.heap.size (.slice (some ⟨w.heap.size, 0, none⟩) 0 0) [] :=
    World.ownsRow_made w #[] 0 (Nat.le_refl _) (by simp [maxLen]) rfl
  go_wp2_with (at_builtin; refine wpList_append_bytes rfl (.tmp 3) (.tmp 4) rfl w.heap.size (.slice (some ⟨w.heap.size, 0, none⟩) 0 0) [] rfl hown w.heap.size A n c bs rfl (hr.alloc (Nat.le_refl _) _) hn (by simpa using hlen) (by simp) ?_; intro v1 w1 hown1 hg1 hnil1)
  go_ret
  have hv : v1 ≠ .slice none 0 0 := fun e => by have := (hnil1.1 e).1; cases this
  obtain ⟨g, rest, rfl, hb, hblk, hm⟩ := hown1.form hv
  refine ⟨g, rest, rfl, hb, hblk, by simpa using hm, ?_⟩
  exact ((Kp.refl _ w).alloc _).grown hg1 (fun g' e hlt => by simp [Value.ownBlock] at e; omega)
end Go.Proofs.YtechapgchjdhaaaDoor
