/- The built-in copy of bytes into a block that is known whole: a law for the walk. -/
import Derived.Test.YtechapgchjdhaaaDoorMsk
namespace Go.Proofs.YtechapgchjdhaaaDoor
open Go.RowKit

theorem sized5 : (Tryd.prog.info? 5).map (·.size) = some 1 := by kernel_rfl

theorem wpList_copy_bytes {w : World} {ops : Array Oper} {rest : List Oper} {o : Oper} {a : Act} {Q : Exit → Act → World → Prop} (hgd : o.guard = none) (d s : Operand)
    (ho : o.op = .call { callee := .builtin .copy, args := #[d, s], argTypes := #[22, 22] })
    (g off dLen dCap : Nat) (hd : a.eval d = .slice (some ⟨g, off, none⟩) dLen dCap) (A : Option Addr) (n c : Nat) (hs : a.eval s = .slice A n c)
    (B : Nat) (bs : List UInt8) (hr : Rd w B A bs) (hn : n = bs.length) (cur : Array Value) (hg : Blk w g 5 cur) (k : Nat) (hk : k = min bs.length dLen) (hfit : off + k ≤ cur.size)
    (h : ∀ w' cs', Blk w' g 5 cs' → Upd cur cs' off k (fun i => bs.getD i 0) → Kp (· ≠ g) w w' → wpList Tryd.prog ops Q rest (a.put o.dst (.int .i64 k)) w') : wpList Tryd.prog ops Q (o :: rest) a w := by
  subst hn
  by_cases h0 : k = 0
  · subst h0
    exact wpList_copy_nothing hgd d s 22 22 ho 5 Tryd.underlying22 sized5 _ _ dLen dCap bs.length c hd hs hk.symm (h w cur hg (Upd.zero _ _ _) (Kp.refl _ _))
  · have hne : bs ≠ [] := by rintro rfl; simp at hk; omega
    obtain ⟨gs, os, rfl, _, hb⟩ := hr hne
    have hlen : ((bs.take k).map bv).length = k := by simp; omega
    refine wpList_copy_own hgd d s 22 22 ho 5 Tryd.underlying22 sized5 g off dLen dCap ⟨gs, os, none⟩ bs.length c hd hs cur 5 hg ((bs.take k).map bv) (by rw [hlen]; exact hk) ?_ (by rw [hlen]; exact hfit) (oneCell_bytes _) ?_
    · intro j v hj
      have hjl : j < k := by have := (List.getElem?_eq_some_iff.1 hj).1; omega
      have hadd : (⟨gs, os, none⟩ : Addr).add j = ⟨gs, os + j, none⟩ := by unfold Addr.add; split <;> simp_all
      rw [hadd, hb j (by omega)]
      rw [List.getElem?_map, List.getElem?_take, if_pos hjl, List.getElem?_eq_getElem (by omega)] at hj
      exact hj
    · rw [hlen]
      refine h _ _ (setRow_heap w g cur _ 5 _ hg) ⟨?_, ?_, ?_⟩ ⟨rfl, rfl, rfl, by simp, fun i _ hi => setRow_other w g i _ hi⟩
      · simp only [List.size_toArray, List.length_append, List.length_take, List.length_drop, hlen, Array.length_toList]
        omega
      · intro i hi
        simp only [List.getElem?_toArray]
        rw [List.getElem?_append_right (by simp; omega), List.getElem?_append_left (by simp; omega)]
        simp only [List.length_take, Array.length_toList]
        rw [show off + i - min off cur.size = i by omega, List.getElem?_map, List.getElem?_take, if_pos hi, List.getElem?_eq_getElem (by omega)]
        simp [List.getD, List.getElem?_eq_getElem (show i < bs.length by omega)]
      · intro j hj
        simp only [List.getElem?_toArray]
        rcases hj with hj | hj
        · rw [List.getElem?_append_left (by simp; omega), List.getElem?_take, if_pos hj, Array.getElem?_toList]
        · rw [List.getElem?_append_right (by simp; omega), List.getElem?_append_right (by simp; omega), List.getElem?_drop]
          simp only [List.length_take, Array.length_toList, hlen]
          rw [show off + k + (j - min off cur.size - k) = j by omega, Array.getElem?_toList]
end Go.Proofs.YtechapgchjdhaaaDoor
