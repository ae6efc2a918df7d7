/- ws.WriteHeader: the walk. -/
import Derived.Test.YtechapgchjdhaaaDoorBuf
import Derived.Test.YtechapgchjdhaaaDoorMth
import Derived.Test.YtechapgchjdhaaaDoorMth
import Derived.Test.YtechapgchjdhaaaDoorMth
import Derived.Test.YtechapgchjdhaaaDoorMth
import Derived.Test.YtechapgchjdhaaaDoorMth
import Derived.Test.YtechapgchjdhaaaDoorMth
import Derived.Test.YtechapgchjdhaaaDoorMth
import Derived.Test.YtechapgchjdhaaaDoorMth
import Derived.Test.YtechapgchjdhaaaDoorMth
namespace Go.Proofs.YtechapgchjdhaaaDoor
open Go.RowKit

theorem or_128r : ∀ r : Nat, r < 8 → bits .or .u8 128 ((r : Int) * 16) = 128 + (r : Int) * 16 := by decide +kernel
theorem or_0r : ∀ r : Nat, r < 8 → bits .or .u8 0 ((r : Int) * 16) = (r : Int) * 16 := by decide +kernel
theorem or_128ro : ∀ r : Nat, r < 8 → ∀ o : Nat, o < 16 → bits .or .u8 (128 + (r : Int) * 16) (o : Int) = 128 + (r : Int) * 16 + (o : Int) := by decide +kernel
theorem or_ro : ∀ r : Nat, r < 8 → ∀ o : Nat, o < 16 → bits .or .u8 ((r : Int) * 16) (o : Int) = (r : Int) * 16 + (o : Int) := by decide +kernel
theorem or_x : ∀ x, x < 128 → bits .or .u8 ((x : Nat) : Int) 128 = ((x : Nat) : Int) + 128 := by decide +kernel

/-- Fourteen bytes of which the first two are known. -/
abbrev bts (x y : Value) : Array Value := #[x, y, bv 0, bv 0, bv 0, bv 0, bv 0, bv 0, bv 0, bv 0, bv 0, bv 0, bv 0, bv 0]
theorem zrow14 : zrow 14 = bts (bv 0) (bv 0) := by kernel_rfl

/-- The row of the call, what has been written at its beginning. -/
structure Bts (w w' : World) (g : Nat) (hc : Array Value) (bs : List UInt8) : Prop where
  row : ∃ cs, Blk w' g 5 cs ∧ cs.size = 14
  byt : Byt w' g 0 bs
  hdr : Blk w' w.heap.size 78 hc
  kp : KT w w'

theorem byt2 {w : World} {g : Nat} {t : TypeId} {x y : UInt8} {cs : List Value} (h : Blk w g t (bv x :: bv y :: cs).toArray) : Byt w g 0 [x, y] :=
  Blk.byt (pre := []) (rest := cs) rfl h

/-- Bytes written behind those that are there. -/
theorem byt_behind {w : World} {g k : Nat} {t : TypeId} {bs es : List UInt8} {cs cs' : Array Value} {F : Nat → UInt8} (hk : bs.length = k) (h : ∀ i (hi : i < bs.length), cs[i]? = some (bv bs[i])) (hu : Upd cs cs' k es.length F)
    (hF : ∀ i (hi : i < es.length), F i = es[i]) (hb : Blk w g t cs') : Byt w g 0 (bs ++ es) := by
  intro i hi
  rw [Nat.zero_add, hb.cell]
  by_cases hlt : i < bs.length
  · rw [hu.old i (by omega), h i hlt, List.getElem_append_left hlt]
  · have hi' : i - k < es.length := by rw [List.length_append] at hi; omega
    have := hu.new (i - k) hi'
    rw [show k + (i - k) = i by omega] at this
    rw [this, hF _ hi', List.getElem_append_right (by omega)]
    subst hk
    rfl

theorem Byt.cells {w : World} {g : Nat} {t : TypeId} {bs : List UInt8} {cs : Array Value} (h : Byt w g 0 bs) (hb : Blk w g t cs) : ∀ i (hi : i < bs.length), cs[i]? = some (bv bs[i]) := fun i hi => by
  have := h i hi
  rw [Nat.zero_add, hb.cell] at this
  exact this

/-- The second byte written anew. -/
theorem byt_second {w : World} {g : Nat} {x y z : UInt8} {E : List UInt8} {cs : Array Value} (hb : Blk w g 5 cs) (h : Byt w g 0 (x :: y :: E)) : Byt (w.setCell ⟨g, 1, none⟩ (bv z)) g 0 (x :: z :: E) := by
  intro i hi
  have hs := h.cells hb
  rw [Nat.zero_add, (hb.set_ 1 (bv z)).cell, Array.getElem?_setIfInBounds]
  have h1 := hs 1 (by simp)
  by_cases h : 1 = i
  · subst h
    rw [if_pos rfl, if_pos (Array.getElem?_eq_some_iff.1 h1).1]
    rfl
  · rw [if_neg h]
    match i, h, hi with
    | 0, _, _ => exact hs 0 (by simp)
    | j + 2, _, hi => exact hs (j + 2) (by simpa using hi)

theorem Bts.second {w w' : World} {g : Nat} {hc : Array Value} {x y z : UInt8} {E : List UInt8} (h : Bts w w' g hc (x :: y :: E)) (hg : w.heap.size < g) : Bts w (w'.setCell ⟨g, 1, none⟩ (bv z)) g hc (x :: z :: E) := by
  obtain ⟨cs, hb, hs⟩ := h.row
  exact ⟨⟨_, hb.set_ 1 _, by simpa using hs⟩, byt_second hb h.byt, h.hdr.far (p := ⟨g, 1, none⟩) (show w.heap.size ≠ g by omega) _, h.kp.setCell (p := ⟨g, 1, none⟩) (fun h => absurd h (by show ¬ g < w.heap.size; omega)) _⟩

theorem Bts.behind {w w' w'' : World} {g k : Nat} {hc : Array Value} {bs es : List UInt8} {F : Nat → UInt8} {cs cs' : Array Value} (h : Bts w w' g hc bs) (hb : Blk w' g 5 cs) (hs : cs.size = 14) (hg : w.heap.size < g) (hk : bs.length = k)
    (hb' : Blk w'' g 5 cs') (hu : Upd cs cs' k es.length F) (hF : ∀ i (hi : i < es.length), F i = es[i]) (hkp : Kp (· ≠ g) w' w'') : Bts w w'' g hc (bs ++ es) :=
  ⟨⟨cs', hb', by rw [hu.size]; exact hs⟩, byt_behind hk (h.byt.cells hb) hu hF hb', h.hdr.kp hkp (show w.heap.size ≠ g by omega), h.kp.then_ hkp (fun i hi _ => by omega)⟩

theorem be_get' (k n : Nat) : ∀ i (hi : i < (be k n).length), digit n (k - 1 - i) = (be k n)[i] := fun i hi => (be_get k n i (by rwa [be_length] at hi)).symm

theorem BufAt.on {w w' : World} {B base : Nat} {v : Value} {xs : List UInt8} (h : BufAt w B base v xs) (hk : KT w w') : BufAt w' B base v xs := by
  refine ⟨h.blk.on hk, ?_⟩
  rcases h.own.2 with ⟨h1, h2⟩ | ⟨g, cap, cur, h1, h2, h3, h4⟩
  · exact ⟨h.own.1, Or.inl ⟨h1, h2⟩⟩
  · exact ⟨h.own.1, Or.inr ⟨g, cap, cur, h1, h2, Blk.on (cs := cur) h3 hk, h4⟩⟩

theorem mask_src {w : World} {b : Nat} {t : TypeId} {M : Nat → UInt8} {a0 a1 a2 a3 a8 : Value} (h : Blk w b t #[a0, a1, a2, a3, bv (M 0), bv (M 1), bv (M 2), bv (M 3), a8]) :
    ∀ j v, [bv (M 0), bv (M 1), bv (M 2), bv (M 3)][j]? = some v → w.cell? ((⟨b, 4, none⟩ : Addr).add j) = some v := by
  intro j v hj
  have hadd : (⟨b, 4, none⟩ : Addr).add j = ⟨b, 4 + j, none⟩ := by unfold Addr.add; split <;> simp_all
  rw [hadd, h.cell]
  match j, hj with
  | 0, hj => simpa using hj
  | 1, hj => simpa using hj
  | 2, hj => simpa using hj
  | 3, hj => simpa using hj
  | n + 4, hj => simp at hj

/-- The mask behind the bytes. -/
theorem Bts.mask {w w' w'' : World} {g k : Nat} {hc : Array Value} {bs : List UInt8} {M : Nat → UInt8} {cs : Array Value} (h : Bts w w' g hc bs) (hb : Blk w' g 5 cs) (hs : cs.size = 14) (hg : w.heap.size < g) (hk : bs.length = k) (hk14 : k + 4 ≤ 14)
    (hb' : w''.heap[g]? = some (.cells (splice cs.toList k [bv (M 0), bv (M 1), bv (M 2), bv (M 3)]).toArray 5 (0, 0))) (hbel : Below g w' w'') : Bts w w'' g hc (bs ++ [M 0, M 1, M 2, M 3]) := by
  have hkp : Kp (fun i => i < g) w' w'' := ⟨hbel.os, hbel.tape, hbel.output, hbel.size, fun i _ hi => hbel.block i hi⟩
  have hc := h.byt.cells hb
  refine ⟨⟨_, hb', ?_⟩, ?_, h.hdr.kp hkp hg, h.kp.then_ hkp (fun i hi _ => by omega)⟩
  · rw [List.size_toArray, length_splice _ _ _ (by simpa [hs] using hk14)]
    simpa using hs
  · intro i hi
    have hl : (bs ++ [M 0, M 1, M 2, M 3]).length = k + 4 := by rw [List.length_append, hk]; rfl
    rw [Nat.zero_add, cell_of_row _ _ _ _ _ _ hb', List.getElem?_toArray]
    unfold splice
    by_cases hlt : i < bs.length
    · rw [List.getElem?_append_left (by simp; omega), List.getElem?_take, if_pos (by omega), Array.getElem?_toList, hc i hlt, List.getElem_append_left hlt]
    · have ht : (cs.toList.take k).length = k := by simp; omega
      rw [List.getElem?_append_right (by rw [ht]; omega), ht, List.getElem?_append_left (by simp; omega), List.getElem_append_right (by omega)]
      subst hk
      have hj : i - bs.length < 4 := by omega
      obtain ⟨j, hje⟩ : ∃ j, j = i - bs.length := ⟨_, rfl⟩
      simp only [← hje]
      match j, hje, hj with
      | 0, hje, _ => rfl
      | 1, hje, _ => rfl
      | 2, hje, _ => rfl
      | 3, hje, _ => rfl
      | n + 4, hje, hj => omega

theorem whd_end {w w4 w5 : World} {B base : Nat} {v v5 : Value} {xs hb bs : List UInt8} {g : Nat} {hc : Array Value} (e : hb = bs) (hB : Bts w w4 g hc bs) (h1 : BufAt w5 B base v5 (xs ++ bs)) (h2 : v ≠ .slice none 0 0 ∨ bs ≠ [] → v5 ≠ .slice none 0 0) (h3 : KpBuf B v w4.drew w5) (hne : bs ≠ []) :
    Ending.returned .nilIface = .returned .nilIface ∧ ∃ v', BufAt w5 B base v' (xs ++ hb) ∧ v' ≠ .slice none 0 0 ∧ KpBuf B v w w5 := by
  subst e
  exact ⟨rfl, v5, h1, h2 (Or.inr hne), (hB.kp.drew.mono fun _ _ _ => trivial).trans h3⟩

set_option maxRecDepth 100000 in
set_option maxHeartbeats 8000000 in
theorem writeHeader (w : World) (B base : Nat) (v : Value) (xs : List UInt8) (fin : Bool) (r o : Nat) (mk : Bool) (M : Nat → UInt8) (n : Nat) (hr : r < 8) (ho : o < 16) (hn : n ≤ 9223372036854775807)
    (h : BufAt w B base v xs) (hlen : xs.length ≤ 100000) (hbase : base ≤ w.heap.size) :
    Calls Tryd.prog 83 #[.iface 119 (.pointer (some ⟨B, 0, none⟩)), wval fin r o mk M n] w fun e w' => e = .returned .nilIface ∧ ∃ v', BufAt w' B base v' (xs ++ hbytes fin r o mk M n) ∧ v' ≠ .slice none 0 0 ∧ KpBuf B v w w' := by
  have e1 : bits .or .u8 0 128 = 128 := by decide +kernel
  have e2 := or_128r r hr
  have e3 := or_0r r hr
  have e4 := or_128ro r hr o ho
  have e5 := or_ro r hr o ho
  have hmk : ∀ w, (Instr.makeSlice 22 (.int .i64 14) (.int .i64 14)).run Tryd.prog w = .ok (.slice (some ⟨w.heap.size, 0, none⟩) 14 14) (w.alloc (.cells (bts (bv 0) (bv 0)) 5)) := fun w => by rw [← zrow14]; exact run_make_bytes 14 14 (Nat.le_refl _) (by omega) w
  have hB0 := B0_int fin r o hr ho
  have HB0 := hide hB0
  have H := hide h
  clear hB0 h
  go_enter Tryd.func83, Tryd.ntmps83
  go_upto_region 2 with fail
  refine wp_abs (fun w2 => Blk w2 w.heap.size 78 (wcells fin r o mk M n) ∧ Blk w2 (w.heap.size + 1) 5 (bts (bv 0) (bv 0)) ∧ KT w w2) ⟨(Blk.new w 78 _).alloc _, Blk.new2 w _ 5 _, ((KT.refl w).alloc _).alloc _⟩ ?_
  clear hmk
  rintro w2 ⟨p3, p5, hk2⟩
  obtain ⟨c0, c1, c2, c3, c4, c5, c6, c7, c8⟩ := row9 p3
  have d0 := p5.cell 0
  have d1 := p5.cell 1
  have f0 := p5.frozen 0
  have f1 := p5.frozen 1
  obtain ⟨g, hg⟩ : ∃ g, g = w.heap.size + 1 := ⟨_, rfl⟩
  rw [← hg] at p5 d0 d1 f0 f1 ⊢
  have hg1 : w.heap.size ≠ g := by omega
  have hg0 : w.heap.size < g := by omega
  have hg2 := p5.lt
  clear hg
  cases fin
  · go_upto_region 4 with fail
    go_region
    go_upto_region 5 with fail
    go_region
    go_upto_region 6 with fail
    have hv : bv (B0 false r o) = .int .u8 ((r : Int) * 16 + o) := by
      show Value.int .u8 _ = _
      rw [unhide HB0]
      rfl
    refine wp_abs (fun w3 => Blk w3 w.heap.size 78 (wcells false r o mk M n) ∧ Blk w3 g 5 (bts (bv (B0 false r o)) (bv 0)) ∧ KT w w3) ⟨?_, ?_, ?_⟩ ?_
    · exact (((p3).far (p := ⟨g, 0, none⟩) hg1 _).far (p := ⟨g, 0, none⟩) hg1 _).drew.drew
    · rw [hv]
      exact (((p5).put 0 _).put 0 _).drew.drew
    · exact (((hk2).setCell (p := ⟨g, 0, none⟩) (fun h => absurd h (by show ¬ g < w.heap.size; omega)) _).setCell (p := ⟨g, 0, none⟩) (fun h => absurd h (by show ¬ g < w.heap.size; omega)) _).drew.drew
    clear c0 c1 c2 c3 c4 c5 c6 c7 c8 d0 d1 f0 f1 hk2 p3 p5 hg2 hv
    rintro w3 ⟨p3, p5, hk3⟩
    obtain ⟨c0, c1, c2, c3, c4, c5, c6, c7, c8⟩ := row9 p3
    have d0 := p5.cell 0
    have d1 := p5.cell 1
    have f0 := p5.frozen 0
    have f1 := p5.frozen 1
    have hg2 := p5.lt
    have hs1 : ∀ y : UInt8, Bts w (w3.setCell ⟨g, 1, none⟩ (bv y)) g (wcells false r o mk M n) [B0 false r o, y] := fun y =>
      ⟨⟨_, p5.set_ 1 _, rfl⟩, byt2 (Blk.put p5 1 _), p3.far (p := ⟨g, 1, none⟩) (show w.heap.size ≠ g by omega) _, hk3.setCell (p := ⟨g, 1, none⟩) (fun h => absurd h (by show ¬ g < w.heap.size; omega)) _⟩
    have HS1 := hide hs1
    clear hs1 hk3
    by_cases h1 : n < 126
    · go_upto_region 19 with fail
      have hv : bv (B1 false n) = .int .u8 n := by
        show Value.int .u8 _ = _
        rw [B1_int, L7, if_pos h1]
        congr 1
        simp
      refine wp_abs (fun w4 => Bts w w4 g (wcells false r o mk M n) ([B0 false r o, B1 false n] ++ ([] : List UInt8))) ?_ ?_
      · rw [List.append_nil, ← hv]
        exact unhide HS1 _
      clear HS1 c0 c1 c2 c3 c4 c5 c6 c7 c8 d0 d1 f0 f1 p3 p5 hg2 hv
      rintro w4 hB4
      have HX : Hid (ext n = ([] : List UInt8)) := by show ext n = _; rw [ext, if_pos h1]
      obtain ⟨c0, c1, c2, c3, c4, c5, c6, c7, c8⟩ := row9 hB4.hdr
      obtain ⟨cs4, hb4, hsz4⟩ := id hB4.row
      have d1 : w4.cell? ⟨g, 1, none⟩ = some (bv (B1 false n)) := hB4.byt 1 (by simp)
      have f1 := hb4.frozen 1
      have hBu : BufAt w4.drew B base v xs := (unhide H).on hB4.kp.drew
      have hlb : base ≤ w4.heap.size := Nat.le_trans hbase hB4.kp.size
      have hX : hbytes false r o mk M n = B0 false r o :: B1 mk n :: (([] : List UInt8) ++ tail4 mk M) := by rw [hbytes, unhide HX]
      have HX2 := hide hX
      clear hX HX
      have e7 : bits .or .u8 ((B1 false n).toNat : Int) 128 = ((B1 true n).toNat : Int) := by rw [B1_int, B1_int]; have := or_x (L7 n) (L7_lt n); simpa [Int.add_comm] using this
      have hnw := nil_write B
      cases mk
      · have hw := bufWrite w4.drew B base v xs hBu w4.heap.size (some ⟨g, 0, none⟩) 14 ([B0 false r o, B1 false n] ++ ([] : List UInt8)) (Rd.of_byt hB4.byt hb4.lt) (by simp; omega) hlb
        rw [show ([B0 false r o, B1 false n] ++ ([] : List UInt8)).length = 2 from by simp] at hw
        have HW := hide hw
        have HB4 := hide hB4
        clear hw hBu hb4 d1 f1 e7 hB4
        go_upto_region 22 with fail
        go_region_with ((with_reducible refine (unhide HW).mono ?_); rintro e w5 ⟨rfl, v5, hq1, hq2, hq3⟩; have HQ := hide (And.intro hq1 (And.intro hq2 hq3)); clear hq1 hq2 hq3)
        go_wp2_with fail
        go_ret
        exact whd_end (by rw [unhide HX2]; simp [tail4]) (unhide HB4) (unhide HQ).1 (unhide HQ).2.1 (unhide HQ).2.2 (by simp)
      · have HB4 := hide hB4
        clear hBu hb4 hB4
        go_upto_region 21 with fail
        refine wp_abs (fun w5 => Bts w w5 g (wcells false r o true M n) ([B0 false r o, B1 true n] ++ ([] : List UInt8))) ((unhide HB4).second hg0) ?_
        clear c0 c1 c2 c3 c4 c5 c6 c7 c8 d1 f1 HB4 hsz4 hlb e7
        clear cs4
        rintro w5 hB5
        obtain ⟨cs5, hb5, hsz5⟩ := id hB5.row
        have HG : Hid (w5.drew.heap[g]? = some (.cells cs5.toList.toArray 5 (0, 0))) := by show w5.heap[g]? = some (.cells cs5.toList.toArray 5 (0, 0)); rw [Array.toArray_toList]; exact hb5
        have HM := hide (mask_src (w := w5.drew) hB5.hdr)
        have HM2 : Hid (∀ w6 : World, Hid (w6.heap[g]? = some (.cells (splice cs5.toList 2 [bv (M 0), bv (M 1), bv (M 2), bv (M 3)]).toArray 5 (0, 0))) → Below g w5.drew w6 → Bts w w6 g (wcells false r o true M n) (([B0 false r o, B1 true n] ++ ([] : List UInt8)) ++ [M 0, M 1, M 2, M 3])) := fun w6 h6 hbel =>
          hB5.mask hb5 hsz5 hg0 (by simp) (by omega) h6 ⟨hbel.os, hbel.tape, hbel.output, hbel.size, hbel.block⟩
        have HMIN : Hid ([bv (M 0), bv (M 1), bv (M 2), bv (M 3)].length = Nat.min 4 12) := rfl
        have HONE : Hid (∀ v ∈ [bv (M 0), bv (M 1), bv (M 2), bv (M 3)], v.oneCell' = true) := oneCell_bytes [M 0, M 1, M 2, M 3]
        have HFIT : Hid (2 + [bv (M 0), bv (M 1), bv (M 2), bv (M 3)].length ≤ cs5.toList.length) := by show _ ≤ _; simp [hsz5]
        have HBE : Hid (Below g w5.drew w5.drew) := Below.refl _ _
        clear hsz5 hb5 hB5
        go_region_law (with_reducible refine step_copy_splice rfl (.tmp 76) (.tmp 78) 22 22 rfl 5 Tryd.underlying22 sized5 (some ⟨g, 2, none⟩) (some ⟨w.heap.size, 4, none⟩) 12 12 4 4 (by kernel_rfl) (by kernel_rfl) g 2 cs5.toList 5 (unhide HG) [bv (M 0), bv (M 1), bv (M 2), bv (M 3)] (unhide HMIN) (fun _ => ⟨rfl, _, rfl, unhide HM⟩) (unhide HFIT) (unhide HONE) g w5.drew (unhide HBE) (Nat.le_refl _) ?_; intro w6 hg6 hbel6; have HB6 := hide (unhide HM2 w6 hg6 hbel6); clear hg6 hbel6)
        clear HG HM HM2 HMIN HONE HFIT HBE
        go_upto_region 22 with fail
        refine wp_abs (fun w7 => Bts w w7 g (wcells false r o true M n) (([B0 false r o, B1 true n] ++ ([] : List UInt8)) ++ [M 0, M 1, M 2, M 3])) (unhide HB6) ?_
        clear HB6
        rintro w7 hB7
        obtain ⟨cs7, hb7, _⟩ := id hB7.row
        have hw := bufWrite w7.drew B base v xs ((unhide H).on hB7.kp.drew) w7.heap.size (some ⟨g, 0, none⟩) 14 (([B0 false r o, B1 true n] ++ ([] : List UInt8)) ++ [M 0, M 1, M 2, M 3]) (Rd.of_byt hB7.byt hb7.lt) (by simp; omega) (Nat.le_trans hbase hB7.kp.size)
        rw [show (([B0 false r o, B1 true n] ++ ([] : List UInt8)) ++ [M 0, M 1, M 2, M 3]).length = 6 from by simp] at hw
        have HW := hide hw
        have HB7 := hide hB7
        have hwr : IntKind.i64.wrap 6 = 6 := by decide
        clear hw hb7 hB7
        go_region_with ((with_reducible refine (unhide HW).mono ?_); rintro e w8 ⟨rfl, v8, hq1, hq2, hq3⟩; have HQ := hide (And.intro hq1 (And.intro hq2 hq3)); clear hq1 hq2 hq3)
        go_wp2_with fail
        go_ret
        exact whd_end (by rw [unhide HX2]; simp [tail4]) (unhide HB7) (unhide HQ).1 (unhide HQ).2.1 (unhide HQ).2.2 (by simp)
    · by_cases h2 : n < 65536
      · go_upto_region 13 with fail
        have hv : bv (B1 false n) = .int .u8 126 := by
          show Value.int .u8 _ = _
          rw [B1_int, L7, if_neg h1, if_pos h2]
          rfl
        refine wp_abs (fun w4 => Bts w w4 g (wcells false r o mk M n) [B0 false r o, B1 false n]) ?_ ?_
        · rw [← hv]
          exact unhide HS1 _
        clear c0 c1 c2 c3 c4 c5 c6 c7 c8 d0 d1 f0 f1 p3 p5 hg2 hv HS1
        rintro w4 hB4
        obtain ⟨c0, c1, c2, c3, c4, c5, c6, c7, c8⟩ := row9 hB4.hdr
        obtain ⟨cs4, hb4, hsz4⟩ := id hB4.row
        have HP := hide (bePutUint16_any w4.drew g 2 2 12 n 5 cs4 (Nat.le_refl _) (by omega) (by omega) hb4 (by omega))
        have HN : Hid (∀ w6 cs', Blk w6 g 5 cs' → Upd cs4 cs' 2 2 (fun i => digit n (2 - 1 - i)) → Kp (· ≠ g) w4.drew w6 → Bts w w6 g (wcells false r o mk M n) ([B0 false r o, B1 false n] ++ be 2 n)) := fun w6 cs' hb' hu hkp =>
          hB4.behind (es := be 2 n) hb4 hsz4 hg0 rfl hb' (by rw [be_length]; exact hu) (be_get' 2 n) ⟨hkp.os, hkp.tape, hkp.output, hkp.size, hkp.block⟩
        clear hB4 hb4 hsz4
        have hwn : IntKind.u16.wrap (n : Int) = n := by simp [IntKind.wrap, IntKind.bits, IntKind.signed]; omega
        go_region_with ((with_reducible refine (unhide HP).mono ?_); rintro e w6 ⟨rfl, cs', hb', hu, hkp⟩; have HB6 := hide (unhide HN w6 cs' hb' hu hkp); clear hb' hu hkp)
        clear hwn HP HN c0 c1 c2 c3 c4 c5 c6 c7 c8 cs4
        go_upto_region 19 with fail
        refine wp_abs (fun w4 => Bts w w4 g (wcells false r o mk M n) ([B0 false r o, B1 false n] ++ be 2 n)) ?_ ?_
        · exact unhide HB6
        clear HB6
        rintro w4 hB4
        have HX : Hid (ext n = be 2 n) := by show ext n = _; rw [ext, if_neg h1, if_pos h2]
        obtain ⟨c0, c1, c2, c3, c4, c5, c6, c7, c8⟩ := row9 hB4.hdr
        obtain ⟨cs4, hb4, hsz4⟩ := id hB4.row
        have d1 : w4.cell? ⟨g, 1, none⟩ = some (bv (B1 false n)) := hB4.byt 1 (by simp)
        have f1 := hb4.frozen 1
        have hBu : BufAt w4.drew B base v xs := (unhide H).on hB4.kp.drew
        have hlb : base ≤ w4.heap.size := Nat.le_trans hbase hB4.kp.size
        have hX : hbytes false r o mk M n = B0 false r o :: B1 mk n :: (be 2 n ++ tail4 mk M) := by rw [hbytes, unhide HX]
        have HX2 := hide hX
        clear hX HX
        have e7 : bits .or .u8 ((B1 false n).toNat : Int) 128 = ((B1 true n).toNat : Int) := by rw [B1_int, B1_int]; have := or_x (L7 n) (L7_lt n); simpa [Int.add_comm] using this
        have hnw := nil_write B
        cases mk
        · have hw := bufWrite w4.drew B base v xs hBu w4.heap.size (some ⟨g, 0, none⟩) 14 ([B0 false r o, B1 false n] ++ be 2 n) (Rd.of_byt hB4.byt hb4.lt) (by simp [be_length]; omega) hlb
          rw [show ([B0 false r o, B1 false n] ++ be 2 n).length = 4 from by simp [be_length]] at hw
          have HW := hide hw
          have HB4 := hide hB4
          clear hw hBu hb4 d1 f1 e7 hB4
          go_upto_region 22 with fail
          go_region_with ((with_reducible refine (unhide HW).mono ?_); rintro e w5 ⟨rfl, v5, hq1, hq2, hq3⟩; have HQ := hide (And.intro hq1 (And.intro hq2 hq3)); clear hq1 hq2 hq3)
          go_wp2_with fail
          go_ret
          exact whd_end (by rw [unhide HX2]; simp [tail4]) (unhide HB4) (unhide HQ).1 (unhide HQ).2.1 (unhide HQ).2.2 (by simp)
        · have HB4 := hide hB4
          clear hBu hb4 hB4
          go_upto_region 21 with fail
          refine wp_abs (fun w5 => Bts w w5 g (wcells false r o true M n) ([B0 false r o, B1 true n] ++ be 2 n)) ((unhide HB4).second hg0) ?_
          clear c0 c1 c2 c3 c4 c5 c6 c7 c8 d1 f1 HB4 hsz4 hlb e7
          clear cs4
          rintro w5 hB5
          obtain ⟨cs5, hb5, hsz5⟩ := id hB5.row
          have HG : Hid (w5.drew.heap[g]? = some (.cells cs5.toList.toArray 5 (0, 0))) := by show w5.heap[g]? = some (.cells cs5.toList.toArray 5 (0, 0)); rw [Array.toArray_toList]; exact hb5
          have HM := hide (mask_src (w := w5.drew) hB5.hdr)
          have HM2 : Hid (∀ w6 : World, Hid (w6.heap[g]? = some (.cells (splice cs5.toList 4 [bv (M 0), bv (M 1), bv (M 2), bv (M 3)]).toArray 5 (0, 0))) → Below g w5.drew w6 → Bts w w6 g (wcells false r o true M n) (([B0 false r o, B1 true n] ++ be 2 n) ++ [M 0, M 1, M 2, M 3])) := fun w6 h6 hbel =>
            hB5.mask hb5 hsz5 hg0 (by simp [be_length]) (by omega) h6 ⟨hbel.os, hbel.tape, hbel.output, hbel.size, hbel.block⟩
          have HMIN : Hid ([bv (M 0), bv (M 1), bv (M 2), bv (M 3)].length = Nat.min 4 10) := rfl
          have HONE : Hid (∀ v ∈ [bv (M 0), bv (M 1), bv (M 2), bv (M 3)], v.oneCell' = true) := oneCell_bytes [M 0, M 1, M 2, M 3]
          have HFIT : Hid (4 + [bv (M 0), bv (M 1), bv (M 2), bv (M 3)].length ≤ cs5.toList.length) := by show _ ≤ _; simp [hsz5]
          have HBE : Hid (Below g w5.drew w5.drew) := Below.refl _ _
          clear hsz5 hb5 hB5
          go_region_law (with_reducible refine step_copy_splice rfl (.tmp 76) (.tmp 78) 22 22 rfl 5 Tryd.underlying22 sized5 (some ⟨g, 4, none⟩) (some ⟨w.heap.size, 4, none⟩) 10 10 4 4 (by kernel_rfl) (by kernel_rfl) g 4 cs5.toList 5 (unhide HG) [bv (M 0), bv (M 1), bv (M 2), bv (M 3)] (unhide HMIN) (fun _ => ⟨rfl, _, rfl, unhide HM⟩) (unhide HFIT) (unhide HONE) g w5.drew (unhide HBE) (Nat.le_refl _) ?_; intro w6 hg6 hbel6; have HB6 := hide (unhide HM2 w6 hg6 hbel6); clear hg6 hbel6)
          clear HG HM HM2 HMIN HONE HFIT HBE
          go_upto_region 22 with fail
          refine wp_abs (fun w7 => Bts w w7 g (wcells false r o true M n) (([B0 false r o, B1 true n] ++ be 2 n) ++ [M 0, M 1, M 2, M 3])) (unhide HB6) ?_
          clear HB6
          rintro w7 hB7
          obtain ⟨cs7, hb7, _⟩ := id hB7.row
          have hw := bufWrite w7.drew B base v xs ((unhide H).on hB7.kp.drew) w7.heap.size (some ⟨g, 0, none⟩) 14 (([B0 false r o, B1 true n] ++ be 2 n) ++ [M 0, M 1, M 2, M 3]) (Rd.of_byt hB7.byt hb7.lt) (by simp [be_length]; omega) (Nat.le_trans hbase hB7.kp.size)
          rw [show (([B0 false r o, B1 true n] ++ be 2 n) ++ [M 0, M 1, M 2, M 3]).length = 8 from by simp [be_length]] at hw
          have HW := hide hw
          have HB7 := hide hB7
          have hwr : IntKind.i64.wrap 8 = 8 := by decide
          clear hw hb7 hB7
          go_region_with ((with_reducible refine (unhide HW).mono ?_); rintro e w8 ⟨rfl, v8, hq1, hq2, hq3⟩; have HQ := hide (And.intro hq1 (And.intro hq2 hq3)); clear hq1 hq2 hq3)
          go_wp2_with fail
          go_ret
          exact whd_end (by rw [unhide HX2]; simp [tail4]) (unhide HB7) (unhide HQ).1 (unhide HQ).2.1 (unhide HQ).2.2 (by simp)
      · go_upto_region 17 with fail
        have hv : bv (B1 false n) = .int .u8 127 := by
          show Value.int .u8 _ = _
          rw [B1_int, L7, if_neg h1, if_neg h2]
          rfl
        refine wp_abs (fun w4 => Bts w w4 g (wcells false r o mk M n) [B0 false r o, B1 false n]) ?_ ?_
        · rw [← hv]
          exact unhide HS1 _
        clear c0 c1 c2 c3 c4 c5 c6 c7 c8 d0 d1 f0 f1 p3 p5 hg2 hv HS1
        rintro w4 hB4
        obtain ⟨c0, c1, c2, c3, c4, c5, c6, c7, c8⟩ := row9 hB4.hdr
        obtain ⟨cs4, hb4, hsz4⟩ := id hB4.row
        have HP := hide (bePutUint64_any w4.drew g 2 8 12 n 5 cs4 (Nat.le_refl _) (by omega) (by omega) hb4 (by omega))
        have HN : Hid (∀ w6 cs', Blk w6 g 5 cs' → Upd cs4 cs' 2 8 (fun i => digit n (8 - 1 - i)) → Kp (· ≠ g) w4.drew w6 → Bts w w6 g (wcells false r o mk M n) ([B0 false r o, B1 false n] ++ be 8 n)) := fun w6 cs' hb' hu hkp =>
          hB4.behind (es := be 8 n) hb4 hsz4 hg0 rfl hb' (by rw [be_length]; exact hu) (be_get' 8 n) ⟨hkp.os, hkp.tape, hkp.output, hkp.size, hkp.block⟩
        clear hB4 hb4 hsz4
        have hwn : IntKind.u64.wrap (n : Int) = n := by simp [IntKind.wrap, IntKind.bits, IntKind.signed]; omega
        go_region_with ((with_reducible refine (unhide HP).mono ?_); rintro e w6 ⟨rfl, cs', hb', hu, hkp⟩; have HB6 := hide (unhide HN w6 cs' hb' hu hkp); clear hb' hu hkp)
        clear hwn HP HN c0 c1 c2 c3 c4 c5 c6 c7 c8 cs4
        go_upto_region 19 with fail
        refine wp_abs (fun w4 => Bts w w4 g (wcells false r o mk M n) ([B0 false r o, B1 false n] ++ be 8 n)) ?_ ?_
        · exact unhide HB6
        clear HB6
        rintro w4 hB4
        have HX : Hid (ext n = be 8 n) := by show ext n = _; rw [ext, if_neg h1, if_neg h2]
        obtain ⟨c0, c1, c2, c3, c4, c5, c6, c7, c8⟩ := row9 hB4.hdr
        obtain ⟨cs4, hb4, hsz4⟩ := id hB4.row
        have d1 : w4.cell? ⟨g, 1, none⟩ = some (bv (B1 false n)) := hB4.byt 1 (by simp)
        have f1 := hb4.frozen 1
        have hBu : BufAt w4.drew B base v xs := (unhide H).on hB4.kp.drew
        have hlb : base ≤ w4.heap.size := Nat.le_trans hbase hB4.kp.size
        have hX : hbytes false r o mk M n = B0 false r o :: B1 mk n :: (be 8 n ++ tail4 mk M) := by rw [hbytes, unhide HX]
        have HX2 := hide hX
        clear hX HX
        have e7 : bits .or .u8 ((B1 false n).toNat : Int) 128 = ((B1 true n).toNat : Int) := by rw [B1_int, B1_int]; have := or_x (L7 n) (L7_lt n); simpa [Int.add_comm] using this
        have hnw := nil_write B
        cases mk
        · have hw := bufWrite w4.drew B base v xs hBu w4.heap.size (some ⟨g, 0, none⟩) 14 ([B0 false r o, B1 false n] ++ be 8 n) (Rd.of_byt hB4.byt hb4.lt) (by simp [be_length]; omega) hlb
          rw [show ([B0 false r o, B1 false n] ++ be 8 n).length = 10 from by simp [be_length]] at hw
          have HW := hide hw
          have HB4 := hide hB4
          clear hw hBu hb4 d1 f1 e7 hB4
          go_upto_region 22 with fail
          go_region_with ((with_reducible refine (unhide HW).mono ?_); rintro e w5 ⟨rfl, v5, hq1, hq2, hq3⟩; have HQ := hide (And.intro hq1 (And.intro hq2 hq3)); clear hq1 hq2 hq3)
          go_wp2_with fail
          go_ret
          exact whd_end (by rw [unhide HX2]; simp [tail4]) (unhide HB4) (unhide HQ).1 (unhide HQ).2.1 (unhide HQ).2.2 (by simp)
        · have HB4 := hide hB4
          clear hBu hb4 hB4
          go_upto_region 21 with fail
          refine wp_abs (fun w5 => Bts w w5 g (wcells false r o true M n) ([B0 false r o, B1 true n] ++ be 8 n)) ((unhide HB4).second hg0) ?_
          clear c0 c1 c2 c3 c4 c5 c6 c7 c8 d1 f1 HB4 hsz4 hlb e7
          clear cs4
          rintro w5 hB5
          obtain ⟨cs5, hb5, hsz5⟩ := id hB5.row
          have HG : Hid (w5.drew.heap[g]? = some (.cells cs5.toList.toArray 5 (0, 0))) := by show w5.heap[g]? = some (.cells cs5.toList.toArray 5 (0, 0)); rw [Array.toArray_toList]; exact hb5
          have HM := hide (mask_src (w := w5.drew) hB5.hdr)
          have HM2 : Hid (∀ w6 : World, Hid (w6.heap[g]? = some (.cells (splice cs5.toList 10 [bv (M 0), bv (M 1), bv (M 2), bv (M 3)]).toArray 5 (0, 0))) → Below g w5.drew w6 → Bts w w6 g (wcells false r o true M n) (([B0 false r o, B1 true n] ++ be 8 n) ++ [M 0, M 1, M 2, M 3])) := fun w6 h6 hbel =>
            hB5.mask hb5 hsz5 hg0 (by simp [be_length]) (by omega) h6 ⟨hbel.os, hbel.tape, hbel.output, hbel.size, hbel.block⟩
          have HMIN : Hid ([bv (M 0), bv (M 1), bv (M 2), bv (M 3)].length = Nat.min 4 4) := rfl
          have HONE : Hid (∀ v ∈ [bv (M 0), bv (M 1), bv (M 2), bv (M 3)], v.oneCell' = true) := oneCell_bytes [M 0, M 1, M 2, M 3]
          have HFIT : Hid (10 + [bv (M 0), bv (M 1), bv (M 2), bv (M 3)].length ≤ cs5.toList.length) := by show _ ≤ _; simp [hsz5]
          have HBE : Hid (Below g w5.drew w5.drew) := Below.refl _ _
          clear hsz5 hb5 hB5
          go_region_law (with_reducible refine step_copy_splice rfl (.tmp 76) (.tmp 78) 22 22 rfl 5 Tryd.underlying22 sized5 (some ⟨g, 10, none⟩) (some ⟨w.heap.size, 4, none⟩) 4 4 4 4 (by kernel_rfl) (by kernel_rfl) g 10 cs5.toList 5 (unhide HG) [bv (M 0), bv (M 1), bv (M 2), bv (M 3)] (unhide HMIN) (fun _ => ⟨rfl, _, rfl, unhide HM⟩) (unhide HFIT) (unhide HONE) g w5.drew (unhide HBE) (Nat.le_refl _) ?_; intro w6 hg6 hbel6; have HB6 := hide (unhide HM2 w6 hg6 hbel6); clear hg6 hbel6)
          clear HG HM HM2 HMIN HONE HFIT HBE
          go_upto_region 22 with fail
          refine wp_abs (fun w7 => Bts w w7 g (wcells false r o true M n) (([B0 false r o, B1 true n] ++ be 8 n) ++ [M 0, M 1, M 2, M 3])) (unhide HB6) ?_
          clear HB6
          rintro w7 hB7
          obtain ⟨cs7, hb7, _⟩ := id hB7.row
          have hw := bufWrite w7.drew B base v xs ((unhide H).on hB7.kp.drew) w7.heap.size (some ⟨g, 0, none⟩) 14 (([B0 false r o, B1 true n] ++ be 8 n) ++ [M 0, M 1, M 2, M 3]) (Rd.of_byt hB7.byt hb7.lt) (by simp [be_length]; omega) (Nat.le_trans hbase hB7.kp.size)
          rw [show (([B0 false r o, B1 true n] ++ be 8 n) ++ [M 0, M 1, M 2, M 3]).length = 14 from by simp [be_length]] at hw
          have HW := hide hw
          have HB7 := hide hB7
          have hwr : IntKind.i64.wrap 14 = 14 := by decide
          clear hw hb7 hB7
          go_region_with ((with_reducible refine (unhide HW).mono ?_); rintro e w8 ⟨rfl, v8, hq1, hq2, hq3⟩; have HQ := hide (And.intro hq1 (And.intro hq2 hq3)); clear hq1 hq2 hq3)
          go_wp2_with fail
          go_ret
          exact whd_end (by rw [unhide HX2]; simp [tail4]) (unhide HB7) (unhide HQ).1 (unhide HQ).2.1 (unhide HQ).2.2 (by simp)
  · go_upto_region 4 with fail
    go_region
    go_upto_region 5 with fail
    go_region
    go_upto_region 6 with fail
    have hv : bv (B0 true r o) = .int .u8 (128 + (r : Int) * 16 + o) := by
      show Value.int .u8 _ = _
      rw [unhide HB0]
      congr 1
      simp
      omega
    refine wp_abs (fun w3 => Blk w3 w.heap.size 78 (wcells true r o mk M n) ∧ Blk w3 g 5 (bts (bv (B0 true r o)) (bv 0)) ∧ KT w w3) ⟨?_, ?_, ?_⟩ ?_
    · exact ((((p3).far (p := ⟨g, 0, none⟩) hg1 _).far (p := ⟨g, 0, none⟩) hg1 _).far (p := ⟨g, 0, none⟩) hg1 _).drew.drew
    · rw [hv]
      exact ((((p5).put 0 _).put 0 _).put 0 _).drew.drew
    · exact ((((hk2).setCell (p := ⟨g, 0, none⟩) (fun h => absurd h (by show ¬ g < w.heap.size; omega)) _).setCell (p := ⟨g, 0, none⟩) (fun h => absurd h (by show ¬ g < w.heap.size; omega)) _).setCell (p := ⟨g, 0, none⟩) (fun h => absurd h (by show ¬ g < w.heap.size; omega)) _).drew.drew
    clear c0 c1 c2 c3 c4 c5 c6 c7 c8 d0 d1 f0 f1 hk2 p3 p5 hg2 hv
    rintro w3 ⟨p3, p5, hk3⟩
    obtain ⟨c0, c1, c2, c3, c4, c5, c6, c7, c8⟩ := row9 p3
    have d0 := p5.cell 0
    have d1 := p5.cell 1
    have f0 := p5.frozen 0
    have f1 := p5.frozen 1
    have hg2 := p5.lt
    have hs1 : ∀ y : UInt8, Bts w (w3.setCell ⟨g, 1, none⟩ (bv y)) g (wcells true r o mk M n) [B0 true r o, y] := fun y =>
      ⟨⟨_, p5.set_ 1 _, rfl⟩, byt2 (Blk.put p5 1 _), p3.far (p := ⟨g, 1, none⟩) (show w.heap.size ≠ g by omega) _, hk3.setCell (p := ⟨g, 1, none⟩) (fun h => absurd h (by show ¬ g < w.heap.size; omega)) _⟩
    have HS1 := hide hs1
    clear hs1 hk3
    by_cases h1 : n < 126
    · go_upto_region 19 with fail
      have hv : bv (B1 false n) = .int .u8 n := by
        show Value.int .u8 _ = _
        rw [B1_int, L7, if_pos h1]
        congr 1
        simp
      refine wp_abs (fun w4 => Bts w w4 g (wcells true r o mk M n) ([B0 true r o, B1 false n] ++ ([] : List UInt8))) ?_ ?_
      · rw [List.append_nil, ← hv]
        exact unhide HS1 _
      clear HS1 c0 c1 c2 c3 c4 c5 c6 c7 c8 d0 d1 f0 f1 p3 p5 hg2 hv
      rintro w4 hB4
      have HX : Hid (ext n = ([] : List UInt8)) := by show ext n = _; rw [ext, if_pos h1]
      obtain ⟨c0, c1, c2, c3, c4, c5, c6, c7, c8⟩ := row9 hB4.hdr
      obtain ⟨cs4, hb4, hsz4⟩ := id hB4.row
      have d1 : w4.cell? ⟨g, 1, none⟩ = some (bv (B1 false n)) := hB4.byt 1 (by simp)
      have f1 := hb4.frozen 1
      have hBu : BufAt w4.drew B base v xs := (unhide H).on hB4.kp.drew
      have hlb : base ≤ w4.heap.size := Nat.le_trans hbase hB4.kp.size
      have hX : hbytes true r o mk M n = B0 true r o :: B1 mk n :: (([] : List UInt8) ++ tail4 mk M) := by rw [hbytes, unhide HX]
      have HX2 := hide hX
      clear hX HX
      have e7 : bits .or .u8 ((B1 false n).toNat : Int) 128 = ((B1 true n).toNat : Int) := by rw [B1_int, B1_int]; have := or_x (L7 n) (L7_lt n); simpa [Int.add_comm] using this
      have hnw := nil_write B
      cases mk
      · have hw := bufWrite w4.drew B base v xs hBu w4.heap.size (some ⟨g, 0, none⟩) 14 ([B0 true r o, B1 false n] ++ ([] : List UInt8)) (Rd.of_byt hB4.byt hb4.lt) (by simp; omega) hlb
        rw [show ([B0 true r o, B1 false n] ++ ([] : List UInt8)).length = 2 from by simp] at hw
        have HW := hide hw
        have HB4 := hide hB4
        clear hw hBu hb4 d1 f1 e7 hB4
        go_upto_region 22 with fail
        go_region_with ((with_reducible refine (unhide HW).mono ?_); rintro e w5 ⟨rfl, v5, hq1, hq2, hq3⟩; have HQ := hide (And.intro hq1 (And.intro hq2 hq3)); clear hq1 hq2 hq3)
        go_wp2_with fail
        go_ret
        exact whd_end (by rw [unhide HX2]; simp [tail4]) (unhide HB4) (unhide HQ).1 (unhide HQ).2.1 (unhide HQ).2.2 (by simp)
      · have HB4 := hide hB4
        clear hBu hb4 hB4
        go_upto_region 21 with fail
        refine wp_abs (fun w5 => Bts w w5 g (wcells true r o true M n) ([B0 true r o, B1 true n] ++ ([] : List UInt8))) ((unhide HB4).second hg0) ?_
        clear c0 c1 c2 c3 c4 c5 c6 c7 c8 d1 f1 HB4 hsz4 hlb e7
        clear cs4
        rintro w5 hB5
        obtain ⟨cs5, hb5, hsz5⟩ := id hB5.row
        have HG : Hid (w5.drew.heap[g]? = some (.cells cs5.toList.toArray 5 (0, 0))) := by show w5.heap[g]? = some (.cells cs5.toList.toArray 5 (0, 0)); rw [Array.toArray_toList]; exact hb5
        have HM := hide (mask_src (w := w5.drew) hB5.hdr)
        have HM2 : Hid (∀ w6 : World, Hid (w6.heap[g]? = some (.cells (splice cs5.toList 2 [bv (M 0), bv (M 1), bv (M 2), bv (M 3)]).toArray 5 (0, 0))) → Below g w5.drew w6 → Bts w w6 g (wcells true r o true M n) (([B0 true r o, B1 true n] ++ ([] : List UInt8)) ++ [M 0, M 1, M 2, M 3])) := fun w6 h6 hbel =>
          hB5.mask hb5 hsz5 hg0 (by simp) (by omega) h6 ⟨hbel.os, hbel.tape, hbel.output, hbel.size, hbel.block⟩
        have HMIN : Hid ([bv (M 0), bv (M 1), bv (M 2), bv (M 3)].length = Nat.min 4 12) := rfl
        have HONE : Hid (∀ v ∈ [bv (M 0), bv (M 1), bv (M 2), bv (M 3)], v.oneCell' = true) := oneCell_bytes [M 0, M 1, M 2, M 3]
        have HFIT : Hid (2 + [bv (M 0), bv (M 1), bv (M 2), bv (M 3)].length ≤ cs5.toList.length) := by show _ ≤ _; simp [hsz5]
        have HBE : Hid (Below g w5.drew w5.drew) := Below.refl _ _
        clear hsz5 hb5 hB5
        go_region_law (with_reducible refine step_copy_splice rfl (.tmp 76) (.tmp 78) 22 22 rfl 5 Tryd.underlying22 sized5 (some ⟨g, 2, none⟩) (some ⟨w.heap.size, 4, none⟩) 12 12 4 4 (by kernel_rfl) (by kernel_rfl) g 2 cs5.toList 5 (unhide HG) [bv (M 0), bv (M 1), bv (M 2), bv (M 3)] (unhide HMIN) (fun _ => ⟨rfl, _, rfl, unhide HM⟩) (unhide HFIT) (unhide HONE) g w5.drew (unhide HBE) (Nat.le_refl _) ?_; intro w6 hg6 hbel6; have HB6 := hide (unhide HM2 w6 hg6 hbel6); clear hg6 hbel6)
        clear HG HM HM2 HMIN HONE HFIT HBE
        go_upto_region 22 with fail
        refine wp_abs (fun w7 => Bts w w7 g (wcells true r o true M n) (([B0 true r o, B1 true n] ++ ([] : List UInt8)) ++ [M 0, M 1, M 2, M 3])) (unhide HB6) ?_
        clear HB6
        rintro w7 hB7
        obtain ⟨cs7, hb7, _⟩ := id hB7.row
        have hw := bufWrite w7.drew B base v xs ((unhide H).on hB7.kp.drew) w7.heap.size (some ⟨g, 0, none⟩) 14 (([B0 true r o, B1 true n] ++ ([] : List UInt8)) ++ [M 0, M 1, M 2, M 3]) (Rd.of_byt hB7.byt hb7.lt) (by simp; omega) (Nat.le_trans hbase hB7.kp.size)
        rw [show (([B0 true r o, B1 true n] ++ ([] : List UInt8)) ++ [M 0, M 1, M 2, M 3]).length = 6 from by simp] at hw
        have HW := hide hw
        have HB7 := hide hB7
        have hwr : IntKind.i64.wrap 6 = 6 := by decide
        clear hw hb7 hB7
        go_region_with ((with_reducible refine (unhide HW).mono ?_); rintro e w8 ⟨rfl, v8, hq1, hq2, hq3⟩; have HQ := hide (And.intro hq1 (And.intro hq2 hq3)); clear hq1 hq2 hq3)
        go_wp2_with fail
        go_ret
        exact whd_end (by rw [unhide HX2]; simp [tail4]) (unhide HB7) (unhide HQ).1 (unhide HQ).2.1 (unhide HQ).2.2 (by simp)
    · by_cases h2 : n < 65536
      · go_upto_region 13 with fail
        have hv : bv (B1 false n) = .int .u8 126 := by
          show Value.int .u8 _ = _
          rw [B1_int, L7, if_neg h1, if_pos h2]
          rfl
        refine wp_abs (fun w4 => Bts w w4 g (wcells true r o mk M n) [B0 true r o, B1 false n]) ?_ ?_
        · rw [← hv]
          exact unhide HS1 _
        clear c0 c1 c2 c3 c4 c5 c6 c7 c8 d0 d1 f0 f1 p3 p5 hg2 hv HS1
        rintro w4 hB4
        obtain ⟨c0, c1, c2, c3, c4, c5, c6, c7, c8⟩ := row9 hB4.hdr
        obtain ⟨cs4, hb4, hsz4⟩ := id hB4.row
        have HP := hide (bePutUint16_any w4.drew g 2 2 12 n 5 cs4 (Nat.le_refl _) (by omega) (by omega) hb4 (by omega))
        have HN : Hid (∀ w6 cs', Blk w6 g 5 cs' → Upd cs4 cs' 2 2 (fun i => digit n (2 - 1 - i)) → Kp (· ≠ g) w4.drew w6 → Bts w w6 g (wcells true r o mk M n) ([B0 true r o, B1 false n] ++ be 2 n)) := fun w6 cs' hb' hu hkp =>
          hB4.behind (es := be 2 n) hb4 hsz4 hg0 rfl hb' (by rw [be_length]; exact hu) (be_get' 2 n) ⟨hkp.os, hkp.tape, hkp.output, hkp.size, hkp.block⟩
        clear hB4 hb4 hsz4
        have hwn : IntKind.u16.wrap (n : Int) = n := by simp [IntKind.wrap, IntKind.bits, IntKind.signed]; omega
        go_region_with ((with_reducible refine (unhide HP).mono ?_); rintro e w6 ⟨rfl, cs', hb', hu, hkp⟩; have HB6 := hide (unhide HN w6 cs' hb' hu hkp); clear hb' hu hkp)
        clear hwn HP HN c0 c1 c2 c3 c4 c5 c6 c7 c8 cs4
        go_upto_region 19 with fail
        refine wp_abs (fun w4 => Bts w w4 g (wcells true r o mk M n) ([B0 true r o, B1 false n] ++ be 2 n)) ?_ ?_
        · exact unhide HB6
        clear HB6
        rintro w4 hB4
        have HX : Hid (ext n = be 2 n) := by show ext n = _; rw [ext, if_neg h1, if_pos h2]
        obtain ⟨c0, c1, c2, c3, c4, c5, c6, c7, c8⟩ := row9 hB4.hdr
        obtain ⟨cs4, hb4, hsz4⟩ := id hB4.row
        have d1 : w4.cell? ⟨g, 1, none⟩ = some (bv (B1 false n)) := hB4.byt 1 (by simp)
        have f1 := hb4.frozen 1
        have hBu : BufAt w4.drew B base v xs := (unhide H).on hB4.kp.drew
        have hlb : base ≤ w4.heap.size := Nat.le_trans hbase hB4.kp.size
        have hX : hbytes true r o mk M n = B0 true r o :: B1 mk n :: (be 2 n ++ tail4 mk M) := by rw [hbytes, unhide HX]
        have HX2 := hide hX
        clear hX HX
        have e7 : bits .or .u8 ((B1 false n).toNat : Int) 128 = ((B1 true n).toNat : Int) := by rw [B1_int, B1_int]; have := or_x (L7 n) (L7_lt n); simpa [Int.add_comm] using this
        have hnw := nil_write B
        cases mk
        · have hw := bufWrite w4.drew B base v xs hBu w4.heap.size (some ⟨g, 0, none⟩) 14 ([B0 true r o, B1 false n] ++ be 2 n) (Rd.of_byt hB4.byt hb4.lt) (by simp [be_length]; omega) hlb
          rw [show ([B0 true r o, B1 false n] ++ be 2 n).length = 4 from by simp [be_length]] at hw
          have HW := hide hw
          have HB4 := hide hB4
          clear hw hBu hb4 d1 f1 e7 hB4
          go_upto_region 22 with fail
          go_region_with ((with_reducible refine (unhide HW).mono ?_); rintro e w5 ⟨rfl, v5, hq1, hq2, hq3⟩; have HQ := hide (And.intro hq1 (And.intro hq2 hq3)); clear hq1 hq2 hq3)
          go_wp2_with fail
          go_ret
          exact whd_end (by rw [unhide HX2]; simp [tail4]) (unhide HB4) (unhide HQ).1 (unhide HQ).2.1 (unhide HQ).2.2 (by simp)
        · have HB4 := hide hB4
          clear hBu hb4 hB4
          go_upto_region 21 with fail
          refine wp_abs (fun w5 => Bts w w5 g (wcells true r o true M n) ([B0 true r o, B1 true n] ++ be 2 n)) ((unhide HB4).second hg0) ?_
          clear c0 c1 c2 c3 c4 c5 c6 c7 c8 d1 f1 HB4 hsz4 hlb e7
          clear cs4
          rintro w5 hB5
          obtain ⟨cs5, hb5, hsz5⟩ := id hB5.row
          have HG : Hid (w5.drew.heap[g]? = some (.cells cs5.toList.toArray 5 (0, 0))) := by show w5.heap[g]? = some (.cells cs5.toList.toArray 5 (0, 0)); rw [Array.toArray_toList]; exact hb5
          have HM := hide (mask_src (w := w5.drew) hB5.hdr)
          have HM2 : Hid (∀ w6 : World, Hid (w6.heap[g]? = some (.cells (splice cs5.toList 4 [bv (M 0), bv (M 1), bv (M 2), bv (M 3)]).toArray 5 (0, 0))) → Below g w5.drew w6 → Bts w w6 g (wcells true r o true M n) (([B0 true r o, B1 true n] ++ be 2 n) ++ [M 0, M 1, M 2, M 3])) := fun w6 h6 hbel =>
            hB5.mask hb5 hsz5 hg0 (by simp [be_length]) (by omega) h6 ⟨hbel.os, hbel.tape, hbel.output, hbel.size, hbel.block⟩
          have HMIN : Hid ([bv (M 0), bv (M 1), bv (M 2), bv (M 3)].length = Nat.min 4 10) := rfl
          have HONE : Hid (∀ v ∈ [bv (M 0), bv (M 1), bv (M 2), bv (M 3)], v.oneCell' = true) := oneCell_bytes [M 0, M 1, M 2, M 3]
          have HFIT : Hid (4 + [bv (M 0), bv (M 1), bv (M 2), bv (M 3)].length ≤ cs5.toList.length) := by show _ ≤ _; simp [hsz5]
          have HBE : Hid (Below g w5.drew w5.drew) := Below.refl _ _
          clear hsz5 hb5 hB5
          go_region_law (with_reducible refine step_copy_splice rfl (.tmp 76) (.tmp 78) 22 22 rfl 5 Tryd.underlying22 sized5 (some ⟨g, 4, none⟩) (some ⟨w.heap.size, 4, none⟩) 10 10 4 4 (by kernel_rfl) (by kernel_rfl) g 4 cs5.toList 5 (unhide HG) [bv (M 0), bv (M 1), bv (M 2), bv (M 3)] (unhide HMIN) (fun _ => ⟨rfl, _, rfl, unhide HM⟩) (unhide HFIT) (unhide HONE) g w5.drew (unhide HBE) (Nat.le_refl _) ?_; intro w6 hg6 hbel6; have HB6 := hide (unhide HM2 w6 hg6 hbel6); clear hg6 hbel6)
          clear HG HM HM2 HMIN HONE HFIT HBE
          go_upto_region 22 with fail
          refine wp_abs (fun w7 => Bts w w7 g (wcells true r o true M n) (([B0 true r o, B1 true n] ++ be 2 n) ++ [M 0, M 1, M 2, M 3])) (unhide HB6) ?_
          clear HB6
          rintro w7 hB7
          obtain ⟨cs7, hb7, _⟩ := id hB7.row
          have hw := bufWrite w7.drew B base v xs ((unhide H).on hB7.kp.drew) w7.heap.size (some ⟨g, 0, none⟩) 14 (([B0 true r o, B1 true n] ++ be 2 n) ++ [M 0, M 1, M 2, M 3]) (Rd.of_byt hB7.byt hb7.lt) (by simp [be_length]; omega) (Nat.le_trans hbase hB7.kp.size)
          rw [show (([B0 true r o, B1 true n] ++ be 2 n) ++ [M 0, M 1, M 2, M 3]).length = 8 from by simp [be_length]] at hw
          have HW := hide hw
          have HB7 := hide hB7
          have hwr : IntKind.i64.wrap 8 = 8 := by decide
          clear hw hb7 hB7
          go_region_with ((with_reducible refine (unhide HW).mono ?_); rintro e w8 ⟨rfl, v8, hq1, hq2, hq3⟩; have HQ := hide (And.intro hq1 (And.intro hq2 hq3)); clear hq1 hq2 hq3)
          go_wp2_with fail
          go_ret
          exact whd_end (by rw [unhide HX2]; simp [tail4]) (unhide HB7) (unhide HQ).1 (unhide HQ).2.1 (unhide HQ).2.2 (by simp)
      · go_upto_region 17 with fail
        have hv : bv (B1 false n) = .int .u8 127 := by
          show Value.int .u8 _ = _
          rw [B1_int, L7, if_neg h1, if_neg h2]
          rfl
        refine wp_abs (fun w4 => Bts w w4 g (wcells true r o mk M n) [B0 true r o, B1 false n]) ?_ ?_
        · rw [← hv]
          exact unhide HS1 _
        clear c0 c1 c2 c3 c4 c5 c6 c7 c8 d0 d1 f0 f1 p3 p5 hg2 hv HS1
        rintro w4 hB4
        obtain ⟨c0, c1, c2, c3, c4, c5, c6, c7, c8⟩ := row9 hB4.hdr
        obtain ⟨cs4, hb4, hsz4⟩ := id hB4.row
        have HP := hide (bePutUint64_any w4.drew g 2 8 12 n 5 cs4 (Nat.le_refl _) (by omega) (by omega) hb4 (by omega))
        have HN : Hid (∀ w6 cs', Blk w6 g 5 cs' → Upd cs4 cs' 2 8 (fun i => digit n (8 - 1 - i)) → Kp (· ≠ g) w4.drew w6 → Bts w w6 g (wcells true r o mk M n) ([B0 true r o, B1 false n] ++ be 8 n)) := fun w6 cs' hb' hu hkp =>
          hB4.behind (es := be 8 n) hb4 hsz4 hg0 rfl hb' (by rw [be_length]; exact hu) (be_get' 8 n) ⟨hkp.os, hkp.tape, hkp.output, hkp.size, hkp.block⟩
        clear hB4 hb4 hsz4
        have hwn : IntKind.u64.wrap (n : Int) = n := by simp [IntKind.wrap, IntKind.bits, IntKind.signed]; omega
        go_region_with ((with_reducible refine (unhide HP).mono ?_); rintro e w6 ⟨rfl, cs', hb', hu, hkp⟩; have HB6 := hide (unhide HN w6 cs' hb' hu hkp); clear hb' hu hkp)
        clear hwn HP HN c0 c1 c2 c3 c4 c5 c6 c7 c8 cs4
        go_upto_region 19 with fail
        refine wp_abs (fun w4 => Bts w w4 g (wcells true r o mk M n) ([B0 true r o, B1 false n] ++ be 8 n)) ?_ ?_
        · exact unhide HB6
        clear HB6
        rintro w4 hB4
        have HX : Hid (ext n = be 8 n) := by show ext n = _; rw [ext, if_neg h1, if_neg h2]
        obtain ⟨c0, c1, c2, c3, c4, c5, c6, c7, c8⟩ := row9 hB4.hdr
        obtain ⟨cs4, hb4, hsz4⟩ := id hB4.row
        have d1 : w4.cell? ⟨g, 1, none⟩ = some (bv (B1 false n)) := hB4.byt 1 (by simp)
        have f1 := hb4.frozen 1
        have hBu : BufAt w4.drew B base v xs := (unhide H).on hB4.kp.drew
        have hlb : base ≤ w4.heap.size := Nat.le_trans hbase hB4.kp.size
        have hX : hbytes true r o mk M n = B0 true r o :: B1 mk n :: (be 8 n ++ tail4 mk M) := by rw [hbytes, unhide HX]
        have HX2 := hide hX
        clear hX HX
        have e7 : bits .or .u8 ((B1 false n).toNat : Int) 128 = ((B1 true n).toNat : Int) := by rw [B1_int, B1_int]; have := or_x (L7 n) (L7_lt n); simpa [Int.add_comm] using this
        have hnw := nil_write B
        cases mk
        · have hw := bufWrite w4.drew B base v xs hBu w4.heap.size (some ⟨g, 0, none⟩) 14 ([B0 true r o, B1 false n] ++ be 8 n) (Rd.of_byt hB4.byt hb4.lt) (by simp [be_length]; omega) hlb
          rw [show ([B0 true r o, B1 false n] ++ be 8 n).length = 10 from by simp [be_length]] at hw
          have HW := hide hw
          have HB4 := hide hB4
          clear hw hBu hb4 d1 f1 e7 hB4
          go_upto_region 22 with fail
          go_region_with ((with_reducible refine (unhide HW).mono ?_); rintro e w5 ⟨rfl, v5, hq1, hq2, hq3⟩; have HQ := hide (And.intro hq1 (And.intro hq2 hq3)); clear hq1 hq2 hq3)
          go_wp2_with fail
          go_ret
          exact whd_end (by rw [unhide HX2]; simp [tail4]) (unhide HB4) (unhide HQ).1 (unhide HQ).2.1 (unhide HQ).2.2 (by simp)
        · have HB4 := hide hB4
          clear hBu hb4 hB4
          go_upto_region 21 with fail
          refine wp_abs (fun w5 => Bts w w5 g (wcells true r o true M n) ([B0 true r o, B1 true n] ++ be 8 n)) ((unhide HB4).second hg0) ?_
          clear c0 c1 c2 c3 c4 c5 c6 c7 c8 d1 f1 HB4 hsz4 hlb e7
          clear cs4
          rintro w5 hB5
          obtain ⟨cs5, hb5, hsz5⟩ := id hB5.row
          have HG : Hid (w5.drew.heap[g]? = some (.cells cs5.toList.toArray 5 (0, 0))) := by show w5.heap[g]? = some (.cells cs5.toList.toArray 5 (0, 0)); rw [Array.toArray_toList]; exact hb5
          have HM := hide (mask_src (w := w5.drew) hB5.hdr)
          have HM2 : Hid (∀ w6 : World, Hid (w6.heap[g]? = some (.cells (splice cs5.toList 10 [bv (M 0), bv (M 1), bv (M 2), bv (M 3)]).toArray 5 (0, 0))) → Below g w5.drew w6 → Bts w w6 g (wcells true r o true M n) (([B0 true r o, B1 true n] ++ be 8 n) ++ [M 0, M 1, M 2, M 3])) := fun w6 h6 hbel =>
            hB5.mask hb5 hsz5 hg0 (by simp [be_length]) (by omega) h6 ⟨hbel.os, hbel.tape, hbel.output, hbel.size, hbel.block⟩
          have HMIN : Hid ([bv (M 0), bv (M 1), bv (M 2), bv (M 3)].length = Nat.min 4 4) := rfl
          have HONE : Hid (∀ v ∈ [bv (M 0), bv (M 1), bv (M 2), bv (M 3)], v.oneCell' = true) := oneCell_bytes [M 0, M 1, M 2, M 3]
          have HFIT : Hid (10 + [bv (M 0), bv (M 1), bv (M 2), bv (M 3)].length ≤ cs5.toList.length) := by show _ ≤ _; simp [hsz5]
          have HBE : Hid (Below g w5.drew w5.drew) := Below.refl _ _
          clear hsz5 hb5 hB5
          go_region_law (with_reducible refine step_copy_splice rfl (.tmp 76) (.tmp 78) 22 22 rfl 5 Tryd.underlying22 sized5 (some ⟨g, 10, none⟩) (some ⟨w.heap.size, 4, none⟩) 4 4 4 4 (by kernel_rfl) (by kernel_rfl) g 10 cs5.toList 5 (unhide HG) [bv (M 0), bv (M 1), bv (M 2), bv (M 3)] (unhide HMIN) (fun _ => ⟨rfl, _, rfl, unhide HM⟩) (unhide HFIT) (unhide HONE) g w5.drew (unhide HBE) (Nat.le_refl _) ?_; intro w6 hg6 hbel6; have HB6 := hide (unhide HM2 w6 hg6 hbel6); clear hg6 hbel6)
          clear HG HM HM2 HMIN HONE HFIT HBE
          go_upto_region 22 with fail
          refine wp_abs (fun w7 => Bts w w7 g (wcells true r o true M n) (([B0 true r o, B1 true n] ++ be 8 n) ++ [M 0, M 1, M 2, M 3])) (unhide HB6) ?_
          clear HB6
          rintro w7 hB7
          obtain ⟨cs7, hb7, _⟩ := id hB7.row
          have hw := bufWrite w7.drew B base v xs ((unhide H).on hB7.kp.drew) w7.heap.size (some ⟨g, 0, none⟩) 14 (([B0 true r o, B1 true n] ++ be 8 n) ++ [M 0, M 1, M 2, M 3]) (Rd.of_byt hB7.byt hb7.lt) (by simp [be_length]; omega) (Nat.le_trans hbase hB7.kp.size)
          rw [show (([B0 true r o, B1 true n] ++ be 8 n) ++ [M 0, M 1, M 2, M 3]).length = 14 from by simp [be_length]] at hw
          have HW := hide hw
          have HB7 := hide hB7
          have hwr : IntKind.i64.wrap 14 = 14 := by decide
          clear hw hb7 hB7
          go_region_with ((with_reducible refine (unhide HW).mono ?_); rintro e w8 ⟨rfl, v8, hq1, hq2, hq3⟩; have HQ := hide (And.intro hq1 (And.intro hq2 hq3)); clear hq1 hq2 hq3)
          go_wp2_with fail
          go_ret
          exact whd_end (by rw [unhide HX2]; simp [tail4]) (unhide HB7) (unhide HQ).1 (unhide HQ).2.1 (unhide HQ).2.2 (by simp)
end Go.Proofs.YtechapgchjdhaaaDoor
