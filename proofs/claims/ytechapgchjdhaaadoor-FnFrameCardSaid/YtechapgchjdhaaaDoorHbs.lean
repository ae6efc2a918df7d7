/- (spec.Header).Bytes: the walk. -/
import Derived.Test.YtechapgchjdhaaaDoorHby
import Derived.Test.YtechapgchjdhaaaDoorImk
namespace Go.Proofs.YtechapgchjdhaaaDoor
open Go.RowKit

theorem own_two (w : World) (base : Nat) (x y : UInt8) (hb : base ≤ w.heap.size) : Own (w.alloc (.cells #[bv x, bv y] 5)) base (.slice (some ⟨w.heap.size, 0, none⟩) 2 2) [x, y] :=
  ⟨rfl, Or.inr ⟨w.heap.size, 2, #[bv x, bv y], rfl, hb, heap_alloc_new w _, Nat.le_refl _, by simp [maxLen], rfl, rfl⟩⟩

/-- A slice of the call's own that is not nil, from a block on that no older one reaches. -/
def OwnN (w : World) (base : Nat) (v : Value) (bs : List UInt8) : Prop := Own w base v bs ∧ v ≠ .slice none 0 0

theorem OwnN.fresh {w w' : World} {base : Nat} {v : Value} {bs : List UInt8} (h : OwnN w' base v bs) (hb : w.heap.size ≤ base) (hk : KT w w') : Fresh w w' bs (.returned v) := by
  obtain ⟨g, rest, rfl, hg, hblk, hm⟩ := h.1.form h.2
  exact ⟨g, rest, rfl, by omega, hblk, hm, hk⟩

/-- What holds ahead of the loop over the length's bytes. -/
structure Hlp (w wr : World) (hc : Array Value) (pre E : List UInt8) (N k : Nat) (v i : Value) : Prop where
  own : OwnN wr (w.heap.size + 1) v (pre ++ E.take (N - k))
  idx : i = .int .i64 ((k : Int) - 1)
  le : k ≤ N
  blk : Blk wr w.heap.size 30 hc
  kp : KT w wr

theorem hlp_start (w : World) (hc : Array Value) (x y : UInt8) (E : List UInt8) (N : Nat) (a b : Int) (i : Value) (ha : (x.toNat : Int) = a) (hb : (y.toNat : Int) = b) (hi : i = .int .i64 ((N : Int) - 1)) :
    Hlp w ((w.alloc (.cells hc 30)).alloc (.cells #[.int .u8 a, .int .u8 b] 5)) hc [x, y] E N N (.slice (some ⟨w.heap.size + 1, 0, none⟩) 2 2) i := by
  subst ha hb
  have h := own_two (w.alloc (.cells hc 30)) (w.heap.size + 1) x y (by simp)
  rw [World.size_alloc] at h
  exact ⟨⟨by simpa using h, by simp⟩, hi, Nat.le_refl _, (Blk.new w 30 _).alloc _, ((KT.refl w).alloc _).alloc _⟩

theorem grown_kt {w wr w' : World} {base : Nat} {v : Value} {xs : List UInt8} (hk : KT w wr) (hown : Own wr base v xs) (hb : w.heap.size ≤ base) (hg : wr.grownBy w' v.ownBlock) : KT w w' :=
  hk.grown hg (fun g e hlt => by have := hown.lt g e; omega)
theorem Blk.grown {wr w' : World} {base g : Nat} {t : TypeId} {cs : Array Value} {v : Value} {xs : List UInt8} (h : Blk wr g t cs) (hown : Own wr base v xs) (hb : g < base) (hg : wr.grownBy w' v.ownBlock) : Blk w' g t cs :=
  (hg.block g h.lt (fun e => by have := hown.lt g e.symm; omega)).trans h

theorem rd_digit (wr : World) (n j : Nat) : Rd (wr.alloc (.cells #[.int .u8 ((n : Int) / 2 ^ (8 * j) % 256)] 5)) (wr.heap.size + 1) (some ⟨wr.heap.size, 0, none⟩) [digit n j] := by
  rw [digit_int]
  exact Rd.of_byt (Blk.byt (pre := []) (rest := []) rfl (Blk.new wr 5 _)) (by omega)
theorem take_short (x y : UInt8) (E : List UInt8) (k : Nat) {N : Nat} (hE : E.length = N) (hN : N ≤ 8) : ([x, y] ++ E.take k).length + [digit 0 0].length ≤ 140737488355328 := by
  simp
  omega

/-- A round: a byte more. -/
theorem Hlp.step {w wr w' : World} {hc : Array Value} {pre : List UInt8} {N n j : Nat} {v v' i : Value} {x : Obj} (h : Hlp w wr hc pre (be N n) N (j + 1) v i) (hown : Own w' (w.heap.size + 1) v' (pre ++ (be N n).take (N - (j + 1)) ++ [digit n j]))
    (hg : (wr.alloc x).grownBy w' v.ownBlock) (hnil : v' = .slice none 0 0 ↔ v = .slice none 0 0 ∧ 1 = 0) : Hlp w w' hc pre (be N n) N j v' (.int .i64 ((j : Int) - 1)) := by
  have hle := h.le
  have hm := h.own.1.alloc x
  refine ⟨⟨?_, fun e => by have := (hnil.1 e).2; omega⟩, rfl, by omega, (h.blk.alloc x).grown hm (by omega) hg, grown_kt (h.kp.alloc x) hm (by omega) hg⟩
  have := be_take N n (N - (j + 1)) (by omega)
  rw [show N - 1 - (N - (j + 1)) = j by omega, show N - (j + 1) + 1 = N - j by omega] at this
  rw [this, ← List.append_assoc]
  exact hown

theorem take_all4 (x y : UInt8) (E : List UInt8) (N : Nat) (a b c d : UInt8) (hE : E.length = N) (hN : N ≤ 8) : ([x, y] ++ E.take (N - 0)).length + [a, b, c, d].length ≤ 140737488355328 := by
  simp
  omega
theorem Hlp.last {w wr w' : World} {hc : Array Value} {pre E : List UInt8} {N k : Nat} {v v' i : Value} {a b c d : UInt8} (h : Hlp w wr hc pre E N k v i) (hown : Own w' (w.heap.size + 1) v' (pre ++ E.take (N - k) ++ [a, b, c, d]))
    (hg : wr.grownBy w' v.ownBlock) (hnil : v' = .slice none 0 0 ↔ v = .slice none 0 0 ∧ [a, b, c, d].length = 0) : OwnN w' (w.heap.size + 1) v' (pre ++ E.take (N - k) ++ [a, b, c, d]) ∧ KT w w' :=
  ⟨⟨hown, fun e => absurd (hnil.1 e).2 (by simp)⟩, grown_kt h.kp h.own.1 (by omega) hg⟩

set_option maxRecDepth 100000 in
set_option maxHeartbeats 8000000 in
theorem specBytes0 (w : World) (fin : Bool) (r o : Nat) (mk : Bool) (M : Nat → UInt8) (n : Nat) (hr : r < 8) (ho : o < 16) (h1 : n < 126) :
    Calls Tryd.prog 25 #[hval fin r o mk M n] w fun e w' => Fresh w w' (hbytes fin r o mk M n) e := by
  have e1 := or_i64 r hr o ho
  have e2 : bits .or .u8 ((r : Int) * 16 + o) 128 = (r : Int) * 16 + o + 128 := by have := or_128 (r * 16 + o) (by omega); push_cast at this; exact this
  have e3 := or_l n (by omega)
  have e4 := or_0 n (by omega)
  have e5 : (n : Int) % 256 = n := by omega
  have hB0 := B0_int fin r o hr ho
  have hB1 := B1_int mk n
  have hL : L7 n = n := by simp [L7, h1]
  rw [hL] at hB1
  have HB0 := hide hB0
  have HB1 := hide hB1
  clear hB0 hB1 hL
  obtain ⟨N, hN⟩ : ∃ N, N = 0 := ⟨_, rfl⟩
  have hN8 : N ≤ 8 := by omega
  have hext : ext n = be N n := by simp [ext, h1, hN, be]
  have HE : Hid (hbytes fin r o mk M n = [B0 fin r o, B1 mk n] ++ be N n ++ tail4 mk M) := by
    show hbytes fin r o mk M n = _
    rw [hbytes, hext]; simp
  have HN := hide hN
  have hd : decide ((n : Int) < 126) = true := by simp; omega
  clear hext hN h1
  have hmp : Hid (∀ wr : World, Blk wr w.heap.size 30 (hcells fin r o mk M n) → Byt wr w.heap.size 4 [M 0, M 1, M 2, M 3]) := fun wr h => Blk.byt (pre := [.bool fin, .int .i64 r, .int .i64 o, .bool mk]) (rest := [.int .i64 n]) rfl h
  cases fin <;> cases mk
  · go_enter Tryd.func25, Tryd.ntmps25
    go_wp2_with fail
    go_loopw [6, 7] (fun v i wr => ∃ k, Hlp w wr (hcells false r o false M n) [B0 false r o, B1 false n] (be N n) N k v i) (fun _ i _ => (intOf i + 1).toNat)
    case atStart => exact ⟨N, hlp_start w _ _ _ _ _ _ _ _ (by simpa using unhide HB0) (by simpa using unhide HB1) (by rw [unhide HN]; rfl)⟩
    case round =>
      obtain ⟨k, hh⟩ := hrel
      have hidx := hh.idx
      obtain ⟨c0, c1, c2, c3, c4, c5, c6, c7, c8⟩ := row9 hh.blk
      subst hidx
      rcases k with _ | j
      · have HH := hide hh
        clear hh
        go_wp2
        go_ret
        have hh := unhide HH
        have ht : [B0 false r o, B1 false n] ++ (be N n).take (N - 0) = hbytes false r o false M n := by
          rw [unhide HE, Nat.sub_zero, be_all]; simp [tail4]
        rw [← ht]
        exact hh.own.fresh (by omega) hh.kp
      · have hj : (((j + 1 : Nat) : Int) - 1) = (j : Int) := by omega
        have hle := hh.le
        have HH := hide hh
        clear hh
        rw [hj]
        have HR := hide (rd_digit wr n j)
        have HL := hide (take_short (B0 false r o) (B1 false n) (be N n) (N - (j + 1)) (be_length N n) hN8)
        go_wp2_with (at_builtin; refine wpList_append_bytes rfl (.tmp 47) (.tmp 54) rfl (w.heap.size + 1) u6 _ rfl ((unhide HH).own.1.alloc _) (wr.heap.size + 1) (some ⟨wr.heap.size, 0, none⟩) 1 1 [digit n j] rfl (unhide HR) rfl (unhide HL) (Nat.le_trans (unhide HH).blk.lt (by simp)) ?_; intro v1 w1 hown1 hg1 hnil1; have HS := hide ((unhide HH).step hown1 hg1 hnil1); clear hown1 hg1 hnil1)
        go_roundw
        case rel => exact ⟨j, unhide HS⟩
        case measure => simp [intOf]
  · go_enter Tryd.func25, Tryd.ntmps25
    go_wp2_with fail
    go_loopw [6, 7] (fun v i wr => ∃ k, Hlp w wr (hcells false r o true M n) [B0 false r o, B1 true n] (be N n) N k v i) (fun _ i _ => (intOf i + 1).toNat)
    case atStart => exact ⟨N, hlp_start w _ _ _ _ _ _ _ _ (by simpa using unhide HB0) (by simpa using unhide HB1) (by rw [unhide HN]; rfl)⟩
    case round =>
      obtain ⟨k, hh⟩ := hrel
      have hidx := hh.idx
      obtain ⟨c0, c1, c2, c3, c4, c5, c6, c7, c8⟩ := row9 hh.blk
      subst hidx
      rcases k with _ | j
      · have HH := hide hh
        clear hh
        have HL := hide (take_all4 (B0 false r o) (B1 true n) (be N n) N (M 0) (M 1) (M 2) (M 3) (be_length N n) hN8)
        go_wp2_with (at_builtin; refine wpList_append_bytes rfl (.tmp 58) (.tmp 60) rfl (w.heap.size + 1) u6 _ rfl (unhide HH).own.1 wr.heap.size (some ⟨w.heap.size, 4, none⟩) 4 4 [M 0, M 1, M 2, M 3] rfl (Rd.of_byt (unhide hmp wr (unhide HH).blk) (unhide HH).blk.lt) rfl (unhide HL) (unhide HH).blk.lt ?_; intro v1 w1 hown1 hg1 hnil1; have HS := hide ((unhide HH).last hown1 hg1 hnil1); clear hown1 hg1 hnil1)
        go_ret
        have ht : [B0 false r o, B1 true n] ++ (be N n).take (N - 0) ++ [M 0, M 1, M 2, M 3] = hbytes false r o true M n := by
          rw [unhide HE, Nat.sub_zero, be_all]; simp [tail4]
        rw [← ht]
        exact (unhide HS).1.fresh (by omega) (unhide HS).2
      · have hj : (((j + 1 : Nat) : Int) - 1) = (j : Int) := by omega
        have hle := hh.le
        have HH := hide hh
        clear hh
        rw [hj]
        have HR := hide (rd_digit wr n j)
        have HL := hide (take_short (B0 false r o) (B1 true n) (be N n) (N - (j + 1)) (be_length N n) hN8)
        go_wp2_with (at_builtin; refine wpList_append_bytes rfl (.tmp 47) (.tmp 54) rfl (w.heap.size + 1) u6 _ rfl ((unhide HH).own.1.alloc _) (wr.heap.size + 1) (some ⟨wr.heap.size, 0, none⟩) 1 1 [digit n j] rfl (unhide HR) rfl (unhide HL) (Nat.le_trans (unhide HH).blk.lt (by simp)) ?_; intro v1 w1 hown1 hg1 hnil1; have HS := hide ((unhide HH).step hown1 hg1 hnil1); clear hown1 hg1 hnil1)
        go_roundw
        case rel => exact ⟨j, unhide HS⟩
        case measure => simp [intOf]
  · go_enter Tryd.func25, Tryd.ntmps25
    go_wp2_with fail
    go_loopw [6, 7] (fun v i wr => ∃ k, Hlp w wr (hcells true r o false M n) [B0 true r o, B1 false n] (be N n) N k v i) (fun _ i _ => (intOf i + 1).toNat)
    case atStart => exact ⟨N, hlp_start w _ _ _ _ _ _ _ _ (by simpa using unhide HB0) (by simpa using unhide HB1) (by rw [unhide HN]; rfl)⟩
    case round =>
      obtain ⟨k, hh⟩ := hrel
      have hidx := hh.idx
      obtain ⟨c0, c1, c2, c3, c4, c5, c6, c7, c8⟩ := row9 hh.blk
      subst hidx
      rcases k with _ | j
      · have HH := hide hh
        clear hh
        go_wp2
        go_ret
        have hh := unhide HH
        have ht : [B0 true r o, B1 false n] ++ (be N n).take (N - 0) = hbytes true r o false M n := by
          rw [unhide HE, Nat.sub_zero, be_all]; simp [tail4]
        rw [← ht]
        exact hh.own.fresh (by omega) hh.kp
      · have hj : (((j + 1 : Nat) : Int) - 1) = (j : Int) := by omega
        have hle := hh.le
        have HH := hide hh
        clear hh
        rw [hj]
        have HR := hide (rd_digit wr n j)
        have HL := hide (take_short (B0 true r o) (B1 false n) (be N n) (N - (j + 1)) (be_length N n) hN8)
        go_wp2_with (at_builtin; refine wpList_append_bytes rfl (.tmp 47) (.tmp 54) rfl (w.heap.size + 1) u6 _ rfl ((unhide HH).own.1.alloc _) (wr.heap.size + 1) (some ⟨wr.heap.size, 0, none⟩) 1 1 [digit n j] rfl (unhide HR) rfl (unhide HL) (Nat.le_trans (unhide HH).blk.lt (by simp)) ?_; intro v1 w1 hown1 hg1 hnil1; have HS := hide ((unhide HH).step hown1 hg1 hnil1); clear hown1 hg1 hnil1)
        go_roundw
        case rel => exact ⟨j, unhide HS⟩
        case measure => simp [intOf]
  · go_enter Tryd.func25, Tryd.ntmps25
    go_wp2_with fail
    go_loopw [6, 7] (fun v i wr => ∃ k, Hlp w wr (hcells true r o true M n) [B0 true r o, B1 true n] (be N n) N k v i) (fun _ i _ => (intOf i + 1).toNat)
    case atStart => exact ⟨N, hlp_start w _ _ _ _ _ _ _ _ (by simpa using unhide HB0) (by simpa using unhide HB1) (by rw [unhide HN]; rfl)⟩
    case round =>
      obtain ⟨k, hh⟩ := hrel
      have hidx := hh.idx
      obtain ⟨c0, c1, c2, c3, c4, c5, c6, c7, c8⟩ := row9 hh.blk
      subst hidx
      rcases k with _ | j
      · have HH := hide hh
        clear hh
        have HL := hide (take_all4 (B0 true r o) (B1 true n) (be N n) N (M 0) (M 1) (M 2) (M 3) (be_length N n) hN8)
        go_wp2_with (at_builtin; refine wpList_append_bytes rfl (.tmp 58) (.tmp 60) rfl (w.heap.size + 1) u6 _ rfl (unhide HH).own.1 wr.heap.size (some ⟨w.heap.size, 4, none⟩) 4 4 [M 0, M 1, M 2, M 3] rfl (Rd.of_byt (unhide hmp wr (unhide HH).blk) (unhide HH).blk.lt) rfl (unhide HL) (unhide HH).blk.lt ?_; intro v1 w1 hown1 hg1 hnil1; have HS := hide ((unhide HH).last hown1 hg1 hnil1); clear hown1 hg1 hnil1)
        go_ret
        have ht : [B0 true r o, B1 true n] ++ (be N n).take (N - 0) ++ [M 0, M 1, M 2, M 3] = hbytes true r o true M n := by
          rw [unhide HE, Nat.sub_zero, be_all]; simp [tail4]
        rw [← ht]
        exact (unhide HS).1.fresh (by omega) (unhide HS).2
      · have hj : (((j + 1 : Nat) : Int) - 1) = (j : Int) := by omega
        have hle := hh.le
        have HH := hide hh
        clear hh
        rw [hj]
        have HR := hide (rd_digit wr n j)
        have HL := hide (take_short (B0 true r o) (B1 true n) (be N n) (N - (j + 1)) (be_length N n) hN8)
        go_wp2_with (at_builtin; refine wpList_append_bytes rfl (.tmp 47) (.tmp 54) rfl (w.heap.size + 1) u6 _ rfl ((unhide HH).own.1.alloc _) (wr.heap.size + 1) (some ⟨wr.heap.size, 0, none⟩) 1 1 [digit n j] rfl (unhide HR) rfl (unhide HL) (Nat.le_trans (unhide HH).blk.lt (by simp)) ?_; intro v1 w1 hown1 hg1 hnil1; have HS := hide ((unhide HH).step hown1 hg1 hnil1); clear hown1 hg1 hnil1)
        go_roundw
        case rel => exact ⟨j, unhide HS⟩
        case measure => simp [intOf]

set_option maxRecDepth 100000 in
set_option maxHeartbeats 8000000 in
theorem specBytes2 (w : World) (fin : Bool) (r o : Nat) (mk : Bool) (M : Nat → UInt8) (n : Nat) (hr : r < 8) (ho : o < 16) (h1 : 126 ≤ n) (h2 : n < 65536) :
    Calls Tryd.prog 25 #[hval fin r o mk M n] w fun e w' => Fresh w w' (hbytes fin r o mk M n) e := by
  have e1 := or_i64 r hr o ho
  have e2 : bits .or .u8 ((r : Int) * 16 + o) 128 = (r : Int) * 16 + o + 128 := by have := or_128 (r * 16 + o) (by omega); push_cast at this; exact this
  have e3 : bits .or .u8 128 126 = 254 := by decide +kernel
  have e4 : bits .or .u8 0 126 = 126 := by decide +kernel
  have hB0 := B0_int fin r o hr ho
  have hB1 := B1_int mk n
  have hL : L7 n = 126 := by unfold L7; rw [if_neg (by omega), if_pos h2]
  rw [hL] at hB1
  have HB0 := hide hB0
  have HB1 := hide hB1
  clear hB0 hB1 hL
  obtain ⟨N, hN⟩ : ∃ N, N = 2 := ⟨_, rfl⟩
  have hN8 : N ≤ 8 := by omega
  have hext : ext n = be N n := by unfold ext; rw [if_neg (by omega), if_pos h2, hN]
  have HE : Hid (hbytes fin r o mk M n = [B0 fin r o, B1 mk n] ++ be N n ++ tail4 mk M) := by
    show hbytes fin r o mk M n = _
    rw [hbytes, hext]; simp
  have HN := hide hN
  have hd : decide ((n : Int) < 126) = false := by simp; omega
  have hd2 : decide ((n : Int) < 65536) = true := by simp; omega
  clear hext hN h1 h2
  have hmp : Hid (∀ wr : World, Blk wr w.heap.size 30 (hcells fin r o mk M n) → Byt wr w.heap.size 4 [M 0, M 1, M 2, M 3]) := fun wr h => Blk.byt (pre := [.bool fin, .int .i64 r, .int .i64 o, .bool mk]) (rest := [.int .i64 n]) rfl h
  cases fin <;> cases mk
  · go_enter Tryd.func25, Tryd.ntmps25
    go_wp2_with fail
    go_loopw [6, 7] (fun v i wr => ∃ k, Hlp w wr (hcells false r o false M n) [B0 false r o, B1 false n] (be N n) N k v i) (fun _ i _ => (intOf i + 1).toNat)
    case atStart => exact ⟨N, hlp_start w _ _ _ _ _ _ _ _ (by simpa using unhide HB0) (by simpa using unhide HB1) (by rw [unhide HN]; rfl)⟩
    case round =>
      obtain ⟨k, hh⟩ := hrel
      have hidx := hh.idx
      obtain ⟨c0, c1, c2, c3, c4, c5, c6, c7, c8⟩ := row9 hh.blk
      subst hidx
      rcases k with _ | j
      · have HH := hide hh
        clear hh
        go_wp2
        go_ret
        have hh := unhide HH
        have ht : [B0 false r o, B1 false n] ++ (be N n).take (N - 0) = hbytes false r o false M n := by
          rw [unhide HE, Nat.sub_zero, be_all]; simp [tail4]
        rw [← ht]
        exact hh.own.fresh (by omega) hh.kp
      · have hj : (((j + 1 : Nat) : Int) - 1) = (j : Int) := by omega
        have hle := hh.le
        have HH := hide hh
        clear hh
        rw [hj]
        have HR := hide (rd_digit wr n j)
        have HL := hide (take_short (B0 false r o) (B1 false n) (be N n) (N - (j + 1)) (be_length N n) hN8)
        go_wp2_with (at_builtin; refine wpList_append_bytes rfl (.tmp 47) (.tmp 54) rfl (w.heap.size + 1) u6 _ rfl ((unhide HH).own.1.alloc _) (wr.heap.size + 1) (some ⟨wr.heap.size, 0, none⟩) 1 1 [digit n j] rfl (unhide HR) rfl (unhide HL) (Nat.le_trans (unhide HH).blk.lt (by simp)) ?_; intro v1 w1 hown1 hg1 hnil1; have HS := hide ((unhide HH).step hown1 hg1 hnil1); clear hown1 hg1 hnil1)
        go_roundw
        case rel => exact ⟨j, unhide HS⟩
        case measure => simp [intOf]
  · go_enter Tryd.func25, Tryd.ntmps25
    go_wp2_with fail
    go_loopw [6, 7] (fun v i wr => ∃ k, Hlp w wr (hcells false r o true M n) [B0 false r o, B1 true n] (be N n) N k v i) (fun _ i _ => (intOf i + 1).toNat)
    case atStart => exact ⟨N, hlp_start w _ _ _ _ _ _ _ _ (by simpa using unhide HB0) (by simpa using unhide HB1) (by rw [unhide HN]; rfl)⟩
    case round =>
      obtain ⟨k, hh⟩ := hrel
      have hidx := hh.idx
      obtain ⟨c0, c1, c2, c3, c4, c5, c6, c7, c8⟩ := row9 hh.blk
      subst hidx
      rcases k with _ | j
      · have HH := hide hh
        clear hh
        have HL := hide (take_all4 (B0 false r o) (B1 true n) (be N n) N (M 0) (M 1) (M 2) (M 3) (be_length N n) hN8)
        go_wp2_with (at_builtin; refine wpList_append_bytes rfl (.tmp 58) (.tmp 60) rfl (w.heap.size + 1) u6 _ rfl (unhide HH).own.1 wr.heap.size (some ⟨w.heap.size, 4, none⟩) 4 4 [M 0, M 1, M 2, M 3] rfl (Rd.of_byt (unhide hmp wr (unhide HH).blk) (unhide HH).blk.lt) rfl (unhide HL) (unhide HH).blk.lt ?_; intro v1 w1 hown1 hg1 hnil1; have HS := hide ((unhide HH).last hown1 hg1 hnil1); clear hown1 hg1 hnil1)
        go_ret
        have ht : [B0 false r o, B1 true n] ++ (be N n).take (N - 0) ++ [M 0, M 1, M 2, M 3] = hbytes false r o true M n := by
          rw [unhide HE, Nat.sub_zero, be_all]; simp [tail4]
        rw [← ht]
        exact (unhide HS).1.fresh (by omega) (unhide HS).2
      · have hj : (((j + 1 : Nat) : Int) - 1) = (j : Int) := by omega
        have hle := hh.le
        have HH := hide hh
        clear hh
        rw [hj]
        have HR := hide (rd_digit wr n j)
        have HL := hide (take_short (B0 false r o) (B1 true n) (be N n) (N - (j + 1)) (be_length N n) hN8)
        go_wp2_with (at_builtin; refine wpList_append_bytes rfl (.tmp 47) (.tmp 54) rfl (w.heap.size + 1) u6 _ rfl ((unhide HH).own.1.alloc _) (wr.heap.size + 1) (some ⟨wr.heap.size, 0, none⟩) 1 1 [digit n j] rfl (unhide HR) rfl (unhide HL) (Nat.le_trans (unhide HH).blk.lt (by simp)) ?_; intro v1 w1 hown1 hg1 hnil1; have HS := hide ((unhide HH).step hown1 hg1 hnil1); clear hown1 hg1 hnil1)
        go_roundw
        case rel => exact ⟨j, unhide HS⟩
        case measure => simp [intOf]
  · go_enter Tryd.func25, Tryd.ntmps25
    go_wp2_with fail
    go_loopw [6, 7] (fun v i wr => ∃ k, Hlp w wr (hcells true r o false M n) [B0 true r o, B1 false n] (be N n) N k v i) (fun _ i _ => (intOf i + 1).toNat)
    case atStart => exact ⟨N, hlp_start w _ _ _ _ _ _ _ _ (by simpa using unhide HB0) (by simpa using unhide HB1) (by rw [unhide HN]; rfl)⟩
    case round =>
      obtain ⟨k, hh⟩ := hrel
      have hidx := hh.idx
      obtain ⟨c0, c1, c2, c3, c4, c5, c6, c7, c8⟩ := row9 hh.blk
      subst hidx
      rcases k with _ | j
      · have HH := hide hh
        clear hh
        go_wp2
        go_ret
        have hh := unhide HH
        have ht : [B0 true r o, B1 false n] ++ (be N n).take (N - 0) = hbytes true r o false M n := by
          rw [unhide HE, Nat.sub_zero, be_all]; simp [tail4]
        rw [← ht]
        exact hh.own.fresh (by omega) hh.kp
      · have hj : (((j + 1 : Nat) : Int) - 1) = (j : Int) := by omega
        have hle := hh.le
        have HH := hide hh
        clear hh
        rw [hj]
        have HR := hide (rd_digit wr n j)
        have HL := hide (take_short (B0 true r o) (B1 false n) (be N n) (N - (j + 1)) (be_length N n) hN8)
        go_wp2_with (at_builtin; refine wpList_append_bytes rfl (.tmp 47) (.tmp 54) rfl (w.heap.size + 1) u6 _ rfl ((unhide HH).own.1.alloc _) (wr.heap.size + 1) (some ⟨wr.heap.size, 0, none⟩) 1 1 [digit n j] rfl (unhide HR) rfl (unhide HL) (Nat.le_trans (unhide HH).blk.lt (by simp)) ?_; intro v1 w1 hown1 hg1 hnil1; have HS := hide ((unhide HH).step hown1 hg1 hnil1); clear hown1 hg1 hnil1)
        go_roundw
        case rel => exact ⟨j, unhide HS⟩
        case measure => simp [intOf]
  · go_enter Tryd.func25, Tryd.ntmps25
    go_wp2_with fail
    go_loopw [6, 7] (fun v i wr => ∃ k, Hlp w wr (hcells true r o true M n) [B0 true r o, B1 true n] (be N n) N k v i) (fun _ i _ => (intOf i + 1).toNat)
    case atStart => exact ⟨N, hlp_start w _ _ _ _ _ _ _ _ (by simpa using unhide HB0) (by simpa using unhide HB1) (by rw [unhide HN]; rfl)⟩
    case round =>
      obtain ⟨k, hh⟩ := hrel
      have hidx := hh.idx
      obtain ⟨c0, c1, c2, c3, c4, c5, c6, c7, c8⟩ := row9 hh.blk
      subst hidx
      rcases k with _ | j
      · have HH := hide hh
        clear hh
        have HL := hide (take_all4 (B0 true r o) (B1 true n) (be N n) N (M 0) (M 1) (M 2) (M 3) (be_length N n) hN8)
        go_wp2_with (at_builtin; refine wpList_append_bytes rfl (.tmp 58) (.tmp 60) rfl (w.heap.size + 1) u6 _ rfl (unhide HH).own.1 wr.heap.size (some ⟨w.heap.size, 4, none⟩) 4 4 [M 0, M 1, M 2, M 3] rfl (Rd.of_byt (unhide hmp wr (unhide HH).blk) (unhide HH).blk.lt) rfl (unhide HL) (unhide HH).blk.lt ?_; intro v1 w1 hown1 hg1 hnil1; have HS := hide ((unhide HH).last hown1 hg1 hnil1); clear hown1 hg1 hnil1)
        go_ret
        have ht : [B0 true r o, B1 true n] ++ (be N n).take (N - 0) ++ [M 0, M 1, M 2, M 3] = hbytes true r o true M n := by
          rw [unhide HE, Nat.sub_zero, be_all]; simp [tail4]
        rw [← ht]
        exact (unhide HS).1.fresh (by omega) (unhide HS).2
      · have hj : (((j + 1 : Nat) : Int) - 1) = (j : Int) := by omega
        have hle := hh.le
        have HH := hide hh
        clear hh
        rw [hj]
        have HR := hide (rd_digit wr n j)
        have HL := hide (take_short (B0 true r o) (B1 true n) (be N n) (N - (j + 1)) (be_length N n) hN8)
        go_wp2_with (at_builtin; refine wpList_append_bytes rfl (.tmp 47) (.tmp 54) rfl (w.heap.size + 1) u6 _ rfl ((unhide HH).own.1.alloc _) (wr.heap.size + 1) (some ⟨wr.heap.size, 0, none⟩) 1 1 [digit n j] rfl (unhide HR) rfl (unhide HL) (Nat.le_trans (unhide HH).blk.lt (by simp)) ?_; intro v1 w1 hown1 hg1 hnil1; have HS := hide ((unhide HH).step hown1 hg1 hnil1); clear hown1 hg1 hnil1)
        go_roundw
        case rel => exact ⟨j, unhide HS⟩
        case measure => simp [intOf]

set_option maxRecDepth 100000 in
set_option maxHeartbeats 8000000 in
theorem specBytes8 (w : World) (fin : Bool) (r o : Nat) (mk : Bool) (M : Nat → UInt8) (n : Nat) (hr : r < 8) (ho : o < 16) (h2 : 65536 ≤ n) (hn : n ≤ 9223372036854775807) :
    Calls Tryd.prog 25 #[hval fin r o mk M n] w fun e w' => Fresh w w' (hbytes fin r o mk M n) e := by
  have e1 := or_i64 r hr o ho
  have e2 : bits .or .u8 ((r : Int) * 16 + o) 128 = (r : Int) * 16 + o + 128 := by have := or_128 (r * 16 + o) (by omega); push_cast at this; exact this
  have e3 : bits .or .u8 128 127 = 255 := by decide +kernel
  have e4 : bits .or .u8 0 127 = 127 := by decide +kernel
  have hB0 := B0_int fin r o hr ho
  have hB1 := B1_int mk n
  have hL : L7 n = 127 := by unfold L7; rw [if_neg (by omega), if_neg (by omega)]
  rw [hL] at hB1
  have HB0 := hide hB0
  have HB1 := hide hB1
  clear hB0 hB1 hL
  obtain ⟨N, hN⟩ : ∃ N, N = 8 := ⟨_, rfl⟩
  have hN8 : N ≤ 8 := by omega
  have hext : ext n = be N n := by unfold ext; rw [if_neg (by omega), if_neg (by omega), hN]
  have HE : Hid (hbytes fin r o mk M n = [B0 fin r o, B1 mk n] ++ be N n ++ tail4 mk M) := by
    show hbytes fin r o mk M n = _
    rw [hbytes, hext]; simp
  have HN := hide hN
  have hd : decide ((n : Int) < 126) = false := by simp; omega
  have hd2 : decide ((n : Int) < 65536) = false := by simp; omega
  clear hext hN h2
  have hmp : Hid (∀ wr : World, Blk wr w.heap.size 30 (hcells fin r o mk M n) → Byt wr w.heap.size 4 [M 0, M 1, M 2, M 3]) := fun wr h => Blk.byt (pre := [.bool fin, .int .i64 r, .int .i64 o, .bool mk]) (rest := [.int .i64 n]) rfl h
  cases fin <;> cases mk
  · go_enter Tryd.func25, Tryd.ntmps25
    go_wp2_with fail
    go_loopw [6, 7] (fun v i wr => ∃ k, Hlp w wr (hcells false r o false M n) [B0 false r o, B1 false n] (be N n) N k v i) (fun _ i _ => (intOf i + 1).toNat)
    case atStart => exact ⟨N, hlp_start w _ _ _ _ _ _ _ _ (by simpa using unhide HB0) (by simpa using unhide HB1) (by rw [unhide HN]; rfl)⟩
    case round =>
      obtain ⟨k, hh⟩ := hrel
      have hidx := hh.idx
      obtain ⟨c0, c1, c2, c3, c4, c5, c6, c7, c8⟩ := row9 hh.blk
      subst hidx
      rcases k with _ | j
      · have HH := hide hh
        clear hh
        go_wp2
        go_ret
        have hh := unhide HH
        have ht : [B0 false r o, B1 false n] ++ (be N n).take (N - 0) = hbytes false r o false M n := by
          rw [unhide HE, Nat.sub_zero, be_all]; simp [tail4]
        rw [← ht]
        exact hh.own.fresh (by omega) hh.kp
      · have hj : (((j + 1 : Nat) : Int) - 1) = (j : Int) := by omega
        have hle := hh.le
        have HH := hide hh
        clear hh
        rw [hj]
        have HR := hide (rd_digit wr n j)
        have HL := hide (take_short (B0 false r o) (B1 false n) (be N n) (N - (j + 1)) (be_length N n) hN8)
        go_wp2_with (at_builtin; refine wpList_append_bytes rfl (.tmp 47) (.tmp 54) rfl (w.heap.size + 1) u6 _ rfl ((unhide HH).own.1.alloc _) (wr.heap.size + 1) (some ⟨wr.heap.size, 0, none⟩) 1 1 [digit n j] rfl (unhide HR) rfl (unhide HL) (Nat.le_trans (unhide HH).blk.lt (by simp)) ?_; intro v1 w1 hown1 hg1 hnil1; have HS := hide ((unhide HH).step hown1 hg1 hnil1); clear hown1 hg1 hnil1)
        go_roundw
        case rel => exact ⟨j, unhide HS⟩
        case measure => simp [intOf]
  · go_enter Tryd.func25, Tryd.ntmps25
    go_wp2_with fail
    go_loopw [6, 7] (fun v i wr => ∃ k, Hlp w wr (hcells false r o true M n) [B0 false r o, B1 true n] (be N n) N k v i) (fun _ i _ => (intOf i + 1).toNat)
    case atStart => exact ⟨N, hlp_start w _ _ _ _ _ _ _ _ (by simpa using unhide HB0) (by simpa using unhide HB1) (by rw [unhide HN]; rfl)⟩
    case round =>
      obtain ⟨k, hh⟩ := hrel
      have hidx := hh.idx
      obtain ⟨c0, c1, c2, c3, c4, c5, c6, c7, c8⟩ := row9 hh.blk
      subst hidx
      rcases k with _ | j
      · have HH := hide hh
        clear hh
        have HL := hide (take_all4 (B0 false r o) (B1 true n) (be N n) N (M 0) (M 1) (M 2) (M 3) (be_length N n) hN8)
        go_wp2_with (at_builtin; refine wpList_append_bytes rfl (.tmp 58) (.tmp 60) rfl (w.heap.size + 1) u6 _ rfl (unhide HH).own.1 wr.heap.size (some ⟨w.heap.size, 4, none⟩) 4 4 [M 0, M 1, M 2, M 3] rfl (Rd.of_byt (unhide hmp wr (unhide HH).blk) (unhide HH).blk.lt) rfl (unhide HL) (unhide HH).blk.lt ?_; intro v1 w1 hown1 hg1 hnil1; have HS := hide ((unhide HH).last hown1 hg1 hnil1); clear hown1 hg1 hnil1)
        go_ret
        have ht : [B0 false r o, B1 true n] ++ (be N n).take (N - 0) ++ [M 0, M 1, M 2, M 3] = hbytes false r o true M n := by
          rw [unhide HE, Nat.sub_zero, be_all]; simp [tail4]
        rw [← ht]
        exact (unhide HS).1.fresh (by omega) (unhide HS).2
      · have hj : (((j + 1 : Nat) : Int) - 1) = (j : Int) := by omega
        have hle := hh.le
        have HH := hide hh
        clear hh
        rw [hj]
        have HR := hide (rd_digit wr n j)
        have HL := hide (take_short (B0 false r o) (B1 true n) (be N n) (N - (j + 1)) (be_length N n) hN8)
        go_wp2_with (at_builtin; refine wpList_append_bytes rfl (.tmp 47) (.tmp 54) rfl (w.heap.size + 1) u6 _ rfl ((unhide HH).own.1.alloc _) (wr.heap.size + 1) (some ⟨wr.heap.size, 0, none⟩) 1 1 [digit n j] rfl (unhide HR) rfl (unhide HL) (Nat.le_trans (unhide HH).blk.lt (by simp)) ?_; intro v1 w1 hown1 hg1 hnil1; have HS := hide ((unhide HH).step hown1 hg1 hnil1); clear hown1 hg1 hnil1)
        go_roundw
        case rel => exact ⟨j, unhide HS⟩
        case measure => simp [intOf]
  · go_enter Tryd.func25, Tryd.ntmps25
    go_wp2_with fail
    go_loopw [6, 7] (fun v i wr => ∃ k, Hlp w wr (hcells true r o false M n) [B0 true r o, B1 false n] (be N n) N k v i) (fun _ i _ => (intOf i + 1).toNat)
    case atStart => exact ⟨N, hlp_start w _ _ _ _ _ _ _ _ (by simpa using unhide HB0) (by simpa using unhide HB1) (by rw [unhide HN]; rfl)⟩
    case round =>
      obtain ⟨k, hh⟩ := hrel
      have hidx := hh.idx
      obtain ⟨c0, c1, c2, c3, c4, c5, c6, c7, c8⟩ := row9 hh.blk
      subst hidx
      rcases k with _ | j
      · have HH := hide hh
        clear hh
        go_wp2
        go_ret
        have hh := unhide HH
        have ht : [B0 true r o, B1 false n] ++ (be N n).take (N - 0) = hbytes true r o false M n := by
          rw [unhide HE, Nat.sub_zero, be_all]; simp [tail4]
        rw [← ht]
        exact hh.own.fresh (by omega) hh.kp
      · have hj : (((j + 1 : Nat) : Int) - 1) = (j : Int) := by omega
        have hle := hh.le
        have HH := hide hh
        clear hh
        rw [hj]
        have HR := hide (rd_digit wr n j)
        have HL := hide (take_short (B0 true r o) (B1 false n) (be N n) (N - (j + 1)) (be_length N n) hN8)
        go_wp2_with (at_builtin; refine wpList_append_bytes rfl (.tmp 47) (.tmp 54) rfl (w.heap.size + 1) u6 _ rfl ((unhide HH).own.1.alloc _) (wr.heap.size + 1) (some ⟨wr.heap.size, 0, none⟩) 1 1 [digit n j] rfl (unhide HR) rfl (unhide HL) (Nat.le_trans (unhide HH).blk.lt (by simp)) ?_; intro v1 w1 hown1 hg1 hnil1; have HS := hide ((unhide HH).step hown1 hg1 hnil1); clear hown1 hg1 hnil1)
        go_roundw
        case rel => exact ⟨j, unhide HS⟩
        case measure => simp [intOf]
  · go_enter Tryd.func25, Tryd.ntmps25
    go_wp2_with fail
    go_loopw [6, 7] (fun v i wr => ∃ k, Hlp w wr (hcells true r o true M n) [B0 true r o, B1 true n] (be N n) N k v i) (fun _ i _ => (intOf i + 1).toNat)
    case atStart => exact ⟨N, hlp_start w _ _ _ _ _ _ _ _ (by simpa using unhide HB0) (by simpa using unhide HB1) (by rw [unhide HN]; rfl)⟩
    case round =>
      obtain ⟨k, hh⟩ := hrel
      have hidx := hh.idx
      obtain ⟨c0, c1, c2, c3, c4, c5, c6, c7, c8⟩ := row9 hh.blk
      subst hidx
      rcases k with _ | j
      · have HH := hide hh
        clear hh
        have HL := hide (take_all4 (B0 true r o) (B1 true n) (be N n) N (M 0) (M 1) (M 2) (M 3) (be_length N n) hN8)
        go_wp2_with (at_builtin; refine wpList_append_bytes rfl (.tmp 58) (.tmp 60) rfl (w.heap.size + 1) u6 _ rfl (unhide HH).own.1 wr.heap.size (some ⟨w.heap.size, 4, none⟩) 4 4 [M 0, M 1, M 2, M 3] rfl (Rd.of_byt (unhide hmp wr (unhide HH).blk) (unhide HH).blk.lt) rfl (unhide HL) (unhide HH).blk.lt ?_; intro v1 w1 hown1 hg1 hnil1; have HS := hide ((unhide HH).last hown1 hg1 hnil1); clear hown1 hg1 hnil1)
        go_ret
        have ht : [B0 true r o, B1 true n] ++ (be N n).take (N - 0) ++ [M 0, M 1, M 2, M 3] = hbytes true r o true M n := by
          rw [unhide HE, Nat.sub_zero, be_all]; simp [tail4]
        rw [← ht]
        exact (unhide HS).1.fresh (by omega) (unhide HS).2
      · have hj : (((j + 1 : Nat) : Int) - 1) = (j : Int) := by omega
        have hle := hh.le
        have HH := hide hh
        clear hh
        rw [hj]
        have HR := hide (rd_digit wr n j)
        have HL := hide (take_short (B0 true r o) (B1 true n) (be N n) (N - (j + 1)) (be_length N n) hN8)
        go_wp2_with (at_builtin; refine wpList_append_bytes rfl (.tmp 47) (.tmp 54) rfl (w.heap.size + 1) u6 _ rfl ((unhide HH).own.1.alloc _) (wr.heap.size + 1) (some ⟨wr.heap.size, 0, none⟩) 1 1 [digit n j] rfl (unhide HR) rfl (unhide HL) (Nat.le_trans (unhide HH).blk.lt (by simp)) ?_; intro v1 w1 hown1 hg1 hnil1; have HS := hide ((unhide HH).step hown1 hg1 hnil1); clear hown1 hg1 hnil1)
        go_roundw
        case rel => exact ⟨j, unhide HS⟩
        case measure => simp [intOf]

theorem specBytes (w : World) (fin : Bool) (r o : Nat) (mk : Bool) (M : Nat → UInt8) (n : Nat) (hr : r < 8) (ho : o < 16) (hn : n ≤ 9223372036854775807) :
    Calls Tryd.prog 25 #[hval fin r o mk M n] w fun e w' => Fresh w w' (hbytes fin r o mk M n) e := by
  by_cases h1 : n < 126
  · exact specBytes0 w fin r o mk M n hr ho h1
  · by_cases h2 : n < 65536
    · exact specBytes2 w fin r o mk M n hr ho (by omega) h2
    · exact specBytes8 w fin r o mk M n hr ho (by omega) hn
end Go.Proofs.YtechapgchjdhaaaDoor
