/- impl.Check: the map of the state's bits, ranged over in an order that nobody knows; the closure; the whole. -/
import Derived.Test.YtechapgchjdhaaaDoorFin
import Derived.Maps.RangeWalk
import Derived.Maps.Own
import Derived.Maps.Views
namespace Go.Proofs.YtechapgchjdhaaaDoor
open Go.RowKit Go.Maps

theorem law92 : Keyed Tryd.prog 92 := int_keyed Tryd.underlying92

/-- 'm[k] = v' in a literal. -/
theorem wpList_insert_own {H : Type} {P : Program} (w : World) {ops : Array Oper} {rest : List Oper} {o : Oper} {a : Act} {Q : Exit → Act → World → Prop}
    (hg : o.guard = none) (m x v : Operand) (t : TypeId) (hop : o.op = Op.insert t m x v)
    (k e : TypeId) (K : Keyed P k) (ht : P.underlying t = some (.map k e)) (R : Value → Option (DataW H × List MemPlace)) (b n : Nat) (D : DataW H)
    (hm : a.eval m = .map (some b)) (hown : w.ownsMap P k R b n D) (hn : n < maxLen) (key val : Value) (kl : Lit) (hx : a.eval x = key) (hv : a.eval v = val) (hkey : keyOf P k key = some kl)
    (d : DataW H) (ps : List MemPlace) (hval : R val = some (d, ps))
    (hK : ∀ w', w'.ownsMap P k R b (n + 1) (D.put kl d) → w.grownBy w' (some b) → wpList P ops Q rest (a.put o.dst undef) w') :
    wpList P ops Q (o :: rest) a w := by
  refine wpList_plain hg fun K' hK' => ?_
  obtain ⟨w', hrun, r1, r2⟩ := hown.update K ht hn hkey hval
  unfold Oper.wp
  simp [execOp, hop, hm, hx, hv, hrun, Result.andThen]
  exact hK' _ _ (hK w' r1 r2)

/-- The map of the bits. -/
def D4 (s c e f : Bool) : DataW Unit := ((((DataW.map []).put (.int .u8 1) (.lit (.bool s))).put (.int .u8 2) (.lit (.bool c))).put (.int .u8 4) (.lit (.bool e))).put (.int .u8 8) (.lit (.bool f))
theorem D4_eq (s c e f : Bool) : D4 s c e f = .map [(.int .u8 1, .lit (.bool s)), (.int .u8 2, .lit (.bool c)), (.int .u8 4, .lit (.bool e)), (.int .u8 8, .lit (.bool f))] := by rfl
theorem D4_has (s c e f : Bool) : Maps.has (D4 s c e f) (.int .u8 1) = true ∧ Maps.has (D4 s c e f) (.int .u8 2) = true ∧ Maps.has (D4 s c e f) (.int .u8 4) = true ∧ Maps.has (D4 s c e f) (.int .u8 8) = true := ⟨rfl, rfl, rfl, rfl⟩
theorem D4_at (s c e f on : Bool) (x : Int) (h : ∀ zd, (D4 s c e f).atKey (.int .u8 x) zd = .lit (.bool on)) : (x = 1 ∧ on = s) ∨ (x = 2 ∧ on = c) ∨ (x = 4 ∧ on = e) ∨ (x = 8 ∧ on = f) := by
  have h1 := h .nil
  rw [D4_eq] at h1
  simp only [DataW.atKey, List.find?_cons, Lit.sameKey] at h1
  by_cases e1 : x = 1
  · subst e1; simp at h1; exact Or.inl ⟨rfl, h1.symm⟩
  by_cases e2 : x = 2
  · subst e2; simp at h1; exact Or.inr (Or.inl ⟨rfl, h1.symm⟩)
  by_cases e3 : x = 4
  · subst e3; simp at h1; exact Or.inr (Or.inr (Or.inl ⟨rfl, h1.symm⟩))
  by_cases e4 : x = 8
  · subst e4; simp at h1; exact Or.inr (Or.inr (Or.inr ⟨rfl, h1.symm⟩))
  simp [Ne.symm e1, Ne.symm e2, Ne.symm e3, Ne.symm e4] at h1

/-- What has been gathered, told by what is still to come. -/
def gath (s c e f : Bool) (left : Lit → Bool) : Int := st4 (s && !left (.int .u8 1)) (c && !left (.int .u8 2)) (e && !left (.int .u8 4)) (f && !left (.int .u8 8))
theorem gath_start (s c e f : Bool) : gath s c e f (Maps.has (D4 s c e f)) = 0 := by
  obtain ⟨h1, h2, h4, h8⟩ := D4_has s c e f
  simp [gath, h1, h2, h4, h8, st4]
theorem gath_end (s c e f : Bool) (left : Lit → Bool) (h : ∀ kl, left kl = false) : gath s c e f left = st4 s c e f := by simp [gath, h]
theorem or_bits (a b c d : Bool) : bits .or .u8 (st4 false b c d) 1 = st4 true b c d ∧ bits .or .u8 (st4 a false c d) 2 = st4 a true c d ∧ bits .or .u8 (st4 a b false d) 4 = st4 a b true d ∧ bits .or .u8 (st4 a b c false) 8 = st4 a b c true := by
  revert a b c d; decide
theorem gath_step (s c e f on : Bool) (left : Lit → Bool) (x : Int) (hx : (x = 1 ∧ on = s) ∨ (x = 2 ∧ on = c) ∨ (x = 4 ∧ on = e) ∨ (x = 8 ∧ on = f)) (hl : left (.int .u8 x) = true) :
    gath s c e f (fun z => left z && !z.sameKey (.int .u8 x)) = if on then bits .or .u8 (gath s c e f left) x else gath s c e f left := by
  rcases hx with ⟨rfl, rfl⟩ | ⟨rfl, rfl⟩ | ⟨rfl, rfl⟩ | ⟨rfl, rfl⟩
  · have e1 : ∀ y : Int, (Lit.int .u8 y).sameKey (.int .u8 1) = decide (y = 1) := fun y => by simp [Lit.sameKey]
    simp only [gath, e1, hl]
    cases on
    · simp
    · simp [(or_bits true _ _ _).1]
  · have e1 : ∀ y : Int, (Lit.int .u8 y).sameKey (.int .u8 2) = decide (y = 2) := fun y => by simp [Lit.sameKey]
    simp only [gath, e1, hl]
    cases on
    · simp
    · simp [(or_bits _ true _ _).2.1]
  · have e1 : ∀ y : Int, (Lit.int .u8 y).sameKey (.int .u8 4) = decide (y = 4) := fun y => by simp [Lit.sameKey]
    simp only [gath, e1, hl]
    cases on
    · simp
    · simp [(or_bits _ _ true _).2.2.1]
  · have e1 : ∀ y : Int, (Lit.int .u8 y).sameKey (.int .u8 8) = decide (y = 8) := fun y => by simp [Lit.sameKey]
    simp only [gath, e1, hl]
    cases on
    · simp
    · simp [(or_bits _ _ _ true).2.2.2]

theorem grownBy_setCell (w : World) (p : Addr) (v : Value) : w.grownBy (w.setCell p v) (some p.block) := ⟨rfl, rfl, rfl, by simp, fun i _ hi => heap_setCell_other w p i v (fun e => hi (by rw [e]))⟩

set_option maxRecDepth 100000 in
set_option maxHeartbeats 1000000 in
theorem c52 (w : World) (b11 b13 b16 : Nat) (fin : Bool) (rsv op : Int) (mk : Bool) (M : Nat → UInt8) (len : Int) (s c e f : Bool) (h : 0 ≤ op ∧ op < 16) (p11 : Blk w b11 78 (wcells fin rsv op mk M len)) (p13 : Blk w b13 92 #[.int .u8 (st4 s c e f)]) (p16 : One w b16 4) :
    Calls Tryd.prog 52 #[.pointer (some ⟨b11, 0, none⟩), .pointer (some ⟨b13, 0, none⟩), .pointer (some ⟨b16, 0, none⟩)] w fun r w' => r = .returned (.tuple #[]) ∧ Kp (· ≠ b16) w w' ∧ Blk w' b16 4 #[.bool (fineB fin rsv op mk len s c e f)] := by
  have hch := checkHeader w fin rsv op mk M len s c e f h
  obtain ⟨ok, hok⟩ : ∃ ok, ok = fineB fin rsv op mk len s c e f := ⟨_, rfl⟩
  rw [← hok] at hch ⊢
  clear hok
  obtain ⟨c0, c1, c2, c3, c4, c5, c6, c7, c8⟩ := row9 p11
  have d0 := p13.one
  have HCH := hide hch
  clear hch
  go_enter Tryd.func52, Tryd.ntmps52
  go_wp2_with fail
  refine (unhide HCH).mono ?_
  rintro r w1 ⟨⟨v, rfl, hv, hv'⟩, hk⟩
  obtain ⟨u, q16⟩ := p16.on hk
  have d16 := q16.one
  have f16 := q16.frozen 0
  clear c0 c1 c2 c3 c4 c5 c6 c7 c8 d0
  have hkk : Kp (· ≠ b16) w w1 := hk.mono fun _ _ _ => trivial
  rcases hv' with rfl | ⟨x, rfl⟩
  · obtain rfl : ok = true := hv.1 rfl
    clear hv
    go_wp2
    go_end0
    exact ⟨rfl, hkk.setCell (p := ⟨b16, 0, none⟩) (fun _ h => h rfl) _, Blk.put (l := [u]) q16 0 _⟩
  · obtain rfl : ok = false := by
      cases ok
      · rfl
      · have := hv.2 rfl
        cases this
    clear hv
    go_wp2
    go_end0
    exact ⟨rfl, hkk.setCell (p := ⟨b16, 0, none⟩) (fun _ h => h rfl) _, Blk.put (l := [u]) q16 0 _⟩

set_option maxRecDepth 100000 in
set_option maxHeartbeats 4000000 in
theorem implCheck (w : World) (fin : Bool) (rsv op : Int) (mk : Bool) (M : Nat → UInt8) (len : Int) (s c e f : Bool) (h1 : 0 ≤ rsv ∧ rsv ≤ 255) (h : 0 ≤ op ∧ op < 16) :
    Calls Tryd.prog 23 #[hval fin rsv op mk M len, .bool s, .bool c, .bool e, .bool f] w fun r w' => TruthIs w w' (fineB fin rsv op mk len s c e f) r := by
  have hcf : ∀ (args : Array Value) (w : World), (callFunc 52 args).run Tryd.prog w = .ok (.enter 52 args) w := fun _ _ => by simp [go_sem]
  have HC := hide hcf
  have hmm := @run_makeMap Tryd.prog
  have ka : ∀ x, KT w (w.alloc x) := fun x => (KT.refl w).alloc x
  have KA := hide ka
  clear hcf ka
  go_enter Tryd.func23, Tryd.ntmps23
  go_wp2_with fail
  refine (given_any _ fin rsv op mk M len h1 ⟨h.1, by omega⟩).mono ?_
  rintro r w1 ⟨rfl, hk1⟩
  have k1 := Kp.trans (unhide KA _) hk1
  clear hk1
  go_upto_region 3 with fail
  refine wp_abs (fun w2 => Blk w2 w1.heap.size 78 (wcells fin rsv op mk M len) ∧ Blk w2 (w1.heap.size + 1) 92 #[.int .u8 0] ∧ KT w w2) ⟨(Blk.new w1 78 _).alloc _, Blk.new2 w1 _ 92 _, (k1.alloc _).alloc _⟩ ?_
  have hw1 := k1.size
  obtain ⟨b11, hb11⟩ : ∃ b11, b11 = w1.heap.size := ⟨_, rfl⟩
  obtain ⟨b13, hb13⟩ : ∃ b13, b13 = w1.heap.size + 1 := ⟨_, rfl⟩
  rw [← hb13, ← hb11]
  have hlo : w.heap.size ≤ b13 := by omega
  have hne : b11 ≠ b13 := by omega
  clear hb11 hb13 k1 hw1
  rintro w2 ⟨p11, p13, k2⟩
  have hlt13 := p13.lt
  have hown0 := World.ownsMap_made w2 Tryd.prog 92 (plainElem (H := Unit) Tryd.prog 4)
  obtain ⟨B, hB⟩ : ∃ B, B = w2.heap.size := ⟨_, rfl⟩
  have kw : ∀ x, Kp (fun _ => True) w2 (w2.alloc x) := fun x => (KT.refl w2).alloc x
  have KW := hide kw
  clear kw
  go_wp2_with (first
    | (refine wpList_insert_own _ rfl _ _ _ 93 rfl 92 4 law92 Tryd.underlying93 _ w2.heap.size 3 _ rfl hown3 (by unfold maxLen; omega) _ _ _ rfl rfl (keyOf_int_mk Tryd.underlying92 (by decide)) _ [] (plainElem_bool Tryd.underlying4 _) ?_; intro w6 hown4 hg4)
    | (refine wpList_insert_own _ rfl _ _ _ 93 rfl 92 4 law92 Tryd.underlying93 _ w2.heap.size 2 _ rfl hown2 (by unfold maxLen; omega) _ _ _ rfl rfl (keyOf_int_mk Tryd.underlying92 (by decide)) _ [] (plainElem_bool Tryd.underlying4 _) ?_; intro w5 hown3 hg3)
    | (refine wpList_insert_own _ rfl _ _ _ 93 rfl 92 4 law92 Tryd.underlying93 _ w2.heap.size 1 _ rfl hown1 (by unfold maxLen; omega) _ _ _ rfl rfl (keyOf_int_mk Tryd.underlying92 (by decide)) _ [] (plainElem_bool Tryd.underlying4 _) ?_; intro w4 hown2 hg2)
    | (refine wpList_insert_own _ rfl _ _ _ 93 rfl 92 4 law92 Tryd.underlying93 _ w2.heap.size 0 _ rfl hown0 (by unfold maxLen; omega) _ _ _ rfl rfl (keyOf_int_mk Tryd.underlying92 (by decide)) _ [] (plainElem_bool Tryd.underlying4 _) ?_; intro w3 hown1 hg1)
    | (at_range; refine wpList_range_own _ rfl _ 93 rfl 92 4 law92 Tryd.underlying93 _ w2.heap.size 4 _ rfl hown4 ?_; intro w7 hrg7 hg7 hs7)
    | go_in)
  go_frame
  have k6 : Kp (· ≠ b13) w2 w6 := (((((unhide KW _).mono fun _ _ _ => trivial).grown hg1 (fun g e hlt => absurd hlt (by cases e; omega))).grown hg2 (fun g e hlt => absurd hlt (by cases e; omega))).grown hg3 (fun g e hlt => absurd hlt (by cases e; omega))).grown hg4 (fun g e hlt => absurd hlt (by cases e; omega))
  have k7 : Kp (· ≠ b13) w2 w7 := k6.grown hg7 (fun g e => by cases e)
  have q13 : Blk w7 b13 92 #[.int .u8 0] := by
    have kx : KT w2 w7 := (((((unhide KW _).grown hg1 (fun g e hlt => absurd hlt (by cases e; omega))).grown hg2 (fun g e hlt => absurd hlt (by cases e; omega))).grown hg3 (fun g e hlt => absurd hlt (by cases e; omega))).grown hg4 (fun g e hlt => absurd hlt (by cases e; omega))).grown hg7 (fun g e => by cases e)
    exact p13.on kx
  have hr6 : w2.heap.size ≤ w6.heap.size := k6.size
  obtain ⟨r, hr⟩ : ∃ r, r = w6.heap.size := ⟨_, rfl⟩
  rw [← hr] at hrg7 hs7 hr6 ⊢
  rw [← hB] at hrg7 hr6 ⊢
  replace hrg7 : w7.ranges Tryd.prog 92 (plainElem (H := Unit) Tryd.prog 4) B r 4 (D4 s c e f) (Maps.has (D4 s c e f)) (Maps.size (D4 s c e f)) := hrg7
  rw [← hB] at hlt13
  have hbr : b13 < r := by omega
  have hbB : B ≤ r := by omega
  have hr2 : w2.heap.size ≤ r := by omega
  have hB2 : w2.heap.size ≤ B := by omega
  have hneB : b13 ≠ B := by omega
  have hner : b13 ≠ r := by omega
  clear hB
  clear hown0 hown1 hown2 hown3 hown4 hg1 hg2 hg3 hg4 hg7 hs7 k6 hr
  clear hmm
  go_loopw [14, 15] (fun _ _ wr => ∃ (left : Lit → Bool) (cnt : Nat), wr.ranges Tryd.prog 92 (plainElem (H := Unit) Tryd.prog 4) B r 4 (D4 s c e f) left cnt ∧ Blk wr b13 92 #[.int .u8 (gath s c e f left)] ∧ Kp (· ≠ b13) w2 wr)
    (fun _ _ wr => wr.rangeLeft B r)
  case atStart => exact ⟨_, _, hrg7, by rw [gath_start]; exact q13, k7⟩
  case round =>
    obtain ⟨left, cnt, hrg, hp13, hk⟩ := hrel
    go_wp2_with (first
      | (at_next; refine wpList_next_ranges _ rfl _ rfl 92 law92 (plainElem (H := Unit) Tryd.prog 4) (Value.int .u8) Value.bool (fun key kl hkey => by obtain ⟨x, rfl, _⟩ := Maps.keyOf_int_inv Tryd.underlying92 hkey; exact ⟨x, rfl⟩) ?_ B r 4 _ _ _ rfl hrg ?_ ?_)
      | go_in)
    · intro v y hv
      cases v <;> simp [plainElem, Tryd.underlying4] at hv
      exact ⟨_, rfl⟩
    · intro hc0 hl0
      have hp := hp13
      rw [gath_end _ _ _ _ _ hl0] at hp
      have hkw : KT w wr := k2.then_ hk (fun i hi _ => by omega)
      have q11 := p11.kp hk hne
      have hws := hkw.size
      go_wp2_with fail
      refine (quietly_kp (wr.alloc (.cells #[.bool false] 4)) 52 _ (· ≠ wr.heap.size) (fun wq => Blk wq wr.heap.size 4 #[.bool (fineB fin rsv op mk len s c e f)]) (unhide HC) (by simp)
        (fun wq hq => hq.far (p := ⟨(wr.alloc (.cells #[.bool false] 4)).heap.size, 0, none⟩) (show wr.heap.size ≠ (wr.alloc (.cells #[.bool false] 4)).heap.size by simp) _)
        (c52 ((wr.alloc (.cells #[.bool false] 4)).alloc (.cells #[.bool false] 4)) b11 b13 wr.heap.size fin rsv op mk M len s c e f h ((q11.alloc _).alloc _) ((hp.alloc _).alloc _) ⟨_, (Blk.new wr 4 _).alloc _⟩)).mono ?_
      rintro r1 w9 ⟨rfl, hk9, q16⟩
      have d16 := q16.one
      have hkf : KT w w9 := (hkw.alloc _).then_ hk9 (fun i hi _ => by omega)
      clear hrg hp hp13
      go_wp2
      go_ret
      exact ⟨rfl, hkf⟩
    · intro x
      constructor
      · intro kl y1 y2 w8 cnt1 hkey hlx hv hat hrg1 hlt hg1 hs1 hen
        obtain ⟨x', ex, rfl, _⟩ := Maps.keyOf_int_inv Tryd.underlying92 hkey
        cases ex
        rw [plainElem_bool Tryd.underlying4] at hv
        cases hv
        have hx := D4_at s c e f false x hat
        have hg := gath_step s c e f false left x hx hlx
        have hp8 : Blk w8 b13 92 #[.int .u8 (gath s c e f left)] := (hg1.block b13 hp13.lt (fun e => hner (Option.some.inj e))).trans hp13
        have k8 := hk.grown hg1 (fun g e hlt => absurd hlt (by cases e; omega))
        simp only [Bool.false_eq_true, if_false] at hg
        have HX := hide hx
        have HG := hide hg
        clear hx hg hat hkey
        go_wp2
        go_roundw
        case rel => exact ⟨_, cnt1, hrg1, by rw [unhide HG]; exact hp8, k8⟩
        case measure => rw [hrg1.left_eq, hrg.left_eq]; exact hlt
      · intro kl y1 y2 w8 cnt1 hkey hlx hv hat hrg1 hlt hg1 hs1 hen
        obtain ⟨x', ex, rfl, _⟩ := Maps.keyOf_int_inv Tryd.underlying92 hkey
        cases ex
        rw [plainElem_bool Tryd.underlying4] at hv
        cases hv
        have hx := D4_at s c e f true x hat
        have hg := gath_step s c e f true left x hx hlx
        have hp8 : Blk w8 b13 92 #[.int .u8 (gath s c e f left)] := (hg1.block b13 hp13.lt (fun e => hner (Option.some.inj e))).trans hp13
        have k8 := hk.grown hg1 (fun g e hlt => absurd hlt (by cases e; omega))
        simp only [if_true] at hg
        have HX := hide hx
        have HG := hide hg
        clear hx hg hat hkey
        have d13 := hp8.one
        have f13 := hp8.frozen 0
        go_wp2_with fail
        refine (set_any w8 (gath s c e f left) x).mono ?_
        rintro r1 w9 ⟨rfl, rfl⟩
        have hrg2 := hrg1.kept (grownBy_setCell w8 ⟨b13, 0, none⟩ (.int .u8 (bits .or .u8 (gath s c e f left) x))) (fun e => hneB (Option.some.inj e).symm) (fun e => hner (Option.some.inj e).symm)
        go_wp2
        go_roundw
        case rel => exact ⟨_, cnt1, hrg2, by rw [unhide HG]; exact Blk.put (l := [_]) hp8 0 _, k8.setCell (p := ⟨b13, 0, none⟩) (fun _ h => h rfl) _⟩
        case measure => rw [hrg2.left_eq, hrg.left_eq]; exact hlt
end Go.Proofs.YtechapgchjdhaaaDoor
