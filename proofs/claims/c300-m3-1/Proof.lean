import JvmDerived
import JvmDerived.Pilot.@@N@@Statement
import JvmDerived.Pilot.@@N@@Code
set_option linter.unusedVariables false
set_option linter.unusedSimpArgs false
namespace Jvm.RoadKit
open Sem ClassFile Op Lib Jvm.Stand Jvm.Free Jvm.LawKit
section New
variable {p : Program} {l : Launch} {e : Env} {R : Room} {s : State} {m : MethodId} {args : Array Value} {below : List Frame} {meth : Method} {c : Code} {T : State} {locs : List Loc} {cells slots : Nat}
theorem retI (X : Stand p l e R s m args below meth c T locs cells slots) (hx : p.tables.exec = Jvm.exec) {pc : Nat} {Ls : Array Slot} {z : Int32} {rest : List Value} (hret : meth.sig.returnType = some .int) (hd : decode c.code pc = .ok (.ireturn, 1)) {fs : List Frame}
    (hl : ∀ (f : JFrame) (acts : List Action), f.method = m → f.locked = none → f.entered = [] → (doReturn e (T.setTop f) acts (some (.int z))).1 = T.setFrames fs) : Steps p.tables e below (T.setTop (mkF m pc Ls (.int z :: rest))) (T.setFrames fs) := by
  have hm' : T.vm.method? m = some meth := X.method'
  have hn : narrow .int (.int z) = .int z := rfl
  show Steps p.tables e below (T.setTop { method := m, pc := pc, locals := Ls, stack := _ :: rest, locked := none }) _
  jvm_step X.here [X.here.top, hx, hd, hm', hret, hn]
  first | (intro acts; rw [hl _ acts rfl rfl rfl]) | rw [hl _ _ rfl rfl rfl]
  exact Steps.refl _
abbrev jv (x : Int64) : Slot := .val (.long x)
/-- from A the run goes on to an end of which R holds -/
def Wk (tb : Tables) (e : Env) (below : List Frame) (A : State) (R : State → Outcome → Prop) : Prop := ∃ U o, Steps tb e below A U ∧ R U o
theorem Wk.go {tb : Tables} {A A' : State} {R : State → Outcome → Prop} (h : ∀ t, Steps tb e below A' t → Steps tb e below A t) (k : Wk tb e below A' R) : Wk tb e below A R := by
  obtain ⟨U, o, k1, k2⟩ := k
  exact ⟨U, o, h _ k1, k2⟩
/-- the two ways from A to A' meet there -/
theorem own_fin (X : Stand p l e R s m args below meth c T locs cells slots) {Qv : Option Value → Heap → List Loc → Prop} {v : Option Value} {g : JFrame} {C S : Nat} (hlocks : meth.locks = false) (hv : meth.sig.returnType = none → v = none)
    (hst : ∀ fs, (∀ (f : JFrame) (acts : List Action), f.method = m → f.locked = none → f.entered = [] → (doReturn e (T.setTop f) acts v).1 = T.setFrames fs) → Steps p.tables e below (T.setTop g) (T.setFrames fs))
    (hQ : Qv v T.heap locs) (hc : cells ≤ C) (hs : slots ≤ S) :
    Wk p.tables e below (T.setTop g) (fun U o => U.status = .running ∧ Ended U below o ∧ ∃ v L, o = .returned v ∧ Qv v U.heap L ∧ FrameEnd s o U L C S) := by
  obtain ⟨fs, hr, hrun, hended, hW, hsame⟩ := X.leave (v := v) hv hlocks
  exact ⟨_, _, hst fs hr, hrun, hended, _, _, rfl, hQ, ⟨_, rfl⟩, hW, hsame.mono hc hs⟩
end New
end Jvm.RoadKit
namespace Jvm.Pilot.@@N@@
open Jvm Jvm.ClassFile Sem Op Lib Jvm.Free Jvm.Stand Jvm.LawKit Jvm.RoadKit Bundle Jvm.Pilot.@@N@@.Jvm.D
/-- a place overwritten -/
def own_upd (f : Nat → Int32) (i : Nat) (y : Int32) : Nat → Int32 := fun j => if j = i then y else f j
theorem own_upd_eq (f : Nat → Int32) (i : Nat) (y : Int32) : own_upd f i y i = y := if_pos rfl
theorem own_upd_ne (f : Nat → Int32) {i j : Nat} (y : Int32) (h : j ≠ i) : own_upd f i y j = f j := if_neg h
/-- the byte[] at a has n places; place j holds f j -/
def BA (Z : State) (h : Heap) (a : Addr) (n : Nat) (f : Nat → Int32) : Prop := ∃ c : Cell, Arr Z h a c .byte ∧ c.slots.size = n ∧ ∀ j, j < n → c.slots[j]? = some (.int (f j))
section Bytes
variable {p : Program} {l : Launch} {e : Env} {R : Room} {s : State} {m : MethodId} {args : Array Value} {below : List Frame} {meth : Method} {c : Code} {T : State} {locs : List Loc} {cells slots : Nat} {Z : State} {h h' : Heap} {a b : Addr} {n : Nat} {f : Nat → Int32} {ws : List Addr} {sl : Nat} {v : Value}
theorem BA.new {k : ClassId} {z : Int32} (A : Arr Z h a (newA k .byte z) .byte) : BA Z h a z.toNatClampNeg (fun _ => 0) := ⟨_, A, sz_new _ _ _, fun j hj => by simp [newA, hj]; rfl⟩
theorem BA.lt (F : BA Z h a n f) : a < h.size := by obtain ⟨c, A, -⟩ := F; exact A.lt
theorem BA.ext (F : BA Z h a n f) (E : Ext h h') : BA Z h' a n f := by obtain ⟨c, A, r⟩ := F; exact ⟨c, A.ext E, r⟩
theorem BA.other (F : BA Z h b n f) (W : Wr h h' a sl v) (q : b ≠ a) : BA Z h' b n f := by obtain ⟨c, A, r⟩ := F; exact ⟨c, A.other W q, r⟩
theorem BA.keep (F : BA Z h a n f) (K : Keep h h' ws) (q : a ∉ ws) : BA Z h' a n f := by obtain ⟨c, A, r⟩ := F; exact ⟨c, ⟨K.2.1 a c A.1 q, A.2⟩, r⟩
theorem own_clamp {j : Int32} (h0 : 0 ≤ j.toInt) : (j.toNatClampNeg : Int) = j.toInt := by
  have q : ¬ j < 0 := by
    rw [Int32.lt_iff_toInt_lt]
    have e : (0 : Int32).toInt = 0 := by decide
    omega
  exact (nat_of q).symm
theorem own_inb {cl : Cell} {j : Int32} (S : cl.slots.size = n) (hj : 0 ≤ j.toInt ∧ j.toInt < n) : ¬ (j < 0 ∨ cl.slots.size ≤ j.toNatClampNeg) := by
  have e0 : (0 : Int32).toInt = 0 := by decide
  have := own_clamp hj.1
  rw [Int32.lt_iff_toInt_lt]; omega
theorem own_stB (X : Stand p l e R s m args below meth c T locs cells slots) (hx : p.tables.exec = Jvm.exec) (hZ : Z.Warmed39 s.vm) (eT : T.heap = h) (F : BA Z h a n f) {j x : Int32} (hj : 0 ≤ j.toInt ∧ j.toInt < n) {g : JFrame} (hg : g.method = m) {rest : List Value} (hs : g.stack = .int x :: .int j :: .ref a :: rest) (hd : decode c.code g.pc = .ok (.bastore, 1)) :
    ∃ T' h', Stand p l e R s m args below meth c T' (locs ++ [⟨a, j.toNatClampNeg⟩]) cells slots ∧ T'.heap = h' ∧ Wr h h' a j.toNatClampNeg (.int (nar .byte x)) ∧ BA Z h' a n (own_upd f j.toNatClampNeg x.toInt8.toInt32) ∧ ∀ target, Steps p.tables e below (T'.setTop { g with pc := g.pc + 1, stack := rest }) target → Steps p.tables e below (T.setTop g) target := by
  obtain ⟨cl, A, S, H⟩ := F
  have hin := own_inb S hj
  obtain ⟨T', h', X', e', W, st⟩ := stB X hx hZ eT A (j := j) (x := x) hin hg hs hd
  refine ⟨T', h', X', e', W, ⟨cl.setSlot j.toNatClampNeg (.int (nar .byte x)), A.same W, by rw [sz_set]; exact S, fun i hi => ?_⟩, st⟩
  by_cases q : i = j.toNatClampNeg
  · subst q
    rw [own_upd_eq]
    exact get_hit (k := j) hin rfl
  · rw [own_upd_ne _ _ q, ← H i hi]
    show (cl.slots.setIfInBounds j.toNatClampNeg _)[i]? = _
    rw [Array.getElem?_setIfInBounds_ne (Ne.symm q)]
theorem own_ldB (X : Stand p l e R s m args below meth c T locs cells slots) (hx : p.tables.exec = Jvm.exec) (hZ : Z.Warmed39 s.vm) (eT : T.heap = h) (F : BA Z h a n f) {j : Int32} (hj : 0 ≤ j.toInt ∧ j.toInt < n) {g : JFrame} (hg : g.method = m) {rest : List Value} (hs : g.stack = .int j :: .ref a :: rest) (hd : decode c.code g.pc = .ok (.baload, 1)) :
    ∀ target, Steps p.tables e below (T.setTop { g with pc := g.pc + 1, stack := .int (f j.toNatClampNeg) :: rest }) target → Steps p.tables e below (T.setTop g) target := by
  obtain ⟨cl, A, S, H⟩ := F
  have hc := own_clamp hj.1
  intro target k
  exact X.baloadBytes hx (j := j) (v := .int (f j.toNatClampNeg)) (by rw [eT]; exact A.1) (State.isArrayOf_alike hZ.alike A.2.1) A.2.2 (own_inb S hj) (H _ (by omega)) hg hs hd target k
end Bytes
/-- the i-th of the cnt bytes of w -/
def own_byte (w : Int64) (cnt i : Int32) : Int32 := (((w.toUInt64 >>> (((8 : Int32) * ((cnt - (1 : Int32)) - i)) &&& 0x3f).toInt64.toUInt64).toInt64).toInt32).toInt8.toInt32
/-- the array behind n turns -/
def own_put (f : Nat → Int32) (ia : Int32) (w : Int64) (cnt n : Int32) : Nat → Int32 := fun j => if ia.toInt ≤ (j : Int) ∧ (j : Int) < ia.toInt + n.toInt then own_byte w cnt (Int32.ofInt ((j : Int) - ia.toInt)) else f j
theorem own_add {a b : Int32} (ha : 0 ≤ a.toInt) (hb : 0 ≤ b.toInt) (h : a.toInt + b.toInt ≤ 100) : (a + b).toInt = a.toInt + b.toInt ∧ ((a + b).toNatClampNeg : Int) = a.toInt + b.toInt := by
  have h1 := c_iadd a b
  have r := rng32 (a + b)
  have e : (a + b).toInt = a.toInt + b.toInt := by omega
  have c := own_clamp (show 0 ≤ (a + b).toInt by omega)
  exact ⟨e, by omega⟩
theorem own_put_0 (f : Nat → Int32) (ia : Int32) (w : Int64) (cnt : Int32) : own_put f ia w cnt 0 = f := by
  funext j
  unfold own_put
  have e0 : (0 : Int32).toInt = 0 := by decide
  rw [if_neg]; omega
theorem own_put_s (f : Nat → Int32) (ia : Int32) (w : Int64) (cnt i : Int32) (h0 : 0 ≤ ia.toInt) (h1 : 0 ≤ i.toInt) (h2 : ia.toInt + i.toInt < 12) : own_upd (own_put f ia w cnt i) (ia + i).toNatClampNeg (own_byte w cnt i) = own_put f ia w cnt (i + (1 : Int32)) := by
  have e1 : (1 : Int32).toInt = 1 := by decide
  obtain ⟨a1, a2⟩ := own_add h0 h1 (by omega)
  obtain ⟨b1, -⟩ := own_add h1 (show 0 ≤ (1 : Int32).toInt by omega) (by omega)
  funext j
  by_cases q : j = (ia + i).toNatClampNeg
  · subst q
    rw [own_upd_eq]
    unfold own_put
    rw [if_pos (by omega)]
    congr 1
    apply Int32.toInt_inj.mp
    have : ((ia + i).toNatClampNeg : Int) - ia.toInt = i.toInt := by omega
    rw [this, Int32.ofInt_toInt]
  · rw [own_upd_ne _ _ q]
    unfold own_put
    by_cases z : ia.toInt ≤ (j : Int) ∧ (j : Int) < ia.toInt + i.toInt
    · rw [if_pos z, if_pos (by omega)]
    · rw [if_neg z, if_neg (by omega)]
theorem own_nar (w : Int64) (cnt i : Int32) : ((((w.toUInt64 >>> (((8 : Int32) * ((cnt - (1 : Int32)) - i)) &&& 0x3f).toInt64.toUInt64).toInt64).toInt32).toInt8.toInt32).toInt8.toInt32 = own_byte w cnt i := by
  unfold own_byte
  rw [Int8.toInt8_toInt32]
theorem own_n1 {i cnt : Int32} {k : Nat} (h : i.toInt + ((k + 1 : Nat) : Int) = cnt.toInt) (h0 : 0 ≤ i.toInt) (h4 : cnt.toInt ≤ 8) : (i + (1 : Int32)).toInt = i.toInt + 1 := by
  have a := c_iadd i 1
  have r := rng32 (i + 1)
  have e1 : (1 : Int32).toInt = 1 := by decide
  omega
theorem d1_0 : decode prog_106_method_9_code 0 = .ok (.iconst 0, 1) := by decide +kernel
theorem d1_1 : decode prog_106_method_9_code 1 = .ok (.istore 5, 2) := by decide +kernel
theorem d1_3 : decode prog_106_method_9_code 3 = .ok (.iload 5, 2) := by decide +kernel
theorem d1_5 : decode prog_106_method_9_code 5 = .ok (.iload 4, 2) := by decide +kernel
theorem d1_7 : decode prog_106_method_9_code 7 = .ok (.if_icmp .ge 29, 3) := by decide +kernel
theorem d1_36 : decode prog_106_method_9_code 36 = .ok (.return_, 1) := by decide +kernel
theorem d1_10 : decode prog_106_method_9_code 10 = .ok (.aload_n 0, 1) := by decide +kernel
theorem d1_11 : decode prog_106_method_9_code 11 = .ok (.iload_n 1, 1) := by decide +kernel
theorem d1_12 : decode prog_106_method_9_code 12 = .ok (.iload 5, 2) := by decide +kernel
theorem d1_14 : decode prog_106_method_9_code 14 = .ok (.iadd, 1) := by decide +kernel
theorem d1_15 : decode prog_106_method_9_code 15 = .ok (.lload_n 2, 1) := by decide +kernel
theorem d1_16 : decode prog_106_method_9_code 16 = .ok (.bipush 8, 2) := by decide +kernel
theorem d1_18 : decode prog_106_method_9_code 18 = .ok (.iload 4, 2) := by decide +kernel
theorem d1_20 : decode prog_106_method_9_code 20 = .ok (.iconst 1, 1) := by decide +kernel
theorem d1_21 : decode prog_106_method_9_code 21 = .ok (.isub, 1) := by decide +kernel
theorem d1_22 : decode prog_106_method_9_code 22 = .ok (.iload 5, 2) := by decide +kernel
theorem d1_24 : decode prog_106_method_9_code 24 = .ok (.isub, 1) := by decide +kernel
theorem d1_25 : decode prog_106_method_9_code 25 = .ok (.imul, 1) := by decide +kernel
theorem d1_26 : decode prog_106_method_9_code 26 = .ok (.lushr, 1) := by decide +kernel
theorem d1_27 : decode prog_106_method_9_code 27 = .ok (.l2i, 1) := by decide +kernel
theorem d1_28 : decode prog_106_method_9_code 28 = .ok (.i2b, 1) := by decide +kernel
theorem d1_29 : decode prog_106_method_9_code 29 = .ok (.bastore, 1) := by decide +kernel
theorem d1_30 : decode prog_106_method_9_code 30 = .ok (.iinc 5 1, 3) := by decide +kernel
theorem d1_33 : decode prog_106_method_9_code 33 = .ok (.goto (-30), 3) := by decide +kernel
theorem pn_0 : plainName "com/example/pledge/pledge/log/PayloadWriter" = true := by first | (simp [plainName, overriddenIn]; done) | decide +kernel
theorem ef_1 (m : MethodId) (x0 : Addr) (x1 : Int32) (x2 : Int64) (x3 : Int32) : entryFrame m #[(.ref x0), (.int x1), (.long x2), (.int x3)] 6 = mkF m 0 #[rv x0, iv x1, jv x2, .second, iv x3, .unset] [] := by first | (simp [entryFrame, mkF, argsToLocals, Value.category]; done) | rfl
def Q1 (Z : State) (ar : Addr) (ia : Int32) (wv : Int64) (cnt : Int32) (fB : Nat → Int32) (h0 : Heap) (n0 : Nat) (v : Option Value) (h : Heap) (L : List Loc) : Prop := v = none ∧ Fr n0 L ∧ Keep h0 h [ar] ∧ BA Z h ar 12 (own_put fB ia wv cnt cnt)
set_option maxRecDepth 65536 in
set_option maxHeartbeats 40000000 in
theorem rm1 (l : Launch) (Z : State) (a0 : Array Value) (hw : ∀ d ∈ tables_1, d.before a0 Z = true) (ws : List Jvm.Cond) (ar : Addr) (ia : Int32) (wv : Int64) (cnt : Int32) (fB : Nat → Int32) (h0 : Heap) (n0 : Nat) (Z0 : n0 ≤ h0.size) (VB : BA Z h0 ar 12 fB) (pA : 0 ≤ ia.toInt) (pB : 0 ≤ cnt.toInt) (pC : cnt.toInt ≤ 8) (pD : ia.toInt + cnt.toInt ≤ 12) (g_ar : n0 ≤ ar) :
    MetFree l (⟨"com/example/pledge/pledge/log/PayloadWriter", "putBigEndian", "([BIJI)V"⟩ : MethodName) (head1 (Jvm.Cond.code (⟨"com/example/pledge/pledge/log/PayloadWriter", "putBigEndian", "([BIJI)V"⟩ : MethodName) prog_106_method_9_code 6 none :: ws) ({ frames := 0, cells := 0, slots := 0, locals := 0 } : Room)) (fun a U => a = #[(.ref ar), (.int ia), (.long wv), (.int cnt)] ∧ Z.Warmed39 U.vm ∧ U.heap = h0) (fun _ _ _ _ _ => True) (fun _ U o U' => ∃ v L, o = .returned v ∧ Q1 Z ar ia wv cnt fB h0 n0 v U'.heap L ∧ FrameEnd U o U' L ({ frames := 0, cells := 0, slots := 0, locals := 0 } : Room).cells ({ frames := 0, cells := 0, slots := 0, locals := 0 } : Room).slots) := by
  refine MetFree.of_bodySF (plainFor_of_name pn_0) hisR ?_
  intro p e s m args below meth c s₁ Bd hml0 hP hK
  obtain ⟨rfl, hZ, hh⟩ := hP
  have hx := Bd.exec
  have hby := Bd.bytes
  have hml : c.maxLocals = 6 := hml0
  have hown : s.vm.findClass "com/example/pledge/pledge/log/PayloadWriter" = some m.cls := findClass_of_methodNamed Bd.named
  have hnm := (name_of_methodNamed Bd.named Bd.method).1
  have X0 : Stand p l e ({ frames := 0, cells := 0, slots := 0, locals := 0 } : Room) s m #[(.ref ar), (.int ia), (.long wv), (.int cnt)] below meth c s₁ [] 0 0 := Stand.of_body Bd
  have e0 : s₁.heap = h0 := by rw [← hh, Bd.state]; rfl
  have N0 := Fr.nil n0
  have hlk : meth.locks = false := BodyLoose.notSynchronized Bd
  suffices hwk : Wk p.tables e below (s₁.setTop (mkF m 0 #[rv ar, iv ia, jv wv, .second, iv cnt, .unset] [])) (fun U o => U.status = .running ∧ Ended U below o ∧ ∃ v L, o = .returned v ∧ Q1 Z ar ia wv cnt fB h0 n0 v U.heap L ∧ FrameEnd s o U L 0 0) by
    obtain ⟨U, o, k1, k2⟩ := hwk
    exact ⟨U, o, castTop (ef_1 m ar ia wv cnt) k1, k2⟩
  have K0 := Keep.refl h0 [ar]
  refine Wk.go (A' := s₁.setTop (mkF m 1 #[rv ar, iv ia, jv wv, .second, iv cnt, .unset] [(.int (0 : Int32))])) (fun t k => XS.iconst X0.here hx rfl (hb hby d1_0) k) ?_
  refine Wk.go (A' := s₁.setTop (mkF m 3 #[rv ar, iv ia, jv wv, .second, iv cnt, iv (0 : Int32)] [])) (fun t k => XS.istore X0.here hx rfl (hb hby d1_1) rfl (l' := #[rv ar, iv ia, jv wv, .second, iv cnt, iv (0 : Int32)]) rfl k) ?_
  have V0' : BA Z h0 ar 12 (own_put fB ia wv cnt (0 : Int32)) := by rw [own_put_0]; exact VB
  have loop3 : ∀ (k : Nat) (i : Int32) (TL : State) (hL : Heap) (lL : List Loc) (XL : Stand p l e ({ frames := 0, cells := 0, slots := 0, locals := 0 } : Room) s m #[(.ref ar), (.int ia), (.long wv), (.int cnt)] below meth c TL lL 0 0) (eL : TL.heap = hL) (NL : Fr n0 lL) (ZL : n0 ≤ hL.size) (KL : Keep h0 hL [ar]) (fL0 : BA Z hL ar 12 (own_put fB ia wv cnt i)), (i.toInt + (k : Int) = cnt.toInt ∧ 0 ≤ i.toInt) → Wk p.tables e below (TL.setTop (mkF m 3 #[rv ar, iv ia, jv wv, .second, iv cnt, iv i] [])) (fun U o => U.status = .running ∧ Ended U below o ∧ ∃ v L, o = .returned v ∧ Q1 Z ar ia wv cnt fB h0 n0 v U.heap L ∧ FrameEnd s o U L 0 0) := by
    intro k
    induction k with
    | zero =>
      intro i TL hL lL XL eL NL ZL KL fL0 hinv
      refine Wk.go (A' := TL.setTop (mkF m 5 #[rv ar, iv ia, jv wv, .second, iv cnt, iv i] [(.int i)])) (fun t k => XS.iload XL.here hx rfl (hb hby d1_3) rfl k) ?_
      refine Wk.go (A' := TL.setTop (mkF m 7 #[rv ar, iv ia, jv wv, .second, iv cnt, iv i] [(.int cnt), (.int i)])) (fun t k => XS.iload XL.here hx rfl (hb hby d1_5) rfl k) ?_
      have hc7 : ¬ (i < cnt) := by rw [Int32.lt_iff_toInt_lt]; have := hinv.1; omega
      refine Wk.go (A' := TL.setTop (mkF m 36 #[rv ar, iv ia, jv wv, .second, iv cnt, iv i] [])) (fun t k => XS.icmpYes XL.here hx rfl (pc0 := 7) (pc' := 36) rfl (hb hby d1_7) rfl (flt hc7).2.1 (by decide) (by decide) k) ?_
      refine own_fin (Qv := Q1 Z ar ia wv cnt fB h0 n0) (v := none) XL hlk (fun _ => rfl) (fun fs hr => XL.returnOut hx Bd.returns (hb hby d1_36) hr) ?_ (by decide) (by decide)
      have hic : i = cnt := Int32.toInt_inj.mp (by have := hinv.1; omega)
      show Q1 Z ar ia wv cnt fB h0 n0 _ TL.heap _
      rw [eL]
      have fin := fL0
      rw [hic] at fin
      exact ⟨rfl, NL, KL, fin⟩
    | succ k ih =>
      intro i TL hL lL XL eL NL ZL KL fL0 hinv
      refine Wk.go (A' := TL.setTop (mkF m 5 #[rv ar, iv ia, jv wv, .second, iv cnt, iv i] [(.int i)])) (fun t k => XS.iload XL.here hx rfl (hb hby d1_3) rfl k) ?_
      refine Wk.go (A' := TL.setTop (mkF m 7 #[rv ar, iv ia, jv wv, .second, iv cnt, iv i] [(.int cnt), (.int i)])) (fun t k => XS.iload XL.here hx rfl (hb hby d1_5) rfl k) ?_
      have hc7 : i < cnt := by rw [Int32.lt_iff_toInt_lt]; have := hinv.1; omega
      refine Wk.go (A' := TL.setTop (mkF m 10 #[rv ar, iv ia, jv wv, .second, iv cnt, iv i] [])) (fun t k => XS.icmpNo XL.here hx rfl (hb hby d1_7) rfl (tlt hc7).2.1 k) ?_
      refine Wk.go (A' := TL.setTop (mkF m 11 #[rv ar, iv ia, jv wv, .second, iv cnt, iv i] [(.ref ar)])) (fun t k => XS.aloadN XL.here hx rfl (hb hby d1_10) rfl rfl k) ?_
      refine Wk.go (A' := TL.setTop (mkF m 12 #[rv ar, iv ia, jv wv, .second, iv cnt, iv i] [(.int ia), (.ref ar)])) (fun t k => XS.iloadN XL.here hx rfl (hb hby d1_11) rfl k) ?_
      refine Wk.go (A' := TL.setTop (mkF m 14 #[rv ar, iv ia, jv wv, .second, iv cnt, iv i] [(.int i), (.int ia), (.ref ar)])) (fun t k => XS.iload XL.here hx rfl (hb hby d1_12) rfl k) ?_
      refine Wk.go (A' := TL.setTop (mkF m 15 #[rv ar, iv ia, jv wv, .second, iv cnt, iv i] [(.int (ia + i)), (.ref ar)])) (fun t k => XS.iadd XL.here hx rfl (hb hby d1_14) rfl k) ?_
      refine Wk.go (A' := TL.setTop (mkF m 16 #[rv ar, iv ia, jv wv, .second, iv cnt, iv i] [(.long wv), (.int (ia + i)), (.ref ar)])) (fun t k => XS.lloadN XL.here hx rfl (hb hby d1_15) rfl k) ?_
      refine Wk.go (A' := TL.setTop (mkF m 18 #[rv ar, iv ia, jv wv, .second, iv cnt, iv i] [(.int (8 : Int32)), (.long wv), (.int (ia + i)), (.ref ar)])) (fun t k => XS.bipush XL.here hx rfl (hb hby d1_16) k) ?_
      refine Wk.go (A' := TL.setTop (mkF m 20 #[rv ar, iv ia, jv wv, .second, iv cnt, iv i] [(.int cnt), (.int (8 : Int32)), (.long wv), (.int (ia + i)), (.ref ar)])) (fun t k => XS.iload XL.here hx rfl (hb hby d1_18) rfl k) ?_
      refine Wk.go (A' := TL.setTop (mkF m 21 #[rv ar, iv ia, jv wv, .second, iv cnt, iv i] [(.int (1 : Int32)), (.int cnt), (.int (8 : Int32)), (.long wv), (.int (ia + i)), (.ref ar)])) (fun t k => XS.iconst XL.here hx rfl (hb hby d1_20) k) ?_
      refine Wk.go (A' := TL.setTop (mkF m 22 #[rv ar, iv ia, jv wv, .second, iv cnt, iv i] [(.int (cnt - (1 : Int32))), (.int (8 : Int32)), (.long wv), (.int (ia + i)), (.ref ar)])) (fun t k => XS.isub XL.here hx rfl (hb hby d1_21) rfl k) ?_
      refine Wk.go (A' := TL.setTop (mkF m 24 #[rv ar, iv ia, jv wv, .second, iv cnt, iv i] [(.int i), (.int (cnt - (1 : Int32))), (.int (8 : Int32)), (.long wv), (.int (ia + i)), (.ref ar)])) (fun t k => XS.iload XL.here hx rfl (hb hby d1_22) rfl k) ?_
      refine Wk.go (A' := TL.setTop (mkF m 25 #[rv ar, iv ia, jv wv, .second, iv cnt, iv i] [(.int ((cnt - (1 : Int32)) - i)), (.int (8 : Int32)), (.long wv), (.int (ia + i)), (.ref ar)])) (fun t k => XS.isub XL.here hx rfl (hb hby d1_24) rfl k) ?_
      refine Wk.go (A' := TL.setTop (mkF m 26 #[rv ar, iv ia, jv wv, .second, iv cnt, iv i] [(.int ((8 : Int32) * ((cnt - (1 : Int32)) - i))), (.long wv), (.int (ia + i)), (.ref ar)])) (fun t k => XS.imul XL.here hx rfl (hb hby d1_25) rfl k) ?_
      refine Wk.go (A' := TL.setTop (mkF m 27 #[rv ar, iv ia, jv wv, .second, iv cnt, iv i] [(.long ((wv.toUInt64 >>> (((8 : Int32) * ((cnt - (1 : Int32)) - i)) &&& 0x3f).toInt64.toUInt64).toInt64)), (.int (ia + i)), (.ref ar)])) (fun t k => XS.lushr XL.here hx rfl (hb hby d1_26) rfl k) ?_
      refine Wk.go (A' := TL.setTop (mkF m 28 #[rv ar, iv ia, jv wv, .second, iv cnt, iv i] [(.int (((wv.toUInt64 >>> (((8 : Int32) * ((cnt - (1 : Int32)) - i)) &&& 0x3f).toInt64.toUInt64).toInt64).toInt32)), (.int (ia + i)), (.ref ar)])) (fun t k => XS.l2i XL.here hx rfl (hb hby d1_27) rfl k) ?_
      refine Wk.go (A' := TL.setTop (mkF m 29 #[rv ar, iv ia, jv wv, .second, iv cnt, iv i] [(.int ((((wv.toUInt64 >>> (((8 : Int32) * ((cnt - (1 : Int32)) - i)) &&& 0x3f).toInt64.toUInt64).toInt64).toInt32).toInt8.toInt32)), (.int (ia + i)), (.ref ar)])) (fun t k => XS.i2b XL.here hx rfl (hb hby d1_28) rfl k) ?_
      obtain ⟨T1, h1, X1, e1, W1, B1, st1⟩ := own_stB XL hx hZ eL fL0 (j := (ia + i)) (by have := hinv.1; have e := (own_add pA hinv.2 (by omega)).1; have := hinv.2; omega) (g := (mkF m 29 #[rv ar, iv ia, jv wv, .second, iv cnt, iv i] [(.int ((((wv.toUInt64 >>> (((8 : Int32) * ((cnt - (1 : Int32)) - i)) &&& 0x3f).toInt64.toUInt64).toInt64).toInt32).toInt8.toInt32)), (.int (ia + i)), (.ref ar)])) rfl rfl (hb hby d1_29)
      have V1 : BA Z h1 ar 12 (own_upd (own_put fB ia wv cnt i) ((ia + i)).toNatClampNeg (((((wv.toUInt64 >>> (((8 : Int32) * ((cnt - (1 : Int32)) - i)) &&& 0x3f).toInt64.toUInt64).toInt64).toInt32).toInt8.toInt32)).toInt8.toInt32) := B1
      have f2 := V1
      have Zp1 : n0 ≤ h1.size := Nat.le_trans ZL (Nat.le_of_eq W1.size.symm)
      have K1 := KL.wr W1 (Or.inl (List.mem_of_getElem? (i := 0) rfl))
      have N1 := Fr.snoc X1 NL g_ar
      refine Wk.go (A' := T1.setTop (mkF m 30 #[rv ar, iv ia, jv wv, .second, iv cnt, iv i] [])) (fun t k => st1 t k) ?_
      have f3 : BA Z h1 ar 12 (own_put fB ia wv cnt (i + (1 : Int32))) := by rw [← own_put_s fB ia wv cnt i pA hinv.2 (by have := hinv.1; omega), ← own_nar]; exact f2
      refine Wk.go (A' := T1.setTop (mkF m 33 #[rv ar, iv ia, jv wv, .second, iv cnt, iv (i + (1 : Int32))] [])) (fun t k => XS.iinc X1.here hx rfl (hb hby d1_30) rfl (l' := #[rv ar, iv ia, jv wv, .second, iv cnt, iv (i + (1 : Int32))]) rfl k) ?_
      refine Wk.go (A' := T1.setTop (mkF m 3 #[rv ar, iv ia, jv wv, .second, iv cnt, iv (i + (1 : Int32))] [])) (fun t k => XS.goto X1.here hx rfl (pc0 := 33) (pc' := 3) rfl (hb hby d1_33) (by decide) (by decide) k) ?_
      exact ih (i + (1 : Int32))  T1 h1 _ X1 e1 N1 Zp1 K1 f3 (⟨by have := hinv.1; have := own_n1 hinv.1 hinv.2 pC; omega, by have := hinv.2; have := own_n1 hinv.1 hinv.2 pC; omega⟩)
  exact loop3 cnt.toInt.toNat (0 : Int32)   s₁ h0 _ X0 e0 N0 Z0 K0 V0' (⟨by have e0 : (0 : Int32).toInt = 0 := (by decide); omega, by decide⟩)
theorem d2_0 : decode method_3_code 0 = .ok (.iload 4, 2) := by decide +kernel
theorem d2_2 : decode method_3_code 2 = .ok (.iload 5, 2) := by decide +kernel
theorem d2_4 : decode method_3_code 4 = .ok (.if_icmp .lt 5, 3) := by decide +kernel
theorem d2_9 : decode method_3_code 9 = .ok (.lload_n 0, 1) := by decide +kernel
theorem d2_10 : decode method_3_code 10 = .ok (.bipush 8, 2) := by decide +kernel
theorem d2_12 : decode method_3_code 12 = .ok (.lshl, 1) := by decide +kernel
theorem d2_13 : decode method_3_code 13 = .ok (.aload_n 2, 1) := by decide +kernel
theorem d2_14 : decode method_3_code 14 = .ok (.iload_n 3, 1) := by decide +kernel
theorem d2_15 : decode method_3_code 15 = .ok (.iload 4, 2) := by decide +kernel
theorem d2_17 : decode method_3_code 17 = .ok (.iadd, 1) := by decide +kernel
theorem d2_18 : decode method_3_code 18 = .ok (.baload, 1) := by decide +kernel
theorem d2_19 : decode method_3_code 19 = .ok (.i2l, 1) := by decide +kernel
theorem tw10 {Z : State} {a0 : Array Value} (hw : ∀ d ∈ tables_1, d.before a0 Z = true) : (Jvm.Cond.constantLong "com/example/pledge/pledge/log/PayloadWriterPutBigEndianPinLaw" (26 : Nat) (255 : Int64)).before a0 Z = true := hw _ (List.mem_of_getElem? (i := 10) rfl)
theorem d2_20 : decode method_3_code 20 = .ok (.ldc2_w 26, 3) := by decide +kernel
theorem d2_23 : decode method_3_code 23 = .ok (.land, 1) := by decide +kernel
theorem d2_24 : decode method_3_code 24 = .ok (.lor, 1) := by decide +kernel
theorem d2_25 : decode method_3_code 25 = .ok (.lreturn, 1) := by decide +kernel
theorem d2_7 : decode method_3_code 7 = .ok (.lload_n 0, 1) := by decide +kernel
theorem d2_8 : decode method_3_code 8 = .ok (.lreturn, 1) := by decide +kernel
theorem pn_1 : plainName "com/example/pledge/pledge/log/PayloadWriterPutBigEndianPinLaw" = true := by first | (simp [plainName, overriddenIn]; done) | decide +kernel
theorem ef_2 (m : MethodId) (x0 : Int64) (x1 : Addr) (x2 : Int32) (x3 : Int32) (x4 : Int32) : entryFrame m #[(.long x0), (.ref x1), (.int x2), (.int x3), (.int x4)] 6 = mkF m 0 #[jv x0, .second, rv x1, iv x2, iv x3, iv x4] [] := by first | (simp [entryFrame, mkF, argsToLocals, Value.category]; done) | rfl
def f_step (rr : Int64) (ar : Addr) (ia : Int32) (ix : Int32) (cnt : Int32) (fB : Nat → Int32) : Int64 := (if ix < cnt then ((rr <<< ((8 : Int32) &&& 0x3f).toInt64) ||| (((fB ((ia + ix)).toNatClampNeg).toInt64) &&& (255 : Int64))) else rr)
def Q2 (Z : State) (rr : Int64) (ar : Addr) (ia : Int32) (ix : Int32) (cnt : Int32) (fB : Nat → Int32) (h0 : Heap) (n0 : Nat) (v : Option Value) (h : Heap) (L : List Loc) : Prop := v = some (.long (f_step rr ar ia ix cnt fB)) ∧ Fr n0 L ∧ h = h0
set_option maxRecDepth 65536 in
set_option maxHeartbeats 40000000 in
theorem rm2 (l : Launch) (Z : State) (a0 : Array Value) (hw : ∀ d ∈ tables_1, d.before a0 Z = true) (ws : List Jvm.Cond) (rr : Int64) (ar : Addr) (ia : Int32) (ix : Int32) (cnt : Int32) (fB : Nat → Int32) (h0 : Heap) (n0 : Nat) (Z0 : n0 ≤ h0.size) (VB : BA Z h0 ar 12 fB) (hin : ix < cnt → 0 ≤ (ia + ix).toInt ∧ (ia + ix).toInt < ((12 : Nat) : Int)) :
    MetFree l (⟨"com/example/pledge/pledge/log/PayloadWriterPutBigEndianPinLaw", "step", "(J[BIII)J"⟩ : MethodName) (head1 (Jvm.Cond.code (⟨"com/example/pledge/pledge/log/PayloadWriterPutBigEndianPinLaw", "step", "(J[BIII)J"⟩ : MethodName) method_3_code 6 (some .long) :: ws) ({ frames := 0, cells := 0, slots := 0, locals := 0 } : Room)) (fun a U => a = #[(.long rr), (.ref ar), (.int ia), (.int ix), (.int cnt)] ∧ Z.Warmed39 U.vm ∧ U.heap = h0) (fun _ _ _ _ _ => True) (fun _ U o U' => ∃ v L, o = .returned v ∧ Q2 Z rr ar ia ix cnt fB h0 n0 v U'.heap L ∧ FrameEnd U o U' L ({ frames := 0, cells := 0, slots := 0, locals := 0 } : Room).cells ({ frames := 0, cells := 0, slots := 0, locals := 0 } : Room).slots) := by
  refine MetFree.of_bodySF (plainFor_of_name pn_1) hisR ?_
  intro p e s m args below meth c s₁ Bd hml0 hP hK
  obtain ⟨rfl, hZ, hh⟩ := hP
  have hx := Bd.exec
  have hby := Bd.bytes
  have hml : c.maxLocals = 6 := hml0
  have hown : s.vm.findClass "com/example/pledge/pledge/log/PayloadWriterPutBigEndianPinLaw" = some m.cls := findClass_of_methodNamed Bd.named
  have hnm := (name_of_methodNamed Bd.named Bd.method).1
  have X0 : Stand p l e ({ frames := 0, cells := 0, slots := 0, locals := 0 } : Room) s m #[(.long rr), (.ref ar), (.int ia), (.int ix), (.int cnt)] below meth c s₁ [] 0 0 := Stand.of_body Bd
  have e0 : s₁.heap = h0 := by rw [← hh, Bd.state]; rfl
  have N0 := Fr.nil n0
  have hlk : meth.locks = false := BodyLoose.notSynchronized Bd
  suffices hwk : Wk p.tables e below (s₁.setTop (mkF m 0 #[jv rr, .second, rv ar, iv ia, iv ix, iv cnt] [])) (fun U o => U.status = .running ∧ Ended U below o ∧ ∃ v L, o = .returned v ∧ Q2 Z rr ar ia ix cnt fB h0 n0 v U.heap L ∧ FrameEnd s o U L 0 0) by
    obtain ⟨U, o, k1, k2⟩ := hwk
    exact ⟨U, o, castTop (ef_2 m rr ar ia ix cnt) k1, k2⟩
  refine Wk.go (A' := s₁.setTop (mkF m 2 #[jv rr, .second, rv ar, iv ia, iv ix, iv cnt] [(.int ix)])) (fun t k => XS.iload X0.here hx rfl (hb hby d2_0) rfl k) ?_
  refine Wk.go (A' := s₁.setTop (mkF m 4 #[jv rr, .second, rv ar, iv ia, iv ix, iv cnt] [(.int cnt), (.int ix)])) (fun t k => XS.iload X0.here hx rfl (hb hby d2_2) rfl k) ?_
  by_cases hc4 : ix < cnt
  · refine Wk.go (A' := s₁.setTop (mkF m 9 #[jv rr, .second, rv ar, iv ia, iv ix, iv cnt] [])) (fun t k => XS.icmpYes X0.here hx rfl (pc0 := 4) (pc' := 9) rfl (hb hby d2_4) rfl (tlt hc4).1 (by decide) (by decide) k) ?_
    refine Wk.go (A' := s₁.setTop (mkF m 10 #[jv rr, .second, rv ar, iv ia, iv ix, iv cnt] [(.long rr)])) (fun t k => XS.lloadN X0.here hx rfl (hb hby d2_9) rfl k) ?_
    refine Wk.go (A' := s₁.setTop (mkF m 12 #[jv rr, .second, rv ar, iv ia, iv ix, iv cnt] [(.int (8 : Int32)), (.long rr)])) (fun t k => XS.bipush X0.here hx rfl (hb hby d2_10) k) ?_
    refine Wk.go (A' := s₁.setTop (mkF m 13 #[jv rr, .second, rv ar, iv ia, iv ix, iv cnt] [(.long (rr <<< ((8 : Int32) &&& 0x3f).toInt64))])) (fun t k => XS.lshl X0.here hx rfl (hb hby d2_12) rfl k) ?_
    refine Wk.go (A' := s₁.setTop (mkF m 14 #[jv rr, .second, rv ar, iv ia, iv ix, iv cnt] [(.ref ar), (.long (rr <<< ((8 : Int32) &&& 0x3f).toInt64))])) (fun t k => XS.aloadN X0.here hx rfl (hb hby d2_13) rfl rfl k) ?_
    refine Wk.go (A' := s₁.setTop (mkF m 15 #[jv rr, .second, rv ar, iv ia, iv ix, iv cnt] [(.int ia), (.ref ar), (.long (rr <<< ((8 : Int32) &&& 0x3f).toInt64))])) (fun t k => XS.iloadN X0.here hx rfl (hb hby d2_14) rfl k) ?_
    refine Wk.go (A' := s₁.setTop (mkF m 17 #[jv rr, .second, rv ar, iv ia, iv ix, iv cnt] [(.int ix), (.int ia), (.ref ar), (.long (rr <<< ((8 : Int32) &&& 0x3f).toInt64))])) (fun t k => XS.iload X0.here hx rfl (hb hby d2_15) rfl k) ?_
    refine Wk.go (A' := s₁.setTop (mkF m 18 #[jv rr, .second, rv ar, iv ia, iv ix, iv cnt] [(.int (ia + ix)), (.ref ar), (.long (rr <<< ((8 : Int32) &&& 0x3f).toInt64))])) (fun t k => XS.iadd X0.here hx rfl (hb hby d2_17) rfl k) ?_
    refine Wk.go (A' := s₁.setTop (mkF m 19 #[jv rr, .second, rv ar, iv ia, iv ix, iv cnt] [(.int (fB ((ia + ix)).toNatClampNeg)), (.long (rr <<< ((8 : Int32) &&& 0x3f).toInt64))])) (fun t k => own_ldB X0 hx hZ e0 VB (j := (ia + ix)) (hin hc4) (g := (mkF m 18 #[jv rr, .second, rv ar, iv ia, iv ix, iv cnt] [(.int (ia + ix)), (.ref ar), (.long (rr <<< ((8 : Int32) &&& 0x3f).toInt64))])) rfl rfl (hb hby d2_18) t k) ?_
    refine Wk.go (A' := s₁.setTop (mkF m 20 #[jv rr, .second, rv ar, iv ia, iv ix, iv cnt] [(.long ((fB ((ia + ix)).toNatClampNeg).toInt64)), (.long (rr <<< ((8 : Int32) &&& 0x3f).toInt64))])) (fun t k => XS.i2l X0.here hx rfl (hb hby d2_19) rfl k) ?_
    refine Wk.go (A' := s₁.setTop (mkF m 23 #[jv rr, .second, rv ar, iv ia, iv ix, iv cnt] [(.long (255 : Int64)), (.long ((fB ((ia + ix)).toNatClampNeg).toInt64)), (.long (rr <<< ((8 : Int32) &&& 0x3f).toInt64))])) (fun t k => X0.ldc2Long hx hown (mvT hZ (tw10 hw)) (g := (mkF m 20 #[jv rr, .second, rv ar, iv ia, iv ix, iv cnt] [(.long ((fB ((ia + ix)).toNatClampNeg).toInt64)), (.long (rr <<< ((8 : Int32) &&& 0x3f).toInt64))])) rfl (hb hby d2_20) t k) ?_
    refine Wk.go (A' := s₁.setTop (mkF m 24 #[jv rr, .second, rv ar, iv ia, iv ix, iv cnt] [(.long (((fB ((ia + ix)).toNatClampNeg).toInt64) &&& (255 : Int64))), (.long (rr <<< ((8 : Int32) &&& 0x3f).toInt64))])) (fun t k => XS.land X0.here hx rfl (hb hby d2_23) rfl k) ?_
    refine Wk.go (A' := s₁.setTop (mkF m 25 #[jv rr, .second, rv ar, iv ia, iv ix, iv cnt] [(.long ((rr <<< ((8 : Int32) &&& 0x3f).toInt64) ||| (((fB ((ia + ix)).toNatClampNeg).toInt64) &&& (255 : Int64))))])) (fun t k => XS.lor X0.here hx rfl (hb hby d2_24) rfl k) ?_
    refine own_fin (Qv := Q2 Z rr ar ia ix cnt fB h0 n0) (v := some (.long ((rr <<< ((8 : Int32) &&& 0x3f).toInt64) ||| (((fB ((ia + ix)).toNatClampNeg).toInt64) &&& (255 : Int64))))) X0 hlk (fun h => by rw [Bd.returns] at h; cases h) (fun fs hr => X0.lreturnOut hx Bd.returns (hb hby d2_25) hr) ?_ (by decide) (by decide)
    refine ⟨?_, N0, e0⟩
    simp only [f_step, if_pos hc4]
  · refine Wk.go (A' := s₁.setTop (mkF m 7 #[jv rr, .second, rv ar, iv ia, iv ix, iv cnt] [])) (fun t k => XS.icmpNo X0.here hx rfl (hb hby d2_4) rfl (flt hc4).1 k) ?_
    refine Wk.go (A' := s₁.setTop (mkF m 8 #[jv rr, .second, rv ar, iv ia, iv ix, iv cnt] [(.long rr)])) (fun t k => XS.lloadN X0.here hx rfl (hb hby d2_7) rfl k) ?_
    refine own_fin (Qv := Q2 Z rr ar ia ix cnt fB h0 n0) (v := some (.long rr)) X0 hlk (fun h => by rw [Bd.returns] at h; cases h) (fun fs hr => X0.lreturnOut hx Bd.returns (hb hby d2_8) hr) ?_ (by decide) (by decide)
    refine ⟨?_, N0, e0⟩
    simp only [f_step, if_neg hc4]
theorem d3_0 : decode method_4_code 0 = .ok (.iload_n 1, 1) := by decide +kernel
theorem d3_1 : decode method_4_code 1 = .ok (.iload_n 2, 1) := by decide +kernel
theorem d3_2 : decode method_4_code 2 = .ok (.if_icmp .lt 12, 3) := by decide +kernel
theorem d3_14 : decode method_4_code 14 = .ok (.aload_n 0, 1) := by decide +kernel
theorem d3_15 : decode method_4_code 15 = .ok (.iload_n 1, 1) := by decide +kernel
theorem d3_16 : decode method_4_code 16 = .ok (.baload, 1) := by decide +kernel
theorem d3_17 : decode method_4_code 17 = .ok (.iload 4, 2) := by decide +kernel
theorem d3_19 : decode method_4_code 19 = .ok (.if_icmp .ne 7, 3) := by decide +kernel
theorem d3_22 : decode method_4_code 22 = .ok (.iconst 1, 1) := by decide +kernel
theorem d3_23 : decode method_4_code 23 = .ok (.goto 4, 3) := by decide +kernel
theorem d3_27 : decode method_4_code 27 = .ok (.ireturn, 1) := by decide +kernel
theorem d3_26 : decode method_4_code 26 = .ok (.iconst 0, 1) := by decide +kernel
theorem d3_5 : decode method_4_code 5 = .ok (.iload_n 1, 1) := by decide +kernel
theorem d3_6 : decode method_4_code 6 = .ok (.iload_n 2, 1) := by decide +kernel
theorem d3_7 : decode method_4_code 7 = .ok (.iload_n 3, 1) := by decide +kernel
theorem d3_8 : decode method_4_code 8 = .ok (.iadd, 1) := by decide +kernel
theorem d3_9 : decode method_4_code 9 = .ok (.if_icmp .ge 5, 3) := by decide +kernel
theorem d3_12 : decode method_4_code 12 = .ok (.iconst 1, 1) := by decide +kernel
theorem d3_13 : decode method_4_code 13 = .ok (.ireturn, 1) := by decide +kernel
theorem ef_3 (m : MethodId) (x0 : Addr) (x1 : Int32) (x2 : Int32) (x3 : Int32) (x4 : Int32) : entryFrame m #[(.ref x0), (.int x1), (.int x2), (.int x3), (.int x4)] 5 = mkF m 0 #[rv x0, iv x1, iv x2, iv x3, iv x4] [] := by first | (simp [entryFrame, mkF, argsToLocals, Value.category]; done) | rfl
def f_keeps (ar : Addr) (jx : Int32) (ia : Int32) (cnt : Int32) (fl : Int32) (fB : Nat → Int32) : Int32 := (if jx < ia then (if (fB (jx).toNatClampNeg) = fl then (1 : Int32) else (0 : Int32)) else (if jx < (ia + cnt) then (1 : Int32) else (if (fB (jx).toNatClampNeg) = fl then (1 : Int32) else (0 : Int32))))
def Q3 (Z : State) (ar : Addr) (jx : Int32) (ia : Int32) (cnt : Int32) (fl : Int32) (fB : Nat → Int32) (h0 : Heap) (n0 : Nat) (v : Option Value) (h : Heap) (L : List Loc) : Prop := v = some (.int (f_keeps ar jx ia cnt fl fB)) ∧ Fr n0 L ∧ h = h0
set_option maxRecDepth 65536 in
set_option maxHeartbeats 40000000 in
theorem rm3 (l : Launch) (Z : State) (a0 : Array Value) (hw : ∀ d ∈ tables_1, d.before a0 Z = true) (ws : List Jvm.Cond) (ar : Addr) (jx : Int32) (ia : Int32) (cnt : Int32) (fl : Int32) (fB : Nat → Int32) (h0 : Heap) (n0 : Nat) (Z0 : n0 ≤ h0.size) (VB : BA Z h0 ar 12 fB) (hjx : 0 ≤ jx.toInt ∧ jx.toInt < ((12 : Nat) : Int)) :
    MetFree l (⟨"com/example/pledge/pledge/log/PayloadWriterPutBigEndianPinLaw", "keeps", "([BIIIB)Z"⟩ : MethodName) (head1 (Jvm.Cond.code (⟨"com/example/pledge/pledge/log/PayloadWriterPutBigEndianPinLaw", "keeps", "([BIIIB)Z"⟩ : MethodName) method_4_code 5 (some .boolean) :: ws) ({ frames := 0, cells := 0, slots := 0, locals := 0 } : Room)) (fun a U => a = #[(.ref ar), (.int jx), (.int ia), (.int cnt), (.int fl)] ∧ Z.Warmed39 U.vm ∧ U.heap = h0) (fun _ _ _ _ _ => True) (fun _ U o U' => ∃ v L, o = .returned v ∧ Q3 Z ar jx ia cnt fl fB h0 n0 v U'.heap L ∧ FrameEnd U o U' L ({ frames := 0, cells := 0, slots := 0, locals := 0 } : Room).cells ({ frames := 0, cells := 0, slots := 0, locals := 0 } : Room).slots) := by
  refine MetFree.of_bodySF (plainFor_of_name pn_1) hisR ?_
  intro p e s m args below meth c s₁ Bd hml0 hP hK
  obtain ⟨rfl, hZ, hh⟩ := hP
  have hx := Bd.exec
  have hby := Bd.bytes
  have hml : c.maxLocals = 5 := hml0
  have hown : s.vm.findClass "com/example/pledge/pledge/log/PayloadWriterPutBigEndianPinLaw" = some m.cls := findClass_of_methodNamed Bd.named
  have hnm := (name_of_methodNamed Bd.named Bd.method).1
  have X0 : Stand p l e ({ frames := 0, cells := 0, slots := 0, locals := 0 } : Room) s m #[(.ref ar), (.int jx), (.int ia), (.int cnt), (.int fl)] below meth c s₁ [] 0 0 := Stand.of_body Bd
  have e0 : s₁.heap = h0 := by rw [← hh, Bd.state]; rfl
  have N0 := Fr.nil n0
  have hlk : meth.locks = false := BodyLoose.notSynchronized Bd
  suffices hwk : Wk p.tables e below (s₁.setTop (mkF m 0 #[rv ar, iv jx, iv ia, iv cnt, iv fl] [])) (fun U o => U.status = .running ∧ Ended U below o ∧ ∃ v L, o = .returned v ∧ Q3 Z ar jx ia cnt fl fB h0 n0 v U.heap L ∧ FrameEnd s o U L 0 0) by
    obtain ⟨U, o, k1, k2⟩ := hwk
    exact ⟨U, o, castTop (ef_3 m ar jx ia cnt fl) k1, k2⟩
  refine Wk.go (A' := s₁.setTop (mkF m 1 #[rv ar, iv jx, iv ia, iv cnt, iv fl] [(.int jx)])) (fun t k => XS.iloadN X0.here hx rfl (hb hby d3_0) rfl k) ?_
  refine Wk.go (A' := s₁.setTop (mkF m 2 #[rv ar, iv jx, iv ia, iv cnt, iv fl] [(.int ia), (.int jx)])) (fun t k => XS.iloadN X0.here hx rfl (hb hby d3_1) rfl k) ?_
  by_cases hc2 : jx < ia
  · refine Wk.go (A' := s₁.setTop (mkF m 14 #[rv ar, iv jx, iv ia, iv cnt, iv fl] [])) (fun t k => XS.icmpYes X0.here hx rfl (pc0 := 2) (pc' := 14) rfl (hb hby d3_2) rfl (tlt hc2).1 (by decide) (by decide) k) ?_
    refine Wk.go (A' := s₁.setTop (mkF m 15 #[rv ar, iv jx, iv ia, iv cnt, iv fl] [(.ref ar)])) (fun t k => XS.aloadN X0.here hx rfl (hb hby d3_14) rfl rfl k) ?_
    refine Wk.go (A' := s₁.setTop (mkF m 16 #[rv ar, iv jx, iv ia, iv cnt, iv fl] [(.int jx), (.ref ar)])) (fun t k => XS.iloadN X0.here hx rfl (hb hby d3_15) rfl k) ?_
    refine Wk.go (A' := s₁.setTop (mkF m 17 #[rv ar, iv jx, iv ia, iv cnt, iv fl] [(.int (fB (jx).toNatClampNeg))])) (fun t k => own_ldB X0 hx hZ e0 VB (j := jx) hjx (g := (mkF m 16 #[rv ar, iv jx, iv ia, iv cnt, iv fl] [(.int jx), (.ref ar)])) rfl rfl (hb hby d3_16) t k) ?_
    refine Wk.go (A' := s₁.setTop (mkF m 19 #[rv ar, iv jx, iv ia, iv cnt, iv fl] [(.int fl), (.int (fB (jx).toNatClampNeg))])) (fun t k => XS.iload X0.here hx rfl (hb hby d3_17) rfl k) ?_
    by_cases hc19 : (fB (jx).toNatClampNeg) = fl
    · refine Wk.go (A' := s₁.setTop (mkF m 22 #[rv ar, iv jx, iv ia, iv cnt, iv fl] [])) (fun t k => XS.icmpNo X0.here hx rfl (hb hby d3_19) rfl (teq hc19).2 k) ?_
      refine Wk.go (A' := s₁.setTop (mkF m 23 #[rv ar, iv jx, iv ia, iv cnt, iv fl] [(.int (1 : Int32))])) (fun t k => XS.iconst X0.here hx rfl (hb hby d3_22) k) ?_
      refine Wk.go (A' := s₁.setTop (mkF m 27 #[rv ar, iv jx, iv ia, iv cnt, iv fl] [(.int (1 : Int32))])) (fun t k => XS.goto X0.here hx rfl (pc0 := 23) (pc' := 27) rfl (hb hby d3_23) (by decide) (by decide) k) ?_
      refine own_fin (Qv := Q3 Z ar jx ia cnt fl fB h0 n0) (v := some (.int (1 : Int32))) X0 hlk (fun h => by rw [Bd.returns] at h; cases h) (fun fs hr => retN X0 hx (t := .boolean) Bd.returns (by simp) (hb hby d3_27) hr) ?_ (by decide) (by decide)
      refine ⟨?_, N0, e0⟩
      simp only [f_keeps, if_pos hc2, if_pos hc19]
    · refine Wk.go (A' := s₁.setTop (mkF m 26 #[rv ar, iv jx, iv ia, iv cnt, iv fl] [])) (fun t k => XS.icmpYes X0.here hx rfl (pc0 := 19) (pc' := 26) rfl (hb hby d3_19) rfl (feq hc19).2 (by decide) (by decide) k) ?_
      refine Wk.go (A' := s₁.setTop (mkF m 27 #[rv ar, iv jx, iv ia, iv cnt, iv fl] [(.int (0 : Int32))])) (fun t k => XS.iconst X0.here hx rfl (hb hby d3_26) k) ?_
      refine own_fin (Qv := Q3 Z ar jx ia cnt fl fB h0 n0) (v := some (.int (0 : Int32))) X0 hlk (fun h => by rw [Bd.returns] at h; cases h) (fun fs hr => retN X0 hx (t := .boolean) Bd.returns (by simp) (hb hby d3_27) hr) ?_ (by decide) (by decide)
      refine ⟨?_, N0, e0⟩
      simp only [f_keeps, if_pos hc2, if_neg hc19]
  · refine Wk.go (A' := s₁.setTop (mkF m 5 #[rv ar, iv jx, iv ia, iv cnt, iv fl] [])) (fun t k => XS.icmpNo X0.here hx rfl (hb hby d3_2) rfl (flt hc2).1 k) ?_
    refine Wk.go (A' := s₁.setTop (mkF m 6 #[rv ar, iv jx, iv ia, iv cnt, iv fl] [(.int jx)])) (fun t k => XS.iloadN X0.here hx rfl (hb hby d3_5) rfl k) ?_
    refine Wk.go (A' := s₁.setTop (mkF m 7 #[rv ar, iv jx, iv ia, iv cnt, iv fl] [(.int ia), (.int jx)])) (fun t k => XS.iloadN X0.here hx rfl (hb hby d3_6) rfl k) ?_
    refine Wk.go (A' := s₁.setTop (mkF m 8 #[rv ar, iv jx, iv ia, iv cnt, iv fl] [(.int cnt), (.int ia), (.int jx)])) (fun t k => XS.iloadN X0.here hx rfl (hb hby d3_7) rfl k) ?_
    refine Wk.go (A' := s₁.setTop (mkF m 9 #[rv ar, iv jx, iv ia, iv cnt, iv fl] [(.int (ia + cnt)), (.int jx)])) (fun t k => XS.iadd X0.here hx rfl (hb hby d3_8) rfl k) ?_
    by_cases hc9 : jx < (ia + cnt)
    · refine Wk.go (A' := s₁.setTop (mkF m 12 #[rv ar, iv jx, iv ia, iv cnt, iv fl] [])) (fun t k => XS.icmpNo X0.here hx rfl (hb hby d3_9) rfl (tlt hc9).2.1 k) ?_
      refine Wk.go (A' := s₁.setTop (mkF m 13 #[rv ar, iv jx, iv ia, iv cnt, iv fl] [(.int (1 : Int32))])) (fun t k => XS.iconst X0.here hx rfl (hb hby d3_12) k) ?_
      refine own_fin (Qv := Q3 Z ar jx ia cnt fl fB h0 n0) (v := some (.int (1 : Int32))) X0 hlk (fun h => by rw [Bd.returns] at h; cases h) (fun fs hr => retN X0 hx (t := .boolean) Bd.returns (by simp) (hb hby d3_13) hr) ?_ (by decide) (by decide)
      refine ⟨?_, N0, e0⟩
      simp only [f_keeps, if_neg hc2, if_pos hc9]
    · refine Wk.go (A' := s₁.setTop (mkF m 14 #[rv ar, iv jx, iv ia, iv cnt, iv fl] [])) (fun t k => XS.icmpYes X0.here hx rfl (pc0 := 9) (pc' := 14) rfl (hb hby d3_9) rfl (flt hc9).2.1 (by decide) (by decide) k) ?_
      refine Wk.go (A' := s₁.setTop (mkF m 15 #[rv ar, iv jx, iv ia, iv cnt, iv fl] [(.ref ar)])) (fun t k => XS.aloadN X0.here hx rfl (hb hby d3_14) rfl rfl k) ?_
      refine Wk.go (A' := s₁.setTop (mkF m 16 #[rv ar, iv jx, iv ia, iv cnt, iv fl] [(.int jx), (.ref ar)])) (fun t k => XS.iloadN X0.here hx rfl (hb hby d3_15) rfl k) ?_
      refine Wk.go (A' := s₁.setTop (mkF m 17 #[rv ar, iv jx, iv ia, iv cnt, iv fl] [(.int (fB (jx).toNatClampNeg))])) (fun t k => own_ldB X0 hx hZ e0 VB (j := jx) hjx (g := (mkF m 16 #[rv ar, iv jx, iv ia, iv cnt, iv fl] [(.int jx), (.ref ar)])) rfl rfl (hb hby d3_16) t k) ?_
      refine Wk.go (A' := s₁.setTop (mkF m 19 #[rv ar, iv jx, iv ia, iv cnt, iv fl] [(.int fl), (.int (fB (jx).toNatClampNeg))])) (fun t k => XS.iload X0.here hx rfl (hb hby d3_17) rfl k) ?_
      by_cases hc19 : (fB (jx).toNatClampNeg) = fl
      · refine Wk.go (A' := s₁.setTop (mkF m 22 #[rv ar, iv jx, iv ia, iv cnt, iv fl] [])) (fun t k => XS.icmpNo X0.here hx rfl (hb hby d3_19) rfl (teq hc19).2 k) ?_
        refine Wk.go (A' := s₁.setTop (mkF m 23 #[rv ar, iv jx, iv ia, iv cnt, iv fl] [(.int (1 : Int32))])) (fun t k => XS.iconst X0.here hx rfl (hb hby d3_22) k) ?_
        refine Wk.go (A' := s₁.setTop (mkF m 27 #[rv ar, iv jx, iv ia, iv cnt, iv fl] [(.int (1 : Int32))])) (fun t k => XS.goto X0.here hx rfl (pc0 := 23) (pc' := 27) rfl (hb hby d3_23) (by decide) (by decide) k) ?_
        refine own_fin (Qv := Q3 Z ar jx ia cnt fl fB h0 n0) (v := some (.int (1 : Int32))) X0 hlk (fun h => by rw [Bd.returns] at h; cases h) (fun fs hr => retN X0 hx (t := .boolean) Bd.returns (by simp) (hb hby d3_27) hr) ?_ (by decide) (by decide)
        refine ⟨?_, N0, e0⟩
        simp only [f_keeps, if_neg hc2, if_neg hc9, if_pos hc19]
      · refine Wk.go (A' := s₁.setTop (mkF m 26 #[rv ar, iv jx, iv ia, iv cnt, iv fl] [])) (fun t k => XS.icmpYes X0.here hx rfl (pc0 := 19) (pc' := 26) rfl (hb hby d3_19) rfl (feq hc19).2 (by decide) (by decide) k) ?_
        refine Wk.go (A' := s₁.setTop (mkF m 27 #[rv ar, iv jx, iv ia, iv cnt, iv fl] [(.int (0 : Int32))])) (fun t k => XS.iconst X0.here hx rfl (hb hby d3_26) k) ?_
        refine own_fin (Qv := Q3 Z ar jx ia cnt fl fB h0 n0) (v := some (.int (0 : Int32))) X0 hlk (fun h => by rw [Bd.returns] at h; cases h) (fun fs hr => retN X0 hx (t := .boolean) Bd.returns (by simp) (hb hby d3_27) hr) ?_ (by decide) (by decide)
        refine ⟨?_, N0, e0⟩
        simp only [f_keeps, if_neg hc2, if_neg hc9, if_neg hc19]
theorem own_in {ia ix cnt : Int32} (h0 : 0 ≤ ia.toInt) (h5 : ia.toInt + cnt.toInt ≤ 12) (hi : 0 ≤ ix.toInt) : ix < cnt → 0 ≤ (ia + ix).toInt ∧ (ia + ix).toInt < ((12 : Nat) : Int) := fun h => by
  rw [Int32.lt_iff_toInt_lt] at h
  have := (own_add h0 hi (by omega)).1
  omega
theorem own_put_in (f : Nat → Int32) {ia : Int32} (w : Int64) {cnt i : Int32} (h0 : 0 ≤ ia.toInt) (h5 : ia.toInt + cnt.toInt ≤ 12) (hi : 0 ≤ i.toInt) (h : i < cnt) : own_put f ia w cnt cnt (ia + i).toNatClampNeg = own_byte w cnt i := by
  rw [Int32.lt_iff_toInt_lt] at h
  obtain ⟨a1, a2⟩ := own_add h0 hi (by omega)
  unfold own_put
  rw [if_pos (by omega)]
  congr 1
  have : ((ia + i).toNatClampNeg : Int) - ia.toInt = i.toInt := by omega
  rw [this, Int32.ofInt_toInt]
theorem own_keep (ar : Addr) {f g : Nat → Int32} {ia cnt j fl : Int32} (w : Int64) (h0 : 0 ≤ ia.toInt) (hc : 0 ≤ cnt.toInt) (h5 : ia.toInt + cnt.toInt ≤ 12) (hg : g = own_put f ia w cnt cnt) (hj : 0 ≤ j.toInt ∧ j.toInt < ((12 : Nat) : Int)) (hall : ∀ n : Nat, n < 12 → f n = fl) : ¬ (f_keeps ar j ia cnt fl g = (0 : Int32)) := by
  have ha := (own_add h0 hc (by omega)).1
  have hcl := own_clamp hj.1
  unfold f_keeps
  by_cases q1 : j < ia
  · rw [if_pos q1, if_pos]
    · decide
    · rw [Int32.lt_iff_toInt_lt] at q1
      rw [hg]; unfold own_put
      rw [if_neg (by omega)]; exact hall _ (by omega)
  · rw [if_neg q1]
    by_cases q2 : j < ia + cnt
    · rw [if_pos q2]; decide
    · rw [if_neg q2, if_pos]
      · decide
      · rw [Int32.lt_iff_toInt_lt] at q1 q2
        rw [hg]; unfold own_put
        rw [if_neg (by omega)]; exact hall _ (by omega)
def own_st (r B : Int64) : Int64 := ((r <<< ((8 : Int32) &&& 0x3f).toInt64) ||| (B &&& (255 : Int64)))
theorem own_st_mod (r B : Int64) : ((own_st r B).toInt - (r.toInt * 256 + B.toInt % 256)) % 18446744073709551616 = 0 := by
  have h1 := c_lshl r 8 8 (by decide)
  have h2 := c_maskL B 255 8 (by decide) (by decide)
  have h3 := c_orL (r <<< ((8 : Int32) &&& 0x3f).toInt64) (B &&& (255 : Int64)) 8 (by decide) 256 (by decide) (by omega) (by omega) (by omega)
  unfold own_st
  omega
theorem own_byteN (w : Int64) (q : Int32) (s : Nat) (hs : q.toBitVec.toNat % 64 = s) : (((((w.toUInt64 >>> (q &&& 0x3f).toInt64.toUInt64).toInt64).toInt32).toInt8.toInt32).toInt64).toInt % 256 = (w.toInt % 18446744073709551616) / (2 ^ s : Nat) % 256 := by
  have key : (((w.toUInt64 >>> (q &&& 0x3f).toInt64.toUInt64).toInt64).toInt - (w.toInt % 18446744073709551616) / (2 ^ s : Nat)) % 18446744073709551616 = 0 := by
    by_cases hp : 0 < s
    · rw [c_lushr w q s hs hp]; omega
    · have h : s = 0 := by omega
      subst h
      have e : q &&& 0x3f = 0 := by
        apply Int32.toBitVec_inj.mp
        apply BitVec.eq_of_toNat_eq
        have : (q &&& 0x3f).toBitVec.toNat = q.toBitVec.toNat % 64 := by
          rw [Int32.toBitVec_and, BitVec.toNat_and]
          exact Nat.and_two_pow_sub_one_eq_mod _ 6
        rw [this, hs]; rfl
      rw [e]
      have : (w.toUInt64 >>> (0 : Int32).toInt64.toUInt64).toInt64 = w := by
        show (w.toUInt64 >>> (0 : UInt64)).toInt64 = w
        simp
      rw [this]; simp
  have a := c_l2i ((w.toUInt64 >>> (q &&& 0x3f).toInt64.toUInt64).toInt64)
  have b := (c_i2b ((w.toUInt64 >>> (q &&& 0x3f).toInt64.toUInt64).toInt64).toInt32).1
  rw [c_i2l]
  generalize ((w.toUInt64 >>> (q &&& 0x3f).toInt64.toUInt64).toInt64) = z at *
  generalize (w.toInt % 18446744073709551616) / ((2 ^ s : Nat) : Int) = y at *
  omega
theorem own_mod_eq (r x : Int64) (h : (r.toInt - x.toInt) % 18446744073709551616 = 0) : r = x := by
  apply Int64.toInt_inj.mp
  have a := rng64 r
  have b := rng64 x
  omega
theorem own_step_y (ar : Addr) {f g : Nat → Int32} {ia cnt i : Int32} {w r r' : Int64} (h0 : 0 ≤ ia.toInt) (h5 : ia.toInt + cnt.toInt ≤ 12) (hg : g = own_put f ia w cnt cnt) (hi : 0 ≤ i.toInt) (h : i < cnt) (hr : f_step r ar ia i cnt g = r') : own_st r (own_byte w cnt i).toInt64 = r' := by
  rw [← hr]
  unfold f_step
  rw [if_pos h, hg, own_put_in f w h0 h5 hi h]; rfl
theorem own_step_n (ar : Addr) {g : Nat → Int32} {ia cnt i : Int32} {r r' : Int64} (h : ¬ i < cnt) (hr : f_step r ar ia i cnt g = r') : r = r' := by
  rw [← hr]
  unfold f_step
  rw [if_neg h]
theorem own_case0 (ar : Addr) {f g : Nat → Int32} {ia : Int32} {w r1 r2 r3 r4 r5 r6 r7 r8 : Int64} (h0 : 0 ≤ ia.toInt) (h5 : ia.toInt + (0 : Int32).toInt ≤ 12) (hg : g = own_put f ia w (0 : Int32) (0 : Int32)) (e1 : f_step (0 : Int64) ar ia (0 : Int32) (0 : Int32) g = r1) (e2 : f_step r1 ar ia (1 : Int32) (0 : Int32) g = r2) (e3 : f_step r2 ar ia (2 : Int32) (0 : Int32) g = r3) (e4 : f_step r3 ar ia (3 : Int32) (0 : Int32) g = r4) (e5 : f_step r4 ar ia (4 : Int32) (0 : Int32) g = r5) (e6 : f_step r5 ar ia (5 : Int32) (0 : Int32) g = r6) (e7 : f_step r6 ar ia (6 : Int32) (0 : Int32) g = r7) (e8 : f_step r7 ar ia (7 : Int32) (0 : Int32) g = r8) : r8 = w &&& (((1 : Int64) <<< (((8 : Int32) * (0 : Int32)) &&& 0x3f).toInt64) - (1 : Int64)) := by
  have z0 : (0 : Int64).toInt = 0 := by decide
  have q1 := own_step_n ar (by decide) e1
  have q2 := own_step_n ar (by decide) e2
  have q3 := own_step_n ar (by decide) e3
  have q4 := own_step_n ar (by decide) e4
  have q5 := own_step_n ar (by decide) e5
  have q6 := own_step_n ar (by decide) e6
  have q7 := own_step_n ar (by decide) e7
  have q8 := own_step_n ar (by decide) e8
  have em : (((1 : Int64) <<< (((8 : Int32) * (0 : Int32)) &&& 0x3f).toInt64) - (1 : Int64)) = 0 := by decide +kernel
  rw [em, Int64.and_zero, ← q8, ← q7, ← q6, ← q5, ← q4, ← q3, ← q2, ← q1]
theorem own_case1 (ar : Addr) {f g : Nat → Int32} {ia : Int32} {w r1 r2 r3 r4 r5 r6 r7 r8 : Int64} (h0 : 0 ≤ ia.toInt) (h5 : ia.toInt + (1 : Int32).toInt ≤ 12) (hg : g = own_put f ia w (1 : Int32) (1 : Int32)) (e1 : f_step (0 : Int64) ar ia (0 : Int32) (1 : Int32) g = r1) (e2 : f_step r1 ar ia (1 : Int32) (1 : Int32) g = r2) (e3 : f_step r2 ar ia (2 : Int32) (1 : Int32) g = r3) (e4 : f_step r3 ar ia (3 : Int32) (1 : Int32) g = r4) (e5 : f_step r4 ar ia (4 : Int32) (1 : Int32) g = r5) (e6 : f_step r5 ar ia (5 : Int32) (1 : Int32) g = r6) (e7 : f_step r6 ar ia (6 : Int32) (1 : Int32) g = r7) (e8 : f_step r7 ar ia (7 : Int32) (1 : Int32) g = r8) : r8 = w &&& (((1 : Int64) <<< (((8 : Int32) * (1 : Int32)) &&& 0x3f).toInt64) - (1 : Int64)) := by
  have z0 : (0 : Int64).toInt = 0 := by decide
  have q1 := own_step_y ar h0 h5 hg (by decide) (by decide) e1
  have m1 := own_st_mod (0 : Int64) (own_byte w (1 : Int32) (0 : Int32)).toInt64
  rw [q1] at m1
  have b1 : (own_byte w (1 : Int32) (0 : Int32)).toInt64.toInt % 256 = (w.toInt % 18446744073709551616) / (2 ^ 0 : Nat) % 256 := own_byteN w _ 0 (by decide)
  rw [b1] at m1
  have q2 := own_step_n ar (by decide) e2
  have q3 := own_step_n ar (by decide) e3
  have q4 := own_step_n ar (by decide) e4
  have q5 := own_step_n ar (by decide) e5
  have q6 := own_step_n ar (by decide) e6
  have q7 := own_step_n ar (by decide) e7
  have q8 := own_step_n ar (by decide) e8
  have hm := c_maskL w (((1 : Int64) <<< (((8 : Int32) * (1 : Int32)) &&& 0x3f).toInt64) - (1 : Int64)) 8 (by decide) (by decide +kernel)
  apply own_mod_eq
  rw [← q8, ← q7, ← q6, ← q5, ← q4, ← q3, ← q2]
  rw [hm]
  rw [z0] at m1
  generalize w.toInt = W at *
  clear q1 q2 q3 q4 q5 q6 q7 q8 b1 e1 e2 e3 e4 e5 e6 e7 e8 hg h5 h0
  generalize r1.toInt = R1 at *
  omega
theorem own_case2 (ar : Addr) {f g : Nat → Int32} {ia : Int32} {w r1 r2 r3 r4 r5 r6 r7 r8 : Int64} (h0 : 0 ≤ ia.toInt) (h5 : ia.toInt + (2 : Int32).toInt ≤ 12) (hg : g = own_put f ia w (2 : Int32) (2 : Int32)) (e1 : f_step (0 : Int64) ar ia (0 : Int32) (2 : Int32) g = r1) (e2 : f_step r1 ar ia (1 : Int32) (2 : Int32) g = r2) (e3 : f_step r2 ar ia (2 : Int32) (2 : Int32) g = r3) (e4 : f_step r3 ar ia (3 : Int32) (2 : Int32) g = r4) (e5 : f_step r4 ar ia (4 : Int32) (2 : Int32) g = r5) (e6 : f_step r5 ar ia (5 : Int32) (2 : Int32) g = r6) (e7 : f_step r6 ar ia (6 : Int32) (2 : Int32) g = r7) (e8 : f_step r7 ar ia (7 : Int32) (2 : Int32) g = r8) : r8 = w &&& (((1 : Int64) <<< (((8 : Int32) * (2 : Int32)) &&& 0x3f).toInt64) - (1 : Int64)) := by
  have z0 : (0 : Int64).toInt = 0 := by decide
  have q1 := own_step_y ar h0 h5 hg (by decide) (by decide) e1
  have m1 := own_st_mod (0 : Int64) (own_byte w (2 : Int32) (0 : Int32)).toInt64
  rw [q1] at m1
  have b1 : (own_byte w (2 : Int32) (0 : Int32)).toInt64.toInt % 256 = (w.toInt % 18446744073709551616) / (2 ^ 8 : Nat) % 256 := own_byteN w _ 8 (by decide)
  rw [b1] at m1
  have q2 := own_step_y ar h0 h5 hg (by decide) (by decide) e2
  have m2 := own_st_mod r1 (own_byte w (2 : Int32) (1 : Int32)).toInt64
  rw [q2] at m2
  have b2 : (own_byte w (2 : Int32) (1 : Int32)).toInt64.toInt % 256 = (w.toInt % 18446744073709551616) / (2 ^ 0 : Nat) % 256 := own_byteN w _ 0 (by decide)
  rw [b2] at m2
  have q3 := own_step_n ar (by decide) e3
  have q4 := own_step_n ar (by decide) e4
  have q5 := own_step_n ar (by decide) e5
  have q6 := own_step_n ar (by decide) e6
  have q7 := own_step_n ar (by decide) e7
  have q8 := own_step_n ar (by decide) e8
  have hm := c_maskL w (((1 : Int64) <<< (((8 : Int32) * (2 : Int32)) &&& 0x3f).toInt64) - (1 : Int64)) 16 (by decide) (by decide +kernel)
  apply own_mod_eq
  rw [← q8, ← q7, ← q6, ← q5, ← q4, ← q3]
  rw [hm]
  rw [z0] at m1
  generalize w.toInt = W at *
  clear q1 q2 q3 q4 q5 q6 q7 q8 b1 b2 e1 e2 e3 e4 e5 e6 e7 e8 hg h5 h0
  generalize r1.toInt = R1 at *
  generalize r2.toInt = R2 at *
  omega
theorem own_case3 (ar : Addr) {f g : Nat → Int32} {ia : Int32} {w r1 r2 r3 r4 r5 r6 r7 r8 : Int64} (h0 : 0 ≤ ia.toInt) (h5 : ia.toInt + (3 : Int32).toInt ≤ 12) (hg : g = own_put f ia w (3 : Int32) (3 : Int32)) (e1 : f_step (0 : Int64) ar ia (0 : Int32) (3 : Int32) g = r1) (e2 : f_step r1 ar ia (1 : Int32) (3 : Int32) g = r2) (e3 : f_step r2 ar ia (2 : Int32) (3 : Int32) g = r3) (e4 : f_step r3 ar ia (3 : Int32) (3 : Int32) g = r4) (e5 : f_step r4 ar ia (4 : Int32) (3 : Int32) g = r5) (e6 : f_step r5 ar ia (5 : Int32) (3 : Int32) g = r6) (e7 : f_step r6 ar ia (6 : Int32) (3 : Int32) g = r7) (e8 : f_step r7 ar ia (7 : Int32) (3 : Int32) g = r8) : r8 = w &&& (((1 : Int64) <<< (((8 : Int32) * (3 : Int32)) &&& 0x3f).toInt64) - (1 : Int64)) := by
  have z0 : (0 : Int64).toInt = 0 := by decide
  have q1 := own_step_y ar h0 h5 hg (by decide) (by decide) e1
  have m1 := own_st_mod (0 : Int64) (own_byte w (3 : Int32) (0 : Int32)).toInt64
  rw [q1] at m1
  have b1 : (own_byte w (3 : Int32) (0 : Int32)).toInt64.toInt % 256 = (w.toInt % 18446744073709551616) / (2 ^ 16 : Nat) % 256 := own_byteN w _ 16 (by decide)
  rw [b1] at m1
  have q2 := own_step_y ar h0 h5 hg (by decide) (by decide) e2
  have m2 := own_st_mod r1 (own_byte w (3 : Int32) (1 : Int32)).toInt64
  rw [q2] at m2
  have b2 : (own_byte w (3 : Int32) (1 : Int32)).toInt64.toInt % 256 = (w.toInt % 18446744073709551616) / (2 ^ 8 : Nat) % 256 := own_byteN w _ 8 (by decide)
  rw [b2] at m2
  have q3 := own_step_y ar h0 h5 hg (by decide) (by decide) e3
  have m3 := own_st_mod r2 (own_byte w (3 : Int32) (2 : Int32)).toInt64
  rw [q3] at m3
  have b3 : (own_byte w (3 : Int32) (2 : Int32)).toInt64.toInt % 256 = (w.toInt % 18446744073709551616) / (2 ^ 0 : Nat) % 256 := own_byteN w _ 0 (by decide)
  rw [b3] at m3
  have q4 := own_step_n ar (by decide) e4
  have q5 := own_step_n ar (by decide) e5
  have q6 := own_step_n ar (by decide) e6
  have q7 := own_step_n ar (by decide) e7
  have q8 := own_step_n ar (by decide) e8
  have hm := c_maskL w (((1 : Int64) <<< (((8 : Int32) * (3 : Int32)) &&& 0x3f).toInt64) - (1 : Int64)) 24 (by decide) (by decide +kernel)
  apply own_mod_eq
  rw [← q8, ← q7, ← q6, ← q5, ← q4]
  rw [hm]
  rw [z0] at m1
  generalize w.toInt = W at *
  clear q1 q2 q3 q4 q5 q6 q7 q8 b1 b2 b3 e1 e2 e3 e4 e5 e6 e7 e8 hg h5 h0
  generalize r1.toInt = R1 at *
  generalize r2.toInt = R2 at *
  generalize r3.toInt = R3 at *
  omega
theorem own_case4 (ar : Addr) {f g : Nat → Int32} {ia : Int32} {w r1 r2 r3 r4 r5 r6 r7 r8 : Int64} (h0 : 0 ≤ ia.toInt) (h5 : ia.toInt + (4 : Int32).toInt ≤ 12) (hg : g = own_put f ia w (4 : Int32) (4 : Int32)) (e1 : f_step (0 : Int64) ar ia (0 : Int32) (4 : Int32) g = r1) (e2 : f_step r1 ar ia (1 : Int32) (4 : Int32) g = r2) (e3 : f_step r2 ar ia (2 : Int32) (4 : Int32) g = r3) (e4 : f_step r3 ar ia (3 : Int32) (4 : Int32) g = r4) (e5 : f_step r4 ar ia (4 : Int32) (4 : Int32) g = r5) (e6 : f_step r5 ar ia (5 : Int32) (4 : Int32) g = r6) (e7 : f_step r6 ar ia (6 : Int32) (4 : Int32) g = r7) (e8 : f_step r7 ar ia (7 : Int32) (4 : Int32) g = r8) : r8 = w &&& (((1 : Int64) <<< (((8 : Int32) * (4 : Int32)) &&& 0x3f).toInt64) - (1 : Int64)) := by
  have z0 : (0 : Int64).toInt = 0 := by decide
  have q1 := own_step_y ar h0 h5 hg (by decide) (by decide) e1
  have m1 := own_st_mod (0 : Int64) (own_byte w (4 : Int32) (0 : Int32)).toInt64
  rw [q1] at m1
  have b1 : (own_byte w (4 : Int32) (0 : Int32)).toInt64.toInt % 256 = (w.toInt % 18446744073709551616) / (2 ^ 24 : Nat) % 256 := own_byteN w _ 24 (by decide)
  rw [b1] at m1
  have q2 := own_step_y ar h0 h5 hg (by decide) (by decide) e2
  have m2 := own_st_mod r1 (own_byte w (4 : Int32) (1 : Int32)).toInt64
  rw [q2] at m2
  have b2 : (own_byte w (4 : Int32) (1 : Int32)).toInt64.toInt % 256 = (w.toInt % 18446744073709551616) / (2 ^ 16 : Nat) % 256 := own_byteN w _ 16 (by decide)
  rw [b2] at m2
  have q3 := own_step_y ar h0 h5 hg (by decide) (by decide) e3
  have m3 := own_st_mod r2 (own_byte w (4 : Int32) (2 : Int32)).toInt64
  rw [q3] at m3
  have b3 : (own_byte w (4 : Int32) (2 : Int32)).toInt64.toInt % 256 = (w.toInt % 18446744073709551616) / (2 ^ 8 : Nat) % 256 := own_byteN w _ 8 (by decide)
  rw [b3] at m3
  have q4 := own_step_y ar h0 h5 hg (by decide) (by decide) e4
  have m4 := own_st_mod r3 (own_byte w (4 : Int32) (3 : Int32)).toInt64
  rw [q4] at m4
  have b4 : (own_byte w (4 : Int32) (3 : Int32)).toInt64.toInt % 256 = (w.toInt % 18446744073709551616) / (2 ^ 0 : Nat) % 256 := own_byteN w _ 0 (by decide)
  rw [b4] at m4
  have q5 := own_step_n ar (by decide) e5
  have q6 := own_step_n ar (by decide) e6
  have q7 := own_step_n ar (by decide) e7
  have q8 := own_step_n ar (by decide) e8
  have hm := c_maskL w (((1 : Int64) <<< (((8 : Int32) * (4 : Int32)) &&& 0x3f).toInt64) - (1 : Int64)) 32 (by decide) (by decide +kernel)
  apply own_mod_eq
  rw [← q8, ← q7, ← q6, ← q5]
  rw [hm]
  rw [z0] at m1
  generalize w.toInt = W at *
  clear q1 q2 q3 q4 q5 q6 q7 q8 b1 b2 b3 b4 e1 e2 e3 e4 e5 e6 e7 e8 hg h5 h0
  generalize r1.toInt = R1 at *
  generalize r2.toInt = R2 at *
  generalize r3.toInt = R3 at *
  generalize r4.toInt = R4 at *
  omega
theorem own_case5 (ar : Addr) {f g : Nat → Int32} {ia : Int32} {w r1 r2 r3 r4 r5 r6 r7 r8 : Int64} (h0 : 0 ≤ ia.toInt) (h5 : ia.toInt + (5 : Int32).toInt ≤ 12) (hg : g = own_put f ia w (5 : Int32) (5 : Int32)) (e1 : f_step (0 : Int64) ar ia (0 : Int32) (5 : Int32) g = r1) (e2 : f_step r1 ar ia (1 : Int32) (5 : Int32) g = r2) (e3 : f_step r2 ar ia (2 : Int32) (5 : Int32) g = r3) (e4 : f_step r3 ar ia (3 : Int32) (5 : Int32) g = r4) (e5 : f_step r4 ar ia (4 : Int32) (5 : Int32) g = r5) (e6 : f_step r5 ar ia (5 : Int32) (5 : Int32) g = r6) (e7 : f_step r6 ar ia (6 : Int32) (5 : Int32) g = r7) (e8 : f_step r7 ar ia (7 : Int32) (5 : Int32) g = r8) : r8 = w &&& (((1 : Int64) <<< (((8 : Int32) * (5 : Int32)) &&& 0x3f).toInt64) - (1 : Int64)) := by
  have z0 : (0 : Int64).toInt = 0 := by decide
  have q1 := own_step_y ar h0 h5 hg (by decide) (by decide) e1
  have m1 := own_st_mod (0 : Int64) (own_byte w (5 : Int32) (0 : Int32)).toInt64
  rw [q1] at m1
  have b1 : (own_byte w (5 : Int32) (0 : Int32)).toInt64.toInt % 256 = (w.toInt % 18446744073709551616) / (2 ^ 32 : Nat) % 256 := own_byteN w _ 32 (by decide)
  rw [b1] at m1
  have q2 := own_step_y ar h0 h5 hg (by decide) (by decide) e2
  have m2 := own_st_mod r1 (own_byte w (5 : Int32) (1 : Int32)).toInt64
  rw [q2] at m2
  have b2 : (own_byte w (5 : Int32) (1 : Int32)).toInt64.toInt % 256 = (w.toInt % 18446744073709551616) / (2 ^ 24 : Nat) % 256 := own_byteN w _ 24 (by decide)
  rw [b2] at m2
  have q3 := own_step_y ar h0 h5 hg (by decide) (by decide) e3
  have m3 := own_st_mod r2 (own_byte w (5 : Int32) (2 : Int32)).toInt64
  rw [q3] at m3
  have b3 : (own_byte w (5 : Int32) (2 : Int32)).toInt64.toInt % 256 = (w.toInt % 18446744073709551616) / (2 ^ 16 : Nat) % 256 := own_byteN w _ 16 (by decide)
  rw [b3] at m3
  have q4 := own_step_y ar h0 h5 hg (by decide) (by decide) e4
  have m4 := own_st_mod r3 (own_byte w (5 : Int32) (3 : Int32)).toInt64
  rw [q4] at m4
  have b4 : (own_byte w (5 : Int32) (3 : Int32)).toInt64.toInt % 256 = (w.toInt % 18446744073709551616) / (2 ^ 8 : Nat) % 256 := own_byteN w _ 8 (by decide)
  rw [b4] at m4
  have q5 := own_step_y ar h0 h5 hg (by decide) (by decide) e5
  have m5 := own_st_mod r4 (own_byte w (5 : Int32) (4 : Int32)).toInt64
  rw [q5] at m5
  have b5 : (own_byte w (5 : Int32) (4 : Int32)).toInt64.toInt % 256 = (w.toInt % 18446744073709551616) / (2 ^ 0 : Nat) % 256 := own_byteN w _ 0 (by decide)
  rw [b5] at m5
  have q6 := own_step_n ar (by decide) e6
  have q7 := own_step_n ar (by decide) e7
  have q8 := own_step_n ar (by decide) e8
  have hm := c_maskL w (((1 : Int64) <<< (((8 : Int32) * (5 : Int32)) &&& 0x3f).toInt64) - (1 : Int64)) 40 (by decide) (by decide +kernel)
  apply own_mod_eq
  rw [← q8, ← q7, ← q6]
  rw [hm]
  rw [z0] at m1
  generalize w.toInt = W at *
  clear q1 q2 q3 q4 q5 q6 q7 q8 b1 b2 b3 b4 b5 e1 e2 e3 e4 e5 e6 e7 e8 hg h5 h0
  generalize r1.toInt = R1 at *
  generalize r2.toInt = R2 at *
  generalize r3.toInt = R3 at *
  generalize r4.toInt = R4 at *
  generalize r5.toInt = R5 at *
  omega
theorem own_case6 (ar : Addr) {f g : Nat → Int32} {ia : Int32} {w r1 r2 r3 r4 r5 r6 r7 r8 : Int64} (h0 : 0 ≤ ia.toInt) (h5 : ia.toInt + (6 : Int32).toInt ≤ 12) (hg : g = own_put f ia w (6 : Int32) (6 : Int32)) (e1 : f_step (0 : Int64) ar ia (0 : Int32) (6 : Int32) g = r1) (e2 : f_step r1 ar ia (1 : Int32) (6 : Int32) g = r2) (e3 : f_step r2 ar ia (2 : Int32) (6 : Int32) g = r3) (e4 : f_step r3 ar ia (3 : Int32) (6 : Int32) g = r4) (e5 : f_step r4 ar ia (4 : Int32) (6 : Int32) g = r5) (e6 : f_step r5 ar ia (5 : Int32) (6 : Int32) g = r6) (e7 : f_step r6 ar ia (6 : Int32) (6 : Int32) g = r7) (e8 : f_step r7 ar ia (7 : Int32) (6 : Int32) g = r8) : r8 = w &&& (((1 : Int64) <<< (((8 : Int32) * (6 : Int32)) &&& 0x3f).toInt64) - (1 : Int64)) := by
  have z0 : (0 : Int64).toInt = 0 := by decide
  have q1 := own_step_y ar h0 h5 hg (by decide) (by decide) e1
  have m1 := own_st_mod (0 : Int64) (own_byte w (6 : Int32) (0 : Int32)).toInt64
  rw [q1] at m1
  have b1 : (own_byte w (6 : Int32) (0 : Int32)).toInt64.toInt % 256 = (w.toInt % 18446744073709551616) / (2 ^ 40 : Nat) % 256 := own_byteN w _ 40 (by decide)
  rw [b1] at m1
  have q2 := own_step_y ar h0 h5 hg (by decide) (by decide) e2
  have m2 := own_st_mod r1 (own_byte w (6 : Int32) (1 : Int32)).toInt64
  rw [q2] at m2
  have b2 : (own_byte w (6 : Int32) (1 : Int32)).toInt64.toInt % 256 = (w.toInt % 18446744073709551616) / (2 ^ 32 : Nat) % 256 := own_byteN w _ 32 (by decide)
  rw [b2] at m2
  have q3 := own_step_y ar h0 h5 hg (by decide) (by decide) e3
  have m3 := own_st_mod r2 (own_byte w (6 : Int32) (2 : Int32)).toInt64
  rw [q3] at m3
  have b3 : (own_byte w (6 : Int32) (2 : Int32)).toInt64.toInt % 256 = (w.toInt % 18446744073709551616) / (2 ^ 24 : Nat) % 256 := own_byteN w _ 24 (by decide)
  rw [b3] at m3
  have q4 := own_step_y ar h0 h5 hg (by decide) (by decide) e4
  have m4 := own_st_mod r3 (own_byte w (6 : Int32) (3 : Int32)).toInt64
  rw [q4] at m4
  have b4 : (own_byte w (6 : Int32) (3 : Int32)).toInt64.toInt % 256 = (w.toInt % 18446744073709551616) / (2 ^ 16 : Nat) % 256 := own_byteN w _ 16 (by decide)
  rw [b4] at m4
  have q5 := own_step_y ar h0 h5 hg (by decide) (by decide) e5
  have m5 := own_st_mod r4 (own_byte w (6 : Int32) (4 : Int32)).toInt64
  rw [q5] at m5
  have b5 : (own_byte w (6 : Int32) (4 : Int32)).toInt64.toInt % 256 = (w.toInt % 18446744073709551616) / (2 ^ 8 : Nat) % 256 := own_byteN w _ 8 (by decide)
  rw [b5] at m5
  have q6 := own_step_y ar h0 h5 hg (by decide) (by decide) e6
  have m6 := own_st_mod r5 (own_byte w (6 : Int32) (5 : Int32)).toInt64
  rw [q6] at m6
  have b6 : (own_byte w (6 : Int32) (5 : Int32)).toInt64.toInt % 256 = (w.toInt % 18446744073709551616) / (2 ^ 0 : Nat) % 256 := own_byteN w _ 0 (by decide)
  rw [b6] at m6
  have q7 := own_step_n ar (by decide) e7
  have q8 := own_step_n ar (by decide) e8
  have hm := c_maskL w (((1 : Int64) <<< (((8 : Int32) * (6 : Int32)) &&& 0x3f).toInt64) - (1 : Int64)) 48 (by decide) (by decide +kernel)
  apply own_mod_eq
  rw [← q8, ← q7]
  rw [hm]
  rw [z0] at m1
  generalize w.toInt = W at *
  clear q1 q2 q3 q4 q5 q6 q7 q8 b1 b2 b3 b4 b5 b6 e1 e2 e3 e4 e5 e6 e7 e8 hg h5 h0
  generalize r1.toInt = R1 at *
  generalize r2.toInt = R2 at *
  generalize r3.toInt = R3 at *
  generalize r4.toInt = R4 at *
  generalize r5.toInt = R5 at *
  generalize r6.toInt = R6 at *
  omega
theorem own_case7 (ar : Addr) {f g : Nat → Int32} {ia : Int32} {w r1 r2 r3 r4 r5 r6 r7 r8 : Int64} (h0 : 0 ≤ ia.toInt) (h5 : ia.toInt + (7 : Int32).toInt ≤ 12) (hg : g = own_put f ia w (7 : Int32) (7 : Int32)) (e1 : f_step (0 : Int64) ar ia (0 : Int32) (7 : Int32) g = r1) (e2 : f_step r1 ar ia (1 : Int32) (7 : Int32) g = r2) (e3 : f_step r2 ar ia (2 : Int32) (7 : Int32) g = r3) (e4 : f_step r3 ar ia (3 : Int32) (7 : Int32) g = r4) (e5 : f_step r4 ar ia (4 : Int32) (7 : Int32) g = r5) (e6 : f_step r5 ar ia (5 : Int32) (7 : Int32) g = r6) (e7 : f_step r6 ar ia (6 : Int32) (7 : Int32) g = r7) (e8 : f_step r7 ar ia (7 : Int32) (7 : Int32) g = r8) : r8 = w &&& (((1 : Int64) <<< (((8 : Int32) * (7 : Int32)) &&& 0x3f).toInt64) - (1 : Int64)) := by
  have z0 : (0 : Int64).toInt = 0 := by decide
  have q1 := own_step_y ar h0 h5 hg (by decide) (by decide) e1
  have m1 := own_st_mod (0 : Int64) (own_byte w (7 : Int32) (0 : Int32)).toInt64
  rw [q1] at m1
  have b1 : (own_byte w (7 : Int32) (0 : Int32)).toInt64.toInt % 256 = (w.toInt % 18446744073709551616) / (2 ^ 48 : Nat) % 256 := own_byteN w _ 48 (by decide)
  rw [b1] at m1
  have q2 := own_step_y ar h0 h5 hg (by decide) (by decide) e2
  have m2 := own_st_mod r1 (own_byte w (7 : Int32) (1 : Int32)).toInt64
  rw [q2] at m2
  have b2 : (own_byte w (7 : Int32) (1 : Int32)).toInt64.toInt % 256 = (w.toInt % 18446744073709551616) / (2 ^ 40 : Nat) % 256 := own_byteN w _ 40 (by decide)
  rw [b2] at m2
  have q3 := own_step_y ar h0 h5 hg (by decide) (by decide) e3
  have m3 := own_st_mod r2 (own_byte w (7 : Int32) (2 : Int32)).toInt64
  rw [q3] at m3
  have b3 : (own_byte w (7 : Int32) (2 : Int32)).toInt64.toInt % 256 = (w.toInt % 18446744073709551616) / (2 ^ 32 : Nat) % 256 := own_byteN w _ 32 (by decide)
  rw [b3] at m3
  have q4 := own_step_y ar h0 h5 hg (by decide) (by decide) e4
  have m4 := own_st_mod r3 (own_byte w (7 : Int32) (3 : Int32)).toInt64
  rw [q4] at m4
  have b4 : (own_byte w (7 : Int32) (3 : Int32)).toInt64.toInt % 256 = (w.toInt % 18446744073709551616) / (2 ^ 24 : Nat) % 256 := own_byteN w _ 24 (by decide)
  rw [b4] at m4
  have q5 := own_step_y ar h0 h5 hg (by decide) (by decide) e5
  have m5 := own_st_mod r4 (own_byte w (7 : Int32) (4 : Int32)).toInt64
  rw [q5] at m5
  have b5 : (own_byte w (7 : Int32) (4 : Int32)).toInt64.toInt % 256 = (w.toInt % 18446744073709551616) / (2 ^ 16 : Nat) % 256 := own_byteN w _ 16 (by decide)
  rw [b5] at m5
  have q6 := own_step_y ar h0 h5 hg (by decide) (by decide) e6
  have m6 := own_st_mod r5 (own_byte w (7 : Int32) (5 : Int32)).toInt64
  rw [q6] at m6
  have b6 : (own_byte w (7 : Int32) (5 : Int32)).toInt64.toInt % 256 = (w.toInt % 18446744073709551616) / (2 ^ 8 : Nat) % 256 := own_byteN w _ 8 (by decide)
  rw [b6] at m6
  have q7 := own_step_y ar h0 h5 hg (by decide) (by decide) e7
  have m7 := own_st_mod r6 (own_byte w (7 : Int32) (6 : Int32)).toInt64
  rw [q7] at m7
  have b7 : (own_byte w (7 : Int32) (6 : Int32)).toInt64.toInt % 256 = (w.toInt % 18446744073709551616) / (2 ^ 0 : Nat) % 256 := own_byteN w _ 0 (by decide)
  rw [b7] at m7
  have q8 := own_step_n ar (by decide) e8
  have hm := c_maskL w (((1 : Int64) <<< (((8 : Int32) * (7 : Int32)) &&& 0x3f).toInt64) - (1 : Int64)) 56 (by decide) (by decide +kernel)
  apply own_mod_eq
  rw [← q8]
  rw [hm]
  rw [z0] at m1
  generalize w.toInt = W at *
  clear q1 q2 q3 q4 q5 q6 q7 q8 b1 b2 b3 b4 b5 b6 b7 e1 e2 e3 e4 e5 e6 e7 e8 hg h5 h0
  generalize r1.toInt = R1 at *
  generalize r2.toInt = R2 at *
  generalize r3.toInt = R3 at *
  generalize r4.toInt = R4 at *
  generalize r5.toInt = R5 at *
  generalize r6.toInt = R6 at *
  generalize r7.toInt = R7 at *
  omega
theorem own_case8 (ar : Addr) {f g : Nat → Int32} {ia : Int32} {w r1 r2 r3 r4 r5 r6 r7 r8 : Int64} (h0 : 0 ≤ ia.toInt) (h5 : ia.toInt + (8 : Int32).toInt ≤ 12) (hg : g = own_put f ia w (8 : Int32) (8 : Int32)) (e1 : f_step (0 : Int64) ar ia (0 : Int32) (8 : Int32) g = r1) (e2 : f_step r1 ar ia (1 : Int32) (8 : Int32) g = r2) (e3 : f_step r2 ar ia (2 : Int32) (8 : Int32) g = r3) (e4 : f_step r3 ar ia (3 : Int32) (8 : Int32) g = r4) (e5 : f_step r4 ar ia (4 : Int32) (8 : Int32) g = r5) (e6 : f_step r5 ar ia (5 : Int32) (8 : Int32) g = r6) (e7 : f_step r6 ar ia (6 : Int32) (8 : Int32) g = r7) (e8 : f_step r7 ar ia (7 : Int32) (8 : Int32) g = r8) : r8 = w &&& (-1 : Int64) := by
  have z0 : (0 : Int64).toInt = 0 := by decide
  have q1 := own_step_y ar h0 h5 hg (by decide) (by decide) e1
  have m1 := own_st_mod (0 : Int64) (own_byte w (8 : Int32) (0 : Int32)).toInt64
  rw [q1] at m1
  have b1 : (own_byte w (8 : Int32) (0 : Int32)).toInt64.toInt % 256 = (w.toInt % 18446744073709551616) / (2 ^ 56 : Nat) % 256 := own_byteN w _ 56 (by decide)
  rw [b1] at m1
  have q2 := own_step_y ar h0 h5 hg (by decide) (by decide) e2
  have m2 := own_st_mod r1 (own_byte w (8 : Int32) (1 : Int32)).toInt64
  rw [q2] at m2
  have b2 : (own_byte w (8 : Int32) (1 : Int32)).toInt64.toInt % 256 = (w.toInt % 18446744073709551616) / (2 ^ 48 : Nat) % 256 := own_byteN w _ 48 (by decide)
  rw [b2] at m2
  have q3 := own_step_y ar h0 h5 hg (by decide) (by decide) e3
  have m3 := own_st_mod r2 (own_byte w (8 : Int32) (2 : Int32)).toInt64
  rw [q3] at m3
  have b3 : (own_byte w (8 : Int32) (2 : Int32)).toInt64.toInt % 256 = (w.toInt % 18446744073709551616) / (2 ^ 40 : Nat) % 256 := own_byteN w _ 40 (by decide)
  rw [b3] at m3
  have q4 := own_step_y ar h0 h5 hg (by decide) (by decide) e4
  have m4 := own_st_mod r3 (own_byte w (8 : Int32) (3 : Int32)).toInt64
  rw [q4] at m4
  have b4 : (own_byte w (8 : Int32) (3 : Int32)).toInt64.toInt % 256 = (w.toInt % 18446744073709551616) / (2 ^ 32 : Nat) % 256 := own_byteN w _ 32 (by decide)
  rw [b4] at m4
  have q5 := own_step_y ar h0 h5 hg (by decide) (by decide) e5
  have m5 := own_st_mod r4 (own_byte w (8 : Int32) (4 : Int32)).toInt64
  rw [q5] at m5
  have b5 : (own_byte w (8 : Int32) (4 : Int32)).toInt64.toInt % 256 = (w.toInt % 18446744073709551616) / (2 ^ 24 : Nat) % 256 := own_byteN w _ 24 (by decide)
  rw [b5] at m5
  have q6 := own_step_y ar h0 h5 hg (by decide) (by decide) e6
  have m6 := own_st_mod r5 (own_byte w (8 : Int32) (5 : Int32)).toInt64
  rw [q6] at m6
  have b6 : (own_byte w (8 : Int32) (5 : Int32)).toInt64.toInt % 256 = (w.toInt % 18446744073709551616) / (2 ^ 16 : Nat) % 256 := own_byteN w _ 16 (by decide)
  rw [b6] at m6
  have q7 := own_step_y ar h0 h5 hg (by decide) (by decide) e7
  have m7 := own_st_mod r6 (own_byte w (8 : Int32) (6 : Int32)).toInt64
  rw [q7] at m7
  have b7 : (own_byte w (8 : Int32) (6 : Int32)).toInt64.toInt % 256 = (w.toInt % 18446744073709551616) / (2 ^ 8 : Nat) % 256 := own_byteN w _ 8 (by decide)
  rw [b7] at m7
  have q8 := own_step_y ar h0 h5 hg (by decide) (by decide) e8
  have m8 := own_st_mod r7 (own_byte w (8 : Int32) (7 : Int32)).toInt64
  rw [q8] at m8
  have b8 : (own_byte w (8 : Int32) (7 : Int32)).toInt64.toInt % 256 = (w.toInt % 18446744073709551616) / (2 ^ 0 : Nat) % 256 := own_byteN w _ 0 (by decide)
  rw [b8] at m8
  have hm : (w &&& (-1 : Int64)).toInt = w.toInt := by rw [Int64.and_neg_one]
  apply own_mod_eq
  rw [hm]
  rw [z0] at m1
  generalize w.toInt = W at *
  clear q1 q2 q3 q4 q5 q6 q7 q8 b1 b2 b3 b4 b5 b6 b7 b8 e1 e2 e3 e4 e5 e6 e7 e8 hg h5 h0
  generalize r1.toInt = R1 at *
  generalize r2.toInt = R2 at *
  generalize r3.toInt = R3 at *
  generalize r4.toInt = R4 at *
  generalize r5.toInt = R5 at *
  generalize r6.toInt = R6 at *
  generalize r7.toInt = R7 at *
  generalize r8.toInt = R8 at *
  omega
theorem own_lit {z : Int32} {n : Nat} (hn : n < 9) (h : z.toInt = n) : z = Int32.ofNat n := Int32.toInt_inj.mp (by rw [Int32.toInt_ofNat_small (by omega)]; exact h)
theorem own_law (ar : Addr) {f g : Nat → Int32} {ia cnt : Int32} {w r1 r2 r3 r4 r5 r6 r7 r8 : Int64} (hc0 : 0 ≤ cnt.toInt) (hc8 : cnt.toInt ≤ 8) (h0 : 0 ≤ ia.toInt) (h5 : ia.toInt + cnt.toInt ≤ 12) (hg : g = own_put f ia w cnt cnt) (e1 : f_step (0 : Int64) ar ia (0 : Int32) cnt g = r1) (e2 : f_step r1 ar ia (1 : Int32) cnt g = r2) (e3 : f_step r2 ar ia (2 : Int32) cnt g = r3) (e4 : f_step r3 ar ia (3 : Int32) cnt g = r4) (e5 : f_step r4 ar ia (4 : Int32) cnt g = r5) (e6 : f_step r5 ar ia (5 : Int32) cnt g = r6) (e7 : f_step r6 ar ia (6 : Int32) cnt g = r7) (e8 : f_step r7 ar ia (7 : Int32) cnt g = r8) :
    (cnt = (8 : Int32) → r8 = w &&& (-1 : Int64)) ∧ (¬ (cnt = (8 : Int32)) → r8 = w &&& (((1 : Int64) <<< (((8 : Int32) * cnt) &&& 0x3f).toInt64) - (1 : Int64))) := by
  obtain ⟨n, hn⟩ : ∃ n : Nat, cnt.toInt = n := ⟨cnt.toInt.toNat, by omega⟩
  have e := own_lit (show n < 9 by omega) hn
  have h9 : n < 9 := by omega
  subst e
  clear hn hc0 hc8
  match n, h9 with
  | 0, _ => exact ⟨fun q => absurd q (by decide), fun q => own_case0 ar h0 h5 hg e1 e2 e3 e4 e5 e6 e7 e8⟩
  | 1, _ => exact ⟨fun q => absurd q (by decide), fun q => own_case1 ar h0 h5 hg e1 e2 e3 e4 e5 e6 e7 e8⟩
  | 2, _ => exact ⟨fun q => absurd q (by decide), fun q => own_case2 ar h0 h5 hg e1 e2 e3 e4 e5 e6 e7 e8⟩
  | 3, _ => exact ⟨fun q => absurd q (by decide), fun q => own_case3 ar h0 h5 hg e1 e2 e3 e4 e5 e6 e7 e8⟩
  | 4, _ => exact ⟨fun q => absurd q (by decide), fun q => own_case4 ar h0 h5 hg e1 e2 e3 e4 e5 e6 e7 e8⟩
  | 5, _ => exact ⟨fun q => absurd q (by decide), fun q => own_case5 ar h0 h5 hg e1 e2 e3 e4 e5 e6 e7 e8⟩
  | 6, _ => exact ⟨fun q => absurd q (by decide), fun q => own_case6 ar h0 h5 hg e1 e2 e3 e4 e5 e6 e7 e8⟩
  | 7, _ => exact ⟨fun q => absurd q (by decide), fun q => own_case7 ar h0 h5 hg e1 e2 e3 e4 e5 e6 e7 e8⟩
  | 8, _ => exact ⟨fun q => own_case8 ar h0 h5 hg e1 e2 e3 e4 e5 e6 e7 e8, fun q => absurd rfl q⟩
theorem own_fs {g h : Nat → Int32} {i : Nat} {y fl : Int32} (hh : h = own_upd g i y) (hy : y = fl) (hg : ∀ n, n < i → g n = fl) : ∀ n, n < i + 1 → h n = fl := by
  intro n hn
  rw [hh]
  by_cases q : n = i
  · rw [q, own_upd_eq, hy]
  · rw [own_upd_ne _ _ q]; exact hg n (by omega)
theorem own_cnt (q : Int32) : 0 ≤ ((q &&& (2147483647 : Int32)) % (9 : Int32)).toInt ∧ ((q &&& (2147483647 : Int32)) % (9 : Int32)).toInt ≤ 8 := by
  have h1 := c_mask q 2147483647 31 (by decide) (by decide)
  have h2 := (c_irem (q &&& (2147483647 : Int32)) 9 9 (by decide)).1 (by omega)
  omega
theorem own_13 {k : Int32} (h1 : 0 ≤ k.toInt) (h2 : k.toInt ≤ 8) : ((13 : Int32) - k).toInt = 13 - k.toInt := by
  have h := c_isub 13 k
  have r := rng32 (13 - k)
  have e1 : (13 : Int32).toInt = 13 := by decide
  omega
theorem own_13nz {k : Int32} (h1 : 0 ≤ k.toInt) (h2 : k.toInt ≤ 8) : (13 : Int32) - k ≠ 0 := fun q => by
  have h := own_13 h1 h2
  rw [q] at h
  have e0 : (0 : Int32).toInt = 0 := by decide
  omega
theorem own_ia {k : Int32} (h1 : 0 ≤ k.toInt) (h2 : k.toInt ≤ 8) (q : Int32) : 0 ≤ ((q &&& (2147483647 : Int32)) % ((13 : Int32) - k)).toInt ∧ ((q &&& (2147483647 : Int32)) % ((13 : Int32) - k)).toInt + k.toInt ≤ 12 := by
  have hm := c_mask q 2147483647 31 (by decide) (by decide)
  have e := own_13 h1 h2
  have h := (c_iremV (q &&& (2147483647 : Int32)) ((13 : Int32) - k)).1 (by omega) (by omega)
  omega
theorem tw0 {Z : State} {a0 : Array Value} (hw : ∀ d ∈ tables_1, d.before a0 Z = true) : (Jvm.Cond.constant "com/example/pledge/pledge/log/PayloadWriterPutBigEndianPinLaw" (7 : Nat) (2147483647 : Int32)).before a0 Z = true := hw _ (List.mem_of_getElem? (i := 0) rfl)
theorem tw1 {Z : State} {a0 : Array Value} (hw : ∀ d ∈ tables_1, d.before a0 Z = true) : (Jvm.Cond.arrayClass Jvm.ClassFile.FieldType.byte).before a0 Z = true := hw _ (List.mem_of_getElem? (i := 1) rfl)
theorem tw2 {Z : State} {a0 : Array Value} (hw : ∀ d ∈ tables_1, d.before a0 Z = true) : (Jvm.Cond.methodLink "com/example/pledge/pledge/log/PayloadWriterPutBigEndianPinLaw" (8 : Nat) ({ cls := "com/example/pledge/pledge/log/PayloadWriter", name := "putBigEndian", desc := "([BIJI)V" } : Jvm.MethodName)).before a0 Z = true := hw _ (List.mem_of_getElem? (i := 2) rfl)
theorem tw5 {Z : State} {a0 : Array Value} (hw : ∀ d ∈ tables_1, d.before a0 Z = true) : (Jvm.Cond.code ({ cls := "com/example/pledge/pledge/log/PayloadWriter", name := "putBigEndian", desc := "([BIJI)V" } : Jvm.MethodName) prog_106_method_9_code (6 : Nat) (Option.none : Option Jvm.ClassFile.FieldType)).before a0 Z = true := hw _ (List.mem_of_getElem? (i := 5) rfl)
theorem tw4 {Z : State} {a0 : Array Value} (hw : ∀ d ∈ tables_1, d.before a0 Z = true) : (Jvm.Cond.initialized "com/example/pledge/pledge/log/PayloadWriter").before a0 Z = true := hw _ (List.mem_of_getElem? (i := 4) rfl)
theorem pd_0 : parseMethodDescriptor "([BIJI)V" = some ⟨[(.array .byte), .int, .long, .int], none⟩ := by decide +kernel
theorem tw3 {Z : State} {a0 : Array Value} (hw : ∀ d ∈ tables_1, d.before a0 Z = true) : (Jvm.Cond.static ({ cls := "com/example/pledge/pledge/log/PayloadWriter", name := "putBigEndian", desc := "([BIJI)V" } : Jvm.MethodName)).before a0 Z = true := hw _ (List.mem_of_getElem? (i := 3) rfl)
theorem tw6 {Z : State} {a0 : Array Value} (hw : ∀ d ∈ tables_1, d.before a0 Z = true) : (Jvm.Cond.methodLink "com/example/pledge/pledge/log/PayloadWriterPutBigEndianPinLaw" (14 : Nat) ({ cls := "com/example/pledge/pledge/log/PayloadWriterPutBigEndianPinLaw", name := "step", desc := "(J[BIII)J" } : Jvm.MethodName)).before a0 Z = true := hw _ (List.mem_of_getElem? (i := 6) rfl)
theorem tw9 {Z : State} {a0 : Array Value} (hw : ∀ d ∈ tables_1, d.before a0 Z = true) : (Jvm.Cond.code ({ cls := "com/example/pledge/pledge/log/PayloadWriterPutBigEndianPinLaw", name := "step", desc := "(J[BIII)J" } : Jvm.MethodName) method_3_code (6 : Nat) (Option.some Jvm.ClassFile.FieldType.long)).before a0 Z = true := hw _ (List.mem_of_getElem? (i := 9) rfl)
theorem tw8 {Z : State} {a0 : Array Value} (hw : ∀ d ∈ tables_1, d.before a0 Z = true) : (Jvm.Cond.initialized "com/example/pledge/pledge/log/PayloadWriterPutBigEndianPinLaw").before a0 Z = true := hw _ (List.mem_of_getElem? (i := 8) rfl)
theorem pd_1 : parseMethodDescriptor "(J[BIII)J" = some ⟨[.long, (.array .byte), .int, .int, .int], some .long⟩ := by decide +kernel
theorem tw7 {Z : State} {a0 : Array Value} (hw : ∀ d ∈ tables_1, d.before a0 Z = true) : (Jvm.Cond.static ({ cls := "com/example/pledge/pledge/log/PayloadWriterPutBigEndianPinLaw", name := "step", desc := "(J[BIII)J" } : Jvm.MethodName)).before a0 Z = true := hw _ (List.mem_of_getElem? (i := 7) rfl)
theorem tw14 {Z : State} {a0 : Array Value} (hw : ∀ d ∈ tables_1, d.before a0 Z = true) : (Jvm.Cond.constantLong "com/example/pledge/pledge/log/PayloadWriterPutBigEndianPinLaw" (20 : Nat) (-1 : Int64)).before a0 Z = true := hw _ (List.mem_of_getElem? (i := 14) rfl)
theorem tw11 {Z : State} {a0 : Array Value} (hw : ∀ d ∈ tables_1, d.before a0 Z = true) : (Jvm.Cond.methodLink "com/example/pledge/pledge/log/PayloadWriterPutBigEndianPinLaw" (22 : Nat) ({ cls := "com/example/pledge/pledge/log/PayloadWriterPutBigEndianPinLaw", name := "keeps", desc := "([BIIIB)Z" } : Jvm.MethodName)).before a0 Z = true := hw _ (List.mem_of_getElem? (i := 11) rfl)
theorem tw13 {Z : State} {a0 : Array Value} (hw : ∀ d ∈ tables_1, d.before a0 Z = true) : (Jvm.Cond.code ({ cls := "com/example/pledge/pledge/log/PayloadWriterPutBigEndianPinLaw", name := "keeps", desc := "([BIIIB)Z" } : Jvm.MethodName) method_4_code (5 : Nat) (Option.some Jvm.ClassFile.FieldType.boolean)).before a0 Z = true := hw _ (List.mem_of_getElem? (i := 13) rfl)
theorem pd_2 : parseMethodDescriptor "([BIIIB)Z" = some ⟨[(.array .byte), .int, .int, .int, .byte], some .boolean⟩ := by decide +kernel
theorem tw12 {Z : State} {a0 : Array Value} (hw : ∀ d ∈ tables_1, d.before a0 Z = true) : (Jvm.Cond.static ({ cls := "com/example/pledge/pledge/log/PayloadWriterPutBigEndianPinLaw", name := "keeps", desc := "([BIIIB)Z" } : Jvm.MethodName)).before a0 Z = true := hw _ (List.mem_of_getElem? (i := 12) rfl)
theorem ef_0 (m : MethodId) (x0 : Int32) (x1 : Int64) (x2 : Int32) (x3 : Int32) : entryFrame m #[(.int x0), (.long x1), (.int x2), (.int x3)] maxLocals = mkF m 0 #[iv x0, jv x1, .second, iv x2, iv x3, .unset, .unset, .unset, .unset, .unset, .unset, .unset, .unset] [] := by first | (simp [entryFrame, mkF, argsToLocals, Value.category, maxLocals]; done) | rfl
def Q0 (Z : State) (ax : Int32) (wv : Int64) (cx : Int32) (fx : Int32)  (h0 : Heap) (n0 : Nat) (v : Option Value) (h : Heap) (L : List Loc) : Prop := v = some (.int 1) ∧ Fr n0 L
set_option maxRecDepth 65536 in
set_option maxHeartbeats 40000000 in
theorem rm0 (l : Launch) (Z : State) (a0 : Array Value) (hw : ∀ d ∈ tables_1, d.before a0 Z = true) (ws : List Jvm.Cond) (ax : Int32) (wv : Int64) (cx : Int32) (fx : Int32)  (h0 : Heap) (n0 : Nat) (Z0 : n0 ≤ h0.size)  :
    MetFree l x (head1 (Jvm.Cond.code x code maxLocals ret :: ws) room_1) (fun a U => a = #[(.int ax), (.long wv), (.int cx), (.int fx)] ∧ Z.Warmed39 U.vm ∧ U.heap = h0) (fun _ _ _ _ _ => True) (fun _ U o U' => ∃ v L, o = .returned v ∧ Q0 Z ax wv cx fx h0 n0 v U'.heap L ∧ FrameEnd U o U' L 1 12) := by
  refine MetFree.of_bodySF (plainFor_of_name pn_1) hisR ?_
  intro p e s m args below meth c s₁ Bd hml0 hP hK
  obtain ⟨rfl, hZ, hh⟩ := hP
  have hx := Bd.exec
  have hby := Bd.bytes
  have hml : c.maxLocals = 13 := hml0
  have hown : s.vm.findClass "com/example/pledge/pledge/log/PayloadWriterPutBigEndianPinLaw" = some m.cls := findClass_of_methodNamed Bd.named
  have hnm := (name_of_methodNamed Bd.named Bd.method).1
  have X0 : Stand p l e room_1 s m #[(.int ax), (.long wv), (.int cx), (.int fx)] below meth c s₁ [] 0 0 := Stand.of_body Bd
  have e0 : s₁.heap = h0 := by rw [← hh, Bd.state]; rfl
  have N0 := Fr.nil n0
  have hlk : meth.locks = false := BodyLoose.notSynchronized Bd
  suffices hwk : Wk p.tables e below (s₁.setTop (mkF m 0 #[iv ax, jv wv, .second, iv cx, iv fx, .unset, .unset, .unset, .unset, .unset, .unset, .unset, .unset] [])) (fun U o => U.status = .running ∧ Ended U below o ∧ ∃ v L, o = .returned v ∧ Q0 Z ax wv cx fx h0 n0 v U.heap L ∧ FrameEnd s o U L 1 12) by
    obtain ⟨U, o, k1, k2⟩ := hwk
    exact ⟨U, o, castTop (ef_0 m ax wv cx fx) k1, k2⟩
  refine Wk.go (A' := s₁.setTop (mkF m 1 #[iv ax, jv wv, .second, iv cx, iv fx, .unset, .unset, .unset, .unset, .unset, .unset, .unset, .unset] [(.int cx)])) (fun t k => XS.iloadN X0.here hx rfl (hb hby at_0) rfl k) ?_
  refine Wk.go (A' := s₁.setTop (mkF m 3 #[iv ax, jv wv, .second, iv cx, iv fx, .unset, .unset, .unset, .unset, .unset, .unset, .unset, .unset] [(.int (2147483647 : Int32)), (.int cx)])) (fun t k => X0.ldcInt hx hown (mvT hZ (tw0 hw)) (g := (mkF m 1 #[iv ax, jv wv, .second, iv cx, iv fx, .unset, .unset, .unset, .unset, .unset, .unset, .unset, .unset] [(.int cx)])) rfl (hb hby at_1) t k) ?_
  refine Wk.go (A' := s₁.setTop (mkF m 4 #[iv ax, jv wv, .second, iv cx, iv fx, .unset, .unset, .unset, .unset, .unset, .unset, .unset, .unset] [(.int (cx &&& (2147483647 : Int32)))])) (fun t k => XS.iand X0.here hx rfl (hb hby at_3) rfl k) ?_
  refine Wk.go (A' := s₁.setTop (mkF m 6 #[iv ax, jv wv, .second, iv cx, iv fx, .unset, .unset, .unset, .unset, .unset, .unset, .unset, .unset] [(.int (9 : Int32)), (.int (cx &&& (2147483647 : Int32)))])) (fun t k => XS.bipush X0.here hx rfl (hb hby at_4) k) ?_
  refine Wk.go (A' := s₁.setTop (mkF m 7 #[iv ax, jv wv, .second, iv cx, iv fx, .unset, .unset, .unset, .unset, .unset, .unset, .unset, .unset] [(.int ((cx &&& (2147483647 : Int32)) % (9 : Int32)))])) (fun t k => iremM X0 hx rfl (hb hby at_6) rfl (by decide) k) ?_
  refine Wk.go (A' := s₁.setTop (mkF m 9 #[iv ax, jv wv, .second, iv cx, iv fx, iv ((cx &&& (2147483647 : Int32)) % (9 : Int32)), .unset, .unset, .unset, .unset, .unset, .unset, .unset] [])) (fun t k => XS.istore X0.here hx rfl (hb hby at_7) rfl (l' := #[iv ax, jv wv, .second, iv cx, iv fx, iv ((cx &&& (2147483647 : Int32)) % (9 : Int32)), .unset, .unset, .unset, .unset, .unset, .unset, .unset]) rfl k) ?_
  generalize hcnt : ((cx &&& (2147483647 : Int32)) % (9 : Int32)) = cnt
  obtain ⟨hc0, hc8⟩ : 0 ≤ cnt.toInt ∧ cnt.toInt ≤ 8 := by rw [← hcnt]; exact own_cnt cx
  refine Wk.go (A' := s₁.setTop (mkF m 10 #[iv ax, jv wv, .second, iv cx, iv fx, iv cnt, .unset, .unset, .unset, .unset, .unset, .unset, .unset] [(.int ax)])) (fun t k => XS.iloadN X0.here hx rfl (hb hby at_9) rfl k) ?_
  refine Wk.go (A' := s₁.setTop (mkF m 12 #[iv ax, jv wv, .second, iv cx, iv fx, iv cnt, .unset, .unset, .unset, .unset, .unset, .unset, .unset] [(.int (2147483647 : Int32)), (.int ax)])) (fun t k => X0.ldcInt hx hown (mvT hZ (tw0 hw)) (g := (mkF m 10 #[iv ax, jv wv, .second, iv cx, iv fx, iv cnt, .unset, .unset, .unset, .unset, .unset, .unset, .unset] [(.int ax)])) rfl (hb hby at_10) t k) ?_
  refine Wk.go (A' := s₁.setTop (mkF m 13 #[iv ax, jv wv, .second, iv cx, iv fx, iv cnt, .unset, .unset, .unset, .unset, .unset, .unset, .unset] [(.int (ax &&& (2147483647 : Int32)))])) (fun t k => XS.iand X0.here hx rfl (hb hby at_12) rfl k) ?_
  refine Wk.go (A' := s₁.setTop (mkF m 15 #[iv ax, jv wv, .second, iv cx, iv fx, iv cnt, .unset, .unset, .unset, .unset, .unset, .unset, .unset] [(.int (13 : Int32)), (.int (ax &&& (2147483647 : Int32)))])) (fun t k => XS.bipush X0.here hx rfl (hb hby at_13) k) ?_
  refine Wk.go (A' := s₁.setTop (mkF m 17 #[iv ax, jv wv, .second, iv cx, iv fx, iv cnt, .unset, .unset, .unset, .unset, .unset, .unset, .unset] [(.int cnt), (.int (13 : Int32)), (.int (ax &&& (2147483647 : Int32)))])) (fun t k => XS.iload X0.here hx rfl (hb hby at_15) rfl k) ?_
  refine Wk.go (A' := s₁.setTop (mkF m 18 #[iv ax, jv wv, .second, iv cx, iv fx, iv cnt, .unset, .unset, .unset, .unset, .unset, .unset, .unset] [(.int ((13 : Int32) - cnt)), (.int (ax &&& (2147483647 : Int32)))])) (fun t k => XS.isub X0.here hx rfl (hb hby at_17) rfl k) ?_
  refine Wk.go (A' := s₁.setTop (mkF m 19 #[iv ax, jv wv, .second, iv cx, iv fx, iv cnt, .unset, .unset, .unset, .unset, .unset, .unset, .unset] [(.int ((ax &&& (2147483647 : Int32)) % ((13 : Int32) - cnt)))])) (fun t k => iremM X0 hx rfl (hb hby at_18) rfl (own_13nz hc0 hc8) k) ?_
  refine Wk.go (A' := s₁.setTop (mkF m 21 #[iv ax, jv wv, .second, iv cx, iv fx, iv cnt, iv ((ax &&& (2147483647 : Int32)) % ((13 : Int32) - cnt)), .unset, .unset, .unset, .unset, .unset, .unset] [])) (fun t k => XS.istore X0.here hx rfl (hb hby at_19) rfl (l' := #[iv ax, jv wv, .second, iv cx, iv fx, iv cnt, iv ((ax &&& (2147483647 : Int32)) % ((13 : Int32) - cnt)), .unset, .unset, .unset, .unset, .unset, .unset]) rfl k) ?_
  generalize hia : ((ax &&& (2147483647 : Int32)) % ((13 : Int32) - cnt)) = ia
  obtain ⟨hA0, hsum⟩ : 0 ≤ ia.toInt ∧ ia.toInt + cnt.toInt ≤ 12 := by rw [← hia]; exact own_ia hc0 hc8 ax
  refine Wk.go (A' := s₁.setTop (mkF m 23 #[iv ax, jv wv, .second, iv cx, iv fx, iv cnt, iv ia, .unset, .unset, .unset, .unset, .unset, .unset] [(.int fx)])) (fun t k => XS.iload X0.here hx rfl (hb hby at_21) rfl k) ?_
  refine Wk.go (A' := s₁.setTop (mkF m 24 #[iv ax, jv wv, .second, iv cx, iv fx, iv cnt, iv ia, .unset, .unset, .unset, .unset, .unset, .unset] [(.int (fx.toInt8.toInt32))])) (fun t k => XS.i2b X0.here hx rfl (hb hby at_23) rfl k) ?_
  refine Wk.go (A' := s₁.setTop (mkF m 26 #[iv ax, jv wv, .second, iv cx, iv fx, iv cnt, iv ia, iv (fx.toInt8.toInt32), .unset, .unset, .unset, .unset, .unset] [])) (fun t k => XS.istore X0.here hx rfl (hb hby at_24) rfl (l' := #[iv ax, jv wv, .second, iv cx, iv fx, iv cnt, iv ia, iv (fx.toInt8.toInt32), .unset, .unset, .unset, .unset, .unset]) rfl k) ?_
  generalize hfl : (fx.toInt8.toInt32) = fl
  refine Wk.go (A' := s₁.setTop (mkF m 28 #[iv ax, jv wv, .second, iv cx, iv fx, iv cnt, iv ia, iv fl, .unset, .unset, .unset, .unset, .unset] [(.int (12 : Int32))])) (fun t k => XS.bipush X0.here hx rfl (hb hby at_26) k) ?_
  obtain ⟨T1, h1, k1, X1, e1, E1, A1, st1⟩ := newP (aty := .byte) X0 hx hZ (tw1 hw) e0 (g := (mkF m 28 #[iv ax, jv wv, .second, iv cx, iv fx, iv cnt, iv ia, iv fl, .unset, .unset, .unset, .unset, .unset] [(.int (12 : Int32))])) rfl (hb hby at_28) rfl (by decide) (cap := 12) (by decide) (by decide) (by decide) (by decide)
  obtain ⟨bA, g1⟩ : ∃ z, z = h0.size := ⟨_, rfl⟩
  rw [← g1] at A1 st1
  have g_bA : n0 ≤ bA := Nat.le_trans Z0 (Nat.le_of_eq g1.symm)
  have V1 : BA Z h1 bA 12 (fun _ => 0) := BA.new A1
  have Zp1 : n0 ≤ h1.size := Nat.le_trans Z0 E1.1
  refine Wk.go (A' := T1.setTop (mkF m 30 #[iv ax, jv wv, .second, iv cx, iv fx, iv cnt, iv ia, iv fl, .unset, .unset, .unset, .unset, .unset] [(.ref bA)])) (fun t k => st1 t k) ?_
  refine Wk.go (A' := T1.setTop (mkF m 32 #[iv ax, jv wv, .second, iv cx, iv fx, iv cnt, iv ia, iv fl, rv bA, .unset, .unset, .unset, .unset] [])) (fun t k => XS.astore X1.here hx rfl (hb hby at_30) rfl rfl (l' := #[iv ax, jv wv, .second, iv cx, iv fx, iv cnt, iv ia, iv fl, rv bA, .unset, .unset, .unset, .unset]) rfl k) ?_
  refine Wk.go (A' := T1.setTop (mkF m 34 #[iv ax, jv wv, .second, iv cx, iv fx, iv cnt, iv ia, iv fl, rv bA, .unset, .unset, .unset, .unset] [(.ref bA)])) (fun t k => XS.aload X1.here hx rfl (hb hby at_32) rfl rfl k) ?_
  refine Wk.go (A' := T1.setTop (mkF m 35 #[iv ax, jv wv, .second, iv cx, iv fx, iv cnt, iv ia, iv fl, rv bA, .unset, .unset, .unset, .unset] [(.int (0 : Int32)), (.ref bA)])) (fun t k => XS.iconst X1.here hx rfl (hb hby at_34) k) ?_
  refine Wk.go (A' := T1.setTop (mkF m 37 #[iv ax, jv wv, .second, iv cx, iv fx, iv cnt, iv ia, iv fl, rv bA, .unset, .unset, .unset, .unset] [(.int fl), (.int (0 : Int32)), (.ref bA)])) (fun t k => XS.iload X1.here hx rfl (hb hby at_35) rfl k) ?_
  obtain ⟨T2, h2, X2, e2, W2, B2, st2⟩ := own_stB X1 hx hZ e1 V1 (j := (0 : Int32)) (by decide) (g := (mkF m 37 #[iv ax, jv wv, .second, iv cx, iv fx, iv cnt, iv ia, iv fl, rv bA, .unset, .unset, .unset, .unset] [(.int fl), (.int (0 : Int32)), (.ref bA)])) rfl rfl (hb hby at_37)
  have V2 : BA Z h2 bA 12 (own_upd (fun _ => 0) 0 (fl).toInt8.toInt32) := B2
  obtain ⟨f1, hf1⟩ : ∃ z, z = (own_upd (fun _ => 0) 0 (fl).toInt8.toInt32) := ⟨_, rfl⟩
  rw [← hf1] at V2
  have f3 := V2
  have Zp2 : n0 ≤ h2.size := Nat.le_trans Zp1 (Nat.le_of_eq W2.size.symm)
  have N2 := Fr.snoc X2 N0 g_bA
  refine Wk.go (A' := T2.setTop (mkF m 38 #[iv ax, jv wv, .second, iv cx, iv fx, iv cnt, iv ia, iv fl, rv bA, .unset, .unset, .unset, .unset] [])) (fun t k => st2 t k) ?_
  refine Wk.go (A' := T2.setTop (mkF m 40 #[iv ax, jv wv, .second, iv cx, iv fx, iv cnt, iv ia, iv fl, rv bA, .unset, .unset, .unset, .unset] [(.ref bA)])) (fun t k => XS.aload X2.here hx rfl (hb hby at_38) rfl rfl k) ?_
  refine Wk.go (A' := T2.setTop (mkF m 41 #[iv ax, jv wv, .second, iv cx, iv fx, iv cnt, iv ia, iv fl, rv bA, .unset, .unset, .unset, .unset] [(.int (1 : Int32)), (.ref bA)])) (fun t k => XS.iconst X2.here hx rfl (hb hby at_40) k) ?_
  refine Wk.go (A' := T2.setTop (mkF m 43 #[iv ax, jv wv, .second, iv cx, iv fx, iv cnt, iv ia, iv fl, rv bA, .unset, .unset, .unset, .unset] [(.int fl), (.int (1 : Int32)), (.ref bA)])) (fun t k => XS.iload X2.here hx rfl (hb hby at_41) rfl k) ?_
  obtain ⟨T4, h4, X4, e4, W4, B4, st4⟩ := own_stB X2 hx hZ e2 f3 (j := (1 : Int32)) (by decide) (g := (mkF m 43 #[iv ax, jv wv, .second, iv cx, iv fx, iv cnt, iv ia, iv fl, rv bA, .unset, .unset, .unset, .unset] [(.int fl), (.int (1 : Int32)), (.ref bA)])) rfl rfl (hb hby at_43)
  have V4 : BA Z h4 bA 12 (own_upd f1 1 (fl).toInt8.toInt32) := B4
  obtain ⟨f2, hf2⟩ : ∃ z, z = (own_upd f1 1 (fl).toInt8.toInt32) := ⟨_, rfl⟩
  rw [← hf2] at V4
  have f5 := V4
  have Zp4 : n0 ≤ h4.size := Nat.le_trans Zp2 (Nat.le_of_eq W4.size.symm)
  have N4 := Fr.snoc X4 N2 g_bA
  refine Wk.go (A' := T4.setTop (mkF m 44 #[iv ax, jv wv, .second, iv cx, iv fx, iv cnt, iv ia, iv fl, rv bA, .unset, .unset, .unset, .unset] [])) (fun t k => st4 t k) ?_
  refine Wk.go (A' := T4.setTop (mkF m 46 #[iv ax, jv wv, .second, iv cx, iv fx, iv cnt, iv ia, iv fl, rv bA, .unset, .unset, .unset, .unset] [(.ref bA)])) (fun t k => XS.aload X4.here hx rfl (hb hby at_44) rfl rfl k) ?_
  refine Wk.go (A' := T4.setTop (mkF m 47 #[iv ax, jv wv, .second, iv cx, iv fx, iv cnt, iv ia, iv fl, rv bA, .unset, .unset, .unset, .unset] [(.int (2 : Int32)), (.ref bA)])) (fun t k => XS.iconst X4.here hx rfl (hb hby at_46) k) ?_
  refine Wk.go (A' := T4.setTop (mkF m 49 #[iv ax, jv wv, .second, iv cx, iv fx, iv cnt, iv ia, iv fl, rv bA, .unset, .unset, .unset, .unset] [(.int fl), (.int (2 : Int32)), (.ref bA)])) (fun t k => XS.iload X4.here hx rfl (hb hby at_47) rfl k) ?_
  obtain ⟨T6, h6, X6, e6, W6, B6, st6⟩ := own_stB X4 hx hZ e4 f5 (j := (2 : Int32)) (by decide) (g := (mkF m 49 #[iv ax, jv wv, .second, iv cx, iv fx, iv cnt, iv ia, iv fl, rv bA, .unset, .unset, .unset, .unset] [(.int fl), (.int (2 : Int32)), (.ref bA)])) rfl rfl (hb hby at_49)
  have V6 : BA Z h6 bA 12 (own_upd f2 2 (fl).toInt8.toInt32) := B6
  obtain ⟨f3, hf3⟩ : ∃ z, z = (own_upd f2 2 (fl).toInt8.toInt32) := ⟨_, rfl⟩
  rw [← hf3] at V6
  have f7 := V6
  have Zp6 : n0 ≤ h6.size := Nat.le_trans Zp4 (Nat.le_of_eq W6.size.symm)
  have N6 := Fr.snoc X6 N4 g_bA
  refine Wk.go (A' := T6.setTop (mkF m 50 #[iv ax, jv wv, .second, iv cx, iv fx, iv cnt, iv ia, iv fl, rv bA, .unset, .unset, .unset, .unset] [])) (fun t k => st6 t k) ?_
  refine Wk.go (A' := T6.setTop (mkF m 52 #[iv ax, jv wv, .second, iv cx, iv fx, iv cnt, iv ia, iv fl, rv bA, .unset, .unset, .unset, .unset] [(.ref bA)])) (fun t k => XS.aload X6.here hx rfl (hb hby at_50) rfl rfl k) ?_
  refine Wk.go (A' := T6.setTop (mkF m 53 #[iv ax, jv wv, .second, iv cx, iv fx, iv cnt, iv ia, iv fl, rv bA, .unset, .unset, .unset, .unset] [(.int (3 : Int32)), (.ref bA)])) (fun t k => XS.iconst X6.here hx rfl (hb hby at_52) k) ?_
  refine Wk.go (A' := T6.setTop (mkF m 55 #[iv ax, jv wv, .second, iv cx, iv fx, iv cnt, iv ia, iv fl, rv bA, .unset, .unset, .unset, .unset] [(.int fl), (.int (3 : Int32)), (.ref bA)])) (fun t k => XS.iload X6.here hx rfl (hb hby at_53) rfl k) ?_
  obtain ⟨T8, h8, X8, e8, W8, B8, st8⟩ := own_stB X6 hx hZ e6 f7 (j := (3 : Int32)) (by decide) (g := (mkF m 55 #[iv ax, jv wv, .second, iv cx, iv fx, iv cnt, iv ia, iv fl, rv bA, .unset, .unset, .unset, .unset] [(.int fl), (.int (3 : Int32)), (.ref bA)])) rfl rfl (hb hby at_55)
  have V8 : BA Z h8 bA 12 (own_upd f3 3 (fl).toInt8.toInt32) := B8
  obtain ⟨f4, hf4⟩ : ∃ z, z = (own_upd f3 3 (fl).toInt8.toInt32) := ⟨_, rfl⟩
  rw [← hf4] at V8
  have f9 := V8
  have Zp8 : n0 ≤ h8.size := Nat.le_trans Zp6 (Nat.le_of_eq W8.size.symm)
  have N8 := Fr.snoc X8 N6 g_bA
  refine Wk.go (A' := T8.setTop (mkF m 56 #[iv ax, jv wv, .second, iv cx, iv fx, iv cnt, iv ia, iv fl, rv bA, .unset, .unset, .unset, .unset] [])) (fun t k => st8 t k) ?_
  refine Wk.go (A' := T8.setTop (mkF m 58 #[iv ax, jv wv, .second, iv cx, iv fx, iv cnt, iv ia, iv fl, rv bA, .unset, .unset, .unset, .unset] [(.ref bA)])) (fun t k => XS.aload X8.here hx rfl (hb hby at_56) rfl rfl k) ?_
  refine Wk.go (A' := T8.setTop (mkF m 59 #[iv ax, jv wv, .second, iv cx, iv fx, iv cnt, iv ia, iv fl, rv bA, .unset, .unset, .unset, .unset] [(.int (4 : Int32)), (.ref bA)])) (fun t k => XS.iconst X8.here hx rfl (hb hby at_58) k) ?_
  refine Wk.go (A' := T8.setTop (mkF m 61 #[iv ax, jv wv, .second, iv cx, iv fx, iv cnt, iv ia, iv fl, rv bA, .unset, .unset, .unset, .unset] [(.int fl), (.int (4 : Int32)), (.ref bA)])) (fun t k => XS.iload X8.here hx rfl (hb hby at_59) rfl k) ?_
  obtain ⟨T10, h10, X10, e10, W10, B10, st10⟩ := own_stB X8 hx hZ e8 f9 (j := (4 : Int32)) (by decide) (g := (mkF m 61 #[iv ax, jv wv, .second, iv cx, iv fx, iv cnt, iv ia, iv fl, rv bA, .unset, .unset, .unset, .unset] [(.int fl), (.int (4 : Int32)), (.ref bA)])) rfl rfl (hb hby at_61)
  have V10 : BA Z h10 bA 12 (own_upd f4 4 (fl).toInt8.toInt32) := B10
  obtain ⟨f5, hf5⟩ : ∃ z, z = (own_upd f4 4 (fl).toInt8.toInt32) := ⟨_, rfl⟩
  rw [← hf5] at V10
  have f11 := V10
  have Zp10 : n0 ≤ h10.size := Nat.le_trans Zp8 (Nat.le_of_eq W10.size.symm)
  have N10 := Fr.snoc X10 N8 g_bA
  refine Wk.go (A' := T10.setTop (mkF m 62 #[iv ax, jv wv, .second, iv cx, iv fx, iv cnt, iv ia, iv fl, rv bA, .unset, .unset, .unset, .unset] [])) (fun t k => st10 t k) ?_
  refine Wk.go (A' := T10.setTop (mkF m 64 #[iv ax, jv wv, .second, iv cx, iv fx, iv cnt, iv ia, iv fl, rv bA, .unset, .unset, .unset, .unset] [(.ref bA)])) (fun t k => XS.aload X10.here hx rfl (hb hby at_62) rfl rfl k) ?_
  refine Wk.go (A' := T10.setTop (mkF m 65 #[iv ax, jv wv, .second, iv cx, iv fx, iv cnt, iv ia, iv fl, rv bA, .unset, .unset, .unset, .unset] [(.int (5 : Int32)), (.ref bA)])) (fun t k => XS.iconst X10.here hx rfl (hb hby at_64) k) ?_
  refine Wk.go (A' := T10.setTop (mkF m 67 #[iv ax, jv wv, .second, iv cx, iv fx, iv cnt, iv ia, iv fl, rv bA, .unset, .unset, .unset, .unset] [(.int fl), (.int (5 : Int32)), (.ref bA)])) (fun t k => XS.iload X10.here hx rfl (hb hby at_65) rfl k) ?_
  obtain ⟨T12, h12, X12, e12, W12, B12, st12⟩ := own_stB X10 hx hZ e10 f11 (j := (5 : Int32)) (by decide) (g := (mkF m 67 #[iv ax, jv wv, .second, iv cx, iv fx, iv cnt, iv ia, iv fl, rv bA, .unset, .unset, .unset, .unset] [(.int fl), (.int (5 : Int32)), (.ref bA)])) rfl rfl (hb hby at_67)
  have V12 : BA Z h12 bA 12 (own_upd f5 5 (fl).toInt8.toInt32) := B12
  obtain ⟨f6, hf6⟩ : ∃ z, z = (own_upd f5 5 (fl).toInt8.toInt32) := ⟨_, rfl⟩
  rw [← hf6] at V12
  have f13 := V12
  have Zp12 : n0 ≤ h12.size := Nat.le_trans Zp10 (Nat.le_of_eq W12.size.symm)
  have N12 := Fr.snoc X12 N10 g_bA
  refine Wk.go (A' := T12.setTop (mkF m 68 #[iv ax, jv wv, .second, iv cx, iv fx, iv cnt, iv ia, iv fl, rv bA, .unset, .unset, .unset, .unset] [])) (fun t k => st12 t k) ?_
  refine Wk.go (A' := T12.setTop (mkF m 70 #[iv ax, jv wv, .second, iv cx, iv fx, iv cnt, iv ia, iv fl, rv bA, .unset, .unset, .unset, .unset] [(.ref bA)])) (fun t k => XS.aload X12.here hx rfl (hb hby at_68) rfl rfl k) ?_
  refine Wk.go (A' := T12.setTop (mkF m 72 #[iv ax, jv wv, .second, iv cx, iv fx, iv cnt, iv ia, iv fl, rv bA, .unset, .unset, .unset, .unset] [(.int (6 : Int32)), (.ref bA)])) (fun t k => XS.bipush X12.here hx rfl (hb hby at_70) k) ?_
  refine Wk.go (A' := T12.setTop (mkF m 74 #[iv ax, jv wv, .second, iv cx, iv fx, iv cnt, iv ia, iv fl, rv bA, .unset, .unset, .unset, .unset] [(.int fl), (.int (6 : Int32)), (.ref bA)])) (fun t k => XS.iload X12.here hx rfl (hb hby at_72) rfl k) ?_
  obtain ⟨T14, h14, X14, e14, W14, B14, st14⟩ := own_stB X12 hx hZ e12 f13 (j := (6 : Int32)) (by decide) (g := (mkF m 74 #[iv ax, jv wv, .second, iv cx, iv fx, iv cnt, iv ia, iv fl, rv bA, .unset, .unset, .unset, .unset] [(.int fl), (.int (6 : Int32)), (.ref bA)])) rfl rfl (hb hby at_74)
  have V14 : BA Z h14 bA 12 (own_upd f6 6 (fl).toInt8.toInt32) := B14
  obtain ⟨f7, hf7⟩ : ∃ z, z = (own_upd f6 6 (fl).toInt8.toInt32) := ⟨_, rfl⟩
  rw [← hf7] at V14
  have f15 := V14
  have Zp14 : n0 ≤ h14.size := Nat.le_trans Zp12 (Nat.le_of_eq W14.size.symm)
  have N14 := Fr.snoc X14 N12 g_bA
  refine Wk.go (A' := T14.setTop (mkF m 75 #[iv ax, jv wv, .second, iv cx, iv fx, iv cnt, iv ia, iv fl, rv bA, .unset, .unset, .unset, .unset] [])) (fun t k => st14 t k) ?_
  refine Wk.go (A' := T14.setTop (mkF m 77 #[iv ax, jv wv, .second, iv cx, iv fx, iv cnt, iv ia, iv fl, rv bA, .unset, .unset, .unset, .unset] [(.ref bA)])) (fun t k => XS.aload X14.here hx rfl (hb hby at_75) rfl rfl k) ?_
  refine Wk.go (A' := T14.setTop (mkF m 79 #[iv ax, jv wv, .second, iv cx, iv fx, iv cnt, iv ia, iv fl, rv bA, .unset, .unset, .unset, .unset] [(.int (7 : Int32)), (.ref bA)])) (fun t k => XS.bipush X14.here hx rfl (hb hby at_77) k) ?_
  refine Wk.go (A' := T14.setTop (mkF m 81 #[iv ax, jv wv, .second, iv cx, iv fx, iv cnt, iv ia, iv fl, rv bA, .unset, .unset, .unset, .unset] [(.int fl), (.int (7 : Int32)), (.ref bA)])) (fun t k => XS.iload X14.here hx rfl (hb hby at_79) rfl k) ?_
  obtain ⟨T16, h16, X16, e16, W16, B16, st16⟩ := own_stB X14 hx hZ e14 f15 (j := (7 : Int32)) (by decide) (g := (mkF m 81 #[iv ax, jv wv, .second, iv cx, iv fx, iv cnt, iv ia, iv fl, rv bA, .unset, .unset, .unset, .unset] [(.int fl), (.int (7 : Int32)), (.ref bA)])) rfl rfl (hb hby at_81)
  have V16 : BA Z h16 bA 12 (own_upd f7 7 (fl).toInt8.toInt32) := B16
  obtain ⟨f8, hf8⟩ : ∃ z, z = (own_upd f7 7 (fl).toInt8.toInt32) := ⟨_, rfl⟩
  rw [← hf8] at V16
  have f17 := V16
  have Zp16 : n0 ≤ h16.size := Nat.le_trans Zp14 (Nat.le_of_eq W16.size.symm)
  have N16 := Fr.snoc X16 N14 g_bA
  refine Wk.go (A' := T16.setTop (mkF m 82 #[iv ax, jv wv, .second, iv cx, iv fx, iv cnt, iv ia, iv fl, rv bA, .unset, .unset, .unset, .unset] [])) (fun t k => st16 t k) ?_
  refine Wk.go (A' := T16.setTop (mkF m 84 #[iv ax, jv wv, .second, iv cx, iv fx, iv cnt, iv ia, iv fl, rv bA, .unset, .unset, .unset, .unset] [(.ref bA)])) (fun t k => XS.aload X16.here hx rfl (hb hby at_82) rfl rfl k) ?_
  refine Wk.go (A' := T16.setTop (mkF m 86 #[iv ax, jv wv, .second, iv cx, iv fx, iv cnt, iv ia, iv fl, rv bA, .unset, .unset, .unset, .unset] [(.int (8 : Int32)), (.ref bA)])) (fun t k => XS.bipush X16.here hx rfl (hb hby at_84) k) ?_
  refine Wk.go (A' := T16.setTop (mkF m 88 #[iv ax, jv wv, .second, iv cx, iv fx, iv cnt, iv ia, iv fl, rv bA, .unset, .unset, .unset, .unset] [(.int fl), (.int (8 : Int32)), (.ref bA)])) (fun t k => XS.iload X16.here hx rfl (hb hby at_86) rfl k) ?_
  obtain ⟨T18, h18, X18, e18, W18, B18, st18⟩ := own_stB X16 hx hZ e16 f17 (j := (8 : Int32)) (by decide) (g := (mkF m 88 #[iv ax, jv wv, .second, iv cx, iv fx, iv cnt, iv ia, iv fl, rv bA, .unset, .unset, .unset, .unset] [(.int fl), (.int (8 : Int32)), (.ref bA)])) rfl rfl (hb hby at_88)
  have V18 : BA Z h18 bA 12 (own_upd f8 8 (fl).toInt8.toInt32) := B18
  obtain ⟨f9, hf9⟩ : ∃ z, z = (own_upd f8 8 (fl).toInt8.toInt32) := ⟨_, rfl⟩
  rw [← hf9] at V18
  have f19 := V18
  have Zp18 : n0 ≤ h18.size := Nat.le_trans Zp16 (Nat.le_of_eq W18.size.symm)
  have N18 := Fr.snoc X18 N16 g_bA
  refine Wk.go (A' := T18.setTop (mkF m 89 #[iv ax, jv wv, .second, iv cx, iv fx, iv cnt, iv ia, iv fl, rv bA, .unset, .unset, .unset, .unset] [])) (fun t k => st18 t k) ?_
  refine Wk.go (A' := T18.setTop (mkF m 91 #[iv ax, jv wv, .second, iv cx, iv fx, iv cnt, iv ia, iv fl, rv bA, .unset, .unset, .unset, .unset] [(.ref bA)])) (fun t k => XS.aload X18.here hx rfl (hb hby at_89) rfl rfl k) ?_
  refine Wk.go (A' := T18.setTop (mkF m 93 #[iv ax, jv wv, .second, iv cx, iv fx, iv cnt, iv ia, iv fl, rv bA, .unset, .unset, .unset, .unset] [(.int (9 : Int32)), (.ref bA)])) (fun t k => XS.bipush X18.here hx rfl (hb hby at_91) k) ?_
  refine Wk.go (A' := T18.setTop (mkF m 95 #[iv ax, jv wv, .second, iv cx, iv fx, iv cnt, iv ia, iv fl, rv bA, .unset, .unset, .unset, .unset] [(.int fl), (.int (9 : Int32)), (.ref bA)])) (fun t k => XS.iload X18.here hx rfl (hb hby at_93) rfl k) ?_
  obtain ⟨T20, h20, X20, e20, W20, B20, st20⟩ := own_stB X18 hx hZ e18 f19 (j := (9 : Int32)) (by decide) (g := (mkF m 95 #[iv ax, jv wv, .second, iv cx, iv fx, iv cnt, iv ia, iv fl, rv bA, .unset, .unset, .unset, .unset] [(.int fl), (.int (9 : Int32)), (.ref bA)])) rfl rfl (hb hby at_95)
  have V20 : BA Z h20 bA 12 (own_upd f9 9 (fl).toInt8.toInt32) := B20
  obtain ⟨f10, hf10⟩ : ∃ z, z = (own_upd f9 9 (fl).toInt8.toInt32) := ⟨_, rfl⟩
  rw [← hf10] at V20
  have f21 := V20
  have Zp20 : n0 ≤ h20.size := Nat.le_trans Zp18 (Nat.le_of_eq W20.size.symm)
  have N20 := Fr.snoc X20 N18 g_bA
  refine Wk.go (A' := T20.setTop (mkF m 96 #[iv ax, jv wv, .second, iv cx, iv fx, iv cnt, iv ia, iv fl, rv bA, .unset, .unset, .unset, .unset] [])) (fun t k => st20 t k) ?_
  refine Wk.go (A' := T20.setTop (mkF m 98 #[iv ax, jv wv, .second, iv cx, iv fx, iv cnt, iv ia, iv fl, rv bA, .unset, .unset, .unset, .unset] [(.ref bA)])) (fun t k => XS.aload X20.here hx rfl (hb hby at_96) rfl rfl k) ?_
  refine Wk.go (A' := T20.setTop (mkF m 100 #[iv ax, jv wv, .second, iv cx, iv fx, iv cnt, iv ia, iv fl, rv bA, .unset, .unset, .unset, .unset] [(.int (10 : Int32)), (.ref bA)])) (fun t k => XS.bipush X20.here hx rfl (hb hby at_98) k) ?_
  refine Wk.go (A' := T20.setTop (mkF m 102 #[iv ax, jv wv, .second, iv cx, iv fx, iv cnt, iv ia, iv fl, rv bA, .unset, .unset, .unset, .unset] [(.int fl), (.int (10 : Int32)), (.ref bA)])) (fun t k => XS.iload X20.here hx rfl (hb hby at_100) rfl k) ?_
  obtain ⟨T22, h22, X22, e22, W22, B22, st22⟩ := own_stB X20 hx hZ e20 f21 (j := (10 : Int32)) (by decide) (g := (mkF m 102 #[iv ax, jv wv, .second, iv cx, iv fx, iv cnt, iv ia, iv fl, rv bA, .unset, .unset, .unset, .unset] [(.int fl), (.int (10 : Int32)), (.ref bA)])) rfl rfl (hb hby at_102)
  have V22 : BA Z h22 bA 12 (own_upd f10 10 (fl).toInt8.toInt32) := B22
  obtain ⟨f11, hf11⟩ : ∃ z, z = (own_upd f10 10 (fl).toInt8.toInt32) := ⟨_, rfl⟩
  rw [← hf11] at V22
  have f23 := V22
  have Zp22 : n0 ≤ h22.size := Nat.le_trans Zp20 (Nat.le_of_eq W22.size.symm)
  have N22 := Fr.snoc X22 N20 g_bA
  refine Wk.go (A' := T22.setTop (mkF m 103 #[iv ax, jv wv, .second, iv cx, iv fx, iv cnt, iv ia, iv fl, rv bA, .unset, .unset, .unset, .unset] [])) (fun t k => st22 t k) ?_
  refine Wk.go (A' := T22.setTop (mkF m 105 #[iv ax, jv wv, .second, iv cx, iv fx, iv cnt, iv ia, iv fl, rv bA, .unset, .unset, .unset, .unset] [(.ref bA)])) (fun t k => XS.aload X22.here hx rfl (hb hby at_103) rfl rfl k) ?_
  refine Wk.go (A' := T22.setTop (mkF m 107 #[iv ax, jv wv, .second, iv cx, iv fx, iv cnt, iv ia, iv fl, rv bA, .unset, .unset, .unset, .unset] [(.int (11 : Int32)), (.ref bA)])) (fun t k => XS.bipush X22.here hx rfl (hb hby at_105) k) ?_
  refine Wk.go (A' := T22.setTop (mkF m 109 #[iv ax, jv wv, .second, iv cx, iv fx, iv cnt, iv ia, iv fl, rv bA, .unset, .unset, .unset, .unset] [(.int fl), (.int (11 : Int32)), (.ref bA)])) (fun t k => XS.iload X22.here hx rfl (hb hby at_107) rfl k) ?_
  obtain ⟨T24, h24, X24, e24, W24, B24, st24⟩ := own_stB X22 hx hZ e22 f23 (j := (11 : Int32)) (by decide) (g := (mkF m 109 #[iv ax, jv wv, .second, iv cx, iv fx, iv cnt, iv ia, iv fl, rv bA, .unset, .unset, .unset, .unset] [(.int fl), (.int (11 : Int32)), (.ref bA)])) rfl rfl (hb hby at_109)
  have V24 : BA Z h24 bA 12 (own_upd f11 11 (fl).toInt8.toInt32) := B24
  obtain ⟨f12, hf12⟩ : ∃ z, z = (own_upd f11 11 (fl).toInt8.toInt32) := ⟨_, rfl⟩
  rw [← hf12] at V24
  have f25 := V24
  have Zp24 : n0 ≤ h24.size := Nat.le_trans Zp22 (Nat.le_of_eq W24.size.symm)
  have N24 := Fr.snoc X24 N22 g_bA
  refine Wk.go (A' := T24.setTop (mkF m 110 #[iv ax, jv wv, .second, iv cx, iv fx, iv cnt, iv ia, iv fl, rv bA, .unset, .unset, .unset, .unset] [])) (fun t k => st24 t k) ?_
  have hflb : fl.toInt8.toInt32 = fl := by rw [← hfl, Int8.toInt8_toInt32]
  have hall : ∀ n : Nat, n < 12 → f12 n = fl := (own_fs hf12 hflb (own_fs hf11 hflb (own_fs hf10 hflb (own_fs hf9 hflb (own_fs hf8 hflb (own_fs hf7 hflb (own_fs hf6 hflb (own_fs hf5 hflb (own_fs hf4 hflb (own_fs hf3 hflb (own_fs hf2 hflb (own_fs hf1 hflb (fun n hn => absurd hn (Nat.not_lt_zero n))))))))))))))
  refine Wk.go (A' := T24.setTop (mkF m 112 #[iv ax, jv wv, .second, iv cx, iv fx, iv cnt, iv ia, iv fl, rv bA, .unset, .unset, .unset, .unset] [(.ref bA)])) (fun t k => XS.aload X24.here hx rfl (hb hby at_110) rfl rfl k) ?_
  refine Wk.go (A' := T24.setTop (mkF m 114 #[iv ax, jv wv, .second, iv cx, iv fx, iv cnt, iv ia, iv fl, rv bA, .unset, .unset, .unset, .unset] [(.int ia), (.ref bA)])) (fun t k => XS.iload X24.here hx rfl (hb hby at_112) rfl k) ?_
  refine Wk.go (A' := T24.setTop (mkF m 115 #[iv ax, jv wv, .second, iv cx, iv fx, iv cnt, iv ia, iv fl, rv bA, .unset, .unset, .unset, .unset] [(.long wv), (.int ia), (.ref bA)])) (fun t k => XS.lloadN X24.here hx rfl (hb hby at_114) rfl k) ?_
  refine Wk.go (A' := T24.setTop (mkF m 117 #[iv ax, jv wv, .second, iv cx, iv fx, iv cnt, iv ia, iv fl, rv bA, .unset, .unset, .unset, .unset] [(.int cnt), (.long wv), (.int ia), (.ref bA)])) (fun t k => XS.iload X24.here hx rfl (hb hby at_115) rfl k) ?_
  obtain ⟨_, _, ⟨T26, L26, k26, n26⟩, -, X26, ⟨Lc26, hQ26, l26, y26, z26⟩, st26⟩ := Jvm.LawKit.callS X24 hx (y := (⟨"com/example/pledge/pledge/log/PayloadWriter", "putBigEndian", "([BIJI)V"⟩ : MethodName)) hown (mvT hZ (tw2 hw)) (mvT hZ (tw3 hw)) (mvT hZ (tw4 hw)) (mvT hZ (tw5 hw)) (by decide) (backOf (W := 0) (rm1 l Z a0 hw [] bA ia wv cnt f12 h24 n0 Zp24 f25 hA0 hc0 hc8 hsum g_bA) hZ (tw5 hw) (tw4 hw) (by decide) (by decide)) (g := (mkF m 117 #[iv ax, jv wv, .second, iv cx, iv fx, iv cnt, iv ia, iv fl, rv bA, .unset, .unset, .unset, .unset] [(.int cnt), (.long wv), (.int ia), (.ref bA)])) rfl (by rw [hml]; rfl) (argsL := [(.ref bA), (.int ia), (.long wv), (.int cnt)]) (rest := []) (lenOf pd_0 rfl) rfl (by show 2 * 0 + _ ≤ _; exact Nat.le_of_eq rfl) (hb hby at_117) (fun _ _ => ⟨rfl, e24, (by decide : 1 + 0 ≤ _), (by decide : 12 + 0 ≤ _)⟩)
  dsimp only [Pt.U, Pt.locs, Pt.cells, Pt.slots] at X26 l26 y26 z26 st26 hQ26
  subst y26 z26
  obtain ⟨rfl, N26q, Kq26, Vq26⟩ := hQ26
  have N26 : Fr n0 L26 := l26 ▸ Fr.app N24 N26q
  have Zp26 : n0 ≤ T26.heap.size := Nat.le_trans Zp24 Kq26.1
  obtain ⟨fP, hfP⟩ : ∃ z, z = own_put f12 ia wv cnt cnt := ⟨_, rfl⟩
  rw [← hfP] at Vq26
  refine Wk.go (A' := T26.setTop (mkF m 120 #[iv ax, jv wv, .second, iv cx, iv fx, iv cnt, iv ia, iv fl, rv bA, .unset, .unset, .unset, .unset] [])) (fun t k => st26 t k) ?_
  refine Wk.go (A' := T26.setTop (mkF m 121 #[iv ax, jv wv, .second, iv cx, iv fx, iv cnt, iv ia, iv fl, rv bA, .unset, .unset, .unset, .unset] [(.long (0 : Int64))])) (fun t k => XS.lconst X26.here hx rfl (hb hby at_120) k) ?_
  refine Wk.go (A' := T26.setTop (mkF m 123 #[iv ax, jv wv, .second, iv cx, iv fx, iv cnt, iv ia, iv fl, rv bA, jv (0 : Int64), .second, .unset, .unset] [])) (fun t k => XS.lstore X26.here hx rfl (hb hby at_121) rfl (l' := #[iv ax, jv wv, .second, iv cx, iv fx, iv cnt, iv ia, iv fl, rv bA, jv (0 : Int64), .second, .unset, .unset]) rfl k) ?_
  refine Wk.go (A' := T26.setTop (mkF m 125 #[iv ax, jv wv, .second, iv cx, iv fx, iv cnt, iv ia, iv fl, rv bA, jv (0 : Int64), .second, .unset, .unset] [(.long (0 : Int64))])) (fun t k => XS.lload X26.here hx rfl (hb hby at_123) rfl k) ?_
  refine Wk.go (A' := T26.setTop (mkF m 127 #[iv ax, jv wv, .second, iv cx, iv fx, iv cnt, iv ia, iv fl, rv bA, jv (0 : Int64), .second, .unset, .unset] [(.ref bA), (.long (0 : Int64))])) (fun t k => XS.aload X26.here hx rfl (hb hby at_125) rfl rfl k) ?_
  refine Wk.go (A' := T26.setTop (mkF m 129 #[iv ax, jv wv, .second, iv cx, iv fx, iv cnt, iv ia, iv fl, rv bA, jv (0 : Int64), .second, .unset, .unset] [(.int ia), (.ref bA), (.long (0 : Int64))])) (fun t k => XS.iload X26.here hx rfl (hb hby at_127) rfl k) ?_
  refine Wk.go (A' := T26.setTop (mkF m 130 #[iv ax, jv wv, .second, iv cx, iv fx, iv cnt, iv ia, iv fl, rv bA, jv (0 : Int64), .second, .unset, .unset] [(.int (0 : Int32)), (.int ia), (.ref bA), (.long (0 : Int64))])) (fun t k => XS.iconst X26.here hx rfl (hb hby at_129) k) ?_
  refine Wk.go (A' := T26.setTop (mkF m 132 #[iv ax, jv wv, .second, iv cx, iv fx, iv cnt, iv ia, iv fl, rv bA, jv (0 : Int64), .second, .unset, .unset] [(.int cnt), (.int (0 : Int32)), (.int ia), (.ref bA), (.long (0 : Int64))])) (fun t k => XS.iload X26.here hx rfl (hb hby at_130) rfl k) ?_
  obtain ⟨_, _, ⟨T27, L27, k27, n27⟩, -, X27, ⟨Lc27, hQ27, l27, y27, z27⟩, st27⟩ := Jvm.LawKit.callS X26 hx (y := (⟨"com/example/pledge/pledge/log/PayloadWriterPutBigEndianPinLaw", "step", "(J[BIII)J"⟩ : MethodName)) hown (mvT hZ (tw6 hw)) (mvT hZ (tw7 hw)) (mvT hZ (tw8 hw)) (mvT hZ (tw9 hw)) (by decide) (backOf (W := 0) (rm2 l Z a0 hw [] (0 : Int64) bA ia (0 : Int32) cnt fP T26.heap n0 Zp26 Vq26 (own_in hA0 hsum (by decide))) hZ (tw9 hw) (tw8 hw) (by decide) (by decide)) (g := (mkF m 132 #[iv ax, jv wv, .second, iv cx, iv fx, iv cnt, iv ia, iv fl, rv bA, jv (0 : Int64), .second, .unset, .unset] [(.int cnt), (.int (0 : Int32)), (.int ia), (.ref bA), (.long (0 : Int64))])) rfl (by rw [hml]; rfl) (argsL := [(.long (0 : Int64)), (.ref bA), (.int ia), (.int (0 : Int32)), (.int cnt)]) (rest := []) (lenOf pd_1 rfl) rfl (by show 2 * 0 + _ ≤ _; exact Nat.le_of_eq rfl) (hb hby at_132) (fun _ _ => ⟨rfl, rfl, (by decide : 1 + 0 ≤ _), (by decide : 12 + 0 ≤ _)⟩)
  dsimp only [Pt.U, Pt.locs, Pt.cells, Pt.slots] at X27 l27 y27 z27 st27 hQ27
  subst y27 z27
  obtain ⟨rfl, N27q, hE27⟩ := hQ27
  have N27 : Fr n0 L27 := l27 ▸ Fr.app N26 N27q
  refine Wk.go (A' := T27.setTop (mkF m 135 #[iv ax, jv wv, .second, iv cx, iv fx, iv cnt, iv ia, iv fl, rv bA, jv (0 : Int64), .second, .unset, .unset] [(.long (f_step (0 : Int64) bA ia (0 : Int32) cnt fP))])) (fun t k => st27 t k) ?_
  refine Wk.go (A' := T27.setTop (mkF m 137 #[iv ax, jv wv, .second, iv cx, iv fx, iv cnt, iv ia, iv fl, rv bA, jv (f_step (0 : Int64) bA ia (0 : Int32) cnt fP), .second, .unset, .unset] [])) (fun t k => XS.lstore X27.here hx rfl (hb hby at_135) rfl (l' := #[iv ax, jv wv, .second, iv cx, iv fx, iv cnt, iv ia, iv fl, rv bA, jv (f_step (0 : Int64) bA ia (0 : Int32) cnt fP), .second, .unset, .unset]) rfl k) ?_
  generalize hr1 : (f_step (0 : Int64) bA ia (0 : Int32) cnt fP) = r1
  refine Wk.go (A' := T27.setTop (mkF m 139 #[iv ax, jv wv, .second, iv cx, iv fx, iv cnt, iv ia, iv fl, rv bA, jv r1, .second, .unset, .unset] [(.long r1)])) (fun t k => XS.lload X27.here hx rfl (hb hby at_137) rfl k) ?_
  refine Wk.go (A' := T27.setTop (mkF m 141 #[iv ax, jv wv, .second, iv cx, iv fx, iv cnt, iv ia, iv fl, rv bA, jv r1, .second, .unset, .unset] [(.ref bA), (.long r1)])) (fun t k => XS.aload X27.here hx rfl (hb hby at_139) rfl rfl k) ?_
  refine Wk.go (A' := T27.setTop (mkF m 143 #[iv ax, jv wv, .second, iv cx, iv fx, iv cnt, iv ia, iv fl, rv bA, jv r1, .second, .unset, .unset] [(.int ia), (.ref bA), (.long r1)])) (fun t k => XS.iload X27.here hx rfl (hb hby at_141) rfl k) ?_
  refine Wk.go (A' := T27.setTop (mkF m 144 #[iv ax, jv wv, .second, iv cx, iv fx, iv cnt, iv ia, iv fl, rv bA, jv r1, .second, .unset, .unset] [(.int (1 : Int32)), (.int ia), (.ref bA), (.long r1)])) (fun t k => XS.iconst X27.here hx rfl (hb hby at_143) k) ?_
  refine Wk.go (A' := T27.setTop (mkF m 146 #[iv ax, jv wv, .second, iv cx, iv fx, iv cnt, iv ia, iv fl, rv bA, jv r1, .second, .unset, .unset] [(.int cnt), (.int (1 : Int32)), (.int ia), (.ref bA), (.long r1)])) (fun t k => XS.iload X27.here hx rfl (hb hby at_144) rfl k) ?_
  obtain ⟨_, _, ⟨T28, L28, k28, n28⟩, -, X28, ⟨Lc28, hQ28, l28, y28, z28⟩, st28⟩ := Jvm.LawKit.callS X27 hx (y := (⟨"com/example/pledge/pledge/log/PayloadWriterPutBigEndianPinLaw", "step", "(J[BIII)J"⟩ : MethodName)) hown (mvT hZ (tw6 hw)) (mvT hZ (tw7 hw)) (mvT hZ (tw8 hw)) (mvT hZ (tw9 hw)) (by decide) (backOf (W := 0) (rm2 l Z a0 hw [] r1 bA ia (1 : Int32) cnt fP T26.heap n0 Zp26 Vq26 (own_in hA0 hsum (by decide))) hZ (tw9 hw) (tw8 hw) (by decide) (by decide)) (g := (mkF m 146 #[iv ax, jv wv, .second, iv cx, iv fx, iv cnt, iv ia, iv fl, rv bA, jv r1, .second, .unset, .unset] [(.int cnt), (.int (1 : Int32)), (.int ia), (.ref bA), (.long r1)])) rfl (by rw [hml]; rfl) (argsL := [(.long r1), (.ref bA), (.int ia), (.int (1 : Int32)), (.int cnt)]) (rest := []) (lenOf pd_1 rfl) rfl (by show 2 * 0 + _ ≤ _; exact Nat.le_of_eq rfl) (hb hby at_146) (fun _ _ => ⟨rfl, (hE27), (by decide : 1 + 0 ≤ _), (by decide : 12 + 0 ≤ _)⟩)
  dsimp only [Pt.U, Pt.locs, Pt.cells, Pt.slots] at X28 l28 y28 z28 st28 hQ28
  subst y28 z28
  obtain ⟨rfl, N28q, hE28⟩ := hQ28
  have N28 : Fr n0 L28 := l28 ▸ Fr.app N27 N28q
  refine Wk.go (A' := T28.setTop (mkF m 149 #[iv ax, jv wv, .second, iv cx, iv fx, iv cnt, iv ia, iv fl, rv bA, jv r1, .second, .unset, .unset] [(.long (f_step r1 bA ia (1 : Int32) cnt fP))])) (fun t k => st28 t k) ?_
  refine Wk.go (A' := T28.setTop (mkF m 151 #[iv ax, jv wv, .second, iv cx, iv fx, iv cnt, iv ia, iv fl, rv bA, jv (f_step r1 bA ia (1 : Int32) cnt fP), .second, .unset, .unset] [])) (fun t k => XS.lstore X28.here hx rfl (hb hby at_149) rfl (l' := #[iv ax, jv wv, .second, iv cx, iv fx, iv cnt, iv ia, iv fl, rv bA, jv (f_step r1 bA ia (1 : Int32) cnt fP), .second, .unset, .unset]) rfl k) ?_
  generalize hr2 : (f_step r1 bA ia (1 : Int32) cnt fP) = r2
  refine Wk.go (A' := T28.setTop (mkF m 153 #[iv ax, jv wv, .second, iv cx, iv fx, iv cnt, iv ia, iv fl, rv bA, jv r2, .second, .unset, .unset] [(.long r2)])) (fun t k => XS.lload X28.here hx rfl (hb hby at_151) rfl k) ?_
  refine Wk.go (A' := T28.setTop (mkF m 155 #[iv ax, jv wv, .second, iv cx, iv fx, iv cnt, iv ia, iv fl, rv bA, jv r2, .second, .unset, .unset] [(.ref bA), (.long r2)])) (fun t k => XS.aload X28.here hx rfl (hb hby at_153) rfl rfl k) ?_
  refine Wk.go (A' := T28.setTop (mkF m 157 #[iv ax, jv wv, .second, iv cx, iv fx, iv cnt, iv ia, iv fl, rv bA, jv r2, .second, .unset, .unset] [(.int ia), (.ref bA), (.long r2)])) (fun t k => XS.iload X28.here hx rfl (hb hby at_155) rfl k) ?_
  refine Wk.go (A' := T28.setTop (mkF m 158 #[iv ax, jv wv, .second, iv cx, iv fx, iv cnt, iv ia, iv fl, rv bA, jv r2, .second, .unset, .unset] [(.int (2 : Int32)), (.int ia), (.ref bA), (.long r2)])) (fun t k => XS.iconst X28.here hx rfl (hb hby at_157) k) ?_
  refine Wk.go (A' := T28.setTop (mkF m 160 #[iv ax, jv wv, .second, iv cx, iv fx, iv cnt, iv ia, iv fl, rv bA, jv r2, .second, .unset, .unset] [(.int cnt), (.int (2 : Int32)), (.int ia), (.ref bA), (.long r2)])) (fun t k => XS.iload X28.here hx rfl (hb hby at_158) rfl k) ?_
  obtain ⟨_, _, ⟨T29, L29, k29, n29⟩, -, X29, ⟨Lc29, hQ29, l29, y29, z29⟩, st29⟩ := Jvm.LawKit.callS X28 hx (y := (⟨"com/example/pledge/pledge/log/PayloadWriterPutBigEndianPinLaw", "step", "(J[BIII)J"⟩ : MethodName)) hown (mvT hZ (tw6 hw)) (mvT hZ (tw7 hw)) (mvT hZ (tw8 hw)) (mvT hZ (tw9 hw)) (by decide) (backOf (W := 0) (rm2 l Z a0 hw [] r2 bA ia (2 : Int32) cnt fP T26.heap n0 Zp26 Vq26 (own_in hA0 hsum (by decide))) hZ (tw9 hw) (tw8 hw) (by decide) (by decide)) (g := (mkF m 160 #[iv ax, jv wv, .second, iv cx, iv fx, iv cnt, iv ia, iv fl, rv bA, jv r2, .second, .unset, .unset] [(.int cnt), (.int (2 : Int32)), (.int ia), (.ref bA), (.long r2)])) rfl (by rw [hml]; rfl) (argsL := [(.long r2), (.ref bA), (.int ia), (.int (2 : Int32)), (.int cnt)]) (rest := []) (lenOf pd_1 rfl) rfl (by show 2 * 0 + _ ≤ _; exact Nat.le_of_eq rfl) (hb hby at_160) (fun _ _ => ⟨rfl, (hE28), (by decide : 1 + 0 ≤ _), (by decide : 12 + 0 ≤ _)⟩)
  dsimp only [Pt.U, Pt.locs, Pt.cells, Pt.slots] at X29 l29 y29 z29 st29 hQ29
  subst y29 z29
  obtain ⟨rfl, N29q, hE29⟩ := hQ29
  have N29 : Fr n0 L29 := l29 ▸ Fr.app N28 N29q
  refine Wk.go (A' := T29.setTop (mkF m 163 #[iv ax, jv wv, .second, iv cx, iv fx, iv cnt, iv ia, iv fl, rv bA, jv r2, .second, .unset, .unset] [(.long (f_step r2 bA ia (2 : Int32) cnt fP))])) (fun t k => st29 t k) ?_
  refine Wk.go (A' := T29.setTop (mkF m 165 #[iv ax, jv wv, .second, iv cx, iv fx, iv cnt, iv ia, iv fl, rv bA, jv (f_step r2 bA ia (2 : Int32) cnt fP), .second, .unset, .unset] [])) (fun t k => XS.lstore X29.here hx rfl (hb hby at_163) rfl (l' := #[iv ax, jv wv, .second, iv cx, iv fx, iv cnt, iv ia, iv fl, rv bA, jv (f_step r2 bA ia (2 : Int32) cnt fP), .second, .unset, .unset]) rfl k) ?_
  generalize hr3 : (f_step r2 bA ia (2 : Int32) cnt fP) = r3
  refine Wk.go (A' := T29.setTop (mkF m 167 #[iv ax, jv wv, .second, iv cx, iv fx, iv cnt, iv ia, iv fl, rv bA, jv r3, .second, .unset, .unset] [(.long r3)])) (fun t k => XS.lload X29.here hx rfl (hb hby at_165) rfl k) ?_
  refine Wk.go (A' := T29.setTop (mkF m 169 #[iv ax, jv wv, .second, iv cx, iv fx, iv cnt, iv ia, iv fl, rv bA, jv r3, .second, .unset, .unset] [(.ref bA), (.long r3)])) (fun t k => XS.aload X29.here hx rfl (hb hby at_167) rfl rfl k) ?_
  refine Wk.go (A' := T29.setTop (mkF m 171 #[iv ax, jv wv, .second, iv cx, iv fx, iv cnt, iv ia, iv fl, rv bA, jv r3, .second, .unset, .unset] [(.int ia), (.ref bA), (.long r3)])) (fun t k => XS.iload X29.here hx rfl (hb hby at_169) rfl k) ?_
  refine Wk.go (A' := T29.setTop (mkF m 172 #[iv ax, jv wv, .second, iv cx, iv fx, iv cnt, iv ia, iv fl, rv bA, jv r3, .second, .unset, .unset] [(.int (3 : Int32)), (.int ia), (.ref bA), (.long r3)])) (fun t k => XS.iconst X29.here hx rfl (hb hby at_171) k) ?_
  refine Wk.go (A' := T29.setTop (mkF m 174 #[iv ax, jv wv, .second, iv cx, iv fx, iv cnt, iv ia, iv fl, rv bA, jv r3, .second, .unset, .unset] [(.int cnt), (.int (3 : Int32)), (.int ia), (.ref bA), (.long r3)])) (fun t k => XS.iload X29.here hx rfl (hb hby at_172) rfl k) ?_
  obtain ⟨_, _, ⟨T30, L30, k30, n30⟩, -, X30, ⟨Lc30, hQ30, l30, y30, z30⟩, st30⟩ := Jvm.LawKit.callS X29 hx (y := (⟨"com/example/pledge/pledge/log/PayloadWriterPutBigEndianPinLaw", "step", "(J[BIII)J"⟩ : MethodName)) hown (mvT hZ (tw6 hw)) (mvT hZ (tw7 hw)) (mvT hZ (tw8 hw)) (mvT hZ (tw9 hw)) (by decide) (backOf (W := 0) (rm2 l Z a0 hw [] r3 bA ia (3 : Int32) cnt fP T26.heap n0 Zp26 Vq26 (own_in hA0 hsum (by decide))) hZ (tw9 hw) (tw8 hw) (by decide) (by decide)) (g := (mkF m 174 #[iv ax, jv wv, .second, iv cx, iv fx, iv cnt, iv ia, iv fl, rv bA, jv r3, .second, .unset, .unset] [(.int cnt), (.int (3 : Int32)), (.int ia), (.ref bA), (.long r3)])) rfl (by rw [hml]; rfl) (argsL := [(.long r3), (.ref bA), (.int ia), (.int (3 : Int32)), (.int cnt)]) (rest := []) (lenOf pd_1 rfl) rfl (by show 2 * 0 + _ ≤ _; exact Nat.le_of_eq rfl) (hb hby at_174) (fun _ _ => ⟨rfl, (hE29), (by decide : 1 + 0 ≤ _), (by decide : 12 + 0 ≤ _)⟩)
  dsimp only [Pt.U, Pt.locs, Pt.cells, Pt.slots] at X30 l30 y30 z30 st30 hQ30
  subst y30 z30
  obtain ⟨rfl, N30q, hE30⟩ := hQ30
  have N30 : Fr n0 L30 := l30 ▸ Fr.app N29 N30q
  refine Wk.go (A' := T30.setTop (mkF m 177 #[iv ax, jv wv, .second, iv cx, iv fx, iv cnt, iv ia, iv fl, rv bA, jv r3, .second, .unset, .unset] [(.long (f_step r3 bA ia (3 : Int32) cnt fP))])) (fun t k => st30 t k) ?_
  refine Wk.go (A' := T30.setTop (mkF m 179 #[iv ax, jv wv, .second, iv cx, iv fx, iv cnt, iv ia, iv fl, rv bA, jv (f_step r3 bA ia (3 : Int32) cnt fP), .second, .unset, .unset] [])) (fun t k => XS.lstore X30.here hx rfl (hb hby at_177) rfl (l' := #[iv ax, jv wv, .second, iv cx, iv fx, iv cnt, iv ia, iv fl, rv bA, jv (f_step r3 bA ia (3 : Int32) cnt fP), .second, .unset, .unset]) rfl k) ?_
  generalize hr4 : (f_step r3 bA ia (3 : Int32) cnt fP) = r4
  refine Wk.go (A' := T30.setTop (mkF m 181 #[iv ax, jv wv, .second, iv cx, iv fx, iv cnt, iv ia, iv fl, rv bA, jv r4, .second, .unset, .unset] [(.long r4)])) (fun t k => XS.lload X30.here hx rfl (hb hby at_179) rfl k) ?_
  refine Wk.go (A' := T30.setTop (mkF m 183 #[iv ax, jv wv, .second, iv cx, iv fx, iv cnt, iv ia, iv fl, rv bA, jv r4, .second, .unset, .unset] [(.ref bA), (.long r4)])) (fun t k => XS.aload X30.here hx rfl (hb hby at_181) rfl rfl k) ?_
  refine Wk.go (A' := T30.setTop (mkF m 185 #[iv ax, jv wv, .second, iv cx, iv fx, iv cnt, iv ia, iv fl, rv bA, jv r4, .second, .unset, .unset] [(.int ia), (.ref bA), (.long r4)])) (fun t k => XS.iload X30.here hx rfl (hb hby at_183) rfl k) ?_
  refine Wk.go (A' := T30.setTop (mkF m 186 #[iv ax, jv wv, .second, iv cx, iv fx, iv cnt, iv ia, iv fl, rv bA, jv r4, .second, .unset, .unset] [(.int (4 : Int32)), (.int ia), (.ref bA), (.long r4)])) (fun t k => XS.iconst X30.here hx rfl (hb hby at_185) k) ?_
  refine Wk.go (A' := T30.setTop (mkF m 188 #[iv ax, jv wv, .second, iv cx, iv fx, iv cnt, iv ia, iv fl, rv bA, jv r4, .second, .unset, .unset] [(.int cnt), (.int (4 : Int32)), (.int ia), (.ref bA), (.long r4)])) (fun t k => XS.iload X30.here hx rfl (hb hby at_186) rfl k) ?_
  obtain ⟨_, _, ⟨T31, L31, k31, n31⟩, -, X31, ⟨Lc31, hQ31, l31, y31, z31⟩, st31⟩ := Jvm.LawKit.callS X30 hx (y := (⟨"com/example/pledge/pledge/log/PayloadWriterPutBigEndianPinLaw", "step", "(J[BIII)J"⟩ : MethodName)) hown (mvT hZ (tw6 hw)) (mvT hZ (tw7 hw)) (mvT hZ (tw8 hw)) (mvT hZ (tw9 hw)) (by decide) (backOf (W := 0) (rm2 l Z a0 hw [] r4 bA ia (4 : Int32) cnt fP T26.heap n0 Zp26 Vq26 (own_in hA0 hsum (by decide))) hZ (tw9 hw) (tw8 hw) (by decide) (by decide)) (g := (mkF m 188 #[iv ax, jv wv, .second, iv cx, iv fx, iv cnt, iv ia, iv fl, rv bA, jv r4, .second, .unset, .unset] [(.int cnt), (.int (4 : Int32)), (.int ia), (.ref bA), (.long r4)])) rfl (by rw [hml]; rfl) (argsL := [(.long r4), (.ref bA), (.int ia), (.int (4 : Int32)), (.int cnt)]) (rest := []) (lenOf pd_1 rfl) rfl (by show 2 * 0 + _ ≤ _; exact Nat.le_of_eq rfl) (hb hby at_188) (fun _ _ => ⟨rfl, (hE30), (by decide : 1 + 0 ≤ _), (by decide : 12 + 0 ≤ _)⟩)
  dsimp only [Pt.U, Pt.locs, Pt.cells, Pt.slots] at X31 l31 y31 z31 st31 hQ31
  subst y31 z31
  obtain ⟨rfl, N31q, hE31⟩ := hQ31
  have N31 : Fr n0 L31 := l31 ▸ Fr.app N30 N31q
  refine Wk.go (A' := T31.setTop (mkF m 191 #[iv ax, jv wv, .second, iv cx, iv fx, iv cnt, iv ia, iv fl, rv bA, jv r4, .second, .unset, .unset] [(.long (f_step r4 bA ia (4 : Int32) cnt fP))])) (fun t k => st31 t k) ?_
  refine Wk.go (A' := T31.setTop (mkF m 193 #[iv ax, jv wv, .second, iv cx, iv fx, iv cnt, iv ia, iv fl, rv bA, jv (f_step r4 bA ia (4 : Int32) cnt fP), .second, .unset, .unset] [])) (fun t k => XS.lstore X31.here hx rfl (hb hby at_191) rfl (l' := #[iv ax, jv wv, .second, iv cx, iv fx, iv cnt, iv ia, iv fl, rv bA, jv (f_step r4 bA ia (4 : Int32) cnt fP), .second, .unset, .unset]) rfl k) ?_
  generalize hr5 : (f_step r4 bA ia (4 : Int32) cnt fP) = r5
  refine Wk.go (A' := T31.setTop (mkF m 195 #[iv ax, jv wv, .second, iv cx, iv fx, iv cnt, iv ia, iv fl, rv bA, jv r5, .second, .unset, .unset] [(.long r5)])) (fun t k => XS.lload X31.here hx rfl (hb hby at_193) rfl k) ?_
  refine Wk.go (A' := T31.setTop (mkF m 197 #[iv ax, jv wv, .second, iv cx, iv fx, iv cnt, iv ia, iv fl, rv bA, jv r5, .second, .unset, .unset] [(.ref bA), (.long r5)])) (fun t k => XS.aload X31.here hx rfl (hb hby at_195) rfl rfl k) ?_
  refine Wk.go (A' := T31.setTop (mkF m 199 #[iv ax, jv wv, .second, iv cx, iv fx, iv cnt, iv ia, iv fl, rv bA, jv r5, .second, .unset, .unset] [(.int ia), (.ref bA), (.long r5)])) (fun t k => XS.iload X31.here hx rfl (hb hby at_197) rfl k) ?_
  refine Wk.go (A' := T31.setTop (mkF m 200 #[iv ax, jv wv, .second, iv cx, iv fx, iv cnt, iv ia, iv fl, rv bA, jv r5, .second, .unset, .unset] [(.int (5 : Int32)), (.int ia), (.ref bA), (.long r5)])) (fun t k => XS.iconst X31.here hx rfl (hb hby at_199) k) ?_
  refine Wk.go (A' := T31.setTop (mkF m 202 #[iv ax, jv wv, .second, iv cx, iv fx, iv cnt, iv ia, iv fl, rv bA, jv r5, .second, .unset, .unset] [(.int cnt), (.int (5 : Int32)), (.int ia), (.ref bA), (.long r5)])) (fun t k => XS.iload X31.here hx rfl (hb hby at_200) rfl k) ?_
  obtain ⟨_, _, ⟨T32, L32, k32, n32⟩, -, X32, ⟨Lc32, hQ32, l32, y32, z32⟩, st32⟩ := Jvm.LawKit.callS X31 hx (y := (⟨"com/example/pledge/pledge/log/PayloadWriterPutBigEndianPinLaw", "step", "(J[BIII)J"⟩ : MethodName)) hown (mvT hZ (tw6 hw)) (mvT hZ (tw7 hw)) (mvT hZ (tw8 hw)) (mvT hZ (tw9 hw)) (by decide) (backOf (W := 0) (rm2 l Z a0 hw [] r5 bA ia (5 : Int32) cnt fP T26.heap n0 Zp26 Vq26 (own_in hA0 hsum (by decide))) hZ (tw9 hw) (tw8 hw) (by decide) (by decide)) (g := (mkF m 202 #[iv ax, jv wv, .second, iv cx, iv fx, iv cnt, iv ia, iv fl, rv bA, jv r5, .second, .unset, .unset] [(.int cnt), (.int (5 : Int32)), (.int ia), (.ref bA), (.long r5)])) rfl (by rw [hml]; rfl) (argsL := [(.long r5), (.ref bA), (.int ia), (.int (5 : Int32)), (.int cnt)]) (rest := []) (lenOf pd_1 rfl) rfl (by show 2 * 0 + _ ≤ _; exact Nat.le_of_eq rfl) (hb hby at_202) (fun _ _ => ⟨rfl, (hE31), (by decide : 1 + 0 ≤ _), (by decide : 12 + 0 ≤ _)⟩)
  dsimp only [Pt.U, Pt.locs, Pt.cells, Pt.slots] at X32 l32 y32 z32 st32 hQ32
  subst y32 z32
  obtain ⟨rfl, N32q, hE32⟩ := hQ32
  have N32 : Fr n0 L32 := l32 ▸ Fr.app N31 N32q
  refine Wk.go (A' := T32.setTop (mkF m 205 #[iv ax, jv wv, .second, iv cx, iv fx, iv cnt, iv ia, iv fl, rv bA, jv r5, .second, .unset, .unset] [(.long (f_step r5 bA ia (5 : Int32) cnt fP))])) (fun t k => st32 t k) ?_
  refine Wk.go (A' := T32.setTop (mkF m 207 #[iv ax, jv wv, .second, iv cx, iv fx, iv cnt, iv ia, iv fl, rv bA, jv (f_step r5 bA ia (5 : Int32) cnt fP), .second, .unset, .unset] [])) (fun t k => XS.lstore X32.here hx rfl (hb hby at_205) rfl (l' := #[iv ax, jv wv, .second, iv cx, iv fx, iv cnt, iv ia, iv fl, rv bA, jv (f_step r5 bA ia (5 : Int32) cnt fP), .second, .unset, .unset]) rfl k) ?_
  generalize hr6 : (f_step r5 bA ia (5 : Int32) cnt fP) = r6
  refine Wk.go (A' := T32.setTop (mkF m 209 #[iv ax, jv wv, .second, iv cx, iv fx, iv cnt, iv ia, iv fl, rv bA, jv r6, .second, .unset, .unset] [(.long r6)])) (fun t k => XS.lload X32.here hx rfl (hb hby at_207) rfl k) ?_
  refine Wk.go (A' := T32.setTop (mkF m 211 #[iv ax, jv wv, .second, iv cx, iv fx, iv cnt, iv ia, iv fl, rv bA, jv r6, .second, .unset, .unset] [(.ref bA), (.long r6)])) (fun t k => XS.aload X32.here hx rfl (hb hby at_209) rfl rfl k) ?_
  refine Wk.go (A' := T32.setTop (mkF m 213 #[iv ax, jv wv, .second, iv cx, iv fx, iv cnt, iv ia, iv fl, rv bA, jv r6, .second, .unset, .unset] [(.int ia), (.ref bA), (.long r6)])) (fun t k => XS.iload X32.here hx rfl (hb hby at_211) rfl k) ?_
  refine Wk.go (A' := T32.setTop (mkF m 215 #[iv ax, jv wv, .second, iv cx, iv fx, iv cnt, iv ia, iv fl, rv bA, jv r6, .second, .unset, .unset] [(.int (6 : Int32)), (.int ia), (.ref bA), (.long r6)])) (fun t k => XS.bipush X32.here hx rfl (hb hby at_213) k) ?_
  refine Wk.go (A' := T32.setTop (mkF m 217 #[iv ax, jv wv, .second, iv cx, iv fx, iv cnt, iv ia, iv fl, rv bA, jv r6, .second, .unset, .unset] [(.int cnt), (.int (6 : Int32)), (.int ia), (.ref bA), (.long r6)])) (fun t k => XS.iload X32.here hx rfl (hb hby at_215) rfl k) ?_
  obtain ⟨_, _, ⟨T33, L33, k33, n33⟩, -, X33, ⟨Lc33, hQ33, l33, y33, z33⟩, st33⟩ := Jvm.LawKit.callS X32 hx (y := (⟨"com/example/pledge/pledge/log/PayloadWriterPutBigEndianPinLaw", "step", "(J[BIII)J"⟩ : MethodName)) hown (mvT hZ (tw6 hw)) (mvT hZ (tw7 hw)) (mvT hZ (tw8 hw)) (mvT hZ (tw9 hw)) (by decide) (backOf (W := 0) (rm2 l Z a0 hw [] r6 bA ia (6 : Int32) cnt fP T26.heap n0 Zp26 Vq26 (own_in hA0 hsum (by decide))) hZ (tw9 hw) (tw8 hw) (by decide) (by decide)) (g := (mkF m 217 #[iv ax, jv wv, .second, iv cx, iv fx, iv cnt, iv ia, iv fl, rv bA, jv r6, .second, .unset, .unset] [(.int cnt), (.int (6 : Int32)), (.int ia), (.ref bA), (.long r6)])) rfl (by rw [hml]; rfl) (argsL := [(.long r6), (.ref bA), (.int ia), (.int (6 : Int32)), (.int cnt)]) (rest := []) (lenOf pd_1 rfl) rfl (by show 2 * 0 + _ ≤ _; exact Nat.le_of_eq rfl) (hb hby at_217) (fun _ _ => ⟨rfl, (hE32), (by decide : 1 + 0 ≤ _), (by decide : 12 + 0 ≤ _)⟩)
  dsimp only [Pt.U, Pt.locs, Pt.cells, Pt.slots] at X33 l33 y33 z33 st33 hQ33
  subst y33 z33
  obtain ⟨rfl, N33q, hE33⟩ := hQ33
  have N33 : Fr n0 L33 := l33 ▸ Fr.app N32 N33q
  refine Wk.go (A' := T33.setTop (mkF m 220 #[iv ax, jv wv, .second, iv cx, iv fx, iv cnt, iv ia, iv fl, rv bA, jv r6, .second, .unset, .unset] [(.long (f_step r6 bA ia (6 : Int32) cnt fP))])) (fun t k => st33 t k) ?_
  refine Wk.go (A' := T33.setTop (mkF m 222 #[iv ax, jv wv, .second, iv cx, iv fx, iv cnt, iv ia, iv fl, rv bA, jv (f_step r6 bA ia (6 : Int32) cnt fP), .second, .unset, .unset] [])) (fun t k => XS.lstore X33.here hx rfl (hb hby at_220) rfl (l' := #[iv ax, jv wv, .second, iv cx, iv fx, iv cnt, iv ia, iv fl, rv bA, jv (f_step r6 bA ia (6 : Int32) cnt fP), .second, .unset, .unset]) rfl k) ?_
  generalize hr7 : (f_step r6 bA ia (6 : Int32) cnt fP) = r7
  refine Wk.go (A' := T33.setTop (mkF m 224 #[iv ax, jv wv, .second, iv cx, iv fx, iv cnt, iv ia, iv fl, rv bA, jv r7, .second, .unset, .unset] [(.long r7)])) (fun t k => XS.lload X33.here hx rfl (hb hby at_222) rfl k) ?_
  refine Wk.go (A' := T33.setTop (mkF m 226 #[iv ax, jv wv, .second, iv cx, iv fx, iv cnt, iv ia, iv fl, rv bA, jv r7, .second, .unset, .unset] [(.ref bA), (.long r7)])) (fun t k => XS.aload X33.here hx rfl (hb hby at_224) rfl rfl k) ?_
  refine Wk.go (A' := T33.setTop (mkF m 228 #[iv ax, jv wv, .second, iv cx, iv fx, iv cnt, iv ia, iv fl, rv bA, jv r7, .second, .unset, .unset] [(.int ia), (.ref bA), (.long r7)])) (fun t k => XS.iload X33.here hx rfl (hb hby at_226) rfl k) ?_
  refine Wk.go (A' := T33.setTop (mkF m 230 #[iv ax, jv wv, .second, iv cx, iv fx, iv cnt, iv ia, iv fl, rv bA, jv r7, .second, .unset, .unset] [(.int (7 : Int32)), (.int ia), (.ref bA), (.long r7)])) (fun t k => XS.bipush X33.here hx rfl (hb hby at_228) k) ?_
  refine Wk.go (A' := T33.setTop (mkF m 232 #[iv ax, jv wv, .second, iv cx, iv fx, iv cnt, iv ia, iv fl, rv bA, jv r7, .second, .unset, .unset] [(.int cnt), (.int (7 : Int32)), (.int ia), (.ref bA), (.long r7)])) (fun t k => XS.iload X33.here hx rfl (hb hby at_230) rfl k) ?_
  obtain ⟨_, _, ⟨T34, L34, k34, n34⟩, -, X34, ⟨Lc34, hQ34, l34, y34, z34⟩, st34⟩ := Jvm.LawKit.callS X33 hx (y := (⟨"com/example/pledge/pledge/log/PayloadWriterPutBigEndianPinLaw", "step", "(J[BIII)J"⟩ : MethodName)) hown (mvT hZ (tw6 hw)) (mvT hZ (tw7 hw)) (mvT hZ (tw8 hw)) (mvT hZ (tw9 hw)) (by decide) (backOf (W := 0) (rm2 l Z a0 hw [] r7 bA ia (7 : Int32) cnt fP T26.heap n0 Zp26 Vq26 (own_in hA0 hsum (by decide))) hZ (tw9 hw) (tw8 hw) (by decide) (by decide)) (g := (mkF m 232 #[iv ax, jv wv, .second, iv cx, iv fx, iv cnt, iv ia, iv fl, rv bA, jv r7, .second, .unset, .unset] [(.int cnt), (.int (7 : Int32)), (.int ia), (.ref bA), (.long r7)])) rfl (by rw [hml]; rfl) (argsL := [(.long r7), (.ref bA), (.int ia), (.int (7 : Int32)), (.int cnt)]) (rest := []) (lenOf pd_1 rfl) rfl (by show 2 * 0 + _ ≤ _; exact Nat.le_of_eq rfl) (hb hby at_232) (fun _ _ => ⟨rfl, (hE33), (by decide : 1 + 0 ≤ _), (by decide : 12 + 0 ≤ _)⟩)
  dsimp only [Pt.U, Pt.locs, Pt.cells, Pt.slots] at X34 l34 y34 z34 st34 hQ34
  subst y34 z34
  obtain ⟨rfl, N34q, hE34⟩ := hQ34
  have N34 : Fr n0 L34 := l34 ▸ Fr.app N33 N34q
  refine Wk.go (A' := T34.setTop (mkF m 235 #[iv ax, jv wv, .second, iv cx, iv fx, iv cnt, iv ia, iv fl, rv bA, jv r7, .second, .unset, .unset] [(.long (f_step r7 bA ia (7 : Int32) cnt fP))])) (fun t k => st34 t k) ?_
  refine Wk.go (A' := T34.setTop (mkF m 237 #[iv ax, jv wv, .second, iv cx, iv fx, iv cnt, iv ia, iv fl, rv bA, jv (f_step r7 bA ia (7 : Int32) cnt fP), .second, .unset, .unset] [])) (fun t k => XS.lstore X34.here hx rfl (hb hby at_235) rfl (l' := #[iv ax, jv wv, .second, iv cx, iv fx, iv cnt, iv ia, iv fl, rv bA, jv (f_step r7 bA ia (7 : Int32) cnt fP), .second, .unset, .unset]) rfl k) ?_
  generalize hr8 : (f_step r7 bA ia (7 : Int32) cnt fP) = r8
  obtain ⟨LA, LB⟩ := own_law bA hc0 hc8 hA0 hsum hfP hr1 hr2 hr3 hr4 hr5 hr6 hr7 hr8
  refine Wk.go (A' := T34.setTop (mkF m 239 #[iv ax, jv wv, .second, iv cx, iv fx, iv cnt, iv ia, iv fl, rv bA, jv r8, .second, .unset, .unset] [(.int cnt)])) (fun t k => XS.iload X34.here hx rfl (hb hby at_237) rfl k) ?_
  refine Wk.go (A' := T34.setTop (mkF m 241 #[iv ax, jv wv, .second, iv cx, iv fx, iv cnt, iv ia, iv fl, rv bA, jv r8, .second, .unset, .unset] [(.int (8 : Int32)), (.int cnt)])) (fun t k => XS.bipush X34.here hx rfl (hb hby at_239) k) ?_
  by_cases hc241 : cnt = (8 : Int32)
  · refine Wk.go (A' := T34.setTop (mkF m 244 #[iv ax, jv wv, .second, iv cx, iv fx, iv cnt, iv ia, iv fl, rv bA, jv r8, .second, .unset, .unset] [])) (fun t k => XS.icmpNo X34.here hx rfl (hb hby at_241) rfl (teq hc241).2 k) ?_
    refine Wk.go (A' := T34.setTop (mkF m 247 #[iv ax, jv wv, .second, iv cx, iv fx, iv cnt, iv ia, iv fl, rv bA, jv r8, .second, .unset, .unset] [(.long (-1 : Int64))])) (fun t k => X34.ldc2Long hx hown (mvT hZ (tw14 hw)) (g := (mkF m 244 #[iv ax, jv wv, .second, iv cx, iv fx, iv cnt, iv ia, iv fl, rv bA, jv r8, .second, .unset, .unset] [])) rfl (hb hby at_244) t k) ?_
    refine Wk.go (A' := T34.setTop (mkF m 259 #[iv ax, jv wv, .second, iv cx, iv fx, iv cnt, iv ia, iv fl, rv bA, jv r8, .second, .unset, .unset] [(.long (-1 : Int64))])) (fun t k => XS.goto X34.here hx rfl (pc0 := 247) (pc' := 259) rfl (hb hby at_247) (by decide) (by decide) k) ?_
    refine Wk.go (A' := T34.setTop (mkF m 261 #[iv ax, jv wv, .second, iv cx, iv fx, iv cnt, iv ia, iv fl, rv bA, jv r8, .second, jv (-1 : Int64), .second] [])) (fun t k => XS.lstore X34.here hx rfl (hb hby at_259) rfl (l' := #[iv ax, jv wv, .second, iv cx, iv fx, iv cnt, iv ia, iv fl, rv bA, jv r8, .second, jv (-1 : Int64), .second]) rfl k) ?_
    refine Wk.go (A' := T34.setTop (mkF m 263 #[iv ax, jv wv, .second, iv cx, iv fx, iv cnt, iv ia, iv fl, rv bA, jv r8, .second, jv (-1 : Int64), .second] [(.long r8)])) (fun t k => XS.lload X34.here hx rfl (hb hby at_261) rfl k) ?_
    refine Wk.go (A' := T34.setTop (mkF m 264 #[iv ax, jv wv, .second, iv cx, iv fx, iv cnt, iv ia, iv fl, rv bA, jv r8, .second, jv (-1 : Int64), .second] [(.long wv), (.long r8)])) (fun t k => XS.lloadN X34.here hx rfl (hb hby at_263) rfl k) ?_
    refine Wk.go (A' := T34.setTop (mkF m 266 #[iv ax, jv wv, .second, iv cx, iv fx, iv cnt, iv ia, iv fl, rv bA, jv r8, .second, jv (-1 : Int64), .second] [(.long (-1 : Int64)), (.long wv), (.long r8)])) (fun t k => XS.lload X34.here hx rfl (hb hby at_264) rfl k) ?_
    refine Wk.go (A' := T34.setTop (mkF m 267 #[iv ax, jv wv, .second, iv cx, iv fx, iv cnt, iv ia, iv fl, rv bA, jv r8, .second, jv (-1 : Int64), .second] [(.long (wv &&& (-1 : Int64))), (.long r8)])) (fun t k => XS.land X34.here hx rfl (hb hby at_266) rfl k) ?_
    refine Wk.go (A' := T34.setTop (mkF m 268 #[iv ax, jv wv, .second, iv cx, iv fx, iv cnt, iv ia, iv fl, rv bA, jv r8, .second, jv (-1 : Int64), .second] [(.int (lcmpW r8 (wv &&& (-1 : Int64))))])) (fun t k => XS.lcmp X34.here hx rfl (hb hby at_267) rfl k) ?_
    have hc268 : r8 = (wv &&& (-1 : Int64)) := LA hc241
    refine Wk.go (A' := T34.setTop (mkF m 273 #[iv ax, jv wv, .second, iv cx, iv fx, iv cnt, iv ia, iv fl, rv bA, jv r8, .second, jv (-1 : Int64), .second] [])) (fun t k => XS.ifYes X34.here hx rfl (pc0 := 268) (pc' := 273) rfl (hb hby at_268) rfl ((if0 _ _).trans (teq ((lw_eq _ _).mpr hc268)).1) (by decide) (by decide) k) ?_
    refine Wk.go (A' := T34.setTop (mkF m 275 #[iv ax, jv wv, .second, iv cx, iv fx, iv cnt, iv ia, iv fl, rv bA, jv r8, .second, jv (-1 : Int64), .second] [(.ref bA)])) (fun t k => XS.aload X34.here hx rfl (hb hby at_273) rfl rfl k) ?_
    refine Wk.go (A' := T34.setTop (mkF m 276 #[iv ax, jv wv, .second, iv cx, iv fx, iv cnt, iv ia, iv fl, rv bA, jv r8, .second, jv (-1 : Int64), .second] [(.int (0 : Int32)), (.ref bA)])) (fun t k => XS.iconst X34.here hx rfl (hb hby at_275) k) ?_
    refine Wk.go (A' := T34.setTop (mkF m 278 #[iv ax, jv wv, .second, iv cx, iv fx, iv cnt, iv ia, iv fl, rv bA, jv r8, .second, jv (-1 : Int64), .second] [(.int ia), (.int (0 : Int32)), (.ref bA)])) (fun t k => XS.iload X34.here hx rfl (hb hby at_276) rfl k) ?_
    refine Wk.go (A' := T34.setTop (mkF m 280 #[iv ax, jv wv, .second, iv cx, iv fx, iv cnt, iv ia, iv fl, rv bA, jv r8, .second, jv (-1 : Int64), .second] [(.int cnt), (.int ia), (.int (0 : Int32)), (.ref bA)])) (fun t k => XS.iload X34.here hx rfl (hb hby at_278) rfl k) ?_
    refine Wk.go (A' := T34.setTop (mkF m 282 #[iv ax, jv wv, .second, iv cx, iv fx, iv cnt, iv ia, iv fl, rv bA, jv r8, .second, jv (-1 : Int64), .second] [(.int fl), (.int cnt), (.int ia), (.int (0 : Int32)), (.ref bA)])) (fun t k => XS.iload X34.here hx rfl (hb hby at_280) rfl k) ?_
    obtain ⟨_, _, ⟨T35, L35, k35, n35⟩, -, X35, ⟨Lc35, hQ35, l35, y35, z35⟩, st35⟩ := Jvm.LawKit.callS X34 hx (y := (⟨"com/example/pledge/pledge/log/PayloadWriterPutBigEndianPinLaw", "keeps", "([BIIIB)Z"⟩ : MethodName)) hown (mvT hZ (tw11 hw)) (mvT hZ (tw12 hw)) (mvT hZ (tw8 hw)) (mvT hZ (tw13 hw)) (by decide) (backOf (W := 0) (rm3 l Z a0 hw [] bA (0 : Int32) ia cnt fl fP T26.heap n0 Zp26 Vq26 (by decide)) hZ (tw13 hw) (tw8 hw) (by decide) (by decide)) (g := (mkF m 282 #[iv ax, jv wv, .second, iv cx, iv fx, iv cnt, iv ia, iv fl, rv bA, jv r8, .second, jv (-1 : Int64), .second] [(.int fl), (.int cnt), (.int ia), (.int (0 : Int32)), (.ref bA)])) rfl (by rw [hml]; rfl) (argsL := [(.ref bA), (.int (0 : Int32)), (.int ia), (.int cnt), (.int fl)]) (rest := []) (lenOf pd_2 rfl) rfl (by show 2 * 0 + _ ≤ _; exact Nat.le_of_eq rfl) (hb hby at_282) (fun _ _ => ⟨rfl, (hE34), (by decide : 1 + 0 ≤ _), (by decide : 12 + 0 ≤ _)⟩)
    dsimp only [Pt.U, Pt.locs, Pt.cells, Pt.slots] at X35 l35 y35 z35 st35 hQ35
    subst y35 z35
    obtain ⟨rfl, N35q, hE35⟩ := hQ35
    have N35 : Fr n0 L35 := l35 ▸ Fr.app N34 N35q
    refine Wk.go (A' := T35.setTop (mkF m 285 #[iv ax, jv wv, .second, iv cx, iv fx, iv cnt, iv ia, iv fl, rv bA, jv r8, .second, jv (-1 : Int64), .second] [(.int (f_keeps bA (0 : Int32) ia cnt fl fP))])) (fun t k => st35 t k) ?_
    have hc285 : ¬ ((f_keeps bA (0 : Int32) ia cnt fl fP) = (0 : Int32)) := own_keep _ wv hA0 hc0 hsum hfP (by decide) hall
    refine Wk.go (A' := T35.setTop (mkF m 288 #[iv ax, jv wv, .second, iv cx, iv fx, iv cnt, iv ia, iv fl, rv bA, jv r8, .second, jv (-1 : Int64), .second] [])) (fun t k => XS.ifNo X35.here hx rfl (hb hby at_285) rfl ((if0 _ _).trans (feq hc285).1) k) ?_
    refine Wk.go (A' := T35.setTop (mkF m 290 #[iv ax, jv wv, .second, iv cx, iv fx, iv cnt, iv ia, iv fl, rv bA, jv r8, .second, jv (-1 : Int64), .second] [(.ref bA)])) (fun t k => XS.aload X35.here hx rfl (hb hby at_288) rfl rfl k) ?_
    refine Wk.go (A' := T35.setTop (mkF m 291 #[iv ax, jv wv, .second, iv cx, iv fx, iv cnt, iv ia, iv fl, rv bA, jv r8, .second, jv (-1 : Int64), .second] [(.int (1 : Int32)), (.ref bA)])) (fun t k => XS.iconst X35.here hx rfl (hb hby at_290) k) ?_
    refine Wk.go (A' := T35.setTop (mkF m 293 #[iv ax, jv wv, .second, iv cx, iv fx, iv cnt, iv ia, iv fl, rv bA, jv r8, .second, jv (-1 : Int64), .second] [(.int ia), (.int (1 : Int32)), (.ref bA)])) (fun t k => XS.iload X35.here hx rfl (hb hby at_291) rfl k) ?_
    refine Wk.go (A' := T35.setTop (mkF m 295 #[iv ax, jv wv, .second, iv cx, iv fx, iv cnt, iv ia, iv fl, rv bA, jv r8, .second, jv (-1 : Int64), .second] [(.int cnt), (.int ia), (.int (1 : Int32)), (.ref bA)])) (fun t k => XS.iload X35.here hx rfl (hb hby at_293) rfl k) ?_
    refine Wk.go (A' := T35.setTop (mkF m 297 #[iv ax, jv wv, .second, iv cx, iv fx, iv cnt, iv ia, iv fl, rv bA, jv r8, .second, jv (-1 : Int64), .second] [(.int fl), (.int cnt), (.int ia), (.int (1 : Int32)), (.ref bA)])) (fun t k => XS.iload X35.here hx rfl (hb hby at_295) rfl k) ?_
    obtain ⟨_, _, ⟨T36, L36, k36, n36⟩, -, X36, ⟨Lc36, hQ36, l36, y36, z36⟩, st36⟩ := Jvm.LawKit.callS X35 hx (y := (⟨"com/example/pledge/pledge/log/PayloadWriterPutBigEndianPinLaw", "keeps", "([BIIIB)Z"⟩ : MethodName)) hown (mvT hZ (tw11 hw)) (mvT hZ (tw12 hw)) (mvT hZ (tw8 hw)) (mvT hZ (tw13 hw)) (by decide) (backOf (W := 0) (rm3 l Z a0 hw [] bA (1 : Int32) ia cnt fl fP T26.heap n0 Zp26 Vq26 (by decide)) hZ (tw13 hw) (tw8 hw) (by decide) (by decide)) (g := (mkF m 297 #[iv ax, jv wv, .second, iv cx, iv fx, iv cnt, iv ia, iv fl, rv bA, jv r8, .second, jv (-1 : Int64), .second] [(.int fl), (.int cnt), (.int ia), (.int (1 : Int32)), (.ref bA)])) rfl (by rw [hml]; rfl) (argsL := [(.ref bA), (.int (1 : Int32)), (.int ia), (.int cnt), (.int fl)]) (rest := []) (lenOf pd_2 rfl) rfl (by show 2 * 0 + _ ≤ _; exact Nat.le_of_eq rfl) (hb hby at_297) (fun _ _ => ⟨rfl, (hE35), (by decide : 1 + 0 ≤ _), (by decide : 12 + 0 ≤ _)⟩)
    dsimp only [Pt.U, Pt.locs, Pt.cells, Pt.slots] at X36 l36 y36 z36 st36 hQ36
    subst y36 z36
    obtain ⟨rfl, N36q, hE36⟩ := hQ36
    have N36 : Fr n0 L36 := l36 ▸ Fr.app N35 N36q
    refine Wk.go (A' := T36.setTop (mkF m 300 #[iv ax, jv wv, .second, iv cx, iv fx, iv cnt, iv ia, iv fl, rv bA, jv r8, .second, jv (-1 : Int64), .second] [(.int (f_keeps bA (1 : Int32) ia cnt fl fP))])) (fun t k => st36 t k) ?_
    have hc300 : ¬ ((f_keeps bA (1 : Int32) ia cnt fl fP) = (0 : Int32)) := own_keep _ wv hA0 hc0 hsum hfP (by decide) hall
    refine Wk.go (A' := T36.setTop (mkF m 303 #[iv ax, jv wv, .second, iv cx, iv fx, iv cnt, iv ia, iv fl, rv bA, jv r8, .second, jv (-1 : Int64), .second] [])) (fun t k => XS.ifNo X36.here hx rfl (hb hby at_300) rfl ((if0 _ _).trans (feq hc300).1) k) ?_
    refine Wk.go (A' := T36.setTop (mkF m 305 #[iv ax, jv wv, .second, iv cx, iv fx, iv cnt, iv ia, iv fl, rv bA, jv r8, .second, jv (-1 : Int64), .second] [(.ref bA)])) (fun t k => XS.aload X36.here hx rfl (hb hby at_303) rfl rfl k) ?_
    refine Wk.go (A' := T36.setTop (mkF m 306 #[iv ax, jv wv, .second, iv cx, iv fx, iv cnt, iv ia, iv fl, rv bA, jv r8, .second, jv (-1 : Int64), .second] [(.int (2 : Int32)), (.ref bA)])) (fun t k => XS.iconst X36.here hx rfl (hb hby at_305) k) ?_
    refine Wk.go (A' := T36.setTop (mkF m 308 #[iv ax, jv wv, .second, iv cx, iv fx, iv cnt, iv ia, iv fl, rv bA, jv r8, .second, jv (-1 : Int64), .second] [(.int ia), (.int (2 : Int32)), (.ref bA)])) (fun t k => XS.iload X36.here hx rfl (hb hby at_306) rfl k) ?_
    refine Wk.go (A' := T36.setTop (mkF m 310 #[iv ax, jv wv, .second, iv cx, iv fx, iv cnt, iv ia, iv fl, rv bA, jv r8, .second, jv (-1 : Int64), .second] [(.int cnt), (.int ia), (.int (2 : Int32)), (.ref bA)])) (fun t k => XS.iload X36.here hx rfl (hb hby at_308) rfl k) ?_
    refine Wk.go (A' := T36.setTop (mkF m 312 #[iv ax, jv wv, .second, iv cx, iv fx, iv cnt, iv ia, iv fl, rv bA, jv r8, .second, jv (-1 : Int64), .second] [(.int fl), (.int cnt), (.int ia), (.int (2 : Int32)), (.ref bA)])) (fun t k => XS.iload X36.here hx rfl (hb hby at_310) rfl k) ?_
    obtain ⟨_, _, ⟨T37, L37, k37, n37⟩, -, X37, ⟨Lc37, hQ37, l37, y37, z37⟩, st37⟩ := Jvm.LawKit.callS X36 hx (y := (⟨"com/example/pledge/pledge/log/PayloadWriterPutBigEndianPinLaw", "keeps", "([BIIIB)Z"⟩ : MethodName)) hown (mvT hZ (tw11 hw)) (mvT hZ (tw12 hw)) (mvT hZ (tw8 hw)) (mvT hZ (tw13 hw)) (by decide) (backOf (W := 0) (rm3 l Z a0 hw [] bA (2 : Int32) ia cnt fl fP T26.heap n0 Zp26 Vq26 (by decide)) hZ (tw13 hw) (tw8 hw) (by decide) (by decide)) (g := (mkF m 312 #[iv ax, jv wv, .second, iv cx, iv fx, iv cnt, iv ia, iv fl, rv bA, jv r8, .second, jv (-1 : Int64), .second] [(.int fl), (.int cnt), (.int ia), (.int (2 : Int32)), (.ref bA)])) rfl (by rw [hml]; rfl) (argsL := [(.ref bA), (.int (2 : Int32)), (.int ia), (.int cnt), (.int fl)]) (rest := []) (lenOf pd_2 rfl) rfl (by show 2 * 0 + _ ≤ _; exact Nat.le_of_eq rfl) (hb hby at_312) (fun _ _ => ⟨rfl, (hE36), (by decide : 1 + 0 ≤ _), (by decide : 12 + 0 ≤ _)⟩)
    dsimp only [Pt.U, Pt.locs, Pt.cells, Pt.slots] at X37 l37 y37 z37 st37 hQ37
    subst y37 z37
    obtain ⟨rfl, N37q, hE37⟩ := hQ37
    have N37 : Fr n0 L37 := l37 ▸ Fr.app N36 N37q
    refine Wk.go (A' := T37.setTop (mkF m 315 #[iv ax, jv wv, .second, iv cx, iv fx, iv cnt, iv ia, iv fl, rv bA, jv r8, .second, jv (-1 : Int64), .second] [(.int (f_keeps bA (2 : Int32) ia cnt fl fP))])) (fun t k => st37 t k) ?_
    have hc315 : ¬ ((f_keeps bA (2 : Int32) ia cnt fl fP) = (0 : Int32)) := own_keep _ wv hA0 hc0 hsum hfP (by decide) hall
    refine Wk.go (A' := T37.setTop (mkF m 318 #[iv ax, jv wv, .second, iv cx, iv fx, iv cnt, iv ia, iv fl, rv bA, jv r8, .second, jv (-1 : Int64), .second] [])) (fun t k => XS.ifNo X37.here hx rfl (hb hby at_315) rfl ((if0 _ _).trans (feq hc315).1) k) ?_
    refine Wk.go (A' := T37.setTop (mkF m 320 #[iv ax, jv wv, .second, iv cx, iv fx, iv cnt, iv ia, iv fl, rv bA, jv r8, .second, jv (-1 : Int64), .second] [(.ref bA)])) (fun t k => XS.aload X37.here hx rfl (hb hby at_318) rfl rfl k) ?_
    refine Wk.go (A' := T37.setTop (mkF m 321 #[iv ax, jv wv, .second, iv cx, iv fx, iv cnt, iv ia, iv fl, rv bA, jv r8, .second, jv (-1 : Int64), .second] [(.int (3 : Int32)), (.ref bA)])) (fun t k => XS.iconst X37.here hx rfl (hb hby at_320) k) ?_
    refine Wk.go (A' := T37.setTop (mkF m 323 #[iv ax, jv wv, .second, iv cx, iv fx, iv cnt, iv ia, iv fl, rv bA, jv r8, .second, jv (-1 : Int64), .second] [(.int ia), (.int (3 : Int32)), (.ref bA)])) (fun t k => XS.iload X37.here hx rfl (hb hby at_321) rfl k) ?_
    refine Wk.go (A' := T37.setTop (mkF m 325 #[iv ax, jv wv, .second, iv cx, iv fx, iv cnt, iv ia, iv fl, rv bA, jv r8, .second, jv (-1 : Int64), .second] [(.int cnt), (.int ia), (.int (3 : Int32)), (.ref bA)])) (fun t k => XS.iload X37.here hx rfl (hb hby at_323) rfl k) ?_
    refine Wk.go (A' := T37.setTop (mkF m 327 #[iv ax, jv wv, .second, iv cx, iv fx, iv cnt, iv ia, iv fl, rv bA, jv r8, .second, jv (-1 : Int64), .second] [(.int fl), (.int cnt), (.int ia), (.int (3 : Int32)), (.ref bA)])) (fun t k => XS.iload X37.here hx rfl (hb hby at_325) rfl k) ?_
    obtain ⟨_, _, ⟨T38, L38, k38, n38⟩, -, X38, ⟨Lc38, hQ38, l38, y38, z38⟩, st38⟩ := Jvm.LawKit.callS X37 hx (y := (⟨"com/example/pledge/pledge/log/PayloadWriterPutBigEndianPinLaw", "keeps", "([BIIIB)Z"⟩ : MethodName)) hown (mvT hZ (tw11 hw)) (mvT hZ (tw12 hw)) (mvT hZ (tw8 hw)) (mvT hZ (tw13 hw)) (by decide) (backOf (W := 0) (rm3 l Z a0 hw [] bA (3 : Int32) ia cnt fl fP T26.heap n0 Zp26 Vq26 (by decide)) hZ (tw13 hw) (tw8 hw) (by decide) (by decide)) (g := (mkF m 327 #[iv ax, jv wv, .second, iv cx, iv fx, iv cnt, iv ia, iv fl, rv bA, jv r8, .second, jv (-1 : Int64), .second] [(.int fl), (.int cnt), (.int ia), (.int (3 : Int32)), (.ref bA)])) rfl (by rw [hml]; rfl) (argsL := [(.ref bA), (.int (3 : Int32)), (.int ia), (.int cnt), (.int fl)]) (rest := []) (lenOf pd_2 rfl) rfl (by show 2 * 0 + _ ≤ _; exact Nat.le_of_eq rfl) (hb hby at_327) (fun _ _ => ⟨rfl, (hE37), (by decide : 1 + 0 ≤ _), (by decide : 12 + 0 ≤ _)⟩)
    dsimp only [Pt.U, Pt.locs, Pt.cells, Pt.slots] at X38 l38 y38 z38 st38 hQ38
    subst y38 z38
    obtain ⟨rfl, N38q, hE38⟩ := hQ38
    have N38 : Fr n0 L38 := l38 ▸ Fr.app N37 N38q
    refine Wk.go (A' := T38.setTop (mkF m 330 #[iv ax, jv wv, .second, iv cx, iv fx, iv cnt, iv ia, iv fl, rv bA, jv r8, .second, jv (-1 : Int64), .second] [(.int (f_keeps bA (3 : Int32) ia cnt fl fP))])) (fun t k => st38 t k) ?_
    have hc330 : ¬ ((f_keeps bA (3 : Int32) ia cnt fl fP) = (0 : Int32)) := own_keep _ wv hA0 hc0 hsum hfP (by decide) hall
    refine Wk.go (A' := T38.setTop (mkF m 333 #[iv ax, jv wv, .second, iv cx, iv fx, iv cnt, iv ia, iv fl, rv bA, jv r8, .second, jv (-1 : Int64), .second] [])) (fun t k => XS.ifNo X38.here hx rfl (hb hby at_330) rfl ((if0 _ _).trans (feq hc330).1) k) ?_
    refine Wk.go (A' := T38.setTop (mkF m 335 #[iv ax, jv wv, .second, iv cx, iv fx, iv cnt, iv ia, iv fl, rv bA, jv r8, .second, jv (-1 : Int64), .second] [(.ref bA)])) (fun t k => XS.aload X38.here hx rfl (hb hby at_333) rfl rfl k) ?_
    refine Wk.go (A' := T38.setTop (mkF m 336 #[iv ax, jv wv, .second, iv cx, iv fx, iv cnt, iv ia, iv fl, rv bA, jv r8, .second, jv (-1 : Int64), .second] [(.int (4 : Int32)), (.ref bA)])) (fun t k => XS.iconst X38.here hx rfl (hb hby at_335) k) ?_
    refine Wk.go (A' := T38.setTop (mkF m 338 #[iv ax, jv wv, .second, iv cx, iv fx, iv cnt, iv ia, iv fl, rv bA, jv r8, .second, jv (-1 : Int64), .second] [(.int ia), (.int (4 : Int32)), (.ref bA)])) (fun t k => XS.iload X38.here hx rfl (hb hby at_336) rfl k) ?_
    refine Wk.go (A' := T38.setTop (mkF m 340 #[iv ax, jv wv, .second, iv cx, iv fx, iv cnt, iv ia, iv fl, rv bA, jv r8, .second, jv (-1 : Int64), .second] [(.int cnt), (.int ia), (.int (4 : Int32)), (.ref bA)])) (fun t k => XS.iload X38.here hx rfl (hb hby at_338) rfl k) ?_
    refine Wk.go (A' := T38.setTop (mkF m 342 #[iv ax, jv wv, .second, iv cx, iv fx, iv cnt, iv ia, iv fl, rv bA, jv r8, .second, jv (-1 : Int64), .second] [(.int fl), (.int cnt), (.int ia), (.int (4 : Int32)), (.ref bA)])) (fun t k => XS.iload X38.here hx rfl (hb hby at_340) rfl k) ?_
    obtain ⟨_, _, ⟨T39, L39, k39, n39⟩, -, X39, ⟨Lc39, hQ39, l39, y39, z39⟩, st39⟩ := Jvm.LawKit.callS X38 hx (y := (⟨"com/example/pledge/pledge/log/PayloadWriterPutBigEndianPinLaw", "keeps", "([BIIIB)Z"⟩ : MethodName)) hown (mvT hZ (tw11 hw)) (mvT hZ (tw12 hw)) (mvT hZ (tw8 hw)) (mvT hZ (tw13 hw)) (by decide) (backOf (W := 0) (rm3 l Z a0 hw [] bA (4 : Int32) ia cnt fl fP T26.heap n0 Zp26 Vq26 (by decide)) hZ (tw13 hw) (tw8 hw) (by decide) (by decide)) (g := (mkF m 342 #[iv ax, jv wv, .second, iv cx, iv fx, iv cnt, iv ia, iv fl, rv bA, jv r8, .second, jv (-1 : Int64), .second] [(.int fl), (.int cnt), (.int ia), (.int (4 : Int32)), (.ref bA)])) rfl (by rw [hml]; rfl) (argsL := [(.ref bA), (.int (4 : Int32)), (.int ia), (.int cnt), (.int fl)]) (rest := []) (lenOf pd_2 rfl) rfl (by show 2 * 0 + _ ≤ _; exact Nat.le_of_eq rfl) (hb hby at_342) (fun _ _ => ⟨rfl, (hE38), (by decide : 1 + 0 ≤ _), (by decide : 12 + 0 ≤ _)⟩)
    dsimp only [Pt.U, Pt.locs, Pt.cells, Pt.slots] at X39 l39 y39 z39 st39 hQ39
    subst y39 z39
    obtain ⟨rfl, N39q, hE39⟩ := hQ39
    have N39 : Fr n0 L39 := l39 ▸ Fr.app N38 N39q
    refine Wk.go (A' := T39.setTop (mkF m 345 #[iv ax, jv wv, .second, iv cx, iv fx, iv cnt, iv ia, iv fl, rv bA, jv r8, .second, jv (-1 : Int64), .second] [(.int (f_keeps bA (4 : Int32) ia cnt fl fP))])) (fun t k => st39 t k) ?_
    have hc345 : ¬ ((f_keeps bA (4 : Int32) ia cnt fl fP) = (0 : Int32)) := own_keep _ wv hA0 hc0 hsum hfP (by decide) hall
    refine Wk.go (A' := T39.setTop (mkF m 348 #[iv ax, jv wv, .second, iv cx, iv fx, iv cnt, iv ia, iv fl, rv bA, jv r8, .second, jv (-1 : Int64), .second] [])) (fun t k => XS.ifNo X39.here hx rfl (hb hby at_345) rfl ((if0 _ _).trans (feq hc345).1) k) ?_
    refine Wk.go (A' := T39.setTop (mkF m 350 #[iv ax, jv wv, .second, iv cx, iv fx, iv cnt, iv ia, iv fl, rv bA, jv r8, .second, jv (-1 : Int64), .second] [(.ref bA)])) (fun t k => XS.aload X39.here hx rfl (hb hby at_348) rfl rfl k) ?_
    refine Wk.go (A' := T39.setTop (mkF m 351 #[iv ax, jv wv, .second, iv cx, iv fx, iv cnt, iv ia, iv fl, rv bA, jv r8, .second, jv (-1 : Int64), .second] [(.int (5 : Int32)), (.ref bA)])) (fun t k => XS.iconst X39.here hx rfl (hb hby at_350) k) ?_
    refine Wk.go (A' := T39.setTop (mkF m 353 #[iv ax, jv wv, .second, iv cx, iv fx, iv cnt, iv ia, iv fl, rv bA, jv r8, .second, jv (-1 : Int64), .second] [(.int ia), (.int (5 : Int32)), (.ref bA)])) (fun t k => XS.iload X39.here hx rfl (hb hby at_351) rfl k) ?_
    refine Wk.go (A' := T39.setTop (mkF m 355 #[iv ax, jv wv, .second, iv cx, iv fx, iv cnt, iv ia, iv fl, rv bA, jv r8, .second, jv (-1 : Int64), .second] [(.int cnt), (.int ia), (.int (5 : Int32)), (.ref bA)])) (fun t k => XS.iload X39.here hx rfl (hb hby at_353) rfl k) ?_
    refine Wk.go (A' := T39.setTop (mkF m 357 #[iv ax, jv wv, .second, iv cx, iv fx, iv cnt, iv ia, iv fl, rv bA, jv r8, .second, jv (-1 : Int64), .second] [(.int fl), (.int cnt), (.int ia), (.int (5 : Int32)), (.ref bA)])) (fun t k => XS.iload X39.here hx rfl (hb hby at_355) rfl k) ?_
    obtain ⟨_, _, ⟨T40, L40, k40, n40⟩, -, X40, ⟨Lc40, hQ40, l40, y40, z40⟩, st40⟩ := Jvm.LawKit.callS X39 hx (y := (⟨"com/example/pledge/pledge/log/PayloadWriterPutBigEndianPinLaw", "keeps", "([BIIIB)Z"⟩ : MethodName)) hown (mvT hZ (tw11 hw)) (mvT hZ (tw12 hw)) (mvT hZ (tw8 hw)) (mvT hZ (tw13 hw)) (by decide) (backOf (W := 0) (rm3 l Z a0 hw [] bA (5 : Int32) ia cnt fl fP T26.heap n0 Zp26 Vq26 (by decide)) hZ (tw13 hw) (tw8 hw) (by decide) (by decide)) (g := (mkF m 357 #[iv ax, jv wv, .second, iv cx, iv fx, iv cnt, iv ia, iv fl, rv bA, jv r8, .second, jv (-1 : Int64), .second] [(.int fl), (.int cnt), (.int ia), (.int (5 : Int32)), (.ref bA)])) rfl (by rw [hml]; rfl) (argsL := [(.ref bA), (.int (5 : Int32)), (.int ia), (.int cnt), (.int fl)]) (rest := []) (lenOf pd_2 rfl) rfl (by show 2 * 0 + _ ≤ _; exact Nat.le_of_eq rfl) (hb hby at_357) (fun _ _ => ⟨rfl, (hE39), (by decide : 1 + 0 ≤ _), (by decide : 12 + 0 ≤ _)⟩)
    dsimp only [Pt.U, Pt.locs, Pt.cells, Pt.slots] at X40 l40 y40 z40 st40 hQ40
    subst y40 z40
    obtain ⟨rfl, N40q, hE40⟩ := hQ40
    have N40 : Fr n0 L40 := l40 ▸ Fr.app N39 N40q
    refine Wk.go (A' := T40.setTop (mkF m 360 #[iv ax, jv wv, .second, iv cx, iv fx, iv cnt, iv ia, iv fl, rv bA, jv r8, .second, jv (-1 : Int64), .second] [(.int (f_keeps bA (5 : Int32) ia cnt fl fP))])) (fun t k => st40 t k) ?_
    have hc360 : ¬ ((f_keeps bA (5 : Int32) ia cnt fl fP) = (0 : Int32)) := own_keep _ wv hA0 hc0 hsum hfP (by decide) hall
    refine Wk.go (A' := T40.setTop (mkF m 363 #[iv ax, jv wv, .second, iv cx, iv fx, iv cnt, iv ia, iv fl, rv bA, jv r8, .second, jv (-1 : Int64), .second] [])) (fun t k => XS.ifNo X40.here hx rfl (hb hby at_360) rfl ((if0 _ _).trans (feq hc360).1) k) ?_
    refine Wk.go (A' := T40.setTop (mkF m 365 #[iv ax, jv wv, .second, iv cx, iv fx, iv cnt, iv ia, iv fl, rv bA, jv r8, .second, jv (-1 : Int64), .second] [(.ref bA)])) (fun t k => XS.aload X40.here hx rfl (hb hby at_363) rfl rfl k) ?_
    refine Wk.go (A' := T40.setTop (mkF m 367 #[iv ax, jv wv, .second, iv cx, iv fx, iv cnt, iv ia, iv fl, rv bA, jv r8, .second, jv (-1 : Int64), .second] [(.int (6 : Int32)), (.ref bA)])) (fun t k => XS.bipush X40.here hx rfl (hb hby at_365) k) ?_
    refine Wk.go (A' := T40.setTop (mkF m 369 #[iv ax, jv wv, .second, iv cx, iv fx, iv cnt, iv ia, iv fl, rv bA, jv r8, .second, jv (-1 : Int64), .second] [(.int ia), (.int (6 : Int32)), (.ref bA)])) (fun t k => XS.iload X40.here hx rfl (hb hby at_367) rfl k) ?_
    refine Wk.go (A' := T40.setTop (mkF m 371 #[iv ax, jv wv, .second, iv cx, iv fx, iv cnt, iv ia, iv fl, rv bA, jv r8, .second, jv (-1 : Int64), .second] [(.int cnt), (.int ia), (.int (6 : Int32)), (.ref bA)])) (fun t k => XS.iload X40.here hx rfl (hb hby at_369) rfl k) ?_
    refine Wk.go (A' := T40.setTop (mkF m 373 #[iv ax, jv wv, .second, iv cx, iv fx, iv cnt, iv ia, iv fl, rv bA, jv r8, .second, jv (-1 : Int64), .second] [(.int fl), (.int cnt), (.int ia), (.int (6 : Int32)), (.ref bA)])) (fun t k => XS.iload X40.here hx rfl (hb hby at_371) rfl k) ?_
    obtain ⟨_, _, ⟨T41, L41, k41, n41⟩, -, X41, ⟨Lc41, hQ41, l41, y41, z41⟩, st41⟩ := Jvm.LawKit.callS X40 hx (y := (⟨"com/example/pledge/pledge/log/PayloadWriterPutBigEndianPinLaw", "keeps", "([BIIIB)Z"⟩ : MethodName)) hown (mvT hZ (tw11 hw)) (mvT hZ (tw12 hw)) (mvT hZ (tw8 hw)) (mvT hZ (tw13 hw)) (by decide) (backOf (W := 0) (rm3 l Z a0 hw [] bA (6 : Int32) ia cnt fl fP T26.heap n0 Zp26 Vq26 (by decide)) hZ (tw13 hw) (tw8 hw) (by decide) (by decide)) (g := (mkF m 373 #[iv ax, jv wv, .second, iv cx, iv fx, iv cnt, iv ia, iv fl, rv bA, jv r8, .second, jv (-1 : Int64), .second] [(.int fl), (.int cnt), (.int ia), (.int (6 : Int32)), (.ref bA)])) rfl (by rw [hml]; rfl) (argsL := [(.ref bA), (.int (6 : Int32)), (.int ia), (.int cnt), (.int fl)]) (rest := []) (lenOf pd_2 rfl) rfl (by show 2 * 0 + _ ≤ _; exact Nat.le_of_eq rfl) (hb hby at_373) (fun _ _ => ⟨rfl, (hE40), (by decide : 1 + 0 ≤ _), (by decide : 12 + 0 ≤ _)⟩)
    dsimp only [Pt.U, Pt.locs, Pt.cells, Pt.slots] at X41 l41 y41 z41 st41 hQ41
    subst y41 z41
    obtain ⟨rfl, N41q, hE41⟩ := hQ41
    have N41 : Fr n0 L41 := l41 ▸ Fr.app N40 N41q
    refine Wk.go (A' := T41.setTop (mkF m 376 #[iv ax, jv wv, .second, iv cx, iv fx, iv cnt, iv ia, iv fl, rv bA, jv r8, .second, jv (-1 : Int64), .second] [(.int (f_keeps bA (6 : Int32) ia cnt fl fP))])) (fun t k => st41 t k) ?_
    have hc376 : ¬ ((f_keeps bA (6 : Int32) ia cnt fl fP) = (0 : Int32)) := own_keep _ wv hA0 hc0 hsum hfP (by decide) hall
    refine Wk.go (A' := T41.setTop (mkF m 379 #[iv ax, jv wv, .second, iv cx, iv fx, iv cnt, iv ia, iv fl, rv bA, jv r8, .second, jv (-1 : Int64), .second] [])) (fun t k => XS.ifNo X41.here hx rfl (hb hby at_376) rfl ((if0 _ _).trans (feq hc376).1) k) ?_
    refine Wk.go (A' := T41.setTop (mkF m 381 #[iv ax, jv wv, .second, iv cx, iv fx, iv cnt, iv ia, iv fl, rv bA, jv r8, .second, jv (-1 : Int64), .second] [(.ref bA)])) (fun t k => XS.aload X41.here hx rfl (hb hby at_379) rfl rfl k) ?_
    refine Wk.go (A' := T41.setTop (mkF m 383 #[iv ax, jv wv, .second, iv cx, iv fx, iv cnt, iv ia, iv fl, rv bA, jv r8, .second, jv (-1 : Int64), .second] [(.int (7 : Int32)), (.ref bA)])) (fun t k => XS.bipush X41.here hx rfl (hb hby at_381) k) ?_
    refine Wk.go (A' := T41.setTop (mkF m 385 #[iv ax, jv wv, .second, iv cx, iv fx, iv cnt, iv ia, iv fl, rv bA, jv r8, .second, jv (-1 : Int64), .second] [(.int ia), (.int (7 : Int32)), (.ref bA)])) (fun t k => XS.iload X41.here hx rfl (hb hby at_383) rfl k) ?_
    refine Wk.go (A' := T41.setTop (mkF m 387 #[iv ax, jv wv, .second, iv cx, iv fx, iv cnt, iv ia, iv fl, rv bA, jv r8, .second, jv (-1 : Int64), .second] [(.int cnt), (.int ia), (.int (7 : Int32)), (.ref bA)])) (fun t k => XS.iload X41.here hx rfl (hb hby at_385) rfl k) ?_
    refine Wk.go (A' := T41.setTop (mkF m 389 #[iv ax, jv wv, .second, iv cx, iv fx, iv cnt, iv ia, iv fl, rv bA, jv r8, .second, jv (-1 : Int64), .second] [(.int fl), (.int cnt), (.int ia), (.int (7 : Int32)), (.ref bA)])) (fun t k => XS.iload X41.here hx rfl (hb hby at_387) rfl k) ?_
    obtain ⟨_, _, ⟨T42, L42, k42, n42⟩, -, X42, ⟨Lc42, hQ42, l42, y42, z42⟩, st42⟩ := Jvm.LawKit.callS X41 hx (y := (⟨"com/example/pledge/pledge/log/PayloadWriterPutBigEndianPinLaw", "keeps", "([BIIIB)Z"⟩ : MethodName)) hown (mvT hZ (tw11 hw)) (mvT hZ (tw12 hw)) (mvT hZ (tw8 hw)) (mvT hZ (tw13 hw)) (by decide) (backOf (W := 0) (rm3 l Z a0 hw [] bA (7 : Int32) ia cnt fl fP T26.heap n0 Zp26 Vq26 (by decide)) hZ (tw13 hw) (tw8 hw) (by decide) (by decide)) (g := (mkF m 389 #[iv ax, jv wv, .second, iv cx, iv fx, iv cnt, iv ia, iv fl, rv bA, jv r8, .second, jv (-1 : Int64), .second] [(.int fl), (.int cnt), (.int ia), (.int (7 : Int32)), (.ref bA)])) rfl (by rw [hml]; rfl) (argsL := [(.ref bA), (.int (7 : Int32)), (.int ia), (.int cnt), (.int fl)]) (rest := []) (lenOf pd_2 rfl) rfl (by show 2 * 0 + _ ≤ _; exact Nat.le_of_eq rfl) (hb hby at_389) (fun _ _ => ⟨rfl, (hE41), (by decide : 1 + 0 ≤ _), (by decide : 12 + 0 ≤ _)⟩)
    dsimp only [Pt.U, Pt.locs, Pt.cells, Pt.slots] at X42 l42 y42 z42 st42 hQ42
    subst y42 z42
    obtain ⟨rfl, N42q, hE42⟩ := hQ42
    have N42 : Fr n0 L42 := l42 ▸ Fr.app N41 N42q
    refine Wk.go (A' := T42.setTop (mkF m 392 #[iv ax, jv wv, .second, iv cx, iv fx, iv cnt, iv ia, iv fl, rv bA, jv r8, .second, jv (-1 : Int64), .second] [(.int (f_keeps bA (7 : Int32) ia cnt fl fP))])) (fun t k => st42 t k) ?_
    have hc392 : ¬ ((f_keeps bA (7 : Int32) ia cnt fl fP) = (0 : Int32)) := own_keep _ wv hA0 hc0 hsum hfP (by decide) hall
    refine Wk.go (A' := T42.setTop (mkF m 395 #[iv ax, jv wv, .second, iv cx, iv fx, iv cnt, iv ia, iv fl, rv bA, jv r8, .second, jv (-1 : Int64), .second] [])) (fun t k => XS.ifNo X42.here hx rfl (hb hby at_392) rfl ((if0 _ _).trans (feq hc392).1) k) ?_
    refine Wk.go (A' := T42.setTop (mkF m 397 #[iv ax, jv wv, .second, iv cx, iv fx, iv cnt, iv ia, iv fl, rv bA, jv r8, .second, jv (-1 : Int64), .second] [(.ref bA)])) (fun t k => XS.aload X42.here hx rfl (hb hby at_395) rfl rfl k) ?_
    refine Wk.go (A' := T42.setTop (mkF m 399 #[iv ax, jv wv, .second, iv cx, iv fx, iv cnt, iv ia, iv fl, rv bA, jv r8, .second, jv (-1 : Int64), .second] [(.int (8 : Int32)), (.ref bA)])) (fun t k => XS.bipush X42.here hx rfl (hb hby at_397) k) ?_
    refine Wk.go (A' := T42.setTop (mkF m 401 #[iv ax, jv wv, .second, iv cx, iv fx, iv cnt, iv ia, iv fl, rv bA, jv r8, .second, jv (-1 : Int64), .second] [(.int ia), (.int (8 : Int32)), (.ref bA)])) (fun t k => XS.iload X42.here hx rfl (hb hby at_399) rfl k) ?_
    refine Wk.go (A' := T42.setTop (mkF m 403 #[iv ax, jv wv, .second, iv cx, iv fx, iv cnt, iv ia, iv fl, rv bA, jv r8, .second, jv (-1 : Int64), .second] [(.int cnt), (.int ia), (.int (8 : Int32)), (.ref bA)])) (fun t k => XS.iload X42.here hx rfl (hb hby at_401) rfl k) ?_
    refine Wk.go (A' := T42.setTop (mkF m 405 #[iv ax, jv wv, .second, iv cx, iv fx, iv cnt, iv ia, iv fl, rv bA, jv r8, .second, jv (-1 : Int64), .second] [(.int fl), (.int cnt), (.int ia), (.int (8 : Int32)), (.ref bA)])) (fun t k => XS.iload X42.here hx rfl (hb hby at_403) rfl k) ?_
    obtain ⟨_, _, ⟨T43, L43, k43, n43⟩, -, X43, ⟨Lc43, hQ43, l43, y43, z43⟩, st43⟩ := Jvm.LawKit.callS X42 hx (y := (⟨"com/example/pledge/pledge/log/PayloadWriterPutBigEndianPinLaw", "keeps", "([BIIIB)Z"⟩ : MethodName)) hown (mvT hZ (tw11 hw)) (mvT hZ (tw12 hw)) (mvT hZ (tw8 hw)) (mvT hZ (tw13 hw)) (by decide) (backOf (W := 0) (rm3 l Z a0 hw [] bA (8 : Int32) ia cnt fl fP T26.heap n0 Zp26 Vq26 (by decide)) hZ (tw13 hw) (tw8 hw) (by decide) (by decide)) (g := (mkF m 405 #[iv ax, jv wv, .second, iv cx, iv fx, iv cnt, iv ia, iv fl, rv bA, jv r8, .second, jv (-1 : Int64), .second] [(.int fl), (.int cnt), (.int ia), (.int (8 : Int32)), (.ref bA)])) rfl (by rw [hml]; rfl) (argsL := [(.ref bA), (.int (8 : Int32)), (.int ia), (.int cnt), (.int fl)]) (rest := []) (lenOf pd_2 rfl) rfl (by show 2 * 0 + _ ≤ _; exact Nat.le_of_eq rfl) (hb hby at_405) (fun _ _ => ⟨rfl, (hE42), (by decide : 1 + 0 ≤ _), (by decide : 12 + 0 ≤ _)⟩)
    dsimp only [Pt.U, Pt.locs, Pt.cells, Pt.slots] at X43 l43 y43 z43 st43 hQ43
    subst y43 z43
    obtain ⟨rfl, N43q, hE43⟩ := hQ43
    have N43 : Fr n0 L43 := l43 ▸ Fr.app N42 N43q
    refine Wk.go (A' := T43.setTop (mkF m 408 #[iv ax, jv wv, .second, iv cx, iv fx, iv cnt, iv ia, iv fl, rv bA, jv r8, .second, jv (-1 : Int64), .second] [(.int (f_keeps bA (8 : Int32) ia cnt fl fP))])) (fun t k => st43 t k) ?_
    have hc408 : ¬ ((f_keeps bA (8 : Int32) ia cnt fl fP) = (0 : Int32)) := own_keep _ wv hA0 hc0 hsum hfP (by decide) hall
    refine Wk.go (A' := T43.setTop (mkF m 411 #[iv ax, jv wv, .second, iv cx, iv fx, iv cnt, iv ia, iv fl, rv bA, jv r8, .second, jv (-1 : Int64), .second] [])) (fun t k => XS.ifNo X43.here hx rfl (hb hby at_408) rfl ((if0 _ _).trans (feq hc408).1) k) ?_
    refine Wk.go (A' := T43.setTop (mkF m 413 #[iv ax, jv wv, .second, iv cx, iv fx, iv cnt, iv ia, iv fl, rv bA, jv r8, .second, jv (-1 : Int64), .second] [(.ref bA)])) (fun t k => XS.aload X43.here hx rfl (hb hby at_411) rfl rfl k) ?_
    refine Wk.go (A' := T43.setTop (mkF m 415 #[iv ax, jv wv, .second, iv cx, iv fx, iv cnt, iv ia, iv fl, rv bA, jv r8, .second, jv (-1 : Int64), .second] [(.int (9 : Int32)), (.ref bA)])) (fun t k => XS.bipush X43.here hx rfl (hb hby at_413) k) ?_
    refine Wk.go (A' := T43.setTop (mkF m 417 #[iv ax, jv wv, .second, iv cx, iv fx, iv cnt, iv ia, iv fl, rv bA, jv r8, .second, jv (-1 : Int64), .second] [(.int ia), (.int (9 : Int32)), (.ref bA)])) (fun t k => XS.iload X43.here hx rfl (hb hby at_415) rfl k) ?_
    refine Wk.go (A' := T43.setTop (mkF m 419 #[iv ax, jv wv, .second, iv cx, iv fx, iv cnt, iv ia, iv fl, rv bA, jv r8, .second, jv (-1 : Int64), .second] [(.int cnt), (.int ia), (.int (9 : Int32)), (.ref bA)])) (fun t k => XS.iload X43.here hx rfl (hb hby at_417) rfl k) ?_
    refine Wk.go (A' := T43.setTop (mkF m 421 #[iv ax, jv wv, .second, iv cx, iv fx, iv cnt, iv ia, iv fl, rv bA, jv r8, .second, jv (-1 : Int64), .second] [(.int fl), (.int cnt), (.int ia), (.int (9 : Int32)), (.ref bA)])) (fun t k => XS.iload X43.here hx rfl (hb hby at_419) rfl k) ?_
    obtain ⟨_, _, ⟨T44, L44, k44, n44⟩, -, X44, ⟨Lc44, hQ44, l44, y44, z44⟩, st44⟩ := Jvm.LawKit.callS X43 hx (y := (⟨"com/example/pledge/pledge/log/PayloadWriterPutBigEndianPinLaw", "keeps", "([BIIIB)Z"⟩ : MethodName)) hown (mvT hZ (tw11 hw)) (mvT hZ (tw12 hw)) (mvT hZ (tw8 hw)) (mvT hZ (tw13 hw)) (by decide) (backOf (W := 0) (rm3 l Z a0 hw [] bA (9 : Int32) ia cnt fl fP T26.heap n0 Zp26 Vq26 (by decide)) hZ (tw13 hw) (tw8 hw) (by decide) (by decide)) (g := (mkF m 421 #[iv ax, jv wv, .second, iv cx, iv fx, iv cnt, iv ia, iv fl, rv bA, jv r8, .second, jv (-1 : Int64), .second] [(.int fl), (.int cnt), (.int ia), (.int (9 : Int32)), (.ref bA)])) rfl (by rw [hml]; rfl) (argsL := [(.ref bA), (.int (9 : Int32)), (.int ia), (.int cnt), (.int fl)]) (rest := []) (lenOf pd_2 rfl) rfl (by show 2 * 0 + _ ≤ _; exact Nat.le_of_eq rfl) (hb hby at_421) (fun _ _ => ⟨rfl, (hE43), (by decide : 1 + 0 ≤ _), (by decide : 12 + 0 ≤ _)⟩)
    dsimp only [Pt.U, Pt.locs, Pt.cells, Pt.slots] at X44 l44 y44 z44 st44 hQ44
    subst y44 z44
    obtain ⟨rfl, N44q, hE44⟩ := hQ44
    have N44 : Fr n0 L44 := l44 ▸ Fr.app N43 N44q
    refine Wk.go (A' := T44.setTop (mkF m 424 #[iv ax, jv wv, .second, iv cx, iv fx, iv cnt, iv ia, iv fl, rv bA, jv r8, .second, jv (-1 : Int64), .second] [(.int (f_keeps bA (9 : Int32) ia cnt fl fP))])) (fun t k => st44 t k) ?_
    have hc424 : ¬ ((f_keeps bA (9 : Int32) ia cnt fl fP) = (0 : Int32)) := own_keep _ wv hA0 hc0 hsum hfP (by decide) hall
    refine Wk.go (A' := T44.setTop (mkF m 427 #[iv ax, jv wv, .second, iv cx, iv fx, iv cnt, iv ia, iv fl, rv bA, jv r8, .second, jv (-1 : Int64), .second] [])) (fun t k => XS.ifNo X44.here hx rfl (hb hby at_424) rfl ((if0 _ _).trans (feq hc424).1) k) ?_
    refine Wk.go (A' := T44.setTop (mkF m 429 #[iv ax, jv wv, .second, iv cx, iv fx, iv cnt, iv ia, iv fl, rv bA, jv r8, .second, jv (-1 : Int64), .second] [(.ref bA)])) (fun t k => XS.aload X44.here hx rfl (hb hby at_427) rfl rfl k) ?_
    refine Wk.go (A' := T44.setTop (mkF m 431 #[iv ax, jv wv, .second, iv cx, iv fx, iv cnt, iv ia, iv fl, rv bA, jv r8, .second, jv (-1 : Int64), .second] [(.int (10 : Int32)), (.ref bA)])) (fun t k => XS.bipush X44.here hx rfl (hb hby at_429) k) ?_
    refine Wk.go (A' := T44.setTop (mkF m 433 #[iv ax, jv wv, .second, iv cx, iv fx, iv cnt, iv ia, iv fl, rv bA, jv r8, .second, jv (-1 : Int64), .second] [(.int ia), (.int (10 : Int32)), (.ref bA)])) (fun t k => XS.iload X44.here hx rfl (hb hby at_431) rfl k) ?_
    refine Wk.go (A' := T44.setTop (mkF m 435 #[iv ax, jv wv, .second, iv cx, iv fx, iv cnt, iv ia, iv fl, rv bA, jv r8, .second, jv (-1 : Int64), .second] [(.int cnt), (.int ia), (.int (10 : Int32)), (.ref bA)])) (fun t k => XS.iload X44.here hx rfl (hb hby at_433) rfl k) ?_
    refine Wk.go (A' := T44.setTop (mkF m 437 #[iv ax, jv wv, .second, iv cx, iv fx, iv cnt, iv ia, iv fl, rv bA, jv r8, .second, jv (-1 : Int64), .second] [(.int fl), (.int cnt), (.int ia), (.int (10 : Int32)), (.ref bA)])) (fun t k => XS.iload X44.here hx rfl (hb hby at_435) rfl k) ?_
    obtain ⟨_, _, ⟨T45, L45, k45, n45⟩, -, X45, ⟨Lc45, hQ45, l45, y45, z45⟩, st45⟩ := Jvm.LawKit.callS X44 hx (y := (⟨"com/example/pledge/pledge/log/PayloadWriterPutBigEndianPinLaw", "keeps", "([BIIIB)Z"⟩ : MethodName)) hown (mvT hZ (tw11 hw)) (mvT hZ (tw12 hw)) (mvT hZ (tw8 hw)) (mvT hZ (tw13 hw)) (by decide) (backOf (W := 0) (rm3 l Z a0 hw [] bA (10 : Int32) ia cnt fl fP T26.heap n0 Zp26 Vq26 (by decide)) hZ (tw13 hw) (tw8 hw) (by decide) (by decide)) (g := (mkF m 437 #[iv ax, jv wv, .second, iv cx, iv fx, iv cnt, iv ia, iv fl, rv bA, jv r8, .second, jv (-1 : Int64), .second] [(.int fl), (.int cnt), (.int ia), (.int (10 : Int32)), (.ref bA)])) rfl (by rw [hml]; rfl) (argsL := [(.ref bA), (.int (10 : Int32)), (.int ia), (.int cnt), (.int fl)]) (rest := []) (lenOf pd_2 rfl) rfl (by show 2 * 0 + _ ≤ _; exact Nat.le_of_eq rfl) (hb hby at_437) (fun _ _ => ⟨rfl, (hE44), (by decide : 1 + 0 ≤ _), (by decide : 12 + 0 ≤ _)⟩)
    dsimp only [Pt.U, Pt.locs, Pt.cells, Pt.slots] at X45 l45 y45 z45 st45 hQ45
    subst y45 z45
    obtain ⟨rfl, N45q, hE45⟩ := hQ45
    have N45 : Fr n0 L45 := l45 ▸ Fr.app N44 N45q
    refine Wk.go (A' := T45.setTop (mkF m 440 #[iv ax, jv wv, .second, iv cx, iv fx, iv cnt, iv ia, iv fl, rv bA, jv r8, .second, jv (-1 : Int64), .second] [(.int (f_keeps bA (10 : Int32) ia cnt fl fP))])) (fun t k => st45 t k) ?_
    have hc440 : ¬ ((f_keeps bA (10 : Int32) ia cnt fl fP) = (0 : Int32)) := own_keep _ wv hA0 hc0 hsum hfP (by decide) hall
    refine Wk.go (A' := T45.setTop (mkF m 443 #[iv ax, jv wv, .second, iv cx, iv fx, iv cnt, iv ia, iv fl, rv bA, jv r8, .second, jv (-1 : Int64), .second] [])) (fun t k => XS.ifNo X45.here hx rfl (hb hby at_440) rfl ((if0 _ _).trans (feq hc440).1) k) ?_
    refine Wk.go (A' := T45.setTop (mkF m 445 #[iv ax, jv wv, .second, iv cx, iv fx, iv cnt, iv ia, iv fl, rv bA, jv r8, .second, jv (-1 : Int64), .second] [(.ref bA)])) (fun t k => XS.aload X45.here hx rfl (hb hby at_443) rfl rfl k) ?_
    refine Wk.go (A' := T45.setTop (mkF m 447 #[iv ax, jv wv, .second, iv cx, iv fx, iv cnt, iv ia, iv fl, rv bA, jv r8, .second, jv (-1 : Int64), .second] [(.int (11 : Int32)), (.ref bA)])) (fun t k => XS.bipush X45.here hx rfl (hb hby at_445) k) ?_
    refine Wk.go (A' := T45.setTop (mkF m 449 #[iv ax, jv wv, .second, iv cx, iv fx, iv cnt, iv ia, iv fl, rv bA, jv r8, .second, jv (-1 : Int64), .second] [(.int ia), (.int (11 : Int32)), (.ref bA)])) (fun t k => XS.iload X45.here hx rfl (hb hby at_447) rfl k) ?_
    refine Wk.go (A' := T45.setTop (mkF m 451 #[iv ax, jv wv, .second, iv cx, iv fx, iv cnt, iv ia, iv fl, rv bA, jv r8, .second, jv (-1 : Int64), .second] [(.int cnt), (.int ia), (.int (11 : Int32)), (.ref bA)])) (fun t k => XS.iload X45.here hx rfl (hb hby at_449) rfl k) ?_
    refine Wk.go (A' := T45.setTop (mkF m 453 #[iv ax, jv wv, .second, iv cx, iv fx, iv cnt, iv ia, iv fl, rv bA, jv r8, .second, jv (-1 : Int64), .second] [(.int fl), (.int cnt), (.int ia), (.int (11 : Int32)), (.ref bA)])) (fun t k => XS.iload X45.here hx rfl (hb hby at_451) rfl k) ?_
    obtain ⟨_, _, ⟨T46, L46, k46, n46⟩, -, X46, ⟨Lc46, hQ46, l46, y46, z46⟩, st46⟩ := Jvm.LawKit.callS X45 hx (y := (⟨"com/example/pledge/pledge/log/PayloadWriterPutBigEndianPinLaw", "keeps", "([BIIIB)Z"⟩ : MethodName)) hown (mvT hZ (tw11 hw)) (mvT hZ (tw12 hw)) (mvT hZ (tw8 hw)) (mvT hZ (tw13 hw)) (by decide) (backOf (W := 0) (rm3 l Z a0 hw [] bA (11 : Int32) ia cnt fl fP T26.heap n0 Zp26 Vq26 (by decide)) hZ (tw13 hw) (tw8 hw) (by decide) (by decide)) (g := (mkF m 453 #[iv ax, jv wv, .second, iv cx, iv fx, iv cnt, iv ia, iv fl, rv bA, jv r8, .second, jv (-1 : Int64), .second] [(.int fl), (.int cnt), (.int ia), (.int (11 : Int32)), (.ref bA)])) rfl (by rw [hml]; rfl) (argsL := [(.ref bA), (.int (11 : Int32)), (.int ia), (.int cnt), (.int fl)]) (rest := []) (lenOf pd_2 rfl) rfl (by show 2 * 0 + _ ≤ _; exact Nat.le_of_eq rfl) (hb hby at_453) (fun _ _ => ⟨rfl, (hE45), (by decide : 1 + 0 ≤ _), (by decide : 12 + 0 ≤ _)⟩)
    dsimp only [Pt.U, Pt.locs, Pt.cells, Pt.slots] at X46 l46 y46 z46 st46 hQ46
    subst y46 z46
    obtain ⟨rfl, N46q, hE46⟩ := hQ46
    have N46 : Fr n0 L46 := l46 ▸ Fr.app N45 N46q
    refine Wk.go (A' := T46.setTop (mkF m 456 #[iv ax, jv wv, .second, iv cx, iv fx, iv cnt, iv ia, iv fl, rv bA, jv r8, .second, jv (-1 : Int64), .second] [(.int (f_keeps bA (11 : Int32) ia cnt fl fP))])) (fun t k => st46 t k) ?_
    have hc456 : ¬ ((f_keeps bA (11 : Int32) ia cnt fl fP) = (0 : Int32)) := own_keep _ wv hA0 hc0 hsum hfP (by decide) hall
    refine Wk.go (A' := T46.setTop (mkF m 459 #[iv ax, jv wv, .second, iv cx, iv fx, iv cnt, iv ia, iv fl, rv bA, jv r8, .second, jv (-1 : Int64), .second] [])) (fun t k => XS.ifNo X46.here hx rfl (hb hby at_456) rfl ((if0 _ _).trans (feq hc456).1) k) ?_
    refine Wk.go (A' := T46.setTop (mkF m 460 #[iv ax, jv wv, .second, iv cx, iv fx, iv cnt, iv ia, iv fl, rv bA, jv r8, .second, jv (-1 : Int64), .second] [(.int (1 : Int32))])) (fun t k => XS.iconst X46.here hx rfl (hb hby at_459) k) ?_
    refine Wk.go (A' := T46.setTop (mkF m 464 #[iv ax, jv wv, .second, iv cx, iv fx, iv cnt, iv ia, iv fl, rv bA, jv r8, .second, jv (-1 : Int64), .second] [(.int (1 : Int32))])) (fun t k => XS.goto X46.here hx rfl (pc0 := 460) (pc' := 464) rfl (hb hby at_460) (by decide) (by decide) k) ?_
    refine own_fin (Qv := Q0 Z ax wv cx fx h0 n0) (v := some (.int (1 : Int32))) X46 hlk (fun h => by rw [Bd.returns] at h; cases h) (fun fs hr => retN X46 hx (t := .boolean) Bd.returns (by simp) (hb hby at_464) hr) ?_ (by decide) (by decide)
    exact ⟨rfl, N46⟩
  · refine Wk.go (A' := T34.setTop (mkF m 250 #[iv ax, jv wv, .second, iv cx, iv fx, iv cnt, iv ia, iv fl, rv bA, jv r8, .second, .unset, .unset] [])) (fun t k => XS.icmpYes X34.here hx rfl (pc0 := 241) (pc' := 250) rfl (hb hby at_241) rfl (feq hc241).2 (by decide) (by decide) k) ?_
    refine Wk.go (A' := T34.setTop (mkF m 251 #[iv ax, jv wv, .second, iv cx, iv fx, iv cnt, iv ia, iv fl, rv bA, jv r8, .second, .unset, .unset] [(.long (1 : Int64))])) (fun t k => XS.lconst X34.here hx rfl (hb hby at_250) k) ?_
    refine Wk.go (A' := T34.setTop (mkF m 253 #[iv ax, jv wv, .second, iv cx, iv fx, iv cnt, iv ia, iv fl, rv bA, jv r8, .second, .unset, .unset] [(.int (8 : Int32)), (.long (1 : Int64))])) (fun t k => XS.bipush X34.here hx rfl (hb hby at_251) k) ?_
    refine Wk.go (A' := T34.setTop (mkF m 255 #[iv ax, jv wv, .second, iv cx, iv fx, iv cnt, iv ia, iv fl, rv bA, jv r8, .second, .unset, .unset] [(.int cnt), (.int (8 : Int32)), (.long (1 : Int64))])) (fun t k => XS.iload X34.here hx rfl (hb hby at_253) rfl k) ?_
    refine Wk.go (A' := T34.setTop (mkF m 256 #[iv ax, jv wv, .second, iv cx, iv fx, iv cnt, iv ia, iv fl, rv bA, jv r8, .second, .unset, .unset] [(.int ((8 : Int32) * cnt)), (.long (1 : Int64))])) (fun t k => XS.imul X34.here hx rfl (hb hby at_255) rfl k) ?_
    refine Wk.go (A' := T34.setTop (mkF m 257 #[iv ax, jv wv, .second, iv cx, iv fx, iv cnt, iv ia, iv fl, rv bA, jv r8, .second, .unset, .unset] [(.long ((1 : Int64) <<< (((8 : Int32) * cnt) &&& 0x3f).toInt64))])) (fun t k => XS.lshl X34.here hx rfl (hb hby at_256) rfl k) ?_
    refine Wk.go (A' := T34.setTop (mkF m 258 #[iv ax, jv wv, .second, iv cx, iv fx, iv cnt, iv ia, iv fl, rv bA, jv r8, .second, .unset, .unset] [(.long (1 : Int64)), (.long ((1 : Int64) <<< (((8 : Int32) * cnt) &&& 0x3f).toInt64))])) (fun t k => XS.lconst X34.here hx rfl (hb hby at_257) k) ?_
    refine Wk.go (A' := T34.setTop (mkF m 259 #[iv ax, jv wv, .second, iv cx, iv fx, iv cnt, iv ia, iv fl, rv bA, jv r8, .second, .unset, .unset] [(.long (((1 : Int64) <<< (((8 : Int32) * cnt) &&& 0x3f).toInt64) - (1 : Int64)))])) (fun t k => XS.lsub X34.here hx rfl (hb hby at_258) rfl k) ?_
    refine Wk.go (A' := T34.setTop (mkF m 261 #[iv ax, jv wv, .second, iv cx, iv fx, iv cnt, iv ia, iv fl, rv bA, jv r8, .second, jv (((1 : Int64) <<< (((8 : Int32) * cnt) &&& 0x3f).toInt64) - (1 : Int64)), .second] [])) (fun t k => XS.lstore X34.here hx rfl (hb hby at_259) rfl (l' := #[iv ax, jv wv, .second, iv cx, iv fx, iv cnt, iv ia, iv fl, rv bA, jv r8, .second, jv (((1 : Int64) <<< (((8 : Int32) * cnt) &&& 0x3f).toInt64) - (1 : Int64)), .second]) rfl k) ?_
    refine Wk.go (A' := T34.setTop (mkF m 263 #[iv ax, jv wv, .second, iv cx, iv fx, iv cnt, iv ia, iv fl, rv bA, jv r8, .second, jv (((1 : Int64) <<< (((8 : Int32) * cnt) &&& 0x3f).toInt64) - (1 : Int64)), .second] [(.long r8)])) (fun t k => XS.lload X34.here hx rfl (hb hby at_261) rfl k) ?_
    refine Wk.go (A' := T34.setTop (mkF m 264 #[iv ax, jv wv, .second, iv cx, iv fx, iv cnt, iv ia, iv fl, rv bA, jv r8, .second, jv (((1 : Int64) <<< (((8 : Int32) * cnt) &&& 0x3f).toInt64) - (1 : Int64)), .second] [(.long wv), (.long r8)])) (fun t k => XS.lloadN X34.here hx rfl (hb hby at_263) rfl k) ?_
    refine Wk.go (A' := T34.setTop (mkF m 266 #[iv ax, jv wv, .second, iv cx, iv fx, iv cnt, iv ia, iv fl, rv bA, jv r8, .second, jv (((1 : Int64) <<< (((8 : Int32) * cnt) &&& 0x3f).toInt64) - (1 : Int64)), .second] [(.long (((1 : Int64) <<< (((8 : Int32) * cnt) &&& 0x3f).toInt64) - (1 : Int64))), (.long wv), (.long r8)])) (fun t k => XS.lload X34.here hx rfl (hb hby at_264) rfl k) ?_
    refine Wk.go (A' := T34.setTop (mkF m 267 #[iv ax, jv wv, .second, iv cx, iv fx, iv cnt, iv ia, iv fl, rv bA, jv r8, .second, jv (((1 : Int64) <<< (((8 : Int32) * cnt) &&& 0x3f).toInt64) - (1 : Int64)), .second] [(.long (wv &&& (((1 : Int64) <<< (((8 : Int32) * cnt) &&& 0x3f).toInt64) - (1 : Int64)))), (.long r8)])) (fun t k => XS.land X34.here hx rfl (hb hby at_266) rfl k) ?_
    refine Wk.go (A' := T34.setTop (mkF m 268 #[iv ax, jv wv, .second, iv cx, iv fx, iv cnt, iv ia, iv fl, rv bA, jv r8, .second, jv (((1 : Int64) <<< (((8 : Int32) * cnt) &&& 0x3f).toInt64) - (1 : Int64)), .second] [(.int (lcmpW r8 (wv &&& (((1 : Int64) <<< (((8 : Int32) * cnt) &&& 0x3f).toInt64) - (1 : Int64)))))])) (fun t k => XS.lcmp X34.here hx rfl (hb hby at_267) rfl k) ?_
    have hc268 : r8 = (wv &&& (((1 : Int64) <<< (((8 : Int32) * cnt) &&& 0x3f).toInt64) - (1 : Int64))) := LB hc241
    refine Wk.go (A' := T34.setTop (mkF m 273 #[iv ax, jv wv, .second, iv cx, iv fx, iv cnt, iv ia, iv fl, rv bA, jv r8, .second, jv (((1 : Int64) <<< (((8 : Int32) * cnt) &&& 0x3f).toInt64) - (1 : Int64)), .second] [])) (fun t k => XS.ifYes X34.here hx rfl (pc0 := 268) (pc' := 273) rfl (hb hby at_268) rfl ((if0 _ _).trans (teq ((lw_eq _ _).mpr hc268)).1) (by decide) (by decide) k) ?_
    refine Wk.go (A' := T34.setTop (mkF m 275 #[iv ax, jv wv, .second, iv cx, iv fx, iv cnt, iv ia, iv fl, rv bA, jv r8, .second, jv (((1 : Int64) <<< (((8 : Int32) * cnt) &&& 0x3f).toInt64) - (1 : Int64)), .second] [(.ref bA)])) (fun t k => XS.aload X34.here hx rfl (hb hby at_273) rfl rfl k) ?_
    refine Wk.go (A' := T34.setTop (mkF m 276 #[iv ax, jv wv, .second, iv cx, iv fx, iv cnt, iv ia, iv fl, rv bA, jv r8, .second, jv (((1 : Int64) <<< (((8 : Int32) * cnt) &&& 0x3f).toInt64) - (1 : Int64)), .second] [(.int (0 : Int32)), (.ref bA)])) (fun t k => XS.iconst X34.here hx rfl (hb hby at_275) k) ?_
    refine Wk.go (A' := T34.setTop (mkF m 278 #[iv ax, jv wv, .second, iv cx, iv fx, iv cnt, iv ia, iv fl, rv bA, jv r8, .second, jv (((1 : Int64) <<< (((8 : Int32) * cnt) &&& 0x3f).toInt64) - (1 : Int64)), .second] [(.int ia), (.int (0 : Int32)), (.ref bA)])) (fun t k => XS.iload X34.here hx rfl (hb hby at_276) rfl k) ?_
    refine Wk.go (A' := T34.setTop (mkF m 280 #[iv ax, jv wv, .second, iv cx, iv fx, iv cnt, iv ia, iv fl, rv bA, jv r8, .second, jv (((1 : Int64) <<< (((8 : Int32) * cnt) &&& 0x3f).toInt64) - (1 : Int64)), .second] [(.int cnt), (.int ia), (.int (0 : Int32)), (.ref bA)])) (fun t k => XS.iload X34.here hx rfl (hb hby at_278) rfl k) ?_
    refine Wk.go (A' := T34.setTop (mkF m 282 #[iv ax, jv wv, .second, iv cx, iv fx, iv cnt, iv ia, iv fl, rv bA, jv r8, .second, jv (((1 : Int64) <<< (((8 : Int32) * cnt) &&& 0x3f).toInt64) - (1 : Int64)), .second] [(.int fl), (.int cnt), (.int ia), (.int (0 : Int32)), (.ref bA)])) (fun t k => XS.iload X34.here hx rfl (hb hby at_280) rfl k) ?_
    obtain ⟨_, _, ⟨T47, L47, k47, n47⟩, -, X47, ⟨Lc47, hQ47, l47, y47, z47⟩, st47⟩ := Jvm.LawKit.callS X34 hx (y := (⟨"com/example/pledge/pledge/log/PayloadWriterPutBigEndianPinLaw", "keeps", "([BIIIB)Z"⟩ : MethodName)) hown (mvT hZ (tw11 hw)) (mvT hZ (tw12 hw)) (mvT hZ (tw8 hw)) (mvT hZ (tw13 hw)) (by decide) (backOf (W := 0) (rm3 l Z a0 hw [] bA (0 : Int32) ia cnt fl fP T26.heap n0 Zp26 Vq26 (by decide)) hZ (tw13 hw) (tw8 hw) (by decide) (by decide)) (g := (mkF m 282 #[iv ax, jv wv, .second, iv cx, iv fx, iv cnt, iv ia, iv fl, rv bA, jv r8, .second, jv (((1 : Int64) <<< (((8 : Int32) * cnt) &&& 0x3f).toInt64) - (1 : Int64)), .second] [(.int fl), (.int cnt), (.int ia), (.int (0 : Int32)), (.ref bA)])) rfl (by rw [hml]; rfl) (argsL := [(.ref bA), (.int (0 : Int32)), (.int ia), (.int cnt), (.int fl)]) (rest := []) (lenOf pd_2 rfl) rfl (by show 2 * 0 + _ ≤ _; exact Nat.le_of_eq rfl) (hb hby at_282) (fun _ _ => ⟨rfl, (hE34), (by decide : 1 + 0 ≤ _), (by decide : 12 + 0 ≤ _)⟩)
    dsimp only [Pt.U, Pt.locs, Pt.cells, Pt.slots] at X47 l47 y47 z47 st47 hQ47
    subst y47 z47
    obtain ⟨rfl, N47q, hE47⟩ := hQ47
    have N47 : Fr n0 L47 := l47 ▸ Fr.app N34 N47q
    refine Wk.go (A' := T47.setTop (mkF m 285 #[iv ax, jv wv, .second, iv cx, iv fx, iv cnt, iv ia, iv fl, rv bA, jv r8, .second, jv (((1 : Int64) <<< (((8 : Int32) * cnt) &&& 0x3f).toInt64) - (1 : Int64)), .second] [(.int (f_keeps bA (0 : Int32) ia cnt fl fP))])) (fun t k => st47 t k) ?_
    have hc285 : ¬ ((f_keeps bA (0 : Int32) ia cnt fl fP) = (0 : Int32)) := own_keep _ wv hA0 hc0 hsum hfP (by decide) hall
    refine Wk.go (A' := T47.setTop (mkF m 288 #[iv ax, jv wv, .second, iv cx, iv fx, iv cnt, iv ia, iv fl, rv bA, jv r8, .second, jv (((1 : Int64) <<< (((8 : Int32) * cnt) &&& 0x3f).toInt64) - (1 : Int64)), .second] [])) (fun t k => XS.ifNo X47.here hx rfl (hb hby at_285) rfl ((if0 _ _).trans (feq hc285).1) k) ?_
    refine Wk.go (A' := T47.setTop (mkF m 290 #[iv ax, jv wv, .second, iv cx, iv fx, iv cnt, iv ia, iv fl, rv bA, jv r8, .second, jv (((1 : Int64) <<< (((8 : Int32) * cnt) &&& 0x3f).toInt64) - (1 : Int64)), .second] [(.ref bA)])) (fun t k => XS.aload X47.here hx rfl (hb hby at_288) rfl rfl k) ?_
    refine Wk.go (A' := T47.setTop (mkF m 291 #[iv ax, jv wv, .second, iv cx, iv fx, iv cnt, iv ia, iv fl, rv bA, jv r8, .second, jv (((1 : Int64) <<< (((8 : Int32) * cnt) &&& 0x3f).toInt64) - (1 : Int64)), .second] [(.int (1 : Int32)), (.ref bA)])) (fun t k => XS.iconst X47.here hx rfl (hb hby at_290) k) ?_
    refine Wk.go (A' := T47.setTop (mkF m 293 #[iv ax, jv wv, .second, iv cx, iv fx, iv cnt, iv ia, iv fl, rv bA, jv r8, .second, jv (((1 : Int64) <<< (((8 : Int32) * cnt) &&& 0x3f).toInt64) - (1 : Int64)), .second] [(.int ia), (.int (1 : Int32)), (.ref bA)])) (fun t k => XS.iload X47.here hx rfl (hb hby at_291) rfl k) ?_
    refine Wk.go (A' := T47.setTop (mkF m 295 #[iv ax, jv wv, .second, iv cx, iv fx, iv cnt, iv ia, iv fl, rv bA, jv r8, .second, jv (((1 : Int64) <<< (((8 : Int32) * cnt) &&& 0x3f).toInt64) - (1 : Int64)), .second] [(.int cnt), (.int ia), (.int (1 : Int32)), (.ref bA)])) (fun t k => XS.iload X47.here hx rfl (hb hby at_293) rfl k) ?_
    refine Wk.go (A' := T47.setTop (mkF m 297 #[iv ax, jv wv, .second, iv cx, iv fx, iv cnt, iv ia, iv fl, rv bA, jv r8, .second, jv (((1 : Int64) <<< (((8 : Int32) * cnt) &&& 0x3f).toInt64) - (1 : Int64)), .second] [(.int fl), (.int cnt), (.int ia), (.int (1 : Int32)), (.ref bA)])) (fun t k => XS.iload X47.here hx rfl (hb hby at_295) rfl k) ?_
    obtain ⟨_, _, ⟨T48, L48, k48, n48⟩, -, X48, ⟨Lc48, hQ48, l48, y48, z48⟩, st48⟩ := Jvm.LawKit.callS X47 hx (y := (⟨"com/example/pledge/pledge/log/PayloadWriterPutBigEndianPinLaw", "keeps", "([BIIIB)Z"⟩ : MethodName)) hown (mvT hZ (tw11 hw)) (mvT hZ (tw12 hw)) (mvT hZ (tw8 hw)) (mvT hZ (tw13 hw)) (by decide) (backOf (W := 0) (rm3 l Z a0 hw [] bA (1 : Int32) ia cnt fl fP T26.heap n0 Zp26 Vq26 (by decide)) hZ (tw13 hw) (tw8 hw) (by decide) (by decide)) (g := (mkF m 297 #[iv ax, jv wv, .second, iv cx, iv fx, iv cnt, iv ia, iv fl, rv bA, jv r8, .second, jv (((1 : Int64) <<< (((8 : Int32) * cnt) &&& 0x3f).toInt64) - (1 : Int64)), .second] [(.int fl), (.int cnt), (.int ia), (.int (1 : Int32)), (.ref bA)])) rfl (by rw [hml]; rfl) (argsL := [(.ref bA), (.int (1 : Int32)), (.int ia), (.int cnt), (.int fl)]) (rest := []) (lenOf pd_2 rfl) rfl (by show 2 * 0 + _ ≤ _; exact Nat.le_of_eq rfl) (hb hby at_297) (fun _ _ => ⟨rfl, (hE47), (by decide : 1 + 0 ≤ _), (by decide : 12 + 0 ≤ _)⟩)
    dsimp only [Pt.U, Pt.locs, Pt.cells, Pt.slots] at X48 l48 y48 z48 st48 hQ48
    subst y48 z48
    obtain ⟨rfl, N48q, hE48⟩ := hQ48
    have N48 : Fr n0 L48 := l48 ▸ Fr.app N47 N48q
    refine Wk.go (A' := T48.setTop (mkF m 300 #[iv ax, jv wv, .second, iv cx, iv fx, iv cnt, iv ia, iv fl, rv bA, jv r8, .second, jv (((1 : Int64) <<< (((8 : Int32) * cnt) &&& 0x3f).toInt64) - (1 : Int64)), .second] [(.int (f_keeps bA (1 : Int32) ia cnt fl fP))])) (fun t k => st48 t k) ?_
    have hc300 : ¬ ((f_keeps bA (1 : Int32) ia cnt fl fP) = (0 : Int32)) := own_keep _ wv hA0 hc0 hsum hfP (by decide) hall
    refine Wk.go (A' := T48.setTop (mkF m 303 #[iv ax, jv wv, .second, iv cx, iv fx, iv cnt, iv ia, iv fl, rv bA, jv r8, .second, jv (((1 : Int64) <<< (((8 : Int32) * cnt) &&& 0x3f).toInt64) - (1 : Int64)), .second] [])) (fun t k => XS.ifNo X48.here hx rfl (hb hby at_300) rfl ((if0 _ _).trans (feq hc300).1) k) ?_
    refine Wk.go (A' := T48.setTop (mkF m 305 #[iv ax, jv wv, .second, iv cx, iv fx, iv cnt, iv ia, iv fl, rv bA, jv r8, .second, jv (((1 : Int64) <<< (((8 : Int32) * cnt) &&& 0x3f).toInt64) - (1 : Int64)), .second] [(.ref bA)])) (fun t k => XS.aload X48.here hx rfl (hb hby at_303) rfl rfl k) ?_
    refine Wk.go (A' := T48.setTop (mkF m 306 #[iv ax, jv wv, .second, iv cx, iv fx, iv cnt, iv ia, iv fl, rv bA, jv r8, .second, jv (((1 : Int64) <<< (((8 : Int32) * cnt) &&& 0x3f).toInt64) - (1 : Int64)), .second] [(.int (2 : Int32)), (.ref bA)])) (fun t k => XS.iconst X48.here hx rfl (hb hby at_305) k) ?_
    refine Wk.go (A' := T48.setTop (mkF m 308 #[iv ax, jv wv, .second, iv cx, iv fx, iv cnt, iv ia, iv fl, rv bA, jv r8, .second, jv (((1 : Int64) <<< (((8 : Int32) * cnt) &&& 0x3f).toInt64) - (1 : Int64)), .second] [(.int ia), (.int (2 : Int32)), (.ref bA)])) (fun t k => XS.iload X48.here hx rfl (hb hby at_306) rfl k) ?_
    refine Wk.go (A' := T48.setTop (mkF m 310 #[iv ax, jv wv, .second, iv cx, iv fx, iv cnt, iv ia, iv fl, rv bA, jv r8, .second, jv (((1 : Int64) <<< (((8 : Int32) * cnt) &&& 0x3f).toInt64) - (1 : Int64)), .second] [(.int cnt), (.int ia), (.int (2 : Int32)), (.ref bA)])) (fun t k => XS.iload X48.here hx rfl (hb hby at_308) rfl k) ?_
    refine Wk.go (A' := T48.setTop (mkF m 312 #[iv ax, jv wv, .second, iv cx, iv fx, iv cnt, iv ia, iv fl, rv bA, jv r8, .second, jv (((1 : Int64) <<< (((8 : Int32) * cnt) &&& 0x3f).toInt64) - (1 : Int64)), .second] [(.int fl), (.int cnt), (.int ia), (.int (2 : Int32)), (.ref bA)])) (fun t k => XS.iload X48.here hx rfl (hb hby at_310) rfl k) ?_
    obtain ⟨_, _, ⟨T49, L49, k49, n49⟩, -, X49, ⟨Lc49, hQ49, l49, y49, z49⟩, st49⟩ := Jvm.LawKit.callS X48 hx (y := (⟨"com/example/pledge/pledge/log/PayloadWriterPutBigEndianPinLaw", "keeps", "([BIIIB)Z"⟩ : MethodName)) hown (mvT hZ (tw11 hw)) (mvT hZ (tw12 hw)) (mvT hZ (tw8 hw)) (mvT hZ (tw13 hw)) (by decide) (backOf (W := 0) (rm3 l Z a0 hw [] bA (2 : Int32) ia cnt fl fP T26.heap n0 Zp26 Vq26 (by decide)) hZ (tw13 hw) (tw8 hw) (by decide) (by decide)) (g := (mkF m 312 #[iv ax, jv wv, .second, iv cx, iv fx, iv cnt, iv ia, iv fl, rv bA, jv r8, .second, jv (((1 : Int64) <<< (((8 : Int32) * cnt) &&& 0x3f).toInt64) - (1 : Int64)), .second] [(.int fl), (.int cnt), (.int ia), (.int (2 : Int32)), (.ref bA)])) rfl (by rw [hml]; rfl) (argsL := [(.ref bA), (.int (2 : Int32)), (.int ia), (.int cnt), (.int fl)]) (rest := []) (lenOf pd_2 rfl) rfl (by show 2 * 0 + _ ≤ _; exact Nat.le_of_eq rfl) (hb hby at_312) (fun _ _ => ⟨rfl, (hE48), (by decide : 1 + 0 ≤ _), (by decide : 12 + 0 ≤ _)⟩)
    dsimp only [Pt.U, Pt.locs, Pt.cells, Pt.slots] at X49 l49 y49 z49 st49 hQ49
    subst y49 z49
    obtain ⟨rfl, N49q, hE49⟩ := hQ49
    have N49 : Fr n0 L49 := l49 ▸ Fr.app N48 N49q
    refine Wk.go (A' := T49.setTop (mkF m 315 #[iv ax, jv wv, .second, iv cx, iv fx, iv cnt, iv ia, iv fl, rv bA, jv r8, .second, jv (((1 : Int64) <<< (((8 : Int32) * cnt) &&& 0x3f).toInt64) - (1 : Int64)), .second] [(.int (f_keeps bA (2 : Int32) ia cnt fl fP))])) (fun t k => st49 t k) ?_
    have hc315 : ¬ ((f_keeps bA (2 : Int32) ia cnt fl fP) = (0 : Int32)) := own_keep _ wv hA0 hc0 hsum hfP (by decide) hall
    refine Wk.go (A' := T49.setTop (mkF m 318 #[iv ax, jv wv, .second, iv cx, iv fx, iv cnt, iv ia, iv fl, rv bA, jv r8, .second, jv (((1 : Int64) <<< (((8 : Int32) * cnt) &&& 0x3f).toInt64) - (1 : Int64)), .second] [])) (fun t k => XS.ifNo X49.here hx rfl (hb hby at_315) rfl ((if0 _ _).trans (feq hc315).1) k) ?_
    refine Wk.go (A' := T49.setTop (mkF m 320 #[iv ax, jv wv, .second, iv cx, iv fx, iv cnt, iv ia, iv fl, rv bA, jv r8, .second, jv (((1 : Int64) <<< (((8 : Int32) * cnt) &&& 0x3f).toInt64) - (1 : Int64)), .second] [(.ref bA)])) (fun t k => XS.aload X49.here hx rfl (hb hby at_318) rfl rfl k) ?_
    refine Wk.go (A' := T49.setTop (mkF m 321 #[iv ax, jv wv, .second, iv cx, iv fx, iv cnt, iv ia, iv fl, rv bA, jv r8, .second, jv (((1 : Int64) <<< (((8 : Int32) * cnt) &&& 0x3f).toInt64) - (1 : Int64)), .second] [(.int (3 : Int32)), (.ref bA)])) (fun t k => XS.iconst X49.here hx rfl (hb hby at_320) k) ?_
    refine Wk.go (A' := T49.setTop (mkF m 323 #[iv ax, jv wv, .second, iv cx, iv fx, iv cnt, iv ia, iv fl, rv bA, jv r8, .second, jv (((1 : Int64) <<< (((8 : Int32) * cnt) &&& 0x3f).toInt64) - (1 : Int64)), .second] [(.int ia), (.int (3 : Int32)), (.ref bA)])) (fun t k => XS.iload X49.here hx rfl (hb hby at_321) rfl k) ?_
    refine Wk.go (A' := T49.setTop (mkF m 325 #[iv ax, jv wv, .second, iv cx, iv fx, iv cnt, iv ia, iv fl, rv bA, jv r8, .second, jv (((1 : Int64) <<< (((8 : Int32) * cnt) &&& 0x3f).toInt64) - (1 : Int64)), .second] [(.int cnt), (.int ia), (.int (3 : Int32)), (.ref bA)])) (fun t k => XS.iload X49.here hx rfl (hb hby at_323) rfl k) ?_
    refine Wk.go (A' := T49.setTop (mkF m 327 #[iv ax, jv wv, .second, iv cx, iv fx, iv cnt, iv ia, iv fl, rv bA, jv r8, .second, jv (((1 : Int64) <<< (((8 : Int32) * cnt) &&& 0x3f).toInt64) - (1 : Int64)), .second] [(.int fl), (.int cnt), (.int ia), (.int (3 : Int32)), (.ref bA)])) (fun t k => XS.iload X49.here hx rfl (hb hby at_325) rfl k) ?_
    obtain ⟨_, _, ⟨T50, L50, k50, n50⟩, -, X50, ⟨Lc50, hQ50, l50, y50, z50⟩, st50⟩ := Jvm.LawKit.callS X49 hx (y := (⟨"com/example/pledge/pledge/log/PayloadWriterPutBigEndianPinLaw", "keeps", "([BIIIB)Z"⟩ : MethodName)) hown (mvT hZ (tw11 hw)) (mvT hZ (tw12 hw)) (mvT hZ (tw8 hw)) (mvT hZ (tw13 hw)) (by decide) (backOf (W := 0) (rm3 l Z a0 hw [] bA (3 : Int32) ia cnt fl fP T26.heap n0 Zp26 Vq26 (by decide)) hZ (tw13 hw) (tw8 hw) (by decide) (by decide)) (g := (mkF m 327 #[iv ax, jv wv, .second, iv cx, iv fx, iv cnt, iv ia, iv fl, rv bA, jv r8, .second, jv (((1 : Int64) <<< (((8 : Int32) * cnt) &&& 0x3f).toInt64) - (1 : Int64)), .second] [(.int fl), (.int cnt), (.int ia), (.int (3 : Int32)), (.ref bA)])) rfl (by rw [hml]; rfl) (argsL := [(.ref bA), (.int (3 : Int32)), (.int ia), (.int cnt), (.int fl)]) (rest := []) (lenOf pd_2 rfl) rfl (by show 2 * 0 + _ ≤ _; exact Nat.le_of_eq rfl) (hb hby at_327) (fun _ _ => ⟨rfl, (hE49), (by decide : 1 + 0 ≤ _), (by decide : 12 + 0 ≤ _)⟩)
    dsimp only [Pt.U, Pt.locs, Pt.cells, Pt.slots] at X50 l50 y50 z50 st50 hQ50
    subst y50 z50
    obtain ⟨rfl, N50q, hE50⟩ := hQ50
    have N50 : Fr n0 L50 := l50 ▸ Fr.app N49 N50q
    refine Wk.go (A' := T50.setTop (mkF m 330 #[iv ax, jv wv, .second, iv cx, iv fx, iv cnt, iv ia, iv fl, rv bA, jv r8, .second, jv (((1 : Int64) <<< (((8 : Int32) * cnt) &&& 0x3f).toInt64) - (1 : Int64)), .second] [(.int (f_keeps bA (3 : Int32) ia cnt fl fP))])) (fun t k => st50 t k) ?_
    have hc330 : ¬ ((f_keeps bA (3 : Int32) ia cnt fl fP) = (0 : Int32)) := own_keep _ wv hA0 hc0 hsum hfP (by decide) hall
    refine Wk.go (A' := T50.setTop (mkF m 333 #[iv ax, jv wv, .second, iv cx, iv fx, iv cnt, iv ia, iv fl, rv bA, jv r8, .second, jv (((1 : Int64) <<< (((8 : Int32) * cnt) &&& 0x3f).toInt64) - (1 : Int64)), .second] [])) (fun t k => XS.ifNo X50.here hx rfl (hb hby at_330) rfl ((if0 _ _).trans (feq hc330).1) k) ?_
    refine Wk.go (A' := T50.setTop (mkF m 335 #[iv ax, jv wv, .second, iv cx, iv fx, iv cnt, iv ia, iv fl, rv bA, jv r8, .second, jv (((1 : Int64) <<< (((8 : Int32) * cnt) &&& 0x3f).toInt64) - (1 : Int64)), .second] [(.ref bA)])) (fun t k => XS.aload X50.here hx rfl (hb hby at_333) rfl rfl k) ?_
    refine Wk.go (A' := T50.setTop (mkF m 336 #[iv ax, jv wv, .second, iv cx, iv fx, iv cnt, iv ia, iv fl, rv bA, jv r8, .second, jv (((1 : Int64) <<< (((8 : Int32) * cnt) &&& 0x3f).toInt64) - (1 : Int64)), .second] [(.int (4 : Int32)), (.ref bA)])) (fun t k => XS.iconst X50.here hx rfl (hb hby at_335) k) ?_
    refine Wk.go (A' := T50.setTop (mkF m 338 #[iv ax, jv wv, .second, iv cx, iv fx, iv cnt, iv ia, iv fl, rv bA, jv r8, .second, jv (((1 : Int64) <<< (((8 : Int32) * cnt) &&& 0x3f).toInt64) - (1 : Int64)), .second] [(.int ia), (.int (4 : Int32)), (.ref bA)])) (fun t k => XS.iload X50.here hx rfl (hb hby at_336) rfl k) ?_
    refine Wk.go (A' := T50.setTop (mkF m 340 #[iv ax, jv wv, .second, iv cx, iv fx, iv cnt, iv ia, iv fl, rv bA, jv r8, .second, jv (((1 : Int64) <<< (((8 : Int32) * cnt) &&& 0x3f).toInt64) - (1 : Int64)), .second] [(.int cnt), (.int ia), (.int (4 : Int32)), (.ref bA)])) (fun t k => XS.iload X50.here hx rfl (hb hby at_338) rfl k) ?_
    refine Wk.go (A' := T50.setTop (mkF m 342 #[iv ax, jv wv, .second, iv cx, iv fx, iv cnt, iv ia, iv fl, rv bA, jv r8, .second, jv (((1 : Int64) <<< (((8 : Int32) * cnt) &&& 0x3f).toInt64) - (1 : Int64)), .second] [(.int fl), (.int cnt), (.int ia), (.int (4 : Int32)), (.ref bA)])) (fun t k => XS.iload X50.here hx rfl (hb hby at_340) rfl k) ?_
    obtain ⟨_, _, ⟨T51, L51, k51, n51⟩, -, X51, ⟨Lc51, hQ51, l51, y51, z51⟩, st51⟩ := Jvm.LawKit.callS X50 hx (y := (⟨"com/example/pledge/pledge/log/PayloadWriterPutBigEndianPinLaw", "keeps", "([BIIIB)Z"⟩ : MethodName)) hown (mvT hZ (tw11 hw)) (mvT hZ (tw12 hw)) (mvT hZ (tw8 hw)) (mvT hZ (tw13 hw)) (by decide) (backOf (W := 0) (rm3 l Z a0 hw [] bA (4 : Int32) ia cnt fl fP T26.heap n0 Zp26 Vq26 (by decide)) hZ (tw13 hw) (tw8 hw) (by decide) (by decide)) (g := (mkF m 342 #[iv ax, jv wv, .second, iv cx, iv fx, iv cnt, iv ia, iv fl, rv bA, jv r8, .second, jv (((1 : Int64) <<< (((8 : Int32) * cnt) &&& 0x3f).toInt64) - (1 : Int64)), .second] [(.int fl), (.int cnt), (.int ia), (.int (4 : Int32)), (.ref bA)])) rfl (by rw [hml]; rfl) (argsL := [(.ref bA), (.int (4 : Int32)), (.int ia), (.int cnt), (.int fl)]) (rest := []) (lenOf pd_2 rfl) rfl (by show 2 * 0 + _ ≤ _; exact Nat.le_of_eq rfl) (hb hby at_342) (fun _ _ => ⟨rfl, (hE50), (by decide : 1 + 0 ≤ _), (by decide : 12 + 0 ≤ _)⟩)
    dsimp only [Pt.U, Pt.locs, Pt.cells, Pt.slots] at X51 l51 y51 z51 st51 hQ51
    subst y51 z51
    obtain ⟨rfl, N51q, hE51⟩ := hQ51
    have N51 : Fr n0 L51 := l51 ▸ Fr.app N50 N51q
    refine Wk.go (A' := T51.setTop (mkF m 345 #[iv ax, jv wv, .second, iv cx, iv fx, iv cnt, iv ia, iv fl, rv bA, jv r8, .second, jv (((1 : Int64) <<< (((8 : Int32) * cnt) &&& 0x3f).toInt64) - (1 : Int64)), .second] [(.int (f_keeps bA (4 : Int32) ia cnt fl fP))])) (fun t k => st51 t k) ?_
    have hc345 : ¬ ((f_keeps bA (4 : Int32) ia cnt fl fP) = (0 : Int32)) := own_keep _ wv hA0 hc0 hsum hfP (by decide) hall
    refine Wk.go (A' := T51.setTop (mkF m 348 #[iv ax, jv wv, .second, iv cx, iv fx, iv cnt, iv ia, iv fl, rv bA, jv r8, .second, jv (((1 : Int64) <<< (((8 : Int32) * cnt) &&& 0x3f).toInt64) - (1 : Int64)), .second] [])) (fun t k => XS.ifNo X51.here hx rfl (hb hby at_345) rfl ((if0 _ _).trans (feq hc345).1) k) ?_
    refine Wk.go (A' := T51.setTop (mkF m 350 #[iv ax, jv wv, .second, iv cx, iv fx, iv cnt, iv ia, iv fl, rv bA, jv r8, .second, jv (((1 : Int64) <<< (((8 : Int32) * cnt) &&& 0x3f).toInt64) - (1 : Int64)), .second] [(.ref bA)])) (fun t k => XS.aload X51.here hx rfl (hb hby at_348) rfl rfl k) ?_
    refine Wk.go (A' := T51.setTop (mkF m 351 #[iv ax, jv wv, .second, iv cx, iv fx, iv cnt, iv ia, iv fl, rv bA, jv r8, .second, jv (((1 : Int64) <<< (((8 : Int32) * cnt) &&& 0x3f).toInt64) - (1 : Int64)), .second] [(.int (5 : Int32)), (.ref bA)])) (fun t k => XS.iconst X51.here hx rfl (hb hby at_350) k) ?_
    refine Wk.go (A' := T51.setTop (mkF m 353 #[iv ax, jv wv, .second, iv cx, iv fx, iv cnt, iv ia, iv fl, rv bA, jv r8, .second, jv (((1 : Int64) <<< (((8 : Int32) * cnt) &&& 0x3f).toInt64) - (1 : Int64)), .second] [(.int ia), (.int (5 : Int32)), (.ref bA)])) (fun t k => XS.iload X51.here hx rfl (hb hby at_351) rfl k) ?_
    refine Wk.go (A' := T51.setTop (mkF m 355 #[iv ax, jv wv, .second, iv cx, iv fx, iv cnt, iv ia, iv fl, rv bA, jv r8, .second, jv (((1 : Int64) <<< (((8 : Int32) * cnt) &&& 0x3f).toInt64) - (1 : Int64)), .second] [(.int cnt), (.int ia), (.int (5 : Int32)), (.ref bA)])) (fun t k => XS.iload X51.here hx rfl (hb hby at_353) rfl k) ?_
    refine Wk.go (A' := T51.setTop (mkF m 357 #[iv ax, jv wv, .second, iv cx, iv fx, iv cnt, iv ia, iv fl, rv bA, jv r8, .second, jv (((1 : Int64) <<< (((8 : Int32) * cnt) &&& 0x3f).toInt64) - (1 : Int64)), .second] [(.int fl), (.int cnt), (.int ia), (.int (5 : Int32)), (.ref bA)])) (fun t k => XS.iload X51.here hx rfl (hb hby at_355) rfl k) ?_
    obtain ⟨_, _, ⟨T52, L52, k52, n52⟩, -, X52, ⟨Lc52, hQ52, l52, y52, z52⟩, st52⟩ := Jvm.LawKit.callS X51 hx (y := (⟨"com/example/pledge/pledge/log/PayloadWriterPutBigEndianPinLaw", "keeps", "([BIIIB)Z"⟩ : MethodName)) hown (mvT hZ (tw11 hw)) (mvT hZ (tw12 hw)) (mvT hZ (tw8 hw)) (mvT hZ (tw13 hw)) (by decide) (backOf (W := 0) (rm3 l Z a0 hw [] bA (5 : Int32) ia cnt fl fP T26.heap n0 Zp26 Vq26 (by decide)) hZ (tw13 hw) (tw8 hw) (by decide) (by decide)) (g := (mkF m 357 #[iv ax, jv wv, .second, iv cx, iv fx, iv cnt, iv ia, iv fl, rv bA, jv r8, .second, jv (((1 : Int64) <<< (((8 : Int32) * cnt) &&& 0x3f).toInt64) - (1 : Int64)), .second] [(.int fl), (.int cnt), (.int ia), (.int (5 : Int32)), (.ref bA)])) rfl (by rw [hml]; rfl) (argsL := [(.ref bA), (.int (5 : Int32)), (.int ia), (.int cnt), (.int fl)]) (rest := []) (lenOf pd_2 rfl) rfl (by show 2 * 0 + _ ≤ _; exact Nat.le_of_eq rfl) (hb hby at_357) (fun _ _ => ⟨rfl, (hE51), (by decide : 1 + 0 ≤ _), (by decide : 12 + 0 ≤ _)⟩)
    dsimp only [Pt.U, Pt.locs, Pt.cells, Pt.slots] at X52 l52 y52 z52 st52 hQ52
    subst y52 z52
    obtain ⟨rfl, N52q, hE52⟩ := hQ52
    have N52 : Fr n0 L52 := l52 ▸ Fr.app N51 N52q
    refine Wk.go (A' := T52.setTop (mkF m 360 #[iv ax, jv wv, .second, iv cx, iv fx, iv cnt, iv ia, iv fl, rv bA, jv r8, .second, jv (((1 : Int64) <<< (((8 : Int32) * cnt) &&& 0x3f).toInt64) - (1 : Int64)), .second] [(.int (f_keeps bA (5 : Int32) ia cnt fl fP))])) (fun t k => st52 t k) ?_
    have hc360 : ¬ ((f_keeps bA (5 : Int32) ia cnt fl fP) = (0 : Int32)) := own_keep _ wv hA0 hc0 hsum hfP (by decide) hall
    refine Wk.go (A' := T52.setTop (mkF m 363 #[iv ax, jv wv, .second, iv cx, iv fx, iv cnt, iv ia, iv fl, rv bA, jv r8, .second, jv (((1 : Int64) <<< (((8 : Int32) * cnt) &&& 0x3f).toInt64) - (1 : Int64)), .second] [])) (fun t k => XS.ifNo X52.here hx rfl (hb hby at_360) rfl ((if0 _ _).trans (feq hc360).1) k) ?_
    refine Wk.go (A' := T52.setTop (mkF m 365 #[iv ax, jv wv, .second, iv cx, iv fx, iv cnt, iv ia, iv fl, rv bA, jv r8, .second, jv (((1 : Int64) <<< (((8 : Int32) * cnt) &&& 0x3f).toInt64) - (1 : Int64)), .second] [(.ref bA)])) (fun t k => XS.aload X52.here hx rfl (hb hby at_363) rfl rfl k) ?_
    refine Wk.go (A' := T52.setTop (mkF m 367 #[iv ax, jv wv, .second, iv cx, iv fx, iv cnt, iv ia, iv fl, rv bA, jv r8, .second, jv (((1 : Int64) <<< (((8 : Int32) * cnt) &&& 0x3f).toInt64) - (1 : Int64)), .second] [(.int (6 : Int32)), (.ref bA)])) (fun t k => XS.bipush X52.here hx rfl (hb hby at_365) k) ?_
    refine Wk.go (A' := T52.setTop (mkF m 369 #[iv ax, jv wv, .second, iv cx, iv fx, iv cnt, iv ia, iv fl, rv bA, jv r8, .second, jv (((1 : Int64) <<< (((8 : Int32) * cnt) &&& 0x3f).toInt64) - (1 : Int64)), .second] [(.int ia), (.int (6 : Int32)), (.ref bA)])) (fun t k => XS.iload X52.here hx rfl (hb hby at_367) rfl k) ?_
    refine Wk.go (A' := T52.setTop (mkF m 371 #[iv ax, jv wv, .second, iv cx, iv fx, iv cnt, iv ia, iv fl, rv bA, jv r8, .second, jv (((1 : Int64) <<< (((8 : Int32) * cnt) &&& 0x3f).toInt64) - (1 : Int64)), .second] [(.int cnt), (.int ia), (.int (6 : Int32)), (.ref bA)])) (fun t k => XS.iload X52.here hx rfl (hb hby at_369) rfl k) ?_
    refine Wk.go (A' := T52.setTop (mkF m 373 #[iv ax, jv wv, .second, iv cx, iv fx, iv cnt, iv ia, iv fl, rv bA, jv r8, .second, jv (((1 : Int64) <<< (((8 : Int32) * cnt) &&& 0x3f).toInt64) - (1 : Int64)), .second] [(.int fl), (.int cnt), (.int ia), (.int (6 : Int32)), (.ref bA)])) (fun t k => XS.iload X52.here hx rfl (hb hby at_371) rfl k) ?_
    obtain ⟨_, _, ⟨T53, L53, k53, n53⟩, -, X53, ⟨Lc53, hQ53, l53, y53, z53⟩, st53⟩ := Jvm.LawKit.callS X52 hx (y := (⟨"com/example/pledge/pledge/log/PayloadWriterPutBigEndianPinLaw", "keeps", "([BIIIB)Z"⟩ : MethodName)) hown (mvT hZ (tw11 hw)) (mvT hZ (tw12 hw)) (mvT hZ (tw8 hw)) (mvT hZ (tw13 hw)) (by decide) (backOf (W := 0) (rm3 l Z a0 hw [] bA (6 : Int32) ia cnt fl fP T26.heap n0 Zp26 Vq26 (by decide)) hZ (tw13 hw) (tw8 hw) (by decide) (by decide)) (g := (mkF m 373 #[iv ax, jv wv, .second, iv cx, iv fx, iv cnt, iv ia, iv fl, rv bA, jv r8, .second, jv (((1 : Int64) <<< (((8 : Int32) * cnt) &&& 0x3f).toInt64) - (1 : Int64)), .second] [(.int fl), (.int cnt), (.int ia), (.int (6 : Int32)), (.ref bA)])) rfl (by rw [hml]; rfl) (argsL := [(.ref bA), (.int (6 : Int32)), (.int ia), (.int cnt), (.int fl)]) (rest := []) (lenOf pd_2 rfl) rfl (by show 2 * 0 + _ ≤ _; exact Nat.le_of_eq rfl) (hb hby at_373) (fun _ _ => ⟨rfl, (hE52), (by decide : 1 + 0 ≤ _), (by decide : 12 + 0 ≤ _)⟩)
    dsimp only [Pt.U, Pt.locs, Pt.cells, Pt.slots] at X53 l53 y53 z53 st53 hQ53
    subst y53 z53
    obtain ⟨rfl, N53q, hE53⟩ := hQ53
    have N53 : Fr n0 L53 := l53 ▸ Fr.app N52 N53q
    refine Wk.go (A' := T53.setTop (mkF m 376 #[iv ax, jv wv, .second, iv cx, iv fx, iv cnt, iv ia, iv fl, rv bA, jv r8, .second, jv (((1 : Int64) <<< (((8 : Int32) * cnt) &&& 0x3f).toInt64) - (1 : Int64)), .second] [(.int (f_keeps bA (6 : Int32) ia cnt fl fP))])) (fun t k => st53 t k) ?_
    have hc376 : ¬ ((f_keeps bA (6 : Int32) ia cnt fl fP) = (0 : Int32)) := own_keep _ wv hA0 hc0 hsum hfP (by decide) hall
    refine Wk.go (A' := T53.setTop (mkF m 379 #[iv ax, jv wv, .second, iv cx, iv fx, iv cnt, iv ia, iv fl, rv bA, jv r8, .second, jv (((1 : Int64) <<< (((8 : Int32) * cnt) &&& 0x3f).toInt64) - (1 : Int64)), .second] [])) (fun t k => XS.ifNo X53.here hx rfl (hb hby at_376) rfl ((if0 _ _).trans (feq hc376).1) k) ?_
    refine Wk.go (A' := T53.setTop (mkF m 381 #[iv ax, jv wv, .second, iv cx, iv fx, iv cnt, iv ia, iv fl, rv bA, jv r8, .second, jv (((1 : Int64) <<< (((8 : Int32) * cnt) &&& 0x3f).toInt64) - (1 : Int64)), .second] [(.ref bA)])) (fun t k => XS.aload X53.here hx rfl (hb hby at_379) rfl rfl k) ?_
    refine Wk.go (A' := T53.setTop (mkF m 383 #[iv ax, jv wv, .second, iv cx, iv fx, iv cnt, iv ia, iv fl, rv bA, jv r8, .second, jv (((1 : Int64) <<< (((8 : Int32) * cnt) &&& 0x3f).toInt64) - (1 : Int64)), .second] [(.int (7 : Int32)), (.ref bA)])) (fun t k => XS.bipush X53.here hx rfl (hb hby at_381) k) ?_
    refine Wk.go (A' := T53.setTop (mkF m 385 #[iv ax, jv wv, .second, iv cx, iv fx, iv cnt, iv ia, iv fl, rv bA, jv r8, .second, jv (((1 : Int64) <<< (((8 : Int32) * cnt) &&& 0x3f).toInt64) - (1 : Int64)), .second] [(.int ia), (.int (7 : Int32)), (.ref bA)])) (fun t k => XS.iload X53.here hx rfl (hb hby at_383) rfl k) ?_
    refine Wk.go (A' := T53.setTop (mkF m 387 #[iv ax, jv wv, .second, iv cx, iv fx, iv cnt, iv ia, iv fl, rv bA, jv r8, .second, jv (((1 : Int64) <<< (((8 : Int32) * cnt) &&& 0x3f).toInt64) - (1 : Int64)), .second] [(.int cnt), (.int ia), (.int (7 : Int32)), (.ref bA)])) (fun t k => XS.iload X53.here hx rfl (hb hby at_385) rfl k) ?_
    refine Wk.go (A' := T53.setTop (mkF m 389 #[iv ax, jv wv, .second, iv cx, iv fx, iv cnt, iv ia, iv fl, rv bA, jv r8, .second, jv (((1 : Int64) <<< (((8 : Int32) * cnt) &&& 0x3f).toInt64) - (1 : Int64)), .second] [(.int fl), (.int cnt), (.int ia), (.int (7 : Int32)), (.ref bA)])) (fun t k => XS.iload X53.here hx rfl (hb hby at_387) rfl k) ?_
    obtain ⟨_, _, ⟨T54, L54, k54, n54⟩, -, X54, ⟨Lc54, hQ54, l54, y54, z54⟩, st54⟩ := Jvm.LawKit.callS X53 hx (y := (⟨"com/example/pledge/pledge/log/PayloadWriterPutBigEndianPinLaw", "keeps", "([BIIIB)Z"⟩ : MethodName)) hown (mvT hZ (tw11 hw)) (mvT hZ (tw12 hw)) (mvT hZ (tw8 hw)) (mvT hZ (tw13 hw)) (by decide) (backOf (W := 0) (rm3 l Z a0 hw [] bA (7 : Int32) ia cnt fl fP T26.heap n0 Zp26 Vq26 (by decide)) hZ (tw13 hw) (tw8 hw) (by decide) (by decide)) (g := (mkF m 389 #[iv ax, jv wv, .second, iv cx, iv fx, iv cnt, iv ia, iv fl, rv bA, jv r8, .second, jv (((1 : Int64) <<< (((8 : Int32) * cnt) &&& 0x3f).toInt64) - (1 : Int64)), .second] [(.int fl), (.int cnt), (.int ia), (.int (7 : Int32)), (.ref bA)])) rfl (by rw [hml]; rfl) (argsL := [(.ref bA), (.int (7 : Int32)), (.int ia), (.int cnt), (.int fl)]) (rest := []) (lenOf pd_2 rfl) rfl (by show 2 * 0 + _ ≤ _; exact Nat.le_of_eq rfl) (hb hby at_389) (fun _ _ => ⟨rfl, (hE53), (by decide : 1 + 0 ≤ _), (by decide : 12 + 0 ≤ _)⟩)
    dsimp only [Pt.U, Pt.locs, Pt.cells, Pt.slots] at X54 l54 y54 z54 st54 hQ54
    subst y54 z54
    obtain ⟨rfl, N54q, hE54⟩ := hQ54
    have N54 : Fr n0 L54 := l54 ▸ Fr.app N53 N54q
    refine Wk.go (A' := T54.setTop (mkF m 392 #[iv ax, jv wv, .second, iv cx, iv fx, iv cnt, iv ia, iv fl, rv bA, jv r8, .second, jv (((1 : Int64) <<< (((8 : Int32) * cnt) &&& 0x3f).toInt64) - (1 : Int64)), .second] [(.int (f_keeps bA (7 : Int32) ia cnt fl fP))])) (fun t k => st54 t k) ?_
    have hc392 : ¬ ((f_keeps bA (7 : Int32) ia cnt fl fP) = (0 : Int32)) := own_keep _ wv hA0 hc0 hsum hfP (by decide) hall
    refine Wk.go (A' := T54.setTop (mkF m 395 #[iv ax, jv wv, .second, iv cx, iv fx, iv cnt, iv ia, iv fl, rv bA, jv r8, .second, jv (((1 : Int64) <<< (((8 : Int32) * cnt) &&& 0x3f).toInt64) - (1 : Int64)), .second] [])) (fun t k => XS.ifNo X54.here hx rfl (hb hby at_392) rfl ((if0 _ _).trans (feq hc392).1) k) ?_
    refine Wk.go (A' := T54.setTop (mkF m 397 #[iv ax, jv wv, .second, iv cx, iv fx, iv cnt, iv ia, iv fl, rv bA, jv r8, .second, jv (((1 : Int64) <<< (((8 : Int32) * cnt) &&& 0x3f).toInt64) - (1 : Int64)), .second] [(.ref bA)])) (fun t k => XS.aload X54.here hx rfl (hb hby at_395) rfl rfl k) ?_
    refine Wk.go (A' := T54.setTop (mkF m 399 #[iv ax, jv wv, .second, iv cx, iv fx, iv cnt, iv ia, iv fl, rv bA, jv r8, .second, jv (((1 : Int64) <<< (((8 : Int32) * cnt) &&& 0x3f).toInt64) - (1 : Int64)), .second] [(.int (8 : Int32)), (.ref bA)])) (fun t k => XS.bipush X54.here hx rfl (hb hby at_397) k) ?_
    refine Wk.go (A' := T54.setTop (mkF m 401 #[iv ax, jv wv, .second, iv cx, iv fx, iv cnt, iv ia, iv fl, rv bA, jv r8, .second, jv (((1 : Int64) <<< (((8 : Int32) * cnt) &&& 0x3f).toInt64) - (1 : Int64)), .second] [(.int ia), (.int (8 : Int32)), (.ref bA)])) (fun t k => XS.iload X54.here hx rfl (hb hby at_399) rfl k) ?_
    refine Wk.go (A' := T54.setTop (mkF m 403 #[iv ax, jv wv, .second, iv cx, iv fx, iv cnt, iv ia, iv fl, rv bA, jv r8, .second, jv (((1 : Int64) <<< (((8 : Int32) * cnt) &&& 0x3f).toInt64) - (1 : Int64)), .second] [(.int cnt), (.int ia), (.int (8 : Int32)), (.ref bA)])) (fun t k => XS.iload X54.here hx rfl (hb hby at_401) rfl k) ?_
    refine Wk.go (A' := T54.setTop (mkF m 405 #[iv ax, jv wv, .second, iv cx, iv fx, iv cnt, iv ia, iv fl, rv bA, jv r8, .second, jv (((1 : Int64) <<< (((8 : Int32) * cnt) &&& 0x3f).toInt64) - (1 : Int64)), .second] [(.int fl), (.int cnt), (.int ia), (.int (8 : Int32)), (.ref bA)])) (fun t k => XS.iload X54.here hx rfl (hb hby at_403) rfl k) ?_
    obtain ⟨_, _, ⟨T55, L55, k55, n55⟩, -, X55, ⟨Lc55, hQ55, l55, y55, z55⟩, st55⟩ := Jvm.LawKit.callS X54 hx (y := (⟨"com/example/pledge/pledge/log/PayloadWriterPutBigEndianPinLaw", "keeps", "([BIIIB)Z"⟩ : MethodName)) hown (mvT hZ (tw11 hw)) (mvT hZ (tw12 hw)) (mvT hZ (tw8 hw)) (mvT hZ (tw13 hw)) (by decide) (backOf (W := 0) (rm3 l Z a0 hw [] bA (8 : Int32) ia cnt fl fP T26.heap n0 Zp26 Vq26 (by decide)) hZ (tw13 hw) (tw8 hw) (by decide) (by decide)) (g := (mkF m 405 #[iv ax, jv wv, .second, iv cx, iv fx, iv cnt, iv ia, iv fl, rv bA, jv r8, .second, jv (((1 : Int64) <<< (((8 : Int32) * cnt) &&& 0x3f).toInt64) - (1 : Int64)), .second] [(.int fl), (.int cnt), (.int ia), (.int (8 : Int32)), (.ref bA)])) rfl (by rw [hml]; rfl) (argsL := [(.ref bA), (.int (8 : Int32)), (.int ia), (.int cnt), (.int fl)]) (rest := []) (lenOf pd_2 rfl) rfl (by show 2 * 0 + _ ≤ _; exact Nat.le_of_eq rfl) (hb hby at_405) (fun _ _ => ⟨rfl, (hE54), (by decide : 1 + 0 ≤ _), (by decide : 12 + 0 ≤ _)⟩)
    dsimp only [Pt.U, Pt.locs, Pt.cells, Pt.slots] at X55 l55 y55 z55 st55 hQ55
    subst y55 z55
    obtain ⟨rfl, N55q, hE55⟩ := hQ55
    have N55 : Fr n0 L55 := l55 ▸ Fr.app N54 N55q
    refine Wk.go (A' := T55.setTop (mkF m 408 #[iv ax, jv wv, .second, iv cx, iv fx, iv cnt, iv ia, iv fl, rv bA, jv r8, .second, jv (((1 : Int64) <<< (((8 : Int32) * cnt) &&& 0x3f).toInt64) - (1 : Int64)), .second] [(.int (f_keeps bA (8 : Int32) ia cnt fl fP))])) (fun t k => st55 t k) ?_
    have hc408 : ¬ ((f_keeps bA (8 : Int32) ia cnt fl fP) = (0 : Int32)) := own_keep _ wv hA0 hc0 hsum hfP (by decide) hall
    refine Wk.go (A' := T55.setTop (mkF m 411 #[iv ax, jv wv, .second, iv cx, iv fx, iv cnt, iv ia, iv fl, rv bA, jv r8, .second, jv (((1 : Int64) <<< (((8 : Int32) * cnt) &&& 0x3f).toInt64) - (1 : Int64)), .second] [])) (fun t k => XS.ifNo X55.here hx rfl (hb hby at_408) rfl ((if0 _ _).trans (feq hc408).1) k) ?_
    refine Wk.go (A' := T55.setTop (mkF m 413 #[iv ax, jv wv, .second, iv cx, iv fx, iv cnt, iv ia, iv fl, rv bA, jv r8, .second, jv (((1 : Int64) <<< (((8 : Int32) * cnt) &&& 0x3f).toInt64) - (1 : Int64)), .second] [(.ref bA)])) (fun t k => XS.aload X55.here hx rfl (hb hby at_411) rfl rfl k) ?_
    refine Wk.go (A' := T55.setTop (mkF m 415 #[iv ax, jv wv, .second, iv cx, iv fx, iv cnt, iv ia, iv fl, rv bA, jv r8, .second, jv (((1 : Int64) <<< (((8 : Int32) * cnt) &&& 0x3f).toInt64) - (1 : Int64)), .second] [(.int (9 : Int32)), (.ref bA)])) (fun t k => XS.bipush X55.here hx rfl (hb hby at_413) k) ?_
    refine Wk.go (A' := T55.setTop (mkF m 417 #[iv ax, jv wv, .second, iv cx, iv fx, iv cnt, iv ia, iv fl, rv bA, jv r8, .second, jv (((1 : Int64) <<< (((8 : Int32) * cnt) &&& 0x3f).toInt64) - (1 : Int64)), .second] [(.int ia), (.int (9 : Int32)), (.ref bA)])) (fun t k => XS.iload X55.here hx rfl (hb hby at_415) rfl k) ?_
    refine Wk.go (A' := T55.setTop (mkF m 419 #[iv ax, jv wv, .second, iv cx, iv fx, iv cnt, iv ia, iv fl, rv bA, jv r8, .second, jv (((1 : Int64) <<< (((8 : Int32) * cnt) &&& 0x3f).toInt64) - (1 : Int64)), .second] [(.int cnt), (.int ia), (.int (9 : Int32)), (.ref bA)])) (fun t k => XS.iload X55.here hx rfl (hb hby at_417) rfl k) ?_
    refine Wk.go (A' := T55.setTop (mkF m 421 #[iv ax, jv wv, .second, iv cx, iv fx, iv cnt, iv ia, iv fl, rv bA, jv r8, .second, jv (((1 : Int64) <<< (((8 : Int32) * cnt) &&& 0x3f).toInt64) - (1 : Int64)), .second] [(.int fl), (.int cnt), (.int ia), (.int (9 : Int32)), (.ref bA)])) (fun t k => XS.iload X55.here hx rfl (hb hby at_419) rfl k) ?_
    obtain ⟨_, _, ⟨T56, L56, k56, n56⟩, -, X56, ⟨Lc56, hQ56, l56, y56, z56⟩, st56⟩ := Jvm.LawKit.callS X55 hx (y := (⟨"com/example/pledge/pledge/log/PayloadWriterPutBigEndianPinLaw", "keeps", "([BIIIB)Z"⟩ : MethodName)) hown (mvT hZ (tw11 hw)) (mvT hZ (tw12 hw)) (mvT hZ (tw8 hw)) (mvT hZ (tw13 hw)) (by decide) (backOf (W := 0) (rm3 l Z a0 hw [] bA (9 : Int32) ia cnt fl fP T26.heap n0 Zp26 Vq26 (by decide)) hZ (tw13 hw) (tw8 hw) (by decide) (by decide)) (g := (mkF m 421 #[iv ax, jv wv, .second, iv cx, iv fx, iv cnt, iv ia, iv fl, rv bA, jv r8, .second, jv (((1 : Int64) <<< (((8 : Int32) * cnt) &&& 0x3f).toInt64) - (1 : Int64)), .second] [(.int fl), (.int cnt), (.int ia), (.int (9 : Int32)), (.ref bA)])) rfl (by rw [hml]; rfl) (argsL := [(.ref bA), (.int (9 : Int32)), (.int ia), (.int cnt), (.int fl)]) (rest := []) (lenOf pd_2 rfl) rfl (by show 2 * 0 + _ ≤ _; exact Nat.le_of_eq rfl) (hb hby at_421) (fun _ _ => ⟨rfl, (hE55), (by decide : 1 + 0 ≤ _), (by decide : 12 + 0 ≤ _)⟩)
    dsimp only [Pt.U, Pt.locs, Pt.cells, Pt.slots] at X56 l56 y56 z56 st56 hQ56
    subst y56 z56
    obtain ⟨rfl, N56q, hE56⟩ := hQ56
    have N56 : Fr n0 L56 := l56 ▸ Fr.app N55 N56q
    refine Wk.go (A' := T56.setTop (mkF m 424 #[iv ax, jv wv, .second, iv cx, iv fx, iv cnt, iv ia, iv fl, rv bA, jv r8, .second, jv (((1 : Int64) <<< (((8 : Int32) * cnt) &&& 0x3f).toInt64) - (1 : Int64)), .second] [(.int (f_keeps bA (9 : Int32) ia cnt fl fP))])) (fun t k => st56 t k) ?_
    have hc424 : ¬ ((f_keeps bA (9 : Int32) ia cnt fl fP) = (0 : Int32)) := own_keep _ wv hA0 hc0 hsum hfP (by decide) hall
    refine Wk.go (A' := T56.setTop (mkF m 427 #[iv ax, jv wv, .second, iv cx, iv fx, iv cnt, iv ia, iv fl, rv bA, jv r8, .second, jv (((1 : Int64) <<< (((8 : Int32) * cnt) &&& 0x3f).toInt64) - (1 : Int64)), .second] [])) (fun t k => XS.ifNo X56.here hx rfl (hb hby at_424) rfl ((if0 _ _).trans (feq hc424).1) k) ?_
    refine Wk.go (A' := T56.setTop (mkF m 429 #[iv ax, jv wv, .second, iv cx, iv fx, iv cnt, iv ia, iv fl, rv bA, jv r8, .second, jv (((1 : Int64) <<< (((8 : Int32) * cnt) &&& 0x3f).toInt64) - (1 : Int64)), .second] [(.ref bA)])) (fun t k => XS.aload X56.here hx rfl (hb hby at_427) rfl rfl k) ?_
    refine Wk.go (A' := T56.setTop (mkF m 431 #[iv ax, jv wv, .second, iv cx, iv fx, iv cnt, iv ia, iv fl, rv bA, jv r8, .second, jv (((1 : Int64) <<< (((8 : Int32) * cnt) &&& 0x3f).toInt64) - (1 : Int64)), .second] [(.int (10 : Int32)), (.ref bA)])) (fun t k => XS.bipush X56.here hx rfl (hb hby at_429) k) ?_
    refine Wk.go (A' := T56.setTop (mkF m 433 #[iv ax, jv wv, .second, iv cx, iv fx, iv cnt, iv ia, iv fl, rv bA, jv r8, .second, jv (((1 : Int64) <<< (((8 : Int32) * cnt) &&& 0x3f).toInt64) - (1 : Int64)), .second] [(.int ia), (.int (10 : Int32)), (.ref bA)])) (fun t k => XS.iload X56.here hx rfl (hb hby at_431) rfl k) ?_
    refine Wk.go (A' := T56.setTop (mkF m 435 #[iv ax, jv wv, .second, iv cx, iv fx, iv cnt, iv ia, iv fl, rv bA, jv r8, .second, jv (((1 : Int64) <<< (((8 : Int32) * cnt) &&& 0x3f).toInt64) - (1 : Int64)), .second] [(.int cnt), (.int ia), (.int (10 : Int32)), (.ref bA)])) (fun t k => XS.iload X56.here hx rfl (hb hby at_433) rfl k) ?_
    refine Wk.go (A' := T56.setTop (mkF m 437 #[iv ax, jv wv, .second, iv cx, iv fx, iv cnt, iv ia, iv fl, rv bA, jv r8, .second, jv (((1 : Int64) <<< (((8 : Int32) * cnt) &&& 0x3f).toInt64) - (1 : Int64)), .second] [(.int fl), (.int cnt), (.int ia), (.int (10 : Int32)), (.ref bA)])) (fun t k => XS.iload X56.here hx rfl (hb hby at_435) rfl k) ?_
    obtain ⟨_, _, ⟨T57, L57, k57, n57⟩, -, X57, ⟨Lc57, hQ57, l57, y57, z57⟩, st57⟩ := Jvm.LawKit.callS X56 hx (y := (⟨"com/example/pledge/pledge/log/PayloadWriterPutBigEndianPinLaw", "keeps", "([BIIIB)Z"⟩ : MethodName)) hown (mvT hZ (tw11 hw)) (mvT hZ (tw12 hw)) (mvT hZ (tw8 hw)) (mvT hZ (tw13 hw)) (by decide) (backOf (W := 0) (rm3 l Z a0 hw [] bA (10 : Int32) ia cnt fl fP T26.heap n0 Zp26 Vq26 (by decide)) hZ (tw13 hw) (tw8 hw) (by decide) (by decide)) (g := (mkF m 437 #[iv ax, jv wv, .second, iv cx, iv fx, iv cnt, iv ia, iv fl, rv bA, jv r8, .second, jv (((1 : Int64) <<< (((8 : Int32) * cnt) &&& 0x3f).toInt64) - (1 : Int64)), .second] [(.int fl), (.int cnt), (.int ia), (.int (10 : Int32)), (.ref bA)])) rfl (by rw [hml]; rfl) (argsL := [(.ref bA), (.int (10 : Int32)), (.int ia), (.int cnt), (.int fl)]) (rest := []) (lenOf pd_2 rfl) rfl (by show 2 * 0 + _ ≤ _; exact Nat.le_of_eq rfl) (hb hby at_437) (fun _ _ => ⟨rfl, (hE56), (by decide : 1 + 0 ≤ _), (by decide : 12 + 0 ≤ _)⟩)
    dsimp only [Pt.U, Pt.locs, Pt.cells, Pt.slots] at X57 l57 y57 z57 st57 hQ57
    subst y57 z57
    obtain ⟨rfl, N57q, hE57⟩ := hQ57
    have N57 : Fr n0 L57 := l57 ▸ Fr.app N56 N57q
    refine Wk.go (A' := T57.setTop (mkF m 440 #[iv ax, jv wv, .second, iv cx, iv fx, iv cnt, iv ia, iv fl, rv bA, jv r8, .second, jv (((1 : Int64) <<< (((8 : Int32) * cnt) &&& 0x3f).toInt64) - (1 : Int64)), .second] [(.int (f_keeps bA (10 : Int32) ia cnt fl fP))])) (fun t k => st57 t k) ?_
    have hc440 : ¬ ((f_keeps bA (10 : Int32) ia cnt fl fP) = (0 : Int32)) := own_keep _ wv hA0 hc0 hsum hfP (by decide) hall
    refine Wk.go (A' := T57.setTop (mkF m 443 #[iv ax, jv wv, .second, iv cx, iv fx, iv cnt, iv ia, iv fl, rv bA, jv r8, .second, jv (((1 : Int64) <<< (((8 : Int32) * cnt) &&& 0x3f).toInt64) - (1 : Int64)), .second] [])) (fun t k => XS.ifNo X57.here hx rfl (hb hby at_440) rfl ((if0 _ _).trans (feq hc440).1) k) ?_
    refine Wk.go (A' := T57.setTop (mkF m 445 #[iv ax, jv wv, .second, iv cx, iv fx, iv cnt, iv ia, iv fl, rv bA, jv r8, .second, jv (((1 : Int64) <<< (((8 : Int32) * cnt) &&& 0x3f).toInt64) - (1 : Int64)), .second] [(.ref bA)])) (fun t k => XS.aload X57.here hx rfl (hb hby at_443) rfl rfl k) ?_
    refine Wk.go (A' := T57.setTop (mkF m 447 #[iv ax, jv wv, .second, iv cx, iv fx, iv cnt, iv ia, iv fl, rv bA, jv r8, .second, jv (((1 : Int64) <<< (((8 : Int32) * cnt) &&& 0x3f).toInt64) - (1 : Int64)), .second] [(.int (11 : Int32)), (.ref bA)])) (fun t k => XS.bipush X57.here hx rfl (hb hby at_445) k) ?_
    refine Wk.go (A' := T57.setTop (mkF m 449 #[iv ax, jv wv, .second, iv cx, iv fx, iv cnt, iv ia, iv fl, rv bA, jv r8, .second, jv (((1 : Int64) <<< (((8 : Int32) * cnt) &&& 0x3f).toInt64) - (1 : Int64)), .second] [(.int ia), (.int (11 : Int32)), (.ref bA)])) (fun t k => XS.iload X57.here hx rfl (hb hby at_447) rfl k) ?_
    refine Wk.go (A' := T57.setTop (mkF m 451 #[iv ax, jv wv, .second, iv cx, iv fx, iv cnt, iv ia, iv fl, rv bA, jv r8, .second, jv (((1 : Int64) <<< (((8 : Int32) * cnt) &&& 0x3f).toInt64) - (1 : Int64)), .second] [(.int cnt), (.int ia), (.int (11 : Int32)), (.ref bA)])) (fun t k => XS.iload X57.here hx rfl (hb hby at_449) rfl k) ?_
    refine Wk.go (A' := T57.setTop (mkF m 453 #[iv ax, jv wv, .second, iv cx, iv fx, iv cnt, iv ia, iv fl, rv bA, jv r8, .second, jv (((1 : Int64) <<< (((8 : Int32) * cnt) &&& 0x3f).toInt64) - (1 : Int64)), .second] [(.int fl), (.int cnt), (.int ia), (.int (11 : Int32)), (.ref bA)])) (fun t k => XS.iload X57.here hx rfl (hb hby at_451) rfl k) ?_
    obtain ⟨_, _, ⟨T58, L58, k58, n58⟩, -, X58, ⟨Lc58, hQ58, l58, y58, z58⟩, st58⟩ := Jvm.LawKit.callS X57 hx (y := (⟨"com/example/pledge/pledge/log/PayloadWriterPutBigEndianPinLaw", "keeps", "([BIIIB)Z"⟩ : MethodName)) hown (mvT hZ (tw11 hw)) (mvT hZ (tw12 hw)) (mvT hZ (tw8 hw)) (mvT hZ (tw13 hw)) (by decide) (backOf (W := 0) (rm3 l Z a0 hw [] bA (11 : Int32) ia cnt fl fP T26.heap n0 Zp26 Vq26 (by decide)) hZ (tw13 hw) (tw8 hw) (by decide) (by decide)) (g := (mkF m 453 #[iv ax, jv wv, .second, iv cx, iv fx, iv cnt, iv ia, iv fl, rv bA, jv r8, .second, jv (((1 : Int64) <<< (((8 : Int32) * cnt) &&& 0x3f).toInt64) - (1 : Int64)), .second] [(.int fl), (.int cnt), (.int ia), (.int (11 : Int32)), (.ref bA)])) rfl (by rw [hml]; rfl) (argsL := [(.ref bA), (.int (11 : Int32)), (.int ia), (.int cnt), (.int fl)]) (rest := []) (lenOf pd_2 rfl) rfl (by show 2 * 0 + _ ≤ _; exact Nat.le_of_eq rfl) (hb hby at_453) (fun _ _ => ⟨rfl, (hE57), (by decide : 1 + 0 ≤ _), (by decide : 12 + 0 ≤ _)⟩)
    dsimp only [Pt.U, Pt.locs, Pt.cells, Pt.slots] at X58 l58 y58 z58 st58 hQ58
    subst y58 z58
    obtain ⟨rfl, N58q, hE58⟩ := hQ58
    have N58 : Fr n0 L58 := l58 ▸ Fr.app N57 N58q
    refine Wk.go (A' := T58.setTop (mkF m 456 #[iv ax, jv wv, .second, iv cx, iv fx, iv cnt, iv ia, iv fl, rv bA, jv r8, .second, jv (((1 : Int64) <<< (((8 : Int32) * cnt) &&& 0x3f).toInt64) - (1 : Int64)), .second] [(.int (f_keeps bA (11 : Int32) ia cnt fl fP))])) (fun t k => st58 t k) ?_
    have hc456 : ¬ ((f_keeps bA (11 : Int32) ia cnt fl fP) = (0 : Int32)) := own_keep _ wv hA0 hc0 hsum hfP (by decide) hall
    refine Wk.go (A' := T58.setTop (mkF m 459 #[iv ax, jv wv, .second, iv cx, iv fx, iv cnt, iv ia, iv fl, rv bA, jv r8, .second, jv (((1 : Int64) <<< (((8 : Int32) * cnt) &&& 0x3f).toInt64) - (1 : Int64)), .second] [])) (fun t k => XS.ifNo X58.here hx rfl (hb hby at_456) rfl ((if0 _ _).trans (feq hc456).1) k) ?_
    refine Wk.go (A' := T58.setTop (mkF m 460 #[iv ax, jv wv, .second, iv cx, iv fx, iv cnt, iv ia, iv fl, rv bA, jv r8, .second, jv (((1 : Int64) <<< (((8 : Int32) * cnt) &&& 0x3f).toInt64) - (1 : Int64)), .second] [(.int (1 : Int32))])) (fun t k => XS.iconst X58.here hx rfl (hb hby at_459) k) ?_
    refine Wk.go (A' := T58.setTop (mkF m 464 #[iv ax, jv wv, .second, iv cx, iv fx, iv cnt, iv ia, iv fl, rv bA, jv r8, .second, jv (((1 : Int64) <<< (((8 : Int32) * cnt) &&& 0x3f).toInt64) - (1 : Int64)), .second] [(.int (1 : Int32))])) (fun t k => XS.goto X58.here hx rfl (pc0 := 460) (pc' := 464) rfl (hb hby at_460) (by decide) (by decide) k) ?_
    refine own_fin (Qv := Q0 Z ax wv cx fx h0 n0) (v := some (.int (1 : Int32))) X58 hlk (fun h => by rw [Bd.returns] at h; cases h) (fun fs hr => retN X58 hx (t := .boolean) Bd.returns (by simp) (hb hby at_464) hr) ?_ (by decide) (by decide)
    exact ⟨rfl, N58⟩
set_option maxRecDepth 65536 in
set_option maxHeartbeats 40000000 in
theorem comes_1 {Post : Tables → Env → Array Value → State → Outcome → State → Prop} (hpost : ∀ tb e args s v u, (limb_1_1.after args s (.returned v) u = true ∧ limb_1_2.after args s (.returned v) u = true ∧ True) → FrameEnd s (.returned v) u (Jvm.fieldLocs frame_1_writes args s ++ Jvm.arrayLocs frame_1_arrays args s ++ Jvm.staticLocs frame_1_statics s) 16 128 → Post tb e args s (.returned v) u) :
    ArmFor flags0 classFile x code maxLocals ret World_1 tables_1 room_1 Calls_1 rest_1 Pre_1 Post := by
  intro l hfl _ _ p e ha hc hk s m args below hf hA hF happ hP
  obtain ⟨hcalls, hrest, hpre⟩ := hP
  obtain ⟨-, -, -, hnamed, -, -, -, hat⟩ := (Spec.applies_iff hf).mp happ
  obtain ⟨hg, hn⟩ := and_e (Cond.before_iff.mp (show (Jvm.Cond.and given_1 narrow_1).before args s = true from hpre))
  obtain ⟨hcnt, g0⟩ := and_e hg
  obtain ⟨ga0, g1⟩ := and_e g0
  obtain ⟨ga1, g2⟩ := and_e g1
  obtain ⟨ga2, g3⟩ := and_e g2
  obtain ⟨w0, w1, w2, w3, rfl⟩ : ∃ w0 w1 w2 w3 : Value, args = #[w0, w1, w2, w3] := by
    have hs : args.size = 4 := by simpa [Cond.value, given_1] using hcnt
    obtain ⟨L⟩ := args
    match L, hs with
    | [w0, w1, w2, w3], _ => exact ⟨w0, w1, w2, w3, rfl⟩
  have hw := fun d (hd : d ∈ tables_1) => atoms_spec (ws := Jvm.Cond.code x code maxLocals ret :: tables_1) hat d (List.mem_cons_of_mem _ hd)
  obtain ⟨i0, ei0⟩ := is_v ga0
  obtain rfl : w0 = (.int i0) := Option.some.inj ei0
  obtain ⟨i1, ei1⟩ := isL_v ga1
  obtain rfl : w1 = (.long i1) := Option.some.inj ei1
  obtain ⟨i2, ei2⟩ := is_v ga2
  obtain rfl : w2 = (.int i2) := Option.some.inj ei2
  obtain ⟨i3, ei3⟩ := is_v g3
  obtain rfl : w3 = (.int i3) := Option.some.inj ei3
  obtain ⟨n, o, h1, h2, h3, _, L, rfl, ⟨rfl, N⟩, hq⟩ := rm0 l s _ hw tables_1 i0 i1 i2 i3  s.heap s.heap.size (Nat.le_refl _)  p e ha hc hk s m _ below hf ((Spec.applies_iff_loose hf).mp happ).1 ⟨rfl, State.Warmed39.refl s, rfl⟩ trivial
  refine ⟨n, _, h1, h2, h3, hpost _ _ _ _ _ _ ⟨Cond.after_iff.mpr rfl, Cond.after_iff.mpr (eq_i res_at (Term.int_eval (1)) rfl), trivial⟩ ⟨hq.1, hq.2.1, (hq.2.2.sift fun y hy => Or.inr (N y hy)).mono (by decide) (by decide)⟩⟩
theorem main_1_1 : Claimed_1_1 := comes_1 fun _ _ _ _ _ _ h hF => ⟨h.1, hF⟩
theorem main_1_2 : Claimed_1_2 := comes_1 fun _ _ _ _ _ _ h hF => ⟨h.2.1, hF⟩
end Jvm.Pilot.@@N@@
namespace Jvm.Pilot.@@N@@
open Jvm Jvm.ClassFile Sem Op Lib Jvm.Free Jvm.Stand Jvm.Pilot.@@N@@.Jvm.D
/-! MADE BY PROGRAM (witnessworld.py) out of the Statement's table words and the real class files: 9 classes; the members and pool entries that the words name. The judged class is class 1, her method 1. -/
namespace start1
open Jvm.ClassFile
def u (s : String) : CpInfo := .utf8 (stringToUtf16 s)
/-- a pool by its gaps: so many unusable entries, then the entry; so many at the end -/
def gap : Nat → List CpInfo → List CpInfo
  | 0, r => r
  | n + 1, r => .unusable :: gap n r
def poolList (es : List (Nat × CpInfo)) (last : Nat) : List CpInfo := es.foldr (fun e r => gap e.1 (e.2 :: r)) (gap last [])
def pool (es : List (Nat × CpInfo)) (last : Nat) : Array CpInfo := ⟨poolList es last⟩
def fileOf (pool : Array CpInfo) (this : Nat) (attrs : Array Attribute := #[]) (ms : Array MethodInfo := #[]) (fl : Nat := 33) (sup : Nat := 0) (ifs : Array Nat := #[]) (fds : Array FieldInfo := #[]) : ClassFile where
  minorVersion := 0
  majorVersion := 65
  constantPool := pool
  accessFlags := fl
  thisClass := this
  superClass := sup
  interfaces := ifs
  fields := fds
  methods := ms
  attributes := attrs
def plain (name : String) (sup : Option ClassId) : Class where
  name := name
  kind := .ordinary
  loader := none
  accessFlags := 33
  super := sup
  interfaces := #[]
  cf := none
  fields := #[]
  methods := #[]
  instanceTypes := #[]
  staticTypes := #[]
  resolved := #[]
  callSites := []
  init := .initialized
  statics := none
  mirror := none

def pool0 : Array CpInfo := pool [(5, u "<init>"), (0, u "()V"), (1, .class_ 10), (1, u "java/lang/Object")] 113

def k0m0 : Method := { name := "<init>", desc := "()V", sig := { parameters := [], returnType := none }, accessFlags := 1, code := none }
/-- java/lang/Object -/
def k0 : Class := { plain "java/lang/Object" none with
  accessFlags := 33
  interfaces := #[]
  cf := some (fileOf pool0 8 #[] #[{ accessFlags := 1, nameIndex := 5, descriptorIndex := 6, attributes := #[] }] 33 0 #[] #[])
  fields := #[]
  methods := #[k0m0]
  instanceTypes := #[]
  staticTypes := #[]
  resolved := Array.replicate 124 none
  statics := none }

def pool1 : Array CpInfo := pool [(2, .class_ 4), (1, u "java/lang/Object"), (0, u "<init>"), (0, u "()V"), (0, .integer 2147483647), (0, .methodref 9 10), (0, .class_ 11), (0, .nameAndType 12 13), (0, u "com/example/pledge/pledge/log/PayloadWriter"), (0, u "putBigEndian"), (0, u "([BIJI)V"), (0, .methodref 15 16), (0, .class_ 17), (0, .nameAndType 18 19), (0, u "com/example/pledge/pledge/log/PayloadWriterPutBigEndianPinLaw"), (0, u "step"), (0, u "(J[BIII)J"), (0, .long 18446744073709551615), (1, .methodref 15 23), (0, .nameAndType 24 25), (0, u "keeps"), (0, u "([BIIIB)Z"), (0, .long 255), (3, u "law"), (0, u "(IJII)Z")] 5

def k1m0 : Method := { name := "<init>", desc := "()V", sig := { parameters := [], returnType := none }, accessFlags := 1, code := none }
def k1c1 : Code := { maxStack := 6, maxLocals := 13, code := code, exceptionTable := #[], attributes := #[] }
def k1m1 : Method := { name := "law", desc := "(IJII)Z", sig := { parameters := [.int, .long, .int, .int], returnType := some .boolean }, accessFlags := 9, code := some k1c1 }
def k1c2 : Code := { maxStack := 6, maxLocals := 6, code := method_3_code, exceptionTable := #[], attributes := #[] }
def k1m2 : Method := { name := "step", desc := "(J[BIII)J", sig := { parameters := [.long, (.array .byte), .int, .int, .int], returnType := some .long }, accessFlags := 10, code := some k1c2 }
def k1c3 : Code := { maxStack := 3, maxLocals := 5, code := method_4_code, exceptionTable := #[], attributes := #[] }
def k1m3 : Method := { name := "keeps", desc := "([BIIIB)Z", sig := { parameters := [(.array .byte), .int, .int, .int, .byte], returnType := some .boolean }, accessFlags := 10, code := some k1c3 }
/-- com/example/pledge/pledge/log/PayloadWriterPutBigEndianPinLaw -/
def k1 : Class := { plain "com/example/pledge/pledge/log/PayloadWriterPutBigEndianPinLaw" (some 0) with
  accessFlags := 49
  interfaces := #[]
  cf := some (fileOf pool1 15 #[] #[{ accessFlags := 1, nameIndex := 5, descriptorIndex := 6, attributes := #[] }, { accessFlags := 9, nameIndex := 30, descriptorIndex := 31, attributes := #[] }, { accessFlags := 10, nameIndex := 18, descriptorIndex := 19, attributes := #[] }, { accessFlags := 10, nameIndex := 24, descriptorIndex := 25, attributes := #[] }] 49 2 #[] #[])
  fields := #[]
  methods := #[k1m0, k1m1, k1m2, k1m3]
  instanceTypes := #[]
  staticTypes := #[]
  resolved := Array.replicate 37 none
  statics := none }

def pool2 : Array CpInfo := pool [(2, .class_ 4), (1, u "java/lang/Object"), (0, u "<init>"), (0, u "()V"), (1, .class_ 10), (1, u "com/example/pledge/pledge/log/PayloadWriter"), (0, u "bytes"), (0, u "[B"), (8, u "putBigEndian"), (3, u "([BIJI)V"), (22, u "size"), (0, u "I")] 33

def k2m0 : Method := { name := "<init>", desc := "()V", sig := { parameters := [], returnType := none }, accessFlags := 1, code := none }
def k2c1 : Code := { maxStack := 7, maxLocals := 6, code := prog_106_method_9_code, exceptionTable := #[], attributes := #[] }
def k2m1 : Method := { name := "putBigEndian", desc := "([BIJI)V", sig := { parameters := [(.array .byte), .int, .long, .int], returnType := none }, accessFlags := 8, code := some k2c1 }
/-- com/example/pledge/pledge/log/PayloadWriter -/
def k2 : Class := { plain "com/example/pledge/pledge/log/PayloadWriter" (some 0) with
  accessFlags := 49
  interfaces := #[]
  cf := some (fileOf pool2 8 #[] #[{ accessFlags := 1, nameIndex := 5, descriptorIndex := 6, attributes := #[] }, { accessFlags := 8, nameIndex := 21, descriptorIndex := 25, attributes := #[] }] 49 2 #[] #[{ accessFlags := 2, nameIndex := 11, descriptorIndex := 12, attributes := #[] }, { accessFlags := 2, nameIndex := 48, descriptorIndex := 49, attributes := #[] }])
  fields := #[{ name := "bytes", type := (.array .byte), accessFlags := 2, slot := 0, constantValue := 0 }, { name := "size", type := .int, accessFlags := 2, slot := 1, constantValue := 0 }]
  methods := #[k2m0, k2m1]
  instanceTypes := #[(.array .byte), .int]
  staticTypes := #[]
  resolved := Array.replicate 83 none
  statics := none }

def pool3 : Array CpInfo := pool [(1, u "java/lang/Cloneable"), (0, .class_ 1), (0, u "java/lang/Object"), (0, .class_ 3)] 3

/-- java/lang/Cloneable -/
def k3 : Class := { plain "java/lang/Cloneable" (some 0) with
  accessFlags := 1537
  interfaces := #[]
  cf := some (fileOf pool3 2 #[] #[] 1537 4 #[] #[])
  fields := #[]
  methods := #[]
  instanceTypes := #[]
  staticTypes := #[]
  resolved := Array.replicate 8 none
  statics := none }

def pool4 : Array CpInfo := pool [(1, u "java/io/Serializable"), (0, .class_ 1), (0, u "java/lang/Object"), (0, .class_ 3)] 3

/-- java/io/Serializable -/
def k4 : Class := { plain "java/io/Serializable" (some 0) with
  accessFlags := 1537
  interfaces := #[]
  cf := some (fileOf pool4 2 #[] #[] 1537 4 #[] #[])
  fields := #[]
  methods := #[]
  instanceTypes := #[]
  staticTypes := #[]
  resolved := Array.replicate 8 none
  statics := none }

/-- the primitive byte -/
def k5 : Class := { plain "byte" none with kind := .primitive 'B', accessFlags := 0x411 }
/-- [B -/
def k6 : Class := { plain "[B" (some 0) with kind := .array 5 .byte, interfaces := #[3, 4], accessFlags := 1041 }

/-- the primitive int -/
def k7 : Class := { plain "int" none with kind := .primitive 'I', accessFlags := 0x411 }
/-- [I -/
def k8 : Class := { plain "[I" (some 0) with kind := .array 7 .int, interfaces := #[3, 4], accessFlags := 1041 }

def heap : Heap := #[]
def classes : Array Class := #[k0, k1, k2, k3, k4, k5, k6, k7, k8]
def interned : List (Array UInt16 × Addr) := []
def slotsUsed : Nat := 0
def theMethod : MethodId := ⟨1, 1⟩
def args0 : Array Value := #[.int 5, .long 7, .int 3, .int 9]
def aboutOver (below : List Frame) : State where
  vm := { classes := classes, interned := interned.toArray }
  heap := heap
  slotsUsed := slotsUsed
  threads := #[{ frames := .invoking theMethod args0 :: below }]
def below0 : List Frame := [.native { method := ⟨0, 0⟩, args := #[] }]
def about1 : State := aboutOver below0
def p0 : Program := .bare "" "" ""
def e0 : Env := launch0.env 0 0 0
theorem w_frames : about1.frames = Frame.invoking theMethod args0 :: below0 := rfl
set_option maxRecDepth 65536 in
theorem w_args : argsFit about1.vm theMethod args0 = true := by decide +kernel
set_option maxRecDepth 65536 in
theorem w_heap : heapFits about1 = true := by decide +kernel
set_option maxRecDepth 65536 in
theorem w_runnable : about1.curStatus? = some .runnable := by decide +kernel
set_option maxRecDepth 65536 in
theorem w_alone : about1.alone = true := by decide +kernel
set_option maxRecDepth 65536 in
theorem w_named : about1.methodNamed? x = some theMethod := by decide +kernel
set_option maxRecDepth 65536 in
theorem w_hears : about1.hears theMethod below0 = true := by decide +kernel
set_option maxRecDepth 65536 in
theorem w_ripe : about1.ripe theMethod args0 below0 = true := by decide +kernel
theorem w_running : about1.status = .running := rfl
set_option maxRecDepth 65536 in
theorem w_room : about1.hasRoom e0.platform room_1 = true :=
  launch0.hasRoom_least _ room_1 (by decide +kernel) (by decide +kernel) (by decide +kernel) (by decide +kernel) (by decide +kernel) (by decide +kernel)
theorem allAtoms_all (ts : List Jvm.Cond) (a : Array Jvm.Value) (st : Jvm.State) : (allAtoms ts).before a st = ts.all (fun c => c.before a st) := by
  induction ts with
  | nil => rfl
  | cons c t ih =>
    show (Jvm.Cond.and c (allAtoms t)).before a st = _
    rw [Jvm.Cond.before_and, ih, List.all_cons]
def words1 : List Jvm.Cond := Jvm.Cond.code x code maxLocals ret :: tables_1
/-- a 'code' word, met by the world's own term for the bytes: nothing is compared byte by byte -/
theorem code_word {y : MethodName} {bytes : ByteArray} {mx : Nat} {rt : Option FieldType} {a : Array Value} {s : State} {m : MethodId} {meth : Method} {c : Code} (h1 : s.methodNamed? y = some m) (h2 : s.vm.method? m = some meth) (h3 : meth.code = some c) (h4 : c.code = bytes)
    (h5 : (c.maxLocals == mx && c.exceptionTable.isEmpty && decide (c.maxStack ≤ mostOperands) && decide (meth.sig.returnType = rt) && !meth.locks && decide (parseMethodDescriptor y.desc = some meth.sig)) = true) : (Jvm.Cond.code y bytes mx rt).before a s = true := by
  simp only [Bool.and_eq_true, beq_iff_eq, Bool.not_eq_true', decide_eq_true_eq] at h5
  obtain ⟨⟨⟨⟨⟨g1, g2⟩, g3⟩, g4⟩, g5⟩, g6⟩ := h5
  simp [Cond.before, Cond.holds, Cond.value, h1, h2, h3, h4, g1, g2, g3, g4, g5, g6]
def isCode : Jvm.Cond → Bool
  | .code _ _ _ _ => true
  | _ => false
theorem all_split {L : List Jvm.Cond} {P : Jvm.Cond → Bool} (h1 : L.all (fun c => isCode c || P c) = true) (h2 : ∀ c ∈ L.filter isCode, P c = true) : L.all P = true := by
  refine List.all_eq_true.mpr fun c hc => ?_
  have h := List.all_eq_true.mp h1 c hc
  rcases Bool.eq_false_or_eq_true (isCode c) with hi | hi
  · exact h2 c (List.mem_filter.mpr ⟨hc, hi⟩)
  · simpa [hi] using h
set_option maxRecDepth 65536 in
theorem w_c0 : (Jvm.Cond.code x code maxLocals ret).before args0 about1 = true := code_word (m := ⟨1, 1⟩) (meth := k1m1) (c := k1c1) (by decide +kernel) rfl rfl rfl (by decide +kernel)
set_option maxRecDepth 65536 in
theorem w_c1 : (Jvm.Cond.code ({ cls := "com/example/pledge/pledge/log/PayloadWriter", name := "putBigEndian", desc := "([BIJI)V" } : Jvm.MethodName) prog_106_method_9_code (6 : Nat) (Option.none : Option Jvm.ClassFile.FieldType)).before args0 about1 = true := code_word (m := ⟨2, 1⟩) (meth := k2m1) (c := k2c1) (by decide +kernel) rfl rfl rfl (by decide +kernel)
set_option maxRecDepth 65536 in
theorem w_c2 : (Jvm.Cond.code ({ cls := "com/example/pledge/pledge/log/PayloadWriterPutBigEndianPinLaw", name := "step", desc := "(J[BIII)J" } : Jvm.MethodName) method_3_code (6 : Nat) (Option.some Jvm.ClassFile.FieldType.long)).before args0 about1 = true := code_word (m := ⟨1, 2⟩) (meth := k1m2) (c := k1c2) (by decide +kernel) rfl rfl rfl (by decide +kernel)
set_option maxRecDepth 65536 in
theorem w_c3 : (Jvm.Cond.code ({ cls := "com/example/pledge/pledge/log/PayloadWriterPutBigEndianPinLaw", name := "keeps", desc := "([BIIIB)Z" } : Jvm.MethodName) method_4_code (5 : Nat) (Option.some Jvm.ClassFile.FieldType.boolean)).before args0 about1 = true := code_word (m := ⟨1, 3⟩) (meth := k1m3) (c := k1c3) (by decide +kernel) rfl rfl rfl (by decide +kernel)
def codes1 : List Jvm.Cond := [Jvm.Cond.code x code maxLocals ret, Jvm.Cond.code ({ cls := "com/example/pledge/pledge/log/PayloadWriter", name := "putBigEndian", desc := "([BIJI)V" } : Jvm.MethodName) prog_106_method_9_code (6 : Nat) (Option.none : Option Jvm.ClassFile.FieldType), Jvm.Cond.code ({ cls := "com/example/pledge/pledge/log/PayloadWriterPutBigEndianPinLaw", name := "step", desc := "(J[BIII)J" } : Jvm.MethodName) method_3_code (6 : Nat) (Option.some Jvm.ClassFile.FieldType.long), Jvm.Cond.code ({ cls := "com/example/pledge/pledge/log/PayloadWriterPutBigEndianPinLaw", name := "keeps", desc := "([BIIIB)Z" } : Jvm.MethodName) method_4_code (5 : Nat) (Option.some Jvm.ClassFile.FieldType.boolean)]
set_option maxRecDepth 65536 in
theorem codes_eq : words1.filter isCode = codes1 := rfl
theorem w_codes : ∀ c ∈ words1.filter isCode, c.before args0 about1 = true := by
  rw [codes_eq]
  intro c hc
  simp only [codes1, List.mem_cons, List.not_mem_nil, or_false] at hc
  rcases hc with rfl | rfl | rfl | rfl
  · exact w_c0
  · exact w_c1
  · exact w_c2
  · exact w_c3
set_option maxRecDepth 65536 in
theorem w_t1 : words1.all (fun c => isCode c || c.before args0 about1) = true := by decide +kernel
theorem w_tables : (allAtoms (Jvm.Cond.code x code maxLocals ret :: tables_1)).before args0 about1 = true := by
  rw [allAtoms_all]
  show words1.all (fun c => c.before args0 about1) = true
  refine all_split ?_ w_codes
  rw [w_t1]
set_option maxRecDepth 65536 in
theorem w_case : (Jvm.Cond.and given_1 narrow_1).before args0 about1 = true := by decide +kernel
theorem w_applies : (headSpec (Jvm.Cond.code x code maxLocals ret :: tables_1) room_1).applies x e0.platform about1 = true :=
  (Spec.applies_iff w_frames).mpr ⟨w_running, w_runnable, w_alone, w_named, w_hears, w_ripe, w_room, w_tables⟩
theorem atStart : AtStart classFile x code maxLocals ret World_1 tables_1 room_1 Calls_1 rest_1 Pre_1 launch0 p0 e0 about1 theMethod args0 below0 :=
  ⟨lists_1, trivial, launch0.admits_env _ _ _, launch0.least_env, fairChoices_fair.cas, fairChoices_fair.clock, w_frames, w_args, w_heap, w_applies, trivial, trivial, w_case⟩
end start1
theorem witness_1 : WitnessClaimed_1 := ⟨start1.p0, start1.e0, start1.about1, start1.theMethod, start1.args0, start1.below0, start1.atStart⟩
end Jvm.Pilot.@@N@@
