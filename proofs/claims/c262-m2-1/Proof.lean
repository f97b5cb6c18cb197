import JvmDerived
import JvmDerived.Pilot.@@N@@Statement
import JvmDerived.Pilot.@@N@@Code
set_option linter.unusedVariables false
set_option linter.unusedSimpArgs false
namespace Jvm.RoadKit
open Sem ClassFile Op Lib Jvm.Stand Jvm.Free Jvm.LawKit
section New
variable {p : Program} {l : Launch} {e : Env} {R : Room} {s : State} {m : MethodId} {args : Array Value} {below : List Frame} {meth : Method} {c : Code} {T : State} {locs : List Loc} {cells slots : Nat}
theorem retI (X : Stand p l e R s m args below meth c T locs cells slots) (hx : p.tables.exec = Jvm.exec) {pc : Nat} {Ls : Array Slot} {z : Int32} {rest : List Value} (hret : meth.sig.returnType = some .int) (hd : decode c.code pc = .ok (.ireturn, 1)) {fs : List Frame}
    (hl : ∀ (f : JFrame) (acts : List Action), f.method = m → f.locked = none → f.entered = [] → (doReturn e (T.setTop f) acts (some (.int z))).1 = T.setFrames fs) : Steps p.tables e below (T.setTop (mkF m pc Ls (.int z :: rest))) (T.setFrames fs) := by
  have hm' : T.vm.method? m = some meth := X.method'
  have hn : narrow .int (.int z) = .int z := rfl
  show Steps p.tables e below (T.setTop { method := m, pc := pc, locals := Ls, stack := _ :: rest, locked := none }) _
  jvm_step X.here [X.here.top, hx, hd, hm', hret, hn]
  first | (intro acts; rw [hl _ acts rfl rfl rfl]) | rw [hl _ _ rfl rfl rfl]
  exact Steps.refl _
abbrev jv (x : Int64) : Slot := .val (.long x)
/-- from A the run goes on to an end of which R holds -/
def Wk (tb : Tables) (e : Env) (below : List Frame) (A : State) (R : State → Outcome → Prop) : Prop := ∃ U o, Steps tb e below A U ∧ R U o
theorem Wk.go {tb : Tables} {A A' : State} {R : State → Outcome → Prop} (h : ∀ t, Steps tb e below A' t → Steps tb e below A t) (k : Wk tb e below A' R) : Wk tb e below A R := by
  obtain ⟨U, o, k1, k2⟩ := k
  exact ⟨U, o, h _ k1, k2⟩
/-- the two ways from A to A' meet there -/
theorem own_fin (X : Stand p l e R s m args below meth c T locs cells slots) {Qv : Option Value → Heap → List Loc → Prop} {v : Option Value} {g : JFrame} {C S : Nat} (hlocks : meth.locks = false) (hv : meth.sig.returnType = none → v = none)
    (hst : ∀ fs, (∀ (f : JFrame) (acts : List Action), f.method = m → f.locked = none → f.entered = [] → (doReturn e (T.setTop f) acts v).1 = T.setFrames fs) → Steps p.tables e below (T.setTop g) (T.setFrames fs))
    (hQ : Qv v T.heap locs) (hc : cells ≤ C) (hs : slots ≤ S) :
    Wk p.tables e below (T.setTop g) (fun U o => U.status = .running ∧ Ended U below o ∧ ∃ v L, o = .returned v ∧ Qv v U.heap L ∧ FrameEnd s o U L C S) := by
  obtain ⟨fs, hr, hrun, hended, hW, hsame⟩ := X.leave (v := v) hv hlocks
  exact ⟨_, _, hst fs hr, hrun, hended, _, _, rfl, hQ, ⟨_, rfl⟩, hW, hsame.mono hc hs⟩
end New
end Jvm.RoadKit
namespace Jvm.Pilot.@@N@@
open Jvm Jvm.ClassFile Sem Op Lib Jvm.Free Jvm.Stand Jvm.LawKit Jvm.RoadKit Bundle Jvm.Pilot.@@N@@.Jvm.D
/-- a place overwritten -/
def own_upd (f : Nat → Int32) (i : Nat) (y : Int32) : Nat → Int32 := fun j => if j = i then y else f j
theorem own_upd_eq (f : Nat → Int32) (i : Nat) (y : Int32) : own_upd f i y i = y := if_pos rfl
theorem own_upd_ne (f : Nat → Int32) {i j : Nat} (y : Int32) (h : j ≠ i) : own_upd f i y j = f j := if_neg h
/-- the byte[] at a has n places; place j holds f j -/
def BA (Z : State) (h : Heap) (a : Addr) (n : Nat) (f : Nat → Int32) : Prop := ∃ c : Cell, Arr Z h a c .byte ∧ c.slots.size = n ∧ ∀ j, j < n → c.slots[j]? = some (.int (f j))
section Bytes
variable {p : Program} {l : Launch} {e : Env} {R : Room} {s : State} {m : MethodId} {args : Array Value} {below : List Frame} {meth : Method} {c : Code} {T : State} {locs : List Loc} {cells slots : Nat} {Z : State} {h h' : Heap} {a b : Addr} {n : Nat} {f : Nat → Int32} {ws : List Addr} {sl : Nat} {v : Value}
theorem BA.new {k : ClassId} {z : Int32} (A : Arr Z h a (newA k .byte z) .byte) : BA Z h a z.toNatClampNeg (fun _ => 0) := ⟨_, A, sz_new _ _ _, fun j hj => by simp [newA, hj]; rfl⟩
theorem BA.lt (F : BA Z h a n f) : a < h.size := by obtain ⟨c, A, -⟩ := F; exact A.lt
theorem BA.ext (F : BA Z h a n f) (E : Ext h h') : BA Z h' a n f := by obtain ⟨c, A, r⟩ := F; exact ⟨c, A.ext E, r⟩
theorem BA.other (F : BA Z h b n f) (W : Wr h h' a sl v) (q : b ≠ a) : BA Z h' b n f := by obtain ⟨c, A, r⟩ := F; exact ⟨c, A.other W q, r⟩
theorem BA.keep (F : BA Z h a n f) (K : Keep h h' ws) (q : a ∉ ws) : BA Z h' a n f := by obtain ⟨c, A, r⟩ := F; exact ⟨c, ⟨K.2.1 a c A.1 q, A.2⟩, r⟩
theorem own_clamp {j : Int32} (h0 : 0 ≤ j.toInt) : (j.toNatClampNeg : Int) = j.toInt := by
  have q : ¬ j < 0 := by
    rw [Int32.lt_iff_toInt_lt]
    have e : (0 : Int32).toInt = 0 := by decide
    omega
  exact (nat_of q).symm
theorem own_inb {cl : Cell} {j : Int32} (S : cl.slots.size = n) (hj : 0 ≤ j.toInt ∧ j.toInt < n) : ¬ (j < 0 ∨ cl.slots.size ≤ j.toNatClampNeg) := by
  have e0 : (0 : Int32).toInt = 0 := by decide
  have := own_clamp hj.1
  rw [Int32.lt_iff_toInt_lt]; omega
theorem own_stB (X : Stand p l e R s m args below meth c T locs cells slots) (hx : p.tables.exec = Jvm.exec) (hZ : Z.Warmed39 s.vm) (eT : T.heap = h) (F : BA Z h a n f) {j x : Int32} (hj : 0 ≤ j.toInt ∧ j.toInt < n) {g : JFrame} (hg : g.method = m) {rest : List Value} (hs : g.stack = .int x :: .int j :: .ref a :: rest) (hd : decode c.code g.pc = .ok (.bastore, 1)) :
    ∃ T' h', Stand p l e R s m args below meth c T' (locs ++ [⟨a, j.toNatClampNeg⟩]) cells slots ∧ T'.heap = h' ∧ Wr h h' a j.toNatClampNeg (.int (nar .byte x)) ∧ BA Z h' a n (own_upd f j.toNatClampNeg x.toInt8.toInt32) ∧ ∀ target, Steps p.tables e below (T'.setTop { g with pc := g.pc + 1, stack := rest }) target → Steps p.tables e below (T.setTop g) target := by
  obtain ⟨cl, A, S, H⟩ := F
  have hin := own_inb S hj
  obtain ⟨T', h', X', e', W, st⟩ := stB X hx hZ eT A (j := j) (x := x) hin hg hs hd
  refine ⟨T', h', X', e', W, ⟨cl.setSlot j.toNatClampNeg (.int (nar .byte x)), A.same W, by rw [sz_set]; exact S, fun i hi => ?_⟩, st⟩
  by_cases q : i = j.toNatClampNeg
  · subst q
    rw [own_upd_eq]
    exact get_hit (k := j) hin rfl
  · rw [own_upd_ne _ _ q, ← H i hi]
    show (cl.slots.setIfInBounds j.toNatClampNeg _)[i]? = _
    rw [Array.getElem?_setIfInBounds_ne (Ne.symm q)]
theorem own_ldB (X : Stand p l e R s m args below meth c T locs cells slots) (hx : p.tables.exec = Jvm.exec) (hZ : Z.Warmed39 s.vm) (eT : T.heap = h) (F : BA Z h a n f) {j : Int32} (hj : 0 ≤ j.toInt ∧ j.toInt < n) {g : JFrame} (hg : g.method = m) {rest : List Value} (hs : g.stack = .int j :: .ref a :: rest) (hd : decode c.code g.pc = .ok (.baload, 1)) :
    ∀ target, Steps p.tables e below (T.setTop { g with pc := g.pc + 1, stack := .int (f j.toNatClampNeg) :: rest }) target → Steps p.tables e below (T.setTop g) target := by
  obtain ⟨cl, A, S, H⟩ := F
  have hc := own_clamp hj.1
  intro target k
  exact X.baloadBytes hx (j := j) (v := .int (f j.toNatClampNeg)) (by rw [eT]; exact A.1) (State.isArrayOf_alike hZ.alike A.2.1) A.2.2 (own_inb S hj) (H _ (by omega)) hg hs hd target k
end Bytes
theorem d1_0 : decode method_2_code 0 = .ok (.lload_n 0, 1) := by decide +kernel
theorem d1_1 : decode method_2_code 1 = .ok (.bipush 10, 2) := by decide +kernel
theorem d1_3 : decode method_2_code 3 = .ok (.iload_n 2, 1) := by decide +kernel
theorem d1_4 : decode method_2_code 4 = .ok (.imul, 1) := by decide +kernel
theorem d1_5 : decode method_2_code 5 = .ok (.lushr, 1) := by decide +kernel
theorem d1_6 : decode method_2_code 6 = .ok (.l2i, 1) := by decide +kernel
theorem d1_7 : decode method_2_code 7 = .ok (.sipush 1023, 3) := by decide +kernel
theorem d1_10 : decode method_2_code 10 = .ok (.iand, 1) := by decide +kernel
theorem d1_11 : decode method_2_code 11 = .ok (.istore_n 3, 1) := by decide +kernel
theorem d1_12 : decode method_2_code 12 = .ok (.iload_n 3, 1) := by decide +kernel
theorem d1_13 : decode method_2_code 13 = .ok (.iconst 3, 1) := by decide +kernel
theorem d1_14 : decode method_2_code 14 = .ok (.iand, 1) := by decide +kernel
theorem d1_15 : decode method_2_code 15 = .ok (.istore 4, 2) := by decide +kernel
theorem d1_17 : decode method_2_code 17 = .ok (.iload 4, 2) := by decide +kernel
theorem d1_19 : decode method_2_code 19 = .ok (.ifCond .ne 6, 3) := by decide +kernel
theorem d1_22 : decode method_2_code 22 = .ok (.bipush 10, 2) := by decide +kernel
theorem d1_24 : decode method_2_code 24 = .ok (.ireturn, 1) := by decide +kernel
theorem d1_25 : decode method_2_code 25 = .ok (.iload 4, 2) := by decide +kernel
theorem d1_27 : decode method_2_code 27 = .ok (.iconst 1, 1) := by decide +kernel
theorem d1_28 : decode method_2_code 28 = .ok (.if_icmp .ne 6, 3) := by decide +kernel
theorem d1_31 : decode method_2_code 31 = .ok (.bipush 13, 2) := by decide +kernel
theorem d1_33 : decode method_2_code 33 = .ok (.ireturn, 1) := by decide +kernel
theorem d1_34 : decode method_2_code 34 = .ok (.iload_n 3, 1) := by decide +kernel
theorem d1_35 : decode method_2_code 35 = .ok (.iconst 2, 1) := by decide +kernel
theorem d1_36 : decode method_2_code 36 = .ok (.iushr, 1) := by decide +kernel
theorem d1_37 : decode method_2_code 37 = .ok (.i2b, 1) := by decide +kernel
theorem d1_38 : decode method_2_code 38 = .ok (.ireturn, 1) := by decide +kernel
theorem pn_0 : plainName "com/example/arcwalk/arcwalk/TermSpansEndingEndPinLaw" = true := by first | (simp [plainName, overriddenIn]; done) | decide +kernel
theorem ef_1 (m : MethodId) (x0 : Int64) (x1 : Int32) : entryFrame m #[(.long x0), (.int x1)] 5 = mkF m 0 #[jv x0, .second, iv x1, .unset, .unset] [] := by first | (simp [entryFrame, mkF, argsToLocals, Value.category]; done) | rfl
def f_draw (pq : Int64) (ix : Int32)  : Int32 := (if (((((pq.toUInt64 >>> (((10 : Int32) * ix) &&& 0x3f).toInt64.toUInt64).toInt64).toInt32) &&& (1023 : Int32)) &&& (3 : Int32)) = (0 : Int32) then (nar .byte (10 : Int32)) else (if (((((pq.toUInt64 >>> (((10 : Int32) * ix) &&& 0x3f).toInt64.toUInt64).toInt64).toInt32) &&& (1023 : Int32)) &&& (3 : Int32)) = (1 : Int32) then (nar .byte (13 : Int32)) else (nar .byte (((((((pq.toUInt64 >>> (((10 : Int32) * ix) &&& 0x3f).toInt64.toUInt64).toInt64).toInt32) &&& (1023 : Int32)).toUInt32 >>> ((2 : Int32) &&& 31).toUInt32).toInt32).toInt8.toInt32))))
def Q1 (Z : State) (pq : Int64) (ix : Int32)  (h0 : Heap) (n0 : Nat) (v : Option Value) (h : Heap) (L : List Loc) : Prop := v = some (.int (f_draw pq ix)) ∧ Fr n0 L ∧ h = h0
set_option maxRecDepth 65536 in
set_option maxHeartbeats 40000000 in
theorem rm1 (l : Launch) (Z : State) (a0 : Array Value) (hw : ∀ d ∈ tables_1, d.before a0 Z = true) (ws : List Jvm.Cond) (pq : Int64) (ix : Int32)  (h0 : Heap) (n0 : Nat) (Z0 : n0 ≤ h0.size)  :
    MetFree l (⟨"com/example/arcwalk/arcwalk/TermSpansEndingEndPinLaw", "draw", "(JI)B"⟩ : MethodName) (head1 (Jvm.Cond.code (⟨"com/example/arcwalk/arcwalk/TermSpansEndingEndPinLaw", "draw", "(JI)B"⟩ : MethodName) method_2_code 5 (some .byte) :: ws) ({ frames := 0, cells := 0, slots := 0, locals := 0 } : Room)) (fun a U => a = #[(.long pq), (.int ix)] ∧ Z.Warmed39 U.vm ∧ U.heap = h0) (fun _ _ _ _ _ => True) (fun _ U o U' => ∃ v L, o = .returned v ∧ Q1 Z pq ix h0 n0 v U'.heap L ∧ FrameEnd U o U' L ({ frames := 0, cells := 0, slots := 0, locals := 0 } : Room).cells ({ frames := 0, cells := 0, slots := 0, locals := 0 } : Room).slots) := by
  refine MetFree.of_bodySF (plainFor_of_name pn_0) hisR ?_
  intro p e s m args below meth c s₁ Bd hml0 hP hK
  obtain ⟨rfl, hZ, hh⟩ := hP
  have hx := Bd.exec
  have hby := Bd.bytes
  have hml : c.maxLocals = 5 := hml0
  have hown : s.vm.findClass "com/example/arcwalk/arcwalk/TermSpansEndingEndPinLaw" = some m.cls := findClass_of_methodNamed Bd.named
  have hnm := (name_of_methodNamed Bd.named Bd.method).1
  have X0 : Stand p l e ({ frames := 0, cells := 0, slots := 0, locals := 0 } : Room) s m #[(.long pq), (.int ix)] below meth c s₁ [] 0 0 := Stand.of_body Bd
  have e0 : s₁.heap = h0 := by rw [← hh, Bd.state]; rfl
  have N0 := Fr.nil n0
  have hlk : meth.locks = false := BodyLoose.notSynchronized Bd
  suffices hwk : Wk p.tables e below (s₁.setTop (mkF m 0 #[jv pq, .second, iv ix, .unset, .unset] [])) (fun U o => U.status = .running ∧ Ended U below o ∧ ∃ v L, o = .returned v ∧ Q1 Z pq ix h0 n0 v U.heap L ∧ FrameEnd s o U L 0 0) by
    obtain ⟨U, o, k1, k2⟩ := hwk
    exact ⟨U, o, castTop (ef_1 m pq ix) k1, k2⟩
  refine Wk.go (A' := s₁.setTop (mkF m 1 #[jv pq, .second, iv ix, .unset, .unset] [(.long pq)])) (fun t k => XS.lloadN X0.here hx rfl (hb hby d1_0) rfl k) ?_
  refine Wk.go (A' := s₁.setTop (mkF m 3 #[jv pq, .second, iv ix, .unset, .unset] [(.int (10 : Int32)), (.long pq)])) (fun t k => XS.bipush X0.here hx rfl (hb hby d1_1) k) ?_
  refine Wk.go (A' := s₁.setTop (mkF m 4 #[jv pq, .second, iv ix, .unset, .unset] [(.int ix), (.int (10 : Int32)), (.long pq)])) (fun t k => XS.iloadN X0.here hx rfl (hb hby d1_3) rfl k) ?_
  refine Wk.go (A' := s₁.setTop (mkF m 5 #[jv pq, .second, iv ix, .unset, .unset] [(.int ((10 : Int32) * ix)), (.long pq)])) (fun t k => XS.imul X0.here hx rfl (hb hby d1_4) rfl k) ?_
  refine Wk.go (A' := s₁.setTop (mkF m 6 #[jv pq, .second, iv ix, .unset, .unset] [(.long ((pq.toUInt64 >>> (((10 : Int32) * ix) &&& 0x3f).toInt64.toUInt64).toInt64))])) (fun t k => XS.lushr X0.here hx rfl (hb hby d1_5) rfl k) ?_
  refine Wk.go (A' := s₁.setTop (mkF m 7 #[jv pq, .second, iv ix, .unset, .unset] [(.int (((pq.toUInt64 >>> (((10 : Int32) * ix) &&& 0x3f).toInt64.toUInt64).toInt64).toInt32))])) (fun t k => XS.l2i X0.here hx rfl (hb hby d1_6) rfl k) ?_
  refine Wk.go (A' := s₁.setTop (mkF m 10 #[jv pq, .second, iv ix, .unset, .unset] [(.int (1023 : Int32)), (.int (((pq.toUInt64 >>> (((10 : Int32) * ix) &&& 0x3f).toInt64.toUInt64).toInt64).toInt32))])) (fun t k => XS.sipush X0.here hx rfl (hb hby d1_7) k) ?_
  refine Wk.go (A' := s₁.setTop (mkF m 11 #[jv pq, .second, iv ix, .unset, .unset] [(.int ((((pq.toUInt64 >>> (((10 : Int32) * ix) &&& 0x3f).toInt64.toUInt64).toInt64).toInt32) &&& (1023 : Int32)))])) (fun t k => XS.iand X0.here hx rfl (hb hby d1_10) rfl k) ?_
  refine Wk.go (A' := s₁.setTop (mkF m 12 #[jv pq, .second, iv ix, iv ((((pq.toUInt64 >>> (((10 : Int32) * ix) &&& 0x3f).toInt64.toUInt64).toInt64).toInt32) &&& (1023 : Int32)), .unset] [])) (fun t k => XS.istoreN X0.here hx rfl (hb hby d1_11) rfl (l' := #[jv pq, .second, iv ix, iv ((((pq.toUInt64 >>> (((10 : Int32) * ix) &&& 0x3f).toInt64.toUInt64).toInt64).toInt32) &&& (1023 : Int32)), .unset]) rfl k) ?_
  refine Wk.go (A' := s₁.setTop (mkF m 13 #[jv pq, .second, iv ix, iv ((((pq.toUInt64 >>> (((10 : Int32) * ix) &&& 0x3f).toInt64.toUInt64).toInt64).toInt32) &&& (1023 : Int32)), .unset] [(.int ((((pq.toUInt64 >>> (((10 : Int32) * ix) &&& 0x3f).toInt64.toUInt64).toInt64).toInt32) &&& (1023 : Int32)))])) (fun t k => XS.iloadN X0.here hx rfl (hb hby d1_12) rfl k) ?_
  refine Wk.go (A' := s₁.setTop (mkF m 14 #[jv pq, .second, iv ix, iv ((((pq.toUInt64 >>> (((10 : Int32) * ix) &&& 0x3f).toInt64.toUInt64).toInt64).toInt32) &&& (1023 : Int32)), .unset] [(.int (3 : Int32)), (.int ((((pq.toUInt64 >>> (((10 : Int32) * ix) &&& 0x3f).toInt64.toUInt64).toInt64).toInt32) &&& (1023 : Int32)))])) (fun t k => XS.iconst X0.here hx rfl (hb hby d1_13) k) ?_
  refine Wk.go (A' := s₁.setTop (mkF m 15 #[jv pq, .second, iv ix, iv ((((pq.toUInt64 >>> (((10 : Int32) * ix) &&& 0x3f).toInt64.toUInt64).toInt64).toInt32) &&& (1023 : Int32)), .unset] [(.int (((((pq.toUInt64 >>> (((10 : Int32) * ix) &&& 0x3f).toInt64.toUInt64).toInt64).toInt32) &&& (1023 : Int32)) &&& (3 : Int32)))])) (fun t k => XS.iand X0.here hx rfl (hb hby d1_14) rfl k) ?_
  refine Wk.go (A' := s₁.setTop (mkF m 17 #[jv pq, .second, iv ix, iv ((((pq.toUInt64 >>> (((10 : Int32) * ix) &&& 0x3f).toInt64.toUInt64).toInt64).toInt32) &&& (1023 : Int32)), iv (((((pq.toUInt64 >>> (((10 : Int32) * ix) &&& 0x3f).toInt64.toUInt64).toInt64).toInt32) &&& (1023 : Int32)) &&& (3 : Int32))] [])) (fun t k => XS.istore X0.here hx rfl (hb hby d1_15) rfl (l' := #[jv pq, .second, iv ix, iv ((((pq.toUInt64 >>> (((10 : Int32) * ix) &&& 0x3f).toInt64.toUInt64).toInt64).toInt32) &&& (1023 : Int32)), iv (((((pq.toUInt64 >>> (((10 : Int32) * ix) &&& 0x3f).toInt64.toUInt64).toInt64).toInt32) &&& (1023 : Int32)) &&& (3 : Int32))]) rfl k) ?_
  refine Wk.go (A' := s₁.setTop (mkF m 19 #[jv pq, .second, iv ix, iv ((((pq.toUInt64 >>> (((10 : Int32) * ix) &&& 0x3f).toInt64.toUInt64).toInt64).toInt32) &&& (1023 : Int32)), iv (((((pq.toUInt64 >>> (((10 : Int32) * ix) &&& 0x3f).toInt64.toUInt64).toInt64).toInt32) &&& (1023 : Int32)) &&& (3 : Int32))] [(.int (((((pq.toUInt64 >>> (((10 : Int32) * ix) &&& 0x3f).toInt64.toUInt64).toInt64).toInt32) &&& (1023 : Int32)) &&& (3 : Int32)))])) (fun t k => XS.iload X0.here hx rfl (hb hby d1_17) rfl k) ?_
  by_cases hc19 : (((((pq.toUInt64 >>> (((10 : Int32) * ix) &&& 0x3f).toInt64.toUInt64).toInt64).toInt32) &&& (1023 : Int32)) &&& (3 : Int32)) = (0 : Int32)
  · refine Wk.go (A' := s₁.setTop (mkF m 22 #[jv pq, .second, iv ix, iv ((((pq.toUInt64 >>> (((10 : Int32) * ix) &&& 0x3f).toInt64.toUInt64).toInt64).toInt32) &&& (1023 : Int32)), iv (((((pq.toUInt64 >>> (((10 : Int32) * ix) &&& 0x3f).toInt64.toUInt64).toInt64).toInt32) &&& (1023 : Int32)) &&& (3 : Int32))] [])) (fun t k => XS.ifNo X0.here hx rfl (hb hby d1_19) rfl ((if0 _ _).trans (teq hc19).2) k) ?_
    refine Wk.go (A' := s₁.setTop (mkF m 24 #[jv pq, .second, iv ix, iv ((((pq.toUInt64 >>> (((10 : Int32) * ix) &&& 0x3f).toInt64.toUInt64).toInt64).toInt32) &&& (1023 : Int32)), iv (((((pq.toUInt64 >>> (((10 : Int32) * ix) &&& 0x3f).toInt64.toUInt64).toInt64).toInt32) &&& (1023 : Int32)) &&& (3 : Int32))] [(.int (10 : Int32))])) (fun t k => XS.bipush X0.here hx rfl (hb hby d1_22) k) ?_
    refine own_fin (Qv := Q1 Z pq ix h0 n0) (v := some (.int (nar .byte (10 : Int32)))) X0 hlk (fun h => by rw [Bd.returns] at h; cases h) (fun fs hr => retN X0 hx (t := .byte) Bd.returns (by simp) (hb hby d1_24) hr) ?_ (by decide) (by decide)
    refine ⟨?_, N0, e0⟩
    simp only [f_draw, if_pos hc19]
  · refine Wk.go (A' := s₁.setTop (mkF m 25 #[jv pq, .second, iv ix, iv ((((pq.toUInt64 >>> (((10 : Int32) * ix) &&& 0x3f).toInt64.toUInt64).toInt64).toInt32) &&& (1023 : Int32)), iv (((((pq.toUInt64 >>> (((10 : Int32) * ix) &&& 0x3f).toInt64.toUInt64).toInt64).toInt32) &&& (1023 : Int32)) &&& (3 : Int32))] [])) (fun t k => XS.ifYes X0.here hx rfl (pc0 := 19) (pc' := 25) rfl (hb hby d1_19) rfl ((if0 _ _).trans (feq hc19).2) (by decide) (by decide) k) ?_
    refine Wk.go (A' := s₁.setTop (mkF m 27 #[jv pq, .second, iv ix, iv ((((pq.toUInt64 >>> (((10 : Int32) * ix) &&& 0x3f).toInt64.toUInt64).toInt64).toInt32) &&& (1023 : Int32)), iv (((((pq.toUInt64 >>> (((10 : Int32) * ix) &&& 0x3f).toInt64.toUInt64).toInt64).toInt32) &&& (1023 : Int32)) &&& (3 : Int32))] [(.int (((((pq.toUInt64 >>> (((10 : Int32) * ix) &&& 0x3f).toInt64.toUInt64).toInt64).toInt32) &&& (1023 : Int32)) &&& (3 : Int32)))])) (fun t k => XS.iload X0.here hx rfl (hb hby d1_25) rfl k) ?_
    refine Wk.go (A' := s₁.setTop (mkF m 28 #[jv pq, .second, iv ix, iv ((((pq.toUInt64 >>> (((10 : Int32) * ix) &&& 0x3f).toInt64.toUInt64).toInt64).toInt32) &&& (1023 : Int32)), iv (((((pq.toUInt64 >>> (((10 : Int32) * ix) &&& 0x3f).toInt64.toUInt64).toInt64).toInt32) &&& (1023 : Int32)) &&& (3 : Int32))] [(.int (1 : Int32)), (.int (((((pq.toUInt64 >>> (((10 : Int32) * ix) &&& 0x3f).toInt64.toUInt64).toInt64).toInt32) &&& (1023 : Int32)) &&& (3 : Int32)))])) (fun t k => XS.iconst X0.here hx rfl (hb hby d1_27) k) ?_
    by_cases hc28 : (((((pq.toUInt64 >>> (((10 : Int32) * ix) &&& 0x3f).toInt64.toUInt64).toInt64).toInt32) &&& (1023 : Int32)) &&& (3 : Int32)) = (1 : Int32)
    · refine Wk.go (A' := s₁.setTop (mkF m 31 #[jv pq, .second, iv ix, iv ((((pq.toUInt64 >>> (((10 : Int32) * ix) &&& 0x3f).toInt64.toUInt64).toInt64).toInt32) &&& (1023 : Int32)), iv (((((pq.toUInt64 >>> (((10 : Int32) * ix) &&& 0x3f).toInt64.toUInt64).toInt64).toInt32) &&& (1023 : Int32)) &&& (3 : Int32))] [])) (fun t k => XS.icmpNo X0.here hx rfl (hb hby d1_28) rfl (teq hc28).2 k) ?_
      refine Wk.go (A' := s₁.setTop (mkF m 33 #[jv pq, .second, iv ix, iv ((((pq.toUInt64 >>> (((10 : Int32) * ix) &&& 0x3f).toInt64.toUInt64).toInt64).toInt32) &&& (1023 : Int32)), iv (((((pq.toUInt64 >>> (((10 : Int32) * ix) &&& 0x3f).toInt64.toUInt64).toInt64).toInt32) &&& (1023 : Int32)) &&& (3 : Int32))] [(.int (13 : Int32))])) (fun t k => XS.bipush X0.here hx rfl (hb hby d1_31) k) ?_
      refine own_fin (Qv := Q1 Z pq ix h0 n0) (v := some (.int (nar .byte (13 : Int32)))) X0 hlk (fun h => by rw [Bd.returns] at h; cases h) (fun fs hr => retN X0 hx (t := .byte) Bd.returns (by simp) (hb hby d1_33) hr) ?_ (by decide) (by decide)
      refine ⟨?_, N0, e0⟩
      simp only [f_draw, if_neg hc19, if_pos hc28]
    · refine Wk.go (A' := s₁.setTop (mkF m 34 #[jv pq, .second, iv ix, iv ((((pq.toUInt64 >>> (((10 : Int32) * ix) &&& 0x3f).toInt64.toUInt64).toInt64).toInt32) &&& (1023 : Int32)), iv (((((pq.toUInt64 >>> (((10 : Int32) * ix) &&& 0x3f).toInt64.toUInt64).toInt64).toInt32) &&& (1023 : Int32)) &&& (3 : Int32))] [])) (fun t k => XS.icmpYes X0.here hx rfl (pc0 := 28) (pc' := 34) rfl (hb hby d1_28) rfl (feq hc28).2 (by decide) (by decide) k) ?_
      refine Wk.go (A' := s₁.setTop (mkF m 35 #[jv pq, .second, iv ix, iv ((((pq.toUInt64 >>> (((10 : Int32) * ix) &&& 0x3f).toInt64.toUInt64).toInt64).toInt32) &&& (1023 : Int32)), iv (((((pq.toUInt64 >>> (((10 : Int32) * ix) &&& 0x3f).toInt64.toUInt64).toInt64).toInt32) &&& (1023 : Int32)) &&& (3 : Int32))] [(.int ((((pq.toUInt64 >>> (((10 : Int32) * ix) &&& 0x3f).toInt64.toUInt64).toInt64).toInt32) &&& (1023 : Int32)))])) (fun t k => XS.iloadN X0.here hx rfl (hb hby d1_34) rfl k) ?_
      refine Wk.go (A' := s₁.setTop (mkF m 36 #[jv pq, .second, iv ix, iv ((((pq.toUInt64 >>> (((10 : Int32) * ix) &&& 0x3f).toInt64.toUInt64).toInt64).toInt32) &&& (1023 : Int32)), iv (((((pq.toUInt64 >>> (((10 : Int32) * ix) &&& 0x3f).toInt64.toUInt64).toInt64).toInt32) &&& (1023 : Int32)) &&& (3 : Int32))] [(.int (2 : Int32)), (.int ((((pq.toUInt64 >>> (((10 : Int32) * ix) &&& 0x3f).toInt64.toUInt64).toInt64).toInt32) &&& (1023 : Int32)))])) (fun t k => XS.iconst X0.here hx rfl (hb hby d1_35) k) ?_
      refine Wk.go (A' := s₁.setTop (mkF m 37 #[jv pq, .second, iv ix, iv ((((pq.toUInt64 >>> (((10 : Int32) * ix) &&& 0x3f).toInt64.toUInt64).toInt64).toInt32) &&& (1023 : Int32)), iv (((((pq.toUInt64 >>> (((10 : Int32) * ix) &&& 0x3f).toInt64.toUInt64).toInt64).toInt32) &&& (1023 : Int32)) &&& (3 : Int32))] [(.int ((((((pq.toUInt64 >>> (((10 : Int32) * ix) &&& 0x3f).toInt64.toUInt64).toInt64).toInt32) &&& (1023 : Int32)).toUInt32 >>> ((2 : Int32) &&& 31).toUInt32).toInt32))])) (fun t k => XS.iushr X0.here hx rfl (hb hby d1_36) rfl k) ?_
      refine Wk.go (A' := s₁.setTop (mkF m 38 #[jv pq, .second, iv ix, iv ((((pq.toUInt64 >>> (((10 : Int32) * ix) &&& 0x3f).toInt64.toUInt64).toInt64).toInt32) &&& (1023 : Int32)), iv (((((pq.toUInt64 >>> (((10 : Int32) * ix) &&& 0x3f).toInt64.toUInt64).toInt64).toInt32) &&& (1023 : Int32)) &&& (3 : Int32))] [(.int (((((((pq.toUInt64 >>> (((10 : Int32) * ix) &&& 0x3f).toInt64.toUInt64).toInt64).toInt32) &&& (1023 : Int32)).toUInt32 >>> ((2 : Int32) &&& 31).toUInt32).toInt32).toInt8.toInt32))])) (fun t k => XS.i2b X0.here hx rfl (hb hby d1_37) rfl k) ?_
      refine own_fin (Qv := Q1 Z pq ix h0 n0) (v := some (.int (nar .byte (((((((pq.toUInt64 >>> (((10 : Int32) * ix) &&& 0x3f).toInt64.toUInt64).toInt64).toInt32) &&& (1023 : Int32)).toUInt32 >>> ((2 : Int32) &&& 31).toUInt32).toInt32).toInt8.toInt32)))) X0 hlk (fun h => by rw [Bd.returns] at h; cases h) (fun fs hr => retN X0 hx (t := .byte) Bd.returns (by simp) (hb hby d1_38) hr) ?_ (by decide) (by decide)
      refine ⟨?_, N0, e0⟩
      simp only [f_draw, if_neg hc19, if_neg hc28]
theorem own_b1 {i k : Int32} (h1 : 0 ≤ i.toInt) (h : i < k) (h2 : k.toInt ≤ 6) : 0 ≤ i.toInt ∧ i.toInt < ((6 : Nat) : Int) := by
  rw [Int32.lt_iff_toInt_lt] at h; omega
theorem d2_0 : decode prog_83_method_21_code 0 = .ok (.iconst (-1), 1) := by decide +kernel
theorem d2_1 : decode prog_83_method_21_code 1 = .ok (.istore_n 3, 1) := by decide +kernel
theorem d2_2 : decode prog_83_method_21_code 2 = .ok (.iload_n 1, 1) := by decide +kernel
theorem d2_3 : decode prog_83_method_21_code 3 = .ok (.iload_n 2, 1) := by decide +kernel
theorem d2_4 : decode prog_83_method_21_code 4 = .ok (.if_icmp .ge 18, 3) := by decide +kernel
theorem d2_7 : decode prog_83_method_21_code 7 = .ok (.aload_n 0, 1) := by decide +kernel
theorem d2_8 : decode prog_83_method_21_code 8 = .ok (.iload_n 1, 1) := by decide +kernel
theorem d2_9 : decode prog_83_method_21_code 9 = .ok (.baload, 1) := by decide +kernel
theorem d2_10 : decode prog_83_method_21_code 10 = .ok (.bipush 10, 2) := by decide +kernel
theorem d2_12 : decode prog_83_method_21_code 12 = .ok (.if_icmp .ne 10, 3) := by decide +kernel
theorem d2_15 : decode prog_83_method_21_code 15 = .ok (.iload_n 1, 1) := by decide +kernel
theorem d2_16 : decode prog_83_method_21_code 16 = .ok (.iconst 1, 1) := by decide +kernel
theorem d2_17 : decode prog_83_method_21_code 17 = .ok (.iadd, 1) := by decide +kernel
theorem d2_18 : decode prog_83_method_21_code 18 = .ok (.istore_n 3, 1) := by decide +kernel
theorem d2_19 : decode prog_83_method_21_code 19 = .ok (.goto 36, 3) := by decide +kernel
theorem d2_55 : decode prog_83_method_21_code 55 = .ok (.iload_n 3, 1) := by decide +kernel
theorem d2_56 : decode prog_83_method_21_code 56 = .ok (.ireturn, 1) := by decide +kernel
theorem d2_22 : decode prog_83_method_21_code 22 = .ok (.iload_n 1, 1) := by decide +kernel
theorem d2_23 : decode prog_83_method_21_code 23 = .ok (.iload_n 2, 1) := by decide +kernel
theorem d2_24 : decode prog_83_method_21_code 24 = .ok (.if_icmp .ge 31, 3) := by decide +kernel
theorem d2_27 : decode prog_83_method_21_code 27 = .ok (.aload_n 0, 1) := by decide +kernel
theorem d2_28 : decode prog_83_method_21_code 28 = .ok (.iload_n 1, 1) := by decide +kernel
theorem d2_29 : decode prog_83_method_21_code 29 = .ok (.baload, 1) := by decide +kernel
theorem d2_30 : decode prog_83_method_21_code 30 = .ok (.bipush 13, 2) := by decide +kernel
theorem d2_32 : decode prog_83_method_21_code 32 = .ok (.if_icmp .ne 23, 3) := by decide +kernel
theorem d2_35 : decode prog_83_method_21_code 35 = .ok (.aload_n 0, 1) := by decide +kernel
theorem d2_36 : decode prog_83_method_21_code 36 = .ok (.iload_n 1, 1) := by decide +kernel
theorem d2_37 : decode prog_83_method_21_code 37 = .ok (.iconst 1, 1) := by decide +kernel
theorem d2_38 : decode prog_83_method_21_code 38 = .ok (.iadd, 1) := by decide +kernel
theorem d2_39 : decode prog_83_method_21_code 39 = .ok (.baload, 1) := by decide +kernel
theorem d2_40 : decode prog_83_method_21_code 40 = .ok (.bipush 10, 2) := by decide +kernel
theorem d2_42 : decode prog_83_method_21_code 42 = .ok (.if_icmp .ne 9, 3) := by decide +kernel
theorem d2_45 : decode prog_83_method_21_code 45 = .ok (.iload_n 1, 1) := by decide +kernel
theorem d2_46 : decode prog_83_method_21_code 46 = .ok (.iconst 2, 1) := by decide +kernel
theorem d2_47 : decode prog_83_method_21_code 47 = .ok (.iadd, 1) := by decide +kernel
theorem d2_48 : decode prog_83_method_21_code 48 = .ok (.goto 6, 3) := by decide +kernel
theorem d2_54 : decode prog_83_method_21_code 54 = .ok (.istore_n 3, 1) := by decide +kernel
theorem d2_51 : decode prog_83_method_21_code 51 = .ok (.iload_n 1, 1) := by decide +kernel
theorem d2_52 : decode prog_83_method_21_code 52 = .ok (.iconst 1, 1) := by decide +kernel
theorem d2_53 : decode prog_83_method_21_code 53 = .ok (.iadd, 1) := by decide +kernel
theorem pn_1 : plainName "com/example/arcwalk/arcwalk/TermSpans" = true := by first | (simp [plainName, overriddenIn]; done) | decide +kernel
theorem ef_2 (m : MethodId) (x0 : Addr) (x1 : Int32) (x2 : Int32) : entryFrame m #[(.ref x0), (.int x1), (.int x2)] 4 = mkF m 0 #[rv x0, iv x1, iv x2, .unset] [] := by first | (simp [entryFrame, mkF, argsToLocals, Value.category]; done) | rfl
def f_end (ar : Addr) (ia : Int32) (ib : Int32) (fB : Nat → Int32) : Int32 := (if ia < ib then (if (fB (ia).toNatClampNeg) = (10 : Int32) then (ia + (1 : Int32)) else (if (fB (ia).toNatClampNeg) = (13 : Int32) then (if (fB ((ia + (1 : Int32))).toNatClampNeg) = (10 : Int32) then (ia + (2 : Int32)) else (ia + (1 : Int32))) else (-1 : Int32))) else (-1 : Int32))
def Q2 (Z : State) (ar : Addr) (ia : Int32) (ib : Int32) (fB : Nat → Int32) (h0 : Heap) (n0 : Nat) (v : Option Value) (h : Heap) (L : List Loc) : Prop := v = some (.int (f_end ar ia ib fB)) ∧ Fr n0 L ∧ h = h0
set_option maxRecDepth 65536 in
set_option maxHeartbeats 40000000 in
theorem rm2 (l : Launch) (Z : State) (a0 : Array Value) (hw : ∀ d ∈ tables_1, d.before a0 Z = true) (ws : List Jvm.Cond) (ar : Addr) (ia : Int32) (ib : Int32) (fB : Nat → Int32) (h0 : Heap) (n0 : Nat) (Z0 : n0 ≤ h0.size) (VB : BA Z h0 ar 6 fB) (h1 : 0 ≤ ia.toInt) (h2 : ib.toInt ≤ 6) (h3 : ia < ib → ¬ (fB (ia).toNatClampNeg = (10 : Int32)) → 0 ≤ (ia + (1 : Int32)).toInt ∧ (ia + (1 : Int32)).toInt < ((6 : Nat) : Int)) :
    MetFree l (⟨"com/example/arcwalk/arcwalk/TermSpans", "endingEnd", "([BII)I"⟩ : MethodName) (head1 (Jvm.Cond.code (⟨"com/example/arcwalk/arcwalk/TermSpans", "endingEnd", "([BII)I"⟩ : MethodName) prog_83_method_21_code 4 (some .int) :: ws) ({ frames := 0, cells := 0, slots := 0, locals := 0 } : Room)) (fun a U => a = #[(.ref ar), (.int ia), (.int ib)] ∧ Z.Warmed39 U.vm ∧ U.heap = h0) (fun _ _ _ _ _ => True) (fun _ U o U' => ∃ v L, o = .returned v ∧ Q2 Z ar ia ib fB h0 n0 v U'.heap L ∧ FrameEnd U o U' L ({ frames := 0, cells := 0, slots := 0, locals := 0 } : Room).cells ({ frames := 0, cells := 0, slots := 0, locals := 0 } : Room).slots) := by
  refine MetFree.of_bodySF (plainFor_of_name pn_1) hisR ?_
  intro p e s m args below meth c s₁ Bd hml0 hP hK
  obtain ⟨rfl, hZ, hh⟩ := hP
  have hx := Bd.exec
  have hby := Bd.bytes
  have hml : c.maxLocals = 4 := hml0
  have hown : s.vm.findClass "com/example/arcwalk/arcwalk/TermSpans" = some m.cls := findClass_of_methodNamed Bd.named
  have hnm := (name_of_methodNamed Bd.named Bd.method).1
  have X0 : Stand p l e ({ frames := 0, cells := 0, slots := 0, locals := 0 } : Room) s m #[(.ref ar), (.int ia), (.int ib)] below meth c s₁ [] 0 0 := Stand.of_body Bd
  have e0 : s₁.heap = h0 := by rw [← hh, Bd.state]; rfl
  have N0 := Fr.nil n0
  have hlk : meth.locks = false := BodyLoose.notSynchronized Bd
  suffices hwk : Wk p.tables e below (s₁.setTop (mkF m 0 #[rv ar, iv ia, iv ib, .unset] [])) (fun U o => U.status = .running ∧ Ended U below o ∧ ∃ v L, o = .returned v ∧ Q2 Z ar ia ib fB h0 n0 v U.heap L ∧ FrameEnd s o U L 0 0) by
    obtain ⟨U, o, k1, k2⟩ := hwk
    exact ⟨U, o, castTop (ef_2 m ar ia ib) k1, k2⟩
  refine Wk.go (A' := s₁.setTop (mkF m 1 #[rv ar, iv ia, iv ib, .unset] [(.int (-1 : Int32))])) (fun t k => XS.iconst X0.here hx rfl (hb hby d2_0) k) ?_
  refine Wk.go (A' := s₁.setTop (mkF m 2 #[rv ar, iv ia, iv ib, iv (-1 : Int32)] [])) (fun t k => XS.istoreN X0.here hx rfl (hb hby d2_1) rfl (l' := #[rv ar, iv ia, iv ib, iv (-1 : Int32)]) rfl k) ?_
  refine Wk.go (A' := s₁.setTop (mkF m 3 #[rv ar, iv ia, iv ib, iv (-1 : Int32)] [(.int ia)])) (fun t k => XS.iloadN X0.here hx rfl (hb hby d2_2) rfl k) ?_
  refine Wk.go (A' := s₁.setTop (mkF m 4 #[rv ar, iv ia, iv ib, iv (-1 : Int32)] [(.int ib), (.int ia)])) (fun t k => XS.iloadN X0.here hx rfl (hb hby d2_3) rfl k) ?_
  by_cases hc4 : ia < ib
  · refine Wk.go (A' := s₁.setTop (mkF m 7 #[rv ar, iv ia, iv ib, iv (-1 : Int32)] [])) (fun t k => XS.icmpNo X0.here hx rfl (hb hby d2_4) rfl (tlt hc4).2.1 k) ?_
    refine Wk.go (A' := s₁.setTop (mkF m 8 #[rv ar, iv ia, iv ib, iv (-1 : Int32)] [(.ref ar)])) (fun t k => XS.aloadN X0.here hx rfl (hb hby d2_7) rfl rfl k) ?_
    refine Wk.go (A' := s₁.setTop (mkF m 9 #[rv ar, iv ia, iv ib, iv (-1 : Int32)] [(.int ia), (.ref ar)])) (fun t k => XS.iloadN X0.here hx rfl (hb hby d2_8) rfl k) ?_
    refine Wk.go (A' := s₁.setTop (mkF m 10 #[rv ar, iv ia, iv ib, iv (-1 : Int32)] [(.int (fB (ia).toNatClampNeg))])) (fun t k => own_ldB X0 hx hZ e0 VB (j := ia) (own_b1 h1 hc4 h2) (g := (mkF m 9 #[rv ar, iv ia, iv ib, iv (-1 : Int32)] [(.int ia), (.ref ar)])) rfl rfl (hb hby d2_9) t k) ?_
    refine Wk.go (A' := s₁.setTop (mkF m 12 #[rv ar, iv ia, iv ib, iv (-1 : Int32)] [(.int (10 : Int32)), (.int (fB (ia).toNatClampNeg))])) (fun t k => XS.bipush X0.here hx rfl (hb hby d2_10) k) ?_
    by_cases hc12 : (fB (ia).toNatClampNeg) = (10 : Int32)
    · refine Wk.go (A' := s₁.setTop (mkF m 15 #[rv ar, iv ia, iv ib, iv (-1 : Int32)] [])) (fun t k => XS.icmpNo X0.here hx rfl (hb hby d2_12) rfl (teq hc12).2 k) ?_
      refine Wk.go (A' := s₁.setTop (mkF m 16 #[rv ar, iv ia, iv ib, iv (-1 : Int32)] [(.int ia)])) (fun t k => XS.iloadN X0.here hx rfl (hb hby d2_15) rfl k) ?_
      refine Wk.go (A' := s₁.setTop (mkF m 17 #[rv ar, iv ia, iv ib, iv (-1 : Int32)] [(.int (1 : Int32)), (.int ia)])) (fun t k => XS.iconst X0.here hx rfl (hb hby d2_16) k) ?_
      refine Wk.go (A' := s₁.setTop (mkF m 18 #[rv ar, iv ia, iv ib, iv (-1 : Int32)] [(.int (ia + (1 : Int32)))])) (fun t k => XS.iadd X0.here hx rfl (hb hby d2_17) rfl k) ?_
      refine Wk.go (A' := s₁.setTop (mkF m 19 #[rv ar, iv ia, iv ib, iv (ia + (1 : Int32))] [])) (fun t k => XS.istoreN X0.here hx rfl (hb hby d2_18) rfl (l' := #[rv ar, iv ia, iv ib, iv (ia + (1 : Int32))]) rfl k) ?_
      refine Wk.go (A' := s₁.setTop (mkF m 55 #[rv ar, iv ia, iv ib, iv (ia + (1 : Int32))] [])) (fun t k => XS.goto X0.here hx rfl (pc0 := 19) (pc' := 55) rfl (hb hby d2_19) (by decide) (by decide) k) ?_
      refine Wk.go (A' := s₁.setTop (mkF m 56 #[rv ar, iv ia, iv ib, iv (ia + (1 : Int32))] [(.int (ia + (1 : Int32)))])) (fun t k => XS.iloadN X0.here hx rfl (hb hby d2_55) rfl k) ?_
      refine own_fin (Qv := Q2 Z ar ia ib fB h0 n0) (v := some (.int (ia + (1 : Int32)))) X0 hlk (fun h => by rw [Bd.returns] at h; cases h) (fun fs hr => retI X0 hx Bd.returns (hb hby d2_56) hr) ?_ (by decide) (by decide)
      refine ⟨?_, N0, e0⟩
      simp only [f_end, if_pos hc4, if_pos hc12]
    · refine Wk.go (A' := s₁.setTop (mkF m 22 #[rv ar, iv ia, iv ib, iv (-1 : Int32)] [])) (fun t k => XS.icmpYes X0.here hx rfl (pc0 := 12) (pc' := 22) rfl (hb hby d2_12) rfl (feq hc12).2 (by decide) (by decide) k) ?_
      refine Wk.go (A' := s₁.setTop (mkF m 23 #[rv ar, iv ia, iv ib, iv (-1 : Int32)] [(.int ia)])) (fun t k => XS.iloadN X0.here hx rfl (hb hby d2_22) rfl k) ?_
      refine Wk.go (A' := s₁.setTop (mkF m 24 #[rv ar, iv ia, iv ib, iv (-1 : Int32)] [(.int ib), (.int ia)])) (fun t k => XS.iloadN X0.here hx rfl (hb hby d2_23) rfl k) ?_
      refine Wk.go (A' := s₁.setTop (mkF m 27 #[rv ar, iv ia, iv ib, iv (-1 : Int32)] [])) (fun t k => XS.icmpNo X0.here hx rfl (hb hby d2_24) rfl (tlt hc4).2.1 k) ?_
      refine Wk.go (A' := s₁.setTop (mkF m 28 #[rv ar, iv ia, iv ib, iv (-1 : Int32)] [(.ref ar)])) (fun t k => XS.aloadN X0.here hx rfl (hb hby d2_27) rfl rfl k) ?_
      refine Wk.go (A' := s₁.setTop (mkF m 29 #[rv ar, iv ia, iv ib, iv (-1 : Int32)] [(.int ia), (.ref ar)])) (fun t k => XS.iloadN X0.here hx rfl (hb hby d2_28) rfl k) ?_
      refine Wk.go (A' := s₁.setTop (mkF m 30 #[rv ar, iv ia, iv ib, iv (-1 : Int32)] [(.int (fB (ia).toNatClampNeg))])) (fun t k => own_ldB X0 hx hZ e0 VB (j := ia) (own_b1 h1 hc4 h2) (g := (mkF m 29 #[rv ar, iv ia, iv ib, iv (-1 : Int32)] [(.int ia), (.ref ar)])) rfl rfl (hb hby d2_29) t k) ?_
      refine Wk.go (A' := s₁.setTop (mkF m 32 #[rv ar, iv ia, iv ib, iv (-1 : Int32)] [(.int (13 : Int32)), (.int (fB (ia).toNatClampNeg))])) (fun t k => XS.bipush X0.here hx rfl (hb hby d2_30) k) ?_
      by_cases hc32 : (fB (ia).toNatClampNeg) = (13 : Int32)
      · refine Wk.go (A' := s₁.setTop (mkF m 35 #[rv ar, iv ia, iv ib, iv (-1 : Int32)] [])) (fun t k => XS.icmpNo X0.here hx rfl (hb hby d2_32) rfl (teq hc32).2 k) ?_
        refine Wk.go (A' := s₁.setTop (mkF m 36 #[rv ar, iv ia, iv ib, iv (-1 : Int32)] [(.ref ar)])) (fun t k => XS.aloadN X0.here hx rfl (hb hby d2_35) rfl rfl k) ?_
        refine Wk.go (A' := s₁.setTop (mkF m 37 #[rv ar, iv ia, iv ib, iv (-1 : Int32)] [(.int ia), (.ref ar)])) (fun t k => XS.iloadN X0.here hx rfl (hb hby d2_36) rfl k) ?_
        refine Wk.go (A' := s₁.setTop (mkF m 38 #[rv ar, iv ia, iv ib, iv (-1 : Int32)] [(.int (1 : Int32)), (.int ia), (.ref ar)])) (fun t k => XS.iconst X0.here hx rfl (hb hby d2_37) k) ?_
        refine Wk.go (A' := s₁.setTop (mkF m 39 #[rv ar, iv ia, iv ib, iv (-1 : Int32)] [(.int (ia + (1 : Int32))), (.ref ar)])) (fun t k => XS.iadd X0.here hx rfl (hb hby d2_38) rfl k) ?_
        refine Wk.go (A' := s₁.setTop (mkF m 40 #[rv ar, iv ia, iv ib, iv (-1 : Int32)] [(.int (fB ((ia + (1 : Int32))).toNatClampNeg))])) (fun t k => own_ldB X0 hx hZ e0 VB (j := (ia + (1 : Int32))) (h3 hc4 hc12) (g := (mkF m 39 #[rv ar, iv ia, iv ib, iv (-1 : Int32)] [(.int (ia + (1 : Int32))), (.ref ar)])) rfl rfl (hb hby d2_39) t k) ?_
        refine Wk.go (A' := s₁.setTop (mkF m 42 #[rv ar, iv ia, iv ib, iv (-1 : Int32)] [(.int (10 : Int32)), (.int (fB ((ia + (1 : Int32))).toNatClampNeg))])) (fun t k => XS.bipush X0.here hx rfl (hb hby d2_40) k) ?_
        by_cases hc42 : (fB ((ia + (1 : Int32))).toNatClampNeg) = (10 : Int32)
        · refine Wk.go (A' := s₁.setTop (mkF m 45 #[rv ar, iv ia, iv ib, iv (-1 : Int32)] [])) (fun t k => XS.icmpNo X0.here hx rfl (hb hby d2_42) rfl (teq hc42).2 k) ?_
          refine Wk.go (A' := s₁.setTop (mkF m 46 #[rv ar, iv ia, iv ib, iv (-1 : Int32)] [(.int ia)])) (fun t k => XS.iloadN X0.here hx rfl (hb hby d2_45) rfl k) ?_
          refine Wk.go (A' := s₁.setTop (mkF m 47 #[rv ar, iv ia, iv ib, iv (-1 : Int32)] [(.int (2 : Int32)), (.int ia)])) (fun t k => XS.iconst X0.here hx rfl (hb hby d2_46) k) ?_
          refine Wk.go (A' := s₁.setTop (mkF m 48 #[rv ar, iv ia, iv ib, iv (-1 : Int32)] [(.int (ia + (2 : Int32)))])) (fun t k => XS.iadd X0.here hx rfl (hb hby d2_47) rfl k) ?_
          refine Wk.go (A' := s₁.setTop (mkF m 54 #[rv ar, iv ia, iv ib, iv (-1 : Int32)] [(.int (ia + (2 : Int32)))])) (fun t k => XS.goto X0.here hx rfl (pc0 := 48) (pc' := 54) rfl (hb hby d2_48) (by decide) (by decide) k) ?_
          refine Wk.go (A' := s₁.setTop (mkF m 55 #[rv ar, iv ia, iv ib, iv (ia + (2 : Int32))] [])) (fun t k => XS.istoreN X0.here hx rfl (hb hby d2_54) rfl (l' := #[rv ar, iv ia, iv ib, iv (ia + (2 : Int32))]) rfl k) ?_
          refine Wk.go (A' := s₁.setTop (mkF m 56 #[rv ar, iv ia, iv ib, iv (ia + (2 : Int32))] [(.int (ia + (2 : Int32)))])) (fun t k => XS.iloadN X0.here hx rfl (hb hby d2_55) rfl k) ?_
          refine own_fin (Qv := Q2 Z ar ia ib fB h0 n0) (v := some (.int (ia + (2 : Int32)))) X0 hlk (fun h => by rw [Bd.returns] at h; cases h) (fun fs hr => retI X0 hx Bd.returns (hb hby d2_56) hr) ?_ (by decide) (by decide)
          refine ⟨?_, N0, e0⟩
          simp only [f_end, if_pos hc4, if_neg hc12, if_pos hc32, if_pos hc42]
        · refine Wk.go (A' := s₁.setTop (mkF m 51 #[rv ar, iv ia, iv ib, iv (-1 : Int32)] [])) (fun t k => XS.icmpYes X0.here hx rfl (pc0 := 42) (pc' := 51) rfl (hb hby d2_42) rfl (feq hc42).2 (by decide) (by decide) k) ?_
          refine Wk.go (A' := s₁.setTop (mkF m 52 #[rv ar, iv ia, iv ib, iv (-1 : Int32)] [(.int ia)])) (fun t k => XS.iloadN X0.here hx rfl (hb hby d2_51) rfl k) ?_
          refine Wk.go (A' := s₁.setTop (mkF m 53 #[rv ar, iv ia, iv ib, iv (-1 : Int32)] [(.int (1 : Int32)), (.int ia)])) (fun t k => XS.iconst X0.here hx rfl (hb hby d2_52) k) ?_
          refine Wk.go (A' := s₁.setTop (mkF m 54 #[rv ar, iv ia, iv ib, iv (-1 : Int32)] [(.int (ia + (1 : Int32)))])) (fun t k => XS.iadd X0.here hx rfl (hb hby d2_53) rfl k) ?_
          refine Wk.go (A' := s₁.setTop (mkF m 55 #[rv ar, iv ia, iv ib, iv (ia + (1 : Int32))] [])) (fun t k => XS.istoreN X0.here hx rfl (hb hby d2_54) rfl (l' := #[rv ar, iv ia, iv ib, iv (ia + (1 : Int32))]) rfl k) ?_
          refine Wk.go (A' := s₁.setTop (mkF m 56 #[rv ar, iv ia, iv ib, iv (ia + (1 : Int32))] [(.int (ia + (1 : Int32)))])) (fun t k => XS.iloadN X0.here hx rfl (hb hby d2_55) rfl k) ?_
          refine own_fin (Qv := Q2 Z ar ia ib fB h0 n0) (v := some (.int (ia + (1 : Int32)))) X0 hlk (fun h => by rw [Bd.returns] at h; cases h) (fun fs hr => retI X0 hx Bd.returns (hb hby d2_56) hr) ?_ (by decide) (by decide)
          refine ⟨?_, N0, e0⟩
          simp only [f_end, if_pos hc4, if_neg hc12, if_pos hc32, if_neg hc42]
      · refine Wk.go (A' := s₁.setTop (mkF m 55 #[rv ar, iv ia, iv ib, iv (-1 : Int32)] [])) (fun t k => XS.icmpYes X0.here hx rfl (pc0 := 32) (pc' := 55) rfl (hb hby d2_32) rfl (feq hc32).2 (by decide) (by decide) k) ?_
        refine Wk.go (A' := s₁.setTop (mkF m 56 #[rv ar, iv ia, iv ib, iv (-1 : Int32)] [(.int (-1 : Int32))])) (fun t k => XS.iloadN X0.here hx rfl (hb hby d2_55) rfl k) ?_
        refine own_fin (Qv := Q2 Z ar ia ib fB h0 n0) (v := some (.int (-1 : Int32))) X0 hlk (fun h => by rw [Bd.returns] at h; cases h) (fun fs hr => retI X0 hx Bd.returns (hb hby d2_56) hr) ?_ (by decide) (by decide)
        refine ⟨?_, N0, e0⟩
        simp only [f_end, if_pos hc4, if_neg hc12, if_neg hc32]
  · refine Wk.go (A' := s₁.setTop (mkF m 22 #[rv ar, iv ia, iv ib, iv (-1 : Int32)] [])) (fun t k => XS.icmpYes X0.here hx rfl (pc0 := 4) (pc' := 22) rfl (hb hby d2_4) rfl (flt hc4).2.1 (by decide) (by decide) k) ?_
    refine Wk.go (A' := s₁.setTop (mkF m 23 #[rv ar, iv ia, iv ib, iv (-1 : Int32)] [(.int ia)])) (fun t k => XS.iloadN X0.here hx rfl (hb hby d2_22) rfl k) ?_
    refine Wk.go (A' := s₁.setTop (mkF m 24 #[rv ar, iv ia, iv ib, iv (-1 : Int32)] [(.int ib), (.int ia)])) (fun t k => XS.iloadN X0.here hx rfl (hb hby d2_23) rfl k) ?_
    refine Wk.go (A' := s₁.setTop (mkF m 55 #[rv ar, iv ia, iv ib, iv (-1 : Int32)] [])) (fun t k => XS.icmpYes X0.here hx rfl (pc0 := 24) (pc' := 55) rfl (hb hby d2_24) rfl (flt hc4).2.1 (by decide) (by decide) k) ?_
    refine Wk.go (A' := s₁.setTop (mkF m 56 #[rv ar, iv ia, iv ib, iv (-1 : Int32)] [(.int (-1 : Int32))])) (fun t k => XS.iloadN X0.here hx rfl (hb hby d2_55) rfl k) ?_
    refine own_fin (Qv := Q2 Z ar ia ib fB h0 n0) (v := some (.int (-1 : Int32))) X0 hlk (fun h => by rw [Bd.returns] at h; cases h) (fun fs hr => retI X0 hx Bd.returns (hb hby d2_56) hr) ?_ (by decide) (by decide)
    refine ⟨?_, N0, e0⟩
    simp only [f_end, if_neg hc4]
theorem own_to (q : Int32) : 1 ≤ ((1 : Int32) + ((q &&& (2147483647 : Int32)) % (6 : Int32))).toInt ∧ ((1 : Int32) + ((q &&& (2147483647 : Int32)) % (6 : Int32))).toInt ≤ 6 := by
  have h1 := c_mask q 2147483647 31 (by decide) (by decide)
  have h2 := (c_irem (q &&& (2147483647 : Int32)) 6 6 (by decide)).1 (by omega)
  have h3 := c_iadd 1 ((q &&& (2147483647 : Int32)) % (6 : Int32))
  have h4 := rng32 ((1 : Int32) + ((q &&& (2147483647 : Int32)) % (6 : Int32)))
  have e1 : (1 : Int32).toInt = 1 := by decide
  omega
theorem own_at (q : Int32) : 0 ≤ (q &&& (7 : Int32)).toInt ∧ (q &&& (7 : Int32)).toInt ≤ 7 := by
  have h1 := c_mask q 7 3 (by decide) (by decide)
  omega
theorem own_m1 {k : Int32} (h1 : 1 ≤ k.toInt) (h2 : k.toInt ≤ 6) : 0 ≤ (k - (1 : Int32)).toInt ∧ (k - (1 : Int32)).toInt < ((6 : Nat) : Int) ∧ (k - (1 : Int32)).toInt = k.toInt - 1 := by
  have h := c_isub k 1
  have r := rng32 (k - 1)
  have e1 : (1 : Int32).toInt = 1 := by decide
  omega
theorem own_p1 {k : Int32} (h1 : 0 ≤ k.toInt) (h2 : k.toInt < 6) : (k + (1 : Int32)).toInt = k.toInt + 1 := by
  have h := c_iadd k 1
  have r := rng32 (k + 1)
  have e1 : (1 : Int32).toInt = 1 := by decide
  omega
theorem own_nx {f g : Nat → Int32} {ia ib : Int32} (hf : f = own_upd g (ib - (1 : Int32)).toNatClampNeg ((10 : Int32).toInt8.toInt32)) (h0 : 0 ≤ ia.toInt) (h1 : 1 ≤ ib.toInt) (h2 : ib.toInt ≤ 6) (hlt : ia < ib) (hne : ¬ (f (ia).toNatClampNeg = (10 : Int32))) : 0 ≤ (ia + (1 : Int32)).toInt ∧ (ia + (1 : Int32)).toInt < ((6 : Nat) : Int) := by
  have hm := own_m1 h1 h2
  rw [Int32.lt_iff_toInt_lt] at hlt
  have hp := own_p1 h0 (show ia.toInt < 6 by omega)
  by_cases q : ia.toInt = ib.toInt - 1
  · exfalso
    apply hne
    have e : ia = ib - 1 := Int32.toInt_inj.mp (by omega)
    rw [hf, e, own_upd_eq]; decide
  · omega
theorem tw0 {Z : State} {a0 : Array Value} (hw : ∀ d ∈ tables_1, d.before a0 Z = true) : (Jvm.Cond.arrayClass Jvm.ClassFile.FieldType.byte).before a0 Z = true := hw _ (List.mem_of_getElem? (i := 0) rfl)
theorem tw1 {Z : State} {a0 : Array Value} (hw : ∀ d ∈ tables_1, d.before a0 Z = true) : (Jvm.Cond.methodLink "com/example/arcwalk/arcwalk/TermSpansEndingEndPinLaw" (7 : Nat) ({ cls := "com/example/arcwalk/arcwalk/TermSpansEndingEndPinLaw", name := "draw", desc := "(JI)B" } : Jvm.MethodName)).before a0 Z = true := hw _ (List.mem_of_getElem? (i := 1) rfl)
theorem tw4 {Z : State} {a0 : Array Value} (hw : ∀ d ∈ tables_1, d.before a0 Z = true) : (Jvm.Cond.code ({ cls := "com/example/arcwalk/arcwalk/TermSpansEndingEndPinLaw", name := "draw", desc := "(JI)B" } : Jvm.MethodName) method_2_code (5 : Nat) (Option.some Jvm.ClassFile.FieldType.byte)).before a0 Z = true := hw _ (List.mem_of_getElem? (i := 4) rfl)
theorem tw3 {Z : State} {a0 : Array Value} (hw : ∀ d ∈ tables_1, d.before a0 Z = true) : (Jvm.Cond.initialized "com/example/arcwalk/arcwalk/TermSpansEndingEndPinLaw").before a0 Z = true := hw _ (List.mem_of_getElem? (i := 3) rfl)
theorem pd_0 : parseMethodDescriptor "(JI)B" = some ⟨[.long, .int], some .byte⟩ := by decide +kernel
theorem tw2 {Z : State} {a0 : Array Value} (hw : ∀ d ∈ tables_1, d.before a0 Z = true) : (Jvm.Cond.static ({ cls := "com/example/arcwalk/arcwalk/TermSpansEndingEndPinLaw", name := "draw", desc := "(JI)B" } : Jvm.MethodName)).before a0 Z = true := hw _ (List.mem_of_getElem? (i := 2) rfl)
theorem tw5 {Z : State} {a0 : Array Value} (hw : ∀ d ∈ tables_1, d.before a0 Z = true) : (Jvm.Cond.constant "com/example/arcwalk/arcwalk/TermSpansEndingEndPinLaw" (13 : Nat) (2147483647 : Int32)).before a0 Z = true := hw _ (List.mem_of_getElem? (i := 5) rfl)
theorem tw6 {Z : State} {a0 : Array Value} (hw : ∀ d ∈ tables_1, d.before a0 Z = true) : (Jvm.Cond.methodLink "com/example/arcwalk/arcwalk/TermSpansEndingEndPinLaw" (14 : Nat) ({ cls := "com/example/arcwalk/arcwalk/TermSpans", name := "endingEnd", desc := "([BII)I" } : Jvm.MethodName)).before a0 Z = true := hw _ (List.mem_of_getElem? (i := 6) rfl)
theorem tw9 {Z : State} {a0 : Array Value} (hw : ∀ d ∈ tables_1, d.before a0 Z = true) : (Jvm.Cond.code ({ cls := "com/example/arcwalk/arcwalk/TermSpans", name := "endingEnd", desc := "([BII)I" } : Jvm.MethodName) prog_83_method_21_code (4 : Nat) (Option.some Jvm.ClassFile.FieldType.int)).before a0 Z = true := hw _ (List.mem_of_getElem? (i := 9) rfl)
theorem tw8 {Z : State} {a0 : Array Value} (hw : ∀ d ∈ tables_1, d.before a0 Z = true) : (Jvm.Cond.initialized "com/example/arcwalk/arcwalk/TermSpans").before a0 Z = true := hw _ (List.mem_of_getElem? (i := 8) rfl)
theorem pd_1 : parseMethodDescriptor "([BII)I" = some ⟨[(.array .byte), .int, .int], some .int⟩ := by decide +kernel
theorem tw7 {Z : State} {a0 : Array Value} (hw : ∀ d ∈ tables_1, d.before a0 Z = true) : (Jvm.Cond.static ({ cls := "com/example/arcwalk/arcwalk/TermSpans", name := "endingEnd", desc := "([BII)I" } : Jvm.MethodName)).before a0 Z = true := hw _ (List.mem_of_getElem? (i := 7) rfl)
theorem ef_0 (m : MethodId) (x0 : Int64) (x1 : Int32) (x2 : Int32) : entryFrame m #[(.long x0), (.int x1), (.int x2)] maxLocals = mkF m 0 #[jv x0, .second, iv x1, iv x2, .unset, .unset, .unset, .unset, .unset, .unset] [] := by first | (simp [entryFrame, mkF, argsToLocals, Value.category, maxLocals]; done) | rfl
def Q0 (Z : State) (pq : Int64) (ax : Int32) (tx : Int32)  (h0 : Heap) (n0 : Nat) (v : Option Value) (h : Heap) (L : List Loc) : Prop := v = some (.int 1) ∧ Fr n0 L
set_option maxRecDepth 65536 in
set_option maxHeartbeats 40000000 in
theorem rm0 (l : Launch) (Z : State) (a0 : Array Value) (hw : ∀ d ∈ tables_1, d.before a0 Z = true) (ws : List Jvm.Cond) (pq : Int64) (ax : Int32) (tx : Int32)  (h0 : Heap) (n0 : Nat) (Z0 : n0 ≤ h0.size)  :
    MetFree l x (head1 (Jvm.Cond.code x code maxLocals ret :: ws) room_1) (fun a U => a = #[(.long pq), (.int ax), (.int tx)] ∧ Z.Warmed39 U.vm ∧ U.heap = h0) (fun _ _ _ _ _ => True) (fun _ U o U' => ∃ v L, o = .returned v ∧ Q0 Z pq ax tx h0 n0 v U'.heap L ∧ FrameEnd U o U' L 1 6) := by
  refine MetFree.of_bodySF (plainFor_of_name pn_0) hisR ?_
  intro p e s m args below meth c s₁ Bd hml0 hP hK
  obtain ⟨rfl, hZ, hh⟩ := hP
  have hx := Bd.exec
  have hby := Bd.bytes
  have hml : c.maxLocals = 10 := hml0
  have hown : s.vm.findClass "com/example/arcwalk/arcwalk/TermSpansEndingEndPinLaw" = some m.cls := findClass_of_methodNamed Bd.named
  have hnm := (name_of_methodNamed Bd.named Bd.method).1
  have X0 : Stand p l e room_1 s m #[(.long pq), (.int ax), (.int tx)] below meth c s₁ [] 0 0 := Stand.of_body Bd
  have e0 : s₁.heap = h0 := by rw [← hh, Bd.state]; rfl
  have N0 := Fr.nil n0
  have hlk : meth.locks = false := BodyLoose.notSynchronized Bd
  suffices hwk : Wk p.tables e below (s₁.setTop (mkF m 0 #[jv pq, .second, iv ax, iv tx, .unset, .unset, .unset, .unset, .unset, .unset] [])) (fun U o => U.status = .running ∧ Ended U below o ∧ ∃ v L, o = .returned v ∧ Q0 Z pq ax tx h0 n0 v U.heap L ∧ FrameEnd s o U L 1 6) by
    obtain ⟨U, o, k1, k2⟩ := hwk
    exact ⟨U, o, castTop (ef_0 m pq ax tx) k1, k2⟩
  refine Wk.go (A' := s₁.setTop (mkF m 2 #[jv pq, .second, iv ax, iv tx, .unset, .unset, .unset, .unset, .unset, .unset] [(.int (6 : Int32))])) (fun t k => XS.bipush X0.here hx rfl (hb hby at_0) k) ?_
  obtain ⟨T1, h1, k1, X1, e1, E1, A1, st1⟩ := newP (aty := .byte) X0 hx hZ (tw0 hw) e0 (g := (mkF m 2 #[jv pq, .second, iv ax, iv tx, .unset, .unset, .unset, .unset, .unset, .unset] [(.int (6 : Int32))])) rfl (hb hby at_2) rfl (by decide) (cap := 6) (by decide) (by decide) (by decide) (by decide)
  obtain ⟨b1, g1⟩ : ∃ z, z = h0.size := ⟨_, rfl⟩
  rw [← g1] at A1 st1
  have g_b1 : n0 ≤ b1 := Nat.le_trans Z0 (Nat.le_of_eq g1.symm)
  have V1 : BA Z h1 b1 6 (fun _ => 0) := BA.new A1
  have Zp1 : n0 ≤ h1.size := Nat.le_trans Z0 E1.1
  refine Wk.go (A' := T1.setTop (mkF m 4 #[jv pq, .second, iv ax, iv tx, .unset, .unset, .unset, .unset, .unset, .unset] [(.ref b1)])) (fun t k => st1 t k) ?_
  refine Wk.go (A' := T1.setTop (mkF m 6 #[jv pq, .second, iv ax, iv tx, rv b1, .unset, .unset, .unset, .unset, .unset] [])) (fun t k => XS.astore X1.here hx rfl (hb hby at_4) rfl rfl (l' := #[jv pq, .second, iv ax, iv tx, rv b1, .unset, .unset, .unset, .unset, .unset]) rfl k) ?_
  refine Wk.go (A' := T1.setTop (mkF m 8 #[jv pq, .second, iv ax, iv tx, rv b1, .unset, .unset, .unset, .unset, .unset] [(.ref b1)])) (fun t k => XS.aload X1.here hx rfl (hb hby at_6) rfl rfl k) ?_
  refine Wk.go (A' := T1.setTop (mkF m 9 #[jv pq, .second, iv ax, iv tx, rv b1, .unset, .unset, .unset, .unset, .unset] [(.int (0 : Int32)), (.ref b1)])) (fun t k => XS.iconst X1.here hx rfl (hb hby at_8) k) ?_
  refine Wk.go (A' := T1.setTop (mkF m 10 #[jv pq, .second, iv ax, iv tx, rv b1, .unset, .unset, .unset, .unset, .unset] [(.long pq), (.int (0 : Int32)), (.ref b1)])) (fun t k => XS.lloadN X1.here hx rfl (hb hby at_9) rfl k) ?_
  refine Wk.go (A' := T1.setTop (mkF m 11 #[jv pq, .second, iv ax, iv tx, rv b1, .unset, .unset, .unset, .unset, .unset] [(.int (0 : Int32)), (.long pq), (.int (0 : Int32)), (.ref b1)])) (fun t k => XS.iconst X1.here hx rfl (hb hby at_10) k) ?_
  obtain ⟨_, _, ⟨T2, L2, k2, n2⟩, -, X2, ⟨Lc2, hQ2, l2, y2, z2⟩, st2⟩ := Jvm.LawKit.callS X1 hx (y := (⟨"com/example/arcwalk/arcwalk/TermSpansEndingEndPinLaw", "draw", "(JI)B"⟩ : MethodName)) hown (mvT hZ (tw1 hw)) (mvT hZ (tw2 hw)) (mvT hZ (tw3 hw)) (mvT hZ (tw4 hw)) (by decide) (backOf (W := 2) (rm1 l Z a0 hw [] pq (0 : Int32)  h1 n0 Zp1 ) hZ (tw4 hw) (tw3 hw) (by decide) (by decide)) (g := (mkF m 11 #[jv pq, .second, iv ax, iv tx, rv b1, .unset, .unset, .unset, .unset, .unset] [(.int (0 : Int32)), (.long pq), (.int (0 : Int32)), (.ref b1)])) rfl (by rw [hml]; rfl) (argsL := [(.long pq), (.int (0 : Int32))]) (rest := [(.int (0 : Int32)), (.ref b1)]) (lenOf pd_0 rfl) rfl (by show 2 * 0 + _ ≤ _; exact Nat.le_of_eq rfl) (hb hby at_11) (fun _ _ => ⟨rfl, e1, (by decide : 1 + 0 ≤ _), (by decide : 6 + 0 ≤ _)⟩)
  dsimp only [Pt.U, Pt.locs, Pt.cells, Pt.slots] at X2 l2 y2 z2 st2 hQ2
  subst l2 y2 z2
  obtain ⟨rfl, N2q, hE2⟩ := hQ2
  have N2 := Fr.app N0 N2q
  refine Wk.go (A' := T2.setTop (mkF m 14 #[jv pq, .second, iv ax, iv tx, rv b1, .unset, .unset, .unset, .unset, .unset] [(.int (f_draw pq (0 : Int32))), (.int (0 : Int32)), (.ref b1)])) (fun t k => st2 t k) ?_
  obtain ⟨T3, h3, X3, e3, W3, B3, st3⟩ := own_stB X2 hx hZ (hE2) V1 (j := (0 : Int32)) (by decide) (g := (mkF m 14 #[jv pq, .second, iv ax, iv tx, rv b1, .unset, .unset, .unset, .unset, .unset] [(.int (f_draw pq (0 : Int32))), (.int (0 : Int32)), (.ref b1)])) rfl rfl (hb hby at_14)
  have V3 : BA Z h3 b1 6 (own_upd (fun _ => 0) 0 ((f_draw pq (0 : Int32))).toInt8.toInt32) := B3
  obtain ⟨f1, hf1⟩ : ∃ z, z = (own_upd (fun _ => 0) 0 ((f_draw pq (0 : Int32))).toInt8.toInt32) := ⟨_, rfl⟩
  rw [← hf1] at V3
  have f4 := V3
  have Zp3 : n0 ≤ h3.size := Nat.le_trans Zp1 (Nat.le_of_eq W3.size.symm)
  have N3 := Fr.snoc X3 N2 g_b1
  refine Wk.go (A' := T3.setTop (mkF m 15 #[jv pq, .second, iv ax, iv tx, rv b1, .unset, .unset, .unset, .unset, .unset] [])) (fun t k => st3 t k) ?_
  refine Wk.go (A' := T3.setTop (mkF m 17 #[jv pq, .second, iv ax, iv tx, rv b1, .unset, .unset, .unset, .unset, .unset] [(.ref b1)])) (fun t k => XS.aload X3.here hx rfl (hb hby at_15) rfl rfl k) ?_
  refine Wk.go (A' := T3.setTop (mkF m 18 #[jv pq, .second, iv ax, iv tx, rv b1, .unset, .unset, .unset, .unset, .unset] [(.int (1 : Int32)), (.ref b1)])) (fun t k => XS.iconst X3.here hx rfl (hb hby at_17) k) ?_
  refine Wk.go (A' := T3.setTop (mkF m 19 #[jv pq, .second, iv ax, iv tx, rv b1, .unset, .unset, .unset, .unset, .unset] [(.long pq), (.int (1 : Int32)), (.ref b1)])) (fun t k => XS.lloadN X3.here hx rfl (hb hby at_18) rfl k) ?_
  refine Wk.go (A' := T3.setTop (mkF m 20 #[jv pq, .second, iv ax, iv tx, rv b1, .unset, .unset, .unset, .unset, .unset] [(.int (1 : Int32)), (.long pq), (.int (1 : Int32)), (.ref b1)])) (fun t k => XS.iconst X3.here hx rfl (hb hby at_19) k) ?_
  obtain ⟨_, _, ⟨T5, L5, k5, n5⟩, -, X5, ⟨Lc5, hQ5, l5, y5, z5⟩, st5⟩ := Jvm.LawKit.callS X3 hx (y := (⟨"com/example/arcwalk/arcwalk/TermSpansEndingEndPinLaw", "draw", "(JI)B"⟩ : MethodName)) hown (mvT hZ (tw1 hw)) (mvT hZ (tw2 hw)) (mvT hZ (tw3 hw)) (mvT hZ (tw4 hw)) (by decide) (backOf (W := 2) (rm1 l Z a0 hw [] pq (1 : Int32)  h3 n0 Zp3 ) hZ (tw4 hw) (tw3 hw) (by decide) (by decide)) (g := (mkF m 20 #[jv pq, .second, iv ax, iv tx, rv b1, .unset, .unset, .unset, .unset, .unset] [(.int (1 : Int32)), (.long pq), (.int (1 : Int32)), (.ref b1)])) rfl (by rw [hml]; rfl) (argsL := [(.long pq), (.int (1 : Int32))]) (rest := [(.int (1 : Int32)), (.ref b1)]) (lenOf pd_0 rfl) rfl (by show 2 * 0 + _ ≤ _; exact Nat.le_of_eq rfl) (hb hby at_20) (fun _ _ => ⟨rfl, e3, (by decide : 1 + 0 ≤ _), (by decide : 6 + 0 ≤ _)⟩)
  dsimp only [Pt.U, Pt.locs, Pt.cells, Pt.slots] at X5 l5 y5 z5 st5 hQ5
  subst l5 y5 z5
  obtain ⟨rfl, N5q, hE5⟩ := hQ5
  have N5 := Fr.app N3 N5q
  refine Wk.go (A' := T5.setTop (mkF m 23 #[jv pq, .second, iv ax, iv tx, rv b1, .unset, .unset, .unset, .unset, .unset] [(.int (f_draw pq (1 : Int32))), (.int (1 : Int32)), (.ref b1)])) (fun t k => st5 t k) ?_
  obtain ⟨T6, h6, X6, e6, W6, B6, st6⟩ := own_stB X5 hx hZ (hE5) f4 (j := (1 : Int32)) (by decide) (g := (mkF m 23 #[jv pq, .second, iv ax, iv tx, rv b1, .unset, .unset, .unset, .unset, .unset] [(.int (f_draw pq (1 : Int32))), (.int (1 : Int32)), (.ref b1)])) rfl rfl (hb hby at_23)
  have V6 : BA Z h6 b1 6 (own_upd f1 1 ((f_draw pq (1 : Int32))).toInt8.toInt32) := B6
  obtain ⟨f2, hf2⟩ : ∃ z, z = (own_upd f1 1 ((f_draw pq (1 : Int32))).toInt8.toInt32) := ⟨_, rfl⟩
  rw [← hf2] at V6
  have f7 := V6
  have Zp6 : n0 ≤ h6.size := Nat.le_trans Zp3 (Nat.le_of_eq W6.size.symm)
  have N6 := Fr.snoc X6 N5 g_b1
  refine Wk.go (A' := T6.setTop (mkF m 24 #[jv pq, .second, iv ax, iv tx, rv b1, .unset, .unset, .unset, .unset, .unset] [])) (fun t k => st6 t k) ?_
  refine Wk.go (A' := T6.setTop (mkF m 26 #[jv pq, .second, iv ax, iv tx, rv b1, .unset, .unset, .unset, .unset, .unset] [(.ref b1)])) (fun t k => XS.aload X6.here hx rfl (hb hby at_24) rfl rfl k) ?_
  refine Wk.go (A' := T6.setTop (mkF m 27 #[jv pq, .second, iv ax, iv tx, rv b1, .unset, .unset, .unset, .unset, .unset] [(.int (2 : Int32)), (.ref b1)])) (fun t k => XS.iconst X6.here hx rfl (hb hby at_26) k) ?_
  refine Wk.go (A' := T6.setTop (mkF m 28 #[jv pq, .second, iv ax, iv tx, rv b1, .unset, .unset, .unset, .unset, .unset] [(.long pq), (.int (2 : Int32)), (.ref b1)])) (fun t k => XS.lloadN X6.here hx rfl (hb hby at_27) rfl k) ?_
  refine Wk.go (A' := T6.setTop (mkF m 29 #[jv pq, .second, iv ax, iv tx, rv b1, .unset, .unset, .unset, .unset, .unset] [(.int (2 : Int32)), (.long pq), (.int (2 : Int32)), (.ref b1)])) (fun t k => XS.iconst X6.here hx rfl (hb hby at_28) k) ?_
  obtain ⟨_, _, ⟨T8, L8, k8, n8⟩, -, X8, ⟨Lc8, hQ8, l8, y8, z8⟩, st8⟩ := Jvm.LawKit.callS X6 hx (y := (⟨"com/example/arcwalk/arcwalk/TermSpansEndingEndPinLaw", "draw", "(JI)B"⟩ : MethodName)) hown (mvT hZ (tw1 hw)) (mvT hZ (tw2 hw)) (mvT hZ (tw3 hw)) (mvT hZ (tw4 hw)) (by decide) (backOf (W := 2) (rm1 l Z a0 hw [] pq (2 : Int32)  h6 n0 Zp6 ) hZ (tw4 hw) (tw3 hw) (by decide) (by decide)) (g := (mkF m 29 #[jv pq, .second, iv ax, iv tx, rv b1, .unset, .unset, .unset, .unset, .unset] [(.int (2 : Int32)), (.long pq), (.int (2 : Int32)), (.ref b1)])) rfl (by rw [hml]; rfl) (argsL := [(.long pq), (.int (2 : Int32))]) (rest := [(.int (2 : Int32)), (.ref b1)]) (lenOf pd_0 rfl) rfl (by show 2 * 0 + _ ≤ _; exact Nat.le_of_eq rfl) (hb hby at_29) (fun _ _ => ⟨rfl, e6, (by decide : 1 + 0 ≤ _), (by decide : 6 + 0 ≤ _)⟩)
  dsimp only [Pt.U, Pt.locs, Pt.cells, Pt.slots] at X8 l8 y8 z8 st8 hQ8
  subst l8 y8 z8
  obtain ⟨rfl, N8q, hE8⟩ := hQ8
  have N8 := Fr.app N6 N8q
  refine Wk.go (A' := T8.setTop (mkF m 32 #[jv pq, .second, iv ax, iv tx, rv b1, .unset, .unset, .unset, .unset, .unset] [(.int (f_draw pq (2 : Int32))), (.int (2 : Int32)), (.ref b1)])) (fun t k => st8 t k) ?_
  obtain ⟨T9, h9, X9, e9, W9, B9, st9⟩ := own_stB X8 hx hZ (hE8) f7 (j := (2 : Int32)) (by decide) (g := (mkF m 32 #[jv pq, .second, iv ax, iv tx, rv b1, .unset, .unset, .unset, .unset, .unset] [(.int (f_draw pq (2 : Int32))), (.int (2 : Int32)), (.ref b1)])) rfl rfl (hb hby at_32)
  have V9 : BA Z h9 b1 6 (own_upd f2 2 ((f_draw pq (2 : Int32))).toInt8.toInt32) := B9
  obtain ⟨f3, hf3⟩ : ∃ z, z = (own_upd f2 2 ((f_draw pq (2 : Int32))).toInt8.toInt32) := ⟨_, rfl⟩
  rw [← hf3] at V9
  have f10 := V9
  have Zp9 : n0 ≤ h9.size := Nat.le_trans Zp6 (Nat.le_of_eq W9.size.symm)
  have N9 := Fr.snoc X9 N8 g_b1
  refine Wk.go (A' := T9.setTop (mkF m 33 #[jv pq, .second, iv ax, iv tx, rv b1, .unset, .unset, .unset, .unset, .unset] [])) (fun t k => st9 t k) ?_
  refine Wk.go (A' := T9.setTop (mkF m 35 #[jv pq, .second, iv ax, iv tx, rv b1, .unset, .unset, .unset, .unset, .unset] [(.ref b1)])) (fun t k => XS.aload X9.here hx rfl (hb hby at_33) rfl rfl k) ?_
  refine Wk.go (A' := T9.setTop (mkF m 36 #[jv pq, .second, iv ax, iv tx, rv b1, .unset, .unset, .unset, .unset, .unset] [(.int (3 : Int32)), (.ref b1)])) (fun t k => XS.iconst X9.here hx rfl (hb hby at_35) k) ?_
  refine Wk.go (A' := T9.setTop (mkF m 37 #[jv pq, .second, iv ax, iv tx, rv b1, .unset, .unset, .unset, .unset, .unset] [(.long pq), (.int (3 : Int32)), (.ref b1)])) (fun t k => XS.lloadN X9.here hx rfl (hb hby at_36) rfl k) ?_
  refine Wk.go (A' := T9.setTop (mkF m 38 #[jv pq, .second, iv ax, iv tx, rv b1, .unset, .unset, .unset, .unset, .unset] [(.int (3 : Int32)), (.long pq), (.int (3 : Int32)), (.ref b1)])) (fun t k => XS.iconst X9.here hx rfl (hb hby at_37) k) ?_
  obtain ⟨_, _, ⟨T11, L11, k11, n11⟩, -, X11, ⟨Lc11, hQ11, l11, y11, z11⟩, st11⟩ := Jvm.LawKit.callS X9 hx (y := (⟨"com/example/arcwalk/arcwalk/TermSpansEndingEndPinLaw", "draw", "(JI)B"⟩ : MethodName)) hown (mvT hZ (tw1 hw)) (mvT hZ (tw2 hw)) (mvT hZ (tw3 hw)) (mvT hZ (tw4 hw)) (by decide) (backOf (W := 2) (rm1 l Z a0 hw [] pq (3 : Int32)  h9 n0 Zp9 ) hZ (tw4 hw) (tw3 hw) (by decide) (by decide)) (g := (mkF m 38 #[jv pq, .second, iv ax, iv tx, rv b1, .unset, .unset, .unset, .unset, .unset] [(.int (3 : Int32)), (.long pq), (.int (3 : Int32)), (.ref b1)])) rfl (by rw [hml]; rfl) (argsL := [(.long pq), (.int (3 : Int32))]) (rest := [(.int (3 : Int32)), (.ref b1)]) (lenOf pd_0 rfl) rfl (by show 2 * 0 + _ ≤ _; exact Nat.le_of_eq rfl) (hb hby at_38) (fun _ _ => ⟨rfl, e9, (by decide : 1 + 0 ≤ _), (by decide : 6 + 0 ≤ _)⟩)
  dsimp only [Pt.U, Pt.locs, Pt.cells, Pt.slots] at X11 l11 y11 z11 st11 hQ11
  subst l11 y11 z11
  obtain ⟨rfl, N11q, hE11⟩ := hQ11
  have N11 := Fr.app N9 N11q
  refine Wk.go (A' := T11.setTop (mkF m 41 #[jv pq, .second, iv ax, iv tx, rv b1, .unset, .unset, .unset, .unset, .unset] [(.int (f_draw pq (3 : Int32))), (.int (3 : Int32)), (.ref b1)])) (fun t k => st11 t k) ?_
  obtain ⟨T12, h12, X12, e12, W12, B12, st12⟩ := own_stB X11 hx hZ (hE11) f10 (j := (3 : Int32)) (by decide) (g := (mkF m 41 #[jv pq, .second, iv ax, iv tx, rv b1, .unset, .unset, .unset, .unset, .unset] [(.int (f_draw pq (3 : Int32))), (.int (3 : Int32)), (.ref b1)])) rfl rfl (hb hby at_41)
  have V12 : BA Z h12 b1 6 (own_upd f3 3 ((f_draw pq (3 : Int32))).toInt8.toInt32) := B12
  obtain ⟨f4, hf4⟩ : ∃ z, z = (own_upd f3 3 ((f_draw pq (3 : Int32))).toInt8.toInt32) := ⟨_, rfl⟩
  rw [← hf4] at V12
  have f13 := V12
  have Zp12 : n0 ≤ h12.size := Nat.le_trans Zp9 (Nat.le_of_eq W12.size.symm)
  have N12 := Fr.snoc X12 N11 g_b1
  refine Wk.go (A' := T12.setTop (mkF m 42 #[jv pq, .second, iv ax, iv tx, rv b1, .unset, .unset, .unset, .unset, .unset] [])) (fun t k => st12 t k) ?_
  refine Wk.go (A' := T12.setTop (mkF m 44 #[jv pq, .second, iv ax, iv tx, rv b1, .unset, .unset, .unset, .unset, .unset] [(.ref b1)])) (fun t k => XS.aload X12.here hx rfl (hb hby at_42) rfl rfl k) ?_
  refine Wk.go (A' := T12.setTop (mkF m 45 #[jv pq, .second, iv ax, iv tx, rv b1, .unset, .unset, .unset, .unset, .unset] [(.int (4 : Int32)), (.ref b1)])) (fun t k => XS.iconst X12.here hx rfl (hb hby at_44) k) ?_
  refine Wk.go (A' := T12.setTop (mkF m 46 #[jv pq, .second, iv ax, iv tx, rv b1, .unset, .unset, .unset, .unset, .unset] [(.long pq), (.int (4 : Int32)), (.ref b1)])) (fun t k => XS.lloadN X12.here hx rfl (hb hby at_45) rfl k) ?_
  refine Wk.go (A' := T12.setTop (mkF m 47 #[jv pq, .second, iv ax, iv tx, rv b1, .unset, .unset, .unset, .unset, .unset] [(.int (4 : Int32)), (.long pq), (.int (4 : Int32)), (.ref b1)])) (fun t k => XS.iconst X12.here hx rfl (hb hby at_46) k) ?_
  obtain ⟨_, _, ⟨T14, L14, k14, n14⟩, -, X14, ⟨Lc14, hQ14, l14, y14, z14⟩, st14⟩ := Jvm.LawKit.callS X12 hx (y := (⟨"com/example/arcwalk/arcwalk/TermSpansEndingEndPinLaw", "draw", "(JI)B"⟩ : MethodName)) hown (mvT hZ (tw1 hw)) (mvT hZ (tw2 hw)) (mvT hZ (tw3 hw)) (mvT hZ (tw4 hw)) (by decide) (backOf (W := 2) (rm1 l Z a0 hw [] pq (4 : Int32)  h12 n0 Zp12 ) hZ (tw4 hw) (tw3 hw) (by decide) (by decide)) (g := (mkF m 47 #[jv pq, .second, iv ax, iv tx, rv b1, .unset, .unset, .unset, .unset, .unset] [(.int (4 : Int32)), (.long pq), (.int (4 : Int32)), (.ref b1)])) rfl (by rw [hml]; rfl) (argsL := [(.long pq), (.int (4 : Int32))]) (rest := [(.int (4 : Int32)), (.ref b1)]) (lenOf pd_0 rfl) rfl (by show 2 * 0 + _ ≤ _; exact Nat.le_of_eq rfl) (hb hby at_47) (fun _ _ => ⟨rfl, e12, (by decide : 1 + 0 ≤ _), (by decide : 6 + 0 ≤ _)⟩)
  dsimp only [Pt.U, Pt.locs, Pt.cells, Pt.slots] at X14 l14 y14 z14 st14 hQ14
  subst l14 y14 z14
  obtain ⟨rfl, N14q, hE14⟩ := hQ14
  have N14 := Fr.app N12 N14q
  refine Wk.go (A' := T14.setTop (mkF m 50 #[jv pq, .second, iv ax, iv tx, rv b1, .unset, .unset, .unset, .unset, .unset] [(.int (f_draw pq (4 : Int32))), (.int (4 : Int32)), (.ref b1)])) (fun t k => st14 t k) ?_
  obtain ⟨T15, h15, X15, e15, W15, B15, st15⟩ := own_stB X14 hx hZ (hE14) f13 (j := (4 : Int32)) (by decide) (g := (mkF m 50 #[jv pq, .second, iv ax, iv tx, rv b1, .unset, .unset, .unset, .unset, .unset] [(.int (f_draw pq (4 : Int32))), (.int (4 : Int32)), (.ref b1)])) rfl rfl (hb hby at_50)
  have V15 : BA Z h15 b1 6 (own_upd f4 4 ((f_draw pq (4 : Int32))).toInt8.toInt32) := B15
  obtain ⟨f5, hf5⟩ : ∃ z, z = (own_upd f4 4 ((f_draw pq (4 : Int32))).toInt8.toInt32) := ⟨_, rfl⟩
  rw [← hf5] at V15
  have f16 := V15
  have Zp15 : n0 ≤ h15.size := Nat.le_trans Zp12 (Nat.le_of_eq W15.size.symm)
  have N15 := Fr.snoc X15 N14 g_b1
  refine Wk.go (A' := T15.setTop (mkF m 51 #[jv pq, .second, iv ax, iv tx, rv b1, .unset, .unset, .unset, .unset, .unset] [])) (fun t k => st15 t k) ?_
  refine Wk.go (A' := T15.setTop (mkF m 53 #[jv pq, .second, iv ax, iv tx, rv b1, .unset, .unset, .unset, .unset, .unset] [(.ref b1)])) (fun t k => XS.aload X15.here hx rfl (hb hby at_51) rfl rfl k) ?_
  refine Wk.go (A' := T15.setTop (mkF m 54 #[jv pq, .second, iv ax, iv tx, rv b1, .unset, .unset, .unset, .unset, .unset] [(.int (5 : Int32)), (.ref b1)])) (fun t k => XS.iconst X15.here hx rfl (hb hby at_53) k) ?_
  refine Wk.go (A' := T15.setTop (mkF m 55 #[jv pq, .second, iv ax, iv tx, rv b1, .unset, .unset, .unset, .unset, .unset] [(.long pq), (.int (5 : Int32)), (.ref b1)])) (fun t k => XS.lloadN X15.here hx rfl (hb hby at_54) rfl k) ?_
  refine Wk.go (A' := T15.setTop (mkF m 56 #[jv pq, .second, iv ax, iv tx, rv b1, .unset, .unset, .unset, .unset, .unset] [(.int (5 : Int32)), (.long pq), (.int (5 : Int32)), (.ref b1)])) (fun t k => XS.iconst X15.here hx rfl (hb hby at_55) k) ?_
  obtain ⟨_, _, ⟨T17, L17, k17, n17⟩, -, X17, ⟨Lc17, hQ17, l17, y17, z17⟩, st17⟩ := Jvm.LawKit.callS X15 hx (y := (⟨"com/example/arcwalk/arcwalk/TermSpansEndingEndPinLaw", "draw", "(JI)B"⟩ : MethodName)) hown (mvT hZ (tw1 hw)) (mvT hZ (tw2 hw)) (mvT hZ (tw3 hw)) (mvT hZ (tw4 hw)) (by decide) (backOf (W := 2) (rm1 l Z a0 hw [] pq (5 : Int32)  h15 n0 Zp15 ) hZ (tw4 hw) (tw3 hw) (by decide) (by decide)) (g := (mkF m 56 #[jv pq, .second, iv ax, iv tx, rv b1, .unset, .unset, .unset, .unset, .unset] [(.int (5 : Int32)), (.long pq), (.int (5 : Int32)), (.ref b1)])) rfl (by rw [hml]; rfl) (argsL := [(.long pq), (.int (5 : Int32))]) (rest := [(.int (5 : Int32)), (.ref b1)]) (lenOf pd_0 rfl) rfl (by show 2 * 0 + _ ≤ _; exact Nat.le_of_eq rfl) (hb hby at_56) (fun _ _ => ⟨rfl, e15, (by decide : 1 + 0 ≤ _), (by decide : 6 + 0 ≤ _)⟩)
  dsimp only [Pt.U, Pt.locs, Pt.cells, Pt.slots] at X17 l17 y17 z17 st17 hQ17
  subst l17 y17 z17
  obtain ⟨rfl, N17q, hE17⟩ := hQ17
  have N17 := Fr.app N15 N17q
  refine Wk.go (A' := T17.setTop (mkF m 59 #[jv pq, .second, iv ax, iv tx, rv b1, .unset, .unset, .unset, .unset, .unset] [(.int (f_draw pq (5 : Int32))), (.int (5 : Int32)), (.ref b1)])) (fun t k => st17 t k) ?_
  obtain ⟨T18, h18, X18, e18, W18, B18, st18⟩ := own_stB X17 hx hZ (hE17) f16 (j := (5 : Int32)) (by decide) (g := (mkF m 59 #[jv pq, .second, iv ax, iv tx, rv b1, .unset, .unset, .unset, .unset, .unset] [(.int (f_draw pq (5 : Int32))), (.int (5 : Int32)), (.ref b1)])) rfl rfl (hb hby at_59)
  have V18 : BA Z h18 b1 6 (own_upd f5 5 ((f_draw pq (5 : Int32))).toInt8.toInt32) := B18
  obtain ⟨f6, hf6⟩ : ∃ z, z = (own_upd f5 5 ((f_draw pq (5 : Int32))).toInt8.toInt32) := ⟨_, rfl⟩
  rw [← hf6] at V18
  have f19 := V18
  have Zp18 : n0 ≤ h18.size := Nat.le_trans Zp15 (Nat.le_of_eq W18.size.symm)
  have N18 := Fr.snoc X18 N17 g_b1
  refine Wk.go (A' := T18.setTop (mkF m 60 #[jv pq, .second, iv ax, iv tx, rv b1, .unset, .unset, .unset, .unset, .unset] [])) (fun t k => st18 t k) ?_
  refine Wk.go (A' := T18.setTop (mkF m 61 #[jv pq, .second, iv ax, iv tx, rv b1, .unset, .unset, .unset, .unset, .unset] [(.int (1 : Int32))])) (fun t k => XS.iconst X18.here hx rfl (hb hby at_60) k) ?_
  refine Wk.go (A' := T18.setTop (mkF m 62 #[jv pq, .second, iv ax, iv tx, rv b1, .unset, .unset, .unset, .unset, .unset] [(.int tx), (.int (1 : Int32))])) (fun t k => XS.iloadN X18.here hx rfl (hb hby at_61) rfl k) ?_
  refine Wk.go (A' := T18.setTop (mkF m 64 #[jv pq, .second, iv ax, iv tx, rv b1, .unset, .unset, .unset, .unset, .unset] [(.int (2147483647 : Int32)), (.int tx), (.int (1 : Int32))])) (fun t k => X18.ldcInt hx hown (mvT hZ (tw5 hw)) (g := (mkF m 62 #[jv pq, .second, iv ax, iv tx, rv b1, .unset, .unset, .unset, .unset, .unset] [(.int tx), (.int (1 : Int32))])) rfl (hb hby at_62) t k) ?_
  refine Wk.go (A' := T18.setTop (mkF m 65 #[jv pq, .second, iv ax, iv tx, rv b1, .unset, .unset, .unset, .unset, .unset] [(.int (tx &&& (2147483647 : Int32))), (.int (1 : Int32))])) (fun t k => XS.iand X18.here hx rfl (hb hby at_64) rfl k) ?_
  refine Wk.go (A' := T18.setTop (mkF m 67 #[jv pq, .second, iv ax, iv tx, rv b1, .unset, .unset, .unset, .unset, .unset] [(.int (6 : Int32)), (.int (tx &&& (2147483647 : Int32))), (.int (1 : Int32))])) (fun t k => XS.bipush X18.here hx rfl (hb hby at_65) k) ?_
  refine Wk.go (A' := T18.setTop (mkF m 68 #[jv pq, .second, iv ax, iv tx, rv b1, .unset, .unset, .unset, .unset, .unset] [(.int ((tx &&& (2147483647 : Int32)) % (6 : Int32))), (.int (1 : Int32))])) (fun t k => iremM X18 hx rfl (hb hby at_67) rfl (by decide) k) ?_
  refine Wk.go (A' := T18.setTop (mkF m 69 #[jv pq, .second, iv ax, iv tx, rv b1, .unset, .unset, .unset, .unset, .unset] [(.int ((1 : Int32) + ((tx &&& (2147483647 : Int32)) % (6 : Int32))))])) (fun t k => XS.iadd X18.here hx rfl (hb hby at_68) rfl k) ?_
  refine Wk.go (A' := T18.setTop (mkF m 71 #[jv pq, .second, iv ax, iv tx, rv b1, iv ((1 : Int32) + ((tx &&& (2147483647 : Int32)) % (6 : Int32))), .unset, .unset, .unset, .unset] [])) (fun t k => XS.istore X18.here hx rfl (hb hby at_69) rfl (l' := #[jv pq, .second, iv ax, iv tx, rv b1, iv ((1 : Int32) + ((tx &&& (2147483647 : Int32)) % (6 : Int32))), .unset, .unset, .unset, .unset]) rfl k) ?_
  generalize hib : ((1 : Int32) + ((tx &&& (2147483647 : Int32)) % (6 : Int32))) = ib
  obtain ⟨hto1, hto6⟩ : 1 ≤ ib.toInt ∧ ib.toInt ≤ 6 := by rw [← hib]; exact own_to tx
  refine Wk.go (A' := T18.setTop (mkF m 73 #[jv pq, .second, iv ax, iv tx, rv b1, iv ib, .unset, .unset, .unset, .unset] [(.ref b1)])) (fun t k => XS.aload X18.here hx rfl (hb hby at_71) rfl rfl k) ?_
  refine Wk.go (A' := T18.setTop (mkF m 75 #[jv pq, .second, iv ax, iv tx, rv b1, iv ib, .unset, .unset, .unset, .unset] [(.int ib), (.ref b1)])) (fun t k => XS.iload X18.here hx rfl (hb hby at_73) rfl k) ?_
  refine Wk.go (A' := T18.setTop (mkF m 76 #[jv pq, .second, iv ax, iv tx, rv b1, iv ib, .unset, .unset, .unset, .unset] [(.int (1 : Int32)), (.int ib), (.ref b1)])) (fun t k => XS.iconst X18.here hx rfl (hb hby at_75) k) ?_
  refine Wk.go (A' := T18.setTop (mkF m 77 #[jv pq, .second, iv ax, iv tx, rv b1, iv ib, .unset, .unset, .unset, .unset] [(.int (ib - (1 : Int32))), (.ref b1)])) (fun t k => XS.isub X18.here hx rfl (hb hby at_76) rfl k) ?_
  refine Wk.go (A' := T18.setTop (mkF m 79 #[jv pq, .second, iv ax, iv tx, rv b1, iv ib, .unset, .unset, .unset, .unset] [(.int (10 : Int32)), (.int (ib - (1 : Int32))), (.ref b1)])) (fun t k => XS.bipush X18.here hx rfl (hb hby at_77) k) ?_
  obtain ⟨T20, h20, X20, e20, W20, B20, st20⟩ := own_stB X18 hx hZ e18 f19 (j := (ib - (1 : Int32))) ⟨(own_m1 hto1 hto6).1, (own_m1 hto1 hto6).2.1⟩ (g := (mkF m 79 #[jv pq, .second, iv ax, iv tx, rv b1, iv ib, .unset, .unset, .unset, .unset] [(.int (10 : Int32)), (.int (ib - (1 : Int32))), (.ref b1)])) rfl rfl (hb hby at_79)
  have V20 : BA Z h20 b1 6 (own_upd f6 ((ib - (1 : Int32))).toNatClampNeg ((10 : Int32)).toInt8.toInt32) := B20
  obtain ⟨fB, hfB⟩ : ∃ z, z = (own_upd f6 ((ib - (1 : Int32))).toNatClampNeg ((10 : Int32)).toInt8.toInt32) := ⟨_, rfl⟩
  rw [← hfB] at V20
  have f21 := V20
  have Zp20 : n0 ≤ h20.size := Nat.le_trans Zp18 (Nat.le_of_eq W20.size.symm)
  have N20 := Fr.snoc X20 N18 g_b1
  refine Wk.go (A' := T20.setTop (mkF m 80 #[jv pq, .second, iv ax, iv tx, rv b1, iv ib, .unset, .unset, .unset, .unset] [])) (fun t k => st20 t k) ?_
  refine Wk.go (A' := T20.setTop (mkF m 81 #[jv pq, .second, iv ax, iv tx, rv b1, iv ib, .unset, .unset, .unset, .unset] [(.int ax)])) (fun t k => XS.iloadN X20.here hx rfl (hb hby at_80) rfl k) ?_
  refine Wk.go (A' := T20.setTop (mkF m 83 #[jv pq, .second, iv ax, iv tx, rv b1, iv ib, .unset, .unset, .unset, .unset] [(.int (7 : Int32)), (.int ax)])) (fun t k => XS.bipush X20.here hx rfl (hb hby at_81) k) ?_
  refine Wk.go (A' := T20.setTop (mkF m 84 #[jv pq, .second, iv ax, iv tx, rv b1, iv ib, .unset, .unset, .unset, .unset] [(.int (ax &&& (7 : Int32)))])) (fun t k => XS.iand X20.here hx rfl (hb hby at_83) rfl k) ?_
  refine Wk.go (A' := T20.setTop (mkF m 86 #[jv pq, .second, iv ax, iv tx, rv b1, iv ib, iv (ax &&& (7 : Int32)), .unset, .unset, .unset] [])) (fun t k => XS.istore X20.here hx rfl (hb hby at_84) rfl (l' := #[jv pq, .second, iv ax, iv tx, rv b1, iv ib, iv (ax &&& (7 : Int32)), .unset, .unset, .unset]) rfl k) ?_
  generalize hia : (ax &&& (7 : Int32)) = ia
  obtain ⟨hat0, hat7⟩ : 0 ≤ ia.toInt ∧ ia.toInt ≤ 7 := by rw [← hia]; exact own_at ax
  have hnx := fun (a : ia < ib) b => own_nx hfB hat0 hto1 hto6 a b
  refine Wk.go (A' := T20.setTop (mkF m 88 #[jv pq, .second, iv ax, iv tx, rv b1, iv ib, iv ia, .unset, .unset, .unset] [(.ref b1)])) (fun t k => XS.aload X20.here hx rfl (hb hby at_86) rfl rfl k) ?_
  refine Wk.go (A' := T20.setTop (mkF m 90 #[jv pq, .second, iv ax, iv tx, rv b1, iv ib, iv ia, .unset, .unset, .unset] [(.int ia), (.ref b1)])) (fun t k => XS.iload X20.here hx rfl (hb hby at_88) rfl k) ?_
  refine Wk.go (A' := T20.setTop (mkF m 92 #[jv pq, .second, iv ax, iv tx, rv b1, iv ib, iv ia, .unset, .unset, .unset] [(.int ib), (.int ia), (.ref b1)])) (fun t k => XS.iload X20.here hx rfl (hb hby at_90) rfl k) ?_
  obtain ⟨_, _, ⟨T22, L22, k22, n22⟩, -, X22, ⟨Lc22, hQ22, l22, y22, z22⟩, st22⟩ := Jvm.LawKit.callS X20 hx (y := (⟨"com/example/arcwalk/arcwalk/TermSpans", "endingEnd", "([BII)I"⟩ : MethodName)) hown (mvT hZ (tw6 hw)) (mvT hZ (tw7 hw)) (mvT hZ (tw8 hw)) (mvT hZ (tw9 hw)) (by decide) (backOf (W := 0) (rm2 l Z a0 hw [] b1 ia ib fB h20 n0 Zp20 f21 hat0 hto6 hnx) hZ (tw9 hw) (tw8 hw) (by decide) (by decide)) (g := (mkF m 92 #[jv pq, .second, iv ax, iv tx, rv b1, iv ib, iv ia, .unset, .unset, .unset] [(.int ib), (.int ia), (.ref b1)])) rfl (by rw [hml]; rfl) (argsL := [(.ref b1), (.int ia), (.int ib)]) (rest := []) (lenOf pd_1 rfl) rfl (by show 2 * 0 + _ ≤ _; exact Nat.le_of_eq rfl) (hb hby at_92) (fun _ _ => ⟨rfl, e20, (by decide : 1 + 0 ≤ _), (by decide : 6 + 0 ≤ _)⟩)
  dsimp only [Pt.U, Pt.locs, Pt.cells, Pt.slots] at X22 l22 y22 z22 st22 hQ22
  subst l22 y22 z22
  obtain ⟨rfl, N22q, hE22⟩ := hQ22
  have N22 := Fr.app N20 N22q
  refine Wk.go (A' := T22.setTop (mkF m 95 #[jv pq, .second, iv ax, iv tx, rv b1, iv ib, iv ia, .unset, .unset, .unset] [(.int (f_end b1 ia ib fB))])) (fun t k => st22 t k) ?_
  refine Wk.go (A' := T22.setTop (mkF m 97 #[jv pq, .second, iv ax, iv tx, rv b1, iv ib, iv ia, iv (f_end b1 ia ib fB), .unset, .unset] [])) (fun t k => XS.istore X22.here hx rfl (hb hby at_95) rfl (l' := #[jv pq, .second, iv ax, iv tx, rv b1, iv ib, iv ia, iv (f_end b1 ia ib fB), .unset, .unset]) rfl k) ?_
  refine Wk.go (A' := T22.setTop (mkF m 98 #[jv pq, .second, iv ax, iv tx, rv b1, iv ib, iv ia, iv (f_end b1 ia ib fB), .unset, .unset] [(.int (0 : Int32))])) (fun t k => XS.iconst X22.here hx rfl (hb hby at_97) k) ?_
  refine Wk.go (A' := T22.setTop (mkF m 100 #[jv pq, .second, iv ax, iv tx, rv b1, iv ib, iv ia, iv (f_end b1 ia ib fB), iv (0 : Int32), .unset] [])) (fun t k => XS.istore X22.here hx rfl (hb hby at_98) rfl (l' := #[jv pq, .second, iv ax, iv tx, rv b1, iv ib, iv ia, iv (f_end b1 ia ib fB), iv (0 : Int32), .unset]) rfl k) ?_
  refine Wk.go (A' := T22.setTop (mkF m 102 #[jv pq, .second, iv ax, iv tx, rv b1, iv ib, iv ia, iv (f_end b1 ia ib fB), iv (0 : Int32), .unset] [(.int ia)])) (fun t k => XS.iload X22.here hx rfl (hb hby at_100) rfl k) ?_
  refine Wk.go (A' := T22.setTop (mkF m 104 #[jv pq, .second, iv ax, iv tx, rv b1, iv ib, iv ia, iv (f_end b1 ia ib fB), iv (0 : Int32), .unset] [(.int ib), (.int ia)])) (fun t k => XS.iload X22.here hx rfl (hb hby at_102) rfl k) ?_
  by_cases hc104 : ia < ib
  · refine Wk.go (A' := T22.setTop (mkF m 107 #[jv pq, .second, iv ax, iv tx, rv b1, iv ib, iv ia, iv (f_end b1 ia ib fB), iv (0 : Int32), .unset] [])) (fun t k => XS.icmpNo X22.here hx rfl (hb hby at_104) rfl (tlt hc104).2.1 k) ?_
    refine Wk.go (A' := T22.setTop (mkF m 109 #[jv pq, .second, iv ax, iv tx, rv b1, iv ib, iv ia, iv (f_end b1 ia ib fB), iv (0 : Int32), .unset] [(.ref b1)])) (fun t k => XS.aload X22.here hx rfl (hb hby at_107) rfl rfl k) ?_
    refine Wk.go (A' := T22.setTop (mkF m 111 #[jv pq, .second, iv ax, iv tx, rv b1, iv ib, iv ia, iv (f_end b1 ia ib fB), iv (0 : Int32), .unset] [(.int ia), (.ref b1)])) (fun t k => XS.iload X22.here hx rfl (hb hby at_109) rfl k) ?_
    refine Wk.go (A' := T22.setTop (mkF m 112 #[jv pq, .second, iv ax, iv tx, rv b1, iv ib, iv ia, iv (f_end b1 ia ib fB), iv (0 : Int32), .unset] [(.int (fB (ia).toNatClampNeg))])) (fun t k => own_ldB X22 hx hZ (hE22) f21 (j := ia) (own_b1 hat0 hc104 hto6) (g := (mkF m 111 #[jv pq, .second, iv ax, iv tx, rv b1, iv ib, iv ia, iv (f_end b1 ia ib fB), iv (0 : Int32), .unset] [(.int ia), (.ref b1)])) rfl rfl (hb hby at_111) t k) ?_
    refine Wk.go (A' := T22.setTop (mkF m 114 #[jv pq, .second, iv ax, iv tx, rv b1, iv ib, iv ia, iv (f_end b1 ia ib fB), iv (0 : Int32), iv (fB (ia).toNatClampNeg)] [])) (fun t k => XS.istore X22.here hx rfl (hb hby at_112) rfl (l' := #[jv pq, .second, iv ax, iv tx, rv b1, iv ib, iv ia, iv (f_end b1 ia ib fB), iv (0 : Int32), iv (fB (ia).toNatClampNeg)]) rfl k) ?_
    refine Wk.go (A' := T22.setTop (mkF m 116 #[jv pq, .second, iv ax, iv tx, rv b1, iv ib, iv ia, iv (f_end b1 ia ib fB), iv (0 : Int32), iv (fB (ia).toNatClampNeg)] [(.int (fB (ia).toNatClampNeg))])) (fun t k => XS.iload X22.here hx rfl (hb hby at_114) rfl k) ?_
    refine Wk.go (A' := T22.setTop (mkF m 118 #[jv pq, .second, iv ax, iv tx, rv b1, iv ib, iv ia, iv (f_end b1 ia ib fB), iv (0 : Int32), iv (fB (ia).toNatClampNeg)] [(.int (10 : Int32)), (.int (fB (ia).toNatClampNeg))])) (fun t k => XS.bipush X22.here hx rfl (hb hby at_116) k) ?_
    by_cases hc118 : (fB (ia).toNatClampNeg) = (10 : Int32)
    · refine Wk.go (A' := T22.setTop (mkF m 121 #[jv pq, .second, iv ax, iv tx, rv b1, iv ib, iv ia, iv (f_end b1 ia ib fB), iv (0 : Int32), iv (fB (ia).toNatClampNeg)] [])) (fun t k => XS.icmpNo X22.here hx rfl (hb hby at_118) rfl (teq hc118).2 k) ?_
      refine Wk.go (A' := T22.setTop (mkF m 122 #[jv pq, .second, iv ax, iv tx, rv b1, iv ib, iv ia, iv (f_end b1 ia ib fB), iv (0 : Int32), iv (fB (ia).toNatClampNeg)] [(.int (1 : Int32))])) (fun t k => XS.iconst X22.here hx rfl (hb hby at_121) k) ?_
      refine Wk.go (A' := T22.setTop (mkF m 124 #[jv pq, .second, iv ax, iv tx, rv b1, iv ib, iv ia, iv (f_end b1 ia ib fB), iv (1 : Int32), iv (fB (ia).toNatClampNeg)] [])) (fun t k => XS.istore X22.here hx rfl (hb hby at_122) rfl (l' := #[jv pq, .second, iv ax, iv tx, rv b1, iv ib, iv ia, iv (f_end b1 ia ib fB), iv (1 : Int32), iv (fB (ia).toNatClampNeg)]) rfl k) ?_
      refine Wk.go (A' := T22.setTop (mkF m 155 #[jv pq, .second, iv ax, iv tx, rv b1, iv ib, iv ia, iv (f_end b1 ia ib fB), iv (1 : Int32), iv (fB (ia).toNatClampNeg)] [])) (fun t k => XS.goto X22.here hx rfl (pc0 := 124) (pc' := 155) rfl (hb hby at_124) (by decide) (by decide) k) ?_
      refine Wk.go (A' := T22.setTop (mkF m 157 #[jv pq, .second, iv ax, iv tx, rv b1, iv ib, iv ia, iv (f_end b1 ia ib fB), iv (1 : Int32), iv (fB (ia).toNatClampNeg)] [(.int (1 : Int32))])) (fun t k => XS.iload X22.here hx rfl (hb hby at_155) rfl k) ?_
      have hc157 : ¬ ((1 : Int32) = (0 : Int32)) := by decide
      refine Wk.go (A' := T22.setTop (mkF m 164 #[jv pq, .second, iv ax, iv tx, rv b1, iv ib, iv ia, iv (f_end b1 ia ib fB), iv (1 : Int32), iv (fB (ia).toNatClampNeg)] [])) (fun t k => XS.ifYes X22.here hx rfl (pc0 := 157) (pc' := 164) rfl (hb hby at_157) rfl ((if0 _ _).trans (feq hc157).2) (by decide) (by decide) k) ?_
      refine Wk.go (A' := T22.setTop (mkF m 166 #[jv pq, .second, iv ax, iv tx, rv b1, iv ib, iv ia, iv (f_end b1 ia ib fB), iv (1 : Int32), iv (fB (ia).toNatClampNeg)] [(.int ia)])) (fun t k => XS.iload X22.here hx rfl (hb hby at_164) rfl k) ?_
      refine Wk.go (A' := T22.setTop (mkF m 168 #[jv pq, .second, iv ax, iv tx, rv b1, iv ib, iv ia, iv (f_end b1 ia ib fB), iv (1 : Int32), iv (fB (ia).toNatClampNeg)] [(.int (1 : Int32)), (.int ia)])) (fun t k => XS.iload X22.here hx rfl (hb hby at_166) rfl k) ?_
      refine Wk.go (A' := T22.setTop (mkF m 169 #[jv pq, .second, iv ax, iv tx, rv b1, iv ib, iv ia, iv (f_end b1 ia ib fB), iv (1 : Int32), iv (fB (ia).toNatClampNeg)] [(.int (ia + (1 : Int32)))])) (fun t k => XS.iadd X22.here hx rfl (hb hby at_168) rfl k) ?_
      refine Wk.go (A' := T22.setTop (mkF m 171 #[jv pq, .second, iv ax, iv tx, rv b1, iv ib, iv ia, iv (f_end b1 ia ib fB), iv (1 : Int32), iv (ia + (1 : Int32))] [])) (fun t k => XS.istore X22.here hx rfl (hb hby at_169) rfl (l' := #[jv pq, .second, iv ax, iv tx, rv b1, iv ib, iv ia, iv (f_end b1 ia ib fB), iv (1 : Int32), iv (ia + (1 : Int32))]) rfl k) ?_
      refine Wk.go (A' := T22.setTop (mkF m 173 #[jv pq, .second, iv ax, iv tx, rv b1, iv ib, iv ia, iv (f_end b1 ia ib fB), iv (1 : Int32), iv (ia + (1 : Int32))] [(.int (f_end b1 ia ib fB))])) (fun t k => XS.iload X22.here hx rfl (hb hby at_171) rfl k) ?_
      refine Wk.go (A' := T22.setTop (mkF m 175 #[jv pq, .second, iv ax, iv tx, rv b1, iv ib, iv ia, iv (f_end b1 ia ib fB), iv (1 : Int32), iv (ia + (1 : Int32))] [(.int (ia + (1 : Int32))), (.int (f_end b1 ia ib fB))])) (fun t k => XS.iload X22.here hx rfl (hb hby at_173) rfl k) ?_
      have hc175 : (f_end b1 ia ib fB) = (ia + (1 : Int32)) := by simp only [f_end, if_pos hc104, if_pos hc118]
      refine Wk.go (A' := T22.setTop (mkF m 178 #[jv pq, .second, iv ax, iv tx, rv b1, iv ib, iv ia, iv (f_end b1 ia ib fB), iv (1 : Int32), iv (ia + (1 : Int32))] [])) (fun t k => XS.icmpNo X22.here hx rfl (hb hby at_175) rfl (teq hc175).2 k) ?_
      refine Wk.go (A' := T22.setTop (mkF m 179 #[jv pq, .second, iv ax, iv tx, rv b1, iv ib, iv ia, iv (f_end b1 ia ib fB), iv (1 : Int32), iv (ia + (1 : Int32))] [(.int (1 : Int32))])) (fun t k => XS.iconst X22.here hx rfl (hb hby at_178) k) ?_
      refine Wk.go (A' := T22.setTop (mkF m 183 #[jv pq, .second, iv ax, iv tx, rv b1, iv ib, iv ia, iv (f_end b1 ia ib fB), iv (1 : Int32), iv (ia + (1 : Int32))] [(.int (1 : Int32))])) (fun t k => XS.goto X22.here hx rfl (pc0 := 179) (pc' := 183) rfl (hb hby at_179) (by decide) (by decide) k) ?_
      refine own_fin (Qv := Q0 Z pq ax tx h0 n0) (v := some (.int (1 : Int32))) X22 hlk (fun h => by rw [Bd.returns] at h; cases h) (fun fs hr => retN X22 hx (t := .boolean) Bd.returns (by simp) (hb hby at_183) hr) ?_ (by decide) (by decide)
      exact ⟨rfl, N22⟩
    · refine Wk.go (A' := T22.setTop (mkF m 127 #[jv pq, .second, iv ax, iv tx, rv b1, iv ib, iv ia, iv (f_end b1 ia ib fB), iv (0 : Int32), iv (fB (ia).toNatClampNeg)] [])) (fun t k => XS.icmpYes X22.here hx rfl (pc0 := 118) (pc' := 127) rfl (hb hby at_118) rfl (feq hc118).2 (by decide) (by decide) k) ?_
      refine Wk.go (A' := T22.setTop (mkF m 129 #[jv pq, .second, iv ax, iv tx, rv b1, iv ib, iv ia, iv (f_end b1 ia ib fB), iv (0 : Int32), iv (fB (ia).toNatClampNeg)] [(.int (fB (ia).toNatClampNeg))])) (fun t k => XS.iload X22.here hx rfl (hb hby at_127) rfl k) ?_
      refine Wk.go (A' := T22.setTop (mkF m 131 #[jv pq, .second, iv ax, iv tx, rv b1, iv ib, iv ia, iv (f_end b1 ia ib fB), iv (0 : Int32), iv (fB (ia).toNatClampNeg)] [(.int (13 : Int32)), (.int (fB (ia).toNatClampNeg))])) (fun t k => XS.bipush X22.here hx rfl (hb hby at_129) k) ?_
      by_cases hc131 : (fB (ia).toNatClampNeg) = (13 : Int32)
      · refine Wk.go (A' := T22.setTop (mkF m 134 #[jv pq, .second, iv ax, iv tx, rv b1, iv ib, iv ia, iv (f_end b1 ia ib fB), iv (0 : Int32), iv (fB (ia).toNatClampNeg)] [])) (fun t k => XS.icmpNo X22.here hx rfl (hb hby at_131) rfl (teq hc131).2 k) ?_
        refine Wk.go (A' := T22.setTop (mkF m 136 #[jv pq, .second, iv ax, iv tx, rv b1, iv ib, iv ia, iv (f_end b1 ia ib fB), iv (0 : Int32), iv (fB (ia).toNatClampNeg)] [(.ref b1)])) (fun t k => XS.aload X22.here hx rfl (hb hby at_134) rfl rfl k) ?_
        refine Wk.go (A' := T22.setTop (mkF m 138 #[jv pq, .second, iv ax, iv tx, rv b1, iv ib, iv ia, iv (f_end b1 ia ib fB), iv (0 : Int32), iv (fB (ia).toNatClampNeg)] [(.int ia), (.ref b1)])) (fun t k => XS.iload X22.here hx rfl (hb hby at_136) rfl k) ?_
        refine Wk.go (A' := T22.setTop (mkF m 139 #[jv pq, .second, iv ax, iv tx, rv b1, iv ib, iv ia, iv (f_end b1 ia ib fB), iv (0 : Int32), iv (fB (ia).toNatClampNeg)] [(.int (1 : Int32)), (.int ia), (.ref b1)])) (fun t k => XS.iconst X22.here hx rfl (hb hby at_138) k) ?_
        refine Wk.go (A' := T22.setTop (mkF m 140 #[jv pq, .second, iv ax, iv tx, rv b1, iv ib, iv ia, iv (f_end b1 ia ib fB), iv (0 : Int32), iv (fB (ia).toNatClampNeg)] [(.int (ia + (1 : Int32))), (.ref b1)])) (fun t k => XS.iadd X22.here hx rfl (hb hby at_139) rfl k) ?_
        refine Wk.go (A' := T22.setTop (mkF m 141 #[jv pq, .second, iv ax, iv tx, rv b1, iv ib, iv ia, iv (f_end b1 ia ib fB), iv (0 : Int32), iv (fB (ia).toNatClampNeg)] [(.int (fB ((ia + (1 : Int32))).toNatClampNeg))])) (fun t k => own_ldB X22 hx hZ (hE22) f21 (j := (ia + (1 : Int32))) (hnx hc104 hc118) (g := (mkF m 140 #[jv pq, .second, iv ax, iv tx, rv b1, iv ib, iv ia, iv (f_end b1 ia ib fB), iv (0 : Int32), iv (fB (ia).toNatClampNeg)] [(.int (ia + (1 : Int32))), (.ref b1)])) rfl rfl (hb hby at_140) t k) ?_
        refine Wk.go (A' := T22.setTop (mkF m 143 #[jv pq, .second, iv ax, iv tx, rv b1, iv ib, iv ia, iv (f_end b1 ia ib fB), iv (0 : Int32), iv (fB (ia).toNatClampNeg)] [(.int (10 : Int32)), (.int (fB ((ia + (1 : Int32))).toNatClampNeg))])) (fun t k => XS.bipush X22.here hx rfl (hb hby at_141) k) ?_
        by_cases hc143 : (fB ((ia + (1 : Int32))).toNatClampNeg) = (10 : Int32)
        · refine Wk.go (A' := T22.setTop (mkF m 146 #[jv pq, .second, iv ax, iv tx, rv b1, iv ib, iv ia, iv (f_end b1 ia ib fB), iv (0 : Int32), iv (fB (ia).toNatClampNeg)] [])) (fun t k => XS.icmpNo X22.here hx rfl (hb hby at_143) rfl (teq hc143).2 k) ?_
          refine Wk.go (A' := T22.setTop (mkF m 147 #[jv pq, .second, iv ax, iv tx, rv b1, iv ib, iv ia, iv (f_end b1 ia ib fB), iv (0 : Int32), iv (fB (ia).toNatClampNeg)] [(.int (2 : Int32))])) (fun t k => XS.iconst X22.here hx rfl (hb hby at_146) k) ?_
          refine Wk.go (A' := T22.setTop (mkF m 149 #[jv pq, .second, iv ax, iv tx, rv b1, iv ib, iv ia, iv (f_end b1 ia ib fB), iv (2 : Int32), iv (fB (ia).toNatClampNeg)] [])) (fun t k => XS.istore X22.here hx rfl (hb hby at_147) rfl (l' := #[jv pq, .second, iv ax, iv tx, rv b1, iv ib, iv ia, iv (f_end b1 ia ib fB), iv (2 : Int32), iv (fB (ia).toNatClampNeg)]) rfl k) ?_
          refine Wk.go (A' := T22.setTop (mkF m 155 #[jv pq, .second, iv ax, iv tx, rv b1, iv ib, iv ia, iv (f_end b1 ia ib fB), iv (2 : Int32), iv (fB (ia).toNatClampNeg)] [])) (fun t k => XS.goto X22.here hx rfl (pc0 := 149) (pc' := 155) rfl (hb hby at_149) (by decide) (by decide) k) ?_
          refine Wk.go (A' := T22.setTop (mkF m 157 #[jv pq, .second, iv ax, iv tx, rv b1, iv ib, iv ia, iv (f_end b1 ia ib fB), iv (2 : Int32), iv (fB (ia).toNatClampNeg)] [(.int (2 : Int32))])) (fun t k => XS.iload X22.here hx rfl (hb hby at_155) rfl k) ?_
          have hc157 : ¬ ((2 : Int32) = (0 : Int32)) := by decide
          refine Wk.go (A' := T22.setTop (mkF m 164 #[jv pq, .second, iv ax, iv tx, rv b1, iv ib, iv ia, iv (f_end b1 ia ib fB), iv (2 : Int32), iv (fB (ia).toNatClampNeg)] [])) (fun t k => XS.ifYes X22.here hx rfl (pc0 := 157) (pc' := 164) rfl (hb hby at_157) rfl ((if0 _ _).trans (feq hc157).2) (by decide) (by decide) k) ?_
          refine Wk.go (A' := T22.setTop (mkF m 166 #[jv pq, .second, iv ax, iv tx, rv b1, iv ib, iv ia, iv (f_end b1 ia ib fB), iv (2 : Int32), iv (fB (ia).toNatClampNeg)] [(.int ia)])) (fun t k => XS.iload X22.here hx rfl (hb hby at_164) rfl k) ?_
          refine Wk.go (A' := T22.setTop (mkF m 168 #[jv pq, .second, iv ax, iv tx, rv b1, iv ib, iv ia, iv (f_end b1 ia ib fB), iv (2 : Int32), iv (fB (ia).toNatClampNeg)] [(.int (2 : Int32)), (.int ia)])) (fun t k => XS.iload X22.here hx rfl (hb hby at_166) rfl k) ?_
          refine Wk.go (A' := T22.setTop (mkF m 169 #[jv pq, .second, iv ax, iv tx, rv b1, iv ib, iv ia, iv (f_end b1 ia ib fB), iv (2 : Int32), iv (fB (ia).toNatClampNeg)] [(.int (ia + (2 : Int32)))])) (fun t k => XS.iadd X22.here hx rfl (hb hby at_168) rfl k) ?_
          refine Wk.go (A' := T22.setTop (mkF m 171 #[jv pq, .second, iv ax, iv tx, rv b1, iv ib, iv ia, iv (f_end b1 ia ib fB), iv (2 : Int32), iv (ia + (2 : Int32))] [])) (fun t k => XS.istore X22.here hx rfl (hb hby at_169) rfl (l' := #[jv pq, .second, iv ax, iv tx, rv b1, iv ib, iv ia, iv (f_end b1 ia ib fB), iv (2 : Int32), iv (ia + (2 : Int32))]) rfl k) ?_
          refine Wk.go (A' := T22.setTop (mkF m 173 #[jv pq, .second, iv ax, iv tx, rv b1, iv ib, iv ia, iv (f_end b1 ia ib fB), iv (2 : Int32), iv (ia + (2 : Int32))] [(.int (f_end b1 ia ib fB))])) (fun t k => XS.iload X22.here hx rfl (hb hby at_171) rfl k) ?_
          refine Wk.go (A' := T22.setTop (mkF m 175 #[jv pq, .second, iv ax, iv tx, rv b1, iv ib, iv ia, iv (f_end b1 ia ib fB), iv (2 : Int32), iv (ia + (2 : Int32))] [(.int (ia + (2 : Int32))), (.int (f_end b1 ia ib fB))])) (fun t k => XS.iload X22.here hx rfl (hb hby at_173) rfl k) ?_
          have hc175 : (f_end b1 ia ib fB) = (ia + (2 : Int32)) := by simp only [f_end, if_pos hc104, if_neg hc118, if_pos hc131, if_pos hc143]
          refine Wk.go (A' := T22.setTop (mkF m 178 #[jv pq, .second, iv ax, iv tx, rv b1, iv ib, iv ia, iv (f_end b1 ia ib fB), iv (2 : Int32), iv (ia + (2 : Int32))] [])) (fun t k => XS.icmpNo X22.here hx rfl (hb hby at_175) rfl (teq hc175).2 k) ?_
          refine Wk.go (A' := T22.setTop (mkF m 179 #[jv pq, .second, iv ax, iv tx, rv b1, iv ib, iv ia, iv (f_end b1 ia ib fB), iv (2 : Int32), iv (ia + (2 : Int32))] [(.int (1 : Int32))])) (fun t k => XS.iconst X22.here hx rfl (hb hby at_178) k) ?_
          refine Wk.go (A' := T22.setTop (mkF m 183 #[jv pq, .second, iv ax, iv tx, rv b1, iv ib, iv ia, iv (f_end b1 ia ib fB), iv (2 : Int32), iv (ia + (2 : Int32))] [(.int (1 : Int32))])) (fun t k => XS.goto X22.here hx rfl (pc0 := 179) (pc' := 183) rfl (hb hby at_179) (by decide) (by decide) k) ?_
          refine own_fin (Qv := Q0 Z pq ax tx h0 n0) (v := some (.int (1 : Int32))) X22 hlk (fun h => by rw [Bd.returns] at h; cases h) (fun fs hr => retN X22 hx (t := .boolean) Bd.returns (by simp) (hb hby at_183) hr) ?_ (by decide) (by decide)
          exact ⟨rfl, N22⟩
        · refine Wk.go (A' := T22.setTop (mkF m 152 #[jv pq, .second, iv ax, iv tx, rv b1, iv ib, iv ia, iv (f_end b1 ia ib fB), iv (0 : Int32), iv (fB (ia).toNatClampNeg)] [])) (fun t k => XS.icmpYes X22.here hx rfl (pc0 := 143) (pc' := 152) rfl (hb hby at_143) rfl (feq hc143).2 (by decide) (by decide) k) ?_
          refine Wk.go (A' := T22.setTop (mkF m 153 #[jv pq, .second, iv ax, iv tx, rv b1, iv ib, iv ia, iv (f_end b1 ia ib fB), iv (0 : Int32), iv (fB (ia).toNatClampNeg)] [(.int (1 : Int32))])) (fun t k => XS.iconst X22.here hx rfl (hb hby at_152) k) ?_
          refine Wk.go (A' := T22.setTop (mkF m 155 #[jv pq, .second, iv ax, iv tx, rv b1, iv ib, iv ia, iv (f_end b1 ia ib fB), iv (1 : Int32), iv (fB (ia).toNatClampNeg)] [])) (fun t k => XS.istore X22.here hx rfl (hb hby at_153) rfl (l' := #[jv pq, .second, iv ax, iv tx, rv b1, iv ib, iv ia, iv (f_end b1 ia ib fB), iv (1 : Int32), iv (fB (ia).toNatClampNeg)]) rfl k) ?_
          refine Wk.go (A' := T22.setTop (mkF m 157 #[jv pq, .second, iv ax, iv tx, rv b1, iv ib, iv ia, iv (f_end b1 ia ib fB), iv (1 : Int32), iv (fB (ia).toNatClampNeg)] [(.int (1 : Int32))])) (fun t k => XS.iload X22.here hx rfl (hb hby at_155) rfl k) ?_
          have hc157 : ¬ ((1 : Int32) = (0 : Int32)) := by decide
          refine Wk.go (A' := T22.setTop (mkF m 164 #[jv pq, .second, iv ax, iv tx, rv b1, iv ib, iv ia, iv (f_end b1 ia ib fB), iv (1 : Int32), iv (fB (ia).toNatClampNeg)] [])) (fun t k => XS.ifYes X22.here hx rfl (pc0 := 157) (pc' := 164) rfl (hb hby at_157) rfl ((if0 _ _).trans (feq hc157).2) (by decide) (by decide) k) ?_
          refine Wk.go (A' := T22.setTop (mkF m 166 #[jv pq, .second, iv ax, iv tx, rv b1, iv ib, iv ia, iv (f_end b1 ia ib fB), iv (1 : Int32), iv (fB (ia).toNatClampNeg)] [(.int ia)])) (fun t k => XS.iload X22.here hx rfl (hb hby at_164) rfl k) ?_
          refine Wk.go (A' := T22.setTop (mkF m 168 #[jv pq, .second, iv ax, iv tx, rv b1, iv ib, iv ia, iv (f_end b1 ia ib fB), iv (1 : Int32), iv (fB (ia).toNatClampNeg)] [(.int (1 : Int32)), (.int ia)])) (fun t k => XS.iload X22.here hx rfl (hb hby at_166) rfl k) ?_
          refine Wk.go (A' := T22.setTop (mkF m 169 #[jv pq, .second, iv ax, iv tx, rv b1, iv ib, iv ia, iv (f_end b1 ia ib fB), iv (1 : Int32), iv (fB (ia).toNatClampNeg)] [(.int (ia + (1 : Int32)))])) (fun t k => XS.iadd X22.here hx rfl (hb hby at_168) rfl k) ?_
          refine Wk.go (A' := T22.setTop (mkF m 171 #[jv pq, .second, iv ax, iv tx, rv b1, iv ib, iv ia, iv (f_end b1 ia ib fB), iv (1 : Int32), iv (ia + (1 : Int32))] [])) (fun t k => XS.istore X22.here hx rfl (hb hby at_169) rfl (l' := #[jv pq, .second, iv ax, iv tx, rv b1, iv ib, iv ia, iv (f_end b1 ia ib fB), iv (1 : Int32), iv (ia + (1 : Int32))]) rfl k) ?_
          refine Wk.go (A' := T22.setTop (mkF m 173 #[jv pq, .second, iv ax, iv tx, rv b1, iv ib, iv ia, iv (f_end b1 ia ib fB), iv (1 : Int32), iv (ia + (1 : Int32))] [(.int (f_end b1 ia ib fB))])) (fun t k => XS.iload X22.here hx rfl (hb hby at_171) rfl k) ?_
          refine Wk.go (A' := T22.setTop (mkF m 175 #[jv pq, .second, iv ax, iv tx, rv b1, iv ib, iv ia, iv (f_end b1 ia ib fB), iv (1 : Int32), iv (ia + (1 : Int32))] [(.int (ia + (1 : Int32))), (.int (f_end b1 ia ib fB))])) (fun t k => XS.iload X22.here hx rfl (hb hby at_173) rfl k) ?_
          have hc175 : (f_end b1 ia ib fB) = (ia + (1 : Int32)) := by simp only [f_end, if_pos hc104, if_neg hc118, if_pos hc131, if_neg hc143]
          refine Wk.go (A' := T22.setTop (mkF m 178 #[jv pq, .second, iv ax, iv tx, rv b1, iv ib, iv ia, iv (f_end b1 ia ib fB), iv (1 : Int32), iv (ia + (1 : Int32))] [])) (fun t k => XS.icmpNo X22.here hx rfl (hb hby at_175) rfl (teq hc175).2 k) ?_
          refine Wk.go (A' := T22.setTop (mkF m 179 #[jv pq, .second, iv ax, iv tx, rv b1, iv ib, iv ia, iv (f_end b1 ia ib fB), iv (1 : Int32), iv (ia + (1 : Int32))] [(.int (1 : Int32))])) (fun t k => XS.iconst X22.here hx rfl (hb hby at_178) k) ?_
          refine Wk.go (A' := T22.setTop (mkF m 183 #[jv pq, .second, iv ax, iv tx, rv b1, iv ib, iv ia, iv (f_end b1 ia ib fB), iv (1 : Int32), iv (ia + (1 : Int32))] [(.int (1 : Int32))])) (fun t k => XS.goto X22.here hx rfl (pc0 := 179) (pc' := 183) rfl (hb hby at_179) (by decide) (by decide) k) ?_
          refine own_fin (Qv := Q0 Z pq ax tx h0 n0) (v := some (.int (1 : Int32))) X22 hlk (fun h => by rw [Bd.returns] at h; cases h) (fun fs hr => retN X22 hx (t := .boolean) Bd.returns (by simp) (hb hby at_183) hr) ?_ (by decide) (by decide)
          exact ⟨rfl, N22⟩
      · refine Wk.go (A' := T22.setTop (mkF m 155 #[jv pq, .second, iv ax, iv tx, rv b1, iv ib, iv ia, iv (f_end b1 ia ib fB), iv (0 : Int32), iv (fB (ia).toNatClampNeg)] [])) (fun t k => XS.icmpYes X22.here hx rfl (pc0 := 131) (pc' := 155) rfl (hb hby at_131) rfl (feq hc131).2 (by decide) (by decide) k) ?_
        refine Wk.go (A' := T22.setTop (mkF m 157 #[jv pq, .second, iv ax, iv tx, rv b1, iv ib, iv ia, iv (f_end b1 ia ib fB), iv (0 : Int32), iv (fB (ia).toNatClampNeg)] [(.int (0 : Int32))])) (fun t k => XS.iload X22.here hx rfl (hb hby at_155) rfl k) ?_
        have hc157 : (0 : Int32) = (0 : Int32) := by decide
        refine Wk.go (A' := T22.setTop (mkF m 160 #[jv pq, .second, iv ax, iv tx, rv b1, iv ib, iv ia, iv (f_end b1 ia ib fB), iv (0 : Int32), iv (fB (ia).toNatClampNeg)] [])) (fun t k => XS.ifNo X22.here hx rfl (hb hby at_157) rfl ((if0 _ _).trans (teq hc157).2) k) ?_
        refine Wk.go (A' := T22.setTop (mkF m 161 #[jv pq, .second, iv ax, iv tx, rv b1, iv ib, iv ia, iv (f_end b1 ia ib fB), iv (0 : Int32), iv (fB (ia).toNatClampNeg)] [(.int (-1 : Int32))])) (fun t k => XS.iconst X22.here hx rfl (hb hby at_160) k) ?_
        refine Wk.go (A' := T22.setTop (mkF m 169 #[jv pq, .second, iv ax, iv tx, rv b1, iv ib, iv ia, iv (f_end b1 ia ib fB), iv (0 : Int32), iv (fB (ia).toNatClampNeg)] [(.int (-1 : Int32))])) (fun t k => XS.goto X22.here hx rfl (pc0 := 161) (pc' := 169) rfl (hb hby at_161) (by decide) (by decide) k) ?_
        refine Wk.go (A' := T22.setTop (mkF m 171 #[jv pq, .second, iv ax, iv tx, rv b1, iv ib, iv ia, iv (f_end b1 ia ib fB), iv (0 : Int32), iv (-1 : Int32)] [])) (fun t k => XS.istore X22.here hx rfl (hb hby at_169) rfl (l' := #[jv pq, .second, iv ax, iv tx, rv b1, iv ib, iv ia, iv (f_end b1 ia ib fB), iv (0 : Int32), iv (-1 : Int32)]) rfl k) ?_
        refine Wk.go (A' := T22.setTop (mkF m 173 #[jv pq, .second, iv ax, iv tx, rv b1, iv ib, iv ia, iv (f_end b1 ia ib fB), iv (0 : Int32), iv (-1 : Int32)] [(.int (f_end b1 ia ib fB))])) (fun t k => XS.iload X22.here hx rfl (hb hby at_171) rfl k) ?_
        refine Wk.go (A' := T22.setTop (mkF m 175 #[jv pq, .second, iv ax, iv tx, rv b1, iv ib, iv ia, iv (f_end b1 ia ib fB), iv (0 : Int32), iv (-1 : Int32)] [(.int (-1 : Int32)), (.int (f_end b1 ia ib fB))])) (fun t k => XS.iload X22.here hx rfl (hb hby at_173) rfl k) ?_
        have hc175 : (f_end b1 ia ib fB) = (-1 : Int32) := by simp only [f_end, if_pos hc104, if_neg hc118, if_neg hc131]
        refine Wk.go (A' := T22.setTop (mkF m 178 #[jv pq, .second, iv ax, iv tx, rv b1, iv ib, iv ia, iv (f_end b1 ia ib fB), iv (0 : Int32), iv (-1 : Int32)] [])) (fun t k => XS.icmpNo X22.here hx rfl (hb hby at_175) rfl (teq hc175).2 k) ?_
        refine Wk.go (A' := T22.setTop (mkF m 179 #[jv pq, .second, iv ax, iv tx, rv b1, iv ib, iv ia, iv (f_end b1 ia ib fB), iv (0 : Int32), iv (-1 : Int32)] [(.int (1 : Int32))])) (fun t k => XS.iconst X22.here hx rfl (hb hby at_178) k) ?_
        refine Wk.go (A' := T22.setTop (mkF m 183 #[jv pq, .second, iv ax, iv tx, rv b1, iv ib, iv ia, iv (f_end b1 ia ib fB), iv (0 : Int32), iv (-1 : Int32)] [(.int (1 : Int32))])) (fun t k => XS.goto X22.here hx rfl (pc0 := 179) (pc' := 183) rfl (hb hby at_179) (by decide) (by decide) k) ?_
        refine own_fin (Qv := Q0 Z pq ax tx h0 n0) (v := some (.int (1 : Int32))) X22 hlk (fun h => by rw [Bd.returns] at h; cases h) (fun fs hr => retN X22 hx (t := .boolean) Bd.returns (by simp) (hb hby at_183) hr) ?_ (by decide) (by decide)
        exact ⟨rfl, N22⟩
  · refine Wk.go (A' := T22.setTop (mkF m 155 #[jv pq, .second, iv ax, iv tx, rv b1, iv ib, iv ia, iv (f_end b1 ia ib fB), iv (0 : Int32), .unset] [])) (fun t k => XS.icmpYes X22.here hx rfl (pc0 := 104) (pc' := 155) rfl (hb hby at_104) rfl (flt hc104).2.1 (by decide) (by decide) k) ?_
    refine Wk.go (A' := T22.setTop (mkF m 157 #[jv pq, .second, iv ax, iv tx, rv b1, iv ib, iv ia, iv (f_end b1 ia ib fB), iv (0 : Int32), .unset] [(.int (0 : Int32))])) (fun t k => XS.iload X22.here hx rfl (hb hby at_155) rfl k) ?_
    have hc157 : (0 : Int32) = (0 : Int32) := by decide
    refine Wk.go (A' := T22.setTop (mkF m 160 #[jv pq, .second, iv ax, iv tx, rv b1, iv ib, iv ia, iv (f_end b1 ia ib fB), iv (0 : Int32), .unset] [])) (fun t k => XS.ifNo X22.here hx rfl (hb hby at_157) rfl ((if0 _ _).trans (teq hc157).2) k) ?_
    refine Wk.go (A' := T22.setTop (mkF m 161 #[jv pq, .second, iv ax, iv tx, rv b1, iv ib, iv ia, iv (f_end b1 ia ib fB), iv (0 : Int32), .unset] [(.int (-1 : Int32))])) (fun t k => XS.iconst X22.here hx rfl (hb hby at_160) k) ?_
    refine Wk.go (A' := T22.setTop (mkF m 169 #[jv pq, .second, iv ax, iv tx, rv b1, iv ib, iv ia, iv (f_end b1 ia ib fB), iv (0 : Int32), .unset] [(.int (-1 : Int32))])) (fun t k => XS.goto X22.here hx rfl (pc0 := 161) (pc' := 169) rfl (hb hby at_161) (by decide) (by decide) k) ?_
    refine Wk.go (A' := T22.setTop (mkF m 171 #[jv pq, .second, iv ax, iv tx, rv b1, iv ib, iv ia, iv (f_end b1 ia ib fB), iv (0 : Int32), iv (-1 : Int32)] [])) (fun t k => XS.istore X22.here hx rfl (hb hby at_169) rfl (l' := #[jv pq, .second, iv ax, iv tx, rv b1, iv ib, iv ia, iv (f_end b1 ia ib fB), iv (0 : Int32), iv (-1 : Int32)]) rfl k) ?_
    refine Wk.go (A' := T22.setTop (mkF m 173 #[jv pq, .second, iv ax, iv tx, rv b1, iv ib, iv ia, iv (f_end b1 ia ib fB), iv (0 : Int32), iv (-1 : Int32)] [(.int (f_end b1 ia ib fB))])) (fun t k => XS.iload X22.here hx rfl (hb hby at_171) rfl k) ?_
    refine Wk.go (A' := T22.setTop (mkF m 175 #[jv pq, .second, iv ax, iv tx, rv b1, iv ib, iv ia, iv (f_end b1 ia ib fB), iv (0 : Int32), iv (-1 : Int32)] [(.int (-1 : Int32)), (.int (f_end b1 ia ib fB))])) (fun t k => XS.iload X22.here hx rfl (hb hby at_173) rfl k) ?_
    have hc175 : (f_end b1 ia ib fB) = (-1 : Int32) := by simp only [f_end, if_neg hc104]
    refine Wk.go (A' := T22.setTop (mkF m 178 #[jv pq, .second, iv ax, iv tx, rv b1, iv ib, iv ia, iv (f_end b1 ia ib fB), iv (0 : Int32), iv (-1 : Int32)] [])) (fun t k => XS.icmpNo X22.here hx rfl (hb hby at_175) rfl (teq hc175).2 k) ?_
    refine Wk.go (A' := T22.setTop (mkF m 179 #[jv pq, .second, iv ax, iv tx, rv b1, iv ib, iv ia, iv (f_end b1 ia ib fB), iv (0 : Int32), iv (-1 : Int32)] [(.int (1 : Int32))])) (fun t k => XS.iconst X22.here hx rfl (hb hby at_178) k) ?_
    refine Wk.go (A' := T22.setTop (mkF m 183 #[jv pq, .second, iv ax, iv tx, rv b1, iv ib, iv ia, iv (f_end b1 ia ib fB), iv (0 : Int32), iv (-1 : Int32)] [(.int (1 : Int32))])) (fun t k => XS.goto X22.here hx rfl (pc0 := 179) (pc' := 183) rfl (hb hby at_179) (by decide) (by decide) k) ?_
    refine own_fin (Qv := Q0 Z pq ax tx h0 n0) (v := some (.int (1 : Int32))) X22 hlk (fun h => by rw [Bd.returns] at h; cases h) (fun fs hr => retN X22 hx (t := .boolean) Bd.returns (by simp) (hb hby at_183) hr) ?_ (by decide) (by decide)
    exact ⟨rfl, N22⟩
set_option maxRecDepth 65536 in
set_option maxHeartbeats 40000000 in
theorem comes_1 {Post : Tables → Env → Array Value → State → Outcome → State → Prop} (hpost : ∀ tb e args s v u, (limb_1_1.after args s (.returned v) u = true ∧ limb_1_2.after args s (.returned v) u = true ∧ True) → FrameEnd s (.returned v) u (Jvm.fieldLocs frame_1_writes args s ++ Jvm.arrayLocs frame_1_arrays args s ++ Jvm.staticLocs frame_1_statics s) 16 128 → Post tb e args s (.returned v) u) :
    ArmFor flags0 classFile x code maxLocals ret World_1 tables_1 room_1 Calls_1 rest_1 Pre_1 Post := by
  intro l hfl _ _ p e ha hc hk s m args below hf hA hF happ hP
  obtain ⟨hcalls, hrest, hpre⟩ := hP
  obtain ⟨-, -, -, hnamed, -, -, -, hat⟩ := (Spec.applies_iff hf).mp happ
  obtain ⟨hg, hn⟩ := and_e (Cond.before_iff.mp (show (Jvm.Cond.and given_1 narrow_1).before args s = true from hpre))
  obtain ⟨hcnt, g0⟩ := and_e hg
  obtain ⟨ga0, g1⟩ := and_e g0
  obtain ⟨ga1, g2⟩ := and_e g1
  obtain ⟨w0, w1, w2, rfl⟩ : ∃ w0 w1 w2 : Value, args = #[w0, w1, w2] := by
    have hs : args.size = 3 := by simpa [Cond.value, given_1] using hcnt
    obtain ⟨L⟩ := args
    match L, hs with
    | [w0, w1, w2], _ => exact ⟨w0, w1, w2, rfl⟩
  have hw := fun d (hd : d ∈ tables_1) => atoms_spec (ws := Jvm.Cond.code x code maxLocals ret :: tables_1) hat d (List.mem_cons_of_mem _ hd)
  obtain ⟨i0, ei0⟩ := isL_v ga0
  obtain rfl : w0 = (.long i0) := Option.some.inj ei0
  obtain ⟨i1, ei1⟩ := is_v ga1
  obtain rfl : w1 = (.int i1) := Option.some.inj ei1
  obtain ⟨i2, ei2⟩ := is_v g2
  obtain rfl : w2 = (.int i2) := Option.some.inj ei2
  obtain ⟨n, o, h1, h2, h3, _, L, rfl, ⟨rfl, N⟩, hq⟩ := rm0 l s _ hw tables_1 i0 i1 i2  s.heap s.heap.size (Nat.le_refl _)  p e ha hc hk s m _ below hf ((Spec.applies_iff_loose hf).mp happ).1 ⟨rfl, State.Warmed39.refl s, rfl⟩ trivial
  refine ⟨n, _, h1, h2, h3, hpost _ _ _ _ _ _ ⟨Cond.after_iff.mpr rfl, Cond.after_iff.mpr (eq_i res_at (Term.int_eval (1)) rfl), trivial⟩ ⟨hq.1, hq.2.1, (hq.2.2.sift fun y hy => Or.inr (N y hy)).mono (by decide) (by decide)⟩⟩
theorem main_1_1 : Claimed_1_1 := comes_1 fun _ _ _ _ _ _ h hF => ⟨h.1, hF⟩
theorem main_1_2 : Claimed_1_2 := comes_1 fun _ _ _ _ _ _ h hF => ⟨h.2.1, hF⟩
end Jvm.Pilot.@@N@@
namespace Jvm.Pilot.@@N@@
open Jvm Jvm.ClassFile Sem Op Lib Jvm.Free Jvm.Stand Jvm.Pilot.@@N@@.Jvm.D
/-! MADE BY PROGRAM (witnessworld.py) out of the Statement's table words and the real class files: 9 classes; the members and pool entries that the words name. The judged class is class 1, her method 2. -/
namespace start1
open Jvm.ClassFile
def u (s : String) : CpInfo := .utf8 (stringToUtf16 s)
/-- a pool by its gaps: so many unusable entries, then the entry; so many at the end -/
def gap : Nat → List CpInfo → List CpInfo
  | 0, r => r
  | n + 1, r => .unusable :: gap n r
def poolList (es : List (Nat × CpInfo)) (last : Nat) : List CpInfo := es.foldr (fun e r => gap e.1 (e.2 :: r)) (gap last [])
def pool (es : List (Nat × CpInfo)) (last : Nat) : Array CpInfo := ⟨poolList es last⟩
def fileOf (pool : Array CpInfo) (this : Nat) (attrs : Array Attribute := #[]) (ms : Array MethodInfo := #[]) (fl : Nat := 33) (sup : Nat := 0) (ifs : Array Nat := #[]) (fds : Array FieldInfo := #[]) : ClassFile where
  minorVersion := 0
  majorVersion := 65
  constantPool := pool
  accessFlags := fl
  thisClass := this
  superClass := sup
  interfaces := ifs
  fields := fds
  methods := ms
  attributes := attrs
def plain (name : String) (sup : Option ClassId) : Class where
  name := name
  kind := .ordinary
  loader := none
  accessFlags := 33
  super := sup
  interfaces := #[]
  cf := none
  fields := #[]
  methods := #[]
  instanceTypes := #[]
  staticTypes := #[]
  resolved := #[]
  callSites := []
  init := .initialized
  statics := none
  mirror := none

def pool0 : Array CpInfo := pool [(5, u "<init>"), (0, u "()V"), (1, .class_ 10), (1, u "java/lang/Object")] 113

def k0m0 : Method := { name := "<init>", desc := "()V", sig := { parameters := [], returnType := none }, accessFlags := 1, code := none }
/-- java/lang/Object -/
def k0 : Class := { plain "java/lang/Object" none with
  accessFlags := 33
  interfaces := #[]
  cf := some (fileOf pool0 8 #[] #[{ accessFlags := 1, nameIndex := 5, descriptorIndex := 6, attributes := #[] }] 33 0 #[] #[])
  fields := #[]
  methods := #[k0m0]
  instanceTypes := #[]
  staticTypes := #[]
  resolved := Array.replicate 124 none
  statics := none }

def pool1 : Array CpInfo := pool [(2, .class_ 4), (1, u "java/lang/Object"), (0, u "<init>"), (0, u "()V"), (0, .methodref 8 9), (0, .class_ 10), (0, .nameAndType 11 12), (0, u "com/example/arcwalk/arcwalk/TermSpansEndingEndPinLaw"), (0, u "draw"), (0, u "(JI)B"), (0, .integer 2147483647), (0, .methodref 15 16), (0, .class_ 17), (0, .nameAndType 18 19), (0, u "com/example/arcwalk/arcwalk/TermSpans"), (0, u "endingEnd"), (0, u "([BII)I"), (3, u "law"), (0, u "(JII)Z")] 4

def k1m0 : Method := { name := "<init>", desc := "()V", sig := { parameters := [], returnType := none }, accessFlags := 1, code := none }
def k1c1 : Code := { maxStack := 4, maxLocals := 5, code := method_2_code, exceptionTable := #[], attributes := #[] }
def k1m1 : Method := { name := "draw", desc := "(JI)B", sig := { parameters := [.long, .int], returnType := some .byte }, accessFlags := 10, code := some k1c1 }
def k1c2 : Code := { maxStack := 5, maxLocals := 10, code := code, exceptionTable := #[], attributes := #[] }
def k1m2 : Method := { name := "law", desc := "(JII)Z", sig := { parameters := [.long, .int, .int], returnType := some .boolean }, accessFlags := 9, code := some k1c2 }
/-- com/example/arcwalk/arcwalk/TermSpansEndingEndPinLaw -/
def k1 : Class := { plain "com/example/arcwalk/arcwalk/TermSpansEndingEndPinLaw" (some 0) with
  accessFlags := 49
  interfaces := #[]
  cf := some (fileOf pool1 8 #[] #[{ accessFlags := 1, nameIndex := 5, descriptorIndex := 6, attributes := #[] }, { accessFlags := 10, nameIndex := 11, descriptorIndex := 12, attributes := #[] }, { accessFlags := 9, nameIndex := 23, descriptorIndex := 24, attributes := #[] }] 49 2 #[] #[])
  fields := #[]
  methods := #[k1m0, k1m1, k1m2]
  instanceTypes := #[]
  staticTypes := #[]
  resolved := Array.replicate 29 none
  statics := none }

def pool2 : Array CpInfo := pool [(2, .class_ 4), (1, u "java/lang/Object"), (0, u "<init>"), (0, u "()V"), (0, .class_ 8), (0, u "com/example/arcwalk/arcwalk/TermSpans$AsciiChars"), (2, .class_ 13), (1, u "com/example/arcwalk/arcwalk/TermSpans"), (0, u "chars"), (0, u "Lcom/example/arcwalk/arcwalk/TermSpans$AsciiChars;"), (2, u "hash"), (0, u "I"), (50, u "([BII)I"), (66, u "endingEnd")] 7

def k2m0 : Method := { name := "<init>", desc := "()V", sig := { parameters := [], returnType := none }, accessFlags := 0, code := none }
def k2c1 : Code := { maxStack := 3, maxLocals := 4, code := prog_83_method_21_code, exceptionTable := #[], attributes := #[] }
def k2m1 : Method := { name := "endingEnd", desc := "([BII)I", sig := { parameters := [(.array .byte), .int, .int], returnType := some .int }, accessFlags := 8, code := some k2c1 }
/-- com/example/arcwalk/arcwalk/TermSpans -/
def k2 : Class := { plain "com/example/arcwalk/arcwalk/TermSpans" (some 0) with
  accessFlags := 32
  interfaces := #[]
  cf := some (fileOf pool2 11 #[.nestMembers #[7]] #[{ accessFlags := 0, nameIndex := 5, descriptorIndex := 6, attributes := #[] }, { accessFlags := 8, nameIndex := 137, descriptorIndex := 70, attributes := #[] }] 32 2 #[] #[{ accessFlags := 2, nameIndex := 18, descriptorIndex := 19, attributes := #[] }, { accessFlags := 18, nameIndex := 14, descriptorIndex := 15, attributes := #[] }])
  fields := #[{ name := "hash", type := .int, accessFlags := 2, slot := 0, constantValue := 0 }, { name := "chars", type := (.object "com/example/arcwalk/arcwalk/TermSpans$AsciiChars"), accessFlags := 18, slot := 1, constantValue := 0 }]
  methods := #[k2m0, k2m1]
  instanceTypes := #[.int, (.object "com/example/arcwalk/arcwalk/TermSpans$AsciiChars")]
  staticTypes := #[]
  resolved := Array.replicate 145 none
  statics := none }

def pool3 : Array CpInfo := pool [(1, u "java/lang/Cloneable"), (0, .class_ 1), (0, u "java/lang/Object"), (0, .class_ 3)] 3

/-- java/lang/Cloneable -/
def k3 : Class := { plain "java/lang/Cloneable" (some 0) with
  accessFlags := 1537
  interfaces := #[]
  cf := some (fileOf pool3 2 #[] #[] 1537 4 #[] #[])
  fields := #[]
  methods := #[]
  instanceTypes := #[]
  staticTypes := #[]
  resolved := Array.replicate 8 none
  statics := none }

def pool4 : Array CpInfo := pool [(1, u "java/io/Serializable"), (0, .class_ 1), (0, u "java/lang/Object"), (0, .class_ 3)] 3

/-- java/io/Serializable -/
def k4 : Class := { plain "java/io/Serializable" (some 0) with
  accessFlags := 1537
  interfaces := #[]
  cf := some (fileOf pool4 2 #[] #[] 1537 4 #[] #[])
  fields := #[]
  methods := #[]
  instanceTypes := #[]
  staticTypes := #[]
  resolved := Array.replicate 8 none
  statics := none }

/-- the primitive byte -/
def k5 : Class := { plain "byte" none with kind := .primitive 'B', accessFlags := 0x411 }
/-- [B -/
def k6 : Class := { plain "[B" (some 0) with kind := .array 5 .byte, interfaces := #[3, 4], accessFlags := 1041 }

/-- the primitive int -/
def k7 : Class := { plain "int" none with kind := .primitive 'I', accessFlags := 0x411 }
/-- [I -/
def k8 : Class := { plain "[I" (some 0) with kind := .array 7 .int, interfaces := #[3, 4], accessFlags := 1041 }

def heap : Heap := #[]
def classes : Array Class := #[k0, k1, k2, k3, k4, k5, k6, k7, k8]
def interned : List (Array UInt16 × Addr) := []
def slotsUsed : Nat := 0
def theMethod : MethodId := ⟨1, 2⟩
def args0 : Array Value := #[.long 5, .int 7, .int 8]
def aboutOver (below : List Frame) : State where
  vm := { classes := classes, interned := interned.toArray }
  heap := heap
  slotsUsed := slotsUsed
  threads := #[{ frames := .invoking theMethod args0 :: below }]
def below0 : List Frame := [.native { method := ⟨0, 0⟩, args := #[] }]
def about1 : State := aboutOver below0
def p0 : Program := .bare "" "" ""
def e0 : Env := launch0.env 0 0 0
theorem w_frames : about1.frames = Frame.invoking theMethod args0 :: below0 := rfl
set_option maxRecDepth 65536 in
theorem w_args : argsFit about1.vm theMethod args0 = true := by decide +kernel
set_option maxRecDepth 65536 in
theorem w_heap : heapFits about1 = true := by decide +kernel
set_option maxRecDepth 65536 in
theorem w_runnable : about1.curStatus? = some .runnable := by decide +kernel
set_option maxRecDepth 65536 in
theorem w_alone : about1.alone = true := by decide +kernel
set_option maxRecDepth 65536 in
theorem w_named : about1.methodNamed? x = some theMethod := by decide +kernel
set_option maxRecDepth 65536 in
theorem w_hears : about1.hears theMethod below0 = true := by decide +kernel
set_option maxRecDepth 65536 in
theorem w_ripe : about1.ripe theMethod args0 below0 = true := by decide +kernel
theorem w_running : about1.status = .running := rfl
set_option maxRecDepth 65536 in
theorem w_room : about1.hasRoom e0.platform room_1 = true :=
  launch0.hasRoom_least _ room_1 (by decide +kernel) (by decide +kernel) (by decide +kernel) (by decide +kernel) (by decide +kernel) (by decide +kernel)
theorem allAtoms_all (ts : List Jvm.Cond) (a : Array Jvm.Value) (st : Jvm.State) : (allAtoms ts).before a st = ts.all (fun c => c.before a st) := by
  induction ts with
  | nil => rfl
  | cons c t ih =>
    show (Jvm.Cond.and c (allAtoms t)).before a st = _
    rw [Jvm.Cond.before_and, ih, List.all_cons]
def words1 : List Jvm.Cond := Jvm.Cond.code x code maxLocals ret :: tables_1
/-- a 'code' word, met by the world's own term for the bytes: nothing is compared byte by byte -/
theorem code_word {y : MethodName} {bytes : ByteArray} {mx : Nat} {rt : Option FieldType} {a : Array Value} {s : State} {m : MethodId} {meth : Method} {c : Code} (h1 : s.methodNamed? y = some m) (h2 : s.vm.method? m = some meth) (h3 : meth.code = some c) (h4 : c.code = bytes)
    (h5 : (c.maxLocals == mx && c.exceptionTable.isEmpty && decide (c.maxStack ≤ mostOperands) && decide (meth.sig.returnType = rt) && !meth.locks && decide (parseMethodDescriptor y.desc = some meth.sig)) = true) : (Jvm.Cond.code y bytes mx rt).before a s = true := by
  simp only [Bool.and_eq_true, beq_iff_eq, Bool.not_eq_true', decide_eq_true_eq] at h5
  obtain ⟨⟨⟨⟨⟨g1, g2⟩, g3⟩, g4⟩, g5⟩, g6⟩ := h5
  simp [Cond.before, Cond.holds, Cond.value, h1, h2, h3, h4, g1, g2, g3, g4, g5, g6]
def isCode : Jvm.Cond → Bool
  | .code _ _ _ _ => true
  | _ => false
theorem all_split {L : List Jvm.Cond} {P : Jvm.Cond → Bool} (h1 : L.all (fun c => isCode c || P c) = true) (h2 : ∀ c ∈ L.filter isCode, P c = true) : L.all P = true := by
  refine List.all_eq_true.mpr fun c hc => ?_
  have h := List.all_eq_true.mp h1 c hc
  rcases Bool.eq_false_or_eq_true (isCode c) with hi | hi
  · exact h2 c (List.mem_filter.mpr ⟨hc, hi⟩)
  · simpa [hi] using h
set_option maxRecDepth 65536 in
theorem w_c0 : (Jvm.Cond.code x code maxLocals ret).before args0 about1 = true := code_word (m := ⟨1, 2⟩) (meth := k1m2) (c := k1c2) (by decide +kernel) rfl rfl rfl (by decide +kernel)
set_option maxRecDepth 65536 in
theorem w_c1 : (Jvm.Cond.code ({ cls := "com/example/arcwalk/arcwalk/TermSpansEndingEndPinLaw", name := "draw", desc := "(JI)B" } : Jvm.MethodName) method_2_code (5 : Nat) (Option.some Jvm.ClassFile.FieldType.byte)).before args0 about1 = true := code_word (m := ⟨1, 1⟩) (meth := k1m1) (c := k1c1) (by decide +kernel) rfl rfl rfl (by decide +kernel)
set_option maxRecDepth 65536 in
theorem w_c2 : (Jvm.Cond.code ({ cls := "com/example/arcwalk/arcwalk/TermSpans", name := "endingEnd", desc := "([BII)I" } : Jvm.MethodName) prog_83_method_21_code (4 : Nat) (Option.some Jvm.ClassFile.FieldType.int)).before args0 about1 = true := code_word (m := ⟨2, 1⟩) (meth := k2m1) (c := k2c1) (by decide +kernel) rfl rfl rfl (by decide +kernel)
def codes1 : List Jvm.Cond := [Jvm.Cond.code x code maxLocals ret, Jvm.Cond.code ({ cls := "com/example/arcwalk/arcwalk/TermSpansEndingEndPinLaw", name := "draw", desc := "(JI)B" } : Jvm.MethodName) method_2_code (5 : Nat) (Option.some Jvm.ClassFile.FieldType.byte), Jvm.Cond.code ({ cls := "com/example/arcwalk/arcwalk/TermSpans", name := "endingEnd", desc := "([BII)I" } : Jvm.MethodName) prog_83_method_21_code (4 : Nat) (Option.some Jvm.ClassFile.FieldType.int)]
set_option maxRecDepth 65536 in
theorem codes_eq : words1.filter isCode = codes1 := rfl
theorem w_codes : ∀ c ∈ words1.filter isCode, c.before args0 about1 = true := by
  rw [codes_eq]
  intro c hc
  simp only [codes1, List.mem_cons, List.not_mem_nil, or_false] at hc
  rcases hc with rfl | rfl | rfl
  · exact w_c0
  · exact w_c1
  · exact w_c2
set_option maxRecDepth 65536 in
theorem w_t1 : words1.all (fun c => isCode c || c.before args0 about1) = true := by decide +kernel
theorem w_tables : (allAtoms (Jvm.Cond.code x code maxLocals ret :: tables_1)).before args0 about1 = true := by
  rw [allAtoms_all]
  show words1.all (fun c => c.before args0 about1) = true
  refine all_split ?_ w_codes
  rw [w_t1]
set_option maxRecDepth 65536 in
theorem w_case : (Jvm.Cond.and given_1 narrow_1).before args0 about1 = true := by decide +kernel
theorem w_applies : (headSpec (Jvm.Cond.code x code maxLocals ret :: tables_1) room_1).applies x e0.platform about1 = true :=
  (Spec.applies_iff w_frames).mpr ⟨w_running, w_runnable, w_alone, w_named, w_hears, w_ripe, w_room, w_tables⟩
theorem atStart : AtStart classFile x code maxLocals ret World_1 tables_1 room_1 Calls_1 rest_1 Pre_1 launch0 p0 e0 about1 theMethod args0 below0 :=
  ⟨lists_1, trivial, launch0.admits_env _ _ _, launch0.least_env, fairChoices_fair.cas, fairChoices_fair.clock, w_frames, w_args, w_heap, w_applies, trivial, trivial, w_case⟩
end start1
theorem witness_1 : WitnessClaimed_1 := ⟨start1.p0, start1.e0, start1.about1, start1.theMethod, start1.args0, start1.below0, start1.atStart⟩
end Jvm.Pilot.@@N@@
