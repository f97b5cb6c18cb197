import JvmDerived
import JvmDerived.Pilot.@@N@@Statement
import JvmDerived.Pilot.@@N@@Code
set_option linter.unusedVariables false
set_option linter.unusedSimpArgs false
namespace Jvm.RoadKit
open Sem ClassFile Op Lib Jvm.Stand Jvm.Free Jvm.LawKit
section New
variable {p : Program} {l : Launch} {e : Env} {R : Room} {s : State} {m : MethodId} {args : Array Value} {below : List Frame} {meth : Method} {c : Code} {T : State} {locs : List Loc} {cells slots : Nat}
theorem retI (X : Stand p l e R s m args below meth c T locs cells slots) (hx : p.tables.exec = Jvm.exec) {pc : Nat} {Ls : Array Slot} {z : Int32} {rest : List Value} (hret : meth.sig.returnType = some .int) (hd : decode c.code pc = .ok (.ireturn, 1)) {fs : List Frame}
    (hl : ∀ (f : JFrame) (acts : List Action), f.method = m → f.locked = none → f.entered = [] → (doReturn e (T.setTop f) acts (some (.int z))).1 = T.setFrames fs) : Steps p.tables e below (T.setTop (mkF m pc Ls (.int z :: rest))) (T.setFrames fs) := by
  have hm' : T.vm.method? m = some meth := X.method'
  have hn : narrow .int (.int z) = .int z := rfl
  show Steps p.tables e below (T.setTop { method := m, pc := pc, locals := Ls, stack := _ :: rest, locked := none }) _
  jvm_step X.here [X.here.top, hx, hd, hm', hret, hn]
  first | (intro acts; rw [hl _ acts rfl rfl rfl]) | rw [hl _ _ rfl rfl rfl]
  exact Steps.refl _
abbrev jv (x : Int64) : Slot := .val (.long x)
/-- from A the run goes on to an end of which R holds -/
def Wk (tb : Tables) (e : Env) (below : List Frame) (A : State) (R : State → Outcome → Prop) : Prop := ∃ U o, Steps tb e below A U ∧ R U o
theorem Wk.go {tb : Tables} {A A' : State} {R : State → Outcome → Prop} (h : ∀ t, Steps tb e below A' t → Steps tb e below A t) (k : Wk tb e below A' R) : Wk tb e below A R := by
  obtain ⟨U, o, k1, k2⟩ := k
  exact ⟨U, o, h _ k1, k2⟩
/-- the two ways from A to A' meet there -/
theorem own_fin (X : Stand p l e R s m args below meth c T locs cells slots) {Qv : Option Value → Heap → List Loc → Prop} {v : Option Value} {g : JFrame} {C S : Nat} (hlocks : meth.locks = false) (hv : meth.sig.returnType = none → v = none)
    (hst : ∀ fs, (∀ (f : JFrame) (acts : List Action), f.method = m → f.locked = none → f.entered = [] → (doReturn e (T.setTop f) acts v).1 = T.setFrames fs) → Steps p.tables e below (T.setTop g) (T.setFrames fs))
    (hQ : Qv v T.heap locs) (hc : cells ≤ C) (hs : slots ≤ S) :
    Wk p.tables e below (T.setTop g) (fun U o => U.status = .running ∧ Ended U below o ∧ ∃ v L, o = .returned v ∧ Qv v U.heap L ∧ FrameEnd s o U L C S) := by
  obtain ⟨fs, hr, hrun, hended, hW, hsame⟩ := X.leave (v := v) hv hlocks
  exact ⟨_, _, hst fs hr, hrun, hended, _, _, rfl, hQ, ⟨_, rfl⟩, hW, hsame.mono hc hs⟩
end New
end Jvm.RoadKit
namespace Jvm.Pilot.@@N@@
open Jvm Jvm.ClassFile Sem Op Lib Jvm.Free Jvm.Stand Jvm.LawKit Jvm.RoadKit Bundle Jvm.Pilot.@@N@@.Jvm.D
/-- a place overwritten -/
def own_upd (f : Nat → Int32) (i : Nat) (y : Int32) : Nat → Int32 := fun j => if j = i then y else f j
theorem own_upd_eq (f : Nat → Int32) (i : Nat) (y : Int32) : own_upd f i y i = y := if_pos rfl
theorem own_upd_ne (f : Nat → Int32) {i j : Nat} (y : Int32) (h : j ≠ i) : own_upd f i y j = f j := if_neg h
/-- the byte[] at a has n places; place j holds f j -/
def BA (Z : State) (h : Heap) (a : Addr) (n : Nat) (f : Nat → Int32) : Prop := ∃ c : Cell, Arr Z h a c .byte ∧ c.slots.size = n ∧ ∀ j, j < n → c.slots[j]? = some (.int (f j))
section Bytes
variable {p : Program} {l : Launch} {e : Env} {R : Room} {s : State} {m : MethodId} {args : Array Value} {below : List Frame} {meth : Method} {c : Code} {T : State} {locs : List Loc} {cells slots : Nat} {Z : State} {h h' : Heap} {a b : Addr} {n : Nat} {f : Nat → Int32} {ws : List Addr} {sl : Nat} {v : Value}
theorem BA.new {k : ClassId} {z : Int32} (A : Arr Z h a (newA k .byte z) .byte) : BA Z h a z.toNatClampNeg (fun _ => 0) := ⟨_, A, sz_new _ _ _, fun j hj => by simp [newA, hj]; rfl⟩
theorem BA.lt (F : BA Z h a n f) : a < h.size := by obtain ⟨c, A, -⟩ := F; exact A.lt
theorem BA.ext (F : BA Z h a n f) (E : Ext h h') : BA Z h' a n f := by obtain ⟨c, A, r⟩ := F; exact ⟨c, A.ext E, r⟩
theorem BA.other (F : BA Z h b n f) (W : Wr h h' a sl v) (q : b ≠ a) : BA Z h' b n f := by obtain ⟨c, A, r⟩ := F; exact ⟨c, A.other W q, r⟩
theorem BA.keep (F : BA Z h a n f) (K : Keep h h' ws) (q : a ∉ ws) : BA Z h' a n f := by obtain ⟨c, A, r⟩ := F; exact ⟨c, ⟨K.2.1 a c A.1 q, A.2⟩, r⟩
theorem own_clamp {j : Int32} (h0 : 0 ≤ j.toInt) : (j.toNatClampNeg : Int) = j.toInt := by
  have q : ¬ j < 0 := by
    rw [Int32.lt_iff_toInt_lt]
    have e : (0 : Int32).toInt = 0 := by decide
    omega
  exact (nat_of q).symm
theorem own_inb {cl : Cell} {j : Int32} (S : cl.slots.size = n) (hj : 0 ≤ j.toInt ∧ j.toInt < n) : ¬ (j < 0 ∨ cl.slots.size ≤ j.toNatClampNeg) := by
  have e0 : (0 : Int32).toInt = 0 := by decide
  have := own_clamp hj.1
  rw [Int32.lt_iff_toInt_lt]; omega
theorem own_stB (X : Stand p l e R s m args below meth c T locs cells slots) (hx : p.tables.exec = Jvm.exec) (hZ : Z.Warmed39 s.vm) (eT : T.heap = h) (F : BA Z h a n f) {j x : Int32} (hj : 0 ≤ j.toInt ∧ j.toInt < n) {g : JFrame} (hg : g.method = m) {rest : List Value} (hs : g.stack = .int x :: .int j :: .ref a :: rest) (hd : decode c.code g.pc = .ok (.bastore, 1)) :
    ∃ T' h', Stand p l e R s m args below meth c T' (locs ++ [⟨a, j.toNatClampNeg⟩]) cells slots ∧ T'.heap = h' ∧ Wr h h' a j.toNatClampNeg (.int (nar .byte x)) ∧ BA Z h' a n (own_upd f j.toNatClampNeg x.toInt8.toInt32) ∧ ∀ target, Steps p.tables e below (T'.setTop { g with pc := g.pc + 1, stack := rest }) target → Steps p.tables e below (T.setTop g) target := by
  obtain ⟨cl, A, S, H⟩ := F
  have hin := own_inb S hj
  obtain ⟨T', h', X', e', W, st⟩ := stB X hx hZ eT A (j := j) (x := x) hin hg hs hd
  refine ⟨T', h', X', e', W, ⟨cl.setSlot j.toNatClampNeg (.int (nar .byte x)), A.same W, by rw [sz_set]; exact S, fun i hi => ?_⟩, st⟩
  by_cases q : i = j.toNatClampNeg
  · subst q
    rw [own_upd_eq]
    exact get_hit (k := j) hin rfl
  · rw [own_upd_ne _ _ q, ← H i hi]
    show (cl.slots.setIfInBounds j.toNatClampNeg _)[i]? = _
    rw [Array.getElem?_setIfInBounds_ne (Ne.symm q)]
theorem own_ldB (X : Stand p l e R s m args below meth c T locs cells slots) (hx : p.tables.exec = Jvm.exec) (hZ : Z.Warmed39 s.vm) (eT : T.heap = h) (F : BA Z h a n f) {j : Int32} (hj : 0 ≤ j.toInt ∧ j.toInt < n) {g : JFrame} (hg : g.method = m) {rest : List Value} (hs : g.stack = .int j :: .ref a :: rest) (hd : decode c.code g.pc = .ok (.baload, 1)) :
    ∀ target, Steps p.tables e below (T.setTop { g with pc := g.pc + 1, stack := .int (f j.toNatClampNeg) :: rest }) target → Steps p.tables e below (T.setTop g) target := by
  obtain ⟨cl, A, S, H⟩ := F
  have hc := own_clamp hj.1
  intro target k
  exact X.baloadBytes hx (j := j) (v := .int (f j.toNatClampNeg)) (by rw [eT]; exact A.1) (State.isArrayOf_alike hZ.alike A.2.1) A.2.2 (own_inb S hj) (H _ (by omega)) hg hs hd target k
end Bytes
theorem d1_0 : decode prog_21_method_1_code 0 = .ok (.aload_n 0, 1) := by decide +kernel
theorem tw6 {Z : State} {a0 : Array Value} (hw : ∀ d ∈ tables_1, d.before a0 Z = true) : (Jvm.Cond.methodLink "com/example/rookery/rookery/drawing/GridPoint" (1 : Nat) ({ cls := "java/lang/Object", name := "<init>", desc := "()V" } : Jvm.MethodName)).before a0 Z = true := hw _ (List.mem_of_getElem? (i := 6) rfl)
theorem tw7 {Z : State} {a0 : Array Value} (hw : ∀ d ∈ tables_1, d.before a0 Z = true) : (Jvm.Cond.instanceMethod ({ cls := "java/lang/Object", name := "<init>", desc := "()V" } : Jvm.MethodName)).before a0 Z = true := hw _ (List.mem_of_getElem? (i := 7) rfl)
theorem tw8 {Z : State} {a0 : Array Value} (hw : ∀ d ∈ tables_1, d.before a0 Z = true) : (Jvm.Cond.code ({ cls := "java/lang/Object", name := "<init>", desc := "()V" } : Jvm.MethodName) object_method_1_code (1 : Nat) (Option.none : Option Jvm.ClassFile.FieldType)).before a0 Z = true := hw _ (List.mem_of_getElem? (i := 8) rfl)
theorem d1_1 : decode prog_21_method_1_code 1 = .ok (.invokespecial 1, 3) := by decide +kernel
theorem d1_4 : decode prog_21_method_1_code 4 = .ok (.aload_n 0, 1) := by decide +kernel
theorem d1_5 : decode prog_21_method_1_code 5 = .ok (.lload_n 1, 1) := by decide +kernel
theorem tw9 {Z : State} {a0 : Array Value} (hw : ∀ d ∈ tables_1, d.before a0 Z = true) : (Jvm.Cond.fieldLink "com/example/rookery/rookery/drawing/GridPoint" (7 : Nat) "com/example/rookery/rookery/drawing/GridPoint" "x" "J").before a0 Z = true := hw _ (List.mem_of_getElem? (i := 9) rfl)
theorem tw10 {Z : State} {a0 : Array Value} (hw : ∀ d ∈ tables_1, d.before a0 Z = true) : (Jvm.Cond.laysFinal "com/example/rookery/rookery/drawing/GridPoint" "com/example/rookery/rookery/drawing/GridPoint" "x" "J").before a0 Z = true := hw _ (List.mem_of_getElem? (i := 10) rfl)
theorem tw1 {Z : State} {a0 : Array Value} (hw : ∀ d ∈ tables_1, d.before a0 Z = true) : (Jvm.Cond.instantiable "com/example/rookery/rookery/drawing/GridPoint" (2 : Nat)).before a0 Z = true := hw _ (List.mem_of_getElem? (i := 1) rfl)
theorem d1_6 : decode prog_21_method_1_code 6 = .ok (.putfield 7, 3) := by decide +kernel
theorem tw12 {Z : State} {a0 : Array Value} (hw : ∀ d ∈ tables_1, d.before a0 Z = true) : (Jvm.Cond.laysFinal "com/example/rookery/rookery/drawing/GridPoint" "com/example/rookery/rookery/drawing/GridPoint" "y" "J").before a0 Z = true := hw _ (List.mem_of_getElem? (i := 12) rfl)
theorem sn_0 {Z : State} {a0 : Array Value} (hw : ∀ d ∈ tables_1, d.before a0 Z = true) : Jvm.RoadKit.slotOf Z "com/example/rookery/rookery/drawing/GridPoint" "y" "J" ≠ Jvm.RoadKit.slotOf Z "com/example/rookery/rookery/drawing/GridPoint" "x" "J" := Jvm.RoadKit.slot_ne (Or.inr (tw12 hw)) (Or.inr (tw10 hw)) (by decide) (t := .long) (t' := .long) (by decide) (by decide)
theorem d1_9 : decode prog_21_method_1_code 9 = .ok (.aload_n 0, 1) := by decide +kernel
theorem d1_10 : decode prog_21_method_1_code 10 = .ok (.lload_n 3, 1) := by decide +kernel
theorem tw11 {Z : State} {a0 : Array Value} (hw : ∀ d ∈ tables_1, d.before a0 Z = true) : (Jvm.Cond.fieldLink "com/example/rookery/rookery/drawing/GridPoint" (13 : Nat) "com/example/rookery/rookery/drawing/GridPoint" "y" "J").before a0 Z = true := hw _ (List.mem_of_getElem? (i := 11) rfl)
theorem d1_11 : decode prog_21_method_1_code 11 = .ok (.putfield 13, 3) := by decide +kernel
theorem sn_1 {Z : State} {a0 : Array Value} (hw : ∀ d ∈ tables_1, d.before a0 Z = true) : Jvm.RoadKit.slotOf Z "com/example/rookery/rookery/drawing/GridPoint" "x" "J" ≠ Jvm.RoadKit.slotOf Z "com/example/rookery/rookery/drawing/GridPoint" "y" "J" := Jvm.RoadKit.slot_ne (Or.inr (tw10 hw)) (Or.inr (tw12 hw)) (by decide) (t := .long) (t' := .long) (by decide) (by decide)
theorem d1_14 : decode prog_21_method_1_code 14 = .ok (.return_, 1) := by decide +kernel
theorem pn_0 : plainName "com/example/rookery/rookery/drawing/GridPoint" = true := by first | (simp [plainName, overriddenIn]; done) | decide +kernel
theorem ef_1 (m : MethodId) (x0 : Addr) (x1 : Int64) (x2 : Int64) : entryFrame m #[(.ref x0), (.long x1), (.long x2)] 5 = mkF m 0 #[rv x0, jv x1, .second, jv x2, .second] [] := by first | (simp [entryFrame, mkF, argsToLocals, Value.category]; done) | rfl
def Q1 (Z : State) (ob : Addr) (xa : Int64) (ya : Int64)  (h0 : Heap) (n0 : Nat) (v : Option Value) (h : Heap) (L : List Loc) : Prop := v = none ∧ Fr n0 L ∧ Keep h0 h [ob] ∧ Exa Z h ob "com/example/rookery/rookery/drawing/GridPoint" ∧ Fld Z h ob "com/example/rookery/rookery/drawing/GridPoint" "x" "J" (.long xa) ∧ Fld Z h ob "com/example/rookery/rookery/drawing/GridPoint" "y" "J" (.long ya)
set_option maxRecDepth 65536 in
set_option maxHeartbeats 40000000 in
theorem rm1 (l : Launch) (Z : State) (a0 : Array Value) (hw : ∀ d ∈ tables_1, d.before a0 Z = true) (ws : List Jvm.Cond) (ob : Addr) (xa : Int64) (ya : Int64)  (h0 : Heap) (n0 : Nat) (Z0 : n0 ≤ h0.size) (E_ob : Exa Z h0 ob "com/example/rookery/rookery/drawing/GridPoint") (F_x : Fld Z h0 ob "com/example/rookery/rookery/drawing/GridPoint" "x" "J" (.long (0 : Int64))) (F_y : Fld Z h0 ob "com/example/rookery/rookery/drawing/GridPoint" "y" "J" (.long (0 : Int64))) (g_ob : n0 ≤ ob) :
    MetFree l (⟨"com/example/rookery/rookery/drawing/GridPoint", "<init>", "(JJ)V"⟩ : MethodName) (head1 (Jvm.Cond.code (⟨"com/example/rookery/rookery/drawing/GridPoint", "<init>", "(JJ)V"⟩ : MethodName) prog_21_method_1_code 5 none :: ws) ({ frames := 1, cells := 0, slots := 0, locals := 12 } : Room)) (fun a U => a = #[(.ref ob), (.long xa), (.long ya)] ∧ Z.Warmed39 U.vm ∧ U.heap = h0) (fun _ _ _ _ _ => True) (fun _ U o U' => ∃ v L, o = .returned v ∧ Q1 Z ob xa ya h0 n0 v U'.heap L ∧ FrameEnd U o U' L ({ frames := 1, cells := 0, slots := 0, locals := 12 } : Room).cells ({ frames := 1, cells := 0, slots := 0, locals := 12 } : Room).slots) := by
  refine MetFree.of_bodySF (plainFor_of_name pn_0) hisR ?_
  intro p e s m args below meth c s₁ Bd hml0 hP hK
  obtain ⟨rfl, hZ, hh⟩ := hP
  have hx := Bd.exec
  have hby := Bd.bytes
  have hml : c.maxLocals = 5 := hml0
  have hown : s.vm.findClass "com/example/rookery/rookery/drawing/GridPoint" = some m.cls := findClass_of_methodNamed Bd.named
  have hnm := (name_of_methodNamed Bd.named Bd.method).1
  have X0 : Stand p l e ({ frames := 1, cells := 0, slots := 0, locals := 12 } : Room) s m #[(.ref ob), (.long xa), (.long ya)] below meth c s₁ [] 0 0 := Stand.of_body Bd
  have e0 : s₁.heap = h0 := by rw [← hh, Bd.state]; rfl
  have N0 := Fr.nil n0
  have hlk : meth.locks = false := BodyLoose.notSynchronized Bd
  suffices hwk : Wk p.tables e below (s₁.setTop (mkF m 0 #[rv ob, jv xa, .second, jv ya, .second] [])) (fun U o => U.status = .running ∧ Ended U below o ∧ ∃ v L, o = .returned v ∧ Q1 Z ob xa ya h0 n0 v U.heap L ∧ FrameEnd s o U L 0 0) by
    obtain ⟨U, o, k1, k2⟩ := hwk
    exact ⟨U, o, castTop (ef_1 m ob xa ya) k1, k2⟩
  have K0 := Keep.refl h0 [ob]
  refine Wk.go (A' := s₁.setTop (mkF m 1 #[rv ob, jv xa, .second, jv ya, .second] [(.ref ob)])) (fun t k => XS.aloadN X0.here hx rfl (hb hby d1_0) rfl rfl k) ?_
  obtain ⟨T1, X1, e1, st1⟩ := initO X0 hx hZ hown (tw6 hw) (tw7 hw) (tw8 hw) e0 (g := (mkF m 1 #[rv ob, jv xa, .second, jv ya, .second] [(.ref ob)])) rfl (by rw [hml]; rfl) rfl (hb hby d1_1) (by decide) (W := 0) (by show 2 * 0 + _ ≤ _; exact Nat.le_of_eq rfl) (by decide)
  refine Wk.go (A' := T1.setTop (mkF m 4 #[rv ob, jv xa, .second, jv ya, .second] [])) (fun t k => st1 t k) ?_
  refine Wk.go (A' := T1.setTop (mkF m 5 #[rv ob, jv xa, .second, jv ya, .second] [(.ref ob)])) (fun t k => XS.aloadN X1.here hx rfl (hb hby d1_4) rfl rfl k) ?_
  refine Wk.go (A' := T1.setTop (mkF m 6 #[rv ob, jv xa, .second, jv ya, .second] [(.long xa), (.ref ob)])) (fun t k => XS.lloadN X1.here hx rfl (hb hby d1_5) rfl k) ?_
  obtain ⟨T2, h2, X2, e2, W2, st2⟩ := putF X1 hx hZ hown (host := "") (Or.inl (tw9 hw)) Via.refl e1 F_x E_ob (Or.inr ⟨(tw10 hw), rfl, hnm⟩) (tw1 hw) (ty := .long) (by decide) rfl rfl (g := (mkF m 6 #[rv ob, jv xa, .second, jv ya, .second] [(.long xa), (.ref ob)])) rfl rfl (hb hby d1_6)
  have f3 := E_ob.wr W2
  have f4 := F_x.same W2
  have f5 := F_y.other W2 (Or.inr (sn_0 hw))
  have Zp2 : n0 ≤ h2.size := Nat.le_trans Z0 (Nat.le_of_eq W2.size.symm)
  have K2 := K0.wr W2 (Or.inl (List.mem_of_getElem? (i := 0) rfl))
  have N2 := Fr.snoc X2 N0 g_ob
  refine Wk.go (A' := T2.setTop (mkF m 9 #[rv ob, jv xa, .second, jv ya, .second] [])) (fun t k => st2 t k) ?_
  refine Wk.go (A' := T2.setTop (mkF m 10 #[rv ob, jv xa, .second, jv ya, .second] [(.ref ob)])) (fun t k => XS.aloadN X2.here hx rfl (hb hby d1_9) rfl rfl k) ?_
  refine Wk.go (A' := T2.setTop (mkF m 11 #[rv ob, jv xa, .second, jv ya, .second] [(.long ya), (.ref ob)])) (fun t k => XS.lloadN X2.here hx rfl (hb hby d1_10) rfl k) ?_
  obtain ⟨T6, h6, X6, e6, W6, st6⟩ := putF X2 hx hZ hown (host := "") (Or.inl (tw11 hw)) Via.refl e2 f5 f3 (Or.inr ⟨(tw12 hw), rfl, hnm⟩) (tw1 hw) (ty := .long) (by decide) rfl rfl (g := (mkF m 11 #[rv ob, jv xa, .second, jv ya, .second] [(.long ya), (.ref ob)])) rfl rfl (hb hby d1_11)
  have f7 := f3.wr W6
  have f8 := f4.other W6 (Or.inr (sn_1 hw))
  have f9 := f5.same W6
  have Zp6 : n0 ≤ h6.size := Nat.le_trans Zp2 (Nat.le_of_eq W6.size.symm)
  have K6 := K2.wr W6 (Or.inl (List.mem_of_getElem? (i := 0) rfl))
  have N6 := Fr.snoc X6 N2 g_ob
  refine Wk.go (A' := T6.setTop (mkF m 14 #[rv ob, jv xa, .second, jv ya, .second] [])) (fun t k => st6 t k) ?_
  refine own_fin (Qv := Q1 Z ob xa ya h0 n0) (v := none) X6 hlk (fun _ => rfl) (fun fs hr => X6.returnOut hx Bd.returns (hb hby d1_14) hr) ?_ (by decide) (by decide)
  show Q1 Z ob xa ya h0 n0 _ T6.heap _
  rw [e6]
  exact ⟨rfl, N6, K6, f7, f8, f9⟩
theorem d3_0 : decode prog_21_method_8_code 0 = .ok (.aload_n 1, 1) := by decide +kernel
theorem tw18 {Z : State} {a0 : Array Value} (hw : ∀ d ∈ tables_1, d.before a0 Z = true) : (Jvm.Cond.classLink "com/example/rookery/rookery/drawing/GridPoint" (8 : Nat) "com/example/rookery/rookery/drawing/GridPoint").before a0 Z = true := hw _ (List.mem_of_getElem? (i := 18) rfl)
theorem d3_1 : decode prog_21_method_8_code 1 = .ok (.instanceof 8, 3) := by decide +kernel
theorem d3_4 : decode prog_21_method_8_code 4 = .ok (.ifCond .eq 36, 3) := by decide +kernel
theorem d3_7 : decode prog_21_method_8_code 7 = .ok (.aload_n 1, 1) := by decide +kernel
theorem d3_8 : decode prog_21_method_8_code 8 = .ok (.checkcast 8, 3) := by decide +kernel
theorem d3_11 : decode prog_21_method_8_code 11 = .ok (.astore_n 2, 1) := by decide +kernel
theorem d3_12 : decode prog_21_method_8_code 12 = .ok (.aload_n 0, 1) := by decide +kernel
theorem d3_13 : decode prog_21_method_8_code 13 = .ok (.getfield 7, 3) := by decide +kernel
theorem d3_16 : decode prog_21_method_8_code 16 = .ok (.aload_n 2, 1) := by decide +kernel
theorem d3_17 : decode prog_21_method_8_code 17 = .ok (.getfield 7, 3) := by decide +kernel
theorem d3_20 : decode prog_21_method_8_code 20 = .ok (.lcmp, 1) := by decide +kernel
theorem d3_21 : decode prog_21_method_8_code 21 = .ok (.ifCond .ne 19, 3) := by decide +kernel
theorem d3_24 : decode prog_21_method_8_code 24 = .ok (.aload_n 0, 1) := by decide +kernel
theorem d3_25 : decode prog_21_method_8_code 25 = .ok (.getfield 13, 3) := by decide +kernel
theorem d3_28 : decode prog_21_method_8_code 28 = .ok (.aload_n 2, 1) := by decide +kernel
theorem d3_29 : decode prog_21_method_8_code 29 = .ok (.getfield 13, 3) := by decide +kernel
theorem d3_32 : decode prog_21_method_8_code 32 = .ok (.lcmp, 1) := by decide +kernel
theorem d3_33 : decode prog_21_method_8_code 33 = .ok (.ifCond .ne 7, 3) := by decide +kernel
theorem d3_36 : decode prog_21_method_8_code 36 = .ok (.iconst 1, 1) := by decide +kernel
theorem d3_37 : decode prog_21_method_8_code 37 = .ok (.goto 4, 3) := by decide +kernel
theorem d3_41 : decode prog_21_method_8_code 41 = .ok (.ireturn, 1) := by decide +kernel
theorem d3_40 : decode prog_21_method_8_code 40 = .ok (.iconst 0, 1) := by decide +kernel
theorem ef_3 (m : MethodId) (x0 : Addr) (x1 : Addr) : entryFrame m #[(.ref x0), (.ref x1)] 3 = mkF m 0 #[rv x0, rv x1, .unset] [] := by first | (simp [entryFrame, mkF, argsToLocals, Value.category]; done) | rfl
def f_eq (ob : Addr) (oc : Addr) (wx : Int64) (wy : Int64) (vx : Int64) (vy : Int64) : Int32 := (if wx = vx then (if wy = vy then (1 : Int32) else (0 : Int32)) else (0 : Int32))
def Q3 (Z : State) (ob : Addr) (oc : Addr) (wx : Int64) (wy : Int64) (vx : Int64) (vy : Int64) (h0 : Heap) (n0 : Nat) (v : Option Value) (h : Heap) (L : List Loc) : Prop := v = some (.int (f_eq ob oc wx wy vx vy)) ∧ Fr n0 L ∧ h = h0
set_option maxRecDepth 65536 in
set_option maxHeartbeats 40000000 in
theorem rm3 (l : Launch) (Z : State) (a0 : Array Value) (hw : ∀ d ∈ tables_1, d.before a0 Z = true) (ws : List Jvm.Cond) (ob : Addr) (oc : Addr) (wx : Int64) (wy : Int64) (vx : Int64) (vy : Int64) (h0 : Heap) (n0 : Nat) (Z0 : n0 ≤ h0.size) (E_oc : Exa Z h0 oc "com/example/rookery/rookery/drawing/GridPoint") (F_x_ob : Fld Z h0 ob "com/example/rookery/rookery/drawing/GridPoint" "x" "J" (.long wx)) (F_y_ob : Fld Z h0 ob "com/example/rookery/rookery/drawing/GridPoint" "y" "J" (.long wy)) (F_x_oc : Fld Z h0 oc "com/example/rookery/rookery/drawing/GridPoint" "x" "J" (.long vx)) (F_y_oc : Fld Z h0 oc "com/example/rookery/rookery/drawing/GridPoint" "y" "J" (.long vy)) :
    MetFree l (⟨"com/example/rookery/rookery/drawing/GridPoint", "equals", "(Ljava/lang/Object;)Z"⟩ : MethodName) (head1 (Jvm.Cond.code (⟨"com/example/rookery/rookery/drawing/GridPoint", "equals", "(Ljava/lang/Object;)Z"⟩ : MethodName) prog_21_method_8_code 3 (some .boolean) :: ws) ({ frames := 0, cells := 0, slots := 0, locals := 0 } : Room)) (fun a U => a = #[(.ref ob), (.ref oc)] ∧ Z.Warmed39 U.vm ∧ U.heap = h0) (fun _ _ _ _ _ => True) (fun _ U o U' => ∃ v L, o = .returned v ∧ Q3 Z ob oc wx wy vx vy h0 n0 v U'.heap L ∧ FrameEnd U o U' L ({ frames := 0, cells := 0, slots := 0, locals := 0 } : Room).cells ({ frames := 0, cells := 0, slots := 0, locals := 0 } : Room).slots) := by
  refine MetFree.of_bodySF (plainFor_of_name pn_0) hisR ?_
  intro p e s m args below meth c s₁ Bd hml0 hP hK
  obtain ⟨rfl, hZ, hh⟩ := hP
  have hx := Bd.exec
  have hby := Bd.bytes
  have hml : c.maxLocals = 3 := hml0
  have hown : s.vm.findClass "com/example/rookery/rookery/drawing/GridPoint" = some m.cls := findClass_of_methodNamed Bd.named
  have hnm := (name_of_methodNamed Bd.named Bd.method).1
  have X0 : Stand p l e ({ frames := 0, cells := 0, slots := 0, locals := 0 } : Room) s m #[(.ref ob), (.ref oc)] below meth c s₁ [] 0 0 := Stand.of_body Bd
  have e0 : s₁.heap = h0 := by rw [← hh, Bd.state]; rfl
  have N0 := Fr.nil n0
  have hlk : meth.locks = false := BodyLoose.notSynchronized Bd
  suffices hwk : Wk p.tables e below (s₁.setTop (mkF m 0 #[rv ob, rv oc, .unset] [])) (fun U o => U.status = .running ∧ Ended U below o ∧ ∃ v L, o = .returned v ∧ Q3 Z ob oc wx wy vx vy h0 n0 v U.heap L ∧ FrameEnd s o U L 0 0) by
    obtain ⟨U, o, k1, k2⟩ := hwk
    exact ⟨U, o, castTop (ef_3 m ob oc) k1, k2⟩
  refine Wk.go (A' := s₁.setTop (mkF m 1 #[rv ob, rv oc, .unset] [(.ref oc)])) (fun t k => XS.aloadN X0.here hx rfl (hb hby d3_0) rfl rfl k) ?_
  obtain ⟨T1, X1, e1, st1⟩ := instY X0 hx hZ hown (tw18 hw) e0 (Ins.self E_oc) (g := (mkF m 1 #[rv ob, rv oc, .unset] [(.ref oc)])) rfl rfl (hb hby d3_1)
  refine Wk.go (A' := T1.setTop (mkF m 4 #[rv ob, rv oc, .unset] [(.int (1 : Int32))])) (fun t k => st1 t k) ?_
  have hc4 : ¬ ((1 : Int32) = (0 : Int32)) := by decide
  refine Wk.go (A' := T1.setTop (mkF m 7 #[rv ob, rv oc, .unset] [])) (fun t k => XS.ifNo X1.here hx rfl (hb hby d3_4) rfl ((if0 _ _).trans (feq hc4).1) k) ?_
  refine Wk.go (A' := T1.setTop (mkF m 8 #[rv ob, rv oc, .unset] [(.ref oc)])) (fun t k => XS.aloadN X1.here hx rfl (hb hby d3_7) rfl rfl k) ?_
  obtain ⟨T2, X2, e2, st2⟩ := castY X1 hx hZ hown (tw18 hw) e1 (Ins.self E_oc) (g := (mkF m 8 #[rv ob, rv oc, .unset] [(.ref oc)])) rfl rfl (hb hby d3_8)
  refine Wk.go (A' := T2.setTop (mkF m 11 #[rv ob, rv oc, .unset] [(.ref oc)])) (fun t k => st2 t k) ?_
  refine Wk.go (A' := T2.setTop (mkF m 12 #[rv ob, rv oc, rv oc] [])) (fun t k => XS.astoreN X2.here hx rfl (hb hby d3_11) rfl rfl (l' := #[rv ob, rv oc, rv oc]) rfl k) ?_
  refine Wk.go (A' := T2.setTop (mkF m 13 #[rv ob, rv oc, rv oc] [(.ref ob)])) (fun t k => XS.aloadN X2.here hx rfl (hb hby d3_12) rfl rfl k) ?_
  obtain ⟨T3, X3, e3, st3⟩ := getF X2 hx hZ hown (host := "") (Or.inl (tw9 hw)) Via.refl e2 F_x_ob (g := (mkF m 13 #[rv ob, rv oc, rv oc] [(.ref ob)])) rfl rfl (hb hby d3_13)
  refine Wk.go (A' := T3.setTop (mkF m 16 #[rv ob, rv oc, rv oc] [(.long wx)])) (fun t k => st3 t k) ?_
  refine Wk.go (A' := T3.setTop (mkF m 17 #[rv ob, rv oc, rv oc] [(.ref oc), (.long wx)])) (fun t k => XS.aloadN X3.here hx rfl (hb hby d3_16) rfl rfl k) ?_
  obtain ⟨T4, X4, e4, st4⟩ := getF X3 hx hZ hown (host := "") (Or.inl (tw9 hw)) Via.refl e3 F_x_oc (g := (mkF m 17 #[rv ob, rv oc, rv oc] [(.ref oc), (.long wx)])) rfl rfl (hb hby d3_17)
  refine Wk.go (A' := T4.setTop (mkF m 20 #[rv ob, rv oc, rv oc] [(.long vx), (.long wx)])) (fun t k => st4 t k) ?_
  refine Wk.go (A' := T4.setTop (mkF m 21 #[rv ob, rv oc, rv oc] [(.int (lcmpW wx vx))])) (fun t k => XS.lcmp X4.here hx rfl (hb hby d3_20) rfl k) ?_
  by_cases hc21 : wx = vx
  · refine Wk.go (A' := T4.setTop (mkF m 24 #[rv ob, rv oc, rv oc] [])) (fun t k => XS.ifNo X4.here hx rfl (hb hby d3_21) rfl ((if0 _ _).trans (teq ((lw_eq _ _).mpr hc21)).2) k) ?_
    refine Wk.go (A' := T4.setTop (mkF m 25 #[rv ob, rv oc, rv oc] [(.ref ob)])) (fun t k => XS.aloadN X4.here hx rfl (hb hby d3_24) rfl rfl k) ?_
    obtain ⟨T5, X5, e5, st5⟩ := getF X4 hx hZ hown (host := "") (Or.inl (tw11 hw)) Via.refl e4 F_y_ob (g := (mkF m 25 #[rv ob, rv oc, rv oc] [(.ref ob)])) rfl rfl (hb hby d3_25)
    refine Wk.go (A' := T5.setTop (mkF m 28 #[rv ob, rv oc, rv oc] [(.long wy)])) (fun t k => st5 t k) ?_
    refine Wk.go (A' := T5.setTop (mkF m 29 #[rv ob, rv oc, rv oc] [(.ref oc), (.long wy)])) (fun t k => XS.aloadN X5.here hx rfl (hb hby d3_28) rfl rfl k) ?_
    obtain ⟨T6, X6, e6, st6⟩ := getF X5 hx hZ hown (host := "") (Or.inl (tw11 hw)) Via.refl e5 F_y_oc (g := (mkF m 29 #[rv ob, rv oc, rv oc] [(.ref oc), (.long wy)])) rfl rfl (hb hby d3_29)
    refine Wk.go (A' := T6.setTop (mkF m 32 #[rv ob, rv oc, rv oc] [(.long vy), (.long wy)])) (fun t k => st6 t k) ?_
    refine Wk.go (A' := T6.setTop (mkF m 33 #[rv ob, rv oc, rv oc] [(.int (lcmpW wy vy))])) (fun t k => XS.lcmp X6.here hx rfl (hb hby d3_32) rfl k) ?_
    by_cases hc33 : wy = vy
    · refine Wk.go (A' := T6.setTop (mkF m 36 #[rv ob, rv oc, rv oc] [])) (fun t k => XS.ifNo X6.here hx rfl (hb hby d3_33) rfl ((if0 _ _).trans (teq ((lw_eq _ _).mpr hc33)).2) k) ?_
      refine Wk.go (A' := T6.setTop (mkF m 37 #[rv ob, rv oc, rv oc] [(.int (1 : Int32))])) (fun t k => XS.iconst X6.here hx rfl (hb hby d3_36) k) ?_
      refine Wk.go (A' := T6.setTop (mkF m 41 #[rv ob, rv oc, rv oc] [(.int (1 : Int32))])) (fun t k => XS.goto X6.here hx rfl (pc0 := 37) (pc' := 41) rfl (hb hby d3_37) (by decide) (by decide) k) ?_
      refine own_fin (Qv := Q3 Z ob oc wx wy vx vy h0 n0) (v := some (.int (1 : Int32))) X6 hlk (fun h => by rw [Bd.returns] at h; cases h) (fun fs hr => retN X6 hx (t := .boolean) Bd.returns (by simp) (hb hby d3_41) hr) ?_ (by decide) (by decide)
      refine ⟨?_, N0, e6⟩
      simp only [f_eq, if_pos hc21, if_pos hc33]
    · refine Wk.go (A' := T6.setTop (mkF m 40 #[rv ob, rv oc, rv oc] [])) (fun t k => XS.ifYes X6.here hx rfl (pc0 := 33) (pc' := 40) rfl (hb hby d3_33) rfl ((if0 _ _).trans (feq (mt (lw_eq _ _).mp hc33)).2) (by decide) (by decide) k) ?_
      refine Wk.go (A' := T6.setTop (mkF m 41 #[rv ob, rv oc, rv oc] [(.int (0 : Int32))])) (fun t k => XS.iconst X6.here hx rfl (hb hby d3_40) k) ?_
      refine own_fin (Qv := Q3 Z ob oc wx wy vx vy h0 n0) (v := some (.int (0 : Int32))) X6 hlk (fun h => by rw [Bd.returns] at h; cases h) (fun fs hr => retN X6 hx (t := .boolean) Bd.returns (by simp) (hb hby d3_41) hr) ?_ (by decide) (by decide)
      refine ⟨?_, N0, e6⟩
      simp only [f_eq, if_pos hc21, if_neg hc33]
  · refine Wk.go (A' := T4.setTop (mkF m 40 #[rv ob, rv oc, rv oc] [])) (fun t k => XS.ifYes X4.here hx rfl (pc0 := 21) (pc' := 40) rfl (hb hby d3_21) rfl ((if0 _ _).trans (feq (mt (lw_eq _ _).mp hc21)).2) (by decide) (by decide) k) ?_
    refine Wk.go (A' := T4.setTop (mkF m 41 #[rv ob, rv oc, rv oc] [(.int (0 : Int32))])) (fun t k => XS.iconst X4.here hx rfl (hb hby d3_40) k) ?_
    refine own_fin (Qv := Q3 Z ob oc wx wy vx vy h0 n0) (v := some (.int (0 : Int32))) X4 hlk (fun h => by rw [Bd.returns] at h; cases h) (fun fs hr => retN X4 hx (t := .boolean) Bd.returns (by simp) (hb hby d3_41) hr) ?_ (by decide) (by decide)
    refine ⟨?_, N0, e4⟩
    simp only [f_eq, if_neg hc21]
theorem ef_3n (m : MethodId) (x0 : Addr) : entryFrame m #[(.ref x0), .null] 3 = mkF m 0 #[rv x0, .val .null, .unset] [] := by first | (simp [entryFrame, mkF, argsToLocals, Value.category]; done) | rfl
def f_eqn (ob : Addr)  : Int32 := (0 : Int32)
def Q3n (Z : State) (ob : Addr)  (h0 : Heap) (n0 : Nat) (v : Option Value) (h : Heap) (L : List Loc) : Prop := v = some (.int (f_eqn ob)) ∧ Fr n0 L ∧ h = h0
set_option maxRecDepth 65536 in
set_option maxHeartbeats 40000000 in
theorem rm3n (l : Launch) (Z : State) (a0 : Array Value) (hw : ∀ d ∈ tables_1, d.before a0 Z = true) (ws : List Jvm.Cond) (ob : Addr)  (h0 : Heap) (n0 : Nat) (Z0 : n0 ≤ h0.size)  :
    MetFree l (⟨"com/example/rookery/rookery/drawing/GridPoint", "equals", "(Ljava/lang/Object;)Z"⟩ : MethodName) (head1 (Jvm.Cond.code (⟨"com/example/rookery/rookery/drawing/GridPoint", "equals", "(Ljava/lang/Object;)Z"⟩ : MethodName) prog_21_method_8_code 3 (some .boolean) :: ws) ({ frames := 0, cells := 0, slots := 0, locals := 0 } : Room)) (fun a U => a = #[(.ref ob), .null] ∧ Z.Warmed39 U.vm ∧ U.heap = h0) (fun _ _ _ _ _ => True) (fun _ U o U' => ∃ v L, o = .returned v ∧ Q3n Z ob h0 n0 v U'.heap L ∧ FrameEnd U o U' L ({ frames := 0, cells := 0, slots := 0, locals := 0 } : Room).cells ({ frames := 0, cells := 0, slots := 0, locals := 0 } : Room).slots) := by
  refine MetFree.of_bodySF (plainFor_of_name pn_0) hisR ?_
  intro p e s m args below meth c s₁ Bd hml0 hP hK
  obtain ⟨rfl, hZ, hh⟩ := hP
  have hx := Bd.exec
  have hby := Bd.bytes
  have hml : c.maxLocals = 3 := hml0
  have hown : s.vm.findClass "com/example/rookery/rookery/drawing/GridPoint" = some m.cls := findClass_of_methodNamed Bd.named
  have hnm := (name_of_methodNamed Bd.named Bd.method).1
  have X0 : Stand p l e ({ frames := 0, cells := 0, slots := 0, locals := 0 } : Room) s m #[(.ref ob), .null] below meth c s₁ [] 0 0 := Stand.of_body Bd
  have e0 : s₁.heap = h0 := by rw [← hh, Bd.state]; rfl
  have N0 := Fr.nil n0
  have hlk : meth.locks = false := BodyLoose.notSynchronized Bd
  suffices hwk : Wk p.tables e below (s₁.setTop (mkF m 0 #[rv ob, .val .null, .unset] [])) (fun U o => U.status = .running ∧ Ended U below o ∧ ∃ v L, o = .returned v ∧ Q3n Z ob h0 n0 v U.heap L ∧ FrameEnd s o U L 0 0) by
    obtain ⟨U, o, k1, k2⟩ := hwk
    exact ⟨U, o, castTop (ef_3n m ob) k1, k2⟩
  refine Wk.go (A' := s₁.setTop (mkF m 1 #[rv ob, .val .null, .unset] [.null])) (fun t k => XS.aloadN X0.here hx rfl (hb hby d3_0) rfl rfl k) ?_
  refine Wk.go (A' := s₁.setTop (mkF m 4 #[rv ob, .val .null, .unset] [(.int (0 : Int32))])) (fun t k => X0.instanceofNull hx (g := (mkF m 1 #[rv ob, .val .null, .unset] [.null])) rfl rfl (hb hby d3_1) t k) ?_
  have hc4 : (0 : Int32) = (0 : Int32) := by decide
  refine Wk.go (A' := s₁.setTop (mkF m 40 #[rv ob, .val .null, .unset] [])) (fun t k => XS.ifYes X0.here hx rfl (pc0 := 4) (pc' := 40) rfl (hb hby d3_4) rfl ((if0 _ _).trans (teq hc4).1) (by decide) (by decide) k) ?_
  refine Wk.go (A' := s₁.setTop (mkF m 41 #[rv ob, .val .null, .unset] [(.int (0 : Int32))])) (fun t k => XS.iconst X0.here hx rfl (hb hby d3_40) k) ?_
  refine own_fin (Qv := Q3n Z ob h0 n0) (v := some (.int (0 : Int32))) X0 hlk (fun h => by rw [Bd.returns] at h; cases h) (fun fs hr => retN X0 hx (t := .boolean) Bd.returns (by simp) (hb hby d3_41) hr) ?_ (by decide) (by decide)
  refine ⟨?_, N0, e0⟩
  simp only [f_eqn]
theorem own_no {Z : State} {a0 : Array Value} {C S O K : String} {n : Nat} (w : (Jvm.Cond.superclass C O).before a0 Z = true) (wo : (Jvm.Cond.noSuperclass O).before a0 Z = true) (wk : (Jvm.Cond.instantiable K n).before a0 Z = true) (h1 : C ≠ K) (h2 : O ≠ K) : ∃ c t, Z.vm.findClass C = some c ∧ Z.vm.findClass K = some t ∧ Z.vm.assignable c t = false := by
  obtain ⟨t, kt, g0, g2, g5, g6, -⟩ := Cond.instantiable_spec wk
  have g7 : kt.isInterface = false := by
    cases h : kt.isInterface with
    | false => rfl
    | true => rw [h] at g6; exact absurd g6 (by simp)
  have root : NS Z O K := by
    obtain ⟨c, k, e1, e2, e3, -, -⟩ := Cond.noSuperclass_spec wo
    have ne := ids_ne e1 g0 h2
    refine ⟨c, t, e1, g0, fun fuel => ?_⟩
    cases fuel with
    | zero => rfl
    | succ f => simp [Vm.isSubclassAux, ne, e2, e3]
  obtain ⟨c, t', h0, g0', n3⟩ := NS.step w root h1
  cases g0.symm.trans g0'
  obtain ⟨p, k, kp, e1, e2, e3, e4, e5, -, e7⟩ := Cond.superclass_spec h0 w
  have ne := ids_ne h0 g0 h1
  refine ⟨c, t, h0, g0, ?_⟩
  show Z.vm.assignableAux (255 + 1) c t = false
  simp [Vm.assignableAux, ne, e2, g2, e5, g5, g7, Vm.isSubclass, n3]
theorem tw44 {Z : State} {a0 : Array Value} (hw : ∀ d ∈ tables_1, d.before a0 Z = true) : (Jvm.Cond.superclass "java/lang/String" "java/lang/Object").before a0 Z = true := hw _ (List.mem_of_getElem? (i := 44) rfl)
theorem tw45 {Z : State} {a0 : Array Value} (hw : ∀ d ∈ tables_1, d.before a0 Z = true) : (Jvm.Cond.noSuperclass "java/lang/Object").before a0 Z = true := hw _ (List.mem_of_getElem? (i := 45) rfl)
theorem ef_3s (m : MethodId) (x0 : Addr) (x1 : Addr) : entryFrame m #[(.ref x0), (.ref x1)] 3 = mkF m 0 #[rv x0, rv x1, .unset] [] := by first | (simp [entryFrame, mkF, argsToLocals, Value.category]; done) | rfl
def f_eqs (ob : Addr) (oc : Addr)  : Int32 := (0 : Int32)
def Q3s (Z : State) (ob : Addr) (oc : Addr)  (h0 : Heap) (n0 : Nat) (v : Option Value) (h : Heap) (L : List Loc) : Prop := v = some (.int (f_eqs ob oc)) ∧ Fr n0 L ∧ h = h0
set_option maxRecDepth 65536 in
set_option maxHeartbeats 40000000 in
theorem rm3s (l : Launch) (Z : State) (a0 : Array Value) (hw : ∀ d ∈ tables_1, d.before a0 Z = true) (ws : List Jvm.Cond) (ob : Addr) (oc : Addr)  (h0 : Heap) (n0 : Nat) (Z0 : n0 ≤ h0.size) (E_oc : Exa Z h0 oc "java/lang/String") :
    MetFree l (⟨"com/example/rookery/rookery/drawing/GridPoint", "equals", "(Ljava/lang/Object;)Z"⟩ : MethodName) (head1 (Jvm.Cond.code (⟨"com/example/rookery/rookery/drawing/GridPoint", "equals", "(Ljava/lang/Object;)Z"⟩ : MethodName) prog_21_method_8_code 3 (some .boolean) :: ws) ({ frames := 0, cells := 0, slots := 0, locals := 0 } : Room)) (fun a U => a = #[(.ref ob), (.ref oc)] ∧ Z.Warmed39 U.vm ∧ U.heap = h0) (fun _ _ _ _ _ => True) (fun _ U o U' => ∃ v L, o = .returned v ∧ Q3s Z ob oc h0 n0 v U'.heap L ∧ FrameEnd U o U' L ({ frames := 0, cells := 0, slots := 0, locals := 0 } : Room).cells ({ frames := 0, cells := 0, slots := 0, locals := 0 } : Room).slots) := by
  refine MetFree.of_bodySF (plainFor_of_name pn_0) hisR ?_
  intro p e s m args below meth c s₁ Bd hml0 hP hK
  obtain ⟨rfl, hZ, hh⟩ := hP
  have hx := Bd.exec
  have hby := Bd.bytes
  have hml : c.maxLocals = 3 := hml0
  have hown : s.vm.findClass "com/example/rookery/rookery/drawing/GridPoint" = some m.cls := findClass_of_methodNamed Bd.named
  have hnm := (name_of_methodNamed Bd.named Bd.method).1
  have X0 : Stand p l e ({ frames := 0, cells := 0, slots := 0, locals := 0 } : Room) s m #[(.ref ob), (.ref oc)] below meth c s₁ [] 0 0 := Stand.of_body Bd
  have e0 : s₁.heap = h0 := by rw [← hh, Bd.state]; rfl
  have N0 := Fr.nil n0
  have hlk : meth.locks = false := BodyLoose.notSynchronized Bd
  suffices hwk : Wk p.tables e below (s₁.setTop (mkF m 0 #[rv ob, rv oc, .unset] [])) (fun U o => U.status = .running ∧ Ended U below o ∧ ∃ v L, o = .returned v ∧ Q3s Z ob oc h0 n0 v U.heap L ∧ FrameEnd s o U L 0 0) by
    obtain ⟨U, o, k1, k2⟩ := hwk
    exact ⟨U, o, castTop (ef_3s m ob oc) k1, k2⟩
  refine Wk.go (A' := s₁.setTop (mkF m 1 #[rv ob, rv oc, .unset] [(.ref oc)])) (fun t k => XS.aloadN X0.here hx rfl (hb hby d3_0) rfl rfl k) ?_
  obtain ⟨T1, X1, e1, st1⟩ := instNo X0 hx hZ hown (tw18 hw) e0 E_oc (own_no (S := "") (tw44 hw) (tw45 hw) (tw1 hw) (by decide) (by decide)) (g := (mkF m 1 #[rv ob, rv oc, .unset] [(.ref oc)])) rfl rfl (hb hby d3_1)
  refine Wk.go (A' := T1.setTop (mkF m 4 #[rv ob, rv oc, .unset] [(.int (0 : Int32))])) (fun t k => st1 t k) ?_
  have hc4 : (0 : Int32) = (0 : Int32) := by decide
  refine Wk.go (A' := T1.setTop (mkF m 40 #[rv ob, rv oc, .unset] [])) (fun t k => XS.ifYes X1.here hx rfl (pc0 := 4) (pc' := 40) rfl (hb hby d3_4) rfl ((if0 _ _).trans (teq hc4).1) (by decide) (by decide) k) ?_
  refine Wk.go (A' := T1.setTop (mkF m 41 #[rv ob, rv oc, .unset] [(.int (0 : Int32))])) (fun t k => XS.iconst X1.here hx rfl (hb hby d3_40) k) ?_
  refine own_fin (Qv := Q3s Z ob oc h0 n0) (v := some (.int (0 : Int32))) X1 hlk (fun h => by rw [Bd.returns] at h; cases h) (fun fs hr => retN X1 hx (t := .boolean) Bd.returns (by simp) (hb hby d3_41) hr) ?_ (by decide) (by decide)
  refine ⟨?_, N0, e1⟩
  simp only [f_eqs]
theorem d5_0 : decode jdk_43_method_3_code 0 = .ok (.iload_n 0, 1) := by decide +kernel
theorem d5_1 : decode jdk_43_method_3_code 1 = .ok (.sipush 255, 3) := by decide +kernel
theorem d5_4 : decode jdk_43_method_3_code 4 = .ok (.if_icmp .gt 7, 3) := by decide +kernel
theorem d5_11 : decode jdk_43_method_3_code 11 = .ok (.iconst 0, 1) := by decide +kernel
theorem d5_12 : decode jdk_43_method_3_code 12 = .ok (.ireturn, 1) := by decide +kernel
theorem d5_7 : decode jdk_43_method_3_code 7 = .ok (.iconst 1, 1) := by decide +kernel
theorem d5_8 : decode jdk_43_method_3_code 8 = .ok (.goto 4, 3) := by decide +kernel
theorem pn_1 : plainName "java/lang/StringLatin1" = true := by first | (simp [plainName, overriddenIn]; done) | decide +kernel
theorem ef_5 (m : MethodId) (x0 : Int32) : entryFrame m #[(.int x0)] 1 = mkF m 0 #[iv x0] [] := by first | (simp [entryFrame, mkF, argsToLocals, Value.category]; done) | rfl
def f_can (ch : Int32)  : Int32 := (if (255 : Int32) < ch then (0 : Int32) else (1 : Int32))
def Q5 (Z : State) (ch : Int32)  (h0 : Heap) (n0 : Nat) (v : Option Value) (h : Heap) (L : List Loc) : Prop := v = some (.int (f_can ch)) ∧ Fr n0 L ∧ h = h0
set_option maxRecDepth 65536 in
set_option maxHeartbeats 40000000 in
theorem rm5 (l : Launch) (Z : State) (a0 : Array Value) (hw : ∀ d ∈ tables_1, d.before a0 Z = true) (ws : List Jvm.Cond) (ch : Int32)  (h0 : Heap) (n0 : Nat) (Z0 : n0 ≤ h0.size)  :
    MetFree l (⟨"java/lang/StringLatin1", "canEncode", "(C)Z"⟩ : MethodName) (head1 (Jvm.Cond.code (⟨"java/lang/StringLatin1", "canEncode", "(C)Z"⟩ : MethodName) jdk_43_method_3_code 1 (some .boolean) :: ws) ({ frames := 0, cells := 0, slots := 0, locals := 0 } : Room)) (fun a U => a = #[(.int ch)] ∧ Z.Warmed39 U.vm ∧ U.heap = h0) (fun _ _ _ _ _ => True) (fun _ U o U' => ∃ v L, o = .returned v ∧ Q5 Z ch h0 n0 v U'.heap L ∧ FrameEnd U o U' L ({ frames := 0, cells := 0, slots := 0, locals := 0 } : Room).cells ({ frames := 0, cells := 0, slots := 0, locals := 0 } : Room).slots) := by
  refine MetFree.of_bodySF (plainFor_of_name pn_1) hisR ?_
  intro p e s m args below meth c s₁ Bd hml0 hP hK
  obtain ⟨rfl, hZ, hh⟩ := hP
  have hx := Bd.exec
  have hby := Bd.bytes
  have hml : c.maxLocals = 1 := hml0
  have hown : s.vm.findClass "java/lang/StringLatin1" = some m.cls := findClass_of_methodNamed Bd.named
  have hnm := (name_of_methodNamed Bd.named Bd.method).1
  have X0 : Stand p l e ({ frames := 0, cells := 0, slots := 0, locals := 0 } : Room) s m #[(.int ch)] below meth c s₁ [] 0 0 := Stand.of_body Bd
  have e0 : s₁.heap = h0 := by rw [← hh, Bd.state]; rfl
  have N0 := Fr.nil n0
  have hlk : meth.locks = false := BodyLoose.notSynchronized Bd
  suffices hwk : Wk p.tables e below (s₁.setTop (mkF m 0 #[iv ch] [])) (fun U o => U.status = .running ∧ Ended U below o ∧ ∃ v L, o = .returned v ∧ Q5 Z ch h0 n0 v U.heap L ∧ FrameEnd s o U L 0 0) by
    obtain ⟨U, o, k1, k2⟩ := hwk
    exact ⟨U, o, castTop (ef_5 m ch) k1, k2⟩
  refine Wk.go (A' := s₁.setTop (mkF m 1 #[iv ch] [(.int ch)])) (fun t k => XS.iloadN X0.here hx rfl (hb hby d5_0) rfl k) ?_
  refine Wk.go (A' := s₁.setTop (mkF m 4 #[iv ch] [(.int (255 : Int32)), (.int ch)])) (fun t k => XS.sipush X0.here hx rfl (hb hby d5_1) k) ?_
  by_cases hc4 : (255 : Int32) < ch
  · refine Wk.go (A' := s₁.setTop (mkF m 11 #[iv ch] [])) (fun t k => XS.icmpYes X0.here hx rfl (pc0 := 4) (pc' := 11) rfl (hb hby d5_4) rfl (tlt hc4).2.2.1 (by decide) (by decide) k) ?_
    refine Wk.go (A' := s₁.setTop (mkF m 12 #[iv ch] [(.int (0 : Int32))])) (fun t k => XS.iconst X0.here hx rfl (hb hby d5_11) k) ?_
    refine own_fin (Qv := Q5 Z ch h0 n0) (v := some (.int (0 : Int32))) X0 hlk (fun h => by rw [Bd.returns] at h; cases h) (fun fs hr => retN X0 hx (t := .boolean) Bd.returns (by simp) (hb hby d5_12) hr) ?_ (by decide) (by decide)
    refine ⟨?_, N0, e0⟩
    simp only [f_can, if_pos hc4]
  · refine Wk.go (A' := s₁.setTop (mkF m 7 #[iv ch] [])) (fun t k => XS.icmpNo X0.here hx rfl (hb hby d5_4) rfl (flt hc4).2.2.1 k) ?_
    refine Wk.go (A' := s₁.setTop (mkF m 8 #[iv ch] [(.int (1 : Int32))])) (fun t k => XS.iconst X0.here hx rfl (hb hby d5_7) k) ?_
    refine Wk.go (A' := s₁.setTop (mkF m 12 #[iv ch] [(.int (1 : Int32))])) (fun t k => XS.goto X0.here hx rfl (pc0 := 8) (pc' := 12) rfl (hb hby d5_8) (by decide) (by decide) k) ?_
    refine own_fin (Qv := Q5 Z ch h0 n0) (v := some (.int (1 : Int32))) X0 hlk (fun h => by rw [Bd.returns] at h; cases h) (fun fs hr => retN X0 hx (t := .boolean) Bd.returns (by simp) (hb hby d5_12) hr) ?_ (by decide) (by decide)
    refine ⟨?_, N0, e0⟩
    simp only [f_can, if_neg hc4]
theorem d6_0 : decode jdk_43_method_46_code 0 = .ok (.iconst 1, 1) := by decide +kernel
theorem tw34 {Z : State} {a0 : Array Value} (hw : ∀ d ∈ tables_1, d.before a0 Z = true) : (Jvm.Cond.arrayClass Jvm.ClassFile.FieldType.byte).before a0 Z = true := hw _ (List.mem_of_getElem? (i := 34) rfl)
theorem d6_1 : decode jdk_43_method_46_code 1 = .ok (.newarray .byte, 2) := by decide +kernel
theorem d6_3 : decode jdk_43_method_46_code 3 = .ok (.dup, 1) := by decide +kernel
theorem d6_4 : decode jdk_43_method_46_code 4 = .ok (.iconst 0, 1) := by decide +kernel
theorem d6_5 : decode jdk_43_method_46_code 5 = .ok (.iload_n 0, 1) := by decide +kernel
theorem d6_6 : decode jdk_43_method_46_code 6 = .ok (.i2b, 1) := by decide +kernel
theorem d6_7 : decode jdk_43_method_46_code 7 = .ok (.bastore, 1) := by decide +kernel
theorem d6_8 : decode jdk_43_method_46_code 8 = .ok (.areturn, 1) := by decide +kernel
theorem ef_6 (m : MethodId) (x0 : Int32) : entryFrame m #[(.int x0)] 1 = mkF m 0 #[iv x0] [] := by first | (simp [entryFrame, mkF, argsToLocals, Value.category]; done) | rfl
def Q6 (Z : State) (ch : Int32)  (h0 : Heap) (n0 : Nat) (v : Option Value) (h : Heap) (L : List Loc) : Prop := ∃ b : Addr, v = some (.ref b) ∧ Fr n0 L ∧ Keep h0 h [] ∧ n0 ≤ b ∧ h0.size ≤ b
set_option maxRecDepth 65536 in
set_option maxHeartbeats 40000000 in
theorem rm6 (l : Launch) (Z : State) (a0 : Array Value) (hw : ∀ d ∈ tables_1, d.before a0 Z = true) (ws : List Jvm.Cond) (ch : Int32)  (h0 : Heap) (n0 : Nat) (Z0 : n0 ≤ h0.size)  :
    MetFree l (⟨"java/lang/StringLatin1", "toBytes", "(C)[B"⟩ : MethodName) (head1 (Jvm.Cond.code (⟨"java/lang/StringLatin1", "toBytes", "(C)[B"⟩ : MethodName) jdk_43_method_46_code 1 (some (.array .byte)) :: ws) ({ frames := 0, cells := 1, slots := 1, locals := 0 } : Room)) (fun a U => a = #[(.int ch)] ∧ Z.Warmed39 U.vm ∧ U.heap = h0) (fun _ _ _ _ _ => True) (fun _ U o U' => ∃ v L, o = .returned v ∧ Q6 Z ch h0 n0 v U'.heap L ∧ FrameEnd U o U' L ({ frames := 0, cells := 1, slots := 1, locals := 0 } : Room).cells ({ frames := 0, cells := 1, slots := 1, locals := 0 } : Room).slots) := by
  refine MetFree.of_bodySF (plainFor_of_name pn_1) hisR ?_
  intro p e s m args below meth c s₁ Bd hml0 hP hK
  obtain ⟨rfl, hZ, hh⟩ := hP
  have hx := Bd.exec
  have hby := Bd.bytes
  have hml : c.maxLocals = 1 := hml0
  have hown : s.vm.findClass "java/lang/StringLatin1" = some m.cls := findClass_of_methodNamed Bd.named
  have hnm := (name_of_methodNamed Bd.named Bd.method).1
  have X0 : Stand p l e ({ frames := 0, cells := 1, slots := 1, locals := 0 } : Room) s m #[(.int ch)] below meth c s₁ [] 0 0 := Stand.of_body Bd
  have e0 : s₁.heap = h0 := by rw [← hh, Bd.state]; rfl
  have N0 := Fr.nil n0
  have hlk : meth.locks = false := BodyLoose.notSynchronized Bd
  suffices hwk : Wk p.tables e below (s₁.setTop (mkF m 0 #[iv ch] [])) (fun U o => U.status = .running ∧ Ended U below o ∧ ∃ v L, o = .returned v ∧ Q6 Z ch h0 n0 v U.heap L ∧ FrameEnd s o U L 1 1) by
    obtain ⟨U, o, k1, k2⟩ := hwk
    exact ⟨U, o, castTop (ef_6 m ch) k1, k2⟩
  have K0 := Keep.refl h0 []
  refine Wk.go (A' := s₁.setTop (mkF m 1 #[iv ch] [(.int (1 : Int32))])) (fun t k => XS.iconst X0.here hx rfl (hb hby d6_0) k) ?_
  obtain ⟨T1, h1, k1, X1, e1, E1, A1, st1⟩ := newP (aty := .byte) X0 hx hZ (tw34 hw) e0 (g := (mkF m 1 #[iv ch] [(.int (1 : Int32))])) rfl (hb hby d6_1) rfl (by decide) (cap := 1) (by decide) (by decide) (by decide) (by decide)
  obtain ⟨b1, g1⟩ : ∃ z, z = h0.size := ⟨_, rfl⟩
  rw [← g1] at A1 st1
  have g_b1 : n0 ≤ b1 := Nat.le_trans Z0 (Nat.le_of_eq g1.symm)
  have b_b1 : h0.size ≤ b1 := Nat.le_trans K0.1 (Nat.le_of_eq g1.symm)
  have V1 : BA Z h1 b1 1 (fun _ => 0) := BA.new A1
  have Zp1 : n0 ≤ h1.size := Nat.le_trans Z0 E1.1
  have K1 := K0.ext E1
  refine Wk.go (A' := T1.setTop (mkF m 3 #[iv ch] [(.ref b1)])) (fun t k => st1 t k) ?_
  refine Wk.go (A' := T1.setTop (mkF m 4 #[iv ch] [(.ref b1), (.ref b1)])) (fun t k => XS.dup X1.here hx rfl (hb hby d6_3) rfl rfl k) ?_
  refine Wk.go (A' := T1.setTop (mkF m 5 #[iv ch] [(.int (0 : Int32)), (.ref b1), (.ref b1)])) (fun t k => XS.iconst X1.here hx rfl (hb hby d6_4) k) ?_
  refine Wk.go (A' := T1.setTop (mkF m 6 #[iv ch] [(.int ch), (.int (0 : Int32)), (.ref b1), (.ref b1)])) (fun t k => XS.iloadN X1.here hx rfl (hb hby d6_5) rfl k) ?_
  refine Wk.go (A' := T1.setTop (mkF m 7 #[iv ch] [(.int (ch.toInt8.toInt32)), (.int (0 : Int32)), (.ref b1), (.ref b1)])) (fun t k => XS.i2b X1.here hx rfl (hb hby d6_6) rfl k) ?_
  obtain ⟨T2, h2, X2, e2, W2, B2, st2⟩ := own_stB X1 hx hZ e1 V1 (j := (0 : Int32)) (by decide) (g := (mkF m 7 #[iv ch] [(.int (ch.toInt8.toInt32)), (.int (0 : Int32)), (.ref b1), (.ref b1)])) rfl rfl (hb hby d6_7)
  have V2 : BA Z h2 b1 1 (own_upd (fun _ => 0) 0 ((ch.toInt8.toInt32)).toInt8.toInt32) := B2
  have f3 := V2
  have Zp2 : n0 ≤ h2.size := Nat.le_trans Zp1 (Nat.le_of_eq W2.size.symm)
  have K2 := K1.wr W2 (Or.inr b_b1)
  have N2 := Fr.snoc X2 N0 g_b1
  refine Wk.go (A' := T2.setTop (mkF m 8 #[iv ch] [(.ref b1)])) (fun t k => st2 t k) ?_
  refine own_fin (Qv := Q6 Z ch h0 n0) (v := some (.ref b1)) X2 hlk (fun h => by rw [Bd.returns] at h; cases h) (fun fs hr => retOut X2 hx (t := (.array .byte)) Bd.returns rfl (Or.inr (Or.inr (Or.inr (Or.inr ⟨rfl, rfl, rfl⟩)))) (hb hby d6_8) hr) ?_ (by decide) (by decide)
  show Q6 Z ch h0 n0 _ T2.heap _
  rw [e2]
  exact ⟨_, rfl, N2, K2, g_b1, b_b1⟩
theorem d7_0 : decode jdk_42_method_151_code 0 = .ok (.aload_n 0, 1) := by decide +kernel
theorem tw39 {Z : State} {a0 : Array Value} (hw : ∀ d ∈ tables_1, d.before a0 Z = true) : (Jvm.Cond.methodLink "java/lang/String" (1 : Nat) ({ cls := "java/lang/Object", name := "<init>", desc := "()V" } : Jvm.MethodName)).before a0 Z = true := hw _ (List.mem_of_getElem? (i := 39) rfl)
theorem d7_1 : decode jdk_42_method_151_code 1 = .ok (.invokespecial 1, 3) := by decide +kernel
theorem d7_4 : decode jdk_42_method_151_code 4 = .ok (.aload_n 0, 1) := by decide +kernel
theorem d7_5 : decode jdk_42_method_151_code 5 = .ok (.aload_n 1, 1) := by decide +kernel
theorem tw40 {Z : State} {a0 : Array Value} (hw : ∀ d ∈ tables_1, d.before a0 Z = true) : (Jvm.Cond.fieldLink "java/lang/String" (9 : Nat) "java/lang/String" "value" "[B").before a0 Z = true := hw _ (List.mem_of_getElem? (i := 40) rfl)
theorem tw41 {Z : State} {a0 : Array Value} (hw : ∀ d ∈ tables_1, d.before a0 Z = true) : (Jvm.Cond.laysFinal "java/lang/String" "java/lang/String" "value" "[B").before a0 Z = true := hw _ (List.mem_of_getElem? (i := 41) rfl)
theorem tw30 {Z : State} {a0 : Array Value} (hw : ∀ d ∈ tables_1, d.before a0 Z = true) : (Jvm.Cond.instantiable "java/lang/String" (4 : Nat)).before a0 Z = true := hw _ (List.mem_of_getElem? (i := 30) rfl)
theorem d7_6 : decode jdk_42_method_151_code 6 = .ok (.putfield 9, 3) := by decide +kernel
theorem tw43 {Z : State} {a0 : Array Value} (hw : ∀ d ∈ tables_1, d.before a0 Z = true) : (Jvm.Cond.laysFinal "java/lang/String" "java/lang/String" "coder" "B").before a0 Z = true := hw _ (List.mem_of_getElem? (i := 43) rfl)
theorem sn_2 {Z : State} {a0 : Array Value} (hw : ∀ d ∈ tables_1, d.before a0 Z = true) : Jvm.RoadKit.slotOf Z "java/lang/String" "coder" "B" ≠ Jvm.RoadKit.slotOf Z "java/lang/String" "value" "[B" := Jvm.RoadKit.slot_ne (Or.inr (tw43 hw)) (Or.inr (tw41 hw)) (by decide) (t := .byte) (t' := (.array .byte)) (by decide) (by decide)
theorem d7_9 : decode jdk_42_method_151_code 9 = .ok (.aload_n 0, 1) := by decide +kernel
theorem d7_10 : decode jdk_42_method_151_code 10 = .ok (.iload_n 2, 1) := by decide +kernel
theorem tw42 {Z : State} {a0 : Array Value} (hw : ∀ d ∈ tables_1, d.before a0 Z = true) : (Jvm.Cond.fieldLink "java/lang/String" (15 : Nat) "java/lang/String" "coder" "B").before a0 Z = true := hw _ (List.mem_of_getElem? (i := 42) rfl)
theorem d7_11 : decode jdk_42_method_151_code 11 = .ok (.putfield 15, 3) := by decide +kernel
theorem sn_3 {Z : State} {a0 : Array Value} (hw : ∀ d ∈ tables_1, d.before a0 Z = true) : Jvm.RoadKit.slotOf Z "java/lang/String" "value" "[B" ≠ Jvm.RoadKit.slotOf Z "java/lang/String" "coder" "B" := Jvm.RoadKit.slot_ne (Or.inr (tw41 hw)) (Or.inr (tw43 hw)) (by decide) (t := (.array .byte)) (t' := .byte) (by decide) (by decide)
theorem d7_14 : decode jdk_42_method_151_code 14 = .ok (.return_, 1) := by decide +kernel
theorem pn_2 : plainName "java/lang/String" = true := by first | (simp [plainName, overriddenIn]; done) | decide +kernel
theorem ef_7 (m : MethodId) (x0 : Addr) (x1 : Addr) (x2 : Int32) : entryFrame m #[(.ref x0), (.ref x1), (.int x2)] 3 = mkF m 0 #[rv x0, rv x1, iv x2] [] := by first | (simp [entryFrame, mkF, argsToLocals, Value.category]; done) | rfl
def Q7 (Z : State) (ob : Addr) (vb : Addr) (cd : Int32)  (h0 : Heap) (n0 : Nat) (v : Option Value) (h : Heap) (L : List Loc) : Prop := v = none ∧ Fr n0 L ∧ Keep h0 h [ob] ∧ Exa Z h ob "java/lang/String" ∧ Fld Z h ob "java/lang/String" "value" "[B" (.ref vb) ∧ Fld Z h ob "java/lang/String" "coder" "B" (.int (nar .byte cd))
set_option maxRecDepth 65536 in
set_option maxHeartbeats 40000000 in
theorem rm7 (l : Launch) (Z : State) (a0 : Array Value) (hw : ∀ d ∈ tables_1, d.before a0 Z = true) (ws : List Jvm.Cond) (ob : Addr) (vb : Addr) (cd : Int32)  (h0 : Heap) (n0 : Nat) (Z0 : n0 ≤ h0.size) (E_ob : Exa Z h0 ob "java/lang/String") (F_value : Fld Z h0 ob "java/lang/String" "value" "[B" .null) (F_coder : Fld Z h0 ob "java/lang/String" "coder" "B" (.int (0 : Int32))) (g_ob : n0 ≤ ob) :
    MetFree l (⟨"java/lang/String", "<init>", "([BB)V"⟩ : MethodName) (head1 (Jvm.Cond.code (⟨"java/lang/String", "<init>", "([BB)V"⟩ : MethodName) jdk_42_method_151_code 3 none :: ws) ({ frames := 1, cells := 0, slots := 0, locals := 12 } : Room)) (fun a U => a = #[(.ref ob), (.ref vb), (.int cd)] ∧ Z.Warmed39 U.vm ∧ U.heap = h0) (fun _ _ _ _ _ => True) (fun _ U o U' => ∃ v L, o = .returned v ∧ Q7 Z ob vb cd h0 n0 v U'.heap L ∧ FrameEnd U o U' L ({ frames := 1, cells := 0, slots := 0, locals := 12 } : Room).cells ({ frames := 1, cells := 0, slots := 0, locals := 12 } : Room).slots) := by
  refine MetFree.of_bodySF (plainFor_of_name pn_2) hisR ?_
  intro p e s m args below meth c s₁ Bd hml0 hP hK
  obtain ⟨rfl, hZ, hh⟩ := hP
  have hx := Bd.exec
  have hby := Bd.bytes
  have hml : c.maxLocals = 3 := hml0
  have hown : s.vm.findClass "java/lang/String" = some m.cls := findClass_of_methodNamed Bd.named
  have hnm := (name_of_methodNamed Bd.named Bd.method).1
  have X0 : Stand p l e ({ frames := 1, cells := 0, slots := 0, locals := 12 } : Room) s m #[(.ref ob), (.ref vb), (.int cd)] below meth c s₁ [] 0 0 := Stand.of_body Bd
  have e0 : s₁.heap = h0 := by rw [← hh, Bd.state]; rfl
  have N0 := Fr.nil n0
  have hlk : meth.locks = false := BodyLoose.notSynchronized Bd
  suffices hwk : Wk p.tables e below (s₁.setTop (mkF m 0 #[rv ob, rv vb, iv cd] [])) (fun U o => U.status = .running ∧ Ended U below o ∧ ∃ v L, o = .returned v ∧ Q7 Z ob vb cd h0 n0 v U.heap L ∧ FrameEnd s o U L 0 0) by
    obtain ⟨U, o, k1, k2⟩ := hwk
    exact ⟨U, o, castTop (ef_7 m ob vb cd) k1, k2⟩
  have K0 := Keep.refl h0 [ob]
  refine Wk.go (A' := s₁.setTop (mkF m 1 #[rv ob, rv vb, iv cd] [(.ref ob)])) (fun t k => XS.aloadN X0.here hx rfl (hb hby d7_0) rfl rfl k) ?_
  obtain ⟨T1, X1, e1, st1⟩ := initO X0 hx hZ hown (tw39 hw) (tw7 hw) (tw8 hw) e0 (g := (mkF m 1 #[rv ob, rv vb, iv cd] [(.ref ob)])) rfl (by rw [hml]; rfl) rfl (hb hby d7_1) (by decide) (W := 0) (by show 2 * 0 + _ ≤ _; exact Nat.le_of_eq rfl) (by decide)
  refine Wk.go (A' := T1.setTop (mkF m 4 #[rv ob, rv vb, iv cd] [])) (fun t k => st1 t k) ?_
  refine Wk.go (A' := T1.setTop (mkF m 5 #[rv ob, rv vb, iv cd] [(.ref ob)])) (fun t k => XS.aloadN X1.here hx rfl (hb hby d7_4) rfl rfl k) ?_
  refine Wk.go (A' := T1.setTop (mkF m 6 #[rv ob, rv vb, iv cd] [(.ref vb), (.ref ob)])) (fun t k => XS.aloadN X1.here hx rfl (hb hby d7_5) rfl rfl k) ?_
  obtain ⟨T2, h2, X2, e2, W2, st2⟩ := putF X1 hx hZ hown (host := "") (Or.inl (tw40 hw)) Via.refl e1 F_value E_ob (Or.inr ⟨(tw41 hw), rfl, hnm⟩) (tw30 hw) (ty := (.array .byte)) (by decide) rfl rfl (g := (mkF m 6 #[rv ob, rv vb, iv cd] [(.ref vb), (.ref ob)])) rfl rfl (hb hby d7_6)
  have f3 := E_ob.wr W2
  have f4 := F_value.same W2
  have f5 := F_coder.other W2 (Or.inr (sn_2 hw))
  have Zp2 : n0 ≤ h2.size := Nat.le_trans Z0 (Nat.le_of_eq W2.size.symm)
  have K2 := K0.wr W2 (Or.inl (List.mem_of_getElem? (i := 0) rfl))
  have N2 := Fr.snoc X2 N0 g_ob
  refine Wk.go (A' := T2.setTop (mkF m 9 #[rv ob, rv vb, iv cd] [])) (fun t k => st2 t k) ?_
  refine Wk.go (A' := T2.setTop (mkF m 10 #[rv ob, rv vb, iv cd] [(.ref ob)])) (fun t k => XS.aloadN X2.here hx rfl (hb hby d7_9) rfl rfl k) ?_
  refine Wk.go (A' := T2.setTop (mkF m 11 #[rv ob, rv vb, iv cd] [(.int cd), (.ref ob)])) (fun t k => XS.iloadN X2.here hx rfl (hb hby d7_10) rfl k) ?_
  obtain ⟨T6, h6, X6, e6, W6, st6⟩ := putFN X2 hx hZ hown (tw42 hw) Via.refl e2 f5 f3 (Or.inr ⟨(tw43 hw), rfl, hnm⟩) (tw30 hw) (ty := .byte) (v' := (.int (nar .byte cd))) (by decide) rfl (fits_nar_byte cd) (g := (mkF m 11 #[rv ob, rv vb, iv cd] [(.int cd), (.ref ob)])) rfl rfl (hb hby d7_11)
  have f7 := f3.wr W6
  have f8 := f4.other W6 (Or.inr (sn_3 hw))
  have f9 := f5.same W6
  have Zp6 : n0 ≤ h6.size := Nat.le_trans Zp2 (Nat.le_of_eq W6.size.symm)
  have K6 := K2.wr W6 (Or.inl (List.mem_of_getElem? (i := 0) rfl))
  have N6 := Fr.snoc X6 N2 g_ob
  refine Wk.go (A' := T6.setTop (mkF m 14 #[rv ob, rv vb, iv cd] [])) (fun t k => st6 t k) ?_
  refine own_fin (Qv := Q7 Z ob vb cd h0 n0) (v := none) X6 hlk (fun _ => rfl) (fun fs hr => X6.returnOut hx Bd.returns (hb hby d7_14) hr) ?_ (by decide) (by decide)
  show Q7 Z ob vb cd h0 n0 _ T6.heap _
  rw [e6]
  exact ⟨rfl, N6, K6, f7, f8, f9⟩
theorem own_can {c : Int32} (h : c.toInt ≤ 255) : ¬ (f_can c = (0 : Int32)) := by
  unfold f_can
  have e : (255 : Int32).toInt = 255 := by decide
  rw [if_neg (by rw [Int32.lt_iff_toInt_lt]; omega)]; decide
theorem tw24 {Z : State} {a0 : Array Value} (hw : ∀ d ∈ tables_1, d.before a0 Z = true) : (Jvm.Cond.fieldLink "java/lang/String" (38 : Nat) "java/lang/String" "COMPACT_STRINGS" "Z").before a0 Z = true := hw _ (List.mem_of_getElem? (i := 24) rfl)
theorem d4_0 : decode jdk_42_method_139_code 0 = .ok (.getstatic 38, 3) := by decide +kernel
theorem d4_3 : decode jdk_42_method_139_code 3 = .ok (.ifCond .eq 23, 3) := by decide +kernel
theorem d4_6 : decode jdk_42_method_139_code 6 = .ok (.iload_n 0, 1) := by decide +kernel
theorem tw25 {Z : State} {a0 : Array Value} (hw : ∀ d ∈ tables_1, d.before a0 Z = true) : (Jvm.Cond.methodLink "java/lang/String" (1015 : Nat) ({ cls := "java/lang/StringLatin1", name := "canEncode", desc := "(C)Z" } : Jvm.MethodName)).before a0 Z = true := hw _ (List.mem_of_getElem? (i := 25) rfl)
theorem tw28 {Z : State} {a0 : Array Value} (hw : ∀ d ∈ tables_1, d.before a0 Z = true) : (Jvm.Cond.code ({ cls := "java/lang/StringLatin1", name := "canEncode", desc := "(C)Z" } : Jvm.MethodName) jdk_43_method_3_code (1 : Nat) (Option.some Jvm.ClassFile.FieldType.boolean)).before a0 Z = true := hw _ (List.mem_of_getElem? (i := 28) rfl)
theorem tw27 {Z : State} {a0 : Array Value} (hw : ∀ d ∈ tables_1, d.before a0 Z = true) : (Jvm.Cond.initialized "java/lang/StringLatin1").before a0 Z = true := hw _ (List.mem_of_getElem? (i := 27) rfl)
theorem pd_0 : parseMethodDescriptor "(C)Z" = some ⟨[.char], some .boolean⟩ := by decide +kernel
theorem d4_7 : decode jdk_42_method_139_code 7 = .ok (.invokestatic 1015, 3) := by decide +kernel
theorem tw26 {Z : State} {a0 : Array Value} (hw : ∀ d ∈ tables_1, d.before a0 Z = true) : (Jvm.Cond.static ({ cls := "java/lang/StringLatin1", name := "canEncode", desc := "(C)Z" } : Jvm.MethodName)).before a0 Z = true := hw _ (List.mem_of_getElem? (i := 26) rfl)
theorem d4_10 : decode jdk_42_method_139_code 10 = .ok (.ifCond .eq 16, 3) := by decide +kernel
theorem tw29 {Z : State} {a0 : Array Value} (hw : ∀ d ∈ tables_1, d.before a0 Z = true) : (Jvm.Cond.classLink "java/lang/String" (10 : Nat) "java/lang/String").before a0 Z = true := hw _ (List.mem_of_getElem? (i := 29) rfl)
theorem tw22 {Z : State} {a0 : Array Value} (hw : ∀ d ∈ tables_1, d.before a0 Z = true) : (Jvm.Cond.initialized "java/lang/String").before a0 Z = true := hw _ (List.mem_of_getElem? (i := 22) rfl)
theorem d4_13 : decode jdk_42_method_139_code 13 = .ok (.new 10, 3) := by decide +kernel
theorem d4_16 : decode jdk_42_method_139_code 16 = .ok (.dup, 1) := by decide +kernel
theorem d4_17 : decode jdk_42_method_139_code 17 = .ok (.iload_n 0, 1) := by decide +kernel
theorem tw31 {Z : State} {a0 : Array Value} (hw : ∀ d ∈ tables_1, d.before a0 Z = true) : (Jvm.Cond.methodLink "java/lang/String" (1018 : Nat) ({ cls := "java/lang/StringLatin1", name := "toBytes", desc := "(C)[B" } : Jvm.MethodName)).before a0 Z = true := hw _ (List.mem_of_getElem? (i := 31) rfl)
theorem tw33 {Z : State} {a0 : Array Value} (hw : ∀ d ∈ tables_1, d.before a0 Z = true) : (Jvm.Cond.code ({ cls := "java/lang/StringLatin1", name := "toBytes", desc := "(C)[B" } : Jvm.MethodName) jdk_43_method_46_code (1 : Nat) (Option.some (Jvm.ClassFile.FieldType.array Jvm.ClassFile.FieldType.byte))).before a0 Z = true := hw _ (List.mem_of_getElem? (i := 33) rfl)
theorem pd_1 : parseMethodDescriptor "(C)[B" = some ⟨[.char], some (.array .byte)⟩ := by decide +kernel
theorem d4_18 : decode jdk_42_method_139_code 18 = .ok (.invokestatic 1018, 3) := by decide +kernel
theorem tw32 {Z : State} {a0 : Array Value} (hw : ∀ d ∈ tables_1, d.before a0 Z = true) : (Jvm.Cond.static ({ cls := "java/lang/StringLatin1", name := "toBytes", desc := "(C)[B" } : Jvm.MethodName)).before a0 Z = true := hw _ (List.mem_of_getElem? (i := 32) rfl)
theorem d4_21 : decode jdk_42_method_139_code 21 = .ok (.iconst 0, 1) := by decide +kernel
theorem tw35 {Z : State} {a0 : Array Value} (hw : ∀ d ∈ tables_1, d.before a0 Z = true) : (Jvm.Cond.methodLink "java/lang/String" (209 : Nat) ({ cls := "java/lang/String", name := "<init>", desc := "([BB)V" } : Jvm.MethodName)).before a0 Z = true := hw _ (List.mem_of_getElem? (i := 35) rfl)
theorem tw38 {Z : State} {a0 : Array Value} (hw : ∀ d ∈ tables_1, d.before a0 Z = true) : (Jvm.Cond.code ({ cls := "java/lang/String", name := "<init>", desc := "([BB)V" } : Jvm.MethodName) jdk_42_method_151_code (3 : Nat) (Option.none : Option Jvm.ClassFile.FieldType)).before a0 Z = true := hw _ (List.mem_of_getElem? (i := 38) rfl)
theorem pd_2 : parseMethodDescriptor "([BB)V" = some ⟨[(.array .byte), .byte], none⟩ := by decide +kernel
theorem d4_22 : decode jdk_42_method_139_code 22 = .ok (.invokespecial 209, 3) := by decide +kernel
theorem tw36 {Z : State} {a0 : Array Value} (hw : ∀ d ∈ tables_1, d.before a0 Z = true) : (Jvm.Cond.instanceMethod ({ cls := "java/lang/String", name := "<init>", desc := "([BB)V" } : Jvm.MethodName)).before a0 Z = true := hw _ (List.mem_of_getElem? (i := 36) rfl)
theorem d4_25 : decode jdk_42_method_139_code 25 = .ok (.areturn, 1) := by decide +kernel
theorem ef_4 (m : MethodId) (x0 : Int32) : entryFrame m #[(.int x0)] 1 = mkF m 0 #[iv x0] [] := by first | (simp [entryFrame, mkF, argsToLocals, Value.category]; done) | rfl
def Q4 (Z : State) (ch : Int32) (wcs : Int32) (h0 : Heap) (n0 : Nat) (v : Option Value) (h : Heap) (L : List Loc) : Prop := ∃ b : Addr, v = some (.ref b) ∧ Fr n0 L ∧ Keep h0 h [] ∧ n0 ≤ b ∧ h0.size ≤ b ∧ Exa Z h b "java/lang/String"
set_option maxRecDepth 65536 in
set_option maxHeartbeats 40000000 in
theorem rm4 (l : Launch) (Z : State) (a0 : Array Value) (hw : ∀ d ∈ tables_1, d.before a0 Z = true) (ws : List Jvm.Cond) (ch : Int32) (wcs : Int32) (h0 : Heap) (n0 : Nat) (Z0 : n0 ≤ h0.size) (S_cs : Sta Z h0 "java/lang/String" "COMPACT_STRINGS" "Z" (.int wcs)) (hcs : ¬ (wcs = (0 : Int32))) (hch : ch.toInt ≤ 255) :
    MetFree l (⟨"java/lang/String", "valueOf", "(C)Ljava/lang/String;"⟩ : MethodName) (head1 (Jvm.Cond.code (⟨"java/lang/String", "valueOf", "(C)Ljava/lang/String;"⟩ : MethodName) jdk_42_method_139_code 1 (some (.object "java/lang/String")) :: ws) ({ frames := 2, cells := 2, slots := 5, locals := 27 } : Room)) (fun a U => a = #[(.int ch)] ∧ Z.Warmed39 U.vm ∧ U.heap = h0) (fun _ _ _ _ _ => True) (fun _ U o U' => ∃ v L, o = .returned v ∧ Q4 Z ch wcs h0 n0 v U'.heap L ∧ FrameEnd U o U' L ({ frames := 2, cells := 2, slots := 5, locals := 27 } : Room).cells ({ frames := 2, cells := 2, slots := 5, locals := 27 } : Room).slots) := by
  refine MetFree.of_bodySF (plainFor_of_name pn_2) hisR ?_
  intro p e s m args below meth c s₁ Bd hml0 hP hK
  obtain ⟨rfl, hZ, hh⟩ := hP
  have hx := Bd.exec
  have hby := Bd.bytes
  have hml : c.maxLocals = 1 := hml0
  have hown : s.vm.findClass "java/lang/String" = some m.cls := findClass_of_methodNamed Bd.named
  have hnm := (name_of_methodNamed Bd.named Bd.method).1
  have X0 : Stand p l e ({ frames := 2, cells := 2, slots := 5, locals := 27 } : Room) s m #[(.int ch)] below meth c s₁ [] 0 0 := Stand.of_body Bd
  have e0 : s₁.heap = h0 := by rw [← hh, Bd.state]; rfl
  have N0 := Fr.nil n0
  have hlk : meth.locks = false := BodyLoose.notSynchronized Bd
  suffices hwk : Wk p.tables e below (s₁.setTop (mkF m 0 #[iv ch] [])) (fun U o => U.status = .running ∧ Ended U below o ∧ ∃ v L, o = .returned v ∧ Q4 Z ch wcs h0 n0 v U.heap L ∧ FrameEnd s o U L 2 5) by
    obtain ⟨U, o, k1, k2⟩ := hwk
    exact ⟨U, o, castTop (ef_4 m ch) k1, k2⟩
  have K0 := Keep.refl h0 []
  obtain ⟨T1, X1, e1, st1⟩ := getS2 X0 hx hZ hown (host := "") (Or.inl (tw24 hw)) Via.refl e0 S_cs (g := (mkF m 0 #[iv ch] [])) rfl (hb hby d4_0)
  refine Wk.go (A' := T1.setTop (mkF m 3 #[iv ch] [(.int wcs)])) (fun t k => st1 t k) ?_
  have hc3 : ¬ (wcs = (0 : Int32)) := hcs
  refine Wk.go (A' := T1.setTop (mkF m 6 #[iv ch] [])) (fun t k => XS.ifNo X1.here hx rfl (hb hby d4_3) rfl ((if0 _ _).trans (feq hc3).1) k) ?_
  refine Wk.go (A' := T1.setTop (mkF m 7 #[iv ch] [(.int ch)])) (fun t k => XS.iloadN X1.here hx rfl (hb hby d4_6) rfl k) ?_
  obtain ⟨_, _, ⟨T2, L2, k2, n2⟩, -, X2, ⟨Lc2, hQ2, l2, y2, z2⟩, st2⟩ := Jvm.LawKit.callS X1 hx (y := (⟨"java/lang/StringLatin1", "canEncode", "(C)Z"⟩ : MethodName)) hown (mvT hZ (tw25 hw)) (mvT hZ (tw26 hw)) (mvT hZ (tw27 hw)) (mvT hZ (tw28 hw)) (by decide) (backOf (W := 0) (rm5 l Z a0 hw [] ch  h0 n0 Z0 ) hZ (tw28 hw) (tw27 hw) (by decide) (by decide)) (g := (mkF m 7 #[iv ch] [(.int ch)])) rfl (by rw [hml]; rfl) (argsL := [(.int ch)]) (rest := []) (lenOf pd_0 rfl) rfl (by show 2 * 0 + _ ≤ _; exact Nat.le_of_eq rfl) (hb hby d4_7) (fun _ _ => ⟨rfl, e1, (by decide : 0 + 0 ≤ _), (by decide : 0 + 0 ≤ _)⟩)
  dsimp only [Pt.U, Pt.locs, Pt.cells, Pt.slots] at X2 l2 y2 z2 st2 hQ2
  subst l2 y2 z2
  obtain ⟨rfl, N2q, hE2⟩ := hQ2
  have N2 := Fr.app N0 N2q
  refine Wk.go (A' := T2.setTop (mkF m 10 #[iv ch] [(.int (f_can ch))])) (fun t k => st2 t k) ?_
  have hc10 : ¬ ((f_can ch) = (0 : Int32)) := own_can hch
  refine Wk.go (A' := T2.setTop (mkF m 13 #[iv ch] [])) (fun t k => XS.ifNo X2.here hx rfl (hb hby d4_10) rfl ((if0 _ _).trans (feq hc10).1) k) ?_
  obtain ⟨T3, h3, X3, e3, E3, A3, D3, -, st3⟩ := newO X2 hx hZ hown (tw29 hw) (tw30 hw) (tw22 hw) (hE2) (g := (mkF m 13 #[iv ch] [])) rfl (hb hby d4_13) (by decide) (by decide)
  obtain ⟨b3, g3⟩ : ∃ z, z = h0.size := ⟨_, rfl⟩
  rw [← g3] at A3 D3 st3
  have g_b3 : n0 ≤ b3 := Nat.le_trans Z0 (Nat.le_of_eq g3.symm)
  have b_b3 : h0.size ≤ b3 := Nat.le_trans K0.1 (Nat.le_of_eq g3.symm)
  have F_value_b3 : Fld Z h3 b3 "java/lang/String" "value" "[B" .null := D3 (Or.inr (tw41 hw)) (ty := (.array .byte)) (by decide)
  have F_coder_b3 : Fld Z h3 b3 "java/lang/String" "coder" "B" (.int (0 : Int32)) := D3 (Or.inr (tw43 hw)) (ty := .byte) (by decide)
  have Zp3 : n0 ≤ h3.size := Nat.le_trans Z0 E3.1
  have K3 := K0.ext E3
  refine Wk.go (A' := T3.setTop (mkF m 16 #[iv ch] [(.ref b3)])) (fun t k => st3 t k) ?_
  refine Wk.go (A' := T3.setTop (mkF m 17 #[iv ch] [(.ref b3), (.ref b3)])) (fun t k => XS.dup X3.here hx rfl (hb hby d4_16) rfl rfl k) ?_
  refine Wk.go (A' := T3.setTop (mkF m 18 #[iv ch] [(.int ch), (.ref b3), (.ref b3)])) (fun t k => XS.iloadN X3.here hx rfl (hb hby d4_17) rfl k) ?_
  obtain ⟨_, _, ⟨T4, L4, k4, n4⟩, -, X4, ⟨Lc4, hQ4, l4, y4, z4⟩, st4⟩ := Jvm.LawKit.callS X3 hx (y := (⟨"java/lang/StringLatin1", "toBytes", "(C)[B"⟩ : MethodName)) hown (mvT hZ (tw31 hw)) (mvT hZ (tw32 hw)) (mvT hZ (tw27 hw)) (mvT hZ (tw33 hw)) (by decide) (backOf (W := 2) (rm6 l Z a0 hw [] ch  h3 n0 Zp3 ) hZ (tw33 hw) (tw27 hw) (by decide) (by decide)) (g := (mkF m 18 #[iv ch] [(.int ch), (.ref b3), (.ref b3)])) rfl (by rw [hml]; rfl) (argsL := [(.int ch)]) (rest := [(.ref b3), (.ref b3)]) (lenOf pd_1 rfl) rfl (by show 2 * 0 + _ ≤ _; exact Nat.le_of_eq rfl) (hb hby d4_18) (fun _ _ => ⟨rfl, e3, (by decide : 1 + 1 ≤ _), (by decide : 4 + 1 ≤ _)⟩)
  dsimp only [Pt.U, Pt.locs, Pt.cells, Pt.slots] at X4 l4 y4 z4 st4 hQ4
  subst l4 y4 z4
  obtain ⟨b4, rfl, N4q, Kq4, g_b4, bb_b4⟩ := hQ4
  have N4 := Fr.app N2 N4q
  have f5 := A3.keep Kq4
  have f6 := F_value_b3.keep Kq4 nin0
  have f7 := F_coder_b3.keep Kq4 nin0
  have Zp4 : n0 ≤ T4.heap.size := Nat.le_trans Zp3 Kq4.1
  have Kt4 := K3.trans Kq4 all0
  refine Wk.go (A' := T4.setTop (mkF m 21 #[iv ch] [(.ref b4), (.ref b3), (.ref b3)])) (fun t k => st4 t k) ?_
  refine Wk.go (A' := T4.setTop (mkF m 22 #[iv ch] [(.int (0 : Int32)), (.ref b4), (.ref b3), (.ref b3)])) (fun t k => XS.iconst X4.here hx rfl (hb hby d4_21) k) ?_
  obtain ⟨_, _, ⟨T8, L8, k8, n8⟩, -, X8, ⟨Lc8, hQ8, l8, y8, z8⟩, st8⟩ := X4.specialBack hx (y := (⟨"java/lang/String", "<init>", "([BB)V"⟩ : MethodName)) rfl hown (mvT hZ (tw35 hw)) (mvT hZ (tw36 hw)) (mvT hZ (tw38 hw)) (by decide) (backOf (W := 1) (rm7 l Z a0 hw [] b3 b4 (0 : Int32)  T4.heap n0 Zp4 f5 f6 f7 g_b3 ) hZ (tw38 hw) (tw22 hw) (by decide) (by decide)) (g := (mkF m 22 #[iv ch] [(.int (0 : Int32)), (.ref b4), (.ref b3), (.ref b3)])) rfl (by rw [hml]; rfl) (Steps.refl _) (a := b3) (argsL := [(.ref b4), (.int (0 : Int32))]) (rest := [(.ref b3)]) (lenOf pd_2 rfl) rfl (by show 2 * 0 + _ ≤ _; exact Nat.le_of_eq rfl) (hb hby d4_22) (fun _ _ => ⟨rfl, rfl, (by decide : 2 + 0 ≤ _), (by decide : 5 + 0 ≤ _)⟩)
  dsimp only [Pt.U, Pt.locs, Pt.cells, Pt.slots] at X8 l8 y8 z8 st8 hQ8
  subst l8 y8 z8
  obtain ⟨rfl, N8q, Kq8, Eq8, Fq8_value, Fq8_coder⟩ := hQ8
  have N8 := Fr.app N4 N8q
  have f9 := f5.keep Kq8
  have Zp8 : n0 ≤ T8.heap.size := Nat.le_trans Zp4 Kq8.1
  have Kt8 := Kt4.trans Kq8 (allS (Or.inr b_b3) all0)
  refine Wk.go (A' := T8.setTop (mkF m 25 #[iv ch] [(.ref b3)])) (fun t k => st8.trans k) ?_
  refine own_fin (Qv := Q4 Z ch wcs h0 n0) (v := some (.ref b3)) X8 hlk (fun h => by rw [Bd.returns] at h; cases h) (fun fs hr => retOut X8 hx (t := (.object "java/lang/String")) Bd.returns rfl (Or.inr (Or.inr (Or.inr (Or.inr ⟨rfl, rfl, rfl⟩)))) (hb hby d4_25) hr) ?_ (by decide) (by decide)
  show Q4 Z ch wcs h0 n0 _ T8.heap _
  exact ⟨_, rfl, N8, Kt8, g_b3, b_b3, Eq8⟩
theorem own_eq (o1 o2 : Addr) (a b c d : Int64) : f_eq o1 o2 a b c d = if a = c then (if b = d then 1 else 0) else 0 := rfl
theorem own_ch (q : Int32) : ((((q.toUInt32 >>> ((8 : Int32) &&& 31).toUInt32).toInt32) &&& (255 : Int32)).toUInt32.toUInt16.toUInt32.toInt32).toInt ≤ 255 := by
  have h1 := c_mask ((q.toUInt32 >>> ((8 : Int32) &&& 31).toUInt32).toInt32) 255 8 (by decide) (by decide)
  have h2 := c_i2c (((q.toUInt32 >>> ((8 : Int32) &&& 31).toUInt32).toInt32) &&& (255 : Int32))
  omega
theorem own_self (o : Addr) (a b : Int64) : nar .boolean (f_eq o o a b a b) = 1 := by
  rw [own_eq, if_pos rfl, if_pos rfl]; decide
theorem tw0 {Z : State} {a0 : Array Value} (hw : ∀ d ∈ tables_1, d.before a0 Z = true) : (Jvm.Cond.classLink "com/example/rookery/rookery/drawing/GridPointEqualsPinLaw" (7 : Nat) "com/example/rookery/rookery/drawing/GridPoint").before a0 Z = true := hw _ (List.mem_of_getElem? (i := 0) rfl)
theorem tw2 {Z : State} {a0 : Array Value} (hw : ∀ d ∈ tables_1, d.before a0 Z = true) : (Jvm.Cond.initialized "com/example/rookery/rookery/drawing/GridPoint").before a0 Z = true := hw _ (List.mem_of_getElem? (i := 2) rfl)
theorem tw3 {Z : State} {a0 : Array Value} (hw : ∀ d ∈ tables_1, d.before a0 Z = true) : (Jvm.Cond.methodLink "com/example/rookery/rookery/drawing/GridPointEqualsPinLaw" (9 : Nat) ({ cls := "com/example/rookery/rookery/drawing/GridPoint", name := "<init>", desc := "(JJ)V" } : Jvm.MethodName)).before a0 Z = true := hw _ (List.mem_of_getElem? (i := 3) rfl)
theorem tw5 {Z : State} {a0 : Array Value} (hw : ∀ d ∈ tables_1, d.before a0 Z = true) : (Jvm.Cond.code ({ cls := "com/example/rookery/rookery/drawing/GridPoint", name := "<init>", desc := "(JJ)V" } : Jvm.MethodName) prog_21_method_1_code (5 : Nat) (Option.none : Option Jvm.ClassFile.FieldType)).before a0 Z = true := hw _ (List.mem_of_getElem? (i := 5) rfl)
theorem pd_3 : parseMethodDescriptor "(JJ)V" = some ⟨[.long, .long], none⟩ := by decide +kernel
theorem tw4 {Z : State} {a0 : Array Value} (hw : ∀ d ∈ tables_1, d.before a0 Z = true) : (Jvm.Cond.instanceMethod ({ cls := "com/example/rookery/rookery/drawing/GridPoint", name := "<init>", desc := "(JJ)V" } : Jvm.MethodName)).before a0 Z = true := hw _ (List.mem_of_getElem? (i := 4) rfl)
theorem tw13 {Z : State} {a0 : Array Value} (hw : ∀ d ∈ tables_1, d.before a0 Z = true) : (Jvm.Cond.methodLink "com/example/rookery/rookery/drawing/GridPointEqualsPinLaw" (12 : Nat) ({ cls := "com/example/rookery/rookery/drawing/GridPoint", name := "equals", desc := "(Ljava/lang/Object;)Z" } : Jvm.MethodName)).before a0 Z = true := hw _ (List.mem_of_getElem? (i := 13) rfl)
theorem tw17 {Z : State} {a0 : Array Value} (hw : ∀ d ∈ tables_1, d.before a0 Z = true) : (Jvm.Cond.code ({ cls := "com/example/rookery/rookery/drawing/GridPoint", name := "equals", desc := "(Ljava/lang/Object;)Z" } : Jvm.MethodName) prog_21_method_8_code (3 : Nat) (Option.some Jvm.ClassFile.FieldType.boolean)).before a0 Z = true := hw _ (List.mem_of_getElem? (i := 17) rfl)
theorem pd_4 : parseMethodDescriptor "(Ljava/lang/Object;)Z" = some ⟨[(.object "java/lang/Object")], some .boolean⟩ := by decide +kernel
theorem tw16 {Z : State} {a0 : Array Value} (hw : ∀ d ∈ tables_1, d.before a0 Z = true) : (Jvm.Cond.selects "com/example/rookery/rookery/drawing/GridPoint" ({ cls := "com/example/rookery/rookery/drawing/GridPoint", name := "equals", desc := "(Ljava/lang/Object;)Z" } : Jvm.MethodName) ({ cls := "com/example/rookery/rookery/drawing/GridPoint", name := "equals", desc := "(Ljava/lang/Object;)Z" } : Jvm.MethodName)).before a0 Z = true := hw _ (List.mem_of_getElem? (i := 16) rfl)
theorem tw14 {Z : State} {a0 : Array Value} (hw : ∀ d ∈ tables_1, d.before a0 Z = true) : (Jvm.Cond.declares ({ cls := "com/example/rookery/rookery/drawing/GridPoint", name := "equals", desc := "(Ljava/lang/Object;)Z" } : Jvm.MethodName)).before a0 Z = true := hw _ (List.mem_of_getElem? (i := 14) rfl)
theorem tw15 {Z : State} {a0 : Array Value} (hw : ∀ d ∈ tables_1, d.before a0 Z = true) : (Jvm.Cond.instanceMethod ({ cls := "com/example/rookery/rookery/drawing/GridPoint", name := "equals", desc := "(Ljava/lang/Object;)Z" } : Jvm.MethodName)).before a0 Z = true := hw _ (List.mem_of_getElem? (i := 15) rfl)
theorem tw20 {Z : State} {a0 : Array Value} (hw : ∀ d ∈ tables_1, d.before a0 Z = true) : (Jvm.Cond.methodLink "com/example/rookery/rookery/drawing/GridPointEqualsPinLaw" (16 : Nat) ({ cls := "java/lang/String", name := "valueOf", desc := "(C)Ljava/lang/String;" } : Jvm.MethodName)).before a0 Z = true := hw _ (List.mem_of_getElem? (i := 20) rfl)
theorem tw23 {Z : State} {a0 : Array Value} (hw : ∀ d ∈ tables_1, d.before a0 Z = true) : (Jvm.Cond.code ({ cls := "java/lang/String", name := "valueOf", desc := "(C)Ljava/lang/String;" } : Jvm.MethodName) jdk_42_method_139_code (1 : Nat) (Option.some (Jvm.ClassFile.FieldType.object "java/lang/String"))).before a0 Z = true := hw _ (List.mem_of_getElem? (i := 23) rfl)
theorem pd_5 : parseMethodDescriptor "(C)Ljava/lang/String;" = some ⟨[.char], some (.object "java/lang/String")⟩ := by decide +kernel
theorem tw21 {Z : State} {a0 : Array Value} (hw : ∀ d ∈ tables_1, d.before a0 Z = true) : (Jvm.Cond.static ({ cls := "java/lang/String", name := "valueOf", desc := "(C)Ljava/lang/String;" } : Jvm.MethodName)).before a0 Z = true := hw _ (List.mem_of_getElem? (i := 21) rfl)
theorem pn_3 : plainName "com/example/rookery/rookery/drawing/GridPointEqualsPinLaw" = true := by first | (simp [plainName, overriddenIn]; done) | decide +kernel
theorem ef_0 (m : MethodId) (x0 : Int64) (x1 : Int64) (x2 : Int64) (x3 : Int64) (x4 : Int32) : entryFrame m #[(.long x0), (.long x1), (.long x2), (.long x3), (.int x4)] maxLocals = mkF m 0 #[jv x0, .second, jv x1, .second, jv x2, .second, jv x3, .second, iv x4, .unset, .unset, .unset, .unset, .unset, .unset, .unset, .unset] [] := by first | (simp [entryFrame, mkF, argsToLocals, Value.category, maxLocals]; done) | rfl
def Q0 (Z : State) (xa : Int64) (ya : Int64) (xc : Int64) (yc : Int64) (sl : Int32) (wcs : Int32) (h0 : Heap) (n0 : Nat) (v : Option Value) (h : Heap) (L : List Loc) : Prop := v = some (.int 1) ∧ Fr n0 L
set_option maxRecDepth 65536 in
set_option maxHeartbeats 40000000 in
theorem rm0 (l : Launch) (Z : State) (a0 : Array Value) (hw : ∀ d ∈ tables_1, d.before a0 Z = true) (ws : List Jvm.Cond) (xa : Int64) (ya : Int64) (xc : Int64) (yc : Int64) (sl : Int32) (wcs : Int32) (h0 : Heap) (n0 : Nat) (Z0 : n0 ≤ h0.size) (O0 : Old Z n0 h0) (S0 : Sta Z Z.heap "java/lang/String" "COMPACT_STRINGS" "Z" (.int wcs)) (hcs : ¬ (wcs = (0 : Int32))) :
    MetFree l x (head1 (Jvm.Cond.code x code maxLocals ret :: ws) room_1) (fun a U => a = #[(.long xa), (.long ya), (.long xc), (.long yc), (.int sl)] ∧ Z.Warmed39 U.vm ∧ U.heap = h0) (fun _ _ _ _ _ => True) (fun _ U o U' => ∃ v L, o = .returned v ∧ Q0 Z xa ya xc yc sl wcs h0 n0 v U'.heap L ∧ FrameEnd U o U' L 4 9) := by
  refine MetFree.of_bodySF (plainFor_of_name pn_3) hisR ?_
  intro p e s m args below meth c s₁ Bd hml0 hP hK
  obtain ⟨rfl, hZ, hh⟩ := hP
  have hx := Bd.exec
  have hby := Bd.bytes
  have hml : c.maxLocals = 17 := hml0
  have hown : s.vm.findClass "com/example/rookery/rookery/drawing/GridPointEqualsPinLaw" = some m.cls := findClass_of_methodNamed Bd.named
  have hnm := (name_of_methodNamed Bd.named Bd.method).1
  have X0 : Stand p l e room_1 s m #[(.long xa), (.long ya), (.long xc), (.long yc), (.int sl)] below meth c s₁ [] 0 0 := Stand.of_body Bd
  have e0 : s₁.heap = h0 := by rw [← hh, Bd.state]; rfl
  have N0 := Fr.nil n0
  have hlk : meth.locks = false := BodyLoose.notSynchronized Bd
  suffices hwk : Wk p.tables e below (s₁.setTop (mkF m 0 #[jv xa, .second, jv ya, .second, jv xc, .second, jv yc, .second, iv sl, .unset, .unset, .unset, .unset, .unset, .unset, .unset, .unset] [])) (fun U o => U.status = .running ∧ Ended U below o ∧ ∃ v L, o = .returned v ∧ Q0 Z xa ya xc yc sl wcs h0 n0 v U.heap L ∧ FrameEnd s o U L 4 9) by
    obtain ⟨U, o, k1, k2⟩ := hwk
    exact ⟨U, o, castTop (ef_0 m xa ya xc yc sl) k1, k2⟩
  obtain ⟨T1, h1, X1, e1, E1, A1, D1, -, st1⟩ := newO X0 hx hZ hown (tw0 hw) (tw1 hw) (tw2 hw) e0 (g := (mkF m 0 #[jv xa, .second, jv ya, .second, jv xc, .second, jv yc, .second, iv sl, .unset, .unset, .unset, .unset, .unset, .unset, .unset, .unset] [])) rfl (hb hby at_0) (by decide) (by decide)
  obtain ⟨oP, g1⟩ : ∃ z, z = h0.size := ⟨_, rfl⟩
  rw [← g1] at A1 D1 st1
  have g_oP : n0 ≤ oP := Nat.le_trans Z0 (Nat.le_of_eq g1.symm)
  have f2 := O0.ext E1
  have F_x_oP : Fld Z h1 oP "com/example/rookery/rookery/drawing/GridPoint" "x" "J" (.long (0 : Int64)) := D1 (Or.inr (tw10 hw)) (ty := .long) (by decide)
  have F_y_oP : Fld Z h1 oP "com/example/rookery/rookery/drawing/GridPoint" "y" "J" (.long (0 : Int64)) := D1 (Or.inr (tw12 hw)) (ty := .long) (by decide)
  have Zp1 : n0 ≤ h1.size := Nat.le_trans Z0 E1.1
  refine Wk.go (A' := T1.setTop (mkF m 3 #[jv xa, .second, jv ya, .second, jv xc, .second, jv yc, .second, iv sl, .unset, .unset, .unset, .unset, .unset, .unset, .unset, .unset] [(.ref oP)])) (fun t k => st1 t k) ?_
  refine Wk.go (A' := T1.setTop (mkF m 4 #[jv xa, .second, jv ya, .second, jv xc, .second, jv yc, .second, iv sl, .unset, .unset, .unset, .unset, .unset, .unset, .unset, .unset] [(.ref oP), (.ref oP)])) (fun t k => XS.dup X1.here hx rfl (hb hby at_3) rfl rfl k) ?_
  refine Wk.go (A' := T1.setTop (mkF m 5 #[jv xa, .second, jv ya, .second, jv xc, .second, jv yc, .second, iv sl, .unset, .unset, .unset, .unset, .unset, .unset, .unset, .unset] [(.long xa), (.ref oP), (.ref oP)])) (fun t k => XS.lloadN X1.here hx rfl (hb hby at_4) rfl k) ?_
  refine Wk.go (A' := T1.setTop (mkF m 6 #[jv xa, .second, jv ya, .second, jv xc, .second, jv yc, .second, iv sl, .unset, .unset, .unset, .unset, .unset, .unset, .unset, .unset] [(.long ya), (.long xa), (.ref oP), (.ref oP)])) (fun t k => XS.lloadN X1.here hx rfl (hb hby at_5) rfl k) ?_
  obtain ⟨_, _, ⟨T3, L3, k3, n3⟩, -, X3, ⟨Lc3, hQ3, l3, y3, z3⟩, st3⟩ := X1.specialBack hx (y := (⟨"com/example/rookery/rookery/drawing/GridPoint", "<init>", "(JJ)V"⟩ : MethodName)) rfl hown (mvT hZ (tw3 hw)) (mvT hZ (tw4 hw)) (mvT hZ (tw5 hw)) (by decide) (backOf (W := 1) (rm1 l Z a0 hw [] oP xa ya  h1 n0 Zp1 A1 F_x_oP F_y_oP g_oP ) hZ (tw5 hw) (tw2 hw) (by decide) (by decide)) (g := (mkF m 6 #[jv xa, .second, jv ya, .second, jv xc, .second, jv yc, .second, iv sl, .unset, .unset, .unset, .unset, .unset, .unset, .unset, .unset] [(.long ya), (.long xa), (.ref oP), (.ref oP)])) rfl (by rw [hml]; rfl) (Steps.refl _) (a := oP) (argsL := [(.long xa), (.long ya)]) (rest := [(.ref oP)]) (lenOf pd_3 rfl) rfl (by show 2 * 0 + _ ≤ _; exact Nat.le_of_eq rfl) (hb hby at_6) (fun _ _ => ⟨rfl, e1, (by decide : 1 + 0 ≤ _), (by decide : 2 + 0 ≤ _)⟩)
  dsimp only [Pt.U, Pt.locs, Pt.cells, Pt.slots] at X3 l3 y3 z3 st3 hQ3
  subst l3 y3 z3
  obtain ⟨rfl, N3q, Kq3, Eq3, Fq3_x, Fq3_y⟩ := hQ3
  have N3 := Fr.app N0 N3q
  have f4 := f2.keep Kq3 (allS g_oP all0)
  have f5 := A1.keep Kq3
  have Zp3 : n0 ≤ T3.heap.size := Nat.le_trans Zp1 Kq3.1
  refine Wk.go (A' := T3.setTop (mkF m 9 #[jv xa, .second, jv ya, .second, jv xc, .second, jv yc, .second, iv sl, .unset, .unset, .unset, .unset, .unset, .unset, .unset, .unset] [(.ref oP)])) (fun t k => st3.trans k) ?_
  refine Wk.go (A' := T3.setTop (mkF m 11 #[jv xa, .second, jv ya, .second, jv xc, .second, jv yc, .second, iv sl, rv oP, .unset, .unset, .unset, .unset, .unset, .unset, .unset] [])) (fun t k => XS.astore X3.here hx rfl (hb hby at_9) rfl rfl (l' := #[jv xa, .second, jv ya, .second, jv xc, .second, jv yc, .second, iv sl, rv oP, .unset, .unset, .unset, .unset, .unset, .unset, .unset]) rfl k) ?_
  refine Wk.go (A' := T3.setTop (mkF m 13 #[jv xa, .second, jv ya, .second, jv xc, .second, jv yc, .second, iv sl, rv oP, .unset, .unset, .unset, .unset, .unset, .unset, .unset] [(.int sl)])) (fun t k => XS.iload X3.here hx rfl (hb hby at_11) rfl k) ?_
  refine Wk.go (A' := T3.setTop (mkF m 14 #[jv xa, .second, jv ya, .second, jv xc, .second, jv yc, .second, iv sl, rv oP, .unset, .unset, .unset, .unset, .unset, .unset, .unset] [(.int (1 : Int32)), (.int sl)])) (fun t k => XS.iconst X3.here hx rfl (hb hby at_13) k) ?_
  refine Wk.go (A' := T3.setTop (mkF m 15 #[jv xa, .second, jv ya, .second, jv xc, .second, jv yc, .second, iv sl, rv oP, .unset, .unset, .unset, .unset, .unset, .unset, .unset] [(.int (sl &&& (1 : Int32)))])) (fun t k => XS.iand X3.here hx rfl (hb hby at_14) rfl k) ?_
  by_cases hc15 : (sl &&& (1 : Int32)) = (0 : Int32)
  · refine Wk.go (A' := T3.setTop (mkF m 22 #[jv xa, .second, jv ya, .second, jv xc, .second, jv yc, .second, iv sl, rv oP, .unset, .unset, .unset, .unset, .unset, .unset, .unset] [])) (fun t k => XS.ifYes X3.here hx rfl (pc0 := 15) (pc' := 22) rfl (hb hby at_15) rfl ((if0 _ _).trans (teq hc15).1) (by decide) (by decide) k) ?_
    refine Wk.go (A' := T3.setTop (mkF m 24 #[jv xa, .second, jv ya, .second, jv xc, .second, jv yc, .second, iv sl, rv oP, .unset, .unset, .unset, .unset, .unset, .unset, .unset] [(.long xc)])) (fun t k => XS.lload X3.here hx rfl (hb hby at_22) rfl k) ?_
    refine Wk.go (A' := T3.setTop (mkF m 26 #[jv xa, .second, jv ya, .second, jv xc, .second, jv yc, .second, iv sl, rv oP, jv xc, .second, .unset, .unset, .unset, .unset, .unset] [])) (fun t k => XS.lstore X3.here hx rfl (hb hby at_24) rfl (l' := #[jv xa, .second, jv ya, .second, jv xc, .second, jv yc, .second, iv sl, rv oP, jv xc, .second, .unset, .unset, .unset, .unset, .unset]) rfl k) ?_
    refine Wk.go (A' := T3.setTop (mkF m 28 #[jv xa, .second, jv ya, .second, jv xc, .second, jv yc, .second, iv sl, rv oP, jv xc, .second, .unset, .unset, .unset, .unset, .unset] [(.int sl)])) (fun t k => XS.iload X3.here hx rfl (hb hby at_26) rfl k) ?_
    refine Wk.go (A' := T3.setTop (mkF m 29 #[jv xa, .second, jv ya, .second, jv xc, .second, jv yc, .second, iv sl, rv oP, jv xc, .second, .unset, .unset, .unset, .unset, .unset] [(.int (2 : Int32)), (.int sl)])) (fun t k => XS.iconst X3.here hx rfl (hb hby at_28) k) ?_
    refine Wk.go (A' := T3.setTop (mkF m 30 #[jv xa, .second, jv ya, .second, jv xc, .second, jv yc, .second, iv sl, rv oP, jv xc, .second, .unset, .unset, .unset, .unset, .unset] [(.int (sl &&& (2 : Int32)))])) (fun t k => XS.iand X3.here hx rfl (hb hby at_29) rfl k) ?_
    by_cases hc30 : (sl &&& (2 : Int32)) = (0 : Int32)
    · refine Wk.go (A' := T3.setTop (mkF m 37 #[jv xa, .second, jv ya, .second, jv xc, .second, jv yc, .second, iv sl, rv oP, jv xc, .second, .unset, .unset, .unset, .unset, .unset] [])) (fun t k => XS.ifYes X3.here hx rfl (pc0 := 30) (pc' := 37) rfl (hb hby at_30) rfl ((if0 _ _).trans (teq hc30).1) (by decide) (by decide) k) ?_
      refine Wk.go (A' := T3.setTop (mkF m 39 #[jv xa, .second, jv ya, .second, jv xc, .second, jv yc, .second, iv sl, rv oP, jv xc, .second, .unset, .unset, .unset, .unset, .unset] [(.long yc)])) (fun t k => XS.lload X3.here hx rfl (hb hby at_37) rfl k) ?_
      refine Wk.go (A' := T3.setTop (mkF m 41 #[jv xa, .second, jv ya, .second, jv xc, .second, jv yc, .second, iv sl, rv oP, jv xc, .second, jv yc, .second, .unset, .unset, .unset] [])) (fun t k => XS.lstore X3.here hx rfl (hb hby at_39) rfl (l' := #[jv xa, .second, jv ya, .second, jv xc, .second, jv yc, .second, iv sl, rv oP, jv xc, .second, jv yc, .second, .unset, .unset, .unset]) rfl k) ?_
      obtain ⟨T6, h6, X6, e6, E6, A6, D6, -, st6⟩ := newO X3 hx hZ hown (tw0 hw) (tw1 hw) (tw2 hw) rfl (g := (mkF m 41 #[jv xa, .second, jv ya, .second, jv xc, .second, jv yc, .second, iv sl, rv oP, jv xc, .second, jv yc, .second, .unset, .unset, .unset] [])) rfl (hb hby at_41) (by decide) (by decide)
      obtain ⟨oQ, g6⟩ : ∃ z, z = T3.heap.size := ⟨_, rfl⟩
      rw [← g6] at A6 D6 st6
      have g_oQ : n0 ≤ oQ := Nat.le_trans Zp3 (Nat.le_of_eq g6.symm)
      have ne_oP_oQ : oP ≠ oQ := Nat.ne_of_lt (Nat.lt_of_lt_of_le Eq3.lt (Nat.le_of_eq g6.symm))
      have f7 := f4.ext E6
      have f8 := Eq3.ext E6
      have f9 := Fq3_x.ext E6
      have f10 := Fq3_y.ext E6
      have F_x_oQ : Fld Z h6 oQ "com/example/rookery/rookery/drawing/GridPoint" "x" "J" (.long (0 : Int64)) := D6 (Or.inr (tw10 hw)) (ty := .long) (by decide)
      have F_y_oQ : Fld Z h6 oQ "com/example/rookery/rookery/drawing/GridPoint" "y" "J" (.long (0 : Int64)) := D6 (Or.inr (tw12 hw)) (ty := .long) (by decide)
      have Zp6 : n0 ≤ h6.size := Nat.le_trans Zp3 E6.1
      refine Wk.go (A' := T6.setTop (mkF m 44 #[jv xa, .second, jv ya, .second, jv xc, .second, jv yc, .second, iv sl, rv oP, jv xc, .second, jv yc, .second, .unset, .unset, .unset] [(.ref oQ)])) (fun t k => st6 t k) ?_
      refine Wk.go (A' := T6.setTop (mkF m 45 #[jv xa, .second, jv ya, .second, jv xc, .second, jv yc, .second, iv sl, rv oP, jv xc, .second, jv yc, .second, .unset, .unset, .unset] [(.ref oQ), (.ref oQ)])) (fun t k => XS.dup X6.here hx rfl (hb hby at_44) rfl rfl k) ?_
      refine Wk.go (A' := T6.setTop (mkF m 47 #[jv xa, .second, jv ya, .second, jv xc, .second, jv yc, .second, iv sl, rv oP, jv xc, .second, jv yc, .second, .unset, .unset, .unset] [(.long xc), (.ref oQ), (.ref oQ)])) (fun t k => XS.lload X6.here hx rfl (hb hby at_45) rfl k) ?_
      refine Wk.go (A' := T6.setTop (mkF m 49 #[jv xa, .second, jv ya, .second, jv xc, .second, jv yc, .second, iv sl, rv oP, jv xc, .second, jv yc, .second, .unset, .unset, .unset] [(.long yc), (.long xc), (.ref oQ), (.ref oQ)])) (fun t k => XS.lload X6.here hx rfl (hb hby at_47) rfl k) ?_
      obtain ⟨_, _, ⟨T11, L11, k11, n11⟩, -, X11, ⟨Lc11, hQ11, l11, y11, z11⟩, st11⟩ := X6.specialBack hx (y := (⟨"com/example/rookery/rookery/drawing/GridPoint", "<init>", "(JJ)V"⟩ : MethodName)) rfl hown (mvT hZ (tw3 hw)) (mvT hZ (tw4 hw)) (mvT hZ (tw5 hw)) (by decide) (backOf (W := 1) (rm1 l Z a0 hw [] oQ xc yc  h6 n0 Zp6 A6 F_x_oQ F_y_oQ g_oQ ) hZ (tw5 hw) (tw2 hw) (by decide) (by decide)) (g := (mkF m 49 #[jv xa, .second, jv ya, .second, jv xc, .second, jv yc, .second, iv sl, rv oP, jv xc, .second, jv yc, .second, .unset, .unset, .unset] [(.long yc), (.long xc), (.ref oQ), (.ref oQ)])) rfl (by rw [hml]; rfl) (Steps.refl _) (a := oQ) (argsL := [(.long xc), (.long yc)]) (rest := [(.ref oQ)]) (lenOf pd_3 rfl) rfl (by show 2 * 0 + _ ≤ _; exact Nat.le_of_eq rfl) (hb hby at_49) (fun _ _ => ⟨rfl, e6, (by decide : 2 + 0 ≤ _), (by decide : 4 + 0 ≤ _)⟩)
      dsimp only [Pt.U, Pt.locs, Pt.cells, Pt.slots] at X11 l11 y11 z11 st11 hQ11
      subst l11 y11 z11
      obtain ⟨rfl, N11q, Kq11, Eq11, Fq11_x, Fq11_y⟩ := hQ11
      have N11 := Fr.app N3 N11q
      have f12 := f7.keep Kq11 (allS g_oQ all0)
      have f13 := f8.keep Kq11
      have f14 := f9.keep Kq11 (ninS ne_oP_oQ nin0)
      have f15 := f10.keep Kq11 (ninS ne_oP_oQ nin0)
      have f16 := A6.keep Kq11
      have Zp11 : n0 ≤ T11.heap.size := Nat.le_trans Zp6 Kq11.1
      refine Wk.go (A' := T11.setTop (mkF m 52 #[jv xa, .second, jv ya, .second, jv xc, .second, jv yc, .second, iv sl, rv oP, jv xc, .second, jv yc, .second, .unset, .unset, .unset] [(.ref oQ)])) (fun t k => st11.trans k) ?_
      refine Wk.go (A' := T11.setTop (mkF m 54 #[jv xa, .second, jv ya, .second, jv xc, .second, jv yc, .second, iv sl, rv oP, jv xc, .second, jv yc, .second, rv oQ, .unset, .unset] [])) (fun t k => XS.astore X11.here hx rfl (hb hby at_52) rfl rfl (l' := #[jv xa, .second, jv ya, .second, jv xc, .second, jv yc, .second, iv sl, rv oP, jv xc, .second, jv yc, .second, rv oQ, .unset, .unset]) rfl k) ?_
      refine Wk.go (A' := T11.setTop (mkF m 56 #[jv xa, .second, jv ya, .second, jv xc, .second, jv yc, .second, iv sl, rv oP, jv xc, .second, jv yc, .second, rv oQ, .unset, .unset] [(.int sl)])) (fun t k => XS.iload X11.here hx rfl (hb hby at_54) rfl k) ?_
      refine Wk.go (A' := T11.setTop (mkF m 57 #[jv xa, .second, jv ya, .second, jv xc, .second, jv yc, .second, iv sl, rv oP, jv xc, .second, jv yc, .second, rv oQ, .unset, .unset] [(.int (2 : Int32)), (.int sl)])) (fun t k => XS.iconst X11.here hx rfl (hb hby at_56) k) ?_
      refine Wk.go (A' := T11.setTop (mkF m 58 #[jv xa, .second, jv ya, .second, jv xc, .second, jv yc, .second, iv sl, rv oP, jv xc, .second, jv yc, .second, rv oQ, .unset, .unset] [(.int ((sl.toUInt32 >>> ((2 : Int32) &&& 31).toUInt32).toInt32))])) (fun t k => XS.iushr X11.here hx rfl (hb hby at_57) rfl k) ?_
      refine Wk.go (A' := T11.setTop (mkF m 59 #[jv xa, .second, jv ya, .second, jv xc, .second, jv yc, .second, iv sl, rv oP, jv xc, .second, jv yc, .second, rv oQ, .unset, .unset] [(.int (3 : Int32)), (.int ((sl.toUInt32 >>> ((2 : Int32) &&& 31).toUInt32).toInt32))])) (fun t k => XS.iconst X11.here hx rfl (hb hby at_58) k) ?_
      refine Wk.go (A' := T11.setTop (mkF m 60 #[jv xa, .second, jv ya, .second, jv xc, .second, jv yc, .second, iv sl, rv oP, jv xc, .second, jv yc, .second, rv oQ, .unset, .unset] [(.int (((sl.toUInt32 >>> ((2 : Int32) &&& 31).toUInt32).toInt32) &&& (3 : Int32)))])) (fun t k => XS.iand X11.here hx rfl (hb hby at_59) rfl k) ?_
      refine Wk.go (A' := T11.setTop (mkF m 62 #[jv xa, .second, jv ya, .second, jv xc, .second, jv yc, .second, iv sl, rv oP, jv xc, .second, jv yc, .second, rv oQ, iv (((sl.toUInt32 >>> ((2 : Int32) &&& 31).toUInt32).toInt32) &&& (3 : Int32)), .unset] [])) (fun t k => XS.istore X11.here hx rfl (hb hby at_60) rfl (l' := #[jv xa, .second, jv ya, .second, jv xc, .second, jv yc, .second, iv sl, rv oP, jv xc, .second, jv yc, .second, rv oQ, iv (((sl.toUInt32 >>> ((2 : Int32) &&& 31).toUInt32).toInt32) &&& (3 : Int32)), .unset]) rfl k) ?_
      refine Wk.go (A' := T11.setTop (mkF m 64 #[jv xa, .second, jv ya, .second, jv xc, .second, jv yc, .second, iv sl, rv oP, jv xc, .second, jv yc, .second, rv oQ, iv (((sl.toUInt32 >>> ((2 : Int32) &&& 31).toUInt32).toInt32) &&& (3 : Int32)), .unset] [(.int (((sl.toUInt32 >>> ((2 : Int32) &&& 31).toUInt32).toInt32) &&& (3 : Int32)))])) (fun t k => XS.iload X11.here hx rfl (hb hby at_62) rfl k) ?_
      by_cases hc64 : (((sl.toUInt32 >>> ((2 : Int32) &&& 31).toUInt32).toInt32) &&& (3 : Int32)) = (0 : Int32)
      · refine Wk.go (A' := T11.setTop (mkF m 67 #[jv xa, .second, jv ya, .second, jv xc, .second, jv yc, .second, iv sl, rv oP, jv xc, .second, jv yc, .second, rv oQ, iv (((sl.toUInt32 >>> ((2 : Int32) &&& 31).toUInt32).toInt32) &&& (3 : Int32)), .unset] [])) (fun t k => XS.ifNo X11.here hx rfl (hb hby at_64) rfl ((if0 _ _).trans (teq hc64).2) k) ?_
        refine Wk.go (A' := T11.setTop (mkF m 69 #[jv xa, .second, jv ya, .second, jv xc, .second, jv yc, .second, iv sl, rv oP, jv xc, .second, jv yc, .second, rv oQ, iv (((sl.toUInt32 >>> ((2 : Int32) &&& 31).toUInt32).toInt32) &&& (3 : Int32)), .unset] [(.long xc)])) (fun t k => XS.lload X11.here hx rfl (hb hby at_67) rfl k) ?_
        refine Wk.go (A' := T11.setTop (mkF m 70 #[jv xa, .second, jv ya, .second, jv xc, .second, jv yc, .second, iv sl, rv oP, jv xc, .second, jv yc, .second, rv oQ, iv (((sl.toUInt32 >>> ((2 : Int32) &&& 31).toUInt32).toInt32) &&& (3 : Int32)), .unset] [(.long xa), (.long xc)])) (fun t k => XS.lloadN X11.here hx rfl (hb hby at_69) rfl k) ?_
        refine Wk.go (A' := T11.setTop (mkF m 71 #[jv xa, .second, jv ya, .second, jv xc, .second, jv yc, .second, iv sl, rv oP, jv xc, .second, jv yc, .second, rv oQ, iv (((sl.toUInt32 >>> ((2 : Int32) &&& 31).toUInt32).toInt32) &&& (3 : Int32)), .unset] [(.int (lcmpW xc xa))])) (fun t k => XS.lcmp X11.here hx rfl (hb hby at_70) rfl k) ?_
        by_cases hc71 : xc = xa
        · refine Wk.go (A' := T11.setTop (mkF m 74 #[jv xa, .second, jv ya, .second, jv xc, .second, jv yc, .second, iv sl, rv oP, jv xc, .second, jv yc, .second, rv oQ, iv (((sl.toUInt32 >>> ((2 : Int32) &&& 31).toUInt32).toInt32) &&& (3 : Int32)), .unset] [])) (fun t k => XS.ifNo X11.here hx rfl (hb hby at_71) rfl ((if0 _ _).trans (teq ((lw_eq _ _).mpr hc71)).2) k) ?_
          refine Wk.go (A' := T11.setTop (mkF m 76 #[jv xa, .second, jv ya, .second, jv xc, .second, jv yc, .second, iv sl, rv oP, jv xc, .second, jv yc, .second, rv oQ, iv (((sl.toUInt32 >>> ((2 : Int32) &&& 31).toUInt32).toInt32) &&& (3 : Int32)), .unset] [(.long yc)])) (fun t k => XS.lload X11.here hx rfl (hb hby at_74) rfl k) ?_
          refine Wk.go (A' := T11.setTop (mkF m 77 #[jv xa, .second, jv ya, .second, jv xc, .second, jv yc, .second, iv sl, rv oP, jv xc, .second, jv yc, .second, rv oQ, iv (((sl.toUInt32 >>> ((2 : Int32) &&& 31).toUInt32).toInt32) &&& (3 : Int32)), .unset] [(.long ya), (.long yc)])) (fun t k => XS.lloadN X11.here hx rfl (hb hby at_76) rfl k) ?_
          refine Wk.go (A' := T11.setTop (mkF m 78 #[jv xa, .second, jv ya, .second, jv xc, .second, jv yc, .second, iv sl, rv oP, jv xc, .second, jv yc, .second, rv oQ, iv (((sl.toUInt32 >>> ((2 : Int32) &&& 31).toUInt32).toInt32) &&& (3 : Int32)), .unset] [(.int (lcmpW yc ya))])) (fun t k => XS.lcmp X11.here hx rfl (hb hby at_77) rfl k) ?_
          by_cases hc78 : yc = ya
          · refine Wk.go (A' := T11.setTop (mkF m 81 #[jv xa, .second, jv ya, .second, jv xc, .second, jv yc, .second, iv sl, rv oP, jv xc, .second, jv yc, .second, rv oQ, iv (((sl.toUInt32 >>> ((2 : Int32) &&& 31).toUInt32).toInt32) &&& (3 : Int32)), .unset] [])) (fun t k => XS.ifNo X11.here hx rfl (hb hby at_78) rfl ((if0 _ _).trans (teq ((lw_eq _ _).mpr hc78)).2) k) ?_
            refine Wk.go (A' := T11.setTop (mkF m 82 #[jv xa, .second, jv ya, .second, jv xc, .second, jv yc, .second, iv sl, rv oP, jv xc, .second, jv yc, .second, rv oQ, iv (((sl.toUInt32 >>> ((2 : Int32) &&& 31).toUInt32).toInt32) &&& (3 : Int32)), .unset] [(.int (1 : Int32))])) (fun t k => XS.iconst X11.here hx rfl (hb hby at_81) k) ?_
            refine Wk.go (A' := T11.setTop (mkF m 86 #[jv xa, .second, jv ya, .second, jv xc, .second, jv yc, .second, iv sl, rv oP, jv xc, .second, jv yc, .second, rv oQ, iv (((sl.toUInt32 >>> ((2 : Int32) &&& 31).toUInt32).toInt32) &&& (3 : Int32)), .unset] [(.int (1 : Int32))])) (fun t k => XS.goto X11.here hx rfl (pc0 := 82) (pc' := 86) rfl (hb hby at_82) (by decide) (by decide) k) ?_
            refine Wk.go (A' := T11.setTop (mkF m 88 #[jv xa, .second, jv ya, .second, jv xc, .second, jv yc, .second, iv sl, rv oP, jv xc, .second, jv yc, .second, rv oQ, iv (((sl.toUInt32 >>> ((2 : Int32) &&& 31).toUInt32).toInt32) &&& (3 : Int32)), iv (1 : Int32)] [])) (fun t k => XS.istore X11.here hx rfl (hb hby at_86) rfl (l' := #[jv xa, .second, jv ya, .second, jv xc, .second, jv yc, .second, iv sl, rv oP, jv xc, .second, jv yc, .second, rv oQ, iv (((sl.toUInt32 >>> ((2 : Int32) &&& 31).toUInt32).toInt32) &&& (3 : Int32)), iv (1 : Int32)]) rfl k) ?_
            refine Wk.go (A' := T11.setTop (mkF m 90 #[jv xa, .second, jv ya, .second, jv xc, .second, jv yc, .second, iv sl, rv oP, jv xc, .second, jv yc, .second, rv oQ, iv (((sl.toUInt32 >>> ((2 : Int32) &&& 31).toUInt32).toInt32) &&& (3 : Int32)), iv (1 : Int32)] [(.ref oP)])) (fun t k => XS.aload X11.here hx rfl (hb hby at_88) rfl rfl k) ?_
            refine Wk.go (A' := T11.setTop (mkF m 92 #[jv xa, .second, jv ya, .second, jv xc, .second, jv yc, .second, iv sl, rv oP, jv xc, .second, jv yc, .second, rv oQ, iv (((sl.toUInt32 >>> ((2 : Int32) &&& 31).toUInt32).toInt32) &&& (3 : Int32)), iv (1 : Int32)] [(.ref oQ), (.ref oP)])) (fun t k => XS.aload X11.here hx rfl (hb hby at_90) rfl rfl k) ?_
            obtain ⟨cq17, kq17, q17a, q17b, q17c⟩ := isOf hZ rfl f13
            obtain ⟨_, _, ⟨T17, L17, k17, n17⟩, -, X17, ⟨Lc17, hQ17, l17, y17, z17⟩, st17⟩ := X11.virtualBack hx (y := (⟨"com/example/rookery/rookery/drawing/GridPoint", "equals", "(Ljava/lang/Object;)Z"⟩ : MethodName)) (z := (⟨"com/example/rookery/rookery/drawing/GridPoint", "equals", "(Ljava/lang/Object;)Z"⟩ : MethodName)) hown (mvT hZ (tw13 hw)) (mvT hZ (tw14 hw)) (notFace_of_selects (args := #[]) (mvT hZ (tw16 hw))) (mvT hZ (tw16 hw)) (mvT hZ (tw15 hw)) (by decide) (backOf (W := 0) (rm3 l Z a0 hw [] oP oQ xa ya xc yc T11.heap n0 Zp11 Eq11 f14 f15 Fq11_x Fq11_y) hZ (tw17 hw) (tw2 hw) (by decide) (by decide)) q17a q17c (g := (mkF m 92 #[jv xa, .second, jv ya, .second, jv xc, .second, jv yc, .second, iv sl, rv oP, jv xc, .second, jv yc, .second, rv oQ, iv (((sl.toUInt32 >>> ((2 : Int32) &&& 31).toUInt32).toInt32) &&& (3 : Int32)), iv (1 : Int32)] [(.ref oQ), (.ref oP)])) rfl (by rw [hml]; rfl) (Steps.refl _) (argsL := [(.ref oQ)]) (rest := []) (lenOf pd_4 rfl) rfl (by show 2 * 0 + _ ≤ _; exact Nat.le_of_eq rfl) (hb hby at_92) (fun _ _ => ⟨rfl, rfl, (by decide : 2 + 0 ≤ _), (by decide : 4 + 0 ≤ _)⟩)
            dsimp only [Pt.U, Pt.locs, Pt.cells, Pt.slots] at X17 l17 y17 z17 st17 hQ17
            subst l17 y17 z17
            obtain ⟨rfl, N17q, hE17⟩ := hQ17
            have N17 := Fr.app N11 N17q
            refine Wk.go (A' := T17.setTop (mkF m 95 #[jv xa, .second, jv ya, .second, jv xc, .second, jv yc, .second, iv sl, rv oP, jv xc, .second, jv yc, .second, rv oQ, iv (((sl.toUInt32 >>> ((2 : Int32) &&& 31).toUInt32).toInt32) &&& (3 : Int32)), iv (1 : Int32)] [(.int (f_eq oP oQ xa ya xc yc))])) (fun t k => st17.trans k) ?_
            refine Wk.go (A' := T17.setTop (mkF m 97 #[jv xa, .second, jv ya, .second, jv xc, .second, jv yc, .second, iv sl, rv oP, jv xc, .second, jv yc, .second, rv oQ, iv (((sl.toUInt32 >>> ((2 : Int32) &&& 31).toUInt32).toInt32) &&& (3 : Int32)), iv (1 : Int32)] [(.int (1 : Int32)), (.int (f_eq oP oQ xa ya xc yc))])) (fun t k => XS.iload X17.here hx rfl (hb hby at_95) rfl k) ?_
            have hc97 : (f_eq oP oQ xa ya xc yc) = (1 : Int32) := by rw [own_eq, if_pos hc71.symm, if_pos hc78.symm]
            refine Wk.go (A' := T17.setTop (mkF m 100 #[jv xa, .second, jv ya, .second, jv xc, .second, jv yc, .second, iv sl, rv oP, jv xc, .second, jv yc, .second, rv oQ, iv (((sl.toUInt32 >>> ((2 : Int32) &&& 31).toUInt32).toInt32) &&& (3 : Int32)), iv (1 : Int32)] [])) (fun t k => XS.icmpNo X17.here hx rfl (hb hby at_97) rfl (teq hc97).2 k) ?_
            refine Wk.go (A' := T17.setTop (mkF m 102 #[jv xa, .second, jv ya, .second, jv xc, .second, jv yc, .second, iv sl, rv oP, jv xc, .second, jv yc, .second, rv oQ, iv (((sl.toUInt32 >>> ((2 : Int32) &&& 31).toUInt32).toInt32) &&& (3 : Int32)), iv (1 : Int32)] [(.ref oQ)])) (fun t k => XS.aload X17.here hx rfl (hb hby at_100) rfl rfl k) ?_
            refine Wk.go (A' := T17.setTop (mkF m 104 #[jv xa, .second, jv ya, .second, jv xc, .second, jv yc, .second, iv sl, rv oP, jv xc, .second, jv yc, .second, rv oQ, iv (((sl.toUInt32 >>> ((2 : Int32) &&& 31).toUInt32).toInt32) &&& (3 : Int32)), iv (1 : Int32)] [(.ref oP), (.ref oQ)])) (fun t k => XS.aload X17.here hx rfl (hb hby at_102) rfl rfl k) ?_
            obtain ⟨cq18, kq18, q18a, q18b, q18c⟩ := isOf hZ (hE17) Eq11
            obtain ⟨_, _, ⟨T18, L18, k18, n18⟩, -, X18, ⟨Lc18, hQ18, l18, y18, z18⟩, st18⟩ := X17.virtualBack hx (y := (⟨"com/example/rookery/rookery/drawing/GridPoint", "equals", "(Ljava/lang/Object;)Z"⟩ : MethodName)) (z := (⟨"com/example/rookery/rookery/drawing/GridPoint", "equals", "(Ljava/lang/Object;)Z"⟩ : MethodName)) hown (mvT hZ (tw13 hw)) (mvT hZ (tw14 hw)) (notFace_of_selects (args := #[]) (mvT hZ (tw16 hw))) (mvT hZ (tw16 hw)) (mvT hZ (tw15 hw)) (by decide) (backOf (W := 0) (rm3 l Z a0 hw [] oQ oP xc yc xa ya T11.heap n0 Zp11 f13 Fq11_x Fq11_y f14 f15) hZ (tw17 hw) (tw2 hw) (by decide) (by decide)) q18a q18c (g := (mkF m 104 #[jv xa, .second, jv ya, .second, jv xc, .second, jv yc, .second, iv sl, rv oP, jv xc, .second, jv yc, .second, rv oQ, iv (((sl.toUInt32 >>> ((2 : Int32) &&& 31).toUInt32).toInt32) &&& (3 : Int32)), iv (1 : Int32)] [(.ref oP), (.ref oQ)])) rfl (by rw [hml]; rfl) (Steps.refl _) (argsL := [(.ref oP)]) (rest := []) (lenOf pd_4 rfl) rfl (by show 2 * 0 + _ ≤ _; exact Nat.le_of_eq rfl) (hb hby at_104) (fun _ _ => ⟨rfl, (hE17), (by decide : 2 + 0 ≤ _), (by decide : 4 + 0 ≤ _)⟩)
            dsimp only [Pt.U, Pt.locs, Pt.cells, Pt.slots] at X18 l18 y18 z18 st18 hQ18
            subst l18 y18 z18
            obtain ⟨rfl, N18q, hE18⟩ := hQ18
            have N18 := Fr.app N17 N18q
            refine Wk.go (A' := T18.setTop (mkF m 107 #[jv xa, .second, jv ya, .second, jv xc, .second, jv yc, .second, iv sl, rv oP, jv xc, .second, jv yc, .second, rv oQ, iv (((sl.toUInt32 >>> ((2 : Int32) &&& 31).toUInt32).toInt32) &&& (3 : Int32)), iv (1 : Int32)] [(.int (f_eq oQ oP xc yc xa ya))])) (fun t k => st18.trans k) ?_
            refine Wk.go (A' := T18.setTop (mkF m 109 #[jv xa, .second, jv ya, .second, jv xc, .second, jv yc, .second, iv sl, rv oP, jv xc, .second, jv yc, .second, rv oQ, iv (((sl.toUInt32 >>> ((2 : Int32) &&& 31).toUInt32).toInt32) &&& (3 : Int32)), iv (1 : Int32)] [(.int (1 : Int32)), (.int (f_eq oQ oP xc yc xa ya))])) (fun t k => XS.iload X18.here hx rfl (hb hby at_107) rfl k) ?_
            have hc109 : (f_eq oQ oP xc yc xa ya) = (1 : Int32) := by rw [own_eq, if_pos hc71, if_pos hc78]
            refine Wk.go (A' := T18.setTop (mkF m 112 #[jv xa, .second, jv ya, .second, jv xc, .second, jv yc, .second, iv sl, rv oP, jv xc, .second, jv yc, .second, rv oQ, iv (((sl.toUInt32 >>> ((2 : Int32) &&& 31).toUInt32).toInt32) &&& (3 : Int32)), iv (1 : Int32)] [])) (fun t k => XS.icmpNo X18.here hx rfl (hb hby at_109) rfl (teq hc109).2 k) ?_
            refine Wk.go (A' := T18.setTop (mkF m 113 #[jv xa, .second, jv ya, .second, jv xc, .second, jv yc, .second, iv sl, rv oP, jv xc, .second, jv yc, .second, rv oQ, iv (((sl.toUInt32 >>> ((2 : Int32) &&& 31).toUInt32).toInt32) &&& (3 : Int32)), iv (1 : Int32)] [(.int (1 : Int32))])) (fun t k => XS.iconst X18.here hx rfl (hb hby at_112) k) ?_
            refine Wk.go (A' := T18.setTop (mkF m 117 #[jv xa, .second, jv ya, .second, jv xc, .second, jv yc, .second, iv sl, rv oP, jv xc, .second, jv yc, .second, rv oQ, iv (((sl.toUInt32 >>> ((2 : Int32) &&& 31).toUInt32).toInt32) &&& (3 : Int32)), iv (1 : Int32)] [(.int (1 : Int32))])) (fun t k => XS.goto X18.here hx rfl (pc0 := 113) (pc' := 117) rfl (hb hby at_113) (by decide) (by decide) k) ?_
            refine own_fin (Qv := Q0 Z xa ya xc yc sl wcs h0 n0) (v := some (.int (1 : Int32))) X18 hlk (fun h => by rw [Bd.returns] at h; cases h) (fun fs hr => retN X18 hx (t := .boolean) Bd.returns (by simp) (hb hby at_117) hr) ?_ (by decide) (by decide)
            exact ⟨rfl, N18⟩
          · refine Wk.go (A' := T11.setTop (mkF m 85 #[jv xa, .second, jv ya, .second, jv xc, .second, jv yc, .second, iv sl, rv oP, jv xc, .second, jv yc, .second, rv oQ, iv (((sl.toUInt32 >>> ((2 : Int32) &&& 31).toUInt32).toInt32) &&& (3 : Int32)), .unset] [])) (fun t k => XS.ifYes X11.here hx rfl (pc0 := 78) (pc' := 85) rfl (hb hby at_78) rfl ((if0 _ _).trans (feq (mt (lw_eq _ _).mp hc78)).2) (by decide) (by decide) k) ?_
            refine Wk.go (A' := T11.setTop (mkF m 86 #[jv xa, .second, jv ya, .second, jv xc, .second, jv yc, .second, iv sl, rv oP, jv xc, .second, jv yc, .second, rv oQ, iv (((sl.toUInt32 >>> ((2 : Int32) &&& 31).toUInt32).toInt32) &&& (3 : Int32)), .unset] [(.int (0 : Int32))])) (fun t k => XS.iconst X11.here hx rfl (hb hby at_85) k) ?_
            refine Wk.go (A' := T11.setTop (mkF m 88 #[jv xa, .second, jv ya, .second, jv xc, .second, jv yc, .second, iv sl, rv oP, jv xc, .second, jv yc, .second, rv oQ, iv (((sl.toUInt32 >>> ((2 : Int32) &&& 31).toUInt32).toInt32) &&& (3 : Int32)), iv (0 : Int32)] [])) (fun t k => XS.istore X11.here hx rfl (hb hby at_86) rfl (l' := #[jv xa, .second, jv ya, .second, jv xc, .second, jv yc, .second, iv sl, rv oP, jv xc, .second, jv yc, .second, rv oQ, iv (((sl.toUInt32 >>> ((2 : Int32) &&& 31).toUInt32).toInt32) &&& (3 : Int32)), iv (0 : Int32)]) rfl k) ?_
            refine Wk.go (A' := T11.setTop (mkF m 90 #[jv xa, .second, jv ya, .second, jv xc, .second, jv yc, .second, iv sl, rv oP, jv xc, .second, jv yc, .second, rv oQ, iv (((sl.toUInt32 >>> ((2 : Int32) &&& 31).toUInt32).toInt32) &&& (3 : Int32)), iv (0 : Int32)] [(.ref oP)])) (fun t k => XS.aload X11.here hx rfl (hb hby at_88) rfl rfl k) ?_
            refine Wk.go (A' := T11.setTop (mkF m 92 #[jv xa, .second, jv ya, .second, jv xc, .second, jv yc, .second, iv sl, rv oP, jv xc, .second, jv yc, .second, rv oQ, iv (((sl.toUInt32 >>> ((2 : Int32) &&& 31).toUInt32).toInt32) &&& (3 : Int32)), iv (0 : Int32)] [(.ref oQ), (.ref oP)])) (fun t k => XS.aload X11.here hx rfl (hb hby at_90) rfl rfl k) ?_
            obtain ⟨cq19, kq19, q19a, q19b, q19c⟩ := isOf hZ rfl f13
            obtain ⟨_, _, ⟨T19, L19, k19, n19⟩, -, X19, ⟨Lc19, hQ19, l19, y19, z19⟩, st19⟩ := X11.virtualBack hx (y := (⟨"com/example/rookery/rookery/drawing/GridPoint", "equals", "(Ljava/lang/Object;)Z"⟩ : MethodName)) (z := (⟨"com/example/rookery/rookery/drawing/GridPoint", "equals", "(Ljava/lang/Object;)Z"⟩ : MethodName)) hown (mvT hZ (tw13 hw)) (mvT hZ (tw14 hw)) (notFace_of_selects (args := #[]) (mvT hZ (tw16 hw))) (mvT hZ (tw16 hw)) (mvT hZ (tw15 hw)) (by decide) (backOf (W := 0) (rm3 l Z a0 hw [] oP oQ xa ya xc yc T11.heap n0 Zp11 Eq11 f14 f15 Fq11_x Fq11_y) hZ (tw17 hw) (tw2 hw) (by decide) (by decide)) q19a q19c (g := (mkF m 92 #[jv xa, .second, jv ya, .second, jv xc, .second, jv yc, .second, iv sl, rv oP, jv xc, .second, jv yc, .second, rv oQ, iv (((sl.toUInt32 >>> ((2 : Int32) &&& 31).toUInt32).toInt32) &&& (3 : Int32)), iv (0 : Int32)] [(.ref oQ), (.ref oP)])) rfl (by rw [hml]; rfl) (Steps.refl _) (argsL := [(.ref oQ)]) (rest := []) (lenOf pd_4 rfl) rfl (by show 2 * 0 + _ ≤ _; exact Nat.le_of_eq rfl) (hb hby at_92) (fun _ _ => ⟨rfl, rfl, (by decide : 2 + 0 ≤ _), (by decide : 4 + 0 ≤ _)⟩)
            dsimp only [Pt.U, Pt.locs, Pt.cells, Pt.slots] at X19 l19 y19 z19 st19 hQ19
            subst l19 y19 z19
            obtain ⟨rfl, N19q, hE19⟩ := hQ19
            have N19 := Fr.app N11 N19q
            refine Wk.go (A' := T19.setTop (mkF m 95 #[jv xa, .second, jv ya, .second, jv xc, .second, jv yc, .second, iv sl, rv oP, jv xc, .second, jv yc, .second, rv oQ, iv (((sl.toUInt32 >>> ((2 : Int32) &&& 31).toUInt32).toInt32) &&& (3 : Int32)), iv (0 : Int32)] [(.int (f_eq oP oQ xa ya xc yc))])) (fun t k => st19.trans k) ?_
            refine Wk.go (A' := T19.setTop (mkF m 97 #[jv xa, .second, jv ya, .second, jv xc, .second, jv yc, .second, iv sl, rv oP, jv xc, .second, jv yc, .second, rv oQ, iv (((sl.toUInt32 >>> ((2 : Int32) &&& 31).toUInt32).toInt32) &&& (3 : Int32)), iv (0 : Int32)] [(.int (0 : Int32)), (.int (f_eq oP oQ xa ya xc yc))])) (fun t k => XS.iload X19.here hx rfl (hb hby at_95) rfl k) ?_
            have hc97 : (f_eq oP oQ xa ya xc yc) = (0 : Int32) := by rw [own_eq, if_pos hc71.symm, if_neg (Ne.symm hc78)]
            refine Wk.go (A' := T19.setTop (mkF m 100 #[jv xa, .second, jv ya, .second, jv xc, .second, jv yc, .second, iv sl, rv oP, jv xc, .second, jv yc, .second, rv oQ, iv (((sl.toUInt32 >>> ((2 : Int32) &&& 31).toUInt32).toInt32) &&& (3 : Int32)), iv (0 : Int32)] [])) (fun t k => XS.icmpNo X19.here hx rfl (hb hby at_97) rfl (teq hc97).2 k) ?_
            refine Wk.go (A' := T19.setTop (mkF m 102 #[jv xa, .second, jv ya, .second, jv xc, .second, jv yc, .second, iv sl, rv oP, jv xc, .second, jv yc, .second, rv oQ, iv (((sl.toUInt32 >>> ((2 : Int32) &&& 31).toUInt32).toInt32) &&& (3 : Int32)), iv (0 : Int32)] [(.ref oQ)])) (fun t k => XS.aload X19.here hx rfl (hb hby at_100) rfl rfl k) ?_
            refine Wk.go (A' := T19.setTop (mkF m 104 #[jv xa, .second, jv ya, .second, jv xc, .second, jv yc, .second, iv sl, rv oP, jv xc, .second, jv yc, .second, rv oQ, iv (((sl.toUInt32 >>> ((2 : Int32) &&& 31).toUInt32).toInt32) &&& (3 : Int32)), iv (0 : Int32)] [(.ref oP), (.ref oQ)])) (fun t k => XS.aload X19.here hx rfl (hb hby at_102) rfl rfl k) ?_
            obtain ⟨cq20, kq20, q20a, q20b, q20c⟩ := isOf hZ (hE19) Eq11
            obtain ⟨_, _, ⟨T20, L20, k20, n20⟩, -, X20, ⟨Lc20, hQ20, l20, y20, z20⟩, st20⟩ := X19.virtualBack hx (y := (⟨"com/example/rookery/rookery/drawing/GridPoint", "equals", "(Ljava/lang/Object;)Z"⟩ : MethodName)) (z := (⟨"com/example/rookery/rookery/drawing/GridPoint", "equals", "(Ljava/lang/Object;)Z"⟩ : MethodName)) hown (mvT hZ (tw13 hw)) (mvT hZ (tw14 hw)) (notFace_of_selects (args := #[]) (mvT hZ (tw16 hw))) (mvT hZ (tw16 hw)) (mvT hZ (tw15 hw)) (by decide) (backOf (W := 0) (rm3 l Z a0 hw [] oQ oP xc yc xa ya T11.heap n0 Zp11 f13 Fq11_x Fq11_y f14 f15) hZ (tw17 hw) (tw2 hw) (by decide) (by decide)) q20a q20c (g := (mkF m 104 #[jv xa, .second, jv ya, .second, jv xc, .second, jv yc, .second, iv sl, rv oP, jv xc, .second, jv yc, .second, rv oQ, iv (((sl.toUInt32 >>> ((2 : Int32) &&& 31).toUInt32).toInt32) &&& (3 : Int32)), iv (0 : Int32)] [(.ref oP), (.ref oQ)])) rfl (by rw [hml]; rfl) (Steps.refl _) (argsL := [(.ref oP)]) (rest := []) (lenOf pd_4 rfl) rfl (by show 2 * 0 + _ ≤ _; exact Nat.le_of_eq rfl) (hb hby at_104) (fun _ _ => ⟨rfl, (hE19), (by decide : 2 + 0 ≤ _), (by decide : 4 + 0 ≤ _)⟩)
            dsimp only [Pt.U, Pt.locs, Pt.cells, Pt.slots] at X20 l20 y20 z20 st20 hQ20
            subst l20 y20 z20
            obtain ⟨rfl, N20q, hE20⟩ := hQ20
            have N20 := Fr.app N19 N20q
            refine Wk.go (A' := T20.setTop (mkF m 107 #[jv xa, .second, jv ya, .second, jv xc, .second, jv yc, .second, iv sl, rv oP, jv xc, .second, jv yc, .second, rv oQ, iv (((sl.toUInt32 >>> ((2 : Int32) &&& 31).toUInt32).toInt32) &&& (3 : Int32)), iv (0 : Int32)] [(.int (f_eq oQ oP xc yc xa ya))])) (fun t k => st20.trans k) ?_
            refine Wk.go (A' := T20.setTop (mkF m 109 #[jv xa, .second, jv ya, .second, jv xc, .second, jv yc, .second, iv sl, rv oP, jv xc, .second, jv yc, .second, rv oQ, iv (((sl.toUInt32 >>> ((2 : Int32) &&& 31).toUInt32).toInt32) &&& (3 : Int32)), iv (0 : Int32)] [(.int (0 : Int32)), (.int (f_eq oQ oP xc yc xa ya))])) (fun t k => XS.iload X20.here hx rfl (hb hby at_107) rfl k) ?_
            have hc109 : (f_eq oQ oP xc yc xa ya) = (0 : Int32) := by rw [own_eq, if_pos hc71, if_neg hc78]
            refine Wk.go (A' := T20.setTop (mkF m 112 #[jv xa, .second, jv ya, .second, jv xc, .second, jv yc, .second, iv sl, rv oP, jv xc, .second, jv yc, .second, rv oQ, iv (((sl.toUInt32 >>> ((2 : Int32) &&& 31).toUInt32).toInt32) &&& (3 : Int32)), iv (0 : Int32)] [])) (fun t k => XS.icmpNo X20.here hx rfl (hb hby at_109) rfl (teq hc109).2 k) ?_
            refine Wk.go (A' := T20.setTop (mkF m 113 #[jv xa, .second, jv ya, .second, jv xc, .second, jv yc, .second, iv sl, rv oP, jv xc, .second, jv yc, .second, rv oQ, iv (((sl.toUInt32 >>> ((2 : Int32) &&& 31).toUInt32).toInt32) &&& (3 : Int32)), iv (0 : Int32)] [(.int (1 : Int32))])) (fun t k => XS.iconst X20.here hx rfl (hb hby at_112) k) ?_
            refine Wk.go (A' := T20.setTop (mkF m 117 #[jv xa, .second, jv ya, .second, jv xc, .second, jv yc, .second, iv sl, rv oP, jv xc, .second, jv yc, .second, rv oQ, iv (((sl.toUInt32 >>> ((2 : Int32) &&& 31).toUInt32).toInt32) &&& (3 : Int32)), iv (0 : Int32)] [(.int (1 : Int32))])) (fun t k => XS.goto X20.here hx rfl (pc0 := 113) (pc' := 117) rfl (hb hby at_113) (by decide) (by decide) k) ?_
            refine own_fin (Qv := Q0 Z xa ya xc yc sl wcs h0 n0) (v := some (.int (1 : Int32))) X20 hlk (fun h => by rw [Bd.returns] at h; cases h) (fun fs hr => retN X20 hx (t := .boolean) Bd.returns (by simp) (hb hby at_117) hr) ?_ (by decide) (by decide)
            exact ⟨rfl, N20⟩
        · refine Wk.go (A' := T11.setTop (mkF m 85 #[jv xa, .second, jv ya, .second, jv xc, .second, jv yc, .second, iv sl, rv oP, jv xc, .second, jv yc, .second, rv oQ, iv (((sl.toUInt32 >>> ((2 : Int32) &&& 31).toUInt32).toInt32) &&& (3 : Int32)), .unset] [])) (fun t k => XS.ifYes X11.here hx rfl (pc0 := 71) (pc' := 85) rfl (hb hby at_71) rfl ((if0 _ _).trans (feq (mt (lw_eq _ _).mp hc71)).2) (by decide) (by decide) k) ?_
          refine Wk.go (A' := T11.setTop (mkF m 86 #[jv xa, .second, jv ya, .second, jv xc, .second, jv yc, .second, iv sl, rv oP, jv xc, .second, jv yc, .second, rv oQ, iv (((sl.toUInt32 >>> ((2 : Int32) &&& 31).toUInt32).toInt32) &&& (3 : Int32)), .unset] [(.int (0 : Int32))])) (fun t k => XS.iconst X11.here hx rfl (hb hby at_85) k) ?_
          refine Wk.go (A' := T11.setTop (mkF m 88 #[jv xa, .second, jv ya, .second, jv xc, .second, jv yc, .second, iv sl, rv oP, jv xc, .second, jv yc, .second, rv oQ, iv (((sl.toUInt32 >>> ((2 : Int32) &&& 31).toUInt32).toInt32) &&& (3 : Int32)), iv (0 : Int32)] [])) (fun t k => XS.istore X11.here hx rfl (hb hby at_86) rfl (l' := #[jv xa, .second, jv ya, .second, jv xc, .second, jv yc, .second, iv sl, rv oP, jv xc, .second, jv yc, .second, rv oQ, iv (((sl.toUInt32 >>> ((2 : Int32) &&& 31).toUInt32).toInt32) &&& (3 : Int32)), iv (0 : Int32)]) rfl k) ?_
          refine Wk.go (A' := T11.setTop (mkF m 90 #[jv xa, .second, jv ya, .second, jv xc, .second, jv yc, .second, iv sl, rv oP, jv xc, .second, jv yc, .second, rv oQ, iv (((sl.toUInt32 >>> ((2 : Int32) &&& 31).toUInt32).toInt32) &&& (3 : Int32)), iv (0 : Int32)] [(.ref oP)])) (fun t k => XS.aload X11.here hx rfl (hb hby at_88) rfl rfl k) ?_
          refine Wk.go (A' := T11.setTop (mkF m 92 #[jv xa, .second, jv ya, .second, jv xc, .second, jv yc, .second, iv sl, rv oP, jv xc, .second, jv yc, .second, rv oQ, iv (((sl.toUInt32 >>> ((2 : Int32) &&& 31).toUInt32).toInt32) &&& (3 : Int32)), iv (0 : Int32)] [(.ref oQ), (.ref oP)])) (fun t k => XS.aload X11.here hx rfl (hb hby at_90) rfl rfl k) ?_
          obtain ⟨cq21, kq21, q21a, q21b, q21c⟩ := isOf hZ rfl f13
          obtain ⟨_, _, ⟨T21, L21, k21, n21⟩, -, X21, ⟨Lc21, hQ21, l21, y21, z21⟩, st21⟩ := X11.virtualBack hx (y := (⟨"com/example/rookery/rookery/drawing/GridPoint", "equals", "(Ljava/lang/Object;)Z"⟩ : MethodName)) (z := (⟨"com/example/rookery/rookery/drawing/GridPoint", "equals", "(Ljava/lang/Object;)Z"⟩ : MethodName)) hown (mvT hZ (tw13 hw)) (mvT hZ (tw14 hw)) (notFace_of_selects (args := #[]) (mvT hZ (tw16 hw))) (mvT hZ (tw16 hw)) (mvT hZ (tw15 hw)) (by decide) (backOf (W := 0) (rm3 l Z a0 hw [] oP oQ xa ya xc yc T11.heap n0 Zp11 Eq11 f14 f15 Fq11_x Fq11_y) hZ (tw17 hw) (tw2 hw) (by decide) (by decide)) q21a q21c (g := (mkF m 92 #[jv xa, .second, jv ya, .second, jv xc, .second, jv yc, .second, iv sl, rv oP, jv xc, .second, jv yc, .second, rv oQ, iv (((sl.toUInt32 >>> ((2 : Int32) &&& 31).toUInt32).toInt32) &&& (3 : Int32)), iv (0 : Int32)] [(.ref oQ), (.ref oP)])) rfl (by rw [hml]; rfl) (Steps.refl _) (argsL := [(.ref oQ)]) (rest := []) (lenOf pd_4 rfl) rfl (by show 2 * 0 + _ ≤ _; exact Nat.le_of_eq rfl) (hb hby at_92) (fun _ _ => ⟨rfl, rfl, (by decide : 2 + 0 ≤ _), (by decide : 4 + 0 ≤ _)⟩)
          dsimp only [Pt.U, Pt.locs, Pt.cells, Pt.slots] at X21 l21 y21 z21 st21 hQ21
          subst l21 y21 z21
          obtain ⟨rfl, N21q, hE21⟩ := hQ21
          have N21 := Fr.app N11 N21q
          refine Wk.go (A' := T21.setTop (mkF m 95 #[jv xa, .second, jv ya, .second, jv xc, .second, jv yc, .second, iv sl, rv oP, jv xc, .second, jv yc, .second, rv oQ, iv (((sl.toUInt32 >>> ((2 : Int32) &&& 31).toUInt32).toInt32) &&& (3 : Int32)), iv (0 : Int32)] [(.int (f_eq oP oQ xa ya xc yc))])) (fun t k => st21.trans k) ?_
          refine Wk.go (A' := T21.setTop (mkF m 97 #[jv xa, .second, jv ya, .second, jv xc, .second, jv yc, .second, iv sl, rv oP, jv xc, .second, jv yc, .second, rv oQ, iv (((sl.toUInt32 >>> ((2 : Int32) &&& 31).toUInt32).toInt32) &&& (3 : Int32)), iv (0 : Int32)] [(.int (0 : Int32)), (.int (f_eq oP oQ xa ya xc yc))])) (fun t k => XS.iload X21.here hx rfl (hb hby at_95) rfl k) ?_
          have hc97 : (f_eq oP oQ xa ya xc yc) = (0 : Int32) := by rw [own_eq, if_neg (Ne.symm hc71)]
          refine Wk.go (A' := T21.setTop (mkF m 100 #[jv xa, .second, jv ya, .second, jv xc, .second, jv yc, .second, iv sl, rv oP, jv xc, .second, jv yc, .second, rv oQ, iv (((sl.toUInt32 >>> ((2 : Int32) &&& 31).toUInt32).toInt32) &&& (3 : Int32)), iv (0 : Int32)] [])) (fun t k => XS.icmpNo X21.here hx rfl (hb hby at_97) rfl (teq hc97).2 k) ?_
          refine Wk.go (A' := T21.setTop (mkF m 102 #[jv xa, .second, jv ya, .second, jv xc, .second, jv yc, .second, iv sl, rv oP, jv xc, .second, jv yc, .second, rv oQ, iv (((sl.toUInt32 >>> ((2 : Int32) &&& 31).toUInt32).toInt32) &&& (3 : Int32)), iv (0 : Int32)] [(.ref oQ)])) (fun t k => XS.aload X21.here hx rfl (hb hby at_100) rfl rfl k) ?_
          refine Wk.go (A' := T21.setTop (mkF m 104 #[jv xa, .second, jv ya, .second, jv xc, .second, jv yc, .second, iv sl, rv oP, jv xc, .second, jv yc, .second, rv oQ, iv (((sl.toUInt32 >>> ((2 : Int32) &&& 31).toUInt32).toInt32) &&& (3 : Int32)), iv (0 : Int32)] [(.ref oP), (.ref oQ)])) (fun t k => XS.aload X21.here hx rfl (hb hby at_102) rfl rfl k) ?_
          obtain ⟨cq22, kq22, q22a, q22b, q22c⟩ := isOf hZ (hE21) Eq11
          obtain ⟨_, _, ⟨T22, L22, k22, n22⟩, -, X22, ⟨Lc22, hQ22, l22, y22, z22⟩, st22⟩ := X21.virtualBack hx (y := (⟨"com/example/rookery/rookery/drawing/GridPoint", "equals", "(Ljava/lang/Object;)Z"⟩ : MethodName)) (z := (⟨"com/example/rookery/rookery/drawing/GridPoint", "equals", "(Ljava/lang/Object;)Z"⟩ : MethodName)) hown (mvT hZ (tw13 hw)) (mvT hZ (tw14 hw)) (notFace_of_selects (args := #[]) (mvT hZ (tw16 hw))) (mvT hZ (tw16 hw)) (mvT hZ (tw15 hw)) (by decide) (backOf (W := 0) (rm3 l Z a0 hw [] oQ oP xc yc xa ya T11.heap n0 Zp11 f13 Fq11_x Fq11_y f14 f15) hZ (tw17 hw) (tw2 hw) (by decide) (by decide)) q22a q22c (g := (mkF m 104 #[jv xa, .second, jv ya, .second, jv xc, .second, jv yc, .second, iv sl, rv oP, jv xc, .second, jv yc, .second, rv oQ, iv (((sl.toUInt32 >>> ((2 : Int32) &&& 31).toUInt32).toInt32) &&& (3 : Int32)), iv (0 : Int32)] [(.ref oP), (.ref oQ)])) rfl (by rw [hml]; rfl) (Steps.refl _) (argsL := [(.ref oP)]) (rest := []) (lenOf pd_4 rfl) rfl (by show 2 * 0 + _ ≤ _; exact Nat.le_of_eq rfl) (hb hby at_104) (fun _ _ => ⟨rfl, (hE21), (by decide : 2 + 0 ≤ _), (by decide : 4 + 0 ≤ _)⟩)
          dsimp only [Pt.U, Pt.locs, Pt.cells, Pt.slots] at X22 l22 y22 z22 st22 hQ22
          subst l22 y22 z22
          obtain ⟨rfl, N22q, hE22⟩ := hQ22
          have N22 := Fr.app N21 N22q
          refine Wk.go (A' := T22.setTop (mkF m 107 #[jv xa, .second, jv ya, .second, jv xc, .second, jv yc, .second, iv sl, rv oP, jv xc, .second, jv yc, .second, rv oQ, iv (((sl.toUInt32 >>> ((2 : Int32) &&& 31).toUInt32).toInt32) &&& (3 : Int32)), iv (0 : Int32)] [(.int (f_eq oQ oP xc yc xa ya))])) (fun t k => st22.trans k) ?_
          refine Wk.go (A' := T22.setTop (mkF m 109 #[jv xa, .second, jv ya, .second, jv xc, .second, jv yc, .second, iv sl, rv oP, jv xc, .second, jv yc, .second, rv oQ, iv (((sl.toUInt32 >>> ((2 : Int32) &&& 31).toUInt32).toInt32) &&& (3 : Int32)), iv (0 : Int32)] [(.int (0 : Int32)), (.int (f_eq oQ oP xc yc xa ya))])) (fun t k => XS.iload X22.here hx rfl (hb hby at_107) rfl k) ?_
          have hc109 : (f_eq oQ oP xc yc xa ya) = (0 : Int32) := by rw [own_eq, if_neg hc71]
          refine Wk.go (A' := T22.setTop (mkF m 112 #[jv xa, .second, jv ya, .second, jv xc, .second, jv yc, .second, iv sl, rv oP, jv xc, .second, jv yc, .second, rv oQ, iv (((sl.toUInt32 >>> ((2 : Int32) &&& 31).toUInt32).toInt32) &&& (3 : Int32)), iv (0 : Int32)] [])) (fun t k => XS.icmpNo X22.here hx rfl (hb hby at_109) rfl (teq hc109).2 k) ?_
          refine Wk.go (A' := T22.setTop (mkF m 113 #[jv xa, .second, jv ya, .second, jv xc, .second, jv yc, .second, iv sl, rv oP, jv xc, .second, jv yc, .second, rv oQ, iv (((sl.toUInt32 >>> ((2 : Int32) &&& 31).toUInt32).toInt32) &&& (3 : Int32)), iv (0 : Int32)] [(.int (1 : Int32))])) (fun t k => XS.iconst X22.here hx rfl (hb hby at_112) k) ?_
          refine Wk.go (A' := T22.setTop (mkF m 117 #[jv xa, .second, jv ya, .second, jv xc, .second, jv yc, .second, iv sl, rv oP, jv xc, .second, jv yc, .second, rv oQ, iv (((sl.toUInt32 >>> ((2 : Int32) &&& 31).toUInt32).toInt32) &&& (3 : Int32)), iv (0 : Int32)] [(.int (1 : Int32))])) (fun t k => XS.goto X22.here hx rfl (pc0 := 113) (pc' := 117) rfl (hb hby at_113) (by decide) (by decide) k) ?_
          refine own_fin (Qv := Q0 Z xa ya xc yc sl wcs h0 n0) (v := some (.int (1 : Int32))) X22 hlk (fun h => by rw [Bd.returns] at h; cases h) (fun fs hr => retN X22 hx (t := .boolean) Bd.returns (by simp) (hb hby at_117) hr) ?_ (by decide) (by decide)
          exact ⟨rfl, N22⟩
      · refine Wk.go (A' := T11.setTop (mkF m 118 #[jv xa, .second, jv ya, .second, jv xc, .second, jv yc, .second, iv sl, rv oP, jv xc, .second, jv yc, .second, rv oQ, iv (((sl.toUInt32 >>> ((2 : Int32) &&& 31).toUInt32).toInt32) &&& (3 : Int32)), .unset] [])) (fun t k => XS.ifYes X11.here hx rfl (pc0 := 64) (pc' := 118) rfl (hb hby at_64) rfl ((if0 _ _).trans (feq hc64).2) (by decide) (by decide) k) ?_
        refine Wk.go (A' := T11.setTop (mkF m 120 #[jv xa, .second, jv ya, .second, jv xc, .second, jv yc, .second, iv sl, rv oP, jv xc, .second, jv yc, .second, rv oQ, iv (((sl.toUInt32 >>> ((2 : Int32) &&& 31).toUInt32).toInt32) &&& (3 : Int32)), .unset] [(.int (((sl.toUInt32 >>> ((2 : Int32) &&& 31).toUInt32).toInt32) &&& (3 : Int32)))])) (fun t k => XS.iload X11.here hx rfl (hb hby at_118) rfl k) ?_
        refine Wk.go (A' := T11.setTop (mkF m 121 #[jv xa, .second, jv ya, .second, jv xc, .second, jv yc, .second, iv sl, rv oP, jv xc, .second, jv yc, .second, rv oQ, iv (((sl.toUInt32 >>> ((2 : Int32) &&& 31).toUInt32).toInt32) &&& (3 : Int32)), .unset] [(.int (1 : Int32)), (.int (((sl.toUInt32 >>> ((2 : Int32) &&& 31).toUInt32).toInt32) &&& (3 : Int32)))])) (fun t k => XS.iconst X11.here hx rfl (hb hby at_120) k) ?_
        by_cases hc121 : (((sl.toUInt32 >>> ((2 : Int32) &&& 31).toUInt32).toInt32) &&& (3 : Int32)) = (1 : Int32)
        · refine Wk.go (A' := T11.setTop (mkF m 124 #[jv xa, .second, jv ya, .second, jv xc, .second, jv yc, .second, iv sl, rv oP, jv xc, .second, jv yc, .second, rv oQ, iv (((sl.toUInt32 >>> ((2 : Int32) &&& 31).toUInt32).toInt32) &&& (3 : Int32)), .unset] [])) (fun t k => XS.icmpNo X11.here hx rfl (hb hby at_121) rfl (teq hc121).2 k) ?_
          refine Wk.go (A' := T11.setTop (mkF m 126 #[jv xa, .second, jv ya, .second, jv xc, .second, jv yc, .second, iv sl, rv oP, jv xc, .second, jv yc, .second, rv oQ, iv (((sl.toUInt32 >>> ((2 : Int32) &&& 31).toUInt32).toInt32) &&& (3 : Int32)), .unset] [(.ref oP)])) (fun t k => XS.aload X11.here hx rfl (hb hby at_124) rfl rfl k) ?_
          refine Wk.go (A' := T11.setTop (mkF m 127 #[jv xa, .second, jv ya, .second, jv xc, .second, jv yc, .second, iv sl, rv oP, jv xc, .second, jv yc, .second, rv oQ, iv (((sl.toUInt32 >>> ((2 : Int32) &&& 31).toUInt32).toInt32) &&& (3 : Int32)), .unset] [.null, (.ref oP)])) (fun t k => XS.aconstNull X11.here hx rfl (hb hby at_126) k) ?_
          obtain ⟨cq23, kq23, q23a, q23b, q23c⟩ := isOf hZ rfl f13
          obtain ⟨_, _, ⟨T23, L23, k23, n23⟩, -, X23, ⟨Lc23, hQ23, l23, y23, z23⟩, st23⟩ := X11.virtualBack hx (y := (⟨"com/example/rookery/rookery/drawing/GridPoint", "equals", "(Ljava/lang/Object;)Z"⟩ : MethodName)) (z := (⟨"com/example/rookery/rookery/drawing/GridPoint", "equals", "(Ljava/lang/Object;)Z"⟩ : MethodName)) hown (mvT hZ (tw13 hw)) (mvT hZ (tw14 hw)) (notFace_of_selects (args := #[]) (mvT hZ (tw16 hw))) (mvT hZ (tw16 hw)) (mvT hZ (tw15 hw)) (by decide) (backOf (W := 0) (rm3n l Z a0 hw [] oP  T11.heap n0 Zp11 ) hZ (tw17 hw) (tw2 hw) (by decide) (by decide)) q23a q23c (g := (mkF m 127 #[jv xa, .second, jv ya, .second, jv xc, .second, jv yc, .second, iv sl, rv oP, jv xc, .second, jv yc, .second, rv oQ, iv (((sl.toUInt32 >>> ((2 : Int32) &&& 31).toUInt32).toInt32) &&& (3 : Int32)), .unset] [.null, (.ref oP)])) rfl (by rw [hml]; rfl) (Steps.refl _) (argsL := [.null]) (rest := []) (lenOf pd_4 rfl) rfl (by show 2 * 0 + _ ≤ _; exact Nat.le_of_eq rfl) (hb hby at_127) (fun _ _ => ⟨rfl, rfl, (by decide : 2 + 0 ≤ _), (by decide : 4 + 0 ≤ _)⟩)
          dsimp only [Pt.U, Pt.locs, Pt.cells, Pt.slots] at X23 l23 y23 z23 st23 hQ23
          subst l23 y23 z23
          obtain ⟨rfl, N23q, hE23⟩ := hQ23
          have N23 := Fr.app N11 N23q
          refine Wk.go (A' := T23.setTop (mkF m 130 #[jv xa, .second, jv ya, .second, jv xc, .second, jv yc, .second, iv sl, rv oP, jv xc, .second, jv yc, .second, rv oQ, iv (((sl.toUInt32 >>> ((2 : Int32) &&& 31).toUInt32).toInt32) &&& (3 : Int32)), .unset] [(.int (f_eqn oP))])) (fun t k => st23.trans k) ?_
          have hc130 : (f_eqn oP) = (0 : Int32) := rfl
          refine Wk.go (A' := T23.setTop (mkF m 133 #[jv xa, .second, jv ya, .second, jv xc, .second, jv yc, .second, iv sl, rv oP, jv xc, .second, jv yc, .second, rv oQ, iv (((sl.toUInt32 >>> ((2 : Int32) &&& 31).toUInt32).toInt32) &&& (3 : Int32)), .unset] [])) (fun t k => XS.ifNo X23.here hx rfl (hb hby at_130) rfl ((if0 _ _).trans (teq hc130).2) k) ?_
          refine Wk.go (A' := T23.setTop (mkF m 134 #[jv xa, .second, jv ya, .second, jv xc, .second, jv yc, .second, iv sl, rv oP, jv xc, .second, jv yc, .second, rv oQ, iv (((sl.toUInt32 >>> ((2 : Int32) &&& 31).toUInt32).toInt32) &&& (3 : Int32)), .unset] [(.int (1 : Int32))])) (fun t k => XS.iconst X23.here hx rfl (hb hby at_133) k) ?_
          refine Wk.go (A' := T23.setTop (mkF m 138 #[jv xa, .second, jv ya, .second, jv xc, .second, jv yc, .second, iv sl, rv oP, jv xc, .second, jv yc, .second, rv oQ, iv (((sl.toUInt32 >>> ((2 : Int32) &&& 31).toUInt32).toInt32) &&& (3 : Int32)), .unset] [(.int (1 : Int32))])) (fun t k => XS.goto X23.here hx rfl (pc0 := 134) (pc' := 138) rfl (hb hby at_134) (by decide) (by decide) k) ?_
          refine own_fin (Qv := Q0 Z xa ya xc yc sl wcs h0 n0) (v := some (.int (1 : Int32))) X23 hlk (fun h => by rw [Bd.returns] at h; cases h) (fun fs hr => retN X23 hx (t := .boolean) Bd.returns (by simp) (hb hby at_138) hr) ?_ (by decide) (by decide)
          exact ⟨rfl, N23⟩
        · refine Wk.go (A' := T11.setTop (mkF m 139 #[jv xa, .second, jv ya, .second, jv xc, .second, jv yc, .second, iv sl, rv oP, jv xc, .second, jv yc, .second, rv oQ, iv (((sl.toUInt32 >>> ((2 : Int32) &&& 31).toUInt32).toInt32) &&& (3 : Int32)), .unset] [])) (fun t k => XS.icmpYes X11.here hx rfl (pc0 := 121) (pc' := 139) rfl (hb hby at_121) rfl (feq hc121).2 (by decide) (by decide) k) ?_
          refine Wk.go (A' := T11.setTop (mkF m 141 #[jv xa, .second, jv ya, .second, jv xc, .second, jv yc, .second, iv sl, rv oP, jv xc, .second, jv yc, .second, rv oQ, iv (((sl.toUInt32 >>> ((2 : Int32) &&& 31).toUInt32).toInt32) &&& (3 : Int32)), .unset] [(.int (((sl.toUInt32 >>> ((2 : Int32) &&& 31).toUInt32).toInt32) &&& (3 : Int32)))])) (fun t k => XS.iload X11.here hx rfl (hb hby at_139) rfl k) ?_
          refine Wk.go (A' := T11.setTop (mkF m 142 #[jv xa, .second, jv ya, .second, jv xc, .second, jv yc, .second, iv sl, rv oP, jv xc, .second, jv yc, .second, rv oQ, iv (((sl.toUInt32 >>> ((2 : Int32) &&& 31).toUInt32).toInt32) &&& (3 : Int32)), .unset] [(.int (2 : Int32)), (.int (((sl.toUInt32 >>> ((2 : Int32) &&& 31).toUInt32).toInt32) &&& (3 : Int32)))])) (fun t k => XS.iconst X11.here hx rfl (hb hby at_141) k) ?_
          by_cases hc142 : (((sl.toUInt32 >>> ((2 : Int32) &&& 31).toUInt32).toInt32) &&& (3 : Int32)) = (2 : Int32)
          · refine Wk.go (A' := T11.setTop (mkF m 145 #[jv xa, .second, jv ya, .second, jv xc, .second, jv yc, .second, iv sl, rv oP, jv xc, .second, jv yc, .second, rv oQ, iv (((sl.toUInt32 >>> ((2 : Int32) &&& 31).toUInt32).toInt32) &&& (3 : Int32)), .unset] [])) (fun t k => XS.icmpNo X11.here hx rfl (hb hby at_142) rfl (teq hc142).2 k) ?_
            refine Wk.go (A' := T11.setTop (mkF m 147 #[jv xa, .second, jv ya, .second, jv xc, .second, jv yc, .second, iv sl, rv oP, jv xc, .second, jv yc, .second, rv oQ, iv (((sl.toUInt32 >>> ((2 : Int32) &&& 31).toUInt32).toInt32) &&& (3 : Int32)), .unset] [(.int sl)])) (fun t k => XS.iload X11.here hx rfl (hb hby at_145) rfl k) ?_
            refine Wk.go (A' := T11.setTop (mkF m 149 #[jv xa, .second, jv ya, .second, jv xc, .second, jv yc, .second, iv sl, rv oP, jv xc, .second, jv yc, .second, rv oQ, iv (((sl.toUInt32 >>> ((2 : Int32) &&& 31).toUInt32).toInt32) &&& (3 : Int32)), .unset] [(.int (8 : Int32)), (.int sl)])) (fun t k => XS.bipush X11.here hx rfl (hb hby at_147) k) ?_
            refine Wk.go (A' := T11.setTop (mkF m 150 #[jv xa, .second, jv ya, .second, jv xc, .second, jv yc, .second, iv sl, rv oP, jv xc, .second, jv yc, .second, rv oQ, iv (((sl.toUInt32 >>> ((2 : Int32) &&& 31).toUInt32).toInt32) &&& (3 : Int32)), .unset] [(.int ((sl.toUInt32 >>> ((8 : Int32) &&& 31).toUInt32).toInt32))])) (fun t k => XS.iushr X11.here hx rfl (hb hby at_149) rfl k) ?_
            refine Wk.go (A' := T11.setTop (mkF m 153 #[jv xa, .second, jv ya, .second, jv xc, .second, jv yc, .second, iv sl, rv oP, jv xc, .second, jv yc, .second, rv oQ, iv (((sl.toUInt32 >>> ((2 : Int32) &&& 31).toUInt32).toInt32) &&& (3 : Int32)), .unset] [(.int (255 : Int32)), (.int ((sl.toUInt32 >>> ((8 : Int32) &&& 31).toUInt32).toInt32))])) (fun t k => XS.sipush X11.here hx rfl (hb hby at_150) k) ?_
            refine Wk.go (A' := T11.setTop (mkF m 154 #[jv xa, .second, jv ya, .second, jv xc, .second, jv yc, .second, iv sl, rv oP, jv xc, .second, jv yc, .second, rv oQ, iv (((sl.toUInt32 >>> ((2 : Int32) &&& 31).toUInt32).toInt32) &&& (3 : Int32)), .unset] [(.int (((sl.toUInt32 >>> ((8 : Int32) &&& 31).toUInt32).toInt32) &&& (255 : Int32)))])) (fun t k => XS.iand X11.here hx rfl (hb hby at_153) rfl k) ?_
            refine Wk.go (A' := T11.setTop (mkF m 155 #[jv xa, .second, jv ya, .second, jv xc, .second, jv yc, .second, iv sl, rv oP, jv xc, .second, jv yc, .second, rv oQ, iv (((sl.toUInt32 >>> ((2 : Int32) &&& 31).toUInt32).toInt32) &&& (3 : Int32)), .unset] [(.int ((((sl.toUInt32 >>> ((8 : Int32) &&& 31).toUInt32).toInt32) &&& (255 : Int32)).toUInt32.toUInt16.toUInt32.toInt32))])) (fun t k => XS.i2c X11.here hx rfl (hb hby at_154) rfl k) ?_
            obtain ⟨_, _, ⟨T24, L24, k24, n24⟩, -, X24, ⟨Lc24, hQ24, l24, y24, z24⟩, st24⟩ := Jvm.LawKit.callS X11 hx (y := (⟨"java/lang/String", "valueOf", "(C)Ljava/lang/String;"⟩ : MethodName)) hown (mvT hZ (tw20 hw)) (mvT hZ (tw21 hw)) (mvT hZ (tw22 hw)) (mvT hZ (tw23 hw)) (by decide) (backOf (W := 0) (rm4 l Z a0 hw [] ((((sl.toUInt32 >>> ((8 : Int32) &&& 31).toUInt32).toInt32) &&& (255 : Int32)).toUInt32.toUInt16.toUInt32.toInt32) wcs T11.heap n0 Zp11 (S0.ext f12.2) hcs (own_ch sl)) hZ (tw23 hw) (tw22 hw) (by decide) (by decide)) (g := (mkF m 155 #[jv xa, .second, jv ya, .second, jv xc, .second, jv yc, .second, iv sl, rv oP, jv xc, .second, jv yc, .second, rv oQ, iv (((sl.toUInt32 >>> ((2 : Int32) &&& 31).toUInt32).toInt32) &&& (3 : Int32)), .unset] [(.int ((((sl.toUInt32 >>> ((8 : Int32) &&& 31).toUInt32).toInt32) &&& (255 : Int32)).toUInt32.toUInt16.toUInt32.toInt32))])) rfl (by rw [hml]; rfl) (argsL := [(.int ((((sl.toUInt32 >>> ((8 : Int32) &&& 31).toUInt32).toInt32) &&& (255 : Int32)).toUInt32.toUInt16.toUInt32.toInt32))]) (rest := []) (lenOf pd_5 rfl) rfl (by show 2 * 0 + _ ≤ _; exact Nat.le_of_eq rfl) (hb hby at_155) (fun _ _ => ⟨rfl, rfl, (by decide : 2 + 2 ≤ _), (by decide : 4 + 5 ≤ _)⟩)
            dsimp only [Pt.U, Pt.locs, Pt.cells, Pt.slots] at X24 l24 y24 z24 st24 hQ24
            subst l24 y24 z24
            obtain ⟨b24, rfl, N24q, Kq24, g_b24, bb_b24, Eq24⟩ := hQ24
            have N24 := Fr.app N11 N24q
            have f25 := f12.keep Kq24 all0
            have f26 := f13.keep Kq24
            have f27 := f14.keep Kq24 nin0
            have f28 := f15.keep Kq24 nin0
            have f29 := Eq11.keep Kq24
            have f30 := Fq11_x.keep Kq24 nin0
            have f31 := Fq11_y.keep Kq24 nin0
            have Zp24 : n0 ≤ T24.heap.size := Nat.le_trans Zp11 Kq24.1
            refine Wk.go (A' := T24.setTop (mkF m 158 #[jv xa, .second, jv ya, .second, jv xc, .second, jv yc, .second, iv sl, rv oP, jv xc, .second, jv yc, .second, rv oQ, iv (((sl.toUInt32 >>> ((2 : Int32) &&& 31).toUInt32).toInt32) &&& (3 : Int32)), .unset] [(.ref b24)])) (fun t k => st24 t k) ?_
            refine Wk.go (A' := T24.setTop (mkF m 160 #[jv xa, .second, jv ya, .second, jv xc, .second, jv yc, .second, iv sl, rv oP, jv xc, .second, jv yc, .second, rv oQ, iv (((sl.toUInt32 >>> ((2 : Int32) &&& 31).toUInt32).toInt32) &&& (3 : Int32)), rv b24] [])) (fun t k => XS.astore X24.here hx rfl (hb hby at_158) rfl rfl (l' := #[jv xa, .second, jv ya, .second, jv xc, .second, jv yc, .second, iv sl, rv oP, jv xc, .second, jv yc, .second, rv oQ, iv (((sl.toUInt32 >>> ((2 : Int32) &&& 31).toUInt32).toInt32) &&& (3 : Int32)), rv b24]) rfl k) ?_
            refine Wk.go (A' := T24.setTop (mkF m 162 #[jv xa, .second, jv ya, .second, jv xc, .second, jv yc, .second, iv sl, rv oP, jv xc, .second, jv yc, .second, rv oQ, iv (((sl.toUInt32 >>> ((2 : Int32) &&& 31).toUInt32).toInt32) &&& (3 : Int32)), rv b24] [(.ref oP)])) (fun t k => XS.aload X24.here hx rfl (hb hby at_160) rfl rfl k) ?_
            refine Wk.go (A' := T24.setTop (mkF m 164 #[jv xa, .second, jv ya, .second, jv xc, .second, jv yc, .second, iv sl, rv oP, jv xc, .second, jv yc, .second, rv oQ, iv (((sl.toUInt32 >>> ((2 : Int32) &&& 31).toUInt32).toInt32) &&& (3 : Int32)), rv b24] [(.ref b24), (.ref oP)])) (fun t k => XS.aload X24.here hx rfl (hb hby at_162) rfl rfl k) ?_
            obtain ⟨cq32, kq32, q32a, q32b, q32c⟩ := isOf hZ rfl f26
            obtain ⟨_, _, ⟨T32, L32, k32, n32⟩, -, X32, ⟨Lc32, hQ32, l32, y32, z32⟩, st32⟩ := X24.virtualBack hx (y := (⟨"com/example/rookery/rookery/drawing/GridPoint", "equals", "(Ljava/lang/Object;)Z"⟩ : MethodName)) (z := (⟨"com/example/rookery/rookery/drawing/GridPoint", "equals", "(Ljava/lang/Object;)Z"⟩ : MethodName)) hown (mvT hZ (tw13 hw)) (mvT hZ (tw14 hw)) (notFace_of_selects (args := #[]) (mvT hZ (tw16 hw))) (mvT hZ (tw16 hw)) (mvT hZ (tw15 hw)) (by decide) (backOf (W := 0) (rm3s l Z a0 hw [] oP b24  T24.heap n0 Zp24 Eq24) hZ (tw17 hw) (tw2 hw) (by decide) (by decide)) q32a q32c (g := (mkF m 164 #[jv xa, .second, jv ya, .second, jv xc, .second, jv yc, .second, iv sl, rv oP, jv xc, .second, jv yc, .second, rv oQ, iv (((sl.toUInt32 >>> ((2 : Int32) &&& 31).toUInt32).toInt32) &&& (3 : Int32)), rv b24] [(.ref b24), (.ref oP)])) rfl (by rw [hml]; rfl) (Steps.refl _) (argsL := [(.ref b24)]) (rest := []) (lenOf pd_4 rfl) rfl (by show 2 * 0 + _ ≤ _; exact Nat.le_of_eq rfl) (hb hby at_164) (fun _ _ => ⟨rfl, rfl, (by decide : 4 + 0 ≤ _), (by decide : 9 + 0 ≤ _)⟩)
            dsimp only [Pt.U, Pt.locs, Pt.cells, Pt.slots] at X32 l32 y32 z32 st32 hQ32
            subst l32 y32 z32
            obtain ⟨rfl, N32q, hE32⟩ := hQ32
            have N32 := Fr.app N24 N32q
            refine Wk.go (A' := T32.setTop (mkF m 167 #[jv xa, .second, jv ya, .second, jv xc, .second, jv yc, .second, iv sl, rv oP, jv xc, .second, jv yc, .second, rv oQ, iv (((sl.toUInt32 >>> ((2 : Int32) &&& 31).toUInt32).toInt32) &&& (3 : Int32)), rv b24] [(.int (f_eqs oP b24))])) (fun t k => st32.trans k) ?_
            have hc167 : (f_eqs oP b24) = (0 : Int32) := rfl
            refine Wk.go (A' := T32.setTop (mkF m 170 #[jv xa, .second, jv ya, .second, jv xc, .second, jv yc, .second, iv sl, rv oP, jv xc, .second, jv yc, .second, rv oQ, iv (((sl.toUInt32 >>> ((2 : Int32) &&& 31).toUInt32).toInt32) &&& (3 : Int32)), rv b24] [])) (fun t k => XS.ifNo X32.here hx rfl (hb hby at_167) rfl ((if0 _ _).trans (teq hc167).2) k) ?_
            refine Wk.go (A' := T32.setTop (mkF m 171 #[jv xa, .second, jv ya, .second, jv xc, .second, jv yc, .second, iv sl, rv oP, jv xc, .second, jv yc, .second, rv oQ, iv (((sl.toUInt32 >>> ((2 : Int32) &&& 31).toUInt32).toInt32) &&& (3 : Int32)), rv b24] [(.int (1 : Int32))])) (fun t k => XS.iconst X32.here hx rfl (hb hby at_170) k) ?_
            refine Wk.go (A' := T32.setTop (mkF m 175 #[jv xa, .second, jv ya, .second, jv xc, .second, jv yc, .second, iv sl, rv oP, jv xc, .second, jv yc, .second, rv oQ, iv (((sl.toUInt32 >>> ((2 : Int32) &&& 31).toUInt32).toInt32) &&& (3 : Int32)), rv b24] [(.int (1 : Int32))])) (fun t k => XS.goto X32.here hx rfl (pc0 := 171) (pc' := 175) rfl (hb hby at_171) (by decide) (by decide) k) ?_
            refine own_fin (Qv := Q0 Z xa ya xc yc sl wcs h0 n0) (v := some (.int (1 : Int32))) X32 hlk (fun h => by rw [Bd.returns] at h; cases h) (fun fs hr => retN X32 hx (t := .boolean) Bd.returns (by simp) (hb hby at_175) hr) ?_ (by decide) (by decide)
            exact ⟨rfl, N32⟩
          · refine Wk.go (A' := T11.setTop (mkF m 176 #[jv xa, .second, jv ya, .second, jv xc, .second, jv yc, .second, iv sl, rv oP, jv xc, .second, jv yc, .second, rv oQ, iv (((sl.toUInt32 >>> ((2 : Int32) &&& 31).toUInt32).toInt32) &&& (3 : Int32)), .unset] [])) (fun t k => XS.icmpYes X11.here hx rfl (pc0 := 142) (pc' := 176) rfl (hb hby at_142) rfl (feq hc142).2 (by decide) (by decide) k) ?_
            refine Wk.go (A' := T11.setTop (mkF m 178 #[jv xa, .second, jv ya, .second, jv xc, .second, jv yc, .second, iv sl, rv oP, jv xc, .second, jv yc, .second, rv oQ, iv (((sl.toUInt32 >>> ((2 : Int32) &&& 31).toUInt32).toInt32) &&& (3 : Int32)), .unset] [(.ref oP)])) (fun t k => XS.aload X11.here hx rfl (hb hby at_176) rfl rfl k) ?_
            refine Wk.go (A' := T11.setTop (mkF m 180 #[jv xa, .second, jv ya, .second, jv xc, .second, jv yc, .second, iv sl, rv oP, jv xc, .second, jv yc, .second, rv oQ, iv (((sl.toUInt32 >>> ((2 : Int32) &&& 31).toUInt32).toInt32) &&& (3 : Int32)), .unset] [(.ref oP), (.ref oP)])) (fun t k => XS.aload X11.here hx rfl (hb hby at_178) rfl rfl k) ?_
            obtain ⟨cq33, kq33, q33a, q33b, q33c⟩ := isOf hZ rfl f13
            obtain ⟨_, _, ⟨T33, L33, k33, n33⟩, -, X33, ⟨Lc33, hQ33, l33, y33, z33⟩, st33⟩ := X11.virtualBack hx (y := (⟨"com/example/rookery/rookery/drawing/GridPoint", "equals", "(Ljava/lang/Object;)Z"⟩ : MethodName)) (z := (⟨"com/example/rookery/rookery/drawing/GridPoint", "equals", "(Ljava/lang/Object;)Z"⟩ : MethodName)) hown (mvT hZ (tw13 hw)) (mvT hZ (tw14 hw)) (notFace_of_selects (args := #[]) (mvT hZ (tw16 hw))) (mvT hZ (tw16 hw)) (mvT hZ (tw15 hw)) (by decide) (backOf (W := 0) (rm3 l Z a0 hw [] oP oP xa ya xa ya T11.heap n0 Zp11 f13 f14 f15 f14 f15) hZ (tw17 hw) (tw2 hw) (by decide) (by decide)) q33a q33c (g := (mkF m 180 #[jv xa, .second, jv ya, .second, jv xc, .second, jv yc, .second, iv sl, rv oP, jv xc, .second, jv yc, .second, rv oQ, iv (((sl.toUInt32 >>> ((2 : Int32) &&& 31).toUInt32).toInt32) &&& (3 : Int32)), .unset] [(.ref oP), (.ref oP)])) rfl (by rw [hml]; rfl) (Steps.refl _) (argsL := [(.ref oP)]) (rest := []) (lenOf pd_4 rfl) rfl (by show 2 * 0 + _ ≤ _; exact Nat.le_of_eq rfl) (hb hby at_180) (fun _ _ => ⟨rfl, rfl, (by decide : 2 + 0 ≤ _), (by decide : 4 + 0 ≤ _)⟩)
            dsimp only [Pt.U, Pt.locs, Pt.cells, Pt.slots] at X33 l33 y33 z33 st33 hQ33
            subst l33 y33 z33
            obtain ⟨rfl, N33q, hE33⟩ := hQ33
            have N33 := Fr.app N11 N33q
            refine Wk.go (A' := T33.setTop (mkF m 183 #[jv xa, .second, jv ya, .second, jv xc, .second, jv yc, .second, iv sl, rv oP, jv xc, .second, jv yc, .second, rv oQ, iv (((sl.toUInt32 >>> ((2 : Int32) &&& 31).toUInt32).toInt32) &&& (3 : Int32)), .unset] [(.int (f_eq oP oP xa ya xa ya))])) (fun t k => st33.trans k) ?_
            refine own_fin (Qv := Q0 Z xa ya xc yc sl wcs h0 n0) (v := some (.int (nar .boolean (f_eq oP oP xa ya xa ya)))) X33 hlk (fun h => by rw [Bd.returns] at h; cases h) (fun fs hr => retN X33 hx (t := .boolean) Bd.returns (by simp) (hb hby at_183) hr) ?_ (by decide) (by decide)
            exact ⟨congrArg (fun z => some (Value.int z)) (own_self _ _ _), N33⟩
    · refine Wk.go (A' := T3.setTop (mkF m 33 #[jv xa, .second, jv ya, .second, jv xc, .second, jv yc, .second, iv sl, rv oP, jv xc, .second, .unset, .unset, .unset, .unset, .unset] [])) (fun t k => XS.ifNo X3.here hx rfl (hb hby at_30) rfl ((if0 _ _).trans (feq hc30).1) k) ?_
      refine Wk.go (A' := T3.setTop (mkF m 34 #[jv xa, .second, jv ya, .second, jv xc, .second, jv yc, .second, iv sl, rv oP, jv xc, .second, .unset, .unset, .unset, .unset, .unset] [(.long ya)])) (fun t k => XS.lloadN X3.here hx rfl (hb hby at_33) rfl k) ?_
      refine Wk.go (A' := T3.setTop (mkF m 39 #[jv xa, .second, jv ya, .second, jv xc, .second, jv yc, .second, iv sl, rv oP, jv xc, .second, .unset, .unset, .unset, .unset, .unset] [(.long ya)])) (fun t k => XS.goto X3.here hx rfl (pc0 := 34) (pc' := 39) rfl (hb hby at_34) (by decide) (by decide) k) ?_
      refine Wk.go (A' := T3.setTop (mkF m 41 #[jv xa, .second, jv ya, .second, jv xc, .second, jv yc, .second, iv sl, rv oP, jv xc, .second, jv ya, .second, .unset, .unset, .unset] [])) (fun t k => XS.lstore X3.here hx rfl (hb hby at_39) rfl (l' := #[jv xa, .second, jv ya, .second, jv xc, .second, jv yc, .second, iv sl, rv oP, jv xc, .second, jv ya, .second, .unset, .unset, .unset]) rfl k) ?_
      obtain ⟨T34, h34, X34, e34, E34, A34, D34, -, st34⟩ := newO X3 hx hZ hown (tw0 hw) (tw1 hw) (tw2 hw) rfl (g := (mkF m 41 #[jv xa, .second, jv ya, .second, jv xc, .second, jv yc, .second, iv sl, rv oP, jv xc, .second, jv ya, .second, .unset, .unset, .unset] [])) rfl (hb hby at_41) (by decide) (by decide)
      obtain ⟨oQ, g34⟩ : ∃ z, z = T3.heap.size := ⟨_, rfl⟩
      rw [← g34] at A34 D34 st34
      have g_oQ : n0 ≤ oQ := Nat.le_trans Zp3 (Nat.le_of_eq g34.symm)
      have ne_oP_oQ : oP ≠ oQ := Nat.ne_of_lt (Nat.lt_of_lt_of_le Eq3.lt (Nat.le_of_eq g34.symm))
      have f35 := f4.ext E34
      have f36 := Eq3.ext E34
      have f37 := Fq3_x.ext E34
      have f38 := Fq3_y.ext E34
      have F_x_oQ : Fld Z h34 oQ "com/example/rookery/rookery/drawing/GridPoint" "x" "J" (.long (0 : Int64)) := D34 (Or.inr (tw10 hw)) (ty := .long) (by decide)
      have F_y_oQ : Fld Z h34 oQ "com/example/rookery/rookery/drawing/GridPoint" "y" "J" (.long (0 : Int64)) := D34 (Or.inr (tw12 hw)) (ty := .long) (by decide)
      have Zp34 : n0 ≤ h34.size := Nat.le_trans Zp3 E34.1
      refine Wk.go (A' := T34.setTop (mkF m 44 #[jv xa, .second, jv ya, .second, jv xc, .second, jv yc, .second, iv sl, rv oP, jv xc, .second, jv ya, .second, .unset, .unset, .unset] [(.ref oQ)])) (fun t k => st34 t k) ?_
      refine Wk.go (A' := T34.setTop (mkF m 45 #[jv xa, .second, jv ya, .second, jv xc, .second, jv yc, .second, iv sl, rv oP, jv xc, .second, jv ya, .second, .unset, .unset, .unset] [(.ref oQ), (.ref oQ)])) (fun t k => XS.dup X34.here hx rfl (hb hby at_44) rfl rfl k) ?_
      refine Wk.go (A' := T34.setTop (mkF m 47 #[jv xa, .second, jv ya, .second, jv xc, .second, jv yc, .second, iv sl, rv oP, jv xc, .second, jv ya, .second, .unset, .unset, .unset] [(.long xc), (.ref oQ), (.ref oQ)])) (fun t k => XS.lload X34.here hx rfl (hb hby at_45) rfl k) ?_
      refine Wk.go (A' := T34.setTop (mkF m 49 #[jv xa, .second, jv ya, .second, jv xc, .second, jv yc, .second, iv sl, rv oP, jv xc, .second, jv ya, .second, .unset, .unset, .unset] [(.long ya), (.long xc), (.ref oQ), (.ref oQ)])) (fun t k => XS.lload X34.here hx rfl (hb hby at_47) rfl k) ?_
      obtain ⟨_, _, ⟨T39, L39, k39, n39⟩, -, X39, ⟨Lc39, hQ39, l39, y39, z39⟩, st39⟩ := X34.specialBack hx (y := (⟨"com/example/rookery/rookery/drawing/GridPoint", "<init>", "(JJ)V"⟩ : MethodName)) rfl hown (mvT hZ (tw3 hw)) (mvT hZ (tw4 hw)) (mvT hZ (tw5 hw)) (by decide) (backOf (W := 1) (rm1 l Z a0 hw [] oQ xc ya  h34 n0 Zp34 A34 F_x_oQ F_y_oQ g_oQ ) hZ (tw5 hw) (tw2 hw) (by decide) (by decide)) (g := (mkF m 49 #[jv xa, .second, jv ya, .second, jv xc, .second, jv yc, .second, iv sl, rv oP, jv xc, .second, jv ya, .second, .unset, .unset, .unset] [(.long ya), (.long xc), (.ref oQ), (.ref oQ)])) rfl (by rw [hml]; rfl) (Steps.refl _) (a := oQ) (argsL := [(.long xc), (.long ya)]) (rest := [(.ref oQ)]) (lenOf pd_3 rfl) rfl (by show 2 * 0 + _ ≤ _; exact Nat.le_of_eq rfl) (hb hby at_49) (fun _ _ => ⟨rfl, e34, (by decide : 2 + 0 ≤ _), (by decide : 4 + 0 ≤ _)⟩)
      dsimp only [Pt.U, Pt.locs, Pt.cells, Pt.slots] at X39 l39 y39 z39 st39 hQ39
      subst l39 y39 z39
      obtain ⟨rfl, N39q, Kq39, Eq39, Fq39_x, Fq39_y⟩ := hQ39
      have N39 := Fr.app N3 N39q
      have f40 := f35.keep Kq39 (allS g_oQ all0)
      have f41 := f36.keep Kq39
      have f42 := f37.keep Kq39 (ninS ne_oP_oQ nin0)
      have f43 := f38.keep Kq39 (ninS ne_oP_oQ nin0)
      have f44 := A34.keep Kq39
      have Zp39 : n0 ≤ T39.heap.size := Nat.le_trans Zp34 Kq39.1
      refine Wk.go (A' := T39.setTop (mkF m 52 #[jv xa, .second, jv ya, .second, jv xc, .second, jv yc, .second, iv sl, rv oP, jv xc, .second, jv ya, .second, .unset, .unset, .unset] [(.ref oQ)])) (fun t k => st39.trans k) ?_
      refine Wk.go (A' := T39.setTop (mkF m 54 #[jv xa, .second, jv ya, .second, jv xc, .second, jv yc, .second, iv sl, rv oP, jv xc, .second, jv ya, .second, rv oQ, .unset, .unset] [])) (fun t k => XS.astore X39.here hx rfl (hb hby at_52) rfl rfl (l' := #[jv xa, .second, jv ya, .second, jv xc, .second, jv yc, .second, iv sl, rv oP, jv xc, .second, jv ya, .second, rv oQ, .unset, .unset]) rfl k) ?_
      refine Wk.go (A' := T39.setTop (mkF m 56 #[jv xa, .second, jv ya, .second, jv xc, .second, jv yc, .second, iv sl, rv oP, jv xc, .second, jv ya, .second, rv oQ, .unset, .unset] [(.int sl)])) (fun t k => XS.iload X39.here hx rfl (hb hby at_54) rfl k) ?_
      refine Wk.go (A' := T39.setTop (mkF m 57 #[jv xa, .second, jv ya, .second, jv xc, .second, jv yc, .second, iv sl, rv oP, jv xc, .second, jv ya, .second, rv oQ, .unset, .unset] [(.int (2 : Int32)), (.int sl)])) (fun t k => XS.iconst X39.here hx rfl (hb hby at_56) k) ?_
      refine Wk.go (A' := T39.setTop (mkF m 58 #[jv xa, .second, jv ya, .second, jv xc, .second, jv yc, .second, iv sl, rv oP, jv xc, .second, jv ya, .second, rv oQ, .unset, .unset] [(.int ((sl.toUInt32 >>> ((2 : Int32) &&& 31).toUInt32).toInt32))])) (fun t k => XS.iushr X39.here hx rfl (hb hby at_57) rfl k) ?_
      refine Wk.go (A' := T39.setTop (mkF m 59 #[jv xa, .second, jv ya, .second, jv xc, .second, jv yc, .second, iv sl, rv oP, jv xc, .second, jv ya, .second, rv oQ, .unset, .unset] [(.int (3 : Int32)), (.int ((sl.toUInt32 >>> ((2 : Int32) &&& 31).toUInt32).toInt32))])) (fun t k => XS.iconst X39.here hx rfl (hb hby at_58) k) ?_
      refine Wk.go (A' := T39.setTop (mkF m 60 #[jv xa, .second, jv ya, .second, jv xc, .second, jv yc, .second, iv sl, rv oP, jv xc, .second, jv ya, .second, rv oQ, .unset, .unset] [(.int (((sl.toUInt32 >>> ((2 : Int32) &&& 31).toUInt32).toInt32) &&& (3 : Int32)))])) (fun t k => XS.iand X39.here hx rfl (hb hby at_59) rfl k) ?_
      refine Wk.go (A' := T39.setTop (mkF m 62 #[jv xa, .second, jv ya, .second, jv xc, .second, jv yc, .second, iv sl, rv oP, jv xc, .second, jv ya, .second, rv oQ, iv (((sl.toUInt32 >>> ((2 : Int32) &&& 31).toUInt32).toInt32) &&& (3 : Int32)), .unset] [])) (fun t k => XS.istore X39.here hx rfl (hb hby at_60) rfl (l' := #[jv xa, .second, jv ya, .second, jv xc, .second, jv yc, .second, iv sl, rv oP, jv xc, .second, jv ya, .second, rv oQ, iv (((sl.toUInt32 >>> ((2 : Int32) &&& 31).toUInt32).toInt32) &&& (3 : Int32)), .unset]) rfl k) ?_
      refine Wk.go (A' := T39.setTop (mkF m 64 #[jv xa, .second, jv ya, .second, jv xc, .second, jv yc, .second, iv sl, rv oP, jv xc, .second, jv ya, .second, rv oQ, iv (((sl.toUInt32 >>> ((2 : Int32) &&& 31).toUInt32).toInt32) &&& (3 : Int32)), .unset] [(.int (((sl.toUInt32 >>> ((2 : Int32) &&& 31).toUInt32).toInt32) &&& (3 : Int32)))])) (fun t k => XS.iload X39.here hx rfl (hb hby at_62) rfl k) ?_
      by_cases hc64 : (((sl.toUInt32 >>> ((2 : Int32) &&& 31).toUInt32).toInt32) &&& (3 : Int32)) = (0 : Int32)
      · refine Wk.go (A' := T39.setTop (mkF m 67 #[jv xa, .second, jv ya, .second, jv xc, .second, jv yc, .second, iv sl, rv oP, jv xc, .second, jv ya, .second, rv oQ, iv (((sl.toUInt32 >>> ((2 : Int32) &&& 31).toUInt32).toInt32) &&& (3 : Int32)), .unset] [])) (fun t k => XS.ifNo X39.here hx rfl (hb hby at_64) rfl ((if0 _ _).trans (teq hc64).2) k) ?_
        refine Wk.go (A' := T39.setTop (mkF m 69 #[jv xa, .second, jv ya, .second, jv xc, .second, jv yc, .second, iv sl, rv oP, jv xc, .second, jv ya, .second, rv oQ, iv (((sl.toUInt32 >>> ((2 : Int32) &&& 31).toUInt32).toInt32) &&& (3 : Int32)), .unset] [(.long xc)])) (fun t k => XS.lload X39.here hx rfl (hb hby at_67) rfl k) ?_
        refine Wk.go (A' := T39.setTop (mkF m 70 #[jv xa, .second, jv ya, .second, jv xc, .second, jv yc, .second, iv sl, rv oP, jv xc, .second, jv ya, .second, rv oQ, iv (((sl.toUInt32 >>> ((2 : Int32) &&& 31).toUInt32).toInt32) &&& (3 : Int32)), .unset] [(.long xa), (.long xc)])) (fun t k => XS.lloadN X39.here hx rfl (hb hby at_69) rfl k) ?_
        refine Wk.go (A' := T39.setTop (mkF m 71 #[jv xa, .second, jv ya, .second, jv xc, .second, jv yc, .second, iv sl, rv oP, jv xc, .second, jv ya, .second, rv oQ, iv (((sl.toUInt32 >>> ((2 : Int32) &&& 31).toUInt32).toInt32) &&& (3 : Int32)), .unset] [(.int (lcmpW xc xa))])) (fun t k => XS.lcmp X39.here hx rfl (hb hby at_70) rfl k) ?_
        by_cases hc71 : xc = xa
        · refine Wk.go (A' := T39.setTop (mkF m 74 #[jv xa, .second, jv ya, .second, jv xc, .second, jv yc, .second, iv sl, rv oP, jv xc, .second, jv ya, .second, rv oQ, iv (((sl.toUInt32 >>> ((2 : Int32) &&& 31).toUInt32).toInt32) &&& (3 : Int32)), .unset] [])) (fun t k => XS.ifNo X39.here hx rfl (hb hby at_71) rfl ((if0 _ _).trans (teq ((lw_eq _ _).mpr hc71)).2) k) ?_
          refine Wk.go (A' := T39.setTop (mkF m 76 #[jv xa, .second, jv ya, .second, jv xc, .second, jv yc, .second, iv sl, rv oP, jv xc, .second, jv ya, .second, rv oQ, iv (((sl.toUInt32 >>> ((2 : Int32) &&& 31).toUInt32).toInt32) &&& (3 : Int32)), .unset] [(.long ya)])) (fun t k => XS.lload X39.here hx rfl (hb hby at_74) rfl k) ?_
          refine Wk.go (A' := T39.setTop (mkF m 77 #[jv xa, .second, jv ya, .second, jv xc, .second, jv yc, .second, iv sl, rv oP, jv xc, .second, jv ya, .second, rv oQ, iv (((sl.toUInt32 >>> ((2 : Int32) &&& 31).toUInt32).toInt32) &&& (3 : Int32)), .unset] [(.long ya), (.long ya)])) (fun t k => XS.lloadN X39.here hx rfl (hb hby at_76) rfl k) ?_
          refine Wk.go (A' := T39.setTop (mkF m 78 #[jv xa, .second, jv ya, .second, jv xc, .second, jv yc, .second, iv sl, rv oP, jv xc, .second, jv ya, .second, rv oQ, iv (((sl.toUInt32 >>> ((2 : Int32) &&& 31).toUInt32).toInt32) &&& (3 : Int32)), .unset] [(.int (lcmpW ya ya))])) (fun t k => XS.lcmp X39.here hx rfl (hb hby at_77) rfl k) ?_
          have hc78 : ya = ya := rfl
          refine Wk.go (A' := T39.setTop (mkF m 81 #[jv xa, .second, jv ya, .second, jv xc, .second, jv yc, .second, iv sl, rv oP, jv xc, .second, jv ya, .second, rv oQ, iv (((sl.toUInt32 >>> ((2 : Int32) &&& 31).toUInt32).toInt32) &&& (3 : Int32)), .unset] [])) (fun t k => XS.ifNo X39.here hx rfl (hb hby at_78) rfl ((if0 _ _).trans (teq ((lw_eq _ _).mpr hc78)).2) k) ?_
          refine Wk.go (A' := T39.setTop (mkF m 82 #[jv xa, .second, jv ya, .second, jv xc, .second, jv yc, .second, iv sl, rv oP, jv xc, .second, jv ya, .second, rv oQ, iv (((sl.toUInt32 >>> ((2 : Int32) &&& 31).toUInt32).toInt32) &&& (3 : Int32)), .unset] [(.int (1 : Int32))])) (fun t k => XS.iconst X39.here hx rfl (hb hby at_81) k) ?_
          refine Wk.go (A' := T39.setTop (mkF m 86 #[jv xa, .second, jv ya, .second, jv xc, .second, jv yc, .second, iv sl, rv oP, jv xc, .second, jv ya, .second, rv oQ, iv (((sl.toUInt32 >>> ((2 : Int32) &&& 31).toUInt32).toInt32) &&& (3 : Int32)), .unset] [(.int (1 : Int32))])) (fun t k => XS.goto X39.here hx rfl (pc0 := 82) (pc' := 86) rfl (hb hby at_82) (by decide) (by decide) k) ?_
          refine Wk.go (A' := T39.setTop (mkF m 88 #[jv xa, .second, jv ya, .second, jv xc, .second, jv yc, .second, iv sl, rv oP, jv xc, .second, jv ya, .second, rv oQ, iv (((sl.toUInt32 >>> ((2 : Int32) &&& 31).toUInt32).toInt32) &&& (3 : Int32)), iv (1 : Int32)] [])) (fun t k => XS.istore X39.here hx rfl (hb hby at_86) rfl (l' := #[jv xa, .second, jv ya, .second, jv xc, .second, jv yc, .second, iv sl, rv oP, jv xc, .second, jv ya, .second, rv oQ, iv (((sl.toUInt32 >>> ((2 : Int32) &&& 31).toUInt32).toInt32) &&& (3 : Int32)), iv (1 : Int32)]) rfl k) ?_
          refine Wk.go (A' := T39.setTop (mkF m 90 #[jv xa, .second, jv ya, .second, jv xc, .second, jv yc, .second, iv sl, rv oP, jv xc, .second, jv ya, .second, rv oQ, iv (((sl.toUInt32 >>> ((2 : Int32) &&& 31).toUInt32).toInt32) &&& (3 : Int32)), iv (1 : Int32)] [(.ref oP)])) (fun t k => XS.aload X39.here hx rfl (hb hby at_88) rfl rfl k) ?_
          refine Wk.go (A' := T39.setTop (mkF m 92 #[jv xa, .second, jv ya, .second, jv xc, .second, jv yc, .second, iv sl, rv oP, jv xc, .second, jv ya, .second, rv oQ, iv (((sl.toUInt32 >>> ((2 : Int32) &&& 31).toUInt32).toInt32) &&& (3 : Int32)), iv (1 : Int32)] [(.ref oQ), (.ref oP)])) (fun t k => XS.aload X39.here hx rfl (hb hby at_90) rfl rfl k) ?_
          obtain ⟨cq45, kq45, q45a, q45b, q45c⟩ := isOf hZ rfl f41
          obtain ⟨_, _, ⟨T45, L45, k45, n45⟩, -, X45, ⟨Lc45, hQ45, l45, y45, z45⟩, st45⟩ := X39.virtualBack hx (y := (⟨"com/example/rookery/rookery/drawing/GridPoint", "equals", "(Ljava/lang/Object;)Z"⟩ : MethodName)) (z := (⟨"com/example/rookery/rookery/drawing/GridPoint", "equals", "(Ljava/lang/Object;)Z"⟩ : MethodName)) hown (mvT hZ (tw13 hw)) (mvT hZ (tw14 hw)) (notFace_of_selects (args := #[]) (mvT hZ (tw16 hw))) (mvT hZ (tw16 hw)) (mvT hZ (tw15 hw)) (by decide) (backOf (W := 0) (rm3 l Z a0 hw [] oP oQ xa ya xc ya T39.heap n0 Zp39 Eq39 f42 f43 Fq39_x Fq39_y) hZ (tw17 hw) (tw2 hw) (by decide) (by decide)) q45a q45c (g := (mkF m 92 #[jv xa, .second, jv ya, .second, jv xc, .second, jv yc, .second, iv sl, rv oP, jv xc, .second, jv ya, .second, rv oQ, iv (((sl.toUInt32 >>> ((2 : Int32) &&& 31).toUInt32).toInt32) &&& (3 : Int32)), iv (1 : Int32)] [(.ref oQ), (.ref oP)])) rfl (by rw [hml]; rfl) (Steps.refl _) (argsL := [(.ref oQ)]) (rest := []) (lenOf pd_4 rfl) rfl (by show 2 * 0 + _ ≤ _; exact Nat.le_of_eq rfl) (hb hby at_92) (fun _ _ => ⟨rfl, rfl, (by decide : 2 + 0 ≤ _), (by decide : 4 + 0 ≤ _)⟩)
          dsimp only [Pt.U, Pt.locs, Pt.cells, Pt.slots] at X45 l45 y45 z45 st45 hQ45
          subst l45 y45 z45
          obtain ⟨rfl, N45q, hE45⟩ := hQ45
          have N45 := Fr.app N39 N45q
          refine Wk.go (A' := T45.setTop (mkF m 95 #[jv xa, .second, jv ya, .second, jv xc, .second, jv yc, .second, iv sl, rv oP, jv xc, .second, jv ya, .second, rv oQ, iv (((sl.toUInt32 >>> ((2 : Int32) &&& 31).toUInt32).toInt32) &&& (3 : Int32)), iv (1 : Int32)] [(.int (f_eq oP oQ xa ya xc ya))])) (fun t k => st45.trans k) ?_
          refine Wk.go (A' := T45.setTop (mkF m 97 #[jv xa, .second, jv ya, .second, jv xc, .second, jv yc, .second, iv sl, rv oP, jv xc, .second, jv ya, .second, rv oQ, iv (((sl.toUInt32 >>> ((2 : Int32) &&& 31).toUInt32).toInt32) &&& (3 : Int32)), iv (1 : Int32)] [(.int (1 : Int32)), (.int (f_eq oP oQ xa ya xc ya))])) (fun t k => XS.iload X45.here hx rfl (hb hby at_95) rfl k) ?_
          have hc97 : (f_eq oP oQ xa ya xc ya) = (1 : Int32) := by rw [own_eq, if_pos hc71.symm, if_pos hc78.symm]
          refine Wk.go (A' := T45.setTop (mkF m 100 #[jv xa, .second, jv ya, .second, jv xc, .second, jv yc, .second, iv sl, rv oP, jv xc, .second, jv ya, .second, rv oQ, iv (((sl.toUInt32 >>> ((2 : Int32) &&& 31).toUInt32).toInt32) &&& (3 : Int32)), iv (1 : Int32)] [])) (fun t k => XS.icmpNo X45.here hx rfl (hb hby at_97) rfl (teq hc97).2 k) ?_
          refine Wk.go (A' := T45.setTop (mkF m 102 #[jv xa, .second, jv ya, .second, jv xc, .second, jv yc, .second, iv sl, rv oP, jv xc, .second, jv ya, .second, rv oQ, iv (((sl.toUInt32 >>> ((2 : Int32) &&& 31).toUInt32).toInt32) &&& (3 : Int32)), iv (1 : Int32)] [(.ref oQ)])) (fun t k => XS.aload X45.here hx rfl (hb hby at_100) rfl rfl k) ?_
          refine Wk.go (A' := T45.setTop (mkF m 104 #[jv xa, .second, jv ya, .second, jv xc, .second, jv yc, .second, iv sl, rv oP, jv xc, .second, jv ya, .second, rv oQ, iv (((sl.toUInt32 >>> ((2 : Int32) &&& 31).toUInt32).toInt32) &&& (3 : Int32)), iv (1 : Int32)] [(.ref oP), (.ref oQ)])) (fun t k => XS.aload X45.here hx rfl (hb hby at_102) rfl rfl k) ?_
          obtain ⟨cq46, kq46, q46a, q46b, q46c⟩ := isOf hZ (hE45) Eq39
          obtain ⟨_, _, ⟨T46, L46, k46, n46⟩, -, X46, ⟨Lc46, hQ46, l46, y46, z46⟩, st46⟩ := X45.virtualBack hx (y := (⟨"com/example/rookery/rookery/drawing/GridPoint", "equals", "(Ljava/lang/Object;)Z"⟩ : MethodName)) (z := (⟨"com/example/rookery/rookery/drawing/GridPoint", "equals", "(Ljava/lang/Object;)Z"⟩ : MethodName)) hown (mvT hZ (tw13 hw)) (mvT hZ (tw14 hw)) (notFace_of_selects (args := #[]) (mvT hZ (tw16 hw))) (mvT hZ (tw16 hw)) (mvT hZ (tw15 hw)) (by decide) (backOf (W := 0) (rm3 l Z a0 hw [] oQ oP xc ya xa ya T39.heap n0 Zp39 f41 Fq39_x Fq39_y f42 f43) hZ (tw17 hw) (tw2 hw) (by decide) (by decide)) q46a q46c (g := (mkF m 104 #[jv xa, .second, jv ya, .second, jv xc, .second, jv yc, .second, iv sl, rv oP, jv xc, .second, jv ya, .second, rv oQ, iv (((sl.toUInt32 >>> ((2 : Int32) &&& 31).toUInt32).toInt32) &&& (3 : Int32)), iv (1 : Int32)] [(.ref oP), (.ref oQ)])) rfl (by rw [hml]; rfl) (Steps.refl _) (argsL := [(.ref oP)]) (rest := []) (lenOf pd_4 rfl) rfl (by show 2 * 0 + _ ≤ _; exact Nat.le_of_eq rfl) (hb hby at_104) (fun _ _ => ⟨rfl, (hE45), (by decide : 2 + 0 ≤ _), (by decide : 4 + 0 ≤ _)⟩)
          dsimp only [Pt.U, Pt.locs, Pt.cells, Pt.slots] at X46 l46 y46 z46 st46 hQ46
          subst l46 y46 z46
          obtain ⟨rfl, N46q, hE46⟩ := hQ46
          have N46 := Fr.app N45 N46q
          refine Wk.go (A' := T46.setTop (mkF m 107 #[jv xa, .second, jv ya, .second, jv xc, .second, jv yc, .second, iv sl, rv oP, jv xc, .second, jv ya, .second, rv oQ, iv (((sl.toUInt32 >>> ((2 : Int32) &&& 31).toUInt32).toInt32) &&& (3 : Int32)), iv (1 : Int32)] [(.int (f_eq oQ oP xc ya xa ya))])) (fun t k => st46.trans k) ?_
          refine Wk.go (A' := T46.setTop (mkF m 109 #[jv xa, .second, jv ya, .second, jv xc, .second, jv yc, .second, iv sl, rv oP, jv xc, .second, jv ya, .second, rv oQ, iv (((sl.toUInt32 >>> ((2 : Int32) &&& 31).toUInt32).toInt32) &&& (3 : Int32)), iv (1 : Int32)] [(.int (1 : Int32)), (.int (f_eq oQ oP xc ya xa ya))])) (fun t k => XS.iload X46.here hx rfl (hb hby at_107) rfl k) ?_
          have hc109 : (f_eq oQ oP xc ya xa ya) = (1 : Int32) := by rw [own_eq, if_pos hc71, if_pos hc78]
          refine Wk.go (A' := T46.setTop (mkF m 112 #[jv xa, .second, jv ya, .second, jv xc, .second, jv yc, .second, iv sl, rv oP, jv xc, .second, jv ya, .second, rv oQ, iv (((sl.toUInt32 >>> ((2 : Int32) &&& 31).toUInt32).toInt32) &&& (3 : Int32)), iv (1 : Int32)] [])) (fun t k => XS.icmpNo X46.here hx rfl (hb hby at_109) rfl (teq hc109).2 k) ?_
          refine Wk.go (A' := T46.setTop (mkF m 113 #[jv xa, .second, jv ya, .second, jv xc, .second, jv yc, .second, iv sl, rv oP, jv xc, .second, jv ya, .second, rv oQ, iv (((sl.toUInt32 >>> ((2 : Int32) &&& 31).toUInt32).toInt32) &&& (3 : Int32)), iv (1 : Int32)] [(.int (1 : Int32))])) (fun t k => XS.iconst X46.here hx rfl (hb hby at_112) k) ?_
          refine Wk.go (A' := T46.setTop (mkF m 117 #[jv xa, .second, jv ya, .second, jv xc, .second, jv yc, .second, iv sl, rv oP, jv xc, .second, jv ya, .second, rv oQ, iv (((sl.toUInt32 >>> ((2 : Int32) &&& 31).toUInt32).toInt32) &&& (3 : Int32)), iv (1 : Int32)] [(.int (1 : Int32))])) (fun t k => XS.goto X46.here hx rfl (pc0 := 113) (pc' := 117) rfl (hb hby at_113) (by decide) (by decide) k) ?_
          refine own_fin (Qv := Q0 Z xa ya xc yc sl wcs h0 n0) (v := some (.int (1 : Int32))) X46 hlk (fun h => by rw [Bd.returns] at h; cases h) (fun fs hr => retN X46 hx (t := .boolean) Bd.returns (by simp) (hb hby at_117) hr) ?_ (by decide) (by decide)
          exact ⟨rfl, N46⟩
        · refine Wk.go (A' := T39.setTop (mkF m 85 #[jv xa, .second, jv ya, .second, jv xc, .second, jv yc, .second, iv sl, rv oP, jv xc, .second, jv ya, .second, rv oQ, iv (((sl.toUInt32 >>> ((2 : Int32) &&& 31).toUInt32).toInt32) &&& (3 : Int32)), .unset] [])) (fun t k => XS.ifYes X39.here hx rfl (pc0 := 71) (pc' := 85) rfl (hb hby at_71) rfl ((if0 _ _).trans (feq (mt (lw_eq _ _).mp hc71)).2) (by decide) (by decide) k) ?_
          refine Wk.go (A' := T39.setTop (mkF m 86 #[jv xa, .second, jv ya, .second, jv xc, .second, jv yc, .second, iv sl, rv oP, jv xc, .second, jv ya, .second, rv oQ, iv (((sl.toUInt32 >>> ((2 : Int32) &&& 31).toUInt32).toInt32) &&& (3 : Int32)), .unset] [(.int (0 : Int32))])) (fun t k => XS.iconst X39.here hx rfl (hb hby at_85) k) ?_
          refine Wk.go (A' := T39.setTop (mkF m 88 #[jv xa, .second, jv ya, .second, jv xc, .second, jv yc, .second, iv sl, rv oP, jv xc, .second, jv ya, .second, rv oQ, iv (((sl.toUInt32 >>> ((2 : Int32) &&& 31).toUInt32).toInt32) &&& (3 : Int32)), iv (0 : Int32)] [])) (fun t k => XS.istore X39.here hx rfl (hb hby at_86) rfl (l' := #[jv xa, .second, jv ya, .second, jv xc, .second, jv yc, .second, iv sl, rv oP, jv xc, .second, jv ya, .second, rv oQ, iv (((sl.toUInt32 >>> ((2 : Int32) &&& 31).toUInt32).toInt32) &&& (3 : Int32)), iv (0 : Int32)]) rfl k) ?_
          refine Wk.go (A' := T39.setTop (mkF m 90 #[jv xa, .second, jv ya, .second, jv xc, .second, jv yc, .second, iv sl, rv oP, jv xc, .second, jv ya, .second, rv oQ, iv (((sl.toUInt32 >>> ((2 : Int32) &&& 31).toUInt32).toInt32) &&& (3 : Int32)), iv (0 : Int32)] [(.ref oP)])) (fun t k => XS.aload X39.here hx rfl (hb hby at_88) rfl rfl k) ?_
          refine Wk.go (A' := T39.setTop (mkF m 92 #[jv xa, .second, jv ya, .second, jv xc, .second, jv yc, .second, iv sl, rv oP, jv xc, .second, jv ya, .second, rv oQ, iv (((sl.toUInt32 >>> ((2 : Int32) &&& 31).toUInt32).toInt32) &&& (3 : Int32)), iv (0 : Int32)] [(.ref oQ), (.ref oP)])) (fun t k => XS.aload X39.here hx rfl (hb hby at_90) rfl rfl k) ?_
          obtain ⟨cq47, kq47, q47a, q47b, q47c⟩ := isOf hZ rfl f41
          obtain ⟨_, _, ⟨T47, L47, k47, n47⟩, -, X47, ⟨Lc47, hQ47, l47, y47, z47⟩, st47⟩ := X39.virtualBack hx (y := (⟨"com/example/rookery/rookery/drawing/GridPoint", "equals", "(Ljava/lang/Object;)Z"⟩ : MethodName)) (z := (⟨"com/example/rookery/rookery/drawing/GridPoint", "equals", "(Ljava/lang/Object;)Z"⟩ : MethodName)) hown (mvT hZ (tw13 hw)) (mvT hZ (tw14 hw)) (notFace_of_selects (args := #[]) (mvT hZ (tw16 hw))) (mvT hZ (tw16 hw)) (mvT hZ (tw15 hw)) (by decide) (backOf (W := 0) (rm3 l Z a0 hw [] oP oQ xa ya xc ya T39.heap n0 Zp39 Eq39 f42 f43 Fq39_x Fq39_y) hZ (tw17 hw) (tw2 hw) (by decide) (by decide)) q47a q47c (g := (mkF m 92 #[jv xa, .second, jv ya, .second, jv xc, .second, jv yc, .second, iv sl, rv oP, jv xc, .second, jv ya, .second, rv oQ, iv (((sl.toUInt32 >>> ((2 : Int32) &&& 31).toUInt32).toInt32) &&& (3 : Int32)), iv (0 : Int32)] [(.ref oQ), (.ref oP)])) rfl (by rw [hml]; rfl) (Steps.refl _) (argsL := [(.ref oQ)]) (rest := []) (lenOf pd_4 rfl) rfl (by show 2 * 0 + _ ≤ _; exact Nat.le_of_eq rfl) (hb hby at_92) (fun _ _ => ⟨rfl, rfl, (by decide : 2 + 0 ≤ _), (by decide : 4 + 0 ≤ _)⟩)
          dsimp only [Pt.U, Pt.locs, Pt.cells, Pt.slots] at X47 l47 y47 z47 st47 hQ47
          subst l47 y47 z47
          obtain ⟨rfl, N47q, hE47⟩ := hQ47
          have N47 := Fr.app N39 N47q
          refine Wk.go (A' := T47.setTop (mkF m 95 #[jv xa, .second, jv ya, .second, jv xc, .second, jv yc, .second, iv sl, rv oP, jv xc, .second, jv ya, .second, rv oQ, iv (((sl.toUInt32 >>> ((2 : Int32) &&& 31).toUInt32).toInt32) &&& (3 : Int32)), iv (0 : Int32)] [(.int (f_eq oP oQ xa ya xc ya))])) (fun t k => st47.trans k) ?_
          refine Wk.go (A' := T47.setTop (mkF m 97 #[jv xa, .second, jv ya, .second, jv xc, .second, jv yc, .second, iv sl, rv oP, jv xc, .second, jv ya, .second, rv oQ, iv (((sl.toUInt32 >>> ((2 : Int32) &&& 31).toUInt32).toInt32) &&& (3 : Int32)), iv (0 : Int32)] [(.int (0 : Int32)), (.int (f_eq oP oQ xa ya xc ya))])) (fun t k => XS.iload X47.here hx rfl (hb hby at_95) rfl k) ?_
          have hc97 : (f_eq oP oQ xa ya xc ya) = (0 : Int32) := by rw [own_eq, if_neg (Ne.symm hc71)]
          refine Wk.go (A' := T47.setTop (mkF m 100 #[jv xa, .second, jv ya, .second, jv xc, .second, jv yc, .second, iv sl, rv oP, jv xc, .second, jv ya, .second, rv oQ, iv (((sl.toUInt32 >>> ((2 : Int32) &&& 31).toUInt32).toInt32) &&& (3 : Int32)), iv (0 : Int32)] [])) (fun t k => XS.icmpNo X47.here hx rfl (hb hby at_97) rfl (teq hc97).2 k) ?_
          refine Wk.go (A' := T47.setTop (mkF m 102 #[jv xa, .second, jv ya, .second, jv xc, .second, jv yc, .second, iv sl, rv oP, jv xc, .second, jv ya, .second, rv oQ, iv (((sl.toUInt32 >>> ((2 : Int32) &&& 31).toUInt32).toInt32) &&& (3 : Int32)), iv (0 : Int32)] [(.ref oQ)])) (fun t k => XS.aload X47.here hx rfl (hb hby at_100) rfl rfl k) ?_
          refine Wk.go (A' := T47.setTop (mkF m 104 #[jv xa, .second, jv ya, .second, jv xc, .second, jv yc, .second, iv sl, rv oP, jv xc, .second, jv ya, .second, rv oQ, iv (((sl.toUInt32 >>> ((2 : Int32) &&& 31).toUInt32).toInt32) &&& (3 : Int32)), iv (0 : Int32)] [(.ref oP), (.ref oQ)])) (fun t k => XS.aload X47.here hx rfl (hb hby at_102) rfl rfl k) ?_
          obtain ⟨cq48, kq48, q48a, q48b, q48c⟩ := isOf hZ (hE47) Eq39
          obtain ⟨_, _, ⟨T48, L48, k48, n48⟩, -, X48, ⟨Lc48, hQ48, l48, y48, z48⟩, st48⟩ := X47.virtualBack hx (y := (⟨"com/example/rookery/rookery/drawing/GridPoint", "equals", "(Ljava/lang/Object;)Z"⟩ : MethodName)) (z := (⟨"com/example/rookery/rookery/drawing/GridPoint", "equals", "(Ljava/lang/Object;)Z"⟩ : MethodName)) hown (mvT hZ (tw13 hw)) (mvT hZ (tw14 hw)) (notFace_of_selects (args := #[]) (mvT hZ (tw16 hw))) (mvT hZ (tw16 hw)) (mvT hZ (tw15 hw)) (by decide) (backOf (W := 0) (rm3 l Z a0 hw [] oQ oP xc ya xa ya T39.heap n0 Zp39 f41 Fq39_x Fq39_y f42 f43) hZ (tw17 hw) (tw2 hw) (by decide) (by decide)) q48a q48c (g := (mkF m 104 #[jv xa, .second, jv ya, .second, jv xc, .second, jv yc, .second, iv sl, rv oP, jv xc, .second, jv ya, .second, rv oQ, iv (((sl.toUInt32 >>> ((2 : Int32) &&& 31).toUInt32).toInt32) &&& (3 : Int32)), iv (0 : Int32)] [(.ref oP), (.ref oQ)])) rfl (by rw [hml]; rfl) (Steps.refl _) (argsL := [(.ref oP)]) (rest := []) (lenOf pd_4 rfl) rfl (by show 2 * 0 + _ ≤ _; exact Nat.le_of_eq rfl) (hb hby at_104) (fun _ _ => ⟨rfl, (hE47), (by decide : 2 + 0 ≤ _), (by decide : 4 + 0 ≤ _)⟩)
          dsimp only [Pt.U, Pt.locs, Pt.cells, Pt.slots] at X48 l48 y48 z48 st48 hQ48
          subst l48 y48 z48
          obtain ⟨rfl, N48q, hE48⟩ := hQ48
          have N48 := Fr.app N47 N48q
          refine Wk.go (A' := T48.setTop (mkF m 107 #[jv xa, .second, jv ya, .second, jv xc, .second, jv yc, .second, iv sl, rv oP, jv xc, .second, jv ya, .second, rv oQ, iv (((sl.toUInt32 >>> ((2 : Int32) &&& 31).toUInt32).toInt32) &&& (3 : Int32)), iv (0 : Int32)] [(.int (f_eq oQ oP xc ya xa ya))])) (fun t k => st48.trans k) ?_
          refine Wk.go (A' := T48.setTop (mkF m 109 #[jv xa, .second, jv ya, .second, jv xc, .second, jv yc, .second, iv sl, rv oP, jv xc, .second, jv ya, .second, rv oQ, iv (((sl.toUInt32 >>> ((2 : Int32) &&& 31).toUInt32).toInt32) &&& (3 : Int32)), iv (0 : Int32)] [(.int (0 : Int32)), (.int (f_eq oQ oP xc ya xa ya))])) (fun t k => XS.iload X48.here hx rfl (hb hby at_107) rfl k) ?_
          have hc109 : (f_eq oQ oP xc ya xa ya) = (0 : Int32) := by rw [own_eq, if_neg hc71]
          refine Wk.go (A' := T48.setTop (mkF m 112 #[jv xa, .second, jv ya, .second, jv xc, .second, jv yc, .second, iv sl, rv oP, jv xc, .second, jv ya, .second, rv oQ, iv (((sl.toUInt32 >>> ((2 : Int32) &&& 31).toUInt32).toInt32) &&& (3 : Int32)), iv (0 : Int32)] [])) (fun t k => XS.icmpNo X48.here hx rfl (hb hby at_109) rfl (teq hc109).2 k) ?_
          refine Wk.go (A' := T48.setTop (mkF m 113 #[jv xa, .second, jv ya, .second, jv xc, .second, jv yc, .second, iv sl, rv oP, jv xc, .second, jv ya, .second, rv oQ, iv (((sl.toUInt32 >>> ((2 : Int32) &&& 31).toUInt32).toInt32) &&& (3 : Int32)), iv (0 : Int32)] [(.int (1 : Int32))])) (fun t k => XS.iconst X48.here hx rfl (hb hby at_112) k) ?_
          refine Wk.go (A' := T48.setTop (mkF m 117 #[jv xa, .second, jv ya, .second, jv xc, .second, jv yc, .second, iv sl, rv oP, jv xc, .second, jv ya, .second, rv oQ, iv (((sl.toUInt32 >>> ((2 : Int32) &&& 31).toUInt32).toInt32) &&& (3 : Int32)), iv (0 : Int32)] [(.int (1 : Int32))])) (fun t k => XS.goto X48.here hx rfl (pc0 := 113) (pc' := 117) rfl (hb hby at_113) (by decide) (by decide) k) ?_
          refine own_fin (Qv := Q0 Z xa ya xc yc sl wcs h0 n0) (v := some (.int (1 : Int32))) X48 hlk (fun h => by rw [Bd.returns] at h; cases h) (fun fs hr => retN X48 hx (t := .boolean) Bd.returns (by simp) (hb hby at_117) hr) ?_ (by decide) (by decide)
          exact ⟨rfl, N48⟩
      · refine Wk.go (A' := T39.setTop (mkF m 118 #[jv xa, .second, jv ya, .second, jv xc, .second, jv yc, .second, iv sl, rv oP, jv xc, .second, jv ya, .second, rv oQ, iv (((sl.toUInt32 >>> ((2 : Int32) &&& 31).toUInt32).toInt32) &&& (3 : Int32)), .unset] [])) (fun t k => XS.ifYes X39.here hx rfl (pc0 := 64) (pc' := 118) rfl (hb hby at_64) rfl ((if0 _ _).trans (feq hc64).2) (by decide) (by decide) k) ?_
        refine Wk.go (A' := T39.setTop (mkF m 120 #[jv xa, .second, jv ya, .second, jv xc, .second, jv yc, .second, iv sl, rv oP, jv xc, .second, jv ya, .second, rv oQ, iv (((sl.toUInt32 >>> ((2 : Int32) &&& 31).toUInt32).toInt32) &&& (3 : Int32)), .unset] [(.int (((sl.toUInt32 >>> ((2 : Int32) &&& 31).toUInt32).toInt32) &&& (3 : Int32)))])) (fun t k => XS.iload X39.here hx rfl (hb hby at_118) rfl k) ?_
        refine Wk.go (A' := T39.setTop (mkF m 121 #[jv xa, .second, jv ya, .second, jv xc, .second, jv yc, .second, iv sl, rv oP, jv xc, .second, jv ya, .second, rv oQ, iv (((sl.toUInt32 >>> ((2 : Int32) &&& 31).toUInt32).toInt32) &&& (3 : Int32)), .unset] [(.int (1 : Int32)), (.int (((sl.toUInt32 >>> ((2 : Int32) &&& 31).toUInt32).toInt32) &&& (3 : Int32)))])) (fun t k => XS.iconst X39.here hx rfl (hb hby at_120) k) ?_
        by_cases hc121 : (((sl.toUInt32 >>> ((2 : Int32) &&& 31).toUInt32).toInt32) &&& (3 : Int32)) = (1 : Int32)
        · refine Wk.go (A' := T39.setTop (mkF m 124 #[jv xa, .second, jv ya, .second, jv xc, .second, jv yc, .second, iv sl, rv oP, jv xc, .second, jv ya, .second, rv oQ, iv (((sl.toUInt32 >>> ((2 : Int32) &&& 31).toUInt32).toInt32) &&& (3 : Int32)), .unset] [])) (fun t k => XS.icmpNo X39.here hx rfl (hb hby at_121) rfl (teq hc121).2 k) ?_
          refine Wk.go (A' := T39.setTop (mkF m 126 #[jv xa, .second, jv ya, .second, jv xc, .second, jv yc, .second, iv sl, rv oP, jv xc, .second, jv ya, .second, rv oQ, iv (((sl.toUInt32 >>> ((2 : Int32) &&& 31).toUInt32).toInt32) &&& (3 : Int32)), .unset] [(.ref oP)])) (fun t k => XS.aload X39.here hx rfl (hb hby at_124) rfl rfl k) ?_
          refine Wk.go (A' := T39.setTop (mkF m 127 #[jv xa, .second, jv ya, .second, jv xc, .second, jv yc, .second, iv sl, rv oP, jv xc, .second, jv ya, .second, rv oQ, iv (((sl.toUInt32 >>> ((2 : Int32) &&& 31).toUInt32).toInt32) &&& (3 : Int32)), .unset] [.null, (.ref oP)])) (fun t k => XS.aconstNull X39.here hx rfl (hb hby at_126) k) ?_
          obtain ⟨cq49, kq49, q49a, q49b, q49c⟩ := isOf hZ rfl f41
          obtain ⟨_, _, ⟨T49, L49, k49, n49⟩, -, X49, ⟨Lc49, hQ49, l49, y49, z49⟩, st49⟩ := X39.virtualBack hx (y := (⟨"com/example/rookery/rookery/drawing/GridPoint", "equals", "(Ljava/lang/Object;)Z"⟩ : MethodName)) (z := (⟨"com/example/rookery/rookery/drawing/GridPoint", "equals", "(Ljava/lang/Object;)Z"⟩ : MethodName)) hown (mvT hZ (tw13 hw)) (mvT hZ (tw14 hw)) (notFace_of_selects (args := #[]) (mvT hZ (tw16 hw))) (mvT hZ (tw16 hw)) (mvT hZ (tw15 hw)) (by decide) (backOf (W := 0) (rm3n l Z a0 hw [] oP  T39.heap n0 Zp39 ) hZ (tw17 hw) (tw2 hw) (by decide) (by decide)) q49a q49c (g := (mkF m 127 #[jv xa, .second, jv ya, .second, jv xc, .second, jv yc, .second, iv sl, rv oP, jv xc, .second, jv ya, .second, rv oQ, iv (((sl.toUInt32 >>> ((2 : Int32) &&& 31).toUInt32).toInt32) &&& (3 : Int32)), .unset] [.null, (.ref oP)])) rfl (by rw [hml]; rfl) (Steps.refl _) (argsL := [.null]) (rest := []) (lenOf pd_4 rfl) rfl (by show 2 * 0 + _ ≤ _; exact Nat.le_of_eq rfl) (hb hby at_127) (fun _ _ => ⟨rfl, rfl, (by decide : 2 + 0 ≤ _), (by decide : 4 + 0 ≤ _)⟩)
          dsimp only [Pt.U, Pt.locs, Pt.cells, Pt.slots] at X49 l49 y49 z49 st49 hQ49
          subst l49 y49 z49
          obtain ⟨rfl, N49q, hE49⟩ := hQ49
          have N49 := Fr.app N39 N49q
          refine Wk.go (A' := T49.setTop (mkF m 130 #[jv xa, .second, jv ya, .second, jv xc, .second, jv yc, .second, iv sl, rv oP, jv xc, .second, jv ya, .second, rv oQ, iv (((sl.toUInt32 >>> ((2 : Int32) &&& 31).toUInt32).toInt32) &&& (3 : Int32)), .unset] [(.int (f_eqn oP))])) (fun t k => st49.trans k) ?_
          have hc130 : (f_eqn oP) = (0 : Int32) := rfl
          refine Wk.go (A' := T49.setTop (mkF m 133 #[jv xa, .second, jv ya, .second, jv xc, .second, jv yc, .second, iv sl, rv oP, jv xc, .second, jv ya, .second, rv oQ, iv (((sl.toUInt32 >>> ((2 : Int32) &&& 31).toUInt32).toInt32) &&& (3 : Int32)), .unset] [])) (fun t k => XS.ifNo X49.here hx rfl (hb hby at_130) rfl ((if0 _ _).trans (teq hc130).2) k) ?_
          refine Wk.go (A' := T49.setTop (mkF m 134 #[jv xa, .second, jv ya, .second, jv xc, .second, jv yc, .second, iv sl, rv oP, jv xc, .second, jv ya, .second, rv oQ, iv (((sl.toUInt32 >>> ((2 : Int32) &&& 31).toUInt32).toInt32) &&& (3 : Int32)), .unset] [(.int (1 : Int32))])) (fun t k => XS.iconst X49.here hx rfl (hb hby at_133) k) ?_
          refine Wk.go (A' := T49.setTop (mkF m 138 #[jv xa, .second, jv ya, .second, jv xc, .second, jv yc, .second, iv sl, rv oP, jv xc, .second, jv ya, .second, rv oQ, iv (((sl.toUInt32 >>> ((2 : Int32) &&& 31).toUInt32).toInt32) &&& (3 : Int32)), .unset] [(.int (1 : Int32))])) (fun t k => XS.goto X49.here hx rfl (pc0 := 134) (pc' := 138) rfl (hb hby at_134) (by decide) (by decide) k) ?_
          refine own_fin (Qv := Q0 Z xa ya xc yc sl wcs h0 n0) (v := some (.int (1 : Int32))) X49 hlk (fun h => by rw [Bd.returns] at h; cases h) (fun fs hr => retN X49 hx (t := .boolean) Bd.returns (by simp) (hb hby at_138) hr) ?_ (by decide) (by decide)
          exact ⟨rfl, N49⟩
        · refine Wk.go (A' := T39.setTop (mkF m 139 #[jv xa, .second, jv ya, .second, jv xc, .second, jv yc, .second, iv sl, rv oP, jv xc, .second, jv ya, .second, rv oQ, iv (((sl.toUInt32 >>> ((2 : Int32) &&& 31).toUInt32).toInt32) &&& (3 : Int32)), .unset] [])) (fun t k => XS.icmpYes X39.here hx rfl (pc0 := 121) (pc' := 139) rfl (hb hby at_121) rfl (feq hc121).2 (by decide) (by decide) k) ?_
          refine Wk.go (A' := T39.setTop (mkF m 141 #[jv xa, .second, jv ya, .second, jv xc, .second, jv yc, .second, iv sl, rv oP, jv xc, .second, jv ya, .second, rv oQ, iv (((sl.toUInt32 >>> ((2 : Int32) &&& 31).toUInt32).toInt32) &&& (3 : Int32)), .unset] [(.int (((sl.toUInt32 >>> ((2 : Int32) &&& 31).toUInt32).toInt32) &&& (3 : Int32)))])) (fun t k => XS.iload X39.here hx rfl (hb hby at_139) rfl k) ?_
          refine Wk.go (A' := T39.setTop (mkF m 142 #[jv xa, .second, jv ya, .second, jv xc, .second, jv yc, .second, iv sl, rv oP, jv xc, .second, jv ya, .second, rv oQ, iv (((sl.toUInt32 >>> ((2 : Int32) &&& 31).toUInt32).toInt32) &&& (3 : Int32)), .unset] [(.int (2 : Int32)), (.int (((sl.toUInt32 >>> ((2 : Int32) &&& 31).toUInt32).toInt32) &&& (3 : Int32)))])) (fun t k => XS.iconst X39.here hx rfl (hb hby at_141) k) ?_
          by_cases hc142 : (((sl.toUInt32 >>> ((2 : Int32) &&& 31).toUInt32).toInt32) &&& (3 : Int32)) = (2 : Int32)
          · refine Wk.go (A' := T39.setTop (mkF m 145 #[jv xa, .second, jv ya, .second, jv xc, .second, jv yc, .second, iv sl, rv oP, jv xc, .second, jv ya, .second, rv oQ, iv (((sl.toUInt32 >>> ((2 : Int32) &&& 31).toUInt32).toInt32) &&& (3 : Int32)), .unset] [])) (fun t k => XS.icmpNo X39.here hx rfl (hb hby at_142) rfl (teq hc142).2 k) ?_
            refine Wk.go (A' := T39.setTop (mkF m 147 #[jv xa, .second, jv ya, .second, jv xc, .second, jv yc, .second, iv sl, rv oP, jv xc, .second, jv ya, .second, rv oQ, iv (((sl.toUInt32 >>> ((2 : Int32) &&& 31).toUInt32).toInt32) &&& (3 : Int32)), .unset] [(.int sl)])) (fun t k => XS.iload X39.here hx rfl (hb hby at_145) rfl k) ?_
            refine Wk.go (A' := T39.setTop (mkF m 149 #[jv xa, .second, jv ya, .second, jv xc, .second, jv yc, .second, iv sl, rv oP, jv xc, .second, jv ya, .second, rv oQ, iv (((sl.toUInt32 >>> ((2 : Int32) &&& 31).toUInt32).toInt32) &&& (3 : Int32)), .unset] [(.int (8 : Int32)), (.int sl)])) (fun t k => XS.bipush X39.here hx rfl (hb hby at_147) k) ?_
            refine Wk.go (A' := T39.setTop (mkF m 150 #[jv xa, .second, jv ya, .second, jv xc, .second, jv yc, .second, iv sl, rv oP, jv xc, .second, jv ya, .second, rv oQ, iv (((sl.toUInt32 >>> ((2 : Int32) &&& 31).toUInt32).toInt32) &&& (3 : Int32)), .unset] [(.int ((sl.toUInt32 >>> ((8 : Int32) &&& 31).toUInt32).toInt32))])) (fun t k => XS.iushr X39.here hx rfl (hb hby at_149) rfl k) ?_
            refine Wk.go (A' := T39.setTop (mkF m 153 #[jv xa, .second, jv ya, .second, jv xc, .second, jv yc, .second, iv sl, rv oP, jv xc, .second, jv ya, .second, rv oQ, iv (((sl.toUInt32 >>> ((2 : Int32) &&& 31).toUInt32).toInt32) &&& (3 : Int32)), .unset] [(.int (255 : Int32)), (.int ((sl.toUInt32 >>> ((8 : Int32) &&& 31).toUInt32).toInt32))])) (fun t k => XS.sipush X39.here hx rfl (hb hby at_150) k) ?_
            refine Wk.go (A' := T39.setTop (mkF m 154 #[jv xa, .second, jv ya, .second, jv xc, .second, jv yc, .second, iv sl, rv oP, jv xc, .second, jv ya, .second, rv oQ, iv (((sl.toUInt32 >>> ((2 : Int32) &&& 31).toUInt32).toInt32) &&& (3 : Int32)), .unset] [(.int (((sl.toUInt32 >>> ((8 : Int32) &&& 31).toUInt32).toInt32) &&& (255 : Int32)))])) (fun t k => XS.iand X39.here hx rfl (hb hby at_153) rfl k) ?_
            refine Wk.go (A' := T39.setTop (mkF m 155 #[jv xa, .second, jv ya, .second, jv xc, .second, jv yc, .second, iv sl, rv oP, jv xc, .second, jv ya, .second, rv oQ, iv (((sl.toUInt32 >>> ((2 : Int32) &&& 31).toUInt32).toInt32) &&& (3 : Int32)), .unset] [(.int ((((sl.toUInt32 >>> ((8 : Int32) &&& 31).toUInt32).toInt32) &&& (255 : Int32)).toUInt32.toUInt16.toUInt32.toInt32))])) (fun t k => XS.i2c X39.here hx rfl (hb hby at_154) rfl k) ?_
            obtain ⟨_, _, ⟨T50, L50, k50, n50⟩, -, X50, ⟨Lc50, hQ50, l50, y50, z50⟩, st50⟩ := Jvm.LawKit.callS X39 hx (y := (⟨"java/lang/String", "valueOf", "(C)Ljava/lang/String;"⟩ : MethodName)) hown (mvT hZ (tw20 hw)) (mvT hZ (tw21 hw)) (mvT hZ (tw22 hw)) (mvT hZ (tw23 hw)) (by decide) (backOf (W := 0) (rm4 l Z a0 hw [] ((((sl.toUInt32 >>> ((8 : Int32) &&& 31).toUInt32).toInt32) &&& (255 : Int32)).toUInt32.toUInt16.toUInt32.toInt32) wcs T39.heap n0 Zp39 (S0.ext f40.2) hcs (own_ch sl)) hZ (tw23 hw) (tw22 hw) (by decide) (by decide)) (g := (mkF m 155 #[jv xa, .second, jv ya, .second, jv xc, .second, jv yc, .second, iv sl, rv oP, jv xc, .second, jv ya, .second, rv oQ, iv (((sl.toUInt32 >>> ((2 : Int32) &&& 31).toUInt32).toInt32) &&& (3 : Int32)), .unset] [(.int ((((sl.toUInt32 >>> ((8 : Int32) &&& 31).toUInt32).toInt32) &&& (255 : Int32)).toUInt32.toUInt16.toUInt32.toInt32))])) rfl (by rw [hml]; rfl) (argsL := [(.int ((((sl.toUInt32 >>> ((8 : Int32) &&& 31).toUInt32).toInt32) &&& (255 : Int32)).toUInt32.toUInt16.toUInt32.toInt32))]) (rest := []) (lenOf pd_5 rfl) rfl (by show 2 * 0 + _ ≤ _; exact Nat.le_of_eq rfl) (hb hby at_155) (fun _ _ => ⟨rfl, rfl, (by decide : 2 + 2 ≤ _), (by decide : 4 + 5 ≤ _)⟩)
            dsimp only [Pt.U, Pt.locs, Pt.cells, Pt.slots] at X50 l50 y50 z50 st50 hQ50
            subst l50 y50 z50
            obtain ⟨b50, rfl, N50q, Kq50, g_b50, bb_b50, Eq50⟩ := hQ50
            have N50 := Fr.app N39 N50q
            have f51 := f40.keep Kq50 all0
            have f52 := f41.keep Kq50
            have f53 := f42.keep Kq50 nin0
            have f54 := f43.keep Kq50 nin0
            have f55 := Eq39.keep Kq50
            have f56 := Fq39_x.keep Kq50 nin0
            have f57 := Fq39_y.keep Kq50 nin0
            have Zp50 : n0 ≤ T50.heap.size := Nat.le_trans Zp39 Kq50.1
            refine Wk.go (A' := T50.setTop (mkF m 158 #[jv xa, .second, jv ya, .second, jv xc, .second, jv yc, .second, iv sl, rv oP, jv xc, .second, jv ya, .second, rv oQ, iv (((sl.toUInt32 >>> ((2 : Int32) &&& 31).toUInt32).toInt32) &&& (3 : Int32)), .unset] [(.ref b50)])) (fun t k => st50 t k) ?_
            refine Wk.go (A' := T50.setTop (mkF m 160 #[jv xa, .second, jv ya, .second, jv xc, .second, jv yc, .second, iv sl, rv oP, jv xc, .second, jv ya, .second, rv oQ, iv (((sl.toUInt32 >>> ((2 : Int32) &&& 31).toUInt32).toInt32) &&& (3 : Int32)), rv b50] [])) (fun t k => XS.astore X50.here hx rfl (hb hby at_158) rfl rfl (l' := #[jv xa, .second, jv ya, .second, jv xc, .second, jv yc, .second, iv sl, rv oP, jv xc, .second, jv ya, .second, rv oQ, iv (((sl.toUInt32 >>> ((2 : Int32) &&& 31).toUInt32).toInt32) &&& (3 : Int32)), rv b50]) rfl k) ?_
            refine Wk.go (A' := T50.setTop (mkF m 162 #[jv xa, .second, jv ya, .second, jv xc, .second, jv yc, .second, iv sl, rv oP, jv xc, .second, jv ya, .second, rv oQ, iv (((sl.toUInt32 >>> ((2 : Int32) &&& 31).toUInt32).toInt32) &&& (3 : Int32)), rv b50] [(.ref oP)])) (fun t k => XS.aload X50.here hx rfl (hb hby at_160) rfl rfl k) ?_
            refine Wk.go (A' := T50.setTop (mkF m 164 #[jv xa, .second, jv ya, .second, jv xc, .second, jv yc, .second, iv sl, rv oP, jv xc, .second, jv ya, .second, rv oQ, iv (((sl.toUInt32 >>> ((2 : Int32) &&& 31).toUInt32).toInt32) &&& (3 : Int32)), rv b50] [(.ref b50), (.ref oP)])) (fun t k => XS.aload X50.here hx rfl (hb hby at_162) rfl rfl k) ?_
            obtain ⟨cq58, kq58, q58a, q58b, q58c⟩ := isOf hZ rfl f52
            obtain ⟨_, _, ⟨T58, L58, k58, n58⟩, -, X58, ⟨Lc58, hQ58, l58, y58, z58⟩, st58⟩ := X50.virtualBack hx (y := (⟨"com/example/rookery/rookery/drawing/GridPoint", "equals", "(Ljava/lang/Object;)Z"⟩ : MethodName)) (z := (⟨"com/example/rookery/rookery/drawing/GridPoint", "equals", "(Ljava/lang/Object;)Z"⟩ : MethodName)) hown (mvT hZ (tw13 hw)) (mvT hZ (tw14 hw)) (notFace_of_selects (args := #[]) (mvT hZ (tw16 hw))) (mvT hZ (tw16 hw)) (mvT hZ (tw15 hw)) (by decide) (backOf (W := 0) (rm3s l Z a0 hw [] oP b50  T50.heap n0 Zp50 Eq50) hZ (tw17 hw) (tw2 hw) (by decide) (by decide)) q58a q58c (g := (mkF m 164 #[jv xa, .second, jv ya, .second, jv xc, .second, jv yc, .second, iv sl, rv oP, jv xc, .second, jv ya, .second, rv oQ, iv (((sl.toUInt32 >>> ((2 : Int32) &&& 31).toUInt32).toInt32) &&& (3 : Int32)), rv b50] [(.ref b50), (.ref oP)])) rfl (by rw [hml]; rfl) (Steps.refl _) (argsL := [(.ref b50)]) (rest := []) (lenOf pd_4 rfl) rfl (by show 2 * 0 + _ ≤ _; exact Nat.le_of_eq rfl) (hb hby at_164) (fun _ _ => ⟨rfl, rfl, (by decide : 4 + 0 ≤ _), (by decide : 9 + 0 ≤ _)⟩)
            dsimp only [Pt.U, Pt.locs, Pt.cells, Pt.slots] at X58 l58 y58 z58 st58 hQ58
            subst l58 y58 z58
            obtain ⟨rfl, N58q, hE58⟩ := hQ58
            have N58 := Fr.app N50 N58q
            refine Wk.go (A' := T58.setTop (mkF m 167 #[jv xa, .second, jv ya, .second, jv xc, .second, jv yc, .second, iv sl, rv oP, jv xc, .second, jv ya, .second, rv oQ, iv (((sl.toUInt32 >>> ((2 : Int32) &&& 31).toUInt32).toInt32) &&& (3 : Int32)), rv b50] [(.int (f_eqs oP b50))])) (fun t k => st58.trans k) ?_
            have hc167 : (f_eqs oP b50) = (0 : Int32) := rfl
            refine Wk.go (A' := T58.setTop (mkF m 170 #[jv xa, .second, jv ya, .second, jv xc, .second, jv yc, .second, iv sl, rv oP, jv xc, .second, jv ya, .second, rv oQ, iv (((sl.toUInt32 >>> ((2 : Int32) &&& 31).toUInt32).toInt32) &&& (3 : Int32)), rv b50] [])) (fun t k => XS.ifNo X58.here hx rfl (hb hby at_167) rfl ((if0 _ _).trans (teq hc167).2) k) ?_
            refine Wk.go (A' := T58.setTop (mkF m 171 #[jv xa, .second, jv ya, .second, jv xc, .second, jv yc, .second, iv sl, rv oP, jv xc, .second, jv ya, .second, rv oQ, iv (((sl.toUInt32 >>> ((2 : Int32) &&& 31).toUInt32).toInt32) &&& (3 : Int32)), rv b50] [(.int (1 : Int32))])) (fun t k => XS.iconst X58.here hx rfl (hb hby at_170) k) ?_
            refine Wk.go (A' := T58.setTop (mkF m 175 #[jv xa, .second, jv ya, .second, jv xc, .second, jv yc, .second, iv sl, rv oP, jv xc, .second, jv ya, .second, rv oQ, iv (((sl.toUInt32 >>> ((2 : Int32) &&& 31).toUInt32).toInt32) &&& (3 : Int32)), rv b50] [(.int (1 : Int32))])) (fun t k => XS.goto X58.here hx rfl (pc0 := 171) (pc' := 175) rfl (hb hby at_171) (by decide) (by decide) k) ?_
            refine own_fin (Qv := Q0 Z xa ya xc yc sl wcs h0 n0) (v := some (.int (1 : Int32))) X58 hlk (fun h => by rw [Bd.returns] at h; cases h) (fun fs hr => retN X58 hx (t := .boolean) Bd.returns (by simp) (hb hby at_175) hr) ?_ (by decide) (by decide)
            exact ⟨rfl, N58⟩
          · refine Wk.go (A' := T39.setTop (mkF m 176 #[jv xa, .second, jv ya, .second, jv xc, .second, jv yc, .second, iv sl, rv oP, jv xc, .second, jv ya, .second, rv oQ, iv (((sl.toUInt32 >>> ((2 : Int32) &&& 31).toUInt32).toInt32) &&& (3 : Int32)), .unset] [])) (fun t k => XS.icmpYes X39.here hx rfl (pc0 := 142) (pc' := 176) rfl (hb hby at_142) rfl (feq hc142).2 (by decide) (by decide) k) ?_
            refine Wk.go (A' := T39.setTop (mkF m 178 #[jv xa, .second, jv ya, .second, jv xc, .second, jv yc, .second, iv sl, rv oP, jv xc, .second, jv ya, .second, rv oQ, iv (((sl.toUInt32 >>> ((2 : Int32) &&& 31).toUInt32).toInt32) &&& (3 : Int32)), .unset] [(.ref oP)])) (fun t k => XS.aload X39.here hx rfl (hb hby at_176) rfl rfl k) ?_
            refine Wk.go (A' := T39.setTop (mkF m 180 #[jv xa, .second, jv ya, .second, jv xc, .second, jv yc, .second, iv sl, rv oP, jv xc, .second, jv ya, .second, rv oQ, iv (((sl.toUInt32 >>> ((2 : Int32) &&& 31).toUInt32).toInt32) &&& (3 : Int32)), .unset] [(.ref oP), (.ref oP)])) (fun t k => XS.aload X39.here hx rfl (hb hby at_178) rfl rfl k) ?_
            obtain ⟨cq59, kq59, q59a, q59b, q59c⟩ := isOf hZ rfl f41
            obtain ⟨_, _, ⟨T59, L59, k59, n59⟩, -, X59, ⟨Lc59, hQ59, l59, y59, z59⟩, st59⟩ := X39.virtualBack hx (y := (⟨"com/example/rookery/rookery/drawing/GridPoint", "equals", "(Ljava/lang/Object;)Z"⟩ : MethodName)) (z := (⟨"com/example/rookery/rookery/drawing/GridPoint", "equals", "(Ljava/lang/Object;)Z"⟩ : MethodName)) hown (mvT hZ (tw13 hw)) (mvT hZ (tw14 hw)) (notFace_of_selects (args := #[]) (mvT hZ (tw16 hw))) (mvT hZ (tw16 hw)) (mvT hZ (tw15 hw)) (by decide) (backOf (W := 0) (rm3 l Z a0 hw [] oP oP xa ya xa ya T39.heap n0 Zp39 f41 f42 f43 f42 f43) hZ (tw17 hw) (tw2 hw) (by decide) (by decide)) q59a q59c (g := (mkF m 180 #[jv xa, .second, jv ya, .second, jv xc, .second, jv yc, .second, iv sl, rv oP, jv xc, .second, jv ya, .second, rv oQ, iv (((sl.toUInt32 >>> ((2 : Int32) &&& 31).toUInt32).toInt32) &&& (3 : Int32)), .unset] [(.ref oP), (.ref oP)])) rfl (by rw [hml]; rfl) (Steps.refl _) (argsL := [(.ref oP)]) (rest := []) (lenOf pd_4 rfl) rfl (by show 2 * 0 + _ ≤ _; exact Nat.le_of_eq rfl) (hb hby at_180) (fun _ _ => ⟨rfl, rfl, (by decide : 2 + 0 ≤ _), (by decide : 4 + 0 ≤ _)⟩)
            dsimp only [Pt.U, Pt.locs, Pt.cells, Pt.slots] at X59 l59 y59 z59 st59 hQ59
            subst l59 y59 z59
            obtain ⟨rfl, N59q, hE59⟩ := hQ59
            have N59 := Fr.app N39 N59q
            refine Wk.go (A' := T59.setTop (mkF m 183 #[jv xa, .second, jv ya, .second, jv xc, .second, jv yc, .second, iv sl, rv oP, jv xc, .second, jv ya, .second, rv oQ, iv (((sl.toUInt32 >>> ((2 : Int32) &&& 31).toUInt32).toInt32) &&& (3 : Int32)), .unset] [(.int (f_eq oP oP xa ya xa ya))])) (fun t k => st59.trans k) ?_
            refine own_fin (Qv := Q0 Z xa ya xc yc sl wcs h0 n0) (v := some (.int (nar .boolean (f_eq oP oP xa ya xa ya)))) X59 hlk (fun h => by rw [Bd.returns] at h; cases h) (fun fs hr => retN X59 hx (t := .boolean) Bd.returns (by simp) (hb hby at_183) hr) ?_ (by decide) (by decide)
            exact ⟨congrArg (fun z => some (Value.int z)) (own_self _ _ _), N59⟩
  · refine Wk.go (A' := T3.setTop (mkF m 18 #[jv xa, .second, jv ya, .second, jv xc, .second, jv yc, .second, iv sl, rv oP, .unset, .unset, .unset, .unset, .unset, .unset, .unset] [])) (fun t k => XS.ifNo X3.here hx rfl (hb hby at_15) rfl ((if0 _ _).trans (feq hc15).1) k) ?_
    refine Wk.go (A' := T3.setTop (mkF m 19 #[jv xa, .second, jv ya, .second, jv xc, .second, jv yc, .second, iv sl, rv oP, .unset, .unset, .unset, .unset, .unset, .unset, .unset] [(.long xa)])) (fun t k => XS.lloadN X3.here hx rfl (hb hby at_18) rfl k) ?_
    refine Wk.go (A' := T3.setTop (mkF m 24 #[jv xa, .second, jv ya, .second, jv xc, .second, jv yc, .second, iv sl, rv oP, .unset, .unset, .unset, .unset, .unset, .unset, .unset] [(.long xa)])) (fun t k => XS.goto X3.here hx rfl (pc0 := 19) (pc' := 24) rfl (hb hby at_19) (by decide) (by decide) k) ?_
    refine Wk.go (A' := T3.setTop (mkF m 26 #[jv xa, .second, jv ya, .second, jv xc, .second, jv yc, .second, iv sl, rv oP, jv xa, .second, .unset, .unset, .unset, .unset, .unset] [])) (fun t k => XS.lstore X3.here hx rfl (hb hby at_24) rfl (l' := #[jv xa, .second, jv ya, .second, jv xc, .second, jv yc, .second, iv sl, rv oP, jv xa, .second, .unset, .unset, .unset, .unset, .unset]) rfl k) ?_
    refine Wk.go (A' := T3.setTop (mkF m 28 #[jv xa, .second, jv ya, .second, jv xc, .second, jv yc, .second, iv sl, rv oP, jv xa, .second, .unset, .unset, .unset, .unset, .unset] [(.int sl)])) (fun t k => XS.iload X3.here hx rfl (hb hby at_26) rfl k) ?_
    refine Wk.go (A' := T3.setTop (mkF m 29 #[jv xa, .second, jv ya, .second, jv xc, .second, jv yc, .second, iv sl, rv oP, jv xa, .second, .unset, .unset, .unset, .unset, .unset] [(.int (2 : Int32)), (.int sl)])) (fun t k => XS.iconst X3.here hx rfl (hb hby at_28) k) ?_
    refine Wk.go (A' := T3.setTop (mkF m 30 #[jv xa, .second, jv ya, .second, jv xc, .second, jv yc, .second, iv sl, rv oP, jv xa, .second, .unset, .unset, .unset, .unset, .unset] [(.int (sl &&& (2 : Int32)))])) (fun t k => XS.iand X3.here hx rfl (hb hby at_29) rfl k) ?_
    by_cases hc30 : (sl &&& (2 : Int32)) = (0 : Int32)
    · refine Wk.go (A' := T3.setTop (mkF m 37 #[jv xa, .second, jv ya, .second, jv xc, .second, jv yc, .second, iv sl, rv oP, jv xa, .second, .unset, .unset, .unset, .unset, .unset] [])) (fun t k => XS.ifYes X3.here hx rfl (pc0 := 30) (pc' := 37) rfl (hb hby at_30) rfl ((if0 _ _).trans (teq hc30).1) (by decide) (by decide) k) ?_
      refine Wk.go (A' := T3.setTop (mkF m 39 #[jv xa, .second, jv ya, .second, jv xc, .second, jv yc, .second, iv sl, rv oP, jv xa, .second, .unset, .unset, .unset, .unset, .unset] [(.long yc)])) (fun t k => XS.lload X3.here hx rfl (hb hby at_37) rfl k) ?_
      refine Wk.go (A' := T3.setTop (mkF m 41 #[jv xa, .second, jv ya, .second, jv xc, .second, jv yc, .second, iv sl, rv oP, jv xa, .second, jv yc, .second, .unset, .unset, .unset] [])) (fun t k => XS.lstore X3.here hx rfl (hb hby at_39) rfl (l' := #[jv xa, .second, jv ya, .second, jv xc, .second, jv yc, .second, iv sl, rv oP, jv xa, .second, jv yc, .second, .unset, .unset, .unset]) rfl k) ?_
      obtain ⟨T60, h60, X60, e60, E60, A60, D60, -, st60⟩ := newO X3 hx hZ hown (tw0 hw) (tw1 hw) (tw2 hw) rfl (g := (mkF m 41 #[jv xa, .second, jv ya, .second, jv xc, .second, jv yc, .second, iv sl, rv oP, jv xa, .second, jv yc, .second, .unset, .unset, .unset] [])) rfl (hb hby at_41) (by decide) (by decide)
      obtain ⟨oQ, g60⟩ : ∃ z, z = T3.heap.size := ⟨_, rfl⟩
      rw [← g60] at A60 D60 st60
      have g_oQ : n0 ≤ oQ := Nat.le_trans Zp3 (Nat.le_of_eq g60.symm)
      have ne_oP_oQ : oP ≠ oQ := Nat.ne_of_lt (Nat.lt_of_lt_of_le Eq3.lt (Nat.le_of_eq g60.symm))
      have f61 := f4.ext E60
      have f62 := Eq3.ext E60
      have f63 := Fq3_x.ext E60
      have f64 := Fq3_y.ext E60
      have F_x_oQ : Fld Z h60 oQ "com/example/rookery/rookery/drawing/GridPoint" "x" "J" (.long (0 : Int64)) := D60 (Or.inr (tw10 hw)) (ty := .long) (by decide)
      have F_y_oQ : Fld Z h60 oQ "com/example/rookery/rookery/drawing/GridPoint" "y" "J" (.long (0 : Int64)) := D60 (Or.inr (tw12 hw)) (ty := .long) (by decide)
      have Zp60 : n0 ≤ h60.size := Nat.le_trans Zp3 E60.1
      refine Wk.go (A' := T60.setTop (mkF m 44 #[jv xa, .second, jv ya, .second, jv xc, .second, jv yc, .second, iv sl, rv oP, jv xa, .second, jv yc, .second, .unset, .unset, .unset] [(.ref oQ)])) (fun t k => st60 t k) ?_
      refine Wk.go (A' := T60.setTop (mkF m 45 #[jv xa, .second, jv ya, .second, jv xc, .second, jv yc, .second, iv sl, rv oP, jv xa, .second, jv yc, .second, .unset, .unset, .unset] [(.ref oQ), (.ref oQ)])) (fun t k => XS.dup X60.here hx rfl (hb hby at_44) rfl rfl k) ?_
      refine Wk.go (A' := T60.setTop (mkF m 47 #[jv xa, .second, jv ya, .second, jv xc, .second, jv yc, .second, iv sl, rv oP, jv xa, .second, jv yc, .second, .unset, .unset, .unset] [(.long xa), (.ref oQ), (.ref oQ)])) (fun t k => XS.lload X60.here hx rfl (hb hby at_45) rfl k) ?_
      refine Wk.go (A' := T60.setTop (mkF m 49 #[jv xa, .second, jv ya, .second, jv xc, .second, jv yc, .second, iv sl, rv oP, jv xa, .second, jv yc, .second, .unset, .unset, .unset] [(.long yc), (.long xa), (.ref oQ), (.ref oQ)])) (fun t k => XS.lload X60.here hx rfl (hb hby at_47) rfl k) ?_
      obtain ⟨_, _, ⟨T65, L65, k65, n65⟩, -, X65, ⟨Lc65, hQ65, l65, y65, z65⟩, st65⟩ := X60.specialBack hx (y := (⟨"com/example/rookery/rookery/drawing/GridPoint", "<init>", "(JJ)V"⟩ : MethodName)) rfl hown (mvT hZ (tw3 hw)) (mvT hZ (tw4 hw)) (mvT hZ (tw5 hw)) (by decide) (backOf (W := 1) (rm1 l Z a0 hw [] oQ xa yc  h60 n0 Zp60 A60 F_x_oQ F_y_oQ g_oQ ) hZ (tw5 hw) (tw2 hw) (by decide) (by decide)) (g := (mkF m 49 #[jv xa, .second, jv ya, .second, jv xc, .second, jv yc, .second, iv sl, rv oP, jv xa, .second, jv yc, .second, .unset, .unset, .unset] [(.long yc), (.long xa), (.ref oQ), (.ref oQ)])) rfl (by rw [hml]; rfl) (Steps.refl _) (a := oQ) (argsL := [(.long xa), (.long yc)]) (rest := [(.ref oQ)]) (lenOf pd_3 rfl) rfl (by show 2 * 0 + _ ≤ _; exact Nat.le_of_eq rfl) (hb hby at_49) (fun _ _ => ⟨rfl, e60, (by decide : 2 + 0 ≤ _), (by decide : 4 + 0 ≤ _)⟩)
      dsimp only [Pt.U, Pt.locs, Pt.cells, Pt.slots] at X65 l65 y65 z65 st65 hQ65
      subst l65 y65 z65
      obtain ⟨rfl, N65q, Kq65, Eq65, Fq65_x, Fq65_y⟩ := hQ65
      have N65 := Fr.app N3 N65q
      have f66 := f61.keep Kq65 (allS g_oQ all0)
      have f67 := f62.keep Kq65
      have f68 := f63.keep Kq65 (ninS ne_oP_oQ nin0)
      have f69 := f64.keep Kq65 (ninS ne_oP_oQ nin0)
      have f70 := A60.keep Kq65
      have Zp65 : n0 ≤ T65.heap.size := Nat.le_trans Zp60 Kq65.1
      refine Wk.go (A' := T65.setTop (mkF m 52 #[jv xa, .second, jv ya, .second, jv xc, .second, jv yc, .second, iv sl, rv oP, jv xa, .second, jv yc, .second, .unset, .unset, .unset] [(.ref oQ)])) (fun t k => st65.trans k) ?_
      refine Wk.go (A' := T65.setTop (mkF m 54 #[jv xa, .second, jv ya, .second, jv xc, .second, jv yc, .second, iv sl, rv oP, jv xa, .second, jv yc, .second, rv oQ, .unset, .unset] [])) (fun t k => XS.astore X65.here hx rfl (hb hby at_52) rfl rfl (l' := #[jv xa, .second, jv ya, .second, jv xc, .second, jv yc, .second, iv sl, rv oP, jv xa, .second, jv yc, .second, rv oQ, .unset, .unset]) rfl k) ?_
      refine Wk.go (A' := T65.setTop (mkF m 56 #[jv xa, .second, jv ya, .second, jv xc, .second, jv yc, .second, iv sl, rv oP, jv xa, .second, jv yc, .second, rv oQ, .unset, .unset] [(.int sl)])) (fun t k => XS.iload X65.here hx rfl (hb hby at_54) rfl k) ?_
      refine Wk.go (A' := T65.setTop (mkF m 57 #[jv xa, .second, jv ya, .second, jv xc, .second, jv yc, .second, iv sl, rv oP, jv xa, .second, jv yc, .second, rv oQ, .unset, .unset] [(.int (2 : Int32)), (.int sl)])) (fun t k => XS.iconst X65.here hx rfl (hb hby at_56) k) ?_
      refine Wk.go (A' := T65.setTop (mkF m 58 #[jv xa, .second, jv ya, .second, jv xc, .second, jv yc, .second, iv sl, rv oP, jv xa, .second, jv yc, .second, rv oQ, .unset, .unset] [(.int ((sl.toUInt32 >>> ((2 : Int32) &&& 31).toUInt32).toInt32))])) (fun t k => XS.iushr X65.here hx rfl (hb hby at_57) rfl k) ?_
      refine Wk.go (A' := T65.setTop (mkF m 59 #[jv xa, .second, jv ya, .second, jv xc, .second, jv yc, .second, iv sl, rv oP, jv xa, .second, jv yc, .second, rv oQ, .unset, .unset] [(.int (3 : Int32)), (.int ((sl.toUInt32 >>> ((2 : Int32) &&& 31).toUInt32).toInt32))])) (fun t k => XS.iconst X65.here hx rfl (hb hby at_58) k) ?_
      refine Wk.go (A' := T65.setTop (mkF m 60 #[jv xa, .second, jv ya, .second, jv xc, .second, jv yc, .second, iv sl, rv oP, jv xa, .second, jv yc, .second, rv oQ, .unset, .unset] [(.int (((sl.toUInt32 >>> ((2 : Int32) &&& 31).toUInt32).toInt32) &&& (3 : Int32)))])) (fun t k => XS.iand X65.here hx rfl (hb hby at_59) rfl k) ?_
      refine Wk.go (A' := T65.setTop (mkF m 62 #[jv xa, .second, jv ya, .second, jv xc, .second, jv yc, .second, iv sl, rv oP, jv xa, .second, jv yc, .second, rv oQ, iv (((sl.toUInt32 >>> ((2 : Int32) &&& 31).toUInt32).toInt32) &&& (3 : Int32)), .unset] [])) (fun t k => XS.istore X65.here hx rfl (hb hby at_60) rfl (l' := #[jv xa, .second, jv ya, .second, jv xc, .second, jv yc, .second, iv sl, rv oP, jv xa, .second, jv yc, .second, rv oQ, iv (((sl.toUInt32 >>> ((2 : Int32) &&& 31).toUInt32).toInt32) &&& (3 : Int32)), .unset]) rfl k) ?_
      refine Wk.go (A' := T65.setTop (mkF m 64 #[jv xa, .second, jv ya, .second, jv xc, .second, jv yc, .second, iv sl, rv oP, jv xa, .second, jv yc, .second, rv oQ, iv (((sl.toUInt32 >>> ((2 : Int32) &&& 31).toUInt32).toInt32) &&& (3 : Int32)), .unset] [(.int (((sl.toUInt32 >>> ((2 : Int32) &&& 31).toUInt32).toInt32) &&& (3 : Int32)))])) (fun t k => XS.iload X65.here hx rfl (hb hby at_62) rfl k) ?_
      by_cases hc64 : (((sl.toUInt32 >>> ((2 : Int32) &&& 31).toUInt32).toInt32) &&& (3 : Int32)) = (0 : Int32)
      · refine Wk.go (A' := T65.setTop (mkF m 67 #[jv xa, .second, jv ya, .second, jv xc, .second, jv yc, .second, iv sl, rv oP, jv xa, .second, jv yc, .second, rv oQ, iv (((sl.toUInt32 >>> ((2 : Int32) &&& 31).toUInt32).toInt32) &&& (3 : Int32)), .unset] [])) (fun t k => XS.ifNo X65.here hx rfl (hb hby at_64) rfl ((if0 _ _).trans (teq hc64).2) k) ?_
        refine Wk.go (A' := T65.setTop (mkF m 69 #[jv xa, .second, jv ya, .second, jv xc, .second, jv yc, .second, iv sl, rv oP, jv xa, .second, jv yc, .second, rv oQ, iv (((sl.toUInt32 >>> ((2 : Int32) &&& 31).toUInt32).toInt32) &&& (3 : Int32)), .unset] [(.long xa)])) (fun t k => XS.lload X65.here hx rfl (hb hby at_67) rfl k) ?_
        refine Wk.go (A' := T65.setTop (mkF m 70 #[jv xa, .second, jv ya, .second, jv xc, .second, jv yc, .second, iv sl, rv oP, jv xa, .second, jv yc, .second, rv oQ, iv (((sl.toUInt32 >>> ((2 : Int32) &&& 31).toUInt32).toInt32) &&& (3 : Int32)), .unset] [(.long xa), (.long xa)])) (fun t k => XS.lloadN X65.here hx rfl (hb hby at_69) rfl k) ?_
        refine Wk.go (A' := T65.setTop (mkF m 71 #[jv xa, .second, jv ya, .second, jv xc, .second, jv yc, .second, iv sl, rv oP, jv xa, .second, jv yc, .second, rv oQ, iv (((sl.toUInt32 >>> ((2 : Int32) &&& 31).toUInt32).toInt32) &&& (3 : Int32)), .unset] [(.int (lcmpW xa xa))])) (fun t k => XS.lcmp X65.here hx rfl (hb hby at_70) rfl k) ?_
        have hc71 : xa = xa := rfl
        refine Wk.go (A' := T65.setTop (mkF m 74 #[jv xa, .second, jv ya, .second, jv xc, .second, jv yc, .second, iv sl, rv oP, jv xa, .second, jv yc, .second, rv oQ, iv (((sl.toUInt32 >>> ((2 : Int32) &&& 31).toUInt32).toInt32) &&& (3 : Int32)), .unset] [])) (fun t k => XS.ifNo X65.here hx rfl (hb hby at_71) rfl ((if0 _ _).trans (teq ((lw_eq _ _).mpr hc71)).2) k) ?_
        refine Wk.go (A' := T65.setTop (mkF m 76 #[jv xa, .second, jv ya, .second, jv xc, .second, jv yc, .second, iv sl, rv oP, jv xa, .second, jv yc, .second, rv oQ, iv (((sl.toUInt32 >>> ((2 : Int32) &&& 31).toUInt32).toInt32) &&& (3 : Int32)), .unset] [(.long yc)])) (fun t k => XS.lload X65.here hx rfl (hb hby at_74) rfl k) ?_
        refine Wk.go (A' := T65.setTop (mkF m 77 #[jv xa, .second, jv ya, .second, jv xc, .second, jv yc, .second, iv sl, rv oP, jv xa, .second, jv yc, .second, rv oQ, iv (((sl.toUInt32 >>> ((2 : Int32) &&& 31).toUInt32).toInt32) &&& (3 : Int32)), .unset] [(.long ya), (.long yc)])) (fun t k => XS.lloadN X65.here hx rfl (hb hby at_76) rfl k) ?_
        refine Wk.go (A' := T65.setTop (mkF m 78 #[jv xa, .second, jv ya, .second, jv xc, .second, jv yc, .second, iv sl, rv oP, jv xa, .second, jv yc, .second, rv oQ, iv (((sl.toUInt32 >>> ((2 : Int32) &&& 31).toUInt32).toInt32) &&& (3 : Int32)), .unset] [(.int (lcmpW yc ya))])) (fun t k => XS.lcmp X65.here hx rfl (hb hby at_77) rfl k) ?_
        by_cases hc78 : yc = ya
        · refine Wk.go (A' := T65.setTop (mkF m 81 #[jv xa, .second, jv ya, .second, jv xc, .second, jv yc, .second, iv sl, rv oP, jv xa, .second, jv yc, .second, rv oQ, iv (((sl.toUInt32 >>> ((2 : Int32) &&& 31).toUInt32).toInt32) &&& (3 : Int32)), .unset] [])) (fun t k => XS.ifNo X65.here hx rfl (hb hby at_78) rfl ((if0 _ _).trans (teq ((lw_eq _ _).mpr hc78)).2) k) ?_
          refine Wk.go (A' := T65.setTop (mkF m 82 #[jv xa, .second, jv ya, .second, jv xc, .second, jv yc, .second, iv sl, rv oP, jv xa, .second, jv yc, .second, rv oQ, iv (((sl.toUInt32 >>> ((2 : Int32) &&& 31).toUInt32).toInt32) &&& (3 : Int32)), .unset] [(.int (1 : Int32))])) (fun t k => XS.iconst X65.here hx rfl (hb hby at_81) k) ?_
          refine Wk.go (A' := T65.setTop (mkF m 86 #[jv xa, .second, jv ya, .second, jv xc, .second, jv yc, .second, iv sl, rv oP, jv xa, .second, jv yc, .second, rv oQ, iv (((sl.toUInt32 >>> ((2 : Int32) &&& 31).toUInt32).toInt32) &&& (3 : Int32)), .unset] [(.int (1 : Int32))])) (fun t k => XS.goto X65.here hx rfl (pc0 := 82) (pc' := 86) rfl (hb hby at_82) (by decide) (by decide) k) ?_
          refine Wk.go (A' := T65.setTop (mkF m 88 #[jv xa, .second, jv ya, .second, jv xc, .second, jv yc, .second, iv sl, rv oP, jv xa, .second, jv yc, .second, rv oQ, iv (((sl.toUInt32 >>> ((2 : Int32) &&& 31).toUInt32).toInt32) &&& (3 : Int32)), iv (1 : Int32)] [])) (fun t k => XS.istore X65.here hx rfl (hb hby at_86) rfl (l' := #[jv xa, .second, jv ya, .second, jv xc, .second, jv yc, .second, iv sl, rv oP, jv xa, .second, jv yc, .second, rv oQ, iv (((sl.toUInt32 >>> ((2 : Int32) &&& 31).toUInt32).toInt32) &&& (3 : Int32)), iv (1 : Int32)]) rfl k) ?_
          refine Wk.go (A' := T65.setTop (mkF m 90 #[jv xa, .second, jv ya, .second, jv xc, .second, jv yc, .second, iv sl, rv oP, jv xa, .second, jv yc, .second, rv oQ, iv (((sl.toUInt32 >>> ((2 : Int32) &&& 31).toUInt32).toInt32) &&& (3 : Int32)), iv (1 : Int32)] [(.ref oP)])) (fun t k => XS.aload X65.here hx rfl (hb hby at_88) rfl rfl k) ?_
          refine Wk.go (A' := T65.setTop (mkF m 92 #[jv xa, .second, jv ya, .second, jv xc, .second, jv yc, .second, iv sl, rv oP, jv xa, .second, jv yc, .second, rv oQ, iv (((sl.toUInt32 >>> ((2 : Int32) &&& 31).toUInt32).toInt32) &&& (3 : Int32)), iv (1 : Int32)] [(.ref oQ), (.ref oP)])) (fun t k => XS.aload X65.here hx rfl (hb hby at_90) rfl rfl k) ?_
          obtain ⟨cq71, kq71, q71a, q71b, q71c⟩ := isOf hZ rfl f67
          obtain ⟨_, _, ⟨T71, L71, k71, n71⟩, -, X71, ⟨Lc71, hQ71, l71, y71, z71⟩, st71⟩ := X65.virtualBack hx (y := (⟨"com/example/rookery/rookery/drawing/GridPoint", "equals", "(Ljava/lang/Object;)Z"⟩ : MethodName)) (z := (⟨"com/example/rookery/rookery/drawing/GridPoint", "equals", "(Ljava/lang/Object;)Z"⟩ : MethodName)) hown (mvT hZ (tw13 hw)) (mvT hZ (tw14 hw)) (notFace_of_selects (args := #[]) (mvT hZ (tw16 hw))) (mvT hZ (tw16 hw)) (mvT hZ (tw15 hw)) (by decide) (backOf (W := 0) (rm3 l Z a0 hw [] oP oQ xa ya xa yc T65.heap n0 Zp65 Eq65 f68 f69 Fq65_x Fq65_y) hZ (tw17 hw) (tw2 hw) (by decide) (by decide)) q71a q71c (g := (mkF m 92 #[jv xa, .second, jv ya, .second, jv xc, .second, jv yc, .second, iv sl, rv oP, jv xa, .second, jv yc, .second, rv oQ, iv (((sl.toUInt32 >>> ((2 : Int32) &&& 31).toUInt32).toInt32) &&& (3 : Int32)), iv (1 : Int32)] [(.ref oQ), (.ref oP)])) rfl (by rw [hml]; rfl) (Steps.refl _) (argsL := [(.ref oQ)]) (rest := []) (lenOf pd_4 rfl) rfl (by show 2 * 0 + _ ≤ _; exact Nat.le_of_eq rfl) (hb hby at_92) (fun _ _ => ⟨rfl, rfl, (by decide : 2 + 0 ≤ _), (by decide : 4 + 0 ≤ _)⟩)
          dsimp only [Pt.U, Pt.locs, Pt.cells, Pt.slots] at X71 l71 y71 z71 st71 hQ71
          subst l71 y71 z71
          obtain ⟨rfl, N71q, hE71⟩ := hQ71
          have N71 := Fr.app N65 N71q
          refine Wk.go (A' := T71.setTop (mkF m 95 #[jv xa, .second, jv ya, .second, jv xc, .second, jv yc, .second, iv sl, rv oP, jv xa, .second, jv yc, .second, rv oQ, iv (((sl.toUInt32 >>> ((2 : Int32) &&& 31).toUInt32).toInt32) &&& (3 : Int32)), iv (1 : Int32)] [(.int (f_eq oP oQ xa ya xa yc))])) (fun t k => st71.trans k) ?_
          refine Wk.go (A' := T71.setTop (mkF m 97 #[jv xa, .second, jv ya, .second, jv xc, .second, jv yc, .second, iv sl, rv oP, jv xa, .second, jv yc, .second, rv oQ, iv (((sl.toUInt32 >>> ((2 : Int32) &&& 31).toUInt32).toInt32) &&& (3 : Int32)), iv (1 : Int32)] [(.int (1 : Int32)), (.int (f_eq oP oQ xa ya xa yc))])) (fun t k => XS.iload X71.here hx rfl (hb hby at_95) rfl k) ?_
          have hc97 : (f_eq oP oQ xa ya xa yc) = (1 : Int32) := by rw [own_eq, if_pos hc71.symm, if_pos hc78.symm]
          refine Wk.go (A' := T71.setTop (mkF m 100 #[jv xa, .second, jv ya, .second, jv xc, .second, jv yc, .second, iv sl, rv oP, jv xa, .second, jv yc, .second, rv oQ, iv (((sl.toUInt32 >>> ((2 : Int32) &&& 31).toUInt32).toInt32) &&& (3 : Int32)), iv (1 : Int32)] [])) (fun t k => XS.icmpNo X71.here hx rfl (hb hby at_97) rfl (teq hc97).2 k) ?_
          refine Wk.go (A' := T71.setTop (mkF m 102 #[jv xa, .second, jv ya, .second, jv xc, .second, jv yc, .second, iv sl, rv oP, jv xa, .second, jv yc, .second, rv oQ, iv (((sl.toUInt32 >>> ((2 : Int32) &&& 31).toUInt32).toInt32) &&& (3 : Int32)), iv (1 : Int32)] [(.ref oQ)])) (fun t k => XS.aload X71.here hx rfl (hb hby at_100) rfl rfl k) ?_
          refine Wk.go (A' := T71.setTop (mkF m 104 #[jv xa, .second, jv ya, .second, jv xc, .second, jv yc, .second, iv sl, rv oP, jv xa, .second, jv yc, .second, rv oQ, iv (((sl.toUInt32 >>> ((2 : Int32) &&& 31).toUInt32).toInt32) &&& (3 : Int32)), iv (1 : Int32)] [(.ref oP), (.ref oQ)])) (fun t k => XS.aload X71.here hx rfl (hb hby at_102) rfl rfl k) ?_
          obtain ⟨cq72, kq72, q72a, q72b, q72c⟩ := isOf hZ (hE71) Eq65
          obtain ⟨_, _, ⟨T72, L72, k72, n72⟩, -, X72, ⟨Lc72, hQ72, l72, y72, z72⟩, st72⟩ := X71.virtualBack hx (y := (⟨"com/example/rookery/rookery/drawing/GridPoint", "equals", "(Ljava/lang/Object;)Z"⟩ : MethodName)) (z := (⟨"com/example/rookery/rookery/drawing/GridPoint", "equals", "(Ljava/lang/Object;)Z"⟩ : MethodName)) hown (mvT hZ (tw13 hw)) (mvT hZ (tw14 hw)) (notFace_of_selects (args := #[]) (mvT hZ (tw16 hw))) (mvT hZ (tw16 hw)) (mvT hZ (tw15 hw)) (by decide) (backOf (W := 0) (rm3 l Z a0 hw [] oQ oP xa yc xa ya T65.heap n0 Zp65 f67 Fq65_x Fq65_y f68 f69) hZ (tw17 hw) (tw2 hw) (by decide) (by decide)) q72a q72c (g := (mkF m 104 #[jv xa, .second, jv ya, .second, jv xc, .second, jv yc, .second, iv sl, rv oP, jv xa, .second, jv yc, .second, rv oQ, iv (((sl.toUInt32 >>> ((2 : Int32) &&& 31).toUInt32).toInt32) &&& (3 : Int32)), iv (1 : Int32)] [(.ref oP), (.ref oQ)])) rfl (by rw [hml]; rfl) (Steps.refl _) (argsL := [(.ref oP)]) (rest := []) (lenOf pd_4 rfl) rfl (by show 2 * 0 + _ ≤ _; exact Nat.le_of_eq rfl) (hb hby at_104) (fun _ _ => ⟨rfl, (hE71), (by decide : 2 + 0 ≤ _), (by decide : 4 + 0 ≤ _)⟩)
          dsimp only [Pt.U, Pt.locs, Pt.cells, Pt.slots] at X72 l72 y72 z72 st72 hQ72
          subst l72 y72 z72
          obtain ⟨rfl, N72q, hE72⟩ := hQ72
          have N72 := Fr.app N71 N72q
          refine Wk.go (A' := T72.setTop (mkF m 107 #[jv xa, .second, jv ya, .second, jv xc, .second, jv yc, .second, iv sl, rv oP, jv xa, .second, jv yc, .second, rv oQ, iv (((sl.toUInt32 >>> ((2 : Int32) &&& 31).toUInt32).toInt32) &&& (3 : Int32)), iv (1 : Int32)] [(.int (f_eq oQ oP xa yc xa ya))])) (fun t k => st72.trans k) ?_
          refine Wk.go (A' := T72.setTop (mkF m 109 #[jv xa, .second, jv ya, .second, jv xc, .second, jv yc, .second, iv sl, rv oP, jv xa, .second, jv yc, .second, rv oQ, iv (((sl.toUInt32 >>> ((2 : Int32) &&& 31).toUInt32).toInt32) &&& (3 : Int32)), iv (1 : Int32)] [(.int (1 : Int32)), (.int (f_eq oQ oP xa yc xa ya))])) (fun t k => XS.iload X72.here hx rfl (hb hby at_107) rfl k) ?_
          have hc109 : (f_eq oQ oP xa yc xa ya) = (1 : Int32) := by rw [own_eq, if_pos hc71, if_pos hc78]
          refine Wk.go (A' := T72.setTop (mkF m 112 #[jv xa, .second, jv ya, .second, jv xc, .second, jv yc, .second, iv sl, rv oP, jv xa, .second, jv yc, .second, rv oQ, iv (((sl.toUInt32 >>> ((2 : Int32) &&& 31).toUInt32).toInt32) &&& (3 : Int32)), iv (1 : Int32)] [])) (fun t k => XS.icmpNo X72.here hx rfl (hb hby at_109) rfl (teq hc109).2 k) ?_
          refine Wk.go (A' := T72.setTop (mkF m 113 #[jv xa, .second, jv ya, .second, jv xc, .second, jv yc, .second, iv sl, rv oP, jv xa, .second, jv yc, .second, rv oQ, iv (((sl.toUInt32 >>> ((2 : Int32) &&& 31).toUInt32).toInt32) &&& (3 : Int32)), iv (1 : Int32)] [(.int (1 : Int32))])) (fun t k => XS.iconst X72.here hx rfl (hb hby at_112) k) ?_
          refine Wk.go (A' := T72.setTop (mkF m 117 #[jv xa, .second, jv ya, .second, jv xc, .second, jv yc, .second, iv sl, rv oP, jv xa, .second, jv yc, .second, rv oQ, iv (((sl.toUInt32 >>> ((2 : Int32) &&& 31).toUInt32).toInt32) &&& (3 : Int32)), iv (1 : Int32)] [(.int (1 : Int32))])) (fun t k => XS.goto X72.here hx rfl (pc0 := 113) (pc' := 117) rfl (hb hby at_113) (by decide) (by decide) k) ?_
          refine own_fin (Qv := Q0 Z xa ya xc yc sl wcs h0 n0) (v := some (.int (1 : Int32))) X72 hlk (fun h => by rw [Bd.returns] at h; cases h) (fun fs hr => retN X72 hx (t := .boolean) Bd.returns (by simp) (hb hby at_117) hr) ?_ (by decide) (by decide)
          exact ⟨rfl, N72⟩
        · refine Wk.go (A' := T65.setTop (mkF m 85 #[jv xa, .second, jv ya, .second, jv xc, .second, jv yc, .second, iv sl, rv oP, jv xa, .second, jv yc, .second, rv oQ, iv (((sl.toUInt32 >>> ((2 : Int32) &&& 31).toUInt32).toInt32) &&& (3 : Int32)), .unset] [])) (fun t k => XS.ifYes X65.here hx rfl (pc0 := 78) (pc' := 85) rfl (hb hby at_78) rfl ((if0 _ _).trans (feq (mt (lw_eq _ _).mp hc78)).2) (by decide) (by decide) k) ?_
          refine Wk.go (A' := T65.setTop (mkF m 86 #[jv xa, .second, jv ya, .second, jv xc, .second, jv yc, .second, iv sl, rv oP, jv xa, .second, jv yc, .second, rv oQ, iv (((sl.toUInt32 >>> ((2 : Int32) &&& 31).toUInt32).toInt32) &&& (3 : Int32)), .unset] [(.int (0 : Int32))])) (fun t k => XS.iconst X65.here hx rfl (hb hby at_85) k) ?_
          refine Wk.go (A' := T65.setTop (mkF m 88 #[jv xa, .second, jv ya, .second, jv xc, .second, jv yc, .second, iv sl, rv oP, jv xa, .second, jv yc, .second, rv oQ, iv (((sl.toUInt32 >>> ((2 : Int32) &&& 31).toUInt32).toInt32) &&& (3 : Int32)), iv (0 : Int32)] [])) (fun t k => XS.istore X65.here hx rfl (hb hby at_86) rfl (l' := #[jv xa, .second, jv ya, .second, jv xc, .second, jv yc, .second, iv sl, rv oP, jv xa, .second, jv yc, .second, rv oQ, iv (((sl.toUInt32 >>> ((2 : Int32) &&& 31).toUInt32).toInt32) &&& (3 : Int32)), iv (0 : Int32)]) rfl k) ?_
          refine Wk.go (A' := T65.setTop (mkF m 90 #[jv xa, .second, jv ya, .second, jv xc, .second, jv yc, .second, iv sl, rv oP, jv xa, .second, jv yc, .second, rv oQ, iv (((sl.toUInt32 >>> ((2 : Int32) &&& 31).toUInt32).toInt32) &&& (3 : Int32)), iv (0 : Int32)] [(.ref oP)])) (fun t k => XS.aload X65.here hx rfl (hb hby at_88) rfl rfl k) ?_
          refine Wk.go (A' := T65.setTop (mkF m 92 #[jv xa, .second, jv ya, .second, jv xc, .second, jv yc, .second, iv sl, rv oP, jv xa, .second, jv yc, .second, rv oQ, iv (((sl.toUInt32 >>> ((2 : Int32) &&& 31).toUInt32).toInt32) &&& (3 : Int32)), iv (0 : Int32)] [(.ref oQ), (.ref oP)])) (fun t k => XS.aload X65.here hx rfl (hb hby at_90) rfl rfl k) ?_
          obtain ⟨cq73, kq73, q73a, q73b, q73c⟩ := isOf hZ rfl f67
          obtain ⟨_, _, ⟨T73, L73, k73, n73⟩, -, X73, ⟨Lc73, hQ73, l73, y73, z73⟩, st73⟩ := X65.virtualBack hx (y := (⟨"com/example/rookery/rookery/drawing/GridPoint", "equals", "(Ljava/lang/Object;)Z"⟩ : MethodName)) (z := (⟨"com/example/rookery/rookery/drawing/GridPoint", "equals", "(Ljava/lang/Object;)Z"⟩ : MethodName)) hown (mvT hZ (tw13 hw)) (mvT hZ (tw14 hw)) (notFace_of_selects (args := #[]) (mvT hZ (tw16 hw))) (mvT hZ (tw16 hw)) (mvT hZ (tw15 hw)) (by decide) (backOf (W := 0) (rm3 l Z a0 hw [] oP oQ xa ya xa yc T65.heap n0 Zp65 Eq65 f68 f69 Fq65_x Fq65_y) hZ (tw17 hw) (tw2 hw) (by decide) (by decide)) q73a q73c (g := (mkF m 92 #[jv xa, .second, jv ya, .second, jv xc, .second, jv yc, .second, iv sl, rv oP, jv xa, .second, jv yc, .second, rv oQ, iv (((sl.toUInt32 >>> ((2 : Int32) &&& 31).toUInt32).toInt32) &&& (3 : Int32)), iv (0 : Int32)] [(.ref oQ), (.ref oP)])) rfl (by rw [hml]; rfl) (Steps.refl _) (argsL := [(.ref oQ)]) (rest := []) (lenOf pd_4 rfl) rfl (by show 2 * 0 + _ ≤ _; exact Nat.le_of_eq rfl) (hb hby at_92) (fun _ _ => ⟨rfl, rfl, (by decide : 2 + 0 ≤ _), (by decide : 4 + 0 ≤ _)⟩)
          dsimp only [Pt.U, Pt.locs, Pt.cells, Pt.slots] at X73 l73 y73 z73 st73 hQ73
          subst l73 y73 z73
          obtain ⟨rfl, N73q, hE73⟩ := hQ73
          have N73 := Fr.app N65 N73q
          refine Wk.go (A' := T73.setTop (mkF m 95 #[jv xa, .second, jv ya, .second, jv xc, .second, jv yc, .second, iv sl, rv oP, jv xa, .second, jv yc, .second, rv oQ, iv (((sl.toUInt32 >>> ((2 : Int32) &&& 31).toUInt32).toInt32) &&& (3 : Int32)), iv (0 : Int32)] [(.int (f_eq oP oQ xa ya xa yc))])) (fun t k => st73.trans k) ?_
          refine Wk.go (A' := T73.setTop (mkF m 97 #[jv xa, .second, jv ya, .second, jv xc, .second, jv yc, .second, iv sl, rv oP, jv xa, .second, jv yc, .second, rv oQ, iv (((sl.toUInt32 >>> ((2 : Int32) &&& 31).toUInt32).toInt32) &&& (3 : Int32)), iv (0 : Int32)] [(.int (0 : Int32)), (.int (f_eq oP oQ xa ya xa yc))])) (fun t k => XS.iload X73.here hx rfl (hb hby at_95) rfl k) ?_
          have hc97 : (f_eq oP oQ xa ya xa yc) = (0 : Int32) := by rw [own_eq, if_pos hc71.symm, if_neg (Ne.symm hc78)]
          refine Wk.go (A' := T73.setTop (mkF m 100 #[jv xa, .second, jv ya, .second, jv xc, .second, jv yc, .second, iv sl, rv oP, jv xa, .second, jv yc, .second, rv oQ, iv (((sl.toUInt32 >>> ((2 : Int32) &&& 31).toUInt32).toInt32) &&& (3 : Int32)), iv (0 : Int32)] [])) (fun t k => XS.icmpNo X73.here hx rfl (hb hby at_97) rfl (teq hc97).2 k) ?_
          refine Wk.go (A' := T73.setTop (mkF m 102 #[jv xa, .second, jv ya, .second, jv xc, .second, jv yc, .second, iv sl, rv oP, jv xa, .second, jv yc, .second, rv oQ, iv (((sl.toUInt32 >>> ((2 : Int32) &&& 31).toUInt32).toInt32) &&& (3 : Int32)), iv (0 : Int32)] [(.ref oQ)])) (fun t k => XS.aload X73.here hx rfl (hb hby at_100) rfl rfl k) ?_
          refine Wk.go (A' := T73.setTop (mkF m 104 #[jv xa, .second, jv ya, .second, jv xc, .second, jv yc, .second, iv sl, rv oP, jv xa, .second, jv yc, .second, rv oQ, iv (((sl.toUInt32 >>> ((2 : Int32) &&& 31).toUInt32).toInt32) &&& (3 : Int32)), iv (0 : Int32)] [(.ref oP), (.ref oQ)])) (fun t k => XS.aload X73.here hx rfl (hb hby at_102) rfl rfl k) ?_
          obtain ⟨cq74, kq74, q74a, q74b, q74c⟩ := isOf hZ (hE73) Eq65
          obtain ⟨_, _, ⟨T74, L74, k74, n74⟩, -, X74, ⟨Lc74, hQ74, l74, y74, z74⟩, st74⟩ := X73.virtualBack hx (y := (⟨"com/example/rookery/rookery/drawing/GridPoint", "equals", "(Ljava/lang/Object;)Z"⟩ : MethodName)) (z := (⟨"com/example/rookery/rookery/drawing/GridPoint", "equals", "(Ljava/lang/Object;)Z"⟩ : MethodName)) hown (mvT hZ (tw13 hw)) (mvT hZ (tw14 hw)) (notFace_of_selects (args := #[]) (mvT hZ (tw16 hw))) (mvT hZ (tw16 hw)) (mvT hZ (tw15 hw)) (by decide) (backOf (W := 0) (rm3 l Z a0 hw [] oQ oP xa yc xa ya T65.heap n0 Zp65 f67 Fq65_x Fq65_y f68 f69) hZ (tw17 hw) (tw2 hw) (by decide) (by decide)) q74a q74c (g := (mkF m 104 #[jv xa, .second, jv ya, .second, jv xc, .second, jv yc, .second, iv sl, rv oP, jv xa, .second, jv yc, .second, rv oQ, iv (((sl.toUInt32 >>> ((2 : Int32) &&& 31).toUInt32).toInt32) &&& (3 : Int32)), iv (0 : Int32)] [(.ref oP), (.ref oQ)])) rfl (by rw [hml]; rfl) (Steps.refl _) (argsL := [(.ref oP)]) (rest := []) (lenOf pd_4 rfl) rfl (by show 2 * 0 + _ ≤ _; exact Nat.le_of_eq rfl) (hb hby at_104) (fun _ _ => ⟨rfl, (hE73), (by decide : 2 + 0 ≤ _), (by decide : 4 + 0 ≤ _)⟩)
          dsimp only [Pt.U, Pt.locs, Pt.cells, Pt.slots] at X74 l74 y74 z74 st74 hQ74
          subst l74 y74 z74
          obtain ⟨rfl, N74q, hE74⟩ := hQ74
          have N74 := Fr.app N73 N74q
          refine Wk.go (A' := T74.setTop (mkF m 107 #[jv xa, .second, jv ya, .second, jv xc, .second, jv yc, .second, iv sl, rv oP, jv xa, .second, jv yc, .second, rv oQ, iv (((sl.toUInt32 >>> ((2 : Int32) &&& 31).toUInt32).toInt32) &&& (3 : Int32)), iv (0 : Int32)] [(.int (f_eq oQ oP xa yc xa ya))])) (fun t k => st74.trans k) ?_
          refine Wk.go (A' := T74.setTop (mkF m 109 #[jv xa, .second, jv ya, .second, jv xc, .second, jv yc, .second, iv sl, rv oP, jv xa, .second, jv yc, .second, rv oQ, iv (((sl.toUInt32 >>> ((2 : Int32) &&& 31).toUInt32).toInt32) &&& (3 : Int32)), iv (0 : Int32)] [(.int (0 : Int32)), (.int (f_eq oQ oP xa yc xa ya))])) (fun t k => XS.iload X74.here hx rfl (hb hby at_107) rfl k) ?_
          have hc109 : (f_eq oQ oP xa yc xa ya) = (0 : Int32) := by rw [own_eq, if_pos hc71, if_neg hc78]
          refine Wk.go (A' := T74.setTop (mkF m 112 #[jv xa, .second, jv ya, .second, jv xc, .second, jv yc, .second, iv sl, rv oP, jv xa, .second, jv yc, .second, rv oQ, iv (((sl.toUInt32 >>> ((2 : Int32) &&& 31).toUInt32).toInt32) &&& (3 : Int32)), iv (0 : Int32)] [])) (fun t k => XS.icmpNo X74.here hx rfl (hb hby at_109) rfl (teq hc109).2 k) ?_
          refine Wk.go (A' := T74.setTop (mkF m 113 #[jv xa, .second, jv ya, .second, jv xc, .second, jv yc, .second, iv sl, rv oP, jv xa, .second, jv yc, .second, rv oQ, iv (((sl.toUInt32 >>> ((2 : Int32) &&& 31).toUInt32).toInt32) &&& (3 : Int32)), iv (0 : Int32)] [(.int (1 : Int32))])) (fun t k => XS.iconst X74.here hx rfl (hb hby at_112) k) ?_
          refine Wk.go (A' := T74.setTop (mkF m 117 #[jv xa, .second, jv ya, .second, jv xc, .second, jv yc, .second, iv sl, rv oP, jv xa, .second, jv yc, .second, rv oQ, iv (((sl.toUInt32 >>> ((2 : Int32) &&& 31).toUInt32).toInt32) &&& (3 : Int32)), iv (0 : Int32)] [(.int (1 : Int32))])) (fun t k => XS.goto X74.here hx rfl (pc0 := 113) (pc' := 117) rfl (hb hby at_113) (by decide) (by decide) k) ?_
          refine own_fin (Qv := Q0 Z xa ya xc yc sl wcs h0 n0) (v := some (.int (1 : Int32))) X74 hlk (fun h => by rw [Bd.returns] at h; cases h) (fun fs hr => retN X74 hx (t := .boolean) Bd.returns (by simp) (hb hby at_117) hr) ?_ (by decide) (by decide)
          exact ⟨rfl, N74⟩
      · refine Wk.go (A' := T65.setTop (mkF m 118 #[jv xa, .second, jv ya, .second, jv xc, .second, jv yc, .second, iv sl, rv oP, jv xa, .second, jv yc, .second, rv oQ, iv (((sl.toUInt32 >>> ((2 : Int32) &&& 31).toUInt32).toInt32) &&& (3 : Int32)), .unset] [])) (fun t k => XS.ifYes X65.here hx rfl (pc0 := 64) (pc' := 118) rfl (hb hby at_64) rfl ((if0 _ _).trans (feq hc64).2) (by decide) (by decide) k) ?_
        refine Wk.go (A' := T65.setTop (mkF m 120 #[jv xa, .second, jv ya, .second, jv xc, .second, jv yc, .second, iv sl, rv oP, jv xa, .second, jv yc, .second, rv oQ, iv (((sl.toUInt32 >>> ((2 : Int32) &&& 31).toUInt32).toInt32) &&& (3 : Int32)), .unset] [(.int (((sl.toUInt32 >>> ((2 : Int32) &&& 31).toUInt32).toInt32) &&& (3 : Int32)))])) (fun t k => XS.iload X65.here hx rfl (hb hby at_118) rfl k) ?_
        refine Wk.go (A' := T65.setTop (mkF m 121 #[jv xa, .second, jv ya, .second, jv xc, .second, jv yc, .second, iv sl, rv oP, jv xa, .second, jv yc, .second, rv oQ, iv (((sl.toUInt32 >>> ((2 : Int32) &&& 31).toUInt32).toInt32) &&& (3 : Int32)), .unset] [(.int (1 : Int32)), (.int (((sl.toUInt32 >>> ((2 : Int32) &&& 31).toUInt32).toInt32) &&& (3 : Int32)))])) (fun t k => XS.iconst X65.here hx rfl (hb hby at_120) k) ?_
        by_cases hc121 : (((sl.toUInt32 >>> ((2 : Int32) &&& 31).toUInt32).toInt32) &&& (3 : Int32)) = (1 : Int32)
        · refine Wk.go (A' := T65.setTop (mkF m 124 #[jv xa, .second, jv ya, .second, jv xc, .second, jv yc, .second, iv sl, rv oP, jv xa, .second, jv yc, .second, rv oQ, iv (((sl.toUInt32 >>> ((2 : Int32) &&& 31).toUInt32).toInt32) &&& (3 : Int32)), .unset] [])) (fun t k => XS.icmpNo X65.here hx rfl (hb hby at_121) rfl (teq hc121).2 k) ?_
          refine Wk.go (A' := T65.setTop (mkF m 126 #[jv xa, .second, jv ya, .second, jv xc, .second, jv yc, .second, iv sl, rv oP, jv xa, .second, jv yc, .second, rv oQ, iv (((sl.toUInt32 >>> ((2 : Int32) &&& 31).toUInt32).toInt32) &&& (3 : Int32)), .unset] [(.ref oP)])) (fun t k => XS.aload X65.here hx rfl (hb hby at_124) rfl rfl k) ?_
          refine Wk.go (A' := T65.setTop (mkF m 127 #[jv xa, .second, jv ya, .second, jv xc, .second, jv yc, .second, iv sl, rv oP, jv xa, .second, jv yc, .second, rv oQ, iv (((sl.toUInt32 >>> ((2 : Int32) &&& 31).toUInt32).toInt32) &&& (3 : Int32)), .unset] [.null, (.ref oP)])) (fun t k => XS.aconstNull X65.here hx rfl (hb hby at_126) k) ?_
          obtain ⟨cq75, kq75, q75a, q75b, q75c⟩ := isOf hZ rfl f67
          obtain ⟨_, _, ⟨T75, L75, k75, n75⟩, -, X75, ⟨Lc75, hQ75, l75, y75, z75⟩, st75⟩ := X65.virtualBack hx (y := (⟨"com/example/rookery/rookery/drawing/GridPoint", "equals", "(Ljava/lang/Object;)Z"⟩ : MethodName)) (z := (⟨"com/example/rookery/rookery/drawing/GridPoint", "equals", "(Ljava/lang/Object;)Z"⟩ : MethodName)) hown (mvT hZ (tw13 hw)) (mvT hZ (tw14 hw)) (notFace_of_selects (args := #[]) (mvT hZ (tw16 hw))) (mvT hZ (tw16 hw)) (mvT hZ (tw15 hw)) (by decide) (backOf (W := 0) (rm3n l Z a0 hw [] oP  T65.heap n0 Zp65 ) hZ (tw17 hw) (tw2 hw) (by decide) (by decide)) q75a q75c (g := (mkF m 127 #[jv xa, .second, jv ya, .second, jv xc, .second, jv yc, .second, iv sl, rv oP, jv xa, .second, jv yc, .second, rv oQ, iv (((sl.toUInt32 >>> ((2 : Int32) &&& 31).toUInt32).toInt32) &&& (3 : Int32)), .unset] [.null, (.ref oP)])) rfl (by rw [hml]; rfl) (Steps.refl _) (argsL := [.null]) (rest := []) (lenOf pd_4 rfl) rfl (by show 2 * 0 + _ ≤ _; exact Nat.le_of_eq rfl) (hb hby at_127) (fun _ _ => ⟨rfl, rfl, (by decide : 2 + 0 ≤ _), (by decide : 4 + 0 ≤ _)⟩)
          dsimp only [Pt.U, Pt.locs, Pt.cells, Pt.slots] at X75 l75 y75 z75 st75 hQ75
          subst l75 y75 z75
          obtain ⟨rfl, N75q, hE75⟩ := hQ75
          have N75 := Fr.app N65 N75q
          refine Wk.go (A' := T75.setTop (mkF m 130 #[jv xa, .second, jv ya, .second, jv xc, .second, jv yc, .second, iv sl, rv oP, jv xa, .second, jv yc, .second, rv oQ, iv (((sl.toUInt32 >>> ((2 : Int32) &&& 31).toUInt32).toInt32) &&& (3 : Int32)), .unset] [(.int (f_eqn oP))])) (fun t k => st75.trans k) ?_
          have hc130 : (f_eqn oP) = (0 : Int32) := rfl
          refine Wk.go (A' := T75.setTop (mkF m 133 #[jv xa, .second, jv ya, .second, jv xc, .second, jv yc, .second, iv sl, rv oP, jv xa, .second, jv yc, .second, rv oQ, iv (((sl.toUInt32 >>> ((2 : Int32) &&& 31).toUInt32).toInt32) &&& (3 : Int32)), .unset] [])) (fun t k => XS.ifNo X75.here hx rfl (hb hby at_130) rfl ((if0 _ _).trans (teq hc130).2) k) ?_
          refine Wk.go (A' := T75.setTop (mkF m 134 #[jv xa, .second, jv ya, .second, jv xc, .second, jv yc, .second, iv sl, rv oP, jv xa, .second, jv yc, .second, rv oQ, iv (((sl.toUInt32 >>> ((2 : Int32) &&& 31).toUInt32).toInt32) &&& (3 : Int32)), .unset] [(.int (1 : Int32))])) (fun t k => XS.iconst X75.here hx rfl (hb hby at_133) k) ?_
          refine Wk.go (A' := T75.setTop (mkF m 138 #[jv xa, .second, jv ya, .second, jv xc, .second, jv yc, .second, iv sl, rv oP, jv xa, .second, jv yc, .second, rv oQ, iv (((sl.toUInt32 >>> ((2 : Int32) &&& 31).toUInt32).toInt32) &&& (3 : Int32)), .unset] [(.int (1 : Int32))])) (fun t k => XS.goto X75.here hx rfl (pc0 := 134) (pc' := 138) rfl (hb hby at_134) (by decide) (by decide) k) ?_
          refine own_fin (Qv := Q0 Z xa ya xc yc sl wcs h0 n0) (v := some (.int (1 : Int32))) X75 hlk (fun h => by rw [Bd.returns] at h; cases h) (fun fs hr => retN X75 hx (t := .boolean) Bd.returns (by simp) (hb hby at_138) hr) ?_ (by decide) (by decide)
          exact ⟨rfl, N75⟩
        · refine Wk.go (A' := T65.setTop (mkF m 139 #[jv xa, .second, jv ya, .second, jv xc, .second, jv yc, .second, iv sl, rv oP, jv xa, .second, jv yc, .second, rv oQ, iv (((sl.toUInt32 >>> ((2 : Int32) &&& 31).toUInt32).toInt32) &&& (3 : Int32)), .unset] [])) (fun t k => XS.icmpYes X65.here hx rfl (pc0 := 121) (pc' := 139) rfl (hb hby at_121) rfl (feq hc121).2 (by decide) (by decide) k) ?_
          refine Wk.go (A' := T65.setTop (mkF m 141 #[jv xa, .second, jv ya, .second, jv xc, .second, jv yc, .second, iv sl, rv oP, jv xa, .second, jv yc, .second, rv oQ, iv (((sl.toUInt32 >>> ((2 : Int32) &&& 31).toUInt32).toInt32) &&& (3 : Int32)), .unset] [(.int (((sl.toUInt32 >>> ((2 : Int32) &&& 31).toUInt32).toInt32) &&& (3 : Int32)))])) (fun t k => XS.iload X65.here hx rfl (hb hby at_139) rfl k) ?_
          refine Wk.go (A' := T65.setTop (mkF m 142 #[jv xa, .second, jv ya, .second, jv xc, .second, jv yc, .second, iv sl, rv oP, jv xa, .second, jv yc, .second, rv oQ, iv (((sl.toUInt32 >>> ((2 : Int32) &&& 31).toUInt32).toInt32) &&& (3 : Int32)), .unset] [(.int (2 : Int32)), (.int (((sl.toUInt32 >>> ((2 : Int32) &&& 31).toUInt32).toInt32) &&& (3 : Int32)))])) (fun t k => XS.iconst X65.here hx rfl (hb hby at_141) k) ?_
          by_cases hc142 : (((sl.toUInt32 >>> ((2 : Int32) &&& 31).toUInt32).toInt32) &&& (3 : Int32)) = (2 : Int32)
          · refine Wk.go (A' := T65.setTop (mkF m 145 #[jv xa, .second, jv ya, .second, jv xc, .second, jv yc, .second, iv sl, rv oP, jv xa, .second, jv yc, .second, rv oQ, iv (((sl.toUInt32 >>> ((2 : Int32) &&& 31).toUInt32).toInt32) &&& (3 : Int32)), .unset] [])) (fun t k => XS.icmpNo X65.here hx rfl (hb hby at_142) rfl (teq hc142).2 k) ?_
            refine Wk.go (A' := T65.setTop (mkF m 147 #[jv xa, .second, jv ya, .second, jv xc, .second, jv yc, .second, iv sl, rv oP, jv xa, .second, jv yc, .second, rv oQ, iv (((sl.toUInt32 >>> ((2 : Int32) &&& 31).toUInt32).toInt32) &&& (3 : Int32)), .unset] [(.int sl)])) (fun t k => XS.iload X65.here hx rfl (hb hby at_145) rfl k) ?_
            refine Wk.go (A' := T65.setTop (mkF m 149 #[jv xa, .second, jv ya, .second, jv xc, .second, jv yc, .second, iv sl, rv oP, jv xa, .second, jv yc, .second, rv oQ, iv (((sl.toUInt32 >>> ((2 : Int32) &&& 31).toUInt32).toInt32) &&& (3 : Int32)), .unset] [(.int (8 : Int32)), (.int sl)])) (fun t k => XS.bipush X65.here hx rfl (hb hby at_147) k) ?_
            refine Wk.go (A' := T65.setTop (mkF m 150 #[jv xa, .second, jv ya, .second, jv xc, .second, jv yc, .second, iv sl, rv oP, jv xa, .second, jv yc, .second, rv oQ, iv (((sl.toUInt32 >>> ((2 : Int32) &&& 31).toUInt32).toInt32) &&& (3 : Int32)), .unset] [(.int ((sl.toUInt32 >>> ((8 : Int32) &&& 31).toUInt32).toInt32))])) (fun t k => XS.iushr X65.here hx rfl (hb hby at_149) rfl k) ?_
            refine Wk.go (A' := T65.setTop (mkF m 153 #[jv xa, .second, jv ya, .second, jv xc, .second, jv yc, .second, iv sl, rv oP, jv xa, .second, jv yc, .second, rv oQ, iv (((sl.toUInt32 >>> ((2 : Int32) &&& 31).toUInt32).toInt32) &&& (3 : Int32)), .unset] [(.int (255 : Int32)), (.int ((sl.toUInt32 >>> ((8 : Int32) &&& 31).toUInt32).toInt32))])) (fun t k => XS.sipush X65.here hx rfl (hb hby at_150) k) ?_
            refine Wk.go (A' := T65.setTop (mkF m 154 #[jv xa, .second, jv ya, .second, jv xc, .second, jv yc, .second, iv sl, rv oP, jv xa, .second, jv yc, .second, rv oQ, iv (((sl.toUInt32 >>> ((2 : Int32) &&& 31).toUInt32).toInt32) &&& (3 : Int32)), .unset] [(.int (((sl.toUInt32 >>> ((8 : Int32) &&& 31).toUInt32).toInt32) &&& (255 : Int32)))])) (fun t k => XS.iand X65.here hx rfl (hb hby at_153) rfl k) ?_
            refine Wk.go (A' := T65.setTop (mkF m 155 #[jv xa, .second, jv ya, .second, jv xc, .second, jv yc, .second, iv sl, rv oP, jv xa, .second, jv yc, .second, rv oQ, iv (((sl.toUInt32 >>> ((2 : Int32) &&& 31).toUInt32).toInt32) &&& (3 : Int32)), .unset] [(.int ((((sl.toUInt32 >>> ((8 : Int32) &&& 31).toUInt32).toInt32) &&& (255 : Int32)).toUInt32.toUInt16.toUInt32.toInt32))])) (fun t k => XS.i2c X65.here hx rfl (hb hby at_154) rfl k) ?_
            obtain ⟨_, _, ⟨T76, L76, k76, n76⟩, -, X76, ⟨Lc76, hQ76, l76, y76, z76⟩, st76⟩ := Jvm.LawKit.callS X65 hx (y := (⟨"java/lang/String", "valueOf", "(C)Ljava/lang/String;"⟩ : MethodName)) hown (mvT hZ (tw20 hw)) (mvT hZ (tw21 hw)) (mvT hZ (tw22 hw)) (mvT hZ (tw23 hw)) (by decide) (backOf (W := 0) (rm4 l Z a0 hw [] ((((sl.toUInt32 >>> ((8 : Int32) &&& 31).toUInt32).toInt32) &&& (255 : Int32)).toUInt32.toUInt16.toUInt32.toInt32) wcs T65.heap n0 Zp65 (S0.ext f66.2) hcs (own_ch sl)) hZ (tw23 hw) (tw22 hw) (by decide) (by decide)) (g := (mkF m 155 #[jv xa, .second, jv ya, .second, jv xc, .second, jv yc, .second, iv sl, rv oP, jv xa, .second, jv yc, .second, rv oQ, iv (((sl.toUInt32 >>> ((2 : Int32) &&& 31).toUInt32).toInt32) &&& (3 : Int32)), .unset] [(.int ((((sl.toUInt32 >>> ((8 : Int32) &&& 31).toUInt32).toInt32) &&& (255 : Int32)).toUInt32.toUInt16.toUInt32.toInt32))])) rfl (by rw [hml]; rfl) (argsL := [(.int ((((sl.toUInt32 >>> ((8 : Int32) &&& 31).toUInt32).toInt32) &&& (255 : Int32)).toUInt32.toUInt16.toUInt32.toInt32))]) (rest := []) (lenOf pd_5 rfl) rfl (by show 2 * 0 + _ ≤ _; exact Nat.le_of_eq rfl) (hb hby at_155) (fun _ _ => ⟨rfl, rfl, (by decide : 2 + 2 ≤ _), (by decide : 4 + 5 ≤ _)⟩)
            dsimp only [Pt.U, Pt.locs, Pt.cells, Pt.slots] at X76 l76 y76 z76 st76 hQ76
            subst l76 y76 z76
            obtain ⟨b76, rfl, N76q, Kq76, g_b76, bb_b76, Eq76⟩ := hQ76
            have N76 := Fr.app N65 N76q
            have f77 := f66.keep Kq76 all0
            have f78 := f67.keep Kq76
            have f79 := f68.keep Kq76 nin0
            have f80 := f69.keep Kq76 nin0
            have f81 := Eq65.keep Kq76
            have f82 := Fq65_x.keep Kq76 nin0
            have f83 := Fq65_y.keep Kq76 nin0
            have Zp76 : n0 ≤ T76.heap.size := Nat.le_trans Zp65 Kq76.1
            refine Wk.go (A' := T76.setTop (mkF m 158 #[jv xa, .second, jv ya, .second, jv xc, .second, jv yc, .second, iv sl, rv oP, jv xa, .second, jv yc, .second, rv oQ, iv (((sl.toUInt32 >>> ((2 : Int32) &&& 31).toUInt32).toInt32) &&& (3 : Int32)), .unset] [(.ref b76)])) (fun t k => st76 t k) ?_
            refine Wk.go (A' := T76.setTop (mkF m 160 #[jv xa, .second, jv ya, .second, jv xc, .second, jv yc, .second, iv sl, rv oP, jv xa, .second, jv yc, .second, rv oQ, iv (((sl.toUInt32 >>> ((2 : Int32) &&& 31).toUInt32).toInt32) &&& (3 : Int32)), rv b76] [])) (fun t k => XS.astore X76.here hx rfl (hb hby at_158) rfl rfl (l' := #[jv xa, .second, jv ya, .second, jv xc, .second, jv yc, .second, iv sl, rv oP, jv xa, .second, jv yc, .second, rv oQ, iv (((sl.toUInt32 >>> ((2 : Int32) &&& 31).toUInt32).toInt32) &&& (3 : Int32)), rv b76]) rfl k) ?_
            refine Wk.go (A' := T76.setTop (mkF m 162 #[jv xa, .second, jv ya, .second, jv xc, .second, jv yc, .second, iv sl, rv oP, jv xa, .second, jv yc, .second, rv oQ, iv (((sl.toUInt32 >>> ((2 : Int32) &&& 31).toUInt32).toInt32) &&& (3 : Int32)), rv b76] [(.ref oP)])) (fun t k => XS.aload X76.here hx rfl (hb hby at_160) rfl rfl k) ?_
            refine Wk.go (A' := T76.setTop (mkF m 164 #[jv xa, .second, jv ya, .second, jv xc, .second, jv yc, .second, iv sl, rv oP, jv xa, .second, jv yc, .second, rv oQ, iv (((sl.toUInt32 >>> ((2 : Int32) &&& 31).toUInt32).toInt32) &&& (3 : Int32)), rv b76] [(.ref b76), (.ref oP)])) (fun t k => XS.aload X76.here hx rfl (hb hby at_162) rfl rfl k) ?_
            obtain ⟨cq84, kq84, q84a, q84b, q84c⟩ := isOf hZ rfl f78
            obtain ⟨_, _, ⟨T84, L84, k84, n84⟩, -, X84, ⟨Lc84, hQ84, l84, y84, z84⟩, st84⟩ := X76.virtualBack hx (y := (⟨"com/example/rookery/rookery/drawing/GridPoint", "equals", "(Ljava/lang/Object;)Z"⟩ : MethodName)) (z := (⟨"com/example/rookery/rookery/drawing/GridPoint", "equals", "(Ljava/lang/Object;)Z"⟩ : MethodName)) hown (mvT hZ (tw13 hw)) (mvT hZ (tw14 hw)) (notFace_of_selects (args := #[]) (mvT hZ (tw16 hw))) (mvT hZ (tw16 hw)) (mvT hZ (tw15 hw)) (by decide) (backOf (W := 0) (rm3s l Z a0 hw [] oP b76  T76.heap n0 Zp76 Eq76) hZ (tw17 hw) (tw2 hw) (by decide) (by decide)) q84a q84c (g := (mkF m 164 #[jv xa, .second, jv ya, .second, jv xc, .second, jv yc, .second, iv sl, rv oP, jv xa, .second, jv yc, .second, rv oQ, iv (((sl.toUInt32 >>> ((2 : Int32) &&& 31).toUInt32).toInt32) &&& (3 : Int32)), rv b76] [(.ref b76), (.ref oP)])) rfl (by rw [hml]; rfl) (Steps.refl _) (argsL := [(.ref b76)]) (rest := []) (lenOf pd_4 rfl) rfl (by show 2 * 0 + _ ≤ _; exact Nat.le_of_eq rfl) (hb hby at_164) (fun _ _ => ⟨rfl, rfl, (by decide : 4 + 0 ≤ _), (by decide : 9 + 0 ≤ _)⟩)
            dsimp only [Pt.U, Pt.locs, Pt.cells, Pt.slots] at X84 l84 y84 z84 st84 hQ84
            subst l84 y84 z84
            obtain ⟨rfl, N84q, hE84⟩ := hQ84
            have N84 := Fr.app N76 N84q
            refine Wk.go (A' := T84.setTop (mkF m 167 #[jv xa, .second, jv ya, .second, jv xc, .second, jv yc, .second, iv sl, rv oP, jv xa, .second, jv yc, .second, rv oQ, iv (((sl.toUInt32 >>> ((2 : Int32) &&& 31).toUInt32).toInt32) &&& (3 : Int32)), rv b76] [(.int (f_eqs oP b76))])) (fun t k => st84.trans k) ?_
            have hc167 : (f_eqs oP b76) = (0 : Int32) := rfl
            refine Wk.go (A' := T84.setTop (mkF m 170 #[jv xa, .second, jv ya, .second, jv xc, .second, jv yc, .second, iv sl, rv oP, jv xa, .second, jv yc, .second, rv oQ, iv (((sl.toUInt32 >>> ((2 : Int32) &&& 31).toUInt32).toInt32) &&& (3 : Int32)), rv b76] [])) (fun t k => XS.ifNo X84.here hx rfl (hb hby at_167) rfl ((if0 _ _).trans (teq hc167).2) k) ?_
            refine Wk.go (A' := T84.setTop (mkF m 171 #[jv xa, .second, jv ya, .second, jv xc, .second, jv yc, .second, iv sl, rv oP, jv xa, .second, jv yc, .second, rv oQ, iv (((sl.toUInt32 >>> ((2 : Int32) &&& 31).toUInt32).toInt32) &&& (3 : Int32)), rv b76] [(.int (1 : Int32))])) (fun t k => XS.iconst X84.here hx rfl (hb hby at_170) k) ?_
            refine Wk.go (A' := T84.setTop (mkF m 175 #[jv xa, .second, jv ya, .second, jv xc, .second, jv yc, .second, iv sl, rv oP, jv xa, .second, jv yc, .second, rv oQ, iv (((sl.toUInt32 >>> ((2 : Int32) &&& 31).toUInt32).toInt32) &&& (3 : Int32)), rv b76] [(.int (1 : Int32))])) (fun t k => XS.goto X84.here hx rfl (pc0 := 171) (pc' := 175) rfl (hb hby at_171) (by decide) (by decide) k) ?_
            refine own_fin (Qv := Q0 Z xa ya xc yc sl wcs h0 n0) (v := some (.int (1 : Int32))) X84 hlk (fun h => by rw [Bd.returns] at h; cases h) (fun fs hr => retN X84 hx (t := .boolean) Bd.returns (by simp) (hb hby at_175) hr) ?_ (by decide) (by decide)
            exact ⟨rfl, N84⟩
          · refine Wk.go (A' := T65.setTop (mkF m 176 #[jv xa, .second, jv ya, .second, jv xc, .second, jv yc, .second, iv sl, rv oP, jv xa, .second, jv yc, .second, rv oQ, iv (((sl.toUInt32 >>> ((2 : Int32) &&& 31).toUInt32).toInt32) &&& (3 : Int32)), .unset] [])) (fun t k => XS.icmpYes X65.here hx rfl (pc0 := 142) (pc' := 176) rfl (hb hby at_142) rfl (feq hc142).2 (by decide) (by decide) k) ?_
            refine Wk.go (A' := T65.setTop (mkF m 178 #[jv xa, .second, jv ya, .second, jv xc, .second, jv yc, .second, iv sl, rv oP, jv xa, .second, jv yc, .second, rv oQ, iv (((sl.toUInt32 >>> ((2 : Int32) &&& 31).toUInt32).toInt32) &&& (3 : Int32)), .unset] [(.ref oP)])) (fun t k => XS.aload X65.here hx rfl (hb hby at_176) rfl rfl k) ?_
            refine Wk.go (A' := T65.setTop (mkF m 180 #[jv xa, .second, jv ya, .second, jv xc, .second, jv yc, .second, iv sl, rv oP, jv xa, .second, jv yc, .second, rv oQ, iv (((sl.toUInt32 >>> ((2 : Int32) &&& 31).toUInt32).toInt32) &&& (3 : Int32)), .unset] [(.ref oP), (.ref oP)])) (fun t k => XS.aload X65.here hx rfl (hb hby at_178) rfl rfl k) ?_
            obtain ⟨cq85, kq85, q85a, q85b, q85c⟩ := isOf hZ rfl f67
            obtain ⟨_, _, ⟨T85, L85, k85, n85⟩, -, X85, ⟨Lc85, hQ85, l85, y85, z85⟩, st85⟩ := X65.virtualBack hx (y := (⟨"com/example/rookery/rookery/drawing/GridPoint", "equals", "(Ljava/lang/Object;)Z"⟩ : MethodName)) (z := (⟨"com/example/rookery/rookery/drawing/GridPoint", "equals", "(Ljava/lang/Object;)Z"⟩ : MethodName)) hown (mvT hZ (tw13 hw)) (mvT hZ (tw14 hw)) (notFace_of_selects (args := #[]) (mvT hZ (tw16 hw))) (mvT hZ (tw16 hw)) (mvT hZ (tw15 hw)) (by decide) (backOf (W := 0) (rm3 l Z a0 hw [] oP oP xa ya xa ya T65.heap n0 Zp65 f67 f68 f69 f68 f69) hZ (tw17 hw) (tw2 hw) (by decide) (by decide)) q85a q85c (g := (mkF m 180 #[jv xa, .second, jv ya, .second, jv xc, .second, jv yc, .second, iv sl, rv oP, jv xa, .second, jv yc, .second, rv oQ, iv (((sl.toUInt32 >>> ((2 : Int32) &&& 31).toUInt32).toInt32) &&& (3 : Int32)), .unset] [(.ref oP), (.ref oP)])) rfl (by rw [hml]; rfl) (Steps.refl _) (argsL := [(.ref oP)]) (rest := []) (lenOf pd_4 rfl) rfl (by show 2 * 0 + _ ≤ _; exact Nat.le_of_eq rfl) (hb hby at_180) (fun _ _ => ⟨rfl, rfl, (by decide : 2 + 0 ≤ _), (by decide : 4 + 0 ≤ _)⟩)
            dsimp only [Pt.U, Pt.locs, Pt.cells, Pt.slots] at X85 l85 y85 z85 st85 hQ85
            subst l85 y85 z85
            obtain ⟨rfl, N85q, hE85⟩ := hQ85
            have N85 := Fr.app N65 N85q
            refine Wk.go (A' := T85.setTop (mkF m 183 #[jv xa, .second, jv ya, .second, jv xc, .second, jv yc, .second, iv sl, rv oP, jv xa, .second, jv yc, .second, rv oQ, iv (((sl.toUInt32 >>> ((2 : Int32) &&& 31).toUInt32).toInt32) &&& (3 : Int32)), .unset] [(.int (f_eq oP oP xa ya xa ya))])) (fun t k => st85.trans k) ?_
            refine own_fin (Qv := Q0 Z xa ya xc yc sl wcs h0 n0) (v := some (.int (nar .boolean (f_eq oP oP xa ya xa ya)))) X85 hlk (fun h => by rw [Bd.returns] at h; cases h) (fun fs hr => retN X85 hx (t := .boolean) Bd.returns (by simp) (hb hby at_183) hr) ?_ (by decide) (by decide)
            exact ⟨congrArg (fun z => some (Value.int z)) (own_self _ _ _), N85⟩
    · refine Wk.go (A' := T3.setTop (mkF m 33 #[jv xa, .second, jv ya, .second, jv xc, .second, jv yc, .second, iv sl, rv oP, jv xa, .second, .unset, .unset, .unset, .unset, .unset] [])) (fun t k => XS.ifNo X3.here hx rfl (hb hby at_30) rfl ((if0 _ _).trans (feq hc30).1) k) ?_
      refine Wk.go (A' := T3.setTop (mkF m 34 #[jv xa, .second, jv ya, .second, jv xc, .second, jv yc, .second, iv sl, rv oP, jv xa, .second, .unset, .unset, .unset, .unset, .unset] [(.long ya)])) (fun t k => XS.lloadN X3.here hx rfl (hb hby at_33) rfl k) ?_
      refine Wk.go (A' := T3.setTop (mkF m 39 #[jv xa, .second, jv ya, .second, jv xc, .second, jv yc, .second, iv sl, rv oP, jv xa, .second, .unset, .unset, .unset, .unset, .unset] [(.long ya)])) (fun t k => XS.goto X3.here hx rfl (pc0 := 34) (pc' := 39) rfl (hb hby at_34) (by decide) (by decide) k) ?_
      refine Wk.go (A' := T3.setTop (mkF m 41 #[jv xa, .second, jv ya, .second, jv xc, .second, jv yc, .second, iv sl, rv oP, jv xa, .second, jv ya, .second, .unset, .unset, .unset] [])) (fun t k => XS.lstore X3.here hx rfl (hb hby at_39) rfl (l' := #[jv xa, .second, jv ya, .second, jv xc, .second, jv yc, .second, iv sl, rv oP, jv xa, .second, jv ya, .second, .unset, .unset, .unset]) rfl k) ?_
      obtain ⟨T86, h86, X86, e86, E86, A86, D86, -, st86⟩ := newO X3 hx hZ hown (tw0 hw) (tw1 hw) (tw2 hw) rfl (g := (mkF m 41 #[jv xa, .second, jv ya, .second, jv xc, .second, jv yc, .second, iv sl, rv oP, jv xa, .second, jv ya, .second, .unset, .unset, .unset] [])) rfl (hb hby at_41) (by decide) (by decide)
      obtain ⟨oQ, g86⟩ : ∃ z, z = T3.heap.size := ⟨_, rfl⟩
      rw [← g86] at A86 D86 st86
      have g_oQ : n0 ≤ oQ := Nat.le_trans Zp3 (Nat.le_of_eq g86.symm)
      have ne_oP_oQ : oP ≠ oQ := Nat.ne_of_lt (Nat.lt_of_lt_of_le Eq3.lt (Nat.le_of_eq g86.symm))
      have f87 := f4.ext E86
      have f88 := Eq3.ext E86
      have f89 := Fq3_x.ext E86
      have f90 := Fq3_y.ext E86
      have F_x_oQ : Fld Z h86 oQ "com/example/rookery/rookery/drawing/GridPoint" "x" "J" (.long (0 : Int64)) := D86 (Or.inr (tw10 hw)) (ty := .long) (by decide)
      have F_y_oQ : Fld Z h86 oQ "com/example/rookery/rookery/drawing/GridPoint" "y" "J" (.long (0 : Int64)) := D86 (Or.inr (tw12 hw)) (ty := .long) (by decide)
      have Zp86 : n0 ≤ h86.size := Nat.le_trans Zp3 E86.1
      refine Wk.go (A' := T86.setTop (mkF m 44 #[jv xa, .second, jv ya, .second, jv xc, .second, jv yc, .second, iv sl, rv oP, jv xa, .second, jv ya, .second, .unset, .unset, .unset] [(.ref oQ)])) (fun t k => st86 t k) ?_
      refine Wk.go (A' := T86.setTop (mkF m 45 #[jv xa, .second, jv ya, .second, jv xc, .second, jv yc, .second, iv sl, rv oP, jv xa, .second, jv ya, .second, .unset, .unset, .unset] [(.ref oQ), (.ref oQ)])) (fun t k => XS.dup X86.here hx rfl (hb hby at_44) rfl rfl k) ?_
      refine Wk.go (A' := T86.setTop (mkF m 47 #[jv xa, .second, jv ya, .second, jv xc, .second, jv yc, .second, iv sl, rv oP, jv xa, .second, jv ya, .second, .unset, .unset, .unset] [(.long xa), (.ref oQ), (.ref oQ)])) (fun t k => XS.lload X86.here hx rfl (hb hby at_45) rfl k) ?_
      refine Wk.go (A' := T86.setTop (mkF m 49 #[jv xa, .second, jv ya, .second, jv xc, .second, jv yc, .second, iv sl, rv oP, jv xa, .second, jv ya, .second, .unset, .unset, .unset] [(.long ya), (.long xa), (.ref oQ), (.ref oQ)])) (fun t k => XS.lload X86.here hx rfl (hb hby at_47) rfl k) ?_
      obtain ⟨_, _, ⟨T91, L91, k91, n91⟩, -, X91, ⟨Lc91, hQ91, l91, y91, z91⟩, st91⟩ := X86.specialBack hx (y := (⟨"com/example/rookery/rookery/drawing/GridPoint", "<init>", "(JJ)V"⟩ : MethodName)) rfl hown (mvT hZ (tw3 hw)) (mvT hZ (tw4 hw)) (mvT hZ (tw5 hw)) (by decide) (backOf (W := 1) (rm1 l Z a0 hw [] oQ xa ya  h86 n0 Zp86 A86 F_x_oQ F_y_oQ g_oQ ) hZ (tw5 hw) (tw2 hw) (by decide) (by decide)) (g := (mkF m 49 #[jv xa, .second, jv ya, .second, jv xc, .second, jv yc, .second, iv sl, rv oP, jv xa, .second, jv ya, .second, .unset, .unset, .unset] [(.long ya), (.long xa), (.ref oQ), (.ref oQ)])) rfl (by rw [hml]; rfl) (Steps.refl _) (a := oQ) (argsL := [(.long xa), (.long ya)]) (rest := [(.ref oQ)]) (lenOf pd_3 rfl) rfl (by show 2 * 0 + _ ≤ _; exact Nat.le_of_eq rfl) (hb hby at_49) (fun _ _ => ⟨rfl, e86, (by decide : 2 + 0 ≤ _), (by decide : 4 + 0 ≤ _)⟩)
      dsimp only [Pt.U, Pt.locs, Pt.cells, Pt.slots] at X91 l91 y91 z91 st91 hQ91
      subst l91 y91 z91
      obtain ⟨rfl, N91q, Kq91, Eq91, Fq91_x, Fq91_y⟩ := hQ91
      have N91 := Fr.app N3 N91q
      have f92 := f87.keep Kq91 (allS g_oQ all0)
      have f93 := f88.keep Kq91
      have f94 := f89.keep Kq91 (ninS ne_oP_oQ nin0)
      have f95 := f90.keep Kq91 (ninS ne_oP_oQ nin0)
      have f96 := A86.keep Kq91
      have Zp91 : n0 ≤ T91.heap.size := Nat.le_trans Zp86 Kq91.1
      refine Wk.go (A' := T91.setTop (mkF m 52 #[jv xa, .second, jv ya, .second, jv xc, .second, jv yc, .second, iv sl, rv oP, jv xa, .second, jv ya, .second, .unset, .unset, .unset] [(.ref oQ)])) (fun t k => st91.trans k) ?_
      refine Wk.go (A' := T91.setTop (mkF m 54 #[jv xa, .second, jv ya, .second, jv xc, .second, jv yc, .second, iv sl, rv oP, jv xa, .second, jv ya, .second, rv oQ, .unset, .unset] [])) (fun t k => XS.astore X91.here hx rfl (hb hby at_52) rfl rfl (l' := #[jv xa, .second, jv ya, .second, jv xc, .second, jv yc, .second, iv sl, rv oP, jv xa, .second, jv ya, .second, rv oQ, .unset, .unset]) rfl k) ?_
      refine Wk.go (A' := T91.setTop (mkF m 56 #[jv xa, .second, jv ya, .second, jv xc, .second, jv yc, .second, iv sl, rv oP, jv xa, .second, jv ya, .second, rv oQ, .unset, .unset] [(.int sl)])) (fun t k => XS.iload X91.here hx rfl (hb hby at_54) rfl k) ?_
      refine Wk.go (A' := T91.setTop (mkF m 57 #[jv xa, .second, jv ya, .second, jv xc, .second, jv yc, .second, iv sl, rv oP, jv xa, .second, jv ya, .second, rv oQ, .unset, .unset] [(.int (2 : Int32)), (.int sl)])) (fun t k => XS.iconst X91.here hx rfl (hb hby at_56) k) ?_
      refine Wk.go (A' := T91.setTop (mkF m 58 #[jv xa, .second, jv ya, .second, jv xc, .second, jv yc, .second, iv sl, rv oP, jv xa, .second, jv ya, .second, rv oQ, .unset, .unset] [(.int ((sl.toUInt32 >>> ((2 : Int32) &&& 31).toUInt32).toInt32))])) (fun t k => XS.iushr X91.here hx rfl (hb hby at_57) rfl k) ?_
      refine Wk.go (A' := T91.setTop (mkF m 59 #[jv xa, .second, jv ya, .second, jv xc, .second, jv yc, .second, iv sl, rv oP, jv xa, .second, jv ya, .second, rv oQ, .unset, .unset] [(.int (3 : Int32)), (.int ((sl.toUInt32 >>> ((2 : Int32) &&& 31).toUInt32).toInt32))])) (fun t k => XS.iconst X91.here hx rfl (hb hby at_58) k) ?_
      refine Wk.go (A' := T91.setTop (mkF m 60 #[jv xa, .second, jv ya, .second, jv xc, .second, jv yc, .second, iv sl, rv oP, jv xa, .second, jv ya, .second, rv oQ, .unset, .unset] [(.int (((sl.toUInt32 >>> ((2 : Int32) &&& 31).toUInt32).toInt32) &&& (3 : Int32)))])) (fun t k => XS.iand X91.here hx rfl (hb hby at_59) rfl k) ?_
      refine Wk.go (A' := T91.setTop (mkF m 62 #[jv xa, .second, jv ya, .second, jv xc, .second, jv yc, .second, iv sl, rv oP, jv xa, .second, jv ya, .second, rv oQ, iv (((sl.toUInt32 >>> ((2 : Int32) &&& 31).toUInt32).toInt32) &&& (3 : Int32)), .unset] [])) (fun t k => XS.istore X91.here hx rfl (hb hby at_60) rfl (l' := #[jv xa, .second, jv ya, .second, jv xc, .second, jv yc, .second, iv sl, rv oP, jv xa, .second, jv ya, .second, rv oQ, iv (((sl.toUInt32 >>> ((2 : Int32) &&& 31).toUInt32).toInt32) &&& (3 : Int32)), .unset]) rfl k) ?_
      refine Wk.go (A' := T91.setTop (mkF m 64 #[jv xa, .second, jv ya, .second, jv xc, .second, jv yc, .second, iv sl, rv oP, jv xa, .second, jv ya, .second, rv oQ, iv (((sl.toUInt32 >>> ((2 : Int32) &&& 31).toUInt32).toInt32) &&& (3 : Int32)), .unset] [(.int (((sl.toUInt32 >>> ((2 : Int32) &&& 31).toUInt32).toInt32) &&& (3 : Int32)))])) (fun t k => XS.iload X91.here hx rfl (hb hby at_62) rfl k) ?_
      by_cases hc64 : (((sl.toUInt32 >>> ((2 : Int32) &&& 31).toUInt32).toInt32) &&& (3 : Int32)) = (0 : Int32)
      · refine Wk.go (A' := T91.setTop (mkF m 67 #[jv xa, .second, jv ya, .second, jv xc, .second, jv yc, .second, iv sl, rv oP, jv xa, .second, jv ya, .second, rv oQ, iv (((sl.toUInt32 >>> ((2 : Int32) &&& 31).toUInt32).toInt32) &&& (3 : Int32)), .unset] [])) (fun t k => XS.ifNo X91.here hx rfl (hb hby at_64) rfl ((if0 _ _).trans (teq hc64).2) k) ?_
        refine Wk.go (A' := T91.setTop (mkF m 69 #[jv xa, .second, jv ya, .second, jv xc, .second, jv yc, .second, iv sl, rv oP, jv xa, .second, jv ya, .second, rv oQ, iv (((sl.toUInt32 >>> ((2 : Int32) &&& 31).toUInt32).toInt32) &&& (3 : Int32)), .unset] [(.long xa)])) (fun t k => XS.lload X91.here hx rfl (hb hby at_67) rfl k) ?_
        refine Wk.go (A' := T91.setTop (mkF m 70 #[jv xa, .second, jv ya, .second, jv xc, .second, jv yc, .second, iv sl, rv oP, jv xa, .second, jv ya, .second, rv oQ, iv (((sl.toUInt32 >>> ((2 : Int32) &&& 31).toUInt32).toInt32) &&& (3 : Int32)), .unset] [(.long xa), (.long xa)])) (fun t k => XS.lloadN X91.here hx rfl (hb hby at_69) rfl k) ?_
        refine Wk.go (A' := T91.setTop (mkF m 71 #[jv xa, .second, jv ya, .second, jv xc, .second, jv yc, .second, iv sl, rv oP, jv xa, .second, jv ya, .second, rv oQ, iv (((sl.toUInt32 >>> ((2 : Int32) &&& 31).toUInt32).toInt32) &&& (3 : Int32)), .unset] [(.int (lcmpW xa xa))])) (fun t k => XS.lcmp X91.here hx rfl (hb hby at_70) rfl k) ?_
        have hc71 : xa = xa := rfl
        refine Wk.go (A' := T91.setTop (mkF m 74 #[jv xa, .second, jv ya, .second, jv xc, .second, jv yc, .second, iv sl, rv oP, jv xa, .second, jv ya, .second, rv oQ, iv (((sl.toUInt32 >>> ((2 : Int32) &&& 31).toUInt32).toInt32) &&& (3 : Int32)), .unset] [])) (fun t k => XS.ifNo X91.here hx rfl (hb hby at_71) rfl ((if0 _ _).trans (teq ((lw_eq _ _).mpr hc71)).2) k) ?_
        refine Wk.go (A' := T91.setTop (mkF m 76 #[jv xa, .second, jv ya, .second, jv xc, .second, jv yc, .second, iv sl, rv oP, jv xa, .second, jv ya, .second, rv oQ, iv (((sl.toUInt32 >>> ((2 : Int32) &&& 31).toUInt32).toInt32) &&& (3 : Int32)), .unset] [(.long ya)])) (fun t k => XS.lload X91.here hx rfl (hb hby at_74) rfl k) ?_
        refine Wk.go (A' := T91.setTop (mkF m 77 #[jv xa, .second, jv ya, .second, jv xc, .second, jv yc, .second, iv sl, rv oP, jv xa, .second, jv ya, .second, rv oQ, iv (((sl.toUInt32 >>> ((2 : Int32) &&& 31).toUInt32).toInt32) &&& (3 : Int32)), .unset] [(.long ya), (.long ya)])) (fun t k => XS.lloadN X91.here hx rfl (hb hby at_76) rfl k) ?_
        refine Wk.go (A' := T91.setTop (mkF m 78 #[jv xa, .second, jv ya, .second, jv xc, .second, jv yc, .second, iv sl, rv oP, jv xa, .second, jv ya, .second, rv oQ, iv (((sl.toUInt32 >>> ((2 : Int32) &&& 31).toUInt32).toInt32) &&& (3 : Int32)), .unset] [(.int (lcmpW ya ya))])) (fun t k => XS.lcmp X91.here hx rfl (hb hby at_77) rfl k) ?_
        have hc78 : ya = ya := rfl
        refine Wk.go (A' := T91.setTop (mkF m 81 #[jv xa, .second, jv ya, .second, jv xc, .second, jv yc, .second, iv sl, rv oP, jv xa, .second, jv ya, .second, rv oQ, iv (((sl.toUInt32 >>> ((2 : Int32) &&& 31).toUInt32).toInt32) &&& (3 : Int32)), .unset] [])) (fun t k => XS.ifNo X91.here hx rfl (hb hby at_78) rfl ((if0 _ _).trans (teq ((lw_eq _ _).mpr hc78)).2) k) ?_
        refine Wk.go (A' := T91.setTop (mkF m 82 #[jv xa, .second, jv ya, .second, jv xc, .second, jv yc, .second, iv sl, rv oP, jv xa, .second, jv ya, .second, rv oQ, iv (((sl.toUInt32 >>> ((2 : Int32) &&& 31).toUInt32).toInt32) &&& (3 : Int32)), .unset] [(.int (1 : Int32))])) (fun t k => XS.iconst X91.here hx rfl (hb hby at_81) k) ?_
        refine Wk.go (A' := T91.setTop (mkF m 86 #[jv xa, .second, jv ya, .second, jv xc, .second, jv yc, .second, iv sl, rv oP, jv xa, .second, jv ya, .second, rv oQ, iv (((sl.toUInt32 >>> ((2 : Int32) &&& 31).toUInt32).toInt32) &&& (3 : Int32)), .unset] [(.int (1 : Int32))])) (fun t k => XS.goto X91.here hx rfl (pc0 := 82) (pc' := 86) rfl (hb hby at_82) (by decide) (by decide) k) ?_
        refine Wk.go (A' := T91.setTop (mkF m 88 #[jv xa, .second, jv ya, .second, jv xc, .second, jv yc, .second, iv sl, rv oP, jv xa, .second, jv ya, .second, rv oQ, iv (((sl.toUInt32 >>> ((2 : Int32) &&& 31).toUInt32).toInt32) &&& (3 : Int32)), iv (1 : Int32)] [])) (fun t k => XS.istore X91.here hx rfl (hb hby at_86) rfl (l' := #[jv xa, .second, jv ya, .second, jv xc, .second, jv yc, .second, iv sl, rv oP, jv xa, .second, jv ya, .second, rv oQ, iv (((sl.toUInt32 >>> ((2 : Int32) &&& 31).toUInt32).toInt32) &&& (3 : Int32)), iv (1 : Int32)]) rfl k) ?_
        refine Wk.go (A' := T91.setTop (mkF m 90 #[jv xa, .second, jv ya, .second, jv xc, .second, jv yc, .second, iv sl, rv oP, jv xa, .second, jv ya, .second, rv oQ, iv (((sl.toUInt32 >>> ((2 : Int32) &&& 31).toUInt32).toInt32) &&& (3 : Int32)), iv (1 : Int32)] [(.ref oP)])) (fun t k => XS.aload X91.here hx rfl (hb hby at_88) rfl rfl k) ?_
        refine Wk.go (A' := T91.setTop (mkF m 92 #[jv xa, .second, jv ya, .second, jv xc, .second, jv yc, .second, iv sl, rv oP, jv xa, .second, jv ya, .second, rv oQ, iv (((sl.toUInt32 >>> ((2 : Int32) &&& 31).toUInt32).toInt32) &&& (3 : Int32)), iv (1 : Int32)] [(.ref oQ), (.ref oP)])) (fun t k => XS.aload X91.here hx rfl (hb hby at_90) rfl rfl k) ?_
        obtain ⟨cq97, kq97, q97a, q97b, q97c⟩ := isOf hZ rfl f93
        obtain ⟨_, _, ⟨T97, L97, k97, n97⟩, -, X97, ⟨Lc97, hQ97, l97, y97, z97⟩, st97⟩ := X91.virtualBack hx (y := (⟨"com/example/rookery/rookery/drawing/GridPoint", "equals", "(Ljava/lang/Object;)Z"⟩ : MethodName)) (z := (⟨"com/example/rookery/rookery/drawing/GridPoint", "equals", "(Ljava/lang/Object;)Z"⟩ : MethodName)) hown (mvT hZ (tw13 hw)) (mvT hZ (tw14 hw)) (notFace_of_selects (args := #[]) (mvT hZ (tw16 hw))) (mvT hZ (tw16 hw)) (mvT hZ (tw15 hw)) (by decide) (backOf (W := 0) (rm3 l Z a0 hw [] oP oQ xa ya xa ya T91.heap n0 Zp91 Eq91 f94 f95 Fq91_x Fq91_y) hZ (tw17 hw) (tw2 hw) (by decide) (by decide)) q97a q97c (g := (mkF m 92 #[jv xa, .second, jv ya, .second, jv xc, .second, jv yc, .second, iv sl, rv oP, jv xa, .second, jv ya, .second, rv oQ, iv (((sl.toUInt32 >>> ((2 : Int32) &&& 31).toUInt32).toInt32) &&& (3 : Int32)), iv (1 : Int32)] [(.ref oQ), (.ref oP)])) rfl (by rw [hml]; rfl) (Steps.refl _) (argsL := [(.ref oQ)]) (rest := []) (lenOf pd_4 rfl) rfl (by show 2 * 0 + _ ≤ _; exact Nat.le_of_eq rfl) (hb hby at_92) (fun _ _ => ⟨rfl, rfl, (by decide : 2 + 0 ≤ _), (by decide : 4 + 0 ≤ _)⟩)
        dsimp only [Pt.U, Pt.locs, Pt.cells, Pt.slots] at X97 l97 y97 z97 st97 hQ97
        subst l97 y97 z97
        obtain ⟨rfl, N97q, hE97⟩ := hQ97
        have N97 := Fr.app N91 N97q
        refine Wk.go (A' := T97.setTop (mkF m 95 #[jv xa, .second, jv ya, .second, jv xc, .second, jv yc, .second, iv sl, rv oP, jv xa, .second, jv ya, .second, rv oQ, iv (((sl.toUInt32 >>> ((2 : Int32) &&& 31).toUInt32).toInt32) &&& (3 : Int32)), iv (1 : Int32)] [(.int (f_eq oP oQ xa ya xa ya))])) (fun t k => st97.trans k) ?_
        refine Wk.go (A' := T97.setTop (mkF m 97 #[jv xa, .second, jv ya, .second, jv xc, .second, jv yc, .second, iv sl, rv oP, jv xa, .second, jv ya, .second, rv oQ, iv (((sl.toUInt32 >>> ((2 : Int32) &&& 31).toUInt32).toInt32) &&& (3 : Int32)), iv (1 : Int32)] [(.int (1 : Int32)), (.int (f_eq oP oQ xa ya xa ya))])) (fun t k => XS.iload X97.here hx rfl (hb hby at_95) rfl k) ?_
        have hc97 : (f_eq oP oQ xa ya xa ya) = (1 : Int32) := by rw [own_eq, if_pos hc71.symm, if_pos hc78.symm]
        refine Wk.go (A' := T97.setTop (mkF m 100 #[jv xa, .second, jv ya, .second, jv xc, .second, jv yc, .second, iv sl, rv oP, jv xa, .second, jv ya, .second, rv oQ, iv (((sl.toUInt32 >>> ((2 : Int32) &&& 31).toUInt32).toInt32) &&& (3 : Int32)), iv (1 : Int32)] [])) (fun t k => XS.icmpNo X97.here hx rfl (hb hby at_97) rfl (teq hc97).2 k) ?_
        refine Wk.go (A' := T97.setTop (mkF m 102 #[jv xa, .second, jv ya, .second, jv xc, .second, jv yc, .second, iv sl, rv oP, jv xa, .second, jv ya, .second, rv oQ, iv (((sl.toUInt32 >>> ((2 : Int32) &&& 31).toUInt32).toInt32) &&& (3 : Int32)), iv (1 : Int32)] [(.ref oQ)])) (fun t k => XS.aload X97.here hx rfl (hb hby at_100) rfl rfl k) ?_
        refine Wk.go (A' := T97.setTop (mkF m 104 #[jv xa, .second, jv ya, .second, jv xc, .second, jv yc, .second, iv sl, rv oP, jv xa, .second, jv ya, .second, rv oQ, iv (((sl.toUInt32 >>> ((2 : Int32) &&& 31).toUInt32).toInt32) &&& (3 : Int32)), iv (1 : Int32)] [(.ref oP), (.ref oQ)])) (fun t k => XS.aload X97.here hx rfl (hb hby at_102) rfl rfl k) ?_
        obtain ⟨cq98, kq98, q98a, q98b, q98c⟩ := isOf hZ (hE97) Eq91
        obtain ⟨_, _, ⟨T98, L98, k98, n98⟩, -, X98, ⟨Lc98, hQ98, l98, y98, z98⟩, st98⟩ := X97.virtualBack hx (y := (⟨"com/example/rookery/rookery/drawing/GridPoint", "equals", "(Ljava/lang/Object;)Z"⟩ : MethodName)) (z := (⟨"com/example/rookery/rookery/drawing/GridPoint", "equals", "(Ljava/lang/Object;)Z"⟩ : MethodName)) hown (mvT hZ (tw13 hw)) (mvT hZ (tw14 hw)) (notFace_of_selects (args := #[]) (mvT hZ (tw16 hw))) (mvT hZ (tw16 hw)) (mvT hZ (tw15 hw)) (by decide) (backOf (W := 0) (rm3 l Z a0 hw [] oQ oP xa ya xa ya T91.heap n0 Zp91 f93 Fq91_x Fq91_y f94 f95) hZ (tw17 hw) (tw2 hw) (by decide) (by decide)) q98a q98c (g := (mkF m 104 #[jv xa, .second, jv ya, .second, jv xc, .second, jv yc, .second, iv sl, rv oP, jv xa, .second, jv ya, .second, rv oQ, iv (((sl.toUInt32 >>> ((2 : Int32) &&& 31).toUInt32).toInt32) &&& (3 : Int32)), iv (1 : Int32)] [(.ref oP), (.ref oQ)])) rfl (by rw [hml]; rfl) (Steps.refl _) (argsL := [(.ref oP)]) (rest := []) (lenOf pd_4 rfl) rfl (by show 2 * 0 + _ ≤ _; exact Nat.le_of_eq rfl) (hb hby at_104) (fun _ _ => ⟨rfl, (hE97), (by decide : 2 + 0 ≤ _), (by decide : 4 + 0 ≤ _)⟩)
        dsimp only [Pt.U, Pt.locs, Pt.cells, Pt.slots] at X98 l98 y98 z98 st98 hQ98
        subst l98 y98 z98
        obtain ⟨rfl, N98q, hE98⟩ := hQ98
        have N98 := Fr.app N97 N98q
        refine Wk.go (A' := T98.setTop (mkF m 107 #[jv xa, .second, jv ya, .second, jv xc, .second, jv yc, .second, iv sl, rv oP, jv xa, .second, jv ya, .second, rv oQ, iv (((sl.toUInt32 >>> ((2 : Int32) &&& 31).toUInt32).toInt32) &&& (3 : Int32)), iv (1 : Int32)] [(.int (f_eq oQ oP xa ya xa ya))])) (fun t k => st98.trans k) ?_
        refine Wk.go (A' := T98.setTop (mkF m 109 #[jv xa, .second, jv ya, .second, jv xc, .second, jv yc, .second, iv sl, rv oP, jv xa, .second, jv ya, .second, rv oQ, iv (((sl.toUInt32 >>> ((2 : Int32) &&& 31).toUInt32).toInt32) &&& (3 : Int32)), iv (1 : Int32)] [(.int (1 : Int32)), (.int (f_eq oQ oP xa ya xa ya))])) (fun t k => XS.iload X98.here hx rfl (hb hby at_107) rfl k) ?_
        have hc109 : (f_eq oQ oP xa ya xa ya) = (1 : Int32) := by rw [own_eq, if_pos hc71, if_pos hc78]
        refine Wk.go (A' := T98.setTop (mkF m 112 #[jv xa, .second, jv ya, .second, jv xc, .second, jv yc, .second, iv sl, rv oP, jv xa, .second, jv ya, .second, rv oQ, iv (((sl.toUInt32 >>> ((2 : Int32) &&& 31).toUInt32).toInt32) &&& (3 : Int32)), iv (1 : Int32)] [])) (fun t k => XS.icmpNo X98.here hx rfl (hb hby at_109) rfl (teq hc109).2 k) ?_
        refine Wk.go (A' := T98.setTop (mkF m 113 #[jv xa, .second, jv ya, .second, jv xc, .second, jv yc, .second, iv sl, rv oP, jv xa, .second, jv ya, .second, rv oQ, iv (((sl.toUInt32 >>> ((2 : Int32) &&& 31).toUInt32).toInt32) &&& (3 : Int32)), iv (1 : Int32)] [(.int (1 : Int32))])) (fun t k => XS.iconst X98.here hx rfl (hb hby at_112) k) ?_
        refine Wk.go (A' := T98.setTop (mkF m 117 #[jv xa, .second, jv ya, .second, jv xc, .second, jv yc, .second, iv sl, rv oP, jv xa, .second, jv ya, .second, rv oQ, iv (((sl.toUInt32 >>> ((2 : Int32) &&& 31).toUInt32).toInt32) &&& (3 : Int32)), iv (1 : Int32)] [(.int (1 : Int32))])) (fun t k => XS.goto X98.here hx rfl (pc0 := 113) (pc' := 117) rfl (hb hby at_113) (by decide) (by decide) k) ?_
        refine own_fin (Qv := Q0 Z xa ya xc yc sl wcs h0 n0) (v := some (.int (1 : Int32))) X98 hlk (fun h => by rw [Bd.returns] at h; cases h) (fun fs hr => retN X98 hx (t := .boolean) Bd.returns (by simp) (hb hby at_117) hr) ?_ (by decide) (by decide)
        exact ⟨rfl, N98⟩
      · refine Wk.go (A' := T91.setTop (mkF m 118 #[jv xa, .second, jv ya, .second, jv xc, .second, jv yc, .second, iv sl, rv oP, jv xa, .second, jv ya, .second, rv oQ, iv (((sl.toUInt32 >>> ((2 : Int32) &&& 31).toUInt32).toInt32) &&& (3 : Int32)), .unset] [])) (fun t k => XS.ifYes X91.here hx rfl (pc0 := 64) (pc' := 118) rfl (hb hby at_64) rfl ((if0 _ _).trans (feq hc64).2) (by decide) (by decide) k) ?_
        refine Wk.go (A' := T91.setTop (mkF m 120 #[jv xa, .second, jv ya, .second, jv xc, .second, jv yc, .second, iv sl, rv oP, jv xa, .second, jv ya, .second, rv oQ, iv (((sl.toUInt32 >>> ((2 : Int32) &&& 31).toUInt32).toInt32) &&& (3 : Int32)), .unset] [(.int (((sl.toUInt32 >>> ((2 : Int32) &&& 31).toUInt32).toInt32) &&& (3 : Int32)))])) (fun t k => XS.iload X91.here hx rfl (hb hby at_118) rfl k) ?_
        refine Wk.go (A' := T91.setTop (mkF m 121 #[jv xa, .second, jv ya, .second, jv xc, .second, jv yc, .second, iv sl, rv oP, jv xa, .second, jv ya, .second, rv oQ, iv (((sl.toUInt32 >>> ((2 : Int32) &&& 31).toUInt32).toInt32) &&& (3 : Int32)), .unset] [(.int (1 : Int32)), (.int (((sl.toUInt32 >>> ((2 : Int32) &&& 31).toUInt32).toInt32) &&& (3 : Int32)))])) (fun t k => XS.iconst X91.here hx rfl (hb hby at_120) k) ?_
        by_cases hc121 : (((sl.toUInt32 >>> ((2 : Int32) &&& 31).toUInt32).toInt32) &&& (3 : Int32)) = (1 : Int32)
        · refine Wk.go (A' := T91.setTop (mkF m 124 #[jv xa, .second, jv ya, .second, jv xc, .second, jv yc, .second, iv sl, rv oP, jv xa, .second, jv ya, .second, rv oQ, iv (((sl.toUInt32 >>> ((2 : Int32) &&& 31).toUInt32).toInt32) &&& (3 : Int32)), .unset] [])) (fun t k => XS.icmpNo X91.here hx rfl (hb hby at_121) rfl (teq hc121).2 k) ?_
          refine Wk.go (A' := T91.setTop (mkF m 126 #[jv xa, .second, jv ya, .second, jv xc, .second, jv yc, .second, iv sl, rv oP, jv xa, .second, jv ya, .second, rv oQ, iv (((sl.toUInt32 >>> ((2 : Int32) &&& 31).toUInt32).toInt32) &&& (3 : Int32)), .unset] [(.ref oP)])) (fun t k => XS.aload X91.here hx rfl (hb hby at_124) rfl rfl k) ?_
          refine Wk.go (A' := T91.setTop (mkF m 127 #[jv xa, .second, jv ya, .second, jv xc, .second, jv yc, .second, iv sl, rv oP, jv xa, .second, jv ya, .second, rv oQ, iv (((sl.toUInt32 >>> ((2 : Int32) &&& 31).toUInt32).toInt32) &&& (3 : Int32)), .unset] [.null, (.ref oP)])) (fun t k => XS.aconstNull X91.here hx rfl (hb hby at_126) k) ?_
          obtain ⟨cq99, kq99, q99a, q99b, q99c⟩ := isOf hZ rfl f93
          obtain ⟨_, _, ⟨T99, L99, k99, n99⟩, -, X99, ⟨Lc99, hQ99, l99, y99, z99⟩, st99⟩ := X91.virtualBack hx (y := (⟨"com/example/rookery/rookery/drawing/GridPoint", "equals", "(Ljava/lang/Object;)Z"⟩ : MethodName)) (z := (⟨"com/example/rookery/rookery/drawing/GridPoint", "equals", "(Ljava/lang/Object;)Z"⟩ : MethodName)) hown (mvT hZ (tw13 hw)) (mvT hZ (tw14 hw)) (notFace_of_selects (args := #[]) (mvT hZ (tw16 hw))) (mvT hZ (tw16 hw)) (mvT hZ (tw15 hw)) (by decide) (backOf (W := 0) (rm3n l Z a0 hw [] oP  T91.heap n0 Zp91 ) hZ (tw17 hw) (tw2 hw) (by decide) (by decide)) q99a q99c (g := (mkF m 127 #[jv xa, .second, jv ya, .second, jv xc, .second, jv yc, .second, iv sl, rv oP, jv xa, .second, jv ya, .second, rv oQ, iv (((sl.toUInt32 >>> ((2 : Int32) &&& 31).toUInt32).toInt32) &&& (3 : Int32)), .unset] [.null, (.ref oP)])) rfl (by rw [hml]; rfl) (Steps.refl _) (argsL := [.null]) (rest := []) (lenOf pd_4 rfl) rfl (by show 2 * 0 + _ ≤ _; exact Nat.le_of_eq rfl) (hb hby at_127) (fun _ _ => ⟨rfl, rfl, (by decide : 2 + 0 ≤ _), (by decide : 4 + 0 ≤ _)⟩)
          dsimp only [Pt.U, Pt.locs, Pt.cells, Pt.slots] at X99 l99 y99 z99 st99 hQ99
          subst l99 y99 z99
          obtain ⟨rfl, N99q, hE99⟩ := hQ99
          have N99 := Fr.app N91 N99q
          refine Wk.go (A' := T99.setTop (mkF m 130 #[jv xa, .second, jv ya, .second, jv xc, .second, jv yc, .second, iv sl, rv oP, jv xa, .second, jv ya, .second, rv oQ, iv (((sl.toUInt32 >>> ((2 : Int32) &&& 31).toUInt32).toInt32) &&& (3 : Int32)), .unset] [(.int (f_eqn oP))])) (fun t k => st99.trans k) ?_
          have hc130 : (f_eqn oP) = (0 : Int32) := rfl
          refine Wk.go (A' := T99.setTop (mkF m 133 #[jv xa, .second, jv ya, .second, jv xc, .second, jv yc, .second, iv sl, rv oP, jv xa, .second, jv ya, .second, rv oQ, iv (((sl.toUInt32 >>> ((2 : Int32) &&& 31).toUInt32).toInt32) &&& (3 : Int32)), .unset] [])) (fun t k => XS.ifNo X99.here hx rfl (hb hby at_130) rfl ((if0 _ _).trans (teq hc130).2) k) ?_
          refine Wk.go (A' := T99.setTop (mkF m 134 #[jv xa, .second, jv ya, .second, jv xc, .second, jv yc, .second, iv sl, rv oP, jv xa, .second, jv ya, .second, rv oQ, iv (((sl.toUInt32 >>> ((2 : Int32) &&& 31).toUInt32).toInt32) &&& (3 : Int32)), .unset] [(.int (1 : Int32))])) (fun t k => XS.iconst X99.here hx rfl (hb hby at_133) k) ?_
          refine Wk.go (A' := T99.setTop (mkF m 138 #[jv xa, .second, jv ya, .second, jv xc, .second, jv yc, .second, iv sl, rv oP, jv xa, .second, jv ya, .second, rv oQ, iv (((sl.toUInt32 >>> ((2 : Int32) &&& 31).toUInt32).toInt32) &&& (3 : Int32)), .unset] [(.int (1 : Int32))])) (fun t k => XS.goto X99.here hx rfl (pc0 := 134) (pc' := 138) rfl (hb hby at_134) (by decide) (by decide) k) ?_
          refine own_fin (Qv := Q0 Z xa ya xc yc sl wcs h0 n0) (v := some (.int (1 : Int32))) X99 hlk (fun h => by rw [Bd.returns] at h; cases h) (fun fs hr => retN X99 hx (t := .boolean) Bd.returns (by simp) (hb hby at_138) hr) ?_ (by decide) (by decide)
          exact ⟨rfl, N99⟩
        · refine Wk.go (A' := T91.setTop (mkF m 139 #[jv xa, .second, jv ya, .second, jv xc, .second, jv yc, .second, iv sl, rv oP, jv xa, .second, jv ya, .second, rv oQ, iv (((sl.toUInt32 >>> ((2 : Int32) &&& 31).toUInt32).toInt32) &&& (3 : Int32)), .unset] [])) (fun t k => XS.icmpYes X91.here hx rfl (pc0 := 121) (pc' := 139) rfl (hb hby at_121) rfl (feq hc121).2 (by decide) (by decide) k) ?_
          refine Wk.go (A' := T91.setTop (mkF m 141 #[jv xa, .second, jv ya, .second, jv xc, .second, jv yc, .second, iv sl, rv oP, jv xa, .second, jv ya, .second, rv oQ, iv (((sl.toUInt32 >>> ((2 : Int32) &&& 31).toUInt32).toInt32) &&& (3 : Int32)), .unset] [(.int (((sl.toUInt32 >>> ((2 : Int32) &&& 31).toUInt32).toInt32) &&& (3 : Int32)))])) (fun t k => XS.iload X91.here hx rfl (hb hby at_139) rfl k) ?_
          refine Wk.go (A' := T91.setTop (mkF m 142 #[jv xa, .second, jv ya, .second, jv xc, .second, jv yc, .second, iv sl, rv oP, jv xa, .second, jv ya, .second, rv oQ, iv (((sl.toUInt32 >>> ((2 : Int32) &&& 31).toUInt32).toInt32) &&& (3 : Int32)), .unset] [(.int (2 : Int32)), (.int (((sl.toUInt32 >>> ((2 : Int32) &&& 31).toUInt32).toInt32) &&& (3 : Int32)))])) (fun t k => XS.iconst X91.here hx rfl (hb hby at_141) k) ?_
          by_cases hc142 : (((sl.toUInt32 >>> ((2 : Int32) &&& 31).toUInt32).toInt32) &&& (3 : Int32)) = (2 : Int32)
          · refine Wk.go (A' := T91.setTop (mkF m 145 #[jv xa, .second, jv ya, .second, jv xc, .second, jv yc, .second, iv sl, rv oP, jv xa, .second, jv ya, .second, rv oQ, iv (((sl.toUInt32 >>> ((2 : Int32) &&& 31).toUInt32).toInt32) &&& (3 : Int32)), .unset] [])) (fun t k => XS.icmpNo X91.here hx rfl (hb hby at_142) rfl (teq hc142).2 k) ?_
            refine Wk.go (A' := T91.setTop (mkF m 147 #[jv xa, .second, jv ya, .second, jv xc, .second, jv yc, .second, iv sl, rv oP, jv xa, .second, jv ya, .second, rv oQ, iv (((sl.toUInt32 >>> ((2 : Int32) &&& 31).toUInt32).toInt32) &&& (3 : Int32)), .unset] [(.int sl)])) (fun t k => XS.iload X91.here hx rfl (hb hby at_145) rfl k) ?_
            refine Wk.go (A' := T91.setTop (mkF m 149 #[jv xa, .second, jv ya, .second, jv xc, .second, jv yc, .second, iv sl, rv oP, jv xa, .second, jv ya, .second, rv oQ, iv (((sl.toUInt32 >>> ((2 : Int32) &&& 31).toUInt32).toInt32) &&& (3 : Int32)), .unset] [(.int (8 : Int32)), (.int sl)])) (fun t k => XS.bipush X91.here hx rfl (hb hby at_147) k) ?_
            refine Wk.go (A' := T91.setTop (mkF m 150 #[jv xa, .second, jv ya, .second, jv xc, .second, jv yc, .second, iv sl, rv oP, jv xa, .second, jv ya, .second, rv oQ, iv (((sl.toUInt32 >>> ((2 : Int32) &&& 31).toUInt32).toInt32) &&& (3 : Int32)), .unset] [(.int ((sl.toUInt32 >>> ((8 : Int32) &&& 31).toUInt32).toInt32))])) (fun t k => XS.iushr X91.here hx rfl (hb hby at_149) rfl k) ?_
            refine Wk.go (A' := T91.setTop (mkF m 153 #[jv xa, .second, jv ya, .second, jv xc, .second, jv yc, .second, iv sl, rv oP, jv xa, .second, jv ya, .second, rv oQ, iv (((sl.toUInt32 >>> ((2 : Int32) &&& 31).toUInt32).toInt32) &&& (3 : Int32)), .unset] [(.int (255 : Int32)), (.int ((sl.toUInt32 >>> ((8 : Int32) &&& 31).toUInt32).toInt32))])) (fun t k => XS.sipush X91.here hx rfl (hb hby at_150) k) ?_
            refine Wk.go (A' := T91.setTop (mkF m 154 #[jv xa, .second, jv ya, .second, jv xc, .second, jv yc, .second, iv sl, rv oP, jv xa, .second, jv ya, .second, rv oQ, iv (((sl.toUInt32 >>> ((2 : Int32) &&& 31).toUInt32).toInt32) &&& (3 : Int32)), .unset] [(.int (((sl.toUInt32 >>> ((8 : Int32) &&& 31).toUInt32).toInt32) &&& (255 : Int32)))])) (fun t k => XS.iand X91.here hx rfl (hb hby at_153) rfl k) ?_
            refine Wk.go (A' := T91.setTop (mkF m 155 #[jv xa, .second, jv ya, .second, jv xc, .second, jv yc, .second, iv sl, rv oP, jv xa, .second, jv ya, .second, rv oQ, iv (((sl.toUInt32 >>> ((2 : Int32) &&& 31).toUInt32).toInt32) &&& (3 : Int32)), .unset] [(.int ((((sl.toUInt32 >>> ((8 : Int32) &&& 31).toUInt32).toInt32) &&& (255 : Int32)).toUInt32.toUInt16.toUInt32.toInt32))])) (fun t k => XS.i2c X91.here hx rfl (hb hby at_154) rfl k) ?_
            obtain ⟨_, _, ⟨T100, L100, k100, n100⟩, -, X100, ⟨Lc100, hQ100, l100, y100, z100⟩, st100⟩ := Jvm.LawKit.callS X91 hx (y := (⟨"java/lang/String", "valueOf", "(C)Ljava/lang/String;"⟩ : MethodName)) hown (mvT hZ (tw20 hw)) (mvT hZ (tw21 hw)) (mvT hZ (tw22 hw)) (mvT hZ (tw23 hw)) (by decide) (backOf (W := 0) (rm4 l Z a0 hw [] ((((sl.toUInt32 >>> ((8 : Int32) &&& 31).toUInt32).toInt32) &&& (255 : Int32)).toUInt32.toUInt16.toUInt32.toInt32) wcs T91.heap n0 Zp91 (S0.ext f92.2) hcs (own_ch sl)) hZ (tw23 hw) (tw22 hw) (by decide) (by decide)) (g := (mkF m 155 #[jv xa, .second, jv ya, .second, jv xc, .second, jv yc, .second, iv sl, rv oP, jv xa, .second, jv ya, .second, rv oQ, iv (((sl.toUInt32 >>> ((2 : Int32) &&& 31).toUInt32).toInt32) &&& (3 : Int32)), .unset] [(.int ((((sl.toUInt32 >>> ((8 : Int32) &&& 31).toUInt32).toInt32) &&& (255 : Int32)).toUInt32.toUInt16.toUInt32.toInt32))])) rfl (by rw [hml]; rfl) (argsL := [(.int ((((sl.toUInt32 >>> ((8 : Int32) &&& 31).toUInt32).toInt32) &&& (255 : Int32)).toUInt32.toUInt16.toUInt32.toInt32))]) (rest := []) (lenOf pd_5 rfl) rfl (by show 2 * 0 + _ ≤ _; exact Nat.le_of_eq rfl) (hb hby at_155) (fun _ _ => ⟨rfl, rfl, (by decide : 2 + 2 ≤ _), (by decide : 4 + 5 ≤ _)⟩)
            dsimp only [Pt.U, Pt.locs, Pt.cells, Pt.slots] at X100 l100 y100 z100 st100 hQ100
            subst l100 y100 z100
            obtain ⟨b100, rfl, N100q, Kq100, g_b100, bb_b100, Eq100⟩ := hQ100
            have N100 := Fr.app N91 N100q
            have f101 := f92.keep Kq100 all0
            have f102 := f93.keep Kq100
            have f103 := f94.keep Kq100 nin0
            have f104 := f95.keep Kq100 nin0
            have f105 := Eq91.keep Kq100
            have f106 := Fq91_x.keep Kq100 nin0
            have f107 := Fq91_y.keep Kq100 nin0
            have Zp100 : n0 ≤ T100.heap.size := Nat.le_trans Zp91 Kq100.1
            refine Wk.go (A' := T100.setTop (mkF m 158 #[jv xa, .second, jv ya, .second, jv xc, .second, jv yc, .second, iv sl, rv oP, jv xa, .second, jv ya, .second, rv oQ, iv (((sl.toUInt32 >>> ((2 : Int32) &&& 31).toUInt32).toInt32) &&& (3 : Int32)), .unset] [(.ref b100)])) (fun t k => st100 t k) ?_
            refine Wk.go (A' := T100.setTop (mkF m 160 #[jv xa, .second, jv ya, .second, jv xc, .second, jv yc, .second, iv sl, rv oP, jv xa, .second, jv ya, .second, rv oQ, iv (((sl.toUInt32 >>> ((2 : Int32) &&& 31).toUInt32).toInt32) &&& (3 : Int32)), rv b100] [])) (fun t k => XS.astore X100.here hx rfl (hb hby at_158) rfl rfl (l' := #[jv xa, .second, jv ya, .second, jv xc, .second, jv yc, .second, iv sl, rv oP, jv xa, .second, jv ya, .second, rv oQ, iv (((sl.toUInt32 >>> ((2 : Int32) &&& 31).toUInt32).toInt32) &&& (3 : Int32)), rv b100]) rfl k) ?_
            refine Wk.go (A' := T100.setTop (mkF m 162 #[jv xa, .second, jv ya, .second, jv xc, .second, jv yc, .second, iv sl, rv oP, jv xa, .second, jv ya, .second, rv oQ, iv (((sl.toUInt32 >>> ((2 : Int32) &&& 31).toUInt32).toInt32) &&& (3 : Int32)), rv b100] [(.ref oP)])) (fun t k => XS.aload X100.here hx rfl (hb hby at_160) rfl rfl k) ?_
            refine Wk.go (A' := T100.setTop (mkF m 164 #[jv xa, .second, jv ya, .second, jv xc, .second, jv yc, .second, iv sl, rv oP, jv xa, .second, jv ya, .second, rv oQ, iv (((sl.toUInt32 >>> ((2 : Int32) &&& 31).toUInt32).toInt32) &&& (3 : Int32)), rv b100] [(.ref b100), (.ref oP)])) (fun t k => XS.aload X100.here hx rfl (hb hby at_162) rfl rfl k) ?_
            obtain ⟨cq108, kq108, q108a, q108b, q108c⟩ := isOf hZ rfl f102
            obtain ⟨_, _, ⟨T108, L108, k108, n108⟩, -, X108, ⟨Lc108, hQ108, l108, y108, z108⟩, st108⟩ := X100.virtualBack hx (y := (⟨"com/example/rookery/rookery/drawing/GridPoint", "equals", "(Ljava/lang/Object;)Z"⟩ : MethodName)) (z := (⟨"com/example/rookery/rookery/drawing/GridPoint", "equals", "(Ljava/lang/Object;)Z"⟩ : MethodName)) hown (mvT hZ (tw13 hw)) (mvT hZ (tw14 hw)) (notFace_of_selects (args := #[]) (mvT hZ (tw16 hw))) (mvT hZ (tw16 hw)) (mvT hZ (tw15 hw)) (by decide) (backOf (W := 0) (rm3s l Z a0 hw [] oP b100  T100.heap n0 Zp100 Eq100) hZ (tw17 hw) (tw2 hw) (by decide) (by decide)) q108a q108c (g := (mkF m 164 #[jv xa, .second, jv ya, .second, jv xc, .second, jv yc, .second, iv sl, rv oP, jv xa, .second, jv ya, .second, rv oQ, iv (((sl.toUInt32 >>> ((2 : Int32) &&& 31).toUInt32).toInt32) &&& (3 : Int32)), rv b100] [(.ref b100), (.ref oP)])) rfl (by rw [hml]; rfl) (Steps.refl _) (argsL := [(.ref b100)]) (rest := []) (lenOf pd_4 rfl) rfl (by show 2 * 0 + _ ≤ _; exact Nat.le_of_eq rfl) (hb hby at_164) (fun _ _ => ⟨rfl, rfl, (by decide : 4 + 0 ≤ _), (by decide : 9 + 0 ≤ _)⟩)
            dsimp only [Pt.U, Pt.locs, Pt.cells, Pt.slots] at X108 l108 y108 z108 st108 hQ108
            subst l108 y108 z108
            obtain ⟨rfl, N108q, hE108⟩ := hQ108
            have N108 := Fr.app N100 N108q
            refine Wk.go (A' := T108.setTop (mkF m 167 #[jv xa, .second, jv ya, .second, jv xc, .second, jv yc, .second, iv sl, rv oP, jv xa, .second, jv ya, .second, rv oQ, iv (((sl.toUInt32 >>> ((2 : Int32) &&& 31).toUInt32).toInt32) &&& (3 : Int32)), rv b100] [(.int (f_eqs oP b100))])) (fun t k => st108.trans k) ?_
            have hc167 : (f_eqs oP b100) = (0 : Int32) := rfl
            refine Wk.go (A' := T108.setTop (mkF m 170 #[jv xa, .second, jv ya, .second, jv xc, .second, jv yc, .second, iv sl, rv oP, jv xa, .second, jv ya, .second, rv oQ, iv (((sl.toUInt32 >>> ((2 : Int32) &&& 31).toUInt32).toInt32) &&& (3 : Int32)), rv b100] [])) (fun t k => XS.ifNo X108.here hx rfl (hb hby at_167) rfl ((if0 _ _).trans (teq hc167).2) k) ?_
            refine Wk.go (A' := T108.setTop (mkF m 171 #[jv xa, .second, jv ya, .second, jv xc, .second, jv yc, .second, iv sl, rv oP, jv xa, .second, jv ya, .second, rv oQ, iv (((sl.toUInt32 >>> ((2 : Int32) &&& 31).toUInt32).toInt32) &&& (3 : Int32)), rv b100] [(.int (1 : Int32))])) (fun t k => XS.iconst X108.here hx rfl (hb hby at_170) k) ?_
            refine Wk.go (A' := T108.setTop (mkF m 175 #[jv xa, .second, jv ya, .second, jv xc, .second, jv yc, .second, iv sl, rv oP, jv xa, .second, jv ya, .second, rv oQ, iv (((sl.toUInt32 >>> ((2 : Int32) &&& 31).toUInt32).toInt32) &&& (3 : Int32)), rv b100] [(.int (1 : Int32))])) (fun t k => XS.goto X108.here hx rfl (pc0 := 171) (pc' := 175) rfl (hb hby at_171) (by decide) (by decide) k) ?_
            refine own_fin (Qv := Q0 Z xa ya xc yc sl wcs h0 n0) (v := some (.int (1 : Int32))) X108 hlk (fun h => by rw [Bd.returns] at h; cases h) (fun fs hr => retN X108 hx (t := .boolean) Bd.returns (by simp) (hb hby at_175) hr) ?_ (by decide) (by decide)
            exact ⟨rfl, N108⟩
          · refine Wk.go (A' := T91.setTop (mkF m 176 #[jv xa, .second, jv ya, .second, jv xc, .second, jv yc, .second, iv sl, rv oP, jv xa, .second, jv ya, .second, rv oQ, iv (((sl.toUInt32 >>> ((2 : Int32) &&& 31).toUInt32).toInt32) &&& (3 : Int32)), .unset] [])) (fun t k => XS.icmpYes X91.here hx rfl (pc0 := 142) (pc' := 176) rfl (hb hby at_142) rfl (feq hc142).2 (by decide) (by decide) k) ?_
            refine Wk.go (A' := T91.setTop (mkF m 178 #[jv xa, .second, jv ya, .second, jv xc, .second, jv yc, .second, iv sl, rv oP, jv xa, .second, jv ya, .second, rv oQ, iv (((sl.toUInt32 >>> ((2 : Int32) &&& 31).toUInt32).toInt32) &&& (3 : Int32)), .unset] [(.ref oP)])) (fun t k => XS.aload X91.here hx rfl (hb hby at_176) rfl rfl k) ?_
            refine Wk.go (A' := T91.setTop (mkF m 180 #[jv xa, .second, jv ya, .second, jv xc, .second, jv yc, .second, iv sl, rv oP, jv xa, .second, jv ya, .second, rv oQ, iv (((sl.toUInt32 >>> ((2 : Int32) &&& 31).toUInt32).toInt32) &&& (3 : Int32)), .unset] [(.ref oP), (.ref oP)])) (fun t k => XS.aload X91.here hx rfl (hb hby at_178) rfl rfl k) ?_
            obtain ⟨cq109, kq109, q109a, q109b, q109c⟩ := isOf hZ rfl f93
            obtain ⟨_, _, ⟨T109, L109, k109, n109⟩, -, X109, ⟨Lc109, hQ109, l109, y109, z109⟩, st109⟩ := X91.virtualBack hx (y := (⟨"com/example/rookery/rookery/drawing/GridPoint", "equals", "(Ljava/lang/Object;)Z"⟩ : MethodName)) (z := (⟨"com/example/rookery/rookery/drawing/GridPoint", "equals", "(Ljava/lang/Object;)Z"⟩ : MethodName)) hown (mvT hZ (tw13 hw)) (mvT hZ (tw14 hw)) (notFace_of_selects (args := #[]) (mvT hZ (tw16 hw))) (mvT hZ (tw16 hw)) (mvT hZ (tw15 hw)) (by decide) (backOf (W := 0) (rm3 l Z a0 hw [] oP oP xa ya xa ya T91.heap n0 Zp91 f93 f94 f95 f94 f95) hZ (tw17 hw) (tw2 hw) (by decide) (by decide)) q109a q109c (g := (mkF m 180 #[jv xa, .second, jv ya, .second, jv xc, .second, jv yc, .second, iv sl, rv oP, jv xa, .second, jv ya, .second, rv oQ, iv (((sl.toUInt32 >>> ((2 : Int32) &&& 31).toUInt32).toInt32) &&& (3 : Int32)), .unset] [(.ref oP), (.ref oP)])) rfl (by rw [hml]; rfl) (Steps.refl _) (argsL := [(.ref oP)]) (rest := []) (lenOf pd_4 rfl) rfl (by show 2 * 0 + _ ≤ _; exact Nat.le_of_eq rfl) (hb hby at_180) (fun _ _ => ⟨rfl, rfl, (by decide : 2 + 0 ≤ _), (by decide : 4 + 0 ≤ _)⟩)
            dsimp only [Pt.U, Pt.locs, Pt.cells, Pt.slots] at X109 l109 y109 z109 st109 hQ109
            subst l109 y109 z109
            obtain ⟨rfl, N109q, hE109⟩ := hQ109
            have N109 := Fr.app N91 N109q
            refine Wk.go (A' := T109.setTop (mkF m 183 #[jv xa, .second, jv ya, .second, jv xc, .second, jv yc, .second, iv sl, rv oP, jv xa, .second, jv ya, .second, rv oQ, iv (((sl.toUInt32 >>> ((2 : Int32) &&& 31).toUInt32).toInt32) &&& (3 : Int32)), .unset] [(.int (f_eq oP oP xa ya xa ya))])) (fun t k => st109.trans k) ?_
            refine own_fin (Qv := Q0 Z xa ya xc yc sl wcs h0 n0) (v := some (.int (nar .boolean (f_eq oP oP xa ya xa ya)))) X109 hlk (fun h => by rw [Bd.returns] at h; cases h) (fun fs hr => retN X109 hx (t := .boolean) Bd.returns (by simp) (hb hby at_183) hr) ?_ (by decide) (by decide)
            exact ⟨congrArg (fun z => some (Value.int z)) (own_self _ _ _), N109⟩
set_option maxRecDepth 65536 in
set_option maxHeartbeats 40000000 in
theorem comes_1 {Post : Tables → Env → Array Value → State → Outcome → State → Prop} (hpost : ∀ tb e args s v u, (limb_1_1.after args s (.returned v) u = true ∧ limb_1_2.after args s (.returned v) u = true ∧ True) → FrameEnd s (.returned v) u (Jvm.fieldLocs frame_1_writes args s ++ Jvm.arrayLocs frame_1_arrays args s ++ Jvm.staticLocs frame_1_statics s) 16 128 → Post tb e args s (.returned v) u) :
    ArmFor flags0 classFile x code maxLocals ret World_1 tables_1 room_1 Calls_1 rest_1 Pre_1 Post := by
  intro l hfl _ _ p e ha hc hk s m args below hf hA hF happ hP
  obtain ⟨hcalls, hrest, hpre⟩ := hP
  obtain ⟨-, -, -, hnamed, -, -, -, hat⟩ := (Spec.applies_iff hf).mp happ
  obtain ⟨hg, hn⟩ := and_e (Cond.before_iff.mp (show (Jvm.Cond.and given_1 narrow_1).before args s = true from hpre))
  obtain ⟨hcnt, g0⟩ := and_e hg
  obtain ⟨ga0, g1⟩ := and_e g0
  obtain ⟨ga1, g2⟩ := and_e g1
  obtain ⟨ga2, g3⟩ := and_e g2
  obtain ⟨ga3, g4⟩ := and_e g3
  obtain ⟨w0, w1, w2, w3, w4, rfl⟩ : ∃ w0 w1 w2 w3 w4 : Value, args = #[w0, w1, w2, w3, w4] := by
    have hs : args.size = 5 := by simpa [Cond.value, given_1] using hcnt
    obtain ⟨L⟩ := args
    match L, hs with
    | [w0, w1, w2, w3, w4], _ => exact ⟨w0, w1, w2, w3, w4, rfl⟩
  have hw := fun d (hd : d ∈ tables_1) => atoms_spec (ws := Jvm.Cond.code x code maxLocals ret :: tables_1) hat d (List.mem_cons_of_mem _ hd)
  obtain ⟨i0, ei0⟩ := isL_v ga0
  obtain rfl : w0 = (.long i0) := Option.some.inj ei0
  obtain ⟨i1, ei1⟩ := isL_v ga1
  obtain rfl : w1 = (.long i1) := Option.some.inj ei1
  obtain ⟨i2, ei2⟩ := isL_v ga2
  obtain rfl : w2 = (.long i2) := Option.some.inj ei2
  obtain ⟨i3, ei3⟩ := isL_v ga3
  obtain rfl : w3 = (.long i3) := Option.some.inj ei3
  obtain ⟨i4, ei4⟩ := is_v g4
  obtain rfl : w4 = (.int i4) := Option.some.inj ei4
  obtain ⟨hsets, hown0⟩ := atoms_of _ (rest_1_c_eq ▸ (show rest_1_c.before _ s = true from hrest))
  obtain ⟨wcs, ew⟩ := is_v (Cond.before_iff.mp (hsets _ (List.mem_of_getElem? (i := 1) rfl)))
  have S0 := Sta.start ew (Or.inl (hsets _ (List.mem_of_getElem? (i := 0) rfl)))
  have hcs : ¬ (wcs = (0 : Int32)) := gotF (Cond.eq_ints ew rfl) (not_v (Cond.before_iff.mp (hsets _ (List.mem_of_getElem? (i := 2) rfl))))
  obtain ⟨n, o, h1, h2, h3, _, L, rfl, ⟨rfl, N⟩, hq⟩ := rm0 l s _ hw tables_1 i0 i1 i2 i3 i4 wcs s.heap s.heap.size (Nat.le_refl _) (Old.start s) S0 hcs p e ha hc hk s m _ below hf ((Spec.applies_iff_loose hf).mp happ).1 ⟨rfl, State.Warmed39.refl s, rfl⟩ trivial
  refine ⟨n, _, h1, h2, h3, hpost _ _ _ _ _ _ ⟨Cond.after_iff.mpr rfl, Cond.after_iff.mpr (eq_i res_at (Term.int_eval (1)) rfl), trivial⟩ ⟨hq.1, hq.2.1, (hq.2.2.sift fun y hy => Or.inr (N y hy)).mono (by decide) (by decide)⟩⟩
theorem main_1_1 : Claimed_1_1 := comes_1 fun _ _ _ _ _ _ h hF => ⟨h.1, hF⟩
theorem main_1_2 : Claimed_1_2 := comes_1 fun _ _ _ _ _ _ h hF => ⟨h.2.1, hF⟩
end Jvm.Pilot.@@N@@
namespace Jvm.Pilot.@@N@@
open Jvm Jvm.ClassFile Sem Op Lib Jvm.Free Jvm.Stand Jvm.Pilot.@@N@@.Jvm.D
/-! MADE BY PROGRAM (witnessworld.py) out of the Statement's table words and the real class files: 17 classes; the members and pool entries that the words name. The judged class is class 1, her method 1. -/
namespace start1
open Jvm.ClassFile
def u (s : String) : CpInfo := .utf8 (stringToUtf16 s)
/-- a pool by its gaps: so many unusable entries, then the entry; so many at the end -/
def gap : Nat → List CpInfo → List CpInfo
  | 0, r => r
  | n + 1, r => .unusable :: gap n r
def poolList (es : List (Nat × CpInfo)) (last : Nat) : List CpInfo := es.foldr (fun e r => gap e.1 (e.2 :: r)) (gap last [])
def pool (es : List (Nat × CpInfo)) (last : Nat) : Array CpInfo := ⟨poolList es last⟩
def fileOf (pool : Array CpInfo) (this : Nat) (attrs : Array Attribute := #[]) (ms : Array MethodInfo := #[]) (fl : Nat := 33) (sup : Nat := 0) (ifs : Array Nat := #[]) (fds : Array FieldInfo := #[]) : ClassFile where
  minorVersion := 0
  majorVersion := 65
  constantPool := pool
  accessFlags := fl
  thisClass := this
  superClass := sup
  interfaces := ifs
  fields := fds
  methods := ms
  attributes := attrs
def plain (name : String) (sup : Option ClassId) : Class where
  name := name
  kind := .ordinary
  loader := none
  accessFlags := 33
  super := sup
  interfaces := #[]
  cf := none
  fields := #[]
  methods := #[]
  instanceTypes := #[]
  staticTypes := #[]
  resolved := #[]
  callSites := []
  init := .initialized
  statics := none
  mirror := none

def pool0 : Array CpInfo := pool [(5, u "<init>"), (0, u "()V"), (1, .class_ 10), (1, u "java/lang/Object")] 113

def k0c0 : Code := { maxStack := 0, maxLocals := 1, code := object_method_1_code, exceptionTable := #[], attributes := #[] }
def k0m0 : Method := { name := "<init>", desc := "()V", sig := { parameters := [], returnType := none }, accessFlags := 1, code := some k0c0 }
/-- java/lang/Object -/
def k0 : Class := { plain "java/lang/Object" none with
  accessFlags := 33
  interfaces := #[]
  cf := some (fileOf pool0 8 #[] #[{ accessFlags := 1, nameIndex := 5, descriptorIndex := 6, attributes := #[] }] 33 0 #[] #[])
  fields := #[]
  methods := #[k0m0]
  instanceTypes := #[]
  staticTypes := #[]
  resolved := Array.replicate 124 none
  statics := none }

def pool1 : Array CpInfo := pool [(2, .class_ 4), (1, u "java/lang/Object"), (0, u "<init>"), (0, u "()V"), (0, .class_ 8), (0, u "com/example/rookery/rookery/drawing/GridPoint"), (0, .methodref 7 10), (0, .nameAndType 5 11), (0, u "(JJ)V"), (0, .methodref 7 13), (0, .nameAndType 14 15), (0, u "equals"), (0, u "(Ljava/lang/Object;)Z"), (0, .methodref 17 18), (0, .class_ 19), (0, .nameAndType 20 21), (0, u "java/lang/String"), (0, u "valueOf"), (0, u "(C)Ljava/lang/String;"), (0, .class_ 23), (0, u "com/example/rookery/rookery/drawing/GridPointEqualsPinLaw"), (2, u "law"), (0, u "(JJJJI)Z")] 3

def k1m0 : Method := { name := "<init>", desc := "()V", sig := { parameters := [], returnType := none }, accessFlags := 1, code := none }
def k1c1 : Code := { maxStack := 6, maxLocals := 17, code := code, exceptionTable := #[], attributes := #[] }
def k1m1 : Method := { name := "law", desc := "(JJJJI)Z", sig := { parameters := [.long, .long, .long, .long, .int], returnType := some .boolean }, accessFlags := 9, code := some k1c1 }
/-- com/example/rookery/rookery/drawing/GridPointEqualsPinLaw -/
def k1 : Class := { plain "com/example/rookery/rookery/drawing/GridPointEqualsPinLaw" (some 0) with
  accessFlags := 49
  interfaces := #[]
  cf := some (fileOf pool1 22 #[] #[{ accessFlags := 1, nameIndex := 5, descriptorIndex := 6, attributes := #[] }, { accessFlags := 9, nameIndex := 26, descriptorIndex := 27, attributes := #[] }] 49 2 #[] #[])
  fields := #[]
  methods := #[k1m0, k1m1]
  instanceTypes := #[]
  staticTypes := #[]
  resolved := Array.replicate 31 none
  statics := none }

def pool2 : Array CpInfo := pool [(1, .methodref 2 3), (0, .class_ 4), (0, .nameAndType 5 6), (0, u "java/lang/Object"), (0, u "<init>"), (0, u "()V"), (0, .fieldref 8 9), (0, .class_ 10), (0, .nameAndType 11 12), (0, u "com/example/rookery/rookery/drawing/GridPoint"), (0, u "x"), (0, u "J"), (0, .fieldref 8 14), (0, .nameAndType 15 12), (0, u "y"), (57, u "(JJ)V"), (5, u "equals"), (0, u "(Ljava/lang/Object;)Z")] 19

def k2c0 : Code := { maxStack := 3, maxLocals := 5, code := prog_21_method_1_code, exceptionTable := #[], attributes := #[] }
def k2m0 : Method := { name := "<init>", desc := "(JJ)V", sig := { parameters := [.long, .long], returnType := none }, accessFlags := 1, code := some k2c0 }
def k2c1 : Code := { maxStack := 4, maxLocals := 3, code := prog_21_method_8_code, exceptionTable := #[], attributes := #[] }
def k2m1 : Method := { name := "equals", desc := "(Ljava/lang/Object;)Z", sig := { parameters := [(.object "java/lang/Object")], returnType := some .boolean }, accessFlags := 1, code := some k2c1 }
/-- com/example/rookery/rookery/drawing/GridPoint -/
def k2 : Class := { plain "com/example/rookery/rookery/drawing/GridPoint" (some 0) with
  accessFlags := 33
  interfaces := #[]
  cf := some (fileOf pool2 8 #[] #[{ accessFlags := 1, nameIndex := 5, descriptorIndex := 73, attributes := #[] }, { accessFlags := 1, nameIndex := 79, descriptorIndex := 80, attributes := #[] }] 33 2 #[] #[{ accessFlags := 18, nameIndex := 11, descriptorIndex := 12, attributes := #[] }, { accessFlags := 18, nameIndex := 15, descriptorIndex := 12, attributes := #[] }])
  fields := #[{ name := "x", type := .long, accessFlags := 18, slot := 0, constantValue := 0 }, { name := "y", type := .long, accessFlags := 18, slot := 1, constantValue := 0 }]
  methods := #[k2m0, k2m1]
  instanceTypes := #[.long, .long]
  staticTypes := #[]
  resolved := Array.replicate 100 none
  statics := none }

def pool3 : Array CpInfo := pool [(1, .class_ 2), (0, u "java/io/Serializable"), (0, .class_ 4), (0, u "java/lang/Object")] 2

/-- java/io/Serializable -/
def k3 : Class := { plain "java/io/Serializable" (some 0) with
  accessFlags := 1537
  interfaces := #[]
  cf := some (fileOf pool3 1 #[] #[] 1537 3 #[] #[])
  fields := #[]
  methods := #[]
  instanceTypes := #[]
  staticTypes := #[]
  resolved := Array.replicate 7 none
  statics := none }

def pool4 : Array CpInfo := pool [(1, .class_ 2), (0, u "java/lang/Comparable"), (0, .class_ 4), (0, u "java/lang/Object")] 7

/-- java/lang/Comparable -/
def k4 : Class := { plain "java/lang/Comparable" (some 0) with
  accessFlags := 1537
  interfaces := #[]
  cf := some (fileOf pool4 1 #[] #[] 1537 3 #[] #[])
  fields := #[]
  methods := #[]
  instanceTypes := #[]
  staticTypes := #[]
  resolved := Array.replicate 12 none
  statics := none }

def pool5 : Array CpInfo := pool [(2, .class_ 4), (1, u "java/lang/CharSequence"), (42, .class_ 48), (0, u "java/lang/CharSequence$1CodePointIterator"), (10, .class_ 60), (0, u "java/lang/CharSequence$1CharIterator"), (5, .class_ 67), (0, u "java/lang/Object")] 63

/-- java/lang/CharSequence -/
def k5 : Class := { plain "java/lang/CharSequence" (some 0) with
  accessFlags := 1537
  interfaces := #[]
  cf := some (fileOf pool5 2 #[.nestMembers #[47, 59]] #[] 1537 66 #[] #[])
  fields := #[]
  methods := #[]
  instanceTypes := #[]
  staticTypes := #[]
  resolved := Array.replicate 131 none
  statics := none }

def pool6 : Array CpInfo := pool [(1, .class_ 2), (0, u "java/lang/constant/Constable"), (0, .class_ 4), (0, u "java/lang/Object")] 6

/-- java/lang/constant/Constable -/
def k6 : Class := { plain "java/lang/constant/Constable" (some 0) with
  accessFlags := 1537
  interfaces := #[]
  cf := some (fileOf pool6 1 #[] #[] 1537 3 #[] #[])
  fields := #[]
  methods := #[]
  instanceTypes := #[]
  staticTypes := #[]
  resolved := Array.replicate 11 none
  statics := none }

def pool7 : Array CpInfo := pool [(1, .class_ 2), (0, u "java/lang/constant/ConstantDesc"), (0, .class_ 4), (0, u "java/lang/Object")] 32

/-- java/lang/constant/ConstantDesc -/
def k7 : Class := { plain "java/lang/constant/ConstantDesc" (some 0) with
  accessFlags := 1537
  interfaces := #[]
  cf := some (fileOf pool7 1 #[] #[] 1537 3 #[] #[])
  fields := #[]
  methods := #[]
  instanceTypes := #[]
  staticTypes := #[]
  resolved := Array.replicate 37 none
  statics := none }

def pool8 : Array CpInfo := pool [(1, .methodref 2 3), (0, .class_ 4), (0, .nameAndType 5 6), (0, u "java/lang/Object"), (0, u "<init>"), (0, u "()V"), (2, .fieldref 10 11), (0, .class_ 12), (0, .nameAndType 13 14), (0, u "java/lang/String"), (0, u "value"), (0, u "[B"), (0, .fieldref 10 16), (0, .nameAndType 17 18), (0, u "coder"), (0, u "B"), (2, u "hash"), (0, u "I"), (2, u "hashIsZero"), (0, u "Z"), (11, .fieldref 10 39), (0, .nameAndType 40 26), (0, u "COMPACT_STRINGS"), (12, u "toBytes"), (53, .class_ 109), (1, u "java/lang/StringLatin1"), (99, .methodref 10 210), (0, .nameAndType 5 211), (0, u "([BB)V"), (157, u "(C)Z"), (205, .class_ 576), (0, u "java/lang/CharSequence"), (22, u "CASE_INSENSITIVE_ORDER"), (0, u "Ljava/util/Comparator;"), (181, u "valueOf"), (0, u "(C)Ljava/lang/String;"), (231, .methodref 107 1016), (0, .nameAndType 1017 369), (0, u "canEncode"), (0, .methodref 107 1019), (0, .nameAndType 53 1020), (0, u "(C)[B"), (80, u "serialPersistentFields"), (0, u "[Ljava/io/ObjectStreamField;"), (0, .class_ 1104), (0, u "java/lang/String$CaseInsensitiveComparator"), (1, .class_ 1107), (0, u "java/io/Serializable"), (0, .class_ 1109), (0, u "java/lang/Comparable"), (0, .class_ 1111), (0, u "java/lang/constant/Constable"), (0, .class_ 1113), (0, u "java/lang/constant/ConstantDesc"), (2, u "serialVersionUID"), (0, u "J"), (3, u "REPL"), (0, u "C"), (2, u "LATIN1"), (1, u "UTF16")] 323

def k8m0 : Method := { name := "<init>", desc := "()V", sig := { parameters := [], returnType := none }, accessFlags := 1, code := none }
def k8c1 : Code := { maxStack := 4, maxLocals := 1, code := jdk_42_method_139_code, exceptionTable := #[], attributes := #[] }
def k8m1 : Method := { name := "valueOf", desc := "(C)Ljava/lang/String;", sig := { parameters := [.char], returnType := some (.object "java/lang/String") }, accessFlags := 9, code := some k8c1 }
def k8c2 : Code := { maxStack := 2, maxLocals := 3, code := jdk_42_method_151_code, exceptionTable := #[], attributes := #[] }
def k8m2 : Method := { name := "<init>", desc := "([BB)V", sig := { parameters := [(.array .byte), .byte], returnType := none }, accessFlags := 0, code := some k8c2 }
/-- java/lang/String -/
def k8 : Class := { plain "java/lang/String" (some 0) with
  accessFlags := 49
  interfaces := #[3, 4, 5, 6, 7]
  cf := some (fileOf pool8 10 #[.nestMembers #[1103]] #[{ accessFlags := 1, nameIndex := 5, descriptorIndex := 6, attributes := #[] }, { accessFlags := 9, nameIndex := 782, descriptorIndex := 783, attributes := #[] }, { accessFlags := 0, nameIndex := 5, descriptorIndex := 211, attributes := #[] }] 49 2 #[1106, 1108, 575, 1110, 1112] #[{ accessFlags := 18, nameIndex := 13, descriptorIndex := 14, attributes := #[] }, { accessFlags := 18, nameIndex := 17, descriptorIndex := 18, attributes := #[] }, { accessFlags := 2, nameIndex := 21, descriptorIndex := 22, attributes := #[] }, { accessFlags := 2, nameIndex := 25, descriptorIndex := 26, attributes := #[] }, { accessFlags := 26, nameIndex := 1116, descriptorIndex := 1117, attributes := #[] }, { accessFlags := 24, nameIndex := 40, descriptorIndex := 26, attributes := #[] }, { accessFlags := 26, nameIndex := 1101, descriptorIndex := 1102, attributes := #[] }, { accessFlags := 26, nameIndex := 1121, descriptorIndex := 1122, attributes := #[] }, { accessFlags := 25, nameIndex := 599, descriptorIndex := 600, attributes := #[] }, { accessFlags := 24, nameIndex := 1125, descriptorIndex := 18, attributes := #[] }, { accessFlags := 24, nameIndex := 1127, descriptorIndex := 18, attributes := #[] }])
  fields := #[{ name := "value", type := (.array .byte), accessFlags := 18, slot := 0, constantValue := 0 }, { name := "coder", type := .byte, accessFlags := 18, slot := 1, constantValue := 0 }, { name := "hash", type := .int, accessFlags := 2, slot := 2, constantValue := 0 }, { name := "hashIsZero", type := .boolean, accessFlags := 2, slot := 3, constantValue := 0 }, { name := "serialVersionUID", type := .long, accessFlags := 26, slot := 0, constantValue := 0 }, { name := "COMPACT_STRINGS", type := .boolean, accessFlags := 24, slot := 1, constantValue := 0 }, { name := "serialPersistentFields", type := (.array (.object "java/io/ObjectStreamField")), accessFlags := 26, slot := 2, constantValue := 0 }, { name := "REPL", type := .char, accessFlags := 26, slot := 3, constantValue := 0 }, { name := "CASE_INSENSITIVE_ORDER", type := (.object "java/util/Comparator"), accessFlags := 25, slot := 4, constantValue := 0 }, { name := "LATIN1", type := .byte, accessFlags := 24, slot := 5, constantValue := 0 }, { name := "UTF16", type := .byte, accessFlags := 24, slot := 6, constantValue := 0 }]
  methods := #[k8m0, k8m1, k8m2]
  instanceTypes := #[(.array .byte), .byte, .int, .boolean]
  staticTypes := #[.long, .boolean, (.array (.object "java/io/ObjectStreamField")), .char, (.object "java/util/Comparator"), .byte, .byte]
  resolved := Array.replicate 1451 none
  statics := some 0 }

def pool9 : Array CpInfo := pool [(4, .class_ 6), (1, u "java/lang/Object"), (0, u "<init>"), (0, u "()V"), (5, .class_ 16), (1, u "java/lang/StringLatin1"), (73, u "canEncode"), (14, u "(C)Z"), (15, u "$assertionsDisabled"), (0, u "Z"), (98, .class_ 223), (1, u "java/lang/StringLatin1$LinesSpliterator"), (156, u "toBytes"), (1, u "(C)[B"), (7, .class_ 391), (0, u "java/lang/StringLatin1$CharsSpliterator")] 3

def k9m0 : Method := { name := "<init>", desc := "()V", sig := { parameters := [], returnType := none }, accessFlags := 0, code := none }
def k9c1 : Code := { maxStack := 2, maxLocals := 1, code := jdk_43_method_3_code, exceptionTable := #[], attributes := #[] }
def k9m1 : Method := { name := "canEncode", desc := "(C)Z", sig := { parameters := [.char], returnType := some .boolean }, accessFlags := 9, code := some k9c1 }
def k9c2 : Code := { maxStack := 4, maxLocals := 1, code := jdk_43_method_46_code, exceptionTable := #[], attributes := #[] }
def k9m2 : Method := { name := "toBytes", desc := "(C)[B", sig := { parameters := [.char], returnType := some (.array .byte) }, accessFlags := 9, code := some k9c2 }
/-- java/lang/StringLatin1 -/
def k9 : Class := { plain "java/lang/StringLatin1" (some 0) with
  accessFlags := 48
  interfaces := #[]
  cf := some (fileOf pool9 14 #[.nestMembers #[390, 221]] #[{ accessFlags := 0, nameIndex := 7, descriptorIndex := 8, attributes := #[] }, { accessFlags := 9, nameIndex := 90, descriptorIndex := 105, attributes := #[] }, { accessFlags := 9, nameIndex := 380, descriptorIndex := 382, attributes := #[] }] 48 4 #[] #[{ accessFlags := 4120, nameIndex := 121, descriptorIndex := 122, attributes := #[] }])
  fields := #[{ name := "$assertionsDisabled", type := .boolean, accessFlags := 4120, slot := 0, constantValue := 0 }]
  methods := #[k9m0, k9m1, k9m2]
  instanceTypes := #[]
  staticTypes := #[.boolean]
  resolved := Array.replicate 395 none
  statics := none }

def pool10 : Array CpInfo := pool [(2, .class_ 4), (1, u "java/lang/Object"), (0, u "<init>"), (0, u "()V"), (17, .class_ 26), (1, u "jdk/internal/util/Preconditions"), (28, .class_ 56), (0, u "jdk/internal/util/Preconditions$4"), (57, .class_ 115), (0, u "jdk/internal/util/Preconditions$1"), (7, u "SIOOBE_FORMATTER"), (0, u "Ljava/util/function/BiFunction;"), (0, .class_ 126), (0, u "jdk/internal/util/Preconditions$2"), (3, u "AIOOBE_FORMATTER"), (0, .class_ 132), (0, u "jdk/internal/util/Preconditions$3"), (3, u "IOOBE_FORMATTER")] 57

def k10m0 : Method := { name := "<init>", desc := "()V", sig := { parameters := [], returnType := none }, accessFlags := 1, code := none }
/-- jdk/internal/util/Preconditions -/
def k10 : Class := { plain "jdk/internal/util/Preconditions" (some 0) with
  accessFlags := 33
  interfaces := #[]
  cf := some (fileOf pool10 24 #[.nestMembers #[55, 131, 125, 114]] #[{ accessFlags := 1, nameIndex := 5, descriptorIndex := 6, attributes := #[] }] 33 2 #[] #[{ accessFlags := 25, nameIndex := 123, descriptorIndex := 124, attributes := #[] }, { accessFlags := 25, nameIndex := 130, descriptorIndex := 124, attributes := #[] }, { accessFlags := 25, nameIndex := 136, descriptorIndex := 124, attributes := #[] }])
  fields := #[{ name := "SIOOBE_FORMATTER", type := (.object "java/util/function/BiFunction"), accessFlags := 25, slot := 0, constantValue := 0 }, { name := "AIOOBE_FORMATTER", type := (.object "java/util/function/BiFunction"), accessFlags := 25, slot := 1, constantValue := 0 }, { name := "IOOBE_FORMATTER", type := (.object "java/util/function/BiFunction"), accessFlags := 25, slot := 2, constantValue := 0 }]
  methods := #[k10m0]
  instanceTypes := #[]
  staticTypes := #[(.object "java/util/function/BiFunction"), (.object "java/util/function/BiFunction"), (.object "java/util/function/BiFunction")]
  resolved := Array.replicate 194 none
  statics := some 1 }

def pool11 : Array CpInfo := pool [(9, u "<init>"), (6, .class_ 18), (1, u "java/lang/Object"), (0, u "()V"), (1, .class_ 23), (1, u "jdk/internal/util/ArraysSupport"), (0, u "LOG2_ARRAY_LONG_INDEX_SCALE"), (0, u "I"), (2, u "U"), (0, u "Ljdk/internal/misc/Unsafe;"), (8, u "BIG_ENDIAN"), (0, u "Z"), (8, u "LOG2_BYTE_BIT_SIZE"), (4, u "LOG2_ARRAY_INT_INDEX_SCALE"), (54, u "JLA"), (0, u "Ljdk/internal/access/JavaLangAccess;"), (11, u "LOG2_ARRAY_BOOLEAN_INDEX_SCALE"), (9, u "LOG2_ARRAY_BYTE_INDEX_SCALE"), (5, u "LOG2_ARRAY_CHAR_INDEX_SCALE"), (5, u "LOG2_ARRAY_SHORT_INDEX_SCALE"), (18, u "LOG2_ARRAY_FLOAT_INDEX_SCALE"), (24, u "LOG2_ARRAY_DOUBLE_INDEX_SCALE"), (89, u "T_BOOLEAN"), (2, u "T_CHAR"), (1, u "T_FLOAT"), (1, u "T_DOUBLE"), (1, u "T_BYTE"), (1, u "T_SHORT"), (1, u "T_INT"), (1, u "T_LONG"), (1, u "SOFT_MAX_ARRAY_LENGTH")] 83

def k11m0 : Method := { name := "<init>", desc := "()V", sig := { parameters := [], returnType := none }, accessFlags := 2, code := none }
/-- jdk/internal/util/ArraysSupport -/
def k11 : Class := { plain "jdk/internal/util/ArraysSupport" (some 0) with
  accessFlags := 33
  interfaces := #[]
  cf := some (fileOf pool11 21 #[] #[{ accessFlags := 2, nameIndex := 9, descriptorIndex := 19, attributes := #[] }] 33 16 #[] #[{ accessFlags := 24, nameIndex := 28, descriptorIndex := 29, attributes := #[] }, { accessFlags := 26, nameIndex := 38, descriptorIndex := 39, attributes := #[] }, { accessFlags := 25, nameIndex := 121, descriptorIndex := 25, attributes := #[] }, { accessFlags := 25, nameIndex := 131, descriptorIndex := 25, attributes := #[] }, { accessFlags := 25, nameIndex := 137, descriptorIndex := 25, attributes := #[] }, { accessFlags := 25, nameIndex := 143, descriptorIndex := 25, attributes := #[] }, { accessFlags := 25, nameIndex := 53, descriptorIndex := 25, attributes := #[] }, { accessFlags := 25, nameIndex := 24, descriptorIndex := 25, attributes := #[] }, { accessFlags := 25, nameIndex := 162, descriptorIndex := 25, attributes := #[] }, { accessFlags := 25, nameIndex := 187, descriptorIndex := 25, attributes := #[] }, { accessFlags := 26, nameIndex := 48, descriptorIndex := 25, attributes := #[] }, { accessFlags := 25, nameIndex := 277, descriptorIndex := 25, attributes := #[] }, { accessFlags := 25, nameIndex := 280, descriptorIndex := 25, attributes := #[] }, { accessFlags := 25, nameIndex := 282, descriptorIndex := 25, attributes := #[] }, { accessFlags := 25, nameIndex := 284, descriptorIndex := 25, attributes := #[] }, { accessFlags := 25, nameIndex := 286, descriptorIndex := 25, attributes := #[] }, { accessFlags := 25, nameIndex := 288, descriptorIndex := 25, attributes := #[] }, { accessFlags := 25, nameIndex := 290, descriptorIndex := 25, attributes := #[] }, { accessFlags := 25, nameIndex := 292, descriptorIndex := 25, attributes := #[] }, { accessFlags := 26, nameIndex := 108, descriptorIndex := 109, attributes := #[] }, { accessFlags := 25, nameIndex := 294, descriptorIndex := 25, attributes := #[] }])
  fields := #[{ name := "U", type := (.object "jdk/internal/misc/Unsafe"), accessFlags := 24, slot := 0, constantValue := 0 }, { name := "BIG_ENDIAN", type := .boolean, accessFlags := 26, slot := 1, constantValue := 0 }, { name := "LOG2_ARRAY_BOOLEAN_INDEX_SCALE", type := .int, accessFlags := 25, slot := 2, constantValue := 0 }, { name := "LOG2_ARRAY_BYTE_INDEX_SCALE", type := .int, accessFlags := 25, slot := 3, constantValue := 0 }, { name := "LOG2_ARRAY_CHAR_INDEX_SCALE", type := .int, accessFlags := 25, slot := 4, constantValue := 0 }, { name := "LOG2_ARRAY_SHORT_INDEX_SCALE", type := .int, accessFlags := 25, slot := 5, constantValue := 0 }, { name := "LOG2_ARRAY_INT_INDEX_SCALE", type := .int, accessFlags := 25, slot := 6, constantValue := 0 }, { name := "LOG2_ARRAY_LONG_INDEX_SCALE", type := .int, accessFlags := 25, slot := 7, constantValue := 0 }, { name := "LOG2_ARRAY_FLOAT_INDEX_SCALE", type := .int, accessFlags := 25, slot := 8, constantValue := 0 }, { name := "LOG2_ARRAY_DOUBLE_INDEX_SCALE", type := .int, accessFlags := 25, slot := 9, constantValue := 0 }, { name := "LOG2_BYTE_BIT_SIZE", type := .int, accessFlags := 26, slot := 10, constantValue := 0 }, { name := "T_BOOLEAN", type := .int, accessFlags := 25, slot := 11, constantValue := 0 }, { name := "T_CHAR", type := .int, accessFlags := 25, slot := 12, constantValue := 0 }, { name := "T_FLOAT", type := .int, accessFlags := 25, slot := 13, constantValue := 0 }, { name := "T_DOUBLE", type := .int, accessFlags := 25, slot := 14, constantValue := 0 }, { name := "T_BYTE", type := .int, accessFlags := 25, slot := 15, constantValue := 0 }, { name := "T_SHORT", type := .int, accessFlags := 25, slot := 16, constantValue := 0 }, { name := "T_INT", type := .int, accessFlags := 25, slot := 17, constantValue := 0 }, { name := "T_LONG", type := .int, accessFlags := 25, slot := 18, constantValue := 0 }, { name := "JLA", type := (.object "jdk/internal/access/JavaLangAccess"), accessFlags := 26, slot := 19, constantValue := 0 }, { name := "SOFT_MAX_ARRAY_LENGTH", type := .int, accessFlags := 25, slot := 20, constantValue := 0 }]
  methods := #[k11m0]
  instanceTypes := #[]
  staticTypes := #[(.object "jdk/internal/misc/Unsafe"), .boolean, .int, .int, .int, .int, .int, .int, .int, .int, .int, .int, .int, .int, .int, .int, .int, .int, .int, (.object "jdk/internal/access/JavaLangAccess"), .int]
  resolved := Array.replicate 378 none
  statics := none }

def pool12 : Array CpInfo := pool [(1, u "java/lang/Cloneable"), (0, .class_ 1), (0, u "java/lang/Object"), (0, .class_ 3)] 3

/-- java/lang/Cloneable -/
def k12 : Class := { plain "java/lang/Cloneable" (some 0) with
  accessFlags := 1537
  interfaces := #[]
  cf := some (fileOf pool12 2 #[] #[] 1537 4 #[] #[])
  fields := #[]
  methods := #[]
  instanceTypes := #[]
  staticTypes := #[]
  resolved := Array.replicate 8 none
  statics := none }

/-- the primitive byte -/
def k13 : Class := { plain "byte" none with kind := .primitive 'B', accessFlags := 0x411 }
/-- [B -/
def k14 : Class := { plain "[B" (some 0) with kind := .array 13 .byte, interfaces := #[12, 3], accessFlags := 1041 }

/-- the primitive int -/
def k15 : Class := { plain "int" none with kind := .primitive 'I', accessFlags := 0x411 }
/-- [I -/
def k16 : Class := { plain "[I" (some 0) with kind := .array 15 .int, interfaces := #[12, 3], accessFlags := 1041 }

def heap : Heap := #[{ cls := 8, slots := #[.long 0, .int 1, .null, .int 0, .null, .int 0, .int 0], vm := .statics 8 },
  { cls := 10, slots := #[.null, .null, .null], vm := .statics 10 }]
def classes : Array Class := #[k0, k1, k2, k3, k4, k5, k6, k7, k8, k9, k10, k11, k12, k13, k14, k15, k16]
def interned : List (Array UInt16 × Addr) := []
def slotsUsed : Nat := 10
def theMethod : MethodId := ⟨1, 1⟩
def args0 : Array Value := #[.long 5, .long 7, .long 6, .long 8, .int 3]
def aboutOver (below : List Frame) : State where
  vm := { classes := classes, interned := interned.toArray }
  heap := heap
  slotsUsed := slotsUsed
  threads := #[{ frames := .invoking theMethod args0 :: below }]
def below0 : List Frame := [.native { method := ⟨0, 0⟩, args := #[] }]
def about1 : State := aboutOver below0
def p0 : Program := .bare "" "" ""
def e0 : Env := launch0.env 0 0 0
theorem w_frames : about1.frames = Frame.invoking theMethod args0 :: below0 := rfl
set_option maxRecDepth 65536 in
theorem w_args : argsFit about1.vm theMethod args0 = true := by decide +kernel
set_option maxRecDepth 65536 in
theorem w_heap : heapFits about1 = true := by decide +kernel
set_option maxRecDepth 65536 in
theorem w_runnable : about1.curStatus? = some .runnable := by decide +kernel
set_option maxRecDepth 65536 in
theorem w_alone : about1.alone = true := by decide +kernel
set_option maxRecDepth 65536 in
theorem w_named : about1.methodNamed? x = some theMethod := by decide +kernel
set_option maxRecDepth 65536 in
theorem w_hears : about1.hears theMethod below0 = true := by decide +kernel
set_option maxRecDepth 65536 in
theorem w_ripe : about1.ripe theMethod args0 below0 = true := by decide +kernel
theorem w_running : about1.status = .running := rfl
set_option maxRecDepth 65536 in
theorem w_room : about1.hasRoom e0.platform room_1 = true :=
  launch0.hasRoom_least _ room_1 (by decide +kernel) (by decide +kernel) (by decide +kernel) (by decide +kernel) (by decide +kernel) (by decide +kernel)
theorem allAtoms_all (ts : List Jvm.Cond) (a : Array Jvm.Value) (st : Jvm.State) : (allAtoms ts).before a st = ts.all (fun c => c.before a st) := by
  induction ts with
  | nil => rfl
  | cons c t ih =>
    show (Jvm.Cond.and c (allAtoms t)).before a st = _
    rw [Jvm.Cond.before_and, ih, List.all_cons]
def words1 : List Jvm.Cond := Jvm.Cond.code x code maxLocals ret :: tables_1
/-- a 'code' word, met by the world's own term for the bytes: nothing is compared byte by byte -/
theorem code_word {y : MethodName} {bytes : ByteArray} {mx : Nat} {rt : Option FieldType} {a : Array Value} {s : State} {m : MethodId} {meth : Method} {c : Code} (h1 : s.methodNamed? y = some m) (h2 : s.vm.method? m = some meth) (h3 : meth.code = some c) (h4 : c.code = bytes)
    (h5 : (c.maxLocals == mx && c.exceptionTable.isEmpty && decide (c.maxStack ≤ mostOperands) && decide (meth.sig.returnType = rt) && !meth.locks && decide (parseMethodDescriptor y.desc = some meth.sig)) = true) : (Jvm.Cond.code y bytes mx rt).before a s = true := by
  simp only [Bool.and_eq_true, beq_iff_eq, Bool.not_eq_true', decide_eq_true_eq] at h5
  obtain ⟨⟨⟨⟨⟨g1, g2⟩, g3⟩, g4⟩, g5⟩, g6⟩ := h5
  simp [Cond.before, Cond.holds, Cond.value, h1, h2, h3, h4, g1, g2, g3, g4, g5, g6]
def isCode : Jvm.Cond → Bool
  | .code _ _ _ _ => true
  | _ => false
theorem all_split {L : List Jvm.Cond} {P : Jvm.Cond → Bool} (h1 : L.all (fun c => isCode c || P c) = true) (h2 : ∀ c ∈ L.filter isCode, P c = true) : L.all P = true := by
  refine List.all_eq_true.mpr fun c hc => ?_
  have h := List.all_eq_true.mp h1 c hc
  rcases Bool.eq_false_or_eq_true (isCode c) with hi | hi
  · exact h2 c (List.mem_filter.mpr ⟨hc, hi⟩)
  · simpa [hi] using h
set_option maxRecDepth 65536 in
theorem w_c0 : (Jvm.Cond.code x code maxLocals ret).before args0 about1 = true := code_word (m := ⟨1, 1⟩) (meth := k1m1) (c := k1c1) (by decide +kernel) rfl rfl rfl (by decide +kernel)
set_option maxRecDepth 65536 in
theorem w_c1 : (Jvm.Cond.code ({ cls := "com/example/rookery/rookery/drawing/GridPoint", name := "<init>", desc := "(JJ)V" } : Jvm.MethodName) prog_21_method_1_code (5 : Nat) (Option.none : Option Jvm.ClassFile.FieldType)).before args0 about1 = true := code_word (m := ⟨2, 0⟩) (meth := k2m0) (c := k2c0) (by decide +kernel) rfl rfl rfl (by decide +kernel)
set_option maxRecDepth 65536 in
theorem w_c2 : (Jvm.Cond.code ({ cls := "java/lang/Object", name := "<init>", desc := "()V" } : Jvm.MethodName) object_method_1_code (1 : Nat) (Option.none : Option Jvm.ClassFile.FieldType)).before args0 about1 = true := code_word (m := ⟨0, 0⟩) (meth := k0m0) (c := k0c0) (by decide +kernel) rfl rfl rfl (by decide +kernel)
set_option maxRecDepth 65536 in
theorem w_c3 : (Jvm.Cond.code ({ cls := "com/example/rookery/rookery/drawing/GridPoint", name := "equals", desc := "(Ljava/lang/Object;)Z" } : Jvm.MethodName) prog_21_method_8_code (3 : Nat) (Option.some Jvm.ClassFile.FieldType.boolean)).before args0 about1 = true := code_word (m := ⟨2, 1⟩) (meth := k2m1) (c := k2c1) (by decide +kernel) rfl rfl rfl (by decide +kernel)
set_option maxRecDepth 65536 in
theorem w_c4 : (Jvm.Cond.code ({ cls := "java/lang/String", name := "valueOf", desc := "(C)Ljava/lang/String;" } : Jvm.MethodName) jdk_42_method_139_code (1 : Nat) (Option.some (Jvm.ClassFile.FieldType.object "java/lang/String"))).before args0 about1 = true := code_word (m := ⟨8, 1⟩) (meth := k8m1) (c := k8c1) (by decide +kernel) rfl rfl rfl (by decide +kernel)
set_option maxRecDepth 65536 in
theorem w_c5 : (Jvm.Cond.code ({ cls := "java/lang/StringLatin1", name := "canEncode", desc := "(C)Z" } : Jvm.MethodName) jdk_43_method_3_code (1 : Nat) (Option.some Jvm.ClassFile.FieldType.boolean)).before args0 about1 = true := code_word (m := ⟨9, 1⟩) (meth := k9m1) (c := k9c1) (by decide +kernel) rfl rfl rfl (by decide +kernel)
set_option maxRecDepth 65536 in
theorem w_c6 : (Jvm.Cond.code ({ cls := "java/lang/StringLatin1", name := "toBytes", desc := "(C)[B" } : Jvm.MethodName) jdk_43_method_46_code (1 : Nat) (Option.some (Jvm.ClassFile.FieldType.array Jvm.ClassFile.FieldType.byte))).before args0 about1 = true := code_word (m := ⟨9, 2⟩) (meth := k9m2) (c := k9c2) (by decide +kernel) rfl rfl rfl (by decide +kernel)
set_option maxRecDepth 65536 in
theorem w_c7 : (Jvm.Cond.code ({ cls := "java/lang/String", name := "<init>", desc := "([BB)V" } : Jvm.MethodName) jdk_42_method_151_code (3 : Nat) (Option.none : Option Jvm.ClassFile.FieldType)).before args0 about1 = true := code_word (m := ⟨8, 2⟩) (meth := k8m2) (c := k8c2) (by decide +kernel) rfl rfl rfl (by decide +kernel)
def codes1 : List Jvm.Cond := [Jvm.Cond.code x code maxLocals ret, Jvm.Cond.code ({ cls := "com/example/rookery/rookery/drawing/GridPoint", name := "<init>", desc := "(JJ)V" } : Jvm.MethodName) prog_21_method_1_code (5 : Nat) (Option.none : Option Jvm.ClassFile.FieldType), Jvm.Cond.code ({ cls := "java/lang/Object", name := "<init>", desc := "()V" } : Jvm.MethodName) object_method_1_code (1 : Nat) (Option.none : Option Jvm.ClassFile.FieldType), Jvm.Cond.code ({ cls := "com/example/rookery/rookery/drawing/GridPoint", name := "equals", desc := "(Ljava/lang/Object;)Z" } : Jvm.MethodName) prog_21_method_8_code (3 : Nat) (Option.some Jvm.ClassFile.FieldType.boolean), Jvm.Cond.code ({ cls := "java/lang/String", name := "valueOf", desc := "(C)Ljava/lang/String;" } : Jvm.MethodName) jdk_42_method_139_code (1 : Nat) (Option.some (Jvm.ClassFile.FieldType.object "java/lang/String")), Jvm.Cond.code ({ cls := "java/lang/StringLatin1", name := "canEncode", desc := "(C)Z" } : Jvm.MethodName) jdk_43_method_3_code (1 : Nat) (Option.some Jvm.ClassFile.FieldType.boolean), Jvm.Cond.code ({ cls := "java/lang/StringLatin1", name := "toBytes", desc := "(C)[B" } : Jvm.MethodName) jdk_43_method_46_code (1 : Nat) (Option.some (Jvm.ClassFile.FieldType.array Jvm.ClassFile.FieldType.byte)), Jvm.Cond.code ({ cls := "java/lang/String", name := "<init>", desc := "([BB)V" } : Jvm.MethodName) jdk_42_method_151_code (3 : Nat) (Option.none : Option Jvm.ClassFile.FieldType)]
set_option maxRecDepth 65536 in
theorem codes_eq : words1.filter isCode = codes1 := rfl
theorem w_codes : ∀ c ∈ words1.filter isCode, c.before args0 about1 = true := by
  rw [codes_eq]
  intro c hc
  simp only [codes1, List.mem_cons, List.not_mem_nil, or_false] at hc
  rcases hc with rfl | rfl | rfl | rfl | rfl | rfl | rfl | rfl
  · exact w_c0
  · exact w_c1
  · exact w_c2
  · exact w_c3
  · exact w_c4
  · exact w_c5
  · exact w_c6
  · exact w_c7
set_option maxRecDepth 65536 in
theorem w_t1 : (words1.take 24).all (fun c => isCode c || c.before args0 about1) = true := by decide +kernel
set_option maxRecDepth 65536 in
theorem w_t2 : (words1.drop 24).all (fun c => isCode c || c.before args0 about1) = true := by decide +kernel
theorem w_tables : (allAtoms (Jvm.Cond.code x code maxLocals ret :: tables_1)).before args0 about1 = true := by
  rw [allAtoms_all]
  show words1.all (fun c => c.before args0 about1) = true
  refine all_split ?_ w_codes
  rw [← List.take_append_drop 24 words1, List.all_append, w_t1, w_t2]
  rfl
set_option maxRecDepth 65536 in
theorem w_rest : rest_1_c.before args0 about1 = true := by decide +kernel
set_option maxRecDepth 65536 in
theorem w_case : (Jvm.Cond.and given_1 narrow_1).before args0 about1 = true := by decide +kernel
theorem w_applies : (headSpec (Jvm.Cond.code x code maxLocals ret :: tables_1) room_1).applies x e0.platform about1 = true :=
  (Spec.applies_iff w_frames).mpr ⟨w_running, w_runnable, w_alone, w_named, w_hears, w_ripe, w_room, w_tables⟩
theorem atStart : AtStart classFile x code maxLocals ret World_1 tables_1 room_1 Calls_1 rest_1 Pre_1 launch0 p0 e0 about1 theMethod args0 below0 :=
  ⟨lists_1, trivial, launch0.admits_env _ _ _, launch0.least_env, fairChoices_fair.cas, fairChoices_fair.clock, w_frames, w_args, w_heap, w_applies, trivial, w_rest, w_case⟩
end start1
theorem witness_1 : WitnessClaimed_1 := ⟨start1.p0, start1.e0, start1.about1, start1.theMethod, start1.args0, start1.below0, start1.atStart⟩
end Jvm.Pilot.@@N@@
