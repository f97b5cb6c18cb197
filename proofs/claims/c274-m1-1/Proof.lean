import JvmDerived
import JvmDerived.Pilot.@@N@@Statement
import JvmDerived.Pilot.@@N@@Code
set_option linter.unusedVariables false
set_option linter.unusedSimpArgs false
namespace Jvm.RoadKit
open Sem ClassFile Op Lib Jvm.Stand Jvm.Free Jvm.LawKit
section New
variable {p : Program} {l : Launch} {e : Env} {R : Room} {s : State} {m : MethodId} {args : Array Value} {below : List Frame} {meth : Method} {c : Code} {T : State} {locs : List Loc} {cells slots : Nat}
theorem retI (X : Stand p l e R s m args below meth c T locs cells slots) (hx : p.tables.exec = Jvm.exec) {pc : Nat} {Ls : Array Slot} {z : Int32} {rest : List Value} (hret : meth.sig.returnType = some .int) (hd : decode c.code pc = .ok (.ireturn, 1)) {fs : List Frame}
    (hl : ∀ (f : JFrame) (acts : List Action), f.method = m → f.locked = none → f.entered = [] → (doReturn e (T.setTop f) acts (some (.int z))).1 = T.setFrames fs) : Steps p.tables e below (T.setTop (mkF m pc Ls (.int z :: rest))) (T.setFrames fs) := by
  have hm' : T.vm.method? m = some meth := X.method'
  have hn : narrow .int (.int z) = .int z := rfl
  show Steps p.tables e below (T.setTop { method := m, pc := pc, locals := Ls, stack := _ :: rest, locked := none }) _
  jvm_step X.here [X.here.top, hx, hd, hm', hret, hn]
  first | (intro acts; rw [hl _ acts rfl rfl rfl]) | rw [hl _ _ rfl rfl rfl]
  exact Steps.refl _
abbrev jv (x : Int64) : Slot := .val (.long x)
/-- from A the run goes on to an end of which R holds -/
def Wk (tb : Tables) (e : Env) (below : List Frame) (A : State) (R : State → Outcome → Prop) : Prop := ∃ U o, Steps tb e below A U ∧ R U o
theorem Wk.go {tb : Tables} {A A' : State} {R : State → Outcome → Prop} (h : ∀ t, Steps tb e below A' t → Steps tb e below A t) (k : Wk tb e below A' R) : Wk tb e below A R := by
  obtain ⟨U, o, k1, k2⟩ := k
  exact ⟨U, o, h _ k1, k2⟩
/-- the two ways from A to A' meet there -/
theorem own_fin (X : Stand p l e R s m args below meth c T locs cells slots) {Qv : Option Value → Heap → List Loc → Prop} {v : Option Value} {g : JFrame} {C S : Nat} (hlocks : meth.locks = false) (hv : meth.sig.returnType = none → v = none)
    (hst : ∀ fs, (∀ (f : JFrame) (acts : List Action), f.method = m → f.locked = none → f.entered = [] → (doReturn e (T.setTop f) acts v).1 = T.setFrames fs) → Steps p.tables e below (T.setTop g) (T.setFrames fs))
    (hQ : Qv v T.heap locs) (hc : cells ≤ C) (hs : slots ≤ S) :
    Wk p.tables e below (T.setTop g) (fun U o => U.status = .running ∧ Ended U below o ∧ ∃ v L, o = .returned v ∧ Qv v U.heap L ∧ FrameEnd s o U L C S) := by
  obtain ⟨fs, hr, hrun, hended, hW, hsame⟩ := X.leave (v := v) hv hlocks
  exact ⟨_, _, hst fs hr, hrun, hended, _, _, rfl, hQ, ⟨_, rfl⟩, hW, hsame.mono hc hs⟩
end New
end Jvm.RoadKit
namespace Jvm.Pilot.@@N@@
open Jvm Jvm.ClassFile Sem Op Lib Jvm.Free Jvm.Stand Jvm.LawKit Jvm.RoadKit Bundle Jvm.Pilot.@@N@@.Jvm.D
def own_m1 (z : Int64) : Int64 := ((z ^^^ ((z.toUInt64 >>> ((30 : Int32) &&& 0x3f).toInt64.toUInt64).toInt64)) * (-4658895280553007687 : Int64))
def own_m2 (z : Int64) : Int64 := ((z ^^^ ((z.toUInt64 >>> ((27 : Int32) &&& 0x3f).toInt64.toUInt64).toInt64)) * (-7723592293110705685 : Int64))
def own_m3 (z : Int64) : Int64 := (z ^^^ ((z.toUInt64 >>> ((31 : Int32) &&& 0x3f).toInt64.toUInt64).toInt64))
theorem d1_0 : decode prog_7_method_1_code 0 = .ok (.aload_n 0, 1) := by decide +kernel
theorem tw7 {Z : State} {a0 : Array Value} (hw : ∀ d ∈ tables_1, d.before a0 Z = true) : (Jvm.Cond.methodLink "com/example/skerry/skerry/engine/Rng" (1 : Nat) ({ cls := "java/lang/Object", name := "<init>", desc := "()V" } : Jvm.MethodName)).before a0 Z = true := hw _ (List.mem_of_getElem? (i := 7) rfl)
theorem tw8 {Z : State} {a0 : Array Value} (hw : ∀ d ∈ tables_1, d.before a0 Z = true) : (Jvm.Cond.instanceMethod ({ cls := "java/lang/Object", name := "<init>", desc := "()V" } : Jvm.MethodName)).before a0 Z = true := hw _ (List.mem_of_getElem? (i := 8) rfl)
theorem tw9 {Z : State} {a0 : Array Value} (hw : ∀ d ∈ tables_1, d.before a0 Z = true) : (Jvm.Cond.code ({ cls := "java/lang/Object", name := "<init>", desc := "()V" } : Jvm.MethodName) object_method_1_code (1 : Nat) (Option.none : Option Jvm.ClassFile.FieldType)).before a0 Z = true := hw _ (List.mem_of_getElem? (i := 9) rfl)
theorem d1_1 : decode prog_7_method_1_code 1 = .ok (.invokespecial 1, 3) := by decide +kernel
theorem d1_4 : decode prog_7_method_1_code 4 = .ok (.aload_n 0, 1) := by decide +kernel
theorem d1_5 : decode prog_7_method_1_code 5 = .ok (.lload_n 1, 1) := by decide +kernel
theorem tw10 {Z : State} {a0 : Array Value} (hw : ∀ d ∈ tables_1, d.before a0 Z = true) : (Jvm.Cond.fieldLink "com/example/skerry/skerry/engine/Rng" (7 : Nat) "com/example/skerry/skerry/engine/Rng" "state" "J").before a0 Z = true := hw _ (List.mem_of_getElem? (i := 10) rfl)
theorem tw11 {Z : State} {a0 : Array Value} (hw : ∀ d ∈ tables_1, d.before a0 Z = true) : (Jvm.Cond.lays "com/example/skerry/skerry/engine/Rng" "com/example/skerry/skerry/engine/Rng" "state" "J").before a0 Z = true := hw _ (List.mem_of_getElem? (i := 11) rfl)
theorem tw2 {Z : State} {a0 : Array Value} (hw : ∀ d ∈ tables_1, d.before a0 Z = true) : (Jvm.Cond.instantiable "com/example/skerry/skerry/engine/Rng" (1 : Nat)).before a0 Z = true := hw _ (List.mem_of_getElem? (i := 2) rfl)
theorem d1_6 : decode prog_7_method_1_code 6 = .ok (.putfield 7, 3) := by decide +kernel
theorem d1_9 : decode prog_7_method_1_code 9 = .ok (.return_, 1) := by decide +kernel
theorem pn_0 : plainName "com/example/skerry/skerry/engine/Rng" = true := by first | (simp [plainName, overriddenIn]; done) | decide +kernel
theorem ef_1 (m : MethodId) (x0 : Addr) (x1 : Int64) : entryFrame m #[(.ref x0), (.long x1)] 3 = mkF m 0 #[rv x0, jv x1, .second] [] := by first | (simp [entryFrame, mkF, argsToLocals, Value.category]; done) | rfl
def Q1 (Z : State) (ob : Addr) (sd : Int64)  (h0 : Heap) (n0 : Nat) (v : Option Value) (h : Heap) (L : List Loc) : Prop := v = none ∧ Fr n0 L ∧ Keep h0 h [ob] ∧ Exa Z h ob "com/example/skerry/skerry/engine/Rng" ∧ Fld Z h ob "com/example/skerry/skerry/engine/Rng" "state" "J" (.long sd)
set_option maxRecDepth 65536 in
set_option maxHeartbeats 40000000 in
theorem rm1 (l : Launch) (Z : State) (a0 : Array Value) (hw : ∀ d ∈ tables_1, d.before a0 Z = true) (ws : List Jvm.Cond) (ob : Addr) (sd : Int64)  (h0 : Heap) (n0 : Nat) (Z0 : n0 ≤ h0.size) (E_ob : Exa Z h0 ob "com/example/skerry/skerry/engine/Rng") (F_state : Fld Z h0 ob "com/example/skerry/skerry/engine/Rng" "state" "J" (.long (0 : Int64))) (g_ob : n0 ≤ ob) :
    MetFree l (⟨"com/example/skerry/skerry/engine/Rng", "<init>", "(J)V"⟩ : MethodName) (head1 (Jvm.Cond.code (⟨"com/example/skerry/skerry/engine/Rng", "<init>", "(J)V"⟩ : MethodName) prog_7_method_1_code 3 none :: ws) ({ frames := 1, cells := 0, slots := 0, locals := 12 } : Room)) (fun a U => a = #[(.ref ob), (.long sd)] ∧ Z.Warmed39 U.vm ∧ U.heap = h0) (fun _ _ _ _ _ => True) (fun _ U o U' => ∃ v L, o = .returned v ∧ Q1 Z ob sd h0 n0 v U'.heap L ∧ FrameEnd U o U' L ({ frames := 1, cells := 0, slots := 0, locals := 12 } : Room).cells ({ frames := 1, cells := 0, slots := 0, locals := 12 } : Room).slots) := by
  refine MetFree.of_bodySF (plainFor_of_name pn_0) hisR ?_
  intro p e s m args below meth c s₁ Bd hml0 hP hK
  obtain ⟨rfl, hZ, hh⟩ := hP
  have hx := Bd.exec
  have hby := Bd.bytes
  have hml : c.maxLocals = 3 := hml0
  have hown : s.vm.findClass "com/example/skerry/skerry/engine/Rng" = some m.cls := findClass_of_methodNamed Bd.named
  have hnm := (name_of_methodNamed Bd.named Bd.method).1
  have X0 : Stand p l e ({ frames := 1, cells := 0, slots := 0, locals := 12 } : Room) s m #[(.ref ob), (.long sd)] below meth c s₁ [] 0 0 := Stand.of_body Bd
  have e0 : s₁.heap = h0 := by rw [← hh, Bd.state]; rfl
  have N0 := Fr.nil n0
  have hlk : meth.locks = false := BodyLoose.notSynchronized Bd
  suffices hwk : Wk p.tables e below (s₁.setTop (mkF m 0 #[rv ob, jv sd, .second] [])) (fun U o => U.status = .running ∧ Ended U below o ∧ ∃ v L, o = .returned v ∧ Q1 Z ob sd h0 n0 v U.heap L ∧ FrameEnd s o U L 0 0) by
    obtain ⟨U, o, k1, k2⟩ := hwk
    exact ⟨U, o, castTop (ef_1 m ob sd) k1, k2⟩
  have K0 := Keep.refl h0 [ob]
  refine Wk.go (A' := s₁.setTop (mkF m 1 #[rv ob, jv sd, .second] [(.ref ob)])) (fun t k => XS.aloadN X0.here hx rfl (hb hby d1_0) rfl rfl k) ?_
  obtain ⟨T1, X1, e1, st1⟩ := initO X0 hx hZ hown (tw7 hw) (tw8 hw) (tw9 hw) e0 (g := (mkF m 1 #[rv ob, jv sd, .second] [(.ref ob)])) rfl (by rw [hml]; rfl) rfl (hb hby d1_1) (by decide) (W := 0) (by show 2 * 0 + _ ≤ _; exact Nat.le_of_eq rfl) (by decide)
  refine Wk.go (A' := T1.setTop (mkF m 4 #[rv ob, jv sd, .second] [])) (fun t k => st1 t k) ?_
  refine Wk.go (A' := T1.setTop (mkF m 5 #[rv ob, jv sd, .second] [(.ref ob)])) (fun t k => XS.aloadN X1.here hx rfl (hb hby d1_4) rfl rfl k) ?_
  refine Wk.go (A' := T1.setTop (mkF m 6 #[rv ob, jv sd, .second] [(.long sd), (.ref ob)])) (fun t k => XS.lloadN X1.here hx rfl (hb hby d1_5) rfl k) ?_
  obtain ⟨T2, h2, X2, e2, W2, st2⟩ := putF X1 hx hZ hown (host := "") (Or.inl (tw10 hw)) Via.refl e1 F_state E_ob (Or.inl (tw11 hw)) (tw2 hw) (ty := .long) (by decide) rfl rfl (g := (mkF m 6 #[rv ob, jv sd, .second] [(.long sd), (.ref ob)])) rfl rfl (hb hby d1_6)
  have f3 := E_ob.wr W2
  have f4 := F_state.same W2
  have Zp2 : n0 ≤ h2.size := Nat.le_trans Z0 (Nat.le_of_eq W2.size.symm)
  have K2 := K0.wr W2 (Or.inl (List.mem_of_getElem? (i := 0) rfl))
  have N2 := Fr.snoc X2 N0 g_ob
  refine Wk.go (A' := T2.setTop (mkF m 9 #[rv ob, jv sd, .second] [])) (fun t k => st2 t k) ?_
  refine own_fin (Qv := Q1 Z ob sd h0 n0) (v := none) X2 hlk (fun _ => rfl) (fun fs hr => X2.returnOut hx Bd.returns (hb hby d1_9) hr) ?_ (by decide) (by decide)
  show Q1 Z ob sd h0 n0 _ T2.heap _
  rw [e2]
  exact ⟨rfl, N2, K2, f3, f4⟩
theorem d3_0 : decode prog_7_method_3_code 0 = .ok (.aload_n 0, 1) := by decide +kernel
theorem d3_1 : decode prog_7_method_3_code 1 = .ok (.dup, 1) := by decide +kernel
theorem d3_2 : decode prog_7_method_3_code 2 = .ok (.getfield 7, 3) := by decide +kernel
theorem tw17 {Z : State} {a0 : Array Value} (hw : ∀ d ∈ tables_1, d.before a0 Z = true) : (Jvm.Cond.constantLong "com/example/skerry/skerry/engine/Rng" (13 : Nat) (-7046029254386353131 : Int64)).before a0 Z = true := hw _ (List.mem_of_getElem? (i := 17) rfl)
theorem d3_5 : decode prog_7_method_3_code 5 = .ok (.ldc2_w 13, 3) := by decide +kernel
theorem d3_8 : decode prog_7_method_3_code 8 = .ok (.ladd, 1) := by decide +kernel
theorem d3_9 : decode prog_7_method_3_code 9 = .ok (.putfield 7, 3) := by decide +kernel
theorem d3_12 : decode prog_7_method_3_code 12 = .ok (.aload_n 0, 1) := by decide +kernel
theorem d3_13 : decode prog_7_method_3_code 13 = .ok (.getfield 7, 3) := by decide +kernel
theorem d3_16 : decode prog_7_method_3_code 16 = .ok (.lstore_n 1, 1) := by decide +kernel
theorem d3_17 : decode prog_7_method_3_code 17 = .ok (.lload_n 1, 1) := by decide +kernel
theorem d3_18 : decode prog_7_method_3_code 18 = .ok (.lload_n 1, 1) := by decide +kernel
theorem d3_19 : decode prog_7_method_3_code 19 = .ok (.bipush 30, 2) := by decide +kernel
theorem d3_21 : decode prog_7_method_3_code 21 = .ok (.lushr, 1) := by decide +kernel
theorem d3_22 : decode prog_7_method_3_code 22 = .ok (.lxor, 1) := by decide +kernel
theorem tw18 {Z : State} {a0 : Array Value} (hw : ∀ d ∈ tables_1, d.before a0 Z = true) : (Jvm.Cond.constantLong "com/example/skerry/skerry/engine/Rng" (15 : Nat) (-4658895280553007687 : Int64)).before a0 Z = true := hw _ (List.mem_of_getElem? (i := 18) rfl)
theorem d3_23 : decode prog_7_method_3_code 23 = .ok (.ldc2_w 15, 3) := by decide +kernel
theorem d3_26 : decode prog_7_method_3_code 26 = .ok (.lmul, 1) := by decide +kernel
theorem d3_27 : decode prog_7_method_3_code 27 = .ok (.lstore_n 1, 1) := by decide +kernel
theorem d3_28 : decode prog_7_method_3_code 28 = .ok (.lload_n 1, 1) := by decide +kernel
theorem d3_29 : decode prog_7_method_3_code 29 = .ok (.lload_n 1, 1) := by decide +kernel
theorem d3_30 : decode prog_7_method_3_code 30 = .ok (.bipush 27, 2) := by decide +kernel
theorem d3_32 : decode prog_7_method_3_code 32 = .ok (.lushr, 1) := by decide +kernel
theorem d3_33 : decode prog_7_method_3_code 33 = .ok (.lxor, 1) := by decide +kernel
theorem tw19 {Z : State} {a0 : Array Value} (hw : ∀ d ∈ tables_1, d.before a0 Z = true) : (Jvm.Cond.constantLong "com/example/skerry/skerry/engine/Rng" (17 : Nat) (-7723592293110705685 : Int64)).before a0 Z = true := hw _ (List.mem_of_getElem? (i := 19) rfl)
theorem d3_34 : decode prog_7_method_3_code 34 = .ok (.ldc2_w 17, 3) := by decide +kernel
theorem d3_37 : decode prog_7_method_3_code 37 = .ok (.lmul, 1) := by decide +kernel
theorem d3_38 : decode prog_7_method_3_code 38 = .ok (.lstore_n 1, 1) := by decide +kernel
theorem d3_39 : decode prog_7_method_3_code 39 = .ok (.lload_n 1, 1) := by decide +kernel
theorem d3_40 : decode prog_7_method_3_code 40 = .ok (.lload_n 1, 1) := by decide +kernel
theorem d3_41 : decode prog_7_method_3_code 41 = .ok (.bipush 31, 2) := by decide +kernel
theorem d3_43 : decode prog_7_method_3_code 43 = .ok (.lushr, 1) := by decide +kernel
theorem d3_44 : decode prog_7_method_3_code 44 = .ok (.lxor, 1) := by decide +kernel
theorem d3_45 : decode prog_7_method_3_code 45 = .ok (.lreturn, 1) := by decide +kernel
theorem ef_3 (m : MethodId) (x0 : Addr) : entryFrame m #[(.ref x0)] 3 = mkF m 0 #[rv x0, .unset, .unset] [] := by first | (simp [entryFrame, mkF, argsToLocals, Value.category]; done) | rfl
def f_next (ob : Addr) (wst : Int64) : Int64 := (own_m3 (own_m2 (own_m1 (wst + (-7046029254386353131 : Int64)))))
def Q3 (Z : State) (ob : Addr) (wst : Int64) (h0 : Heap) (n0 : Nat) (v : Option Value) (h : Heap) (L : List Loc) : Prop := v = some (.long (f_next ob wst)) ∧ Fr n0 L ∧ Keep h0 h [ob] ∧ Exa Z h ob "com/example/skerry/skerry/engine/Rng" ∧ Fld Z h ob "com/example/skerry/skerry/engine/Rng" "state" "J" (.long (wst + (-7046029254386353131 : Int64)))
set_option maxRecDepth 65536 in
set_option maxHeartbeats 40000000 in
theorem rm3 (l : Launch) (Z : State) (a0 : Array Value) (hw : ∀ d ∈ tables_1, d.before a0 Z = true) (ws : List Jvm.Cond) (ob : Addr) (wst : Int64) (h0 : Heap) (n0 : Nat) (Z0 : n0 ≤ h0.size) (E_ob : Exa Z h0 ob "com/example/skerry/skerry/engine/Rng") (F_state : Fld Z h0 ob "com/example/skerry/skerry/engine/Rng" "state" "J" (.long wst)) (g_ob : n0 ≤ ob) :
    MetFree l (⟨"com/example/skerry/skerry/engine/Rng", "nextLong", "()J"⟩ : MethodName) (head1 (Jvm.Cond.code (⟨"com/example/skerry/skerry/engine/Rng", "nextLong", "()J"⟩ : MethodName) prog_7_method_3_code 3 (some .long) :: ws) ({ frames := 0, cells := 0, slots := 0, locals := 0 } : Room)) (fun a U => a = #[(.ref ob)] ∧ Z.Warmed39 U.vm ∧ U.heap = h0) (fun _ _ _ _ _ => True) (fun _ U o U' => ∃ v L, o = .returned v ∧ Q3 Z ob wst h0 n0 v U'.heap L ∧ FrameEnd U o U' L ({ frames := 0, cells := 0, slots := 0, locals := 0 } : Room).cells ({ frames := 0, cells := 0, slots := 0, locals := 0 } : Room).slots) := by
  refine MetFree.of_bodySF (plainFor_of_name pn_0) hisR ?_
  intro p e s m args below meth c s₁ Bd hml0 hP hK
  obtain ⟨rfl, hZ, hh⟩ := hP
  have hx := Bd.exec
  have hby := Bd.bytes
  have hml : c.maxLocals = 3 := hml0
  have hown : s.vm.findClass "com/example/skerry/skerry/engine/Rng" = some m.cls := findClass_of_methodNamed Bd.named
  have hnm := (name_of_methodNamed Bd.named Bd.method).1
  have X0 : Stand p l e ({ frames := 0, cells := 0, slots := 0, locals := 0 } : Room) s m #[(.ref ob)] below meth c s₁ [] 0 0 := Stand.of_body Bd
  have e0 : s₁.heap = h0 := by rw [← hh, Bd.state]; rfl
  have N0 := Fr.nil n0
  have hlk : meth.locks = false := BodyLoose.notSynchronized Bd
  suffices hwk : Wk p.tables e below (s₁.setTop (mkF m 0 #[rv ob, .unset, .unset] [])) (fun U o => U.status = .running ∧ Ended U below o ∧ ∃ v L, o = .returned v ∧ Q3 Z ob wst h0 n0 v U.heap L ∧ FrameEnd s o U L 0 0) by
    obtain ⟨U, o, k1, k2⟩ := hwk
    exact ⟨U, o, castTop (ef_3 m ob) k1, k2⟩
  have K0 := Keep.refl h0 [ob]
  refine Wk.go (A' := s₁.setTop (mkF m 1 #[rv ob, .unset, .unset] [(.ref ob)])) (fun t k => XS.aloadN X0.here hx rfl (hb hby d3_0) rfl rfl k) ?_
  refine Wk.go (A' := s₁.setTop (mkF m 2 #[rv ob, .unset, .unset] [(.ref ob), (.ref ob)])) (fun t k => XS.dup X0.here hx rfl (hb hby d3_1) rfl rfl k) ?_
  obtain ⟨T1, X1, e1, st1⟩ := getF X0 hx hZ hown (host := "") (Or.inl (tw10 hw)) Via.refl e0 F_state (g := (mkF m 2 #[rv ob, .unset, .unset] [(.ref ob), (.ref ob)])) rfl rfl (hb hby d3_2)
  refine Wk.go (A' := T1.setTop (mkF m 5 #[rv ob, .unset, .unset] [(.long wst), (.ref ob)])) (fun t k => st1 t k) ?_
  refine Wk.go (A' := T1.setTop (mkF m 8 #[rv ob, .unset, .unset] [(.long (-7046029254386353131 : Int64)), (.long wst), (.ref ob)])) (fun t k => X1.ldc2Long hx hown (mvT hZ (tw17 hw)) (g := (mkF m 5 #[rv ob, .unset, .unset] [(.long wst), (.ref ob)])) rfl (hb hby d3_5) t k) ?_
  refine Wk.go (A' := T1.setTop (mkF m 9 #[rv ob, .unset, .unset] [(.long (wst + (-7046029254386353131 : Int64))), (.ref ob)])) (fun t k => XS.ladd X1.here hx rfl (hb hby d3_8) rfl k) ?_
  obtain ⟨T2, h2, X2, e2, W2, st2⟩ := putF X1 hx hZ hown (host := "") (Or.inl (tw10 hw)) Via.refl e1 F_state E_ob (Or.inl (tw11 hw)) (tw2 hw) (ty := .long) (by decide) rfl rfl (g := (mkF m 9 #[rv ob, .unset, .unset] [(.long (wst + (-7046029254386353131 : Int64))), (.ref ob)])) rfl rfl (hb hby d3_9)
  have f3 := E_ob.wr W2
  have f4 := F_state.same W2
  have Zp2 : n0 ≤ h2.size := Nat.le_trans Z0 (Nat.le_of_eq W2.size.symm)
  have K2 := K0.wr W2 (Or.inl (List.mem_of_getElem? (i := 0) rfl))
  have N2 := Fr.snoc X2 N0 g_ob
  refine Wk.go (A' := T2.setTop (mkF m 12 #[rv ob, .unset, .unset] [])) (fun t k => st2 t k) ?_
  refine Wk.go (A' := T2.setTop (mkF m 13 #[rv ob, .unset, .unset] [(.ref ob)])) (fun t k => XS.aloadN X2.here hx rfl (hb hby d3_12) rfl rfl k) ?_
  obtain ⟨T5, X5, e5, st5⟩ := getF X2 hx hZ hown (host := "") (Or.inl (tw10 hw)) Via.refl e2 f4 (g := (mkF m 13 #[rv ob, .unset, .unset] [(.ref ob)])) rfl rfl (hb hby d3_13)
  refine Wk.go (A' := T5.setTop (mkF m 16 #[rv ob, .unset, .unset] [(.long (wst + (-7046029254386353131 : Int64)))])) (fun t k => st5 t k) ?_
  refine Wk.go (A' := T5.setTop (mkF m 17 #[rv ob, jv (wst + (-7046029254386353131 : Int64)), .second] [])) (fun t k => XS.lstoreN X5.here hx rfl (hb hby d3_16) rfl (l' := #[rv ob, jv (wst + (-7046029254386353131 : Int64)), .second]) rfl k) ?_
  refine Wk.go (A' := T5.setTop (mkF m 18 #[rv ob, jv (wst + (-7046029254386353131 : Int64)), .second] [(.long (wst + (-7046029254386353131 : Int64)))])) (fun t k => XS.lloadN X5.here hx rfl (hb hby d3_17) rfl k) ?_
  refine Wk.go (A' := T5.setTop (mkF m 19 #[rv ob, jv (wst + (-7046029254386353131 : Int64)), .second] [(.long (wst + (-7046029254386353131 : Int64))), (.long (wst + (-7046029254386353131 : Int64)))])) (fun t k => XS.lloadN X5.here hx rfl (hb hby d3_18) rfl k) ?_
  refine Wk.go (A' := T5.setTop (mkF m 21 #[rv ob, jv (wst + (-7046029254386353131 : Int64)), .second] [(.int (30 : Int32)), (.long (wst + (-7046029254386353131 : Int64))), (.long (wst + (-7046029254386353131 : Int64)))])) (fun t k => XS.bipush X5.here hx rfl (hb hby d3_19) k) ?_
  refine Wk.go (A' := T5.setTop (mkF m 22 #[rv ob, jv (wst + (-7046029254386353131 : Int64)), .second] [(.long (((wst + (-7046029254386353131 : Int64)).toUInt64 >>> ((30 : Int32) &&& 0x3f).toInt64.toUInt64).toInt64)), (.long (wst + (-7046029254386353131 : Int64)))])) (fun t k => XS.lushr X5.here hx rfl (hb hby d3_21) rfl k) ?_
  refine Wk.go (A' := T5.setTop (mkF m 23 #[rv ob, jv (wst + (-7046029254386353131 : Int64)), .second] [(.long ((wst + (-7046029254386353131 : Int64)) ^^^ (((wst + (-7046029254386353131 : Int64)).toUInt64 >>> ((30 : Int32) &&& 0x3f).toInt64.toUInt64).toInt64)))])) (fun t k => XS.lxor X5.here hx rfl (hb hby d3_22) rfl k) ?_
  refine Wk.go (A' := T5.setTop (mkF m 26 #[rv ob, jv (wst + (-7046029254386353131 : Int64)), .second] [(.long (-4658895280553007687 : Int64)), (.long ((wst + (-7046029254386353131 : Int64)) ^^^ (((wst + (-7046029254386353131 : Int64)).toUInt64 >>> ((30 : Int32) &&& 0x3f).toInt64.toUInt64).toInt64)))])) (fun t k => X5.ldc2Long hx hown (mvT hZ (tw18 hw)) (g := (mkF m 23 #[rv ob, jv (wst + (-7046029254386353131 : Int64)), .second] [(.long ((wst + (-7046029254386353131 : Int64)) ^^^ (((wst + (-7046029254386353131 : Int64)).toUInt64 >>> ((30 : Int32) &&& 0x3f).toInt64.toUInt64).toInt64)))])) rfl (hb hby d3_23) t k) ?_
  refine Wk.go (A' := T5.setTop (mkF m 27 #[rv ob, jv (wst + (-7046029254386353131 : Int64)), .second] [(.long (own_m1 (wst + (-7046029254386353131 : Int64))))])) (fun t k => XS.lmul X5.here hx rfl (hb hby d3_26) rfl k) ?_
  refine Wk.go (A' := T5.setTop (mkF m 28 #[rv ob, jv (own_m1 (wst + (-7046029254386353131 : Int64))), .second] [])) (fun t k => XS.lstoreN X5.here hx rfl (hb hby d3_27) rfl (l' := #[rv ob, jv (own_m1 (wst + (-7046029254386353131 : Int64))), .second]) rfl k) ?_
  refine Wk.go (A' := T5.setTop (mkF m 29 #[rv ob, jv (own_m1 (wst + (-7046029254386353131 : Int64))), .second] [(.long (own_m1 (wst + (-7046029254386353131 : Int64))))])) (fun t k => XS.lloadN X5.here hx rfl (hb hby d3_28) rfl k) ?_
  refine Wk.go (A' := T5.setTop (mkF m 30 #[rv ob, jv (own_m1 (wst + (-7046029254386353131 : Int64))), .second] [(.long (own_m1 (wst + (-7046029254386353131 : Int64)))), (.long (own_m1 (wst + (-7046029254386353131 : Int64))))])) (fun t k => XS.lloadN X5.here hx rfl (hb hby d3_29) rfl k) ?_
  refine Wk.go (A' := T5.setTop (mkF m 32 #[rv ob, jv (own_m1 (wst + (-7046029254386353131 : Int64))), .second] [(.int (27 : Int32)), (.long (own_m1 (wst + (-7046029254386353131 : Int64)))), (.long (own_m1 (wst + (-7046029254386353131 : Int64))))])) (fun t k => XS.bipush X5.here hx rfl (hb hby d3_30) k) ?_
  refine Wk.go (A' := T5.setTop (mkF m 33 #[rv ob, jv (own_m1 (wst + (-7046029254386353131 : Int64))), .second] [(.long (((own_m1 (wst + (-7046029254386353131 : Int64))).toUInt64 >>> ((27 : Int32) &&& 0x3f).toInt64.toUInt64).toInt64)), (.long (own_m1 (wst + (-7046029254386353131 : Int64))))])) (fun t k => XS.lushr X5.here hx rfl (hb hby d3_32) rfl k) ?_
  refine Wk.go (A' := T5.setTop (mkF m 34 #[rv ob, jv (own_m1 (wst + (-7046029254386353131 : Int64))), .second] [(.long ((own_m1 (wst + (-7046029254386353131 : Int64))) ^^^ (((own_m1 (wst + (-7046029254386353131 : Int64))).toUInt64 >>> ((27 : Int32) &&& 0x3f).toInt64.toUInt64).toInt64)))])) (fun t k => XS.lxor X5.here hx rfl (hb hby d3_33) rfl k) ?_
  refine Wk.go (A' := T5.setTop (mkF m 37 #[rv ob, jv (own_m1 (wst + (-7046029254386353131 : Int64))), .second] [(.long (-7723592293110705685 : Int64)), (.long ((own_m1 (wst + (-7046029254386353131 : Int64))) ^^^ (((own_m1 (wst + (-7046029254386353131 : Int64))).toUInt64 >>> ((27 : Int32) &&& 0x3f).toInt64.toUInt64).toInt64)))])) (fun t k => X5.ldc2Long hx hown (mvT hZ (tw19 hw)) (g := (mkF m 34 #[rv ob, jv (own_m1 (wst + (-7046029254386353131 : Int64))), .second] [(.long ((own_m1 (wst + (-7046029254386353131 : Int64))) ^^^ (((own_m1 (wst + (-7046029254386353131 : Int64))).toUInt64 >>> ((27 : Int32) &&& 0x3f).toInt64.toUInt64).toInt64)))])) rfl (hb hby d3_34) t k) ?_
  refine Wk.go (A' := T5.setTop (mkF m 38 #[rv ob, jv (own_m1 (wst + (-7046029254386353131 : Int64))), .second] [(.long (own_m2 (own_m1 (wst + (-7046029254386353131 : Int64)))))])) (fun t k => XS.lmul X5.here hx rfl (hb hby d3_37) rfl k) ?_
  refine Wk.go (A' := T5.setTop (mkF m 39 #[rv ob, jv (own_m2 (own_m1 (wst + (-7046029254386353131 : Int64)))), .second] [])) (fun t k => XS.lstoreN X5.here hx rfl (hb hby d3_38) rfl (l' := #[rv ob, jv (own_m2 (own_m1 (wst + (-7046029254386353131 : Int64)))), .second]) rfl k) ?_
  refine Wk.go (A' := T5.setTop (mkF m 40 #[rv ob, jv (own_m2 (own_m1 (wst + (-7046029254386353131 : Int64)))), .second] [(.long (own_m2 (own_m1 (wst + (-7046029254386353131 : Int64)))))])) (fun t k => XS.lloadN X5.here hx rfl (hb hby d3_39) rfl k) ?_
  refine Wk.go (A' := T5.setTop (mkF m 41 #[rv ob, jv (own_m2 (own_m1 (wst + (-7046029254386353131 : Int64)))), .second] [(.long (own_m2 (own_m1 (wst + (-7046029254386353131 : Int64))))), (.long (own_m2 (own_m1 (wst + (-7046029254386353131 : Int64)))))])) (fun t k => XS.lloadN X5.here hx rfl (hb hby d3_40) rfl k) ?_
  refine Wk.go (A' := T5.setTop (mkF m 43 #[rv ob, jv (own_m2 (own_m1 (wst + (-7046029254386353131 : Int64)))), .second] [(.int (31 : Int32)), (.long (own_m2 (own_m1 (wst + (-7046029254386353131 : Int64))))), (.long (own_m2 (own_m1 (wst + (-7046029254386353131 : Int64)))))])) (fun t k => XS.bipush X5.here hx rfl (hb hby d3_41) k) ?_
  refine Wk.go (A' := T5.setTop (mkF m 44 #[rv ob, jv (own_m2 (own_m1 (wst + (-7046029254386353131 : Int64)))), .second] [(.long (((own_m2 (own_m1 (wst + (-7046029254386353131 : Int64)))).toUInt64 >>> ((31 : Int32) &&& 0x3f).toInt64.toUInt64).toInt64)), (.long (own_m2 (own_m1 (wst + (-7046029254386353131 : Int64)))))])) (fun t k => XS.lushr X5.here hx rfl (hb hby d3_43) rfl k) ?_
  refine Wk.go (A' := T5.setTop (mkF m 45 #[rv ob, jv (own_m2 (own_m1 (wst + (-7046029254386353131 : Int64)))), .second] [(.long (own_m3 (own_m2 (own_m1 (wst + (-7046029254386353131 : Int64))))))])) (fun t k => XS.lxor X5.here hx rfl (hb hby d3_44) rfl k) ?_
  refine own_fin (Qv := Q3 Z ob wst h0 n0) (v := some (.long (own_m3 (own_m2 (own_m1 (wst + (-7046029254386353131 : Int64))))))) X5 hlk (fun h => by rw [Bd.returns] at h; cases h) (fun fs hr => X5.lreturnOut hx Bd.returns (hb hby d3_45) hr) ?_ (by decide) (by decide)
  show Q3 Z ob wst h0 n0 _ T5.heap _
  rw [e5]
  exact ⟨rfl, N2, K2, f3, f4⟩
theorem d4_0 : decode prog_7_method_2_code 0 = .ok (.aload_n 0, 1) := by decide +kernel
theorem d4_1 : decode prog_7_method_2_code 1 = .ok (.getfield 7, 3) := by decide +kernel
theorem d4_4 : decode prog_7_method_2_code 4 = .ok (.lreturn, 1) := by decide +kernel
theorem ef_4 (m : MethodId) (x0 : Addr) : entryFrame m #[(.ref x0)] 1 = mkF m 0 #[rv x0] [] := by first | (simp [entryFrame, mkF, argsToLocals, Value.category]; done) | rfl
def f_state (ob : Addr) (wst : Int64) : Int64 := wst
def Q4 (Z : State) (ob : Addr) (wst : Int64) (h0 : Heap) (n0 : Nat) (v : Option Value) (h : Heap) (L : List Loc) : Prop := v = some (.long (f_state ob wst)) ∧ Fr n0 L ∧ h = h0
set_option maxRecDepth 65536 in
set_option maxHeartbeats 40000000 in
theorem rm4 (l : Launch) (Z : State) (a0 : Array Value) (hw : ∀ d ∈ tables_1, d.before a0 Z = true) (ws : List Jvm.Cond) (ob : Addr) (wst : Int64) (h0 : Heap) (n0 : Nat) (Z0 : n0 ≤ h0.size) (E_ob : Exa Z h0 ob "com/example/skerry/skerry/engine/Rng") (F_state : Fld Z h0 ob "com/example/skerry/skerry/engine/Rng" "state" "J" (.long wst)) :
    MetFree l (⟨"com/example/skerry/skerry/engine/Rng", "state", "()J"⟩ : MethodName) (head1 (Jvm.Cond.code (⟨"com/example/skerry/skerry/engine/Rng", "state", "()J"⟩ : MethodName) prog_7_method_2_code 1 (some .long) :: ws) ({ frames := 0, cells := 0, slots := 0, locals := 0 } : Room)) (fun a U => a = #[(.ref ob)] ∧ Z.Warmed39 U.vm ∧ U.heap = h0) (fun _ _ _ _ _ => True) (fun _ U o U' => ∃ v L, o = .returned v ∧ Q4 Z ob wst h0 n0 v U'.heap L ∧ FrameEnd U o U' L ({ frames := 0, cells := 0, slots := 0, locals := 0 } : Room).cells ({ frames := 0, cells := 0, slots := 0, locals := 0 } : Room).slots) := by
  refine MetFree.of_bodySF (plainFor_of_name pn_0) hisR ?_
  intro p e s m args below meth c s₁ Bd hml0 hP hK
  obtain ⟨rfl, hZ, hh⟩ := hP
  have hx := Bd.exec
  have hby := Bd.bytes
  have hml : c.maxLocals = 1 := hml0
  have hown : s.vm.findClass "com/example/skerry/skerry/engine/Rng" = some m.cls := findClass_of_methodNamed Bd.named
  have hnm := (name_of_methodNamed Bd.named Bd.method).1
  have X0 : Stand p l e ({ frames := 0, cells := 0, slots := 0, locals := 0 } : Room) s m #[(.ref ob)] below meth c s₁ [] 0 0 := Stand.of_body Bd
  have e0 : s₁.heap = h0 := by rw [← hh, Bd.state]; rfl
  have N0 := Fr.nil n0
  have hlk : meth.locks = false := BodyLoose.notSynchronized Bd
  suffices hwk : Wk p.tables e below (s₁.setTop (mkF m 0 #[rv ob] [])) (fun U o => U.status = .running ∧ Ended U below o ∧ ∃ v L, o = .returned v ∧ Q4 Z ob wst h0 n0 v U.heap L ∧ FrameEnd s o U L 0 0) by
    obtain ⟨U, o, k1, k2⟩ := hwk
    exact ⟨U, o, castTop (ef_4 m ob) k1, k2⟩
  refine Wk.go (A' := s₁.setTop (mkF m 1 #[rv ob] [(.ref ob)])) (fun t k => XS.aloadN X0.here hx rfl (hb hby d4_0) rfl rfl k) ?_
  obtain ⟨T1, X1, e1, st1⟩ := getF X0 hx hZ hown (host := "") (Or.inl (tw10 hw)) Via.refl e0 F_state (g := (mkF m 1 #[rv ob] [(.ref ob)])) rfl rfl (hb hby d4_1)
  refine Wk.go (A' := T1.setTop (mkF m 4 #[rv ob] [(.long wst)])) (fun t k => st1 t k) ?_
  refine own_fin (Qv := Q4 Z ob wst h0 n0) (v := some (.long wst)) X1 hlk (fun h => by rw [Bd.returns] at h; cases h) (fun fs hr => X1.lreturnOut hx Bd.returns (hb hby d4_4) hr) ?_ (by decide) (by decide)
  refine ⟨?_, N0, e1⟩
  simp only [f_state]
def own_u1 (z : Int64) : Int64 := (((z ^^^ ((z.toUInt64 >>> ((31 : Int32) &&& 0x3f).toInt64.toUInt64).toInt64)) ^^^ ((z.toUInt64 >>> ((62 : Int32) &&& 0x3f).toInt64.toUInt64).toInt64)) * (3573116690164977347 : Int64))
def own_u2 (z : Int64) : Int64 := (((z ^^^ ((z.toUInt64 >>> ((27 : Int32) &&& 0x3f).toInt64.toUInt64).toInt64)) ^^^ ((z.toUInt64 >>> ((54 : Int32) &&& 0x3f).toInt64.toUInt64).toInt64)) * (-7575587736534282103 : Int64))
def own_u3 (z : Int64) : Int64 := ((z ^^^ ((z.toUInt64 >>> ((30 : Int32) &&& 0x3f).toInt64.toUInt64).toInt64)) ^^^ ((z.toUInt64 >>> ((60 : Int32) &&& 0x3f).toInt64.toUInt64).toInt64))
theorem d5_0 : decode method_2_code 0 = .ok (.lload_n 0, 1) := by decide +kernel
theorem d5_1 : decode method_2_code 1 = .ok (.lload_n 0, 1) := by decide +kernel
theorem d5_2 : decode method_2_code 2 = .ok (.bipush 31, 2) := by decide +kernel
theorem d5_4 : decode method_2_code 4 = .ok (.lushr, 1) := by decide +kernel
theorem d5_5 : decode method_2_code 5 = .ok (.lxor, 1) := by decide +kernel
theorem d5_6 : decode method_2_code 6 = .ok (.lload_n 0, 1) := by decide +kernel
theorem d5_7 : decode method_2_code 7 = .ok (.bipush 62, 2) := by decide +kernel
theorem d5_9 : decode method_2_code 9 = .ok (.lushr, 1) := by decide +kernel
theorem d5_10 : decode method_2_code 10 = .ok (.lxor, 1) := by decide +kernel
theorem tw29 {Z : State} {a0 : Array Value} (hw : ∀ d ∈ tables_1, d.before a0 Z = true) : (Jvm.Cond.constantLong "com/example/skerry/skerry/engine/RngNextLongPinLaw" (7 : Nat) (3573116690164977347 : Int64)).before a0 Z = true := hw _ (List.mem_of_getElem? (i := 29) rfl)
theorem d5_11 : decode method_2_code 11 = .ok (.ldc2_w 7, 3) := by decide +kernel
theorem d5_14 : decode method_2_code 14 = .ok (.lmul, 1) := by decide +kernel
theorem d5_15 : decode method_2_code 15 = .ok (.lstore_n 0, 1) := by decide +kernel
theorem d5_16 : decode method_2_code 16 = .ok (.lload_n 0, 1) := by decide +kernel
theorem d5_17 : decode method_2_code 17 = .ok (.lload_n 0, 1) := by decide +kernel
theorem d5_18 : decode method_2_code 18 = .ok (.bipush 27, 2) := by decide +kernel
theorem d5_20 : decode method_2_code 20 = .ok (.lushr, 1) := by decide +kernel
theorem d5_21 : decode method_2_code 21 = .ok (.lxor, 1) := by decide +kernel
theorem d5_22 : decode method_2_code 22 = .ok (.lload_n 0, 1) := by decide +kernel
theorem d5_23 : decode method_2_code 23 = .ok (.bipush 54, 2) := by decide +kernel
theorem d5_25 : decode method_2_code 25 = .ok (.lushr, 1) := by decide +kernel
theorem d5_26 : decode method_2_code 26 = .ok (.lxor, 1) := by decide +kernel
theorem tw30 {Z : State} {a0 : Array Value} (hw : ∀ d ∈ tables_1, d.before a0 Z = true) : (Jvm.Cond.constantLong "com/example/skerry/skerry/engine/RngNextLongPinLaw" (9 : Nat) (-7575587736534282103 : Int64)).before a0 Z = true := hw _ (List.mem_of_getElem? (i := 30) rfl)
theorem d5_27 : decode method_2_code 27 = .ok (.ldc2_w 9, 3) := by decide +kernel
theorem d5_30 : decode method_2_code 30 = .ok (.lmul, 1) := by decide +kernel
theorem d5_31 : decode method_2_code 31 = .ok (.lstore_n 0, 1) := by decide +kernel
theorem d5_32 : decode method_2_code 32 = .ok (.lload_n 0, 1) := by decide +kernel
theorem d5_33 : decode method_2_code 33 = .ok (.lload_n 0, 1) := by decide +kernel
theorem d5_34 : decode method_2_code 34 = .ok (.bipush 30, 2) := by decide +kernel
theorem d5_36 : decode method_2_code 36 = .ok (.lushr, 1) := by decide +kernel
theorem d5_37 : decode method_2_code 37 = .ok (.lxor, 1) := by decide +kernel
theorem d5_38 : decode method_2_code 38 = .ok (.lload_n 0, 1) := by decide +kernel
theorem d5_39 : decode method_2_code 39 = .ok (.bipush 60, 2) := by decide +kernel
theorem d5_41 : decode method_2_code 41 = .ok (.lushr, 1) := by decide +kernel
theorem d5_42 : decode method_2_code 42 = .ok (.lxor, 1) := by decide +kernel
theorem d5_43 : decode method_2_code 43 = .ok (.lstore_n 0, 1) := by decide +kernel
theorem d5_44 : decode method_2_code 44 = .ok (.lload_n 0, 1) := by decide +kernel
theorem d5_45 : decode method_2_code 45 = .ok (.lreturn, 1) := by decide +kernel
theorem pn_1 : plainName "com/example/skerry/skerry/engine/RngNextLongPinLaw" = true := by first | (simp [plainName, overriddenIn]; done) | decide +kernel
theorem ef_5 (m : MethodId) (x0 : Int64) : entryFrame m #[(.long x0)] 2 = mkF m 0 #[jv x0, .second] [] := by first | (simp [entryFrame, mkF, argsToLocals, Value.category]; done) | rfl
def f_unmix (zq : Int64)  : Int64 := (own_u3 (own_u2 (own_u1 zq)))
def Q5 (Z : State) (zq : Int64)  (h0 : Heap) (n0 : Nat) (v : Option Value) (h : Heap) (L : List Loc) : Prop := v = some (.long (f_unmix zq)) ∧ Fr n0 L ∧ h = h0
set_option maxRecDepth 65536 in
set_option maxHeartbeats 40000000 in
theorem rm5 (l : Launch) (Z : State) (a0 : Array Value) (hw : ∀ d ∈ tables_1, d.before a0 Z = true) (ws : List Jvm.Cond) (zq : Int64)  (h0 : Heap) (n0 : Nat) (Z0 : n0 ≤ h0.size)  :
    MetFree l (⟨"com/example/skerry/skerry/engine/RngNextLongPinLaw", "unmix", "(J)J"⟩ : MethodName) (head1 (Jvm.Cond.code (⟨"com/example/skerry/skerry/engine/RngNextLongPinLaw", "unmix", "(J)J"⟩ : MethodName) method_2_code 2 (some .long) :: ws) ({ frames := 0, cells := 0, slots := 0, locals := 0 } : Room)) (fun a U => a = #[(.long zq)] ∧ Z.Warmed39 U.vm ∧ U.heap = h0) (fun _ _ _ _ _ => True) (fun _ U o U' => ∃ v L, o = .returned v ∧ Q5 Z zq h0 n0 v U'.heap L ∧ FrameEnd U o U' L ({ frames := 0, cells := 0, slots := 0, locals := 0 } : Room).cells ({ frames := 0, cells := 0, slots := 0, locals := 0 } : Room).slots) := by
  refine MetFree.of_bodySF (plainFor_of_name pn_1) hisR ?_
  intro p e s m args below meth c s₁ Bd hml0 hP hK
  obtain ⟨rfl, hZ, hh⟩ := hP
  have hx := Bd.exec
  have hby := Bd.bytes
  have hml : c.maxLocals = 2 := hml0
  have hown : s.vm.findClass "com/example/skerry/skerry/engine/RngNextLongPinLaw" = some m.cls := findClass_of_methodNamed Bd.named
  have hnm := (name_of_methodNamed Bd.named Bd.method).1
  have X0 : Stand p l e ({ frames := 0, cells := 0, slots := 0, locals := 0 } : Room) s m #[(.long zq)] below meth c s₁ [] 0 0 := Stand.of_body Bd
  have e0 : s₁.heap = h0 := by rw [← hh, Bd.state]; rfl
  have N0 := Fr.nil n0
  have hlk : meth.locks = false := BodyLoose.notSynchronized Bd
  suffices hwk : Wk p.tables e below (s₁.setTop (mkF m 0 #[jv zq, .second] [])) (fun U o => U.status = .running ∧ Ended U below o ∧ ∃ v L, o = .returned v ∧ Q5 Z zq h0 n0 v U.heap L ∧ FrameEnd s o U L 0 0) by
    obtain ⟨U, o, k1, k2⟩ := hwk
    exact ⟨U, o, castTop (ef_5 m zq) k1, k2⟩
  refine Wk.go (A' := s₁.setTop (mkF m 1 #[jv zq, .second] [(.long zq)])) (fun t k => XS.lloadN X0.here hx rfl (hb hby d5_0) rfl k) ?_
  refine Wk.go (A' := s₁.setTop (mkF m 2 #[jv zq, .second] [(.long zq), (.long zq)])) (fun t k => XS.lloadN X0.here hx rfl (hb hby d5_1) rfl k) ?_
  refine Wk.go (A' := s₁.setTop (mkF m 4 #[jv zq, .second] [(.int (31 : Int32)), (.long zq), (.long zq)])) (fun t k => XS.bipush X0.here hx rfl (hb hby d5_2) k) ?_
  refine Wk.go (A' := s₁.setTop (mkF m 5 #[jv zq, .second] [(.long ((zq.toUInt64 >>> ((31 : Int32) &&& 0x3f).toInt64.toUInt64).toInt64)), (.long zq)])) (fun t k => XS.lushr X0.here hx rfl (hb hby d5_4) rfl k) ?_
  refine Wk.go (A' := s₁.setTop (mkF m 6 #[jv zq, .second] [(.long (zq ^^^ ((zq.toUInt64 >>> ((31 : Int32) &&& 0x3f).toInt64.toUInt64).toInt64)))])) (fun t k => XS.lxor X0.here hx rfl (hb hby d5_5) rfl k) ?_
  refine Wk.go (A' := s₁.setTop (mkF m 7 #[jv zq, .second] [(.long zq), (.long (zq ^^^ ((zq.toUInt64 >>> ((31 : Int32) &&& 0x3f).toInt64.toUInt64).toInt64)))])) (fun t k => XS.lloadN X0.here hx rfl (hb hby d5_6) rfl k) ?_
  refine Wk.go (A' := s₁.setTop (mkF m 9 #[jv zq, .second] [(.int (62 : Int32)), (.long zq), (.long (zq ^^^ ((zq.toUInt64 >>> ((31 : Int32) &&& 0x3f).toInt64.toUInt64).toInt64)))])) (fun t k => XS.bipush X0.here hx rfl (hb hby d5_7) k) ?_
  refine Wk.go (A' := s₁.setTop (mkF m 10 #[jv zq, .second] [(.long ((zq.toUInt64 >>> ((62 : Int32) &&& 0x3f).toInt64.toUInt64).toInt64)), (.long (zq ^^^ ((zq.toUInt64 >>> ((31 : Int32) &&& 0x3f).toInt64.toUInt64).toInt64)))])) (fun t k => XS.lushr X0.here hx rfl (hb hby d5_9) rfl k) ?_
  refine Wk.go (A' := s₁.setTop (mkF m 11 #[jv zq, .second] [(.long ((zq ^^^ ((zq.toUInt64 >>> ((31 : Int32) &&& 0x3f).toInt64.toUInt64).toInt64)) ^^^ ((zq.toUInt64 >>> ((62 : Int32) &&& 0x3f).toInt64.toUInt64).toInt64)))])) (fun t k => XS.lxor X0.here hx rfl (hb hby d5_10) rfl k) ?_
  refine Wk.go (A' := s₁.setTop (mkF m 14 #[jv zq, .second] [(.long (3573116690164977347 : Int64)), (.long ((zq ^^^ ((zq.toUInt64 >>> ((31 : Int32) &&& 0x3f).toInt64.toUInt64).toInt64)) ^^^ ((zq.toUInt64 >>> ((62 : Int32) &&& 0x3f).toInt64.toUInt64).toInt64)))])) (fun t k => X0.ldc2Long hx hown (mvT hZ (tw29 hw)) (g := (mkF m 11 #[jv zq, .second] [(.long ((zq ^^^ ((zq.toUInt64 >>> ((31 : Int32) &&& 0x3f).toInt64.toUInt64).toInt64)) ^^^ ((zq.toUInt64 >>> ((62 : Int32) &&& 0x3f).toInt64.toUInt64).toInt64)))])) rfl (hb hby d5_11) t k) ?_
  refine Wk.go (A' := s₁.setTop (mkF m 15 #[jv zq, .second] [(.long (own_u1 zq))])) (fun t k => XS.lmul X0.here hx rfl (hb hby d5_14) rfl k) ?_
  refine Wk.go (A' := s₁.setTop (mkF m 16 #[jv (own_u1 zq), .second] [])) (fun t k => XS.lstoreN X0.here hx rfl (hb hby d5_15) rfl (l' := #[jv (own_u1 zq), .second]) rfl k) ?_
  refine Wk.go (A' := s₁.setTop (mkF m 17 #[jv (own_u1 zq), .second] [(.long (own_u1 zq))])) (fun t k => XS.lloadN X0.here hx rfl (hb hby d5_16) rfl k) ?_
  refine Wk.go (A' := s₁.setTop (mkF m 18 #[jv (own_u1 zq), .second] [(.long (own_u1 zq)), (.long (own_u1 zq))])) (fun t k => XS.lloadN X0.here hx rfl (hb hby d5_17) rfl k) ?_
  refine Wk.go (A' := s₁.setTop (mkF m 20 #[jv (own_u1 zq), .second] [(.int (27 : Int32)), (.long (own_u1 zq)), (.long (own_u1 zq))])) (fun t k => XS.bipush X0.here hx rfl (hb hby d5_18) k) ?_
  refine Wk.go (A' := s₁.setTop (mkF m 21 #[jv (own_u1 zq), .second] [(.long (((own_u1 zq).toUInt64 >>> ((27 : Int32) &&& 0x3f).toInt64.toUInt64).toInt64)), (.long (own_u1 zq))])) (fun t k => XS.lushr X0.here hx rfl (hb hby d5_20) rfl k) ?_
  refine Wk.go (A' := s₁.setTop (mkF m 22 #[jv (own_u1 zq), .second] [(.long ((own_u1 zq) ^^^ (((own_u1 zq).toUInt64 >>> ((27 : Int32) &&& 0x3f).toInt64.toUInt64).toInt64)))])) (fun t k => XS.lxor X0.here hx rfl (hb hby d5_21) rfl k) ?_
  refine Wk.go (A' := s₁.setTop (mkF m 23 #[jv (own_u1 zq), .second] [(.long (own_u1 zq)), (.long ((own_u1 zq) ^^^ (((own_u1 zq).toUInt64 >>> ((27 : Int32) &&& 0x3f).toInt64.toUInt64).toInt64)))])) (fun t k => XS.lloadN X0.here hx rfl (hb hby d5_22) rfl k) ?_
  refine Wk.go (A' := s₁.setTop (mkF m 25 #[jv (own_u1 zq), .second] [(.int (54 : Int32)), (.long (own_u1 zq)), (.long ((own_u1 zq) ^^^ (((own_u1 zq).toUInt64 >>> ((27 : Int32) &&& 0x3f).toInt64.toUInt64).toInt64)))])) (fun t k => XS.bipush X0.here hx rfl (hb hby d5_23) k) ?_
  refine Wk.go (A' := s₁.setTop (mkF m 26 #[jv (own_u1 zq), .second] [(.long (((own_u1 zq).toUInt64 >>> ((54 : Int32) &&& 0x3f).toInt64.toUInt64).toInt64)), (.long ((own_u1 zq) ^^^ (((own_u1 zq).toUInt64 >>> ((27 : Int32) &&& 0x3f).toInt64.toUInt64).toInt64)))])) (fun t k => XS.lushr X0.here hx rfl (hb hby d5_25) rfl k) ?_
  refine Wk.go (A' := s₁.setTop (mkF m 27 #[jv (own_u1 zq), .second] [(.long (((own_u1 zq) ^^^ (((own_u1 zq).toUInt64 >>> ((27 : Int32) &&& 0x3f).toInt64.toUInt64).toInt64)) ^^^ (((own_u1 zq).toUInt64 >>> ((54 : Int32) &&& 0x3f).toInt64.toUInt64).toInt64)))])) (fun t k => XS.lxor X0.here hx rfl (hb hby d5_26) rfl k) ?_
  refine Wk.go (A' := s₁.setTop (mkF m 30 #[jv (own_u1 zq), .second] [(.long (-7575587736534282103 : Int64)), (.long (((own_u1 zq) ^^^ (((own_u1 zq).toUInt64 >>> ((27 : Int32) &&& 0x3f).toInt64.toUInt64).toInt64)) ^^^ (((own_u1 zq).toUInt64 >>> ((54 : Int32) &&& 0x3f).toInt64.toUInt64).toInt64)))])) (fun t k => X0.ldc2Long hx hown (mvT hZ (tw30 hw)) (g := (mkF m 27 #[jv (own_u1 zq), .second] [(.long (((own_u1 zq) ^^^ (((own_u1 zq).toUInt64 >>> ((27 : Int32) &&& 0x3f).toInt64.toUInt64).toInt64)) ^^^ (((own_u1 zq).toUInt64 >>> ((54 : Int32) &&& 0x3f).toInt64.toUInt64).toInt64)))])) rfl (hb hby d5_27) t k) ?_
  refine Wk.go (A' := s₁.setTop (mkF m 31 #[jv (own_u1 zq), .second] [(.long (own_u2 (own_u1 zq)))])) (fun t k => XS.lmul X0.here hx rfl (hb hby d5_30) rfl k) ?_
  refine Wk.go (A' := s₁.setTop (mkF m 32 #[jv (own_u2 (own_u1 zq)), .second] [])) (fun t k => XS.lstoreN X0.here hx rfl (hb hby d5_31) rfl (l' := #[jv (own_u2 (own_u1 zq)), .second]) rfl k) ?_
  refine Wk.go (A' := s₁.setTop (mkF m 33 #[jv (own_u2 (own_u1 zq)), .second] [(.long (own_u2 (own_u1 zq)))])) (fun t k => XS.lloadN X0.here hx rfl (hb hby d5_32) rfl k) ?_
  refine Wk.go (A' := s₁.setTop (mkF m 34 #[jv (own_u2 (own_u1 zq)), .second] [(.long (own_u2 (own_u1 zq))), (.long (own_u2 (own_u1 zq)))])) (fun t k => XS.lloadN X0.here hx rfl (hb hby d5_33) rfl k) ?_
  refine Wk.go (A' := s₁.setTop (mkF m 36 #[jv (own_u2 (own_u1 zq)), .second] [(.int (30 : Int32)), (.long (own_u2 (own_u1 zq))), (.long (own_u2 (own_u1 zq)))])) (fun t k => XS.bipush X0.here hx rfl (hb hby d5_34) k) ?_
  refine Wk.go (A' := s₁.setTop (mkF m 37 #[jv (own_u2 (own_u1 zq)), .second] [(.long (((own_u2 (own_u1 zq)).toUInt64 >>> ((30 : Int32) &&& 0x3f).toInt64.toUInt64).toInt64)), (.long (own_u2 (own_u1 zq)))])) (fun t k => XS.lushr X0.here hx rfl (hb hby d5_36) rfl k) ?_
  refine Wk.go (A' := s₁.setTop (mkF m 38 #[jv (own_u2 (own_u1 zq)), .second] [(.long ((own_u2 (own_u1 zq)) ^^^ (((own_u2 (own_u1 zq)).toUInt64 >>> ((30 : Int32) &&& 0x3f).toInt64.toUInt64).toInt64)))])) (fun t k => XS.lxor X0.here hx rfl (hb hby d5_37) rfl k) ?_
  refine Wk.go (A' := s₁.setTop (mkF m 39 #[jv (own_u2 (own_u1 zq)), .second] [(.long (own_u2 (own_u1 zq))), (.long ((own_u2 (own_u1 zq)) ^^^ (((own_u2 (own_u1 zq)).toUInt64 >>> ((30 : Int32) &&& 0x3f).toInt64.toUInt64).toInt64)))])) (fun t k => XS.lloadN X0.here hx rfl (hb hby d5_38) rfl k) ?_
  refine Wk.go (A' := s₁.setTop (mkF m 41 #[jv (own_u2 (own_u1 zq)), .second] [(.int (60 : Int32)), (.long (own_u2 (own_u1 zq))), (.long ((own_u2 (own_u1 zq)) ^^^ (((own_u2 (own_u1 zq)).toUInt64 >>> ((30 : Int32) &&& 0x3f).toInt64.toUInt64).toInt64)))])) (fun t k => XS.bipush X0.here hx rfl (hb hby d5_39) k) ?_
  refine Wk.go (A' := s₁.setTop (mkF m 42 #[jv (own_u2 (own_u1 zq)), .second] [(.long (((own_u2 (own_u1 zq)).toUInt64 >>> ((60 : Int32) &&& 0x3f).toInt64.toUInt64).toInt64)), (.long ((own_u2 (own_u1 zq)) ^^^ (((own_u2 (own_u1 zq)).toUInt64 >>> ((30 : Int32) &&& 0x3f).toInt64.toUInt64).toInt64)))])) (fun t k => XS.lushr X0.here hx rfl (hb hby d5_41) rfl k) ?_
  refine Wk.go (A' := s₁.setTop (mkF m 43 #[jv (own_u2 (own_u1 zq)), .second] [(.long (own_u3 (own_u2 (own_u1 zq))))])) (fun t k => XS.lxor X0.here hx rfl (hb hby d5_42) rfl k) ?_
  refine Wk.go (A' := s₁.setTop (mkF m 44 #[jv (own_u3 (own_u2 (own_u1 zq))), .second] [])) (fun t k => XS.lstoreN X0.here hx rfl (hb hby d5_43) rfl (l' := #[jv (own_u3 (own_u2 (own_u1 zq))), .second]) rfl k) ?_
  refine Wk.go (A' := s₁.setTop (mkF m 45 #[jv (own_u3 (own_u2 (own_u1 zq))), .second] [(.long (own_u3 (own_u2 (own_u1 zq))))])) (fun t k => XS.lloadN X0.here hx rfl (hb hby d5_44) rfl k) ?_
  refine own_fin (Qv := Q5 Z zq h0 n0) (v := some (.long (own_u3 (own_u2 (own_u1 zq))))) X0 hlk (fun h => by rw [Bd.returns] at h; cases h) (fun fs hr => X0.lreturnOut hx Bd.returns (hb hby d5_45) hr) ?_ (by decide) (by decide)
  refine ⟨?_, N0, e0⟩
  simp only [f_unmix]
theorem own_sh (x : Int64) (k : Int32) (n : Nat) (hk : k = Int32.ofNat n) (hn : n < 64) : ((x.toUInt64 >>> (k &&& 0x3f).toInt64.toUInt64).toInt64) = ⟨⟨x.toBitVec >>> n⟩⟩ := by
  subst hk
  have h : ((Int32.ofNat n &&& 0x3f).toInt64.toUInt64) = UInt64.ofNat n := by
    have : ∀ i : Fin 64, ((Int32.ofNat i.1 &&& 0x3f).toInt64.toUInt64) = UInt64.ofNat i.1 := by decide +kernel
    exact this ⟨n, hn⟩
  rw [h]
  apply Int64.toBitVec_inj.mp
  show (x.toUInt64 >>> UInt64.ofNat n).toBitVec = x.toBitVec >>> n
  rw [UInt64.toBitVec_shiftRight]
  have : ((UInt64.ofNat n).toBitVec % 64).toNat = n := by
    rw [BitVec.toNat_umod]
    show (UInt64.ofNat n).toNat % 64 = n
    rw [UInt64.toNat_ofNat']
    omega
  rw [BitVec.ushiftRight_eq', this]
  rfl
theorem own_unsh (b : BitVec 64) (n : Nat) (hn : 22 ≤ n) : (b ^^^ (b >>> n)) ^^^ ((b ^^^ (b >>> n)) >>> n) ^^^ ((b ^^^ (b >>> n)) >>> (2 * n)) = b := by
  have h3 : b >>> (3 * n) = 0#64 := by
    apply BitVec.eq_of_toNat_eq
    rw [BitVec.toNat_ushiftRight, Nat.shiftRight_eq_div_pow]
    apply Nat.div_eq_of_lt
    exact Nat.lt_of_lt_of_le b.isLt (Nat.pow_le_pow_right (by decide) (by omega))
  rw [BitVec.ushiftRight_xor_distrib, BitVec.ushiftRight_xor_distrib, ← BitVec.shiftRight_add, ← BitVec.shiftRight_add, show n + n = 2 * n by omega, show n + 2 * n = 3 * n by omega, h3]
  ext i
  simp only [BitVec.getElem_xor, BitVec.getElem_zero]
  cases b[i] <;> cases (b >>> n)[i] <;> cases (b >>> (2 * n))[i] <;> rfl
/-- one stage of the mixing, undone -/
theorem own_stage (y : Int64) (k k2 : Int32) (n : Nat) (hk : k = Int32.ofNat n) (hk2 : k2 = Int32.ofNat (2 * n)) (h1 : 22 ≤ n) (h2 : 2 * n < 64) :
    ((y ^^^ ((y.toUInt64 >>> (k &&& 0x3f).toInt64.toUInt64).toInt64)) ^^^ (((y ^^^ ((y.toUInt64 >>> (k &&& 0x3f).toInt64.toUInt64).toInt64)).toUInt64 >>> (k &&& 0x3f).toInt64.toUInt64).toInt64)) ^^^ (((y ^^^ ((y.toUInt64 >>> (k &&& 0x3f).toInt64.toUInt64).toInt64)).toUInt64 >>> (k2 &&& 0x3f).toInt64.toUInt64).toInt64) = y := by
  rw [own_sh y k n hk (by omega), own_sh _ k n hk (by omega), own_sh _ k2 (2 * n) hk2 h2]
  apply Int64.toBitVec_inj.mp
  show (y.toBitVec ^^^ (y.toBitVec >>> n)) ^^^ ((y.toBitVec ^^^ (y.toBitVec >>> n)) >>> n) ^^^ ((y.toBitVec ^^^ (y.toBitVec >>> n)) >>> (2 * n)) = y.toBitVec
  exact own_unsh y.toBitVec n h1
theorem own_mix (ob : Addr) (w : Int64) : f_unmix (f_next ob w) = w + (-7046029254386353131 : Int64) := by
  show own_u3 (own_u2 (own_u1 (own_m3 (own_m2 (own_m1 (w + (-7046029254386353131 : Int64))))))) = _
  generalize w + (-7046029254386353131 : Int64) = z
  unfold own_u1
  unfold own_m3
  rw [own_stage _ 31 62 31 (by decide) (by decide) (by decide) (by decide)]
  unfold own_m2
  rw [Int64.mul_assoc, show ((-7723592293110705685 : Int64) * (3573116690164977347 : Int64)) = 1 by decide +kernel, Int64.mul_one]
  unfold own_u2
  rw [own_stage _ 27 54 27 (by decide) (by decide) (by decide) (by decide)]
  unfold own_m1
  rw [Int64.mul_assoc, show ((-4658895280553007687 : Int64) * (-7575587736534282103 : Int64)) = 1 by decide +kernel, Int64.mul_one]
  unfold own_u3
  rw [own_stage _ 30 60 30 (by decide) (by decide) (by decide) (by decide)]
theorem tw0 {Z : State} {a0 : Array Value} (hw : ∀ d ∈ tables_1, d.before a0 Z = true) : (Jvm.Cond.constantLong "com/example/skerry/skerry/engine/RngNextLongPinLaw" (11 : Nat) (-7046029254386353131 : Int64)).before a0 Z = true := hw _ (List.mem_of_getElem? (i := 0) rfl)
theorem tw1 {Z : State} {a0 : Array Value} (hw : ∀ d ∈ tables_1, d.before a0 Z = true) : (Jvm.Cond.classLink "com/example/skerry/skerry/engine/RngNextLongPinLaw" (13 : Nat) "com/example/skerry/skerry/engine/Rng").before a0 Z = true := hw _ (List.mem_of_getElem? (i := 1) rfl)
theorem tw3 {Z : State} {a0 : Array Value} (hw : ∀ d ∈ tables_1, d.before a0 Z = true) : (Jvm.Cond.initialized "com/example/skerry/skerry/engine/Rng").before a0 Z = true := hw _ (List.mem_of_getElem? (i := 3) rfl)
theorem tw4 {Z : State} {a0 : Array Value} (hw : ∀ d ∈ tables_1, d.before a0 Z = true) : (Jvm.Cond.methodLink "com/example/skerry/skerry/engine/RngNextLongPinLaw" (15 : Nat) ({ cls := "com/example/skerry/skerry/engine/Rng", name := "<init>", desc := "(J)V" } : Jvm.MethodName)).before a0 Z = true := hw _ (List.mem_of_getElem? (i := 4) rfl)
theorem tw6 {Z : State} {a0 : Array Value} (hw : ∀ d ∈ tables_1, d.before a0 Z = true) : (Jvm.Cond.code ({ cls := "com/example/skerry/skerry/engine/Rng", name := "<init>", desc := "(J)V" } : Jvm.MethodName) prog_7_method_1_code (3 : Nat) (Option.none : Option Jvm.ClassFile.FieldType)).before a0 Z = true := hw _ (List.mem_of_getElem? (i := 6) rfl)
theorem pd_0 : parseMethodDescriptor "(J)V" = some ⟨[.long], none⟩ := by decide +kernel
theorem tw5 {Z : State} {a0 : Array Value} (hw : ∀ d ∈ tables_1, d.before a0 Z = true) : (Jvm.Cond.instanceMethod ({ cls := "com/example/skerry/skerry/engine/Rng", name := "<init>", desc := "(J)V" } : Jvm.MethodName)).before a0 Z = true := hw _ (List.mem_of_getElem? (i := 5) rfl)
theorem tw12 {Z : State} {a0 : Array Value} (hw : ∀ d ∈ tables_1, d.before a0 Z = true) : (Jvm.Cond.methodLink "com/example/skerry/skerry/engine/RngNextLongPinLaw" (18 : Nat) ({ cls := "com/example/skerry/skerry/engine/Rng", name := "nextLong", desc := "()J" } : Jvm.MethodName)).before a0 Z = true := hw _ (List.mem_of_getElem? (i := 12) rfl)
theorem tw16 {Z : State} {a0 : Array Value} (hw : ∀ d ∈ tables_1, d.before a0 Z = true) : (Jvm.Cond.code ({ cls := "com/example/skerry/skerry/engine/Rng", name := "nextLong", desc := "()J" } : Jvm.MethodName) prog_7_method_3_code (3 : Nat) (Option.some Jvm.ClassFile.FieldType.long)).before a0 Z = true := hw _ (List.mem_of_getElem? (i := 16) rfl)
theorem pd_1 : parseMethodDescriptor "()J" = some ⟨[], some .long⟩ := by decide +kernel
theorem tw15 {Z : State} {a0 : Array Value} (hw : ∀ d ∈ tables_1, d.before a0 Z = true) : (Jvm.Cond.selects "com/example/skerry/skerry/engine/Rng" ({ cls := "com/example/skerry/skerry/engine/Rng", name := "nextLong", desc := "()J" } : Jvm.MethodName) ({ cls := "com/example/skerry/skerry/engine/Rng", name := "nextLong", desc := "()J" } : Jvm.MethodName)).before a0 Z = true := hw _ (List.mem_of_getElem? (i := 15) rfl)
theorem tw13 {Z : State} {a0 : Array Value} (hw : ∀ d ∈ tables_1, d.before a0 Z = true) : (Jvm.Cond.declares ({ cls := "com/example/skerry/skerry/engine/Rng", name := "nextLong", desc := "()J" } : Jvm.MethodName)).before a0 Z = true := hw _ (List.mem_of_getElem? (i := 13) rfl)
theorem tw14 {Z : State} {a0 : Array Value} (hw : ∀ d ∈ tables_1, d.before a0 Z = true) : (Jvm.Cond.instanceMethod ({ cls := "com/example/skerry/skerry/engine/Rng", name := "nextLong", desc := "()J" } : Jvm.MethodName)).before a0 Z = true := hw _ (List.mem_of_getElem? (i := 14) rfl)
theorem tw20 {Z : State} {a0 : Array Value} (hw : ∀ d ∈ tables_1, d.before a0 Z = true) : (Jvm.Cond.methodLink "com/example/skerry/skerry/engine/RngNextLongPinLaw" (22 : Nat) ({ cls := "com/example/skerry/skerry/engine/Rng", name := "state", desc := "()J" } : Jvm.MethodName)).before a0 Z = true := hw _ (List.mem_of_getElem? (i := 20) rfl)
theorem tw24 {Z : State} {a0 : Array Value} (hw : ∀ d ∈ tables_1, d.before a0 Z = true) : (Jvm.Cond.code ({ cls := "com/example/skerry/skerry/engine/Rng", name := "state", desc := "()J" } : Jvm.MethodName) prog_7_method_2_code (1 : Nat) (Option.some Jvm.ClassFile.FieldType.long)).before a0 Z = true := hw _ (List.mem_of_getElem? (i := 24) rfl)
theorem tw23 {Z : State} {a0 : Array Value} (hw : ∀ d ∈ tables_1, d.before a0 Z = true) : (Jvm.Cond.selects "com/example/skerry/skerry/engine/Rng" ({ cls := "com/example/skerry/skerry/engine/Rng", name := "state", desc := "()J" } : Jvm.MethodName) ({ cls := "com/example/skerry/skerry/engine/Rng", name := "state", desc := "()J" } : Jvm.MethodName)).before a0 Z = true := hw _ (List.mem_of_getElem? (i := 23) rfl)
theorem tw21 {Z : State} {a0 : Array Value} (hw : ∀ d ∈ tables_1, d.before a0 Z = true) : (Jvm.Cond.declares ({ cls := "com/example/skerry/skerry/engine/Rng", name := "state", desc := "()J" } : Jvm.MethodName)).before a0 Z = true := hw _ (List.mem_of_getElem? (i := 21) rfl)
theorem tw22 {Z : State} {a0 : Array Value} (hw : ∀ d ∈ tables_1, d.before a0 Z = true) : (Jvm.Cond.instanceMethod ({ cls := "com/example/skerry/skerry/engine/Rng", name := "state", desc := "()J" } : Jvm.MethodName)).before a0 Z = true := hw _ (List.mem_of_getElem? (i := 22) rfl)
theorem tw25 {Z : State} {a0 : Array Value} (hw : ∀ d ∈ tables_1, d.before a0 Z = true) : (Jvm.Cond.methodLink "com/example/skerry/skerry/engine/RngNextLongPinLaw" (25 : Nat) ({ cls := "com/example/skerry/skerry/engine/RngNextLongPinLaw", name := "unmix", desc := "(J)J" } : Jvm.MethodName)).before a0 Z = true := hw _ (List.mem_of_getElem? (i := 25) rfl)
theorem tw28 {Z : State} {a0 : Array Value} (hw : ∀ d ∈ tables_1, d.before a0 Z = true) : (Jvm.Cond.code ({ cls := "com/example/skerry/skerry/engine/RngNextLongPinLaw", name := "unmix", desc := "(J)J" } : Jvm.MethodName) method_2_code (2 : Nat) (Option.some Jvm.ClassFile.FieldType.long)).before a0 Z = true := hw _ (List.mem_of_getElem? (i := 28) rfl)
theorem tw27 {Z : State} {a0 : Array Value} (hw : ∀ d ∈ tables_1, d.before a0 Z = true) : (Jvm.Cond.initialized "com/example/skerry/skerry/engine/RngNextLongPinLaw").before a0 Z = true := hw _ (List.mem_of_getElem? (i := 27) rfl)
theorem pd_2 : parseMethodDescriptor "(J)J" = some ⟨[.long], some .long⟩ := by decide +kernel
theorem tw26 {Z : State} {a0 : Array Value} (hw : ∀ d ∈ tables_1, d.before a0 Z = true) : (Jvm.Cond.static ({ cls := "com/example/skerry/skerry/engine/RngNextLongPinLaw", name := "unmix", desc := "(J)J" } : Jvm.MethodName)).before a0 Z = true := hw _ (List.mem_of_getElem? (i := 26) rfl)
theorem ef_0 (m : MethodId) (x0 : Int64) : entryFrame m #[(.long x0)] maxLocals = mkF m 0 #[jv x0, .second, .unset, .unset, .unset, .unset, .unset, .unset, .unset, .unset, .unset, .unset, .unset, .unset, .unset] [] := by first | (simp [entryFrame, mkF, argsToLocals, Value.category, maxLocals]; done) | rfl
def Q0 (Z : State) (sd : Int64)  (h0 : Heap) (n0 : Nat) (v : Option Value) (h : Heap) (L : List Loc) : Prop := v = some (.int 1) ∧ Fr n0 L
set_option maxRecDepth 65536 in
set_option maxHeartbeats 40000000 in
theorem rm0 (l : Launch) (Z : State) (a0 : Array Value) (hw : ∀ d ∈ tables_1, d.before a0 Z = true) (ws : List Jvm.Cond) (sd : Int64)  (h0 : Heap) (n0 : Nat) (Z0 : n0 ≤ h0.size)  :
    MetFree l x (head1 (Jvm.Cond.code x code maxLocals ret :: ws) room_1) (fun a U => a = #[(.long sd)] ∧ Z.Warmed39 U.vm ∧ U.heap = h0) (fun _ _ _ _ _ => True) (fun _ U o U' => ∃ v L, o = .returned v ∧ Q0 Z sd h0 n0 v U'.heap L ∧ FrameEnd U o U' L 1 1) := by
  refine MetFree.of_bodySF (plainFor_of_name pn_1) hisR ?_
  intro p e s m args below meth c s₁ Bd hml0 hP hK
  obtain ⟨rfl, hZ, hh⟩ := hP
  have hx := Bd.exec
  have hby := Bd.bytes
  have hml : c.maxLocals = 15 := hml0
  have hown : s.vm.findClass "com/example/skerry/skerry/engine/RngNextLongPinLaw" = some m.cls := findClass_of_methodNamed Bd.named
  have hnm := (name_of_methodNamed Bd.named Bd.method).1
  have X0 : Stand p l e room_1 s m #[(.long sd)] below meth c s₁ [] 0 0 := Stand.of_body Bd
  have e0 : s₁.heap = h0 := by rw [← hh, Bd.state]; rfl
  have N0 := Fr.nil n0
  have hlk : meth.locks = false := BodyLoose.notSynchronized Bd
  suffices hwk : Wk p.tables e below (s₁.setTop (mkF m 0 #[jv sd, .second, .unset, .unset, .unset, .unset, .unset, .unset, .unset, .unset, .unset, .unset, .unset, .unset, .unset] [])) (fun U o => U.status = .running ∧ Ended U below o ∧ ∃ v L, o = .returned v ∧ Q0 Z sd h0 n0 v U.heap L ∧ FrameEnd s o U L 1 1) by
    obtain ⟨U, o, k1, k2⟩ := hwk
    exact ⟨U, o, castTop (ef_0 m sd) k1, k2⟩
  refine Wk.go (A' := s₁.setTop (mkF m 3 #[jv sd, .second, .unset, .unset, .unset, .unset, .unset, .unset, .unset, .unset, .unset, .unset, .unset, .unset, .unset] [(.long (-7046029254386353131 : Int64))])) (fun t k => X0.ldc2Long hx hown (mvT hZ (tw0 hw)) (g := (mkF m 0 #[jv sd, .second, .unset, .unset, .unset, .unset, .unset, .unset, .unset, .unset, .unset, .unset, .unset, .unset, .unset] [])) rfl (hb hby at_0) t k) ?_
  refine Wk.go (A' := s₁.setTop (mkF m 4 #[jv sd, .second, jv (-7046029254386353131 : Int64), .second, .unset, .unset, .unset, .unset, .unset, .unset, .unset, .unset, .unset, .unset, .unset] [])) (fun t k => XS.lstoreN X0.here hx rfl (hb hby at_3) rfl (l' := #[jv sd, .second, jv (-7046029254386353131 : Int64), .second, .unset, .unset, .unset, .unset, .unset, .unset, .unset, .unset, .unset, .unset, .unset]) rfl k) ?_
  obtain ⟨T1, h1, X1, e1, E1, A1, D1, -, st1⟩ := newO X0 hx hZ hown (tw1 hw) (tw2 hw) (tw3 hw) e0 (g := (mkF m 4 #[jv sd, .second, jv (-7046029254386353131 : Int64), .second, .unset, .unset, .unset, .unset, .unset, .unset, .unset, .unset, .unset, .unset, .unset] [])) rfl (hb hby at_4) (by decide) (by decide)
  obtain ⟨b1, g1⟩ : ∃ z, z = h0.size := ⟨_, rfl⟩
  rw [← g1] at A1 D1 st1
  have g_b1 : n0 ≤ b1 := Nat.le_trans Z0 (Nat.le_of_eq g1.symm)
  have F_state_b1 : Fld Z h1 b1 "com/example/skerry/skerry/engine/Rng" "state" "J" (.long (0 : Int64)) := D1 (Or.inl (tw11 hw)) (ty := .long) (by decide)
  have Zp1 : n0 ≤ h1.size := Nat.le_trans Z0 E1.1
  refine Wk.go (A' := T1.setTop (mkF m 7 #[jv sd, .second, jv (-7046029254386353131 : Int64), .second, .unset, .unset, .unset, .unset, .unset, .unset, .unset, .unset, .unset, .unset, .unset] [(.ref b1)])) (fun t k => st1 t k) ?_
  refine Wk.go (A' := T1.setTop (mkF m 8 #[jv sd, .second, jv (-7046029254386353131 : Int64), .second, .unset, .unset, .unset, .unset, .unset, .unset, .unset, .unset, .unset, .unset, .unset] [(.ref b1), (.ref b1)])) (fun t k => XS.dup X1.here hx rfl (hb hby at_7) rfl rfl k) ?_
  refine Wk.go (A' := T1.setTop (mkF m 9 #[jv sd, .second, jv (-7046029254386353131 : Int64), .second, .unset, .unset, .unset, .unset, .unset, .unset, .unset, .unset, .unset, .unset, .unset] [(.long sd), (.ref b1), (.ref b1)])) (fun t k => XS.lloadN X1.here hx rfl (hb hby at_8) rfl k) ?_
  obtain ⟨_, _, ⟨T2, L2, k2, n2⟩, -, X2, ⟨Lc2, hQ2, l2, y2, z2⟩, st2⟩ := X1.specialBack hx (y := (⟨"com/example/skerry/skerry/engine/Rng", "<init>", "(J)V"⟩ : MethodName)) rfl hown (mvT hZ (tw4 hw)) (mvT hZ (tw5 hw)) (mvT hZ (tw6 hw)) (by decide) (backOf (W := 1) (rm1 l Z a0 hw [] b1 sd  h1 n0 Zp1 A1 F_state_b1 g_b1 ) hZ (tw6 hw) (tw3 hw) (by decide) (by decide)) (g := (mkF m 9 #[jv sd, .second, jv (-7046029254386353131 : Int64), .second, .unset, .unset, .unset, .unset, .unset, .unset, .unset, .unset, .unset, .unset, .unset] [(.long sd), (.ref b1), (.ref b1)])) rfl (by rw [hml]; rfl) (Steps.refl _) (a := b1) (argsL := [(.long sd)]) (rest := [(.ref b1)]) (lenOf pd_0 rfl) rfl (by show 2 * 0 + _ ≤ _; exact Nat.le_of_eq rfl) (hb hby at_9) (fun _ _ => ⟨rfl, e1, (by decide : 1 + 0 ≤ _), (by decide : 1 + 0 ≤ _)⟩)
  dsimp only [Pt.U, Pt.locs, Pt.cells, Pt.slots] at X2 l2 y2 z2 st2 hQ2
  subst l2 y2 z2
  obtain ⟨rfl, N2q, Kq2, Eq2, Fq2_state⟩ := hQ2
  have N2 := Fr.app N0 N2q
  have f3 := A1.keep Kq2
  have Zp2 : n0 ≤ T2.heap.size := Nat.le_trans Zp1 Kq2.1
  refine Wk.go (A' := T2.setTop (mkF m 12 #[jv sd, .second, jv (-7046029254386353131 : Int64), .second, .unset, .unset, .unset, .unset, .unset, .unset, .unset, .unset, .unset, .unset, .unset] [(.ref b1)])) (fun t k => st2.trans k) ?_
  refine Wk.go (A' := T2.setTop (mkF m 14 #[jv sd, .second, jv (-7046029254386353131 : Int64), .second, rv b1, .unset, .unset, .unset, .unset, .unset, .unset, .unset, .unset, .unset, .unset] [])) (fun t k => XS.astore X2.here hx rfl (hb hby at_12) rfl rfl (l' := #[jv sd, .second, jv (-7046029254386353131 : Int64), .second, rv b1, .unset, .unset, .unset, .unset, .unset, .unset, .unset, .unset, .unset, .unset]) rfl k) ?_
  refine Wk.go (A' := T2.setTop (mkF m 16 #[jv sd, .second, jv (-7046029254386353131 : Int64), .second, rv b1, .unset, .unset, .unset, .unset, .unset, .unset, .unset, .unset, .unset, .unset] [(.ref b1)])) (fun t k => XS.aload X2.here hx rfl (hb hby at_14) rfl rfl k) ?_
  obtain ⟨cq4, kq4, q4a, q4b, q4c⟩ := isOf hZ rfl Eq2
  obtain ⟨_, _, ⟨T4, L4, k4, n4⟩, -, X4, ⟨Lc4, hQ4, l4, y4, z4⟩, st4⟩ := X2.virtualBack hx (y := (⟨"com/example/skerry/skerry/engine/Rng", "nextLong", "()J"⟩ : MethodName)) (z := (⟨"com/example/skerry/skerry/engine/Rng", "nextLong", "()J"⟩ : MethodName)) hown (mvT hZ (tw12 hw)) (mvT hZ (tw13 hw)) (notFace_of_selects (args := #[]) (mvT hZ (tw15 hw))) (mvT hZ (tw15 hw)) (mvT hZ (tw14 hw)) (by decide) (backOf (W := 0) (rm3 l Z a0 hw [] b1 sd T2.heap n0 Zp2 Eq2 Fq2_state g_b1 ) hZ (tw16 hw) (tw3 hw) (by decide) (by decide)) q4a q4c (g := (mkF m 16 #[jv sd, .second, jv (-7046029254386353131 : Int64), .second, rv b1, .unset, .unset, .unset, .unset, .unset, .unset, .unset, .unset, .unset, .unset] [(.ref b1)])) rfl (by rw [hml]; rfl) (Steps.refl _) (argsL := []) (rest := []) (lenOf pd_1 rfl) rfl (by show 2 * 0 + _ ≤ _; exact Nat.le_of_eq rfl) (hb hby at_16) (fun _ _ => ⟨rfl, rfl, (by decide : 1 + 0 ≤ _), (by decide : 1 + 0 ≤ _)⟩)
  dsimp only [Pt.U, Pt.locs, Pt.cells, Pt.slots] at X4 l4 y4 z4 st4 hQ4
  subst l4 y4 z4
  obtain ⟨rfl, N4q, Kq4, Eq4, Fq4_state⟩ := hQ4
  have N4 := Fr.app N2 N4q
  have f5 := Eq2.keep Kq4
  have Zp4 : n0 ≤ T4.heap.size := Nat.le_trans Zp2 Kq4.1
  refine Wk.go (A' := T4.setTop (mkF m 19 #[jv sd, .second, jv (-7046029254386353131 : Int64), .second, rv b1, .unset, .unset, .unset, .unset, .unset, .unset, .unset, .unset, .unset, .unset] [(.long (f_next b1 sd))])) (fun t k => st4.trans k) ?_
  refine Wk.go (A' := T4.setTop (mkF m 21 #[jv sd, .second, jv (-7046029254386353131 : Int64), .second, rv b1, jv (f_next b1 sd), .second, .unset, .unset, .unset, .unset, .unset, .unset, .unset, .unset] [])) (fun t k => XS.lstore X4.here hx rfl (hb hby at_19) rfl (l' := #[jv sd, .second, jv (-7046029254386353131 : Int64), .second, rv b1, jv (f_next b1 sd), .second, .unset, .unset, .unset, .unset, .unset, .unset, .unset, .unset]) rfl k) ?_
  refine Wk.go (A' := T4.setTop (mkF m 23 #[jv sd, .second, jv (-7046029254386353131 : Int64), .second, rv b1, jv (f_next b1 sd), .second, .unset, .unset, .unset, .unset, .unset, .unset, .unset, .unset] [(.ref b1)])) (fun t k => XS.aload X4.here hx rfl (hb hby at_21) rfl rfl k) ?_
  obtain ⟨cq6, kq6, q6a, q6b, q6c⟩ := isOf hZ rfl Eq4
  obtain ⟨_, _, ⟨T6, L6, k6, n6⟩, -, X6, ⟨Lc6, hQ6, l6, y6, z6⟩, st6⟩ := X4.virtualBack hx (y := (⟨"com/example/skerry/skerry/engine/Rng", "state", "()J"⟩ : MethodName)) (z := (⟨"com/example/skerry/skerry/engine/Rng", "state", "()J"⟩ : MethodName)) hown (mvT hZ (tw20 hw)) (mvT hZ (tw21 hw)) (notFace_of_selects (args := #[]) (mvT hZ (tw23 hw))) (mvT hZ (tw23 hw)) (mvT hZ (tw22 hw)) (by decide) (backOf (W := 0) (rm4 l Z a0 hw [] b1 (sd + (-7046029254386353131 : Int64)) T4.heap n0 Zp4 Eq4 Fq4_state ) hZ (tw24 hw) (tw3 hw) (by decide) (by decide)) q6a q6c (g := (mkF m 23 #[jv sd, .second, jv (-7046029254386353131 : Int64), .second, rv b1, jv (f_next b1 sd), .second, .unset, .unset, .unset, .unset, .unset, .unset, .unset, .unset] [(.ref b1)])) rfl (by rw [hml]; rfl) (Steps.refl _) (argsL := []) (rest := []) (lenOf pd_1 rfl) rfl (by show 2 * 0 + _ ≤ _; exact Nat.le_of_eq rfl) (hb hby at_23) (fun _ _ => ⟨rfl, rfl, (by decide : 1 + 0 ≤ _), (by decide : 1 + 0 ≤ _)⟩)
  dsimp only [Pt.U, Pt.locs, Pt.cells, Pt.slots] at X6 l6 y6 z6 st6 hQ6
  subst l6 y6 z6
  obtain ⟨rfl, N6q, hE6⟩ := hQ6
  have N6 := Fr.app N4 N6q
  refine Wk.go (A' := T6.setTop (mkF m 26 #[jv sd, .second, jv (-7046029254386353131 : Int64), .second, rv b1, jv (f_next b1 sd), .second, .unset, .unset, .unset, .unset, .unset, .unset, .unset, .unset] [(.long (f_state b1 (sd + (-7046029254386353131 : Int64))))])) (fun t k => st6.trans k) ?_
  refine Wk.go (A' := T6.setTop (mkF m 28 #[jv sd, .second, jv (-7046029254386353131 : Int64), .second, rv b1, jv (f_next b1 sd), .second, jv (f_state b1 (sd + (-7046029254386353131 : Int64))), .second, .unset, .unset, .unset, .unset, .unset, .unset] [])) (fun t k => XS.lstore X6.here hx rfl (hb hby at_26) rfl (l' := #[jv sd, .second, jv (-7046029254386353131 : Int64), .second, rv b1, jv (f_next b1 sd), .second, jv (f_state b1 (sd + (-7046029254386353131 : Int64))), .second, .unset, .unset, .unset, .unset, .unset, .unset]) rfl k) ?_
  refine Wk.go (A' := T6.setTop (mkF m 30 #[jv sd, .second, jv (-7046029254386353131 : Int64), .second, rv b1, jv (f_next b1 sd), .second, jv (f_state b1 (sd + (-7046029254386353131 : Int64))), .second, .unset, .unset, .unset, .unset, .unset, .unset] [(.ref b1)])) (fun t k => XS.aload X6.here hx rfl (hb hby at_28) rfl rfl k) ?_
  obtain ⟨cq7, kq7, q7a, q7b, q7c⟩ := isOf hZ (hE6) Eq4
  obtain ⟨_, _, ⟨T7, L7, k7, n7⟩, -, X7, ⟨Lc7, hQ7, l7, y7, z7⟩, st7⟩ := X6.virtualBack hx (y := (⟨"com/example/skerry/skerry/engine/Rng", "nextLong", "()J"⟩ : MethodName)) (z := (⟨"com/example/skerry/skerry/engine/Rng", "nextLong", "()J"⟩ : MethodName)) hown (mvT hZ (tw12 hw)) (mvT hZ (tw13 hw)) (notFace_of_selects (args := #[]) (mvT hZ (tw15 hw))) (mvT hZ (tw15 hw)) (mvT hZ (tw14 hw)) (by decide) (backOf (W := 0) (rm3 l Z a0 hw [] b1 (sd + (-7046029254386353131 : Int64)) T4.heap n0 Zp4 Eq4 Fq4_state g_b1 ) hZ (tw16 hw) (tw3 hw) (by decide) (by decide)) q7a q7c (g := (mkF m 30 #[jv sd, .second, jv (-7046029254386353131 : Int64), .second, rv b1, jv (f_next b1 sd), .second, jv (f_state b1 (sd + (-7046029254386353131 : Int64))), .second, .unset, .unset, .unset, .unset, .unset, .unset] [(.ref b1)])) rfl (by rw [hml]; rfl) (Steps.refl _) (argsL := []) (rest := []) (lenOf pd_1 rfl) rfl (by show 2 * 0 + _ ≤ _; exact Nat.le_of_eq rfl) (hb hby at_30) (fun _ _ => ⟨rfl, (hE6), (by decide : 1 + 0 ≤ _), (by decide : 1 + 0 ≤ _)⟩)
  dsimp only [Pt.U, Pt.locs, Pt.cells, Pt.slots] at X7 l7 y7 z7 st7 hQ7
  subst l7 y7 z7
  obtain ⟨rfl, N7q, Kq7, Eq7, Fq7_state⟩ := hQ7
  have N7 := Fr.app N6 N7q
  have f8 := Eq4.keep Kq7
  have Zp7 : n0 ≤ T7.heap.size := Nat.le_trans Zp4 Kq7.1
  refine Wk.go (A' := T7.setTop (mkF m 33 #[jv sd, .second, jv (-7046029254386353131 : Int64), .second, rv b1, jv (f_next b1 sd), .second, jv (f_state b1 (sd + (-7046029254386353131 : Int64))), .second, .unset, .unset, .unset, .unset, .unset, .unset] [(.long (f_next b1 (sd + (-7046029254386353131 : Int64))))])) (fun t k => st7.trans k) ?_
  refine Wk.go (A' := T7.setTop (mkF m 35 #[jv sd, .second, jv (-7046029254386353131 : Int64), .second, rv b1, jv (f_next b1 sd), .second, jv (f_state b1 (sd + (-7046029254386353131 : Int64))), .second, jv (f_next b1 (sd + (-7046029254386353131 : Int64))), .second, .unset, .unset, .unset, .unset] [])) (fun t k => XS.lstore X7.here hx rfl (hb hby at_33) rfl (l' := #[jv sd, .second, jv (-7046029254386353131 : Int64), .second, rv b1, jv (f_next b1 sd), .second, jv (f_state b1 (sd + (-7046029254386353131 : Int64))), .second, jv (f_next b1 (sd + (-7046029254386353131 : Int64))), .second, .unset, .unset, .unset, .unset]) rfl k) ?_
  refine Wk.go (A' := T7.setTop (mkF m 37 #[jv sd, .second, jv (-7046029254386353131 : Int64), .second, rv b1, jv (f_next b1 sd), .second, jv (f_state b1 (sd + (-7046029254386353131 : Int64))), .second, jv (f_next b1 (sd + (-7046029254386353131 : Int64))), .second, .unset, .unset, .unset, .unset] [(.ref b1)])) (fun t k => XS.aload X7.here hx rfl (hb hby at_35) rfl rfl k) ?_
  obtain ⟨cq9, kq9, q9a, q9b, q9c⟩ := isOf hZ rfl Eq7
  obtain ⟨_, _, ⟨T9, L9, k9, n9⟩, -, X9, ⟨Lc9, hQ9, l9, y9, z9⟩, st9⟩ := X7.virtualBack hx (y := (⟨"com/example/skerry/skerry/engine/Rng", "state", "()J"⟩ : MethodName)) (z := (⟨"com/example/skerry/skerry/engine/Rng", "state", "()J"⟩ : MethodName)) hown (mvT hZ (tw20 hw)) (mvT hZ (tw21 hw)) (notFace_of_selects (args := #[]) (mvT hZ (tw23 hw))) (mvT hZ (tw23 hw)) (mvT hZ (tw22 hw)) (by decide) (backOf (W := 0) (rm4 l Z a0 hw [] b1 ((sd + (-7046029254386353131 : Int64)) + (-7046029254386353131 : Int64)) T7.heap n0 Zp7 Eq7 Fq7_state ) hZ (tw24 hw) (tw3 hw) (by decide) (by decide)) q9a q9c (g := (mkF m 37 #[jv sd, .second, jv (-7046029254386353131 : Int64), .second, rv b1, jv (f_next b1 sd), .second, jv (f_state b1 (sd + (-7046029254386353131 : Int64))), .second, jv (f_next b1 (sd + (-7046029254386353131 : Int64))), .second, .unset, .unset, .unset, .unset] [(.ref b1)])) rfl (by rw [hml]; rfl) (Steps.refl _) (argsL := []) (rest := []) (lenOf pd_1 rfl) rfl (by show 2 * 0 + _ ≤ _; exact Nat.le_of_eq rfl) (hb hby at_37) (fun _ _ => ⟨rfl, rfl, (by decide : 1 + 0 ≤ _), (by decide : 1 + 0 ≤ _)⟩)
  dsimp only [Pt.U, Pt.locs, Pt.cells, Pt.slots] at X9 l9 y9 z9 st9 hQ9
  subst l9 y9 z9
  obtain ⟨rfl, N9q, hE9⟩ := hQ9
  have N9 := Fr.app N7 N9q
  refine Wk.go (A' := T9.setTop (mkF m 40 #[jv sd, .second, jv (-7046029254386353131 : Int64), .second, rv b1, jv (f_next b1 sd), .second, jv (f_state b1 (sd + (-7046029254386353131 : Int64))), .second, jv (f_next b1 (sd + (-7046029254386353131 : Int64))), .second, .unset, .unset, .unset, .unset] [(.long (f_state b1 ((sd + (-7046029254386353131 : Int64)) + (-7046029254386353131 : Int64))))])) (fun t k => st9.trans k) ?_
  refine Wk.go (A' := T9.setTop (mkF m 42 #[jv sd, .second, jv (-7046029254386353131 : Int64), .second, rv b1, jv (f_next b1 sd), .second, jv (f_state b1 (sd + (-7046029254386353131 : Int64))), .second, jv (f_next b1 (sd + (-7046029254386353131 : Int64))), .second, jv (f_state b1 ((sd + (-7046029254386353131 : Int64)) + (-7046029254386353131 : Int64))), .second, .unset, .unset] [])) (fun t k => XS.lstore X9.here hx rfl (hb hby at_40) rfl (l' := #[jv sd, .second, jv (-7046029254386353131 : Int64), .second, rv b1, jv (f_next b1 sd), .second, jv (f_state b1 (sd + (-7046029254386353131 : Int64))), .second, jv (f_next b1 (sd + (-7046029254386353131 : Int64))), .second, jv (f_state b1 ((sd + (-7046029254386353131 : Int64)) + (-7046029254386353131 : Int64))), .second, .unset, .unset]) rfl k) ?_
  refine Wk.go (A' := T9.setTop (mkF m 44 #[jv sd, .second, jv (-7046029254386353131 : Int64), .second, rv b1, jv (f_next b1 sd), .second, jv (f_state b1 (sd + (-7046029254386353131 : Int64))), .second, jv (f_next b1 (sd + (-7046029254386353131 : Int64))), .second, jv (f_state b1 ((sd + (-7046029254386353131 : Int64)) + (-7046029254386353131 : Int64))), .second, .unset, .unset] [(.long (f_state b1 (sd + (-7046029254386353131 : Int64))))])) (fun t k => XS.lload X9.here hx rfl (hb hby at_42) rfl k) ?_
  refine Wk.go (A' := T9.setTop (mkF m 45 #[jv sd, .second, jv (-7046029254386353131 : Int64), .second, rv b1, jv (f_next b1 sd), .second, jv (f_state b1 (sd + (-7046029254386353131 : Int64))), .second, jv (f_next b1 (sd + (-7046029254386353131 : Int64))), .second, jv (f_state b1 ((sd + (-7046029254386353131 : Int64)) + (-7046029254386353131 : Int64))), .second, .unset, .unset] [(.long sd), (.long (f_state b1 (sd + (-7046029254386353131 : Int64))))])) (fun t k => XS.lloadN X9.here hx rfl (hb hby at_44) rfl k) ?_
  refine Wk.go (A' := T9.setTop (mkF m 46 #[jv sd, .second, jv (-7046029254386353131 : Int64), .second, rv b1, jv (f_next b1 sd), .second, jv (f_state b1 (sd + (-7046029254386353131 : Int64))), .second, jv (f_next b1 (sd + (-7046029254386353131 : Int64))), .second, jv (f_state b1 ((sd + (-7046029254386353131 : Int64)) + (-7046029254386353131 : Int64))), .second, .unset, .unset] [(.long (-7046029254386353131 : Int64)), (.long sd), (.long (f_state b1 (sd + (-7046029254386353131 : Int64))))])) (fun t k => XS.lloadN X9.here hx rfl (hb hby at_45) rfl k) ?_
  refine Wk.go (A' := T9.setTop (mkF m 47 #[jv sd, .second, jv (-7046029254386353131 : Int64), .second, rv b1, jv (f_next b1 sd), .second, jv (f_state b1 (sd + (-7046029254386353131 : Int64))), .second, jv (f_next b1 (sd + (-7046029254386353131 : Int64))), .second, jv (f_state b1 ((sd + (-7046029254386353131 : Int64)) + (-7046029254386353131 : Int64))), .second, .unset, .unset] [(.long (sd + (-7046029254386353131 : Int64))), (.long (f_state b1 (sd + (-7046029254386353131 : Int64))))])) (fun t k => XS.ladd X9.here hx rfl (hb hby at_46) rfl k) ?_
  refine Wk.go (A' := T9.setTop (mkF m 48 #[jv sd, .second, jv (-7046029254386353131 : Int64), .second, rv b1, jv (f_next b1 sd), .second, jv (f_state b1 (sd + (-7046029254386353131 : Int64))), .second, jv (f_next b1 (sd + (-7046029254386353131 : Int64))), .second, jv (f_state b1 ((sd + (-7046029254386353131 : Int64)) + (-7046029254386353131 : Int64))), .second, .unset, .unset] [(.int (lcmpW (f_state b1 (sd + (-7046029254386353131 : Int64))) (sd + (-7046029254386353131 : Int64))))])) (fun t k => XS.lcmp X9.here hx rfl (hb hby at_47) rfl k) ?_
  have hc48 : (f_state b1 (sd + (-7046029254386353131 : Int64))) = (sd + (-7046029254386353131 : Int64)) := rfl
  refine Wk.go (A' := T9.setTop (mkF m 51 #[jv sd, .second, jv (-7046029254386353131 : Int64), .second, rv b1, jv (f_next b1 sd), .second, jv (f_state b1 (sd + (-7046029254386353131 : Int64))), .second, jv (f_next b1 (sd + (-7046029254386353131 : Int64))), .second, jv (f_state b1 ((sd + (-7046029254386353131 : Int64)) + (-7046029254386353131 : Int64))), .second, .unset, .unset] [])) (fun t k => XS.ifNo X9.here hx rfl (hb hby at_48) rfl ((if0 _ _).trans (teq ((lw_eq _ _).mpr hc48)).2) k) ?_
  refine Wk.go (A' := T9.setTop (mkF m 53 #[jv sd, .second, jv (-7046029254386353131 : Int64), .second, rv b1, jv (f_next b1 sd), .second, jv (f_state b1 (sd + (-7046029254386353131 : Int64))), .second, jv (f_next b1 (sd + (-7046029254386353131 : Int64))), .second, jv (f_state b1 ((sd + (-7046029254386353131 : Int64)) + (-7046029254386353131 : Int64))), .second, .unset, .unset] [(.long (f_state b1 ((sd + (-7046029254386353131 : Int64)) + (-7046029254386353131 : Int64))))])) (fun t k => XS.lload X9.here hx rfl (hb hby at_51) rfl k) ?_
  refine Wk.go (A' := T9.setTop (mkF m 54 #[jv sd, .second, jv (-7046029254386353131 : Int64), .second, rv b1, jv (f_next b1 sd), .second, jv (f_state b1 (sd + (-7046029254386353131 : Int64))), .second, jv (f_next b1 (sd + (-7046029254386353131 : Int64))), .second, jv (f_state b1 ((sd + (-7046029254386353131 : Int64)) + (-7046029254386353131 : Int64))), .second, .unset, .unset] [(.long sd), (.long (f_state b1 ((sd + (-7046029254386353131 : Int64)) + (-7046029254386353131 : Int64))))])) (fun t k => XS.lloadN X9.here hx rfl (hb hby at_53) rfl k) ?_
  refine Wk.go (A' := T9.setTop (mkF m 55 #[jv sd, .second, jv (-7046029254386353131 : Int64), .second, rv b1, jv (f_next b1 sd), .second, jv (f_state b1 (sd + (-7046029254386353131 : Int64))), .second, jv (f_next b1 (sd + (-7046029254386353131 : Int64))), .second, jv (f_state b1 ((sd + (-7046029254386353131 : Int64)) + (-7046029254386353131 : Int64))), .second, .unset, .unset] [(.long (-7046029254386353131 : Int64)), (.long sd), (.long (f_state b1 ((sd + (-7046029254386353131 : Int64)) + (-7046029254386353131 : Int64))))])) (fun t k => XS.lloadN X9.here hx rfl (hb hby at_54) rfl k) ?_
  refine Wk.go (A' := T9.setTop (mkF m 56 #[jv sd, .second, jv (-7046029254386353131 : Int64), .second, rv b1, jv (f_next b1 sd), .second, jv (f_state b1 (sd + (-7046029254386353131 : Int64))), .second, jv (f_next b1 (sd + (-7046029254386353131 : Int64))), .second, jv (f_state b1 ((sd + (-7046029254386353131 : Int64)) + (-7046029254386353131 : Int64))), .second, .unset, .unset] [(.long (sd + (-7046029254386353131 : Int64))), (.long (f_state b1 ((sd + (-7046029254386353131 : Int64)) + (-7046029254386353131 : Int64))))])) (fun t k => XS.ladd X9.here hx rfl (hb hby at_55) rfl k) ?_
  refine Wk.go (A' := T9.setTop (mkF m 57 #[jv sd, .second, jv (-7046029254386353131 : Int64), .second, rv b1, jv (f_next b1 sd), .second, jv (f_state b1 (sd + (-7046029254386353131 : Int64))), .second, jv (f_next b1 (sd + (-7046029254386353131 : Int64))), .second, jv (f_state b1 ((sd + (-7046029254386353131 : Int64)) + (-7046029254386353131 : Int64))), .second, .unset, .unset] [(.long (-7046029254386353131 : Int64)), (.long (sd + (-7046029254386353131 : Int64))), (.long (f_state b1 ((sd + (-7046029254386353131 : Int64)) + (-7046029254386353131 : Int64))))])) (fun t k => XS.lloadN X9.here hx rfl (hb hby at_56) rfl k) ?_
  refine Wk.go (A' := T9.setTop (mkF m 58 #[jv sd, .second, jv (-7046029254386353131 : Int64), .second, rv b1, jv (f_next b1 sd), .second, jv (f_state b1 (sd + (-7046029254386353131 : Int64))), .second, jv (f_next b1 (sd + (-7046029254386353131 : Int64))), .second, jv (f_state b1 ((sd + (-7046029254386353131 : Int64)) + (-7046029254386353131 : Int64))), .second, .unset, .unset] [(.long ((sd + (-7046029254386353131 : Int64)) + (-7046029254386353131 : Int64))), (.long (f_state b1 ((sd + (-7046029254386353131 : Int64)) + (-7046029254386353131 : Int64))))])) (fun t k => XS.ladd X9.here hx rfl (hb hby at_57) rfl k) ?_
  refine Wk.go (A' := T9.setTop (mkF m 59 #[jv sd, .second, jv (-7046029254386353131 : Int64), .second, rv b1, jv (f_next b1 sd), .second, jv (f_state b1 (sd + (-7046029254386353131 : Int64))), .second, jv (f_next b1 (sd + (-7046029254386353131 : Int64))), .second, jv (f_state b1 ((sd + (-7046029254386353131 : Int64)) + (-7046029254386353131 : Int64))), .second, .unset, .unset] [(.int (lcmpW (f_state b1 ((sd + (-7046029254386353131 : Int64)) + (-7046029254386353131 : Int64))) ((sd + (-7046029254386353131 : Int64)) + (-7046029254386353131 : Int64))))])) (fun t k => XS.lcmp X9.here hx rfl (hb hby at_58) rfl k) ?_
  have hc59 : (f_state b1 ((sd + (-7046029254386353131 : Int64)) + (-7046029254386353131 : Int64))) = ((sd + (-7046029254386353131 : Int64)) + (-7046029254386353131 : Int64)) := rfl
  refine Wk.go (A' := T9.setTop (mkF m 62 #[jv sd, .second, jv (-7046029254386353131 : Int64), .second, rv b1, jv (f_next b1 sd), .second, jv (f_state b1 (sd + (-7046029254386353131 : Int64))), .second, jv (f_next b1 (sd + (-7046029254386353131 : Int64))), .second, jv (f_state b1 ((sd + (-7046029254386353131 : Int64)) + (-7046029254386353131 : Int64))), .second, .unset, .unset] [])) (fun t k => XS.ifNo X9.here hx rfl (hb hby at_59) rfl ((if0 _ _).trans (teq ((lw_eq _ _).mpr hc59)).2) k) ?_
  refine Wk.go (A' := T9.setTop (mkF m 63 #[jv sd, .second, jv (-7046029254386353131 : Int64), .second, rv b1, jv (f_next b1 sd), .second, jv (f_state b1 (sd + (-7046029254386353131 : Int64))), .second, jv (f_next b1 (sd + (-7046029254386353131 : Int64))), .second, jv (f_state b1 ((sd + (-7046029254386353131 : Int64)) + (-7046029254386353131 : Int64))), .second, .unset, .unset] [(.int (1 : Int32))])) (fun t k => XS.iconst X9.here hx rfl (hb hby at_62) k) ?_
  refine Wk.go (A' := T9.setTop (mkF m 67 #[jv sd, .second, jv (-7046029254386353131 : Int64), .second, rv b1, jv (f_next b1 sd), .second, jv (f_state b1 (sd + (-7046029254386353131 : Int64))), .second, jv (f_next b1 (sd + (-7046029254386353131 : Int64))), .second, jv (f_state b1 ((sd + (-7046029254386353131 : Int64)) + (-7046029254386353131 : Int64))), .second, .unset, .unset] [(.int (1 : Int32))])) (fun t k => XS.goto X9.here hx rfl (pc0 := 63) (pc' := 67) rfl (hb hby at_63) (by decide) (by decide) k) ?_
  refine Wk.go (A' := T9.setTop (mkF m 69 #[jv sd, .second, jv (-7046029254386353131 : Int64), .second, rv b1, jv (f_next b1 sd), .second, jv (f_state b1 (sd + (-7046029254386353131 : Int64))), .second, jv (f_next b1 (sd + (-7046029254386353131 : Int64))), .second, jv (f_state b1 ((sd + (-7046029254386353131 : Int64)) + (-7046029254386353131 : Int64))), .second, iv (1 : Int32), .unset] [])) (fun t k => XS.istore X9.here hx rfl (hb hby at_67) rfl (l' := #[jv sd, .second, jv (-7046029254386353131 : Int64), .second, rv b1, jv (f_next b1 sd), .second, jv (f_state b1 (sd + (-7046029254386353131 : Int64))), .second, jv (f_next b1 (sd + (-7046029254386353131 : Int64))), .second, jv (f_state b1 ((sd + (-7046029254386353131 : Int64)) + (-7046029254386353131 : Int64))), .second, iv (1 : Int32), .unset]) rfl k) ?_
  refine Wk.go (A' := T9.setTop (mkF m 71 #[jv sd, .second, jv (-7046029254386353131 : Int64), .second, rv b1, jv (f_next b1 sd), .second, jv (f_state b1 (sd + (-7046029254386353131 : Int64))), .second, jv (f_next b1 (sd + (-7046029254386353131 : Int64))), .second, jv (f_state b1 ((sd + (-7046029254386353131 : Int64)) + (-7046029254386353131 : Int64))), .second, iv (1 : Int32), .unset] [(.long (f_next b1 sd))])) (fun t k => XS.lload X9.here hx rfl (hb hby at_69) rfl k) ?_
  obtain ⟨_, _, ⟨T10, L10, k10, n10⟩, -, X10, ⟨Lc10, hQ10, l10, y10, z10⟩, st10⟩ := Jvm.LawKit.callS X9 hx (y := (⟨"com/example/skerry/skerry/engine/RngNextLongPinLaw", "unmix", "(J)J"⟩ : MethodName)) hown (mvT hZ (tw25 hw)) (mvT hZ (tw26 hw)) (mvT hZ (tw27 hw)) (mvT hZ (tw28 hw)) (by decide) (backOf (W := 0) (rm5 l Z a0 hw [] (f_next b1 sd)  T7.heap n0 Zp7 ) hZ (tw28 hw) (tw27 hw) (by decide) (by decide)) (g := (mkF m 71 #[jv sd, .second, jv (-7046029254386353131 : Int64), .second, rv b1, jv (f_next b1 sd), .second, jv (f_state b1 (sd + (-7046029254386353131 : Int64))), .second, jv (f_next b1 (sd + (-7046029254386353131 : Int64))), .second, jv (f_state b1 ((sd + (-7046029254386353131 : Int64)) + (-7046029254386353131 : Int64))), .second, iv (1 : Int32), .unset] [(.long (f_next b1 sd))])) rfl (by rw [hml]; rfl) (argsL := [(.long (f_next b1 sd))]) (rest := []) (lenOf pd_2 rfl) rfl (by show 2 * 0 + _ ≤ _; exact Nat.le_of_eq rfl) (hb hby at_71) (fun _ _ => ⟨rfl, (hE9), (by decide : 1 + 0 ≤ _), (by decide : 1 + 0 ≤ _)⟩)
  dsimp only [Pt.U, Pt.locs, Pt.cells, Pt.slots] at X10 l10 y10 z10 st10 hQ10
  subst l10 y10 z10
  obtain ⟨rfl, N10q, hE10⟩ := hQ10
  have N10 := Fr.app N9 N10q
  refine Wk.go (A' := T10.setTop (mkF m 74 #[jv sd, .second, jv (-7046029254386353131 : Int64), .second, rv b1, jv (f_next b1 sd), .second, jv (f_state b1 (sd + (-7046029254386353131 : Int64))), .second, jv (f_next b1 (sd + (-7046029254386353131 : Int64))), .second, jv (f_state b1 ((sd + (-7046029254386353131 : Int64)) + (-7046029254386353131 : Int64))), .second, iv (1 : Int32), .unset] [(.long (f_unmix (f_next b1 sd)))])) (fun t k => st10 t k) ?_
  refine Wk.go (A' := T10.setTop (mkF m 75 #[jv sd, .second, jv (-7046029254386353131 : Int64), .second, rv b1, jv (f_next b1 sd), .second, jv (f_state b1 (sd + (-7046029254386353131 : Int64))), .second, jv (f_next b1 (sd + (-7046029254386353131 : Int64))), .second, jv (f_state b1 ((sd + (-7046029254386353131 : Int64)) + (-7046029254386353131 : Int64))), .second, iv (1 : Int32), .unset] [(.long sd), (.long (f_unmix (f_next b1 sd)))])) (fun t k => XS.lloadN X10.here hx rfl (hb hby at_74) rfl k) ?_
  refine Wk.go (A' := T10.setTop (mkF m 76 #[jv sd, .second, jv (-7046029254386353131 : Int64), .second, rv b1, jv (f_next b1 sd), .second, jv (f_state b1 (sd + (-7046029254386353131 : Int64))), .second, jv (f_next b1 (sd + (-7046029254386353131 : Int64))), .second, jv (f_state b1 ((sd + (-7046029254386353131 : Int64)) + (-7046029254386353131 : Int64))), .second, iv (1 : Int32), .unset] [(.long (-7046029254386353131 : Int64)), (.long sd), (.long (f_unmix (f_next b1 sd)))])) (fun t k => XS.lloadN X10.here hx rfl (hb hby at_75) rfl k) ?_
  refine Wk.go (A' := T10.setTop (mkF m 77 #[jv sd, .second, jv (-7046029254386353131 : Int64), .second, rv b1, jv (f_next b1 sd), .second, jv (f_state b1 (sd + (-7046029254386353131 : Int64))), .second, jv (f_next b1 (sd + (-7046029254386353131 : Int64))), .second, jv (f_state b1 ((sd + (-7046029254386353131 : Int64)) + (-7046029254386353131 : Int64))), .second, iv (1 : Int32), .unset] [(.long (sd + (-7046029254386353131 : Int64))), (.long (f_unmix (f_next b1 sd)))])) (fun t k => XS.ladd X10.here hx rfl (hb hby at_76) rfl k) ?_
  refine Wk.go (A' := T10.setTop (mkF m 78 #[jv sd, .second, jv (-7046029254386353131 : Int64), .second, rv b1, jv (f_next b1 sd), .second, jv (f_state b1 (sd + (-7046029254386353131 : Int64))), .second, jv (f_next b1 (sd + (-7046029254386353131 : Int64))), .second, jv (f_state b1 ((sd + (-7046029254386353131 : Int64)) + (-7046029254386353131 : Int64))), .second, iv (1 : Int32), .unset] [(.int (lcmpW (f_unmix (f_next b1 sd)) (sd + (-7046029254386353131 : Int64))))])) (fun t k => XS.lcmp X10.here hx rfl (hb hby at_77) rfl k) ?_
  have hc78 : (f_unmix (f_next b1 sd)) = (sd + (-7046029254386353131 : Int64)) := own_mix _ _
  refine Wk.go (A' := T10.setTop (mkF m 81 #[jv sd, .second, jv (-7046029254386353131 : Int64), .second, rv b1, jv (f_next b1 sd), .second, jv (f_state b1 (sd + (-7046029254386353131 : Int64))), .second, jv (f_next b1 (sd + (-7046029254386353131 : Int64))), .second, jv (f_state b1 ((sd + (-7046029254386353131 : Int64)) + (-7046029254386353131 : Int64))), .second, iv (1 : Int32), .unset] [])) (fun t k => XS.ifNo X10.here hx rfl (hb hby at_78) rfl ((if0 _ _).trans (teq ((lw_eq _ _).mpr hc78)).2) k) ?_
  refine Wk.go (A' := T10.setTop (mkF m 83 #[jv sd, .second, jv (-7046029254386353131 : Int64), .second, rv b1, jv (f_next b1 sd), .second, jv (f_state b1 (sd + (-7046029254386353131 : Int64))), .second, jv (f_next b1 (sd + (-7046029254386353131 : Int64))), .second, jv (f_state b1 ((sd + (-7046029254386353131 : Int64)) + (-7046029254386353131 : Int64))), .second, iv (1 : Int32), .unset] [(.long (f_next b1 (sd + (-7046029254386353131 : Int64))))])) (fun t k => XS.lload X10.here hx rfl (hb hby at_81) rfl k) ?_
  obtain ⟨_, _, ⟨T11, L11, k11, n11⟩, -, X11, ⟨Lc11, hQ11, l11, y11, z11⟩, st11⟩ := Jvm.LawKit.callS X10 hx (y := (⟨"com/example/skerry/skerry/engine/RngNextLongPinLaw", "unmix", "(J)J"⟩ : MethodName)) hown (mvT hZ (tw25 hw)) (mvT hZ (tw26 hw)) (mvT hZ (tw27 hw)) (mvT hZ (tw28 hw)) (by decide) (backOf (W := 0) (rm5 l Z a0 hw [] (f_next b1 (sd + (-7046029254386353131 : Int64)))  T7.heap n0 Zp7 ) hZ (tw28 hw) (tw27 hw) (by decide) (by decide)) (g := (mkF m 83 #[jv sd, .second, jv (-7046029254386353131 : Int64), .second, rv b1, jv (f_next b1 sd), .second, jv (f_state b1 (sd + (-7046029254386353131 : Int64))), .second, jv (f_next b1 (sd + (-7046029254386353131 : Int64))), .second, jv (f_state b1 ((sd + (-7046029254386353131 : Int64)) + (-7046029254386353131 : Int64))), .second, iv (1 : Int32), .unset] [(.long (f_next b1 (sd + (-7046029254386353131 : Int64))))])) rfl (by rw [hml]; rfl) (argsL := [(.long (f_next b1 (sd + (-7046029254386353131 : Int64))))]) (rest := []) (lenOf pd_2 rfl) rfl (by show 2 * 0 + _ ≤ _; exact Nat.le_of_eq rfl) (hb hby at_83) (fun _ _ => ⟨rfl, (hE10), (by decide : 1 + 0 ≤ _), (by decide : 1 + 0 ≤ _)⟩)
  dsimp only [Pt.U, Pt.locs, Pt.cells, Pt.slots] at X11 l11 y11 z11 st11 hQ11
  subst l11 y11 z11
  obtain ⟨rfl, N11q, hE11⟩ := hQ11
  have N11 := Fr.app N10 N11q
  refine Wk.go (A' := T11.setTop (mkF m 86 #[jv sd, .second, jv (-7046029254386353131 : Int64), .second, rv b1, jv (f_next b1 sd), .second, jv (f_state b1 (sd + (-7046029254386353131 : Int64))), .second, jv (f_next b1 (sd + (-7046029254386353131 : Int64))), .second, jv (f_state b1 ((sd + (-7046029254386353131 : Int64)) + (-7046029254386353131 : Int64))), .second, iv (1 : Int32), .unset] [(.long (f_unmix (f_next b1 (sd + (-7046029254386353131 : Int64)))))])) (fun t k => st11 t k) ?_
  refine Wk.go (A' := T11.setTop (mkF m 87 #[jv sd, .second, jv (-7046029254386353131 : Int64), .second, rv b1, jv (f_next b1 sd), .second, jv (f_state b1 (sd + (-7046029254386353131 : Int64))), .second, jv (f_next b1 (sd + (-7046029254386353131 : Int64))), .second, jv (f_state b1 ((sd + (-7046029254386353131 : Int64)) + (-7046029254386353131 : Int64))), .second, iv (1 : Int32), .unset] [(.long sd), (.long (f_unmix (f_next b1 (sd + (-7046029254386353131 : Int64)))))])) (fun t k => XS.lloadN X11.here hx rfl (hb hby at_86) rfl k) ?_
  refine Wk.go (A' := T11.setTop (mkF m 88 #[jv sd, .second, jv (-7046029254386353131 : Int64), .second, rv b1, jv (f_next b1 sd), .second, jv (f_state b1 (sd + (-7046029254386353131 : Int64))), .second, jv (f_next b1 (sd + (-7046029254386353131 : Int64))), .second, jv (f_state b1 ((sd + (-7046029254386353131 : Int64)) + (-7046029254386353131 : Int64))), .second, iv (1 : Int32), .unset] [(.long (-7046029254386353131 : Int64)), (.long sd), (.long (f_unmix (f_next b1 (sd + (-7046029254386353131 : Int64)))))])) (fun t k => XS.lloadN X11.here hx rfl (hb hby at_87) rfl k) ?_
  refine Wk.go (A' := T11.setTop (mkF m 89 #[jv sd, .second, jv (-7046029254386353131 : Int64), .second, rv b1, jv (f_next b1 sd), .second, jv (f_state b1 (sd + (-7046029254386353131 : Int64))), .second, jv (f_next b1 (sd + (-7046029254386353131 : Int64))), .second, jv (f_state b1 ((sd + (-7046029254386353131 : Int64)) + (-7046029254386353131 : Int64))), .second, iv (1 : Int32), .unset] [(.long (sd + (-7046029254386353131 : Int64))), (.long (f_unmix (f_next b1 (sd + (-7046029254386353131 : Int64)))))])) (fun t k => XS.ladd X11.here hx rfl (hb hby at_88) rfl k) ?_
  refine Wk.go (A' := T11.setTop (mkF m 90 #[jv sd, .second, jv (-7046029254386353131 : Int64), .second, rv b1, jv (f_next b1 sd), .second, jv (f_state b1 (sd + (-7046029254386353131 : Int64))), .second, jv (f_next b1 (sd + (-7046029254386353131 : Int64))), .second, jv (f_state b1 ((sd + (-7046029254386353131 : Int64)) + (-7046029254386353131 : Int64))), .second, iv (1 : Int32), .unset] [(.long (-7046029254386353131 : Int64)), (.long (sd + (-7046029254386353131 : Int64))), (.long (f_unmix (f_next b1 (sd + (-7046029254386353131 : Int64)))))])) (fun t k => XS.lloadN X11.here hx rfl (hb hby at_89) rfl k) ?_
  refine Wk.go (A' := T11.setTop (mkF m 91 #[jv sd, .second, jv (-7046029254386353131 : Int64), .second, rv b1, jv (f_next b1 sd), .second, jv (f_state b1 (sd + (-7046029254386353131 : Int64))), .second, jv (f_next b1 (sd + (-7046029254386353131 : Int64))), .second, jv (f_state b1 ((sd + (-7046029254386353131 : Int64)) + (-7046029254386353131 : Int64))), .second, iv (1 : Int32), .unset] [(.long ((sd + (-7046029254386353131 : Int64)) + (-7046029254386353131 : Int64))), (.long (f_unmix (f_next b1 (sd + (-7046029254386353131 : Int64)))))])) (fun t k => XS.ladd X11.here hx rfl (hb hby at_90) rfl k) ?_
  refine Wk.go (A' := T11.setTop (mkF m 92 #[jv sd, .second, jv (-7046029254386353131 : Int64), .second, rv b1, jv (f_next b1 sd), .second, jv (f_state b1 (sd + (-7046029254386353131 : Int64))), .second, jv (f_next b1 (sd + (-7046029254386353131 : Int64))), .second, jv (f_state b1 ((sd + (-7046029254386353131 : Int64)) + (-7046029254386353131 : Int64))), .second, iv (1 : Int32), .unset] [(.int (lcmpW (f_unmix (f_next b1 (sd + (-7046029254386353131 : Int64)))) ((sd + (-7046029254386353131 : Int64)) + (-7046029254386353131 : Int64))))])) (fun t k => XS.lcmp X11.here hx rfl (hb hby at_91) rfl k) ?_
  have hc92 : (f_unmix (f_next b1 (sd + (-7046029254386353131 : Int64)))) = ((sd + (-7046029254386353131 : Int64)) + (-7046029254386353131 : Int64)) := own_mix _ _
  refine Wk.go (A' := T11.setTop (mkF m 95 #[jv sd, .second, jv (-7046029254386353131 : Int64), .second, rv b1, jv (f_next b1 sd), .second, jv (f_state b1 (sd + (-7046029254386353131 : Int64))), .second, jv (f_next b1 (sd + (-7046029254386353131 : Int64))), .second, jv (f_state b1 ((sd + (-7046029254386353131 : Int64)) + (-7046029254386353131 : Int64))), .second, iv (1 : Int32), .unset] [])) (fun t k => XS.ifNo X11.here hx rfl (hb hby at_92) rfl ((if0 _ _).trans (teq ((lw_eq _ _).mpr hc92)).2) k) ?_
  refine Wk.go (A' := T11.setTop (mkF m 96 #[jv sd, .second, jv (-7046029254386353131 : Int64), .second, rv b1, jv (f_next b1 sd), .second, jv (f_state b1 (sd + (-7046029254386353131 : Int64))), .second, jv (f_next b1 (sd + (-7046029254386353131 : Int64))), .second, jv (f_state b1 ((sd + (-7046029254386353131 : Int64)) + (-7046029254386353131 : Int64))), .second, iv (1 : Int32), .unset] [(.int (1 : Int32))])) (fun t k => XS.iconst X11.here hx rfl (hb hby at_95) k) ?_
  refine Wk.go (A' := T11.setTop (mkF m 100 #[jv sd, .second, jv (-7046029254386353131 : Int64), .second, rv b1, jv (f_next b1 sd), .second, jv (f_state b1 (sd + (-7046029254386353131 : Int64))), .second, jv (f_next b1 (sd + (-7046029254386353131 : Int64))), .second, jv (f_state b1 ((sd + (-7046029254386353131 : Int64)) + (-7046029254386353131 : Int64))), .second, iv (1 : Int32), .unset] [(.int (1 : Int32))])) (fun t k => XS.goto X11.here hx rfl (pc0 := 96) (pc' := 100) rfl (hb hby at_96) (by decide) (by decide) k) ?_
  refine Wk.go (A' := T11.setTop (mkF m 102 #[jv sd, .second, jv (-7046029254386353131 : Int64), .second, rv b1, jv (f_next b1 sd), .second, jv (f_state b1 (sd + (-7046029254386353131 : Int64))), .second, jv (f_next b1 (sd + (-7046029254386353131 : Int64))), .second, jv (f_state b1 ((sd + (-7046029254386353131 : Int64)) + (-7046029254386353131 : Int64))), .second, iv (1 : Int32), iv (1 : Int32)] [])) (fun t k => XS.istore X11.here hx rfl (hb hby at_100) rfl (l' := #[jv sd, .second, jv (-7046029254386353131 : Int64), .second, rv b1, jv (f_next b1 sd), .second, jv (f_state b1 (sd + (-7046029254386353131 : Int64))), .second, jv (f_next b1 (sd + (-7046029254386353131 : Int64))), .second, jv (f_state b1 ((sd + (-7046029254386353131 : Int64)) + (-7046029254386353131 : Int64))), .second, iv (1 : Int32), iv (1 : Int32)]) rfl k) ?_
  refine Wk.go (A' := T11.setTop (mkF m 104 #[jv sd, .second, jv (-7046029254386353131 : Int64), .second, rv b1, jv (f_next b1 sd), .second, jv (f_state b1 (sd + (-7046029254386353131 : Int64))), .second, jv (f_next b1 (sd + (-7046029254386353131 : Int64))), .second, jv (f_state b1 ((sd + (-7046029254386353131 : Int64)) + (-7046029254386353131 : Int64))), .second, iv (1 : Int32), iv (1 : Int32)] [(.int (1 : Int32))])) (fun t k => XS.iload X11.here hx rfl (hb hby at_102) rfl k) ?_
  have hc104 : ¬ ((1 : Int32) = (0 : Int32)) := by decide
  refine Wk.go (A' := T11.setTop (mkF m 107 #[jv sd, .second, jv (-7046029254386353131 : Int64), .second, rv b1, jv (f_next b1 sd), .second, jv (f_state b1 (sd + (-7046029254386353131 : Int64))), .second, jv (f_next b1 (sd + (-7046029254386353131 : Int64))), .second, jv (f_state b1 ((sd + (-7046029254386353131 : Int64)) + (-7046029254386353131 : Int64))), .second, iv (1 : Int32), iv (1 : Int32)] [])) (fun t k => XS.ifNo X11.here hx rfl (hb hby at_104) rfl ((if0 _ _).trans (feq hc104).1) k) ?_
  refine Wk.go (A' := T11.setTop (mkF m 109 #[jv sd, .second, jv (-7046029254386353131 : Int64), .second, rv b1, jv (f_next b1 sd), .second, jv (f_state b1 (sd + (-7046029254386353131 : Int64))), .second, jv (f_next b1 (sd + (-7046029254386353131 : Int64))), .second, jv (f_state b1 ((sd + (-7046029254386353131 : Int64)) + (-7046029254386353131 : Int64))), .second, iv (1 : Int32), iv (1 : Int32)] [(.int (1 : Int32))])) (fun t k => XS.iload X11.here hx rfl (hb hby at_107) rfl k) ?_
  have hc109 : ¬ ((1 : Int32) = (0 : Int32)) := by decide
  refine Wk.go (A' := T11.setTop (mkF m 112 #[jv sd, .second, jv (-7046029254386353131 : Int64), .second, rv b1, jv (f_next b1 sd), .second, jv (f_state b1 (sd + (-7046029254386353131 : Int64))), .second, jv (f_next b1 (sd + (-7046029254386353131 : Int64))), .second, jv (f_state b1 ((sd + (-7046029254386353131 : Int64)) + (-7046029254386353131 : Int64))), .second, iv (1 : Int32), iv (1 : Int32)] [])) (fun t k => XS.ifNo X11.here hx rfl (hb hby at_109) rfl ((if0 _ _).trans (feq hc109).1) k) ?_
  refine Wk.go (A' := T11.setTop (mkF m 113 #[jv sd, .second, jv (-7046029254386353131 : Int64), .second, rv b1, jv (f_next b1 sd), .second, jv (f_state b1 (sd + (-7046029254386353131 : Int64))), .second, jv (f_next b1 (sd + (-7046029254386353131 : Int64))), .second, jv (f_state b1 ((sd + (-7046029254386353131 : Int64)) + (-7046029254386353131 : Int64))), .second, iv (1 : Int32), iv (1 : Int32)] [(.int (1 : Int32))])) (fun t k => XS.iconst X11.here hx rfl (hb hby at_112) k) ?_
  refine Wk.go (A' := T11.setTop (mkF m 117 #[jv sd, .second, jv (-7046029254386353131 : Int64), .second, rv b1, jv (f_next b1 sd), .second, jv (f_state b1 (sd + (-7046029254386353131 : Int64))), .second, jv (f_next b1 (sd + (-7046029254386353131 : Int64))), .second, jv (f_state b1 ((sd + (-7046029254386353131 : Int64)) + (-7046029254386353131 : Int64))), .second, iv (1 : Int32), iv (1 : Int32)] [(.int (1 : Int32))])) (fun t k => XS.goto X11.here hx rfl (pc0 := 113) (pc' := 117) rfl (hb hby at_113) (by decide) (by decide) k) ?_
  refine own_fin (Qv := Q0 Z sd h0 n0) (v := some (.int (1 : Int32))) X11 hlk (fun h => by rw [Bd.returns] at h; cases h) (fun fs hr => retN X11 hx (t := .boolean) Bd.returns (by simp) (hb hby at_117) hr) ?_ (by decide) (by decide)
  exact ⟨rfl, N11⟩
set_option maxRecDepth 65536 in
set_option maxHeartbeats 40000000 in
theorem comes_1 {Post : Tables → Env → Array Value → State → Outcome → State → Prop} (hpost : ∀ tb e args s v u, (limb_1_1.after args s (.returned v) u = true ∧ limb_1_2.after args s (.returned v) u = true ∧ True) → FrameEnd s (.returned v) u (Jvm.fieldLocs frame_1_writes args s ++ Jvm.arrayLocs frame_1_arrays args s ++ Jvm.staticLocs frame_1_statics s) 16 128 → Post tb e args s (.returned v) u) :
    ArmFor flags0 classFile x code maxLocals ret World_1 tables_1 room_1 Calls_1 rest_1 Pre_1 Post := by
  intro l hfl _ _ p e ha hc hk s m args below hf hA hF happ hP
  obtain ⟨hcalls, hrest, hpre⟩ := hP
  obtain ⟨-, -, -, hnamed, -, -, -, hat⟩ := (Spec.applies_iff hf).mp happ
  obtain ⟨hg, hn⟩ := and_e (Cond.before_iff.mp (show (Jvm.Cond.and given_1 narrow_1).before args s = true from hpre))
  obtain ⟨hcnt, g0⟩ := and_e hg
  obtain ⟨w0, rfl⟩ : ∃ w0 : Value, args = #[w0] := by
    have hs : args.size = 1 := by simpa [Cond.value, given_1] using hcnt
    obtain ⟨L⟩ := args
    match L, hs with
    | [w0], _ => exact ⟨w0, rfl⟩
  have hw := fun d (hd : d ∈ tables_1) => atoms_spec (ws := Jvm.Cond.code x code maxLocals ret :: tables_1) hat d (List.mem_cons_of_mem _ hd)
  obtain ⟨i0, ei0⟩ := isL_v g0
  obtain rfl : w0 = (.long i0) := Option.some.inj ei0
  obtain ⟨n, o, h1, h2, h3, _, L, rfl, ⟨rfl, N⟩, hq⟩ := rm0 l s _ hw tables_1 i0  s.heap s.heap.size (Nat.le_refl _)  p e ha hc hk s m _ below hf ((Spec.applies_iff_loose hf).mp happ).1 ⟨rfl, State.Warmed39.refl s, rfl⟩ trivial
  refine ⟨n, _, h1, h2, h3, hpost _ _ _ _ _ _ ⟨Cond.after_iff.mpr rfl, Cond.after_iff.mpr (eq_i res_at (Term.int_eval (1)) rfl), trivial⟩ ⟨hq.1, hq.2.1, (hq.2.2.sift fun y hy => Or.inr (N y hy)).mono (by decide) (by decide)⟩⟩
theorem main_1_1 : Claimed_1_1 := comes_1 fun _ _ _ _ _ _ h hF => ⟨h.1, hF⟩
theorem main_1_2 : Claimed_1_2 := comes_1 fun _ _ _ _ _ _ h hF => ⟨h.2.1, hF⟩
end Jvm.Pilot.@@N@@
namespace Jvm.Pilot.@@N@@
open Jvm Jvm.ClassFile Sem Op Lib Jvm.Free Jvm.Stand Jvm.Pilot.@@N@@.Jvm.D
/-! MADE BY PROGRAM (witnessworld.py) out of the Statement's table words and the real class files: 7 classes; the members and pool entries that the words name. The judged class is class 1, her method 2. -/
namespace start1
open Jvm.ClassFile
def u (s : String) : CpInfo := .utf8 (stringToUtf16 s)
/-- a pool by its gaps: so many unusable entries, then the entry; so many at the end -/
def gap : Nat → List CpInfo → List CpInfo
  | 0, r => r
  | n + 1, r => .unusable :: gap n r
def poolList (es : List (Nat × CpInfo)) (last : Nat) : List CpInfo := es.foldr (fun e r => gap e.1 (e.2 :: r)) (gap last [])
def pool (es : List (Nat × CpInfo)) (last : Nat) : Array CpInfo := ⟨poolList es last⟩
def fileOf (pool : Array CpInfo) (this : Nat) (attrs : Array Attribute := #[]) (ms : Array MethodInfo := #[]) (fl : Nat := 33) (sup : Nat := 0) (ifs : Array Nat := #[]) (fds : Array FieldInfo := #[]) : ClassFile where
  minorVersion := 0
  majorVersion := 65
  constantPool := pool
  accessFlags := fl
  thisClass := this
  superClass := sup
  interfaces := ifs
  fields := fds
  methods := ms
  attributes := attrs
def plain (name : String) (sup : Option ClassId) : Class where
  name := name
  kind := .ordinary
  loader := none
  accessFlags := 33
  super := sup
  interfaces := #[]
  cf := none
  fields := #[]
  methods := #[]
  instanceTypes := #[]
  staticTypes := #[]
  resolved := #[]
  callSites := []
  init := .initialized
  statics := none
  mirror := none

def pool0 : Array CpInfo := pool [(5, u "<init>"), (0, u "()V"), (1, .class_ 10), (1, u "java/lang/Object")] 113

def k0c0 : Code := { maxStack := 0, maxLocals := 1, code := object_method_1_code, exceptionTable := #[], attributes := #[] }
def k0m0 : Method := { name := "<init>", desc := "()V", sig := { parameters := [], returnType := none }, accessFlags := 1, code := some k0c0 }
/-- java/lang/Object -/
def k0 : Class := { plain "java/lang/Object" none with
  accessFlags := 33
  interfaces := #[]
  cf := some (fileOf pool0 8 #[] #[{ accessFlags := 1, nameIndex := 5, descriptorIndex := 6, attributes := #[] }] 33 0 #[] #[])
  fields := #[]
  methods := #[k0m0]
  instanceTypes := #[]
  staticTypes := #[]
  resolved := Array.replicate 124 none
  statics := none }

def pool1 : Array CpInfo := pool [(2, .class_ 4), (1, u "java/lang/Object"), (0, u "<init>"), (0, u "()V"), (0, .long 3573116690164977347), (1, .long 10871156337175269513), (1, .long 11400714819323198485), (1, .class_ 14), (0, u "com/example/skerry/skerry/engine/Rng"), (0, .methodref 13 16), (0, .nameAndType 5 17), (0, u "(J)V"), (0, .methodref 13 19), (0, .nameAndType 20 21), (0, u "nextLong"), (0, u "()J"), (0, .methodref 13 23), (0, .nameAndType 24 21), (0, u "state"), (0, .methodref 26 27), (0, .class_ 28), (0, .nameAndType 29 30), (0, u "com/example/skerry/skerry/engine/RngNextLongPinLaw"), (0, u "unmix"), (0, u "(J)J"), (2, u "law"), (0, u "(J)Z")] 3

def k1m0 : Method := { name := "<init>", desc := "()V", sig := { parameters := [], returnType := none }, accessFlags := 1, code := none }
def k1c1 : Code := { maxStack := 5, maxLocals := 2, code := method_2_code, exceptionTable := #[], attributes := #[] }
def k1m1 : Method := { name := "unmix", desc := "(J)J", sig := { parameters := [.long], returnType := some .long }, accessFlags := 10, code := some k1c1 }
def k1c2 : Code := { maxStack := 6, maxLocals := 15, code := code, exceptionTable := #[], attributes := #[] }
def k1m2 : Method := { name := "law", desc := "(J)Z", sig := { parameters := [.long], returnType := some .boolean }, accessFlags := 9, code := some k1c2 }
/-- com/example/skerry/skerry/engine/RngNextLongPinLaw -/
def k1 : Class := { plain "com/example/skerry/skerry/engine/RngNextLongPinLaw" (some 0) with
  accessFlags := 49
  interfaces := #[]
  cf := some (fileOf pool1 26 #[] #[{ accessFlags := 1, nameIndex := 5, descriptorIndex := 6, attributes := #[] }, { accessFlags := 10, nameIndex := 29, descriptorIndex := 30, attributes := #[] }, { accessFlags := 9, nameIndex := 33, descriptorIndex := 34, attributes := #[] }] 49 2 #[] #[])
  fields := #[]
  methods := #[k1m0, k1m1, k1m2]
  instanceTypes := #[]
  staticTypes := #[]
  resolved := Array.replicate 38 none
  statics := none }

def pool2 : Array CpInfo := pool [(1, .methodref 2 3), (0, .class_ 4), (0, .nameAndType 5 6), (0, u "java/lang/Object"), (0, u "<init>"), (0, u "()V"), (0, .fieldref 8 9), (0, .class_ 10), (0, .nameAndType 11 12), (0, u "com/example/skerry/skerry/engine/Rng"), (0, u "state"), (0, u "J"), (0, .long 11400714819323198485), (1, .long 13787848793156543929), (1, .long 10723151780598845931), (3, u "nextLong"), (12, u "()J"), (18, u "STEP"), (1, u "(J)V")] 27

def k2c0 : Code := { maxStack := 3, maxLocals := 3, code := prog_7_method_1_code, exceptionTable := #[], attributes := #[] }
def k2m0 : Method := { name := "<init>", desc := "(J)V", sig := { parameters := [.long], returnType := none }, accessFlags := 1, code := some k2c0 }
def k2c1 : Code := { maxStack := 2, maxLocals := 1, code := prog_7_method_2_code, exceptionTable := #[], attributes := #[] }
def k2m1 : Method := { name := "state", desc := "()J", sig := { parameters := [], returnType := some .long }, accessFlags := 1, code := some k2c1 }
def k2c2 : Code := { maxStack := 5, maxLocals := 3, code := prog_7_method_3_code, exceptionTable := #[], attributes := #[] }
def k2m2 : Method := { name := "nextLong", desc := "()J", sig := { parameters := [], returnType := some .long }, accessFlags := 1, code := some k2c2 }
/-- com/example/skerry/skerry/engine/Rng -/
def k2 : Class := { plain "com/example/skerry/skerry/engine/Rng" (some 0) with
  accessFlags := 49
  interfaces := #[]
  cf := some (fileOf pool2 8 #[] #[{ accessFlags := 1, nameIndex := 5, descriptorIndex := 55, attributes := #[] }, { accessFlags := 1, nameIndex := 11, descriptorIndex := 34, attributes := #[] }, { accessFlags := 1, nameIndex := 21, descriptorIndex := 34, attributes := #[] }] 49 2 #[] #[{ accessFlags := 26, nameIndex := 53, descriptorIndex := 12, attributes := #[] }, { accessFlags := 2, nameIndex := 11, descriptorIndex := 12, attributes := #[] }])
  fields := #[{ name := "STEP", type := .long, accessFlags := 26, slot := 0, constantValue := 0 }, { name := "state", type := .long, accessFlags := 2, slot := 0, constantValue := 0 }]
  methods := #[k2m0, k2m1, k2m2]
  instanceTypes := #[.long]
  staticTypes := #[.long]
  resolved := Array.replicate 83 none
  statics := none }

def pool3 : Array CpInfo := pool [(1, u "java/lang/Cloneable"), (0, .class_ 1), (0, u "java/lang/Object"), (0, .class_ 3)] 3

/-- java/lang/Cloneable -/
def k3 : Class := { plain "java/lang/Cloneable" (some 0) with
  accessFlags := 1537
  interfaces := #[]
  cf := some (fileOf pool3 2 #[] #[] 1537 4 #[] #[])
  fields := #[]
  methods := #[]
  instanceTypes := #[]
  staticTypes := #[]
  resolved := Array.replicate 8 none
  statics := none }

def pool4 : Array CpInfo := pool [(1, u "java/io/Serializable"), (0, .class_ 1), (0, u "java/lang/Object"), (0, .class_ 3)] 3

/-- java/io/Serializable -/
def k4 : Class := { plain "java/io/Serializable" (some 0) with
  accessFlags := 1537
  interfaces := #[]
  cf := some (fileOf pool4 2 #[] #[] 1537 4 #[] #[])
  fields := #[]
  methods := #[]
  instanceTypes := #[]
  staticTypes := #[]
  resolved := Array.replicate 8 none
  statics := none }

/-- the primitive byte -/
def k5 : Class := { plain "byte" none with kind := .primitive 'B', accessFlags := 0x411 }
/-- [B -/
def k6 : Class := { plain "[B" (some 0) with kind := .array 5 .byte, interfaces := #[3, 4], accessFlags := 1041 }

def heap : Heap := #[]
def classes : Array Class := #[k0, k1, k2, k3, k4, k5, k6]
def interned : List (Array UInt16 × Addr) := []
def slotsUsed : Nat := 0
def theMethod : MethodId := ⟨1, 2⟩
def args0 : Array Value := #[.long 5]
def aboutOver (below : List Frame) : State where
  vm := { classes := classes, interned := interned.toArray }
  heap := heap
  slotsUsed := slotsUsed
  threads := #[{ frames := .invoking theMethod args0 :: below }]
def below0 : List Frame := [.native { method := ⟨0, 0⟩, args := #[] }]
def about1 : State := aboutOver below0
def p0 : Program := .bare "" "" ""
def e0 : Env := launch0.env 0 0 0
theorem w_frames : about1.frames = Frame.invoking theMethod args0 :: below0 := rfl
set_option maxRecDepth 65536 in
theorem w_args : argsFit about1.vm theMethod args0 = true := by decide +kernel
set_option maxRecDepth 65536 in
theorem w_heap : heapFits about1 = true := by decide +kernel
set_option maxRecDepth 65536 in
theorem w_runnable : about1.curStatus? = some .runnable := by decide +kernel
set_option maxRecDepth 65536 in
theorem w_alone : about1.alone = true := by decide +kernel
set_option maxRecDepth 65536 in
theorem w_named : about1.methodNamed? x = some theMethod := by decide +kernel
set_option maxRecDepth 65536 in
theorem w_hears : about1.hears theMethod below0 = true := by decide +kernel
set_option maxRecDepth 65536 in
theorem w_ripe : about1.ripe theMethod args0 below0 = true := by decide +kernel
theorem w_running : about1.status = .running := rfl
set_option maxRecDepth 65536 in
theorem w_room : about1.hasRoom e0.platform room_1 = true :=
  launch0.hasRoom_least _ room_1 (by decide +kernel) (by decide +kernel) (by decide +kernel) (by decide +kernel) (by decide +kernel) (by decide +kernel)
theorem allAtoms_all (ts : List Jvm.Cond) (a : Array Jvm.Value) (st : Jvm.State) : (allAtoms ts).before a st = ts.all (fun c => c.before a st) := by
  induction ts with
  | nil => rfl
  | cons c t ih =>
    show (Jvm.Cond.and c (allAtoms t)).before a st = _
    rw [Jvm.Cond.before_and, ih, List.all_cons]
def words1 : List Jvm.Cond := Jvm.Cond.code x code maxLocals ret :: tables_1
/-- a 'code' word, met by the world's own term for the bytes: nothing is compared byte by byte -/
theorem code_word {y : MethodName} {bytes : ByteArray} {mx : Nat} {rt : Option FieldType} {a : Array Value} {s : State} {m : MethodId} {meth : Method} {c : Code} (h1 : s.methodNamed? y = some m) (h2 : s.vm.method? m = some meth) (h3 : meth.code = some c) (h4 : c.code = bytes)
    (h5 : (c.maxLocals == mx && c.exceptionTable.isEmpty && decide (c.maxStack ≤ mostOperands) && decide (meth.sig.returnType = rt) && !meth.locks && decide (parseMethodDescriptor y.desc = some meth.sig)) = true) : (Jvm.Cond.code y bytes mx rt).before a s = true := by
  simp only [Bool.and_eq_true, beq_iff_eq, Bool.not_eq_true', decide_eq_true_eq] at h5
  obtain ⟨⟨⟨⟨⟨g1, g2⟩, g3⟩, g4⟩, g5⟩, g6⟩ := h5
  simp [Cond.before, Cond.holds, Cond.value, h1, h2, h3, h4, g1, g2, g3, g4, g5, g6]
def isCode : Jvm.Cond → Bool
  | .code _ _ _ _ => true
  | _ => false
theorem all_split {L : List Jvm.Cond} {P : Jvm.Cond → Bool} (h1 : L.all (fun c => isCode c || P c) = true) (h2 : ∀ c ∈ L.filter isCode, P c = true) : L.all P = true := by
  refine List.all_eq_true.mpr fun c hc => ?_
  have h := List.all_eq_true.mp h1 c hc
  rcases Bool.eq_false_or_eq_true (isCode c) with hi | hi
  · exact h2 c (List.mem_filter.mpr ⟨hc, hi⟩)
  · simpa [hi] using h
set_option maxRecDepth 65536 in
theorem w_c0 : (Jvm.Cond.code x code maxLocals ret).before args0 about1 = true := code_word (m := ⟨1, 2⟩) (meth := k1m2) (c := k1c2) (by decide +kernel) rfl rfl rfl (by decide +kernel)
set_option maxRecDepth 65536 in
theorem w_c1 : (Jvm.Cond.code ({ cls := "com/example/skerry/skerry/engine/Rng", name := "<init>", desc := "(J)V" } : Jvm.MethodName) prog_7_method_1_code (3 : Nat) (Option.none : Option Jvm.ClassFile.FieldType)).before args0 about1 = true := code_word (m := ⟨2, 0⟩) (meth := k2m0) (c := k2c0) (by decide +kernel) rfl rfl rfl (by decide +kernel)
set_option maxRecDepth 65536 in
theorem w_c2 : (Jvm.Cond.code ({ cls := "java/lang/Object", name := "<init>", desc := "()V" } : Jvm.MethodName) object_method_1_code (1 : Nat) (Option.none : Option Jvm.ClassFile.FieldType)).before args0 about1 = true := code_word (m := ⟨0, 0⟩) (meth := k0m0) (c := k0c0) (by decide +kernel) rfl rfl rfl (by decide +kernel)
set_option maxRecDepth 65536 in
theorem w_c3 : (Jvm.Cond.code ({ cls := "com/example/skerry/skerry/engine/Rng", name := "nextLong", desc := "()J" } : Jvm.MethodName) prog_7_method_3_code (3 : Nat) (Option.some Jvm.ClassFile.FieldType.long)).before args0 about1 = true := code_word (m := ⟨2, 2⟩) (meth := k2m2) (c := k2c2) (by decide +kernel) rfl rfl rfl (by decide +kernel)
set_option maxRecDepth 65536 in
theorem w_c4 : (Jvm.Cond.code ({ cls := "com/example/skerry/skerry/engine/Rng", name := "state", desc := "()J" } : Jvm.MethodName) prog_7_method_2_code (1 : Nat) (Option.some Jvm.ClassFile.FieldType.long)).before args0 about1 = true := code_word (m := ⟨2, 1⟩) (meth := k2m1) (c := k2c1) (by decide +kernel) rfl rfl rfl (by decide +kernel)
set_option maxRecDepth 65536 in
theorem w_c5 : (Jvm.Cond.code ({ cls := "com/example/skerry/skerry/engine/RngNextLongPinLaw", name := "unmix", desc := "(J)J" } : Jvm.MethodName) method_2_code (2 : Nat) (Option.some Jvm.ClassFile.FieldType.long)).before args0 about1 = true := code_word (m := ⟨1, 1⟩) (meth := k1m1) (c := k1c1) (by decide +kernel) rfl rfl rfl (by decide +kernel)
def codes1 : List Jvm.Cond := [Jvm.Cond.code x code maxLocals ret, Jvm.Cond.code ({ cls := "com/example/skerry/skerry/engine/Rng", name := "<init>", desc := "(J)V" } : Jvm.MethodName) prog_7_method_1_code (3 : Nat) (Option.none : Option Jvm.ClassFile.FieldType), Jvm.Cond.code ({ cls := "java/lang/Object", name := "<init>", desc := "()V" } : Jvm.MethodName) object_method_1_code (1 : Nat) (Option.none : Option Jvm.ClassFile.FieldType), Jvm.Cond.code ({ cls := "com/example/skerry/skerry/engine/Rng", name := "nextLong", desc := "()J" } : Jvm.MethodName) prog_7_method_3_code (3 : Nat) (Option.some Jvm.ClassFile.FieldType.long), Jvm.Cond.code ({ cls := "com/example/skerry/skerry/engine/Rng", name := "state", desc := "()J" } : Jvm.MethodName) prog_7_method_2_code (1 : Nat) (Option.some Jvm.ClassFile.FieldType.long), Jvm.Cond.code ({ cls := "com/example/skerry/skerry/engine/RngNextLongPinLaw", name := "unmix", desc := "(J)J" } : Jvm.MethodName) method_2_code (2 : Nat) (Option.some Jvm.ClassFile.FieldType.long)]
set_option maxRecDepth 65536 in
theorem codes_eq : words1.filter isCode = codes1 := rfl
theorem w_codes : ∀ c ∈ words1.filter isCode, c.before args0 about1 = true := by
  rw [codes_eq]
  intro c hc
  simp only [codes1, List.mem_cons, List.not_mem_nil, or_false] at hc
  rcases hc with rfl | rfl | rfl | rfl | rfl | rfl
  · exact w_c0
  · exact w_c1
  · exact w_c2
  · exact w_c3
  · exact w_c4
  · exact w_c5
set_option maxRecDepth 65536 in
theorem w_t1 : (words1.take 24).all (fun c => isCode c || c.before args0 about1) = true := by decide +kernel
set_option maxRecDepth 65536 in
theorem w_t2 : (words1.drop 24).all (fun c => isCode c || c.before args0 about1) = true := by decide +kernel
theorem w_tables : (allAtoms (Jvm.Cond.code x code maxLocals ret :: tables_1)).before args0 about1 = true := by
  rw [allAtoms_all]
  show words1.all (fun c => c.before args0 about1) = true
  refine all_split ?_ w_codes
  rw [← List.take_append_drop 24 words1, List.all_append, w_t1, w_t2]
  rfl
set_option maxRecDepth 65536 in
theorem w_case : (Jvm.Cond.and given_1 narrow_1).before args0 about1 = true := by decide +kernel
theorem w_applies : (headSpec (Jvm.Cond.code x code maxLocals ret :: tables_1) room_1).applies x e0.platform about1 = true :=
  (Spec.applies_iff w_frames).mpr ⟨w_running, w_runnable, w_alone, w_named, w_hears, w_ripe, w_room, w_tables⟩
theorem atStart : AtStart classFile x code maxLocals ret World_1 tables_1 room_1 Calls_1 rest_1 Pre_1 launch0 p0 e0 about1 theMethod args0 below0 :=
  ⟨lists_1, trivial, launch0.admits_env _ _ _, launch0.least_env, fairChoices_fair.cas, fairChoices_fair.clock, w_frames, w_args, w_heap, w_applies, trivial, trivial, w_case⟩
end start1
theorem witness_1 : WitnessClaimed_1 := ⟨start1.p0, start1.e0, start1.about1, start1.theMethod, start1.args0, start1.below0, start1.atStart⟩
end Jvm.Pilot.@@N@@
