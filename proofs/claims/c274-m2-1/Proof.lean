import JvmDerived
import JvmDerived.Pilot.@@N@@Statement
import JvmDerived.Pilot.@@N@@Code
set_option linter.unusedVariables false
set_option linter.unusedSimpArgs false
namespace Jvm.RoadKit
open Sem ClassFile Op Lib Jvm.Stand Jvm.Free Jvm.LawKit
section New
variable {p : Program} {l : Launch} {e : Env} {R : Room} {s : State} {m : MethodId} {args : Array Value} {below : List Frame} {meth : Method} {c : Code} {T : State} {locs : List Loc} {cells slots : Nat}
theorem retI (X : Stand p l e R s m args below meth c T locs cells slots) (hx : p.tables.exec = Jvm.exec) {pc : Nat} {Ls : Array Slot} {z : Int32} {rest : List Value} (hret : meth.sig.returnType = some .int) (hd : decode c.code pc = .ok (.ireturn, 1)) {fs : List Frame}
    (hl : ∀ (f : JFrame) (acts : List Action), f.method = m → f.locked = none → f.entered = [] → (doReturn e (T.setTop f) acts (some (.int z))).1 = T.setFrames fs) : Steps p.tables e below (T.setTop (mkF m pc Ls (.int z :: rest))) (T.setFrames fs) := by
  have hm' : T.vm.method? m = some meth := X.method'
  have hn : narrow .int (.int z) = .int z := rfl
  show Steps p.tables e below (T.setTop { method := m, pc := pc, locals := Ls, stack := _ :: rest, locked := none }) _
  jvm_step X.here [X.here.top, hx, hd, hm', hret, hn]
  first | (intro acts; rw [hl _ acts rfl rfl rfl]) | rw [hl _ _ rfl rfl rfl]
  exact Steps.refl _
abbrev jv (x : Int64) : Slot := .val (.long x)
/-- from A the run goes on to an end of which R holds -/
def Wk (tb : Tables) (e : Env) (below : List Frame) (A : State) (R : State → Outcome → Prop) : Prop := ∃ U o, Steps tb e below A U ∧ R U o
theorem Wk.go {tb : Tables} {A A' : State} {R : State → Outcome → Prop} (h : ∀ t, Steps tb e below A' t → Steps tb e below A t) (k : Wk tb e below A' R) : Wk tb e below A R := by
  obtain ⟨U, o, k1, k2⟩ := k
  exact ⟨U, o, h _ k1, k2⟩
/-- the two ways from A to A' meet there -/
theorem own_fin (X : Stand p l e R s m args below meth c T locs cells slots) {Qv : Option Value → Heap → List Loc → Prop} {v : Option Value} {g : JFrame} {C S : Nat} (hlocks : meth.locks = false) (hv : meth.sig.returnType = none → v = none)
    (hst : ∀ fs, (∀ (f : JFrame) (acts : List Action), f.method = m → f.locked = none → f.entered = [] → (doReturn e (T.setTop f) acts v).1 = T.setFrames fs) → Steps p.tables e below (T.setTop g) (T.setFrames fs))
    (hQ : Qv v T.heap locs) (hc : cells ≤ C) (hs : slots ≤ S) :
    Wk p.tables e below (T.setTop g) (fun U o => U.status = .running ∧ Ended U below o ∧ ∃ v L, o = .returned v ∧ Qv v U.heap L ∧ FrameEnd s o U L C S) := by
  obtain ⟨fs, hr, hrun, hended, hW, hsame⟩ := X.leave (v := v) hv hlocks
  exact ⟨_, _, hst fs hr, hrun, hended, _, _, rfl, hQ, ⟨_, rfl⟩, hW, hsame.mono hc hs⟩
end New
end Jvm.RoadKit
namespace Jvm.Pilot.@@N@@
open Jvm Jvm.ClassFile Sem Op Lib Jvm.Free Jvm.Stand Jvm.LawKit Jvm.RoadKit Bundle Jvm.Pilot.@@N@@.Jvm.D
def own_m1 (z : Int64) : Int64 := ((z ^^^ ((z.toUInt64 >>> ((30 : Int32) &&& 0x3f).toInt64.toUInt64).toInt64)) * (-4658895280553007687 : Int64))
def own_m2 (z : Int64) : Int64 := ((z ^^^ ((z.toUInt64 >>> ((27 : Int32) &&& 0x3f).toInt64.toUInt64).toInt64)) * (-7723592293110705685 : Int64))
def own_m3 (z : Int64) : Int64 := (z ^^^ ((z.toUInt64 >>> ((31 : Int32) &&& 0x3f).toInt64.toUInt64).toInt64))
theorem d1_0 : decode prog_7_method_1_code 0 = .ok (.aload_n 0, 1) := by decide +kernel
theorem tw7 {Z : State} {a0 : Array Value} (hw : ∀ d ∈ tables_1, d.before a0 Z = true) : (Jvm.Cond.methodLink "com/example/skerry/skerry/engine/Rng" (1 : Nat) ({ cls := "java/lang/Object", name := "<init>", desc := "()V" } : Jvm.MethodName)).before a0 Z = true := hw _ (List.mem_of_getElem? (i := 7) rfl)
theorem tw8 {Z : State} {a0 : Array Value} (hw : ∀ d ∈ tables_1, d.before a0 Z = true) : (Jvm.Cond.instanceMethod ({ cls := "java/lang/Object", name := "<init>", desc := "()V" } : Jvm.MethodName)).before a0 Z = true := hw _ (List.mem_of_getElem? (i := 8) rfl)
theorem tw9 {Z : State} {a0 : Array Value} (hw : ∀ d ∈ tables_1, d.before a0 Z = true) : (Jvm.Cond.code ({ cls := "java/lang/Object", name := "<init>", desc := "()V" } : Jvm.MethodName) object_method_1_code (1 : Nat) (Option.none : Option Jvm.ClassFile.FieldType)).before a0 Z = true := hw _ (List.mem_of_getElem? (i := 9) rfl)
theorem d1_1 : decode prog_7_method_1_code 1 = .ok (.invokespecial 1, 3) := by decide +kernel
theorem d1_4 : decode prog_7_method_1_code 4 = .ok (.aload_n 0, 1) := by decide +kernel
theorem d1_5 : decode prog_7_method_1_code 5 = .ok (.lload_n 1, 1) := by decide +kernel
theorem tw10 {Z : State} {a0 : Array Value} (hw : ∀ d ∈ tables_1, d.before a0 Z = true) : (Jvm.Cond.fieldLink "com/example/skerry/skerry/engine/Rng" (7 : Nat) "com/example/skerry/skerry/engine/Rng" "state" "J").before a0 Z = true := hw _ (List.mem_of_getElem? (i := 10) rfl)
theorem tw11 {Z : State} {a0 : Array Value} (hw : ∀ d ∈ tables_1, d.before a0 Z = true) : (Jvm.Cond.lays "com/example/skerry/skerry/engine/Rng" "com/example/skerry/skerry/engine/Rng" "state" "J").before a0 Z = true := hw _ (List.mem_of_getElem? (i := 11) rfl)
theorem tw2 {Z : State} {a0 : Array Value} (hw : ∀ d ∈ tables_1, d.before a0 Z = true) : (Jvm.Cond.instantiable "com/example/skerry/skerry/engine/Rng" (1 : Nat)).before a0 Z = true := hw _ (List.mem_of_getElem? (i := 2) rfl)
theorem d1_6 : decode prog_7_method_1_code 6 = .ok (.putfield 7, 3) := by decide +kernel
theorem d1_9 : decode prog_7_method_1_code 9 = .ok (.return_, 1) := by decide +kernel
theorem pn_0 : plainName "com/example/skerry/skerry/engine/Rng" = true := by first | (simp [plainName, overriddenIn]; done) | decide +kernel
theorem ef_1 (m : MethodId) (x0 : Addr) (x1 : Int64) : entryFrame m #[(.ref x0), (.long x1)] 3 = mkF m 0 #[rv x0, jv x1, .second] [] := by first | (simp [entryFrame, mkF, argsToLocals, Value.category]; done) | rfl
def Q1 (Z : State) (ob : Addr) (sd : Int64)  (h0 : Heap) (n0 : Nat) (v : Option Value) (h : Heap) (L : List Loc) : Prop := v = none ∧ Fr n0 L ∧ Keep h0 h [ob] ∧ Exa Z h ob "com/example/skerry/skerry/engine/Rng" ∧ Fld Z h ob "com/example/skerry/skerry/engine/Rng" "state" "J" (.long sd)
set_option maxRecDepth 65536 in
set_option maxHeartbeats 40000000 in
theorem rm1 (l : Launch) (Z : State) (a0 : Array Value) (hw : ∀ d ∈ tables_1, d.before a0 Z = true) (ws : List Jvm.Cond) (ob : Addr) (sd : Int64)  (h0 : Heap) (n0 : Nat) (Z0 : n0 ≤ h0.size) (E_ob : Exa Z h0 ob "com/example/skerry/skerry/engine/Rng") (F_state : Fld Z h0 ob "com/example/skerry/skerry/engine/Rng" "state" "J" (.long (0 : Int64))) (g_ob : n0 ≤ ob) :
    MetFree l (⟨"com/example/skerry/skerry/engine/Rng", "<init>", "(J)V"⟩ : MethodName) (head1 (Jvm.Cond.code (⟨"com/example/skerry/skerry/engine/Rng", "<init>", "(J)V"⟩ : MethodName) prog_7_method_1_code 3 none :: ws) ({ frames := 1, cells := 0, slots := 0, locals := 12 } : Room)) (fun a U => a = #[(.ref ob), (.long sd)] ∧ Z.Warmed39 U.vm ∧ U.heap = h0) (fun _ _ _ _ _ => True) (fun _ U o U' => ∃ v L, o = .returned v ∧ Q1 Z ob sd h0 n0 v U'.heap L ∧ FrameEnd U o U' L ({ frames := 1, cells := 0, slots := 0, locals := 12 } : Room).cells ({ frames := 1, cells := 0, slots := 0, locals := 12 } : Room).slots) := by
  refine MetFree.of_bodySF (plainFor_of_name pn_0) hisR ?_
  intro p e s m args below meth c s₁ Bd hml0 hP hK
  obtain ⟨rfl, hZ, hh⟩ := hP
  have hx := Bd.exec
  have hby := Bd.bytes
  have hml : c.maxLocals = 3 := hml0
  have hown : s.vm.findClass "com/example/skerry/skerry/engine/Rng" = some m.cls := findClass_of_methodNamed Bd.named
  have hnm := (name_of_methodNamed Bd.named Bd.method).1
  have X0 : Stand p l e ({ frames := 1, cells := 0, slots := 0, locals := 12 } : Room) s m #[(.ref ob), (.long sd)] below meth c s₁ [] 0 0 := Stand.of_body Bd
  have e0 : s₁.heap = h0 := by rw [← hh, Bd.state]; rfl
  have N0 := Fr.nil n0
  have hlk : meth.locks = false := BodyLoose.notSynchronized Bd
  suffices hwk : Wk p.tables e below (s₁.setTop (mkF m 0 #[rv ob, jv sd, .second] [])) (fun U o => U.status = .running ∧ Ended U below o ∧ ∃ v L, o = .returned v ∧ Q1 Z ob sd h0 n0 v U.heap L ∧ FrameEnd s o U L 0 0) by
    obtain ⟨U, o, k1, k2⟩ := hwk
    exact ⟨U, o, castTop (ef_1 m ob sd) k1, k2⟩
  have K0 := Keep.refl h0 [ob]
  refine Wk.go (A' := s₁.setTop (mkF m 1 #[rv ob, jv sd, .second] [(.ref ob)])) (fun t k => XS.aloadN X0.here hx rfl (hb hby d1_0) rfl rfl k) ?_
  obtain ⟨T1, X1, e1, st1⟩ := initO X0 hx hZ hown (tw7 hw) (tw8 hw) (tw9 hw) e0 (g := (mkF m 1 #[rv ob, jv sd, .second] [(.ref ob)])) rfl (by rw [hml]; rfl) rfl (hb hby d1_1) (by decide) (W := 0) (by show 2 * 0 + _ ≤ _; exact Nat.le_of_eq rfl) (by decide)
  refine Wk.go (A' := T1.setTop (mkF m 4 #[rv ob, jv sd, .second] [])) (fun t k => st1 t k) ?_
  refine Wk.go (A' := T1.setTop (mkF m 5 #[rv ob, jv sd, .second] [(.ref ob)])) (fun t k => XS.aloadN X1.here hx rfl (hb hby d1_4) rfl rfl k) ?_
  refine Wk.go (A' := T1.setTop (mkF m 6 #[rv ob, jv sd, .second] [(.long sd), (.ref ob)])) (fun t k => XS.lloadN X1.here hx rfl (hb hby d1_5) rfl k) ?_
  obtain ⟨T2, h2, X2, e2, W2, st2⟩ := putF X1 hx hZ hown (host := "") (Or.inl (tw10 hw)) Via.refl e1 F_state E_ob (Or.inl (tw11 hw)) (tw2 hw) (ty := .long) (by decide) rfl rfl (g := (mkF m 6 #[rv ob, jv sd, .second] [(.long sd), (.ref ob)])) rfl rfl (hb hby d1_6)
  have f3 := E_ob.wr W2
  have f4 := F_state.same W2
  have Zp2 : n0 ≤ h2.size := Nat.le_trans Z0 (Nat.le_of_eq W2.size.symm)
  have K2 := K0.wr W2 (Or.inl (List.mem_of_getElem? (i := 0) rfl))
  have N2 := Fr.snoc X2 N0 g_ob
  refine Wk.go (A' := T2.setTop (mkF m 9 #[rv ob, jv sd, .second] [])) (fun t k => st2 t k) ?_
  refine own_fin (Qv := Q1 Z ob sd h0 n0) (v := none) X2 hlk (fun _ => rfl) (fun fs hr => X2.returnOut hx Bd.returns (hb hby d1_9) hr) ?_ (by decide) (by decide)
  show Q1 Z ob sd h0 n0 _ T2.heap _
  rw [e2]
  exact ⟨rfl, N2, K2, f3, f4⟩
theorem d4_0 : decode prog_7_method_3_code 0 = .ok (.aload_n 0, 1) := by decide +kernel
theorem d4_1 : decode prog_7_method_3_code 1 = .ok (.dup, 1) := by decide +kernel
theorem d4_2 : decode prog_7_method_3_code 2 = .ok (.getfield 7, 3) := by decide +kernel
theorem tw22 {Z : State} {a0 : Array Value} (hw : ∀ d ∈ tables_1, d.before a0 Z = true) : (Jvm.Cond.constantLong "com/example/skerry/skerry/engine/Rng" (13 : Nat) (-7046029254386353131 : Int64)).before a0 Z = true := hw _ (List.mem_of_getElem? (i := 22) rfl)
theorem d4_5 : decode prog_7_method_3_code 5 = .ok (.ldc2_w 13, 3) := by decide +kernel
theorem d4_8 : decode prog_7_method_3_code 8 = .ok (.ladd, 1) := by decide +kernel
theorem d4_9 : decode prog_7_method_3_code 9 = .ok (.putfield 7, 3) := by decide +kernel
theorem d4_12 : decode prog_7_method_3_code 12 = .ok (.aload_n 0, 1) := by decide +kernel
theorem d4_13 : decode prog_7_method_3_code 13 = .ok (.getfield 7, 3) := by decide +kernel
theorem d4_16 : decode prog_7_method_3_code 16 = .ok (.lstore_n 1, 1) := by decide +kernel
theorem d4_17 : decode prog_7_method_3_code 17 = .ok (.lload_n 1, 1) := by decide +kernel
theorem d4_18 : decode prog_7_method_3_code 18 = .ok (.lload_n 1, 1) := by decide +kernel
theorem d4_19 : decode prog_7_method_3_code 19 = .ok (.bipush 30, 2) := by decide +kernel
theorem d4_21 : decode prog_7_method_3_code 21 = .ok (.lushr, 1) := by decide +kernel
theorem d4_22 : decode prog_7_method_3_code 22 = .ok (.lxor, 1) := by decide +kernel
theorem tw23 {Z : State} {a0 : Array Value} (hw : ∀ d ∈ tables_1, d.before a0 Z = true) : (Jvm.Cond.constantLong "com/example/skerry/skerry/engine/Rng" (15 : Nat) (-4658895280553007687 : Int64)).before a0 Z = true := hw _ (List.mem_of_getElem? (i := 23) rfl)
theorem d4_23 : decode prog_7_method_3_code 23 = .ok (.ldc2_w 15, 3) := by decide +kernel
theorem d4_26 : decode prog_7_method_3_code 26 = .ok (.lmul, 1) := by decide +kernel
theorem d4_27 : decode prog_7_method_3_code 27 = .ok (.lstore_n 1, 1) := by decide +kernel
theorem d4_28 : decode prog_7_method_3_code 28 = .ok (.lload_n 1, 1) := by decide +kernel
theorem d4_29 : decode prog_7_method_3_code 29 = .ok (.lload_n 1, 1) := by decide +kernel
theorem d4_30 : decode prog_7_method_3_code 30 = .ok (.bipush 27, 2) := by decide +kernel
theorem d4_32 : decode prog_7_method_3_code 32 = .ok (.lushr, 1) := by decide +kernel
theorem d4_33 : decode prog_7_method_3_code 33 = .ok (.lxor, 1) := by decide +kernel
theorem tw24 {Z : State} {a0 : Array Value} (hw : ∀ d ∈ tables_1, d.before a0 Z = true) : (Jvm.Cond.constantLong "com/example/skerry/skerry/engine/Rng" (17 : Nat) (-7723592293110705685 : Int64)).before a0 Z = true := hw _ (List.mem_of_getElem? (i := 24) rfl)
theorem d4_34 : decode prog_7_method_3_code 34 = .ok (.ldc2_w 17, 3) := by decide +kernel
theorem d4_37 : decode prog_7_method_3_code 37 = .ok (.lmul, 1) := by decide +kernel
theorem d4_38 : decode prog_7_method_3_code 38 = .ok (.lstore_n 1, 1) := by decide +kernel
theorem d4_39 : decode prog_7_method_3_code 39 = .ok (.lload_n 1, 1) := by decide +kernel
theorem d4_40 : decode prog_7_method_3_code 40 = .ok (.lload_n 1, 1) := by decide +kernel
theorem d4_41 : decode prog_7_method_3_code 41 = .ok (.bipush 31, 2) := by decide +kernel
theorem d4_43 : decode prog_7_method_3_code 43 = .ok (.lushr, 1) := by decide +kernel
theorem d4_44 : decode prog_7_method_3_code 44 = .ok (.lxor, 1) := by decide +kernel
theorem d4_45 : decode prog_7_method_3_code 45 = .ok (.lreturn, 1) := by decide +kernel
theorem ef_4 (m : MethodId) (x0 : Addr) : entryFrame m #[(.ref x0)] 3 = mkF m 0 #[rv x0, .unset, .unset] [] := by first | (simp [entryFrame, mkF, argsToLocals, Value.category]; done) | rfl
def f_next (ob : Addr) (wst : Int64) : Int64 := (own_m3 (own_m2 (own_m1 (wst + (-7046029254386353131 : Int64)))))
def Q4 (Z : State) (ob : Addr) (wst : Int64) (h0 : Heap) (n0 : Nat) (v : Option Value) (h : Heap) (L : List Loc) : Prop := v = some (.long (f_next ob wst)) ∧ Fr n0 L ∧ Keep h0 h [ob] ∧ Exa Z h ob "com/example/skerry/skerry/engine/Rng" ∧ Fld Z h ob "com/example/skerry/skerry/engine/Rng" "state" "J" (.long (wst + (-7046029254386353131 : Int64)))
set_option maxRecDepth 65536 in
set_option maxHeartbeats 40000000 in
theorem rm4 (l : Launch) (Z : State) (a0 : Array Value) (hw : ∀ d ∈ tables_1, d.before a0 Z = true) (ws : List Jvm.Cond) (ob : Addr) (wst : Int64) (h0 : Heap) (n0 : Nat) (Z0 : n0 ≤ h0.size) (E_ob : Exa Z h0 ob "com/example/skerry/skerry/engine/Rng") (F_state : Fld Z h0 ob "com/example/skerry/skerry/engine/Rng" "state" "J" (.long wst)) (g_ob : n0 ≤ ob) :
    MetFree l (⟨"com/example/skerry/skerry/engine/Rng", "nextLong", "()J"⟩ : MethodName) (head1 (Jvm.Cond.code (⟨"com/example/skerry/skerry/engine/Rng", "nextLong", "()J"⟩ : MethodName) prog_7_method_3_code 3 (some .long) :: ws) ({ frames := 0, cells := 0, slots := 0, locals := 0 } : Room)) (fun a U => a = #[(.ref ob)] ∧ Z.Warmed39 U.vm ∧ U.heap = h0) (fun _ _ _ _ _ => True) (fun _ U o U' => ∃ v L, o = .returned v ∧ Q4 Z ob wst h0 n0 v U'.heap L ∧ FrameEnd U o U' L ({ frames := 0, cells := 0, slots := 0, locals := 0 } : Room).cells ({ frames := 0, cells := 0, slots := 0, locals := 0 } : Room).slots) := by
  refine MetFree.of_bodySF (plainFor_of_name pn_0) hisR ?_
  intro p e s m args below meth c s₁ Bd hml0 hP hK
  obtain ⟨rfl, hZ, hh⟩ := hP
  have hx := Bd.exec
  have hby := Bd.bytes
  have hml : c.maxLocals = 3 := hml0
  have hown : s.vm.findClass "com/example/skerry/skerry/engine/Rng" = some m.cls := findClass_of_methodNamed Bd.named
  have hnm := (name_of_methodNamed Bd.named Bd.method).1
  have X0 : Stand p l e ({ frames := 0, cells := 0, slots := 0, locals := 0 } : Room) s m #[(.ref ob)] below meth c s₁ [] 0 0 := Stand.of_body Bd
  have e0 : s₁.heap = h0 := by rw [← hh, Bd.state]; rfl
  have N0 := Fr.nil n0
  have hlk : meth.locks = false := BodyLoose.notSynchronized Bd
  suffices hwk : Wk p.tables e below (s₁.setTop (mkF m 0 #[rv ob, .unset, .unset] [])) (fun U o => U.status = .running ∧ Ended U below o ∧ ∃ v L, o = .returned v ∧ Q4 Z ob wst h0 n0 v U.heap L ∧ FrameEnd s o U L 0 0) by
    obtain ⟨U, o, k1, k2⟩ := hwk
    exact ⟨U, o, castTop (ef_4 m ob) k1, k2⟩
  have K0 := Keep.refl h0 [ob]
  refine Wk.go (A' := s₁.setTop (mkF m 1 #[rv ob, .unset, .unset] [(.ref ob)])) (fun t k => XS.aloadN X0.here hx rfl (hb hby d4_0) rfl rfl k) ?_
  refine Wk.go (A' := s₁.setTop (mkF m 2 #[rv ob, .unset, .unset] [(.ref ob), (.ref ob)])) (fun t k => XS.dup X0.here hx rfl (hb hby d4_1) rfl rfl k) ?_
  obtain ⟨T1, X1, e1, st1⟩ := getF X0 hx hZ hown (host := "") (Or.inl (tw10 hw)) Via.refl e0 F_state (g := (mkF m 2 #[rv ob, .unset, .unset] [(.ref ob), (.ref ob)])) rfl rfl (hb hby d4_2)
  refine Wk.go (A' := T1.setTop (mkF m 5 #[rv ob, .unset, .unset] [(.long wst), (.ref ob)])) (fun t k => st1 t k) ?_
  refine Wk.go (A' := T1.setTop (mkF m 8 #[rv ob, .unset, .unset] [(.long (-7046029254386353131 : Int64)), (.long wst), (.ref ob)])) (fun t k => X1.ldc2Long hx hown (mvT hZ (tw22 hw)) (g := (mkF m 5 #[rv ob, .unset, .unset] [(.long wst), (.ref ob)])) rfl (hb hby d4_5) t k) ?_
  refine Wk.go (A' := T1.setTop (mkF m 9 #[rv ob, .unset, .unset] [(.long (wst + (-7046029254386353131 : Int64))), (.ref ob)])) (fun t k => XS.ladd X1.here hx rfl (hb hby d4_8) rfl k) ?_
  obtain ⟨T2, h2, X2, e2, W2, st2⟩ := putF X1 hx hZ hown (host := "") (Or.inl (tw10 hw)) Via.refl e1 F_state E_ob (Or.inl (tw11 hw)) (tw2 hw) (ty := .long) (by decide) rfl rfl (g := (mkF m 9 #[rv ob, .unset, .unset] [(.long (wst + (-7046029254386353131 : Int64))), (.ref ob)])) rfl rfl (hb hby d4_9)
  have f3 := E_ob.wr W2
  have f4 := F_state.same W2
  have Zp2 : n0 ≤ h2.size := Nat.le_trans Z0 (Nat.le_of_eq W2.size.symm)
  have K2 := K0.wr W2 (Or.inl (List.mem_of_getElem? (i := 0) rfl))
  have N2 := Fr.snoc X2 N0 g_ob
  refine Wk.go (A' := T2.setTop (mkF m 12 #[rv ob, .unset, .unset] [])) (fun t k => st2 t k) ?_
  refine Wk.go (A' := T2.setTop (mkF m 13 #[rv ob, .unset, .unset] [(.ref ob)])) (fun t k => XS.aloadN X2.here hx rfl (hb hby d4_12) rfl rfl k) ?_
  obtain ⟨T5, X5, e5, st5⟩ := getF X2 hx hZ hown (host := "") (Or.inl (tw10 hw)) Via.refl e2 f4 (g := (mkF m 13 #[rv ob, .unset, .unset] [(.ref ob)])) rfl rfl (hb hby d4_13)
  refine Wk.go (A' := T5.setTop (mkF m 16 #[rv ob, .unset, .unset] [(.long (wst + (-7046029254386353131 : Int64)))])) (fun t k => st5 t k) ?_
  refine Wk.go (A' := T5.setTop (mkF m 17 #[rv ob, jv (wst + (-7046029254386353131 : Int64)), .second] [])) (fun t k => XS.lstoreN X5.here hx rfl (hb hby d4_16) rfl (l' := #[rv ob, jv (wst + (-7046029254386353131 : Int64)), .second]) rfl k) ?_
  refine Wk.go (A' := T5.setTop (mkF m 18 #[rv ob, jv (wst + (-7046029254386353131 : Int64)), .second] [(.long (wst + (-7046029254386353131 : Int64)))])) (fun t k => XS.lloadN X5.here hx rfl (hb hby d4_17) rfl k) ?_
  refine Wk.go (A' := T5.setTop (mkF m 19 #[rv ob, jv (wst + (-7046029254386353131 : Int64)), .second] [(.long (wst + (-7046029254386353131 : Int64))), (.long (wst + (-7046029254386353131 : Int64)))])) (fun t k => XS.lloadN X5.here hx rfl (hb hby d4_18) rfl k) ?_
  refine Wk.go (A' := T5.setTop (mkF m 21 #[rv ob, jv (wst + (-7046029254386353131 : Int64)), .second] [(.int (30 : Int32)), (.long (wst + (-7046029254386353131 : Int64))), (.long (wst + (-7046029254386353131 : Int64)))])) (fun t k => XS.bipush X5.here hx rfl (hb hby d4_19) k) ?_
  refine Wk.go (A' := T5.setTop (mkF m 22 #[rv ob, jv (wst + (-7046029254386353131 : Int64)), .second] [(.long (((wst + (-7046029254386353131 : Int64)).toUInt64 >>> ((30 : Int32) &&& 0x3f).toInt64.toUInt64).toInt64)), (.long (wst + (-7046029254386353131 : Int64)))])) (fun t k => XS.lushr X5.here hx rfl (hb hby d4_21) rfl k) ?_
  refine Wk.go (A' := T5.setTop (mkF m 23 #[rv ob, jv (wst + (-7046029254386353131 : Int64)), .second] [(.long ((wst + (-7046029254386353131 : Int64)) ^^^ (((wst + (-7046029254386353131 : Int64)).toUInt64 >>> ((30 : Int32) &&& 0x3f).toInt64.toUInt64).toInt64)))])) (fun t k => XS.lxor X5.here hx rfl (hb hby d4_22) rfl k) ?_
  refine Wk.go (A' := T5.setTop (mkF m 26 #[rv ob, jv (wst + (-7046029254386353131 : Int64)), .second] [(.long (-4658895280553007687 : Int64)), (.long ((wst + (-7046029254386353131 : Int64)) ^^^ (((wst + (-7046029254386353131 : Int64)).toUInt64 >>> ((30 : Int32) &&& 0x3f).toInt64.toUInt64).toInt64)))])) (fun t k => X5.ldc2Long hx hown (mvT hZ (tw23 hw)) (g := (mkF m 23 #[rv ob, jv (wst + (-7046029254386353131 : Int64)), .second] [(.long ((wst + (-7046029254386353131 : Int64)) ^^^ (((wst + (-7046029254386353131 : Int64)).toUInt64 >>> ((30 : Int32) &&& 0x3f).toInt64.toUInt64).toInt64)))])) rfl (hb hby d4_23) t k) ?_
  refine Wk.go (A' := T5.setTop (mkF m 27 #[rv ob, jv (wst + (-7046029254386353131 : Int64)), .second] [(.long (own_m1 (wst + (-7046029254386353131 : Int64))))])) (fun t k => XS.lmul X5.here hx rfl (hb hby d4_26) rfl k) ?_
  refine Wk.go (A' := T5.setTop (mkF m 28 #[rv ob, jv (own_m1 (wst + (-7046029254386353131 : Int64))), .second] [])) (fun t k => XS.lstoreN X5.here hx rfl (hb hby d4_27) rfl (l' := #[rv ob, jv (own_m1 (wst + (-7046029254386353131 : Int64))), .second]) rfl k) ?_
  refine Wk.go (A' := T5.setTop (mkF m 29 #[rv ob, jv (own_m1 (wst + (-7046029254386353131 : Int64))), .second] [(.long (own_m1 (wst + (-7046029254386353131 : Int64))))])) (fun t k => XS.lloadN X5.here hx rfl (hb hby d4_28) rfl k) ?_
  refine Wk.go (A' := T5.setTop (mkF m 30 #[rv ob, jv (own_m1 (wst + (-7046029254386353131 : Int64))), .second] [(.long (own_m1 (wst + (-7046029254386353131 : Int64)))), (.long (own_m1 (wst + (-7046029254386353131 : Int64))))])) (fun t k => XS.lloadN X5.here hx rfl (hb hby d4_29) rfl k) ?_
  refine Wk.go (A' := T5.setTop (mkF m 32 #[rv ob, jv (own_m1 (wst + (-7046029254386353131 : Int64))), .second] [(.int (27 : Int32)), (.long (own_m1 (wst + (-7046029254386353131 : Int64)))), (.long (own_m1 (wst + (-7046029254386353131 : Int64))))])) (fun t k => XS.bipush X5.here hx rfl (hb hby d4_30) k) ?_
  refine Wk.go (A' := T5.setTop (mkF m 33 #[rv ob, jv (own_m1 (wst + (-7046029254386353131 : Int64))), .second] [(.long (((own_m1 (wst + (-7046029254386353131 : Int64))).toUInt64 >>> ((27 : Int32) &&& 0x3f).toInt64.toUInt64).toInt64)), (.long (own_m1 (wst + (-7046029254386353131 : Int64))))])) (fun t k => XS.lushr X5.here hx rfl (hb hby d4_32) rfl k) ?_
  refine Wk.go (A' := T5.setTop (mkF m 34 #[rv ob, jv (own_m1 (wst + (-7046029254386353131 : Int64))), .second] [(.long ((own_m1 (wst + (-7046029254386353131 : Int64))) ^^^ (((own_m1 (wst + (-7046029254386353131 : Int64))).toUInt64 >>> ((27 : Int32) &&& 0x3f).toInt64.toUInt64).toInt64)))])) (fun t k => XS.lxor X5.here hx rfl (hb hby d4_33) rfl k) ?_
  refine Wk.go (A' := T5.setTop (mkF m 37 #[rv ob, jv (own_m1 (wst + (-7046029254386353131 : Int64))), .second] [(.long (-7723592293110705685 : Int64)), (.long ((own_m1 (wst + (-7046029254386353131 : Int64))) ^^^ (((own_m1 (wst + (-7046029254386353131 : Int64))).toUInt64 >>> ((27 : Int32) &&& 0x3f).toInt64.toUInt64).toInt64)))])) (fun t k => X5.ldc2Long hx hown (mvT hZ (tw24 hw)) (g := (mkF m 34 #[rv ob, jv (own_m1 (wst + (-7046029254386353131 : Int64))), .second] [(.long ((own_m1 (wst + (-7046029254386353131 : Int64))) ^^^ (((own_m1 (wst + (-7046029254386353131 : Int64))).toUInt64 >>> ((27 : Int32) &&& 0x3f).toInt64.toUInt64).toInt64)))])) rfl (hb hby d4_34) t k) ?_
  refine Wk.go (A' := T5.setTop (mkF m 38 #[rv ob, jv (own_m1 (wst + (-7046029254386353131 : Int64))), .second] [(.long (own_m2 (own_m1 (wst + (-7046029254386353131 : Int64)))))])) (fun t k => XS.lmul X5.here hx rfl (hb hby d4_37) rfl k) ?_
  refine Wk.go (A' := T5.setTop (mkF m 39 #[rv ob, jv (own_m2 (own_m1 (wst + (-7046029254386353131 : Int64)))), .second] [])) (fun t k => XS.lstoreN X5.here hx rfl (hb hby d4_38) rfl (l' := #[rv ob, jv (own_m2 (own_m1 (wst + (-7046029254386353131 : Int64)))), .second]) rfl k) ?_
  refine Wk.go (A' := T5.setTop (mkF m 40 #[rv ob, jv (own_m2 (own_m1 (wst + (-7046029254386353131 : Int64)))), .second] [(.long (own_m2 (own_m1 (wst + (-7046029254386353131 : Int64)))))])) (fun t k => XS.lloadN X5.here hx rfl (hb hby d4_39) rfl k) ?_
  refine Wk.go (A' := T5.setTop (mkF m 41 #[rv ob, jv (own_m2 (own_m1 (wst + (-7046029254386353131 : Int64)))), .second] [(.long (own_m2 (own_m1 (wst + (-7046029254386353131 : Int64))))), (.long (own_m2 (own_m1 (wst + (-7046029254386353131 : Int64)))))])) (fun t k => XS.lloadN X5.here hx rfl (hb hby d4_40) rfl k) ?_
  refine Wk.go (A' := T5.setTop (mkF m 43 #[rv ob, jv (own_m2 (own_m1 (wst + (-7046029254386353131 : Int64)))), .second] [(.int (31 : Int32)), (.long (own_m2 (own_m1 (wst + (-7046029254386353131 : Int64))))), (.long (own_m2 (own_m1 (wst + (-7046029254386353131 : Int64)))))])) (fun t k => XS.bipush X5.here hx rfl (hb hby d4_41) k) ?_
  refine Wk.go (A' := T5.setTop (mkF m 44 #[rv ob, jv (own_m2 (own_m1 (wst + (-7046029254386353131 : Int64)))), .second] [(.long (((own_m2 (own_m1 (wst + (-7046029254386353131 : Int64)))).toUInt64 >>> ((31 : Int32) &&& 0x3f).toInt64.toUInt64).toInt64)), (.long (own_m2 (own_m1 (wst + (-7046029254386353131 : Int64)))))])) (fun t k => XS.lushr X5.here hx rfl (hb hby d4_43) rfl k) ?_
  refine Wk.go (A' := T5.setTop (mkF m 45 #[rv ob, jv (own_m2 (own_m1 (wst + (-7046029254386353131 : Int64)))), .second] [(.long (own_m3 (own_m2 (own_m1 (wst + (-7046029254386353131 : Int64))))))])) (fun t k => XS.lxor X5.here hx rfl (hb hby d4_44) rfl k) ?_
  refine own_fin (Qv := Q4 Z ob wst h0 n0) (v := some (.long (own_m3 (own_m2 (own_m1 (wst + (-7046029254386353131 : Int64))))))) X5 hlk (fun h => by rw [Bd.returns] at h; cases h) (fun fs hr => X5.lreturnOut hx Bd.returns (hb hby d4_45) hr) ?_ (by decide) (by decide)
  show Q4 Z ob wst h0 n0 _ T5.heap _
  rw [e5]
  exact ⟨rfl, N2, K2, f3, f4⟩
theorem d5_0 : decode prog_7_method_2_code 0 = .ok (.aload_n 0, 1) := by decide +kernel
theorem d5_1 : decode prog_7_method_2_code 1 = .ok (.getfield 7, 3) := by decide +kernel
theorem d5_4 : decode prog_7_method_2_code 4 = .ok (.lreturn, 1) := by decide +kernel
theorem ef_5 (m : MethodId) (x0 : Addr) : entryFrame m #[(.ref x0)] 1 = mkF m 0 #[rv x0] [] := by first | (simp [entryFrame, mkF, argsToLocals, Value.category]; done) | rfl
def f_state (ob : Addr) (wst : Int64) : Int64 := wst
def Q5 (Z : State) (ob : Addr) (wst : Int64) (h0 : Heap) (n0 : Nat) (v : Option Value) (h : Heap) (L : List Loc) : Prop := v = some (.long (f_state ob wst)) ∧ Fr n0 L ∧ h = h0
set_option maxRecDepth 65536 in
set_option maxHeartbeats 40000000 in
theorem rm5 (l : Launch) (Z : State) (a0 : Array Value) (hw : ∀ d ∈ tables_1, d.before a0 Z = true) (ws : List Jvm.Cond) (ob : Addr) (wst : Int64) (h0 : Heap) (n0 : Nat) (Z0 : n0 ≤ h0.size) (E_ob : Exa Z h0 ob "com/example/skerry/skerry/engine/Rng") (F_state : Fld Z h0 ob "com/example/skerry/skerry/engine/Rng" "state" "J" (.long wst)) :
    MetFree l (⟨"com/example/skerry/skerry/engine/Rng", "state", "()J"⟩ : MethodName) (head1 (Jvm.Cond.code (⟨"com/example/skerry/skerry/engine/Rng", "state", "()J"⟩ : MethodName) prog_7_method_2_code 1 (some .long) :: ws) ({ frames := 0, cells := 0, slots := 0, locals := 0 } : Room)) (fun a U => a = #[(.ref ob)] ∧ Z.Warmed39 U.vm ∧ U.heap = h0) (fun _ _ _ _ _ => True) (fun _ U o U' => ∃ v L, o = .returned v ∧ Q5 Z ob wst h0 n0 v U'.heap L ∧ FrameEnd U o U' L ({ frames := 0, cells := 0, slots := 0, locals := 0 } : Room).cells ({ frames := 0, cells := 0, slots := 0, locals := 0 } : Room).slots) := by
  refine MetFree.of_bodySF (plainFor_of_name pn_0) hisR ?_
  intro p e s m args below meth c s₁ Bd hml0 hP hK
  obtain ⟨rfl, hZ, hh⟩ := hP
  have hx := Bd.exec
  have hby := Bd.bytes
  have hml : c.maxLocals = 1 := hml0
  have hown : s.vm.findClass "com/example/skerry/skerry/engine/Rng" = some m.cls := findClass_of_methodNamed Bd.named
  have hnm := (name_of_methodNamed Bd.named Bd.method).1
  have X0 : Stand p l e ({ frames := 0, cells := 0, slots := 0, locals := 0 } : Room) s m #[(.ref ob)] below meth c s₁ [] 0 0 := Stand.of_body Bd
  have e0 : s₁.heap = h0 := by rw [← hh, Bd.state]; rfl
  have N0 := Fr.nil n0
  have hlk : meth.locks = false := BodyLoose.notSynchronized Bd
  suffices hwk : Wk p.tables e below (s₁.setTop (mkF m 0 #[rv ob] [])) (fun U o => U.status = .running ∧ Ended U below o ∧ ∃ v L, o = .returned v ∧ Q5 Z ob wst h0 n0 v U.heap L ∧ FrameEnd s o U L 0 0) by
    obtain ⟨U, o, k1, k2⟩ := hwk
    exact ⟨U, o, castTop (ef_5 m ob) k1, k2⟩
  refine Wk.go (A' := s₁.setTop (mkF m 1 #[rv ob] [(.ref ob)])) (fun t k => XS.aloadN X0.here hx rfl (hb hby d5_0) rfl rfl k) ?_
  obtain ⟨T1, X1, e1, st1⟩ := getF X0 hx hZ hown (host := "") (Or.inl (tw10 hw)) Via.refl e0 F_state (g := (mkF m 1 #[rv ob] [(.ref ob)])) rfl rfl (hb hby d5_1)
  refine Wk.go (A' := T1.setTop (mkF m 4 #[rv ob] [(.long wst)])) (fun t k => st1 t k) ?_
  refine own_fin (Qv := Q5 Z ob wst h0 n0) (v := some (.long wst)) X1 hlk (fun h => by rw [Bd.returns] at h; cases h) (fun fs hr => X1.lreturnOut hx Bd.returns (hb hby d5_4) hr) ?_ (by decide) (by decide)
  refine ⟨?_, N0, e1⟩
  simp only [f_state]
def own_bits (w : Int64) : Int64 := (((own_m3 (own_m2 (own_m1 (w + (-7046029254386353131 : Int64))))).toUInt64 >>> ((1 : Int32) &&& 0x3f).toInt64.toUInt64).toInt64)
def own_rem (b w : Int64) : Int64 := (own_bits w - (own_bits w / b) * b)
def own_t (b w : Int64) : Int64 := ((own_bits w - own_rem b w) + (b - (1 : Int64)))
/-- the generator's word behind k draws -/
def own_w (K : Int64) : Nat → Int64 → Int64
  | 0, w => w
  | k + 1, w => own_w K k (w + K)
/-- at most k draws are thrown away -/
def own_go (K b : Int64) : Nat → Int64 → Int64 × Int64
  | 0, w => (own_rem b w, w + K)
  | k + 1, w => if own_t b w < (0 : Int64) then own_go K b k (w + K) else (own_rem b w, w + K)
theorem own_w_eq (K : Int64) (k : Nat) (w : Int64) : own_w K k w = w + Int64.ofNat k * K := by
  induction k generalizing w with
  | zero => rw [own_w, show Int64.ofNat 0 = (0 : Int64) from rfl, Int64.zero_mul, Int64.add_zero]
  | succ k ih => rw [own_w, ih, Int64.ofNat_add, Int64.add_mul, show Int64.ofNat 1 = (1 : Int64) from rfl, Int64.one_mul, Int64.add_assoc, Int64.add_comm K _]
theorem own_bits_rng (w : Int64) : 0 ≤ (own_bits w).toInt := by
  have h := c_lushr (own_m3 (own_m2 (own_m1 (w + (-7046029254386353131 : Int64))))) 1 1 (by decide) (by decide)
  unfold own_bits
  rw [h]; omega
theorem own_rem_eq (b w : Int64) (hb : 0 < b.toInt) : (own_rem b w).toInt = (own_bits w).toInt % b.toInt ∧ 0 ≤ (own_rem b w).toInt ∧ (own_rem b w).toInt < b.toInt ∧ (own_rem b w).toInt ≤ (own_bits w).toInt := by
  have h0 := own_bits_rng w
  have h : (own_rem b w).toInt = (own_bits w).toInt % b.toInt := (c_lrem (own_bits w) b b.toInt rfl).1 h0
  rw [h]
  generalize (own_bits w).toInt = B at *
  generalize b.toInt = d at *
  have h1 := Int.emod_nonneg B (show d ≠ 0 by omega)
  have h2 := Int.emod_lt_of_pos B hb
  have h3 := Int.mul_ediv_add_emod B d
  have h4 := Int.mul_nonneg (show 0 ≤ d by omega) (Int.ediv_nonneg h0 (show 0 ≤ d by omega))
  exact ⟨rfl, h1, h2, by omega⟩
theorem own_t_lt (b w : Int64) (hb : 0 < b.toInt) : own_t b w < (0 : Int64) ↔ 9223372036854775808 < (own_bits w).toInt - (own_rem b w).toInt + b.toInt := by
  obtain ⟨r1, r2, r3, r4⟩ := own_rem_eq b w hb
  have h0 := own_bits_rng w
  have et : own_t b w = (own_bits w - own_rem b w) + (b - (1 : Int64)) := rfl
  rw [et]
  clear et r1
  generalize own_bits w = B at *
  generalize own_rem b w = R at *
  have a1 := c_lsub B R
  have a2 := c_lsub b 1
  have a3 := c_ladd (B - R) (b - 1)
  have e1 : (1 : Int64).toInt = 1 := by decide
  have e0 : (0 : Int64).toInt = 0 := by decide
  have q1 := rng64 B
  have q2 := rng64 (B - R)
  have q3 := rng64 (b - 1)
  have q4 := rng64 b
  have q5 := rng64 ((B - R) + (b - 1))
  rw [Int64.lt_iff_toInt_lt, e0]
  omega
theorem own_zero (b w : Int64) (hb : 0 < b.toInt) (h : w + (-7046029254386353131 : Int64) = 0) : ¬ own_t b w < (0 : Int64) := by
  have e : own_bits w = 0 := by unfold own_bits; rw [h]; decide +kernel
  rw [own_t_lt b w hb]
  obtain ⟨r1, r2, r3, r4⟩ := own_rem_eq b w hb
  have e0 : (0 : Int64).toInt = 0 := by decide
  have q := rng64 b
  clear r1
  rw [e, e0] at *
  generalize (own_rem b w).toInt = R at *
  omega
theorem own_nat64 (z : Int64) : Int64.ofNat z.toUInt64.toNat = z := by
  apply Int64.toBitVec_inj.mp
  apply BitVec.eq_of_toNat_eq
  show (BitVec.ofNat 64 z.toUInt64.toNat).toNat = _
  rw [BitVec.toNat_ofNat]
  exact Nat.mod_eq_of_lt z.toBitVec.isLt
theorem own_back (w K J : Int64) (h : J * K = 1) : (w + ((-(w + K)) * J) * K) + K = 0 := by
  rw [Int64.mul_assoc, h, Int64.mul_one, Int64.add_assoc, Int64.add_comm (-(w + K)) K, ← Int64.add_assoc, ← Int64.sub_eq_add_neg, Int64.sub_self]
theorem own_ends (K : Int64) (hK : K = (-7046029254386353131 : Int64)) (b : Int64) (hb : 0 < b.toInt) (w : Int64) : ∃ k : Nat, ¬ own_t b (own_w K k w) < (0 : Int64) := by
  have hJ : (-1018231460777725123 : Int64) * K = 1 := by rw [hK]; decide +kernel
  generalize (-1018231460777725123 : Int64) = J at hJ
  refine ⟨((-(w + K)) * J).toUInt64.toNat, own_zero b _ hb ?_⟩
  rw [← hK, own_w_eq, own_nat64]
  exact own_back w _ _ hJ
theorem own_go_acc (K b w : Int64) (k : Nat) (h : ¬ own_t b w < (0 : Int64)) : own_go K b k w = (own_rem b w, w + K) := by
  cases k with
  | zero => rw [own_go]
  | succ k => rw [own_go, if_neg h]
theorem own_stable (K b : Int64) (k : Nat) : ∀ (k' : Nat) (w : Int64), ¬ own_t b (own_w K k w) < (0 : Int64) → ¬ own_t b (own_w K k' w) < (0 : Int64) → own_go K b k w = own_go K b k' w := by
  induction k with
  | zero =>
    intro k' w h h'
    rw [own_w] at h
    rw [own_go_acc K b w 0 h, own_go_acc K b w k' h]
  | succ k ih =>
    intro k' w h h'
    by_cases q : own_t b w < (0 : Int64)
    · cases k' with
      | zero => rw [own_w] at h'; exact absurd q h'
      | succ k' =>
        rw [own_w] at h h'
        rw [own_go, own_go, if_pos q, if_pos q]
        exact ih k' _ h h'
    · rw [own_go_acc K b w _ q, own_go_acc K b w _ q]
theorem own_go_rej (K b w : Int64) (k k' : Nat) (h : own_t b w < (0 : Int64)) (hk : ¬ own_t b (own_w K k w) < (0 : Int64)) (hk' : ¬ own_t b (own_w K k' (w + K)) < (0 : Int64)) : own_go K b k w = own_go K b k' (w + K) := by
  cases k with
  | zero => rw [own_w] at hk; exact absurd h hk
  | succ k =>
    rw [own_w] at hk
    rw [own_go, if_pos h]; exact own_stable K b k k' _ hk hk'
theorem own_go_rng (K b : Int64) (hb : 0 < b.toInt) (k : Nat) : ∀ (w : Int64), 0 ≤ (own_go K b k w).1.toInt ∧ (own_go K b k w).1.toInt < b.toInt := by
  induction k with
  | zero => intro w; rw [own_go]; exact ⟨(own_rem_eq b w hb).2.1, (own_rem_eq b w hb).2.2.1⟩
  | succ k ih =>
    intro w
    rw [own_go]
    by_cases q : own_t b w < (0 : Int64)
    · rw [if_pos q]; exact ih _
    · rw [if_neg q]; exact ⟨(own_rem_eq b w hb).2.1, (own_rem_eq b w hb).2.2.1⟩
theorem own_turn {K b wc : Int64} {k : Nat} {z : Int64 × Int64} (h : (¬ own_t b (own_w K (k + 1) wc) < (0 : Int64)) ∧ own_go K b (k + 1) wc = z) (hc : own_t b wc < (0 : Int64)) : (¬ own_t b (own_w K k (wc + K)) < (0 : Int64)) ∧ own_go K b k (wc + K) = z := by
  obtain ⟨h1, h2⟩ := h
  rw [own_w] at h1
  rw [own_go, if_pos hc] at h2
  exact ⟨h1, h2⟩
theorem own_w0 {K b wc : Int64} (h : ¬ own_t b (own_w K 0 wc) < (0 : Int64)) : ¬ own_t b wc < (0 : Int64) := by rw [own_w] at h; exact h
theorem own_bnz {b : Int64} (hb : 0 < b.toInt) : b ≠ 0 := fun q => by rw [q] at hb; exact absurd hb (by decide)
theorem own_bpos {b : Int64} (hb : 0 < b.toInt) : (0 : Int64) < b := by rw [Int64.lt_iff_toInt_lt]; exact hb
theorem d3_0 : decode prog_7_method_5_code 0 = .ok (.lload_n 1, 1) := by decide +kernel
theorem d3_1 : decode prog_7_method_5_code 1 = .ok (.lconst 0, 1) := by decide +kernel
theorem d3_2 : decode prog_7_method_5_code 2 = .ok (.lcmp, 1) := by decide +kernel
theorem d3_3 : decode prog_7_method_5_code 3 = .ok (.ifCond .gt 17, 3) := by decide +kernel
theorem d3_20 : decode prog_7_method_5_code 20 = .ok (.aload_n 0, 1) := by decide +kernel
theorem tw17 {Z : State} {a0 : Array Value} (hw : ∀ d ∈ tables_1, d.before a0 Z = true) : (Jvm.Cond.methodLink "com/example/skerry/skerry/engine/Rng" (32 : Nat) ({ cls := "com/example/skerry/skerry/engine/Rng", name := "nextLong", desc := "()J" } : Jvm.MethodName)).before a0 Z = true := hw _ (List.mem_of_getElem? (i := 17) rfl)
theorem tw21 {Z : State} {a0 : Array Value} (hw : ∀ d ∈ tables_1, d.before a0 Z = true) : (Jvm.Cond.code ({ cls := "com/example/skerry/skerry/engine/Rng", name := "nextLong", desc := "()J" } : Jvm.MethodName) prog_7_method_3_code (3 : Nat) (Option.some Jvm.ClassFile.FieldType.long)).before a0 Z = true := hw _ (List.mem_of_getElem? (i := 21) rfl)
theorem tw3 {Z : State} {a0 : Array Value} (hw : ∀ d ∈ tables_1, d.before a0 Z = true) : (Jvm.Cond.initialized "com/example/skerry/skerry/engine/Rng").before a0 Z = true := hw _ (List.mem_of_getElem? (i := 3) rfl)
theorem pd_0 : parseMethodDescriptor "()J" = some ⟨[], some .long⟩ := by decide +kernel
theorem d3_21 : decode prog_7_method_5_code 21 = .ok (.invokevirtual 32, 3) := by decide +kernel
theorem tw20 {Z : State} {a0 : Array Value} (hw : ∀ d ∈ tables_1, d.before a0 Z = true) : (Jvm.Cond.selects "com/example/skerry/skerry/engine/Rng" ({ cls := "com/example/skerry/skerry/engine/Rng", name := "nextLong", desc := "()J" } : Jvm.MethodName) ({ cls := "com/example/skerry/skerry/engine/Rng", name := "nextLong", desc := "()J" } : Jvm.MethodName)).before a0 Z = true := hw _ (List.mem_of_getElem? (i := 20) rfl)
theorem tw18 {Z : State} {a0 : Array Value} (hw : ∀ d ∈ tables_1, d.before a0 Z = true) : (Jvm.Cond.declares ({ cls := "com/example/skerry/skerry/engine/Rng", name := "nextLong", desc := "()J" } : Jvm.MethodName)).before a0 Z = true := hw _ (List.mem_of_getElem? (i := 18) rfl)
theorem tw19 {Z : State} {a0 : Array Value} (hw : ∀ d ∈ tables_1, d.before a0 Z = true) : (Jvm.Cond.instanceMethod ({ cls := "com/example/skerry/skerry/engine/Rng", name := "nextLong", desc := "()J" } : Jvm.MethodName)).before a0 Z = true := hw _ (List.mem_of_getElem? (i := 19) rfl)
theorem d3_24 : decode prog_7_method_5_code 24 = .ok (.iconst 1, 1) := by decide +kernel
theorem d3_25 : decode prog_7_method_5_code 25 = .ok (.lushr, 1) := by decide +kernel
theorem d3_26 : decode prog_7_method_5_code 26 = .ok (.lstore_n 3, 1) := by decide +kernel
theorem d3_27 : decode prog_7_method_5_code 27 = .ok (.lload_n 3, 1) := by decide +kernel
theorem d3_28 : decode prog_7_method_5_code 28 = .ok (.lload_n 1, 1) := by decide +kernel
theorem d3_29 : decode prog_7_method_5_code 29 = .ok (.lrem, 1) := by decide +kernel
theorem d3_30 : decode prog_7_method_5_code 30 = .ok (.lstore 5, 2) := by decide +kernel
theorem d3_32 : decode prog_7_method_5_code 32 = .ok (.lload_n 3, 1) := by decide +kernel
theorem d3_33 : decode prog_7_method_5_code 33 = .ok (.lload 5, 2) := by decide +kernel
theorem d3_35 : decode prog_7_method_5_code 35 = .ok (.lsub, 1) := by decide +kernel
theorem d3_36 : decode prog_7_method_5_code 36 = .ok (.lload_n 1, 1) := by decide +kernel
theorem d3_37 : decode prog_7_method_5_code 37 = .ok (.lconst 1, 1) := by decide +kernel
theorem d3_38 : decode prog_7_method_5_code 38 = .ok (.lsub, 1) := by decide +kernel
theorem d3_39 : decode prog_7_method_5_code 39 = .ok (.ladd, 1) := by decide +kernel
theorem d3_40 : decode prog_7_method_5_code 40 = .ok (.lconst 0, 1) := by decide +kernel
theorem d3_41 : decode prog_7_method_5_code 41 = .ok (.lcmp, 1) := by decide +kernel
theorem d3_42 : decode prog_7_method_5_code 42 = .ok (.ifCond .lt 6, 3) := by decide +kernel
theorem d3_45 : decode prog_7_method_5_code 45 = .ok (.lload 5, 2) := by decide +kernel
theorem d3_47 : decode prog_7_method_5_code 47 = .ok (.lreturn, 1) := by decide +kernel
theorem d3_48 : decode prog_7_method_5_code 48 = .ok (.goto (-28), 3) := by decide +kernel
theorem ef_3 (m : MethodId) (x0 : Addr) (x1 : Int64) : entryFrame m #[(.ref x0), (.long x1)] 7 = mkF m 0 #[rv x0, jv x1, .second, .unset, .unset, .unset, .unset] [] := by first | (simp [entryFrame, mkF, argsToLocals, Value.category]; done) | rfl
def Q3 (Z : State) (ob : Addr) (bx : Int64) (wst : Int64) (h0 : Heap) (n0 : Nat) (v : Option Value) (h : Heap) (L : List Loc) : Prop := ∃ k : Nat, (¬ own_t bx (own_w (-7046029254386353131 : Int64) k wst) < (0 : Int64)) ∧ v = some (.long (own_go (-7046029254386353131 : Int64) bx k wst).1) ∧ Fr n0 L ∧ Keep h0 h [ob] ∧ Exa Z h ob "com/example/skerry/skerry/engine/Rng" ∧ Fld Z h ob "com/example/skerry/skerry/engine/Rng" "state" "J" (.long (own_go (-7046029254386353131 : Int64) bx k wst).2)
set_option maxRecDepth 65536 in
set_option maxHeartbeats 40000000 in
theorem rm3 (l : Launch) (Z : State) (a0 : Array Value) (hw : ∀ d ∈ tables_1, d.before a0 Z = true) (ws : List Jvm.Cond) (ob : Addr) (bx : Int64) (wst : Int64) (h0 : Heap) (n0 : Nat) (Z0 : n0 ≤ h0.size) (E_ob : Exa Z h0 ob "com/example/skerry/skerry/engine/Rng") (F_state : Fld Z h0 ob "com/example/skerry/skerry/engine/Rng" "state" "J" (.long wst)) (g_ob : n0 ≤ ob) (hbp : 0 < bx.toInt) :
    MetFree l (⟨"com/example/skerry/skerry/engine/Rng", "nextLong", "(J)J"⟩ : MethodName) (head1 (Jvm.Cond.code (⟨"com/example/skerry/skerry/engine/Rng", "nextLong", "(J)J"⟩ : MethodName) prog_7_method_5_code 7 (some .long) :: ws) ({ frames := 1, cells := 0, slots := 0, locals := 14 } : Room)) (fun a U => a = #[(.ref ob), (.long bx)] ∧ Z.Warmed39 U.vm ∧ U.heap = h0) (fun _ _ _ _ _ => True) (fun _ U o U' => ∃ v L, o = .returned v ∧ Q3 Z ob bx wst h0 n0 v U'.heap L ∧ FrameEnd U o U' L ({ frames := 1, cells := 0, slots := 0, locals := 14 } : Room).cells ({ frames := 1, cells := 0, slots := 0, locals := 14 } : Room).slots) := by
  refine MetFree.of_bodySF (plainFor_of_name pn_0) hisR ?_
  intro p e s m args below meth c s₁ Bd hml0 hP hK
  obtain ⟨rfl, hZ, hh⟩ := hP
  have hx := Bd.exec
  have hby := Bd.bytes
  have hml : c.maxLocals = 7 := hml0
  have hown : s.vm.findClass "com/example/skerry/skerry/engine/Rng" = some m.cls := findClass_of_methodNamed Bd.named
  have hnm := (name_of_methodNamed Bd.named Bd.method).1
  have X0 : Stand p l e ({ frames := 1, cells := 0, slots := 0, locals := 14 } : Room) s m #[(.ref ob), (.long bx)] below meth c s₁ [] 0 0 := Stand.of_body Bd
  have e0 : s₁.heap = h0 := by rw [← hh, Bd.state]; rfl
  have N0 := Fr.nil n0
  have hlk : meth.locks = false := BodyLoose.notSynchronized Bd
  suffices hwk : Wk p.tables e below (s₁.setTop (mkF m 0 #[rv ob, jv bx, .second, .unset, .unset, .unset, .unset] [])) (fun U o => U.status = .running ∧ Ended U below o ∧ ∃ v L, o = .returned v ∧ Q3 Z ob bx wst h0 n0 v U.heap L ∧ FrameEnd s o U L 0 0) by
    obtain ⟨U, o, k1, k2⟩ := hwk
    exact ⟨U, o, castTop (ef_3 m ob bx) k1, k2⟩
  have K0 := Keep.refl h0 [ob]
  refine Wk.go (A' := s₁.setTop (mkF m 1 #[rv ob, jv bx, .second, .unset, .unset, .unset, .unset] [(.long bx)])) (fun t k => XS.lloadN X0.here hx rfl (hb hby d3_0) rfl k) ?_
  refine Wk.go (A' := s₁.setTop (mkF m 2 #[rv ob, jv bx, .second, .unset, .unset, .unset, .unset] [(.long (0 : Int64)), (.long bx)])) (fun t k => XS.lconst X0.here hx rfl (hb hby d3_1) k) ?_
  refine Wk.go (A' := s₁.setTop (mkF m 3 #[rv ob, jv bx, .second, .unset, .unset, .unset, .unset] [(.int (lcmpW bx (0 : Int64)))])) (fun t k => XS.lcmp X0.here hx rfl (hb hby d3_2) rfl k) ?_
  have hc3 : (0 : Int64) < bx := own_bpos hbp
  refine Wk.go (A' := s₁.setTop (mkF m 20 #[rv ob, jv bx, .second, .unset, .unset, .unset, .unset] [])) (fun t k => XS.ifYes X0.here hx rfl (pc0 := 3) (pc' := 20) rfl (hb hby d3_3) rfl ((if0 _ _).trans (tlt ((lw_gt _ _).mpr hc3)).2.2.1) (by decide) (by decide) k) ?_
  obtain ⟨KN, hKN⟩ := own_ends _ rfl bx hbp wst
  have loop20 : ∀ (k : Nat) (wc : Int64) (s3 : Slot) (s3' : Slot) (hs3 : (s3 = .unset ∧ s3' = .unset) ∨ ∃ w, s3 = .val (.long w) ∧ s3' = .second) (s5 : Slot) (s5' : Slot) (hs5 : (s5 = .unset ∧ s5' = .unset) ∨ ∃ w, s5 = .val (.long w) ∧ s5' = .second) (TL : State) (hL : Heap) (lL : List Loc) (XL : Stand p l e ({ frames := 1, cells := 0, slots := 0, locals := 14 } : Room) s m #[(.ref ob), (.long bx)] below meth c TL lL 0 0) (eL : TL.heap = hL) (NL : Fr n0 lL) (ZL : n0 ≤ hL.size) (KL : Keep h0 hL [ob]) (fL0 : Exa Z hL ob "com/example/skerry/skerry/engine/Rng") (fL1 : Fld Z hL ob "com/example/skerry/skerry/engine/Rng" "state" "J" (.long wc)), ((¬ own_t bx (own_w (-7046029254386353131 : Int64) k wc) < (0 : Int64)) ∧ own_go (-7046029254386353131 : Int64) bx k wc = own_go (-7046029254386353131 : Int64) bx KN wst) → Wk p.tables e below (TL.setTop (mkF m 20 #[rv ob, jv bx, .second, s3, s3', s5, s5'] [])) (fun U o => U.status = .running ∧ Ended U below o ∧ ∃ v L, o = .returned v ∧ Q3 Z ob bx wst h0 n0 v U.heap L ∧ FrameEnd s o U L 0 0) := by
    intro k
    induction k with
    | zero =>
      intro wc s3 s3' hs3 s5 s5' hs5 TL hL lL XL eL NL ZL KL fL0 fL1 hinv
      refine Wk.go (A' := TL.setTop (mkF m 21 #[rv ob, jv bx, .second, s3, s3', s5, s5'] [(.ref ob)])) (fun t k => XS.aloadN XL.here hx rfl (hb hby d3_20) rfl rfl k) ?_
      obtain ⟨cq1, kq1, q1a, q1b, q1c⟩ := isOf hZ eL fL0
      obtain ⟨_, _, ⟨T1, L1, k1, n1⟩, -, X1, ⟨Lc1, hQ1, l1, y1, z1⟩, st1⟩ := XL.virtualBack hx (y := (⟨"com/example/skerry/skerry/engine/Rng", "nextLong", "()J"⟩ : MethodName)) (z := (⟨"com/example/skerry/skerry/engine/Rng", "nextLong", "()J"⟩ : MethodName)) hown (mvT hZ (tw17 hw)) (mvT hZ (tw18 hw)) (notFace_of_selects (args := #[]) (mvT hZ (tw20 hw))) (mvT hZ (tw20 hw)) (mvT hZ (tw19 hw)) (by decide) (backOf (W := 0) (rm4 l Z a0 hw [] ob wc hL n0 ZL fL0 fL1 g_ob ) hZ (tw21 hw) (tw3 hw) (by decide) (by decide)) q1a q1c (g := (mkF m 21 #[rv ob, jv bx, .second, s3, s3', s5, s5'] [(.ref ob)])) rfl (by rw [hml]; rfl) (Steps.refl _) (argsL := []) (rest := []) (lenOf pd_0 rfl) rfl (by show 2 * 0 + _ ≤ _; exact Nat.le_of_eq rfl) (hb hby d3_21) (fun _ _ => ⟨rfl, eL, (by decide : 0 + 0 ≤ _), (by decide : 0 + 0 ≤ _)⟩)
      dsimp only [Pt.U, Pt.locs, Pt.cells, Pt.slots] at X1 l1 y1 z1 st1 hQ1
      subst l1 y1 z1
      obtain ⟨rfl, N1q, Kq1, Eq1, Fq1_state⟩ := hQ1
      have N1 := Fr.app NL N1q
      have f2 := fL0.keep Kq1
      have Zp1 : n0 ≤ T1.heap.size := Nat.le_trans ZL Kq1.1
      have Kt1 := KL.trans Kq1 (allS (Or.inl (List.mem_of_getElem? (i := 0) rfl)) all0)
      refine Wk.go (A' := T1.setTop (mkF m 24 #[rv ob, jv bx, .second, s3, s3', s5, s5'] [(.long (f_next ob wc))])) (fun t k => st1.trans k) ?_
      refine Wk.go (A' := T1.setTop (mkF m 25 #[rv ob, jv bx, .second, s3, s3', s5, s5'] [(.int (1 : Int32)), (.long (f_next ob wc))])) (fun t k => XS.iconst X1.here hx rfl (hb hby d3_24) k) ?_
      refine Wk.go (A' := T1.setTop (mkF m 26 #[rv ob, jv bx, .second, s3, s3', s5, s5'] [(.long (own_bits wc))])) (fun t k => XS.lushr X1.here hx rfl (hb hby d3_25) rfl k) ?_
      refine Wk.go (A' := T1.setTop (mkF m 27 #[rv ob, jv bx, .second, jv (own_bits wc), .second, s5, s5'] [])) (fun t k => XS.lstoreN X1.here hx rfl (hb hby d3_26) rfl (l' := #[rv ob, jv bx, .second, jv (own_bits wc), .second, s5, s5']) (by rcases hs3 with ⟨rfl, rfl⟩ | ⟨w, rfl, rfl⟩ <;> rfl) k) ?_
      refine Wk.go (A' := T1.setTop (mkF m 28 #[rv ob, jv bx, .second, jv (own_bits wc), .second, s5, s5'] [(.long (own_bits wc))])) (fun t k => XS.lloadN X1.here hx rfl (hb hby d3_27) rfl k) ?_
      refine Wk.go (A' := T1.setTop (mkF m 29 #[rv ob, jv bx, .second, jv (own_bits wc), .second, s5, s5'] [(.long bx), (.long (own_bits wc))])) (fun t k => XS.lloadN X1.here hx rfl (hb hby d3_28) rfl k) ?_
      refine Wk.go (A' := T1.setTop (mkF m 30 #[rv ob, jv bx, .second, jv (own_bits wc), .second, s5, s5'] [(.long (own_rem bx wc))])) (fun t k => XS.lrem X1.here hx rfl (hb hby d3_29) rfl (own_bnz hbp) k) ?_
      refine Wk.go (A' := T1.setTop (mkF m 32 #[rv ob, jv bx, .second, jv (own_bits wc), .second, jv (own_rem bx wc), .second] [])) (fun t k => XS.lstore X1.here hx rfl (hb hby d3_30) rfl (l' := #[rv ob, jv bx, .second, jv (own_bits wc), .second, jv (own_rem bx wc), .second]) (by rcases hs5 with ⟨rfl, rfl⟩ | ⟨w, rfl, rfl⟩ <;> rfl) k) ?_
      refine Wk.go (A' := T1.setTop (mkF m 33 #[rv ob, jv bx, .second, jv (own_bits wc), .second, jv (own_rem bx wc), .second] [(.long (own_bits wc))])) (fun t k => XS.lloadN X1.here hx rfl (hb hby d3_32) rfl k) ?_
      refine Wk.go (A' := T1.setTop (mkF m 35 #[rv ob, jv bx, .second, jv (own_bits wc), .second, jv (own_rem bx wc), .second] [(.long (own_rem bx wc)), (.long (own_bits wc))])) (fun t k => XS.lload X1.here hx rfl (hb hby d3_33) rfl k) ?_
      refine Wk.go (A' := T1.setTop (mkF m 36 #[rv ob, jv bx, .second, jv (own_bits wc), .second, jv (own_rem bx wc), .second] [(.long ((own_bits wc) - (own_rem bx wc)))])) (fun t k => XS.lsub X1.here hx rfl (hb hby d3_35) rfl k) ?_
      refine Wk.go (A' := T1.setTop (mkF m 37 #[rv ob, jv bx, .second, jv (own_bits wc), .second, jv (own_rem bx wc), .second] [(.long bx), (.long ((own_bits wc) - (own_rem bx wc)))])) (fun t k => XS.lloadN X1.here hx rfl (hb hby d3_36) rfl k) ?_
      refine Wk.go (A' := T1.setTop (mkF m 38 #[rv ob, jv bx, .second, jv (own_bits wc), .second, jv (own_rem bx wc), .second] [(.long (1 : Int64)), (.long bx), (.long ((own_bits wc) - (own_rem bx wc)))])) (fun t k => XS.lconst X1.here hx rfl (hb hby d3_37) k) ?_
      refine Wk.go (A' := T1.setTop (mkF m 39 #[rv ob, jv bx, .second, jv (own_bits wc), .second, jv (own_rem bx wc), .second] [(.long (bx - (1 : Int64))), (.long ((own_bits wc) - (own_rem bx wc)))])) (fun t k => XS.lsub X1.here hx rfl (hb hby d3_38) rfl k) ?_
      refine Wk.go (A' := T1.setTop (mkF m 40 #[rv ob, jv bx, .second, jv (own_bits wc), .second, jv (own_rem bx wc), .second] [(.long (own_t bx wc))])) (fun t k => XS.ladd X1.here hx rfl (hb hby d3_39) rfl k) ?_
      refine Wk.go (A' := T1.setTop (mkF m 41 #[rv ob, jv bx, .second, jv (own_bits wc), .second, jv (own_rem bx wc), .second] [(.long (0 : Int64)), (.long (own_t bx wc))])) (fun t k => XS.lconst X1.here hx rfl (hb hby d3_40) k) ?_
      refine Wk.go (A' := T1.setTop (mkF m 42 #[rv ob, jv bx, .second, jv (own_bits wc), .second, jv (own_rem bx wc), .second] [(.int (lcmpW (own_t bx wc) (0 : Int64)))])) (fun t k => XS.lcmp X1.here hx rfl (hb hby d3_41) rfl k) ?_
      have hc42 : ¬ ((own_t bx wc) < (0 : Int64)) := own_w0 hinv.1
      refine Wk.go (A' := T1.setTop (mkF m 45 #[rv ob, jv bx, .second, jv (own_bits wc), .second, jv (own_rem bx wc), .second] [])) (fun t k => XS.ifNo X1.here hx rfl (hb hby d3_42) rfl ((if0 _ _).trans (flt (mt (lw_lt _ _).mp hc42)).1) k) ?_
      refine Wk.go (A' := T1.setTop (mkF m 47 #[rv ob, jv bx, .second, jv (own_bits wc), .second, jv (own_rem bx wc), .second] [(.long (own_rem bx wc))])) (fun t k => XS.lload X1.here hx rfl (hb hby d3_45) rfl k) ?_
      refine own_fin (Qv := Q3 Z ob bx wst h0 n0) (v := some (.long (own_rem bx wc))) X1 hlk (fun h => by rw [Bd.returns] at h; cases h) (fun fs hr => X1.lreturnOut hx Bd.returns (hb hby d3_47) hr) ?_ (by decide) (by decide)
      have hg : own_go (-7046029254386353131 : Int64) bx KN wst = (own_rem bx wc, wc + (-7046029254386353131 : Int64)) := hinv.2.symm.trans (own_go_acc _ bx wc _ (own_w0 hinv.1))
      show Q3 Z ob bx wst h0 n0 _ T1.heap _
      refine ⟨KN, hKN, ?_⟩
      rw [hg]
      exact ⟨rfl, N1, Kt1, Eq1, Fq1_state⟩
    | succ k ih =>
      intro wc s3 s3' hs3 s5 s5' hs5 TL hL lL XL eL NL ZL KL fL0 fL1 hinv
      refine Wk.go (A' := TL.setTop (mkF m 21 #[rv ob, jv bx, .second, s3, s3', s5, s5'] [(.ref ob)])) (fun t k => XS.aloadN XL.here hx rfl (hb hby d3_20) rfl rfl k) ?_
      obtain ⟨cq3, kq3, q3a, q3b, q3c⟩ := isOf hZ eL fL0
      obtain ⟨_, _, ⟨T3, L3, k3, n3⟩, -, X3, ⟨Lc3, hQ3, l3, y3, z3⟩, st3⟩ := XL.virtualBack hx (y := (⟨"com/example/skerry/skerry/engine/Rng", "nextLong", "()J"⟩ : MethodName)) (z := (⟨"com/example/skerry/skerry/engine/Rng", "nextLong", "()J"⟩ : MethodName)) hown (mvT hZ (tw17 hw)) (mvT hZ (tw18 hw)) (notFace_of_selects (args := #[]) (mvT hZ (tw20 hw))) (mvT hZ (tw20 hw)) (mvT hZ (tw19 hw)) (by decide) (backOf (W := 0) (rm4 l Z a0 hw [] ob wc hL n0 ZL fL0 fL1 g_ob ) hZ (tw21 hw) (tw3 hw) (by decide) (by decide)) q3a q3c (g := (mkF m 21 #[rv ob, jv bx, .second, s3, s3', s5, s5'] [(.ref ob)])) rfl (by rw [hml]; rfl) (Steps.refl _) (argsL := []) (rest := []) (lenOf pd_0 rfl) rfl (by show 2 * 0 + _ ≤ _; exact Nat.le_of_eq rfl) (hb hby d3_21) (fun _ _ => ⟨rfl, eL, (by decide : 0 + 0 ≤ _), (by decide : 0 + 0 ≤ _)⟩)
      dsimp only [Pt.U, Pt.locs, Pt.cells, Pt.slots] at X3 l3 y3 z3 st3 hQ3
      subst l3 y3 z3
      obtain ⟨rfl, N3q, Kq3, Eq3, Fq3_state⟩ := hQ3
      have N3 := Fr.app NL N3q
      have f4 := fL0.keep Kq3
      have Zp3 : n0 ≤ T3.heap.size := Nat.le_trans ZL Kq3.1
      have Kt3 := KL.trans Kq3 (allS (Or.inl (List.mem_of_getElem? (i := 0) rfl)) all0)
      refine Wk.go (A' := T3.setTop (mkF m 24 #[rv ob, jv bx, .second, s3, s3', s5, s5'] [(.long (f_next ob wc))])) (fun t k => st3.trans k) ?_
      refine Wk.go (A' := T3.setTop (mkF m 25 #[rv ob, jv bx, .second, s3, s3', s5, s5'] [(.int (1 : Int32)), (.long (f_next ob wc))])) (fun t k => XS.iconst X3.here hx rfl (hb hby d3_24) k) ?_
      refine Wk.go (A' := T3.setTop (mkF m 26 #[rv ob, jv bx, .second, s3, s3', s5, s5'] [(.long (own_bits wc))])) (fun t k => XS.lushr X3.here hx rfl (hb hby d3_25) rfl k) ?_
      refine Wk.go (A' := T3.setTop (mkF m 27 #[rv ob, jv bx, .second, jv (own_bits wc), .second, s5, s5'] [])) (fun t k => XS.lstoreN X3.here hx rfl (hb hby d3_26) rfl (l' := #[rv ob, jv bx, .second, jv (own_bits wc), .second, s5, s5']) (by rcases hs3 with ⟨rfl, rfl⟩ | ⟨w, rfl, rfl⟩ <;> rfl) k) ?_
      refine Wk.go (A' := T3.setTop (mkF m 28 #[rv ob, jv bx, .second, jv (own_bits wc), .second, s5, s5'] [(.long (own_bits wc))])) (fun t k => XS.lloadN X3.here hx rfl (hb hby d3_27) rfl k) ?_
      refine Wk.go (A' := T3.setTop (mkF m 29 #[rv ob, jv bx, .second, jv (own_bits wc), .second, s5, s5'] [(.long bx), (.long (own_bits wc))])) (fun t k => XS.lloadN X3.here hx rfl (hb hby d3_28) rfl k) ?_
      refine Wk.go (A' := T3.setTop (mkF m 30 #[rv ob, jv bx, .second, jv (own_bits wc), .second, s5, s5'] [(.long (own_rem bx wc))])) (fun t k => XS.lrem X3.here hx rfl (hb hby d3_29) rfl (own_bnz hbp) k) ?_
      refine Wk.go (A' := T3.setTop (mkF m 32 #[rv ob, jv bx, .second, jv (own_bits wc), .second, jv (own_rem bx wc), .second] [])) (fun t k => XS.lstore X3.here hx rfl (hb hby d3_30) rfl (l' := #[rv ob, jv bx, .second, jv (own_bits wc), .second, jv (own_rem bx wc), .second]) (by rcases hs5 with ⟨rfl, rfl⟩ | ⟨w, rfl, rfl⟩ <;> rfl) k) ?_
      refine Wk.go (A' := T3.setTop (mkF m 33 #[rv ob, jv bx, .second, jv (own_bits wc), .second, jv (own_rem bx wc), .second] [(.long (own_bits wc))])) (fun t k => XS.lloadN X3.here hx rfl (hb hby d3_32) rfl k) ?_
      refine Wk.go (A' := T3.setTop (mkF m 35 #[rv ob, jv bx, .second, jv (own_bits wc), .second, jv (own_rem bx wc), .second] [(.long (own_rem bx wc)), (.long (own_bits wc))])) (fun t k => XS.lload X3.here hx rfl (hb hby d3_33) rfl k) ?_
      refine Wk.go (A' := T3.setTop (mkF m 36 #[rv ob, jv bx, .second, jv (own_bits wc), .second, jv (own_rem bx wc), .second] [(.long ((own_bits wc) - (own_rem bx wc)))])) (fun t k => XS.lsub X3.here hx rfl (hb hby d3_35) rfl k) ?_
      refine Wk.go (A' := T3.setTop (mkF m 37 #[rv ob, jv bx, .second, jv (own_bits wc), .second, jv (own_rem bx wc), .second] [(.long bx), (.long ((own_bits wc) - (own_rem bx wc)))])) (fun t k => XS.lloadN X3.here hx rfl (hb hby d3_36) rfl k) ?_
      refine Wk.go (A' := T3.setTop (mkF m 38 #[rv ob, jv bx, .second, jv (own_bits wc), .second, jv (own_rem bx wc), .second] [(.long (1 : Int64)), (.long bx), (.long ((own_bits wc) - (own_rem bx wc)))])) (fun t k => XS.lconst X3.here hx rfl (hb hby d3_37) k) ?_
      refine Wk.go (A' := T3.setTop (mkF m 39 #[rv ob, jv bx, .second, jv (own_bits wc), .second, jv (own_rem bx wc), .second] [(.long (bx - (1 : Int64))), (.long ((own_bits wc) - (own_rem bx wc)))])) (fun t k => XS.lsub X3.here hx rfl (hb hby d3_38) rfl k) ?_
      refine Wk.go (A' := T3.setTop (mkF m 40 #[rv ob, jv bx, .second, jv (own_bits wc), .second, jv (own_rem bx wc), .second] [(.long (own_t bx wc))])) (fun t k => XS.ladd X3.here hx rfl (hb hby d3_39) rfl k) ?_
      refine Wk.go (A' := T3.setTop (mkF m 41 #[rv ob, jv bx, .second, jv (own_bits wc), .second, jv (own_rem bx wc), .second] [(.long (0 : Int64)), (.long (own_t bx wc))])) (fun t k => XS.lconst X3.here hx rfl (hb hby d3_40) k) ?_
      refine Wk.go (A' := T3.setTop (mkF m 42 #[rv ob, jv bx, .second, jv (own_bits wc), .second, jv (own_rem bx wc), .second] [(.int (lcmpW (own_t bx wc) (0 : Int64)))])) (fun t k => XS.lcmp X3.here hx rfl (hb hby d3_41) rfl k) ?_
      by_cases hc42 : (own_t bx wc) < (0 : Int64)
      · refine Wk.go (A' := T3.setTop (mkF m 48 #[rv ob, jv bx, .second, jv (own_bits wc), .second, jv (own_rem bx wc), .second] [])) (fun t k => XS.ifYes X3.here hx rfl (pc0 := 42) (pc' := 48) rfl (hb hby d3_42) rfl ((if0 _ _).trans (tlt ((lw_lt _ _).mpr hc42)).1) (by decide) (by decide) k) ?_
        refine Wk.go (A' := T3.setTop (mkF m 20 #[rv ob, jv bx, .second, jv (own_bits wc), .second, jv (own_rem bx wc), .second] [])) (fun t k => XS.goto X3.here hx rfl (pc0 := 48) (pc' := 20) rfl (hb hby d3_48) (by decide) (by decide) k) ?_
        exact ih _ (.val (.long (own_bits wc))) .second (Or.inr ⟨_, rfl, rfl⟩) (.val (.long (own_rem bx wc))) .second (Or.inr ⟨_, rfl, rfl⟩) T3 T3.heap _ X3 rfl N3 Zp3 Kt3 Eq3 Fq3_state (own_turn hinv hc42)
      · refine Wk.go (A' := T3.setTop (mkF m 45 #[rv ob, jv bx, .second, jv (own_bits wc), .second, jv (own_rem bx wc), .second] [])) (fun t k => XS.ifNo X3.here hx rfl (hb hby d3_42) rfl ((if0 _ _).trans (flt (mt (lw_lt _ _).mp hc42)).1) k) ?_
        refine Wk.go (A' := T3.setTop (mkF m 47 #[rv ob, jv bx, .second, jv (own_bits wc), .second, jv (own_rem bx wc), .second] [(.long (own_rem bx wc))])) (fun t k => XS.lload X3.here hx rfl (hb hby d3_45) rfl k) ?_
        refine own_fin (Qv := Q3 Z ob bx wst h0 n0) (v := some (.long (own_rem bx wc))) X3 hlk (fun h => by rw [Bd.returns] at h; cases h) (fun fs hr => X3.lreturnOut hx Bd.returns (hb hby d3_47) hr) ?_ (by decide) (by decide)
        have hg : own_go (-7046029254386353131 : Int64) bx KN wst = (own_rem bx wc, wc + (-7046029254386353131 : Int64)) := hinv.2.symm.trans (own_go_acc _ bx wc _ hc42)
        show Q3 Z ob bx wst h0 n0 _ T3.heap _
        refine ⟨KN, hKN, ?_⟩
        rw [hg]
        exact ⟨rfl, N3, Kt3, Eq3, Fq3_state⟩
  exact loop20 KN  wst .unset .unset (Or.inl ⟨rfl, rfl⟩) .unset .unset (Or.inl ⟨rfl, rfl⟩) s₁ h0 _ X0 e0 N0 Z0 K0 E_ob F_state (⟨hKN, rfl⟩)
theorem own_shz (y : Int64) (q : Int32) (h0 : 0 ≤ y.toInt) : 0 ≤ ((y.toUInt64 >>> (q &&& 0x3f).toInt64.toUInt64).toInt64).toInt := by
  by_cases hp : 0 < q.toBitVec.toNat % 64
  · rw [c_lushr y q _ rfl hp]
    have := rng64 y
    exact Int.ediv_nonneg (by omega) (Int.natCast_nonneg _)
  · have e : q &&& 0x3f = 0 := by
      apply Int32.toBitVec_inj.mp
      apply BitVec.eq_of_toNat_eq
      have : (q &&& 0x3f).toBitVec.toNat = q.toBitVec.toNat % 64 := by
        rw [Int32.toBitVec_and, BitVec.toNat_and]
        exact Nat.and_two_pow_sub_one_eq_mod _ 6
      rw [this]
      show _ = 0
      omega
    rw [e]
    have : (y.toUInt64 >>> (0 : Int32).toInt64.toUInt64).toInt64 = y := by
      show (y.toUInt64 >>> (0 : UInt64)).toInt64 = y
      simp
    rw [this]; exact h0
theorem own_bb (x : Int64) (q : Int32) (b : Int64) (h : (((x &&& (9223372036854775807 : Int64)).toUInt64 >>> (q &&& 0x3f).toInt64.toUInt64).toInt64) = b) (hn : ¬ b = (0 : Int64)) : 0 < b.toInt := by
  have h1 := c_maskL x 9223372036854775807 63 (by decide) (by decide)
  have h2 := own_shz (x &&& (9223372036854775807 : Int64)) q (by omega)
  rw [h] at h2
  have e0 : (0 : Int64).toInt = 0 := by decide
  have : b.toInt ≠ 0 := fun q => hn (Int64.toInt_inj.mp (by rw [q, e0]))
  omega
theorem own_acc_int {b B R M x y : Int} (hb : 0 < b) (dM : b * y + M = 9223372036854775808) (m3 : 0 ≤ M) (m4 : M < b) (dB : b * x + R = B) (r1 : 0 ≤ R) (r2 : R < b) : 9223372036854775807 - M < B ↔ 9223372036854775808 < B - R + b := by
  constructor
  · intro h
    have hxy : y ≤ x := by
      by_cases hc : y ≤ x
      · exact hc
      · exfalso
        have := Int.mul_le_mul_of_nonneg_left (show x + 1 ≤ y by omega) (show 0 ≤ b by omega)
        rw [Int.mul_add, Int.mul_one] at this
        omega
    have := Int.mul_le_mul_of_nonneg_left hxy (show 0 ≤ b by omega)
    omega
  · intro h
    have hxy : y ≤ x := by
      by_cases hc : y ≤ x
      · exact hc
      · exfalso
        have := Int.mul_le_mul_of_nonneg_left (show x + 1 ≤ y by omega) (show 0 ≤ b by omega)
        rw [Int.mul_add, Int.mul_one] at this
        omega
    have := Int.mul_le_mul_of_nonneg_left hxy (show 0 ≤ b by omega)
    omega
theorem own_acc_long (MX u b rm B R : Int64) (eM : MX.toInt = 9223372036854775807) (hb : 0 < b.toInt) (h1 : u.toInt = 9223372036854775807 % b.toInt) (h2 : rm.toInt = (u + (1 : Int64)).toInt % b.toInt) (hB : 0 ≤ B.toInt) (q1 : R.toInt = B.toInt % b.toInt) : (MX - rm) < B ↔ 9223372036854775808 < B.toInt - R.toInt + b.toInt := by
  have e1 : (1 : Int64).toInt = 1 := by decide
  have qb := rng64 b
  have m1 := Int.emod_nonneg 9223372036854775807 (show b.toInt ≠ 0 by omega)
  have m2 := Int.emod_lt_of_pos 9223372036854775807 hb
  have a1 := c_ladd u 1
  have r1 := rng64 (u + 1)
  have eu : (u + 1).toInt = u.toInt + 1 := by
    rw [← h1] at m1 m2
    clear h1 h2 q1
    omega
  rw [eu, h1, Int.emod_add_emod, show (9223372036854775807 : Int) + 1 = 9223372036854775808 by decide] at h2
  have m3 := Int.emod_nonneg 9223372036854775808 (show b.toInt ≠ 0 by omega)
  have m4 := Int.emod_lt_of_pos 9223372036854775808 hb
  have dM := Int.mul_ediv_add_emod 9223372036854775808 b.toInt
  have dB := Int.mul_ediv_add_emod B.toInt b.toInt
  have m5 := Int.emod_nonneg B.toInt (show b.toInt ≠ 0 by omega)
  have m6 := Int.emod_lt_of_pos B.toInt hb
  rw [← h2] at m3 m4 dM
  rw [← q1] at m5 m6 dB
  have a2 := c_lsub MX rm
  have r2 := rng64 (MX - rm)
  have es : (MX - rm).toInt = 9223372036854775807 - rm.toInt := by
    clear dM dB h1 h2 q1 m1 m2
    omega
  rw [Int64.lt_iff_toInt_lt, es]
  exact own_acc_int hb dM m3 m4 dB m5 m6
/-- the law's own test says the same as the method's -/
theorem own_accept (b w rm : Int64) (hb : 0 < b.toInt) (MX : Int64) (eM : MX.toInt = 9223372036854775807) (hr : ((MX - (MX / b) * b) + (1 : Int64)) - (((MX - (MX / b) * b) + (1 : Int64)) / b) * b = rm) :
    (MX - rm) < own_bits w ↔ own_t b w < (0 : Int64) := by
  have h1 := (c_lrem MX b b.toInt rfl).1 (by rw [eM]; decide)
  rw [eM] at h1
  generalize MX - (MX / b) * b = u at *
  have m1 := Int.emod_nonneg 9223372036854775807 (show b.toInt ≠ 0 by omega)
  have m2 := Int.emod_lt_of_pos 9223372036854775807 hb
  have h2 := (c_lrem (u + 1) b b.toInt rfl).1 (by
    have a1 := c_ladd u 1
    have r1 := rng64 (u + 1)
    have qb := rng64 b
    have e1 : (1 : Int64).toInt = 1 := by decide
    rw [← h1] at m1 m2
    clear h1 hr
    omega)
  rw [hr] at h2
  rw [own_t_lt b w hb]
  exact own_acc_long MX u b rm (own_bits w) (own_rem b w) eM hb h1 h2 (own_bits_rng w) (own_rem_eq b w hb).1
theorem tw0 {Z : State} {a0 : Array Value} (hw : ∀ d ∈ tables_1, d.before a0 Z = true) : (Jvm.Cond.constantLong "com/example/skerry/skerry/engine/RngNextLong303PinLaw" (7 : Nat) (9223372036854775807 : Int64)).before a0 Z = true := hw _ (List.mem_of_getElem? (i := 0) rfl)
theorem tw1 {Z : State} {a0 : Array Value} (hw : ∀ d ∈ tables_1, d.before a0 Z = true) : (Jvm.Cond.classLink "com/example/skerry/skerry/engine/RngNextLong303PinLaw" (9 : Nat) "com/example/skerry/skerry/engine/Rng").before a0 Z = true := hw _ (List.mem_of_getElem? (i := 1) rfl)
theorem tw4 {Z : State} {a0 : Array Value} (hw : ∀ d ∈ tables_1, d.before a0 Z = true) : (Jvm.Cond.methodLink "com/example/skerry/skerry/engine/RngNextLong303PinLaw" (11 : Nat) ({ cls := "com/example/skerry/skerry/engine/Rng", name := "<init>", desc := "(J)V" } : Jvm.MethodName)).before a0 Z = true := hw _ (List.mem_of_getElem? (i := 4) rfl)
theorem tw6 {Z : State} {a0 : Array Value} (hw : ∀ d ∈ tables_1, d.before a0 Z = true) : (Jvm.Cond.code ({ cls := "com/example/skerry/skerry/engine/Rng", name := "<init>", desc := "(J)V" } : Jvm.MethodName) prog_7_method_1_code (3 : Nat) (Option.none : Option Jvm.ClassFile.FieldType)).before a0 Z = true := hw _ (List.mem_of_getElem? (i := 6) rfl)
theorem pd_1 : parseMethodDescriptor "(J)V" = some ⟨[.long], none⟩ := by decide +kernel
theorem tw5 {Z : State} {a0 : Array Value} (hw : ∀ d ∈ tables_1, d.before a0 Z = true) : (Jvm.Cond.instanceMethod ({ cls := "com/example/skerry/skerry/engine/Rng", name := "<init>", desc := "(J)V" } : Jvm.MethodName)).before a0 Z = true := hw _ (List.mem_of_getElem? (i := 5) rfl)
theorem tw12 {Z : State} {a0 : Array Value} (hw : ∀ d ∈ tables_1, d.before a0 Z = true) : (Jvm.Cond.methodLink "com/example/skerry/skerry/engine/RngNextLong303PinLaw" (14 : Nat) ({ cls := "com/example/skerry/skerry/engine/Rng", name := "nextLong", desc := "(J)J" } : Jvm.MethodName)).before a0 Z = true := hw _ (List.mem_of_getElem? (i := 12) rfl)
theorem tw16 {Z : State} {a0 : Array Value} (hw : ∀ d ∈ tables_1, d.before a0 Z = true) : (Jvm.Cond.code ({ cls := "com/example/skerry/skerry/engine/Rng", name := "nextLong", desc := "(J)J" } : Jvm.MethodName) prog_7_method_5_code (7 : Nat) (Option.some Jvm.ClassFile.FieldType.long)).before a0 Z = true := hw _ (List.mem_of_getElem? (i := 16) rfl)
theorem pd_2 : parseMethodDescriptor "(J)J" = some ⟨[.long], some .long⟩ := by decide +kernel
theorem tw15 {Z : State} {a0 : Array Value} (hw : ∀ d ∈ tables_1, d.before a0 Z = true) : (Jvm.Cond.selects "com/example/skerry/skerry/engine/Rng" ({ cls := "com/example/skerry/skerry/engine/Rng", name := "nextLong", desc := "(J)J" } : Jvm.MethodName) ({ cls := "com/example/skerry/skerry/engine/Rng", name := "nextLong", desc := "(J)J" } : Jvm.MethodName)).before a0 Z = true := hw _ (List.mem_of_getElem? (i := 15) rfl)
theorem tw13 {Z : State} {a0 : Array Value} (hw : ∀ d ∈ tables_1, d.before a0 Z = true) : (Jvm.Cond.declares ({ cls := "com/example/skerry/skerry/engine/Rng", name := "nextLong", desc := "(J)J" } : Jvm.MethodName)).before a0 Z = true := hw _ (List.mem_of_getElem? (i := 13) rfl)
theorem tw14 {Z : State} {a0 : Array Value} (hw : ∀ d ∈ tables_1, d.before a0 Z = true) : (Jvm.Cond.instanceMethod ({ cls := "com/example/skerry/skerry/engine/Rng", name := "nextLong", desc := "(J)J" } : Jvm.MethodName)).before a0 Z = true := hw _ (List.mem_of_getElem? (i := 14) rfl)
theorem tw25 {Z : State} {a0 : Array Value} (hw : ∀ d ∈ tables_1, d.before a0 Z = true) : (Jvm.Cond.methodLink "com/example/skerry/skerry/engine/RngNextLong303PinLaw" (18 : Nat) ({ cls := "com/example/skerry/skerry/engine/Rng", name := "nextLong", desc := "()J" } : Jvm.MethodName)).before a0 Z = true := hw _ (List.mem_of_getElem? (i := 25) rfl)
theorem tw26 {Z : State} {a0 : Array Value} (hw : ∀ d ∈ tables_1, d.before a0 Z = true) : (Jvm.Cond.methodLink "com/example/skerry/skerry/engine/RngNextLong303PinLaw" (21 : Nat) ({ cls := "com/example/skerry/skerry/engine/Rng", name := "state", desc := "()J" } : Jvm.MethodName)).before a0 Z = true := hw _ (List.mem_of_getElem? (i := 26) rfl)
theorem tw30 {Z : State} {a0 : Array Value} (hw : ∀ d ∈ tables_1, d.before a0 Z = true) : (Jvm.Cond.code ({ cls := "com/example/skerry/skerry/engine/Rng", name := "state", desc := "()J" } : Jvm.MethodName) prog_7_method_2_code (1 : Nat) (Option.some Jvm.ClassFile.FieldType.long)).before a0 Z = true := hw _ (List.mem_of_getElem? (i := 30) rfl)
theorem tw29 {Z : State} {a0 : Array Value} (hw : ∀ d ∈ tables_1, d.before a0 Z = true) : (Jvm.Cond.selects "com/example/skerry/skerry/engine/Rng" ({ cls := "com/example/skerry/skerry/engine/Rng", name := "state", desc := "()J" } : Jvm.MethodName) ({ cls := "com/example/skerry/skerry/engine/Rng", name := "state", desc := "()J" } : Jvm.MethodName)).before a0 Z = true := hw _ (List.mem_of_getElem? (i := 29) rfl)
theorem tw27 {Z : State} {a0 : Array Value} (hw : ∀ d ∈ tables_1, d.before a0 Z = true) : (Jvm.Cond.declares ({ cls := "com/example/skerry/skerry/engine/Rng", name := "state", desc := "()J" } : Jvm.MethodName)).before a0 Z = true := hw _ (List.mem_of_getElem? (i := 27) rfl)
theorem tw28 {Z : State} {a0 : Array Value} (hw : ∀ d ∈ tables_1, d.before a0 Z = true) : (Jvm.Cond.instanceMethod ({ cls := "com/example/skerry/skerry/engine/Rng", name := "state", desc := "()J" } : Jvm.MethodName)).before a0 Z = true := hw _ (List.mem_of_getElem? (i := 28) rfl)
theorem pn_1 : plainName "com/example/skerry/skerry/engine/RngNextLong303PinLaw" = true := by first | (simp [plainName, overriddenIn]; done) | decide +kernel
theorem ef_0 (m : MethodId) (x0 : Int64) (x1 : Int64) (x2 : Int32) : entryFrame m #[(.long x0), (.long x1), (.int x2)] maxLocals = mkF m 0 #[jv x0, .second, jv x1, .second, iv x2, .unset, .unset, .unset, .unset, .unset, .unset, .unset, .unset, .unset, .unset, .unset, .unset, .unset] [] := by first | (simp [entryFrame, mkF, argsToLocals, Value.category, maxLocals]; done) | rfl
def Q0 (Z : State) (sd : Int64) (xx : Int64) (kk : Int32)  (h0 : Heap) (n0 : Nat) (v : Option Value) (h : Heap) (L : List Loc) : Prop := v = some (.int 1) ∧ Fr n0 L
set_option maxRecDepth 65536 in
set_option maxHeartbeats 40000000 in
theorem rm0 (l : Launch) (Z : State) (a0 : Array Value) (hw : ∀ d ∈ tables_1, d.before a0 Z = true) (ws : List Jvm.Cond) (sd : Int64) (xx : Int64) (kk : Int32)  (h0 : Heap) (n0 : Nat) (Z0 : n0 ≤ h0.size)  :
    MetFree l x (head1 (Jvm.Cond.code x code maxLocals ret :: ws) room_1) (fun a U => a = #[(.long sd), (.long xx), (.int kk)] ∧ Z.Warmed39 U.vm ∧ U.heap = h0) (fun _ _ _ _ _ => True) (fun _ U o U' => ∃ v L, o = .returned v ∧ Q0 Z sd xx kk h0 n0 v U'.heap L ∧ FrameEnd U o U' L 3 3) := by
  refine MetFree.of_bodySF (plainFor_of_name pn_1) hisR ?_
  intro p e s m args below meth c s₁ Bd hml0 hP hK
  obtain ⟨rfl, hZ, hh⟩ := hP
  have hx := Bd.exec
  have hby := Bd.bytes
  have hml : c.maxLocals = 18 := hml0
  have hown : s.vm.findClass "com/example/skerry/skerry/engine/RngNextLong303PinLaw" = some m.cls := findClass_of_methodNamed Bd.named
  have hnm := (name_of_methodNamed Bd.named Bd.method).1
  have X0 : Stand p l e room_1 s m #[(.long sd), (.long xx), (.int kk)] below meth c s₁ [] 0 0 := Stand.of_body Bd
  have e0 : s₁.heap = h0 := by rw [← hh, Bd.state]; rfl
  have N0 := Fr.nil n0
  have hlk : meth.locks = false := BodyLoose.notSynchronized Bd
  suffices hwk : Wk p.tables e below (s₁.setTop (mkF m 0 #[jv sd, .second, jv xx, .second, iv kk, .unset, .unset, .unset, .unset, .unset, .unset, .unset, .unset, .unset, .unset, .unset, .unset, .unset] [])) (fun U o => U.status = .running ∧ Ended U below o ∧ ∃ v L, o = .returned v ∧ Q0 Z sd xx kk h0 n0 v U.heap L ∧ FrameEnd s o U L 3 3) by
    obtain ⟨U, o, k1, k2⟩ := hwk
    exact ⟨U, o, castTop (ef_0 m sd xx kk) k1, k2⟩
  refine Wk.go (A' := s₁.setTop (mkF m 1 #[jv sd, .second, jv xx, .second, iv kk, .unset, .unset, .unset, .unset, .unset, .unset, .unset, .unset, .unset, .unset, .unset, .unset, .unset] [(.long xx)])) (fun t k => XS.lloadN X0.here hx rfl (hb hby at_0) rfl k) ?_
  refine Wk.go (A' := s₁.setTop (mkF m 4 #[jv sd, .second, jv xx, .second, iv kk, .unset, .unset, .unset, .unset, .unset, .unset, .unset, .unset, .unset, .unset, .unset, .unset, .unset] [(.long (9223372036854775807 : Int64)), (.long xx)])) (fun t k => X0.ldc2Long hx hown (mvT hZ (tw0 hw)) (g := (mkF m 1 #[jv sd, .second, jv xx, .second, iv kk, .unset, .unset, .unset, .unset, .unset, .unset, .unset, .unset, .unset, .unset, .unset, .unset, .unset] [(.long xx)])) rfl (hb hby at_1) t k) ?_
  refine Wk.go (A' := s₁.setTop (mkF m 5 #[jv sd, .second, jv xx, .second, iv kk, .unset, .unset, .unset, .unset, .unset, .unset, .unset, .unset, .unset, .unset, .unset, .unset, .unset] [(.long (xx &&& (9223372036854775807 : Int64)))])) (fun t k => XS.land X0.here hx rfl (hb hby at_4) rfl k) ?_
  refine Wk.go (A' := s₁.setTop (mkF m 7 #[jv sd, .second, jv xx, .second, iv kk, .unset, .unset, .unset, .unset, .unset, .unset, .unset, .unset, .unset, .unset, .unset, .unset, .unset] [(.int kk), (.long (xx &&& (9223372036854775807 : Int64)))])) (fun t k => XS.iload X0.here hx rfl (hb hby at_5) rfl k) ?_
  refine Wk.go (A' := s₁.setTop (mkF m 9 #[jv sd, .second, jv xx, .second, iv kk, .unset, .unset, .unset, .unset, .unset, .unset, .unset, .unset, .unset, .unset, .unset, .unset, .unset] [(.int (63 : Int32)), (.int kk), (.long (xx &&& (9223372036854775807 : Int64)))])) (fun t k => XS.bipush X0.here hx rfl (hb hby at_7) k) ?_
  refine Wk.go (A' := s₁.setTop (mkF m 10 #[jv sd, .second, jv xx, .second, iv kk, .unset, .unset, .unset, .unset, .unset, .unset, .unset, .unset, .unset, .unset, .unset, .unset, .unset] [(.int (kk &&& (63 : Int32))), (.long (xx &&& (9223372036854775807 : Int64)))])) (fun t k => XS.iand X0.here hx rfl (hb hby at_9) rfl k) ?_
  refine Wk.go (A' := s₁.setTop (mkF m 11 #[jv sd, .second, jv xx, .second, iv kk, .unset, .unset, .unset, .unset, .unset, .unset, .unset, .unset, .unset, .unset, .unset, .unset, .unset] [(.long (((xx &&& (9223372036854775807 : Int64)).toUInt64 >>> ((kk &&& (63 : Int32)) &&& 0x3f).toInt64.toUInt64).toInt64))])) (fun t k => XS.lushr X0.here hx rfl (hb hby at_10) rfl k) ?_
  refine Wk.go (A' := s₁.setTop (mkF m 13 #[jv sd, .second, jv xx, .second, iv kk, jv (((xx &&& (9223372036854775807 : Int64)).toUInt64 >>> ((kk &&& (63 : Int32)) &&& 0x3f).toInt64.toUInt64).toInt64), .second, .unset, .unset, .unset, .unset, .unset, .unset, .unset, .unset, .unset, .unset, .unset] [])) (fun t k => XS.lstore X0.here hx rfl (hb hby at_11) rfl (l' := #[jv sd, .second, jv xx, .second, iv kk, jv (((xx &&& (9223372036854775807 : Int64)).toUInt64 >>> ((kk &&& (63 : Int32)) &&& 0x3f).toInt64.toUInt64).toInt64), .second, .unset, .unset, .unset, .unset, .unset, .unset, .unset, .unset, .unset, .unset, .unset]) rfl k) ?_
  generalize hbb : (((xx &&& (9223372036854775807 : Int64)).toUInt64 >>> ((kk &&& (63 : Int32)) &&& 0x3f).toInt64.toUInt64).toInt64) = bb
  refine Wk.go (A' := s₁.setTop (mkF m 15 #[jv sd, .second, jv xx, .second, iv kk, jv bb, .second, .unset, .unset, .unset, .unset, .unset, .unset, .unset, .unset, .unset, .unset, .unset] [(.long bb)])) (fun t k => XS.lload X0.here hx rfl (hb hby at_13) rfl k) ?_
  refine Wk.go (A' := s₁.setTop (mkF m 16 #[jv sd, .second, jv xx, .second, iv kk, jv bb, .second, .unset, .unset, .unset, .unset, .unset, .unset, .unset, .unset, .unset, .unset, .unset] [(.long (0 : Int64)), (.long bb)])) (fun t k => XS.lconst X0.here hx rfl (hb hby at_15) k) ?_
  refine Wk.go (A' := s₁.setTop (mkF m 17 #[jv sd, .second, jv xx, .second, iv kk, jv bb, .second, .unset, .unset, .unset, .unset, .unset, .unset, .unset, .unset, .unset, .unset, .unset] [(.int (lcmpW bb (0 : Int64)))])) (fun t k => XS.lcmp X0.here hx rfl (hb hby at_16) rfl k) ?_
  by_cases hc17 : bb = (0 : Int64)
  · refine Wk.go (A' := s₁.setTop (mkF m 20 #[jv sd, .second, jv xx, .second, iv kk, jv bb, .second, .unset, .unset, .unset, .unset, .unset, .unset, .unset, .unset, .unset, .unset, .unset] [])) (fun t k => XS.ifNo X0.here hx rfl (hb hby at_17) rfl ((if0 _ _).trans (teq ((lw_eq _ _).mpr hc17)).2) k) ?_
    refine Wk.go (A' := s₁.setTop (mkF m 21 #[jv sd, .second, jv xx, .second, iv kk, jv bb, .second, .unset, .unset, .unset, .unset, .unset, .unset, .unset, .unset, .unset, .unset, .unset] [(.long (1 : Int64))])) (fun t k => XS.lconst X0.here hx rfl (hb hby at_20) k) ?_
    refine Wk.go (A' := s₁.setTop (mkF m 23 #[jv sd, .second, jv xx, .second, iv kk, jv (1 : Int64), .second, .unset, .unset, .unset, .unset, .unset, .unset, .unset, .unset, .unset, .unset, .unset] [])) (fun t k => XS.lstore X0.here hx rfl (hb hby at_21) rfl (l' := #[jv sd, .second, jv xx, .second, iv kk, jv (1 : Int64), .second, .unset, .unset, .unset, .unset, .unset, .unset, .unset, .unset, .unset, .unset, .unset]) rfl k) ?_
    have hbp : 0 < (1 : Int64).toInt := by decide
    obtain ⟨T1, h1, X1, e1, E1, A1, D1, -, st1⟩ := newO X0 hx hZ hown (tw1 hw) (tw2 hw) (tw3 hw) e0 (g := (mkF m 23 #[jv sd, .second, jv xx, .second, iv kk, jv (1 : Int64), .second, .unset, .unset, .unset, .unset, .unset, .unset, .unset, .unset, .unset, .unset, .unset] [])) rfl (hb hby at_23) (by decide) (by decide)
    obtain ⟨oA, g1⟩ : ∃ z, z = h0.size := ⟨_, rfl⟩
    rw [← g1] at A1 D1 st1
    have g_oA : n0 ≤ oA := Nat.le_trans Z0 (Nat.le_of_eq g1.symm)
    have F_state_oA : Fld Z h1 oA "com/example/skerry/skerry/engine/Rng" "state" "J" (.long (0 : Int64)) := D1 (Or.inl (tw11 hw)) (ty := .long) (by decide)
    have Zp1 : n0 ≤ h1.size := Nat.le_trans Z0 E1.1
    refine Wk.go (A' := T1.setTop (mkF m 26 #[jv sd, .second, jv xx, .second, iv kk, jv (1 : Int64), .second, .unset, .unset, .unset, .unset, .unset, .unset, .unset, .unset, .unset, .unset, .unset] [(.ref oA)])) (fun t k => st1 t k) ?_
    refine Wk.go (A' := T1.setTop (mkF m 27 #[jv sd, .second, jv xx, .second, iv kk, jv (1 : Int64), .second, .unset, .unset, .unset, .unset, .unset, .unset, .unset, .unset, .unset, .unset, .unset] [(.ref oA), (.ref oA)])) (fun t k => XS.dup X1.here hx rfl (hb hby at_26) rfl rfl k) ?_
    refine Wk.go (A' := T1.setTop (mkF m 28 #[jv sd, .second, jv xx, .second, iv kk, jv (1 : Int64), .second, .unset, .unset, .unset, .unset, .unset, .unset, .unset, .unset, .unset, .unset, .unset] [(.long sd), (.ref oA), (.ref oA)])) (fun t k => XS.lloadN X1.here hx rfl (hb hby at_27) rfl k) ?_
    obtain ⟨_, _, ⟨T2, L2, k2, n2⟩, -, X2, ⟨Lc2, hQ2, l2, y2, z2⟩, st2⟩ := X1.specialBack hx (y := (⟨"com/example/skerry/skerry/engine/Rng", "<init>", "(J)V"⟩ : MethodName)) rfl hown (mvT hZ (tw4 hw)) (mvT hZ (tw5 hw)) (mvT hZ (tw6 hw)) (by decide) (backOf (W := 1) (rm1 l Z a0 hw [] oA sd  h1 n0 Zp1 A1 F_state_oA g_oA ) hZ (tw6 hw) (tw3 hw) (by decide) (by decide)) (g := (mkF m 28 #[jv sd, .second, jv xx, .second, iv kk, jv (1 : Int64), .second, .unset, .unset, .unset, .unset, .unset, .unset, .unset, .unset, .unset, .unset, .unset] [(.long sd), (.ref oA), (.ref oA)])) rfl (by rw [hml]; rfl) (Steps.refl _) (a := oA) (argsL := [(.long sd)]) (rest := [(.ref oA)]) (lenOf pd_1 rfl) rfl (by show 2 * 0 + _ ≤ _; exact Nat.le_of_eq rfl) (hb hby at_28) (fun _ _ => ⟨rfl, e1, (by decide : 1 + 0 ≤ _), (by decide : 1 + 0 ≤ _)⟩)
    dsimp only [Pt.U, Pt.locs, Pt.cells, Pt.slots] at X2 l2 y2 z2 st2 hQ2
    subst l2 y2 z2
    obtain ⟨rfl, N2q, Kq2, Eq2, Fq2_state⟩ := hQ2
    have N2 := Fr.app N0 N2q
    have f3 := A1.keep Kq2
    have Zp2 : n0 ≤ T2.heap.size := Nat.le_trans Zp1 Kq2.1
    refine Wk.go (A' := T2.setTop (mkF m 31 #[jv sd, .second, jv xx, .second, iv kk, jv (1 : Int64), .second, .unset, .unset, .unset, .unset, .unset, .unset, .unset, .unset, .unset, .unset, .unset] [(.ref oA)])) (fun t k => st2.trans k) ?_
    refine Wk.go (A' := T2.setTop (mkF m 33 #[jv sd, .second, jv xx, .second, iv kk, jv (1 : Int64), .second, rv oA, .unset, .unset, .unset, .unset, .unset, .unset, .unset, .unset, .unset, .unset] [])) (fun t k => XS.astore X2.here hx rfl (hb hby at_31) rfl rfl (l' := #[jv sd, .second, jv xx, .second, iv kk, jv (1 : Int64), .second, rv oA, .unset, .unset, .unset, .unset, .unset, .unset, .unset, .unset, .unset, .unset]) rfl k) ?_
    refine Wk.go (A' := T2.setTop (mkF m 35 #[jv sd, .second, jv xx, .second, iv kk, jv (1 : Int64), .second, rv oA, .unset, .unset, .unset, .unset, .unset, .unset, .unset, .unset, .unset, .unset] [(.ref oA)])) (fun t k => XS.aload X2.here hx rfl (hb hby at_33) rfl rfl k) ?_
    refine Wk.go (A' := T2.setTop (mkF m 37 #[jv sd, .second, jv xx, .second, iv kk, jv (1 : Int64), .second, rv oA, .unset, .unset, .unset, .unset, .unset, .unset, .unset, .unset, .unset, .unset] [(.long (1 : Int64)), (.ref oA)])) (fun t k => XS.lload X2.here hx rfl (hb hby at_35) rfl k) ?_
    obtain ⟨cq4, kq4, q4a, q4b, q4c⟩ := isOf hZ rfl Eq2
    obtain ⟨_, _, ⟨T4, L4, k4, n4⟩, -, X4, ⟨Lc4, hQ4, l4, y4, z4⟩, st4⟩ := X2.virtualBack hx (y := (⟨"com/example/skerry/skerry/engine/Rng", "nextLong", "(J)J"⟩ : MethodName)) (z := (⟨"com/example/skerry/skerry/engine/Rng", "nextLong", "(J)J"⟩ : MethodName)) hown (mvT hZ (tw12 hw)) (mvT hZ (tw13 hw)) (notFace_of_selects (args := #[]) (mvT hZ (tw15 hw))) (mvT hZ (tw15 hw)) (mvT hZ (tw14 hw)) (by decide) (backOf (W := 0) (rm3 l Z a0 hw [] oA (1 : Int64) sd T2.heap n0 Zp2 Eq2 Fq2_state g_oA hbp) hZ (tw16 hw) (tw3 hw) (by decide) (by decide)) q4a q4c (g := (mkF m 37 #[jv sd, .second, jv xx, .second, iv kk, jv (1 : Int64), .second, rv oA, .unset, .unset, .unset, .unset, .unset, .unset, .unset, .unset, .unset, .unset] [(.long (1 : Int64)), (.ref oA)])) rfl (by rw [hml]; rfl) (Steps.refl _) (argsL := [(.long (1 : Int64))]) (rest := []) (lenOf pd_2 rfl) rfl (by show 2 * 0 + _ ≤ _; exact Nat.le_of_eq rfl) (hb hby at_37) (fun _ _ => ⟨rfl, rfl, (by decide : 1 + 0 ≤ _), (by decide : 1 + 0 ≤ _)⟩)
    dsimp only [Pt.U, Pt.locs, Pt.cells, Pt.slots] at X4 l4 y4 z4 st4 hQ4
    subst l4 y4 z4
    obtain ⟨kA, hkA, rfl, N4q, Kq4, Eq4, Fq4⟩ := hQ4
    have N4 := Fr.app N2 N4q
    have f5 := Eq2.keep Kq4
    have Zp4 : n0 ≤ T4.heap.size := Nat.le_trans Zp2 Kq4.1
    refine Wk.go (A' := T4.setTop (mkF m 40 #[jv sd, .second, jv xx, .second, iv kk, jv (1 : Int64), .second, rv oA, .unset, .unset, .unset, .unset, .unset, .unset, .unset, .unset, .unset, .unset] [(.long (own_go (-7046029254386353131 : Int64) (1 : Int64) kA sd).1)])) (fun t k => st4.trans k) ?_
    refine Wk.go (A' := T4.setTop (mkF m 42 #[jv sd, .second, jv xx, .second, iv kk, jv (1 : Int64), .second, rv oA, jv (own_go (-7046029254386353131 : Int64) (1 : Int64) kA sd).1, .second, .unset, .unset, .unset, .unset, .unset, .unset, .unset, .unset] [])) (fun t k => XS.lstore X4.here hx rfl (hb hby at_40) rfl (l' := #[jv sd, .second, jv xx, .second, iv kk, jv (1 : Int64), .second, rv oA, jv (own_go (-7046029254386353131 : Int64) (1 : Int64) kA sd).1, .second, .unset, .unset, .unset, .unset, .unset, .unset, .unset, .unset]) rfl k) ?_
    refine Wk.go (A' := T4.setTop (mkF m 44 #[jv sd, .second, jv xx, .second, iv kk, jv (1 : Int64), .second, rv oA, jv (own_go (-7046029254386353131 : Int64) (1 : Int64) kA sd).1, .second, .unset, .unset, .unset, .unset, .unset, .unset, .unset, .unset] [(.long (own_go (-7046029254386353131 : Int64) (1 : Int64) kA sd).1)])) (fun t k => XS.lload X4.here hx rfl (hb hby at_42) rfl k) ?_
    refine Wk.go (A' := T4.setTop (mkF m 45 #[jv sd, .second, jv xx, .second, iv kk, jv (1 : Int64), .second, rv oA, jv (own_go (-7046029254386353131 : Int64) (1 : Int64) kA sd).1, .second, .unset, .unset, .unset, .unset, .unset, .unset, .unset, .unset] [(.long (0 : Int64)), (.long (own_go (-7046029254386353131 : Int64) (1 : Int64) kA sd).1)])) (fun t k => XS.lconst X4.here hx rfl (hb hby at_44) k) ?_
    refine Wk.go (A' := T4.setTop (mkF m 46 #[jv sd, .second, jv xx, .second, iv kk, jv (1 : Int64), .second, rv oA, jv (own_go (-7046029254386353131 : Int64) (1 : Int64) kA sd).1, .second, .unset, .unset, .unset, .unset, .unset, .unset, .unset, .unset] [(.int (lcmpW (own_go (-7046029254386353131 : Int64) (1 : Int64) kA sd).1 (0 : Int64)))])) (fun t k => XS.lcmp X4.here hx rfl (hb hby at_45) rfl k) ?_
    have hc46 : ¬ ((own_go (-7046029254386353131 : Int64) (1 : Int64) kA sd).1 < (0 : Int64)) := by rw [Int64.lt_iff_toInt_lt]; have := (own_go_rng (-7046029254386353131 : Int64) _ hbp kA sd).1; have e0 : (0 : Int64).toInt = 0 := (by decide); omega
    refine Wk.go (A' := T4.setTop (mkF m 49 #[jv sd, .second, jv xx, .second, iv kk, jv (1 : Int64), .second, rv oA, jv (own_go (-7046029254386353131 : Int64) (1 : Int64) kA sd).1, .second, .unset, .unset, .unset, .unset, .unset, .unset, .unset, .unset] [])) (fun t k => XS.ifNo X4.here hx rfl (hb hby at_46) rfl ((if0 _ _).trans (flt (mt (lw_lt _ _).mp hc46)).1) k) ?_
    refine Wk.go (A' := T4.setTop (mkF m 51 #[jv sd, .second, jv xx, .second, iv kk, jv (1 : Int64), .second, rv oA, jv (own_go (-7046029254386353131 : Int64) (1 : Int64) kA sd).1, .second, .unset, .unset, .unset, .unset, .unset, .unset, .unset, .unset] [(.long (own_go (-7046029254386353131 : Int64) (1 : Int64) kA sd).1)])) (fun t k => XS.lload X4.here hx rfl (hb hby at_49) rfl k) ?_
    refine Wk.go (A' := T4.setTop (mkF m 53 #[jv sd, .second, jv xx, .second, iv kk, jv (1 : Int64), .second, rv oA, jv (own_go (-7046029254386353131 : Int64) (1 : Int64) kA sd).1, .second, .unset, .unset, .unset, .unset, .unset, .unset, .unset, .unset] [(.long (1 : Int64)), (.long (own_go (-7046029254386353131 : Int64) (1 : Int64) kA sd).1)])) (fun t k => XS.lload X4.here hx rfl (hb hby at_51) rfl k) ?_
    refine Wk.go (A' := T4.setTop (mkF m 54 #[jv sd, .second, jv xx, .second, iv kk, jv (1 : Int64), .second, rv oA, jv (own_go (-7046029254386353131 : Int64) (1 : Int64) kA sd).1, .second, .unset, .unset, .unset, .unset, .unset, .unset, .unset, .unset] [(.int (lcmpW (own_go (-7046029254386353131 : Int64) (1 : Int64) kA sd).1 (1 : Int64)))])) (fun t k => XS.lcmp X4.here hx rfl (hb hby at_53) rfl k) ?_
    have hc54 : (own_go (-7046029254386353131 : Int64) (1 : Int64) kA sd).1 < (1 : Int64) := by rw [Int64.lt_iff_toInt_lt]; exact (own_go_rng (-7046029254386353131 : Int64) _ hbp kA sd).2
    refine Wk.go (A' := T4.setTop (mkF m 59 #[jv sd, .second, jv xx, .second, iv kk, jv (1 : Int64), .second, rv oA, jv (own_go (-7046029254386353131 : Int64) (1 : Int64) kA sd).1, .second, .unset, .unset, .unset, .unset, .unset, .unset, .unset, .unset] [])) (fun t k => XS.ifYes X4.here hx rfl (pc0 := 54) (pc' := 59) rfl (hb hby at_54) rfl ((if0 _ _).trans (tlt ((lw_lt _ _).mpr hc54)).1) (by decide) (by decide) k) ?_
    obtain ⟨T6, h6, X6, e6, E6, A6, D6, -, st6⟩ := newO X4 hx hZ hown (tw1 hw) (tw2 hw) (tw3 hw) rfl (g := (mkF m 59 #[jv sd, .second, jv xx, .second, iv kk, jv (1 : Int64), .second, rv oA, jv (own_go (-7046029254386353131 : Int64) (1 : Int64) kA sd).1, .second, .unset, .unset, .unset, .unset, .unset, .unset, .unset, .unset] [])) rfl (hb hby at_59) (by decide) (by decide)
    obtain ⟨oC, g6⟩ : ∃ z, z = T4.heap.size := ⟨_, rfl⟩
    rw [← g6] at A6 D6 st6
    have g_oC : n0 ≤ oC := Nat.le_trans Zp4 (Nat.le_of_eq g6.symm)
    have ne_oA_oC : oA ≠ oC := Nat.ne_of_lt (Nat.lt_of_lt_of_le Eq4.lt (Nat.le_of_eq g6.symm))
    have f7 := Eq4.ext E6
    have f8 := Fq4.ext E6
    have F_state_oC : Fld Z h6 oC "com/example/skerry/skerry/engine/Rng" "state" "J" (.long (0 : Int64)) := D6 (Or.inl (tw11 hw)) (ty := .long) (by decide)
    have Zp6 : n0 ≤ h6.size := Nat.le_trans Zp4 E6.1
    refine Wk.go (A' := T6.setTop (mkF m 62 #[jv sd, .second, jv xx, .second, iv kk, jv (1 : Int64), .second, rv oA, jv (own_go (-7046029254386353131 : Int64) (1 : Int64) kA sd).1, .second, .unset, .unset, .unset, .unset, .unset, .unset, .unset, .unset] [(.ref oC)])) (fun t k => st6 t k) ?_
    refine Wk.go (A' := T6.setTop (mkF m 63 #[jv sd, .second, jv xx, .second, iv kk, jv (1 : Int64), .second, rv oA, jv (own_go (-7046029254386353131 : Int64) (1 : Int64) kA sd).1, .second, .unset, .unset, .unset, .unset, .unset, .unset, .unset, .unset] [(.ref oC), (.ref oC)])) (fun t k => XS.dup X6.here hx rfl (hb hby at_62) rfl rfl k) ?_
    refine Wk.go (A' := T6.setTop (mkF m 64 #[jv sd, .second, jv xx, .second, iv kk, jv (1 : Int64), .second, rv oA, jv (own_go (-7046029254386353131 : Int64) (1 : Int64) kA sd).1, .second, .unset, .unset, .unset, .unset, .unset, .unset, .unset, .unset] [(.long sd), (.ref oC), (.ref oC)])) (fun t k => XS.lloadN X6.here hx rfl (hb hby at_63) rfl k) ?_
    obtain ⟨_, _, ⟨T9, L9, k9, n9⟩, -, X9, ⟨Lc9, hQ9, l9, y9, z9⟩, st9⟩ := X6.specialBack hx (y := (⟨"com/example/skerry/skerry/engine/Rng", "<init>", "(J)V"⟩ : MethodName)) rfl hown (mvT hZ (tw4 hw)) (mvT hZ (tw5 hw)) (mvT hZ (tw6 hw)) (by decide) (backOf (W := 1) (rm1 l Z a0 hw [] oC sd  h6 n0 Zp6 A6 F_state_oC g_oC ) hZ (tw6 hw) (tw3 hw) (by decide) (by decide)) (g := (mkF m 64 #[jv sd, .second, jv xx, .second, iv kk, jv (1 : Int64), .second, rv oA, jv (own_go (-7046029254386353131 : Int64) (1 : Int64) kA sd).1, .second, .unset, .unset, .unset, .unset, .unset, .unset, .unset, .unset] [(.long sd), (.ref oC), (.ref oC)])) rfl (by rw [hml]; rfl) (Steps.refl _) (a := oC) (argsL := [(.long sd)]) (rest := [(.ref oC)]) (lenOf pd_1 rfl) rfl (by show 2 * 0 + _ ≤ _; exact Nat.le_of_eq rfl) (hb hby at_64) (fun _ _ => ⟨rfl, e6, (by decide : 2 + 0 ≤ _), (by decide : 2 + 0 ≤ _)⟩)
    dsimp only [Pt.U, Pt.locs, Pt.cells, Pt.slots] at X9 l9 y9 z9 st9 hQ9
    subst l9 y9 z9
    obtain ⟨rfl, N9q, Kq9, Eq9, Fq9_state⟩ := hQ9
    have N9 := Fr.app N4 N9q
    have f10 := f7.keep Kq9
    have f11 := f8.keep Kq9 (ninS ne_oA_oC nin0)
    have f12 := A6.keep Kq9
    have Zp9 : n0 ≤ T9.heap.size := Nat.le_trans Zp6 Kq9.1
    refine Wk.go (A' := T9.setTop (mkF m 67 #[jv sd, .second, jv xx, .second, iv kk, jv (1 : Int64), .second, rv oA, jv (own_go (-7046029254386353131 : Int64) (1 : Int64) kA sd).1, .second, .unset, .unset, .unset, .unset, .unset, .unset, .unset, .unset] [(.ref oC)])) (fun t k => st9.trans k) ?_
    refine Wk.go (A' := T9.setTop (mkF m 69 #[jv sd, .second, jv xx, .second, iv kk, jv (1 : Int64), .second, rv oA, jv (own_go (-7046029254386353131 : Int64) (1 : Int64) kA sd).1, .second, rv oC, .unset, .unset, .unset, .unset, .unset, .unset, .unset] [])) (fun t k => XS.astore X9.here hx rfl (hb hby at_67) rfl rfl (l' := #[jv sd, .second, jv xx, .second, iv kk, jv (1 : Int64), .second, rv oA, jv (own_go (-7046029254386353131 : Int64) (1 : Int64) kA sd).1, .second, rv oC, .unset, .unset, .unset, .unset, .unset, .unset, .unset]) rfl k) ?_
    refine Wk.go (A' := T9.setTop (mkF m 71 #[jv sd, .second, jv xx, .second, iv kk, jv (1 : Int64), .second, rv oA, jv (own_go (-7046029254386353131 : Int64) (1 : Int64) kA sd).1, .second, rv oC, .unset, .unset, .unset, .unset, .unset, .unset, .unset] [(.ref oC)])) (fun t k => XS.aload X9.here hx rfl (hb hby at_69) rfl rfl k) ?_
    obtain ⟨cq13, kq13, q13a, q13b, q13c⟩ := isOf hZ rfl Eq9
    obtain ⟨_, _, ⟨T13, L13, k13, n13⟩, -, X13, ⟨Lc13, hQ13, l13, y13, z13⟩, st13⟩ := X9.virtualBack hx (y := (⟨"com/example/skerry/skerry/engine/Rng", "nextLong", "()J"⟩ : MethodName)) (z := (⟨"com/example/skerry/skerry/engine/Rng", "nextLong", "()J"⟩ : MethodName)) hown (mvT hZ (tw25 hw)) (mvT hZ (tw18 hw)) (notFace_of_selects (args := #[]) (mvT hZ (tw20 hw))) (mvT hZ (tw20 hw)) (mvT hZ (tw19 hw)) (by decide) (backOf (W := 0) (rm4 l Z a0 hw [] oC sd T9.heap n0 Zp9 Eq9 Fq9_state g_oC ) hZ (tw21 hw) (tw3 hw) (by decide) (by decide)) q13a q13c (g := (mkF m 71 #[jv sd, .second, jv xx, .second, iv kk, jv (1 : Int64), .second, rv oA, jv (own_go (-7046029254386353131 : Int64) (1 : Int64) kA sd).1, .second, rv oC, .unset, .unset, .unset, .unset, .unset, .unset, .unset] [(.ref oC)])) rfl (by rw [hml]; rfl) (Steps.refl _) (argsL := []) (rest := []) (lenOf pd_0 rfl) rfl (by show 2 * 0 + _ ≤ _; exact Nat.le_of_eq rfl) (hb hby at_71) (fun _ _ => ⟨rfl, rfl, (by decide : 2 + 0 ≤ _), (by decide : 2 + 0 ≤ _)⟩)
    dsimp only [Pt.U, Pt.locs, Pt.cells, Pt.slots] at X13 l13 y13 z13 st13 hQ13
    subst l13 y13 z13
    obtain ⟨rfl, N13q, Kq13, Eq13, Fq13_state⟩ := hQ13
    have N13 := Fr.app N9 N13q
    have f14 := f10.keep Kq13
    have f15 := f11.keep Kq13 (ninS ne_oA_oC nin0)
    have f16 := Eq9.keep Kq13
    have Zp13 : n0 ≤ T13.heap.size := Nat.le_trans Zp9 Kq13.1
    refine Wk.go (A' := T13.setTop (mkF m 74 #[jv sd, .second, jv xx, .second, iv kk, jv (1 : Int64), .second, rv oA, jv (own_go (-7046029254386353131 : Int64) (1 : Int64) kA sd).1, .second, rv oC, .unset, .unset, .unset, .unset, .unset, .unset, .unset] [(.long (f_next oC sd))])) (fun t k => st13.trans k) ?_
    refine Wk.go (A' := T13.setTop (mkF m 75 #[jv sd, .second, jv xx, .second, iv kk, jv (1 : Int64), .second, rv oA, jv (own_go (-7046029254386353131 : Int64) (1 : Int64) kA sd).1, .second, rv oC, .unset, .unset, .unset, .unset, .unset, .unset, .unset] [(.int (1 : Int32)), (.long (f_next oC sd))])) (fun t k => XS.iconst X13.here hx rfl (hb hby at_74) k) ?_
    refine Wk.go (A' := T13.setTop (mkF m 76 #[jv sd, .second, jv xx, .second, iv kk, jv (1 : Int64), .second, rv oA, jv (own_go (-7046029254386353131 : Int64) (1 : Int64) kA sd).1, .second, rv oC, .unset, .unset, .unset, .unset, .unset, .unset, .unset] [(.long (own_bits sd))])) (fun t k => XS.lushr X13.here hx rfl (hb hby at_75) rfl k) ?_
    refine Wk.go (A' := T13.setTop (mkF m 78 #[jv sd, .second, jv xx, .second, iv kk, jv (1 : Int64), .second, rv oA, jv (own_go (-7046029254386353131 : Int64) (1 : Int64) kA sd).1, .second, rv oC, jv (own_bits sd), .second, .unset, .unset, .unset, .unset, .unset] [])) (fun t k => XS.lstore X13.here hx rfl (hb hby at_76) rfl (l' := #[jv sd, .second, jv xx, .second, iv kk, jv (1 : Int64), .second, rv oA, jv (own_go (-7046029254386353131 : Int64) (1 : Int64) kA sd).1, .second, rv oC, jv (own_bits sd), .second, .unset, .unset, .unset, .unset, .unset]) rfl k) ?_
    refine Wk.go (A' := T13.setTop (mkF m 81 #[jv sd, .second, jv xx, .second, iv kk, jv (1 : Int64), .second, rv oA, jv (own_go (-7046029254386353131 : Int64) (1 : Int64) kA sd).1, .second, rv oC, jv (own_bits sd), .second, .unset, .unset, .unset, .unset, .unset] [(.long (9223372036854775807 : Int64))])) (fun t k => X13.ldc2Long hx hown (mvT hZ (tw0 hw)) (g := (mkF m 78 #[jv sd, .second, jv xx, .second, iv kk, jv (1 : Int64), .second, rv oA, jv (own_go (-7046029254386353131 : Int64) (1 : Int64) kA sd).1, .second, rv oC, jv (own_bits sd), .second, .unset, .unset, .unset, .unset, .unset] [])) rfl (hb hby at_78) t k) ?_
    refine Wk.go (A' := T13.setTop (mkF m 83 #[jv sd, .second, jv xx, .second, iv kk, jv (1 : Int64), .second, rv oA, jv (own_go (-7046029254386353131 : Int64) (1 : Int64) kA sd).1, .second, rv oC, jv (own_bits sd), .second, .unset, .unset, .unset, .unset, .unset] [(.long (1 : Int64)), (.long (9223372036854775807 : Int64))])) (fun t k => XS.lload X13.here hx rfl (hb hby at_81) rfl k) ?_
    refine Wk.go (A' := T13.setTop (mkF m 84 #[jv sd, .second, jv xx, .second, iv kk, jv (1 : Int64), .second, rv oA, jv (own_go (-7046029254386353131 : Int64) (1 : Int64) kA sd).1, .second, rv oC, jv (own_bits sd), .second, .unset, .unset, .unset, .unset, .unset] [(.long ((9223372036854775807 : Int64) - ((9223372036854775807 : Int64) / (1 : Int64)) * (1 : Int64)))])) (fun t k => XS.lrem X13.here hx rfl (hb hby at_83) rfl (own_bnz hbp) k) ?_
    refine Wk.go (A' := T13.setTop (mkF m 85 #[jv sd, .second, jv xx, .second, iv kk, jv (1 : Int64), .second, rv oA, jv (own_go (-7046029254386353131 : Int64) (1 : Int64) kA sd).1, .second, rv oC, jv (own_bits sd), .second, .unset, .unset, .unset, .unset, .unset] [(.long (1 : Int64)), (.long ((9223372036854775807 : Int64) - ((9223372036854775807 : Int64) / (1 : Int64)) * (1 : Int64)))])) (fun t k => XS.lconst X13.here hx rfl (hb hby at_84) k) ?_
    refine Wk.go (A' := T13.setTop (mkF m 86 #[jv sd, .second, jv xx, .second, iv kk, jv (1 : Int64), .second, rv oA, jv (own_go (-7046029254386353131 : Int64) (1 : Int64) kA sd).1, .second, rv oC, jv (own_bits sd), .second, .unset, .unset, .unset, .unset, .unset] [(.long (((9223372036854775807 : Int64) - ((9223372036854775807 : Int64) / (1 : Int64)) * (1 : Int64)) + (1 : Int64)))])) (fun t k => XS.ladd X13.here hx rfl (hb hby at_85) rfl k) ?_
    refine Wk.go (A' := T13.setTop (mkF m 88 #[jv sd, .second, jv xx, .second, iv kk, jv (1 : Int64), .second, rv oA, jv (own_go (-7046029254386353131 : Int64) (1 : Int64) kA sd).1, .second, rv oC, jv (own_bits sd), .second, .unset, .unset, .unset, .unset, .unset] [(.long (1 : Int64)), (.long (((9223372036854775807 : Int64) - ((9223372036854775807 : Int64) / (1 : Int64)) * (1 : Int64)) + (1 : Int64)))])) (fun t k => XS.lload X13.here hx rfl (hb hby at_86) rfl k) ?_
    refine Wk.go (A' := T13.setTop (mkF m 89 #[jv sd, .second, jv xx, .second, iv kk, jv (1 : Int64), .second, rv oA, jv (own_go (-7046029254386353131 : Int64) (1 : Int64) kA sd).1, .second, rv oC, jv (own_bits sd), .second, .unset, .unset, .unset, .unset, .unset] [(.long ((((9223372036854775807 : Int64) - ((9223372036854775807 : Int64) / (1 : Int64)) * (1 : Int64)) + (1 : Int64)) - ((((9223372036854775807 : Int64) - ((9223372036854775807 : Int64) / (1 : Int64)) * (1 : Int64)) + (1 : Int64)) / (1 : Int64)) * (1 : Int64)))])) (fun t k => XS.lrem X13.here hx rfl (hb hby at_88) rfl (own_bnz hbp) k) ?_
    refine Wk.go (A' := T13.setTop (mkF m 91 #[jv sd, .second, jv xx, .second, iv kk, jv (1 : Int64), .second, rv oA, jv (own_go (-7046029254386353131 : Int64) (1 : Int64) kA sd).1, .second, rv oC, jv (own_bits sd), .second, jv ((((9223372036854775807 : Int64) - ((9223372036854775807 : Int64) / (1 : Int64)) * (1 : Int64)) + (1 : Int64)) - ((((9223372036854775807 : Int64) - ((9223372036854775807 : Int64) / (1 : Int64)) * (1 : Int64)) + (1 : Int64)) / (1 : Int64)) * (1 : Int64)), .second, .unset, .unset, .unset] [])) (fun t k => XS.lstore X13.here hx rfl (hb hby at_89) rfl (l' := #[jv sd, .second, jv xx, .second, iv kk, jv (1 : Int64), .second, rv oA, jv (own_go (-7046029254386353131 : Int64) (1 : Int64) kA sd).1, .second, rv oC, jv (own_bits sd), .second, jv ((((9223372036854775807 : Int64) - ((9223372036854775807 : Int64) / (1 : Int64)) * (1 : Int64)) + (1 : Int64)) - ((((9223372036854775807 : Int64) - ((9223372036854775807 : Int64) / (1 : Int64)) * (1 : Int64)) + (1 : Int64)) / (1 : Int64)) * (1 : Int64)), .second, .unset, .unset, .unset]) rfl k) ?_
    generalize hrm : ((((9223372036854775807 : Int64) - ((9223372036854775807 : Int64) / (1 : Int64)) * (1 : Int64)) + (1 : Int64)) - ((((9223372036854775807 : Int64) - ((9223372036854775807 : Int64) / (1 : Int64)) * (1 : Int64)) + (1 : Int64)) / (1 : Int64)) * (1 : Int64)) = rm
    refine Wk.go (A' := T13.setTop (mkF m 93 #[jv sd, .second, jv xx, .second, iv kk, jv (1 : Int64), .second, rv oA, jv (own_go (-7046029254386353131 : Int64) (1 : Int64) kA sd).1, .second, rv oC, jv (own_bits sd), .second, jv rm, .second, .unset, .unset, .unset] [(.long (own_bits sd))])) (fun t k => XS.lload X13.here hx rfl (hb hby at_91) rfl k) ?_
    refine Wk.go (A' := T13.setTop (mkF m 96 #[jv sd, .second, jv xx, .second, iv kk, jv (1 : Int64), .second, rv oA, jv (own_go (-7046029254386353131 : Int64) (1 : Int64) kA sd).1, .second, rv oC, jv (own_bits sd), .second, jv rm, .second, .unset, .unset, .unset] [(.long (9223372036854775807 : Int64)), (.long (own_bits sd))])) (fun t k => X13.ldc2Long hx hown (mvT hZ (tw0 hw)) (g := (mkF m 93 #[jv sd, .second, jv xx, .second, iv kk, jv (1 : Int64), .second, rv oA, jv (own_go (-7046029254386353131 : Int64) (1 : Int64) kA sd).1, .second, rv oC, jv (own_bits sd), .second, jv rm, .second, .unset, .unset, .unset] [(.long (own_bits sd))])) rfl (hb hby at_93) t k) ?_
    refine Wk.go (A' := T13.setTop (mkF m 98 #[jv sd, .second, jv xx, .second, iv kk, jv (1 : Int64), .second, rv oA, jv (own_go (-7046029254386353131 : Int64) (1 : Int64) kA sd).1, .second, rv oC, jv (own_bits sd), .second, jv rm, .second, .unset, .unset, .unset] [(.long rm), (.long (9223372036854775807 : Int64)), (.long (own_bits sd))])) (fun t k => XS.lload X13.here hx rfl (hb hby at_96) rfl k) ?_
    refine Wk.go (A' := T13.setTop (mkF m 99 #[jv sd, .second, jv xx, .second, iv kk, jv (1 : Int64), .second, rv oA, jv (own_go (-7046029254386353131 : Int64) (1 : Int64) kA sd).1, .second, rv oC, jv (own_bits sd), .second, jv rm, .second, .unset, .unset, .unset] [(.long ((9223372036854775807 : Int64) - rm)), (.long (own_bits sd))])) (fun t k => XS.lsub X13.here hx rfl (hb hby at_98) rfl k) ?_
    refine Wk.go (A' := T13.setTop (mkF m 100 #[jv sd, .second, jv xx, .second, iv kk, jv (1 : Int64), .second, rv oA, jv (own_go (-7046029254386353131 : Int64) (1 : Int64) kA sd).1, .second, rv oC, jv (own_bits sd), .second, jv rm, .second, .unset, .unset, .unset] [(.int (lcmpW (own_bits sd) ((9223372036854775807 : Int64) - rm)))])) (fun t k => XS.lcmp X13.here hx rfl (hb hby at_99) rfl k) ?_
    by_cases hc100 : ((9223372036854775807 : Int64) - rm) < (own_bits sd)
    · refine Wk.go (A' := T13.setTop (mkF m 134 #[jv sd, .second, jv xx, .second, iv kk, jv (1 : Int64), .second, rv oA, jv (own_go (-7046029254386353131 : Int64) (1 : Int64) kA sd).1, .second, rv oC, jv (own_bits sd), .second, jv rm, .second, .unset, .unset, .unset] [])) (fun t k => XS.ifYes X13.here hx rfl (pc0 := 100) (pc' := 134) rfl (hb hby at_100) rfl ((if0 _ _).trans (tlt ((lw_gt _ _).mpr hc100)).2.2.1) (by decide) (by decide) k) ?_
      obtain ⟨T17, h17, X17, e17, E17, A17, D17, -, st17⟩ := newO X13 hx hZ hown (tw1 hw) (tw2 hw) (tw3 hw) rfl (g := (mkF m 134 #[jv sd, .second, jv xx, .second, iv kk, jv (1 : Int64), .second, rv oA, jv (own_go (-7046029254386353131 : Int64) (1 : Int64) kA sd).1, .second, rv oC, jv (own_bits sd), .second, jv rm, .second, .unset, .unset, .unset] [])) rfl (hb hby at_134) (by decide) (by decide)
      obtain ⟨oD, g17⟩ : ∃ z, z = T13.heap.size := ⟨_, rfl⟩
      rw [← g17] at A17 D17 st17
      have g_oD : n0 ≤ oD := Nat.le_trans Zp13 (Nat.le_of_eq g17.symm)
      have ne_oA_oD : oA ≠ oD := Nat.ne_of_lt (Nat.lt_of_lt_of_le f14.lt (Nat.le_of_eq g17.symm))
      have ne_oC_oD : oC ≠ oD := Nat.ne_of_lt (Nat.lt_of_lt_of_le Eq13.lt (Nat.le_of_eq g17.symm))
      have f18 := f14.ext E17
      have f19 := f15.ext E17
      have f20 := Eq13.ext E17
      have f21 := Fq13_state.ext E17
      have F_state_oD : Fld Z h17 oD "com/example/skerry/skerry/engine/Rng" "state" "J" (.long (0 : Int64)) := D17 (Or.inl (tw11 hw)) (ty := .long) (by decide)
      have Zp17 : n0 ≤ h17.size := Nat.le_trans Zp13 E17.1
      refine Wk.go (A' := T17.setTop (mkF m 137 #[jv sd, .second, jv xx, .second, iv kk, jv (1 : Int64), .second, rv oA, jv (own_go (-7046029254386353131 : Int64) (1 : Int64) kA sd).1, .second, rv oC, jv (own_bits sd), .second, jv rm, .second, .unset, .unset, .unset] [(.ref oD)])) (fun t k => st17 t k) ?_
      refine Wk.go (A' := T17.setTop (mkF m 138 #[jv sd, .second, jv xx, .second, iv kk, jv (1 : Int64), .second, rv oA, jv (own_go (-7046029254386353131 : Int64) (1 : Int64) kA sd).1, .second, rv oC, jv (own_bits sd), .second, jv rm, .second, .unset, .unset, .unset] [(.ref oD), (.ref oD)])) (fun t k => XS.dup X17.here hx rfl (hb hby at_137) rfl rfl k) ?_
      refine Wk.go (A' := T17.setTop (mkF m 140 #[jv sd, .second, jv xx, .second, iv kk, jv (1 : Int64), .second, rv oA, jv (own_go (-7046029254386353131 : Int64) (1 : Int64) kA sd).1, .second, rv oC, jv (own_bits sd), .second, jv rm, .second, .unset, .unset, .unset] [(.ref oC), (.ref oD), (.ref oD)])) (fun t k => XS.aload X17.here hx rfl (hb hby at_138) rfl rfl k) ?_
      obtain ⟨cq22, kq22, q22a, q22b, q22c⟩ := isOf hZ e17 f20
      obtain ⟨_, _, ⟨T22, L22, k22, n22⟩, -, X22, ⟨Lc22, hQ22, l22, y22, z22⟩, st22⟩ := X17.virtualBack hx (y := (⟨"com/example/skerry/skerry/engine/Rng", "state", "()J"⟩ : MethodName)) (z := (⟨"com/example/skerry/skerry/engine/Rng", "state", "()J"⟩ : MethodName)) hown (mvT hZ (tw26 hw)) (mvT hZ (tw27 hw)) (notFace_of_selects (args := #[]) (mvT hZ (tw29 hw))) (mvT hZ (tw29 hw)) (mvT hZ (tw28 hw)) (by decide) (backOf (W := 2) (rm5 l Z a0 hw [] oC (sd + (-7046029254386353131 : Int64)) h17 n0 Zp17 f20 f21 ) hZ (tw30 hw) (tw3 hw) (by decide) (by decide)) q22a q22c (g := (mkF m 140 #[jv sd, .second, jv xx, .second, iv kk, jv (1 : Int64), .second, rv oA, jv (own_go (-7046029254386353131 : Int64) (1 : Int64) kA sd).1, .second, rv oC, jv (own_bits sd), .second, jv rm, .second, .unset, .unset, .unset] [(.ref oC), (.ref oD), (.ref oD)])) rfl (by rw [hml]; rfl) (Steps.refl _) (argsL := []) (rest := [(.ref oD), (.ref oD)]) (lenOf pd_0 rfl) rfl (by show 2 * 0 + _ ≤ _; exact Nat.le_of_eq rfl) (hb hby at_140) (fun _ _ => ⟨rfl, e17, (by decide : 3 + 0 ≤ _), (by decide : 3 + 0 ≤ _)⟩)
      dsimp only [Pt.U, Pt.locs, Pt.cells, Pt.slots] at X22 l22 y22 z22 st22 hQ22
      subst l22 y22 z22
      obtain ⟨rfl, N22q, hE22⟩ := hQ22
      have N22 := Fr.app N13 N22q
      refine Wk.go (A' := T22.setTop (mkF m 143 #[jv sd, .second, jv xx, .second, iv kk, jv (1 : Int64), .second, rv oA, jv (own_go (-7046029254386353131 : Int64) (1 : Int64) kA sd).1, .second, rv oC, jv (own_bits sd), .second, jv rm, .second, .unset, .unset, .unset] [(.long (f_state oC (sd + (-7046029254386353131 : Int64)))), (.ref oD), (.ref oD)])) (fun t k => st22.trans k) ?_
      obtain ⟨_, _, ⟨T23, L23, k23, n23⟩, -, X23, ⟨Lc23, hQ23, l23, y23, z23⟩, st23⟩ := X22.specialBack hx (y := (⟨"com/example/skerry/skerry/engine/Rng", "<init>", "(J)V"⟩ : MethodName)) rfl hown (mvT hZ (tw4 hw)) (mvT hZ (tw5 hw)) (mvT hZ (tw6 hw)) (by decide) (backOf (W := 1) (rm1 l Z a0 hw [] oD (f_state oC (sd + (-7046029254386353131 : Int64)))  h17 n0 Zp17 A17 F_state_oD g_oD ) hZ (tw6 hw) (tw3 hw) (by decide) (by decide)) (g := (mkF m 143 #[jv sd, .second, jv xx, .second, iv kk, jv (1 : Int64), .second, rv oA, jv (own_go (-7046029254386353131 : Int64) (1 : Int64) kA sd).1, .second, rv oC, jv (own_bits sd), .second, jv rm, .second, .unset, .unset, .unset] [(.long (f_state oC (sd + (-7046029254386353131 : Int64)))), (.ref oD), (.ref oD)])) rfl (by rw [hml]; rfl) (Steps.refl _) (a := oD) (argsL := [(.long (f_state oC (sd + (-7046029254386353131 : Int64))))]) (rest := [(.ref oD)]) (lenOf pd_1 rfl) rfl (by show 2 * 0 + _ ≤ _; exact Nat.le_of_eq rfl) (hb hby at_143) (fun _ _ => ⟨rfl, (hE22), (by decide : 3 + 0 ≤ _), (by decide : 3 + 0 ≤ _)⟩)
      dsimp only [Pt.U, Pt.locs, Pt.cells, Pt.slots] at X23 l23 y23 z23 st23 hQ23
      subst l23 y23 z23
      obtain ⟨rfl, N23q, Kq23, Eq23, Fq23_state⟩ := hQ23
      have N23 := Fr.app N22 N23q
      have f24 := f18.keep Kq23
      have f25 := f19.keep Kq23 (ninS ne_oA_oD nin0)
      have f26 := f20.keep Kq23
      have f27 := f21.keep Kq23 (ninS ne_oC_oD nin0)
      have f28 := A17.keep Kq23
      have Zp23 : n0 ≤ T23.heap.size := Nat.le_trans Zp17 Kq23.1
      refine Wk.go (A' := T23.setTop (mkF m 146 #[jv sd, .second, jv xx, .second, iv kk, jv (1 : Int64), .second, rv oA, jv (own_go (-7046029254386353131 : Int64) (1 : Int64) kA sd).1, .second, rv oC, jv (own_bits sd), .second, jv rm, .second, .unset, .unset, .unset] [(.ref oD)])) (fun t k => st23.trans k) ?_
      refine Wk.go (A' := T23.setTop (mkF m 148 #[jv sd, .second, jv xx, .second, iv kk, jv (1 : Int64), .second, rv oA, jv (own_go (-7046029254386353131 : Int64) (1 : Int64) kA sd).1, .second, rv oC, jv (own_bits sd), .second, jv rm, .second, rv oD, .unset, .unset] [])) (fun t k => XS.astore X23.here hx rfl (hb hby at_146) rfl rfl (l' := #[jv sd, .second, jv xx, .second, iv kk, jv (1 : Int64), .second, rv oA, jv (own_go (-7046029254386353131 : Int64) (1 : Int64) kA sd).1, .second, rv oC, jv (own_bits sd), .second, jv rm, .second, rv oD, .unset, .unset]) rfl k) ?_
      refine Wk.go (A' := T23.setTop (mkF m 150 #[jv sd, .second, jv xx, .second, iv kk, jv (1 : Int64), .second, rv oA, jv (own_go (-7046029254386353131 : Int64) (1 : Int64) kA sd).1, .second, rv oC, jv (own_bits sd), .second, jv rm, .second, rv oD, .unset, .unset] [(.ref oD)])) (fun t k => XS.aload X23.here hx rfl (hb hby at_148) rfl rfl k) ?_
      refine Wk.go (A' := T23.setTop (mkF m 152 #[jv sd, .second, jv xx, .second, iv kk, jv (1 : Int64), .second, rv oA, jv (own_go (-7046029254386353131 : Int64) (1 : Int64) kA sd).1, .second, rv oC, jv (own_bits sd), .second, jv rm, .second, rv oD, .unset, .unset] [(.long (1 : Int64)), (.ref oD)])) (fun t k => XS.lload X23.here hx rfl (hb hby at_150) rfl k) ?_
      obtain ⟨cq29, kq29, q29a, q29b, q29c⟩ := isOf hZ rfl Eq23
      obtain ⟨_, _, ⟨T29, L29, k29, n29⟩, -, X29, ⟨Lc29, hQ29, l29, y29, z29⟩, st29⟩ := X23.virtualBack hx (y := (⟨"com/example/skerry/skerry/engine/Rng", "nextLong", "(J)J"⟩ : MethodName)) (z := (⟨"com/example/skerry/skerry/engine/Rng", "nextLong", "(J)J"⟩ : MethodName)) hown (mvT hZ (tw12 hw)) (mvT hZ (tw13 hw)) (notFace_of_selects (args := #[]) (mvT hZ (tw15 hw))) (mvT hZ (tw15 hw)) (mvT hZ (tw14 hw)) (by decide) (backOf (W := 0) (rm3 l Z a0 hw [] oD (1 : Int64) (f_state oC (sd + (-7046029254386353131 : Int64))) T23.heap n0 Zp23 Eq23 Fq23_state g_oD hbp) hZ (tw16 hw) (tw3 hw) (by decide) (by decide)) q29a q29c (g := (mkF m 152 #[jv sd, .second, jv xx, .second, iv kk, jv (1 : Int64), .second, rv oA, jv (own_go (-7046029254386353131 : Int64) (1 : Int64) kA sd).1, .second, rv oC, jv (own_bits sd), .second, jv rm, .second, rv oD, .unset, .unset] [(.long (1 : Int64)), (.ref oD)])) rfl (by rw [hml]; rfl) (Steps.refl _) (argsL := [(.long (1 : Int64))]) (rest := []) (lenOf pd_2 rfl) rfl (by show 2 * 0 + _ ≤ _; exact Nat.le_of_eq rfl) (hb hby at_152) (fun _ _ => ⟨rfl, rfl, (by decide : 3 + 0 ≤ _), (by decide : 3 + 0 ≤ _)⟩)
      dsimp only [Pt.U, Pt.locs, Pt.cells, Pt.slots] at X29 l29 y29 z29 st29 hQ29
      subst l29 y29 z29
      obtain ⟨kD, hkD, rfl, N29q, Kq29, Eq29, Fq29⟩ := hQ29
      have N29 := Fr.app N23 N29q
      have f30 := f24.keep Kq29
      have f31 := f25.keep Kq29 (ninS ne_oA_oD nin0)
      have f32 := f26.keep Kq29
      have f33 := f27.keep Kq29 (ninS ne_oC_oD nin0)
      have f34 := Eq23.keep Kq29
      have Zp29 : n0 ≤ T29.heap.size := Nat.le_trans Zp23 Kq29.1
      refine Wk.go (A' := T29.setTop (mkF m 155 #[jv sd, .second, jv xx, .second, iv kk, jv (1 : Int64), .second, rv oA, jv (own_go (-7046029254386353131 : Int64) (1 : Int64) kA sd).1, .second, rv oC, jv (own_bits sd), .second, jv rm, .second, rv oD, .unset, .unset] [(.long (own_go (-7046029254386353131 : Int64) (1 : Int64) kD (f_state oC (sd + (-7046029254386353131 : Int64)))).1)])) (fun t k => st29.trans k) ?_
      refine Wk.go (A' := T29.setTop (mkF m 157 #[jv sd, .second, jv xx, .second, iv kk, jv (1 : Int64), .second, rv oA, jv (own_go (-7046029254386353131 : Int64) (1 : Int64) kA sd).1, .second, rv oC, jv (own_bits sd), .second, jv rm, .second, rv oD, jv (own_go (-7046029254386353131 : Int64) (1 : Int64) kD (f_state oC (sd + (-7046029254386353131 : Int64)))).1, .second] [])) (fun t k => XS.lstore X29.here hx rfl (hb hby at_155) rfl (l' := #[jv sd, .second, jv xx, .second, iv kk, jv (1 : Int64), .second, rv oA, jv (own_go (-7046029254386353131 : Int64) (1 : Int64) kA sd).1, .second, rv oC, jv (own_bits sd), .second, jv rm, .second, rv oD, jv (own_go (-7046029254386353131 : Int64) (1 : Int64) kD (f_state oC (sd + (-7046029254386353131 : Int64)))).1, .second]) rfl k) ?_
      refine Wk.go (A' := T29.setTop (mkF m 159 #[jv sd, .second, jv xx, .second, iv kk, jv (1 : Int64), .second, rv oA, jv (own_go (-7046029254386353131 : Int64) (1 : Int64) kA sd).1, .second, rv oC, jv (own_bits sd), .second, jv rm, .second, rv oD, jv (own_go (-7046029254386353131 : Int64) (1 : Int64) kD (f_state oC (sd + (-7046029254386353131 : Int64)))).1, .second] [(.long (own_go (-7046029254386353131 : Int64) (1 : Int64) kA sd).1)])) (fun t k => XS.lload X29.here hx rfl (hb hby at_157) rfl k) ?_
      refine Wk.go (A' := T29.setTop (mkF m 161 #[jv sd, .second, jv xx, .second, iv kk, jv (1 : Int64), .second, rv oA, jv (own_go (-7046029254386353131 : Int64) (1 : Int64) kA sd).1, .second, rv oC, jv (own_bits sd), .second, jv rm, .second, rv oD, jv (own_go (-7046029254386353131 : Int64) (1 : Int64) kD (f_state oC (sd + (-7046029254386353131 : Int64)))).1, .second] [(.long (own_go (-7046029254386353131 : Int64) (1 : Int64) kD (f_state oC (sd + (-7046029254386353131 : Int64)))).1), (.long (own_go (-7046029254386353131 : Int64) (1 : Int64) kA sd).1)])) (fun t k => XS.lload X29.here hx rfl (hb hby at_159) rfl k) ?_
      refine Wk.go (A' := T29.setTop (mkF m 162 #[jv sd, .second, jv xx, .second, iv kk, jv (1 : Int64), .second, rv oA, jv (own_go (-7046029254386353131 : Int64) (1 : Int64) kA sd).1, .second, rv oC, jv (own_bits sd), .second, jv rm, .second, rv oD, jv (own_go (-7046029254386353131 : Int64) (1 : Int64) kD (f_state oC (sd + (-7046029254386353131 : Int64)))).1, .second] [(.int (lcmpW (own_go (-7046029254386353131 : Int64) (1 : Int64) kA sd).1 (own_go (-7046029254386353131 : Int64) (1 : Int64) kD (f_state oC (sd + (-7046029254386353131 : Int64)))).1))])) (fun t k => XS.lcmp X29.here hx rfl (hb hby at_161) rfl k) ?_
      have hc162 : (own_go (-7046029254386353131 : Int64) (1 : Int64) kA sd).1 = (own_go (-7046029254386353131 : Int64) (1 : Int64) kD (f_state oC (sd + (-7046029254386353131 : Int64)))).1 := by rw [own_go_rej _ _ sd kA kD ((own_accept _ sd rm hbp _ (by decide) hrm).mp hc100) hkA hkD]; rfl
      refine Wk.go (A' := T29.setTop (mkF m 165 #[jv sd, .second, jv xx, .second, iv kk, jv (1 : Int64), .second, rv oA, jv (own_go (-7046029254386353131 : Int64) (1 : Int64) kA sd).1, .second, rv oC, jv (own_bits sd), .second, jv rm, .second, rv oD, jv (own_go (-7046029254386353131 : Int64) (1 : Int64) kD (f_state oC (sd + (-7046029254386353131 : Int64)))).1, .second] [])) (fun t k => XS.ifNo X29.here hx rfl (hb hby at_162) rfl ((if0 _ _).trans (teq ((lw_eq _ _).mpr hc162)).2) k) ?_
      refine Wk.go (A' := T29.setTop (mkF m 167 #[jv sd, .second, jv xx, .second, iv kk, jv (1 : Int64), .second, rv oA, jv (own_go (-7046029254386353131 : Int64) (1 : Int64) kA sd).1, .second, rv oC, jv (own_bits sd), .second, jv rm, .second, rv oD, jv (own_go (-7046029254386353131 : Int64) (1 : Int64) kD (f_state oC (sd + (-7046029254386353131 : Int64)))).1, .second] [(.ref oA)])) (fun t k => XS.aload X29.here hx rfl (hb hby at_165) rfl rfl k) ?_
      obtain ⟨cq35, kq35, q35a, q35b, q35c⟩ := isOf hZ rfl f30
      obtain ⟨_, _, ⟨T35, L35, k35, n35⟩, -, X35, ⟨Lc35, hQ35, l35, y35, z35⟩, st35⟩ := X29.virtualBack hx (y := (⟨"com/example/skerry/skerry/engine/Rng", "state", "()J"⟩ : MethodName)) (z := (⟨"com/example/skerry/skerry/engine/Rng", "state", "()J"⟩ : MethodName)) hown (mvT hZ (tw26 hw)) (mvT hZ (tw27 hw)) (notFace_of_selects (args := #[]) (mvT hZ (tw29 hw))) (mvT hZ (tw29 hw)) (mvT hZ (tw28 hw)) (by decide) (backOf (W := 0) (rm5 l Z a0 hw [] oA (own_go (-7046029254386353131 : Int64) (1 : Int64) kA sd).2 T29.heap n0 Zp29 f30 f31 ) hZ (tw30 hw) (tw3 hw) (by decide) (by decide)) q35a q35c (g := (mkF m 167 #[jv sd, .second, jv xx, .second, iv kk, jv (1 : Int64), .second, rv oA, jv (own_go (-7046029254386353131 : Int64) (1 : Int64) kA sd).1, .second, rv oC, jv (own_bits sd), .second, jv rm, .second, rv oD, jv (own_go (-7046029254386353131 : Int64) (1 : Int64) kD (f_state oC (sd + (-7046029254386353131 : Int64)))).1, .second] [(.ref oA)])) rfl (by rw [hml]; rfl) (Steps.refl _) (argsL := []) (rest := []) (lenOf pd_0 rfl) rfl (by show 2 * 0 + _ ≤ _; exact Nat.le_of_eq rfl) (hb hby at_167) (fun _ _ => ⟨rfl, rfl, (by decide : 3 + 0 ≤ _), (by decide : 3 + 0 ≤ _)⟩)
      dsimp only [Pt.U, Pt.locs, Pt.cells, Pt.slots] at X35 l35 y35 z35 st35 hQ35
      subst l35 y35 z35
      obtain ⟨rfl, N35q, hE35⟩ := hQ35
      have N35 := Fr.app N29 N35q
      refine Wk.go (A' := T35.setTop (mkF m 170 #[jv sd, .second, jv xx, .second, iv kk, jv (1 : Int64), .second, rv oA, jv (own_go (-7046029254386353131 : Int64) (1 : Int64) kA sd).1, .second, rv oC, jv (own_bits sd), .second, jv rm, .second, rv oD, jv (own_go (-7046029254386353131 : Int64) (1 : Int64) kD (f_state oC (sd + (-7046029254386353131 : Int64)))).1, .second] [(.long (f_state oA (own_go (-7046029254386353131 : Int64) (1 : Int64) kA sd).2))])) (fun t k => st35.trans k) ?_
      refine Wk.go (A' := T35.setTop (mkF m 172 #[jv sd, .second, jv xx, .second, iv kk, jv (1 : Int64), .second, rv oA, jv (own_go (-7046029254386353131 : Int64) (1 : Int64) kA sd).1, .second, rv oC, jv (own_bits sd), .second, jv rm, .second, rv oD, jv (own_go (-7046029254386353131 : Int64) (1 : Int64) kD (f_state oC (sd + (-7046029254386353131 : Int64)))).1, .second] [(.ref oD), (.long (f_state oA (own_go (-7046029254386353131 : Int64) (1 : Int64) kA sd).2))])) (fun t k => XS.aload X35.here hx rfl (hb hby at_170) rfl rfl k) ?_
      obtain ⟨cq36, kq36, q36a, q36b, q36c⟩ := isOf hZ (hE35) Eq29
      obtain ⟨_, _, ⟨T36, L36, k36, n36⟩, -, X36, ⟨Lc36, hQ36, l36, y36, z36⟩, st36⟩ := X35.virtualBack hx (y := (⟨"com/example/skerry/skerry/engine/Rng", "state", "()J"⟩ : MethodName)) (z := (⟨"com/example/skerry/skerry/engine/Rng", "state", "()J"⟩ : MethodName)) hown (mvT hZ (tw26 hw)) (mvT hZ (tw27 hw)) (notFace_of_selects (args := #[]) (mvT hZ (tw29 hw))) (mvT hZ (tw29 hw)) (mvT hZ (tw28 hw)) (by decide) (backOf (W := 2) (rm5 l Z a0 hw [] oD (own_go (-7046029254386353131 : Int64) (1 : Int64) kD (f_state oC (sd + (-7046029254386353131 : Int64)))).2 T29.heap n0 Zp29 Eq29 Fq29 ) hZ (tw30 hw) (tw3 hw) (by decide) (by decide)) q36a q36c (g := (mkF m 172 #[jv sd, .second, jv xx, .second, iv kk, jv (1 : Int64), .second, rv oA, jv (own_go (-7046029254386353131 : Int64) (1 : Int64) kA sd).1, .second, rv oC, jv (own_bits sd), .second, jv rm, .second, rv oD, jv (own_go (-7046029254386353131 : Int64) (1 : Int64) kD (f_state oC (sd + (-7046029254386353131 : Int64)))).1, .second] [(.ref oD), (.long (f_state oA (own_go (-7046029254386353131 : Int64) (1 : Int64) kA sd).2))])) rfl (by rw [hml]; rfl) (Steps.refl _) (argsL := []) (rest := [(.long (f_state oA (own_go (-7046029254386353131 : Int64) (1 : Int64) kA sd).2))]) (lenOf pd_0 rfl) rfl (by show 2 * 0 + _ ≤ _; exact Nat.le_of_eq rfl) (hb hby at_172) (fun _ _ => ⟨rfl, (hE35), (by decide : 3 + 0 ≤ _), (by decide : 3 + 0 ≤ _)⟩)
      dsimp only [Pt.U, Pt.locs, Pt.cells, Pt.slots] at X36 l36 y36 z36 st36 hQ36
      subst l36 y36 z36
      obtain ⟨rfl, N36q, hE36⟩ := hQ36
      have N36 := Fr.app N35 N36q
      refine Wk.go (A' := T36.setTop (mkF m 175 #[jv sd, .second, jv xx, .second, iv kk, jv (1 : Int64), .second, rv oA, jv (own_go (-7046029254386353131 : Int64) (1 : Int64) kA sd).1, .second, rv oC, jv (own_bits sd), .second, jv rm, .second, rv oD, jv (own_go (-7046029254386353131 : Int64) (1 : Int64) kD (f_state oC (sd + (-7046029254386353131 : Int64)))).1, .second] [(.long (f_state oD (own_go (-7046029254386353131 : Int64) (1 : Int64) kD (f_state oC (sd + (-7046029254386353131 : Int64)))).2)), (.long (f_state oA (own_go (-7046029254386353131 : Int64) (1 : Int64) kA sd).2))])) (fun t k => st36.trans k) ?_
      refine Wk.go (A' := T36.setTop (mkF m 176 #[jv sd, .second, jv xx, .second, iv kk, jv (1 : Int64), .second, rv oA, jv (own_go (-7046029254386353131 : Int64) (1 : Int64) kA sd).1, .second, rv oC, jv (own_bits sd), .second, jv rm, .second, rv oD, jv (own_go (-7046029254386353131 : Int64) (1 : Int64) kD (f_state oC (sd + (-7046029254386353131 : Int64)))).1, .second] [(.int (lcmpW (f_state oA (own_go (-7046029254386353131 : Int64) (1 : Int64) kA sd).2) (f_state oD (own_go (-7046029254386353131 : Int64) (1 : Int64) kD (f_state oC (sd + (-7046029254386353131 : Int64)))).2)))])) (fun t k => XS.lcmp X36.here hx rfl (hb hby at_175) rfl k) ?_
      have hc176 : (f_state oA (own_go (-7046029254386353131 : Int64) (1 : Int64) kA sd).2) = (f_state oD (own_go (-7046029254386353131 : Int64) (1 : Int64) kD (f_state oC (sd + (-7046029254386353131 : Int64)))).2) := by rw [own_go_rej _ _ sd kA kD ((own_accept _ sd rm hbp _ (by decide) hrm).mp hc100) hkA hkD]; rfl
      refine Wk.go (A' := T36.setTop (mkF m 179 #[jv sd, .second, jv xx, .second, iv kk, jv (1 : Int64), .second, rv oA, jv (own_go (-7046029254386353131 : Int64) (1 : Int64) kA sd).1, .second, rv oC, jv (own_bits sd), .second, jv rm, .second, rv oD, jv (own_go (-7046029254386353131 : Int64) (1 : Int64) kD (f_state oC (sd + (-7046029254386353131 : Int64)))).1, .second] [])) (fun t k => XS.ifNo X36.here hx rfl (hb hby at_176) rfl ((if0 _ _).trans (teq ((lw_eq _ _).mpr hc176)).2) k) ?_
      refine Wk.go (A' := T36.setTop (mkF m 180 #[jv sd, .second, jv xx, .second, iv kk, jv (1 : Int64), .second, rv oA, jv (own_go (-7046029254386353131 : Int64) (1 : Int64) kA sd).1, .second, rv oC, jv (own_bits sd), .second, jv rm, .second, rv oD, jv (own_go (-7046029254386353131 : Int64) (1 : Int64) kD (f_state oC (sd + (-7046029254386353131 : Int64)))).1, .second] [(.int (1 : Int32))])) (fun t k => XS.iconst X36.here hx rfl (hb hby at_179) k) ?_
      refine Wk.go (A' := T36.setTop (mkF m 184 #[jv sd, .second, jv xx, .second, iv kk, jv (1 : Int64), .second, rv oA, jv (own_go (-7046029254386353131 : Int64) (1 : Int64) kA sd).1, .second, rv oC, jv (own_bits sd), .second, jv rm, .second, rv oD, jv (own_go (-7046029254386353131 : Int64) (1 : Int64) kD (f_state oC (sd + (-7046029254386353131 : Int64)))).1, .second] [(.int (1 : Int32))])) (fun t k => XS.goto X36.here hx rfl (pc0 := 180) (pc' := 184) rfl (hb hby at_180) (by decide) (by decide) k) ?_
      refine own_fin (Qv := Q0 Z sd xx kk h0 n0) (v := some (.int (1 : Int32))) X36 hlk (fun h => by rw [Bd.returns] at h; cases h) (fun fs hr => retN X36 hx (t := .boolean) Bd.returns (by simp) (hb hby at_184) hr) ?_ (by decide) (by decide)
      exact ⟨rfl, N36⟩
    · refine Wk.go (A' := T13.setTop (mkF m 103 #[jv sd, .second, jv xx, .second, iv kk, jv (1 : Int64), .second, rv oA, jv (own_go (-7046029254386353131 : Int64) (1 : Int64) kA sd).1, .second, rv oC, jv (own_bits sd), .second, jv rm, .second, .unset, .unset, .unset] [])) (fun t k => XS.ifNo X13.here hx rfl (hb hby at_100) rfl ((if0 _ _).trans (flt (mt (lw_gt _ _).mp hc100)).2.2.1) k) ?_
      refine Wk.go (A' := T13.setTop (mkF m 105 #[jv sd, .second, jv xx, .second, iv kk, jv (1 : Int64), .second, rv oA, jv (own_go (-7046029254386353131 : Int64) (1 : Int64) kA sd).1, .second, rv oC, jv (own_bits sd), .second, jv rm, .second, .unset, .unset, .unset] [(.long (own_go (-7046029254386353131 : Int64) (1 : Int64) kA sd).1)])) (fun t k => XS.lload X13.here hx rfl (hb hby at_103) rfl k) ?_
      refine Wk.go (A' := T13.setTop (mkF m 107 #[jv sd, .second, jv xx, .second, iv kk, jv (1 : Int64), .second, rv oA, jv (own_go (-7046029254386353131 : Int64) (1 : Int64) kA sd).1, .second, rv oC, jv (own_bits sd), .second, jv rm, .second, .unset, .unset, .unset] [(.long (own_bits sd)), (.long (own_go (-7046029254386353131 : Int64) (1 : Int64) kA sd).1)])) (fun t k => XS.lload X13.here hx rfl (hb hby at_105) rfl k) ?_
      refine Wk.go (A' := T13.setTop (mkF m 109 #[jv sd, .second, jv xx, .second, iv kk, jv (1 : Int64), .second, rv oA, jv (own_go (-7046029254386353131 : Int64) (1 : Int64) kA sd).1, .second, rv oC, jv (own_bits sd), .second, jv rm, .second, .unset, .unset, .unset] [(.long (1 : Int64)), (.long (own_bits sd)), (.long (own_go (-7046029254386353131 : Int64) (1 : Int64) kA sd).1)])) (fun t k => XS.lload X13.here hx rfl (hb hby at_107) rfl k) ?_
      refine Wk.go (A' := T13.setTop (mkF m 110 #[jv sd, .second, jv xx, .second, iv kk, jv (1 : Int64), .second, rv oA, jv (own_go (-7046029254386353131 : Int64) (1 : Int64) kA sd).1, .second, rv oC, jv (own_bits sd), .second, jv rm, .second, .unset, .unset, .unset] [(.long ((own_bits sd) - ((own_bits sd) / (1 : Int64)) * (1 : Int64))), (.long (own_go (-7046029254386353131 : Int64) (1 : Int64) kA sd).1)])) (fun t k => XS.lrem X13.here hx rfl (hb hby at_109) rfl (own_bnz hbp) k) ?_
      refine Wk.go (A' := T13.setTop (mkF m 111 #[jv sd, .second, jv xx, .second, iv kk, jv (1 : Int64), .second, rv oA, jv (own_go (-7046029254386353131 : Int64) (1 : Int64) kA sd).1, .second, rv oC, jv (own_bits sd), .second, jv rm, .second, .unset, .unset, .unset] [(.int (lcmpW (own_go (-7046029254386353131 : Int64) (1 : Int64) kA sd).1 ((own_bits sd) - ((own_bits sd) / (1 : Int64)) * (1 : Int64))))])) (fun t k => XS.lcmp X13.here hx rfl (hb hby at_110) rfl k) ?_
      have hc111 : (own_go (-7046029254386353131 : Int64) (1 : Int64) kA sd).1 = ((own_bits sd) - ((own_bits sd) / (1 : Int64)) * (1 : Int64)) := by rw [own_go_acc _ _ sd kA (fun q => hc100 ((own_accept _ sd rm hbp _ (by decide) hrm).mpr q))]; rfl
      refine Wk.go (A' := T13.setTop (mkF m 114 #[jv sd, .second, jv xx, .second, iv kk, jv (1 : Int64), .second, rv oA, jv (own_go (-7046029254386353131 : Int64) (1 : Int64) kA sd).1, .second, rv oC, jv (own_bits sd), .second, jv rm, .second, .unset, .unset, .unset] [])) (fun t k => XS.ifNo X13.here hx rfl (hb hby at_111) rfl ((if0 _ _).trans (teq ((lw_eq _ _).mpr hc111)).2) k) ?_
      refine Wk.go (A' := T13.setTop (mkF m 116 #[jv sd, .second, jv xx, .second, iv kk, jv (1 : Int64), .second, rv oA, jv (own_go (-7046029254386353131 : Int64) (1 : Int64) kA sd).1, .second, rv oC, jv (own_bits sd), .second, jv rm, .second, .unset, .unset, .unset] [(.ref oA)])) (fun t k => XS.aload X13.here hx rfl (hb hby at_114) rfl rfl k) ?_
      obtain ⟨cq37, kq37, q37a, q37b, q37c⟩ := isOf hZ rfl f14
      obtain ⟨_, _, ⟨T37, L37, k37, n37⟩, -, X37, ⟨Lc37, hQ37, l37, y37, z37⟩, st37⟩ := X13.virtualBack hx (y := (⟨"com/example/skerry/skerry/engine/Rng", "state", "()J"⟩ : MethodName)) (z := (⟨"com/example/skerry/skerry/engine/Rng", "state", "()J"⟩ : MethodName)) hown (mvT hZ (tw26 hw)) (mvT hZ (tw27 hw)) (notFace_of_selects (args := #[]) (mvT hZ (tw29 hw))) (mvT hZ (tw29 hw)) (mvT hZ (tw28 hw)) (by decide) (backOf (W := 0) (rm5 l Z a0 hw [] oA (own_go (-7046029254386353131 : Int64) (1 : Int64) kA sd).2 T13.heap n0 Zp13 f14 f15 ) hZ (tw30 hw) (tw3 hw) (by decide) (by decide)) q37a q37c (g := (mkF m 116 #[jv sd, .second, jv xx, .second, iv kk, jv (1 : Int64), .second, rv oA, jv (own_go (-7046029254386353131 : Int64) (1 : Int64) kA sd).1, .second, rv oC, jv (own_bits sd), .second, jv rm, .second, .unset, .unset, .unset] [(.ref oA)])) rfl (by rw [hml]; rfl) (Steps.refl _) (argsL := []) (rest := []) (lenOf pd_0 rfl) rfl (by show 2 * 0 + _ ≤ _; exact Nat.le_of_eq rfl) (hb hby at_116) (fun _ _ => ⟨rfl, rfl, (by decide : 2 + 0 ≤ _), (by decide : 2 + 0 ≤ _)⟩)
      dsimp only [Pt.U, Pt.locs, Pt.cells, Pt.slots] at X37 l37 y37 z37 st37 hQ37
      subst l37 y37 z37
      obtain ⟨rfl, N37q, hE37⟩ := hQ37
      have N37 := Fr.app N13 N37q
      refine Wk.go (A' := T37.setTop (mkF m 119 #[jv sd, .second, jv xx, .second, iv kk, jv (1 : Int64), .second, rv oA, jv (own_go (-7046029254386353131 : Int64) (1 : Int64) kA sd).1, .second, rv oC, jv (own_bits sd), .second, jv rm, .second, .unset, .unset, .unset] [(.long (f_state oA (own_go (-7046029254386353131 : Int64) (1 : Int64) kA sd).2))])) (fun t k => st37.trans k) ?_
      refine Wk.go (A' := T37.setTop (mkF m 121 #[jv sd, .second, jv xx, .second, iv kk, jv (1 : Int64), .second, rv oA, jv (own_go (-7046029254386353131 : Int64) (1 : Int64) kA sd).1, .second, rv oC, jv (own_bits sd), .second, jv rm, .second, .unset, .unset, .unset] [(.ref oC), (.long (f_state oA (own_go (-7046029254386353131 : Int64) (1 : Int64) kA sd).2))])) (fun t k => XS.aload X37.here hx rfl (hb hby at_119) rfl rfl k) ?_
      obtain ⟨cq38, kq38, q38a, q38b, q38c⟩ := isOf hZ (hE37) Eq13
      obtain ⟨_, _, ⟨T38, L38, k38, n38⟩, -, X38, ⟨Lc38, hQ38, l38, y38, z38⟩, st38⟩ := X37.virtualBack hx (y := (⟨"com/example/skerry/skerry/engine/Rng", "state", "()J"⟩ : MethodName)) (z := (⟨"com/example/skerry/skerry/engine/Rng", "state", "()J"⟩ : MethodName)) hown (mvT hZ (tw26 hw)) (mvT hZ (tw27 hw)) (notFace_of_selects (args := #[]) (mvT hZ (tw29 hw))) (mvT hZ (tw29 hw)) (mvT hZ (tw28 hw)) (by decide) (backOf (W := 2) (rm5 l Z a0 hw [] oC (sd + (-7046029254386353131 : Int64)) T13.heap n0 Zp13 Eq13 Fq13_state ) hZ (tw30 hw) (tw3 hw) (by decide) (by decide)) q38a q38c (g := (mkF m 121 #[jv sd, .second, jv xx, .second, iv kk, jv (1 : Int64), .second, rv oA, jv (own_go (-7046029254386353131 : Int64) (1 : Int64) kA sd).1, .second, rv oC, jv (own_bits sd), .second, jv rm, .second, .unset, .unset, .unset] [(.ref oC), (.long (f_state oA (own_go (-7046029254386353131 : Int64) (1 : Int64) kA sd).2))])) rfl (by rw [hml]; rfl) (Steps.refl _) (argsL := []) (rest := [(.long (f_state oA (own_go (-7046029254386353131 : Int64) (1 : Int64) kA sd).2))]) (lenOf pd_0 rfl) rfl (by show 2 * 0 + _ ≤ _; exact Nat.le_of_eq rfl) (hb hby at_121) (fun _ _ => ⟨rfl, (hE37), (by decide : 2 + 0 ≤ _), (by decide : 2 + 0 ≤ _)⟩)
      dsimp only [Pt.U, Pt.locs, Pt.cells, Pt.slots] at X38 l38 y38 z38 st38 hQ38
      subst l38 y38 z38
      obtain ⟨rfl, N38q, hE38⟩ := hQ38
      have N38 := Fr.app N37 N38q
      refine Wk.go (A' := T38.setTop (mkF m 124 #[jv sd, .second, jv xx, .second, iv kk, jv (1 : Int64), .second, rv oA, jv (own_go (-7046029254386353131 : Int64) (1 : Int64) kA sd).1, .second, rv oC, jv (own_bits sd), .second, jv rm, .second, .unset, .unset, .unset] [(.long (f_state oC (sd + (-7046029254386353131 : Int64)))), (.long (f_state oA (own_go (-7046029254386353131 : Int64) (1 : Int64) kA sd).2))])) (fun t k => st38.trans k) ?_
      refine Wk.go (A' := T38.setTop (mkF m 125 #[jv sd, .second, jv xx, .second, iv kk, jv (1 : Int64), .second, rv oA, jv (own_go (-7046029254386353131 : Int64) (1 : Int64) kA sd).1, .second, rv oC, jv (own_bits sd), .second, jv rm, .second, .unset, .unset, .unset] [(.int (lcmpW (f_state oA (own_go (-7046029254386353131 : Int64) (1 : Int64) kA sd).2) (f_state oC (sd + (-7046029254386353131 : Int64)))))])) (fun t k => XS.lcmp X38.here hx rfl (hb hby at_124) rfl k) ?_
      have hc125 : (f_state oA (own_go (-7046029254386353131 : Int64) (1 : Int64) kA sd).2) = (f_state oC (sd + (-7046029254386353131 : Int64))) := by rw [own_go_acc _ _ sd kA (fun q => hc100 ((own_accept _ sd rm hbp _ (by decide) hrm).mpr q))]; rfl
      refine Wk.go (A' := T38.setTop (mkF m 128 #[jv sd, .second, jv xx, .second, iv kk, jv (1 : Int64), .second, rv oA, jv (own_go (-7046029254386353131 : Int64) (1 : Int64) kA sd).1, .second, rv oC, jv (own_bits sd), .second, jv rm, .second, .unset, .unset, .unset] [])) (fun t k => XS.ifNo X38.here hx rfl (hb hby at_125) rfl ((if0 _ _).trans (teq ((lw_eq _ _).mpr hc125)).2) k) ?_
      refine Wk.go (A' := T38.setTop (mkF m 129 #[jv sd, .second, jv xx, .second, iv kk, jv (1 : Int64), .second, rv oA, jv (own_go (-7046029254386353131 : Int64) (1 : Int64) kA sd).1, .second, rv oC, jv (own_bits sd), .second, jv rm, .second, .unset, .unset, .unset] [(.int (1 : Int32))])) (fun t k => XS.iconst X38.here hx rfl (hb hby at_128) k) ?_
      refine Wk.go (A' := T38.setTop (mkF m 133 #[jv sd, .second, jv xx, .second, iv kk, jv (1 : Int64), .second, rv oA, jv (own_go (-7046029254386353131 : Int64) (1 : Int64) kA sd).1, .second, rv oC, jv (own_bits sd), .second, jv rm, .second, .unset, .unset, .unset] [(.int (1 : Int32))])) (fun t k => XS.goto X38.here hx rfl (pc0 := 129) (pc' := 133) rfl (hb hby at_129) (by decide) (by decide) k) ?_
      refine own_fin (Qv := Q0 Z sd xx kk h0 n0) (v := some (.int (1 : Int32))) X38 hlk (fun h => by rw [Bd.returns] at h; cases h) (fun fs hr => retN X38 hx (t := .boolean) Bd.returns (by simp) (hb hby at_133) hr) ?_ (by decide) (by decide)
      exact ⟨rfl, N38⟩
  · refine Wk.go (A' := s₁.setTop (mkF m 23 #[jv sd, .second, jv xx, .second, iv kk, jv bb, .second, .unset, .unset, .unset, .unset, .unset, .unset, .unset, .unset, .unset, .unset, .unset] [])) (fun t k => XS.ifYes X0.here hx rfl (pc0 := 17) (pc' := 23) rfl (hb hby at_17) rfl ((if0 _ _).trans (feq (mt (lw_eq _ _).mp hc17)).2) (by decide) (by decide) k) ?_
    have hbp : 0 < bb.toInt := own_bb xx _ bb hbb hc17
    obtain ⟨T39, h39, X39, e39, E39, A39, D39, -, st39⟩ := newO X0 hx hZ hown (tw1 hw) (tw2 hw) (tw3 hw) e0 (g := (mkF m 23 #[jv sd, .second, jv xx, .second, iv kk, jv bb, .second, .unset, .unset, .unset, .unset, .unset, .unset, .unset, .unset, .unset, .unset, .unset] [])) rfl (hb hby at_23) (by decide) (by decide)
    obtain ⟨oA, g39⟩ : ∃ z, z = h0.size := ⟨_, rfl⟩
    rw [← g39] at A39 D39 st39
    have g_oA : n0 ≤ oA := Nat.le_trans Z0 (Nat.le_of_eq g39.symm)
    have F_state_oA : Fld Z h39 oA "com/example/skerry/skerry/engine/Rng" "state" "J" (.long (0 : Int64)) := D39 (Or.inl (tw11 hw)) (ty := .long) (by decide)
    have Zp39 : n0 ≤ h39.size := Nat.le_trans Z0 E39.1
    refine Wk.go (A' := T39.setTop (mkF m 26 #[jv sd, .second, jv xx, .second, iv kk, jv bb, .second, .unset, .unset, .unset, .unset, .unset, .unset, .unset, .unset, .unset, .unset, .unset] [(.ref oA)])) (fun t k => st39 t k) ?_
    refine Wk.go (A' := T39.setTop (mkF m 27 #[jv sd, .second, jv xx, .second, iv kk, jv bb, .second, .unset, .unset, .unset, .unset, .unset, .unset, .unset, .unset, .unset, .unset, .unset] [(.ref oA), (.ref oA)])) (fun t k => XS.dup X39.here hx rfl (hb hby at_26) rfl rfl k) ?_
    refine Wk.go (A' := T39.setTop (mkF m 28 #[jv sd, .second, jv xx, .second, iv kk, jv bb, .second, .unset, .unset, .unset, .unset, .unset, .unset, .unset, .unset, .unset, .unset, .unset] [(.long sd), (.ref oA), (.ref oA)])) (fun t k => XS.lloadN X39.here hx rfl (hb hby at_27) rfl k) ?_
    obtain ⟨_, _, ⟨T40, L40, k40, n40⟩, -, X40, ⟨Lc40, hQ40, l40, y40, z40⟩, st40⟩ := X39.specialBack hx (y := (⟨"com/example/skerry/skerry/engine/Rng", "<init>", "(J)V"⟩ : MethodName)) rfl hown (mvT hZ (tw4 hw)) (mvT hZ (tw5 hw)) (mvT hZ (tw6 hw)) (by decide) (backOf (W := 1) (rm1 l Z a0 hw [] oA sd  h39 n0 Zp39 A39 F_state_oA g_oA ) hZ (tw6 hw) (tw3 hw) (by decide) (by decide)) (g := (mkF m 28 #[jv sd, .second, jv xx, .second, iv kk, jv bb, .second, .unset, .unset, .unset, .unset, .unset, .unset, .unset, .unset, .unset, .unset, .unset] [(.long sd), (.ref oA), (.ref oA)])) rfl (by rw [hml]; rfl) (Steps.refl _) (a := oA) (argsL := [(.long sd)]) (rest := [(.ref oA)]) (lenOf pd_1 rfl) rfl (by show 2 * 0 + _ ≤ _; exact Nat.le_of_eq rfl) (hb hby at_28) (fun _ _ => ⟨rfl, e39, (by decide : 1 + 0 ≤ _), (by decide : 1 + 0 ≤ _)⟩)
    dsimp only [Pt.U, Pt.locs, Pt.cells, Pt.slots] at X40 l40 y40 z40 st40 hQ40
    subst l40 y40 z40
    obtain ⟨rfl, N40q, Kq40, Eq40, Fq40_state⟩ := hQ40
    have N40 := Fr.app N0 N40q
    have f41 := A39.keep Kq40
    have Zp40 : n0 ≤ T40.heap.size := Nat.le_trans Zp39 Kq40.1
    refine Wk.go (A' := T40.setTop (mkF m 31 #[jv sd, .second, jv xx, .second, iv kk, jv bb, .second, .unset, .unset, .unset, .unset, .unset, .unset, .unset, .unset, .unset, .unset, .unset] [(.ref oA)])) (fun t k => st40.trans k) ?_
    refine Wk.go (A' := T40.setTop (mkF m 33 #[jv sd, .second, jv xx, .second, iv kk, jv bb, .second, rv oA, .unset, .unset, .unset, .unset, .unset, .unset, .unset, .unset, .unset, .unset] [])) (fun t k => XS.astore X40.here hx rfl (hb hby at_31) rfl rfl (l' := #[jv sd, .second, jv xx, .second, iv kk, jv bb, .second, rv oA, .unset, .unset, .unset, .unset, .unset, .unset, .unset, .unset, .unset, .unset]) rfl k) ?_
    refine Wk.go (A' := T40.setTop (mkF m 35 #[jv sd, .second, jv xx, .second, iv kk, jv bb, .second, rv oA, .unset, .unset, .unset, .unset, .unset, .unset, .unset, .unset, .unset, .unset] [(.ref oA)])) (fun t k => XS.aload X40.here hx rfl (hb hby at_33) rfl rfl k) ?_
    refine Wk.go (A' := T40.setTop (mkF m 37 #[jv sd, .second, jv xx, .second, iv kk, jv bb, .second, rv oA, .unset, .unset, .unset, .unset, .unset, .unset, .unset, .unset, .unset, .unset] [(.long bb), (.ref oA)])) (fun t k => XS.lload X40.here hx rfl (hb hby at_35) rfl k) ?_
    obtain ⟨cq42, kq42, q42a, q42b, q42c⟩ := isOf hZ rfl Eq40
    obtain ⟨_, _, ⟨T42, L42, k42, n42⟩, -, X42, ⟨Lc42, hQ42, l42, y42, z42⟩, st42⟩ := X40.virtualBack hx (y := (⟨"com/example/skerry/skerry/engine/Rng", "nextLong", "(J)J"⟩ : MethodName)) (z := (⟨"com/example/skerry/skerry/engine/Rng", "nextLong", "(J)J"⟩ : MethodName)) hown (mvT hZ (tw12 hw)) (mvT hZ (tw13 hw)) (notFace_of_selects (args := #[]) (mvT hZ (tw15 hw))) (mvT hZ (tw15 hw)) (mvT hZ (tw14 hw)) (by decide) (backOf (W := 0) (rm3 l Z a0 hw [] oA bb sd T40.heap n0 Zp40 Eq40 Fq40_state g_oA hbp) hZ (tw16 hw) (tw3 hw) (by decide) (by decide)) q42a q42c (g := (mkF m 37 #[jv sd, .second, jv xx, .second, iv kk, jv bb, .second, rv oA, .unset, .unset, .unset, .unset, .unset, .unset, .unset, .unset, .unset, .unset] [(.long bb), (.ref oA)])) rfl (by rw [hml]; rfl) (Steps.refl _) (argsL := [(.long bb)]) (rest := []) (lenOf pd_2 rfl) rfl (by show 2 * 0 + _ ≤ _; exact Nat.le_of_eq rfl) (hb hby at_37) (fun _ _ => ⟨rfl, rfl, (by decide : 1 + 0 ≤ _), (by decide : 1 + 0 ≤ _)⟩)
    dsimp only [Pt.U, Pt.locs, Pt.cells, Pt.slots] at X42 l42 y42 z42 st42 hQ42
    subst l42 y42 z42
    obtain ⟨kA, hkA, rfl, N42q, Kq42, Eq42, Fq42⟩ := hQ42
    have N42 := Fr.app N40 N42q
    have f43 := Eq40.keep Kq42
    have Zp42 : n0 ≤ T42.heap.size := Nat.le_trans Zp40 Kq42.1
    refine Wk.go (A' := T42.setTop (mkF m 40 #[jv sd, .second, jv xx, .second, iv kk, jv bb, .second, rv oA, .unset, .unset, .unset, .unset, .unset, .unset, .unset, .unset, .unset, .unset] [(.long (own_go (-7046029254386353131 : Int64) bb kA sd).1)])) (fun t k => st42.trans k) ?_
    refine Wk.go (A' := T42.setTop (mkF m 42 #[jv sd, .second, jv xx, .second, iv kk, jv bb, .second, rv oA, jv (own_go (-7046029254386353131 : Int64) bb kA sd).1, .second, .unset, .unset, .unset, .unset, .unset, .unset, .unset, .unset] [])) (fun t k => XS.lstore X42.here hx rfl (hb hby at_40) rfl (l' := #[jv sd, .second, jv xx, .second, iv kk, jv bb, .second, rv oA, jv (own_go (-7046029254386353131 : Int64) bb kA sd).1, .second, .unset, .unset, .unset, .unset, .unset, .unset, .unset, .unset]) rfl k) ?_
    refine Wk.go (A' := T42.setTop (mkF m 44 #[jv sd, .second, jv xx, .second, iv kk, jv bb, .second, rv oA, jv (own_go (-7046029254386353131 : Int64) bb kA sd).1, .second, .unset, .unset, .unset, .unset, .unset, .unset, .unset, .unset] [(.long (own_go (-7046029254386353131 : Int64) bb kA sd).1)])) (fun t k => XS.lload X42.here hx rfl (hb hby at_42) rfl k) ?_
    refine Wk.go (A' := T42.setTop (mkF m 45 #[jv sd, .second, jv xx, .second, iv kk, jv bb, .second, rv oA, jv (own_go (-7046029254386353131 : Int64) bb kA sd).1, .second, .unset, .unset, .unset, .unset, .unset, .unset, .unset, .unset] [(.long (0 : Int64)), (.long (own_go (-7046029254386353131 : Int64) bb kA sd).1)])) (fun t k => XS.lconst X42.here hx rfl (hb hby at_44) k) ?_
    refine Wk.go (A' := T42.setTop (mkF m 46 #[jv sd, .second, jv xx, .second, iv kk, jv bb, .second, rv oA, jv (own_go (-7046029254386353131 : Int64) bb kA sd).1, .second, .unset, .unset, .unset, .unset, .unset, .unset, .unset, .unset] [(.int (lcmpW (own_go (-7046029254386353131 : Int64) bb kA sd).1 (0 : Int64)))])) (fun t k => XS.lcmp X42.here hx rfl (hb hby at_45) rfl k) ?_
    have hc46 : ¬ ((own_go (-7046029254386353131 : Int64) bb kA sd).1 < (0 : Int64)) := by rw [Int64.lt_iff_toInt_lt]; have := (own_go_rng (-7046029254386353131 : Int64) _ hbp kA sd).1; have e0 : (0 : Int64).toInt = 0 := (by decide); omega
    refine Wk.go (A' := T42.setTop (mkF m 49 #[jv sd, .second, jv xx, .second, iv kk, jv bb, .second, rv oA, jv (own_go (-7046029254386353131 : Int64) bb kA sd).1, .second, .unset, .unset, .unset, .unset, .unset, .unset, .unset, .unset] [])) (fun t k => XS.ifNo X42.here hx rfl (hb hby at_46) rfl ((if0 _ _).trans (flt (mt (lw_lt _ _).mp hc46)).1) k) ?_
    refine Wk.go (A' := T42.setTop (mkF m 51 #[jv sd, .second, jv xx, .second, iv kk, jv bb, .second, rv oA, jv (own_go (-7046029254386353131 : Int64) bb kA sd).1, .second, .unset, .unset, .unset, .unset, .unset, .unset, .unset, .unset] [(.long (own_go (-7046029254386353131 : Int64) bb kA sd).1)])) (fun t k => XS.lload X42.here hx rfl (hb hby at_49) rfl k) ?_
    refine Wk.go (A' := T42.setTop (mkF m 53 #[jv sd, .second, jv xx, .second, iv kk, jv bb, .second, rv oA, jv (own_go (-7046029254386353131 : Int64) bb kA sd).1, .second, .unset, .unset, .unset, .unset, .unset, .unset, .unset, .unset] [(.long bb), (.long (own_go (-7046029254386353131 : Int64) bb kA sd).1)])) (fun t k => XS.lload X42.here hx rfl (hb hby at_51) rfl k) ?_
    refine Wk.go (A' := T42.setTop (mkF m 54 #[jv sd, .second, jv xx, .second, iv kk, jv bb, .second, rv oA, jv (own_go (-7046029254386353131 : Int64) bb kA sd).1, .second, .unset, .unset, .unset, .unset, .unset, .unset, .unset, .unset] [(.int (lcmpW (own_go (-7046029254386353131 : Int64) bb kA sd).1 bb))])) (fun t k => XS.lcmp X42.here hx rfl (hb hby at_53) rfl k) ?_
    have hc54 : (own_go (-7046029254386353131 : Int64) bb kA sd).1 < bb := by rw [Int64.lt_iff_toInt_lt]; exact (own_go_rng (-7046029254386353131 : Int64) _ hbp kA sd).2
    refine Wk.go (A' := T42.setTop (mkF m 59 #[jv sd, .second, jv xx, .second, iv kk, jv bb, .second, rv oA, jv (own_go (-7046029254386353131 : Int64) bb kA sd).1, .second, .unset, .unset, .unset, .unset, .unset, .unset, .unset, .unset] [])) (fun t k => XS.ifYes X42.here hx rfl (pc0 := 54) (pc' := 59) rfl (hb hby at_54) rfl ((if0 _ _).trans (tlt ((lw_lt _ _).mpr hc54)).1) (by decide) (by decide) k) ?_
    obtain ⟨T44, h44, X44, e44, E44, A44, D44, -, st44⟩ := newO X42 hx hZ hown (tw1 hw) (tw2 hw) (tw3 hw) rfl (g := (mkF m 59 #[jv sd, .second, jv xx, .second, iv kk, jv bb, .second, rv oA, jv (own_go (-7046029254386353131 : Int64) bb kA sd).1, .second, .unset, .unset, .unset, .unset, .unset, .unset, .unset, .unset] [])) rfl (hb hby at_59) (by decide) (by decide)
    obtain ⟨oC, g44⟩ : ∃ z, z = T42.heap.size := ⟨_, rfl⟩
    rw [← g44] at A44 D44 st44
    have g_oC : n0 ≤ oC := Nat.le_trans Zp42 (Nat.le_of_eq g44.symm)
    have ne_oA_oC : oA ≠ oC := Nat.ne_of_lt (Nat.lt_of_lt_of_le Eq42.lt (Nat.le_of_eq g44.symm))
    have f45 := Eq42.ext E44
    have f46 := Fq42.ext E44
    have F_state_oC : Fld Z h44 oC "com/example/skerry/skerry/engine/Rng" "state" "J" (.long (0 : Int64)) := D44 (Or.inl (tw11 hw)) (ty := .long) (by decide)
    have Zp44 : n0 ≤ h44.size := Nat.le_trans Zp42 E44.1
    refine Wk.go (A' := T44.setTop (mkF m 62 #[jv sd, .second, jv xx, .second, iv kk, jv bb, .second, rv oA, jv (own_go (-7046029254386353131 : Int64) bb kA sd).1, .second, .unset, .unset, .unset, .unset, .unset, .unset, .unset, .unset] [(.ref oC)])) (fun t k => st44 t k) ?_
    refine Wk.go (A' := T44.setTop (mkF m 63 #[jv sd, .second, jv xx, .second, iv kk, jv bb, .second, rv oA, jv (own_go (-7046029254386353131 : Int64) bb kA sd).1, .second, .unset, .unset, .unset, .unset, .unset, .unset, .unset, .unset] [(.ref oC), (.ref oC)])) (fun t k => XS.dup X44.here hx rfl (hb hby at_62) rfl rfl k) ?_
    refine Wk.go (A' := T44.setTop (mkF m 64 #[jv sd, .second, jv xx, .second, iv kk, jv bb, .second, rv oA, jv (own_go (-7046029254386353131 : Int64) bb kA sd).1, .second, .unset, .unset, .unset, .unset, .unset, .unset, .unset, .unset] [(.long sd), (.ref oC), (.ref oC)])) (fun t k => XS.lloadN X44.here hx rfl (hb hby at_63) rfl k) ?_
    obtain ⟨_, _, ⟨T47, L47, k47, n47⟩, -, X47, ⟨Lc47, hQ47, l47, y47, z47⟩, st47⟩ := X44.specialBack hx (y := (⟨"com/example/skerry/skerry/engine/Rng", "<init>", "(J)V"⟩ : MethodName)) rfl hown (mvT hZ (tw4 hw)) (mvT hZ (tw5 hw)) (mvT hZ (tw6 hw)) (by decide) (backOf (W := 1) (rm1 l Z a0 hw [] oC sd  h44 n0 Zp44 A44 F_state_oC g_oC ) hZ (tw6 hw) (tw3 hw) (by decide) (by decide)) (g := (mkF m 64 #[jv sd, .second, jv xx, .second, iv kk, jv bb, .second, rv oA, jv (own_go (-7046029254386353131 : Int64) bb kA sd).1, .second, .unset, .unset, .unset, .unset, .unset, .unset, .unset, .unset] [(.long sd), (.ref oC), (.ref oC)])) rfl (by rw [hml]; rfl) (Steps.refl _) (a := oC) (argsL := [(.long sd)]) (rest := [(.ref oC)]) (lenOf pd_1 rfl) rfl (by show 2 * 0 + _ ≤ _; exact Nat.le_of_eq rfl) (hb hby at_64) (fun _ _ => ⟨rfl, e44, (by decide : 2 + 0 ≤ _), (by decide : 2 + 0 ≤ _)⟩)
    dsimp only [Pt.U, Pt.locs, Pt.cells, Pt.slots] at X47 l47 y47 z47 st47 hQ47
    subst l47 y47 z47
    obtain ⟨rfl, N47q, Kq47, Eq47, Fq47_state⟩ := hQ47
    have N47 := Fr.app N42 N47q
    have f48 := f45.keep Kq47
    have f49 := f46.keep Kq47 (ninS ne_oA_oC nin0)
    have f50 := A44.keep Kq47
    have Zp47 : n0 ≤ T47.heap.size := Nat.le_trans Zp44 Kq47.1
    refine Wk.go (A' := T47.setTop (mkF m 67 #[jv sd, .second, jv xx, .second, iv kk, jv bb, .second, rv oA, jv (own_go (-7046029254386353131 : Int64) bb kA sd).1, .second, .unset, .unset, .unset, .unset, .unset, .unset, .unset, .unset] [(.ref oC)])) (fun t k => st47.trans k) ?_
    refine Wk.go (A' := T47.setTop (mkF m 69 #[jv sd, .second, jv xx, .second, iv kk, jv bb, .second, rv oA, jv (own_go (-7046029254386353131 : Int64) bb kA sd).1, .second, rv oC, .unset, .unset, .unset, .unset, .unset, .unset, .unset] [])) (fun t k => XS.astore X47.here hx rfl (hb hby at_67) rfl rfl (l' := #[jv sd, .second, jv xx, .second, iv kk, jv bb, .second, rv oA, jv (own_go (-7046029254386353131 : Int64) bb kA sd).1, .second, rv oC, .unset, .unset, .unset, .unset, .unset, .unset, .unset]) rfl k) ?_
    refine Wk.go (A' := T47.setTop (mkF m 71 #[jv sd, .second, jv xx, .second, iv kk, jv bb, .second, rv oA, jv (own_go (-7046029254386353131 : Int64) bb kA sd).1, .second, rv oC, .unset, .unset, .unset, .unset, .unset, .unset, .unset] [(.ref oC)])) (fun t k => XS.aload X47.here hx rfl (hb hby at_69) rfl rfl k) ?_
    obtain ⟨cq51, kq51, q51a, q51b, q51c⟩ := isOf hZ rfl Eq47
    obtain ⟨_, _, ⟨T51, L51, k51, n51⟩, -, X51, ⟨Lc51, hQ51, l51, y51, z51⟩, st51⟩ := X47.virtualBack hx (y := (⟨"com/example/skerry/skerry/engine/Rng", "nextLong", "()J"⟩ : MethodName)) (z := (⟨"com/example/skerry/skerry/engine/Rng", "nextLong", "()J"⟩ : MethodName)) hown (mvT hZ (tw25 hw)) (mvT hZ (tw18 hw)) (notFace_of_selects (args := #[]) (mvT hZ (tw20 hw))) (mvT hZ (tw20 hw)) (mvT hZ (tw19 hw)) (by decide) (backOf (W := 0) (rm4 l Z a0 hw [] oC sd T47.heap n0 Zp47 Eq47 Fq47_state g_oC ) hZ (tw21 hw) (tw3 hw) (by decide) (by decide)) q51a q51c (g := (mkF m 71 #[jv sd, .second, jv xx, .second, iv kk, jv bb, .second, rv oA, jv (own_go (-7046029254386353131 : Int64) bb kA sd).1, .second, rv oC, .unset, .unset, .unset, .unset, .unset, .unset, .unset] [(.ref oC)])) rfl (by rw [hml]; rfl) (Steps.refl _) (argsL := []) (rest := []) (lenOf pd_0 rfl) rfl (by show 2 * 0 + _ ≤ _; exact Nat.le_of_eq rfl) (hb hby at_71) (fun _ _ => ⟨rfl, rfl, (by decide : 2 + 0 ≤ _), (by decide : 2 + 0 ≤ _)⟩)
    dsimp only [Pt.U, Pt.locs, Pt.cells, Pt.slots] at X51 l51 y51 z51 st51 hQ51
    subst l51 y51 z51
    obtain ⟨rfl, N51q, Kq51, Eq51, Fq51_state⟩ := hQ51
    have N51 := Fr.app N47 N51q
    have f52 := f48.keep Kq51
    have f53 := f49.keep Kq51 (ninS ne_oA_oC nin0)
    have f54 := Eq47.keep Kq51
    have Zp51 : n0 ≤ T51.heap.size := Nat.le_trans Zp47 Kq51.1
    refine Wk.go (A' := T51.setTop (mkF m 74 #[jv sd, .second, jv xx, .second, iv kk, jv bb, .second, rv oA, jv (own_go (-7046029254386353131 : Int64) bb kA sd).1, .second, rv oC, .unset, .unset, .unset, .unset, .unset, .unset, .unset] [(.long (f_next oC sd))])) (fun t k => st51.trans k) ?_
    refine Wk.go (A' := T51.setTop (mkF m 75 #[jv sd, .second, jv xx, .second, iv kk, jv bb, .second, rv oA, jv (own_go (-7046029254386353131 : Int64) bb kA sd).1, .second, rv oC, .unset, .unset, .unset, .unset, .unset, .unset, .unset] [(.int (1 : Int32)), (.long (f_next oC sd))])) (fun t k => XS.iconst X51.here hx rfl (hb hby at_74) k) ?_
    refine Wk.go (A' := T51.setTop (mkF m 76 #[jv sd, .second, jv xx, .second, iv kk, jv bb, .second, rv oA, jv (own_go (-7046029254386353131 : Int64) bb kA sd).1, .second, rv oC, .unset, .unset, .unset, .unset, .unset, .unset, .unset] [(.long (own_bits sd))])) (fun t k => XS.lushr X51.here hx rfl (hb hby at_75) rfl k) ?_
    refine Wk.go (A' := T51.setTop (mkF m 78 #[jv sd, .second, jv xx, .second, iv kk, jv bb, .second, rv oA, jv (own_go (-7046029254386353131 : Int64) bb kA sd).1, .second, rv oC, jv (own_bits sd), .second, .unset, .unset, .unset, .unset, .unset] [])) (fun t k => XS.lstore X51.here hx rfl (hb hby at_76) rfl (l' := #[jv sd, .second, jv xx, .second, iv kk, jv bb, .second, rv oA, jv (own_go (-7046029254386353131 : Int64) bb kA sd).1, .second, rv oC, jv (own_bits sd), .second, .unset, .unset, .unset, .unset, .unset]) rfl k) ?_
    refine Wk.go (A' := T51.setTop (mkF m 81 #[jv sd, .second, jv xx, .second, iv kk, jv bb, .second, rv oA, jv (own_go (-7046029254386353131 : Int64) bb kA sd).1, .second, rv oC, jv (own_bits sd), .second, .unset, .unset, .unset, .unset, .unset] [(.long (9223372036854775807 : Int64))])) (fun t k => X51.ldc2Long hx hown (mvT hZ (tw0 hw)) (g := (mkF m 78 #[jv sd, .second, jv xx, .second, iv kk, jv bb, .second, rv oA, jv (own_go (-7046029254386353131 : Int64) bb kA sd).1, .second, rv oC, jv (own_bits sd), .second, .unset, .unset, .unset, .unset, .unset] [])) rfl (hb hby at_78) t k) ?_
    refine Wk.go (A' := T51.setTop (mkF m 83 #[jv sd, .second, jv xx, .second, iv kk, jv bb, .second, rv oA, jv (own_go (-7046029254386353131 : Int64) bb kA sd).1, .second, rv oC, jv (own_bits sd), .second, .unset, .unset, .unset, .unset, .unset] [(.long bb), (.long (9223372036854775807 : Int64))])) (fun t k => XS.lload X51.here hx rfl (hb hby at_81) rfl k) ?_
    refine Wk.go (A' := T51.setTop (mkF m 84 #[jv sd, .second, jv xx, .second, iv kk, jv bb, .second, rv oA, jv (own_go (-7046029254386353131 : Int64) bb kA sd).1, .second, rv oC, jv (own_bits sd), .second, .unset, .unset, .unset, .unset, .unset] [(.long ((9223372036854775807 : Int64) - ((9223372036854775807 : Int64) / bb) * bb))])) (fun t k => XS.lrem X51.here hx rfl (hb hby at_83) rfl (own_bnz hbp) k) ?_
    refine Wk.go (A' := T51.setTop (mkF m 85 #[jv sd, .second, jv xx, .second, iv kk, jv bb, .second, rv oA, jv (own_go (-7046029254386353131 : Int64) bb kA sd).1, .second, rv oC, jv (own_bits sd), .second, .unset, .unset, .unset, .unset, .unset] [(.long (1 : Int64)), (.long ((9223372036854775807 : Int64) - ((9223372036854775807 : Int64) / bb) * bb))])) (fun t k => XS.lconst X51.here hx rfl (hb hby at_84) k) ?_
    refine Wk.go (A' := T51.setTop (mkF m 86 #[jv sd, .second, jv xx, .second, iv kk, jv bb, .second, rv oA, jv (own_go (-7046029254386353131 : Int64) bb kA sd).1, .second, rv oC, jv (own_bits sd), .second, .unset, .unset, .unset, .unset, .unset] [(.long (((9223372036854775807 : Int64) - ((9223372036854775807 : Int64) / bb) * bb) + (1 : Int64)))])) (fun t k => XS.ladd X51.here hx rfl (hb hby at_85) rfl k) ?_
    refine Wk.go (A' := T51.setTop (mkF m 88 #[jv sd, .second, jv xx, .second, iv kk, jv bb, .second, rv oA, jv (own_go (-7046029254386353131 : Int64) bb kA sd).1, .second, rv oC, jv (own_bits sd), .second, .unset, .unset, .unset, .unset, .unset] [(.long bb), (.long (((9223372036854775807 : Int64) - ((9223372036854775807 : Int64) / bb) * bb) + (1 : Int64)))])) (fun t k => XS.lload X51.here hx rfl (hb hby at_86) rfl k) ?_
    refine Wk.go (A' := T51.setTop (mkF m 89 #[jv sd, .second, jv xx, .second, iv kk, jv bb, .second, rv oA, jv (own_go (-7046029254386353131 : Int64) bb kA sd).1, .second, rv oC, jv (own_bits sd), .second, .unset, .unset, .unset, .unset, .unset] [(.long ((((9223372036854775807 : Int64) - ((9223372036854775807 : Int64) / bb) * bb) + (1 : Int64)) - ((((9223372036854775807 : Int64) - ((9223372036854775807 : Int64) / bb) * bb) + (1 : Int64)) / bb) * bb))])) (fun t k => XS.lrem X51.here hx rfl (hb hby at_88) rfl (own_bnz hbp) k) ?_
    refine Wk.go (A' := T51.setTop (mkF m 91 #[jv sd, .second, jv xx, .second, iv kk, jv bb, .second, rv oA, jv (own_go (-7046029254386353131 : Int64) bb kA sd).1, .second, rv oC, jv (own_bits sd), .second, jv ((((9223372036854775807 : Int64) - ((9223372036854775807 : Int64) / bb) * bb) + (1 : Int64)) - ((((9223372036854775807 : Int64) - ((9223372036854775807 : Int64) / bb) * bb) + (1 : Int64)) / bb) * bb), .second, .unset, .unset, .unset] [])) (fun t k => XS.lstore X51.here hx rfl (hb hby at_89) rfl (l' := #[jv sd, .second, jv xx, .second, iv kk, jv bb, .second, rv oA, jv (own_go (-7046029254386353131 : Int64) bb kA sd).1, .second, rv oC, jv (own_bits sd), .second, jv ((((9223372036854775807 : Int64) - ((9223372036854775807 : Int64) / bb) * bb) + (1 : Int64)) - ((((9223372036854775807 : Int64) - ((9223372036854775807 : Int64) / bb) * bb) + (1 : Int64)) / bb) * bb), .second, .unset, .unset, .unset]) rfl k) ?_
    generalize hrm : ((((9223372036854775807 : Int64) - ((9223372036854775807 : Int64) / bb) * bb) + (1 : Int64)) - ((((9223372036854775807 : Int64) - ((9223372036854775807 : Int64) / bb) * bb) + (1 : Int64)) / bb) * bb) = rm
    refine Wk.go (A' := T51.setTop (mkF m 93 #[jv sd, .second, jv xx, .second, iv kk, jv bb, .second, rv oA, jv (own_go (-7046029254386353131 : Int64) bb kA sd).1, .second, rv oC, jv (own_bits sd), .second, jv rm, .second, .unset, .unset, .unset] [(.long (own_bits sd))])) (fun t k => XS.lload X51.here hx rfl (hb hby at_91) rfl k) ?_
    refine Wk.go (A' := T51.setTop (mkF m 96 #[jv sd, .second, jv xx, .second, iv kk, jv bb, .second, rv oA, jv (own_go (-7046029254386353131 : Int64) bb kA sd).1, .second, rv oC, jv (own_bits sd), .second, jv rm, .second, .unset, .unset, .unset] [(.long (9223372036854775807 : Int64)), (.long (own_bits sd))])) (fun t k => X51.ldc2Long hx hown (mvT hZ (tw0 hw)) (g := (mkF m 93 #[jv sd, .second, jv xx, .second, iv kk, jv bb, .second, rv oA, jv (own_go (-7046029254386353131 : Int64) bb kA sd).1, .second, rv oC, jv (own_bits sd), .second, jv rm, .second, .unset, .unset, .unset] [(.long (own_bits sd))])) rfl (hb hby at_93) t k) ?_
    refine Wk.go (A' := T51.setTop (mkF m 98 #[jv sd, .second, jv xx, .second, iv kk, jv bb, .second, rv oA, jv (own_go (-7046029254386353131 : Int64) bb kA sd).1, .second, rv oC, jv (own_bits sd), .second, jv rm, .second, .unset, .unset, .unset] [(.long rm), (.long (9223372036854775807 : Int64)), (.long (own_bits sd))])) (fun t k => XS.lload X51.here hx rfl (hb hby at_96) rfl k) ?_
    refine Wk.go (A' := T51.setTop (mkF m 99 #[jv sd, .second, jv xx, .second, iv kk, jv bb, .second, rv oA, jv (own_go (-7046029254386353131 : Int64) bb kA sd).1, .second, rv oC, jv (own_bits sd), .second, jv rm, .second, .unset, .unset, .unset] [(.long ((9223372036854775807 : Int64) - rm)), (.long (own_bits sd))])) (fun t k => XS.lsub X51.here hx rfl (hb hby at_98) rfl k) ?_
    refine Wk.go (A' := T51.setTop (mkF m 100 #[jv sd, .second, jv xx, .second, iv kk, jv bb, .second, rv oA, jv (own_go (-7046029254386353131 : Int64) bb kA sd).1, .second, rv oC, jv (own_bits sd), .second, jv rm, .second, .unset, .unset, .unset] [(.int (lcmpW (own_bits sd) ((9223372036854775807 : Int64) - rm)))])) (fun t k => XS.lcmp X51.here hx rfl (hb hby at_99) rfl k) ?_
    by_cases hc100 : ((9223372036854775807 : Int64) - rm) < (own_bits sd)
    · refine Wk.go (A' := T51.setTop (mkF m 134 #[jv sd, .second, jv xx, .second, iv kk, jv bb, .second, rv oA, jv (own_go (-7046029254386353131 : Int64) bb kA sd).1, .second, rv oC, jv (own_bits sd), .second, jv rm, .second, .unset, .unset, .unset] [])) (fun t k => XS.ifYes X51.here hx rfl (pc0 := 100) (pc' := 134) rfl (hb hby at_100) rfl ((if0 _ _).trans (tlt ((lw_gt _ _).mpr hc100)).2.2.1) (by decide) (by decide) k) ?_
      obtain ⟨T55, h55, X55, e55, E55, A55, D55, -, st55⟩ := newO X51 hx hZ hown (tw1 hw) (tw2 hw) (tw3 hw) rfl (g := (mkF m 134 #[jv sd, .second, jv xx, .second, iv kk, jv bb, .second, rv oA, jv (own_go (-7046029254386353131 : Int64) bb kA sd).1, .second, rv oC, jv (own_bits sd), .second, jv rm, .second, .unset, .unset, .unset] [])) rfl (hb hby at_134) (by decide) (by decide)
      obtain ⟨oD, g55⟩ : ∃ z, z = T51.heap.size := ⟨_, rfl⟩
      rw [← g55] at A55 D55 st55
      have g_oD : n0 ≤ oD := Nat.le_trans Zp51 (Nat.le_of_eq g55.symm)
      have ne_oA_oD : oA ≠ oD := Nat.ne_of_lt (Nat.lt_of_lt_of_le f52.lt (Nat.le_of_eq g55.symm))
      have ne_oC_oD : oC ≠ oD := Nat.ne_of_lt (Nat.lt_of_lt_of_le Eq51.lt (Nat.le_of_eq g55.symm))
      have f56 := f52.ext E55
      have f57 := f53.ext E55
      have f58 := Eq51.ext E55
      have f59 := Fq51_state.ext E55
      have F_state_oD : Fld Z h55 oD "com/example/skerry/skerry/engine/Rng" "state" "J" (.long (0 : Int64)) := D55 (Or.inl (tw11 hw)) (ty := .long) (by decide)
      have Zp55 : n0 ≤ h55.size := Nat.le_trans Zp51 E55.1
      refine Wk.go (A' := T55.setTop (mkF m 137 #[jv sd, .second, jv xx, .second, iv kk, jv bb, .second, rv oA, jv (own_go (-7046029254386353131 : Int64) bb kA sd).1, .second, rv oC, jv (own_bits sd), .second, jv rm, .second, .unset, .unset, .unset] [(.ref oD)])) (fun t k => st55 t k) ?_
      refine Wk.go (A' := T55.setTop (mkF m 138 #[jv sd, .second, jv xx, .second, iv kk, jv bb, .second, rv oA, jv (own_go (-7046029254386353131 : Int64) bb kA sd).1, .second, rv oC, jv (own_bits sd), .second, jv rm, .second, .unset, .unset, .unset] [(.ref oD), (.ref oD)])) (fun t k => XS.dup X55.here hx rfl (hb hby at_137) rfl rfl k) ?_
      refine Wk.go (A' := T55.setTop (mkF m 140 #[jv sd, .second, jv xx, .second, iv kk, jv bb, .second, rv oA, jv (own_go (-7046029254386353131 : Int64) bb kA sd).1, .second, rv oC, jv (own_bits sd), .second, jv rm, .second, .unset, .unset, .unset] [(.ref oC), (.ref oD), (.ref oD)])) (fun t k => XS.aload X55.here hx rfl (hb hby at_138) rfl rfl k) ?_
      obtain ⟨cq60, kq60, q60a, q60b, q60c⟩ := isOf hZ e55 f58
      obtain ⟨_, _, ⟨T60, L60, k60, n60⟩, -, X60, ⟨Lc60, hQ60, l60, y60, z60⟩, st60⟩ := X55.virtualBack hx (y := (⟨"com/example/skerry/skerry/engine/Rng", "state", "()J"⟩ : MethodName)) (z := (⟨"com/example/skerry/skerry/engine/Rng", "state", "()J"⟩ : MethodName)) hown (mvT hZ (tw26 hw)) (mvT hZ (tw27 hw)) (notFace_of_selects (args := #[]) (mvT hZ (tw29 hw))) (mvT hZ (tw29 hw)) (mvT hZ (tw28 hw)) (by decide) (backOf (W := 2) (rm5 l Z a0 hw [] oC (sd + (-7046029254386353131 : Int64)) h55 n0 Zp55 f58 f59 ) hZ (tw30 hw) (tw3 hw) (by decide) (by decide)) q60a q60c (g := (mkF m 140 #[jv sd, .second, jv xx, .second, iv kk, jv bb, .second, rv oA, jv (own_go (-7046029254386353131 : Int64) bb kA sd).1, .second, rv oC, jv (own_bits sd), .second, jv rm, .second, .unset, .unset, .unset] [(.ref oC), (.ref oD), (.ref oD)])) rfl (by rw [hml]; rfl) (Steps.refl _) (argsL := []) (rest := [(.ref oD), (.ref oD)]) (lenOf pd_0 rfl) rfl (by show 2 * 0 + _ ≤ _; exact Nat.le_of_eq rfl) (hb hby at_140) (fun _ _ => ⟨rfl, e55, (by decide : 3 + 0 ≤ _), (by decide : 3 + 0 ≤ _)⟩)
      dsimp only [Pt.U, Pt.locs, Pt.cells, Pt.slots] at X60 l60 y60 z60 st60 hQ60
      subst l60 y60 z60
      obtain ⟨rfl, N60q, hE60⟩ := hQ60
      have N60 := Fr.app N51 N60q
      refine Wk.go (A' := T60.setTop (mkF m 143 #[jv sd, .second, jv xx, .second, iv kk, jv bb, .second, rv oA, jv (own_go (-7046029254386353131 : Int64) bb kA sd).1, .second, rv oC, jv (own_bits sd), .second, jv rm, .second, .unset, .unset, .unset] [(.long (f_state oC (sd + (-7046029254386353131 : Int64)))), (.ref oD), (.ref oD)])) (fun t k => st60.trans k) ?_
      obtain ⟨_, _, ⟨T61, L61, k61, n61⟩, -, X61, ⟨Lc61, hQ61, l61, y61, z61⟩, st61⟩ := X60.specialBack hx (y := (⟨"com/example/skerry/skerry/engine/Rng", "<init>", "(J)V"⟩ : MethodName)) rfl hown (mvT hZ (tw4 hw)) (mvT hZ (tw5 hw)) (mvT hZ (tw6 hw)) (by decide) (backOf (W := 1) (rm1 l Z a0 hw [] oD (f_state oC (sd + (-7046029254386353131 : Int64)))  h55 n0 Zp55 A55 F_state_oD g_oD ) hZ (tw6 hw) (tw3 hw) (by decide) (by decide)) (g := (mkF m 143 #[jv sd, .second, jv xx, .second, iv kk, jv bb, .second, rv oA, jv (own_go (-7046029254386353131 : Int64) bb kA sd).1, .second, rv oC, jv (own_bits sd), .second, jv rm, .second, .unset, .unset, .unset] [(.long (f_state oC (sd + (-7046029254386353131 : Int64)))), (.ref oD), (.ref oD)])) rfl (by rw [hml]; rfl) (Steps.refl _) (a := oD) (argsL := [(.long (f_state oC (sd + (-7046029254386353131 : Int64))))]) (rest := [(.ref oD)]) (lenOf pd_1 rfl) rfl (by show 2 * 0 + _ ≤ _; exact Nat.le_of_eq rfl) (hb hby at_143) (fun _ _ => ⟨rfl, (hE60), (by decide : 3 + 0 ≤ _), (by decide : 3 + 0 ≤ _)⟩)
      dsimp only [Pt.U, Pt.locs, Pt.cells, Pt.slots] at X61 l61 y61 z61 st61 hQ61
      subst l61 y61 z61
      obtain ⟨rfl, N61q, Kq61, Eq61, Fq61_state⟩ := hQ61
      have N61 := Fr.app N60 N61q
      have f62 := f56.keep Kq61
      have f63 := f57.keep Kq61 (ninS ne_oA_oD nin0)
      have f64 := f58.keep Kq61
      have f65 := f59.keep Kq61 (ninS ne_oC_oD nin0)
      have f66 := A55.keep Kq61
      have Zp61 : n0 ≤ T61.heap.size := Nat.le_trans Zp55 Kq61.1
      refine Wk.go (A' := T61.setTop (mkF m 146 #[jv sd, .second, jv xx, .second, iv kk, jv bb, .second, rv oA, jv (own_go (-7046029254386353131 : Int64) bb kA sd).1, .second, rv oC, jv (own_bits sd), .second, jv rm, .second, .unset, .unset, .unset] [(.ref oD)])) (fun t k => st61.trans k) ?_
      refine Wk.go (A' := T61.setTop (mkF m 148 #[jv sd, .second, jv xx, .second, iv kk, jv bb, .second, rv oA, jv (own_go (-7046029254386353131 : Int64) bb kA sd).1, .second, rv oC, jv (own_bits sd), .second, jv rm, .second, rv oD, .unset, .unset] [])) (fun t k => XS.astore X61.here hx rfl (hb hby at_146) rfl rfl (l' := #[jv sd, .second, jv xx, .second, iv kk, jv bb, .second, rv oA, jv (own_go (-7046029254386353131 : Int64) bb kA sd).1, .second, rv oC, jv (own_bits sd), .second, jv rm, .second, rv oD, .unset, .unset]) rfl k) ?_
      refine Wk.go (A' := T61.setTop (mkF m 150 #[jv sd, .second, jv xx, .second, iv kk, jv bb, .second, rv oA, jv (own_go (-7046029254386353131 : Int64) bb kA sd).1, .second, rv oC, jv (own_bits sd), .second, jv rm, .second, rv oD, .unset, .unset] [(.ref oD)])) (fun t k => XS.aload X61.here hx rfl (hb hby at_148) rfl rfl k) ?_
      refine Wk.go (A' := T61.setTop (mkF m 152 #[jv sd, .second, jv xx, .second, iv kk, jv bb, .second, rv oA, jv (own_go (-7046029254386353131 : Int64) bb kA sd).1, .second, rv oC, jv (own_bits sd), .second, jv rm, .second, rv oD, .unset, .unset] [(.long bb), (.ref oD)])) (fun t k => XS.lload X61.here hx rfl (hb hby at_150) rfl k) ?_
      obtain ⟨cq67, kq67, q67a, q67b, q67c⟩ := isOf hZ rfl Eq61
      obtain ⟨_, _, ⟨T67, L67, k67, n67⟩, -, X67, ⟨Lc67, hQ67, l67, y67, z67⟩, st67⟩ := X61.virtualBack hx (y := (⟨"com/example/skerry/skerry/engine/Rng", "nextLong", "(J)J"⟩ : MethodName)) (z := (⟨"com/example/skerry/skerry/engine/Rng", "nextLong", "(J)J"⟩ : MethodName)) hown (mvT hZ (tw12 hw)) (mvT hZ (tw13 hw)) (notFace_of_selects (args := #[]) (mvT hZ (tw15 hw))) (mvT hZ (tw15 hw)) (mvT hZ (tw14 hw)) (by decide) (backOf (W := 0) (rm3 l Z a0 hw [] oD bb (f_state oC (sd + (-7046029254386353131 : Int64))) T61.heap n0 Zp61 Eq61 Fq61_state g_oD hbp) hZ (tw16 hw) (tw3 hw) (by decide) (by decide)) q67a q67c (g := (mkF m 152 #[jv sd, .second, jv xx, .second, iv kk, jv bb, .second, rv oA, jv (own_go (-7046029254386353131 : Int64) bb kA sd).1, .second, rv oC, jv (own_bits sd), .second, jv rm, .second, rv oD, .unset, .unset] [(.long bb), (.ref oD)])) rfl (by rw [hml]; rfl) (Steps.refl _) (argsL := [(.long bb)]) (rest := []) (lenOf pd_2 rfl) rfl (by show 2 * 0 + _ ≤ _; exact Nat.le_of_eq rfl) (hb hby at_152) (fun _ _ => ⟨rfl, rfl, (by decide : 3 + 0 ≤ _), (by decide : 3 + 0 ≤ _)⟩)
      dsimp only [Pt.U, Pt.locs, Pt.cells, Pt.slots] at X67 l67 y67 z67 st67 hQ67
      subst l67 y67 z67
      obtain ⟨kD, hkD, rfl, N67q, Kq67, Eq67, Fq67⟩ := hQ67
      have N67 := Fr.app N61 N67q
      have f68 := f62.keep Kq67
      have f69 := f63.keep Kq67 (ninS ne_oA_oD nin0)
      have f70 := f64.keep Kq67
      have f71 := f65.keep Kq67 (ninS ne_oC_oD nin0)
      have f72 := Eq61.keep Kq67
      have Zp67 : n0 ≤ T67.heap.size := Nat.le_trans Zp61 Kq67.1
      refine Wk.go (A' := T67.setTop (mkF m 155 #[jv sd, .second, jv xx, .second, iv kk, jv bb, .second, rv oA, jv (own_go (-7046029254386353131 : Int64) bb kA sd).1, .second, rv oC, jv (own_bits sd), .second, jv rm, .second, rv oD, .unset, .unset] [(.long (own_go (-7046029254386353131 : Int64) bb kD (f_state oC (sd + (-7046029254386353131 : Int64)))).1)])) (fun t k => st67.trans k) ?_
      refine Wk.go (A' := T67.setTop (mkF m 157 #[jv sd, .second, jv xx, .second, iv kk, jv bb, .second, rv oA, jv (own_go (-7046029254386353131 : Int64) bb kA sd).1, .second, rv oC, jv (own_bits sd), .second, jv rm, .second, rv oD, jv (own_go (-7046029254386353131 : Int64) bb kD (f_state oC (sd + (-7046029254386353131 : Int64)))).1, .second] [])) (fun t k => XS.lstore X67.here hx rfl (hb hby at_155) rfl (l' := #[jv sd, .second, jv xx, .second, iv kk, jv bb, .second, rv oA, jv (own_go (-7046029254386353131 : Int64) bb kA sd).1, .second, rv oC, jv (own_bits sd), .second, jv rm, .second, rv oD, jv (own_go (-7046029254386353131 : Int64) bb kD (f_state oC (sd + (-7046029254386353131 : Int64)))).1, .second]) rfl k) ?_
      refine Wk.go (A' := T67.setTop (mkF m 159 #[jv sd, .second, jv xx, .second, iv kk, jv bb, .second, rv oA, jv (own_go (-7046029254386353131 : Int64) bb kA sd).1, .second, rv oC, jv (own_bits sd), .second, jv rm, .second, rv oD, jv (own_go (-7046029254386353131 : Int64) bb kD (f_state oC (sd + (-7046029254386353131 : Int64)))).1, .second] [(.long (own_go (-7046029254386353131 : Int64) bb kA sd).1)])) (fun t k => XS.lload X67.here hx rfl (hb hby at_157) rfl k) ?_
      refine Wk.go (A' := T67.setTop (mkF m 161 #[jv sd, .second, jv xx, .second, iv kk, jv bb, .second, rv oA, jv (own_go (-7046029254386353131 : Int64) bb kA sd).1, .second, rv oC, jv (own_bits sd), .second, jv rm, .second, rv oD, jv (own_go (-7046029254386353131 : Int64) bb kD (f_state oC (sd + (-7046029254386353131 : Int64)))).1, .second] [(.long (own_go (-7046029254386353131 : Int64) bb kD (f_state oC (sd + (-7046029254386353131 : Int64)))).1), (.long (own_go (-7046029254386353131 : Int64) bb kA sd).1)])) (fun t k => XS.lload X67.here hx rfl (hb hby at_159) rfl k) ?_
      refine Wk.go (A' := T67.setTop (mkF m 162 #[jv sd, .second, jv xx, .second, iv kk, jv bb, .second, rv oA, jv (own_go (-7046029254386353131 : Int64) bb kA sd).1, .second, rv oC, jv (own_bits sd), .second, jv rm, .second, rv oD, jv (own_go (-7046029254386353131 : Int64) bb kD (f_state oC (sd + (-7046029254386353131 : Int64)))).1, .second] [(.int (lcmpW (own_go (-7046029254386353131 : Int64) bb kA sd).1 (own_go (-7046029254386353131 : Int64) bb kD (f_state oC (sd + (-7046029254386353131 : Int64)))).1))])) (fun t k => XS.lcmp X67.here hx rfl (hb hby at_161) rfl k) ?_
      have hc162 : (own_go (-7046029254386353131 : Int64) bb kA sd).1 = (own_go (-7046029254386353131 : Int64) bb kD (f_state oC (sd + (-7046029254386353131 : Int64)))).1 := by rw [own_go_rej _ _ sd kA kD ((own_accept _ sd rm hbp _ (by decide) hrm).mp hc100) hkA hkD]; rfl
      refine Wk.go (A' := T67.setTop (mkF m 165 #[jv sd, .second, jv xx, .second, iv kk, jv bb, .second, rv oA, jv (own_go (-7046029254386353131 : Int64) bb kA sd).1, .second, rv oC, jv (own_bits sd), .second, jv rm, .second, rv oD, jv (own_go (-7046029254386353131 : Int64) bb kD (f_state oC (sd + (-7046029254386353131 : Int64)))).1, .second] [])) (fun t k => XS.ifNo X67.here hx rfl (hb hby at_162) rfl ((if0 _ _).trans (teq ((lw_eq _ _).mpr hc162)).2) k) ?_
      refine Wk.go (A' := T67.setTop (mkF m 167 #[jv sd, .second, jv xx, .second, iv kk, jv bb, .second, rv oA, jv (own_go (-7046029254386353131 : Int64) bb kA sd).1, .second, rv oC, jv (own_bits sd), .second, jv rm, .second, rv oD, jv (own_go (-7046029254386353131 : Int64) bb kD (f_state oC (sd + (-7046029254386353131 : Int64)))).1, .second] [(.ref oA)])) (fun t k => XS.aload X67.here hx rfl (hb hby at_165) rfl rfl k) ?_
      obtain ⟨cq73, kq73, q73a, q73b, q73c⟩ := isOf hZ rfl f68
      obtain ⟨_, _, ⟨T73, L73, k73, n73⟩, -, X73, ⟨Lc73, hQ73, l73, y73, z73⟩, st73⟩ := X67.virtualBack hx (y := (⟨"com/example/skerry/skerry/engine/Rng", "state", "()J"⟩ : MethodName)) (z := (⟨"com/example/skerry/skerry/engine/Rng", "state", "()J"⟩ : MethodName)) hown (mvT hZ (tw26 hw)) (mvT hZ (tw27 hw)) (notFace_of_selects (args := #[]) (mvT hZ (tw29 hw))) (mvT hZ (tw29 hw)) (mvT hZ (tw28 hw)) (by decide) (backOf (W := 0) (rm5 l Z a0 hw [] oA (own_go (-7046029254386353131 : Int64) bb kA sd).2 T67.heap n0 Zp67 f68 f69 ) hZ (tw30 hw) (tw3 hw) (by decide) (by decide)) q73a q73c (g := (mkF m 167 #[jv sd, .second, jv xx, .second, iv kk, jv bb, .second, rv oA, jv (own_go (-7046029254386353131 : Int64) bb kA sd).1, .second, rv oC, jv (own_bits sd), .second, jv rm, .second, rv oD, jv (own_go (-7046029254386353131 : Int64) bb kD (f_state oC (sd + (-7046029254386353131 : Int64)))).1, .second] [(.ref oA)])) rfl (by rw [hml]; rfl) (Steps.refl _) (argsL := []) (rest := []) (lenOf pd_0 rfl) rfl (by show 2 * 0 + _ ≤ _; exact Nat.le_of_eq rfl) (hb hby at_167) (fun _ _ => ⟨rfl, rfl, (by decide : 3 + 0 ≤ _), (by decide : 3 + 0 ≤ _)⟩)
      dsimp only [Pt.U, Pt.locs, Pt.cells, Pt.slots] at X73 l73 y73 z73 st73 hQ73
      subst l73 y73 z73
      obtain ⟨rfl, N73q, hE73⟩ := hQ73
      have N73 := Fr.app N67 N73q
      refine Wk.go (A' := T73.setTop (mkF m 170 #[jv sd, .second, jv xx, .second, iv kk, jv bb, .second, rv oA, jv (own_go (-7046029254386353131 : Int64) bb kA sd).1, .second, rv oC, jv (own_bits sd), .second, jv rm, .second, rv oD, jv (own_go (-7046029254386353131 : Int64) bb kD (f_state oC (sd + (-7046029254386353131 : Int64)))).1, .second] [(.long (f_state oA (own_go (-7046029254386353131 : Int64) bb kA sd).2))])) (fun t k => st73.trans k) ?_
      refine Wk.go (A' := T73.setTop (mkF m 172 #[jv sd, .second, jv xx, .second, iv kk, jv bb, .second, rv oA, jv (own_go (-7046029254386353131 : Int64) bb kA sd).1, .second, rv oC, jv (own_bits sd), .second, jv rm, .second, rv oD, jv (own_go (-7046029254386353131 : Int64) bb kD (f_state oC (sd + (-7046029254386353131 : Int64)))).1, .second] [(.ref oD), (.long (f_state oA (own_go (-7046029254386353131 : Int64) bb kA sd).2))])) (fun t k => XS.aload X73.here hx rfl (hb hby at_170) rfl rfl k) ?_
      obtain ⟨cq74, kq74, q74a, q74b, q74c⟩ := isOf hZ (hE73) Eq67
      obtain ⟨_, _, ⟨T74, L74, k74, n74⟩, -, X74, ⟨Lc74, hQ74, l74, y74, z74⟩, st74⟩ := X73.virtualBack hx (y := (⟨"com/example/skerry/skerry/engine/Rng", "state", "()J"⟩ : MethodName)) (z := (⟨"com/example/skerry/skerry/engine/Rng", "state", "()J"⟩ : MethodName)) hown (mvT hZ (tw26 hw)) (mvT hZ (tw27 hw)) (notFace_of_selects (args := #[]) (mvT hZ (tw29 hw))) (mvT hZ (tw29 hw)) (mvT hZ (tw28 hw)) (by decide) (backOf (W := 2) (rm5 l Z a0 hw [] oD (own_go (-7046029254386353131 : Int64) bb kD (f_state oC (sd + (-7046029254386353131 : Int64)))).2 T67.heap n0 Zp67 Eq67 Fq67 ) hZ (tw30 hw) (tw3 hw) (by decide) (by decide)) q74a q74c (g := (mkF m 172 #[jv sd, .second, jv xx, .second, iv kk, jv bb, .second, rv oA, jv (own_go (-7046029254386353131 : Int64) bb kA sd).1, .second, rv oC, jv (own_bits sd), .second, jv rm, .second, rv oD, jv (own_go (-7046029254386353131 : Int64) bb kD (f_state oC (sd + (-7046029254386353131 : Int64)))).1, .second] [(.ref oD), (.long (f_state oA (own_go (-7046029254386353131 : Int64) bb kA sd).2))])) rfl (by rw [hml]; rfl) (Steps.refl _) (argsL := []) (rest := [(.long (f_state oA (own_go (-7046029254386353131 : Int64) bb kA sd).2))]) (lenOf pd_0 rfl) rfl (by show 2 * 0 + _ ≤ _; exact Nat.le_of_eq rfl) (hb hby at_172) (fun _ _ => ⟨rfl, (hE73), (by decide : 3 + 0 ≤ _), (by decide : 3 + 0 ≤ _)⟩)
      dsimp only [Pt.U, Pt.locs, Pt.cells, Pt.slots] at X74 l74 y74 z74 st74 hQ74
      subst l74 y74 z74
      obtain ⟨rfl, N74q, hE74⟩ := hQ74
      have N74 := Fr.app N73 N74q
      refine Wk.go (A' := T74.setTop (mkF m 175 #[jv sd, .second, jv xx, .second, iv kk, jv bb, .second, rv oA, jv (own_go (-7046029254386353131 : Int64) bb kA sd).1, .second, rv oC, jv (own_bits sd), .second, jv rm, .second, rv oD, jv (own_go (-7046029254386353131 : Int64) bb kD (f_state oC (sd + (-7046029254386353131 : Int64)))).1, .second] [(.long (f_state oD (own_go (-7046029254386353131 : Int64) bb kD (f_state oC (sd + (-7046029254386353131 : Int64)))).2)), (.long (f_state oA (own_go (-7046029254386353131 : Int64) bb kA sd).2))])) (fun t k => st74.trans k) ?_
      refine Wk.go (A' := T74.setTop (mkF m 176 #[jv sd, .second, jv xx, .second, iv kk, jv bb, .second, rv oA, jv (own_go (-7046029254386353131 : Int64) bb kA sd).1, .second, rv oC, jv (own_bits sd), .second, jv rm, .second, rv oD, jv (own_go (-7046029254386353131 : Int64) bb kD (f_state oC (sd + (-7046029254386353131 : Int64)))).1, .second] [(.int (lcmpW (f_state oA (own_go (-7046029254386353131 : Int64) bb kA sd).2) (f_state oD (own_go (-7046029254386353131 : Int64) bb kD (f_state oC (sd + (-7046029254386353131 : Int64)))).2)))])) (fun t k => XS.lcmp X74.here hx rfl (hb hby at_175) rfl k) ?_
      have hc176 : (f_state oA (own_go (-7046029254386353131 : Int64) bb kA sd).2) = (f_state oD (own_go (-7046029254386353131 : Int64) bb kD (f_state oC (sd + (-7046029254386353131 : Int64)))).2) := by rw [own_go_rej _ _ sd kA kD ((own_accept _ sd rm hbp _ (by decide) hrm).mp hc100) hkA hkD]; rfl
      refine Wk.go (A' := T74.setTop (mkF m 179 #[jv sd, .second, jv xx, .second, iv kk, jv bb, .second, rv oA, jv (own_go (-7046029254386353131 : Int64) bb kA sd).1, .second, rv oC, jv (own_bits sd), .second, jv rm, .second, rv oD, jv (own_go (-7046029254386353131 : Int64) bb kD (f_state oC (sd + (-7046029254386353131 : Int64)))).1, .second] [])) (fun t k => XS.ifNo X74.here hx rfl (hb hby at_176) rfl ((if0 _ _).trans (teq ((lw_eq _ _).mpr hc176)).2) k) ?_
      refine Wk.go (A' := T74.setTop (mkF m 180 #[jv sd, .second, jv xx, .second, iv kk, jv bb, .second, rv oA, jv (own_go (-7046029254386353131 : Int64) bb kA sd).1, .second, rv oC, jv (own_bits sd), .second, jv rm, .second, rv oD, jv (own_go (-7046029254386353131 : Int64) bb kD (f_state oC (sd + (-7046029254386353131 : Int64)))).1, .second] [(.int (1 : Int32))])) (fun t k => XS.iconst X74.here hx rfl (hb hby at_179) k) ?_
      refine Wk.go (A' := T74.setTop (mkF m 184 #[jv sd, .second, jv xx, .second, iv kk, jv bb, .second, rv oA, jv (own_go (-7046029254386353131 : Int64) bb kA sd).1, .second, rv oC, jv (own_bits sd), .second, jv rm, .second, rv oD, jv (own_go (-7046029254386353131 : Int64) bb kD (f_state oC (sd + (-7046029254386353131 : Int64)))).1, .second] [(.int (1 : Int32))])) (fun t k => XS.goto X74.here hx rfl (pc0 := 180) (pc' := 184) rfl (hb hby at_180) (by decide) (by decide) k) ?_
      refine own_fin (Qv := Q0 Z sd xx kk h0 n0) (v := some (.int (1 : Int32))) X74 hlk (fun h => by rw [Bd.returns] at h; cases h) (fun fs hr => retN X74 hx (t := .boolean) Bd.returns (by simp) (hb hby at_184) hr) ?_ (by decide) (by decide)
      exact ⟨rfl, N74⟩
    · refine Wk.go (A' := T51.setTop (mkF m 103 #[jv sd, .second, jv xx, .second, iv kk, jv bb, .second, rv oA, jv (own_go (-7046029254386353131 : Int64) bb kA sd).1, .second, rv oC, jv (own_bits sd), .second, jv rm, .second, .unset, .unset, .unset] [])) (fun t k => XS.ifNo X51.here hx rfl (hb hby at_100) rfl ((if0 _ _).trans (flt (mt (lw_gt _ _).mp hc100)).2.2.1) k) ?_
      refine Wk.go (A' := T51.setTop (mkF m 105 #[jv sd, .second, jv xx, .second, iv kk, jv bb, .second, rv oA, jv (own_go (-7046029254386353131 : Int64) bb kA sd).1, .second, rv oC, jv (own_bits sd), .second, jv rm, .second, .unset, .unset, .unset] [(.long (own_go (-7046029254386353131 : Int64) bb kA sd).1)])) (fun t k => XS.lload X51.here hx rfl (hb hby at_103) rfl k) ?_
      refine Wk.go (A' := T51.setTop (mkF m 107 #[jv sd, .second, jv xx, .second, iv kk, jv bb, .second, rv oA, jv (own_go (-7046029254386353131 : Int64) bb kA sd).1, .second, rv oC, jv (own_bits sd), .second, jv rm, .second, .unset, .unset, .unset] [(.long (own_bits sd)), (.long (own_go (-7046029254386353131 : Int64) bb kA sd).1)])) (fun t k => XS.lload X51.here hx rfl (hb hby at_105) rfl k) ?_
      refine Wk.go (A' := T51.setTop (mkF m 109 #[jv sd, .second, jv xx, .second, iv kk, jv bb, .second, rv oA, jv (own_go (-7046029254386353131 : Int64) bb kA sd).1, .second, rv oC, jv (own_bits sd), .second, jv rm, .second, .unset, .unset, .unset] [(.long bb), (.long (own_bits sd)), (.long (own_go (-7046029254386353131 : Int64) bb kA sd).1)])) (fun t k => XS.lload X51.here hx rfl (hb hby at_107) rfl k) ?_
      refine Wk.go (A' := T51.setTop (mkF m 110 #[jv sd, .second, jv xx, .second, iv kk, jv bb, .second, rv oA, jv (own_go (-7046029254386353131 : Int64) bb kA sd).1, .second, rv oC, jv (own_bits sd), .second, jv rm, .second, .unset, .unset, .unset] [(.long ((own_bits sd) - ((own_bits sd) / bb) * bb)), (.long (own_go (-7046029254386353131 : Int64) bb kA sd).1)])) (fun t k => XS.lrem X51.here hx rfl (hb hby at_109) rfl (own_bnz hbp) k) ?_
      refine Wk.go (A' := T51.setTop (mkF m 111 #[jv sd, .second, jv xx, .second, iv kk, jv bb, .second, rv oA, jv (own_go (-7046029254386353131 : Int64) bb kA sd).1, .second, rv oC, jv (own_bits sd), .second, jv rm, .second, .unset, .unset, .unset] [(.int (lcmpW (own_go (-7046029254386353131 : Int64) bb kA sd).1 ((own_bits sd) - ((own_bits sd) / bb) * bb)))])) (fun t k => XS.lcmp X51.here hx rfl (hb hby at_110) rfl k) ?_
      have hc111 : (own_go (-7046029254386353131 : Int64) bb kA sd).1 = ((own_bits sd) - ((own_bits sd) / bb) * bb) := by rw [own_go_acc _ _ sd kA (fun q => hc100 ((own_accept _ sd rm hbp _ (by decide) hrm).mpr q))]; rfl
      refine Wk.go (A' := T51.setTop (mkF m 114 #[jv sd, .second, jv xx, .second, iv kk, jv bb, .second, rv oA, jv (own_go (-7046029254386353131 : Int64) bb kA sd).1, .second, rv oC, jv (own_bits sd), .second, jv rm, .second, .unset, .unset, .unset] [])) (fun t k => XS.ifNo X51.here hx rfl (hb hby at_111) rfl ((if0 _ _).trans (teq ((lw_eq _ _).mpr hc111)).2) k) ?_
      refine Wk.go (A' := T51.setTop (mkF m 116 #[jv sd, .second, jv xx, .second, iv kk, jv bb, .second, rv oA, jv (own_go (-7046029254386353131 : Int64) bb kA sd).1, .second, rv oC, jv (own_bits sd), .second, jv rm, .second, .unset, .unset, .unset] [(.ref oA)])) (fun t k => XS.aload X51.here hx rfl (hb hby at_114) rfl rfl k) ?_
      obtain ⟨cq75, kq75, q75a, q75b, q75c⟩ := isOf hZ rfl f52
      obtain ⟨_, _, ⟨T75, L75, k75, n75⟩, -, X75, ⟨Lc75, hQ75, l75, y75, z75⟩, st75⟩ := X51.virtualBack hx (y := (⟨"com/example/skerry/skerry/engine/Rng", "state", "()J"⟩ : MethodName)) (z := (⟨"com/example/skerry/skerry/engine/Rng", "state", "()J"⟩ : MethodName)) hown (mvT hZ (tw26 hw)) (mvT hZ (tw27 hw)) (notFace_of_selects (args := #[]) (mvT hZ (tw29 hw))) (mvT hZ (tw29 hw)) (mvT hZ (tw28 hw)) (by decide) (backOf (W := 0) (rm5 l Z a0 hw [] oA (own_go (-7046029254386353131 : Int64) bb kA sd).2 T51.heap n0 Zp51 f52 f53 ) hZ (tw30 hw) (tw3 hw) (by decide) (by decide)) q75a q75c (g := (mkF m 116 #[jv sd, .second, jv xx, .second, iv kk, jv bb, .second, rv oA, jv (own_go (-7046029254386353131 : Int64) bb kA sd).1, .second, rv oC, jv (own_bits sd), .second, jv rm, .second, .unset, .unset, .unset] [(.ref oA)])) rfl (by rw [hml]; rfl) (Steps.refl _) (argsL := []) (rest := []) (lenOf pd_0 rfl) rfl (by show 2 * 0 + _ ≤ _; exact Nat.le_of_eq rfl) (hb hby at_116) (fun _ _ => ⟨rfl, rfl, (by decide : 2 + 0 ≤ _), (by decide : 2 + 0 ≤ _)⟩)
      dsimp only [Pt.U, Pt.locs, Pt.cells, Pt.slots] at X75 l75 y75 z75 st75 hQ75
      subst l75 y75 z75
      obtain ⟨rfl, N75q, hE75⟩ := hQ75
      have N75 := Fr.app N51 N75q
      refine Wk.go (A' := T75.setTop (mkF m 119 #[jv sd, .second, jv xx, .second, iv kk, jv bb, .second, rv oA, jv (own_go (-7046029254386353131 : Int64) bb kA sd).1, .second, rv oC, jv (own_bits sd), .second, jv rm, .second, .unset, .unset, .unset] [(.long (f_state oA (own_go (-7046029254386353131 : Int64) bb kA sd).2))])) (fun t k => st75.trans k) ?_
      refine Wk.go (A' := T75.setTop (mkF m 121 #[jv sd, .second, jv xx, .second, iv kk, jv bb, .second, rv oA, jv (own_go (-7046029254386353131 : Int64) bb kA sd).1, .second, rv oC, jv (own_bits sd), .second, jv rm, .second, .unset, .unset, .unset] [(.ref oC), (.long (f_state oA (own_go (-7046029254386353131 : Int64) bb kA sd).2))])) (fun t k => XS.aload X75.here hx rfl (hb hby at_119) rfl rfl k) ?_
      obtain ⟨cq76, kq76, q76a, q76b, q76c⟩ := isOf hZ (hE75) Eq51
      obtain ⟨_, _, ⟨T76, L76, k76, n76⟩, -, X76, ⟨Lc76, hQ76, l76, y76, z76⟩, st76⟩ := X75.virtualBack hx (y := (⟨"com/example/skerry/skerry/engine/Rng", "state", "()J"⟩ : MethodName)) (z := (⟨"com/example/skerry/skerry/engine/Rng", "state", "()J"⟩ : MethodName)) hown (mvT hZ (tw26 hw)) (mvT hZ (tw27 hw)) (notFace_of_selects (args := #[]) (mvT hZ (tw29 hw))) (mvT hZ (tw29 hw)) (mvT hZ (tw28 hw)) (by decide) (backOf (W := 2) (rm5 l Z a0 hw [] oC (sd + (-7046029254386353131 : Int64)) T51.heap n0 Zp51 Eq51 Fq51_state ) hZ (tw30 hw) (tw3 hw) (by decide) (by decide)) q76a q76c (g := (mkF m 121 #[jv sd, .second, jv xx, .second, iv kk, jv bb, .second, rv oA, jv (own_go (-7046029254386353131 : Int64) bb kA sd).1, .second, rv oC, jv (own_bits sd), .second, jv rm, .second, .unset, .unset, .unset] [(.ref oC), (.long (f_state oA (own_go (-7046029254386353131 : Int64) bb kA sd).2))])) rfl (by rw [hml]; rfl) (Steps.refl _) (argsL := []) (rest := [(.long (f_state oA (own_go (-7046029254386353131 : Int64) bb kA sd).2))]) (lenOf pd_0 rfl) rfl (by show 2 * 0 + _ ≤ _; exact Nat.le_of_eq rfl) (hb hby at_121) (fun _ _ => ⟨rfl, (hE75), (by decide : 2 + 0 ≤ _), (by decide : 2 + 0 ≤ _)⟩)
      dsimp only [Pt.U, Pt.locs, Pt.cells, Pt.slots] at X76 l76 y76 z76 st76 hQ76
      subst l76 y76 z76
      obtain ⟨rfl, N76q, hE76⟩ := hQ76
      have N76 := Fr.app N75 N76q
      refine Wk.go (A' := T76.setTop (mkF m 124 #[jv sd, .second, jv xx, .second, iv kk, jv bb, .second, rv oA, jv (own_go (-7046029254386353131 : Int64) bb kA sd).1, .second, rv oC, jv (own_bits sd), .second, jv rm, .second, .unset, .unset, .unset] [(.long (f_state oC (sd + (-7046029254386353131 : Int64)))), (.long (f_state oA (own_go (-7046029254386353131 : Int64) bb kA sd).2))])) (fun t k => st76.trans k) ?_
      refine Wk.go (A' := T76.setTop (mkF m 125 #[jv sd, .second, jv xx, .second, iv kk, jv bb, .second, rv oA, jv (own_go (-7046029254386353131 : Int64) bb kA sd).1, .second, rv oC, jv (own_bits sd), .second, jv rm, .second, .unset, .unset, .unset] [(.int (lcmpW (f_state oA (own_go (-7046029254386353131 : Int64) bb kA sd).2) (f_state oC (sd + (-7046029254386353131 : Int64)))))])) (fun t k => XS.lcmp X76.here hx rfl (hb hby at_124) rfl k) ?_
      have hc125 : (f_state oA (own_go (-7046029254386353131 : Int64) bb kA sd).2) = (f_state oC (sd + (-7046029254386353131 : Int64))) := by rw [own_go_acc _ _ sd kA (fun q => hc100 ((own_accept _ sd rm hbp _ (by decide) hrm).mpr q))]; rfl
      refine Wk.go (A' := T76.setTop (mkF m 128 #[jv sd, .second, jv xx, .second, iv kk, jv bb, .second, rv oA, jv (own_go (-7046029254386353131 : Int64) bb kA sd).1, .second, rv oC, jv (own_bits sd), .second, jv rm, .second, .unset, .unset, .unset] [])) (fun t k => XS.ifNo X76.here hx rfl (hb hby at_125) rfl ((if0 _ _).trans (teq ((lw_eq _ _).mpr hc125)).2) k) ?_
      refine Wk.go (A' := T76.setTop (mkF m 129 #[jv sd, .second, jv xx, .second, iv kk, jv bb, .second, rv oA, jv (own_go (-7046029254386353131 : Int64) bb kA sd).1, .second, rv oC, jv (own_bits sd), .second, jv rm, .second, .unset, .unset, .unset] [(.int (1 : Int32))])) (fun t k => XS.iconst X76.here hx rfl (hb hby at_128) k) ?_
      refine Wk.go (A' := T76.setTop (mkF m 133 #[jv sd, .second, jv xx, .second, iv kk, jv bb, .second, rv oA, jv (own_go (-7046029254386353131 : Int64) bb kA sd).1, .second, rv oC, jv (own_bits sd), .second, jv rm, .second, .unset, .unset, .unset] [(.int (1 : Int32))])) (fun t k => XS.goto X76.here hx rfl (pc0 := 129) (pc' := 133) rfl (hb hby at_129) (by decide) (by decide) k) ?_
      refine own_fin (Qv := Q0 Z sd xx kk h0 n0) (v := some (.int (1 : Int32))) X76 hlk (fun h => by rw [Bd.returns] at h; cases h) (fun fs hr => retN X76 hx (t := .boolean) Bd.returns (by simp) (hb hby at_133) hr) ?_ (by decide) (by decide)
      exact ⟨rfl, N76⟩
set_option maxRecDepth 65536 in
set_option maxHeartbeats 40000000 in
theorem comes_1 {Post : Tables → Env → Array Value → State → Outcome → State → Prop} (hpost : ∀ tb e args s v u, (limb_1_1.after args s (.returned v) u = true ∧ limb_1_2.after args s (.returned v) u = true ∧ True) → FrameEnd s (.returned v) u (Jvm.fieldLocs frame_1_writes args s ++ Jvm.arrayLocs frame_1_arrays args s ++ Jvm.staticLocs frame_1_statics s) 16 128 → Post tb e args s (.returned v) u) :
    ArmFor flags0 classFile x code maxLocals ret World_1 tables_1 room_1 Calls_1 rest_1 Pre_1 Post := by
  intro l hfl _ _ p e ha hc hk s m args below hf hA hF happ hP
  obtain ⟨hcalls, hrest, hpre⟩ := hP
  obtain ⟨-, -, -, hnamed, -, -, -, hat⟩ := (Spec.applies_iff hf).mp happ
  obtain ⟨hg, hn⟩ := and_e (Cond.before_iff.mp (show (Jvm.Cond.and given_1 narrow_1).before args s = true from hpre))
  obtain ⟨hcnt, g0⟩ := and_e hg
  obtain ⟨ga0, g1⟩ := and_e g0
  obtain ⟨ga1, g2⟩ := and_e g1
  obtain ⟨w0, w1, w2, rfl⟩ : ∃ w0 w1 w2 : Value, args = #[w0, w1, w2] := by
    have hs : args.size = 3 := by simpa [Cond.value, given_1] using hcnt
    obtain ⟨L⟩ := args
    match L, hs with
    | [w0, w1, w2], _ => exact ⟨w0, w1, w2, rfl⟩
  have hw := fun d (hd : d ∈ tables_1) => atoms_spec (ws := Jvm.Cond.code x code maxLocals ret :: tables_1) hat d (List.mem_cons_of_mem _ hd)
  obtain ⟨i0, ei0⟩ := isL_v ga0
  obtain rfl : w0 = (.long i0) := Option.some.inj ei0
  obtain ⟨i1, ei1⟩ := isL_v ga1
  obtain rfl : w1 = (.long i1) := Option.some.inj ei1
  obtain ⟨i2, ei2⟩ := is_v g2
  obtain rfl : w2 = (.int i2) := Option.some.inj ei2
  obtain ⟨n, o, h1, h2, h3, _, L, rfl, ⟨rfl, N⟩, hq⟩ := rm0 l s _ hw tables_1 i0 i1 i2  s.heap s.heap.size (Nat.le_refl _)  p e ha hc hk s m _ below hf ((Spec.applies_iff_loose hf).mp happ).1 ⟨rfl, State.Warmed39.refl s, rfl⟩ trivial
  refine ⟨n, _, h1, h2, h3, hpost _ _ _ _ _ _ ⟨Cond.after_iff.mpr rfl, Cond.after_iff.mpr (eq_i res_at (Term.int_eval (1)) rfl), trivial⟩ ⟨hq.1, hq.2.1, (hq.2.2.sift fun y hy => Or.inr (N y hy)).mono (by decide) (by decide)⟩⟩
theorem main_1_1 : Claimed_1_1 := comes_1 fun _ _ _ _ _ _ h hF => ⟨h.1, hF⟩
theorem main_1_2 : Claimed_1_2 := comes_1 fun _ _ _ _ _ _ h hF => ⟨h.2.1, hF⟩
end Jvm.Pilot.@@N@@
namespace Jvm.Pilot.@@N@@
open Jvm Jvm.ClassFile Sem Op Lib Jvm.Free Jvm.Stand Jvm.Pilot.@@N@@.Jvm.D
/-! MADE BY PROGRAM (witnessworld.py) out of the Statement's table words and the real class files: 9 classes; the members and pool entries that the words name. The judged class is class 1, her method 1. -/
namespace start1
open Jvm.ClassFile
def u (s : String) : CpInfo := .utf8 (stringToUtf16 s)
/-- a pool by its gaps: so many unusable entries, then the entry; so many at the end -/
def gap : Nat → List CpInfo → List CpInfo
  | 0, r => r
  | n + 1, r => .unusable :: gap n r
def poolList (es : List (Nat × CpInfo)) (last : Nat) : List CpInfo := es.foldr (fun e r => gap e.1 (e.2 :: r)) (gap last [])
def pool (es : List (Nat × CpInfo)) (last : Nat) : Array CpInfo := ⟨poolList es last⟩
def fileOf (pool : Array CpInfo) (this : Nat) (attrs : Array Attribute := #[]) (ms : Array MethodInfo := #[]) (fl : Nat := 33) (sup : Nat := 0) (ifs : Array Nat := #[]) (fds : Array FieldInfo := #[]) : ClassFile where
  minorVersion := 0
  majorVersion := 65
  constantPool := pool
  accessFlags := fl
  thisClass := this
  superClass := sup
  interfaces := ifs
  fields := fds
  methods := ms
  attributes := attrs
def plain (name : String) (sup : Option ClassId) : Class where
  name := name
  kind := .ordinary
  loader := none
  accessFlags := 33
  super := sup
  interfaces := #[]
  cf := none
  fields := #[]
  methods := #[]
  instanceTypes := #[]
  staticTypes := #[]
  resolved := #[]
  callSites := []
  init := .initialized
  statics := none
  mirror := none

def pool0 : Array CpInfo := pool [(5, u "<init>"), (0, u "()V"), (1, .class_ 10), (1, u "java/lang/Object")] 113

def k0c0 : Code := { maxStack := 0, maxLocals := 1, code := object_method_1_code, exceptionTable := #[], attributes := #[] }
def k0m0 : Method := { name := "<init>", desc := "()V", sig := { parameters := [], returnType := none }, accessFlags := 1, code := some k0c0 }
/-- java/lang/Object -/
def k0 : Class := { plain "java/lang/Object" none with
  accessFlags := 33
  interfaces := #[]
  cf := some (fileOf pool0 8 #[] #[{ accessFlags := 1, nameIndex := 5, descriptorIndex := 6, attributes := #[] }] 33 0 #[] #[])
  fields := #[]
  methods := #[k0m0]
  instanceTypes := #[]
  staticTypes := #[]
  resolved := Array.replicate 124 none
  statics := none }

def pool1 : Array CpInfo := pool [(2, .class_ 4), (1, u "java/lang/Object"), (0, u "<init>"), (0, u "()V"), (0, .long 9223372036854775807), (1, .class_ 10), (0, u "com/example/skerry/skerry/engine/Rng"), (0, .methodref 9 12), (0, .nameAndType 5 13), (0, u "(J)V"), (0, .methodref 9 15), (0, .nameAndType 16 17), (0, u "nextLong"), (0, u "(J)J"), (0, .methodref 9 19), (0, .nameAndType 16 20), (0, u "()J"), (0, .methodref 9 22), (0, .nameAndType 23 20), (0, u "state"), (0, .class_ 25), (0, u "com/example/skerry/skerry/engine/RngNextLong303PinLaw"), (2, u "law"), (0, u "(JJI)Z")] 3

def k1m0 : Method := { name := "<init>", desc := "()V", sig := { parameters := [], returnType := none }, accessFlags := 1, code := none }
def k1c1 : Code := { maxStack := 6, maxLocals := 18, code := code, exceptionTable := #[], attributes := #[] }
def k1m1 : Method := { name := "law", desc := "(JJI)Z", sig := { parameters := [.long, .long, .int], returnType := some .boolean }, accessFlags := 9, code := some k1c1 }
/-- com/example/skerry/skerry/engine/RngNextLong303PinLaw -/
def k1 : Class := { plain "com/example/skerry/skerry/engine/RngNextLong303PinLaw" (some 0) with
  accessFlags := 49
  interfaces := #[]
  cf := some (fileOf pool1 24 #[] #[{ accessFlags := 1, nameIndex := 5, descriptorIndex := 6, attributes := #[] }, { accessFlags := 9, nameIndex := 28, descriptorIndex := 29, attributes := #[] }] 49 2 #[] #[])
  fields := #[]
  methods := #[k1m0, k1m1]
  instanceTypes := #[]
  staticTypes := #[]
  resolved := Array.replicate 33 none
  statics := none }

def pool2 : Array CpInfo := pool [(1, .methodref 2 3), (0, .class_ 4), (0, .nameAndType 5 6), (0, u "java/lang/Object"), (0, u "<init>"), (0, u "()V"), (0, .fieldref 8 9), (0, .class_ 10), (0, .nameAndType 11 12), (0, u "com/example/skerry/skerry/engine/Rng"), (0, u "state"), (0, u "J"), (0, .long 11400714819323198485), (1, .long 13787848793156543929), (1, .long 10723151780598845931), (3, u "nextLong"), (0, u "(J)J"), (9, .methodref 8 33), (0, .nameAndType 21 34), (0, u "()J"), (18, u "STEP"), (1, u "(J)V")] 27

def k2c0 : Code := { maxStack := 3, maxLocals := 3, code := prog_7_method_1_code, exceptionTable := #[], attributes := #[] }
def k2m0 : Method := { name := "<init>", desc := "(J)V", sig := { parameters := [.long], returnType := none }, accessFlags := 1, code := some k2c0 }
def k2c1 : Code := { maxStack := 2, maxLocals := 1, code := prog_7_method_2_code, exceptionTable := #[], attributes := #[] }
def k2m1 : Method := { name := "state", desc := "()J", sig := { parameters := [], returnType := some .long }, accessFlags := 1, code := some k2c1 }
def k2c2 : Code := { maxStack := 5, maxLocals := 3, code := prog_7_method_3_code, exceptionTable := #[], attributes := #[] }
def k2m2 : Method := { name := "nextLong", desc := "()J", sig := { parameters := [], returnType := some .long }, accessFlags := 1, code := some k2c2 }
def k2c3 : Code := { maxStack := 6, maxLocals := 7, code := prog_7_method_5_code, exceptionTable := #[], attributes := #[] }
def k2m3 : Method := { name := "nextLong", desc := "(J)J", sig := { parameters := [.long], returnType := some .long }, accessFlags := 1, code := some k2c3 }
/-- com/example/skerry/skerry/engine/Rng -/
def k2 : Class := { plain "com/example/skerry/skerry/engine/Rng" (some 0) with
  accessFlags := 49
  interfaces := #[]
  cf := some (fileOf pool2 8 #[] #[{ accessFlags := 1, nameIndex := 5, descriptorIndex := 55, attributes := #[] }, { accessFlags := 1, nameIndex := 11, descriptorIndex := 34, attributes := #[] }, { accessFlags := 1, nameIndex := 21, descriptorIndex := 34, attributes := #[] }, { accessFlags := 1, nameIndex := 21, descriptorIndex := 22, attributes := #[] }] 49 2 #[] #[{ accessFlags := 26, nameIndex := 53, descriptorIndex := 12, attributes := #[] }, { accessFlags := 2, nameIndex := 11, descriptorIndex := 12, attributes := #[] }])
  fields := #[{ name := "STEP", type := .long, accessFlags := 26, slot := 0, constantValue := 0 }, { name := "state", type := .long, accessFlags := 2, slot := 0, constantValue := 0 }]
  methods := #[k2m0, k2m1, k2m2, k2m3]
  instanceTypes := #[.long]
  staticTypes := #[.long]
  resolved := Array.replicate 83 none
  statics := none }

def pool3 : Array CpInfo := pool [(1, u "java/lang/Cloneable"), (0, .class_ 1), (0, u "java/lang/Object"), (0, .class_ 3)] 3

/-- java/lang/Cloneable -/
def k3 : Class := { plain "java/lang/Cloneable" (some 0) with
  accessFlags := 1537
  interfaces := #[]
  cf := some (fileOf pool3 2 #[] #[] 1537 4 #[] #[])
  fields := #[]
  methods := #[]
  instanceTypes := #[]
  staticTypes := #[]
  resolved := Array.replicate 8 none
  statics := none }

def pool4 : Array CpInfo := pool [(1, u "java/io/Serializable"), (0, .class_ 1), (0, u "java/lang/Object"), (0, .class_ 3)] 3

/-- java/io/Serializable -/
def k4 : Class := { plain "java/io/Serializable" (some 0) with
  accessFlags := 1537
  interfaces := #[]
  cf := some (fileOf pool4 2 #[] #[] 1537 4 #[] #[])
  fields := #[]
  methods := #[]
  instanceTypes := #[]
  staticTypes := #[]
  resolved := Array.replicate 8 none
  statics := none }

/-- the primitive byte -/
def k5 : Class := { plain "byte" none with kind := .primitive 'B', accessFlags := 0x411 }
/-- [B -/
def k6 : Class := { plain "[B" (some 0) with kind := .array 5 .byte, interfaces := #[3, 4], accessFlags := 1041 }

/-- the primitive int -/
def k7 : Class := { plain "int" none with kind := .primitive 'I', accessFlags := 0x411 }
/-- [I -/
def k8 : Class := { plain "[I" (some 0) with kind := .array 7 .int, interfaces := #[3, 4], accessFlags := 1041 }

def heap : Heap := #[]
def classes : Array Class := #[k0, k1, k2, k3, k4, k5, k6, k7, k8]
def interned : List (Array UInt16 × Addr) := []
def slotsUsed : Nat := 0
def theMethod : MethodId := ⟨1, 1⟩
def args0 : Array Value := #[.long 5, .long 7, .int 3]
def aboutOver (below : List Frame) : State where
  vm := { classes := classes, interned := interned.toArray }
  heap := heap
  slotsUsed := slotsUsed
  threads := #[{ frames := .invoking theMethod args0 :: below }]
def below0 : List Frame := [.native { method := ⟨0, 0⟩, args := #[] }]
def about1 : State := aboutOver below0
def p0 : Program := .bare "" "" ""
def e0 : Env := launch0.env 0 0 0
theorem w_frames : about1.frames = Frame.invoking theMethod args0 :: below0 := rfl
set_option maxRecDepth 65536 in
theorem w_args : argsFit about1.vm theMethod args0 = true := by decide +kernel
set_option maxRecDepth 65536 in
theorem w_heap : heapFits about1 = true := by decide +kernel
set_option maxRecDepth 65536 in
theorem w_runnable : about1.curStatus? = some .runnable := by decide +kernel
set_option maxRecDepth 65536 in
theorem w_alone : about1.alone = true := by decide +kernel
set_option maxRecDepth 65536 in
theorem w_named : about1.methodNamed? x = some theMethod := by decide +kernel
set_option maxRecDepth 65536 in
theorem w_hears : about1.hears theMethod below0 = true := by decide +kernel
set_option maxRecDepth 65536 in
theorem w_ripe : about1.ripe theMethod args0 below0 = true := by decide +kernel
theorem w_running : about1.status = .running := rfl
set_option maxRecDepth 65536 in
theorem w_room : about1.hasRoom e0.platform room_1 = true :=
  launch0.hasRoom_least _ room_1 (by decide +kernel) (by decide +kernel) (by decide +kernel) (by decide +kernel) (by decide +kernel) (by decide +kernel)
theorem allAtoms_all (ts : List Jvm.Cond) (a : Array Jvm.Value) (st : Jvm.State) : (allAtoms ts).before a st = ts.all (fun c => c.before a st) := by
  induction ts with
  | nil => rfl
  | cons c t ih =>
    show (Jvm.Cond.and c (allAtoms t)).before a st = _
    rw [Jvm.Cond.before_and, ih, List.all_cons]
def words1 : List Jvm.Cond := Jvm.Cond.code x code maxLocals ret :: tables_1
/-- a 'code' word, met by the world's own term for the bytes: nothing is compared byte by byte -/
theorem code_word {y : MethodName} {bytes : ByteArray} {mx : Nat} {rt : Option FieldType} {a : Array Value} {s : State} {m : MethodId} {meth : Method} {c : Code} (h1 : s.methodNamed? y = some m) (h2 : s.vm.method? m = some meth) (h3 : meth.code = some c) (h4 : c.code = bytes)
    (h5 : (c.maxLocals == mx && c.exceptionTable.isEmpty && decide (c.maxStack ≤ mostOperands) && decide (meth.sig.returnType = rt) && !meth.locks && decide (parseMethodDescriptor y.desc = some meth.sig)) = true) : (Jvm.Cond.code y bytes mx rt).before a s = true := by
  simp only [Bool.and_eq_true, beq_iff_eq, Bool.not_eq_true', decide_eq_true_eq] at h5
  obtain ⟨⟨⟨⟨⟨g1, g2⟩, g3⟩, g4⟩, g5⟩, g6⟩ := h5
  simp [Cond.before, Cond.holds, Cond.value, h1, h2, h3, h4, g1, g2, g3, g4, g5, g6]
def isCode : Jvm.Cond → Bool
  | .code _ _ _ _ => true
  | _ => false
theorem all_split {L : List Jvm.Cond} {P : Jvm.Cond → Bool} (h1 : L.all (fun c => isCode c || P c) = true) (h2 : ∀ c ∈ L.filter isCode, P c = true) : L.all P = true := by
  refine List.all_eq_true.mpr fun c hc => ?_
  have h := List.all_eq_true.mp h1 c hc
  rcases Bool.eq_false_or_eq_true (isCode c) with hi | hi
  · exact h2 c (List.mem_filter.mpr ⟨hc, hi⟩)
  · simpa [hi] using h
set_option maxRecDepth 65536 in
theorem w_c0 : (Jvm.Cond.code x code maxLocals ret).before args0 about1 = true := code_word (m := ⟨1, 1⟩) (meth := k1m1) (c := k1c1) (by decide +kernel) rfl rfl rfl (by decide +kernel)
set_option maxRecDepth 65536 in
theorem w_c1 : (Jvm.Cond.code ({ cls := "com/example/skerry/skerry/engine/Rng", name := "<init>", desc := "(J)V" } : Jvm.MethodName) prog_7_method_1_code (3 : Nat) (Option.none : Option Jvm.ClassFile.FieldType)).before args0 about1 = true := code_word (m := ⟨2, 0⟩) (meth := k2m0) (c := k2c0) (by decide +kernel) rfl rfl rfl (by decide +kernel)
set_option maxRecDepth 65536 in
theorem w_c2 : (Jvm.Cond.code ({ cls := "java/lang/Object", name := "<init>", desc := "()V" } : Jvm.MethodName) object_method_1_code (1 : Nat) (Option.none : Option Jvm.ClassFile.FieldType)).before args0 about1 = true := code_word (m := ⟨0, 0⟩) (meth := k0m0) (c := k0c0) (by decide +kernel) rfl rfl rfl (by decide +kernel)
set_option maxRecDepth 65536 in
theorem w_c3 : (Jvm.Cond.code ({ cls := "com/example/skerry/skerry/engine/Rng", name := "nextLong", desc := "(J)J" } : Jvm.MethodName) prog_7_method_5_code (7 : Nat) (Option.some Jvm.ClassFile.FieldType.long)).before args0 about1 = true := code_word (m := ⟨2, 3⟩) (meth := k2m3) (c := k2c3) (by decide +kernel) rfl rfl rfl (by decide +kernel)
set_option maxRecDepth 65536 in
theorem w_c4 : (Jvm.Cond.code ({ cls := "com/example/skerry/skerry/engine/Rng", name := "nextLong", desc := "()J" } : Jvm.MethodName) prog_7_method_3_code (3 : Nat) (Option.some Jvm.ClassFile.FieldType.long)).before args0 about1 = true := code_word (m := ⟨2, 2⟩) (meth := k2m2) (c := k2c2) (by decide +kernel) rfl rfl rfl (by decide +kernel)
set_option maxRecDepth 65536 in
theorem w_c5 : (Jvm.Cond.code ({ cls := "com/example/skerry/skerry/engine/Rng", name := "state", desc := "()J" } : Jvm.MethodName) prog_7_method_2_code (1 : Nat) (Option.some Jvm.ClassFile.FieldType.long)).before args0 about1 = true := code_word (m := ⟨2, 1⟩) (meth := k2m1) (c := k2c1) (by decide +kernel) rfl rfl rfl (by decide +kernel)
def codes1 : List Jvm.Cond := [Jvm.Cond.code x code maxLocals ret, Jvm.Cond.code ({ cls := "com/example/skerry/skerry/engine/Rng", name := "<init>", desc := "(J)V" } : Jvm.MethodName) prog_7_method_1_code (3 : Nat) (Option.none : Option Jvm.ClassFile.FieldType), Jvm.Cond.code ({ cls := "java/lang/Object", name := "<init>", desc := "()V" } : Jvm.MethodName) object_method_1_code (1 : Nat) (Option.none : Option Jvm.ClassFile.FieldType), Jvm.Cond.code ({ cls := "com/example/skerry/skerry/engine/Rng", name := "nextLong", desc := "(J)J" } : Jvm.MethodName) prog_7_method_5_code (7 : Nat) (Option.some Jvm.ClassFile.FieldType.long), Jvm.Cond.code ({ cls := "com/example/skerry/skerry/engine/Rng", name := "nextLong", desc := "()J" } : Jvm.MethodName) prog_7_method_3_code (3 : Nat) (Option.some Jvm.ClassFile.FieldType.long), Jvm.Cond.code ({ cls := "com/example/skerry/skerry/engine/Rng", name := "state", desc := "()J" } : Jvm.MethodName) prog_7_method_2_code (1 : Nat) (Option.some Jvm.ClassFile.FieldType.long)]
set_option maxRecDepth 65536 in
theorem codes_eq : words1.filter isCode = codes1 := rfl
theorem w_codes : ∀ c ∈ words1.filter isCode, c.before args0 about1 = true := by
  rw [codes_eq]
  intro c hc
  simp only [codes1, List.mem_cons, List.not_mem_nil, or_false] at hc
  rcases hc with rfl | rfl | rfl | rfl | rfl | rfl
  · exact w_c0
  · exact w_c1
  · exact w_c2
  · exact w_c3
  · exact w_c4
  · exact w_c5
set_option maxRecDepth 65536 in
theorem w_t1 : (words1.take 24).all (fun c => isCode c || c.before args0 about1) = true := by decide +kernel
set_option maxRecDepth 65536 in
theorem w_t2 : (words1.drop 24).all (fun c => isCode c || c.before args0 about1) = true := by decide +kernel
theorem w_tables : (allAtoms (Jvm.Cond.code x code maxLocals ret :: tables_1)).before args0 about1 = true := by
  rw [allAtoms_all]
  show words1.all (fun c => c.before args0 about1) = true
  refine all_split ?_ w_codes
  rw [← List.take_append_drop 24 words1, List.all_append, w_t1, w_t2]
  rfl
set_option maxRecDepth 65536 in
theorem w_case : (Jvm.Cond.and given_1 narrow_1).before args0 about1 = true := by decide +kernel
theorem w_applies : (headSpec (Jvm.Cond.code x code maxLocals ret :: tables_1) room_1).applies x e0.platform about1 = true :=
  (Spec.applies_iff w_frames).mpr ⟨w_running, w_runnable, w_alone, w_named, w_hears, w_ripe, w_room, w_tables⟩
theorem atStart : AtStart classFile x code maxLocals ret World_1 tables_1 room_1 Calls_1 rest_1 Pre_1 launch0 p0 e0 about1 theMethod args0 below0 :=
  ⟨lists_1, trivial, launch0.admits_env _ _ _, launch0.least_env, fairChoices_fair.cas, fairChoices_fair.clock, w_frames, w_args, w_heap, w_applies, trivial, trivial, w_case⟩
end start1
theorem witness_1 : WitnessClaimed_1 := ⟨start1.p0, start1.e0, start1.about1, start1.theMethod, start1.args0, start1.below0, start1.atStart⟩
end Jvm.Pilot.@@N@@
