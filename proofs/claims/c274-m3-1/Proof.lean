import JvmDerived
import JvmDerived.Pilot.@@N@@Statement
import JvmDerived.Pilot.@@N@@Code
set_option linter.unusedVariables false
set_option linter.unusedSimpArgs false
namespace Jvm.RoadKit
open Sem ClassFile Op Lib Jvm.Stand Jvm.Free Jvm.LawKit
section New
variable {p : Program} {l : Launch} {e : Env} {R : Room} {s : State} {m : MethodId} {args : Array Value} {below : List Frame} {meth : Method} {c : Code} {T : State} {locs : List Loc} {cells slots : Nat}
theorem retI (X : Stand p l e R s m args below meth c T locs cells slots) (hx : p.tables.exec = Jvm.exec) {pc : Nat} {Ls : Array Slot} {z : Int32} {rest : List Value} (hret : meth.sig.returnType = some .int) (hd : decode c.code pc = .ok (.ireturn, 1)) {fs : List Frame}
    (hl : ∀ (f : JFrame) (acts : List Action), f.method = m → f.locked = none → f.entered = [] → (doReturn e (T.setTop f) acts (some (.int z))).1 = T.setFrames fs) : Steps p.tables e below (T.setTop (mkF m pc Ls (.int z :: rest))) (T.setFrames fs) := by
  have hm' : T.vm.method? m = some meth := X.method'
  have hn : narrow .int (.int z) = .int z := rfl
  show Steps p.tables e below (T.setTop { method := m, pc := pc, locals := Ls, stack := _ :: rest, locked := none }) _
  jvm_step X.here [X.here.top, hx, hd, hm', hret, hn]
  first | (intro acts; rw [hl _ acts rfl rfl rfl]) | rw [hl _ _ rfl rfl rfl]
  exact Steps.refl _
abbrev jv (x : Int64) : Slot := .val (.long x)
/-- from A the run goes on to an end of which R holds -/
def Wk (tb : Tables) (e : Env) (below : List Frame) (A : State) (R : State → Outcome → Prop) : Prop := ∃ U o, Steps tb e below A U ∧ R U o
theorem Wk.go {tb : Tables} {A A' : State} {R : State → Outcome → Prop} (h : ∀ t, Steps tb e below A' t → Steps tb e below A t) (k : Wk tb e below A' R) : Wk tb e below A R := by
  obtain ⟨U, o, k1, k2⟩ := k
  exact ⟨U, o, h _ k1, k2⟩
/-- the two ways from A to A' meet there -/
theorem own_fin (X : Stand p l e R s m args below meth c T locs cells slots) {Qv : Option Value → Heap → List Loc → Prop} {v : Option Value} {g : JFrame} {C S : Nat} (hlocks : meth.locks = false) (hv : meth.sig.returnType = none → v = none)
    (hst : ∀ fs, (∀ (f : JFrame) (acts : List Action), f.method = m → f.locked = none → f.entered = [] → (doReturn e (T.setTop f) acts v).1 = T.setFrames fs) → Steps p.tables e below (T.setTop g) (T.setFrames fs))
    (hQ : Qv v T.heap locs) (hc : cells ≤ C) (hs : slots ≤ S) :
    Wk p.tables e below (T.setTop g) (fun U o => U.status = .running ∧ Ended U below o ∧ ∃ v L, o = .returned v ∧ Qv v U.heap L ∧ FrameEnd s o U L C S) := by
  obtain ⟨fs, hr, hrun, hended, hW, hsame⟩ := X.leave (v := v) hv hlocks
  exact ⟨_, _, hst fs hr, hrun, hended, _, _, rfl, hQ, ⟨_, rfl⟩, hW, hsame.mono hc hs⟩
end New
end Jvm.RoadKit
namespace Jvm.Pilot.@@N@@
open Jvm Jvm.ClassFile Sem Op Lib Jvm.Free Jvm.Stand Jvm.LawKit Jvm.RoadKit Bundle Jvm.Pilot.@@N@@.Jvm.D
theorem d2_0 : decode prog_8_method_1_code 0 = .ok (.aload_n 0, 1) := by decide +kernel
theorem tw10 {Z : State} {a0 : Array Value} (hw : ∀ d ∈ tables_1, d.before a0 Z = true) : (Jvm.Cond.methodLink "com/example/skerry/skerry/engine/Viewer" (1 : Nat) ({ cls := "java/lang/Object", name := "<init>", desc := "()V" } : Jvm.MethodName)).before a0 Z = true := hw _ (List.mem_of_getElem? (i := 10) rfl)
theorem tw11 {Z : State} {a0 : Array Value} (hw : ∀ d ∈ tables_1, d.before a0 Z = true) : (Jvm.Cond.instanceMethod ({ cls := "java/lang/Object", name := "<init>", desc := "()V" } : Jvm.MethodName)).before a0 Z = true := hw _ (List.mem_of_getElem? (i := 11) rfl)
theorem tw12 {Z : State} {a0 : Array Value} (hw : ∀ d ∈ tables_1, d.before a0 Z = true) : (Jvm.Cond.code ({ cls := "java/lang/Object", name := "<init>", desc := "()V" } : Jvm.MethodName) object_method_1_code (1 : Nat) (Option.none : Option Jvm.ClassFile.FieldType)).before a0 Z = true := hw _ (List.mem_of_getElem? (i := 12) rfl)
theorem d2_1 : decode prog_8_method_1_code 1 = .ok (.invokespecial 1, 3) := by decide +kernel
theorem d2_4 : decode prog_8_method_1_code 4 = .ok (.aload_n 0, 1) := by decide +kernel
theorem d2_5 : decode prog_8_method_1_code 5 = .ok (.iload_n 1, 1) := by decide +kernel
theorem tw13 {Z : State} {a0 : Array Value} (hw : ∀ d ∈ tables_1, d.before a0 Z = true) : (Jvm.Cond.fieldLink "com/example/skerry/skerry/engine/Viewer" (7 : Nat) "com/example/skerry/skerry/engine/Viewer" "all" "Z").before a0 Z = true := hw _ (List.mem_of_getElem? (i := 13) rfl)
theorem tw14 {Z : State} {a0 : Array Value} (hw : ∀ d ∈ tables_1, d.before a0 Z = true) : (Jvm.Cond.laysFinal "com/example/skerry/skerry/engine/Viewer" "com/example/skerry/skerry/engine/Viewer" "all" "Z").before a0 Z = true := hw _ (List.mem_of_getElem? (i := 14) rfl)
theorem tw6 {Z : State} {a0 : Array Value} (hw : ∀ d ∈ tables_1, d.before a0 Z = true) : (Jvm.Cond.instantiable "com/example/skerry/skerry/engine/Viewer" (2 : Nat)).before a0 Z = true := hw _ (List.mem_of_getElem? (i := 6) rfl)
theorem d2_6 : decode prog_8_method_1_code 6 = .ok (.putfield 7, 3) := by decide +kernel
theorem tw16 {Z : State} {a0 : Array Value} (hw : ∀ d ∈ tables_1, d.before a0 Z = true) : (Jvm.Cond.laysFinal "com/example/skerry/skerry/engine/Viewer" "com/example/skerry/skerry/engine/Viewer" "seat" "I").before a0 Z = true := hw _ (List.mem_of_getElem? (i := 16) rfl)
theorem sn_0 {Z : State} {a0 : Array Value} (hw : ∀ d ∈ tables_1, d.before a0 Z = true) : Jvm.RoadKit.slotOf Z "com/example/skerry/skerry/engine/Viewer" "seat" "I" ≠ Jvm.RoadKit.slotOf Z "com/example/skerry/skerry/engine/Viewer" "all" "Z" := Jvm.RoadKit.slot_ne (Or.inr (tw16 hw)) (Or.inr (tw14 hw)) (by decide) (t := .int) (t' := .boolean) (by decide) (by decide)
theorem d2_9 : decode prog_8_method_1_code 9 = .ok (.aload_n 0, 1) := by decide +kernel
theorem d2_10 : decode prog_8_method_1_code 10 = .ok (.iload_n 2, 1) := by decide +kernel
theorem tw15 {Z : State} {a0 : Array Value} (hw : ∀ d ∈ tables_1, d.before a0 Z = true) : (Jvm.Cond.fieldLink "com/example/skerry/skerry/engine/Viewer" (13 : Nat) "com/example/skerry/skerry/engine/Viewer" "seat" "I").before a0 Z = true := hw _ (List.mem_of_getElem? (i := 15) rfl)
theorem d2_11 : decode prog_8_method_1_code 11 = .ok (.putfield 13, 3) := by decide +kernel
theorem sn_1 {Z : State} {a0 : Array Value} (hw : ∀ d ∈ tables_1, d.before a0 Z = true) : Jvm.RoadKit.slotOf Z "com/example/skerry/skerry/engine/Viewer" "all" "Z" ≠ Jvm.RoadKit.slotOf Z "com/example/skerry/skerry/engine/Viewer" "seat" "I" := Jvm.RoadKit.slot_ne (Or.inr (tw14 hw)) (Or.inr (tw16 hw)) (by decide) (t := .boolean) (t' := .int) (by decide) (by decide)
theorem d2_14 : decode prog_8_method_1_code 14 = .ok (.return_, 1) := by decide +kernel
theorem pn_0 : plainName "com/example/skerry/skerry/engine/Viewer" = true := by first | (simp [plainName, overriddenIn]; done) | decide +kernel
theorem ef_2 (m : MethodId) (x0 : Addr) (x1 : Int32) (x2 : Int32) : entryFrame m #[(.ref x0), (.int x1), (.int x2)] 3 = mkF m 0 #[rv x0, iv x1, iv x2] [] := by first | (simp [entryFrame, mkF, argsToLocals, Value.category]; done) | rfl
def Q2 (Z : State) (ob : Addr) (al : Int32) (se : Int32)  (h0 : Heap) (n0 : Nat) (v : Option Value) (h : Heap) (L : List Loc) : Prop := v = none ∧ Fr n0 L ∧ Keep h0 h [ob] ∧ Exa Z h ob "com/example/skerry/skerry/engine/Viewer" ∧ Fld Z h ob "com/example/skerry/skerry/engine/Viewer" "all" "Z" (.int (nar .boolean al)) ∧ Fld Z h ob "com/example/skerry/skerry/engine/Viewer" "seat" "I" (.int se)
set_option maxRecDepth 65536 in
set_option maxHeartbeats 40000000 in
theorem rm2 (l : Launch) (Z : State) (a0 : Array Value) (hw : ∀ d ∈ tables_1, d.before a0 Z = true) (ws : List Jvm.Cond) (ob : Addr) (al : Int32) (se : Int32)  (h0 : Heap) (n0 : Nat) (Z0 : n0 ≤ h0.size) (E_ob : Exa Z h0 ob "com/example/skerry/skerry/engine/Viewer") (F_all : Fld Z h0 ob "com/example/skerry/skerry/engine/Viewer" "all" "Z" (.int (0 : Int32))) (F_seat : Fld Z h0 ob "com/example/skerry/skerry/engine/Viewer" "seat" "I" (.int (0 : Int32))) (g_ob : n0 ≤ ob) :
    MetFree l (⟨"com/example/skerry/skerry/engine/Viewer", "<init>", "(ZI)V"⟩ : MethodName) (head1 (Jvm.Cond.code (⟨"com/example/skerry/skerry/engine/Viewer", "<init>", "(ZI)V"⟩ : MethodName) prog_8_method_1_code 3 none :: ws) ({ frames := 1, cells := 0, slots := 0, locals := 12 } : Room)) (fun a U => a = #[(.ref ob), (.int al), (.int se)] ∧ Z.Warmed39 U.vm ∧ U.heap = h0) (fun _ _ _ _ _ => True) (fun _ U o U' => ∃ v L, o = .returned v ∧ Q2 Z ob al se h0 n0 v U'.heap L ∧ FrameEnd U o U' L ({ frames := 1, cells := 0, slots := 0, locals := 12 } : Room).cells ({ frames := 1, cells := 0, slots := 0, locals := 12 } : Room).slots) := by
  refine MetFree.of_bodySF (plainFor_of_name pn_0) hisR ?_
  intro p e s m args below meth c s₁ Bd hml0 hP hK
  obtain ⟨rfl, hZ, hh⟩ := hP
  have hx := Bd.exec
  have hby := Bd.bytes
  have hml : c.maxLocals = 3 := hml0
  have hown : s.vm.findClass "com/example/skerry/skerry/engine/Viewer" = some m.cls := findClass_of_methodNamed Bd.named
  have hnm := (name_of_methodNamed Bd.named Bd.method).1
  have X0 : Stand p l e ({ frames := 1, cells := 0, slots := 0, locals := 12 } : Room) s m #[(.ref ob), (.int al), (.int se)] below meth c s₁ [] 0 0 := Stand.of_body Bd
  have e0 : s₁.heap = h0 := by rw [← hh, Bd.state]; rfl
  have N0 := Fr.nil n0
  have hlk : meth.locks = false := BodyLoose.notSynchronized Bd
  suffices hwk : Wk p.tables e below (s₁.setTop (mkF m 0 #[rv ob, iv al, iv se] [])) (fun U o => U.status = .running ∧ Ended U below o ∧ ∃ v L, o = .returned v ∧ Q2 Z ob al se h0 n0 v U.heap L ∧ FrameEnd s o U L 0 0) by
    obtain ⟨U, o, k1, k2⟩ := hwk
    exact ⟨U, o, castTop (ef_2 m ob al se) k1, k2⟩
  have K0 := Keep.refl h0 [ob]
  refine Wk.go (A' := s₁.setTop (mkF m 1 #[rv ob, iv al, iv se] [(.ref ob)])) (fun t k => XS.aloadN X0.here hx rfl (hb hby d2_0) rfl rfl k) ?_
  obtain ⟨T1, X1, e1, st1⟩ := initO X0 hx hZ hown (tw10 hw) (tw11 hw) (tw12 hw) e0 (g := (mkF m 1 #[rv ob, iv al, iv se] [(.ref ob)])) rfl (by rw [hml]; rfl) rfl (hb hby d2_1) (by decide) (W := 0) (by show 2 * 0 + _ ≤ _; exact Nat.le_of_eq rfl) (by decide)
  refine Wk.go (A' := T1.setTop (mkF m 4 #[rv ob, iv al, iv se] [])) (fun t k => st1 t k) ?_
  refine Wk.go (A' := T1.setTop (mkF m 5 #[rv ob, iv al, iv se] [(.ref ob)])) (fun t k => XS.aloadN X1.here hx rfl (hb hby d2_4) rfl rfl k) ?_
  refine Wk.go (A' := T1.setTop (mkF m 6 #[rv ob, iv al, iv se] [(.int al), (.ref ob)])) (fun t k => XS.iloadN X1.here hx rfl (hb hby d2_5) rfl k) ?_
  obtain ⟨T2, h2, X2, e2, W2, st2⟩ := putFN X1 hx hZ hown (tw13 hw) Via.refl e1 F_all E_ob (Or.inr ⟨(tw14 hw), rfl, hnm⟩) (tw6 hw) (ty := .boolean) (v' := (.int (nar .boolean al))) (by decide) rfl (fits_nar_bool al) (g := (mkF m 6 #[rv ob, iv al, iv se] [(.int al), (.ref ob)])) rfl rfl (hb hby d2_6)
  have f3 := E_ob.wr W2
  have f4 := F_all.same W2
  have f5 := F_seat.other W2 (Or.inr (sn_0 hw))
  have Zp2 : n0 ≤ h2.size := Nat.le_trans Z0 (Nat.le_of_eq W2.size.symm)
  have K2 := K0.wr W2 (Or.inl (List.mem_of_getElem? (i := 0) rfl))
  have N2 := Fr.snoc X2 N0 g_ob
  refine Wk.go (A' := T2.setTop (mkF m 9 #[rv ob, iv al, iv se] [])) (fun t k => st2 t k) ?_
  refine Wk.go (A' := T2.setTop (mkF m 10 #[rv ob, iv al, iv se] [(.ref ob)])) (fun t k => XS.aloadN X2.here hx rfl (hb hby d2_9) rfl rfl k) ?_
  refine Wk.go (A' := T2.setTop (mkF m 11 #[rv ob, iv al, iv se] [(.int se), (.ref ob)])) (fun t k => XS.iloadN X2.here hx rfl (hb hby d2_10) rfl k) ?_
  obtain ⟨T6, h6, X6, e6, W6, st6⟩ := putF X2 hx hZ hown (host := "") (Or.inl (tw15 hw)) Via.refl e2 f5 f3 (Or.inr ⟨(tw16 hw), rfl, hnm⟩) (tw6 hw) (ty := .int) (by decide) rfl rfl (g := (mkF m 11 #[rv ob, iv al, iv se] [(.int se), (.ref ob)])) rfl rfl (hb hby d2_11)
  have f7 := f3.wr W6
  have f8 := f4.other W6 (Or.inr (sn_1 hw))
  have f9 := f5.same W6
  have Zp6 : n0 ≤ h6.size := Nat.le_trans Zp2 (Nat.le_of_eq W6.size.symm)
  have K6 := K2.wr W6 (Or.inl (List.mem_of_getElem? (i := 0) rfl))
  have N6 := Fr.snoc X6 N2 g_ob
  refine Wk.go (A' := T6.setTop (mkF m 14 #[rv ob, iv al, iv se] [])) (fun t k => st6 t k) ?_
  refine own_fin (Qv := Q2 Z ob al se h0 n0) (v := none) X6 hlk (fun _ => rfl) (fun fs hr => X6.returnOut hx Bd.returns (hb hby d2_14) hr) ?_ (by decide) (by decide)
  show Q2 Z ob al se h0 n0 _ T6.heap _
  rw [e6]
  exact ⟨rfl, N6, K6, f7, f8, f9⟩
theorem d1_0 : decode prog_8_method_2_code 0 = .ok (.iload_n 0, 1) := by decide +kernel
theorem d1_1 : decode prog_8_method_2_code 1 = .ok (.ifCond .ge 17, 3) := by decide +kernel
theorem tw5 {Z : State} {a0 : Array Value} (hw : ∀ d ∈ tables_1, d.before a0 Z = true) : (Jvm.Cond.classLink "com/example/skerry/skerry/engine/Viewer" (8 : Nat) "com/example/skerry/skerry/engine/Viewer").before a0 Z = true := hw _ (List.mem_of_getElem? (i := 5) rfl)
theorem tw3 {Z : State} {a0 : Array Value} (hw : ∀ d ∈ tables_1, d.before a0 Z = true) : (Jvm.Cond.initialized "com/example/skerry/skerry/engine/Viewer").before a0 Z = true := hw _ (List.mem_of_getElem? (i := 3) rfl)
theorem d1_18 : decode prog_8_method_2_code 18 = .ok (.new 8, 3) := by decide +kernel
theorem d1_21 : decode prog_8_method_2_code 21 = .ok (.dup, 1) := by decide +kernel
theorem d1_22 : decode prog_8_method_2_code 22 = .ok (.iconst 0, 1) := by decide +kernel
theorem d1_23 : decode prog_8_method_2_code 23 = .ok (.iload_n 0, 1) := by decide +kernel
theorem tw7 {Z : State} {a0 : Array Value} (hw : ∀ d ∈ tables_1, d.before a0 Z = true) : (Jvm.Cond.methodLink "com/example/skerry/skerry/engine/Viewer" (26 : Nat) ({ cls := "com/example/skerry/skerry/engine/Viewer", name := "<init>", desc := "(ZI)V" } : Jvm.MethodName)).before a0 Z = true := hw _ (List.mem_of_getElem? (i := 7) rfl)
theorem tw9 {Z : State} {a0 : Array Value} (hw : ∀ d ∈ tables_1, d.before a0 Z = true) : (Jvm.Cond.code ({ cls := "com/example/skerry/skerry/engine/Viewer", name := "<init>", desc := "(ZI)V" } : Jvm.MethodName) prog_8_method_1_code (3 : Nat) (Option.none : Option Jvm.ClassFile.FieldType)).before a0 Z = true := hw _ (List.mem_of_getElem? (i := 9) rfl)
theorem pd_0 : parseMethodDescriptor "(ZI)V" = some ⟨[.boolean, .int], none⟩ := by decide +kernel
theorem d1_24 : decode prog_8_method_2_code 24 = .ok (.invokespecial 26, 3) := by decide +kernel
theorem tw8 {Z : State} {a0 : Array Value} (hw : ∀ d ∈ tables_1, d.before a0 Z = true) : (Jvm.Cond.instanceMethod ({ cls := "com/example/skerry/skerry/engine/Viewer", name := "<init>", desc := "(ZI)V" } : Jvm.MethodName)).before a0 Z = true := hw _ (List.mem_of_getElem? (i := 8) rfl)
theorem d1_27 : decode prog_8_method_2_code 27 = .ok (.areturn, 1) := by decide +kernel
theorem ef_1 (m : MethodId) (x0 : Int32) : entryFrame m #[(.int x0)] 1 = mkF m 0 #[iv x0] [] := by first | (simp [entryFrame, mkF, argsToLocals, Value.category]; done) | rfl
def Q1 (Z : State) (se : Int32)  (h0 : Heap) (n0 : Nat) (v : Option Value) (h : Heap) (L : List Loc) : Prop := ∃ b : Addr, v = some (.ref b) ∧ Fr n0 L ∧ Keep h0 h [] ∧ n0 ≤ b ∧ h0.size ≤ b ∧ Exa Z h b "com/example/skerry/skerry/engine/Viewer" ∧ Fld Z h b "com/example/skerry/skerry/engine/Viewer" "all" "Z" (.int (nar .boolean (0 : Int32))) ∧ Fld Z h b "com/example/skerry/skerry/engine/Viewer" "seat" "I" (.int se)
set_option maxRecDepth 65536 in
set_option maxHeartbeats 40000000 in
theorem rm1 (l : Launch) (Z : State) (a0 : Array Value) (hw : ∀ d ∈ tables_1, d.before a0 Z = true) (ws : List Jvm.Cond) (se : Int32)  (h0 : Heap) (n0 : Nat) (Z0 : n0 ≤ h0.size) (hse : ¬ (se < (0 : Int32))) :
    MetFree l (⟨"com/example/skerry/skerry/engine/Viewer", "seat", "(I)Lcom/example/skerry/skerry/engine/Viewer;"⟩ : MethodName) (head1 (Jvm.Cond.code (⟨"com/example/skerry/skerry/engine/Viewer", "seat", "(I)Lcom/example/skerry/skerry/engine/Viewer;"⟩ : MethodName) prog_8_method_2_code 1 (some (.object "com/example/skerry/skerry/engine/Viewer")) :: ws) ({ frames := 2, cells := 1, slots := 2, locals := 27 } : Room)) (fun a U => a = #[(.int se)] ∧ Z.Warmed39 U.vm ∧ U.heap = h0) (fun _ _ _ _ _ => True) (fun _ U o U' => ∃ v L, o = .returned v ∧ Q1 Z se h0 n0 v U'.heap L ∧ FrameEnd U o U' L ({ frames := 2, cells := 1, slots := 2, locals := 27 } : Room).cells ({ frames := 2, cells := 1, slots := 2, locals := 27 } : Room).slots) := by
  refine MetFree.of_bodySF (plainFor_of_name pn_0) hisR ?_
  intro p e s m args below meth c s₁ Bd hml0 hP hK
  obtain ⟨rfl, hZ, hh⟩ := hP
  have hx := Bd.exec
  have hby := Bd.bytes
  have hml : c.maxLocals = 1 := hml0
  have hown : s.vm.findClass "com/example/skerry/skerry/engine/Viewer" = some m.cls := findClass_of_methodNamed Bd.named
  have hnm := (name_of_methodNamed Bd.named Bd.method).1
  have X0 : Stand p l e ({ frames := 2, cells := 1, slots := 2, locals := 27 } : Room) s m #[(.int se)] below meth c s₁ [] 0 0 := Stand.of_body Bd
  have e0 : s₁.heap = h0 := by rw [← hh, Bd.state]; rfl
  have N0 := Fr.nil n0
  have hlk : meth.locks = false := BodyLoose.notSynchronized Bd
  suffices hwk : Wk p.tables e below (s₁.setTop (mkF m 0 #[iv se] [])) (fun U o => U.status = .running ∧ Ended U below o ∧ ∃ v L, o = .returned v ∧ Q1 Z se h0 n0 v U.heap L ∧ FrameEnd s o U L 1 2) by
    obtain ⟨U, o, k1, k2⟩ := hwk
    exact ⟨U, o, castTop (ef_1 m se) k1, k2⟩
  have K0 := Keep.refl h0 []
  refine Wk.go (A' := s₁.setTop (mkF m 1 #[iv se] [(.int se)])) (fun t k => XS.iloadN X0.here hx rfl (hb hby d1_0) rfl k) ?_
  have hc1 : ¬ (se < (0 : Int32)) := hse
  refine Wk.go (A' := s₁.setTop (mkF m 18 #[iv se] [])) (fun t k => XS.ifYes X0.here hx rfl (pc0 := 1) (pc' := 18) rfl (hb hby d1_1) rfl ((if0 _ _).trans (flt hc1).2.1) (by decide) (by decide) k) ?_
  obtain ⟨T1, h1, X1, e1, E1, A1, D1, -, st1⟩ := newO X0 hx hZ hown (tw5 hw) (tw6 hw) (tw3 hw) e0 (g := (mkF m 18 #[iv se] [])) rfl (hb hby d1_18) (by decide) (by decide)
  obtain ⟨b1, g1⟩ : ∃ z, z = h0.size := ⟨_, rfl⟩
  rw [← g1] at A1 D1 st1
  have g_b1 : n0 ≤ b1 := Nat.le_trans Z0 (Nat.le_of_eq g1.symm)
  have b_b1 : h0.size ≤ b1 := Nat.le_trans K0.1 (Nat.le_of_eq g1.symm)
  have F_all_b1 : Fld Z h1 b1 "com/example/skerry/skerry/engine/Viewer" "all" "Z" (.int (0 : Int32)) := D1 (Or.inr (tw14 hw)) (ty := .boolean) (by decide)
  have F_seat_b1 : Fld Z h1 b1 "com/example/skerry/skerry/engine/Viewer" "seat" "I" (.int (0 : Int32)) := D1 (Or.inr (tw16 hw)) (ty := .int) (by decide)
  have Zp1 : n0 ≤ h1.size := Nat.le_trans Z0 E1.1
  have K1 := K0.ext E1
  refine Wk.go (A' := T1.setTop (mkF m 21 #[iv se] [(.ref b1)])) (fun t k => st1 t k) ?_
  refine Wk.go (A' := T1.setTop (mkF m 22 #[iv se] [(.ref b1), (.ref b1)])) (fun t k => XS.dup X1.here hx rfl (hb hby d1_21) rfl rfl k) ?_
  refine Wk.go (A' := T1.setTop (mkF m 23 #[iv se] [(.int (0 : Int32)), (.ref b1), (.ref b1)])) (fun t k => XS.iconst X1.here hx rfl (hb hby d1_22) k) ?_
  refine Wk.go (A' := T1.setTop (mkF m 24 #[iv se] [(.int se), (.int (0 : Int32)), (.ref b1), (.ref b1)])) (fun t k => XS.iloadN X1.here hx rfl (hb hby d1_23) rfl k) ?_
  obtain ⟨_, _, ⟨T2, L2, k2, n2⟩, -, X2, ⟨Lc2, hQ2, l2, y2, z2⟩, st2⟩ := X1.specialBack hx (y := (⟨"com/example/skerry/skerry/engine/Viewer", "<init>", "(ZI)V"⟩ : MethodName)) rfl hown (mvT hZ (tw7 hw)) (mvT hZ (tw8 hw)) (mvT hZ (tw9 hw)) (by decide) (backOf (W := 1) (rm2 l Z a0 hw [] b1 (0 : Int32) se  h1 n0 Zp1 A1 F_all_b1 F_seat_b1 g_b1 ) hZ (tw9 hw) (tw3 hw) (by decide) (by decide)) (g := (mkF m 24 #[iv se] [(.int se), (.int (0 : Int32)), (.ref b1), (.ref b1)])) rfl (by rw [hml]; rfl) (Steps.refl _) (a := b1) (argsL := [(.int (0 : Int32)), (.int se)]) (rest := [(.ref b1)]) (lenOf pd_0 rfl) rfl (by show 2 * 0 + _ ≤ _; exact Nat.le_of_eq rfl) (hb hby d1_24) (fun _ _ => ⟨rfl, e1, (by decide : 1 + 0 ≤ _), (by decide : 2 + 0 ≤ _)⟩)
  dsimp only [Pt.U, Pt.locs, Pt.cells, Pt.slots] at X2 l2 y2 z2 st2 hQ2
  subst l2 y2 z2
  obtain ⟨rfl, N2q, Kq2, Eq2, Fq2_all, Fq2_seat⟩ := hQ2
  have N2 := Fr.app N0 N2q
  have f3 := A1.keep Kq2
  have Zp2 : n0 ≤ T2.heap.size := Nat.le_trans Zp1 Kq2.1
  have Kt2 := K1.trans Kq2 (allS (Or.inr b_b1) all0)
  refine Wk.go (A' := T2.setTop (mkF m 27 #[iv se] [(.ref b1)])) (fun t k => st2.trans k) ?_
  refine own_fin (Qv := Q1 Z se h0 n0) (v := some (.ref b1)) X2 hlk (fun h => by rw [Bd.returns] at h; cases h) (fun fs hr => retOut X2 hx (t := (.object "com/example/skerry/skerry/engine/Viewer")) Bd.returns rfl (Or.inr (Or.inr (Or.inr (Or.inr ⟨rfl, rfl, rfl⟩)))) (hb hby d1_27) hr) ?_ (by decide) (by decide)
  show Q1 Z se h0 n0 _ T2.heap _
  exact ⟨_, rfl, N2, Kt2, g_b1, b_b1, Eq2, Fq2_all, Fq2_seat⟩
theorem d4_0 : decode prog_8_method_3_code 0 = .ok (.aload_n 0, 1) := by decide +kernel
theorem d4_1 : decode prog_8_method_3_code 1 = .ok (.getfield 7, 3) := by decide +kernel
theorem d4_4 : decode prog_8_method_3_code 4 = .ok (.ifCond .ne 11, 3) := by decide +kernel
theorem d4_7 : decode prog_8_method_3_code 7 = .ok (.aload_n 0, 1) := by decide +kernel
theorem d4_8 : decode prog_8_method_3_code 8 = .ok (.getfield 13, 3) := by decide +kernel
theorem d4_11 : decode prog_8_method_3_code 11 = .ok (.iload_n 1, 1) := by decide +kernel
theorem d4_12 : decode prog_8_method_3_code 12 = .ok (.if_icmp .ne 7, 3) := by decide +kernel
theorem d4_15 : decode prog_8_method_3_code 15 = .ok (.iconst 1, 1) := by decide +kernel
theorem d4_16 : decode prog_8_method_3_code 16 = .ok (.goto 4, 3) := by decide +kernel
theorem d4_20 : decode prog_8_method_3_code 20 = .ok (.ireturn, 1) := by decide +kernel
theorem d4_19 : decode prog_8_method_3_code 19 = .ok (.iconst 0, 1) := by decide +kernel
theorem ef_4 (m : MethodId) (x0 : Addr) (x1 : Int32) : entryFrame m #[(.ref x0), (.int x1)] 2 = mkF m 0 #[rv x0, iv x1] [] := by first | (simp [entryFrame, mkF, argsToLocals, Value.category]; done) | rfl
def f_sees (ob : Addr) (qq : Int32) (wal : Int32) (wse : Int32) : Int32 := (if wal = (0 : Int32) then (if wse = qq then (1 : Int32) else (0 : Int32)) else (1 : Int32))
def Q4 (Z : State) (ob : Addr) (qq : Int32) (wal : Int32) (wse : Int32) (h0 : Heap) (n0 : Nat) (v : Option Value) (h : Heap) (L : List Loc) : Prop := v = some (.int (f_sees ob qq wal wse)) ∧ Fr n0 L ∧ h = h0
set_option maxRecDepth 65536 in
set_option maxHeartbeats 40000000 in
theorem rm4 (l : Launch) (Z : State) (a0 : Array Value) (hw : ∀ d ∈ tables_1, d.before a0 Z = true) (ws : List Jvm.Cond) (ob : Addr) (qq : Int32) (wal : Int32) (wse : Int32) (h0 : Heap) (n0 : Nat) (Z0 : n0 ≤ h0.size) (E_ob : Exa Z h0 ob "com/example/skerry/skerry/engine/Viewer") (F_all : Fld Z h0 ob "com/example/skerry/skerry/engine/Viewer" "all" "Z" (.int wal)) (F_seat : Fld Z h0 ob "com/example/skerry/skerry/engine/Viewer" "seat" "I" (.int wse)) :
    MetFree l (⟨"com/example/skerry/skerry/engine/Viewer", "sees", "(I)Z"⟩ : MethodName) (head1 (Jvm.Cond.code (⟨"com/example/skerry/skerry/engine/Viewer", "sees", "(I)Z"⟩ : MethodName) prog_8_method_3_code 2 (some .boolean) :: ws) ({ frames := 0, cells := 0, slots := 0, locals := 0 } : Room)) (fun a U => a = #[(.ref ob), (.int qq)] ∧ Z.Warmed39 U.vm ∧ U.heap = h0) (fun _ _ _ _ _ => True) (fun _ U o U' => ∃ v L, o = .returned v ∧ Q4 Z ob qq wal wse h0 n0 v U'.heap L ∧ FrameEnd U o U' L ({ frames := 0, cells := 0, slots := 0, locals := 0 } : Room).cells ({ frames := 0, cells := 0, slots := 0, locals := 0 } : Room).slots) := by
  refine MetFree.of_bodySF (plainFor_of_name pn_0) hisR ?_
  intro p e s m args below meth c s₁ Bd hml0 hP hK
  obtain ⟨rfl, hZ, hh⟩ := hP
  have hx := Bd.exec
  have hby := Bd.bytes
  have hml : c.maxLocals = 2 := hml0
  have hown : s.vm.findClass "com/example/skerry/skerry/engine/Viewer" = some m.cls := findClass_of_methodNamed Bd.named
  have hnm := (name_of_methodNamed Bd.named Bd.method).1
  have X0 : Stand p l e ({ frames := 0, cells := 0, slots := 0, locals := 0 } : Room) s m #[(.ref ob), (.int qq)] below meth c s₁ [] 0 0 := Stand.of_body Bd
  have e0 : s₁.heap = h0 := by rw [← hh, Bd.state]; rfl
  have N0 := Fr.nil n0
  have hlk : meth.locks = false := BodyLoose.notSynchronized Bd
  suffices hwk : Wk p.tables e below (s₁.setTop (mkF m 0 #[rv ob, iv qq] [])) (fun U o => U.status = .running ∧ Ended U below o ∧ ∃ v L, o = .returned v ∧ Q4 Z ob qq wal wse h0 n0 v U.heap L ∧ FrameEnd s o U L 0 0) by
    obtain ⟨U, o, k1, k2⟩ := hwk
    exact ⟨U, o, castTop (ef_4 m ob qq) k1, k2⟩
  refine Wk.go (A' := s₁.setTop (mkF m 1 #[rv ob, iv qq] [(.ref ob)])) (fun t k => XS.aloadN X0.here hx rfl (hb hby d4_0) rfl rfl k) ?_
  obtain ⟨T1, X1, e1, st1⟩ := getF X0 hx hZ hown (host := "") (Or.inl (tw13 hw)) Via.refl e0 F_all (g := (mkF m 1 #[rv ob, iv qq] [(.ref ob)])) rfl rfl (hb hby d4_1)
  refine Wk.go (A' := T1.setTop (mkF m 4 #[rv ob, iv qq] [(.int wal)])) (fun t k => st1 t k) ?_
  by_cases hc4 : wal = (0 : Int32)
  · refine Wk.go (A' := T1.setTop (mkF m 7 #[rv ob, iv qq] [])) (fun t k => XS.ifNo X1.here hx rfl (hb hby d4_4) rfl ((if0 _ _).trans (teq hc4).2) k) ?_
    refine Wk.go (A' := T1.setTop (mkF m 8 #[rv ob, iv qq] [(.ref ob)])) (fun t k => XS.aloadN X1.here hx rfl (hb hby d4_7) rfl rfl k) ?_
    obtain ⟨T2, X2, e2, st2⟩ := getF X1 hx hZ hown (host := "") (Or.inl (tw15 hw)) Via.refl e1 F_seat (g := (mkF m 8 #[rv ob, iv qq] [(.ref ob)])) rfl rfl (hb hby d4_8)
    refine Wk.go (A' := T2.setTop (mkF m 11 #[rv ob, iv qq] [(.int wse)])) (fun t k => st2 t k) ?_
    refine Wk.go (A' := T2.setTop (mkF m 12 #[rv ob, iv qq] [(.int qq), (.int wse)])) (fun t k => XS.iloadN X2.here hx rfl (hb hby d4_11) rfl k) ?_
    by_cases hc12 : wse = qq
    · refine Wk.go (A' := T2.setTop (mkF m 15 #[rv ob, iv qq] [])) (fun t k => XS.icmpNo X2.here hx rfl (hb hby d4_12) rfl (teq hc12).2 k) ?_
      refine Wk.go (A' := T2.setTop (mkF m 16 #[rv ob, iv qq] [(.int (1 : Int32))])) (fun t k => XS.iconst X2.here hx rfl (hb hby d4_15) k) ?_
      refine Wk.go (A' := T2.setTop (mkF m 20 #[rv ob, iv qq] [(.int (1 : Int32))])) (fun t k => XS.goto X2.here hx rfl (pc0 := 16) (pc' := 20) rfl (hb hby d4_16) (by decide) (by decide) k) ?_
      refine own_fin (Qv := Q4 Z ob qq wal wse h0 n0) (v := some (.int (1 : Int32))) X2 hlk (fun h => by rw [Bd.returns] at h; cases h) (fun fs hr => retN X2 hx (t := .boolean) Bd.returns (by simp) (hb hby d4_20) hr) ?_ (by decide) (by decide)
      refine ⟨?_, N0, e2⟩
      simp only [f_sees, if_pos hc4, if_pos hc12]
    · refine Wk.go (A' := T2.setTop (mkF m 19 #[rv ob, iv qq] [])) (fun t k => XS.icmpYes X2.here hx rfl (pc0 := 12) (pc' := 19) rfl (hb hby d4_12) rfl (feq hc12).2 (by decide) (by decide) k) ?_
      refine Wk.go (A' := T2.setTop (mkF m 20 #[rv ob, iv qq] [(.int (0 : Int32))])) (fun t k => XS.iconst X2.here hx rfl (hb hby d4_19) k) ?_
      refine own_fin (Qv := Q4 Z ob qq wal wse h0 n0) (v := some (.int (0 : Int32))) X2 hlk (fun h => by rw [Bd.returns] at h; cases h) (fun fs hr => retN X2 hx (t := .boolean) Bd.returns (by simp) (hb hby d4_20) hr) ?_ (by decide) (by decide)
      refine ⟨?_, N0, e2⟩
      simp only [f_sees, if_pos hc4, if_neg hc12]
  · refine Wk.go (A' := T1.setTop (mkF m 15 #[rv ob, iv qq] [])) (fun t k => XS.ifYes X1.here hx rfl (pc0 := 4) (pc' := 15) rfl (hb hby d4_4) rfl ((if0 _ _).trans (feq hc4).2) (by decide) (by decide) k) ?_
    refine Wk.go (A' := T1.setTop (mkF m 16 #[rv ob, iv qq] [(.int (1 : Int32))])) (fun t k => XS.iconst X1.here hx rfl (hb hby d4_15) k) ?_
    refine Wk.go (A' := T1.setTop (mkF m 20 #[rv ob, iv qq] [(.int (1 : Int32))])) (fun t k => XS.goto X1.here hx rfl (pc0 := 16) (pc' := 20) rfl (hb hby d4_16) (by decide) (by decide) k) ?_
    refine own_fin (Qv := Q4 Z ob qq wal wse h0 n0) (v := some (.int (1 : Int32))) X1 hlk (fun h => by rw [Bd.returns] at h; cases h) (fun fs hr => retN X1 hx (t := .boolean) Bd.returns (by simp) (hb hby d4_20) hr) ?_ (by decide) (by decide)
    refine ⟨?_, N0, e1⟩
    simp only [f_sees, if_neg hc4]
theorem own_sees (ob : Addr) (q w : Int32) : f_sees ob q (nar .boolean (0 : Int32)) w = if w = q then 1 else 0 := by
  unfold f_sees
  have e : nar .boolean (0 : Int32) = 0 := by decide
  rw [e]; simp
theorem own_rng (a : Int32) : 0 ≤ (a &&& (2147483647 : Int32)).toInt := by
  have h1 := c_mask a 2147483647 31 (by decide) (by decide)
  omega
theorem own_ne (s q : Int32) (h : s.toInt ≠ q.toInt) (ob : Addr) : f_sees ob q (nar .boolean (0 : Int32)) s = 0 := by
  rw [own_sees, if_neg]
  intro q1; rw [q1] at h; exact h rfl
theorem tw0 {Z : State} {a0 : Array Value} (hw : ∀ d ∈ tables_1, d.before a0 Z = true) : (Jvm.Cond.constant "com/example/skerry/skerry/engine/ViewerSeatPinLaw" (7 : Nat) (2147483647 : Int32)).before a0 Z = true := hw _ (List.mem_of_getElem? (i := 0) rfl)
theorem tw1 {Z : State} {a0 : Array Value} (hw : ∀ d ∈ tables_1, d.before a0 Z = true) : (Jvm.Cond.methodLink "com/example/skerry/skerry/engine/ViewerSeatPinLaw" (8 : Nat) ({ cls := "com/example/skerry/skerry/engine/Viewer", name := "seat", desc := "(I)Lcom/example/skerry/skerry/engine/Viewer;" } : Jvm.MethodName)).before a0 Z = true := hw _ (List.mem_of_getElem? (i := 1) rfl)
theorem tw4 {Z : State} {a0 : Array Value} (hw : ∀ d ∈ tables_1, d.before a0 Z = true) : (Jvm.Cond.code ({ cls := "com/example/skerry/skerry/engine/Viewer", name := "seat", desc := "(I)Lcom/example/skerry/skerry/engine/Viewer;" } : Jvm.MethodName) prog_8_method_2_code (1 : Nat) (Option.some (Jvm.ClassFile.FieldType.object "com/example/skerry/skerry/engine/Viewer"))).before a0 Z = true := hw _ (List.mem_of_getElem? (i := 4) rfl)
theorem pd_1 : parseMethodDescriptor "(I)Lcom/example/skerry/skerry/engine/Viewer;" = some ⟨[.int], some (.object "com/example/skerry/skerry/engine/Viewer")⟩ := by decide +kernel
theorem tw2 {Z : State} {a0 : Array Value} (hw : ∀ d ∈ tables_1, d.before a0 Z = true) : (Jvm.Cond.static ({ cls := "com/example/skerry/skerry/engine/Viewer", name := "seat", desc := "(I)Lcom/example/skerry/skerry/engine/Viewer;" } : Jvm.MethodName)).before a0 Z = true := hw _ (List.mem_of_getElem? (i := 2) rfl)
theorem tw17 {Z : State} {a0 : Array Value} (hw : ∀ d ∈ tables_1, d.before a0 Z = true) : (Jvm.Cond.methodLink "com/example/skerry/skerry/engine/ViewerSeatPinLaw" (14 : Nat) ({ cls := "com/example/skerry/skerry/engine/Viewer", name := "sees", desc := "(I)Z" } : Jvm.MethodName)).before a0 Z = true := hw _ (List.mem_of_getElem? (i := 17) rfl)
theorem tw21 {Z : State} {a0 : Array Value} (hw : ∀ d ∈ tables_1, d.before a0 Z = true) : (Jvm.Cond.code ({ cls := "com/example/skerry/skerry/engine/Viewer", name := "sees", desc := "(I)Z" } : Jvm.MethodName) prog_8_method_3_code (2 : Nat) (Option.some Jvm.ClassFile.FieldType.boolean)).before a0 Z = true := hw _ (List.mem_of_getElem? (i := 21) rfl)
theorem pd_2 : parseMethodDescriptor "(I)Z" = some ⟨[.int], some .boolean⟩ := by decide +kernel
theorem tw20 {Z : State} {a0 : Array Value} (hw : ∀ d ∈ tables_1, d.before a0 Z = true) : (Jvm.Cond.selects "com/example/skerry/skerry/engine/Viewer" ({ cls := "com/example/skerry/skerry/engine/Viewer", name := "sees", desc := "(I)Z" } : Jvm.MethodName) ({ cls := "com/example/skerry/skerry/engine/Viewer", name := "sees", desc := "(I)Z" } : Jvm.MethodName)).before a0 Z = true := hw _ (List.mem_of_getElem? (i := 20) rfl)
theorem tw18 {Z : State} {a0 : Array Value} (hw : ∀ d ∈ tables_1, d.before a0 Z = true) : (Jvm.Cond.declares ({ cls := "com/example/skerry/skerry/engine/Viewer", name := "sees", desc := "(I)Z" } : Jvm.MethodName)).before a0 Z = true := hw _ (List.mem_of_getElem? (i := 18) rfl)
theorem tw19 {Z : State} {a0 : Array Value} (hw : ∀ d ∈ tables_1, d.before a0 Z = true) : (Jvm.Cond.instanceMethod ({ cls := "com/example/skerry/skerry/engine/Viewer", name := "sees", desc := "(I)Z" } : Jvm.MethodName)).before a0 Z = true := hw _ (List.mem_of_getElem? (i := 19) rfl)
theorem pn_1 : plainName "com/example/skerry/skerry/engine/ViewerSeatPinLaw" = true := by first | (simp [plainName, overriddenIn]; done) | decide +kernel
theorem ef_0 (m : MethodId) (x0 : Int32) (x1 : Int32) : entryFrame m #[(.int x0), (.int x1)] maxLocals = mkF m 0 #[iv x0, iv x1, .unset, .unset, .unset, .unset, .unset, .unset, .unset] [] := by first | (simp [entryFrame, mkF, argsToLocals, Value.category, maxLocals]; done) | rfl
def Q0 (Z : State) (ax : Int32) (bx : Int32)  (h0 : Heap) (n0 : Nat) (v : Option Value) (h : Heap) (L : List Loc) : Prop := v = some (.int 1) ∧ Fr n0 L
set_option maxRecDepth 65536 in
set_option maxHeartbeats 40000000 in
theorem rm0 (l : Launch) (Z : State) (a0 : Array Value) (hw : ∀ d ∈ tables_1, d.before a0 Z = true) (ws : List Jvm.Cond) (ax : Int32) (bx : Int32)  (h0 : Heap) (n0 : Nat) (Z0 : n0 ≤ h0.size)  :
    MetFree l x (head1 (Jvm.Cond.code x code maxLocals ret :: ws) room_1) (fun a U => a = #[(.int ax), (.int bx)] ∧ Z.Warmed39 U.vm ∧ U.heap = h0) (fun _ _ _ _ _ => True) (fun _ U o U' => ∃ v L, o = .returned v ∧ Q0 Z ax bx h0 n0 v U'.heap L ∧ FrameEnd U o U' L 1 2) := by
  refine MetFree.of_bodySF (plainFor_of_name pn_1) hisR ?_
  intro p e s m args below meth c s₁ Bd hml0 hP hK
  obtain ⟨rfl, hZ, hh⟩ := hP
  have hx := Bd.exec
  have hby := Bd.bytes
  have hml : c.maxLocals = 9 := hml0
  have hown : s.vm.findClass "com/example/skerry/skerry/engine/ViewerSeatPinLaw" = some m.cls := findClass_of_methodNamed Bd.named
  have hnm := (name_of_methodNamed Bd.named Bd.method).1
  have X0 : Stand p l e room_1 s m #[(.int ax), (.int bx)] below meth c s₁ [] 0 0 := Stand.of_body Bd
  have e0 : s₁.heap = h0 := by rw [← hh, Bd.state]; rfl
  have N0 := Fr.nil n0
  have hlk : meth.locks = false := BodyLoose.notSynchronized Bd
  suffices hwk : Wk p.tables e below (s₁.setTop (mkF m 0 #[iv ax, iv bx, .unset, .unset, .unset, .unset, .unset, .unset, .unset] [])) (fun U o => U.status = .running ∧ Ended U below o ∧ ∃ v L, o = .returned v ∧ Q0 Z ax bx h0 n0 v U.heap L ∧ FrameEnd s o U L 1 2) by
    obtain ⟨U, o, k1, k2⟩ := hwk
    exact ⟨U, o, castTop (ef_0 m ax bx) k1, k2⟩
  refine Wk.go (A' := s₁.setTop (mkF m 1 #[iv ax, iv bx, .unset, .unset, .unset, .unset, .unset, .unset, .unset] [(.int ax)])) (fun t k => XS.iloadN X0.here hx rfl (hb hby at_0) rfl k) ?_
  refine Wk.go (A' := s₁.setTop (mkF m 3 #[iv ax, iv bx, .unset, .unset, .unset, .unset, .unset, .unset, .unset] [(.int (2147483647 : Int32)), (.int ax)])) (fun t k => X0.ldcInt hx hown (mvT hZ (tw0 hw)) (g := (mkF m 1 #[iv ax, iv bx, .unset, .unset, .unset, .unset, .unset, .unset, .unset] [(.int ax)])) rfl (hb hby at_1) t k) ?_
  refine Wk.go (A' := s₁.setTop (mkF m 4 #[iv ax, iv bx, .unset, .unset, .unset, .unset, .unset, .unset, .unset] [(.int (ax &&& (2147483647 : Int32)))])) (fun t k => XS.iand X0.here hx rfl (hb hby at_3) rfl k) ?_
  refine Wk.go (A' := s₁.setTop (mkF m 5 #[iv ax, iv bx, iv (ax &&& (2147483647 : Int32)), .unset, .unset, .unset, .unset, .unset, .unset] [])) (fun t k => XS.istoreN X0.here hx rfl (hb hby at_4) rfl (l' := #[iv ax, iv bx, iv (ax &&& (2147483647 : Int32)), .unset, .unset, .unset, .unset, .unset, .unset]) rfl k) ?_
  generalize hse : (ax &&& (2147483647 : Int32)) = se
  have hs0 : 0 ≤ se.toInt := by rw [← hse]; exact own_rng ax
  have hse : ¬ (se < (0 : Int32)) := by rw [Int32.lt_iff_toInt_lt]; have e : (0 : Int32).toInt = 0 := (by decide); omega
  refine Wk.go (A' := s₁.setTop (mkF m 6 #[iv ax, iv bx, iv se, .unset, .unset, .unset, .unset, .unset, .unset] [(.int se)])) (fun t k => XS.iloadN X0.here hx rfl (hb hby at_5) rfl k) ?_
  obtain ⟨_, _, ⟨T1, L1, k1, n1⟩, -, X1, ⟨Lc1, hQ1, l1, y1, z1⟩, st1⟩ := Jvm.LawKit.callS X0 hx (y := (⟨"com/example/skerry/skerry/engine/Viewer", "seat", "(I)Lcom/example/skerry/skerry/engine/Viewer;"⟩ : MethodName)) hown (mvT hZ (tw1 hw)) (mvT hZ (tw2 hw)) (mvT hZ (tw3 hw)) (mvT hZ (tw4 hw)) (by decide) (backOf (W := 0) (rm1 l Z a0 hw [] se  h0 n0 Z0 hse) hZ (tw4 hw) (tw3 hw) (by decide) (by decide)) (g := (mkF m 6 #[iv ax, iv bx, iv se, .unset, .unset, .unset, .unset, .unset, .unset] [(.int se)])) rfl (by rw [hml]; rfl) (argsL := [(.int se)]) (rest := []) (lenOf pd_1 rfl) rfl (by show 2 * 0 + _ ≤ _; exact Nat.le_of_eq rfl) (hb hby at_6) (fun _ _ => ⟨rfl, e0, (by decide : 0 + 1 ≤ _), (by decide : 0 + 2 ≤ _)⟩)
  dsimp only [Pt.U, Pt.locs, Pt.cells, Pt.slots] at X1 l1 y1 z1 st1 hQ1
  subst l1 y1 z1
  obtain ⟨b1, rfl, N1q, Kq1, g_b1, bb_b1, Eq1, Fa1, Fs1⟩ := hQ1
  have N1 := Fr.app N0 N1q
  have Zp1 : n0 ≤ T1.heap.size := Nat.le_trans Z0 Kq1.1
  refine Wk.go (A' := T1.setTop (mkF m 9 #[iv ax, iv bx, iv se, .unset, .unset, .unset, .unset, .unset, .unset] [(.ref b1)])) (fun t k => st1 t k) ?_
  refine Wk.go (A' := T1.setTop (mkF m 10 #[iv ax, iv bx, iv se, rv b1, .unset, .unset, .unset, .unset, .unset] [])) (fun t k => XS.astoreN X1.here hx rfl (hb hby at_9) rfl rfl (l' := #[iv ax, iv bx, iv se, rv b1, .unset, .unset, .unset, .unset, .unset]) rfl k) ?_
  refine Wk.go (A' := T1.setTop (mkF m 11 #[iv ax, iv bx, iv se, rv b1, .unset, .unset, .unset, .unset, .unset] [(.ref b1)])) (fun t k => XS.aloadN X1.here hx rfl (hb hby at_10) rfl rfl k) ?_
  refine Wk.go (A' := T1.setTop (mkF m 12 #[iv ax, iv bx, iv se, rv b1, .unset, .unset, .unset, .unset, .unset] [(.int se), (.ref b1)])) (fun t k => XS.iloadN X1.here hx rfl (hb hby at_11) rfl k) ?_
  obtain ⟨cq2, kq2, q2a, q2b, q2c⟩ := isOf hZ rfl Eq1
  obtain ⟨_, _, ⟨T2, L2, k2, n2⟩, -, X2, ⟨Lc2, hQ2, l2, y2, z2⟩, st2⟩ := X1.virtualBack hx (y := (⟨"com/example/skerry/skerry/engine/Viewer", "sees", "(I)Z"⟩ : MethodName)) (z := (⟨"com/example/skerry/skerry/engine/Viewer", "sees", "(I)Z"⟩ : MethodName)) hown (mvT hZ (tw17 hw)) (mvT hZ (tw18 hw)) (notFace_of_selects (args := #[]) (mvT hZ (tw20 hw))) (mvT hZ (tw20 hw)) (mvT hZ (tw19 hw)) (by decide) (backOf (W := 0) (rm4 l Z a0 hw [] b1 se (nar .boolean (0 : Int32)) se T1.heap n0 Zp1 Eq1 Fa1 Fs1 ) hZ (tw21 hw) (tw3 hw) (by decide) (by decide)) q2a q2c (g := (mkF m 12 #[iv ax, iv bx, iv se, rv b1, .unset, .unset, .unset, .unset, .unset] [(.int se), (.ref b1)])) rfl (by rw [hml]; rfl) (Steps.refl _) (argsL := [(.int se)]) (rest := []) (lenOf pd_2 rfl) rfl (by show 2 * 0 + _ ≤ _; exact Nat.le_of_eq rfl) (hb hby at_12) (fun _ _ => ⟨rfl, rfl, (by decide : 1 + 0 ≤ _), (by decide : 2 + 0 ≤ _)⟩)
  dsimp only [Pt.U, Pt.locs, Pt.cells, Pt.slots] at X2 l2 y2 z2 st2 hQ2
  subst l2 y2 z2
  obtain ⟨rfl, N2q, hE2⟩ := hQ2
  have N2 := Fr.app N1 N2q
  refine Wk.go (A' := T2.setTop (mkF m 15 #[iv ax, iv bx, iv se, rv b1, .unset, .unset, .unset, .unset, .unset] [(.int (f_sees b1 se (nar .boolean (0 : Int32)) se))])) (fun t k => st2.trans k) ?_
  refine Wk.go (A' := T2.setTop (mkF m 17 #[iv ax, iv bx, iv se, rv b1, iv (f_sees b1 se (nar .boolean (0 : Int32)) se), .unset, .unset, .unset, .unset] [])) (fun t k => XS.istore X2.here hx rfl (hb hby at_15) rfl (l' := #[iv ax, iv bx, iv se, rv b1, iv (f_sees b1 se (nar .boolean (0 : Int32)) se), .unset, .unset, .unset, .unset]) rfl k) ?_
  refine Wk.go (A' := T2.setTop (mkF m 18 #[iv ax, iv bx, iv se, rv b1, iv (f_sees b1 se (nar .boolean (0 : Int32)) se), .unset, .unset, .unset, .unset] [(.ref b1)])) (fun t k => XS.aloadN X2.here hx rfl (hb hby at_17) rfl rfl k) ?_
  refine Wk.go (A' := T2.setTop (mkF m 19 #[iv ax, iv bx, iv se, rv b1, iv (f_sees b1 se (nar .boolean (0 : Int32)) se), .unset, .unset, .unset, .unset] [(.int (-1 : Int32)), (.ref b1)])) (fun t k => XS.iconst X2.here hx rfl (hb hby at_18) k) ?_
  obtain ⟨cq3, kq3, q3a, q3b, q3c⟩ := isOf hZ (hE2) Eq1
  obtain ⟨_, _, ⟨T3, L3, k3, n3⟩, -, X3, ⟨Lc3, hQ3, l3, y3, z3⟩, st3⟩ := X2.virtualBack hx (y := (⟨"com/example/skerry/skerry/engine/Viewer", "sees", "(I)Z"⟩ : MethodName)) (z := (⟨"com/example/skerry/skerry/engine/Viewer", "sees", "(I)Z"⟩ : MethodName)) hown (mvT hZ (tw17 hw)) (mvT hZ (tw18 hw)) (notFace_of_selects (args := #[]) (mvT hZ (tw20 hw))) (mvT hZ (tw20 hw)) (mvT hZ (tw19 hw)) (by decide) (backOf (W := 0) (rm4 l Z a0 hw [] b1 (-1 : Int32) (nar .boolean (0 : Int32)) se T1.heap n0 Zp1 Eq1 Fa1 Fs1 ) hZ (tw21 hw) (tw3 hw) (by decide) (by decide)) q3a q3c (g := (mkF m 19 #[iv ax, iv bx, iv se, rv b1, iv (f_sees b1 se (nar .boolean (0 : Int32)) se), .unset, .unset, .unset, .unset] [(.int (-1 : Int32)), (.ref b1)])) rfl (by rw [hml]; rfl) (Steps.refl _) (argsL := [(.int (-1 : Int32))]) (rest := []) (lenOf pd_2 rfl) rfl (by show 2 * 0 + _ ≤ _; exact Nat.le_of_eq rfl) (hb hby at_19) (fun _ _ => ⟨rfl, (hE2), (by decide : 1 + 0 ≤ _), (by decide : 2 + 0 ≤ _)⟩)
  dsimp only [Pt.U, Pt.locs, Pt.cells, Pt.slots] at X3 l3 y3 z3 st3 hQ3
  subst l3 y3 z3
  obtain ⟨rfl, N3q, hE3⟩ := hQ3
  have N3 := Fr.app N2 N3q
  refine Wk.go (A' := T3.setTop (mkF m 22 #[iv ax, iv bx, iv se, rv b1, iv (f_sees b1 se (nar .boolean (0 : Int32)) se), .unset, .unset, .unset, .unset] [(.int (f_sees b1 (-1 : Int32) (nar .boolean (0 : Int32)) se))])) (fun t k => st3.trans k) ?_
  refine Wk.go (A' := T3.setTop (mkF m 24 #[iv ax, iv bx, iv se, rv b1, iv (f_sees b1 se (nar .boolean (0 : Int32)) se), iv (f_sees b1 (-1 : Int32) (nar .boolean (0 : Int32)) se), .unset, .unset, .unset] [])) (fun t k => XS.istore X3.here hx rfl (hb hby at_22) rfl (l' := #[iv ax, iv bx, iv se, rv b1, iv (f_sees b1 se (nar .boolean (0 : Int32)) se), iv (f_sees b1 (-1 : Int32) (nar .boolean (0 : Int32)) se), .unset, .unset, .unset]) rfl k) ?_
  refine Wk.go (A' := T3.setTop (mkF m 25 #[iv ax, iv bx, iv se, rv b1, iv (f_sees b1 se (nar .boolean (0 : Int32)) se), iv (f_sees b1 (-1 : Int32) (nar .boolean (0 : Int32)) se), .unset, .unset, .unset] [(.ref b1)])) (fun t k => XS.aloadN X3.here hx rfl (hb hby at_24) rfl rfl k) ?_
  refine Wk.go (A' := T3.setTop (mkF m 26 #[iv ax, iv bx, iv se, rv b1, iv (f_sees b1 se (nar .boolean (0 : Int32)) se), iv (f_sees b1 (-1 : Int32) (nar .boolean (0 : Int32)) se), .unset, .unset, .unset] [(.int se), (.ref b1)])) (fun t k => XS.iloadN X3.here hx rfl (hb hby at_25) rfl k) ?_
  refine Wk.go (A' := T3.setTop (mkF m 27 #[iv ax, iv bx, iv se, rv b1, iv (f_sees b1 se (nar .boolean (0 : Int32)) se), iv (f_sees b1 (-1 : Int32) (nar .boolean (0 : Int32)) se), .unset, .unset, .unset] [(.int (1 : Int32)), (.int se), (.ref b1)])) (fun t k => XS.iconst X3.here hx rfl (hb hby at_26) k) ?_
  refine Wk.go (A' := T3.setTop (mkF m 28 #[iv ax, iv bx, iv se, rv b1, iv (f_sees b1 se (nar .boolean (0 : Int32)) se), iv (f_sees b1 (-1 : Int32) (nar .boolean (0 : Int32)) se), .unset, .unset, .unset] [(.int (se + (1 : Int32))), (.ref b1)])) (fun t k => XS.iadd X3.here hx rfl (hb hby at_27) rfl k) ?_
  obtain ⟨cq4, kq4, q4a, q4b, q4c⟩ := isOf hZ (hE3) Eq1
  obtain ⟨_, _, ⟨T4, L4, k4, n4⟩, -, X4, ⟨Lc4, hQ4, l4, y4, z4⟩, st4⟩ := X3.virtualBack hx (y := (⟨"com/example/skerry/skerry/engine/Viewer", "sees", "(I)Z"⟩ : MethodName)) (z := (⟨"com/example/skerry/skerry/engine/Viewer", "sees", "(I)Z"⟩ : MethodName)) hown (mvT hZ (tw17 hw)) (mvT hZ (tw18 hw)) (notFace_of_selects (args := #[]) (mvT hZ (tw20 hw))) (mvT hZ (tw20 hw)) (mvT hZ (tw19 hw)) (by decide) (backOf (W := 0) (rm4 l Z a0 hw [] b1 (se + (1 : Int32)) (nar .boolean (0 : Int32)) se T1.heap n0 Zp1 Eq1 Fa1 Fs1 ) hZ (tw21 hw) (tw3 hw) (by decide) (by decide)) q4a q4c (g := (mkF m 28 #[iv ax, iv bx, iv se, rv b1, iv (f_sees b1 se (nar .boolean (0 : Int32)) se), iv (f_sees b1 (-1 : Int32) (nar .boolean (0 : Int32)) se), .unset, .unset, .unset] [(.int (se + (1 : Int32))), (.ref b1)])) rfl (by rw [hml]; rfl) (Steps.refl _) (argsL := [(.int (se + (1 : Int32)))]) (rest := []) (lenOf pd_2 rfl) rfl (by show 2 * 0 + _ ≤ _; exact Nat.le_of_eq rfl) (hb hby at_28) (fun _ _ => ⟨rfl, (hE3), (by decide : 1 + 0 ≤ _), (by decide : 2 + 0 ≤ _)⟩)
  dsimp only [Pt.U, Pt.locs, Pt.cells, Pt.slots] at X4 l4 y4 z4 st4 hQ4
  subst l4 y4 z4
  obtain ⟨rfl, N4q, hE4⟩ := hQ4
  have N4 := Fr.app N3 N4q
  refine Wk.go (A' := T4.setTop (mkF m 31 #[iv ax, iv bx, iv se, rv b1, iv (f_sees b1 se (nar .boolean (0 : Int32)) se), iv (f_sees b1 (-1 : Int32) (nar .boolean (0 : Int32)) se), .unset, .unset, .unset] [(.int (f_sees b1 (se + (1 : Int32)) (nar .boolean (0 : Int32)) se))])) (fun t k => st4.trans k) ?_
  refine Wk.go (A' := T4.setTop (mkF m 33 #[iv ax, iv bx, iv se, rv b1, iv (f_sees b1 se (nar .boolean (0 : Int32)) se), iv (f_sees b1 (-1 : Int32) (nar .boolean (0 : Int32)) se), iv (f_sees b1 (se + (1 : Int32)) (nar .boolean (0 : Int32)) se), .unset, .unset] [])) (fun t k => XS.istore X4.here hx rfl (hb hby at_31) rfl (l' := #[iv ax, iv bx, iv se, rv b1, iv (f_sees b1 se (nar .boolean (0 : Int32)) se), iv (f_sees b1 (-1 : Int32) (nar .boolean (0 : Int32)) se), iv (f_sees b1 (se + (1 : Int32)) (nar .boolean (0 : Int32)) se), .unset, .unset]) rfl k) ?_
  refine Wk.go (A' := T4.setTop (mkF m 34 #[iv ax, iv bx, iv se, rv b1, iv (f_sees b1 se (nar .boolean (0 : Int32)) se), iv (f_sees b1 (-1 : Int32) (nar .boolean (0 : Int32)) se), iv (f_sees b1 (se + (1 : Int32)) (nar .boolean (0 : Int32)) se), .unset, .unset] [(.ref b1)])) (fun t k => XS.aloadN X4.here hx rfl (hb hby at_33) rfl rfl k) ?_
  refine Wk.go (A' := T4.setTop (mkF m 35 #[iv ax, iv bx, iv se, rv b1, iv (f_sees b1 se (nar .boolean (0 : Int32)) se), iv (f_sees b1 (-1 : Int32) (nar .boolean (0 : Int32)) se), iv (f_sees b1 (se + (1 : Int32)) (nar .boolean (0 : Int32)) se), .unset, .unset] [(.int se), (.ref b1)])) (fun t k => XS.iloadN X4.here hx rfl (hb hby at_34) rfl k) ?_
  refine Wk.go (A' := T4.setTop (mkF m 36 #[iv ax, iv bx, iv se, rv b1, iv (f_sees b1 se (nar .boolean (0 : Int32)) se), iv (f_sees b1 (-1 : Int32) (nar .boolean (0 : Int32)) se), iv (f_sees b1 (se + (1 : Int32)) (nar .boolean (0 : Int32)) se), .unset, .unset] [(.int (1 : Int32)), (.int se), (.ref b1)])) (fun t k => XS.iconst X4.here hx rfl (hb hby at_35) k) ?_
  refine Wk.go (A' := T4.setTop (mkF m 37 #[iv ax, iv bx, iv se, rv b1, iv (f_sees b1 se (nar .boolean (0 : Int32)) se), iv (f_sees b1 (-1 : Int32) (nar .boolean (0 : Int32)) se), iv (f_sees b1 (se + (1 : Int32)) (nar .boolean (0 : Int32)) se), .unset, .unset] [(.int (se - (1 : Int32))), (.ref b1)])) (fun t k => XS.isub X4.here hx rfl (hb hby at_36) rfl k) ?_
  obtain ⟨cq5, kq5, q5a, q5b, q5c⟩ := isOf hZ (hE4) Eq1
  obtain ⟨_, _, ⟨T5, L5, k5, n5⟩, -, X5, ⟨Lc5, hQ5, l5, y5, z5⟩, st5⟩ := X4.virtualBack hx (y := (⟨"com/example/skerry/skerry/engine/Viewer", "sees", "(I)Z"⟩ : MethodName)) (z := (⟨"com/example/skerry/skerry/engine/Viewer", "sees", "(I)Z"⟩ : MethodName)) hown (mvT hZ (tw17 hw)) (mvT hZ (tw18 hw)) (notFace_of_selects (args := #[]) (mvT hZ (tw20 hw))) (mvT hZ (tw20 hw)) (mvT hZ (tw19 hw)) (by decide) (backOf (W := 0) (rm4 l Z a0 hw [] b1 (se - (1 : Int32)) (nar .boolean (0 : Int32)) se T1.heap n0 Zp1 Eq1 Fa1 Fs1 ) hZ (tw21 hw) (tw3 hw) (by decide) (by decide)) q5a q5c (g := (mkF m 37 #[iv ax, iv bx, iv se, rv b1, iv (f_sees b1 se (nar .boolean (0 : Int32)) se), iv (f_sees b1 (-1 : Int32) (nar .boolean (0 : Int32)) se), iv (f_sees b1 (se + (1 : Int32)) (nar .boolean (0 : Int32)) se), .unset, .unset] [(.int (se - (1 : Int32))), (.ref b1)])) rfl (by rw [hml]; rfl) (Steps.refl _) (argsL := [(.int (se - (1 : Int32)))]) (rest := []) (lenOf pd_2 rfl) rfl (by show 2 * 0 + _ ≤ _; exact Nat.le_of_eq rfl) (hb hby at_37) (fun _ _ => ⟨rfl, (hE4), (by decide : 1 + 0 ≤ _), (by decide : 2 + 0 ≤ _)⟩)
  dsimp only [Pt.U, Pt.locs, Pt.cells, Pt.slots] at X5 l5 y5 z5 st5 hQ5
  subst l5 y5 z5
  obtain ⟨rfl, N5q, hE5⟩ := hQ5
  have N5 := Fr.app N4 N5q
  refine Wk.go (A' := T5.setTop (mkF m 40 #[iv ax, iv bx, iv se, rv b1, iv (f_sees b1 se (nar .boolean (0 : Int32)) se), iv (f_sees b1 (-1 : Int32) (nar .boolean (0 : Int32)) se), iv (f_sees b1 (se + (1 : Int32)) (nar .boolean (0 : Int32)) se), .unset, .unset] [(.int (f_sees b1 (se - (1 : Int32)) (nar .boolean (0 : Int32)) se))])) (fun t k => st5.trans k) ?_
  refine Wk.go (A' := T5.setTop (mkF m 42 #[iv ax, iv bx, iv se, rv b1, iv (f_sees b1 se (nar .boolean (0 : Int32)) se), iv (f_sees b1 (-1 : Int32) (nar .boolean (0 : Int32)) se), iv (f_sees b1 (se + (1 : Int32)) (nar .boolean (0 : Int32)) se), iv (f_sees b1 (se - (1 : Int32)) (nar .boolean (0 : Int32)) se), .unset] [])) (fun t k => XS.istore X5.here hx rfl (hb hby at_40) rfl (l' := #[iv ax, iv bx, iv se, rv b1, iv (f_sees b1 se (nar .boolean (0 : Int32)) se), iv (f_sees b1 (-1 : Int32) (nar .boolean (0 : Int32)) se), iv (f_sees b1 (se + (1 : Int32)) (nar .boolean (0 : Int32)) se), iv (f_sees b1 (se - (1 : Int32)) (nar .boolean (0 : Int32)) se), .unset]) rfl k) ?_
  refine Wk.go (A' := T5.setTop (mkF m 43 #[iv ax, iv bx, iv se, rv b1, iv (f_sees b1 se (nar .boolean (0 : Int32)) se), iv (f_sees b1 (-1 : Int32) (nar .boolean (0 : Int32)) se), iv (f_sees b1 (se + (1 : Int32)) (nar .boolean (0 : Int32)) se), iv (f_sees b1 (se - (1 : Int32)) (nar .boolean (0 : Int32)) se), .unset] [(.ref b1)])) (fun t k => XS.aloadN X5.here hx rfl (hb hby at_42) rfl rfl k) ?_
  refine Wk.go (A' := T5.setTop (mkF m 44 #[iv ax, iv bx, iv se, rv b1, iv (f_sees b1 se (nar .boolean (0 : Int32)) se), iv (f_sees b1 (-1 : Int32) (nar .boolean (0 : Int32)) se), iv (f_sees b1 (se + (1 : Int32)) (nar .boolean (0 : Int32)) se), iv (f_sees b1 (se - (1 : Int32)) (nar .boolean (0 : Int32)) se), .unset] [(.int bx), (.ref b1)])) (fun t k => XS.iloadN X5.here hx rfl (hb hby at_43) rfl k) ?_
  obtain ⟨cq6, kq6, q6a, q6b, q6c⟩ := isOf hZ (hE5) Eq1
  obtain ⟨_, _, ⟨T6, L6, k6, n6⟩, -, X6, ⟨Lc6, hQ6, l6, y6, z6⟩, st6⟩ := X5.virtualBack hx (y := (⟨"com/example/skerry/skerry/engine/Viewer", "sees", "(I)Z"⟩ : MethodName)) (z := (⟨"com/example/skerry/skerry/engine/Viewer", "sees", "(I)Z"⟩ : MethodName)) hown (mvT hZ (tw17 hw)) (mvT hZ (tw18 hw)) (notFace_of_selects (args := #[]) (mvT hZ (tw20 hw))) (mvT hZ (tw20 hw)) (mvT hZ (tw19 hw)) (by decide) (backOf (W := 0) (rm4 l Z a0 hw [] b1 bx (nar .boolean (0 : Int32)) se T1.heap n0 Zp1 Eq1 Fa1 Fs1 ) hZ (tw21 hw) (tw3 hw) (by decide) (by decide)) q6a q6c (g := (mkF m 44 #[iv ax, iv bx, iv se, rv b1, iv (f_sees b1 se (nar .boolean (0 : Int32)) se), iv (f_sees b1 (-1 : Int32) (nar .boolean (0 : Int32)) se), iv (f_sees b1 (se + (1 : Int32)) (nar .boolean (0 : Int32)) se), iv (f_sees b1 (se - (1 : Int32)) (nar .boolean (0 : Int32)) se), .unset] [(.int bx), (.ref b1)])) rfl (by rw [hml]; rfl) (Steps.refl _) (argsL := [(.int bx)]) (rest := []) (lenOf pd_2 rfl) rfl (by show 2 * 0 + _ ≤ _; exact Nat.le_of_eq rfl) (hb hby at_44) (fun _ _ => ⟨rfl, (hE5), (by decide : 1 + 0 ≤ _), (by decide : 2 + 0 ≤ _)⟩)
  dsimp only [Pt.U, Pt.locs, Pt.cells, Pt.slots] at X6 l6 y6 z6 st6 hQ6
  subst l6 y6 z6
  obtain ⟨rfl, N6q, hE6⟩ := hQ6
  have N6 := Fr.app N5 N6q
  refine Wk.go (A' := T6.setTop (mkF m 47 #[iv ax, iv bx, iv se, rv b1, iv (f_sees b1 se (nar .boolean (0 : Int32)) se), iv (f_sees b1 (-1 : Int32) (nar .boolean (0 : Int32)) se), iv (f_sees b1 (se + (1 : Int32)) (nar .boolean (0 : Int32)) se), iv (f_sees b1 (se - (1 : Int32)) (nar .boolean (0 : Int32)) se), .unset] [(.int (f_sees b1 bx (nar .boolean (0 : Int32)) se))])) (fun t k => st6.trans k) ?_
  refine Wk.go (A' := T6.setTop (mkF m 49 #[iv ax, iv bx, iv se, rv b1, iv (f_sees b1 se (nar .boolean (0 : Int32)) se), iv (f_sees b1 (-1 : Int32) (nar .boolean (0 : Int32)) se), iv (f_sees b1 (se + (1 : Int32)) (nar .boolean (0 : Int32)) se), iv (f_sees b1 (se - (1 : Int32)) (nar .boolean (0 : Int32)) se), iv (f_sees b1 bx (nar .boolean (0 : Int32)) se)] [])) (fun t k => XS.istore X6.here hx rfl (hb hby at_47) rfl (l' := #[iv ax, iv bx, iv se, rv b1, iv (f_sees b1 se (nar .boolean (0 : Int32)) se), iv (f_sees b1 (-1 : Int32) (nar .boolean (0 : Int32)) se), iv (f_sees b1 (se + (1 : Int32)) (nar .boolean (0 : Int32)) se), iv (f_sees b1 (se - (1 : Int32)) (nar .boolean (0 : Int32)) se), iv (f_sees b1 bx (nar .boolean (0 : Int32)) se)]) rfl k) ?_
  refine Wk.go (A' := T6.setTop (mkF m 51 #[iv ax, iv bx, iv se, rv b1, iv (f_sees b1 se (nar .boolean (0 : Int32)) se), iv (f_sees b1 (-1 : Int32) (nar .boolean (0 : Int32)) se), iv (f_sees b1 (se + (1 : Int32)) (nar .boolean (0 : Int32)) se), iv (f_sees b1 (se - (1 : Int32)) (nar .boolean (0 : Int32)) se), iv (f_sees b1 bx (nar .boolean (0 : Int32)) se)] [(.int (f_sees b1 se (nar .boolean (0 : Int32)) se))])) (fun t k => XS.iload X6.here hx rfl (hb hby at_49) rfl k) ?_
  have hc51 : ¬ ((f_sees b1 se (nar .boolean (0 : Int32)) se) = (0 : Int32)) := by rw [own_sees, if_pos rfl]; decide
  refine Wk.go (A' := T6.setTop (mkF m 54 #[iv ax, iv bx, iv se, rv b1, iv (f_sees b1 se (nar .boolean (0 : Int32)) se), iv (f_sees b1 (-1 : Int32) (nar .boolean (0 : Int32)) se), iv (f_sees b1 (se + (1 : Int32)) (nar .boolean (0 : Int32)) se), iv (f_sees b1 (se - (1 : Int32)) (nar .boolean (0 : Int32)) se), iv (f_sees b1 bx (nar .boolean (0 : Int32)) se)] [])) (fun t k => XS.ifNo X6.here hx rfl (hb hby at_51) rfl ((if0 _ _).trans (feq hc51).1) k) ?_
  refine Wk.go (A' := T6.setTop (mkF m 56 #[iv ax, iv bx, iv se, rv b1, iv (f_sees b1 se (nar .boolean (0 : Int32)) se), iv (f_sees b1 (-1 : Int32) (nar .boolean (0 : Int32)) se), iv (f_sees b1 (se + (1 : Int32)) (nar .boolean (0 : Int32)) se), iv (f_sees b1 (se - (1 : Int32)) (nar .boolean (0 : Int32)) se), iv (f_sees b1 bx (nar .boolean (0 : Int32)) se)] [(.int (f_sees b1 (-1 : Int32) (nar .boolean (0 : Int32)) se))])) (fun t k => XS.iload X6.here hx rfl (hb hby at_54) rfl k) ?_
  have hc56 : (f_sees b1 (-1 : Int32) (nar .boolean (0 : Int32)) se) = (0 : Int32) := own_ne se _ (by have e : (-1 : Int32).toInt = -1 := (by decide); omega) _
  refine Wk.go (A' := T6.setTop (mkF m 59 #[iv ax, iv bx, iv se, rv b1, iv (f_sees b1 se (nar .boolean (0 : Int32)) se), iv (f_sees b1 (-1 : Int32) (nar .boolean (0 : Int32)) se), iv (f_sees b1 (se + (1 : Int32)) (nar .boolean (0 : Int32)) se), iv (f_sees b1 (se - (1 : Int32)) (nar .boolean (0 : Int32)) se), iv (f_sees b1 bx (nar .boolean (0 : Int32)) se)] [])) (fun t k => XS.ifNo X6.here hx rfl (hb hby at_56) rfl ((if0 _ _).trans (teq hc56).2) k) ?_
  refine Wk.go (A' := T6.setTop (mkF m 61 #[iv ax, iv bx, iv se, rv b1, iv (f_sees b1 se (nar .boolean (0 : Int32)) se), iv (f_sees b1 (-1 : Int32) (nar .boolean (0 : Int32)) se), iv (f_sees b1 (se + (1 : Int32)) (nar .boolean (0 : Int32)) se), iv (f_sees b1 (se - (1 : Int32)) (nar .boolean (0 : Int32)) se), iv (f_sees b1 bx (nar .boolean (0 : Int32)) se)] [(.int (f_sees b1 (se + (1 : Int32)) (nar .boolean (0 : Int32)) se))])) (fun t k => XS.iload X6.here hx rfl (hb hby at_59) rfl k) ?_
  have hc61 : (f_sees b1 (se + (1 : Int32)) (nar .boolean (0 : Int32)) se) = (0 : Int32) := own_ne se _ (by have e := c_iadd se 1; have e1 : (1 : Int32).toInt = 1 := (by decide); have r := rng32 (se + 1); have r2 := rng32 se; omega) _
  refine Wk.go (A' := T6.setTop (mkF m 64 #[iv ax, iv bx, iv se, rv b1, iv (f_sees b1 se (nar .boolean (0 : Int32)) se), iv (f_sees b1 (-1 : Int32) (nar .boolean (0 : Int32)) se), iv (f_sees b1 (se + (1 : Int32)) (nar .boolean (0 : Int32)) se), iv (f_sees b1 (se - (1 : Int32)) (nar .boolean (0 : Int32)) se), iv (f_sees b1 bx (nar .boolean (0 : Int32)) se)] [])) (fun t k => XS.ifNo X6.here hx rfl (hb hby at_61) rfl ((if0 _ _).trans (teq hc61).2) k) ?_
  refine Wk.go (A' := T6.setTop (mkF m 66 #[iv ax, iv bx, iv se, rv b1, iv (f_sees b1 se (nar .boolean (0 : Int32)) se), iv (f_sees b1 (-1 : Int32) (nar .boolean (0 : Int32)) se), iv (f_sees b1 (se + (1 : Int32)) (nar .boolean (0 : Int32)) se), iv (f_sees b1 (se - (1 : Int32)) (nar .boolean (0 : Int32)) se), iv (f_sees b1 bx (nar .boolean (0 : Int32)) se)] [(.int (f_sees b1 (se - (1 : Int32)) (nar .boolean (0 : Int32)) se))])) (fun t k => XS.iload X6.here hx rfl (hb hby at_64) rfl k) ?_
  have hc66 : (f_sees b1 (se - (1 : Int32)) (nar .boolean (0 : Int32)) se) = (0 : Int32) := own_ne se _ (by have e := c_isub se 1; have e1 : (1 : Int32).toInt = 1 := (by decide); have r := rng32 (se - 1); have r2 := rng32 se; omega) _
  refine Wk.go (A' := T6.setTop (mkF m 69 #[iv ax, iv bx, iv se, rv b1, iv (f_sees b1 se (nar .boolean (0 : Int32)) se), iv (f_sees b1 (-1 : Int32) (nar .boolean (0 : Int32)) se), iv (f_sees b1 (se + (1 : Int32)) (nar .boolean (0 : Int32)) se), iv (f_sees b1 (se - (1 : Int32)) (nar .boolean (0 : Int32)) se), iv (f_sees b1 bx (nar .boolean (0 : Int32)) se)] [])) (fun t k => XS.ifNo X6.here hx rfl (hb hby at_66) rfl ((if0 _ _).trans (teq hc66).2) k) ?_
  refine Wk.go (A' := T6.setTop (mkF m 71 #[iv ax, iv bx, iv se, rv b1, iv (f_sees b1 se (nar .boolean (0 : Int32)) se), iv (f_sees b1 (-1 : Int32) (nar .boolean (0 : Int32)) se), iv (f_sees b1 (se + (1 : Int32)) (nar .boolean (0 : Int32)) se), iv (f_sees b1 (se - (1 : Int32)) (nar .boolean (0 : Int32)) se), iv (f_sees b1 bx (nar .boolean (0 : Int32)) se)] [(.int (f_sees b1 bx (nar .boolean (0 : Int32)) se))])) (fun t k => XS.iload X6.here hx rfl (hb hby at_69) rfl k) ?_
  refine Wk.go (A' := T6.setTop (mkF m 72 #[iv ax, iv bx, iv se, rv b1, iv (f_sees b1 se (nar .boolean (0 : Int32)) se), iv (f_sees b1 (-1 : Int32) (nar .boolean (0 : Int32)) se), iv (f_sees b1 (se + (1 : Int32)) (nar .boolean (0 : Int32)) se), iv (f_sees b1 (se - (1 : Int32)) (nar .boolean (0 : Int32)) se), iv (f_sees b1 bx (nar .boolean (0 : Int32)) se)] [(.int bx), (.int (f_sees b1 bx (nar .boolean (0 : Int32)) se))])) (fun t k => XS.iloadN X6.here hx rfl (hb hby at_71) rfl k) ?_
  refine Wk.go (A' := T6.setTop (mkF m 73 #[iv ax, iv bx, iv se, rv b1, iv (f_sees b1 se (nar .boolean (0 : Int32)) se), iv (f_sees b1 (-1 : Int32) (nar .boolean (0 : Int32)) se), iv (f_sees b1 (se + (1 : Int32)) (nar .boolean (0 : Int32)) se), iv (f_sees b1 (se - (1 : Int32)) (nar .boolean (0 : Int32)) se), iv (f_sees b1 bx (nar .boolean (0 : Int32)) se)] [(.int se), (.int bx), (.int (f_sees b1 bx (nar .boolean (0 : Int32)) se))])) (fun t k => XS.iloadN X6.here hx rfl (hb hby at_72) rfl k) ?_
  by_cases hc73 : bx = se
  · refine Wk.go (A' := T6.setTop (mkF m 76 #[iv ax, iv bx, iv se, rv b1, iv (f_sees b1 se (nar .boolean (0 : Int32)) se), iv (f_sees b1 (-1 : Int32) (nar .boolean (0 : Int32)) se), iv (f_sees b1 (se + (1 : Int32)) (nar .boolean (0 : Int32)) se), iv (f_sees b1 (se - (1 : Int32)) (nar .boolean (0 : Int32)) se), iv (f_sees b1 bx (nar .boolean (0 : Int32)) se)] [(.int (f_sees b1 bx (nar .boolean (0 : Int32)) se))])) (fun t k => XS.icmpNo X6.here hx rfl (hb hby at_73) rfl (teq hc73).2 k) ?_
    refine Wk.go (A' := T6.setTop (mkF m 77 #[iv ax, iv bx, iv se, rv b1, iv (f_sees b1 se (nar .boolean (0 : Int32)) se), iv (f_sees b1 (-1 : Int32) (nar .boolean (0 : Int32)) se), iv (f_sees b1 (se + (1 : Int32)) (nar .boolean (0 : Int32)) se), iv (f_sees b1 (se - (1 : Int32)) (nar .boolean (0 : Int32)) se), iv (f_sees b1 bx (nar .boolean (0 : Int32)) se)] [(.int (1 : Int32)), (.int (f_sees b1 bx (nar .boolean (0 : Int32)) se))])) (fun t k => XS.iconst X6.here hx rfl (hb hby at_76) k) ?_
    refine Wk.go (A' := T6.setTop (mkF m 81 #[iv ax, iv bx, iv se, rv b1, iv (f_sees b1 se (nar .boolean (0 : Int32)) se), iv (f_sees b1 (-1 : Int32) (nar .boolean (0 : Int32)) se), iv (f_sees b1 (se + (1 : Int32)) (nar .boolean (0 : Int32)) se), iv (f_sees b1 (se - (1 : Int32)) (nar .boolean (0 : Int32)) se), iv (f_sees b1 bx (nar .boolean (0 : Int32)) se)] [(.int (1 : Int32)), (.int (f_sees b1 bx (nar .boolean (0 : Int32)) se))])) (fun t k => XS.goto X6.here hx rfl (pc0 := 77) (pc' := 81) rfl (hb hby at_77) (by decide) (by decide) k) ?_
    have hc81 : (f_sees b1 bx (nar .boolean (0 : Int32)) se) = (1 : Int32) := by rw [own_sees]; simp only [if_pos hc73.symm]
    refine Wk.go (A' := T6.setTop (mkF m 84 #[iv ax, iv bx, iv se, rv b1, iv (f_sees b1 se (nar .boolean (0 : Int32)) se), iv (f_sees b1 (-1 : Int32) (nar .boolean (0 : Int32)) se), iv (f_sees b1 (se + (1 : Int32)) (nar .boolean (0 : Int32)) se), iv (f_sees b1 (se - (1 : Int32)) (nar .boolean (0 : Int32)) se), iv (f_sees b1 bx (nar .boolean (0 : Int32)) se)] [])) (fun t k => XS.icmpNo X6.here hx rfl (hb hby at_81) rfl (teq hc81).2 k) ?_
    refine Wk.go (A' := T6.setTop (mkF m 85 #[iv ax, iv bx, iv se, rv b1, iv (f_sees b1 se (nar .boolean (0 : Int32)) se), iv (f_sees b1 (-1 : Int32) (nar .boolean (0 : Int32)) se), iv (f_sees b1 (se + (1 : Int32)) (nar .boolean (0 : Int32)) se), iv (f_sees b1 (se - (1 : Int32)) (nar .boolean (0 : Int32)) se), iv (f_sees b1 bx (nar .boolean (0 : Int32)) se)] [(.int (1 : Int32))])) (fun t k => XS.iconst X6.here hx rfl (hb hby at_84) k) ?_
    refine Wk.go (A' := T6.setTop (mkF m 89 #[iv ax, iv bx, iv se, rv b1, iv (f_sees b1 se (nar .boolean (0 : Int32)) se), iv (f_sees b1 (-1 : Int32) (nar .boolean (0 : Int32)) se), iv (f_sees b1 (se + (1 : Int32)) (nar .boolean (0 : Int32)) se), iv (f_sees b1 (se - (1 : Int32)) (nar .boolean (0 : Int32)) se), iv (f_sees b1 bx (nar .boolean (0 : Int32)) se)] [(.int (1 : Int32))])) (fun t k => XS.goto X6.here hx rfl (pc0 := 85) (pc' := 89) rfl (hb hby at_85) (by decide) (by decide) k) ?_
    refine own_fin (Qv := Q0 Z ax bx h0 n0) (v := some (.int (1 : Int32))) X6 hlk (fun h => by rw [Bd.returns] at h; cases h) (fun fs hr => retN X6 hx (t := .boolean) Bd.returns (by simp) (hb hby at_89) hr) ?_ (by decide) (by decide)
    exact ⟨rfl, N6⟩
  · refine Wk.go (A' := T6.setTop (mkF m 80 #[iv ax, iv bx, iv se, rv b1, iv (f_sees b1 se (nar .boolean (0 : Int32)) se), iv (f_sees b1 (-1 : Int32) (nar .boolean (0 : Int32)) se), iv (f_sees b1 (se + (1 : Int32)) (nar .boolean (0 : Int32)) se), iv (f_sees b1 (se - (1 : Int32)) (nar .boolean (0 : Int32)) se), iv (f_sees b1 bx (nar .boolean (0 : Int32)) se)] [(.int (f_sees b1 bx (nar .boolean (0 : Int32)) se))])) (fun t k => XS.icmpYes X6.here hx rfl (pc0 := 73) (pc' := 80) rfl (hb hby at_73) rfl (feq hc73).2 (by decide) (by decide) k) ?_
    refine Wk.go (A' := T6.setTop (mkF m 81 #[iv ax, iv bx, iv se, rv b1, iv (f_sees b1 se (nar .boolean (0 : Int32)) se), iv (f_sees b1 (-1 : Int32) (nar .boolean (0 : Int32)) se), iv (f_sees b1 (se + (1 : Int32)) (nar .boolean (0 : Int32)) se), iv (f_sees b1 (se - (1 : Int32)) (nar .boolean (0 : Int32)) se), iv (f_sees b1 bx (nar .boolean (0 : Int32)) se)] [(.int (0 : Int32)), (.int (f_sees b1 bx (nar .boolean (0 : Int32)) se))])) (fun t k => XS.iconst X6.here hx rfl (hb hby at_80) k) ?_
    have hc81 : (f_sees b1 bx (nar .boolean (0 : Int32)) se) = (0 : Int32) := by rw [own_sees]; simp only [if_neg (Ne.symm hc73)]
    refine Wk.go (A' := T6.setTop (mkF m 84 #[iv ax, iv bx, iv se, rv b1, iv (f_sees b1 se (nar .boolean (0 : Int32)) se), iv (f_sees b1 (-1 : Int32) (nar .boolean (0 : Int32)) se), iv (f_sees b1 (se + (1 : Int32)) (nar .boolean (0 : Int32)) se), iv (f_sees b1 (se - (1 : Int32)) (nar .boolean (0 : Int32)) se), iv (f_sees b1 bx (nar .boolean (0 : Int32)) se)] [])) (fun t k => XS.icmpNo X6.here hx rfl (hb hby at_81) rfl (teq hc81).2 k) ?_
    refine Wk.go (A' := T6.setTop (mkF m 85 #[iv ax, iv bx, iv se, rv b1, iv (f_sees b1 se (nar .boolean (0 : Int32)) se), iv (f_sees b1 (-1 : Int32) (nar .boolean (0 : Int32)) se), iv (f_sees b1 (se + (1 : Int32)) (nar .boolean (0 : Int32)) se), iv (f_sees b1 (se - (1 : Int32)) (nar .boolean (0 : Int32)) se), iv (f_sees b1 bx (nar .boolean (0 : Int32)) se)] [(.int (1 : Int32))])) (fun t k => XS.iconst X6.here hx rfl (hb hby at_84) k) ?_
    refine Wk.go (A' := T6.setTop (mkF m 89 #[iv ax, iv bx, iv se, rv b1, iv (f_sees b1 se (nar .boolean (0 : Int32)) se), iv (f_sees b1 (-1 : Int32) (nar .boolean (0 : Int32)) se), iv (f_sees b1 (se + (1 : Int32)) (nar .boolean (0 : Int32)) se), iv (f_sees b1 (se - (1 : Int32)) (nar .boolean (0 : Int32)) se), iv (f_sees b1 bx (nar .boolean (0 : Int32)) se)] [(.int (1 : Int32))])) (fun t k => XS.goto X6.here hx rfl (pc0 := 85) (pc' := 89) rfl (hb hby at_85) (by decide) (by decide) k) ?_
    refine own_fin (Qv := Q0 Z ax bx h0 n0) (v := some (.int (1 : Int32))) X6 hlk (fun h => by rw [Bd.returns] at h; cases h) (fun fs hr => retN X6 hx (t := .boolean) Bd.returns (by simp) (hb hby at_89) hr) ?_ (by decide) (by decide)
    exact ⟨rfl, N6⟩
set_option maxRecDepth 65536 in
set_option maxHeartbeats 40000000 in
theorem comes_1 {Post : Tables → Env → Array Value → State → Outcome → State → Prop} (hpost : ∀ tb e args s v u, (limb_1_1.after args s (.returned v) u = true ∧ limb_1_2.after args s (.returned v) u = true ∧ True) → FrameEnd s (.returned v) u (Jvm.fieldLocs frame_1_writes args s ++ Jvm.arrayLocs frame_1_arrays args s ++ Jvm.staticLocs frame_1_statics s) 16 128 → Post tb e args s (.returned v) u) :
    ArmFor flags0 classFile x code maxLocals ret World_1 tables_1 room_1 Calls_1 rest_1 Pre_1 Post := by
  intro l hfl _ _ p e ha hc hk s m args below hf hA hF happ hP
  obtain ⟨hcalls, hrest, hpre⟩ := hP
  obtain ⟨-, -, -, hnamed, -, -, -, hat⟩ := (Spec.applies_iff hf).mp happ
  obtain ⟨hg, hn⟩ := and_e (Cond.before_iff.mp (show (Jvm.Cond.and given_1 narrow_1).before args s = true from hpre))
  obtain ⟨hcnt, g0⟩ := and_e hg
  obtain ⟨ga0, g1⟩ := and_e g0
  obtain ⟨w0, w1, rfl⟩ : ∃ w0 w1 : Value, args = #[w0, w1] := by
    have hs : args.size = 2 := by simpa [Cond.value, given_1] using hcnt
    obtain ⟨L⟩ := args
    match L, hs with
    | [w0, w1], _ => exact ⟨w0, w1, rfl⟩
  have hw := fun d (hd : d ∈ tables_1) => atoms_spec (ws := Jvm.Cond.code x code maxLocals ret :: tables_1) hat d (List.mem_cons_of_mem _ hd)
  obtain ⟨i0, ei0⟩ := is_v ga0
  obtain rfl : w0 = (.int i0) := Option.some.inj ei0
  obtain ⟨i1, ei1⟩ := is_v g1
  obtain rfl : w1 = (.int i1) := Option.some.inj ei1
  obtain ⟨n, o, h1, h2, h3, _, L, rfl, ⟨rfl, N⟩, hq⟩ := rm0 l s _ hw tables_1 i0 i1  s.heap s.heap.size (Nat.le_refl _)  p e ha hc hk s m _ below hf ((Spec.applies_iff_loose hf).mp happ).1 ⟨rfl, State.Warmed39.refl s, rfl⟩ trivial
  refine ⟨n, _, h1, h2, h3, hpost _ _ _ _ _ _ ⟨Cond.after_iff.mpr rfl, Cond.after_iff.mpr (eq_i res_at (Term.int_eval (1)) rfl), trivial⟩ ⟨hq.1, hq.2.1, (hq.2.2.sift fun y hy => Or.inr (N y hy)).mono (by decide) (by decide)⟩⟩
theorem main_1_1 : Claimed_1_1 := comes_1 fun _ _ _ _ _ _ h hF => ⟨h.1, hF⟩
theorem main_1_2 : Claimed_1_2 := comes_1 fun _ _ _ _ _ _ h hF => ⟨h.2.1, hF⟩
end Jvm.Pilot.@@N@@
namespace Jvm.Pilot.@@N@@
open Jvm Jvm.ClassFile Sem Op Lib Jvm.Free Jvm.Stand Jvm.Pilot.@@N@@.Jvm.D
/-! MADE BY PROGRAM (witnessworld.py) out of the Statement's table words and the real class files: 9 classes; the members and pool entries that the words name. The judged class is class 1, her method 1. -/
namespace start1
open Jvm.ClassFile
def u (s : String) : CpInfo := .utf8 (stringToUtf16 s)
/-- a pool by its gaps: so many unusable entries, then the entry; so many at the end -/
def gap : Nat → List CpInfo → List CpInfo
  | 0, r => r
  | n + 1, r => .unusable :: gap n r
def poolList (es : List (Nat × CpInfo)) (last : Nat) : List CpInfo := es.foldr (fun e r => gap e.1 (e.2 :: r)) (gap last [])
def pool (es : List (Nat × CpInfo)) (last : Nat) : Array CpInfo := ⟨poolList es last⟩
def fileOf (pool : Array CpInfo) (this : Nat) (attrs : Array Attribute := #[]) (ms : Array MethodInfo := #[]) (fl : Nat := 33) (sup : Nat := 0) (ifs : Array Nat := #[]) (fds : Array FieldInfo := #[]) : ClassFile where
  minorVersion := 0
  majorVersion := 65
  constantPool := pool
  accessFlags := fl
  thisClass := this
  superClass := sup
  interfaces := ifs
  fields := fds
  methods := ms
  attributes := attrs
def plain (name : String) (sup : Option ClassId) : Class where
  name := name
  kind := .ordinary
  loader := none
  accessFlags := 33
  super := sup
  interfaces := #[]
  cf := none
  fields := #[]
  methods := #[]
  instanceTypes := #[]
  staticTypes := #[]
  resolved := #[]
  callSites := []
  init := .initialized
  statics := none
  mirror := none

def pool0 : Array CpInfo := pool [(5, u "<init>"), (0, u "()V"), (1, .class_ 10), (1, u "java/lang/Object")] 113

def k0c0 : Code := { maxStack := 0, maxLocals := 1, code := object_method_1_code, exceptionTable := #[], attributes := #[] }
def k0m0 : Method := { name := "<init>", desc := "()V", sig := { parameters := [], returnType := none }, accessFlags := 1, code := some k0c0 }
/-- java/lang/Object -/
def k0 : Class := { plain "java/lang/Object" none with
  accessFlags := 33
  interfaces := #[]
  cf := some (fileOf pool0 8 #[] #[{ accessFlags := 1, nameIndex := 5, descriptorIndex := 6, attributes := #[] }] 33 0 #[] #[])
  fields := #[]
  methods := #[k0m0]
  instanceTypes := #[]
  staticTypes := #[]
  resolved := Array.replicate 124 none
  statics := none }

def pool1 : Array CpInfo := pool [(2, .class_ 4), (1, u "java/lang/Object"), (0, u "<init>"), (0, u "()V"), (0, .integer 2147483647), (0, .methodref 9 10), (0, .class_ 11), (0, .nameAndType 12 13), (0, u "com/example/skerry/skerry/engine/Viewer"), (0, u "seat"), (0, u "(I)Lcom/example/skerry/skerry/engine/Viewer;"), (0, .methodref 9 15), (0, .nameAndType 16 17), (0, u "sees"), (0, u "(I)Z"), (0, .class_ 19), (0, u "com/example/skerry/skerry/engine/ViewerSeatPinLaw"), (2, u "law"), (0, u "(II)Z")] 3

def k1m0 : Method := { name := "<init>", desc := "()V", sig := { parameters := [], returnType := none }, accessFlags := 1, code := none }
def k1c1 : Code := { maxStack := 3, maxLocals := 9, code := code, exceptionTable := #[], attributes := #[] }
def k1m1 : Method := { name := "law", desc := "(II)Z", sig := { parameters := [.int, .int], returnType := some .boolean }, accessFlags := 9, code := some k1c1 }
/-- com/example/skerry/skerry/engine/ViewerSeatPinLaw -/
def k1 : Class := { plain "com/example/skerry/skerry/engine/ViewerSeatPinLaw" (some 0) with
  accessFlags := 49
  interfaces := #[]
  cf := some (fileOf pool1 18 #[] #[{ accessFlags := 1, nameIndex := 5, descriptorIndex := 6, attributes := #[] }, { accessFlags := 9, nameIndex := 22, descriptorIndex := 23, attributes := #[] }] 49 2 #[] #[])
  fields := #[]
  methods := #[k1m0, k1m1]
  instanceTypes := #[]
  staticTypes := #[]
  resolved := Array.replicate 27 none
  statics := none }

def pool2 : Array CpInfo := pool [(1, .methodref 2 3), (0, .class_ 4), (0, .nameAndType 5 6), (0, u "java/lang/Object"), (0, u "<init>"), (0, u "()V"), (0, .fieldref 8 9), (0, .class_ 10), (0, .nameAndType 11 12), (0, u "com/example/skerry/skerry/engine/Viewer"), (0, u "all"), (0, u "Z"), (0, .fieldref 8 14), (0, .nameAndType 15 16), (0, u "seat"), (0, u "I"), (9, .methodref 8 27), (0, .nameAndType 5 28), (0, u "(ZI)V"), (2, u "EVERYONE"), (0, u "Lcom/example/skerry/skerry/engine/Viewer;"), (2, u "SPECTATOR"), (2, u "(I)Lcom/example/skerry/skerry/engine/Viewer;"), (1, u "sees"), (0, u "(I)Z")] 18

def k2c0 : Code := { maxStack := 2, maxLocals := 3, code := prog_8_method_1_code, exceptionTable := #[], attributes := #[] }
def k2m0 : Method := { name := "<init>", desc := "(ZI)V", sig := { parameters := [.boolean, .int], returnType := none }, accessFlags := 2, code := some k2c0 }
def k2c1 : Code := { maxStack := 4, maxLocals := 1, code := prog_8_method_2_code, exceptionTable := #[], attributes := #[] }
def k2m1 : Method := { name := "seat", desc := "(I)Lcom/example/skerry/skerry/engine/Viewer;", sig := { parameters := [.int], returnType := some (.object "com/example/skerry/skerry/engine/Viewer") }, accessFlags := 9, code := some k2c1 }
def k2c2 : Code := { maxStack := 2, maxLocals := 2, code := prog_8_method_3_code, exceptionTable := #[], attributes := #[] }
def k2m2 : Method := { name := "sees", desc := "(I)Z", sig := { parameters := [.int], returnType := some .boolean }, accessFlags := 1, code := some k2c2 }
/-- com/example/skerry/skerry/engine/Viewer -/
def k2 : Class := { plain "com/example/skerry/skerry/engine/Viewer" (some 0) with
  accessFlags := 49
  interfaces := #[]
  cf := some (fileOf pool2 8 #[] #[{ accessFlags := 2, nameIndex := 5, descriptorIndex := 28, attributes := #[] }, { accessFlags := 9, nameIndex := 15, descriptorIndex := 38, attributes := #[] }, { accessFlags := 1, nameIndex := 40, descriptorIndex := 41, attributes := #[] }] 49 2 #[] #[{ accessFlags := 25, nameIndex := 31, descriptorIndex := 32, attributes := #[] }, { accessFlags := 25, nameIndex := 35, descriptorIndex := 32, attributes := #[] }, { accessFlags := 18, nameIndex := 11, descriptorIndex := 12, attributes := #[] }, { accessFlags := 18, nameIndex := 15, descriptorIndex := 16, attributes := #[] }])
  fields := #[{ name := "EVERYONE", type := (.object "com/example/skerry/skerry/engine/Viewer"), accessFlags := 25, slot := 0, constantValue := 0 }, { name := "SPECTATOR", type := (.object "com/example/skerry/skerry/engine/Viewer"), accessFlags := 25, slot := 1, constantValue := 0 }, { name := "all", type := .boolean, accessFlags := 18, slot := 0, constantValue := 0 }, { name := "seat", type := .int, accessFlags := 18, slot := 1, constantValue := 0 }]
  methods := #[k2m0, k2m1, k2m2]
  instanceTypes := #[.boolean, .int]
  staticTypes := #[(.object "com/example/skerry/skerry/engine/Viewer"), (.object "com/example/skerry/skerry/engine/Viewer")]
  resolved := Array.replicate 60 none
  statics := none }

def pool3 : Array CpInfo := pool [(1, u "java/lang/Cloneable"), (0, .class_ 1), (0, u "java/lang/Object"), (0, .class_ 3)] 3

/-- java/lang/Cloneable -/
def k3 : Class := { plain "java/lang/Cloneable" (some 0) with
  accessFlags := 1537
  interfaces := #[]
  cf := some (fileOf pool3 2 #[] #[] 1537 4 #[] #[])
  fields := #[]
  methods := #[]
  instanceTypes := #[]
  staticTypes := #[]
  resolved := Array.replicate 8 none
  statics := none }

def pool4 : Array CpInfo := pool [(1, u "java/io/Serializable"), (0, .class_ 1), (0, u "java/lang/Object"), (0, .class_ 3)] 3

/-- java/io/Serializable -/
def k4 : Class := { plain "java/io/Serializable" (some 0) with
  accessFlags := 1537
  interfaces := #[]
  cf := some (fileOf pool4 2 #[] #[] 1537 4 #[] #[])
  fields := #[]
  methods := #[]
  instanceTypes := #[]
  staticTypes := #[]
  resolved := Array.replicate 8 none
  statics := none }

/-- the primitive byte -/
def k5 : Class := { plain "byte" none with kind := .primitive 'B', accessFlags := 0x411 }
/-- [B -/
def k6 : Class := { plain "[B" (some 0) with kind := .array 5 .byte, interfaces := #[3, 4], accessFlags := 1041 }

/-- the primitive int -/
def k7 : Class := { plain "int" none with kind := .primitive 'I', accessFlags := 0x411 }
/-- [I -/
def k8 : Class := { plain "[I" (some 0) with kind := .array 7 .int, interfaces := #[3, 4], accessFlags := 1041 }

def heap : Heap := #[]
def classes : Array Class := #[k0, k1, k2, k3, k4, k5, k6, k7, k8]
def interned : List (Array UInt16 × Addr) := []
def slotsUsed : Nat := 0
def theMethod : MethodId := ⟨1, 1⟩
def args0 : Array Value := #[.int 5, .int 7]
def aboutOver (below : List Frame) : State where
  vm := { classes := classes, interned := interned.toArray }
  heap := heap
  slotsUsed := slotsUsed
  threads := #[{ frames := .invoking theMethod args0 :: below }]
def below0 : List Frame := [.native { method := ⟨0, 0⟩, args := #[] }]
def about1 : State := aboutOver below0
def p0 : Program := .bare "" "" ""
def e0 : Env := launch0.env 0 0 0
theorem w_frames : about1.frames = Frame.invoking theMethod args0 :: below0 := rfl
set_option maxRecDepth 65536 in
theorem w_args : argsFit about1.vm theMethod args0 = true := by decide +kernel
set_option maxRecDepth 65536 in
theorem w_heap : heapFits about1 = true := by decide +kernel
set_option maxRecDepth 65536 in
theorem w_runnable : about1.curStatus? = some .runnable := by decide +kernel
set_option maxRecDepth 65536 in
theorem w_alone : about1.alone = true := by decide +kernel
set_option maxRecDepth 65536 in
theorem w_named : about1.methodNamed? x = some theMethod := by decide +kernel
set_option maxRecDepth 65536 in
theorem w_hears : about1.hears theMethod below0 = true := by decide +kernel
set_option maxRecDepth 65536 in
theorem w_ripe : about1.ripe theMethod args0 below0 = true := by decide +kernel
theorem w_running : about1.status = .running := rfl
set_option maxRecDepth 65536 in
theorem w_room : about1.hasRoom e0.platform room_1 = true :=
  launch0.hasRoom_least _ room_1 (by decide +kernel) (by decide +kernel) (by decide +kernel) (by decide +kernel) (by decide +kernel) (by decide +kernel)
theorem allAtoms_all (ts : List Jvm.Cond) (a : Array Jvm.Value) (st : Jvm.State) : (allAtoms ts).before a st = ts.all (fun c => c.before a st) := by
  induction ts with
  | nil => rfl
  | cons c t ih =>
    show (Jvm.Cond.and c (allAtoms t)).before a st = _
    rw [Jvm.Cond.before_and, ih, List.all_cons]
def words1 : List Jvm.Cond := Jvm.Cond.code x code maxLocals ret :: tables_1
/-- a 'code' word, met by the world's own term for the bytes: nothing is compared byte by byte -/
theorem code_word {y : MethodName} {bytes : ByteArray} {mx : Nat} {rt : Option FieldType} {a : Array Value} {s : State} {m : MethodId} {meth : Method} {c : Code} (h1 : s.methodNamed? y = some m) (h2 : s.vm.method? m = some meth) (h3 : meth.code = some c) (h4 : c.code = bytes)
    (h5 : (c.maxLocals == mx && c.exceptionTable.isEmpty && decide (c.maxStack ≤ mostOperands) && decide (meth.sig.returnType = rt) && !meth.locks && decide (parseMethodDescriptor y.desc = some meth.sig)) = true) : (Jvm.Cond.code y bytes mx rt).before a s = true := by
  simp only [Bool.and_eq_true, beq_iff_eq, Bool.not_eq_true', decide_eq_true_eq] at h5
  obtain ⟨⟨⟨⟨⟨g1, g2⟩, g3⟩, g4⟩, g5⟩, g6⟩ := h5
  simp [Cond.before, Cond.holds, Cond.value, h1, h2, h3, h4, g1, g2, g3, g4, g5, g6]
def isCode : Jvm.Cond → Bool
  | .code _ _ _ _ => true
  | _ => false
theorem all_split {L : List Jvm.Cond} {P : Jvm.Cond → Bool} (h1 : L.all (fun c => isCode c || P c) = true) (h2 : ∀ c ∈ L.filter isCode, P c = true) : L.all P = true := by
  refine List.all_eq_true.mpr fun c hc => ?_
  have h := List.all_eq_true.mp h1 c hc
  rcases Bool.eq_false_or_eq_true (isCode c) with hi | hi
  · exact h2 c (List.mem_filter.mpr ⟨hc, hi⟩)
  · simpa [hi] using h
set_option maxRecDepth 65536 in
theorem w_c0 : (Jvm.Cond.code x code maxLocals ret).before args0 about1 = true := code_word (m := ⟨1, 1⟩) (meth := k1m1) (c := k1c1) (by decide +kernel) rfl rfl rfl (by decide +kernel)
set_option maxRecDepth 65536 in
theorem w_c1 : (Jvm.Cond.code ({ cls := "com/example/skerry/skerry/engine/Viewer", name := "seat", desc := "(I)Lcom/example/skerry/skerry/engine/Viewer;" } : Jvm.MethodName) prog_8_method_2_code (1 : Nat) (Option.some (Jvm.ClassFile.FieldType.object "com/example/skerry/skerry/engine/Viewer"))).before args0 about1 = true := code_word (m := ⟨2, 1⟩) (meth := k2m1) (c := k2c1) (by decide +kernel) rfl rfl rfl (by decide +kernel)
set_option maxRecDepth 65536 in
theorem w_c2 : (Jvm.Cond.code ({ cls := "com/example/skerry/skerry/engine/Viewer", name := "<init>", desc := "(ZI)V" } : Jvm.MethodName) prog_8_method_1_code (3 : Nat) (Option.none : Option Jvm.ClassFile.FieldType)).before args0 about1 = true := code_word (m := ⟨2, 0⟩) (meth := k2m0) (c := k2c0) (by decide +kernel) rfl rfl rfl (by decide +kernel)
set_option maxRecDepth 65536 in
theorem w_c3 : (Jvm.Cond.code ({ cls := "java/lang/Object", name := "<init>", desc := "()V" } : Jvm.MethodName) object_method_1_code (1 : Nat) (Option.none : Option Jvm.ClassFile.FieldType)).before args0 about1 = true := code_word (m := ⟨0, 0⟩) (meth := k0m0) (c := k0c0) (by decide +kernel) rfl rfl rfl (by decide +kernel)
set_option maxRecDepth 65536 in
theorem w_c4 : (Jvm.Cond.code ({ cls := "com/example/skerry/skerry/engine/Viewer", name := "sees", desc := "(I)Z" } : Jvm.MethodName) prog_8_method_3_code (2 : Nat) (Option.some Jvm.ClassFile.FieldType.boolean)).before args0 about1 = true := code_word (m := ⟨2, 2⟩) (meth := k2m2) (c := k2c2) (by decide +kernel) rfl rfl rfl (by decide +kernel)
def codes1 : List Jvm.Cond := [Jvm.Cond.code x code maxLocals ret, Jvm.Cond.code ({ cls := "com/example/skerry/skerry/engine/Viewer", name := "seat", desc := "(I)Lcom/example/skerry/skerry/engine/Viewer;" } : Jvm.MethodName) prog_8_method_2_code (1 : Nat) (Option.some (Jvm.ClassFile.FieldType.object "com/example/skerry/skerry/engine/Viewer")), Jvm.Cond.code ({ cls := "com/example/skerry/skerry/engine/Viewer", name := "<init>", desc := "(ZI)V" } : Jvm.MethodName) prog_8_method_1_code (3 : Nat) (Option.none : Option Jvm.ClassFile.FieldType), Jvm.Cond.code ({ cls := "java/lang/Object", name := "<init>", desc := "()V" } : Jvm.MethodName) object_method_1_code (1 : Nat) (Option.none : Option Jvm.ClassFile.FieldType), Jvm.Cond.code ({ cls := "com/example/skerry/skerry/engine/Viewer", name := "sees", desc := "(I)Z" } : Jvm.MethodName) prog_8_method_3_code (2 : Nat) (Option.some Jvm.ClassFile.FieldType.boolean)]
set_option maxRecDepth 65536 in
theorem codes_eq : words1.filter isCode = codes1 := rfl
theorem w_codes : ∀ c ∈ words1.filter isCode, c.before args0 about1 = true := by
  rw [codes_eq]
  intro c hc
  simp only [codes1, List.mem_cons, List.not_mem_nil, or_false] at hc
  rcases hc with rfl | rfl | rfl | rfl | rfl
  · exact w_c0
  · exact w_c1
  · exact w_c2
  · exact w_c3
  · exact w_c4
set_option maxRecDepth 65536 in
theorem w_t1 : words1.all (fun c => isCode c || c.before args0 about1) = true := by decide +kernel
theorem w_tables : (allAtoms (Jvm.Cond.code x code maxLocals ret :: tables_1)).before args0 about1 = true := by
  rw [allAtoms_all]
  show words1.all (fun c => c.before args0 about1) = true
  refine all_split ?_ w_codes
  rw [w_t1]
set_option maxRecDepth 65536 in
theorem w_case : (Jvm.Cond.and given_1 narrow_1).before args0 about1 = true := by decide +kernel
theorem w_applies : (headSpec (Jvm.Cond.code x code maxLocals ret :: tables_1) room_1).applies x e0.platform about1 = true :=
  (Spec.applies_iff w_frames).mpr ⟨w_running, w_runnable, w_alone, w_named, w_hears, w_ripe, w_room, w_tables⟩
theorem atStart : AtStart classFile x code maxLocals ret World_1 tables_1 room_1 Calls_1 rest_1 Pre_1 launch0 p0 e0 about1 theMethod args0 below0 :=
  ⟨lists_1, trivial, launch0.admits_env _ _ _, launch0.least_env, fairChoices_fair.cas, fairChoices_fair.clock, w_frames, w_args, w_heap, w_applies, trivial, trivial, w_case⟩
end start1
theorem witness_1 : WitnessClaimed_1 := ⟨start1.p0, start1.e0, start1.about1, start1.theMethod, start1.args0, start1.below0, start1.atStart⟩
end Jvm.Pilot.@@N@@
