import JvmDerived
import JvmDerived.Pilot.@@N@@Statement
import JvmDerived.Pilot.@@N@@Code
set_option linter.unusedVariables false
set_option linter.unusedSimpArgs false
namespace Jvm.RoadKit
open Sem ClassFile Op Lib Jvm.Stand Jvm.Free Jvm.LawKit
section New
variable {p : Program} {l : Launch} {e : Env} {R : Room} {s : State} {m : MethodId} {args : Array Value} {below : List Frame} {meth : Method} {c : Code} {T : State} {locs : List Loc} {cells slots : Nat}
theorem retI (X : Stand p l e R s m args below meth c T locs cells slots) (hx : p.tables.exec = Jvm.exec) {pc : Nat} {Ls : Array Slot} {z : Int32} {rest : List Value} (hret : meth.sig.returnType = some .int) (hd : decode c.code pc = .ok (.ireturn, 1)) {fs : List Frame}
    (hl : ∀ (f : JFrame) (acts : List Action), f.method = m → f.locked = none → f.entered = [] → (doReturn e (T.setTop f) acts (some (.int z))).1 = T.setFrames fs) : Steps p.tables e below (T.setTop (mkF m pc Ls (.int z :: rest))) (T.setFrames fs) := by
  have hm' : T.vm.method? m = some meth := X.method'
  have hn : narrow .int (.int z) = .int z := rfl
  show Steps p.tables e below (T.setTop { method := m, pc := pc, locals := Ls, stack := _ :: rest, locked := none }) _
  jvm_step X.here [X.here.top, hx, hd, hm', hret, hn]
  first | (intro acts; rw [hl _ acts rfl rfl rfl]) | rw [hl _ _ rfl rfl rfl]
  exact Steps.refl _
abbrev jv (x : Int64) : Slot := .val (.long x)
/-- from A the run goes on to an end of which R holds -/
def Wk (tb : Tables) (e : Env) (below : List Frame) (A : State) (R : State → Outcome → Prop) : Prop := ∃ U o, Steps tb e below A U ∧ R U o
theorem Wk.go {tb : Tables} {A A' : State} {R : State → Outcome → Prop} (h : ∀ t, Steps tb e below A' t → Steps tb e below A t) (k : Wk tb e below A' R) : Wk tb e below A R := by
  obtain ⟨U, o, k1, k2⟩ := k
  exact ⟨U, o, h _ k1, k2⟩
/-- the two ways from A to A' meet there -/
theorem own_fin (X : Stand p l e R s m args below meth c T locs cells slots) {Qv : Option Value → Heap → List Loc → Prop} {v : Option Value} {g : JFrame} {C S : Nat} (hlocks : meth.locks = false) (hv : meth.sig.returnType = none → v = none)
    (hst : ∀ fs, (∀ (f : JFrame) (acts : List Action), f.method = m → f.locked = none → f.entered = [] → (doReturn e (T.setTop f) acts v).1 = T.setFrames fs) → Steps p.tables e below (T.setTop g) (T.setFrames fs))
    (hQ : Qv v T.heap locs) (hc : cells ≤ C) (hs : slots ≤ S) :
    Wk p.tables e below (T.setTop g) (fun U o => U.status = .running ∧ Ended U below o ∧ ∃ v L, o = .returned v ∧ Qv v U.heap L ∧ FrameEnd s o U L C S) := by
  obtain ⟨fs, hr, hrun, hended, hW, hsame⟩ := X.leave (v := v) hv hlocks
  exact ⟨_, _, hst fs hr, hrun, hended, _, _, rfl, hQ, ⟨_, rfl⟩, hW, hsame.mono hc hs⟩
end New
end Jvm.RoadKit
namespace Jvm.Pilot.@@N@@
open Jvm Jvm.ClassFile Sem Op Lib Jvm.Free Jvm.Stand Jvm.LawKit Jvm.RoadKit Bundle Jvm.Pilot.@@N@@.Jvm.D
theorem d1_0 : decode jdk_29_method_70_code 0 = .ok (.lload_n 0, 1) := by decide +kernel
theorem d1_1 : decode jdk_29_method_70_code 1 = .ok (.lload_n 2, 1) := by decide +kernel
theorem d1_2 : decode jdk_29_method_70_code 2 = .ok (.lcmp, 1) := by decide +kernel
theorem d1_3 : decode jdk_29_method_70_code 3 = .ok (.ifCond .gt 7, 3) := by decide +kernel
theorem d1_10 : decode jdk_29_method_70_code 10 = .ok (.lload_n 2, 1) := by decide +kernel
theorem d1_11 : decode jdk_29_method_70_code 11 = .ok (.lreturn, 1) := by decide +kernel
theorem d1_6 : decode jdk_29_method_70_code 6 = .ok (.lload_n 0, 1) := by decide +kernel
theorem d1_7 : decode jdk_29_method_70_code 7 = .ok (.goto 4, 3) := by decide +kernel
theorem ef_1 (m : MethodId) (x0 : Int64) (x1 : Int64) : entryFrame m #[(.long x0), (.long x1)] 4 = mkF m 0 #[jv x0, .second, jv x1, .second] [] := by first | (simp [entryFrame, mkF, argsToLocals, Value.category]; done) | rfl
def f_min (ax : Int64) (bx : Int64)  : Int64 := (if bx < ax then bx else ax)
def Q1 (Z : State) (ax : Int64) (bx : Int64)  (h0 : Heap) (n0 : Nat) (v : Option Value) (h : Heap) (L : List Loc) : Prop := v = some (.long (f_min ax bx)) ∧ Fr n0 L ∧ h = h0
set_option maxRecDepth 65536 in
set_option maxHeartbeats 40000000 in
theorem rm1 (l : Launch) (Z : State) (a0 : Array Value) (hw : ∀ d ∈ tables_1, d.before a0 Z = true) (ws : List Jvm.Cond) (ax : Int64) (bx : Int64)  (h0 : Heap) (n0 : Nat) (Z0 : n0 ≤ h0.size)  :
    MetFree l (⟨"java/lang/Math", "min", "(JJ)J"⟩ : MethodName) (head1 (Jvm.Cond.code (⟨"java/lang/Math", "min", "(JJ)J"⟩ : MethodName) jdk_29_method_70_code 4 (some .long) :: ws) ({ frames := 0, cells := 0, slots := 0, locals := 0 } : Room)) (fun a U => a = #[(.long ax), (.long bx)] ∧ Z.Warmed39 U.vm ∧ U.heap = h0) (fun _ _ _ _ _ => True) (fun _ U o U' => ∃ v L, o = .returned v ∧ Q1 Z ax bx h0 n0 v U'.heap L ∧ FrameEnd U o U' L ({ frames := 0, cells := 0, slots := 0, locals := 0 } : Room).cells ({ frames := 0, cells := 0, slots := 0, locals := 0 } : Room).slots) := by
  refine MetFree.of_bodySF (Jvm.Free.JP.mathPlain rfl (by decide +kernel)) hisR ?_
  intro p e s m args below meth c s₁ Bd hml0 hP hK
  obtain ⟨rfl, hZ, hh⟩ := hP
  have hx := Bd.exec
  have hby := Bd.bytes
  have hml : c.maxLocals = 4 := hml0
  have hown : s.vm.findClass "java/lang/Math" = some m.cls := findClass_of_methodNamed Bd.named
  have hnm := (name_of_methodNamed Bd.named Bd.method).1
  have X0 : Stand p l e ({ frames := 0, cells := 0, slots := 0, locals := 0 } : Room) s m #[(.long ax), (.long bx)] below meth c s₁ [] 0 0 := Stand.of_body Bd
  have e0 : s₁.heap = h0 := by rw [← hh, Bd.state]; rfl
  have N0 := Fr.nil n0
  have hlk : meth.locks = false := BodyLoose.notSynchronized Bd
  suffices hwk : Wk p.tables e below (s₁.setTop (mkF m 0 #[jv ax, .second, jv bx, .second] [])) (fun U o => U.status = .running ∧ Ended U below o ∧ ∃ v L, o = .returned v ∧ Q1 Z ax bx h0 n0 v U.heap L ∧ FrameEnd s o U L 0 0) by
    obtain ⟨U, o, k1, k2⟩ := hwk
    exact ⟨U, o, castTop (ef_1 m ax bx) k1, k2⟩
  refine Wk.go (A' := s₁.setTop (mkF m 1 #[jv ax, .second, jv bx, .second] [(.long ax)])) (fun t k => XS.lloadN X0.here hx rfl (hb hby d1_0) rfl k) ?_
  refine Wk.go (A' := s₁.setTop (mkF m 2 #[jv ax, .second, jv bx, .second] [(.long bx), (.long ax)])) (fun t k => XS.lloadN X0.here hx rfl (hb hby d1_1) rfl k) ?_
  refine Wk.go (A' := s₁.setTop (mkF m 3 #[jv ax, .second, jv bx, .second] [(.int (lcmpW ax bx))])) (fun t k => XS.lcmp X0.here hx rfl (hb hby d1_2) rfl k) ?_
  by_cases hc3 : bx < ax
  · refine Wk.go (A' := s₁.setTop (mkF m 10 #[jv ax, .second, jv bx, .second] [])) (fun t k => XS.ifYes X0.here hx rfl (pc0 := 3) (pc' := 10) rfl (hb hby d1_3) rfl ((if0 _ _).trans (tlt ((lw_gt _ _).mpr hc3)).2.2.1) (by decide) (by decide) k) ?_
    refine Wk.go (A' := s₁.setTop (mkF m 11 #[jv ax, .second, jv bx, .second] [(.long bx)])) (fun t k => XS.lloadN X0.here hx rfl (hb hby d1_10) rfl k) ?_
    refine own_fin (Qv := Q1 Z ax bx h0 n0) (v := some (.long bx)) X0 hlk (fun h => by rw [Bd.returns] at h; cases h) (fun fs hr => X0.lreturnOut hx Bd.returns (hb hby d1_11) hr) ?_ (by decide) (by decide)
    refine ⟨?_, N0, e0⟩
    simp only [f_min, if_pos hc3]
  · refine Wk.go (A' := s₁.setTop (mkF m 6 #[jv ax, .second, jv bx, .second] [])) (fun t k => XS.ifNo X0.here hx rfl (hb hby d1_3) rfl ((if0 _ _).trans (flt (mt (lw_gt _ _).mp hc3)).2.2.1) k) ?_
    refine Wk.go (A' := s₁.setTop (mkF m 7 #[jv ax, .second, jv bx, .second] [(.long ax)])) (fun t k => XS.lloadN X0.here hx rfl (hb hby d1_6) rfl k) ?_
    refine Wk.go (A' := s₁.setTop (mkF m 11 #[jv ax, .second, jv bx, .second] [(.long ax)])) (fun t k => XS.goto X0.here hx rfl (pc0 := 7) (pc' := 11) rfl (hb hby d1_7) (by decide) (by decide) k) ?_
    refine own_fin (Qv := Q1 Z ax bx h0 n0) (v := some (.long ax)) X0 hlk (fun h => by rw [Bd.returns] at h; cases h) (fun fs hr => X0.lreturnOut hx Bd.returns (hb hby d1_11) hr) ?_ (by decide) (by decide)
    refine ⟨?_, N0, e0⟩
    simp only [f_min, if_neg hc3]
theorem d2_0 : decode jdk_29_method_66_code 0 = .ok (.lload_n 0, 1) := by decide +kernel
theorem d2_1 : decode jdk_29_method_66_code 1 = .ok (.lload_n 2, 1) := by decide +kernel
theorem d2_2 : decode jdk_29_method_66_code 2 = .ok (.lcmp, 1) := by decide +kernel
theorem d2_3 : decode jdk_29_method_66_code 3 = .ok (.ifCond .lt 7, 3) := by decide +kernel
theorem d2_10 : decode jdk_29_method_66_code 10 = .ok (.lload_n 2, 1) := by decide +kernel
theorem d2_11 : decode jdk_29_method_66_code 11 = .ok (.lreturn, 1) := by decide +kernel
theorem d2_6 : decode jdk_29_method_66_code 6 = .ok (.lload_n 0, 1) := by decide +kernel
theorem d2_7 : decode jdk_29_method_66_code 7 = .ok (.goto 4, 3) := by decide +kernel
theorem ef_2 (m : MethodId) (x0 : Int64) (x1 : Int64) : entryFrame m #[(.long x0), (.long x1)] 4 = mkF m 0 #[jv x0, .second, jv x1, .second] [] := by first | (simp [entryFrame, mkF, argsToLocals, Value.category]; done) | rfl
def f_max (ax : Int64) (bx : Int64)  : Int64 := (if ax < bx then bx else ax)
def Q2 (Z : State) (ax : Int64) (bx : Int64)  (h0 : Heap) (n0 : Nat) (v : Option Value) (h : Heap) (L : List Loc) : Prop := v = some (.long (f_max ax bx)) ∧ Fr n0 L ∧ h = h0
set_option maxRecDepth 65536 in
set_option maxHeartbeats 40000000 in
theorem rm2 (l : Launch) (Z : State) (a0 : Array Value) (hw : ∀ d ∈ tables_1, d.before a0 Z = true) (ws : List Jvm.Cond) (ax : Int64) (bx : Int64)  (h0 : Heap) (n0 : Nat) (Z0 : n0 ≤ h0.size)  :
    MetFree l (⟨"java/lang/Math", "max", "(JJ)J"⟩ : MethodName) (head1 (Jvm.Cond.code (⟨"java/lang/Math", "max", "(JJ)J"⟩ : MethodName) jdk_29_method_66_code 4 (some .long) :: ws) ({ frames := 0, cells := 0, slots := 0, locals := 0 } : Room)) (fun a U => a = #[(.long ax), (.long bx)] ∧ Z.Warmed39 U.vm ∧ U.heap = h0) (fun _ _ _ _ _ => True) (fun _ U o U' => ∃ v L, o = .returned v ∧ Q2 Z ax bx h0 n0 v U'.heap L ∧ FrameEnd U o U' L ({ frames := 0, cells := 0, slots := 0, locals := 0 } : Room).cells ({ frames := 0, cells := 0, slots := 0, locals := 0 } : Room).slots) := by
  refine MetFree.of_bodySF (Jvm.Free.JP.mathPlain rfl (by decide +kernel)) hisR ?_
  intro p e s m args below meth c s₁ Bd hml0 hP hK
  obtain ⟨rfl, hZ, hh⟩ := hP
  have hx := Bd.exec
  have hby := Bd.bytes
  have hml : c.maxLocals = 4 := hml0
  have hown : s.vm.findClass "java/lang/Math" = some m.cls := findClass_of_methodNamed Bd.named
  have hnm := (name_of_methodNamed Bd.named Bd.method).1
  have X0 : Stand p l e ({ frames := 0, cells := 0, slots := 0, locals := 0 } : Room) s m #[(.long ax), (.long bx)] below meth c s₁ [] 0 0 := Stand.of_body Bd
  have e0 : s₁.heap = h0 := by rw [← hh, Bd.state]; rfl
  have N0 := Fr.nil n0
  have hlk : meth.locks = false := BodyLoose.notSynchronized Bd
  suffices hwk : Wk p.tables e below (s₁.setTop (mkF m 0 #[jv ax, .second, jv bx, .second] [])) (fun U o => U.status = .running ∧ Ended U below o ∧ ∃ v L, o = .returned v ∧ Q2 Z ax bx h0 n0 v U.heap L ∧ FrameEnd s o U L 0 0) by
    obtain ⟨U, o, k1, k2⟩ := hwk
    exact ⟨U, o, castTop (ef_2 m ax bx) k1, k2⟩
  refine Wk.go (A' := s₁.setTop (mkF m 1 #[jv ax, .second, jv bx, .second] [(.long ax)])) (fun t k => XS.lloadN X0.here hx rfl (hb hby d2_0) rfl k) ?_
  refine Wk.go (A' := s₁.setTop (mkF m 2 #[jv ax, .second, jv bx, .second] [(.long bx), (.long ax)])) (fun t k => XS.lloadN X0.here hx rfl (hb hby d2_1) rfl k) ?_
  refine Wk.go (A' := s₁.setTop (mkF m 3 #[jv ax, .second, jv bx, .second] [(.int (lcmpW ax bx))])) (fun t k => XS.lcmp X0.here hx rfl (hb hby d2_2) rfl k) ?_
  by_cases hc3 : ax < bx
  · refine Wk.go (A' := s₁.setTop (mkF m 10 #[jv ax, .second, jv bx, .second] [])) (fun t k => XS.ifYes X0.here hx rfl (pc0 := 3) (pc' := 10) rfl (hb hby d2_3) rfl ((if0 _ _).trans (tlt ((lw_lt _ _).mpr hc3)).1) (by decide) (by decide) k) ?_
    refine Wk.go (A' := s₁.setTop (mkF m 11 #[jv ax, .second, jv bx, .second] [(.long bx)])) (fun t k => XS.lloadN X0.here hx rfl (hb hby d2_10) rfl k) ?_
    refine own_fin (Qv := Q2 Z ax bx h0 n0) (v := some (.long bx)) X0 hlk (fun h => by rw [Bd.returns] at h; cases h) (fun fs hr => X0.lreturnOut hx Bd.returns (hb hby d2_11) hr) ?_ (by decide) (by decide)
    refine ⟨?_, N0, e0⟩
    simp only [f_max, if_pos hc3]
  · refine Wk.go (A' := s₁.setTop (mkF m 6 #[jv ax, .second, jv bx, .second] [])) (fun t k => XS.ifNo X0.here hx rfl (hb hby d2_3) rfl ((if0 _ _).trans (flt (mt (lw_lt _ _).mp hc3)).1) k) ?_
    refine Wk.go (A' := s₁.setTop (mkF m 7 #[jv ax, .second, jv bx, .second] [(.long ax)])) (fun t k => XS.lloadN X0.here hx rfl (hb hby d2_6) rfl k) ?_
    refine Wk.go (A' := s₁.setTop (mkF m 11 #[jv ax, .second, jv bx, .second] [(.long ax)])) (fun t k => XS.goto X0.here hx rfl (pc0 := 7) (pc' := 11) rfl (hb hby d2_7) (by decide) (by decide) k) ?_
    refine own_fin (Qv := Q2 Z ax bx h0 n0) (v := some (.long ax)) X0 hlk (fun h => by rw [Bd.returns] at h; cases h) (fun fs hr => X0.lreturnOut hx Bd.returns (hb hby d2_11) hr) ?_ (by decide) (by decide)
    refine ⟨?_, N0, e0⟩
    simp only [f_max, if_neg hc3]
theorem d4_0 : decode jdk_30_method_1_code 0 = .ok (.aload_n 0, 1) := by decide +kernel
theorem tw19 {Z : State} {a0 : Array Value} (hw : ∀ d ∈ tables_1, d.before a0 Z = true) : (Jvm.Cond.methodLink "java/lang/Record" (1 : Nat) ({ cls := "java/lang/Object", name := "<init>", desc := "()V" } : Jvm.MethodName)).before a0 Z = true := hw _ (List.mem_of_getElem? (i := 19) rfl)
theorem tw20 {Z : State} {a0 : Array Value} (hw : ∀ d ∈ tables_1, d.before a0 Z = true) : (Jvm.Cond.instanceMethod ({ cls := "java/lang/Object", name := "<init>", desc := "()V" } : Jvm.MethodName)).before a0 Z = true := hw _ (List.mem_of_getElem? (i := 20) rfl)
theorem tw21 {Z : State} {a0 : Array Value} (hw : ∀ d ∈ tables_1, d.before a0 Z = true) : (Jvm.Cond.code ({ cls := "java/lang/Object", name := "<init>", desc := "()V" } : Jvm.MethodName) object_method_1_code (1 : Nat) (Option.none : Option Jvm.ClassFile.FieldType)).before a0 Z = true := hw _ (List.mem_of_getElem? (i := 21) rfl)
theorem d4_1 : decode jdk_30_method_1_code 1 = .ok (.invokespecial 1, 3) := by decide +kernel
theorem d4_4 : decode jdk_30_method_1_code 4 = .ok (.return_, 1) := by decide +kernel
theorem pn_0 : plainName "java/lang/Record" = true := by first | (simp [plainName, overriddenIn]; done) | decide +kernel
theorem ef_4 (m : MethodId) (x0 : Addr) : entryFrame m #[(.ref x0)] 1 = mkF m 0 #[rv x0] [] := by first | (simp [entryFrame, mkF, argsToLocals, Value.category]; done) | rfl
def Q4 (Z : State) (ob : Addr)  (h0 : Heap) (n0 : Nat) (v : Option Value) (h : Heap) (L : List Loc) : Prop := v = none ∧ Fr n0 L ∧ h = h0
set_option maxRecDepth 65536 in
set_option maxHeartbeats 40000000 in
theorem rm4 (l : Launch) (Z : State) (a0 : Array Value) (hw : ∀ d ∈ tables_1, d.before a0 Z = true) (ws : List Jvm.Cond) (ob : Addr)  (h0 : Heap) (n0 : Nat) (Z0 : n0 ≤ h0.size)  :
    MetFree l (⟨"java/lang/Record", "<init>", "()V"⟩ : MethodName) (head1 (Jvm.Cond.code (⟨"java/lang/Record", "<init>", "()V"⟩ : MethodName) jdk_30_method_1_code 1 none :: ws) ({ frames := 1, cells := 0, slots := 0, locals := 12 } : Room)) (fun a U => a = #[(.ref ob)] ∧ Z.Warmed39 U.vm ∧ U.heap = h0) (fun _ _ _ _ _ => True) (fun _ U o U' => ∃ v L, o = .returned v ∧ Q4 Z ob h0 n0 v U'.heap L ∧ FrameEnd U o U' L ({ frames := 1, cells := 0, slots := 0, locals := 12 } : Room).cells ({ frames := 1, cells := 0, slots := 0, locals := 12 } : Room).slots) := by
  refine MetFree.of_bodySF (plainFor_of_name pn_0) hisR ?_
  intro p e s m args below meth c s₁ Bd hml0 hP hK
  obtain ⟨rfl, hZ, hh⟩ := hP
  have hx := Bd.exec
  have hby := Bd.bytes
  have hml : c.maxLocals = 1 := hml0
  have hown : s.vm.findClass "java/lang/Record" = some m.cls := findClass_of_methodNamed Bd.named
  have hnm := (name_of_methodNamed Bd.named Bd.method).1
  have X0 : Stand p l e ({ frames := 1, cells := 0, slots := 0, locals := 12 } : Room) s m #[(.ref ob)] below meth c s₁ [] 0 0 := Stand.of_body Bd
  have e0 : s₁.heap = h0 := by rw [← hh, Bd.state]; rfl
  have N0 := Fr.nil n0
  have hlk : meth.locks = false := BodyLoose.notSynchronized Bd
  suffices hwk : Wk p.tables e below (s₁.setTop (mkF m 0 #[rv ob] [])) (fun U o => U.status = .running ∧ Ended U below o ∧ ∃ v L, o = .returned v ∧ Q4 Z ob h0 n0 v U.heap L ∧ FrameEnd s o U L 0 0) by
    obtain ⟨U, o, k1, k2⟩ := hwk
    exact ⟨U, o, castTop (ef_4 m ob) k1, k2⟩
  refine Wk.go (A' := s₁.setTop (mkF m 1 #[rv ob] [(.ref ob)])) (fun t k => XS.aloadN X0.here hx rfl (hb hby d4_0) rfl rfl k) ?_
  obtain ⟨T1, X1, e1, st1⟩ := initO X0 hx hZ hown (tw19 hw) (tw20 hw) (tw21 hw) e0 (g := (mkF m 1 #[rv ob] [(.ref ob)])) rfl (by rw [hml]; rfl) rfl (hb hby d4_1) (by decide) (W := 0) (by show 2 * 0 + _ ≤ _; exact Nat.le_of_eq rfl) (by decide)
  refine Wk.go (A' := T1.setTop (mkF m 4 #[rv ob] [])) (fun t k => st1 t k) ?_
  refine own_fin (Qv := Q4 Z ob h0 n0) (v := none) X1 hlk (fun _ => rfl) (fun fs hr => X1.returnOut hx Bd.returns (hb hby d4_4) hr) ?_ (by decide) (by decide)
  exact ⟨rfl, N0, e1⟩
theorem d3_0 : decode prog_18_method_1_code 0 = .ok (.aload_n 0, 1) := by decide +kernel
theorem tw14 {Z : State} {a0 : Array Value} (hw : ∀ d ∈ tables_1, d.before a0 Z = true) : (Jvm.Cond.methodLink "com/example/bitbraid/bitbraid/RowRange" (1 : Nat) ({ cls := "java/lang/Record", name := "<init>", desc := "()V" } : Jvm.MethodName)).before a0 Z = true := hw _ (List.mem_of_getElem? (i := 14) rfl)
theorem tw18 {Z : State} {a0 : Array Value} (hw : ∀ d ∈ tables_1, d.before a0 Z = true) : (Jvm.Cond.code ({ cls := "java/lang/Record", name := "<init>", desc := "()V" } : Jvm.MethodName) jdk_30_method_1_code (1 : Nat) (Option.none : Option Jvm.ClassFile.FieldType)).before a0 Z = true := hw _ (List.mem_of_getElem? (i := 18) rfl)
theorem tw17 {Z : State} {a0 : Array Value} (hw : ∀ d ∈ tables_1, d.before a0 Z = true) : (Jvm.Cond.initialized "java/lang/Record").before a0 Z = true := hw _ (List.mem_of_getElem? (i := 17) rfl)
theorem pd_0 : parseMethodDescriptor "()V" = some ⟨[], none⟩ := by decide +kernel
theorem d3_1 : decode prog_18_method_1_code 1 = .ok (.invokespecial 1, 3) := by decide +kernel
theorem tw15 {Z : State} {a0 : Array Value} (hw : ∀ d ∈ tables_1, d.before a0 Z = true) : (Jvm.Cond.instanceMethod ({ cls := "java/lang/Record", name := "<init>", desc := "()V" } : Jvm.MethodName)).before a0 Z = true := hw _ (List.mem_of_getElem? (i := 15) rfl)
theorem d3_4 : decode prog_18_method_1_code 4 = .ok (.lload_n 1, 1) := by decide +kernel
theorem d3_5 : decode prog_18_method_1_code 5 = .ok (.lconst 0, 1) := by decide +kernel
theorem d3_6 : decode prog_18_method_1_code 6 = .ok (.lcmp, 1) := by decide +kernel
theorem d3_7 : decode prog_18_method_1_code 7 = .ok (.ifCond .lt 9, 3) := by decide +kernel
theorem d3_10 : decode prog_18_method_1_code 10 = .ok (.lload_n 3, 1) := by decide +kernel
theorem d3_11 : decode prog_18_method_1_code 11 = .ok (.lload_n 1, 1) := by decide +kernel
theorem d3_12 : decode prog_18_method_1_code 12 = .ok (.lcmp, 1) := by decide +kernel
theorem d3_13 : decode prog_18_method_1_code 13 = .ok (.ifCond .ge 18, 3) := by decide +kernel
theorem d3_31 : decode prog_18_method_1_code 31 = .ok (.aload_n 0, 1) := by decide +kernel
theorem d3_32 : decode prog_18_method_1_code 32 = .ok (.lload_n 1, 1) := by decide +kernel
theorem tw22 {Z : State} {a0 : Array Value} (hw : ∀ d ∈ tables_1, d.before a0 Z = true) : (Jvm.Cond.fieldLink "com/example/bitbraid/bitbraid/RowRange" (16 : Nat) "com/example/bitbraid/bitbraid/RowRange" "first" "J").before a0 Z = true := hw _ (List.mem_of_getElem? (i := 22) rfl)
theorem tw23 {Z : State} {a0 : Array Value} (hw : ∀ d ∈ tables_1, d.before a0 Z = true) : (Jvm.Cond.laysFinal "com/example/bitbraid/bitbraid/RowRange" "com/example/bitbraid/bitbraid/RowRange" "first" "J").before a0 Z = true := hw _ (List.mem_of_getElem? (i := 23) rfl)
theorem tw9 {Z : State} {a0 : Array Value} (hw : ∀ d ∈ tables_1, d.before a0 Z = true) : (Jvm.Cond.instantiable "com/example/bitbraid/bitbraid/RowRange" (2 : Nat)).before a0 Z = true := hw _ (List.mem_of_getElem? (i := 9) rfl)
theorem d3_33 : decode prog_18_method_1_code 33 = .ok (.putfield 16, 3) := by decide +kernel
theorem tw25 {Z : State} {a0 : Array Value} (hw : ∀ d ∈ tables_1, d.before a0 Z = true) : (Jvm.Cond.laysFinal "com/example/bitbraid/bitbraid/RowRange" "com/example/bitbraid/bitbraid/RowRange" "last" "J").before a0 Z = true := hw _ (List.mem_of_getElem? (i := 25) rfl)
theorem sn_0 {Z : State} {a0 : Array Value} (hw : ∀ d ∈ tables_1, d.before a0 Z = true) : Jvm.RoadKit.slotOf Z "com/example/bitbraid/bitbraid/RowRange" "last" "J" ≠ Jvm.RoadKit.slotOf Z "com/example/bitbraid/bitbraid/RowRange" "first" "J" := Jvm.RoadKit.slot_ne (Or.inr (tw25 hw)) (Or.inr (tw23 hw)) (by decide) (t := .long) (t' := .long) (by decide) (by decide)
theorem d3_36 : decode prog_18_method_1_code 36 = .ok (.aload_n 0, 1) := by decide +kernel
theorem d3_37 : decode prog_18_method_1_code 37 = .ok (.lload_n 3, 1) := by decide +kernel
theorem tw24 {Z : State} {a0 : Array Value} (hw : ∀ d ∈ tables_1, d.before a0 Z = true) : (Jvm.Cond.fieldLink "com/example/bitbraid/bitbraid/RowRange" (22 : Nat) "com/example/bitbraid/bitbraid/RowRange" "last" "J").before a0 Z = true := hw _ (List.mem_of_getElem? (i := 24) rfl)
theorem d3_38 : decode prog_18_method_1_code 38 = .ok (.putfield 22, 3) := by decide +kernel
theorem sn_1 {Z : State} {a0 : Array Value} (hw : ∀ d ∈ tables_1, d.before a0 Z = true) : Jvm.RoadKit.slotOf Z "com/example/bitbraid/bitbraid/RowRange" "first" "J" ≠ Jvm.RoadKit.slotOf Z "com/example/bitbraid/bitbraid/RowRange" "last" "J" := Jvm.RoadKit.slot_ne (Or.inr (tw23 hw)) (Or.inr (tw25 hw)) (by decide) (t := .long) (t' := .long) (by decide) (by decide)
theorem d3_41 : decode prog_18_method_1_code 41 = .ok (.return_, 1) := by decide +kernel
theorem pn_1 : plainName "com/example/bitbraid/bitbraid/RowRange" = true := by first | (simp [plainName, overriddenIn]; done) | decide +kernel
theorem ef_3 (m : MethodId) (x0 : Addr) (x1 : Int64) (x2 : Int64) : entryFrame m #[(.ref x0), (.long x1), (.long x2)] 5 = mkF m 0 #[rv x0, jv x1, .second, jv x2, .second] [] := by first | (simp [entryFrame, mkF, argsToLocals, Value.category]; done) | rfl
def Q3 (Z : State) (ob : Addr) (fa : Int64) (la : Int64)  (h0 : Heap) (n0 : Nat) (v : Option Value) (h : Heap) (L : List Loc) : Prop := v = none ∧ Fr n0 L ∧ Keep h0 h [ob] ∧ Exa Z h ob "com/example/bitbraid/bitbraid/RowRange" ∧ Fld Z h ob "com/example/bitbraid/bitbraid/RowRange" "first" "J" (.long fa) ∧ Fld Z h ob "com/example/bitbraid/bitbraid/RowRange" "last" "J" (.long la)
set_option maxRecDepth 65536 in
set_option maxHeartbeats 40000000 in
theorem rm3 (l : Launch) (Z : State) (a0 : Array Value) (hw : ∀ d ∈ tables_1, d.before a0 Z = true) (ws : List Jvm.Cond) (ob : Addr) (fa : Int64) (la : Int64)  (h0 : Heap) (n0 : Nat) (Z0 : n0 ≤ h0.size) (E_ob : Exa Z h0 ob "com/example/bitbraid/bitbraid/RowRange") (F_first : Fld Z h0 ob "com/example/bitbraid/bitbraid/RowRange" "first" "J" (.long (0 : Int64))) (F_last : Fld Z h0 ob "com/example/bitbraid/bitbraid/RowRange" "last" "J" (.long (0 : Int64))) (g_ob : n0 ≤ ob) (hfa : ¬ (fa < (0 : Int64))) (hla : ¬ (la < fa)) :
    MetFree l (⟨"com/example/bitbraid/bitbraid/RowRange", "<init>", "(JJ)V"⟩ : MethodName) (head1 (Jvm.Cond.code (⟨"com/example/bitbraid/bitbraid/RowRange", "<init>", "(JJ)V"⟩ : MethodName) prog_18_method_1_code 5 none :: ws) ({ frames := 2, cells := 0, slots := 0, locals := 24 } : Room)) (fun a U => a = #[(.ref ob), (.long fa), (.long la)] ∧ Z.Warmed39 U.vm ∧ U.heap = h0) (fun _ _ _ _ _ => True) (fun _ U o U' => ∃ v L, o = .returned v ∧ Q3 Z ob fa la h0 n0 v U'.heap L ∧ FrameEnd U o U' L ({ frames := 2, cells := 0, slots := 0, locals := 24 } : Room).cells ({ frames := 2, cells := 0, slots := 0, locals := 24 } : Room).slots) := by
  refine MetFree.of_bodySF (plainFor_of_name pn_1) hisR ?_
  intro p e s m args below meth c s₁ Bd hml0 hP hK
  obtain ⟨rfl, hZ, hh⟩ := hP
  have hx := Bd.exec
  have hby := Bd.bytes
  have hml : c.maxLocals = 5 := hml0
  have hown : s.vm.findClass "com/example/bitbraid/bitbraid/RowRange" = some m.cls := findClass_of_methodNamed Bd.named
  have hnm := (name_of_methodNamed Bd.named Bd.method).1
  have X0 : Stand p l e ({ frames := 2, cells := 0, slots := 0, locals := 24 } : Room) s m #[(.ref ob), (.long fa), (.long la)] below meth c s₁ [] 0 0 := Stand.of_body Bd
  have e0 : s₁.heap = h0 := by rw [← hh, Bd.state]; rfl
  have N0 := Fr.nil n0
  have hlk : meth.locks = false := BodyLoose.notSynchronized Bd
  suffices hwk : Wk p.tables e below (s₁.setTop (mkF m 0 #[rv ob, jv fa, .second, jv la, .second] [])) (fun U o => U.status = .running ∧ Ended U below o ∧ ∃ v L, o = .returned v ∧ Q3 Z ob fa la h0 n0 v U.heap L ∧ FrameEnd s o U L 0 0) by
    obtain ⟨U, o, k1, k2⟩ := hwk
    exact ⟨U, o, castTop (ef_3 m ob fa la) k1, k2⟩
  have K0 := Keep.refl h0 [ob]
  refine Wk.go (A' := s₁.setTop (mkF m 1 #[rv ob, jv fa, .second, jv la, .second] [(.ref ob)])) (fun t k => XS.aloadN X0.here hx rfl (hb hby d3_0) rfl rfl k) ?_
  obtain ⟨_, _, ⟨T1, L1, k1, n1⟩, -, X1, ⟨Lc1, hQ1, l1, y1, z1⟩, st1⟩ := X0.specialBack hx (y := (⟨"java/lang/Record", "<init>", "()V"⟩ : MethodName)) rfl hown (mvT hZ (tw14 hw)) (mvT hZ (tw15 hw)) (mvT hZ (tw18 hw)) (by decide) (backOf (W := 0) (rm4 l Z a0 hw [] ob  h0 n0 Z0 ) hZ (tw18 hw) (tw17 hw) (by decide) (by decide)) (g := (mkF m 1 #[rv ob, jv fa, .second, jv la, .second] [(.ref ob)])) rfl (by rw [hml]; rfl) (Steps.refl _) (a := ob) (argsL := []) (rest := []) (lenOf pd_0 rfl) rfl (by show 2 * 0 + _ ≤ _; exact Nat.le_of_eq rfl) (hb hby d3_1) (fun _ _ => ⟨rfl, e0, (by decide : 0 + 0 ≤ _), (by decide : 0 + 0 ≤ _)⟩)
  dsimp only [Pt.U, Pt.locs, Pt.cells, Pt.slots] at X1 l1 y1 z1 st1 hQ1
  subst l1 y1 z1
  obtain ⟨rfl, N1q, hE1⟩ := hQ1
  have N1 := Fr.app N0 N1q
  refine Wk.go (A' := T1.setTop (mkF m 4 #[rv ob, jv fa, .second, jv la, .second] [])) (fun t k => st1.trans k) ?_
  refine Wk.go (A' := T1.setTop (mkF m 5 #[rv ob, jv fa, .second, jv la, .second] [(.long fa)])) (fun t k => XS.lloadN X1.here hx rfl (hb hby d3_4) rfl k) ?_
  refine Wk.go (A' := T1.setTop (mkF m 6 #[rv ob, jv fa, .second, jv la, .second] [(.long (0 : Int64)), (.long fa)])) (fun t k => XS.lconst X1.here hx rfl (hb hby d3_5) k) ?_
  refine Wk.go (A' := T1.setTop (mkF m 7 #[rv ob, jv fa, .second, jv la, .second] [(.int (lcmpW fa (0 : Int64)))])) (fun t k => XS.lcmp X1.here hx rfl (hb hby d3_6) rfl k) ?_
  have hc7 : ¬ (fa < (0 : Int64)) := hfa
  refine Wk.go (A' := T1.setTop (mkF m 10 #[rv ob, jv fa, .second, jv la, .second] [])) (fun t k => XS.ifNo X1.here hx rfl (hb hby d3_7) rfl ((if0 _ _).trans (flt (mt (lw_lt _ _).mp hc7)).1) k) ?_
  refine Wk.go (A' := T1.setTop (mkF m 11 #[rv ob, jv fa, .second, jv la, .second] [(.long la)])) (fun t k => XS.lloadN X1.here hx rfl (hb hby d3_10) rfl k) ?_
  refine Wk.go (A' := T1.setTop (mkF m 12 #[rv ob, jv fa, .second, jv la, .second] [(.long fa), (.long la)])) (fun t k => XS.lloadN X1.here hx rfl (hb hby d3_11) rfl k) ?_
  refine Wk.go (A' := T1.setTop (mkF m 13 #[rv ob, jv fa, .second, jv la, .second] [(.int (lcmpW la fa))])) (fun t k => XS.lcmp X1.here hx rfl (hb hby d3_12) rfl k) ?_
  have hc13 : ¬ (la < fa) := hla
  refine Wk.go (A' := T1.setTop (mkF m 31 #[rv ob, jv fa, .second, jv la, .second] [])) (fun t k => XS.ifYes X1.here hx rfl (pc0 := 13) (pc' := 31) rfl (hb hby d3_13) rfl ((if0 _ _).trans (flt (mt (lw_lt _ _).mp hc13)).2.1) (by decide) (by decide) k) ?_
  refine Wk.go (A' := T1.setTop (mkF m 32 #[rv ob, jv fa, .second, jv la, .second] [(.ref ob)])) (fun t k => XS.aloadN X1.here hx rfl (hb hby d3_31) rfl rfl k) ?_
  refine Wk.go (A' := T1.setTop (mkF m 33 #[rv ob, jv fa, .second, jv la, .second] [(.long fa), (.ref ob)])) (fun t k => XS.lloadN X1.here hx rfl (hb hby d3_32) rfl k) ?_
  obtain ⟨T2, h2, X2, e2, W2, st2⟩ := putF X1 hx hZ hown (host := "") (Or.inl (tw22 hw)) Via.refl (hE1) F_first E_ob (Or.inr ⟨(tw23 hw), rfl, hnm⟩) (tw9 hw) (ty := .long) (by decide) rfl rfl (g := (mkF m 33 #[rv ob, jv fa, .second, jv la, .second] [(.long fa), (.ref ob)])) rfl rfl (hb hby d3_33)
  have f3 := E_ob.wr W2
  have f4 := F_first.same W2
  have f5 := F_last.other W2 (Or.inr (sn_0 hw))
  have Zp2 : n0 ≤ h2.size := Nat.le_trans Z0 (Nat.le_of_eq W2.size.symm)
  have K2 := K0.wr W2 (Or.inl (List.mem_of_getElem? (i := 0) rfl))
  have N2 := Fr.snoc X2 N1 g_ob
  refine Wk.go (A' := T2.setTop (mkF m 36 #[rv ob, jv fa, .second, jv la, .second] [])) (fun t k => st2 t k) ?_
  refine Wk.go (A' := T2.setTop (mkF m 37 #[rv ob, jv fa, .second, jv la, .second] [(.ref ob)])) (fun t k => XS.aloadN X2.here hx rfl (hb hby d3_36) rfl rfl k) ?_
  refine Wk.go (A' := T2.setTop (mkF m 38 #[rv ob, jv fa, .second, jv la, .second] [(.long la), (.ref ob)])) (fun t k => XS.lloadN X2.here hx rfl (hb hby d3_37) rfl k) ?_
  obtain ⟨T6, h6, X6, e6, W6, st6⟩ := putF X2 hx hZ hown (host := "") (Or.inl (tw24 hw)) Via.refl e2 f5 f3 (Or.inr ⟨(tw25 hw), rfl, hnm⟩) (tw9 hw) (ty := .long) (by decide) rfl rfl (g := (mkF m 38 #[rv ob, jv fa, .second, jv la, .second] [(.long la), (.ref ob)])) rfl rfl (hb hby d3_38)
  have f7 := f3.wr W6
  have f8 := f4.other W6 (Or.inr (sn_1 hw))
  have f9 := f5.same W6
  have Zp6 : n0 ≤ h6.size := Nat.le_trans Zp2 (Nat.le_of_eq W6.size.symm)
  have K6 := K2.wr W6 (Or.inl (List.mem_of_getElem? (i := 0) rfl))
  have N6 := Fr.snoc X6 N2 g_ob
  refine Wk.go (A' := T6.setTop (mkF m 41 #[rv ob, jv fa, .second, jv la, .second] [])) (fun t k => st6 t k) ?_
  refine own_fin (Qv := Q3 Z ob fa la h0 n0) (v := none) X6 hlk (fun _ => rfl) (fun fs hr => X6.returnOut hx Bd.returns (hb hby d3_41) hr) ?_ (by decide) (by decide)
  show Q3 Z ob fa la h0 n0 _ T6.heap _
  rw [e6]
  exact ⟨rfl, N6, K6, f7, f8, f9⟩
theorem d6_0 : decode prog_18_method_2_code 0 = .ok (.aload_n 0, 1) := by decide +kernel
theorem d6_1 : decode prog_18_method_2_code 1 = .ok (.getfield 22, 3) := by decide +kernel
theorem d6_4 : decode prog_18_method_2_code 4 = .ok (.aload_n 0, 1) := by decide +kernel
theorem d6_5 : decode prog_18_method_2_code 5 = .ok (.getfield 16, 3) := by decide +kernel
theorem d6_8 : decode prog_18_method_2_code 8 = .ok (.lsub, 1) := by decide +kernel
theorem d6_9 : decode prog_18_method_2_code 9 = .ok (.lconst 1, 1) := by decide +kernel
theorem d6_10 : decode prog_18_method_2_code 10 = .ok (.ladd, 1) := by decide +kernel
theorem d6_11 : decode prog_18_method_2_code 11 = .ok (.lreturn, 1) := by decide +kernel
theorem ef_6 (m : MethodId) (x0 : Addr) : entryFrame m #[(.ref x0)] 1 = mkF m 0 #[rv x0] [] := by first | (simp [entryFrame, mkF, argsToLocals, Value.category]; done) | rfl
def f_rows (ob : Addr) (wf : Int64) (wl : Int64) : Int64 := ((wl - wf) + (1 : Int64))
def Q6 (Z : State) (ob : Addr) (wf : Int64) (wl : Int64) (h0 : Heap) (n0 : Nat) (v : Option Value) (h : Heap) (L : List Loc) : Prop := v = some (.long (f_rows ob wf wl)) ∧ Fr n0 L ∧ h = h0
set_option maxRecDepth 65536 in
set_option maxHeartbeats 40000000 in
theorem rm6 (l : Launch) (Z : State) (a0 : Array Value) (hw : ∀ d ∈ tables_1, d.before a0 Z = true) (ws : List Jvm.Cond) (ob : Addr) (wf : Int64) (wl : Int64) (h0 : Heap) (n0 : Nat) (Z0 : n0 ≤ h0.size) (E_ob : Exa Z h0 ob "com/example/bitbraid/bitbraid/RowRange") (F_first : Fld Z h0 ob "com/example/bitbraid/bitbraid/RowRange" "first" "J" (.long wf)) (F_last : Fld Z h0 ob "com/example/bitbraid/bitbraid/RowRange" "last" "J" (.long wl)) :
    MetFree l (⟨"com/example/bitbraid/bitbraid/RowRange", "rows", "()J"⟩ : MethodName) (head1 (Jvm.Cond.code (⟨"com/example/bitbraid/bitbraid/RowRange", "rows", "()J"⟩ : MethodName) prog_18_method_2_code 1 (some .long) :: ws) ({ frames := 0, cells := 0, slots := 0, locals := 0 } : Room)) (fun a U => a = #[(.ref ob)] ∧ Z.Warmed39 U.vm ∧ U.heap = h0) (fun _ _ _ _ _ => True) (fun _ U o U' => ∃ v L, o = .returned v ∧ Q6 Z ob wf wl h0 n0 v U'.heap L ∧ FrameEnd U o U' L ({ frames := 0, cells := 0, slots := 0, locals := 0 } : Room).cells ({ frames := 0, cells := 0, slots := 0, locals := 0 } : Room).slots) := by
  refine MetFree.of_bodySF (plainFor_of_name pn_1) hisR ?_
  intro p e s m args below meth c s₁ Bd hml0 hP hK
  obtain ⟨rfl, hZ, hh⟩ := hP
  have hx := Bd.exec
  have hby := Bd.bytes
  have hml : c.maxLocals = 1 := hml0
  have hown : s.vm.findClass "com/example/bitbraid/bitbraid/RowRange" = some m.cls := findClass_of_methodNamed Bd.named
  have hnm := (name_of_methodNamed Bd.named Bd.method).1
  have X0 : Stand p l e ({ frames := 0, cells := 0, slots := 0, locals := 0 } : Room) s m #[(.ref ob)] below meth c s₁ [] 0 0 := Stand.of_body Bd
  have e0 : s₁.heap = h0 := by rw [← hh, Bd.state]; rfl
  have N0 := Fr.nil n0
  have hlk : meth.locks = false := BodyLoose.notSynchronized Bd
  suffices hwk : Wk p.tables e below (s₁.setTop (mkF m 0 #[rv ob] [])) (fun U o => U.status = .running ∧ Ended U below o ∧ ∃ v L, o = .returned v ∧ Q6 Z ob wf wl h0 n0 v U.heap L ∧ FrameEnd s o U L 0 0) by
    obtain ⟨U, o, k1, k2⟩ := hwk
    exact ⟨U, o, castTop (ef_6 m ob) k1, k2⟩
  refine Wk.go (A' := s₁.setTop (mkF m 1 #[rv ob] [(.ref ob)])) (fun t k => XS.aloadN X0.here hx rfl (hb hby d6_0) rfl rfl k) ?_
  obtain ⟨T1, X1, e1, st1⟩ := getF X0 hx hZ hown (host := "") (Or.inl (tw24 hw)) Via.refl e0 F_last (g := (mkF m 1 #[rv ob] [(.ref ob)])) rfl rfl (hb hby d6_1)
  refine Wk.go (A' := T1.setTop (mkF m 4 #[rv ob] [(.long wl)])) (fun t k => st1 t k) ?_
  refine Wk.go (A' := T1.setTop (mkF m 5 #[rv ob] [(.ref ob), (.long wl)])) (fun t k => XS.aloadN X1.here hx rfl (hb hby d6_4) rfl rfl k) ?_
  obtain ⟨T2, X2, e2, st2⟩ := getF X1 hx hZ hown (host := "") (Or.inl (tw22 hw)) Via.refl e1 F_first (g := (mkF m 5 #[rv ob] [(.ref ob), (.long wl)])) rfl rfl (hb hby d6_5)
  refine Wk.go (A' := T2.setTop (mkF m 8 #[rv ob] [(.long wf), (.long wl)])) (fun t k => st2 t k) ?_
  refine Wk.go (A' := T2.setTop (mkF m 9 #[rv ob] [(.long (wl - wf))])) (fun t k => XS.lsub X2.here hx rfl (hb hby d6_8) rfl k) ?_
  refine Wk.go (A' := T2.setTop (mkF m 10 #[rv ob] [(.long (1 : Int64)), (.long (wl - wf))])) (fun t k => XS.lconst X2.here hx rfl (hb hby d6_9) k) ?_
  refine Wk.go (A' := T2.setTop (mkF m 11 #[rv ob] [(.long ((wl - wf) + (1 : Int64)))])) (fun t k => XS.ladd X2.here hx rfl (hb hby d6_10) rfl k) ?_
  refine own_fin (Qv := Q6 Z ob wf wl h0 n0) (v := some (.long ((wl - wf) + (1 : Int64)))) X2 hlk (fun h => by rw [Bd.returns] at h; cases h) (fun fs hr => X2.lreturnOut hx Bd.returns (hb hby d6_11) hr) ?_ (by decide) (by decide)
  refine ⟨?_, N0, e2⟩
  simp only [f_rows]
theorem own_min (a b : Int64) : (f_min a b).toInt = if a.toInt ≤ b.toInt then a.toInt else b.toInt := by
  unfold f_min
  simp only [Int64.lt_iff_toInt_lt]
  repeat' split
  all_goals first | rfl | omega
theorem own_max (a b : Int64) : (f_max a b).toInt = if a.toInt ≤ b.toInt then b.toInt else a.toInt := by
  unfold f_max
  simp only [Int64.lt_iff_toInt_lt]
  repeat' split
  all_goals first | rfl | omega
theorem own_pos (a : Int64) : 0 ≤ (a &&& (9223372036854775807 : Int64)).toInt := by
  have := c_maskL a 9223372036854775807 63 (by decide) (by decide)
  omega
theorem own_mid (x y z lo hi mid : Int64) (hx : 0 ≤ x.toInt) (hy : 0 ≤ y.toInt) (hz : 0 ≤ z.toInt) (hlo : f_min x (f_min y z) = lo) (hhi : f_max x (f_max y z) = hi) (hm : (((x + y) + z) - lo) - hi = mid) :
    0 ≤ lo.toInt ∧ lo.toInt ≤ mid.toInt ∧ mid.toInt ≤ hi.toInt := by
  have a1 := c_ladd x y
  have a2 := c_ladd (x + y) z
  have a3 := c_lsub ((x + y) + z) lo
  have a4 := c_lsub (((x + y) + z) - lo) hi
  rw [hm] at a4
  have rx := rng64 x
  have ry := rng64 y
  have rz := rng64 z
  have rm := rng64 mid
  have e1 : lo.toInt = _ := (congrArg Int64.toInt hlo).symm.trans (own_min x (f_min y z))
  have e2 : hi.toInt = _ := (congrArg Int64.toInt hhi).symm.trans (own_max x (f_max y z))
  rw [own_min] at e1
  rw [own_max] at e2
  generalize x.toInt = X at *
  generalize y.toInt = Y at *
  generalize z.toInt = W at *
  generalize lo.toInt = A at *
  generalize hi.toInt = B at *
  generalize mid.toInt = M at *
  by_cases q1 : Y ≤ W <;> by_cases q2 : X ≤ Y <;> by_cases q3 : X ≤ W <;> simp only [q1, q2, q3, if_true, if_false] at e1 e2 <;> omega
theorem own_le {a b : Int64} (h : a.toInt ≤ b.toInt) : ¬ (b < a) := by rw [Int64.lt_iff_toInt_lt]; omega
theorem own_nn {a : Int64} (h : 0 ≤ a.toInt) : ¬ (a < (0 : Int64)) := by rw [Int64.lt_iff_toInt_lt]; have e : (0 : Int64).toInt = 0 := (by decide); omega
theorem own_unit (o : Addr) (a : Int64) : f_rows o a a = 1 := by
  show (a - a) + (1 : Int64) = 1
  rw [Int64.sub_self]; rfl
theorem own_up {mid hi : Int64} (h : ¬ mid = hi) (hle : mid.toInt ≤ hi.toInt) (h0 : 0 ≤ mid.toInt) : 0 ≤ (mid + 1).toInt ∧ (mid + 1).toInt ≤ hi.toInt := by
  rw [← Int64.toInt_inj] at h
  have a := c_ladd mid 1
  have r := rng64 (mid + 1)
  have r2 := rng64 hi
  have e : (1 : Int64).toInt = 1 := by decide
  omega
theorem own_sum (o1 o2 o3 : Addr) (lo mid hi : Int64) : f_rows o1 lo mid + f_rows o2 (mid + 1) hi = f_rows o3 lo hi := by
  show ((mid - lo) + (1 : Int64)) + ((hi - (mid + 1)) + (1 : Int64)) = (hi - lo) + (1 : Int64)
  apply Int64.toInt_inj.mp
  have e : (1 : Int64).toInt = 1 := by decide
  have a1 := c_lsub mid lo
  have a2 := c_ladd (mid - lo) 1
  have a3 := c_ladd mid 1
  have a4 := c_lsub hi (mid + 1)
  have a5 := c_ladd (hi - (mid + 1)) 1
  have a6 := c_ladd ((mid - lo) + 1) ((hi - (mid + 1)) + 1)
  have a7 := c_lsub hi lo
  have a8 := c_ladd (hi - lo) 1
  have r1 := rng64 (((mid - lo) + (1 : Int64)) + ((hi - (mid + 1)) + (1 : Int64)))
  have r2 := rng64 ((hi - lo) + (1 : Int64))
  omega
theorem tw0 {Z : State} {a0 : Array Value} (hw : ∀ d ∈ tables_1, d.before a0 Z = true) : (Jvm.Cond.constantLong "com/example/bitbraid/bitbraid/RowRangeRowsPinLaw" (9 : Nat) (9223372036854775807 : Int64)).before a0 Z = true := hw _ (List.mem_of_getElem? (i := 0) rfl)
theorem tw1 {Z : State} {a0 : Array Value} (hw : ∀ d ∈ tables_1, d.before a0 Z = true) : (Jvm.Cond.methodLink "com/example/bitbraid/bitbraid/RowRangeRowsPinLaw" (11 : Nat) ({ cls := "java/lang/Math", name := "min", desc := "(JJ)J" } : Jvm.MethodName)).before a0 Z = true := hw _ (List.mem_of_getElem? (i := 1) rfl)
theorem tw4 {Z : State} {a0 : Array Value} (hw : ∀ d ∈ tables_1, d.before a0 Z = true) : (Jvm.Cond.code ({ cls := "java/lang/Math", name := "min", desc := "(JJ)J" } : Jvm.MethodName) jdk_29_method_70_code (4 : Nat) (Option.some Jvm.ClassFile.FieldType.long)).before a0 Z = true := hw _ (List.mem_of_getElem? (i := 4) rfl)
theorem tw3 {Z : State} {a0 : Array Value} (hw : ∀ d ∈ tables_1, d.before a0 Z = true) : (Jvm.Cond.initialized "java/lang/Math").before a0 Z = true := hw _ (List.mem_of_getElem? (i := 3) rfl)
theorem pd_1 : parseMethodDescriptor "(JJ)J" = some ⟨[.long, .long], some .long⟩ := by decide +kernel
theorem tw2 {Z : State} {a0 : Array Value} (hw : ∀ d ∈ tables_1, d.before a0 Z = true) : (Jvm.Cond.static ({ cls := "java/lang/Math", name := "min", desc := "(JJ)J" } : Jvm.MethodName)).before a0 Z = true := hw _ (List.mem_of_getElem? (i := 2) rfl)
theorem tw5 {Z : State} {a0 : Array Value} (hw : ∀ d ∈ tables_1, d.before a0 Z = true) : (Jvm.Cond.methodLink "com/example/bitbraid/bitbraid/RowRangeRowsPinLaw" (17 : Nat) ({ cls := "java/lang/Math", name := "max", desc := "(JJ)J" } : Jvm.MethodName)).before a0 Z = true := hw _ (List.mem_of_getElem? (i := 5) rfl)
theorem tw7 {Z : State} {a0 : Array Value} (hw : ∀ d ∈ tables_1, d.before a0 Z = true) : (Jvm.Cond.code ({ cls := "java/lang/Math", name := "max", desc := "(JJ)J" } : Jvm.MethodName) jdk_29_method_66_code (4 : Nat) (Option.some Jvm.ClassFile.FieldType.long)).before a0 Z = true := hw _ (List.mem_of_getElem? (i := 7) rfl)
theorem tw6 {Z : State} {a0 : Array Value} (hw : ∀ d ∈ tables_1, d.before a0 Z = true) : (Jvm.Cond.static ({ cls := "java/lang/Math", name := "max", desc := "(JJ)J" } : Jvm.MethodName)).before a0 Z = true := hw _ (List.mem_of_getElem? (i := 6) rfl)
theorem tw8 {Z : State} {a0 : Array Value} (hw : ∀ d ∈ tables_1, d.before a0 Z = true) : (Jvm.Cond.classLink "com/example/bitbraid/bitbraid/RowRangeRowsPinLaw" (20 : Nat) "com/example/bitbraid/bitbraid/RowRange").before a0 Z = true := hw _ (List.mem_of_getElem? (i := 8) rfl)
theorem tw10 {Z : State} {a0 : Array Value} (hw : ∀ d ∈ tables_1, d.before a0 Z = true) : (Jvm.Cond.initialized "com/example/bitbraid/bitbraid/RowRange").before a0 Z = true := hw _ (List.mem_of_getElem? (i := 10) rfl)
theorem tw11 {Z : State} {a0 : Array Value} (hw : ∀ d ∈ tables_1, d.before a0 Z = true) : (Jvm.Cond.methodLink "com/example/bitbraid/bitbraid/RowRangeRowsPinLaw" (22 : Nat) ({ cls := "com/example/bitbraid/bitbraid/RowRange", name := "<init>", desc := "(JJ)V" } : Jvm.MethodName)).before a0 Z = true := hw _ (List.mem_of_getElem? (i := 11) rfl)
theorem tw13 {Z : State} {a0 : Array Value} (hw : ∀ d ∈ tables_1, d.before a0 Z = true) : (Jvm.Cond.code ({ cls := "com/example/bitbraid/bitbraid/RowRange", name := "<init>", desc := "(JJ)V" } : Jvm.MethodName) prog_18_method_1_code (5 : Nat) (Option.none : Option Jvm.ClassFile.FieldType)).before a0 Z = true := hw _ (List.mem_of_getElem? (i := 13) rfl)
theorem pd_2 : parseMethodDescriptor "(JJ)V" = some ⟨[.long, .long], none⟩ := by decide +kernel
theorem tw12 {Z : State} {a0 : Array Value} (hw : ∀ d ∈ tables_1, d.before a0 Z = true) : (Jvm.Cond.instanceMethod ({ cls := "com/example/bitbraid/bitbraid/RowRange", name := "<init>", desc := "(JJ)V" } : Jvm.MethodName)).before a0 Z = true := hw _ (List.mem_of_getElem? (i := 12) rfl)
theorem tw26 {Z : State} {a0 : Array Value} (hw : ∀ d ∈ tables_1, d.before a0 Z = true) : (Jvm.Cond.methodLink "com/example/bitbraid/bitbraid/RowRangeRowsPinLaw" (25 : Nat) ({ cls := "com/example/bitbraid/bitbraid/RowRange", name := "rows", desc := "()J" } : Jvm.MethodName)).before a0 Z = true := hw _ (List.mem_of_getElem? (i := 26) rfl)
theorem tw30 {Z : State} {a0 : Array Value} (hw : ∀ d ∈ tables_1, d.before a0 Z = true) : (Jvm.Cond.code ({ cls := "com/example/bitbraid/bitbraid/RowRange", name := "rows", desc := "()J" } : Jvm.MethodName) prog_18_method_2_code (1 : Nat) (Option.some Jvm.ClassFile.FieldType.long)).before a0 Z = true := hw _ (List.mem_of_getElem? (i := 30) rfl)
theorem pd_3 : parseMethodDescriptor "()J" = some ⟨[], some .long⟩ := by decide +kernel
theorem tw29 {Z : State} {a0 : Array Value} (hw : ∀ d ∈ tables_1, d.before a0 Z = true) : (Jvm.Cond.selects "com/example/bitbraid/bitbraid/RowRange" ({ cls := "com/example/bitbraid/bitbraid/RowRange", name := "rows", desc := "()J" } : Jvm.MethodName) ({ cls := "com/example/bitbraid/bitbraid/RowRange", name := "rows", desc := "()J" } : Jvm.MethodName)).before a0 Z = true := hw _ (List.mem_of_getElem? (i := 29) rfl)
theorem tw27 {Z : State} {a0 : Array Value} (hw : ∀ d ∈ tables_1, d.before a0 Z = true) : (Jvm.Cond.declares ({ cls := "com/example/bitbraid/bitbraid/RowRange", name := "rows", desc := "()J" } : Jvm.MethodName)).before a0 Z = true := hw _ (List.mem_of_getElem? (i := 27) rfl)
theorem tw28 {Z : State} {a0 : Array Value} (hw : ∀ d ∈ tables_1, d.before a0 Z = true) : (Jvm.Cond.instanceMethod ({ cls := "com/example/bitbraid/bitbraid/RowRange", name := "rows", desc := "()J" } : Jvm.MethodName)).before a0 Z = true := hw _ (List.mem_of_getElem? (i := 28) rfl)
theorem pn_2 : plainName "com/example/bitbraid/bitbraid/RowRangeRowsPinLaw" = true := by first | (simp [plainName, overriddenIn]; done) | decide +kernel
theorem ef_0 (m : MethodId) (x0 : Int64) (x1 : Int64) (x2 : Int64) : entryFrame m #[(.long x0), (.long x1), (.long x2)] maxLocals = mkF m 0 #[jv x0, .second, jv x1, .second, jv x2, .second, .unset, .unset, .unset, .unset, .unset, .unset, .unset, .unset, .unset, .unset, .unset, .unset, .unset, .unset, .unset, .unset] [] := by first | (simp [entryFrame, mkF, argsToLocals, Value.category, maxLocals]; done) | rfl
def Q0 (Z : State) (aa : Int64) (ba : Int64) (ca : Int64)  (h0 : Heap) (n0 : Nat) (v : Option Value) (h : Heap) (L : List Loc) : Prop := v = some (.int 1) ∧ Fr n0 L
set_option maxRecDepth 65536 in
set_option maxHeartbeats 40000000 in
theorem rm0 (l : Launch) (Z : State) (a0 : Array Value) (hw : ∀ d ∈ tables_1, d.before a0 Z = true) (ws : List Jvm.Cond) (aa : Int64) (ba : Int64) (ca : Int64)  (h0 : Heap) (n0 : Nat) (Z0 : n0 ≤ h0.size)  :
    MetFree l x (head1 (Jvm.Cond.code x code maxLocals ret :: ws) room_1) (fun a U => a = #[(.long aa), (.long ba), (.long ca)] ∧ Z.Warmed39 U.vm ∧ U.heap = h0) (fun _ _ _ _ _ => True) (fun _ U o U' => ∃ v L, o = .returned v ∧ Q0 Z aa ba ca h0 n0 v U'.heap L ∧ FrameEnd U o U' L 4 8) := by
  refine MetFree.of_bodySF (plainFor_of_name pn_2) hisR ?_
  intro p e s m args below meth c s₁ Bd hml0 hP hK
  obtain ⟨rfl, hZ, hh⟩ := hP
  have hx := Bd.exec
  have hby := Bd.bytes
  have hml : c.maxLocals = 22 := hml0
  have hown : s.vm.findClass "com/example/bitbraid/bitbraid/RowRangeRowsPinLaw" = some m.cls := findClass_of_methodNamed Bd.named
  have hnm := (name_of_methodNamed Bd.named Bd.method).1
  have X0 : Stand p l e room_1 s m #[(.long aa), (.long ba), (.long ca)] below meth c s₁ [] 0 0 := Stand.of_body Bd
  have e0 : s₁.heap = h0 := by rw [← hh, Bd.state]; rfl
  have N0 := Fr.nil n0
  have hlk : meth.locks = false := BodyLoose.notSynchronized Bd
  suffices hwk : Wk p.tables e below (s₁.setTop (mkF m 0 #[jv aa, .second, jv ba, .second, jv ca, .second, .unset, .unset, .unset, .unset, .unset, .unset, .unset, .unset, .unset, .unset, .unset, .unset, .unset, .unset, .unset, .unset] [])) (fun U o => U.status = .running ∧ Ended U below o ∧ ∃ v L, o = .returned v ∧ Q0 Z aa ba ca h0 n0 v U.heap L ∧ FrameEnd s o U L 4 8) by
    obtain ⟨U, o, k1, k2⟩ := hwk
    exact ⟨U, o, castTop (ef_0 m aa ba ca) k1, k2⟩
  refine Wk.go (A' := s₁.setTop (mkF m 1 #[jv aa, .second, jv ba, .second, jv ca, .second, .unset, .unset, .unset, .unset, .unset, .unset, .unset, .unset, .unset, .unset, .unset, .unset, .unset, .unset, .unset, .unset] [(.long aa)])) (fun t k => XS.lloadN X0.here hx rfl (hb hby at_0) rfl k) ?_
  refine Wk.go (A' := s₁.setTop (mkF m 4 #[jv aa, .second, jv ba, .second, jv ca, .second, .unset, .unset, .unset, .unset, .unset, .unset, .unset, .unset, .unset, .unset, .unset, .unset, .unset, .unset, .unset, .unset] [(.long (9223372036854775807 : Int64)), (.long aa)])) (fun t k => X0.ldc2Long hx hown (mvT hZ (tw0 hw)) (g := (mkF m 1 #[jv aa, .second, jv ba, .second, jv ca, .second, .unset, .unset, .unset, .unset, .unset, .unset, .unset, .unset, .unset, .unset, .unset, .unset, .unset, .unset, .unset, .unset] [(.long aa)])) rfl (hb hby at_1) t k) ?_
  refine Wk.go (A' := s₁.setTop (mkF m 5 #[jv aa, .second, jv ba, .second, jv ca, .second, .unset, .unset, .unset, .unset, .unset, .unset, .unset, .unset, .unset, .unset, .unset, .unset, .unset, .unset, .unset, .unset] [(.long (aa &&& (9223372036854775807 : Int64)))])) (fun t k => XS.land X0.here hx rfl (hb hby at_4) rfl k) ?_
  refine Wk.go (A' := s₁.setTop (mkF m 7 #[jv aa, .second, jv ba, .second, jv ca, .second, jv (aa &&& (9223372036854775807 : Int64)), .second, .unset, .unset, .unset, .unset, .unset, .unset, .unset, .unset, .unset, .unset, .unset, .unset, .unset, .unset] [])) (fun t k => XS.lstore X0.here hx rfl (hb hby at_5) rfl (l' := #[jv aa, .second, jv ba, .second, jv ca, .second, jv (aa &&& (9223372036854775807 : Int64)), .second, .unset, .unset, .unset, .unset, .unset, .unset, .unset, .unset, .unset, .unset, .unset, .unset, .unset, .unset]) rfl k) ?_
  generalize hxx : (aa &&& (9223372036854775807 : Int64)) = xx
  refine Wk.go (A' := s₁.setTop (mkF m 8 #[jv aa, .second, jv ba, .second, jv ca, .second, jv xx, .second, .unset, .unset, .unset, .unset, .unset, .unset, .unset, .unset, .unset, .unset, .unset, .unset, .unset, .unset] [(.long ba)])) (fun t k => XS.lloadN X0.here hx rfl (hb hby at_7) rfl k) ?_
  refine Wk.go (A' := s₁.setTop (mkF m 11 #[jv aa, .second, jv ba, .second, jv ca, .second, jv xx, .second, .unset, .unset, .unset, .unset, .unset, .unset, .unset, .unset, .unset, .unset, .unset, .unset, .unset, .unset] [(.long (9223372036854775807 : Int64)), (.long ba)])) (fun t k => X0.ldc2Long hx hown (mvT hZ (tw0 hw)) (g := (mkF m 8 #[jv aa, .second, jv ba, .second, jv ca, .second, jv xx, .second, .unset, .unset, .unset, .unset, .unset, .unset, .unset, .unset, .unset, .unset, .unset, .unset, .unset, .unset] [(.long ba)])) rfl (hb hby at_8) t k) ?_
  refine Wk.go (A' := s₁.setTop (mkF m 12 #[jv aa, .second, jv ba, .second, jv ca, .second, jv xx, .second, .unset, .unset, .unset, .unset, .unset, .unset, .unset, .unset, .unset, .unset, .unset, .unset, .unset, .unset] [(.long (ba &&& (9223372036854775807 : Int64)))])) (fun t k => XS.land X0.here hx rfl (hb hby at_11) rfl k) ?_
  refine Wk.go (A' := s₁.setTop (mkF m 14 #[jv aa, .second, jv ba, .second, jv ca, .second, jv xx, .second, jv (ba &&& (9223372036854775807 : Int64)), .second, .unset, .unset, .unset, .unset, .unset, .unset, .unset, .unset, .unset, .unset, .unset, .unset] [])) (fun t k => XS.lstore X0.here hx rfl (hb hby at_12) rfl (l' := #[jv aa, .second, jv ba, .second, jv ca, .second, jv xx, .second, jv (ba &&& (9223372036854775807 : Int64)), .second, .unset, .unset, .unset, .unset, .unset, .unset, .unset, .unset, .unset, .unset, .unset, .unset]) rfl k) ?_
  generalize hyy : (ba &&& (9223372036854775807 : Int64)) = yy
  refine Wk.go (A' := s₁.setTop (mkF m 16 #[jv aa, .second, jv ba, .second, jv ca, .second, jv xx, .second, jv yy, .second, .unset, .unset, .unset, .unset, .unset, .unset, .unset, .unset, .unset, .unset, .unset, .unset] [(.long ca)])) (fun t k => XS.lload X0.here hx rfl (hb hby at_14) rfl k) ?_
  refine Wk.go (A' := s₁.setTop (mkF m 19 #[jv aa, .second, jv ba, .second, jv ca, .second, jv xx, .second, jv yy, .second, .unset, .unset, .unset, .unset, .unset, .unset, .unset, .unset, .unset, .unset, .unset, .unset] [(.long (9223372036854775807 : Int64)), (.long ca)])) (fun t k => X0.ldc2Long hx hown (mvT hZ (tw0 hw)) (g := (mkF m 16 #[jv aa, .second, jv ba, .second, jv ca, .second, jv xx, .second, jv yy, .second, .unset, .unset, .unset, .unset, .unset, .unset, .unset, .unset, .unset, .unset, .unset, .unset] [(.long ca)])) rfl (hb hby at_16) t k) ?_
  refine Wk.go (A' := s₁.setTop (mkF m 20 #[jv aa, .second, jv ba, .second, jv ca, .second, jv xx, .second, jv yy, .second, .unset, .unset, .unset, .unset, .unset, .unset, .unset, .unset, .unset, .unset, .unset, .unset] [(.long (ca &&& (9223372036854775807 : Int64)))])) (fun t k => XS.land X0.here hx rfl (hb hby at_19) rfl k) ?_
  refine Wk.go (A' := s₁.setTop (mkF m 22 #[jv aa, .second, jv ba, .second, jv ca, .second, jv xx, .second, jv yy, .second, jv (ca &&& (9223372036854775807 : Int64)), .second, .unset, .unset, .unset, .unset, .unset, .unset, .unset, .unset, .unset, .unset] [])) (fun t k => XS.lstore X0.here hx rfl (hb hby at_20) rfl (l' := #[jv aa, .second, jv ba, .second, jv ca, .second, jv xx, .second, jv yy, .second, jv (ca &&& (9223372036854775807 : Int64)), .second, .unset, .unset, .unset, .unset, .unset, .unset, .unset, .unset, .unset, .unset]) rfl k) ?_
  generalize hzz : (ca &&& (9223372036854775807 : Int64)) = zz
  refine Wk.go (A' := s₁.setTop (mkF m 24 #[jv aa, .second, jv ba, .second, jv ca, .second, jv xx, .second, jv yy, .second, jv zz, .second, .unset, .unset, .unset, .unset, .unset, .unset, .unset, .unset, .unset, .unset] [(.long xx)])) (fun t k => XS.lload X0.here hx rfl (hb hby at_22) rfl k) ?_
  refine Wk.go (A' := s₁.setTop (mkF m 26 #[jv aa, .second, jv ba, .second, jv ca, .second, jv xx, .second, jv yy, .second, jv zz, .second, .unset, .unset, .unset, .unset, .unset, .unset, .unset, .unset, .unset, .unset] [(.long yy), (.long xx)])) (fun t k => XS.lload X0.here hx rfl (hb hby at_24) rfl k) ?_
  refine Wk.go (A' := s₁.setTop (mkF m 28 #[jv aa, .second, jv ba, .second, jv ca, .second, jv xx, .second, jv yy, .second, jv zz, .second, .unset, .unset, .unset, .unset, .unset, .unset, .unset, .unset, .unset, .unset] [(.long zz), (.long yy), (.long xx)])) (fun t k => XS.lload X0.here hx rfl (hb hby at_26) rfl k) ?_
  obtain ⟨_, _, ⟨T1, L1, k1, n1⟩, -, X1, ⟨Lc1, hQ1, l1, y1, z1⟩, st1⟩ := Jvm.LawKit.callS X0 hx (y := (⟨"java/lang/Math", "min", "(JJ)J"⟩ : MethodName)) hown (mvT hZ (tw1 hw)) (mvT hZ (tw2 hw)) (mvT hZ (tw3 hw)) (mvT hZ (tw4 hw)) (by decide) (backOf (W := 2) (rm1 l Z a0 hw [] yy zz  h0 n0 Z0 ) hZ (tw4 hw) (tw3 hw) (by decide) (by decide)) (g := (mkF m 28 #[jv aa, .second, jv ba, .second, jv ca, .second, jv xx, .second, jv yy, .second, jv zz, .second, .unset, .unset, .unset, .unset, .unset, .unset, .unset, .unset, .unset, .unset] [(.long zz), (.long yy), (.long xx)])) rfl (by rw [hml]; rfl) (argsL := [(.long yy), (.long zz)]) (rest := [(.long xx)]) (lenOf pd_1 rfl) rfl (by show 2 * 0 + _ ≤ _; exact Nat.le_of_eq rfl) (hb hby at_28) (fun _ _ => ⟨rfl, e0, (by decide : 0 + 0 ≤ _), (by decide : 0 + 0 ≤ _)⟩)
  dsimp only [Pt.U, Pt.locs, Pt.cells, Pt.slots] at X1 l1 y1 z1 st1 hQ1
  subst l1 y1 z1
  obtain ⟨rfl, N1q, hE1⟩ := hQ1
  have N1 := Fr.app N0 N1q
  refine Wk.go (A' := T1.setTop (mkF m 31 #[jv aa, .second, jv ba, .second, jv ca, .second, jv xx, .second, jv yy, .second, jv zz, .second, .unset, .unset, .unset, .unset, .unset, .unset, .unset, .unset, .unset, .unset] [(.long (f_min yy zz)), (.long xx)])) (fun t k => st1 t k) ?_
  obtain ⟨_, _, ⟨T2, L2, k2, n2⟩, -, X2, ⟨Lc2, hQ2, l2, y2, z2⟩, st2⟩ := Jvm.LawKit.callS X1 hx (y := (⟨"java/lang/Math", "min", "(JJ)J"⟩ : MethodName)) hown (mvT hZ (tw1 hw)) (mvT hZ (tw2 hw)) (mvT hZ (tw3 hw)) (mvT hZ (tw4 hw)) (by decide) (backOf (W := 0) (rm1 l Z a0 hw [] xx (f_min yy zz)  h0 n0 Z0 ) hZ (tw4 hw) (tw3 hw) (by decide) (by decide)) (g := (mkF m 31 #[jv aa, .second, jv ba, .second, jv ca, .second, jv xx, .second, jv yy, .second, jv zz, .second, .unset, .unset, .unset, .unset, .unset, .unset, .unset, .unset, .unset, .unset] [(.long (f_min yy zz)), (.long xx)])) rfl (by rw [hml]; rfl) (argsL := [(.long xx), (.long (f_min yy zz))]) (rest := []) (lenOf pd_1 rfl) rfl (by show 2 * 0 + _ ≤ _; exact Nat.le_of_eq rfl) (hb hby at_31) (fun _ _ => ⟨rfl, (hE1), (by decide : 0 + 0 ≤ _), (by decide : 0 + 0 ≤ _)⟩)
  dsimp only [Pt.U, Pt.locs, Pt.cells, Pt.slots] at X2 l2 y2 z2 st2 hQ2
  subst l2 y2 z2
  obtain ⟨rfl, N2q, hE2⟩ := hQ2
  have N2 := Fr.app N1 N2q
  refine Wk.go (A' := T2.setTop (mkF m 34 #[jv aa, .second, jv ba, .second, jv ca, .second, jv xx, .second, jv yy, .second, jv zz, .second, .unset, .unset, .unset, .unset, .unset, .unset, .unset, .unset, .unset, .unset] [(.long (f_min xx (f_min yy zz)))])) (fun t k => st2 t k) ?_
  refine Wk.go (A' := T2.setTop (mkF m 36 #[jv aa, .second, jv ba, .second, jv ca, .second, jv xx, .second, jv yy, .second, jv zz, .second, jv (f_min xx (f_min yy zz)), .second, .unset, .unset, .unset, .unset, .unset, .unset, .unset, .unset] [])) (fun t k => XS.lstore X2.here hx rfl (hb hby at_34) rfl (l' := #[jv aa, .second, jv ba, .second, jv ca, .second, jv xx, .second, jv yy, .second, jv zz, .second, jv (f_min xx (f_min yy zz)), .second, .unset, .unset, .unset, .unset, .unset, .unset, .unset, .unset]) rfl k) ?_
  generalize hlo : (f_min xx (f_min yy zz)) = lo
  refine Wk.go (A' := T2.setTop (mkF m 38 #[jv aa, .second, jv ba, .second, jv ca, .second, jv xx, .second, jv yy, .second, jv zz, .second, jv lo, .second, .unset, .unset, .unset, .unset, .unset, .unset, .unset, .unset] [(.long xx)])) (fun t k => XS.lload X2.here hx rfl (hb hby at_36) rfl k) ?_
  refine Wk.go (A' := T2.setTop (mkF m 40 #[jv aa, .second, jv ba, .second, jv ca, .second, jv xx, .second, jv yy, .second, jv zz, .second, jv lo, .second, .unset, .unset, .unset, .unset, .unset, .unset, .unset, .unset] [(.long yy), (.long xx)])) (fun t k => XS.lload X2.here hx rfl (hb hby at_38) rfl k) ?_
  refine Wk.go (A' := T2.setTop (mkF m 42 #[jv aa, .second, jv ba, .second, jv ca, .second, jv xx, .second, jv yy, .second, jv zz, .second, jv lo, .second, .unset, .unset, .unset, .unset, .unset, .unset, .unset, .unset] [(.long zz), (.long yy), (.long xx)])) (fun t k => XS.lload X2.here hx rfl (hb hby at_40) rfl k) ?_
  obtain ⟨_, _, ⟨T3, L3, k3, n3⟩, -, X3, ⟨Lc3, hQ3, l3, y3, z3⟩, st3⟩ := Jvm.LawKit.callS X2 hx (y := (⟨"java/lang/Math", "max", "(JJ)J"⟩ : MethodName)) hown (mvT hZ (tw5 hw)) (mvT hZ (tw6 hw)) (mvT hZ (tw3 hw)) (mvT hZ (tw7 hw)) (by decide) (backOf (W := 2) (rm2 l Z a0 hw [] yy zz  h0 n0 Z0 ) hZ (tw7 hw) (tw3 hw) (by decide) (by decide)) (g := (mkF m 42 #[jv aa, .second, jv ba, .second, jv ca, .second, jv xx, .second, jv yy, .second, jv zz, .second, jv lo, .second, .unset, .unset, .unset, .unset, .unset, .unset, .unset, .unset] [(.long zz), (.long yy), (.long xx)])) rfl (by rw [hml]; rfl) (argsL := [(.long yy), (.long zz)]) (rest := [(.long xx)]) (lenOf pd_1 rfl) rfl (by show 2 * 0 + _ ≤ _; exact Nat.le_of_eq rfl) (hb hby at_42) (fun _ _ => ⟨rfl, (hE2), (by decide : 0 + 0 ≤ _), (by decide : 0 + 0 ≤ _)⟩)
  dsimp only [Pt.U, Pt.locs, Pt.cells, Pt.slots] at X3 l3 y3 z3 st3 hQ3
  subst l3 y3 z3
  obtain ⟨rfl, N3q, hE3⟩ := hQ3
  have N3 := Fr.app N2 N3q
  refine Wk.go (A' := T3.setTop (mkF m 45 #[jv aa, .second, jv ba, .second, jv ca, .second, jv xx, .second, jv yy, .second, jv zz, .second, jv lo, .second, .unset, .unset, .unset, .unset, .unset, .unset, .unset, .unset] [(.long (f_max yy zz)), (.long xx)])) (fun t k => st3 t k) ?_
  obtain ⟨_, _, ⟨T4, L4, k4, n4⟩, -, X4, ⟨Lc4, hQ4, l4, y4, z4⟩, st4⟩ := Jvm.LawKit.callS X3 hx (y := (⟨"java/lang/Math", "max", "(JJ)J"⟩ : MethodName)) hown (mvT hZ (tw5 hw)) (mvT hZ (tw6 hw)) (mvT hZ (tw3 hw)) (mvT hZ (tw7 hw)) (by decide) (backOf (W := 0) (rm2 l Z a0 hw [] xx (f_max yy zz)  h0 n0 Z0 ) hZ (tw7 hw) (tw3 hw) (by decide) (by decide)) (g := (mkF m 45 #[jv aa, .second, jv ba, .second, jv ca, .second, jv xx, .second, jv yy, .second, jv zz, .second, jv lo, .second, .unset, .unset, .unset, .unset, .unset, .unset, .unset, .unset] [(.long (f_max yy zz)), (.long xx)])) rfl (by rw [hml]; rfl) (argsL := [(.long xx), (.long (f_max yy zz))]) (rest := []) (lenOf pd_1 rfl) rfl (by show 2 * 0 + _ ≤ _; exact Nat.le_of_eq rfl) (hb hby at_45) (fun _ _ => ⟨rfl, (hE3), (by decide : 0 + 0 ≤ _), (by decide : 0 + 0 ≤ _)⟩)
  dsimp only [Pt.U, Pt.locs, Pt.cells, Pt.slots] at X4 l4 y4 z4 st4 hQ4
  subst l4 y4 z4
  obtain ⟨rfl, N4q, hE4⟩ := hQ4
  have N4 := Fr.app N3 N4q
  refine Wk.go (A' := T4.setTop (mkF m 48 #[jv aa, .second, jv ba, .second, jv ca, .second, jv xx, .second, jv yy, .second, jv zz, .second, jv lo, .second, .unset, .unset, .unset, .unset, .unset, .unset, .unset, .unset] [(.long (f_max xx (f_max yy zz)))])) (fun t k => st4 t k) ?_
  refine Wk.go (A' := T4.setTop (mkF m 50 #[jv aa, .second, jv ba, .second, jv ca, .second, jv xx, .second, jv yy, .second, jv zz, .second, jv lo, .second, jv (f_max xx (f_max yy zz)), .second, .unset, .unset, .unset, .unset, .unset, .unset] [])) (fun t k => XS.lstore X4.here hx rfl (hb hby at_48) rfl (l' := #[jv aa, .second, jv ba, .second, jv ca, .second, jv xx, .second, jv yy, .second, jv zz, .second, jv lo, .second, jv (f_max xx (f_max yy zz)), .second, .unset, .unset, .unset, .unset, .unset, .unset]) rfl k) ?_
  generalize hhi : (f_max xx (f_max yy zz)) = hi
  refine Wk.go (A' := T4.setTop (mkF m 52 #[jv aa, .second, jv ba, .second, jv ca, .second, jv xx, .second, jv yy, .second, jv zz, .second, jv lo, .second, jv hi, .second, .unset, .unset, .unset, .unset, .unset, .unset] [(.long xx)])) (fun t k => XS.lload X4.here hx rfl (hb hby at_50) rfl k) ?_
  refine Wk.go (A' := T4.setTop (mkF m 54 #[jv aa, .second, jv ba, .second, jv ca, .second, jv xx, .second, jv yy, .second, jv zz, .second, jv lo, .second, jv hi, .second, .unset, .unset, .unset, .unset, .unset, .unset] [(.long yy), (.long xx)])) (fun t k => XS.lload X4.here hx rfl (hb hby at_52) rfl k) ?_
  refine Wk.go (A' := T4.setTop (mkF m 55 #[jv aa, .second, jv ba, .second, jv ca, .second, jv xx, .second, jv yy, .second, jv zz, .second, jv lo, .second, jv hi, .second, .unset, .unset, .unset, .unset, .unset, .unset] [(.long (xx + yy))])) (fun t k => XS.ladd X4.here hx rfl (hb hby at_54) rfl k) ?_
  refine Wk.go (A' := T4.setTop (mkF m 57 #[jv aa, .second, jv ba, .second, jv ca, .second, jv xx, .second, jv yy, .second, jv zz, .second, jv lo, .second, jv hi, .second, .unset, .unset, .unset, .unset, .unset, .unset] [(.long zz), (.long (xx + yy))])) (fun t k => XS.lload X4.here hx rfl (hb hby at_55) rfl k) ?_
  refine Wk.go (A' := T4.setTop (mkF m 58 #[jv aa, .second, jv ba, .second, jv ca, .second, jv xx, .second, jv yy, .second, jv zz, .second, jv lo, .second, jv hi, .second, .unset, .unset, .unset, .unset, .unset, .unset] [(.long ((xx + yy) + zz))])) (fun t k => XS.ladd X4.here hx rfl (hb hby at_57) rfl k) ?_
  refine Wk.go (A' := T4.setTop (mkF m 60 #[jv aa, .second, jv ba, .second, jv ca, .second, jv xx, .second, jv yy, .second, jv zz, .second, jv lo, .second, jv hi, .second, .unset, .unset, .unset, .unset, .unset, .unset] [(.long lo), (.long ((xx + yy) + zz))])) (fun t k => XS.lload X4.here hx rfl (hb hby at_58) rfl k) ?_
  refine Wk.go (A' := T4.setTop (mkF m 61 #[jv aa, .second, jv ba, .second, jv ca, .second, jv xx, .second, jv yy, .second, jv zz, .second, jv lo, .second, jv hi, .second, .unset, .unset, .unset, .unset, .unset, .unset] [(.long (((xx + yy) + zz) - lo))])) (fun t k => XS.lsub X4.here hx rfl (hb hby at_60) rfl k) ?_
  refine Wk.go (A' := T4.setTop (mkF m 63 #[jv aa, .second, jv ba, .second, jv ca, .second, jv xx, .second, jv yy, .second, jv zz, .second, jv lo, .second, jv hi, .second, .unset, .unset, .unset, .unset, .unset, .unset] [(.long hi), (.long (((xx + yy) + zz) - lo))])) (fun t k => XS.lload X4.here hx rfl (hb hby at_61) rfl k) ?_
  refine Wk.go (A' := T4.setTop (mkF m 64 #[jv aa, .second, jv ba, .second, jv ca, .second, jv xx, .second, jv yy, .second, jv zz, .second, jv lo, .second, jv hi, .second, .unset, .unset, .unset, .unset, .unset, .unset] [(.long ((((xx + yy) + zz) - lo) - hi))])) (fun t k => XS.lsub X4.here hx rfl (hb hby at_63) rfl k) ?_
  refine Wk.go (A' := T4.setTop (mkF m 66 #[jv aa, .second, jv ba, .second, jv ca, .second, jv xx, .second, jv yy, .second, jv zz, .second, jv lo, .second, jv hi, .second, jv ((((xx + yy) + zz) - lo) - hi), .second, .unset, .unset, .unset, .unset] [])) (fun t k => XS.lstore X4.here hx rfl (hb hby at_64) rfl (l' := #[jv aa, .second, jv ba, .second, jv ca, .second, jv xx, .second, jv yy, .second, jv zz, .second, jv lo, .second, jv hi, .second, jv ((((xx + yy) + zz) - lo) - hi), .second, .unset, .unset, .unset, .unset]) rfl k) ?_
  generalize hmid : ((((xx + yy) + zz) - lo) - hi) = mid
  obtain ⟨m1, m2, m3⟩ := own_mid xx yy zz lo hi mid (by rw [← hxx]; exact own_pos _) (by rw [← hyy]; exact own_pos _) (by rw [← hzz]; exact own_pos _) hlo hhi hmid
  obtain ⟨T5, h5, X5, e5, E5, A5, D5, -, st5⟩ := newO X4 hx hZ hown (tw8 hw) (tw9 hw) (tw10 hw) (hE4) (g := (mkF m 66 #[jv aa, .second, jv ba, .second, jv ca, .second, jv xx, .second, jv yy, .second, jv zz, .second, jv lo, .second, jv hi, .second, jv mid, .second, .unset, .unset, .unset, .unset] [])) rfl (hb hby at_66) (by decide) (by decide)
  obtain ⟨b5, g5⟩ : ∃ z, z = h0.size := ⟨_, rfl⟩
  rw [← g5] at A5 D5 st5
  have g_b5 : n0 ≤ b5 := Nat.le_trans Z0 (Nat.le_of_eq g5.symm)
  have F_first_b5 : Fld Z h5 b5 "com/example/bitbraid/bitbraid/RowRange" "first" "J" (.long (0 : Int64)) := D5 (Or.inr (tw23 hw)) (ty := .long) (by decide)
  have F_last_b5 : Fld Z h5 b5 "com/example/bitbraid/bitbraid/RowRange" "last" "J" (.long (0 : Int64)) := D5 (Or.inr (tw25 hw)) (ty := .long) (by decide)
  have Zp5 : n0 ≤ h5.size := Nat.le_trans Z0 E5.1
  refine Wk.go (A' := T5.setTop (mkF m 69 #[jv aa, .second, jv ba, .second, jv ca, .second, jv xx, .second, jv yy, .second, jv zz, .second, jv lo, .second, jv hi, .second, jv mid, .second, .unset, .unset, .unset, .unset] [(.ref b5)])) (fun t k => st5 t k) ?_
  refine Wk.go (A' := T5.setTop (mkF m 70 #[jv aa, .second, jv ba, .second, jv ca, .second, jv xx, .second, jv yy, .second, jv zz, .second, jv lo, .second, jv hi, .second, jv mid, .second, .unset, .unset, .unset, .unset] [(.ref b5), (.ref b5)])) (fun t k => XS.dup X5.here hx rfl (hb hby at_69) rfl rfl k) ?_
  refine Wk.go (A' := T5.setTop (mkF m 72 #[jv aa, .second, jv ba, .second, jv ca, .second, jv xx, .second, jv yy, .second, jv zz, .second, jv lo, .second, jv hi, .second, jv mid, .second, .unset, .unset, .unset, .unset] [(.long lo), (.ref b5), (.ref b5)])) (fun t k => XS.lload X5.here hx rfl (hb hby at_70) rfl k) ?_
  refine Wk.go (A' := T5.setTop (mkF m 74 #[jv aa, .second, jv ba, .second, jv ca, .second, jv xx, .second, jv yy, .second, jv zz, .second, jv lo, .second, jv hi, .second, jv mid, .second, .unset, .unset, .unset, .unset] [(.long hi), (.long lo), (.ref b5), (.ref b5)])) (fun t k => XS.lload X5.here hx rfl (hb hby at_72) rfl k) ?_
  obtain ⟨_, _, ⟨T6, L6, k6, n6⟩, -, X6, ⟨Lc6, hQ6, l6, y6, z6⟩, st6⟩ := X5.specialBack hx (y := (⟨"com/example/bitbraid/bitbraid/RowRange", "<init>", "(JJ)V"⟩ : MethodName)) rfl hown (mvT hZ (tw11 hw)) (mvT hZ (tw12 hw)) (mvT hZ (tw13 hw)) (by decide) (backOf (W := 1) (rm3 l Z a0 hw [] b5 lo hi  h5 n0 Zp5 A5 F_first_b5 F_last_b5 g_b5 (own_nn m1) (own_le (Int.le_trans m2 m3))) hZ (tw13 hw) (tw10 hw) (by decide) (by decide)) (g := (mkF m 74 #[jv aa, .second, jv ba, .second, jv ca, .second, jv xx, .second, jv yy, .second, jv zz, .second, jv lo, .second, jv hi, .second, jv mid, .second, .unset, .unset, .unset, .unset] [(.long hi), (.long lo), (.ref b5), (.ref b5)])) rfl (by rw [hml]; rfl) (Steps.refl _) (a := b5) (argsL := [(.long lo), (.long hi)]) (rest := [(.ref b5)]) (lenOf pd_2 rfl) rfl (by show 2 * 0 + _ ≤ _; exact Nat.le_of_eq rfl) (hb hby at_74) (fun _ _ => ⟨rfl, e5, (by decide : 1 + 0 ≤ _), (by decide : 2 + 0 ≤ _)⟩)
  dsimp only [Pt.U, Pt.locs, Pt.cells, Pt.slots] at X6 l6 y6 z6 st6 hQ6
  subst l6 y6 z6
  obtain ⟨rfl, N6q, Kq6, Eq6, Fq6_first, Fq6_last⟩ := hQ6
  have N6 := Fr.app N4 N6q
  have f7 := A5.keep Kq6
  have Zp6 : n0 ≤ T6.heap.size := Nat.le_trans Zp5 Kq6.1
  refine Wk.go (A' := T6.setTop (mkF m 77 #[jv aa, .second, jv ba, .second, jv ca, .second, jv xx, .second, jv yy, .second, jv zz, .second, jv lo, .second, jv hi, .second, jv mid, .second, .unset, .unset, .unset, .unset] [(.ref b5)])) (fun t k => st6.trans k) ?_
  refine Wk.go (A' := T6.setTop (mkF m 79 #[jv aa, .second, jv ba, .second, jv ca, .second, jv xx, .second, jv yy, .second, jv zz, .second, jv lo, .second, jv hi, .second, jv mid, .second, rv b5, .unset, .unset, .unset] [])) (fun t k => XS.astore X6.here hx rfl (hb hby at_77) rfl rfl (l' := #[jv aa, .second, jv ba, .second, jv ca, .second, jv xx, .second, jv yy, .second, jv zz, .second, jv lo, .second, jv hi, .second, jv mid, .second, rv b5, .unset, .unset, .unset]) rfl k) ?_
  obtain ⟨T8, h8, X8, e8, E8, A8, D8, -, st8⟩ := newO X6 hx hZ hown (tw8 hw) (tw9 hw) (tw10 hw) rfl (g := (mkF m 79 #[jv aa, .second, jv ba, .second, jv ca, .second, jv xx, .second, jv yy, .second, jv zz, .second, jv lo, .second, jv hi, .second, jv mid, .second, rv b5, .unset, .unset, .unset] [])) rfl (hb hby at_79) (by decide) (by decide)
  obtain ⟨b8, g8⟩ : ∃ z, z = T6.heap.size := ⟨_, rfl⟩
  rw [← g8] at A8 D8 st8
  have g_b8 : n0 ≤ b8 := Nat.le_trans Zp6 (Nat.le_of_eq g8.symm)
  have ne_b5_b8 : b5 ≠ b8 := Nat.ne_of_lt (Nat.lt_of_lt_of_le Eq6.lt (Nat.le_of_eq g8.symm))
  have f9 := Eq6.ext E8
  have f10 := Fq6_first.ext E8
  have f11 := Fq6_last.ext E8
  have F_first_b8 : Fld Z h8 b8 "com/example/bitbraid/bitbraid/RowRange" "first" "J" (.long (0 : Int64)) := D8 (Or.inr (tw23 hw)) (ty := .long) (by decide)
  have F_last_b8 : Fld Z h8 b8 "com/example/bitbraid/bitbraid/RowRange" "last" "J" (.long (0 : Int64)) := D8 (Or.inr (tw25 hw)) (ty := .long) (by decide)
  have Zp8 : n0 ≤ h8.size := Nat.le_trans Zp6 E8.1
  refine Wk.go (A' := T8.setTop (mkF m 82 #[jv aa, .second, jv ba, .second, jv ca, .second, jv xx, .second, jv yy, .second, jv zz, .second, jv lo, .second, jv hi, .second, jv mid, .second, rv b5, .unset, .unset, .unset] [(.ref b8)])) (fun t k => st8 t k) ?_
  refine Wk.go (A' := T8.setTop (mkF m 83 #[jv aa, .second, jv ba, .second, jv ca, .second, jv xx, .second, jv yy, .second, jv zz, .second, jv lo, .second, jv hi, .second, jv mid, .second, rv b5, .unset, .unset, .unset] [(.ref b8), (.ref b8)])) (fun t k => XS.dup X8.here hx rfl (hb hby at_82) rfl rfl k) ?_
  refine Wk.go (A' := T8.setTop (mkF m 85 #[jv aa, .second, jv ba, .second, jv ca, .second, jv xx, .second, jv yy, .second, jv zz, .second, jv lo, .second, jv hi, .second, jv mid, .second, rv b5, .unset, .unset, .unset] [(.long lo), (.ref b8), (.ref b8)])) (fun t k => XS.lload X8.here hx rfl (hb hby at_83) rfl k) ?_
  refine Wk.go (A' := T8.setTop (mkF m 87 #[jv aa, .second, jv ba, .second, jv ca, .second, jv xx, .second, jv yy, .second, jv zz, .second, jv lo, .second, jv hi, .second, jv mid, .second, rv b5, .unset, .unset, .unset] [(.long mid), (.long lo), (.ref b8), (.ref b8)])) (fun t k => XS.lload X8.here hx rfl (hb hby at_85) rfl k) ?_
  obtain ⟨_, _, ⟨T12, L12, k12, n12⟩, -, X12, ⟨Lc12, hQ12, l12, y12, z12⟩, st12⟩ := X8.specialBack hx (y := (⟨"com/example/bitbraid/bitbraid/RowRange", "<init>", "(JJ)V"⟩ : MethodName)) rfl hown (mvT hZ (tw11 hw)) (mvT hZ (tw12 hw)) (mvT hZ (tw13 hw)) (by decide) (backOf (W := 1) (rm3 l Z a0 hw [] b8 lo mid  h8 n0 Zp8 A8 F_first_b8 F_last_b8 g_b8 (own_nn m1) (own_le m2)) hZ (tw13 hw) (tw10 hw) (by decide) (by decide)) (g := (mkF m 87 #[jv aa, .second, jv ba, .second, jv ca, .second, jv xx, .second, jv yy, .second, jv zz, .second, jv lo, .second, jv hi, .second, jv mid, .second, rv b5, .unset, .unset, .unset] [(.long mid), (.long lo), (.ref b8), (.ref b8)])) rfl (by rw [hml]; rfl) (Steps.refl _) (a := b8) (argsL := [(.long lo), (.long mid)]) (rest := [(.ref b8)]) (lenOf pd_2 rfl) rfl (by show 2 * 0 + _ ≤ _; exact Nat.le_of_eq rfl) (hb hby at_87) (fun _ _ => ⟨rfl, e8, (by decide : 2 + 0 ≤ _), (by decide : 4 + 0 ≤ _)⟩)
  dsimp only [Pt.U, Pt.locs, Pt.cells, Pt.slots] at X12 l12 y12 z12 st12 hQ12
  subst l12 y12 z12
  obtain ⟨rfl, N12q, Kq12, Eq12, Fq12_first, Fq12_last⟩ := hQ12
  have N12 := Fr.app N6 N12q
  have f13 := f9.keep Kq12
  have f14 := f10.keep Kq12 (ninS ne_b5_b8 nin0)
  have f15 := f11.keep Kq12 (ninS ne_b5_b8 nin0)
  have f16 := A8.keep Kq12
  have Zp12 : n0 ≤ T12.heap.size := Nat.le_trans Zp8 Kq12.1
  refine Wk.go (A' := T12.setTop (mkF m 90 #[jv aa, .second, jv ba, .second, jv ca, .second, jv xx, .second, jv yy, .second, jv zz, .second, jv lo, .second, jv hi, .second, jv mid, .second, rv b5, .unset, .unset, .unset] [(.ref b8)])) (fun t k => st12.trans k) ?_
  refine Wk.go (A' := T12.setTop (mkF m 92 #[jv aa, .second, jv ba, .second, jv ca, .second, jv xx, .second, jv yy, .second, jv zz, .second, jv lo, .second, jv hi, .second, jv mid, .second, rv b5, rv b8, .unset, .unset] [])) (fun t k => XS.astore X12.here hx rfl (hb hby at_90) rfl rfl (l' := #[jv aa, .second, jv ba, .second, jv ca, .second, jv xx, .second, jv yy, .second, jv zz, .second, jv lo, .second, jv hi, .second, jv mid, .second, rv b5, rv b8, .unset, .unset]) rfl k) ?_
  obtain ⟨T17, h17, X17, e17, E17, A17, D17, -, st17⟩ := newO X12 hx hZ hown (tw8 hw) (tw9 hw) (tw10 hw) rfl (g := (mkF m 92 #[jv aa, .second, jv ba, .second, jv ca, .second, jv xx, .second, jv yy, .second, jv zz, .second, jv lo, .second, jv hi, .second, jv mid, .second, rv b5, rv b8, .unset, .unset] [])) rfl (hb hby at_92) (by decide) (by decide)
  obtain ⟨b17, g17⟩ : ∃ z, z = T12.heap.size := ⟨_, rfl⟩
  rw [← g17] at A17 D17 st17
  have g_b17 : n0 ≤ b17 := Nat.le_trans Zp12 (Nat.le_of_eq g17.symm)
  have ne_b5_b17 : b5 ≠ b17 := Nat.ne_of_lt (Nat.lt_of_lt_of_le f13.lt (Nat.le_of_eq g17.symm))
  have ne_b8_b17 : b8 ≠ b17 := Nat.ne_of_lt (Nat.lt_of_lt_of_le Eq12.lt (Nat.le_of_eq g17.symm))
  have f18 := f13.ext E17
  have f19 := f14.ext E17
  have f20 := f15.ext E17
  have f21 := Eq12.ext E17
  have f22 := Fq12_first.ext E17
  have f23 := Fq12_last.ext E17
  have F_first_b17 : Fld Z h17 b17 "com/example/bitbraid/bitbraid/RowRange" "first" "J" (.long (0 : Int64)) := D17 (Or.inr (tw23 hw)) (ty := .long) (by decide)
  have F_last_b17 : Fld Z h17 b17 "com/example/bitbraid/bitbraid/RowRange" "last" "J" (.long (0 : Int64)) := D17 (Or.inr (tw25 hw)) (ty := .long) (by decide)
  have Zp17 : n0 ≤ h17.size := Nat.le_trans Zp12 E17.1
  refine Wk.go (A' := T17.setTop (mkF m 95 #[jv aa, .second, jv ba, .second, jv ca, .second, jv xx, .second, jv yy, .second, jv zz, .second, jv lo, .second, jv hi, .second, jv mid, .second, rv b5, rv b8, .unset, .unset] [(.ref b17)])) (fun t k => st17 t k) ?_
  refine Wk.go (A' := T17.setTop (mkF m 96 #[jv aa, .second, jv ba, .second, jv ca, .second, jv xx, .second, jv yy, .second, jv zz, .second, jv lo, .second, jv hi, .second, jv mid, .second, rv b5, rv b8, .unset, .unset] [(.ref b17), (.ref b17)])) (fun t k => XS.dup X17.here hx rfl (hb hby at_95) rfl rfl k) ?_
  refine Wk.go (A' := T17.setTop (mkF m 98 #[jv aa, .second, jv ba, .second, jv ca, .second, jv xx, .second, jv yy, .second, jv zz, .second, jv lo, .second, jv hi, .second, jv mid, .second, rv b5, rv b8, .unset, .unset] [(.long mid), (.ref b17), (.ref b17)])) (fun t k => XS.lload X17.here hx rfl (hb hby at_96) rfl k) ?_
  refine Wk.go (A' := T17.setTop (mkF m 100 #[jv aa, .second, jv ba, .second, jv ca, .second, jv xx, .second, jv yy, .second, jv zz, .second, jv lo, .second, jv hi, .second, jv mid, .second, rv b5, rv b8, .unset, .unset] [(.long mid), (.long mid), (.ref b17), (.ref b17)])) (fun t k => XS.lload X17.here hx rfl (hb hby at_98) rfl k) ?_
  obtain ⟨_, _, ⟨T24, L24, k24, n24⟩, -, X24, ⟨Lc24, hQ24, l24, y24, z24⟩, st24⟩ := X17.specialBack hx (y := (⟨"com/example/bitbraid/bitbraid/RowRange", "<init>", "(JJ)V"⟩ : MethodName)) rfl hown (mvT hZ (tw11 hw)) (mvT hZ (tw12 hw)) (mvT hZ (tw13 hw)) (by decide) (backOf (W := 1) (rm3 l Z a0 hw [] b17 mid mid  h17 n0 Zp17 A17 F_first_b17 F_last_b17 g_b17 (own_nn (Int.le_trans m1 m2)) (own_le (Int.le_refl _))) hZ (tw13 hw) (tw10 hw) (by decide) (by decide)) (g := (mkF m 100 #[jv aa, .second, jv ba, .second, jv ca, .second, jv xx, .second, jv yy, .second, jv zz, .second, jv lo, .second, jv hi, .second, jv mid, .second, rv b5, rv b8, .unset, .unset] [(.long mid), (.long mid), (.ref b17), (.ref b17)])) rfl (by rw [hml]; rfl) (Steps.refl _) (a := b17) (argsL := [(.long mid), (.long mid)]) (rest := [(.ref b17)]) (lenOf pd_2 rfl) rfl (by show 2 * 0 + _ ≤ _; exact Nat.le_of_eq rfl) (hb hby at_100) (fun _ _ => ⟨rfl, e17, (by decide : 3 + 0 ≤ _), (by decide : 6 + 0 ≤ _)⟩)
  dsimp only [Pt.U, Pt.locs, Pt.cells, Pt.slots] at X24 l24 y24 z24 st24 hQ24
  subst l24 y24 z24
  obtain ⟨rfl, N24q, Kq24, Eq24, Fq24_first, Fq24_last⟩ := hQ24
  have N24 := Fr.app N12 N24q
  have f25 := f18.keep Kq24
  have f26 := f19.keep Kq24 (ninS ne_b5_b17 nin0)
  have f27 := f20.keep Kq24 (ninS ne_b5_b17 nin0)
  have f28 := f21.keep Kq24
  have f29 := f22.keep Kq24 (ninS ne_b8_b17 nin0)
  have f30 := f23.keep Kq24 (ninS ne_b8_b17 nin0)
  have f31 := A17.keep Kq24
  have Zp24 : n0 ≤ T24.heap.size := Nat.le_trans Zp17 Kq24.1
  refine Wk.go (A' := T24.setTop (mkF m 103 #[jv aa, .second, jv ba, .second, jv ca, .second, jv xx, .second, jv yy, .second, jv zz, .second, jv lo, .second, jv hi, .second, jv mid, .second, rv b5, rv b8, .unset, .unset] [(.ref b17)])) (fun t k => st24.trans k) ?_
  refine Wk.go (A' := T24.setTop (mkF m 105 #[jv aa, .second, jv ba, .second, jv ca, .second, jv xx, .second, jv yy, .second, jv zz, .second, jv lo, .second, jv hi, .second, jv mid, .second, rv b5, rv b8, rv b17, .unset] [])) (fun t k => XS.astore X24.here hx rfl (hb hby at_103) rfl rfl (l' := #[jv aa, .second, jv ba, .second, jv ca, .second, jv xx, .second, jv yy, .second, jv zz, .second, jv lo, .second, jv hi, .second, jv mid, .second, rv b5, rv b8, rv b17, .unset]) rfl k) ?_
  refine Wk.go (A' := T24.setTop (mkF m 107 #[jv aa, .second, jv ba, .second, jv ca, .second, jv xx, .second, jv yy, .second, jv zz, .second, jv lo, .second, jv hi, .second, jv mid, .second, rv b5, rv b8, rv b17, .unset] [(.ref b17)])) (fun t k => XS.aload X24.here hx rfl (hb hby at_105) rfl rfl k) ?_
  obtain ⟨cq32, kq32, q32a, q32b, q32c⟩ := isOf hZ rfl Eq24
  obtain ⟨_, _, ⟨T32, L32, k32, n32⟩, -, X32, ⟨Lc32, hQ32, l32, y32, z32⟩, st32⟩ := X24.virtualBack hx (y := (⟨"com/example/bitbraid/bitbraid/RowRange", "rows", "()J"⟩ : MethodName)) (z := (⟨"com/example/bitbraid/bitbraid/RowRange", "rows", "()J"⟩ : MethodName)) hown (mvT hZ (tw26 hw)) (mvT hZ (tw27 hw)) (notFace_of_selects (args := #[]) (mvT hZ (tw29 hw))) (mvT hZ (tw29 hw)) (mvT hZ (tw28 hw)) (by decide) (backOf (W := 0) (rm6 l Z a0 hw [] b17 mid mid T24.heap n0 Zp24 Eq24 Fq24_first Fq24_last ) hZ (tw30 hw) (tw10 hw) (by decide) (by decide)) q32a q32c (g := (mkF m 107 #[jv aa, .second, jv ba, .second, jv ca, .second, jv xx, .second, jv yy, .second, jv zz, .second, jv lo, .second, jv hi, .second, jv mid, .second, rv b5, rv b8, rv b17, .unset] [(.ref b17)])) rfl (by rw [hml]; rfl) (Steps.refl _) (argsL := []) (rest := []) (lenOf pd_3 rfl) rfl (by show 2 * 0 + _ ≤ _; exact Nat.le_of_eq rfl) (hb hby at_107) (fun _ _ => ⟨rfl, rfl, (by decide : 3 + 0 ≤ _), (by decide : 6 + 0 ≤ _)⟩)
  dsimp only [Pt.U, Pt.locs, Pt.cells, Pt.slots] at X32 l32 y32 z32 st32 hQ32
  subst l32 y32 z32
  obtain ⟨rfl, N32q, hE32⟩ := hQ32
  have N32 := Fr.app N24 N32q
  refine Wk.go (A' := T32.setTop (mkF m 110 #[jv aa, .second, jv ba, .second, jv ca, .second, jv xx, .second, jv yy, .second, jv zz, .second, jv lo, .second, jv hi, .second, jv mid, .second, rv b5, rv b8, rv b17, .unset] [(.long (f_rows b17 mid mid))])) (fun t k => st32.trans k) ?_
  refine Wk.go (A' := T32.setTop (mkF m 111 #[jv aa, .second, jv ba, .second, jv ca, .second, jv xx, .second, jv yy, .second, jv zz, .second, jv lo, .second, jv hi, .second, jv mid, .second, rv b5, rv b8, rv b17, .unset] [(.long (1 : Int64)), (.long (f_rows b17 mid mid))])) (fun t k => XS.lconst X32.here hx rfl (hb hby at_110) k) ?_
  refine Wk.go (A' := T32.setTop (mkF m 112 #[jv aa, .second, jv ba, .second, jv ca, .second, jv xx, .second, jv yy, .second, jv zz, .second, jv lo, .second, jv hi, .second, jv mid, .second, rv b5, rv b8, rv b17, .unset] [(.int (lcmpW (f_rows b17 mid mid) (1 : Int64)))])) (fun t k => XS.lcmp X32.here hx rfl (hb hby at_111) rfl k) ?_
  have hc112 : (f_rows b17 mid mid) = (1 : Int64) := own_unit _ _
  refine Wk.go (A' := T32.setTop (mkF m 117 #[jv aa, .second, jv ba, .second, jv ca, .second, jv xx, .second, jv yy, .second, jv zz, .second, jv lo, .second, jv hi, .second, jv mid, .second, rv b5, rv b8, rv b17, .unset] [])) (fun t k => XS.ifYes X32.here hx rfl (pc0 := 112) (pc' := 117) rfl (hb hby at_112) rfl ((if0 _ _).trans (teq ((lw_eq _ _).mpr hc112)).1) (by decide) (by decide) k) ?_
  refine Wk.go (A' := T32.setTop (mkF m 119 #[jv aa, .second, jv ba, .second, jv ca, .second, jv xx, .second, jv yy, .second, jv zz, .second, jv lo, .second, jv hi, .second, jv mid, .second, rv b5, rv b8, rv b17, .unset] [(.long mid)])) (fun t k => XS.lload X32.here hx rfl (hb hby at_117) rfl k) ?_
  refine Wk.go (A' := T32.setTop (mkF m 121 #[jv aa, .second, jv ba, .second, jv ca, .second, jv xx, .second, jv yy, .second, jv zz, .second, jv lo, .second, jv hi, .second, jv mid, .second, rv b5, rv b8, rv b17, .unset] [(.long hi), (.long mid)])) (fun t k => XS.lload X32.here hx rfl (hb hby at_119) rfl k) ?_
  refine Wk.go (A' := T32.setTop (mkF m 122 #[jv aa, .second, jv ba, .second, jv ca, .second, jv xx, .second, jv yy, .second, jv zz, .second, jv lo, .second, jv hi, .second, jv mid, .second, rv b5, rv b8, rv b17, .unset] [(.int (lcmpW mid hi))])) (fun t k => XS.lcmp X32.here hx rfl (hb hby at_121) rfl k) ?_
  by_cases hc122 : mid = hi
  · refine Wk.go (A' := T32.setTop (mkF m 125 #[jv aa, .second, jv ba, .second, jv ca, .second, jv xx, .second, jv yy, .second, jv zz, .second, jv lo, .second, jv hi, .second, jv mid, .second, rv b5, rv b8, rv b17, .unset] [])) (fun t k => XS.ifNo X32.here hx rfl (hb hby at_122) rfl ((if0 _ _).trans (teq ((lw_eq _ _).mpr hc122)).2) k) ?_
    refine Wk.go (A' := T32.setTop (mkF m 127 #[jv aa, .second, jv ba, .second, jv ca, .second, jv xx, .second, jv yy, .second, jv zz, .second, jv lo, .second, jv hi, .second, jv mid, .second, rv b5, rv b8, rv b17, .unset] [(.ref b8)])) (fun t k => XS.aload X32.here hx rfl (hb hby at_125) rfl rfl k) ?_
    obtain ⟨cq33, kq33, q33a, q33b, q33c⟩ := isOf hZ (hE32) f28
    obtain ⟨_, _, ⟨T33, L33, k33, n33⟩, -, X33, ⟨Lc33, hQ33, l33, y33, z33⟩, st33⟩ := X32.virtualBack hx (y := (⟨"com/example/bitbraid/bitbraid/RowRange", "rows", "()J"⟩ : MethodName)) (z := (⟨"com/example/bitbraid/bitbraid/RowRange", "rows", "()J"⟩ : MethodName)) hown (mvT hZ (tw26 hw)) (mvT hZ (tw27 hw)) (notFace_of_selects (args := #[]) (mvT hZ (tw29 hw))) (mvT hZ (tw29 hw)) (mvT hZ (tw28 hw)) (by decide) (backOf (W := 0) (rm6 l Z a0 hw [] b8 lo mid T24.heap n0 Zp24 f28 f29 f30 ) hZ (tw30 hw) (tw10 hw) (by decide) (by decide)) q33a q33c (g := (mkF m 127 #[jv aa, .second, jv ba, .second, jv ca, .second, jv xx, .second, jv yy, .second, jv zz, .second, jv lo, .second, jv hi, .second, jv mid, .second, rv b5, rv b8, rv b17, .unset] [(.ref b8)])) rfl (by rw [hml]; rfl) (Steps.refl _) (argsL := []) (rest := []) (lenOf pd_3 rfl) rfl (by show 2 * 0 + _ ≤ _; exact Nat.le_of_eq rfl) (hb hby at_127) (fun _ _ => ⟨rfl, (hE32), (by decide : 3 + 0 ≤ _), (by decide : 6 + 0 ≤ _)⟩)
    dsimp only [Pt.U, Pt.locs, Pt.cells, Pt.slots] at X33 l33 y33 z33 st33 hQ33
    subst l33 y33 z33
    obtain ⟨rfl, N33q, hE33⟩ := hQ33
    have N33 := Fr.app N32 N33q
    refine Wk.go (A' := T33.setTop (mkF m 130 #[jv aa, .second, jv ba, .second, jv ca, .second, jv xx, .second, jv yy, .second, jv zz, .second, jv lo, .second, jv hi, .second, jv mid, .second, rv b5, rv b8, rv b17, .unset] [(.long (f_rows b8 lo mid))])) (fun t k => st33.trans k) ?_
    refine Wk.go (A' := T33.setTop (mkF m 132 #[jv aa, .second, jv ba, .second, jv ca, .second, jv xx, .second, jv yy, .second, jv zz, .second, jv lo, .second, jv hi, .second, jv mid, .second, rv b5, rv b8, rv b17, .unset] [(.ref b5), (.long (f_rows b8 lo mid))])) (fun t k => XS.aload X33.here hx rfl (hb hby at_130) rfl rfl k) ?_
    obtain ⟨cq34, kq34, q34a, q34b, q34c⟩ := isOf hZ (hE33) f25
    obtain ⟨_, _, ⟨T34, L34, k34, n34⟩, -, X34, ⟨Lc34, hQ34, l34, y34, z34⟩, st34⟩ := X33.virtualBack hx (y := (⟨"com/example/bitbraid/bitbraid/RowRange", "rows", "()J"⟩ : MethodName)) (z := (⟨"com/example/bitbraid/bitbraid/RowRange", "rows", "()J"⟩ : MethodName)) hown (mvT hZ (tw26 hw)) (mvT hZ (tw27 hw)) (notFace_of_selects (args := #[]) (mvT hZ (tw29 hw))) (mvT hZ (tw29 hw)) (mvT hZ (tw28 hw)) (by decide) (backOf (W := 2) (rm6 l Z a0 hw [] b5 lo hi T24.heap n0 Zp24 f25 f26 f27 ) hZ (tw30 hw) (tw10 hw) (by decide) (by decide)) q34a q34c (g := (mkF m 132 #[jv aa, .second, jv ba, .second, jv ca, .second, jv xx, .second, jv yy, .second, jv zz, .second, jv lo, .second, jv hi, .second, jv mid, .second, rv b5, rv b8, rv b17, .unset] [(.ref b5), (.long (f_rows b8 lo mid))])) rfl (by rw [hml]; rfl) (Steps.refl _) (argsL := []) (rest := [(.long (f_rows b8 lo mid))]) (lenOf pd_3 rfl) rfl (by show 2 * 0 + _ ≤ _; exact Nat.le_of_eq rfl) (hb hby at_132) (fun _ _ => ⟨rfl, (hE33), (by decide : 3 + 0 ≤ _), (by decide : 6 + 0 ≤ _)⟩)
    dsimp only [Pt.U, Pt.locs, Pt.cells, Pt.slots] at X34 l34 y34 z34 st34 hQ34
    subst l34 y34 z34
    obtain ⟨rfl, N34q, hE34⟩ := hQ34
    have N34 := Fr.app N33 N34q
    refine Wk.go (A' := T34.setTop (mkF m 135 #[jv aa, .second, jv ba, .second, jv ca, .second, jv xx, .second, jv yy, .second, jv zz, .second, jv lo, .second, jv hi, .second, jv mid, .second, rv b5, rv b8, rv b17, .unset] [(.long (f_rows b5 lo hi)), (.long (f_rows b8 lo mid))])) (fun t k => st34.trans k) ?_
    refine Wk.go (A' := T34.setTop (mkF m 136 #[jv aa, .second, jv ba, .second, jv ca, .second, jv xx, .second, jv yy, .second, jv zz, .second, jv lo, .second, jv hi, .second, jv mid, .second, rv b5, rv b8, rv b17, .unset] [(.int (lcmpW (f_rows b8 lo mid) (f_rows b5 lo hi)))])) (fun t k => XS.lcmp X34.here hx rfl (hb hby at_135) rfl k) ?_
    have hc136 : (f_rows b8 lo mid) = (f_rows b5 lo hi) := by rw [hc122]; rfl
    refine Wk.go (A' := T34.setTop (mkF m 139 #[jv aa, .second, jv ba, .second, jv ca, .second, jv xx, .second, jv yy, .second, jv zz, .second, jv lo, .second, jv hi, .second, jv mid, .second, rv b5, rv b8, rv b17, .unset] [])) (fun t k => XS.ifNo X34.here hx rfl (hb hby at_136) rfl ((if0 _ _).trans (teq ((lw_eq _ _).mpr hc136)).2) k) ?_
    refine Wk.go (A' := T34.setTop (mkF m 140 #[jv aa, .second, jv ba, .second, jv ca, .second, jv xx, .second, jv yy, .second, jv zz, .second, jv lo, .second, jv hi, .second, jv mid, .second, rv b5, rv b8, rv b17, .unset] [(.int (1 : Int32))])) (fun t k => XS.iconst X34.here hx rfl (hb hby at_139) k) ?_
    refine Wk.go (A' := T34.setTop (mkF m 144 #[jv aa, .second, jv ba, .second, jv ca, .second, jv xx, .second, jv yy, .second, jv zz, .second, jv lo, .second, jv hi, .second, jv mid, .second, rv b5, rv b8, rv b17, .unset] [(.int (1 : Int32))])) (fun t k => XS.goto X34.here hx rfl (pc0 := 140) (pc' := 144) rfl (hb hby at_140) (by decide) (by decide) k) ?_
    refine own_fin (Qv := Q0 Z aa ba ca h0 n0) (v := some (.int (1 : Int32))) X34 hlk (fun h => by rw [Bd.returns] at h; cases h) (fun fs hr => retN X34 hx (t := .boolean) Bd.returns (by simp) (hb hby at_144) hr) ?_ (by decide) (by decide)
    exact ⟨rfl, N34⟩
  · refine Wk.go (A' := T32.setTop (mkF m 145 #[jv aa, .second, jv ba, .second, jv ca, .second, jv xx, .second, jv yy, .second, jv zz, .second, jv lo, .second, jv hi, .second, jv mid, .second, rv b5, rv b8, rv b17, .unset] [])) (fun t k => XS.ifYes X32.here hx rfl (pc0 := 122) (pc' := 145) rfl (hb hby at_122) rfl ((if0 _ _).trans (feq (mt (lw_eq _ _).mp hc122)).2) (by decide) (by decide) k) ?_
    obtain ⟨T35, h35, X35, e35, E35, A35, D35, -, st35⟩ := newO X32 hx hZ hown (tw8 hw) (tw9 hw) (tw10 hw) (hE32) (g := (mkF m 145 #[jv aa, .second, jv ba, .second, jv ca, .second, jv xx, .second, jv yy, .second, jv zz, .second, jv lo, .second, jv hi, .second, jv mid, .second, rv b5, rv b8, rv b17, .unset] [])) rfl (hb hby at_145) (by decide) (by decide)
    obtain ⟨b35, g35⟩ : ∃ z, z = T24.heap.size := ⟨_, rfl⟩
    rw [← g35] at A35 D35 st35
    have g_b35 : n0 ≤ b35 := Nat.le_trans Zp24 (Nat.le_of_eq g35.symm)
    have ne_b5_b35 : b5 ≠ b35 := Nat.ne_of_lt (Nat.lt_of_lt_of_le f25.lt (Nat.le_of_eq g35.symm))
    have ne_b8_b35 : b8 ≠ b35 := Nat.ne_of_lt (Nat.lt_of_lt_of_le f28.lt (Nat.le_of_eq g35.symm))
    have ne_b17_b35 : b17 ≠ b35 := Nat.ne_of_lt (Nat.lt_of_lt_of_le Eq24.lt (Nat.le_of_eq g35.symm))
    have f36 := f25.ext E35
    have f37 := f26.ext E35
    have f38 := f27.ext E35
    have f39 := f28.ext E35
    have f40 := f29.ext E35
    have f41 := f30.ext E35
    have f42 := Eq24.ext E35
    have f43 := Fq24_first.ext E35
    have f44 := Fq24_last.ext E35
    have F_first_b35 : Fld Z h35 b35 "com/example/bitbraid/bitbraid/RowRange" "first" "J" (.long (0 : Int64)) := D35 (Or.inr (tw23 hw)) (ty := .long) (by decide)
    have F_last_b35 : Fld Z h35 b35 "com/example/bitbraid/bitbraid/RowRange" "last" "J" (.long (0 : Int64)) := D35 (Or.inr (tw25 hw)) (ty := .long) (by decide)
    have Zp35 : n0 ≤ h35.size := Nat.le_trans Zp24 E35.1
    refine Wk.go (A' := T35.setTop (mkF m 148 #[jv aa, .second, jv ba, .second, jv ca, .second, jv xx, .second, jv yy, .second, jv zz, .second, jv lo, .second, jv hi, .second, jv mid, .second, rv b5, rv b8, rv b17, .unset] [(.ref b35)])) (fun t k => st35 t k) ?_
    refine Wk.go (A' := T35.setTop (mkF m 149 #[jv aa, .second, jv ba, .second, jv ca, .second, jv xx, .second, jv yy, .second, jv zz, .second, jv lo, .second, jv hi, .second, jv mid, .second, rv b5, rv b8, rv b17, .unset] [(.ref b35), (.ref b35)])) (fun t k => XS.dup X35.here hx rfl (hb hby at_148) rfl rfl k) ?_
    refine Wk.go (A' := T35.setTop (mkF m 151 #[jv aa, .second, jv ba, .second, jv ca, .second, jv xx, .second, jv yy, .second, jv zz, .second, jv lo, .second, jv hi, .second, jv mid, .second, rv b5, rv b8, rv b17, .unset] [(.long mid), (.ref b35), (.ref b35)])) (fun t k => XS.lload X35.here hx rfl (hb hby at_149) rfl k) ?_
    refine Wk.go (A' := T35.setTop (mkF m 152 #[jv aa, .second, jv ba, .second, jv ca, .second, jv xx, .second, jv yy, .second, jv zz, .second, jv lo, .second, jv hi, .second, jv mid, .second, rv b5, rv b8, rv b17, .unset] [(.long (1 : Int64)), (.long mid), (.ref b35), (.ref b35)])) (fun t k => XS.lconst X35.here hx rfl (hb hby at_151) k) ?_
    refine Wk.go (A' := T35.setTop (mkF m 153 #[jv aa, .second, jv ba, .second, jv ca, .second, jv xx, .second, jv yy, .second, jv zz, .second, jv lo, .second, jv hi, .second, jv mid, .second, rv b5, rv b8, rv b17, .unset] [(.long (mid + (1 : Int64))), (.ref b35), (.ref b35)])) (fun t k => XS.ladd X35.here hx rfl (hb hby at_152) rfl k) ?_
    refine Wk.go (A' := T35.setTop (mkF m 155 #[jv aa, .second, jv ba, .second, jv ca, .second, jv xx, .second, jv yy, .second, jv zz, .second, jv lo, .second, jv hi, .second, jv mid, .second, rv b5, rv b8, rv b17, .unset] [(.long hi), (.long (mid + (1 : Int64))), (.ref b35), (.ref b35)])) (fun t k => XS.lload X35.here hx rfl (hb hby at_153) rfl k) ?_
    obtain ⟨_, _, ⟨T45, L45, k45, n45⟩, -, X45, ⟨Lc45, hQ45, l45, y45, z45⟩, st45⟩ := X35.specialBack hx (y := (⟨"com/example/bitbraid/bitbraid/RowRange", "<init>", "(JJ)V"⟩ : MethodName)) rfl hown (mvT hZ (tw11 hw)) (mvT hZ (tw12 hw)) (mvT hZ (tw13 hw)) (by decide) (backOf (W := 1) (rm3 l Z a0 hw [] b35 (mid + (1 : Int64)) hi  h35 n0 Zp35 A35 F_first_b35 F_last_b35 g_b35 (own_nn (own_up hc122 m3 (Int.le_trans m1 m2)).1) (own_le (own_up hc122 m3 (Int.le_trans m1 m2)).2)) hZ (tw13 hw) (tw10 hw) (by decide) (by decide)) (g := (mkF m 155 #[jv aa, .second, jv ba, .second, jv ca, .second, jv xx, .second, jv yy, .second, jv zz, .second, jv lo, .second, jv hi, .second, jv mid, .second, rv b5, rv b8, rv b17, .unset] [(.long hi), (.long (mid + (1 : Int64))), (.ref b35), (.ref b35)])) rfl (by rw [hml]; rfl) (Steps.refl _) (a := b35) (argsL := [(.long (mid + (1 : Int64))), (.long hi)]) (rest := [(.ref b35)]) (lenOf pd_2 rfl) rfl (by show 2 * 0 + _ ≤ _; exact Nat.le_of_eq rfl) (hb hby at_155) (fun _ _ => ⟨rfl, e35, (by decide : 4 + 0 ≤ _), (by decide : 8 + 0 ≤ _)⟩)
    dsimp only [Pt.U, Pt.locs, Pt.cells, Pt.slots] at X45 l45 y45 z45 st45 hQ45
    subst l45 y45 z45
    obtain ⟨rfl, N45q, Kq45, Eq45, Fq45_first, Fq45_last⟩ := hQ45
    have N45 := Fr.app N32 N45q
    have f46 := f36.keep Kq45
    have f47 := f37.keep Kq45 (ninS ne_b5_b35 nin0)
    have f48 := f38.keep Kq45 (ninS ne_b5_b35 nin0)
    have f49 := f39.keep Kq45
    have f50 := f40.keep Kq45 (ninS ne_b8_b35 nin0)
    have f51 := f41.keep Kq45 (ninS ne_b8_b35 nin0)
    have f52 := f42.keep Kq45
    have f53 := f43.keep Kq45 (ninS ne_b17_b35 nin0)
    have f54 := f44.keep Kq45 (ninS ne_b17_b35 nin0)
    have f55 := A35.keep Kq45
    have Zp45 : n0 ≤ T45.heap.size := Nat.le_trans Zp35 Kq45.1
    refine Wk.go (A' := T45.setTop (mkF m 158 #[jv aa, .second, jv ba, .second, jv ca, .second, jv xx, .second, jv yy, .second, jv zz, .second, jv lo, .second, jv hi, .second, jv mid, .second, rv b5, rv b8, rv b17, .unset] [(.ref b35)])) (fun t k => st45.trans k) ?_
    refine Wk.go (A' := T45.setTop (mkF m 160 #[jv aa, .second, jv ba, .second, jv ca, .second, jv xx, .second, jv yy, .second, jv zz, .second, jv lo, .second, jv hi, .second, jv mid, .second, rv b5, rv b8, rv b17, rv b35] [])) (fun t k => XS.astore X45.here hx rfl (hb hby at_158) rfl rfl (l' := #[jv aa, .second, jv ba, .second, jv ca, .second, jv xx, .second, jv yy, .second, jv zz, .second, jv lo, .second, jv hi, .second, jv mid, .second, rv b5, rv b8, rv b17, rv b35]) rfl k) ?_
    refine Wk.go (A' := T45.setTop (mkF m 162 #[jv aa, .second, jv ba, .second, jv ca, .second, jv xx, .second, jv yy, .second, jv zz, .second, jv lo, .second, jv hi, .second, jv mid, .second, rv b5, rv b8, rv b17, rv b35] [(.ref b8)])) (fun t k => XS.aload X45.here hx rfl (hb hby at_160) rfl rfl k) ?_
    obtain ⟨cq56, kq56, q56a, q56b, q56c⟩ := isOf hZ rfl f49
    obtain ⟨_, _, ⟨T56, L56, k56, n56⟩, -, X56, ⟨Lc56, hQ56, l56, y56, z56⟩, st56⟩ := X45.virtualBack hx (y := (⟨"com/example/bitbraid/bitbraid/RowRange", "rows", "()J"⟩ : MethodName)) (z := (⟨"com/example/bitbraid/bitbraid/RowRange", "rows", "()J"⟩ : MethodName)) hown (mvT hZ (tw26 hw)) (mvT hZ (tw27 hw)) (notFace_of_selects (args := #[]) (mvT hZ (tw29 hw))) (mvT hZ (tw29 hw)) (mvT hZ (tw28 hw)) (by decide) (backOf (W := 0) (rm6 l Z a0 hw [] b8 lo mid T45.heap n0 Zp45 f49 f50 f51 ) hZ (tw30 hw) (tw10 hw) (by decide) (by decide)) q56a q56c (g := (mkF m 162 #[jv aa, .second, jv ba, .second, jv ca, .second, jv xx, .second, jv yy, .second, jv zz, .second, jv lo, .second, jv hi, .second, jv mid, .second, rv b5, rv b8, rv b17, rv b35] [(.ref b8)])) rfl (by rw [hml]; rfl) (Steps.refl _) (argsL := []) (rest := []) (lenOf pd_3 rfl) rfl (by show 2 * 0 + _ ≤ _; exact Nat.le_of_eq rfl) (hb hby at_162) (fun _ _ => ⟨rfl, rfl, (by decide : 4 + 0 ≤ _), (by decide : 8 + 0 ≤ _)⟩)
    dsimp only [Pt.U, Pt.locs, Pt.cells, Pt.slots] at X56 l56 y56 z56 st56 hQ56
    subst l56 y56 z56
    obtain ⟨rfl, N56q, hE56⟩ := hQ56
    have N56 := Fr.app N45 N56q
    refine Wk.go (A' := T56.setTop (mkF m 165 #[jv aa, .second, jv ba, .second, jv ca, .second, jv xx, .second, jv yy, .second, jv zz, .second, jv lo, .second, jv hi, .second, jv mid, .second, rv b5, rv b8, rv b17, rv b35] [(.long (f_rows b8 lo mid))])) (fun t k => st56.trans k) ?_
    refine Wk.go (A' := T56.setTop (mkF m 167 #[jv aa, .second, jv ba, .second, jv ca, .second, jv xx, .second, jv yy, .second, jv zz, .second, jv lo, .second, jv hi, .second, jv mid, .second, rv b5, rv b8, rv b17, rv b35] [(.ref b35), (.long (f_rows b8 lo mid))])) (fun t k => XS.aload X56.here hx rfl (hb hby at_165) rfl rfl k) ?_
    obtain ⟨cq57, kq57, q57a, q57b, q57c⟩ := isOf hZ (hE56) Eq45
    obtain ⟨_, _, ⟨T57, L57, k57, n57⟩, -, X57, ⟨Lc57, hQ57, l57, y57, z57⟩, st57⟩ := X56.virtualBack hx (y := (⟨"com/example/bitbraid/bitbraid/RowRange", "rows", "()J"⟩ : MethodName)) (z := (⟨"com/example/bitbraid/bitbraid/RowRange", "rows", "()J"⟩ : MethodName)) hown (mvT hZ (tw26 hw)) (mvT hZ (tw27 hw)) (notFace_of_selects (args := #[]) (mvT hZ (tw29 hw))) (mvT hZ (tw29 hw)) (mvT hZ (tw28 hw)) (by decide) (backOf (W := 2) (rm6 l Z a0 hw [] b35 (mid + (1 : Int64)) hi T45.heap n0 Zp45 Eq45 Fq45_first Fq45_last ) hZ (tw30 hw) (tw10 hw) (by decide) (by decide)) q57a q57c (g := (mkF m 167 #[jv aa, .second, jv ba, .second, jv ca, .second, jv xx, .second, jv yy, .second, jv zz, .second, jv lo, .second, jv hi, .second, jv mid, .second, rv b5, rv b8, rv b17, rv b35] [(.ref b35), (.long (f_rows b8 lo mid))])) rfl (by rw [hml]; rfl) (Steps.refl _) (argsL := []) (rest := [(.long (f_rows b8 lo mid))]) (lenOf pd_3 rfl) rfl (by show 2 * 0 + _ ≤ _; exact Nat.le_of_eq rfl) (hb hby at_167) (fun _ _ => ⟨rfl, (hE56), (by decide : 4 + 0 ≤ _), (by decide : 8 + 0 ≤ _)⟩)
    dsimp only [Pt.U, Pt.locs, Pt.cells, Pt.slots] at X57 l57 y57 z57 st57 hQ57
    subst l57 y57 z57
    obtain ⟨rfl, N57q, hE57⟩ := hQ57
    have N57 := Fr.app N56 N57q
    refine Wk.go (A' := T57.setTop (mkF m 170 #[jv aa, .second, jv ba, .second, jv ca, .second, jv xx, .second, jv yy, .second, jv zz, .second, jv lo, .second, jv hi, .second, jv mid, .second, rv b5, rv b8, rv b17, rv b35] [(.long (f_rows b35 (mid + (1 : Int64)) hi)), (.long (f_rows b8 lo mid))])) (fun t k => st57.trans k) ?_
    refine Wk.go (A' := T57.setTop (mkF m 171 #[jv aa, .second, jv ba, .second, jv ca, .second, jv xx, .second, jv yy, .second, jv zz, .second, jv lo, .second, jv hi, .second, jv mid, .second, rv b5, rv b8, rv b17, rv b35] [(.long ((f_rows b8 lo mid) + (f_rows b35 (mid + (1 : Int64)) hi)))])) (fun t k => XS.ladd X57.here hx rfl (hb hby at_170) rfl k) ?_
    refine Wk.go (A' := T57.setTop (mkF m 173 #[jv aa, .second, jv ba, .second, jv ca, .second, jv xx, .second, jv yy, .second, jv zz, .second, jv lo, .second, jv hi, .second, jv mid, .second, rv b5, rv b8, rv b17, rv b35] [(.ref b5), (.long ((f_rows b8 lo mid) + (f_rows b35 (mid + (1 : Int64)) hi)))])) (fun t k => XS.aload X57.here hx rfl (hb hby at_171) rfl rfl k) ?_
    obtain ⟨cq58, kq58, q58a, q58b, q58c⟩ := isOf hZ (hE57) f46
    obtain ⟨_, _, ⟨T58, L58, k58, n58⟩, -, X58, ⟨Lc58, hQ58, l58, y58, z58⟩, st58⟩ := X57.virtualBack hx (y := (⟨"com/example/bitbraid/bitbraid/RowRange", "rows", "()J"⟩ : MethodName)) (z := (⟨"com/example/bitbraid/bitbraid/RowRange", "rows", "()J"⟩ : MethodName)) hown (mvT hZ (tw26 hw)) (mvT hZ (tw27 hw)) (notFace_of_selects (args := #[]) (mvT hZ (tw29 hw))) (mvT hZ (tw29 hw)) (mvT hZ (tw28 hw)) (by decide) (backOf (W := 2) (rm6 l Z a0 hw [] b5 lo hi T45.heap n0 Zp45 f46 f47 f48 ) hZ (tw30 hw) (tw10 hw) (by decide) (by decide)) q58a q58c (g := (mkF m 173 #[jv aa, .second, jv ba, .second, jv ca, .second, jv xx, .second, jv yy, .second, jv zz, .second, jv lo, .second, jv hi, .second, jv mid, .second, rv b5, rv b8, rv b17, rv b35] [(.ref b5), (.long ((f_rows b8 lo mid) + (f_rows b35 (mid + (1 : Int64)) hi)))])) rfl (by rw [hml]; rfl) (Steps.refl _) (argsL := []) (rest := [(.long ((f_rows b8 lo mid) + (f_rows b35 (mid + (1 : Int64)) hi)))]) (lenOf pd_3 rfl) rfl (by show 2 * 0 + _ ≤ _; exact Nat.le_of_eq rfl) (hb hby at_173) (fun _ _ => ⟨rfl, (hE57), (by decide : 4 + 0 ≤ _), (by decide : 8 + 0 ≤ _)⟩)
    dsimp only [Pt.U, Pt.locs, Pt.cells, Pt.slots] at X58 l58 y58 z58 st58 hQ58
    subst l58 y58 z58
    obtain ⟨rfl, N58q, hE58⟩ := hQ58
    have N58 := Fr.app N57 N58q
    refine Wk.go (A' := T58.setTop (mkF m 176 #[jv aa, .second, jv ba, .second, jv ca, .second, jv xx, .second, jv yy, .second, jv zz, .second, jv lo, .second, jv hi, .second, jv mid, .second, rv b5, rv b8, rv b17, rv b35] [(.long (f_rows b5 lo hi)), (.long ((f_rows b8 lo mid) + (f_rows b35 (mid + (1 : Int64)) hi)))])) (fun t k => st58.trans k) ?_
    refine Wk.go (A' := T58.setTop (mkF m 177 #[jv aa, .second, jv ba, .second, jv ca, .second, jv xx, .second, jv yy, .second, jv zz, .second, jv lo, .second, jv hi, .second, jv mid, .second, rv b5, rv b8, rv b17, rv b35] [(.int (lcmpW ((f_rows b8 lo mid) + (f_rows b35 (mid + (1 : Int64)) hi)) (f_rows b5 lo hi)))])) (fun t k => XS.lcmp X58.here hx rfl (hb hby at_176) rfl k) ?_
    have hc177 : ((f_rows b8 lo mid) + (f_rows b35 (mid + (1 : Int64)) hi)) = (f_rows b5 lo hi) := own_sum _ _ _ _ _ _
    refine Wk.go (A' := T58.setTop (mkF m 180 #[jv aa, .second, jv ba, .second, jv ca, .second, jv xx, .second, jv yy, .second, jv zz, .second, jv lo, .second, jv hi, .second, jv mid, .second, rv b5, rv b8, rv b17, rv b35] [])) (fun t k => XS.ifNo X58.here hx rfl (hb hby at_177) rfl ((if0 _ _).trans (teq ((lw_eq _ _).mpr hc177)).2) k) ?_
    refine Wk.go (A' := T58.setTop (mkF m 181 #[jv aa, .second, jv ba, .second, jv ca, .second, jv xx, .second, jv yy, .second, jv zz, .second, jv lo, .second, jv hi, .second, jv mid, .second, rv b5, rv b8, rv b17, rv b35] [(.int (1 : Int32))])) (fun t k => XS.iconst X58.here hx rfl (hb hby at_180) k) ?_
    refine Wk.go (A' := T58.setTop (mkF m 185 #[jv aa, .second, jv ba, .second, jv ca, .second, jv xx, .second, jv yy, .second, jv zz, .second, jv lo, .second, jv hi, .second, jv mid, .second, rv b5, rv b8, rv b17, rv b35] [(.int (1 : Int32))])) (fun t k => XS.goto X58.here hx rfl (pc0 := 181) (pc' := 185) rfl (hb hby at_181) (by decide) (by decide) k) ?_
    refine own_fin (Qv := Q0 Z aa ba ca h0 n0) (v := some (.int (1 : Int32))) X58 hlk (fun h => by rw [Bd.returns] at h; cases h) (fun fs hr => retN X58 hx (t := .boolean) Bd.returns (by simp) (hb hby at_185) hr) ?_ (by decide) (by decide)
    exact ⟨rfl, N58⟩
set_option maxRecDepth 65536 in
set_option maxHeartbeats 40000000 in
theorem comes_1 {Post : Tables → Env → Array Value → State → Outcome → State → Prop} (hpost : ∀ tb e args s v u, (limb_1_1.after args s (.returned v) u = true ∧ limb_1_2.after args s (.returned v) u = true ∧ True) → FrameEnd s (.returned v) u (Jvm.fieldLocs frame_1_writes args s ++ Jvm.arrayLocs frame_1_arrays args s ++ Jvm.staticLocs frame_1_statics s) 16 128 → Post tb e args s (.returned v) u) :
    ArmFor flags0 classFile x code maxLocals ret World_1 tables_1 room_1 Calls_1 rest_1 Pre_1 Post := by
  intro l hfl _ _ p e ha hc hk s m args below hf hA hF happ hP
  obtain ⟨hcalls, hrest, hpre⟩ := hP
  obtain ⟨-, -, -, hnamed, -, -, -, hat⟩ := (Spec.applies_iff hf).mp happ
  obtain ⟨hg, hn⟩ := and_e (Cond.before_iff.mp (show (Jvm.Cond.and given_1 narrow_1).before args s = true from hpre))
  obtain ⟨hcnt, g0⟩ := and_e hg
  obtain ⟨ga0, g1⟩ := and_e g0
  obtain ⟨ga1, g2⟩ := and_e g1
  obtain ⟨w0, w1, w2, rfl⟩ : ∃ w0 w1 w2 : Value, args = #[w0, w1, w2] := by
    have hs : args.size = 3 := by simpa [Cond.value, given_1] using hcnt
    obtain ⟨L⟩ := args
    match L, hs with
    | [w0, w1, w2], _ => exact ⟨w0, w1, w2, rfl⟩
  have hw := fun d (hd : d ∈ tables_1) => atoms_spec (ws := Jvm.Cond.code x code maxLocals ret :: tables_1) hat d (List.mem_cons_of_mem _ hd)
  obtain ⟨i0, ei0⟩ := isL_v ga0
  obtain rfl : w0 = (.long i0) := Option.some.inj ei0
  obtain ⟨i1, ei1⟩ := isL_v ga1
  obtain rfl : w1 = (.long i1) := Option.some.inj ei1
  obtain ⟨i2, ei2⟩ := isL_v g2
  obtain rfl : w2 = (.long i2) := Option.some.inj ei2
  obtain ⟨n, o, h1, h2, h3, _, L, rfl, ⟨rfl, N⟩, hq⟩ := rm0 l s _ hw tables_1 i0 i1 i2  s.heap s.heap.size (Nat.le_refl _)  p e ha hc hk s m _ below hf ((Spec.applies_iff_loose hf).mp happ).1 ⟨rfl, State.Warmed39.refl s, rfl⟩ trivial
  refine ⟨n, _, h1, h2, h3, hpost _ _ _ _ _ _ ⟨Cond.after_iff.mpr rfl, Cond.after_iff.mpr (eq_i res_at (Term.int_eval (1)) rfl), trivial⟩ ⟨hq.1, hq.2.1, (hq.2.2.sift fun y hy => Or.inr (N y hy)).mono (by decide) (by decide)⟩⟩
theorem main_1_1 : Claimed_1_1 := comes_1 fun _ _ _ _ _ _ h hF => ⟨h.1, hF⟩
theorem main_1_2 : Claimed_1_2 := comes_1 fun _ _ _ _ _ _ h hF => ⟨h.2.1, hF⟩
end Jvm.Pilot.@@N@@
namespace Jvm.Pilot.@@N@@
open Jvm Jvm.ClassFile Sem Op Lib Jvm.Free Jvm.Stand Jvm.Pilot.@@N@@.Jvm.D
/-! MADE BY PROGRAM (witnessworld.py) out of the Statement's table words and the real class files: 11 classes; the members and pool entries that the words name. The judged class is class 1, her method 1. -/
namespace start1
open Jvm.ClassFile
def u (s : String) : CpInfo := .utf8 (stringToUtf16 s)
/-- a pool by its gaps: so many unusable entries, then the entry; so many at the end -/
def gap : Nat → List CpInfo → List CpInfo
  | 0, r => r
  | n + 1, r => .unusable :: gap n r
def poolList (es : List (Nat × CpInfo)) (last : Nat) : List CpInfo := es.foldr (fun e r => gap e.1 (e.2 :: r)) (gap last [])
def pool (es : List (Nat × CpInfo)) (last : Nat) : Array CpInfo := ⟨poolList es last⟩
def fileOf (pool : Array CpInfo) (this : Nat) (attrs : Array Attribute := #[]) (ms : Array MethodInfo := #[]) (fl : Nat := 33) (sup : Nat := 0) (ifs : Array Nat := #[]) (fds : Array FieldInfo := #[]) : ClassFile where
  minorVersion := 0
  majorVersion := 65
  constantPool := pool
  accessFlags := fl
  thisClass := this
  superClass := sup
  interfaces := ifs
  fields := fds
  methods := ms
  attributes := attrs
def plain (name : String) (sup : Option ClassId) : Class where
  name := name
  kind := .ordinary
  loader := none
  accessFlags := 33
  super := sup
  interfaces := #[]
  cf := none
  fields := #[]
  methods := #[]
  instanceTypes := #[]
  staticTypes := #[]
  resolved := #[]
  callSites := []
  init := .initialized
  statics := none
  mirror := none

def pool0 : Array CpInfo := pool [(5, u "<init>"), (0, u "()V"), (1, .class_ 10), (1, u "java/lang/Object")] 113

def k0c0 : Code := { maxStack := 0, maxLocals := 1, code := object_method_1_code, exceptionTable := #[], attributes := #[] }
def k0m0 : Method := { name := "<init>", desc := "()V", sig := { parameters := [], returnType := none }, accessFlags := 1, code := some k0c0 }
/-- java/lang/Object -/
def k0 : Class := { plain "java/lang/Object" none with
  accessFlags := 33
  interfaces := #[]
  cf := some (fileOf pool0 8 #[] #[{ accessFlags := 1, nameIndex := 5, descriptorIndex := 6, attributes := #[] }] 33 0 #[] #[])
  fields := #[]
  methods := #[k0m0]
  instanceTypes := #[]
  staticTypes := #[]
  resolved := Array.replicate 124 none
  statics := none }

def pool1 : Array CpInfo := pool [(2, .class_ 4), (1, u "java/lang/Object"), (0, u "<init>"), (0, u "()V"), (2, .long 9223372036854775807), (1, .methodref 12 13), (0, .class_ 14), (0, .nameAndType 15 16), (0, u "java/lang/Math"), (0, u "min"), (0, u "(JJ)J"), (0, .methodref 12 18), (0, .nameAndType 19 16), (0, u "max"), (0, .class_ 21), (0, u "com/example/bitbraid/bitbraid/RowRange"), (0, .methodref 20 23), (0, .nameAndType 5 24), (0, u "(JJ)V"), (0, .methodref 20 26), (0, .nameAndType 27 28), (0, u "rows"), (0, u "()J"), (0, .class_ 30), (0, u "com/example/bitbraid/bitbraid/RowRangeRowsPinLaw"), (2, u "law"), (0, u "(JJJ)Z")] 3

def k1m0 : Method := { name := "<init>", desc := "()V", sig := { parameters := [], returnType := none }, accessFlags := 1, code := none }
def k1c1 : Code := { maxStack := 6, maxLocals := 22, code := code, exceptionTable := #[], attributes := #[] }
def k1m1 : Method := { name := "law", desc := "(JJJ)Z", sig := { parameters := [.long, .long, .long], returnType := some .boolean }, accessFlags := 9, code := some k1c1 }
/-- com/example/bitbraid/bitbraid/RowRangeRowsPinLaw -/
def k1 : Class := { plain "com/example/bitbraid/bitbraid/RowRangeRowsPinLaw" (some 0) with
  accessFlags := 49
  interfaces := #[]
  cf := some (fileOf pool1 29 #[] #[{ accessFlags := 1, nameIndex := 5, descriptorIndex := 6, attributes := #[] }, { accessFlags := 9, nameIndex := 33, descriptorIndex := 34, attributes := #[] }] 49 2 #[] #[])
  fields := #[]
  methods := #[k1m0, k1m1]
  instanceTypes := #[]
  staticTypes := #[]
  resolved := Array.replicate 38 none
  statics := none }

def pool2 : Array CpInfo := pool [(1, .class_ 2), (0, u "java/lang/Math"), (1, .class_ 6), (1, u "java/lang/Object"), (0, u "<init>"), (0, u "()V"), (89, .class_ 100), (1, u "java/lang/Math$RandomNumberGeneratorHolder"), (20, u "(JJ)J"), (50, u "negativeZeroFloatBits"), (0, u "J"), (2, u "negativeZeroDoubleBits"), (21, u "max"), (2, u "min"), (43, u "$assertionsDisabled"), (0, u "Z"), (91, u "twoToTheDoubleScaleDown"), (0, u "D"), (4, u "twoToTheDoubleScaleUp"), (9, u "E"), (3, u "PI"), (2, u "TAU"), (2, u "DEGREES_TO_RADIANS"), (0, u "RADIANS_TO_DEGREES")] 94

def k2m0 : Method := { name := "<init>", desc := "()V", sig := { parameters := [], returnType := none }, accessFlags := 2, code := none }
def k2c1 : Code := { maxStack := 4, maxLocals := 4, code := jdk_29_method_66_code, exceptionTable := #[], attributes := #[] }
def k2m1 : Method := { name := "max", desc := "(JJ)J", sig := { parameters := [.long, .long], returnType := some .long }, accessFlags := 9, code := some k2c1 }
def k2c2 : Code := { maxStack := 4, maxLocals := 4, code := jdk_29_method_70_code, exceptionTable := #[], attributes := #[] }
def k2m2 : Method := { name := "min", desc := "(JJ)J", sig := { parameters := [.long, .long], returnType := some .long }, accessFlags := 9, code := some k2c2 }
/-- java/lang/Math -/
def k2 : Class := { plain "java/lang/Math" (some 0) with
  accessFlags := 49
  interfaces := #[]
  cf := some (fileOf pool2 1 #[.nestMembers #[98]] #[{ accessFlags := 2, nameIndex := 7, descriptorIndex := 8, attributes := #[] }, { accessFlags := 9, nameIndex := 198, descriptorIndex := 121, attributes := #[] }, { accessFlags := 9, nameIndex := 201, descriptorIndex := 121, attributes := #[] }] 49 4 #[] #[{ accessFlags := 25, nameIndex := 354, descriptorIndex := 339, attributes := #[] }, { accessFlags := 25, nameIndex := 358, descriptorIndex := 339, attributes := #[] }, { accessFlags := 25, nameIndex := 361, descriptorIndex := 339, attributes := #[] }, { accessFlags := 26, nameIndex := 364, descriptorIndex := 339, attributes := #[] }, { accessFlags := 26, nameIndex := 365, descriptorIndex := 339, attributes := #[] }, { accessFlags := 26, nameIndex := 172, descriptorIndex := 173, attributes := #[] }, { accessFlags := 26, nameIndex := 176, descriptorIndex := 173, attributes := #[] }, { accessFlags := 8, nameIndex := 344, descriptorIndex := 339, attributes := #[] }, { accessFlags := 8, nameIndex := 338, descriptorIndex := 339, attributes := #[] }, { accessFlags := 4120, nameIndex := 245, descriptorIndex := 246, attributes := #[] }])
  fields := #[{ name := "E", type := .double, accessFlags := 25, slot := 0, constantValue := 0 }, { name := "PI", type := .double, accessFlags := 25, slot := 1, constantValue := 0 }, { name := "TAU", type := .double, accessFlags := 25, slot := 2, constantValue := 0 }, { name := "DEGREES_TO_RADIANS", type := .double, accessFlags := 26, slot := 3, constantValue := 0 }, { name := "RADIANS_TO_DEGREES", type := .double, accessFlags := 26, slot := 4, constantValue := 0 }, { name := "negativeZeroFloatBits", type := .long, accessFlags := 26, slot := 5, constantValue := 0 }, { name := "negativeZeroDoubleBits", type := .long, accessFlags := 26, slot := 6, constantValue := 0 }, { name := "twoToTheDoubleScaleUp", type := .double, accessFlags := 8, slot := 7, constantValue := 0 }, { name := "twoToTheDoubleScaleDown", type := .double, accessFlags := 8, slot := 8, constantValue := 0 }, { name := "$assertionsDisabled", type := .boolean, accessFlags := 4120, slot := 9, constantValue := 0 }]
  methods := #[k2m0, k2m1, k2m2]
  instanceTypes := #[]
  staticTypes := #[.double, .double, .double, .double, .double, .long, .long, .double, .double, .boolean]
  resolved := Array.replicate 460 none
  statics := none }

def pool3 : Array CpInfo := pool [(1, .methodref 2 3), (0, .class_ 4), (0, .nameAndType 5 6), (0, u "java/lang/Object"), (0, u "<init>"), (0, u "()V"), (0, .class_ 8), (0, u "java/lang/Record")] 13

def k3c0 : Code := { maxStack := 1, maxLocals := 1, code := jdk_30_method_1_code, exceptionTable := #[], attributes := #[] }
def k3m0 : Method := { name := "<init>", desc := "()V", sig := { parameters := [], returnType := none }, accessFlags := 4, code := some k3c0 }
/-- java/lang/Record -/
def k3 : Class := { plain "java/lang/Record" (some 0) with
  accessFlags := 1057
  interfaces := #[]
  cf := some (fileOf pool3 7 #[] #[{ accessFlags := 4, nameIndex := 5, descriptorIndex := 6, attributes := #[] }] 1057 2 #[] #[])
  fields := #[]
  methods := #[k3m0]
  instanceTypes := #[]
  staticTypes := #[]
  resolved := Array.replicate 22 none
  statics := none }

def pool4 : Array CpInfo := pool [(1, .methodref 2 3), (0, .class_ 4), (0, .nameAndType 5 6), (0, u "java/lang/Record"), (0, u "<init>"), (0, u "()V"), (9, .fieldref 17 18), (0, .class_ 19), (0, .nameAndType 20 21), (0, u "com/example/bitbraid/bitbraid/RowRange"), (0, u "first"), (0, u "J"), (0, .fieldref 17 23), (0, .nameAndType 24 21), (0, u "last"), (12, u "(JJ)V"), (4, u "rows"), (0, u "()J")] 32

def k4c0 : Code := { maxStack := 6, maxLocals := 5, code := prog_18_method_1_code, exceptionTable := #[], attributes := #[] }
def k4m0 : Method := { name := "<init>", desc := "(JJ)V", sig := { parameters := [.long, .long], returnType := none }, accessFlags := 1, code := some k4c0 }
def k4c1 : Code := { maxStack := 4, maxLocals := 1, code := prog_18_method_2_code, exceptionTable := #[], attributes := #[] }
def k4m1 : Method := { name := "rows", desc := "()J", sig := { parameters := [], returnType := some .long }, accessFlags := 1, code := some k4c1 }
/-- com/example/bitbraid/bitbraid/RowRange -/
def k4 : Class := { plain "com/example/bitbraid/bitbraid/RowRange" (some 3) with
  accessFlags := 49
  interfaces := #[]
  cf := some (fileOf pool4 17 #[] #[{ accessFlags := 1, nameIndex := 5, descriptorIndex := 37, attributes := #[] }, { accessFlags := 1, nameIndex := 42, descriptorIndex := 43, attributes := #[] }] 49 2 #[] #[{ accessFlags := 18, nameIndex := 20, descriptorIndex := 21, attributes := #[] }, { accessFlags := 18, nameIndex := 24, descriptorIndex := 21, attributes := #[] }])
  fields := #[{ name := "first", type := .long, accessFlags := 18, slot := 0, constantValue := 0 }, { name := "last", type := .long, accessFlags := 18, slot := 1, constantValue := 0 }]
  methods := #[k4m0, k4m1]
  instanceTypes := #[.long, .long]
  staticTypes := #[]
  resolved := Array.replicate 76 none
  statics := none }

def pool5 : Array CpInfo := pool [(1, u "java/lang/Cloneable"), (0, .class_ 1), (0, u "java/lang/Object"), (0, .class_ 3)] 3

/-- java/lang/Cloneable -/
def k5 : Class := { plain "java/lang/Cloneable" (some 0) with
  accessFlags := 1537
  interfaces := #[]
  cf := some (fileOf pool5 2 #[] #[] 1537 4 #[] #[])
  fields := #[]
  methods := #[]
  instanceTypes := #[]
  staticTypes := #[]
  resolved := Array.replicate 8 none
  statics := none }

def pool6 : Array CpInfo := pool [(1, u "java/io/Serializable"), (0, .class_ 1), (0, u "java/lang/Object"), (0, .class_ 3)] 3

/-- java/io/Serializable -/
def k6 : Class := { plain "java/io/Serializable" (some 0) with
  accessFlags := 1537
  interfaces := #[]
  cf := some (fileOf pool6 2 #[] #[] 1537 4 #[] #[])
  fields := #[]
  methods := #[]
  instanceTypes := #[]
  staticTypes := #[]
  resolved := Array.replicate 8 none
  statics := none }

/-- the primitive byte -/
def k7 : Class := { plain "byte" none with kind := .primitive 'B', accessFlags := 0x411 }
/-- [B -/
def k8 : Class := { plain "[B" (some 0) with kind := .array 7 .byte, interfaces := #[5, 6], accessFlags := 1041 }

/-- the primitive int -/
def k9 : Class := { plain "int" none with kind := .primitive 'I', accessFlags := 0x411 }
/-- [I -/
def k10 : Class := { plain "[I" (some 0) with kind := .array 9 .int, interfaces := #[5, 6], accessFlags := 1041 }

def heap : Heap := #[]
def classes : Array Class := #[k0, k1, k2, k3, k4, k5, k6, k7, k8, k9, k10]
def interned : List (Array UInt16 × Addr) := []
def slotsUsed : Nat := 0
def theMethod : MethodId := ⟨1, 1⟩
def args0 : Array Value := #[.long 5, .long 7, .long 8]
def aboutOver (below : List Frame) : State where
  vm := { classes := classes, interned := interned.toArray }
  heap := heap
  slotsUsed := slotsUsed
  threads := #[{ frames := .invoking theMethod args0 :: below }]
def below0 : List Frame := [.native { method := ⟨0, 0⟩, args := #[] }]
def about1 : State := aboutOver below0
def p0 : Program := .bare "" "" ""
def e0 : Env := launch0.env 0 0 0
theorem w_frames : about1.frames = Frame.invoking theMethod args0 :: below0 := rfl
set_option maxRecDepth 65536 in
theorem w_args : argsFit about1.vm theMethod args0 = true := by decide +kernel
set_option maxRecDepth 65536 in
theorem w_heap : heapFits about1 = true := by decide +kernel
set_option maxRecDepth 65536 in
theorem w_runnable : about1.curStatus? = some .runnable := by decide +kernel
set_option maxRecDepth 65536 in
theorem w_alone : about1.alone = true := by decide +kernel
set_option maxRecDepth 65536 in
theorem w_named : about1.methodNamed? x = some theMethod := by decide +kernel
set_option maxRecDepth 65536 in
theorem w_hears : about1.hears theMethod below0 = true := by decide +kernel
set_option maxRecDepth 65536 in
theorem w_ripe : about1.ripe theMethod args0 below0 = true := by decide +kernel
theorem w_running : about1.status = .running := rfl
set_option maxRecDepth 65536 in
theorem w_room : about1.hasRoom e0.platform room_1 = true :=
  launch0.hasRoom_least _ room_1 (by decide +kernel) (by decide +kernel) (by decide +kernel) (by decide +kernel) (by decide +kernel) (by decide +kernel)
theorem allAtoms_all (ts : List Jvm.Cond) (a : Array Jvm.Value) (st : Jvm.State) : (allAtoms ts).before a st = ts.all (fun c => c.before a st) := by
  induction ts with
  | nil => rfl
  | cons c t ih =>
    show (Jvm.Cond.and c (allAtoms t)).before a st = _
    rw [Jvm.Cond.before_and, ih, List.all_cons]
def words1 : List Jvm.Cond := Jvm.Cond.code x code maxLocals ret :: tables_1
/-- a 'code' word, met by the world's own term for the bytes: nothing is compared byte by byte -/
theorem code_word {y : MethodName} {bytes : ByteArray} {mx : Nat} {rt : Option FieldType} {a : Array Value} {s : State} {m : MethodId} {meth : Method} {c : Code} (h1 : s.methodNamed? y = some m) (h2 : s.vm.method? m = some meth) (h3 : meth.code = some c) (h4 : c.code = bytes)
    (h5 : (c.maxLocals == mx && c.exceptionTable.isEmpty && decide (c.maxStack ≤ mostOperands) && decide (meth.sig.returnType = rt) && !meth.locks && decide (parseMethodDescriptor y.desc = some meth.sig)) = true) : (Jvm.Cond.code y bytes mx rt).before a s = true := by
  simp only [Bool.and_eq_true, beq_iff_eq, Bool.not_eq_true', decide_eq_true_eq] at h5
  obtain ⟨⟨⟨⟨⟨g1, g2⟩, g3⟩, g4⟩, g5⟩, g6⟩ := h5
  simp [Cond.before, Cond.holds, Cond.value, h1, h2, h3, h4, g1, g2, g3, g4, g5, g6]
def isCode : Jvm.Cond → Bool
  | .code _ _ _ _ => true
  | _ => false
theorem all_split {L : List Jvm.Cond} {P : Jvm.Cond → Bool} (h1 : L.all (fun c => isCode c || P c) = true) (h2 : ∀ c ∈ L.filter isCode, P c = true) : L.all P = true := by
  refine List.all_eq_true.mpr fun c hc => ?_
  have h := List.all_eq_true.mp h1 c hc
  rcases Bool.eq_false_or_eq_true (isCode c) with hi | hi
  · exact h2 c (List.mem_filter.mpr ⟨hc, hi⟩)
  · simpa [hi] using h
set_option maxRecDepth 65536 in
theorem w_c0 : (Jvm.Cond.code x code maxLocals ret).before args0 about1 = true := code_word (m := ⟨1, 1⟩) (meth := k1m1) (c := k1c1) (by decide +kernel) rfl rfl rfl (by decide +kernel)
set_option maxRecDepth 65536 in
theorem w_c1 : (Jvm.Cond.code ({ cls := "java/lang/Math", name := "min", desc := "(JJ)J" } : Jvm.MethodName) jdk_29_method_70_code (4 : Nat) (Option.some Jvm.ClassFile.FieldType.long)).before args0 about1 = true := code_word (m := ⟨2, 2⟩) (meth := k2m2) (c := k2c2) (by decide +kernel) rfl rfl rfl (by decide +kernel)
set_option maxRecDepth 65536 in
theorem w_c2 : (Jvm.Cond.code ({ cls := "java/lang/Math", name := "max", desc := "(JJ)J" } : Jvm.MethodName) jdk_29_method_66_code (4 : Nat) (Option.some Jvm.ClassFile.FieldType.long)).before args0 about1 = true := code_word (m := ⟨2, 1⟩) (meth := k2m1) (c := k2c1) (by decide +kernel) rfl rfl rfl (by decide +kernel)
set_option maxRecDepth 65536 in
theorem w_c3 : (Jvm.Cond.code ({ cls := "com/example/bitbraid/bitbraid/RowRange", name := "<init>", desc := "(JJ)V" } : Jvm.MethodName) prog_18_method_1_code (5 : Nat) (Option.none : Option Jvm.ClassFile.FieldType)).before args0 about1 = true := code_word (m := ⟨4, 0⟩) (meth := k4m0) (c := k4c0) (by decide +kernel) rfl rfl rfl (by decide +kernel)
set_option maxRecDepth 65536 in
theorem w_c4 : (Jvm.Cond.code ({ cls := "java/lang/Record", name := "<init>", desc := "()V" } : Jvm.MethodName) jdk_30_method_1_code (1 : Nat) (Option.none : Option Jvm.ClassFile.FieldType)).before args0 about1 = true := code_word (m := ⟨3, 0⟩) (meth := k3m0) (c := k3c0) (by decide +kernel) rfl rfl rfl (by decide +kernel)
set_option maxRecDepth 65536 in
theorem w_c5 : (Jvm.Cond.code ({ cls := "java/lang/Object", name := "<init>", desc := "()V" } : Jvm.MethodName) object_method_1_code (1 : Nat) (Option.none : Option Jvm.ClassFile.FieldType)).before args0 about1 = true := code_word (m := ⟨0, 0⟩) (meth := k0m0) (c := k0c0) (by decide +kernel) rfl rfl rfl (by decide +kernel)
set_option maxRecDepth 65536 in
theorem w_c6 : (Jvm.Cond.code ({ cls := "com/example/bitbraid/bitbraid/RowRange", name := "rows", desc := "()J" } : Jvm.MethodName) prog_18_method_2_code (1 : Nat) (Option.some Jvm.ClassFile.FieldType.long)).before args0 about1 = true := code_word (m := ⟨4, 1⟩) (meth := k4m1) (c := k4c1) (by decide +kernel) rfl rfl rfl (by decide +kernel)
def codes1 : List Jvm.Cond := [Jvm.Cond.code x code maxLocals ret, Jvm.Cond.code ({ cls := "java/lang/Math", name := "min", desc := "(JJ)J" } : Jvm.MethodName) jdk_29_method_70_code (4 : Nat) (Option.some Jvm.ClassFile.FieldType.long), Jvm.Cond.code ({ cls := "java/lang/Math", name := "max", desc := "(JJ)J" } : Jvm.MethodName) jdk_29_method_66_code (4 : Nat) (Option.some Jvm.ClassFile.FieldType.long), Jvm.Cond.code ({ cls := "com/example/bitbraid/bitbraid/RowRange", name := "<init>", desc := "(JJ)V" } : Jvm.MethodName) prog_18_method_1_code (5 : Nat) (Option.none : Option Jvm.ClassFile.FieldType), Jvm.Cond.code ({ cls := "java/lang/Record", name := "<init>", desc := "()V" } : Jvm.MethodName) jdk_30_method_1_code (1 : Nat) (Option.none : Option Jvm.ClassFile.FieldType), Jvm.Cond.code ({ cls := "java/lang/Object", name := "<init>", desc := "()V" } : Jvm.MethodName) object_method_1_code (1 : Nat) (Option.none : Option Jvm.ClassFile.FieldType), Jvm.Cond.code ({ cls := "com/example/bitbraid/bitbraid/RowRange", name := "rows", desc := "()J" } : Jvm.MethodName) prog_18_method_2_code (1 : Nat) (Option.some Jvm.ClassFile.FieldType.long)]
set_option maxRecDepth 65536 in
theorem codes_eq : words1.filter isCode = codes1 := rfl
theorem w_codes : ∀ c ∈ words1.filter isCode, c.before args0 about1 = true := by
  rw [codes_eq]
  intro c hc
  simp only [codes1, List.mem_cons, List.not_mem_nil, or_false] at hc
  rcases hc with rfl | rfl | rfl | rfl | rfl | rfl | rfl
  · exact w_c0
  · exact w_c1
  · exact w_c2
  · exact w_c3
  · exact w_c4
  · exact w_c5
  · exact w_c6
set_option maxRecDepth 65536 in
theorem w_t1 : (words1.take 24).all (fun c => isCode c || c.before args0 about1) = true := by decide +kernel
set_option maxRecDepth 65536 in
theorem w_t2 : (words1.drop 24).all (fun c => isCode c || c.before args0 about1) = true := by decide +kernel
theorem w_tables : (allAtoms (Jvm.Cond.code x code maxLocals ret :: tables_1)).before args0 about1 = true := by
  rw [allAtoms_all]
  show words1.all (fun c => c.before args0 about1) = true
  refine all_split ?_ w_codes
  rw [← List.take_append_drop 24 words1, List.all_append, w_t1, w_t2]
  rfl
set_option maxRecDepth 65536 in
theorem w_case : (Jvm.Cond.and given_1 narrow_1).before args0 about1 = true := by decide +kernel
theorem w_applies : (headSpec (Jvm.Cond.code x code maxLocals ret :: tables_1) room_1).applies x e0.platform about1 = true :=
  (Spec.applies_iff w_frames).mpr ⟨w_running, w_runnable, w_alone, w_named, w_hears, w_ripe, w_room, w_tables⟩
theorem atStart : AtStart classFile x code maxLocals ret World_1 tables_1 room_1 Calls_1 rest_1 Pre_1 launch0 p0 e0 about1 theMethod args0 below0 :=
  ⟨lists_1, trivial, launch0.admits_env _ _ _, launch0.least_env, fairChoices_fair.cas, fairChoices_fair.clock, w_frames, w_args, w_heap, w_applies, trivial, trivial, w_case⟩
end start1
theorem witness_1 : WitnessClaimed_1 := ⟨start1.p0, start1.e0, start1.about1, start1.theMethod, start1.args0, start1.below0, start1.atStart⟩
end Jvm.Pilot.@@N@@
