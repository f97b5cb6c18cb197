import JvmDerived
import JvmDerived.Pilot.@@N@@Statement
import JvmDerived.Pilot.@@N@@Code
set_option linter.unusedVariables false
set_option linter.unusedSimpArgs false
namespace Jvm.RoadKit
open Sem ClassFile Op Lib Jvm.Stand Jvm.Free Jvm.LawKit
section New
variable {p : Program} {l : Launch} {e : Env} {R : Room} {s : State} {m : MethodId} {args : Array Value} {below : List Frame} {meth : Method} {c : Code} {T : State} {locs : List Loc} {cells slots : Nat}
theorem retI (X : Stand p l e R s m args below meth c T locs cells slots) (hx : p.tables.exec = Jvm.exec) {pc : Nat} {Ls : Array Slot} {z : Int32} {rest : List Value} (hret : meth.sig.returnType = some .int) (hd : decode c.code pc = .ok (.ireturn, 1)) {fs : List Frame}
    (hl : ∀ (f : JFrame) (acts : List Action), f.method = m → f.locked = none → f.entered = [] → (doReturn e (T.setTop f) acts (some (.int z))).1 = T.setFrames fs) : Steps p.tables e below (T.setTop (mkF m pc Ls (.int z :: rest))) (T.setFrames fs) := by
  have hm' : T.vm.method? m = some meth := X.method'
  have hn : narrow .int (.int z) = .int z := rfl
  show Steps p.tables e below (T.setTop { method := m, pc := pc, locals := Ls, stack := _ :: rest, locked := none }) _
  jvm_step X.here [X.here.top, hx, hd, hm', hret, hn]
  first | (intro acts; rw [hl _ acts rfl rfl rfl]) | rw [hl _ _ rfl rfl rfl]
  exact Steps.refl _
abbrev jv (x : Int64) : Slot := .val (.long x)
/-- from A the run goes on to an end of which R holds -/
def Wk (tb : Tables) (e : Env) (below : List Frame) (A : State) (R : State → Outcome → Prop) : Prop := ∃ U o, Steps tb e below A U ∧ R U o
theorem Wk.go {tb : Tables} {A A' : State} {R : State → Outcome → Prop} (h : ∀ t, Steps tb e below A' t → Steps tb e below A t) (k : Wk tb e below A' R) : Wk tb e below A R := by
  obtain ⟨U, o, k1, k2⟩ := k
  exact ⟨U, o, h _ k1, k2⟩
/-- the two ways from A to A' meet there -/
theorem own_fin (X : Stand p l e R s m args below meth c T locs cells slots) {Qv : Option Value → Heap → List Loc → Prop} {v : Option Value} {g : JFrame} {C S : Nat} (hlocks : meth.locks = false) (hv : meth.sig.returnType = none → v = none)
    (hst : ∀ fs, (∀ (f : JFrame) (acts : List Action), f.method = m → f.locked = none → f.entered = [] → (doReturn e (T.setTop f) acts v).1 = T.setFrames fs) → Steps p.tables e below (T.setTop g) (T.setFrames fs))
    (hQ : Qv v T.heap locs) (hc : cells ≤ C) (hs : slots ≤ S) :
    Wk p.tables e below (T.setTop g) (fun U o => U.status = .running ∧ Ended U below o ∧ ∃ v L, o = .returned v ∧ Qv v U.heap L ∧ FrameEnd s o U L C S) := by
  obtain ⟨fs, hr, hrun, hended, hW, hsame⟩ := X.leave (v := v) hv hlocks
  exact ⟨_, _, hst fs hr, hrun, hended, _, _, rfl, hQ, ⟨_, rfl⟩, hW, hsame.mono hc hs⟩
end New
end Jvm.RoadKit
namespace Jvm.Pilot.@@N@@
open Jvm Jvm.ClassFile Sem Op Lib Jvm.Free Jvm.Stand Jvm.LawKit Jvm.RoadKit Bundle Jvm.Pilot.@@N@@.Jvm.D
theorem d1_0 : decode method_2_code 0 = .ok (.iload_n 0, 1) := by decide +kernel
theorem d1_1 : decode method_2_code 1 = .ok (.bipush 125, 2) := by decide +kernel
theorem d1_3 : decode method_2_code 3 = .ok (.if_icmp .gt 5, 3) := by decide +kernel
theorem d1_8 : decode method_2_code 8 = .ok (.iload_n 0, 1) := by decide +kernel
theorem d1_9 : decode method_2_code 9 = .ok (.bipush 16, 2) := by decide +kernel
theorem d1_11 : decode method_2_code 11 = .ok (.iushr, 1) := by decide +kernel
theorem d1_12 : decode method_2_code 12 = .ok (.ifCond .ne 5, 3) := by decide +kernel
theorem d1_15 : decode method_2_code 15 = .ok (.iconst 2, 1) := by decide +kernel
theorem d1_16 : decode method_2_code 16 = .ok (.ireturn, 1) := by decide +kernel
theorem d1_17 : decode method_2_code 17 = .ok (.bipush 8, 2) := by decide +kernel
theorem d1_19 : decode method_2_code 19 = .ok (.ireturn, 1) := by decide +kernel
theorem d1_6 : decode method_2_code 6 = .ok (.iconst 0, 1) := by decide +kernel
theorem d1_7 : decode method_2_code 7 = .ok (.ireturn, 1) := by decide +kernel
theorem pn_0 : plainName "com/example/dense_envelope/denseenvelope/websocket/FramingHeaderLengthPinLaw" = true := by first | (simp [plainName, overriddenIn]; done) | decide +kernel
theorem ef_1 (m : MethodId) (x0 : Int32) : entryFrame m #[(.int x0)] 1 = mkF m 0 #[iv x0] [] := by first | (simp [entryFrame, mkF, argsToLocals, Value.category]; done) | rfl
def f_ext (nx : Int32)  : Int32 := (if (125 : Int32) < nx then (if ((nx.toUInt32 >>> ((16 : Int32) &&& 31).toUInt32).toInt32) = (0 : Int32) then (2 : Int32) else (8 : Int32)) else (0 : Int32))
def Q1 (Z : State) (nx : Int32)  (h0 : Heap) (n0 : Nat) (v : Option Value) (h : Heap) (L : List Loc) : Prop := v = some (.int (f_ext nx)) ∧ Fr n0 L ∧ h = h0
set_option maxRecDepth 65536 in
set_option maxHeartbeats 40000000 in
theorem rm1 (l : Launch) (Z : State) (a0 : Array Value) (hw : ∀ d ∈ tables_1, d.before a0 Z = true) (ws : List Jvm.Cond) (nx : Int32)  (h0 : Heap) (n0 : Nat) (Z0 : n0 ≤ h0.size)  :
    MetFree l (⟨"com/example/dense_envelope/denseenvelope/websocket/FramingHeaderLengthPinLaw", "extendedLengthBytes", "(I)I"⟩ : MethodName) (head1 (Jvm.Cond.code (⟨"com/example/dense_envelope/denseenvelope/websocket/FramingHeaderLengthPinLaw", "extendedLengthBytes", "(I)I"⟩ : MethodName) method_2_code 1 (some .int) :: ws) ({ frames := 0, cells := 0, slots := 0, locals := 0 } : Room)) (fun a U => a = #[(.int nx)] ∧ Z.Warmed39 U.vm ∧ U.heap = h0) (fun _ _ _ _ _ => True) (fun _ U o U' => ∃ v L, o = .returned v ∧ Q1 Z nx h0 n0 v U'.heap L ∧ FrameEnd U o U' L ({ frames := 0, cells := 0, slots := 0, locals := 0 } : Room).cells ({ frames := 0, cells := 0, slots := 0, locals := 0 } : Room).slots) := by
  refine MetFree.of_bodySF (plainFor_of_name pn_0) hisR ?_
  intro p e s m args below meth c s₁ Bd hml0 hP hK
  obtain ⟨rfl, hZ, hh⟩ := hP
  have hx := Bd.exec
  have hby := Bd.bytes
  have hml : c.maxLocals = 1 := hml0
  have hown : s.vm.findClass "com/example/dense_envelope/denseenvelope/websocket/FramingHeaderLengthPinLaw" = some m.cls := findClass_of_methodNamed Bd.named
  have hnm := (name_of_methodNamed Bd.named Bd.method).1
  have X0 : Stand p l e ({ frames := 0, cells := 0, slots := 0, locals := 0 } : Room) s m #[(.int nx)] below meth c s₁ [] 0 0 := Stand.of_body Bd
  have e0 : s₁.heap = h0 := by rw [← hh, Bd.state]; rfl
  have N0 := Fr.nil n0
  have hlk : meth.locks = false := BodyLoose.notSynchronized Bd
  suffices hwk : Wk p.tables e below (s₁.setTop (mkF m 0 #[iv nx] [])) (fun U o => U.status = .running ∧ Ended U below o ∧ ∃ v L, o = .returned v ∧ Q1 Z nx h0 n0 v U.heap L ∧ FrameEnd s o U L 0 0) by
    obtain ⟨U, o, k1, k2⟩ := hwk
    exact ⟨U, o, castTop (ef_1 m nx) k1, k2⟩
  refine Wk.go (A' := s₁.setTop (mkF m 1 #[iv nx] [(.int nx)])) (fun t k => XS.iloadN X0.here hx rfl (hb hby d1_0) rfl k) ?_
  refine Wk.go (A' := s₁.setTop (mkF m 3 #[iv nx] [(.int (125 : Int32)), (.int nx)])) (fun t k => XS.bipush X0.here hx rfl (hb hby d1_1) k) ?_
  by_cases hc3 : (125 : Int32) < nx
  · refine Wk.go (A' := s₁.setTop (mkF m 8 #[iv nx] [])) (fun t k => XS.icmpYes X0.here hx rfl (pc0 := 3) (pc' := 8) rfl (hb hby d1_3) rfl (tlt hc3).2.2.1 (by decide) (by decide) k) ?_
    refine Wk.go (A' := s₁.setTop (mkF m 9 #[iv nx] [(.int nx)])) (fun t k => XS.iloadN X0.here hx rfl (hb hby d1_8) rfl k) ?_
    refine Wk.go (A' := s₁.setTop (mkF m 11 #[iv nx] [(.int (16 : Int32)), (.int nx)])) (fun t k => XS.bipush X0.here hx rfl (hb hby d1_9) k) ?_
    refine Wk.go (A' := s₁.setTop (mkF m 12 #[iv nx] [(.int ((nx.toUInt32 >>> ((16 : Int32) &&& 31).toUInt32).toInt32))])) (fun t k => XS.iushr X0.here hx rfl (hb hby d1_11) rfl k) ?_
    by_cases hc12 : ((nx.toUInt32 >>> ((16 : Int32) &&& 31).toUInt32).toInt32) = (0 : Int32)
    · refine Wk.go (A' := s₁.setTop (mkF m 15 #[iv nx] [])) (fun t k => XS.ifNo X0.here hx rfl (hb hby d1_12) rfl ((if0 _ _).trans (teq hc12).2) k) ?_
      refine Wk.go (A' := s₁.setTop (mkF m 16 #[iv nx] [(.int (2 : Int32))])) (fun t k => XS.iconst X0.here hx rfl (hb hby d1_15) k) ?_
      refine own_fin (Qv := Q1 Z nx h0 n0) (v := some (.int (2 : Int32))) X0 hlk (fun h => by rw [Bd.returns] at h; cases h) (fun fs hr => retI X0 hx Bd.returns (hb hby d1_16) hr) ?_ (by decide) (by decide)
      refine ⟨?_, N0, e0⟩
      simp only [f_ext, if_pos hc3, if_pos hc12]
    · refine Wk.go (A' := s₁.setTop (mkF m 17 #[iv nx] [])) (fun t k => XS.ifYes X0.here hx rfl (pc0 := 12) (pc' := 17) rfl (hb hby d1_12) rfl ((if0 _ _).trans (feq hc12).2) (by decide) (by decide) k) ?_
      refine Wk.go (A' := s₁.setTop (mkF m 19 #[iv nx] [(.int (8 : Int32))])) (fun t k => XS.bipush X0.here hx rfl (hb hby d1_17) k) ?_
      refine own_fin (Qv := Q1 Z nx h0 n0) (v := some (.int (8 : Int32))) X0 hlk (fun h => by rw [Bd.returns] at h; cases h) (fun fs hr => retI X0 hx Bd.returns (hb hby d1_19) hr) ?_ (by decide) (by decide)
      refine ⟨?_, N0, e0⟩
      simp only [f_ext, if_pos hc3, if_neg hc12]
  · refine Wk.go (A' := s₁.setTop (mkF m 6 #[iv nx] [])) (fun t k => XS.icmpNo X0.here hx rfl (hb hby d1_3) rfl (flt hc3).2.2.1 k) ?_
    refine Wk.go (A' := s₁.setTop (mkF m 7 #[iv nx] [(.int (0 : Int32))])) (fun t k => XS.iconst X0.here hx rfl (hb hby d1_6) k) ?_
    refine own_fin (Qv := Q1 Z nx h0 n0) (v := some (.int (0 : Int32))) X0 hlk (fun h => by rw [Bd.returns] at h; cases h) (fun fs hr => retI X0 hx Bd.returns (hb hby d1_7) hr) ?_ (by decide) (by decide)
    refine ⟨?_, N0, e0⟩
    simp only [f_ext, if_neg hc3]
theorem d2_0 : decode prog_102_method_2_code 0 = .ok (.iload_n 0, 1) := by decide +kernel
theorem d2_1 : decode prog_102_method_2_code 1 = .ok (.bipush 126, 2) := by decide +kernel
theorem d2_3 : decode prog_102_method_2_code 3 = .ok (.if_icmp .ge 7, 3) := by decide +kernel
theorem d2_6 : decode prog_102_method_2_code 6 = .ok (.iconst 2, 1) := by decide +kernel
theorem d2_7 : decode prog_102_method_2_code 7 = .ok (.goto 15, 3) := by decide +kernel
theorem d2_22 : decode prog_102_method_2_code 22 = .ok (.iload_n 1, 1) := by decide +kernel
theorem d2_23 : decode prog_102_method_2_code 23 = .ok (.ifCond .eq 7, 3) := by decide +kernel
theorem d2_30 : decode prog_102_method_2_code 30 = .ok (.iconst 0, 1) := by decide +kernel
theorem d2_31 : decode prog_102_method_2_code 31 = .ok (.iadd, 1) := by decide +kernel
theorem d2_32 : decode prog_102_method_2_code 32 = .ok (.ireturn, 1) := by decide +kernel
theorem d2_26 : decode prog_102_method_2_code 26 = .ok (.iconst 4, 1) := by decide +kernel
theorem d2_27 : decode prog_102_method_2_code 27 = .ok (.goto 4, 3) := by decide +kernel
theorem d2_10 : decode prog_102_method_2_code 10 = .ok (.iload_n 0, 1) := by decide +kernel
theorem tw9 {Z : State} {a0 : Array Value} (hw : ∀ d ∈ tables_1, d.before a0 Z = true) : (Jvm.Cond.constant "com/example/dense_envelope/denseenvelope/websocket/Framing" (9 : Nat) (65536 : Int32)).before a0 Z = true := hw _ (List.mem_of_getElem? (i := 9) rfl)
theorem d2_11 : decode prog_102_method_2_code 11 = .ok (.ldc 9, 2) := by decide +kernel
theorem d2_13 : decode prog_102_method_2_code 13 = .ok (.if_icmp .ge 7, 3) := by decide +kernel
theorem d2_16 : decode prog_102_method_2_code 16 = .ok (.iconst 4, 1) := by decide +kernel
theorem d2_17 : decode prog_102_method_2_code 17 = .ok (.goto 5, 3) := by decide +kernel
theorem d2_20 : decode prog_102_method_2_code 20 = .ok (.bipush 10, 2) := by decide +kernel
theorem pn_1 : plainName "com/example/dense_envelope/denseenvelope/websocket/Framing" = true := by first | (simp [plainName, overriddenIn]; done) | decide +kernel
theorem ef_2 (m : MethodId) (x0 : Int32) (x1 : Int32) : entryFrame m #[(.int x0), (.int x1)] 2 = mkF m 0 #[iv x0, iv x1] [] := by first | (simp [entryFrame, mkF, argsToLocals, Value.category]; done) | rfl
def f_hdr (nx : Int32) (bx : Int32)  : Int32 := (if nx < (126 : Int32) then (if bx = (0 : Int32) then (2 : Int32) else (6 : Int32)) else (if nx < (65536 : Int32) then (if bx = (0 : Int32) then (4 : Int32) else (8 : Int32)) else (if bx = (0 : Int32) then (10 : Int32) else (14 : Int32))))
def Q2 (Z : State) (nx : Int32) (bx : Int32)  (h0 : Heap) (n0 : Nat) (v : Option Value) (h : Heap) (L : List Loc) : Prop := v = some (.int (f_hdr nx bx)) ∧ Fr n0 L ∧ h = h0
set_option maxRecDepth 65536 in
set_option maxHeartbeats 40000000 in
theorem rm2 (l : Launch) (Z : State) (a0 : Array Value) (hw : ∀ d ∈ tables_1, d.before a0 Z = true) (ws : List Jvm.Cond) (nx : Int32) (bx : Int32)  (h0 : Heap) (n0 : Nat) (Z0 : n0 ≤ h0.size)  :
    MetFree l (⟨"com/example/dense_envelope/denseenvelope/websocket/Framing", "headerLength", "(IZ)I"⟩ : MethodName) (head1 (Jvm.Cond.code (⟨"com/example/dense_envelope/denseenvelope/websocket/Framing", "headerLength", "(IZ)I"⟩ : MethodName) prog_102_method_2_code 2 (some .int) :: ws) ({ frames := 0, cells := 0, slots := 0, locals := 0 } : Room)) (fun a U => a = #[(.int nx), (.int bx)] ∧ Z.Warmed39 U.vm ∧ U.heap = h0) (fun _ _ _ _ _ => True) (fun _ U o U' => ∃ v L, o = .returned v ∧ Q2 Z nx bx h0 n0 v U'.heap L ∧ FrameEnd U o U' L ({ frames := 0, cells := 0, slots := 0, locals := 0 } : Room).cells ({ frames := 0, cells := 0, slots := 0, locals := 0 } : Room).slots) := by
  refine MetFree.of_bodySF (plainFor_of_name pn_1) hisR ?_
  intro p e s m args below meth c s₁ Bd hml0 hP hK
  obtain ⟨rfl, hZ, hh⟩ := hP
  have hx := Bd.exec
  have hby := Bd.bytes
  have hml : c.maxLocals = 2 := hml0
  have hown : s.vm.findClass "com/example/dense_envelope/denseenvelope/websocket/Framing" = some m.cls := findClass_of_methodNamed Bd.named
  have hnm := (name_of_methodNamed Bd.named Bd.method).1
  have X0 : Stand p l e ({ frames := 0, cells := 0, slots := 0, locals := 0 } : Room) s m #[(.int nx), (.int bx)] below meth c s₁ [] 0 0 := Stand.of_body Bd
  have e0 : s₁.heap = h0 := by rw [← hh, Bd.state]; rfl
  have N0 := Fr.nil n0
  have hlk : meth.locks = false := BodyLoose.notSynchronized Bd
  suffices hwk : Wk p.tables e below (s₁.setTop (mkF m 0 #[iv nx, iv bx] [])) (fun U o => U.status = .running ∧ Ended U below o ∧ ∃ v L, o = .returned v ∧ Q2 Z nx bx h0 n0 v U.heap L ∧ FrameEnd s o U L 0 0) by
    obtain ⟨U, o, k1, k2⟩ := hwk
    exact ⟨U, o, castTop (ef_2 m nx bx) k1, k2⟩
  refine Wk.go (A' := s₁.setTop (mkF m 1 #[iv nx, iv bx] [(.int nx)])) (fun t k => XS.iloadN X0.here hx rfl (hb hby d2_0) rfl k) ?_
  refine Wk.go (A' := s₁.setTop (mkF m 3 #[iv nx, iv bx] [(.int (126 : Int32)), (.int nx)])) (fun t k => XS.bipush X0.here hx rfl (hb hby d2_1) k) ?_
  by_cases hc3 : nx < (126 : Int32)
  · refine Wk.go (A' := s₁.setTop (mkF m 6 #[iv nx, iv bx] [])) (fun t k => XS.icmpNo X0.here hx rfl (hb hby d2_3) rfl (tlt hc3).2.1 k) ?_
    refine Wk.go (A' := s₁.setTop (mkF m 7 #[iv nx, iv bx] [(.int (2 : Int32))])) (fun t k => XS.iconst X0.here hx rfl (hb hby d2_6) k) ?_
    refine Wk.go (A' := s₁.setTop (mkF m 22 #[iv nx, iv bx] [(.int (2 : Int32))])) (fun t k => XS.goto X0.here hx rfl (pc0 := 7) (pc' := 22) rfl (hb hby d2_7) (by decide) (by decide) k) ?_
    refine Wk.go (A' := s₁.setTop (mkF m 23 #[iv nx, iv bx] [(.int bx), (.int (2 : Int32))])) (fun t k => XS.iloadN X0.here hx rfl (hb hby d2_22) rfl k) ?_
    by_cases hc23 : bx = (0 : Int32)
    · refine Wk.go (A' := s₁.setTop (mkF m 30 #[iv nx, iv bx] [(.int (2 : Int32))])) (fun t k => XS.ifYes X0.here hx rfl (pc0 := 23) (pc' := 30) rfl (hb hby d2_23) rfl ((if0 _ _).trans (teq hc23).1) (by decide) (by decide) k) ?_
      refine Wk.go (A' := s₁.setTop (mkF m 31 #[iv nx, iv bx] [(.int (0 : Int32)), (.int (2 : Int32))])) (fun t k => XS.iconst X0.here hx rfl (hb hby d2_30) k) ?_
      refine Wk.go (A' := s₁.setTop (mkF m 32 #[iv nx, iv bx] [(.int (2 : Int32))])) (fun t k => XS.iadd X0.here hx rfl (hb hby d2_31) rfl k) ?_
      refine own_fin (Qv := Q2 Z nx bx h0 n0) (v := some (.int (2 : Int32))) X0 hlk (fun h => by rw [Bd.returns] at h; cases h) (fun fs hr => retI X0 hx Bd.returns (hb hby d2_32) hr) ?_ (by decide) (by decide)
      refine ⟨?_, N0, e0⟩
      simp only [f_hdr, if_pos hc3, if_pos hc23]
    · refine Wk.go (A' := s₁.setTop (mkF m 26 #[iv nx, iv bx] [(.int (2 : Int32))])) (fun t k => XS.ifNo X0.here hx rfl (hb hby d2_23) rfl ((if0 _ _).trans (feq hc23).1) k) ?_
      refine Wk.go (A' := s₁.setTop (mkF m 27 #[iv nx, iv bx] [(.int (4 : Int32)), (.int (2 : Int32))])) (fun t k => XS.iconst X0.here hx rfl (hb hby d2_26) k) ?_
      refine Wk.go (A' := s₁.setTop (mkF m 31 #[iv nx, iv bx] [(.int (4 : Int32)), (.int (2 : Int32))])) (fun t k => XS.goto X0.here hx rfl (pc0 := 27) (pc' := 31) rfl (hb hby d2_27) (by decide) (by decide) k) ?_
      refine Wk.go (A' := s₁.setTop (mkF m 32 #[iv nx, iv bx] [(.int (6 : Int32))])) (fun t k => XS.iadd X0.here hx rfl (hb hby d2_31) rfl k) ?_
      refine own_fin (Qv := Q2 Z nx bx h0 n0) (v := some (.int (6 : Int32))) X0 hlk (fun h => by rw [Bd.returns] at h; cases h) (fun fs hr => retI X0 hx Bd.returns (hb hby d2_32) hr) ?_ (by decide) (by decide)
      refine ⟨?_, N0, e0⟩
      simp only [f_hdr, if_pos hc3, if_neg hc23]
  · refine Wk.go (A' := s₁.setTop (mkF m 10 #[iv nx, iv bx] [])) (fun t k => XS.icmpYes X0.here hx rfl (pc0 := 3) (pc' := 10) rfl (hb hby d2_3) rfl (flt hc3).2.1 (by decide) (by decide) k) ?_
    refine Wk.go (A' := s₁.setTop (mkF m 11 #[iv nx, iv bx] [(.int nx)])) (fun t k => XS.iloadN X0.here hx rfl (hb hby d2_10) rfl k) ?_
    refine Wk.go (A' := s₁.setTop (mkF m 13 #[iv nx, iv bx] [(.int (65536 : Int32)), (.int nx)])) (fun t k => X0.ldcInt hx hown (mvT hZ (tw9 hw)) (g := (mkF m 11 #[iv nx, iv bx] [(.int nx)])) rfl (hb hby d2_11) t k) ?_
    by_cases hc13 : nx < (65536 : Int32)
    · refine Wk.go (A' := s₁.setTop (mkF m 16 #[iv nx, iv bx] [])) (fun t k => XS.icmpNo X0.here hx rfl (hb hby d2_13) rfl (tlt hc13).2.1 k) ?_
      refine Wk.go (A' := s₁.setTop (mkF m 17 #[iv nx, iv bx] [(.int (4 : Int32))])) (fun t k => XS.iconst X0.here hx rfl (hb hby d2_16) k) ?_
      refine Wk.go (A' := s₁.setTop (mkF m 22 #[iv nx, iv bx] [(.int (4 : Int32))])) (fun t k => XS.goto X0.here hx rfl (pc0 := 17) (pc' := 22) rfl (hb hby d2_17) (by decide) (by decide) k) ?_
      refine Wk.go (A' := s₁.setTop (mkF m 23 #[iv nx, iv bx] [(.int bx), (.int (4 : Int32))])) (fun t k => XS.iloadN X0.here hx rfl (hb hby d2_22) rfl k) ?_
      by_cases hc23 : bx = (0 : Int32)
      · refine Wk.go (A' := s₁.setTop (mkF m 30 #[iv nx, iv bx] [(.int (4 : Int32))])) (fun t k => XS.ifYes X0.here hx rfl (pc0 := 23) (pc' := 30) rfl (hb hby d2_23) rfl ((if0 _ _).trans (teq hc23).1) (by decide) (by decide) k) ?_
        refine Wk.go (A' := s₁.setTop (mkF m 31 #[iv nx, iv bx] [(.int (0 : Int32)), (.int (4 : Int32))])) (fun t k => XS.iconst X0.here hx rfl (hb hby d2_30) k) ?_
        refine Wk.go (A' := s₁.setTop (mkF m 32 #[iv nx, iv bx] [(.int (4 : Int32))])) (fun t k => XS.iadd X0.here hx rfl (hb hby d2_31) rfl k) ?_
        refine own_fin (Qv := Q2 Z nx bx h0 n0) (v := some (.int (4 : Int32))) X0 hlk (fun h => by rw [Bd.returns] at h; cases h) (fun fs hr => retI X0 hx Bd.returns (hb hby d2_32) hr) ?_ (by decide) (by decide)
        refine ⟨?_, N0, e0⟩
        simp only [f_hdr, if_neg hc3, if_pos hc13, if_pos hc23]
      · refine Wk.go (A' := s₁.setTop (mkF m 26 #[iv nx, iv bx] [(.int (4 : Int32))])) (fun t k => XS.ifNo X0.here hx rfl (hb hby d2_23) rfl ((if0 _ _).trans (feq hc23).1) k) ?_
        refine Wk.go (A' := s₁.setTop (mkF m 27 #[iv nx, iv bx] [(.int (4 : Int32)), (.int (4 : Int32))])) (fun t k => XS.iconst X0.here hx rfl (hb hby d2_26) k) ?_
        refine Wk.go (A' := s₁.setTop (mkF m 31 #[iv nx, iv bx] [(.int (4 : Int32)), (.int (4 : Int32))])) (fun t k => XS.goto X0.here hx rfl (pc0 := 27) (pc' := 31) rfl (hb hby d2_27) (by decide) (by decide) k) ?_
        refine Wk.go (A' := s₁.setTop (mkF m 32 #[iv nx, iv bx] [(.int (8 : Int32))])) (fun t k => XS.iadd X0.here hx rfl (hb hby d2_31) rfl k) ?_
        refine own_fin (Qv := Q2 Z nx bx h0 n0) (v := some (.int (8 : Int32))) X0 hlk (fun h => by rw [Bd.returns] at h; cases h) (fun fs hr => retI X0 hx Bd.returns (hb hby d2_32) hr) ?_ (by decide) (by decide)
        refine ⟨?_, N0, e0⟩
        simp only [f_hdr, if_neg hc3, if_pos hc13, if_neg hc23]
    · refine Wk.go (A' := s₁.setTop (mkF m 20 #[iv nx, iv bx] [])) (fun t k => XS.icmpYes X0.here hx rfl (pc0 := 13) (pc' := 20) rfl (hb hby d2_13) rfl (flt hc13).2.1 (by decide) (by decide) k) ?_
      refine Wk.go (A' := s₁.setTop (mkF m 22 #[iv nx, iv bx] [(.int (10 : Int32))])) (fun t k => XS.bipush X0.here hx rfl (hb hby d2_20) k) ?_
      refine Wk.go (A' := s₁.setTop (mkF m 23 #[iv nx, iv bx] [(.int bx), (.int (10 : Int32))])) (fun t k => XS.iloadN X0.here hx rfl (hb hby d2_22) rfl k) ?_
      by_cases hc23 : bx = (0 : Int32)
      · refine Wk.go (A' := s₁.setTop (mkF m 30 #[iv nx, iv bx] [(.int (10 : Int32))])) (fun t k => XS.ifYes X0.here hx rfl (pc0 := 23) (pc' := 30) rfl (hb hby d2_23) rfl ((if0 _ _).trans (teq hc23).1) (by decide) (by decide) k) ?_
        refine Wk.go (A' := s₁.setTop (mkF m 31 #[iv nx, iv bx] [(.int (0 : Int32)), (.int (10 : Int32))])) (fun t k => XS.iconst X0.here hx rfl (hb hby d2_30) k) ?_
        refine Wk.go (A' := s₁.setTop (mkF m 32 #[iv nx, iv bx] [(.int (10 : Int32))])) (fun t k => XS.iadd X0.here hx rfl (hb hby d2_31) rfl k) ?_
        refine own_fin (Qv := Q2 Z nx bx h0 n0) (v := some (.int (10 : Int32))) X0 hlk (fun h => by rw [Bd.returns] at h; cases h) (fun fs hr => retI X0 hx Bd.returns (hb hby d2_32) hr) ?_ (by decide) (by decide)
        refine ⟨?_, N0, e0⟩
        simp only [f_hdr, if_neg hc3, if_neg hc13, if_pos hc23]
      · refine Wk.go (A' := s₁.setTop (mkF m 26 #[iv nx, iv bx] [(.int (10 : Int32))])) (fun t k => XS.ifNo X0.here hx rfl (hb hby d2_23) rfl ((if0 _ _).trans (feq hc23).1) k) ?_
        refine Wk.go (A' := s₁.setTop (mkF m 27 #[iv nx, iv bx] [(.int (4 : Int32)), (.int (10 : Int32))])) (fun t k => XS.iconst X0.here hx rfl (hb hby d2_26) k) ?_
        refine Wk.go (A' := s₁.setTop (mkF m 31 #[iv nx, iv bx] [(.int (4 : Int32)), (.int (10 : Int32))])) (fun t k => XS.goto X0.here hx rfl (pc0 := 27) (pc' := 31) rfl (hb hby d2_27) (by decide) (by decide) k) ?_
        refine Wk.go (A' := s₁.setTop (mkF m 32 #[iv nx, iv bx] [(.int (14 : Int32))])) (fun t k => XS.iadd X0.here hx rfl (hb hby d2_31) rfl k) ?_
        refine own_fin (Qv := Q2 Z nx bx h0 n0) (v := some (.int (14 : Int32))) X0 hlk (fun h => by rw [Bd.returns] at h; cases h) (fun fs hr => retI X0 hx Bd.returns (hb hby d2_32) hr) ?_ (by decide) (by decide)
        refine ⟨?_, N0, e0⟩
        simp only [f_hdr, if_neg hc3, if_neg hc13, if_neg hc23]
theorem own_ext (a : Int32) : f_ext (a &&& (2147483647 : Int32)) = if (a &&& (2147483647 : Int32)) < (126 : Int32) then 0 else if (a &&& (2147483647 : Int32)) < (65536 : Int32) then 2 else 8 := by
  have h2 := c_mask a 2147483647 31 (by decide) (by decide)
  generalize (a &&& (2147483647 : Int32)) = n at *
  have h3 := c_iushr n 16 16 (by decide) (by decide)
  have e0 : (0 : Int32).toInt = 0 := by decide
  have e1 : (125 : Int32).toInt = 125 := by decide
  have e2 : (126 : Int32).toInt = 126 := by decide
  have e3 : (65536 : Int32).toInt = 65536 := by decide
  unfold f_ext
  simp only [← Int32.toInt_inj, Int32.lt_iff_toInt_lt, e0, e1, e2, e3, h3]
  repeat' split
  all_goals first | rfl | (exfalso; omega)
theorem own_hdr (n : Int32) (b : Int32) : f_hdr n b = (if n < (126 : Int32) then 2 else if n < (65536 : Int32) then 4 else 10) + (if b = 0 then 0 else 4) := by
  unfold f_hdr
  repeat' split
  all_goals rfl
theorem tw0 {Z : State} {a0 : Array Value} (hw : ∀ d ∈ tables_1, d.before a0 Z = true) : (Jvm.Cond.constant "com/example/dense_envelope/denseenvelope/websocket/FramingHeaderLengthPinLaw" (7 : Nat) (2147483647 : Int32)).before a0 Z = true := hw _ (List.mem_of_getElem? (i := 0) rfl)
theorem tw1 {Z : State} {a0 : Array Value} (hw : ∀ d ∈ tables_1, d.before a0 Z = true) : (Jvm.Cond.methodLink "com/example/dense_envelope/denseenvelope/websocket/FramingHeaderLengthPinLaw" (8 : Nat) ({ cls := "com/example/dense_envelope/denseenvelope/websocket/FramingHeaderLengthPinLaw", name := "extendedLengthBytes", desc := "(I)I" } : Jvm.MethodName)).before a0 Z = true := hw _ (List.mem_of_getElem? (i := 1) rfl)
theorem tw4 {Z : State} {a0 : Array Value} (hw : ∀ d ∈ tables_1, d.before a0 Z = true) : (Jvm.Cond.code ({ cls := "com/example/dense_envelope/denseenvelope/websocket/FramingHeaderLengthPinLaw", name := "extendedLengthBytes", desc := "(I)I" } : Jvm.MethodName) method_2_code (1 : Nat) (Option.some Jvm.ClassFile.FieldType.int)).before a0 Z = true := hw _ (List.mem_of_getElem? (i := 4) rfl)
theorem tw3 {Z : State} {a0 : Array Value} (hw : ∀ d ∈ tables_1, d.before a0 Z = true) : (Jvm.Cond.initialized "com/example/dense_envelope/denseenvelope/websocket/FramingHeaderLengthPinLaw").before a0 Z = true := hw _ (List.mem_of_getElem? (i := 3) rfl)
theorem pd_0 : parseMethodDescriptor "(I)I" = some ⟨[.int], some .int⟩ := by decide +kernel
theorem tw2 {Z : State} {a0 : Array Value} (hw : ∀ d ∈ tables_1, d.before a0 Z = true) : (Jvm.Cond.static ({ cls := "com/example/dense_envelope/denseenvelope/websocket/FramingHeaderLengthPinLaw", name := "extendedLengthBytes", desc := "(I)I" } : Jvm.MethodName)).before a0 Z = true := hw _ (List.mem_of_getElem? (i := 2) rfl)
theorem tw5 {Z : State} {a0 : Array Value} (hw : ∀ d ∈ tables_1, d.before a0 Z = true) : (Jvm.Cond.methodLink "com/example/dense_envelope/denseenvelope/websocket/FramingHeaderLengthPinLaw" (14 : Nat) ({ cls := "com/example/dense_envelope/denseenvelope/websocket/Framing", name := "headerLength", desc := "(IZ)I" } : Jvm.MethodName)).before a0 Z = true := hw _ (List.mem_of_getElem? (i := 5) rfl)
theorem tw8 {Z : State} {a0 : Array Value} (hw : ∀ d ∈ tables_1, d.before a0 Z = true) : (Jvm.Cond.code ({ cls := "com/example/dense_envelope/denseenvelope/websocket/Framing", name := "headerLength", desc := "(IZ)I" } : Jvm.MethodName) prog_102_method_2_code (2 : Nat) (Option.some Jvm.ClassFile.FieldType.int)).before a0 Z = true := hw _ (List.mem_of_getElem? (i := 8) rfl)
theorem tw7 {Z : State} {a0 : Array Value} (hw : ∀ d ∈ tables_1, d.before a0 Z = true) : (Jvm.Cond.initialized "com/example/dense_envelope/denseenvelope/websocket/Framing").before a0 Z = true := hw _ (List.mem_of_getElem? (i := 7) rfl)
theorem pd_1 : parseMethodDescriptor "(IZ)I" = some ⟨[.int, .boolean], some .int⟩ := by decide +kernel
theorem tw6 {Z : State} {a0 : Array Value} (hw : ∀ d ∈ tables_1, d.before a0 Z = true) : (Jvm.Cond.static ({ cls := "com/example/dense_envelope/denseenvelope/websocket/Framing", name := "headerLength", desc := "(IZ)I" } : Jvm.MethodName)).before a0 Z = true := hw _ (List.mem_of_getElem? (i := 6) rfl)
theorem ef_0 (m : MethodId) (x0 : Int32) (x1 : Int32) : entryFrame m #[(.int x0), (.int x1)] maxLocals = mkF m 0 #[iv x0, iv x1, .unset, .unset, .unset, .unset, .unset, .unset, .unset] [] := by first | (simp [entryFrame, mkF, argsToLocals, Value.category, maxLocals]; done) | rfl
def Q0 (Z : State) (ax : Int32) (bx : Int32)  (h0 : Heap) (n0 : Nat) (v : Option Value) (h : Heap) (L : List Loc) : Prop := v = some (.int 1) ∧ Fr n0 L
set_option maxRecDepth 65536 in
set_option maxHeartbeats 40000000 in
theorem rm0 (l : Launch) (Z : State) (a0 : Array Value) (hw : ∀ d ∈ tables_1, d.before a0 Z = true) (ws : List Jvm.Cond) (ax : Int32) (bx : Int32)  (h0 : Heap) (n0 : Nat) (Z0 : n0 ≤ h0.size)  :
    MetFree l x (head1 (Jvm.Cond.code x code maxLocals ret :: ws) room_1) (fun a U => a = #[(.int ax), (.int bx)] ∧ Z.Warmed39 U.vm ∧ U.heap = h0) (fun _ _ _ _ _ => True) (fun _ U o U' => ∃ v L, o = .returned v ∧ Q0 Z ax bx h0 n0 v U'.heap L ∧ FrameEnd U o U' L 0 0) := by
  refine MetFree.of_bodySF (plainFor_of_name pn_0) hisR ?_
  intro p e s m args below meth c s₁ Bd hml0 hP hK
  obtain ⟨rfl, hZ, hh⟩ := hP
  have hx := Bd.exec
  have hby := Bd.bytes
  have hml : c.maxLocals = 9 := hml0
  have hown : s.vm.findClass "com/example/dense_envelope/denseenvelope/websocket/FramingHeaderLengthPinLaw" = some m.cls := findClass_of_methodNamed Bd.named
  have hnm := (name_of_methodNamed Bd.named Bd.method).1
  have X0 : Stand p l e room_1 s m #[(.int ax), (.int bx)] below meth c s₁ [] 0 0 := Stand.of_body Bd
  have e0 : s₁.heap = h0 := by rw [← hh, Bd.state]; rfl
  have N0 := Fr.nil n0
  have hlk : meth.locks = false := BodyLoose.notSynchronized Bd
  suffices hwk : Wk p.tables e below (s₁.setTop (mkF m 0 #[iv ax, iv bx, .unset, .unset, .unset, .unset, .unset, .unset, .unset] [])) (fun U o => U.status = .running ∧ Ended U below o ∧ ∃ v L, o = .returned v ∧ Q0 Z ax bx h0 n0 v U.heap L ∧ FrameEnd s o U L 0 0) by
    obtain ⟨U, o, k1, k2⟩ := hwk
    exact ⟨U, o, castTop (ef_0 m ax bx) k1, k2⟩
  refine Wk.go (A' := s₁.setTop (mkF m 1 #[iv ax, iv bx, .unset, .unset, .unset, .unset, .unset, .unset, .unset] [(.int ax)])) (fun t k => XS.iloadN X0.here hx rfl (hb hby at_0) rfl k) ?_
  refine Wk.go (A' := s₁.setTop (mkF m 3 #[iv ax, iv bx, .unset, .unset, .unset, .unset, .unset, .unset, .unset] [(.int (2147483647 : Int32)), (.int ax)])) (fun t k => X0.ldcInt hx hown (mvT hZ (tw0 hw)) (g := (mkF m 1 #[iv ax, iv bx, .unset, .unset, .unset, .unset, .unset, .unset, .unset] [(.int ax)])) rfl (hb hby at_1) t k) ?_
  refine Wk.go (A' := s₁.setTop (mkF m 4 #[iv ax, iv bx, .unset, .unset, .unset, .unset, .unset, .unset, .unset] [(.int (ax &&& (2147483647 : Int32)))])) (fun t k => XS.iand X0.here hx rfl (hb hby at_3) rfl k) ?_
  refine Wk.go (A' := s₁.setTop (mkF m 5 #[iv ax, iv bx, iv (ax &&& (2147483647 : Int32)), .unset, .unset, .unset, .unset, .unset, .unset] [])) (fun t k => XS.istoreN X0.here hx rfl (hb hby at_4) rfl (l' := #[iv ax, iv bx, iv (ax &&& (2147483647 : Int32)), .unset, .unset, .unset, .unset, .unset, .unset]) rfl k) ?_
  refine Wk.go (A' := s₁.setTop (mkF m 6 #[iv ax, iv bx, iv (ax &&& (2147483647 : Int32)), .unset, .unset, .unset, .unset, .unset, .unset] [(.int bx)])) (fun t k => XS.iloadN X0.here hx rfl (hb hby at_5) rfl k) ?_
  refine Wk.go (A' := s₁.setTop (mkF m 7 #[iv ax, iv bx, iv (ax &&& (2147483647 : Int32)), .unset, .unset, .unset, .unset, .unset, .unset] [(.int (1 : Int32)), (.int bx)])) (fun t k => XS.iconst X0.here hx rfl (hb hby at_6) k) ?_
  refine Wk.go (A' := s₁.setTop (mkF m 8 #[iv ax, iv bx, iv (ax &&& (2147483647 : Int32)), .unset, .unset, .unset, .unset, .unset, .unset] [(.int (bx &&& (1 : Int32)))])) (fun t k => XS.iand X0.here hx rfl (hb hby at_7) rfl k) ?_
  by_cases hc8 : (bx &&& (1 : Int32)) = (0 : Int32)
  · refine Wk.go (A' := s₁.setTop (mkF m 15 #[iv ax, iv bx, iv (ax &&& (2147483647 : Int32)), .unset, .unset, .unset, .unset, .unset, .unset] [])) (fun t k => XS.ifYes X0.here hx rfl (pc0 := 8) (pc' := 15) rfl (hb hby at_8) rfl ((if0 _ _).trans (teq hc8).1) (by decide) (by decide) k) ?_
    refine Wk.go (A' := s₁.setTop (mkF m 16 #[iv ax, iv bx, iv (ax &&& (2147483647 : Int32)), .unset, .unset, .unset, .unset, .unset, .unset] [(.int (0 : Int32))])) (fun t k => XS.iconst X0.here hx rfl (hb hby at_15) k) ?_
    refine Wk.go (A' := s₁.setTop (mkF m 17 #[iv ax, iv bx, iv (ax &&& (2147483647 : Int32)), iv (0 : Int32), .unset, .unset, .unset, .unset, .unset] [])) (fun t k => XS.istoreN X0.here hx rfl (hb hby at_16) rfl (l' := #[iv ax, iv bx, iv (ax &&& (2147483647 : Int32)), iv (0 : Int32), .unset, .unset, .unset, .unset, .unset]) rfl k) ?_
    refine Wk.go (A' := s₁.setTop (mkF m 18 #[iv ax, iv bx, iv (ax &&& (2147483647 : Int32)), iv (0 : Int32), .unset, .unset, .unset, .unset, .unset] [(.int (0 : Int32))])) (fun t k => XS.iloadN X0.here hx rfl (hb hby at_17) rfl k) ?_
    have hc18 : (0 : Int32) = (0 : Int32) := by decide
    refine Wk.go (A' := s₁.setTop (mkF m 25 #[iv ax, iv bx, iv (ax &&& (2147483647 : Int32)), iv (0 : Int32), .unset, .unset, .unset, .unset, .unset] [])) (fun t k => XS.ifYes X0.here hx rfl (pc0 := 18) (pc' := 25) rfl (hb hby at_18) rfl ((if0 _ _).trans (teq hc18).1) (by decide) (by decide) k) ?_
    refine Wk.go (A' := s₁.setTop (mkF m 26 #[iv ax, iv bx, iv (ax &&& (2147483647 : Int32)), iv (0 : Int32), .unset, .unset, .unset, .unset, .unset] [(.int (0 : Int32))])) (fun t k => XS.iconst X0.here hx rfl (hb hby at_25) k) ?_
    refine Wk.go (A' := s₁.setTop (mkF m 28 #[iv ax, iv bx, iv (ax &&& (2147483647 : Int32)), iv (0 : Int32), iv (0 : Int32), .unset, .unset, .unset, .unset] [])) (fun t k => XS.istore X0.here hx rfl (hb hby at_26) rfl (l' := #[iv ax, iv bx, iv (ax &&& (2147483647 : Int32)), iv (0 : Int32), iv (0 : Int32), .unset, .unset, .unset, .unset]) rfl k) ?_
    refine Wk.go (A' := s₁.setTop (mkF m 29 #[iv ax, iv bx, iv (ax &&& (2147483647 : Int32)), iv (0 : Int32), iv (0 : Int32), .unset, .unset, .unset, .unset] [(.int (2 : Int32))])) (fun t k => XS.iconst X0.here hx rfl (hb hby at_28) k) ?_
    refine Wk.go (A' := s₁.setTop (mkF m 30 #[iv ax, iv bx, iv (ax &&& (2147483647 : Int32)), iv (0 : Int32), iv (0 : Int32), .unset, .unset, .unset, .unset] [(.int (ax &&& (2147483647 : Int32))), (.int (2 : Int32))])) (fun t k => XS.iloadN X0.here hx rfl (hb hby at_29) rfl k) ?_
    obtain ⟨_, _, ⟨T1, L1, k1, n1⟩, -, X1, ⟨Lc1, hQ1, l1, y1, z1⟩, st1⟩ := Jvm.LawKit.callS X0 hx (y := (⟨"com/example/dense_envelope/denseenvelope/websocket/FramingHeaderLengthPinLaw", "extendedLengthBytes", "(I)I"⟩ : MethodName)) hown (mvT hZ (tw1 hw)) (mvT hZ (tw2 hw)) (mvT hZ (tw3 hw)) (mvT hZ (tw4 hw)) (by decide) (backOf (W := 1) (rm1 l Z a0 hw [] (ax &&& (2147483647 : Int32))  h0 n0 Z0 ) hZ (tw4 hw) (tw3 hw) (by decide) (by decide)) (g := (mkF m 30 #[iv ax, iv bx, iv (ax &&& (2147483647 : Int32)), iv (0 : Int32), iv (0 : Int32), .unset, .unset, .unset, .unset] [(.int (ax &&& (2147483647 : Int32))), (.int (2 : Int32))])) rfl (by rw [hml]; rfl) (argsL := [(.int (ax &&& (2147483647 : Int32)))]) (rest := [(.int (2 : Int32))]) (lenOf pd_0 rfl) rfl (by show 2 * 0 + _ ≤ _; exact Nat.le_of_eq rfl) (hb hby at_30) (fun _ _ => ⟨rfl, e0, (by decide : 0 + 0 ≤ _), (by decide : 0 + 0 ≤ _)⟩)
    dsimp only [Pt.U, Pt.locs, Pt.cells, Pt.slots] at X1 l1 y1 z1 st1 hQ1
    subst l1 y1 z1
    obtain ⟨rfl, N1q, hE1⟩ := hQ1
    have N1 := Fr.app N0 N1q
    refine Wk.go (A' := T1.setTop (mkF m 33 #[iv ax, iv bx, iv (ax &&& (2147483647 : Int32)), iv (0 : Int32), iv (0 : Int32), .unset, .unset, .unset, .unset] [(.int (f_ext (ax &&& (2147483647 : Int32)))), (.int (2 : Int32))])) (fun t k => st1 t k) ?_
    refine Wk.go (A' := T1.setTop (mkF m 34 #[iv ax, iv bx, iv (ax &&& (2147483647 : Int32)), iv (0 : Int32), iv (0 : Int32), .unset, .unset, .unset, .unset] [(.int ((2 : Int32) + (f_ext (ax &&& (2147483647 : Int32)))))])) (fun t k => XS.iadd X1.here hx rfl (hb hby at_33) rfl k) ?_
    refine Wk.go (A' := T1.setTop (mkF m 36 #[iv ax, iv bx, iv (ax &&& (2147483647 : Int32)), iv (0 : Int32), iv (0 : Int32), .unset, .unset, .unset, .unset] [(.int (0 : Int32)), (.int ((2 : Int32) + (f_ext (ax &&& (2147483647 : Int32)))))])) (fun t k => XS.iload X1.here hx rfl (hb hby at_34) rfl k) ?_
    refine Wk.go (A' := T1.setTop (mkF m 37 #[iv ax, iv bx, iv (ax &&& (2147483647 : Int32)), iv (0 : Int32), iv (0 : Int32), .unset, .unset, .unset, .unset] [(.int (((2 : Int32) + (f_ext (ax &&& (2147483647 : Int32)))) + (0 : Int32)))])) (fun t k => XS.iadd X1.here hx rfl (hb hby at_36) rfl k) ?_
    refine Wk.go (A' := T1.setTop (mkF m 39 #[iv ax, iv bx, iv (ax &&& (2147483647 : Int32)), iv (0 : Int32), iv (0 : Int32), iv (((2 : Int32) + (f_ext (ax &&& (2147483647 : Int32)))) + (0 : Int32)), .unset, .unset, .unset] [])) (fun t k => XS.istore X1.here hx rfl (hb hby at_37) rfl (l' := #[iv ax, iv bx, iv (ax &&& (2147483647 : Int32)), iv (0 : Int32), iv (0 : Int32), iv (((2 : Int32) + (f_ext (ax &&& (2147483647 : Int32)))) + (0 : Int32)), .unset, .unset, .unset]) rfl k) ?_
    refine Wk.go (A' := T1.setTop (mkF m 40 #[iv ax, iv bx, iv (ax &&& (2147483647 : Int32)), iv (0 : Int32), iv (0 : Int32), iv (((2 : Int32) + (f_ext (ax &&& (2147483647 : Int32)))) + (0 : Int32)), .unset, .unset, .unset] [(.int (ax &&& (2147483647 : Int32)))])) (fun t k => XS.iloadN X1.here hx rfl (hb hby at_39) rfl k) ?_
    refine Wk.go (A' := T1.setTop (mkF m 41 #[iv ax, iv bx, iv (ax &&& (2147483647 : Int32)), iv (0 : Int32), iv (0 : Int32), iv (((2 : Int32) + (f_ext (ax &&& (2147483647 : Int32)))) + (0 : Int32)), .unset, .unset, .unset] [(.int (0 : Int32)), (.int (ax &&& (2147483647 : Int32)))])) (fun t k => XS.iloadN X1.here hx rfl (hb hby at_40) rfl k) ?_
    obtain ⟨_, _, ⟨T2, L2, k2, n2⟩, -, X2, ⟨Lc2, hQ2, l2, y2, z2⟩, st2⟩ := Jvm.LawKit.callS X1 hx (y := (⟨"com/example/dense_envelope/denseenvelope/websocket/Framing", "headerLength", "(IZ)I"⟩ : MethodName)) hown (mvT hZ (tw5 hw)) (mvT hZ (tw6 hw)) (mvT hZ (tw7 hw)) (mvT hZ (tw8 hw)) (by decide) (backOf (W := 0) (rm2 l Z a0 hw [] (ax &&& (2147483647 : Int32)) (0 : Int32)  h0 n0 Z0 ) hZ (tw8 hw) (tw7 hw) (by decide) (by decide)) (g := (mkF m 41 #[iv ax, iv bx, iv (ax &&& (2147483647 : Int32)), iv (0 : Int32), iv (0 : Int32), iv (((2 : Int32) + (f_ext (ax &&& (2147483647 : Int32)))) + (0 : Int32)), .unset, .unset, .unset] [(.int (0 : Int32)), (.int (ax &&& (2147483647 : Int32)))])) rfl (by rw [hml]; rfl) (argsL := [(.int (ax &&& (2147483647 : Int32))), (.int (0 : Int32))]) (rest := []) (lenOf pd_1 rfl) rfl (by show 2 * 0 + _ ≤ _; exact Nat.le_of_eq rfl) (hb hby at_41) (fun _ _ => ⟨rfl, (hE1), (by decide : 0 + 0 ≤ _), (by decide : 0 + 0 ≤ _)⟩)
    dsimp only [Pt.U, Pt.locs, Pt.cells, Pt.slots] at X2 l2 y2 z2 st2 hQ2
    subst l2 y2 z2
    obtain ⟨rfl, N2q, hE2⟩ := hQ2
    have N2 := Fr.app N1 N2q
    refine Wk.go (A' := T2.setTop (mkF m 44 #[iv ax, iv bx, iv (ax &&& (2147483647 : Int32)), iv (0 : Int32), iv (0 : Int32), iv (((2 : Int32) + (f_ext (ax &&& (2147483647 : Int32)))) + (0 : Int32)), .unset, .unset, .unset] [(.int (f_hdr (ax &&& (2147483647 : Int32)) (0 : Int32)))])) (fun t k => st2 t k) ?_
    refine Wk.go (A' := T2.setTop (mkF m 46 #[iv ax, iv bx, iv (ax &&& (2147483647 : Int32)), iv (0 : Int32), iv (0 : Int32), iv (((2 : Int32) + (f_ext (ax &&& (2147483647 : Int32)))) + (0 : Int32)), iv (f_hdr (ax &&& (2147483647 : Int32)) (0 : Int32)), .unset, .unset] [])) (fun t k => XS.istore X2.here hx rfl (hb hby at_44) rfl (l' := #[iv ax, iv bx, iv (ax &&& (2147483647 : Int32)), iv (0 : Int32), iv (0 : Int32), iv (((2 : Int32) + (f_ext (ax &&& (2147483647 : Int32)))) + (0 : Int32)), iv (f_hdr (ax &&& (2147483647 : Int32)) (0 : Int32)), .unset, .unset]) rfl k) ?_
    refine Wk.go (A' := T2.setTop (mkF m 47 #[iv ax, iv bx, iv (ax &&& (2147483647 : Int32)), iv (0 : Int32), iv (0 : Int32), iv (((2 : Int32) + (f_ext (ax &&& (2147483647 : Int32)))) + (0 : Int32)), iv (f_hdr (ax &&& (2147483647 : Int32)) (0 : Int32)), .unset, .unset] [(.int (ax &&& (2147483647 : Int32)))])) (fun t k => XS.iloadN X2.here hx rfl (hb hby at_46) rfl k) ?_
    refine Wk.go (A' := T2.setTop (mkF m 48 #[iv ax, iv bx, iv (ax &&& (2147483647 : Int32)), iv (0 : Int32), iv (0 : Int32), iv (((2 : Int32) + (f_ext (ax &&& (2147483647 : Int32)))) + (0 : Int32)), iv (f_hdr (ax &&& (2147483647 : Int32)) (0 : Int32)), .unset, .unset] [(.int (1 : Int32)), (.int (ax &&& (2147483647 : Int32)))])) (fun t k => XS.iconst X2.here hx rfl (hb hby at_47) k) ?_
    obtain ⟨_, _, ⟨T3, L3, k3, n3⟩, -, X3, ⟨Lc3, hQ3, l3, y3, z3⟩, st3⟩ := Jvm.LawKit.callS X2 hx (y := (⟨"com/example/dense_envelope/denseenvelope/websocket/Framing", "headerLength", "(IZ)I"⟩ : MethodName)) hown (mvT hZ (tw5 hw)) (mvT hZ (tw6 hw)) (mvT hZ (tw7 hw)) (mvT hZ (tw8 hw)) (by decide) (backOf (W := 0) (rm2 l Z a0 hw [] (ax &&& (2147483647 : Int32)) (1 : Int32)  h0 n0 Z0 ) hZ (tw8 hw) (tw7 hw) (by decide) (by decide)) (g := (mkF m 48 #[iv ax, iv bx, iv (ax &&& (2147483647 : Int32)), iv (0 : Int32), iv (0 : Int32), iv (((2 : Int32) + (f_ext (ax &&& (2147483647 : Int32)))) + (0 : Int32)), iv (f_hdr (ax &&& (2147483647 : Int32)) (0 : Int32)), .unset, .unset] [(.int (1 : Int32)), (.int (ax &&& (2147483647 : Int32)))])) rfl (by rw [hml]; rfl) (argsL := [(.int (ax &&& (2147483647 : Int32))), (.int (1 : Int32))]) (rest := []) (lenOf pd_1 rfl) rfl (by show 2 * 0 + _ ≤ _; exact Nat.le_of_eq rfl) (hb hby at_48) (fun _ _ => ⟨rfl, (hE2), (by decide : 0 + 0 ≤ _), (by decide : 0 + 0 ≤ _)⟩)
    dsimp only [Pt.U, Pt.locs, Pt.cells, Pt.slots] at X3 l3 y3 z3 st3 hQ3
    subst l3 y3 z3
    obtain ⟨rfl, N3q, hE3⟩ := hQ3
    have N3 := Fr.app N2 N3q
    refine Wk.go (A' := T3.setTop (mkF m 51 #[iv ax, iv bx, iv (ax &&& (2147483647 : Int32)), iv (0 : Int32), iv (0 : Int32), iv (((2 : Int32) + (f_ext (ax &&& (2147483647 : Int32)))) + (0 : Int32)), iv (f_hdr (ax &&& (2147483647 : Int32)) (0 : Int32)), .unset, .unset] [(.int (f_hdr (ax &&& (2147483647 : Int32)) (1 : Int32)))])) (fun t k => st3 t k) ?_
    refine Wk.go (A' := T3.setTop (mkF m 53 #[iv ax, iv bx, iv (ax &&& (2147483647 : Int32)), iv (0 : Int32), iv (0 : Int32), iv (((2 : Int32) + (f_ext (ax &&& (2147483647 : Int32)))) + (0 : Int32)), iv (f_hdr (ax &&& (2147483647 : Int32)) (0 : Int32)), iv (f_hdr (ax &&& (2147483647 : Int32)) (1 : Int32)), .unset] [])) (fun t k => XS.istore X3.here hx rfl (hb hby at_51) rfl (l' := #[iv ax, iv bx, iv (ax &&& (2147483647 : Int32)), iv (0 : Int32), iv (0 : Int32), iv (((2 : Int32) + (f_ext (ax &&& (2147483647 : Int32)))) + (0 : Int32)), iv (f_hdr (ax &&& (2147483647 : Int32)) (0 : Int32)), iv (f_hdr (ax &&& (2147483647 : Int32)) (1 : Int32)), .unset]) rfl k) ?_
    refine Wk.go (A' := T3.setTop (mkF m 54 #[iv ax, iv bx, iv (ax &&& (2147483647 : Int32)), iv (0 : Int32), iv (0 : Int32), iv (((2 : Int32) + (f_ext (ax &&& (2147483647 : Int32)))) + (0 : Int32)), iv (f_hdr (ax &&& (2147483647 : Int32)) (0 : Int32)), iv (f_hdr (ax &&& (2147483647 : Int32)) (1 : Int32)), .unset] [(.int (ax &&& (2147483647 : Int32)))])) (fun t k => XS.iloadN X3.here hx rfl (hb hby at_53) rfl k) ?_
    refine Wk.go (A' := T3.setTop (mkF m 55 #[iv ax, iv bx, iv (ax &&& (2147483647 : Int32)), iv (0 : Int32), iv (0 : Int32), iv (((2 : Int32) + (f_ext (ax &&& (2147483647 : Int32)))) + (0 : Int32)), iv (f_hdr (ax &&& (2147483647 : Int32)) (0 : Int32)), iv (f_hdr (ax &&& (2147483647 : Int32)) (1 : Int32)), .unset] [(.int (0 : Int32)), (.int (ax &&& (2147483647 : Int32)))])) (fun t k => XS.iconst X3.here hx rfl (hb hby at_54) k) ?_
    obtain ⟨_, _, ⟨T4, L4, k4, n4⟩, -, X4, ⟨Lc4, hQ4, l4, y4, z4⟩, st4⟩ := Jvm.LawKit.callS X3 hx (y := (⟨"com/example/dense_envelope/denseenvelope/websocket/Framing", "headerLength", "(IZ)I"⟩ : MethodName)) hown (mvT hZ (tw5 hw)) (mvT hZ (tw6 hw)) (mvT hZ (tw7 hw)) (mvT hZ (tw8 hw)) (by decide) (backOf (W := 0) (rm2 l Z a0 hw [] (ax &&& (2147483647 : Int32)) (0 : Int32)  h0 n0 Z0 ) hZ (tw8 hw) (tw7 hw) (by decide) (by decide)) (g := (mkF m 55 #[iv ax, iv bx, iv (ax &&& (2147483647 : Int32)), iv (0 : Int32), iv (0 : Int32), iv (((2 : Int32) + (f_ext (ax &&& (2147483647 : Int32)))) + (0 : Int32)), iv (f_hdr (ax &&& (2147483647 : Int32)) (0 : Int32)), iv (f_hdr (ax &&& (2147483647 : Int32)) (1 : Int32)), .unset] [(.int (0 : Int32)), (.int (ax &&& (2147483647 : Int32)))])) rfl (by rw [hml]; rfl) (argsL := [(.int (ax &&& (2147483647 : Int32))), (.int (0 : Int32))]) (rest := []) (lenOf pd_1 rfl) rfl (by show 2 * 0 + _ ≤ _; exact Nat.le_of_eq rfl) (hb hby at_55) (fun _ _ => ⟨rfl, (hE3), (by decide : 0 + 0 ≤ _), (by decide : 0 + 0 ≤ _)⟩)
    dsimp only [Pt.U, Pt.locs, Pt.cells, Pt.slots] at X4 l4 y4 z4 st4 hQ4
    subst l4 y4 z4
    obtain ⟨rfl, N4q, hE4⟩ := hQ4
    have N4 := Fr.app N3 N4q
    refine Wk.go (A' := T4.setTop (mkF m 58 #[iv ax, iv bx, iv (ax &&& (2147483647 : Int32)), iv (0 : Int32), iv (0 : Int32), iv (((2 : Int32) + (f_ext (ax &&& (2147483647 : Int32)))) + (0 : Int32)), iv (f_hdr (ax &&& (2147483647 : Int32)) (0 : Int32)), iv (f_hdr (ax &&& (2147483647 : Int32)) (1 : Int32)), .unset] [(.int (f_hdr (ax &&& (2147483647 : Int32)) (0 : Int32)))])) (fun t k => st4 t k) ?_
    refine Wk.go (A' := T4.setTop (mkF m 60 #[iv ax, iv bx, iv (ax &&& (2147483647 : Int32)), iv (0 : Int32), iv (0 : Int32), iv (((2 : Int32) + (f_ext (ax &&& (2147483647 : Int32)))) + (0 : Int32)), iv (f_hdr (ax &&& (2147483647 : Int32)) (0 : Int32)), iv (f_hdr (ax &&& (2147483647 : Int32)) (1 : Int32)), iv (f_hdr (ax &&& (2147483647 : Int32)) (0 : Int32))] [])) (fun t k => XS.istore X4.here hx rfl (hb hby at_58) rfl (l' := #[iv ax, iv bx, iv (ax &&& (2147483647 : Int32)), iv (0 : Int32), iv (0 : Int32), iv (((2 : Int32) + (f_ext (ax &&& (2147483647 : Int32)))) + (0 : Int32)), iv (f_hdr (ax &&& (2147483647 : Int32)) (0 : Int32)), iv (f_hdr (ax &&& (2147483647 : Int32)) (1 : Int32)), iv (f_hdr (ax &&& (2147483647 : Int32)) (0 : Int32))]) rfl k) ?_
    refine Wk.go (A' := T4.setTop (mkF m 62 #[iv ax, iv bx, iv (ax &&& (2147483647 : Int32)), iv (0 : Int32), iv (0 : Int32), iv (((2 : Int32) + (f_ext (ax &&& (2147483647 : Int32)))) + (0 : Int32)), iv (f_hdr (ax &&& (2147483647 : Int32)) (0 : Int32)), iv (f_hdr (ax &&& (2147483647 : Int32)) (1 : Int32)), iv (f_hdr (ax &&& (2147483647 : Int32)) (0 : Int32))] [(.int (f_hdr (ax &&& (2147483647 : Int32)) (0 : Int32)))])) (fun t k => XS.iload X4.here hx rfl (hb hby at_60) rfl k) ?_
    refine Wk.go (A' := T4.setTop (mkF m 64 #[iv ax, iv bx, iv (ax &&& (2147483647 : Int32)), iv (0 : Int32), iv (0 : Int32), iv (((2 : Int32) + (f_ext (ax &&& (2147483647 : Int32)))) + (0 : Int32)), iv (f_hdr (ax &&& (2147483647 : Int32)) (0 : Int32)), iv (f_hdr (ax &&& (2147483647 : Int32)) (1 : Int32)), iv (f_hdr (ax &&& (2147483647 : Int32)) (0 : Int32))] [(.int (((2 : Int32) + (f_ext (ax &&& (2147483647 : Int32)))) + (0 : Int32))), (.int (f_hdr (ax &&& (2147483647 : Int32)) (0 : Int32)))])) (fun t k => XS.iload X4.here hx rfl (hb hby at_62) rfl k) ?_
    have hc64 : (f_hdr (ax &&& (2147483647 : Int32)) (0 : Int32)) = (((2 : Int32) + (f_ext (ax &&& (2147483647 : Int32)))) + (0 : Int32)) := by rw [own_ext, own_hdr]; generalize (ax &&& (2147483647 : Int32)) = n; by_cases q1 : n < (126 : Int32) <;> by_cases q2 : n < (65536 : Int32) <;> simp [q1, q2]
    refine Wk.go (A' := T4.setTop (mkF m 67 #[iv ax, iv bx, iv (ax &&& (2147483647 : Int32)), iv (0 : Int32), iv (0 : Int32), iv (((2 : Int32) + (f_ext (ax &&& (2147483647 : Int32)))) + (0 : Int32)), iv (f_hdr (ax &&& (2147483647 : Int32)) (0 : Int32)), iv (f_hdr (ax &&& (2147483647 : Int32)) (1 : Int32)), iv (f_hdr (ax &&& (2147483647 : Int32)) (0 : Int32))] [])) (fun t k => XS.icmpNo X4.here hx rfl (hb hby at_64) rfl (teq hc64).2 k) ?_
    refine Wk.go (A' := T4.setTop (mkF m 69 #[iv ax, iv bx, iv (ax &&& (2147483647 : Int32)), iv (0 : Int32), iv (0 : Int32), iv (((2 : Int32) + (f_ext (ax &&& (2147483647 : Int32)))) + (0 : Int32)), iv (f_hdr (ax &&& (2147483647 : Int32)) (0 : Int32)), iv (f_hdr (ax &&& (2147483647 : Int32)) (1 : Int32)), iv (f_hdr (ax &&& (2147483647 : Int32)) (0 : Int32))] [(.int (f_hdr (ax &&& (2147483647 : Int32)) (1 : Int32)))])) (fun t k => XS.iload X4.here hx rfl (hb hby at_67) rfl k) ?_
    refine Wk.go (A' := T4.setTop (mkF m 71 #[iv ax, iv bx, iv (ax &&& (2147483647 : Int32)), iv (0 : Int32), iv (0 : Int32), iv (((2 : Int32) + (f_ext (ax &&& (2147483647 : Int32)))) + (0 : Int32)), iv (f_hdr (ax &&& (2147483647 : Int32)) (0 : Int32)), iv (f_hdr (ax &&& (2147483647 : Int32)) (1 : Int32)), iv (f_hdr (ax &&& (2147483647 : Int32)) (0 : Int32))] [(.int (f_hdr (ax &&& (2147483647 : Int32)) (0 : Int32))), (.int (f_hdr (ax &&& (2147483647 : Int32)) (1 : Int32)))])) (fun t k => XS.iload X4.here hx rfl (hb hby at_69) rfl k) ?_
    refine Wk.go (A' := T4.setTop (mkF m 72 #[iv ax, iv bx, iv (ax &&& (2147483647 : Int32)), iv (0 : Int32), iv (0 : Int32), iv (((2 : Int32) + (f_ext (ax &&& (2147483647 : Int32)))) + (0 : Int32)), iv (f_hdr (ax &&& (2147483647 : Int32)) (0 : Int32)), iv (f_hdr (ax &&& (2147483647 : Int32)) (1 : Int32)), iv (f_hdr (ax &&& (2147483647 : Int32)) (0 : Int32))] [(.int ((f_hdr (ax &&& (2147483647 : Int32)) (1 : Int32)) - (f_hdr (ax &&& (2147483647 : Int32)) (0 : Int32))))])) (fun t k => XS.isub X4.here hx rfl (hb hby at_71) rfl k) ?_
    refine Wk.go (A' := T4.setTop (mkF m 73 #[iv ax, iv bx, iv (ax &&& (2147483647 : Int32)), iv (0 : Int32), iv (0 : Int32), iv (((2 : Int32) + (f_ext (ax &&& (2147483647 : Int32)))) + (0 : Int32)), iv (f_hdr (ax &&& (2147483647 : Int32)) (0 : Int32)), iv (f_hdr (ax &&& (2147483647 : Int32)) (1 : Int32)), iv (f_hdr (ax &&& (2147483647 : Int32)) (0 : Int32))] [(.int (4 : Int32)), (.int ((f_hdr (ax &&& (2147483647 : Int32)) (1 : Int32)) - (f_hdr (ax &&& (2147483647 : Int32)) (0 : Int32))))])) (fun t k => XS.iconst X4.here hx rfl (hb hby at_72) k) ?_
    have hc73 : ((f_hdr (ax &&& (2147483647 : Int32)) (1 : Int32)) - (f_hdr (ax &&& (2147483647 : Int32)) (0 : Int32))) = (4 : Int32) := by rw [own_hdr, own_hdr]; generalize (ax &&& (2147483647 : Int32)) = n; by_cases q1 : n < (126 : Int32) <;> by_cases q2 : n < (65536 : Int32) <;> simp [q1, q2]
    refine Wk.go (A' := T4.setTop (mkF m 76 #[iv ax, iv bx, iv (ax &&& (2147483647 : Int32)), iv (0 : Int32), iv (0 : Int32), iv (((2 : Int32) + (f_ext (ax &&& (2147483647 : Int32)))) + (0 : Int32)), iv (f_hdr (ax &&& (2147483647 : Int32)) (0 : Int32)), iv (f_hdr (ax &&& (2147483647 : Int32)) (1 : Int32)), iv (f_hdr (ax &&& (2147483647 : Int32)) (0 : Int32))] [])) (fun t k => XS.icmpNo X4.here hx rfl (hb hby at_73) rfl (teq hc73).2 k) ?_
    refine Wk.go (A' := T4.setTop (mkF m 77 #[iv ax, iv bx, iv (ax &&& (2147483647 : Int32)), iv (0 : Int32), iv (0 : Int32), iv (((2 : Int32) + (f_ext (ax &&& (2147483647 : Int32)))) + (0 : Int32)), iv (f_hdr (ax &&& (2147483647 : Int32)) (0 : Int32)), iv (f_hdr (ax &&& (2147483647 : Int32)) (1 : Int32)), iv (f_hdr (ax &&& (2147483647 : Int32)) (0 : Int32))] [(.int (1 : Int32))])) (fun t k => XS.iconst X4.here hx rfl (hb hby at_76) k) ?_
    refine Wk.go (A' := T4.setTop (mkF m 81 #[iv ax, iv bx, iv (ax &&& (2147483647 : Int32)), iv (0 : Int32), iv (0 : Int32), iv (((2 : Int32) + (f_ext (ax &&& (2147483647 : Int32)))) + (0 : Int32)), iv (f_hdr (ax &&& (2147483647 : Int32)) (0 : Int32)), iv (f_hdr (ax &&& (2147483647 : Int32)) (1 : Int32)), iv (f_hdr (ax &&& (2147483647 : Int32)) (0 : Int32))] [(.int (1 : Int32))])) (fun t k => XS.goto X4.here hx rfl (pc0 := 77) (pc' := 81) rfl (hb hby at_77) (by decide) (by decide) k) ?_
    refine own_fin (Qv := Q0 Z ax bx h0 n0) (v := some (.int (1 : Int32))) X4 hlk (fun h => by rw [Bd.returns] at h; cases h) (fun fs hr => retN X4 hx (t := .boolean) Bd.returns (by simp) (hb hby at_81) hr) ?_ (by decide) (by decide)
    exact ⟨rfl, N4⟩
  · refine Wk.go (A' := s₁.setTop (mkF m 11 #[iv ax, iv bx, iv (ax &&& (2147483647 : Int32)), .unset, .unset, .unset, .unset, .unset, .unset] [])) (fun t k => XS.ifNo X0.here hx rfl (hb hby at_8) rfl ((if0 _ _).trans (feq hc8).1) k) ?_
    refine Wk.go (A' := s₁.setTop (mkF m 12 #[iv ax, iv bx, iv (ax &&& (2147483647 : Int32)), .unset, .unset, .unset, .unset, .unset, .unset] [(.int (1 : Int32))])) (fun t k => XS.iconst X0.here hx rfl (hb hby at_11) k) ?_
    refine Wk.go (A' := s₁.setTop (mkF m 16 #[iv ax, iv bx, iv (ax &&& (2147483647 : Int32)), .unset, .unset, .unset, .unset, .unset, .unset] [(.int (1 : Int32))])) (fun t k => XS.goto X0.here hx rfl (pc0 := 12) (pc' := 16) rfl (hb hby at_12) (by decide) (by decide) k) ?_
    refine Wk.go (A' := s₁.setTop (mkF m 17 #[iv ax, iv bx, iv (ax &&& (2147483647 : Int32)), iv (1 : Int32), .unset, .unset, .unset, .unset, .unset] [])) (fun t k => XS.istoreN X0.here hx rfl (hb hby at_16) rfl (l' := #[iv ax, iv bx, iv (ax &&& (2147483647 : Int32)), iv (1 : Int32), .unset, .unset, .unset, .unset, .unset]) rfl k) ?_
    refine Wk.go (A' := s₁.setTop (mkF m 18 #[iv ax, iv bx, iv (ax &&& (2147483647 : Int32)), iv (1 : Int32), .unset, .unset, .unset, .unset, .unset] [(.int (1 : Int32))])) (fun t k => XS.iloadN X0.here hx rfl (hb hby at_17) rfl k) ?_
    have hc18 : ¬ ((1 : Int32) = (0 : Int32)) := by decide
    refine Wk.go (A' := s₁.setTop (mkF m 21 #[iv ax, iv bx, iv (ax &&& (2147483647 : Int32)), iv (1 : Int32), .unset, .unset, .unset, .unset, .unset] [])) (fun t k => XS.ifNo X0.here hx rfl (hb hby at_18) rfl ((if0 _ _).trans (feq hc18).1) k) ?_
    refine Wk.go (A' := s₁.setTop (mkF m 22 #[iv ax, iv bx, iv (ax &&& (2147483647 : Int32)), iv (1 : Int32), .unset, .unset, .unset, .unset, .unset] [(.int (4 : Int32))])) (fun t k => XS.iconst X0.here hx rfl (hb hby at_21) k) ?_
    refine Wk.go (A' := s₁.setTop (mkF m 26 #[iv ax, iv bx, iv (ax &&& (2147483647 : Int32)), iv (1 : Int32), .unset, .unset, .unset, .unset, .unset] [(.int (4 : Int32))])) (fun t k => XS.goto X0.here hx rfl (pc0 := 22) (pc' := 26) rfl (hb hby at_22) (by decide) (by decide) k) ?_
    refine Wk.go (A' := s₁.setTop (mkF m 28 #[iv ax, iv bx, iv (ax &&& (2147483647 : Int32)), iv (1 : Int32), iv (4 : Int32), .unset, .unset, .unset, .unset] [])) (fun t k => XS.istore X0.here hx rfl (hb hby at_26) rfl (l' := #[iv ax, iv bx, iv (ax &&& (2147483647 : Int32)), iv (1 : Int32), iv (4 : Int32), .unset, .unset, .unset, .unset]) rfl k) ?_
    refine Wk.go (A' := s₁.setTop (mkF m 29 #[iv ax, iv bx, iv (ax &&& (2147483647 : Int32)), iv (1 : Int32), iv (4 : Int32), .unset, .unset, .unset, .unset] [(.int (2 : Int32))])) (fun t k => XS.iconst X0.here hx rfl (hb hby at_28) k) ?_
    refine Wk.go (A' := s₁.setTop (mkF m 30 #[iv ax, iv bx, iv (ax &&& (2147483647 : Int32)), iv (1 : Int32), iv (4 : Int32), .unset, .unset, .unset, .unset] [(.int (ax &&& (2147483647 : Int32))), (.int (2 : Int32))])) (fun t k => XS.iloadN X0.here hx rfl (hb hby at_29) rfl k) ?_
    obtain ⟨_, _, ⟨T5, L5, k5, n5⟩, -, X5, ⟨Lc5, hQ5, l5, y5, z5⟩, st5⟩ := Jvm.LawKit.callS X0 hx (y := (⟨"com/example/dense_envelope/denseenvelope/websocket/FramingHeaderLengthPinLaw", "extendedLengthBytes", "(I)I"⟩ : MethodName)) hown (mvT hZ (tw1 hw)) (mvT hZ (tw2 hw)) (mvT hZ (tw3 hw)) (mvT hZ (tw4 hw)) (by decide) (backOf (W := 1) (rm1 l Z a0 hw [] (ax &&& (2147483647 : Int32))  h0 n0 Z0 ) hZ (tw4 hw) (tw3 hw) (by decide) (by decide)) (g := (mkF m 30 #[iv ax, iv bx, iv (ax &&& (2147483647 : Int32)), iv (1 : Int32), iv (4 : Int32), .unset, .unset, .unset, .unset] [(.int (ax &&& (2147483647 : Int32))), (.int (2 : Int32))])) rfl (by rw [hml]; rfl) (argsL := [(.int (ax &&& (2147483647 : Int32)))]) (rest := [(.int (2 : Int32))]) (lenOf pd_0 rfl) rfl (by show 2 * 0 + _ ≤ _; exact Nat.le_of_eq rfl) (hb hby at_30) (fun _ _ => ⟨rfl, e0, (by decide : 0 + 0 ≤ _), (by decide : 0 + 0 ≤ _)⟩)
    dsimp only [Pt.U, Pt.locs, Pt.cells, Pt.slots] at X5 l5 y5 z5 st5 hQ5
    subst l5 y5 z5
    obtain ⟨rfl, N5q, hE5⟩ := hQ5
    have N5 := Fr.app N0 N5q
    refine Wk.go (A' := T5.setTop (mkF m 33 #[iv ax, iv bx, iv (ax &&& (2147483647 : Int32)), iv (1 : Int32), iv (4 : Int32), .unset, .unset, .unset, .unset] [(.int (f_ext (ax &&& (2147483647 : Int32)))), (.int (2 : Int32))])) (fun t k => st5 t k) ?_
    refine Wk.go (A' := T5.setTop (mkF m 34 #[iv ax, iv bx, iv (ax &&& (2147483647 : Int32)), iv (1 : Int32), iv (4 : Int32), .unset, .unset, .unset, .unset] [(.int ((2 : Int32) + (f_ext (ax &&& (2147483647 : Int32)))))])) (fun t k => XS.iadd X5.here hx rfl (hb hby at_33) rfl k) ?_
    refine Wk.go (A' := T5.setTop (mkF m 36 #[iv ax, iv bx, iv (ax &&& (2147483647 : Int32)), iv (1 : Int32), iv (4 : Int32), .unset, .unset, .unset, .unset] [(.int (4 : Int32)), (.int ((2 : Int32) + (f_ext (ax &&& (2147483647 : Int32)))))])) (fun t k => XS.iload X5.here hx rfl (hb hby at_34) rfl k) ?_
    refine Wk.go (A' := T5.setTop (mkF m 37 #[iv ax, iv bx, iv (ax &&& (2147483647 : Int32)), iv (1 : Int32), iv (4 : Int32), .unset, .unset, .unset, .unset] [(.int (((2 : Int32) + (f_ext (ax &&& (2147483647 : Int32)))) + (4 : Int32)))])) (fun t k => XS.iadd X5.here hx rfl (hb hby at_36) rfl k) ?_
    refine Wk.go (A' := T5.setTop (mkF m 39 #[iv ax, iv bx, iv (ax &&& (2147483647 : Int32)), iv (1 : Int32), iv (4 : Int32), iv (((2 : Int32) + (f_ext (ax &&& (2147483647 : Int32)))) + (4 : Int32)), .unset, .unset, .unset] [])) (fun t k => XS.istore X5.here hx rfl (hb hby at_37) rfl (l' := #[iv ax, iv bx, iv (ax &&& (2147483647 : Int32)), iv (1 : Int32), iv (4 : Int32), iv (((2 : Int32) + (f_ext (ax &&& (2147483647 : Int32)))) + (4 : Int32)), .unset, .unset, .unset]) rfl k) ?_
    refine Wk.go (A' := T5.setTop (mkF m 40 #[iv ax, iv bx, iv (ax &&& (2147483647 : Int32)), iv (1 : Int32), iv (4 : Int32), iv (((2 : Int32) + (f_ext (ax &&& (2147483647 : Int32)))) + (4 : Int32)), .unset, .unset, .unset] [(.int (ax &&& (2147483647 : Int32)))])) (fun t k => XS.iloadN X5.here hx rfl (hb hby at_39) rfl k) ?_
    refine Wk.go (A' := T5.setTop (mkF m 41 #[iv ax, iv bx, iv (ax &&& (2147483647 : Int32)), iv (1 : Int32), iv (4 : Int32), iv (((2 : Int32) + (f_ext (ax &&& (2147483647 : Int32)))) + (4 : Int32)), .unset, .unset, .unset] [(.int (1 : Int32)), (.int (ax &&& (2147483647 : Int32)))])) (fun t k => XS.iloadN X5.here hx rfl (hb hby at_40) rfl k) ?_
    obtain ⟨_, _, ⟨T6, L6, k6, n6⟩, -, X6, ⟨Lc6, hQ6, l6, y6, z6⟩, st6⟩ := Jvm.LawKit.callS X5 hx (y := (⟨"com/example/dense_envelope/denseenvelope/websocket/Framing", "headerLength", "(IZ)I"⟩ : MethodName)) hown (mvT hZ (tw5 hw)) (mvT hZ (tw6 hw)) (mvT hZ (tw7 hw)) (mvT hZ (tw8 hw)) (by decide) (backOf (W := 0) (rm2 l Z a0 hw [] (ax &&& (2147483647 : Int32)) (1 : Int32)  h0 n0 Z0 ) hZ (tw8 hw) (tw7 hw) (by decide) (by decide)) (g := (mkF m 41 #[iv ax, iv bx, iv (ax &&& (2147483647 : Int32)), iv (1 : Int32), iv (4 : Int32), iv (((2 : Int32) + (f_ext (ax &&& (2147483647 : Int32)))) + (4 : Int32)), .unset, .unset, .unset] [(.int (1 : Int32)), (.int (ax &&& (2147483647 : Int32)))])) rfl (by rw [hml]; rfl) (argsL := [(.int (ax &&& (2147483647 : Int32))), (.int (1 : Int32))]) (rest := []) (lenOf pd_1 rfl) rfl (by show 2 * 0 + _ ≤ _; exact Nat.le_of_eq rfl) (hb hby at_41) (fun _ _ => ⟨rfl, (hE5), (by decide : 0 + 0 ≤ _), (by decide : 0 + 0 ≤ _)⟩)
    dsimp only [Pt.U, Pt.locs, Pt.cells, Pt.slots] at X6 l6 y6 z6 st6 hQ6
    subst l6 y6 z6
    obtain ⟨rfl, N6q, hE6⟩ := hQ6
    have N6 := Fr.app N5 N6q
    refine Wk.go (A' := T6.setTop (mkF m 44 #[iv ax, iv bx, iv (ax &&& (2147483647 : Int32)), iv (1 : Int32), iv (4 : Int32), iv (((2 : Int32) + (f_ext (ax &&& (2147483647 : Int32)))) + (4 : Int32)), .unset, .unset, .unset] [(.int (f_hdr (ax &&& (2147483647 : Int32)) (1 : Int32)))])) (fun t k => st6 t k) ?_
    refine Wk.go (A' := T6.setTop (mkF m 46 #[iv ax, iv bx, iv (ax &&& (2147483647 : Int32)), iv (1 : Int32), iv (4 : Int32), iv (((2 : Int32) + (f_ext (ax &&& (2147483647 : Int32)))) + (4 : Int32)), iv (f_hdr (ax &&& (2147483647 : Int32)) (1 : Int32)), .unset, .unset] [])) (fun t k => XS.istore X6.here hx rfl (hb hby at_44) rfl (l' := #[iv ax, iv bx, iv (ax &&& (2147483647 : Int32)), iv (1 : Int32), iv (4 : Int32), iv (((2 : Int32) + (f_ext (ax &&& (2147483647 : Int32)))) + (4 : Int32)), iv (f_hdr (ax &&& (2147483647 : Int32)) (1 : Int32)), .unset, .unset]) rfl k) ?_
    refine Wk.go (A' := T6.setTop (mkF m 47 #[iv ax, iv bx, iv (ax &&& (2147483647 : Int32)), iv (1 : Int32), iv (4 : Int32), iv (((2 : Int32) + (f_ext (ax &&& (2147483647 : Int32)))) + (4 : Int32)), iv (f_hdr (ax &&& (2147483647 : Int32)) (1 : Int32)), .unset, .unset] [(.int (ax &&& (2147483647 : Int32)))])) (fun t k => XS.iloadN X6.here hx rfl (hb hby at_46) rfl k) ?_
    refine Wk.go (A' := T6.setTop (mkF m 48 #[iv ax, iv bx, iv (ax &&& (2147483647 : Int32)), iv (1 : Int32), iv (4 : Int32), iv (((2 : Int32) + (f_ext (ax &&& (2147483647 : Int32)))) + (4 : Int32)), iv (f_hdr (ax &&& (2147483647 : Int32)) (1 : Int32)), .unset, .unset] [(.int (1 : Int32)), (.int (ax &&& (2147483647 : Int32)))])) (fun t k => XS.iconst X6.here hx rfl (hb hby at_47) k) ?_
    obtain ⟨_, _, ⟨T7, L7, k7, n7⟩, -, X7, ⟨Lc7, hQ7, l7, y7, z7⟩, st7⟩ := Jvm.LawKit.callS X6 hx (y := (⟨"com/example/dense_envelope/denseenvelope/websocket/Framing", "headerLength", "(IZ)I"⟩ : MethodName)) hown (mvT hZ (tw5 hw)) (mvT hZ (tw6 hw)) (mvT hZ (tw7 hw)) (mvT hZ (tw8 hw)) (by decide) (backOf (W := 0) (rm2 l Z a0 hw [] (ax &&& (2147483647 : Int32)) (1 : Int32)  h0 n0 Z0 ) hZ (tw8 hw) (tw7 hw) (by decide) (by decide)) (g := (mkF m 48 #[iv ax, iv bx, iv (ax &&& (2147483647 : Int32)), iv (1 : Int32), iv (4 : Int32), iv (((2 : Int32) + (f_ext (ax &&& (2147483647 : Int32)))) + (4 : Int32)), iv (f_hdr (ax &&& (2147483647 : Int32)) (1 : Int32)), .unset, .unset] [(.int (1 : Int32)), (.int (ax &&& (2147483647 : Int32)))])) rfl (by rw [hml]; rfl) (argsL := [(.int (ax &&& (2147483647 : Int32))), (.int (1 : Int32))]) (rest := []) (lenOf pd_1 rfl) rfl (by show 2 * 0 + _ ≤ _; exact Nat.le_of_eq rfl) (hb hby at_48) (fun _ _ => ⟨rfl, (hE6), (by decide : 0 + 0 ≤ _), (by decide : 0 + 0 ≤ _)⟩)
    dsimp only [Pt.U, Pt.locs, Pt.cells, Pt.slots] at X7 l7 y7 z7 st7 hQ7
    subst l7 y7 z7
    obtain ⟨rfl, N7q, hE7⟩ := hQ7
    have N7 := Fr.app N6 N7q
    refine Wk.go (A' := T7.setTop (mkF m 51 #[iv ax, iv bx, iv (ax &&& (2147483647 : Int32)), iv (1 : Int32), iv (4 : Int32), iv (((2 : Int32) + (f_ext (ax &&& (2147483647 : Int32)))) + (4 : Int32)), iv (f_hdr (ax &&& (2147483647 : Int32)) (1 : Int32)), .unset, .unset] [(.int (f_hdr (ax &&& (2147483647 : Int32)) (1 : Int32)))])) (fun t k => st7 t k) ?_
    refine Wk.go (A' := T7.setTop (mkF m 53 #[iv ax, iv bx, iv (ax &&& (2147483647 : Int32)), iv (1 : Int32), iv (4 : Int32), iv (((2 : Int32) + (f_ext (ax &&& (2147483647 : Int32)))) + (4 : Int32)), iv (f_hdr (ax &&& (2147483647 : Int32)) (1 : Int32)), iv (f_hdr (ax &&& (2147483647 : Int32)) (1 : Int32)), .unset] [])) (fun t k => XS.istore X7.here hx rfl (hb hby at_51) rfl (l' := #[iv ax, iv bx, iv (ax &&& (2147483647 : Int32)), iv (1 : Int32), iv (4 : Int32), iv (((2 : Int32) + (f_ext (ax &&& (2147483647 : Int32)))) + (4 : Int32)), iv (f_hdr (ax &&& (2147483647 : Int32)) (1 : Int32)), iv (f_hdr (ax &&& (2147483647 : Int32)) (1 : Int32)), .unset]) rfl k) ?_
    refine Wk.go (A' := T7.setTop (mkF m 54 #[iv ax, iv bx, iv (ax &&& (2147483647 : Int32)), iv (1 : Int32), iv (4 : Int32), iv (((2 : Int32) + (f_ext (ax &&& (2147483647 : Int32)))) + (4 : Int32)), iv (f_hdr (ax &&& (2147483647 : Int32)) (1 : Int32)), iv (f_hdr (ax &&& (2147483647 : Int32)) (1 : Int32)), .unset] [(.int (ax &&& (2147483647 : Int32)))])) (fun t k => XS.iloadN X7.here hx rfl (hb hby at_53) rfl k) ?_
    refine Wk.go (A' := T7.setTop (mkF m 55 #[iv ax, iv bx, iv (ax &&& (2147483647 : Int32)), iv (1 : Int32), iv (4 : Int32), iv (((2 : Int32) + (f_ext (ax &&& (2147483647 : Int32)))) + (4 : Int32)), iv (f_hdr (ax &&& (2147483647 : Int32)) (1 : Int32)), iv (f_hdr (ax &&& (2147483647 : Int32)) (1 : Int32)), .unset] [(.int (0 : Int32)), (.int (ax &&& (2147483647 : Int32)))])) (fun t k => XS.iconst X7.here hx rfl (hb hby at_54) k) ?_
    obtain ⟨_, _, ⟨T8, L8, k8, n8⟩, -, X8, ⟨Lc8, hQ8, l8, y8, z8⟩, st8⟩ := Jvm.LawKit.callS X7 hx (y := (⟨"com/example/dense_envelope/denseenvelope/websocket/Framing", "headerLength", "(IZ)I"⟩ : MethodName)) hown (mvT hZ (tw5 hw)) (mvT hZ (tw6 hw)) (mvT hZ (tw7 hw)) (mvT hZ (tw8 hw)) (by decide) (backOf (W := 0) (rm2 l Z a0 hw [] (ax &&& (2147483647 : Int32)) (0 : Int32)  h0 n0 Z0 ) hZ (tw8 hw) (tw7 hw) (by decide) (by decide)) (g := (mkF m 55 #[iv ax, iv bx, iv (ax &&& (2147483647 : Int32)), iv (1 : Int32), iv (4 : Int32), iv (((2 : Int32) + (f_ext (ax &&& (2147483647 : Int32)))) + (4 : Int32)), iv (f_hdr (ax &&& (2147483647 : Int32)) (1 : Int32)), iv (f_hdr (ax &&& (2147483647 : Int32)) (1 : Int32)), .unset] [(.int (0 : Int32)), (.int (ax &&& (2147483647 : Int32)))])) rfl (by rw [hml]; rfl) (argsL := [(.int (ax &&& (2147483647 : Int32))), (.int (0 : Int32))]) (rest := []) (lenOf pd_1 rfl) rfl (by show 2 * 0 + _ ≤ _; exact Nat.le_of_eq rfl) (hb hby at_55) (fun _ _ => ⟨rfl, (hE7), (by decide : 0 + 0 ≤ _), (by decide : 0 + 0 ≤ _)⟩)
    dsimp only [Pt.U, Pt.locs, Pt.cells, Pt.slots] at X8 l8 y8 z8 st8 hQ8
    subst l8 y8 z8
    obtain ⟨rfl, N8q, hE8⟩ := hQ8
    have N8 := Fr.app N7 N8q
    refine Wk.go (A' := T8.setTop (mkF m 58 #[iv ax, iv bx, iv (ax &&& (2147483647 : Int32)), iv (1 : Int32), iv (4 : Int32), iv (((2 : Int32) + (f_ext (ax &&& (2147483647 : Int32)))) + (4 : Int32)), iv (f_hdr (ax &&& (2147483647 : Int32)) (1 : Int32)), iv (f_hdr (ax &&& (2147483647 : Int32)) (1 : Int32)), .unset] [(.int (f_hdr (ax &&& (2147483647 : Int32)) (0 : Int32)))])) (fun t k => st8 t k) ?_
    refine Wk.go (A' := T8.setTop (mkF m 60 #[iv ax, iv bx, iv (ax &&& (2147483647 : Int32)), iv (1 : Int32), iv (4 : Int32), iv (((2 : Int32) + (f_ext (ax &&& (2147483647 : Int32)))) + (4 : Int32)), iv (f_hdr (ax &&& (2147483647 : Int32)) (1 : Int32)), iv (f_hdr (ax &&& (2147483647 : Int32)) (1 : Int32)), iv (f_hdr (ax &&& (2147483647 : Int32)) (0 : Int32))] [])) (fun t k => XS.istore X8.here hx rfl (hb hby at_58) rfl (l' := #[iv ax, iv bx, iv (ax &&& (2147483647 : Int32)), iv (1 : Int32), iv (4 : Int32), iv (((2 : Int32) + (f_ext (ax &&& (2147483647 : Int32)))) + (4 : Int32)), iv (f_hdr (ax &&& (2147483647 : Int32)) (1 : Int32)), iv (f_hdr (ax &&& (2147483647 : Int32)) (1 : Int32)), iv (f_hdr (ax &&& (2147483647 : Int32)) (0 : Int32))]) rfl k) ?_
    refine Wk.go (A' := T8.setTop (mkF m 62 #[iv ax, iv bx, iv (ax &&& (2147483647 : Int32)), iv (1 : Int32), iv (4 : Int32), iv (((2 : Int32) + (f_ext (ax &&& (2147483647 : Int32)))) + (4 : Int32)), iv (f_hdr (ax &&& (2147483647 : Int32)) (1 : Int32)), iv (f_hdr (ax &&& (2147483647 : Int32)) (1 : Int32)), iv (f_hdr (ax &&& (2147483647 : Int32)) (0 : Int32))] [(.int (f_hdr (ax &&& (2147483647 : Int32)) (1 : Int32)))])) (fun t k => XS.iload X8.here hx rfl (hb hby at_60) rfl k) ?_
    refine Wk.go (A' := T8.setTop (mkF m 64 #[iv ax, iv bx, iv (ax &&& (2147483647 : Int32)), iv (1 : Int32), iv (4 : Int32), iv (((2 : Int32) + (f_ext (ax &&& (2147483647 : Int32)))) + (4 : Int32)), iv (f_hdr (ax &&& (2147483647 : Int32)) (1 : Int32)), iv (f_hdr (ax &&& (2147483647 : Int32)) (1 : Int32)), iv (f_hdr (ax &&& (2147483647 : Int32)) (0 : Int32))] [(.int (((2 : Int32) + (f_ext (ax &&& (2147483647 : Int32)))) + (4 : Int32))), (.int (f_hdr (ax &&& (2147483647 : Int32)) (1 : Int32)))])) (fun t k => XS.iload X8.here hx rfl (hb hby at_62) rfl k) ?_
    have hc64 : (f_hdr (ax &&& (2147483647 : Int32)) (1 : Int32)) = (((2 : Int32) + (f_ext (ax &&& (2147483647 : Int32)))) + (4 : Int32)) := by rw [own_ext, own_hdr]; generalize (ax &&& (2147483647 : Int32)) = n; by_cases q1 : n < (126 : Int32) <;> by_cases q2 : n < (65536 : Int32) <;> simp [q1, q2]
    refine Wk.go (A' := T8.setTop (mkF m 67 #[iv ax, iv bx, iv (ax &&& (2147483647 : Int32)), iv (1 : Int32), iv (4 : Int32), iv (((2 : Int32) + (f_ext (ax &&& (2147483647 : Int32)))) + (4 : Int32)), iv (f_hdr (ax &&& (2147483647 : Int32)) (1 : Int32)), iv (f_hdr (ax &&& (2147483647 : Int32)) (1 : Int32)), iv (f_hdr (ax &&& (2147483647 : Int32)) (0 : Int32))] [])) (fun t k => XS.icmpNo X8.here hx rfl (hb hby at_64) rfl (teq hc64).2 k) ?_
    refine Wk.go (A' := T8.setTop (mkF m 69 #[iv ax, iv bx, iv (ax &&& (2147483647 : Int32)), iv (1 : Int32), iv (4 : Int32), iv (((2 : Int32) + (f_ext (ax &&& (2147483647 : Int32)))) + (4 : Int32)), iv (f_hdr (ax &&& (2147483647 : Int32)) (1 : Int32)), iv (f_hdr (ax &&& (2147483647 : Int32)) (1 : Int32)), iv (f_hdr (ax &&& (2147483647 : Int32)) (0 : Int32))] [(.int (f_hdr (ax &&& (2147483647 : Int32)) (1 : Int32)))])) (fun t k => XS.iload X8.here hx rfl (hb hby at_67) rfl k) ?_
    refine Wk.go (A' := T8.setTop (mkF m 71 #[iv ax, iv bx, iv (ax &&& (2147483647 : Int32)), iv (1 : Int32), iv (4 : Int32), iv (((2 : Int32) + (f_ext (ax &&& (2147483647 : Int32)))) + (4 : Int32)), iv (f_hdr (ax &&& (2147483647 : Int32)) (1 : Int32)), iv (f_hdr (ax &&& (2147483647 : Int32)) (1 : Int32)), iv (f_hdr (ax &&& (2147483647 : Int32)) (0 : Int32))] [(.int (f_hdr (ax &&& (2147483647 : Int32)) (0 : Int32))), (.int (f_hdr (ax &&& (2147483647 : Int32)) (1 : Int32)))])) (fun t k => XS.iload X8.here hx rfl (hb hby at_69) rfl k) ?_
    refine Wk.go (A' := T8.setTop (mkF m 72 #[iv ax, iv bx, iv (ax &&& (2147483647 : Int32)), iv (1 : Int32), iv (4 : Int32), iv (((2 : Int32) + (f_ext (ax &&& (2147483647 : Int32)))) + (4 : Int32)), iv (f_hdr (ax &&& (2147483647 : Int32)) (1 : Int32)), iv (f_hdr (ax &&& (2147483647 : Int32)) (1 : Int32)), iv (f_hdr (ax &&& (2147483647 : Int32)) (0 : Int32))] [(.int ((f_hdr (ax &&& (2147483647 : Int32)) (1 : Int32)) - (f_hdr (ax &&& (2147483647 : Int32)) (0 : Int32))))])) (fun t k => XS.isub X8.here hx rfl (hb hby at_71) rfl k) ?_
    refine Wk.go (A' := T8.setTop (mkF m 73 #[iv ax, iv bx, iv (ax &&& (2147483647 : Int32)), iv (1 : Int32), iv (4 : Int32), iv (((2 : Int32) + (f_ext (ax &&& (2147483647 : Int32)))) + (4 : Int32)), iv (f_hdr (ax &&& (2147483647 : Int32)) (1 : Int32)), iv (f_hdr (ax &&& (2147483647 : Int32)) (1 : Int32)), iv (f_hdr (ax &&& (2147483647 : Int32)) (0 : Int32))] [(.int (4 : Int32)), (.int ((f_hdr (ax &&& (2147483647 : Int32)) (1 : Int32)) - (f_hdr (ax &&& (2147483647 : Int32)) (0 : Int32))))])) (fun t k => XS.iconst X8.here hx rfl (hb hby at_72) k) ?_
    have hc73 : ((f_hdr (ax &&& (2147483647 : Int32)) (1 : Int32)) - (f_hdr (ax &&& (2147483647 : Int32)) (0 : Int32))) = (4 : Int32) := by rw [own_hdr, own_hdr]; generalize (ax &&& (2147483647 : Int32)) = n; by_cases q1 : n < (126 : Int32) <;> by_cases q2 : n < (65536 : Int32) <;> simp [q1, q2]
    refine Wk.go (A' := T8.setTop (mkF m 76 #[iv ax, iv bx, iv (ax &&& (2147483647 : Int32)), iv (1 : Int32), iv (4 : Int32), iv (((2 : Int32) + (f_ext (ax &&& (2147483647 : Int32)))) + (4 : Int32)), iv (f_hdr (ax &&& (2147483647 : Int32)) (1 : Int32)), iv (f_hdr (ax &&& (2147483647 : Int32)) (1 : Int32)), iv (f_hdr (ax &&& (2147483647 : Int32)) (0 : Int32))] [])) (fun t k => XS.icmpNo X8.here hx rfl (hb hby at_73) rfl (teq hc73).2 k) ?_
    refine Wk.go (A' := T8.setTop (mkF m 77 #[iv ax, iv bx, iv (ax &&& (2147483647 : Int32)), iv (1 : Int32), iv (4 : Int32), iv (((2 : Int32) + (f_ext (ax &&& (2147483647 : Int32)))) + (4 : Int32)), iv (f_hdr (ax &&& (2147483647 : Int32)) (1 : Int32)), iv (f_hdr (ax &&& (2147483647 : Int32)) (1 : Int32)), iv (f_hdr (ax &&& (2147483647 : Int32)) (0 : Int32))] [(.int (1 : Int32))])) (fun t k => XS.iconst X8.here hx rfl (hb hby at_76) k) ?_
    refine Wk.go (A' := T8.setTop (mkF m 81 #[iv ax, iv bx, iv (ax &&& (2147483647 : Int32)), iv (1 : Int32), iv (4 : Int32), iv (((2 : Int32) + (f_ext (ax &&& (2147483647 : Int32)))) + (4 : Int32)), iv (f_hdr (ax &&& (2147483647 : Int32)) (1 : Int32)), iv (f_hdr (ax &&& (2147483647 : Int32)) (1 : Int32)), iv (f_hdr (ax &&& (2147483647 : Int32)) (0 : Int32))] [(.int (1 : Int32))])) (fun t k => XS.goto X8.here hx rfl (pc0 := 77) (pc' := 81) rfl (hb hby at_77) (by decide) (by decide) k) ?_
    refine own_fin (Qv := Q0 Z ax bx h0 n0) (v := some (.int (1 : Int32))) X8 hlk (fun h => by rw [Bd.returns] at h; cases h) (fun fs hr => retN X8 hx (t := .boolean) Bd.returns (by simp) (hb hby at_81) hr) ?_ (by decide) (by decide)
    exact ⟨rfl, N8⟩
set_option maxRecDepth 65536 in
set_option maxHeartbeats 40000000 in
theorem comes_1 {Post : Tables → Env → Array Value → State → Outcome → State → Prop} (hpost : ∀ tb e args s v u, (limb_1_1.after args s (.returned v) u = true ∧ limb_1_2.after args s (.returned v) u = true ∧ True) → FrameEnd s (.returned v) u (Jvm.fieldLocs frame_1_writes args s ++ Jvm.arrayLocs frame_1_arrays args s ++ Jvm.staticLocs frame_1_statics s) 0 0 → Post tb e args s (.returned v) u) :
    ArmFor flags0 classFile x code maxLocals ret World_1 tables_1 room_1 Calls_1 rest_1 Pre_1 Post := by
  intro l hfl _ _ p e ha hc hk s m args below hf hA hF happ hP
  obtain ⟨hcalls, hrest, hpre⟩ := hP
  obtain ⟨-, -, -, hnamed, -, -, -, hat⟩ := (Spec.applies_iff hf).mp happ
  obtain ⟨hg, hn⟩ := and_e (Cond.before_iff.mp (show (Jvm.Cond.and given_1 narrow_1).before args s = true from hpre))
  obtain ⟨hcnt, g0⟩ := and_e hg
  obtain ⟨ga0, g1⟩ := and_e g0
  obtain ⟨w0, w1, rfl⟩ : ∃ w0 w1 : Value, args = #[w0, w1] := by
    have hs : args.size = 2 := by simpa [Cond.value, given_1] using hcnt
    obtain ⟨L⟩ := args
    match L, hs with
    | [w0, w1], _ => exact ⟨w0, w1, rfl⟩
  have hw := fun d (hd : d ∈ tables_1) => atoms_spec (ws := Jvm.Cond.code x code maxLocals ret :: tables_1) hat d (List.mem_cons_of_mem _ hd)
  obtain ⟨i0, ei0⟩ := is_v ga0
  obtain rfl : w0 = (.int i0) := Option.some.inj ei0
  obtain ⟨i1, ei1⟩ := is_v g1
  obtain rfl : w1 = (.int i1) := Option.some.inj ei1
  obtain ⟨n, o, h1, h2, h3, _, L, rfl, ⟨rfl, N⟩, hq⟩ := rm0 l s _ hw tables_1 i0 i1  s.heap s.heap.size (Nat.le_refl _)  p e ha hc hk s m _ below hf ((Spec.applies_iff_loose hf).mp happ).1 ⟨rfl, State.Warmed39.refl s, rfl⟩ trivial
  refine ⟨n, _, h1, h2, h3, hpost _ _ _ _ _ _ ⟨Cond.after_iff.mpr rfl, Cond.after_iff.mpr (eq_i res_at (Term.int_eval (1)) rfl), trivial⟩ ⟨hq.1, hq.2.1, (hq.2.2.sift fun y hy => Or.inr (N y hy)).mono (by decide) (by decide)⟩⟩
theorem main_1_1 : Claimed_1_1 := comes_1 fun _ _ _ _ _ _ h hF => ⟨h.1, hF⟩
theorem main_1_2 : Claimed_1_2 := comes_1 fun _ _ _ _ _ _ h hF => ⟨h.2.1, hF⟩
end Jvm.Pilot.@@N@@
namespace Jvm.Pilot.@@N@@
open Jvm Jvm.ClassFile Sem Op Lib Jvm.Free Jvm.Stand Jvm.Pilot.@@N@@.Jvm.D
/-! MADE BY PROGRAM (witnessworld.py) out of the Statement's table words and the real class files: 7 classes; the members and pool entries that the words name. The judged class is class 1, her method 2. -/
namespace start1
open Jvm.ClassFile
def u (s : String) : CpInfo := .utf8 (stringToUtf16 s)
/-- a pool by its gaps: so many unusable entries, then the entry; so many at the end -/
def gap : Nat → List CpInfo → List CpInfo
  | 0, r => r
  | n + 1, r => .unusable :: gap n r
def poolList (es : List (Nat × CpInfo)) (last : Nat) : List CpInfo := es.foldr (fun e r => gap e.1 (e.2 :: r)) (gap last [])
def pool (es : List (Nat × CpInfo)) (last : Nat) : Array CpInfo := ⟨poolList es last⟩
def fileOf (pool : Array CpInfo) (this : Nat) (attrs : Array Attribute := #[]) (ms : Array MethodInfo := #[]) (fl : Nat := 33) (sup : Nat := 0) (ifs : Array Nat := #[]) (fds : Array FieldInfo := #[]) : ClassFile where
  minorVersion := 0
  majorVersion := 65
  constantPool := pool
  accessFlags := fl
  thisClass := this
  superClass := sup
  interfaces := ifs
  fields := fds
  methods := ms
  attributes := attrs
def plain (name : String) (sup : Option ClassId) : Class where
  name := name
  kind := .ordinary
  loader := none
  accessFlags := 33
  super := sup
  interfaces := #[]
  cf := none
  fields := #[]
  methods := #[]
  instanceTypes := #[]
  staticTypes := #[]
  resolved := #[]
  callSites := []
  init := .initialized
  statics := none
  mirror := none

def pool0 : Array CpInfo := pool [(5, u "<init>"), (0, u "()V"), (1, .class_ 10), (1, u "java/lang/Object")] 113

def k0m0 : Method := { name := "<init>", desc := "()V", sig := { parameters := [], returnType := none }, accessFlags := 1, code := none }
/-- java/lang/Object -/
def k0 : Class := { plain "java/lang/Object" none with
  accessFlags := 33
  interfaces := #[]
  cf := some (fileOf pool0 8 #[] #[{ accessFlags := 1, nameIndex := 5, descriptorIndex := 6, attributes := #[] }] 33 0 #[] #[])
  fields := #[]
  methods := #[k0m0]
  instanceTypes := #[]
  staticTypes := #[]
  resolved := Array.replicate 124 none
  statics := none }

def pool1 : Array CpInfo := pool [(2, .class_ 4), (1, u "java/lang/Object"), (0, u "<init>"), (0, u "()V"), (0, .integer 2147483647), (0, .methodref 9 10), (0, .class_ 11), (0, .nameAndType 12 13), (0, u "com/example/dense_envelope/denseenvelope/websocket/FramingHeaderLengthPinLaw"), (0, u "extendedLengthBytes"), (0, u "(I)I"), (0, .methodref 15 16), (0, .class_ 17), (0, .nameAndType 18 19), (0, u "com/example/dense_envelope/denseenvelope/websocket/Framing"), (0, u "headerLength"), (0, u "(IZ)I"), (3, u "law"), (0, u "(II)Z")] 2

def k1m0 : Method := { name := "<init>", desc := "()V", sig := { parameters := [], returnType := none }, accessFlags := 2, code := none }
def k1c1 : Code := { maxStack := 2, maxLocals := 1, code := method_2_code, exceptionTable := #[], attributes := #[] }
def k1m1 : Method := { name := "extendedLengthBytes", desc := "(I)I", sig := { parameters := [.int], returnType := some .int }, accessFlags := 10, code := some k1c1 }
def k1c2 : Code := { maxStack := 2, maxLocals := 9, code := code, exceptionTable := #[], attributes := #[] }
def k1m2 : Method := { name := "law", desc := "(II)Z", sig := { parameters := [.int, .int], returnType := some .boolean }, accessFlags := 9, code := some k1c2 }
/-- com/example/dense_envelope/denseenvelope/websocket/FramingHeaderLengthPinLaw -/
def k1 : Class := { plain "com/example/dense_envelope/denseenvelope/websocket/FramingHeaderLengthPinLaw" (some 0) with
  accessFlags := 49
  interfaces := #[]
  cf := some (fileOf pool1 9 #[] #[{ accessFlags := 2, nameIndex := 5, descriptorIndex := 6, attributes := #[] }, { accessFlags := 10, nameIndex := 12, descriptorIndex := 13, attributes := #[] }, { accessFlags := 9, nameIndex := 23, descriptorIndex := 24, attributes := #[] }] 49 2 #[] #[])
  fields := #[]
  methods := #[k1m0, k1m1, k1m2]
  instanceTypes := #[]
  staticTypes := #[]
  resolved := Array.replicate 27 none
  statics := none }

def pool2 : Array CpInfo := pool [(1, .class_ 2), (0, u "com/example/dense_envelope/denseenvelope/websocket/Framing"), (1, .class_ 6), (1, u "java/lang/Object"), (0, u "<init>"), (0, u "()V"), (0, .integer 65536), (101, u "LONGS"), (0, u "Ljava/lang/invoke/VarHandle;"), (23, u "CONTINUATION"), (0, u "I"), (2, u "TEXT"), (1, u "BINARY"), (1, u "CLOSE"), (1, u "PING"), (1, u "PONG"), (1, u "MAX_CONTROL_PAYLOAD"), (1, u "NO_STATUS"), (1, u "ABNORMAL_CLOSURE"), (1, u "MAX_CLOSE_REASON_BYTES"), (1, u "HIGH_BITS"), (0, u "J"), (2, u "headerLength"), (0, u "(IZ)I")] 29

def k2m0 : Method := { name := "<init>", desc := "()V", sig := { parameters := [], returnType := none }, accessFlags := 2, code := none }
def k2c1 : Code := { maxStack := 2, maxLocals := 2, code := prog_102_method_2_code, exceptionTable := #[], attributes := #[] }
def k2m1 : Method := { name := "headerLength", desc := "(IZ)I", sig := { parameters := [.int, .boolean], returnType := some .int }, accessFlags := 9, code := some k2c1 }
/-- com/example/dense_envelope/denseenvelope/websocket/Framing -/
def k2 : Class := { plain "com/example/dense_envelope/denseenvelope/websocket/Framing" (some 0) with
  accessFlags := 49
  interfaces := #[]
  cf := some (fileOf pool2 1 #[] #[{ accessFlags := 2, nameIndex := 7, descriptorIndex := 8, attributes := #[] }, { accessFlags := 9, nameIndex := 162, descriptorIndex := 163, attributes := #[] }] 49 4 #[] #[{ accessFlags := 25, nameIndex := 136, descriptorIndex := 137, attributes := #[] }, { accessFlags := 25, nameIndex := 140, descriptorIndex := 137, attributes := #[] }, { accessFlags := 25, nameIndex := 142, descriptorIndex := 137, attributes := #[] }, { accessFlags := 25, nameIndex := 144, descriptorIndex := 137, attributes := #[] }, { accessFlags := 25, nameIndex := 146, descriptorIndex := 137, attributes := #[] }, { accessFlags := 25, nameIndex := 148, descriptorIndex := 137, attributes := #[] }, { accessFlags := 25, nameIndex := 150, descriptorIndex := 137, attributes := #[] }, { accessFlags := 25, nameIndex := 152, descriptorIndex := 137, attributes := #[] }, { accessFlags := 25, nameIndex := 154, descriptorIndex := 137, attributes := #[] }, { accessFlags := 26, nameIndex := 156, descriptorIndex := 137, attributes := #[] }, { accessFlags := 26, nameIndex := 111, descriptorIndex := 112, attributes := #[] }, { accessFlags := 26, nameIndex := 158, descriptorIndex := 159, attributes := #[] }])
  fields := #[{ name := "CONTINUATION", type := .int, accessFlags := 25, slot := 0, constantValue := 0 }, { name := "TEXT", type := .int, accessFlags := 25, slot := 1, constantValue := 0 }, { name := "BINARY", type := .int, accessFlags := 25, slot := 2, constantValue := 0 }, { name := "CLOSE", type := .int, accessFlags := 25, slot := 3, constantValue := 0 }, { name := "PING", type := .int, accessFlags := 25, slot := 4, constantValue := 0 }, { name := "PONG", type := .int, accessFlags := 25, slot := 5, constantValue := 0 }, { name := "MAX_CONTROL_PAYLOAD", type := .int, accessFlags := 25, slot := 6, constantValue := 0 }, { name := "NO_STATUS", type := .int, accessFlags := 25, slot := 7, constantValue := 0 }, { name := "ABNORMAL_CLOSURE", type := .int, accessFlags := 25, slot := 8, constantValue := 0 }, { name := "MAX_CLOSE_REASON_BYTES", type := .int, accessFlags := 26, slot := 9, constantValue := 0 }, { name := "LONGS", type := (.object "java/lang/invoke/VarHandle"), accessFlags := 26, slot := 10, constantValue := 0 }, { name := "HIGH_BITS", type := .long, accessFlags := 26, slot := 11, constantValue := 0 }]
  methods := #[k2m0, k2m1]
  instanceTypes := #[]
  staticTypes := #[.int, .int, .int, .int, .int, .int, .int, .int, .int, .int, (.object "java/lang/invoke/VarHandle"), .long]
  resolved := Array.replicate 193 none
  statics := none }

def pool3 : Array CpInfo := pool [(1, u "java/lang/Cloneable"), (0, .class_ 1), (0, u "java/lang/Object"), (0, .class_ 3)] 3

/-- java/lang/Cloneable -/
def k3 : Class := { plain "java/lang/Cloneable" (some 0) with
  accessFlags := 1537
  interfaces := #[]
  cf := some (fileOf pool3 2 #[] #[] 1537 4 #[] #[])
  fields := #[]
  methods := #[]
  instanceTypes := #[]
  staticTypes := #[]
  resolved := Array.replicate 8 none
  statics := none }

def pool4 : Array CpInfo := pool [(1, u "java/io/Serializable"), (0, .class_ 1), (0, u "java/lang/Object"), (0, .class_ 3)] 3

/-- java/io/Serializable -/
def k4 : Class := { plain "java/io/Serializable" (some 0) with
  accessFlags := 1537
  interfaces := #[]
  cf := some (fileOf pool4 2 #[] #[] 1537 4 #[] #[])
  fields := #[]
  methods := #[]
  instanceTypes := #[]
  staticTypes := #[]
  resolved := Array.replicate 8 none
  statics := none }

/-- the primitive byte -/
def k5 : Class := { plain "byte" none with kind := .primitive 'B', accessFlags := 0x411 }
/-- [B -/
def k6 : Class := { plain "[B" (some 0) with kind := .array 5 .byte, interfaces := #[3, 4], accessFlags := 1041 }

def heap : Heap := #[]
def classes : Array Class := #[k0, k1, k2, k3, k4, k5, k6]
def interned : List (Array UInt16 × Addr) := []
def slotsUsed : Nat := 0
def theMethod : MethodId := ⟨1, 2⟩
def args0 : Array Value := #[.int 5, .int 3]
def aboutOver (below : List Frame) : State where
  vm := { classes := classes, interned := interned.toArray }
  heap := heap
  slotsUsed := slotsUsed
  threads := #[{ frames := .invoking theMethod args0 :: below }]
def below0 : List Frame := [.native { method := ⟨0, 0⟩, args := #[] }]
def about1 : State := aboutOver below0
def p0 : Program := .bare "" "" ""
def e0 : Env := launch0.env 0 0 0
theorem w_frames : about1.frames = Frame.invoking theMethod args0 :: below0 := rfl
set_option maxRecDepth 65536 in
theorem w_args : argsFit about1.vm theMethod args0 = true := by decide +kernel
set_option maxRecDepth 65536 in
theorem w_heap : heapFits about1 = true := by decide +kernel
set_option maxRecDepth 65536 in
theorem w_runnable : about1.curStatus? = some .runnable := by decide +kernel
set_option maxRecDepth 65536 in
theorem w_alone : about1.alone = true := by decide +kernel
set_option maxRecDepth 65536 in
theorem w_named : about1.methodNamed? x = some theMethod := by decide +kernel
set_option maxRecDepth 65536 in
theorem w_hears : about1.hears theMethod below0 = true := by decide +kernel
set_option maxRecDepth 65536 in
theorem w_ripe : about1.ripe theMethod args0 below0 = true := by decide +kernel
theorem w_running : about1.status = .running := rfl
set_option maxRecDepth 65536 in
theorem w_room : about1.hasRoom e0.platform room_1 = true :=
  launch0.hasRoom_least _ room_1 (by decide +kernel) (by decide +kernel) (by decide +kernel) (by decide +kernel) (by decide +kernel) (by decide +kernel)
theorem allAtoms_all (ts : List Jvm.Cond) (a : Array Jvm.Value) (st : Jvm.State) : (allAtoms ts).before a st = ts.all (fun c => c.before a st) := by
  induction ts with
  | nil => rfl
  | cons c t ih =>
    show (Jvm.Cond.and c (allAtoms t)).before a st = _
    rw [Jvm.Cond.before_and, ih, List.all_cons]
def words1 : List Jvm.Cond := Jvm.Cond.code x code maxLocals ret :: tables_1
/-- a 'code' word, met by the world's own term for the bytes: nothing is compared byte by byte -/
theorem code_word {y : MethodName} {bytes : ByteArray} {mx : Nat} {rt : Option FieldType} {a : Array Value} {s : State} {m : MethodId} {meth : Method} {c : Code} (h1 : s.methodNamed? y = some m) (h2 : s.vm.method? m = some meth) (h3 : meth.code = some c) (h4 : c.code = bytes)
    (h5 : (c.maxLocals == mx && c.exceptionTable.isEmpty && decide (c.maxStack ≤ mostOperands) && decide (meth.sig.returnType = rt) && !meth.locks && decide (parseMethodDescriptor y.desc = some meth.sig)) = true) : (Jvm.Cond.code y bytes mx rt).before a s = true := by
  simp only [Bool.and_eq_true, beq_iff_eq, Bool.not_eq_true', decide_eq_true_eq] at h5
  obtain ⟨⟨⟨⟨⟨g1, g2⟩, g3⟩, g4⟩, g5⟩, g6⟩ := h5
  simp [Cond.before, Cond.holds, Cond.value, h1, h2, h3, h4, g1, g2, g3, g4, g5, g6]
def isCode : Jvm.Cond → Bool
  | .code _ _ _ _ => true
  | _ => false
theorem all_split {L : List Jvm.Cond} {P : Jvm.Cond → Bool} (h1 : L.all (fun c => isCode c || P c) = true) (h2 : ∀ c ∈ L.filter isCode, P c = true) : L.all P = true := by
  refine List.all_eq_true.mpr fun c hc => ?_
  have h := List.all_eq_true.mp h1 c hc
  rcases Bool.eq_false_or_eq_true (isCode c) with hi | hi
  · exact h2 c (List.mem_filter.mpr ⟨hc, hi⟩)
  · simpa [hi] using h
set_option maxRecDepth 65536 in
theorem w_c0 : (Jvm.Cond.code x code maxLocals ret).before args0 about1 = true := code_word (m := ⟨1, 2⟩) (meth := k1m2) (c := k1c2) (by decide +kernel) rfl rfl rfl (by decide +kernel)
set_option maxRecDepth 65536 in
theorem w_c1 : (Jvm.Cond.code ({ cls := "com/example/dense_envelope/denseenvelope/websocket/FramingHeaderLengthPinLaw", name := "extendedLengthBytes", desc := "(I)I" } : Jvm.MethodName) method_2_code (1 : Nat) (Option.some Jvm.ClassFile.FieldType.int)).before args0 about1 = true := code_word (m := ⟨1, 1⟩) (meth := k1m1) (c := k1c1) (by decide +kernel) rfl rfl rfl (by decide +kernel)
set_option maxRecDepth 65536 in
theorem w_c2 : (Jvm.Cond.code ({ cls := "com/example/dense_envelope/denseenvelope/websocket/Framing", name := "headerLength", desc := "(IZ)I" } : Jvm.MethodName) prog_102_method_2_code (2 : Nat) (Option.some Jvm.ClassFile.FieldType.int)).before args0 about1 = true := code_word (m := ⟨2, 1⟩) (meth := k2m1) (c := k2c1) (by decide +kernel) rfl rfl rfl (by decide +kernel)
def codes1 : List Jvm.Cond := [Jvm.Cond.code x code maxLocals ret, Jvm.Cond.code ({ cls := "com/example/dense_envelope/denseenvelope/websocket/FramingHeaderLengthPinLaw", name := "extendedLengthBytes", desc := "(I)I" } : Jvm.MethodName) method_2_code (1 : Nat) (Option.some Jvm.ClassFile.FieldType.int), Jvm.Cond.code ({ cls := "com/example/dense_envelope/denseenvelope/websocket/Framing", name := "headerLength", desc := "(IZ)I" } : Jvm.MethodName) prog_102_method_2_code (2 : Nat) (Option.some Jvm.ClassFile.FieldType.int)]
set_option maxRecDepth 65536 in
theorem codes_eq : words1.filter isCode = codes1 := rfl
theorem w_codes : ∀ c ∈ words1.filter isCode, c.before args0 about1 = true := by
  rw [codes_eq]
  intro c hc
  simp only [codes1, List.mem_cons, List.not_mem_nil, or_false] at hc
  rcases hc with rfl | rfl | rfl
  · exact w_c0
  · exact w_c1
  · exact w_c2
set_option maxRecDepth 65536 in
theorem w_t1 : words1.all (fun c => isCode c || c.before args0 about1) = true := by decide +kernel
theorem w_tables : (allAtoms (Jvm.Cond.code x code maxLocals ret :: tables_1)).before args0 about1 = true := by
  rw [allAtoms_all]
  show words1.all (fun c => c.before args0 about1) = true
  refine all_split ?_ w_codes
  rw [w_t1]
set_option maxRecDepth 65536 in
theorem w_case : (Jvm.Cond.and given_1 narrow_1).before args0 about1 = true := by decide +kernel
theorem w_applies : (headSpec (Jvm.Cond.code x code maxLocals ret :: tables_1) room_1).applies x e0.platform about1 = true :=
  (Spec.applies_iff w_frames).mpr ⟨w_running, w_runnable, w_alone, w_named, w_hears, w_ripe, w_room, w_tables⟩
theorem atStart : AtStart classFile x code maxLocals ret World_1 tables_1 room_1 Calls_1 rest_1 Pre_1 launch0 p0 e0 about1 theMethod args0 below0 :=
  ⟨lists_1, trivial, launch0.admits_env _ _ _, launch0.least_env, fairChoices_fair.cas, fairChoices_fair.clock, w_frames, w_args, w_heap, w_applies, trivial, trivial, w_case⟩
end start1
theorem witness_1 : WitnessClaimed_1 := ⟨start1.p0, start1.e0, start1.about1, start1.theMethod, start1.args0, start1.below0, start1.atStart⟩
end Jvm.Pilot.@@N@@
