import JvmDerived
import JvmDerived.Pilot.@@N@@Statement
import JvmDerived.Pilot.@@N@@Code
set_option linter.unusedVariables false
set_option linter.unusedSimpArgs false
namespace Jvm.RoadKit
open Sem ClassFile Op Lib Jvm.Stand Jvm.Free Jvm.LawKit
section New
variable {p : Program} {l : Launch} {e : Env} {R : Room} {s : State} {m : MethodId} {args : Array Value} {below : List Frame} {meth : Method} {c : Code} {T : State} {locs : List Loc} {cells slots : Nat}
theorem retI (X : Stand p l e R s m args below meth c T locs cells slots) (hx : p.tables.exec = Jvm.exec) {pc : Nat} {Ls : Array Slot} {z : Int32} {rest : List Value} (hret : meth.sig.returnType = some .int) (hd : decode c.code pc = .ok (.ireturn, 1)) {fs : List Frame}
    (hl : ∀ (f : JFrame) (acts : List Action), f.method = m → f.locked = none → f.entered = [] → (doReturn e (T.setTop f) acts (some (.int z))).1 = T.setFrames fs) : Steps p.tables e below (T.setTop (mkF m pc Ls (.int z :: rest))) (T.setFrames fs) := by
  have hm' : T.vm.method? m = some meth := X.method'
  have hn : narrow .int (.int z) = .int z := rfl
  show Steps p.tables e below (T.setTop { method := m, pc := pc, locals := Ls, stack := _ :: rest, locked := none }) _
  jvm_step X.here [X.here.top, hx, hd, hm', hret, hn]
  first | (intro acts; rw [hl _ acts rfl rfl rfl]) | rw [hl _ _ rfl rfl rfl]
  exact Steps.refl _
abbrev jv (x : Int64) : Slot := .val (.long x)
/-- from A the run goes on to an end of which R holds -/
def Wk (tb : Tables) (e : Env) (below : List Frame) (A : State) (R : State → Outcome → Prop) : Prop := ∃ U o, Steps tb e below A U ∧ R U o
theorem Wk.go {tb : Tables} {A A' : State} {R : State → Outcome → Prop} (h : ∀ t, Steps tb e below A' t → Steps tb e below A t) (k : Wk tb e below A' R) : Wk tb e below A R := by
  obtain ⟨U, o, k1, k2⟩ := k
  exact ⟨U, o, h _ k1, k2⟩
/-- the two ways from A to A' meet there -/
theorem own_fin (X : Stand p l e R s m args below meth c T locs cells slots) {Qv : Option Value → Heap → List Loc → Prop} {v : Option Value} {g : JFrame} {C S : Nat} (hlocks : meth.locks = false) (hv : meth.sig.returnType = none → v = none)
    (hst : ∀ fs, (∀ (f : JFrame) (acts : List Action), f.method = m → f.locked = none → f.entered = [] → (doReturn e (T.setTop f) acts v).1 = T.setFrames fs) → Steps p.tables e below (T.setTop g) (T.setFrames fs))
    (hQ : Qv v T.heap locs) (hc : cells ≤ C) (hs : slots ≤ S) :
    Wk p.tables e below (T.setTop g) (fun U o => U.status = .running ∧ Ended U below o ∧ ∃ v L, o = .returned v ∧ Qv v U.heap L ∧ FrameEnd s o U L C S) := by
  obtain ⟨fs, hr, hrun, hended, hW, hsame⟩ := X.leave (v := v) hv hlocks
  exact ⟨_, _, hst fs hr, hrun, hended, _, _, rfl, hQ, ⟨_, rfl⟩, hW, hsame.mono hc hs⟩
end New
end Jvm.RoadKit
namespace Jvm.Pilot.@@N@@
open Jvm Jvm.ClassFile Sem Op Lib Jvm.Free Jvm.Stand Jvm.LawKit Jvm.RoadKit Bundle Jvm.Pilot.@@N@@.Jvm.D
theorem d1_0 : decode prog_31_method_3_code 0 = .ok (.iload_n 0, 1) := by decide +kernel
theorem d1_1 : decode prog_31_method_3_code 1 = .ok (.bipush (-8), 2) := by decide +kernel
theorem d1_3 : decode prog_31_method_3_code 3 = .ok (.if_icmp .eq 27, 3) := by decide +kernel
theorem d1_30 : decode prog_31_method_3_code 30 = .ok (.iconst 1, 1) := by decide +kernel
theorem d1_31 : decode prog_31_method_3_code 31 = .ok (.goto 4, 3) := by decide +kernel
theorem d1_35 : decode prog_31_method_3_code 35 = .ok (.ireturn, 1) := by decide +kernel
theorem d1_6 : decode prog_31_method_3_code 6 = .ok (.iload_n 0, 1) := by decide +kernel
theorem d1_7 : decode prog_31_method_3_code 7 = .ok (.bipush (-7), 2) := by decide +kernel
theorem d1_9 : decode prog_31_method_3_code 9 = .ok (.if_icmp .eq 21, 3) := by decide +kernel
theorem d1_12 : decode prog_31_method_3_code 12 = .ok (.iload_n 0, 1) := by decide +kernel
theorem d1_13 : decode prog_31_method_3_code 13 = .ok (.bipush (-6), 2) := by decide +kernel
theorem d1_15 : decode prog_31_method_3_code 15 = .ok (.if_icmp .eq 15, 3) := by decide +kernel
theorem d1_18 : decode prog_31_method_3_code 18 = .ok (.iload_n 0, 1) := by decide +kernel
theorem d1_19 : decode prog_31_method_3_code 19 = .ok (.bipush (-5), 2) := by decide +kernel
theorem d1_21 : decode prog_31_method_3_code 21 = .ok (.if_icmp .eq 9, 3) := by decide +kernel
theorem d1_24 : decode prog_31_method_3_code 24 = .ok (.iload_n 0, 1) := by decide +kernel
theorem d1_25 : decode prog_31_method_3_code 25 = .ok (.bipush (-4), 2) := by decide +kernel
theorem d1_27 : decode prog_31_method_3_code 27 = .ok (.if_icmp .ne 7, 3) := by decide +kernel
theorem d1_34 : decode prog_31_method_3_code 34 = .ok (.iconst 0, 1) := by decide +kernel
theorem pn_0 : plainName "com/example/dense_envelope/denseenvelope/broker/RecordFormat" = true := by first | (simp [plainName, overriddenIn]; done) | decide +kernel
theorem ef_1 (m : MethodId) (x0 : Int32) : entryFrame m #[(.int x0)] 1 = mkF m 0 #[iv x0] [] := by first | (simp [entryFrame, mkF, argsToLocals, Value.category]; done) | rfl
def f_isMarker (bx : Int32)  : Int32 := (if bx = (-8 : Int32) then (1 : Int32) else (if bx = (-7 : Int32) then (1 : Int32) else (if bx = (-6 : Int32) then (1 : Int32) else (if bx = (-5 : Int32) then (1 : Int32) else (if bx = (-4 : Int32) then (1 : Int32) else (0 : Int32))))))
def Q1 (Z : State) (bx : Int32)  (h0 : Heap) (n0 : Nat) (v : Option Value) (h : Heap) (L : List Loc) : Prop := v = some (.int (f_isMarker bx)) ∧ Fr n0 L ∧ h = h0
set_option maxRecDepth 65536 in
set_option maxHeartbeats 40000000 in
theorem rm1 (l : Launch) (Z : State) (a0 : Array Value) (hw : ∀ d ∈ tables_1, d.before a0 Z = true) (ws : List Jvm.Cond) (bx : Int32)  (h0 : Heap) (n0 : Nat) (Z0 : n0 ≤ h0.size)  :
    MetFree l (⟨"com/example/dense_envelope/denseenvelope/broker/RecordFormat", "isMarker", "(B)Z"⟩ : MethodName) (head1 (Jvm.Cond.code (⟨"com/example/dense_envelope/denseenvelope/broker/RecordFormat", "isMarker", "(B)Z"⟩ : MethodName) prog_31_method_3_code 1 (some .boolean) :: ws) ({ frames := 0, cells := 0, slots := 0, locals := 0 } : Room)) (fun a U => a = #[(.int bx)] ∧ Z.Warmed39 U.vm ∧ U.heap = h0) (fun _ _ _ _ _ => True) (fun _ U o U' => ∃ v L, o = .returned v ∧ Q1 Z bx h0 n0 v U'.heap L ∧ FrameEnd U o U' L ({ frames := 0, cells := 0, slots := 0, locals := 0 } : Room).cells ({ frames := 0, cells := 0, slots := 0, locals := 0 } : Room).slots) := by
  refine MetFree.of_bodySF (plainFor_of_name pn_0) hisR ?_
  intro p e s m args below meth c s₁ Bd hml0 hP hK
  obtain ⟨rfl, hZ, hh⟩ := hP
  have hx := Bd.exec
  have hby := Bd.bytes
  have hml : c.maxLocals = 1 := hml0
  have hown : s.vm.findClass "com/example/dense_envelope/denseenvelope/broker/RecordFormat" = some m.cls := findClass_of_methodNamed Bd.named
  have hnm := (name_of_methodNamed Bd.named Bd.method).1
  have X0 : Stand p l e ({ frames := 0, cells := 0, slots := 0, locals := 0 } : Room) s m #[(.int bx)] below meth c s₁ [] 0 0 := Stand.of_body Bd
  have e0 : s₁.heap = h0 := by rw [← hh, Bd.state]; rfl
  have N0 := Fr.nil n0
  have hlk : meth.locks = false := BodyLoose.notSynchronized Bd
  suffices hwk : Wk p.tables e below (s₁.setTop (mkF m 0 #[iv bx] [])) (fun U o => U.status = .running ∧ Ended U below o ∧ ∃ v L, o = .returned v ∧ Q1 Z bx h0 n0 v U.heap L ∧ FrameEnd s o U L 0 0) by
    obtain ⟨U, o, k1, k2⟩ := hwk
    exact ⟨U, o, castTop (ef_1 m bx) k1, k2⟩
  refine Wk.go (A' := s₁.setTop (mkF m 1 #[iv bx] [(.int bx)])) (fun t k => XS.iloadN X0.here hx rfl (hb hby d1_0) rfl k) ?_
  refine Wk.go (A' := s₁.setTop (mkF m 3 #[iv bx] [(.int (-8 : Int32)), (.int bx)])) (fun t k => XS.bipush X0.here hx rfl (hb hby d1_1) k) ?_
  by_cases hc3 : bx = (-8 : Int32)
  · refine Wk.go (A' := s₁.setTop (mkF m 30 #[iv bx] [])) (fun t k => XS.icmpYes X0.here hx rfl (pc0 := 3) (pc' := 30) rfl (hb hby d1_3) rfl (teq hc3).1 (by decide) (by decide) k) ?_
    refine Wk.go (A' := s₁.setTop (mkF m 31 #[iv bx] [(.int (1 : Int32))])) (fun t k => XS.iconst X0.here hx rfl (hb hby d1_30) k) ?_
    refine Wk.go (A' := s₁.setTop (mkF m 35 #[iv bx] [(.int (1 : Int32))])) (fun t k => XS.goto X0.here hx rfl (pc0 := 31) (pc' := 35) rfl (hb hby d1_31) (by decide) (by decide) k) ?_
    refine own_fin (Qv := Q1 Z bx h0 n0) (v := some (.int (1 : Int32))) X0 hlk (fun h => by rw [Bd.returns] at h; cases h) (fun fs hr => retN X0 hx (t := .boolean) Bd.returns (by simp) (hb hby d1_35) hr) ?_ (by decide) (by decide)
    refine ⟨?_, N0, e0⟩
    simp only [f_isMarker, if_pos hc3]
  · refine Wk.go (A' := s₁.setTop (mkF m 6 #[iv bx] [])) (fun t k => XS.icmpNo X0.here hx rfl (hb hby d1_3) rfl (feq hc3).1 k) ?_
    refine Wk.go (A' := s₁.setTop (mkF m 7 #[iv bx] [(.int bx)])) (fun t k => XS.iloadN X0.here hx rfl (hb hby d1_6) rfl k) ?_
    refine Wk.go (A' := s₁.setTop (mkF m 9 #[iv bx] [(.int (-7 : Int32)), (.int bx)])) (fun t k => XS.bipush X0.here hx rfl (hb hby d1_7) k) ?_
    by_cases hc9 : bx = (-7 : Int32)
    · refine Wk.go (A' := s₁.setTop (mkF m 30 #[iv bx] [])) (fun t k => XS.icmpYes X0.here hx rfl (pc0 := 9) (pc' := 30) rfl (hb hby d1_9) rfl (teq hc9).1 (by decide) (by decide) k) ?_
      refine Wk.go (A' := s₁.setTop (mkF m 31 #[iv bx] [(.int (1 : Int32))])) (fun t k => XS.iconst X0.here hx rfl (hb hby d1_30) k) ?_
      refine Wk.go (A' := s₁.setTop (mkF m 35 #[iv bx] [(.int (1 : Int32))])) (fun t k => XS.goto X0.here hx rfl (pc0 := 31) (pc' := 35) rfl (hb hby d1_31) (by decide) (by decide) k) ?_
      refine own_fin (Qv := Q1 Z bx h0 n0) (v := some (.int (1 : Int32))) X0 hlk (fun h => by rw [Bd.returns] at h; cases h) (fun fs hr => retN X0 hx (t := .boolean) Bd.returns (by simp) (hb hby d1_35) hr) ?_ (by decide) (by decide)
      refine ⟨?_, N0, e0⟩
      simp only [f_isMarker, if_neg hc3, if_pos hc9]
    · refine Wk.go (A' := s₁.setTop (mkF m 12 #[iv bx] [])) (fun t k => XS.icmpNo X0.here hx rfl (hb hby d1_9) rfl (feq hc9).1 k) ?_
      refine Wk.go (A' := s₁.setTop (mkF m 13 #[iv bx] [(.int bx)])) (fun t k => XS.iloadN X0.here hx rfl (hb hby d1_12) rfl k) ?_
      refine Wk.go (A' := s₁.setTop (mkF m 15 #[iv bx] [(.int (-6 : Int32)), (.int bx)])) (fun t k => XS.bipush X0.here hx rfl (hb hby d1_13) k) ?_
      by_cases hc15 : bx = (-6 : Int32)
      · refine Wk.go (A' := s₁.setTop (mkF m 30 #[iv bx] [])) (fun t k => XS.icmpYes X0.here hx rfl (pc0 := 15) (pc' := 30) rfl (hb hby d1_15) rfl (teq hc15).1 (by decide) (by decide) k) ?_
        refine Wk.go (A' := s₁.setTop (mkF m 31 #[iv bx] [(.int (1 : Int32))])) (fun t k => XS.iconst X0.here hx rfl (hb hby d1_30) k) ?_
        refine Wk.go (A' := s₁.setTop (mkF m 35 #[iv bx] [(.int (1 : Int32))])) (fun t k => XS.goto X0.here hx rfl (pc0 := 31) (pc' := 35) rfl (hb hby d1_31) (by decide) (by decide) k) ?_
        refine own_fin (Qv := Q1 Z bx h0 n0) (v := some (.int (1 : Int32))) X0 hlk (fun h => by rw [Bd.returns] at h; cases h) (fun fs hr => retN X0 hx (t := .boolean) Bd.returns (by simp) (hb hby d1_35) hr) ?_ (by decide) (by decide)
        refine ⟨?_, N0, e0⟩
        simp only [f_isMarker, if_neg hc3, if_neg hc9, if_pos hc15]
      · refine Wk.go (A' := s₁.setTop (mkF m 18 #[iv bx] [])) (fun t k => XS.icmpNo X0.here hx rfl (hb hby d1_15) rfl (feq hc15).1 k) ?_
        refine Wk.go (A' := s₁.setTop (mkF m 19 #[iv bx] [(.int bx)])) (fun t k => XS.iloadN X0.here hx rfl (hb hby d1_18) rfl k) ?_
        refine Wk.go (A' := s₁.setTop (mkF m 21 #[iv bx] [(.int (-5 : Int32)), (.int bx)])) (fun t k => XS.bipush X0.here hx rfl (hb hby d1_19) k) ?_
        by_cases hc21 : bx = (-5 : Int32)
        · refine Wk.go (A' := s₁.setTop (mkF m 30 #[iv bx] [])) (fun t k => XS.icmpYes X0.here hx rfl (pc0 := 21) (pc' := 30) rfl (hb hby d1_21) rfl (teq hc21).1 (by decide) (by decide) k) ?_
          refine Wk.go (A' := s₁.setTop (mkF m 31 #[iv bx] [(.int (1 : Int32))])) (fun t k => XS.iconst X0.here hx rfl (hb hby d1_30) k) ?_
          refine Wk.go (A' := s₁.setTop (mkF m 35 #[iv bx] [(.int (1 : Int32))])) (fun t k => XS.goto X0.here hx rfl (pc0 := 31) (pc' := 35) rfl (hb hby d1_31) (by decide) (by decide) k) ?_
          refine own_fin (Qv := Q1 Z bx h0 n0) (v := some (.int (1 : Int32))) X0 hlk (fun h => by rw [Bd.returns] at h; cases h) (fun fs hr => retN X0 hx (t := .boolean) Bd.returns (by simp) (hb hby d1_35) hr) ?_ (by decide) (by decide)
          refine ⟨?_, N0, e0⟩
          simp only [f_isMarker, if_neg hc3, if_neg hc9, if_neg hc15, if_pos hc21]
        · refine Wk.go (A' := s₁.setTop (mkF m 24 #[iv bx] [])) (fun t k => XS.icmpNo X0.here hx rfl (hb hby d1_21) rfl (feq hc21).1 k) ?_
          refine Wk.go (A' := s₁.setTop (mkF m 25 #[iv bx] [(.int bx)])) (fun t k => XS.iloadN X0.here hx rfl (hb hby d1_24) rfl k) ?_
          refine Wk.go (A' := s₁.setTop (mkF m 27 #[iv bx] [(.int (-4 : Int32)), (.int bx)])) (fun t k => XS.bipush X0.here hx rfl (hb hby d1_25) k) ?_
          by_cases hc27 : bx = (-4 : Int32)
          · refine Wk.go (A' := s₁.setTop (mkF m 30 #[iv bx] [])) (fun t k => XS.icmpNo X0.here hx rfl (hb hby d1_27) rfl (teq hc27).2 k) ?_
            refine Wk.go (A' := s₁.setTop (mkF m 31 #[iv bx] [(.int (1 : Int32))])) (fun t k => XS.iconst X0.here hx rfl (hb hby d1_30) k) ?_
            refine Wk.go (A' := s₁.setTop (mkF m 35 #[iv bx] [(.int (1 : Int32))])) (fun t k => XS.goto X0.here hx rfl (pc0 := 31) (pc' := 35) rfl (hb hby d1_31) (by decide) (by decide) k) ?_
            refine own_fin (Qv := Q1 Z bx h0 n0) (v := some (.int (1 : Int32))) X0 hlk (fun h => by rw [Bd.returns] at h; cases h) (fun fs hr => retN X0 hx (t := .boolean) Bd.returns (by simp) (hb hby d1_35) hr) ?_ (by decide) (by decide)
            refine ⟨?_, N0, e0⟩
            simp only [f_isMarker, if_neg hc3, if_neg hc9, if_neg hc15, if_neg hc21, if_pos hc27]
          · refine Wk.go (A' := s₁.setTop (mkF m 34 #[iv bx] [])) (fun t k => XS.icmpYes X0.here hx rfl (pc0 := 27) (pc' := 34) rfl (hb hby d1_27) rfl (feq hc27).2 (by decide) (by decide) k) ?_
            refine Wk.go (A' := s₁.setTop (mkF m 35 #[iv bx] [(.int (0 : Int32))])) (fun t k => XS.iconst X0.here hx rfl (hb hby d1_34) k) ?_
            refine own_fin (Qv := Q1 Z bx h0 n0) (v := some (.int (0 : Int32))) X0 hlk (fun h => by rw [Bd.returns] at h; cases h) (fun fs hr => retN X0 hx (t := .boolean) Bd.returns (by simp) (hb hby d1_35) hr) ?_ (by decide) (by decide)
            refine ⟨?_, N0, e0⟩
            simp only [f_isMarker, if_neg hc3, if_neg hc9, if_neg hc15, if_neg hc21, if_neg hc27]
theorem own_marker (x : Int32) : f_isMarker x.toInt8.toInt32 = if (x &&& (255 : Int32)) < (248 : Int32) then 0 else if (252 : Int32) < (x &&& (255 : Int32)) then 0 else 1 := by
  have h1 := c_i2b x
  have h2 := c_mask x 255 8 (by decide) (by decide)
  have e1 : (-8 : Int32).toInt = -8 := by decide
  have e2 : (-7 : Int32).toInt = -7 := by decide
  have e3 : (-6 : Int32).toInt = -6 := by decide
  have e4 : (-5 : Int32).toInt = -5 := by decide
  have e5 : (-4 : Int32).toInt = -4 := by decide
  have e6 : (248 : Int32).toInt = 248 := by decide
  have e7 : (252 : Int32).toInt = 252 := by decide
  unfold f_isMarker
  simp only [← Int32.toInt_inj, Int32.lt_iff_toInt_lt, e1, e2, e3, e4, e5, e6, e7]
  repeat' split
  all_goals first | rfl | (exfalso; omega)
theorem tw0 {Z : State} {a0 : Array Value} (hw : ∀ d ∈ tables_1, d.before a0 Z = true) : (Jvm.Cond.methodLink "com/example/dense_envelope/denseenvelope/broker/RecordFormatIsMarkerPinLaw" (7 : Nat) ({ cls := "com/example/dense_envelope/denseenvelope/broker/RecordFormat", name := "isMarker", desc := "(B)Z" } : Jvm.MethodName)).before a0 Z = true := hw _ (List.mem_of_getElem? (i := 0) rfl)
theorem tw3 {Z : State} {a0 : Array Value} (hw : ∀ d ∈ tables_1, d.before a0 Z = true) : (Jvm.Cond.code ({ cls := "com/example/dense_envelope/denseenvelope/broker/RecordFormat", name := "isMarker", desc := "(B)Z" } : Jvm.MethodName) prog_31_method_3_code (1 : Nat) (Option.some Jvm.ClassFile.FieldType.boolean)).before a0 Z = true := hw _ (List.mem_of_getElem? (i := 3) rfl)
theorem tw2 {Z : State} {a0 : Array Value} (hw : ∀ d ∈ tables_1, d.before a0 Z = true) : (Jvm.Cond.initialized "com/example/dense_envelope/denseenvelope/broker/RecordFormat").before a0 Z = true := hw _ (List.mem_of_getElem? (i := 2) rfl)
theorem pd_0 : parseMethodDescriptor "(B)Z" = some ⟨[.byte], some .boolean⟩ := by decide +kernel
theorem tw1 {Z : State} {a0 : Array Value} (hw : ∀ d ∈ tables_1, d.before a0 Z = true) : (Jvm.Cond.static ({ cls := "com/example/dense_envelope/denseenvelope/broker/RecordFormat", name := "isMarker", desc := "(B)Z" } : Jvm.MethodName)).before a0 Z = true := hw _ (List.mem_of_getElem? (i := 1) rfl)
theorem pn_1 : plainName "com/example/dense_envelope/denseenvelope/broker/RecordFormatIsMarkerPinLaw" = true := by first | (simp [plainName, overriddenIn]; done) | decide +kernel
theorem ef_0 (m : MethodId) (x0 : Int32) : entryFrame m #[(.int x0)] maxLocals = mkF m 0 #[iv x0, .unset, .unset, .unset] [] := by first | (simp [entryFrame, mkF, argsToLocals, Value.category, maxLocals]; done) | rfl
def Q0 (Z : State) (ax : Int32)  (h0 : Heap) (n0 : Nat) (v : Option Value) (h : Heap) (L : List Loc) : Prop := v = some (.int 1) ∧ Fr n0 L
set_option maxRecDepth 65536 in
set_option maxHeartbeats 40000000 in
theorem rm0 (l : Launch) (Z : State) (a0 : Array Value) (hw : ∀ d ∈ tables_1, d.before a0 Z = true) (ws : List Jvm.Cond) (ax : Int32)  (h0 : Heap) (n0 : Nat) (Z0 : n0 ≤ h0.size)  :
    MetFree l x (head1 (Jvm.Cond.code x code maxLocals ret :: ws) room_1) (fun a U => a = #[(.int ax)] ∧ Z.Warmed39 U.vm ∧ U.heap = h0) (fun _ _ _ _ _ => True) (fun _ U o U' => ∃ v L, o = .returned v ∧ Q0 Z ax h0 n0 v U'.heap L ∧ FrameEnd U o U' L 0 0) := by
  refine MetFree.of_bodySF (plainFor_of_name pn_1) hisR ?_
  intro p e s m args below meth c s₁ Bd hml0 hP hK
  obtain ⟨rfl, hZ, hh⟩ := hP
  have hx := Bd.exec
  have hby := Bd.bytes
  have hml : c.maxLocals = 4 := hml0
  have hown : s.vm.findClass "com/example/dense_envelope/denseenvelope/broker/RecordFormatIsMarkerPinLaw" = some m.cls := findClass_of_methodNamed Bd.named
  have hnm := (name_of_methodNamed Bd.named Bd.method).1
  have X0 : Stand p l e room_1 s m #[(.int ax)] below meth c s₁ [] 0 0 := Stand.of_body Bd
  have e0 : s₁.heap = h0 := by rw [← hh, Bd.state]; rfl
  have N0 := Fr.nil n0
  have hlk : meth.locks = false := BodyLoose.notSynchronized Bd
  suffices hwk : Wk p.tables e below (s₁.setTop (mkF m 0 #[iv ax, .unset, .unset, .unset] [])) (fun U o => U.status = .running ∧ Ended U below o ∧ ∃ v L, o = .returned v ∧ Q0 Z ax h0 n0 v U.heap L ∧ FrameEnd s o U L 0 0) by
    obtain ⟨U, o, k1, k2⟩ := hwk
    exact ⟨U, o, castTop (ef_0 m ax) k1, k2⟩
  refine Wk.go (A' := s₁.setTop (mkF m 1 #[iv ax, .unset, .unset, .unset] [(.int ax)])) (fun t k => XS.iloadN X0.here hx rfl (hb hby at_0) rfl k) ?_
  refine Wk.go (A' := s₁.setTop (mkF m 2 #[iv ax, .unset, .unset, .unset] [(.int (ax.toInt8.toInt32))])) (fun t k => XS.i2b X0.here hx rfl (hb hby at_1) rfl k) ?_
  refine Wk.go (A' := s₁.setTop (mkF m 3 #[iv ax, iv (ax.toInt8.toInt32), .unset, .unset] [])) (fun t k => XS.istoreN X0.here hx rfl (hb hby at_2) rfl (l' := #[iv ax, iv (ax.toInt8.toInt32), .unset, .unset]) rfl k) ?_
  refine Wk.go (A' := s₁.setTop (mkF m 4 #[iv ax, iv (ax.toInt8.toInt32), .unset, .unset] [(.int ax)])) (fun t k => XS.iloadN X0.here hx rfl (hb hby at_3) rfl k) ?_
  refine Wk.go (A' := s₁.setTop (mkF m 7 #[iv ax, iv (ax.toInt8.toInt32), .unset, .unset] [(.int (255 : Int32)), (.int ax)])) (fun t k => XS.sipush X0.here hx rfl (hb hby at_4) k) ?_
  refine Wk.go (A' := s₁.setTop (mkF m 8 #[iv ax, iv (ax.toInt8.toInt32), .unset, .unset] [(.int (ax &&& (255 : Int32)))])) (fun t k => XS.iand X0.here hx rfl (hb hby at_7) rfl k) ?_
  refine Wk.go (A' := s₁.setTop (mkF m 9 #[iv ax, iv (ax.toInt8.toInt32), iv (ax &&& (255 : Int32)), .unset] [])) (fun t k => XS.istoreN X0.here hx rfl (hb hby at_8) rfl (l' := #[iv ax, iv (ax.toInt8.toInt32), iv (ax &&& (255 : Int32)), .unset]) rfl k) ?_
  refine Wk.go (A' := s₁.setTop (mkF m 10 #[iv ax, iv (ax.toInt8.toInt32), iv (ax &&& (255 : Int32)), .unset] [(.int (ax &&& (255 : Int32)))])) (fun t k => XS.iloadN X0.here hx rfl (hb hby at_9) rfl k) ?_
  refine Wk.go (A' := s₁.setTop (mkF m 13 #[iv ax, iv (ax.toInt8.toInt32), iv (ax &&& (255 : Int32)), .unset] [(.int (248 : Int32)), (.int (ax &&& (255 : Int32)))])) (fun t k => XS.sipush X0.here hx rfl (hb hby at_10) k) ?_
  by_cases hc13 : (ax &&& (255 : Int32)) < (248 : Int32)
  · refine Wk.go (A' := s₁.setTop (mkF m 27 #[iv ax, iv (ax.toInt8.toInt32), iv (ax &&& (255 : Int32)), .unset] [])) (fun t k => XS.icmpYes X0.here hx rfl (pc0 := 13) (pc' := 27) rfl (hb hby at_13) rfl (tlt hc13).1 (by decide) (by decide) k) ?_
    refine Wk.go (A' := s₁.setTop (mkF m 28 #[iv ax, iv (ax.toInt8.toInt32), iv (ax &&& (255 : Int32)), .unset] [(.int (0 : Int32))])) (fun t k => XS.iconst X0.here hx rfl (hb hby at_27) k) ?_
    refine Wk.go (A' := s₁.setTop (mkF m 29 #[iv ax, iv (ax.toInt8.toInt32), iv (ax &&& (255 : Int32)), iv (0 : Int32)] [])) (fun t k => XS.istoreN X0.here hx rfl (hb hby at_28) rfl (l' := #[iv ax, iv (ax.toInt8.toInt32), iv (ax &&& (255 : Int32)), iv (0 : Int32)]) rfl k) ?_
    refine Wk.go (A' := s₁.setTop (mkF m 30 #[iv ax, iv (ax.toInt8.toInt32), iv (ax &&& (255 : Int32)), iv (0 : Int32)] [(.int (ax.toInt8.toInt32))])) (fun t k => XS.iloadN X0.here hx rfl (hb hby at_29) rfl k) ?_
    obtain ⟨_, _, ⟨T1, L1, k1, n1⟩, -, X1, ⟨Lc1, hQ1, l1, y1, z1⟩, st1⟩ := Jvm.LawKit.callS X0 hx (y := (⟨"com/example/dense_envelope/denseenvelope/broker/RecordFormat", "isMarker", "(B)Z"⟩ : MethodName)) hown (mvT hZ (tw0 hw)) (mvT hZ (tw1 hw)) (mvT hZ (tw2 hw)) (mvT hZ (tw3 hw)) (by decide) (backOf (W := 0) (rm1 l Z a0 hw [] (ax.toInt8.toInt32)  h0 n0 Z0 ) hZ (tw3 hw) (tw2 hw) (by decide) (by decide)) (g := (mkF m 30 #[iv ax, iv (ax.toInt8.toInt32), iv (ax &&& (255 : Int32)), iv (0 : Int32)] [(.int (ax.toInt8.toInt32))])) rfl (by rw [hml]; rfl) (argsL := [(.int (ax.toInt8.toInt32))]) (rest := []) (lenOf pd_0 rfl) rfl (by show 2 * 0 + _ ≤ _; exact Nat.le_of_eq rfl) (hb hby at_30) (fun _ _ => ⟨rfl, e0, (by decide : 0 + 0 ≤ _), (by decide : 0 + 0 ≤ _)⟩)
    dsimp only [Pt.U, Pt.locs, Pt.cells, Pt.slots] at X1 l1 y1 z1 st1 hQ1
    subst l1 y1 z1
    obtain ⟨rfl, N1q, hE1⟩ := hQ1
    have N1 := Fr.app N0 N1q
    refine Wk.go (A' := T1.setTop (mkF m 33 #[iv ax, iv (ax.toInt8.toInt32), iv (ax &&& (255 : Int32)), iv (0 : Int32)] [(.int (f_isMarker (ax.toInt8.toInt32)))])) (fun t k => st1 t k) ?_
    refine Wk.go (A' := T1.setTop (mkF m 34 #[iv ax, iv (ax.toInt8.toInt32), iv (ax &&& (255 : Int32)), iv (0 : Int32)] [(.int (0 : Int32)), (.int (f_isMarker (ax.toInt8.toInt32)))])) (fun t k => XS.iloadN X1.here hx rfl (hb hby at_33) rfl k) ?_
    have hc34 : (f_isMarker (ax.toInt8.toInt32)) = (0 : Int32) := by rw [own_marker]; simp only [if_pos hc13]
    refine Wk.go (A' := T1.setTop (mkF m 37 #[iv ax, iv (ax.toInt8.toInt32), iv (ax &&& (255 : Int32)), iv (0 : Int32)] [])) (fun t k => XS.icmpNo X1.here hx rfl (hb hby at_34) rfl (teq hc34).2 k) ?_
    refine Wk.go (A' := T1.setTop (mkF m 38 #[iv ax, iv (ax.toInt8.toInt32), iv (ax &&& (255 : Int32)), iv (0 : Int32)] [(.int (1 : Int32))])) (fun t k => XS.iconst X1.here hx rfl (hb hby at_37) k) ?_
    refine Wk.go (A' := T1.setTop (mkF m 42 #[iv ax, iv (ax.toInt8.toInt32), iv (ax &&& (255 : Int32)), iv (0 : Int32)] [(.int (1 : Int32))])) (fun t k => XS.goto X1.here hx rfl (pc0 := 38) (pc' := 42) rfl (hb hby at_38) (by decide) (by decide) k) ?_
    refine own_fin (Qv := Q0 Z ax h0 n0) (v := some (.int (1 : Int32))) X1 hlk (fun h => by rw [Bd.returns] at h; cases h) (fun fs hr => retN X1 hx (t := .boolean) Bd.returns (by simp) (hb hby at_42) hr) ?_ (by decide) (by decide)
    exact ⟨rfl, N1⟩
  · refine Wk.go (A' := s₁.setTop (mkF m 16 #[iv ax, iv (ax.toInt8.toInt32), iv (ax &&& (255 : Int32)), .unset] [])) (fun t k => XS.icmpNo X0.here hx rfl (hb hby at_13) rfl (flt hc13).1 k) ?_
    refine Wk.go (A' := s₁.setTop (mkF m 17 #[iv ax, iv (ax.toInt8.toInt32), iv (ax &&& (255 : Int32)), .unset] [(.int (ax &&& (255 : Int32)))])) (fun t k => XS.iloadN X0.here hx rfl (hb hby at_16) rfl k) ?_
    refine Wk.go (A' := s₁.setTop (mkF m 20 #[iv ax, iv (ax.toInt8.toInt32), iv (ax &&& (255 : Int32)), .unset] [(.int (252 : Int32)), (.int (ax &&& (255 : Int32)))])) (fun t k => XS.sipush X0.here hx rfl (hb hby at_17) k) ?_
    by_cases hc20 : (252 : Int32) < (ax &&& (255 : Int32))
    · refine Wk.go (A' := s₁.setTop (mkF m 27 #[iv ax, iv (ax.toInt8.toInt32), iv (ax &&& (255 : Int32)), .unset] [])) (fun t k => XS.icmpYes X0.here hx rfl (pc0 := 20) (pc' := 27) rfl (hb hby at_20) rfl (tlt hc20).2.2.1 (by decide) (by decide) k) ?_
      refine Wk.go (A' := s₁.setTop (mkF m 28 #[iv ax, iv (ax.toInt8.toInt32), iv (ax &&& (255 : Int32)), .unset] [(.int (0 : Int32))])) (fun t k => XS.iconst X0.here hx rfl (hb hby at_27) k) ?_
      refine Wk.go (A' := s₁.setTop (mkF m 29 #[iv ax, iv (ax.toInt8.toInt32), iv (ax &&& (255 : Int32)), iv (0 : Int32)] [])) (fun t k => XS.istoreN X0.here hx rfl (hb hby at_28) rfl (l' := #[iv ax, iv (ax.toInt8.toInt32), iv (ax &&& (255 : Int32)), iv (0 : Int32)]) rfl k) ?_
      refine Wk.go (A' := s₁.setTop (mkF m 30 #[iv ax, iv (ax.toInt8.toInt32), iv (ax &&& (255 : Int32)), iv (0 : Int32)] [(.int (ax.toInt8.toInt32))])) (fun t k => XS.iloadN X0.here hx rfl (hb hby at_29) rfl k) ?_
      obtain ⟨_, _, ⟨T2, L2, k2, n2⟩, -, X2, ⟨Lc2, hQ2, l2, y2, z2⟩, st2⟩ := Jvm.LawKit.callS X0 hx (y := (⟨"com/example/dense_envelope/denseenvelope/broker/RecordFormat", "isMarker", "(B)Z"⟩ : MethodName)) hown (mvT hZ (tw0 hw)) (mvT hZ (tw1 hw)) (mvT hZ (tw2 hw)) (mvT hZ (tw3 hw)) (by decide) (backOf (W := 0) (rm1 l Z a0 hw [] (ax.toInt8.toInt32)  h0 n0 Z0 ) hZ (tw3 hw) (tw2 hw) (by decide) (by decide)) (g := (mkF m 30 #[iv ax, iv (ax.toInt8.toInt32), iv (ax &&& (255 : Int32)), iv (0 : Int32)] [(.int (ax.toInt8.toInt32))])) rfl (by rw [hml]; rfl) (argsL := [(.int (ax.toInt8.toInt32))]) (rest := []) (lenOf pd_0 rfl) rfl (by show 2 * 0 + _ ≤ _; exact Nat.le_of_eq rfl) (hb hby at_30) (fun _ _ => ⟨rfl, e0, (by decide : 0 + 0 ≤ _), (by decide : 0 + 0 ≤ _)⟩)
      dsimp only [Pt.U, Pt.locs, Pt.cells, Pt.slots] at X2 l2 y2 z2 st2 hQ2
      subst l2 y2 z2
      obtain ⟨rfl, N2q, hE2⟩ := hQ2
      have N2 := Fr.app N0 N2q
      refine Wk.go (A' := T2.setTop (mkF m 33 #[iv ax, iv (ax.toInt8.toInt32), iv (ax &&& (255 : Int32)), iv (0 : Int32)] [(.int (f_isMarker (ax.toInt8.toInt32)))])) (fun t k => st2 t k) ?_
      refine Wk.go (A' := T2.setTop (mkF m 34 #[iv ax, iv (ax.toInt8.toInt32), iv (ax &&& (255 : Int32)), iv (0 : Int32)] [(.int (0 : Int32)), (.int (f_isMarker (ax.toInt8.toInt32)))])) (fun t k => XS.iloadN X2.here hx rfl (hb hby at_33) rfl k) ?_
      have hc34 : (f_isMarker (ax.toInt8.toInt32)) = (0 : Int32) := by rw [own_marker]; simp only [if_neg hc13, if_pos hc20]
      refine Wk.go (A' := T2.setTop (mkF m 37 #[iv ax, iv (ax.toInt8.toInt32), iv (ax &&& (255 : Int32)), iv (0 : Int32)] [])) (fun t k => XS.icmpNo X2.here hx rfl (hb hby at_34) rfl (teq hc34).2 k) ?_
      refine Wk.go (A' := T2.setTop (mkF m 38 #[iv ax, iv (ax.toInt8.toInt32), iv (ax &&& (255 : Int32)), iv (0 : Int32)] [(.int (1 : Int32))])) (fun t k => XS.iconst X2.here hx rfl (hb hby at_37) k) ?_
      refine Wk.go (A' := T2.setTop (mkF m 42 #[iv ax, iv (ax.toInt8.toInt32), iv (ax &&& (255 : Int32)), iv (0 : Int32)] [(.int (1 : Int32))])) (fun t k => XS.goto X2.here hx rfl (pc0 := 38) (pc' := 42) rfl (hb hby at_38) (by decide) (by decide) k) ?_
      refine own_fin (Qv := Q0 Z ax h0 n0) (v := some (.int (1 : Int32))) X2 hlk (fun h => by rw [Bd.returns] at h; cases h) (fun fs hr => retN X2 hx (t := .boolean) Bd.returns (by simp) (hb hby at_42) hr) ?_ (by decide) (by decide)
      exact ⟨rfl, N2⟩
    · refine Wk.go (A' := s₁.setTop (mkF m 23 #[iv ax, iv (ax.toInt8.toInt32), iv (ax &&& (255 : Int32)), .unset] [])) (fun t k => XS.icmpNo X0.here hx rfl (hb hby at_20) rfl (flt hc20).2.2.1 k) ?_
      refine Wk.go (A' := s₁.setTop (mkF m 24 #[iv ax, iv (ax.toInt8.toInt32), iv (ax &&& (255 : Int32)), .unset] [(.int (1 : Int32))])) (fun t k => XS.iconst X0.here hx rfl (hb hby at_23) k) ?_
      refine Wk.go (A' := s₁.setTop (mkF m 28 #[iv ax, iv (ax.toInt8.toInt32), iv (ax &&& (255 : Int32)), .unset] [(.int (1 : Int32))])) (fun t k => XS.goto X0.here hx rfl (pc0 := 24) (pc' := 28) rfl (hb hby at_24) (by decide) (by decide) k) ?_
      refine Wk.go (A' := s₁.setTop (mkF m 29 #[iv ax, iv (ax.toInt8.toInt32), iv (ax &&& (255 : Int32)), iv (1 : Int32)] [])) (fun t k => XS.istoreN X0.here hx rfl (hb hby at_28) rfl (l' := #[iv ax, iv (ax.toInt8.toInt32), iv (ax &&& (255 : Int32)), iv (1 : Int32)]) rfl k) ?_
      refine Wk.go (A' := s₁.setTop (mkF m 30 #[iv ax, iv (ax.toInt8.toInt32), iv (ax &&& (255 : Int32)), iv (1 : Int32)] [(.int (ax.toInt8.toInt32))])) (fun t k => XS.iloadN X0.here hx rfl (hb hby at_29) rfl k) ?_
      obtain ⟨_, _, ⟨T3, L3, k3, n3⟩, -, X3, ⟨Lc3, hQ3, l3, y3, z3⟩, st3⟩ := Jvm.LawKit.callS X0 hx (y := (⟨"com/example/dense_envelope/denseenvelope/broker/RecordFormat", "isMarker", "(B)Z"⟩ : MethodName)) hown (mvT hZ (tw0 hw)) (mvT hZ (tw1 hw)) (mvT hZ (tw2 hw)) (mvT hZ (tw3 hw)) (by decide) (backOf (W := 0) (rm1 l Z a0 hw [] (ax.toInt8.toInt32)  h0 n0 Z0 ) hZ (tw3 hw) (tw2 hw) (by decide) (by decide)) (g := (mkF m 30 #[iv ax, iv (ax.toInt8.toInt32), iv (ax &&& (255 : Int32)), iv (1 : Int32)] [(.int (ax.toInt8.toInt32))])) rfl (by rw [hml]; rfl) (argsL := [(.int (ax.toInt8.toInt32))]) (rest := []) (lenOf pd_0 rfl) rfl (by show 2 * 0 + _ ≤ _; exact Nat.le_of_eq rfl) (hb hby at_30) (fun _ _ => ⟨rfl, e0, (by decide : 0 + 0 ≤ _), (by decide : 0 + 0 ≤ _)⟩)
      dsimp only [Pt.U, Pt.locs, Pt.cells, Pt.slots] at X3 l3 y3 z3 st3 hQ3
      subst l3 y3 z3
      obtain ⟨rfl, N3q, hE3⟩ := hQ3
      have N3 := Fr.app N0 N3q
      refine Wk.go (A' := T3.setTop (mkF m 33 #[iv ax, iv (ax.toInt8.toInt32), iv (ax &&& (255 : Int32)), iv (1 : Int32)] [(.int (f_isMarker (ax.toInt8.toInt32)))])) (fun t k => st3 t k) ?_
      refine Wk.go (A' := T3.setTop (mkF m 34 #[iv ax, iv (ax.toInt8.toInt32), iv (ax &&& (255 : Int32)), iv (1 : Int32)] [(.int (1 : Int32)), (.int (f_isMarker (ax.toInt8.toInt32)))])) (fun t k => XS.iloadN X3.here hx rfl (hb hby at_33) rfl k) ?_
      have hc34 : (f_isMarker (ax.toInt8.toInt32)) = (1 : Int32) := by rw [own_marker]; simp only [if_neg hc13, if_neg hc20]
      refine Wk.go (A' := T3.setTop (mkF m 37 #[iv ax, iv (ax.toInt8.toInt32), iv (ax &&& (255 : Int32)), iv (1 : Int32)] [])) (fun t k => XS.icmpNo X3.here hx rfl (hb hby at_34) rfl (teq hc34).2 k) ?_
      refine Wk.go (A' := T3.setTop (mkF m 38 #[iv ax, iv (ax.toInt8.toInt32), iv (ax &&& (255 : Int32)), iv (1 : Int32)] [(.int (1 : Int32))])) (fun t k => XS.iconst X3.here hx rfl (hb hby at_37) k) ?_
      refine Wk.go (A' := T3.setTop (mkF m 42 #[iv ax, iv (ax.toInt8.toInt32), iv (ax &&& (255 : Int32)), iv (1 : Int32)] [(.int (1 : Int32))])) (fun t k => XS.goto X3.here hx rfl (pc0 := 38) (pc' := 42) rfl (hb hby at_38) (by decide) (by decide) k) ?_
      refine own_fin (Qv := Q0 Z ax h0 n0) (v := some (.int (1 : Int32))) X3 hlk (fun h => by rw [Bd.returns] at h; cases h) (fun fs hr => retN X3 hx (t := .boolean) Bd.returns (by simp) (hb hby at_42) hr) ?_ (by decide) (by decide)
      exact ⟨rfl, N3⟩
set_option maxRecDepth 65536 in
set_option maxHeartbeats 40000000 in
theorem comes_1 {Post : Tables → Env → Array Value → State → Outcome → State → Prop} (hpost : ∀ tb e args s v u, (limb_1_1.after args s (.returned v) u = true ∧ limb_1_2.after args s (.returned v) u = true ∧ True) → FrameEnd s (.returned v) u (Jvm.fieldLocs frame_1_writes args s ++ Jvm.arrayLocs frame_1_arrays args s ++ Jvm.staticLocs frame_1_statics s) 0 0 → Post tb e args s (.returned v) u) :
    ArmFor flags0 classFile x code maxLocals ret World_1 tables_1 room_1 Calls_1 rest_1 Pre_1 Post := by
  intro l hfl _ _ p e ha hc hk s m args below hf hA hF happ hP
  obtain ⟨hcalls, hrest, hpre⟩ := hP
  obtain ⟨-, -, -, hnamed, -, -, -, hat⟩ := (Spec.applies_iff hf).mp happ
  obtain ⟨hg, hn⟩ := and_e (Cond.before_iff.mp (show (Jvm.Cond.and given_1 narrow_1).before args s = true from hpre))
  obtain ⟨hcnt, g0⟩ := and_e hg
  obtain ⟨w0, rfl⟩ : ∃ w0 : Value, args = #[w0] := by
    have hs : args.size = 1 := by simpa [Cond.value, given_1] using hcnt
    obtain ⟨L⟩ := args
    match L, hs with
    | [w0], _ => exact ⟨w0, rfl⟩
  have hw := fun d (hd : d ∈ tables_1) => atoms_spec (ws := Jvm.Cond.code x code maxLocals ret :: tables_1) hat d (List.mem_cons_of_mem _ hd)
  obtain ⟨i0, ei0⟩ := is_v g0
  obtain rfl : w0 = (.int i0) := Option.some.inj ei0
  obtain ⟨n, o, h1, h2, h3, _, L, rfl, ⟨rfl, N⟩, hq⟩ := rm0 l s _ hw tables_1 i0  s.heap s.heap.size (Nat.le_refl _)  p e ha hc hk s m _ below hf ((Spec.applies_iff_loose hf).mp happ).1 ⟨rfl, State.Warmed39.refl s, rfl⟩ trivial
  refine ⟨n, _, h1, h2, h3, hpost _ _ _ _ _ _ ⟨Cond.after_iff.mpr rfl, Cond.after_iff.mpr (eq_i res_at (Term.int_eval (1)) rfl), trivial⟩ ⟨hq.1, hq.2.1, (hq.2.2.sift fun y hy => Or.inr (N y hy)).mono (by decide) (by decide)⟩⟩
theorem main_1_1 : Claimed_1_1 := comes_1 fun _ _ _ _ _ _ h hF => ⟨h.1, hF⟩
theorem main_1_2 : Claimed_1_2 := comes_1 fun _ _ _ _ _ _ h hF => ⟨h.2.1, hF⟩
end Jvm.Pilot.@@N@@
namespace Jvm.Pilot.@@N@@
open Jvm Jvm.ClassFile Sem Op Lib Jvm.Free Jvm.Stand Jvm.Pilot.@@N@@.Jvm.D
/-! MADE BY PROGRAM (witnessworld.py) out of the Statement's table words and the real class files: 7 classes; the members and pool entries that the words name. The judged class is class 1, her method 1. -/
namespace start1
open Jvm.ClassFile
def u (s : String) : CpInfo := .utf8 (stringToUtf16 s)
/-- a pool by its gaps: so many unusable entries, then the entry; so many at the end -/
def gap : Nat → List CpInfo → List CpInfo
  | 0, r => r
  | n + 1, r => .unusable :: gap n r
def poolList (es : List (Nat × CpInfo)) (last : Nat) : List CpInfo := es.foldr (fun e r => gap e.1 (e.2 :: r)) (gap last [])
def pool (es : List (Nat × CpInfo)) (last : Nat) : Array CpInfo := ⟨poolList es last⟩
def fileOf (pool : Array CpInfo) (this : Nat) (attrs : Array Attribute := #[]) (ms : Array MethodInfo := #[]) (fl : Nat := 33) (sup : Nat := 0) (ifs : Array Nat := #[]) (fds : Array FieldInfo := #[]) : ClassFile where
  minorVersion := 0
  majorVersion := 65
  constantPool := pool
  accessFlags := fl
  thisClass := this
  superClass := sup
  interfaces := ifs
  fields := fds
  methods := ms
  attributes := attrs
def plain (name : String) (sup : Option ClassId) : Class where
  name := name
  kind := .ordinary
  loader := none
  accessFlags := 33
  super := sup
  interfaces := #[]
  cf := none
  fields := #[]
  methods := #[]
  instanceTypes := #[]
  staticTypes := #[]
  resolved := #[]
  callSites := []
  init := .initialized
  statics := none
  mirror := none

def pool0 : Array CpInfo := pool [(5, u "<init>"), (0, u "()V"), (1, .class_ 10), (1, u "java/lang/Object")] 113

def k0m0 : Method := { name := "<init>", desc := "()V", sig := { parameters := [], returnType := none }, accessFlags := 1, code := none }
/-- java/lang/Object -/
def k0 : Class := { plain "java/lang/Object" none with
  accessFlags := 33
  interfaces := #[]
  cf := some (fileOf pool0 8 #[] #[{ accessFlags := 1, nameIndex := 5, descriptorIndex := 6, attributes := #[] }] 33 0 #[] #[])
  fields := #[]
  methods := #[k0m0]
  instanceTypes := #[]
  staticTypes := #[]
  resolved := Array.replicate 124 none
  statics := none }

def pool1 : Array CpInfo := pool [(2, .class_ 4), (1, u "java/lang/Object"), (0, u "<init>"), (0, u "()V"), (0, .methodref 8 9), (0, .class_ 10), (0, .nameAndType 11 12), (0, u "com/example/dense_envelope/denseenvelope/broker/RecordFormat"), (0, u "isMarker"), (0, u "(B)Z"), (0, .class_ 14), (0, u "com/example/dense_envelope/denseenvelope/broker/RecordFormatIsMarkerPinLaw"), (2, u "law"), (0, u "(I)Z")] 3

def k1m0 : Method := { name := "<init>", desc := "()V", sig := { parameters := [], returnType := none }, accessFlags := 2, code := none }
def k1c1 : Code := { maxStack := 2, maxLocals := 4, code := code, exceptionTable := #[], attributes := #[] }
def k1m1 : Method := { name := "law", desc := "(I)Z", sig := { parameters := [.int], returnType := some .boolean }, accessFlags := 9, code := some k1c1 }
/-- com/example/dense_envelope/denseenvelope/broker/RecordFormatIsMarkerPinLaw -/
def k1 : Class := { plain "com/example/dense_envelope/denseenvelope/broker/RecordFormatIsMarkerPinLaw" (some 0) with
  accessFlags := 49
  interfaces := #[]
  cf := some (fileOf pool1 13 #[] #[{ accessFlags := 2, nameIndex := 5, descriptorIndex := 6, attributes := #[] }, { accessFlags := 9, nameIndex := 17, descriptorIndex := 18, attributes := #[] }] 49 2 #[] #[])
  fields := #[]
  methods := #[k1m0, k1m1]
  instanceTypes := #[]
  staticTypes := #[]
  resolved := Array.replicate 22 none
  statics := none }

def pool2 : Array CpInfo := pool [(6, .class_ 8), (1, u "java/lang/Object"), (0, u "<init>"), (0, u "()V"), (11, .class_ 24), (1, u "com/example/dense_envelope/denseenvelope/broker/RecordFormat"), (88, u "FRAGMENT_HEADER"), (0, u "I"), (2, u "FILE_HEADER"), (1, u "FULL"), (0, u "B"), (1, u "FIRST"), (1, u "MIDDLE"), (1, u "LAST"), (1, u "GROUP"), (5, u "isMarker"), (0, u "(B)Z")] 26

def k2m0 : Method := { name := "<init>", desc := "()V", sig := { parameters := [], returnType := none }, accessFlags := 2, code := none }
def k2c1 : Code := { maxStack := 2, maxLocals := 1, code := prog_31_method_3_code, exceptionTable := #[], attributes := #[] }
def k2m1 : Method := { name := "isMarker", desc := "(B)Z", sig := { parameters := [.byte], returnType := some .boolean }, accessFlags := 8, code := some k2c1 }
/-- com/example/dense_envelope/denseenvelope/broker/RecordFormat -/
def k2 : Class := { plain "com/example/dense_envelope/denseenvelope/broker/RecordFormat" (some 0) with
  accessFlags := 48
  interfaces := #[]
  cf := some (fileOf pool2 22 #[] #[{ accessFlags := 2, nameIndex := 9, descriptorIndex := 10, attributes := #[] }, { accessFlags := 8, nameIndex := 134, descriptorIndex := 135, attributes := #[] }] 48 6 #[] #[{ accessFlags := 24, nameIndex := 113, descriptorIndex := 114, attributes := #[] }, { accessFlags := 24, nameIndex := 117, descriptorIndex := 114, attributes := #[] }, { accessFlags := 24, nameIndex := 119, descriptorIndex := 120, attributes := #[] }, { accessFlags := 24, nameIndex := 122, descriptorIndex := 120, attributes := #[] }, { accessFlags := 24, nameIndex := 124, descriptorIndex := 120, attributes := #[] }, { accessFlags := 24, nameIndex := 126, descriptorIndex := 120, attributes := #[] }, { accessFlags := 24, nameIndex := 128, descriptorIndex := 120, attributes := #[] }])
  fields := #[{ name := "FRAGMENT_HEADER", type := .int, accessFlags := 24, slot := 0, constantValue := 0 }, { name := "FILE_HEADER", type := .int, accessFlags := 24, slot := 1, constantValue := 0 }, { name := "FULL", type := .byte, accessFlags := 24, slot := 2, constantValue := 0 }, { name := "FIRST", type := .byte, accessFlags := 24, slot := 3, constantValue := 0 }, { name := "MIDDLE", type := .byte, accessFlags := 24, slot := 4, constantValue := 0 }, { name := "LAST", type := .byte, accessFlags := 24, slot := 5, constantValue := 0 }, { name := "GROUP", type := .byte, accessFlags := 24, slot := 6, constantValue := 0 }]
  methods := #[k2m0, k2m1]
  instanceTypes := #[]
  staticTypes := #[.int, .int, .byte, .byte, .byte, .byte, .byte]
  resolved := Array.replicate 162 none
  statics := none }

def pool3 : Array CpInfo := pool [(1, u "java/lang/Cloneable"), (0, .class_ 1), (0, u "java/lang/Object"), (0, .class_ 3)] 3

/-- java/lang/Cloneable -/
def k3 : Class := { plain "java/lang/Cloneable" (some 0) with
  accessFlags := 1537
  interfaces := #[]
  cf := some (fileOf pool3 2 #[] #[] 1537 4 #[] #[])
  fields := #[]
  methods := #[]
  instanceTypes := #[]
  staticTypes := #[]
  resolved := Array.replicate 8 none
  statics := none }

def pool4 : Array CpInfo := pool [(1, u "java/io/Serializable"), (0, .class_ 1), (0, u "java/lang/Object"), (0, .class_ 3)] 3

/-- java/io/Serializable -/
def k4 : Class := { plain "java/io/Serializable" (some 0) with
  accessFlags := 1537
  interfaces := #[]
  cf := some (fileOf pool4 2 #[] #[] 1537 4 #[] #[])
  fields := #[]
  methods := #[]
  instanceTypes := #[]
  staticTypes := #[]
  resolved := Array.replicate 8 none
  statics := none }

/-- the primitive byte -/
def k5 : Class := { plain "byte" none with kind := .primitive 'B', accessFlags := 0x411 }
/-- [B -/
def k6 : Class := { plain "[B" (some 0) with kind := .array 5 .byte, interfaces := #[3, 4], accessFlags := 1041 }

def heap : Heap := #[]
def classes : Array Class := #[k0, k1, k2, k3, k4, k5, k6]
def interned : List (Array UInt16 × Addr) := []
def slotsUsed : Nat := 0
def theMethod : MethodId := ⟨1, 1⟩
def args0 : Array Value := #[.int 5]
def aboutOver (below : List Frame) : State where
  vm := { classes := classes, interned := interned.toArray }
  heap := heap
  slotsUsed := slotsUsed
  threads := #[{ frames := .invoking theMethod args0 :: below }]
def below0 : List Frame := [.native { method := ⟨0, 0⟩, args := #[] }]
def about1 : State := aboutOver below0
def p0 : Program := .bare "" "" ""
def e0 : Env := launch0.env 0 0 0
theorem w_frames : about1.frames = Frame.invoking theMethod args0 :: below0 := rfl
set_option maxRecDepth 65536 in
theorem w_args : argsFit about1.vm theMethod args0 = true := by decide +kernel
set_option maxRecDepth 65536 in
theorem w_heap : heapFits about1 = true := by decide +kernel
set_option maxRecDepth 65536 in
theorem w_runnable : about1.curStatus? = some .runnable := by decide +kernel
set_option maxRecDepth 65536 in
theorem w_alone : about1.alone = true := by decide +kernel
set_option maxRecDepth 65536 in
theorem w_named : about1.methodNamed? x = some theMethod := by decide +kernel
set_option maxRecDepth 65536 in
theorem w_hears : about1.hears theMethod below0 = true := by decide +kernel
set_option maxRecDepth 65536 in
theorem w_ripe : about1.ripe theMethod args0 below0 = true := by decide +kernel
theorem w_running : about1.status = .running := rfl
set_option maxRecDepth 65536 in
theorem w_room : about1.hasRoom e0.platform room_1 = true :=
  launch0.hasRoom_least _ room_1 (by decide +kernel) (by decide +kernel) (by decide +kernel) (by decide +kernel) (by decide +kernel) (by decide +kernel)
theorem allAtoms_all (ts : List Jvm.Cond) (a : Array Jvm.Value) (st : Jvm.State) : (allAtoms ts).before a st = ts.all (fun c => c.before a st) := by
  induction ts with
  | nil => rfl
  | cons c t ih =>
    show (Jvm.Cond.and c (allAtoms t)).before a st = _
    rw [Jvm.Cond.before_and, ih, List.all_cons]
def words1 : List Jvm.Cond := Jvm.Cond.code x code maxLocals ret :: tables_1
/-- a 'code' word, met by the world's own term for the bytes: nothing is compared byte by byte -/
theorem code_word {y : MethodName} {bytes : ByteArray} {mx : Nat} {rt : Option FieldType} {a : Array Value} {s : State} {m : MethodId} {meth : Method} {c : Code} (h1 : s.methodNamed? y = some m) (h2 : s.vm.method? m = some meth) (h3 : meth.code = some c) (h4 : c.code = bytes)
    (h5 : (c.maxLocals == mx && c.exceptionTable.isEmpty && decide (c.maxStack ≤ mostOperands) && decide (meth.sig.returnType = rt) && !meth.locks && decide (parseMethodDescriptor y.desc = some meth.sig)) = true) : (Jvm.Cond.code y bytes mx rt).before a s = true := by
  simp only [Bool.and_eq_true, beq_iff_eq, Bool.not_eq_true', decide_eq_true_eq] at h5
  obtain ⟨⟨⟨⟨⟨g1, g2⟩, g3⟩, g4⟩, g5⟩, g6⟩ := h5
  simp [Cond.before, Cond.holds, Cond.value, h1, h2, h3, h4, g1, g2, g3, g4, g5, g6]
def isCode : Jvm.Cond → Bool
  | .code _ _ _ _ => true
  | _ => false
theorem all_split {L : List Jvm.Cond} {P : Jvm.Cond → Bool} (h1 : L.all (fun c => isCode c || P c) = true) (h2 : ∀ c ∈ L.filter isCode, P c = true) : L.all P = true := by
  refine List.all_eq_true.mpr fun c hc => ?_
  have h := List.all_eq_true.mp h1 c hc
  rcases Bool.eq_false_or_eq_true (isCode c) with hi | hi
  · exact h2 c (List.mem_filter.mpr ⟨hc, hi⟩)
  · simpa [hi] using h
set_option maxRecDepth 65536 in
theorem w_c0 : (Jvm.Cond.code x code maxLocals ret).before args0 about1 = true := code_word (m := ⟨1, 1⟩) (meth := k1m1) (c := k1c1) (by decide +kernel) rfl rfl rfl (by decide +kernel)
set_option maxRecDepth 65536 in
theorem w_c1 : (Jvm.Cond.code ({ cls := "com/example/dense_envelope/denseenvelope/broker/RecordFormat", name := "isMarker", desc := "(B)Z" } : Jvm.MethodName) prog_31_method_3_code (1 : Nat) (Option.some Jvm.ClassFile.FieldType.boolean)).before args0 about1 = true := code_word (m := ⟨2, 1⟩) (meth := k2m1) (c := k2c1) (by decide +kernel) rfl rfl rfl (by decide +kernel)
def codes1 : List Jvm.Cond := [Jvm.Cond.code x code maxLocals ret, Jvm.Cond.code ({ cls := "com/example/dense_envelope/denseenvelope/broker/RecordFormat", name := "isMarker", desc := "(B)Z" } : Jvm.MethodName) prog_31_method_3_code (1 : Nat) (Option.some Jvm.ClassFile.FieldType.boolean)]
set_option maxRecDepth 65536 in
theorem codes_eq : words1.filter isCode = codes1 := rfl
theorem w_codes : ∀ c ∈ words1.filter isCode, c.before args0 about1 = true := by
  rw [codes_eq]
  intro c hc
  simp only [codes1, List.mem_cons, List.not_mem_nil, or_false] at hc
  rcases hc with rfl | rfl
  · exact w_c0
  · exact w_c1
set_option maxRecDepth 65536 in
theorem w_t1 : words1.all (fun c => isCode c || c.before args0 about1) = true := by decide +kernel
theorem w_tables : (allAtoms (Jvm.Cond.code x code maxLocals ret :: tables_1)).before args0 about1 = true := by
  rw [allAtoms_all]
  show words1.all (fun c => c.before args0 about1) = true
  refine all_split ?_ w_codes
  rw [w_t1]
set_option maxRecDepth 65536 in
theorem w_case : (Jvm.Cond.and given_1 narrow_1).before args0 about1 = true := by decide +kernel
theorem w_applies : (headSpec (Jvm.Cond.code x code maxLocals ret :: tables_1) room_1).applies x e0.platform about1 = true :=
  (Spec.applies_iff w_frames).mpr ⟨w_running, w_runnable, w_alone, w_named, w_hears, w_ripe, w_room, w_tables⟩
theorem atStart : AtStart classFile x code maxLocals ret World_1 tables_1 room_1 Calls_1 rest_1 Pre_1 launch0 p0 e0 about1 theMethod args0 below0 :=
  ⟨lists_1, trivial, launch0.admits_env _ _ _, launch0.least_env, fairChoices_fair.cas, fairChoices_fair.clock, w_frames, w_args, w_heap, w_applies, trivial, trivial, w_case⟩
end start1
theorem witness_1 : WitnessClaimed_1 := ⟨start1.p0, start1.e0, start1.about1, start1.theMethod, start1.args0, start1.below0, start1.atStart⟩
end Jvm.Pilot.@@N@@
