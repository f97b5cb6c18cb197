import JvmDerived
import JvmDerived.Pilot.@@N@@Statement
import JvmDerived.Pilot.@@N@@Code
set_option linter.unusedVariables false
set_option linter.unusedSimpArgs false
namespace Jvm.RoadKit
open Sem ClassFile Op Lib Jvm.Stand Jvm.Free Jvm.LawKit
section New
variable {p : Program} {l : Launch} {e : Env} {R : Room} {s : State} {m : MethodId} {args : Array Value} {below : List Frame} {meth : Method} {c : Code} {T : State} {locs : List Loc} {cells slots : Nat}
theorem retI (X : Stand p l e R s m args below meth c T locs cells slots) (hx : p.tables.exec = Jvm.exec) {pc : Nat} {Ls : Array Slot} {z : Int32} {rest : List Value} (hret : meth.sig.returnType = some .int) (hd : decode c.code pc = .ok (.ireturn, 1)) {fs : List Frame}
    (hl : ∀ (f : JFrame) (acts : List Action), f.method = m → f.locked = none → f.entered = [] → (doReturn e (T.setTop f) acts (some (.int z))).1 = T.setFrames fs) : Steps p.tables e below (T.setTop (mkF m pc Ls (.int z :: rest))) (T.setFrames fs) := by
  have hm' : T.vm.method? m = some meth := X.method'
  have hn : narrow .int (.int z) = .int z := rfl
  show Steps p.tables e below (T.setTop { method := m, pc := pc, locals := Ls, stack := _ :: rest, locked := none }) _
  jvm_step X.here [X.here.top, hx, hd, hm', hret, hn]
  first | (intro acts; rw [hl _ acts rfl rfl rfl]) | rw [hl _ _ rfl rfl rfl]
  exact Steps.refl _
abbrev jv (x : Int64) : Slot := .val (.long x)
/-- from A the run goes on to an end of which R holds -/
def Wk (tb : Tables) (e : Env) (below : List Frame) (A : State) (R : State → Outcome → Prop) : Prop := ∃ U o, Steps tb e below A U ∧ R U o
theorem Wk.go {tb : Tables} {A A' : State} {R : State → Outcome → Prop} (h : ∀ t, Steps tb e below A' t → Steps tb e below A t) (k : Wk tb e below A' R) : Wk tb e below A R := by
  obtain ⟨U, o, k1, k2⟩ := k
  exact ⟨U, o, h _ k1, k2⟩
/-- the two ways from A to A' meet there -/
theorem own_fin (X : Stand p l e R s m args below meth c T locs cells slots) {Qv : Option Value → Heap → List Loc → Prop} {v : Option Value} {g : JFrame} {C S : Nat} (hlocks : meth.locks = false) (hv : meth.sig.returnType = none → v = none)
    (hst : ∀ fs, (∀ (f : JFrame) (acts : List Action), f.method = m → f.locked = none → f.entered = [] → (doReturn e (T.setTop f) acts v).1 = T.setFrames fs) → Steps p.tables e below (T.setTop g) (T.setFrames fs))
    (hQ : Qv v T.heap locs) (hc : cells ≤ C) (hs : slots ≤ S) :
    Wk p.tables e below (T.setTop g) (fun U o => U.status = .running ∧ Ended U below o ∧ ∃ v L, o = .returned v ∧ Qv v U.heap L ∧ FrameEnd s o U L C S) := by
  obtain ⟨fs, hr, hrun, hended, hW, hsame⟩ := X.leave (v := v) hv hlocks
  exact ⟨_, _, hst fs hr, hrun, hended, _, _, rfl, hQ, ⟨_, rfl⟩, hW, hsame.mono hc hs⟩
end New
end Jvm.RoadKit
namespace Jvm.Pilot.@@N@@
open Jvm Jvm.ClassFile Sem Op Lib Jvm.Free Jvm.Stand Jvm.LawKit Jvm.RoadKit Bundle Jvm.Pilot.@@N@@.Jvm.D
theorem d5_0 : decode jdk_33_method_47_code 0 = .ok (.iload_n 0, 1) := by decide +kernel
theorem d5_1 : decode jdk_33_method_47_code 1 = .ok (.ifCond .gt 14, 3) := by decide +kernel
theorem d5_15 : decode jdk_33_method_47_code 15 = .ok (.bipush 31, 2) := by decide +kernel
theorem d5_17 : decode jdk_33_method_47_code 17 = .ok (.istore_n 1, 1) := by decide +kernel
theorem d5_18 : decode jdk_33_method_47_code 18 = .ok (.iload_n 0, 1) := by decide +kernel
theorem tw26 {Z : State} {a0 : Array Value} (hw : ∀ d ∈ tables_1, d.before a0 Z = true) : (Jvm.Cond.constant "java/lang/Integer" (264 : Nat) (65536 : Int32)).before a0 Z = true := hw _ (List.mem_of_getElem? (i := 26) rfl)
theorem d5_19 : decode jdk_33_method_47_code 19 = .ok (.ldc_w 264, 3) := by decide +kernel
theorem d5_22 : decode jdk_33_method_47_code 22 = .ok (.if_icmp .lt 11, 3) := by decide +kernel
theorem d5_33 : decode jdk_33_method_47_code 33 = .ok (.iload_n 0, 1) := by decide +kernel
theorem d5_34 : decode jdk_33_method_47_code 34 = .ok (.sipush 256, 3) := by decide +kernel
theorem d5_37 : decode jdk_33_method_47_code 37 = .ok (.if_icmp .lt 11, 3) := by decide +kernel
theorem d5_48 : decode jdk_33_method_47_code 48 = .ok (.iload_n 0, 1) := by decide +kernel
theorem d5_49 : decode jdk_33_method_47_code 49 = .ok (.bipush 16, 2) := by decide +kernel
theorem d5_51 : decode jdk_33_method_47_code 51 = .ok (.if_icmp .lt 10, 3) := by decide +kernel
theorem d5_61 : decode jdk_33_method_47_code 61 = .ok (.iload_n 0, 1) := by decide +kernel
theorem d5_62 : decode jdk_33_method_47_code 62 = .ok (.iconst 4, 1) := by decide +kernel
theorem d5_63 : decode jdk_33_method_47_code 63 = .ok (.if_icmp .lt 10, 3) := by decide +kernel
theorem d5_73 : decode jdk_33_method_47_code 73 = .ok (.iload_n 1, 1) := by decide +kernel
theorem d5_74 : decode jdk_33_method_47_code 74 = .ok (.iload_n 0, 1) := by decide +kernel
theorem d5_75 : decode jdk_33_method_47_code 75 = .ok (.iconst 1, 1) := by decide +kernel
theorem d5_76 : decode jdk_33_method_47_code 76 = .ok (.iushr, 1) := by decide +kernel
theorem d5_77 : decode jdk_33_method_47_code 77 = .ok (.isub, 1) := by decide +kernel
theorem d5_78 : decode jdk_33_method_47_code 78 = .ok (.ireturn, 1) := by decide +kernel
theorem d5_66 : decode jdk_33_method_47_code 66 = .ok (.iinc 1 (-2), 3) := by decide +kernel
theorem d5_69 : decode jdk_33_method_47_code 69 = .ok (.iload_n 0, 1) := by decide +kernel
theorem d5_70 : decode jdk_33_method_47_code 70 = .ok (.iconst 2, 1) := by decide +kernel
theorem d5_71 : decode jdk_33_method_47_code 71 = .ok (.iushr, 1) := by decide +kernel
theorem d5_72 : decode jdk_33_method_47_code 72 = .ok (.istore_n 0, 1) := by decide +kernel
theorem d5_54 : decode jdk_33_method_47_code 54 = .ok (.iinc 1 (-4), 3) := by decide +kernel
theorem d5_57 : decode jdk_33_method_47_code 57 = .ok (.iload_n 0, 1) := by decide +kernel
theorem d5_58 : decode jdk_33_method_47_code 58 = .ok (.iconst 4, 1) := by decide +kernel
theorem d5_59 : decode jdk_33_method_47_code 59 = .ok (.iushr, 1) := by decide +kernel
theorem d5_60 : decode jdk_33_method_47_code 60 = .ok (.istore_n 0, 1) := by decide +kernel
theorem d5_40 : decode jdk_33_method_47_code 40 = .ok (.iinc 1 (-8), 3) := by decide +kernel
theorem d5_43 : decode jdk_33_method_47_code 43 = .ok (.iload_n 0, 1) := by decide +kernel
theorem d5_44 : decode jdk_33_method_47_code 44 = .ok (.bipush 8, 2) := by decide +kernel
theorem d5_46 : decode jdk_33_method_47_code 46 = .ok (.iushr, 1) := by decide +kernel
theorem d5_47 : decode jdk_33_method_47_code 47 = .ok (.istore_n 0, 1) := by decide +kernel
theorem d5_25 : decode jdk_33_method_47_code 25 = .ok (.iinc 1 (-16), 3) := by decide +kernel
theorem d5_28 : decode jdk_33_method_47_code 28 = .ok (.iload_n 0, 1) := by decide +kernel
theorem d5_29 : decode jdk_33_method_47_code 29 = .ok (.bipush 16, 2) := by decide +kernel
theorem d5_31 : decode jdk_33_method_47_code 31 = .ok (.iushr, 1) := by decide +kernel
theorem d5_32 : decode jdk_33_method_47_code 32 = .ok (.istore_n 0, 1) := by decide +kernel
theorem d5_4 : decode jdk_33_method_47_code 4 = .ok (.iload_n 0, 1) := by decide +kernel
theorem d5_5 : decode jdk_33_method_47_code 5 = .ok (.ifCond .ne 8, 3) := by decide +kernel
theorem d5_8 : decode jdk_33_method_47_code 8 = .ok (.bipush 32, 2) := by decide +kernel
theorem d5_10 : decode jdk_33_method_47_code 10 = .ok (.goto 4, 3) := by decide +kernel
theorem d5_14 : decode jdk_33_method_47_code 14 = .ok (.ireturn, 1) := by decide +kernel
theorem d5_13 : decode jdk_33_method_47_code 13 = .ok (.iconst 0, 1) := by decide +kernel
theorem pn_0 : plainName "java/lang/Integer" = true := by first | (simp [plainName, overriddenIn]; done) | decide +kernel
theorem ef_5 (m : MethodId) (x0 : Int32) : entryFrame m #[(.int x0)] 2 = mkF m 0 #[iv x0, .unset] [] := by first | (simp [entryFrame, mkF, argsToLocals, Value.category]; done) | rfl
def f_nlzi (ix : Int32)  : Int32 := (if (0 : Int32) < ix then (if ix < (65536 : Int32) then (if ix < (256 : Int32) then (if ix < (16 : Int32) then (if ix < (4 : Int32) then ((31 : Int32) - ((ix.toUInt32 >>> ((1 : Int32) &&& 31).toUInt32).toInt32)) else ((29 : Int32) - ((((ix.toUInt32 >>> ((2 : Int32) &&& 31).toUInt32).toInt32).toUInt32 >>> ((1 : Int32) &&& 31).toUInt32).toInt32))) else (if ((ix.toUInt32 >>> ((4 : Int32) &&& 31).toUInt32).toInt32) < (4 : Int32) then ((27 : Int32) - ((((ix.toUInt32 >>> ((4 : Int32) &&& 31).toUInt32).toInt32).toUInt32 >>> ((1 : Int32) &&& 31).toUInt32).toInt32)) else ((25 : Int32) - ((((((ix.toUInt32 >>> ((4 : Int32) &&& 31).toUInt32).toInt32).toUInt32 >>> ((2 : Int32) &&& 31).toUInt32).toInt32).toUInt32 >>> ((1 : Int32) &&& 31).toUInt32).toInt32)))) else (if ((ix.toUInt32 >>> ((8 : Int32) &&& 31).toUInt32).toInt32) < (16 : Int32) then (if ((ix.toUInt32 >>> ((8 : Int32) &&& 31).toUInt32).toInt32) < (4 : Int32) then ((23 : Int32) - ((((ix.toUInt32 >>> ((8 : Int32) &&& 31).toUInt32).toInt32).toUInt32 >>> ((1 : Int32) &&& 31).toUInt32).toInt32)) else ((21 : Int32) - ((((((ix.toUInt32 >>> ((8 : Int32) &&& 31).toUInt32).toInt32).toUInt32 >>> ((2 : Int32) &&& 31).toUInt32).toInt32).toUInt32 >>> ((1 : Int32) &&& 31).toUInt32).toInt32))) else (if ((((ix.toUInt32 >>> ((8 : Int32) &&& 31).toUInt32).toInt32).toUInt32 >>> ((4 : Int32) &&& 31).toUInt32).toInt32) < (4 : Int32) then ((19 : Int32) - ((((((ix.toUInt32 >>> ((8 : Int32) &&& 31).toUInt32).toInt32).toUInt32 >>> ((4 : Int32) &&& 31).toUInt32).toInt32).toUInt32 >>> ((1 : Int32) &&& 31).toUInt32).toInt32)) else ((17 : Int32) - ((((((((ix.toUInt32 >>> ((8 : Int32) &&& 31).toUInt32).toInt32).toUInt32 >>> ((4 : Int32) &&& 31).toUInt32).toInt32).toUInt32 >>> ((2 : Int32) &&& 31).toUInt32).toInt32).toUInt32 >>> ((1 : Int32) &&& 31).toUInt32).toInt32))))) else (if ((ix.toUInt32 >>> ((16 : Int32) &&& 31).toUInt32).toInt32) < (256 : Int32) then (if ((ix.toUInt32 >>> ((16 : Int32) &&& 31).toUInt32).toInt32) < (16 : Int32) then (if ((ix.toUInt32 >>> ((16 : Int32) &&& 31).toUInt32).toInt32) < (4 : Int32) then ((15 : Int32) - ((((ix.toUInt32 >>> ((16 : Int32) &&& 31).toUInt32).toInt32).toUInt32 >>> ((1 : Int32) &&& 31).toUInt32).toInt32)) else ((13 : Int32) - ((((((ix.toUInt32 >>> ((16 : Int32) &&& 31).toUInt32).toInt32).toUInt32 >>> ((2 : Int32) &&& 31).toUInt32).toInt32).toUInt32 >>> ((1 : Int32) &&& 31).toUInt32).toInt32))) else (if ((((ix.toUInt32 >>> ((16 : Int32) &&& 31).toUInt32).toInt32).toUInt32 >>> ((4 : Int32) &&& 31).toUInt32).toInt32) < (4 : Int32) then ((11 : Int32) - ((((((ix.toUInt32 >>> ((16 : Int32) &&& 31).toUInt32).toInt32).toUInt32 >>> ((4 : Int32) &&& 31).toUInt32).toInt32).toUInt32 >>> ((1 : Int32) &&& 31).toUInt32).toInt32)) else ((9 : Int32) - ((((((((ix.toUInt32 >>> ((16 : Int32) &&& 31).toUInt32).toInt32).toUInt32 >>> ((4 : Int32) &&& 31).toUInt32).toInt32).toUInt32 >>> ((2 : Int32) &&& 31).toUInt32).toInt32).toUInt32 >>> ((1 : Int32) &&& 31).toUInt32).toInt32)))) else (if ((((ix.toUInt32 >>> ((16 : Int32) &&& 31).toUInt32).toInt32).toUInt32 >>> ((8 : Int32) &&& 31).toUInt32).toInt32) < (16 : Int32) then (if ((((ix.toUInt32 >>> ((16 : Int32) &&& 31).toUInt32).toInt32).toUInt32 >>> ((8 : Int32) &&& 31).toUInt32).toInt32) < (4 : Int32) then ((7 : Int32) - ((((((ix.toUInt32 >>> ((16 : Int32) &&& 31).toUInt32).toInt32).toUInt32 >>> ((8 : Int32) &&& 31).toUInt32).toInt32).toUInt32 >>> ((1 : Int32) &&& 31).toUInt32).toInt32)) else ((5 : Int32) - ((((((((ix.toUInt32 >>> ((16 : Int32) &&& 31).toUInt32).toInt32).toUInt32 >>> ((8 : Int32) &&& 31).toUInt32).toInt32).toUInt32 >>> ((2 : Int32) &&& 31).toUInt32).toInt32).toUInt32 >>> ((1 : Int32) &&& 31).toUInt32).toInt32))) else (if ((((((ix.toUInt32 >>> ((16 : Int32) &&& 31).toUInt32).toInt32).toUInt32 >>> ((8 : Int32) &&& 31).toUInt32).toInt32).toUInt32 >>> ((4 : Int32) &&& 31).toUInt32).toInt32) < (4 : Int32) then ((3 : Int32) - ((((((((ix.toUInt32 >>> ((16 : Int32) &&& 31).toUInt32).toInt32).toUInt32 >>> ((8 : Int32) &&& 31).toUInt32).toInt32).toUInt32 >>> ((4 : Int32) &&& 31).toUInt32).toInt32).toUInt32 >>> ((1 : Int32) &&& 31).toUInt32).toInt32)) else ((1 : Int32) - ((((((((((ix.toUInt32 >>> ((16 : Int32) &&& 31).toUInt32).toInt32).toUInt32 >>> ((8 : Int32) &&& 31).toUInt32).toInt32).toUInt32 >>> ((4 : Int32) &&& 31).toUInt32).toInt32).toUInt32 >>> ((2 : Int32) &&& 31).toUInt32).toInt32).toUInt32 >>> ((1 : Int32) &&& 31).toUInt32).toInt32)))))) else (if ix = (0 : Int32) then (32 : Int32) else (0 : Int32)))
def Q5 (Z : State) (ix : Int32)  (h0 : Heap) (n0 : Nat) (v : Option Value) (h : Heap) (L : List Loc) : Prop := v = some (.int (f_nlzi ix)) ∧ Fr n0 L ∧ h = h0
set_option maxRecDepth 65536 in
set_option maxHeartbeats 40000000 in
theorem rm5 (l : Launch) (Z : State) (a0 : Array Value) (hw : ∀ d ∈ tables_1, d.before a0 Z = true) (ws : List Jvm.Cond) (ix : Int32)  (h0 : Heap) (n0 : Nat) (Z0 : n0 ≤ h0.size)  :
    MetFree l (⟨"java/lang/Integer", "numberOfLeadingZeros", "(I)I"⟩ : MethodName) (head1 (Jvm.Cond.code (⟨"java/lang/Integer", "numberOfLeadingZeros", "(I)I"⟩ : MethodName) jdk_33_method_47_code 2 (some .int) :: ws) ({ frames := 0, cells := 0, slots := 0, locals := 0 } : Room)) (fun a U => a = #[(.int ix)] ∧ Z.Warmed39 U.vm ∧ U.heap = h0) (fun _ _ _ _ _ => True) (fun _ U o U' => ∃ v L, o = .returned v ∧ Q5 Z ix h0 n0 v U'.heap L ∧ FrameEnd U o U' L ({ frames := 0, cells := 0, slots := 0, locals := 0 } : Room).cells ({ frames := 0, cells := 0, slots := 0, locals := 0 } : Room).slots) := by
  refine MetFree.of_bodySF (plainFor_of_name pn_0) hisR ?_
  intro p e s m args below meth c s₁ Bd hml0 hP hK
  obtain ⟨rfl, hZ, hh⟩ := hP
  have hx := Bd.exec
  have hby := Bd.bytes
  have hml : c.maxLocals = 2 := hml0
  have hown : s.vm.findClass "java/lang/Integer" = some m.cls := findClass_of_methodNamed Bd.named
  have hnm := (name_of_methodNamed Bd.named Bd.method).1
  have X0 : Stand p l e ({ frames := 0, cells := 0, slots := 0, locals := 0 } : Room) s m #[(.int ix)] below meth c s₁ [] 0 0 := Stand.of_body Bd
  have e0 : s₁.heap = h0 := by rw [← hh, Bd.state]; rfl
  have N0 := Fr.nil n0
  have hlk : meth.locks = false := BodyLoose.notSynchronized Bd
  suffices hwk : Wk p.tables e below (s₁.setTop (mkF m 0 #[iv ix, .unset] [])) (fun U o => U.status = .running ∧ Ended U below o ∧ ∃ v L, o = .returned v ∧ Q5 Z ix h0 n0 v U.heap L ∧ FrameEnd s o U L 0 0) by
    obtain ⟨U, o, k1, k2⟩ := hwk
    exact ⟨U, o, castTop (ef_5 m ix) k1, k2⟩
  refine Wk.go (A' := s₁.setTop (mkF m 1 #[iv ix, .unset] [(.int ix)])) (fun t k => XS.iloadN X0.here hx rfl (hb hby d5_0) rfl k) ?_
  by_cases hc1 : (0 : Int32) < ix
  · refine Wk.go (A' := s₁.setTop (mkF m 15 #[iv ix, .unset] [])) (fun t k => XS.ifYes X0.here hx rfl (pc0 := 1) (pc' := 15) rfl (hb hby d5_1) rfl ((if0 _ _).trans (tlt hc1).2.2.1) (by decide) (by decide) k) ?_
    refine Wk.go (A' := s₁.setTop (mkF m 17 #[iv ix, .unset] [(.int (31 : Int32))])) (fun t k => XS.bipush X0.here hx rfl (hb hby d5_15) k) ?_
    refine Wk.go (A' := s₁.setTop (mkF m 18 #[iv ix, iv (31 : Int32)] [])) (fun t k => XS.istoreN X0.here hx rfl (hb hby d5_17) rfl (l' := #[iv ix, iv (31 : Int32)]) rfl k) ?_
    refine Wk.go (A' := s₁.setTop (mkF m 19 #[iv ix, iv (31 : Int32)] [(.int ix)])) (fun t k => XS.iloadN X0.here hx rfl (hb hby d5_18) rfl k) ?_
    refine Wk.go (A' := s₁.setTop (mkF m 22 #[iv ix, iv (31 : Int32)] [(.int (65536 : Int32)), (.int ix)])) (fun t k => X0.ldcwInt hx hown (mvT hZ (tw26 hw)) (g := (mkF m 19 #[iv ix, iv (31 : Int32)] [(.int ix)])) rfl (hb hby d5_19) t k) ?_
    by_cases hc22 : ix < (65536 : Int32)
    · refine Wk.go (A' := s₁.setTop (mkF m 33 #[iv ix, iv (31 : Int32)] [])) (fun t k => XS.icmpYes X0.here hx rfl (pc0 := 22) (pc' := 33) rfl (hb hby d5_22) rfl (tlt hc22).1 (by decide) (by decide) k) ?_
      refine Wk.go (A' := s₁.setTop (mkF m 34 #[iv ix, iv (31 : Int32)] [(.int ix)])) (fun t k => XS.iloadN X0.here hx rfl (hb hby d5_33) rfl k) ?_
      refine Wk.go (A' := s₁.setTop (mkF m 37 #[iv ix, iv (31 : Int32)] [(.int (256 : Int32)), (.int ix)])) (fun t k => XS.sipush X0.here hx rfl (hb hby d5_34) k) ?_
      by_cases hc37 : ix < (256 : Int32)
      · refine Wk.go (A' := s₁.setTop (mkF m 48 #[iv ix, iv (31 : Int32)] [])) (fun t k => XS.icmpYes X0.here hx rfl (pc0 := 37) (pc' := 48) rfl (hb hby d5_37) rfl (tlt hc37).1 (by decide) (by decide) k) ?_
        refine Wk.go (A' := s₁.setTop (mkF m 49 #[iv ix, iv (31 : Int32)] [(.int ix)])) (fun t k => XS.iloadN X0.here hx rfl (hb hby d5_48) rfl k) ?_
        refine Wk.go (A' := s₁.setTop (mkF m 51 #[iv ix, iv (31 : Int32)] [(.int (16 : Int32)), (.int ix)])) (fun t k => XS.bipush X0.here hx rfl (hb hby d5_49) k) ?_
        by_cases hc51 : ix < (16 : Int32)
        · refine Wk.go (A' := s₁.setTop (mkF m 61 #[iv ix, iv (31 : Int32)] [])) (fun t k => XS.icmpYes X0.here hx rfl (pc0 := 51) (pc' := 61) rfl (hb hby d5_51) rfl (tlt hc51).1 (by decide) (by decide) k) ?_
          refine Wk.go (A' := s₁.setTop (mkF m 62 #[iv ix, iv (31 : Int32)] [(.int ix)])) (fun t k => XS.iloadN X0.here hx rfl (hb hby d5_61) rfl k) ?_
          refine Wk.go (A' := s₁.setTop (mkF m 63 #[iv ix, iv (31 : Int32)] [(.int (4 : Int32)), (.int ix)])) (fun t k => XS.iconst X0.here hx rfl (hb hby d5_62) k) ?_
          by_cases hc63 : ix < (4 : Int32)
          · refine Wk.go (A' := s₁.setTop (mkF m 73 #[iv ix, iv (31 : Int32)] [])) (fun t k => XS.icmpYes X0.here hx rfl (pc0 := 63) (pc' := 73) rfl (hb hby d5_63) rfl (tlt hc63).1 (by decide) (by decide) k) ?_
            refine Wk.go (A' := s₁.setTop (mkF m 74 #[iv ix, iv (31 : Int32)] [(.int (31 : Int32))])) (fun t k => XS.iloadN X0.here hx rfl (hb hby d5_73) rfl k) ?_
            refine Wk.go (A' := s₁.setTop (mkF m 75 #[iv ix, iv (31 : Int32)] [(.int ix), (.int (31 : Int32))])) (fun t k => XS.iloadN X0.here hx rfl (hb hby d5_74) rfl k) ?_
            refine Wk.go (A' := s₁.setTop (mkF m 76 #[iv ix, iv (31 : Int32)] [(.int (1 : Int32)), (.int ix), (.int (31 : Int32))])) (fun t k => XS.iconst X0.here hx rfl (hb hby d5_75) k) ?_
            refine Wk.go (A' := s₁.setTop (mkF m 77 #[iv ix, iv (31 : Int32)] [(.int ((ix.toUInt32 >>> ((1 : Int32) &&& 31).toUInt32).toInt32)), (.int (31 : Int32))])) (fun t k => XS.iushr X0.here hx rfl (hb hby d5_76) rfl k) ?_
            refine Wk.go (A' := s₁.setTop (mkF m 78 #[iv ix, iv (31 : Int32)] [(.int ((31 : Int32) - ((ix.toUInt32 >>> ((1 : Int32) &&& 31).toUInt32).toInt32)))])) (fun t k => XS.isub X0.here hx rfl (hb hby d5_77) rfl k) ?_
            refine own_fin (Qv := Q5 Z ix h0 n0) (v := some (.int ((31 : Int32) - ((ix.toUInt32 >>> ((1 : Int32) &&& 31).toUInt32).toInt32)))) X0 hlk (fun h => by rw [Bd.returns] at h; cases h) (fun fs hr => retI X0 hx Bd.returns (hb hby d5_78) hr) ?_ (by decide) (by decide)
            refine ⟨?_, N0, e0⟩
            simp only [f_nlzi, if_pos hc1, if_pos hc22, if_pos hc37, if_pos hc51, if_pos hc63]
          · refine Wk.go (A' := s₁.setTop (mkF m 66 #[iv ix, iv (31 : Int32)] [])) (fun t k => XS.icmpNo X0.here hx rfl (hb hby d5_63) rfl (flt hc63).1 k) ?_
            refine Wk.go (A' := s₁.setTop (mkF m 69 #[iv ix, iv (29 : Int32)] [])) (fun t k => XS.iinc X0.here hx rfl (hb hby d5_66) rfl (l' := #[iv ix, iv (29 : Int32)]) rfl k) ?_
            refine Wk.go (A' := s₁.setTop (mkF m 70 #[iv ix, iv (29 : Int32)] [(.int ix)])) (fun t k => XS.iloadN X0.here hx rfl (hb hby d5_69) rfl k) ?_
            refine Wk.go (A' := s₁.setTop (mkF m 71 #[iv ix, iv (29 : Int32)] [(.int (2 : Int32)), (.int ix)])) (fun t k => XS.iconst X0.here hx rfl (hb hby d5_70) k) ?_
            refine Wk.go (A' := s₁.setTop (mkF m 72 #[iv ix, iv (29 : Int32)] [(.int ((ix.toUInt32 >>> ((2 : Int32) &&& 31).toUInt32).toInt32))])) (fun t k => XS.iushr X0.here hx rfl (hb hby d5_71) rfl k) ?_
            refine Wk.go (A' := s₁.setTop (mkF m 73 #[iv ((ix.toUInt32 >>> ((2 : Int32) &&& 31).toUInt32).toInt32), iv (29 : Int32)] [])) (fun t k => XS.istoreN X0.here hx rfl (hb hby d5_72) rfl (l' := #[iv ((ix.toUInt32 >>> ((2 : Int32) &&& 31).toUInt32).toInt32), iv (29 : Int32)]) rfl k) ?_
            refine Wk.go (A' := s₁.setTop (mkF m 74 #[iv ((ix.toUInt32 >>> ((2 : Int32) &&& 31).toUInt32).toInt32), iv (29 : Int32)] [(.int (29 : Int32))])) (fun t k => XS.iloadN X0.here hx rfl (hb hby d5_73) rfl k) ?_
            refine Wk.go (A' := s₁.setTop (mkF m 75 #[iv ((ix.toUInt32 >>> ((2 : Int32) &&& 31).toUInt32).toInt32), iv (29 : Int32)] [(.int ((ix.toUInt32 >>> ((2 : Int32) &&& 31).toUInt32).toInt32)), (.int (29 : Int32))])) (fun t k => XS.iloadN X0.here hx rfl (hb hby d5_74) rfl k) ?_
            refine Wk.go (A' := s₁.setTop (mkF m 76 #[iv ((ix.toUInt32 >>> ((2 : Int32) &&& 31).toUInt32).toInt32), iv (29 : Int32)] [(.int (1 : Int32)), (.int ((ix.toUInt32 >>> ((2 : Int32) &&& 31).toUInt32).toInt32)), (.int (29 : Int32))])) (fun t k => XS.iconst X0.here hx rfl (hb hby d5_75) k) ?_
            refine Wk.go (A' := s₁.setTop (mkF m 77 #[iv ((ix.toUInt32 >>> ((2 : Int32) &&& 31).toUInt32).toInt32), iv (29 : Int32)] [(.int ((((ix.toUInt32 >>> ((2 : Int32) &&& 31).toUInt32).toInt32).toUInt32 >>> ((1 : Int32) &&& 31).toUInt32).toInt32)), (.int (29 : Int32))])) (fun t k => XS.iushr X0.here hx rfl (hb hby d5_76) rfl k) ?_
            refine Wk.go (A' := s₁.setTop (mkF m 78 #[iv ((ix.toUInt32 >>> ((2 : Int32) &&& 31).toUInt32).toInt32), iv (29 : Int32)] [(.int ((29 : Int32) - ((((ix.toUInt32 >>> ((2 : Int32) &&& 31).toUInt32).toInt32).toUInt32 >>> ((1 : Int32) &&& 31).toUInt32).toInt32)))])) (fun t k => XS.isub X0.here hx rfl (hb hby d5_77) rfl k) ?_
            refine own_fin (Qv := Q5 Z ix h0 n0) (v := some (.int ((29 : Int32) - ((((ix.toUInt32 >>> ((2 : Int32) &&& 31).toUInt32).toInt32).toUInt32 >>> ((1 : Int32) &&& 31).toUInt32).toInt32)))) X0 hlk (fun h => by rw [Bd.returns] at h; cases h) (fun fs hr => retI X0 hx Bd.returns (hb hby d5_78) hr) ?_ (by decide) (by decide)
            refine ⟨?_, N0, e0⟩
            simp only [f_nlzi, if_pos hc1, if_pos hc22, if_pos hc37, if_pos hc51, if_neg hc63]
        · refine Wk.go (A' := s₁.setTop (mkF m 54 #[iv ix, iv (31 : Int32)] [])) (fun t k => XS.icmpNo X0.here hx rfl (hb hby d5_51) rfl (flt hc51).1 k) ?_
          refine Wk.go (A' := s₁.setTop (mkF m 57 #[iv ix, iv (27 : Int32)] [])) (fun t k => XS.iinc X0.here hx rfl (hb hby d5_54) rfl (l' := #[iv ix, iv (27 : Int32)]) rfl k) ?_
          refine Wk.go (A' := s₁.setTop (mkF m 58 #[iv ix, iv (27 : Int32)] [(.int ix)])) (fun t k => XS.iloadN X0.here hx rfl (hb hby d5_57) rfl k) ?_
          refine Wk.go (A' := s₁.setTop (mkF m 59 #[iv ix, iv (27 : Int32)] [(.int (4 : Int32)), (.int ix)])) (fun t k => XS.iconst X0.here hx rfl (hb hby d5_58) k) ?_
          refine Wk.go (A' := s₁.setTop (mkF m 60 #[iv ix, iv (27 : Int32)] [(.int ((ix.toUInt32 >>> ((4 : Int32) &&& 31).toUInt32).toInt32))])) (fun t k => XS.iushr X0.here hx rfl (hb hby d5_59) rfl k) ?_
          refine Wk.go (A' := s₁.setTop (mkF m 61 #[iv ((ix.toUInt32 >>> ((4 : Int32) &&& 31).toUInt32).toInt32), iv (27 : Int32)] [])) (fun t k => XS.istoreN X0.here hx rfl (hb hby d5_60) rfl (l' := #[iv ((ix.toUInt32 >>> ((4 : Int32) &&& 31).toUInt32).toInt32), iv (27 : Int32)]) rfl k) ?_
          refine Wk.go (A' := s₁.setTop (mkF m 62 #[iv ((ix.toUInt32 >>> ((4 : Int32) &&& 31).toUInt32).toInt32), iv (27 : Int32)] [(.int ((ix.toUInt32 >>> ((4 : Int32) &&& 31).toUInt32).toInt32))])) (fun t k => XS.iloadN X0.here hx rfl (hb hby d5_61) rfl k) ?_
          refine Wk.go (A' := s₁.setTop (mkF m 63 #[iv ((ix.toUInt32 >>> ((4 : Int32) &&& 31).toUInt32).toInt32), iv (27 : Int32)] [(.int (4 : Int32)), (.int ((ix.toUInt32 >>> ((4 : Int32) &&& 31).toUInt32).toInt32))])) (fun t k => XS.iconst X0.here hx rfl (hb hby d5_62) k) ?_
          by_cases hc63 : ((ix.toUInt32 >>> ((4 : Int32) &&& 31).toUInt32).toInt32) < (4 : Int32)
          · refine Wk.go (A' := s₁.setTop (mkF m 73 #[iv ((ix.toUInt32 >>> ((4 : Int32) &&& 31).toUInt32).toInt32), iv (27 : Int32)] [])) (fun t k => XS.icmpYes X0.here hx rfl (pc0 := 63) (pc' := 73) rfl (hb hby d5_63) rfl (tlt hc63).1 (by decide) (by decide) k) ?_
            refine Wk.go (A' := s₁.setTop (mkF m 74 #[iv ((ix.toUInt32 >>> ((4 : Int32) &&& 31).toUInt32).toInt32), iv (27 : Int32)] [(.int (27 : Int32))])) (fun t k => XS.iloadN X0.here hx rfl (hb hby d5_73) rfl k) ?_
            refine Wk.go (A' := s₁.setTop (mkF m 75 #[iv ((ix.toUInt32 >>> ((4 : Int32) &&& 31).toUInt32).toInt32), iv (27 : Int32)] [(.int ((ix.toUInt32 >>> ((4 : Int32) &&& 31).toUInt32).toInt32)), (.int (27 : Int32))])) (fun t k => XS.iloadN X0.here hx rfl (hb hby d5_74) rfl k) ?_
            refine Wk.go (A' := s₁.setTop (mkF m 76 #[iv ((ix.toUInt32 >>> ((4 : Int32) &&& 31).toUInt32).toInt32), iv (27 : Int32)] [(.int (1 : Int32)), (.int ((ix.toUInt32 >>> ((4 : Int32) &&& 31).toUInt32).toInt32)), (.int (27 : Int32))])) (fun t k => XS.iconst X0.here hx rfl (hb hby d5_75) k) ?_
            refine Wk.go (A' := s₁.setTop (mkF m 77 #[iv ((ix.toUInt32 >>> ((4 : Int32) &&& 31).toUInt32).toInt32), iv (27 : Int32)] [(.int ((((ix.toUInt32 >>> ((4 : Int32) &&& 31).toUInt32).toInt32).toUInt32 >>> ((1 : Int32) &&& 31).toUInt32).toInt32)), (.int (27 : Int32))])) (fun t k => XS.iushr X0.here hx rfl (hb hby d5_76) rfl k) ?_
            refine Wk.go (A' := s₁.setTop (mkF m 78 #[iv ((ix.toUInt32 >>> ((4 : Int32) &&& 31).toUInt32).toInt32), iv (27 : Int32)] [(.int ((27 : Int32) - ((((ix.toUInt32 >>> ((4 : Int32) &&& 31).toUInt32).toInt32).toUInt32 >>> ((1 : Int32) &&& 31).toUInt32).toInt32)))])) (fun t k => XS.isub X0.here hx rfl (hb hby d5_77) rfl k) ?_
            refine own_fin (Qv := Q5 Z ix h0 n0) (v := some (.int ((27 : Int32) - ((((ix.toUInt32 >>> ((4 : Int32) &&& 31).toUInt32).toInt32).toUInt32 >>> ((1 : Int32) &&& 31).toUInt32).toInt32)))) X0 hlk (fun h => by rw [Bd.returns] at h; cases h) (fun fs hr => retI X0 hx Bd.returns (hb hby d5_78) hr) ?_ (by decide) (by decide)
            refine ⟨?_, N0, e0⟩
            simp only [f_nlzi, if_pos hc1, if_pos hc22, if_pos hc37, if_neg hc51, if_pos hc63]
          · refine Wk.go (A' := s₁.setTop (mkF m 66 #[iv ((ix.toUInt32 >>> ((4 : Int32) &&& 31).toUInt32).toInt32), iv (27 : Int32)] [])) (fun t k => XS.icmpNo X0.here hx rfl (hb hby d5_63) rfl (flt hc63).1 k) ?_
            refine Wk.go (A' := s₁.setTop (mkF m 69 #[iv ((ix.toUInt32 >>> ((4 : Int32) &&& 31).toUInt32).toInt32), iv (25 : Int32)] [])) (fun t k => XS.iinc X0.here hx rfl (hb hby d5_66) rfl (l' := #[iv ((ix.toUInt32 >>> ((4 : Int32) &&& 31).toUInt32).toInt32), iv (25 : Int32)]) rfl k) ?_
            refine Wk.go (A' := s₁.setTop (mkF m 70 #[iv ((ix.toUInt32 >>> ((4 : Int32) &&& 31).toUInt32).toInt32), iv (25 : Int32)] [(.int ((ix.toUInt32 >>> ((4 : Int32) &&& 31).toUInt32).toInt32))])) (fun t k => XS.iloadN X0.here hx rfl (hb hby d5_69) rfl k) ?_
            refine Wk.go (A' := s₁.setTop (mkF m 71 #[iv ((ix.toUInt32 >>> ((4 : Int32) &&& 31).toUInt32).toInt32), iv (25 : Int32)] [(.int (2 : Int32)), (.int ((ix.toUInt32 >>> ((4 : Int32) &&& 31).toUInt32).toInt32))])) (fun t k => XS.iconst X0.here hx rfl (hb hby d5_70) k) ?_
            refine Wk.go (A' := s₁.setTop (mkF m 72 #[iv ((ix.toUInt32 >>> ((4 : Int32) &&& 31).toUInt32).toInt32), iv (25 : Int32)] [(.int ((((ix.toUInt32 >>> ((4 : Int32) &&& 31).toUInt32).toInt32).toUInt32 >>> ((2 : Int32) &&& 31).toUInt32).toInt32))])) (fun t k => XS.iushr X0.here hx rfl (hb hby d5_71) rfl k) ?_
            refine Wk.go (A' := s₁.setTop (mkF m 73 #[iv ((((ix.toUInt32 >>> ((4 : Int32) &&& 31).toUInt32).toInt32).toUInt32 >>> ((2 : Int32) &&& 31).toUInt32).toInt32), iv (25 : Int32)] [])) (fun t k => XS.istoreN X0.here hx rfl (hb hby d5_72) rfl (l' := #[iv ((((ix.toUInt32 >>> ((4 : Int32) &&& 31).toUInt32).toInt32).toUInt32 >>> ((2 : Int32) &&& 31).toUInt32).toInt32), iv (25 : Int32)]) rfl k) ?_
            refine Wk.go (A' := s₁.setTop (mkF m 74 #[iv ((((ix.toUInt32 >>> ((4 : Int32) &&& 31).toUInt32).toInt32).toUInt32 >>> ((2 : Int32) &&& 31).toUInt32).toInt32), iv (25 : Int32)] [(.int (25 : Int32))])) (fun t k => XS.iloadN X0.here hx rfl (hb hby d5_73) rfl k) ?_
            refine Wk.go (A' := s₁.setTop (mkF m 75 #[iv ((((ix.toUInt32 >>> ((4 : Int32) &&& 31).toUInt32).toInt32).toUInt32 >>> ((2 : Int32) &&& 31).toUInt32).toInt32), iv (25 : Int32)] [(.int ((((ix.toUInt32 >>> ((4 : Int32) &&& 31).toUInt32).toInt32).toUInt32 >>> ((2 : Int32) &&& 31).toUInt32).toInt32)), (.int (25 : Int32))])) (fun t k => XS.iloadN X0.here hx rfl (hb hby d5_74) rfl k) ?_
            refine Wk.go (A' := s₁.setTop (mkF m 76 #[iv ((((ix.toUInt32 >>> ((4 : Int32) &&& 31).toUInt32).toInt32).toUInt32 >>> ((2 : Int32) &&& 31).toUInt32).toInt32), iv (25 : Int32)] [(.int (1 : Int32)), (.int ((((ix.toUInt32 >>> ((4 : Int32) &&& 31).toUInt32).toInt32).toUInt32 >>> ((2 : Int32) &&& 31).toUInt32).toInt32)), (.int (25 : Int32))])) (fun t k => XS.iconst X0.here hx rfl (hb hby d5_75) k) ?_
            refine Wk.go (A' := s₁.setTop (mkF m 77 #[iv ((((ix.toUInt32 >>> ((4 : Int32) &&& 31).toUInt32).toInt32).toUInt32 >>> ((2 : Int32) &&& 31).toUInt32).toInt32), iv (25 : Int32)] [(.int ((((((ix.toUInt32 >>> ((4 : Int32) &&& 31).toUInt32).toInt32).toUInt32 >>> ((2 : Int32) &&& 31).toUInt32).toInt32).toUInt32 >>> ((1 : Int32) &&& 31).toUInt32).toInt32)), (.int (25 : Int32))])) (fun t k => XS.iushr X0.here hx rfl (hb hby d5_76) rfl k) ?_
            refine Wk.go (A' := s₁.setTop (mkF m 78 #[iv ((((ix.toUInt32 >>> ((4 : Int32) &&& 31).toUInt32).toInt32).toUInt32 >>> ((2 : Int32) &&& 31).toUInt32).toInt32), iv (25 : Int32)] [(.int ((25 : Int32) - ((((((ix.toUInt32 >>> ((4 : Int32) &&& 31).toUInt32).toInt32).toUInt32 >>> ((2 : Int32) &&& 31).toUInt32).toInt32).toUInt32 >>> ((1 : Int32) &&& 31).toUInt32).toInt32)))])) (fun t k => XS.isub X0.here hx rfl (hb hby d5_77) rfl k) ?_
            refine own_fin (Qv := Q5 Z ix h0 n0) (v := some (.int ((25 : Int32) - ((((((ix.toUInt32 >>> ((4 : Int32) &&& 31).toUInt32).toInt32).toUInt32 >>> ((2 : Int32) &&& 31).toUInt32).toInt32).toUInt32 >>> ((1 : Int32) &&& 31).toUInt32).toInt32)))) X0 hlk (fun h => by rw [Bd.returns] at h; cases h) (fun fs hr => retI X0 hx Bd.returns (hb hby d5_78) hr) ?_ (by decide) (by decide)
            refine ⟨?_, N0, e0⟩
            simp only [f_nlzi, if_pos hc1, if_pos hc22, if_pos hc37, if_neg hc51, if_neg hc63]
      · refine Wk.go (A' := s₁.setTop (mkF m 40 #[iv ix, iv (31 : Int32)] [])) (fun t k => XS.icmpNo X0.here hx rfl (hb hby d5_37) rfl (flt hc37).1 k) ?_
        refine Wk.go (A' := s₁.setTop (mkF m 43 #[iv ix, iv (23 : Int32)] [])) (fun t k => XS.iinc X0.here hx rfl (hb hby d5_40) rfl (l' := #[iv ix, iv (23 : Int32)]) rfl k) ?_
        refine Wk.go (A' := s₁.setTop (mkF m 44 #[iv ix, iv (23 : Int32)] [(.int ix)])) (fun t k => XS.iloadN X0.here hx rfl (hb hby d5_43) rfl k) ?_
        refine Wk.go (A' := s₁.setTop (mkF m 46 #[iv ix, iv (23 : Int32)] [(.int (8 : Int32)), (.int ix)])) (fun t k => XS.bipush X0.here hx rfl (hb hby d5_44) k) ?_
        refine Wk.go (A' := s₁.setTop (mkF m 47 #[iv ix, iv (23 : Int32)] [(.int ((ix.toUInt32 >>> ((8 : Int32) &&& 31).toUInt32).toInt32))])) (fun t k => XS.iushr X0.here hx rfl (hb hby d5_46) rfl k) ?_
        refine Wk.go (A' := s₁.setTop (mkF m 48 #[iv ((ix.toUInt32 >>> ((8 : Int32) &&& 31).toUInt32).toInt32), iv (23 : Int32)] [])) (fun t k => XS.istoreN X0.here hx rfl (hb hby d5_47) rfl (l' := #[iv ((ix.toUInt32 >>> ((8 : Int32) &&& 31).toUInt32).toInt32), iv (23 : Int32)]) rfl k) ?_
        refine Wk.go (A' := s₁.setTop (mkF m 49 #[iv ((ix.toUInt32 >>> ((8 : Int32) &&& 31).toUInt32).toInt32), iv (23 : Int32)] [(.int ((ix.toUInt32 >>> ((8 : Int32) &&& 31).toUInt32).toInt32))])) (fun t k => XS.iloadN X0.here hx rfl (hb hby d5_48) rfl k) ?_
        refine Wk.go (A' := s₁.setTop (mkF m 51 #[iv ((ix.toUInt32 >>> ((8 : Int32) &&& 31).toUInt32).toInt32), iv (23 : Int32)] [(.int (16 : Int32)), (.int ((ix.toUInt32 >>> ((8 : Int32) &&& 31).toUInt32).toInt32))])) (fun t k => XS.bipush X0.here hx rfl (hb hby d5_49) k) ?_
        by_cases hc51 : ((ix.toUInt32 >>> ((8 : Int32) &&& 31).toUInt32).toInt32) < (16 : Int32)
        · refine Wk.go (A' := s₁.setTop (mkF m 61 #[iv ((ix.toUInt32 >>> ((8 : Int32) &&& 31).toUInt32).toInt32), iv (23 : Int32)] [])) (fun t k => XS.icmpYes X0.here hx rfl (pc0 := 51) (pc' := 61) rfl (hb hby d5_51) rfl (tlt hc51).1 (by decide) (by decide) k) ?_
          refine Wk.go (A' := s₁.setTop (mkF m 62 #[iv ((ix.toUInt32 >>> ((8 : Int32) &&& 31).toUInt32).toInt32), iv (23 : Int32)] [(.int ((ix.toUInt32 >>> ((8 : Int32) &&& 31).toUInt32).toInt32))])) (fun t k => XS.iloadN X0.here hx rfl (hb hby d5_61) rfl k) ?_
          refine Wk.go (A' := s₁.setTop (mkF m 63 #[iv ((ix.toUInt32 >>> ((8 : Int32) &&& 31).toUInt32).toInt32), iv (23 : Int32)] [(.int (4 : Int32)), (.int ((ix.toUInt32 >>> ((8 : Int32) &&& 31).toUInt32).toInt32))])) (fun t k => XS.iconst X0.here hx rfl (hb hby d5_62) k) ?_
          by_cases hc63 : ((ix.toUInt32 >>> ((8 : Int32) &&& 31).toUInt32).toInt32) < (4 : Int32)
          · refine Wk.go (A' := s₁.setTop (mkF m 73 #[iv ((ix.toUInt32 >>> ((8 : Int32) &&& 31).toUInt32).toInt32), iv (23 : Int32)] [])) (fun t k => XS.icmpYes X0.here hx rfl (pc0 := 63) (pc' := 73) rfl (hb hby d5_63) rfl (tlt hc63).1 (by decide) (by decide) k) ?_
            refine Wk.go (A' := s₁.setTop (mkF m 74 #[iv ((ix.toUInt32 >>> ((8 : Int32) &&& 31).toUInt32).toInt32), iv (23 : Int32)] [(.int (23 : Int32))])) (fun t k => XS.iloadN X0.here hx rfl (hb hby d5_73) rfl k) ?_
            refine Wk.go (A' := s₁.setTop (mkF m 75 #[iv ((ix.toUInt32 >>> ((8 : Int32) &&& 31).toUInt32).toInt32), iv (23 : Int32)] [(.int ((ix.toUInt32 >>> ((8 : Int32) &&& 31).toUInt32).toInt32)), (.int (23 : Int32))])) (fun t k => XS.iloadN X0.here hx rfl (hb hby d5_74) rfl k) ?_
            refine Wk.go (A' := s₁.setTop (mkF m 76 #[iv ((ix.toUInt32 >>> ((8 : Int32) &&& 31).toUInt32).toInt32), iv (23 : Int32)] [(.int (1 : Int32)), (.int ((ix.toUInt32 >>> ((8 : Int32) &&& 31).toUInt32).toInt32)), (.int (23 : Int32))])) (fun t k => XS.iconst X0.here hx rfl (hb hby d5_75) k) ?_
            refine Wk.go (A' := s₁.setTop (mkF m 77 #[iv ((ix.toUInt32 >>> ((8 : Int32) &&& 31).toUInt32).toInt32), iv (23 : Int32)] [(.int ((((ix.toUInt32 >>> ((8 : Int32) &&& 31).toUInt32).toInt32).toUInt32 >>> ((1 : Int32) &&& 31).toUInt32).toInt32)), (.int (23 : Int32))])) (fun t k => XS.iushr X0.here hx rfl (hb hby d5_76) rfl k) ?_
            refine Wk.go (A' := s₁.setTop (mkF m 78 #[iv ((ix.toUInt32 >>> ((8 : Int32) &&& 31).toUInt32).toInt32), iv (23 : Int32)] [(.int ((23 : Int32) - ((((ix.toUInt32 >>> ((8 : Int32) &&& 31).toUInt32).toInt32).toUInt32 >>> ((1 : Int32) &&& 31).toUInt32).toInt32)))])) (fun t k => XS.isub X0.here hx rfl (hb hby d5_77) rfl k) ?_
            refine own_fin (Qv := Q5 Z ix h0 n0) (v := some (.int ((23 : Int32) - ((((ix.toUInt32 >>> ((8 : Int32) &&& 31).toUInt32).toInt32).toUInt32 >>> ((1 : Int32) &&& 31).toUInt32).toInt32)))) X0 hlk (fun h => by rw [Bd.returns] at h; cases h) (fun fs hr => retI X0 hx Bd.returns (hb hby d5_78) hr) ?_ (by decide) (by decide)
            refine ⟨?_, N0, e0⟩
            simp only [f_nlzi, if_pos hc1, if_pos hc22, if_neg hc37, if_pos hc51, if_pos hc63]
          · refine Wk.go (A' := s₁.setTop (mkF m 66 #[iv ((ix.toUInt32 >>> ((8 : Int32) &&& 31).toUInt32).toInt32), iv (23 : Int32)] [])) (fun t k => XS.icmpNo X0.here hx rfl (hb hby d5_63) rfl (flt hc63).1 k) ?_
            refine Wk.go (A' := s₁.setTop (mkF m 69 #[iv ((ix.toUInt32 >>> ((8 : Int32) &&& 31).toUInt32).toInt32), iv (21 : Int32)] [])) (fun t k => XS.iinc X0.here hx rfl (hb hby d5_66) rfl (l' := #[iv ((ix.toUInt32 >>> ((8 : Int32) &&& 31).toUInt32).toInt32), iv (21 : Int32)]) rfl k) ?_
            refine Wk.go (A' := s₁.setTop (mkF m 70 #[iv ((ix.toUInt32 >>> ((8 : Int32) &&& 31).toUInt32).toInt32), iv (21 : Int32)] [(.int ((ix.toUInt32 >>> ((8 : Int32) &&& 31).toUInt32).toInt32))])) (fun t k => XS.iloadN X0.here hx rfl (hb hby d5_69) rfl k) ?_
            refine Wk.go (A' := s₁.setTop (mkF m 71 #[iv ((ix.toUInt32 >>> ((8 : Int32) &&& 31).toUInt32).toInt32), iv (21 : Int32)] [(.int (2 : Int32)), (.int ((ix.toUInt32 >>> ((8 : Int32) &&& 31).toUInt32).toInt32))])) (fun t k => XS.iconst X0.here hx rfl (hb hby d5_70) k) ?_
            refine Wk.go (A' := s₁.setTop (mkF m 72 #[iv ((ix.toUInt32 >>> ((8 : Int32) &&& 31).toUInt32).toInt32), iv (21 : Int32)] [(.int ((((ix.toUInt32 >>> ((8 : Int32) &&& 31).toUInt32).toInt32).toUInt32 >>> ((2 : Int32) &&& 31).toUInt32).toInt32))])) (fun t k => XS.iushr X0.here hx rfl (hb hby d5_71) rfl k) ?_
            refine Wk.go (A' := s₁.setTop (mkF m 73 #[iv ((((ix.toUInt32 >>> ((8 : Int32) &&& 31).toUInt32).toInt32).toUInt32 >>> ((2 : Int32) &&& 31).toUInt32).toInt32), iv (21 : Int32)] [])) (fun t k => XS.istoreN X0.here hx rfl (hb hby d5_72) rfl (l' := #[iv ((((ix.toUInt32 >>> ((8 : Int32) &&& 31).toUInt32).toInt32).toUInt32 >>> ((2 : Int32) &&& 31).toUInt32).toInt32), iv (21 : Int32)]) rfl k) ?_
            refine Wk.go (A' := s₁.setTop (mkF m 74 #[iv ((((ix.toUInt32 >>> ((8 : Int32) &&& 31).toUInt32).toInt32).toUInt32 >>> ((2 : Int32) &&& 31).toUInt32).toInt32), iv (21 : Int32)] [(.int (21 : Int32))])) (fun t k => XS.iloadN X0.here hx rfl (hb hby d5_73) rfl k) ?_
            refine Wk.go (A' := s₁.setTop (mkF m 75 #[iv ((((ix.toUInt32 >>> ((8 : Int32) &&& 31).toUInt32).toInt32).toUInt32 >>> ((2 : Int32) &&& 31).toUInt32).toInt32), iv (21 : Int32)] [(.int ((((ix.toUInt32 >>> ((8 : Int32) &&& 31).toUInt32).toInt32).toUInt32 >>> ((2 : Int32) &&& 31).toUInt32).toInt32)), (.int (21 : Int32))])) (fun t k => XS.iloadN X0.here hx rfl (hb hby d5_74) rfl k) ?_
            refine Wk.go (A' := s₁.setTop (mkF m 76 #[iv ((((ix.toUInt32 >>> ((8 : Int32) &&& 31).toUInt32).toInt32).toUInt32 >>> ((2 : Int32) &&& 31).toUInt32).toInt32), iv (21 : Int32)] [(.int (1 : Int32)), (.int ((((ix.toUInt32 >>> ((8 : Int32) &&& 31).toUInt32).toInt32).toUInt32 >>> ((2 : Int32) &&& 31).toUInt32).toInt32)), (.int (21 : Int32))])) (fun t k => XS.iconst X0.here hx rfl (hb hby d5_75) k) ?_
            refine Wk.go (A' := s₁.setTop (mkF m 77 #[iv ((((ix.toUInt32 >>> ((8 : Int32) &&& 31).toUInt32).toInt32).toUInt32 >>> ((2 : Int32) &&& 31).toUInt32).toInt32), iv (21 : Int32)] [(.int ((((((ix.toUInt32 >>> ((8 : Int32) &&& 31).toUInt32).toInt32).toUInt32 >>> ((2 : Int32) &&& 31).toUInt32).toInt32).toUInt32 >>> ((1 : Int32) &&& 31).toUInt32).toInt32)), (.int (21 : Int32))])) (fun t k => XS.iushr X0.here hx rfl (hb hby d5_76) rfl k) ?_
            refine Wk.go (A' := s₁.setTop (mkF m 78 #[iv ((((ix.toUInt32 >>> ((8 : Int32) &&& 31).toUInt32).toInt32).toUInt32 >>> ((2 : Int32) &&& 31).toUInt32).toInt32), iv (21 : Int32)] [(.int ((21 : Int32) - ((((((ix.toUInt32 >>> ((8 : Int32) &&& 31).toUInt32).toInt32).toUInt32 >>> ((2 : Int32) &&& 31).toUInt32).toInt32).toUInt32 >>> ((1 : Int32) &&& 31).toUInt32).toInt32)))])) (fun t k => XS.isub X0.here hx rfl (hb hby d5_77) rfl k) ?_
            refine own_fin (Qv := Q5 Z ix h0 n0) (v := some (.int ((21 : Int32) - ((((((ix.toUInt32 >>> ((8 : Int32) &&& 31).toUInt32).toInt32).toUInt32 >>> ((2 : Int32) &&& 31).toUInt32).toInt32).toUInt32 >>> ((1 : Int32) &&& 31).toUInt32).toInt32)))) X0 hlk (fun h => by rw [Bd.returns] at h; cases h) (fun fs hr => retI X0 hx Bd.returns (hb hby d5_78) hr) ?_ (by decide) (by decide)
            refine ⟨?_, N0, e0⟩
            simp only [f_nlzi, if_pos hc1, if_pos hc22, if_neg hc37, if_pos hc51, if_neg hc63]
        · refine Wk.go (A' := s₁.setTop (mkF m 54 #[iv ((ix.toUInt32 >>> ((8 : Int32) &&& 31).toUInt32).toInt32), iv (23 : Int32)] [])) (fun t k => XS.icmpNo X0.here hx rfl (hb hby d5_51) rfl (flt hc51).1 k) ?_
          refine Wk.go (A' := s₁.setTop (mkF m 57 #[iv ((ix.toUInt32 >>> ((8 : Int32) &&& 31).toUInt32).toInt32), iv (19 : Int32)] [])) (fun t k => XS.iinc X0.here hx rfl (hb hby d5_54) rfl (l' := #[iv ((ix.toUInt32 >>> ((8 : Int32) &&& 31).toUInt32).toInt32), iv (19 : Int32)]) rfl k) ?_
          refine Wk.go (A' := s₁.setTop (mkF m 58 #[iv ((ix.toUInt32 >>> ((8 : Int32) &&& 31).toUInt32).toInt32), iv (19 : Int32)] [(.int ((ix.toUInt32 >>> ((8 : Int32) &&& 31).toUInt32).toInt32))])) (fun t k => XS.iloadN X0.here hx rfl (hb hby d5_57) rfl k) ?_
          refine Wk.go (A' := s₁.setTop (mkF m 59 #[iv ((ix.toUInt32 >>> ((8 : Int32) &&& 31).toUInt32).toInt32), iv (19 : Int32)] [(.int (4 : Int32)), (.int ((ix.toUInt32 >>> ((8 : Int32) &&& 31).toUInt32).toInt32))])) (fun t k => XS.iconst X0.here hx rfl (hb hby d5_58) k) ?_
          refine Wk.go (A' := s₁.setTop (mkF m 60 #[iv ((ix.toUInt32 >>> ((8 : Int32) &&& 31).toUInt32).toInt32), iv (19 : Int32)] [(.int ((((ix.toUInt32 >>> ((8 : Int32) &&& 31).toUInt32).toInt32).toUInt32 >>> ((4 : Int32) &&& 31).toUInt32).toInt32))])) (fun t k => XS.iushr X0.here hx rfl (hb hby d5_59) rfl k) ?_
          refine Wk.go (A' := s₁.setTop (mkF m 61 #[iv ((((ix.toUInt32 >>> ((8 : Int32) &&& 31).toUInt32).toInt32).toUInt32 >>> ((4 : Int32) &&& 31).toUInt32).toInt32), iv (19 : Int32)] [])) (fun t k => XS.istoreN X0.here hx rfl (hb hby d5_60) rfl (l' := #[iv ((((ix.toUInt32 >>> ((8 : Int32) &&& 31).toUInt32).toInt32).toUInt32 >>> ((4 : Int32) &&& 31).toUInt32).toInt32), iv (19 : Int32)]) rfl k) ?_
          refine Wk.go (A' := s₁.setTop (mkF m 62 #[iv ((((ix.toUInt32 >>> ((8 : Int32) &&& 31).toUInt32).toInt32).toUInt32 >>> ((4 : Int32) &&& 31).toUInt32).toInt32), iv (19 : Int32)] [(.int ((((ix.toUInt32 >>> ((8 : Int32) &&& 31).toUInt32).toInt32).toUInt32 >>> ((4 : Int32) &&& 31).toUInt32).toInt32))])) (fun t k => XS.iloadN X0.here hx rfl (hb hby d5_61) rfl k) ?_
          refine Wk.go (A' := s₁.setTop (mkF m 63 #[iv ((((ix.toUInt32 >>> ((8 : Int32) &&& 31).toUInt32).toInt32).toUInt32 >>> ((4 : Int32) &&& 31).toUInt32).toInt32), iv (19 : Int32)] [(.int (4 : Int32)), (.int ((((ix.toUInt32 >>> ((8 : Int32) &&& 31).toUInt32).toInt32).toUInt32 >>> ((4 : Int32) &&& 31).toUInt32).toInt32))])) (fun t k => XS.iconst X0.here hx rfl (hb hby d5_62) k) ?_
          by_cases hc63 : ((((ix.toUInt32 >>> ((8 : Int32) &&& 31).toUInt32).toInt32).toUInt32 >>> ((4 : Int32) &&& 31).toUInt32).toInt32) < (4 : Int32)
          · refine Wk.go (A' := s₁.setTop (mkF m 73 #[iv ((((ix.toUInt32 >>> ((8 : Int32) &&& 31).toUInt32).toInt32).toUInt32 >>> ((4 : Int32) &&& 31).toUInt32).toInt32), iv (19 : Int32)] [])) (fun t k => XS.icmpYes X0.here hx rfl (pc0 := 63) (pc' := 73) rfl (hb hby d5_63) rfl (tlt hc63).1 (by decide) (by decide) k) ?_
            refine Wk.go (A' := s₁.setTop (mkF m 74 #[iv ((((ix.toUInt32 >>> ((8 : Int32) &&& 31).toUInt32).toInt32).toUInt32 >>> ((4 : Int32) &&& 31).toUInt32).toInt32), iv (19 : Int32)] [(.int (19 : Int32))])) (fun t k => XS.iloadN X0.here hx rfl (hb hby d5_73) rfl k) ?_
            refine Wk.go (A' := s₁.setTop (mkF m 75 #[iv ((((ix.toUInt32 >>> ((8 : Int32) &&& 31).toUInt32).toInt32).toUInt32 >>> ((4 : Int32) &&& 31).toUInt32).toInt32), iv (19 : Int32)] [(.int ((((ix.toUInt32 >>> ((8 : Int32) &&& 31).toUInt32).toInt32).toUInt32 >>> ((4 : Int32) &&& 31).toUInt32).toInt32)), (.int (19 : Int32))])) (fun t k => XS.iloadN X0.here hx rfl (hb hby d5_74) rfl k) ?_
            refine Wk.go (A' := s₁.setTop (mkF m 76 #[iv ((((ix.toUInt32 >>> ((8 : Int32) &&& 31).toUInt32).toInt32).toUInt32 >>> ((4 : Int32) &&& 31).toUInt32).toInt32), iv (19 : Int32)] [(.int (1 : Int32)), (.int ((((ix.toUInt32 >>> ((8 : Int32) &&& 31).toUInt32).toInt32).toUInt32 >>> ((4 : Int32) &&& 31).toUInt32).toInt32)), (.int (19 : Int32))])) (fun t k => XS.iconst X0.here hx rfl (hb hby d5_75) k) ?_
            refine Wk.go (A' := s₁.setTop (mkF m 77 #[iv ((((ix.toUInt32 >>> ((8 : Int32) &&& 31).toUInt32).toInt32).toUInt32 >>> ((4 : Int32) &&& 31).toUInt32).toInt32), iv (19 : Int32)] [(.int ((((((ix.toUInt32 >>> ((8 : Int32) &&& 31).toUInt32).toInt32).toUInt32 >>> ((4 : Int32) &&& 31).toUInt32).toInt32).toUInt32 >>> ((1 : Int32) &&& 31).toUInt32).toInt32)), (.int (19 : Int32))])) (fun t k => XS.iushr X0.here hx rfl (hb hby d5_76) rfl k) ?_
            refine Wk.go (A' := s₁.setTop (mkF m 78 #[iv ((((ix.toUInt32 >>> ((8 : Int32) &&& 31).toUInt32).toInt32).toUInt32 >>> ((4 : Int32) &&& 31).toUInt32).toInt32), iv (19 : Int32)] [(.int ((19 : Int32) - ((((((ix.toUInt32 >>> ((8 : Int32) &&& 31).toUInt32).toInt32).toUInt32 >>> ((4 : Int32) &&& 31).toUInt32).toInt32).toUInt32 >>> ((1 : Int32) &&& 31).toUInt32).toInt32)))])) (fun t k => XS.isub X0.here hx rfl (hb hby d5_77) rfl k) ?_
            refine own_fin (Qv := Q5 Z ix h0 n0) (v := some (.int ((19 : Int32) - ((((((ix.toUInt32 >>> ((8 : Int32) &&& 31).toUInt32).toInt32).toUInt32 >>> ((4 : Int32) &&& 31).toUInt32).toInt32).toUInt32 >>> ((1 : Int32) &&& 31).toUInt32).toInt32)))) X0 hlk (fun h => by rw [Bd.returns] at h; cases h) (fun fs hr => retI X0 hx Bd.returns (hb hby d5_78) hr) ?_ (by decide) (by decide)
            refine ⟨?_, N0, e0⟩
            simp only [f_nlzi, if_pos hc1, if_pos hc22, if_neg hc37, if_neg hc51, if_pos hc63]
          · refine Wk.go (A' := s₁.setTop (mkF m 66 #[iv ((((ix.toUInt32 >>> ((8 : Int32) &&& 31).toUInt32).toInt32).toUInt32 >>> ((4 : Int32) &&& 31).toUInt32).toInt32), iv (19 : Int32)] [])) (fun t k => XS.icmpNo X0.here hx rfl (hb hby d5_63) rfl (flt hc63).1 k) ?_
            refine Wk.go (A' := s₁.setTop (mkF m 69 #[iv ((((ix.toUInt32 >>> ((8 : Int32) &&& 31).toUInt32).toInt32).toUInt32 >>> ((4 : Int32) &&& 31).toUInt32).toInt32), iv (17 : Int32)] [])) (fun t k => XS.iinc X0.here hx rfl (hb hby d5_66) rfl (l' := #[iv ((((ix.toUInt32 >>> ((8 : Int32) &&& 31).toUInt32).toInt32).toUInt32 >>> ((4 : Int32) &&& 31).toUInt32).toInt32), iv (17 : Int32)]) rfl k) ?_
            refine Wk.go (A' := s₁.setTop (mkF m 70 #[iv ((((ix.toUInt32 >>> ((8 : Int32) &&& 31).toUInt32).toInt32).toUInt32 >>> ((4 : Int32) &&& 31).toUInt32).toInt32), iv (17 : Int32)] [(.int ((((ix.toUInt32 >>> ((8 : Int32) &&& 31).toUInt32).toInt32).toUInt32 >>> ((4 : Int32) &&& 31).toUInt32).toInt32))])) (fun t k => XS.iloadN X0.here hx rfl (hb hby d5_69) rfl k) ?_
            refine Wk.go (A' := s₁.setTop (mkF m 71 #[iv ((((ix.toUInt32 >>> ((8 : Int32) &&& 31).toUInt32).toInt32).toUInt32 >>> ((4 : Int32) &&& 31).toUInt32).toInt32), iv (17 : Int32)] [(.int (2 : Int32)), (.int ((((ix.toUInt32 >>> ((8 : Int32) &&& 31).toUInt32).toInt32).toUInt32 >>> ((4 : Int32) &&& 31).toUInt32).toInt32))])) (fun t k => XS.iconst X0.here hx rfl (hb hby d5_70) k) ?_
            refine Wk.go (A' := s₁.setTop (mkF m 72 #[iv ((((ix.toUInt32 >>> ((8 : Int32) &&& 31).toUInt32).toInt32).toUInt32 >>> ((4 : Int32) &&& 31).toUInt32).toInt32), iv (17 : Int32)] [(.int ((((((ix.toUInt32 >>> ((8 : Int32) &&& 31).toUInt32).toInt32).toUInt32 >>> ((4 : Int32) &&& 31).toUInt32).toInt32).toUInt32 >>> ((2 : Int32) &&& 31).toUInt32).toInt32))])) (fun t k => XS.iushr X0.here hx rfl (hb hby d5_71) rfl k) ?_
            refine Wk.go (A' := s₁.setTop (mkF m 73 #[iv ((((((ix.toUInt32 >>> ((8 : Int32) &&& 31).toUInt32).toInt32).toUInt32 >>> ((4 : Int32) &&& 31).toUInt32).toInt32).toUInt32 >>> ((2 : Int32) &&& 31).toUInt32).toInt32), iv (17 : Int32)] [])) (fun t k => XS.istoreN X0.here hx rfl (hb hby d5_72) rfl (l' := #[iv ((((((ix.toUInt32 >>> ((8 : Int32) &&& 31).toUInt32).toInt32).toUInt32 >>> ((4 : Int32) &&& 31).toUInt32).toInt32).toUInt32 >>> ((2 : Int32) &&& 31).toUInt32).toInt32), iv (17 : Int32)]) rfl k) ?_
            refine Wk.go (A' := s₁.setTop (mkF m 74 #[iv ((((((ix.toUInt32 >>> ((8 : Int32) &&& 31).toUInt32).toInt32).toUInt32 >>> ((4 : Int32) &&& 31).toUInt32).toInt32).toUInt32 >>> ((2 : Int32) &&& 31).toUInt32).toInt32), iv (17 : Int32)] [(.int (17 : Int32))])) (fun t k => XS.iloadN X0.here hx rfl (hb hby d5_73) rfl k) ?_
            refine Wk.go (A' := s₁.setTop (mkF m 75 #[iv ((((((ix.toUInt32 >>> ((8 : Int32) &&& 31).toUInt32).toInt32).toUInt32 >>> ((4 : Int32) &&& 31).toUInt32).toInt32).toUInt32 >>> ((2 : Int32) &&& 31).toUInt32).toInt32), iv (17 : Int32)] [(.int ((((((ix.toUInt32 >>> ((8 : Int32) &&& 31).toUInt32).toInt32).toUInt32 >>> ((4 : Int32) &&& 31).toUInt32).toInt32).toUInt32 >>> ((2 : Int32) &&& 31).toUInt32).toInt32)), (.int (17 : Int32))])) (fun t k => XS.iloadN X0.here hx rfl (hb hby d5_74) rfl k) ?_
            refine Wk.go (A' := s₁.setTop (mkF m 76 #[iv ((((((ix.toUInt32 >>> ((8 : Int32) &&& 31).toUInt32).toInt32).toUInt32 >>> ((4 : Int32) &&& 31).toUInt32).toInt32).toUInt32 >>> ((2 : Int32) &&& 31).toUInt32).toInt32), iv (17 : Int32)] [(.int (1 : Int32)), (.int ((((((ix.toUInt32 >>> ((8 : Int32) &&& 31).toUInt32).toInt32).toUInt32 >>> ((4 : Int32) &&& 31).toUInt32).toInt32).toUInt32 >>> ((2 : Int32) &&& 31).toUInt32).toInt32)), (.int (17 : Int32))])) (fun t k => XS.iconst X0.here hx rfl (hb hby d5_75) k) ?_
            refine Wk.go (A' := s₁.setTop (mkF m 77 #[iv ((((((ix.toUInt32 >>> ((8 : Int32) &&& 31).toUInt32).toInt32).toUInt32 >>> ((4 : Int32) &&& 31).toUInt32).toInt32).toUInt32 >>> ((2 : Int32) &&& 31).toUInt32).toInt32), iv (17 : Int32)] [(.int ((((((((ix.toUInt32 >>> ((8 : Int32) &&& 31).toUInt32).toInt32).toUInt32 >>> ((4 : Int32) &&& 31).toUInt32).toInt32).toUInt32 >>> ((2 : Int32) &&& 31).toUInt32).toInt32).toUInt32 >>> ((1 : Int32) &&& 31).toUInt32).toInt32)), (.int (17 : Int32))])) (fun t k => XS.iushr X0.here hx rfl (hb hby d5_76) rfl k) ?_
            refine Wk.go (A' := s₁.setTop (mkF m 78 #[iv ((((((ix.toUInt32 >>> ((8 : Int32) &&& 31).toUInt32).toInt32).toUInt32 >>> ((4 : Int32) &&& 31).toUInt32).toInt32).toUInt32 >>> ((2 : Int32) &&& 31).toUInt32).toInt32), iv (17 : Int32)] [(.int ((17 : Int32) - ((((((((ix.toUInt32 >>> ((8 : Int32) &&& 31).toUInt32).toInt32).toUInt32 >>> ((4 : Int32) &&& 31).toUInt32).toInt32).toUInt32 >>> ((2 : Int32) &&& 31).toUInt32).toInt32).toUInt32 >>> ((1 : Int32) &&& 31).toUInt32).toInt32)))])) (fun t k => XS.isub X0.here hx rfl (hb hby d5_77) rfl k) ?_
            refine own_fin (Qv := Q5 Z ix h0 n0) (v := some (.int ((17 : Int32) - ((((((((ix.toUInt32 >>> ((8 : Int32) &&& 31).toUInt32).toInt32).toUInt32 >>> ((4 : Int32) &&& 31).toUInt32).toInt32).toUInt32 >>> ((2 : Int32) &&& 31).toUInt32).toInt32).toUInt32 >>> ((1 : Int32) &&& 31).toUInt32).toInt32)))) X0 hlk (fun h => by rw [Bd.returns] at h; cases h) (fun fs hr => retI X0 hx Bd.returns (hb hby d5_78) hr) ?_ (by decide) (by decide)
            refine ⟨?_, N0, e0⟩
            simp only [f_nlzi, if_pos hc1, if_pos hc22, if_neg hc37, if_neg hc51, if_neg hc63]
    · refine Wk.go (A' := s₁.setTop (mkF m 25 #[iv ix, iv (31 : Int32)] [])) (fun t k => XS.icmpNo X0.here hx rfl (hb hby d5_22) rfl (flt hc22).1 k) ?_
      refine Wk.go (A' := s₁.setTop (mkF m 28 #[iv ix, iv (15 : Int32)] [])) (fun t k => XS.iinc X0.here hx rfl (hb hby d5_25) rfl (l' := #[iv ix, iv (15 : Int32)]) rfl k) ?_
      refine Wk.go (A' := s₁.setTop (mkF m 29 #[iv ix, iv (15 : Int32)] [(.int ix)])) (fun t k => XS.iloadN X0.here hx rfl (hb hby d5_28) rfl k) ?_
      refine Wk.go (A' := s₁.setTop (mkF m 31 #[iv ix, iv (15 : Int32)] [(.int (16 : Int32)), (.int ix)])) (fun t k => XS.bipush X0.here hx rfl (hb hby d5_29) k) ?_
      refine Wk.go (A' := s₁.setTop (mkF m 32 #[iv ix, iv (15 : Int32)] [(.int ((ix.toUInt32 >>> ((16 : Int32) &&& 31).toUInt32).toInt32))])) (fun t k => XS.iushr X0.here hx rfl (hb hby d5_31) rfl k) ?_
      refine Wk.go (A' := s₁.setTop (mkF m 33 #[iv ((ix.toUInt32 >>> ((16 : Int32) &&& 31).toUInt32).toInt32), iv (15 : Int32)] [])) (fun t k => XS.istoreN X0.here hx rfl (hb hby d5_32) rfl (l' := #[iv ((ix.toUInt32 >>> ((16 : Int32) &&& 31).toUInt32).toInt32), iv (15 : Int32)]) rfl k) ?_
      refine Wk.go (A' := s₁.setTop (mkF m 34 #[iv ((ix.toUInt32 >>> ((16 : Int32) &&& 31).toUInt32).toInt32), iv (15 : Int32)] [(.int ((ix.toUInt32 >>> ((16 : Int32) &&& 31).toUInt32).toInt32))])) (fun t k => XS.iloadN X0.here hx rfl (hb hby d5_33) rfl k) ?_
      refine Wk.go (A' := s₁.setTop (mkF m 37 #[iv ((ix.toUInt32 >>> ((16 : Int32) &&& 31).toUInt32).toInt32), iv (15 : Int32)] [(.int (256 : Int32)), (.int ((ix.toUInt32 >>> ((16 : Int32) &&& 31).toUInt32).toInt32))])) (fun t k => XS.sipush X0.here hx rfl (hb hby d5_34) k) ?_
      by_cases hc37 : ((ix.toUInt32 >>> ((16 : Int32) &&& 31).toUInt32).toInt32) < (256 : Int32)
      · refine Wk.go (A' := s₁.setTop (mkF m 48 #[iv ((ix.toUInt32 >>> ((16 : Int32) &&& 31).toUInt32).toInt32), iv (15 : Int32)] [])) (fun t k => XS.icmpYes X0.here hx rfl (pc0 := 37) (pc' := 48) rfl (hb hby d5_37) rfl (tlt hc37).1 (by decide) (by decide) k) ?_
        refine Wk.go (A' := s₁.setTop (mkF m 49 #[iv ((ix.toUInt32 >>> ((16 : Int32) &&& 31).toUInt32).toInt32), iv (15 : Int32)] [(.int ((ix.toUInt32 >>> ((16 : Int32) &&& 31).toUInt32).toInt32))])) (fun t k => XS.iloadN X0.here hx rfl (hb hby d5_48) rfl k) ?_
        refine Wk.go (A' := s₁.setTop (mkF m 51 #[iv ((ix.toUInt32 >>> ((16 : Int32) &&& 31).toUInt32).toInt32), iv (15 : Int32)] [(.int (16 : Int32)), (.int ((ix.toUInt32 >>> ((16 : Int32) &&& 31).toUInt32).toInt32))])) (fun t k => XS.bipush X0.here hx rfl (hb hby d5_49) k) ?_
        by_cases hc51 : ((ix.toUInt32 >>> ((16 : Int32) &&& 31).toUInt32).toInt32) < (16 : Int32)
        · refine Wk.go (A' := s₁.setTop (mkF m 61 #[iv ((ix.toUInt32 >>> ((16 : Int32) &&& 31).toUInt32).toInt32), iv (15 : Int32)] [])) (fun t k => XS.icmpYes X0.here hx rfl (pc0 := 51) (pc' := 61) rfl (hb hby d5_51) rfl (tlt hc51).1 (by decide) (by decide) k) ?_
          refine Wk.go (A' := s₁.setTop (mkF m 62 #[iv ((ix.toUInt32 >>> ((16 : Int32) &&& 31).toUInt32).toInt32), iv (15 : Int32)] [(.int ((ix.toUInt32 >>> ((16 : Int32) &&& 31).toUInt32).toInt32))])) (fun t k => XS.iloadN X0.here hx rfl (hb hby d5_61) rfl k) ?_
          refine Wk.go (A' := s₁.setTop (mkF m 63 #[iv ((ix.toUInt32 >>> ((16 : Int32) &&& 31).toUInt32).toInt32), iv (15 : Int32)] [(.int (4 : Int32)), (.int ((ix.toUInt32 >>> ((16 : Int32) &&& 31).toUInt32).toInt32))])) (fun t k => XS.iconst X0.here hx rfl (hb hby d5_62) k) ?_
          by_cases hc63 : ((ix.toUInt32 >>> ((16 : Int32) &&& 31).toUInt32).toInt32) < (4 : Int32)
          · refine Wk.go (A' := s₁.setTop (mkF m 73 #[iv ((ix.toUInt32 >>> ((16 : Int32) &&& 31).toUInt32).toInt32), iv (15 : Int32)] [])) (fun t k => XS.icmpYes X0.here hx rfl (pc0 := 63) (pc' := 73) rfl (hb hby d5_63) rfl (tlt hc63).1 (by decide) (by decide) k) ?_
            refine Wk.go (A' := s₁.setTop (mkF m 74 #[iv ((ix.toUInt32 >>> ((16 : Int32) &&& 31).toUInt32).toInt32), iv (15 : Int32)] [(.int (15 : Int32))])) (fun t k => XS.iloadN X0.here hx rfl (hb hby d5_73) rfl k) ?_
            refine Wk.go (A' := s₁.setTop (mkF m 75 #[iv ((ix.toUInt32 >>> ((16 : Int32) &&& 31).toUInt32).toInt32), iv (15 : Int32)] [(.int ((ix.toUInt32 >>> ((16 : Int32) &&& 31).toUInt32).toInt32)), (.int (15 : Int32))])) (fun t k => XS.iloadN X0.here hx rfl (hb hby d5_74) rfl k) ?_
            refine Wk.go (A' := s₁.setTop (mkF m 76 #[iv ((ix.toUInt32 >>> ((16 : Int32) &&& 31).toUInt32).toInt32), iv (15 : Int32)] [(.int (1 : Int32)), (.int ((ix.toUInt32 >>> ((16 : Int32) &&& 31).toUInt32).toInt32)), (.int (15 : Int32))])) (fun t k => XS.iconst X0.here hx rfl (hb hby d5_75) k) ?_
            refine Wk.go (A' := s₁.setTop (mkF m 77 #[iv ((ix.toUInt32 >>> ((16 : Int32) &&& 31).toUInt32).toInt32), iv (15 : Int32)] [(.int ((((ix.toUInt32 >>> ((16 : Int32) &&& 31).toUInt32).toInt32).toUInt32 >>> ((1 : Int32) &&& 31).toUInt32).toInt32)), (.int (15 : Int32))])) (fun t k => XS.iushr X0.here hx rfl (hb hby d5_76) rfl k) ?_
            refine Wk.go (A' := s₁.setTop (mkF m 78 #[iv ((ix.toUInt32 >>> ((16 : Int32) &&& 31).toUInt32).toInt32), iv (15 : Int32)] [(.int ((15 : Int32) - ((((ix.toUInt32 >>> ((16 : Int32) &&& 31).toUInt32).toInt32).toUInt32 >>> ((1 : Int32) &&& 31).toUInt32).toInt32)))])) (fun t k => XS.isub X0.here hx rfl (hb hby d5_77) rfl k) ?_
            refine own_fin (Qv := Q5 Z ix h0 n0) (v := some (.int ((15 : Int32) - ((((ix.toUInt32 >>> ((16 : Int32) &&& 31).toUInt32).toInt32).toUInt32 >>> ((1 : Int32) &&& 31).toUInt32).toInt32)))) X0 hlk (fun h => by rw [Bd.returns] at h; cases h) (fun fs hr => retI X0 hx Bd.returns (hb hby d5_78) hr) ?_ (by decide) (by decide)
            refine ⟨?_, N0, e0⟩
            simp only [f_nlzi, if_pos hc1, if_neg hc22, if_pos hc37, if_pos hc51, if_pos hc63]
          · refine Wk.go (A' := s₁.setTop (mkF m 66 #[iv ((ix.toUInt32 >>> ((16 : Int32) &&& 31).toUInt32).toInt32), iv (15 : Int32)] [])) (fun t k => XS.icmpNo X0.here hx rfl (hb hby d5_63) rfl (flt hc63).1 k) ?_
            refine Wk.go (A' := s₁.setTop (mkF m 69 #[iv ((ix.toUInt32 >>> ((16 : Int32) &&& 31).toUInt32).toInt32), iv (13 : Int32)] [])) (fun t k => XS.iinc X0.here hx rfl (hb hby d5_66) rfl (l' := #[iv ((ix.toUInt32 >>> ((16 : Int32) &&& 31).toUInt32).toInt32), iv (13 : Int32)]) rfl k) ?_
            refine Wk.go (A' := s₁.setTop (mkF m 70 #[iv ((ix.toUInt32 >>> ((16 : Int32) &&& 31).toUInt32).toInt32), iv (13 : Int32)] [(.int ((ix.toUInt32 >>> ((16 : Int32) &&& 31).toUInt32).toInt32))])) (fun t k => XS.iloadN X0.here hx rfl (hb hby d5_69) rfl k) ?_
            refine Wk.go (A' := s₁.setTop (mkF m 71 #[iv ((ix.toUInt32 >>> ((16 : Int32) &&& 31).toUInt32).toInt32), iv (13 : Int32)] [(.int (2 : Int32)), (.int ((ix.toUInt32 >>> ((16 : Int32) &&& 31).toUInt32).toInt32))])) (fun t k => XS.iconst X0.here hx rfl (hb hby d5_70) k) ?_
            refine Wk.go (A' := s₁.setTop (mkF m 72 #[iv ((ix.toUInt32 >>> ((16 : Int32) &&& 31).toUInt32).toInt32), iv (13 : Int32)] [(.int ((((ix.toUInt32 >>> ((16 : Int32) &&& 31).toUInt32).toInt32).toUInt32 >>> ((2 : Int32) &&& 31).toUInt32).toInt32))])) (fun t k => XS.iushr X0.here hx rfl (hb hby d5_71) rfl k) ?_
            refine Wk.go (A' := s₁.setTop (mkF m 73 #[iv ((((ix.toUInt32 >>> ((16 : Int32) &&& 31).toUInt32).toInt32).toUInt32 >>> ((2 : Int32) &&& 31).toUInt32).toInt32), iv (13 : Int32)] [])) (fun t k => XS.istoreN X0.here hx rfl (hb hby d5_72) rfl (l' := #[iv ((((ix.toUInt32 >>> ((16 : Int32) &&& 31).toUInt32).toInt32).toUInt32 >>> ((2 : Int32) &&& 31).toUInt32).toInt32), iv (13 : Int32)]) rfl k) ?_
            refine Wk.go (A' := s₁.setTop (mkF m 74 #[iv ((((ix.toUInt32 >>> ((16 : Int32) &&& 31).toUInt32).toInt32).toUInt32 >>> ((2 : Int32) &&& 31).toUInt32).toInt32), iv (13 : Int32)] [(.int (13 : Int32))])) (fun t k => XS.iloadN X0.here hx rfl (hb hby d5_73) rfl k) ?_
            refine Wk.go (A' := s₁.setTop (mkF m 75 #[iv ((((ix.toUInt32 >>> ((16 : Int32) &&& 31).toUInt32).toInt32).toUInt32 >>> ((2 : Int32) &&& 31).toUInt32).toInt32), iv (13 : Int32)] [(.int ((((ix.toUInt32 >>> ((16 : Int32) &&& 31).toUInt32).toInt32).toUInt32 >>> ((2 : Int32) &&& 31).toUInt32).toInt32)), (.int (13 : Int32))])) (fun t k => XS.iloadN X0.here hx rfl (hb hby d5_74) rfl k) ?_
            refine Wk.go (A' := s₁.setTop (mkF m 76 #[iv ((((ix.toUInt32 >>> ((16 : Int32) &&& 31).toUInt32).toInt32).toUInt32 >>> ((2 : Int32) &&& 31).toUInt32).toInt32), iv (13 : Int32)] [(.int (1 : Int32)), (.int ((((ix.toUInt32 >>> ((16 : Int32) &&& 31).toUInt32).toInt32).toUInt32 >>> ((2 : Int32) &&& 31).toUInt32).toInt32)), (.int (13 : Int32))])) (fun t k => XS.iconst X0.here hx rfl (hb hby d5_75) k) ?_
            refine Wk.go (A' := s₁.setTop (mkF m 77 #[iv ((((ix.toUInt32 >>> ((16 : Int32) &&& 31).toUInt32).toInt32).toUInt32 >>> ((2 : Int32) &&& 31).toUInt32).toInt32), iv (13 : Int32)] [(.int ((((((ix.toUInt32 >>> ((16 : Int32) &&& 31).toUInt32).toInt32).toUInt32 >>> ((2 : Int32) &&& 31).toUInt32).toInt32).toUInt32 >>> ((1 : Int32) &&& 31).toUInt32).toInt32)), (.int (13 : Int32))])) (fun t k => XS.iushr X0.here hx rfl (hb hby d5_76) rfl k) ?_
            refine Wk.go (A' := s₁.setTop (mkF m 78 #[iv ((((ix.toUInt32 >>> ((16 : Int32) &&& 31).toUInt32).toInt32).toUInt32 >>> ((2 : Int32) &&& 31).toUInt32).toInt32), iv (13 : Int32)] [(.int ((13 : Int32) - ((((((ix.toUInt32 >>> ((16 : Int32) &&& 31).toUInt32).toInt32).toUInt32 >>> ((2 : Int32) &&& 31).toUInt32).toInt32).toUInt32 >>> ((1 : Int32) &&& 31).toUInt32).toInt32)))])) (fun t k => XS.isub X0.here hx rfl (hb hby d5_77) rfl k) ?_
            refine own_fin (Qv := Q5 Z ix h0 n0) (v := some (.int ((13 : Int32) - ((((((ix.toUInt32 >>> ((16 : Int32) &&& 31).toUInt32).toInt32).toUInt32 >>> ((2 : Int32) &&& 31).toUInt32).toInt32).toUInt32 >>> ((1 : Int32) &&& 31).toUInt32).toInt32)))) X0 hlk (fun h => by rw [Bd.returns] at h; cases h) (fun fs hr => retI X0 hx Bd.returns (hb hby d5_78) hr) ?_ (by decide) (by decide)
            refine ⟨?_, N0, e0⟩
            simp only [f_nlzi, if_pos hc1, if_neg hc22, if_pos hc37, if_pos hc51, if_neg hc63]
        · refine Wk.go (A' := s₁.setTop (mkF m 54 #[iv ((ix.toUInt32 >>> ((16 : Int32) &&& 31).toUInt32).toInt32), iv (15 : Int32)] [])) (fun t k => XS.icmpNo X0.here hx rfl (hb hby d5_51) rfl (flt hc51).1 k) ?_
          refine Wk.go (A' := s₁.setTop (mkF m 57 #[iv ((ix.toUInt32 >>> ((16 : Int32) &&& 31).toUInt32).toInt32), iv (11 : Int32)] [])) (fun t k => XS.iinc X0.here hx rfl (hb hby d5_54) rfl (l' := #[iv ((ix.toUInt32 >>> ((16 : Int32) &&& 31).toUInt32).toInt32), iv (11 : Int32)]) rfl k) ?_
          refine Wk.go (A' := s₁.setTop (mkF m 58 #[iv ((ix.toUInt32 >>> ((16 : Int32) &&& 31).toUInt32).toInt32), iv (11 : Int32)] [(.int ((ix.toUInt32 >>> ((16 : Int32) &&& 31).toUInt32).toInt32))])) (fun t k => XS.iloadN X0.here hx rfl (hb hby d5_57) rfl k) ?_
          refine Wk.go (A' := s₁.setTop (mkF m 59 #[iv ((ix.toUInt32 >>> ((16 : Int32) &&& 31).toUInt32).toInt32), iv (11 : Int32)] [(.int (4 : Int32)), (.int ((ix.toUInt32 >>> ((16 : Int32) &&& 31).toUInt32).toInt32))])) (fun t k => XS.iconst X0.here hx rfl (hb hby d5_58) k) ?_
          refine Wk.go (A' := s₁.setTop (mkF m 60 #[iv ((ix.toUInt32 >>> ((16 : Int32) &&& 31).toUInt32).toInt32), iv (11 : Int32)] [(.int ((((ix.toUInt32 >>> ((16 : Int32) &&& 31).toUInt32).toInt32).toUInt32 >>> ((4 : Int32) &&& 31).toUInt32).toInt32))])) (fun t k => XS.iushr X0.here hx rfl (hb hby d5_59) rfl k) ?_
          refine Wk.go (A' := s₁.setTop (mkF m 61 #[iv ((((ix.toUInt32 >>> ((16 : Int32) &&& 31).toUInt32).toInt32).toUInt32 >>> ((4 : Int32) &&& 31).toUInt32).toInt32), iv (11 : Int32)] [])) (fun t k => XS.istoreN X0.here hx rfl (hb hby d5_60) rfl (l' := #[iv ((((ix.toUInt32 >>> ((16 : Int32) &&& 31).toUInt32).toInt32).toUInt32 >>> ((4 : Int32) &&& 31).toUInt32).toInt32), iv (11 : Int32)]) rfl k) ?_
          refine Wk.go (A' := s₁.setTop (mkF m 62 #[iv ((((ix.toUInt32 >>> ((16 : Int32) &&& 31).toUInt32).toInt32).toUInt32 >>> ((4 : Int32) &&& 31).toUInt32).toInt32), iv (11 : Int32)] [(.int ((((ix.toUInt32 >>> ((16 : Int32) &&& 31).toUInt32).toInt32).toUInt32 >>> ((4 : Int32) &&& 31).toUInt32).toInt32))])) (fun t k => XS.iloadN X0.here hx rfl (hb hby d5_61) rfl k) ?_
          refine Wk.go (A' := s₁.setTop (mkF m 63 #[iv ((((ix.toUInt32 >>> ((16 : Int32) &&& 31).toUInt32).toInt32).toUInt32 >>> ((4 : Int32) &&& 31).toUInt32).toInt32), iv (11 : Int32)] [(.int (4 : Int32)), (.int ((((ix.toUInt32 >>> ((16 : Int32) &&& 31).toUInt32).toInt32).toUInt32 >>> ((4 : Int32) &&& 31).toUInt32).toInt32))])) (fun t k => XS.iconst X0.here hx rfl (hb hby d5_62) k) ?_
          by_cases hc63 : ((((ix.toUInt32 >>> ((16 : Int32) &&& 31).toUInt32).toInt32).toUInt32 >>> ((4 : Int32) &&& 31).toUInt32).toInt32) < (4 : Int32)
          · refine Wk.go (A' := s₁.setTop (mkF m 73 #[iv ((((ix.toUInt32 >>> ((16 : Int32) &&& 31).toUInt32).toInt32).toUInt32 >>> ((4 : Int32) &&& 31).toUInt32).toInt32), iv (11 : Int32)] [])) (fun t k => XS.icmpYes X0.here hx rfl (pc0 := 63) (pc' := 73) rfl (hb hby d5_63) rfl (tlt hc63).1 (by decide) (by decide) k) ?_
            refine Wk.go (A' := s₁.setTop (mkF m 74 #[iv ((((ix.toUInt32 >>> ((16 : Int32) &&& 31).toUInt32).toInt32).toUInt32 >>> ((4 : Int32) &&& 31).toUInt32).toInt32), iv (11 : Int32)] [(.int (11 : Int32))])) (fun t k => XS.iloadN X0.here hx rfl (hb hby d5_73) rfl k) ?_
            refine Wk.go (A' := s₁.setTop (mkF m 75 #[iv ((((ix.toUInt32 >>> ((16 : Int32) &&& 31).toUInt32).toInt32).toUInt32 >>> ((4 : Int32) &&& 31).toUInt32).toInt32), iv (11 : Int32)] [(.int ((((ix.toUInt32 >>> ((16 : Int32) &&& 31).toUInt32).toInt32).toUInt32 >>> ((4 : Int32) &&& 31).toUInt32).toInt32)), (.int (11 : Int32))])) (fun t k => XS.iloadN X0.here hx rfl (hb hby d5_74) rfl k) ?_
            refine Wk.go (A' := s₁.setTop (mkF m 76 #[iv ((((ix.toUInt32 >>> ((16 : Int32) &&& 31).toUInt32).toInt32).toUInt32 >>> ((4 : Int32) &&& 31).toUInt32).toInt32), iv (11 : Int32)] [(.int (1 : Int32)), (.int ((((ix.toUInt32 >>> ((16 : Int32) &&& 31).toUInt32).toInt32).toUInt32 >>> ((4 : Int32) &&& 31).toUInt32).toInt32)), (.int (11 : Int32))])) (fun t k => XS.iconst X0.here hx rfl (hb hby d5_75) k) ?_
            refine Wk.go (A' := s₁.setTop (mkF m 77 #[iv ((((ix.toUInt32 >>> ((16 : Int32) &&& 31).toUInt32).toInt32).toUInt32 >>> ((4 : Int32) &&& 31).toUInt32).toInt32), iv (11 : Int32)] [(.int ((((((ix.toUInt32 >>> ((16 : Int32) &&& 31).toUInt32).toInt32).toUInt32 >>> ((4 : Int32) &&& 31).toUInt32).toInt32).toUInt32 >>> ((1 : Int32) &&& 31).toUInt32).toInt32)), (.int (11 : Int32))])) (fun t k => XS.iushr X0.here hx rfl (hb hby d5_76) rfl k) ?_
            refine Wk.go (A' := s₁.setTop (mkF m 78 #[iv ((((ix.toUInt32 >>> ((16 : Int32) &&& 31).toUInt32).toInt32).toUInt32 >>> ((4 : Int32) &&& 31).toUInt32).toInt32), iv (11 : Int32)] [(.int ((11 : Int32) - ((((((ix.toUInt32 >>> ((16 : Int32) &&& 31).toUInt32).toInt32).toUInt32 >>> ((4 : Int32) &&& 31).toUInt32).toInt32).toUInt32 >>> ((1 : Int32) &&& 31).toUInt32).toInt32)))])) (fun t k => XS.isub X0.here hx rfl (hb hby d5_77) rfl k) ?_
            refine own_fin (Qv := Q5 Z ix h0 n0) (v := some (.int ((11 : Int32) - ((((((ix.toUInt32 >>> ((16 : Int32) &&& 31).toUInt32).toInt32).toUInt32 >>> ((4 : Int32) &&& 31).toUInt32).toInt32).toUInt32 >>> ((1 : Int32) &&& 31).toUInt32).toInt32)))) X0 hlk (fun h => by rw [Bd.returns] at h; cases h) (fun fs hr => retI X0 hx Bd.returns (hb hby d5_78) hr) ?_ (by decide) (by decide)
            refine ⟨?_, N0, e0⟩
            simp only [f_nlzi, if_pos hc1, if_neg hc22, if_pos hc37, if_neg hc51, if_pos hc63]
          · refine Wk.go (A' := s₁.setTop (mkF m 66 #[iv ((((ix.toUInt32 >>> ((16 : Int32) &&& 31).toUInt32).toInt32).toUInt32 >>> ((4 : Int32) &&& 31).toUInt32).toInt32), iv (11 : Int32)] [])) (fun t k => XS.icmpNo X0.here hx rfl (hb hby d5_63) rfl (flt hc63).1 k) ?_
            refine Wk.go (A' := s₁.setTop (mkF m 69 #[iv ((((ix.toUInt32 >>> ((16 : Int32) &&& 31).toUInt32).toInt32).toUInt32 >>> ((4 : Int32) &&& 31).toUInt32).toInt32), iv (9 : Int32)] [])) (fun t k => XS.iinc X0.here hx rfl (hb hby d5_66) rfl (l' := #[iv ((((ix.toUInt32 >>> ((16 : Int32) &&& 31).toUInt32).toInt32).toUInt32 >>> ((4 : Int32) &&& 31).toUInt32).toInt32), iv (9 : Int32)]) rfl k) ?_
            refine Wk.go (A' := s₁.setTop (mkF m 70 #[iv ((((ix.toUInt32 >>> ((16 : Int32) &&& 31).toUInt32).toInt32).toUInt32 >>> ((4 : Int32) &&& 31).toUInt32).toInt32), iv (9 : Int32)] [(.int ((((ix.toUInt32 >>> ((16 : Int32) &&& 31).toUInt32).toInt32).toUInt32 >>> ((4 : Int32) &&& 31).toUInt32).toInt32))])) (fun t k => XS.iloadN X0.here hx rfl (hb hby d5_69) rfl k) ?_
            refine Wk.go (A' := s₁.setTop (mkF m 71 #[iv ((((ix.toUInt32 >>> ((16 : Int32) &&& 31).toUInt32).toInt32).toUInt32 >>> ((4 : Int32) &&& 31).toUInt32).toInt32), iv (9 : Int32)] [(.int (2 : Int32)), (.int ((((ix.toUInt32 >>> ((16 : Int32) &&& 31).toUInt32).toInt32).toUInt32 >>> ((4 : Int32) &&& 31).toUInt32).toInt32))])) (fun t k => XS.iconst X0.here hx rfl (hb hby d5_70) k) ?_
            refine Wk.go (A' := s₁.setTop (mkF m 72 #[iv ((((ix.toUInt32 >>> ((16 : Int32) &&& 31).toUInt32).toInt32).toUInt32 >>> ((4 : Int32) &&& 31).toUInt32).toInt32), iv (9 : Int32)] [(.int ((((((ix.toUInt32 >>> ((16 : Int32) &&& 31).toUInt32).toInt32).toUInt32 >>> ((4 : Int32) &&& 31).toUInt32).toInt32).toUInt32 >>> ((2 : Int32) &&& 31).toUInt32).toInt32))])) (fun t k => XS.iushr X0.here hx rfl (hb hby d5_71) rfl k) ?_
            refine Wk.go (A' := s₁.setTop (mkF m 73 #[iv ((((((ix.toUInt32 >>> ((16 : Int32) &&& 31).toUInt32).toInt32).toUInt32 >>> ((4 : Int32) &&& 31).toUInt32).toInt32).toUInt32 >>> ((2 : Int32) &&& 31).toUInt32).toInt32), iv (9 : Int32)] [])) (fun t k => XS.istoreN X0.here hx rfl (hb hby d5_72) rfl (l' := #[iv ((((((ix.toUInt32 >>> ((16 : Int32) &&& 31).toUInt32).toInt32).toUInt32 >>> ((4 : Int32) &&& 31).toUInt32).toInt32).toUInt32 >>> ((2 : Int32) &&& 31).toUInt32).toInt32), iv (9 : Int32)]) rfl k) ?_
            refine Wk.go (A' := s₁.setTop (mkF m 74 #[iv ((((((ix.toUInt32 >>> ((16 : Int32) &&& 31).toUInt32).toInt32).toUInt32 >>> ((4 : Int32) &&& 31).toUInt32).toInt32).toUInt32 >>> ((2 : Int32) &&& 31).toUInt32).toInt32), iv (9 : Int32)] [(.int (9 : Int32))])) (fun t k => XS.iloadN X0.here hx rfl (hb hby d5_73) rfl k) ?_
            refine Wk.go (A' := s₁.setTop (mkF m 75 #[iv ((((((ix.toUInt32 >>> ((16 : Int32) &&& 31).toUInt32).toInt32).toUInt32 >>> ((4 : Int32) &&& 31).toUInt32).toInt32).toUInt32 >>> ((2 : Int32) &&& 31).toUInt32).toInt32), iv (9 : Int32)] [(.int ((((((ix.toUInt32 >>> ((16 : Int32) &&& 31).toUInt32).toInt32).toUInt32 >>> ((4 : Int32) &&& 31).toUInt32).toInt32).toUInt32 >>> ((2 : Int32) &&& 31).toUInt32).toInt32)), (.int (9 : Int32))])) (fun t k => XS.iloadN X0.here hx rfl (hb hby d5_74) rfl k) ?_
            refine Wk.go (A' := s₁.setTop (mkF m 76 #[iv ((((((ix.toUInt32 >>> ((16 : Int32) &&& 31).toUInt32).toInt32).toUInt32 >>> ((4 : Int32) &&& 31).toUInt32).toInt32).toUInt32 >>> ((2 : Int32) &&& 31).toUInt32).toInt32), iv (9 : Int32)] [(.int (1 : Int32)), (.int ((((((ix.toUInt32 >>> ((16 : Int32) &&& 31).toUInt32).toInt32).toUInt32 >>> ((4 : Int32) &&& 31).toUInt32).toInt32).toUInt32 >>> ((2 : Int32) &&& 31).toUInt32).toInt32)), (.int (9 : Int32))])) (fun t k => XS.iconst X0.here hx rfl (hb hby d5_75) k) ?_
            refine Wk.go (A' := s₁.setTop (mkF m 77 #[iv ((((((ix.toUInt32 >>> ((16 : Int32) &&& 31).toUInt32).toInt32).toUInt32 >>> ((4 : Int32) &&& 31).toUInt32).toInt32).toUInt32 >>> ((2 : Int32) &&& 31).toUInt32).toInt32), iv (9 : Int32)] [(.int ((((((((ix.toUInt32 >>> ((16 : Int32) &&& 31).toUInt32).toInt32).toUInt32 >>> ((4 : Int32) &&& 31).toUInt32).toInt32).toUInt32 >>> ((2 : Int32) &&& 31).toUInt32).toInt32).toUInt32 >>> ((1 : Int32) &&& 31).toUInt32).toInt32)), (.int (9 : Int32))])) (fun t k => XS.iushr X0.here hx rfl (hb hby d5_76) rfl k) ?_
            refine Wk.go (A' := s₁.setTop (mkF m 78 #[iv ((((((ix.toUInt32 >>> ((16 : Int32) &&& 31).toUInt32).toInt32).toUInt32 >>> ((4 : Int32) &&& 31).toUInt32).toInt32).toUInt32 >>> ((2 : Int32) &&& 31).toUInt32).toInt32), iv (9 : Int32)] [(.int ((9 : Int32) - ((((((((ix.toUInt32 >>> ((16 : Int32) &&& 31).toUInt32).toInt32).toUInt32 >>> ((4 : Int32) &&& 31).toUInt32).toInt32).toUInt32 >>> ((2 : Int32) &&& 31).toUInt32).toInt32).toUInt32 >>> ((1 : Int32) &&& 31).toUInt32).toInt32)))])) (fun t k => XS.isub X0.here hx rfl (hb hby d5_77) rfl k) ?_
            refine own_fin (Qv := Q5 Z ix h0 n0) (v := some (.int ((9 : Int32) - ((((((((ix.toUInt32 >>> ((16 : Int32) &&& 31).toUInt32).toInt32).toUInt32 >>> ((4 : Int32) &&& 31).toUInt32).toInt32).toUInt32 >>> ((2 : Int32) &&& 31).toUInt32).toInt32).toUInt32 >>> ((1 : Int32) &&& 31).toUInt32).toInt32)))) X0 hlk (fun h => by rw [Bd.returns] at h; cases h) (fun fs hr => retI X0 hx Bd.returns (hb hby d5_78) hr) ?_ (by decide) (by decide)
            refine ⟨?_, N0, e0⟩
            simp only [f_nlzi, if_pos hc1, if_neg hc22, if_pos hc37, if_neg hc51, if_neg hc63]
      · refine Wk.go (A' := s₁.setTop (mkF m 40 #[iv ((ix.toUInt32 >>> ((16 : Int32) &&& 31).toUInt32).toInt32), iv (15 : Int32)] [])) (fun t k => XS.icmpNo X0.here hx rfl (hb hby d5_37) rfl (flt hc37).1 k) ?_
        refine Wk.go (A' := s₁.setTop (mkF m 43 #[iv ((ix.toUInt32 >>> ((16 : Int32) &&& 31).toUInt32).toInt32), iv (7 : Int32)] [])) (fun t k => XS.iinc X0.here hx rfl (hb hby d5_40) rfl (l' := #[iv ((ix.toUInt32 >>> ((16 : Int32) &&& 31).toUInt32).toInt32), iv (7 : Int32)]) rfl k) ?_
        refine Wk.go (A' := s₁.setTop (mkF m 44 #[iv ((ix.toUInt32 >>> ((16 : Int32) &&& 31).toUInt32).toInt32), iv (7 : Int32)] [(.int ((ix.toUInt32 >>> ((16 : Int32) &&& 31).toUInt32).toInt32))])) (fun t k => XS.iloadN X0.here hx rfl (hb hby d5_43) rfl k) ?_
        refine Wk.go (A' := s₁.setTop (mkF m 46 #[iv ((ix.toUInt32 >>> ((16 : Int32) &&& 31).toUInt32).toInt32), iv (7 : Int32)] [(.int (8 : Int32)), (.int ((ix.toUInt32 >>> ((16 : Int32) &&& 31).toUInt32).toInt32))])) (fun t k => XS.bipush X0.here hx rfl (hb hby d5_44) k) ?_
        refine Wk.go (A' := s₁.setTop (mkF m 47 #[iv ((ix.toUInt32 >>> ((16 : Int32) &&& 31).toUInt32).toInt32), iv (7 : Int32)] [(.int ((((ix.toUInt32 >>> ((16 : Int32) &&& 31).toUInt32).toInt32).toUInt32 >>> ((8 : Int32) &&& 31).toUInt32).toInt32))])) (fun t k => XS.iushr X0.here hx rfl (hb hby d5_46) rfl k) ?_
        refine Wk.go (A' := s₁.setTop (mkF m 48 #[iv ((((ix.toUInt32 >>> ((16 : Int32) &&& 31).toUInt32).toInt32).toUInt32 >>> ((8 : Int32) &&& 31).toUInt32).toInt32), iv (7 : Int32)] [])) (fun t k => XS.istoreN X0.here hx rfl (hb hby d5_47) rfl (l' := #[iv ((((ix.toUInt32 >>> ((16 : Int32) &&& 31).toUInt32).toInt32).toUInt32 >>> ((8 : Int32) &&& 31).toUInt32).toInt32), iv (7 : Int32)]) rfl k) ?_
        refine Wk.go (A' := s₁.setTop (mkF m 49 #[iv ((((ix.toUInt32 >>> ((16 : Int32) &&& 31).toUInt32).toInt32).toUInt32 >>> ((8 : Int32) &&& 31).toUInt32).toInt32), iv (7 : Int32)] [(.int ((((ix.toUInt32 >>> ((16 : Int32) &&& 31).toUInt32).toInt32).toUInt32 >>> ((8 : Int32) &&& 31).toUInt32).toInt32))])) (fun t k => XS.iloadN X0.here hx rfl (hb hby d5_48) rfl k) ?_
        refine Wk.go (A' := s₁.setTop (mkF m 51 #[iv ((((ix.toUInt32 >>> ((16 : Int32) &&& 31).toUInt32).toInt32).toUInt32 >>> ((8 : Int32) &&& 31).toUInt32).toInt32), iv (7 : Int32)] [(.int (16 : Int32)), (.int ((((ix.toUInt32 >>> ((16 : Int32) &&& 31).toUInt32).toInt32).toUInt32 >>> ((8 : Int32) &&& 31).toUInt32).toInt32))])) (fun t k => XS.bipush X0.here hx rfl (hb hby d5_49) k) ?_
        by_cases hc51 : ((((ix.toUInt32 >>> ((16 : Int32) &&& 31).toUInt32).toInt32).toUInt32 >>> ((8 : Int32) &&& 31).toUInt32).toInt32) < (16 : Int32)
        · refine Wk.go (A' := s₁.setTop (mkF m 61 #[iv ((((ix.toUInt32 >>> ((16 : Int32) &&& 31).toUInt32).toInt32).toUInt32 >>> ((8 : Int32) &&& 31).toUInt32).toInt32), iv (7 : Int32)] [])) (fun t k => XS.icmpYes X0.here hx rfl (pc0 := 51) (pc' := 61) rfl (hb hby d5_51) rfl (tlt hc51).1 (by decide) (by decide) k) ?_
          refine Wk.go (A' := s₁.setTop (mkF m 62 #[iv ((((ix.toUInt32 >>> ((16 : Int32) &&& 31).toUInt32).toInt32).toUInt32 >>> ((8 : Int32) &&& 31).toUInt32).toInt32), iv (7 : Int32)] [(.int ((((ix.toUInt32 >>> ((16 : Int32) &&& 31).toUInt32).toInt32).toUInt32 >>> ((8 : Int32) &&& 31).toUInt32).toInt32))])) (fun t k => XS.iloadN X0.here hx rfl (hb hby d5_61) rfl k) ?_
          refine Wk.go (A' := s₁.setTop (mkF m 63 #[iv ((((ix.toUInt32 >>> ((16 : Int32) &&& 31).toUInt32).toInt32).toUInt32 >>> ((8 : Int32) &&& 31).toUInt32).toInt32), iv (7 : Int32)] [(.int (4 : Int32)), (.int ((((ix.toUInt32 >>> ((16 : Int32) &&& 31).toUInt32).toInt32).toUInt32 >>> ((8 : Int32) &&& 31).toUInt32).toInt32))])) (fun t k => XS.iconst X0.here hx rfl (hb hby d5_62) k) ?_
          by_cases hc63 : ((((ix.toUInt32 >>> ((16 : Int32) &&& 31).toUInt32).toInt32).toUInt32 >>> ((8 : Int32) &&& 31).toUInt32).toInt32) < (4 : Int32)
          · refine Wk.go (A' := s₁.setTop (mkF m 73 #[iv ((((ix.toUInt32 >>> ((16 : Int32) &&& 31).toUInt32).toInt32).toUInt32 >>> ((8 : Int32) &&& 31).toUInt32).toInt32), iv (7 : Int32)] [])) (fun t k => XS.icmpYes X0.here hx rfl (pc0 := 63) (pc' := 73) rfl (hb hby d5_63) rfl (tlt hc63).1 (by decide) (by decide) k) ?_
            refine Wk.go (A' := s₁.setTop (mkF m 74 #[iv ((((ix.toUInt32 >>> ((16 : Int32) &&& 31).toUInt32).toInt32).toUInt32 >>> ((8 : Int32) &&& 31).toUInt32).toInt32), iv (7 : Int32)] [(.int (7 : Int32))])) (fun t k => XS.iloadN X0.here hx rfl (hb hby d5_73) rfl k) ?_
            refine Wk.go (A' := s₁.setTop (mkF m 75 #[iv ((((ix.toUInt32 >>> ((16 : Int32) &&& 31).toUInt32).toInt32).toUInt32 >>> ((8 : Int32) &&& 31).toUInt32).toInt32), iv (7 : Int32)] [(.int ((((ix.toUInt32 >>> ((16 : Int32) &&& 31).toUInt32).toInt32).toUInt32 >>> ((8 : Int32) &&& 31).toUInt32).toInt32)), (.int (7 : Int32))])) (fun t k => XS.iloadN X0.here hx rfl (hb hby d5_74) rfl k) ?_
            refine Wk.go (A' := s₁.setTop (mkF m 76 #[iv ((((ix.toUInt32 >>> ((16 : Int32) &&& 31).toUInt32).toInt32).toUInt32 >>> ((8 : Int32) &&& 31).toUInt32).toInt32), iv (7 : Int32)] [(.int (1 : Int32)), (.int ((((ix.toUInt32 >>> ((16 : Int32) &&& 31).toUInt32).toInt32).toUInt32 >>> ((8 : Int32) &&& 31).toUInt32).toInt32)), (.int (7 : Int32))])) (fun t k => XS.iconst X0.here hx rfl (hb hby d5_75) k) ?_
            refine Wk.go (A' := s₁.setTop (mkF m 77 #[iv ((((ix.toUInt32 >>> ((16 : Int32) &&& 31).toUInt32).toInt32).toUInt32 >>> ((8 : Int32) &&& 31).toUInt32).toInt32), iv (7 : Int32)] [(.int ((((((ix.toUInt32 >>> ((16 : Int32) &&& 31).toUInt32).toInt32).toUInt32 >>> ((8 : Int32) &&& 31).toUInt32).toInt32).toUInt32 >>> ((1 : Int32) &&& 31).toUInt32).toInt32)), (.int (7 : Int32))])) (fun t k => XS.iushr X0.here hx rfl (hb hby d5_76) rfl k) ?_
            refine Wk.go (A' := s₁.setTop (mkF m 78 #[iv ((((ix.toUInt32 >>> ((16 : Int32) &&& 31).toUInt32).toInt32).toUInt32 >>> ((8 : Int32) &&& 31).toUInt32).toInt32), iv (7 : Int32)] [(.int ((7 : Int32) - ((((((ix.toUInt32 >>> ((16 : Int32) &&& 31).toUInt32).toInt32).toUInt32 >>> ((8 : Int32) &&& 31).toUInt32).toInt32).toUInt32 >>> ((1 : Int32) &&& 31).toUInt32).toInt32)))])) (fun t k => XS.isub X0.here hx rfl (hb hby d5_77) rfl k) ?_
            refine own_fin (Qv := Q5 Z ix h0 n0) (v := some (.int ((7 : Int32) - ((((((ix.toUInt32 >>> ((16 : Int32) &&& 31).toUInt32).toInt32).toUInt32 >>> ((8 : Int32) &&& 31).toUInt32).toInt32).toUInt32 >>> ((1 : Int32) &&& 31).toUInt32).toInt32)))) X0 hlk (fun h => by rw [Bd.returns] at h; cases h) (fun fs hr => retI X0 hx Bd.returns (hb hby d5_78) hr) ?_ (by decide) (by decide)
            refine ⟨?_, N0, e0⟩
            simp only [f_nlzi, if_pos hc1, if_neg hc22, if_neg hc37, if_pos hc51, if_pos hc63]
          · refine Wk.go (A' := s₁.setTop (mkF m 66 #[iv ((((ix.toUInt32 >>> ((16 : Int32) &&& 31).toUInt32).toInt32).toUInt32 >>> ((8 : Int32) &&& 31).toUInt32).toInt32), iv (7 : Int32)] [])) (fun t k => XS.icmpNo X0.here hx rfl (hb hby d5_63) rfl (flt hc63).1 k) ?_
            refine Wk.go (A' := s₁.setTop (mkF m 69 #[iv ((((ix.toUInt32 >>> ((16 : Int32) &&& 31).toUInt32).toInt32).toUInt32 >>> ((8 : Int32) &&& 31).toUInt32).toInt32), iv (5 : Int32)] [])) (fun t k => XS.iinc X0.here hx rfl (hb hby d5_66) rfl (l' := #[iv ((((ix.toUInt32 >>> ((16 : Int32) &&& 31).toUInt32).toInt32).toUInt32 >>> ((8 : Int32) &&& 31).toUInt32).toInt32), iv (5 : Int32)]) rfl k) ?_
            refine Wk.go (A' := s₁.setTop (mkF m 70 #[iv ((((ix.toUInt32 >>> ((16 : Int32) &&& 31).toUInt32).toInt32).toUInt32 >>> ((8 : Int32) &&& 31).toUInt32).toInt32), iv (5 : Int32)] [(.int ((((ix.toUInt32 >>> ((16 : Int32) &&& 31).toUInt32).toInt32).toUInt32 >>> ((8 : Int32) &&& 31).toUInt32).toInt32))])) (fun t k => XS.iloadN X0.here hx rfl (hb hby d5_69) rfl k) ?_
            refine Wk.go (A' := s₁.setTop (mkF m 71 #[iv ((((ix.toUInt32 >>> ((16 : Int32) &&& 31).toUInt32).toInt32).toUInt32 >>> ((8 : Int32) &&& 31).toUInt32).toInt32), iv (5 : Int32)] [(.int (2 : Int32)), (.int ((((ix.toUInt32 >>> ((16 : Int32) &&& 31).toUInt32).toInt32).toUInt32 >>> ((8 : Int32) &&& 31).toUInt32).toInt32))])) (fun t k => XS.iconst X0.here hx rfl (hb hby d5_70) k) ?_
            refine Wk.go (A' := s₁.setTop (mkF m 72 #[iv ((((ix.toUInt32 >>> ((16 : Int32) &&& 31).toUInt32).toInt32).toUInt32 >>> ((8 : Int32) &&& 31).toUInt32).toInt32), iv (5 : Int32)] [(.int ((((((ix.toUInt32 >>> ((16 : Int32) &&& 31).toUInt32).toInt32).toUInt32 >>> ((8 : Int32) &&& 31).toUInt32).toInt32).toUInt32 >>> ((2 : Int32) &&& 31).toUInt32).toInt32))])) (fun t k => XS.iushr X0.here hx rfl (hb hby d5_71) rfl k) ?_
            refine Wk.go (A' := s₁.setTop (mkF m 73 #[iv ((((((ix.toUInt32 >>> ((16 : Int32) &&& 31).toUInt32).toInt32).toUInt32 >>> ((8 : Int32) &&& 31).toUInt32).toInt32).toUInt32 >>> ((2 : Int32) &&& 31).toUInt32).toInt32), iv (5 : Int32)] [])) (fun t k => XS.istoreN X0.here hx rfl (hb hby d5_72) rfl (l' := #[iv ((((((ix.toUInt32 >>> ((16 : Int32) &&& 31).toUInt32).toInt32).toUInt32 >>> ((8 : Int32) &&& 31).toUInt32).toInt32).toUInt32 >>> ((2 : Int32) &&& 31).toUInt32).toInt32), iv (5 : Int32)]) rfl k) ?_
            refine Wk.go (A' := s₁.setTop (mkF m 74 #[iv ((((((ix.toUInt32 >>> ((16 : Int32) &&& 31).toUInt32).toInt32).toUInt32 >>> ((8 : Int32) &&& 31).toUInt32).toInt32).toUInt32 >>> ((2 : Int32) &&& 31).toUInt32).toInt32), iv (5 : Int32)] [(.int (5 : Int32))])) (fun t k => XS.iloadN X0.here hx rfl (hb hby d5_73) rfl k) ?_
            refine Wk.go (A' := s₁.setTop (mkF m 75 #[iv ((((((ix.toUInt32 >>> ((16 : Int32) &&& 31).toUInt32).toInt32).toUInt32 >>> ((8 : Int32) &&& 31).toUInt32).toInt32).toUInt32 >>> ((2 : Int32) &&& 31).toUInt32).toInt32), iv (5 : Int32)] [(.int ((((((ix.toUInt32 >>> ((16 : Int32) &&& 31).toUInt32).toInt32).toUInt32 >>> ((8 : Int32) &&& 31).toUInt32).toInt32).toUInt32 >>> ((2 : Int32) &&& 31).toUInt32).toInt32)), (.int (5 : Int32))])) (fun t k => XS.iloadN X0.here hx rfl (hb hby d5_74) rfl k) ?_
            refine Wk.go (A' := s₁.setTop (mkF m 76 #[iv ((((((ix.toUInt32 >>> ((16 : Int32) &&& 31).toUInt32).toInt32).toUInt32 >>> ((8 : Int32) &&& 31).toUInt32).toInt32).toUInt32 >>> ((2 : Int32) &&& 31).toUInt32).toInt32), iv (5 : Int32)] [(.int (1 : Int32)), (.int ((((((ix.toUInt32 >>> ((16 : Int32) &&& 31).toUInt32).toInt32).toUInt32 >>> ((8 : Int32) &&& 31).toUInt32).toInt32).toUInt32 >>> ((2 : Int32) &&& 31).toUInt32).toInt32)), (.int (5 : Int32))])) (fun t k => XS.iconst X0.here hx rfl (hb hby d5_75) k) ?_
            refine Wk.go (A' := s₁.setTop (mkF m 77 #[iv ((((((ix.toUInt32 >>> ((16 : Int32) &&& 31).toUInt32).toInt32).toUInt32 >>> ((8 : Int32) &&& 31).toUInt32).toInt32).toUInt32 >>> ((2 : Int32) &&& 31).toUInt32).toInt32), iv (5 : Int32)] [(.int ((((((((ix.toUInt32 >>> ((16 : Int32) &&& 31).toUInt32).toInt32).toUInt32 >>> ((8 : Int32) &&& 31).toUInt32).toInt32).toUInt32 >>> ((2 : Int32) &&& 31).toUInt32).toInt32).toUInt32 >>> ((1 : Int32) &&& 31).toUInt32).toInt32)), (.int (5 : Int32))])) (fun t k => XS.iushr X0.here hx rfl (hb hby d5_76) rfl k) ?_
            refine Wk.go (A' := s₁.setTop (mkF m 78 #[iv ((((((ix.toUInt32 >>> ((16 : Int32) &&& 31).toUInt32).toInt32).toUInt32 >>> ((8 : Int32) &&& 31).toUInt32).toInt32).toUInt32 >>> ((2 : Int32) &&& 31).toUInt32).toInt32), iv (5 : Int32)] [(.int ((5 : Int32) - ((((((((ix.toUInt32 >>> ((16 : Int32) &&& 31).toUInt32).toInt32).toUInt32 >>> ((8 : Int32) &&& 31).toUInt32).toInt32).toUInt32 >>> ((2 : Int32) &&& 31).toUInt32).toInt32).toUInt32 >>> ((1 : Int32) &&& 31).toUInt32).toInt32)))])) (fun t k => XS.isub X0.here hx rfl (hb hby d5_77) rfl k) ?_
            refine own_fin (Qv := Q5 Z ix h0 n0) (v := some (.int ((5 : Int32) - ((((((((ix.toUInt32 >>> ((16 : Int32) &&& 31).toUInt32).toInt32).toUInt32 >>> ((8 : Int32) &&& 31).toUInt32).toInt32).toUInt32 >>> ((2 : Int32) &&& 31).toUInt32).toInt32).toUInt32 >>> ((1 : Int32) &&& 31).toUInt32).toInt32)))) X0 hlk (fun h => by rw [Bd.returns] at h; cases h) (fun fs hr => retI X0 hx Bd.returns (hb hby d5_78) hr) ?_ (by decide) (by decide)
            refine ⟨?_, N0, e0⟩
            simp only [f_nlzi, if_pos hc1, if_neg hc22, if_neg hc37, if_pos hc51, if_neg hc63]
        · refine Wk.go (A' := s₁.setTop (mkF m 54 #[iv ((((ix.toUInt32 >>> ((16 : Int32) &&& 31).toUInt32).toInt32).toUInt32 >>> ((8 : Int32) &&& 31).toUInt32).toInt32), iv (7 : Int32)] [])) (fun t k => XS.icmpNo X0.here hx rfl (hb hby d5_51) rfl (flt hc51).1 k) ?_
          refine Wk.go (A' := s₁.setTop (mkF m 57 #[iv ((((ix.toUInt32 >>> ((16 : Int32) &&& 31).toUInt32).toInt32).toUInt32 >>> ((8 : Int32) &&& 31).toUInt32).toInt32), iv (3 : Int32)] [])) (fun t k => XS.iinc X0.here hx rfl (hb hby d5_54) rfl (l' := #[iv ((((ix.toUInt32 >>> ((16 : Int32) &&& 31).toUInt32).toInt32).toUInt32 >>> ((8 : Int32) &&& 31).toUInt32).toInt32), iv (3 : Int32)]) rfl k) ?_
          refine Wk.go (A' := s₁.setTop (mkF m 58 #[iv ((((ix.toUInt32 >>> ((16 : Int32) &&& 31).toUInt32).toInt32).toUInt32 >>> ((8 : Int32) &&& 31).toUInt32).toInt32), iv (3 : Int32)] [(.int ((((ix.toUInt32 >>> ((16 : Int32) &&& 31).toUInt32).toInt32).toUInt32 >>> ((8 : Int32) &&& 31).toUInt32).toInt32))])) (fun t k => XS.iloadN X0.here hx rfl (hb hby d5_57) rfl k) ?_
          refine Wk.go (A' := s₁.setTop (mkF m 59 #[iv ((((ix.toUInt32 >>> ((16 : Int32) &&& 31).toUInt32).toInt32).toUInt32 >>> ((8 : Int32) &&& 31).toUInt32).toInt32), iv (3 : Int32)] [(.int (4 : Int32)), (.int ((((ix.toUInt32 >>> ((16 : Int32) &&& 31).toUInt32).toInt32).toUInt32 >>> ((8 : Int32) &&& 31).toUInt32).toInt32))])) (fun t k => XS.iconst X0.here hx rfl (hb hby d5_58) k) ?_
          refine Wk.go (A' := s₁.setTop (mkF m 60 #[iv ((((ix.toUInt32 >>> ((16 : Int32) &&& 31).toUInt32).toInt32).toUInt32 >>> ((8 : Int32) &&& 31).toUInt32).toInt32), iv (3 : Int32)] [(.int ((((((ix.toUInt32 >>> ((16 : Int32) &&& 31).toUInt32).toInt32).toUInt32 >>> ((8 : Int32) &&& 31).toUInt32).toInt32).toUInt32 >>> ((4 : Int32) &&& 31).toUInt32).toInt32))])) (fun t k => XS.iushr X0.here hx rfl (hb hby d5_59) rfl k) ?_
          refine Wk.go (A' := s₁.setTop (mkF m 61 #[iv ((((((ix.toUInt32 >>> ((16 : Int32) &&& 31).toUInt32).toInt32).toUInt32 >>> ((8 : Int32) &&& 31).toUInt32).toInt32).toUInt32 >>> ((4 : Int32) &&& 31).toUInt32).toInt32), iv (3 : Int32)] [])) (fun t k => XS.istoreN X0.here hx rfl (hb hby d5_60) rfl (l' := #[iv ((((((ix.toUInt32 >>> ((16 : Int32) &&& 31).toUInt32).toInt32).toUInt32 >>> ((8 : Int32) &&& 31).toUInt32).toInt32).toUInt32 >>> ((4 : Int32) &&& 31).toUInt32).toInt32), iv (3 : Int32)]) rfl k) ?_
          refine Wk.go (A' := s₁.setTop (mkF m 62 #[iv ((((((ix.toUInt32 >>> ((16 : Int32) &&& 31).toUInt32).toInt32).toUInt32 >>> ((8 : Int32) &&& 31).toUInt32).toInt32).toUInt32 >>> ((4 : Int32) &&& 31).toUInt32).toInt32), iv (3 : Int32)] [(.int ((((((ix.toUInt32 >>> ((16 : Int32) &&& 31).toUInt32).toInt32).toUInt32 >>> ((8 : Int32) &&& 31).toUInt32).toInt32).toUInt32 >>> ((4 : Int32) &&& 31).toUInt32).toInt32))])) (fun t k => XS.iloadN X0.here hx rfl (hb hby d5_61) rfl k) ?_
          refine Wk.go (A' := s₁.setTop (mkF m 63 #[iv ((((((ix.toUInt32 >>> ((16 : Int32) &&& 31).toUInt32).toInt32).toUInt32 >>> ((8 : Int32) &&& 31).toUInt32).toInt32).toUInt32 >>> ((4 : Int32) &&& 31).toUInt32).toInt32), iv (3 : Int32)] [(.int (4 : Int32)), (.int ((((((ix.toUInt32 >>> ((16 : Int32) &&& 31).toUInt32).toInt32).toUInt32 >>> ((8 : Int32) &&& 31).toUInt32).toInt32).toUInt32 >>> ((4 : Int32) &&& 31).toUInt32).toInt32))])) (fun t k => XS.iconst X0.here hx rfl (hb hby d5_62) k) ?_
          by_cases hc63 : ((((((ix.toUInt32 >>> ((16 : Int32) &&& 31).toUInt32).toInt32).toUInt32 >>> ((8 : Int32) &&& 31).toUInt32).toInt32).toUInt32 >>> ((4 : Int32) &&& 31).toUInt32).toInt32) < (4 : Int32)
          · refine Wk.go (A' := s₁.setTop (mkF m 73 #[iv ((((((ix.toUInt32 >>> ((16 : Int32) &&& 31).toUInt32).toInt32).toUInt32 >>> ((8 : Int32) &&& 31).toUInt32).toInt32).toUInt32 >>> ((4 : Int32) &&& 31).toUInt32).toInt32), iv (3 : Int32)] [])) (fun t k => XS.icmpYes X0.here hx rfl (pc0 := 63) (pc' := 73) rfl (hb hby d5_63) rfl (tlt hc63).1 (by decide) (by decide) k) ?_
            refine Wk.go (A' := s₁.setTop (mkF m 74 #[iv ((((((ix.toUInt32 >>> ((16 : Int32) &&& 31).toUInt32).toInt32).toUInt32 >>> ((8 : Int32) &&& 31).toUInt32).toInt32).toUInt32 >>> ((4 : Int32) &&& 31).toUInt32).toInt32), iv (3 : Int32)] [(.int (3 : Int32))])) (fun t k => XS.iloadN X0.here hx rfl (hb hby d5_73) rfl k) ?_
            refine Wk.go (A' := s₁.setTop (mkF m 75 #[iv ((((((ix.toUInt32 >>> ((16 : Int32) &&& 31).toUInt32).toInt32).toUInt32 >>> ((8 : Int32) &&& 31).toUInt32).toInt32).toUInt32 >>> ((4 : Int32) &&& 31).toUInt32).toInt32), iv (3 : Int32)] [(.int ((((((ix.toUInt32 >>> ((16 : Int32) &&& 31).toUInt32).toInt32).toUInt32 >>> ((8 : Int32) &&& 31).toUInt32).toInt32).toUInt32 >>> ((4 : Int32) &&& 31).toUInt32).toInt32)), (.int (3 : Int32))])) (fun t k => XS.iloadN X0.here hx rfl (hb hby d5_74) rfl k) ?_
            refine Wk.go (A' := s₁.setTop (mkF m 76 #[iv ((((((ix.toUInt32 >>> ((16 : Int32) &&& 31).toUInt32).toInt32).toUInt32 >>> ((8 : Int32) &&& 31).toUInt32).toInt32).toUInt32 >>> ((4 : Int32) &&& 31).toUInt32).toInt32), iv (3 : Int32)] [(.int (1 : Int32)), (.int ((((((ix.toUInt32 >>> ((16 : Int32) &&& 31).toUInt32).toInt32).toUInt32 >>> ((8 : Int32) &&& 31).toUInt32).toInt32).toUInt32 >>> ((4 : Int32) &&& 31).toUInt32).toInt32)), (.int (3 : Int32))])) (fun t k => XS.iconst X0.here hx rfl (hb hby d5_75) k) ?_
            refine Wk.go (A' := s₁.setTop (mkF m 77 #[iv ((((((ix.toUInt32 >>> ((16 : Int32) &&& 31).toUInt32).toInt32).toUInt32 >>> ((8 : Int32) &&& 31).toUInt32).toInt32).toUInt32 >>> ((4 : Int32) &&& 31).toUInt32).toInt32), iv (3 : Int32)] [(.int ((((((((ix.toUInt32 >>> ((16 : Int32) &&& 31).toUInt32).toInt32).toUInt32 >>> ((8 : Int32) &&& 31).toUInt32).toInt32).toUInt32 >>> ((4 : Int32) &&& 31).toUInt32).toInt32).toUInt32 >>> ((1 : Int32) &&& 31).toUInt32).toInt32)), (.int (3 : Int32))])) (fun t k => XS.iushr X0.here hx rfl (hb hby d5_76) rfl k) ?_
            refine Wk.go (A' := s₁.setTop (mkF m 78 #[iv ((((((ix.toUInt32 >>> ((16 : Int32) &&& 31).toUInt32).toInt32).toUInt32 >>> ((8 : Int32) &&& 31).toUInt32).toInt32).toUInt32 >>> ((4 : Int32) &&& 31).toUInt32).toInt32), iv (3 : Int32)] [(.int ((3 : Int32) - ((((((((ix.toUInt32 >>> ((16 : Int32) &&& 31).toUInt32).toInt32).toUInt32 >>> ((8 : Int32) &&& 31).toUInt32).toInt32).toUInt32 >>> ((4 : Int32) &&& 31).toUInt32).toInt32).toUInt32 >>> ((1 : Int32) &&& 31).toUInt32).toInt32)))])) (fun t k => XS.isub X0.here hx rfl (hb hby d5_77) rfl k) ?_
            refine own_fin (Qv := Q5 Z ix h0 n0) (v := some (.int ((3 : Int32) - ((((((((ix.toUInt32 >>> ((16 : Int32) &&& 31).toUInt32).toInt32).toUInt32 >>> ((8 : Int32) &&& 31).toUInt32).toInt32).toUInt32 >>> ((4 : Int32) &&& 31).toUInt32).toInt32).toUInt32 >>> ((1 : Int32) &&& 31).toUInt32).toInt32)))) X0 hlk (fun h => by rw [Bd.returns] at h; cases h) (fun fs hr => retI X0 hx Bd.returns (hb hby d5_78) hr) ?_ (by decide) (by decide)
            refine ⟨?_, N0, e0⟩
            simp only [f_nlzi, if_pos hc1, if_neg hc22, if_neg hc37, if_neg hc51, if_pos hc63]
          · refine Wk.go (A' := s₁.setTop (mkF m 66 #[iv ((((((ix.toUInt32 >>> ((16 : Int32) &&& 31).toUInt32).toInt32).toUInt32 >>> ((8 : Int32) &&& 31).toUInt32).toInt32).toUInt32 >>> ((4 : Int32) &&& 31).toUInt32).toInt32), iv (3 : Int32)] [])) (fun t k => XS.icmpNo X0.here hx rfl (hb hby d5_63) rfl (flt hc63).1 k) ?_
            refine Wk.go (A' := s₁.setTop (mkF m 69 #[iv ((((((ix.toUInt32 >>> ((16 : Int32) &&& 31).toUInt32).toInt32).toUInt32 >>> ((8 : Int32) &&& 31).toUInt32).toInt32).toUInt32 >>> ((4 : Int32) &&& 31).toUInt32).toInt32), iv (1 : Int32)] [])) (fun t k => XS.iinc X0.here hx rfl (hb hby d5_66) rfl (l' := #[iv ((((((ix.toUInt32 >>> ((16 : Int32) &&& 31).toUInt32).toInt32).toUInt32 >>> ((8 : Int32) &&& 31).toUInt32).toInt32).toUInt32 >>> ((4 : Int32) &&& 31).toUInt32).toInt32), iv (1 : Int32)]) rfl k) ?_
            refine Wk.go (A' := s₁.setTop (mkF m 70 #[iv ((((((ix.toUInt32 >>> ((16 : Int32) &&& 31).toUInt32).toInt32).toUInt32 >>> ((8 : Int32) &&& 31).toUInt32).toInt32).toUInt32 >>> ((4 : Int32) &&& 31).toUInt32).toInt32), iv (1 : Int32)] [(.int ((((((ix.toUInt32 >>> ((16 : Int32) &&& 31).toUInt32).toInt32).toUInt32 >>> ((8 : Int32) &&& 31).toUInt32).toInt32).toUInt32 >>> ((4 : Int32) &&& 31).toUInt32).toInt32))])) (fun t k => XS.iloadN X0.here hx rfl (hb hby d5_69) rfl k) ?_
            refine Wk.go (A' := s₁.setTop (mkF m 71 #[iv ((((((ix.toUInt32 >>> ((16 : Int32) &&& 31).toUInt32).toInt32).toUInt32 >>> ((8 : Int32) &&& 31).toUInt32).toInt32).toUInt32 >>> ((4 : Int32) &&& 31).toUInt32).toInt32), iv (1 : Int32)] [(.int (2 : Int32)), (.int ((((((ix.toUInt32 >>> ((16 : Int32) &&& 31).toUInt32).toInt32).toUInt32 >>> ((8 : Int32) &&& 31).toUInt32).toInt32).toUInt32 >>> ((4 : Int32) &&& 31).toUInt32).toInt32))])) (fun t k => XS.iconst X0.here hx rfl (hb hby d5_70) k) ?_
            refine Wk.go (A' := s₁.setTop (mkF m 72 #[iv ((((((ix.toUInt32 >>> ((16 : Int32) &&& 31).toUInt32).toInt32).toUInt32 >>> ((8 : Int32) &&& 31).toUInt32).toInt32).toUInt32 >>> ((4 : Int32) &&& 31).toUInt32).toInt32), iv (1 : Int32)] [(.int ((((((((ix.toUInt32 >>> ((16 : Int32) &&& 31).toUInt32).toInt32).toUInt32 >>> ((8 : Int32) &&& 31).toUInt32).toInt32).toUInt32 >>> ((4 : Int32) &&& 31).toUInt32).toInt32).toUInt32 >>> ((2 : Int32) &&& 31).toUInt32).toInt32))])) (fun t k => XS.iushr X0.here hx rfl (hb hby d5_71) rfl k) ?_
            refine Wk.go (A' := s₁.setTop (mkF m 73 #[iv ((((((((ix.toUInt32 >>> ((16 : Int32) &&& 31).toUInt32).toInt32).toUInt32 >>> ((8 : Int32) &&& 31).toUInt32).toInt32).toUInt32 >>> ((4 : Int32) &&& 31).toUInt32).toInt32).toUInt32 >>> ((2 : Int32) &&& 31).toUInt32).toInt32), iv (1 : Int32)] [])) (fun t k => XS.istoreN X0.here hx rfl (hb hby d5_72) rfl (l' := #[iv ((((((((ix.toUInt32 >>> ((16 : Int32) &&& 31).toUInt32).toInt32).toUInt32 >>> ((8 : Int32) &&& 31).toUInt32).toInt32).toUInt32 >>> ((4 : Int32) &&& 31).toUInt32).toInt32).toUInt32 >>> ((2 : Int32) &&& 31).toUInt32).toInt32), iv (1 : Int32)]) rfl k) ?_
            refine Wk.go (A' := s₁.setTop (mkF m 74 #[iv ((((((((ix.toUInt32 >>> ((16 : Int32) &&& 31).toUInt32).toInt32).toUInt32 >>> ((8 : Int32) &&& 31).toUInt32).toInt32).toUInt32 >>> ((4 : Int32) &&& 31).toUInt32).toInt32).toUInt32 >>> ((2 : Int32) &&& 31).toUInt32).toInt32), iv (1 : Int32)] [(.int (1 : Int32))])) (fun t k => XS.iloadN X0.here hx rfl (hb hby d5_73) rfl k) ?_
            refine Wk.go (A' := s₁.setTop (mkF m 75 #[iv ((((((((ix.toUInt32 >>> ((16 : Int32) &&& 31).toUInt32).toInt32).toUInt32 >>> ((8 : Int32) &&& 31).toUInt32).toInt32).toUInt32 >>> ((4 : Int32) &&& 31).toUInt32).toInt32).toUInt32 >>> ((2 : Int32) &&& 31).toUInt32).toInt32), iv (1 : Int32)] [(.int ((((((((ix.toUInt32 >>> ((16 : Int32) &&& 31).toUInt32).toInt32).toUInt32 >>> ((8 : Int32) &&& 31).toUInt32).toInt32).toUInt32 >>> ((4 : Int32) &&& 31).toUInt32).toInt32).toUInt32 >>> ((2 : Int32) &&& 31).toUInt32).toInt32)), (.int (1 : Int32))])) (fun t k => XS.iloadN X0.here hx rfl (hb hby d5_74) rfl k) ?_
            refine Wk.go (A' := s₁.setTop (mkF m 76 #[iv ((((((((ix.toUInt32 >>> ((16 : Int32) &&& 31).toUInt32).toInt32).toUInt32 >>> ((8 : Int32) &&& 31).toUInt32).toInt32).toUInt32 >>> ((4 : Int32) &&& 31).toUInt32).toInt32).toUInt32 >>> ((2 : Int32) &&& 31).toUInt32).toInt32), iv (1 : Int32)] [(.int (1 : Int32)), (.int ((((((((ix.toUInt32 >>> ((16 : Int32) &&& 31).toUInt32).toInt32).toUInt32 >>> ((8 : Int32) &&& 31).toUInt32).toInt32).toUInt32 >>> ((4 : Int32) &&& 31).toUInt32).toInt32).toUInt32 >>> ((2 : Int32) &&& 31).toUInt32).toInt32)), (.int (1 : Int32))])) (fun t k => XS.iconst X0.here hx rfl (hb hby d5_75) k) ?_
            refine Wk.go (A' := s₁.setTop (mkF m 77 #[iv ((((((((ix.toUInt32 >>> ((16 : Int32) &&& 31).toUInt32).toInt32).toUInt32 >>> ((8 : Int32) &&& 31).toUInt32).toInt32).toUInt32 >>> ((4 : Int32) &&& 31).toUInt32).toInt32).toUInt32 >>> ((2 : Int32) &&& 31).toUInt32).toInt32), iv (1 : Int32)] [(.int ((((((((((ix.toUInt32 >>> ((16 : Int32) &&& 31).toUInt32).toInt32).toUInt32 >>> ((8 : Int32) &&& 31).toUInt32).toInt32).toUInt32 >>> ((4 : Int32) &&& 31).toUInt32).toInt32).toUInt32 >>> ((2 : Int32) &&& 31).toUInt32).toInt32).toUInt32 >>> ((1 : Int32) &&& 31).toUInt32).toInt32)), (.int (1 : Int32))])) (fun t k => XS.iushr X0.here hx rfl (hb hby d5_76) rfl k) ?_
            refine Wk.go (A' := s₁.setTop (mkF m 78 #[iv ((((((((ix.toUInt32 >>> ((16 : Int32) &&& 31).toUInt32).toInt32).toUInt32 >>> ((8 : Int32) &&& 31).toUInt32).toInt32).toUInt32 >>> ((4 : Int32) &&& 31).toUInt32).toInt32).toUInt32 >>> ((2 : Int32) &&& 31).toUInt32).toInt32), iv (1 : Int32)] [(.int ((1 : Int32) - ((((((((((ix.toUInt32 >>> ((16 : Int32) &&& 31).toUInt32).toInt32).toUInt32 >>> ((8 : Int32) &&& 31).toUInt32).toInt32).toUInt32 >>> ((4 : Int32) &&& 31).toUInt32).toInt32).toUInt32 >>> ((2 : Int32) &&& 31).toUInt32).toInt32).toUInt32 >>> ((1 : Int32) &&& 31).toUInt32).toInt32)))])) (fun t k => XS.isub X0.here hx rfl (hb hby d5_77) rfl k) ?_
            refine own_fin (Qv := Q5 Z ix h0 n0) (v := some (.int ((1 : Int32) - ((((((((((ix.toUInt32 >>> ((16 : Int32) &&& 31).toUInt32).toInt32).toUInt32 >>> ((8 : Int32) &&& 31).toUInt32).toInt32).toUInt32 >>> ((4 : Int32) &&& 31).toUInt32).toInt32).toUInt32 >>> ((2 : Int32) &&& 31).toUInt32).toInt32).toUInt32 >>> ((1 : Int32) &&& 31).toUInt32).toInt32)))) X0 hlk (fun h => by rw [Bd.returns] at h; cases h) (fun fs hr => retI X0 hx Bd.returns (hb hby d5_78) hr) ?_ (by decide) (by decide)
            refine ⟨?_, N0, e0⟩
            simp only [f_nlzi, if_pos hc1, if_neg hc22, if_neg hc37, if_neg hc51, if_neg hc63]
  · refine Wk.go (A' := s₁.setTop (mkF m 4 #[iv ix, .unset] [])) (fun t k => XS.ifNo X0.here hx rfl (hb hby d5_1) rfl ((if0 _ _).trans (flt hc1).2.2.1) k) ?_
    refine Wk.go (A' := s₁.setTop (mkF m 5 #[iv ix, .unset] [(.int ix)])) (fun t k => XS.iloadN X0.here hx rfl (hb hby d5_4) rfl k) ?_
    by_cases hc5 : ix = (0 : Int32)
    · refine Wk.go (A' := s₁.setTop (mkF m 8 #[iv ix, .unset] [])) (fun t k => XS.ifNo X0.here hx rfl (hb hby d5_5) rfl ((if0 _ _).trans (teq hc5).2) k) ?_
      refine Wk.go (A' := s₁.setTop (mkF m 10 #[iv ix, .unset] [(.int (32 : Int32))])) (fun t k => XS.bipush X0.here hx rfl (hb hby d5_8) k) ?_
      refine Wk.go (A' := s₁.setTop (mkF m 14 #[iv ix, .unset] [(.int (32 : Int32))])) (fun t k => XS.goto X0.here hx rfl (pc0 := 10) (pc' := 14) rfl (hb hby d5_10) (by decide) (by decide) k) ?_
      refine own_fin (Qv := Q5 Z ix h0 n0) (v := some (.int (32 : Int32))) X0 hlk (fun h => by rw [Bd.returns] at h; cases h) (fun fs hr => retI X0 hx Bd.returns (hb hby d5_14) hr) ?_ (by decide) (by decide)
      refine ⟨?_, N0, e0⟩
      simp only [f_nlzi, if_neg hc1, if_pos hc5]
    · refine Wk.go (A' := s₁.setTop (mkF m 13 #[iv ix, .unset] [])) (fun t k => XS.ifYes X0.here hx rfl (pc0 := 5) (pc' := 13) rfl (hb hby d5_5) rfl ((if0 _ _).trans (feq hc5).2) (by decide) (by decide) k) ?_
      refine Wk.go (A' := s₁.setTop (mkF m 14 #[iv ix, .unset] [(.int (0 : Int32))])) (fun t k => XS.iconst X0.here hx rfl (hb hby d5_13) k) ?_
      refine own_fin (Qv := Q5 Z ix h0 n0) (v := some (.int (0 : Int32))) X0 hlk (fun h => by rw [Bd.returns] at h; cases h) (fun fs hr => retI X0 hx Bd.returns (hb hby d5_14) hr) ?_ (by decide) (by decide)
      refine ⟨?_, N0, e0⟩
      simp only [f_nlzi, if_neg hc1, if_neg hc5]
theorem d4_0 : decode jdk_35_method_48_code 0 = .ok (.lload_n 0, 1) := by decide +kernel
theorem d4_1 : decode jdk_35_method_48_code 1 = .ok (.bipush 32, 2) := by decide +kernel
theorem d4_3 : decode jdk_35_method_48_code 3 = .ok (.lushr, 1) := by decide +kernel
theorem d4_4 : decode jdk_35_method_48_code 4 = .ok (.l2i, 1) := by decide +kernel
theorem d4_5 : decode jdk_35_method_48_code 5 = .ok (.istore_n 2, 1) := by decide +kernel
theorem d4_6 : decode jdk_35_method_48_code 6 = .ok (.iload_n 2, 1) := by decide +kernel
theorem d4_7 : decode jdk_35_method_48_code 7 = .ok (.ifCond .ne 14, 3) := by decide +kernel
theorem d4_10 : decode jdk_35_method_48_code 10 = .ok (.bipush 32, 2) := by decide +kernel
theorem d4_12 : decode jdk_35_method_48_code 12 = .ok (.lload_n 0, 1) := by decide +kernel
theorem d4_13 : decode jdk_35_method_48_code 13 = .ok (.l2i, 1) := by decide +kernel
theorem tw22 {Z : State} {a0 : Array Value} (hw : ∀ d ∈ tables_1, d.before a0 Z = true) : (Jvm.Cond.methodLink "java/lang/Long" (308 : Nat) ({ cls := "java/lang/Integer", name := "numberOfLeadingZeros", desc := "(I)I" } : Jvm.MethodName)).before a0 Z = true := hw _ (List.mem_of_getElem? (i := 22) rfl)
theorem tw25 {Z : State} {a0 : Array Value} (hw : ∀ d ∈ tables_1, d.before a0 Z = true) : (Jvm.Cond.code ({ cls := "java/lang/Integer", name := "numberOfLeadingZeros", desc := "(I)I" } : Jvm.MethodName) jdk_33_method_47_code (2 : Nat) (Option.some Jvm.ClassFile.FieldType.int)).before a0 Z = true := hw _ (List.mem_of_getElem? (i := 25) rfl)
theorem tw24 {Z : State} {a0 : Array Value} (hw : ∀ d ∈ tables_1, d.before a0 Z = true) : (Jvm.Cond.initialized "java/lang/Integer").before a0 Z = true := hw _ (List.mem_of_getElem? (i := 24) rfl)
theorem pd_0 : parseMethodDescriptor "(I)I" = some ⟨[.int], some .int⟩ := by decide +kernel
theorem d4_14 : decode jdk_35_method_48_code 14 = .ok (.invokestatic 308, 3) := by decide +kernel
theorem tw23 {Z : State} {a0 : Array Value} (hw : ∀ d ∈ tables_1, d.before a0 Z = true) : (Jvm.Cond.static ({ cls := "java/lang/Integer", name := "numberOfLeadingZeros", desc := "(I)I" } : Jvm.MethodName)).before a0 Z = true := hw _ (List.mem_of_getElem? (i := 23) rfl)
theorem d4_17 : decode jdk_35_method_48_code 17 = .ok (.iadd, 1) := by decide +kernel
theorem d4_18 : decode jdk_35_method_48_code 18 = .ok (.goto 7, 3) := by decide +kernel
theorem d4_25 : decode jdk_35_method_48_code 25 = .ok (.ireturn, 1) := by decide +kernel
theorem d4_21 : decode jdk_35_method_48_code 21 = .ok (.iload_n 2, 1) := by decide +kernel
theorem d4_22 : decode jdk_35_method_48_code 22 = .ok (.invokestatic 308, 3) := by decide +kernel
theorem pn_1 : plainName "java/lang/Long" = true := by first | (simp [plainName, overriddenIn]; done) | decide +kernel
theorem ef_4 (m : MethodId) (x0 : Int64) : entryFrame m #[(.long x0)] 3 = mkF m 0 #[jv x0, .second, .unset] [] := by first | (simp [entryFrame, mkF, argsToLocals, Value.category]; done) | rfl
def f_nlz (jx : Int64)  : Int32 := (if (((jx.toUInt64 >>> ((32 : Int32) &&& 0x3f).toInt64.toUInt64).toInt64).toInt32) = (0 : Int32) then ((32 : Int32) + (f_nlzi (jx.toInt32))) else (f_nlzi (((jx.toUInt64 >>> ((32 : Int32) &&& 0x3f).toInt64.toUInt64).toInt64).toInt32)))
def Q4 (Z : State) (jx : Int64)  (h0 : Heap) (n0 : Nat) (v : Option Value) (h : Heap) (L : List Loc) : Prop := v = some (.int (f_nlz jx)) ∧ Fr n0 L ∧ h = h0
set_option maxRecDepth 65536 in
set_option maxHeartbeats 40000000 in
theorem rm4 (l : Launch) (Z : State) (a0 : Array Value) (hw : ∀ d ∈ tables_1, d.before a0 Z = true) (ws : List Jvm.Cond) (jx : Int64)  (h0 : Heap) (n0 : Nat) (Z0 : n0 ≤ h0.size)  :
    MetFree l (⟨"java/lang/Long", "numberOfLeadingZeros", "(J)I"⟩ : MethodName) (head1 (Jvm.Cond.code (⟨"java/lang/Long", "numberOfLeadingZeros", "(J)I"⟩ : MethodName) jdk_35_method_48_code 3 (some .int) :: ws) ({ frames := 1, cells := 0, slots := 0, locals := 14 } : Room)) (fun a U => a = #[(.long jx)] ∧ Z.Warmed39 U.vm ∧ U.heap = h0) (fun _ _ _ _ _ => True) (fun _ U o U' => ∃ v L, o = .returned v ∧ Q4 Z jx h0 n0 v U'.heap L ∧ FrameEnd U o U' L ({ frames := 1, cells := 0, slots := 0, locals := 14 } : Room).cells ({ frames := 1, cells := 0, slots := 0, locals := 14 } : Room).slots) := by
  refine MetFree.of_bodySF (plainFor_of_name pn_1) hisR ?_
  intro p e s m args below meth c s₁ Bd hml0 hP hK
  obtain ⟨rfl, hZ, hh⟩ := hP
  have hx := Bd.exec
  have hby := Bd.bytes
  have hml : c.maxLocals = 3 := hml0
  have hown : s.vm.findClass "java/lang/Long" = some m.cls := findClass_of_methodNamed Bd.named
  have hnm := (name_of_methodNamed Bd.named Bd.method).1
  have X0 : Stand p l e ({ frames := 1, cells := 0, slots := 0, locals := 14 } : Room) s m #[(.long jx)] below meth c s₁ [] 0 0 := Stand.of_body Bd
  have e0 : s₁.heap = h0 := by rw [← hh, Bd.state]; rfl
  have N0 := Fr.nil n0
  have hlk : meth.locks = false := BodyLoose.notSynchronized Bd
  suffices hwk : Wk p.tables e below (s₁.setTop (mkF m 0 #[jv jx, .second, .unset] [])) (fun U o => U.status = .running ∧ Ended U below o ∧ ∃ v L, o = .returned v ∧ Q4 Z jx h0 n0 v U.heap L ∧ FrameEnd s o U L 0 0) by
    obtain ⟨U, o, k1, k2⟩ := hwk
    exact ⟨U, o, castTop (ef_4 m jx) k1, k2⟩
  refine Wk.go (A' := s₁.setTop (mkF m 1 #[jv jx, .second, .unset] [(.long jx)])) (fun t k => XS.lloadN X0.here hx rfl (hb hby d4_0) rfl k) ?_
  refine Wk.go (A' := s₁.setTop (mkF m 3 #[jv jx, .second, .unset] [(.int (32 : Int32)), (.long jx)])) (fun t k => XS.bipush X0.here hx rfl (hb hby d4_1) k) ?_
  refine Wk.go (A' := s₁.setTop (mkF m 4 #[jv jx, .second, .unset] [(.long ((jx.toUInt64 >>> ((32 : Int32) &&& 0x3f).toInt64.toUInt64).toInt64))])) (fun t k => XS.lushr X0.here hx rfl (hb hby d4_3) rfl k) ?_
  refine Wk.go (A' := s₁.setTop (mkF m 5 #[jv jx, .second, .unset] [(.int (((jx.toUInt64 >>> ((32 : Int32) &&& 0x3f).toInt64.toUInt64).toInt64).toInt32))])) (fun t k => XS.l2i X0.here hx rfl (hb hby d4_4) rfl k) ?_
  refine Wk.go (A' := s₁.setTop (mkF m 6 #[jv jx, .second, iv (((jx.toUInt64 >>> ((32 : Int32) &&& 0x3f).toInt64.toUInt64).toInt64).toInt32)] [])) (fun t k => XS.istoreN X0.here hx rfl (hb hby d4_5) rfl (l' := #[jv jx, .second, iv (((jx.toUInt64 >>> ((32 : Int32) &&& 0x3f).toInt64.toUInt64).toInt64).toInt32)]) rfl k) ?_
  refine Wk.go (A' := s₁.setTop (mkF m 7 #[jv jx, .second, iv (((jx.toUInt64 >>> ((32 : Int32) &&& 0x3f).toInt64.toUInt64).toInt64).toInt32)] [(.int (((jx.toUInt64 >>> ((32 : Int32) &&& 0x3f).toInt64.toUInt64).toInt64).toInt32))])) (fun t k => XS.iloadN X0.here hx rfl (hb hby d4_6) rfl k) ?_
  by_cases hc7 : (((jx.toUInt64 >>> ((32 : Int32) &&& 0x3f).toInt64.toUInt64).toInt64).toInt32) = (0 : Int32)
  · refine Wk.go (A' := s₁.setTop (mkF m 10 #[jv jx, .second, iv (((jx.toUInt64 >>> ((32 : Int32) &&& 0x3f).toInt64.toUInt64).toInt64).toInt32)] [])) (fun t k => XS.ifNo X0.here hx rfl (hb hby d4_7) rfl ((if0 _ _).trans (teq hc7).2) k) ?_
    refine Wk.go (A' := s₁.setTop (mkF m 12 #[jv jx, .second, iv (((jx.toUInt64 >>> ((32 : Int32) &&& 0x3f).toInt64.toUInt64).toInt64).toInt32)] [(.int (32 : Int32))])) (fun t k => XS.bipush X0.here hx rfl (hb hby d4_10) k) ?_
    refine Wk.go (A' := s₁.setTop (mkF m 13 #[jv jx, .second, iv (((jx.toUInt64 >>> ((32 : Int32) &&& 0x3f).toInt64.toUInt64).toInt64).toInt32)] [(.long jx), (.int (32 : Int32))])) (fun t k => XS.lloadN X0.here hx rfl (hb hby d4_12) rfl k) ?_
    refine Wk.go (A' := s₁.setTop (mkF m 14 #[jv jx, .second, iv (((jx.toUInt64 >>> ((32 : Int32) &&& 0x3f).toInt64.toUInt64).toInt64).toInt32)] [(.int (jx.toInt32)), (.int (32 : Int32))])) (fun t k => XS.l2i X0.here hx rfl (hb hby d4_13) rfl k) ?_
    obtain ⟨_, _, ⟨T1, L1, k1, n1⟩, -, X1, ⟨Lc1, hQ1, l1, y1, z1⟩, st1⟩ := Jvm.LawKit.callS X0 hx (y := (⟨"java/lang/Integer", "numberOfLeadingZeros", "(I)I"⟩ : MethodName)) hown (mvT hZ (tw22 hw)) (mvT hZ (tw23 hw)) (mvT hZ (tw24 hw)) (mvT hZ (tw25 hw)) (by decide) (backOf (W := 1) (rm5 l Z a0 hw [] (jx.toInt32)  h0 n0 Z0 ) hZ (tw25 hw) (tw24 hw) (by decide) (by decide)) (g := (mkF m 14 #[jv jx, .second, iv (((jx.toUInt64 >>> ((32 : Int32) &&& 0x3f).toInt64.toUInt64).toInt64).toInt32)] [(.int (jx.toInt32)), (.int (32 : Int32))])) rfl (by rw [hml]; rfl) (argsL := [(.int (jx.toInt32))]) (rest := [(.int (32 : Int32))]) (lenOf pd_0 rfl) rfl (by show 2 * 0 + _ ≤ _; exact Nat.le_of_eq rfl) (hb hby d4_14) (fun _ _ => ⟨rfl, e0, (by decide : 0 + 0 ≤ _), (by decide : 0 + 0 ≤ _)⟩)
    dsimp only [Pt.U, Pt.locs, Pt.cells, Pt.slots] at X1 l1 y1 z1 st1 hQ1
    subst l1 y1 z1
    obtain ⟨rfl, N1q, hE1⟩ := hQ1
    have N1 := Fr.app N0 N1q
    refine Wk.go (A' := T1.setTop (mkF m 17 #[jv jx, .second, iv (((jx.toUInt64 >>> ((32 : Int32) &&& 0x3f).toInt64.toUInt64).toInt64).toInt32)] [(.int (f_nlzi (jx.toInt32))), (.int (32 : Int32))])) (fun t k => st1 t k) ?_
    refine Wk.go (A' := T1.setTop (mkF m 18 #[jv jx, .second, iv (((jx.toUInt64 >>> ((32 : Int32) &&& 0x3f).toInt64.toUInt64).toInt64).toInt32)] [(.int ((32 : Int32) + (f_nlzi (jx.toInt32))))])) (fun t k => XS.iadd X1.here hx rfl (hb hby d4_17) rfl k) ?_
    refine Wk.go (A' := T1.setTop (mkF m 25 #[jv jx, .second, iv (((jx.toUInt64 >>> ((32 : Int32) &&& 0x3f).toInt64.toUInt64).toInt64).toInt32)] [(.int ((32 : Int32) + (f_nlzi (jx.toInt32))))])) (fun t k => XS.goto X1.here hx rfl (pc0 := 18) (pc' := 25) rfl (hb hby d4_18) (by decide) (by decide) k) ?_
    refine own_fin (Qv := Q4 Z jx h0 n0) (v := some (.int ((32 : Int32) + (f_nlzi (jx.toInt32))))) X1 hlk (fun h => by rw [Bd.returns] at h; cases h) (fun fs hr => retI X1 hx Bd.returns (hb hby d4_25) hr) ?_ (by decide) (by decide)
    refine ⟨?_, N1, (hE1)⟩
    simp only [f_nlz, if_pos hc7]
  · refine Wk.go (A' := s₁.setTop (mkF m 21 #[jv jx, .second, iv (((jx.toUInt64 >>> ((32 : Int32) &&& 0x3f).toInt64.toUInt64).toInt64).toInt32)] [])) (fun t k => XS.ifYes X0.here hx rfl (pc0 := 7) (pc' := 21) rfl (hb hby d4_7) rfl ((if0 _ _).trans (feq hc7).2) (by decide) (by decide) k) ?_
    refine Wk.go (A' := s₁.setTop (mkF m 22 #[jv jx, .second, iv (((jx.toUInt64 >>> ((32 : Int32) &&& 0x3f).toInt64.toUInt64).toInt64).toInt32)] [(.int (((jx.toUInt64 >>> ((32 : Int32) &&& 0x3f).toInt64.toUInt64).toInt64).toInt32))])) (fun t k => XS.iloadN X0.here hx rfl (hb hby d4_21) rfl k) ?_
    obtain ⟨_, _, ⟨T2, L2, k2, n2⟩, -, X2, ⟨Lc2, hQ2, l2, y2, z2⟩, st2⟩ := Jvm.LawKit.callS X0 hx (y := (⟨"java/lang/Integer", "numberOfLeadingZeros", "(I)I"⟩ : MethodName)) hown (mvT hZ (tw22 hw)) (mvT hZ (tw23 hw)) (mvT hZ (tw24 hw)) (mvT hZ (tw25 hw)) (by decide) (backOf (W := 0) (rm5 l Z a0 hw [] (((jx.toUInt64 >>> ((32 : Int32) &&& 0x3f).toInt64.toUInt64).toInt64).toInt32)  h0 n0 Z0 ) hZ (tw25 hw) (tw24 hw) (by decide) (by decide)) (g := (mkF m 22 #[jv jx, .second, iv (((jx.toUInt64 >>> ((32 : Int32) &&& 0x3f).toInt64.toUInt64).toInt64).toInt32)] [(.int (((jx.toUInt64 >>> ((32 : Int32) &&& 0x3f).toInt64.toUInt64).toInt64).toInt32))])) rfl (by rw [hml]; rfl) (argsL := [(.int (((jx.toUInt64 >>> ((32 : Int32) &&& 0x3f).toInt64.toUInt64).toInt64).toInt32))]) (rest := []) (lenOf pd_0 rfl) rfl (by show 2 * 0 + _ ≤ _; exact Nat.le_of_eq rfl) (hb hby d4_22) (fun _ _ => ⟨rfl, e0, (by decide : 0 + 0 ≤ _), (by decide : 0 + 0 ≤ _)⟩)
    dsimp only [Pt.U, Pt.locs, Pt.cells, Pt.slots] at X2 l2 y2 z2 st2 hQ2
    subst l2 y2 z2
    obtain ⟨rfl, N2q, hE2⟩ := hQ2
    have N2 := Fr.app N0 N2q
    refine Wk.go (A' := T2.setTop (mkF m 25 #[jv jx, .second, iv (((jx.toUInt64 >>> ((32 : Int32) &&& 0x3f).toInt64.toUInt64).toInt64).toInt32)] [(.int (f_nlzi (((jx.toUInt64 >>> ((32 : Int32) &&& 0x3f).toInt64.toUInt64).toInt64).toInt32)))])) (fun t k => st2 t k) ?_
    refine own_fin (Qv := Q4 Z jx h0 n0) (v := some (.int (f_nlzi (((jx.toUInt64 >>> ((32 : Int32) &&& 0x3f).toInt64.toUInt64).toInt64).toInt32)))) X2 hlk (fun h => by rw [Bd.returns] at h; cases h) (fun fs hr => retI X2 hx Bd.returns (hb hby d4_25) hr) ?_ (by decide) (by decide)
    refine ⟨?_, N2, (hE2)⟩
    simp only [f_nlz, if_neg hc7]
theorem d1_0 : decode prog_115_method_19_code 0 = .ok (.lload_n 0, 1) := by decide +kernel
theorem d1_1 : decode prog_115_method_19_code 1 = .ok (.lconst 0, 1) := by decide +kernel
theorem d1_2 : decode prog_115_method_19_code 2 = .ok (.lcmp, 1) := by decide +kernel
theorem d1_3 : decode prog_115_method_19_code 3 = .ok (.ifCond .ne 8, 3) := by decide +kernel
theorem d1_6 : decode prog_115_method_19_code 6 = .ok (.lconst 0, 1) := by decide +kernel
theorem d1_7 : decode prog_115_method_19_code 7 = .ok (.lstore_n 2, 1) := by decide +kernel
theorem d1_8 : decode prog_115_method_19_code 8 = .ok (.goto 34, 3) := by decide +kernel
theorem d1_42 : decode prog_115_method_19_code 42 = .ok (.lload_n 2, 1) := by decide +kernel
theorem d1_43 : decode prog_115_method_19_code 43 = .ok (.lreturn, 1) := by decide +kernel
theorem d1_11 : decode prog_115_method_19_code 11 = .ok (.lload_n 0, 1) := by decide +kernel
theorem tw6 {Z : State} {a0 : Array Value} (hw : ∀ d ∈ tables_1, d.before a0 Z = true) : (Jvm.Cond.constantLong "com/example/pledge/pledge/log/Table" (242 : Nat) (12 : Int64)).before a0 Z = true := hw _ (List.mem_of_getElem? (i := 6) rfl)
theorem d1_12 : decode prog_115_method_19_code 12 = .ok (.ldc2_w 242, 3) := by decide +kernel
theorem d1_15 : decode prog_115_method_19_code 15 = .ok (.lcmp, 1) := by decide +kernel
theorem d1_16 : decode prog_115_method_19_code 16 = .ok (.ifCond .ge 15, 3) := by decide +kernel
theorem d1_19 : decode prog_115_method_19_code 19 = .ok (.lconst 1, 1) := by decide +kernel
theorem tw7 {Z : State} {a0 : Array Value} (hw : ∀ d ∈ tables_1, d.before a0 Z = true) : (Jvm.Cond.constantLong "com/example/pledge/pledge/log/Table" (244 : Nat) (8 : Int64)).before a0 Z = true := hw _ (List.mem_of_getElem? (i := 7) rfl)
theorem d1_20 : decode prog_115_method_19_code 20 = .ok (.ldc2_w 244, 3) := by decide +kernel
theorem d1_23 : decode prog_115_method_19_code 23 = .ok (.lload_n 0, 1) := by decide +kernel
theorem d1_24 : decode prog_115_method_19_code 24 = .ok (.ladd, 1) := by decide +kernel
theorem d1_25 : decode prog_115_method_19_code 25 = .ok (.l2i, 1) := by decide +kernel
theorem d1_26 : decode prog_115_method_19_code 26 = .ok (.lshl, 1) := by decide +kernel
theorem d1_27 : decode prog_115_method_19_code 27 = .ok (.lstore_n 2, 1) := by decide +kernel
theorem d1_28 : decode prog_115_method_19_code 28 = .ok (.goto 14, 3) := by decide +kernel
theorem d1_31 : decode prog_115_method_19_code 31 = .ok (.lload_n 0, 1) := by decide +kernel
theorem d1_32 : decode prog_115_method_19_code 32 = .ok (.ldc2_w 242, 3) := by decide +kernel
theorem d1_35 : decode prog_115_method_19_code 35 = .ok (.lsub, 1) := by decide +kernel
theorem d1_36 : decode prog_115_method_19_code 36 = .ok (.lconst 1, 1) := by decide +kernel
theorem d1_37 : decode prog_115_method_19_code 37 = .ok (.ladd, 1) := by decide +kernel
theorem d1_38 : decode prog_115_method_19_code 38 = .ok (.bipush 20, 2) := by decide +kernel
theorem d1_40 : decode prog_115_method_19_code 40 = .ok (.lshl, 1) := by decide +kernel
theorem d1_41 : decode prog_115_method_19_code 41 = .ok (.lstore_n 2, 1) := by decide +kernel
theorem pn_2 : plainName "com/example/pledge/pledge/log/Table" = true := by first | (simp [plainName, overriddenIn]; done) | decide +kernel
theorem ef_1 (m : MethodId) (x0 : Int64) : entryFrame m #[(.long x0)] 4 = mkF m 0 #[jv x0, .second, .unset, .unset] [] := by first | (simp [entryFrame, mkF, argsToLocals, Value.category]; done) | rfl
def f_start (nx : Int64)  : Int64 := (if nx = (0 : Int64) then (0 : Int64) else (if nx < (12 : Int64) then ((1 : Int64) <<< ((((8 : Int64) + nx).toInt32) &&& 0x3f).toInt64) else (((nx - (12 : Int64)) + (1 : Int64)) <<< ((20 : Int32) &&& 0x3f).toInt64)))
def Q1 (Z : State) (nx : Int64)  (h0 : Heap) (n0 : Nat) (v : Option Value) (h : Heap) (L : List Loc) : Prop := v = some (.long (f_start nx)) ∧ Fr n0 L ∧ h = h0
set_option maxRecDepth 65536 in
set_option maxHeartbeats 40000000 in
theorem rm1 (l : Launch) (Z : State) (a0 : Array Value) (hw : ∀ d ∈ tables_1, d.before a0 Z = true) (ws : List Jvm.Cond) (nx : Int64)  (h0 : Heap) (n0 : Nat) (Z0 : n0 ≤ h0.size)  :
    MetFree l (⟨"com/example/pledge/pledge/log/Table", "chunkStart", "(J)J"⟩ : MethodName) (head1 (Jvm.Cond.code (⟨"com/example/pledge/pledge/log/Table", "chunkStart", "(J)J"⟩ : MethodName) prog_115_method_19_code 4 (some .long) :: ws) ({ frames := 0, cells := 0, slots := 0, locals := 0 } : Room)) (fun a U => a = #[(.long nx)] ∧ Z.Warmed39 U.vm ∧ U.heap = h0) (fun _ _ _ _ _ => True) (fun _ U o U' => ∃ v L, o = .returned v ∧ Q1 Z nx h0 n0 v U'.heap L ∧ FrameEnd U o U' L ({ frames := 0, cells := 0, slots := 0, locals := 0 } : Room).cells ({ frames := 0, cells := 0, slots := 0, locals := 0 } : Room).slots) := by
  refine MetFree.of_bodySF (plainFor_of_name pn_2) hisR ?_
  intro p e s m args below meth c s₁ Bd hml0 hP hK
  obtain ⟨rfl, hZ, hh⟩ := hP
  have hx := Bd.exec
  have hby := Bd.bytes
  have hml : c.maxLocals = 4 := hml0
  have hown : s.vm.findClass "com/example/pledge/pledge/log/Table" = some m.cls := findClass_of_methodNamed Bd.named
  have hnm := (name_of_methodNamed Bd.named Bd.method).1
  have X0 : Stand p l e ({ frames := 0, cells := 0, slots := 0, locals := 0 } : Room) s m #[(.long nx)] below meth c s₁ [] 0 0 := Stand.of_body Bd
  have e0 : s₁.heap = h0 := by rw [← hh, Bd.state]; rfl
  have N0 := Fr.nil n0
  have hlk : meth.locks = false := BodyLoose.notSynchronized Bd
  suffices hwk : Wk p.tables e below (s₁.setTop (mkF m 0 #[jv nx, .second, .unset, .unset] [])) (fun U o => U.status = .running ∧ Ended U below o ∧ ∃ v L, o = .returned v ∧ Q1 Z nx h0 n0 v U.heap L ∧ FrameEnd s o U L 0 0) by
    obtain ⟨U, o, k1, k2⟩ := hwk
    exact ⟨U, o, castTop (ef_1 m nx) k1, k2⟩
  refine Wk.go (A' := s₁.setTop (mkF m 1 #[jv nx, .second, .unset, .unset] [(.long nx)])) (fun t k => XS.lloadN X0.here hx rfl (hb hby d1_0) rfl k) ?_
  refine Wk.go (A' := s₁.setTop (mkF m 2 #[jv nx, .second, .unset, .unset] [(.long (0 : Int64)), (.long nx)])) (fun t k => XS.lconst X0.here hx rfl (hb hby d1_1) k) ?_
  refine Wk.go (A' := s₁.setTop (mkF m 3 #[jv nx, .second, .unset, .unset] [(.int (lcmpW nx (0 : Int64)))])) (fun t k => XS.lcmp X0.here hx rfl (hb hby d1_2) rfl k) ?_
  by_cases hc3 : nx = (0 : Int64)
  · refine Wk.go (A' := s₁.setTop (mkF m 6 #[jv nx, .second, .unset, .unset] [])) (fun t k => XS.ifNo X0.here hx rfl (hb hby d1_3) rfl ((if0 _ _).trans (teq ((lw_eq _ _).mpr hc3)).2) k) ?_
    refine Wk.go (A' := s₁.setTop (mkF m 7 #[jv nx, .second, .unset, .unset] [(.long (0 : Int64))])) (fun t k => XS.lconst X0.here hx rfl (hb hby d1_6) k) ?_
    refine Wk.go (A' := s₁.setTop (mkF m 8 #[jv nx, .second, jv (0 : Int64), .second] [])) (fun t k => XS.lstoreN X0.here hx rfl (hb hby d1_7) rfl (l' := #[jv nx, .second, jv (0 : Int64), .second]) rfl k) ?_
    refine Wk.go (A' := s₁.setTop (mkF m 42 #[jv nx, .second, jv (0 : Int64), .second] [])) (fun t k => XS.goto X0.here hx rfl (pc0 := 8) (pc' := 42) rfl (hb hby d1_8) (by decide) (by decide) k) ?_
    refine Wk.go (A' := s₁.setTop (mkF m 43 #[jv nx, .second, jv (0 : Int64), .second] [(.long (0 : Int64))])) (fun t k => XS.lloadN X0.here hx rfl (hb hby d1_42) rfl k) ?_
    refine own_fin (Qv := Q1 Z nx h0 n0) (v := some (.long (0 : Int64))) X0 hlk (fun h => by rw [Bd.returns] at h; cases h) (fun fs hr => X0.lreturnOut hx Bd.returns (hb hby d1_43) hr) ?_ (by decide) (by decide)
    refine ⟨?_, N0, e0⟩
    simp only [f_start, if_pos hc3]
  · refine Wk.go (A' := s₁.setTop (mkF m 11 #[jv nx, .second, .unset, .unset] [])) (fun t k => XS.ifYes X0.here hx rfl (pc0 := 3) (pc' := 11) rfl (hb hby d1_3) rfl ((if0 _ _).trans (feq (mt (lw_eq _ _).mp hc3)).2) (by decide) (by decide) k) ?_
    refine Wk.go (A' := s₁.setTop (mkF m 12 #[jv nx, .second, .unset, .unset] [(.long nx)])) (fun t k => XS.lloadN X0.here hx rfl (hb hby d1_11) rfl k) ?_
    refine Wk.go (A' := s₁.setTop (mkF m 15 #[jv nx, .second, .unset, .unset] [(.long (12 : Int64)), (.long nx)])) (fun t k => X0.ldc2Long hx hown (mvT hZ (tw6 hw)) (g := (mkF m 12 #[jv nx, .second, .unset, .unset] [(.long nx)])) rfl (hb hby d1_12) t k) ?_
    refine Wk.go (A' := s₁.setTop (mkF m 16 #[jv nx, .second, .unset, .unset] [(.int (lcmpW nx (12 : Int64)))])) (fun t k => XS.lcmp X0.here hx rfl (hb hby d1_15) rfl k) ?_
    by_cases hc16 : nx < (12 : Int64)
    · refine Wk.go (A' := s₁.setTop (mkF m 19 #[jv nx, .second, .unset, .unset] [])) (fun t k => XS.ifNo X0.here hx rfl (hb hby d1_16) rfl ((if0 _ _).trans (tlt ((lw_lt _ _).mpr hc16)).2.1) k) ?_
      refine Wk.go (A' := s₁.setTop (mkF m 20 #[jv nx, .second, .unset, .unset] [(.long (1 : Int64))])) (fun t k => XS.lconst X0.here hx rfl (hb hby d1_19) k) ?_
      refine Wk.go (A' := s₁.setTop (mkF m 23 #[jv nx, .second, .unset, .unset] [(.long (8 : Int64)), (.long (1 : Int64))])) (fun t k => X0.ldc2Long hx hown (mvT hZ (tw7 hw)) (g := (mkF m 20 #[jv nx, .second, .unset, .unset] [(.long (1 : Int64))])) rfl (hb hby d1_20) t k) ?_
      refine Wk.go (A' := s₁.setTop (mkF m 24 #[jv nx, .second, .unset, .unset] [(.long nx), (.long (8 : Int64)), (.long (1 : Int64))])) (fun t k => XS.lloadN X0.here hx rfl (hb hby d1_23) rfl k) ?_
      refine Wk.go (A' := s₁.setTop (mkF m 25 #[jv nx, .second, .unset, .unset] [(.long ((8 : Int64) + nx)), (.long (1 : Int64))])) (fun t k => XS.ladd X0.here hx rfl (hb hby d1_24) rfl k) ?_
      refine Wk.go (A' := s₁.setTop (mkF m 26 #[jv nx, .second, .unset, .unset] [(.int (((8 : Int64) + nx).toInt32)), (.long (1 : Int64))])) (fun t k => XS.l2i X0.here hx rfl (hb hby d1_25) rfl k) ?_
      refine Wk.go (A' := s₁.setTop (mkF m 27 #[jv nx, .second, .unset, .unset] [(.long ((1 : Int64) <<< ((((8 : Int64) + nx).toInt32) &&& 0x3f).toInt64))])) (fun t k => XS.lshl X0.here hx rfl (hb hby d1_26) rfl k) ?_
      refine Wk.go (A' := s₁.setTop (mkF m 28 #[jv nx, .second, jv ((1 : Int64) <<< ((((8 : Int64) + nx).toInt32) &&& 0x3f).toInt64), .second] [])) (fun t k => XS.lstoreN X0.here hx rfl (hb hby d1_27) rfl (l' := #[jv nx, .second, jv ((1 : Int64) <<< ((((8 : Int64) + nx).toInt32) &&& 0x3f).toInt64), .second]) rfl k) ?_
      refine Wk.go (A' := s₁.setTop (mkF m 42 #[jv nx, .second, jv ((1 : Int64) <<< ((((8 : Int64) + nx).toInt32) &&& 0x3f).toInt64), .second] [])) (fun t k => XS.goto X0.here hx rfl (pc0 := 28) (pc' := 42) rfl (hb hby d1_28) (by decide) (by decide) k) ?_
      refine Wk.go (A' := s₁.setTop (mkF m 43 #[jv nx, .second, jv ((1 : Int64) <<< ((((8 : Int64) + nx).toInt32) &&& 0x3f).toInt64), .second] [(.long ((1 : Int64) <<< ((((8 : Int64) + nx).toInt32) &&& 0x3f).toInt64))])) (fun t k => XS.lloadN X0.here hx rfl (hb hby d1_42) rfl k) ?_
      refine own_fin (Qv := Q1 Z nx h0 n0) (v := some (.long ((1 : Int64) <<< ((((8 : Int64) + nx).toInt32) &&& 0x3f).toInt64))) X0 hlk (fun h => by rw [Bd.returns] at h; cases h) (fun fs hr => X0.lreturnOut hx Bd.returns (hb hby d1_43) hr) ?_ (by decide) (by decide)
      refine ⟨?_, N0, e0⟩
      simp only [f_start, if_neg hc3, if_pos hc16]
    · refine Wk.go (A' := s₁.setTop (mkF m 31 #[jv nx, .second, .unset, .unset] [])) (fun t k => XS.ifYes X0.here hx rfl (pc0 := 16) (pc' := 31) rfl (hb hby d1_16) rfl ((if0 _ _).trans (flt (mt (lw_lt _ _).mp hc16)).2.1) (by decide) (by decide) k) ?_
      refine Wk.go (A' := s₁.setTop (mkF m 32 #[jv nx, .second, .unset, .unset] [(.long nx)])) (fun t k => XS.lloadN X0.here hx rfl (hb hby d1_31) rfl k) ?_
      refine Wk.go (A' := s₁.setTop (mkF m 35 #[jv nx, .second, .unset, .unset] [(.long (12 : Int64)), (.long nx)])) (fun t k => X0.ldc2Long hx hown (mvT hZ (tw6 hw)) (g := (mkF m 32 #[jv nx, .second, .unset, .unset] [(.long nx)])) rfl (hb hby d1_32) t k) ?_
      refine Wk.go (A' := s₁.setTop (mkF m 36 #[jv nx, .second, .unset, .unset] [(.long (nx - (12 : Int64)))])) (fun t k => XS.lsub X0.here hx rfl (hb hby d1_35) rfl k) ?_
      refine Wk.go (A' := s₁.setTop (mkF m 37 #[jv nx, .second, .unset, .unset] [(.long (1 : Int64)), (.long (nx - (12 : Int64)))])) (fun t k => XS.lconst X0.here hx rfl (hb hby d1_36) k) ?_
      refine Wk.go (A' := s₁.setTop (mkF m 38 #[jv nx, .second, .unset, .unset] [(.long ((nx - (12 : Int64)) + (1 : Int64)))])) (fun t k => XS.ladd X0.here hx rfl (hb hby d1_37) rfl k) ?_
      refine Wk.go (A' := s₁.setTop (mkF m 40 #[jv nx, .second, .unset, .unset] [(.int (20 : Int32)), (.long ((nx - (12 : Int64)) + (1 : Int64)))])) (fun t k => XS.bipush X0.here hx rfl (hb hby d1_38) k) ?_
      refine Wk.go (A' := s₁.setTop (mkF m 41 #[jv nx, .second, .unset, .unset] [(.long (((nx - (12 : Int64)) + (1 : Int64)) <<< ((20 : Int32) &&& 0x3f).toInt64))])) (fun t k => XS.lshl X0.here hx rfl (hb hby d1_40) rfl k) ?_
      refine Wk.go (A' := s₁.setTop (mkF m 42 #[jv nx, .second, jv (((nx - (12 : Int64)) + (1 : Int64)) <<< ((20 : Int32) &&& 0x3f).toInt64), .second] [])) (fun t k => XS.lstoreN X0.here hx rfl (hb hby d1_41) rfl (l' := #[jv nx, .second, jv (((nx - (12 : Int64)) + (1 : Int64)) <<< ((20 : Int32) &&& 0x3f).toInt64), .second]) rfl k) ?_
      refine Wk.go (A' := s₁.setTop (mkF m 43 #[jv nx, .second, jv (((nx - (12 : Int64)) + (1 : Int64)) <<< ((20 : Int32) &&& 0x3f).toInt64), .second] [(.long (((nx - (12 : Int64)) + (1 : Int64)) <<< ((20 : Int32) &&& 0x3f).toInt64))])) (fun t k => XS.lloadN X0.here hx rfl (hb hby d1_42) rfl k) ?_
      refine own_fin (Qv := Q1 Z nx h0 n0) (v := some (.long (((nx - (12 : Int64)) + (1 : Int64)) <<< ((20 : Int32) &&& 0x3f).toInt64))) X0 hlk (fun h => by rw [Bd.returns] at h; cases h) (fun fs hr => X0.lreturnOut hx Bd.returns (hb hby d1_43) hr) ?_ (by decide) (by decide)
      refine ⟨?_, N0, e0⟩
      simp only [f_start, if_neg hc3, if_neg hc16]
theorem d2_0 : decode method_2_code 0 = .ok (.lload_n 0, 1) := by decide +kernel
theorem d2_1 : decode method_2_code 1 = .ok (.lconst 0, 1) := by decide +kernel
theorem d2_2 : decode method_2_code 2 = .ok (.lcmp, 1) := by decide +kernel
theorem d2_3 : decode method_2_code 3 = .ok (.ifCond .ne 7, 3) := by decide +kernel
theorem tw30 {Z : State} {a0 : Array Value} (hw : ∀ d ∈ tables_1, d.before a0 Z = true) : (Jvm.Cond.constantLong "com/example/pledge/pledge/log/TableChunkStartPinLaw" (7 : Nat) (512 : Int64)).before a0 Z = true := hw _ (List.mem_of_getElem? (i := 30) rfl)
theorem d2_6 : decode method_2_code 6 = .ok (.ldc2_w 7, 3) := by decide +kernel
theorem d2_9 : decode method_2_code 9 = .ok (.lreturn, 1) := by decide +kernel
theorem d2_10 : decode method_2_code 10 = .ok (.lload_n 0, 1) := by decide +kernel
theorem tw12 {Z : State} {a0 : Array Value} (hw : ∀ d ∈ tables_1, d.before a0 Z = true) : (Jvm.Cond.constantLong "com/example/pledge/pledge/log/TableChunkStartPinLaw" (9 : Nat) (12 : Int64)).before a0 Z = true := hw _ (List.mem_of_getElem? (i := 12) rfl)
theorem d2_11 : decode method_2_code 11 = .ok (.ldc2_w 9, 3) := by decide +kernel
theorem d2_14 : decode method_2_code 14 = .ok (.lcmp, 1) := by decide +kernel
theorem d2_15 : decode method_2_code 15 = .ok (.ifCond .ge 5, 3) := by decide +kernel
theorem d2_18 : decode method_2_code 18 = .ok (.lload_n 2, 1) := by decide +kernel
theorem d2_19 : decode method_2_code 19 = .ok (.lreturn, 1) := by decide +kernel
theorem tw27 {Z : State} {a0 : Array Value} (hw : ∀ d ∈ tables_1, d.before a0 Z = true) : (Jvm.Cond.constantLong "com/example/pledge/pledge/log/TableChunkStartPinLaw" (11 : Nat) (1048576 : Int64)).before a0 Z = true := hw _ (List.mem_of_getElem? (i := 27) rfl)
theorem d2_20 : decode method_2_code 20 = .ok (.ldc2_w 11, 3) := by decide +kernel
theorem d2_23 : decode method_2_code 23 = .ok (.lreturn, 1) := by decide +kernel
theorem pn_3 : plainName "com/example/pledge/pledge/log/TableChunkStartPinLaw" = true := by first | (simp [plainName, overriddenIn]; done) | decide +kernel
theorem ef_2 (m : MethodId) (x0 : Int64) (x1 : Int64) : entryFrame m #[(.long x0), (.long x1)] 4 = mkF m 0 #[jv x0, .second, jv x1, .second] [] := by first | (simp [entryFrame, mkF, argsToLocals, Value.category]; done) | rfl
def f_size (kx : Int64) (sx : Int64)  : Int64 := (if kx = (0 : Int64) then (512 : Int64) else (if kx < (12 : Int64) then sx else (1048576 : Int64)))
def Q2 (Z : State) (kx : Int64) (sx : Int64)  (h0 : Heap) (n0 : Nat) (v : Option Value) (h : Heap) (L : List Loc) : Prop := v = some (.long (f_size kx sx)) ∧ Fr n0 L ∧ h = h0
set_option maxRecDepth 65536 in
set_option maxHeartbeats 40000000 in
theorem rm2 (l : Launch) (Z : State) (a0 : Array Value) (hw : ∀ d ∈ tables_1, d.before a0 Z = true) (ws : List Jvm.Cond) (kx : Int64) (sx : Int64)  (h0 : Heap) (n0 : Nat) (Z0 : n0 ≤ h0.size)  :
    MetFree l (⟨"com/example/pledge/pledge/log/TableChunkStartPinLaw", "sizeOf", "(JJ)J"⟩ : MethodName) (head1 (Jvm.Cond.code (⟨"com/example/pledge/pledge/log/TableChunkStartPinLaw", "sizeOf", "(JJ)J"⟩ : MethodName) method_2_code 4 (some .long) :: ws) ({ frames := 0, cells := 0, slots := 0, locals := 0 } : Room)) (fun a U => a = #[(.long kx), (.long sx)] ∧ Z.Warmed39 U.vm ∧ U.heap = h0) (fun _ _ _ _ _ => True) (fun _ U o U' => ∃ v L, o = .returned v ∧ Q2 Z kx sx h0 n0 v U'.heap L ∧ FrameEnd U o U' L ({ frames := 0, cells := 0, slots := 0, locals := 0 } : Room).cells ({ frames := 0, cells := 0, slots := 0, locals := 0 } : Room).slots) := by
  refine MetFree.of_bodySF (plainFor_of_name pn_3) hisR ?_
  intro p e s m args below meth c s₁ Bd hml0 hP hK
  obtain ⟨rfl, hZ, hh⟩ := hP
  have hx := Bd.exec
  have hby := Bd.bytes
  have hml : c.maxLocals = 4 := hml0
  have hown : s.vm.findClass "com/example/pledge/pledge/log/TableChunkStartPinLaw" = some m.cls := findClass_of_methodNamed Bd.named
  have hnm := (name_of_methodNamed Bd.named Bd.method).1
  have X0 : Stand p l e ({ frames := 0, cells := 0, slots := 0, locals := 0 } : Room) s m #[(.long kx), (.long sx)] below meth c s₁ [] 0 0 := Stand.of_body Bd
  have e0 : s₁.heap = h0 := by rw [← hh, Bd.state]; rfl
  have N0 := Fr.nil n0
  have hlk : meth.locks = false := BodyLoose.notSynchronized Bd
  suffices hwk : Wk p.tables e below (s₁.setTop (mkF m 0 #[jv kx, .second, jv sx, .second] [])) (fun U o => U.status = .running ∧ Ended U below o ∧ ∃ v L, o = .returned v ∧ Q2 Z kx sx h0 n0 v U.heap L ∧ FrameEnd s o U L 0 0) by
    obtain ⟨U, o, k1, k2⟩ := hwk
    exact ⟨U, o, castTop (ef_2 m kx sx) k1, k2⟩
  refine Wk.go (A' := s₁.setTop (mkF m 1 #[jv kx, .second, jv sx, .second] [(.long kx)])) (fun t k => XS.lloadN X0.here hx rfl (hb hby d2_0) rfl k) ?_
  refine Wk.go (A' := s₁.setTop (mkF m 2 #[jv kx, .second, jv sx, .second] [(.long (0 : Int64)), (.long kx)])) (fun t k => XS.lconst X0.here hx rfl (hb hby d2_1) k) ?_
  refine Wk.go (A' := s₁.setTop (mkF m 3 #[jv kx, .second, jv sx, .second] [(.int (lcmpW kx (0 : Int64)))])) (fun t k => XS.lcmp X0.here hx rfl (hb hby d2_2) rfl k) ?_
  by_cases hc3 : kx = (0 : Int64)
  · refine Wk.go (A' := s₁.setTop (mkF m 6 #[jv kx, .second, jv sx, .second] [])) (fun t k => XS.ifNo X0.here hx rfl (hb hby d2_3) rfl ((if0 _ _).trans (teq ((lw_eq _ _).mpr hc3)).2) k) ?_
    refine Wk.go (A' := s₁.setTop (mkF m 9 #[jv kx, .second, jv sx, .second] [(.long (512 : Int64))])) (fun t k => X0.ldc2Long hx hown (mvT hZ (tw30 hw)) (g := (mkF m 6 #[jv kx, .second, jv sx, .second] [])) rfl (hb hby d2_6) t k) ?_
    refine own_fin (Qv := Q2 Z kx sx h0 n0) (v := some (.long (512 : Int64))) X0 hlk (fun h => by rw [Bd.returns] at h; cases h) (fun fs hr => X0.lreturnOut hx Bd.returns (hb hby d2_9) hr) ?_ (by decide) (by decide)
    refine ⟨?_, N0, e0⟩
    simp only [f_size, if_pos hc3]
  · refine Wk.go (A' := s₁.setTop (mkF m 10 #[jv kx, .second, jv sx, .second] [])) (fun t k => XS.ifYes X0.here hx rfl (pc0 := 3) (pc' := 10) rfl (hb hby d2_3) rfl ((if0 _ _).trans (feq (mt (lw_eq _ _).mp hc3)).2) (by decide) (by decide) k) ?_
    refine Wk.go (A' := s₁.setTop (mkF m 11 #[jv kx, .second, jv sx, .second] [(.long kx)])) (fun t k => XS.lloadN X0.here hx rfl (hb hby d2_10) rfl k) ?_
    refine Wk.go (A' := s₁.setTop (mkF m 14 #[jv kx, .second, jv sx, .second] [(.long (12 : Int64)), (.long kx)])) (fun t k => X0.ldc2Long hx hown (mvT hZ (tw12 hw)) (g := (mkF m 11 #[jv kx, .second, jv sx, .second] [(.long kx)])) rfl (hb hby d2_11) t k) ?_
    refine Wk.go (A' := s₁.setTop (mkF m 15 #[jv kx, .second, jv sx, .second] [(.int (lcmpW kx (12 : Int64)))])) (fun t k => XS.lcmp X0.here hx rfl (hb hby d2_14) rfl k) ?_
    by_cases hc15 : kx < (12 : Int64)
    · refine Wk.go (A' := s₁.setTop (mkF m 18 #[jv kx, .second, jv sx, .second] [])) (fun t k => XS.ifNo X0.here hx rfl (hb hby d2_15) rfl ((if0 _ _).trans (tlt ((lw_lt _ _).mpr hc15)).2.1) k) ?_
      refine Wk.go (A' := s₁.setTop (mkF m 19 #[jv kx, .second, jv sx, .second] [(.long sx)])) (fun t k => XS.lloadN X0.here hx rfl (hb hby d2_18) rfl k) ?_
      refine own_fin (Qv := Q2 Z kx sx h0 n0) (v := some (.long sx)) X0 hlk (fun h => by rw [Bd.returns] at h; cases h) (fun fs hr => X0.lreturnOut hx Bd.returns (hb hby d2_19) hr) ?_ (by decide) (by decide)
      refine ⟨?_, N0, e0⟩
      simp only [f_size, if_neg hc3, if_pos hc15]
    · refine Wk.go (A' := s₁.setTop (mkF m 20 #[jv kx, .second, jv sx, .second] [])) (fun t k => XS.ifYes X0.here hx rfl (pc0 := 15) (pc' := 20) rfl (hb hby d2_15) rfl ((if0 _ _).trans (flt (mt (lw_lt _ _).mp hc15)).2.1) (by decide) (by decide) k) ?_
      refine Wk.go (A' := s₁.setTop (mkF m 23 #[jv kx, .second, jv sx, .second] [(.long (1048576 : Int64))])) (fun t k => X0.ldc2Long hx hown (mvT hZ (tw27 hw)) (g := (mkF m 20 #[jv kx, .second, jv sx, .second] [])) rfl (hb hby d2_20) t k) ?_
      refine own_fin (Qv := Q2 Z kx sx h0 n0) (v := some (.long (1048576 : Int64))) X0 hlk (fun h => by rw [Bd.returns] at h; cases h) (fun fs hr => X0.lreturnOut hx Bd.returns (hb hby d2_23) hr) ?_ (by decide) (by decide)
      refine ⟨?_, N0, e0⟩
      simp only [f_size, if_neg hc3, if_neg hc15]
theorem d3_0 : decode prog_115_method_18_code 0 = .ok (.lload_n 0, 1) := by decide +kernel
theorem tw16 {Z : State} {a0 : Array Value} (hw : ∀ d ∈ tables_1, d.before a0 Z = true) : (Jvm.Cond.constantLong "com/example/pledge/pledge/log/Table" (233 : Nat) (512 : Int64)).before a0 Z = true := hw _ (List.mem_of_getElem? (i := 16) rfl)
theorem d3_1 : decode prog_115_method_18_code 1 = .ok (.ldc2_w 233, 3) := by decide +kernel
theorem d3_4 : decode prog_115_method_18_code 4 = .ok (.lcmp, 1) := by decide +kernel
theorem d3_5 : decode prog_115_method_18_code 5 = .ok (.ifCond .ge 8, 3) := by decide +kernel
theorem d3_8 : decode prog_115_method_18_code 8 = .ok (.lconst 0, 1) := by decide +kernel
theorem d3_9 : decode prog_115_method_18_code 9 = .ok (.lstore_n 2, 1) := by decide +kernel
theorem d3_10 : decode prog_115_method_18_code 10 = .ok (.goto 35, 3) := by decide +kernel
theorem d3_45 : decode prog_115_method_18_code 45 = .ok (.lload_n 2, 1) := by decide +kernel
theorem d3_46 : decode prog_115_method_18_code 46 = .ok (.lreturn, 1) := by decide +kernel
theorem d3_13 : decode prog_115_method_18_code 13 = .ok (.lload_n 0, 1) := by decide +kernel
theorem tw17 {Z : State} {a0 : Array Value} (hw : ∀ d ∈ tables_1, d.before a0 Z = true) : (Jvm.Cond.constantLong "com/example/pledge/pledge/log/Table" (235 : Nat) (1048576 : Int64)).before a0 Z = true := hw _ (List.mem_of_getElem? (i := 17) rfl)
theorem d3_14 : decode prog_115_method_18_code 14 = .ok (.ldc2_w 235, 3) := by decide +kernel
theorem d3_17 : decode prog_115_method_18_code 17 = .ok (.lcmp, 1) := by decide +kernel
theorem d3_18 : decode prog_115_method_18_code 18 = .ok (.ifCond .ge 18, 3) := by decide +kernel
theorem d3_21 : decode prog_115_method_18_code 21 = .ok (.bipush 64, 2) := by decide +kernel
theorem d3_23 : decode prog_115_method_18_code 23 = .ok (.lload_n 0, 1) := by decide +kernel
theorem tw18 {Z : State} {a0 : Array Value} (hw : ∀ d ∈ tables_1, d.before a0 Z = true) : (Jvm.Cond.methodLink "com/example/pledge/pledge/log/Table" (237 : Nat) ({ cls := "java/lang/Long", name := "numberOfLeadingZeros", desc := "(J)I" } : Jvm.MethodName)).before a0 Z = true := hw _ (List.mem_of_getElem? (i := 18) rfl)
theorem tw21 {Z : State} {a0 : Array Value} (hw : ∀ d ∈ tables_1, d.before a0 Z = true) : (Jvm.Cond.code ({ cls := "java/lang/Long", name := "numberOfLeadingZeros", desc := "(J)I" } : Jvm.MethodName) jdk_35_method_48_code (3 : Nat) (Option.some Jvm.ClassFile.FieldType.int)).before a0 Z = true := hw _ (List.mem_of_getElem? (i := 21) rfl)
theorem tw20 {Z : State} {a0 : Array Value} (hw : ∀ d ∈ tables_1, d.before a0 Z = true) : (Jvm.Cond.initialized "java/lang/Long").before a0 Z = true := hw _ (List.mem_of_getElem? (i := 20) rfl)
theorem pd_1 : parseMethodDescriptor "(J)I" = some ⟨[.long], some .int⟩ := by decide +kernel
theorem d3_24 : decode prog_115_method_18_code 24 = .ok (.invokestatic 237, 3) := by decide +kernel
theorem tw19 {Z : State} {a0 : Array Value} (hw : ∀ d ∈ tables_1, d.before a0 Z = true) : (Jvm.Cond.static ({ cls := "java/lang/Long", name := "numberOfLeadingZeros", desc := "(J)I" } : Jvm.MethodName)).before a0 Z = true := hw _ (List.mem_of_getElem? (i := 19) rfl)
theorem d3_27 : decode prog_115_method_18_code 27 = .ok (.isub, 1) := by decide +kernel
theorem d3_28 : decode prog_115_method_18_code 28 = .ok (.bipush 9, 2) := by decide +kernel
theorem d3_30 : decode prog_115_method_18_code 30 = .ok (.isub, 1) := by decide +kernel
theorem d3_31 : decode prog_115_method_18_code 31 = .ok (.i2l, 1) := by decide +kernel
theorem d3_32 : decode prog_115_method_18_code 32 = .ok (.lstore_n 2, 1) := by decide +kernel
theorem d3_33 : decode prog_115_method_18_code 33 = .ok (.goto 12, 3) := by decide +kernel
theorem tw28 {Z : State} {a0 : Array Value} (hw : ∀ d ∈ tables_1, d.before a0 Z = true) : (Jvm.Cond.constantLong "com/example/pledge/pledge/log/Table" (240 : Nat) (11 : Int64)).before a0 Z = true := hw _ (List.mem_of_getElem? (i := 28) rfl)
theorem d3_36 : decode prog_115_method_18_code 36 = .ok (.ldc2_w 240, 3) := by decide +kernel
theorem d3_39 : decode prog_115_method_18_code 39 = .ok (.lload_n 0, 1) := by decide +kernel
theorem d3_40 : decode prog_115_method_18_code 40 = .ok (.bipush 20, 2) := by decide +kernel
theorem d3_42 : decode prog_115_method_18_code 42 = .ok (.lushr, 1) := by decide +kernel
theorem d3_43 : decode prog_115_method_18_code 43 = .ok (.ladd, 1) := by decide +kernel
theorem d3_44 : decode prog_115_method_18_code 44 = .ok (.lstore_n 2, 1) := by decide +kernel
theorem ef_3 (m : MethodId) (x0 : Int64) : entryFrame m #[(.long x0)] 4 = mkF m 0 #[jv x0, .second, .unset, .unset] [] := by first | (simp [entryFrame, mkF, argsToLocals, Value.category]; done) | rfl
def f_of (sx : Int64)  : Int64 := (if sx < (512 : Int64) then (0 : Int64) else (if sx < (1048576 : Int64) then ((((64 : Int32) - (f_nlz sx)) - (9 : Int32)).toInt64) else ((11 : Int64) + ((sx.toUInt64 >>> ((20 : Int32) &&& 0x3f).toInt64.toUInt64).toInt64))))
def Q3 (Z : State) (sx : Int64)  (h0 : Heap) (n0 : Nat) (v : Option Value) (h : Heap) (L : List Loc) : Prop := v = some (.long (f_of sx)) ∧ Fr n0 L ∧ h = h0
set_option maxRecDepth 65536 in
set_option maxHeartbeats 40000000 in
theorem rm3 (l : Launch) (Z : State) (a0 : Array Value) (hw : ∀ d ∈ tables_1, d.before a0 Z = true) (ws : List Jvm.Cond) (sx : Int64)  (h0 : Heap) (n0 : Nat) (Z0 : n0 ≤ h0.size)  :
    MetFree l (⟨"com/example/pledge/pledge/log/Table", "chunkOf", "(J)J"⟩ : MethodName) (head1 (Jvm.Cond.code (⟨"com/example/pledge/pledge/log/Table", "chunkOf", "(J)J"⟩ : MethodName) prog_115_method_18_code 4 (some .long) :: ws) ({ frames := 2, cells := 0, slots := 0, locals := 29 } : Room)) (fun a U => a = #[(.long sx)] ∧ Z.Warmed39 U.vm ∧ U.heap = h0) (fun _ _ _ _ _ => True) (fun _ U o U' => ∃ v L, o = .returned v ∧ Q3 Z sx h0 n0 v U'.heap L ∧ FrameEnd U o U' L ({ frames := 2, cells := 0, slots := 0, locals := 29 } : Room).cells ({ frames := 2, cells := 0, slots := 0, locals := 29 } : Room).slots) := by
  refine MetFree.of_bodySF (plainFor_of_name pn_2) hisR ?_
  intro p e s m args below meth c s₁ Bd hml0 hP hK
  obtain ⟨rfl, hZ, hh⟩ := hP
  have hx := Bd.exec
  have hby := Bd.bytes
  have hml : c.maxLocals = 4 := hml0
  have hown : s.vm.findClass "com/example/pledge/pledge/log/Table" = some m.cls := findClass_of_methodNamed Bd.named
  have hnm := (name_of_methodNamed Bd.named Bd.method).1
  have X0 : Stand p l e ({ frames := 2, cells := 0, slots := 0, locals := 29 } : Room) s m #[(.long sx)] below meth c s₁ [] 0 0 := Stand.of_body Bd
  have e0 : s₁.heap = h0 := by rw [← hh, Bd.state]; rfl
  have N0 := Fr.nil n0
  have hlk : meth.locks = false := BodyLoose.notSynchronized Bd
  suffices hwk : Wk p.tables e below (s₁.setTop (mkF m 0 #[jv sx, .second, .unset, .unset] [])) (fun U o => U.status = .running ∧ Ended U below o ∧ ∃ v L, o = .returned v ∧ Q3 Z sx h0 n0 v U.heap L ∧ FrameEnd s o U L 0 0) by
    obtain ⟨U, o, k1, k2⟩ := hwk
    exact ⟨U, o, castTop (ef_3 m sx) k1, k2⟩
  refine Wk.go (A' := s₁.setTop (mkF m 1 #[jv sx, .second, .unset, .unset] [(.long sx)])) (fun t k => XS.lloadN X0.here hx rfl (hb hby d3_0) rfl k) ?_
  refine Wk.go (A' := s₁.setTop (mkF m 4 #[jv sx, .second, .unset, .unset] [(.long (512 : Int64)), (.long sx)])) (fun t k => X0.ldc2Long hx hown (mvT hZ (tw16 hw)) (g := (mkF m 1 #[jv sx, .second, .unset, .unset] [(.long sx)])) rfl (hb hby d3_1) t k) ?_
  refine Wk.go (A' := s₁.setTop (mkF m 5 #[jv sx, .second, .unset, .unset] [(.int (lcmpW sx (512 : Int64)))])) (fun t k => XS.lcmp X0.here hx rfl (hb hby d3_4) rfl k) ?_
  by_cases hc5 : sx < (512 : Int64)
  · refine Wk.go (A' := s₁.setTop (mkF m 8 #[jv sx, .second, .unset, .unset] [])) (fun t k => XS.ifNo X0.here hx rfl (hb hby d3_5) rfl ((if0 _ _).trans (tlt ((lw_lt _ _).mpr hc5)).2.1) k) ?_
    refine Wk.go (A' := s₁.setTop (mkF m 9 #[jv sx, .second, .unset, .unset] [(.long (0 : Int64))])) (fun t k => XS.lconst X0.here hx rfl (hb hby d3_8) k) ?_
    refine Wk.go (A' := s₁.setTop (mkF m 10 #[jv sx, .second, jv (0 : Int64), .second] [])) (fun t k => XS.lstoreN X0.here hx rfl (hb hby d3_9) rfl (l' := #[jv sx, .second, jv (0 : Int64), .second]) rfl k) ?_
    refine Wk.go (A' := s₁.setTop (mkF m 45 #[jv sx, .second, jv (0 : Int64), .second] [])) (fun t k => XS.goto X0.here hx rfl (pc0 := 10) (pc' := 45) rfl (hb hby d3_10) (by decide) (by decide) k) ?_
    refine Wk.go (A' := s₁.setTop (mkF m 46 #[jv sx, .second, jv (0 : Int64), .second] [(.long (0 : Int64))])) (fun t k => XS.lloadN X0.here hx rfl (hb hby d3_45) rfl k) ?_
    refine own_fin (Qv := Q3 Z sx h0 n0) (v := some (.long (0 : Int64))) X0 hlk (fun h => by rw [Bd.returns] at h; cases h) (fun fs hr => X0.lreturnOut hx Bd.returns (hb hby d3_46) hr) ?_ (by decide) (by decide)
    refine ⟨?_, N0, e0⟩
    simp only [f_of, if_pos hc5]
  · refine Wk.go (A' := s₁.setTop (mkF m 13 #[jv sx, .second, .unset, .unset] [])) (fun t k => XS.ifYes X0.here hx rfl (pc0 := 5) (pc' := 13) rfl (hb hby d3_5) rfl ((if0 _ _).trans (flt (mt (lw_lt _ _).mp hc5)).2.1) (by decide) (by decide) k) ?_
    refine Wk.go (A' := s₁.setTop (mkF m 14 #[jv sx, .second, .unset, .unset] [(.long sx)])) (fun t k => XS.lloadN X0.here hx rfl (hb hby d3_13) rfl k) ?_
    refine Wk.go (A' := s₁.setTop (mkF m 17 #[jv sx, .second, .unset, .unset] [(.long (1048576 : Int64)), (.long sx)])) (fun t k => X0.ldc2Long hx hown (mvT hZ (tw17 hw)) (g := (mkF m 14 #[jv sx, .second, .unset, .unset] [(.long sx)])) rfl (hb hby d3_14) t k) ?_
    refine Wk.go (A' := s₁.setTop (mkF m 18 #[jv sx, .second, .unset, .unset] [(.int (lcmpW sx (1048576 : Int64)))])) (fun t k => XS.lcmp X0.here hx rfl (hb hby d3_17) rfl k) ?_
    by_cases hc18 : sx < (1048576 : Int64)
    · refine Wk.go (A' := s₁.setTop (mkF m 21 #[jv sx, .second, .unset, .unset] [])) (fun t k => XS.ifNo X0.here hx rfl (hb hby d3_18) rfl ((if0 _ _).trans (tlt ((lw_lt _ _).mpr hc18)).2.1) k) ?_
      refine Wk.go (A' := s₁.setTop (mkF m 23 #[jv sx, .second, .unset, .unset] [(.int (64 : Int32))])) (fun t k => XS.bipush X0.here hx rfl (hb hby d3_21) k) ?_
      refine Wk.go (A' := s₁.setTop (mkF m 24 #[jv sx, .second, .unset, .unset] [(.long sx), (.int (64 : Int32))])) (fun t k => XS.lloadN X0.here hx rfl (hb hby d3_23) rfl k) ?_
      obtain ⟨_, _, ⟨T1, L1, k1, n1⟩, -, X1, ⟨Lc1, hQ1, l1, y1, z1⟩, st1⟩ := Jvm.LawKit.callS X0 hx (y := (⟨"java/lang/Long", "numberOfLeadingZeros", "(J)I"⟩ : MethodName)) hown (mvT hZ (tw18 hw)) (mvT hZ (tw19 hw)) (mvT hZ (tw20 hw)) (mvT hZ (tw21 hw)) (by decide) (backOf (W := 1) (rm4 l Z a0 hw [] sx  h0 n0 Z0 ) hZ (tw21 hw) (tw20 hw) (by decide) (by decide)) (g := (mkF m 24 #[jv sx, .second, .unset, .unset] [(.long sx), (.int (64 : Int32))])) rfl (by rw [hml]; rfl) (argsL := [(.long sx)]) (rest := [(.int (64 : Int32))]) (lenOf pd_1 rfl) rfl (by show 2 * 0 + _ ≤ _; exact Nat.le_of_eq rfl) (hb hby d3_24) (fun _ _ => ⟨rfl, e0, (by decide : 0 + 0 ≤ _), (by decide : 0 + 0 ≤ _)⟩)
      dsimp only [Pt.U, Pt.locs, Pt.cells, Pt.slots] at X1 l1 y1 z1 st1 hQ1
      subst l1 y1 z1
      obtain ⟨rfl, N1q, hE1⟩ := hQ1
      have N1 := Fr.app N0 N1q
      refine Wk.go (A' := T1.setTop (mkF m 27 #[jv sx, .second, .unset, .unset] [(.int (f_nlz sx)), (.int (64 : Int32))])) (fun t k => st1 t k) ?_
      refine Wk.go (A' := T1.setTop (mkF m 28 #[jv sx, .second, .unset, .unset] [(.int ((64 : Int32) - (f_nlz sx)))])) (fun t k => XS.isub X1.here hx rfl (hb hby d3_27) rfl k) ?_
      refine Wk.go (A' := T1.setTop (mkF m 30 #[jv sx, .second, .unset, .unset] [(.int (9 : Int32)), (.int ((64 : Int32) - (f_nlz sx)))])) (fun t k => XS.bipush X1.here hx rfl (hb hby d3_28) k) ?_
      refine Wk.go (A' := T1.setTop (mkF m 31 #[jv sx, .second, .unset, .unset] [(.int (((64 : Int32) - (f_nlz sx)) - (9 : Int32)))])) (fun t k => XS.isub X1.here hx rfl (hb hby d3_30) rfl k) ?_
      refine Wk.go (A' := T1.setTop (mkF m 32 #[jv sx, .second, .unset, .unset] [(.long ((((64 : Int32) - (f_nlz sx)) - (9 : Int32)).toInt64))])) (fun t k => XS.i2l X1.here hx rfl (hb hby d3_31) rfl k) ?_
      refine Wk.go (A' := T1.setTop (mkF m 33 #[jv sx, .second, jv ((((64 : Int32) - (f_nlz sx)) - (9 : Int32)).toInt64), .second] [])) (fun t k => XS.lstoreN X1.here hx rfl (hb hby d3_32) rfl (l' := #[jv sx, .second, jv ((((64 : Int32) - (f_nlz sx)) - (9 : Int32)).toInt64), .second]) rfl k) ?_
      refine Wk.go (A' := T1.setTop (mkF m 45 #[jv sx, .second, jv ((((64 : Int32) - (f_nlz sx)) - (9 : Int32)).toInt64), .second] [])) (fun t k => XS.goto X1.here hx rfl (pc0 := 33) (pc' := 45) rfl (hb hby d3_33) (by decide) (by decide) k) ?_
      refine Wk.go (A' := T1.setTop (mkF m 46 #[jv sx, .second, jv ((((64 : Int32) - (f_nlz sx)) - (9 : Int32)).toInt64), .second] [(.long ((((64 : Int32) - (f_nlz sx)) - (9 : Int32)).toInt64))])) (fun t k => XS.lloadN X1.here hx rfl (hb hby d3_45) rfl k) ?_
      refine own_fin (Qv := Q3 Z sx h0 n0) (v := some (.long ((((64 : Int32) - (f_nlz sx)) - (9 : Int32)).toInt64))) X1 hlk (fun h => by rw [Bd.returns] at h; cases h) (fun fs hr => X1.lreturnOut hx Bd.returns (hb hby d3_46) hr) ?_ (by decide) (by decide)
      refine ⟨?_, N1, (hE1)⟩
      simp only [f_of, if_neg hc5, if_pos hc18]
    · refine Wk.go (A' := s₁.setTop (mkF m 36 #[jv sx, .second, .unset, .unset] [])) (fun t k => XS.ifYes X0.here hx rfl (pc0 := 18) (pc' := 36) rfl (hb hby d3_18) rfl ((if0 _ _).trans (flt (mt (lw_lt _ _).mp hc18)).2.1) (by decide) (by decide) k) ?_
      refine Wk.go (A' := s₁.setTop (mkF m 39 #[jv sx, .second, .unset, .unset] [(.long (11 : Int64))])) (fun t k => X0.ldc2Long hx hown (mvT hZ (tw28 hw)) (g := (mkF m 36 #[jv sx, .second, .unset, .unset] [])) rfl (hb hby d3_36) t k) ?_
      refine Wk.go (A' := s₁.setTop (mkF m 40 #[jv sx, .second, .unset, .unset] [(.long sx), (.long (11 : Int64))])) (fun t k => XS.lloadN X0.here hx rfl (hb hby d3_39) rfl k) ?_
      refine Wk.go (A' := s₁.setTop (mkF m 42 #[jv sx, .second, .unset, .unset] [(.int (20 : Int32)), (.long sx), (.long (11 : Int64))])) (fun t k => XS.bipush X0.here hx rfl (hb hby d3_40) k) ?_
      refine Wk.go (A' := s₁.setTop (mkF m 43 #[jv sx, .second, .unset, .unset] [(.long ((sx.toUInt64 >>> ((20 : Int32) &&& 0x3f).toInt64.toUInt64).toInt64)), (.long (11 : Int64))])) (fun t k => XS.lushr X0.here hx rfl (hb hby d3_42) rfl k) ?_
      refine Wk.go (A' := s₁.setTop (mkF m 44 #[jv sx, .second, .unset, .unset] [(.long ((11 : Int64) + ((sx.toUInt64 >>> ((20 : Int32) &&& 0x3f).toInt64.toUInt64).toInt64)))])) (fun t k => XS.ladd X0.here hx rfl (hb hby d3_43) rfl k) ?_
      refine Wk.go (A' := s₁.setTop (mkF m 45 #[jv sx, .second, jv ((11 : Int64) + ((sx.toUInt64 >>> ((20 : Int32) &&& 0x3f).toInt64.toUInt64).toInt64)), .second] [])) (fun t k => XS.lstoreN X0.here hx rfl (hb hby d3_44) rfl (l' := #[jv sx, .second, jv ((11 : Int64) + ((sx.toUInt64 >>> ((20 : Int32) &&& 0x3f).toInt64.toUInt64).toInt64)), .second]) rfl k) ?_
      refine Wk.go (A' := s₁.setTop (mkF m 46 #[jv sx, .second, jv ((11 : Int64) + ((sx.toUInt64 >>> ((20 : Int32) &&& 0x3f).toInt64.toUInt64).toInt64)), .second] [(.long ((11 : Int64) + ((sx.toUInt64 >>> ((20 : Int32) &&& 0x3f).toInt64.toUInt64).toInt64)))])) (fun t k => XS.lloadN X0.here hx rfl (hb hby d3_45) rfl k) ?_
      refine own_fin (Qv := Q3 Z sx h0 n0) (v := some (.long ((11 : Int64) + ((sx.toUInt64 >>> ((20 : Int32) &&& 0x3f).toInt64.toUInt64).toInt64)))) X0 hlk (fun h => by rw [Bd.returns] at h; cases h) (fun fs hr => X0.lreturnOut hx Bd.returns (hb hby d3_46) hr) ?_ (by decide) (by decide)
      refine ⟨?_, N0, e0⟩
      simp only [f_of, if_neg hc5, if_neg hc18]
theorem own_small : ∀ i : Fin 12, f_start (Int64.ofNat (i.1 + 1)) = f_start (Int64.ofNat (i.1 + 1) - 1) + f_size (Int64.ofNat (i.1 + 1) - 1) (f_start (Int64.ofNat (i.1 + 1) - 1)) ∧ f_of (f_start (Int64.ofNat (i.1 + 1))) = Int64.ofNat (i.1 + 1) ∧ f_of (f_start (Int64.ofNat (i.1 + 1)) - 1) = Int64.ofNat (i.1 + 1) - 1 := by decide +kernel
theorem own_start (n : Int64) (h1 : 12 ≤ n.toInt) (h2 : n.toInt ≤ 8796093022218) : (f_start n).toInt = (n.toInt - 11) * 1048576 := by
  have e0 : (0 : Int64).toInt = 0 := by decide
  have e1 : (1 : Int64).toInt = 1 := by decide
  have e12 : (12 : Int64).toInt = 12 := by decide
  have q0 : ¬ n = (0 : Int64) := fun q => by rw [q] at h1; omega
  have q1 : ¬ n < (12 : Int64) := by rw [Int64.lt_iff_toInt_lt]; omega
  unfold f_start
  rw [if_neg q0, if_neg q1]
  have a1 := c_lsub n 12
  have a2 := c_ladd (n - 12) 1
  have a3 := c_lshl ((n - 12) + 1) 20 20 (by decide)
  have r1 := rng64 (n - 12)
  have r2 := rng64 ((n - 12) + 1)
  have r3 := rng64 (((n - 12) + 1) <<< ((20 : Int32) &&& 0x3f).toInt64)
  omega
theorem own_of (t : Int64) (h1 : 1048576 ≤ t.toInt) : (f_of t).toInt = 11 + t.toInt / 1048576 := by
  have e1 : (512 : Int64).toInt = 512 := by decide
  have e2 : (1048576 : Int64).toInt = 1048576 := by decide
  have e3 : (11 : Int64).toInt = 11 := by decide
  have q0 : ¬ t < (512 : Int64) := by rw [Int64.lt_iff_toInt_lt]; omega
  have q1 : ¬ t < (1048576 : Int64) := by rw [Int64.lt_iff_toInt_lt]; omega
  unfold f_of
  rw [if_neg q0, if_neg q1]
  have a1 := c_lushr t 20 20 (by decide) (by decide)
  have a2 := c_ladd 11 ((t.toUInt64 >>> ((20 : Int32) &&& 0x3f).toInt64.toUInt64).toInt64)
  have r1 := rng64 t
  have r2 := rng64 ((11 : Int64) + ((t.toUInt64 >>> ((20 : Int32) &&& 0x3f).toInt64.toUInt64).toInt64))
  rw [a1] at a2
  omega
theorem own_size (k t : Int64) (h : 12 ≤ k.toInt) : f_size k t = 1048576 := by
  have e12 : (12 : Int64).toInt = 12 := by decide
  have e0 : (0 : Int64).toInt = 0 := by decide
  have q0 : ¬ k = (0 : Int64) := fun q => by rw [q] at h; omega
  have q1 : ¬ k < (12 : Int64) := by rw [Int64.lt_iff_toInt_lt]; omega
  unfold f_size
  rw [if_neg q0, if_neg q1]
theorem own_law (n : Int64) (h0 : ¬ n = (0 : Int64)) (h1 : 0 ≤ n.toInt) (h2 : n.toInt ≤ 8796093022218) :
    f_start n = f_start (n - (1 : Int64)) + f_size (n - (1 : Int64)) (f_start (n - (1 : Int64))) ∧ f_of (f_start n) = n ∧ f_of (f_start n - (1 : Int64)) = n - (1 : Int64) := by
  have e0 : (0 : Int64).toInt = 0 := by decide
  have e1 : (1 : Int64).toInt = 1 := by decide
  have hn0 : n.toInt ≠ 0 := fun q => h0 (Int64.toInt_inj.mp (by rw [q, e0]))
  by_cases hs : n.toInt ≤ 12
  · have hn : n = Int64.ofNat ((n.toInt.toNat - 1) + 1) := by
      apply Int64.toInt_inj.mp
      rw [Int64.toInt_ofNat_of_lt (by omega)]; omega
    have := own_small ⟨n.toInt.toNat - 1, by omega⟩
    rw [← hn] at this
    exact this
  · have a1 := c_lsub n 1
    have r1 := rng64 (n - 1)
    have en : (n - 1).toInt = n.toInt - 1 := by omega
    have s1 := own_start n (by omega) h2
    have s2 := own_start (n - 1) (by omega) (by omega)
    have e2 : (1048576 : Int64).toInt = 1048576 := by decide
    refine ⟨?_, ?_, ?_⟩
    · rw [own_size _ _ (by omega)]
      apply Int64.toInt_inj.mp
      have a2 := c_ladd (f_start (n - 1)) 1048576
      have r2 := rng64 (f_start (n - 1) + 1048576)
      omega
    · apply Int64.toInt_inj.mp
      rw [own_of _ (by omega), s1]; omega
    · have a3 := c_lsub (f_start n) 1
      have r3 := rng64 (f_start n - 1)
      apply Int64.toInt_inj.mp
      have e3 : (f_start n - 1).toInt = (f_start n).toInt - 1 := by omega
      rw [own_of _ (by omega), e3, s1, en]; omega
theorem own_n1 (q : Int64) : 0 ≤ (q &&& (31 : Int64)).toInt ∧ (q &&& (31 : Int64)).toInt ≤ 8796093022218 := by
  have := c_maskL q 31 5 (by decide) (by decide)
  omega
theorem own_n2 (q : Int64) : 0 ≤ ((q &&& (9223372036854775807 : Int64)) - ((q &&& (9223372036854775807 : Int64)) / (8796093022219 : Int64)) * (8796093022219 : Int64)).toInt ∧ ((q &&& (9223372036854775807 : Int64)) - ((q &&& (9223372036854775807 : Int64)) / (8796093022219 : Int64)) * (8796093022219 : Int64)).toInt ≤ 8796093022218 := by
  have h1 := c_maskL q 9223372036854775807 63 (by decide) (by decide)
  have h2 := (c_lrem (q &&& (9223372036854775807 : Int64)) 8796093022219 8796093022219 (by decide)).1 (by omega)
  omega
theorem tw0 {Z : State} {a0 : Array Value} (hw : ∀ d ∈ tables_1, d.before a0 Z = true) : (Jvm.Cond.constantLong "com/example/pledge/pledge/log/TableChunkStartPinLaw" (17 : Nat) (9223372036854775807 : Int64)).before a0 Z = true := hw _ (List.mem_of_getElem? (i := 0) rfl)
theorem tw1 {Z : State} {a0 : Array Value} (hw : ∀ d ∈ tables_1, d.before a0 Z = true) : (Jvm.Cond.constantLong "com/example/pledge/pledge/log/TableChunkStartPinLaw" (21 : Nat) (8796093022219 : Int64)).before a0 Z = true := hw _ (List.mem_of_getElem? (i := 1) rfl)
theorem tw2 {Z : State} {a0 : Array Value} (hw : ∀ d ∈ tables_1, d.before a0 Z = true) : (Jvm.Cond.methodLink "com/example/pledge/pledge/log/TableChunkStartPinLaw" (23 : Nat) ({ cls := "com/example/pledge/pledge/log/Table", name := "chunkStart", desc := "(J)J" } : Jvm.MethodName)).before a0 Z = true := hw _ (List.mem_of_getElem? (i := 2) rfl)
theorem tw5 {Z : State} {a0 : Array Value} (hw : ∀ d ∈ tables_1, d.before a0 Z = true) : (Jvm.Cond.code ({ cls := "com/example/pledge/pledge/log/Table", name := "chunkStart", desc := "(J)J" } : Jvm.MethodName) prog_115_method_19_code (4 : Nat) (Option.some Jvm.ClassFile.FieldType.long)).before a0 Z = true := hw _ (List.mem_of_getElem? (i := 5) rfl)
theorem tw4 {Z : State} {a0 : Array Value} (hw : ∀ d ∈ tables_1, d.before a0 Z = true) : (Jvm.Cond.initialized "com/example/pledge/pledge/log/Table").before a0 Z = true := hw _ (List.mem_of_getElem? (i := 4) rfl)
theorem pd_2 : parseMethodDescriptor "(J)J" = some ⟨[.long], some .long⟩ := by decide +kernel
theorem tw3 {Z : State} {a0 : Array Value} (hw : ∀ d ∈ tables_1, d.before a0 Z = true) : (Jvm.Cond.static ({ cls := "com/example/pledge/pledge/log/Table", name := "chunkStart", desc := "(J)J" } : Jvm.MethodName)).before a0 Z = true := hw _ (List.mem_of_getElem? (i := 3) rfl)
theorem tw13 {Z : State} {a0 : Array Value} (hw : ∀ d ∈ tables_1, d.before a0 Z = true) : (Jvm.Cond.methodLink "com/example/pledge/pledge/log/TableChunkStartPinLaw" (29 : Nat) ({ cls := "com/example/pledge/pledge/log/Table", name := "chunkOf", desc := "(J)J" } : Jvm.MethodName)).before a0 Z = true := hw _ (List.mem_of_getElem? (i := 13) rfl)
theorem tw15 {Z : State} {a0 : Array Value} (hw : ∀ d ∈ tables_1, d.before a0 Z = true) : (Jvm.Cond.code ({ cls := "com/example/pledge/pledge/log/Table", name := "chunkOf", desc := "(J)J" } : Jvm.MethodName) prog_115_method_18_code (4 : Nat) (Option.some Jvm.ClassFile.FieldType.long)).before a0 Z = true := hw _ (List.mem_of_getElem? (i := 15) rfl)
theorem tw14 {Z : State} {a0 : Array Value} (hw : ∀ d ∈ tables_1, d.before a0 Z = true) : (Jvm.Cond.static ({ cls := "com/example/pledge/pledge/log/Table", name := "chunkOf", desc := "(J)J" } : Jvm.MethodName)).before a0 Z = true := hw _ (List.mem_of_getElem? (i := 14) rfl)
theorem tw8 {Z : State} {a0 : Array Value} (hw : ∀ d ∈ tables_1, d.before a0 Z = true) : (Jvm.Cond.methodLink "com/example/pledge/pledge/log/TableChunkStartPinLaw" (32 : Nat) ({ cls := "com/example/pledge/pledge/log/TableChunkStartPinLaw", name := "sizeOf", desc := "(JJ)J" } : Jvm.MethodName)).before a0 Z = true := hw _ (List.mem_of_getElem? (i := 8) rfl)
theorem tw11 {Z : State} {a0 : Array Value} (hw : ∀ d ∈ tables_1, d.before a0 Z = true) : (Jvm.Cond.code ({ cls := "com/example/pledge/pledge/log/TableChunkStartPinLaw", name := "sizeOf", desc := "(JJ)J" } : Jvm.MethodName) method_2_code (4 : Nat) (Option.some Jvm.ClassFile.FieldType.long)).before a0 Z = true := hw _ (List.mem_of_getElem? (i := 11) rfl)
theorem tw10 {Z : State} {a0 : Array Value} (hw : ∀ d ∈ tables_1, d.before a0 Z = true) : (Jvm.Cond.initialized "com/example/pledge/pledge/log/TableChunkStartPinLaw").before a0 Z = true := hw _ (List.mem_of_getElem? (i := 10) rfl)
theorem pd_3 : parseMethodDescriptor "(JJ)J" = some ⟨[.long, .long], some .long⟩ := by decide +kernel
theorem tw9 {Z : State} {a0 : Array Value} (hw : ∀ d ∈ tables_1, d.before a0 Z = true) : (Jvm.Cond.static ({ cls := "com/example/pledge/pledge/log/TableChunkStartPinLaw", name := "sizeOf", desc := "(JJ)J" } : Jvm.MethodName)).before a0 Z = true := hw _ (List.mem_of_getElem? (i := 9) rfl)
theorem tw29 {Z : State} {a0 : Array Value} (hw : ∀ d ∈ tables_1, d.before a0 Z = true) : (Jvm.Cond.constantLong "com/example/pledge/pledge/log/TableChunkStartPinLaw" (13 : Nat) (31 : Int64)).before a0 Z = true := hw _ (List.mem_of_getElem? (i := 29) rfl)
theorem ef_0 (m : MethodId) (x0 : Int64) (x1 : Int32) : entryFrame m #[(.long x0), (.int x1)] maxLocals = mkF m 0 #[jv x0, .second, iv x1, .unset, .unset, .unset, .unset, .unset, .unset, .unset, .unset] [] := by first | (simp [entryFrame, mkF, argsToLocals, Value.category, maxLocals]; done) | rfl
def Q0 (Z : State) (xx : Int64) (fx : Int32)  (h0 : Heap) (n0 : Nat) (v : Option Value) (h : Heap) (L : List Loc) : Prop := v = some (.int 1) ∧ Fr n0 L
set_option maxRecDepth 65536 in
set_option maxHeartbeats 40000000 in
theorem rm0 (l : Launch) (Z : State) (a0 : Array Value) (hw : ∀ d ∈ tables_1, d.before a0 Z = true) (ws : List Jvm.Cond) (xx : Int64) (fx : Int32)  (h0 : Heap) (n0 : Nat) (Z0 : n0 ≤ h0.size)  :
    MetFree l x (head1 (Jvm.Cond.code x code maxLocals ret :: ws) room_1) (fun a U => a = #[(.long xx), (.int fx)] ∧ Z.Warmed39 U.vm ∧ U.heap = h0) (fun _ _ _ _ _ => True) (fun _ U o U' => ∃ v L, o = .returned v ∧ Q0 Z xx fx h0 n0 v U'.heap L ∧ FrameEnd U o U' L 0 0) := by
  refine MetFree.of_bodySF (plainFor_of_name pn_3) hisR ?_
  intro p e s m args below meth c s₁ Bd hml0 hP hK
  obtain ⟨rfl, hZ, hh⟩ := hP
  have hx := Bd.exec
  have hby := Bd.bytes
  have hml : c.maxLocals = 11 := hml0
  have hown : s.vm.findClass "com/example/pledge/pledge/log/TableChunkStartPinLaw" = some m.cls := findClass_of_methodNamed Bd.named
  have hnm := (name_of_methodNamed Bd.named Bd.method).1
  have X0 : Stand p l e room_1 s m #[(.long xx), (.int fx)] below meth c s₁ [] 0 0 := Stand.of_body Bd
  have e0 : s₁.heap = h0 := by rw [← hh, Bd.state]; rfl
  have N0 := Fr.nil n0
  have hlk : meth.locks = false := BodyLoose.notSynchronized Bd
  suffices hwk : Wk p.tables e below (s₁.setTop (mkF m 0 #[jv xx, .second, iv fx, .unset, .unset, .unset, .unset, .unset, .unset, .unset, .unset] [])) (fun U o => U.status = .running ∧ Ended U below o ∧ ∃ v L, o = .returned v ∧ Q0 Z xx fx h0 n0 v U.heap L ∧ FrameEnd s o U L 0 0) by
    obtain ⟨U, o, k1, k2⟩ := hwk
    exact ⟨U, o, castTop (ef_0 m xx fx) k1, k2⟩
  refine Wk.go (A' := s₁.setTop (mkF m 1 #[jv xx, .second, iv fx, .unset, .unset, .unset, .unset, .unset, .unset, .unset, .unset] [(.int fx)])) (fun t k => XS.iloadN X0.here hx rfl (hb hby at_0) rfl k) ?_
  refine Wk.go (A' := s₁.setTop (mkF m 2 #[jv xx, .second, iv fx, .unset, .unset, .unset, .unset, .unset, .unset, .unset, .unset] [(.int (1 : Int32)), (.int fx)])) (fun t k => XS.iconst X0.here hx rfl (hb hby at_1) k) ?_
  refine Wk.go (A' := s₁.setTop (mkF m 3 #[jv xx, .second, iv fx, .unset, .unset, .unset, .unset, .unset, .unset, .unset, .unset] [(.int (fx &&& (1 : Int32)))])) (fun t k => XS.iand X0.here hx rfl (hb hby at_2) rfl k) ?_
  by_cases hc3 : (fx &&& (1 : Int32)) = (0 : Int32)
  · refine Wk.go (A' := s₁.setTop (mkF m 15 #[jv xx, .second, iv fx, .unset, .unset, .unset, .unset, .unset, .unset, .unset, .unset] [])) (fun t k => XS.ifYes X0.here hx rfl (pc0 := 3) (pc' := 15) rfl (hb hby at_3) rfl ((if0 _ _).trans (teq hc3).1) (by decide) (by decide) k) ?_
    refine Wk.go (A' := s₁.setTop (mkF m 16 #[jv xx, .second, iv fx, .unset, .unset, .unset, .unset, .unset, .unset, .unset, .unset] [(.long xx)])) (fun t k => XS.lloadN X0.here hx rfl (hb hby at_15) rfl k) ?_
    refine Wk.go (A' := s₁.setTop (mkF m 19 #[jv xx, .second, iv fx, .unset, .unset, .unset, .unset, .unset, .unset, .unset, .unset] [(.long (9223372036854775807 : Int64)), (.long xx)])) (fun t k => X0.ldc2Long hx hown (mvT hZ (tw0 hw)) (g := (mkF m 16 #[jv xx, .second, iv fx, .unset, .unset, .unset, .unset, .unset, .unset, .unset, .unset] [(.long xx)])) rfl (hb hby at_16) t k) ?_
    refine Wk.go (A' := s₁.setTop (mkF m 20 #[jv xx, .second, iv fx, .unset, .unset, .unset, .unset, .unset, .unset, .unset, .unset] [(.long (xx &&& (9223372036854775807 : Int64)))])) (fun t k => XS.land X0.here hx rfl (hb hby at_19) rfl k) ?_
    refine Wk.go (A' := s₁.setTop (mkF m 23 #[jv xx, .second, iv fx, .unset, .unset, .unset, .unset, .unset, .unset, .unset, .unset] [(.long (8796093022219 : Int64)), (.long (xx &&& (9223372036854775807 : Int64)))])) (fun t k => X0.ldc2Long hx hown (mvT hZ (tw1 hw)) (g := (mkF m 20 #[jv xx, .second, iv fx, .unset, .unset, .unset, .unset, .unset, .unset, .unset, .unset] [(.long (xx &&& (9223372036854775807 : Int64)))])) rfl (hb hby at_20) t k) ?_
    refine Wk.go (A' := s₁.setTop (mkF m 24 #[jv xx, .second, iv fx, .unset, .unset, .unset, .unset, .unset, .unset, .unset, .unset] [(.long ((xx &&& (9223372036854775807 : Int64)) - ((xx &&& (9223372036854775807 : Int64)) / (8796093022219 : Int64)) * (8796093022219 : Int64)))])) (fun t k => XS.lrem X0.here hx rfl (hb hby at_23) rfl (by decide) k) ?_
    refine Wk.go (A' := s₁.setTop (mkF m 25 #[jv xx, .second, iv fx, jv ((xx &&& (9223372036854775807 : Int64)) - ((xx &&& (9223372036854775807 : Int64)) / (8796093022219 : Int64)) * (8796093022219 : Int64)), .second, .unset, .unset, .unset, .unset, .unset, .unset] [])) (fun t k => XS.lstoreN X0.here hx rfl (hb hby at_24) rfl (l' := #[jv xx, .second, iv fx, jv ((xx &&& (9223372036854775807 : Int64)) - ((xx &&& (9223372036854775807 : Int64)) / (8796093022219 : Int64)) * (8796093022219 : Int64)), .second, .unset, .unset, .unset, .unset, .unset, .unset]) rfl k) ?_
    generalize hnn : ((xx &&& (9223372036854775807 : Int64)) - ((xx &&& (9223372036854775807 : Int64)) / (8796093022219 : Int64)) * (8796093022219 : Int64)) = nn
    have hn : 0 ≤ nn.toInt ∧ nn.toInt ≤ 8796093022218 := by rw [← hnn]; exact own_n2 xx
    refine Wk.go (A' := s₁.setTop (mkF m 26 #[jv xx, .second, iv fx, jv nn, .second, .unset, .unset, .unset, .unset, .unset, .unset] [(.long nn)])) (fun t k => XS.lloadN X0.here hx rfl (hb hby at_25) rfl k) ?_
    obtain ⟨_, _, ⟨T1, L1, k1, n1⟩, -, X1, ⟨Lc1, hQ1, l1, y1, z1⟩, st1⟩ := Jvm.LawKit.callS X0 hx (y := (⟨"com/example/pledge/pledge/log/Table", "chunkStart", "(J)J"⟩ : MethodName)) hown (mvT hZ (tw2 hw)) (mvT hZ (tw3 hw)) (mvT hZ (tw4 hw)) (mvT hZ (tw5 hw)) (by decide) (backOf (W := 0) (rm1 l Z a0 hw [] nn  h0 n0 Z0 ) hZ (tw5 hw) (tw4 hw) (by decide) (by decide)) (g := (mkF m 26 #[jv xx, .second, iv fx, jv nn, .second, .unset, .unset, .unset, .unset, .unset, .unset] [(.long nn)])) rfl (by rw [hml]; rfl) (argsL := [(.long nn)]) (rest := []) (lenOf pd_2 rfl) rfl (by show 2 * 0 + _ ≤ _; exact Nat.le_of_eq rfl) (hb hby at_26) (fun _ _ => ⟨rfl, e0, (by decide : 0 + 0 ≤ _), (by decide : 0 + 0 ≤ _)⟩)
    dsimp only [Pt.U, Pt.locs, Pt.cells, Pt.slots] at X1 l1 y1 z1 st1 hQ1
    subst l1 y1 z1
    obtain ⟨rfl, N1q, hE1⟩ := hQ1
    have N1 := Fr.app N0 N1q
    refine Wk.go (A' := T1.setTop (mkF m 29 #[jv xx, .second, iv fx, jv nn, .second, .unset, .unset, .unset, .unset, .unset, .unset] [(.long (f_start nn))])) (fun t k => st1 t k) ?_
    refine Wk.go (A' := T1.setTop (mkF m 31 #[jv xx, .second, iv fx, jv nn, .second, jv (f_start nn), .second, .unset, .unset, .unset, .unset] [])) (fun t k => XS.lstore X1.here hx rfl (hb hby at_29) rfl (l' := #[jv xx, .second, iv fx, jv nn, .second, jv (f_start nn), .second, .unset, .unset, .unset, .unset]) rfl k) ?_
    refine Wk.go (A' := T1.setTop (mkF m 32 #[jv xx, .second, iv fx, jv nn, .second, jv (f_start nn), .second, .unset, .unset, .unset, .unset] [(.long nn)])) (fun t k => XS.lloadN X1.here hx rfl (hb hby at_31) rfl k) ?_
    refine Wk.go (A' := T1.setTop (mkF m 33 #[jv xx, .second, iv fx, jv nn, .second, jv (f_start nn), .second, .unset, .unset, .unset, .unset] [(.long (0 : Int64)), (.long nn)])) (fun t k => XS.lconst X1.here hx rfl (hb hby at_32) k) ?_
    refine Wk.go (A' := T1.setTop (mkF m 34 #[jv xx, .second, iv fx, jv nn, .second, jv (f_start nn), .second, .unset, .unset, .unset, .unset] [(.int (lcmpW nn (0 : Int64)))])) (fun t k => XS.lcmp X1.here hx rfl (hb hby at_33) rfl k) ?_
    by_cases hc34 : nn = (0 : Int64)
    · refine Wk.go (A' := T1.setTop (mkF m 37 #[jv xx, .second, iv fx, jv nn, .second, jv (f_start nn), .second, .unset, .unset, .unset, .unset] [])) (fun t k => XS.ifNo X1.here hx rfl (hb hby at_34) rfl ((if0 _ _).trans (teq ((lw_eq _ _).mpr hc34)).2) k) ?_
      refine Wk.go (A' := T1.setTop (mkF m 39 #[jv xx, .second, iv fx, jv nn, .second, jv (f_start nn), .second, .unset, .unset, .unset, .unset] [(.long (f_start nn))])) (fun t k => XS.lload X1.here hx rfl (hb hby at_37) rfl k) ?_
      refine Wk.go (A' := T1.setTop (mkF m 40 #[jv xx, .second, iv fx, jv nn, .second, jv (f_start nn), .second, .unset, .unset, .unset, .unset] [(.long (0 : Int64)), (.long (f_start nn))])) (fun t k => XS.lconst X1.here hx rfl (hb hby at_39) k) ?_
      refine Wk.go (A' := T1.setTop (mkF m 41 #[jv xx, .second, iv fx, jv nn, .second, jv (f_start nn), .second, .unset, .unset, .unset, .unset] [(.int (lcmpW (f_start nn) (0 : Int64)))])) (fun t k => XS.lcmp X1.here hx rfl (hb hby at_40) rfl k) ?_
      have hc41 : (f_start nn) = (0 : Int64) := by rw [hc34]; decide +kernel
      refine Wk.go (A' := T1.setTop (mkF m 44 #[jv xx, .second, iv fx, jv nn, .second, jv (f_start nn), .second, .unset, .unset, .unset, .unset] [])) (fun t k => XS.ifNo X1.here hx rfl (hb hby at_41) rfl ((if0 _ _).trans (teq ((lw_eq _ _).mpr hc41)).2) k) ?_
      refine Wk.go (A' := T1.setTop (mkF m 46 #[jv xx, .second, iv fx, jv nn, .second, jv (f_start nn), .second, .unset, .unset, .unset, .unset] [(.long (f_start nn))])) (fun t k => XS.lload X1.here hx rfl (hb hby at_44) rfl k) ?_
      obtain ⟨_, _, ⟨T2, L2, k2, n2⟩, -, X2, ⟨Lc2, hQ2, l2, y2, z2⟩, st2⟩ := Jvm.LawKit.callS X1 hx (y := (⟨"com/example/pledge/pledge/log/Table", "chunkOf", "(J)J"⟩ : MethodName)) hown (mvT hZ (tw13 hw)) (mvT hZ (tw14 hw)) (mvT hZ (tw4 hw)) (mvT hZ (tw15 hw)) (by decide) (backOf (W := 0) (rm3 l Z a0 hw [] (f_start nn)  h0 n0 Z0 ) hZ (tw15 hw) (tw4 hw) (by decide) (by decide)) (g := (mkF m 46 #[jv xx, .second, iv fx, jv nn, .second, jv (f_start nn), .second, .unset, .unset, .unset, .unset] [(.long (f_start nn))])) rfl (by rw [hml]; rfl) (argsL := [(.long (f_start nn))]) (rest := []) (lenOf pd_2 rfl) rfl (by show 2 * 0 + _ ≤ _; exact Nat.le_of_eq rfl) (hb hby at_46) (fun _ _ => ⟨rfl, (hE1), (by decide : 0 + 0 ≤ _), (by decide : 0 + 0 ≤ _)⟩)
      dsimp only [Pt.U, Pt.locs, Pt.cells, Pt.slots] at X2 l2 y2 z2 st2 hQ2
      subst l2 y2 z2
      obtain ⟨rfl, N2q, hE2⟩ := hQ2
      have N2 := Fr.app N1 N2q
      refine Wk.go (A' := T2.setTop (mkF m 49 #[jv xx, .second, iv fx, jv nn, .second, jv (f_start nn), .second, .unset, .unset, .unset, .unset] [(.long (f_of (f_start nn)))])) (fun t k => st2 t k) ?_
      refine Wk.go (A' := T2.setTop (mkF m 50 #[jv xx, .second, iv fx, jv nn, .second, jv (f_start nn), .second, .unset, .unset, .unset, .unset] [(.long (0 : Int64)), (.long (f_of (f_start nn)))])) (fun t k => XS.lconst X2.here hx rfl (hb hby at_49) k) ?_
      refine Wk.go (A' := T2.setTop (mkF m 51 #[jv xx, .second, iv fx, jv nn, .second, jv (f_start nn), .second, .unset, .unset, .unset, .unset] [(.int (lcmpW (f_of (f_start nn)) (0 : Int64)))])) (fun t k => XS.lcmp X2.here hx rfl (hb hby at_50) rfl k) ?_
      have hc51 : (f_of (f_start nn)) = (0 : Int64) := by rw [hc34]; decide +kernel
      refine Wk.go (A' := T2.setTop (mkF m 54 #[jv xx, .second, iv fx, jv nn, .second, jv (f_start nn), .second, .unset, .unset, .unset, .unset] [])) (fun t k => XS.ifNo X2.here hx rfl (hb hby at_51) rfl ((if0 _ _).trans (teq ((lw_eq _ _).mpr hc51)).2) k) ?_
      refine Wk.go (A' := T2.setTop (mkF m 55 #[jv xx, .second, iv fx, jv nn, .second, jv (f_start nn), .second, .unset, .unset, .unset, .unset] [(.int (1 : Int32))])) (fun t k => XS.iconst X2.here hx rfl (hb hby at_54) k) ?_
      refine Wk.go (A' := T2.setTop (mkF m 59 #[jv xx, .second, iv fx, jv nn, .second, jv (f_start nn), .second, .unset, .unset, .unset, .unset] [(.int (1 : Int32))])) (fun t k => XS.goto X2.here hx rfl (pc0 := 55) (pc' := 59) rfl (hb hby at_55) (by decide) (by decide) k) ?_
      refine own_fin (Qv := Q0 Z xx fx h0 n0) (v := some (.int (1 : Int32))) X2 hlk (fun h => by rw [Bd.returns] at h; cases h) (fun fs hr => retN X2 hx (t := .boolean) Bd.returns (by simp) (hb hby at_59) hr) ?_ (by decide) (by decide)
      exact ⟨rfl, N2⟩
    · refine Wk.go (A' := T1.setTop (mkF m 60 #[jv xx, .second, iv fx, jv nn, .second, jv (f_start nn), .second, .unset, .unset, .unset, .unset] [])) (fun t k => XS.ifYes X1.here hx rfl (pc0 := 34) (pc' := 60) rfl (hb hby at_34) rfl ((if0 _ _).trans (feq (mt (lw_eq _ _).mp hc34)).2) (by decide) (by decide) k) ?_
      obtain ⟨A1, A2, A3⟩ := own_law nn hc34 hn.1 hn.2
      refine Wk.go (A' := T1.setTop (mkF m 61 #[jv xx, .second, iv fx, jv nn, .second, jv (f_start nn), .second, .unset, .unset, .unset, .unset] [(.long nn)])) (fun t k => XS.lloadN X1.here hx rfl (hb hby at_60) rfl k) ?_
      refine Wk.go (A' := T1.setTop (mkF m 62 #[jv xx, .second, iv fx, jv nn, .second, jv (f_start nn), .second, .unset, .unset, .unset, .unset] [(.long (1 : Int64)), (.long nn)])) (fun t k => XS.lconst X1.here hx rfl (hb hby at_61) k) ?_
      refine Wk.go (A' := T1.setTop (mkF m 63 #[jv xx, .second, iv fx, jv nn, .second, jv (f_start nn), .second, .unset, .unset, .unset, .unset] [(.long (nn - (1 : Int64)))])) (fun t k => XS.lsub X1.here hx rfl (hb hby at_62) rfl k) ?_
      obtain ⟨_, _, ⟨T3, L3, k3, n3⟩, -, X3, ⟨Lc3, hQ3, l3, y3, z3⟩, st3⟩ := Jvm.LawKit.callS X1 hx (y := (⟨"com/example/pledge/pledge/log/Table", "chunkStart", "(J)J"⟩ : MethodName)) hown (mvT hZ (tw2 hw)) (mvT hZ (tw3 hw)) (mvT hZ (tw4 hw)) (mvT hZ (tw5 hw)) (by decide) (backOf (W := 0) (rm1 l Z a0 hw [] (nn - (1 : Int64))  h0 n0 Z0 ) hZ (tw5 hw) (tw4 hw) (by decide) (by decide)) (g := (mkF m 63 #[jv xx, .second, iv fx, jv nn, .second, jv (f_start nn), .second, .unset, .unset, .unset, .unset] [(.long (nn - (1 : Int64)))])) rfl (by rw [hml]; rfl) (argsL := [(.long (nn - (1 : Int64)))]) (rest := []) (lenOf pd_2 rfl) rfl (by show 2 * 0 + _ ≤ _; exact Nat.le_of_eq rfl) (hb hby at_63) (fun _ _ => ⟨rfl, (hE1), (by decide : 0 + 0 ≤ _), (by decide : 0 + 0 ≤ _)⟩)
      dsimp only [Pt.U, Pt.locs, Pt.cells, Pt.slots] at X3 l3 y3 z3 st3 hQ3
      subst l3 y3 z3
      obtain ⟨rfl, N3q, hE3⟩ := hQ3
      have N3 := Fr.app N1 N3q
      refine Wk.go (A' := T3.setTop (mkF m 66 #[jv xx, .second, iv fx, jv nn, .second, jv (f_start nn), .second, .unset, .unset, .unset, .unset] [(.long (f_start (nn - (1 : Int64))))])) (fun t k => st3 t k) ?_
      refine Wk.go (A' := T3.setTop (mkF m 68 #[jv xx, .second, iv fx, jv nn, .second, jv (f_start nn), .second, jv (f_start (nn - (1 : Int64))), .second, .unset, .unset] [])) (fun t k => XS.lstore X3.here hx rfl (hb hby at_66) rfl (l' := #[jv xx, .second, iv fx, jv nn, .second, jv (f_start nn), .second, jv (f_start (nn - (1 : Int64))), .second, .unset, .unset]) rfl k) ?_
      refine Wk.go (A' := T3.setTop (mkF m 70 #[jv xx, .second, iv fx, jv nn, .second, jv (f_start nn), .second, jv (f_start (nn - (1 : Int64))), .second, .unset, .unset] [(.long (f_start nn))])) (fun t k => XS.lload X3.here hx rfl (hb hby at_68) rfl k) ?_
      refine Wk.go (A' := T3.setTop (mkF m 72 #[jv xx, .second, iv fx, jv nn, .second, jv (f_start nn), .second, jv (f_start (nn - (1 : Int64))), .second, .unset, .unset] [(.long (f_start (nn - (1 : Int64)))), (.long (f_start nn))])) (fun t k => XS.lload X3.here hx rfl (hb hby at_70) rfl k) ?_
      refine Wk.go (A' := T3.setTop (mkF m 73 #[jv xx, .second, iv fx, jv nn, .second, jv (f_start nn), .second, jv (f_start (nn - (1 : Int64))), .second, .unset, .unset] [(.long nn), (.long (f_start (nn - (1 : Int64)))), (.long (f_start nn))])) (fun t k => XS.lloadN X3.here hx rfl (hb hby at_72) rfl k) ?_
      refine Wk.go (A' := T3.setTop (mkF m 74 #[jv xx, .second, iv fx, jv nn, .second, jv (f_start nn), .second, jv (f_start (nn - (1 : Int64))), .second, .unset, .unset] [(.long (1 : Int64)), (.long nn), (.long (f_start (nn - (1 : Int64)))), (.long (f_start nn))])) (fun t k => XS.lconst X3.here hx rfl (hb hby at_73) k) ?_
      refine Wk.go (A' := T3.setTop (mkF m 75 #[jv xx, .second, iv fx, jv nn, .second, jv (f_start nn), .second, jv (f_start (nn - (1 : Int64))), .second, .unset, .unset] [(.long (nn - (1 : Int64))), (.long (f_start (nn - (1 : Int64)))), (.long (f_start nn))])) (fun t k => XS.lsub X3.here hx rfl (hb hby at_74) rfl k) ?_
      refine Wk.go (A' := T3.setTop (mkF m 77 #[jv xx, .second, iv fx, jv nn, .second, jv (f_start nn), .second, jv (f_start (nn - (1 : Int64))), .second, .unset, .unset] [(.long (f_start (nn - (1 : Int64)))), (.long (nn - (1 : Int64))), (.long (f_start (nn - (1 : Int64)))), (.long (f_start nn))])) (fun t k => XS.lload X3.here hx rfl (hb hby at_75) rfl k) ?_
      obtain ⟨_, _, ⟨T4, L4, k4, n4⟩, -, X4, ⟨Lc4, hQ4, l4, y4, z4⟩, st4⟩ := Jvm.LawKit.callS X3 hx (y := (⟨"com/example/pledge/pledge/log/TableChunkStartPinLaw", "sizeOf", "(JJ)J"⟩ : MethodName)) hown (mvT hZ (tw8 hw)) (mvT hZ (tw9 hw)) (mvT hZ (tw10 hw)) (mvT hZ (tw11 hw)) (by decide) (backOf (W := 4) (rm2 l Z a0 hw [] (nn - (1 : Int64)) (f_start (nn - (1 : Int64)))  h0 n0 Z0 ) hZ (tw11 hw) (tw10 hw) (by decide) (by decide)) (g := (mkF m 77 #[jv xx, .second, iv fx, jv nn, .second, jv (f_start nn), .second, jv (f_start (nn - (1 : Int64))), .second, .unset, .unset] [(.long (f_start (nn - (1 : Int64)))), (.long (nn - (1 : Int64))), (.long (f_start (nn - (1 : Int64)))), (.long (f_start nn))])) rfl (by rw [hml]; rfl) (argsL := [(.long (nn - (1 : Int64))), (.long (f_start (nn - (1 : Int64))))]) (rest := [(.long (f_start (nn - (1 : Int64)))), (.long (f_start nn))]) (lenOf pd_3 rfl) rfl (by show 2 * 0 + _ ≤ _; exact Nat.le_of_eq rfl) (hb hby at_77) (fun _ _ => ⟨rfl, (hE3), (by decide : 0 + 0 ≤ _), (by decide : 0 + 0 ≤ _)⟩)
      dsimp only [Pt.U, Pt.locs, Pt.cells, Pt.slots] at X4 l4 y4 z4 st4 hQ4
      subst l4 y4 z4
      obtain ⟨rfl, N4q, hE4⟩ := hQ4
      have N4 := Fr.app N3 N4q
      refine Wk.go (A' := T4.setTop (mkF m 80 #[jv xx, .second, iv fx, jv nn, .second, jv (f_start nn), .second, jv (f_start (nn - (1 : Int64))), .second, .unset, .unset] [(.long (f_size (nn - (1 : Int64)) (f_start (nn - (1 : Int64))))), (.long (f_start (nn - (1 : Int64)))), (.long (f_start nn))])) (fun t k => st4 t k) ?_
      refine Wk.go (A' := T4.setTop (mkF m 81 #[jv xx, .second, iv fx, jv nn, .second, jv (f_start nn), .second, jv (f_start (nn - (1 : Int64))), .second, .unset, .unset] [(.long ((f_start (nn - (1 : Int64))) + (f_size (nn - (1 : Int64)) (f_start (nn - (1 : Int64)))))), (.long (f_start nn))])) (fun t k => XS.ladd X4.here hx rfl (hb hby at_80) rfl k) ?_
      refine Wk.go (A' := T4.setTop (mkF m 82 #[jv xx, .second, iv fx, jv nn, .second, jv (f_start nn), .second, jv (f_start (nn - (1 : Int64))), .second, .unset, .unset] [(.int (lcmpW (f_start nn) ((f_start (nn - (1 : Int64))) + (f_size (nn - (1 : Int64)) (f_start (nn - (1 : Int64)))))))])) (fun t k => XS.lcmp X4.here hx rfl (hb hby at_81) rfl k) ?_
      have hc82 : (f_start nn) = ((f_start (nn - (1 : Int64))) + (f_size (nn - (1 : Int64)) (f_start (nn - (1 : Int64))))) := A1
      refine Wk.go (A' := T4.setTop (mkF m 85 #[jv xx, .second, iv fx, jv nn, .second, jv (f_start nn), .second, jv (f_start (nn - (1 : Int64))), .second, .unset, .unset] [])) (fun t k => XS.ifNo X4.here hx rfl (hb hby at_82) rfl ((if0 _ _).trans (teq ((lw_eq _ _).mpr hc82)).2) k) ?_
      refine Wk.go (A' := T4.setTop (mkF m 86 #[jv xx, .second, iv fx, jv nn, .second, jv (f_start nn), .second, jv (f_start (nn - (1 : Int64))), .second, .unset, .unset] [(.int (1 : Int32))])) (fun t k => XS.iconst X4.here hx rfl (hb hby at_85) k) ?_
      refine Wk.go (A' := T4.setTop (mkF m 90 #[jv xx, .second, iv fx, jv nn, .second, jv (f_start nn), .second, jv (f_start (nn - (1 : Int64))), .second, .unset, .unset] [(.int (1 : Int32))])) (fun t k => XS.goto X4.here hx rfl (pc0 := 86) (pc' := 90) rfl (hb hby at_86) (by decide) (by decide) k) ?_
      refine Wk.go (A' := T4.setTop (mkF m 92 #[jv xx, .second, iv fx, jv nn, .second, jv (f_start nn), .second, jv (f_start (nn - (1 : Int64))), .second, iv (1 : Int32), .unset] [])) (fun t k => XS.istore X4.here hx rfl (hb hby at_90) rfl (l' := #[jv xx, .second, iv fx, jv nn, .second, jv (f_start nn), .second, jv (f_start (nn - (1 : Int64))), .second, iv (1 : Int32), .unset]) rfl k) ?_
      refine Wk.go (A' := T4.setTop (mkF m 94 #[jv xx, .second, iv fx, jv nn, .second, jv (f_start nn), .second, jv (f_start (nn - (1 : Int64))), .second, iv (1 : Int32), .unset] [(.long (f_start nn))])) (fun t k => XS.lload X4.here hx rfl (hb hby at_92) rfl k) ?_
      obtain ⟨_, _, ⟨T5, L5, k5, n5⟩, -, X5, ⟨Lc5, hQ5, l5, y5, z5⟩, st5⟩ := Jvm.LawKit.callS X4 hx (y := (⟨"com/example/pledge/pledge/log/Table", "chunkOf", "(J)J"⟩ : MethodName)) hown (mvT hZ (tw13 hw)) (mvT hZ (tw14 hw)) (mvT hZ (tw4 hw)) (mvT hZ (tw15 hw)) (by decide) (backOf (W := 0) (rm3 l Z a0 hw [] (f_start nn)  h0 n0 Z0 ) hZ (tw15 hw) (tw4 hw) (by decide) (by decide)) (g := (mkF m 94 #[jv xx, .second, iv fx, jv nn, .second, jv (f_start nn), .second, jv (f_start (nn - (1 : Int64))), .second, iv (1 : Int32), .unset] [(.long (f_start nn))])) rfl (by rw [hml]; rfl) (argsL := [(.long (f_start nn))]) (rest := []) (lenOf pd_2 rfl) rfl (by show 2 * 0 + _ ≤ _; exact Nat.le_of_eq rfl) (hb hby at_94) (fun _ _ => ⟨rfl, (hE4), (by decide : 0 + 0 ≤ _), (by decide : 0 + 0 ≤ _)⟩)
      dsimp only [Pt.U, Pt.locs, Pt.cells, Pt.slots] at X5 l5 y5 z5 st5 hQ5
      subst l5 y5 z5
      obtain ⟨rfl, N5q, hE5⟩ := hQ5
      have N5 := Fr.app N4 N5q
      refine Wk.go (A' := T5.setTop (mkF m 97 #[jv xx, .second, iv fx, jv nn, .second, jv (f_start nn), .second, jv (f_start (nn - (1 : Int64))), .second, iv (1 : Int32), .unset] [(.long (f_of (f_start nn)))])) (fun t k => st5 t k) ?_
      refine Wk.go (A' := T5.setTop (mkF m 98 #[jv xx, .second, iv fx, jv nn, .second, jv (f_start nn), .second, jv (f_start (nn - (1 : Int64))), .second, iv (1 : Int32), .unset] [(.long nn), (.long (f_of (f_start nn)))])) (fun t k => XS.lloadN X5.here hx rfl (hb hby at_97) rfl k) ?_
      refine Wk.go (A' := T5.setTop (mkF m 99 #[jv xx, .second, iv fx, jv nn, .second, jv (f_start nn), .second, jv (f_start (nn - (1 : Int64))), .second, iv (1 : Int32), .unset] [(.int (lcmpW (f_of (f_start nn)) nn))])) (fun t k => XS.lcmp X5.here hx rfl (hb hby at_98) rfl k) ?_
      have hc99 : (f_of (f_start nn)) = nn := A2
      refine Wk.go (A' := T5.setTop (mkF m 102 #[jv xx, .second, iv fx, jv nn, .second, jv (f_start nn), .second, jv (f_start (nn - (1 : Int64))), .second, iv (1 : Int32), .unset] [])) (fun t k => XS.ifNo X5.here hx rfl (hb hby at_99) rfl ((if0 _ _).trans (teq ((lw_eq _ _).mpr hc99)).2) k) ?_
      refine Wk.go (A' := T5.setTop (mkF m 104 #[jv xx, .second, iv fx, jv nn, .second, jv (f_start nn), .second, jv (f_start (nn - (1 : Int64))), .second, iv (1 : Int32), .unset] [(.long (f_start nn))])) (fun t k => XS.lload X5.here hx rfl (hb hby at_102) rfl k) ?_
      refine Wk.go (A' := T5.setTop (mkF m 105 #[jv xx, .second, iv fx, jv nn, .second, jv (f_start nn), .second, jv (f_start (nn - (1 : Int64))), .second, iv (1 : Int32), .unset] [(.long (1 : Int64)), (.long (f_start nn))])) (fun t k => XS.lconst X5.here hx rfl (hb hby at_104) k) ?_
      refine Wk.go (A' := T5.setTop (mkF m 106 #[jv xx, .second, iv fx, jv nn, .second, jv (f_start nn), .second, jv (f_start (nn - (1 : Int64))), .second, iv (1 : Int32), .unset] [(.long ((f_start nn) - (1 : Int64)))])) (fun t k => XS.lsub X5.here hx rfl (hb hby at_105) rfl k) ?_
      obtain ⟨_, _, ⟨T6, L6, k6, n6⟩, -, X6, ⟨Lc6, hQ6, l6, y6, z6⟩, st6⟩ := Jvm.LawKit.callS X5 hx (y := (⟨"com/example/pledge/pledge/log/Table", "chunkOf", "(J)J"⟩ : MethodName)) hown (mvT hZ (tw13 hw)) (mvT hZ (tw14 hw)) (mvT hZ (tw4 hw)) (mvT hZ (tw15 hw)) (by decide) (backOf (W := 0) (rm3 l Z a0 hw [] ((f_start nn) - (1 : Int64))  h0 n0 Z0 ) hZ (tw15 hw) (tw4 hw) (by decide) (by decide)) (g := (mkF m 106 #[jv xx, .second, iv fx, jv nn, .second, jv (f_start nn), .second, jv (f_start (nn - (1 : Int64))), .second, iv (1 : Int32), .unset] [(.long ((f_start nn) - (1 : Int64)))])) rfl (by rw [hml]; rfl) (argsL := [(.long ((f_start nn) - (1 : Int64)))]) (rest := []) (lenOf pd_2 rfl) rfl (by show 2 * 0 + _ ≤ _; exact Nat.le_of_eq rfl) (hb hby at_106) (fun _ _ => ⟨rfl, (hE5), (by decide : 0 + 0 ≤ _), (by decide : 0 + 0 ≤ _)⟩)
      dsimp only [Pt.U, Pt.locs, Pt.cells, Pt.slots] at X6 l6 y6 z6 st6 hQ6
      subst l6 y6 z6
      obtain ⟨rfl, N6q, hE6⟩ := hQ6
      have N6 := Fr.app N5 N6q
      refine Wk.go (A' := T6.setTop (mkF m 109 #[jv xx, .second, iv fx, jv nn, .second, jv (f_start nn), .second, jv (f_start (nn - (1 : Int64))), .second, iv (1 : Int32), .unset] [(.long (f_of ((f_start nn) - (1 : Int64))))])) (fun t k => st6 t k) ?_
      refine Wk.go (A' := T6.setTop (mkF m 110 #[jv xx, .second, iv fx, jv nn, .second, jv (f_start nn), .second, jv (f_start (nn - (1 : Int64))), .second, iv (1 : Int32), .unset] [(.long nn), (.long (f_of ((f_start nn) - (1 : Int64))))])) (fun t k => XS.lloadN X6.here hx rfl (hb hby at_109) rfl k) ?_
      refine Wk.go (A' := T6.setTop (mkF m 111 #[jv xx, .second, iv fx, jv nn, .second, jv (f_start nn), .second, jv (f_start (nn - (1 : Int64))), .second, iv (1 : Int32), .unset] [(.long (1 : Int64)), (.long nn), (.long (f_of ((f_start nn) - (1 : Int64))))])) (fun t k => XS.lconst X6.here hx rfl (hb hby at_110) k) ?_
      refine Wk.go (A' := T6.setTop (mkF m 112 #[jv xx, .second, iv fx, jv nn, .second, jv (f_start nn), .second, jv (f_start (nn - (1 : Int64))), .second, iv (1 : Int32), .unset] [(.long (nn - (1 : Int64))), (.long (f_of ((f_start nn) - (1 : Int64))))])) (fun t k => XS.lsub X6.here hx rfl (hb hby at_111) rfl k) ?_
      refine Wk.go (A' := T6.setTop (mkF m 113 #[jv xx, .second, iv fx, jv nn, .second, jv (f_start nn), .second, jv (f_start (nn - (1 : Int64))), .second, iv (1 : Int32), .unset] [(.int (lcmpW (f_of ((f_start nn) - (1 : Int64))) (nn - (1 : Int64))))])) (fun t k => XS.lcmp X6.here hx rfl (hb hby at_112) rfl k) ?_
      have hc113 : (f_of ((f_start nn) - (1 : Int64))) = (nn - (1 : Int64)) := A3
      refine Wk.go (A' := T6.setTop (mkF m 116 #[jv xx, .second, iv fx, jv nn, .second, jv (f_start nn), .second, jv (f_start (nn - (1 : Int64))), .second, iv (1 : Int32), .unset] [])) (fun t k => XS.ifNo X6.here hx rfl (hb hby at_113) rfl ((if0 _ _).trans (teq ((lw_eq _ _).mpr hc113)).2) k) ?_
      refine Wk.go (A' := T6.setTop (mkF m 117 #[jv xx, .second, iv fx, jv nn, .second, jv (f_start nn), .second, jv (f_start (nn - (1 : Int64))), .second, iv (1 : Int32), .unset] [(.int (1 : Int32))])) (fun t k => XS.iconst X6.here hx rfl (hb hby at_116) k) ?_
      refine Wk.go (A' := T6.setTop (mkF m 121 #[jv xx, .second, iv fx, jv nn, .second, jv (f_start nn), .second, jv (f_start (nn - (1 : Int64))), .second, iv (1 : Int32), .unset] [(.int (1 : Int32))])) (fun t k => XS.goto X6.here hx rfl (pc0 := 117) (pc' := 121) rfl (hb hby at_117) (by decide) (by decide) k) ?_
      refine Wk.go (A' := T6.setTop (mkF m 123 #[jv xx, .second, iv fx, jv nn, .second, jv (f_start nn), .second, jv (f_start (nn - (1 : Int64))), .second, iv (1 : Int32), iv (1 : Int32)] [])) (fun t k => XS.istore X6.here hx rfl (hb hby at_121) rfl (l' := #[jv xx, .second, iv fx, jv nn, .second, jv (f_start nn), .second, jv (f_start (nn - (1 : Int64))), .second, iv (1 : Int32), iv (1 : Int32)]) rfl k) ?_
      refine Wk.go (A' := T6.setTop (mkF m 125 #[jv xx, .second, iv fx, jv nn, .second, jv (f_start nn), .second, jv (f_start (nn - (1 : Int64))), .second, iv (1 : Int32), iv (1 : Int32)] [(.int (1 : Int32))])) (fun t k => XS.iload X6.here hx rfl (hb hby at_123) rfl k) ?_
      have hc125 : ¬ ((1 : Int32) = (0 : Int32)) := by decide
      refine Wk.go (A' := T6.setTop (mkF m 128 #[jv xx, .second, iv fx, jv nn, .second, jv (f_start nn), .second, jv (f_start (nn - (1 : Int64))), .second, iv (1 : Int32), iv (1 : Int32)] [])) (fun t k => XS.ifNo X6.here hx rfl (hb hby at_125) rfl ((if0 _ _).trans (feq hc125).1) k) ?_
      refine Wk.go (A' := T6.setTop (mkF m 130 #[jv xx, .second, iv fx, jv nn, .second, jv (f_start nn), .second, jv (f_start (nn - (1 : Int64))), .second, iv (1 : Int32), iv (1 : Int32)] [(.int (1 : Int32))])) (fun t k => XS.iload X6.here hx rfl (hb hby at_128) rfl k) ?_
      have hc130 : ¬ ((1 : Int32) = (0 : Int32)) := by decide
      refine Wk.go (A' := T6.setTop (mkF m 133 #[jv xx, .second, iv fx, jv nn, .second, jv (f_start nn), .second, jv (f_start (nn - (1 : Int64))), .second, iv (1 : Int32), iv (1 : Int32)] [])) (fun t k => XS.ifNo X6.here hx rfl (hb hby at_130) rfl ((if0 _ _).trans (feq hc130).1) k) ?_
      refine Wk.go (A' := T6.setTop (mkF m 134 #[jv xx, .second, iv fx, jv nn, .second, jv (f_start nn), .second, jv (f_start (nn - (1 : Int64))), .second, iv (1 : Int32), iv (1 : Int32)] [(.int (1 : Int32))])) (fun t k => XS.iconst X6.here hx rfl (hb hby at_133) k) ?_
      refine Wk.go (A' := T6.setTop (mkF m 138 #[jv xx, .second, iv fx, jv nn, .second, jv (f_start nn), .second, jv (f_start (nn - (1 : Int64))), .second, iv (1 : Int32), iv (1 : Int32)] [(.int (1 : Int32))])) (fun t k => XS.goto X6.here hx rfl (pc0 := 134) (pc' := 138) rfl (hb hby at_134) (by decide) (by decide) k) ?_
      refine own_fin (Qv := Q0 Z xx fx h0 n0) (v := some (.int (1 : Int32))) X6 hlk (fun h => by rw [Bd.returns] at h; cases h) (fun fs hr => retN X6 hx (t := .boolean) Bd.returns (by simp) (hb hby at_138) hr) ?_ (by decide) (by decide)
      exact ⟨rfl, N6⟩
  · refine Wk.go (A' := s₁.setTop (mkF m 6 #[jv xx, .second, iv fx, .unset, .unset, .unset, .unset, .unset, .unset, .unset, .unset] [])) (fun t k => XS.ifNo X0.here hx rfl (hb hby at_3) rfl ((if0 _ _).trans (feq hc3).1) k) ?_
    refine Wk.go (A' := s₁.setTop (mkF m 7 #[jv xx, .second, iv fx, .unset, .unset, .unset, .unset, .unset, .unset, .unset, .unset] [(.long xx)])) (fun t k => XS.lloadN X0.here hx rfl (hb hby at_6) rfl k) ?_
    refine Wk.go (A' := s₁.setTop (mkF m 10 #[jv xx, .second, iv fx, .unset, .unset, .unset, .unset, .unset, .unset, .unset, .unset] [(.long (31 : Int64)), (.long xx)])) (fun t k => X0.ldc2Long hx hown (mvT hZ (tw29 hw)) (g := (mkF m 7 #[jv xx, .second, iv fx, .unset, .unset, .unset, .unset, .unset, .unset, .unset, .unset] [(.long xx)])) rfl (hb hby at_7) t k) ?_
    refine Wk.go (A' := s₁.setTop (mkF m 11 #[jv xx, .second, iv fx, .unset, .unset, .unset, .unset, .unset, .unset, .unset, .unset] [(.long (xx &&& (31 : Int64)))])) (fun t k => XS.land X0.here hx rfl (hb hby at_10) rfl k) ?_
    refine Wk.go (A' := s₁.setTop (mkF m 12 #[jv xx, .second, iv fx, jv (xx &&& (31 : Int64)), .second, .unset, .unset, .unset, .unset, .unset, .unset] [])) (fun t k => XS.lstoreN X0.here hx rfl (hb hby at_11) rfl (l' := #[jv xx, .second, iv fx, jv (xx &&& (31 : Int64)), .second, .unset, .unset, .unset, .unset, .unset, .unset]) rfl k) ?_
    generalize hnn : (xx &&& (31 : Int64)) = nn
    refine Wk.go (A' := s₁.setTop (mkF m 25 #[jv xx, .second, iv fx, jv nn, .second, .unset, .unset, .unset, .unset, .unset, .unset] [])) (fun t k => XS.goto X0.here hx rfl (pc0 := 12) (pc' := 25) rfl (hb hby at_12) (by decide) (by decide) k) ?_
    have hn : 0 ≤ nn.toInt ∧ nn.toInt ≤ 8796093022218 := by rw [← hnn]; exact own_n1 xx
    refine Wk.go (A' := s₁.setTop (mkF m 26 #[jv xx, .second, iv fx, jv nn, .second, .unset, .unset, .unset, .unset, .unset, .unset] [(.long nn)])) (fun t k => XS.lloadN X0.here hx rfl (hb hby at_25) rfl k) ?_
    obtain ⟨_, _, ⟨T7, L7, k7, n7⟩, -, X7, ⟨Lc7, hQ7, l7, y7, z7⟩, st7⟩ := Jvm.LawKit.callS X0 hx (y := (⟨"com/example/pledge/pledge/log/Table", "chunkStart", "(J)J"⟩ : MethodName)) hown (mvT hZ (tw2 hw)) (mvT hZ (tw3 hw)) (mvT hZ (tw4 hw)) (mvT hZ (tw5 hw)) (by decide) (backOf (W := 0) (rm1 l Z a0 hw [] nn  h0 n0 Z0 ) hZ (tw5 hw) (tw4 hw) (by decide) (by decide)) (g := (mkF m 26 #[jv xx, .second, iv fx, jv nn, .second, .unset, .unset, .unset, .unset, .unset, .unset] [(.long nn)])) rfl (by rw [hml]; rfl) (argsL := [(.long nn)]) (rest := []) (lenOf pd_2 rfl) rfl (by show 2 * 0 + _ ≤ _; exact Nat.le_of_eq rfl) (hb hby at_26) (fun _ _ => ⟨rfl, e0, (by decide : 0 + 0 ≤ _), (by decide : 0 + 0 ≤ _)⟩)
    dsimp only [Pt.U, Pt.locs, Pt.cells, Pt.slots] at X7 l7 y7 z7 st7 hQ7
    subst l7 y7 z7
    obtain ⟨rfl, N7q, hE7⟩ := hQ7
    have N7 := Fr.app N0 N7q
    refine Wk.go (A' := T7.setTop (mkF m 29 #[jv xx, .second, iv fx, jv nn, .second, .unset, .unset, .unset, .unset, .unset, .unset] [(.long (f_start nn))])) (fun t k => st7 t k) ?_
    refine Wk.go (A' := T7.setTop (mkF m 31 #[jv xx, .second, iv fx, jv nn, .second, jv (f_start nn), .second, .unset, .unset, .unset, .unset] [])) (fun t k => XS.lstore X7.here hx rfl (hb hby at_29) rfl (l' := #[jv xx, .second, iv fx, jv nn, .second, jv (f_start nn), .second, .unset, .unset, .unset, .unset]) rfl k) ?_
    refine Wk.go (A' := T7.setTop (mkF m 32 #[jv xx, .second, iv fx, jv nn, .second, jv (f_start nn), .second, .unset, .unset, .unset, .unset] [(.long nn)])) (fun t k => XS.lloadN X7.here hx rfl (hb hby at_31) rfl k) ?_
    refine Wk.go (A' := T7.setTop (mkF m 33 #[jv xx, .second, iv fx, jv nn, .second, jv (f_start nn), .second, .unset, .unset, .unset, .unset] [(.long (0 : Int64)), (.long nn)])) (fun t k => XS.lconst X7.here hx rfl (hb hby at_32) k) ?_
    refine Wk.go (A' := T7.setTop (mkF m 34 #[jv xx, .second, iv fx, jv nn, .second, jv (f_start nn), .second, .unset, .unset, .unset, .unset] [(.int (lcmpW nn (0 : Int64)))])) (fun t k => XS.lcmp X7.here hx rfl (hb hby at_33) rfl k) ?_
    by_cases hc34 : nn = (0 : Int64)
    · refine Wk.go (A' := T7.setTop (mkF m 37 #[jv xx, .second, iv fx, jv nn, .second, jv (f_start nn), .second, .unset, .unset, .unset, .unset] [])) (fun t k => XS.ifNo X7.here hx rfl (hb hby at_34) rfl ((if0 _ _).trans (teq ((lw_eq _ _).mpr hc34)).2) k) ?_
      refine Wk.go (A' := T7.setTop (mkF m 39 #[jv xx, .second, iv fx, jv nn, .second, jv (f_start nn), .second, .unset, .unset, .unset, .unset] [(.long (f_start nn))])) (fun t k => XS.lload X7.here hx rfl (hb hby at_37) rfl k) ?_
      refine Wk.go (A' := T7.setTop (mkF m 40 #[jv xx, .second, iv fx, jv nn, .second, jv (f_start nn), .second, .unset, .unset, .unset, .unset] [(.long (0 : Int64)), (.long (f_start nn))])) (fun t k => XS.lconst X7.here hx rfl (hb hby at_39) k) ?_
      refine Wk.go (A' := T7.setTop (mkF m 41 #[jv xx, .second, iv fx, jv nn, .second, jv (f_start nn), .second, .unset, .unset, .unset, .unset] [(.int (lcmpW (f_start nn) (0 : Int64)))])) (fun t k => XS.lcmp X7.here hx rfl (hb hby at_40) rfl k) ?_
      have hc41 : (f_start nn) = (0 : Int64) := by rw [hc34]; decide +kernel
      refine Wk.go (A' := T7.setTop (mkF m 44 #[jv xx, .second, iv fx, jv nn, .second, jv (f_start nn), .second, .unset, .unset, .unset, .unset] [])) (fun t k => XS.ifNo X7.here hx rfl (hb hby at_41) rfl ((if0 _ _).trans (teq ((lw_eq _ _).mpr hc41)).2) k) ?_
      refine Wk.go (A' := T7.setTop (mkF m 46 #[jv xx, .second, iv fx, jv nn, .second, jv (f_start nn), .second, .unset, .unset, .unset, .unset] [(.long (f_start nn))])) (fun t k => XS.lload X7.here hx rfl (hb hby at_44) rfl k) ?_
      obtain ⟨_, _, ⟨T8, L8, k8, n8⟩, -, X8, ⟨Lc8, hQ8, l8, y8, z8⟩, st8⟩ := Jvm.LawKit.callS X7 hx (y := (⟨"com/example/pledge/pledge/log/Table", "chunkOf", "(J)J"⟩ : MethodName)) hown (mvT hZ (tw13 hw)) (mvT hZ (tw14 hw)) (mvT hZ (tw4 hw)) (mvT hZ (tw15 hw)) (by decide) (backOf (W := 0) (rm3 l Z a0 hw [] (f_start nn)  h0 n0 Z0 ) hZ (tw15 hw) (tw4 hw) (by decide) (by decide)) (g := (mkF m 46 #[jv xx, .second, iv fx, jv nn, .second, jv (f_start nn), .second, .unset, .unset, .unset, .unset] [(.long (f_start nn))])) rfl (by rw [hml]; rfl) (argsL := [(.long (f_start nn))]) (rest := []) (lenOf pd_2 rfl) rfl (by show 2 * 0 + _ ≤ _; exact Nat.le_of_eq rfl) (hb hby at_46) (fun _ _ => ⟨rfl, (hE7), (by decide : 0 + 0 ≤ _), (by decide : 0 + 0 ≤ _)⟩)
      dsimp only [Pt.U, Pt.locs, Pt.cells, Pt.slots] at X8 l8 y8 z8 st8 hQ8
      subst l8 y8 z8
      obtain ⟨rfl, N8q, hE8⟩ := hQ8
      have N8 := Fr.app N7 N8q
      refine Wk.go (A' := T8.setTop (mkF m 49 #[jv xx, .second, iv fx, jv nn, .second, jv (f_start nn), .second, .unset, .unset, .unset, .unset] [(.long (f_of (f_start nn)))])) (fun t k => st8 t k) ?_
      refine Wk.go (A' := T8.setTop (mkF m 50 #[jv xx, .second, iv fx, jv nn, .second, jv (f_start nn), .second, .unset, .unset, .unset, .unset] [(.long (0 : Int64)), (.long (f_of (f_start nn)))])) (fun t k => XS.lconst X8.here hx rfl (hb hby at_49) k) ?_
      refine Wk.go (A' := T8.setTop (mkF m 51 #[jv xx, .second, iv fx, jv nn, .second, jv (f_start nn), .second, .unset, .unset, .unset, .unset] [(.int (lcmpW (f_of (f_start nn)) (0 : Int64)))])) (fun t k => XS.lcmp X8.here hx rfl (hb hby at_50) rfl k) ?_
      have hc51 : (f_of (f_start nn)) = (0 : Int64) := by rw [hc34]; decide +kernel
      refine Wk.go (A' := T8.setTop (mkF m 54 #[jv xx, .second, iv fx, jv nn, .second, jv (f_start nn), .second, .unset, .unset, .unset, .unset] [])) (fun t k => XS.ifNo X8.here hx rfl (hb hby at_51) rfl ((if0 _ _).trans (teq ((lw_eq _ _).mpr hc51)).2) k) ?_
      refine Wk.go (A' := T8.setTop (mkF m 55 #[jv xx, .second, iv fx, jv nn, .second, jv (f_start nn), .second, .unset, .unset, .unset, .unset] [(.int (1 : Int32))])) (fun t k => XS.iconst X8.here hx rfl (hb hby at_54) k) ?_
      refine Wk.go (A' := T8.setTop (mkF m 59 #[jv xx, .second, iv fx, jv nn, .second, jv (f_start nn), .second, .unset, .unset, .unset, .unset] [(.int (1 : Int32))])) (fun t k => XS.goto X8.here hx rfl (pc0 := 55) (pc' := 59) rfl (hb hby at_55) (by decide) (by decide) k) ?_
      refine own_fin (Qv := Q0 Z xx fx h0 n0) (v := some (.int (1 : Int32))) X8 hlk (fun h => by rw [Bd.returns] at h; cases h) (fun fs hr => retN X8 hx (t := .boolean) Bd.returns (by simp) (hb hby at_59) hr) ?_ (by decide) (by decide)
      exact ⟨rfl, N8⟩
    · refine Wk.go (A' := T7.setTop (mkF m 60 #[jv xx, .second, iv fx, jv nn, .second, jv (f_start nn), .second, .unset, .unset, .unset, .unset] [])) (fun t k => XS.ifYes X7.here hx rfl (pc0 := 34) (pc' := 60) rfl (hb hby at_34) rfl ((if0 _ _).trans (feq (mt (lw_eq _ _).mp hc34)).2) (by decide) (by decide) k) ?_
      obtain ⟨A1, A2, A3⟩ := own_law nn hc34 hn.1 hn.2
      refine Wk.go (A' := T7.setTop (mkF m 61 #[jv xx, .second, iv fx, jv nn, .second, jv (f_start nn), .second, .unset, .unset, .unset, .unset] [(.long nn)])) (fun t k => XS.lloadN X7.here hx rfl (hb hby at_60) rfl k) ?_
      refine Wk.go (A' := T7.setTop (mkF m 62 #[jv xx, .second, iv fx, jv nn, .second, jv (f_start nn), .second, .unset, .unset, .unset, .unset] [(.long (1 : Int64)), (.long nn)])) (fun t k => XS.lconst X7.here hx rfl (hb hby at_61) k) ?_
      refine Wk.go (A' := T7.setTop (mkF m 63 #[jv xx, .second, iv fx, jv nn, .second, jv (f_start nn), .second, .unset, .unset, .unset, .unset] [(.long (nn - (1 : Int64)))])) (fun t k => XS.lsub X7.here hx rfl (hb hby at_62) rfl k) ?_
      obtain ⟨_, _, ⟨T9, L9, k9, n9⟩, -, X9, ⟨Lc9, hQ9, l9, y9, z9⟩, st9⟩ := Jvm.LawKit.callS X7 hx (y := (⟨"com/example/pledge/pledge/log/Table", "chunkStart", "(J)J"⟩ : MethodName)) hown (mvT hZ (tw2 hw)) (mvT hZ (tw3 hw)) (mvT hZ (tw4 hw)) (mvT hZ (tw5 hw)) (by decide) (backOf (W := 0) (rm1 l Z a0 hw [] (nn - (1 : Int64))  h0 n0 Z0 ) hZ (tw5 hw) (tw4 hw) (by decide) (by decide)) (g := (mkF m 63 #[jv xx, .second, iv fx, jv nn, .second, jv (f_start nn), .second, .unset, .unset, .unset, .unset] [(.long (nn - (1 : Int64)))])) rfl (by rw [hml]; rfl) (argsL := [(.long (nn - (1 : Int64)))]) (rest := []) (lenOf pd_2 rfl) rfl (by show 2 * 0 + _ ≤ _; exact Nat.le_of_eq rfl) (hb hby at_63) (fun _ _ => ⟨rfl, (hE7), (by decide : 0 + 0 ≤ _), (by decide : 0 + 0 ≤ _)⟩)
      dsimp only [Pt.U, Pt.locs, Pt.cells, Pt.slots] at X9 l9 y9 z9 st9 hQ9
      subst l9 y9 z9
      obtain ⟨rfl, N9q, hE9⟩ := hQ9
      have N9 := Fr.app N7 N9q
      refine Wk.go (A' := T9.setTop (mkF m 66 #[jv xx, .second, iv fx, jv nn, .second, jv (f_start nn), .second, .unset, .unset, .unset, .unset] [(.long (f_start (nn - (1 : Int64))))])) (fun t k => st9 t k) ?_
      refine Wk.go (A' := T9.setTop (mkF m 68 #[jv xx, .second, iv fx, jv nn, .second, jv (f_start nn), .second, jv (f_start (nn - (1 : Int64))), .second, .unset, .unset] [])) (fun t k => XS.lstore X9.here hx rfl (hb hby at_66) rfl (l' := #[jv xx, .second, iv fx, jv nn, .second, jv (f_start nn), .second, jv (f_start (nn - (1 : Int64))), .second, .unset, .unset]) rfl k) ?_
      refine Wk.go (A' := T9.setTop (mkF m 70 #[jv xx, .second, iv fx, jv nn, .second, jv (f_start nn), .second, jv (f_start (nn - (1 : Int64))), .second, .unset, .unset] [(.long (f_start nn))])) (fun t k => XS.lload X9.here hx rfl (hb hby at_68) rfl k) ?_
      refine Wk.go (A' := T9.setTop (mkF m 72 #[jv xx, .second, iv fx, jv nn, .second, jv (f_start nn), .second, jv (f_start (nn - (1 : Int64))), .second, .unset, .unset] [(.long (f_start (nn - (1 : Int64)))), (.long (f_start nn))])) (fun t k => XS.lload X9.here hx rfl (hb hby at_70) rfl k) ?_
      refine Wk.go (A' := T9.setTop (mkF m 73 #[jv xx, .second, iv fx, jv nn, .second, jv (f_start nn), .second, jv (f_start (nn - (1 : Int64))), .second, .unset, .unset] [(.long nn), (.long (f_start (nn - (1 : Int64)))), (.long (f_start nn))])) (fun t k => XS.lloadN X9.here hx rfl (hb hby at_72) rfl k) ?_
      refine Wk.go (A' := T9.setTop (mkF m 74 #[jv xx, .second, iv fx, jv nn, .second, jv (f_start nn), .second, jv (f_start (nn - (1 : Int64))), .second, .unset, .unset] [(.long (1 : Int64)), (.long nn), (.long (f_start (nn - (1 : Int64)))), (.long (f_start nn))])) (fun t k => XS.lconst X9.here hx rfl (hb hby at_73) k) ?_
      refine Wk.go (A' := T9.setTop (mkF m 75 #[jv xx, .second, iv fx, jv nn, .second, jv (f_start nn), .second, jv (f_start (nn - (1 : Int64))), .second, .unset, .unset] [(.long (nn - (1 : Int64))), (.long (f_start (nn - (1 : Int64)))), (.long (f_start nn))])) (fun t k => XS.lsub X9.here hx rfl (hb hby at_74) rfl k) ?_
      refine Wk.go (A' := T9.setTop (mkF m 77 #[jv xx, .second, iv fx, jv nn, .second, jv (f_start nn), .second, jv (f_start (nn - (1 : Int64))), .second, .unset, .unset] [(.long (f_start (nn - (1 : Int64)))), (.long (nn - (1 : Int64))), (.long (f_start (nn - (1 : Int64)))), (.long (f_start nn))])) (fun t k => XS.lload X9.here hx rfl (hb hby at_75) rfl k) ?_
      obtain ⟨_, _, ⟨T10, L10, k10, n10⟩, -, X10, ⟨Lc10, hQ10, l10, y10, z10⟩, st10⟩ := Jvm.LawKit.callS X9 hx (y := (⟨"com/example/pledge/pledge/log/TableChunkStartPinLaw", "sizeOf", "(JJ)J"⟩ : MethodName)) hown (mvT hZ (tw8 hw)) (mvT hZ (tw9 hw)) (mvT hZ (tw10 hw)) (mvT hZ (tw11 hw)) (by decide) (backOf (W := 4) (rm2 l Z a0 hw [] (nn - (1 : Int64)) (f_start (nn - (1 : Int64)))  h0 n0 Z0 ) hZ (tw11 hw) (tw10 hw) (by decide) (by decide)) (g := (mkF m 77 #[jv xx, .second, iv fx, jv nn, .second, jv (f_start nn), .second, jv (f_start (nn - (1 : Int64))), .second, .unset, .unset] [(.long (f_start (nn - (1 : Int64)))), (.long (nn - (1 : Int64))), (.long (f_start (nn - (1 : Int64)))), (.long (f_start nn))])) rfl (by rw [hml]; rfl) (argsL := [(.long (nn - (1 : Int64))), (.long (f_start (nn - (1 : Int64))))]) (rest := [(.long (f_start (nn - (1 : Int64)))), (.long (f_start nn))]) (lenOf pd_3 rfl) rfl (by show 2 * 0 + _ ≤ _; exact Nat.le_of_eq rfl) (hb hby at_77) (fun _ _ => ⟨rfl, (hE9), (by decide : 0 + 0 ≤ _), (by decide : 0 + 0 ≤ _)⟩)
      dsimp only [Pt.U, Pt.locs, Pt.cells, Pt.slots] at X10 l10 y10 z10 st10 hQ10
      subst l10 y10 z10
      obtain ⟨rfl, N10q, hE10⟩ := hQ10
      have N10 := Fr.app N9 N10q
      refine Wk.go (A' := T10.setTop (mkF m 80 #[jv xx, .second, iv fx, jv nn, .second, jv (f_start nn), .second, jv (f_start (nn - (1 : Int64))), .second, .unset, .unset] [(.long (f_size (nn - (1 : Int64)) (f_start (nn - (1 : Int64))))), (.long (f_start (nn - (1 : Int64)))), (.long (f_start nn))])) (fun t k => st10 t k) ?_
      refine Wk.go (A' := T10.setTop (mkF m 81 #[jv xx, .second, iv fx, jv nn, .second, jv (f_start nn), .second, jv (f_start (nn - (1 : Int64))), .second, .unset, .unset] [(.long ((f_start (nn - (1 : Int64))) + (f_size (nn - (1 : Int64)) (f_start (nn - (1 : Int64)))))), (.long (f_start nn))])) (fun t k => XS.ladd X10.here hx rfl (hb hby at_80) rfl k) ?_
      refine Wk.go (A' := T10.setTop (mkF m 82 #[jv xx, .second, iv fx, jv nn, .second, jv (f_start nn), .second, jv (f_start (nn - (1 : Int64))), .second, .unset, .unset] [(.int (lcmpW (f_start nn) ((f_start (nn - (1 : Int64))) + (f_size (nn - (1 : Int64)) (f_start (nn - (1 : Int64)))))))])) (fun t k => XS.lcmp X10.here hx rfl (hb hby at_81) rfl k) ?_
      have hc82 : (f_start nn) = ((f_start (nn - (1 : Int64))) + (f_size (nn - (1 : Int64)) (f_start (nn - (1 : Int64))))) := A1
      refine Wk.go (A' := T10.setTop (mkF m 85 #[jv xx, .second, iv fx, jv nn, .second, jv (f_start nn), .second, jv (f_start (nn - (1 : Int64))), .second, .unset, .unset] [])) (fun t k => XS.ifNo X10.here hx rfl (hb hby at_82) rfl ((if0 _ _).trans (teq ((lw_eq _ _).mpr hc82)).2) k) ?_
      refine Wk.go (A' := T10.setTop (mkF m 86 #[jv xx, .second, iv fx, jv nn, .second, jv (f_start nn), .second, jv (f_start (nn - (1 : Int64))), .second, .unset, .unset] [(.int (1 : Int32))])) (fun t k => XS.iconst X10.here hx rfl (hb hby at_85) k) ?_
      refine Wk.go (A' := T10.setTop (mkF m 90 #[jv xx, .second, iv fx, jv nn, .second, jv (f_start nn), .second, jv (f_start (nn - (1 : Int64))), .second, .unset, .unset] [(.int (1 : Int32))])) (fun t k => XS.goto X10.here hx rfl (pc0 := 86) (pc' := 90) rfl (hb hby at_86) (by decide) (by decide) k) ?_
      refine Wk.go (A' := T10.setTop (mkF m 92 #[jv xx, .second, iv fx, jv nn, .second, jv (f_start nn), .second, jv (f_start (nn - (1 : Int64))), .second, iv (1 : Int32), .unset] [])) (fun t k => XS.istore X10.here hx rfl (hb hby at_90) rfl (l' := #[jv xx, .second, iv fx, jv nn, .second, jv (f_start nn), .second, jv (f_start (nn - (1 : Int64))), .second, iv (1 : Int32), .unset]) rfl k) ?_
      refine Wk.go (A' := T10.setTop (mkF m 94 #[jv xx, .second, iv fx, jv nn, .second, jv (f_start nn), .second, jv (f_start (nn - (1 : Int64))), .second, iv (1 : Int32), .unset] [(.long (f_start nn))])) (fun t k => XS.lload X10.here hx rfl (hb hby at_92) rfl k) ?_
      obtain ⟨_, _, ⟨T11, L11, k11, n11⟩, -, X11, ⟨Lc11, hQ11, l11, y11, z11⟩, st11⟩ := Jvm.LawKit.callS X10 hx (y := (⟨"com/example/pledge/pledge/log/Table", "chunkOf", "(J)J"⟩ : MethodName)) hown (mvT hZ (tw13 hw)) (mvT hZ (tw14 hw)) (mvT hZ (tw4 hw)) (mvT hZ (tw15 hw)) (by decide) (backOf (W := 0) (rm3 l Z a0 hw [] (f_start nn)  h0 n0 Z0 ) hZ (tw15 hw) (tw4 hw) (by decide) (by decide)) (g := (mkF m 94 #[jv xx, .second, iv fx, jv nn, .second, jv (f_start nn), .second, jv (f_start (nn - (1 : Int64))), .second, iv (1 : Int32), .unset] [(.long (f_start nn))])) rfl (by rw [hml]; rfl) (argsL := [(.long (f_start nn))]) (rest := []) (lenOf pd_2 rfl) rfl (by show 2 * 0 + _ ≤ _; exact Nat.le_of_eq rfl) (hb hby at_94) (fun _ _ => ⟨rfl, (hE10), (by decide : 0 + 0 ≤ _), (by decide : 0 + 0 ≤ _)⟩)
      dsimp only [Pt.U, Pt.locs, Pt.cells, Pt.slots] at X11 l11 y11 z11 st11 hQ11
      subst l11 y11 z11
      obtain ⟨rfl, N11q, hE11⟩ := hQ11
      have N11 := Fr.app N10 N11q
      refine Wk.go (A' := T11.setTop (mkF m 97 #[jv xx, .second, iv fx, jv nn, .second, jv (f_start nn), .second, jv (f_start (nn - (1 : Int64))), .second, iv (1 : Int32), .unset] [(.long (f_of (f_start nn)))])) (fun t k => st11 t k) ?_
      refine Wk.go (A' := T11.setTop (mkF m 98 #[jv xx, .second, iv fx, jv nn, .second, jv (f_start nn), .second, jv (f_start (nn - (1 : Int64))), .second, iv (1 : Int32), .unset] [(.long nn), (.long (f_of (f_start nn)))])) (fun t k => XS.lloadN X11.here hx rfl (hb hby at_97) rfl k) ?_
      refine Wk.go (A' := T11.setTop (mkF m 99 #[jv xx, .second, iv fx, jv nn, .second, jv (f_start nn), .second, jv (f_start (nn - (1 : Int64))), .second, iv (1 : Int32), .unset] [(.int (lcmpW (f_of (f_start nn)) nn))])) (fun t k => XS.lcmp X11.here hx rfl (hb hby at_98) rfl k) ?_
      have hc99 : (f_of (f_start nn)) = nn := A2
      refine Wk.go (A' := T11.setTop (mkF m 102 #[jv xx, .second, iv fx, jv nn, .second, jv (f_start nn), .second, jv (f_start (nn - (1 : Int64))), .second, iv (1 : Int32), .unset] [])) (fun t k => XS.ifNo X11.here hx rfl (hb hby at_99) rfl ((if0 _ _).trans (teq ((lw_eq _ _).mpr hc99)).2) k) ?_
      refine Wk.go (A' := T11.setTop (mkF m 104 #[jv xx, .second, iv fx, jv nn, .second, jv (f_start nn), .second, jv (f_start (nn - (1 : Int64))), .second, iv (1 : Int32), .unset] [(.long (f_start nn))])) (fun t k => XS.lload X11.here hx rfl (hb hby at_102) rfl k) ?_
      refine Wk.go (A' := T11.setTop (mkF m 105 #[jv xx, .second, iv fx, jv nn, .second, jv (f_start nn), .second, jv (f_start (nn - (1 : Int64))), .second, iv (1 : Int32), .unset] [(.long (1 : Int64)), (.long (f_start nn))])) (fun t k => XS.lconst X11.here hx rfl (hb hby at_104) k) ?_
      refine Wk.go (A' := T11.setTop (mkF m 106 #[jv xx, .second, iv fx, jv nn, .second, jv (f_start nn), .second, jv (f_start (nn - (1 : Int64))), .second, iv (1 : Int32), .unset] [(.long ((f_start nn) - (1 : Int64)))])) (fun t k => XS.lsub X11.here hx rfl (hb hby at_105) rfl k) ?_
      obtain ⟨_, _, ⟨T12, L12, k12, n12⟩, -, X12, ⟨Lc12, hQ12, l12, y12, z12⟩, st12⟩ := Jvm.LawKit.callS X11 hx (y := (⟨"com/example/pledge/pledge/log/Table", "chunkOf", "(J)J"⟩ : MethodName)) hown (mvT hZ (tw13 hw)) (mvT hZ (tw14 hw)) (mvT hZ (tw4 hw)) (mvT hZ (tw15 hw)) (by decide) (backOf (W := 0) (rm3 l Z a0 hw [] ((f_start nn) - (1 : Int64))  h0 n0 Z0 ) hZ (tw15 hw) (tw4 hw) (by decide) (by decide)) (g := (mkF m 106 #[jv xx, .second, iv fx, jv nn, .second, jv (f_start nn), .second, jv (f_start (nn - (1 : Int64))), .second, iv (1 : Int32), .unset] [(.long ((f_start nn) - (1 : Int64)))])) rfl (by rw [hml]; rfl) (argsL := [(.long ((f_start nn) - (1 : Int64)))]) (rest := []) (lenOf pd_2 rfl) rfl (by show 2 * 0 + _ ≤ _; exact Nat.le_of_eq rfl) (hb hby at_106) (fun _ _ => ⟨rfl, (hE11), (by decide : 0 + 0 ≤ _), (by decide : 0 + 0 ≤ _)⟩)
      dsimp only [Pt.U, Pt.locs, Pt.cells, Pt.slots] at X12 l12 y12 z12 st12 hQ12
      subst l12 y12 z12
      obtain ⟨rfl, N12q, hE12⟩ := hQ12
      have N12 := Fr.app N11 N12q
      refine Wk.go (A' := T12.setTop (mkF m 109 #[jv xx, .second, iv fx, jv nn, .second, jv (f_start nn), .second, jv (f_start (nn - (1 : Int64))), .second, iv (1 : Int32), .unset] [(.long (f_of ((f_start nn) - (1 : Int64))))])) (fun t k => st12 t k) ?_
      refine Wk.go (A' := T12.setTop (mkF m 110 #[jv xx, .second, iv fx, jv nn, .second, jv (f_start nn), .second, jv (f_start (nn - (1 : Int64))), .second, iv (1 : Int32), .unset] [(.long nn), (.long (f_of ((f_start nn) - (1 : Int64))))])) (fun t k => XS.lloadN X12.here hx rfl (hb hby at_109) rfl k) ?_
      refine Wk.go (A' := T12.setTop (mkF m 111 #[jv xx, .second, iv fx, jv nn, .second, jv (f_start nn), .second, jv (f_start (nn - (1 : Int64))), .second, iv (1 : Int32), .unset] [(.long (1 : Int64)), (.long nn), (.long (f_of ((f_start nn) - (1 : Int64))))])) (fun t k => XS.lconst X12.here hx rfl (hb hby at_110) k) ?_
      refine Wk.go (A' := T12.setTop (mkF m 112 #[jv xx, .second, iv fx, jv nn, .second, jv (f_start nn), .second, jv (f_start (nn - (1 : Int64))), .second, iv (1 : Int32), .unset] [(.long (nn - (1 : Int64))), (.long (f_of ((f_start nn) - (1 : Int64))))])) (fun t k => XS.lsub X12.here hx rfl (hb hby at_111) rfl k) ?_
      refine Wk.go (A' := T12.setTop (mkF m 113 #[jv xx, .second, iv fx, jv nn, .second, jv (f_start nn), .second, jv (f_start (nn - (1 : Int64))), .second, iv (1 : Int32), .unset] [(.int (lcmpW (f_of ((f_start nn) - (1 : Int64))) (nn - (1 : Int64))))])) (fun t k => XS.lcmp X12.here hx rfl (hb hby at_112) rfl k) ?_
      have hc113 : (f_of ((f_start nn) - (1 : Int64))) = (nn - (1 : Int64)) := A3
      refine Wk.go (A' := T12.setTop (mkF m 116 #[jv xx, .second, iv fx, jv nn, .second, jv (f_start nn), .second, jv (f_start (nn - (1 : Int64))), .second, iv (1 : Int32), .unset] [])) (fun t k => XS.ifNo X12.here hx rfl (hb hby at_113) rfl ((if0 _ _).trans (teq ((lw_eq _ _).mpr hc113)).2) k) ?_
      refine Wk.go (A' := T12.setTop (mkF m 117 #[jv xx, .second, iv fx, jv nn, .second, jv (f_start nn), .second, jv (f_start (nn - (1 : Int64))), .second, iv (1 : Int32), .unset] [(.int (1 : Int32))])) (fun t k => XS.iconst X12.here hx rfl (hb hby at_116) k) ?_
      refine Wk.go (A' := T12.setTop (mkF m 121 #[jv xx, .second, iv fx, jv nn, .second, jv (f_start nn), .second, jv (f_start (nn - (1 : Int64))), .second, iv (1 : Int32), .unset] [(.int (1 : Int32))])) (fun t k => XS.goto X12.here hx rfl (pc0 := 117) (pc' := 121) rfl (hb hby at_117) (by decide) (by decide) k) ?_
      refine Wk.go (A' := T12.setTop (mkF m 123 #[jv xx, .second, iv fx, jv nn, .second, jv (f_start nn), .second, jv (f_start (nn - (1 : Int64))), .second, iv (1 : Int32), iv (1 : Int32)] [])) (fun t k => XS.istore X12.here hx rfl (hb hby at_121) rfl (l' := #[jv xx, .second, iv fx, jv nn, .second, jv (f_start nn), .second, jv (f_start (nn - (1 : Int64))), .second, iv (1 : Int32), iv (1 : Int32)]) rfl k) ?_
      refine Wk.go (A' := T12.setTop (mkF m 125 #[jv xx, .second, iv fx, jv nn, .second, jv (f_start nn), .second, jv (f_start (nn - (1 : Int64))), .second, iv (1 : Int32), iv (1 : Int32)] [(.int (1 : Int32))])) (fun t k => XS.iload X12.here hx rfl (hb hby at_123) rfl k) ?_
      have hc125 : ¬ ((1 : Int32) = (0 : Int32)) := by decide
      refine Wk.go (A' := T12.setTop (mkF m 128 #[jv xx, .second, iv fx, jv nn, .second, jv (f_start nn), .second, jv (f_start (nn - (1 : Int64))), .second, iv (1 : Int32), iv (1 : Int32)] [])) (fun t k => XS.ifNo X12.here hx rfl (hb hby at_125) rfl ((if0 _ _).trans (feq hc125).1) k) ?_
      refine Wk.go (A' := T12.setTop (mkF m 130 #[jv xx, .second, iv fx, jv nn, .second, jv (f_start nn), .second, jv (f_start (nn - (1 : Int64))), .second, iv (1 : Int32), iv (1 : Int32)] [(.int (1 : Int32))])) (fun t k => XS.iload X12.here hx rfl (hb hby at_128) rfl k) ?_
      have hc130 : ¬ ((1 : Int32) = (0 : Int32)) := by decide
      refine Wk.go (A' := T12.setTop (mkF m 133 #[jv xx, .second, iv fx, jv nn, .second, jv (f_start nn), .second, jv (f_start (nn - (1 : Int64))), .second, iv (1 : Int32), iv (1 : Int32)] [])) (fun t k => XS.ifNo X12.here hx rfl (hb hby at_130) rfl ((if0 _ _).trans (feq hc130).1) k) ?_
      refine Wk.go (A' := T12.setTop (mkF m 134 #[jv xx, .second, iv fx, jv nn, .second, jv (f_start nn), .second, jv (f_start (nn - (1 : Int64))), .second, iv (1 : Int32), iv (1 : Int32)] [(.int (1 : Int32))])) (fun t k => XS.iconst X12.here hx rfl (hb hby at_133) k) ?_
      refine Wk.go (A' := T12.setTop (mkF m 138 #[jv xx, .second, iv fx, jv nn, .second, jv (f_start nn), .second, jv (f_start (nn - (1 : Int64))), .second, iv (1 : Int32), iv (1 : Int32)] [(.int (1 : Int32))])) (fun t k => XS.goto X12.here hx rfl (pc0 := 134) (pc' := 138) rfl (hb hby at_134) (by decide) (by decide) k) ?_
      refine own_fin (Qv := Q0 Z xx fx h0 n0) (v := some (.int (1 : Int32))) X12 hlk (fun h => by rw [Bd.returns] at h; cases h) (fun fs hr => retN X12 hx (t := .boolean) Bd.returns (by simp) (hb hby at_138) hr) ?_ (by decide) (by decide)
      exact ⟨rfl, N12⟩
set_option maxRecDepth 65536 in
set_option maxHeartbeats 40000000 in
theorem comes_1 {Post : Tables → Env → Array Value → State → Outcome → State → Prop} (hpost : ∀ tb e args s v u, (limb_1_1.after args s (.returned v) u = true ∧ limb_1_2.after args s (.returned v) u = true ∧ True) → FrameEnd s (.returned v) u (Jvm.fieldLocs frame_1_writes args s ++ Jvm.arrayLocs frame_1_arrays args s ++ Jvm.staticLocs frame_1_statics s) 0 0 → Post tb e args s (.returned v) u) :
    ArmFor flags0 classFile x code maxLocals ret World_1 tables_1 room_1 Calls_1 rest_1 Pre_1 Post := by
  intro l hfl _ _ p e ha hc hk s m args below hf hA hF happ hP
  obtain ⟨hcalls, hrest, hpre⟩ := hP
  obtain ⟨-, -, -, hnamed, -, -, -, hat⟩ := (Spec.applies_iff hf).mp happ
  obtain ⟨hg, hn⟩ := and_e (Cond.before_iff.mp (show (Jvm.Cond.and given_1 narrow_1).before args s = true from hpre))
  obtain ⟨hcnt, g0⟩ := and_e hg
  obtain ⟨ga0, g1⟩ := and_e g0
  obtain ⟨w0, w1, rfl⟩ : ∃ w0 w1 : Value, args = #[w0, w1] := by
    have hs : args.size = 2 := by simpa [Cond.value, given_1] using hcnt
    obtain ⟨L⟩ := args
    match L, hs with
    | [w0, w1], _ => exact ⟨w0, w1, rfl⟩
  have hw := fun d (hd : d ∈ tables_1) => atoms_spec (ws := Jvm.Cond.code x code maxLocals ret :: tables_1) hat d (List.mem_cons_of_mem _ hd)
  obtain ⟨i0, ei0⟩ := isL_v ga0
  obtain rfl : w0 = (.long i0) := Option.some.inj ei0
  obtain ⟨i1, ei1⟩ := is_v g1
  obtain rfl : w1 = (.int i1) := Option.some.inj ei1
  obtain ⟨n, o, h1, h2, h3, _, L, rfl, ⟨rfl, N⟩, hq⟩ := rm0 l s _ hw tables_1 i0 i1  s.heap s.heap.size (Nat.le_refl _)  p e ha hc hk s m _ below hf ((Spec.applies_iff_loose hf).mp happ).1 ⟨rfl, State.Warmed39.refl s, rfl⟩ trivial
  refine ⟨n, _, h1, h2, h3, hpost _ _ _ _ _ _ ⟨Cond.after_iff.mpr rfl, Cond.after_iff.mpr (eq_i res_at (Term.int_eval (1)) rfl), trivial⟩ ⟨hq.1, hq.2.1, (hq.2.2.sift fun y hy => Or.inr (N y hy)).mono (by decide) (by decide)⟩⟩
theorem main_1_1 : Claimed_1_1 := comes_1 fun _ _ _ _ _ _ h hF => ⟨h.1, hF⟩
theorem main_1_2 : Claimed_1_2 := comes_1 fun _ _ _ _ _ _ h hF => ⟨h.2.1, hF⟩
end Jvm.Pilot.@@N@@
namespace Jvm.Pilot.@@N@@
open Jvm Jvm.ClassFile Sem Op Lib Jvm.Free Jvm.Stand Jvm.Pilot.@@N@@.Jvm.D
/-! MADE BY PROGRAM (witnessworld.py) out of the Statement's table words and the real class files: 15 classes; the members and pool entries that the words name. The judged class is class 1, her method 2. -/
namespace start1
open Jvm.ClassFile
def u (s : String) : CpInfo := .utf8 (stringToUtf16 s)
/-- a pool by its gaps: so many unusable entries, then the entry; so many at the end -/
def gap : Nat → List CpInfo → List CpInfo
  | 0, r => r
  | n + 1, r => .unusable :: gap n r
def poolList (es : List (Nat × CpInfo)) (last : Nat) : List CpInfo := es.foldr (fun e r => gap e.1 (e.2 :: r)) (gap last [])
def pool (es : List (Nat × CpInfo)) (last : Nat) : Array CpInfo := ⟨poolList es last⟩
def fileOf (pool : Array CpInfo) (this : Nat) (attrs : Array Attribute := #[]) (ms : Array MethodInfo := #[]) (fl : Nat := 33) (sup : Nat := 0) (ifs : Array Nat := #[]) (fds : Array FieldInfo := #[]) : ClassFile where
  minorVersion := 0
  majorVersion := 65
  constantPool := pool
  accessFlags := fl
  thisClass := this
  superClass := sup
  interfaces := ifs
  fields := fds
  methods := ms
  attributes := attrs
def plain (name : String) (sup : Option ClassId) : Class where
  name := name
  kind := .ordinary
  loader := none
  accessFlags := 33
  super := sup
  interfaces := #[]
  cf := none
  fields := #[]
  methods := #[]
  instanceTypes := #[]
  staticTypes := #[]
  resolved := #[]
  callSites := []
  init := .initialized
  statics := none
  mirror := none

def pool0 : Array CpInfo := pool [(5, u "<init>"), (0, u "()V"), (1, .class_ 10), (1, u "java/lang/Object")] 113

def k0m0 : Method := { name := "<init>", desc := "()V", sig := { parameters := [], returnType := none }, accessFlags := 1, code := none }
/-- java/lang/Object -/
def k0 : Class := { plain "java/lang/Object" none with
  accessFlags := 33
  interfaces := #[]
  cf := some (fileOf pool0 8 #[] #[{ accessFlags := 1, nameIndex := 5, descriptorIndex := 6, attributes := #[] }] 33 0 #[] #[])
  fields := #[]
  methods := #[k0m0]
  instanceTypes := #[]
  staticTypes := #[]
  resolved := Array.replicate 124 none
  statics := none }

def pool1 : Array CpInfo := pool [(2, .class_ 4), (1, u "java/lang/Object"), (0, u "<init>"), (0, u "()V"), (0, .long 512), (1, .long 12), (1, .long 1048576), (1, .long 31), (3, .long 9223372036854775807), (1, .class_ 20), (0, u "com/example/pledge/pledge/log/TableChunkStartPinLaw"), (0, .long 8796093022219), (1, .methodref 24 25), (0, .class_ 26), (0, .nameAndType 27 28), (0, u "com/example/pledge/pledge/log/Table"), (0, u "chunkStart"), (0, u "(J)J"), (0, .methodref 24 30), (0, .nameAndType 31 28), (0, u "chunkOf"), (0, .methodref 19 33), (0, .nameAndType 34 35), (0, u "sizeOf"), (0, u "(JJ)J"), (0, u "LAST_CHUNK"), (0, u "J"), (6, u "law"), (0, u "(JI)Z")] 2

def k1m0 : Method := { name := "<init>", desc := "()V", sig := { parameters := [], returnType := none }, accessFlags := 1, code := none }
def k1c1 : Code := { maxStack := 4, maxLocals := 4, code := method_2_code, exceptionTable := #[], attributes := #[] }
def k1m1 : Method := { name := "sizeOf", desc := "(JJ)J", sig := { parameters := [.long, .long], returnType := some .long }, accessFlags := 10, code := some k1c1 }
def k1c2 : Code := { maxStack := 8, maxLocals := 11, code := code, exceptionTable := #[], attributes := #[] }
def k1m2 : Method := { name := "law", desc := "(JI)Z", sig := { parameters := [.long, .int], returnType := some .boolean }, accessFlags := 9, code := some k1c2 }
/-- com/example/pledge/pledge/log/TableChunkStartPinLaw -/
def k1 : Class := { plain "com/example/pledge/pledge/log/TableChunkStartPinLaw" (some 0) with
  accessFlags := 49
  interfaces := #[]
  cf := some (fileOf pool1 19 #[] #[{ accessFlags := 1, nameIndex := 5, descriptorIndex := 6, attributes := #[] }, { accessFlags := 10, nameIndex := 34, descriptorIndex := 35, attributes := #[] }, { accessFlags := 9, nameIndex := 44, descriptorIndex := 45, attributes := #[] }] 49 2 #[] #[{ accessFlags := 26, nameIndex := 36, descriptorIndex := 37, attributes := #[] }])
  fields := #[{ name := "LAST_CHUNK", type := .long, accessFlags := 26, slot := 0, constantValue := 0 }]
  methods := #[k1m0, k1m1, k1m2]
  instanceTypes := #[]
  staticTypes := #[.long]
  resolved := Array.replicate 48 none
  statics := none }

def pool2 : Array CpInfo := pool [(1, .class_ 2), (0, u "com/example/pledge/pledge/log/Table"), (1, .class_ 6), (1, u "java/lang/Object"), (2, .class_ 10), (0, u "com/example/pledge/pledge/log/Table$Chunk"), (2, u "chunks"), (0, u "[Lcom/example/pledge/pledge/log/Table$Chunk;"), (2, u "tables"), (0, u "Lcom/example/pledge/pledge/log/Tables;"), (2, u "name"), (0, u "Ljava/lang/String;"), (2, u "width"), (0, u "I"), (56, .class_ 84), (0, u "java/lang/Long"), (11, u "(J)I"), (19, u "chunkOf"), (0, u "(J)J"), (2, u "firstChunk"), (0, u "J"), (71, u "chunkStart"), (39, .long 512), (1, .long 1048576), (1, .methodref 83 238), (0, .nameAndType 239 96), (0, u "numberOfLeadingZeros"), (0, .long 11), (1, .long 12), (1, .long 8), (1, u "FIRST_SHIFT"), (2, u "FULL_SHIFT"), (1, u "FIRST_FULL_CHUNK")] 44

def k2c0 : Code := { maxStack := 5, maxLocals := 4, code := prog_115_method_18_code, exceptionTable := #[], attributes := #[] }
def k2m0 : Method := { name := "chunkOf", desc := "(J)J", sig := { parameters := [.long], returnType := some .long }, accessFlags := 8, code := some k2c0 }
def k2c1 : Code := { maxStack := 6, maxLocals := 4, code := prog_115_method_19_code, exceptionTable := #[], attributes := #[] }
def k2m1 : Method := { name := "chunkStart", desc := "(J)J", sig := { parameters := [.long], returnType := some .long }, accessFlags := 8, code := some k2c1 }
/-- com/example/pledge/pledge/log/Table -/
def k2 : Class := { plain "com/example/pledge/pledge/log/Table" (some 0) with
  accessFlags := 49
  interfaces := #[]
  cf := some (fileOf pool2 1 #[.nestMembers #[9]] #[{ accessFlags := 8, nameIndex := 116, descriptorIndex := 117, attributes := #[] }, { accessFlags := 8, nameIndex := 193, descriptorIndex := 117, attributes := #[] }] 49 4 #[] #[{ accessFlags := 26, nameIndex := 246, descriptorIndex := 26, attributes := #[] }, { accessFlags := 26, nameIndex := 249, descriptorIndex := 26, attributes := #[] }, { accessFlags := 26, nameIndex := 251, descriptorIndex := 121, attributes := #[] }, { accessFlags := 18, nameIndex := 17, descriptorIndex := 18, attributes := #[] }, { accessFlags := 18, nameIndex := 21, descriptorIndex := 22, attributes := #[] }, { accessFlags := 18, nameIndex := 25, descriptorIndex := 26, attributes := #[] }, { accessFlags := 66, nameIndex := 13, descriptorIndex := 14, attributes := #[] }, { accessFlags := 2, nameIndex := 120, descriptorIndex := 121, attributes := #[] }])
  fields := #[{ name := "FIRST_SHIFT", type := .int, accessFlags := 26, slot := 0, constantValue := 0 }, { name := "FULL_SHIFT", type := .int, accessFlags := 26, slot := 1, constantValue := 0 }, { name := "FIRST_FULL_CHUNK", type := .long, accessFlags := 26, slot := 2, constantValue := 0 }, { name := "tables", type := (.object "com/example/pledge/pledge/log/Tables"), accessFlags := 18, slot := 0, constantValue := 0 }, { name := "name", type := (.object "java/lang/String"), accessFlags := 18, slot := 1, constantValue := 0 }, { name := "width", type := .int, accessFlags := 18, slot := 2, constantValue := 0 }, { name := "chunks", type := (.array (.object "com/example/pledge/pledge/log/Table$Chunk")), accessFlags := 66, slot := 3, constantValue := 0 }, { name := "firstChunk", type := .long, accessFlags := 2, slot := 4, constantValue := 0 }]
  methods := #[k2m0, k2m1]
  instanceTypes := #[(.object "com/example/pledge/pledge/log/Tables"), (.object "java/lang/String"), .int, (.array (.object "com/example/pledge/pledge/log/Table$Chunk")), .long]
  staticTypes := #[.int, .int, .long]
  resolved := Array.replicate 296 none
  statics := none }

def pool3 : Array CpInfo := pool [(1, .class_ 2), (0, u "java/io/Serializable"), (0, .class_ 4), (0, u "java/lang/Object")] 2

/-- java/io/Serializable -/
def k3 : Class := { plain "java/io/Serializable" (some 0) with
  accessFlags := 1537
  interfaces := #[]
  cf := some (fileOf pool3 1 #[] #[] 1537 3 #[] #[])
  fields := #[]
  methods := #[]
  instanceTypes := #[]
  staticTypes := #[]
  resolved := Array.replicate 7 none
  statics := none }

def pool4 : Array CpInfo := pool [(2, .class_ 4), (1, u "java/lang/Object"), (0, u "<init>"), (0, u "()V"), (1, .class_ 10), (1, u "java/lang/Number"), (2, .class_ 14), (0, u "java/io/Serializable"), (0, u "serialVersionUID"), (0, u "J")] 20

def k4m0 : Method := { name := "<init>", desc := "()V", sig := { parameters := [], returnType := none }, accessFlags := 1, code := none }
/-- java/lang/Number -/
def k4 : Class := { plain "java/lang/Number" (some 0) with
  accessFlags := 1057
  interfaces := #[3]
  cf := some (fileOf pool4 8 #[] #[{ accessFlags := 1, nameIndex := 5, descriptorIndex := 6, attributes := #[] }] 1057 2 #[13] #[{ accessFlags := 26, nameIndex := 15, descriptorIndex := 16, attributes := #[] }])
  fields := #[{ name := "serialVersionUID", type := .long, accessFlags := 26, slot := 0, constantValue := 0 }]
  methods := #[k4m0]
  instanceTypes := #[]
  staticTypes := #[.long]
  resolved := Array.replicate 37 none
  statics := none }

def pool5 : Array CpInfo := pool [(1, .class_ 2), (0, u "java/lang/Comparable"), (0, .class_ 4), (0, u "java/lang/Object")] 7

/-- java/lang/Comparable -/
def k5 : Class := { plain "java/lang/Comparable" (some 0) with
  accessFlags := 1537
  interfaces := #[]
  cf := some (fileOf pool5 1 #[] #[] 1537 3 #[] #[])
  fields := #[]
  methods := #[]
  instanceTypes := #[]
  staticTypes := #[]
  resolved := Array.replicate 12 none
  statics := none }

def pool6 : Array CpInfo := pool [(1, .class_ 2), (0, u "java/lang/constant/Constable"), (0, .class_ 4), (0, u "java/lang/Object")] 6

/-- java/lang/constant/Constable -/
def k6 : Class := { plain "java/lang/constant/Constable" (some 0) with
  accessFlags := 1537
  interfaces := #[]
  cf := some (fileOf pool6 1 #[] #[] 1537 3 #[] #[])
  fields := #[]
  methods := #[]
  instanceTypes := #[]
  staticTypes := #[]
  resolved := Array.replicate 11 none
  statics := none }

def pool7 : Array CpInfo := pool [(1, .class_ 2), (0, u "java/lang/constant/ConstantDesc"), (0, .class_ 4), (0, u "java/lang/Object")] 32

/-- java/lang/constant/ConstantDesc -/
def k7 : Class := { plain "java/lang/constant/ConstantDesc" (some 0) with
  accessFlags := 1537
  interfaces := #[]
  cf := some (fileOf pool7 1 #[] #[] 1537 3 #[] #[])
  fields := #[]
  methods := #[]
  instanceTypes := #[]
  staticTypes := #[]
  resolved := Array.replicate 37 none
  statics := none }

def pool8 : Array CpInfo := pool [(1, .class_ 2), (0, u "java/lang/Long"), (15, .class_ 20), (1, u "java/lang/Integer"), (79, u "numberOfLeadingZeros"), (0, u "(J)I"), (133, .class_ 237), (1, u "java/lang/Long$LongCache"), (33, .class_ 272), (0, u "java/lang/Number"), (2, u "value"), (0, u "J"), (31, .methodref 18 309), (0, .nameAndType 100 310), (0, u "(I)I"), (50, u "TYPE"), (0, u "Ljava/lang/Class;"), (0, .class_ 364), (0, u "java/lang/Comparable"), (0, .class_ 366), (0, u "java/lang/constant/Constable"), (0, .class_ 368), (0, u "java/lang/constant/ConstantDesc"), (0, u "MIN_VALUE"), (1, u "MAX_VALUE"), (4, u "SIZE"), (0, u "I"), (1, u "BYTES"), (1, u "serialVersionUID")] 142

def k8c0 : Code := { maxStack := 3, maxLocals := 3, code := jdk_35_method_48_code, exceptionTable := #[], attributes := #[] }
def k8m0 : Method := { name := "numberOfLeadingZeros", desc := "(J)I", sig := { parameters := [.long], returnType := some .int }, accessFlags := 9, code := some k8c0 }
/-- java/lang/Long -/
def k8 : Class := { plain "java/lang/Long" (some 4) with
  accessFlags := 49
  interfaces := #[5, 6, 7]
  cf := some (fileOf pool8 1 #[.nestMembers #[235]] #[{ accessFlags := 9, nameIndex := 100, descriptorIndex := 101, attributes := #[] }] 49 271 #[363, 365, 367] #[{ accessFlags := 25, nameIndex := 369, descriptorIndex := 276, attributes := #[] }, { accessFlags := 25, nameIndex := 371, descriptorIndex := 276, attributes := #[] }, { accessFlags := 25, nameIndex := 361, descriptorIndex := 362, attributes := #[] }, { accessFlags := 18, nameIndex := 275, descriptorIndex := 276, attributes := #[] }, { accessFlags := 25, nameIndex := 376, descriptorIndex := 377, attributes := #[] }, { accessFlags := 25, nameIndex := 379, descriptorIndex := 377, attributes := #[] }, { accessFlags := 26, nameIndex := 381, descriptorIndex := 276, attributes := #[] }])
  fields := #[{ name := "MIN_VALUE", type := .long, accessFlags := 25, slot := 0, constantValue := 0 }, { name := "MAX_VALUE", type := .long, accessFlags := 25, slot := 1, constantValue := 0 }, { name := "TYPE", type := (.object "java/lang/Class"), accessFlags := 25, slot := 2, constantValue := 0 }, { name := "value", type := .long, accessFlags := 18, slot := 0, constantValue := 0 }, { name := "SIZE", type := .int, accessFlags := 25, slot := 3, constantValue := 0 }, { name := "BYTES", type := .int, accessFlags := 25, slot := 4, constantValue := 0 }, { name := "serialVersionUID", type := .long, accessFlags := 26, slot := 5, constantValue := 0 }]
  methods := #[k8m0]
  instanceTypes := #[.long]
  staticTypes := #[.long, .long, (.object "java/lang/Class"), .int, .int, .long]
  resolved := Array.replicate 524 none
  statics := none }

def pool9 : Array CpInfo := pool [(1, .class_ 2), (0, u "java/lang/Integer"), (16, u "digits"), (0, u "[C"), (32, u "numberOfLeadingZeros"), (0, u "(I)I"), (30, u "DigitOnes"), (0, u "[B"), (2, u "DigitTens"), (99, .class_ 190), (0, u "java/lang/Integer$IntegerCache"), (3, u "I"), (8, .class_ 204), (0, u "java/lang/Number"), (2, u "value"), (56, .integer 65536), (37, u "TYPE"), (0, u "Ljava/lang/Class;"), (0, .class_ 305), (0, u "java/lang/Comparable"), (0, .class_ 307), (0, u "java/lang/constant/Constable"), (0, .class_ 309), (0, u "java/lang/constant/ConstantDesc"), (0, u "MIN_VALUE"), (1, u "MAX_VALUE"), (3, u "SIZE"), (1, u "BYTES"), (1, u "serialVersionUID"), (0, u "J")] 131

def k9c0 : Code := { maxStack := 3, maxLocals := 2, code := jdk_33_method_47_code, exceptionTable := #[], attributes := #[] }
def k9m0 : Method := { name := "numberOfLeadingZeros", desc := "(I)I", sig := { parameters := [.int], returnType := some .int }, accessFlags := 9, code := some k9c0 }
/-- java/lang/Integer -/
def k9 : Class := { plain "java/lang/Integer" (some 4) with
  accessFlags := 49
  interfaces := #[5, 6, 7]
  cf := some (fileOf pool9 1 #[.nestMembers #[189]] #[{ accessFlags := 9, nameIndex := 53, descriptorIndex := 54, attributes := #[] }] 49 203 #[304, 306, 308] #[{ accessFlags := 25, nameIndex := 310, descriptorIndex := 194, attributes := #[] }, { accessFlags := 25, nameIndex := 312, descriptorIndex := 194, attributes := #[] }, { accessFlags := 25, nameIndex := 302, descriptorIndex := 303, attributes := #[] }, { accessFlags := 24, nameIndex := 19, descriptorIndex := 20, attributes := #[] }, { accessFlags := 24, nameIndex := 89, descriptorIndex := 86, attributes := #[] }, { accessFlags := 24, nameIndex := 85, descriptorIndex := 86, attributes := #[] }, { accessFlags := 18, nameIndex := 207, descriptorIndex := 194, attributes := #[] }, { accessFlags := 25, nameIndex := 316, descriptorIndex := 194, attributes := #[] }, { accessFlags := 25, nameIndex := 318, descriptorIndex := 194, attributes := #[] }, { accessFlags := 26, nameIndex := 320, descriptorIndex := 321, attributes := #[] }])
  fields := #[{ name := "MIN_VALUE", type := .int, accessFlags := 25, slot := 0, constantValue := 0 }, { name := "MAX_VALUE", type := .int, accessFlags := 25, slot := 1, constantValue := 0 }, { name := "TYPE", type := (.object "java/lang/Class"), accessFlags := 25, slot := 2, constantValue := 0 }, { name := "digits", type := (.array .char), accessFlags := 24, slot := 3, constantValue := 0 }, { name := "DigitTens", type := (.array .byte), accessFlags := 24, slot := 4, constantValue := 0 }, { name := "DigitOnes", type := (.array .byte), accessFlags := 24, slot := 5, constantValue := 0 }, { name := "value", type := .int, accessFlags := 18, slot := 0, constantValue := 0 }, { name := "SIZE", type := .int, accessFlags := 25, slot := 6, constantValue := 0 }, { name := "BYTES", type := .int, accessFlags := 25, slot := 7, constantValue := 0 }, { name := "serialVersionUID", type := .long, accessFlags := 26, slot := 8, constantValue := 0 }]
  methods := #[k9m0]
  instanceTypes := #[.int]
  staticTypes := #[.int, .int, (.object "java/lang/Class"), (.array .char), (.array .byte), (.array .byte), .int, .int, .long]
  resolved := Array.replicate 453 none
  statics := none }

def pool10 : Array CpInfo := pool [(1, u "java/lang/Cloneable"), (0, .class_ 1), (0, u "java/lang/Object"), (0, .class_ 3)] 3

/-- java/lang/Cloneable -/
def k10 : Class := { plain "java/lang/Cloneable" (some 0) with
  accessFlags := 1537
  interfaces := #[]
  cf := some (fileOf pool10 2 #[] #[] 1537 4 #[] #[])
  fields := #[]
  methods := #[]
  instanceTypes := #[]
  staticTypes := #[]
  resolved := Array.replicate 8 none
  statics := none }

/-- the primitive byte -/
def k11 : Class := { plain "byte" none with kind := .primitive 'B', accessFlags := 0x411 }
/-- [B -/
def k12 : Class := { plain "[B" (some 0) with kind := .array 11 .byte, interfaces := #[10, 3], accessFlags := 1041 }

/-- the primitive int -/
def k13 : Class := { plain "int" none with kind := .primitive 'I', accessFlags := 0x411 }
/-- [I -/
def k14 : Class := { plain "[I" (some 0) with kind := .array 13 .int, interfaces := #[10, 3], accessFlags := 1041 }

def heap : Heap := #[]
def classes : Array Class := #[k0, k1, k2, k3, k4, k5, k6, k7, k8, k9, k10, k11, k12, k13, k14]
def interned : List (Array UInt16 × Addr) := []
def slotsUsed : Nat := 0
def theMethod : MethodId := ⟨1, 2⟩
def args0 : Array Value := #[.long 5, .int 7]
def aboutOver (below : List Frame) : State where
  vm := { classes := classes, interned := interned.toArray }
  heap := heap
  slotsUsed := slotsUsed
  threads := #[{ frames := .invoking theMethod args0 :: below }]
def below0 : List Frame := [.native { method := ⟨0, 0⟩, args := #[] }]
def about1 : State := aboutOver below0
def p0 : Program := .bare "" "" ""
def e0 : Env := launch0.env 0 0 0
theorem w_frames : about1.frames = Frame.invoking theMethod args0 :: below0 := rfl
set_option maxRecDepth 65536 in
theorem w_args : argsFit about1.vm theMethod args0 = true := by decide +kernel
set_option maxRecDepth 65536 in
theorem w_heap : heapFits about1 = true := by decide +kernel
set_option maxRecDepth 65536 in
theorem w_runnable : about1.curStatus? = some .runnable := by decide +kernel
set_option maxRecDepth 65536 in
theorem w_alone : about1.alone = true := by decide +kernel
set_option maxRecDepth 65536 in
theorem w_named : about1.methodNamed? x = some theMethod := by decide +kernel
set_option maxRecDepth 65536 in
theorem w_hears : about1.hears theMethod below0 = true := by decide +kernel
set_option maxRecDepth 65536 in
theorem w_ripe : about1.ripe theMethod args0 below0 = true := by decide +kernel
theorem w_running : about1.status = .running := rfl
set_option maxRecDepth 65536 in
theorem w_room : about1.hasRoom e0.platform room_1 = true :=
  launch0.hasRoom_least _ room_1 (by decide +kernel) (by decide +kernel) (by decide +kernel) (by decide +kernel) (by decide +kernel) (by decide +kernel)
theorem allAtoms_all (ts : List Jvm.Cond) (a : Array Jvm.Value) (st : Jvm.State) : (allAtoms ts).before a st = ts.all (fun c => c.before a st) := by
  induction ts with
  | nil => rfl
  | cons c t ih =>
    show (Jvm.Cond.and c (allAtoms t)).before a st = _
    rw [Jvm.Cond.before_and, ih, List.all_cons]
def words1 : List Jvm.Cond := Jvm.Cond.code x code maxLocals ret :: tables_1
/-- a 'code' word, met by the world's own term for the bytes: nothing is compared byte by byte -/
theorem code_word {y : MethodName} {bytes : ByteArray} {mx : Nat} {rt : Option FieldType} {a : Array Value} {s : State} {m : MethodId} {meth : Method} {c : Code} (h1 : s.methodNamed? y = some m) (h2 : s.vm.method? m = some meth) (h3 : meth.code = some c) (h4 : c.code = bytes)
    (h5 : (c.maxLocals == mx && c.exceptionTable.isEmpty && decide (c.maxStack ≤ mostOperands) && decide (meth.sig.returnType = rt) && !meth.locks && decide (parseMethodDescriptor y.desc = some meth.sig)) = true) : (Jvm.Cond.code y bytes mx rt).before a s = true := by
  simp only [Bool.and_eq_true, beq_iff_eq, Bool.not_eq_true', decide_eq_true_eq] at h5
  obtain ⟨⟨⟨⟨⟨g1, g2⟩, g3⟩, g4⟩, g5⟩, g6⟩ := h5
  simp [Cond.before, Cond.holds, Cond.value, h1, h2, h3, h4, g1, g2, g3, g4, g5, g6]
def isCode : Jvm.Cond → Bool
  | .code _ _ _ _ => true
  | _ => false
theorem all_split {L : List Jvm.Cond} {P : Jvm.Cond → Bool} (h1 : L.all (fun c => isCode c || P c) = true) (h2 : ∀ c ∈ L.filter isCode, P c = true) : L.all P = true := by
  refine List.all_eq_true.mpr fun c hc => ?_
  have h := List.all_eq_true.mp h1 c hc
  rcases Bool.eq_false_or_eq_true (isCode c) with hi | hi
  · exact h2 c (List.mem_filter.mpr ⟨hc, hi⟩)
  · simpa [hi] using h
set_option maxRecDepth 65536 in
theorem w_c0 : (Jvm.Cond.code x code maxLocals ret).before args0 about1 = true := code_word (m := ⟨1, 2⟩) (meth := k1m2) (c := k1c2) (by decide +kernel) rfl rfl rfl (by decide +kernel)
set_option maxRecDepth 65536 in
theorem w_c1 : (Jvm.Cond.code ({ cls := "com/example/pledge/pledge/log/Table", name := "chunkStart", desc := "(J)J" } : Jvm.MethodName) prog_115_method_19_code (4 : Nat) (Option.some Jvm.ClassFile.FieldType.long)).before args0 about1 = true := code_word (m := ⟨2, 1⟩) (meth := k2m1) (c := k2c1) (by decide +kernel) rfl rfl rfl (by decide +kernel)
set_option maxRecDepth 65536 in
theorem w_c2 : (Jvm.Cond.code ({ cls := "com/example/pledge/pledge/log/TableChunkStartPinLaw", name := "sizeOf", desc := "(JJ)J" } : Jvm.MethodName) method_2_code (4 : Nat) (Option.some Jvm.ClassFile.FieldType.long)).before args0 about1 = true := code_word (m := ⟨1, 1⟩) (meth := k1m1) (c := k1c1) (by decide +kernel) rfl rfl rfl (by decide +kernel)
set_option maxRecDepth 65536 in
theorem w_c3 : (Jvm.Cond.code ({ cls := "com/example/pledge/pledge/log/Table", name := "chunkOf", desc := "(J)J" } : Jvm.MethodName) prog_115_method_18_code (4 : Nat) (Option.some Jvm.ClassFile.FieldType.long)).before args0 about1 = true := code_word (m := ⟨2, 0⟩) (meth := k2m0) (c := k2c0) (by decide +kernel) rfl rfl rfl (by decide +kernel)
set_option maxRecDepth 65536 in
theorem w_c4 : (Jvm.Cond.code ({ cls := "java/lang/Long", name := "numberOfLeadingZeros", desc := "(J)I" } : Jvm.MethodName) jdk_35_method_48_code (3 : Nat) (Option.some Jvm.ClassFile.FieldType.int)).before args0 about1 = true := code_word (m := ⟨8, 0⟩) (meth := k8m0) (c := k8c0) (by decide +kernel) rfl rfl rfl (by decide +kernel)
set_option maxRecDepth 65536 in
theorem w_c5 : (Jvm.Cond.code ({ cls := "java/lang/Integer", name := "numberOfLeadingZeros", desc := "(I)I" } : Jvm.MethodName) jdk_33_method_47_code (2 : Nat) (Option.some Jvm.ClassFile.FieldType.int)).before args0 about1 = true := code_word (m := ⟨9, 0⟩) (meth := k9m0) (c := k9c0) (by decide +kernel) rfl rfl rfl (by decide +kernel)
def codes1 : List Jvm.Cond := [Jvm.Cond.code x code maxLocals ret, Jvm.Cond.code ({ cls := "com/example/pledge/pledge/log/Table", name := "chunkStart", desc := "(J)J" } : Jvm.MethodName) prog_115_method_19_code (4 : Nat) (Option.some Jvm.ClassFile.FieldType.long), Jvm.Cond.code ({ cls := "com/example/pledge/pledge/log/TableChunkStartPinLaw", name := "sizeOf", desc := "(JJ)J" } : Jvm.MethodName) method_2_code (4 : Nat) (Option.some Jvm.ClassFile.FieldType.long), Jvm.Cond.code ({ cls := "com/example/pledge/pledge/log/Table", name := "chunkOf", desc := "(J)J" } : Jvm.MethodName) prog_115_method_18_code (4 : Nat) (Option.some Jvm.ClassFile.FieldType.long), Jvm.Cond.code ({ cls := "java/lang/Long", name := "numberOfLeadingZeros", desc := "(J)I" } : Jvm.MethodName) jdk_35_method_48_code (3 : Nat) (Option.some Jvm.ClassFile.FieldType.int), Jvm.Cond.code ({ cls := "java/lang/Integer", name := "numberOfLeadingZeros", desc := "(I)I" } : Jvm.MethodName) jdk_33_method_47_code (2 : Nat) (Option.some Jvm.ClassFile.FieldType.int)]
set_option maxRecDepth 65536 in
theorem codes_eq : words1.filter isCode = codes1 := rfl
theorem w_codes : ∀ c ∈ words1.filter isCode, c.before args0 about1 = true := by
  rw [codes_eq]
  intro c hc
  simp only [codes1, List.mem_cons, List.not_mem_nil, or_false] at hc
  rcases hc with rfl | rfl | rfl | rfl | rfl | rfl
  · exact w_c0
  · exact w_c1
  · exact w_c2
  · exact w_c3
  · exact w_c4
  · exact w_c5
set_option maxRecDepth 65536 in
theorem w_t1 : (words1.take 24).all (fun c => isCode c || c.before args0 about1) = true := by decide +kernel
set_option maxRecDepth 65536 in
theorem w_t2 : (words1.drop 24).all (fun c => isCode c || c.before args0 about1) = true := by decide +kernel
theorem w_tables : (allAtoms (Jvm.Cond.code x code maxLocals ret :: tables_1)).before args0 about1 = true := by
  rw [allAtoms_all]
  show words1.all (fun c => c.before args0 about1) = true
  refine all_split ?_ w_codes
  rw [← List.take_append_drop 24 words1, List.all_append, w_t1, w_t2]
  rfl
set_option maxRecDepth 65536 in
theorem w_case : (Jvm.Cond.and given_1 narrow_1).before args0 about1 = true := by decide +kernel
theorem w_applies : (headSpec (Jvm.Cond.code x code maxLocals ret :: tables_1) room_1).applies x e0.platform about1 = true :=
  (Spec.applies_iff w_frames).mpr ⟨w_running, w_runnable, w_alone, w_named, w_hears, w_ripe, w_room, w_tables⟩
theorem atStart : AtStart classFile x code maxLocals ret World_1 tables_1 room_1 Calls_1 rest_1 Pre_1 launch0 p0 e0 about1 theMethod args0 below0 :=
  ⟨lists_1, trivial, launch0.admits_env _ _ _, launch0.least_env, fairChoices_fair.cas, fairChoices_fair.clock, w_frames, w_args, w_heap, w_applies, trivial, trivial, w_case⟩
end start1
theorem witness_1 : WitnessClaimed_1 := ⟨start1.p0, start1.e0, start1.about1, start1.theMethod, start1.args0, start1.below0, start1.atStart⟩
end Jvm.Pilot.@@N@@
