import JvmDerived
import JvmDerived.Pilot.@@N@@Statement
import JvmDerived.Pilot.@@N@@Code
set_option linter.unusedVariables false
set_option linter.unusedSimpArgs false
namespace Jvm.RoadKit
open Sem ClassFile Op Lib Jvm.Stand Jvm.Free Jvm.LawKit
section New
variable {p : Program} {l : Launch} {e : Env} {R : Room} {s : State} {m : MethodId} {args : Array Value} {below : List Frame} {meth : Method} {c : Code} {T : State} {locs : List Loc} {cells slots : Nat}
theorem retI (X : Stand p l e R s m args below meth c T locs cells slots) (hx : p.tables.exec = Jvm.exec) {pc : Nat} {Ls : Array Slot} {z : Int32} {rest : List Value} (hret : meth.sig.returnType = some .int) (hd : decode c.code pc = .ok (.ireturn, 1)) {fs : List Frame}
    (hl : ∀ (f : JFrame) (acts : List Action), f.method = m → f.locked = none → f.entered = [] → (doReturn e (T.setTop f) acts (some (.int z))).1 = T.setFrames fs) : Steps p.tables e below (T.setTop (mkF m pc Ls (.int z :: rest))) (T.setFrames fs) := by
  have hm' : T.vm.method? m = some meth := X.method'
  have hn : narrow .int (.int z) = .int z := rfl
  show Steps p.tables e below (T.setTop { method := m, pc := pc, locals := Ls, stack := _ :: rest, locked := none }) _
  jvm_step X.here [X.here.top, hx, hd, hm', hret, hn]
  first | (intro acts; rw [hl _ acts rfl rfl rfl]) | rw [hl _ _ rfl rfl rfl]
  exact Steps.refl _
abbrev jv (x : Int64) : Slot := .val (.long x)
/-- from A the run goes on to an end of which R holds -/
def Wk (tb : Tables) (e : Env) (below : List Frame) (A : State) (R : State → Outcome → Prop) : Prop := ∃ U o, Steps tb e below A U ∧ R U o
theorem Wk.go {tb : Tables} {A A' : State} {R : State → Outcome → Prop} (h : ∀ t, Steps tb e below A' t → Steps tb e below A t) (k : Wk tb e below A' R) : Wk tb e below A R := by
  obtain ⟨U, o, k1, k2⟩ := k
  exact ⟨U, o, h _ k1, k2⟩
/-- the two ways from A to A' meet there -/
theorem own_fin (X : Stand p l e R s m args below meth c T locs cells slots) {Qv : Option Value → Heap → List Loc → Prop} {v : Option Value} {g : JFrame} {C S : Nat} (hlocks : meth.locks = false) (hv : meth.sig.returnType = none → v = none)
    (hst : ∀ fs, (∀ (f : JFrame) (acts : List Action), f.method = m → f.locked = none → f.entered = [] → (doReturn e (T.setTop f) acts v).1 = T.setFrames fs) → Steps p.tables e below (T.setTop g) (T.setFrames fs))
    (hQ : Qv v T.heap locs) (hc : cells ≤ C) (hs : slots ≤ S) :
    Wk p.tables e below (T.setTop g) (fun U o => U.status = .running ∧ Ended U below o ∧ ∃ v L, o = .returned v ∧ Qv v U.heap L ∧ FrameEnd s o U L C S) := by
  obtain ⟨fs, hr, hrun, hended, hW, hsame⟩ := X.leave (v := v) hv hlocks
  exact ⟨_, _, hst fs hr, hrun, hended, _, _, rfl, hQ, ⟨_, rfl⟩, hW, hsame.mono hc hs⟩
end New
end Jvm.RoadKit
namespace Jvm.Pilot.@@N@@
open Jvm Jvm.ClassFile Sem Op Lib Jvm.Free Jvm.Stand Jvm.LawKit Jvm.RoadKit Bundle Jvm.Pilot.@@N@@.Jvm.D
/-- a place overwritten -/
def own_upd (f : Nat → Int32) (i : Nat) (y : Int32) : Nat → Int32 := fun j => if j = i then y else f j
theorem own_upd_eq (f : Nat → Int32) (i : Nat) (y : Int32) : own_upd f i y i = y := if_pos rfl
theorem own_upd_ne (f : Nat → Int32) {i j : Nat} (y : Int32) (h : j ≠ i) : own_upd f i y j = f j := if_neg h
/-- the byte[] at a has n places; place j holds f j -/
def BA (Z : State) (h : Heap) (a : Addr) (n : Nat) (f : Nat → Int32) : Prop := ∃ c : Cell, Arr Z h a c .byte ∧ c.slots.size = n ∧ ∀ j, j < n → c.slots[j]? = some (.int (f j))
section Bytes
variable {p : Program} {l : Launch} {e : Env} {R : Room} {s : State} {m : MethodId} {args : Array Value} {below : List Frame} {meth : Method} {c : Code} {T : State} {locs : List Loc} {cells slots : Nat} {Z : State} {h h' : Heap} {a b : Addr} {n : Nat} {f : Nat → Int32} {ws : List Addr} {sl : Nat} {v : Value}
theorem BA.new {k : ClassId} {z : Int32} (A : Arr Z h a (newA k .byte z) .byte) : BA Z h a z.toNatClampNeg (fun _ => 0) := ⟨_, A, sz_new _ _ _, fun j hj => by simp [newA, hj]; rfl⟩
theorem BA.lt (F : BA Z h a n f) : a < h.size := by obtain ⟨c, A, -⟩ := F; exact A.lt
theorem BA.ext (F : BA Z h a n f) (E : Ext h h') : BA Z h' a n f := by obtain ⟨c, A, r⟩ := F; exact ⟨c, A.ext E, r⟩
theorem BA.other (F : BA Z h b n f) (W : Wr h h' a sl v) (q : b ≠ a) : BA Z h' b n f := by obtain ⟨c, A, r⟩ := F; exact ⟨c, A.other W q, r⟩
theorem BA.keep (F : BA Z h a n f) (K : Keep h h' ws) (q : a ∉ ws) : BA Z h' a n f := by obtain ⟨c, A, r⟩ := F; exact ⟨c, ⟨K.2.1 a c A.1 q, A.2⟩, r⟩
theorem own_clamp {j : Int32} (h0 : 0 ≤ j.toInt) : (j.toNatClampNeg : Int) = j.toInt := by
  have q : ¬ j < 0 := by
    rw [Int32.lt_iff_toInt_lt]
    have e : (0 : Int32).toInt = 0 := by decide
    omega
  exact (nat_of q).symm
theorem own_inb {cl : Cell} {j : Int32} (S : cl.slots.size = n) (hj : 0 ≤ j.toInt ∧ j.toInt < n) : ¬ (j < 0 ∨ cl.slots.size ≤ j.toNatClampNeg) := by
  have e0 : (0 : Int32).toInt = 0 := by decide
  have := own_clamp hj.1
  rw [Int32.lt_iff_toInt_lt]; omega
theorem own_stB (X : Stand p l e R s m args below meth c T locs cells slots) (hx : p.tables.exec = Jvm.exec) (hZ : Z.Warmed39 s.vm) (eT : T.heap = h) (F : BA Z h a n f) {j x : Int32} (hj : 0 ≤ j.toInt ∧ j.toInt < n) {g : JFrame} (hg : g.method = m) {rest : List Value} (hs : g.stack = .int x :: .int j :: .ref a :: rest) (hd : decode c.code g.pc = .ok (.bastore, 1)) :
    ∃ T' h', Stand p l e R s m args below meth c T' (locs ++ [⟨a, j.toNatClampNeg⟩]) cells slots ∧ T'.heap = h' ∧ Wr h h' a j.toNatClampNeg (.int (nar .byte x)) ∧ BA Z h' a n (own_upd f j.toNatClampNeg x.toInt8.toInt32) ∧ ∀ target, Steps p.tables e below (T'.setTop { g with pc := g.pc + 1, stack := rest }) target → Steps p.tables e below (T.setTop g) target := by
  obtain ⟨cl, A, S, H⟩ := F
  have hin := own_inb S hj
  obtain ⟨T', h', X', e', W, st⟩ := stB X hx hZ eT A (j := j) (x := x) hin hg hs hd
  refine ⟨T', h', X', e', W, ⟨cl.setSlot j.toNatClampNeg (.int (nar .byte x)), A.same W, by rw [sz_set]; exact S, fun i hi => ?_⟩, st⟩
  by_cases q : i = j.toNatClampNeg
  · subst q
    rw [own_upd_eq]
    exact get_hit (k := j) hin rfl
  · rw [own_upd_ne _ _ q, ← H i hi]
    show (cl.slots.setIfInBounds j.toNatClampNeg _)[i]? = _
    rw [Array.getElem?_setIfInBounds_ne (Ne.symm q)]
theorem own_ldB (X : Stand p l e R s m args below meth c T locs cells slots) (hx : p.tables.exec = Jvm.exec) (hZ : Z.Warmed39 s.vm) (eT : T.heap = h) (F : BA Z h a n f) {j : Int32} (hj : 0 ≤ j.toInt ∧ j.toInt < n) {g : JFrame} (hg : g.method = m) {rest : List Value} (hs : g.stack = .int j :: .ref a :: rest) (hd : decode c.code g.pc = .ok (.baload, 1)) :
    ∀ target, Steps p.tables e below (T.setTop { g with pc := g.pc + 1, stack := .int (f j.toNatClampNeg) :: rest }) target → Steps p.tables e below (T.setTop g) target := by
  obtain ⟨cl, A, S, H⟩ := F
  have hc := own_clamp hj.1
  intro target k
  exact X.baloadBytes hx (j := j) (v := .int (f j.toNatClampNeg)) (by rw [eT]; exact A.1) (State.isArrayOf_alike hZ.alike A.2.1) A.2.2 (own_inb S hj) (H _ (by omega)) hg hs hd target k
end Bytes
theorem d1_0 : decode jdk_29_method_69_code 0 = .ok (.iload_n 0, 1) := by decide +kernel
theorem d1_1 : decode jdk_29_method_69_code 1 = .ok (.iload_n 1, 1) := by decide +kernel
theorem d1_2 : decode jdk_29_method_69_code 2 = .ok (.if_icmp .gt 7, 3) := by decide +kernel
theorem d1_9 : decode jdk_29_method_69_code 9 = .ok (.iload_n 1, 1) := by decide +kernel
theorem d1_10 : decode jdk_29_method_69_code 10 = .ok (.ireturn, 1) := by decide +kernel
theorem d1_5 : decode jdk_29_method_69_code 5 = .ok (.iload_n 0, 1) := by decide +kernel
theorem d1_6 : decode jdk_29_method_69_code 6 = .ok (.goto 4, 3) := by decide +kernel
theorem ef_1 (m : MethodId) (x0 : Int32) (x1 : Int32) : entryFrame m #[(.int x0), (.int x1)] 2 = mkF m 0 #[iv x0, iv x1] [] := by first | (simp [entryFrame, mkF, argsToLocals, Value.category]; done) | rfl
def f_min (ax : Int32) (bx : Int32)  : Int32 := (if bx < ax then bx else ax)
def Q1 (Z : State) (ax : Int32) (bx : Int32)  (h0 : Heap) (n0 : Nat) (v : Option Value) (h : Heap) (L : List Loc) : Prop := v = some (.int (f_min ax bx)) ∧ Fr n0 L ∧ h = h0
set_option maxRecDepth 65536 in
set_option maxHeartbeats 40000000 in
theorem rm1 (l : Launch) (Z : State) (a0 : Array Value) (hw : ∀ d ∈ tables_1, d.before a0 Z = true) (ws : List Jvm.Cond) (ax : Int32) (bx : Int32)  (h0 : Heap) (n0 : Nat) (Z0 : n0 ≤ h0.size)  :
    MetFree l (⟨"java/lang/Math", "min", "(II)I"⟩ : MethodName) (head1 (Jvm.Cond.code (⟨"java/lang/Math", "min", "(II)I"⟩ : MethodName) jdk_29_method_69_code 2 (some .int) :: ws) ({ frames := 0, cells := 0, slots := 0, locals := 0 } : Room)) (fun a U => a = #[(.int ax), (.int bx)] ∧ Z.Warmed39 U.vm ∧ U.heap = h0) (fun _ _ _ _ _ => True) (fun _ U o U' => ∃ v L, o = .returned v ∧ Q1 Z ax bx h0 n0 v U'.heap L ∧ FrameEnd U o U' L ({ frames := 0, cells := 0, slots := 0, locals := 0 } : Room).cells ({ frames := 0, cells := 0, slots := 0, locals := 0 } : Room).slots) := by
  refine MetFree.of_bodySF (Jvm.Free.JP.mathPlain rfl (by decide +kernel)) hisR ?_
  intro p e s m args below meth c s₁ Bd hml0 hP hK
  obtain ⟨rfl, hZ, hh⟩ := hP
  have hx := Bd.exec
  have hby := Bd.bytes
  have hml : c.maxLocals = 2 := hml0
  have hown : s.vm.findClass "java/lang/Math" = some m.cls := findClass_of_methodNamed Bd.named
  have hnm := (name_of_methodNamed Bd.named Bd.method).1
  have X0 : Stand p l e ({ frames := 0, cells := 0, slots := 0, locals := 0 } : Room) s m #[(.int ax), (.int bx)] below meth c s₁ [] 0 0 := Stand.of_body Bd
  have e0 : s₁.heap = h0 := by rw [← hh, Bd.state]; rfl
  have N0 := Fr.nil n0
  have hlk : meth.locks = false := BodyLoose.notSynchronized Bd
  suffices hwk : Wk p.tables e below (s₁.setTop (mkF m 0 #[iv ax, iv bx] [])) (fun U o => U.status = .running ∧ Ended U below o ∧ ∃ v L, o = .returned v ∧ Q1 Z ax bx h0 n0 v U.heap L ∧ FrameEnd s o U L 0 0) by
    obtain ⟨U, o, k1, k2⟩ := hwk
    exact ⟨U, o, castTop (ef_1 m ax bx) k1, k2⟩
  refine Wk.go (A' := s₁.setTop (mkF m 1 #[iv ax, iv bx] [(.int ax)])) (fun t k => XS.iloadN X0.here hx rfl (hb hby d1_0) rfl k) ?_
  refine Wk.go (A' := s₁.setTop (mkF m 2 #[iv ax, iv bx] [(.int bx), (.int ax)])) (fun t k => XS.iloadN X0.here hx rfl (hb hby d1_1) rfl k) ?_
  by_cases hc2 : bx < ax
  · refine Wk.go (A' := s₁.setTop (mkF m 9 #[iv ax, iv bx] [])) (fun t k => XS.icmpYes X0.here hx rfl (pc0 := 2) (pc' := 9) rfl (hb hby d1_2) rfl (tlt hc2).2.2.1 (by decide) (by decide) k) ?_
    refine Wk.go (A' := s₁.setTop (mkF m 10 #[iv ax, iv bx] [(.int bx)])) (fun t k => XS.iloadN X0.here hx rfl (hb hby d1_9) rfl k) ?_
    refine own_fin (Qv := Q1 Z ax bx h0 n0) (v := some (.int bx)) X0 hlk (fun h => by rw [Bd.returns] at h; cases h) (fun fs hr => retI X0 hx Bd.returns (hb hby d1_10) hr) ?_ (by decide) (by decide)
    refine ⟨?_, N0, e0⟩
    simp only [f_min, if_pos hc2]
  · refine Wk.go (A' := s₁.setTop (mkF m 5 #[iv ax, iv bx] [])) (fun t k => XS.icmpNo X0.here hx rfl (hb hby d1_2) rfl (flt hc2).2.2.1 k) ?_
    refine Wk.go (A' := s₁.setTop (mkF m 6 #[iv ax, iv bx] [(.int ax)])) (fun t k => XS.iloadN X0.here hx rfl (hb hby d1_5) rfl k) ?_
    refine Wk.go (A' := s₁.setTop (mkF m 10 #[iv ax, iv bx] [(.int ax)])) (fun t k => XS.goto X0.here hx rfl (pc0 := 6) (pc' := 10) rfl (hb hby d1_6) (by decide) (by decide) k) ?_
    refine own_fin (Qv := Q1 Z ax bx h0 n0) (v := some (.int ax)) X0 hlk (fun h => by rw [Bd.returns] at h; cases h) (fun fs hr => retI X0 hx Bd.returns (hb hby d1_10) hr) ?_ (by decide) (by decide)
    refine ⟨?_, N0, e0⟩
    simp only [f_min, if_neg hc2]
theorem d2_0 : decode jdk_29_method_65_code 0 = .ok (.iload_n 0, 1) := by decide +kernel
theorem d2_1 : decode jdk_29_method_65_code 1 = .ok (.iload_n 1, 1) := by decide +kernel
theorem d2_2 : decode jdk_29_method_65_code 2 = .ok (.if_icmp .lt 7, 3) := by decide +kernel
theorem d2_9 : decode jdk_29_method_65_code 9 = .ok (.iload_n 1, 1) := by decide +kernel
theorem d2_10 : decode jdk_29_method_65_code 10 = .ok (.ireturn, 1) := by decide +kernel
theorem d2_5 : decode jdk_29_method_65_code 5 = .ok (.iload_n 0, 1) := by decide +kernel
theorem d2_6 : decode jdk_29_method_65_code 6 = .ok (.goto 4, 3) := by decide +kernel
theorem ef_2 (m : MethodId) (x0 : Int32) (x1 : Int32) : entryFrame m #[(.int x0), (.int x1)] 2 = mkF m 0 #[iv x0, iv x1] [] := by first | (simp [entryFrame, mkF, argsToLocals, Value.category]; done) | rfl
def f_max (ax : Int32) (bx : Int32)  : Int32 := (if ax < bx then bx else ax)
def Q2 (Z : State) (ax : Int32) (bx : Int32)  (h0 : Heap) (n0 : Nat) (v : Option Value) (h : Heap) (L : List Loc) : Prop := v = some (.int (f_max ax bx)) ∧ Fr n0 L ∧ h = h0
set_option maxRecDepth 65536 in
set_option maxHeartbeats 40000000 in
theorem rm2 (l : Launch) (Z : State) (a0 : Array Value) (hw : ∀ d ∈ tables_1, d.before a0 Z = true) (ws : List Jvm.Cond) (ax : Int32) (bx : Int32)  (h0 : Heap) (n0 : Nat) (Z0 : n0 ≤ h0.size)  :
    MetFree l (⟨"java/lang/Math", "max", "(II)I"⟩ : MethodName) (head1 (Jvm.Cond.code (⟨"java/lang/Math", "max", "(II)I"⟩ : MethodName) jdk_29_method_65_code 2 (some .int) :: ws) ({ frames := 0, cells := 0, slots := 0, locals := 0 } : Room)) (fun a U => a = #[(.int ax), (.int bx)] ∧ Z.Warmed39 U.vm ∧ U.heap = h0) (fun _ _ _ _ _ => True) (fun _ U o U' => ∃ v L, o = .returned v ∧ Q2 Z ax bx h0 n0 v U'.heap L ∧ FrameEnd U o U' L ({ frames := 0, cells := 0, slots := 0, locals := 0 } : Room).cells ({ frames := 0, cells := 0, slots := 0, locals := 0 } : Room).slots) := by
  refine MetFree.of_bodySF (Jvm.Free.JP.mathPlain rfl (by decide +kernel)) hisR ?_
  intro p e s m args below meth c s₁ Bd hml0 hP hK
  obtain ⟨rfl, hZ, hh⟩ := hP
  have hx := Bd.exec
  have hby := Bd.bytes
  have hml : c.maxLocals = 2 := hml0
  have hown : s.vm.findClass "java/lang/Math" = some m.cls := findClass_of_methodNamed Bd.named
  have hnm := (name_of_methodNamed Bd.named Bd.method).1
  have X0 : Stand p l e ({ frames := 0, cells := 0, slots := 0, locals := 0 } : Room) s m #[(.int ax), (.int bx)] below meth c s₁ [] 0 0 := Stand.of_body Bd
  have e0 : s₁.heap = h0 := by rw [← hh, Bd.state]; rfl
  have N0 := Fr.nil n0
  have hlk : meth.locks = false := BodyLoose.notSynchronized Bd
  suffices hwk : Wk p.tables e below (s₁.setTop (mkF m 0 #[iv ax, iv bx] [])) (fun U o => U.status = .running ∧ Ended U below o ∧ ∃ v L, o = .returned v ∧ Q2 Z ax bx h0 n0 v U.heap L ∧ FrameEnd s o U L 0 0) by
    obtain ⟨U, o, k1, k2⟩ := hwk
    exact ⟨U, o, castTop (ef_2 m ax bx) k1, k2⟩
  refine Wk.go (A' := s₁.setTop (mkF m 1 #[iv ax, iv bx] [(.int ax)])) (fun t k => XS.iloadN X0.here hx rfl (hb hby d2_0) rfl k) ?_
  refine Wk.go (A' := s₁.setTop (mkF m 2 #[iv ax, iv bx] [(.int bx), (.int ax)])) (fun t k => XS.iloadN X0.here hx rfl (hb hby d2_1) rfl k) ?_
  by_cases hc2 : ax < bx
  · refine Wk.go (A' := s₁.setTop (mkF m 9 #[iv ax, iv bx] [])) (fun t k => XS.icmpYes X0.here hx rfl (pc0 := 2) (pc' := 9) rfl (hb hby d2_2) rfl (tlt hc2).1 (by decide) (by decide) k) ?_
    refine Wk.go (A' := s₁.setTop (mkF m 10 #[iv ax, iv bx] [(.int bx)])) (fun t k => XS.iloadN X0.here hx rfl (hb hby d2_9) rfl k) ?_
    refine own_fin (Qv := Q2 Z ax bx h0 n0) (v := some (.int bx)) X0 hlk (fun h => by rw [Bd.returns] at h; cases h) (fun fs hr => retI X0 hx Bd.returns (hb hby d2_10) hr) ?_ (by decide) (by decide)
    refine ⟨?_, N0, e0⟩
    simp only [f_max, if_pos hc2]
  · refine Wk.go (A' := s₁.setTop (mkF m 5 #[iv ax, iv bx] [])) (fun t k => XS.icmpNo X0.here hx rfl (hb hby d2_2) rfl (flt hc2).1 k) ?_
    refine Wk.go (A' := s₁.setTop (mkF m 6 #[iv ax, iv bx] [(.int ax)])) (fun t k => XS.iloadN X0.here hx rfl (hb hby d2_5) rfl k) ?_
    refine Wk.go (A' := s₁.setTop (mkF m 10 #[iv ax, iv bx] [(.int ax)])) (fun t k => XS.goto X0.here hx rfl (pc0 := 6) (pc' := 10) rfl (hb hby d2_6) (by decide) (by decide) k) ?_
    refine own_fin (Qv := Q2 Z ax bx h0 n0) (v := some (.int ax)) X0 hlk (fun h => by rw [Bd.returns] at h; cases h) (fun fs hr => retI X0 hx Bd.returns (hb hby d2_10) hr) ?_ (by decide) (by decide)
    refine ⟨?_, N0, e0⟩
    simp only [f_max, if_neg hc2]
theorem d4_0 : decode method_2_code 0 = .ok (.iload_n 0, 1) := by decide +kernel
theorem d4_1 : decode method_2_code 1 = .ok (.sipush 255, 3) := by decide +kernel
theorem d4_4 : decode method_2_code 4 = .ok (.iand, 1) := by decide +kernel
theorem d4_5 : decode method_2_code 5 = .ok (.istore_n 1, 1) := by decide +kernel
theorem d4_6 : decode method_2_code 6 = .ok (.iload_n 1, 1) := by decide +kernel
theorem d4_7 : decode method_2_code 7 = .ok (.sipush 128, 3) := by decide +kernel
theorem d4_10 : decode method_2_code 10 = .ok (.if_icmp .lt 14, 3) := by decide +kernel
theorem d4_24 : decode method_2_code 24 = .ok (.iconst 0, 1) := by decide +kernel
theorem d4_25 : decode method_2_code 25 = .ok (.ireturn, 1) := by decide +kernel
theorem d4_13 : decode method_2_code 13 = .ok (.iload_n 1, 1) := by decide +kernel
theorem d4_14 : decode method_2_code 14 = .ok (.sipush 192, 3) := by decide +kernel
theorem d4_17 : decode method_2_code 17 = .ok (.if_icmp .ge 7, 3) := by decide +kernel
theorem d4_20 : decode method_2_code 20 = .ok (.iconst 1, 1) := by decide +kernel
theorem d4_21 : decode method_2_code 21 = .ok (.goto 4, 3) := by decide +kernel
theorem pn_0 : plainName "com/example/rookery/rookery/formats/FileTextColumnPinLaw" = true := by first | (simp [plainName, overriddenIn]; done) | decide +kernel
theorem ef_4 (m : MethodId) (x0 : Int32) : entryFrame m #[(.int x0)] 2 = mkF m 0 #[iv x0, .unset] [] := by first | (simp [entryFrame, mkF, argsToLocals, Value.category]; done) | rfl
def f_cont (bx : Int32)  : Int32 := (if (bx &&& (255 : Int32)) < (128 : Int32) then (0 : Int32) else (if (bx &&& (255 : Int32)) < (192 : Int32) then (1 : Int32) else (0 : Int32)))
def Q4 (Z : State) (bx : Int32)  (h0 : Heap) (n0 : Nat) (v : Option Value) (h : Heap) (L : List Loc) : Prop := v = some (.int (f_cont bx)) ∧ Fr n0 L ∧ h = h0
set_option maxRecDepth 65536 in
set_option maxHeartbeats 40000000 in
theorem rm4 (l : Launch) (Z : State) (a0 : Array Value) (hw : ∀ d ∈ tables_1, d.before a0 Z = true) (ws : List Jvm.Cond) (bx : Int32)  (h0 : Heap) (n0 : Nat) (Z0 : n0 ≤ h0.size)  :
    MetFree l (⟨"com/example/rookery/rookery/formats/FileTextColumnPinLaw", "continues", "(B)Z"⟩ : MethodName) (head1 (Jvm.Cond.code (⟨"com/example/rookery/rookery/formats/FileTextColumnPinLaw", "continues", "(B)Z"⟩ : MethodName) method_2_code 2 (some .boolean) :: ws) ({ frames := 0, cells := 0, slots := 0, locals := 0 } : Room)) (fun a U => a = #[(.int bx)] ∧ Z.Warmed39 U.vm ∧ U.heap = h0) (fun _ _ _ _ _ => True) (fun _ U o U' => ∃ v L, o = .returned v ∧ Q4 Z bx h0 n0 v U'.heap L ∧ FrameEnd U o U' L ({ frames := 0, cells := 0, slots := 0, locals := 0 } : Room).cells ({ frames := 0, cells := 0, slots := 0, locals := 0 } : Room).slots) := by
  refine MetFree.of_bodySF (plainFor_of_name pn_0) hisR ?_
  intro p e s m args below meth c s₁ Bd hml0 hP hK
  obtain ⟨rfl, hZ, hh⟩ := hP
  have hx := Bd.exec
  have hby := Bd.bytes
  have hml : c.maxLocals = 2 := hml0
  have hown : s.vm.findClass "com/example/rookery/rookery/formats/FileTextColumnPinLaw" = some m.cls := findClass_of_methodNamed Bd.named
  have hnm := (name_of_methodNamed Bd.named Bd.method).1
  have X0 : Stand p l e ({ frames := 0, cells := 0, slots := 0, locals := 0 } : Room) s m #[(.int bx)] below meth c s₁ [] 0 0 := Stand.of_body Bd
  have e0 : s₁.heap = h0 := by rw [← hh, Bd.state]; rfl
  have N0 := Fr.nil n0
  have hlk : meth.locks = false := BodyLoose.notSynchronized Bd
  suffices hwk : Wk p.tables e below (s₁.setTop (mkF m 0 #[iv bx, .unset] [])) (fun U o => U.status = .running ∧ Ended U below o ∧ ∃ v L, o = .returned v ∧ Q4 Z bx h0 n0 v U.heap L ∧ FrameEnd s o U L 0 0) by
    obtain ⟨U, o, k1, k2⟩ := hwk
    exact ⟨U, o, castTop (ef_4 m bx) k1, k2⟩
  refine Wk.go (A' := s₁.setTop (mkF m 1 #[iv bx, .unset] [(.int bx)])) (fun t k => XS.iloadN X0.here hx rfl (hb hby d4_0) rfl k) ?_
  refine Wk.go (A' := s₁.setTop (mkF m 4 #[iv bx, .unset] [(.int (255 : Int32)), (.int bx)])) (fun t k => XS.sipush X0.here hx rfl (hb hby d4_1) k) ?_
  refine Wk.go (A' := s₁.setTop (mkF m 5 #[iv bx, .unset] [(.int (bx &&& (255 : Int32)))])) (fun t k => XS.iand X0.here hx rfl (hb hby d4_4) rfl k) ?_
  refine Wk.go (A' := s₁.setTop (mkF m 6 #[iv bx, iv (bx &&& (255 : Int32))] [])) (fun t k => XS.istoreN X0.here hx rfl (hb hby d4_5) rfl (l' := #[iv bx, iv (bx &&& (255 : Int32))]) rfl k) ?_
  refine Wk.go (A' := s₁.setTop (mkF m 7 #[iv bx, iv (bx &&& (255 : Int32))] [(.int (bx &&& (255 : Int32)))])) (fun t k => XS.iloadN X0.here hx rfl (hb hby d4_6) rfl k) ?_
  refine Wk.go (A' := s₁.setTop (mkF m 10 #[iv bx, iv (bx &&& (255 : Int32))] [(.int (128 : Int32)), (.int (bx &&& (255 : Int32)))])) (fun t k => XS.sipush X0.here hx rfl (hb hby d4_7) k) ?_
  by_cases hc10 : (bx &&& (255 : Int32)) < (128 : Int32)
  · refine Wk.go (A' := s₁.setTop (mkF m 24 #[iv bx, iv (bx &&& (255 : Int32))] [])) (fun t k => XS.icmpYes X0.here hx rfl (pc0 := 10) (pc' := 24) rfl (hb hby d4_10) rfl (tlt hc10).1 (by decide) (by decide) k) ?_
    refine Wk.go (A' := s₁.setTop (mkF m 25 #[iv bx, iv (bx &&& (255 : Int32))] [(.int (0 : Int32))])) (fun t k => XS.iconst X0.here hx rfl (hb hby d4_24) k) ?_
    refine own_fin (Qv := Q4 Z bx h0 n0) (v := some (.int (0 : Int32))) X0 hlk (fun h => by rw [Bd.returns] at h; cases h) (fun fs hr => retN X0 hx (t := .boolean) Bd.returns (by simp) (hb hby d4_25) hr) ?_ (by decide) (by decide)
    refine ⟨?_, N0, e0⟩
    simp only [f_cont, if_pos hc10]
  · refine Wk.go (A' := s₁.setTop (mkF m 13 #[iv bx, iv (bx &&& (255 : Int32))] [])) (fun t k => XS.icmpNo X0.here hx rfl (hb hby d4_10) rfl (flt hc10).1 k) ?_
    refine Wk.go (A' := s₁.setTop (mkF m 14 #[iv bx, iv (bx &&& (255 : Int32))] [(.int (bx &&& (255 : Int32)))])) (fun t k => XS.iloadN X0.here hx rfl (hb hby d4_13) rfl k) ?_
    refine Wk.go (A' := s₁.setTop (mkF m 17 #[iv bx, iv (bx &&& (255 : Int32))] [(.int (192 : Int32)), (.int (bx &&& (255 : Int32)))])) (fun t k => XS.sipush X0.here hx rfl (hb hby d4_14) k) ?_
    by_cases hc17 : (bx &&& (255 : Int32)) < (192 : Int32)
    · refine Wk.go (A' := s₁.setTop (mkF m 20 #[iv bx, iv (bx &&& (255 : Int32))] [])) (fun t k => XS.icmpNo X0.here hx rfl (hb hby d4_17) rfl (tlt hc17).2.1 k) ?_
      refine Wk.go (A' := s₁.setTop (mkF m 21 #[iv bx, iv (bx &&& (255 : Int32))] [(.int (1 : Int32))])) (fun t k => XS.iconst X0.here hx rfl (hb hby d4_20) k) ?_
      refine Wk.go (A' := s₁.setTop (mkF m 25 #[iv bx, iv (bx &&& (255 : Int32))] [(.int (1 : Int32))])) (fun t k => XS.goto X0.here hx rfl (pc0 := 21) (pc' := 25) rfl (hb hby d4_21) (by decide) (by decide) k) ?_
      refine own_fin (Qv := Q4 Z bx h0 n0) (v := some (.int (1 : Int32))) X0 hlk (fun h => by rw [Bd.returns] at h; cases h) (fun fs hr => retN X0 hx (t := .boolean) Bd.returns (by simp) (hb hby d4_25) hr) ?_ (by decide) (by decide)
      refine ⟨?_, N0, e0⟩
      simp only [f_cont, if_neg hc10, if_pos hc17]
    · refine Wk.go (A' := s₁.setTop (mkF m 24 #[iv bx, iv (bx &&& (255 : Int32))] [])) (fun t k => XS.icmpYes X0.here hx rfl (pc0 := 17) (pc' := 24) rfl (hb hby d4_17) rfl (flt hc17).2.1 (by decide) (by decide) k) ?_
      refine Wk.go (A' := s₁.setTop (mkF m 25 #[iv bx, iv (bx &&& (255 : Int32))] [(.int (0 : Int32))])) (fun t k => XS.iconst X0.here hx rfl (hb hby d4_24) k) ?_
      refine own_fin (Qv := Q4 Z bx h0 n0) (v := some (.int (0 : Int32))) X0 hlk (fun h => by rw [Bd.returns] at h; cases h) (fun fs hr => retN X0 hx (t := .boolean) Bd.returns (by simp) (hb hby d4_25) hr) ?_ (by decide) (by decide)
      refine ⟨?_, N0, e0⟩
      simp only [f_cont, if_neg hc10, if_neg hc17]
theorem d3_0 : decode method_3_code 0 = .ok (.iload_n 1, 1) := by decide +kernel
theorem d3_1 : decode method_3_code 1 = .ok (.iload_n 2, 1) := by decide +kernel
theorem d3_2 : decode method_3_code 2 = .ok (.if_icmp .ge 5, 3) := by decide +kernel
theorem d3_5 : decode method_3_code 5 = .ok (.iconst 0, 1) := by decide +kernel
theorem d3_6 : decode method_3_code 6 = .ok (.ireturn, 1) := by decide +kernel
theorem d3_7 : decode method_3_code 7 = .ok (.iload_n 1, 1) := by decide +kernel
theorem d3_8 : decode method_3_code 8 = .ok (.iload_n 3, 1) := by decide +kernel
theorem d3_9 : decode method_3_code 9 = .ok (.if_icmp .lt 5, 3) := by decide +kernel
theorem d3_14 : decode method_3_code 14 = .ok (.iload_n 0, 1) := by decide +kernel
theorem tw13 {Z : State} {a0 : Array Value} (hw : ∀ d ∈ tables_1, d.before a0 Z = true) : (Jvm.Cond.methodLink "com/example/rookery/rookery/formats/FileTextColumnPinLaw" (7 : Nat) ({ cls := "com/example/rookery/rookery/formats/FileTextColumnPinLaw", name := "continues", desc := "(B)Z" } : Jvm.MethodName)).before a0 Z = true := hw _ (List.mem_of_getElem? (i := 13) rfl)
theorem tw15 {Z : State} {a0 : Array Value} (hw : ∀ d ∈ tables_1, d.before a0 Z = true) : (Jvm.Cond.code ({ cls := "com/example/rookery/rookery/formats/FileTextColumnPinLaw", name := "continues", desc := "(B)Z" } : Jvm.MethodName) method_2_code (2 : Nat) (Option.some Jvm.ClassFile.FieldType.boolean)).before a0 Z = true := hw _ (List.mem_of_getElem? (i := 15) rfl)
theorem tw11 {Z : State} {a0 : Array Value} (hw : ∀ d ∈ tables_1, d.before a0 Z = true) : (Jvm.Cond.initialized "com/example/rookery/rookery/formats/FileTextColumnPinLaw").before a0 Z = true := hw _ (List.mem_of_getElem? (i := 11) rfl)
theorem pd_0 : parseMethodDescriptor "(B)Z" = some ⟨[.byte], some .boolean⟩ := by decide +kernel
theorem d3_15 : decode method_3_code 15 = .ok (.invokestatic 7, 3) := by decide +kernel
theorem tw14 {Z : State} {a0 : Array Value} (hw : ∀ d ∈ tables_1, d.before a0 Z = true) : (Jvm.Cond.static ({ cls := "com/example/rookery/rookery/formats/FileTextColumnPinLaw", name := "continues", desc := "(B)Z" } : Jvm.MethodName)).before a0 Z = true := hw _ (List.mem_of_getElem? (i := 14) rfl)
theorem d3_18 : decode method_3_code 18 = .ok (.ifCond .eq 5, 3) := by decide +kernel
theorem d3_23 : decode method_3_code 23 = .ok (.iconst 1, 1) := by decide +kernel
theorem d3_24 : decode method_3_code 24 = .ok (.ireturn, 1) := by decide +kernel
theorem d3_21 : decode method_3_code 21 = .ok (.iconst 0, 1) := by decide +kernel
theorem d3_22 : decode method_3_code 22 = .ok (.ireturn, 1) := by decide +kernel
theorem d3_12 : decode method_3_code 12 = .ok (.iconst 0, 1) := by decide +kernel
theorem d3_13 : decode method_3_code 13 = .ok (.ireturn, 1) := by decide +kernel
theorem ef_3 (m : MethodId) (x0 : Int32) (x1 : Int32) (x2 : Int32) (x3 : Int32) : entryFrame m #[(.int x0), (.int x1), (.int x2), (.int x3)] 4 = mkF m 0 #[iv x0, iv x1, iv x2, iv x3] [] := by first | (simp [entryFrame, mkF, argsToLocals, Value.category]; done) | rfl
def f_cnt (bx : Int32) (ix : Int32) (ia : Int32) (ib : Int32)  : Int32 := (if ix < ia then (0 : Int32) else (if ix < ib then (if (f_cont bx) = (0 : Int32) then (1 : Int32) else (0 : Int32)) else (0 : Int32)))
def Q3 (Z : State) (bx : Int32) (ix : Int32) (ia : Int32) (ib : Int32)  (h0 : Heap) (n0 : Nat) (v : Option Value) (h : Heap) (L : List Loc) : Prop := v = some (.int (f_cnt bx ix ia ib)) ∧ Fr n0 L ∧ h = h0
set_option maxRecDepth 65536 in
set_option maxHeartbeats 40000000 in
theorem rm3 (l : Launch) (Z : State) (a0 : Array Value) (hw : ∀ d ∈ tables_1, d.before a0 Z = true) (ws : List Jvm.Cond) (bx : Int32) (ix : Int32) (ia : Int32) (ib : Int32)  (h0 : Heap) (n0 : Nat) (Z0 : n0 ≤ h0.size)  :
    MetFree l (⟨"com/example/rookery/rookery/formats/FileTextColumnPinLaw", "counts", "(BIII)I"⟩ : MethodName) (head1 (Jvm.Cond.code (⟨"com/example/rookery/rookery/formats/FileTextColumnPinLaw", "counts", "(BIII)I"⟩ : MethodName) method_3_code 4 (some .int) :: ws) ({ frames := 1, cells := 0, slots := 0, locals := 13 } : Room)) (fun a U => a = #[(.int bx), (.int ix), (.int ia), (.int ib)] ∧ Z.Warmed39 U.vm ∧ U.heap = h0) (fun _ _ _ _ _ => True) (fun _ U o U' => ∃ v L, o = .returned v ∧ Q3 Z bx ix ia ib h0 n0 v U'.heap L ∧ FrameEnd U o U' L ({ frames := 1, cells := 0, slots := 0, locals := 13 } : Room).cells ({ frames := 1, cells := 0, slots := 0, locals := 13 } : Room).slots) := by
  refine MetFree.of_bodySF (plainFor_of_name pn_0) hisR ?_
  intro p e s m args below meth c s₁ Bd hml0 hP hK
  obtain ⟨rfl, hZ, hh⟩ := hP
  have hx := Bd.exec
  have hby := Bd.bytes
  have hml : c.maxLocals = 4 := hml0
  have hown : s.vm.findClass "com/example/rookery/rookery/formats/FileTextColumnPinLaw" = some m.cls := findClass_of_methodNamed Bd.named
  have hnm := (name_of_methodNamed Bd.named Bd.method).1
  have X0 : Stand p l e ({ frames := 1, cells := 0, slots := 0, locals := 13 } : Room) s m #[(.int bx), (.int ix), (.int ia), (.int ib)] below meth c s₁ [] 0 0 := Stand.of_body Bd
  have e0 : s₁.heap = h0 := by rw [← hh, Bd.state]; rfl
  have N0 := Fr.nil n0
  have hlk : meth.locks = false := BodyLoose.notSynchronized Bd
  suffices hwk : Wk p.tables e below (s₁.setTop (mkF m 0 #[iv bx, iv ix, iv ia, iv ib] [])) (fun U o => U.status = .running ∧ Ended U below o ∧ ∃ v L, o = .returned v ∧ Q3 Z bx ix ia ib h0 n0 v U.heap L ∧ FrameEnd s o U L 0 0) by
    obtain ⟨U, o, k1, k2⟩ := hwk
    exact ⟨U, o, castTop (ef_3 m bx ix ia ib) k1, k2⟩
  refine Wk.go (A' := s₁.setTop (mkF m 1 #[iv bx, iv ix, iv ia, iv ib] [(.int ix)])) (fun t k => XS.iloadN X0.here hx rfl (hb hby d3_0) rfl k) ?_
  refine Wk.go (A' := s₁.setTop (mkF m 2 #[iv bx, iv ix, iv ia, iv ib] [(.int ia), (.int ix)])) (fun t k => XS.iloadN X0.here hx rfl (hb hby d3_1) rfl k) ?_
  by_cases hc2 : ix < ia
  · refine Wk.go (A' := s₁.setTop (mkF m 5 #[iv bx, iv ix, iv ia, iv ib] [])) (fun t k => XS.icmpNo X0.here hx rfl (hb hby d3_2) rfl (tlt hc2).2.1 k) ?_
    refine Wk.go (A' := s₁.setTop (mkF m 6 #[iv bx, iv ix, iv ia, iv ib] [(.int (0 : Int32))])) (fun t k => XS.iconst X0.here hx rfl (hb hby d3_5) k) ?_
    refine own_fin (Qv := Q3 Z bx ix ia ib h0 n0) (v := some (.int (0 : Int32))) X0 hlk (fun h => by rw [Bd.returns] at h; cases h) (fun fs hr => retI X0 hx Bd.returns (hb hby d3_6) hr) ?_ (by decide) (by decide)
    refine ⟨?_, N0, e0⟩
    simp only [f_cnt, if_pos hc2]
  · refine Wk.go (A' := s₁.setTop (mkF m 7 #[iv bx, iv ix, iv ia, iv ib] [])) (fun t k => XS.icmpYes X0.here hx rfl (pc0 := 2) (pc' := 7) rfl (hb hby d3_2) rfl (flt hc2).2.1 (by decide) (by decide) k) ?_
    refine Wk.go (A' := s₁.setTop (mkF m 8 #[iv bx, iv ix, iv ia, iv ib] [(.int ix)])) (fun t k => XS.iloadN X0.here hx rfl (hb hby d3_7) rfl k) ?_
    refine Wk.go (A' := s₁.setTop (mkF m 9 #[iv bx, iv ix, iv ia, iv ib] [(.int ib), (.int ix)])) (fun t k => XS.iloadN X0.here hx rfl (hb hby d3_8) rfl k) ?_
    by_cases hc9 : ix < ib
    · refine Wk.go (A' := s₁.setTop (mkF m 14 #[iv bx, iv ix, iv ia, iv ib] [])) (fun t k => XS.icmpYes X0.here hx rfl (pc0 := 9) (pc' := 14) rfl (hb hby d3_9) rfl (tlt hc9).1 (by decide) (by decide) k) ?_
      refine Wk.go (A' := s₁.setTop (mkF m 15 #[iv bx, iv ix, iv ia, iv ib] [(.int bx)])) (fun t k => XS.iloadN X0.here hx rfl (hb hby d3_14) rfl k) ?_
      obtain ⟨_, _, ⟨T1, L1, k1, n1⟩, -, X1, ⟨Lc1, hQ1, l1, y1, z1⟩, st1⟩ := Jvm.LawKit.callS X0 hx (y := (⟨"com/example/rookery/rookery/formats/FileTextColumnPinLaw", "continues", "(B)Z"⟩ : MethodName)) hown (mvT hZ (tw13 hw)) (mvT hZ (tw14 hw)) (mvT hZ (tw11 hw)) (mvT hZ (tw15 hw)) (by decide) (backOf (W := 0) (rm4 l Z a0 hw [] bx  h0 n0 Z0 ) hZ (tw15 hw) (tw11 hw) (by decide) (by decide)) (g := (mkF m 15 #[iv bx, iv ix, iv ia, iv ib] [(.int bx)])) rfl (by rw [hml]; rfl) (argsL := [(.int bx)]) (rest := []) (lenOf pd_0 rfl) rfl (by show 2 * 0 + _ ≤ _; exact Nat.le_of_eq rfl) (hb hby d3_15) (fun _ _ => ⟨rfl, e0, (by decide : 0 + 0 ≤ _), (by decide : 0 + 0 ≤ _)⟩)
      dsimp only [Pt.U, Pt.locs, Pt.cells, Pt.slots] at X1 l1 y1 z1 st1 hQ1
      subst l1 y1 z1
      obtain ⟨rfl, N1q, hE1⟩ := hQ1
      have N1 := Fr.app N0 N1q
      refine Wk.go (A' := T1.setTop (mkF m 18 #[iv bx, iv ix, iv ia, iv ib] [(.int (f_cont bx))])) (fun t k => st1 t k) ?_
      by_cases hc18 : (f_cont bx) = (0 : Int32)
      · refine Wk.go (A' := T1.setTop (mkF m 23 #[iv bx, iv ix, iv ia, iv ib] [])) (fun t k => XS.ifYes X1.here hx rfl (pc0 := 18) (pc' := 23) rfl (hb hby d3_18) rfl ((if0 _ _).trans (teq hc18).1) (by decide) (by decide) k) ?_
        refine Wk.go (A' := T1.setTop (mkF m 24 #[iv bx, iv ix, iv ia, iv ib] [(.int (1 : Int32))])) (fun t k => XS.iconst X1.here hx rfl (hb hby d3_23) k) ?_
        refine own_fin (Qv := Q3 Z bx ix ia ib h0 n0) (v := some (.int (1 : Int32))) X1 hlk (fun h => by rw [Bd.returns] at h; cases h) (fun fs hr => retI X1 hx Bd.returns (hb hby d3_24) hr) ?_ (by decide) (by decide)
        refine ⟨?_, N1, (hE1)⟩
        simp only [f_cnt, if_neg hc2, if_pos hc9, if_pos hc18]
      · refine Wk.go (A' := T1.setTop (mkF m 21 #[iv bx, iv ix, iv ia, iv ib] [])) (fun t k => XS.ifNo X1.here hx rfl (hb hby d3_18) rfl ((if0 _ _).trans (feq hc18).1) k) ?_
        refine Wk.go (A' := T1.setTop (mkF m 22 #[iv bx, iv ix, iv ia, iv ib] [(.int (0 : Int32))])) (fun t k => XS.iconst X1.here hx rfl (hb hby d3_21) k) ?_
        refine own_fin (Qv := Q3 Z bx ix ia ib h0 n0) (v := some (.int (0 : Int32))) X1 hlk (fun h => by rw [Bd.returns] at h; cases h) (fun fs hr => retI X1 hx Bd.returns (hb hby d3_22) hr) ?_ (by decide) (by decide)
        refine ⟨?_, N1, (hE1)⟩
        simp only [f_cnt, if_neg hc2, if_pos hc9, if_neg hc18]
    · refine Wk.go (A' := s₁.setTop (mkF m 12 #[iv bx, iv ix, iv ia, iv ib] [])) (fun t k => XS.icmpNo X0.here hx rfl (hb hby d3_9) rfl (flt hc9).1 k) ?_
      refine Wk.go (A' := s₁.setTop (mkF m 13 #[iv bx, iv ix, iv ia, iv ib] [(.int (0 : Int32))])) (fun t k => XS.iconst X0.here hx rfl (hb hby d3_12) k) ?_
      refine own_fin (Qv := Q3 Z bx ix ia ib h0 n0) (v := some (.int (0 : Int32))) X0 hlk (fun h => by rw [Bd.returns] at h; cases h) (fun fs hr => retI X0 hx Bd.returns (hb hby d3_13) hr) ?_ (by decide) (by decide)
      refine ⟨?_, N0, e0⟩
      simp only [f_cnt, if_neg hc2, if_neg hc9]
/-- what the loop adds up: k turns from place i on -/
def own_col (f : Nat → Int32) : Nat → Nat → Int32 → Int32
  | _, 0, acc => acc
  | i, k + 1, acc => own_col f (i + 1) k (if (f i &&& (192 : Int32)) = (128 : Int32) then acc + 0 else acc + 1)
theorem own_next {i : Int32} {k : Nat} {z : Int32} (h : i.toInt + ((k + 1 : Nat) : Int) = z.toInt) (h0 : 0 ≤ i.toInt) : (i + (1 : Int32)).toInt = i.toInt + 1 ∧ (i + (1 : Int32)).toNatClampNeg = i.toNatClampNeg + 1 := by
  have a := c_iadd i 1
  have r := rng32 (i + 1)
  have r2 := rng32 z
  have e1 : (1 : Int32).toInt = 1 := by decide
  have e2 : (i + (1 : Int32)).toInt = i.toInt + 1 := by omega
  have c1 := own_clamp h0
  have c2 := own_clamp (show 0 ≤ (i + (1 : Int32)).toInt by omega)
  exact ⟨e2, by omega⟩
theorem own_turn {f : Nat → Int32} {i : Int32} {k : Nat} {z acc r a' : Int32} (h : i.toInt + ((k + 1 : Nat) : Int) = z.toInt) (h0 : 0 ≤ i.toInt) (hr : own_col f i.toNatClampNeg (k + 1) acc = r) (ha : (if (f (i).toNatClampNeg &&& (192 : Int32)) = (128 : Int32) then acc + 0 else acc + 1) = a') :
    (i + (1 : Int32)).toInt + (k : Int) = z.toInt ∧ 0 ≤ (i + (1 : Int32)).toInt ∧ own_col f (i + (1 : Int32)).toNatClampNeg k a' = r := by
  obtain ⟨e1, e2⟩ := own_next h h0
  refine ⟨by omega, by omega, ?_⟩
  rw [e2, ← ha, ← hr]; rfl
theorem d5_0 : decode prog_29_method_15_code 0 = .ok (.iconst 1, 1) := by decide +kernel
theorem d5_1 : decode prog_29_method_15_code 1 = .ok (.istore_n 3, 1) := by decide +kernel
theorem d5_2 : decode prog_29_method_15_code 2 = .ok (.iload_n 1, 1) := by decide +kernel
theorem d5_3 : decode prog_29_method_15_code 3 = .ok (.istore 4, 2) := by decide +kernel
theorem d5_5 : decode prog_29_method_15_code 5 = .ok (.iload 4, 2) := by decide +kernel
theorem d5_7 : decode prog_29_method_15_code 7 = .ok (.iload_n 2, 1) := by decide +kernel
theorem d5_8 : decode prog_29_method_15_code 8 = .ok (.if_icmp .ge 31, 3) := by decide +kernel
theorem d5_39 : decode prog_29_method_15_code 39 = .ok (.iload_n 3, 1) := by decide +kernel
theorem d5_40 : decode prog_29_method_15_code 40 = .ok (.ireturn, 1) := by decide +kernel
theorem d5_11 : decode prog_29_method_15_code 11 = .ok (.iload_n 3, 1) := by decide +kernel
theorem d5_12 : decode prog_29_method_15_code 12 = .ok (.aload_n 0, 1) := by decide +kernel
theorem d5_13 : decode prog_29_method_15_code 13 = .ok (.iload 4, 2) := by decide +kernel
theorem d5_15 : decode prog_29_method_15_code 15 = .ok (.baload, 1) := by decide +kernel
theorem d5_16 : decode prog_29_method_15_code 16 = .ok (.sipush 192, 3) := by decide +kernel
theorem d5_19 : decode prog_29_method_15_code 19 = .ok (.iand, 1) := by decide +kernel
theorem d5_20 : decode prog_29_method_15_code 20 = .ok (.sipush 128, 3) := by decide +kernel
theorem d5_23 : decode prog_29_method_15_code 23 = .ok (.if_icmp .ne 7, 3) := by decide +kernel
theorem d5_26 : decode prog_29_method_15_code 26 = .ok (.iconst 0, 1) := by decide +kernel
theorem d5_27 : decode prog_29_method_15_code 27 = .ok (.goto 4, 3) := by decide +kernel
theorem d5_31 : decode prog_29_method_15_code 31 = .ok (.iadd, 1) := by decide +kernel
theorem d5_32 : decode prog_29_method_15_code 32 = .ok (.istore_n 3, 1) := by decide +kernel
theorem d5_33 : decode prog_29_method_15_code 33 = .ok (.iinc 4 1, 3) := by decide +kernel
theorem d5_36 : decode prog_29_method_15_code 36 = .ok (.goto (-31), 3) := by decide +kernel
theorem d5_30 : decode prog_29_method_15_code 30 = .ok (.iconst 1, 1) := by decide +kernel
theorem pn_1 : plainName "com/example/rookery/rookery/formats/FileText" = true := by first | (simp [plainName, overriddenIn]; done) | decide +kernel
theorem ef_5 (m : MethodId) (x0 : Addr) (x1 : Int32) (x2 : Int32) : entryFrame m #[(.ref x0), (.int x1), (.int x2)] 5 = mkF m 0 #[rv x0, iv x1, iv x2, .unset, .unset] [] := by first | (simp [entryFrame, mkF, argsToLocals, Value.category]; done) | rfl
def Q5 (Z : State) (ar : Addr) (ia : Int32) (ib : Int32) (fB : Nat → Int32) (h0 : Heap) (n0 : Nat) (v : Option Value) (h : Heap) (L : List Loc) : Prop := v = some (.int (own_col fB ia.toNatClampNeg (ib.toInt - ia.toInt).toNat 1)) ∧ Fr n0 L ∧ h = h0
set_option maxRecDepth 65536 in
set_option maxHeartbeats 40000000 in
theorem rm5 (l : Launch) (Z : State) (a0 : Array Value) (hw : ∀ d ∈ tables_1, d.before a0 Z = true) (ws : List Jvm.Cond) (ar : Addr) (ia : Int32) (ib : Int32) (fB : Nat → Int32) (h0 : Heap) (n0 : Nat) (Z0 : n0 ≤ h0.size) (VB : BA Z h0 ar 4 fB) (h1 : 0 ≤ ia.toInt) (h2 : ia.toInt ≤ ib.toInt) (h3 : ib.toInt ≤ 4) :
    MetFree l (⟨"com/example/rookery/rookery/formats/FileText", "column", "([BII)I"⟩ : MethodName) (head1 (Jvm.Cond.code (⟨"com/example/rookery/rookery/formats/FileText", "column", "([BII)I"⟩ : MethodName) prog_29_method_15_code 5 (some .int) :: ws) ({ frames := 0, cells := 0, slots := 0, locals := 0 } : Room)) (fun a U => a = #[(.ref ar), (.int ia), (.int ib)] ∧ Z.Warmed39 U.vm ∧ U.heap = h0) (fun _ _ _ _ _ => True) (fun _ U o U' => ∃ v L, o = .returned v ∧ Q5 Z ar ia ib fB h0 n0 v U'.heap L ∧ FrameEnd U o U' L ({ frames := 0, cells := 0, slots := 0, locals := 0 } : Room).cells ({ frames := 0, cells := 0, slots := 0, locals := 0 } : Room).slots) := by
  refine MetFree.of_bodySF (plainFor_of_name pn_1) hisR ?_
  intro p e s m args below meth c s₁ Bd hml0 hP hK
  obtain ⟨rfl, hZ, hh⟩ := hP
  have hx := Bd.exec
  have hby := Bd.bytes
  have hml : c.maxLocals = 5 := hml0
  have hown : s.vm.findClass "com/example/rookery/rookery/formats/FileText" = some m.cls := findClass_of_methodNamed Bd.named
  have hnm := (name_of_methodNamed Bd.named Bd.method).1
  have X0 : Stand p l e ({ frames := 0, cells := 0, slots := 0, locals := 0 } : Room) s m #[(.ref ar), (.int ia), (.int ib)] below meth c s₁ [] 0 0 := Stand.of_body Bd
  have e0 : s₁.heap = h0 := by rw [← hh, Bd.state]; rfl
  have N0 := Fr.nil n0
  have hlk : meth.locks = false := BodyLoose.notSynchronized Bd
  suffices hwk : Wk p.tables e below (s₁.setTop (mkF m 0 #[rv ar, iv ia, iv ib, .unset, .unset] [])) (fun U o => U.status = .running ∧ Ended U below o ∧ ∃ v L, o = .returned v ∧ Q5 Z ar ia ib fB h0 n0 v U.heap L ∧ FrameEnd s o U L 0 0) by
    obtain ⟨U, o, k1, k2⟩ := hwk
    exact ⟨U, o, castTop (ef_5 m ar ia ib) k1, k2⟩
  refine Wk.go (A' := s₁.setTop (mkF m 1 #[rv ar, iv ia, iv ib, .unset, .unset] [(.int (1 : Int32))])) (fun t k => XS.iconst X0.here hx rfl (hb hby d5_0) k) ?_
  refine Wk.go (A' := s₁.setTop (mkF m 2 #[rv ar, iv ia, iv ib, iv (1 : Int32), .unset] [])) (fun t k => XS.istoreN X0.here hx rfl (hb hby d5_1) rfl (l' := #[rv ar, iv ia, iv ib, iv (1 : Int32), .unset]) rfl k) ?_
  refine Wk.go (A' := s₁.setTop (mkF m 3 #[rv ar, iv ia, iv ib, iv (1 : Int32), .unset] [(.int ia)])) (fun t k => XS.iloadN X0.here hx rfl (hb hby d5_2) rfl k) ?_
  refine Wk.go (A' := s₁.setTop (mkF m 5 #[rv ar, iv ia, iv ib, iv (1 : Int32), iv ia] [])) (fun t k => XS.istore X0.here hx rfl (hb hby d5_3) rfl (l' := #[rv ar, iv ia, iv ib, iv (1 : Int32), iv ia]) rfl k) ?_
  have loop5 : ∀ (k : Nat) (acc : Int32) (i : Int32), (i.toInt + (k : Int) = ib.toInt ∧ 0 ≤ i.toInt ∧ own_col fB i.toNatClampNeg k acc = own_col fB ia.toNatClampNeg (ib.toInt - ia.toInt).toNat 1) → Wk p.tables e below (s₁.setTop (mkF m 5 #[rv ar, iv ia, iv ib, iv acc, iv i] [])) (fun U o => U.status = .running ∧ Ended U below o ∧ ∃ v L, o = .returned v ∧ Q5 Z ar ia ib fB h0 n0 v U.heap L ∧ FrameEnd s o U L 0 0) := by
    intro k
    induction k with
    | zero =>
      intro acc i hinv
      refine Wk.go (A' := s₁.setTop (mkF m 7 #[rv ar, iv ia, iv ib, iv acc, iv i] [(.int i)])) (fun t k => XS.iload X0.here hx rfl (hb hby d5_5) rfl k) ?_
      refine Wk.go (A' := s₁.setTop (mkF m 8 #[rv ar, iv ia, iv ib, iv acc, iv i] [(.int ib), (.int i)])) (fun t k => XS.iloadN X0.here hx rfl (hb hby d5_7) rfl k) ?_
      have hc8 : ¬ (i < ib) := by rw [Int32.lt_iff_toInt_lt]; have := hinv.1; omega
      refine Wk.go (A' := s₁.setTop (mkF m 39 #[rv ar, iv ia, iv ib, iv acc, iv i] [])) (fun t k => XS.icmpYes X0.here hx rfl (pc0 := 8) (pc' := 39) rfl (hb hby d5_8) rfl (flt hc8).2.1 (by decide) (by decide) k) ?_
      refine Wk.go (A' := s₁.setTop (mkF m 40 #[rv ar, iv ia, iv ib, iv acc, iv i] [(.int acc)])) (fun t k => XS.iloadN X0.here hx rfl (hb hby d5_39) rfl k) ?_
      refine own_fin (Qv := Q5 Z ar ia ib fB h0 n0) (v := some (.int acc)) X0 hlk (fun h => by rw [Bd.returns] at h; cases h) (fun fs hr => retI X0 hx Bd.returns (hb hby d5_40) hr) ?_ (by decide) (by decide)
      refine ⟨?_, N0, e0⟩
      rw [← hinv.2.2]; rfl
    | succ k ih =>
      intro acc i hinv
      refine Wk.go (A' := s₁.setTop (mkF m 7 #[rv ar, iv ia, iv ib, iv acc, iv i] [(.int i)])) (fun t k => XS.iload X0.here hx rfl (hb hby d5_5) rfl k) ?_
      refine Wk.go (A' := s₁.setTop (mkF m 8 #[rv ar, iv ia, iv ib, iv acc, iv i] [(.int ib), (.int i)])) (fun t k => XS.iloadN X0.here hx rfl (hb hby d5_7) rfl k) ?_
      have hc8 : i < ib := by rw [Int32.lt_iff_toInt_lt]; have := hinv.1; omega
      refine Wk.go (A' := s₁.setTop (mkF m 11 #[rv ar, iv ia, iv ib, iv acc, iv i] [])) (fun t k => XS.icmpNo X0.here hx rfl (hb hby d5_8) rfl (tlt hc8).2.1 k) ?_
      refine Wk.go (A' := s₁.setTop (mkF m 12 #[rv ar, iv ia, iv ib, iv acc, iv i] [(.int acc)])) (fun t k => XS.iloadN X0.here hx rfl (hb hby d5_11) rfl k) ?_
      refine Wk.go (A' := s₁.setTop (mkF m 13 #[rv ar, iv ia, iv ib, iv acc, iv i] [(.ref ar), (.int acc)])) (fun t k => XS.aloadN X0.here hx rfl (hb hby d5_12) rfl rfl k) ?_
      refine Wk.go (A' := s₁.setTop (mkF m 15 #[rv ar, iv ia, iv ib, iv acc, iv i] [(.int i), (.ref ar), (.int acc)])) (fun t k => XS.iload X0.here hx rfl (hb hby d5_13) rfl k) ?_
      refine Wk.go (A' := s₁.setTop (mkF m 16 #[rv ar, iv ia, iv ib, iv acc, iv i] [(.int (fB (i).toNatClampNeg)), (.int acc)])) (fun t k => own_ldB X0 hx hZ e0 VB (j := i) ⟨hinv.2.1, by have := hinv.1; omega⟩ (g := (mkF m 15 #[rv ar, iv ia, iv ib, iv acc, iv i] [(.int i), (.ref ar), (.int acc)])) rfl rfl (hb hby d5_15) t k) ?_
      refine Wk.go (A' := s₁.setTop (mkF m 19 #[rv ar, iv ia, iv ib, iv acc, iv i] [(.int (192 : Int32)), (.int (fB (i).toNatClampNeg)), (.int acc)])) (fun t k => XS.sipush X0.here hx rfl (hb hby d5_16) k) ?_
      refine Wk.go (A' := s₁.setTop (mkF m 20 #[rv ar, iv ia, iv ib, iv acc, iv i] [(.int ((fB (i).toNatClampNeg) &&& (192 : Int32))), (.int acc)])) (fun t k => XS.iand X0.here hx rfl (hb hby d5_19) rfl k) ?_
      refine Wk.go (A' := s₁.setTop (mkF m 23 #[rv ar, iv ia, iv ib, iv acc, iv i] [(.int (128 : Int32)), (.int ((fB (i).toNatClampNeg) &&& (192 : Int32))), (.int acc)])) (fun t k => XS.sipush X0.here hx rfl (hb hby d5_20) k) ?_
      by_cases hc23 : ((fB (i).toNatClampNeg) &&& (192 : Int32)) = (128 : Int32)
      · refine Wk.go (A' := s₁.setTop (mkF m 26 #[rv ar, iv ia, iv ib, iv acc, iv i] [(.int acc)])) (fun t k => XS.icmpNo X0.here hx rfl (hb hby d5_23) rfl (teq hc23).2 k) ?_
        refine Wk.go (A' := s₁.setTop (mkF m 27 #[rv ar, iv ia, iv ib, iv acc, iv i] [(.int (0 : Int32)), (.int acc)])) (fun t k => XS.iconst X0.here hx rfl (hb hby d5_26) k) ?_
        refine Wk.go (A' := s₁.setTop (mkF m 31 #[rv ar, iv ia, iv ib, iv acc, iv i] [(.int (0 : Int32)), (.int acc)])) (fun t k => XS.goto X0.here hx rfl (pc0 := 27) (pc' := 31) rfl (hb hby d5_27) (by decide) (by decide) k) ?_
        refine Wk.go (A' := s₁.setTop (mkF m 32 #[rv ar, iv ia, iv ib, iv acc, iv i] [(.int (acc + (0 : Int32)))])) (fun t k => XS.iadd X0.here hx rfl (hb hby d5_31) rfl k) ?_
        refine Wk.go (A' := s₁.setTop (mkF m 33 #[rv ar, iv ia, iv ib, iv (acc + (0 : Int32)), iv i] [])) (fun t k => XS.istoreN X0.here hx rfl (hb hby d5_32) rfl (l' := #[rv ar, iv ia, iv ib, iv (acc + (0 : Int32)), iv i]) rfl k) ?_
        refine Wk.go (A' := s₁.setTop (mkF m 36 #[rv ar, iv ia, iv ib, iv (acc + (0 : Int32)), iv (i + (1 : Int32))] [])) (fun t k => XS.iinc X0.here hx rfl (hb hby d5_33) rfl (l' := #[rv ar, iv ia, iv ib, iv (acc + (0 : Int32)), iv (i + (1 : Int32))]) rfl k) ?_
        refine Wk.go (A' := s₁.setTop (mkF m 5 #[rv ar, iv ia, iv ib, iv (acc + (0 : Int32)), iv (i + (1 : Int32))] [])) (fun t k => XS.goto X0.here hx rfl (pc0 := 36) (pc' := 5) rfl (hb hby d5_36) (by decide) (by decide) k) ?_
        exact ih (acc + (0 : Int32)) (i + (1 : Int32))  (own_turn hinv.1 hinv.2.1 hinv.2.2 (if_pos hc23))
      · refine Wk.go (A' := s₁.setTop (mkF m 30 #[rv ar, iv ia, iv ib, iv acc, iv i] [(.int acc)])) (fun t k => XS.icmpYes X0.here hx rfl (pc0 := 23) (pc' := 30) rfl (hb hby d5_23) rfl (feq hc23).2 (by decide) (by decide) k) ?_
        refine Wk.go (A' := s₁.setTop (mkF m 31 #[rv ar, iv ia, iv ib, iv acc, iv i] [(.int (1 : Int32)), (.int acc)])) (fun t k => XS.iconst X0.here hx rfl (hb hby d5_30) k) ?_
        refine Wk.go (A' := s₁.setTop (mkF m 32 #[rv ar, iv ia, iv ib, iv acc, iv i] [(.int (acc + (1 : Int32)))])) (fun t k => XS.iadd X0.here hx rfl (hb hby d5_31) rfl k) ?_
        refine Wk.go (A' := s₁.setTop (mkF m 33 #[rv ar, iv ia, iv ib, iv (acc + (1 : Int32)), iv i] [])) (fun t k => XS.istoreN X0.here hx rfl (hb hby d5_32) rfl (l' := #[rv ar, iv ia, iv ib, iv (acc + (1 : Int32)), iv i]) rfl k) ?_
        refine Wk.go (A' := s₁.setTop (mkF m 36 #[rv ar, iv ia, iv ib, iv (acc + (1 : Int32)), iv (i + (1 : Int32))] [])) (fun t k => XS.iinc X0.here hx rfl (hb hby d5_33) rfl (l' := #[rv ar, iv ia, iv ib, iv (acc + (1 : Int32)), iv (i + (1 : Int32))]) rfl k) ?_
        refine Wk.go (A' := s₁.setTop (mkF m 5 #[rv ar, iv ia, iv ib, iv (acc + (1 : Int32)), iv (i + (1 : Int32))] [])) (fun t k => XS.goto X0.here hx rfl (pc0 := 36) (pc' := 5) rfl (hb hby d5_36) (by decide) (by decide) k) ?_
        exact ih (acc + (1 : Int32)) (i + (1 : Int32))  (own_turn hinv.1 hinv.2.1 hinv.2.2 (if_neg hc23))
  exact loop5 (ib.toInt - ia.toInt).toNat (1 : Int32) ia  (⟨by omega, h1, rfl⟩)
def f_column (ar : Addr) (ia ib : Int32) (fB : Nat → Int32) : Int32 := own_col fB ia.toNatClampNeg (ib.toInt - ia.toInt).toNat 1
theorem own_5 (q : Int32) : 0 ≤ ((q &&& (2147483647 : Int32)) % (5 : Int32)).toInt ∧ ((q &&& (2147483647 : Int32)) % (5 : Int32)).toInt ≤ 4 := by
  have h1 := c_mask q 2147483647 31 (by decide) (by decide)
  have h2 := (c_irem (q &&& (2147483647 : Int32)) 5 5 (by decide)).1 (by omega)
  omega
theorem own_mm (a b : Int32) (ha : 0 ≤ a.toInt ∧ a.toInt ≤ 4) (hb : 0 ≤ b.toInt ∧ b.toInt ≤ 4) : 0 ≤ (f_min a b).toInt ∧ (f_min a b).toInt ≤ (f_max a b).toInt ∧ (f_max a b).toInt ≤ 4 := by
  unfold f_min f_max
  simp only [Int32.lt_iff_toInt_lt]
  repeat' split
  all_goals omega
theorem own_cont (y : Int32) : f_cont y = if (y &&& (192 : Int32)) = (128 : Int32) then 1 else 0 := by
  have h1 := c_mask y 255 8 (by decide) (by decide)
  have e : y &&& (192 : Int32) = (y &&& (255 : Int32)) &&& (192 : Int32) := by rw [Int32.and_assoc]; rfl
  unfold f_cont
  rw [e]
  generalize y &&& (255 : Int32) = z at *
  have hz : z = Int32.ofNat z.toInt.toNat := by
    apply Int32.toInt_inj.mp
    rw [Int32.toInt_ofNat_small (by omega)]; omega
  have hn : z.toInt.toNat < 256 := by omega
  rw [hz]
  generalize z.toInt.toNat = n at *
  have : ∀ i : Fin 256, (if Int32.ofNat i.1 < (128 : Int32) then (0 : Int32) else (if Int32.ofNat i.1 < (192 : Int32) then (1 : Int32) else (0 : Int32))) = if (Int32.ofNat i.1 &&& (192 : Int32)) = (128 : Int32) then 1 else 0 := by decide +kernel
  exact this ⟨n, hn⟩
theorem own_lit {z : Int32} {n : Nat} (hn : n < 5) (h : z.toInt = n) : z = Int32.ofNat n := Int32.toInt_inj.mp (by rw [Int32.toInt_ofNat_small (by omega)]; exact h)
theorem own_law (ar : Addr) (ia ib : Int32) (f : Nat → Int32) (h0 : 0 ≤ ia.toInt) (h1 : ia.toInt ≤ ib.toInt) (h2 : ib.toInt ≤ 4) :
    f_column ar ia ib f = (((((1 : Int32) + f_cnt (f 0) (0 : Int32) ia ib) + f_cnt (f 1) (1 : Int32) ia ib) + f_cnt (f 2) (2 : Int32) ia ib) + f_cnt (f 3) (3 : Int32) ia ib) := by
  obtain ⟨a, ha⟩ : ∃ a : Nat, ia.toInt = a := ⟨ia.toInt.toNat, by omega⟩
  obtain ⟨b, hb⟩ : ∃ b : Nat, ib.toInt = b := ⟨ib.toInt.toNat, by omega⟩
  have ea := own_lit (show a < 5 by omega) ha
  have eb := own_lit (show b < 5 by omega) hb
  have ca := own_clamp h0
  have ca' : ia.toNatClampNeg = a := by omega
  have cb : (ib.toInt - ia.toInt).toNat = b - a := by omega
  unfold f_column
  rw [ca', cb, ea, eb]
  simp only [f_cnt, own_cont]
  have hab : a ≤ b := by omega
  have hb4 : b ≤ 4 := by omega
  clear ea eb ca ca' cb ha hb h0 h1 h2
  match a, b, hab, hb4 with
  | 0, 0, _, _ => simp [own_col]
  | 0, 1, _, _ => simp [own_col] <;> (repeat' split) <;> simp_all
  | 0, 2, _, _ => simp [own_col] <;> (repeat' split) <;> simp_all
  | 0, 3, _, _ => simp [own_col] <;> (repeat' split) <;> simp_all
  | 0, 4, _, _ => simp [own_col] <;> (repeat' split) <;> simp_all
  | 1, 1, _, _ => simp [own_col]
  | 1, 2, _, _ => simp [own_col] <;> (repeat' split) <;> simp_all
  | 1, 3, _, _ => simp [own_col] <;> (repeat' split) <;> simp_all
  | 1, 4, _, _ => simp [own_col] <;> (repeat' split) <;> simp_all
  | 2, 2, _, _ => simp [own_col]
  | 2, 3, _, _ => simp [own_col] <;> (repeat' split) <;> simp_all
  | 2, 4, _, _ => simp [own_col] <;> (repeat' split) <;> simp_all
  | 3, 3, _, _ => simp [own_col]
  | 3, 4, _, _ => simp [own_col] <;> (repeat' split) <;> simp_all
  | 4, 4, _, _ => simp [own_col]
  | a + 5, b, hab, hb4 => exact absurd (Nat.le_trans hab hb4) (by omega)
theorem tw0 {Z : State} {a0 : Array Value} (hw : ∀ d ∈ tables_1, d.before a0 Z = true) : (Jvm.Cond.arrayClass Jvm.ClassFile.FieldType.byte).before a0 Z = true := hw _ (List.mem_of_getElem? (i := 0) rfl)
theorem tw1 {Z : State} {a0 : Array Value} (hw : ∀ d ∈ tables_1, d.before a0 Z = true) : (Jvm.Cond.constant "com/example/rookery/rookery/formats/FileTextColumnPinLaw" (13 : Nat) (2147483647 : Int32)).before a0 Z = true := hw _ (List.mem_of_getElem? (i := 1) rfl)
theorem tw2 {Z : State} {a0 : Array Value} (hw : ∀ d ∈ tables_1, d.before a0 Z = true) : (Jvm.Cond.methodLink "com/example/rookery/rookery/formats/FileTextColumnPinLaw" (14 : Nat) ({ cls := "java/lang/Math", name := "min", desc := "(II)I" } : Jvm.MethodName)).before a0 Z = true := hw _ (List.mem_of_getElem? (i := 2) rfl)
theorem tw5 {Z : State} {a0 : Array Value} (hw : ∀ d ∈ tables_1, d.before a0 Z = true) : (Jvm.Cond.code ({ cls := "java/lang/Math", name := "min", desc := "(II)I" } : Jvm.MethodName) jdk_29_method_69_code (2 : Nat) (Option.some Jvm.ClassFile.FieldType.int)).before a0 Z = true := hw _ (List.mem_of_getElem? (i := 5) rfl)
theorem tw4 {Z : State} {a0 : Array Value} (hw : ∀ d ∈ tables_1, d.before a0 Z = true) : (Jvm.Cond.initialized "java/lang/Math").before a0 Z = true := hw _ (List.mem_of_getElem? (i := 4) rfl)
theorem pd_1 : parseMethodDescriptor "(II)I" = some ⟨[.int, .int], some .int⟩ := by decide +kernel
theorem tw3 {Z : State} {a0 : Array Value} (hw : ∀ d ∈ tables_1, d.before a0 Z = true) : (Jvm.Cond.static ({ cls := "java/lang/Math", name := "min", desc := "(II)I" } : Jvm.MethodName)).before a0 Z = true := hw _ (List.mem_of_getElem? (i := 3) rfl)
theorem tw6 {Z : State} {a0 : Array Value} (hw : ∀ d ∈ tables_1, d.before a0 Z = true) : (Jvm.Cond.methodLink "com/example/rookery/rookery/formats/FileTextColumnPinLaw" (20 : Nat) ({ cls := "java/lang/Math", name := "max", desc := "(II)I" } : Jvm.MethodName)).before a0 Z = true := hw _ (List.mem_of_getElem? (i := 6) rfl)
theorem tw8 {Z : State} {a0 : Array Value} (hw : ∀ d ∈ tables_1, d.before a0 Z = true) : (Jvm.Cond.code ({ cls := "java/lang/Math", name := "max", desc := "(II)I" } : Jvm.MethodName) jdk_29_method_65_code (2 : Nat) (Option.some Jvm.ClassFile.FieldType.int)).before a0 Z = true := hw _ (List.mem_of_getElem? (i := 8) rfl)
theorem tw7 {Z : State} {a0 : Array Value} (hw : ∀ d ∈ tables_1, d.before a0 Z = true) : (Jvm.Cond.static ({ cls := "java/lang/Math", name := "max", desc := "(II)I" } : Jvm.MethodName)).before a0 Z = true := hw _ (List.mem_of_getElem? (i := 7) rfl)
theorem tw9 {Z : State} {a0 : Array Value} (hw : ∀ d ∈ tables_1, d.before a0 Z = true) : (Jvm.Cond.methodLink "com/example/rookery/rookery/formats/FileTextColumnPinLaw" (23 : Nat) ({ cls := "com/example/rookery/rookery/formats/FileTextColumnPinLaw", name := "counts", desc := "(BIII)I" } : Jvm.MethodName)).before a0 Z = true := hw _ (List.mem_of_getElem? (i := 9) rfl)
theorem tw12 {Z : State} {a0 : Array Value} (hw : ∀ d ∈ tables_1, d.before a0 Z = true) : (Jvm.Cond.code ({ cls := "com/example/rookery/rookery/formats/FileTextColumnPinLaw", name := "counts", desc := "(BIII)I" } : Jvm.MethodName) method_3_code (4 : Nat) (Option.some Jvm.ClassFile.FieldType.int)).before a0 Z = true := hw _ (List.mem_of_getElem? (i := 12) rfl)
theorem pd_2 : parseMethodDescriptor "(BIII)I" = some ⟨[.byte, .int, .int, .int], some .int⟩ := by decide +kernel
theorem tw10 {Z : State} {a0 : Array Value} (hw : ∀ d ∈ tables_1, d.before a0 Z = true) : (Jvm.Cond.static ({ cls := "com/example/rookery/rookery/formats/FileTextColumnPinLaw", name := "counts", desc := "(BIII)I" } : Jvm.MethodName)).before a0 Z = true := hw _ (List.mem_of_getElem? (i := 10) rfl)
theorem tw16 {Z : State} {a0 : Array Value} (hw : ∀ d ∈ tables_1, d.before a0 Z = true) : (Jvm.Cond.methodLink "com/example/rookery/rookery/formats/FileTextColumnPinLaw" (27 : Nat) ({ cls := "com/example/rookery/rookery/formats/FileText", name := "column", desc := "([BII)I" } : Jvm.MethodName)).before a0 Z = true := hw _ (List.mem_of_getElem? (i := 16) rfl)
theorem tw19 {Z : State} {a0 : Array Value} (hw : ∀ d ∈ tables_1, d.before a0 Z = true) : (Jvm.Cond.code ({ cls := "com/example/rookery/rookery/formats/FileText", name := "column", desc := "([BII)I" } : Jvm.MethodName) prog_29_method_15_code (5 : Nat) (Option.some Jvm.ClassFile.FieldType.int)).before a0 Z = true := hw _ (List.mem_of_getElem? (i := 19) rfl)
theorem tw18 {Z : State} {a0 : Array Value} (hw : ∀ d ∈ tables_1, d.before a0 Z = true) : (Jvm.Cond.initialized "com/example/rookery/rookery/formats/FileText").before a0 Z = true := hw _ (List.mem_of_getElem? (i := 18) rfl)
theorem pd_3 : parseMethodDescriptor "([BII)I" = some ⟨[(.array .byte), .int, .int], some .int⟩ := by decide +kernel
theorem tw17 {Z : State} {a0 : Array Value} (hw : ∀ d ∈ tables_1, d.before a0 Z = true) : (Jvm.Cond.static ({ cls := "com/example/rookery/rookery/formats/FileText", name := "column", desc := "([BII)I" } : Jvm.MethodName)).before a0 Z = true := hw _ (List.mem_of_getElem? (i := 17) rfl)
theorem ef_0 (m : MethodId) (x0 : Int32) (x1 : Int32) (x2 : Int32) (x3 : Int32) (x4 : Int32) (x5 : Int32) : entryFrame m #[(.int x0), (.int x1), (.int x2), (.int x3), (.int x4), (.int x5)] maxLocals = mkF m 0 #[iv x0, iv x1, iv x2, iv x3, iv x4, iv x5, .unset, .unset, .unset, .unset, .unset, .unset] [] := by first | (simp [entryFrame, mkF, argsToLocals, Value.category, maxLocals]; done) | rfl
def Q0 (Z : State) (pa : Int32) (pb : Int32) (pc : Int32) (pd : Int32) (xx : Int32) (yy : Int32)  (h0 : Heap) (n0 : Nat) (v : Option Value) (h : Heap) (L : List Loc) : Prop := v = some (.int 1) ∧ Fr n0 L
set_option maxRecDepth 65536 in
set_option maxHeartbeats 40000000 in
theorem rm0 (l : Launch) (Z : State) (a0 : Array Value) (hw : ∀ d ∈ tables_1, d.before a0 Z = true) (ws : List Jvm.Cond) (pa : Int32) (pb : Int32) (pc : Int32) (pd : Int32) (xx : Int32) (yy : Int32)  (h0 : Heap) (n0 : Nat) (Z0 : n0 ≤ h0.size)  :
    MetFree l x (head1 (Jvm.Cond.code x code maxLocals ret :: ws) room_1) (fun a U => a = #[(.int pa), (.int pb), (.int pc), (.int pd), (.int xx), (.int yy)] ∧ Z.Warmed39 U.vm ∧ U.heap = h0) (fun _ _ _ _ _ => True) (fun _ U o U' => ∃ v L, o = .returned v ∧ Q0 Z pa pb pc pd xx yy h0 n0 v U'.heap L ∧ FrameEnd U o U' L 1 4) := by
  refine MetFree.of_bodySF (plainFor_of_name pn_0) hisR ?_
  intro p e s m args below meth c s₁ Bd hml0 hP hK
  obtain ⟨rfl, hZ, hh⟩ := hP
  have hx := Bd.exec
  have hby := Bd.bytes
  have hml : c.maxLocals = 12 := hml0
  have hown : s.vm.findClass "com/example/rookery/rookery/formats/FileTextColumnPinLaw" = some m.cls := findClass_of_methodNamed Bd.named
  have hnm := (name_of_methodNamed Bd.named Bd.method).1
  have X0 : Stand p l e room_1 s m #[(.int pa), (.int pb), (.int pc), (.int pd), (.int xx), (.int yy)] below meth c s₁ [] 0 0 := Stand.of_body Bd
  have e0 : s₁.heap = h0 := by rw [← hh, Bd.state]; rfl
  have N0 := Fr.nil n0
  have hlk : meth.locks = false := BodyLoose.notSynchronized Bd
  suffices hwk : Wk p.tables e below (s₁.setTop (mkF m 0 #[iv pa, iv pb, iv pc, iv pd, iv xx, iv yy, .unset, .unset, .unset, .unset, .unset, .unset] [])) (fun U o => U.status = .running ∧ Ended U below o ∧ ∃ v L, o = .returned v ∧ Q0 Z pa pb pc pd xx yy h0 n0 v U.heap L ∧ FrameEnd s o U L 1 4) by
    obtain ⟨U, o, k1, k2⟩ := hwk
    exact ⟨U, o, castTop (ef_0 m pa pb pc pd xx yy) k1, k2⟩
  refine Wk.go (A' := s₁.setTop (mkF m 1 #[iv pa, iv pb, iv pc, iv pd, iv xx, iv yy, .unset, .unset, .unset, .unset, .unset, .unset] [(.int (4 : Int32))])) (fun t k => XS.iconst X0.here hx rfl (hb hby at_0) k) ?_
  obtain ⟨T1, h1, k1, X1, e1, E1, A1, st1⟩ := newP (aty := .byte) X0 hx hZ (tw0 hw) e0 (g := (mkF m 1 #[iv pa, iv pb, iv pc, iv pd, iv xx, iv yy, .unset, .unset, .unset, .unset, .unset, .unset] [(.int (4 : Int32))])) rfl (hb hby at_1) rfl (by decide) (cap := 4) (by decide) (by decide) (by decide) (by decide)
  obtain ⟨b1, g1⟩ : ∃ z, z = h0.size := ⟨_, rfl⟩
  rw [← g1] at A1 st1
  have g_b1 : n0 ≤ b1 := Nat.le_trans Z0 (Nat.le_of_eq g1.symm)
  have V1 : BA Z h1 b1 4 (fun _ => 0) := BA.new A1
  have Zp1 : n0 ≤ h1.size := Nat.le_trans Z0 E1.1
  refine Wk.go (A' := T1.setTop (mkF m 3 #[iv pa, iv pb, iv pc, iv pd, iv xx, iv yy, .unset, .unset, .unset, .unset, .unset, .unset] [(.ref b1)])) (fun t k => st1 t k) ?_
  refine Wk.go (A' := T1.setTop (mkF m 5 #[iv pa, iv pb, iv pc, iv pd, iv xx, iv yy, rv b1, .unset, .unset, .unset, .unset, .unset] [])) (fun t k => XS.astore X1.here hx rfl (hb hby at_3) rfl rfl (l' := #[iv pa, iv pb, iv pc, iv pd, iv xx, iv yy, rv b1, .unset, .unset, .unset, .unset, .unset]) rfl k) ?_
  refine Wk.go (A' := T1.setTop (mkF m 7 #[iv pa, iv pb, iv pc, iv pd, iv xx, iv yy, rv b1, .unset, .unset, .unset, .unset, .unset] [(.ref b1)])) (fun t k => XS.aload X1.here hx rfl (hb hby at_5) rfl rfl k) ?_
  refine Wk.go (A' := T1.setTop (mkF m 8 #[iv pa, iv pb, iv pc, iv pd, iv xx, iv yy, rv b1, .unset, .unset, .unset, .unset, .unset] [(.int (0 : Int32)), (.ref b1)])) (fun t k => XS.iconst X1.here hx rfl (hb hby at_7) k) ?_
  refine Wk.go (A' := T1.setTop (mkF m 9 #[iv pa, iv pb, iv pc, iv pd, iv xx, iv yy, rv b1, .unset, .unset, .unset, .unset, .unset] [(.int pa), (.int (0 : Int32)), (.ref b1)])) (fun t k => XS.iloadN X1.here hx rfl (hb hby at_8) rfl k) ?_
  refine Wk.go (A' := T1.setTop (mkF m 10 #[iv pa, iv pb, iv pc, iv pd, iv xx, iv yy, rv b1, .unset, .unset, .unset, .unset, .unset] [(.int (pa.toInt8.toInt32)), (.int (0 : Int32)), (.ref b1)])) (fun t k => XS.i2b X1.here hx rfl (hb hby at_9) rfl k) ?_
  obtain ⟨T2, h2, X2, e2, W2, B2, st2⟩ := own_stB X1 hx hZ e1 V1 (j := (0 : Int32)) (by decide) (g := (mkF m 10 #[iv pa, iv pb, iv pc, iv pd, iv xx, iv yy, rv b1, .unset, .unset, .unset, .unset, .unset] [(.int (pa.toInt8.toInt32)), (.int (0 : Int32)), (.ref b1)])) rfl rfl (hb hby at_10)
  have V2 : BA Z h2 b1 4 (own_upd (fun _ => 0) 0 ((pa.toInt8.toInt32)).toInt8.toInt32) := B2
  obtain ⟨f1, hf1⟩ : ∃ z, z = (own_upd (fun _ => 0) 0 ((pa.toInt8.toInt32)).toInt8.toInt32) := ⟨_, rfl⟩
  rw [← hf1] at V2
  have f3 := V2
  have Zp2 : n0 ≤ h2.size := Nat.le_trans Zp1 (Nat.le_of_eq W2.size.symm)
  have N2 := Fr.snoc X2 N0 g_b1
  refine Wk.go (A' := T2.setTop (mkF m 11 #[iv pa, iv pb, iv pc, iv pd, iv xx, iv yy, rv b1, .unset, .unset, .unset, .unset, .unset] [])) (fun t k => st2 t k) ?_
  refine Wk.go (A' := T2.setTop (mkF m 13 #[iv pa, iv pb, iv pc, iv pd, iv xx, iv yy, rv b1, .unset, .unset, .unset, .unset, .unset] [(.ref b1)])) (fun t k => XS.aload X2.here hx rfl (hb hby at_11) rfl rfl k) ?_
  refine Wk.go (A' := T2.setTop (mkF m 14 #[iv pa, iv pb, iv pc, iv pd, iv xx, iv yy, rv b1, .unset, .unset, .unset, .unset, .unset] [(.int (1 : Int32)), (.ref b1)])) (fun t k => XS.iconst X2.here hx rfl (hb hby at_13) k) ?_
  refine Wk.go (A' := T2.setTop (mkF m 15 #[iv pa, iv pb, iv pc, iv pd, iv xx, iv yy, rv b1, .unset, .unset, .unset, .unset, .unset] [(.int pb), (.int (1 : Int32)), (.ref b1)])) (fun t k => XS.iloadN X2.here hx rfl (hb hby at_14) rfl k) ?_
  refine Wk.go (A' := T2.setTop (mkF m 16 #[iv pa, iv pb, iv pc, iv pd, iv xx, iv yy, rv b1, .unset, .unset, .unset, .unset, .unset] [(.int (pb.toInt8.toInt32)), (.int (1 : Int32)), (.ref b1)])) (fun t k => XS.i2b X2.here hx rfl (hb hby at_15) rfl k) ?_
  obtain ⟨T4, h4, X4, e4, W4, B4, st4⟩ := own_stB X2 hx hZ e2 f3 (j := (1 : Int32)) (by decide) (g := (mkF m 16 #[iv pa, iv pb, iv pc, iv pd, iv xx, iv yy, rv b1, .unset, .unset, .unset, .unset, .unset] [(.int (pb.toInt8.toInt32)), (.int (1 : Int32)), (.ref b1)])) rfl rfl (hb hby at_16)
  have V4 : BA Z h4 b1 4 (own_upd f1 1 ((pb.toInt8.toInt32)).toInt8.toInt32) := B4
  obtain ⟨f2, hf2⟩ : ∃ z, z = (own_upd f1 1 ((pb.toInt8.toInt32)).toInt8.toInt32) := ⟨_, rfl⟩
  rw [← hf2] at V4
  have f5 := V4
  have Zp4 : n0 ≤ h4.size := Nat.le_trans Zp2 (Nat.le_of_eq W4.size.symm)
  have N4 := Fr.snoc X4 N2 g_b1
  refine Wk.go (A' := T4.setTop (mkF m 17 #[iv pa, iv pb, iv pc, iv pd, iv xx, iv yy, rv b1, .unset, .unset, .unset, .unset, .unset] [])) (fun t k => st4 t k) ?_
  refine Wk.go (A' := T4.setTop (mkF m 19 #[iv pa, iv pb, iv pc, iv pd, iv xx, iv yy, rv b1, .unset, .unset, .unset, .unset, .unset] [(.ref b1)])) (fun t k => XS.aload X4.here hx rfl (hb hby at_17) rfl rfl k) ?_
  refine Wk.go (A' := T4.setTop (mkF m 20 #[iv pa, iv pb, iv pc, iv pd, iv xx, iv yy, rv b1, .unset, .unset, .unset, .unset, .unset] [(.int (2 : Int32)), (.ref b1)])) (fun t k => XS.iconst X4.here hx rfl (hb hby at_19) k) ?_
  refine Wk.go (A' := T4.setTop (mkF m 21 #[iv pa, iv pb, iv pc, iv pd, iv xx, iv yy, rv b1, .unset, .unset, .unset, .unset, .unset] [(.int pc), (.int (2 : Int32)), (.ref b1)])) (fun t k => XS.iloadN X4.here hx rfl (hb hby at_20) rfl k) ?_
  refine Wk.go (A' := T4.setTop (mkF m 22 #[iv pa, iv pb, iv pc, iv pd, iv xx, iv yy, rv b1, .unset, .unset, .unset, .unset, .unset] [(.int (pc.toInt8.toInt32)), (.int (2 : Int32)), (.ref b1)])) (fun t k => XS.i2b X4.here hx rfl (hb hby at_21) rfl k) ?_
  obtain ⟨T6, h6, X6, e6, W6, B6, st6⟩ := own_stB X4 hx hZ e4 f5 (j := (2 : Int32)) (by decide) (g := (mkF m 22 #[iv pa, iv pb, iv pc, iv pd, iv xx, iv yy, rv b1, .unset, .unset, .unset, .unset, .unset] [(.int (pc.toInt8.toInt32)), (.int (2 : Int32)), (.ref b1)])) rfl rfl (hb hby at_22)
  have V6 : BA Z h6 b1 4 (own_upd f2 2 ((pc.toInt8.toInt32)).toInt8.toInt32) := B6
  obtain ⟨f3, hf3⟩ : ∃ z, z = (own_upd f2 2 ((pc.toInt8.toInt32)).toInt8.toInt32) := ⟨_, rfl⟩
  rw [← hf3] at V6
  have f7 := V6
  have Zp6 : n0 ≤ h6.size := Nat.le_trans Zp4 (Nat.le_of_eq W6.size.symm)
  have N6 := Fr.snoc X6 N4 g_b1
  refine Wk.go (A' := T6.setTop (mkF m 23 #[iv pa, iv pb, iv pc, iv pd, iv xx, iv yy, rv b1, .unset, .unset, .unset, .unset, .unset] [])) (fun t k => st6 t k) ?_
  refine Wk.go (A' := T6.setTop (mkF m 25 #[iv pa, iv pb, iv pc, iv pd, iv xx, iv yy, rv b1, .unset, .unset, .unset, .unset, .unset] [(.ref b1)])) (fun t k => XS.aload X6.here hx rfl (hb hby at_23) rfl rfl k) ?_
  refine Wk.go (A' := T6.setTop (mkF m 26 #[iv pa, iv pb, iv pc, iv pd, iv xx, iv yy, rv b1, .unset, .unset, .unset, .unset, .unset] [(.int (3 : Int32)), (.ref b1)])) (fun t k => XS.iconst X6.here hx rfl (hb hby at_25) k) ?_
  refine Wk.go (A' := T6.setTop (mkF m 27 #[iv pa, iv pb, iv pc, iv pd, iv xx, iv yy, rv b1, .unset, .unset, .unset, .unset, .unset] [(.int pd), (.int (3 : Int32)), (.ref b1)])) (fun t k => XS.iloadN X6.here hx rfl (hb hby at_26) rfl k) ?_
  refine Wk.go (A' := T6.setTop (mkF m 28 #[iv pa, iv pb, iv pc, iv pd, iv xx, iv yy, rv b1, .unset, .unset, .unset, .unset, .unset] [(.int (pd.toInt8.toInt32)), (.int (3 : Int32)), (.ref b1)])) (fun t k => XS.i2b X6.here hx rfl (hb hby at_27) rfl k) ?_
  obtain ⟨T8, h8, X8, e8, W8, B8, st8⟩ := own_stB X6 hx hZ e6 f7 (j := (3 : Int32)) (by decide) (g := (mkF m 28 #[iv pa, iv pb, iv pc, iv pd, iv xx, iv yy, rv b1, .unset, .unset, .unset, .unset, .unset] [(.int (pd.toInt8.toInt32)), (.int (3 : Int32)), (.ref b1)])) rfl rfl (hb hby at_28)
  have V8 : BA Z h8 b1 4 (own_upd f3 3 ((pd.toInt8.toInt32)).toInt8.toInt32) := B8
  obtain ⟨fB, hfB⟩ : ∃ z, z = (own_upd f3 3 ((pd.toInt8.toInt32)).toInt8.toInt32) := ⟨_, rfl⟩
  rw [← hfB] at V8
  have f9 := V8
  have Zp8 : n0 ≤ h8.size := Nat.le_trans Zp6 (Nat.le_of_eq W8.size.symm)
  have N8 := Fr.snoc X8 N6 g_b1
  refine Wk.go (A' := T8.setTop (mkF m 29 #[iv pa, iv pb, iv pc, iv pd, iv xx, iv yy, rv b1, .unset, .unset, .unset, .unset, .unset] [])) (fun t k => st8 t k) ?_
  refine Wk.go (A' := T8.setTop (mkF m 31 #[iv pa, iv pb, iv pc, iv pd, iv xx, iv yy, rv b1, .unset, .unset, .unset, .unset, .unset] [(.int xx)])) (fun t k => XS.iload X8.here hx rfl (hb hby at_29) rfl k) ?_
  refine Wk.go (A' := T8.setTop (mkF m 33 #[iv pa, iv pb, iv pc, iv pd, iv xx, iv yy, rv b1, .unset, .unset, .unset, .unset, .unset] [(.int (2147483647 : Int32)), (.int xx)])) (fun t k => X8.ldcInt hx hown (mvT hZ (tw1 hw)) (g := (mkF m 31 #[iv pa, iv pb, iv pc, iv pd, iv xx, iv yy, rv b1, .unset, .unset, .unset, .unset, .unset] [(.int xx)])) rfl (hb hby at_31) t k) ?_
  refine Wk.go (A' := T8.setTop (mkF m 34 #[iv pa, iv pb, iv pc, iv pd, iv xx, iv yy, rv b1, .unset, .unset, .unset, .unset, .unset] [(.int (xx &&& (2147483647 : Int32)))])) (fun t k => XS.iand X8.here hx rfl (hb hby at_33) rfl k) ?_
  refine Wk.go (A' := T8.setTop (mkF m 35 #[iv pa, iv pb, iv pc, iv pd, iv xx, iv yy, rv b1, .unset, .unset, .unset, .unset, .unset] [(.int (5 : Int32)), (.int (xx &&& (2147483647 : Int32)))])) (fun t k => XS.iconst X8.here hx rfl (hb hby at_34) k) ?_
  refine Wk.go (A' := T8.setTop (mkF m 36 #[iv pa, iv pb, iv pc, iv pd, iv xx, iv yy, rv b1, .unset, .unset, .unset, .unset, .unset] [(.int ((xx &&& (2147483647 : Int32)) % (5 : Int32)))])) (fun t k => iremM X8 hx rfl (hb hby at_35) rfl (by decide) k) ?_
  refine Wk.go (A' := T8.setTop (mkF m 38 #[iv pa, iv pb, iv pc, iv pd, iv xx, iv yy, rv b1, iv ((xx &&& (2147483647 : Int32)) % (5 : Int32)), .unset, .unset, .unset, .unset] [])) (fun t k => XS.istore X8.here hx rfl (hb hby at_36) rfl (l' := #[iv pa, iv pb, iv pc, iv pd, iv xx, iv yy, rv b1, iv ((xx &&& (2147483647 : Int32)) % (5 : Int32)), .unset, .unset, .unset, .unset]) rfl k) ?_
  generalize hfx : ((xx &&& (2147483647 : Int32)) % (5 : Int32)) = fx
  refine Wk.go (A' := T8.setTop (mkF m 40 #[iv pa, iv pb, iv pc, iv pd, iv xx, iv yy, rv b1, iv fx, .unset, .unset, .unset, .unset] [(.int yy)])) (fun t k => XS.iload X8.here hx rfl (hb hby at_38) rfl k) ?_
  refine Wk.go (A' := T8.setTop (mkF m 42 #[iv pa, iv pb, iv pc, iv pd, iv xx, iv yy, rv b1, iv fx, .unset, .unset, .unset, .unset] [(.int (2147483647 : Int32)), (.int yy)])) (fun t k => X8.ldcInt hx hown (mvT hZ (tw1 hw)) (g := (mkF m 40 #[iv pa, iv pb, iv pc, iv pd, iv xx, iv yy, rv b1, iv fx, .unset, .unset, .unset, .unset] [(.int yy)])) rfl (hb hby at_40) t k) ?_
  refine Wk.go (A' := T8.setTop (mkF m 43 #[iv pa, iv pb, iv pc, iv pd, iv xx, iv yy, rv b1, iv fx, .unset, .unset, .unset, .unset] [(.int (yy &&& (2147483647 : Int32)))])) (fun t k => XS.iand X8.here hx rfl (hb hby at_42) rfl k) ?_
  refine Wk.go (A' := T8.setTop (mkF m 44 #[iv pa, iv pb, iv pc, iv pd, iv xx, iv yy, rv b1, iv fx, .unset, .unset, .unset, .unset] [(.int (5 : Int32)), (.int (yy &&& (2147483647 : Int32)))])) (fun t k => XS.iconst X8.here hx rfl (hb hby at_43) k) ?_
  refine Wk.go (A' := T8.setTop (mkF m 45 #[iv pa, iv pb, iv pc, iv pd, iv xx, iv yy, rv b1, iv fx, .unset, .unset, .unset, .unset] [(.int ((yy &&& (2147483647 : Int32)) % (5 : Int32)))])) (fun t k => iremM X8 hx rfl (hb hby at_44) rfl (by decide) k) ?_
  refine Wk.go (A' := T8.setTop (mkF m 47 #[iv pa, iv pb, iv pc, iv pd, iv xx, iv yy, rv b1, iv fx, iv ((yy &&& (2147483647 : Int32)) % (5 : Int32)), .unset, .unset, .unset] [])) (fun t k => XS.istore X8.here hx rfl (hb hby at_45) rfl (l' := #[iv pa, iv pb, iv pc, iv pd, iv xx, iv yy, rv b1, iv fx, iv ((yy &&& (2147483647 : Int32)) % (5 : Int32)), .unset, .unset, .unset]) rfl k) ?_
  generalize hax : ((yy &&& (2147483647 : Int32)) % (5 : Int32)) = ax
  refine Wk.go (A' := T8.setTop (mkF m 49 #[iv pa, iv pb, iv pc, iv pd, iv xx, iv yy, rv b1, iv fx, iv ax, .unset, .unset, .unset] [(.int fx)])) (fun t k => XS.iload X8.here hx rfl (hb hby at_47) rfl k) ?_
  refine Wk.go (A' := T8.setTop (mkF m 51 #[iv pa, iv pb, iv pc, iv pd, iv xx, iv yy, rv b1, iv fx, iv ax, .unset, .unset, .unset] [(.int ax), (.int fx)])) (fun t k => XS.iload X8.here hx rfl (hb hby at_49) rfl k) ?_
  obtain ⟨_, _, ⟨T10, L10, k10, n10⟩, -, X10, ⟨Lc10, hQ10, l10, y10, z10⟩, st10⟩ := Jvm.LawKit.callS X8 hx (y := (⟨"java/lang/Math", "min", "(II)I"⟩ : MethodName)) hown (mvT hZ (tw2 hw)) (mvT hZ (tw3 hw)) (mvT hZ (tw4 hw)) (mvT hZ (tw5 hw)) (by decide) (backOf (W := 0) (rm1 l Z a0 hw [] fx ax  h8 n0 Zp8 ) hZ (tw5 hw) (tw4 hw) (by decide) (by decide)) (g := (mkF m 51 #[iv pa, iv pb, iv pc, iv pd, iv xx, iv yy, rv b1, iv fx, iv ax, .unset, .unset, .unset] [(.int ax), (.int fx)])) rfl (by rw [hml]; rfl) (argsL := [(.int fx), (.int ax)]) (rest := []) (lenOf pd_1 rfl) rfl (by show 2 * 0 + _ ≤ _; exact Nat.le_of_eq rfl) (hb hby at_51) (fun _ _ => ⟨rfl, e8, (by decide : 1 + 0 ≤ _), (by decide : 4 + 0 ≤ _)⟩)
  dsimp only [Pt.U, Pt.locs, Pt.cells, Pt.slots] at X10 l10 y10 z10 st10 hQ10
  subst l10 y10 z10
  obtain ⟨rfl, N10q, hE10⟩ := hQ10
  have N10 := Fr.app N8 N10q
  refine Wk.go (A' := T10.setTop (mkF m 54 #[iv pa, iv pb, iv pc, iv pd, iv xx, iv yy, rv b1, iv fx, iv ax, .unset, .unset, .unset] [(.int (f_min fx ax))])) (fun t k => st10 t k) ?_
  refine Wk.go (A' := T10.setTop (mkF m 56 #[iv pa, iv pb, iv pc, iv pd, iv xx, iv yy, rv b1, iv fx, iv ax, iv (f_min fx ax), .unset, .unset] [])) (fun t k => XS.istore X10.here hx rfl (hb hby at_54) rfl (l' := #[iv pa, iv pb, iv pc, iv pd, iv xx, iv yy, rv b1, iv fx, iv ax, iv (f_min fx ax), .unset, .unset]) rfl k) ?_
  generalize hia : (f_min fx ax) = ia
  refine Wk.go (A' := T10.setTop (mkF m 58 #[iv pa, iv pb, iv pc, iv pd, iv xx, iv yy, rv b1, iv fx, iv ax, iv ia, .unset, .unset] [(.int fx)])) (fun t k => XS.iload X10.here hx rfl (hb hby at_56) rfl k) ?_
  refine Wk.go (A' := T10.setTop (mkF m 60 #[iv pa, iv pb, iv pc, iv pd, iv xx, iv yy, rv b1, iv fx, iv ax, iv ia, .unset, .unset] [(.int ax), (.int fx)])) (fun t k => XS.iload X10.here hx rfl (hb hby at_58) rfl k) ?_
  obtain ⟨_, _, ⟨T11, L11, k11, n11⟩, -, X11, ⟨Lc11, hQ11, l11, y11, z11⟩, st11⟩ := Jvm.LawKit.callS X10 hx (y := (⟨"java/lang/Math", "max", "(II)I"⟩ : MethodName)) hown (mvT hZ (tw6 hw)) (mvT hZ (tw7 hw)) (mvT hZ (tw4 hw)) (mvT hZ (tw8 hw)) (by decide) (backOf (W := 0) (rm2 l Z a0 hw [] fx ax  h8 n0 Zp8 ) hZ (tw8 hw) (tw4 hw) (by decide) (by decide)) (g := (mkF m 60 #[iv pa, iv pb, iv pc, iv pd, iv xx, iv yy, rv b1, iv fx, iv ax, iv ia, .unset, .unset] [(.int ax), (.int fx)])) rfl (by rw [hml]; rfl) (argsL := [(.int fx), (.int ax)]) (rest := []) (lenOf pd_1 rfl) rfl (by show 2 * 0 + _ ≤ _; exact Nat.le_of_eq rfl) (hb hby at_60) (fun _ _ => ⟨rfl, (hE10), (by decide : 1 + 0 ≤ _), (by decide : 4 + 0 ≤ _)⟩)
  dsimp only [Pt.U, Pt.locs, Pt.cells, Pt.slots] at X11 l11 y11 z11 st11 hQ11
  subst l11 y11 z11
  obtain ⟨rfl, N11q, hE11⟩ := hQ11
  have N11 := Fr.app N10 N11q
  refine Wk.go (A' := T11.setTop (mkF m 63 #[iv pa, iv pb, iv pc, iv pd, iv xx, iv yy, rv b1, iv fx, iv ax, iv ia, .unset, .unset] [(.int (f_max fx ax))])) (fun t k => st11 t k) ?_
  refine Wk.go (A' := T11.setTop (mkF m 65 #[iv pa, iv pb, iv pc, iv pd, iv xx, iv yy, rv b1, iv fx, iv ax, iv ia, iv (f_max fx ax), .unset] [])) (fun t k => XS.istore X11.here hx rfl (hb hby at_63) rfl (l' := #[iv pa, iv pb, iv pc, iv pd, iv xx, iv yy, rv b1, iv fx, iv ax, iv ia, iv (f_max fx ax), .unset]) rfl k) ?_
  generalize hib : (f_max fx ax) = ib
  obtain ⟨hf0, hft, ht4⟩ : 0 ≤ ia.toInt ∧ ia.toInt ≤ ib.toInt ∧ ib.toInt ≤ 4 := by rw [← hia, ← hib]; exact own_mm _ _ (by rw [← hfx]; exact own_5 xx) (by rw [← hax]; exact own_5 yy)
  refine Wk.go (A' := T11.setTop (mkF m 66 #[iv pa, iv pb, iv pc, iv pd, iv xx, iv yy, rv b1, iv fx, iv ax, iv ia, iv ib, .unset] [(.int (1 : Int32))])) (fun t k => XS.iconst X11.here hx rfl (hb hby at_65) k) ?_
  refine Wk.go (A' := T11.setTop (mkF m 68 #[iv pa, iv pb, iv pc, iv pd, iv xx, iv yy, rv b1, iv fx, iv ax, iv ia, iv ib, .unset] [(.ref b1), (.int (1 : Int32))])) (fun t k => XS.aload X11.here hx rfl (hb hby at_66) rfl rfl k) ?_
  refine Wk.go (A' := T11.setTop (mkF m 69 #[iv pa, iv pb, iv pc, iv pd, iv xx, iv yy, rv b1, iv fx, iv ax, iv ia, iv ib, .unset] [(.int (0 : Int32)), (.ref b1), (.int (1 : Int32))])) (fun t k => XS.iconst X11.here hx rfl (hb hby at_68) k) ?_
  refine Wk.go (A' := T11.setTop (mkF m 70 #[iv pa, iv pb, iv pc, iv pd, iv xx, iv yy, rv b1, iv fx, iv ax, iv ia, iv ib, .unset] [(.int (fB 0)), (.int (1 : Int32))])) (fun t k => own_ldB X11 hx hZ (hE11) f9 (j := (0 : Int32)) (by decide) (g := (mkF m 69 #[iv pa, iv pb, iv pc, iv pd, iv xx, iv yy, rv b1, iv fx, iv ax, iv ia, iv ib, .unset] [(.int (0 : Int32)), (.ref b1), (.int (1 : Int32))])) rfl rfl (hb hby at_69) t k) ?_
  refine Wk.go (A' := T11.setTop (mkF m 71 #[iv pa, iv pb, iv pc, iv pd, iv xx, iv yy, rv b1, iv fx, iv ax, iv ia, iv ib, .unset] [(.int (0 : Int32)), (.int (fB 0)), (.int (1 : Int32))])) (fun t k => XS.iconst X11.here hx rfl (hb hby at_70) k) ?_
  refine Wk.go (A' := T11.setTop (mkF m 73 #[iv pa, iv pb, iv pc, iv pd, iv xx, iv yy, rv b1, iv fx, iv ax, iv ia, iv ib, .unset] [(.int ia), (.int (0 : Int32)), (.int (fB 0)), (.int (1 : Int32))])) (fun t k => XS.iload X11.here hx rfl (hb hby at_71) rfl k) ?_
  refine Wk.go (A' := T11.setTop (mkF m 75 #[iv pa, iv pb, iv pc, iv pd, iv xx, iv yy, rv b1, iv fx, iv ax, iv ia, iv ib, .unset] [(.int ib), (.int ia), (.int (0 : Int32)), (.int (fB 0)), (.int (1 : Int32))])) (fun t k => XS.iload X11.here hx rfl (hb hby at_73) rfl k) ?_
  obtain ⟨_, _, ⟨T12, L12, k12, n12⟩, -, X12, ⟨Lc12, hQ12, l12, y12, z12⟩, st12⟩ := Jvm.LawKit.callS X11 hx (y := (⟨"com/example/rookery/rookery/formats/FileTextColumnPinLaw", "counts", "(BIII)I"⟩ : MethodName)) hown (mvT hZ (tw9 hw)) (mvT hZ (tw10 hw)) (mvT hZ (tw11 hw)) (mvT hZ (tw12 hw)) (by decide) (backOf (W := 1) (rm3 l Z a0 hw [] (fB 0) (0 : Int32) ia ib  h8 n0 Zp8 ) hZ (tw12 hw) (tw11 hw) (by decide) (by decide)) (g := (mkF m 75 #[iv pa, iv pb, iv pc, iv pd, iv xx, iv yy, rv b1, iv fx, iv ax, iv ia, iv ib, .unset] [(.int ib), (.int ia), (.int (0 : Int32)), (.int (fB 0)), (.int (1 : Int32))])) rfl (by rw [hml]; rfl) (argsL := [(.int (fB 0)), (.int (0 : Int32)), (.int ia), (.int ib)]) (rest := [(.int (1 : Int32))]) (lenOf pd_2 rfl) rfl (by show 2 * 0 + _ ≤ _; exact Nat.le_of_eq rfl) (hb hby at_75) (fun _ _ => ⟨rfl, (hE11), (by decide : 1 + 0 ≤ _), (by decide : 4 + 0 ≤ _)⟩)
  dsimp only [Pt.U, Pt.locs, Pt.cells, Pt.slots] at X12 l12 y12 z12 st12 hQ12
  subst l12 y12 z12
  obtain ⟨rfl, N12q, hE12⟩ := hQ12
  have N12 := Fr.app N11 N12q
  refine Wk.go (A' := T12.setTop (mkF m 78 #[iv pa, iv pb, iv pc, iv pd, iv xx, iv yy, rv b1, iv fx, iv ax, iv ia, iv ib, .unset] [(.int (f_cnt (fB 0) (0 : Int32) ia ib)), (.int (1 : Int32))])) (fun t k => st12 t k) ?_
  refine Wk.go (A' := T12.setTop (mkF m 79 #[iv pa, iv pb, iv pc, iv pd, iv xx, iv yy, rv b1, iv fx, iv ax, iv ia, iv ib, .unset] [(.int ((1 : Int32) + (f_cnt (fB 0) (0 : Int32) ia ib)))])) (fun t k => XS.iadd X12.here hx rfl (hb hby at_78) rfl k) ?_
  refine Wk.go (A' := T12.setTop (mkF m 81 #[iv pa, iv pb, iv pc, iv pd, iv xx, iv yy, rv b1, iv fx, iv ax, iv ia, iv ib, .unset] [(.ref b1), (.int ((1 : Int32) + (f_cnt (fB 0) (0 : Int32) ia ib)))])) (fun t k => XS.aload X12.here hx rfl (hb hby at_79) rfl rfl k) ?_
  refine Wk.go (A' := T12.setTop (mkF m 82 #[iv pa, iv pb, iv pc, iv pd, iv xx, iv yy, rv b1, iv fx, iv ax, iv ia, iv ib, .unset] [(.int (1 : Int32)), (.ref b1), (.int ((1 : Int32) + (f_cnt (fB 0) (0 : Int32) ia ib)))])) (fun t k => XS.iconst X12.here hx rfl (hb hby at_81) k) ?_
  refine Wk.go (A' := T12.setTop (mkF m 83 #[iv pa, iv pb, iv pc, iv pd, iv xx, iv yy, rv b1, iv fx, iv ax, iv ia, iv ib, .unset] [(.int (fB 1)), (.int ((1 : Int32) + (f_cnt (fB 0) (0 : Int32) ia ib)))])) (fun t k => own_ldB X12 hx hZ (hE12) f9 (j := (1 : Int32)) (by decide) (g := (mkF m 82 #[iv pa, iv pb, iv pc, iv pd, iv xx, iv yy, rv b1, iv fx, iv ax, iv ia, iv ib, .unset] [(.int (1 : Int32)), (.ref b1), (.int ((1 : Int32) + (f_cnt (fB 0) (0 : Int32) ia ib)))])) rfl rfl (hb hby at_82) t k) ?_
  refine Wk.go (A' := T12.setTop (mkF m 84 #[iv pa, iv pb, iv pc, iv pd, iv xx, iv yy, rv b1, iv fx, iv ax, iv ia, iv ib, .unset] [(.int (1 : Int32)), (.int (fB 1)), (.int ((1 : Int32) + (f_cnt (fB 0) (0 : Int32) ia ib)))])) (fun t k => XS.iconst X12.here hx rfl (hb hby at_83) k) ?_
  refine Wk.go (A' := T12.setTop (mkF m 86 #[iv pa, iv pb, iv pc, iv pd, iv xx, iv yy, rv b1, iv fx, iv ax, iv ia, iv ib, .unset] [(.int ia), (.int (1 : Int32)), (.int (fB 1)), (.int ((1 : Int32) + (f_cnt (fB 0) (0 : Int32) ia ib)))])) (fun t k => XS.iload X12.here hx rfl (hb hby at_84) rfl k) ?_
  refine Wk.go (A' := T12.setTop (mkF m 88 #[iv pa, iv pb, iv pc, iv pd, iv xx, iv yy, rv b1, iv fx, iv ax, iv ia, iv ib, .unset] [(.int ib), (.int ia), (.int (1 : Int32)), (.int (fB 1)), (.int ((1 : Int32) + (f_cnt (fB 0) (0 : Int32) ia ib)))])) (fun t k => XS.iload X12.here hx rfl (hb hby at_86) rfl k) ?_
  obtain ⟨_, _, ⟨T13, L13, k13, n13⟩, -, X13, ⟨Lc13, hQ13, l13, y13, z13⟩, st13⟩ := Jvm.LawKit.callS X12 hx (y := (⟨"com/example/rookery/rookery/formats/FileTextColumnPinLaw", "counts", "(BIII)I"⟩ : MethodName)) hown (mvT hZ (tw9 hw)) (mvT hZ (tw10 hw)) (mvT hZ (tw11 hw)) (mvT hZ (tw12 hw)) (by decide) (backOf (W := 1) (rm3 l Z a0 hw [] (fB 1) (1 : Int32) ia ib  h8 n0 Zp8 ) hZ (tw12 hw) (tw11 hw) (by decide) (by decide)) (g := (mkF m 88 #[iv pa, iv pb, iv pc, iv pd, iv xx, iv yy, rv b1, iv fx, iv ax, iv ia, iv ib, .unset] [(.int ib), (.int ia), (.int (1 : Int32)), (.int (fB 1)), (.int ((1 : Int32) + (f_cnt (fB 0) (0 : Int32) ia ib)))])) rfl (by rw [hml]; rfl) (argsL := [(.int (fB 1)), (.int (1 : Int32)), (.int ia), (.int ib)]) (rest := [(.int ((1 : Int32) + (f_cnt (fB 0) (0 : Int32) ia ib)))]) (lenOf pd_2 rfl) rfl (by show 2 * 0 + _ ≤ _; exact Nat.le_of_eq rfl) (hb hby at_88) (fun _ _ => ⟨rfl, (hE12), (by decide : 1 + 0 ≤ _), (by decide : 4 + 0 ≤ _)⟩)
  dsimp only [Pt.U, Pt.locs, Pt.cells, Pt.slots] at X13 l13 y13 z13 st13 hQ13
  subst l13 y13 z13
  obtain ⟨rfl, N13q, hE13⟩ := hQ13
  have N13 := Fr.app N12 N13q
  refine Wk.go (A' := T13.setTop (mkF m 91 #[iv pa, iv pb, iv pc, iv pd, iv xx, iv yy, rv b1, iv fx, iv ax, iv ia, iv ib, .unset] [(.int (f_cnt (fB 1) (1 : Int32) ia ib)), (.int ((1 : Int32) + (f_cnt (fB 0) (0 : Int32) ia ib)))])) (fun t k => st13 t k) ?_
  refine Wk.go (A' := T13.setTop (mkF m 92 #[iv pa, iv pb, iv pc, iv pd, iv xx, iv yy, rv b1, iv fx, iv ax, iv ia, iv ib, .unset] [(.int (((1 : Int32) + (f_cnt (fB 0) (0 : Int32) ia ib)) + (f_cnt (fB 1) (1 : Int32) ia ib)))])) (fun t k => XS.iadd X13.here hx rfl (hb hby at_91) rfl k) ?_
  refine Wk.go (A' := T13.setTop (mkF m 94 #[iv pa, iv pb, iv pc, iv pd, iv xx, iv yy, rv b1, iv fx, iv ax, iv ia, iv ib, .unset] [(.ref b1), (.int (((1 : Int32) + (f_cnt (fB 0) (0 : Int32) ia ib)) + (f_cnt (fB 1) (1 : Int32) ia ib)))])) (fun t k => XS.aload X13.here hx rfl (hb hby at_92) rfl rfl k) ?_
  refine Wk.go (A' := T13.setTop (mkF m 95 #[iv pa, iv pb, iv pc, iv pd, iv xx, iv yy, rv b1, iv fx, iv ax, iv ia, iv ib, .unset] [(.int (2 : Int32)), (.ref b1), (.int (((1 : Int32) + (f_cnt (fB 0) (0 : Int32) ia ib)) + (f_cnt (fB 1) (1 : Int32) ia ib)))])) (fun t k => XS.iconst X13.here hx rfl (hb hby at_94) k) ?_
  refine Wk.go (A' := T13.setTop (mkF m 96 #[iv pa, iv pb, iv pc, iv pd, iv xx, iv yy, rv b1, iv fx, iv ax, iv ia, iv ib, .unset] [(.int (fB 2)), (.int (((1 : Int32) + (f_cnt (fB 0) (0 : Int32) ia ib)) + (f_cnt (fB 1) (1 : Int32) ia ib)))])) (fun t k => own_ldB X13 hx hZ (hE13) f9 (j := (2 : Int32)) (by decide) (g := (mkF m 95 #[iv pa, iv pb, iv pc, iv pd, iv xx, iv yy, rv b1, iv fx, iv ax, iv ia, iv ib, .unset] [(.int (2 : Int32)), (.ref b1), (.int (((1 : Int32) + (f_cnt (fB 0) (0 : Int32) ia ib)) + (f_cnt (fB 1) (1 : Int32) ia ib)))])) rfl rfl (hb hby at_95) t k) ?_
  refine Wk.go (A' := T13.setTop (mkF m 97 #[iv pa, iv pb, iv pc, iv pd, iv xx, iv yy, rv b1, iv fx, iv ax, iv ia, iv ib, .unset] [(.int (2 : Int32)), (.int (fB 2)), (.int (((1 : Int32) + (f_cnt (fB 0) (0 : Int32) ia ib)) + (f_cnt (fB 1) (1 : Int32) ia ib)))])) (fun t k => XS.iconst X13.here hx rfl (hb hby at_96) k) ?_
  refine Wk.go (A' := T13.setTop (mkF m 99 #[iv pa, iv pb, iv pc, iv pd, iv xx, iv yy, rv b1, iv fx, iv ax, iv ia, iv ib, .unset] [(.int ia), (.int (2 : Int32)), (.int (fB 2)), (.int (((1 : Int32) + (f_cnt (fB 0) (0 : Int32) ia ib)) + (f_cnt (fB 1) (1 : Int32) ia ib)))])) (fun t k => XS.iload X13.here hx rfl (hb hby at_97) rfl k) ?_
  refine Wk.go (A' := T13.setTop (mkF m 101 #[iv pa, iv pb, iv pc, iv pd, iv xx, iv yy, rv b1, iv fx, iv ax, iv ia, iv ib, .unset] [(.int ib), (.int ia), (.int (2 : Int32)), (.int (fB 2)), (.int (((1 : Int32) + (f_cnt (fB 0) (0 : Int32) ia ib)) + (f_cnt (fB 1) (1 : Int32) ia ib)))])) (fun t k => XS.iload X13.here hx rfl (hb hby at_99) rfl k) ?_
  obtain ⟨_, _, ⟨T14, L14, k14, n14⟩, -, X14, ⟨Lc14, hQ14, l14, y14, z14⟩, st14⟩ := Jvm.LawKit.callS X13 hx (y := (⟨"com/example/rookery/rookery/formats/FileTextColumnPinLaw", "counts", "(BIII)I"⟩ : MethodName)) hown (mvT hZ (tw9 hw)) (mvT hZ (tw10 hw)) (mvT hZ (tw11 hw)) (mvT hZ (tw12 hw)) (by decide) (backOf (W := 1) (rm3 l Z a0 hw [] (fB 2) (2 : Int32) ia ib  h8 n0 Zp8 ) hZ (tw12 hw) (tw11 hw) (by decide) (by decide)) (g := (mkF m 101 #[iv pa, iv pb, iv pc, iv pd, iv xx, iv yy, rv b1, iv fx, iv ax, iv ia, iv ib, .unset] [(.int ib), (.int ia), (.int (2 : Int32)), (.int (fB 2)), (.int (((1 : Int32) + (f_cnt (fB 0) (0 : Int32) ia ib)) + (f_cnt (fB 1) (1 : Int32) ia ib)))])) rfl (by rw [hml]; rfl) (argsL := [(.int (fB 2)), (.int (2 : Int32)), (.int ia), (.int ib)]) (rest := [(.int (((1 : Int32) + (f_cnt (fB 0) (0 : Int32) ia ib)) + (f_cnt (fB 1) (1 : Int32) ia ib)))]) (lenOf pd_2 rfl) rfl (by show 2 * 0 + _ ≤ _; exact Nat.le_of_eq rfl) (hb hby at_101) (fun _ _ => ⟨rfl, (hE13), (by decide : 1 + 0 ≤ _), (by decide : 4 + 0 ≤ _)⟩)
  dsimp only [Pt.U, Pt.locs, Pt.cells, Pt.slots] at X14 l14 y14 z14 st14 hQ14
  subst l14 y14 z14
  obtain ⟨rfl, N14q, hE14⟩ := hQ14
  have N14 := Fr.app N13 N14q
  refine Wk.go (A' := T14.setTop (mkF m 104 #[iv pa, iv pb, iv pc, iv pd, iv xx, iv yy, rv b1, iv fx, iv ax, iv ia, iv ib, .unset] [(.int (f_cnt (fB 2) (2 : Int32) ia ib)), (.int (((1 : Int32) + (f_cnt (fB 0) (0 : Int32) ia ib)) + (f_cnt (fB 1) (1 : Int32) ia ib)))])) (fun t k => st14 t k) ?_
  refine Wk.go (A' := T14.setTop (mkF m 105 #[iv pa, iv pb, iv pc, iv pd, iv xx, iv yy, rv b1, iv fx, iv ax, iv ia, iv ib, .unset] [(.int ((((1 : Int32) + (f_cnt (fB 0) (0 : Int32) ia ib)) + (f_cnt (fB 1) (1 : Int32) ia ib)) + (f_cnt (fB 2) (2 : Int32) ia ib)))])) (fun t k => XS.iadd X14.here hx rfl (hb hby at_104) rfl k) ?_
  refine Wk.go (A' := T14.setTop (mkF m 107 #[iv pa, iv pb, iv pc, iv pd, iv xx, iv yy, rv b1, iv fx, iv ax, iv ia, iv ib, .unset] [(.ref b1), (.int ((((1 : Int32) + (f_cnt (fB 0) (0 : Int32) ia ib)) + (f_cnt (fB 1) (1 : Int32) ia ib)) + (f_cnt (fB 2) (2 : Int32) ia ib)))])) (fun t k => XS.aload X14.here hx rfl (hb hby at_105) rfl rfl k) ?_
  refine Wk.go (A' := T14.setTop (mkF m 108 #[iv pa, iv pb, iv pc, iv pd, iv xx, iv yy, rv b1, iv fx, iv ax, iv ia, iv ib, .unset] [(.int (3 : Int32)), (.ref b1), (.int ((((1 : Int32) + (f_cnt (fB 0) (0 : Int32) ia ib)) + (f_cnt (fB 1) (1 : Int32) ia ib)) + (f_cnt (fB 2) (2 : Int32) ia ib)))])) (fun t k => XS.iconst X14.here hx rfl (hb hby at_107) k) ?_
  refine Wk.go (A' := T14.setTop (mkF m 109 #[iv pa, iv pb, iv pc, iv pd, iv xx, iv yy, rv b1, iv fx, iv ax, iv ia, iv ib, .unset] [(.int (fB 3)), (.int ((((1 : Int32) + (f_cnt (fB 0) (0 : Int32) ia ib)) + (f_cnt (fB 1) (1 : Int32) ia ib)) + (f_cnt (fB 2) (2 : Int32) ia ib)))])) (fun t k => own_ldB X14 hx hZ (hE14) f9 (j := (3 : Int32)) (by decide) (g := (mkF m 108 #[iv pa, iv pb, iv pc, iv pd, iv xx, iv yy, rv b1, iv fx, iv ax, iv ia, iv ib, .unset] [(.int (3 : Int32)), (.ref b1), (.int ((((1 : Int32) + (f_cnt (fB 0) (0 : Int32) ia ib)) + (f_cnt (fB 1) (1 : Int32) ia ib)) + (f_cnt (fB 2) (2 : Int32) ia ib)))])) rfl rfl (hb hby at_108) t k) ?_
  refine Wk.go (A' := T14.setTop (mkF m 110 #[iv pa, iv pb, iv pc, iv pd, iv xx, iv yy, rv b1, iv fx, iv ax, iv ia, iv ib, .unset] [(.int (3 : Int32)), (.int (fB 3)), (.int ((((1 : Int32) + (f_cnt (fB 0) (0 : Int32) ia ib)) + (f_cnt (fB 1) (1 : Int32) ia ib)) + (f_cnt (fB 2) (2 : Int32) ia ib)))])) (fun t k => XS.iconst X14.here hx rfl (hb hby at_109) k) ?_
  refine Wk.go (A' := T14.setTop (mkF m 112 #[iv pa, iv pb, iv pc, iv pd, iv xx, iv yy, rv b1, iv fx, iv ax, iv ia, iv ib, .unset] [(.int ia), (.int (3 : Int32)), (.int (fB 3)), (.int ((((1 : Int32) + (f_cnt (fB 0) (0 : Int32) ia ib)) + (f_cnt (fB 1) (1 : Int32) ia ib)) + (f_cnt (fB 2) (2 : Int32) ia ib)))])) (fun t k => XS.iload X14.here hx rfl (hb hby at_110) rfl k) ?_
  refine Wk.go (A' := T14.setTop (mkF m 114 #[iv pa, iv pb, iv pc, iv pd, iv xx, iv yy, rv b1, iv fx, iv ax, iv ia, iv ib, .unset] [(.int ib), (.int ia), (.int (3 : Int32)), (.int (fB 3)), (.int ((((1 : Int32) + (f_cnt (fB 0) (0 : Int32) ia ib)) + (f_cnt (fB 1) (1 : Int32) ia ib)) + (f_cnt (fB 2) (2 : Int32) ia ib)))])) (fun t k => XS.iload X14.here hx rfl (hb hby at_112) rfl k) ?_
  obtain ⟨_, _, ⟨T15, L15, k15, n15⟩, -, X15, ⟨Lc15, hQ15, l15, y15, z15⟩, st15⟩ := Jvm.LawKit.callS X14 hx (y := (⟨"com/example/rookery/rookery/formats/FileTextColumnPinLaw", "counts", "(BIII)I"⟩ : MethodName)) hown (mvT hZ (tw9 hw)) (mvT hZ (tw10 hw)) (mvT hZ (tw11 hw)) (mvT hZ (tw12 hw)) (by decide) (backOf (W := 1) (rm3 l Z a0 hw [] (fB 3) (3 : Int32) ia ib  h8 n0 Zp8 ) hZ (tw12 hw) (tw11 hw) (by decide) (by decide)) (g := (mkF m 114 #[iv pa, iv pb, iv pc, iv pd, iv xx, iv yy, rv b1, iv fx, iv ax, iv ia, iv ib, .unset] [(.int ib), (.int ia), (.int (3 : Int32)), (.int (fB 3)), (.int ((((1 : Int32) + (f_cnt (fB 0) (0 : Int32) ia ib)) + (f_cnt (fB 1) (1 : Int32) ia ib)) + (f_cnt (fB 2) (2 : Int32) ia ib)))])) rfl (by rw [hml]; rfl) (argsL := [(.int (fB 3)), (.int (3 : Int32)), (.int ia), (.int ib)]) (rest := [(.int ((((1 : Int32) + (f_cnt (fB 0) (0 : Int32) ia ib)) + (f_cnt (fB 1) (1 : Int32) ia ib)) + (f_cnt (fB 2) (2 : Int32) ia ib)))]) (lenOf pd_2 rfl) rfl (by show 2 * 0 + _ ≤ _; exact Nat.le_of_eq rfl) (hb hby at_114) (fun _ _ => ⟨rfl, (hE14), (by decide : 1 + 0 ≤ _), (by decide : 4 + 0 ≤ _)⟩)
  dsimp only [Pt.U, Pt.locs, Pt.cells, Pt.slots] at X15 l15 y15 z15 st15 hQ15
  subst l15 y15 z15
  obtain ⟨rfl, N15q, hE15⟩ := hQ15
  have N15 := Fr.app N14 N15q
  refine Wk.go (A' := T15.setTop (mkF m 117 #[iv pa, iv pb, iv pc, iv pd, iv xx, iv yy, rv b1, iv fx, iv ax, iv ia, iv ib, .unset] [(.int (f_cnt (fB 3) (3 : Int32) ia ib)), (.int ((((1 : Int32) + (f_cnt (fB 0) (0 : Int32) ia ib)) + (f_cnt (fB 1) (1 : Int32) ia ib)) + (f_cnt (fB 2) (2 : Int32) ia ib)))])) (fun t k => st15 t k) ?_
  refine Wk.go (A' := T15.setTop (mkF m 118 #[iv pa, iv pb, iv pc, iv pd, iv xx, iv yy, rv b1, iv fx, iv ax, iv ia, iv ib, .unset] [(.int (((((1 : Int32) + (f_cnt (fB 0) (0 : Int32) ia ib)) + (f_cnt (fB 1) (1 : Int32) ia ib)) + (f_cnt (fB 2) (2 : Int32) ia ib)) + (f_cnt (fB 3) (3 : Int32) ia ib)))])) (fun t k => XS.iadd X15.here hx rfl (hb hby at_117) rfl k) ?_
  refine Wk.go (A' := T15.setTop (mkF m 120 #[iv pa, iv pb, iv pc, iv pd, iv xx, iv yy, rv b1, iv fx, iv ax, iv ia, iv ib, iv (((((1 : Int32) + (f_cnt (fB 0) (0 : Int32) ia ib)) + (f_cnt (fB 1) (1 : Int32) ia ib)) + (f_cnt (fB 2) (2 : Int32) ia ib)) + (f_cnt (fB 3) (3 : Int32) ia ib))] [])) (fun t k => XS.istore X15.here hx rfl (hb hby at_118) rfl (l' := #[iv pa, iv pb, iv pc, iv pd, iv xx, iv yy, rv b1, iv fx, iv ax, iv ia, iv ib, iv (((((1 : Int32) + (f_cnt (fB 0) (0 : Int32) ia ib)) + (f_cnt (fB 1) (1 : Int32) ia ib)) + (f_cnt (fB 2) (2 : Int32) ia ib)) + (f_cnt (fB 3) (3 : Int32) ia ib))]) rfl k) ?_
  refine Wk.go (A' := T15.setTop (mkF m 122 #[iv pa, iv pb, iv pc, iv pd, iv xx, iv yy, rv b1, iv fx, iv ax, iv ia, iv ib, iv (((((1 : Int32) + (f_cnt (fB 0) (0 : Int32) ia ib)) + (f_cnt (fB 1) (1 : Int32) ia ib)) + (f_cnt (fB 2) (2 : Int32) ia ib)) + (f_cnt (fB 3) (3 : Int32) ia ib))] [(.ref b1)])) (fun t k => XS.aload X15.here hx rfl (hb hby at_120) rfl rfl k) ?_
  refine Wk.go (A' := T15.setTop (mkF m 124 #[iv pa, iv pb, iv pc, iv pd, iv xx, iv yy, rv b1, iv fx, iv ax, iv ia, iv ib, iv (((((1 : Int32) + (f_cnt (fB 0) (0 : Int32) ia ib)) + (f_cnt (fB 1) (1 : Int32) ia ib)) + (f_cnt (fB 2) (2 : Int32) ia ib)) + (f_cnt (fB 3) (3 : Int32) ia ib))] [(.int ia), (.ref b1)])) (fun t k => XS.iload X15.here hx rfl (hb hby at_122) rfl k) ?_
  refine Wk.go (A' := T15.setTop (mkF m 126 #[iv pa, iv pb, iv pc, iv pd, iv xx, iv yy, rv b1, iv fx, iv ax, iv ia, iv ib, iv (((((1 : Int32) + (f_cnt (fB 0) (0 : Int32) ia ib)) + (f_cnt (fB 1) (1 : Int32) ia ib)) + (f_cnt (fB 2) (2 : Int32) ia ib)) + (f_cnt (fB 3) (3 : Int32) ia ib))] [(.int ib), (.int ia), (.ref b1)])) (fun t k => XS.iload X15.here hx rfl (hb hby at_124) rfl k) ?_
  obtain ⟨_, _, ⟨T16, L16, k16, n16⟩, -, X16, ⟨Lc16, hQ16, l16, y16, z16⟩, st16⟩ := Jvm.LawKit.callS X15 hx (y := (⟨"com/example/rookery/rookery/formats/FileText", "column", "([BII)I"⟩ : MethodName)) hown (mvT hZ (tw16 hw)) (mvT hZ (tw17 hw)) (mvT hZ (tw18 hw)) (mvT hZ (tw19 hw)) (by decide) (backOf (W := 0) (rm5 l Z a0 hw [] b1 ia ib fB h8 n0 Zp8 f9 hf0 hft ht4) hZ (tw19 hw) (tw18 hw) (by decide) (by decide)) (g := (mkF m 126 #[iv pa, iv pb, iv pc, iv pd, iv xx, iv yy, rv b1, iv fx, iv ax, iv ia, iv ib, iv (((((1 : Int32) + (f_cnt (fB 0) (0 : Int32) ia ib)) + (f_cnt (fB 1) (1 : Int32) ia ib)) + (f_cnt (fB 2) (2 : Int32) ia ib)) + (f_cnt (fB 3) (3 : Int32) ia ib))] [(.int ib), (.int ia), (.ref b1)])) rfl (by rw [hml]; rfl) (argsL := [(.ref b1), (.int ia), (.int ib)]) (rest := []) (lenOf pd_3 rfl) rfl (by show 2 * 0 + _ ≤ _; exact Nat.le_of_eq rfl) (hb hby at_126) (fun _ _ => ⟨rfl, (hE15), (by decide : 1 + 0 ≤ _), (by decide : 4 + 0 ≤ _)⟩)
  dsimp only [Pt.U, Pt.locs, Pt.cells, Pt.slots] at X16 l16 y16 z16 st16 hQ16
  subst l16 y16 z16
  obtain ⟨rfl, N16q, hE16⟩ := hQ16
  have N16 := Fr.app N15 N16q
  refine Wk.go (A' := T16.setTop (mkF m 129 #[iv pa, iv pb, iv pc, iv pd, iv xx, iv yy, rv b1, iv fx, iv ax, iv ia, iv ib, iv (((((1 : Int32) + (f_cnt (fB 0) (0 : Int32) ia ib)) + (f_cnt (fB 1) (1 : Int32) ia ib)) + (f_cnt (fB 2) (2 : Int32) ia ib)) + (f_cnt (fB 3) (3 : Int32) ia ib))] [(.int (f_column b1 ia ib fB))])) (fun t k => st16 t k) ?_
  refine Wk.go (A' := T16.setTop (mkF m 131 #[iv pa, iv pb, iv pc, iv pd, iv xx, iv yy, rv b1, iv fx, iv ax, iv ia, iv ib, iv (((((1 : Int32) + (f_cnt (fB 0) (0 : Int32) ia ib)) + (f_cnt (fB 1) (1 : Int32) ia ib)) + (f_cnt (fB 2) (2 : Int32) ia ib)) + (f_cnt (fB 3) (3 : Int32) ia ib))] [(.int (((((1 : Int32) + (f_cnt (fB 0) (0 : Int32) ia ib)) + (f_cnt (fB 1) (1 : Int32) ia ib)) + (f_cnt (fB 2) (2 : Int32) ia ib)) + (f_cnt (fB 3) (3 : Int32) ia ib))), (.int (f_column b1 ia ib fB))])) (fun t k => XS.iload X16.here hx rfl (hb hby at_129) rfl k) ?_
  have hc131 : (f_column b1 ia ib fB) = (((((1 : Int32) + (f_cnt (fB 0) (0 : Int32) ia ib)) + (f_cnt (fB 1) (1 : Int32) ia ib)) + (f_cnt (fB 2) (2 : Int32) ia ib)) + (f_cnt (fB 3) (3 : Int32) ia ib)) := own_law _ _ _ _ hf0 hft ht4
  refine Wk.go (A' := T16.setTop (mkF m 134 #[iv pa, iv pb, iv pc, iv pd, iv xx, iv yy, rv b1, iv fx, iv ax, iv ia, iv ib, iv (((((1 : Int32) + (f_cnt (fB 0) (0 : Int32) ia ib)) + (f_cnt (fB 1) (1 : Int32) ia ib)) + (f_cnt (fB 2) (2 : Int32) ia ib)) + (f_cnt (fB 3) (3 : Int32) ia ib))] [])) (fun t k => XS.icmpNo X16.here hx rfl (hb hby at_131) rfl (teq hc131).2 k) ?_
  refine Wk.go (A' := T16.setTop (mkF m 135 #[iv pa, iv pb, iv pc, iv pd, iv xx, iv yy, rv b1, iv fx, iv ax, iv ia, iv ib, iv (((((1 : Int32) + (f_cnt (fB 0) (0 : Int32) ia ib)) + (f_cnt (fB 1) (1 : Int32) ia ib)) + (f_cnt (fB 2) (2 : Int32) ia ib)) + (f_cnt (fB 3) (3 : Int32) ia ib))] [(.int (1 : Int32))])) (fun t k => XS.iconst X16.here hx rfl (hb hby at_134) k) ?_
  refine Wk.go (A' := T16.setTop (mkF m 139 #[iv pa, iv pb, iv pc, iv pd, iv xx, iv yy, rv b1, iv fx, iv ax, iv ia, iv ib, iv (((((1 : Int32) + (f_cnt (fB 0) (0 : Int32) ia ib)) + (f_cnt (fB 1) (1 : Int32) ia ib)) + (f_cnt (fB 2) (2 : Int32) ia ib)) + (f_cnt (fB 3) (3 : Int32) ia ib))] [(.int (1 : Int32))])) (fun t k => XS.goto X16.here hx rfl (pc0 := 135) (pc' := 139) rfl (hb hby at_135) (by decide) (by decide) k) ?_
  refine own_fin (Qv := Q0 Z pa pb pc pd xx yy h0 n0) (v := some (.int (1 : Int32))) X16 hlk (fun h => by rw [Bd.returns] at h; cases h) (fun fs hr => retN X16 hx (t := .boolean) Bd.returns (by simp) (hb hby at_139) hr) ?_ (by decide) (by decide)
  exact ⟨rfl, N16⟩
set_option maxRecDepth 65536 in
set_option maxHeartbeats 40000000 in
theorem comes_1 {Post : Tables → Env → Array Value → State → Outcome → State → Prop} (hpost : ∀ tb e args s v u, (limb_1_1.after args s (.returned v) u = true ∧ limb_1_2.after args s (.returned v) u = true ∧ True) → FrameEnd s (.returned v) u (Jvm.fieldLocs frame_1_writes args s ++ Jvm.arrayLocs frame_1_arrays args s ++ Jvm.staticLocs frame_1_statics s) 16 128 → Post tb e args s (.returned v) u) :
    ArmFor flags0 classFile x code maxLocals ret World_1 tables_1 room_1 Calls_1 rest_1 Pre_1 Post := by
  intro l hfl _ _ p e ha hc hk s m args below hf hA hF happ hP
  obtain ⟨hcalls, hrest, hpre⟩ := hP
  obtain ⟨-, -, -, hnamed, -, -, -, hat⟩ := (Spec.applies_iff hf).mp happ
  obtain ⟨hg, hn⟩ := and_e (Cond.before_iff.mp (show (Jvm.Cond.and given_1 narrow_1).before args s = true from hpre))
  obtain ⟨hcnt, g0⟩ := and_e hg
  obtain ⟨ga0, g1⟩ := and_e g0
  obtain ⟨ga1, g2⟩ := and_e g1
  obtain ⟨ga2, g3⟩ := and_e g2
  obtain ⟨ga3, g4⟩ := and_e g3
  obtain ⟨ga4, g5⟩ := and_e g4
  obtain ⟨w0, w1, w2, w3, w4, w5, rfl⟩ : ∃ w0 w1 w2 w3 w4 w5 : Value, args = #[w0, w1, w2, w3, w4, w5] := by
    have hs : args.size = 6 := by simpa [Cond.value, given_1] using hcnt
    obtain ⟨L⟩ := args
    match L, hs with
    | [w0, w1, w2, w3, w4, w5], _ => exact ⟨w0, w1, w2, w3, w4, w5, rfl⟩
  have hw := fun d (hd : d ∈ tables_1) => atoms_spec (ws := Jvm.Cond.code x code maxLocals ret :: tables_1) hat d (List.mem_cons_of_mem _ hd)
  obtain ⟨i0, ei0⟩ := is_v ga0
  obtain rfl : w0 = (.int i0) := Option.some.inj ei0
  obtain ⟨i1, ei1⟩ := is_v ga1
  obtain rfl : w1 = (.int i1) := Option.some.inj ei1
  obtain ⟨i2, ei2⟩ := is_v ga2
  obtain rfl : w2 = (.int i2) := Option.some.inj ei2
  obtain ⟨i3, ei3⟩ := is_v ga3
  obtain rfl : w3 = (.int i3) := Option.some.inj ei3
  obtain ⟨i4, ei4⟩ := is_v ga4
  obtain rfl : w4 = (.int i4) := Option.some.inj ei4
  obtain ⟨i5, ei5⟩ := is_v g5
  obtain rfl : w5 = (.int i5) := Option.some.inj ei5
  obtain ⟨n, o, h1, h2, h3, _, L, rfl, ⟨rfl, N⟩, hq⟩ := rm0 l s _ hw tables_1 i0 i1 i2 i3 i4 i5  s.heap s.heap.size (Nat.le_refl _)  p e ha hc hk s m _ below hf ((Spec.applies_iff_loose hf).mp happ).1 ⟨rfl, State.Warmed39.refl s, rfl⟩ trivial
  refine ⟨n, _, h1, h2, h3, hpost _ _ _ _ _ _ ⟨Cond.after_iff.mpr rfl, Cond.after_iff.mpr (eq_i res_at (Term.int_eval (1)) rfl), trivial⟩ ⟨hq.1, hq.2.1, (hq.2.2.sift fun y hy => Or.inr (N y hy)).mono (by decide) (by decide)⟩⟩
theorem main_1_1 : Claimed_1_1 := comes_1 fun _ _ _ _ _ _ h hF => ⟨h.1, hF⟩
theorem main_1_2 : Claimed_1_2 := comes_1 fun _ _ _ _ _ _ h hF => ⟨h.2.1, hF⟩
end Jvm.Pilot.@@N@@
namespace Jvm.Pilot.@@N@@
open Jvm Jvm.ClassFile Sem Op Lib Jvm.Free Jvm.Stand Jvm.Pilot.@@N@@.Jvm.D
/-! MADE BY PROGRAM (witnessworld.py) out of the Statement's table words and the real class files: 14 classes; the members and pool entries that the words name. The judged class is class 1, her method 3. -/
namespace start1
open Jvm.ClassFile
def u (s : String) : CpInfo := .utf8 (stringToUtf16 s)
/-- a pool by its gaps: so many unusable entries, then the entry; so many at the end -/
def gap : Nat → List CpInfo → List CpInfo
  | 0, r => r
  | n + 1, r => .unusable :: gap n r
def poolList (es : List (Nat × CpInfo)) (last : Nat) : List CpInfo := es.foldr (fun e r => gap e.1 (e.2 :: r)) (gap last [])
def pool (es : List (Nat × CpInfo)) (last : Nat) : Array CpInfo := ⟨poolList es last⟩
def fileOf (pool : Array CpInfo) (this : Nat) (attrs : Array Attribute := #[]) (ms : Array MethodInfo := #[]) (fl : Nat := 33) (sup : Nat := 0) (ifs : Array Nat := #[]) (fds : Array FieldInfo := #[]) : ClassFile where
  minorVersion := 0
  majorVersion := 65
  constantPool := pool
  accessFlags := fl
  thisClass := this
  superClass := sup
  interfaces := ifs
  fields := fds
  methods := ms
  attributes := attrs
def plain (name : String) (sup : Option ClassId) : Class where
  name := name
  kind := .ordinary
  loader := none
  accessFlags := 33
  super := sup
  interfaces := #[]
  cf := none
  fields := #[]
  methods := #[]
  instanceTypes := #[]
  staticTypes := #[]
  resolved := #[]
  callSites := []
  init := .initialized
  statics := none
  mirror := none

def pool0 : Array CpInfo := pool [(5, u "<init>"), (0, u "()V"), (1, .class_ 10), (1, u "java/lang/Object")] 113

def k0m0 : Method := { name := "<init>", desc := "()V", sig := { parameters := [], returnType := none }, accessFlags := 1, code := none }
/-- java/lang/Object -/
def k0 : Class := { plain "java/lang/Object" none with
  accessFlags := 33
  interfaces := #[]
  cf := some (fileOf pool0 8 #[] #[{ accessFlags := 1, nameIndex := 5, descriptorIndex := 6, attributes := #[] }] 33 0 #[] #[])
  fields := #[]
  methods := #[k0m0]
  instanceTypes := #[]
  staticTypes := #[]
  resolved := Array.replicate 124 none
  statics := none }

def pool1 : Array CpInfo := pool [(2, .class_ 4), (1, u "java/lang/Object"), (0, u "<init>"), (0, u "()V"), (0, .methodref 8 9), (0, .class_ 10), (0, .nameAndType 11 12), (0, u "com/example/rookery/rookery/formats/FileTextColumnPinLaw"), (0, u "continues"), (0, u "(B)Z"), (0, .integer 2147483647), (0, .methodref 15 16), (0, .class_ 17), (0, .nameAndType 18 19), (0, u "java/lang/Math"), (0, u "min"), (0, u "(II)I"), (0, .methodref 15 21), (0, .nameAndType 22 19), (0, u "max"), (0, .methodref 8 24), (0, .nameAndType 25 26), (0, u "counts"), (0, u "(BIII)I"), (0, .methodref 28 29), (0, .class_ 30), (0, .nameAndType 31 32), (0, u "com/example/rookery/rookery/formats/FileText"), (0, u "column"), (0, u "([BII)I"), (3, u "law"), (0, u "(IIIIII)Z")] 4

def k1m0 : Method := { name := "<init>", desc := "()V", sig := { parameters := [], returnType := none }, accessFlags := 2, code := none }
def k1c1 : Code := { maxStack := 2, maxLocals := 2, code := method_2_code, exceptionTable := #[], attributes := #[] }
def k1m1 : Method := { name := "continues", desc := "(B)Z", sig := { parameters := [.byte], returnType := some .boolean }, accessFlags := 10, code := some k1c1 }
def k1c2 : Code := { maxStack := 2, maxLocals := 4, code := method_3_code, exceptionTable := #[], attributes := #[] }
def k1m2 : Method := { name := "counts", desc := "(BIII)I", sig := { parameters := [.byte, .int, .int, .int], returnType := some .int }, accessFlags := 10, code := some k1c2 }
def k1c3 : Code := { maxStack := 5, maxLocals := 12, code := code, exceptionTable := #[], attributes := #[] }
def k1m3 : Method := { name := "law", desc := "(IIIIII)Z", sig := { parameters := [.int, .int, .int, .int, .int, .int], returnType := some .boolean }, accessFlags := 9, code := some k1c3 }
/-- com/example/rookery/rookery/formats/FileTextColumnPinLaw -/
def k1 : Class := { plain "com/example/rookery/rookery/formats/FileTextColumnPinLaw" (some 0) with
  accessFlags := 49
  interfaces := #[]
  cf := some (fileOf pool1 8 #[] #[{ accessFlags := 2, nameIndex := 5, descriptorIndex := 6, attributes := #[] }, { accessFlags := 10, nameIndex := 11, descriptorIndex := 12, attributes := #[] }, { accessFlags := 10, nameIndex := 25, descriptorIndex := 26, attributes := #[] }, { accessFlags := 9, nameIndex := 36, descriptorIndex := 37, attributes := #[] }] 49 2 #[] #[])
  fields := #[]
  methods := #[k1m0, k1m1, k1m2, k1m3]
  instanceTypes := #[]
  staticTypes := #[]
  resolved := Array.replicate 42 none
  statics := none }

def pool2 : Array CpInfo := pool [(1, .class_ 2), (0, u "java/lang/Math"), (1, .class_ 6), (1, u "java/lang/Object"), (0, u "<init>"), (0, u "()V"), (89, .class_ 100), (1, u "java/lang/Math$RandomNumberGeneratorHolder"), (71, u "negativeZeroFloatBits"), (0, u "J"), (2, u "negativeZeroDoubleBits"), (21, u "max"), (2, u "min"), (43, u "$assertionsDisabled"), (0, u "Z"), (88, u "(II)I"), (2, u "twoToTheDoubleScaleDown"), (0, u "D"), (4, u "twoToTheDoubleScaleUp"), (9, u "E"), (3, u "PI"), (2, u "TAU"), (2, u "DEGREES_TO_RADIANS"), (0, u "RADIANS_TO_DEGREES")] 94

def k2m0 : Method := { name := "<init>", desc := "()V", sig := { parameters := [], returnType := none }, accessFlags := 2, code := none }
def k2c1 : Code := { maxStack := 2, maxLocals := 2, code := jdk_29_method_65_code, exceptionTable := #[], attributes := #[] }
def k2m1 : Method := { name := "max", desc := "(II)I", sig := { parameters := [.int, .int], returnType := some .int }, accessFlags := 9, code := some k2c1 }
def k2c2 : Code := { maxStack := 2, maxLocals := 2, code := jdk_29_method_69_code, exceptionTable := #[], attributes := #[] }
def k2m2 : Method := { name := "min", desc := "(II)I", sig := { parameters := [.int, .int], returnType := some .int }, accessFlags := 9, code := some k2c2 }
/-- java/lang/Math -/
def k2 : Class := { plain "java/lang/Math" (some 0) with
  accessFlags := 49
  interfaces := #[]
  cf := some (fileOf pool2 1 #[.nestMembers #[98]] #[{ accessFlags := 2, nameIndex := 7, descriptorIndex := 8, attributes := #[] }, { accessFlags := 9, nameIndex := 198, descriptorIndex := 335, attributes := #[] }, { accessFlags := 9, nameIndex := 201, descriptorIndex := 335, attributes := #[] }] 49 4 #[] #[{ accessFlags := 25, nameIndex := 354, descriptorIndex := 339, attributes := #[] }, { accessFlags := 25, nameIndex := 358, descriptorIndex := 339, attributes := #[] }, { accessFlags := 25, nameIndex := 361, descriptorIndex := 339, attributes := #[] }, { accessFlags := 26, nameIndex := 364, descriptorIndex := 339, attributes := #[] }, { accessFlags := 26, nameIndex := 365, descriptorIndex := 339, attributes := #[] }, { accessFlags := 26, nameIndex := 172, descriptorIndex := 173, attributes := #[] }, { accessFlags := 26, nameIndex := 176, descriptorIndex := 173, attributes := #[] }, { accessFlags := 8, nameIndex := 344, descriptorIndex := 339, attributes := #[] }, { accessFlags := 8, nameIndex := 338, descriptorIndex := 339, attributes := #[] }, { accessFlags := 4120, nameIndex := 245, descriptorIndex := 246, attributes := #[] }])
  fields := #[{ name := "E", type := .double, accessFlags := 25, slot := 0, constantValue := 0 }, { name := "PI", type := .double, accessFlags := 25, slot := 1, constantValue := 0 }, { name := "TAU", type := .double, accessFlags := 25, slot := 2, constantValue := 0 }, { name := "DEGREES_TO_RADIANS", type := .double, accessFlags := 26, slot := 3, constantValue := 0 }, { name := "RADIANS_TO_DEGREES", type := .double, accessFlags := 26, slot := 4, constantValue := 0 }, { name := "negativeZeroFloatBits", type := .long, accessFlags := 26, slot := 5, constantValue := 0 }, { name := "negativeZeroDoubleBits", type := .long, accessFlags := 26, slot := 6, constantValue := 0 }, { name := "twoToTheDoubleScaleUp", type := .double, accessFlags := 8, slot := 7, constantValue := 0 }, { name := "twoToTheDoubleScaleDown", type := .double, accessFlags := 8, slot := 8, constantValue := 0 }, { name := "$assertionsDisabled", type := .boolean, accessFlags := 4120, slot := 9, constantValue := 0 }]
  methods := #[k2m0, k2m1, k2m2]
  instanceTypes := #[]
  staticTypes := #[.double, .double, .double, .double, .double, .long, .long, .double, .double, .boolean]
  resolved := Array.replicate 460 none
  statics := none }

def pool3 : Array CpInfo := pool [(1, .class_ 2), (0, u "java/lang/Readable"), (0, .class_ 4), (0, u "java/lang/Object")] 7

/-- java/lang/Readable -/
def k3 : Class := { plain "java/lang/Readable" (some 0) with
  accessFlags := 1537
  interfaces := #[]
  cf := some (fileOf pool3 1 #[] #[] 1537 3 #[] #[])
  fields := #[]
  methods := #[]
  instanceTypes := #[]
  staticTypes := #[]
  resolved := Array.replicate 12 none
  statics := none }

def pool4 : Array CpInfo := pool [(1, .class_ 2), (0, u "java/lang/AutoCloseable"), (0, .class_ 4), (0, u "java/lang/Object")] 7

/-- java/lang/AutoCloseable -/
def k4 : Class := { plain "java/lang/AutoCloseable" (some 0) with
  accessFlags := 1537
  interfaces := #[]
  cf := some (fileOf pool4 1 #[] #[] 1537 3 #[] #[])
  fields := #[]
  methods := #[]
  instanceTypes := #[]
  staticTypes := #[]
  resolved := Array.replicate 12 none
  statics := none }

def pool5 : Array CpInfo := pool [(1, .class_ 2), (0, u "java/io/Closeable"), (0, .class_ 4), (0, u "java/lang/Object"), (0, .class_ 6), (0, u "java/lang/AutoCloseable")] 7

/-- java/io/Closeable -/
def k5 : Class := { plain "java/io/Closeable" (some 0) with
  accessFlags := 1537
  interfaces := #[4]
  cf := some (fileOf pool5 1 #[] #[] 1537 3 #[5] #[])
  fields := #[]
  methods := #[]
  instanceTypes := #[]
  staticTypes := #[]
  resolved := Array.replicate 14 none
  statics := none }

def pool6 : Array CpInfo := pool [(1, .class_ 2), (0, u "java/io/Reader$1"), (2, u "<init>"), (0, u "()V"), (1, .class_ 9), (0, u "java/lang/Object"), (1, .class_ 13), (1, u "java/io/Reader"), (0, u "skipBuffer"), (0, u "[C"), (2, u "lock"), (0, u "Ljava/lang/Object;"), (117, .class_ 138), (0, u "java/lang/Readable"), (0, .class_ 140), (0, u "java/io/Closeable"), (0, u "TRANSFER_BUFFER_SIZE"), (0, u "I"), (2, u "maxSkipBufferSize")] 59

def k6m0 : Method := { name := "<init>", desc := "()V", sig := { parameters := [], returnType := none }, accessFlags := 4, code := none }
/-- java/io/Reader -/
def k6 : Class := { plain "java/io/Reader" (some 0) with
  accessFlags := 1057
  interfaces := #[3, 5]
  cf := some (fileOf pool6 11 #[.nestMembers #[1]] #[{ accessFlags := 4, nameIndex := 5, descriptorIndex := 6, attributes := #[] }] 1057 8 #[137, 139] #[{ accessFlags := 26, nameIndex := 141, descriptorIndex := 142, attributes := #[] }, { accessFlags := 4, nameIndex := 18, descriptorIndex := 19, attributes := #[] }, { accessFlags := 26, nameIndex := 145, descriptorIndex := 142, attributes := #[] }, { accessFlags := 2, nameIndex := 14, descriptorIndex := 15, attributes := #[] }])
  fields := #[{ name := "TRANSFER_BUFFER_SIZE", type := .int, accessFlags := 26, slot := 0, constantValue := 0 }, { name := "lock", type := (.object "java/lang/Object"), accessFlags := 4, slot := 0, constantValue := 0 }, { name := "maxSkipBufferSize", type := .int, accessFlags := 26, slot := 1, constantValue := 0 }, { name := "skipBuffer", type := (.array .char), accessFlags := 2, slot := 1, constantValue := 0 }]
  methods := #[k6m0]
  instanceTypes := #[(.object "java/lang/Object"), (.array .char)]
  staticTypes := #[.int, .int]
  resolved := Array.replicate 205 none
  statics := none }

def pool7 : Array CpInfo := pool [(2, .class_ 4), (1, u "java/io/Reader"), (3, .class_ 10), (1, u "com/example/rookery/rookery/formats/FileText"), (0, u "decoder"), (3, u "Ljava/nio/charset/CharsetDecoder;"), (13, u "bytes"), (0, u "Ljava/nio/ByteBuffer;"), (10, u "chars"), (0, u "Ljava/nio/CharBuffer;"), (2, u "line"), (0, u "I"), (2, u "column"), (2, u "in"), (0, u "Ljava/io/InputStream;"), (46, u "ended"), (0, u "Z"), (18, u "opened"), (19, .class_ 141), (0, u "com/example/rookery/rookery/formats/FileText$NotUtf8Exception"), (25, u "([BII)I"), (58, u "BYTE_ORDER_MARK_BYTES"), (0, u "[B"), (17, u "BYTE_ORDER_MARK"), (0, u "Ljava/lang/String;"), (1, u "NOT_UTF8")] 54

def k7c0 : Code := { maxStack := 3, maxLocals := 5, code := prog_29_method_15_code, exceptionTable := #[], attributes := #[] }
def k7m0 : Method := { name := "column", desc := "([BII)I", sig := { parameters := [(.array .byte), .int, .int], returnType := some .int }, accessFlags := 8, code := some k7c0 }
/-- com/example/rookery/rookery/formats/FileText -/
def k7 : Class := { plain "com/example/rookery/rookery/formats/FileText" (some 6) with
  accessFlags := 32
  interfaces := #[]
  cf := some (fileOf pool7 8 #[.nestMembers #[140]] #[{ accessFlags := 8, nameIndex := 49, descriptorIndex := 167, attributes := #[] }] 32 2 #[] #[{ accessFlags := 24, nameIndex := 245, descriptorIndex := 246, attributes := #[] }, { accessFlags := 24, nameIndex := 248, descriptorIndex := 246, attributes := #[] }, { accessFlags := 26, nameIndex := 226, descriptorIndex := 227, attributes := #[] }, { accessFlags := 18, nameIndex := 52, descriptorIndex := 53, attributes := #[] }, { accessFlags := 18, nameIndex := 11, descriptorIndex := 15, attributes := #[] }, { accessFlags := 18, nameIndex := 29, descriptorIndex := 30, attributes := #[] }, { accessFlags := 18, nameIndex := 41, descriptorIndex := 42, attributes := #[] }, { accessFlags := 2, nameIndex := 100, descriptorIndex := 101, attributes := #[] }, { accessFlags := 2, nameIndex := 120, descriptorIndex := 101, attributes := #[] }, { accessFlags := 2, nameIndex := 45, descriptorIndex := 46, attributes := #[] }, { accessFlags := 2, nameIndex := 49, descriptorIndex := 46, attributes := #[] }])
  fields := #[{ name := "BYTE_ORDER_MARK", type := (.object "java/lang/String"), accessFlags := 24, slot := 0, constantValue := 0 }, { name := "NOT_UTF8", type := (.object "java/lang/String"), accessFlags := 24, slot := 1, constantValue := 0 }, { name := "BYTE_ORDER_MARK_BYTES", type := (.array .byte), accessFlags := 26, slot := 2, constantValue := 0 }, { name := "in", type := (.object "java/io/InputStream"), accessFlags := 18, slot := 2, constantValue := 0 }, { name := "decoder", type := (.object "java/nio/charset/CharsetDecoder"), accessFlags := 18, slot := 3, constantValue := 0 }, { name := "bytes", type := (.object "java/nio/ByteBuffer"), accessFlags := 18, slot := 4, constantValue := 0 }, { name := "chars", type := (.object "java/nio/CharBuffer"), accessFlags := 18, slot := 5, constantValue := 0 }, { name := "ended", type := .boolean, accessFlags := 2, slot := 6, constantValue := 0 }, { name := "opened", type := .boolean, accessFlags := 2, slot := 7, constantValue := 0 }, { name := "line", type := .int, accessFlags := 2, slot := 8, constantValue := 0 }, { name := "column", type := .int, accessFlags := 2, slot := 9, constantValue := 0 }]
  methods := #[k7m0]
  instanceTypes := #[(.object "java/lang/Object"), (.array .char), (.object "java/io/InputStream"), (.object "java/nio/charset/CharsetDecoder"), (.object "java/nio/ByteBuffer"), (.object "java/nio/CharBuffer"), .boolean, .boolean, .int, .int]
  staticTypes := #[(.object "java/lang/String"), (.object "java/lang/String"), (.array .byte)]
  resolved := Array.replicate 303 none
  statics := none }

def pool8 : Array CpInfo := pool [(1, u "java/lang/Cloneable"), (0, .class_ 1), (0, u "java/lang/Object"), (0, .class_ 3)] 3

/-- java/lang/Cloneable -/
def k8 : Class := { plain "java/lang/Cloneable" (some 0) with
  accessFlags := 1537
  interfaces := #[]
  cf := some (fileOf pool8 2 #[] #[] 1537 4 #[] #[])
  fields := #[]
  methods := #[]
  instanceTypes := #[]
  staticTypes := #[]
  resolved := Array.replicate 8 none
  statics := none }

def pool9 : Array CpInfo := pool [(1, u "java/io/Serializable"), (0, .class_ 1), (0, u "java/lang/Object"), (0, .class_ 3)] 3

/-- java/io/Serializable -/
def k9 : Class := { plain "java/io/Serializable" (some 0) with
  accessFlags := 1537
  interfaces := #[]
  cf := some (fileOf pool9 2 #[] #[] 1537 4 #[] #[])
  fields := #[]
  methods := #[]
  instanceTypes := #[]
  staticTypes := #[]
  resolved := Array.replicate 8 none
  statics := none }

/-- the primitive byte -/
def k10 : Class := { plain "byte" none with kind := .primitive 'B', accessFlags := 0x411 }
/-- [B -/
def k11 : Class := { plain "[B" (some 0) with kind := .array 10 .byte, interfaces := #[8, 9], accessFlags := 1041 }

/-- the primitive int -/
def k12 : Class := { plain "int" none with kind := .primitive 'I', accessFlags := 0x411 }
/-- [I -/
def k13 : Class := { plain "[I" (some 0) with kind := .array 12 .int, interfaces := #[8, 9], accessFlags := 1041 }

def heap : Heap := #[]
def classes : Array Class := #[k0, k1, k2, k3, k4, k5, k6, k7, k8, k9, k10, k11, k12, k13]
def interned : List (Array UInt16 × Addr) := []
def slotsUsed : Nat := 0
def theMethod : MethodId := ⟨1, 3⟩
def args0 : Array Value := #[.int 5, .int 7, .int 8, .int 5, .int 7, .int 8]
def aboutOver (below : List Frame) : State where
  vm := { classes := classes, interned := interned.toArray }
  heap := heap
  slotsUsed := slotsUsed
  threads := #[{ frames := .invoking theMethod args0 :: below }]
def below0 : List Frame := [.native { method := ⟨0, 0⟩, args := #[] }]
def about1 : State := aboutOver below0
def p0 : Program := .bare "" "" ""
def e0 : Env := launch0.env 0 0 0
theorem w_frames : about1.frames = Frame.invoking theMethod args0 :: below0 := rfl
set_option maxRecDepth 65536 in
theorem w_args : argsFit about1.vm theMethod args0 = true := by decide +kernel
set_option maxRecDepth 65536 in
theorem w_heap : heapFits about1 = true := by decide +kernel
set_option maxRecDepth 65536 in
theorem w_runnable : about1.curStatus? = some .runnable := by decide +kernel
set_option maxRecDepth 65536 in
theorem w_alone : about1.alone = true := by decide +kernel
set_option maxRecDepth 65536 in
theorem w_named : about1.methodNamed? x = some theMethod := by decide +kernel
set_option maxRecDepth 65536 in
theorem w_hears : about1.hears theMethod below0 = true := by decide +kernel
set_option maxRecDepth 65536 in
theorem w_ripe : about1.ripe theMethod args0 below0 = true := by decide +kernel
theorem w_running : about1.status = .running := rfl
set_option maxRecDepth 65536 in
theorem w_room : about1.hasRoom e0.platform room_1 = true :=
  launch0.hasRoom_least _ room_1 (by decide +kernel) (by decide +kernel) (by decide +kernel) (by decide +kernel) (by decide +kernel) (by decide +kernel)
theorem allAtoms_all (ts : List Jvm.Cond) (a : Array Jvm.Value) (st : Jvm.State) : (allAtoms ts).before a st = ts.all (fun c => c.before a st) := by
  induction ts with
  | nil => rfl
  | cons c t ih =>
    show (Jvm.Cond.and c (allAtoms t)).before a st = _
    rw [Jvm.Cond.before_and, ih, List.all_cons]
def words1 : List Jvm.Cond := Jvm.Cond.code x code maxLocals ret :: tables_1
/-- a 'code' word, met by the world's own term for the bytes: nothing is compared byte by byte -/
theorem code_word {y : MethodName} {bytes : ByteArray} {mx : Nat} {rt : Option FieldType} {a : Array Value} {s : State} {m : MethodId} {meth : Method} {c : Code} (h1 : s.methodNamed? y = some m) (h2 : s.vm.method? m = some meth) (h3 : meth.code = some c) (h4 : c.code = bytes)
    (h5 : (c.maxLocals == mx && c.exceptionTable.isEmpty && decide (c.maxStack ≤ mostOperands) && decide (meth.sig.returnType = rt) && !meth.locks && decide (parseMethodDescriptor y.desc = some meth.sig)) = true) : (Jvm.Cond.code y bytes mx rt).before a s = true := by
  simp only [Bool.and_eq_true, beq_iff_eq, Bool.not_eq_true', decide_eq_true_eq] at h5
  obtain ⟨⟨⟨⟨⟨g1, g2⟩, g3⟩, g4⟩, g5⟩, g6⟩ := h5
  simp [Cond.before, Cond.holds, Cond.value, h1, h2, h3, h4, g1, g2, g3, g4, g5, g6]
def isCode : Jvm.Cond → Bool
  | .code _ _ _ _ => true
  | _ => false
theorem all_split {L : List Jvm.Cond} {P : Jvm.Cond → Bool} (h1 : L.all (fun c => isCode c || P c) = true) (h2 : ∀ c ∈ L.filter isCode, P c = true) : L.all P = true := by
  refine List.all_eq_true.mpr fun c hc => ?_
  have h := List.all_eq_true.mp h1 c hc
  rcases Bool.eq_false_or_eq_true (isCode c) with hi | hi
  · exact h2 c (List.mem_filter.mpr ⟨hc, hi⟩)
  · simpa [hi] using h
set_option maxRecDepth 65536 in
theorem w_c0 : (Jvm.Cond.code x code maxLocals ret).before args0 about1 = true := code_word (m := ⟨1, 3⟩) (meth := k1m3) (c := k1c3) (by decide +kernel) rfl rfl rfl (by decide +kernel)
set_option maxRecDepth 65536 in
theorem w_c1 : (Jvm.Cond.code ({ cls := "java/lang/Math", name := "min", desc := "(II)I" } : Jvm.MethodName) jdk_29_method_69_code (2 : Nat) (Option.some Jvm.ClassFile.FieldType.int)).before args0 about1 = true := code_word (m := ⟨2, 2⟩) (meth := k2m2) (c := k2c2) (by decide +kernel) rfl rfl rfl (by decide +kernel)
set_option maxRecDepth 65536 in
theorem w_c2 : (Jvm.Cond.code ({ cls := "java/lang/Math", name := "max", desc := "(II)I" } : Jvm.MethodName) jdk_29_method_65_code (2 : Nat) (Option.some Jvm.ClassFile.FieldType.int)).before args0 about1 = true := code_word (m := ⟨2, 1⟩) (meth := k2m1) (c := k2c1) (by decide +kernel) rfl rfl rfl (by decide +kernel)
set_option maxRecDepth 65536 in
theorem w_c3 : (Jvm.Cond.code ({ cls := "com/example/rookery/rookery/formats/FileTextColumnPinLaw", name := "counts", desc := "(BIII)I" } : Jvm.MethodName) method_3_code (4 : Nat) (Option.some Jvm.ClassFile.FieldType.int)).before args0 about1 = true := code_word (m := ⟨1, 2⟩) (meth := k1m2) (c := k1c2) (by decide +kernel) rfl rfl rfl (by decide +kernel)
set_option maxRecDepth 65536 in
theorem w_c4 : (Jvm.Cond.code ({ cls := "com/example/rookery/rookery/formats/FileTextColumnPinLaw", name := "continues", desc := "(B)Z" } : Jvm.MethodName) method_2_code (2 : Nat) (Option.some Jvm.ClassFile.FieldType.boolean)).before args0 about1 = true := code_word (m := ⟨1, 1⟩) (meth := k1m1) (c := k1c1) (by decide +kernel) rfl rfl rfl (by decide +kernel)
set_option maxRecDepth 65536 in
theorem w_c5 : (Jvm.Cond.code ({ cls := "com/example/rookery/rookery/formats/FileText", name := "column", desc := "([BII)I" } : Jvm.MethodName) prog_29_method_15_code (5 : Nat) (Option.some Jvm.ClassFile.FieldType.int)).before args0 about1 = true := code_word (m := ⟨7, 0⟩) (meth := k7m0) (c := k7c0) (by decide +kernel) rfl rfl rfl (by decide +kernel)
def codes1 : List Jvm.Cond := [Jvm.Cond.code x code maxLocals ret, Jvm.Cond.code ({ cls := "java/lang/Math", name := "min", desc := "(II)I" } : Jvm.MethodName) jdk_29_method_69_code (2 : Nat) (Option.some Jvm.ClassFile.FieldType.int), Jvm.Cond.code ({ cls := "java/lang/Math", name := "max", desc := "(II)I" } : Jvm.MethodName) jdk_29_method_65_code (2 : Nat) (Option.some Jvm.ClassFile.FieldType.int), Jvm.Cond.code ({ cls := "com/example/rookery/rookery/formats/FileTextColumnPinLaw", name := "counts", desc := "(BIII)I" } : Jvm.MethodName) method_3_code (4 : Nat) (Option.some Jvm.ClassFile.FieldType.int), Jvm.Cond.code ({ cls := "com/example/rookery/rookery/formats/FileTextColumnPinLaw", name := "continues", desc := "(B)Z" } : Jvm.MethodName) method_2_code (2 : Nat) (Option.some Jvm.ClassFile.FieldType.boolean), Jvm.Cond.code ({ cls := "com/example/rookery/rookery/formats/FileText", name := "column", desc := "([BII)I" } : Jvm.MethodName) prog_29_method_15_code (5 : Nat) (Option.some Jvm.ClassFile.FieldType.int)]
set_option maxRecDepth 65536 in
theorem codes_eq : words1.filter isCode = codes1 := rfl
theorem w_codes : ∀ c ∈ words1.filter isCode, c.before args0 about1 = true := by
  rw [codes_eq]
  intro c hc
  simp only [codes1, List.mem_cons, List.not_mem_nil, or_false] at hc
  rcases hc with rfl | rfl | rfl | rfl | rfl | rfl
  · exact w_c0
  · exact w_c1
  · exact w_c2
  · exact w_c3
  · exact w_c4
  · exact w_c5
set_option maxRecDepth 65536 in
theorem w_t1 : words1.all (fun c => isCode c || c.before args0 about1) = true := by decide +kernel
theorem w_tables : (allAtoms (Jvm.Cond.code x code maxLocals ret :: tables_1)).before args0 about1 = true := by
  rw [allAtoms_all]
  show words1.all (fun c => c.before args0 about1) = true
  refine all_split ?_ w_codes
  rw [w_t1]
set_option maxRecDepth 65536 in
theorem w_case : (Jvm.Cond.and given_1 narrow_1).before args0 about1 = true := by decide +kernel
theorem w_applies : (headSpec (Jvm.Cond.code x code maxLocals ret :: tables_1) room_1).applies x e0.platform about1 = true :=
  (Spec.applies_iff w_frames).mpr ⟨w_running, w_runnable, w_alone, w_named, w_hears, w_ripe, w_room, w_tables⟩
theorem atStart : AtStart classFile x code maxLocals ret World_1 tables_1 room_1 Calls_1 rest_1 Pre_1 launch0 p0 e0 about1 theMethod args0 below0 :=
  ⟨lists_1, trivial, launch0.admits_env _ _ _, launch0.least_env, fairChoices_fair.cas, fairChoices_fair.clock, w_frames, w_args, w_heap, w_applies, trivial, trivial, w_case⟩
end start1
theorem witness_1 : WitnessClaimed_1 := ⟨start1.p0, start1.e0, start1.about1, start1.theMethod, start1.args0, start1.below0, start1.atStart⟩
end Jvm.Pilot.@@N@@
