import JvmDerived
import JvmDerived.Pilot.@@N@@Statement
import JvmDerived.Pilot.@@N@@Code
set_option linter.unusedVariables false
set_option linter.unusedSimpArgs false
namespace Jvm.RoadKit
open Sem ClassFile Op Lib Jvm.Stand Jvm.Free Jvm.LawKit
section New
variable {p : Program} {l : Launch} {e : Env} {R : Room} {s : State} {m : MethodId} {args : Array Value} {below : List Frame} {meth : Method} {c : Code} {T : State} {locs : List Loc} {cells slots : Nat}
theorem retI (X : Stand p l e R s m args below meth c T locs cells slots) (hx : p.tables.exec = Jvm.exec) {pc : Nat} {Ls : Array Slot} {z : Int32} {rest : List Value} (hret : meth.sig.returnType = some .int) (hd : decode c.code pc = .ok (.ireturn, 1)) {fs : List Frame}
    (hl : ∀ (f : JFrame) (acts : List Action), f.method = m → f.locked = none → f.entered = [] → (doReturn e (T.setTop f) acts (some (.int z))).1 = T.setFrames fs) : Steps p.tables e below (T.setTop (mkF m pc Ls (.int z :: rest))) (T.setFrames fs) := by
  have hm' : T.vm.method? m = some meth := X.method'
  have hn : narrow .int (.int z) = .int z := rfl
  show Steps p.tables e below (T.setTop { method := m, pc := pc, locals := Ls, stack := _ :: rest, locked := none }) _
  jvm_step X.here [X.here.top, hx, hd, hm', hret, hn]
  first | (intro acts; rw [hl _ acts rfl rfl rfl]) | rw [hl _ _ rfl rfl rfl]
  exact Steps.refl _
abbrev jv (x : Int64) : Slot := .val (.long x)
/-- from A the run goes on to an end of which R holds -/
def Wk (tb : Tables) (e : Env) (below : List Frame) (A : State) (R : State → Outcome → Prop) : Prop := ∃ U o, Steps tb e below A U ∧ R U o
theorem Wk.go {tb : Tables} {A A' : State} {R : State → Outcome → Prop} (h : ∀ t, Steps tb e below A' t → Steps tb e below A t) (k : Wk tb e below A' R) : Wk tb e below A R := by
  obtain ⟨U, o, k1, k2⟩ := k
  exact ⟨U, o, h _ k1, k2⟩
/-- the two ways from A to A' meet there -/
theorem own_fin (X : Stand p l e R s m args below meth c T locs cells slots) {Qv : Option Value → Heap → List Loc → Prop} {v : Option Value} {g : JFrame} {C S : Nat} (hlocks : meth.locks = false) (hv : meth.sig.returnType = none → v = none)
    (hst : ∀ fs, (∀ (f : JFrame) (acts : List Action), f.method = m → f.locked = none → f.entered = [] → (doReturn e (T.setTop f) acts v).1 = T.setFrames fs) → Steps p.tables e below (T.setTop g) (T.setFrames fs))
    (hQ : Qv v T.heap locs) (hc : cells ≤ C) (hs : slots ≤ S) :
    Wk p.tables e below (T.setTop g) (fun U o => U.status = .running ∧ Ended U below o ∧ ∃ v L, o = .returned v ∧ Qv v U.heap L ∧ FrameEnd s o U L C S) := by
  obtain ⟨fs, hr, hrun, hended, hW, hsame⟩ := X.leave (v := v) hv hlocks
  exact ⟨_, _, hst fs hr, hrun, hended, _, _, rfl, hQ, ⟨_, rfl⟩, hW, hsame.mono hc hs⟩
end New
end Jvm.RoadKit
namespace Jvm.Pilot.@@N@@
open Jvm Jvm.ClassFile Sem Op Lib Jvm.Free Jvm.Stand Jvm.LawKit Jvm.RoadKit Bundle Jvm.Pilot.@@N@@.Jvm.D
/-- a place overwritten -/
def own_upd (f : Nat → Int32) (i : Nat) (y : Int32) : Nat → Int32 := fun j => if j = i then y else f j
theorem own_upd_eq (f : Nat → Int32) (i : Nat) (y : Int32) : own_upd f i y i = y := if_pos rfl
theorem own_upd_ne (f : Nat → Int32) {i j : Nat} (y : Int32) (h : j ≠ i) : own_upd f i y j = f j := if_neg h
/-- the byte[] at a has n places; place j holds f j -/
def BA (Z : State) (h : Heap) (a : Addr) (n : Nat) (f : Nat → Int32) : Prop := ∃ c : Cell, Arr Z h a c .byte ∧ c.slots.size = n ∧ ∀ j, j < n → c.slots[j]? = some (.int (f j))
section Bytes
variable {p : Program} {l : Launch} {e : Env} {R : Room} {s : State} {m : MethodId} {args : Array Value} {below : List Frame} {meth : Method} {c : Code} {T : State} {locs : List Loc} {cells slots : Nat} {Z : State} {h h' : Heap} {a b : Addr} {n : Nat} {f : Nat → Int32} {ws : List Addr} {sl : Nat} {v : Value}
theorem BA.new {k : ClassId} {z : Int32} (A : Arr Z h a (newA k .byte z) .byte) : BA Z h a z.toNatClampNeg (fun _ => 0) := ⟨_, A, sz_new _ _ _, fun j hj => by simp [newA, hj]; rfl⟩
theorem BA.lt (F : BA Z h a n f) : a < h.size := by obtain ⟨c, A, -⟩ := F; exact A.lt
theorem BA.ext (F : BA Z h a n f) (E : Ext h h') : BA Z h' a n f := by obtain ⟨c, A, r⟩ := F; exact ⟨c, A.ext E, r⟩
theorem BA.other (F : BA Z h b n f) (W : Wr h h' a sl v) (q : b ≠ a) : BA Z h' b n f := by obtain ⟨c, A, r⟩ := F; exact ⟨c, A.other W q, r⟩
theorem BA.keep (F : BA Z h a n f) (K : Keep h h' ws) (q : a ∉ ws) : BA Z h' a n f := by obtain ⟨c, A, r⟩ := F; exact ⟨c, ⟨K.2.1 a c A.1 q, A.2⟩, r⟩
theorem own_clamp {j : Int32} (h0 : 0 ≤ j.toInt) : (j.toNatClampNeg : Int) = j.toInt := by
  have q : ¬ j < 0 := by
    rw [Int32.lt_iff_toInt_lt]
    have e : (0 : Int32).toInt = 0 := by decide
    omega
  exact (nat_of q).symm
theorem own_inb {cl : Cell} {j : Int32} (S : cl.slots.size = n) (hj : 0 ≤ j.toInt ∧ j.toInt < n) : ¬ (j < 0 ∨ cl.slots.size ≤ j.toNatClampNeg) := by
  have e0 : (0 : Int32).toInt = 0 := by decide
  have := own_clamp hj.1
  rw [Int32.lt_iff_toInt_lt]; omega
theorem own_stB (X : Stand p l e R s m args below meth c T locs cells slots) (hx : p.tables.exec = Jvm.exec) (hZ : Z.Warmed39 s.vm) (eT : T.heap = h) (F : BA Z h a n f) {j x : Int32} (hj : 0 ≤ j.toInt ∧ j.toInt < n) {g : JFrame} (hg : g.method = m) {rest : List Value} (hs : g.stack = .int x :: .int j :: .ref a :: rest) (hd : decode c.code g.pc = .ok (.bastore, 1)) :
    ∃ T' h', Stand p l e R s m args below meth c T' (locs ++ [⟨a, j.toNatClampNeg⟩]) cells slots ∧ T'.heap = h' ∧ Wr h h' a j.toNatClampNeg (.int (nar .byte x)) ∧ BA Z h' a n (own_upd f j.toNatClampNeg x.toInt8.toInt32) ∧ ∀ target, Steps p.tables e below (T'.setTop { g with pc := g.pc + 1, stack := rest }) target → Steps p.tables e below (T.setTop g) target := by
  obtain ⟨cl, A, S, H⟩ := F
  have hin := own_inb S hj
  obtain ⟨T', h', X', e', W, st⟩ := stB X hx hZ eT A (j := j) (x := x) hin hg hs hd
  refine ⟨T', h', X', e', W, ⟨cl.setSlot j.toNatClampNeg (.int (nar .byte x)), A.same W, by rw [sz_set]; exact S, fun i hi => ?_⟩, st⟩
  by_cases q : i = j.toNatClampNeg
  · subst q
    rw [own_upd_eq]
    exact get_hit (k := j) hin rfl
  · rw [own_upd_ne _ _ q, ← H i hi]
    show (cl.slots.setIfInBounds j.toNatClampNeg _)[i]? = _
    rw [Array.getElem?_setIfInBounds_ne (Ne.symm q)]
theorem own_ldB (X : Stand p l e R s m args below meth c T locs cells slots) (hx : p.tables.exec = Jvm.exec) (hZ : Z.Warmed39 s.vm) (eT : T.heap = h) (F : BA Z h a n f) {j : Int32} (hj : 0 ≤ j.toInt ∧ j.toInt < n) {g : JFrame} (hg : g.method = m) {rest : List Value} (hs : g.stack = .int j :: .ref a :: rest) (hd : decode c.code g.pc = .ok (.baload, 1)) :
    ∀ target, Steps p.tables e below (T.setTop { g with pc := g.pc + 1, stack := .int (f j.toNatClampNeg) :: rest }) target → Steps p.tables e below (T.setTop g) target := by
  obtain ⟨cl, A, S, H⟩ := F
  have hc := own_clamp hj.1
  intro target k
  exact X.baloadBytes hx (j := j) (v := .int (f j.toNatClampNeg)) (by rw [eT]; exact A.1) (State.isArrayOf_alike hZ.alike A.2.1) A.2.2 (own_inb S hj) (H _ (by omega)) hg hs hd target k
end Bytes
theorem d1_0 : decode method_3_code 0 = .ok (.iload_n 1, 1) := by decide +kernel
theorem d1_1 : decode method_3_code 1 = .ok (.iload_n 2, 1) := by decide +kernel
theorem d1_2 : decode method_3_code 2 = .ok (.if_icmp .lt 8, 3) := by decide +kernel
theorem d1_10 : decode method_3_code 10 = .ok (.iconst 1, 1) := by decide +kernel
theorem d1_11 : decode method_3_code 11 = .ok (.ireturn, 1) := by decide +kernel
theorem d1_5 : decode method_3_code 5 = .ok (.iload_n 1, 1) := by decide +kernel
theorem d1_6 : decode method_3_code 6 = .ok (.iload_n 3, 1) := by decide +kernel
theorem d1_7 : decode method_3_code 7 = .ok (.if_icmp .lt 5, 3) := by decide +kernel
theorem d1_12 : decode method_3_code 12 = .ok (.aload_n 0, 1) := by decide +kernel
theorem d1_13 : decode method_3_code 13 = .ok (.iload_n 1, 1) := by decide +kernel
theorem d1_14 : decode method_3_code 14 = .ok (.baload, 1) := by decide +kernel
theorem d1_15 : decode method_3_code 15 = .ok (.istore 4, 2) := by decide +kernel
theorem d1_17 : decode method_3_code 17 = .ok (.iload 4, 2) := by decide +kernel
theorem d1_19 : decode method_3_code 19 = .ok (.ifCond .lt 28, 3) := by decide +kernel
theorem d1_47 : decode method_3_code 47 = .ok (.iconst 0, 1) := by decide +kernel
theorem d1_48 : decode method_3_code 48 = .ok (.ireturn, 1) := by decide +kernel
theorem d1_22 : decode method_3_code 22 = .ok (.iload 4, 2) := by decide +kernel
theorem d1_24 : decode method_3_code 24 = .ok (.bipush 92, 2) := by decide +kernel
theorem d1_26 : decode method_3_code 26 = .ok (.if_icmp .eq 21, 3) := by decide +kernel
theorem d1_29 : decode method_3_code 29 = .ok (.iload 4, 2) := by decide +kernel
theorem d1_31 : decode method_3_code 31 = .ok (.bipush 10, 2) := by decide +kernel
theorem d1_33 : decode method_3_code 33 = .ok (.if_icmp .eq 14, 3) := by decide +kernel
theorem d1_36 : decode method_3_code 36 = .ok (.iload 4, 2) := by decide +kernel
theorem d1_38 : decode method_3_code 38 = .ok (.bipush 13, 2) := by decide +kernel
theorem d1_40 : decode method_3_code 40 = .ok (.if_icmp .eq 7, 3) := by decide +kernel
theorem d1_43 : decode method_3_code 43 = .ok (.iconst 1, 1) := by decide +kernel
theorem d1_44 : decode method_3_code 44 = .ok (.goto 4, 3) := by decide +kernel
theorem pn_0 : plainName "com/example/arcwalk/arcwalk/TermSpansIsPlainPinLaw" = true := by first | (simp [plainName, overriddenIn]; done) | decide +kernel
theorem ef_1 (m : MethodId) (x0 : Addr) (x1 : Int32) (x2 : Int32) (x3 : Int32) : entryFrame m #[(.ref x0), (.int x1), (.int x2), (.int x3)] 5 = mkF m 0 #[rv x0, iv x1, iv x2, iv x3, .unset] [] := by first | (simp [entryFrame, mkF, argsToLocals, Value.category]; done) | rfl
def f_ok (ar : Addr) (ix : Int32) (ia : Int32) (ib : Int32) (fB : Nat → Int32) : Int32 := (if ix < ia then (1 : Int32) else (if ix < ib then (if (fB (ix).toNatClampNeg) < (0 : Int32) then (0 : Int32) else (if (fB (ix).toNatClampNeg) = (92 : Int32) then (0 : Int32) else (if (fB (ix).toNatClampNeg) = (10 : Int32) then (0 : Int32) else (if (fB (ix).toNatClampNeg) = (13 : Int32) then (0 : Int32) else (1 : Int32))))) else (1 : Int32)))
def Q1 (Z : State) (ar : Addr) (ix : Int32) (ia : Int32) (ib : Int32) (fB : Nat → Int32) (h0 : Heap) (n0 : Nat) (v : Option Value) (h : Heap) (L : List Loc) : Prop := v = some (.int (f_ok ar ix ia ib fB)) ∧ Fr n0 L ∧ h = h0
set_option maxRecDepth 65536 in
set_option maxHeartbeats 40000000 in
theorem rm1 (l : Launch) (Z : State) (a0 : Array Value) (hw : ∀ d ∈ tables_1, d.before a0 Z = true) (ws : List Jvm.Cond) (ar : Addr) (ix : Int32) (ia : Int32) (ib : Int32) (fB : Nat → Int32) (h0 : Heap) (n0 : Nat) (Z0 : n0 ≤ h0.size) (VB : BA Z h0 ar 4 fB) (hix : 0 ≤ ix.toInt ∧ ix.toInt < ((4 : Nat) : Int)) :
    MetFree l (⟨"com/example/arcwalk/arcwalk/TermSpansIsPlainPinLaw", "ok", "([BIII)Z"⟩ : MethodName) (head1 (Jvm.Cond.code (⟨"com/example/arcwalk/arcwalk/TermSpansIsPlainPinLaw", "ok", "([BIII)Z"⟩ : MethodName) method_3_code 5 (some .boolean) :: ws) ({ frames := 0, cells := 0, slots := 0, locals := 0 } : Room)) (fun a U => a = #[(.ref ar), (.int ix), (.int ia), (.int ib)] ∧ Z.Warmed39 U.vm ∧ U.heap = h0) (fun _ _ _ _ _ => True) (fun _ U o U' => ∃ v L, o = .returned v ∧ Q1 Z ar ix ia ib fB h0 n0 v U'.heap L ∧ FrameEnd U o U' L ({ frames := 0, cells := 0, slots := 0, locals := 0 } : Room).cells ({ frames := 0, cells := 0, slots := 0, locals := 0 } : Room).slots) := by
  refine MetFree.of_bodySF (plainFor_of_name pn_0) hisR ?_
  intro p e s m args below meth c s₁ Bd hml0 hP hK
  obtain ⟨rfl, hZ, hh⟩ := hP
  have hx := Bd.exec
  have hby := Bd.bytes
  have hml : c.maxLocals = 5 := hml0
  have hown : s.vm.findClass "com/example/arcwalk/arcwalk/TermSpansIsPlainPinLaw" = some m.cls := findClass_of_methodNamed Bd.named
  have hnm := (name_of_methodNamed Bd.named Bd.method).1
  have X0 : Stand p l e ({ frames := 0, cells := 0, slots := 0, locals := 0 } : Room) s m #[(.ref ar), (.int ix), (.int ia), (.int ib)] below meth c s₁ [] 0 0 := Stand.of_body Bd
  have e0 : s₁.heap = h0 := by rw [← hh, Bd.state]; rfl
  have N0 := Fr.nil n0
  have hlk : meth.locks = false := BodyLoose.notSynchronized Bd
  suffices hwk : Wk p.tables e below (s₁.setTop (mkF m 0 #[rv ar, iv ix, iv ia, iv ib, .unset] [])) (fun U o => U.status = .running ∧ Ended U below o ∧ ∃ v L, o = .returned v ∧ Q1 Z ar ix ia ib fB h0 n0 v U.heap L ∧ FrameEnd s o U L 0 0) by
    obtain ⟨U, o, k1, k2⟩ := hwk
    exact ⟨U, o, castTop (ef_1 m ar ix ia ib) k1, k2⟩
  refine Wk.go (A' := s₁.setTop (mkF m 1 #[rv ar, iv ix, iv ia, iv ib, .unset] [(.int ix)])) (fun t k => XS.iloadN X0.here hx rfl (hb hby d1_0) rfl k) ?_
  refine Wk.go (A' := s₁.setTop (mkF m 2 #[rv ar, iv ix, iv ia, iv ib, .unset] [(.int ia), (.int ix)])) (fun t k => XS.iloadN X0.here hx rfl (hb hby d1_1) rfl k) ?_
  by_cases hc2 : ix < ia
  · refine Wk.go (A' := s₁.setTop (mkF m 10 #[rv ar, iv ix, iv ia, iv ib, .unset] [])) (fun t k => XS.icmpYes X0.here hx rfl (pc0 := 2) (pc' := 10) rfl (hb hby d1_2) rfl (tlt hc2).1 (by decide) (by decide) k) ?_
    refine Wk.go (A' := s₁.setTop (mkF m 11 #[rv ar, iv ix, iv ia, iv ib, .unset] [(.int (1 : Int32))])) (fun t k => XS.iconst X0.here hx rfl (hb hby d1_10) k) ?_
    refine own_fin (Qv := Q1 Z ar ix ia ib fB h0 n0) (v := some (.int (1 : Int32))) X0 hlk (fun h => by rw [Bd.returns] at h; cases h) (fun fs hr => retN X0 hx (t := .boolean) Bd.returns (by simp) (hb hby d1_11) hr) ?_ (by decide) (by decide)
    refine ⟨?_, N0, e0⟩
    simp only [f_ok, if_pos hc2]
  · refine Wk.go (A' := s₁.setTop (mkF m 5 #[rv ar, iv ix, iv ia, iv ib, .unset] [])) (fun t k => XS.icmpNo X0.here hx rfl (hb hby d1_2) rfl (flt hc2).1 k) ?_
    refine Wk.go (A' := s₁.setTop (mkF m 6 #[rv ar, iv ix, iv ia, iv ib, .unset] [(.int ix)])) (fun t k => XS.iloadN X0.here hx rfl (hb hby d1_5) rfl k) ?_
    refine Wk.go (A' := s₁.setTop (mkF m 7 #[rv ar, iv ix, iv ia, iv ib, .unset] [(.int ib), (.int ix)])) (fun t k => XS.iloadN X0.here hx rfl (hb hby d1_6) rfl k) ?_
    by_cases hc7 : ix < ib
    · refine Wk.go (A' := s₁.setTop (mkF m 12 #[rv ar, iv ix, iv ia, iv ib, .unset] [])) (fun t k => XS.icmpYes X0.here hx rfl (pc0 := 7) (pc' := 12) rfl (hb hby d1_7) rfl (tlt hc7).1 (by decide) (by decide) k) ?_
      refine Wk.go (A' := s₁.setTop (mkF m 13 #[rv ar, iv ix, iv ia, iv ib, .unset] [(.ref ar)])) (fun t k => XS.aloadN X0.here hx rfl (hb hby d1_12) rfl rfl k) ?_
      refine Wk.go (A' := s₁.setTop (mkF m 14 #[rv ar, iv ix, iv ia, iv ib, .unset] [(.int ix), (.ref ar)])) (fun t k => XS.iloadN X0.here hx rfl (hb hby d1_13) rfl k) ?_
      refine Wk.go (A' := s₁.setTop (mkF m 15 #[rv ar, iv ix, iv ia, iv ib, .unset] [(.int (fB (ix).toNatClampNeg))])) (fun t k => own_ldB X0 hx hZ e0 VB (j := ix) hix (g := (mkF m 14 #[rv ar, iv ix, iv ia, iv ib, .unset] [(.int ix), (.ref ar)])) rfl rfl (hb hby d1_14) t k) ?_
      refine Wk.go (A' := s₁.setTop (mkF m 17 #[rv ar, iv ix, iv ia, iv ib, iv (fB (ix).toNatClampNeg)] [])) (fun t k => XS.istore X0.here hx rfl (hb hby d1_15) rfl (l' := #[rv ar, iv ix, iv ia, iv ib, iv (fB (ix).toNatClampNeg)]) rfl k) ?_
      refine Wk.go (A' := s₁.setTop (mkF m 19 #[rv ar, iv ix, iv ia, iv ib, iv (fB (ix).toNatClampNeg)] [(.int (fB (ix).toNatClampNeg))])) (fun t k => XS.iload X0.here hx rfl (hb hby d1_17) rfl k) ?_
      by_cases hc19 : (fB (ix).toNatClampNeg) < (0 : Int32)
      · refine Wk.go (A' := s₁.setTop (mkF m 47 #[rv ar, iv ix, iv ia, iv ib, iv (fB (ix).toNatClampNeg)] [])) (fun t k => XS.ifYes X0.here hx rfl (pc0 := 19) (pc' := 47) rfl (hb hby d1_19) rfl ((if0 _ _).trans (tlt hc19).1) (by decide) (by decide) k) ?_
        refine Wk.go (A' := s₁.setTop (mkF m 48 #[rv ar, iv ix, iv ia, iv ib, iv (fB (ix).toNatClampNeg)] [(.int (0 : Int32))])) (fun t k => XS.iconst X0.here hx rfl (hb hby d1_47) k) ?_
        refine own_fin (Qv := Q1 Z ar ix ia ib fB h0 n0) (v := some (.int (0 : Int32))) X0 hlk (fun h => by rw [Bd.returns] at h; cases h) (fun fs hr => retN X0 hx (t := .boolean) Bd.returns (by simp) (hb hby d1_48) hr) ?_ (by decide) (by decide)
        refine ⟨?_, N0, e0⟩
        simp only [f_ok, if_neg hc2, if_pos hc7, if_pos hc19]
      · refine Wk.go (A' := s₁.setTop (mkF m 22 #[rv ar, iv ix, iv ia, iv ib, iv (fB (ix).toNatClampNeg)] [])) (fun t k => XS.ifNo X0.here hx rfl (hb hby d1_19) rfl ((if0 _ _).trans (flt hc19).1) k) ?_
        refine Wk.go (A' := s₁.setTop (mkF m 24 #[rv ar, iv ix, iv ia, iv ib, iv (fB (ix).toNatClampNeg)] [(.int (fB (ix).toNatClampNeg))])) (fun t k => XS.iload X0.here hx rfl (hb hby d1_22) rfl k) ?_
        refine Wk.go (A' := s₁.setTop (mkF m 26 #[rv ar, iv ix, iv ia, iv ib, iv (fB (ix).toNatClampNeg)] [(.int (92 : Int32)), (.int (fB (ix).toNatClampNeg))])) (fun t k => XS.bipush X0.here hx rfl (hb hby d1_24) k) ?_
        by_cases hc26 : (fB (ix).toNatClampNeg) = (92 : Int32)
        · refine Wk.go (A' := s₁.setTop (mkF m 47 #[rv ar, iv ix, iv ia, iv ib, iv (fB (ix).toNatClampNeg)] [])) (fun t k => XS.icmpYes X0.here hx rfl (pc0 := 26) (pc' := 47) rfl (hb hby d1_26) rfl (teq hc26).1 (by decide) (by decide) k) ?_
          refine Wk.go (A' := s₁.setTop (mkF m 48 #[rv ar, iv ix, iv ia, iv ib, iv (fB (ix).toNatClampNeg)] [(.int (0 : Int32))])) (fun t k => XS.iconst X0.here hx rfl (hb hby d1_47) k) ?_
          refine own_fin (Qv := Q1 Z ar ix ia ib fB h0 n0) (v := some (.int (0 : Int32))) X0 hlk (fun h => by rw [Bd.returns] at h; cases h) (fun fs hr => retN X0 hx (t := .boolean) Bd.returns (by simp) (hb hby d1_48) hr) ?_ (by decide) (by decide)
          refine ⟨?_, N0, e0⟩
          simp only [f_ok, if_neg hc2, if_pos hc7, if_neg hc19, if_pos hc26]
        · refine Wk.go (A' := s₁.setTop (mkF m 29 #[rv ar, iv ix, iv ia, iv ib, iv (fB (ix).toNatClampNeg)] [])) (fun t k => XS.icmpNo X0.here hx rfl (hb hby d1_26) rfl (feq hc26).1 k) ?_
          refine Wk.go (A' := s₁.setTop (mkF m 31 #[rv ar, iv ix, iv ia, iv ib, iv (fB (ix).toNatClampNeg)] [(.int (fB (ix).toNatClampNeg))])) (fun t k => XS.iload X0.here hx rfl (hb hby d1_29) rfl k) ?_
          refine Wk.go (A' := s₁.setTop (mkF m 33 #[rv ar, iv ix, iv ia, iv ib, iv (fB (ix).toNatClampNeg)] [(.int (10 : Int32)), (.int (fB (ix).toNatClampNeg))])) (fun t k => XS.bipush X0.here hx rfl (hb hby d1_31) k) ?_
          by_cases hc33 : (fB (ix).toNatClampNeg) = (10 : Int32)
          · refine Wk.go (A' := s₁.setTop (mkF m 47 #[rv ar, iv ix, iv ia, iv ib, iv (fB (ix).toNatClampNeg)] [])) (fun t k => XS.icmpYes X0.here hx rfl (pc0 := 33) (pc' := 47) rfl (hb hby d1_33) rfl (teq hc33).1 (by decide) (by decide) k) ?_
            refine Wk.go (A' := s₁.setTop (mkF m 48 #[rv ar, iv ix, iv ia, iv ib, iv (fB (ix).toNatClampNeg)] [(.int (0 : Int32))])) (fun t k => XS.iconst X0.here hx rfl (hb hby d1_47) k) ?_
            refine own_fin (Qv := Q1 Z ar ix ia ib fB h0 n0) (v := some (.int (0 : Int32))) X0 hlk (fun h => by rw [Bd.returns] at h; cases h) (fun fs hr => retN X0 hx (t := .boolean) Bd.returns (by simp) (hb hby d1_48) hr) ?_ (by decide) (by decide)
            refine ⟨?_, N0, e0⟩
            simp only [f_ok, if_neg hc2, if_pos hc7, if_neg hc19, if_neg hc26, if_pos hc33]
          · refine Wk.go (A' := s₁.setTop (mkF m 36 #[rv ar, iv ix, iv ia, iv ib, iv (fB (ix).toNatClampNeg)] [])) (fun t k => XS.icmpNo X0.here hx rfl (hb hby d1_33) rfl (feq hc33).1 k) ?_
            refine Wk.go (A' := s₁.setTop (mkF m 38 #[rv ar, iv ix, iv ia, iv ib, iv (fB (ix).toNatClampNeg)] [(.int (fB (ix).toNatClampNeg))])) (fun t k => XS.iload X0.here hx rfl (hb hby d1_36) rfl k) ?_
            refine Wk.go (A' := s₁.setTop (mkF m 40 #[rv ar, iv ix, iv ia, iv ib, iv (fB (ix).toNatClampNeg)] [(.int (13 : Int32)), (.int (fB (ix).toNatClampNeg))])) (fun t k => XS.bipush X0.here hx rfl (hb hby d1_38) k) ?_
            by_cases hc40 : (fB (ix).toNatClampNeg) = (13 : Int32)
            · refine Wk.go (A' := s₁.setTop (mkF m 47 #[rv ar, iv ix, iv ia, iv ib, iv (fB (ix).toNatClampNeg)] [])) (fun t k => XS.icmpYes X0.here hx rfl (pc0 := 40) (pc' := 47) rfl (hb hby d1_40) rfl (teq hc40).1 (by decide) (by decide) k) ?_
              refine Wk.go (A' := s₁.setTop (mkF m 48 #[rv ar, iv ix, iv ia, iv ib, iv (fB (ix).toNatClampNeg)] [(.int (0 : Int32))])) (fun t k => XS.iconst X0.here hx rfl (hb hby d1_47) k) ?_
              refine own_fin (Qv := Q1 Z ar ix ia ib fB h0 n0) (v := some (.int (0 : Int32))) X0 hlk (fun h => by rw [Bd.returns] at h; cases h) (fun fs hr => retN X0 hx (t := .boolean) Bd.returns (by simp) (hb hby d1_48) hr) ?_ (by decide) (by decide)
              refine ⟨?_, N0, e0⟩
              simp only [f_ok, if_neg hc2, if_pos hc7, if_neg hc19, if_neg hc26, if_neg hc33, if_pos hc40]
            · refine Wk.go (A' := s₁.setTop (mkF m 43 #[rv ar, iv ix, iv ia, iv ib, iv (fB (ix).toNatClampNeg)] [])) (fun t k => XS.icmpNo X0.here hx rfl (hb hby d1_40) rfl (feq hc40).1 k) ?_
              refine Wk.go (A' := s₁.setTop (mkF m 44 #[rv ar, iv ix, iv ia, iv ib, iv (fB (ix).toNatClampNeg)] [(.int (1 : Int32))])) (fun t k => XS.iconst X0.here hx rfl (hb hby d1_43) k) ?_
              refine Wk.go (A' := s₁.setTop (mkF m 48 #[rv ar, iv ix, iv ia, iv ib, iv (fB (ix).toNatClampNeg)] [(.int (1 : Int32))])) (fun t k => XS.goto X0.here hx rfl (pc0 := 44) (pc' := 48) rfl (hb hby d1_44) (by decide) (by decide) k) ?_
              refine own_fin (Qv := Q1 Z ar ix ia ib fB h0 n0) (v := some (.int (1 : Int32))) X0 hlk (fun h => by rw [Bd.returns] at h; cases h) (fun fs hr => retN X0 hx (t := .boolean) Bd.returns (by simp) (hb hby d1_48) hr) ?_ (by decide) (by decide)
              refine ⟨?_, N0, e0⟩
              simp only [f_ok, if_neg hc2, if_pos hc7, if_neg hc19, if_neg hc26, if_neg hc33, if_neg hc40]
    · refine Wk.go (A' := s₁.setTop (mkF m 10 #[rv ar, iv ix, iv ia, iv ib, .unset] [])) (fun t k => XS.icmpNo X0.here hx rfl (hb hby d1_7) rfl (flt hc7).1 k) ?_
      refine Wk.go (A' := s₁.setTop (mkF m 11 #[rv ar, iv ix, iv ia, iv ib, .unset] [(.int (1 : Int32))])) (fun t k => XS.iconst X0.here hx rfl (hb hby d1_10) k) ?_
      refine own_fin (Qv := Q1 Z ar ix ia ib fB h0 n0) (v := some (.int (1 : Int32))) X0 hlk (fun h => by rw [Bd.returns] at h; cases h) (fun fs hr => retN X0 hx (t := .boolean) Bd.returns (by simp) (hb hby d1_11) hr) ?_ (by decide) (by decide)
      refine ⟨?_, N0, e0⟩
      simp only [f_ok, if_neg hc2, if_neg hc7]
def own_good (y : Int32) : Prop := ¬ (y < (0 : Int32)) ∧ ¬ (y = (92 : Int32)) ∧ ¬ (y = (10 : Int32)) ∧ ¬ (y = (13 : Int32))
/-- what is known behind the turns up to i: all good so far, or one was not -/
def own_inv (f : Nat → Int32) (a : Int) (i seen bad : Int32) : Prop := (¬ (seen < (0 : Int32)) ∧ bad = 0 ∧ ∀ j : Nat, a ≤ (j : Int) → (j : Int) < i.toInt → own_good (f j)) ∨ ((seen < (0 : Int32) ∨ bad ≠ 0) ∧ ∃ j : Nat, a ≤ (j : Int) ∧ (j : Int) < i.toInt ∧ ¬ own_good (f j))
theorem own_or0 (b : Int32) : b ||| (0 : Int32) = b := Int32.or_zero
theorem own_or1 (b : Int32) : b ||| (1 : Int32) ≠ 0 := fun q => by
  have h := congrArg (fun z : Int32 => z.toBitVec.getLsbD 0) q
  simp only [Int32.toBitVec_or, BitVec.getLsbD_or] at h
  have e : (1 : Int32).toBitVec.getLsbD 0 = true := by decide
  have e0 : (0 : Int32).toBitVec.getLsbD 0 = false := by decide
  rw [e, e0, Bool.or_true] at h
  exact absurd h (by decide)
theorem own_orz (b c : Int32) (h : b ≠ 0) : b ||| c ≠ 0 := fun q => h (by
  apply Int32.toBitVec_inj.mp
  have h2 : b.toBitVec ||| c.toBitVec = 0#32 := congrArg Int32.toBitVec q
  exact (BitVec.or_eq_zero_iff.mp h2).1)
theorem own_neg (a b : Int32) : (a ||| b < (0 : Int32)) ↔ (a < (0 : Int32) ∨ b < (0 : Int32)) := by
  have h := c_orS a b
  have e0 : (0 : Int32).toInt = 0 := by decide
  simp only [Int32.lt_iff_toInt_lt, e0]
  constructor
  · intro q
    by_cases h1 : a.toInt < 0
    · exact Or.inl h1
    · by_cases h2 : b.toInt < 0
      · exact Or.inr h2
      · have := h.1 (by omega) (by omega); omega
  · rintro (q | q)
    · exact h.2.1 q
    · exact h.2.2 q
theorem own_next {i : Int32} {k : Nat} {z : Int32} (h : i.toInt + ((k + 1 : Nat) : Int) = z.toInt) (h0 : 0 ≤ i.toInt) : (i + (1 : Int32)).toInt = i.toInt + 1 := by
  have a := c_iadd i 1
  have r := rng32 (i + 1)
  have r2 := rng32 z
  have e1 : (1 : Int32).toInt = 1 := by decide
  omega
theorem own_turn {f : Nat → Int32} {a : Int} {i seen bad : Int32} {k : Nat} {z c : Int32} (h : i.toInt + ((k + 1 : Nat) : Int) = z.toInt) (h0 : 0 ≤ i.toInt) (ha : a ≤ i.toInt) (hv : own_inv f a i seen bad)
    (hc : (c = 1 ∧ (f i.toNatClampNeg = (92 : Int32) ∨ f i.toNatClampNeg = (10 : Int32) ∨ f i.toNatClampNeg = (13 : Int32))) ∨ (c = 0 ∧ ¬ (f i.toNatClampNeg = (92 : Int32)) ∧ ¬ (f i.toNatClampNeg = (10 : Int32)) ∧ ¬ (f i.toNatClampNeg = (13 : Int32)))) :
    (i + (1 : Int32)).toInt + (k : Int) = z.toInt ∧ 0 ≤ (i + (1 : Int32)).toInt ∧ a ≤ (i + (1 : Int32)).toInt ∧ own_inv f a (i + (1 : Int32)) (seen ||| f (i).toNatClampNeg) (bad ||| c) := by
  have e := own_next h h0
  have hcl := own_clamp h0
  refine ⟨by omega, by omega, by omega, ?_⟩
  rcases hv with ⟨v1, v2, v3⟩ | ⟨v1, j, v2, v3, v4⟩
  · by_cases hg : own_good (f i.toNatClampNeg)
    · left
      refine ⟨?_, ?_, ?_⟩
      · rw [own_neg]; exact fun q => q.elim v1 hg.1
      · rcases hc with ⟨rfl, q⟩ | ⟨rfl, -⟩
        · exact absurd q (fun q => q.elim hg.2.1 (fun q => q.elim hg.2.2.1 hg.2.2.2))
        · rw [own_or0]; exact v2
      · intro j h1 h2
        by_cases q : (j : Int) < i.toInt
        · exact v3 j h1 q
        · have : j = i.toNatClampNeg := by omega
          rw [this]; exact hg
    · right
      refine ⟨?_, i.toNatClampNeg, by omega, by omega, hg⟩
      rcases hc with ⟨rfl, q⟩ | ⟨rfl, q1, q2, q3⟩
      · exact Or.inr (own_or1 _)
      · left
        rw [own_neg]; right
        by_cases q4 : f i.toNatClampNeg < (0 : Int32)
        · exact q4
        · exact absurd ⟨q4, q1, q2, q3⟩ hg
  · right
    refine ⟨?_, j, v2, by omega, v4⟩
    rcases v1 with v1 | v1
    · left; rw [own_neg]; exact Or.inl v1
    · right; exact own_orz _ _ v1
theorem own_all {f : Nat → Int32} {a : Int} {i seen bad : Int32} (hv : own_inv f a i seen bad) (h1 : ¬ (seen < (0 : Int32))) (h2 : bad = (0 : Int32)) : ∀ j : Nat, a ≤ (j : Int) → (j : Int) < i.toInt → own_good (f j) := by
  rcases hv with ⟨_, _, v3⟩ | ⟨v1, _⟩
  · exact v3
  · exact absurd v1 (fun q => q.elim h1 (fun q => q h2))
theorem own_one {f : Nat → Int32} {a : Int} {i seen bad : Int32} (hv : own_inv f a i seen bad) (h : seen < (0 : Int32) ∨ ¬ (bad = (0 : Int32))) : ∃ j : Nat, a ≤ (j : Int) ∧ (j : Int) < i.toInt ∧ ¬ own_good (f j) := by
  rcases hv with ⟨v1, v2, _⟩ | ⟨_, v⟩
  · exact absurd h (fun q => q.elim v1 (fun q => q v2))
  · exact v
theorem d2_0 : decode prog_83_method_20_code 0 = .ok (.iconst 0, 1) := by decide +kernel
theorem d2_1 : decode prog_83_method_20_code 1 = .ok (.istore_n 3, 1) := by decide +kernel
theorem d2_2 : decode prog_83_method_20_code 2 = .ok (.iconst 0, 1) := by decide +kernel
theorem d2_3 : decode prog_83_method_20_code 3 = .ok (.istore 4, 2) := by decide +kernel
theorem d2_5 : decode prog_83_method_20_code 5 = .ok (.iload_n 1, 1) := by decide +kernel
theorem d2_6 : decode prog_83_method_20_code 6 = .ok (.istore 5, 2) := by decide +kernel
theorem d2_8 : decode prog_83_method_20_code 8 = .ok (.iload 5, 2) := by decide +kernel
theorem d2_10 : decode prog_83_method_20_code 10 = .ok (.iload_n 2, 1) := by decide +kernel
theorem d2_11 : decode prog_83_method_20_code 11 = .ok (.if_icmp .ge 51, 3) := by decide +kernel
theorem d2_62 : decode prog_83_method_20_code 62 = .ok (.iload_n 3, 1) := by decide +kernel
theorem d2_63 : decode prog_83_method_20_code 63 = .ok (.ifCond .lt 12, 3) := by decide +kernel
theorem d2_75 : decode prog_83_method_20_code 75 = .ok (.iconst 0, 1) := by decide +kernel
theorem d2_76 : decode prog_83_method_20_code 76 = .ok (.ireturn, 1) := by decide +kernel
theorem d2_66 : decode prog_83_method_20_code 66 = .ok (.iload 4, 2) := by decide +kernel
theorem d2_68 : decode prog_83_method_20_code 68 = .ok (.ifCond .ne 7, 3) := by decide +kernel
theorem d2_71 : decode prog_83_method_20_code 71 = .ok (.iconst 1, 1) := by decide +kernel
theorem d2_72 : decode prog_83_method_20_code 72 = .ok (.goto 4, 3) := by decide +kernel
theorem d2_14 : decode prog_83_method_20_code 14 = .ok (.aload_n 0, 1) := by decide +kernel
theorem d2_15 : decode prog_83_method_20_code 15 = .ok (.iload 5, 2) := by decide +kernel
theorem d2_17 : decode prog_83_method_20_code 17 = .ok (.baload, 1) := by decide +kernel
theorem d2_18 : decode prog_83_method_20_code 18 = .ok (.istore 6, 2) := by decide +kernel
theorem d2_20 : decode prog_83_method_20_code 20 = .ok (.iload_n 3, 1) := by decide +kernel
theorem d2_21 : decode prog_83_method_20_code 21 = .ok (.iload 6, 2) := by decide +kernel
theorem d2_23 : decode prog_83_method_20_code 23 = .ok (.ior, 1) := by decide +kernel
theorem d2_24 : decode prog_83_method_20_code 24 = .ok (.istore_n 3, 1) := by decide +kernel
theorem d2_25 : decode prog_83_method_20_code 25 = .ok (.iload 4, 2) := by decide +kernel
theorem d2_27 : decode prog_83_method_20_code 27 = .ok (.iload 6, 2) := by decide +kernel
theorem d2_29 : decode prog_83_method_20_code 29 = .ok (.bipush 92, 2) := by decide +kernel
theorem d2_31 : decode prog_83_method_20_code 31 = .ok (.if_icmp .eq 17, 3) := by decide +kernel
theorem d2_48 : decode prog_83_method_20_code 48 = .ok (.iconst 1, 1) := by decide +kernel
theorem d2_49 : decode prog_83_method_20_code 49 = .ok (.goto 4, 3) := by decide +kernel
theorem d2_53 : decode prog_83_method_20_code 53 = .ok (.ior, 1) := by decide +kernel
theorem d2_54 : decode prog_83_method_20_code 54 = .ok (.istore 4, 2) := by decide +kernel
theorem d2_56 : decode prog_83_method_20_code 56 = .ok (.iinc 5 1, 3) := by decide +kernel
theorem d2_59 : decode prog_83_method_20_code 59 = .ok (.goto (-51), 3) := by decide +kernel
theorem d2_34 : decode prog_83_method_20_code 34 = .ok (.iload 6, 2) := by decide +kernel
theorem d2_36 : decode prog_83_method_20_code 36 = .ok (.bipush 10, 2) := by decide +kernel
theorem d2_38 : decode prog_83_method_20_code 38 = .ok (.if_icmp .eq 10, 3) := by decide +kernel
theorem d2_41 : decode prog_83_method_20_code 41 = .ok (.iload 6, 2) := by decide +kernel
theorem d2_43 : decode prog_83_method_20_code 43 = .ok (.bipush 13, 2) := by decide +kernel
theorem d2_45 : decode prog_83_method_20_code 45 = .ok (.if_icmp .ne 7, 3) := by decide +kernel
theorem d2_52 : decode prog_83_method_20_code 52 = .ok (.iconst 0, 1) := by decide +kernel
theorem pn_1 : plainName "com/example/arcwalk/arcwalk/TermSpans" = true := by first | (simp [plainName, overriddenIn]; done) | decide +kernel
theorem ef_2 (m : MethodId) (x0 : Addr) (x1 : Int32) (x2 : Int32) : entryFrame m #[(.ref x0), (.int x1), (.int x2)] 7 = mkF m 0 #[rv x0, iv x1, iv x2, .unset, .unset, .unset, .unset] [] := by first | (simp [entryFrame, mkF, argsToLocals, Value.category]; done) | rfl
def Q2 (Z : State) (ar : Addr) (ia : Int32) (ib : Int32) (fB : Nat → Int32) (h0 : Heap) (n0 : Nat) (v : Option Value) (h : Heap) (L : List Loc) : Prop := ∃ r : Int32, v = some (.int r) ∧ Fr n0 L ∧ h = h0 ∧ ((r = 1 ∧ ∀ j : Nat, ia.toInt ≤ (j : Int) → (j : Int) < ib.toInt → own_good (fB j)) ∨ (r = 0 ∧ ∃ j : Nat, ia.toInt ≤ (j : Int) ∧ (j : Int) < ib.toInt ∧ ¬ own_good (fB j)))
set_option maxRecDepth 65536 in
set_option maxHeartbeats 40000000 in
theorem rm2 (l : Launch) (Z : State) (a0 : Array Value) (hw : ∀ d ∈ tables_1, d.before a0 Z = true) (ws : List Jvm.Cond) (ar : Addr) (ia : Int32) (ib : Int32) (fB : Nat → Int32) (h0 : Heap) (n0 : Nat) (Z0 : n0 ≤ h0.size) (VB : BA Z h0 ar 4 fB) (h1 : 0 ≤ ia.toInt) (h3 : ib.toInt ≤ 4) :
    MetFree l (⟨"com/example/arcwalk/arcwalk/TermSpans", "isPlain", "([BII)Z"⟩ : MethodName) (head1 (Jvm.Cond.code (⟨"com/example/arcwalk/arcwalk/TermSpans", "isPlain", "([BII)Z"⟩ : MethodName) prog_83_method_20_code 7 (some .boolean) :: ws) ({ frames := 0, cells := 0, slots := 0, locals := 0 } : Room)) (fun a U => a = #[(.ref ar), (.int ia), (.int ib)] ∧ Z.Warmed39 U.vm ∧ U.heap = h0) (fun _ _ _ _ _ => True) (fun _ U o U' => ∃ v L, o = .returned v ∧ Q2 Z ar ia ib fB h0 n0 v U'.heap L ∧ FrameEnd U o U' L ({ frames := 0, cells := 0, slots := 0, locals := 0 } : Room).cells ({ frames := 0, cells := 0, slots := 0, locals := 0 } : Room).slots) := by
  refine MetFree.of_bodySF (plainFor_of_name pn_1) hisR ?_
  intro p e s m args below meth c s₁ Bd hml0 hP hK
  obtain ⟨rfl, hZ, hh⟩ := hP
  have hx := Bd.exec
  have hby := Bd.bytes
  have hml : c.maxLocals = 7 := hml0
  have hown : s.vm.findClass "com/example/arcwalk/arcwalk/TermSpans" = some m.cls := findClass_of_methodNamed Bd.named
  have hnm := (name_of_methodNamed Bd.named Bd.method).1
  have X0 : Stand p l e ({ frames := 0, cells := 0, slots := 0, locals := 0 } : Room) s m #[(.ref ar), (.int ia), (.int ib)] below meth c s₁ [] 0 0 := Stand.of_body Bd
  have e0 : s₁.heap = h0 := by rw [← hh, Bd.state]; rfl
  have N0 := Fr.nil n0
  have hlk : meth.locks = false := BodyLoose.notSynchronized Bd
  suffices hwk : Wk p.tables e below (s₁.setTop (mkF m 0 #[rv ar, iv ia, iv ib, .unset, .unset, .unset, .unset] [])) (fun U o => U.status = .running ∧ Ended U below o ∧ ∃ v L, o = .returned v ∧ Q2 Z ar ia ib fB h0 n0 v U.heap L ∧ FrameEnd s o U L 0 0) by
    obtain ⟨U, o, k1, k2⟩ := hwk
    exact ⟨U, o, castTop (ef_2 m ar ia ib) k1, k2⟩
  refine Wk.go (A' := s₁.setTop (mkF m 1 #[rv ar, iv ia, iv ib, .unset, .unset, .unset, .unset] [(.int (0 : Int32))])) (fun t k => XS.iconst X0.here hx rfl (hb hby d2_0) k) ?_
  refine Wk.go (A' := s₁.setTop (mkF m 2 #[rv ar, iv ia, iv ib, iv (0 : Int32), .unset, .unset, .unset] [])) (fun t k => XS.istoreN X0.here hx rfl (hb hby d2_1) rfl (l' := #[rv ar, iv ia, iv ib, iv (0 : Int32), .unset, .unset, .unset]) rfl k) ?_
  refine Wk.go (A' := s₁.setTop (mkF m 3 #[rv ar, iv ia, iv ib, iv (0 : Int32), .unset, .unset, .unset] [(.int (0 : Int32))])) (fun t k => XS.iconst X0.here hx rfl (hb hby d2_2) k) ?_
  refine Wk.go (A' := s₁.setTop (mkF m 5 #[rv ar, iv ia, iv ib, iv (0 : Int32), iv (0 : Int32), .unset, .unset] [])) (fun t k => XS.istore X0.here hx rfl (hb hby d2_3) rfl (l' := #[rv ar, iv ia, iv ib, iv (0 : Int32), iv (0 : Int32), .unset, .unset]) rfl k) ?_
  refine Wk.go (A' := s₁.setTop (mkF m 6 #[rv ar, iv ia, iv ib, iv (0 : Int32), iv (0 : Int32), .unset, .unset] [(.int ia)])) (fun t k => XS.iloadN X0.here hx rfl (hb hby d2_5) rfl k) ?_
  refine Wk.go (A' := s₁.setTop (mkF m 8 #[rv ar, iv ia, iv ib, iv (0 : Int32), iv (0 : Int32), iv ia, .unset] [])) (fun t k => XS.istore X0.here hx rfl (hb hby d2_6) rfl (l' := #[rv ar, iv ia, iv ib, iv (0 : Int32), iv (0 : Int32), iv ia, .unset]) rfl k) ?_
  by_cases hle : ia.toInt ≤ ib.toInt
  · have loop8 : ∀ (k : Nat) (seen : Int32) (bad : Int32) (i : Int32) (s6 : Slot) (hs6 : s6 = .unset ∨ ∃ w, s6 = .val w ∧ w.category = 1), (i.toInt + (k : Int) = ib.toInt ∧ 0 ≤ i.toInt ∧ ia.toInt ≤ i.toInt ∧ own_inv fB ia.toInt i seen bad) → Wk p.tables e below (s₁.setTop (mkF m 8 #[rv ar, iv ia, iv ib, iv seen, iv bad, iv i, s6] [])) (fun U o => U.status = .running ∧ Ended U below o ∧ ∃ v L, o = .returned v ∧ Q2 Z ar ia ib fB h0 n0 v U.heap L ∧ FrameEnd s o U L 0 0) := by
      intro k
      induction k with
      | zero =>
        intro seen bad i s6 hs6 hinv
        refine Wk.go (A' := s₁.setTop (mkF m 10 #[rv ar, iv ia, iv ib, iv seen, iv bad, iv i, s6] [(.int i)])) (fun t k => XS.iload X0.here hx rfl (hb hby d2_8) rfl k) ?_
        refine Wk.go (A' := s₁.setTop (mkF m 11 #[rv ar, iv ia, iv ib, iv seen, iv bad, iv i, s6] [(.int ib), (.int i)])) (fun t k => XS.iloadN X0.here hx rfl (hb hby d2_10) rfl k) ?_
        have hc11 : ¬ (i < ib) := by rw [Int32.lt_iff_toInt_lt]; have := hinv.1; omega
        refine Wk.go (A' := s₁.setTop (mkF m 62 #[rv ar, iv ia, iv ib, iv seen, iv bad, iv i, s6] [])) (fun t k => XS.icmpYes X0.here hx rfl (pc0 := 11) (pc' := 62) rfl (hb hby d2_11) rfl (flt hc11).2.1 (by decide) (by decide) k) ?_
        refine Wk.go (A' := s₁.setTop (mkF m 63 #[rv ar, iv ia, iv ib, iv seen, iv bad, iv i, s6] [(.int seen)])) (fun t k => XS.iloadN X0.here hx rfl (hb hby d2_62) rfl k) ?_
        by_cases hc63 : seen < (0 : Int32)
        · refine Wk.go (A' := s₁.setTop (mkF m 75 #[rv ar, iv ia, iv ib, iv seen, iv bad, iv i, s6] [])) (fun t k => XS.ifYes X0.here hx rfl (pc0 := 63) (pc' := 75) rfl (hb hby d2_63) rfl ((if0 _ _).trans (tlt hc63).1) (by decide) (by decide) k) ?_
          refine Wk.go (A' := s₁.setTop (mkF m 76 #[rv ar, iv ia, iv ib, iv seen, iv bad, iv i, s6] [(.int (0 : Int32))])) (fun t k => XS.iconst X0.here hx rfl (hb hby d2_75) k) ?_
          refine own_fin (Qv := Q2 Z ar ia ib fB h0 n0) (v := some (.int (0 : Int32))) X0 hlk (fun h => by rw [Bd.returns] at h; cases h) (fun fs hr => retN X0 hx (t := .boolean) Bd.returns (by simp) (hb hby d2_76) hr) ?_ (by decide) (by decide)
          have hib : i.toInt = ib.toInt := by have := hinv.1; omega
          exact ⟨_, rfl, N0, e0, Or.inr ⟨rfl, by rw [← hib]; exact own_one hinv.2.2.2 (Or.inl hc63)⟩⟩
        · refine Wk.go (A' := s₁.setTop (mkF m 66 #[rv ar, iv ia, iv ib, iv seen, iv bad, iv i, s6] [])) (fun t k => XS.ifNo X0.here hx rfl (hb hby d2_63) rfl ((if0 _ _).trans (flt hc63).1) k) ?_
          refine Wk.go (A' := s₁.setTop (mkF m 68 #[rv ar, iv ia, iv ib, iv seen, iv bad, iv i, s6] [(.int bad)])) (fun t k => XS.iload X0.here hx rfl (hb hby d2_66) rfl k) ?_
          by_cases hc68 : bad = (0 : Int32)
          · refine Wk.go (A' := s₁.setTop (mkF m 71 #[rv ar, iv ia, iv ib, iv seen, iv bad, iv i, s6] [])) (fun t k => XS.ifNo X0.here hx rfl (hb hby d2_68) rfl ((if0 _ _).trans (teq hc68).2) k) ?_
            refine Wk.go (A' := s₁.setTop (mkF m 72 #[rv ar, iv ia, iv ib, iv seen, iv bad, iv i, s6] [(.int (1 : Int32))])) (fun t k => XS.iconst X0.here hx rfl (hb hby d2_71) k) ?_
            refine Wk.go (A' := s₁.setTop (mkF m 76 #[rv ar, iv ia, iv ib, iv seen, iv bad, iv i, s6] [(.int (1 : Int32))])) (fun t k => XS.goto X0.here hx rfl (pc0 := 72) (pc' := 76) rfl (hb hby d2_72) (by decide) (by decide) k) ?_
            refine own_fin (Qv := Q2 Z ar ia ib fB h0 n0) (v := some (.int (1 : Int32))) X0 hlk (fun h => by rw [Bd.returns] at h; cases h) (fun fs hr => retN X0 hx (t := .boolean) Bd.returns (by simp) (hb hby d2_76) hr) ?_ (by decide) (by decide)
            have hib : i.toInt = ib.toInt := by have := hinv.1; omega
            exact ⟨_, rfl, N0, e0, Or.inl ⟨rfl, fun j q1 q2 => (own_all hinv.2.2.2 hc63 hc68) j q1 (by omega)⟩⟩
          · refine Wk.go (A' := s₁.setTop (mkF m 75 #[rv ar, iv ia, iv ib, iv seen, iv bad, iv i, s6] [])) (fun t k => XS.ifYes X0.here hx rfl (pc0 := 68) (pc' := 75) rfl (hb hby d2_68) rfl ((if0 _ _).trans (feq hc68).2) (by decide) (by decide) k) ?_
            refine Wk.go (A' := s₁.setTop (mkF m 76 #[rv ar, iv ia, iv ib, iv seen, iv bad, iv i, s6] [(.int (0 : Int32))])) (fun t k => XS.iconst X0.here hx rfl (hb hby d2_75) k) ?_
            refine own_fin (Qv := Q2 Z ar ia ib fB h0 n0) (v := some (.int (0 : Int32))) X0 hlk (fun h => by rw [Bd.returns] at h; cases h) (fun fs hr => retN X0 hx (t := .boolean) Bd.returns (by simp) (hb hby d2_76) hr) ?_ (by decide) (by decide)
            have hib : i.toInt = ib.toInt := by have := hinv.1; omega
            exact ⟨_, rfl, N0, e0, Or.inr ⟨rfl, by rw [← hib]; exact own_one hinv.2.2.2 (Or.inr hc68)⟩⟩
      | succ k ih =>
        intro seen bad i s6 hs6 hinv
        refine Wk.go (A' := s₁.setTop (mkF m 10 #[rv ar, iv ia, iv ib, iv seen, iv bad, iv i, s6] [(.int i)])) (fun t k => XS.iload X0.here hx rfl (hb hby d2_8) rfl k) ?_
        refine Wk.go (A' := s₁.setTop (mkF m 11 #[rv ar, iv ia, iv ib, iv seen, iv bad, iv i, s6] [(.int ib), (.int i)])) (fun t k => XS.iloadN X0.here hx rfl (hb hby d2_10) rfl k) ?_
        have hc11 : i < ib := by rw [Int32.lt_iff_toInt_lt]; have := hinv.1; omega
        refine Wk.go (A' := s₁.setTop (mkF m 14 #[rv ar, iv ia, iv ib, iv seen, iv bad, iv i, s6] [])) (fun t k => XS.icmpNo X0.here hx rfl (hb hby d2_11) rfl (tlt hc11).2.1 k) ?_
        refine Wk.go (A' := s₁.setTop (mkF m 15 #[rv ar, iv ia, iv ib, iv seen, iv bad, iv i, s6] [(.ref ar)])) (fun t k => XS.aloadN X0.here hx rfl (hb hby d2_14) rfl rfl k) ?_
        refine Wk.go (A' := s₁.setTop (mkF m 17 #[rv ar, iv ia, iv ib, iv seen, iv bad, iv i, s6] [(.int i), (.ref ar)])) (fun t k => XS.iload X0.here hx rfl (hb hby d2_15) rfl k) ?_
        refine Wk.go (A' := s₁.setTop (mkF m 18 #[rv ar, iv ia, iv ib, iv seen, iv bad, iv i, s6] [(.int (fB (i).toNatClampNeg))])) (fun t k => own_ldB X0 hx hZ e0 VB (j := i) ⟨hinv.2.1, by have := hinv.1; omega⟩ (g := (mkF m 17 #[rv ar, iv ia, iv ib, iv seen, iv bad, iv i, s6] [(.int i), (.ref ar)])) rfl rfl (hb hby d2_17) t k) ?_
        refine Wk.go (A' := s₁.setTop (mkF m 20 #[rv ar, iv ia, iv ib, iv seen, iv bad, iv i, iv (fB (i).toNatClampNeg)] [])) (fun t k => XS.istoreS X0.here hx rfl (hb hby d2_18) rfl rfl hs6 k) ?_
        refine Wk.go (A' := s₁.setTop (mkF m 21 #[rv ar, iv ia, iv ib, iv seen, iv bad, iv i, iv (fB (i).toNatClampNeg)] [(.int seen)])) (fun t k => XS.iloadN X0.here hx rfl (hb hby d2_20) rfl k) ?_
        refine Wk.go (A' := s₁.setTop (mkF m 23 #[rv ar, iv ia, iv ib, iv seen, iv bad, iv i, iv (fB (i).toNatClampNeg)] [(.int (fB (i).toNatClampNeg)), (.int seen)])) (fun t k => XS.iload X0.here hx rfl (hb hby d2_21) rfl k) ?_
        refine Wk.go (A' := s₁.setTop (mkF m 24 #[rv ar, iv ia, iv ib, iv seen, iv bad, iv i, iv (fB (i).toNatClampNeg)] [(.int (seen ||| (fB (i).toNatClampNeg)))])) (fun t k => XS.ior X0.here hx rfl (hb hby d2_23) rfl k) ?_
        refine Wk.go (A' := s₁.setTop (mkF m 25 #[rv ar, iv ia, iv ib, iv (seen ||| (fB (i).toNatClampNeg)), iv bad, iv i, iv (fB (i).toNatClampNeg)] [])) (fun t k => XS.istoreN X0.here hx rfl (hb hby d2_24) rfl (l' := #[rv ar, iv ia, iv ib, iv (seen ||| (fB (i).toNatClampNeg)), iv bad, iv i, iv (fB (i).toNatClampNeg)]) rfl k) ?_
        refine Wk.go (A' := s₁.setTop (mkF m 27 #[rv ar, iv ia, iv ib, iv (seen ||| (fB (i).toNatClampNeg)), iv bad, iv i, iv (fB (i).toNatClampNeg)] [(.int bad)])) (fun t k => XS.iload X0.here hx rfl (hb hby d2_25) rfl k) ?_
        refine Wk.go (A' := s₁.setTop (mkF m 29 #[rv ar, iv ia, iv ib, iv (seen ||| (fB (i).toNatClampNeg)), iv bad, iv i, iv (fB (i).toNatClampNeg)] [(.int (fB (i).toNatClampNeg)), (.int bad)])) (fun t k => XS.iload X0.here hx rfl (hb hby d2_27) rfl k) ?_
        refine Wk.go (A' := s₁.setTop (mkF m 31 #[rv ar, iv ia, iv ib, iv (seen ||| (fB (i).toNatClampNeg)), iv bad, iv i, iv (fB (i).toNatClampNeg)] [(.int (92 : Int32)), (.int (fB (i).toNatClampNeg)), (.int bad)])) (fun t k => XS.bipush X0.here hx rfl (hb hby d2_29) k) ?_
        by_cases hc31 : (fB (i).toNatClampNeg) = (92 : Int32)
        · refine Wk.go (A' := s₁.setTop (mkF m 48 #[rv ar, iv ia, iv ib, iv (seen ||| (fB (i).toNatClampNeg)), iv bad, iv i, iv (fB (i).toNatClampNeg)] [(.int bad)])) (fun t k => XS.icmpYes X0.here hx rfl (pc0 := 31) (pc' := 48) rfl (hb hby d2_31) rfl (teq hc31).1 (by decide) (by decide) k) ?_
          refine Wk.go (A' := s₁.setTop (mkF m 49 #[rv ar, iv ia, iv ib, iv (seen ||| (fB (i).toNatClampNeg)), iv bad, iv i, iv (fB (i).toNatClampNeg)] [(.int (1 : Int32)), (.int bad)])) (fun t k => XS.iconst X0.here hx rfl (hb hby d2_48) k) ?_
          refine Wk.go (A' := s₁.setTop (mkF m 53 #[rv ar, iv ia, iv ib, iv (seen ||| (fB (i).toNatClampNeg)), iv bad, iv i, iv (fB (i).toNatClampNeg)] [(.int (1 : Int32)), (.int bad)])) (fun t k => XS.goto X0.here hx rfl (pc0 := 49) (pc' := 53) rfl (hb hby d2_49) (by decide) (by decide) k) ?_
          refine Wk.go (A' := s₁.setTop (mkF m 54 #[rv ar, iv ia, iv ib, iv (seen ||| (fB (i).toNatClampNeg)), iv bad, iv i, iv (fB (i).toNatClampNeg)] [(.int (bad ||| (1 : Int32)))])) (fun t k => XS.ior X0.here hx rfl (hb hby d2_53) rfl k) ?_
          refine Wk.go (A' := s₁.setTop (mkF m 56 #[rv ar, iv ia, iv ib, iv (seen ||| (fB (i).toNatClampNeg)), iv (bad ||| (1 : Int32)), iv i, iv (fB (i).toNatClampNeg)] [])) (fun t k => XS.istore X0.here hx rfl (hb hby d2_54) rfl (l' := #[rv ar, iv ia, iv ib, iv (seen ||| (fB (i).toNatClampNeg)), iv (bad ||| (1 : Int32)), iv i, iv (fB (i).toNatClampNeg)]) rfl k) ?_
          refine Wk.go (A' := s₁.setTop (mkF m 59 #[rv ar, iv ia, iv ib, iv (seen ||| (fB (i).toNatClampNeg)), iv (bad ||| (1 : Int32)), iv (i + (1 : Int32)), iv (fB (i).toNatClampNeg)] [])) (fun t k => XS.iinc X0.here hx rfl (hb hby d2_56) rfl (l' := #[rv ar, iv ia, iv ib, iv (seen ||| (fB (i).toNatClampNeg)), iv (bad ||| (1 : Int32)), iv (i + (1 : Int32)), iv (fB (i).toNatClampNeg)]) rfl k) ?_
          refine Wk.go (A' := s₁.setTop (mkF m 8 #[rv ar, iv ia, iv ib, iv (seen ||| (fB (i).toNatClampNeg)), iv (bad ||| (1 : Int32)), iv (i + (1 : Int32)), iv (fB (i).toNatClampNeg)] [])) (fun t k => XS.goto X0.here hx rfl (pc0 := 59) (pc' := 8) rfl (hb hby d2_59) (by decide) (by decide) k) ?_
          exact ih (seen ||| (fB (i).toNatClampNeg)) (bad ||| (1 : Int32)) (i + (1 : Int32)) (.val (.int (fB (i).toNatClampNeg))) (Or.inr ⟨_, rfl, rfl⟩) (own_turn hinv.1 hinv.2.1 hinv.2.2.1 hinv.2.2.2 (Or.inl ⟨rfl, Or.inl hc31⟩))
        · refine Wk.go (A' := s₁.setTop (mkF m 34 #[rv ar, iv ia, iv ib, iv (seen ||| (fB (i).toNatClampNeg)), iv bad, iv i, iv (fB (i).toNatClampNeg)] [(.int bad)])) (fun t k => XS.icmpNo X0.here hx rfl (hb hby d2_31) rfl (feq hc31).1 k) ?_
          refine Wk.go (A' := s₁.setTop (mkF m 36 #[rv ar, iv ia, iv ib, iv (seen ||| (fB (i).toNatClampNeg)), iv bad, iv i, iv (fB (i).toNatClampNeg)] [(.int (fB (i).toNatClampNeg)), (.int bad)])) (fun t k => XS.iload X0.here hx rfl (hb hby d2_34) rfl k) ?_
          refine Wk.go (A' := s₁.setTop (mkF m 38 #[rv ar, iv ia, iv ib, iv (seen ||| (fB (i).toNatClampNeg)), iv bad, iv i, iv (fB (i).toNatClampNeg)] [(.int (10 : Int32)), (.int (fB (i).toNatClampNeg)), (.int bad)])) (fun t k => XS.bipush X0.here hx rfl (hb hby d2_36) k) ?_
          by_cases hc38 : (fB (i).toNatClampNeg) = (10 : Int32)
          · refine Wk.go (A' := s₁.setTop (mkF m 48 #[rv ar, iv ia, iv ib, iv (seen ||| (fB (i).toNatClampNeg)), iv bad, iv i, iv (fB (i).toNatClampNeg)] [(.int bad)])) (fun t k => XS.icmpYes X0.here hx rfl (pc0 := 38) (pc' := 48) rfl (hb hby d2_38) rfl (teq hc38).1 (by decide) (by decide) k) ?_
            refine Wk.go (A' := s₁.setTop (mkF m 49 #[rv ar, iv ia, iv ib, iv (seen ||| (fB (i).toNatClampNeg)), iv bad, iv i, iv (fB (i).toNatClampNeg)] [(.int (1 : Int32)), (.int bad)])) (fun t k => XS.iconst X0.here hx rfl (hb hby d2_48) k) ?_
            refine Wk.go (A' := s₁.setTop (mkF m 53 #[rv ar, iv ia, iv ib, iv (seen ||| (fB (i).toNatClampNeg)), iv bad, iv i, iv (fB (i).toNatClampNeg)] [(.int (1 : Int32)), (.int bad)])) (fun t k => XS.goto X0.here hx rfl (pc0 := 49) (pc' := 53) rfl (hb hby d2_49) (by decide) (by decide) k) ?_
            refine Wk.go (A' := s₁.setTop (mkF m 54 #[rv ar, iv ia, iv ib, iv (seen ||| (fB (i).toNatClampNeg)), iv bad, iv i, iv (fB (i).toNatClampNeg)] [(.int (bad ||| (1 : Int32)))])) (fun t k => XS.ior X0.here hx rfl (hb hby d2_53) rfl k) ?_
            refine Wk.go (A' := s₁.setTop (mkF m 56 #[rv ar, iv ia, iv ib, iv (seen ||| (fB (i).toNatClampNeg)), iv (bad ||| (1 : Int32)), iv i, iv (fB (i).toNatClampNeg)] [])) (fun t k => XS.istore X0.here hx rfl (hb hby d2_54) rfl (l' := #[rv ar, iv ia, iv ib, iv (seen ||| (fB (i).toNatClampNeg)), iv (bad ||| (1 : Int32)), iv i, iv (fB (i).toNatClampNeg)]) rfl k) ?_
            refine Wk.go (A' := s₁.setTop (mkF m 59 #[rv ar, iv ia, iv ib, iv (seen ||| (fB (i).toNatClampNeg)), iv (bad ||| (1 : Int32)), iv (i + (1 : Int32)), iv (fB (i).toNatClampNeg)] [])) (fun t k => XS.iinc X0.here hx rfl (hb hby d2_56) rfl (l' := #[rv ar, iv ia, iv ib, iv (seen ||| (fB (i).toNatClampNeg)), iv (bad ||| (1 : Int32)), iv (i + (1 : Int32)), iv (fB (i).toNatClampNeg)]) rfl k) ?_
            refine Wk.go (A' := s₁.setTop (mkF m 8 #[rv ar, iv ia, iv ib, iv (seen ||| (fB (i).toNatClampNeg)), iv (bad ||| (1 : Int32)), iv (i + (1 : Int32)), iv (fB (i).toNatClampNeg)] [])) (fun t k => XS.goto X0.here hx rfl (pc0 := 59) (pc' := 8) rfl (hb hby d2_59) (by decide) (by decide) k) ?_
            exact ih (seen ||| (fB (i).toNatClampNeg)) (bad ||| (1 : Int32)) (i + (1 : Int32)) (.val (.int (fB (i).toNatClampNeg))) (Or.inr ⟨_, rfl, rfl⟩) (own_turn hinv.1 hinv.2.1 hinv.2.2.1 hinv.2.2.2 (Or.inl ⟨rfl, Or.inr (Or.inl hc38)⟩))
          · refine Wk.go (A' := s₁.setTop (mkF m 41 #[rv ar, iv ia, iv ib, iv (seen ||| (fB (i).toNatClampNeg)), iv bad, iv i, iv (fB (i).toNatClampNeg)] [(.int bad)])) (fun t k => XS.icmpNo X0.here hx rfl (hb hby d2_38) rfl (feq hc38).1 k) ?_
            refine Wk.go (A' := s₁.setTop (mkF m 43 #[rv ar, iv ia, iv ib, iv (seen ||| (fB (i).toNatClampNeg)), iv bad, iv i, iv (fB (i).toNatClampNeg)] [(.int (fB (i).toNatClampNeg)), (.int bad)])) (fun t k => XS.iload X0.here hx rfl (hb hby d2_41) rfl k) ?_
            refine Wk.go (A' := s₁.setTop (mkF m 45 #[rv ar, iv ia, iv ib, iv (seen ||| (fB (i).toNatClampNeg)), iv bad, iv i, iv (fB (i).toNatClampNeg)] [(.int (13 : Int32)), (.int (fB (i).toNatClampNeg)), (.int bad)])) (fun t k => XS.bipush X0.here hx rfl (hb hby d2_43) k) ?_
            by_cases hc45 : (fB (i).toNatClampNeg) = (13 : Int32)
            · refine Wk.go (A' := s₁.setTop (mkF m 48 #[rv ar, iv ia, iv ib, iv (seen ||| (fB (i).toNatClampNeg)), iv bad, iv i, iv (fB (i).toNatClampNeg)] [(.int bad)])) (fun t k => XS.icmpNo X0.here hx rfl (hb hby d2_45) rfl (teq hc45).2 k) ?_
              refine Wk.go (A' := s₁.setTop (mkF m 49 #[rv ar, iv ia, iv ib, iv (seen ||| (fB (i).toNatClampNeg)), iv bad, iv i, iv (fB (i).toNatClampNeg)] [(.int (1 : Int32)), (.int bad)])) (fun t k => XS.iconst X0.here hx rfl (hb hby d2_48) k) ?_
              refine Wk.go (A' := s₁.setTop (mkF m 53 #[rv ar, iv ia, iv ib, iv (seen ||| (fB (i).toNatClampNeg)), iv bad, iv i, iv (fB (i).toNatClampNeg)] [(.int (1 : Int32)), (.int bad)])) (fun t k => XS.goto X0.here hx rfl (pc0 := 49) (pc' := 53) rfl (hb hby d2_49) (by decide) (by decide) k) ?_
              refine Wk.go (A' := s₁.setTop (mkF m 54 #[rv ar, iv ia, iv ib, iv (seen ||| (fB (i).toNatClampNeg)), iv bad, iv i, iv (fB (i).toNatClampNeg)] [(.int (bad ||| (1 : Int32)))])) (fun t k => XS.ior X0.here hx rfl (hb hby d2_53) rfl k) ?_
              refine Wk.go (A' := s₁.setTop (mkF m 56 #[rv ar, iv ia, iv ib, iv (seen ||| (fB (i).toNatClampNeg)), iv (bad ||| (1 : Int32)), iv i, iv (fB (i).toNatClampNeg)] [])) (fun t k => XS.istore X0.here hx rfl (hb hby d2_54) rfl (l' := #[rv ar, iv ia, iv ib, iv (seen ||| (fB (i).toNatClampNeg)), iv (bad ||| (1 : Int32)), iv i, iv (fB (i).toNatClampNeg)]) rfl k) ?_
              refine Wk.go (A' := s₁.setTop (mkF m 59 #[rv ar, iv ia, iv ib, iv (seen ||| (fB (i).toNatClampNeg)), iv (bad ||| (1 : Int32)), iv (i + (1 : Int32)), iv (fB (i).toNatClampNeg)] [])) (fun t k => XS.iinc X0.here hx rfl (hb hby d2_56) rfl (l' := #[rv ar, iv ia, iv ib, iv (seen ||| (fB (i).toNatClampNeg)), iv (bad ||| (1 : Int32)), iv (i + (1 : Int32)), iv (fB (i).toNatClampNeg)]) rfl k) ?_
              refine Wk.go (A' := s₁.setTop (mkF m 8 #[rv ar, iv ia, iv ib, iv (seen ||| (fB (i).toNatClampNeg)), iv (bad ||| (1 : Int32)), iv (i + (1 : Int32)), iv (fB (i).toNatClampNeg)] [])) (fun t k => XS.goto X0.here hx rfl (pc0 := 59) (pc' := 8) rfl (hb hby d2_59) (by decide) (by decide) k) ?_
              exact ih (seen ||| (fB (i).toNatClampNeg)) (bad ||| (1 : Int32)) (i + (1 : Int32)) (.val (.int (fB (i).toNatClampNeg))) (Or.inr ⟨_, rfl, rfl⟩) (own_turn hinv.1 hinv.2.1 hinv.2.2.1 hinv.2.2.2 (Or.inl ⟨rfl, Or.inr (Or.inr hc45)⟩))
            · refine Wk.go (A' := s₁.setTop (mkF m 52 #[rv ar, iv ia, iv ib, iv (seen ||| (fB (i).toNatClampNeg)), iv bad, iv i, iv (fB (i).toNatClampNeg)] [(.int bad)])) (fun t k => XS.icmpYes X0.here hx rfl (pc0 := 45) (pc' := 52) rfl (hb hby d2_45) rfl (feq hc45).2 (by decide) (by decide) k) ?_
              refine Wk.go (A' := s₁.setTop (mkF m 53 #[rv ar, iv ia, iv ib, iv (seen ||| (fB (i).toNatClampNeg)), iv bad, iv i, iv (fB (i).toNatClampNeg)] [(.int (0 : Int32)), (.int bad)])) (fun t k => XS.iconst X0.here hx rfl (hb hby d2_52) k) ?_
              refine Wk.go (A' := s₁.setTop (mkF m 54 #[rv ar, iv ia, iv ib, iv (seen ||| (fB (i).toNatClampNeg)), iv bad, iv i, iv (fB (i).toNatClampNeg)] [(.int (bad ||| (0 : Int32)))])) (fun t k => XS.ior X0.here hx rfl (hb hby d2_53) rfl k) ?_
              refine Wk.go (A' := s₁.setTop (mkF m 56 #[rv ar, iv ia, iv ib, iv (seen ||| (fB (i).toNatClampNeg)), iv (bad ||| (0 : Int32)), iv i, iv (fB (i).toNatClampNeg)] [])) (fun t k => XS.istore X0.here hx rfl (hb hby d2_54) rfl (l' := #[rv ar, iv ia, iv ib, iv (seen ||| (fB (i).toNatClampNeg)), iv (bad ||| (0 : Int32)), iv i, iv (fB (i).toNatClampNeg)]) rfl k) ?_
              refine Wk.go (A' := s₁.setTop (mkF m 59 #[rv ar, iv ia, iv ib, iv (seen ||| (fB (i).toNatClampNeg)), iv (bad ||| (0 : Int32)), iv (i + (1 : Int32)), iv (fB (i).toNatClampNeg)] [])) (fun t k => XS.iinc X0.here hx rfl (hb hby d2_56) rfl (l' := #[rv ar, iv ia, iv ib, iv (seen ||| (fB (i).toNatClampNeg)), iv (bad ||| (0 : Int32)), iv (i + (1 : Int32)), iv (fB (i).toNatClampNeg)]) rfl k) ?_
              refine Wk.go (A' := s₁.setTop (mkF m 8 #[rv ar, iv ia, iv ib, iv (seen ||| (fB (i).toNatClampNeg)), iv (bad ||| (0 : Int32)), iv (i + (1 : Int32)), iv (fB (i).toNatClampNeg)] [])) (fun t k => XS.goto X0.here hx rfl (pc0 := 59) (pc' := 8) rfl (hb hby d2_59) (by decide) (by decide) k) ?_
              exact ih (seen ||| (fB (i).toNatClampNeg)) (bad ||| (0 : Int32)) (i + (1 : Int32)) (.val (.int (fB (i).toNatClampNeg))) (Or.inr ⟨_, rfl, rfl⟩) (own_turn hinv.1 hinv.2.1 hinv.2.2.1 hinv.2.2.2 (Or.inr ⟨rfl, hc31, hc38, hc45⟩))
    exact loop8 (ib.toInt - ia.toInt).toNat (0 : Int32) (0 : Int32) ia .unset (Or.inl rfl) (⟨by omega, h1, Int.le_refl _, Or.inl ⟨by decide, rfl, fun j q1 q2 => absurd q1 (by omega)⟩⟩)
  · refine Wk.go (A' := s₁.setTop (mkF m 10 #[rv ar, iv ia, iv ib, iv (0 : Int32), iv (0 : Int32), iv ia, .unset] [(.int ia)])) (fun t k => XS.iload X0.here hx rfl (hb hby d2_8) rfl k) ?_
    refine Wk.go (A' := s₁.setTop (mkF m 11 #[rv ar, iv ia, iv ib, iv (0 : Int32), iv (0 : Int32), iv ia, .unset] [(.int ib), (.int ia)])) (fun t k => XS.iloadN X0.here hx rfl (hb hby d2_10) rfl k) ?_
    have hc11 : ¬ (ia < ib) := by rw [Int32.lt_iff_toInt_lt]; omega
    refine Wk.go (A' := s₁.setTop (mkF m 62 #[rv ar, iv ia, iv ib, iv (0 : Int32), iv (0 : Int32), iv ia, .unset] [])) (fun t k => XS.icmpYes X0.here hx rfl (pc0 := 11) (pc' := 62) rfl (hb hby d2_11) rfl (flt hc11).2.1 (by decide) (by decide) k) ?_
    refine Wk.go (A' := s₁.setTop (mkF m 63 #[rv ar, iv ia, iv ib, iv (0 : Int32), iv (0 : Int32), iv ia, .unset] [(.int (0 : Int32))])) (fun t k => XS.iloadN X0.here hx rfl (hb hby d2_62) rfl k) ?_
    have hc63 : ¬ ((0 : Int32) < (0 : Int32)) := by decide
    refine Wk.go (A' := s₁.setTop (mkF m 66 #[rv ar, iv ia, iv ib, iv (0 : Int32), iv (0 : Int32), iv ia, .unset] [])) (fun t k => XS.ifNo X0.here hx rfl (hb hby d2_63) rfl ((if0 _ _).trans (flt hc63).1) k) ?_
    refine Wk.go (A' := s₁.setTop (mkF m 68 #[rv ar, iv ia, iv ib, iv (0 : Int32), iv (0 : Int32), iv ia, .unset] [(.int (0 : Int32))])) (fun t k => XS.iload X0.here hx rfl (hb hby d2_66) rfl k) ?_
    have hc68 : (0 : Int32) = (0 : Int32) := by decide
    refine Wk.go (A' := s₁.setTop (mkF m 71 #[rv ar, iv ia, iv ib, iv (0 : Int32), iv (0 : Int32), iv ia, .unset] [])) (fun t k => XS.ifNo X0.here hx rfl (hb hby d2_68) rfl ((if0 _ _).trans (teq hc68).2) k) ?_
    refine Wk.go (A' := s₁.setTop (mkF m 72 #[rv ar, iv ia, iv ib, iv (0 : Int32), iv (0 : Int32), iv ia, .unset] [(.int (1 : Int32))])) (fun t k => XS.iconst X0.here hx rfl (hb hby d2_71) k) ?_
    refine Wk.go (A' := s₁.setTop (mkF m 76 #[rv ar, iv ia, iv ib, iv (0 : Int32), iv (0 : Int32), iv ia, .unset] [(.int (1 : Int32))])) (fun t k => XS.goto X0.here hx rfl (pc0 := 72) (pc' := 76) rfl (hb hby d2_72) (by decide) (by decide) k) ?_
    refine own_fin (Qv := Q2 Z ar ia ib fB h0 n0) (v := some (.int (1 : Int32))) X0 hlk (fun h => by rw [Bd.returns] at h; cases h) (fun fs hr => retN X0 hx (t := .boolean) Bd.returns (by simp) (hb hby d2_76) hr) ?_ (by decide) (by decide)
    exact ⟨_, rfl, N0, e0, Or.inl ⟨rfl, fun j q1 q2 => absurd q1 (by omega)⟩⟩
theorem own_ok (ar : Addr) {i ia ib : Int32} {f : Nat → Int32} (h0 : 0 ≤ i.toInt) : f_ok ar i ia ib f = (0 : Int32) ↔ (ia.toInt ≤ i.toInt ∧ i.toInt < ib.toInt ∧ ¬ own_good (f i.toNatClampNeg)) := by
  unfold f_ok own_good
  simp only [Int32.lt_iff_toInt_lt]
  have e0 : (0 : Int32).toInt = 0 := by decide
  generalize f i.toNatClampNeg = y
  by_cases q1 : i.toInt < ia.toInt
  · rw [if_pos q1]
    constructor
    · intro q; exact absurd q (by decide)
    · intro q; omega
  · rw [if_neg q1]
    by_cases q2 : i.toInt < ib.toInt
    · rw [if_pos q2]
      by_cases a : y.toInt < (0 : Int32).toInt <;> by_cases b : y = (92 : Int32) <;> by_cases c : y = (10 : Int32) <;> by_cases d : y = (13 : Int32) <;> simp [a, b, c, d] <;> omega
    · rw [if_neg q2]
      constructor
      · intro q; exact absurd q (by decide)
      · intro q; exact absurd q.2.1 q2
theorem own_5 (q : Int32) : 0 ≤ ((q &&& (2147483647 : Int32)) % (5 : Int32)).toInt ∧ ((q &&& (2147483647 : Int32)) % (5 : Int32)).toInt ≤ 4 := by
  have h1 := c_mask q 2147483647 31 (by decide) (by decide)
  have h2 := (c_irem (q &&& (2147483647 : Int32)) 5 5 (by decide)).1 (by omega)
  omega
theorem own_k (n : Nat) (hn : n < 4) : (Int32.ofNat n).toInt = n ∧ (Int32.ofNat n).toNatClampNeg = n := by
  have : ∀ i : Fin 4, (Int32.ofNat i.1).toInt = i.1 ∧ (Int32.ofNat i.1).toNatClampNeg = i.1 := by decide
  exact this ⟨n, hn⟩
/-- one place that isn't good: the law says 0 too -/
theorem own_bad (ar : Addr) {n : Nat} {ia ib r : Int32} {f : Nat → Int32} (hn : n < 4) (R : (r = 1 ∧ ∀ j : Nat, ia.toInt ≤ (j : Int) → (j : Int) < ib.toInt → own_good (f j)) ∨ (r = 0 ∧ ∃ j : Nat, ia.toInt ≤ (j : Int) ∧ (j : Int) < ib.toInt ∧ ¬ own_good (f j)))
    (h : f_ok ar (Int32.ofNat n) ia ib f = (0 : Int32)) : r = (0 : Int32) := by
  obtain ⟨k1, k2⟩ := own_k n hn
  rw [own_ok ar (by omega), k1, k2] at h
  rcases R with ⟨_, R⟩ | ⟨R, _⟩
  · exact absurd (R n h.1 h.2.1) h.2.2
  · exact R
theorem own_fine (ar : Addr) {ia ib r : Int32} {f : Nat → Int32} (h0 : 0 ≤ ia.toInt) (h4 : ib.toInt ≤ 4) (R : (r = 1 ∧ ∀ j : Nat, ia.toInt ≤ (j : Int) → (j : Int) < ib.toInt → own_good (f j)) ∨ (r = 0 ∧ ∃ j : Nat, ia.toInt ≤ (j : Int) ∧ (j : Int) < ib.toInt ∧ ¬ own_good (f j)))
    (h : ∀ n, n < 4 → ¬ (f_ok ar (Int32.ofNat n) ia ib f = (0 : Int32))) : r = (1 : Int32) := by
  rcases R with ⟨R, _⟩ | ⟨_, j, j1, j2, j3⟩
  · exact R
  · have hj : j < 4 := by omega
    obtain ⟨k1, k2⟩ := own_k j hj
    exfalso
    apply h j hj
    rw [own_ok ar (by omega), k1, k2]; exact ⟨j1, j2, j3⟩
theorem own_four {P : Nat → Prop} (a : P 0) (b : P 1) (c : P 2) (d : P 3) : ∀ n, n < 4 → P n
  | 0, _ => a
  | 1, _ => b
  | 2, _ => c
  | 3, _ => d
theorem tw0 {Z : State} {a0 : Array Value} (hw : ∀ d ∈ tables_1, d.before a0 Z = true) : (Jvm.Cond.arrayClass Jvm.ClassFile.FieldType.byte).before a0 Z = true := hw _ (List.mem_of_getElem? (i := 0) rfl)
theorem tw1 {Z : State} {a0 : Array Value} (hw : ∀ d ∈ tables_1, d.before a0 Z = true) : (Jvm.Cond.constant "com/example/arcwalk/arcwalk/TermSpansIsPlainPinLaw" (7 : Nat) (2147483647 : Int32)).before a0 Z = true := hw _ (List.mem_of_getElem? (i := 1) rfl)
theorem tw2 {Z : State} {a0 : Array Value} (hw : ∀ d ∈ tables_1, d.before a0 Z = true) : (Jvm.Cond.methodLink "com/example/arcwalk/arcwalk/TermSpansIsPlainPinLaw" (8 : Nat) ({ cls := "com/example/arcwalk/arcwalk/TermSpansIsPlainPinLaw", name := "ok", desc := "([BIII)Z" } : Jvm.MethodName)).before a0 Z = true := hw _ (List.mem_of_getElem? (i := 2) rfl)
theorem tw5 {Z : State} {a0 : Array Value} (hw : ∀ d ∈ tables_1, d.before a0 Z = true) : (Jvm.Cond.code ({ cls := "com/example/arcwalk/arcwalk/TermSpansIsPlainPinLaw", name := "ok", desc := "([BIII)Z" } : Jvm.MethodName) method_3_code (5 : Nat) (Option.some Jvm.ClassFile.FieldType.boolean)).before a0 Z = true := hw _ (List.mem_of_getElem? (i := 5) rfl)
theorem tw4 {Z : State} {a0 : Array Value} (hw : ∀ d ∈ tables_1, d.before a0 Z = true) : (Jvm.Cond.initialized "com/example/arcwalk/arcwalk/TermSpansIsPlainPinLaw").before a0 Z = true := hw _ (List.mem_of_getElem? (i := 4) rfl)
theorem pd_0 : parseMethodDescriptor "([BIII)Z" = some ⟨[(.array .byte), .int, .int, .int], some .boolean⟩ := by decide +kernel
theorem tw3 {Z : State} {a0 : Array Value} (hw : ∀ d ∈ tables_1, d.before a0 Z = true) : (Jvm.Cond.static ({ cls := "com/example/arcwalk/arcwalk/TermSpansIsPlainPinLaw", name := "ok", desc := "([BIII)Z" } : Jvm.MethodName)).before a0 Z = true := hw _ (List.mem_of_getElem? (i := 3) rfl)
theorem tw6 {Z : State} {a0 : Array Value} (hw : ∀ d ∈ tables_1, d.before a0 Z = true) : (Jvm.Cond.methodLink "com/example/arcwalk/arcwalk/TermSpansIsPlainPinLaw" (14 : Nat) ({ cls := "com/example/arcwalk/arcwalk/TermSpans", name := "isPlain", desc := "([BII)Z" } : Jvm.MethodName)).before a0 Z = true := hw _ (List.mem_of_getElem? (i := 6) rfl)
theorem tw9 {Z : State} {a0 : Array Value} (hw : ∀ d ∈ tables_1, d.before a0 Z = true) : (Jvm.Cond.code ({ cls := "com/example/arcwalk/arcwalk/TermSpans", name := "isPlain", desc := "([BII)Z" } : Jvm.MethodName) prog_83_method_20_code (7 : Nat) (Option.some Jvm.ClassFile.FieldType.boolean)).before a0 Z = true := hw _ (List.mem_of_getElem? (i := 9) rfl)
theorem tw8 {Z : State} {a0 : Array Value} (hw : ∀ d ∈ tables_1, d.before a0 Z = true) : (Jvm.Cond.initialized "com/example/arcwalk/arcwalk/TermSpans").before a0 Z = true := hw _ (List.mem_of_getElem? (i := 8) rfl)
theorem pd_1 : parseMethodDescriptor "([BII)Z" = some ⟨[(.array .byte), .int, .int], some .boolean⟩ := by decide +kernel
theorem tw7 {Z : State} {a0 : Array Value} (hw : ∀ d ∈ tables_1, d.before a0 Z = true) : (Jvm.Cond.static ({ cls := "com/example/arcwalk/arcwalk/TermSpans", name := "isPlain", desc := "([BII)Z" } : Jvm.MethodName)).before a0 Z = true := hw _ (List.mem_of_getElem? (i := 7) rfl)
theorem ef_0 (m : MethodId) (x0 : Int32) (x1 : Int32) (x2 : Int32) (x3 : Int32) : entryFrame m #[(.int x0), (.int x1), (.int x2), (.int x3)] maxLocals = mkF m 0 #[iv x0, iv x1, iv x2, iv x3, .unset, .unset, .unset, .unset, .unset, .unset] [] := by first | (simp [entryFrame, mkF, argsToLocals, Value.category, maxLocals]; done) | rfl
def Q0 (Z : State) (pk : Int32) (fx : Int32) (tx : Int32) (sx : Int32)  (h0 : Heap) (n0 : Nat) (v : Option Value) (h : Heap) (L : List Loc) : Prop := v = some (.int 1) ∧ Fr n0 L
set_option maxRecDepth 65536 in
set_option maxHeartbeats 40000000 in
theorem rm0 (l : Launch) (Z : State) (a0 : Array Value) (hw : ∀ d ∈ tables_1, d.before a0 Z = true) (ws : List Jvm.Cond) (pk : Int32) (fx : Int32) (tx : Int32) (sx : Int32)  (h0 : Heap) (n0 : Nat) (Z0 : n0 ≤ h0.size)  :
    MetFree l x (head1 (Jvm.Cond.code x code maxLocals ret :: ws) room_1) (fun a U => a = #[(.int pk), (.int fx), (.int tx), (.int sx)] ∧ Z.Warmed39 U.vm ∧ U.heap = h0) (fun _ _ _ _ _ => True) (fun _ U o U' => ∃ v L, o = .returned v ∧ Q0 Z pk fx tx sx h0 n0 v U'.heap L ∧ FrameEnd U o U' L 1 4) := by
  refine MetFree.of_bodySF (plainFor_of_name pn_0) hisR ?_
  intro p e s m args below meth c s₁ Bd hml0 hP hK
  obtain ⟨rfl, hZ, hh⟩ := hP
  have hx := Bd.exec
  have hby := Bd.bytes
  have hml : c.maxLocals = 10 := hml0
  have hown : s.vm.findClass "com/example/arcwalk/arcwalk/TermSpansIsPlainPinLaw" = some m.cls := findClass_of_methodNamed Bd.named
  have hnm := (name_of_methodNamed Bd.named Bd.method).1
  have X0 : Stand p l e room_1 s m #[(.int pk), (.int fx), (.int tx), (.int sx)] below meth c s₁ [] 0 0 := Stand.of_body Bd
  have e0 : s₁.heap = h0 := by rw [← hh, Bd.state]; rfl
  have N0 := Fr.nil n0
  have hlk : meth.locks = false := BodyLoose.notSynchronized Bd
  suffices hwk : Wk p.tables e below (s₁.setTop (mkF m 0 #[iv pk, iv fx, iv tx, iv sx, .unset, .unset, .unset, .unset, .unset, .unset] [])) (fun U o => U.status = .running ∧ Ended U below o ∧ ∃ v L, o = .returned v ∧ Q0 Z pk fx tx sx h0 n0 v U.heap L ∧ FrameEnd s o U L 1 4) by
    obtain ⟨U, o, k1, k2⟩ := hwk
    exact ⟨U, o, castTop (ef_0 m pk fx tx sx) k1, k2⟩
  refine Wk.go (A' := s₁.setTop (mkF m 1 #[iv pk, iv fx, iv tx, iv sx, .unset, .unset, .unset, .unset, .unset, .unset] [(.int (4 : Int32))])) (fun t k => XS.iconst X0.here hx rfl (hb hby at_0) k) ?_
  obtain ⟨T1, h1, k1, X1, e1, E1, A1, st1⟩ := newP (aty := .byte) X0 hx hZ (tw0 hw) e0 (g := (mkF m 1 #[iv pk, iv fx, iv tx, iv sx, .unset, .unset, .unset, .unset, .unset, .unset] [(.int (4 : Int32))])) rfl (hb hby at_1) rfl (by decide) (cap := 4) (by decide) (by decide) (by decide) (by decide)
  obtain ⟨bA, g1⟩ : ∃ z, z = h0.size := ⟨_, rfl⟩
  rw [← g1] at A1 st1
  have g_bA : n0 ≤ bA := Nat.le_trans Z0 (Nat.le_of_eq g1.symm)
  have V1 : BA Z h1 bA 4 (fun _ => 0) := BA.new A1
  have Zp1 : n0 ≤ h1.size := Nat.le_trans Z0 E1.1
  refine Wk.go (A' := T1.setTop (mkF m 3 #[iv pk, iv fx, iv tx, iv sx, .unset, .unset, .unset, .unset, .unset, .unset] [(.ref bA)])) (fun t k => st1 t k) ?_
  refine Wk.go (A' := T1.setTop (mkF m 5 #[iv pk, iv fx, iv tx, iv sx, rv bA, .unset, .unset, .unset, .unset, .unset] [])) (fun t k => XS.astore X1.here hx rfl (hb hby at_3) rfl rfl (l' := #[iv pk, iv fx, iv tx, iv sx, rv bA, .unset, .unset, .unset, .unset, .unset]) rfl k) ?_
  refine Wk.go (A' := T1.setTop (mkF m 7 #[iv pk, iv fx, iv tx, iv sx, rv bA, .unset, .unset, .unset, .unset, .unset] [(.ref bA)])) (fun t k => XS.aload X1.here hx rfl (hb hby at_5) rfl rfl k) ?_
  refine Wk.go (A' := T1.setTop (mkF m 8 #[iv pk, iv fx, iv tx, iv sx, rv bA, .unset, .unset, .unset, .unset, .unset] [(.int (0 : Int32)), (.ref bA)])) (fun t k => XS.iconst X1.here hx rfl (hb hby at_7) k) ?_
  refine Wk.go (A' := T1.setTop (mkF m 9 #[iv pk, iv fx, iv tx, iv sx, rv bA, .unset, .unset, .unset, .unset, .unset] [(.int pk), (.int (0 : Int32)), (.ref bA)])) (fun t k => XS.iloadN X1.here hx rfl (hb hby at_8) rfl k) ?_
  refine Wk.go (A' := T1.setTop (mkF m 10 #[iv pk, iv fx, iv tx, iv sx, rv bA, .unset, .unset, .unset, .unset, .unset] [(.int (pk.toInt8.toInt32)), (.int (0 : Int32)), (.ref bA)])) (fun t k => XS.i2b X1.here hx rfl (hb hby at_9) rfl k) ?_
  obtain ⟨T2, h2, X2, e2, W2, B2, st2⟩ := own_stB X1 hx hZ e1 V1 (j := (0 : Int32)) (by decide) (g := (mkF m 10 #[iv pk, iv fx, iv tx, iv sx, rv bA, .unset, .unset, .unset, .unset, .unset] [(.int (pk.toInt8.toInt32)), (.int (0 : Int32)), (.ref bA)])) rfl rfl (hb hby at_10)
  have V2 : BA Z h2 bA 4 (own_upd (fun _ => 0) 0 ((pk.toInt8.toInt32)).toInt8.toInt32) := B2
  obtain ⟨f1, hf1⟩ : ∃ z, z = (own_upd (fun _ => 0) 0 ((pk.toInt8.toInt32)).toInt8.toInt32) := ⟨_, rfl⟩
  rw [← hf1] at V2
  have f3 := V2
  have Zp2 : n0 ≤ h2.size := Nat.le_trans Zp1 (Nat.le_of_eq W2.size.symm)
  have N2 := Fr.snoc X2 N0 g_bA
  refine Wk.go (A' := T2.setTop (mkF m 11 #[iv pk, iv fx, iv tx, iv sx, rv bA, .unset, .unset, .unset, .unset, .unset] [])) (fun t k => st2 t k) ?_
  refine Wk.go (A' := T2.setTop (mkF m 13 #[iv pk, iv fx, iv tx, iv sx, rv bA, .unset, .unset, .unset, .unset, .unset] [(.ref bA)])) (fun t k => XS.aload X2.here hx rfl (hb hby at_11) rfl rfl k) ?_
  refine Wk.go (A' := T2.setTop (mkF m 14 #[iv pk, iv fx, iv tx, iv sx, rv bA, .unset, .unset, .unset, .unset, .unset] [(.int (1 : Int32)), (.ref bA)])) (fun t k => XS.iconst X2.here hx rfl (hb hby at_13) k) ?_
  refine Wk.go (A' := T2.setTop (mkF m 15 #[iv pk, iv fx, iv tx, iv sx, rv bA, .unset, .unset, .unset, .unset, .unset] [(.int pk), (.int (1 : Int32)), (.ref bA)])) (fun t k => XS.iloadN X2.here hx rfl (hb hby at_14) rfl k) ?_
  refine Wk.go (A' := T2.setTop (mkF m 17 #[iv pk, iv fx, iv tx, iv sx, rv bA, .unset, .unset, .unset, .unset, .unset] [(.int (8 : Int32)), (.int pk), (.int (1 : Int32)), (.ref bA)])) (fun t k => XS.bipush X2.here hx rfl (hb hby at_15) k) ?_
  refine Wk.go (A' := T2.setTop (mkF m 18 #[iv pk, iv fx, iv tx, iv sx, rv bA, .unset, .unset, .unset, .unset, .unset] [(.int (pk >>> ((8 : Int32) &&& 31))), (.int (1 : Int32)), (.ref bA)])) (fun t k => XS.ishr X2.here hx rfl (hb hby at_17) rfl k) ?_
  refine Wk.go (A' := T2.setTop (mkF m 19 #[iv pk, iv fx, iv tx, iv sx, rv bA, .unset, .unset, .unset, .unset, .unset] [(.int ((pk >>> ((8 : Int32) &&& 31)).toInt8.toInt32)), (.int (1 : Int32)), (.ref bA)])) (fun t k => XS.i2b X2.here hx rfl (hb hby at_18) rfl k) ?_
  obtain ⟨T4, h4, X4, e4, W4, B4, st4⟩ := own_stB X2 hx hZ e2 f3 (j := (1 : Int32)) (by decide) (g := (mkF m 19 #[iv pk, iv fx, iv tx, iv sx, rv bA, .unset, .unset, .unset, .unset, .unset] [(.int ((pk >>> ((8 : Int32) &&& 31)).toInt8.toInt32)), (.int (1 : Int32)), (.ref bA)])) rfl rfl (hb hby at_19)
  have V4 : BA Z h4 bA 4 (own_upd f1 1 (((pk >>> ((8 : Int32) &&& 31)).toInt8.toInt32)).toInt8.toInt32) := B4
  obtain ⟨f2, hf2⟩ : ∃ z, z = (own_upd f1 1 (((pk >>> ((8 : Int32) &&& 31)).toInt8.toInt32)).toInt8.toInt32) := ⟨_, rfl⟩
  rw [← hf2] at V4
  have f5 := V4
  have Zp4 : n0 ≤ h4.size := Nat.le_trans Zp2 (Nat.le_of_eq W4.size.symm)
  have N4 := Fr.snoc X4 N2 g_bA
  refine Wk.go (A' := T4.setTop (mkF m 20 #[iv pk, iv fx, iv tx, iv sx, rv bA, .unset, .unset, .unset, .unset, .unset] [])) (fun t k => st4 t k) ?_
  refine Wk.go (A' := T4.setTop (mkF m 22 #[iv pk, iv fx, iv tx, iv sx, rv bA, .unset, .unset, .unset, .unset, .unset] [(.ref bA)])) (fun t k => XS.aload X4.here hx rfl (hb hby at_20) rfl rfl k) ?_
  refine Wk.go (A' := T4.setTop (mkF m 23 #[iv pk, iv fx, iv tx, iv sx, rv bA, .unset, .unset, .unset, .unset, .unset] [(.int (2 : Int32)), (.ref bA)])) (fun t k => XS.iconst X4.here hx rfl (hb hby at_22) k) ?_
  refine Wk.go (A' := T4.setTop (mkF m 24 #[iv pk, iv fx, iv tx, iv sx, rv bA, .unset, .unset, .unset, .unset, .unset] [(.int pk), (.int (2 : Int32)), (.ref bA)])) (fun t k => XS.iloadN X4.here hx rfl (hb hby at_23) rfl k) ?_
  refine Wk.go (A' := T4.setTop (mkF m 26 #[iv pk, iv fx, iv tx, iv sx, rv bA, .unset, .unset, .unset, .unset, .unset] [(.int (16 : Int32)), (.int pk), (.int (2 : Int32)), (.ref bA)])) (fun t k => XS.bipush X4.here hx rfl (hb hby at_24) k) ?_
  refine Wk.go (A' := T4.setTop (mkF m 27 #[iv pk, iv fx, iv tx, iv sx, rv bA, .unset, .unset, .unset, .unset, .unset] [(.int (pk >>> ((16 : Int32) &&& 31))), (.int (2 : Int32)), (.ref bA)])) (fun t k => XS.ishr X4.here hx rfl (hb hby at_26) rfl k) ?_
  refine Wk.go (A' := T4.setTop (mkF m 28 #[iv pk, iv fx, iv tx, iv sx, rv bA, .unset, .unset, .unset, .unset, .unset] [(.int ((pk >>> ((16 : Int32) &&& 31)).toInt8.toInt32)), (.int (2 : Int32)), (.ref bA)])) (fun t k => XS.i2b X4.here hx rfl (hb hby at_27) rfl k) ?_
  obtain ⟨T6, h6, X6, e6, W6, B6, st6⟩ := own_stB X4 hx hZ e4 f5 (j := (2 : Int32)) (by decide) (g := (mkF m 28 #[iv pk, iv fx, iv tx, iv sx, rv bA, .unset, .unset, .unset, .unset, .unset] [(.int ((pk >>> ((16 : Int32) &&& 31)).toInt8.toInt32)), (.int (2 : Int32)), (.ref bA)])) rfl rfl (hb hby at_28)
  have V6 : BA Z h6 bA 4 (own_upd f2 2 (((pk >>> ((16 : Int32) &&& 31)).toInt8.toInt32)).toInt8.toInt32) := B6
  obtain ⟨f3, hf3⟩ : ∃ z, z = (own_upd f2 2 (((pk >>> ((16 : Int32) &&& 31)).toInt8.toInt32)).toInt8.toInt32) := ⟨_, rfl⟩
  rw [← hf3] at V6
  have f7 := V6
  have Zp6 : n0 ≤ h6.size := Nat.le_trans Zp4 (Nat.le_of_eq W6.size.symm)
  have N6 := Fr.snoc X6 N4 g_bA
  refine Wk.go (A' := T6.setTop (mkF m 29 #[iv pk, iv fx, iv tx, iv sx, rv bA, .unset, .unset, .unset, .unset, .unset] [])) (fun t k => st6 t k) ?_
  refine Wk.go (A' := T6.setTop (mkF m 31 #[iv pk, iv fx, iv tx, iv sx, rv bA, .unset, .unset, .unset, .unset, .unset] [(.ref bA)])) (fun t k => XS.aload X6.here hx rfl (hb hby at_29) rfl rfl k) ?_
  refine Wk.go (A' := T6.setTop (mkF m 32 #[iv pk, iv fx, iv tx, iv sx, rv bA, .unset, .unset, .unset, .unset, .unset] [(.int (3 : Int32)), (.ref bA)])) (fun t k => XS.iconst X6.here hx rfl (hb hby at_31) k) ?_
  refine Wk.go (A' := T6.setTop (mkF m 33 #[iv pk, iv fx, iv tx, iv sx, rv bA, .unset, .unset, .unset, .unset, .unset] [(.int pk), (.int (3 : Int32)), (.ref bA)])) (fun t k => XS.iloadN X6.here hx rfl (hb hby at_32) rfl k) ?_
  refine Wk.go (A' := T6.setTop (mkF m 35 #[iv pk, iv fx, iv tx, iv sx, rv bA, .unset, .unset, .unset, .unset, .unset] [(.int (24 : Int32)), (.int pk), (.int (3 : Int32)), (.ref bA)])) (fun t k => XS.bipush X6.here hx rfl (hb hby at_33) k) ?_
  refine Wk.go (A' := T6.setTop (mkF m 36 #[iv pk, iv fx, iv tx, iv sx, rv bA, .unset, .unset, .unset, .unset, .unset] [(.int ((pk.toUInt32 >>> ((24 : Int32) &&& 31).toUInt32).toInt32)), (.int (3 : Int32)), (.ref bA)])) (fun t k => XS.iushr X6.here hx rfl (hb hby at_35) rfl k) ?_
  refine Wk.go (A' := T6.setTop (mkF m 37 #[iv pk, iv fx, iv tx, iv sx, rv bA, .unset, .unset, .unset, .unset, .unset] [(.int (((pk.toUInt32 >>> ((24 : Int32) &&& 31).toUInt32).toInt32).toInt8.toInt32)), (.int (3 : Int32)), (.ref bA)])) (fun t k => XS.i2b X6.here hx rfl (hb hby at_36) rfl k) ?_
  obtain ⟨T8, h8, X8, e8, W8, B8, st8⟩ := own_stB X6 hx hZ e6 f7 (j := (3 : Int32)) (by decide) (g := (mkF m 37 #[iv pk, iv fx, iv tx, iv sx, rv bA, .unset, .unset, .unset, .unset, .unset] [(.int (((pk.toUInt32 >>> ((24 : Int32) &&& 31).toUInt32).toInt32).toInt8.toInt32)), (.int (3 : Int32)), (.ref bA)])) rfl rfl (hb hby at_37)
  have V8 : BA Z h8 bA 4 (own_upd f3 3 ((((pk.toUInt32 >>> ((24 : Int32) &&& 31).toUInt32).toInt32).toInt8.toInt32)).toInt8.toInt32) := B8
  obtain ⟨f4, hf4⟩ : ∃ z, z = (own_upd f3 3 ((((pk.toUInt32 >>> ((24 : Int32) &&& 31).toUInt32).toInt32).toInt8.toInt32)).toInt8.toInt32) := ⟨_, rfl⟩
  rw [← hf4] at V8
  have f9 := V8
  have Zp8 : n0 ≤ h8.size := Nat.le_trans Zp6 (Nat.le_of_eq W8.size.symm)
  have N8 := Fr.snoc X8 N6 g_bA
  refine Wk.go (A' := T8.setTop (mkF m 38 #[iv pk, iv fx, iv tx, iv sx, rv bA, .unset, .unset, .unset, .unset, .unset] [])) (fun t k => st8 t k) ?_
  refine Wk.go (A' := T8.setTop (mkF m 39 #[iv pk, iv fx, iv tx, iv sx, rv bA, .unset, .unset, .unset, .unset, .unset] [(.int sx)])) (fun t k => XS.iloadN X8.here hx rfl (hb hby at_38) rfl k) ?_
  refine Wk.go (A' := T8.setTop (mkF m 40 #[iv pk, iv fx, iv tx, iv sx, rv bA, .unset, .unset, .unset, .unset, .unset] [(.int (2 : Int32)), (.int sx)])) (fun t k => XS.iconst X8.here hx rfl (hb hby at_39) k) ?_
  refine Wk.go (A' := T8.setTop (mkF m 41 #[iv pk, iv fx, iv tx, iv sx, rv bA, .unset, .unset, .unset, .unset, .unset] [(.int ((sx.toUInt32 >>> ((2 : Int32) &&& 31).toUInt32).toInt32))])) (fun t k => XS.iushr X8.here hx rfl (hb hby at_40) rfl k) ?_
  refine Wk.go (A' := T8.setTop (mkF m 42 #[iv pk, iv fx, iv tx, iv sx, rv bA, .unset, .unset, .unset, .unset, .unset] [(.int (3 : Int32)), (.int ((sx.toUInt32 >>> ((2 : Int32) &&& 31).toUInt32).toInt32))])) (fun t k => XS.iconst X8.here hx rfl (hb hby at_41) k) ?_
  refine Wk.go (A' := T8.setTop (mkF m 43 #[iv pk, iv fx, iv tx, iv sx, rv bA, .unset, .unset, .unset, .unset, .unset] [(.int (((sx.toUInt32 >>> ((2 : Int32) &&& 31).toUInt32).toInt32) &&& (3 : Int32)))])) (fun t k => XS.iand X8.here hx rfl (hb hby at_42) rfl k) ?_
  refine Wk.go (A' := T8.setTop (mkF m 45 #[iv pk, iv fx, iv tx, iv sx, rv bA, iv (((sx.toUInt32 >>> ((2 : Int32) &&& 31).toUInt32).toInt32) &&& (3 : Int32)), .unset, .unset, .unset, .unset] [])) (fun t k => XS.istore X8.here hx rfl (hb hby at_43) rfl (l' := #[iv pk, iv fx, iv tx, iv sx, rv bA, iv (((sx.toUInt32 >>> ((2 : Int32) &&& 31).toUInt32).toInt32) &&& (3 : Int32)), .unset, .unset, .unset, .unset]) rfl k) ?_
  generalize hkd : (((sx.toUInt32 >>> ((2 : Int32) &&& 31).toUInt32).toInt32) &&& (3 : Int32)) = kd
  refine Wk.go (A' := T8.setTop (mkF m 46 #[iv pk, iv fx, iv tx, iv sx, rv bA, iv kd, .unset, .unset, .unset, .unset] [(.int sx)])) (fun t k => XS.iloadN X8.here hx rfl (hb hby at_45) rfl k) ?_
  refine Wk.go (A' := T8.setTop (mkF m 47 #[iv pk, iv fx, iv tx, iv sx, rv bA, iv kd, .unset, .unset, .unset, .unset] [(.int (3 : Int32)), (.int sx)])) (fun t k => XS.iconst X8.here hx rfl (hb hby at_46) k) ?_
  refine Wk.go (A' := T8.setTop (mkF m 48 #[iv pk, iv fx, iv tx, iv sx, rv bA, iv kd, .unset, .unset, .unset, .unset] [(.int (sx &&& (3 : Int32)))])) (fun t k => XS.iand X8.here hx rfl (hb hby at_47) rfl k) ?_
  refine Wk.go (A' := T8.setTop (mkF m 50 #[iv pk, iv fx, iv tx, iv sx, rv bA, iv kd, iv (sx &&& (3 : Int32)), .unset, .unset, .unset] [])) (fun t k => XS.istore X8.here hx rfl (hb hby at_48) rfl (l' := #[iv pk, iv fx, iv tx, iv sx, rv bA, iv kd, iv (sx &&& (3 : Int32)), .unset, .unset, .unset]) rfl k) ?_
  generalize hpl : (sx &&& (3 : Int32)) = pl
  have hp : 0 ≤ pl.toInt ∧ pl.toInt < ((4 : Nat) : Int) := by have h1 := c_mask sx 3 2 (by decide) (by decide); rw [hpl] at h1; omega
  refine Wk.go (A' := T8.setTop (mkF m 52 #[iv pk, iv fx, iv tx, iv sx, rv bA, iv kd, iv pl, .unset, .unset, .unset] [(.int kd)])) (fun t k => XS.iload X8.here hx rfl (hb hby at_50) rfl k) ?_
  refine Wk.go (A' := T8.setTop (mkF m 53 #[iv pk, iv fx, iv tx, iv sx, rv bA, iv kd, iv pl, .unset, .unset, .unset] [(.int (1 : Int32)), (.int kd)])) (fun t k => XS.iconst X8.here hx rfl (hb hby at_52) k) ?_
  by_cases hc53 : kd = (1 : Int32)
  · refine Wk.go (A' := T8.setTop (mkF m 56 #[iv pk, iv fx, iv tx, iv sx, rv bA, iv kd, iv pl, .unset, .unset, .unset] [])) (fun t k => XS.icmpNo X8.here hx rfl (hb hby at_53) rfl (teq hc53).2 k) ?_
    refine Wk.go (A' := T8.setTop (mkF m 58 #[iv pk, iv fx, iv tx, iv sx, rv bA, iv kd, iv pl, .unset, .unset, .unset] [(.ref bA)])) (fun t k => XS.aload X8.here hx rfl (hb hby at_56) rfl rfl k) ?_
    refine Wk.go (A' := T8.setTop (mkF m 60 #[iv pk, iv fx, iv tx, iv sx, rv bA, iv kd, iv pl, .unset, .unset, .unset] [(.int pl), (.ref bA)])) (fun t k => XS.iload X8.here hx rfl (hb hby at_58) rfl k) ?_
    refine Wk.go (A' := T8.setTop (mkF m 62 #[iv pk, iv fx, iv tx, iv sx, rv bA, iv kd, iv pl, .unset, .unset, .unset] [(.int (92 : Int32)), (.int pl), (.ref bA)])) (fun t k => XS.bipush X8.here hx rfl (hb hby at_60) k) ?_
    obtain ⟨T10, h10, X10, e10, W10, B10, st10⟩ := own_stB X8 hx hZ e8 f9 (j := pl) hp (g := (mkF m 62 #[iv pk, iv fx, iv tx, iv sx, rv bA, iv kd, iv pl, .unset, .unset, .unset] [(.int (92 : Int32)), (.int pl), (.ref bA)])) rfl rfl (hb hby at_62)
    have V10 : BA Z h10 bA 4 (own_upd f4 (pl).toNatClampNeg ((92 : Int32)).toInt8.toInt32) := B10
    obtain ⟨fB, hfB⟩ : ∃ z, z = (own_upd f4 (pl).toNatClampNeg ((92 : Int32)).toInt8.toInt32) := ⟨_, rfl⟩
    rw [← hfB] at V10
    have f11 := V10
    have Zp10 : n0 ≤ h10.size := Nat.le_trans Zp8 (Nat.le_of_eq W10.size.symm)
    have N10 := Fr.snoc X10 N8 g_bA
    refine Wk.go (A' := T10.setTop (mkF m 63 #[iv pk, iv fx, iv tx, iv sx, rv bA, iv kd, iv pl, .unset, .unset, .unset] [])) (fun t k => st10 t k) ?_
    refine Wk.go (A' := T10.setTop (mkF m 95 #[iv pk, iv fx, iv tx, iv sx, rv bA, iv kd, iv pl, .unset, .unset, .unset] [])) (fun t k => XS.goto X10.here hx rfl (pc0 := 63) (pc' := 95) rfl (hb hby at_63) (by decide) (by decide) k) ?_
    refine Wk.go (A' := T10.setTop (mkF m 96 #[iv pk, iv fx, iv tx, iv sx, rv bA, iv kd, iv pl, .unset, .unset, .unset] [(.int fx)])) (fun t k => XS.iloadN X10.here hx rfl (hb hby at_95) rfl k) ?_
    refine Wk.go (A' := T10.setTop (mkF m 98 #[iv pk, iv fx, iv tx, iv sx, rv bA, iv kd, iv pl, .unset, .unset, .unset] [(.int (2147483647 : Int32)), (.int fx)])) (fun t k => X10.ldcInt hx hown (mvT hZ (tw1 hw)) (g := (mkF m 96 #[iv pk, iv fx, iv tx, iv sx, rv bA, iv kd, iv pl, .unset, .unset, .unset] [(.int fx)])) rfl (hb hby at_96) t k) ?_
    refine Wk.go (A' := T10.setTop (mkF m 99 #[iv pk, iv fx, iv tx, iv sx, rv bA, iv kd, iv pl, .unset, .unset, .unset] [(.int (fx &&& (2147483647 : Int32)))])) (fun t k => XS.iand X10.here hx rfl (hb hby at_98) rfl k) ?_
    refine Wk.go (A' := T10.setTop (mkF m 100 #[iv pk, iv fx, iv tx, iv sx, rv bA, iv kd, iv pl, .unset, .unset, .unset] [(.int (5 : Int32)), (.int (fx &&& (2147483647 : Int32)))])) (fun t k => XS.iconst X10.here hx rfl (hb hby at_99) k) ?_
    refine Wk.go (A' := T10.setTop (mkF m 101 #[iv pk, iv fx, iv tx, iv sx, rv bA, iv kd, iv pl, .unset, .unset, .unset] [(.int ((fx &&& (2147483647 : Int32)) % (5 : Int32)))])) (fun t k => iremM X10 hx rfl (hb hby at_100) rfl (by decide) k) ?_
    refine Wk.go (A' := T10.setTop (mkF m 103 #[iv pk, iv fx, iv tx, iv sx, rv bA, iv kd, iv pl, iv ((fx &&& (2147483647 : Int32)) % (5 : Int32)), .unset, .unset] [])) (fun t k => XS.istore X10.here hx rfl (hb hby at_101) rfl (l' := #[iv pk, iv fx, iv tx, iv sx, rv bA, iv kd, iv pl, iv ((fx &&& (2147483647 : Int32)) % (5 : Int32)), .unset, .unset]) rfl k) ?_
    generalize hia : ((fx &&& (2147483647 : Int32)) % (5 : Int32)) = ia
    have hf0 : 0 ≤ ia.toInt ∧ ia.toInt ≤ 4 := by rw [← hia]; exact own_5 fx
    refine Wk.go (A' := T10.setTop (mkF m 104 #[iv pk, iv fx, iv tx, iv sx, rv bA, iv kd, iv pl, iv ia, .unset, .unset] [(.int tx)])) (fun t k => XS.iloadN X10.here hx rfl (hb hby at_103) rfl k) ?_
    refine Wk.go (A' := T10.setTop (mkF m 106 #[iv pk, iv fx, iv tx, iv sx, rv bA, iv kd, iv pl, iv ia, .unset, .unset] [(.int (2147483647 : Int32)), (.int tx)])) (fun t k => X10.ldcInt hx hown (mvT hZ (tw1 hw)) (g := (mkF m 104 #[iv pk, iv fx, iv tx, iv sx, rv bA, iv kd, iv pl, iv ia, .unset, .unset] [(.int tx)])) rfl (hb hby at_104) t k) ?_
    refine Wk.go (A' := T10.setTop (mkF m 107 #[iv pk, iv fx, iv tx, iv sx, rv bA, iv kd, iv pl, iv ia, .unset, .unset] [(.int (tx &&& (2147483647 : Int32)))])) (fun t k => XS.iand X10.here hx rfl (hb hby at_106) rfl k) ?_
    refine Wk.go (A' := T10.setTop (mkF m 108 #[iv pk, iv fx, iv tx, iv sx, rv bA, iv kd, iv pl, iv ia, .unset, .unset] [(.int (5 : Int32)), (.int (tx &&& (2147483647 : Int32)))])) (fun t k => XS.iconst X10.here hx rfl (hb hby at_107) k) ?_
    refine Wk.go (A' := T10.setTop (mkF m 109 #[iv pk, iv fx, iv tx, iv sx, rv bA, iv kd, iv pl, iv ia, .unset, .unset] [(.int ((tx &&& (2147483647 : Int32)) % (5 : Int32)))])) (fun t k => iremM X10 hx rfl (hb hby at_108) rfl (by decide) k) ?_
    refine Wk.go (A' := T10.setTop (mkF m 111 #[iv pk, iv fx, iv tx, iv sx, rv bA, iv kd, iv pl, iv ia, iv ((tx &&& (2147483647 : Int32)) % (5 : Int32)), .unset] [])) (fun t k => XS.istore X10.here hx rfl (hb hby at_109) rfl (l' := #[iv pk, iv fx, iv tx, iv sx, rv bA, iv kd, iv pl, iv ia, iv ((tx &&& (2147483647 : Int32)) % (5 : Int32)), .unset]) rfl k) ?_
    generalize hib : ((tx &&& (2147483647 : Int32)) % (5 : Int32)) = ib
    have ht0 : 0 ≤ ib.toInt ∧ ib.toInt ≤ 4 := by rw [← hib]; exact own_5 tx
    refine Wk.go (A' := T10.setTop (mkF m 113 #[iv pk, iv fx, iv tx, iv sx, rv bA, iv kd, iv pl, iv ia, iv ib, .unset] [(.ref bA)])) (fun t k => XS.aload X10.here hx rfl (hb hby at_111) rfl rfl k) ?_
    refine Wk.go (A' := T10.setTop (mkF m 114 #[iv pk, iv fx, iv tx, iv sx, rv bA, iv kd, iv pl, iv ia, iv ib, .unset] [(.int (0 : Int32)), (.ref bA)])) (fun t k => XS.iconst X10.here hx rfl (hb hby at_113) k) ?_
    refine Wk.go (A' := T10.setTop (mkF m 116 #[iv pk, iv fx, iv tx, iv sx, rv bA, iv kd, iv pl, iv ia, iv ib, .unset] [(.int ia), (.int (0 : Int32)), (.ref bA)])) (fun t k => XS.iload X10.here hx rfl (hb hby at_114) rfl k) ?_
    refine Wk.go (A' := T10.setTop (mkF m 118 #[iv pk, iv fx, iv tx, iv sx, rv bA, iv kd, iv pl, iv ia, iv ib, .unset] [(.int ib), (.int ia), (.int (0 : Int32)), (.ref bA)])) (fun t k => XS.iload X10.here hx rfl (hb hby at_116) rfl k) ?_
    obtain ⟨_, _, ⟨T12, L12, k12, n12⟩, -, X12, ⟨Lc12, hQ12, l12, y12, z12⟩, st12⟩ := Jvm.LawKit.callS X10 hx (y := (⟨"com/example/arcwalk/arcwalk/TermSpansIsPlainPinLaw", "ok", "([BIII)Z"⟩ : MethodName)) hown (mvT hZ (tw2 hw)) (mvT hZ (tw3 hw)) (mvT hZ (tw4 hw)) (mvT hZ (tw5 hw)) (by decide) (backOf (W := 0) (rm1 l Z a0 hw [] bA (0 : Int32) ia ib fB h10 n0 Zp10 f11 (by decide)) hZ (tw5 hw) (tw4 hw) (by decide) (by decide)) (g := (mkF m 118 #[iv pk, iv fx, iv tx, iv sx, rv bA, iv kd, iv pl, iv ia, iv ib, .unset] [(.int ib), (.int ia), (.int (0 : Int32)), (.ref bA)])) rfl (by rw [hml]; rfl) (argsL := [(.ref bA), (.int (0 : Int32)), (.int ia), (.int ib)]) (rest := []) (lenOf pd_0 rfl) rfl (by show 2 * 0 + _ ≤ _; exact Nat.le_of_eq rfl) (hb hby at_118) (fun _ _ => ⟨rfl, e10, (by decide : 1 + 0 ≤ _), (by decide : 4 + 0 ≤ _)⟩)
    dsimp only [Pt.U, Pt.locs, Pt.cells, Pt.slots] at X12 l12 y12 z12 st12 hQ12
    subst l12 y12 z12
    obtain ⟨rfl, N12q, hE12⟩ := hQ12
    have N12 := Fr.app N10 N12q
    refine Wk.go (A' := T12.setTop (mkF m 121 #[iv pk, iv fx, iv tx, iv sx, rv bA, iv kd, iv pl, iv ia, iv ib, .unset] [(.int (f_ok bA (0 : Int32) ia ib fB))])) (fun t k => st12 t k) ?_
    by_cases hc121 : (f_ok bA (0 : Int32) ia ib fB) = (0 : Int32)
    · refine Wk.go (A' := T12.setTop (mkF m 167 #[iv pk, iv fx, iv tx, iv sx, rv bA, iv kd, iv pl, iv ia, iv ib, .unset] [])) (fun t k => XS.ifYes X12.here hx rfl (pc0 := 121) (pc' := 167) rfl (hb hby at_121) rfl ((if0 _ _).trans (teq hc121).1) (by decide) (by decide) k) ?_
      refine Wk.go (A' := T12.setTop (mkF m 168 #[iv pk, iv fx, iv tx, iv sx, rv bA, iv kd, iv pl, iv ia, iv ib, .unset] [(.int (0 : Int32))])) (fun t k => XS.iconst X12.here hx rfl (hb hby at_167) k) ?_
      refine Wk.go (A' := T12.setTop (mkF m 170 #[iv pk, iv fx, iv tx, iv sx, rv bA, iv kd, iv pl, iv ia, iv ib, iv (0 : Int32)] [])) (fun t k => XS.istore X12.here hx rfl (hb hby at_168) rfl (l' := #[iv pk, iv fx, iv tx, iv sx, rv bA, iv kd, iv pl, iv ia, iv ib, iv (0 : Int32)]) rfl k) ?_
      refine Wk.go (A' := T12.setTop (mkF m 172 #[iv pk, iv fx, iv tx, iv sx, rv bA, iv kd, iv pl, iv ia, iv ib, iv (0 : Int32)] [(.ref bA)])) (fun t k => XS.aload X12.here hx rfl (hb hby at_170) rfl rfl k) ?_
      refine Wk.go (A' := T12.setTop (mkF m 174 #[iv pk, iv fx, iv tx, iv sx, rv bA, iv kd, iv pl, iv ia, iv ib, iv (0 : Int32)] [(.int ia), (.ref bA)])) (fun t k => XS.iload X12.here hx rfl (hb hby at_172) rfl k) ?_
      refine Wk.go (A' := T12.setTop (mkF m 176 #[iv pk, iv fx, iv tx, iv sx, rv bA, iv kd, iv pl, iv ia, iv ib, iv (0 : Int32)] [(.int ib), (.int ia), (.ref bA)])) (fun t k => XS.iload X12.here hx rfl (hb hby at_174) rfl k) ?_
      obtain ⟨_, _, ⟨T13, L13, k13, n13⟩, -, X13, ⟨Lc13, hQ13, l13, y13, z13⟩, st13⟩ := Jvm.LawKit.callS X12 hx (y := (⟨"com/example/arcwalk/arcwalk/TermSpans", "isPlain", "([BII)Z"⟩ : MethodName)) hown (mvT hZ (tw6 hw)) (mvT hZ (tw7 hw)) (mvT hZ (tw8 hw)) (mvT hZ (tw9 hw)) (by decide) (backOf (W := 0) (rm2 l Z a0 hw [] bA ia ib fB h10 n0 Zp10 f11 hf0.1 ht0.2) hZ (tw9 hw) (tw8 hw) (by decide) (by decide)) (g := (mkF m 176 #[iv pk, iv fx, iv tx, iv sx, rv bA, iv kd, iv pl, iv ia, iv ib, iv (0 : Int32)] [(.int ib), (.int ia), (.ref bA)])) rfl (by rw [hml]; rfl) (argsL := [(.ref bA), (.int ia), (.int ib)]) (rest := []) (lenOf pd_1 rfl) rfl (by show 2 * 0 + _ ≤ _; exact Nat.le_of_eq rfl) (hb hby at_176) (fun _ _ => ⟨rfl, (hE12), (by decide : 1 + 0 ≤ _), (by decide : 4 + 0 ≤ _)⟩)
      dsimp only [Pt.U, Pt.locs, Pt.cells, Pt.slots] at X13 l13 y13 z13 st13 hQ13
      subst l13 y13 z13
      obtain ⟨r, rfl, N13q, hE13, R1⟩ := hQ13
      have N13 := Fr.app N12 N13q
      refine Wk.go (A' := T13.setTop (mkF m 179 #[iv pk, iv fx, iv tx, iv sx, rv bA, iv kd, iv pl, iv ia, iv ib, iv (0 : Int32)] [(.int r)])) (fun t k => st13 t k) ?_
      refine Wk.go (A' := T13.setTop (mkF m 181 #[iv pk, iv fx, iv tx, iv sx, rv bA, iv kd, iv pl, iv ia, iv ib, iv (0 : Int32)] [(.int (0 : Int32)), (.int r)])) (fun t k => XS.iload X13.here hx rfl (hb hby at_179) rfl k) ?_
      have hc181 : r = (0 : Int32) := own_bad _ (show 0 < 4 by decide) R1 hc121
      refine Wk.go (A' := T13.setTop (mkF m 184 #[iv pk, iv fx, iv tx, iv sx, rv bA, iv kd, iv pl, iv ia, iv ib, iv (0 : Int32)] [])) (fun t k => XS.icmpNo X13.here hx rfl (hb hby at_181) rfl (teq hc181).2 k) ?_
      refine Wk.go (A' := T13.setTop (mkF m 185 #[iv pk, iv fx, iv tx, iv sx, rv bA, iv kd, iv pl, iv ia, iv ib, iv (0 : Int32)] [(.int (1 : Int32))])) (fun t k => XS.iconst X13.here hx rfl (hb hby at_184) k) ?_
      refine Wk.go (A' := T13.setTop (mkF m 189 #[iv pk, iv fx, iv tx, iv sx, rv bA, iv kd, iv pl, iv ia, iv ib, iv (0 : Int32)] [(.int (1 : Int32))])) (fun t k => XS.goto X13.here hx rfl (pc0 := 185) (pc' := 189) rfl (hb hby at_185) (by decide) (by decide) k) ?_
      refine own_fin (Qv := Q0 Z pk fx tx sx h0 n0) (v := some (.int (1 : Int32))) X13 hlk (fun h => by rw [Bd.returns] at h; cases h) (fun fs hr => retN X13 hx (t := .boolean) Bd.returns (by simp) (hb hby at_189) hr) ?_ (by decide) (by decide)
      exact ⟨rfl, N13⟩
    · refine Wk.go (A' := T12.setTop (mkF m 124 #[iv pk, iv fx, iv tx, iv sx, rv bA, iv kd, iv pl, iv ia, iv ib, .unset] [])) (fun t k => XS.ifNo X12.here hx rfl (hb hby at_121) rfl ((if0 _ _).trans (feq hc121).1) k) ?_
      refine Wk.go (A' := T12.setTop (mkF m 126 #[iv pk, iv fx, iv tx, iv sx, rv bA, iv kd, iv pl, iv ia, iv ib, .unset] [(.ref bA)])) (fun t k => XS.aload X12.here hx rfl (hb hby at_124) rfl rfl k) ?_
      refine Wk.go (A' := T12.setTop (mkF m 127 #[iv pk, iv fx, iv tx, iv sx, rv bA, iv kd, iv pl, iv ia, iv ib, .unset] [(.int (1 : Int32)), (.ref bA)])) (fun t k => XS.iconst X12.here hx rfl (hb hby at_126) k) ?_
      refine Wk.go (A' := T12.setTop (mkF m 129 #[iv pk, iv fx, iv tx, iv sx, rv bA, iv kd, iv pl, iv ia, iv ib, .unset] [(.int ia), (.int (1 : Int32)), (.ref bA)])) (fun t k => XS.iload X12.here hx rfl (hb hby at_127) rfl k) ?_
      refine Wk.go (A' := T12.setTop (mkF m 131 #[iv pk, iv fx, iv tx, iv sx, rv bA, iv kd, iv pl, iv ia, iv ib, .unset] [(.int ib), (.int ia), (.int (1 : Int32)), (.ref bA)])) (fun t k => XS.iload X12.here hx rfl (hb hby at_129) rfl k) ?_
      obtain ⟨_, _, ⟨T14, L14, k14, n14⟩, -, X14, ⟨Lc14, hQ14, l14, y14, z14⟩, st14⟩ := Jvm.LawKit.callS X12 hx (y := (⟨"com/example/arcwalk/arcwalk/TermSpansIsPlainPinLaw", "ok", "([BIII)Z"⟩ : MethodName)) hown (mvT hZ (tw2 hw)) (mvT hZ (tw3 hw)) (mvT hZ (tw4 hw)) (mvT hZ (tw5 hw)) (by decide) (backOf (W := 0) (rm1 l Z a0 hw [] bA (1 : Int32) ia ib fB h10 n0 Zp10 f11 (by decide)) hZ (tw5 hw) (tw4 hw) (by decide) (by decide)) (g := (mkF m 131 #[iv pk, iv fx, iv tx, iv sx, rv bA, iv kd, iv pl, iv ia, iv ib, .unset] [(.int ib), (.int ia), (.int (1 : Int32)), (.ref bA)])) rfl (by rw [hml]; rfl) (argsL := [(.ref bA), (.int (1 : Int32)), (.int ia), (.int ib)]) (rest := []) (lenOf pd_0 rfl) rfl (by show 2 * 0 + _ ≤ _; exact Nat.le_of_eq rfl) (hb hby at_131) (fun _ _ => ⟨rfl, (hE12), (by decide : 1 + 0 ≤ _), (by decide : 4 + 0 ≤ _)⟩)
      dsimp only [Pt.U, Pt.locs, Pt.cells, Pt.slots] at X14 l14 y14 z14 st14 hQ14
      subst l14 y14 z14
      obtain ⟨rfl, N14q, hE14⟩ := hQ14
      have N14 := Fr.app N12 N14q
      refine Wk.go (A' := T14.setTop (mkF m 134 #[iv pk, iv fx, iv tx, iv sx, rv bA, iv kd, iv pl, iv ia, iv ib, .unset] [(.int (f_ok bA (1 : Int32) ia ib fB))])) (fun t k => st14 t k) ?_
      by_cases hc134 : (f_ok bA (1 : Int32) ia ib fB) = (0 : Int32)
      · refine Wk.go (A' := T14.setTop (mkF m 167 #[iv pk, iv fx, iv tx, iv sx, rv bA, iv kd, iv pl, iv ia, iv ib, .unset] [])) (fun t k => XS.ifYes X14.here hx rfl (pc0 := 134) (pc' := 167) rfl (hb hby at_134) rfl ((if0 _ _).trans (teq hc134).1) (by decide) (by decide) k) ?_
        refine Wk.go (A' := T14.setTop (mkF m 168 #[iv pk, iv fx, iv tx, iv sx, rv bA, iv kd, iv pl, iv ia, iv ib, .unset] [(.int (0 : Int32))])) (fun t k => XS.iconst X14.here hx rfl (hb hby at_167) k) ?_
        refine Wk.go (A' := T14.setTop (mkF m 170 #[iv pk, iv fx, iv tx, iv sx, rv bA, iv kd, iv pl, iv ia, iv ib, iv (0 : Int32)] [])) (fun t k => XS.istore X14.here hx rfl (hb hby at_168) rfl (l' := #[iv pk, iv fx, iv tx, iv sx, rv bA, iv kd, iv pl, iv ia, iv ib, iv (0 : Int32)]) rfl k) ?_
        refine Wk.go (A' := T14.setTop (mkF m 172 #[iv pk, iv fx, iv tx, iv sx, rv bA, iv kd, iv pl, iv ia, iv ib, iv (0 : Int32)] [(.ref bA)])) (fun t k => XS.aload X14.here hx rfl (hb hby at_170) rfl rfl k) ?_
        refine Wk.go (A' := T14.setTop (mkF m 174 #[iv pk, iv fx, iv tx, iv sx, rv bA, iv kd, iv pl, iv ia, iv ib, iv (0 : Int32)] [(.int ia), (.ref bA)])) (fun t k => XS.iload X14.here hx rfl (hb hby at_172) rfl k) ?_
        refine Wk.go (A' := T14.setTop (mkF m 176 #[iv pk, iv fx, iv tx, iv sx, rv bA, iv kd, iv pl, iv ia, iv ib, iv (0 : Int32)] [(.int ib), (.int ia), (.ref bA)])) (fun t k => XS.iload X14.here hx rfl (hb hby at_174) rfl k) ?_
        obtain ⟨_, _, ⟨T15, L15, k15, n15⟩, -, X15, ⟨Lc15, hQ15, l15, y15, z15⟩, st15⟩ := Jvm.LawKit.callS X14 hx (y := (⟨"com/example/arcwalk/arcwalk/TermSpans", "isPlain", "([BII)Z"⟩ : MethodName)) hown (mvT hZ (tw6 hw)) (mvT hZ (tw7 hw)) (mvT hZ (tw8 hw)) (mvT hZ (tw9 hw)) (by decide) (backOf (W := 0) (rm2 l Z a0 hw [] bA ia ib fB h10 n0 Zp10 f11 hf0.1 ht0.2) hZ (tw9 hw) (tw8 hw) (by decide) (by decide)) (g := (mkF m 176 #[iv pk, iv fx, iv tx, iv sx, rv bA, iv kd, iv pl, iv ia, iv ib, iv (0 : Int32)] [(.int ib), (.int ia), (.ref bA)])) rfl (by rw [hml]; rfl) (argsL := [(.ref bA), (.int ia), (.int ib)]) (rest := []) (lenOf pd_1 rfl) rfl (by show 2 * 0 + _ ≤ _; exact Nat.le_of_eq rfl) (hb hby at_176) (fun _ _ => ⟨rfl, (hE14), (by decide : 1 + 0 ≤ _), (by decide : 4 + 0 ≤ _)⟩)
        dsimp only [Pt.U, Pt.locs, Pt.cells, Pt.slots] at X15 l15 y15 z15 st15 hQ15
        subst l15 y15 z15
        obtain ⟨r, rfl, N15q, hE15, R1⟩ := hQ15
        have N15 := Fr.app N14 N15q
        refine Wk.go (A' := T15.setTop (mkF m 179 #[iv pk, iv fx, iv tx, iv sx, rv bA, iv kd, iv pl, iv ia, iv ib, iv (0 : Int32)] [(.int r)])) (fun t k => st15 t k) ?_
        refine Wk.go (A' := T15.setTop (mkF m 181 #[iv pk, iv fx, iv tx, iv sx, rv bA, iv kd, iv pl, iv ia, iv ib, iv (0 : Int32)] [(.int (0 : Int32)), (.int r)])) (fun t k => XS.iload X15.here hx rfl (hb hby at_179) rfl k) ?_
        have hc181 : r = (0 : Int32) := own_bad _ (show 1 < 4 by decide) R1 hc134
        refine Wk.go (A' := T15.setTop (mkF m 184 #[iv pk, iv fx, iv tx, iv sx, rv bA, iv kd, iv pl, iv ia, iv ib, iv (0 : Int32)] [])) (fun t k => XS.icmpNo X15.here hx rfl (hb hby at_181) rfl (teq hc181).2 k) ?_
        refine Wk.go (A' := T15.setTop (mkF m 185 #[iv pk, iv fx, iv tx, iv sx, rv bA, iv kd, iv pl, iv ia, iv ib, iv (0 : Int32)] [(.int (1 : Int32))])) (fun t k => XS.iconst X15.here hx rfl (hb hby at_184) k) ?_
        refine Wk.go (A' := T15.setTop (mkF m 189 #[iv pk, iv fx, iv tx, iv sx, rv bA, iv kd, iv pl, iv ia, iv ib, iv (0 : Int32)] [(.int (1 : Int32))])) (fun t k => XS.goto X15.here hx rfl (pc0 := 185) (pc' := 189) rfl (hb hby at_185) (by decide) (by decide) k) ?_
        refine own_fin (Qv := Q0 Z pk fx tx sx h0 n0) (v := some (.int (1 : Int32))) X15 hlk (fun h => by rw [Bd.returns] at h; cases h) (fun fs hr => retN X15 hx (t := .boolean) Bd.returns (by simp) (hb hby at_189) hr) ?_ (by decide) (by decide)
        exact ⟨rfl, N15⟩
      · refine Wk.go (A' := T14.setTop (mkF m 137 #[iv pk, iv fx, iv tx, iv sx, rv bA, iv kd, iv pl, iv ia, iv ib, .unset] [])) (fun t k => XS.ifNo X14.here hx rfl (hb hby at_134) rfl ((if0 _ _).trans (feq hc134).1) k) ?_
        refine Wk.go (A' := T14.setTop (mkF m 139 #[iv pk, iv fx, iv tx, iv sx, rv bA, iv kd, iv pl, iv ia, iv ib, .unset] [(.ref bA)])) (fun t k => XS.aload X14.here hx rfl (hb hby at_137) rfl rfl k) ?_
        refine Wk.go (A' := T14.setTop (mkF m 140 #[iv pk, iv fx, iv tx, iv sx, rv bA, iv kd, iv pl, iv ia, iv ib, .unset] [(.int (2 : Int32)), (.ref bA)])) (fun t k => XS.iconst X14.here hx rfl (hb hby at_139) k) ?_
        refine Wk.go (A' := T14.setTop (mkF m 142 #[iv pk, iv fx, iv tx, iv sx, rv bA, iv kd, iv pl, iv ia, iv ib, .unset] [(.int ia), (.int (2 : Int32)), (.ref bA)])) (fun t k => XS.iload X14.here hx rfl (hb hby at_140) rfl k) ?_
        refine Wk.go (A' := T14.setTop (mkF m 144 #[iv pk, iv fx, iv tx, iv sx, rv bA, iv kd, iv pl, iv ia, iv ib, .unset] [(.int ib), (.int ia), (.int (2 : Int32)), (.ref bA)])) (fun t k => XS.iload X14.here hx rfl (hb hby at_142) rfl k) ?_
        obtain ⟨_, _, ⟨T16, L16, k16, n16⟩, -, X16, ⟨Lc16, hQ16, l16, y16, z16⟩, st16⟩ := Jvm.LawKit.callS X14 hx (y := (⟨"com/example/arcwalk/arcwalk/TermSpansIsPlainPinLaw", "ok", "([BIII)Z"⟩ : MethodName)) hown (mvT hZ (tw2 hw)) (mvT hZ (tw3 hw)) (mvT hZ (tw4 hw)) (mvT hZ (tw5 hw)) (by decide) (backOf (W := 0) (rm1 l Z a0 hw [] bA (2 : Int32) ia ib fB h10 n0 Zp10 f11 (by decide)) hZ (tw5 hw) (tw4 hw) (by decide) (by decide)) (g := (mkF m 144 #[iv pk, iv fx, iv tx, iv sx, rv bA, iv kd, iv pl, iv ia, iv ib, .unset] [(.int ib), (.int ia), (.int (2 : Int32)), (.ref bA)])) rfl (by rw [hml]; rfl) (argsL := [(.ref bA), (.int (2 : Int32)), (.int ia), (.int ib)]) (rest := []) (lenOf pd_0 rfl) rfl (by show 2 * 0 + _ ≤ _; exact Nat.le_of_eq rfl) (hb hby at_144) (fun _ _ => ⟨rfl, (hE14), (by decide : 1 + 0 ≤ _), (by decide : 4 + 0 ≤ _)⟩)
        dsimp only [Pt.U, Pt.locs, Pt.cells, Pt.slots] at X16 l16 y16 z16 st16 hQ16
        subst l16 y16 z16
        obtain ⟨rfl, N16q, hE16⟩ := hQ16
        have N16 := Fr.app N14 N16q
        refine Wk.go (A' := T16.setTop (mkF m 147 #[iv pk, iv fx, iv tx, iv sx, rv bA, iv kd, iv pl, iv ia, iv ib, .unset] [(.int (f_ok bA (2 : Int32) ia ib fB))])) (fun t k => st16 t k) ?_
        by_cases hc147 : (f_ok bA (2 : Int32) ia ib fB) = (0 : Int32)
        · refine Wk.go (A' := T16.setTop (mkF m 167 #[iv pk, iv fx, iv tx, iv sx, rv bA, iv kd, iv pl, iv ia, iv ib, .unset] [])) (fun t k => XS.ifYes X16.here hx rfl (pc0 := 147) (pc' := 167) rfl (hb hby at_147) rfl ((if0 _ _).trans (teq hc147).1) (by decide) (by decide) k) ?_
          refine Wk.go (A' := T16.setTop (mkF m 168 #[iv pk, iv fx, iv tx, iv sx, rv bA, iv kd, iv pl, iv ia, iv ib, .unset] [(.int (0 : Int32))])) (fun t k => XS.iconst X16.here hx rfl (hb hby at_167) k) ?_
          refine Wk.go (A' := T16.setTop (mkF m 170 #[iv pk, iv fx, iv tx, iv sx, rv bA, iv kd, iv pl, iv ia, iv ib, iv (0 : Int32)] [])) (fun t k => XS.istore X16.here hx rfl (hb hby at_168) rfl (l' := #[iv pk, iv fx, iv tx, iv sx, rv bA, iv kd, iv pl, iv ia, iv ib, iv (0 : Int32)]) rfl k) ?_
          refine Wk.go (A' := T16.setTop (mkF m 172 #[iv pk, iv fx, iv tx, iv sx, rv bA, iv kd, iv pl, iv ia, iv ib, iv (0 : Int32)] [(.ref bA)])) (fun t k => XS.aload X16.here hx rfl (hb hby at_170) rfl rfl k) ?_
          refine Wk.go (A' := T16.setTop (mkF m 174 #[iv pk, iv fx, iv tx, iv sx, rv bA, iv kd, iv pl, iv ia, iv ib, iv (0 : Int32)] [(.int ia), (.ref bA)])) (fun t k => XS.iload X16.here hx rfl (hb hby at_172) rfl k) ?_
          refine Wk.go (A' := T16.setTop (mkF m 176 #[iv pk, iv fx, iv tx, iv sx, rv bA, iv kd, iv pl, iv ia, iv ib, iv (0 : Int32)] [(.int ib), (.int ia), (.ref bA)])) (fun t k => XS.iload X16.here hx rfl (hb hby at_174) rfl k) ?_
          obtain ⟨_, _, ⟨T17, L17, k17, n17⟩, -, X17, ⟨Lc17, hQ17, l17, y17, z17⟩, st17⟩ := Jvm.LawKit.callS X16 hx (y := (⟨"com/example/arcwalk/arcwalk/TermSpans", "isPlain", "([BII)Z"⟩ : MethodName)) hown (mvT hZ (tw6 hw)) (mvT hZ (tw7 hw)) (mvT hZ (tw8 hw)) (mvT hZ (tw9 hw)) (by decide) (backOf (W := 0) (rm2 l Z a0 hw [] bA ia ib fB h10 n0 Zp10 f11 hf0.1 ht0.2) hZ (tw9 hw) (tw8 hw) (by decide) (by decide)) (g := (mkF m 176 #[iv pk, iv fx, iv tx, iv sx, rv bA, iv kd, iv pl, iv ia, iv ib, iv (0 : Int32)] [(.int ib), (.int ia), (.ref bA)])) rfl (by rw [hml]; rfl) (argsL := [(.ref bA), (.int ia), (.int ib)]) (rest := []) (lenOf pd_1 rfl) rfl (by show 2 * 0 + _ ≤ _; exact Nat.le_of_eq rfl) (hb hby at_176) (fun _ _ => ⟨rfl, (hE16), (by decide : 1 + 0 ≤ _), (by decide : 4 + 0 ≤ _)⟩)
          dsimp only [Pt.U, Pt.locs, Pt.cells, Pt.slots] at X17 l17 y17 z17 st17 hQ17
          subst l17 y17 z17
          obtain ⟨r, rfl, N17q, hE17, R1⟩ := hQ17
          have N17 := Fr.app N16 N17q
          refine Wk.go (A' := T17.setTop (mkF m 179 #[iv pk, iv fx, iv tx, iv sx, rv bA, iv kd, iv pl, iv ia, iv ib, iv (0 : Int32)] [(.int r)])) (fun t k => st17 t k) ?_
          refine Wk.go (A' := T17.setTop (mkF m 181 #[iv pk, iv fx, iv tx, iv sx, rv bA, iv kd, iv pl, iv ia, iv ib, iv (0 : Int32)] [(.int (0 : Int32)), (.int r)])) (fun t k => XS.iload X17.here hx rfl (hb hby at_179) rfl k) ?_
          have hc181 : r = (0 : Int32) := own_bad _ (show 2 < 4 by decide) R1 hc147
          refine Wk.go (A' := T17.setTop (mkF m 184 #[iv pk, iv fx, iv tx, iv sx, rv bA, iv kd, iv pl, iv ia, iv ib, iv (0 : Int32)] [])) (fun t k => XS.icmpNo X17.here hx rfl (hb hby at_181) rfl (teq hc181).2 k) ?_
          refine Wk.go (A' := T17.setTop (mkF m 185 #[iv pk, iv fx, iv tx, iv sx, rv bA, iv kd, iv pl, iv ia, iv ib, iv (0 : Int32)] [(.int (1 : Int32))])) (fun t k => XS.iconst X17.here hx rfl (hb hby at_184) k) ?_
          refine Wk.go (A' := T17.setTop (mkF m 189 #[iv pk, iv fx, iv tx, iv sx, rv bA, iv kd, iv pl, iv ia, iv ib, iv (0 : Int32)] [(.int (1 : Int32))])) (fun t k => XS.goto X17.here hx rfl (pc0 := 185) (pc' := 189) rfl (hb hby at_185) (by decide) (by decide) k) ?_
          refine own_fin (Qv := Q0 Z pk fx tx sx h0 n0) (v := some (.int (1 : Int32))) X17 hlk (fun h => by rw [Bd.returns] at h; cases h) (fun fs hr => retN X17 hx (t := .boolean) Bd.returns (by simp) (hb hby at_189) hr) ?_ (by decide) (by decide)
          exact ⟨rfl, N17⟩
        · refine Wk.go (A' := T16.setTop (mkF m 150 #[iv pk, iv fx, iv tx, iv sx, rv bA, iv kd, iv pl, iv ia, iv ib, .unset] [])) (fun t k => XS.ifNo X16.here hx rfl (hb hby at_147) rfl ((if0 _ _).trans (feq hc147).1) k) ?_
          refine Wk.go (A' := T16.setTop (mkF m 152 #[iv pk, iv fx, iv tx, iv sx, rv bA, iv kd, iv pl, iv ia, iv ib, .unset] [(.ref bA)])) (fun t k => XS.aload X16.here hx rfl (hb hby at_150) rfl rfl k) ?_
          refine Wk.go (A' := T16.setTop (mkF m 153 #[iv pk, iv fx, iv tx, iv sx, rv bA, iv kd, iv pl, iv ia, iv ib, .unset] [(.int (3 : Int32)), (.ref bA)])) (fun t k => XS.iconst X16.here hx rfl (hb hby at_152) k) ?_
          refine Wk.go (A' := T16.setTop (mkF m 155 #[iv pk, iv fx, iv tx, iv sx, rv bA, iv kd, iv pl, iv ia, iv ib, .unset] [(.int ia), (.int (3 : Int32)), (.ref bA)])) (fun t k => XS.iload X16.here hx rfl (hb hby at_153) rfl k) ?_
          refine Wk.go (A' := T16.setTop (mkF m 157 #[iv pk, iv fx, iv tx, iv sx, rv bA, iv kd, iv pl, iv ia, iv ib, .unset] [(.int ib), (.int ia), (.int (3 : Int32)), (.ref bA)])) (fun t k => XS.iload X16.here hx rfl (hb hby at_155) rfl k) ?_
          obtain ⟨_, _, ⟨T18, L18, k18, n18⟩, -, X18, ⟨Lc18, hQ18, l18, y18, z18⟩, st18⟩ := Jvm.LawKit.callS X16 hx (y := (⟨"com/example/arcwalk/arcwalk/TermSpansIsPlainPinLaw", "ok", "([BIII)Z"⟩ : MethodName)) hown (mvT hZ (tw2 hw)) (mvT hZ (tw3 hw)) (mvT hZ (tw4 hw)) (mvT hZ (tw5 hw)) (by decide) (backOf (W := 0) (rm1 l Z a0 hw [] bA (3 : Int32) ia ib fB h10 n0 Zp10 f11 (by decide)) hZ (tw5 hw) (tw4 hw) (by decide) (by decide)) (g := (mkF m 157 #[iv pk, iv fx, iv tx, iv sx, rv bA, iv kd, iv pl, iv ia, iv ib, .unset] [(.int ib), (.int ia), (.int (3 : Int32)), (.ref bA)])) rfl (by rw [hml]; rfl) (argsL := [(.ref bA), (.int (3 : Int32)), (.int ia), (.int ib)]) (rest := []) (lenOf pd_0 rfl) rfl (by show 2 * 0 + _ ≤ _; exact Nat.le_of_eq rfl) (hb hby at_157) (fun _ _ => ⟨rfl, (hE16), (by decide : 1 + 0 ≤ _), (by decide : 4 + 0 ≤ _)⟩)
          dsimp only [Pt.U, Pt.locs, Pt.cells, Pt.slots] at X18 l18 y18 z18 st18 hQ18
          subst l18 y18 z18
          obtain ⟨rfl, N18q, hE18⟩ := hQ18
          have N18 := Fr.app N16 N18q
          refine Wk.go (A' := T18.setTop (mkF m 160 #[iv pk, iv fx, iv tx, iv sx, rv bA, iv kd, iv pl, iv ia, iv ib, .unset] [(.int (f_ok bA (3 : Int32) ia ib fB))])) (fun t k => st18 t k) ?_
          by_cases hc160 : (f_ok bA (3 : Int32) ia ib fB) = (0 : Int32)
          · refine Wk.go (A' := T18.setTop (mkF m 167 #[iv pk, iv fx, iv tx, iv sx, rv bA, iv kd, iv pl, iv ia, iv ib, .unset] [])) (fun t k => XS.ifYes X18.here hx rfl (pc0 := 160) (pc' := 167) rfl (hb hby at_160) rfl ((if0 _ _).trans (teq hc160).1) (by decide) (by decide) k) ?_
            refine Wk.go (A' := T18.setTop (mkF m 168 #[iv pk, iv fx, iv tx, iv sx, rv bA, iv kd, iv pl, iv ia, iv ib, .unset] [(.int (0 : Int32))])) (fun t k => XS.iconst X18.here hx rfl (hb hby at_167) k) ?_
            refine Wk.go (A' := T18.setTop (mkF m 170 #[iv pk, iv fx, iv tx, iv sx, rv bA, iv kd, iv pl, iv ia, iv ib, iv (0 : Int32)] [])) (fun t k => XS.istore X18.here hx rfl (hb hby at_168) rfl (l' := #[iv pk, iv fx, iv tx, iv sx, rv bA, iv kd, iv pl, iv ia, iv ib, iv (0 : Int32)]) rfl k) ?_
            refine Wk.go (A' := T18.setTop (mkF m 172 #[iv pk, iv fx, iv tx, iv sx, rv bA, iv kd, iv pl, iv ia, iv ib, iv (0 : Int32)] [(.ref bA)])) (fun t k => XS.aload X18.here hx rfl (hb hby at_170) rfl rfl k) ?_
            refine Wk.go (A' := T18.setTop (mkF m 174 #[iv pk, iv fx, iv tx, iv sx, rv bA, iv kd, iv pl, iv ia, iv ib, iv (0 : Int32)] [(.int ia), (.ref bA)])) (fun t k => XS.iload X18.here hx rfl (hb hby at_172) rfl k) ?_
            refine Wk.go (A' := T18.setTop (mkF m 176 #[iv pk, iv fx, iv tx, iv sx, rv bA, iv kd, iv pl, iv ia, iv ib, iv (0 : Int32)] [(.int ib), (.int ia), (.ref bA)])) (fun t k => XS.iload X18.here hx rfl (hb hby at_174) rfl k) ?_
            obtain ⟨_, _, ⟨T19, L19, k19, n19⟩, -, X19, ⟨Lc19, hQ19, l19, y19, z19⟩, st19⟩ := Jvm.LawKit.callS X18 hx (y := (⟨"com/example/arcwalk/arcwalk/TermSpans", "isPlain", "([BII)Z"⟩ : MethodName)) hown (mvT hZ (tw6 hw)) (mvT hZ (tw7 hw)) (mvT hZ (tw8 hw)) (mvT hZ (tw9 hw)) (by decide) (backOf (W := 0) (rm2 l Z a0 hw [] bA ia ib fB h10 n0 Zp10 f11 hf0.1 ht0.2) hZ (tw9 hw) (tw8 hw) (by decide) (by decide)) (g := (mkF m 176 #[iv pk, iv fx, iv tx, iv sx, rv bA, iv kd, iv pl, iv ia, iv ib, iv (0 : Int32)] [(.int ib), (.int ia), (.ref bA)])) rfl (by rw [hml]; rfl) (argsL := [(.ref bA), (.int ia), (.int ib)]) (rest := []) (lenOf pd_1 rfl) rfl (by show 2 * 0 + _ ≤ _; exact Nat.le_of_eq rfl) (hb hby at_176) (fun _ _ => ⟨rfl, (hE18), (by decide : 1 + 0 ≤ _), (by decide : 4 + 0 ≤ _)⟩)
            dsimp only [Pt.U, Pt.locs, Pt.cells, Pt.slots] at X19 l19 y19 z19 st19 hQ19
            subst l19 y19 z19
            obtain ⟨r, rfl, N19q, hE19, R1⟩ := hQ19
            have N19 := Fr.app N18 N19q
            refine Wk.go (A' := T19.setTop (mkF m 179 #[iv pk, iv fx, iv tx, iv sx, rv bA, iv kd, iv pl, iv ia, iv ib, iv (0 : Int32)] [(.int r)])) (fun t k => st19 t k) ?_
            refine Wk.go (A' := T19.setTop (mkF m 181 #[iv pk, iv fx, iv tx, iv sx, rv bA, iv kd, iv pl, iv ia, iv ib, iv (0 : Int32)] [(.int (0 : Int32)), (.int r)])) (fun t k => XS.iload X19.here hx rfl (hb hby at_179) rfl k) ?_
            have hc181 : r = (0 : Int32) := own_bad _ (show 3 < 4 by decide) R1 hc160
            refine Wk.go (A' := T19.setTop (mkF m 184 #[iv pk, iv fx, iv tx, iv sx, rv bA, iv kd, iv pl, iv ia, iv ib, iv (0 : Int32)] [])) (fun t k => XS.icmpNo X19.here hx rfl (hb hby at_181) rfl (teq hc181).2 k) ?_
            refine Wk.go (A' := T19.setTop (mkF m 185 #[iv pk, iv fx, iv tx, iv sx, rv bA, iv kd, iv pl, iv ia, iv ib, iv (0 : Int32)] [(.int (1 : Int32))])) (fun t k => XS.iconst X19.here hx rfl (hb hby at_184) k) ?_
            refine Wk.go (A' := T19.setTop (mkF m 189 #[iv pk, iv fx, iv tx, iv sx, rv bA, iv kd, iv pl, iv ia, iv ib, iv (0 : Int32)] [(.int (1 : Int32))])) (fun t k => XS.goto X19.here hx rfl (pc0 := 185) (pc' := 189) rfl (hb hby at_185) (by decide) (by decide) k) ?_
            refine own_fin (Qv := Q0 Z pk fx tx sx h0 n0) (v := some (.int (1 : Int32))) X19 hlk (fun h => by rw [Bd.returns] at h; cases h) (fun fs hr => retN X19 hx (t := .boolean) Bd.returns (by simp) (hb hby at_189) hr) ?_ (by decide) (by decide)
            exact ⟨rfl, N19⟩
          · refine Wk.go (A' := T18.setTop (mkF m 163 #[iv pk, iv fx, iv tx, iv sx, rv bA, iv kd, iv pl, iv ia, iv ib, .unset] [])) (fun t k => XS.ifNo X18.here hx rfl (hb hby at_160) rfl ((if0 _ _).trans (feq hc160).1) k) ?_
            refine Wk.go (A' := T18.setTop (mkF m 164 #[iv pk, iv fx, iv tx, iv sx, rv bA, iv kd, iv pl, iv ia, iv ib, .unset] [(.int (1 : Int32))])) (fun t k => XS.iconst X18.here hx rfl (hb hby at_163) k) ?_
            refine Wk.go (A' := T18.setTop (mkF m 168 #[iv pk, iv fx, iv tx, iv sx, rv bA, iv kd, iv pl, iv ia, iv ib, .unset] [(.int (1 : Int32))])) (fun t k => XS.goto X18.here hx rfl (pc0 := 164) (pc' := 168) rfl (hb hby at_164) (by decide) (by decide) k) ?_
            refine Wk.go (A' := T18.setTop (mkF m 170 #[iv pk, iv fx, iv tx, iv sx, rv bA, iv kd, iv pl, iv ia, iv ib, iv (1 : Int32)] [])) (fun t k => XS.istore X18.here hx rfl (hb hby at_168) rfl (l' := #[iv pk, iv fx, iv tx, iv sx, rv bA, iv kd, iv pl, iv ia, iv ib, iv (1 : Int32)]) rfl k) ?_
            refine Wk.go (A' := T18.setTop (mkF m 172 #[iv pk, iv fx, iv tx, iv sx, rv bA, iv kd, iv pl, iv ia, iv ib, iv (1 : Int32)] [(.ref bA)])) (fun t k => XS.aload X18.here hx rfl (hb hby at_170) rfl rfl k) ?_
            refine Wk.go (A' := T18.setTop (mkF m 174 #[iv pk, iv fx, iv tx, iv sx, rv bA, iv kd, iv pl, iv ia, iv ib, iv (1 : Int32)] [(.int ia), (.ref bA)])) (fun t k => XS.iload X18.here hx rfl (hb hby at_172) rfl k) ?_
            refine Wk.go (A' := T18.setTop (mkF m 176 #[iv pk, iv fx, iv tx, iv sx, rv bA, iv kd, iv pl, iv ia, iv ib, iv (1 : Int32)] [(.int ib), (.int ia), (.ref bA)])) (fun t k => XS.iload X18.here hx rfl (hb hby at_174) rfl k) ?_
            obtain ⟨_, _, ⟨T20, L20, k20, n20⟩, -, X20, ⟨Lc20, hQ20, l20, y20, z20⟩, st20⟩ := Jvm.LawKit.callS X18 hx (y := (⟨"com/example/arcwalk/arcwalk/TermSpans", "isPlain", "([BII)Z"⟩ : MethodName)) hown (mvT hZ (tw6 hw)) (mvT hZ (tw7 hw)) (mvT hZ (tw8 hw)) (mvT hZ (tw9 hw)) (by decide) (backOf (W := 0) (rm2 l Z a0 hw [] bA ia ib fB h10 n0 Zp10 f11 hf0.1 ht0.2) hZ (tw9 hw) (tw8 hw) (by decide) (by decide)) (g := (mkF m 176 #[iv pk, iv fx, iv tx, iv sx, rv bA, iv kd, iv pl, iv ia, iv ib, iv (1 : Int32)] [(.int ib), (.int ia), (.ref bA)])) rfl (by rw [hml]; rfl) (argsL := [(.ref bA), (.int ia), (.int ib)]) (rest := []) (lenOf pd_1 rfl) rfl (by show 2 * 0 + _ ≤ _; exact Nat.le_of_eq rfl) (hb hby at_176) (fun _ _ => ⟨rfl, (hE18), (by decide : 1 + 0 ≤ _), (by decide : 4 + 0 ≤ _)⟩)
            dsimp only [Pt.U, Pt.locs, Pt.cells, Pt.slots] at X20 l20 y20 z20 st20 hQ20
            subst l20 y20 z20
            obtain ⟨r, rfl, N20q, hE20, R1⟩ := hQ20
            have N20 := Fr.app N18 N20q
            refine Wk.go (A' := T20.setTop (mkF m 179 #[iv pk, iv fx, iv tx, iv sx, rv bA, iv kd, iv pl, iv ia, iv ib, iv (1 : Int32)] [(.int r)])) (fun t k => st20 t k) ?_
            refine Wk.go (A' := T20.setTop (mkF m 181 #[iv pk, iv fx, iv tx, iv sx, rv bA, iv kd, iv pl, iv ia, iv ib, iv (1 : Int32)] [(.int (1 : Int32)), (.int r)])) (fun t k => XS.iload X20.here hx rfl (hb hby at_179) rfl k) ?_
            have hc181 : r = (1 : Int32) := own_fine _ hf0.1 ht0.2 R1 (own_four hc121 hc134 hc147 hc160)
            refine Wk.go (A' := T20.setTop (mkF m 184 #[iv pk, iv fx, iv tx, iv sx, rv bA, iv kd, iv pl, iv ia, iv ib, iv (1 : Int32)] [])) (fun t k => XS.icmpNo X20.here hx rfl (hb hby at_181) rfl (teq hc181).2 k) ?_
            refine Wk.go (A' := T20.setTop (mkF m 185 #[iv pk, iv fx, iv tx, iv sx, rv bA, iv kd, iv pl, iv ia, iv ib, iv (1 : Int32)] [(.int (1 : Int32))])) (fun t k => XS.iconst X20.here hx rfl (hb hby at_184) k) ?_
            refine Wk.go (A' := T20.setTop (mkF m 189 #[iv pk, iv fx, iv tx, iv sx, rv bA, iv kd, iv pl, iv ia, iv ib, iv (1 : Int32)] [(.int (1 : Int32))])) (fun t k => XS.goto X20.here hx rfl (pc0 := 185) (pc' := 189) rfl (hb hby at_185) (by decide) (by decide) k) ?_
            refine own_fin (Qv := Q0 Z pk fx tx sx h0 n0) (v := some (.int (1 : Int32))) X20 hlk (fun h => by rw [Bd.returns] at h; cases h) (fun fs hr => retN X20 hx (t := .boolean) Bd.returns (by simp) (hb hby at_189) hr) ?_ (by decide) (by decide)
            exact ⟨rfl, N20⟩
  · refine Wk.go (A' := T8.setTop (mkF m 66 #[iv pk, iv fx, iv tx, iv sx, rv bA, iv kd, iv pl, .unset, .unset, .unset] [])) (fun t k => XS.icmpYes X8.here hx rfl (pc0 := 53) (pc' := 66) rfl (hb hby at_53) rfl (feq hc53).2 (by decide) (by decide) k) ?_
    refine Wk.go (A' := T8.setTop (mkF m 68 #[iv pk, iv fx, iv tx, iv sx, rv bA, iv kd, iv pl, .unset, .unset, .unset] [(.int kd)])) (fun t k => XS.iload X8.here hx rfl (hb hby at_66) rfl k) ?_
    refine Wk.go (A' := T8.setTop (mkF m 69 #[iv pk, iv fx, iv tx, iv sx, rv bA, iv kd, iv pl, .unset, .unset, .unset] [(.int (2 : Int32)), (.int kd)])) (fun t k => XS.iconst X8.here hx rfl (hb hby at_68) k) ?_
    by_cases hc69 : kd = (2 : Int32)
    · refine Wk.go (A' := T8.setTop (mkF m 72 #[iv pk, iv fx, iv tx, iv sx, rv bA, iv kd, iv pl, .unset, .unset, .unset] [])) (fun t k => XS.icmpNo X8.here hx rfl (hb hby at_69) rfl (teq hc69).2 k) ?_
      refine Wk.go (A' := T8.setTop (mkF m 74 #[iv pk, iv fx, iv tx, iv sx, rv bA, iv kd, iv pl, .unset, .unset, .unset] [(.ref bA)])) (fun t k => XS.aload X8.here hx rfl (hb hby at_72) rfl rfl k) ?_
      refine Wk.go (A' := T8.setTop (mkF m 76 #[iv pk, iv fx, iv tx, iv sx, rv bA, iv kd, iv pl, .unset, .unset, .unset] [(.int pl), (.ref bA)])) (fun t k => XS.iload X8.here hx rfl (hb hby at_74) rfl k) ?_
      refine Wk.go (A' := T8.setTop (mkF m 78 #[iv pk, iv fx, iv tx, iv sx, rv bA, iv kd, iv pl, .unset, .unset, .unset] [(.int (10 : Int32)), (.int pl), (.ref bA)])) (fun t k => XS.bipush X8.here hx rfl (hb hby at_76) k) ?_
      obtain ⟨T21, h21, X21, e21, W21, B21, st21⟩ := own_stB X8 hx hZ e8 f9 (j := pl) hp (g := (mkF m 78 #[iv pk, iv fx, iv tx, iv sx, rv bA, iv kd, iv pl, .unset, .unset, .unset] [(.int (10 : Int32)), (.int pl), (.ref bA)])) rfl rfl (hb hby at_78)
      have V21 : BA Z h21 bA 4 (own_upd f4 (pl).toNatClampNeg ((10 : Int32)).toInt8.toInt32) := B21
      obtain ⟨fB, hfB⟩ : ∃ z, z = (own_upd f4 (pl).toNatClampNeg ((10 : Int32)).toInt8.toInt32) := ⟨_, rfl⟩
      rw [← hfB] at V21
      have f22 := V21
      have Zp21 : n0 ≤ h21.size := Nat.le_trans Zp8 (Nat.le_of_eq W21.size.symm)
      have N21 := Fr.snoc X21 N8 g_bA
      refine Wk.go (A' := T21.setTop (mkF m 79 #[iv pk, iv fx, iv tx, iv sx, rv bA, iv kd, iv pl, .unset, .unset, .unset] [])) (fun t k => st21 t k) ?_
      refine Wk.go (A' := T21.setTop (mkF m 95 #[iv pk, iv fx, iv tx, iv sx, rv bA, iv kd, iv pl, .unset, .unset, .unset] [])) (fun t k => XS.goto X21.here hx rfl (pc0 := 79) (pc' := 95) rfl (hb hby at_79) (by decide) (by decide) k) ?_
      refine Wk.go (A' := T21.setTop (mkF m 96 #[iv pk, iv fx, iv tx, iv sx, rv bA, iv kd, iv pl, .unset, .unset, .unset] [(.int fx)])) (fun t k => XS.iloadN X21.here hx rfl (hb hby at_95) rfl k) ?_
      refine Wk.go (A' := T21.setTop (mkF m 98 #[iv pk, iv fx, iv tx, iv sx, rv bA, iv kd, iv pl, .unset, .unset, .unset] [(.int (2147483647 : Int32)), (.int fx)])) (fun t k => X21.ldcInt hx hown (mvT hZ (tw1 hw)) (g := (mkF m 96 #[iv pk, iv fx, iv tx, iv sx, rv bA, iv kd, iv pl, .unset, .unset, .unset] [(.int fx)])) rfl (hb hby at_96) t k) ?_
      refine Wk.go (A' := T21.setTop (mkF m 99 #[iv pk, iv fx, iv tx, iv sx, rv bA, iv kd, iv pl, .unset, .unset, .unset] [(.int (fx &&& (2147483647 : Int32)))])) (fun t k => XS.iand X21.here hx rfl (hb hby at_98) rfl k) ?_
      refine Wk.go (A' := T21.setTop (mkF m 100 #[iv pk, iv fx, iv tx, iv sx, rv bA, iv kd, iv pl, .unset, .unset, .unset] [(.int (5 : Int32)), (.int (fx &&& (2147483647 : Int32)))])) (fun t k => XS.iconst X21.here hx rfl (hb hby at_99) k) ?_
      refine Wk.go (A' := T21.setTop (mkF m 101 #[iv pk, iv fx, iv tx, iv sx, rv bA, iv kd, iv pl, .unset, .unset, .unset] [(.int ((fx &&& (2147483647 : Int32)) % (5 : Int32)))])) (fun t k => iremM X21 hx rfl (hb hby at_100) rfl (by decide) k) ?_
      refine Wk.go (A' := T21.setTop (mkF m 103 #[iv pk, iv fx, iv tx, iv sx, rv bA, iv kd, iv pl, iv ((fx &&& (2147483647 : Int32)) % (5 : Int32)), .unset, .unset] [])) (fun t k => XS.istore X21.here hx rfl (hb hby at_101) rfl (l' := #[iv pk, iv fx, iv tx, iv sx, rv bA, iv kd, iv pl, iv ((fx &&& (2147483647 : Int32)) % (5 : Int32)), .unset, .unset]) rfl k) ?_
      generalize hia : ((fx &&& (2147483647 : Int32)) % (5 : Int32)) = ia
      have hf0 : 0 ≤ ia.toInt ∧ ia.toInt ≤ 4 := by rw [← hia]; exact own_5 fx
      refine Wk.go (A' := T21.setTop (mkF m 104 #[iv pk, iv fx, iv tx, iv sx, rv bA, iv kd, iv pl, iv ia, .unset, .unset] [(.int tx)])) (fun t k => XS.iloadN X21.here hx rfl (hb hby at_103) rfl k) ?_
      refine Wk.go (A' := T21.setTop (mkF m 106 #[iv pk, iv fx, iv tx, iv sx, rv bA, iv kd, iv pl, iv ia, .unset, .unset] [(.int (2147483647 : Int32)), (.int tx)])) (fun t k => X21.ldcInt hx hown (mvT hZ (tw1 hw)) (g := (mkF m 104 #[iv pk, iv fx, iv tx, iv sx, rv bA, iv kd, iv pl, iv ia, .unset, .unset] [(.int tx)])) rfl (hb hby at_104) t k) ?_
      refine Wk.go (A' := T21.setTop (mkF m 107 #[iv pk, iv fx, iv tx, iv sx, rv bA, iv kd, iv pl, iv ia, .unset, .unset] [(.int (tx &&& (2147483647 : Int32)))])) (fun t k => XS.iand X21.here hx rfl (hb hby at_106) rfl k) ?_
      refine Wk.go (A' := T21.setTop (mkF m 108 #[iv pk, iv fx, iv tx, iv sx, rv bA, iv kd, iv pl, iv ia, .unset, .unset] [(.int (5 : Int32)), (.int (tx &&& (2147483647 : Int32)))])) (fun t k => XS.iconst X21.here hx rfl (hb hby at_107) k) ?_
      refine Wk.go (A' := T21.setTop (mkF m 109 #[iv pk, iv fx, iv tx, iv sx, rv bA, iv kd, iv pl, iv ia, .unset, .unset] [(.int ((tx &&& (2147483647 : Int32)) % (5 : Int32)))])) (fun t k => iremM X21 hx rfl (hb hby at_108) rfl (by decide) k) ?_
      refine Wk.go (A' := T21.setTop (mkF m 111 #[iv pk, iv fx, iv tx, iv sx, rv bA, iv kd, iv pl, iv ia, iv ((tx &&& (2147483647 : Int32)) % (5 : Int32)), .unset] [])) (fun t k => XS.istore X21.here hx rfl (hb hby at_109) rfl (l' := #[iv pk, iv fx, iv tx, iv sx, rv bA, iv kd, iv pl, iv ia, iv ((tx &&& (2147483647 : Int32)) % (5 : Int32)), .unset]) rfl k) ?_
      generalize hib : ((tx &&& (2147483647 : Int32)) % (5 : Int32)) = ib
      have ht0 : 0 ≤ ib.toInt ∧ ib.toInt ≤ 4 := by rw [← hib]; exact own_5 tx
      refine Wk.go (A' := T21.setTop (mkF m 113 #[iv pk, iv fx, iv tx, iv sx, rv bA, iv kd, iv pl, iv ia, iv ib, .unset] [(.ref bA)])) (fun t k => XS.aload X21.here hx rfl (hb hby at_111) rfl rfl k) ?_
      refine Wk.go (A' := T21.setTop (mkF m 114 #[iv pk, iv fx, iv tx, iv sx, rv bA, iv kd, iv pl, iv ia, iv ib, .unset] [(.int (0 : Int32)), (.ref bA)])) (fun t k => XS.iconst X21.here hx rfl (hb hby at_113) k) ?_
      refine Wk.go (A' := T21.setTop (mkF m 116 #[iv pk, iv fx, iv tx, iv sx, rv bA, iv kd, iv pl, iv ia, iv ib, .unset] [(.int ia), (.int (0 : Int32)), (.ref bA)])) (fun t k => XS.iload X21.here hx rfl (hb hby at_114) rfl k) ?_
      refine Wk.go (A' := T21.setTop (mkF m 118 #[iv pk, iv fx, iv tx, iv sx, rv bA, iv kd, iv pl, iv ia, iv ib, .unset] [(.int ib), (.int ia), (.int (0 : Int32)), (.ref bA)])) (fun t k => XS.iload X21.here hx rfl (hb hby at_116) rfl k) ?_
      obtain ⟨_, _, ⟨T23, L23, k23, n23⟩, -, X23, ⟨Lc23, hQ23, l23, y23, z23⟩, st23⟩ := Jvm.LawKit.callS X21 hx (y := (⟨"com/example/arcwalk/arcwalk/TermSpansIsPlainPinLaw", "ok", "([BIII)Z"⟩ : MethodName)) hown (mvT hZ (tw2 hw)) (mvT hZ (tw3 hw)) (mvT hZ (tw4 hw)) (mvT hZ (tw5 hw)) (by decide) (backOf (W := 0) (rm1 l Z a0 hw [] bA (0 : Int32) ia ib fB h21 n0 Zp21 f22 (by decide)) hZ (tw5 hw) (tw4 hw) (by decide) (by decide)) (g := (mkF m 118 #[iv pk, iv fx, iv tx, iv sx, rv bA, iv kd, iv pl, iv ia, iv ib, .unset] [(.int ib), (.int ia), (.int (0 : Int32)), (.ref bA)])) rfl (by rw [hml]; rfl) (argsL := [(.ref bA), (.int (0 : Int32)), (.int ia), (.int ib)]) (rest := []) (lenOf pd_0 rfl) rfl (by show 2 * 0 + _ ≤ _; exact Nat.le_of_eq rfl) (hb hby at_118) (fun _ _ => ⟨rfl, e21, (by decide : 1 + 0 ≤ _), (by decide : 4 + 0 ≤ _)⟩)
      dsimp only [Pt.U, Pt.locs, Pt.cells, Pt.slots] at X23 l23 y23 z23 st23 hQ23
      subst l23 y23 z23
      obtain ⟨rfl, N23q, hE23⟩ := hQ23
      have N23 := Fr.app N21 N23q
      refine Wk.go (A' := T23.setTop (mkF m 121 #[iv pk, iv fx, iv tx, iv sx, rv bA, iv kd, iv pl, iv ia, iv ib, .unset] [(.int (f_ok bA (0 : Int32) ia ib fB))])) (fun t k => st23 t k) ?_
      by_cases hc121 : (f_ok bA (0 : Int32) ia ib fB) = (0 : Int32)
      · refine Wk.go (A' := T23.setTop (mkF m 167 #[iv pk, iv fx, iv tx, iv sx, rv bA, iv kd, iv pl, iv ia, iv ib, .unset] [])) (fun t k => XS.ifYes X23.here hx rfl (pc0 := 121) (pc' := 167) rfl (hb hby at_121) rfl ((if0 _ _).trans (teq hc121).1) (by decide) (by decide) k) ?_
        refine Wk.go (A' := T23.setTop (mkF m 168 #[iv pk, iv fx, iv tx, iv sx, rv bA, iv kd, iv pl, iv ia, iv ib, .unset] [(.int (0 : Int32))])) (fun t k => XS.iconst X23.here hx rfl (hb hby at_167) k) ?_
        refine Wk.go (A' := T23.setTop (mkF m 170 #[iv pk, iv fx, iv tx, iv sx, rv bA, iv kd, iv pl, iv ia, iv ib, iv (0 : Int32)] [])) (fun t k => XS.istore X23.here hx rfl (hb hby at_168) rfl (l' := #[iv pk, iv fx, iv tx, iv sx, rv bA, iv kd, iv pl, iv ia, iv ib, iv (0 : Int32)]) rfl k) ?_
        refine Wk.go (A' := T23.setTop (mkF m 172 #[iv pk, iv fx, iv tx, iv sx, rv bA, iv kd, iv pl, iv ia, iv ib, iv (0 : Int32)] [(.ref bA)])) (fun t k => XS.aload X23.here hx rfl (hb hby at_170) rfl rfl k) ?_
        refine Wk.go (A' := T23.setTop (mkF m 174 #[iv pk, iv fx, iv tx, iv sx, rv bA, iv kd, iv pl, iv ia, iv ib, iv (0 : Int32)] [(.int ia), (.ref bA)])) (fun t k => XS.iload X23.here hx rfl (hb hby at_172) rfl k) ?_
        refine Wk.go (A' := T23.setTop (mkF m 176 #[iv pk, iv fx, iv tx, iv sx, rv bA, iv kd, iv pl, iv ia, iv ib, iv (0 : Int32)] [(.int ib), (.int ia), (.ref bA)])) (fun t k => XS.iload X23.here hx rfl (hb hby at_174) rfl k) ?_
        obtain ⟨_, _, ⟨T24, L24, k24, n24⟩, -, X24, ⟨Lc24, hQ24, l24, y24, z24⟩, st24⟩ := Jvm.LawKit.callS X23 hx (y := (⟨"com/example/arcwalk/arcwalk/TermSpans", "isPlain", "([BII)Z"⟩ : MethodName)) hown (mvT hZ (tw6 hw)) (mvT hZ (tw7 hw)) (mvT hZ (tw8 hw)) (mvT hZ (tw9 hw)) (by decide) (backOf (W := 0) (rm2 l Z a0 hw [] bA ia ib fB h21 n0 Zp21 f22 hf0.1 ht0.2) hZ (tw9 hw) (tw8 hw) (by decide) (by decide)) (g := (mkF m 176 #[iv pk, iv fx, iv tx, iv sx, rv bA, iv kd, iv pl, iv ia, iv ib, iv (0 : Int32)] [(.int ib), (.int ia), (.ref bA)])) rfl (by rw [hml]; rfl) (argsL := [(.ref bA), (.int ia), (.int ib)]) (rest := []) (lenOf pd_1 rfl) rfl (by show 2 * 0 + _ ≤ _; exact Nat.le_of_eq rfl) (hb hby at_176) (fun _ _ => ⟨rfl, (hE23), (by decide : 1 + 0 ≤ _), (by decide : 4 + 0 ≤ _)⟩)
        dsimp only [Pt.U, Pt.locs, Pt.cells, Pt.slots] at X24 l24 y24 z24 st24 hQ24
        subst l24 y24 z24
        obtain ⟨r, rfl, N24q, hE24, R1⟩ := hQ24
        have N24 := Fr.app N23 N24q
        refine Wk.go (A' := T24.setTop (mkF m 179 #[iv pk, iv fx, iv tx, iv sx, rv bA, iv kd, iv pl, iv ia, iv ib, iv (0 : Int32)] [(.int r)])) (fun t k => st24 t k) ?_
        refine Wk.go (A' := T24.setTop (mkF m 181 #[iv pk, iv fx, iv tx, iv sx, rv bA, iv kd, iv pl, iv ia, iv ib, iv (0 : Int32)] [(.int (0 : Int32)), (.int r)])) (fun t k => XS.iload X24.here hx rfl (hb hby at_179) rfl k) ?_
        have hc181 : r = (0 : Int32) := own_bad _ (show 0 < 4 by decide) R1 hc121
        refine Wk.go (A' := T24.setTop (mkF m 184 #[iv pk, iv fx, iv tx, iv sx, rv bA, iv kd, iv pl, iv ia, iv ib, iv (0 : Int32)] [])) (fun t k => XS.icmpNo X24.here hx rfl (hb hby at_181) rfl (teq hc181).2 k) ?_
        refine Wk.go (A' := T24.setTop (mkF m 185 #[iv pk, iv fx, iv tx, iv sx, rv bA, iv kd, iv pl, iv ia, iv ib, iv (0 : Int32)] [(.int (1 : Int32))])) (fun t k => XS.iconst X24.here hx rfl (hb hby at_184) k) ?_
        refine Wk.go (A' := T24.setTop (mkF m 189 #[iv pk, iv fx, iv tx, iv sx, rv bA, iv kd, iv pl, iv ia, iv ib, iv (0 : Int32)] [(.int (1 : Int32))])) (fun t k => XS.goto X24.here hx rfl (pc0 := 185) (pc' := 189) rfl (hb hby at_185) (by decide) (by decide) k) ?_
        refine own_fin (Qv := Q0 Z pk fx tx sx h0 n0) (v := some (.int (1 : Int32))) X24 hlk (fun h => by rw [Bd.returns] at h; cases h) (fun fs hr => retN X24 hx (t := .boolean) Bd.returns (by simp) (hb hby at_189) hr) ?_ (by decide) (by decide)
        exact ⟨rfl, N24⟩
      · refine Wk.go (A' := T23.setTop (mkF m 124 #[iv pk, iv fx, iv tx, iv sx, rv bA, iv kd, iv pl, iv ia, iv ib, .unset] [])) (fun t k => XS.ifNo X23.here hx rfl (hb hby at_121) rfl ((if0 _ _).trans (feq hc121).1) k) ?_
        refine Wk.go (A' := T23.setTop (mkF m 126 #[iv pk, iv fx, iv tx, iv sx, rv bA, iv kd, iv pl, iv ia, iv ib, .unset] [(.ref bA)])) (fun t k => XS.aload X23.here hx rfl (hb hby at_124) rfl rfl k) ?_
        refine Wk.go (A' := T23.setTop (mkF m 127 #[iv pk, iv fx, iv tx, iv sx, rv bA, iv kd, iv pl, iv ia, iv ib, .unset] [(.int (1 : Int32)), (.ref bA)])) (fun t k => XS.iconst X23.here hx rfl (hb hby at_126) k) ?_
        refine Wk.go (A' := T23.setTop (mkF m 129 #[iv pk, iv fx, iv tx, iv sx, rv bA, iv kd, iv pl, iv ia, iv ib, .unset] [(.int ia), (.int (1 : Int32)), (.ref bA)])) (fun t k => XS.iload X23.here hx rfl (hb hby at_127) rfl k) ?_
        refine Wk.go (A' := T23.setTop (mkF m 131 #[iv pk, iv fx, iv tx, iv sx, rv bA, iv kd, iv pl, iv ia, iv ib, .unset] [(.int ib), (.int ia), (.int (1 : Int32)), (.ref bA)])) (fun t k => XS.iload X23.here hx rfl (hb hby at_129) rfl k) ?_
        obtain ⟨_, _, ⟨T25, L25, k25, n25⟩, -, X25, ⟨Lc25, hQ25, l25, y25, z25⟩, st25⟩ := Jvm.LawKit.callS X23 hx (y := (⟨"com/example/arcwalk/arcwalk/TermSpansIsPlainPinLaw", "ok", "([BIII)Z"⟩ : MethodName)) hown (mvT hZ (tw2 hw)) (mvT hZ (tw3 hw)) (mvT hZ (tw4 hw)) (mvT hZ (tw5 hw)) (by decide) (backOf (W := 0) (rm1 l Z a0 hw [] bA (1 : Int32) ia ib fB h21 n0 Zp21 f22 (by decide)) hZ (tw5 hw) (tw4 hw) (by decide) (by decide)) (g := (mkF m 131 #[iv pk, iv fx, iv tx, iv sx, rv bA, iv kd, iv pl, iv ia, iv ib, .unset] [(.int ib), (.int ia), (.int (1 : Int32)), (.ref bA)])) rfl (by rw [hml]; rfl) (argsL := [(.ref bA), (.int (1 : Int32)), (.int ia), (.int ib)]) (rest := []) (lenOf pd_0 rfl) rfl (by show 2 * 0 + _ ≤ _; exact Nat.le_of_eq rfl) (hb hby at_131) (fun _ _ => ⟨rfl, (hE23), (by decide : 1 + 0 ≤ _), (by decide : 4 + 0 ≤ _)⟩)
        dsimp only [Pt.U, Pt.locs, Pt.cells, Pt.slots] at X25 l25 y25 z25 st25 hQ25
        subst l25 y25 z25
        obtain ⟨rfl, N25q, hE25⟩ := hQ25
        have N25 := Fr.app N23 N25q
        refine Wk.go (A' := T25.setTop (mkF m 134 #[iv pk, iv fx, iv tx, iv sx, rv bA, iv kd, iv pl, iv ia, iv ib, .unset] [(.int (f_ok bA (1 : Int32) ia ib fB))])) (fun t k => st25 t k) ?_
        by_cases hc134 : (f_ok bA (1 : Int32) ia ib fB) = (0 : Int32)
        · refine Wk.go (A' := T25.setTop (mkF m 167 #[iv pk, iv fx, iv tx, iv sx, rv bA, iv kd, iv pl, iv ia, iv ib, .unset] [])) (fun t k => XS.ifYes X25.here hx rfl (pc0 := 134) (pc' := 167) rfl (hb hby at_134) rfl ((if0 _ _).trans (teq hc134).1) (by decide) (by decide) k) ?_
          refine Wk.go (A' := T25.setTop (mkF m 168 #[iv pk, iv fx, iv tx, iv sx, rv bA, iv kd, iv pl, iv ia, iv ib, .unset] [(.int (0 : Int32))])) (fun t k => XS.iconst X25.here hx rfl (hb hby at_167) k) ?_
          refine Wk.go (A' := T25.setTop (mkF m 170 #[iv pk, iv fx, iv tx, iv sx, rv bA, iv kd, iv pl, iv ia, iv ib, iv (0 : Int32)] [])) (fun t k => XS.istore X25.here hx rfl (hb hby at_168) rfl (l' := #[iv pk, iv fx, iv tx, iv sx, rv bA, iv kd, iv pl, iv ia, iv ib, iv (0 : Int32)]) rfl k) ?_
          refine Wk.go (A' := T25.setTop (mkF m 172 #[iv pk, iv fx, iv tx, iv sx, rv bA, iv kd, iv pl, iv ia, iv ib, iv (0 : Int32)] [(.ref bA)])) (fun t k => XS.aload X25.here hx rfl (hb hby at_170) rfl rfl k) ?_
          refine Wk.go (A' := T25.setTop (mkF m 174 #[iv pk, iv fx, iv tx, iv sx, rv bA, iv kd, iv pl, iv ia, iv ib, iv (0 : Int32)] [(.int ia), (.ref bA)])) (fun t k => XS.iload X25.here hx rfl (hb hby at_172) rfl k) ?_
          refine Wk.go (A' := T25.setTop (mkF m 176 #[iv pk, iv fx, iv tx, iv sx, rv bA, iv kd, iv pl, iv ia, iv ib, iv (0 : Int32)] [(.int ib), (.int ia), (.ref bA)])) (fun t k => XS.iload X25.here hx rfl (hb hby at_174) rfl k) ?_
          obtain ⟨_, _, ⟨T26, L26, k26, n26⟩, -, X26, ⟨Lc26, hQ26, l26, y26, z26⟩, st26⟩ := Jvm.LawKit.callS X25 hx (y := (⟨"com/example/arcwalk/arcwalk/TermSpans", "isPlain", "([BII)Z"⟩ : MethodName)) hown (mvT hZ (tw6 hw)) (mvT hZ (tw7 hw)) (mvT hZ (tw8 hw)) (mvT hZ (tw9 hw)) (by decide) (backOf (W := 0) (rm2 l Z a0 hw [] bA ia ib fB h21 n0 Zp21 f22 hf0.1 ht0.2) hZ (tw9 hw) (tw8 hw) (by decide) (by decide)) (g := (mkF m 176 #[iv pk, iv fx, iv tx, iv sx, rv bA, iv kd, iv pl, iv ia, iv ib, iv (0 : Int32)] [(.int ib), (.int ia), (.ref bA)])) rfl (by rw [hml]; rfl) (argsL := [(.ref bA), (.int ia), (.int ib)]) (rest := []) (lenOf pd_1 rfl) rfl (by show 2 * 0 + _ ≤ _; exact Nat.le_of_eq rfl) (hb hby at_176) (fun _ _ => ⟨rfl, (hE25), (by decide : 1 + 0 ≤ _), (by decide : 4 + 0 ≤ _)⟩)
          dsimp only [Pt.U, Pt.locs, Pt.cells, Pt.slots] at X26 l26 y26 z26 st26 hQ26
          subst l26 y26 z26
          obtain ⟨r, rfl, N26q, hE26, R1⟩ := hQ26
          have N26 := Fr.app N25 N26q
          refine Wk.go (A' := T26.setTop (mkF m 179 #[iv pk, iv fx, iv tx, iv sx, rv bA, iv kd, iv pl, iv ia, iv ib, iv (0 : Int32)] [(.int r)])) (fun t k => st26 t k) ?_
          refine Wk.go (A' := T26.setTop (mkF m 181 #[iv pk, iv fx, iv tx, iv sx, rv bA, iv kd, iv pl, iv ia, iv ib, iv (0 : Int32)] [(.int (0 : Int32)), (.int r)])) (fun t k => XS.iload X26.here hx rfl (hb hby at_179) rfl k) ?_
          have hc181 : r = (0 : Int32) := own_bad _ (show 1 < 4 by decide) R1 hc134
          refine Wk.go (A' := T26.setTop (mkF m 184 #[iv pk, iv fx, iv tx, iv sx, rv bA, iv kd, iv pl, iv ia, iv ib, iv (0 : Int32)] [])) (fun t k => XS.icmpNo X26.here hx rfl (hb hby at_181) rfl (teq hc181).2 k) ?_
          refine Wk.go (A' := T26.setTop (mkF m 185 #[iv pk, iv fx, iv tx, iv sx, rv bA, iv kd, iv pl, iv ia, iv ib, iv (0 : Int32)] [(.int (1 : Int32))])) (fun t k => XS.iconst X26.here hx rfl (hb hby at_184) k) ?_
          refine Wk.go (A' := T26.setTop (mkF m 189 #[iv pk, iv fx, iv tx, iv sx, rv bA, iv kd, iv pl, iv ia, iv ib, iv (0 : Int32)] [(.int (1 : Int32))])) (fun t k => XS.goto X26.here hx rfl (pc0 := 185) (pc' := 189) rfl (hb hby at_185) (by decide) (by decide) k) ?_
          refine own_fin (Qv := Q0 Z pk fx tx sx h0 n0) (v := some (.int (1 : Int32))) X26 hlk (fun h => by rw [Bd.returns] at h; cases h) (fun fs hr => retN X26 hx (t := .boolean) Bd.returns (by simp) (hb hby at_189) hr) ?_ (by decide) (by decide)
          exact ⟨rfl, N26⟩
        · refine Wk.go (A' := T25.setTop (mkF m 137 #[iv pk, iv fx, iv tx, iv sx, rv bA, iv kd, iv pl, iv ia, iv ib, .unset] [])) (fun t k => XS.ifNo X25.here hx rfl (hb hby at_134) rfl ((if0 _ _).trans (feq hc134).1) k) ?_
          refine Wk.go (A' := T25.setTop (mkF m 139 #[iv pk, iv fx, iv tx, iv sx, rv bA, iv kd, iv pl, iv ia, iv ib, .unset] [(.ref bA)])) (fun t k => XS.aload X25.here hx rfl (hb hby at_137) rfl rfl k) ?_
          refine Wk.go (A' := T25.setTop (mkF m 140 #[iv pk, iv fx, iv tx, iv sx, rv bA, iv kd, iv pl, iv ia, iv ib, .unset] [(.int (2 : Int32)), (.ref bA)])) (fun t k => XS.iconst X25.here hx rfl (hb hby at_139) k) ?_
          refine Wk.go (A' := T25.setTop (mkF m 142 #[iv pk, iv fx, iv tx, iv sx, rv bA, iv kd, iv pl, iv ia, iv ib, .unset] [(.int ia), (.int (2 : Int32)), (.ref bA)])) (fun t k => XS.iload X25.here hx rfl (hb hby at_140) rfl k) ?_
          refine Wk.go (A' := T25.setTop (mkF m 144 #[iv pk, iv fx, iv tx, iv sx, rv bA, iv kd, iv pl, iv ia, iv ib, .unset] [(.int ib), (.int ia), (.int (2 : Int32)), (.ref bA)])) (fun t k => XS.iload X25.here hx rfl (hb hby at_142) rfl k) ?_
          obtain ⟨_, _, ⟨T27, L27, k27, n27⟩, -, X27, ⟨Lc27, hQ27, l27, y27, z27⟩, st27⟩ := Jvm.LawKit.callS X25 hx (y := (⟨"com/example/arcwalk/arcwalk/TermSpansIsPlainPinLaw", "ok", "([BIII)Z"⟩ : MethodName)) hown (mvT hZ (tw2 hw)) (mvT hZ (tw3 hw)) (mvT hZ (tw4 hw)) (mvT hZ (tw5 hw)) (by decide) (backOf (W := 0) (rm1 l Z a0 hw [] bA (2 : Int32) ia ib fB h21 n0 Zp21 f22 (by decide)) hZ (tw5 hw) (tw4 hw) (by decide) (by decide)) (g := (mkF m 144 #[iv pk, iv fx, iv tx, iv sx, rv bA, iv kd, iv pl, iv ia, iv ib, .unset] [(.int ib), (.int ia), (.int (2 : Int32)), (.ref bA)])) rfl (by rw [hml]; rfl) (argsL := [(.ref bA), (.int (2 : Int32)), (.int ia), (.int ib)]) (rest := []) (lenOf pd_0 rfl) rfl (by show 2 * 0 + _ ≤ _; exact Nat.le_of_eq rfl) (hb hby at_144) (fun _ _ => ⟨rfl, (hE25), (by decide : 1 + 0 ≤ _), (by decide : 4 + 0 ≤ _)⟩)
          dsimp only [Pt.U, Pt.locs, Pt.cells, Pt.slots] at X27 l27 y27 z27 st27 hQ27
          subst l27 y27 z27
          obtain ⟨rfl, N27q, hE27⟩ := hQ27
          have N27 := Fr.app N25 N27q
          refine Wk.go (A' := T27.setTop (mkF m 147 #[iv pk, iv fx, iv tx, iv sx, rv bA, iv kd, iv pl, iv ia, iv ib, .unset] [(.int (f_ok bA (2 : Int32) ia ib fB))])) (fun t k => st27 t k) ?_
          by_cases hc147 : (f_ok bA (2 : Int32) ia ib fB) = (0 : Int32)
          · refine Wk.go (A' := T27.setTop (mkF m 167 #[iv pk, iv fx, iv tx, iv sx, rv bA, iv kd, iv pl, iv ia, iv ib, .unset] [])) (fun t k => XS.ifYes X27.here hx rfl (pc0 := 147) (pc' := 167) rfl (hb hby at_147) rfl ((if0 _ _).trans (teq hc147).1) (by decide) (by decide) k) ?_
            refine Wk.go (A' := T27.setTop (mkF m 168 #[iv pk, iv fx, iv tx, iv sx, rv bA, iv kd, iv pl, iv ia, iv ib, .unset] [(.int (0 : Int32))])) (fun t k => XS.iconst X27.here hx rfl (hb hby at_167) k) ?_
            refine Wk.go (A' := T27.setTop (mkF m 170 #[iv pk, iv fx, iv tx, iv sx, rv bA, iv kd, iv pl, iv ia, iv ib, iv (0 : Int32)] [])) (fun t k => XS.istore X27.here hx rfl (hb hby at_168) rfl (l' := #[iv pk, iv fx, iv tx, iv sx, rv bA, iv kd, iv pl, iv ia, iv ib, iv (0 : Int32)]) rfl k) ?_
            refine Wk.go (A' := T27.setTop (mkF m 172 #[iv pk, iv fx, iv tx, iv sx, rv bA, iv kd, iv pl, iv ia, iv ib, iv (0 : Int32)] [(.ref bA)])) (fun t k => XS.aload X27.here hx rfl (hb hby at_170) rfl rfl k) ?_
            refine Wk.go (A' := T27.setTop (mkF m 174 #[iv pk, iv fx, iv tx, iv sx, rv bA, iv kd, iv pl, iv ia, iv ib, iv (0 : Int32)] [(.int ia), (.ref bA)])) (fun t k => XS.iload X27.here hx rfl (hb hby at_172) rfl k) ?_
            refine Wk.go (A' := T27.setTop (mkF m 176 #[iv pk, iv fx, iv tx, iv sx, rv bA, iv kd, iv pl, iv ia, iv ib, iv (0 : Int32)] [(.int ib), (.int ia), (.ref bA)])) (fun t k => XS.iload X27.here hx rfl (hb hby at_174) rfl k) ?_
            obtain ⟨_, _, ⟨T28, L28, k28, n28⟩, -, X28, ⟨Lc28, hQ28, l28, y28, z28⟩, st28⟩ := Jvm.LawKit.callS X27 hx (y := (⟨"com/example/arcwalk/arcwalk/TermSpans", "isPlain", "([BII)Z"⟩ : MethodName)) hown (mvT hZ (tw6 hw)) (mvT hZ (tw7 hw)) (mvT hZ (tw8 hw)) (mvT hZ (tw9 hw)) (by decide) (backOf (W := 0) (rm2 l Z a0 hw [] bA ia ib fB h21 n0 Zp21 f22 hf0.1 ht0.2) hZ (tw9 hw) (tw8 hw) (by decide) (by decide)) (g := (mkF m 176 #[iv pk, iv fx, iv tx, iv sx, rv bA, iv kd, iv pl, iv ia, iv ib, iv (0 : Int32)] [(.int ib), (.int ia), (.ref bA)])) rfl (by rw [hml]; rfl) (argsL := [(.ref bA), (.int ia), (.int ib)]) (rest := []) (lenOf pd_1 rfl) rfl (by show 2 * 0 + _ ≤ _; exact Nat.le_of_eq rfl) (hb hby at_176) (fun _ _ => ⟨rfl, (hE27), (by decide : 1 + 0 ≤ _), (by decide : 4 + 0 ≤ _)⟩)
            dsimp only [Pt.U, Pt.locs, Pt.cells, Pt.slots] at X28 l28 y28 z28 st28 hQ28
            subst l28 y28 z28
            obtain ⟨r, rfl, N28q, hE28, R1⟩ := hQ28
            have N28 := Fr.app N27 N28q
            refine Wk.go (A' := T28.setTop (mkF m 179 #[iv pk, iv fx, iv tx, iv sx, rv bA, iv kd, iv pl, iv ia, iv ib, iv (0 : Int32)] [(.int r)])) (fun t k => st28 t k) ?_
            refine Wk.go (A' := T28.setTop (mkF m 181 #[iv pk, iv fx, iv tx, iv sx, rv bA, iv kd, iv pl, iv ia, iv ib, iv (0 : Int32)] [(.int (0 : Int32)), (.int r)])) (fun t k => XS.iload X28.here hx rfl (hb hby at_179) rfl k) ?_
            have hc181 : r = (0 : Int32) := own_bad _ (show 2 < 4 by decide) R1 hc147
            refine Wk.go (A' := T28.setTop (mkF m 184 #[iv pk, iv fx, iv tx, iv sx, rv bA, iv kd, iv pl, iv ia, iv ib, iv (0 : Int32)] [])) (fun t k => XS.icmpNo X28.here hx rfl (hb hby at_181) rfl (teq hc181).2 k) ?_
            refine Wk.go (A' := T28.setTop (mkF m 185 #[iv pk, iv fx, iv tx, iv sx, rv bA, iv kd, iv pl, iv ia, iv ib, iv (0 : Int32)] [(.int (1 : Int32))])) (fun t k => XS.iconst X28.here hx rfl (hb hby at_184) k) ?_
            refine Wk.go (A' := T28.setTop (mkF m 189 #[iv pk, iv fx, iv tx, iv sx, rv bA, iv kd, iv pl, iv ia, iv ib, iv (0 : Int32)] [(.int (1 : Int32))])) (fun t k => XS.goto X28.here hx rfl (pc0 := 185) (pc' := 189) rfl (hb hby at_185) (by decide) (by decide) k) ?_
            refine own_fin (Qv := Q0 Z pk fx tx sx h0 n0) (v := some (.int (1 : Int32))) X28 hlk (fun h => by rw [Bd.returns] at h; cases h) (fun fs hr => retN X28 hx (t := .boolean) Bd.returns (by simp) (hb hby at_189) hr) ?_ (by decide) (by decide)
            exact ⟨rfl, N28⟩
          · refine Wk.go (A' := T27.setTop (mkF m 150 #[iv pk, iv fx, iv tx, iv sx, rv bA, iv kd, iv pl, iv ia, iv ib, .unset] [])) (fun t k => XS.ifNo X27.here hx rfl (hb hby at_147) rfl ((if0 _ _).trans (feq hc147).1) k) ?_
            refine Wk.go (A' := T27.setTop (mkF m 152 #[iv pk, iv fx, iv tx, iv sx, rv bA, iv kd, iv pl, iv ia, iv ib, .unset] [(.ref bA)])) (fun t k => XS.aload X27.here hx rfl (hb hby at_150) rfl rfl k) ?_
            refine Wk.go (A' := T27.setTop (mkF m 153 #[iv pk, iv fx, iv tx, iv sx, rv bA, iv kd, iv pl, iv ia, iv ib, .unset] [(.int (3 : Int32)), (.ref bA)])) (fun t k => XS.iconst X27.here hx rfl (hb hby at_152) k) ?_
            refine Wk.go (A' := T27.setTop (mkF m 155 #[iv pk, iv fx, iv tx, iv sx, rv bA, iv kd, iv pl, iv ia, iv ib, .unset] [(.int ia), (.int (3 : Int32)), (.ref bA)])) (fun t k => XS.iload X27.here hx rfl (hb hby at_153) rfl k) ?_
            refine Wk.go (A' := T27.setTop (mkF m 157 #[iv pk, iv fx, iv tx, iv sx, rv bA, iv kd, iv pl, iv ia, iv ib, .unset] [(.int ib), (.int ia), (.int (3 : Int32)), (.ref bA)])) (fun t k => XS.iload X27.here hx rfl (hb hby at_155) rfl k) ?_
            obtain ⟨_, _, ⟨T29, L29, k29, n29⟩, -, X29, ⟨Lc29, hQ29, l29, y29, z29⟩, st29⟩ := Jvm.LawKit.callS X27 hx (y := (⟨"com/example/arcwalk/arcwalk/TermSpansIsPlainPinLaw", "ok", "([BIII)Z"⟩ : MethodName)) hown (mvT hZ (tw2 hw)) (mvT hZ (tw3 hw)) (mvT hZ (tw4 hw)) (mvT hZ (tw5 hw)) (by decide) (backOf (W := 0) (rm1 l Z a0 hw [] bA (3 : Int32) ia ib fB h21 n0 Zp21 f22 (by decide)) hZ (tw5 hw) (tw4 hw) (by decide) (by decide)) (g := (mkF m 157 #[iv pk, iv fx, iv tx, iv sx, rv bA, iv kd, iv pl, iv ia, iv ib, .unset] [(.int ib), (.int ia), (.int (3 : Int32)), (.ref bA)])) rfl (by rw [hml]; rfl) (argsL := [(.ref bA), (.int (3 : Int32)), (.int ia), (.int ib)]) (rest := []) (lenOf pd_0 rfl) rfl (by show 2 * 0 + _ ≤ _; exact Nat.le_of_eq rfl) (hb hby at_157) (fun _ _ => ⟨rfl, (hE27), (by decide : 1 + 0 ≤ _), (by decide : 4 + 0 ≤ _)⟩)
            dsimp only [Pt.U, Pt.locs, Pt.cells, Pt.slots] at X29 l29 y29 z29 st29 hQ29
            subst l29 y29 z29
            obtain ⟨rfl, N29q, hE29⟩ := hQ29
            have N29 := Fr.app N27 N29q
            refine Wk.go (A' := T29.setTop (mkF m 160 #[iv pk, iv fx, iv tx, iv sx, rv bA, iv kd, iv pl, iv ia, iv ib, .unset] [(.int (f_ok bA (3 : Int32) ia ib fB))])) (fun t k => st29 t k) ?_
            by_cases hc160 : (f_ok bA (3 : Int32) ia ib fB) = (0 : Int32)
            · refine Wk.go (A' := T29.setTop (mkF m 167 #[iv pk, iv fx, iv tx, iv sx, rv bA, iv kd, iv pl, iv ia, iv ib, .unset] [])) (fun t k => XS.ifYes X29.here hx rfl (pc0 := 160) (pc' := 167) rfl (hb hby at_160) rfl ((if0 _ _).trans (teq hc160).1) (by decide) (by decide) k) ?_
              refine Wk.go (A' := T29.setTop (mkF m 168 #[iv pk, iv fx, iv tx, iv sx, rv bA, iv kd, iv pl, iv ia, iv ib, .unset] [(.int (0 : Int32))])) (fun t k => XS.iconst X29.here hx rfl (hb hby at_167) k) ?_
              refine Wk.go (A' := T29.setTop (mkF m 170 #[iv pk, iv fx, iv tx, iv sx, rv bA, iv kd, iv pl, iv ia, iv ib, iv (0 : Int32)] [])) (fun t k => XS.istore X29.here hx rfl (hb hby at_168) rfl (l' := #[iv pk, iv fx, iv tx, iv sx, rv bA, iv kd, iv pl, iv ia, iv ib, iv (0 : Int32)]) rfl k) ?_
              refine Wk.go (A' := T29.setTop (mkF m 172 #[iv pk, iv fx, iv tx, iv sx, rv bA, iv kd, iv pl, iv ia, iv ib, iv (0 : Int32)] [(.ref bA)])) (fun t k => XS.aload X29.here hx rfl (hb hby at_170) rfl rfl k) ?_
              refine Wk.go (A' := T29.setTop (mkF m 174 #[iv pk, iv fx, iv tx, iv sx, rv bA, iv kd, iv pl, iv ia, iv ib, iv (0 : Int32)] [(.int ia), (.ref bA)])) (fun t k => XS.iload X29.here hx rfl (hb hby at_172) rfl k) ?_
              refine Wk.go (A' := T29.setTop (mkF m 176 #[iv pk, iv fx, iv tx, iv sx, rv bA, iv kd, iv pl, iv ia, iv ib, iv (0 : Int32)] [(.int ib), (.int ia), (.ref bA)])) (fun t k => XS.iload X29.here hx rfl (hb hby at_174) rfl k) ?_
              obtain ⟨_, _, ⟨T30, L30, k30, n30⟩, -, X30, ⟨Lc30, hQ30, l30, y30, z30⟩, st30⟩ := Jvm.LawKit.callS X29 hx (y := (⟨"com/example/arcwalk/arcwalk/TermSpans", "isPlain", "([BII)Z"⟩ : MethodName)) hown (mvT hZ (tw6 hw)) (mvT hZ (tw7 hw)) (mvT hZ (tw8 hw)) (mvT hZ (tw9 hw)) (by decide) (backOf (W := 0) (rm2 l Z a0 hw [] bA ia ib fB h21 n0 Zp21 f22 hf0.1 ht0.2) hZ (tw9 hw) (tw8 hw) (by decide) (by decide)) (g := (mkF m 176 #[iv pk, iv fx, iv tx, iv sx, rv bA, iv kd, iv pl, iv ia, iv ib, iv (0 : Int32)] [(.int ib), (.int ia), (.ref bA)])) rfl (by rw [hml]; rfl) (argsL := [(.ref bA), (.int ia), (.int ib)]) (rest := []) (lenOf pd_1 rfl) rfl (by show 2 * 0 + _ ≤ _; exact Nat.le_of_eq rfl) (hb hby at_176) (fun _ _ => ⟨rfl, (hE29), (by decide : 1 + 0 ≤ _), (by decide : 4 + 0 ≤ _)⟩)
              dsimp only [Pt.U, Pt.locs, Pt.cells, Pt.slots] at X30 l30 y30 z30 st30 hQ30
              subst l30 y30 z30
              obtain ⟨r, rfl, N30q, hE30, R1⟩ := hQ30
              have N30 := Fr.app N29 N30q
              refine Wk.go (A' := T30.setTop (mkF m 179 #[iv pk, iv fx, iv tx, iv sx, rv bA, iv kd, iv pl, iv ia, iv ib, iv (0 : Int32)] [(.int r)])) (fun t k => st30 t k) ?_
              refine Wk.go (A' := T30.setTop (mkF m 181 #[iv pk, iv fx, iv tx, iv sx, rv bA, iv kd, iv pl, iv ia, iv ib, iv (0 : Int32)] [(.int (0 : Int32)), (.int r)])) (fun t k => XS.iload X30.here hx rfl (hb hby at_179) rfl k) ?_
              have hc181 : r = (0 : Int32) := own_bad _ (show 3 < 4 by decide) R1 hc160
              refine Wk.go (A' := T30.setTop (mkF m 184 #[iv pk, iv fx, iv tx, iv sx, rv bA, iv kd, iv pl, iv ia, iv ib, iv (0 : Int32)] [])) (fun t k => XS.icmpNo X30.here hx rfl (hb hby at_181) rfl (teq hc181).2 k) ?_
              refine Wk.go (A' := T30.setTop (mkF m 185 #[iv pk, iv fx, iv tx, iv sx, rv bA, iv kd, iv pl, iv ia, iv ib, iv (0 : Int32)] [(.int (1 : Int32))])) (fun t k => XS.iconst X30.here hx rfl (hb hby at_184) k) ?_
              refine Wk.go (A' := T30.setTop (mkF m 189 #[iv pk, iv fx, iv tx, iv sx, rv bA, iv kd, iv pl, iv ia, iv ib, iv (0 : Int32)] [(.int (1 : Int32))])) (fun t k => XS.goto X30.here hx rfl (pc0 := 185) (pc' := 189) rfl (hb hby at_185) (by decide) (by decide) k) ?_
              refine own_fin (Qv := Q0 Z pk fx tx sx h0 n0) (v := some (.int (1 : Int32))) X30 hlk (fun h => by rw [Bd.returns] at h; cases h) (fun fs hr => retN X30 hx (t := .boolean) Bd.returns (by simp) (hb hby at_189) hr) ?_ (by decide) (by decide)
              exact ⟨rfl, N30⟩
            · refine Wk.go (A' := T29.setTop (mkF m 163 #[iv pk, iv fx, iv tx, iv sx, rv bA, iv kd, iv pl, iv ia, iv ib, .unset] [])) (fun t k => XS.ifNo X29.here hx rfl (hb hby at_160) rfl ((if0 _ _).trans (feq hc160).1) k) ?_
              refine Wk.go (A' := T29.setTop (mkF m 164 #[iv pk, iv fx, iv tx, iv sx, rv bA, iv kd, iv pl, iv ia, iv ib, .unset] [(.int (1 : Int32))])) (fun t k => XS.iconst X29.here hx rfl (hb hby at_163) k) ?_
              refine Wk.go (A' := T29.setTop (mkF m 168 #[iv pk, iv fx, iv tx, iv sx, rv bA, iv kd, iv pl, iv ia, iv ib, .unset] [(.int (1 : Int32))])) (fun t k => XS.goto X29.here hx rfl (pc0 := 164) (pc' := 168) rfl (hb hby at_164) (by decide) (by decide) k) ?_
              refine Wk.go (A' := T29.setTop (mkF m 170 #[iv pk, iv fx, iv tx, iv sx, rv bA, iv kd, iv pl, iv ia, iv ib, iv (1 : Int32)] [])) (fun t k => XS.istore X29.here hx rfl (hb hby at_168) rfl (l' := #[iv pk, iv fx, iv tx, iv sx, rv bA, iv kd, iv pl, iv ia, iv ib, iv (1 : Int32)]) rfl k) ?_
              refine Wk.go (A' := T29.setTop (mkF m 172 #[iv pk, iv fx, iv tx, iv sx, rv bA, iv kd, iv pl, iv ia, iv ib, iv (1 : Int32)] [(.ref bA)])) (fun t k => XS.aload X29.here hx rfl (hb hby at_170) rfl rfl k) ?_
              refine Wk.go (A' := T29.setTop (mkF m 174 #[iv pk, iv fx, iv tx, iv sx, rv bA, iv kd, iv pl, iv ia, iv ib, iv (1 : Int32)] [(.int ia), (.ref bA)])) (fun t k => XS.iload X29.here hx rfl (hb hby at_172) rfl k) ?_
              refine Wk.go (A' := T29.setTop (mkF m 176 #[iv pk, iv fx, iv tx, iv sx, rv bA, iv kd, iv pl, iv ia, iv ib, iv (1 : Int32)] [(.int ib), (.int ia), (.ref bA)])) (fun t k => XS.iload X29.here hx rfl (hb hby at_174) rfl k) ?_
              obtain ⟨_, _, ⟨T31, L31, k31, n31⟩, -, X31, ⟨Lc31, hQ31, l31, y31, z31⟩, st31⟩ := Jvm.LawKit.callS X29 hx (y := (⟨"com/example/arcwalk/arcwalk/TermSpans", "isPlain", "([BII)Z"⟩ : MethodName)) hown (mvT hZ (tw6 hw)) (mvT hZ (tw7 hw)) (mvT hZ (tw8 hw)) (mvT hZ (tw9 hw)) (by decide) (backOf (W := 0) (rm2 l Z a0 hw [] bA ia ib fB h21 n0 Zp21 f22 hf0.1 ht0.2) hZ (tw9 hw) (tw8 hw) (by decide) (by decide)) (g := (mkF m 176 #[iv pk, iv fx, iv tx, iv sx, rv bA, iv kd, iv pl, iv ia, iv ib, iv (1 : Int32)] [(.int ib), (.int ia), (.ref bA)])) rfl (by rw [hml]; rfl) (argsL := [(.ref bA), (.int ia), (.int ib)]) (rest := []) (lenOf pd_1 rfl) rfl (by show 2 * 0 + _ ≤ _; exact Nat.le_of_eq rfl) (hb hby at_176) (fun _ _ => ⟨rfl, (hE29), (by decide : 1 + 0 ≤ _), (by decide : 4 + 0 ≤ _)⟩)
              dsimp only [Pt.U, Pt.locs, Pt.cells, Pt.slots] at X31 l31 y31 z31 st31 hQ31
              subst l31 y31 z31
              obtain ⟨r, rfl, N31q, hE31, R1⟩ := hQ31
              have N31 := Fr.app N29 N31q
              refine Wk.go (A' := T31.setTop (mkF m 179 #[iv pk, iv fx, iv tx, iv sx, rv bA, iv kd, iv pl, iv ia, iv ib, iv (1 : Int32)] [(.int r)])) (fun t k => st31 t k) ?_
              refine Wk.go (A' := T31.setTop (mkF m 181 #[iv pk, iv fx, iv tx, iv sx, rv bA, iv kd, iv pl, iv ia, iv ib, iv (1 : Int32)] [(.int (1 : Int32)), (.int r)])) (fun t k => XS.iload X31.here hx rfl (hb hby at_179) rfl k) ?_
              have hc181 : r = (1 : Int32) := own_fine _ hf0.1 ht0.2 R1 (own_four hc121 hc134 hc147 hc160)
              refine Wk.go (A' := T31.setTop (mkF m 184 #[iv pk, iv fx, iv tx, iv sx, rv bA, iv kd, iv pl, iv ia, iv ib, iv (1 : Int32)] [])) (fun t k => XS.icmpNo X31.here hx rfl (hb hby at_181) rfl (teq hc181).2 k) ?_
              refine Wk.go (A' := T31.setTop (mkF m 185 #[iv pk, iv fx, iv tx, iv sx, rv bA, iv kd, iv pl, iv ia, iv ib, iv (1 : Int32)] [(.int (1 : Int32))])) (fun t k => XS.iconst X31.here hx rfl (hb hby at_184) k) ?_
              refine Wk.go (A' := T31.setTop (mkF m 189 #[iv pk, iv fx, iv tx, iv sx, rv bA, iv kd, iv pl, iv ia, iv ib, iv (1 : Int32)] [(.int (1 : Int32))])) (fun t k => XS.goto X31.here hx rfl (pc0 := 185) (pc' := 189) rfl (hb hby at_185) (by decide) (by decide) k) ?_
              refine own_fin (Qv := Q0 Z pk fx tx sx h0 n0) (v := some (.int (1 : Int32))) X31 hlk (fun h => by rw [Bd.returns] at h; cases h) (fun fs hr => retN X31 hx (t := .boolean) Bd.returns (by simp) (hb hby at_189) hr) ?_ (by decide) (by decide)
              exact ⟨rfl, N31⟩
    · refine Wk.go (A' := T8.setTop (mkF m 82 #[iv pk, iv fx, iv tx, iv sx, rv bA, iv kd, iv pl, .unset, .unset, .unset] [])) (fun t k => XS.icmpYes X8.here hx rfl (pc0 := 69) (pc' := 82) rfl (hb hby at_69) rfl (feq hc69).2 (by decide) (by decide) k) ?_
      refine Wk.go (A' := T8.setTop (mkF m 84 #[iv pk, iv fx, iv tx, iv sx, rv bA, iv kd, iv pl, .unset, .unset, .unset] [(.int kd)])) (fun t k => XS.iload X8.here hx rfl (hb hby at_82) rfl k) ?_
      refine Wk.go (A' := T8.setTop (mkF m 85 #[iv pk, iv fx, iv tx, iv sx, rv bA, iv kd, iv pl, .unset, .unset, .unset] [(.int (3 : Int32)), (.int kd)])) (fun t k => XS.iconst X8.here hx rfl (hb hby at_84) k) ?_
      by_cases hc85 : kd = (3 : Int32)
      · refine Wk.go (A' := T8.setTop (mkF m 88 #[iv pk, iv fx, iv tx, iv sx, rv bA, iv kd, iv pl, .unset, .unset, .unset] [])) (fun t k => XS.icmpNo X8.here hx rfl (hb hby at_85) rfl (teq hc85).2 k) ?_
        refine Wk.go (A' := T8.setTop (mkF m 90 #[iv pk, iv fx, iv tx, iv sx, rv bA, iv kd, iv pl, .unset, .unset, .unset] [(.ref bA)])) (fun t k => XS.aload X8.here hx rfl (hb hby at_88) rfl rfl k) ?_
        refine Wk.go (A' := T8.setTop (mkF m 92 #[iv pk, iv fx, iv tx, iv sx, rv bA, iv kd, iv pl, .unset, .unset, .unset] [(.int pl), (.ref bA)])) (fun t k => XS.iload X8.here hx rfl (hb hby at_90) rfl k) ?_
        refine Wk.go (A' := T8.setTop (mkF m 94 #[iv pk, iv fx, iv tx, iv sx, rv bA, iv kd, iv pl, .unset, .unset, .unset] [(.int (13 : Int32)), (.int pl), (.ref bA)])) (fun t k => XS.bipush X8.here hx rfl (hb hby at_92) k) ?_
        obtain ⟨T32, h32, X32, e32, W32, B32, st32⟩ := own_stB X8 hx hZ e8 f9 (j := pl) hp (g := (mkF m 94 #[iv pk, iv fx, iv tx, iv sx, rv bA, iv kd, iv pl, .unset, .unset, .unset] [(.int (13 : Int32)), (.int pl), (.ref bA)])) rfl rfl (hb hby at_94)
        have V32 : BA Z h32 bA 4 (own_upd f4 (pl).toNatClampNeg ((13 : Int32)).toInt8.toInt32) := B32
        obtain ⟨fB, hfB⟩ : ∃ z, z = (own_upd f4 (pl).toNatClampNeg ((13 : Int32)).toInt8.toInt32) := ⟨_, rfl⟩
        rw [← hfB] at V32
        have f33 := V32
        have Zp32 : n0 ≤ h32.size := Nat.le_trans Zp8 (Nat.le_of_eq W32.size.symm)
        have N32 := Fr.snoc X32 N8 g_bA
        refine Wk.go (A' := T32.setTop (mkF m 95 #[iv pk, iv fx, iv tx, iv sx, rv bA, iv kd, iv pl, .unset, .unset, .unset] [])) (fun t k => st32 t k) ?_
        refine Wk.go (A' := T32.setTop (mkF m 96 #[iv pk, iv fx, iv tx, iv sx, rv bA, iv kd, iv pl, .unset, .unset, .unset] [(.int fx)])) (fun t k => XS.iloadN X32.here hx rfl (hb hby at_95) rfl k) ?_
        refine Wk.go (A' := T32.setTop (mkF m 98 #[iv pk, iv fx, iv tx, iv sx, rv bA, iv kd, iv pl, .unset, .unset, .unset] [(.int (2147483647 : Int32)), (.int fx)])) (fun t k => X32.ldcInt hx hown (mvT hZ (tw1 hw)) (g := (mkF m 96 #[iv pk, iv fx, iv tx, iv sx, rv bA, iv kd, iv pl, .unset, .unset, .unset] [(.int fx)])) rfl (hb hby at_96) t k) ?_
        refine Wk.go (A' := T32.setTop (mkF m 99 #[iv pk, iv fx, iv tx, iv sx, rv bA, iv kd, iv pl, .unset, .unset, .unset] [(.int (fx &&& (2147483647 : Int32)))])) (fun t k => XS.iand X32.here hx rfl (hb hby at_98) rfl k) ?_
        refine Wk.go (A' := T32.setTop (mkF m 100 #[iv pk, iv fx, iv tx, iv sx, rv bA, iv kd, iv pl, .unset, .unset, .unset] [(.int (5 : Int32)), (.int (fx &&& (2147483647 : Int32)))])) (fun t k => XS.iconst X32.here hx rfl (hb hby at_99) k) ?_
        refine Wk.go (A' := T32.setTop (mkF m 101 #[iv pk, iv fx, iv tx, iv sx, rv bA, iv kd, iv pl, .unset, .unset, .unset] [(.int ((fx &&& (2147483647 : Int32)) % (5 : Int32)))])) (fun t k => iremM X32 hx rfl (hb hby at_100) rfl (by decide) k) ?_
        refine Wk.go (A' := T32.setTop (mkF m 103 #[iv pk, iv fx, iv tx, iv sx, rv bA, iv kd, iv pl, iv ((fx &&& (2147483647 : Int32)) % (5 : Int32)), .unset, .unset] [])) (fun t k => XS.istore X32.here hx rfl (hb hby at_101) rfl (l' := #[iv pk, iv fx, iv tx, iv sx, rv bA, iv kd, iv pl, iv ((fx &&& (2147483647 : Int32)) % (5 : Int32)), .unset, .unset]) rfl k) ?_
        generalize hia : ((fx &&& (2147483647 : Int32)) % (5 : Int32)) = ia
        have hf0 : 0 ≤ ia.toInt ∧ ia.toInt ≤ 4 := by rw [← hia]; exact own_5 fx
        refine Wk.go (A' := T32.setTop (mkF m 104 #[iv pk, iv fx, iv tx, iv sx, rv bA, iv kd, iv pl, iv ia, .unset, .unset] [(.int tx)])) (fun t k => XS.iloadN X32.here hx rfl (hb hby at_103) rfl k) ?_
        refine Wk.go (A' := T32.setTop (mkF m 106 #[iv pk, iv fx, iv tx, iv sx, rv bA, iv kd, iv pl, iv ia, .unset, .unset] [(.int (2147483647 : Int32)), (.int tx)])) (fun t k => X32.ldcInt hx hown (mvT hZ (tw1 hw)) (g := (mkF m 104 #[iv pk, iv fx, iv tx, iv sx, rv bA, iv kd, iv pl, iv ia, .unset, .unset] [(.int tx)])) rfl (hb hby at_104) t k) ?_
        refine Wk.go (A' := T32.setTop (mkF m 107 #[iv pk, iv fx, iv tx, iv sx, rv bA, iv kd, iv pl, iv ia, .unset, .unset] [(.int (tx &&& (2147483647 : Int32)))])) (fun t k => XS.iand X32.here hx rfl (hb hby at_106) rfl k) ?_
        refine Wk.go (A' := T32.setTop (mkF m 108 #[iv pk, iv fx, iv tx, iv sx, rv bA, iv kd, iv pl, iv ia, .unset, .unset] [(.int (5 : Int32)), (.int (tx &&& (2147483647 : Int32)))])) (fun t k => XS.iconst X32.here hx rfl (hb hby at_107) k) ?_
        refine Wk.go (A' := T32.setTop (mkF m 109 #[iv pk, iv fx, iv tx, iv sx, rv bA, iv kd, iv pl, iv ia, .unset, .unset] [(.int ((tx &&& (2147483647 : Int32)) % (5 : Int32)))])) (fun t k => iremM X32 hx rfl (hb hby at_108) rfl (by decide) k) ?_
        refine Wk.go (A' := T32.setTop (mkF m 111 #[iv pk, iv fx, iv tx, iv sx, rv bA, iv kd, iv pl, iv ia, iv ((tx &&& (2147483647 : Int32)) % (5 : Int32)), .unset] [])) (fun t k => XS.istore X32.here hx rfl (hb hby at_109) rfl (l' := #[iv pk, iv fx, iv tx, iv sx, rv bA, iv kd, iv pl, iv ia, iv ((tx &&& (2147483647 : Int32)) % (5 : Int32)), .unset]) rfl k) ?_
        generalize hib : ((tx &&& (2147483647 : Int32)) % (5 : Int32)) = ib
        have ht0 : 0 ≤ ib.toInt ∧ ib.toInt ≤ 4 := by rw [← hib]; exact own_5 tx
        refine Wk.go (A' := T32.setTop (mkF m 113 #[iv pk, iv fx, iv tx, iv sx, rv bA, iv kd, iv pl, iv ia, iv ib, .unset] [(.ref bA)])) (fun t k => XS.aload X32.here hx rfl (hb hby at_111) rfl rfl k) ?_
        refine Wk.go (A' := T32.setTop (mkF m 114 #[iv pk, iv fx, iv tx, iv sx, rv bA, iv kd, iv pl, iv ia, iv ib, .unset] [(.int (0 : Int32)), (.ref bA)])) (fun t k => XS.iconst X32.here hx rfl (hb hby at_113) k) ?_
        refine Wk.go (A' := T32.setTop (mkF m 116 #[iv pk, iv fx, iv tx, iv sx, rv bA, iv kd, iv pl, iv ia, iv ib, .unset] [(.int ia), (.int (0 : Int32)), (.ref bA)])) (fun t k => XS.iload X32.here hx rfl (hb hby at_114) rfl k) ?_
        refine Wk.go (A' := T32.setTop (mkF m 118 #[iv pk, iv fx, iv tx, iv sx, rv bA, iv kd, iv pl, iv ia, iv ib, .unset] [(.int ib), (.int ia), (.int (0 : Int32)), (.ref bA)])) (fun t k => XS.iload X32.here hx rfl (hb hby at_116) rfl k) ?_
        obtain ⟨_, _, ⟨T34, L34, k34, n34⟩, -, X34, ⟨Lc34, hQ34, l34, y34, z34⟩, st34⟩ := Jvm.LawKit.callS X32 hx (y := (⟨"com/example/arcwalk/arcwalk/TermSpansIsPlainPinLaw", "ok", "([BIII)Z"⟩ : MethodName)) hown (mvT hZ (tw2 hw)) (mvT hZ (tw3 hw)) (mvT hZ (tw4 hw)) (mvT hZ (tw5 hw)) (by decide) (backOf (W := 0) (rm1 l Z a0 hw [] bA (0 : Int32) ia ib fB h32 n0 Zp32 f33 (by decide)) hZ (tw5 hw) (tw4 hw) (by decide) (by decide)) (g := (mkF m 118 #[iv pk, iv fx, iv tx, iv sx, rv bA, iv kd, iv pl, iv ia, iv ib, .unset] [(.int ib), (.int ia), (.int (0 : Int32)), (.ref bA)])) rfl (by rw [hml]; rfl) (argsL := [(.ref bA), (.int (0 : Int32)), (.int ia), (.int ib)]) (rest := []) (lenOf pd_0 rfl) rfl (by show 2 * 0 + _ ≤ _; exact Nat.le_of_eq rfl) (hb hby at_118) (fun _ _ => ⟨rfl, e32, (by decide : 1 + 0 ≤ _), (by decide : 4 + 0 ≤ _)⟩)
        dsimp only [Pt.U, Pt.locs, Pt.cells, Pt.slots] at X34 l34 y34 z34 st34 hQ34
        subst l34 y34 z34
        obtain ⟨rfl, N34q, hE34⟩ := hQ34
        have N34 := Fr.app N32 N34q
        refine Wk.go (A' := T34.setTop (mkF m 121 #[iv pk, iv fx, iv tx, iv sx, rv bA, iv kd, iv pl, iv ia, iv ib, .unset] [(.int (f_ok bA (0 : Int32) ia ib fB))])) (fun t k => st34 t k) ?_
        by_cases hc121 : (f_ok bA (0 : Int32) ia ib fB) = (0 : Int32)
        · refine Wk.go (A' := T34.setTop (mkF m 167 #[iv pk, iv fx, iv tx, iv sx, rv bA, iv kd, iv pl, iv ia, iv ib, .unset] [])) (fun t k => XS.ifYes X34.here hx rfl (pc0 := 121) (pc' := 167) rfl (hb hby at_121) rfl ((if0 _ _).trans (teq hc121).1) (by decide) (by decide) k) ?_
          refine Wk.go (A' := T34.setTop (mkF m 168 #[iv pk, iv fx, iv tx, iv sx, rv bA, iv kd, iv pl, iv ia, iv ib, .unset] [(.int (0 : Int32))])) (fun t k => XS.iconst X34.here hx rfl (hb hby at_167) k) ?_
          refine Wk.go (A' := T34.setTop (mkF m 170 #[iv pk, iv fx, iv tx, iv sx, rv bA, iv kd, iv pl, iv ia, iv ib, iv (0 : Int32)] [])) (fun t k => XS.istore X34.here hx rfl (hb hby at_168) rfl (l' := #[iv pk, iv fx, iv tx, iv sx, rv bA, iv kd, iv pl, iv ia, iv ib, iv (0 : Int32)]) rfl k) ?_
          refine Wk.go (A' := T34.setTop (mkF m 172 #[iv pk, iv fx, iv tx, iv sx, rv bA, iv kd, iv pl, iv ia, iv ib, iv (0 : Int32)] [(.ref bA)])) (fun t k => XS.aload X34.here hx rfl (hb hby at_170) rfl rfl k) ?_
          refine Wk.go (A' := T34.setTop (mkF m 174 #[iv pk, iv fx, iv tx, iv sx, rv bA, iv kd, iv pl, iv ia, iv ib, iv (0 : Int32)] [(.int ia), (.ref bA)])) (fun t k => XS.iload X34.here hx rfl (hb hby at_172) rfl k) ?_
          refine Wk.go (A' := T34.setTop (mkF m 176 #[iv pk, iv fx, iv tx, iv sx, rv bA, iv kd, iv pl, iv ia, iv ib, iv (0 : Int32)] [(.int ib), (.int ia), (.ref bA)])) (fun t k => XS.iload X34.here hx rfl (hb hby at_174) rfl k) ?_
          obtain ⟨_, _, ⟨T35, L35, k35, n35⟩, -, X35, ⟨Lc35, hQ35, l35, y35, z35⟩, st35⟩ := Jvm.LawKit.callS X34 hx (y := (⟨"com/example/arcwalk/arcwalk/TermSpans", "isPlain", "([BII)Z"⟩ : MethodName)) hown (mvT hZ (tw6 hw)) (mvT hZ (tw7 hw)) (mvT hZ (tw8 hw)) (mvT hZ (tw9 hw)) (by decide) (backOf (W := 0) (rm2 l Z a0 hw [] bA ia ib fB h32 n0 Zp32 f33 hf0.1 ht0.2) hZ (tw9 hw) (tw8 hw) (by decide) (by decide)) (g := (mkF m 176 #[iv pk, iv fx, iv tx, iv sx, rv bA, iv kd, iv pl, iv ia, iv ib, iv (0 : Int32)] [(.int ib), (.int ia), (.ref bA)])) rfl (by rw [hml]; rfl) (argsL := [(.ref bA), (.int ia), (.int ib)]) (rest := []) (lenOf pd_1 rfl) rfl (by show 2 * 0 + _ ≤ _; exact Nat.le_of_eq rfl) (hb hby at_176) (fun _ _ => ⟨rfl, (hE34), (by decide : 1 + 0 ≤ _), (by decide : 4 + 0 ≤ _)⟩)
          dsimp only [Pt.U, Pt.locs, Pt.cells, Pt.slots] at X35 l35 y35 z35 st35 hQ35
          subst l35 y35 z35
          obtain ⟨r, rfl, N35q, hE35, R1⟩ := hQ35
          have N35 := Fr.app N34 N35q
          refine Wk.go (A' := T35.setTop (mkF m 179 #[iv pk, iv fx, iv tx, iv sx, rv bA, iv kd, iv pl, iv ia, iv ib, iv (0 : Int32)] [(.int r)])) (fun t k => st35 t k) ?_
          refine Wk.go (A' := T35.setTop (mkF m 181 #[iv pk, iv fx, iv tx, iv sx, rv bA, iv kd, iv pl, iv ia, iv ib, iv (0 : Int32)] [(.int (0 : Int32)), (.int r)])) (fun t k => XS.iload X35.here hx rfl (hb hby at_179) rfl k) ?_
          have hc181 : r = (0 : Int32) := own_bad _ (show 0 < 4 by decide) R1 hc121
          refine Wk.go (A' := T35.setTop (mkF m 184 #[iv pk, iv fx, iv tx, iv sx, rv bA, iv kd, iv pl, iv ia, iv ib, iv (0 : Int32)] [])) (fun t k => XS.icmpNo X35.here hx rfl (hb hby at_181) rfl (teq hc181).2 k) ?_
          refine Wk.go (A' := T35.setTop (mkF m 185 #[iv pk, iv fx, iv tx, iv sx, rv bA, iv kd, iv pl, iv ia, iv ib, iv (0 : Int32)] [(.int (1 : Int32))])) (fun t k => XS.iconst X35.here hx rfl (hb hby at_184) k) ?_
          refine Wk.go (A' := T35.setTop (mkF m 189 #[iv pk, iv fx, iv tx, iv sx, rv bA, iv kd, iv pl, iv ia, iv ib, iv (0 : Int32)] [(.int (1 : Int32))])) (fun t k => XS.goto X35.here hx rfl (pc0 := 185) (pc' := 189) rfl (hb hby at_185) (by decide) (by decide) k) ?_
          refine own_fin (Qv := Q0 Z pk fx tx sx h0 n0) (v := some (.int (1 : Int32))) X35 hlk (fun h => by rw [Bd.returns] at h; cases h) (fun fs hr => retN X35 hx (t := .boolean) Bd.returns (by simp) (hb hby at_189) hr) ?_ (by decide) (by decide)
          exact ⟨rfl, N35⟩
        · refine Wk.go (A' := T34.setTop (mkF m 124 #[iv pk, iv fx, iv tx, iv sx, rv bA, iv kd, iv pl, iv ia, iv ib, .unset] [])) (fun t k => XS.ifNo X34.here hx rfl (hb hby at_121) rfl ((if0 _ _).trans (feq hc121).1) k) ?_
          refine Wk.go (A' := T34.setTop (mkF m 126 #[iv pk, iv fx, iv tx, iv sx, rv bA, iv kd, iv pl, iv ia, iv ib, .unset] [(.ref bA)])) (fun t k => XS.aload X34.here hx rfl (hb hby at_124) rfl rfl k) ?_
          refine Wk.go (A' := T34.setTop (mkF m 127 #[iv pk, iv fx, iv tx, iv sx, rv bA, iv kd, iv pl, iv ia, iv ib, .unset] [(.int (1 : Int32)), (.ref bA)])) (fun t k => XS.iconst X34.here hx rfl (hb hby at_126) k) ?_
          refine Wk.go (A' := T34.setTop (mkF m 129 #[iv pk, iv fx, iv tx, iv sx, rv bA, iv kd, iv pl, iv ia, iv ib, .unset] [(.int ia), (.int (1 : Int32)), (.ref bA)])) (fun t k => XS.iload X34.here hx rfl (hb hby at_127) rfl k) ?_
          refine Wk.go (A' := T34.setTop (mkF m 131 #[iv pk, iv fx, iv tx, iv sx, rv bA, iv kd, iv pl, iv ia, iv ib, .unset] [(.int ib), (.int ia), (.int (1 : Int32)), (.ref bA)])) (fun t k => XS.iload X34.here hx rfl (hb hby at_129) rfl k) ?_
          obtain ⟨_, _, ⟨T36, L36, k36, n36⟩, -, X36, ⟨Lc36, hQ36, l36, y36, z36⟩, st36⟩ := Jvm.LawKit.callS X34 hx (y := (⟨"com/example/arcwalk/arcwalk/TermSpansIsPlainPinLaw", "ok", "([BIII)Z"⟩ : MethodName)) hown (mvT hZ (tw2 hw)) (mvT hZ (tw3 hw)) (mvT hZ (tw4 hw)) (mvT hZ (tw5 hw)) (by decide) (backOf (W := 0) (rm1 l Z a0 hw [] bA (1 : Int32) ia ib fB h32 n0 Zp32 f33 (by decide)) hZ (tw5 hw) (tw4 hw) (by decide) (by decide)) (g := (mkF m 131 #[iv pk, iv fx, iv tx, iv sx, rv bA, iv kd, iv pl, iv ia, iv ib, .unset] [(.int ib), (.int ia), (.int (1 : Int32)), (.ref bA)])) rfl (by rw [hml]; rfl) (argsL := [(.ref bA), (.int (1 : Int32)), (.int ia), (.int ib)]) (rest := []) (lenOf pd_0 rfl) rfl (by show 2 * 0 + _ ≤ _; exact Nat.le_of_eq rfl) (hb hby at_131) (fun _ _ => ⟨rfl, (hE34), (by decide : 1 + 0 ≤ _), (by decide : 4 + 0 ≤ _)⟩)
          dsimp only [Pt.U, Pt.locs, Pt.cells, Pt.slots] at X36 l36 y36 z36 st36 hQ36
          subst l36 y36 z36
          obtain ⟨rfl, N36q, hE36⟩ := hQ36
          have N36 := Fr.app N34 N36q
          refine Wk.go (A' := T36.setTop (mkF m 134 #[iv pk, iv fx, iv tx, iv sx, rv bA, iv kd, iv pl, iv ia, iv ib, .unset] [(.int (f_ok bA (1 : Int32) ia ib fB))])) (fun t k => st36 t k) ?_
          by_cases hc134 : (f_ok bA (1 : Int32) ia ib fB) = (0 : Int32)
          · refine Wk.go (A' := T36.setTop (mkF m 167 #[iv pk, iv fx, iv tx, iv sx, rv bA, iv kd, iv pl, iv ia, iv ib, .unset] [])) (fun t k => XS.ifYes X36.here hx rfl (pc0 := 134) (pc' := 167) rfl (hb hby at_134) rfl ((if0 _ _).trans (teq hc134).1) (by decide) (by decide) k) ?_
            refine Wk.go (A' := T36.setTop (mkF m 168 #[iv pk, iv fx, iv tx, iv sx, rv bA, iv kd, iv pl, iv ia, iv ib, .unset] [(.int (0 : Int32))])) (fun t k => XS.iconst X36.here hx rfl (hb hby at_167) k) ?_
            refine Wk.go (A' := T36.setTop (mkF m 170 #[iv pk, iv fx, iv tx, iv sx, rv bA, iv kd, iv pl, iv ia, iv ib, iv (0 : Int32)] [])) (fun t k => XS.istore X36.here hx rfl (hb hby at_168) rfl (l' := #[iv pk, iv fx, iv tx, iv sx, rv bA, iv kd, iv pl, iv ia, iv ib, iv (0 : Int32)]) rfl k) ?_
            refine Wk.go (A' := T36.setTop (mkF m 172 #[iv pk, iv fx, iv tx, iv sx, rv bA, iv kd, iv pl, iv ia, iv ib, iv (0 : Int32)] [(.ref bA)])) (fun t k => XS.aload X36.here hx rfl (hb hby at_170) rfl rfl k) ?_
            refine Wk.go (A' := T36.setTop (mkF m 174 #[iv pk, iv fx, iv tx, iv sx, rv bA, iv kd, iv pl, iv ia, iv ib, iv (0 : Int32)] [(.int ia), (.ref bA)])) (fun t k => XS.iload X36.here hx rfl (hb hby at_172) rfl k) ?_
            refine Wk.go (A' := T36.setTop (mkF m 176 #[iv pk, iv fx, iv tx, iv sx, rv bA, iv kd, iv pl, iv ia, iv ib, iv (0 : Int32)] [(.int ib), (.int ia), (.ref bA)])) (fun t k => XS.iload X36.here hx rfl (hb hby at_174) rfl k) ?_
            obtain ⟨_, _, ⟨T37, L37, k37, n37⟩, -, X37, ⟨Lc37, hQ37, l37, y37, z37⟩, st37⟩ := Jvm.LawKit.callS X36 hx (y := (⟨"com/example/arcwalk/arcwalk/TermSpans", "isPlain", "([BII)Z"⟩ : MethodName)) hown (mvT hZ (tw6 hw)) (mvT hZ (tw7 hw)) (mvT hZ (tw8 hw)) (mvT hZ (tw9 hw)) (by decide) (backOf (W := 0) (rm2 l Z a0 hw [] bA ia ib fB h32 n0 Zp32 f33 hf0.1 ht0.2) hZ (tw9 hw) (tw8 hw) (by decide) (by decide)) (g := (mkF m 176 #[iv pk, iv fx, iv tx, iv sx, rv bA, iv kd, iv pl, iv ia, iv ib, iv (0 : Int32)] [(.int ib), (.int ia), (.ref bA)])) rfl (by rw [hml]; rfl) (argsL := [(.ref bA), (.int ia), (.int ib)]) (rest := []) (lenOf pd_1 rfl) rfl (by show 2 * 0 + _ ≤ _; exact Nat.le_of_eq rfl) (hb hby at_176) (fun _ _ => ⟨rfl, (hE36), (by decide : 1 + 0 ≤ _), (by decide : 4 + 0 ≤ _)⟩)
            dsimp only [Pt.U, Pt.locs, Pt.cells, Pt.slots] at X37 l37 y37 z37 st37 hQ37
            subst l37 y37 z37
            obtain ⟨r, rfl, N37q, hE37, R1⟩ := hQ37
            have N37 := Fr.app N36 N37q
            refine Wk.go (A' := T37.setTop (mkF m 179 #[iv pk, iv fx, iv tx, iv sx, rv bA, iv kd, iv pl, iv ia, iv ib, iv (0 : Int32)] [(.int r)])) (fun t k => st37 t k) ?_
            refine Wk.go (A' := T37.setTop (mkF m 181 #[iv pk, iv fx, iv tx, iv sx, rv bA, iv kd, iv pl, iv ia, iv ib, iv (0 : Int32)] [(.int (0 : Int32)), (.int r)])) (fun t k => XS.iload X37.here hx rfl (hb hby at_179) rfl k) ?_
            have hc181 : r = (0 : Int32) := own_bad _ (show 1 < 4 by decide) R1 hc134
            refine Wk.go (A' := T37.setTop (mkF m 184 #[iv pk, iv fx, iv tx, iv sx, rv bA, iv kd, iv pl, iv ia, iv ib, iv (0 : Int32)] [])) (fun t k => XS.icmpNo X37.here hx rfl (hb hby at_181) rfl (teq hc181).2 k) ?_
            refine Wk.go (A' := T37.setTop (mkF m 185 #[iv pk, iv fx, iv tx, iv sx, rv bA, iv kd, iv pl, iv ia, iv ib, iv (0 : Int32)] [(.int (1 : Int32))])) (fun t k => XS.iconst X37.here hx rfl (hb hby at_184) k) ?_
            refine Wk.go (A' := T37.setTop (mkF m 189 #[iv pk, iv fx, iv tx, iv sx, rv bA, iv kd, iv pl, iv ia, iv ib, iv (0 : Int32)] [(.int (1 : Int32))])) (fun t k => XS.goto X37.here hx rfl (pc0 := 185) (pc' := 189) rfl (hb hby at_185) (by decide) (by decide) k) ?_
            refine own_fin (Qv := Q0 Z pk fx tx sx h0 n0) (v := some (.int (1 : Int32))) X37 hlk (fun h => by rw [Bd.returns] at h; cases h) (fun fs hr => retN X37 hx (t := .boolean) Bd.returns (by simp) (hb hby at_189) hr) ?_ (by decide) (by decide)
            exact ⟨rfl, N37⟩
          · refine Wk.go (A' := T36.setTop (mkF m 137 #[iv pk, iv fx, iv tx, iv sx, rv bA, iv kd, iv pl, iv ia, iv ib, .unset] [])) (fun t k => XS.ifNo X36.here hx rfl (hb hby at_134) rfl ((if0 _ _).trans (feq hc134).1) k) ?_
            refine Wk.go (A' := T36.setTop (mkF m 139 #[iv pk, iv fx, iv tx, iv sx, rv bA, iv kd, iv pl, iv ia, iv ib, .unset] [(.ref bA)])) (fun t k => XS.aload X36.here hx rfl (hb hby at_137) rfl rfl k) ?_
            refine Wk.go (A' := T36.setTop (mkF m 140 #[iv pk, iv fx, iv tx, iv sx, rv bA, iv kd, iv pl, iv ia, iv ib, .unset] [(.int (2 : Int32)), (.ref bA)])) (fun t k => XS.iconst X36.here hx rfl (hb hby at_139) k) ?_
            refine Wk.go (A' := T36.setTop (mkF m 142 #[iv pk, iv fx, iv tx, iv sx, rv bA, iv kd, iv pl, iv ia, iv ib, .unset] [(.int ia), (.int (2 : Int32)), (.ref bA)])) (fun t k => XS.iload X36.here hx rfl (hb hby at_140) rfl k) ?_
            refine Wk.go (A' := T36.setTop (mkF m 144 #[iv pk, iv fx, iv tx, iv sx, rv bA, iv kd, iv pl, iv ia, iv ib, .unset] [(.int ib), (.int ia), (.int (2 : Int32)), (.ref bA)])) (fun t k => XS.iload X36.here hx rfl (hb hby at_142) rfl k) ?_
            obtain ⟨_, _, ⟨T38, L38, k38, n38⟩, -, X38, ⟨Lc38, hQ38, l38, y38, z38⟩, st38⟩ := Jvm.LawKit.callS X36 hx (y := (⟨"com/example/arcwalk/arcwalk/TermSpansIsPlainPinLaw", "ok", "([BIII)Z"⟩ : MethodName)) hown (mvT hZ (tw2 hw)) (mvT hZ (tw3 hw)) (mvT hZ (tw4 hw)) (mvT hZ (tw5 hw)) (by decide) (backOf (W := 0) (rm1 l Z a0 hw [] bA (2 : Int32) ia ib fB h32 n0 Zp32 f33 (by decide)) hZ (tw5 hw) (tw4 hw) (by decide) (by decide)) (g := (mkF m 144 #[iv pk, iv fx, iv tx, iv sx, rv bA, iv kd, iv pl, iv ia, iv ib, .unset] [(.int ib), (.int ia), (.int (2 : Int32)), (.ref bA)])) rfl (by rw [hml]; rfl) (argsL := [(.ref bA), (.int (2 : Int32)), (.int ia), (.int ib)]) (rest := []) (lenOf pd_0 rfl) rfl (by show 2 * 0 + _ ≤ _; exact Nat.le_of_eq rfl) (hb hby at_144) (fun _ _ => ⟨rfl, (hE36), (by decide : 1 + 0 ≤ _), (by decide : 4 + 0 ≤ _)⟩)
            dsimp only [Pt.U, Pt.locs, Pt.cells, Pt.slots] at X38 l38 y38 z38 st38 hQ38
            subst l38 y38 z38
            obtain ⟨rfl, N38q, hE38⟩ := hQ38
            have N38 := Fr.app N36 N38q
            refine Wk.go (A' := T38.setTop (mkF m 147 #[iv pk, iv fx, iv tx, iv sx, rv bA, iv kd, iv pl, iv ia, iv ib, .unset] [(.int (f_ok bA (2 : Int32) ia ib fB))])) (fun t k => st38 t k) ?_
            by_cases hc147 : (f_ok bA (2 : Int32) ia ib fB) = (0 : Int32)
            · refine Wk.go (A' := T38.setTop (mkF m 167 #[iv pk, iv fx, iv tx, iv sx, rv bA, iv kd, iv pl, iv ia, iv ib, .unset] [])) (fun t k => XS.ifYes X38.here hx rfl (pc0 := 147) (pc' := 167) rfl (hb hby at_147) rfl ((if0 _ _).trans (teq hc147).1) (by decide) (by decide) k) ?_
              refine Wk.go (A' := T38.setTop (mkF m 168 #[iv pk, iv fx, iv tx, iv sx, rv bA, iv kd, iv pl, iv ia, iv ib, .unset] [(.int (0 : Int32))])) (fun t k => XS.iconst X38.here hx rfl (hb hby at_167) k) ?_
              refine Wk.go (A' := T38.setTop (mkF m 170 #[iv pk, iv fx, iv tx, iv sx, rv bA, iv kd, iv pl, iv ia, iv ib, iv (0 : Int32)] [])) (fun t k => XS.istore X38.here hx rfl (hb hby at_168) rfl (l' := #[iv pk, iv fx, iv tx, iv sx, rv bA, iv kd, iv pl, iv ia, iv ib, iv (0 : Int32)]) rfl k) ?_
              refine Wk.go (A' := T38.setTop (mkF m 172 #[iv pk, iv fx, iv tx, iv sx, rv bA, iv kd, iv pl, iv ia, iv ib, iv (0 : Int32)] [(.ref bA)])) (fun t k => XS.aload X38.here hx rfl (hb hby at_170) rfl rfl k) ?_
              refine Wk.go (A' := T38.setTop (mkF m 174 #[iv pk, iv fx, iv tx, iv sx, rv bA, iv kd, iv pl, iv ia, iv ib, iv (0 : Int32)] [(.int ia), (.ref bA)])) (fun t k => XS.iload X38.here hx rfl (hb hby at_172) rfl k) ?_
              refine Wk.go (A' := T38.setTop (mkF m 176 #[iv pk, iv fx, iv tx, iv sx, rv bA, iv kd, iv pl, iv ia, iv ib, iv (0 : Int32)] [(.int ib), (.int ia), (.ref bA)])) (fun t k => XS.iload X38.here hx rfl (hb hby at_174) rfl k) ?_
              obtain ⟨_, _, ⟨T39, L39, k39, n39⟩, -, X39, ⟨Lc39, hQ39, l39, y39, z39⟩, st39⟩ := Jvm.LawKit.callS X38 hx (y := (⟨"com/example/arcwalk/arcwalk/TermSpans", "isPlain", "([BII)Z"⟩ : MethodName)) hown (mvT hZ (tw6 hw)) (mvT hZ (tw7 hw)) (mvT hZ (tw8 hw)) (mvT hZ (tw9 hw)) (by decide) (backOf (W := 0) (rm2 l Z a0 hw [] bA ia ib fB h32 n0 Zp32 f33 hf0.1 ht0.2) hZ (tw9 hw) (tw8 hw) (by decide) (by decide)) (g := (mkF m 176 #[iv pk, iv fx, iv tx, iv sx, rv bA, iv kd, iv pl, iv ia, iv ib, iv (0 : Int32)] [(.int ib), (.int ia), (.ref bA)])) rfl (by rw [hml]; rfl) (argsL := [(.ref bA), (.int ia), (.int ib)]) (rest := []) (lenOf pd_1 rfl) rfl (by show 2 * 0 + _ ≤ _; exact Nat.le_of_eq rfl) (hb hby at_176) (fun _ _ => ⟨rfl, (hE38), (by decide : 1 + 0 ≤ _), (by decide : 4 + 0 ≤ _)⟩)
              dsimp only [Pt.U, Pt.locs, Pt.cells, Pt.slots] at X39 l39 y39 z39 st39 hQ39
              subst l39 y39 z39
              obtain ⟨r, rfl, N39q, hE39, R1⟩ := hQ39
              have N39 := Fr.app N38 N39q
              refine Wk.go (A' := T39.setTop (mkF m 179 #[iv pk, iv fx, iv tx, iv sx, rv bA, iv kd, iv pl, iv ia, iv ib, iv (0 : Int32)] [(.int r)])) (fun t k => st39 t k) ?_
              refine Wk.go (A' := T39.setTop (mkF m 181 #[iv pk, iv fx, iv tx, iv sx, rv bA, iv kd, iv pl, iv ia, iv ib, iv (0 : Int32)] [(.int (0 : Int32)), (.int r)])) (fun t k => XS.iload X39.here hx rfl (hb hby at_179) rfl k) ?_
              have hc181 : r = (0 : Int32) := own_bad _ (show 2 < 4 by decide) R1 hc147
              refine Wk.go (A' := T39.setTop (mkF m 184 #[iv pk, iv fx, iv tx, iv sx, rv bA, iv kd, iv pl, iv ia, iv ib, iv (0 : Int32)] [])) (fun t k => XS.icmpNo X39.here hx rfl (hb hby at_181) rfl (teq hc181).2 k) ?_
              refine Wk.go (A' := T39.setTop (mkF m 185 #[iv pk, iv fx, iv tx, iv sx, rv bA, iv kd, iv pl, iv ia, iv ib, iv (0 : Int32)] [(.int (1 : Int32))])) (fun t k => XS.iconst X39.here hx rfl (hb hby at_184) k) ?_
              refine Wk.go (A' := T39.setTop (mkF m 189 #[iv pk, iv fx, iv tx, iv sx, rv bA, iv kd, iv pl, iv ia, iv ib, iv (0 : Int32)] [(.int (1 : Int32))])) (fun t k => XS.goto X39.here hx rfl (pc0 := 185) (pc' := 189) rfl (hb hby at_185) (by decide) (by decide) k) ?_
              refine own_fin (Qv := Q0 Z pk fx tx sx h0 n0) (v := some (.int (1 : Int32))) X39 hlk (fun h => by rw [Bd.returns] at h; cases h) (fun fs hr => retN X39 hx (t := .boolean) Bd.returns (by simp) (hb hby at_189) hr) ?_ (by decide) (by decide)
              exact ⟨rfl, N39⟩
            · refine Wk.go (A' := T38.setTop (mkF m 150 #[iv pk, iv fx, iv tx, iv sx, rv bA, iv kd, iv pl, iv ia, iv ib, .unset] [])) (fun t k => XS.ifNo X38.here hx rfl (hb hby at_147) rfl ((if0 _ _).trans (feq hc147).1) k) ?_
              refine Wk.go (A' := T38.setTop (mkF m 152 #[iv pk, iv fx, iv tx, iv sx, rv bA, iv kd, iv pl, iv ia, iv ib, .unset] [(.ref bA)])) (fun t k => XS.aload X38.here hx rfl (hb hby at_150) rfl rfl k) ?_
              refine Wk.go (A' := T38.setTop (mkF m 153 #[iv pk, iv fx, iv tx, iv sx, rv bA, iv kd, iv pl, iv ia, iv ib, .unset] [(.int (3 : Int32)), (.ref bA)])) (fun t k => XS.iconst X38.here hx rfl (hb hby at_152) k) ?_
              refine Wk.go (A' := T38.setTop (mkF m 155 #[iv pk, iv fx, iv tx, iv sx, rv bA, iv kd, iv pl, iv ia, iv ib, .unset] [(.int ia), (.int (3 : Int32)), (.ref bA)])) (fun t k => XS.iload X38.here hx rfl (hb hby at_153) rfl k) ?_
              refine Wk.go (A' := T38.setTop (mkF m 157 #[iv pk, iv fx, iv tx, iv sx, rv bA, iv kd, iv pl, iv ia, iv ib, .unset] [(.int ib), (.int ia), (.int (3 : Int32)), (.ref bA)])) (fun t k => XS.iload X38.here hx rfl (hb hby at_155) rfl k) ?_
              obtain ⟨_, _, ⟨T40, L40, k40, n40⟩, -, X40, ⟨Lc40, hQ40, l40, y40, z40⟩, st40⟩ := Jvm.LawKit.callS X38 hx (y := (⟨"com/example/arcwalk/arcwalk/TermSpansIsPlainPinLaw", "ok", "([BIII)Z"⟩ : MethodName)) hown (mvT hZ (tw2 hw)) (mvT hZ (tw3 hw)) (mvT hZ (tw4 hw)) (mvT hZ (tw5 hw)) (by decide) (backOf (W := 0) (rm1 l Z a0 hw [] bA (3 : Int32) ia ib fB h32 n0 Zp32 f33 (by decide)) hZ (tw5 hw) (tw4 hw) (by decide) (by decide)) (g := (mkF m 157 #[iv pk, iv fx, iv tx, iv sx, rv bA, iv kd, iv pl, iv ia, iv ib, .unset] [(.int ib), (.int ia), (.int (3 : Int32)), (.ref bA)])) rfl (by rw [hml]; rfl) (argsL := [(.ref bA), (.int (3 : Int32)), (.int ia), (.int ib)]) (rest := []) (lenOf pd_0 rfl) rfl (by show 2 * 0 + _ ≤ _; exact Nat.le_of_eq rfl) (hb hby at_157) (fun _ _ => ⟨rfl, (hE38), (by decide : 1 + 0 ≤ _), (by decide : 4 + 0 ≤ _)⟩)
              dsimp only [Pt.U, Pt.locs, Pt.cells, Pt.slots] at X40 l40 y40 z40 st40 hQ40
              subst l40 y40 z40
              obtain ⟨rfl, N40q, hE40⟩ := hQ40
              have N40 := Fr.app N38 N40q
              refine Wk.go (A' := T40.setTop (mkF m 160 #[iv pk, iv fx, iv tx, iv sx, rv bA, iv kd, iv pl, iv ia, iv ib, .unset] [(.int (f_ok bA (3 : Int32) ia ib fB))])) (fun t k => st40 t k) ?_
              by_cases hc160 : (f_ok bA (3 : Int32) ia ib fB) = (0 : Int32)
              · refine Wk.go (A' := T40.setTop (mkF m 167 #[iv pk, iv fx, iv tx, iv sx, rv bA, iv kd, iv pl, iv ia, iv ib, .unset] [])) (fun t k => XS.ifYes X40.here hx rfl (pc0 := 160) (pc' := 167) rfl (hb hby at_160) rfl ((if0 _ _).trans (teq hc160).1) (by decide) (by decide) k) ?_
                refine Wk.go (A' := T40.setTop (mkF m 168 #[iv pk, iv fx, iv tx, iv sx, rv bA, iv kd, iv pl, iv ia, iv ib, .unset] [(.int (0 : Int32))])) (fun t k => XS.iconst X40.here hx rfl (hb hby at_167) k) ?_
                refine Wk.go (A' := T40.setTop (mkF m 170 #[iv pk, iv fx, iv tx, iv sx, rv bA, iv kd, iv pl, iv ia, iv ib, iv (0 : Int32)] [])) (fun t k => XS.istore X40.here hx rfl (hb hby at_168) rfl (l' := #[iv pk, iv fx, iv tx, iv sx, rv bA, iv kd, iv pl, iv ia, iv ib, iv (0 : Int32)]) rfl k) ?_
                refine Wk.go (A' := T40.setTop (mkF m 172 #[iv pk, iv fx, iv tx, iv sx, rv bA, iv kd, iv pl, iv ia, iv ib, iv (0 : Int32)] [(.ref bA)])) (fun t k => XS.aload X40.here hx rfl (hb hby at_170) rfl rfl k) ?_
                refine Wk.go (A' := T40.setTop (mkF m 174 #[iv pk, iv fx, iv tx, iv sx, rv bA, iv kd, iv pl, iv ia, iv ib, iv (0 : Int32)] [(.int ia), (.ref bA)])) (fun t k => XS.iload X40.here hx rfl (hb hby at_172) rfl k) ?_
                refine Wk.go (A' := T40.setTop (mkF m 176 #[iv pk, iv fx, iv tx, iv sx, rv bA, iv kd, iv pl, iv ia, iv ib, iv (0 : Int32)] [(.int ib), (.int ia), (.ref bA)])) (fun t k => XS.iload X40.here hx rfl (hb hby at_174) rfl k) ?_
                obtain ⟨_, _, ⟨T41, L41, k41, n41⟩, -, X41, ⟨Lc41, hQ41, l41, y41, z41⟩, st41⟩ := Jvm.LawKit.callS X40 hx (y := (⟨"com/example/arcwalk/arcwalk/TermSpans", "isPlain", "([BII)Z"⟩ : MethodName)) hown (mvT hZ (tw6 hw)) (mvT hZ (tw7 hw)) (mvT hZ (tw8 hw)) (mvT hZ (tw9 hw)) (by decide) (backOf (W := 0) (rm2 l Z a0 hw [] bA ia ib fB h32 n0 Zp32 f33 hf0.1 ht0.2) hZ (tw9 hw) (tw8 hw) (by decide) (by decide)) (g := (mkF m 176 #[iv pk, iv fx, iv tx, iv sx, rv bA, iv kd, iv pl, iv ia, iv ib, iv (0 : Int32)] [(.int ib), (.int ia), (.ref bA)])) rfl (by rw [hml]; rfl) (argsL := [(.ref bA), (.int ia), (.int ib)]) (rest := []) (lenOf pd_1 rfl) rfl (by show 2 * 0 + _ ≤ _; exact Nat.le_of_eq rfl) (hb hby at_176) (fun _ _ => ⟨rfl, (hE40), (by decide : 1 + 0 ≤ _), (by decide : 4 + 0 ≤ _)⟩)
                dsimp only [Pt.U, Pt.locs, Pt.cells, Pt.slots] at X41 l41 y41 z41 st41 hQ41
                subst l41 y41 z41
                obtain ⟨r, rfl, N41q, hE41, R1⟩ := hQ41
                have N41 := Fr.app N40 N41q
                refine Wk.go (A' := T41.setTop (mkF m 179 #[iv pk, iv fx, iv tx, iv sx, rv bA, iv kd, iv pl, iv ia, iv ib, iv (0 : Int32)] [(.int r)])) (fun t k => st41 t k) ?_
                refine Wk.go (A' := T41.setTop (mkF m 181 #[iv pk, iv fx, iv tx, iv sx, rv bA, iv kd, iv pl, iv ia, iv ib, iv (0 : Int32)] [(.int (0 : Int32)), (.int r)])) (fun t k => XS.iload X41.here hx rfl (hb hby at_179) rfl k) ?_
                have hc181 : r = (0 : Int32) := own_bad _ (show 3 < 4 by decide) R1 hc160
                refine Wk.go (A' := T41.setTop (mkF m 184 #[iv pk, iv fx, iv tx, iv sx, rv bA, iv kd, iv pl, iv ia, iv ib, iv (0 : Int32)] [])) (fun t k => XS.icmpNo X41.here hx rfl (hb hby at_181) rfl (teq hc181).2 k) ?_
                refine Wk.go (A' := T41.setTop (mkF m 185 #[iv pk, iv fx, iv tx, iv sx, rv bA, iv kd, iv pl, iv ia, iv ib, iv (0 : Int32)] [(.int (1 : Int32))])) (fun t k => XS.iconst X41.here hx rfl (hb hby at_184) k) ?_
                refine Wk.go (A' := T41.setTop (mkF m 189 #[iv pk, iv fx, iv tx, iv sx, rv bA, iv kd, iv pl, iv ia, iv ib, iv (0 : Int32)] [(.int (1 : Int32))])) (fun t k => XS.goto X41.here hx rfl (pc0 := 185) (pc' := 189) rfl (hb hby at_185) (by decide) (by decide) k) ?_
                refine own_fin (Qv := Q0 Z pk fx tx sx h0 n0) (v := some (.int (1 : Int32))) X41 hlk (fun h => by rw [Bd.returns] at h; cases h) (fun fs hr => retN X41 hx (t := .boolean) Bd.returns (by simp) (hb hby at_189) hr) ?_ (by decide) (by decide)
                exact ⟨rfl, N41⟩
              · refine Wk.go (A' := T40.setTop (mkF m 163 #[iv pk, iv fx, iv tx, iv sx, rv bA, iv kd, iv pl, iv ia, iv ib, .unset] [])) (fun t k => XS.ifNo X40.here hx rfl (hb hby at_160) rfl ((if0 _ _).trans (feq hc160).1) k) ?_
                refine Wk.go (A' := T40.setTop (mkF m 164 #[iv pk, iv fx, iv tx, iv sx, rv bA, iv kd, iv pl, iv ia, iv ib, .unset] [(.int (1 : Int32))])) (fun t k => XS.iconst X40.here hx rfl (hb hby at_163) k) ?_
                refine Wk.go (A' := T40.setTop (mkF m 168 #[iv pk, iv fx, iv tx, iv sx, rv bA, iv kd, iv pl, iv ia, iv ib, .unset] [(.int (1 : Int32))])) (fun t k => XS.goto X40.here hx rfl (pc0 := 164) (pc' := 168) rfl (hb hby at_164) (by decide) (by decide) k) ?_
                refine Wk.go (A' := T40.setTop (mkF m 170 #[iv pk, iv fx, iv tx, iv sx, rv bA, iv kd, iv pl, iv ia, iv ib, iv (1 : Int32)] [])) (fun t k => XS.istore X40.here hx rfl (hb hby at_168) rfl (l' := #[iv pk, iv fx, iv tx, iv sx, rv bA, iv kd, iv pl, iv ia, iv ib, iv (1 : Int32)]) rfl k) ?_
                refine Wk.go (A' := T40.setTop (mkF m 172 #[iv pk, iv fx, iv tx, iv sx, rv bA, iv kd, iv pl, iv ia, iv ib, iv (1 : Int32)] [(.ref bA)])) (fun t k => XS.aload X40.here hx rfl (hb hby at_170) rfl rfl k) ?_
                refine Wk.go (A' := T40.setTop (mkF m 174 #[iv pk, iv fx, iv tx, iv sx, rv bA, iv kd, iv pl, iv ia, iv ib, iv (1 : Int32)] [(.int ia), (.ref bA)])) (fun t k => XS.iload X40.here hx rfl (hb hby at_172) rfl k) ?_
                refine Wk.go (A' := T40.setTop (mkF m 176 #[iv pk, iv fx, iv tx, iv sx, rv bA, iv kd, iv pl, iv ia, iv ib, iv (1 : Int32)] [(.int ib), (.int ia), (.ref bA)])) (fun t k => XS.iload X40.here hx rfl (hb hby at_174) rfl k) ?_
                obtain ⟨_, _, ⟨T42, L42, k42, n42⟩, -, X42, ⟨Lc42, hQ42, l42, y42, z42⟩, st42⟩ := Jvm.LawKit.callS X40 hx (y := (⟨"com/example/arcwalk/arcwalk/TermSpans", "isPlain", "([BII)Z"⟩ : MethodName)) hown (mvT hZ (tw6 hw)) (mvT hZ (tw7 hw)) (mvT hZ (tw8 hw)) (mvT hZ (tw9 hw)) (by decide) (backOf (W := 0) (rm2 l Z a0 hw [] bA ia ib fB h32 n0 Zp32 f33 hf0.1 ht0.2) hZ (tw9 hw) (tw8 hw) (by decide) (by decide)) (g := (mkF m 176 #[iv pk, iv fx, iv tx, iv sx, rv bA, iv kd, iv pl, iv ia, iv ib, iv (1 : Int32)] [(.int ib), (.int ia), (.ref bA)])) rfl (by rw [hml]; rfl) (argsL := [(.ref bA), (.int ia), (.int ib)]) (rest := []) (lenOf pd_1 rfl) rfl (by show 2 * 0 + _ ≤ _; exact Nat.le_of_eq rfl) (hb hby at_176) (fun _ _ => ⟨rfl, (hE40), (by decide : 1 + 0 ≤ _), (by decide : 4 + 0 ≤ _)⟩)
                dsimp only [Pt.U, Pt.locs, Pt.cells, Pt.slots] at X42 l42 y42 z42 st42 hQ42
                subst l42 y42 z42
                obtain ⟨r, rfl, N42q, hE42, R1⟩ := hQ42
                have N42 := Fr.app N40 N42q
                refine Wk.go (A' := T42.setTop (mkF m 179 #[iv pk, iv fx, iv tx, iv sx, rv bA, iv kd, iv pl, iv ia, iv ib, iv (1 : Int32)] [(.int r)])) (fun t k => st42 t k) ?_
                refine Wk.go (A' := T42.setTop (mkF m 181 #[iv pk, iv fx, iv tx, iv sx, rv bA, iv kd, iv pl, iv ia, iv ib, iv (1 : Int32)] [(.int (1 : Int32)), (.int r)])) (fun t k => XS.iload X42.here hx rfl (hb hby at_179) rfl k) ?_
                have hc181 : r = (1 : Int32) := own_fine _ hf0.1 ht0.2 R1 (own_four hc121 hc134 hc147 hc160)
                refine Wk.go (A' := T42.setTop (mkF m 184 #[iv pk, iv fx, iv tx, iv sx, rv bA, iv kd, iv pl, iv ia, iv ib, iv (1 : Int32)] [])) (fun t k => XS.icmpNo X42.here hx rfl (hb hby at_181) rfl (teq hc181).2 k) ?_
                refine Wk.go (A' := T42.setTop (mkF m 185 #[iv pk, iv fx, iv tx, iv sx, rv bA, iv kd, iv pl, iv ia, iv ib, iv (1 : Int32)] [(.int (1 : Int32))])) (fun t k => XS.iconst X42.here hx rfl (hb hby at_184) k) ?_
                refine Wk.go (A' := T42.setTop (mkF m 189 #[iv pk, iv fx, iv tx, iv sx, rv bA, iv kd, iv pl, iv ia, iv ib, iv (1 : Int32)] [(.int (1 : Int32))])) (fun t k => XS.goto X42.here hx rfl (pc0 := 185) (pc' := 189) rfl (hb hby at_185) (by decide) (by decide) k) ?_
                refine own_fin (Qv := Q0 Z pk fx tx sx h0 n0) (v := some (.int (1 : Int32))) X42 hlk (fun h => by rw [Bd.returns] at h; cases h) (fun fs hr => retN X42 hx (t := .boolean) Bd.returns (by simp) (hb hby at_189) hr) ?_ (by decide) (by decide)
                exact ⟨rfl, N42⟩
      · refine Wk.go (A' := T8.setTop (mkF m 95 #[iv pk, iv fx, iv tx, iv sx, rv bA, iv kd, iv pl, .unset, .unset, .unset] [])) (fun t k => XS.icmpYes X8.here hx rfl (pc0 := 85) (pc' := 95) rfl (hb hby at_85) rfl (feq hc85).2 (by decide) (by decide) k) ?_
        obtain ⟨fB, hfB⟩ : ∃ z, z = f4 := ⟨_, rfl⟩
        have f43 := f9
        rw [← hfB] at f43
        refine Wk.go (A' := T8.setTop (mkF m 96 #[iv pk, iv fx, iv tx, iv sx, rv bA, iv kd, iv pl, .unset, .unset, .unset] [(.int fx)])) (fun t k => XS.iloadN X8.here hx rfl (hb hby at_95) rfl k) ?_
        refine Wk.go (A' := T8.setTop (mkF m 98 #[iv pk, iv fx, iv tx, iv sx, rv bA, iv kd, iv pl, .unset, .unset, .unset] [(.int (2147483647 : Int32)), (.int fx)])) (fun t k => X8.ldcInt hx hown (mvT hZ (tw1 hw)) (g := (mkF m 96 #[iv pk, iv fx, iv tx, iv sx, rv bA, iv kd, iv pl, .unset, .unset, .unset] [(.int fx)])) rfl (hb hby at_96) t k) ?_
        refine Wk.go (A' := T8.setTop (mkF m 99 #[iv pk, iv fx, iv tx, iv sx, rv bA, iv kd, iv pl, .unset, .unset, .unset] [(.int (fx &&& (2147483647 : Int32)))])) (fun t k => XS.iand X8.here hx rfl (hb hby at_98) rfl k) ?_
        refine Wk.go (A' := T8.setTop (mkF m 100 #[iv pk, iv fx, iv tx, iv sx, rv bA, iv kd, iv pl, .unset, .unset, .unset] [(.int (5 : Int32)), (.int (fx &&& (2147483647 : Int32)))])) (fun t k => XS.iconst X8.here hx rfl (hb hby at_99) k) ?_
        refine Wk.go (A' := T8.setTop (mkF m 101 #[iv pk, iv fx, iv tx, iv sx, rv bA, iv kd, iv pl, .unset, .unset, .unset] [(.int ((fx &&& (2147483647 : Int32)) % (5 : Int32)))])) (fun t k => iremM X8 hx rfl (hb hby at_100) rfl (by decide) k) ?_
        refine Wk.go (A' := T8.setTop (mkF m 103 #[iv pk, iv fx, iv tx, iv sx, rv bA, iv kd, iv pl, iv ((fx &&& (2147483647 : Int32)) % (5 : Int32)), .unset, .unset] [])) (fun t k => XS.istore X8.here hx rfl (hb hby at_101) rfl (l' := #[iv pk, iv fx, iv tx, iv sx, rv bA, iv kd, iv pl, iv ((fx &&& (2147483647 : Int32)) % (5 : Int32)), .unset, .unset]) rfl k) ?_
        generalize hia : ((fx &&& (2147483647 : Int32)) % (5 : Int32)) = ia
        have hf0 : 0 ≤ ia.toInt ∧ ia.toInt ≤ 4 := by rw [← hia]; exact own_5 fx
        refine Wk.go (A' := T8.setTop (mkF m 104 #[iv pk, iv fx, iv tx, iv sx, rv bA, iv kd, iv pl, iv ia, .unset, .unset] [(.int tx)])) (fun t k => XS.iloadN X8.here hx rfl (hb hby at_103) rfl k) ?_
        refine Wk.go (A' := T8.setTop (mkF m 106 #[iv pk, iv fx, iv tx, iv sx, rv bA, iv kd, iv pl, iv ia, .unset, .unset] [(.int (2147483647 : Int32)), (.int tx)])) (fun t k => X8.ldcInt hx hown (mvT hZ (tw1 hw)) (g := (mkF m 104 #[iv pk, iv fx, iv tx, iv sx, rv bA, iv kd, iv pl, iv ia, .unset, .unset] [(.int tx)])) rfl (hb hby at_104) t k) ?_
        refine Wk.go (A' := T8.setTop (mkF m 107 #[iv pk, iv fx, iv tx, iv sx, rv bA, iv kd, iv pl, iv ia, .unset, .unset] [(.int (tx &&& (2147483647 : Int32)))])) (fun t k => XS.iand X8.here hx rfl (hb hby at_106) rfl k) ?_
        refine Wk.go (A' := T8.setTop (mkF m 108 #[iv pk, iv fx, iv tx, iv sx, rv bA, iv kd, iv pl, iv ia, .unset, .unset] [(.int (5 : Int32)), (.int (tx &&& (2147483647 : Int32)))])) (fun t k => XS.iconst X8.here hx rfl (hb hby at_107) k) ?_
        refine Wk.go (A' := T8.setTop (mkF m 109 #[iv pk, iv fx, iv tx, iv sx, rv bA, iv kd, iv pl, iv ia, .unset, .unset] [(.int ((tx &&& (2147483647 : Int32)) % (5 : Int32)))])) (fun t k => iremM X8 hx rfl (hb hby at_108) rfl (by decide) k) ?_
        refine Wk.go (A' := T8.setTop (mkF m 111 #[iv pk, iv fx, iv tx, iv sx, rv bA, iv kd, iv pl, iv ia, iv ((tx &&& (2147483647 : Int32)) % (5 : Int32)), .unset] [])) (fun t k => XS.istore X8.here hx rfl (hb hby at_109) rfl (l' := #[iv pk, iv fx, iv tx, iv sx, rv bA, iv kd, iv pl, iv ia, iv ((tx &&& (2147483647 : Int32)) % (5 : Int32)), .unset]) rfl k) ?_
        generalize hib : ((tx &&& (2147483647 : Int32)) % (5 : Int32)) = ib
        have ht0 : 0 ≤ ib.toInt ∧ ib.toInt ≤ 4 := by rw [← hib]; exact own_5 tx
        refine Wk.go (A' := T8.setTop (mkF m 113 #[iv pk, iv fx, iv tx, iv sx, rv bA, iv kd, iv pl, iv ia, iv ib, .unset] [(.ref bA)])) (fun t k => XS.aload X8.here hx rfl (hb hby at_111) rfl rfl k) ?_
        refine Wk.go (A' := T8.setTop (mkF m 114 #[iv pk, iv fx, iv tx, iv sx, rv bA, iv kd, iv pl, iv ia, iv ib, .unset] [(.int (0 : Int32)), (.ref bA)])) (fun t k => XS.iconst X8.here hx rfl (hb hby at_113) k) ?_
        refine Wk.go (A' := T8.setTop (mkF m 116 #[iv pk, iv fx, iv tx, iv sx, rv bA, iv kd, iv pl, iv ia, iv ib, .unset] [(.int ia), (.int (0 : Int32)), (.ref bA)])) (fun t k => XS.iload X8.here hx rfl (hb hby at_114) rfl k) ?_
        refine Wk.go (A' := T8.setTop (mkF m 118 #[iv pk, iv fx, iv tx, iv sx, rv bA, iv kd, iv pl, iv ia, iv ib, .unset] [(.int ib), (.int ia), (.int (0 : Int32)), (.ref bA)])) (fun t k => XS.iload X8.here hx rfl (hb hby at_116) rfl k) ?_
        obtain ⟨_, _, ⟨T44, L44, k44, n44⟩, -, X44, ⟨Lc44, hQ44, l44, y44, z44⟩, st44⟩ := Jvm.LawKit.callS X8 hx (y := (⟨"com/example/arcwalk/arcwalk/TermSpansIsPlainPinLaw", "ok", "([BIII)Z"⟩ : MethodName)) hown (mvT hZ (tw2 hw)) (mvT hZ (tw3 hw)) (mvT hZ (tw4 hw)) (mvT hZ (tw5 hw)) (by decide) (backOf (W := 0) (rm1 l Z a0 hw [] bA (0 : Int32) ia ib fB h8 n0 Zp8 f43 (by decide)) hZ (tw5 hw) (tw4 hw) (by decide) (by decide)) (g := (mkF m 118 #[iv pk, iv fx, iv tx, iv sx, rv bA, iv kd, iv pl, iv ia, iv ib, .unset] [(.int ib), (.int ia), (.int (0 : Int32)), (.ref bA)])) rfl (by rw [hml]; rfl) (argsL := [(.ref bA), (.int (0 : Int32)), (.int ia), (.int ib)]) (rest := []) (lenOf pd_0 rfl) rfl (by show 2 * 0 + _ ≤ _; exact Nat.le_of_eq rfl) (hb hby at_118) (fun _ _ => ⟨rfl, e8, (by decide : 1 + 0 ≤ _), (by decide : 4 + 0 ≤ _)⟩)
        dsimp only [Pt.U, Pt.locs, Pt.cells, Pt.slots] at X44 l44 y44 z44 st44 hQ44
        subst l44 y44 z44
        obtain ⟨rfl, N44q, hE44⟩ := hQ44
        have N44 := Fr.app N8 N44q
        refine Wk.go (A' := T44.setTop (mkF m 121 #[iv pk, iv fx, iv tx, iv sx, rv bA, iv kd, iv pl, iv ia, iv ib, .unset] [(.int (f_ok bA (0 : Int32) ia ib fB))])) (fun t k => st44 t k) ?_
        by_cases hc121 : (f_ok bA (0 : Int32) ia ib fB) = (0 : Int32)
        · refine Wk.go (A' := T44.setTop (mkF m 167 #[iv pk, iv fx, iv tx, iv sx, rv bA, iv kd, iv pl, iv ia, iv ib, .unset] [])) (fun t k => XS.ifYes X44.here hx rfl (pc0 := 121) (pc' := 167) rfl (hb hby at_121) rfl ((if0 _ _).trans (teq hc121).1) (by decide) (by decide) k) ?_
          refine Wk.go (A' := T44.setTop (mkF m 168 #[iv pk, iv fx, iv tx, iv sx, rv bA, iv kd, iv pl, iv ia, iv ib, .unset] [(.int (0 : Int32))])) (fun t k => XS.iconst X44.here hx rfl (hb hby at_167) k) ?_
          refine Wk.go (A' := T44.setTop (mkF m 170 #[iv pk, iv fx, iv tx, iv sx, rv bA, iv kd, iv pl, iv ia, iv ib, iv (0 : Int32)] [])) (fun t k => XS.istore X44.here hx rfl (hb hby at_168) rfl (l' := #[iv pk, iv fx, iv tx, iv sx, rv bA, iv kd, iv pl, iv ia, iv ib, iv (0 : Int32)]) rfl k) ?_
          refine Wk.go (A' := T44.setTop (mkF m 172 #[iv pk, iv fx, iv tx, iv sx, rv bA, iv kd, iv pl, iv ia, iv ib, iv (0 : Int32)] [(.ref bA)])) (fun t k => XS.aload X44.here hx rfl (hb hby at_170) rfl rfl k) ?_
          refine Wk.go (A' := T44.setTop (mkF m 174 #[iv pk, iv fx, iv tx, iv sx, rv bA, iv kd, iv pl, iv ia, iv ib, iv (0 : Int32)] [(.int ia), (.ref bA)])) (fun t k => XS.iload X44.here hx rfl (hb hby at_172) rfl k) ?_
          refine Wk.go (A' := T44.setTop (mkF m 176 #[iv pk, iv fx, iv tx, iv sx, rv bA, iv kd, iv pl, iv ia, iv ib, iv (0 : Int32)] [(.int ib), (.int ia), (.ref bA)])) (fun t k => XS.iload X44.here hx rfl (hb hby at_174) rfl k) ?_
          obtain ⟨_, _, ⟨T45, L45, k45, n45⟩, -, X45, ⟨Lc45, hQ45, l45, y45, z45⟩, st45⟩ := Jvm.LawKit.callS X44 hx (y := (⟨"com/example/arcwalk/arcwalk/TermSpans", "isPlain", "([BII)Z"⟩ : MethodName)) hown (mvT hZ (tw6 hw)) (mvT hZ (tw7 hw)) (mvT hZ (tw8 hw)) (mvT hZ (tw9 hw)) (by decide) (backOf (W := 0) (rm2 l Z a0 hw [] bA ia ib fB h8 n0 Zp8 f43 hf0.1 ht0.2) hZ (tw9 hw) (tw8 hw) (by decide) (by decide)) (g := (mkF m 176 #[iv pk, iv fx, iv tx, iv sx, rv bA, iv kd, iv pl, iv ia, iv ib, iv (0 : Int32)] [(.int ib), (.int ia), (.ref bA)])) rfl (by rw [hml]; rfl) (argsL := [(.ref bA), (.int ia), (.int ib)]) (rest := []) (lenOf pd_1 rfl) rfl (by show 2 * 0 + _ ≤ _; exact Nat.le_of_eq rfl) (hb hby at_176) (fun _ _ => ⟨rfl, (hE44), (by decide : 1 + 0 ≤ _), (by decide : 4 + 0 ≤ _)⟩)
          dsimp only [Pt.U, Pt.locs, Pt.cells, Pt.slots] at X45 l45 y45 z45 st45 hQ45
          subst l45 y45 z45
          obtain ⟨r, rfl, N45q, hE45, R1⟩ := hQ45
          have N45 := Fr.app N44 N45q
          refine Wk.go (A' := T45.setTop (mkF m 179 #[iv pk, iv fx, iv tx, iv sx, rv bA, iv kd, iv pl, iv ia, iv ib, iv (0 : Int32)] [(.int r)])) (fun t k => st45 t k) ?_
          refine Wk.go (A' := T45.setTop (mkF m 181 #[iv pk, iv fx, iv tx, iv sx, rv bA, iv kd, iv pl, iv ia, iv ib, iv (0 : Int32)] [(.int (0 : Int32)), (.int r)])) (fun t k => XS.iload X45.here hx rfl (hb hby at_179) rfl k) ?_
          have hc181 : r = (0 : Int32) := own_bad _ (show 0 < 4 by decide) R1 hc121
          refine Wk.go (A' := T45.setTop (mkF m 184 #[iv pk, iv fx, iv tx, iv sx, rv bA, iv kd, iv pl, iv ia, iv ib, iv (0 : Int32)] [])) (fun t k => XS.icmpNo X45.here hx rfl (hb hby at_181) rfl (teq hc181).2 k) ?_
          refine Wk.go (A' := T45.setTop (mkF m 185 #[iv pk, iv fx, iv tx, iv sx, rv bA, iv kd, iv pl, iv ia, iv ib, iv (0 : Int32)] [(.int (1 : Int32))])) (fun t k => XS.iconst X45.here hx rfl (hb hby at_184) k) ?_
          refine Wk.go (A' := T45.setTop (mkF m 189 #[iv pk, iv fx, iv tx, iv sx, rv bA, iv kd, iv pl, iv ia, iv ib, iv (0 : Int32)] [(.int (1 : Int32))])) (fun t k => XS.goto X45.here hx rfl (pc0 := 185) (pc' := 189) rfl (hb hby at_185) (by decide) (by decide) k) ?_
          refine own_fin (Qv := Q0 Z pk fx tx sx h0 n0) (v := some (.int (1 : Int32))) X45 hlk (fun h => by rw [Bd.returns] at h; cases h) (fun fs hr => retN X45 hx (t := .boolean) Bd.returns (by simp) (hb hby at_189) hr) ?_ (by decide) (by decide)
          exact ⟨rfl, N45⟩
        · refine Wk.go (A' := T44.setTop (mkF m 124 #[iv pk, iv fx, iv tx, iv sx, rv bA, iv kd, iv pl, iv ia, iv ib, .unset] [])) (fun t k => XS.ifNo X44.here hx rfl (hb hby at_121) rfl ((if0 _ _).trans (feq hc121).1) k) ?_
          refine Wk.go (A' := T44.setTop (mkF m 126 #[iv pk, iv fx, iv tx, iv sx, rv bA, iv kd, iv pl, iv ia, iv ib, .unset] [(.ref bA)])) (fun t k => XS.aload X44.here hx rfl (hb hby at_124) rfl rfl k) ?_
          refine Wk.go (A' := T44.setTop (mkF m 127 #[iv pk, iv fx, iv tx, iv sx, rv bA, iv kd, iv pl, iv ia, iv ib, .unset] [(.int (1 : Int32)), (.ref bA)])) (fun t k => XS.iconst X44.here hx rfl (hb hby at_126) k) ?_
          refine Wk.go (A' := T44.setTop (mkF m 129 #[iv pk, iv fx, iv tx, iv sx, rv bA, iv kd, iv pl, iv ia, iv ib, .unset] [(.int ia), (.int (1 : Int32)), (.ref bA)])) (fun t k => XS.iload X44.here hx rfl (hb hby at_127) rfl k) ?_
          refine Wk.go (A' := T44.setTop (mkF m 131 #[iv pk, iv fx, iv tx, iv sx, rv bA, iv kd, iv pl, iv ia, iv ib, .unset] [(.int ib), (.int ia), (.int (1 : Int32)), (.ref bA)])) (fun t k => XS.iload X44.here hx rfl (hb hby at_129) rfl k) ?_
          obtain ⟨_, _, ⟨T46, L46, k46, n46⟩, -, X46, ⟨Lc46, hQ46, l46, y46, z46⟩, st46⟩ := Jvm.LawKit.callS X44 hx (y := (⟨"com/example/arcwalk/arcwalk/TermSpansIsPlainPinLaw", "ok", "([BIII)Z"⟩ : MethodName)) hown (mvT hZ (tw2 hw)) (mvT hZ (tw3 hw)) (mvT hZ (tw4 hw)) (mvT hZ (tw5 hw)) (by decide) (backOf (W := 0) (rm1 l Z a0 hw [] bA (1 : Int32) ia ib fB h8 n0 Zp8 f43 (by decide)) hZ (tw5 hw) (tw4 hw) (by decide) (by decide)) (g := (mkF m 131 #[iv pk, iv fx, iv tx, iv sx, rv bA, iv kd, iv pl, iv ia, iv ib, .unset] [(.int ib), (.int ia), (.int (1 : Int32)), (.ref bA)])) rfl (by rw [hml]; rfl) (argsL := [(.ref bA), (.int (1 : Int32)), (.int ia), (.int ib)]) (rest := []) (lenOf pd_0 rfl) rfl (by show 2 * 0 + _ ≤ _; exact Nat.le_of_eq rfl) (hb hby at_131) (fun _ _ => ⟨rfl, (hE44), (by decide : 1 + 0 ≤ _), (by decide : 4 + 0 ≤ _)⟩)
          dsimp only [Pt.U, Pt.locs, Pt.cells, Pt.slots] at X46 l46 y46 z46 st46 hQ46
          subst l46 y46 z46
          obtain ⟨rfl, N46q, hE46⟩ := hQ46
          have N46 := Fr.app N44 N46q
          refine Wk.go (A' := T46.setTop (mkF m 134 #[iv pk, iv fx, iv tx, iv sx, rv bA, iv kd, iv pl, iv ia, iv ib, .unset] [(.int (f_ok bA (1 : Int32) ia ib fB))])) (fun t k => st46 t k) ?_
          by_cases hc134 : (f_ok bA (1 : Int32) ia ib fB) = (0 : Int32)
          · refine Wk.go (A' := T46.setTop (mkF m 167 #[iv pk, iv fx, iv tx, iv sx, rv bA, iv kd, iv pl, iv ia, iv ib, .unset] [])) (fun t k => XS.ifYes X46.here hx rfl (pc0 := 134) (pc' := 167) rfl (hb hby at_134) rfl ((if0 _ _).trans (teq hc134).1) (by decide) (by decide) k) ?_
            refine Wk.go (A' := T46.setTop (mkF m 168 #[iv pk, iv fx, iv tx, iv sx, rv bA, iv kd, iv pl, iv ia, iv ib, .unset] [(.int (0 : Int32))])) (fun t k => XS.iconst X46.here hx rfl (hb hby at_167) k) ?_
            refine Wk.go (A' := T46.setTop (mkF m 170 #[iv pk, iv fx, iv tx, iv sx, rv bA, iv kd, iv pl, iv ia, iv ib, iv (0 : Int32)] [])) (fun t k => XS.istore X46.here hx rfl (hb hby at_168) rfl (l' := #[iv pk, iv fx, iv tx, iv sx, rv bA, iv kd, iv pl, iv ia, iv ib, iv (0 : Int32)]) rfl k) ?_
            refine Wk.go (A' := T46.setTop (mkF m 172 #[iv pk, iv fx, iv tx, iv sx, rv bA, iv kd, iv pl, iv ia, iv ib, iv (0 : Int32)] [(.ref bA)])) (fun t k => XS.aload X46.here hx rfl (hb hby at_170) rfl rfl k) ?_
            refine Wk.go (A' := T46.setTop (mkF m 174 #[iv pk, iv fx, iv tx, iv sx, rv bA, iv kd, iv pl, iv ia, iv ib, iv (0 : Int32)] [(.int ia), (.ref bA)])) (fun t k => XS.iload X46.here hx rfl (hb hby at_172) rfl k) ?_
            refine Wk.go (A' := T46.setTop (mkF m 176 #[iv pk, iv fx, iv tx, iv sx, rv bA, iv kd, iv pl, iv ia, iv ib, iv (0 : Int32)] [(.int ib), (.int ia), (.ref bA)])) (fun t k => XS.iload X46.here hx rfl (hb hby at_174) rfl k) ?_
            obtain ⟨_, _, ⟨T47, L47, k47, n47⟩, -, X47, ⟨Lc47, hQ47, l47, y47, z47⟩, st47⟩ := Jvm.LawKit.callS X46 hx (y := (⟨"com/example/arcwalk/arcwalk/TermSpans", "isPlain", "([BII)Z"⟩ : MethodName)) hown (mvT hZ (tw6 hw)) (mvT hZ (tw7 hw)) (mvT hZ (tw8 hw)) (mvT hZ (tw9 hw)) (by decide) (backOf (W := 0) (rm2 l Z a0 hw [] bA ia ib fB h8 n0 Zp8 f43 hf0.1 ht0.2) hZ (tw9 hw) (tw8 hw) (by decide) (by decide)) (g := (mkF m 176 #[iv pk, iv fx, iv tx, iv sx, rv bA, iv kd, iv pl, iv ia, iv ib, iv (0 : Int32)] [(.int ib), (.int ia), (.ref bA)])) rfl (by rw [hml]; rfl) (argsL := [(.ref bA), (.int ia), (.int ib)]) (rest := []) (lenOf pd_1 rfl) rfl (by show 2 * 0 + _ ≤ _; exact Nat.le_of_eq rfl) (hb hby at_176) (fun _ _ => ⟨rfl, (hE46), (by decide : 1 + 0 ≤ _), (by decide : 4 + 0 ≤ _)⟩)
            dsimp only [Pt.U, Pt.locs, Pt.cells, Pt.slots] at X47 l47 y47 z47 st47 hQ47
            subst l47 y47 z47
            obtain ⟨r, rfl, N47q, hE47, R1⟩ := hQ47
            have N47 := Fr.app N46 N47q
            refine Wk.go (A' := T47.setTop (mkF m 179 #[iv pk, iv fx, iv tx, iv sx, rv bA, iv kd, iv pl, iv ia, iv ib, iv (0 : Int32)] [(.int r)])) (fun t k => st47 t k) ?_
            refine Wk.go (A' := T47.setTop (mkF m 181 #[iv pk, iv fx, iv tx, iv sx, rv bA, iv kd, iv pl, iv ia, iv ib, iv (0 : Int32)] [(.int (0 : Int32)), (.int r)])) (fun t k => XS.iload X47.here hx rfl (hb hby at_179) rfl k) ?_
            have hc181 : r = (0 : Int32) := own_bad _ (show 1 < 4 by decide) R1 hc134
            refine Wk.go (A' := T47.setTop (mkF m 184 #[iv pk, iv fx, iv tx, iv sx, rv bA, iv kd, iv pl, iv ia, iv ib, iv (0 : Int32)] [])) (fun t k => XS.icmpNo X47.here hx rfl (hb hby at_181) rfl (teq hc181).2 k) ?_
            refine Wk.go (A' := T47.setTop (mkF m 185 #[iv pk, iv fx, iv tx, iv sx, rv bA, iv kd, iv pl, iv ia, iv ib, iv (0 : Int32)] [(.int (1 : Int32))])) (fun t k => XS.iconst X47.here hx rfl (hb hby at_184) k) ?_
            refine Wk.go (A' := T47.setTop (mkF m 189 #[iv pk, iv fx, iv tx, iv sx, rv bA, iv kd, iv pl, iv ia, iv ib, iv (0 : Int32)] [(.int (1 : Int32))])) (fun t k => XS.goto X47.here hx rfl (pc0 := 185) (pc' := 189) rfl (hb hby at_185) (by decide) (by decide) k) ?_
            refine own_fin (Qv := Q0 Z pk fx tx sx h0 n0) (v := some (.int (1 : Int32))) X47 hlk (fun h => by rw [Bd.returns] at h; cases h) (fun fs hr => retN X47 hx (t := .boolean) Bd.returns (by simp) (hb hby at_189) hr) ?_ (by decide) (by decide)
            exact ⟨rfl, N47⟩
          · refine Wk.go (A' := T46.setTop (mkF m 137 #[iv pk, iv fx, iv tx, iv sx, rv bA, iv kd, iv pl, iv ia, iv ib, .unset] [])) (fun t k => XS.ifNo X46.here hx rfl (hb hby at_134) rfl ((if0 _ _).trans (feq hc134).1) k) ?_
            refine Wk.go (A' := T46.setTop (mkF m 139 #[iv pk, iv fx, iv tx, iv sx, rv bA, iv kd, iv pl, iv ia, iv ib, .unset] [(.ref bA)])) (fun t k => XS.aload X46.here hx rfl (hb hby at_137) rfl rfl k) ?_
            refine Wk.go (A' := T46.setTop (mkF m 140 #[iv pk, iv fx, iv tx, iv sx, rv bA, iv kd, iv pl, iv ia, iv ib, .unset] [(.int (2 : Int32)), (.ref bA)])) (fun t k => XS.iconst X46.here hx rfl (hb hby at_139) k) ?_
            refine Wk.go (A' := T46.setTop (mkF m 142 #[iv pk, iv fx, iv tx, iv sx, rv bA, iv kd, iv pl, iv ia, iv ib, .unset] [(.int ia), (.int (2 : Int32)), (.ref bA)])) (fun t k => XS.iload X46.here hx rfl (hb hby at_140) rfl k) ?_
            refine Wk.go (A' := T46.setTop (mkF m 144 #[iv pk, iv fx, iv tx, iv sx, rv bA, iv kd, iv pl, iv ia, iv ib, .unset] [(.int ib), (.int ia), (.int (2 : Int32)), (.ref bA)])) (fun t k => XS.iload X46.here hx rfl (hb hby at_142) rfl k) ?_
            obtain ⟨_, _, ⟨T48, L48, k48, n48⟩, -, X48, ⟨Lc48, hQ48, l48, y48, z48⟩, st48⟩ := Jvm.LawKit.callS X46 hx (y := (⟨"com/example/arcwalk/arcwalk/TermSpansIsPlainPinLaw", "ok", "([BIII)Z"⟩ : MethodName)) hown (mvT hZ (tw2 hw)) (mvT hZ (tw3 hw)) (mvT hZ (tw4 hw)) (mvT hZ (tw5 hw)) (by decide) (backOf (W := 0) (rm1 l Z a0 hw [] bA (2 : Int32) ia ib fB h8 n0 Zp8 f43 (by decide)) hZ (tw5 hw) (tw4 hw) (by decide) (by decide)) (g := (mkF m 144 #[iv pk, iv fx, iv tx, iv sx, rv bA, iv kd, iv pl, iv ia, iv ib, .unset] [(.int ib), (.int ia), (.int (2 : Int32)), (.ref bA)])) rfl (by rw [hml]; rfl) (argsL := [(.ref bA), (.int (2 : Int32)), (.int ia), (.int ib)]) (rest := []) (lenOf pd_0 rfl) rfl (by show 2 * 0 + _ ≤ _; exact Nat.le_of_eq rfl) (hb hby at_144) (fun _ _ => ⟨rfl, (hE46), (by decide : 1 + 0 ≤ _), (by decide : 4 + 0 ≤ _)⟩)
            dsimp only [Pt.U, Pt.locs, Pt.cells, Pt.slots] at X48 l48 y48 z48 st48 hQ48
            subst l48 y48 z48
            obtain ⟨rfl, N48q, hE48⟩ := hQ48
            have N48 := Fr.app N46 N48q
            refine Wk.go (A' := T48.setTop (mkF m 147 #[iv pk, iv fx, iv tx, iv sx, rv bA, iv kd, iv pl, iv ia, iv ib, .unset] [(.int (f_ok bA (2 : Int32) ia ib fB))])) (fun t k => st48 t k) ?_
            by_cases hc147 : (f_ok bA (2 : Int32) ia ib fB) = (0 : Int32)
            · refine Wk.go (A' := T48.setTop (mkF m 167 #[iv pk, iv fx, iv tx, iv sx, rv bA, iv kd, iv pl, iv ia, iv ib, .unset] [])) (fun t k => XS.ifYes X48.here hx rfl (pc0 := 147) (pc' := 167) rfl (hb hby at_147) rfl ((if0 _ _).trans (teq hc147).1) (by decide) (by decide) k) ?_
              refine Wk.go (A' := T48.setTop (mkF m 168 #[iv pk, iv fx, iv tx, iv sx, rv bA, iv kd, iv pl, iv ia, iv ib, .unset] [(.int (0 : Int32))])) (fun t k => XS.iconst X48.here hx rfl (hb hby at_167) k) ?_
              refine Wk.go (A' := T48.setTop (mkF m 170 #[iv pk, iv fx, iv tx, iv sx, rv bA, iv kd, iv pl, iv ia, iv ib, iv (0 : Int32)] [])) (fun t k => XS.istore X48.here hx rfl (hb hby at_168) rfl (l' := #[iv pk, iv fx, iv tx, iv sx, rv bA, iv kd, iv pl, iv ia, iv ib, iv (0 : Int32)]) rfl k) ?_
              refine Wk.go (A' := T48.setTop (mkF m 172 #[iv pk, iv fx, iv tx, iv sx, rv bA, iv kd, iv pl, iv ia, iv ib, iv (0 : Int32)] [(.ref bA)])) (fun t k => XS.aload X48.here hx rfl (hb hby at_170) rfl rfl k) ?_
              refine Wk.go (A' := T48.setTop (mkF m 174 #[iv pk, iv fx, iv tx, iv sx, rv bA, iv kd, iv pl, iv ia, iv ib, iv (0 : Int32)] [(.int ia), (.ref bA)])) (fun t k => XS.iload X48.here hx rfl (hb hby at_172) rfl k) ?_
              refine Wk.go (A' := T48.setTop (mkF m 176 #[iv pk, iv fx, iv tx, iv sx, rv bA, iv kd, iv pl, iv ia, iv ib, iv (0 : Int32)] [(.int ib), (.int ia), (.ref bA)])) (fun t k => XS.iload X48.here hx rfl (hb hby at_174) rfl k) ?_
              obtain ⟨_, _, ⟨T49, L49, k49, n49⟩, -, X49, ⟨Lc49, hQ49, l49, y49, z49⟩, st49⟩ := Jvm.LawKit.callS X48 hx (y := (⟨"com/example/arcwalk/arcwalk/TermSpans", "isPlain", "([BII)Z"⟩ : MethodName)) hown (mvT hZ (tw6 hw)) (mvT hZ (tw7 hw)) (mvT hZ (tw8 hw)) (mvT hZ (tw9 hw)) (by decide) (backOf (W := 0) (rm2 l Z a0 hw [] bA ia ib fB h8 n0 Zp8 f43 hf0.1 ht0.2) hZ (tw9 hw) (tw8 hw) (by decide) (by decide)) (g := (mkF m 176 #[iv pk, iv fx, iv tx, iv sx, rv bA, iv kd, iv pl, iv ia, iv ib, iv (0 : Int32)] [(.int ib), (.int ia), (.ref bA)])) rfl (by rw [hml]; rfl) (argsL := [(.ref bA), (.int ia), (.int ib)]) (rest := []) (lenOf pd_1 rfl) rfl (by show 2 * 0 + _ ≤ _; exact Nat.le_of_eq rfl) (hb hby at_176) (fun _ _ => ⟨rfl, (hE48), (by decide : 1 + 0 ≤ _), (by decide : 4 + 0 ≤ _)⟩)
              dsimp only [Pt.U, Pt.locs, Pt.cells, Pt.slots] at X49 l49 y49 z49 st49 hQ49
              subst l49 y49 z49
              obtain ⟨r, rfl, N49q, hE49, R1⟩ := hQ49
              have N49 := Fr.app N48 N49q
              refine Wk.go (A' := T49.setTop (mkF m 179 #[iv pk, iv fx, iv tx, iv sx, rv bA, iv kd, iv pl, iv ia, iv ib, iv (0 : Int32)] [(.int r)])) (fun t k => st49 t k) ?_
              refine Wk.go (A' := T49.setTop (mkF m 181 #[iv pk, iv fx, iv tx, iv sx, rv bA, iv kd, iv pl, iv ia, iv ib, iv (0 : Int32)] [(.int (0 : Int32)), (.int r)])) (fun t k => XS.iload X49.here hx rfl (hb hby at_179) rfl k) ?_
              have hc181 : r = (0 : Int32) := own_bad _ (show 2 < 4 by decide) R1 hc147
              refine Wk.go (A' := T49.setTop (mkF m 184 #[iv pk, iv fx, iv tx, iv sx, rv bA, iv kd, iv pl, iv ia, iv ib, iv (0 : Int32)] [])) (fun t k => XS.icmpNo X49.here hx rfl (hb hby at_181) rfl (teq hc181).2 k) ?_
              refine Wk.go (A' := T49.setTop (mkF m 185 #[iv pk, iv fx, iv tx, iv sx, rv bA, iv kd, iv pl, iv ia, iv ib, iv (0 : Int32)] [(.int (1 : Int32))])) (fun t k => XS.iconst X49.here hx rfl (hb hby at_184) k) ?_
              refine Wk.go (A' := T49.setTop (mkF m 189 #[iv pk, iv fx, iv tx, iv sx, rv bA, iv kd, iv pl, iv ia, iv ib, iv (0 : Int32)] [(.int (1 : Int32))])) (fun t k => XS.goto X49.here hx rfl (pc0 := 185) (pc' := 189) rfl (hb hby at_185) (by decide) (by decide) k) ?_
              refine own_fin (Qv := Q0 Z pk fx tx sx h0 n0) (v := some (.int (1 : Int32))) X49 hlk (fun h => by rw [Bd.returns] at h; cases h) (fun fs hr => retN X49 hx (t := .boolean) Bd.returns (by simp) (hb hby at_189) hr) ?_ (by decide) (by decide)
              exact ⟨rfl, N49⟩
            · refine Wk.go (A' := T48.setTop (mkF m 150 #[iv pk, iv fx, iv tx, iv sx, rv bA, iv kd, iv pl, iv ia, iv ib, .unset] [])) (fun t k => XS.ifNo X48.here hx rfl (hb hby at_147) rfl ((if0 _ _).trans (feq hc147).1) k) ?_
              refine Wk.go (A' := T48.setTop (mkF m 152 #[iv pk, iv fx, iv tx, iv sx, rv bA, iv kd, iv pl, iv ia, iv ib, .unset] [(.ref bA)])) (fun t k => XS.aload X48.here hx rfl (hb hby at_150) rfl rfl k) ?_
              refine Wk.go (A' := T48.setTop (mkF m 153 #[iv pk, iv fx, iv tx, iv sx, rv bA, iv kd, iv pl, iv ia, iv ib, .unset] [(.int (3 : Int32)), (.ref bA)])) (fun t k => XS.iconst X48.here hx rfl (hb hby at_152) k) ?_
              refine Wk.go (A' := T48.setTop (mkF m 155 #[iv pk, iv fx, iv tx, iv sx, rv bA, iv kd, iv pl, iv ia, iv ib, .unset] [(.int ia), (.int (3 : Int32)), (.ref bA)])) (fun t k => XS.iload X48.here hx rfl (hb hby at_153) rfl k) ?_
              refine Wk.go (A' := T48.setTop (mkF m 157 #[iv pk, iv fx, iv tx, iv sx, rv bA, iv kd, iv pl, iv ia, iv ib, .unset] [(.int ib), (.int ia), (.int (3 : Int32)), (.ref bA)])) (fun t k => XS.iload X48.here hx rfl (hb hby at_155) rfl k) ?_
              obtain ⟨_, _, ⟨T50, L50, k50, n50⟩, -, X50, ⟨Lc50, hQ50, l50, y50, z50⟩, st50⟩ := Jvm.LawKit.callS X48 hx (y := (⟨"com/example/arcwalk/arcwalk/TermSpansIsPlainPinLaw", "ok", "([BIII)Z"⟩ : MethodName)) hown (mvT hZ (tw2 hw)) (mvT hZ (tw3 hw)) (mvT hZ (tw4 hw)) (mvT hZ (tw5 hw)) (by decide) (backOf (W := 0) (rm1 l Z a0 hw [] bA (3 : Int32) ia ib fB h8 n0 Zp8 f43 (by decide)) hZ (tw5 hw) (tw4 hw) (by decide) (by decide)) (g := (mkF m 157 #[iv pk, iv fx, iv tx, iv sx, rv bA, iv kd, iv pl, iv ia, iv ib, .unset] [(.int ib), (.int ia), (.int (3 : Int32)), (.ref bA)])) rfl (by rw [hml]; rfl) (argsL := [(.ref bA), (.int (3 : Int32)), (.int ia), (.int ib)]) (rest := []) (lenOf pd_0 rfl) rfl (by show 2 * 0 + _ ≤ _; exact Nat.le_of_eq rfl) (hb hby at_157) (fun _ _ => ⟨rfl, (hE48), (by decide : 1 + 0 ≤ _), (by decide : 4 + 0 ≤ _)⟩)
              dsimp only [Pt.U, Pt.locs, Pt.cells, Pt.slots] at X50 l50 y50 z50 st50 hQ50
              subst l50 y50 z50
              obtain ⟨rfl, N50q, hE50⟩ := hQ50
              have N50 := Fr.app N48 N50q
              refine Wk.go (A' := T50.setTop (mkF m 160 #[iv pk, iv fx, iv tx, iv sx, rv bA, iv kd, iv pl, iv ia, iv ib, .unset] [(.int (f_ok bA (3 : Int32) ia ib fB))])) (fun t k => st50 t k) ?_
              by_cases hc160 : (f_ok bA (3 : Int32) ia ib fB) = (0 : Int32)
              · refine Wk.go (A' := T50.setTop (mkF m 167 #[iv pk, iv fx, iv tx, iv sx, rv bA, iv kd, iv pl, iv ia, iv ib, .unset] [])) (fun t k => XS.ifYes X50.here hx rfl (pc0 := 160) (pc' := 167) rfl (hb hby at_160) rfl ((if0 _ _).trans (teq hc160).1) (by decide) (by decide) k) ?_
                refine Wk.go (A' := T50.setTop (mkF m 168 #[iv pk, iv fx, iv tx, iv sx, rv bA, iv kd, iv pl, iv ia, iv ib, .unset] [(.int (0 : Int32))])) (fun t k => XS.iconst X50.here hx rfl (hb hby at_167) k) ?_
                refine Wk.go (A' := T50.setTop (mkF m 170 #[iv pk, iv fx, iv tx, iv sx, rv bA, iv kd, iv pl, iv ia, iv ib, iv (0 : Int32)] [])) (fun t k => XS.istore X50.here hx rfl (hb hby at_168) rfl (l' := #[iv pk, iv fx, iv tx, iv sx, rv bA, iv kd, iv pl, iv ia, iv ib, iv (0 : Int32)]) rfl k) ?_
                refine Wk.go (A' := T50.setTop (mkF m 172 #[iv pk, iv fx, iv tx, iv sx, rv bA, iv kd, iv pl, iv ia, iv ib, iv (0 : Int32)] [(.ref bA)])) (fun t k => XS.aload X50.here hx rfl (hb hby at_170) rfl rfl k) ?_
                refine Wk.go (A' := T50.setTop (mkF m 174 #[iv pk, iv fx, iv tx, iv sx, rv bA, iv kd, iv pl, iv ia, iv ib, iv (0 : Int32)] [(.int ia), (.ref bA)])) (fun t k => XS.iload X50.here hx rfl (hb hby at_172) rfl k) ?_
                refine Wk.go (A' := T50.setTop (mkF m 176 #[iv pk, iv fx, iv tx, iv sx, rv bA, iv kd, iv pl, iv ia, iv ib, iv (0 : Int32)] [(.int ib), (.int ia), (.ref bA)])) (fun t k => XS.iload X50.here hx rfl (hb hby at_174) rfl k) ?_
                obtain ⟨_, _, ⟨T51, L51, k51, n51⟩, -, X51, ⟨Lc51, hQ51, l51, y51, z51⟩, st51⟩ := Jvm.LawKit.callS X50 hx (y := (⟨"com/example/arcwalk/arcwalk/TermSpans", "isPlain", "([BII)Z"⟩ : MethodName)) hown (mvT hZ (tw6 hw)) (mvT hZ (tw7 hw)) (mvT hZ (tw8 hw)) (mvT hZ (tw9 hw)) (by decide) (backOf (W := 0) (rm2 l Z a0 hw [] bA ia ib fB h8 n0 Zp8 f43 hf0.1 ht0.2) hZ (tw9 hw) (tw8 hw) (by decide) (by decide)) (g := (mkF m 176 #[iv pk, iv fx, iv tx, iv sx, rv bA, iv kd, iv pl, iv ia, iv ib, iv (0 : Int32)] [(.int ib), (.int ia), (.ref bA)])) rfl (by rw [hml]; rfl) (argsL := [(.ref bA), (.int ia), (.int ib)]) (rest := []) (lenOf pd_1 rfl) rfl (by show 2 * 0 + _ ≤ _; exact Nat.le_of_eq rfl) (hb hby at_176) (fun _ _ => ⟨rfl, (hE50), (by decide : 1 + 0 ≤ _), (by decide : 4 + 0 ≤ _)⟩)
                dsimp only [Pt.U, Pt.locs, Pt.cells, Pt.slots] at X51 l51 y51 z51 st51 hQ51
                subst l51 y51 z51
                obtain ⟨r, rfl, N51q, hE51, R1⟩ := hQ51
                have N51 := Fr.app N50 N51q
                refine Wk.go (A' := T51.setTop (mkF m 179 #[iv pk, iv fx, iv tx, iv sx, rv bA, iv kd, iv pl, iv ia, iv ib, iv (0 : Int32)] [(.int r)])) (fun t k => st51 t k) ?_
                refine Wk.go (A' := T51.setTop (mkF m 181 #[iv pk, iv fx, iv tx, iv sx, rv bA, iv kd, iv pl, iv ia, iv ib, iv (0 : Int32)] [(.int (0 : Int32)), (.int r)])) (fun t k => XS.iload X51.here hx rfl (hb hby at_179) rfl k) ?_
                have hc181 : r = (0 : Int32) := own_bad _ (show 3 < 4 by decide) R1 hc160
                refine Wk.go (A' := T51.setTop (mkF m 184 #[iv pk, iv fx, iv tx, iv sx, rv bA, iv kd, iv pl, iv ia, iv ib, iv (0 : Int32)] [])) (fun t k => XS.icmpNo X51.here hx rfl (hb hby at_181) rfl (teq hc181).2 k) ?_
                refine Wk.go (A' := T51.setTop (mkF m 185 #[iv pk, iv fx, iv tx, iv sx, rv bA, iv kd, iv pl, iv ia, iv ib, iv (0 : Int32)] [(.int (1 : Int32))])) (fun t k => XS.iconst X51.here hx rfl (hb hby at_184) k) ?_
                refine Wk.go (A' := T51.setTop (mkF m 189 #[iv pk, iv fx, iv tx, iv sx, rv bA, iv kd, iv pl, iv ia, iv ib, iv (0 : Int32)] [(.int (1 : Int32))])) (fun t k => XS.goto X51.here hx rfl (pc0 := 185) (pc' := 189) rfl (hb hby at_185) (by decide) (by decide) k) ?_
                refine own_fin (Qv := Q0 Z pk fx tx sx h0 n0) (v := some (.int (1 : Int32))) X51 hlk (fun h => by rw [Bd.returns] at h; cases h) (fun fs hr => retN X51 hx (t := .boolean) Bd.returns (by simp) (hb hby at_189) hr) ?_ (by decide) (by decide)
                exact ⟨rfl, N51⟩
              · refine Wk.go (A' := T50.setTop (mkF m 163 #[iv pk, iv fx, iv tx, iv sx, rv bA, iv kd, iv pl, iv ia, iv ib, .unset] [])) (fun t k => XS.ifNo X50.here hx rfl (hb hby at_160) rfl ((if0 _ _).trans (feq hc160).1) k) ?_
                refine Wk.go (A' := T50.setTop (mkF m 164 #[iv pk, iv fx, iv tx, iv sx, rv bA, iv kd, iv pl, iv ia, iv ib, .unset] [(.int (1 : Int32))])) (fun t k => XS.iconst X50.here hx rfl (hb hby at_163) k) ?_
                refine Wk.go (A' := T50.setTop (mkF m 168 #[iv pk, iv fx, iv tx, iv sx, rv bA, iv kd, iv pl, iv ia, iv ib, .unset] [(.int (1 : Int32))])) (fun t k => XS.goto X50.here hx rfl (pc0 := 164) (pc' := 168) rfl (hb hby at_164) (by decide) (by decide) k) ?_
                refine Wk.go (A' := T50.setTop (mkF m 170 #[iv pk, iv fx, iv tx, iv sx, rv bA, iv kd, iv pl, iv ia, iv ib, iv (1 : Int32)] [])) (fun t k => XS.istore X50.here hx rfl (hb hby at_168) rfl (l' := #[iv pk, iv fx, iv tx, iv sx, rv bA, iv kd, iv pl, iv ia, iv ib, iv (1 : Int32)]) rfl k) ?_
                refine Wk.go (A' := T50.setTop (mkF m 172 #[iv pk, iv fx, iv tx, iv sx, rv bA, iv kd, iv pl, iv ia, iv ib, iv (1 : Int32)] [(.ref bA)])) (fun t k => XS.aload X50.here hx rfl (hb hby at_170) rfl rfl k) ?_
                refine Wk.go (A' := T50.setTop (mkF m 174 #[iv pk, iv fx, iv tx, iv sx, rv bA, iv kd, iv pl, iv ia, iv ib, iv (1 : Int32)] [(.int ia), (.ref bA)])) (fun t k => XS.iload X50.here hx rfl (hb hby at_172) rfl k) ?_
                refine Wk.go (A' := T50.setTop (mkF m 176 #[iv pk, iv fx, iv tx, iv sx, rv bA, iv kd, iv pl, iv ia, iv ib, iv (1 : Int32)] [(.int ib), (.int ia), (.ref bA)])) (fun t k => XS.iload X50.here hx rfl (hb hby at_174) rfl k) ?_
                obtain ⟨_, _, ⟨T52, L52, k52, n52⟩, -, X52, ⟨Lc52, hQ52, l52, y52, z52⟩, st52⟩ := Jvm.LawKit.callS X50 hx (y := (⟨"com/example/arcwalk/arcwalk/TermSpans", "isPlain", "([BII)Z"⟩ : MethodName)) hown (mvT hZ (tw6 hw)) (mvT hZ (tw7 hw)) (mvT hZ (tw8 hw)) (mvT hZ (tw9 hw)) (by decide) (backOf (W := 0) (rm2 l Z a0 hw [] bA ia ib fB h8 n0 Zp8 f43 hf0.1 ht0.2) hZ (tw9 hw) (tw8 hw) (by decide) (by decide)) (g := (mkF m 176 #[iv pk, iv fx, iv tx, iv sx, rv bA, iv kd, iv pl, iv ia, iv ib, iv (1 : Int32)] [(.int ib), (.int ia), (.ref bA)])) rfl (by rw [hml]; rfl) (argsL := [(.ref bA), (.int ia), (.int ib)]) (rest := []) (lenOf pd_1 rfl) rfl (by show 2 * 0 + _ ≤ _; exact Nat.le_of_eq rfl) (hb hby at_176) (fun _ _ => ⟨rfl, (hE50), (by decide : 1 + 0 ≤ _), (by decide : 4 + 0 ≤ _)⟩)
                dsimp only [Pt.U, Pt.locs, Pt.cells, Pt.slots] at X52 l52 y52 z52 st52 hQ52
                subst l52 y52 z52
                obtain ⟨r, rfl, N52q, hE52, R1⟩ := hQ52
                have N52 := Fr.app N50 N52q
                refine Wk.go (A' := T52.setTop (mkF m 179 #[iv pk, iv fx, iv tx, iv sx, rv bA, iv kd, iv pl, iv ia, iv ib, iv (1 : Int32)] [(.int r)])) (fun t k => st52 t k) ?_
                refine Wk.go (A' := T52.setTop (mkF m 181 #[iv pk, iv fx, iv tx, iv sx, rv bA, iv kd, iv pl, iv ia, iv ib, iv (1 : Int32)] [(.int (1 : Int32)), (.int r)])) (fun t k => XS.iload X52.here hx rfl (hb hby at_179) rfl k) ?_
                have hc181 : r = (1 : Int32) := own_fine _ hf0.1 ht0.2 R1 (own_four hc121 hc134 hc147 hc160)
                refine Wk.go (A' := T52.setTop (mkF m 184 #[iv pk, iv fx, iv tx, iv sx, rv bA, iv kd, iv pl, iv ia, iv ib, iv (1 : Int32)] [])) (fun t k => XS.icmpNo X52.here hx rfl (hb hby at_181) rfl (teq hc181).2 k) ?_
                refine Wk.go (A' := T52.setTop (mkF m 185 #[iv pk, iv fx, iv tx, iv sx, rv bA, iv kd, iv pl, iv ia, iv ib, iv (1 : Int32)] [(.int (1 : Int32))])) (fun t k => XS.iconst X52.here hx rfl (hb hby at_184) k) ?_
                refine Wk.go (A' := T52.setTop (mkF m 189 #[iv pk, iv fx, iv tx, iv sx, rv bA, iv kd, iv pl, iv ia, iv ib, iv (1 : Int32)] [(.int (1 : Int32))])) (fun t k => XS.goto X52.here hx rfl (pc0 := 185) (pc' := 189) rfl (hb hby at_185) (by decide) (by decide) k) ?_
                refine own_fin (Qv := Q0 Z pk fx tx sx h0 n0) (v := some (.int (1 : Int32))) X52 hlk (fun h => by rw [Bd.returns] at h; cases h) (fun fs hr => retN X52 hx (t := .boolean) Bd.returns (by simp) (hb hby at_189) hr) ?_ (by decide) (by decide)
                exact ⟨rfl, N52⟩
set_option maxRecDepth 65536 in
set_option maxHeartbeats 40000000 in
theorem comes_1 {Post : Tables → Env → Array Value → State → Outcome → State → Prop} (hpost : ∀ tb e args s v u, (limb_1_1.after args s (.returned v) u = true ∧ limb_1_2.after args s (.returned v) u = true ∧ True) → FrameEnd s (.returned v) u (Jvm.fieldLocs frame_1_writes args s ++ Jvm.arrayLocs frame_1_arrays args s ++ Jvm.staticLocs frame_1_statics s) 16 128 → Post tb e args s (.returned v) u) :
    ArmFor flags0 classFile x code maxLocals ret World_1 tables_1 room_1 Calls_1 rest_1 Pre_1 Post := by
  intro l hfl _ _ p e ha hc hk s m args below hf hA hF happ hP
  obtain ⟨hcalls, hrest, hpre⟩ := hP
  obtain ⟨-, -, -, hnamed, -, -, -, hat⟩ := (Spec.applies_iff hf).mp happ
  obtain ⟨hg, hn⟩ := and_e (Cond.before_iff.mp (show (Jvm.Cond.and given_1 narrow_1).before args s = true from hpre))
  obtain ⟨hcnt, g0⟩ := and_e hg
  obtain ⟨ga0, g1⟩ := and_e g0
  obtain ⟨ga1, g2⟩ := and_e g1
  obtain ⟨ga2, g3⟩ := and_e g2
  obtain ⟨w0, w1, w2, w3, rfl⟩ : ∃ w0 w1 w2 w3 : Value, args = #[w0, w1, w2, w3] := by
    have hs : args.size = 4 := by simpa [Cond.value, given_1] using hcnt
    obtain ⟨L⟩ := args
    match L, hs with
    | [w0, w1, w2, w3], _ => exact ⟨w0, w1, w2, w3, rfl⟩
  have hw := fun d (hd : d ∈ tables_1) => atoms_spec (ws := Jvm.Cond.code x code maxLocals ret :: tables_1) hat d (List.mem_cons_of_mem _ hd)
  obtain ⟨i0, ei0⟩ := is_v ga0
  obtain rfl : w0 = (.int i0) := Option.some.inj ei0
  obtain ⟨i1, ei1⟩ := is_v ga1
  obtain rfl : w1 = (.int i1) := Option.some.inj ei1
  obtain ⟨i2, ei2⟩ := is_v ga2
  obtain rfl : w2 = (.int i2) := Option.some.inj ei2
  obtain ⟨i3, ei3⟩ := is_v g3
  obtain rfl : w3 = (.int i3) := Option.some.inj ei3
  obtain ⟨n, o, h1, h2, h3, _, L, rfl, ⟨rfl, N⟩, hq⟩ := rm0 l s _ hw tables_1 i0 i1 i2 i3  s.heap s.heap.size (Nat.le_refl _)  p e ha hc hk s m _ below hf ((Spec.applies_iff_loose hf).mp happ).1 ⟨rfl, State.Warmed39.refl s, rfl⟩ trivial
  refine ⟨n, _, h1, h2, h3, hpost _ _ _ _ _ _ ⟨Cond.after_iff.mpr rfl, Cond.after_iff.mpr (eq_i res_at (Term.int_eval (1)) rfl), trivial⟩ ⟨hq.1, hq.2.1, (hq.2.2.sift fun y hy => Or.inr (N y hy)).mono (by decide) (by decide)⟩⟩
theorem main_1_1 : Claimed_1_1 := comes_1 fun _ _ _ _ _ _ h hF => ⟨h.1, hF⟩
theorem main_1_2 : Claimed_1_2 := comes_1 fun _ _ _ _ _ _ h hF => ⟨h.2.1, hF⟩
end Jvm.Pilot.@@N@@
namespace Jvm.Pilot.@@N@@
open Jvm Jvm.ClassFile Sem Op Lib Jvm.Free Jvm.Stand Jvm.Pilot.@@N@@.Jvm.D
/-! MADE BY PROGRAM (witnessworld.py) out of the Statement's table words and the real class files: 9 classes; the members and pool entries that the words name. The judged class is class 1, her method 1. -/
namespace start1
open Jvm.ClassFile
def u (s : String) : CpInfo := .utf8 (stringToUtf16 s)
/-- a pool by its gaps: so many unusable entries, then the entry; so many at the end -/
def gap : Nat → List CpInfo → List CpInfo
  | 0, r => r
  | n + 1, r => .unusable :: gap n r
def poolList (es : List (Nat × CpInfo)) (last : Nat) : List CpInfo := es.foldr (fun e r => gap e.1 (e.2 :: r)) (gap last [])
def pool (es : List (Nat × CpInfo)) (last : Nat) : Array CpInfo := ⟨poolList es last⟩
def fileOf (pool : Array CpInfo) (this : Nat) (attrs : Array Attribute := #[]) (ms : Array MethodInfo := #[]) (fl : Nat := 33) (sup : Nat := 0) (ifs : Array Nat := #[]) (fds : Array FieldInfo := #[]) : ClassFile where
  minorVersion := 0
  majorVersion := 65
  constantPool := pool
  accessFlags := fl
  thisClass := this
  superClass := sup
  interfaces := ifs
  fields := fds
  methods := ms
  attributes := attrs
def plain (name : String) (sup : Option ClassId) : Class where
  name := name
  kind := .ordinary
  loader := none
  accessFlags := 33
  super := sup
  interfaces := #[]
  cf := none
  fields := #[]
  methods := #[]
  instanceTypes := #[]
  staticTypes := #[]
  resolved := #[]
  callSites := []
  init := .initialized
  statics := none
  mirror := none

def pool0 : Array CpInfo := pool [(5, u "<init>"), (0, u "()V"), (1, .class_ 10), (1, u "java/lang/Object")] 113

def k0m0 : Method := { name := "<init>", desc := "()V", sig := { parameters := [], returnType := none }, accessFlags := 1, code := none }
/-- java/lang/Object -/
def k0 : Class := { plain "java/lang/Object" none with
  accessFlags := 33
  interfaces := #[]
  cf := some (fileOf pool0 8 #[] #[{ accessFlags := 1, nameIndex := 5, descriptorIndex := 6, attributes := #[] }] 33 0 #[] #[])
  fields := #[]
  methods := #[k0m0]
  instanceTypes := #[]
  staticTypes := #[]
  resolved := Array.replicate 124 none
  statics := none }

def pool1 : Array CpInfo := pool [(2, .class_ 4), (1, u "java/lang/Object"), (0, u "<init>"), (0, u "()V"), (0, .integer 2147483647), (0, .methodref 9 10), (0, .class_ 11), (0, .nameAndType 12 13), (0, u "com/example/arcwalk/arcwalk/TermSpansIsPlainPinLaw"), (0, u "ok"), (0, u "([BIII)Z"), (0, .methodref 15 16), (0, .class_ 17), (0, .nameAndType 18 19), (0, u "com/example/arcwalk/arcwalk/TermSpans"), (0, u "isPlain"), (0, u "([BII)Z"), (2, u "law"), (0, u "(IIII)Z")] 5

def k1m0 : Method := { name := "<init>", desc := "()V", sig := { parameters := [], returnType := none }, accessFlags := 1, code := none }
def k1c1 : Code := { maxStack := 4, maxLocals := 10, code := code, exceptionTable := #[], attributes := #[] }
def k1m1 : Method := { name := "law", desc := "(IIII)Z", sig := { parameters := [.int, .int, .int, .int], returnType := some .boolean }, accessFlags := 9, code := some k1c1 }
def k1c2 : Code := { maxStack := 2, maxLocals := 5, code := method_3_code, exceptionTable := #[], attributes := #[] }
def k1m2 : Method := { name := "ok", desc := "([BIII)Z", sig := { parameters := [(.array .byte), .int, .int, .int], returnType := some .boolean }, accessFlags := 10, code := some k1c2 }
/-- com/example/arcwalk/arcwalk/TermSpansIsPlainPinLaw -/
def k1 : Class := { plain "com/example/arcwalk/arcwalk/TermSpansIsPlainPinLaw" (some 0) with
  accessFlags := 49
  interfaces := #[]
  cf := some (fileOf pool1 9 #[] #[{ accessFlags := 1, nameIndex := 5, descriptorIndex := 6, attributes := #[] }, { accessFlags := 9, nameIndex := 22, descriptorIndex := 23, attributes := #[] }, { accessFlags := 10, nameIndex := 12, descriptorIndex := 13, attributes := #[] }] 49 2 #[] #[])
  fields := #[]
  methods := #[k1m0, k1m1, k1m2]
  instanceTypes := #[]
  staticTypes := #[]
  resolved := Array.replicate 29 none
  statics := none }

def pool2 : Array CpInfo := pool [(2, .class_ 4), (1, u "java/lang/Object"), (0, u "<init>"), (0, u "()V"), (0, .class_ 8), (0, u "com/example/arcwalk/arcwalk/TermSpans$AsciiChars"), (2, .class_ 13), (1, u "com/example/arcwalk/arcwalk/TermSpans"), (0, u "chars"), (0, u "Lcom/example/arcwalk/arcwalk/TermSpans$AsciiChars;"), (2, u "hash"), (0, u "I"), (2, u "isPlain"), (0, u "([BII)Z")] 121

def k2m0 : Method := { name := "<init>", desc := "()V", sig := { parameters := [], returnType := none }, accessFlags := 0, code := none }
def k2c1 : Code := { maxStack := 3, maxLocals := 7, code := prog_83_method_20_code, exceptionTable := #[], attributes := #[] }
def k2m1 : Method := { name := "isPlain", desc := "([BII)Z", sig := { parameters := [(.array .byte), .int, .int], returnType := some .boolean }, accessFlags := 8, code := some k2c1 }
/-- com/example/arcwalk/arcwalk/TermSpans -/
def k2 : Class := { plain "com/example/arcwalk/arcwalk/TermSpans" (some 0) with
  accessFlags := 32
  interfaces := #[]
  cf := some (fileOf pool2 11 #[.nestMembers #[7]] #[{ accessFlags := 0, nameIndex := 5, descriptorIndex := 6, attributes := #[] }, { accessFlags := 8, nameIndex := 22, descriptorIndex := 23, attributes := #[] }] 32 2 #[] #[{ accessFlags := 2, nameIndex := 18, descriptorIndex := 19, attributes := #[] }, { accessFlags := 18, nameIndex := 14, descriptorIndex := 15, attributes := #[] }])
  fields := #[{ name := "hash", type := .int, accessFlags := 2, slot := 0, constantValue := 0 }, { name := "chars", type := (.object "com/example/arcwalk/arcwalk/TermSpans$AsciiChars"), accessFlags := 18, slot := 1, constantValue := 0 }]
  methods := #[k2m0, k2m1]
  instanceTypes := #[.int, (.object "com/example/arcwalk/arcwalk/TermSpans$AsciiChars")]
  staticTypes := #[]
  resolved := Array.replicate 145 none
  statics := none }

def pool3 : Array CpInfo := pool [(1, u "java/lang/Cloneable"), (0, .class_ 1), (0, u "java/lang/Object"), (0, .class_ 3)] 3

/-- java/lang/Cloneable -/
def k3 : Class := { plain "java/lang/Cloneable" (some 0) with
  accessFlags := 1537
  interfaces := #[]
  cf := some (fileOf pool3 2 #[] #[] 1537 4 #[] #[])
  fields := #[]
  methods := #[]
  instanceTypes := #[]
  staticTypes := #[]
  resolved := Array.replicate 8 none
  statics := none }

def pool4 : Array CpInfo := pool [(1, u "java/io/Serializable"), (0, .class_ 1), (0, u "java/lang/Object"), (0, .class_ 3)] 3

/-- java/io/Serializable -/
def k4 : Class := { plain "java/io/Serializable" (some 0) with
  accessFlags := 1537
  interfaces := #[]
  cf := some (fileOf pool4 2 #[] #[] 1537 4 #[] #[])
  fields := #[]
  methods := #[]
  instanceTypes := #[]
  staticTypes := #[]
  resolved := Array.replicate 8 none
  statics := none }

/-- the primitive byte -/
def k5 : Class := { plain "byte" none with kind := .primitive 'B', accessFlags := 0x411 }
/-- [B -/
def k6 : Class := { plain "[B" (some 0) with kind := .array 5 .byte, interfaces := #[3, 4], accessFlags := 1041 }

/-- the primitive int -/
def k7 : Class := { plain "int" none with kind := .primitive 'I', accessFlags := 0x411 }
/-- [I -/
def k8 : Class := { plain "[I" (some 0) with kind := .array 7 .int, interfaces := #[3, 4], accessFlags := 1041 }

def heap : Heap := #[]
def classes : Array Class := #[k0, k1, k2, k3, k4, k5, k6, k7, k8]
def interned : List (Array UInt16 × Addr) := []
def slotsUsed : Nat := 0
def theMethod : MethodId := ⟨1, 1⟩
def args0 : Array Value := #[.int 5, .int 7, .int 8, .int 5]
def aboutOver (below : List Frame) : State where
  vm := { classes := classes, interned := interned.toArray }
  heap := heap
  slotsUsed := slotsUsed
  threads := #[{ frames := .invoking theMethod args0 :: below }]
def below0 : List Frame := [.native { method := ⟨0, 0⟩, args := #[] }]
def about1 : State := aboutOver below0
def p0 : Program := .bare "" "" ""
def e0 : Env := launch0.env 0 0 0
theorem w_frames : about1.frames = Frame.invoking theMethod args0 :: below0 := rfl
set_option maxRecDepth 65536 in
theorem w_args : argsFit about1.vm theMethod args0 = true := by decide +kernel
set_option maxRecDepth 65536 in
theorem w_heap : heapFits about1 = true := by decide +kernel
set_option maxRecDepth 65536 in
theorem w_runnable : about1.curStatus? = some .runnable := by decide +kernel
set_option maxRecDepth 65536 in
theorem w_alone : about1.alone = true := by decide +kernel
set_option maxRecDepth 65536 in
theorem w_named : about1.methodNamed? x = some theMethod := by decide +kernel
set_option maxRecDepth 65536 in
theorem w_hears : about1.hears theMethod below0 = true := by decide +kernel
set_option maxRecDepth 65536 in
theorem w_ripe : about1.ripe theMethod args0 below0 = true := by decide +kernel
theorem w_running : about1.status = .running := rfl
set_option maxRecDepth 65536 in
theorem w_room : about1.hasRoom e0.platform room_1 = true :=
  launch0.hasRoom_least _ room_1 (by decide +kernel) (by decide +kernel) (by decide +kernel) (by decide +kernel) (by decide +kernel) (by decide +kernel)
theorem allAtoms_all (ts : List Jvm.Cond) (a : Array Jvm.Value) (st : Jvm.State) : (allAtoms ts).before a st = ts.all (fun c => c.before a st) := by
  induction ts with
  | nil => rfl
  | cons c t ih =>
    show (Jvm.Cond.and c (allAtoms t)).before a st = _
    rw [Jvm.Cond.before_and, ih, List.all_cons]
def words1 : List Jvm.Cond := Jvm.Cond.code x code maxLocals ret :: tables_1
/-- a 'code' word, met by the world's own term for the bytes: nothing is compared byte by byte -/
theorem code_word {y : MethodName} {bytes : ByteArray} {mx : Nat} {rt : Option FieldType} {a : Array Value} {s : State} {m : MethodId} {meth : Method} {c : Code} (h1 : s.methodNamed? y = some m) (h2 : s.vm.method? m = some meth) (h3 : meth.code = some c) (h4 : c.code = bytes)
    (h5 : (c.maxLocals == mx && c.exceptionTable.isEmpty && decide (c.maxStack ≤ mostOperands) && decide (meth.sig.returnType = rt) && !meth.locks && decide (parseMethodDescriptor y.desc = some meth.sig)) = true) : (Jvm.Cond.code y bytes mx rt).before a s = true := by
  simp only [Bool.and_eq_true, beq_iff_eq, Bool.not_eq_true', decide_eq_true_eq] at h5
  obtain ⟨⟨⟨⟨⟨g1, g2⟩, g3⟩, g4⟩, g5⟩, g6⟩ := h5
  simp [Cond.before, Cond.holds, Cond.value, h1, h2, h3, h4, g1, g2, g3, g4, g5, g6]
def isCode : Jvm.Cond → Bool
  | .code _ _ _ _ => true
  | _ => false
theorem all_split {L : List Jvm.Cond} {P : Jvm.Cond → Bool} (h1 : L.all (fun c => isCode c || P c) = true) (h2 : ∀ c ∈ L.filter isCode, P c = true) : L.all P = true := by
  refine List.all_eq_true.mpr fun c hc => ?_
  have h := List.all_eq_true.mp h1 c hc
  rcases Bool.eq_false_or_eq_true (isCode c) with hi | hi
  · exact h2 c (List.mem_filter.mpr ⟨hc, hi⟩)
  · simpa [hi] using h
set_option maxRecDepth 65536 in
theorem w_c0 : (Jvm.Cond.code x code maxLocals ret).before args0 about1 = true := code_word (m := ⟨1, 1⟩) (meth := k1m1) (c := k1c1) (by decide +kernel) rfl rfl rfl (by decide +kernel)
set_option maxRecDepth 65536 in
theorem w_c1 : (Jvm.Cond.code ({ cls := "com/example/arcwalk/arcwalk/TermSpansIsPlainPinLaw", name := "ok", desc := "([BIII)Z" } : Jvm.MethodName) method_3_code (5 : Nat) (Option.some Jvm.ClassFile.FieldType.boolean)).before args0 about1 = true := code_word (m := ⟨1, 2⟩) (meth := k1m2) (c := k1c2) (by decide +kernel) rfl rfl rfl (by decide +kernel)
set_option maxRecDepth 65536 in
theorem w_c2 : (Jvm.Cond.code ({ cls := "com/example/arcwalk/arcwalk/TermSpans", name := "isPlain", desc := "([BII)Z" } : Jvm.MethodName) prog_83_method_20_code (7 : Nat) (Option.some Jvm.ClassFile.FieldType.boolean)).before args0 about1 = true := code_word (m := ⟨2, 1⟩) (meth := k2m1) (c := k2c1) (by decide +kernel) rfl rfl rfl (by decide +kernel)
def codes1 : List Jvm.Cond := [Jvm.Cond.code x code maxLocals ret, Jvm.Cond.code ({ cls := "com/example/arcwalk/arcwalk/TermSpansIsPlainPinLaw", name := "ok", desc := "([BIII)Z" } : Jvm.MethodName) method_3_code (5 : Nat) (Option.some Jvm.ClassFile.FieldType.boolean), Jvm.Cond.code ({ cls := "com/example/arcwalk/arcwalk/TermSpans", name := "isPlain", desc := "([BII)Z" } : Jvm.MethodName) prog_83_method_20_code (7 : Nat) (Option.some Jvm.ClassFile.FieldType.boolean)]
set_option maxRecDepth 65536 in
theorem codes_eq : words1.filter isCode = codes1 := rfl
theorem w_codes : ∀ c ∈ words1.filter isCode, c.before args0 about1 = true := by
  rw [codes_eq]
  intro c hc
  simp only [codes1, List.mem_cons, List.not_mem_nil, or_false] at hc
  rcases hc with rfl | rfl | rfl
  · exact w_c0
  · exact w_c1
  · exact w_c2
set_option maxRecDepth 65536 in
theorem w_t1 : words1.all (fun c => isCode c || c.before args0 about1) = true := by decide +kernel
theorem w_tables : (allAtoms (Jvm.Cond.code x code maxLocals ret :: tables_1)).before args0 about1 = true := by
  rw [allAtoms_all]
  show words1.all (fun c => c.before args0 about1) = true
  refine all_split ?_ w_codes
  rw [w_t1]
set_option maxRecDepth 65536 in
theorem w_case : (Jvm.Cond.and given_1 narrow_1).before args0 about1 = true := by decide +kernel
theorem w_applies : (headSpec (Jvm.Cond.code x code maxLocals ret :: tables_1) room_1).applies x e0.platform about1 = true :=
  (Spec.applies_iff w_frames).mpr ⟨w_running, w_runnable, w_alone, w_named, w_hears, w_ripe, w_room, w_tables⟩
theorem atStart : AtStart classFile x code maxLocals ret World_1 tables_1 room_1 Calls_1 rest_1 Pre_1 launch0 p0 e0 about1 theMethod args0 below0 :=
  ⟨lists_1, trivial, launch0.admits_env _ _ _, launch0.least_env, fairChoices_fair.cas, fairChoices_fair.clock, w_frames, w_args, w_heap, w_applies, trivial, trivial, w_case⟩
end start1
theorem witness_1 : WitnessClaimed_1 := ⟨start1.p0, start1.e0, start1.about1, start1.theMethod, start1.args0, start1.below0, start1.atStart⟩
end Jvm.Pilot.@@N@@
