import JvmDerived
import JvmDerived.Pilot.@@N@@Statement
import JvmDerived.Pilot.@@N@@Code
set_option linter.unusedVariables false
set_option linter.unusedSimpArgs false
namespace Jvm.RoadKit
open Sem ClassFile Op Lib Jvm.Stand Jvm.Free Jvm.LawKit
section New
variable {p : Program} {l : Launch} {e : Env} {R : Room} {s : State} {m : MethodId} {args : Array Value} {below : List Frame} {meth : Method} {c : Code} {T : State} {locs : List Loc} {cells slots : Nat}
theorem retI (X : Stand p l e R s m args below meth c T locs cells slots) (hx : p.tables.exec = Jvm.exec) {pc : Nat} {Ls : Array Slot} {z : Int32} {rest : List Value} (hret : meth.sig.returnType = some .int) (hd : decode c.code pc = .ok (.ireturn, 1)) {fs : List Frame}
    (hl : ∀ (f : JFrame) (acts : List Action), f.method = m → f.locked = none → f.entered = [] → (doReturn e (T.setTop f) acts (some (.int z))).1 = T.setFrames fs) : Steps p.tables e below (T.setTop (mkF m pc Ls (.int z :: rest))) (T.setFrames fs) := by
  have hm' : T.vm.method? m = some meth := X.method'
  have hn : narrow .int (.int z) = .int z := rfl
  show Steps p.tables e below (T.setTop { method := m, pc := pc, locals := Ls, stack := _ :: rest, locked := none }) _
  jvm_step X.here [X.here.top, hx, hd, hm', hret, hn]
  first | (intro acts; rw [hl _ acts rfl rfl rfl]) | rw [hl _ _ rfl rfl rfl]
  exact Steps.refl _
abbrev jv (x : Int64) : Slot := .val (.long x)
/-- from A the run goes on to an end of which R holds -/
def Wk (tb : Tables) (e : Env) (below : List Frame) (A : State) (R : State → Outcome → Prop) : Prop := ∃ U o, Steps tb e below A U ∧ R U o
theorem Wk.go {tb : Tables} {A A' : State} {R : State → Outcome → Prop} (h : ∀ t, Steps tb e below A' t → Steps tb e below A t) (k : Wk tb e below A' R) : Wk tb e below A R := by
  obtain ⟨U, o, k1, k2⟩ := k
  exact ⟨U, o, h _ k1, k2⟩
/-- the two ways from A to A' meet there -/
theorem own_fin (X : Stand p l e R s m args below meth c T locs cells slots) {Qv : Option Value → Heap → List Loc → Prop} {v : Option Value} {g : JFrame} {C S : Nat} (hlocks : meth.locks = false) (hv : meth.sig.returnType = none → v = none)
    (hst : ∀ fs, (∀ (f : JFrame) (acts : List Action), f.method = m → f.locked = none → f.entered = [] → (doReturn e (T.setTop f) acts v).1 = T.setFrames fs) → Steps p.tables e below (T.setTop g) (T.setFrames fs))
    (hQ : Qv v T.heap locs) (hc : cells ≤ C) (hs : slots ≤ S) :
    Wk p.tables e below (T.setTop g) (fun U o => U.status = .running ∧ Ended U below o ∧ ∃ v L, o = .returned v ∧ Qv v U.heap L ∧ FrameEnd s o U L C S) := by
  obtain ⟨fs, hr, hrun, hended, hW, hsame⟩ := X.leave (v := v) hv hlocks
  exact ⟨_, _, hst fs hr, hrun, hended, _, _, rfl, hQ, ⟨_, rfl⟩, hW, hsame.mono hc hs⟩
end New
end Jvm.RoadKit
namespace Jvm.Pilot.@@N@@
open Jvm Jvm.ClassFile Sem Op Lib Jvm.Free Jvm.Stand Jvm.LawKit Jvm.RoadKit Bundle Jvm.Pilot.@@N@@.Jvm.D
/-- a place overwritten -/
def own_upd (f : Nat → Int32) (i : Nat) (y : Int32) : Nat → Int32 := fun j => if j = i then y else f j
theorem own_upd_eq (f : Nat → Int32) (i : Nat) (y : Int32) : own_upd f i y i = y := if_pos rfl
theorem own_upd_ne (f : Nat → Int32) {i j : Nat} (y : Int32) (h : j ≠ i) : own_upd f i y j = f j := if_neg h
/-- the byte[] at a has n places; place j holds f j -/
def BA (Z : State) (h : Heap) (a : Addr) (n : Nat) (f : Nat → Int32) : Prop := ∃ c : Cell, Arr Z h a c .byte ∧ c.slots.size = n ∧ ∀ j, j < n → c.slots[j]? = some (.int (f j))
section Bytes
variable {p : Program} {l : Launch} {e : Env} {R : Room} {s : State} {m : MethodId} {args : Array Value} {below : List Frame} {meth : Method} {c : Code} {T : State} {locs : List Loc} {cells slots : Nat} {Z : State} {h h' : Heap} {a b : Addr} {n : Nat} {f : Nat → Int32} {ws : List Addr} {sl : Nat} {v : Value}
theorem BA.new {k : ClassId} {z : Int32} (A : Arr Z h a (newA k .byte z) .byte) : BA Z h a z.toNatClampNeg (fun _ => 0) := ⟨_, A, sz_new _ _ _, fun j hj => by simp [newA, hj]; rfl⟩
theorem BA.lt (F : BA Z h a n f) : a < h.size := by obtain ⟨c, A, -⟩ := F; exact A.lt
theorem BA.ext (F : BA Z h a n f) (E : Ext h h') : BA Z h' a n f := by obtain ⟨c, A, r⟩ := F; exact ⟨c, A.ext E, r⟩
theorem BA.other (F : BA Z h b n f) (W : Wr h h' a sl v) (q : b ≠ a) : BA Z h' b n f := by obtain ⟨c, A, r⟩ := F; exact ⟨c, A.other W q, r⟩
theorem BA.keep (F : BA Z h a n f) (K : Keep h h' ws) (q : a ∉ ws) : BA Z h' a n f := by obtain ⟨c, A, r⟩ := F; exact ⟨c, ⟨K.2.1 a c A.1 q, A.2⟩, r⟩
theorem own_clamp {j : Int32} (h0 : 0 ≤ j.toInt) : (j.toNatClampNeg : Int) = j.toInt := by
  have q : ¬ j < 0 := by
    rw [Int32.lt_iff_toInt_lt]
    have e : (0 : Int32).toInt = 0 := by decide
    omega
  exact (nat_of q).symm
theorem own_inb {cl : Cell} {j : Int32} (S : cl.slots.size = n) (hj : 0 ≤ j.toInt ∧ j.toInt < n) : ¬ (j < 0 ∨ cl.slots.size ≤ j.toNatClampNeg) := by
  have e0 : (0 : Int32).toInt = 0 := by decide
  have := own_clamp hj.1
  rw [Int32.lt_iff_toInt_lt]; omega
theorem own_stB (X : Stand p l e R s m args below meth c T locs cells slots) (hx : p.tables.exec = Jvm.exec) (hZ : Z.Warmed39 s.vm) (eT : T.heap = h) (F : BA Z h a n f) {j x : Int32} (hj : 0 ≤ j.toInt ∧ j.toInt < n) {g : JFrame} (hg : g.method = m) {rest : List Value} (hs : g.stack = .int x :: .int j :: .ref a :: rest) (hd : decode c.code g.pc = .ok (.bastore, 1)) :
    ∃ T' h', Stand p l e R s m args below meth c T' (locs ++ [⟨a, j.toNatClampNeg⟩]) cells slots ∧ T'.heap = h' ∧ Wr h h' a j.toNatClampNeg (.int (nar .byte x)) ∧ BA Z h' a n (own_upd f j.toNatClampNeg x.toInt8.toInt32) ∧ ∀ target, Steps p.tables e below (T'.setTop { g with pc := g.pc + 1, stack := rest }) target → Steps p.tables e below (T.setTop g) target := by
  obtain ⟨cl, A, S, H⟩ := F
  have hin := own_inb S hj
  obtain ⟨T', h', X', e', W, st⟩ := stB X hx hZ eT A (j := j) (x := x) hin hg hs hd
  refine ⟨T', h', X', e', W, ⟨cl.setSlot j.toNatClampNeg (.int (nar .byte x)), A.same W, by rw [sz_set]; exact S, fun i hi => ?_⟩, st⟩
  by_cases q : i = j.toNatClampNeg
  · subst q
    rw [own_upd_eq]
    exact get_hit (k := j) hin rfl
  · rw [own_upd_ne _ _ q, ← H i hi]
    show (cl.slots.setIfInBounds j.toNatClampNeg _)[i]? = _
    rw [Array.getElem?_setIfInBounds_ne (Ne.symm q)]
theorem own_ldB (X : Stand p l e R s m args below meth c T locs cells slots) (hx : p.tables.exec = Jvm.exec) (hZ : Z.Warmed39 s.vm) (eT : T.heap = h) (F : BA Z h a n f) {j : Int32} (hj : 0 ≤ j.toInt ∧ j.toInt < n) {g : JFrame} (hg : g.method = m) {rest : List Value} (hs : g.stack = .int j :: .ref a :: rest) (hd : decode c.code g.pc = .ok (.baload, 1)) :
    ∀ target, Steps p.tables e below (T.setTop { g with pc := g.pc + 1, stack := .int (f j.toNatClampNeg) :: rest }) target → Steps p.tables e below (T.setTop g) target := by
  obtain ⟨cl, A, S, H⟩ := F
  have hc := own_clamp hj.1
  intro target k
  exact X.baloadBytes hx (j := j) (v := .int (f j.toNatClampNeg)) (by rw [eT]; exact A.1) (State.isArrayOf_alike hZ.alike A.2.1) A.2.2 (own_inb S hj) (H _ (by omega)) hg hs hd target k
end Bytes
theorem d1_0 : decode method_2_code 0 = .ok (.iload_n 0, 1) := by decide +kernel
theorem d1_1 : decode method_2_code 1 = .ok (.iconst 3, 1) := by decide +kernel
theorem d1_2 : decode method_2_code 2 = .ok (.iand, 1) := by decide +kernel
theorem d1_3 : decode method_2_code 3 = .ok (.istore_n 1, 1) := by decide +kernel
theorem d1_4 : decode method_2_code 4 = .ok (.iload_n 1, 1) := by decide +kernel
theorem d1_5 : decode method_2_code 5 = .ok (.ifCond .ne 6, 3) := by decide +kernel
theorem d1_8 : decode method_2_code 8 = .ok (.bipush 32, 2) := by decide +kernel
theorem d1_10 : decode method_2_code 10 = .ok (.ireturn, 1) := by decide +kernel
theorem d1_11 : decode method_2_code 11 = .ok (.iload_n 1, 1) := by decide +kernel
theorem d1_12 : decode method_2_code 12 = .ok (.iconst 1, 1) := by decide +kernel
theorem d1_13 : decode method_2_code 13 = .ok (.if_icmp .ne 6, 3) := by decide +kernel
theorem d1_16 : decode method_2_code 16 = .ok (.bipush 9, 2) := by decide +kernel
theorem d1_18 : decode method_2_code 18 = .ok (.ireturn, 1) := by decide +kernel
theorem d1_19 : decode method_2_code 19 = .ok (.iload_n 0, 1) := by decide +kernel
theorem d1_20 : decode method_2_code 20 = .ok (.iconst 2, 1) := by decide +kernel
theorem d1_21 : decode method_2_code 21 = .ok (.ishr, 1) := by decide +kernel
theorem d1_22 : decode method_2_code 22 = .ok (.i2b, 1) := by decide +kernel
theorem d1_23 : decode method_2_code 23 = .ok (.ireturn, 1) := by decide +kernel
theorem pn_0 : plainName "com/example/arcwalk/arcwalk/TermSpansSpaceEndPinLaw" = true := by first | (simp [plainName, overriddenIn]; done) | decide +kernel
theorem ef_1 (m : MethodId) (x0 : Int32) : entryFrame m #[(.int x0)] 2 = mkF m 0 #[iv x0, .unset] [] := by first | (simp [entryFrame, mkF, argsToLocals, Value.category]; done) | rfl
def f_byte (pq : Int32)  : Int32 := (if (pq &&& (3 : Int32)) = (0 : Int32) then (nar .byte (32 : Int32)) else (if (pq &&& (3 : Int32)) = (1 : Int32) then (nar .byte (9 : Int32)) else (nar .byte ((pq >>> ((2 : Int32) &&& 31)).toInt8.toInt32))))
def Q1 (Z : State) (pq : Int32)  (h0 : Heap) (n0 : Nat) (v : Option Value) (h : Heap) (L : List Loc) : Prop := v = some (.int (f_byte pq)) ∧ Fr n0 L ∧ h = h0
set_option maxRecDepth 65536 in
set_option maxHeartbeats 40000000 in
theorem rm1 (l : Launch) (Z : State) (a0 : Array Value) (hw : ∀ d ∈ tables_1, d.before a0 Z = true) (ws : List Jvm.Cond) (pq : Int32)  (h0 : Heap) (n0 : Nat) (Z0 : n0 ≤ h0.size)  :
    MetFree l (⟨"com/example/arcwalk/arcwalk/TermSpansSpaceEndPinLaw", "byteOf", "(I)B"⟩ : MethodName) (head1 (Jvm.Cond.code (⟨"com/example/arcwalk/arcwalk/TermSpansSpaceEndPinLaw", "byteOf", "(I)B"⟩ : MethodName) method_2_code 2 (some .byte) :: ws) ({ frames := 0, cells := 0, slots := 0, locals := 0 } : Room)) (fun a U => a = #[(.int pq)] ∧ Z.Warmed39 U.vm ∧ U.heap = h0) (fun _ _ _ _ _ => True) (fun _ U o U' => ∃ v L, o = .returned v ∧ Q1 Z pq h0 n0 v U'.heap L ∧ FrameEnd U o U' L ({ frames := 0, cells := 0, slots := 0, locals := 0 } : Room).cells ({ frames := 0, cells := 0, slots := 0, locals := 0 } : Room).slots) := by
  refine MetFree.of_bodySF (plainFor_of_name pn_0) hisR ?_
  intro p e s m args below meth c s₁ Bd hml0 hP hK
  obtain ⟨rfl, hZ, hh⟩ := hP
  have hx := Bd.exec
  have hby := Bd.bytes
  have hml : c.maxLocals = 2 := hml0
  have hown : s.vm.findClass "com/example/arcwalk/arcwalk/TermSpansSpaceEndPinLaw" = some m.cls := findClass_of_methodNamed Bd.named
  have hnm := (name_of_methodNamed Bd.named Bd.method).1
  have X0 : Stand p l e ({ frames := 0, cells := 0, slots := 0, locals := 0 } : Room) s m #[(.int pq)] below meth c s₁ [] 0 0 := Stand.of_body Bd
  have e0 : s₁.heap = h0 := by rw [← hh, Bd.state]; rfl
  have N0 := Fr.nil n0
  have hlk : meth.locks = false := BodyLoose.notSynchronized Bd
  suffices hwk : Wk p.tables e below (s₁.setTop (mkF m 0 #[iv pq, .unset] [])) (fun U o => U.status = .running ∧ Ended U below o ∧ ∃ v L, o = .returned v ∧ Q1 Z pq h0 n0 v U.heap L ∧ FrameEnd s o U L 0 0) by
    obtain ⟨U, o, k1, k2⟩ := hwk
    exact ⟨U, o, castTop (ef_1 m pq) k1, k2⟩
  refine Wk.go (A' := s₁.setTop (mkF m 1 #[iv pq, .unset] [(.int pq)])) (fun t k => XS.iloadN X0.here hx rfl (hb hby d1_0) rfl k) ?_
  refine Wk.go (A' := s₁.setTop (mkF m 2 #[iv pq, .unset] [(.int (3 : Int32)), (.int pq)])) (fun t k => XS.iconst X0.here hx rfl (hb hby d1_1) k) ?_
  refine Wk.go (A' := s₁.setTop (mkF m 3 #[iv pq, .unset] [(.int (pq &&& (3 : Int32)))])) (fun t k => XS.iand X0.here hx rfl (hb hby d1_2) rfl k) ?_
  refine Wk.go (A' := s₁.setTop (mkF m 4 #[iv pq, iv (pq &&& (3 : Int32))] [])) (fun t k => XS.istoreN X0.here hx rfl (hb hby d1_3) rfl (l' := #[iv pq, iv (pq &&& (3 : Int32))]) rfl k) ?_
  refine Wk.go (A' := s₁.setTop (mkF m 5 #[iv pq, iv (pq &&& (3 : Int32))] [(.int (pq &&& (3 : Int32)))])) (fun t k => XS.iloadN X0.here hx rfl (hb hby d1_4) rfl k) ?_
  by_cases hc5 : (pq &&& (3 : Int32)) = (0 : Int32)
  · refine Wk.go (A' := s₁.setTop (mkF m 8 #[iv pq, iv (pq &&& (3 : Int32))] [])) (fun t k => XS.ifNo X0.here hx rfl (hb hby d1_5) rfl ((if0 _ _).trans (teq hc5).2) k) ?_
    refine Wk.go (A' := s₁.setTop (mkF m 10 #[iv pq, iv (pq &&& (3 : Int32))] [(.int (32 : Int32))])) (fun t k => XS.bipush X0.here hx rfl (hb hby d1_8) k) ?_
    refine own_fin (Qv := Q1 Z pq h0 n0) (v := some (.int (nar .byte (32 : Int32)))) X0 hlk (fun h => by rw [Bd.returns] at h; cases h) (fun fs hr => retN X0 hx (t := .byte) Bd.returns (by simp) (hb hby d1_10) hr) ?_ (by decide) (by decide)
    refine ⟨?_, N0, e0⟩
    simp only [f_byte, if_pos hc5]
  · refine Wk.go (A' := s₁.setTop (mkF m 11 #[iv pq, iv (pq &&& (3 : Int32))] [])) (fun t k => XS.ifYes X0.here hx rfl (pc0 := 5) (pc' := 11) rfl (hb hby d1_5) rfl ((if0 _ _).trans (feq hc5).2) (by decide) (by decide) k) ?_
    refine Wk.go (A' := s₁.setTop (mkF m 12 #[iv pq, iv (pq &&& (3 : Int32))] [(.int (pq &&& (3 : Int32)))])) (fun t k => XS.iloadN X0.here hx rfl (hb hby d1_11) rfl k) ?_
    refine Wk.go (A' := s₁.setTop (mkF m 13 #[iv pq, iv (pq &&& (3 : Int32))] [(.int (1 : Int32)), (.int (pq &&& (3 : Int32)))])) (fun t k => XS.iconst X0.here hx rfl (hb hby d1_12) k) ?_
    by_cases hc13 : (pq &&& (3 : Int32)) = (1 : Int32)
    · refine Wk.go (A' := s₁.setTop (mkF m 16 #[iv pq, iv (pq &&& (3 : Int32))] [])) (fun t k => XS.icmpNo X0.here hx rfl (hb hby d1_13) rfl (teq hc13).2 k) ?_
      refine Wk.go (A' := s₁.setTop (mkF m 18 #[iv pq, iv (pq &&& (3 : Int32))] [(.int (9 : Int32))])) (fun t k => XS.bipush X0.here hx rfl (hb hby d1_16) k) ?_
      refine own_fin (Qv := Q1 Z pq h0 n0) (v := some (.int (nar .byte (9 : Int32)))) X0 hlk (fun h => by rw [Bd.returns] at h; cases h) (fun fs hr => retN X0 hx (t := .byte) Bd.returns (by simp) (hb hby d1_18) hr) ?_ (by decide) (by decide)
      refine ⟨?_, N0, e0⟩
      simp only [f_byte, if_neg hc5, if_pos hc13]
    · refine Wk.go (A' := s₁.setTop (mkF m 19 #[iv pq, iv (pq &&& (3 : Int32))] [])) (fun t k => XS.icmpYes X0.here hx rfl (pc0 := 13) (pc' := 19) rfl (hb hby d1_13) rfl (feq hc13).2 (by decide) (by decide) k) ?_
      refine Wk.go (A' := s₁.setTop (mkF m 20 #[iv pq, iv (pq &&& (3 : Int32))] [(.int pq)])) (fun t k => XS.iloadN X0.here hx rfl (hb hby d1_19) rfl k) ?_
      refine Wk.go (A' := s₁.setTop (mkF m 21 #[iv pq, iv (pq &&& (3 : Int32))] [(.int (2 : Int32)), (.int pq)])) (fun t k => XS.iconst X0.here hx rfl (hb hby d1_20) k) ?_
      refine Wk.go (A' := s₁.setTop (mkF m 22 #[iv pq, iv (pq &&& (3 : Int32))] [(.int (pq >>> ((2 : Int32) &&& 31)))])) (fun t k => XS.ishr X0.here hx rfl (hb hby d1_21) rfl k) ?_
      refine Wk.go (A' := s₁.setTop (mkF m 23 #[iv pq, iv (pq &&& (3 : Int32))] [(.int ((pq >>> ((2 : Int32) &&& 31)).toInt8.toInt32))])) (fun t k => XS.i2b X0.here hx rfl (hb hby d1_22) rfl k) ?_
      refine own_fin (Qv := Q1 Z pq h0 n0) (v := some (.int (nar .byte ((pq >>> ((2 : Int32) &&& 31)).toInt8.toInt32)))) X0 hlk (fun h => by rw [Bd.returns] at h; cases h) (fun fs hr => retN X0 hx (t := .byte) Bd.returns (by simp) (hb hby d1_23) hr) ?_ (by decide) (by decide)
      refine ⟨?_, N0, e0⟩
      simp only [f_byte, if_neg hc5, if_neg hc13]
theorem d4_0 : decode method_3_code 0 = .ok (.iload_n 0, 1) := by decide +kernel
theorem d4_1 : decode method_3_code 1 = .ok (.bipush 32, 2) := by decide +kernel
theorem d4_3 : decode method_3_code 3 = .ok (.if_icmp .eq 9, 3) := by decide +kernel
theorem d4_12 : decode method_3_code 12 = .ok (.iconst 1, 1) := by decide +kernel
theorem d4_13 : decode method_3_code 13 = .ok (.goto 4, 3) := by decide +kernel
theorem d4_17 : decode method_3_code 17 = .ok (.ireturn, 1) := by decide +kernel
theorem d4_6 : decode method_3_code 6 = .ok (.iload_n 0, 1) := by decide +kernel
theorem d4_7 : decode method_3_code 7 = .ok (.bipush 9, 2) := by decide +kernel
theorem d4_9 : decode method_3_code 9 = .ok (.if_icmp .ne 7, 3) := by decide +kernel
theorem d4_16 : decode method_3_code 16 = .ok (.iconst 0, 1) := by decide +kernel
theorem ef_4 (m : MethodId) (x0 : Int32) : entryFrame m #[(.int x0)] 1 = mkF m 0 #[iv x0] [] := by first | (simp [entryFrame, mkF, argsToLocals, Value.category]; done) | rfl
def f_sp (bx : Int32)  : Int32 := (if bx = (32 : Int32) then (1 : Int32) else (if bx = (9 : Int32) then (1 : Int32) else (0 : Int32)))
def Q4 (Z : State) (bx : Int32)  (h0 : Heap) (n0 : Nat) (v : Option Value) (h : Heap) (L : List Loc) : Prop := v = some (.int (f_sp bx)) ∧ Fr n0 L ∧ h = h0
set_option maxRecDepth 65536 in
set_option maxHeartbeats 40000000 in
theorem rm4 (l : Launch) (Z : State) (a0 : Array Value) (hw : ∀ d ∈ tables_1, d.before a0 Z = true) (ws : List Jvm.Cond) (bx : Int32)  (h0 : Heap) (n0 : Nat) (Z0 : n0 ≤ h0.size)  :
    MetFree l (⟨"com/example/arcwalk/arcwalk/TermSpansSpaceEndPinLaw", "sp", "(B)Z"⟩ : MethodName) (head1 (Jvm.Cond.code (⟨"com/example/arcwalk/arcwalk/TermSpansSpaceEndPinLaw", "sp", "(B)Z"⟩ : MethodName) method_3_code 1 (some .boolean) :: ws) ({ frames := 0, cells := 0, slots := 0, locals := 0 } : Room)) (fun a U => a = #[(.int bx)] ∧ Z.Warmed39 U.vm ∧ U.heap = h0) (fun _ _ _ _ _ => True) (fun _ U o U' => ∃ v L, o = .returned v ∧ Q4 Z bx h0 n0 v U'.heap L ∧ FrameEnd U o U' L ({ frames := 0, cells := 0, slots := 0, locals := 0 } : Room).cells ({ frames := 0, cells := 0, slots := 0, locals := 0 } : Room).slots) := by
  refine MetFree.of_bodySF (plainFor_of_name pn_0) hisR ?_
  intro p e s m args below meth c s₁ Bd hml0 hP hK
  obtain ⟨rfl, hZ, hh⟩ := hP
  have hx := Bd.exec
  have hby := Bd.bytes
  have hml : c.maxLocals = 1 := hml0
  have hown : s.vm.findClass "com/example/arcwalk/arcwalk/TermSpansSpaceEndPinLaw" = some m.cls := findClass_of_methodNamed Bd.named
  have hnm := (name_of_methodNamed Bd.named Bd.method).1
  have X0 : Stand p l e ({ frames := 0, cells := 0, slots := 0, locals := 0 } : Room) s m #[(.int bx)] below meth c s₁ [] 0 0 := Stand.of_body Bd
  have e0 : s₁.heap = h0 := by rw [← hh, Bd.state]; rfl
  have N0 := Fr.nil n0
  have hlk : meth.locks = false := BodyLoose.notSynchronized Bd
  suffices hwk : Wk p.tables e below (s₁.setTop (mkF m 0 #[iv bx] [])) (fun U o => U.status = .running ∧ Ended U below o ∧ ∃ v L, o = .returned v ∧ Q4 Z bx h0 n0 v U.heap L ∧ FrameEnd s o U L 0 0) by
    obtain ⟨U, o, k1, k2⟩ := hwk
    exact ⟨U, o, castTop (ef_4 m bx) k1, k2⟩
  refine Wk.go (A' := s₁.setTop (mkF m 1 #[iv bx] [(.int bx)])) (fun t k => XS.iloadN X0.here hx rfl (hb hby d4_0) rfl k) ?_
  refine Wk.go (A' := s₁.setTop (mkF m 3 #[iv bx] [(.int (32 : Int32)), (.int bx)])) (fun t k => XS.bipush X0.here hx rfl (hb hby d4_1) k) ?_
  by_cases hc3 : bx = (32 : Int32)
  · refine Wk.go (A' := s₁.setTop (mkF m 12 #[iv bx] [])) (fun t k => XS.icmpYes X0.here hx rfl (pc0 := 3) (pc' := 12) rfl (hb hby d4_3) rfl (teq hc3).1 (by decide) (by decide) k) ?_
    refine Wk.go (A' := s₁.setTop (mkF m 13 #[iv bx] [(.int (1 : Int32))])) (fun t k => XS.iconst X0.here hx rfl (hb hby d4_12) k) ?_
    refine Wk.go (A' := s₁.setTop (mkF m 17 #[iv bx] [(.int (1 : Int32))])) (fun t k => XS.goto X0.here hx rfl (pc0 := 13) (pc' := 17) rfl (hb hby d4_13) (by decide) (by decide) k) ?_
    refine own_fin (Qv := Q4 Z bx h0 n0) (v := some (.int (1 : Int32))) X0 hlk (fun h => by rw [Bd.returns] at h; cases h) (fun fs hr => retN X0 hx (t := .boolean) Bd.returns (by simp) (hb hby d4_17) hr) ?_ (by decide) (by decide)
    refine ⟨?_, N0, e0⟩
    simp only [f_sp, if_pos hc3]
  · refine Wk.go (A' := s₁.setTop (mkF m 6 #[iv bx] [])) (fun t k => XS.icmpNo X0.here hx rfl (hb hby d4_3) rfl (feq hc3).1 k) ?_
    refine Wk.go (A' := s₁.setTop (mkF m 7 #[iv bx] [(.int bx)])) (fun t k => XS.iloadN X0.here hx rfl (hb hby d4_6) rfl k) ?_
    refine Wk.go (A' := s₁.setTop (mkF m 9 #[iv bx] [(.int (9 : Int32)), (.int bx)])) (fun t k => XS.bipush X0.here hx rfl (hb hby d4_7) k) ?_
    by_cases hc9 : bx = (9 : Int32)
    · refine Wk.go (A' := s₁.setTop (mkF m 12 #[iv bx] [])) (fun t k => XS.icmpNo X0.here hx rfl (hb hby d4_9) rfl (teq hc9).2 k) ?_
      refine Wk.go (A' := s₁.setTop (mkF m 13 #[iv bx] [(.int (1 : Int32))])) (fun t k => XS.iconst X0.here hx rfl (hb hby d4_12) k) ?_
      refine Wk.go (A' := s₁.setTop (mkF m 17 #[iv bx] [(.int (1 : Int32))])) (fun t k => XS.goto X0.here hx rfl (pc0 := 13) (pc' := 17) rfl (hb hby d4_13) (by decide) (by decide) k) ?_
      refine own_fin (Qv := Q4 Z bx h0 n0) (v := some (.int (1 : Int32))) X0 hlk (fun h => by rw [Bd.returns] at h; cases h) (fun fs hr => retN X0 hx (t := .boolean) Bd.returns (by simp) (hb hby d4_17) hr) ?_ (by decide) (by decide)
      refine ⟨?_, N0, e0⟩
      simp only [f_sp, if_neg hc3, if_pos hc9]
    · refine Wk.go (A' := s₁.setTop (mkF m 16 #[iv bx] [])) (fun t k => XS.icmpYes X0.here hx rfl (pc0 := 9) (pc' := 16) rfl (hb hby d4_9) rfl (feq hc9).2 (by decide) (by decide) k) ?_
      refine Wk.go (A' := s₁.setTop (mkF m 17 #[iv bx] [(.int (0 : Int32))])) (fun t k => XS.iconst X0.here hx rfl (hb hby d4_16) k) ?_
      refine own_fin (Qv := Q4 Z bx h0 n0) (v := some (.int (0 : Int32))) X0 hlk (fun h => by rw [Bd.returns] at h; cases h) (fun fs hr => retN X0 hx (t := .boolean) Bd.returns (by simp) (hb hby d4_17) hr) ?_ (by decide) (by decide)
      refine ⟨?_, N0, e0⟩
      simp only [f_sp, if_neg hc3, if_neg hc9]
theorem d3_0 : decode method_4_code 0 = .ok (.iload_n 1, 1) := by decide +kernel
theorem d3_1 : decode method_4_code 1 = .ok (.iload_n 2, 1) := by decide +kernel
theorem d3_2 : decode method_4_code 2 = .ok (.if_icmp .lt 17, 3) := by decide +kernel
theorem d3_19 : decode method_4_code 19 = .ok (.iconst 1, 1) := by decide +kernel
theorem d3_20 : decode method_4_code 20 = .ok (.goto 4, 3) := by decide +kernel
theorem d3_24 : decode method_4_code 24 = .ok (.ireturn, 1) := by decide +kernel
theorem d3_5 : decode method_4_code 5 = .ok (.iload_n 1, 1) := by decide +kernel
theorem d3_6 : decode method_4_code 6 = .ok (.iload_n 3, 1) := by decide +kernel
theorem d3_7 : decode method_4_code 7 = .ok (.if_icmp .ge 12, 3) := by decide +kernel
theorem d3_10 : decode method_4_code 10 = .ok (.aload_n 0, 1) := by decide +kernel
theorem d3_11 : decode method_4_code 11 = .ok (.iload_n 1, 1) := by decide +kernel
theorem d3_12 : decode method_4_code 12 = .ok (.baload, 1) := by decide +kernel
theorem tw13 {Z : State} {a0 : Array Value} (hw : ∀ d ∈ tables_1, d.before a0 Z = true) : (Jvm.Cond.methodLink "com/example/arcwalk/arcwalk/TermSpansSpaceEndPinLaw" (7 : Nat) ({ cls := "com/example/arcwalk/arcwalk/TermSpansSpaceEndPinLaw", name := "sp", desc := "(B)Z" } : Jvm.MethodName)).before a0 Z = true := hw _ (List.mem_of_getElem? (i := 13) rfl)
theorem tw15 {Z : State} {a0 : Array Value} (hw : ∀ d ∈ tables_1, d.before a0 Z = true) : (Jvm.Cond.code ({ cls := "com/example/arcwalk/arcwalk/TermSpansSpaceEndPinLaw", name := "sp", desc := "(B)Z" } : Jvm.MethodName) method_3_code (1 : Nat) (Option.some Jvm.ClassFile.FieldType.boolean)).before a0 Z = true := hw _ (List.mem_of_getElem? (i := 15) rfl)
theorem tw3 {Z : State} {a0 : Array Value} (hw : ∀ d ∈ tables_1, d.before a0 Z = true) : (Jvm.Cond.initialized "com/example/arcwalk/arcwalk/TermSpansSpaceEndPinLaw").before a0 Z = true := hw _ (List.mem_of_getElem? (i := 3) rfl)
theorem pd_0 : parseMethodDescriptor "(B)Z" = some ⟨[.byte], some .boolean⟩ := by decide +kernel
theorem d3_13 : decode method_4_code 13 = .ok (.invokestatic 7, 3) := by decide +kernel
theorem tw14 {Z : State} {a0 : Array Value} (hw : ∀ d ∈ tables_1, d.before a0 Z = true) : (Jvm.Cond.static ({ cls := "com/example/arcwalk/arcwalk/TermSpansSpaceEndPinLaw", name := "sp", desc := "(B)Z" } : Jvm.MethodName)).before a0 Z = true := hw _ (List.mem_of_getElem? (i := 14) rfl)
theorem d3_16 : decode method_4_code 16 = .ok (.ifCond .eq 7, 3) := by decide +kernel
theorem d3_23 : decode method_4_code 23 = .ok (.iconst 0, 1) := by decide +kernel
theorem ef_3 (m : MethodId) (x0 : Addr) (x1 : Int32) (x2 : Int32) (x3 : Int32) : entryFrame m #[(.ref x0), (.int x1), (.int x2), (.int x3)] 4 = mkF m 0 #[rv x0, iv x1, iv x2, iv x3] [] := by first | (simp [entryFrame, mkF, argsToLocals, Value.category]; done) | rfl
def f_blank (ar : Addr) (ix : Int32) (ia : Int32) (ir : Int32) (fB : Nat → Int32) : Int32 := (if ix < ia then (1 : Int32) else (if ix < ir then (if (f_sp (fB (ix).toNatClampNeg)) = (0 : Int32) then (0 : Int32) else (1 : Int32)) else (1 : Int32)))
def Q3 (Z : State) (ar : Addr) (ix : Int32) (ia : Int32) (ir : Int32) (fB : Nat → Int32) (h0 : Heap) (n0 : Nat) (v : Option Value) (h : Heap) (L : List Loc) : Prop := v = some (.int (f_blank ar ix ia ir fB)) ∧ Fr n0 L ∧ h = h0
set_option maxRecDepth 65536 in
set_option maxHeartbeats 40000000 in
theorem rm3 (l : Launch) (Z : State) (a0 : Array Value) (hw : ∀ d ∈ tables_1, d.before a0 Z = true) (ws : List Jvm.Cond) (ar : Addr) (ix : Int32) (ia : Int32) (ir : Int32) (fB : Nat → Int32) (h0 : Heap) (n0 : Nat) (Z0 : n0 ≤ h0.size) (VB : BA Z h0 ar 5 fB) (hix : 0 ≤ ix.toInt ∧ ix.toInt < ((5 : Nat) : Int)) :
    MetFree l (⟨"com/example/arcwalk/arcwalk/TermSpansSpaceEndPinLaw", "blankOrOutside", "([BIII)Z"⟩ : MethodName) (head1 (Jvm.Cond.code (⟨"com/example/arcwalk/arcwalk/TermSpansSpaceEndPinLaw", "blankOrOutside", "([BIII)Z"⟩ : MethodName) method_4_code 4 (some .boolean) :: ws) ({ frames := 1, cells := 0, slots := 0, locals := 12 } : Room)) (fun a U => a = #[(.ref ar), (.int ix), (.int ia), (.int ir)] ∧ Z.Warmed39 U.vm ∧ U.heap = h0) (fun _ _ _ _ _ => True) (fun _ U o U' => ∃ v L, o = .returned v ∧ Q3 Z ar ix ia ir fB h0 n0 v U'.heap L ∧ FrameEnd U o U' L ({ frames := 1, cells := 0, slots := 0, locals := 12 } : Room).cells ({ frames := 1, cells := 0, slots := 0, locals := 12 } : Room).slots) := by
  refine MetFree.of_bodySF (plainFor_of_name pn_0) hisR ?_
  intro p e s m args below meth c s₁ Bd hml0 hP hK
  obtain ⟨rfl, hZ, hh⟩ := hP
  have hx := Bd.exec
  have hby := Bd.bytes
  have hml : c.maxLocals = 4 := hml0
  have hown : s.vm.findClass "com/example/arcwalk/arcwalk/TermSpansSpaceEndPinLaw" = some m.cls := findClass_of_methodNamed Bd.named
  have hnm := (name_of_methodNamed Bd.named Bd.method).1
  have X0 : Stand p l e ({ frames := 1, cells := 0, slots := 0, locals := 12 } : Room) s m #[(.ref ar), (.int ix), (.int ia), (.int ir)] below meth c s₁ [] 0 0 := Stand.of_body Bd
  have e0 : s₁.heap = h0 := by rw [← hh, Bd.state]; rfl
  have N0 := Fr.nil n0
  have hlk : meth.locks = false := BodyLoose.notSynchronized Bd
  suffices hwk : Wk p.tables e below (s₁.setTop (mkF m 0 #[rv ar, iv ix, iv ia, iv ir] [])) (fun U o => U.status = .running ∧ Ended U below o ∧ ∃ v L, o = .returned v ∧ Q3 Z ar ix ia ir fB h0 n0 v U.heap L ∧ FrameEnd s o U L 0 0) by
    obtain ⟨U, o, k1, k2⟩ := hwk
    exact ⟨U, o, castTop (ef_3 m ar ix ia ir) k1, k2⟩
  refine Wk.go (A' := s₁.setTop (mkF m 1 #[rv ar, iv ix, iv ia, iv ir] [(.int ix)])) (fun t k => XS.iloadN X0.here hx rfl (hb hby d3_0) rfl k) ?_
  refine Wk.go (A' := s₁.setTop (mkF m 2 #[rv ar, iv ix, iv ia, iv ir] [(.int ia), (.int ix)])) (fun t k => XS.iloadN X0.here hx rfl (hb hby d3_1) rfl k) ?_
  by_cases hc2 : ix < ia
  · refine Wk.go (A' := s₁.setTop (mkF m 19 #[rv ar, iv ix, iv ia, iv ir] [])) (fun t k => XS.icmpYes X0.here hx rfl (pc0 := 2) (pc' := 19) rfl (hb hby d3_2) rfl (tlt hc2).1 (by decide) (by decide) k) ?_
    refine Wk.go (A' := s₁.setTop (mkF m 20 #[rv ar, iv ix, iv ia, iv ir] [(.int (1 : Int32))])) (fun t k => XS.iconst X0.here hx rfl (hb hby d3_19) k) ?_
    refine Wk.go (A' := s₁.setTop (mkF m 24 #[rv ar, iv ix, iv ia, iv ir] [(.int (1 : Int32))])) (fun t k => XS.goto X0.here hx rfl (pc0 := 20) (pc' := 24) rfl (hb hby d3_20) (by decide) (by decide) k) ?_
    refine own_fin (Qv := Q3 Z ar ix ia ir fB h0 n0) (v := some (.int (1 : Int32))) X0 hlk (fun h => by rw [Bd.returns] at h; cases h) (fun fs hr => retN X0 hx (t := .boolean) Bd.returns (by simp) (hb hby d3_24) hr) ?_ (by decide) (by decide)
    refine ⟨?_, N0, e0⟩
    simp only [f_blank, if_pos hc2]
  · refine Wk.go (A' := s₁.setTop (mkF m 5 #[rv ar, iv ix, iv ia, iv ir] [])) (fun t k => XS.icmpNo X0.here hx rfl (hb hby d3_2) rfl (flt hc2).1 k) ?_
    refine Wk.go (A' := s₁.setTop (mkF m 6 #[rv ar, iv ix, iv ia, iv ir] [(.int ix)])) (fun t k => XS.iloadN X0.here hx rfl (hb hby d3_5) rfl k) ?_
    refine Wk.go (A' := s₁.setTop (mkF m 7 #[rv ar, iv ix, iv ia, iv ir] [(.int ir), (.int ix)])) (fun t k => XS.iloadN X0.here hx rfl (hb hby d3_6) rfl k) ?_
    by_cases hc7 : ix < ir
    · refine Wk.go (A' := s₁.setTop (mkF m 10 #[rv ar, iv ix, iv ia, iv ir] [])) (fun t k => XS.icmpNo X0.here hx rfl (hb hby d3_7) rfl (tlt hc7).2.1 k) ?_
      refine Wk.go (A' := s₁.setTop (mkF m 11 #[rv ar, iv ix, iv ia, iv ir] [(.ref ar)])) (fun t k => XS.aloadN X0.here hx rfl (hb hby d3_10) rfl rfl k) ?_
      refine Wk.go (A' := s₁.setTop (mkF m 12 #[rv ar, iv ix, iv ia, iv ir] [(.int ix), (.ref ar)])) (fun t k => XS.iloadN X0.here hx rfl (hb hby d3_11) rfl k) ?_
      refine Wk.go (A' := s₁.setTop (mkF m 13 #[rv ar, iv ix, iv ia, iv ir] [(.int (fB (ix).toNatClampNeg))])) (fun t k => own_ldB X0 hx hZ e0 VB (j := ix) hix (g := (mkF m 12 #[rv ar, iv ix, iv ia, iv ir] [(.int ix), (.ref ar)])) rfl rfl (hb hby d3_12) t k) ?_
      obtain ⟨_, _, ⟨T1, L1, k1, n1⟩, -, X1, ⟨Lc1, hQ1, l1, y1, z1⟩, st1⟩ := Jvm.LawKit.callS X0 hx (y := (⟨"com/example/arcwalk/arcwalk/TermSpansSpaceEndPinLaw", "sp", "(B)Z"⟩ : MethodName)) hown (mvT hZ (tw13 hw)) (mvT hZ (tw14 hw)) (mvT hZ (tw3 hw)) (mvT hZ (tw15 hw)) (by decide) (backOf (W := 0) (rm4 l Z a0 hw [] (fB (ix).toNatClampNeg)  h0 n0 Z0 ) hZ (tw15 hw) (tw3 hw) (by decide) (by decide)) (g := (mkF m 13 #[rv ar, iv ix, iv ia, iv ir] [(.int (fB (ix).toNatClampNeg))])) rfl (by rw [hml]; rfl) (argsL := [(.int (fB (ix).toNatClampNeg))]) (rest := []) (lenOf pd_0 rfl) rfl (by show 2 * 0 + _ ≤ _; exact Nat.le_of_eq rfl) (hb hby d3_13) (fun _ _ => ⟨rfl, e0, (by decide : 0 + 0 ≤ _), (by decide : 0 + 0 ≤ _)⟩)
      dsimp only [Pt.U, Pt.locs, Pt.cells, Pt.slots] at X1 l1 y1 z1 st1 hQ1
      subst l1 y1 z1
      obtain ⟨rfl, N1q, hE1⟩ := hQ1
      have N1 := Fr.app N0 N1q
      refine Wk.go (A' := T1.setTop (mkF m 16 #[rv ar, iv ix, iv ia, iv ir] [(.int (f_sp (fB (ix).toNatClampNeg)))])) (fun t k => st1 t k) ?_
      by_cases hc16 : (f_sp (fB (ix).toNatClampNeg)) = (0 : Int32)
      · refine Wk.go (A' := T1.setTop (mkF m 23 #[rv ar, iv ix, iv ia, iv ir] [])) (fun t k => XS.ifYes X1.here hx rfl (pc0 := 16) (pc' := 23) rfl (hb hby d3_16) rfl ((if0 _ _).trans (teq hc16).1) (by decide) (by decide) k) ?_
        refine Wk.go (A' := T1.setTop (mkF m 24 #[rv ar, iv ix, iv ia, iv ir] [(.int (0 : Int32))])) (fun t k => XS.iconst X1.here hx rfl (hb hby d3_23) k) ?_
        refine own_fin (Qv := Q3 Z ar ix ia ir fB h0 n0) (v := some (.int (0 : Int32))) X1 hlk (fun h => by rw [Bd.returns] at h; cases h) (fun fs hr => retN X1 hx (t := .boolean) Bd.returns (by simp) (hb hby d3_24) hr) ?_ (by decide) (by decide)
        refine ⟨?_, N1, (hE1)⟩
        simp only [f_blank, if_neg hc2, if_pos hc7, if_pos hc16]
      · refine Wk.go (A' := T1.setTop (mkF m 19 #[rv ar, iv ix, iv ia, iv ir] [])) (fun t k => XS.ifNo X1.here hx rfl (hb hby d3_16) rfl ((if0 _ _).trans (feq hc16).1) k) ?_
        refine Wk.go (A' := T1.setTop (mkF m 20 #[rv ar, iv ix, iv ia, iv ir] [(.int (1 : Int32))])) (fun t k => XS.iconst X1.here hx rfl (hb hby d3_19) k) ?_
        refine Wk.go (A' := T1.setTop (mkF m 24 #[rv ar, iv ix, iv ia, iv ir] [(.int (1 : Int32))])) (fun t k => XS.goto X1.here hx rfl (pc0 := 20) (pc' := 24) rfl (hb hby d3_20) (by decide) (by decide) k) ?_
        refine own_fin (Qv := Q3 Z ar ix ia ir fB h0 n0) (v := some (.int (1 : Int32))) X1 hlk (fun h => by rw [Bd.returns] at h; cases h) (fun fs hr => retN X1 hx (t := .boolean) Bd.returns (by simp) (hb hby d3_24) hr) ?_ (by decide) (by decide)
        refine ⟨?_, N1, (hE1)⟩
        simp only [f_blank, if_neg hc2, if_pos hc7, if_neg hc16]
    · refine Wk.go (A' := s₁.setTop (mkF m 19 #[rv ar, iv ix, iv ia, iv ir] [])) (fun t k => XS.icmpYes X0.here hx rfl (pc0 := 7) (pc' := 19) rfl (hb hby d3_7) rfl (flt hc7).2.1 (by decide) (by decide) k) ?_
      refine Wk.go (A' := s₁.setTop (mkF m 20 #[rv ar, iv ix, iv ia, iv ir] [(.int (1 : Int32))])) (fun t k => XS.iconst X0.here hx rfl (hb hby d3_19) k) ?_
      refine Wk.go (A' := s₁.setTop (mkF m 24 #[rv ar, iv ix, iv ia, iv ir] [(.int (1 : Int32))])) (fun t k => XS.goto X0.here hx rfl (pc0 := 20) (pc' := 24) rfl (hb hby d3_20) (by decide) (by decide) k) ?_
      refine own_fin (Qv := Q3 Z ar ix ia ir fB h0 n0) (v := some (.int (1 : Int32))) X0 hlk (fun h => by rw [Bd.returns] at h; cases h) (fun fs hr => retN X0 hx (t := .boolean) Bd.returns (by simp) (hb hby d3_24) hr) ?_ (by decide) (by decide)
      refine ⟨?_, N0, e0⟩
      simp only [f_blank, if_neg hc2, if_neg hc7]
def own_bl (y : Int32) : Prop := y = (32 : Int32) ∨ y = (9 : Int32)
theorem own_next {i : Int32} {k : Nat} {z : Int32} (h : i.toInt + ((k + 1 : Nat) : Int) = z.toInt) (h0 : 0 ≤ i.toInt) : (i + (1 : Int32)).toInt = i.toInt + 1 := by
  have a := c_iadd i 1
  have r := rng32 (i + 1)
  have r2 := rng32 z
  have e1 : (1 : Int32).toInt = 1 := by decide
  omega
theorem own_more {f : Nat → Int32} {i : Int32} {a : Int} (h0 : 0 ≤ i.toInt) (hn : (i + (1 : Int32)).toInt = i.toInt + 1) (h : ∀ j : Nat, a ≤ (j : Int) → (j : Int) < i.toInt → own_bl (f j)) (hi : own_bl (f (i).toNatClampNeg)) : ∀ j : Nat, a ≤ (j : Int) → (j : Int) < (i + (1 : Int32)).toInt → own_bl (f j) := by
  intro j h1 h2
  have hc := own_clamp h0
  by_cases q : (j : Int) < i.toInt
  · exact h j h1 q
  · have e : j = i.toNatClampNeg := by omega
    rw [e]; exact hi
theorem d2_0 : decode prog_83_method_19_code 0 = .ok (.iload_n 1, 1) := by decide +kernel
theorem d2_1 : decode prog_83_method_19_code 1 = .ok (.istore_n 3, 1) := by decide +kernel
theorem d2_2 : decode prog_83_method_19_code 2 = .ok (.iload_n 3, 1) := by decide +kernel
theorem d2_3 : decode prog_83_method_19_code 3 = .ok (.iload_n 2, 1) := by decide +kernel
theorem d2_4 : decode prog_83_method_19_code 4 = .ok (.if_icmp .ge 25, 3) := by decide +kernel
theorem d2_29 : decode prog_83_method_19_code 29 = .ok (.iload_n 3, 1) := by decide +kernel
theorem d2_30 : decode prog_83_method_19_code 30 = .ok (.ireturn, 1) := by decide +kernel
theorem d2_7 : decode prog_83_method_19_code 7 = .ok (.aload_n 0, 1) := by decide +kernel
theorem d2_8 : decode prog_83_method_19_code 8 = .ok (.iload_n 3, 1) := by decide +kernel
theorem d2_9 : decode prog_83_method_19_code 9 = .ok (.baload, 1) := by decide +kernel
theorem d2_10 : decode prog_83_method_19_code 10 = .ok (.bipush 32, 2) := by decide +kernel
theorem d2_12 : decode prog_83_method_19_code 12 = .ok (.if_icmp .eq 11, 3) := by decide +kernel
theorem d2_23 : decode prog_83_method_19_code 23 = .ok (.iinc 3 1, 3) := by decide +kernel
theorem d2_26 : decode prog_83_method_19_code 26 = .ok (.goto (-24), 3) := by decide +kernel
theorem d2_15 : decode prog_83_method_19_code 15 = .ok (.aload_n 0, 1) := by decide +kernel
theorem d2_16 : decode prog_83_method_19_code 16 = .ok (.iload_n 3, 1) := by decide +kernel
theorem d2_17 : decode prog_83_method_19_code 17 = .ok (.baload, 1) := by decide +kernel
theorem d2_18 : decode prog_83_method_19_code 18 = .ok (.bipush 9, 2) := by decide +kernel
theorem d2_20 : decode prog_83_method_19_code 20 = .ok (.if_icmp .ne 9, 3) := by decide +kernel
theorem pn_1 : plainName "com/example/arcwalk/arcwalk/TermSpans" = true := by first | (simp [plainName, overriddenIn]; done) | decide +kernel
theorem ef_2 (m : MethodId) (x0 : Addr) (x1 : Int32) (x2 : Int32) : entryFrame m #[(.ref x0), (.int x1), (.int x2)] 4 = mkF m 0 #[rv x0, iv x1, iv x2, .unset] [] := by first | (simp [entryFrame, mkF, argsToLocals, Value.category]; done) | rfl
def Q2 (Z : State) (ar : Addr) (ia : Int32) (ib : Int32) (fB : Nat → Int32) (h0 : Heap) (n0 : Nat) (v : Option Value) (h : Heap) (L : List Loc) : Prop := ∃ r : Int32, v = some (.int r) ∧ Fr n0 L ∧ h = h0 ∧ ia.toInt ≤ r.toInt ∧ r.toInt ≤ ib.toInt ∧ (∀ j : Nat, ia.toInt ≤ (j : Int) → (j : Int) < r.toInt → own_bl (fB j)) ∧ (r.toInt < ib.toInt → ¬ own_bl (fB (r).toNatClampNeg))
set_option maxRecDepth 65536 in
set_option maxHeartbeats 40000000 in
theorem rm2 (l : Launch) (Z : State) (a0 : Array Value) (hw : ∀ d ∈ tables_1, d.before a0 Z = true) (ws : List Jvm.Cond) (ar : Addr) (ia : Int32) (ib : Int32) (fB : Nat → Int32) (h0 : Heap) (n0 : Nat) (Z0 : n0 ≤ h0.size) (VB : BA Z h0 ar 5 fB) (h1 : 0 ≤ ia.toInt) (h2 : ia.toInt ≤ ib.toInt) (h3 : ib.toInt ≤ 5) :
    MetFree l (⟨"com/example/arcwalk/arcwalk/TermSpans", "spaceEnd", "([BII)I"⟩ : MethodName) (head1 (Jvm.Cond.code (⟨"com/example/arcwalk/arcwalk/TermSpans", "spaceEnd", "([BII)I"⟩ : MethodName) prog_83_method_19_code 4 (some .int) :: ws) ({ frames := 0, cells := 0, slots := 0, locals := 0 } : Room)) (fun a U => a = #[(.ref ar), (.int ia), (.int ib)] ∧ Z.Warmed39 U.vm ∧ U.heap = h0) (fun _ _ _ _ _ => True) (fun _ U o U' => ∃ v L, o = .returned v ∧ Q2 Z ar ia ib fB h0 n0 v U'.heap L ∧ FrameEnd U o U' L ({ frames := 0, cells := 0, slots := 0, locals := 0 } : Room).cells ({ frames := 0, cells := 0, slots := 0, locals := 0 } : Room).slots) := by
  refine MetFree.of_bodySF (plainFor_of_name pn_1) hisR ?_
  intro p e s m args below meth c s₁ Bd hml0 hP hK
  obtain ⟨rfl, hZ, hh⟩ := hP
  have hx := Bd.exec
  have hby := Bd.bytes
  have hml : c.maxLocals = 4 := hml0
  have hown : s.vm.findClass "com/example/arcwalk/arcwalk/TermSpans" = some m.cls := findClass_of_methodNamed Bd.named
  have hnm := (name_of_methodNamed Bd.named Bd.method).1
  have X0 : Stand p l e ({ frames := 0, cells := 0, slots := 0, locals := 0 } : Room) s m #[(.ref ar), (.int ia), (.int ib)] below meth c s₁ [] 0 0 := Stand.of_body Bd
  have e0 : s₁.heap = h0 := by rw [← hh, Bd.state]; rfl
  have N0 := Fr.nil n0
  have hlk : meth.locks = false := BodyLoose.notSynchronized Bd
  suffices hwk : Wk p.tables e below (s₁.setTop (mkF m 0 #[rv ar, iv ia, iv ib, .unset] [])) (fun U o => U.status = .running ∧ Ended U below o ∧ ∃ v L, o = .returned v ∧ Q2 Z ar ia ib fB h0 n0 v U.heap L ∧ FrameEnd s o U L 0 0) by
    obtain ⟨U, o, k1, k2⟩ := hwk
    exact ⟨U, o, castTop (ef_2 m ar ia ib) k1, k2⟩
  refine Wk.go (A' := s₁.setTop (mkF m 1 #[rv ar, iv ia, iv ib, .unset] [(.int ia)])) (fun t k => XS.iloadN X0.here hx rfl (hb hby d2_0) rfl k) ?_
  refine Wk.go (A' := s₁.setTop (mkF m 2 #[rv ar, iv ia, iv ib, iv ia] [])) (fun t k => XS.istoreN X0.here hx rfl (hb hby d2_1) rfl (l' := #[rv ar, iv ia, iv ib, iv ia]) rfl k) ?_
  have loop2 : ∀ (k : Nat) (i : Int32), (i.toInt + (k : Int) = ib.toInt ∧ ia.toInt ≤ i.toInt ∧ ∀ j : Nat, ia.toInt ≤ (j : Int) → (j : Int) < i.toInt → own_bl (fB j)) → Wk p.tables e below (s₁.setTop (mkF m 2 #[rv ar, iv ia, iv ib, iv i] [])) (fun U o => U.status = .running ∧ Ended U below o ∧ ∃ v L, o = .returned v ∧ Q2 Z ar ia ib fB h0 n0 v U.heap L ∧ FrameEnd s o U L 0 0) := by
    intro k
    induction k with
    | zero =>
      intro i hinv
      refine Wk.go (A' := s₁.setTop (mkF m 3 #[rv ar, iv ia, iv ib, iv i] [(.int i)])) (fun t k => XS.iloadN X0.here hx rfl (hb hby d2_2) rfl k) ?_
      refine Wk.go (A' := s₁.setTop (mkF m 4 #[rv ar, iv ia, iv ib, iv i] [(.int ib), (.int i)])) (fun t k => XS.iloadN X0.here hx rfl (hb hby d2_3) rfl k) ?_
      have hc4 : ¬ (i < ib) := by rw [Int32.lt_iff_toInt_lt]; have := hinv.1; omega
      refine Wk.go (A' := s₁.setTop (mkF m 29 #[rv ar, iv ia, iv ib, iv i] [])) (fun t k => XS.icmpYes X0.here hx rfl (pc0 := 4) (pc' := 29) rfl (hb hby d2_4) rfl (flt hc4).2.1 (by decide) (by decide) k) ?_
      refine Wk.go (A' := s₁.setTop (mkF m 30 #[rv ar, iv ia, iv ib, iv i] [(.int i)])) (fun t k => XS.iloadN X0.here hx rfl (hb hby d2_29) rfl k) ?_
      refine own_fin (Qv := Q2 Z ar ia ib fB h0 n0) (v := some (.int i)) X0 hlk (fun h => by rw [Bd.returns] at h; cases h) (fun fs hr => retI X0 hx Bd.returns (hb hby d2_30) hr) ?_ (by decide) (by decide)
      exact ⟨_, rfl, N0, e0, hinv.2.1, by have := hinv.1; omega, hinv.2.2, fun q => absurd q (by have := hinv.1; omega)⟩
    | succ k ih =>
      intro i hinv
      refine Wk.go (A' := s₁.setTop (mkF m 3 #[rv ar, iv ia, iv ib, iv i] [(.int i)])) (fun t k => XS.iloadN X0.here hx rfl (hb hby d2_2) rfl k) ?_
      refine Wk.go (A' := s₁.setTop (mkF m 4 #[rv ar, iv ia, iv ib, iv i] [(.int ib), (.int i)])) (fun t k => XS.iloadN X0.here hx rfl (hb hby d2_3) rfl k) ?_
      have hc4 : i < ib := by rw [Int32.lt_iff_toInt_lt]; have := hinv.1; omega
      refine Wk.go (A' := s₁.setTop (mkF m 7 #[rv ar, iv ia, iv ib, iv i] [])) (fun t k => XS.icmpNo X0.here hx rfl (hb hby d2_4) rfl (tlt hc4).2.1 k) ?_
      refine Wk.go (A' := s₁.setTop (mkF m 8 #[rv ar, iv ia, iv ib, iv i] [(.ref ar)])) (fun t k => XS.aloadN X0.here hx rfl (hb hby d2_7) rfl rfl k) ?_
      refine Wk.go (A' := s₁.setTop (mkF m 9 #[rv ar, iv ia, iv ib, iv i] [(.int i), (.ref ar)])) (fun t k => XS.iloadN X0.here hx rfl (hb hby d2_8) rfl k) ?_
      refine Wk.go (A' := s₁.setTop (mkF m 10 #[rv ar, iv ia, iv ib, iv i] [(.int (fB (i).toNatClampNeg))])) (fun t k => own_ldB X0 hx hZ e0 VB (j := i) ⟨Int.le_trans h1 hinv.2.1, by have := hinv.1; omega⟩ (g := (mkF m 9 #[rv ar, iv ia, iv ib, iv i] [(.int i), (.ref ar)])) rfl rfl (hb hby d2_9) t k) ?_
      refine Wk.go (A' := s₁.setTop (mkF m 12 #[rv ar, iv ia, iv ib, iv i] [(.int (32 : Int32)), (.int (fB (i).toNatClampNeg))])) (fun t k => XS.bipush X0.here hx rfl (hb hby d2_10) k) ?_
      by_cases hc12 : (fB (i).toNatClampNeg) = (32 : Int32)
      · refine Wk.go (A' := s₁.setTop (mkF m 23 #[rv ar, iv ia, iv ib, iv i] [])) (fun t k => XS.icmpYes X0.here hx rfl (pc0 := 12) (pc' := 23) rfl (hb hby d2_12) rfl (teq hc12).1 (by decide) (by decide) k) ?_
        refine Wk.go (A' := s₁.setTop (mkF m 26 #[rv ar, iv ia, iv ib, iv (i + (1 : Int32))] [])) (fun t k => XS.iinc X0.here hx rfl (hb hby d2_23) rfl (l' := #[rv ar, iv ia, iv ib, iv (i + (1 : Int32))]) rfl k) ?_
        refine Wk.go (A' := s₁.setTop (mkF m 2 #[rv ar, iv ia, iv ib, iv (i + (1 : Int32))] [])) (fun t k => XS.goto X0.here hx rfl (pc0 := 26) (pc' := 2) rfl (hb hby d2_26) (by decide) (by decide) k) ?_
        exact ih (i + (1 : Int32))  (⟨by have := own_next hinv.1 (Int.le_trans h1 hinv.2.1); have := hinv.1; omega, by have := own_next hinv.1 (Int.le_trans h1 hinv.2.1); have := hinv.2.1; omega, own_more (Int.le_trans h1 hinv.2.1) (own_next hinv.1 (Int.le_trans h1 hinv.2.1)) hinv.2.2 (Or.inl hc12)⟩)
      · refine Wk.go (A' := s₁.setTop (mkF m 15 #[rv ar, iv ia, iv ib, iv i] [])) (fun t k => XS.icmpNo X0.here hx rfl (hb hby d2_12) rfl (feq hc12).1 k) ?_
        refine Wk.go (A' := s₁.setTop (mkF m 16 #[rv ar, iv ia, iv ib, iv i] [(.ref ar)])) (fun t k => XS.aloadN X0.here hx rfl (hb hby d2_15) rfl rfl k) ?_
        refine Wk.go (A' := s₁.setTop (mkF m 17 #[rv ar, iv ia, iv ib, iv i] [(.int i), (.ref ar)])) (fun t k => XS.iloadN X0.here hx rfl (hb hby d2_16) rfl k) ?_
        refine Wk.go (A' := s₁.setTop (mkF m 18 #[rv ar, iv ia, iv ib, iv i] [(.int (fB (i).toNatClampNeg))])) (fun t k => own_ldB X0 hx hZ e0 VB (j := i) ⟨Int.le_trans h1 hinv.2.1, by have := hinv.1; omega⟩ (g := (mkF m 17 #[rv ar, iv ia, iv ib, iv i] [(.int i), (.ref ar)])) rfl rfl (hb hby d2_17) t k) ?_
        refine Wk.go (A' := s₁.setTop (mkF m 20 #[rv ar, iv ia, iv ib, iv i] [(.int (9 : Int32)), (.int (fB (i).toNatClampNeg))])) (fun t k => XS.bipush X0.here hx rfl (hb hby d2_18) k) ?_
        by_cases hc20 : (fB (i).toNatClampNeg) = (9 : Int32)
        · refine Wk.go (A' := s₁.setTop (mkF m 23 #[rv ar, iv ia, iv ib, iv i] [])) (fun t k => XS.icmpNo X0.here hx rfl (hb hby d2_20) rfl (teq hc20).2 k) ?_
          refine Wk.go (A' := s₁.setTop (mkF m 26 #[rv ar, iv ia, iv ib, iv (i + (1 : Int32))] [])) (fun t k => XS.iinc X0.here hx rfl (hb hby d2_23) rfl (l' := #[rv ar, iv ia, iv ib, iv (i + (1 : Int32))]) rfl k) ?_
          refine Wk.go (A' := s₁.setTop (mkF m 2 #[rv ar, iv ia, iv ib, iv (i + (1 : Int32))] [])) (fun t k => XS.goto X0.here hx rfl (pc0 := 26) (pc' := 2) rfl (hb hby d2_26) (by decide) (by decide) k) ?_
          exact ih (i + (1 : Int32))  (⟨by have := own_next hinv.1 (Int.le_trans h1 hinv.2.1); have := hinv.1; omega, by have := own_next hinv.1 (Int.le_trans h1 hinv.2.1); have := hinv.2.1; omega, own_more (Int.le_trans h1 hinv.2.1) (own_next hinv.1 (Int.le_trans h1 hinv.2.1)) hinv.2.2 (Or.inr hc20)⟩)
        · refine Wk.go (A' := s₁.setTop (mkF m 29 #[rv ar, iv ia, iv ib, iv i] [])) (fun t k => XS.icmpYes X0.here hx rfl (pc0 := 20) (pc' := 29) rfl (hb hby d2_20) rfl (feq hc20).2 (by decide) (by decide) k) ?_
          refine Wk.go (A' := s₁.setTop (mkF m 30 #[rv ar, iv ia, iv ib, iv i] [(.int i)])) (fun t k => XS.iloadN X0.here hx rfl (hb hby d2_29) rfl k) ?_
          refine own_fin (Qv := Q2 Z ar ia ib fB h0 n0) (v := some (.int i)) X0 hlk (fun h => by rw [Bd.returns] at h; cases h) (fun fs hr => retI X0 hx Bd.returns (hb hby d2_30) hr) ?_ (by decide) (by decide)
          exact ⟨_, rfl, N0, e0, hinv.2.1, by have := hinv.1; omega, hinv.2.2, fun _ q => q.elim hc12 hc20⟩
  exact loop2 (ib.toInt - ia.toInt).toNat ia  (⟨by omega, Int.le_refl _, fun j q1 q2 => absurd q1 (by omega)⟩)
theorem own_sp (y : Int32) : f_sp y = 0 ↔ ¬ own_bl y := by
  unfold f_sp own_bl
  by_cases q1 : y = (32 : Int32) <;> by_cases q2 : y = (9 : Int32) <;> simp [q1, q2]
theorem own_blank (ar : Addr) {i ia r : Int32} {f : Nat → Int32} (h0 : 0 ≤ i.toInt) (h : ∀ j : Nat, ia.toInt ≤ (j : Int) → (j : Int) < r.toInt → own_bl (f j)) : ¬ (f_blank ar i ia r f = (0 : Int32)) := by
  unfold f_blank
  have hc := own_clamp h0
  by_cases q1 : i < ia
  · rw [if_pos q1]; decide
  · rw [if_neg q1]
    by_cases q2 : i < r
    · rw [if_pos q2]
      rw [Int32.lt_iff_toInt_lt] at q1 q2
      have hb := h i.toNatClampNeg (by omega) (by omega)
      rw [if_neg (fun q => (own_sp _).mp q hb)]; decide
    · rw [if_neg q2]; decide
theorem own_to (q : Int32) : 0 ≤ ((q &&& (2147483647 : Int32)) % (6 : Int32)).toInt ∧ ((q &&& (2147483647 : Int32)) % (6 : Int32)).toInt ≤ 5 := by
  have h1 := c_mask q 2147483647 31 (by decide) (by decide)
  have h2 := (c_irem (q &&& (2147483647 : Int32)) 6 6 (by decide)).1 (by omega)
  omega
theorem own_to1 {k : Int32} (h1 : 0 ≤ k.toInt) (h2 : k.toInt ≤ 5) : (k + (1 : Int32)).toInt = k.toInt + 1 := by
  have h := c_iadd k 1
  have r := rng32 (k + 1)
  have e1 : (1 : Int32).toInt = 1 := by decide
  omega
theorem own_nz {k : Int32} (h1 : 0 ≤ k.toInt) (h2 : k.toInt ≤ 5) : k + (1 : Int32) ≠ 0 := fun q => by
  have h := own_to1 h1 h2
  rw [q] at h
  have e0 : (0 : Int32).toInt = 0 := by decide
  omega
theorem own_from {k : Int32} (h1 : 0 ≤ k.toInt) (h2 : k.toInt ≤ 5) (q : Int32) : 0 ≤ ((q &&& (2147483647 : Int32)) % (k + (1 : Int32))).toInt ∧ ((q &&& (2147483647 : Int32)) % (k + (1 : Int32))).toInt ≤ k.toInt := by
  have hm := c_mask q 2147483647 31 (by decide) (by decide)
  have e := own_to1 h1 h2
  have h := (c_iremV (q &&& (2147483647 : Int32)) (k + 1)).1 (by omega) (by omega)
  omega
theorem tw0 {Z : State} {a0 : Array Value} (hw : ∀ d ∈ tables_1, d.before a0 Z = true) : (Jvm.Cond.arrayClass Jvm.ClassFile.FieldType.byte).before a0 Z = true := hw _ (List.mem_of_getElem? (i := 0) rfl)
theorem tw1 {Z : State} {a0 : Array Value} (hw : ∀ d ∈ tables_1, d.before a0 Z = true) : (Jvm.Cond.methodLink "com/example/arcwalk/arcwalk/TermSpansSpaceEndPinLaw" (13 : Nat) ({ cls := "com/example/arcwalk/arcwalk/TermSpansSpaceEndPinLaw", name := "byteOf", desc := "(I)B" } : Jvm.MethodName)).before a0 Z = true := hw _ (List.mem_of_getElem? (i := 1) rfl)
theorem tw4 {Z : State} {a0 : Array Value} (hw : ∀ d ∈ tables_1, d.before a0 Z = true) : (Jvm.Cond.code ({ cls := "com/example/arcwalk/arcwalk/TermSpansSpaceEndPinLaw", name := "byteOf", desc := "(I)B" } : Jvm.MethodName) method_2_code (2 : Nat) (Option.some Jvm.ClassFile.FieldType.byte)).before a0 Z = true := hw _ (List.mem_of_getElem? (i := 4) rfl)
theorem pd_1 : parseMethodDescriptor "(I)B" = some ⟨[.int], some .byte⟩ := by decide +kernel
theorem tw2 {Z : State} {a0 : Array Value} (hw : ∀ d ∈ tables_1, d.before a0 Z = true) : (Jvm.Cond.static ({ cls := "com/example/arcwalk/arcwalk/TermSpansSpaceEndPinLaw", name := "byteOf", desc := "(I)B" } : Jvm.MethodName)).before a0 Z = true := hw _ (List.mem_of_getElem? (i := 2) rfl)
theorem tw5 {Z : State} {a0 : Array Value} (hw : ∀ d ∈ tables_1, d.before a0 Z = true) : (Jvm.Cond.constant "com/example/arcwalk/arcwalk/TermSpansSpaceEndPinLaw" (17 : Nat) (2147483647 : Int32)).before a0 Z = true := hw _ (List.mem_of_getElem? (i := 5) rfl)
theorem tw6 {Z : State} {a0 : Array Value} (hw : ∀ d ∈ tables_1, d.before a0 Z = true) : (Jvm.Cond.methodLink "com/example/arcwalk/arcwalk/TermSpansSpaceEndPinLaw" (18 : Nat) ({ cls := "com/example/arcwalk/arcwalk/TermSpans", name := "spaceEnd", desc := "([BII)I" } : Jvm.MethodName)).before a0 Z = true := hw _ (List.mem_of_getElem? (i := 6) rfl)
theorem tw9 {Z : State} {a0 : Array Value} (hw : ∀ d ∈ tables_1, d.before a0 Z = true) : (Jvm.Cond.code ({ cls := "com/example/arcwalk/arcwalk/TermSpans", name := "spaceEnd", desc := "([BII)I" } : Jvm.MethodName) prog_83_method_19_code (4 : Nat) (Option.some Jvm.ClassFile.FieldType.int)).before a0 Z = true := hw _ (List.mem_of_getElem? (i := 9) rfl)
theorem tw8 {Z : State} {a0 : Array Value} (hw : ∀ d ∈ tables_1, d.before a0 Z = true) : (Jvm.Cond.initialized "com/example/arcwalk/arcwalk/TermSpans").before a0 Z = true := hw _ (List.mem_of_getElem? (i := 8) rfl)
theorem pd_2 : parseMethodDescriptor "([BII)I" = some ⟨[(.array .byte), .int, .int], some .int⟩ := by decide +kernel
theorem tw7 {Z : State} {a0 : Array Value} (hw : ∀ d ∈ tables_1, d.before a0 Z = true) : (Jvm.Cond.static ({ cls := "com/example/arcwalk/arcwalk/TermSpans", name := "spaceEnd", desc := "([BII)I" } : Jvm.MethodName)).before a0 Z = true := hw _ (List.mem_of_getElem? (i := 7) rfl)
theorem tw10 {Z : State} {a0 : Array Value} (hw : ∀ d ∈ tables_1, d.before a0 Z = true) : (Jvm.Cond.methodLink "com/example/arcwalk/arcwalk/TermSpansSpaceEndPinLaw" (24 : Nat) ({ cls := "com/example/arcwalk/arcwalk/TermSpansSpaceEndPinLaw", name := "blankOrOutside", desc := "([BIII)Z" } : Jvm.MethodName)).before a0 Z = true := hw _ (List.mem_of_getElem? (i := 10) rfl)
theorem tw12 {Z : State} {a0 : Array Value} (hw : ∀ d ∈ tables_1, d.before a0 Z = true) : (Jvm.Cond.code ({ cls := "com/example/arcwalk/arcwalk/TermSpansSpaceEndPinLaw", name := "blankOrOutside", desc := "([BIII)Z" } : Jvm.MethodName) method_4_code (4 : Nat) (Option.some Jvm.ClassFile.FieldType.boolean)).before a0 Z = true := hw _ (List.mem_of_getElem? (i := 12) rfl)
theorem pd_3 : parseMethodDescriptor "([BIII)Z" = some ⟨[(.array .byte), .int, .int, .int], some .boolean⟩ := by decide +kernel
theorem tw11 {Z : State} {a0 : Array Value} (hw : ∀ d ∈ tables_1, d.before a0 Z = true) : (Jvm.Cond.static ({ cls := "com/example/arcwalk/arcwalk/TermSpansSpaceEndPinLaw", name := "blankOrOutside", desc := "([BIII)Z" } : Jvm.MethodName)).before a0 Z = true := hw _ (List.mem_of_getElem? (i := 11) rfl)
theorem ef_0 (m : MethodId) (x0 : Int32) (x1 : Int32) (x2 : Int32) (x3 : Int32) (x4 : Int32) (x5 : Int32) : entryFrame m #[(.int x0), (.int x1), (.int x2), (.int x3), (.int x4), (.int x5)] maxLocals = mkF m 0 #[iv x0, iv x1, iv x2, iv x3, iv x4, iv x5, .unset, .unset, .unset, .unset, .unset] [] := by first | (simp [entryFrame, mkF, argsToLocals, Value.category, maxLocals]; done) | rfl
def Q0 (Z : State) (pa : Int32) (pb : Int32) (pc : Int32) (pd : Int32) (pe : Int32) (ft : Int32)  (h0 : Heap) (n0 : Nat) (v : Option Value) (h : Heap) (L : List Loc) : Prop := v = some (.int 1) ∧ Fr n0 L
set_option maxRecDepth 65536 in
set_option maxHeartbeats 40000000 in
theorem rm0 (l : Launch) (Z : State) (a0 : Array Value) (hw : ∀ d ∈ tables_1, d.before a0 Z = true) (ws : List Jvm.Cond) (pa : Int32) (pb : Int32) (pc : Int32) (pd : Int32) (pe : Int32) (ft : Int32)  (h0 : Heap) (n0 : Nat) (Z0 : n0 ≤ h0.size)  :
    MetFree l x (head1 (Jvm.Cond.code x code maxLocals ret :: ws) room_1) (fun a U => a = #[(.int pa), (.int pb), (.int pc), (.int pd), (.int pe), (.int ft)] ∧ Z.Warmed39 U.vm ∧ U.heap = h0) (fun _ _ _ _ _ => True) (fun _ U o U' => ∃ v L, o = .returned v ∧ Q0 Z pa pb pc pd pe ft h0 n0 v U'.heap L ∧ FrameEnd U o U' L 1 5) := by
  refine MetFree.of_bodySF (plainFor_of_name pn_0) hisR ?_
  intro p e s m args below meth c s₁ Bd hml0 hP hK
  obtain ⟨rfl, hZ, hh⟩ := hP
  have hx := Bd.exec
  have hby := Bd.bytes
  have hml : c.maxLocals = 11 := hml0
  have hown : s.vm.findClass "com/example/arcwalk/arcwalk/TermSpansSpaceEndPinLaw" = some m.cls := findClass_of_methodNamed Bd.named
  have hnm := (name_of_methodNamed Bd.named Bd.method).1
  have X0 : Stand p l e room_1 s m #[(.int pa), (.int pb), (.int pc), (.int pd), (.int pe), (.int ft)] below meth c s₁ [] 0 0 := Stand.of_body Bd
  have e0 : s₁.heap = h0 := by rw [← hh, Bd.state]; rfl
  have N0 := Fr.nil n0
  have hlk : meth.locks = false := BodyLoose.notSynchronized Bd
  suffices hwk : Wk p.tables e below (s₁.setTop (mkF m 0 #[iv pa, iv pb, iv pc, iv pd, iv pe, iv ft, .unset, .unset, .unset, .unset, .unset] [])) (fun U o => U.status = .running ∧ Ended U below o ∧ ∃ v L, o = .returned v ∧ Q0 Z pa pb pc pd pe ft h0 n0 v U.heap L ∧ FrameEnd s o U L 1 5) by
    obtain ⟨U, o, k1, k2⟩ := hwk
    exact ⟨U, o, castTop (ef_0 m pa pb pc pd pe ft) k1, k2⟩
  refine Wk.go (A' := s₁.setTop (mkF m 1 #[iv pa, iv pb, iv pc, iv pd, iv pe, iv ft, .unset, .unset, .unset, .unset, .unset] [(.int (5 : Int32))])) (fun t k => XS.iconst X0.here hx rfl (hb hby at_0) k) ?_
  obtain ⟨T1, h1, k1, X1, e1, E1, A1, st1⟩ := newP (aty := .byte) X0 hx hZ (tw0 hw) e0 (g := (mkF m 1 #[iv pa, iv pb, iv pc, iv pd, iv pe, iv ft, .unset, .unset, .unset, .unset, .unset] [(.int (5 : Int32))])) rfl (hb hby at_1) rfl (by decide) (cap := 5) (by decide) (by decide) (by decide) (by decide)
  obtain ⟨b1, g1⟩ : ∃ z, z = h0.size := ⟨_, rfl⟩
  rw [← g1] at A1 st1
  have g_b1 : n0 ≤ b1 := Nat.le_trans Z0 (Nat.le_of_eq g1.symm)
  have V1 : BA Z h1 b1 5 (fun _ => 0) := BA.new A1
  have Zp1 : n0 ≤ h1.size := Nat.le_trans Z0 E1.1
  refine Wk.go (A' := T1.setTop (mkF m 3 #[iv pa, iv pb, iv pc, iv pd, iv pe, iv ft, .unset, .unset, .unset, .unset, .unset] [(.ref b1)])) (fun t k => st1 t k) ?_
  refine Wk.go (A' := T1.setTop (mkF m 5 #[iv pa, iv pb, iv pc, iv pd, iv pe, iv ft, rv b1, .unset, .unset, .unset, .unset] [])) (fun t k => XS.astore X1.here hx rfl (hb hby at_3) rfl rfl (l' := #[iv pa, iv pb, iv pc, iv pd, iv pe, iv ft, rv b1, .unset, .unset, .unset, .unset]) rfl k) ?_
  refine Wk.go (A' := T1.setTop (mkF m 7 #[iv pa, iv pb, iv pc, iv pd, iv pe, iv ft, rv b1, .unset, .unset, .unset, .unset] [(.ref b1)])) (fun t k => XS.aload X1.here hx rfl (hb hby at_5) rfl rfl k) ?_
  refine Wk.go (A' := T1.setTop (mkF m 8 #[iv pa, iv pb, iv pc, iv pd, iv pe, iv ft, rv b1, .unset, .unset, .unset, .unset] [(.int (0 : Int32)), (.ref b1)])) (fun t k => XS.iconst X1.here hx rfl (hb hby at_7) k) ?_
  refine Wk.go (A' := T1.setTop (mkF m 9 #[iv pa, iv pb, iv pc, iv pd, iv pe, iv ft, rv b1, .unset, .unset, .unset, .unset] [(.int pa), (.int (0 : Int32)), (.ref b1)])) (fun t k => XS.iloadN X1.here hx rfl (hb hby at_8) rfl k) ?_
  obtain ⟨_, _, ⟨T2, L2, k2, n2⟩, -, X2, ⟨Lc2, hQ2, l2, y2, z2⟩, st2⟩ := Jvm.LawKit.callS X1 hx (y := (⟨"com/example/arcwalk/arcwalk/TermSpansSpaceEndPinLaw", "byteOf", "(I)B"⟩ : MethodName)) hown (mvT hZ (tw1 hw)) (mvT hZ (tw2 hw)) (mvT hZ (tw3 hw)) (mvT hZ (tw4 hw)) (by decide) (backOf (W := 2) (rm1 l Z a0 hw [] pa  h1 n0 Zp1 ) hZ (tw4 hw) (tw3 hw) (by decide) (by decide)) (g := (mkF m 9 #[iv pa, iv pb, iv pc, iv pd, iv pe, iv ft, rv b1, .unset, .unset, .unset, .unset] [(.int pa), (.int (0 : Int32)), (.ref b1)])) rfl (by rw [hml]; rfl) (argsL := [(.int pa)]) (rest := [(.int (0 : Int32)), (.ref b1)]) (lenOf pd_1 rfl) rfl (by show 2 * 0 + _ ≤ _; exact Nat.le_of_eq rfl) (hb hby at_9) (fun _ _ => ⟨rfl, e1, (by decide : 1 + 0 ≤ _), (by decide : 5 + 0 ≤ _)⟩)
  dsimp only [Pt.U, Pt.locs, Pt.cells, Pt.slots] at X2 l2 y2 z2 st2 hQ2
  subst l2 y2 z2
  obtain ⟨rfl, N2q, hE2⟩ := hQ2
  have N2 := Fr.app N0 N2q
  refine Wk.go (A' := T2.setTop (mkF m 12 #[iv pa, iv pb, iv pc, iv pd, iv pe, iv ft, rv b1, .unset, .unset, .unset, .unset] [(.int (f_byte pa)), (.int (0 : Int32)), (.ref b1)])) (fun t k => st2 t k) ?_
  obtain ⟨T3, h3, X3, e3, W3, B3, st3⟩ := own_stB X2 hx hZ (hE2) V1 (j := (0 : Int32)) (by decide) (g := (mkF m 12 #[iv pa, iv pb, iv pc, iv pd, iv pe, iv ft, rv b1, .unset, .unset, .unset, .unset] [(.int (f_byte pa)), (.int (0 : Int32)), (.ref b1)])) rfl rfl (hb hby at_12)
  have V3 : BA Z h3 b1 5 (own_upd (fun _ => 0) 0 ((f_byte pa)).toInt8.toInt32) := B3
  obtain ⟨f1, hf1⟩ : ∃ z, z = (own_upd (fun _ => 0) 0 ((f_byte pa)).toInt8.toInt32) := ⟨_, rfl⟩
  rw [← hf1] at V3
  have f4 := V3
  have Zp3 : n0 ≤ h3.size := Nat.le_trans Zp1 (Nat.le_of_eq W3.size.symm)
  have N3 := Fr.snoc X3 N2 g_b1
  refine Wk.go (A' := T3.setTop (mkF m 13 #[iv pa, iv pb, iv pc, iv pd, iv pe, iv ft, rv b1, .unset, .unset, .unset, .unset] [])) (fun t k => st3 t k) ?_
  refine Wk.go (A' := T3.setTop (mkF m 15 #[iv pa, iv pb, iv pc, iv pd, iv pe, iv ft, rv b1, .unset, .unset, .unset, .unset] [(.ref b1)])) (fun t k => XS.aload X3.here hx rfl (hb hby at_13) rfl rfl k) ?_
  refine Wk.go (A' := T3.setTop (mkF m 16 #[iv pa, iv pb, iv pc, iv pd, iv pe, iv ft, rv b1, .unset, .unset, .unset, .unset] [(.int (1 : Int32)), (.ref b1)])) (fun t k => XS.iconst X3.here hx rfl (hb hby at_15) k) ?_
  refine Wk.go (A' := T3.setTop (mkF m 17 #[iv pa, iv pb, iv pc, iv pd, iv pe, iv ft, rv b1, .unset, .unset, .unset, .unset] [(.int pb), (.int (1 : Int32)), (.ref b1)])) (fun t k => XS.iloadN X3.here hx rfl (hb hby at_16) rfl k) ?_
  obtain ⟨_, _, ⟨T5, L5, k5, n5⟩, -, X5, ⟨Lc5, hQ5, l5, y5, z5⟩, st5⟩ := Jvm.LawKit.callS X3 hx (y := (⟨"com/example/arcwalk/arcwalk/TermSpansSpaceEndPinLaw", "byteOf", "(I)B"⟩ : MethodName)) hown (mvT hZ (tw1 hw)) (mvT hZ (tw2 hw)) (mvT hZ (tw3 hw)) (mvT hZ (tw4 hw)) (by decide) (backOf (W := 2) (rm1 l Z a0 hw [] pb  h3 n0 Zp3 ) hZ (tw4 hw) (tw3 hw) (by decide) (by decide)) (g := (mkF m 17 #[iv pa, iv pb, iv pc, iv pd, iv pe, iv ft, rv b1, .unset, .unset, .unset, .unset] [(.int pb), (.int (1 : Int32)), (.ref b1)])) rfl (by rw [hml]; rfl) (argsL := [(.int pb)]) (rest := [(.int (1 : Int32)), (.ref b1)]) (lenOf pd_1 rfl) rfl (by show 2 * 0 + _ ≤ _; exact Nat.le_of_eq rfl) (hb hby at_17) (fun _ _ => ⟨rfl, e3, (by decide : 1 + 0 ≤ _), (by decide : 5 + 0 ≤ _)⟩)
  dsimp only [Pt.U, Pt.locs, Pt.cells, Pt.slots] at X5 l5 y5 z5 st5 hQ5
  subst l5 y5 z5
  obtain ⟨rfl, N5q, hE5⟩ := hQ5
  have N5 := Fr.app N3 N5q
  refine Wk.go (A' := T5.setTop (mkF m 20 #[iv pa, iv pb, iv pc, iv pd, iv pe, iv ft, rv b1, .unset, .unset, .unset, .unset] [(.int (f_byte pb)), (.int (1 : Int32)), (.ref b1)])) (fun t k => st5 t k) ?_
  obtain ⟨T6, h6, X6, e6, W6, B6, st6⟩ := own_stB X5 hx hZ (hE5) f4 (j := (1 : Int32)) (by decide) (g := (mkF m 20 #[iv pa, iv pb, iv pc, iv pd, iv pe, iv ft, rv b1, .unset, .unset, .unset, .unset] [(.int (f_byte pb)), (.int (1 : Int32)), (.ref b1)])) rfl rfl (hb hby at_20)
  have V6 : BA Z h6 b1 5 (own_upd f1 1 ((f_byte pb)).toInt8.toInt32) := B6
  obtain ⟨f2, hf2⟩ : ∃ z, z = (own_upd f1 1 ((f_byte pb)).toInt8.toInt32) := ⟨_, rfl⟩
  rw [← hf2] at V6
  have f7 := V6
  have Zp6 : n0 ≤ h6.size := Nat.le_trans Zp3 (Nat.le_of_eq W6.size.symm)
  have N6 := Fr.snoc X6 N5 g_b1
  refine Wk.go (A' := T6.setTop (mkF m 21 #[iv pa, iv pb, iv pc, iv pd, iv pe, iv ft, rv b1, .unset, .unset, .unset, .unset] [])) (fun t k => st6 t k) ?_
  refine Wk.go (A' := T6.setTop (mkF m 23 #[iv pa, iv pb, iv pc, iv pd, iv pe, iv ft, rv b1, .unset, .unset, .unset, .unset] [(.ref b1)])) (fun t k => XS.aload X6.here hx rfl (hb hby at_21) rfl rfl k) ?_
  refine Wk.go (A' := T6.setTop (mkF m 24 #[iv pa, iv pb, iv pc, iv pd, iv pe, iv ft, rv b1, .unset, .unset, .unset, .unset] [(.int (2 : Int32)), (.ref b1)])) (fun t k => XS.iconst X6.here hx rfl (hb hby at_23) k) ?_
  refine Wk.go (A' := T6.setTop (mkF m 25 #[iv pa, iv pb, iv pc, iv pd, iv pe, iv ft, rv b1, .unset, .unset, .unset, .unset] [(.int pc), (.int (2 : Int32)), (.ref b1)])) (fun t k => XS.iloadN X6.here hx rfl (hb hby at_24) rfl k) ?_
  obtain ⟨_, _, ⟨T8, L8, k8, n8⟩, -, X8, ⟨Lc8, hQ8, l8, y8, z8⟩, st8⟩ := Jvm.LawKit.callS X6 hx (y := (⟨"com/example/arcwalk/arcwalk/TermSpansSpaceEndPinLaw", "byteOf", "(I)B"⟩ : MethodName)) hown (mvT hZ (tw1 hw)) (mvT hZ (tw2 hw)) (mvT hZ (tw3 hw)) (mvT hZ (tw4 hw)) (by decide) (backOf (W := 2) (rm1 l Z a0 hw [] pc  h6 n0 Zp6 ) hZ (tw4 hw) (tw3 hw) (by decide) (by decide)) (g := (mkF m 25 #[iv pa, iv pb, iv pc, iv pd, iv pe, iv ft, rv b1, .unset, .unset, .unset, .unset] [(.int pc), (.int (2 : Int32)), (.ref b1)])) rfl (by rw [hml]; rfl) (argsL := [(.int pc)]) (rest := [(.int (2 : Int32)), (.ref b1)]) (lenOf pd_1 rfl) rfl (by show 2 * 0 + _ ≤ _; exact Nat.le_of_eq rfl) (hb hby at_25) (fun _ _ => ⟨rfl, e6, (by decide : 1 + 0 ≤ _), (by decide : 5 + 0 ≤ _)⟩)
  dsimp only [Pt.U, Pt.locs, Pt.cells, Pt.slots] at X8 l8 y8 z8 st8 hQ8
  subst l8 y8 z8
  obtain ⟨rfl, N8q, hE8⟩ := hQ8
  have N8 := Fr.app N6 N8q
  refine Wk.go (A' := T8.setTop (mkF m 28 #[iv pa, iv pb, iv pc, iv pd, iv pe, iv ft, rv b1, .unset, .unset, .unset, .unset] [(.int (f_byte pc)), (.int (2 : Int32)), (.ref b1)])) (fun t k => st8 t k) ?_
  obtain ⟨T9, h9, X9, e9, W9, B9, st9⟩ := own_stB X8 hx hZ (hE8) f7 (j := (2 : Int32)) (by decide) (g := (mkF m 28 #[iv pa, iv pb, iv pc, iv pd, iv pe, iv ft, rv b1, .unset, .unset, .unset, .unset] [(.int (f_byte pc)), (.int (2 : Int32)), (.ref b1)])) rfl rfl (hb hby at_28)
  have V9 : BA Z h9 b1 5 (own_upd f2 2 ((f_byte pc)).toInt8.toInt32) := B9
  obtain ⟨f3, hf3⟩ : ∃ z, z = (own_upd f2 2 ((f_byte pc)).toInt8.toInt32) := ⟨_, rfl⟩
  rw [← hf3] at V9
  have f10 := V9
  have Zp9 : n0 ≤ h9.size := Nat.le_trans Zp6 (Nat.le_of_eq W9.size.symm)
  have N9 := Fr.snoc X9 N8 g_b1
  refine Wk.go (A' := T9.setTop (mkF m 29 #[iv pa, iv pb, iv pc, iv pd, iv pe, iv ft, rv b1, .unset, .unset, .unset, .unset] [])) (fun t k => st9 t k) ?_
  refine Wk.go (A' := T9.setTop (mkF m 31 #[iv pa, iv pb, iv pc, iv pd, iv pe, iv ft, rv b1, .unset, .unset, .unset, .unset] [(.ref b1)])) (fun t k => XS.aload X9.here hx rfl (hb hby at_29) rfl rfl k) ?_
  refine Wk.go (A' := T9.setTop (mkF m 32 #[iv pa, iv pb, iv pc, iv pd, iv pe, iv ft, rv b1, .unset, .unset, .unset, .unset] [(.int (3 : Int32)), (.ref b1)])) (fun t k => XS.iconst X9.here hx rfl (hb hby at_31) k) ?_
  refine Wk.go (A' := T9.setTop (mkF m 33 #[iv pa, iv pb, iv pc, iv pd, iv pe, iv ft, rv b1, .unset, .unset, .unset, .unset] [(.int pd), (.int (3 : Int32)), (.ref b1)])) (fun t k => XS.iloadN X9.here hx rfl (hb hby at_32) rfl k) ?_
  obtain ⟨_, _, ⟨T11, L11, k11, n11⟩, -, X11, ⟨Lc11, hQ11, l11, y11, z11⟩, st11⟩ := Jvm.LawKit.callS X9 hx (y := (⟨"com/example/arcwalk/arcwalk/TermSpansSpaceEndPinLaw", "byteOf", "(I)B"⟩ : MethodName)) hown (mvT hZ (tw1 hw)) (mvT hZ (tw2 hw)) (mvT hZ (tw3 hw)) (mvT hZ (tw4 hw)) (by decide) (backOf (W := 2) (rm1 l Z a0 hw [] pd  h9 n0 Zp9 ) hZ (tw4 hw) (tw3 hw) (by decide) (by decide)) (g := (mkF m 33 #[iv pa, iv pb, iv pc, iv pd, iv pe, iv ft, rv b1, .unset, .unset, .unset, .unset] [(.int pd), (.int (3 : Int32)), (.ref b1)])) rfl (by rw [hml]; rfl) (argsL := [(.int pd)]) (rest := [(.int (3 : Int32)), (.ref b1)]) (lenOf pd_1 rfl) rfl (by show 2 * 0 + _ ≤ _; exact Nat.le_of_eq rfl) (hb hby at_33) (fun _ _ => ⟨rfl, e9, (by decide : 1 + 0 ≤ _), (by decide : 5 + 0 ≤ _)⟩)
  dsimp only [Pt.U, Pt.locs, Pt.cells, Pt.slots] at X11 l11 y11 z11 st11 hQ11
  subst l11 y11 z11
  obtain ⟨rfl, N11q, hE11⟩ := hQ11
  have N11 := Fr.app N9 N11q
  refine Wk.go (A' := T11.setTop (mkF m 36 #[iv pa, iv pb, iv pc, iv pd, iv pe, iv ft, rv b1, .unset, .unset, .unset, .unset] [(.int (f_byte pd)), (.int (3 : Int32)), (.ref b1)])) (fun t k => st11 t k) ?_
  obtain ⟨T12, h12, X12, e12, W12, B12, st12⟩ := own_stB X11 hx hZ (hE11) f10 (j := (3 : Int32)) (by decide) (g := (mkF m 36 #[iv pa, iv pb, iv pc, iv pd, iv pe, iv ft, rv b1, .unset, .unset, .unset, .unset] [(.int (f_byte pd)), (.int (3 : Int32)), (.ref b1)])) rfl rfl (hb hby at_36)
  have V12 : BA Z h12 b1 5 (own_upd f3 3 ((f_byte pd)).toInt8.toInt32) := B12
  obtain ⟨f4, hf4⟩ : ∃ z, z = (own_upd f3 3 ((f_byte pd)).toInt8.toInt32) := ⟨_, rfl⟩
  rw [← hf4] at V12
  have f13 := V12
  have Zp12 : n0 ≤ h12.size := Nat.le_trans Zp9 (Nat.le_of_eq W12.size.symm)
  have N12 := Fr.snoc X12 N11 g_b1
  refine Wk.go (A' := T12.setTop (mkF m 37 #[iv pa, iv pb, iv pc, iv pd, iv pe, iv ft, rv b1, .unset, .unset, .unset, .unset] [])) (fun t k => st12 t k) ?_
  refine Wk.go (A' := T12.setTop (mkF m 39 #[iv pa, iv pb, iv pc, iv pd, iv pe, iv ft, rv b1, .unset, .unset, .unset, .unset] [(.ref b1)])) (fun t k => XS.aload X12.here hx rfl (hb hby at_37) rfl rfl k) ?_
  refine Wk.go (A' := T12.setTop (mkF m 40 #[iv pa, iv pb, iv pc, iv pd, iv pe, iv ft, rv b1, .unset, .unset, .unset, .unset] [(.int (4 : Int32)), (.ref b1)])) (fun t k => XS.iconst X12.here hx rfl (hb hby at_39) k) ?_
  refine Wk.go (A' := T12.setTop (mkF m 42 #[iv pa, iv pb, iv pc, iv pd, iv pe, iv ft, rv b1, .unset, .unset, .unset, .unset] [(.int pe), (.int (4 : Int32)), (.ref b1)])) (fun t k => XS.iload X12.here hx rfl (hb hby at_40) rfl k) ?_
  obtain ⟨_, _, ⟨T14, L14, k14, n14⟩, -, X14, ⟨Lc14, hQ14, l14, y14, z14⟩, st14⟩ := Jvm.LawKit.callS X12 hx (y := (⟨"com/example/arcwalk/arcwalk/TermSpansSpaceEndPinLaw", "byteOf", "(I)B"⟩ : MethodName)) hown (mvT hZ (tw1 hw)) (mvT hZ (tw2 hw)) (mvT hZ (tw3 hw)) (mvT hZ (tw4 hw)) (by decide) (backOf (W := 2) (rm1 l Z a0 hw [] pe  h12 n0 Zp12 ) hZ (tw4 hw) (tw3 hw) (by decide) (by decide)) (g := (mkF m 42 #[iv pa, iv pb, iv pc, iv pd, iv pe, iv ft, rv b1, .unset, .unset, .unset, .unset] [(.int pe), (.int (4 : Int32)), (.ref b1)])) rfl (by rw [hml]; rfl) (argsL := [(.int pe)]) (rest := [(.int (4 : Int32)), (.ref b1)]) (lenOf pd_1 rfl) rfl (by show 2 * 0 + _ ≤ _; exact Nat.le_of_eq rfl) (hb hby at_42) (fun _ _ => ⟨rfl, e12, (by decide : 1 + 0 ≤ _), (by decide : 5 + 0 ≤ _)⟩)
  dsimp only [Pt.U, Pt.locs, Pt.cells, Pt.slots] at X14 l14 y14 z14 st14 hQ14
  subst l14 y14 z14
  obtain ⟨rfl, N14q, hE14⟩ := hQ14
  have N14 := Fr.app N12 N14q
  refine Wk.go (A' := T14.setTop (mkF m 45 #[iv pa, iv pb, iv pc, iv pd, iv pe, iv ft, rv b1, .unset, .unset, .unset, .unset] [(.int (f_byte pe)), (.int (4 : Int32)), (.ref b1)])) (fun t k => st14 t k) ?_
  obtain ⟨T15, h15, X15, e15, W15, B15, st15⟩ := own_stB X14 hx hZ (hE14) f13 (j := (4 : Int32)) (by decide) (g := (mkF m 45 #[iv pa, iv pb, iv pc, iv pd, iv pe, iv ft, rv b1, .unset, .unset, .unset, .unset] [(.int (f_byte pe)), (.int (4 : Int32)), (.ref b1)])) rfl rfl (hb hby at_45)
  have V15 : BA Z h15 b1 5 (own_upd f4 4 ((f_byte pe)).toInt8.toInt32) := B15
  obtain ⟨fB, hfB⟩ : ∃ z, z = (own_upd f4 4 ((f_byte pe)).toInt8.toInt32) := ⟨_, rfl⟩
  rw [← hfB] at V15
  have f16 := V15
  have Zp15 : n0 ≤ h15.size := Nat.le_trans Zp12 (Nat.le_of_eq W15.size.symm)
  have N15 := Fr.snoc X15 N14 g_b1
  refine Wk.go (A' := T15.setTop (mkF m 46 #[iv pa, iv pb, iv pc, iv pd, iv pe, iv ft, rv b1, .unset, .unset, .unset, .unset] [])) (fun t k => st15 t k) ?_
  refine Wk.go (A' := T15.setTop (mkF m 48 #[iv pa, iv pb, iv pc, iv pd, iv pe, iv ft, rv b1, .unset, .unset, .unset, .unset] [(.int ft)])) (fun t k => XS.iload X15.here hx rfl (hb hby at_46) rfl k) ?_
  refine Wk.go (A' := T15.setTop (mkF m 50 #[iv pa, iv pb, iv pc, iv pd, iv pe, iv ft, rv b1, .unset, .unset, .unset, .unset] [(.int (2147483647 : Int32)), (.int ft)])) (fun t k => X15.ldcInt hx hown (mvT hZ (tw5 hw)) (g := (mkF m 48 #[iv pa, iv pb, iv pc, iv pd, iv pe, iv ft, rv b1, .unset, .unset, .unset, .unset] [(.int ft)])) rfl (hb hby at_48) t k) ?_
  refine Wk.go (A' := T15.setTop (mkF m 51 #[iv pa, iv pb, iv pc, iv pd, iv pe, iv ft, rv b1, .unset, .unset, .unset, .unset] [(.int (ft &&& (2147483647 : Int32)))])) (fun t k => XS.iand X15.here hx rfl (hb hby at_50) rfl k) ?_
  refine Wk.go (A' := T15.setTop (mkF m 53 #[iv pa, iv pb, iv pc, iv pd, iv pe, iv ft, rv b1, .unset, .unset, .unset, .unset] [(.int (6 : Int32)), (.int (ft &&& (2147483647 : Int32)))])) (fun t k => XS.bipush X15.here hx rfl (hb hby at_51) k) ?_
  refine Wk.go (A' := T15.setTop (mkF m 54 #[iv pa, iv pb, iv pc, iv pd, iv pe, iv ft, rv b1, .unset, .unset, .unset, .unset] [(.int ((ft &&& (2147483647 : Int32)) % (6 : Int32)))])) (fun t k => iremM X15 hx rfl (hb hby at_53) rfl (by decide) k) ?_
  refine Wk.go (A' := T15.setTop (mkF m 56 #[iv pa, iv pb, iv pc, iv pd, iv pe, iv ft, rv b1, iv ((ft &&& (2147483647 : Int32)) % (6 : Int32)), .unset, .unset, .unset] [])) (fun t k => XS.istore X15.here hx rfl (hb hby at_54) rfl (l' := #[iv pa, iv pb, iv pc, iv pd, iv pe, iv ft, rv b1, iv ((ft &&& (2147483647 : Int32)) % (6 : Int32)), .unset, .unset, .unset]) rfl k) ?_
  generalize hib : ((ft &&& (2147483647 : Int32)) % (6 : Int32)) = ib
  obtain ⟨ht0, ht5⟩ : 0 ≤ ib.toInt ∧ ib.toInt ≤ 5 := by rw [← hib]; exact own_to ft
  refine Wk.go (A' := T15.setTop (mkF m 58 #[iv pa, iv pb, iv pc, iv pd, iv pe, iv ft, rv b1, iv ib, .unset, .unset, .unset] [(.int ft)])) (fun t k => XS.iload X15.here hx rfl (hb hby at_56) rfl k) ?_
  refine Wk.go (A' := T15.setTop (mkF m 60 #[iv pa, iv pb, iv pc, iv pd, iv pe, iv ft, rv b1, iv ib, .unset, .unset, .unset] [(.int (8 : Int32)), (.int ft)])) (fun t k => XS.bipush X15.here hx rfl (hb hby at_58) k) ?_
  refine Wk.go (A' := T15.setTop (mkF m 61 #[iv pa, iv pb, iv pc, iv pd, iv pe, iv ft, rv b1, iv ib, .unset, .unset, .unset] [(.int ((ft.toUInt32 >>> ((8 : Int32) &&& 31).toUInt32).toInt32))])) (fun t k => XS.iushr X15.here hx rfl (hb hby at_60) rfl k) ?_
  refine Wk.go (A' := T15.setTop (mkF m 63 #[iv pa, iv pb, iv pc, iv pd, iv pe, iv ft, rv b1, iv ib, .unset, .unset, .unset] [(.int (2147483647 : Int32)), (.int ((ft.toUInt32 >>> ((8 : Int32) &&& 31).toUInt32).toInt32))])) (fun t k => X15.ldcInt hx hown (mvT hZ (tw5 hw)) (g := (mkF m 61 #[iv pa, iv pb, iv pc, iv pd, iv pe, iv ft, rv b1, iv ib, .unset, .unset, .unset] [(.int ((ft.toUInt32 >>> ((8 : Int32) &&& 31).toUInt32).toInt32))])) rfl (hb hby at_61) t k) ?_
  refine Wk.go (A' := T15.setTop (mkF m 64 #[iv pa, iv pb, iv pc, iv pd, iv pe, iv ft, rv b1, iv ib, .unset, .unset, .unset] [(.int (((ft.toUInt32 >>> ((8 : Int32) &&& 31).toUInt32).toInt32) &&& (2147483647 : Int32)))])) (fun t k => XS.iand X15.here hx rfl (hb hby at_63) rfl k) ?_
  refine Wk.go (A' := T15.setTop (mkF m 66 #[iv pa, iv pb, iv pc, iv pd, iv pe, iv ft, rv b1, iv ib, .unset, .unset, .unset] [(.int ib), (.int (((ft.toUInt32 >>> ((8 : Int32) &&& 31).toUInt32).toInt32) &&& (2147483647 : Int32)))])) (fun t k => XS.iload X15.here hx rfl (hb hby at_64) rfl k) ?_
  refine Wk.go (A' := T15.setTop (mkF m 67 #[iv pa, iv pb, iv pc, iv pd, iv pe, iv ft, rv b1, iv ib, .unset, .unset, .unset] [(.int (1 : Int32)), (.int ib), (.int (((ft.toUInt32 >>> ((8 : Int32) &&& 31).toUInt32).toInt32) &&& (2147483647 : Int32)))])) (fun t k => XS.iconst X15.here hx rfl (hb hby at_66) k) ?_
  refine Wk.go (A' := T15.setTop (mkF m 68 #[iv pa, iv pb, iv pc, iv pd, iv pe, iv ft, rv b1, iv ib, .unset, .unset, .unset] [(.int (ib + (1 : Int32))), (.int (((ft.toUInt32 >>> ((8 : Int32) &&& 31).toUInt32).toInt32) &&& (2147483647 : Int32)))])) (fun t k => XS.iadd X15.here hx rfl (hb hby at_67) rfl k) ?_
  refine Wk.go (A' := T15.setTop (mkF m 69 #[iv pa, iv pb, iv pc, iv pd, iv pe, iv ft, rv b1, iv ib, .unset, .unset, .unset] [(.int ((((ft.toUInt32 >>> ((8 : Int32) &&& 31).toUInt32).toInt32) &&& (2147483647 : Int32)) % (ib + (1 : Int32))))])) (fun t k => iremM X15 hx rfl (hb hby at_68) rfl (own_nz ht0 ht5) k) ?_
  refine Wk.go (A' := T15.setTop (mkF m 71 #[iv pa, iv pb, iv pc, iv pd, iv pe, iv ft, rv b1, iv ib, iv ((((ft.toUInt32 >>> ((8 : Int32) &&& 31).toUInt32).toInt32) &&& (2147483647 : Int32)) % (ib + (1 : Int32))), .unset, .unset] [])) (fun t k => XS.istore X15.here hx rfl (hb hby at_69) rfl (l' := #[iv pa, iv pb, iv pc, iv pd, iv pe, iv ft, rv b1, iv ib, iv ((((ft.toUInt32 >>> ((8 : Int32) &&& 31).toUInt32).toInt32) &&& (2147483647 : Int32)) % (ib + (1 : Int32))), .unset, .unset]) rfl k) ?_
  generalize hia : ((((ft.toUInt32 >>> ((8 : Int32) &&& 31).toUInt32).toInt32) &&& (2147483647 : Int32)) % (ib + (1 : Int32))) = ia
  obtain ⟨hf0, hft⟩ : 0 ≤ ia.toInt ∧ ia.toInt ≤ ib.toInt := by rw [← hia]; exact own_from ht0 ht5 _
  refine Wk.go (A' := T15.setTop (mkF m 73 #[iv pa, iv pb, iv pc, iv pd, iv pe, iv ft, rv b1, iv ib, iv ia, .unset, .unset] [(.ref b1)])) (fun t k => XS.aload X15.here hx rfl (hb hby at_71) rfl rfl k) ?_
  refine Wk.go (A' := T15.setTop (mkF m 75 #[iv pa, iv pb, iv pc, iv pd, iv pe, iv ft, rv b1, iv ib, iv ia, .unset, .unset] [(.int ia), (.ref b1)])) (fun t k => XS.iload X15.here hx rfl (hb hby at_73) rfl k) ?_
  refine Wk.go (A' := T15.setTop (mkF m 77 #[iv pa, iv pb, iv pc, iv pd, iv pe, iv ft, rv b1, iv ib, iv ia, .unset, .unset] [(.int ib), (.int ia), (.ref b1)])) (fun t k => XS.iload X15.here hx rfl (hb hby at_75) rfl k) ?_
  obtain ⟨_, _, ⟨T17, L17, k17, n17⟩, -, X17, ⟨Lc17, hQ17, l17, y17, z17⟩, st17⟩ := Jvm.LawKit.callS X15 hx (y := (⟨"com/example/arcwalk/arcwalk/TermSpans", "spaceEnd", "([BII)I"⟩ : MethodName)) hown (mvT hZ (tw6 hw)) (mvT hZ (tw7 hw)) (mvT hZ (tw8 hw)) (mvT hZ (tw9 hw)) (by decide) (backOf (W := 0) (rm2 l Z a0 hw [] b1 ia ib fB h15 n0 Zp15 f16 hf0 hft ht5) hZ (tw9 hw) (tw8 hw) (by decide) (by decide)) (g := (mkF m 77 #[iv pa, iv pb, iv pc, iv pd, iv pe, iv ft, rv b1, iv ib, iv ia, .unset, .unset] [(.int ib), (.int ia), (.ref b1)])) rfl (by rw [hml]; rfl) (argsL := [(.ref b1), (.int ia), (.int ib)]) (rest := []) (lenOf pd_2 rfl) rfl (by show 2 * 0 + _ ≤ _; exact Nat.le_of_eq rfl) (hb hby at_77) (fun _ _ => ⟨rfl, e15, (by decide : 1 + 0 ≤ _), (by decide : 5 + 0 ≤ _)⟩)
  dsimp only [Pt.U, Pt.locs, Pt.cells, Pt.slots] at X17 l17 y17 z17 st17 hQ17
  subst l17 y17 z17
  obtain ⟨r, rfl, N17q, hE17, R1, R2, R3, R4⟩ := hQ17
  have N17 := Fr.app N15 N17q
  refine Wk.go (A' := T17.setTop (mkF m 80 #[iv pa, iv pb, iv pc, iv pd, iv pe, iv ft, rv b1, iv ib, iv ia, .unset, .unset] [(.int r)])) (fun t k => st17 t k) ?_
  refine Wk.go (A' := T17.setTop (mkF m 82 #[iv pa, iv pb, iv pc, iv pd, iv pe, iv ft, rv b1, iv ib, iv ia, iv r, .unset] [])) (fun t k => XS.istore X17.here hx rfl (hb hby at_80) rfl (l' := #[iv pa, iv pb, iv pc, iv pd, iv pe, iv ft, rv b1, iv ib, iv ia, iv r, .unset]) rfl k) ?_
  refine Wk.go (A' := T17.setTop (mkF m 84 #[iv pa, iv pb, iv pc, iv pd, iv pe, iv ft, rv b1, iv ib, iv ia, iv r, .unset] [(.int r)])) (fun t k => XS.iload X17.here hx rfl (hb hby at_82) rfl k) ?_
  refine Wk.go (A' := T17.setTop (mkF m 86 #[iv pa, iv pb, iv pc, iv pd, iv pe, iv ft, rv b1, iv ib, iv ia, iv r, .unset] [(.int ia), (.int r)])) (fun t k => XS.iload X17.here hx rfl (hb hby at_84) rfl k) ?_
  have hc86 : ¬ (r < ia) := by rw [Int32.lt_iff_toInt_lt]; omega
  refine Wk.go (A' := T17.setTop (mkF m 89 #[iv pa, iv pb, iv pc, iv pd, iv pe, iv ft, rv b1, iv ib, iv ia, iv r, .unset] [])) (fun t k => XS.icmpNo X17.here hx rfl (hb hby at_86) rfl (flt hc86).1 k) ?_
  refine Wk.go (A' := T17.setTop (mkF m 91 #[iv pa, iv pb, iv pc, iv pd, iv pe, iv ft, rv b1, iv ib, iv ia, iv r, .unset] [(.int r)])) (fun t k => XS.iload X17.here hx rfl (hb hby at_89) rfl k) ?_
  refine Wk.go (A' := T17.setTop (mkF m 93 #[iv pa, iv pb, iv pc, iv pd, iv pe, iv ft, rv b1, iv ib, iv ia, iv r, .unset] [(.int ib), (.int r)])) (fun t k => XS.iload X17.here hx rfl (hb hby at_91) rfl k) ?_
  have hc93 : ¬ (ib < r) := by rw [Int32.lt_iff_toInt_lt]; omega
  refine Wk.go (A' := T17.setTop (mkF m 98 #[iv pa, iv pb, iv pc, iv pd, iv pe, iv ft, rv b1, iv ib, iv ia, iv r, .unset] [])) (fun t k => XS.icmpYes X17.here hx rfl (pc0 := 93) (pc' := 98) rfl (hb hby at_93) rfl (flt hc93).2.2.2 (by decide) (by decide) k) ?_
  refine Wk.go (A' := T17.setTop (mkF m 100 #[iv pa, iv pb, iv pc, iv pd, iv pe, iv ft, rv b1, iv ib, iv ia, iv r, .unset] [(.ref b1)])) (fun t k => XS.aload X17.here hx rfl (hb hby at_98) rfl rfl k) ?_
  refine Wk.go (A' := T17.setTop (mkF m 101 #[iv pa, iv pb, iv pc, iv pd, iv pe, iv ft, rv b1, iv ib, iv ia, iv r, .unset] [(.int (0 : Int32)), (.ref b1)])) (fun t k => XS.iconst X17.here hx rfl (hb hby at_100) k) ?_
  refine Wk.go (A' := T17.setTop (mkF m 103 #[iv pa, iv pb, iv pc, iv pd, iv pe, iv ft, rv b1, iv ib, iv ia, iv r, .unset] [(.int ia), (.int (0 : Int32)), (.ref b1)])) (fun t k => XS.iload X17.here hx rfl (hb hby at_101) rfl k) ?_
  refine Wk.go (A' := T17.setTop (mkF m 105 #[iv pa, iv pb, iv pc, iv pd, iv pe, iv ft, rv b1, iv ib, iv ia, iv r, .unset] [(.int r), (.int ia), (.int (0 : Int32)), (.ref b1)])) (fun t k => XS.iload X17.here hx rfl (hb hby at_103) rfl k) ?_
  obtain ⟨_, _, ⟨T18, L18, k18, n18⟩, -, X18, ⟨Lc18, hQ18, l18, y18, z18⟩, st18⟩ := Jvm.LawKit.callS X17 hx (y := (⟨"com/example/arcwalk/arcwalk/TermSpansSpaceEndPinLaw", "blankOrOutside", "([BIII)Z"⟩ : MethodName)) hown (mvT hZ (tw10 hw)) (mvT hZ (tw11 hw)) (mvT hZ (tw3 hw)) (mvT hZ (tw12 hw)) (by decide) (backOf (W := 0) (rm3 l Z a0 hw [] b1 (0 : Int32) ia r fB h15 n0 Zp15 f16 (by decide)) hZ (tw12 hw) (tw3 hw) (by decide) (by decide)) (g := (mkF m 105 #[iv pa, iv pb, iv pc, iv pd, iv pe, iv ft, rv b1, iv ib, iv ia, iv r, .unset] [(.int r), (.int ia), (.int (0 : Int32)), (.ref b1)])) rfl (by rw [hml]; rfl) (argsL := [(.ref b1), (.int (0 : Int32)), (.int ia), (.int r)]) (rest := []) (lenOf pd_3 rfl) rfl (by show 2 * 0 + _ ≤ _; exact Nat.le_of_eq rfl) (hb hby at_105) (fun _ _ => ⟨rfl, hE17, (by decide : 1 + 0 ≤ _), (by decide : 5 + 0 ≤ _)⟩)
  dsimp only [Pt.U, Pt.locs, Pt.cells, Pt.slots] at X18 l18 y18 z18 st18 hQ18
  subst l18 y18 z18
  obtain ⟨rfl, N18q, hE18⟩ := hQ18
  have N18 := Fr.app N17 N18q
  refine Wk.go (A' := T18.setTop (mkF m 108 #[iv pa, iv pb, iv pc, iv pd, iv pe, iv ft, rv b1, iv ib, iv ia, iv r, .unset] [(.int (f_blank b1 (0 : Int32) ia r fB))])) (fun t k => st18 t k) ?_
  have hc108 : ¬ ((f_blank b1 (0 : Int32) ia r fB) = (0 : Int32)) := own_blank _ (by decide) R3
  refine Wk.go (A' := T18.setTop (mkF m 111 #[iv pa, iv pb, iv pc, iv pd, iv pe, iv ft, rv b1, iv ib, iv ia, iv r, .unset] [])) (fun t k => XS.ifNo X18.here hx rfl (hb hby at_108) rfl ((if0 _ _).trans (feq hc108).1) k) ?_
  refine Wk.go (A' := T18.setTop (mkF m 113 #[iv pa, iv pb, iv pc, iv pd, iv pe, iv ft, rv b1, iv ib, iv ia, iv r, .unset] [(.ref b1)])) (fun t k => XS.aload X18.here hx rfl (hb hby at_111) rfl rfl k) ?_
  refine Wk.go (A' := T18.setTop (mkF m 114 #[iv pa, iv pb, iv pc, iv pd, iv pe, iv ft, rv b1, iv ib, iv ia, iv r, .unset] [(.int (1 : Int32)), (.ref b1)])) (fun t k => XS.iconst X18.here hx rfl (hb hby at_113) k) ?_
  refine Wk.go (A' := T18.setTop (mkF m 116 #[iv pa, iv pb, iv pc, iv pd, iv pe, iv ft, rv b1, iv ib, iv ia, iv r, .unset] [(.int ia), (.int (1 : Int32)), (.ref b1)])) (fun t k => XS.iload X18.here hx rfl (hb hby at_114) rfl k) ?_
  refine Wk.go (A' := T18.setTop (mkF m 118 #[iv pa, iv pb, iv pc, iv pd, iv pe, iv ft, rv b1, iv ib, iv ia, iv r, .unset] [(.int r), (.int ia), (.int (1 : Int32)), (.ref b1)])) (fun t k => XS.iload X18.here hx rfl (hb hby at_116) rfl k) ?_
  obtain ⟨_, _, ⟨T19, L19, k19, n19⟩, -, X19, ⟨Lc19, hQ19, l19, y19, z19⟩, st19⟩ := Jvm.LawKit.callS X18 hx (y := (⟨"com/example/arcwalk/arcwalk/TermSpansSpaceEndPinLaw", "blankOrOutside", "([BIII)Z"⟩ : MethodName)) hown (mvT hZ (tw10 hw)) (mvT hZ (tw11 hw)) (mvT hZ (tw3 hw)) (mvT hZ (tw12 hw)) (by decide) (backOf (W := 0) (rm3 l Z a0 hw [] b1 (1 : Int32) ia r fB h15 n0 Zp15 f16 (by decide)) hZ (tw12 hw) (tw3 hw) (by decide) (by decide)) (g := (mkF m 118 #[iv pa, iv pb, iv pc, iv pd, iv pe, iv ft, rv b1, iv ib, iv ia, iv r, .unset] [(.int r), (.int ia), (.int (1 : Int32)), (.ref b1)])) rfl (by rw [hml]; rfl) (argsL := [(.ref b1), (.int (1 : Int32)), (.int ia), (.int r)]) (rest := []) (lenOf pd_3 rfl) rfl (by show 2 * 0 + _ ≤ _; exact Nat.le_of_eq rfl) (hb hby at_118) (fun _ _ => ⟨rfl, (hE18), (by decide : 1 + 0 ≤ _), (by decide : 5 + 0 ≤ _)⟩)
  dsimp only [Pt.U, Pt.locs, Pt.cells, Pt.slots] at X19 l19 y19 z19 st19 hQ19
  subst l19 y19 z19
  obtain ⟨rfl, N19q, hE19⟩ := hQ19
  have N19 := Fr.app N18 N19q
  refine Wk.go (A' := T19.setTop (mkF m 121 #[iv pa, iv pb, iv pc, iv pd, iv pe, iv ft, rv b1, iv ib, iv ia, iv r, .unset] [(.int (f_blank b1 (1 : Int32) ia r fB))])) (fun t k => st19 t k) ?_
  have hc121 : ¬ ((f_blank b1 (1 : Int32) ia r fB) = (0 : Int32)) := own_blank _ (by decide) R3
  refine Wk.go (A' := T19.setTop (mkF m 124 #[iv pa, iv pb, iv pc, iv pd, iv pe, iv ft, rv b1, iv ib, iv ia, iv r, .unset] [])) (fun t k => XS.ifNo X19.here hx rfl (hb hby at_121) rfl ((if0 _ _).trans (feq hc121).1) k) ?_
  refine Wk.go (A' := T19.setTop (mkF m 126 #[iv pa, iv pb, iv pc, iv pd, iv pe, iv ft, rv b1, iv ib, iv ia, iv r, .unset] [(.ref b1)])) (fun t k => XS.aload X19.here hx rfl (hb hby at_124) rfl rfl k) ?_
  refine Wk.go (A' := T19.setTop (mkF m 127 #[iv pa, iv pb, iv pc, iv pd, iv pe, iv ft, rv b1, iv ib, iv ia, iv r, .unset] [(.int (2 : Int32)), (.ref b1)])) (fun t k => XS.iconst X19.here hx rfl (hb hby at_126) k) ?_
  refine Wk.go (A' := T19.setTop (mkF m 129 #[iv pa, iv pb, iv pc, iv pd, iv pe, iv ft, rv b1, iv ib, iv ia, iv r, .unset] [(.int ia), (.int (2 : Int32)), (.ref b1)])) (fun t k => XS.iload X19.here hx rfl (hb hby at_127) rfl k) ?_
  refine Wk.go (A' := T19.setTop (mkF m 131 #[iv pa, iv pb, iv pc, iv pd, iv pe, iv ft, rv b1, iv ib, iv ia, iv r, .unset] [(.int r), (.int ia), (.int (2 : Int32)), (.ref b1)])) (fun t k => XS.iload X19.here hx rfl (hb hby at_129) rfl k) ?_
  obtain ⟨_, _, ⟨T20, L20, k20, n20⟩, -, X20, ⟨Lc20, hQ20, l20, y20, z20⟩, st20⟩ := Jvm.LawKit.callS X19 hx (y := (⟨"com/example/arcwalk/arcwalk/TermSpansSpaceEndPinLaw", "blankOrOutside", "([BIII)Z"⟩ : MethodName)) hown (mvT hZ (tw10 hw)) (mvT hZ (tw11 hw)) (mvT hZ (tw3 hw)) (mvT hZ (tw12 hw)) (by decide) (backOf (W := 0) (rm3 l Z a0 hw [] b1 (2 : Int32) ia r fB h15 n0 Zp15 f16 (by decide)) hZ (tw12 hw) (tw3 hw) (by decide) (by decide)) (g := (mkF m 131 #[iv pa, iv pb, iv pc, iv pd, iv pe, iv ft, rv b1, iv ib, iv ia, iv r, .unset] [(.int r), (.int ia), (.int (2 : Int32)), (.ref b1)])) rfl (by rw [hml]; rfl) (argsL := [(.ref b1), (.int (2 : Int32)), (.int ia), (.int r)]) (rest := []) (lenOf pd_3 rfl) rfl (by show 2 * 0 + _ ≤ _; exact Nat.le_of_eq rfl) (hb hby at_131) (fun _ _ => ⟨rfl, (hE19), (by decide : 1 + 0 ≤ _), (by decide : 5 + 0 ≤ _)⟩)
  dsimp only [Pt.U, Pt.locs, Pt.cells, Pt.slots] at X20 l20 y20 z20 st20 hQ20
  subst l20 y20 z20
  obtain ⟨rfl, N20q, hE20⟩ := hQ20
  have N20 := Fr.app N19 N20q
  refine Wk.go (A' := T20.setTop (mkF m 134 #[iv pa, iv pb, iv pc, iv pd, iv pe, iv ft, rv b1, iv ib, iv ia, iv r, .unset] [(.int (f_blank b1 (2 : Int32) ia r fB))])) (fun t k => st20 t k) ?_
  have hc134 : ¬ ((f_blank b1 (2 : Int32) ia r fB) = (0 : Int32)) := own_blank _ (by decide) R3
  refine Wk.go (A' := T20.setTop (mkF m 137 #[iv pa, iv pb, iv pc, iv pd, iv pe, iv ft, rv b1, iv ib, iv ia, iv r, .unset] [])) (fun t k => XS.ifNo X20.here hx rfl (hb hby at_134) rfl ((if0 _ _).trans (feq hc134).1) k) ?_
  refine Wk.go (A' := T20.setTop (mkF m 139 #[iv pa, iv pb, iv pc, iv pd, iv pe, iv ft, rv b1, iv ib, iv ia, iv r, .unset] [(.ref b1)])) (fun t k => XS.aload X20.here hx rfl (hb hby at_137) rfl rfl k) ?_
  refine Wk.go (A' := T20.setTop (mkF m 140 #[iv pa, iv pb, iv pc, iv pd, iv pe, iv ft, rv b1, iv ib, iv ia, iv r, .unset] [(.int (3 : Int32)), (.ref b1)])) (fun t k => XS.iconst X20.here hx rfl (hb hby at_139) k) ?_
  refine Wk.go (A' := T20.setTop (mkF m 142 #[iv pa, iv pb, iv pc, iv pd, iv pe, iv ft, rv b1, iv ib, iv ia, iv r, .unset] [(.int ia), (.int (3 : Int32)), (.ref b1)])) (fun t k => XS.iload X20.here hx rfl (hb hby at_140) rfl k) ?_
  refine Wk.go (A' := T20.setTop (mkF m 144 #[iv pa, iv pb, iv pc, iv pd, iv pe, iv ft, rv b1, iv ib, iv ia, iv r, .unset] [(.int r), (.int ia), (.int (3 : Int32)), (.ref b1)])) (fun t k => XS.iload X20.here hx rfl (hb hby at_142) rfl k) ?_
  obtain ⟨_, _, ⟨T21, L21, k21, n21⟩, -, X21, ⟨Lc21, hQ21, l21, y21, z21⟩, st21⟩ := Jvm.LawKit.callS X20 hx (y := (⟨"com/example/arcwalk/arcwalk/TermSpansSpaceEndPinLaw", "blankOrOutside", "([BIII)Z"⟩ : MethodName)) hown (mvT hZ (tw10 hw)) (mvT hZ (tw11 hw)) (mvT hZ (tw3 hw)) (mvT hZ (tw12 hw)) (by decide) (backOf (W := 0) (rm3 l Z a0 hw [] b1 (3 : Int32) ia r fB h15 n0 Zp15 f16 (by decide)) hZ (tw12 hw) (tw3 hw) (by decide) (by decide)) (g := (mkF m 144 #[iv pa, iv pb, iv pc, iv pd, iv pe, iv ft, rv b1, iv ib, iv ia, iv r, .unset] [(.int r), (.int ia), (.int (3 : Int32)), (.ref b1)])) rfl (by rw [hml]; rfl) (argsL := [(.ref b1), (.int (3 : Int32)), (.int ia), (.int r)]) (rest := []) (lenOf pd_3 rfl) rfl (by show 2 * 0 + _ ≤ _; exact Nat.le_of_eq rfl) (hb hby at_144) (fun _ _ => ⟨rfl, (hE20), (by decide : 1 + 0 ≤ _), (by decide : 5 + 0 ≤ _)⟩)
  dsimp only [Pt.U, Pt.locs, Pt.cells, Pt.slots] at X21 l21 y21 z21 st21 hQ21
  subst l21 y21 z21
  obtain ⟨rfl, N21q, hE21⟩ := hQ21
  have N21 := Fr.app N20 N21q
  refine Wk.go (A' := T21.setTop (mkF m 147 #[iv pa, iv pb, iv pc, iv pd, iv pe, iv ft, rv b1, iv ib, iv ia, iv r, .unset] [(.int (f_blank b1 (3 : Int32) ia r fB))])) (fun t k => st21 t k) ?_
  have hc147 : ¬ ((f_blank b1 (3 : Int32) ia r fB) = (0 : Int32)) := own_blank _ (by decide) R3
  refine Wk.go (A' := T21.setTop (mkF m 150 #[iv pa, iv pb, iv pc, iv pd, iv pe, iv ft, rv b1, iv ib, iv ia, iv r, .unset] [])) (fun t k => XS.ifNo X21.here hx rfl (hb hby at_147) rfl ((if0 _ _).trans (feq hc147).1) k) ?_
  refine Wk.go (A' := T21.setTop (mkF m 152 #[iv pa, iv pb, iv pc, iv pd, iv pe, iv ft, rv b1, iv ib, iv ia, iv r, .unset] [(.ref b1)])) (fun t k => XS.aload X21.here hx rfl (hb hby at_150) rfl rfl k) ?_
  refine Wk.go (A' := T21.setTop (mkF m 153 #[iv pa, iv pb, iv pc, iv pd, iv pe, iv ft, rv b1, iv ib, iv ia, iv r, .unset] [(.int (4 : Int32)), (.ref b1)])) (fun t k => XS.iconst X21.here hx rfl (hb hby at_152) k) ?_
  refine Wk.go (A' := T21.setTop (mkF m 155 #[iv pa, iv pb, iv pc, iv pd, iv pe, iv ft, rv b1, iv ib, iv ia, iv r, .unset] [(.int ia), (.int (4 : Int32)), (.ref b1)])) (fun t k => XS.iload X21.here hx rfl (hb hby at_153) rfl k) ?_
  refine Wk.go (A' := T21.setTop (mkF m 157 #[iv pa, iv pb, iv pc, iv pd, iv pe, iv ft, rv b1, iv ib, iv ia, iv r, .unset] [(.int r), (.int ia), (.int (4 : Int32)), (.ref b1)])) (fun t k => XS.iload X21.here hx rfl (hb hby at_155) rfl k) ?_
  obtain ⟨_, _, ⟨T22, L22, k22, n22⟩, -, X22, ⟨Lc22, hQ22, l22, y22, z22⟩, st22⟩ := Jvm.LawKit.callS X21 hx (y := (⟨"com/example/arcwalk/arcwalk/TermSpansSpaceEndPinLaw", "blankOrOutside", "([BIII)Z"⟩ : MethodName)) hown (mvT hZ (tw10 hw)) (mvT hZ (tw11 hw)) (mvT hZ (tw3 hw)) (mvT hZ (tw12 hw)) (by decide) (backOf (W := 0) (rm3 l Z a0 hw [] b1 (4 : Int32) ia r fB h15 n0 Zp15 f16 (by decide)) hZ (tw12 hw) (tw3 hw) (by decide) (by decide)) (g := (mkF m 157 #[iv pa, iv pb, iv pc, iv pd, iv pe, iv ft, rv b1, iv ib, iv ia, iv r, .unset] [(.int r), (.int ia), (.int (4 : Int32)), (.ref b1)])) rfl (by rw [hml]; rfl) (argsL := [(.ref b1), (.int (4 : Int32)), (.int ia), (.int r)]) (rest := []) (lenOf pd_3 rfl) rfl (by show 2 * 0 + _ ≤ _; exact Nat.le_of_eq rfl) (hb hby at_157) (fun _ _ => ⟨rfl, (hE21), (by decide : 1 + 0 ≤ _), (by decide : 5 + 0 ≤ _)⟩)
  dsimp only [Pt.U, Pt.locs, Pt.cells, Pt.slots] at X22 l22 y22 z22 st22 hQ22
  subst l22 y22 z22
  obtain ⟨rfl, N22q, hE22⟩ := hQ22
  have N22 := Fr.app N21 N22q
  refine Wk.go (A' := T22.setTop (mkF m 160 #[iv pa, iv pb, iv pc, iv pd, iv pe, iv ft, rv b1, iv ib, iv ia, iv r, .unset] [(.int (f_blank b1 (4 : Int32) ia r fB))])) (fun t k => st22 t k) ?_
  have hc160 : ¬ ((f_blank b1 (4 : Int32) ia r fB) = (0 : Int32)) := own_blank _ (by decide) R3
  refine Wk.go (A' := T22.setTop (mkF m 163 #[iv pa, iv pb, iv pc, iv pd, iv pe, iv ft, rv b1, iv ib, iv ia, iv r, .unset] [])) (fun t k => XS.ifNo X22.here hx rfl (hb hby at_160) rfl ((if0 _ _).trans (feq hc160).1) k) ?_
  refine Wk.go (A' := T22.setTop (mkF m 164 #[iv pa, iv pb, iv pc, iv pd, iv pe, iv ft, rv b1, iv ib, iv ia, iv r, .unset] [(.int (1 : Int32))])) (fun t k => XS.iconst X22.here hx rfl (hb hby at_163) k) ?_
  refine Wk.go (A' := T22.setTop (mkF m 168 #[iv pa, iv pb, iv pc, iv pd, iv pe, iv ft, rv b1, iv ib, iv ia, iv r, .unset] [(.int (1 : Int32))])) (fun t k => XS.goto X22.here hx rfl (pc0 := 164) (pc' := 168) rfl (hb hby at_164) (by decide) (by decide) k) ?_
  refine Wk.go (A' := T22.setTop (mkF m 170 #[iv pa, iv pb, iv pc, iv pd, iv pe, iv ft, rv b1, iv ib, iv ia, iv r, iv (1 : Int32)] [])) (fun t k => XS.istore X22.here hx rfl (hb hby at_168) rfl (l' := #[iv pa, iv pb, iv pc, iv pd, iv pe, iv ft, rv b1, iv ib, iv ia, iv r, iv (1 : Int32)]) rfl k) ?_
  refine Wk.go (A' := T22.setTop (mkF m 172 #[iv pa, iv pb, iv pc, iv pd, iv pe, iv ft, rv b1, iv ib, iv ia, iv r, iv (1 : Int32)] [(.int (1 : Int32))])) (fun t k => XS.iload X22.here hx rfl (hb hby at_170) rfl k) ?_
  have hc172 : ¬ ((1 : Int32) = (0 : Int32)) := by decide
  refine Wk.go (A' := T22.setTop (mkF m 177 #[iv pa, iv pb, iv pc, iv pd, iv pe, iv ft, rv b1, iv ib, iv ia, iv r, iv (1 : Int32)] [])) (fun t k => XS.ifYes X22.here hx rfl (pc0 := 172) (pc' := 177) rfl (hb hby at_172) rfl ((if0 _ _).trans (feq hc172).2) (by decide) (by decide) k) ?_
  refine Wk.go (A' := T22.setTop (mkF m 179 #[iv pa, iv pb, iv pc, iv pd, iv pe, iv ft, rv b1, iv ib, iv ia, iv r, iv (1 : Int32)] [(.int r)])) (fun t k => XS.iload X22.here hx rfl (hb hby at_177) rfl k) ?_
  refine Wk.go (A' := T22.setTop (mkF m 181 #[iv pa, iv pb, iv pc, iv pd, iv pe, iv ft, rv b1, iv ib, iv ia, iv r, iv (1 : Int32)] [(.int ib), (.int r)])) (fun t k => XS.iload X22.here hx rfl (hb hby at_179) rfl k) ?_
  by_cases hc181 : r = ib
  · refine Wk.go (A' := T22.setTop (mkF m 195 #[iv pa, iv pb, iv pc, iv pd, iv pe, iv ft, rv b1, iv ib, iv ia, iv r, iv (1 : Int32)] [])) (fun t k => XS.icmpYes X22.here hx rfl (pc0 := 181) (pc' := 195) rfl (hb hby at_181) rfl (teq hc181).1 (by decide) (by decide) k) ?_
    refine Wk.go (A' := T22.setTop (mkF m 196 #[iv pa, iv pb, iv pc, iv pd, iv pe, iv ft, rv b1, iv ib, iv ia, iv r, iv (1 : Int32)] [(.int (1 : Int32))])) (fun t k => XS.iconst X22.here hx rfl (hb hby at_195) k) ?_
    refine Wk.go (A' := T22.setTop (mkF m 200 #[iv pa, iv pb, iv pc, iv pd, iv pe, iv ft, rv b1, iv ib, iv ia, iv r, iv (1 : Int32)] [(.int (1 : Int32))])) (fun t k => XS.goto X22.here hx rfl (pc0 := 196) (pc' := 200) rfl (hb hby at_196) (by decide) (by decide) k) ?_
    refine own_fin (Qv := Q0 Z pa pb pc pd pe ft h0 n0) (v := some (.int (1 : Int32))) X22 hlk (fun h => by rw [Bd.returns] at h; cases h) (fun fs hr => retN X22 hx (t := .boolean) Bd.returns (by simp) (hb hby at_200) hr) ?_ (by decide) (by decide)
    exact ⟨rfl, N22⟩
  · refine Wk.go (A' := T22.setTop (mkF m 184 #[iv pa, iv pb, iv pc, iv pd, iv pe, iv ft, rv b1, iv ib, iv ia, iv r, iv (1 : Int32)] [])) (fun t k => XS.icmpNo X22.here hx rfl (hb hby at_181) rfl (feq hc181).1 k) ?_
    refine Wk.go (A' := T22.setTop (mkF m 186 #[iv pa, iv pb, iv pc, iv pd, iv pe, iv ft, rv b1, iv ib, iv ia, iv r, iv (1 : Int32)] [(.ref b1)])) (fun t k => XS.aload X22.here hx rfl (hb hby at_184) rfl rfl k) ?_
    refine Wk.go (A' := T22.setTop (mkF m 188 #[iv pa, iv pb, iv pc, iv pd, iv pe, iv ft, rv b1, iv ib, iv ia, iv r, iv (1 : Int32)] [(.int r), (.ref b1)])) (fun t k => XS.iload X22.here hx rfl (hb hby at_186) rfl k) ?_
    refine Wk.go (A' := T22.setTop (mkF m 189 #[iv pa, iv pb, iv pc, iv pd, iv pe, iv ft, rv b1, iv ib, iv ia, iv r, iv (1 : Int32)] [(.int (fB (r).toNatClampNeg))])) (fun t k => own_ldB X22 hx hZ (hE22) f16 (j := r) ⟨by omega, by have q : r.toInt ≠ ib.toInt := (fun q => hc181 (Int32.toInt_inj.mp q)); omega⟩ (g := (mkF m 188 #[iv pa, iv pb, iv pc, iv pd, iv pe, iv ft, rv b1, iv ib, iv ia, iv r, iv (1 : Int32)] [(.int r), (.ref b1)])) rfl rfl (hb hby at_188) t k) ?_
    obtain ⟨_, _, ⟨T23, L23, k23, n23⟩, -, X23, ⟨Lc23, hQ23, l23, y23, z23⟩, st23⟩ := Jvm.LawKit.callS X22 hx (y := (⟨"com/example/arcwalk/arcwalk/TermSpansSpaceEndPinLaw", "sp", "(B)Z"⟩ : MethodName)) hown (mvT hZ (tw13 hw)) (mvT hZ (tw14 hw)) (mvT hZ (tw3 hw)) (mvT hZ (tw15 hw)) (by decide) (backOf (W := 0) (rm4 l Z a0 hw [] (fB (r).toNatClampNeg)  h15 n0 Zp15 ) hZ (tw15 hw) (tw3 hw) (by decide) (by decide)) (g := (mkF m 189 #[iv pa, iv pb, iv pc, iv pd, iv pe, iv ft, rv b1, iv ib, iv ia, iv r, iv (1 : Int32)] [(.int (fB (r).toNatClampNeg))])) rfl (by rw [hml]; rfl) (argsL := [(.int (fB (r).toNatClampNeg))]) (rest := []) (lenOf pd_0 rfl) rfl (by show 2 * 0 + _ ≤ _; exact Nat.le_of_eq rfl) (hb hby at_189) (fun _ _ => ⟨rfl, (hE22), (by decide : 1 + 0 ≤ _), (by decide : 5 + 0 ≤ _)⟩)
    dsimp only [Pt.U, Pt.locs, Pt.cells, Pt.slots] at X23 l23 y23 z23 st23 hQ23
    subst l23 y23 z23
    obtain ⟨rfl, N23q, hE23⟩ := hQ23
    have N23 := Fr.app N22 N23q
    refine Wk.go (A' := T23.setTop (mkF m 192 #[iv pa, iv pb, iv pc, iv pd, iv pe, iv ft, rv b1, iv ib, iv ia, iv r, iv (1 : Int32)] [(.int (f_sp (fB (r).toNatClampNeg)))])) (fun t k => st23 t k) ?_
    have hc192 : (f_sp (fB (r).toNatClampNeg)) = (0 : Int32) := (own_sp _).mpr (R4 (by have q : r.toInt ≠ ib.toInt := (fun q => hc181 (Int32.toInt_inj.mp q)); omega))
    refine Wk.go (A' := T23.setTop (mkF m 195 #[iv pa, iv pb, iv pc, iv pd, iv pe, iv ft, rv b1, iv ib, iv ia, iv r, iv (1 : Int32)] [])) (fun t k => XS.ifNo X23.here hx rfl (hb hby at_192) rfl ((if0 _ _).trans (teq hc192).2) k) ?_
    refine Wk.go (A' := T23.setTop (mkF m 196 #[iv pa, iv pb, iv pc, iv pd, iv pe, iv ft, rv b1, iv ib, iv ia, iv r, iv (1 : Int32)] [(.int (1 : Int32))])) (fun t k => XS.iconst X23.here hx rfl (hb hby at_195) k) ?_
    refine Wk.go (A' := T23.setTop (mkF m 200 #[iv pa, iv pb, iv pc, iv pd, iv pe, iv ft, rv b1, iv ib, iv ia, iv r, iv (1 : Int32)] [(.int (1 : Int32))])) (fun t k => XS.goto X23.here hx rfl (pc0 := 196) (pc' := 200) rfl (hb hby at_196) (by decide) (by decide) k) ?_
    refine own_fin (Qv := Q0 Z pa pb pc pd pe ft h0 n0) (v := some (.int (1 : Int32))) X23 hlk (fun h => by rw [Bd.returns] at h; cases h) (fun fs hr => retN X23 hx (t := .boolean) Bd.returns (by simp) (hb hby at_200) hr) ?_ (by decide) (by decide)
    exact ⟨rfl, N23⟩
set_option maxRecDepth 65536 in
set_option maxHeartbeats 40000000 in
theorem comes_1 {Post : Tables → Env → Array Value → State → Outcome → State → Prop} (hpost : ∀ tb e args s v u, (limb_1_1.after args s (.returned v) u = true ∧ limb_1_2.after args s (.returned v) u = true ∧ True) → FrameEnd s (.returned v) u (Jvm.fieldLocs frame_1_writes args s ++ Jvm.arrayLocs frame_1_arrays args s ++ Jvm.staticLocs frame_1_statics s) 16 128 → Post tb e args s (.returned v) u) :
    ArmFor flags0 classFile x code maxLocals ret World_1 tables_1 room_1 Calls_1 rest_1 Pre_1 Post := by
  intro l hfl _ _ p e ha hc hk s m args below hf hA hF happ hP
  obtain ⟨hcalls, hrest, hpre⟩ := hP
  obtain ⟨-, -, -, hnamed, -, -, -, hat⟩ := (Spec.applies_iff hf).mp happ
  obtain ⟨hg, hn⟩ := and_e (Cond.before_iff.mp (show (Jvm.Cond.and given_1 narrow_1).before args s = true from hpre))
  obtain ⟨hcnt, g0⟩ := and_e hg
  obtain ⟨ga0, g1⟩ := and_e g0
  obtain ⟨ga1, g2⟩ := and_e g1
  obtain ⟨ga2, g3⟩ := and_e g2
  obtain ⟨ga3, g4⟩ := and_e g3
  obtain ⟨ga4, g5⟩ := and_e g4
  obtain ⟨w0, w1, w2, w3, w4, w5, rfl⟩ : ∃ w0 w1 w2 w3 w4 w5 : Value, args = #[w0, w1, w2, w3, w4, w5] := by
    have hs : args.size = 6 := by simpa [Cond.value, given_1] using hcnt
    obtain ⟨L⟩ := args
    match L, hs with
    | [w0, w1, w2, w3, w4, w5], _ => exact ⟨w0, w1, w2, w3, w4, w5, rfl⟩
  have hw := fun d (hd : d ∈ tables_1) => atoms_spec (ws := Jvm.Cond.code x code maxLocals ret :: tables_1) hat d (List.mem_cons_of_mem _ hd)
  obtain ⟨i0, ei0⟩ := is_v ga0
  obtain rfl : w0 = (.int i0) := Option.some.inj ei0
  obtain ⟨i1, ei1⟩ := is_v ga1
  obtain rfl : w1 = (.int i1) := Option.some.inj ei1
  obtain ⟨i2, ei2⟩ := is_v ga2
  obtain rfl : w2 = (.int i2) := Option.some.inj ei2
  obtain ⟨i3, ei3⟩ := is_v ga3
  obtain rfl : w3 = (.int i3) := Option.some.inj ei3
  obtain ⟨i4, ei4⟩ := is_v ga4
  obtain rfl : w4 = (.int i4) := Option.some.inj ei4
  obtain ⟨i5, ei5⟩ := is_v g5
  obtain rfl : w5 = (.int i5) := Option.some.inj ei5
  obtain ⟨n, o, h1, h2, h3, _, L, rfl, ⟨rfl, N⟩, hq⟩ := rm0 l s _ hw tables_1 i0 i1 i2 i3 i4 i5  s.heap s.heap.size (Nat.le_refl _)  p e ha hc hk s m _ below hf ((Spec.applies_iff_loose hf).mp happ).1 ⟨rfl, State.Warmed39.refl s, rfl⟩ trivial
  refine ⟨n, _, h1, h2, h3, hpost _ _ _ _ _ _ ⟨Cond.after_iff.mpr rfl, Cond.after_iff.mpr (eq_i res_at (Term.int_eval (1)) rfl), trivial⟩ ⟨hq.1, hq.2.1, (hq.2.2.sift fun y hy => Or.inr (N y hy)).mono (by decide) (by decide)⟩⟩
theorem main_1_1 : Claimed_1_1 := comes_1 fun _ _ _ _ _ _ h hF => ⟨h.1, hF⟩
theorem main_1_2 : Claimed_1_2 := comes_1 fun _ _ _ _ _ _ h hF => ⟨h.2.1, hF⟩
end Jvm.Pilot.@@N@@
namespace Jvm.Pilot.@@N@@
open Jvm Jvm.ClassFile Sem Op Lib Jvm.Free Jvm.Stand Jvm.Pilot.@@N@@.Jvm.D
/-! MADE BY PROGRAM (witnessworld.py) out of the Statement's table words and the real class files: 9 classes; the members and pool entries that the words name. The judged class is class 1, her method 4. -/
namespace start1
open Jvm.ClassFile
def u (s : String) : CpInfo := .utf8 (stringToUtf16 s)
/-- a pool by its gaps: so many unusable entries, then the entry; so many at the end -/
def gap : Nat → List CpInfo → List CpInfo
  | 0, r => r
  | n + 1, r => .unusable :: gap n r
def poolList (es : List (Nat × CpInfo)) (last : Nat) : List CpInfo := es.foldr (fun e r => gap e.1 (e.2 :: r)) (gap last [])
def pool (es : List (Nat × CpInfo)) (last : Nat) : Array CpInfo := ⟨poolList es last⟩
def fileOf (pool : Array CpInfo) (this : Nat) (attrs : Array Attribute := #[]) (ms : Array MethodInfo := #[]) (fl : Nat := 33) (sup : Nat := 0) (ifs : Array Nat := #[]) (fds : Array FieldInfo := #[]) : ClassFile where
  minorVersion := 0
  majorVersion := 65
  constantPool := pool
  accessFlags := fl
  thisClass := this
  superClass := sup
  interfaces := ifs
  fields := fds
  methods := ms
  attributes := attrs
def plain (name : String) (sup : Option ClassId) : Class where
  name := name
  kind := .ordinary
  loader := none
  accessFlags := 33
  super := sup
  interfaces := #[]
  cf := none
  fields := #[]
  methods := #[]
  instanceTypes := #[]
  staticTypes := #[]
  resolved := #[]
  callSites := []
  init := .initialized
  statics := none
  mirror := none

def pool0 : Array CpInfo := pool [(5, u "<init>"), (0, u "()V"), (1, .class_ 10), (1, u "java/lang/Object")] 113

def k0m0 : Method := { name := "<init>", desc := "()V", sig := { parameters := [], returnType := none }, accessFlags := 1, code := none }
/-- java/lang/Object -/
def k0 : Class := { plain "java/lang/Object" none with
  accessFlags := 33
  interfaces := #[]
  cf := some (fileOf pool0 8 #[] #[{ accessFlags := 1, nameIndex := 5, descriptorIndex := 6, attributes := #[] }] 33 0 #[] #[])
  fields := #[]
  methods := #[k0m0]
  instanceTypes := #[]
  staticTypes := #[]
  resolved := Array.replicate 124 none
  statics := none }

def pool1 : Array CpInfo := pool [(2, .class_ 4), (1, u "java/lang/Object"), (0, u "<init>"), (0, u "()V"), (0, .methodref 8 9), (0, .class_ 10), (0, .nameAndType 11 12), (0, u "com/example/arcwalk/arcwalk/TermSpansSpaceEndPinLaw"), (0, u "sp"), (0, u "(B)Z"), (0, .methodref 8 14), (0, .nameAndType 15 16), (0, u "byteOf"), (0, u "(I)B"), (0, .integer 2147483647), (0, .methodref 19 20), (0, .class_ 21), (0, .nameAndType 22 23), (0, u "com/example/arcwalk/arcwalk/TermSpans"), (0, u "spaceEnd"), (0, u "([BII)I"), (0, .methodref 8 25), (0, .nameAndType 26 27), (0, u "blankOrOutside"), (0, u "([BIII)Z"), (3, u "law"), (0, u "(IIIIII)Z")] 4

def k1m0 : Method := { name := "<init>", desc := "()V", sig := { parameters := [], returnType := none }, accessFlags := 1, code := none }
def k1c1 : Code := { maxStack := 2, maxLocals := 2, code := method_2_code, exceptionTable := #[], attributes := #[] }
def k1m1 : Method := { name := "byteOf", desc := "(I)B", sig := { parameters := [.int], returnType := some .byte }, accessFlags := 10, code := some k1c1 }
def k1c2 : Code := { maxStack := 2, maxLocals := 1, code := method_3_code, exceptionTable := #[], attributes := #[] }
def k1m2 : Method := { name := "sp", desc := "(B)Z", sig := { parameters := [.byte], returnType := some .boolean }, accessFlags := 10, code := some k1c2 }
def k1c3 : Code := { maxStack := 2, maxLocals := 4, code := method_4_code, exceptionTable := #[], attributes := #[] }
def k1m3 : Method := { name := "blankOrOutside", desc := "([BIII)Z", sig := { parameters := [(.array .byte), .int, .int, .int], returnType := some .boolean }, accessFlags := 10, code := some k1c3 }
def k1c4 : Code := { maxStack := 4, maxLocals := 11, code := code, exceptionTable := #[], attributes := #[] }
def k1m4 : Method := { name := "law", desc := "(IIIIII)Z", sig := { parameters := [.int, .int, .int, .int, .int, .int], returnType := some .boolean }, accessFlags := 9, code := some k1c4 }
/-- com/example/arcwalk/arcwalk/TermSpansSpaceEndPinLaw -/
def k1 : Class := { plain "com/example/arcwalk/arcwalk/TermSpansSpaceEndPinLaw" (some 0) with
  accessFlags := 49
  interfaces := #[]
  cf := some (fileOf pool1 8 #[] #[{ accessFlags := 1, nameIndex := 5, descriptorIndex := 6, attributes := #[] }, { accessFlags := 10, nameIndex := 15, descriptorIndex := 16, attributes := #[] }, { accessFlags := 10, nameIndex := 11, descriptorIndex := 12, attributes := #[] }, { accessFlags := 10, nameIndex := 26, descriptorIndex := 27, attributes := #[] }, { accessFlags := 9, nameIndex := 31, descriptorIndex := 32, attributes := #[] }] 49 2 #[] #[])
  fields := #[]
  methods := #[k1m0, k1m1, k1m2, k1m3, k1m4]
  instanceTypes := #[]
  staticTypes := #[]
  resolved := Array.replicate 37 none
  statics := none }

def pool2 : Array CpInfo := pool [(2, .class_ 4), (1, u "java/lang/Object"), (0, u "<init>"), (0, u "()V"), (0, .class_ 8), (0, u "com/example/arcwalk/arcwalk/TermSpans$AsciiChars"), (2, .class_ 13), (1, u "com/example/arcwalk/arcwalk/TermSpans"), (0, u "chars"), (0, u "Lcom/example/arcwalk/arcwalk/TermSpans$AsciiChars;"), (2, u "hash"), (0, u "I"), (50, u "([BII)I"), (65, u "spaceEnd")] 8

def k2m0 : Method := { name := "<init>", desc := "()V", sig := { parameters := [], returnType := none }, accessFlags := 0, code := none }
def k2c1 : Code := { maxStack := 2, maxLocals := 4, code := prog_83_method_19_code, exceptionTable := #[], attributes := #[] }
def k2m1 : Method := { name := "spaceEnd", desc := "([BII)I", sig := { parameters := [(.array .byte), .int, .int], returnType := some .int }, accessFlags := 8, code := some k2c1 }
/-- com/example/arcwalk/arcwalk/TermSpans -/
def k2 : Class := { plain "com/example/arcwalk/arcwalk/TermSpans" (some 0) with
  accessFlags := 32
  interfaces := #[]
  cf := some (fileOf pool2 11 #[.nestMembers #[7]] #[{ accessFlags := 0, nameIndex := 5, descriptorIndex := 6, attributes := #[] }, { accessFlags := 8, nameIndex := 136, descriptorIndex := 70, attributes := #[] }] 32 2 #[] #[{ accessFlags := 2, nameIndex := 18, descriptorIndex := 19, attributes := #[] }, { accessFlags := 18, nameIndex := 14, descriptorIndex := 15, attributes := #[] }])
  fields := #[{ name := "hash", type := .int, accessFlags := 2, slot := 0, constantValue := 0 }, { name := "chars", type := (.object "com/example/arcwalk/arcwalk/TermSpans$AsciiChars"), accessFlags := 18, slot := 1, constantValue := 0 }]
  methods := #[k2m0, k2m1]
  instanceTypes := #[.int, (.object "com/example/arcwalk/arcwalk/TermSpans$AsciiChars")]
  staticTypes := #[]
  resolved := Array.replicate 145 none
  statics := none }

def pool3 : Array CpInfo := pool [(1, u "java/lang/Cloneable"), (0, .class_ 1), (0, u "java/lang/Object"), (0, .class_ 3)] 3

/-- java/lang/Cloneable -/
def k3 : Class := { plain "java/lang/Cloneable" (some 0) with
  accessFlags := 1537
  interfaces := #[]
  cf := some (fileOf pool3 2 #[] #[] 1537 4 #[] #[])
  fields := #[]
  methods := #[]
  instanceTypes := #[]
  staticTypes := #[]
  resolved := Array.replicate 8 none
  statics := none }

def pool4 : Array CpInfo := pool [(1, u "java/io/Serializable"), (0, .class_ 1), (0, u "java/lang/Object"), (0, .class_ 3)] 3

/-- java/io/Serializable -/
def k4 : Class := { plain "java/io/Serializable" (some 0) with
  accessFlags := 1537
  interfaces := #[]
  cf := some (fileOf pool4 2 #[] #[] 1537 4 #[] #[])
  fields := #[]
  methods := #[]
  instanceTypes := #[]
  staticTypes := #[]
  resolved := Array.replicate 8 none
  statics := none }

/-- the primitive byte -/
def k5 : Class := { plain "byte" none with kind := .primitive 'B', accessFlags := 0x411 }
/-- [B -/
def k6 : Class := { plain "[B" (some 0) with kind := .array 5 .byte, interfaces := #[3, 4], accessFlags := 1041 }

/-- the primitive int -/
def k7 : Class := { plain "int" none with kind := .primitive 'I', accessFlags := 0x411 }
/-- [I -/
def k8 : Class := { plain "[I" (some 0) with kind := .array 7 .int, interfaces := #[3, 4], accessFlags := 1041 }

def heap : Heap := #[]
def classes : Array Class := #[k0, k1, k2, k3, k4, k5, k6, k7, k8]
def interned : List (Array UInt16 × Addr) := []
def slotsUsed : Nat := 0
def theMethod : MethodId := ⟨1, 4⟩
def args0 : Array Value := #[.int 5, .int 7, .int 8, .int 5, .int 7, .int 8]
def aboutOver (below : List Frame) : State where
  vm := { classes := classes, interned := interned.toArray }
  heap := heap
  slotsUsed := slotsUsed
  threads := #[{ frames := .invoking theMethod args0 :: below }]
def below0 : List Frame := [.native { method := ⟨0, 0⟩, args := #[] }]
def about1 : State := aboutOver below0
def p0 : Program := .bare "" "" ""
def e0 : Env := launch0.env 0 0 0
theorem w_frames : about1.frames = Frame.invoking theMethod args0 :: below0 := rfl
set_option maxRecDepth 65536 in
theorem w_args : argsFit about1.vm theMethod args0 = true := by decide +kernel
set_option maxRecDepth 65536 in
theorem w_heap : heapFits about1 = true := by decide +kernel
set_option maxRecDepth 65536 in
theorem w_runnable : about1.curStatus? = some .runnable := by decide +kernel
set_option maxRecDepth 65536 in
theorem w_alone : about1.alone = true := by decide +kernel
set_option maxRecDepth 65536 in
theorem w_named : about1.methodNamed? x = some theMethod := by decide +kernel
set_option maxRecDepth 65536 in
theorem w_hears : about1.hears theMethod below0 = true := by decide +kernel
set_option maxRecDepth 65536 in
theorem w_ripe : about1.ripe theMethod args0 below0 = true := by decide +kernel
theorem w_running : about1.status = .running := rfl
set_option maxRecDepth 65536 in
theorem w_room : about1.hasRoom e0.platform room_1 = true :=
  launch0.hasRoom_least _ room_1 (by decide +kernel) (by decide +kernel) (by decide +kernel) (by decide +kernel) (by decide +kernel) (by decide +kernel)
theorem allAtoms_all (ts : List Jvm.Cond) (a : Array Jvm.Value) (st : Jvm.State) : (allAtoms ts).before a st = ts.all (fun c => c.before a st) := by
  induction ts with
  | nil => rfl
  | cons c t ih =>
    show (Jvm.Cond.and c (allAtoms t)).before a st = _
    rw [Jvm.Cond.before_and, ih, List.all_cons]
def words1 : List Jvm.Cond := Jvm.Cond.code x code maxLocals ret :: tables_1
/-- a 'code' word, met by the world's own term for the bytes: nothing is compared byte by byte -/
theorem code_word {y : MethodName} {bytes : ByteArray} {mx : Nat} {rt : Option FieldType} {a : Array Value} {s : State} {m : MethodId} {meth : Method} {c : Code} (h1 : s.methodNamed? y = some m) (h2 : s.vm.method? m = some meth) (h3 : meth.code = some c) (h4 : c.code = bytes)
    (h5 : (c.maxLocals == mx && c.exceptionTable.isEmpty && decide (c.maxStack ≤ mostOperands) && decide (meth.sig.returnType = rt) && !meth.locks && decide (parseMethodDescriptor y.desc = some meth.sig)) = true) : (Jvm.Cond.code y bytes mx rt).before a s = true := by
  simp only [Bool.and_eq_true, beq_iff_eq, Bool.not_eq_true', decide_eq_true_eq] at h5
  obtain ⟨⟨⟨⟨⟨g1, g2⟩, g3⟩, g4⟩, g5⟩, g6⟩ := h5
  simp [Cond.before, Cond.holds, Cond.value, h1, h2, h3, h4, g1, g2, g3, g4, g5, g6]
def isCode : Jvm.Cond → Bool
  | .code _ _ _ _ => true
  | _ => false
theorem all_split {L : List Jvm.Cond} {P : Jvm.Cond → Bool} (h1 : L.all (fun c => isCode c || P c) = true) (h2 : ∀ c ∈ L.filter isCode, P c = true) : L.all P = true := by
  refine List.all_eq_true.mpr fun c hc => ?_
  have h := List.all_eq_true.mp h1 c hc
  rcases Bool.eq_false_or_eq_true (isCode c) with hi | hi
  · exact h2 c (List.mem_filter.mpr ⟨hc, hi⟩)
  · simpa [hi] using h
set_option maxRecDepth 65536 in
theorem w_c0 : (Jvm.Cond.code x code maxLocals ret).before args0 about1 = true := code_word (m := ⟨1, 4⟩) (meth := k1m4) (c := k1c4) (by decide +kernel) rfl rfl rfl (by decide +kernel)
set_option maxRecDepth 65536 in
theorem w_c1 : (Jvm.Cond.code ({ cls := "com/example/arcwalk/arcwalk/TermSpansSpaceEndPinLaw", name := "byteOf", desc := "(I)B" } : Jvm.MethodName) method_2_code (2 : Nat) (Option.some Jvm.ClassFile.FieldType.byte)).before args0 about1 = true := code_word (m := ⟨1, 1⟩) (meth := k1m1) (c := k1c1) (by decide +kernel) rfl rfl rfl (by decide +kernel)
set_option maxRecDepth 65536 in
theorem w_c2 : (Jvm.Cond.code ({ cls := "com/example/arcwalk/arcwalk/TermSpans", name := "spaceEnd", desc := "([BII)I" } : Jvm.MethodName) prog_83_method_19_code (4 : Nat) (Option.some Jvm.ClassFile.FieldType.int)).before args0 about1 = true := code_word (m := ⟨2, 1⟩) (meth := k2m1) (c := k2c1) (by decide +kernel) rfl rfl rfl (by decide +kernel)
set_option maxRecDepth 65536 in
theorem w_c3 : (Jvm.Cond.code ({ cls := "com/example/arcwalk/arcwalk/TermSpansSpaceEndPinLaw", name := "blankOrOutside", desc := "([BIII)Z" } : Jvm.MethodName) method_4_code (4 : Nat) (Option.some Jvm.ClassFile.FieldType.boolean)).before args0 about1 = true := code_word (m := ⟨1, 3⟩) (meth := k1m3) (c := k1c3) (by decide +kernel) rfl rfl rfl (by decide +kernel)
set_option maxRecDepth 65536 in
theorem w_c4 : (Jvm.Cond.code ({ cls := "com/example/arcwalk/arcwalk/TermSpansSpaceEndPinLaw", name := "sp", desc := "(B)Z" } : Jvm.MethodName) method_3_code (1 : Nat) (Option.some Jvm.ClassFile.FieldType.boolean)).before args0 about1 = true := code_word (m := ⟨1, 2⟩) (meth := k1m2) (c := k1c2) (by decide +kernel) rfl rfl rfl (by decide +kernel)
def codes1 : List Jvm.Cond := [Jvm.Cond.code x code maxLocals ret, Jvm.Cond.code ({ cls := "com/example/arcwalk/arcwalk/TermSpansSpaceEndPinLaw", name := "byteOf", desc := "(I)B" } : Jvm.MethodName) method_2_code (2 : Nat) (Option.some Jvm.ClassFile.FieldType.byte), Jvm.Cond.code ({ cls := "com/example/arcwalk/arcwalk/TermSpans", name := "spaceEnd", desc := "([BII)I" } : Jvm.MethodName) prog_83_method_19_code (4 : Nat) (Option.some Jvm.ClassFile.FieldType.int), Jvm.Cond.code ({ cls := "com/example/arcwalk/arcwalk/TermSpansSpaceEndPinLaw", name := "blankOrOutside", desc := "([BIII)Z" } : Jvm.MethodName) method_4_code (4 : Nat) (Option.some Jvm.ClassFile.FieldType.boolean), Jvm.Cond.code ({ cls := "com/example/arcwalk/arcwalk/TermSpansSpaceEndPinLaw", name := "sp", desc := "(B)Z" } : Jvm.MethodName) method_3_code (1 : Nat) (Option.some Jvm.ClassFile.FieldType.boolean)]
set_option maxRecDepth 65536 in
theorem codes_eq : words1.filter isCode = codes1 := rfl
theorem w_codes : ∀ c ∈ words1.filter isCode, c.before args0 about1 = true := by
  rw [codes_eq]
  intro c hc
  simp only [codes1, List.mem_cons, List.not_mem_nil, or_false] at hc
  rcases hc with rfl | rfl | rfl | rfl | rfl
  · exact w_c0
  · exact w_c1
  · exact w_c2
  · exact w_c3
  · exact w_c4
set_option maxRecDepth 65536 in
theorem w_t1 : words1.all (fun c => isCode c || c.before args0 about1) = true := by decide +kernel
theorem w_tables : (allAtoms (Jvm.Cond.code x code maxLocals ret :: tables_1)).before args0 about1 = true := by
  rw [allAtoms_all]
  show words1.all (fun c => c.before args0 about1) = true
  refine all_split ?_ w_codes
  rw [w_t1]
set_option maxRecDepth 65536 in
theorem w_case : (Jvm.Cond.and given_1 narrow_1).before args0 about1 = true := by decide +kernel
theorem w_applies : (headSpec (Jvm.Cond.code x code maxLocals ret :: tables_1) room_1).applies x e0.platform about1 = true :=
  (Spec.applies_iff w_frames).mpr ⟨w_running, w_runnable, w_alone, w_named, w_hears, w_ripe, w_room, w_tables⟩
theorem atStart : AtStart classFile x code maxLocals ret World_1 tables_1 room_1 Calls_1 rest_1 Pre_1 launch0 p0 e0 about1 theMethod args0 below0 :=
  ⟨lists_1, trivial, launch0.admits_env _ _ _, launch0.least_env, fairChoices_fair.cas, fairChoices_fair.clock, w_frames, w_args, w_heap, w_applies, trivial, trivial, w_case⟩
end start1
theorem witness_1 : WitnessClaimed_1 := ⟨start1.p0, start1.e0, start1.about1, start1.theMethod, start1.args0, start1.below0, start1.atStart⟩
end Jvm.Pilot.@@N@@
