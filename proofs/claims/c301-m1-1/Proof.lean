import JvmDerived
import JvmDerived.Pilot.@@N@@Statement
import JvmDerived.Pilot.@@N@@Code
set_option linter.unusedVariables false
set_option linter.unusedSimpArgs false
namespace Jvm.RoadKit
open Sem ClassFile Op Lib Jvm.Stand Jvm.Free Jvm.LawKit
section New
variable {p : Program} {l : Launch} {e : Env} {R : Room} {s : State} {m : MethodId} {args : Array Value} {below : List Frame} {meth : Method} {c : Code} {T : State} {locs : List Loc} {cells slots : Nat}
theorem retI (X : Stand p l e R s m args below meth c T locs cells slots) (hx : p.tables.exec = Jvm.exec) {pc : Nat} {Ls : Array Slot} {z : Int32} {rest : List Value} (hret : meth.sig.returnType = some .int) (hd : decode c.code pc = .ok (.ireturn, 1)) {fs : List Frame}
    (hl : ∀ (f : JFrame) (acts : List Action), f.method = m → f.locked = none → f.entered = [] → (doReturn e (T.setTop f) acts (some (.int z))).1 = T.setFrames fs) : Steps p.tables e below (T.setTop (mkF m pc Ls (.int z :: rest))) (T.setFrames fs) := by
  have hm' : T.vm.method? m = some meth := X.method'
  have hn : narrow .int (.int z) = .int z := rfl
  show Steps p.tables e below (T.setTop { method := m, pc := pc, locals := Ls, stack := _ :: rest, locked := none }) _
  jvm_step X.here [X.here.top, hx, hd, hm', hret, hn]
  first | (intro acts; rw [hl _ acts rfl rfl rfl]) | rw [hl _ _ rfl rfl rfl]
  exact Steps.refl _
abbrev jv (x : Int64) : Slot := .val (.long x)
/-- from A the run goes on to an end of which R holds -/
def Wk (tb : Tables) (e : Env) (below : List Frame) (A : State) (R : State → Outcome → Prop) : Prop := ∃ U o, Steps tb e below A U ∧ R U o
theorem Wk.go {tb : Tables} {A A' : State} {R : State → Outcome → Prop} (h : ∀ t, Steps tb e below A' t → Steps tb e below A t) (k : Wk tb e below A' R) : Wk tb e below A R := by
  obtain ⟨U, o, k1, k2⟩ := k
  exact ⟨U, o, h _ k1, k2⟩
/-- the two ways from A to A' meet there -/
theorem own_fin (X : Stand p l e R s m args below meth c T locs cells slots) {Qv : Option Value → Heap → List Loc → Prop} {v : Option Value} {g : JFrame} {C S : Nat} (hlocks : meth.locks = false) (hv : meth.sig.returnType = none → v = none)
    (hst : ∀ fs, (∀ (f : JFrame) (acts : List Action), f.method = m → f.locked = none → f.entered = [] → (doReturn e (T.setTop f) acts v).1 = T.setFrames fs) → Steps p.tables e below (T.setTop g) (T.setFrames fs))
    (hQ : Qv v T.heap locs) (hc : cells ≤ C) (hs : slots ≤ S) :
    Wk p.tables e below (T.setTop g) (fun U o => U.status = .running ∧ Ended U below o ∧ ∃ v L, o = .returned v ∧ Qv v U.heap L ∧ FrameEnd s o U L C S) := by
  obtain ⟨fs, hr, hrun, hended, hW, hsame⟩ := X.leave (v := v) hv hlocks
  exact ⟨_, _, hst fs hr, hrun, hended, _, _, rfl, hQ, ⟨_, rfl⟩, hW, hsame.mono hc hs⟩
end New
end Jvm.RoadKit
namespace Jvm.Pilot.@@N@@
open Jvm Jvm.ClassFile Sem Op Lib Jvm.Free Jvm.Stand Jvm.LawKit Jvm.RoadKit Bundle Jvm.Pilot.@@N@@.Jvm.D
abbrev own_F : String := "com/example/dense_envelope/denseenvelope/websocket/FrameHeader"
/-- a place overwritten -/
def own_upd (f : Nat → Int32) (i : Nat) (y : Int32) : Nat → Int32 := fun j => if j = i then y else f j
theorem own_upd_eq (f : Nat → Int32) (i : Nat) (y : Int32) : own_upd f i y i = y := if_pos rfl
theorem own_upd_ne (f : Nat → Int32) {i j : Nat} (y : Int32) (h : j ≠ i) : own_upd f i y j = f j := if_neg h
/-- the byte[] at a has n places; place j holds f j -/
def BA (Z : State) (h : Heap) (a : Addr) (n : Nat) (f : Nat → Int32) : Prop := ∃ c : Cell, Arr Z h a c .byte ∧ c.slots.size = n ∧ ∀ j, j < n → c.slots[j]? = some (.int (f j))
section Bytes
variable {p : Program} {l : Launch} {e : Env} {R : Room} {s : State} {m : MethodId} {args : Array Value} {below : List Frame} {meth : Method} {c : Code} {T : State} {locs : List Loc} {cells slots : Nat} {Z : State} {h h' : Heap} {a b : Addr} {n : Nat} {f : Nat → Int32} {ws : List Addr} {sl : Nat} {v : Value}
theorem BA.new {k : ClassId} {z : Int32} (A : Arr Z h a (newA k .byte z) .byte) : BA Z h a z.toNatClampNeg (fun _ => 0) := ⟨_, A, sz_new _ _ _, fun j hj => by simp [newA, hj]; rfl⟩
theorem BA.lt (F : BA Z h a n f) : a < h.size := by obtain ⟨c, A, -⟩ := F; exact A.lt
theorem BA.ext (F : BA Z h a n f) (E : Ext h h') : BA Z h' a n f := by obtain ⟨c, A, r⟩ := F; exact ⟨c, A.ext E, r⟩
theorem BA.other (F : BA Z h b n f) (W : Wr h h' a sl v) (q : b ≠ a) : BA Z h' b n f := by obtain ⟨c, A, r⟩ := F; exact ⟨c, A.other W q, r⟩
theorem BA.keep (F : BA Z h a n f) (K : Keep h h' ws) (q : a ∉ ws) : BA Z h' a n f := by obtain ⟨c, A, r⟩ := F; exact ⟨c, ⟨K.2.1 a c A.1 q, A.2⟩, r⟩
theorem own_clamp {j : Int32} (h0 : 0 ≤ j.toInt) : (j.toNatClampNeg : Int) = j.toInt := by
  have q : ¬ j < 0 := by
    rw [Int32.lt_iff_toInt_lt]
    have e : (0 : Int32).toInt = 0 := by decide
    omega
  exact (nat_of q).symm
theorem own_inb {cl : Cell} {j : Int32} (S : cl.slots.size = n) (hj : 0 ≤ j.toInt ∧ j.toInt < n) : ¬ (j < 0 ∨ cl.slots.size ≤ j.toNatClampNeg) := by
  have e0 : (0 : Int32).toInt = 0 := by decide
  have := own_clamp hj.1
  rw [Int32.lt_iff_toInt_lt]; omega
theorem own_stB (X : Stand p l e R s m args below meth c T locs cells slots) (hx : p.tables.exec = Jvm.exec) (hZ : Z.Warmed39 s.vm) (eT : T.heap = h) (F : BA Z h a n f) {j x : Int32} (hj : 0 ≤ j.toInt ∧ j.toInt < n) {g : JFrame} (hg : g.method = m) {rest : List Value} (hs : g.stack = .int x :: .int j :: .ref a :: rest) (hd : decode c.code g.pc = .ok (.bastore, 1)) :
    ∃ T' h', Stand p l e R s m args below meth c T' (locs ++ [⟨a, j.toNatClampNeg⟩]) cells slots ∧ T'.heap = h' ∧ Wr h h' a j.toNatClampNeg (.int (nar .byte x)) ∧ BA Z h' a n (own_upd f j.toNatClampNeg x.toInt8.toInt32) ∧ ∀ target, Steps p.tables e below (T'.setTop { g with pc := g.pc + 1, stack := rest }) target → Steps p.tables e below (T.setTop g) target := by
  obtain ⟨cl, A, S, H⟩ := F
  have hin := own_inb S hj
  obtain ⟨T', h', X', e', W, st⟩ := stB X hx hZ eT A (j := j) (x := x) hin hg hs hd
  refine ⟨T', h', X', e', W, ⟨cl.setSlot j.toNatClampNeg (.int (nar .byte x)), A.same W, by rw [sz_set]; exact S, fun i hi => ?_⟩, st⟩
  by_cases q : i = j.toNatClampNeg
  · subst q
    rw [own_upd_eq]
    exact get_hit (k := j) hin rfl
  · rw [own_upd_ne _ _ q, ← H i hi]
    show (cl.slots.setIfInBounds j.toNatClampNeg _)[i]? = _
    rw [Array.getElem?_setIfInBounds_ne (Ne.symm q)]
theorem own_ldB (X : Stand p l e R s m args below meth c T locs cells slots) (hx : p.tables.exec = Jvm.exec) (hZ : Z.Warmed39 s.vm) (eT : T.heap = h) (F : BA Z h a n f) {j : Int32} (hj : 0 ≤ j.toInt ∧ j.toInt < n) {g : JFrame} (hg : g.method = m) {rest : List Value} (hs : g.stack = .int j :: .ref a :: rest) (hd : decode c.code g.pc = .ok (.baload, 1)) :
    ∀ target, Steps p.tables e below (T.setTop { g with pc := g.pc + 1, stack := .int (f j.toNatClampNeg) :: rest }) target → Steps p.tables e below (T.setTop g) target := by
  obtain ⟨cl, A, S, H⟩ := F
  have hc := own_clamp hj.1
  intro target k
  exact X.baloadBytes hx (j := j) (v := .int (f j.toNatClampNeg)) (by rw [eT]; exact A.1) (State.isArrayOf_alike hZ.alike A.2.1) A.2.2 (own_inb S hj) (H _ (by omega)) hg hs hd target k
end Bytes
theorem own_sel {s : State} {args : Array Value} {y : MethodName} {n : Nat} (hi : (Jvm.Cond.instantiable y.cls n).before args s = true) (hp : s.PrivateAt y) (hm : (Jvm.Cond.instanceMethod y).before args s = true) (hy : y.cls ≠ "java/lang/invoke/MethodHandle" ∧ y.cls ≠ "java/lang/invoke/VarHandle") : (Jvm.Cond.selects y.cls y y).before args s = true := by
  obtain ⟨c, k, h1, h2, h3, h4, -⟩ := Cond.instantiable_spec hi
  have h5 : k.isInterface = false := by
    cases h : k.isInterface with
    | false => rfl
    | true => rw [h] at h4; exact absurd h4 (by simp)
  exact selects_self_of_private h1 h2 h5 hp hm hy
theorem d4_0 : decode prog_100_method_12_code 0 = .ok (.aload_n 0, 1) := by decide +kernel
theorem tw21 {Z : State} {a0 : Array Value} (hw : ∀ d ∈ tables_1, d.before a0 Z = true) : (Jvm.Cond.fieldLink "com/example/dense_envelope/denseenvelope/websocket/FrameHeader" (17 : Nat) "com/example/dense_envelope/denseenvelope/websocket/FrameHeader" "count" "I").before a0 Z = true := hw _ (List.mem_of_getElem? (i := 21) rfl)
theorem d4_1 : decode prog_100_method_12_code 1 = .ok (.getfield 17, 3) := by decide +kernel
theorem d4_4 : decode prog_100_method_12_code 4 = .ok (.iconst 2, 1) := by decide +kernel
theorem d4_5 : decode prog_100_method_12_code 5 = .ok (.if_icmp .ge 5, 3) := by decide +kernel
theorem d4_8 : decode prog_100_method_12_code 8 = .ok (.iconst 2, 1) := by decide +kernel
theorem d4_9 : decode prog_100_method_12_code 9 = .ok (.ireturn, 1) := by decide +kernel
theorem d4_10 : decode prog_100_method_12_code 10 = .ok (.aload_n 0, 1) := by decide +kernel
theorem tw11 {Z : State} {a0 : Array Value} (hw : ∀ d ∈ tables_1, d.before a0 Z = true) : (Jvm.Cond.fieldLink "com/example/dense_envelope/denseenvelope/websocket/FrameHeader" (7 : Nat) "com/example/dense_envelope/denseenvelope/websocket/FrameHeader" "bytes" "[B").before a0 Z = true := hw _ (List.mem_of_getElem? (i := 11) rfl)
theorem d4_11 : decode prog_100_method_12_code 11 = .ok (.getfield 7, 3) := by decide +kernel
theorem d4_14 : decode prog_100_method_12_code 14 = .ok (.iconst 1, 1) := by decide +kernel
theorem d4_15 : decode prog_100_method_12_code 15 = .ok (.baload, 1) := by decide +kernel
theorem d4_16 : decode prog_100_method_12_code 16 = .ok (.bipush 127, 2) := by decide +kernel
theorem d4_18 : decode prog_100_method_12_code 18 = .ok (.iand, 1) := by decide +kernel
theorem d4_19 : decode prog_100_method_12_code 19 = .ok (.istore_n 1, 1) := by decide +kernel
theorem d4_20 : decode prog_100_method_12_code 20 = .ok (.iconst 2, 1) := by decide +kernel
theorem d4_21 : decode prog_100_method_12_code 21 = .ok (.iload_n 1, 1) := by decide +kernel
theorem d4_22 : decode prog_100_method_12_code 22 = .ok (.bipush 127, 2) := by decide +kernel
theorem d4_24 : decode prog_100_method_12_code 24 = .ok (.if_icmp .ne 8, 3) := by decide +kernel
theorem d4_27 : decode prog_100_method_12_code 27 = .ok (.bipush 8, 2) := by decide +kernel
theorem d4_29 : decode prog_100_method_12_code 29 = .ok (.goto 14, 3) := by decide +kernel
theorem d4_43 : decode prog_100_method_12_code 43 = .ok (.iadd, 1) := by decide +kernel
theorem d4_44 : decode prog_100_method_12_code 44 = .ok (.ireturn, 1) := by decide +kernel
theorem d4_32 : decode prog_100_method_12_code 32 = .ok (.iload_n 1, 1) := by decide +kernel
theorem d4_33 : decode prog_100_method_12_code 33 = .ok (.bipush 126, 2) := by decide +kernel
theorem d4_35 : decode prog_100_method_12_code 35 = .ok (.if_icmp .ne 7, 3) := by decide +kernel
theorem d4_38 : decode prog_100_method_12_code 38 = .ok (.iconst 2, 1) := by decide +kernel
theorem d4_39 : decode prog_100_method_12_code 39 = .ok (.goto 4, 3) := by decide +kernel
theorem d4_42 : decode prog_100_method_12_code 42 = .ok (.iconst 0, 1) := by decide +kernel
theorem pn_0 : plainName "com/example/dense_envelope/denseenvelope/websocket/FrameHeader" = true := by first | (simp [plainName, overriddenIn]; done) | decide +kernel
theorem ef_4 (m : MethodId) (x0 : Addr) : entryFrame m #[(.ref x0)] 2 = mkF m 0 #[rv x0, .unset] [] := by first | (simp [entryFrame, mkF, argsToLocals, Value.category]; done) | rfl
def f_lend (ob : Addr) (ba : Addr) (fB : Nat → Int32) (wc : Int32) : Int32 := (if wc < (2 : Int32) then (2 : Int32) else (if ((fB 1) &&& (127 : Int32)) = (127 : Int32) then (10 : Int32) else (if ((fB 1) &&& (127 : Int32)) = (126 : Int32) then (4 : Int32) else (2 : Int32))))
def Q4 (Z : State) (ob : Addr) (ba : Addr) (fB : Nat → Int32) (wc : Int32) (h0 : Heap) (n0 : Nat) (v : Option Value) (h : Heap) (L : List Loc) : Prop := v = some (.int (f_lend ob ba fB wc)) ∧ Fr n0 L ∧ h = h0
set_option maxRecDepth 65536 in
set_option maxHeartbeats 40000000 in
theorem rm4 (l : Launch) (Z : State) (a0 : Array Value) (hw : ∀ d ∈ tables_1, d.before a0 Z = true) (ws : List Jvm.Cond) (ob : Addr) (ba : Addr) (fB : Nat → Int32) (wc : Int32) (h0 : Heap) (n0 : Nat) (Z0 : n0 ≤ h0.size) (F_bytes : Fld Z h0 ob own_F "bytes" "[B" (.ref ba)) (F_count : Fld Z h0 ob own_F "count" "I" (.int wc)) (VB : BA Z h0 ba 14 fB) :
    MetFree l (⟨own_F, "lengthEnd", "()I"⟩ : MethodName) (head1 (Jvm.Cond.code (⟨own_F, "lengthEnd", "()I"⟩ : MethodName) prog_100_method_12_code 2 (some .int) :: ws) ({ frames := 0, cells := 0, slots := 0, locals := 0 } : Room)) (fun a U => a = #[(.ref ob)] ∧ Z.Warmed39 U.vm ∧ U.heap = h0) (fun _ _ _ _ _ => True) (fun _ U o U' => ∃ v L, o = .returned v ∧ Q4 Z ob ba fB wc h0 n0 v U'.heap L ∧ FrameEnd U o U' L ({ frames := 0, cells := 0, slots := 0, locals := 0 } : Room).cells ({ frames := 0, cells := 0, slots := 0, locals := 0 } : Room).slots) := by
  refine MetFree.of_bodySF (plainFor_of_name pn_0) hisR ?_
  intro p e s m args below meth c s₁ Bd hml0 hP hK
  obtain ⟨rfl, hZ, hh⟩ := hP
  have hx := Bd.exec
  have hby := Bd.bytes
  have hml : c.maxLocals = 2 := hml0
  have hown : s.vm.findClass own_F = some m.cls := findClass_of_methodNamed Bd.named
  have hnm := (name_of_methodNamed Bd.named Bd.method).1
  have X0 : Stand p l e ({ frames := 0, cells := 0, slots := 0, locals := 0 } : Room) s m #[(.ref ob)] below meth c s₁ [] 0 0 := Stand.of_body Bd
  have e0 : s₁.heap = h0 := by rw [← hh, Bd.state]; rfl
  have N0 := Fr.nil n0
  have hlk : meth.locks = false := BodyLoose.notSynchronized Bd
  suffices hwk : Wk p.tables e below (s₁.setTop (mkF m 0 #[rv ob, .unset] [])) (fun U o => U.status = .running ∧ Ended U below o ∧ ∃ v L, o = .returned v ∧ Q4 Z ob ba fB wc h0 n0 v U.heap L ∧ FrameEnd s o U L 0 0) by
    obtain ⟨U, o, k1, k2⟩ := hwk
    exact ⟨U, o, castTop (ef_4 m ob) k1, k2⟩
  refine Wk.go (A' := s₁.setTop (mkF m 1 #[rv ob, .unset] [(.ref ob)])) (fun t k => XS.aloadN X0.here hx rfl (hb hby d4_0) rfl rfl k) ?_
  obtain ⟨T1, X1, e1, st1⟩ := getF X0 hx hZ hown (host := "") (Or.inl (tw21 hw)) Via.refl e0 F_count (g := (mkF m 1 #[rv ob, .unset] [(.ref ob)])) rfl rfl (hb hby d4_1)
  refine Wk.go (A' := T1.setTop (mkF m 4 #[rv ob, .unset] [(.int wc)])) (fun t k => st1 t k) ?_
  refine Wk.go (A' := T1.setTop (mkF m 5 #[rv ob, .unset] [(.int (2 : Int32)), (.int wc)])) (fun t k => XS.iconst X1.here hx rfl (hb hby d4_4) k) ?_
  by_cases hc5 : wc < (2 : Int32)
  · refine Wk.go (A' := T1.setTop (mkF m 8 #[rv ob, .unset] [])) (fun t k => XS.icmpNo X1.here hx rfl (hb hby d4_5) rfl (tlt hc5).2.1 k) ?_
    refine Wk.go (A' := T1.setTop (mkF m 9 #[rv ob, .unset] [(.int (2 : Int32))])) (fun t k => XS.iconst X1.here hx rfl (hb hby d4_8) k) ?_
    refine own_fin (Qv := Q4 Z ob ba fB wc h0 n0) (v := some (.int (2 : Int32))) X1 hlk (fun h => by rw [Bd.returns] at h; cases h) (fun fs hr => retI X1 hx Bd.returns (hb hby d4_9) hr) ?_ (by decide) (by decide)
    refine ⟨?_, N0, e1⟩
    simp only [f_lend, if_pos hc5]
  · refine Wk.go (A' := T1.setTop (mkF m 10 #[rv ob, .unset] [])) (fun t k => XS.icmpYes X1.here hx rfl (pc0 := 5) (pc' := 10) rfl (hb hby d4_5) rfl (flt hc5).2.1 (by decide) (by decide) k) ?_
    refine Wk.go (A' := T1.setTop (mkF m 11 #[rv ob, .unset] [(.ref ob)])) (fun t k => XS.aloadN X1.here hx rfl (hb hby d4_10) rfl rfl k) ?_
    obtain ⟨T2, X2, e2, st2⟩ := getF X1 hx hZ hown (host := "") (Or.inl (tw11 hw)) Via.refl e1 F_bytes (g := (mkF m 11 #[rv ob, .unset] [(.ref ob)])) rfl rfl (hb hby d4_11)
    refine Wk.go (A' := T2.setTop (mkF m 14 #[rv ob, .unset] [(.ref ba)])) (fun t k => st2 t k) ?_
    refine Wk.go (A' := T2.setTop (mkF m 15 #[rv ob, .unset] [(.int (1 : Int32)), (.ref ba)])) (fun t k => XS.iconst X2.here hx rfl (hb hby d4_14) k) ?_
    refine Wk.go (A' := T2.setTop (mkF m 16 #[rv ob, .unset] [(.int (fB 1))])) (fun t k => own_ldB X2 hx hZ e2 VB (j := (1 : Int32)) (by decide) (g := (mkF m 15 #[rv ob, .unset] [(.int (1 : Int32)), (.ref ba)])) rfl rfl (hb hby d4_15) t k) ?_
    refine Wk.go (A' := T2.setTop (mkF m 18 #[rv ob, .unset] [(.int (127 : Int32)), (.int (fB 1))])) (fun t k => XS.bipush X2.here hx rfl (hb hby d4_16) k) ?_
    refine Wk.go (A' := T2.setTop (mkF m 19 #[rv ob, .unset] [(.int ((fB 1) &&& (127 : Int32)))])) (fun t k => XS.iand X2.here hx rfl (hb hby d4_18) rfl k) ?_
    refine Wk.go (A' := T2.setTop (mkF m 20 #[rv ob, iv ((fB 1) &&& (127 : Int32))] [])) (fun t k => XS.istoreN X2.here hx rfl (hb hby d4_19) rfl (l' := #[rv ob, iv ((fB 1) &&& (127 : Int32))]) rfl k) ?_
    refine Wk.go (A' := T2.setTop (mkF m 21 #[rv ob, iv ((fB 1) &&& (127 : Int32))] [(.int (2 : Int32))])) (fun t k => XS.iconst X2.here hx rfl (hb hby d4_20) k) ?_
    refine Wk.go (A' := T2.setTop (mkF m 22 #[rv ob, iv ((fB 1) &&& (127 : Int32))] [(.int ((fB 1) &&& (127 : Int32))), (.int (2 : Int32))])) (fun t k => XS.iloadN X2.here hx rfl (hb hby d4_21) rfl k) ?_
    refine Wk.go (A' := T2.setTop (mkF m 24 #[rv ob, iv ((fB 1) &&& (127 : Int32))] [(.int (127 : Int32)), (.int ((fB 1) &&& (127 : Int32))), (.int (2 : Int32))])) (fun t k => XS.bipush X2.here hx rfl (hb hby d4_22) k) ?_
    by_cases hc24 : ((fB 1) &&& (127 : Int32)) = (127 : Int32)
    · refine Wk.go (A' := T2.setTop (mkF m 27 #[rv ob, iv ((fB 1) &&& (127 : Int32))] [(.int (2 : Int32))])) (fun t k => XS.icmpNo X2.here hx rfl (hb hby d4_24) rfl (teq hc24).2 k) ?_
      refine Wk.go (A' := T2.setTop (mkF m 29 #[rv ob, iv ((fB 1) &&& (127 : Int32))] [(.int (8 : Int32)), (.int (2 : Int32))])) (fun t k => XS.bipush X2.here hx rfl (hb hby d4_27) k) ?_
      refine Wk.go (A' := T2.setTop (mkF m 43 #[rv ob, iv ((fB 1) &&& (127 : Int32))] [(.int (8 : Int32)), (.int (2 : Int32))])) (fun t k => XS.goto X2.here hx rfl (pc0 := 29) (pc' := 43) rfl (hb hby d4_29) (by decide) (by decide) k) ?_
      refine Wk.go (A' := T2.setTop (mkF m 44 #[rv ob, iv ((fB 1) &&& (127 : Int32))] [(.int (10 : Int32))])) (fun t k => XS.iadd X2.here hx rfl (hb hby d4_43) rfl k) ?_
      refine own_fin (Qv := Q4 Z ob ba fB wc h0 n0) (v := some (.int (10 : Int32))) X2 hlk (fun h => by rw [Bd.returns] at h; cases h) (fun fs hr => retI X2 hx Bd.returns (hb hby d4_44) hr) ?_ (by decide) (by decide)
      refine ⟨?_, N0, e2⟩
      simp only [f_lend, if_neg hc5, if_pos hc24]
    · refine Wk.go (A' := T2.setTop (mkF m 32 #[rv ob, iv ((fB 1) &&& (127 : Int32))] [(.int (2 : Int32))])) (fun t k => XS.icmpYes X2.here hx rfl (pc0 := 24) (pc' := 32) rfl (hb hby d4_24) rfl (feq hc24).2 (by decide) (by decide) k) ?_
      refine Wk.go (A' := T2.setTop (mkF m 33 #[rv ob, iv ((fB 1) &&& (127 : Int32))] [(.int ((fB 1) &&& (127 : Int32))), (.int (2 : Int32))])) (fun t k => XS.iloadN X2.here hx rfl (hb hby d4_32) rfl k) ?_
      refine Wk.go (A' := T2.setTop (mkF m 35 #[rv ob, iv ((fB 1) &&& (127 : Int32))] [(.int (126 : Int32)), (.int ((fB 1) &&& (127 : Int32))), (.int (2 : Int32))])) (fun t k => XS.bipush X2.here hx rfl (hb hby d4_33) k) ?_
      by_cases hc35 : ((fB 1) &&& (127 : Int32)) = (126 : Int32)
      · refine Wk.go (A' := T2.setTop (mkF m 38 #[rv ob, iv ((fB 1) &&& (127 : Int32))] [(.int (2 : Int32))])) (fun t k => XS.icmpNo X2.here hx rfl (hb hby d4_35) rfl (teq hc35).2 k) ?_
        refine Wk.go (A' := T2.setTop (mkF m 39 #[rv ob, iv ((fB 1) &&& (127 : Int32))] [(.int (2 : Int32)), (.int (2 : Int32))])) (fun t k => XS.iconst X2.here hx rfl (hb hby d4_38) k) ?_
        refine Wk.go (A' := T2.setTop (mkF m 43 #[rv ob, iv ((fB 1) &&& (127 : Int32))] [(.int (2 : Int32)), (.int (2 : Int32))])) (fun t k => XS.goto X2.here hx rfl (pc0 := 39) (pc' := 43) rfl (hb hby d4_39) (by decide) (by decide) k) ?_
        refine Wk.go (A' := T2.setTop (mkF m 44 #[rv ob, iv ((fB 1) &&& (127 : Int32))] [(.int (4 : Int32))])) (fun t k => XS.iadd X2.here hx rfl (hb hby d4_43) rfl k) ?_
        refine own_fin (Qv := Q4 Z ob ba fB wc h0 n0) (v := some (.int (4 : Int32))) X2 hlk (fun h => by rw [Bd.returns] at h; cases h) (fun fs hr => retI X2 hx Bd.returns (hb hby d4_44) hr) ?_ (by decide) (by decide)
        refine ⟨?_, N0, e2⟩
        simp only [f_lend, if_neg hc5, if_neg hc24, if_pos hc35]
      · refine Wk.go (A' := T2.setTop (mkF m 42 #[rv ob, iv ((fB 1) &&& (127 : Int32))] [(.int (2 : Int32))])) (fun t k => XS.icmpYes X2.here hx rfl (pc0 := 35) (pc' := 42) rfl (hb hby d4_35) rfl (feq hc35).2 (by decide) (by decide) k) ?_
        refine Wk.go (A' := T2.setTop (mkF m 43 #[rv ob, iv ((fB 1) &&& (127 : Int32))] [(.int (0 : Int32)), (.int (2 : Int32))])) (fun t k => XS.iconst X2.here hx rfl (hb hby d4_42) k) ?_
        refine Wk.go (A' := T2.setTop (mkF m 44 #[rv ob, iv ((fB 1) &&& (127 : Int32))] [(.int (2 : Int32))])) (fun t k => XS.iadd X2.here hx rfl (hb hby d4_43) rfl k) ?_
        refine own_fin (Qv := Q4 Z ob ba fB wc h0 n0) (v := some (.int (2 : Int32))) X2 hlk (fun h => by rw [Bd.returns] at h; cases h) (fun fs hr => retI X2 hx Bd.returns (hb hby d4_44) hr) ?_ (by decide) (by decide)
        refine ⟨?_, N0, e2⟩
        simp only [f_lend, if_neg hc5, if_neg hc24, if_neg hc35]
theorem d6_0 : decode prog_100_method_4_code 0 = .ok (.aload_n 0, 1) := by decide +kernel
theorem tw31 {Z : State} {a0 : Array Value} (hw : ∀ d ∈ tables_1, d.before a0 Z = true) : (Jvm.Cond.fieldLink "com/example/dense_envelope/denseenvelope/websocket/FrameHeader" (32 : Nat) "com/example/dense_envelope/denseenvelope/websocket/FrameHeader" "opcode" "I").before a0 Z = true := hw _ (List.mem_of_getElem? (i := 31) rfl)
theorem d6_1 : decode prog_100_method_4_code 1 = .ok (.getfield 32, 3) := by decide +kernel
theorem d6_4 : decode prog_100_method_4_code 4 = .ok (.bipush 8, 2) := by decide +kernel
theorem d6_6 : decode prog_100_method_4_code 6 = .ok (.if_icmp .lt 7, 3) := by decide +kernel
theorem d6_13 : decode prog_100_method_4_code 13 = .ok (.iconst 0, 1) := by decide +kernel
theorem d6_14 : decode prog_100_method_4_code 14 = .ok (.ireturn, 1) := by decide +kernel
theorem d6_9 : decode prog_100_method_4_code 9 = .ok (.iconst 1, 1) := by decide +kernel
theorem d6_10 : decode prog_100_method_4_code 10 = .ok (.goto 4, 3) := by decide +kernel
theorem ef_6 (m : MethodId) (x0 : Addr) : entryFrame m #[(.ref x0)] 1 = mkF m 0 #[rv x0] [] := by first | (simp [entryFrame, mkF, argsToLocals, Value.category]; done) | rfl
def f_ctl (ob : Addr) (wo : Int32) : Int32 := (if wo < (8 : Int32) then (0 : Int32) else (1 : Int32))
def Q6 (Z : State) (ob : Addr) (wo : Int32) (h0 : Heap) (n0 : Nat) (v : Option Value) (h : Heap) (L : List Loc) : Prop := v = some (.int (f_ctl ob wo)) ∧ Fr n0 L ∧ h = h0
set_option maxRecDepth 65536 in
set_option maxHeartbeats 40000000 in
theorem rm6 (l : Launch) (Z : State) (a0 : Array Value) (hw : ∀ d ∈ tables_1, d.before a0 Z = true) (ws : List Jvm.Cond) (ob : Addr) (wo : Int32) (h0 : Heap) (n0 : Nat) (Z0 : n0 ≤ h0.size) (F_opcode : Fld Z h0 ob own_F "opcode" "I" (.int wo)) :
    MetFree l (⟨own_F, "isControl", "()Z"⟩ : MethodName) (head1 (Jvm.Cond.code (⟨own_F, "isControl", "()Z"⟩ : MethodName) prog_100_method_4_code 1 (some .boolean) :: ws) ({ frames := 0, cells := 0, slots := 0, locals := 0 } : Room)) (fun a U => a = #[(.ref ob)] ∧ Z.Warmed39 U.vm ∧ U.heap = h0) (fun _ _ _ _ _ => True) (fun _ U o U' => ∃ v L, o = .returned v ∧ Q6 Z ob wo h0 n0 v U'.heap L ∧ FrameEnd U o U' L ({ frames := 0, cells := 0, slots := 0, locals := 0 } : Room).cells ({ frames := 0, cells := 0, slots := 0, locals := 0 } : Room).slots) := by
  refine MetFree.of_bodySF (plainFor_of_name pn_0) hisR ?_
  intro p e s m args below meth c s₁ Bd hml0 hP hK
  obtain ⟨rfl, hZ, hh⟩ := hP
  have hx := Bd.exec
  have hby := Bd.bytes
  have hml : c.maxLocals = 1 := hml0
  have hown : s.vm.findClass own_F = some m.cls := findClass_of_methodNamed Bd.named
  have hnm := (name_of_methodNamed Bd.named Bd.method).1
  have X0 : Stand p l e ({ frames := 0, cells := 0, slots := 0, locals := 0 } : Room) s m #[(.ref ob)] below meth c s₁ [] 0 0 := Stand.of_body Bd
  have e0 : s₁.heap = h0 := by rw [← hh, Bd.state]; rfl
  have N0 := Fr.nil n0
  have hlk : meth.locks = false := BodyLoose.notSynchronized Bd
  suffices hwk : Wk p.tables e below (s₁.setTop (mkF m 0 #[rv ob] [])) (fun U o => U.status = .running ∧ Ended U below o ∧ ∃ v L, o = .returned v ∧ Q6 Z ob wo h0 n0 v U.heap L ∧ FrameEnd s o U L 0 0) by
    obtain ⟨U, o, k1, k2⟩ := hwk
    exact ⟨U, o, castTop (ef_6 m ob) k1, k2⟩
  refine Wk.go (A' := s₁.setTop (mkF m 1 #[rv ob] [(.ref ob)])) (fun t k => XS.aloadN X0.here hx rfl (hb hby d6_0) rfl rfl k) ?_
  obtain ⟨T1, X1, e1, st1⟩ := getF X0 hx hZ hown (host := "") (Or.inl (tw31 hw)) Via.refl e0 F_opcode (g := (mkF m 1 #[rv ob] [(.ref ob)])) rfl rfl (hb hby d6_1)
  refine Wk.go (A' := T1.setTop (mkF m 4 #[rv ob] [(.int wo)])) (fun t k => st1 t k) ?_
  refine Wk.go (A' := T1.setTop (mkF m 6 #[rv ob] [(.int (8 : Int32)), (.int wo)])) (fun t k => XS.bipush X1.here hx rfl (hb hby d6_4) k) ?_
  by_cases hc6 : wo < (8 : Int32)
  · refine Wk.go (A' := T1.setTop (mkF m 13 #[rv ob] [])) (fun t k => XS.icmpYes X1.here hx rfl (pc0 := 6) (pc' := 13) rfl (hb hby d6_6) rfl (tlt hc6).1 (by decide) (by decide) k) ?_
    refine Wk.go (A' := T1.setTop (mkF m 14 #[rv ob] [(.int (0 : Int32))])) (fun t k => XS.iconst X1.here hx rfl (hb hby d6_13) k) ?_
    refine own_fin (Qv := Q6 Z ob wo h0 n0) (v := some (.int (0 : Int32))) X1 hlk (fun h => by rw [Bd.returns] at h; cases h) (fun fs hr => retN X1 hx (t := .boolean) Bd.returns (by simp) (hb hby d6_14) hr) ?_ (by decide) (by decide)
    refine ⟨?_, N0, e1⟩
    simp only [f_ctl, if_pos hc6]
  · refine Wk.go (A' := T1.setTop (mkF m 9 #[rv ob] [])) (fun t k => XS.icmpNo X1.here hx rfl (hb hby d6_6) rfl (flt hc6).1 k) ?_
    refine Wk.go (A' := T1.setTop (mkF m 10 #[rv ob] [(.int (1 : Int32))])) (fun t k => XS.iconst X1.here hx rfl (hb hby d6_9) k) ?_
    refine Wk.go (A' := T1.setTop (mkF m 14 #[rv ob] [(.int (1 : Int32))])) (fun t k => XS.goto X1.here hx rfl (pc0 := 10) (pc' := 14) rfl (hb hby d6_10) (by decide) (by decide) k) ?_
    refine own_fin (Qv := Q6 Z ob wo h0 n0) (v := some (.int (1 : Int32))) X1 hlk (fun h => by rw [Bd.returns] at h; cases h) (fun fs hr => retN X1 hx (t := .boolean) Bd.returns (by simp) (hb hby d6_14) hr) ?_ (by decide) (by decide)
    refine ⟨?_, N0, e1⟩
    simp only [f_ctl, if_neg hc6]
theorem own_l1 (o a : Addr) (f : Nat → Int32) {c : Int32} (h : c < (2 : Int32)) : f_lend o a f c = 2 := by unfold f_lend; rw [if_pos h]
theorem own_l2 (o a : Addr) (f : Nat → Int32) {c : Int32} (h : ¬ c < (2 : Int32)) (h1 : (f 1 &&& (127 : Int32)) < (126 : Int32)) : f_lend o a f c = 2 := by
  unfold f_lend
  have e6 : (126 : Int32).toInt = 126 := by decide
  have e7 : (127 : Int32).toInt = 127 := by decide
  rw [Int32.lt_iff_toInt_lt] at h1
  rw [if_neg h, if_neg (fun q => by rw [q] at h1; omega), if_neg (fun q => by rw [q] at h1; omega)]
  try rfl
theorem own_l4 (o a : Addr) (f : Nat → Int32) {c : Int32} (h : ¬ c < (2 : Int32)) (h1 : (f 1 &&& (127 : Int32)) = (126 : Int32)) : f_lend o a f c = 4 := by
  unfold f_lend
  rw [if_neg h, if_neg (fun q => absurd (h1.symm.trans q) (by decide)), if_pos h1]
  try rfl
theorem own_c2 (o : Addr) : f_ctl o (2 : Int32) = 0 := by unfold f_ctl; rw [if_pos (by decide)]
theorem d1_0 : decode prog_100_method_1_code 0 = .ok (.aload_n 0, 1) := by decide +kernel
theorem tw8 {Z : State} {a0 : Array Value} (hw : ∀ d ∈ tables_1, d.before a0 Z = true) : (Jvm.Cond.methodLink "com/example/dense_envelope/denseenvelope/websocket/FrameHeader" (1 : Nat) ({ cls := "java/lang/Object", name := "<init>", desc := "()V" } : Jvm.MethodName)).before a0 Z = true := hw _ (List.mem_of_getElem? (i := 8) rfl)
theorem tw9 {Z : State} {a0 : Array Value} (hw : ∀ d ∈ tables_1, d.before a0 Z = true) : (Jvm.Cond.instanceMethod ({ cls := "java/lang/Object", name := "<init>", desc := "()V" } : Jvm.MethodName)).before a0 Z = true := hw _ (List.mem_of_getElem? (i := 9) rfl)
theorem tw10 {Z : State} {a0 : Array Value} (hw : ∀ d ∈ tables_1, d.before a0 Z = true) : (Jvm.Cond.code ({ cls := "java/lang/Object", name := "<init>", desc := "()V" } : Jvm.MethodName) object_method_1_code (1 : Nat) (Option.none : Option Jvm.ClassFile.FieldType)).before a0 Z = true := hw _ (List.mem_of_getElem? (i := 10) rfl)
theorem d1_1 : decode prog_100_method_1_code 1 = .ok (.invokespecial 1, 3) := by decide +kernel
theorem d1_4 : decode prog_100_method_1_code 4 = .ok (.aload_n 0, 1) := by decide +kernel
theorem d1_5 : decode prog_100_method_1_code 5 = .ok (.bipush 14, 2) := by decide +kernel
theorem tw1 {Z : State} {a0 : Array Value} (hw : ∀ d ∈ tables_1, d.before a0 Z = true) : (Jvm.Cond.arrayClass Jvm.ClassFile.FieldType.byte).before a0 Z = true := hw _ (List.mem_of_getElem? (i := 1) rfl)
theorem d1_7 : decode prog_100_method_1_code 7 = .ok (.newarray .byte, 2) := by decide +kernel
theorem tw12 {Z : State} {a0 : Array Value} (hw : ∀ d ∈ tables_1, d.before a0 Z = true) : (Jvm.Cond.laysFinal "com/example/dense_envelope/denseenvelope/websocket/FrameHeader" "com/example/dense_envelope/denseenvelope/websocket/FrameHeader" "bytes" "[B").before a0 Z = true := hw _ (List.mem_of_getElem? (i := 12) rfl)
theorem tw3 {Z : State} {a0 : Array Value} (hw : ∀ d ∈ tables_1, d.before a0 Z = true) : (Jvm.Cond.instantiable "com/example/dense_envelope/denseenvelope/websocket/FrameHeader" (11 : Nat)).before a0 Z = true := hw _ (List.mem_of_getElem? (i := 3) rfl)
theorem d1_9 : decode prog_100_method_1_code 9 = .ok (.putfield 7, 3) := by decide +kernel
theorem tw14 {Z : State} {a0 : Array Value} (hw : ∀ d ∈ tables_1, d.before a0 Z = true) : (Jvm.Cond.laysFinal "com/example/dense_envelope/denseenvelope/websocket/FrameHeader" "com/example/dense_envelope/denseenvelope/websocket/FrameHeader" "masked" "Z").before a0 Z = true := hw _ (List.mem_of_getElem? (i := 14) rfl)
theorem sn_0 {Z : State} {a0 : Array Value} (hw : ∀ d ∈ tables_1, d.before a0 Z = true) : Jvm.RoadKit.slotOf Z own_F "masked" "Z" ≠ Jvm.RoadKit.slotOf Z own_F "bytes" "[B" := Jvm.RoadKit.slot_ne (Or.inr (tw14 hw)) (Or.inr (tw12 hw)) (by decide) (t := .boolean) (t' := (.array .byte)) (by decide) (by decide)
theorem tw22 {Z : State} {a0 : Array Value} (hw : ∀ d ∈ tables_1, d.before a0 Z = true) : (Jvm.Cond.lays "com/example/dense_envelope/denseenvelope/websocket/FrameHeader" "com/example/dense_envelope/denseenvelope/websocket/FrameHeader" "count" "I").before a0 Z = true := hw _ (List.mem_of_getElem? (i := 22) rfl)
theorem sn_1 {Z : State} {a0 : Array Value} (hw : ∀ d ∈ tables_1, d.before a0 Z = true) : Jvm.RoadKit.slotOf Z own_F "count" "I" ≠ Jvm.RoadKit.slotOf Z own_F "bytes" "[B" := Jvm.RoadKit.slot_ne (Or.inl (tw22 hw)) (Or.inr (tw12 hw)) (by decide) (t := .int) (t' := (.array .byte)) (by decide) (by decide)
theorem tw32 {Z : State} {a0 : Array Value} (hw : ∀ d ∈ tables_1, d.before a0 Z = true) : (Jvm.Cond.lays "com/example/dense_envelope/denseenvelope/websocket/FrameHeader" "com/example/dense_envelope/denseenvelope/websocket/FrameHeader" "opcode" "I").before a0 Z = true := hw _ (List.mem_of_getElem? (i := 32) rfl)
theorem sn_2 {Z : State} {a0 : Array Value} (hw : ∀ d ∈ tables_1, d.before a0 Z = true) : Jvm.RoadKit.slotOf Z own_F "opcode" "I" ≠ Jvm.RoadKit.slotOf Z own_F "bytes" "[B" := Jvm.RoadKit.slot_ne (Or.inl (tw32 hw)) (Or.inr (tw12 hw)) (by decide) (t := .int) (t' := (.array .byte)) (by decide) (by decide)
theorem tw34 {Z : State} {a0 : Array Value} (hw : ∀ d ∈ tables_1, d.before a0 Z = true) : (Jvm.Cond.lays "com/example/dense_envelope/denseenvelope/websocket/FrameHeader" "com/example/dense_envelope/denseenvelope/websocket/FrameHeader" "last" "Z").before a0 Z = true := hw _ (List.mem_of_getElem? (i := 34) rfl)
theorem sn_3 {Z : State} {a0 : Array Value} (hw : ∀ d ∈ tables_1, d.before a0 Z = true) : Jvm.RoadKit.slotOf Z own_F "last" "Z" ≠ Jvm.RoadKit.slotOf Z own_F "bytes" "[B" := Jvm.RoadKit.slot_ne (Or.inl (tw34 hw)) (Or.inr (tw12 hw)) (by decide) (t := .boolean) (t' := (.array .byte)) (by decide) (by decide)
theorem tw41 {Z : State} {a0 : Array Value} (hw : ∀ d ∈ tables_1, d.before a0 Z = true) : (Jvm.Cond.lays "com/example/dense_envelope/denseenvelope/websocket/FrameHeader" "com/example/dense_envelope/denseenvelope/websocket/FrameHeader" "open" "Z").before a0 Z = true := hw _ (List.mem_of_getElem? (i := 41) rfl)
theorem sn_4 {Z : State} {a0 : Array Value} (hw : ∀ d ∈ tables_1, d.before a0 Z = true) : Jvm.RoadKit.slotOf Z own_F "open" "Z" ≠ Jvm.RoadKit.slotOf Z own_F "bytes" "[B" := Jvm.RoadKit.slot_ne (Or.inl (tw41 hw)) (Or.inr (tw12 hw)) (by decide) (t := .boolean) (t' := (.array .byte)) (by decide) (by decide)
theorem tw47 {Z : State} {a0 : Array Value} (hw : ∀ d ∈ tables_1, d.before a0 Z = true) : (Jvm.Cond.lays "com/example/dense_envelope/denseenvelope/websocket/FrameHeader" "com/example/dense_envelope/denseenvelope/websocket/FrameHeader" "length" "J").before a0 Z = true := hw _ (List.mem_of_getElem? (i := 47) rfl)
theorem sn_5 {Z : State} {a0 : Array Value} (hw : ∀ d ∈ tables_1, d.before a0 Z = true) : Jvm.RoadKit.slotOf Z own_F "length" "J" ≠ Jvm.RoadKit.slotOf Z own_F "bytes" "[B" := Jvm.RoadKit.slot_ne (Or.inl (tw47 hw)) (Or.inr (tw12 hw)) (by decide) (t := .long) (t' := (.array .byte)) (by decide) (by decide)
theorem tw49 {Z : State} {a0 : Array Value} (hw : ∀ d ∈ tables_1, d.before a0 Z = true) : (Jvm.Cond.lays "com/example/dense_envelope/denseenvelope/websocket/FrameHeader" "com/example/dense_envelope/denseenvelope/websocket/FrameHeader" "maskAt" "I").before a0 Z = true := hw _ (List.mem_of_getElem? (i := 49) rfl)
theorem sn_6 {Z : State} {a0 : Array Value} (hw : ∀ d ∈ tables_1, d.before a0 Z = true) : Jvm.RoadKit.slotOf Z own_F "maskAt" "I" ≠ Jvm.RoadKit.slotOf Z own_F "bytes" "[B" := Jvm.RoadKit.slot_ne (Or.inl (tw49 hw)) (Or.inr (tw12 hw)) (by decide) (t := .int) (t' := (.array .byte)) (by decide) (by decide)
theorem tw51 {Z : State} {a0 : Array Value} (hw : ∀ d ∈ tables_1, d.before a0 Z = true) : (Jvm.Cond.lays "com/example/dense_envelope/denseenvelope/websocket/FrameHeader" "com/example/dense_envelope/denseenvelope/websocket/FrameHeader" "messageOpcode" "I").before a0 Z = true := hw _ (List.mem_of_getElem? (i := 51) rfl)
theorem sn_7 {Z : State} {a0 : Array Value} (hw : ∀ d ∈ tables_1, d.before a0 Z = true) : Jvm.RoadKit.slotOf Z own_F "messageOpcode" "I" ≠ Jvm.RoadKit.slotOf Z own_F "bytes" "[B" := Jvm.RoadKit.slot_ne (Or.inl (tw51 hw)) (Or.inr (tw12 hw)) (by decide) (t := .int) (t' := (.array .byte)) (by decide) (by decide)
theorem tw53 {Z : State} {a0 : Array Value} (hw : ∀ d ∈ tables_1, d.before a0 Z = true) : (Jvm.Cond.lays "com/example/dense_envelope/denseenvelope/websocket/FrameHeader" "com/example/dense_envelope/denseenvelope/websocket/FrameHeader" "messageBytes" "J").before a0 Z = true := hw _ (List.mem_of_getElem? (i := 53) rfl)
theorem sn_8 {Z : State} {a0 : Array Value} (hw : ∀ d ∈ tables_1, d.before a0 Z = true) : Jvm.RoadKit.slotOf Z own_F "messageBytes" "J" ≠ Jvm.RoadKit.slotOf Z own_F "bytes" "[B" := Jvm.RoadKit.slot_ne (Or.inl (tw53 hw)) (Or.inr (tw12 hw)) (by decide) (t := .long) (t' := (.array .byte)) (by decide) (by decide)
theorem tw55 {Z : State} {a0 : Array Value} (hw : ∀ d ∈ tables_1, d.before a0 Z = true) : (Jvm.Cond.lays "com/example/dense_envelope/denseenvelope/websocket/FrameHeader" "com/example/dense_envelope/denseenvelope/websocket/FrameHeader" "dataLength" "J").before a0 Z = true := hw _ (List.mem_of_getElem? (i := 55) rfl)
theorem sn_9 {Z : State} {a0 : Array Value} (hw : ∀ d ∈ tables_1, d.before a0 Z = true) : Jvm.RoadKit.slotOf Z own_F "dataLength" "J" ≠ Jvm.RoadKit.slotOf Z own_F "bytes" "[B" := Jvm.RoadKit.slot_ne (Or.inl (tw55 hw)) (Or.inr (tw12 hw)) (by decide) (t := .long) (t' := (.array .byte)) (by decide) (by decide)
theorem d1_12 : decode prog_100_method_1_code 12 = .ok (.aload_n 0, 1) := by decide +kernel
theorem d1_13 : decode prog_100_method_1_code 13 = .ok (.iload_n 1, 1) := by decide +kernel
theorem tw13 {Z : State} {a0 : Array Value} (hw : ∀ d ∈ tables_1, d.before a0 Z = true) : (Jvm.Cond.fieldLink "com/example/dense_envelope/denseenvelope/websocket/FrameHeader" (13 : Nat) "com/example/dense_envelope/denseenvelope/websocket/FrameHeader" "masked" "Z").before a0 Z = true := hw _ (List.mem_of_getElem? (i := 13) rfl)
theorem d1_14 : decode prog_100_method_1_code 14 = .ok (.putfield 13, 3) := by decide +kernel
theorem sn_10 {Z : State} {a0 : Array Value} (hw : ∀ d ∈ tables_1, d.before a0 Z = true) : Jvm.RoadKit.slotOf Z own_F "bytes" "[B" ≠ Jvm.RoadKit.slotOf Z own_F "masked" "Z" := Jvm.RoadKit.slot_ne (Or.inr (tw12 hw)) (Or.inr (tw14 hw)) (by decide) (t := (.array .byte)) (t' := .boolean) (by decide) (by decide)
theorem sn_11 {Z : State} {a0 : Array Value} (hw : ∀ d ∈ tables_1, d.before a0 Z = true) : Jvm.RoadKit.slotOf Z own_F "count" "I" ≠ Jvm.RoadKit.slotOf Z own_F "masked" "Z" := Jvm.RoadKit.slot_ne (Or.inl (tw22 hw)) (Or.inr (tw14 hw)) (by decide) (t := .int) (t' := .boolean) (by decide) (by decide)
theorem sn_12 {Z : State} {a0 : Array Value} (hw : ∀ d ∈ tables_1, d.before a0 Z = true) : Jvm.RoadKit.slotOf Z own_F "opcode" "I" ≠ Jvm.RoadKit.slotOf Z own_F "masked" "Z" := Jvm.RoadKit.slot_ne (Or.inl (tw32 hw)) (Or.inr (tw14 hw)) (by decide) (t := .int) (t' := .boolean) (by decide) (by decide)
theorem sn_13 {Z : State} {a0 : Array Value} (hw : ∀ d ∈ tables_1, d.before a0 Z = true) : Jvm.RoadKit.slotOf Z own_F "last" "Z" ≠ Jvm.RoadKit.slotOf Z own_F "masked" "Z" := Jvm.RoadKit.slot_ne (Or.inl (tw34 hw)) (Or.inr (tw14 hw)) (by decide) (t := .boolean) (t' := .boolean) (by decide) (by decide)
theorem sn_14 {Z : State} {a0 : Array Value} (hw : ∀ d ∈ tables_1, d.before a0 Z = true) : Jvm.RoadKit.slotOf Z own_F "open" "Z" ≠ Jvm.RoadKit.slotOf Z own_F "masked" "Z" := Jvm.RoadKit.slot_ne (Or.inl (tw41 hw)) (Or.inr (tw14 hw)) (by decide) (t := .boolean) (t' := .boolean) (by decide) (by decide)
theorem sn_15 {Z : State} {a0 : Array Value} (hw : ∀ d ∈ tables_1, d.before a0 Z = true) : Jvm.RoadKit.slotOf Z own_F "length" "J" ≠ Jvm.RoadKit.slotOf Z own_F "masked" "Z" := Jvm.RoadKit.slot_ne (Or.inl (tw47 hw)) (Or.inr (tw14 hw)) (by decide) (t := .long) (t' := .boolean) (by decide) (by decide)
theorem sn_16 {Z : State} {a0 : Array Value} (hw : ∀ d ∈ tables_1, d.before a0 Z = true) : Jvm.RoadKit.slotOf Z own_F "maskAt" "I" ≠ Jvm.RoadKit.slotOf Z own_F "masked" "Z" := Jvm.RoadKit.slot_ne (Or.inl (tw49 hw)) (Or.inr (tw14 hw)) (by decide) (t := .int) (t' := .boolean) (by decide) (by decide)
theorem sn_17 {Z : State} {a0 : Array Value} (hw : ∀ d ∈ tables_1, d.before a0 Z = true) : Jvm.RoadKit.slotOf Z own_F "messageOpcode" "I" ≠ Jvm.RoadKit.slotOf Z own_F "masked" "Z" := Jvm.RoadKit.slot_ne (Or.inl (tw51 hw)) (Or.inr (tw14 hw)) (by decide) (t := .int) (t' := .boolean) (by decide) (by decide)
theorem sn_18 {Z : State} {a0 : Array Value} (hw : ∀ d ∈ tables_1, d.before a0 Z = true) : Jvm.RoadKit.slotOf Z own_F "messageBytes" "J" ≠ Jvm.RoadKit.slotOf Z own_F "masked" "Z" := Jvm.RoadKit.slot_ne (Or.inl (tw53 hw)) (Or.inr (tw14 hw)) (by decide) (t := .long) (t' := .boolean) (by decide) (by decide)
theorem sn_19 {Z : State} {a0 : Array Value} (hw : ∀ d ∈ tables_1, d.before a0 Z = true) : Jvm.RoadKit.slotOf Z own_F "dataLength" "J" ≠ Jvm.RoadKit.slotOf Z own_F "masked" "Z" := Jvm.RoadKit.slot_ne (Or.inl (tw55 hw)) (Or.inr (tw14 hw)) (by decide) (t := .long) (t' := .boolean) (by decide) (by decide)
theorem d1_17 : decode prog_100_method_1_code 17 = .ok (.return_, 1) := by decide +kernel
theorem ef_1 (m : MethodId) (x0 : Addr) (x1 : Int32) : entryFrame m #[(.ref x0), (.int x1)] 2 = mkF m 0 #[rv x0, iv x1] [] := by first | (simp [entryFrame, mkF, argsToLocals, Value.category]; done) | rfl
def Q1 (Z : State) (ob : Addr) (mk : Int32)  (h0 : Heap) (n0 : Nat) (v : Option Value) (h : Heap) (L : List Loc) : Prop := v = none ∧ Fr n0 L ∧ Keep h0 h [ob] ∧ ∃ b : Addr, n0 ≤ b ∧ h0.size ≤ b ∧ Exa Z h ob own_F ∧ Fld Z h ob own_F "bytes" "[B" (.ref b) ∧ Fld Z h ob own_F "masked" "Z" (.int (nar .boolean mk)) ∧ Fld Z h ob own_F "count" "I" (.int (0 : Int32)) ∧ Fld Z h ob own_F "opcode" "I" (.int (0 : Int32)) ∧ Fld Z h ob own_F "last" "Z" (.int (0 : Int32)) ∧ Fld Z h ob own_F "open" "Z" (.int (0 : Int32)) ∧ Fld Z h ob own_F "length" "J" (.long (0 : Int64)) ∧ Fld Z h ob own_F "maskAt" "I" (.int (0 : Int32)) ∧ Fld Z h ob own_F "messageOpcode" "I" (.int (0 : Int32)) ∧ Fld Z h ob own_F "messageBytes" "J" (.long (0 : Int64)) ∧ Fld Z h ob own_F "dataLength" "J" (.long (0 : Int64)) ∧ BA Z h b 14 (fun _ => 0)
set_option maxRecDepth 65536 in
set_option maxHeartbeats 40000000 in
theorem rm1 (l : Launch) (Z : State) (a0 : Array Value) (hw : ∀ d ∈ tables_1, d.before a0 Z = true) (ws : List Jvm.Cond) (ob : Addr) (mk : Int32)  (h0 : Heap) (n0 : Nat) (Z0 : n0 ≤ h0.size) (E_ob : Exa Z h0 ob own_F) (F_bytes : Fld Z h0 ob own_F "bytes" "[B" .null) (F_masked : Fld Z h0 ob own_F "masked" "Z" (.int (0 : Int32))) (F_count : Fld Z h0 ob own_F "count" "I" (.int (0 : Int32))) (F_opcode : Fld Z h0 ob own_F "opcode" "I" (.int (0 : Int32))) (F_last : Fld Z h0 ob own_F "last" "Z" (.int (0 : Int32))) (F_open : Fld Z h0 ob own_F "open" "Z" (.int (0 : Int32))) (F_length : Fld Z h0 ob own_F "length" "J" (.long (0 : Int64))) (F_maskAt : Fld Z h0 ob own_F "maskAt" "I" (.int (0 : Int32))) (F_messageOpcode : Fld Z h0 ob own_F "messageOpcode" "I" (.int (0 : Int32))) (F_messageBytes : Fld Z h0 ob own_F "messageBytes" "J" (.long (0 : Int64))) (F_dataLength : Fld Z h0 ob own_F "dataLength" "J" (.long (0 : Int64))) (g_ob : n0 ≤ ob) :
    MetFree l (⟨own_F, "<init>", "(Z)V"⟩ : MethodName) (head1 (Jvm.Cond.code (⟨own_F, "<init>", "(Z)V"⟩ : MethodName) prog_100_method_1_code 2 none :: ws) ({ frames := 1, cells := 1, slots := 14, locals := 12 } : Room)) (fun a U => a = #[(.ref ob), (.int mk)] ∧ Z.Warmed39 U.vm ∧ U.heap = h0) (fun _ _ _ _ _ => True) (fun _ U o U' => ∃ v L, o = .returned v ∧ Q1 Z ob mk h0 n0 v U'.heap L ∧ FrameEnd U o U' L ({ frames := 1, cells := 1, slots := 14, locals := 12 } : Room).cells ({ frames := 1, cells := 1, slots := 14, locals := 12 } : Room).slots) := by
  refine MetFree.of_bodySF (plainFor_of_name pn_0) hisR ?_
  intro p e s m args below meth c s₁ Bd hml0 hP hK
  obtain ⟨rfl, hZ, hh⟩ := hP
  have hx := Bd.exec
  have hby := Bd.bytes
  have hml : c.maxLocals = 2 := hml0
  have hown : s.vm.findClass own_F = some m.cls := findClass_of_methodNamed Bd.named
  have hnm := (name_of_methodNamed Bd.named Bd.method).1
  have X0 : Stand p l e ({ frames := 1, cells := 1, slots := 14, locals := 12 } : Room) s m #[(.ref ob), (.int mk)] below meth c s₁ [] 0 0 := Stand.of_body Bd
  have e0 : s₁.heap = h0 := by rw [← hh, Bd.state]; rfl
  have N0 := Fr.nil n0
  have hlk : meth.locks = false := BodyLoose.notSynchronized Bd
  suffices hwk : Wk p.tables e below (s₁.setTop (mkF m 0 #[rv ob, iv mk] [])) (fun U o => U.status = .running ∧ Ended U below o ∧ ∃ v L, o = .returned v ∧ Q1 Z ob mk h0 n0 v U.heap L ∧ FrameEnd s o U L 1 14) by
    obtain ⟨U, o, k1, k2⟩ := hwk
    exact ⟨U, o, castTop (ef_1 m ob mk) k1, k2⟩
  have K0 := Keep.refl h0 [ob]
  refine Wk.go (A' := s₁.setTop (mkF m 1 #[rv ob, iv mk] [(.ref ob)])) (fun t k => XS.aloadN X0.here hx rfl (hb hby d1_0) rfl rfl k) ?_
  obtain ⟨T1, X1, e1, st1⟩ := initO X0 hx hZ hown (tw8 hw) (tw9 hw) (tw10 hw) e0 (g := (mkF m 1 #[rv ob, iv mk] [(.ref ob)])) rfl (by rw [hml]; rfl) rfl (hb hby d1_1) (by decide) (W := 0) (by show 2 * 0 + _ ≤ _; exact Nat.le_of_eq rfl) (by decide)
  refine Wk.go (A' := T1.setTop (mkF m 4 #[rv ob, iv mk] [])) (fun t k => st1 t k) ?_
  refine Wk.go (A' := T1.setTop (mkF m 5 #[rv ob, iv mk] [(.ref ob)])) (fun t k => XS.aloadN X1.here hx rfl (hb hby d1_4) rfl rfl k) ?_
  refine Wk.go (A' := T1.setTop (mkF m 7 #[rv ob, iv mk] [(.int (14 : Int32)), (.ref ob)])) (fun t k => XS.bipush X1.here hx rfl (hb hby d1_5) k) ?_
  obtain ⟨T2, h2, k2, X2, e2, E2, A2, st2⟩ := newP (aty := .byte) X1 hx hZ (tw1 hw) e1 (g := (mkF m 7 #[rv ob, iv mk] [(.int (14 : Int32)), (.ref ob)])) rfl (hb hby d1_7) rfl (by decide) (cap := 14) (by decide) (by decide) (by decide) (by decide)
  obtain ⟨b2, g2⟩ : ∃ z, z = h0.size := ⟨_, rfl⟩
  rw [← g2] at A2 st2
  have g_b2 : n0 ≤ b2 := Nat.le_trans Z0 (Nat.le_of_eq g2.symm)
  have b_b2 : h0.size ≤ b2 := Nat.le_trans K0.1 (Nat.le_of_eq g2.symm)
  have ne_ob_b2 : ob ≠ b2 := Nat.ne_of_lt (Nat.lt_of_lt_of_le E_ob.lt (Nat.le_of_eq g2.symm))
  have f3 := E_ob.ext E2
  have f4 := F_bytes.ext E2
  have f5 := F_masked.ext E2
  have f6 := F_count.ext E2
  have f7 := F_opcode.ext E2
  have f8 := F_last.ext E2
  have f9 := F_open.ext E2
  have f10 := F_length.ext E2
  have f11 := F_maskAt.ext E2
  have f12 := F_messageOpcode.ext E2
  have f13 := F_messageBytes.ext E2
  have f14 := F_dataLength.ext E2
  have V2 : BA Z h2 b2 14 (fun _ => 0) := BA.new A2
  have Zp2 : n0 ≤ h2.size := Nat.le_trans Z0 E2.1
  have K2 := K0.ext E2
  refine Wk.go (A' := T2.setTop (mkF m 9 #[rv ob, iv mk] [(.ref b2), (.ref ob)])) (fun t k => st2 t k) ?_
  obtain ⟨T15, h15, X15, e15, W15, st15⟩ := putF X2 hx hZ hown (host := "") (Or.inl (tw11 hw)) Via.refl e2 f4 f3 (Or.inr ⟨(tw12 hw), rfl, hnm⟩) (tw3 hw) (ty := (.array .byte)) (by decide) rfl rfl (g := (mkF m 9 #[rv ob, iv mk] [(.ref b2), (.ref ob)])) rfl rfl (hb hby d1_9)
  have f16 := f3.wr W15
  have f17 := f4.same W15
  have f18 := f5.other W15 (Or.inr (sn_0 hw))
  have f19 := f6.other W15 (Or.inr (sn_1 hw))
  have f20 := f7.other W15 (Or.inr (sn_2 hw))
  have f21 := f8.other W15 (Or.inr (sn_3 hw))
  have f22 := f9.other W15 (Or.inr (sn_4 hw))
  have f23 := f10.other W15 (Or.inr (sn_5 hw))
  have f24 := f11.other W15 (Or.inr (sn_6 hw))
  have f25 := f12.other W15 (Or.inr (sn_7 hw))
  have f26 := f13.other W15 (Or.inr (sn_8 hw))
  have f27 := f14.other W15 (Or.inr (sn_9 hw))
  have f28 := V2.other W15 (Ne.symm ne_ob_b2)
  have Zp15 : n0 ≤ h15.size := Nat.le_trans Zp2 (Nat.le_of_eq W15.size.symm)
  have K15 := K2.wr W15 (Or.inl (List.mem_of_getElem? (i := 0) rfl))
  have N15 := Fr.snoc X15 N0 g_ob
  refine Wk.go (A' := T15.setTop (mkF m 12 #[rv ob, iv mk] [])) (fun t k => st15 t k) ?_
  refine Wk.go (A' := T15.setTop (mkF m 13 #[rv ob, iv mk] [(.ref ob)])) (fun t k => XS.aloadN X15.here hx rfl (hb hby d1_12) rfl rfl k) ?_
  refine Wk.go (A' := T15.setTop (mkF m 14 #[rv ob, iv mk] [(.int mk), (.ref ob)])) (fun t k => XS.iloadN X15.here hx rfl (hb hby d1_13) rfl k) ?_
  obtain ⟨T29, h29, X29, e29, W29, st29⟩ := putFN X15 hx hZ hown (tw13 hw) Via.refl e15 f18 f16 (Or.inr ⟨(tw14 hw), rfl, hnm⟩) (tw3 hw) (ty := .boolean) (v' := (.int (nar .boolean mk))) (by decide) rfl (fits_nar_bool mk) (g := (mkF m 14 #[rv ob, iv mk] [(.int mk), (.ref ob)])) rfl rfl (hb hby d1_14)
  have f30 := f16.wr W29
  have f31 := f17.other W29 (Or.inr (sn_10 hw))
  have f32 := f18.same W29
  have f33 := f19.other W29 (Or.inr (sn_11 hw))
  have f34 := f20.other W29 (Or.inr (sn_12 hw))
  have f35 := f21.other W29 (Or.inr (sn_13 hw))
  have f36 := f22.other W29 (Or.inr (sn_14 hw))
  have f37 := f23.other W29 (Or.inr (sn_15 hw))
  have f38 := f24.other W29 (Or.inr (sn_16 hw))
  have f39 := f25.other W29 (Or.inr (sn_17 hw))
  have f40 := f26.other W29 (Or.inr (sn_18 hw))
  have f41 := f27.other W29 (Or.inr (sn_19 hw))
  have f42 := f28.other W29 (Ne.symm ne_ob_b2)
  have Zp29 : n0 ≤ h29.size := Nat.le_trans Zp15 (Nat.le_of_eq W29.size.symm)
  have K29 := K15.wr W29 (Or.inl (List.mem_of_getElem? (i := 0) rfl))
  have N29 := Fr.snoc X29 N15 g_ob
  refine Wk.go (A' := T29.setTop (mkF m 17 #[rv ob, iv mk] [])) (fun t k => st29 t k) ?_
  refine own_fin (Qv := Q1 Z ob mk h0 n0) (v := none) X29 hlk (fun _ => rfl) (fun fs hr => X29.returnOut hx Bd.returns (hb hby d1_17) hr) ?_ (by decide) (by decide)
  show Q1 Z ob mk h0 n0 _ T29.heap _
  rw [e29]
  exact ⟨rfl, N29, K29, b2, g_b2, b_b2, f30, f31, f32, f33, f34, f35, f36, f37, f38, f39, f40, f41, f42⟩
theorem own_82 : ((-126 : Int32) &&& (112 : Int32)) = 0 ∧ ((-126 : Int32) &&& (15 : Int32)) = 2 ∧ ¬ (((-126 : Int32) &&& (128 : Int32)) = 0) := by decide
theorem d5_0 : decode prog_100_method_10_code 0 = .ok (.aload_n 0, 1) := by decide +kernel
theorem d5_1 : decode prog_100_method_10_code 1 = .ok (.getfield 7, 3) := by decide +kernel
theorem d5_4 : decode prog_100_method_10_code 4 = .ok (.iconst 0, 1) := by decide +kernel
theorem d5_5 : decode prog_100_method_10_code 5 = .ok (.baload, 1) := by decide +kernel
theorem d5_6 : decode prog_100_method_10_code 6 = .ok (.bipush 112, 2) := by decide +kernel
theorem d5_8 : decode prog_100_method_10_code 8 = .ok (.iand, 1) := by decide +kernel
theorem d5_9 : decode prog_100_method_10_code 9 = .ok (.ifCond .eq 9, 3) := by decide +kernel
theorem d5_18 : decode prog_100_method_10_code 18 = .ok (.aload_n 0, 1) := by decide +kernel
theorem d5_19 : decode prog_100_method_10_code 19 = .ok (.aload_n 0, 1) := by decide +kernel
theorem d5_20 : decode prog_100_method_10_code 20 = .ok (.getfield 7, 3) := by decide +kernel
theorem d5_23 : decode prog_100_method_10_code 23 = .ok (.iconst 0, 1) := by decide +kernel
theorem d5_24 : decode prog_100_method_10_code 24 = .ok (.baload, 1) := by decide +kernel
theorem d5_25 : decode prog_100_method_10_code 25 = .ok (.bipush 15, 2) := by decide +kernel
theorem d5_27 : decode prog_100_method_10_code 27 = .ok (.iand, 1) := by decide +kernel
theorem d5_28 : decode prog_100_method_10_code 28 = .ok (.putfield 32, 3) := by decide +kernel
theorem sn_20 {Z : State} {a0 : Array Value} (hw : ∀ d ∈ tables_1, d.before a0 Z = true) : Jvm.RoadKit.slotOf Z own_F "bytes" "[B" ≠ Jvm.RoadKit.slotOf Z own_F "opcode" "I" := Jvm.RoadKit.slot_ne (Or.inr (tw12 hw)) (Or.inl (tw32 hw)) (by decide) (t := (.array .byte)) (t' := .int) (by decide) (by decide)
theorem sn_21 {Z : State} {a0 : Array Value} (hw : ∀ d ∈ tables_1, d.before a0 Z = true) : Jvm.RoadKit.slotOf Z own_F "masked" "Z" ≠ Jvm.RoadKit.slotOf Z own_F "opcode" "I" := Jvm.RoadKit.slot_ne (Or.inr (tw14 hw)) (Or.inl (tw32 hw)) (by decide) (t := .boolean) (t' := .int) (by decide) (by decide)
theorem sn_22 {Z : State} {a0 : Array Value} (hw : ∀ d ∈ tables_1, d.before a0 Z = true) : Jvm.RoadKit.slotOf Z own_F "count" "I" ≠ Jvm.RoadKit.slotOf Z own_F "opcode" "I" := Jvm.RoadKit.slot_ne (Or.inl (tw22 hw)) (Or.inl (tw32 hw)) (by decide) (t := .int) (t' := .int) (by decide) (by decide)
theorem sn_23 {Z : State} {a0 : Array Value} (hw : ∀ d ∈ tables_1, d.before a0 Z = true) : Jvm.RoadKit.slotOf Z own_F "last" "Z" ≠ Jvm.RoadKit.slotOf Z own_F "opcode" "I" := Jvm.RoadKit.slot_ne (Or.inl (tw34 hw)) (Or.inl (tw32 hw)) (by decide) (t := .boolean) (t' := .int) (by decide) (by decide)
theorem sn_24 {Z : State} {a0 : Array Value} (hw : ∀ d ∈ tables_1, d.before a0 Z = true) : Jvm.RoadKit.slotOf Z own_F "open" "Z" ≠ Jvm.RoadKit.slotOf Z own_F "opcode" "I" := Jvm.RoadKit.slot_ne (Or.inl (tw41 hw)) (Or.inl (tw32 hw)) (by decide) (t := .boolean) (t' := .int) (by decide) (by decide)
theorem sn_25 {Z : State} {a0 : Array Value} (hw : ∀ d ∈ tables_1, d.before a0 Z = true) : Jvm.RoadKit.slotOf Z own_F "length" "J" ≠ Jvm.RoadKit.slotOf Z own_F "opcode" "I" := Jvm.RoadKit.slot_ne (Or.inl (tw47 hw)) (Or.inl (tw32 hw)) (by decide) (t := .long) (t' := .int) (by decide) (by decide)
theorem sn_26 {Z : State} {a0 : Array Value} (hw : ∀ d ∈ tables_1, d.before a0 Z = true) : Jvm.RoadKit.slotOf Z own_F "maskAt" "I" ≠ Jvm.RoadKit.slotOf Z own_F "opcode" "I" := Jvm.RoadKit.slot_ne (Or.inl (tw49 hw)) (Or.inl (tw32 hw)) (by decide) (t := .int) (t' := .int) (by decide) (by decide)
theorem sn_27 {Z : State} {a0 : Array Value} (hw : ∀ d ∈ tables_1, d.before a0 Z = true) : Jvm.RoadKit.slotOf Z own_F "messageOpcode" "I" ≠ Jvm.RoadKit.slotOf Z own_F "opcode" "I" := Jvm.RoadKit.slot_ne (Or.inl (tw51 hw)) (Or.inl (tw32 hw)) (by decide) (t := .int) (t' := .int) (by decide) (by decide)
theorem sn_28 {Z : State} {a0 : Array Value} (hw : ∀ d ∈ tables_1, d.before a0 Z = true) : Jvm.RoadKit.slotOf Z own_F "messageBytes" "J" ≠ Jvm.RoadKit.slotOf Z own_F "opcode" "I" := Jvm.RoadKit.slot_ne (Or.inl (tw53 hw)) (Or.inl (tw32 hw)) (by decide) (t := .long) (t' := .int) (by decide) (by decide)
theorem sn_29 {Z : State} {a0 : Array Value} (hw : ∀ d ∈ tables_1, d.before a0 Z = true) : Jvm.RoadKit.slotOf Z own_F "dataLength" "J" ≠ Jvm.RoadKit.slotOf Z own_F "opcode" "I" := Jvm.RoadKit.slot_ne (Or.inl (tw55 hw)) (Or.inl (tw32 hw)) (by decide) (t := .long) (t' := .int) (by decide) (by decide)
theorem d5_31 : decode prog_100_method_10_code 31 = .ok (.aload_n 0, 1) := by decide +kernel
theorem d5_32 : decode prog_100_method_10_code 32 = .ok (.aload_n 0, 1) := by decide +kernel
theorem d5_33 : decode prog_100_method_10_code 33 = .ok (.getfield 7, 3) := by decide +kernel
theorem d5_36 : decode prog_100_method_10_code 36 = .ok (.iconst 0, 1) := by decide +kernel
theorem d5_37 : decode prog_100_method_10_code 37 = .ok (.baload, 1) := by decide +kernel
theorem d5_38 : decode prog_100_method_10_code 38 = .ok (.sipush 128, 3) := by decide +kernel
theorem d5_41 : decode prog_100_method_10_code 41 = .ok (.iand, 1) := by decide +kernel
theorem d5_42 : decode prog_100_method_10_code 42 = .ok (.ifCond .eq 7, 3) := by decide +kernel
theorem d5_45 : decode prog_100_method_10_code 45 = .ok (.iconst 1, 1) := by decide +kernel
theorem d5_46 : decode prog_100_method_10_code 46 = .ok (.goto 4, 3) := by decide +kernel
theorem tw33 {Z : State} {a0 : Array Value} (hw : ∀ d ∈ tables_1, d.before a0 Z = true) : (Jvm.Cond.fieldLink "com/example/dense_envelope/denseenvelope/websocket/FrameHeader" (37 : Nat) "com/example/dense_envelope/denseenvelope/websocket/FrameHeader" "last" "Z").before a0 Z = true := hw _ (List.mem_of_getElem? (i := 33) rfl)
theorem d5_50 : decode prog_100_method_10_code 50 = .ok (.putfield 37, 3) := by decide +kernel
theorem sn_30 {Z : State} {a0 : Array Value} (hw : ∀ d ∈ tables_1, d.before a0 Z = true) : Jvm.RoadKit.slotOf Z own_F "bytes" "[B" ≠ Jvm.RoadKit.slotOf Z own_F "last" "Z" := Jvm.RoadKit.slot_ne (Or.inr (tw12 hw)) (Or.inl (tw34 hw)) (by decide) (t := (.array .byte)) (t' := .boolean) (by decide) (by decide)
theorem sn_31 {Z : State} {a0 : Array Value} (hw : ∀ d ∈ tables_1, d.before a0 Z = true) : Jvm.RoadKit.slotOf Z own_F "masked" "Z" ≠ Jvm.RoadKit.slotOf Z own_F "last" "Z" := Jvm.RoadKit.slot_ne (Or.inr (tw14 hw)) (Or.inl (tw34 hw)) (by decide) (t := .boolean) (t' := .boolean) (by decide) (by decide)
theorem sn_32 {Z : State} {a0 : Array Value} (hw : ∀ d ∈ tables_1, d.before a0 Z = true) : Jvm.RoadKit.slotOf Z own_F "count" "I" ≠ Jvm.RoadKit.slotOf Z own_F "last" "Z" := Jvm.RoadKit.slot_ne (Or.inl (tw22 hw)) (Or.inl (tw34 hw)) (by decide) (t := .int) (t' := .boolean) (by decide) (by decide)
theorem sn_33 {Z : State} {a0 : Array Value} (hw : ∀ d ∈ tables_1, d.before a0 Z = true) : Jvm.RoadKit.slotOf Z own_F "opcode" "I" ≠ Jvm.RoadKit.slotOf Z own_F "last" "Z" := Jvm.RoadKit.slot_ne (Or.inl (tw32 hw)) (Or.inl (tw34 hw)) (by decide) (t := .int) (t' := .boolean) (by decide) (by decide)
theorem sn_34 {Z : State} {a0 : Array Value} (hw : ∀ d ∈ tables_1, d.before a0 Z = true) : Jvm.RoadKit.slotOf Z own_F "open" "Z" ≠ Jvm.RoadKit.slotOf Z own_F "last" "Z" := Jvm.RoadKit.slot_ne (Or.inl (tw41 hw)) (Or.inl (tw34 hw)) (by decide) (t := .boolean) (t' := .boolean) (by decide) (by decide)
theorem sn_35 {Z : State} {a0 : Array Value} (hw : ∀ d ∈ tables_1, d.before a0 Z = true) : Jvm.RoadKit.slotOf Z own_F "length" "J" ≠ Jvm.RoadKit.slotOf Z own_F "last" "Z" := Jvm.RoadKit.slot_ne (Or.inl (tw47 hw)) (Or.inl (tw34 hw)) (by decide) (t := .long) (t' := .boolean) (by decide) (by decide)
theorem sn_36 {Z : State} {a0 : Array Value} (hw : ∀ d ∈ tables_1, d.before a0 Z = true) : Jvm.RoadKit.slotOf Z own_F "maskAt" "I" ≠ Jvm.RoadKit.slotOf Z own_F "last" "Z" := Jvm.RoadKit.slot_ne (Or.inl (tw49 hw)) (Or.inl (tw34 hw)) (by decide) (t := .int) (t' := .boolean) (by decide) (by decide)
theorem sn_37 {Z : State} {a0 : Array Value} (hw : ∀ d ∈ tables_1, d.before a0 Z = true) : Jvm.RoadKit.slotOf Z own_F "messageOpcode" "I" ≠ Jvm.RoadKit.slotOf Z own_F "last" "Z" := Jvm.RoadKit.slot_ne (Or.inl (tw51 hw)) (Or.inl (tw34 hw)) (by decide) (t := .int) (t' := .boolean) (by decide) (by decide)
theorem sn_38 {Z : State} {a0 : Array Value} (hw : ∀ d ∈ tables_1, d.before a0 Z = true) : Jvm.RoadKit.slotOf Z own_F "messageBytes" "J" ≠ Jvm.RoadKit.slotOf Z own_F "last" "Z" := Jvm.RoadKit.slot_ne (Or.inl (tw53 hw)) (Or.inl (tw34 hw)) (by decide) (t := .long) (t' := .boolean) (by decide) (by decide)
theorem sn_39 {Z : State} {a0 : Array Value} (hw : ∀ d ∈ tables_1, d.before a0 Z = true) : Jvm.RoadKit.slotOf Z own_F "dataLength" "J" ≠ Jvm.RoadKit.slotOf Z own_F "last" "Z" := Jvm.RoadKit.slot_ne (Or.inl (tw55 hw)) (Or.inl (tw34 hw)) (by decide) (t := .long) (t' := .boolean) (by decide) (by decide)
theorem d5_53 : decode prog_100_method_10_code 53 = .ok (.aload_n 0, 1) := by decide +kernel
theorem d5_54 : decode prog_100_method_10_code 54 = .ok (.getfield 32, 3) := by decide +kernel
theorem d5_57 : decode prog_100_method_10_code 57 = .ok (.iconst 2, 1) := by decide +kernel
theorem d5_58 : decode prog_100_method_10_code 58 = .ok (.if_icmp .le 12, 3) := by decide +kernel
theorem d5_70 : decode prog_100_method_10_code 70 = .ok (.aload_n 0, 1) := by decide +kernel
theorem d5_71 : decode prog_100_method_10_code 71 = .ok (.getfield 32, 3) := by decide +kernel
theorem d5_74 : decode prog_100_method_10_code 74 = .ok (.bipush 10, 2) := by decide +kernel
theorem d5_76 : decode prog_100_method_10_code 76 = .ok (.if_icmp .le 16, 3) := by decide +kernel
theorem d5_92 : decode prog_100_method_10_code 92 = .ok (.aload_n 0, 1) := by decide +kernel
theorem d5_93 : decode prog_100_method_10_code 93 = .ok (.getfield 7, 3) := by decide +kernel
theorem d5_96 : decode prog_100_method_10_code 96 = .ok (.iconst 1, 1) := by decide +kernel
theorem d5_97 : decode prog_100_method_10_code 97 = .ok (.baload, 1) := by decide +kernel
theorem d5_98 : decode prog_100_method_10_code 98 = .ok (.sipush 128, 3) := by decide +kernel
theorem d5_101 : decode prog_100_method_10_code 101 = .ok (.iand, 1) := by decide +kernel
theorem d5_102 : decode prog_100_method_10_code 102 = .ok (.ifCond .ne 16, 3) := by decide +kernel
theorem d5_105 : decode prog_100_method_10_code 105 = .ok (.aload_n 0, 1) := by decide +kernel
theorem d5_106 : decode prog_100_method_10_code 106 = .ok (.getfield 13, 3) := by decide +kernel
theorem d5_109 : decode prog_100_method_10_code 109 = .ok (.ifCond .eq 9, 3) := by decide +kernel
theorem d5_118 : decode prog_100_method_10_code 118 = .ok (.aload_n 0, 1) := by decide +kernel
theorem d5_119 : decode prog_100_method_10_code 119 = .ok (.getfield 7, 3) := by decide +kernel
theorem d5_122 : decode prog_100_method_10_code 122 = .ok (.iconst 1, 1) := by decide +kernel
theorem d5_123 : decode prog_100_method_10_code 123 = .ok (.baload, 1) := by decide +kernel
theorem d5_124 : decode prog_100_method_10_code 124 = .ok (.sipush 128, 3) := by decide +kernel
theorem d5_127 : decode prog_100_method_10_code 127 = .ok (.iand, 1) := by decide +kernel
theorem d5_128 : decode prog_100_method_10_code 128 = .ok (.ifCond .eq 16, 3) := by decide +kernel
theorem d5_144 : decode prog_100_method_10_code 144 = .ok (.aload_n 0, 1) := by decide +kernel
theorem tw35 {Z : State} {a0 : Array Value} (hw : ∀ d ∈ tables_1, d.before a0 Z = true) : (Jvm.Cond.methodLink "com/example/dense_envelope/denseenvelope/websocket/FrameHeader" (69 : Nat) ({ cls := "com/example/dense_envelope/denseenvelope/websocket/FrameHeader", name := "isControl", desc := "()Z" } : Jvm.MethodName)).before a0 Z = true := hw _ (List.mem_of_getElem? (i := 35) rfl)
theorem tw39 {Z : State} {a0 : Array Value} (hw : ∀ d ∈ tables_1, d.before a0 Z = true) : (Jvm.Cond.code ({ cls := "com/example/dense_envelope/denseenvelope/websocket/FrameHeader", name := "isControl", desc := "()Z" } : Jvm.MethodName) prog_100_method_4_code (1 : Nat) (Option.some Jvm.ClassFile.FieldType.boolean)).before a0 Z = true := hw _ (List.mem_of_getElem? (i := 39) rfl)
theorem tw4 {Z : State} {a0 : Array Value} (hw : ∀ d ∈ tables_1, d.before a0 Z = true) : (Jvm.Cond.initialized "com/example/dense_envelope/denseenvelope/websocket/FrameHeader").before a0 Z = true := hw _ (List.mem_of_getElem? (i := 4) rfl)
theorem pd_0 : parseMethodDescriptor "()Z" = some ⟨[], some .boolean⟩ := by decide +kernel
theorem d5_145 : decode prog_100_method_10_code 145 = .ok (.invokevirtual 69, 3) := by decide +kernel
theorem tw38 {Z : State} {a0 : Array Value} (hw : ∀ d ∈ tables_1, d.before a0 Z = true) : (Jvm.Cond.selects "com/example/dense_envelope/denseenvelope/websocket/FrameHeader" ({ cls := "com/example/dense_envelope/denseenvelope/websocket/FrameHeader", name := "isControl", desc := "()Z" } : Jvm.MethodName) ({ cls := "com/example/dense_envelope/denseenvelope/websocket/FrameHeader", name := "isControl", desc := "()Z" } : Jvm.MethodName)).before a0 Z = true := hw _ (List.mem_of_getElem? (i := 38) rfl)
theorem tw36 {Z : State} {a0 : Array Value} (hw : ∀ d ∈ tables_1, d.before a0 Z = true) : (Jvm.Cond.declares ({ cls := "com/example/dense_envelope/denseenvelope/websocket/FrameHeader", name := "isControl", desc := "()Z" } : Jvm.MethodName)).before a0 Z = true := hw _ (List.mem_of_getElem? (i := 36) rfl)
theorem tw37 {Z : State} {a0 : Array Value} (hw : ∀ d ∈ tables_1, d.before a0 Z = true) : (Jvm.Cond.instanceMethod ({ cls := "com/example/dense_envelope/denseenvelope/websocket/FrameHeader", name := "isControl", desc := "()Z" } : Jvm.MethodName)).before a0 Z = true := hw _ (List.mem_of_getElem? (i := 37) rfl)
theorem d5_148 : decode prog_100_method_10_code 148 = .ok (.ifCond .eq 36, 3) := by decide +kernel
theorem d5_184 : decode prog_100_method_10_code 184 = .ok (.aload_n 0, 1) := by decide +kernel
theorem d5_185 : decode prog_100_method_10_code 185 = .ok (.getfield 32, 3) := by decide +kernel
theorem d5_188 : decode prog_100_method_10_code 188 = .ok (.ifCond .ne 16, 3) := by decide +kernel
theorem d5_204 : decode prog_100_method_10_code 204 = .ok (.aload_n 0, 1) := by decide +kernel
theorem d5_205 : decode prog_100_method_10_code 205 = .ok (.getfield 32, 3) := by decide +kernel
theorem d5_208 : decode prog_100_method_10_code 208 = .ok (.ifCond .eq 16, 3) := by decide +kernel
theorem d5_211 : decode prog_100_method_10_code 211 = .ok (.aload_n 0, 1) := by decide +kernel
theorem tw40 {Z : State} {a0 : Array Value} (hw : ∀ d ∈ tables_1, d.before a0 Z = true) : (Jvm.Cond.fieldLink "com/example/dense_envelope/denseenvelope/websocket/FrameHeader" (77 : Nat) "com/example/dense_envelope/denseenvelope/websocket/FrameHeader" "open" "Z").before a0 Z = true := hw _ (List.mem_of_getElem? (i := 40) rfl)
theorem d5_212 : decode prog_100_method_10_code 212 = .ok (.getfield 77, 3) := by decide +kernel
theorem d5_215 : decode prog_100_method_10_code 215 = .ok (.ifCond .eq 9, 3) := by decide +kernel
theorem d5_224 : decode prog_100_method_10_code 224 = .ok (.return_, 1) := by decide +kernel
theorem ef_5u (m : MethodId) (x0 : Addr) : entryFrame m #[(.ref x0)] 1 = mkF m 0 #[rv x0] [] := by first | (simp [entryFrame, mkF, argsToLocals, Value.category]; done) | rfl
def Q5u (Z : State) (ob : Addr) (ba : Addr) (fB : Nat → Int32) (h0 : Heap) (n0 : Nat) (v : Option Value) (h : Heap) (L : List Loc) : Prop := v = none ∧ Fr n0 L ∧ Keep h0 h [ob, ba] ∧ Exa Z h ob own_F ∧ Fld Z h ob own_F "bytes" "[B" (.ref ba) ∧ Fld Z h ob own_F "masked" "Z" (.int (0 : Int32)) ∧ Fld Z h ob own_F "count" "I" (.int (2 : Int32)) ∧ Fld Z h ob own_F "opcode" "I" (.int (2 : Int32)) ∧ Fld Z h ob own_F "last" "Z" (.int (1 : Int32)) ∧ Fld Z h ob own_F "open" "Z" (.int (0 : Int32)) ∧ Fld Z h ob own_F "length" "J" (.long (0 : Int64)) ∧ Fld Z h ob own_F "maskAt" "I" (.int (0 : Int32)) ∧ Fld Z h ob own_F "messageOpcode" "I" (.int (0 : Int32)) ∧ Fld Z h ob own_F "messageBytes" "J" (.long (0 : Int64)) ∧ Fld Z h ob own_F "dataLength" "J" (.long (0 : Int64)) ∧ BA Z h ba 14 fB
set_option maxRecDepth 65536 in
set_option maxHeartbeats 40000000 in
theorem rm5u (l : Launch) (Z : State) (a0 : Array Value) (hw : ∀ d ∈ tables_1, d.before a0 Z = true) (ws : List Jvm.Cond) (ob : Addr) (ba : Addr) (fB : Nat → Int32) (h0 : Heap) (n0 : Nat) (Z0 : n0 ≤ h0.size) (E_ob : Exa Z h0 ob own_F) (F_bytes : Fld Z h0 ob own_F "bytes" "[B" (.ref ba)) (F_masked : Fld Z h0 ob own_F "masked" "Z" (.int (0 : Int32))) (F_count : Fld Z h0 ob own_F "count" "I" (.int (2 : Int32))) (F_opcode : Fld Z h0 ob own_F "opcode" "I" (.int (0 : Int32))) (F_last : Fld Z h0 ob own_F "last" "Z" (.int (0 : Int32))) (F_open : Fld Z h0 ob own_F "open" "Z" (.int (0 : Int32))) (F_length : Fld Z h0 ob own_F "length" "J" (.long (0 : Int64))) (F_maskAt : Fld Z h0 ob own_F "maskAt" "I" (.int (0 : Int32))) (F_messageOpcode : Fld Z h0 ob own_F "messageOpcode" "I" (.int (0 : Int32))) (F_messageBytes : Fld Z h0 ob own_F "messageBytes" "J" (.long (0 : Int64))) (F_dataLength : Fld Z h0 ob own_F "dataLength" "J" (.long (0 : Int64))) (VB : BA Z h0 ba 14 fB) (hne : ob ≠ ba) (g_ob : n0 ≤ ob) (g_ba : n0 ≤ ba) (c0 : fB 1 = fB 1) (cz : fB 0 = (-126 : Int32)) (cm : ((fB 1 &&& (128 : Int32)) = (0 : Int32))) :
    MetFree l (⟨own_F, "checkStart", "()V"⟩ : MethodName) (head1 (Jvm.Cond.code (⟨own_F, "checkStart", "()V"⟩ : MethodName) prog_100_method_10_code 1 none :: ws) ({ frames := 1, cells := 0, slots := 0, locals := 12 } : Room)) (fun a U => a = #[(.ref ob)] ∧ Z.Warmed39 U.vm ∧ U.heap = h0) (fun _ _ _ _ _ => True) (fun _ U o U' => ∃ v L, o = .returned v ∧ Q5u Z ob ba fB h0 n0 v U'.heap L ∧ FrameEnd U o U' L ({ frames := 1, cells := 0, slots := 0, locals := 12 } : Room).cells ({ frames := 1, cells := 0, slots := 0, locals := 12 } : Room).slots) := by
  refine MetFree.of_bodySF (plainFor_of_name pn_0) hisR ?_
  intro p e s m args below meth c s₁ Bd hml0 hP hK
  obtain ⟨rfl, hZ, hh⟩ := hP
  have hx := Bd.exec
  have hby := Bd.bytes
  have hml : c.maxLocals = 1 := hml0
  have hown : s.vm.findClass own_F = some m.cls := findClass_of_methodNamed Bd.named
  have hnm := (name_of_methodNamed Bd.named Bd.method).1
  have X0 : Stand p l e ({ frames := 1, cells := 0, slots := 0, locals := 12 } : Room) s m #[(.ref ob)] below meth c s₁ [] 0 0 := Stand.of_body Bd
  have e0 : s₁.heap = h0 := by rw [← hh, Bd.state]; rfl
  have N0 := Fr.nil n0
  have hlk : meth.locks = false := BodyLoose.notSynchronized Bd
  suffices hwk : Wk p.tables e below (s₁.setTop (mkF m 0 #[rv ob] [])) (fun U o => U.status = .running ∧ Ended U below o ∧ ∃ v L, o = .returned v ∧ Q5u Z ob ba fB h0 n0 v U.heap L ∧ FrameEnd s o U L 0 0) by
    obtain ⟨U, o, k1, k2⟩ := hwk
    exact ⟨U, o, castTop (ef_5u m ob) k1, k2⟩
  have K0 := Keep.refl h0 [ob, ba]
  refine Wk.go (A' := s₁.setTop (mkF m 1 #[rv ob] [(.ref ob)])) (fun t k => XS.aloadN X0.here hx rfl (hb hby d5_0) rfl rfl k) ?_
  obtain ⟨T1, X1, e1, st1⟩ := getF X0 hx hZ hown (host := "") (Or.inl (tw11 hw)) Via.refl e0 F_bytes (g := (mkF m 1 #[rv ob] [(.ref ob)])) rfl rfl (hb hby d5_1)
  refine Wk.go (A' := T1.setTop (mkF m 4 #[rv ob] [(.ref ba)])) (fun t k => st1 t k) ?_
  refine Wk.go (A' := T1.setTop (mkF m 5 #[rv ob] [(.int (0 : Int32)), (.ref ba)])) (fun t k => XS.iconst X1.here hx rfl (hb hby d5_4) k) ?_
  refine Wk.go (A' := T1.setTop (mkF m 6 #[rv ob] [(.int (fB 0))])) (fun t k => own_ldB X1 hx hZ e1 VB (j := (0 : Int32)) (by decide) (g := (mkF m 5 #[rv ob] [(.int (0 : Int32)), (.ref ba)])) rfl rfl (hb hby d5_5) t k) ?_
  refine Wk.go (A' := T1.setTop (mkF m 8 #[rv ob] [(.int (112 : Int32)), (.int (fB 0))])) (fun t k => XS.bipush X1.here hx rfl (hb hby d5_6) k) ?_
  refine Wk.go (A' := T1.setTop (mkF m 9 #[rv ob] [(.int ((fB 0) &&& (112 : Int32)))])) (fun t k => XS.iand X1.here hx rfl (hb hby d5_8) rfl k) ?_
  have hc9 : ((fB 0) &&& (112 : Int32)) = (0 : Int32) := by rw [cz]; exact own_82.1
  refine Wk.go (A' := T1.setTop (mkF m 18 #[rv ob] [])) (fun t k => XS.ifYes X1.here hx rfl (pc0 := 9) (pc' := 18) rfl (hb hby d5_9) rfl ((if0 _ _).trans (teq hc9).1) (by decide) (by decide) k) ?_
  refine Wk.go (A' := T1.setTop (mkF m 19 #[rv ob] [(.ref ob)])) (fun t k => XS.aloadN X1.here hx rfl (hb hby d5_18) rfl rfl k) ?_
  refine Wk.go (A' := T1.setTop (mkF m 20 #[rv ob] [(.ref ob), (.ref ob)])) (fun t k => XS.aloadN X1.here hx rfl (hb hby d5_19) rfl rfl k) ?_
  obtain ⟨T2, X2, e2, st2⟩ := getF X1 hx hZ hown (host := "") (Or.inl (tw11 hw)) Via.refl e1 F_bytes (g := (mkF m 20 #[rv ob] [(.ref ob), (.ref ob)])) rfl rfl (hb hby d5_20)
  refine Wk.go (A' := T2.setTop (mkF m 23 #[rv ob] [(.ref ba), (.ref ob)])) (fun t k => st2 t k) ?_
  refine Wk.go (A' := T2.setTop (mkF m 24 #[rv ob] [(.int (0 : Int32)), (.ref ba), (.ref ob)])) (fun t k => XS.iconst X2.here hx rfl (hb hby d5_23) k) ?_
  refine Wk.go (A' := T2.setTop (mkF m 25 #[rv ob] [(.int (fB 0)), (.ref ob)])) (fun t k => own_ldB X2 hx hZ e2 VB (j := (0 : Int32)) (by decide) (g := (mkF m 24 #[rv ob] [(.int (0 : Int32)), (.ref ba), (.ref ob)])) rfl rfl (hb hby d5_24) t k) ?_
  refine Wk.go (A' := T2.setTop (mkF m 27 #[rv ob] [(.int (15 : Int32)), (.int (fB 0)), (.ref ob)])) (fun t k => XS.bipush X2.here hx rfl (hb hby d5_25) k) ?_
  refine Wk.go (A' := T2.setTop (mkF m 28 #[rv ob] [(.int ((fB 0) &&& (15 : Int32))), (.ref ob)])) (fun t k => XS.iand X2.here hx rfl (hb hby d5_27) rfl k) ?_
  rw [show ((fB 0) &&& (15 : Int32)) = (2 : Int32) from (by rw [cz]; exact own_82.2.1)]
  obtain ⟨T3, h3, X3, e3, W3, st3⟩ := putF X2 hx hZ hown (host := "") (Or.inl (tw31 hw)) Via.refl e2 F_opcode E_ob (Or.inl (tw32 hw)) (tw3 hw) (ty := .int) (by decide) rfl rfl (g := (mkF m 28 #[rv ob] [(.int (2 : Int32)), (.ref ob)])) rfl rfl (hb hby d5_28)
  have f4 := E_ob.wr W3
  have f5 := VB.other W3 (Ne.symm hne)
  have f6 := F_bytes.other W3 (Or.inr (sn_20 hw))
  have f7 := F_masked.other W3 (Or.inr (sn_21 hw))
  have f8 := F_count.other W3 (Or.inr (sn_22 hw))
  have f9 := F_opcode.same W3
  have f10 := F_last.other W3 (Or.inr (sn_23 hw))
  have f11 := F_open.other W3 (Or.inr (sn_24 hw))
  have f12 := F_length.other W3 (Or.inr (sn_25 hw))
  have f13 := F_maskAt.other W3 (Or.inr (sn_26 hw))
  have f14 := F_messageOpcode.other W3 (Or.inr (sn_27 hw))
  have f15 := F_messageBytes.other W3 (Or.inr (sn_28 hw))
  have f16 := F_dataLength.other W3 (Or.inr (sn_29 hw))
  have Zp3 : n0 ≤ h3.size := Nat.le_trans Z0 (Nat.le_of_eq W3.size.symm)
  have K3 := K0.wr W3 (Or.inl (List.mem_of_getElem? (i := 0) rfl))
  have N3 := Fr.snoc X3 N0 g_ob
  refine Wk.go (A' := T3.setTop (mkF m 31 #[rv ob] [])) (fun t k => st3 t k) ?_
  refine Wk.go (A' := T3.setTop (mkF m 32 #[rv ob] [(.ref ob)])) (fun t k => XS.aloadN X3.here hx rfl (hb hby d5_31) rfl rfl k) ?_
  refine Wk.go (A' := T3.setTop (mkF m 33 #[rv ob] [(.ref ob), (.ref ob)])) (fun t k => XS.aloadN X3.here hx rfl (hb hby d5_32) rfl rfl k) ?_
  obtain ⟨T17, X17, e17, st17⟩ := getF X3 hx hZ hown (host := "") (Or.inl (tw11 hw)) Via.refl e3 f6 (g := (mkF m 33 #[rv ob] [(.ref ob), (.ref ob)])) rfl rfl (hb hby d5_33)
  refine Wk.go (A' := T17.setTop (mkF m 36 #[rv ob] [(.ref ba), (.ref ob)])) (fun t k => st17 t k) ?_
  refine Wk.go (A' := T17.setTop (mkF m 37 #[rv ob] [(.int (0 : Int32)), (.ref ba), (.ref ob)])) (fun t k => XS.iconst X17.here hx rfl (hb hby d5_36) k) ?_
  refine Wk.go (A' := T17.setTop (mkF m 38 #[rv ob] [(.int (fB 0)), (.ref ob)])) (fun t k => own_ldB X17 hx hZ e17 f5 (j := (0 : Int32)) (by decide) (g := (mkF m 37 #[rv ob] [(.int (0 : Int32)), (.ref ba), (.ref ob)])) rfl rfl (hb hby d5_37) t k) ?_
  refine Wk.go (A' := T17.setTop (mkF m 41 #[rv ob] [(.int (128 : Int32)), (.int (fB 0)), (.ref ob)])) (fun t k => XS.sipush X17.here hx rfl (hb hby d5_38) k) ?_
  refine Wk.go (A' := T17.setTop (mkF m 42 #[rv ob] [(.int ((fB 0) &&& (128 : Int32))), (.ref ob)])) (fun t k => XS.iand X17.here hx rfl (hb hby d5_41) rfl k) ?_
  have hc42 : ¬ (((fB 0) &&& (128 : Int32)) = (0 : Int32)) := by rw [cz]; exact own_82.2.2
  refine Wk.go (A' := T17.setTop (mkF m 45 #[rv ob] [(.ref ob)])) (fun t k => XS.ifNo X17.here hx rfl (hb hby d5_42) rfl ((if0 _ _).trans (feq hc42).1) k) ?_
  refine Wk.go (A' := T17.setTop (mkF m 46 #[rv ob] [(.int (1 : Int32)), (.ref ob)])) (fun t k => XS.iconst X17.here hx rfl (hb hby d5_45) k) ?_
  refine Wk.go (A' := T17.setTop (mkF m 50 #[rv ob] [(.int (1 : Int32)), (.ref ob)])) (fun t k => XS.goto X17.here hx rfl (pc0 := 46) (pc' := 50) rfl (hb hby d5_46) (by decide) (by decide) k) ?_
  obtain ⟨T18, h18, X18, e18, W18, st18⟩ := putFN X17 hx hZ hown (tw33 hw) Via.refl e17 f10 f4 (Or.inl (tw34 hw)) (tw3 hw) (ty := .boolean) (v' := (.int (1 : Int32))) (by decide) rfl (fits_nar_bool (1 : Int32)) (g := (mkF m 50 #[rv ob] [(.int (1 : Int32)), (.ref ob)])) rfl rfl (hb hby d5_50)
  have f19 := f4.wr W18
  have f20 := f5.other W18 (Ne.symm hne)
  have f21 := f6.other W18 (Or.inr (sn_30 hw))
  have f22 := f7.other W18 (Or.inr (sn_31 hw))
  have f23 := f8.other W18 (Or.inr (sn_32 hw))
  have f24 := f9.other W18 (Or.inr (sn_33 hw))
  have f25 := f10.same W18
  have f26 := f11.other W18 (Or.inr (sn_34 hw))
  have f27 := f12.other W18 (Or.inr (sn_35 hw))
  have f28 := f13.other W18 (Or.inr (sn_36 hw))
  have f29 := f14.other W18 (Or.inr (sn_37 hw))
  have f30 := f15.other W18 (Or.inr (sn_38 hw))
  have f31 := f16.other W18 (Or.inr (sn_39 hw))
  have Zp18 : n0 ≤ h18.size := Nat.le_trans Zp3 (Nat.le_of_eq W18.size.symm)
  have K18 := K3.wr W18 (Or.inl (List.mem_of_getElem? (i := 0) rfl))
  have N18 := Fr.snoc X18 N3 g_ob
  refine Wk.go (A' := T18.setTop (mkF m 53 #[rv ob] [])) (fun t k => st18 t k) ?_
  refine Wk.go (A' := T18.setTop (mkF m 54 #[rv ob] [(.ref ob)])) (fun t k => XS.aloadN X18.here hx rfl (hb hby d5_53) rfl rfl k) ?_
  obtain ⟨T32, X32, e32, st32⟩ := getF X18 hx hZ hown (host := "") (Or.inl (tw31 hw)) Via.refl e18 f24 (g := (mkF m 54 #[rv ob] [(.ref ob)])) rfl rfl (hb hby d5_54)
  refine Wk.go (A' := T32.setTop (mkF m 57 #[rv ob] [(.int (2 : Int32))])) (fun t k => st32 t k) ?_
  refine Wk.go (A' := T32.setTop (mkF m 58 #[rv ob] [(.int (2 : Int32)), (.int (2 : Int32))])) (fun t k => XS.iconst X32.here hx rfl (hb hby d5_57) k) ?_
  have hc58 : ¬ ((2 : Int32) < (2 : Int32)) := by decide
  refine Wk.go (A' := T32.setTop (mkF m 70 #[rv ob] [])) (fun t k => XS.icmpYes X32.here hx rfl (pc0 := 58) (pc' := 70) rfl (hb hby d5_58) rfl (flt hc58).2.2.2 (by decide) (by decide) k) ?_
  refine Wk.go (A' := T32.setTop (mkF m 71 #[rv ob] [(.ref ob)])) (fun t k => XS.aloadN X32.here hx rfl (hb hby d5_70) rfl rfl k) ?_
  obtain ⟨T33, X33, e33, st33⟩ := getF X32 hx hZ hown (host := "") (Or.inl (tw31 hw)) Via.refl e32 f24 (g := (mkF m 71 #[rv ob] [(.ref ob)])) rfl rfl (hb hby d5_71)
  refine Wk.go (A' := T33.setTop (mkF m 74 #[rv ob] [(.int (2 : Int32))])) (fun t k => st33 t k) ?_
  refine Wk.go (A' := T33.setTop (mkF m 76 #[rv ob] [(.int (10 : Int32)), (.int (2 : Int32))])) (fun t k => XS.bipush X33.here hx rfl (hb hby d5_74) k) ?_
  have hc76 : ¬ ((10 : Int32) < (2 : Int32)) := by decide
  refine Wk.go (A' := T33.setTop (mkF m 92 #[rv ob] [])) (fun t k => XS.icmpYes X33.here hx rfl (pc0 := 76) (pc' := 92) rfl (hb hby d5_76) rfl (flt hc76).2.2.2 (by decide) (by decide) k) ?_
  refine Wk.go (A' := T33.setTop (mkF m 93 #[rv ob] [(.ref ob)])) (fun t k => XS.aloadN X33.here hx rfl (hb hby d5_92) rfl rfl k) ?_
  obtain ⟨T34, X34, e34, st34⟩ := getF X33 hx hZ hown (host := "") (Or.inl (tw11 hw)) Via.refl e33 f21 (g := (mkF m 93 #[rv ob] [(.ref ob)])) rfl rfl (hb hby d5_93)
  refine Wk.go (A' := T34.setTop (mkF m 96 #[rv ob] [(.ref ba)])) (fun t k => st34 t k) ?_
  refine Wk.go (A' := T34.setTop (mkF m 97 #[rv ob] [(.int (1 : Int32)), (.ref ba)])) (fun t k => XS.iconst X34.here hx rfl (hb hby d5_96) k) ?_
  refine Wk.go (A' := T34.setTop (mkF m 98 #[rv ob] [(.int (fB 1))])) (fun t k => own_ldB X34 hx hZ e34 f20 (j := (1 : Int32)) (by decide) (g := (mkF m 97 #[rv ob] [(.int (1 : Int32)), (.ref ba)])) rfl rfl (hb hby d5_97) t k) ?_
  refine Wk.go (A' := T34.setTop (mkF m 101 #[rv ob] [(.int (128 : Int32)), (.int (fB 1))])) (fun t k => XS.sipush X34.here hx rfl (hb hby d5_98) k) ?_
  refine Wk.go (A' := T34.setTop (mkF m 102 #[rv ob] [(.int ((fB 1) &&& (128 : Int32)))])) (fun t k => XS.iand X34.here hx rfl (hb hby d5_101) rfl k) ?_
  have hc102 : ((fB 1) &&& (128 : Int32)) = (0 : Int32) := cm
  refine Wk.go (A' := T34.setTop (mkF m 105 #[rv ob] [])) (fun t k => XS.ifNo X34.here hx rfl (hb hby d5_102) rfl ((if0 _ _).trans (teq hc102).2) k) ?_
  refine Wk.go (A' := T34.setTop (mkF m 106 #[rv ob] [(.ref ob)])) (fun t k => XS.aloadN X34.here hx rfl (hb hby d5_105) rfl rfl k) ?_
  obtain ⟨T35, X35, e35, st35⟩ := getF X34 hx hZ hown (host := "") (Or.inl (tw13 hw)) Via.refl e34 f22 (g := (mkF m 106 #[rv ob] [(.ref ob)])) rfl rfl (hb hby d5_106)
  refine Wk.go (A' := T35.setTop (mkF m 109 #[rv ob] [(.int (0 : Int32))])) (fun t k => st35 t k) ?_
  have hc109 : (0 : Int32) = (0 : Int32) := by decide
  refine Wk.go (A' := T35.setTop (mkF m 118 #[rv ob] [])) (fun t k => XS.ifYes X35.here hx rfl (pc0 := 109) (pc' := 118) rfl (hb hby d5_109) rfl ((if0 _ _).trans (teq hc109).1) (by decide) (by decide) k) ?_
  refine Wk.go (A' := T35.setTop (mkF m 119 #[rv ob] [(.ref ob)])) (fun t k => XS.aloadN X35.here hx rfl (hb hby d5_118) rfl rfl k) ?_
  obtain ⟨T36, X36, e36, st36⟩ := getF X35 hx hZ hown (host := "") (Or.inl (tw11 hw)) Via.refl e35 f21 (g := (mkF m 119 #[rv ob] [(.ref ob)])) rfl rfl (hb hby d5_119)
  refine Wk.go (A' := T36.setTop (mkF m 122 #[rv ob] [(.ref ba)])) (fun t k => st36 t k) ?_
  refine Wk.go (A' := T36.setTop (mkF m 123 #[rv ob] [(.int (1 : Int32)), (.ref ba)])) (fun t k => XS.iconst X36.here hx rfl (hb hby d5_122) k) ?_
  refine Wk.go (A' := T36.setTop (mkF m 124 #[rv ob] [(.int (fB 1))])) (fun t k => own_ldB X36 hx hZ e36 f20 (j := (1 : Int32)) (by decide) (g := (mkF m 123 #[rv ob] [(.int (1 : Int32)), (.ref ba)])) rfl rfl (hb hby d5_123) t k) ?_
  refine Wk.go (A' := T36.setTop (mkF m 127 #[rv ob] [(.int (128 : Int32)), (.int (fB 1))])) (fun t k => XS.sipush X36.here hx rfl (hb hby d5_124) k) ?_
  refine Wk.go (A' := T36.setTop (mkF m 128 #[rv ob] [(.int ((fB 1) &&& (128 : Int32)))])) (fun t k => XS.iand X36.here hx rfl (hb hby d5_127) rfl k) ?_
  refine Wk.go (A' := T36.setTop (mkF m 144 #[rv ob] [])) (fun t k => XS.ifYes X36.here hx rfl (pc0 := 128) (pc' := 144) rfl (hb hby d5_128) rfl ((if0 _ _).trans (teq hc102).1) (by decide) (by decide) k) ?_
  refine Wk.go (A' := T36.setTop (mkF m 145 #[rv ob] [(.ref ob)])) (fun t k => XS.aloadN X36.here hx rfl (hb hby d5_144) rfl rfl k) ?_
  obtain ⟨cq37, kq37, q37a, q37b, q37c⟩ := isOf hZ e36 f19
  obtain ⟨_, _, ⟨T37, L37, k37, n37⟩, -, X37, ⟨Lc37, hQ37, l37, y37, z37⟩, st37⟩ := X36.virtualBack hx (y := (⟨own_F, "isControl", "()Z"⟩ : MethodName)) (z := (⟨own_F, "isControl", "()Z"⟩ : MethodName)) hown (mvT hZ (tw35 hw)) (mvT hZ (tw36 hw)) (notFace_of_selects (args := #[]) (mvT hZ (tw38 hw))) (mvT hZ (tw38 hw)) (mvT hZ (tw37 hw)) (by decide) (backOf (W := 0) (rm6 l Z a0 hw [] ob (2 : Int32) h18 n0 Zp18 f24) hZ (tw39 hw) (tw4 hw) (by decide) (by decide)) q37a q37c (g := (mkF m 145 #[rv ob] [(.ref ob)])) rfl (by rw [hml]; rfl) (Steps.refl _) (argsL := []) (rest := []) (lenOf pd_0 rfl) rfl (by show 2 * 0 + _ ≤ _; exact Nat.le_of_eq rfl) (hb hby d5_145) (fun _ _ => ⟨rfl, e36, (by decide : 0 + 0 ≤ _), (by decide : 0 + 0 ≤ _)⟩)
  dsimp only [Pt.U, Pt.locs, Pt.cells, Pt.slots] at X37 l37 y37 z37 st37 hQ37
  subst l37 y37 z37
  obtain ⟨rfl, N37q, hE37⟩ := hQ37
  have N37 := Fr.app N18 N37q
  refine Wk.go (A' := T37.setTop (mkF m 148 #[rv ob] [(.int (f_ctl ob (2 : Int32)))])) (fun t k => st37.trans k) ?_
  rw [show (f_ctl ob (2 : Int32)) = (0 : Int32) from own_c2 _]
  have hc148 : (0 : Int32) = (0 : Int32) := by decide
  refine Wk.go (A' := T37.setTop (mkF m 184 #[rv ob] [])) (fun t k => XS.ifYes X37.here hx rfl (pc0 := 148) (pc' := 184) rfl (hb hby d5_148) rfl ((if0 _ _).trans (teq hc148).1) (by decide) (by decide) k) ?_
  refine Wk.go (A' := T37.setTop (mkF m 185 #[rv ob] [(.ref ob)])) (fun t k => XS.aloadN X37.here hx rfl (hb hby d5_184) rfl rfl k) ?_
  obtain ⟨T38, X38, e38, st38⟩ := getF X37 hx hZ hown (host := "") (Or.inl (tw31 hw)) Via.refl (hE37) f24 (g := (mkF m 185 #[rv ob] [(.ref ob)])) rfl rfl (hb hby d5_185)
  refine Wk.go (A' := T38.setTop (mkF m 188 #[rv ob] [(.int (2 : Int32))])) (fun t k => st38 t k) ?_
  have hc188 : ¬ ((2 : Int32) = (0 : Int32)) := by decide
  refine Wk.go (A' := T38.setTop (mkF m 204 #[rv ob] [])) (fun t k => XS.ifYes X38.here hx rfl (pc0 := 188) (pc' := 204) rfl (hb hby d5_188) rfl ((if0 _ _).trans (feq hc188).2) (by decide) (by decide) k) ?_
  refine Wk.go (A' := T38.setTop (mkF m 205 #[rv ob] [(.ref ob)])) (fun t k => XS.aloadN X38.here hx rfl (hb hby d5_204) rfl rfl k) ?_
  obtain ⟨T39, X39, e39, st39⟩ := getF X38 hx hZ hown (host := "") (Or.inl (tw31 hw)) Via.refl e38 f24 (g := (mkF m 205 #[rv ob] [(.ref ob)])) rfl rfl (hb hby d5_205)
  refine Wk.go (A' := T39.setTop (mkF m 208 #[rv ob] [(.int (2 : Int32))])) (fun t k => st39 t k) ?_
  have hc208 : ¬ ((2 : Int32) = (0 : Int32)) := by decide
  refine Wk.go (A' := T39.setTop (mkF m 211 #[rv ob] [])) (fun t k => XS.ifNo X39.here hx rfl (hb hby d5_208) rfl ((if0 _ _).trans (feq hc208).1) k) ?_
  refine Wk.go (A' := T39.setTop (mkF m 212 #[rv ob] [(.ref ob)])) (fun t k => XS.aloadN X39.here hx rfl (hb hby d5_211) rfl rfl k) ?_
  obtain ⟨T40, X40, e40, st40⟩ := getF X39 hx hZ hown (host := "") (Or.inl (tw40 hw)) Via.refl e39 f26 (g := (mkF m 212 #[rv ob] [(.ref ob)])) rfl rfl (hb hby d5_212)
  refine Wk.go (A' := T40.setTop (mkF m 215 #[rv ob] [(.int (0 : Int32))])) (fun t k => st40 t k) ?_
  have hc215 : (0 : Int32) = (0 : Int32) := by decide
  refine Wk.go (A' := T40.setTop (mkF m 224 #[rv ob] [])) (fun t k => XS.ifYes X40.here hx rfl (pc0 := 215) (pc' := 224) rfl (hb hby d5_215) rfl ((if0 _ _).trans (teq hc215).1) (by decide) (by decide) k) ?_
  refine own_fin (Qv := Q5u Z ob ba fB h0 n0) (v := none) X40 hlk (fun _ => rfl) (fun fs hr => X40.returnOut hx Bd.returns (hb hby d5_224) hr) ?_ (by decide) (by decide)
  show Q5u Z ob ba fB h0 n0 _ T40.heap _
  rw [e40]
  exact ⟨rfl, N37, K18, f19, f21, f22, f23, f24, f25, f26, f27, f28, f29, f30, f31, f20⟩
theorem d5_131 : decode prog_100_method_10_code 131 = .ok (.aload_n 0, 1) := by decide +kernel
theorem d5_132 : decode prog_100_method_10_code 132 = .ok (.getfield 13, 3) := by decide +kernel
theorem d5_135 : decode prog_100_method_10_code 135 = .ok (.ifCond .ne 9, 3) := by decide +kernel
theorem ef_5m (m : MethodId) (x0 : Addr) : entryFrame m #[(.ref x0)] 1 = mkF m 0 #[rv x0] [] := by first | (simp [entryFrame, mkF, argsToLocals, Value.category]; done) | rfl
def Q5m (Z : State) (ob : Addr) (ba : Addr) (fB : Nat → Int32) (h0 : Heap) (n0 : Nat) (v : Option Value) (h : Heap) (L : List Loc) : Prop := v = none ∧ Fr n0 L ∧ Keep h0 h [ob, ba] ∧ Exa Z h ob own_F ∧ Fld Z h ob own_F "bytes" "[B" (.ref ba) ∧ Fld Z h ob own_F "masked" "Z" (.int (1 : Int32)) ∧ Fld Z h ob own_F "count" "I" (.int (2 : Int32)) ∧ Fld Z h ob own_F "opcode" "I" (.int (2 : Int32)) ∧ Fld Z h ob own_F "last" "Z" (.int (1 : Int32)) ∧ Fld Z h ob own_F "open" "Z" (.int (0 : Int32)) ∧ Fld Z h ob own_F "length" "J" (.long (0 : Int64)) ∧ Fld Z h ob own_F "maskAt" "I" (.int (0 : Int32)) ∧ Fld Z h ob own_F "messageOpcode" "I" (.int (0 : Int32)) ∧ Fld Z h ob own_F "messageBytes" "J" (.long (0 : Int64)) ∧ Fld Z h ob own_F "dataLength" "J" (.long (0 : Int64)) ∧ BA Z h ba 14 fB
set_option maxRecDepth 65536 in
set_option maxHeartbeats 40000000 in
theorem rm5m (l : Launch) (Z : State) (a0 : Array Value) (hw : ∀ d ∈ tables_1, d.before a0 Z = true) (ws : List Jvm.Cond) (ob : Addr) (ba : Addr) (fB : Nat → Int32) (h0 : Heap) (n0 : Nat) (Z0 : n0 ≤ h0.size) (E_ob : Exa Z h0 ob own_F) (F_bytes : Fld Z h0 ob own_F "bytes" "[B" (.ref ba)) (F_masked : Fld Z h0 ob own_F "masked" "Z" (.int (1 : Int32))) (F_count : Fld Z h0 ob own_F "count" "I" (.int (2 : Int32))) (F_opcode : Fld Z h0 ob own_F "opcode" "I" (.int (0 : Int32))) (F_last : Fld Z h0 ob own_F "last" "Z" (.int (0 : Int32))) (F_open : Fld Z h0 ob own_F "open" "Z" (.int (0 : Int32))) (F_length : Fld Z h0 ob own_F "length" "J" (.long (0 : Int64))) (F_maskAt : Fld Z h0 ob own_F "maskAt" "I" (.int (0 : Int32))) (F_messageOpcode : Fld Z h0 ob own_F "messageOpcode" "I" (.int (0 : Int32))) (F_messageBytes : Fld Z h0 ob own_F "messageBytes" "J" (.long (0 : Int64))) (F_dataLength : Fld Z h0 ob own_F "dataLength" "J" (.long (0 : Int64))) (VB : BA Z h0 ba 14 fB) (hne : ob ≠ ba) (g_ob : n0 ≤ ob) (g_ba : n0 ≤ ba) (c0 : fB 1 = fB 1) (cz : fB 0 = (-126 : Int32)) (cm : ¬ ((fB 1 &&& (128 : Int32)) = (0 : Int32))) :
    MetFree l (⟨own_F, "checkStart", "()V"⟩ : MethodName) (head1 (Jvm.Cond.code (⟨own_F, "checkStart", "()V"⟩ : MethodName) prog_100_method_10_code 1 none :: ws) ({ frames := 1, cells := 0, slots := 0, locals := 12 } : Room)) (fun a U => a = #[(.ref ob)] ∧ Z.Warmed39 U.vm ∧ U.heap = h0) (fun _ _ _ _ _ => True) (fun _ U o U' => ∃ v L, o = .returned v ∧ Q5m Z ob ba fB h0 n0 v U'.heap L ∧ FrameEnd U o U' L ({ frames := 1, cells := 0, slots := 0, locals := 12 } : Room).cells ({ frames := 1, cells := 0, slots := 0, locals := 12 } : Room).slots) := by
  refine MetFree.of_bodySF (plainFor_of_name pn_0) hisR ?_
  intro p e s m args below meth c s₁ Bd hml0 hP hK
  obtain ⟨rfl, hZ, hh⟩ := hP
  have hx := Bd.exec
  have hby := Bd.bytes
  have hml : c.maxLocals = 1 := hml0
  have hown : s.vm.findClass own_F = some m.cls := findClass_of_methodNamed Bd.named
  have hnm := (name_of_methodNamed Bd.named Bd.method).1
  have X0 : Stand p l e ({ frames := 1, cells := 0, slots := 0, locals := 12 } : Room) s m #[(.ref ob)] below meth c s₁ [] 0 0 := Stand.of_body Bd
  have e0 : s₁.heap = h0 := by rw [← hh, Bd.state]; rfl
  have N0 := Fr.nil n0
  have hlk : meth.locks = false := BodyLoose.notSynchronized Bd
  suffices hwk : Wk p.tables e below (s₁.setTop (mkF m 0 #[rv ob] [])) (fun U o => U.status = .running ∧ Ended U below o ∧ ∃ v L, o = .returned v ∧ Q5m Z ob ba fB h0 n0 v U.heap L ∧ FrameEnd s o U L 0 0) by
    obtain ⟨U, o, k1, k2⟩ := hwk
    exact ⟨U, o, castTop (ef_5m m ob) k1, k2⟩
  have K0 := Keep.refl h0 [ob, ba]
  refine Wk.go (A' := s₁.setTop (mkF m 1 #[rv ob] [(.ref ob)])) (fun t k => XS.aloadN X0.here hx rfl (hb hby d5_0) rfl rfl k) ?_
  obtain ⟨T1, X1, e1, st1⟩ := getF X0 hx hZ hown (host := "") (Or.inl (tw11 hw)) Via.refl e0 F_bytes (g := (mkF m 1 #[rv ob] [(.ref ob)])) rfl rfl (hb hby d5_1)
  refine Wk.go (A' := T1.setTop (mkF m 4 #[rv ob] [(.ref ba)])) (fun t k => st1 t k) ?_
  refine Wk.go (A' := T1.setTop (mkF m 5 #[rv ob] [(.int (0 : Int32)), (.ref ba)])) (fun t k => XS.iconst X1.here hx rfl (hb hby d5_4) k) ?_
  refine Wk.go (A' := T1.setTop (mkF m 6 #[rv ob] [(.int (fB 0))])) (fun t k => own_ldB X1 hx hZ e1 VB (j := (0 : Int32)) (by decide) (g := (mkF m 5 #[rv ob] [(.int (0 : Int32)), (.ref ba)])) rfl rfl (hb hby d5_5) t k) ?_
  refine Wk.go (A' := T1.setTop (mkF m 8 #[rv ob] [(.int (112 : Int32)), (.int (fB 0))])) (fun t k => XS.bipush X1.here hx rfl (hb hby d5_6) k) ?_
  refine Wk.go (A' := T1.setTop (mkF m 9 #[rv ob] [(.int ((fB 0) &&& (112 : Int32)))])) (fun t k => XS.iand X1.here hx rfl (hb hby d5_8) rfl k) ?_
  have hc9 : ((fB 0) &&& (112 : Int32)) = (0 : Int32) := by rw [cz]; exact own_82.1
  refine Wk.go (A' := T1.setTop (mkF m 18 #[rv ob] [])) (fun t k => XS.ifYes X1.here hx rfl (pc0 := 9) (pc' := 18) rfl (hb hby d5_9) rfl ((if0 _ _).trans (teq hc9).1) (by decide) (by decide) k) ?_
  refine Wk.go (A' := T1.setTop (mkF m 19 #[rv ob] [(.ref ob)])) (fun t k => XS.aloadN X1.here hx rfl (hb hby d5_18) rfl rfl k) ?_
  refine Wk.go (A' := T1.setTop (mkF m 20 #[rv ob] [(.ref ob), (.ref ob)])) (fun t k => XS.aloadN X1.here hx rfl (hb hby d5_19) rfl rfl k) ?_
  obtain ⟨T2, X2, e2, st2⟩ := getF X1 hx hZ hown (host := "") (Or.inl (tw11 hw)) Via.refl e1 F_bytes (g := (mkF m 20 #[rv ob] [(.ref ob), (.ref ob)])) rfl rfl (hb hby d5_20)
  refine Wk.go (A' := T2.setTop (mkF m 23 #[rv ob] [(.ref ba), (.ref ob)])) (fun t k => st2 t k) ?_
  refine Wk.go (A' := T2.setTop (mkF m 24 #[rv ob] [(.int (0 : Int32)), (.ref ba), (.ref ob)])) (fun t k => XS.iconst X2.here hx rfl (hb hby d5_23) k) ?_
  refine Wk.go (A' := T2.setTop (mkF m 25 #[rv ob] [(.int (fB 0)), (.ref ob)])) (fun t k => own_ldB X2 hx hZ e2 VB (j := (0 : Int32)) (by decide) (g := (mkF m 24 #[rv ob] [(.int (0 : Int32)), (.ref ba), (.ref ob)])) rfl rfl (hb hby d5_24) t k) ?_
  refine Wk.go (A' := T2.setTop (mkF m 27 #[rv ob] [(.int (15 : Int32)), (.int (fB 0)), (.ref ob)])) (fun t k => XS.bipush X2.here hx rfl (hb hby d5_25) k) ?_
  refine Wk.go (A' := T2.setTop (mkF m 28 #[rv ob] [(.int ((fB 0) &&& (15 : Int32))), (.ref ob)])) (fun t k => XS.iand X2.here hx rfl (hb hby d5_27) rfl k) ?_
  rw [show ((fB 0) &&& (15 : Int32)) = (2 : Int32) from (by rw [cz]; exact own_82.2.1)]
  obtain ⟨T3, h3, X3, e3, W3, st3⟩ := putF X2 hx hZ hown (host := "") (Or.inl (tw31 hw)) Via.refl e2 F_opcode E_ob (Or.inl (tw32 hw)) (tw3 hw) (ty := .int) (by decide) rfl rfl (g := (mkF m 28 #[rv ob] [(.int (2 : Int32)), (.ref ob)])) rfl rfl (hb hby d5_28)
  have f4 := E_ob.wr W3
  have f5 := VB.other W3 (Ne.symm hne)
  have f6 := F_bytes.other W3 (Or.inr (sn_20 hw))
  have f7 := F_masked.other W3 (Or.inr (sn_21 hw))
  have f8 := F_count.other W3 (Or.inr (sn_22 hw))
  have f9 := F_opcode.same W3
  have f10 := F_last.other W3 (Or.inr (sn_23 hw))
  have f11 := F_open.other W3 (Or.inr (sn_24 hw))
  have f12 := F_length.other W3 (Or.inr (sn_25 hw))
  have f13 := F_maskAt.other W3 (Or.inr (sn_26 hw))
  have f14 := F_messageOpcode.other W3 (Or.inr (sn_27 hw))
  have f15 := F_messageBytes.other W3 (Or.inr (sn_28 hw))
  have f16 := F_dataLength.other W3 (Or.inr (sn_29 hw))
  have Zp3 : n0 ≤ h3.size := Nat.le_trans Z0 (Nat.le_of_eq W3.size.symm)
  have K3 := K0.wr W3 (Or.inl (List.mem_of_getElem? (i := 0) rfl))
  have N3 := Fr.snoc X3 N0 g_ob
  refine Wk.go (A' := T3.setTop (mkF m 31 #[rv ob] [])) (fun t k => st3 t k) ?_
  refine Wk.go (A' := T3.setTop (mkF m 32 #[rv ob] [(.ref ob)])) (fun t k => XS.aloadN X3.here hx rfl (hb hby d5_31) rfl rfl k) ?_
  refine Wk.go (A' := T3.setTop (mkF m 33 #[rv ob] [(.ref ob), (.ref ob)])) (fun t k => XS.aloadN X3.here hx rfl (hb hby d5_32) rfl rfl k) ?_
  obtain ⟨T17, X17, e17, st17⟩ := getF X3 hx hZ hown (host := "") (Or.inl (tw11 hw)) Via.refl e3 f6 (g := (mkF m 33 #[rv ob] [(.ref ob), (.ref ob)])) rfl rfl (hb hby d5_33)
  refine Wk.go (A' := T17.setTop (mkF m 36 #[rv ob] [(.ref ba), (.ref ob)])) (fun t k => st17 t k) ?_
  refine Wk.go (A' := T17.setTop (mkF m 37 #[rv ob] [(.int (0 : Int32)), (.ref ba), (.ref ob)])) (fun t k => XS.iconst X17.here hx rfl (hb hby d5_36) k) ?_
  refine Wk.go (A' := T17.setTop (mkF m 38 #[rv ob] [(.int (fB 0)), (.ref ob)])) (fun t k => own_ldB X17 hx hZ e17 f5 (j := (0 : Int32)) (by decide) (g := (mkF m 37 #[rv ob] [(.int (0 : Int32)), (.ref ba), (.ref ob)])) rfl rfl (hb hby d5_37) t k) ?_
  refine Wk.go (A' := T17.setTop (mkF m 41 #[rv ob] [(.int (128 : Int32)), (.int (fB 0)), (.ref ob)])) (fun t k => XS.sipush X17.here hx rfl (hb hby d5_38) k) ?_
  refine Wk.go (A' := T17.setTop (mkF m 42 #[rv ob] [(.int ((fB 0) &&& (128 : Int32))), (.ref ob)])) (fun t k => XS.iand X17.here hx rfl (hb hby d5_41) rfl k) ?_
  have hc42 : ¬ (((fB 0) &&& (128 : Int32)) = (0 : Int32)) := by rw [cz]; exact own_82.2.2
  refine Wk.go (A' := T17.setTop (mkF m 45 #[rv ob] [(.ref ob)])) (fun t k => XS.ifNo X17.here hx rfl (hb hby d5_42) rfl ((if0 _ _).trans (feq hc42).1) k) ?_
  refine Wk.go (A' := T17.setTop (mkF m 46 #[rv ob] [(.int (1 : Int32)), (.ref ob)])) (fun t k => XS.iconst X17.here hx rfl (hb hby d5_45) k) ?_
  refine Wk.go (A' := T17.setTop (mkF m 50 #[rv ob] [(.int (1 : Int32)), (.ref ob)])) (fun t k => XS.goto X17.here hx rfl (pc0 := 46) (pc' := 50) rfl (hb hby d5_46) (by decide) (by decide) k) ?_
  obtain ⟨T18, h18, X18, e18, W18, st18⟩ := putFN X17 hx hZ hown (tw33 hw) Via.refl e17 f10 f4 (Or.inl (tw34 hw)) (tw3 hw) (ty := .boolean) (v' := (.int (1 : Int32))) (by decide) rfl (fits_nar_bool (1 : Int32)) (g := (mkF m 50 #[rv ob] [(.int (1 : Int32)), (.ref ob)])) rfl rfl (hb hby d5_50)
  have f19 := f4.wr W18
  have f20 := f5.other W18 (Ne.symm hne)
  have f21 := f6.other W18 (Or.inr (sn_30 hw))
  have f22 := f7.other W18 (Or.inr (sn_31 hw))
  have f23 := f8.other W18 (Or.inr (sn_32 hw))
  have f24 := f9.other W18 (Or.inr (sn_33 hw))
  have f25 := f10.same W18
  have f26 := f11.other W18 (Or.inr (sn_34 hw))
  have f27 := f12.other W18 (Or.inr (sn_35 hw))
  have f28 := f13.other W18 (Or.inr (sn_36 hw))
  have f29 := f14.other W18 (Or.inr (sn_37 hw))
  have f30 := f15.other W18 (Or.inr (sn_38 hw))
  have f31 := f16.other W18 (Or.inr (sn_39 hw))
  have Zp18 : n0 ≤ h18.size := Nat.le_trans Zp3 (Nat.le_of_eq W18.size.symm)
  have K18 := K3.wr W18 (Or.inl (List.mem_of_getElem? (i := 0) rfl))
  have N18 := Fr.snoc X18 N3 g_ob
  refine Wk.go (A' := T18.setTop (mkF m 53 #[rv ob] [])) (fun t k => st18 t k) ?_
  refine Wk.go (A' := T18.setTop (mkF m 54 #[rv ob] [(.ref ob)])) (fun t k => XS.aloadN X18.here hx rfl (hb hby d5_53) rfl rfl k) ?_
  obtain ⟨T32, X32, e32, st32⟩ := getF X18 hx hZ hown (host := "") (Or.inl (tw31 hw)) Via.refl e18 f24 (g := (mkF m 54 #[rv ob] [(.ref ob)])) rfl rfl (hb hby d5_54)
  refine Wk.go (A' := T32.setTop (mkF m 57 #[rv ob] [(.int (2 : Int32))])) (fun t k => st32 t k) ?_
  refine Wk.go (A' := T32.setTop (mkF m 58 #[rv ob] [(.int (2 : Int32)), (.int (2 : Int32))])) (fun t k => XS.iconst X32.here hx rfl (hb hby d5_57) k) ?_
  have hc58 : ¬ ((2 : Int32) < (2 : Int32)) := by decide
  refine Wk.go (A' := T32.setTop (mkF m 70 #[rv ob] [])) (fun t k => XS.icmpYes X32.here hx rfl (pc0 := 58) (pc' := 70) rfl (hb hby d5_58) rfl (flt hc58).2.2.2 (by decide) (by decide) k) ?_
  refine Wk.go (A' := T32.setTop (mkF m 71 #[rv ob] [(.ref ob)])) (fun t k => XS.aloadN X32.here hx rfl (hb hby d5_70) rfl rfl k) ?_
  obtain ⟨T33, X33, e33, st33⟩ := getF X32 hx hZ hown (host := "") (Or.inl (tw31 hw)) Via.refl e32 f24 (g := (mkF m 71 #[rv ob] [(.ref ob)])) rfl rfl (hb hby d5_71)
  refine Wk.go (A' := T33.setTop (mkF m 74 #[rv ob] [(.int (2 : Int32))])) (fun t k => st33 t k) ?_
  refine Wk.go (A' := T33.setTop (mkF m 76 #[rv ob] [(.int (10 : Int32)), (.int (2 : Int32))])) (fun t k => XS.bipush X33.here hx rfl (hb hby d5_74) k) ?_
  have hc76 : ¬ ((10 : Int32) < (2 : Int32)) := by decide
  refine Wk.go (A' := T33.setTop (mkF m 92 #[rv ob] [])) (fun t k => XS.icmpYes X33.here hx rfl (pc0 := 76) (pc' := 92) rfl (hb hby d5_76) rfl (flt hc76).2.2.2 (by decide) (by decide) k) ?_
  refine Wk.go (A' := T33.setTop (mkF m 93 #[rv ob] [(.ref ob)])) (fun t k => XS.aloadN X33.here hx rfl (hb hby d5_92) rfl rfl k) ?_
  obtain ⟨T34, X34, e34, st34⟩ := getF X33 hx hZ hown (host := "") (Or.inl (tw11 hw)) Via.refl e33 f21 (g := (mkF m 93 #[rv ob] [(.ref ob)])) rfl rfl (hb hby d5_93)
  refine Wk.go (A' := T34.setTop (mkF m 96 #[rv ob] [(.ref ba)])) (fun t k => st34 t k) ?_
  refine Wk.go (A' := T34.setTop (mkF m 97 #[rv ob] [(.int (1 : Int32)), (.ref ba)])) (fun t k => XS.iconst X34.here hx rfl (hb hby d5_96) k) ?_
  refine Wk.go (A' := T34.setTop (mkF m 98 #[rv ob] [(.int (fB 1))])) (fun t k => own_ldB X34 hx hZ e34 f20 (j := (1 : Int32)) (by decide) (g := (mkF m 97 #[rv ob] [(.int (1 : Int32)), (.ref ba)])) rfl rfl (hb hby d5_97) t k) ?_
  refine Wk.go (A' := T34.setTop (mkF m 101 #[rv ob] [(.int (128 : Int32)), (.int (fB 1))])) (fun t k => XS.sipush X34.here hx rfl (hb hby d5_98) k) ?_
  refine Wk.go (A' := T34.setTop (mkF m 102 #[rv ob] [(.int ((fB 1) &&& (128 : Int32)))])) (fun t k => XS.iand X34.here hx rfl (hb hby d5_101) rfl k) ?_
  have hc102 : ¬ (((fB 1) &&& (128 : Int32)) = (0 : Int32)) := cm
  refine Wk.go (A' := T34.setTop (mkF m 118 #[rv ob] [])) (fun t k => XS.ifYes X34.here hx rfl (pc0 := 102) (pc' := 118) rfl (hb hby d5_102) rfl ((if0 _ _).trans (feq hc102).2) (by decide) (by decide) k) ?_
  refine Wk.go (A' := T34.setTop (mkF m 119 #[rv ob] [(.ref ob)])) (fun t k => XS.aloadN X34.here hx rfl (hb hby d5_118) rfl rfl k) ?_
  obtain ⟨T35, X35, e35, st35⟩ := getF X34 hx hZ hown (host := "") (Or.inl (tw11 hw)) Via.refl e34 f21 (g := (mkF m 119 #[rv ob] [(.ref ob)])) rfl rfl (hb hby d5_119)
  refine Wk.go (A' := T35.setTop (mkF m 122 #[rv ob] [(.ref ba)])) (fun t k => st35 t k) ?_
  refine Wk.go (A' := T35.setTop (mkF m 123 #[rv ob] [(.int (1 : Int32)), (.ref ba)])) (fun t k => XS.iconst X35.here hx rfl (hb hby d5_122) k) ?_
  refine Wk.go (A' := T35.setTop (mkF m 124 #[rv ob] [(.int (fB 1))])) (fun t k => own_ldB X35 hx hZ e35 f20 (j := (1 : Int32)) (by decide) (g := (mkF m 123 #[rv ob] [(.int (1 : Int32)), (.ref ba)])) rfl rfl (hb hby d5_123) t k) ?_
  refine Wk.go (A' := T35.setTop (mkF m 127 #[rv ob] [(.int (128 : Int32)), (.int (fB 1))])) (fun t k => XS.sipush X35.here hx rfl (hb hby d5_124) k) ?_
  refine Wk.go (A' := T35.setTop (mkF m 128 #[rv ob] [(.int ((fB 1) &&& (128 : Int32)))])) (fun t k => XS.iand X35.here hx rfl (hb hby d5_127) rfl k) ?_
  refine Wk.go (A' := T35.setTop (mkF m 131 #[rv ob] [])) (fun t k => XS.ifNo X35.here hx rfl (hb hby d5_128) rfl ((if0 _ _).trans (feq hc102).1) k) ?_
  refine Wk.go (A' := T35.setTop (mkF m 132 #[rv ob] [(.ref ob)])) (fun t k => XS.aloadN X35.here hx rfl (hb hby d5_131) rfl rfl k) ?_
  obtain ⟨T36, X36, e36, st36⟩ := getF X35 hx hZ hown (host := "") (Or.inl (tw13 hw)) Via.refl e35 f22 (g := (mkF m 132 #[rv ob] [(.ref ob)])) rfl rfl (hb hby d5_132)
  refine Wk.go (A' := T36.setTop (mkF m 135 #[rv ob] [(.int (1 : Int32))])) (fun t k => st36 t k) ?_
  have hc135 : ¬ ((1 : Int32) = (0 : Int32)) := by decide
  refine Wk.go (A' := T36.setTop (mkF m 144 #[rv ob] [])) (fun t k => XS.ifYes X36.here hx rfl (pc0 := 135) (pc' := 144) rfl (hb hby d5_135) rfl ((if0 _ _).trans (feq hc135).2) (by decide) (by decide) k) ?_
  refine Wk.go (A' := T36.setTop (mkF m 145 #[rv ob] [(.ref ob)])) (fun t k => XS.aloadN X36.here hx rfl (hb hby d5_144) rfl rfl k) ?_
  obtain ⟨cq37, kq37, q37a, q37b, q37c⟩ := isOf hZ e36 f19
  obtain ⟨_, _, ⟨T37, L37, k37, n37⟩, -, X37, ⟨Lc37, hQ37, l37, y37, z37⟩, st37⟩ := X36.virtualBack hx (y := (⟨own_F, "isControl", "()Z"⟩ : MethodName)) (z := (⟨own_F, "isControl", "()Z"⟩ : MethodName)) hown (mvT hZ (tw35 hw)) (mvT hZ (tw36 hw)) (notFace_of_selects (args := #[]) (mvT hZ (tw38 hw))) (mvT hZ (tw38 hw)) (mvT hZ (tw37 hw)) (by decide) (backOf (W := 0) (rm6 l Z a0 hw [] ob (2 : Int32) h18 n0 Zp18 f24) hZ (tw39 hw) (tw4 hw) (by decide) (by decide)) q37a q37c (g := (mkF m 145 #[rv ob] [(.ref ob)])) rfl (by rw [hml]; rfl) (Steps.refl _) (argsL := []) (rest := []) (lenOf pd_0 rfl) rfl (by show 2 * 0 + _ ≤ _; exact Nat.le_of_eq rfl) (hb hby d5_145) (fun _ _ => ⟨rfl, e36, (by decide : 0 + 0 ≤ _), (by decide : 0 + 0 ≤ _)⟩)
  dsimp only [Pt.U, Pt.locs, Pt.cells, Pt.slots] at X37 l37 y37 z37 st37 hQ37
  subst l37 y37 z37
  obtain ⟨rfl, N37q, hE37⟩ := hQ37
  have N37 := Fr.app N18 N37q
  refine Wk.go (A' := T37.setTop (mkF m 148 #[rv ob] [(.int (f_ctl ob (2 : Int32)))])) (fun t k => st37.trans k) ?_
  rw [show (f_ctl ob (2 : Int32)) = (0 : Int32) from own_c2 _]
  have hc148 : (0 : Int32) = (0 : Int32) := by decide
  refine Wk.go (A' := T37.setTop (mkF m 184 #[rv ob] [])) (fun t k => XS.ifYes X37.here hx rfl (pc0 := 148) (pc' := 184) rfl (hb hby d5_148) rfl ((if0 _ _).trans (teq hc148).1) (by decide) (by decide) k) ?_
  refine Wk.go (A' := T37.setTop (mkF m 185 #[rv ob] [(.ref ob)])) (fun t k => XS.aloadN X37.here hx rfl (hb hby d5_184) rfl rfl k) ?_
  obtain ⟨T38, X38, e38, st38⟩ := getF X37 hx hZ hown (host := "") (Or.inl (tw31 hw)) Via.refl (hE37) f24 (g := (mkF m 185 #[rv ob] [(.ref ob)])) rfl rfl (hb hby d5_185)
  refine Wk.go (A' := T38.setTop (mkF m 188 #[rv ob] [(.int (2 : Int32))])) (fun t k => st38 t k) ?_
  have hc188 : ¬ ((2 : Int32) = (0 : Int32)) := by decide
  refine Wk.go (A' := T38.setTop (mkF m 204 #[rv ob] [])) (fun t k => XS.ifYes X38.here hx rfl (pc0 := 188) (pc' := 204) rfl (hb hby d5_188) rfl ((if0 _ _).trans (feq hc188).2) (by decide) (by decide) k) ?_
  refine Wk.go (A' := T38.setTop (mkF m 205 #[rv ob] [(.ref ob)])) (fun t k => XS.aloadN X38.here hx rfl (hb hby d5_204) rfl rfl k) ?_
  obtain ⟨T39, X39, e39, st39⟩ := getF X38 hx hZ hown (host := "") (Or.inl (tw31 hw)) Via.refl e38 f24 (g := (mkF m 205 #[rv ob] [(.ref ob)])) rfl rfl (hb hby d5_205)
  refine Wk.go (A' := T39.setTop (mkF m 208 #[rv ob] [(.int (2 : Int32))])) (fun t k => st39 t k) ?_
  have hc208 : ¬ ((2 : Int32) = (0 : Int32)) := by decide
  refine Wk.go (A' := T39.setTop (mkF m 211 #[rv ob] [])) (fun t k => XS.ifNo X39.here hx rfl (hb hby d5_208) rfl ((if0 _ _).trans (feq hc208).1) k) ?_
  refine Wk.go (A' := T39.setTop (mkF m 212 #[rv ob] [(.ref ob)])) (fun t k => XS.aloadN X39.here hx rfl (hb hby d5_211) rfl rfl k) ?_
  obtain ⟨T40, X40, e40, st40⟩ := getF X39 hx hZ hown (host := "") (Or.inl (tw40 hw)) Via.refl e39 f26 (g := (mkF m 212 #[rv ob] [(.ref ob)])) rfl rfl (hb hby d5_212)
  refine Wk.go (A' := T40.setTop (mkF m 215 #[rv ob] [(.int (0 : Int32))])) (fun t k => st40 t k) ?_
  have hc215 : (0 : Int32) = (0 : Int32) := by decide
  refine Wk.go (A' := T40.setTop (mkF m 224 #[rv ob] [])) (fun t k => XS.ifYes X40.here hx rfl (pc0 := 215) (pc' := 224) rfl (hb hby d5_215) rfl ((if0 _ _).trans (teq hc215).1) (by decide) (by decide) k) ?_
  refine own_fin (Qv := Q5m Z ob ba fB h0 n0) (v := none) X40 hlk (fun _ => rfl) (fun fs hr => X40.returnOut hx Bd.returns (hb hby d5_224) hr) ?_ (by decide) (by decide)
  show Q5m Z ob ba fB h0 n0 _ T40.heap _
  rw [e40]
  exact ⟨rfl, N37, K18, f19, f21, f22, f23, f24, f25, f26, f27, f28, f29, f30, f31, f20⟩
theorem own_ln2 (a : Int32) : 0 ≤ ((a &&& (127 : Int32)).toInt64).toInt := by
  have h := c_mask a 127 7 (by decide) (by decide)
  rw [c_i2l]; omega
theorem own_ln4 (a b : Int32) : 0 ≤ (((((0 : Int64) <<< ((8 : Int32) &&& 0x3f).toInt64) ||| ((a &&& (255 : Int32)).toInt64)) <<< ((8 : Int32) &&& 0x3f).toInt64) ||| ((b &&& (255 : Int32)).toInt64)).toInt := by
  have ha := c_mask a 255 8 (by decide) (by decide)
  have hb := c_mask b 255 8 (by decide) (by decide)
  have e0 : ((0 : Int64) <<< ((8 : Int32) &&& 0x3f).toInt64) = 0 := by decide +kernel
  rw [e0, Int64.zero_or]
  have h1 := c_lshl ((a &&& (255 : Int32)).toInt64) 8 8 (by decide)
  have r1 := rng64 (((a &&& (255 : Int32)).toInt64) <<< ((8 : Int32) &&& 0x3f).toInt64)
  rw [c_i2l] at h1
  have h2 := c_orL (((a &&& (255 : Int32)).toInt64) <<< ((8 : Int32) &&& 0x3f).toInt64) ((b &&& (255 : Int32)).toInt64) 8 (by decide) 256 (by decide) (by omega) (by rw [c_i2l]; omega) (by rw [c_i2l]; omega)
  have r2 := rng64 ((((a &&& (255 : Int32)).toInt64) <<< ((8 : Int32) &&& 0x3f).toInt64) ||| ((b &&& (255 : Int32)).toInt64))
  rw [c_i2l] at h2
  omega
theorem own_max {x : Int64} (y : Int64) (h : x = (9223372036854775807 : Int64)) : ¬ (x < y) := by
  rw [Int64.lt_iff_toInt_lt, h]
  have := rng64 y
  have e : (9223372036854775807 : Int64).toInt = 9223372036854775807 := by decide
  omega
theorem d7_0 : decode prog_100_method_11_code 0 = .ok (.aload_n 0, 1) := by decide +kernel
theorem d7_1 : decode prog_100_method_11_code 1 = .ok (.getfield 7, 3) := by decide +kernel
theorem d7_4 : decode prog_100_method_11_code 4 = .ok (.iconst 1, 1) := by decide +kernel
theorem d7_5 : decode prog_100_method_11_code 5 = .ok (.baload, 1) := by decide +kernel
theorem d7_6 : decode prog_100_method_11_code 6 = .ok (.bipush 127, 2) := by decide +kernel
theorem d7_8 : decode prog_100_method_11_code 8 = .ok (.iand, 1) := by decide +kernel
theorem d7_9 : decode prog_100_method_11_code 9 = .ok (.istore_n 3, 1) := by decide +kernel
theorem d7_10 : decode prog_100_method_11_code 10 = .ok (.iload_n 3, 1) := by decide +kernel
theorem d7_11 : decode prog_100_method_11_code 11 = .ok (.bipush 126, 2) := by decide +kernel
theorem d7_13 : decode prog_100_method_11_code 13 = .ok (.if_icmp .ge 8, 3) := by decide +kernel
theorem d7_16 : decode prog_100_method_11_code 16 = .ok (.iload_n 3, 1) := by decide +kernel
theorem d7_17 : decode prog_100_method_11_code 17 = .ok (.i2l, 1) := by decide +kernel
theorem d7_18 : decode prog_100_method_11_code 18 = .ok (.goto 4, 3) := by decide +kernel
theorem d7_22 : decode prog_100_method_11_code 22 = .ok (.lstore 4, 2) := by decide +kernel
theorem d7_24 : decode prog_100_method_11_code 24 = .ok (.iconst 2, 1) := by decide +kernel
theorem d7_25 : decode prog_100_method_11_code 25 = .ok (.istore 6, 2) := by decide +kernel
theorem d7_27 : decode prog_100_method_11_code 27 = .ok (.iload 6, 2) := by decide +kernel
theorem d7_29 : decode prog_100_method_11_code 29 = .ok (.aload_n 0, 1) := by decide +kernel
theorem tw23 {Z : State} {a0 : Array Value} (hw : ∀ d ∈ tables_1, d.before a0 Z = true) : (Jvm.Cond.methodLink "com/example/dense_envelope/denseenvelope/websocket/FrameHeader" (24 : Nat) ({ cls := "com/example/dense_envelope/denseenvelope/websocket/FrameHeader", name := "lengthEnd", desc := "()I" } : Jvm.MethodName)).before a0 Z = true := hw _ (List.mem_of_getElem? (i := 23) rfl)
theorem tw26 {Z : State} {a0 : Array Value} (hw : ∀ d ∈ tables_1, d.before a0 Z = true) : (Jvm.Cond.code ({ cls := "com/example/dense_envelope/denseenvelope/websocket/FrameHeader", name := "lengthEnd", desc := "()I" } : Jvm.MethodName) prog_100_method_12_code (2 : Nat) (Option.some Jvm.ClassFile.FieldType.int)).before a0 Z = true := hw _ (List.mem_of_getElem? (i := 26) rfl)
theorem pd_1 : parseMethodDescriptor "()I" = some ⟨[], some .int⟩ := by decide +kernel
theorem d7_30 : decode prog_100_method_11_code 30 = .ok (.invokevirtual 24, 3) := by decide +kernel
theorem tw24 {Z : State} {a0 : Array Value} (hw : ∀ d ∈ tables_1, d.before a0 Z = true) : (Jvm.Cond.instanceMethod ({ cls := "com/example/dense_envelope/denseenvelope/websocket/FrameHeader", name := "lengthEnd", desc := "()I" } : Jvm.MethodName)).before a0 Z = true := hw _ (List.mem_of_getElem? (i := 24) rfl)
theorem tw25 {Z : State} {a0 : Array Value} (hw : ∀ d ∈ tables_1, d.before a0 Z = true) : (Jvm.Cond.privateMethod ({ cls := "com/example/dense_envelope/denseenvelope/websocket/FrameHeader", name := "lengthEnd", desc := "()I" } : Jvm.MethodName)).before a0 Z = true := hw _ (List.mem_of_getElem? (i := 25) rfl)
theorem d7_33 : decode prog_100_method_11_code 33 = .ok (.if_icmp .ge 29, 3) := by decide +kernel
theorem d7_62 : decode prog_100_method_11_code 62 = .ok (.lload 4, 2) := by decide +kernel
theorem d7_64 : decode prog_100_method_11_code 64 = .ok (.lconst 0, 1) := by decide +kernel
theorem d7_65 : decode prog_100_method_11_code 65 = .ok (.lcmp, 1) := by decide +kernel
theorem d7_66 : decode prog_100_method_11_code 66 = .ok (.ifCond .ge 9, 3) := by decide +kernel
theorem d7_75 : decode prog_100_method_11_code 75 = .ok (.aload_n 0, 1) := by decide +kernel
theorem d7_76 : decode prog_100_method_11_code 76 = .ok (.lload 4, 2) := by decide +kernel
theorem tw46 {Z : State} {a0 : Array Value} (hw : ∀ d ∈ tables_1, d.before a0 Z = true) : (Jvm.Cond.fieldLink "com/example/dense_envelope/denseenvelope/websocket/FrameHeader" (40 : Nat) "com/example/dense_envelope/denseenvelope/websocket/FrameHeader" "length" "J").before a0 Z = true := hw _ (List.mem_of_getElem? (i := 46) rfl)
theorem d7_78 : decode prog_100_method_11_code 78 = .ok (.putfield 40, 3) := by decide +kernel
theorem sn_40 {Z : State} {a0 : Array Value} (hw : ∀ d ∈ tables_1, d.before a0 Z = true) : Jvm.RoadKit.slotOf Z own_F "bytes" "[B" ≠ Jvm.RoadKit.slotOf Z own_F "length" "J" := Jvm.RoadKit.slot_ne (Or.inr (tw12 hw)) (Or.inl (tw47 hw)) (by decide) (t := (.array .byte)) (t' := .long) (by decide) (by decide)
theorem sn_41 {Z : State} {a0 : Array Value} (hw : ∀ d ∈ tables_1, d.before a0 Z = true) : Jvm.RoadKit.slotOf Z own_F "masked" "Z" ≠ Jvm.RoadKit.slotOf Z own_F "length" "J" := Jvm.RoadKit.slot_ne (Or.inr (tw14 hw)) (Or.inl (tw47 hw)) (by decide) (t := .boolean) (t' := .long) (by decide) (by decide)
theorem sn_42 {Z : State} {a0 : Array Value} (hw : ∀ d ∈ tables_1, d.before a0 Z = true) : Jvm.RoadKit.slotOf Z own_F "count" "I" ≠ Jvm.RoadKit.slotOf Z own_F "length" "J" := Jvm.RoadKit.slot_ne (Or.inl (tw22 hw)) (Or.inl (tw47 hw)) (by decide) (t := .int) (t' := .long) (by decide) (by decide)
theorem sn_43 {Z : State} {a0 : Array Value} (hw : ∀ d ∈ tables_1, d.before a0 Z = true) : Jvm.RoadKit.slotOf Z own_F "opcode" "I" ≠ Jvm.RoadKit.slotOf Z own_F "length" "J" := Jvm.RoadKit.slot_ne (Or.inl (tw32 hw)) (Or.inl (tw47 hw)) (by decide) (t := .int) (t' := .long) (by decide) (by decide)
theorem sn_44 {Z : State} {a0 : Array Value} (hw : ∀ d ∈ tables_1, d.before a0 Z = true) : Jvm.RoadKit.slotOf Z own_F "last" "Z" ≠ Jvm.RoadKit.slotOf Z own_F "length" "J" := Jvm.RoadKit.slot_ne (Or.inl (tw34 hw)) (Or.inl (tw47 hw)) (by decide) (t := .boolean) (t' := .long) (by decide) (by decide)
theorem sn_45 {Z : State} {a0 : Array Value} (hw : ∀ d ∈ tables_1, d.before a0 Z = true) : Jvm.RoadKit.slotOf Z own_F "open" "Z" ≠ Jvm.RoadKit.slotOf Z own_F "length" "J" := Jvm.RoadKit.slot_ne (Or.inl (tw41 hw)) (Or.inl (tw47 hw)) (by decide) (t := .boolean) (t' := .long) (by decide) (by decide)
theorem sn_46 {Z : State} {a0 : Array Value} (hw : ∀ d ∈ tables_1, d.before a0 Z = true) : Jvm.RoadKit.slotOf Z own_F "maskAt" "I" ≠ Jvm.RoadKit.slotOf Z own_F "length" "J" := Jvm.RoadKit.slot_ne (Or.inl (tw49 hw)) (Or.inl (tw47 hw)) (by decide) (t := .int) (t' := .long) (by decide) (by decide)
theorem sn_47 {Z : State} {a0 : Array Value} (hw : ∀ d ∈ tables_1, d.before a0 Z = true) : Jvm.RoadKit.slotOf Z own_F "messageOpcode" "I" ≠ Jvm.RoadKit.slotOf Z own_F "length" "J" := Jvm.RoadKit.slot_ne (Or.inl (tw51 hw)) (Or.inl (tw47 hw)) (by decide) (t := .int) (t' := .long) (by decide) (by decide)
theorem sn_48 {Z : State} {a0 : Array Value} (hw : ∀ d ∈ tables_1, d.before a0 Z = true) : Jvm.RoadKit.slotOf Z own_F "messageBytes" "J" ≠ Jvm.RoadKit.slotOf Z own_F "length" "J" := Jvm.RoadKit.slot_ne (Or.inl (tw53 hw)) (Or.inl (tw47 hw)) (by decide) (t := .long) (t' := .long) (by decide) (by decide)
theorem sn_49 {Z : State} {a0 : Array Value} (hw : ∀ d ∈ tables_1, d.before a0 Z = true) : Jvm.RoadKit.slotOf Z own_F "dataLength" "J" ≠ Jvm.RoadKit.slotOf Z own_F "length" "J" := Jvm.RoadKit.slot_ne (Or.inl (tw55 hw)) (Or.inl (tw47 hw)) (by decide) (t := .long) (t' := .long) (by decide) (by decide)
theorem d7_81 : decode prog_100_method_11_code 81 = .ok (.aload_n 0, 1) := by decide +kernel
theorem d7_82 : decode prog_100_method_11_code 82 = .ok (.aload_n 0, 1) := by decide +kernel
theorem d7_83 : decode prog_100_method_11_code 83 = .ok (.invokevirtual 24, 3) := by decide +kernel
theorem tw48 {Z : State} {a0 : Array Value} (hw : ∀ d ∈ tables_1, d.before a0 Z = true) : (Jvm.Cond.fieldLink "com/example/dense_envelope/denseenvelope/websocket/FrameHeader" (50 : Nat) "com/example/dense_envelope/denseenvelope/websocket/FrameHeader" "maskAt" "I").before a0 Z = true := hw _ (List.mem_of_getElem? (i := 48) rfl)
theorem d7_86 : decode prog_100_method_11_code 86 = .ok (.putfield 50, 3) := by decide +kernel
theorem sn_50 {Z : State} {a0 : Array Value} (hw : ∀ d ∈ tables_1, d.before a0 Z = true) : Jvm.RoadKit.slotOf Z own_F "bytes" "[B" ≠ Jvm.RoadKit.slotOf Z own_F "maskAt" "I" := Jvm.RoadKit.slot_ne (Or.inr (tw12 hw)) (Or.inl (tw49 hw)) (by decide) (t := (.array .byte)) (t' := .int) (by decide) (by decide)
theorem sn_51 {Z : State} {a0 : Array Value} (hw : ∀ d ∈ tables_1, d.before a0 Z = true) : Jvm.RoadKit.slotOf Z own_F "masked" "Z" ≠ Jvm.RoadKit.slotOf Z own_F "maskAt" "I" := Jvm.RoadKit.slot_ne (Or.inr (tw14 hw)) (Or.inl (tw49 hw)) (by decide) (t := .boolean) (t' := .int) (by decide) (by decide)
theorem sn_52 {Z : State} {a0 : Array Value} (hw : ∀ d ∈ tables_1, d.before a0 Z = true) : Jvm.RoadKit.slotOf Z own_F "count" "I" ≠ Jvm.RoadKit.slotOf Z own_F "maskAt" "I" := Jvm.RoadKit.slot_ne (Or.inl (tw22 hw)) (Or.inl (tw49 hw)) (by decide) (t := .int) (t' := .int) (by decide) (by decide)
theorem sn_53 {Z : State} {a0 : Array Value} (hw : ∀ d ∈ tables_1, d.before a0 Z = true) : Jvm.RoadKit.slotOf Z own_F "opcode" "I" ≠ Jvm.RoadKit.slotOf Z own_F "maskAt" "I" := Jvm.RoadKit.slot_ne (Or.inl (tw32 hw)) (Or.inl (tw49 hw)) (by decide) (t := .int) (t' := .int) (by decide) (by decide)
theorem sn_54 {Z : State} {a0 : Array Value} (hw : ∀ d ∈ tables_1, d.before a0 Z = true) : Jvm.RoadKit.slotOf Z own_F "last" "Z" ≠ Jvm.RoadKit.slotOf Z own_F "maskAt" "I" := Jvm.RoadKit.slot_ne (Or.inl (tw34 hw)) (Or.inl (tw49 hw)) (by decide) (t := .boolean) (t' := .int) (by decide) (by decide)
theorem sn_55 {Z : State} {a0 : Array Value} (hw : ∀ d ∈ tables_1, d.before a0 Z = true) : Jvm.RoadKit.slotOf Z own_F "open" "Z" ≠ Jvm.RoadKit.slotOf Z own_F "maskAt" "I" := Jvm.RoadKit.slot_ne (Or.inl (tw41 hw)) (Or.inl (tw49 hw)) (by decide) (t := .boolean) (t' := .int) (by decide) (by decide)
theorem sn_56 {Z : State} {a0 : Array Value} (hw : ∀ d ∈ tables_1, d.before a0 Z = true) : Jvm.RoadKit.slotOf Z own_F "length" "J" ≠ Jvm.RoadKit.slotOf Z own_F "maskAt" "I" := Jvm.RoadKit.slot_ne (Or.inl (tw47 hw)) (Or.inl (tw49 hw)) (by decide) (t := .long) (t' := .int) (by decide) (by decide)
theorem sn_57 {Z : State} {a0 : Array Value} (hw : ∀ d ∈ tables_1, d.before a0 Z = true) : Jvm.RoadKit.slotOf Z own_F "messageOpcode" "I" ≠ Jvm.RoadKit.slotOf Z own_F "maskAt" "I" := Jvm.RoadKit.slot_ne (Or.inl (tw51 hw)) (Or.inl (tw49 hw)) (by decide) (t := .int) (t' := .int) (by decide) (by decide)
theorem sn_58 {Z : State} {a0 : Array Value} (hw : ∀ d ∈ tables_1, d.before a0 Z = true) : Jvm.RoadKit.slotOf Z own_F "messageBytes" "J" ≠ Jvm.RoadKit.slotOf Z own_F "maskAt" "I" := Jvm.RoadKit.slot_ne (Or.inl (tw53 hw)) (Or.inl (tw49 hw)) (by decide) (t := .long) (t' := .int) (by decide) (by decide)
theorem sn_59 {Z : State} {a0 : Array Value} (hw : ∀ d ∈ tables_1, d.before a0 Z = true) : Jvm.RoadKit.slotOf Z own_F "dataLength" "J" ≠ Jvm.RoadKit.slotOf Z own_F "maskAt" "I" := Jvm.RoadKit.slot_ne (Or.inl (tw55 hw)) (Or.inl (tw49 hw)) (by decide) (t := .long) (t' := .int) (by decide) (by decide)
theorem d7_89 : decode prog_100_method_11_code 89 = .ok (.aload_n 0, 1) := by decide +kernel
theorem d7_90 : decode prog_100_method_11_code 90 = .ok (.invokevirtual 69, 3) := by decide +kernel
theorem d7_93 : decode prog_100_method_11_code 93 = .ok (.ifCond .eq 4, 3) := by decide +kernel
theorem d7_97 : decode prog_100_method_11_code 97 = .ok (.aload_n 0, 1) := by decide +kernel
theorem d7_98 : decode prog_100_method_11_code 98 = .ok (.getfield 32, 3) := by decide +kernel
theorem d7_101 : decode prog_100_method_11_code 101 = .ok (.ifCond .ne 15, 3) := by decide +kernel
theorem d7_116 : decode prog_100_method_11_code 116 = .ok (.lconst 0, 1) := by decide +kernel
theorem d7_117 : decode prog_100_method_11_code 117 = .ok (.lstore 6, 2) := by decide +kernel
theorem d7_119 : decode prog_100_method_11_code 119 = .ok (.lload 4, 2) := by decide +kernel
theorem d7_121 : decode prog_100_method_11_code 121 = .ok (.lload_n 1, 1) := by decide +kernel
theorem d7_122 : decode prog_100_method_11_code 122 = .ok (.lcmp, 1) := by decide +kernel
theorem d7_123 : decode prog_100_method_11_code 123 = .ok (.ifCond .gt 13, 3) := by decide +kernel
theorem d7_126 : decode prog_100_method_11_code 126 = .ok (.lload 6, 2) := by decide +kernel
theorem d7_128 : decode prog_100_method_11_code 128 = .ok (.lload 4, 2) := by decide +kernel
theorem d7_130 : decode prog_100_method_11_code 130 = .ok (.ladd, 1) := by decide +kernel
theorem d7_131 : decode prog_100_method_11_code 131 = .ok (.lload_n 1, 1) := by decide +kernel
theorem d7_132 : decode prog_100_method_11_code 132 = .ok (.lcmp, 1) := by decide +kernel
theorem d7_133 : decode prog_100_method_11_code 133 = .ok (.ifCond .le 20, 3) := by decide +kernel
theorem d7_153 : decode prog_100_method_11_code 153 = .ok (.aload_n 0, 1) := by decide +kernel
theorem d7_154 : decode prog_100_method_11_code 154 = .ok (.getfield 32, 3) := by decide +kernel
theorem d7_157 : decode prog_100_method_11_code 157 = .ok (.ifCond .eq 11, 3) := by decide +kernel
theorem d7_160 : decode prog_100_method_11_code 160 = .ok (.aload_n 0, 1) := by decide +kernel
theorem d7_161 : decode prog_100_method_11_code 161 = .ok (.aload_n 0, 1) := by decide +kernel
theorem d7_162 : decode prog_100_method_11_code 162 = .ok (.getfield 32, 3) := by decide +kernel
theorem tw50 {Z : State} {a0 : Array Value} (hw : ∀ d ∈ tables_1, d.before a0 Z = true) : (Jvm.Cond.fieldLink "com/example/dense_envelope/denseenvelope/websocket/FrameHeader" (44 : Nat) "com/example/dense_envelope/denseenvelope/websocket/FrameHeader" "messageOpcode" "I").before a0 Z = true := hw _ (List.mem_of_getElem? (i := 50) rfl)
theorem d7_165 : decode prog_100_method_11_code 165 = .ok (.putfield 44, 3) := by decide +kernel
theorem sn_60 {Z : State} {a0 : Array Value} (hw : ∀ d ∈ tables_1, d.before a0 Z = true) : Jvm.RoadKit.slotOf Z own_F "bytes" "[B" ≠ Jvm.RoadKit.slotOf Z own_F "messageOpcode" "I" := Jvm.RoadKit.slot_ne (Or.inr (tw12 hw)) (Or.inl (tw51 hw)) (by decide) (t := (.array .byte)) (t' := .int) (by decide) (by decide)
theorem sn_61 {Z : State} {a0 : Array Value} (hw : ∀ d ∈ tables_1, d.before a0 Z = true) : Jvm.RoadKit.slotOf Z own_F "masked" "Z" ≠ Jvm.RoadKit.slotOf Z own_F "messageOpcode" "I" := Jvm.RoadKit.slot_ne (Or.inr (tw14 hw)) (Or.inl (tw51 hw)) (by decide) (t := .boolean) (t' := .int) (by decide) (by decide)
theorem sn_62 {Z : State} {a0 : Array Value} (hw : ∀ d ∈ tables_1, d.before a0 Z = true) : Jvm.RoadKit.slotOf Z own_F "count" "I" ≠ Jvm.RoadKit.slotOf Z own_F "messageOpcode" "I" := Jvm.RoadKit.slot_ne (Or.inl (tw22 hw)) (Or.inl (tw51 hw)) (by decide) (t := .int) (t' := .int) (by decide) (by decide)
theorem sn_63 {Z : State} {a0 : Array Value} (hw : ∀ d ∈ tables_1, d.before a0 Z = true) : Jvm.RoadKit.slotOf Z own_F "opcode" "I" ≠ Jvm.RoadKit.slotOf Z own_F "messageOpcode" "I" := Jvm.RoadKit.slot_ne (Or.inl (tw32 hw)) (Or.inl (tw51 hw)) (by decide) (t := .int) (t' := .int) (by decide) (by decide)
theorem sn_64 {Z : State} {a0 : Array Value} (hw : ∀ d ∈ tables_1, d.before a0 Z = true) : Jvm.RoadKit.slotOf Z own_F "last" "Z" ≠ Jvm.RoadKit.slotOf Z own_F "messageOpcode" "I" := Jvm.RoadKit.slot_ne (Or.inl (tw34 hw)) (Or.inl (tw51 hw)) (by decide) (t := .boolean) (t' := .int) (by decide) (by decide)
theorem sn_65 {Z : State} {a0 : Array Value} (hw : ∀ d ∈ tables_1, d.before a0 Z = true) : Jvm.RoadKit.slotOf Z own_F "open" "Z" ≠ Jvm.RoadKit.slotOf Z own_F "messageOpcode" "I" := Jvm.RoadKit.slot_ne (Or.inl (tw41 hw)) (Or.inl (tw51 hw)) (by decide) (t := .boolean) (t' := .int) (by decide) (by decide)
theorem sn_66 {Z : State} {a0 : Array Value} (hw : ∀ d ∈ tables_1, d.before a0 Z = true) : Jvm.RoadKit.slotOf Z own_F "length" "J" ≠ Jvm.RoadKit.slotOf Z own_F "messageOpcode" "I" := Jvm.RoadKit.slot_ne (Or.inl (tw47 hw)) (Or.inl (tw51 hw)) (by decide) (t := .long) (t' := .int) (by decide) (by decide)
theorem sn_67 {Z : State} {a0 : Array Value} (hw : ∀ d ∈ tables_1, d.before a0 Z = true) : Jvm.RoadKit.slotOf Z own_F "maskAt" "I" ≠ Jvm.RoadKit.slotOf Z own_F "messageOpcode" "I" := Jvm.RoadKit.slot_ne (Or.inl (tw49 hw)) (Or.inl (tw51 hw)) (by decide) (t := .int) (t' := .int) (by decide) (by decide)
theorem sn_68 {Z : State} {a0 : Array Value} (hw : ∀ d ∈ tables_1, d.before a0 Z = true) : Jvm.RoadKit.slotOf Z own_F "messageBytes" "J" ≠ Jvm.RoadKit.slotOf Z own_F "messageOpcode" "I" := Jvm.RoadKit.slot_ne (Or.inl (tw53 hw)) (Or.inl (tw51 hw)) (by decide) (t := .long) (t' := .int) (by decide) (by decide)
theorem sn_69 {Z : State} {a0 : Array Value} (hw : ∀ d ∈ tables_1, d.before a0 Z = true) : Jvm.RoadKit.slotOf Z own_F "dataLength" "J" ≠ Jvm.RoadKit.slotOf Z own_F "messageOpcode" "I" := Jvm.RoadKit.slot_ne (Or.inl (tw55 hw)) (Or.inl (tw51 hw)) (by decide) (t := .long) (t' := .int) (by decide) (by decide)
theorem d7_168 : decode prog_100_method_11_code 168 = .ok (.aload_n 0, 1) := by decide +kernel
theorem d7_169 : decode prog_100_method_11_code 169 = .ok (.lload 6, 2) := by decide +kernel
theorem tw52 {Z : State} {a0 : Array Value} (hw : ∀ d ∈ tables_1, d.before a0 Z = true) : (Jvm.Cond.fieldLink "com/example/dense_envelope/denseenvelope/websocket/FrameHeader" (47 : Nat) "com/example/dense_envelope/denseenvelope/websocket/FrameHeader" "messageBytes" "J").before a0 Z = true := hw _ (List.mem_of_getElem? (i := 52) rfl)
theorem d7_171 : decode prog_100_method_11_code 171 = .ok (.putfield 47, 3) := by decide +kernel
theorem sn_70 {Z : State} {a0 : Array Value} (hw : ∀ d ∈ tables_1, d.before a0 Z = true) : Jvm.RoadKit.slotOf Z own_F "bytes" "[B" ≠ Jvm.RoadKit.slotOf Z own_F "messageBytes" "J" := Jvm.RoadKit.slot_ne (Or.inr (tw12 hw)) (Or.inl (tw53 hw)) (by decide) (t := (.array .byte)) (t' := .long) (by decide) (by decide)
theorem sn_71 {Z : State} {a0 : Array Value} (hw : ∀ d ∈ tables_1, d.before a0 Z = true) : Jvm.RoadKit.slotOf Z own_F "masked" "Z" ≠ Jvm.RoadKit.slotOf Z own_F "messageBytes" "J" := Jvm.RoadKit.slot_ne (Or.inr (tw14 hw)) (Or.inl (tw53 hw)) (by decide) (t := .boolean) (t' := .long) (by decide) (by decide)
theorem sn_72 {Z : State} {a0 : Array Value} (hw : ∀ d ∈ tables_1, d.before a0 Z = true) : Jvm.RoadKit.slotOf Z own_F "count" "I" ≠ Jvm.RoadKit.slotOf Z own_F "messageBytes" "J" := Jvm.RoadKit.slot_ne (Or.inl (tw22 hw)) (Or.inl (tw53 hw)) (by decide) (t := .int) (t' := .long) (by decide) (by decide)
theorem sn_73 {Z : State} {a0 : Array Value} (hw : ∀ d ∈ tables_1, d.before a0 Z = true) : Jvm.RoadKit.slotOf Z own_F "opcode" "I" ≠ Jvm.RoadKit.slotOf Z own_F "messageBytes" "J" := Jvm.RoadKit.slot_ne (Or.inl (tw32 hw)) (Or.inl (tw53 hw)) (by decide) (t := .int) (t' := .long) (by decide) (by decide)
theorem sn_74 {Z : State} {a0 : Array Value} (hw : ∀ d ∈ tables_1, d.before a0 Z = true) : Jvm.RoadKit.slotOf Z own_F "last" "Z" ≠ Jvm.RoadKit.slotOf Z own_F "messageBytes" "J" := Jvm.RoadKit.slot_ne (Or.inl (tw34 hw)) (Or.inl (tw53 hw)) (by decide) (t := .boolean) (t' := .long) (by decide) (by decide)
theorem sn_75 {Z : State} {a0 : Array Value} (hw : ∀ d ∈ tables_1, d.before a0 Z = true) : Jvm.RoadKit.slotOf Z own_F "open" "Z" ≠ Jvm.RoadKit.slotOf Z own_F "messageBytes" "J" := Jvm.RoadKit.slot_ne (Or.inl (tw41 hw)) (Or.inl (tw53 hw)) (by decide) (t := .boolean) (t' := .long) (by decide) (by decide)
theorem sn_76 {Z : State} {a0 : Array Value} (hw : ∀ d ∈ tables_1, d.before a0 Z = true) : Jvm.RoadKit.slotOf Z own_F "length" "J" ≠ Jvm.RoadKit.slotOf Z own_F "messageBytes" "J" := Jvm.RoadKit.slot_ne (Or.inl (tw47 hw)) (Or.inl (tw53 hw)) (by decide) (t := .long) (t' := .long) (by decide) (by decide)
theorem sn_77 {Z : State} {a0 : Array Value} (hw : ∀ d ∈ tables_1, d.before a0 Z = true) : Jvm.RoadKit.slotOf Z own_F "maskAt" "I" ≠ Jvm.RoadKit.slotOf Z own_F "messageBytes" "J" := Jvm.RoadKit.slot_ne (Or.inl (tw49 hw)) (Or.inl (tw53 hw)) (by decide) (t := .int) (t' := .long) (by decide) (by decide)
theorem sn_78 {Z : State} {a0 : Array Value} (hw : ∀ d ∈ tables_1, d.before a0 Z = true) : Jvm.RoadKit.slotOf Z own_F "messageOpcode" "I" ≠ Jvm.RoadKit.slotOf Z own_F "messageBytes" "J" := Jvm.RoadKit.slot_ne (Or.inl (tw51 hw)) (Or.inl (tw53 hw)) (by decide) (t := .int) (t' := .long) (by decide) (by decide)
theorem sn_79 {Z : State} {a0 : Array Value} (hw : ∀ d ∈ tables_1, d.before a0 Z = true) : Jvm.RoadKit.slotOf Z own_F "dataLength" "J" ≠ Jvm.RoadKit.slotOf Z own_F "messageBytes" "J" := Jvm.RoadKit.slot_ne (Or.inl (tw55 hw)) (Or.inl (tw53 hw)) (by decide) (t := .long) (t' := .long) (by decide) (by decide)
theorem d7_174 : decode prog_100_method_11_code 174 = .ok (.aload_n 0, 1) := by decide +kernel
theorem d7_175 : decode prog_100_method_11_code 175 = .ok (.lload 4, 2) := by decide +kernel
theorem tw54 {Z : State} {a0 : Array Value} (hw : ∀ d ∈ tables_1, d.before a0 Z = true) : (Jvm.Cond.fieldLink "com/example/dense_envelope/denseenvelope/websocket/FrameHeader" (86 : Nat) "com/example/dense_envelope/denseenvelope/websocket/FrameHeader" "dataLength" "J").before a0 Z = true := hw _ (List.mem_of_getElem? (i := 54) rfl)
theorem d7_177 : decode prog_100_method_11_code 177 = .ok (.putfield 86, 3) := by decide +kernel
theorem sn_80 {Z : State} {a0 : Array Value} (hw : ∀ d ∈ tables_1, d.before a0 Z = true) : Jvm.RoadKit.slotOf Z own_F "bytes" "[B" ≠ Jvm.RoadKit.slotOf Z own_F "dataLength" "J" := Jvm.RoadKit.slot_ne (Or.inr (tw12 hw)) (Or.inl (tw55 hw)) (by decide) (t := (.array .byte)) (t' := .long) (by decide) (by decide)
theorem sn_81 {Z : State} {a0 : Array Value} (hw : ∀ d ∈ tables_1, d.before a0 Z = true) : Jvm.RoadKit.slotOf Z own_F "masked" "Z" ≠ Jvm.RoadKit.slotOf Z own_F "dataLength" "J" := Jvm.RoadKit.slot_ne (Or.inr (tw14 hw)) (Or.inl (tw55 hw)) (by decide) (t := .boolean) (t' := .long) (by decide) (by decide)
theorem sn_82 {Z : State} {a0 : Array Value} (hw : ∀ d ∈ tables_1, d.before a0 Z = true) : Jvm.RoadKit.slotOf Z own_F "count" "I" ≠ Jvm.RoadKit.slotOf Z own_F "dataLength" "J" := Jvm.RoadKit.slot_ne (Or.inl (tw22 hw)) (Or.inl (tw55 hw)) (by decide) (t := .int) (t' := .long) (by decide) (by decide)
theorem sn_83 {Z : State} {a0 : Array Value} (hw : ∀ d ∈ tables_1, d.before a0 Z = true) : Jvm.RoadKit.slotOf Z own_F "opcode" "I" ≠ Jvm.RoadKit.slotOf Z own_F "dataLength" "J" := Jvm.RoadKit.slot_ne (Or.inl (tw32 hw)) (Or.inl (tw55 hw)) (by decide) (t := .int) (t' := .long) (by decide) (by decide)
theorem sn_84 {Z : State} {a0 : Array Value} (hw : ∀ d ∈ tables_1, d.before a0 Z = true) : Jvm.RoadKit.slotOf Z own_F "last" "Z" ≠ Jvm.RoadKit.slotOf Z own_F "dataLength" "J" := Jvm.RoadKit.slot_ne (Or.inl (tw34 hw)) (Or.inl (tw55 hw)) (by decide) (t := .boolean) (t' := .long) (by decide) (by decide)
theorem sn_85 {Z : State} {a0 : Array Value} (hw : ∀ d ∈ tables_1, d.before a0 Z = true) : Jvm.RoadKit.slotOf Z own_F "open" "Z" ≠ Jvm.RoadKit.slotOf Z own_F "dataLength" "J" := Jvm.RoadKit.slot_ne (Or.inl (tw41 hw)) (Or.inl (tw55 hw)) (by decide) (t := .boolean) (t' := .long) (by decide) (by decide)
theorem sn_86 {Z : State} {a0 : Array Value} (hw : ∀ d ∈ tables_1, d.before a0 Z = true) : Jvm.RoadKit.slotOf Z own_F "length" "J" ≠ Jvm.RoadKit.slotOf Z own_F "dataLength" "J" := Jvm.RoadKit.slot_ne (Or.inl (tw47 hw)) (Or.inl (tw55 hw)) (by decide) (t := .long) (t' := .long) (by decide) (by decide)
theorem sn_87 {Z : State} {a0 : Array Value} (hw : ∀ d ∈ tables_1, d.before a0 Z = true) : Jvm.RoadKit.slotOf Z own_F "maskAt" "I" ≠ Jvm.RoadKit.slotOf Z own_F "dataLength" "J" := Jvm.RoadKit.slot_ne (Or.inl (tw49 hw)) (Or.inl (tw55 hw)) (by decide) (t := .int) (t' := .long) (by decide) (by decide)
theorem sn_88 {Z : State} {a0 : Array Value} (hw : ∀ d ∈ tables_1, d.before a0 Z = true) : Jvm.RoadKit.slotOf Z own_F "messageOpcode" "I" ≠ Jvm.RoadKit.slotOf Z own_F "dataLength" "J" := Jvm.RoadKit.slot_ne (Or.inl (tw51 hw)) (Or.inl (tw55 hw)) (by decide) (t := .int) (t' := .long) (by decide) (by decide)
theorem sn_89 {Z : State} {a0 : Array Value} (hw : ∀ d ∈ tables_1, d.before a0 Z = true) : Jvm.RoadKit.slotOf Z own_F "messageBytes" "J" ≠ Jvm.RoadKit.slotOf Z own_F "dataLength" "J" := Jvm.RoadKit.slot_ne (Or.inl (tw53 hw)) (Or.inl (tw55 hw)) (by decide) (t := .long) (t' := .long) (by decide) (by decide)
theorem d7_180 : decode prog_100_method_11_code 180 = .ok (.aload_n 0, 1) := by decide +kernel
theorem d7_181 : decode prog_100_method_11_code 181 = .ok (.aload_n 0, 1) := by decide +kernel
theorem d7_182 : decode prog_100_method_11_code 182 = .ok (.getfield 37, 3) := by decide +kernel
theorem d7_185 : decode prog_100_method_11_code 185 = .ok (.ifCond .ne 7, 3) := by decide +kernel
theorem d7_192 : decode prog_100_method_11_code 192 = .ok (.iconst 0, 1) := by decide +kernel
theorem d7_193 : decode prog_100_method_11_code 193 = .ok (.putfield 77, 3) := by decide +kernel
theorem sn_90 {Z : State} {a0 : Array Value} (hw : ∀ d ∈ tables_1, d.before a0 Z = true) : Jvm.RoadKit.slotOf Z own_F "bytes" "[B" ≠ Jvm.RoadKit.slotOf Z own_F "open" "Z" := Jvm.RoadKit.slot_ne (Or.inr (tw12 hw)) (Or.inl (tw41 hw)) (by decide) (t := (.array .byte)) (t' := .boolean) (by decide) (by decide)
theorem sn_91 {Z : State} {a0 : Array Value} (hw : ∀ d ∈ tables_1, d.before a0 Z = true) : Jvm.RoadKit.slotOf Z own_F "masked" "Z" ≠ Jvm.RoadKit.slotOf Z own_F "open" "Z" := Jvm.RoadKit.slot_ne (Or.inr (tw14 hw)) (Or.inl (tw41 hw)) (by decide) (t := .boolean) (t' := .boolean) (by decide) (by decide)
theorem sn_92 {Z : State} {a0 : Array Value} (hw : ∀ d ∈ tables_1, d.before a0 Z = true) : Jvm.RoadKit.slotOf Z own_F "count" "I" ≠ Jvm.RoadKit.slotOf Z own_F "open" "Z" := Jvm.RoadKit.slot_ne (Or.inl (tw22 hw)) (Or.inl (tw41 hw)) (by decide) (t := .int) (t' := .boolean) (by decide) (by decide)
theorem sn_93 {Z : State} {a0 : Array Value} (hw : ∀ d ∈ tables_1, d.before a0 Z = true) : Jvm.RoadKit.slotOf Z own_F "opcode" "I" ≠ Jvm.RoadKit.slotOf Z own_F "open" "Z" := Jvm.RoadKit.slot_ne (Or.inl (tw32 hw)) (Or.inl (tw41 hw)) (by decide) (t := .int) (t' := .boolean) (by decide) (by decide)
theorem sn_94 {Z : State} {a0 : Array Value} (hw : ∀ d ∈ tables_1, d.before a0 Z = true) : Jvm.RoadKit.slotOf Z own_F "last" "Z" ≠ Jvm.RoadKit.slotOf Z own_F "open" "Z" := Jvm.RoadKit.slot_ne (Or.inl (tw34 hw)) (Or.inl (tw41 hw)) (by decide) (t := .boolean) (t' := .boolean) (by decide) (by decide)
theorem sn_95 {Z : State} {a0 : Array Value} (hw : ∀ d ∈ tables_1, d.before a0 Z = true) : Jvm.RoadKit.slotOf Z own_F "length" "J" ≠ Jvm.RoadKit.slotOf Z own_F "open" "Z" := Jvm.RoadKit.slot_ne (Or.inl (tw47 hw)) (Or.inl (tw41 hw)) (by decide) (t := .long) (t' := .boolean) (by decide) (by decide)
theorem sn_96 {Z : State} {a0 : Array Value} (hw : ∀ d ∈ tables_1, d.before a0 Z = true) : Jvm.RoadKit.slotOf Z own_F "maskAt" "I" ≠ Jvm.RoadKit.slotOf Z own_F "open" "Z" := Jvm.RoadKit.slot_ne (Or.inl (tw49 hw)) (Or.inl (tw41 hw)) (by decide) (t := .int) (t' := .boolean) (by decide) (by decide)
theorem sn_97 {Z : State} {a0 : Array Value} (hw : ∀ d ∈ tables_1, d.before a0 Z = true) : Jvm.RoadKit.slotOf Z own_F "messageOpcode" "I" ≠ Jvm.RoadKit.slotOf Z own_F "open" "Z" := Jvm.RoadKit.slot_ne (Or.inl (tw51 hw)) (Or.inl (tw41 hw)) (by decide) (t := .int) (t' := .boolean) (by decide) (by decide)
theorem sn_98 {Z : State} {a0 : Array Value} (hw : ∀ d ∈ tables_1, d.before a0 Z = true) : Jvm.RoadKit.slotOf Z own_F "messageBytes" "J" ≠ Jvm.RoadKit.slotOf Z own_F "open" "Z" := Jvm.RoadKit.slot_ne (Or.inl (tw53 hw)) (Or.inl (tw41 hw)) (by decide) (t := .long) (t' := .boolean) (by decide) (by decide)
theorem sn_99 {Z : State} {a0 : Array Value} (hw : ∀ d ∈ tables_1, d.before a0 Z = true) : Jvm.RoadKit.slotOf Z own_F "dataLength" "J" ≠ Jvm.RoadKit.slotOf Z own_F "open" "Z" := Jvm.RoadKit.slot_ne (Or.inl (tw55 hw)) (Or.inl (tw41 hw)) (by decide) (t := .long) (t' := .boolean) (by decide) (by decide)
theorem d7_196 : decode prog_100_method_11_code 196 = .ok (.return_, 1) := by decide +kernel
theorem ef_7nu (m : MethodId) (x0 : Addr) (x1 : Int64) : entryFrame m #[(.ref x0), (.long x1)] 8 = mkF m 0 #[rv x0, jv x1, .second, .unset, .unset, .unset, .unset, .unset] [] := by first | (simp [entryFrame, mkF, argsToLocals, Value.category]; done) | rfl
def Q7nu (Z : State) (ob : Addr) (lim : Int64) (ba : Addr) (fB : Nat → Int32) (h0 : Heap) (n0 : Nat) (v : Option Value) (h : Heap) (L : List Loc) : Prop := ∃ lnQ : Int64, v = none ∧ Fr n0 L ∧ Keep h0 h [ob, ba] ∧ Exa Z h ob own_F ∧ Fld Z h ob own_F "bytes" "[B" (.ref ba) ∧ Fld Z h ob own_F "masked" "Z" (.int (0 : Int32)) ∧ Fld Z h ob own_F "count" "I" (.int (2 : Int32)) ∧ Fld Z h ob own_F "opcode" "I" (.int (2 : Int32)) ∧ Fld Z h ob own_F "last" "Z" (.int (1 : Int32)) ∧ Fld Z h ob own_F "open" "Z" (.int (0 : Int32)) ∧ Fld Z h ob own_F "length" "J" (.long lnQ) ∧ Fld Z h ob own_F "maskAt" "I" (.int (2 : Int32)) ∧ Fld Z h ob own_F "messageOpcode" "I" (.int (2 : Int32)) ∧ Fld Z h ob own_F "messageBytes" "J" (.long (0 : Int64)) ∧ Fld Z h ob own_F "dataLength" "J" (.long lnQ) ∧ BA Z h ba 14 fB
set_option maxRecDepth 65536 in
set_option maxHeartbeats 40000000 in
theorem rm7nu (l : Launch) (Z : State) (a0 : Array Value) (hw : ∀ d ∈ tables_1, d.before a0 Z = true) (ws : List Jvm.Cond) (ob : Addr) (lim : Int64) (ba : Addr) (fB : Nat → Int32) (h0 : Heap) (n0 : Nat) (Z0 : n0 ≤ h0.size) (E_ob : Exa Z h0 ob own_F) (F_bytes : Fld Z h0 ob own_F "bytes" "[B" (.ref ba)) (F_masked : Fld Z h0 ob own_F "masked" "Z" (.int (0 : Int32))) (F_count : Fld Z h0 ob own_F "count" "I" (.int (2 : Int32))) (F_opcode : Fld Z h0 ob own_F "opcode" "I" (.int (2 : Int32))) (F_last : Fld Z h0 ob own_F "last" "Z" (.int (1 : Int32))) (F_open : Fld Z h0 ob own_F "open" "Z" (.int (0 : Int32))) (F_length : Fld Z h0 ob own_F "length" "J" (.long (0 : Int64))) (F_maskAt : Fld Z h0 ob own_F "maskAt" "I" (.int (0 : Int32))) (F_messageOpcode : Fld Z h0 ob own_F "messageOpcode" "I" (.int (0 : Int32))) (F_messageBytes : Fld Z h0 ob own_F "messageBytes" "J" (.long (0 : Int64))) (F_dataLength : Fld Z h0 ob own_F "dataLength" "J" (.long (0 : Int64))) (VB : BA Z h0 ba 14 fB) (hne : ob ≠ ba) (g_ob : n0 ≤ ob) (g_ba : n0 ≤ ba) (hl : lim = (9223372036854775807 : Int64)) (cw : (fB 1 &&& (127 : Int32)) < (126 : Int32)) :
    MetFree l (⟨own_F, "announce", "(J)V"⟩ : MethodName) (head1 (Jvm.Cond.code (⟨own_F, "announce", "(J)V"⟩ : MethodName) prog_100_method_11_code 8 none :: ws) ({ frames := 1, cells := 0, slots := 0, locals := 14 } : Room)) (fun a U => a = #[(.ref ob), (.long lim)] ∧ Z.Warmed39 U.vm ∧ U.heap = h0) (fun _ _ _ _ _ => True) (fun _ U o U' => ∃ v L, o = .returned v ∧ Q7nu Z ob lim ba fB h0 n0 v U'.heap L ∧ FrameEnd U o U' L ({ frames := 1, cells := 0, slots := 0, locals := 14 } : Room).cells ({ frames := 1, cells := 0, slots := 0, locals := 14 } : Room).slots) := by
  refine MetFree.of_bodySF (plainFor_of_name pn_0) hisR ?_
  intro p e s m args below meth c s₁ Bd hml0 hP hK
  obtain ⟨rfl, hZ, hh⟩ := hP
  have hx := Bd.exec
  have hby := Bd.bytes
  have hml : c.maxLocals = 8 := hml0
  have hown : s.vm.findClass own_F = some m.cls := findClass_of_methodNamed Bd.named
  have hnm := (name_of_methodNamed Bd.named Bd.method).1
  have X0 : Stand p l e ({ frames := 1, cells := 0, slots := 0, locals := 14 } : Room) s m #[(.ref ob), (.long lim)] below meth c s₁ [] 0 0 := Stand.of_body Bd
  have e0 : s₁.heap = h0 := by rw [← hh, Bd.state]; rfl
  have N0 := Fr.nil n0
  have hlk : meth.locks = false := BodyLoose.notSynchronized Bd
  suffices hwk : Wk p.tables e below (s₁.setTop (mkF m 0 #[rv ob, jv lim, .second, .unset, .unset, .unset, .unset, .unset] [])) (fun U o => U.status = .running ∧ Ended U below o ∧ ∃ v L, o = .returned v ∧ Q7nu Z ob lim ba fB h0 n0 v U.heap L ∧ FrameEnd s o U L 0 0) by
    obtain ⟨U, o, k1, k2⟩ := hwk
    exact ⟨U, o, castTop (ef_7nu m ob lim) k1, k2⟩
  have K0 := Keep.refl h0 [ob, ba]
  refine Wk.go (A' := s₁.setTop (mkF m 1 #[rv ob, jv lim, .second, .unset, .unset, .unset, .unset, .unset] [(.ref ob)])) (fun t k => XS.aloadN X0.here hx rfl (hb hby d7_0) rfl rfl k) ?_
  obtain ⟨T1, X1, e1, st1⟩ := getF X0 hx hZ hown (host := "") (Or.inl (tw11 hw)) Via.refl e0 F_bytes (g := (mkF m 1 #[rv ob, jv lim, .second, .unset, .unset, .unset, .unset, .unset] [(.ref ob)])) rfl rfl (hb hby d7_1)
  refine Wk.go (A' := T1.setTop (mkF m 4 #[rv ob, jv lim, .second, .unset, .unset, .unset, .unset, .unset] [(.ref ba)])) (fun t k => st1 t k) ?_
  refine Wk.go (A' := T1.setTop (mkF m 5 #[rv ob, jv lim, .second, .unset, .unset, .unset, .unset, .unset] [(.int (1 : Int32)), (.ref ba)])) (fun t k => XS.iconst X1.here hx rfl (hb hby d7_4) k) ?_
  refine Wk.go (A' := T1.setTop (mkF m 6 #[rv ob, jv lim, .second, .unset, .unset, .unset, .unset, .unset] [(.int (fB 1))])) (fun t k => own_ldB X1 hx hZ e1 VB (j := (1 : Int32)) (by decide) (g := (mkF m 5 #[rv ob, jv lim, .second, .unset, .unset, .unset, .unset, .unset] [(.int (1 : Int32)), (.ref ba)])) rfl rfl (hb hby d7_5) t k) ?_
  refine Wk.go (A' := T1.setTop (mkF m 8 #[rv ob, jv lim, .second, .unset, .unset, .unset, .unset, .unset] [(.int (127 : Int32)), (.int (fB 1))])) (fun t k => XS.bipush X1.here hx rfl (hb hby d7_6) k) ?_
  refine Wk.go (A' := T1.setTop (mkF m 9 #[rv ob, jv lim, .second, .unset, .unset, .unset, .unset, .unset] [(.int ((fB 1) &&& (127 : Int32)))])) (fun t k => XS.iand X1.here hx rfl (hb hby d7_8) rfl k) ?_
  refine Wk.go (A' := T1.setTop (mkF m 10 #[rv ob, jv lim, .second, iv ((fB 1) &&& (127 : Int32)), .unset, .unset, .unset, .unset] [])) (fun t k => XS.istoreN X1.here hx rfl (hb hby d7_9) rfl (l' := #[rv ob, jv lim, .second, iv ((fB 1) &&& (127 : Int32)), .unset, .unset, .unset, .unset]) rfl k) ?_
  refine Wk.go (A' := T1.setTop (mkF m 11 #[rv ob, jv lim, .second, iv ((fB 1) &&& (127 : Int32)), .unset, .unset, .unset, .unset] [(.int ((fB 1) &&& (127 : Int32)))])) (fun t k => XS.iloadN X1.here hx rfl (hb hby d7_10) rfl k) ?_
  refine Wk.go (A' := T1.setTop (mkF m 13 #[rv ob, jv lim, .second, iv ((fB 1) &&& (127 : Int32)), .unset, .unset, .unset, .unset] [(.int (126 : Int32)), (.int ((fB 1) &&& (127 : Int32)))])) (fun t k => XS.bipush X1.here hx rfl (hb hby d7_11) k) ?_
  have hc13 : ((fB 1) &&& (127 : Int32)) < (126 : Int32) := cw
  refine Wk.go (A' := T1.setTop (mkF m 16 #[rv ob, jv lim, .second, iv ((fB 1) &&& (127 : Int32)), .unset, .unset, .unset, .unset] [])) (fun t k => XS.icmpNo X1.here hx rfl (hb hby d7_13) rfl (tlt hc13).2.1 k) ?_
  refine Wk.go (A' := T1.setTop (mkF m 17 #[rv ob, jv lim, .second, iv ((fB 1) &&& (127 : Int32)), .unset, .unset, .unset, .unset] [(.int ((fB 1) &&& (127 : Int32)))])) (fun t k => XS.iloadN X1.here hx rfl (hb hby d7_16) rfl k) ?_
  refine Wk.go (A' := T1.setTop (mkF m 18 #[rv ob, jv lim, .second, iv ((fB 1) &&& (127 : Int32)), .unset, .unset, .unset, .unset] [(.long (((fB 1) &&& (127 : Int32)).toInt64))])) (fun t k => XS.i2l X1.here hx rfl (hb hby d7_17) rfl k) ?_
  refine Wk.go (A' := T1.setTop (mkF m 22 #[rv ob, jv lim, .second, iv ((fB 1) &&& (127 : Int32)), .unset, .unset, .unset, .unset] [(.long (((fB 1) &&& (127 : Int32)).toInt64))])) (fun t k => XS.goto X1.here hx rfl (pc0 := 18) (pc' := 22) rfl (hb hby d7_18) (by decide) (by decide) k) ?_
  refine Wk.go (A' := T1.setTop (mkF m 24 #[rv ob, jv lim, .second, iv ((fB 1) &&& (127 : Int32)), jv (((fB 1) &&& (127 : Int32)).toInt64), .second, .unset, .unset] [])) (fun t k => XS.lstore X1.here hx rfl (hb hby d7_22) rfl (l' := #[rv ob, jv lim, .second, iv ((fB 1) &&& (127 : Int32)), jv (((fB 1) &&& (127 : Int32)).toInt64), .second, .unset, .unset]) rfl k) ?_
  refine Wk.go (A' := T1.setTop (mkF m 25 #[rv ob, jv lim, .second, iv ((fB 1) &&& (127 : Int32)), jv (((fB 1) &&& (127 : Int32)).toInt64), .second, .unset, .unset] [(.int (2 : Int32))])) (fun t k => XS.iconst X1.here hx rfl (hb hby d7_24) k) ?_
  refine Wk.go (A' := T1.setTop (mkF m 27 #[rv ob, jv lim, .second, iv ((fB 1) &&& (127 : Int32)), jv (((fB 1) &&& (127 : Int32)).toInt64), .second, iv (2 : Int32), .unset] [])) (fun t k => XS.istore X1.here hx rfl (hb hby d7_25) rfl (l' := #[rv ob, jv lim, .second, iv ((fB 1) &&& (127 : Int32)), jv (((fB 1) &&& (127 : Int32)).toInt64), .second, iv (2 : Int32), .unset]) rfl k) ?_
  refine Wk.go (A' := T1.setTop (mkF m 29 #[rv ob, jv lim, .second, iv ((fB 1) &&& (127 : Int32)), jv (((fB 1) &&& (127 : Int32)).toInt64), .second, iv (2 : Int32), .unset] [(.int (2 : Int32))])) (fun t k => XS.iload X1.here hx rfl (hb hby d7_27) rfl k) ?_
  refine Wk.go (A' := T1.setTop (mkF m 30 #[rv ob, jv lim, .second, iv ((fB 1) &&& (127 : Int32)), jv (((fB 1) &&& (127 : Int32)).toInt64), .second, iv (2 : Int32), .unset] [(.ref ob), (.int (2 : Int32))])) (fun t k => XS.aloadN X1.here hx rfl (hb hby d7_29) rfl rfl k) ?_
  obtain ⟨cq2, q2, q2'⟩ := E_ob.cell
  obtain ⟨_, _, ⟨T2, L2, k2, n2⟩, -, X2, ⟨Lc2, hQ2, l2, y2, z2⟩, st2⟩ := X1.privateBack hx (y := (⟨own_F, "lengthEnd", "()I"⟩ : MethodName)) hown (mvT hZ (tw23 hw)) (mvT hZ (tw24 hw)) (own_sel (mvT hZ (tw3 hw)) (Cond.privateMethod_at (mvP hZ (tw25 hw) (args := #[]))) (mvT hZ (tw24 hw)) (by decide)) (Cond.privateMethod_at (mvP hZ (tw25 hw) (args := #[]))) (mvT hZ (tw26 hw)) (by decide) (backOf (W := 1) (rm4 l Z a0 hw [] ob ba fB (2 : Int32) h0 n0 Z0 F_bytes F_count VB) hZ (tw26 hw) (tw4 hw) (by decide) (by decide)) (g := (mkF m 30 #[rv ob, jv lim, .second, iv ((fB 1) &&& (127 : Int32)), jv (((fB 1) &&& (127 : Int32)).toInt64), .second, iv (2 : Int32), .unset] [(.ref ob), (.int (2 : Int32))])) rfl (by rw [hml]; rfl) (Steps.refl _) (a := ob) (by rw [e1]; exact q2) q2' (argsL := []) (rest := [(.int (2 : Int32))]) (lenOf pd_1 rfl) rfl (by show 2 * 0 + _ ≤ _; exact Nat.le_of_eq rfl) (hb hby d7_30) (fun _ _ => ⟨rfl, e1, (by decide : 0 + 0 ≤ _), (by decide : 0 + 0 ≤ _)⟩)
  dsimp only [Pt.U, Pt.locs, Pt.cells, Pt.slots] at X2 l2 y2 z2 st2 hQ2
  subst l2 y2 z2
  obtain ⟨rfl, N2q, hE2⟩ := hQ2
  have N2 := Fr.app N0 N2q
  refine Wk.go (A' := T2.setTop (mkF m 33 #[rv ob, jv lim, .second, iv ((fB 1) &&& (127 : Int32)), jv (((fB 1) &&& (127 : Int32)).toInt64), .second, iv (2 : Int32), .unset] [(.int (f_lend ob ba fB (2 : Int32))), (.int (2 : Int32))])) (fun t k => st2.trans k) ?_
  rw [show (f_lend ob ba fB (2 : Int32)) = (2 : Int32) from own_l2 _ _ _ (by decide) cw]
  have hc33 : ¬ ((2 : Int32) < (2 : Int32)) := by decide
  refine Wk.go (A' := T2.setTop (mkF m 62 #[rv ob, jv lim, .second, iv ((fB 1) &&& (127 : Int32)), jv (((fB 1) &&& (127 : Int32)).toInt64), .second, iv (2 : Int32), .unset] [])) (fun t k => XS.icmpYes X2.here hx rfl (pc0 := 33) (pc' := 62) rfl (hb hby d7_33) rfl (flt hc33).2.1 (by decide) (by decide) k) ?_
  generalize hln : (((fB 1) &&& (127 : Int32)).toInt64) = ln
  have hln0 : ¬ (ln < (0 : Int64)) := by rw [← hln, Int64.lt_iff_toInt_lt]; have := own_ln2 (fB 1); have e0 : (0 : Int64).toInt = 0 := (by decide); omega
  refine Wk.go (A' := T2.setTop (mkF m 64 #[rv ob, jv lim, .second, iv ((fB 1) &&& (127 : Int32)), jv ln, .second, iv (2 : Int32), .unset] [(.long ln)])) (fun t k => XS.lload X2.here hx rfl (hb hby d7_62) rfl k) ?_
  refine Wk.go (A' := T2.setTop (mkF m 65 #[rv ob, jv lim, .second, iv ((fB 1) &&& (127 : Int32)), jv ln, .second, iv (2 : Int32), .unset] [(.long (0 : Int64)), (.long ln)])) (fun t k => XS.lconst X2.here hx rfl (hb hby d7_64) k) ?_
  refine Wk.go (A' := T2.setTop (mkF m 66 #[rv ob, jv lim, .second, iv ((fB 1) &&& (127 : Int32)), jv ln, .second, iv (2 : Int32), .unset] [(.int (lcmpW ln (0 : Int64)))])) (fun t k => XS.lcmp X2.here hx rfl (hb hby d7_65) rfl k) ?_
  have hc66 : ¬ (ln < (0 : Int64)) := hln0
  refine Wk.go (A' := T2.setTop (mkF m 75 #[rv ob, jv lim, .second, iv ((fB 1) &&& (127 : Int32)), jv ln, .second, iv (2 : Int32), .unset] [])) (fun t k => XS.ifYes X2.here hx rfl (pc0 := 66) (pc' := 75) rfl (hb hby d7_66) rfl ((if0 _ _).trans (flt (mt (lw_lt _ _).mp hc66)).2.1) (by decide) (by decide) k) ?_
  refine Wk.go (A' := T2.setTop (mkF m 76 #[rv ob, jv lim, .second, iv ((fB 1) &&& (127 : Int32)), jv ln, .second, iv (2 : Int32), .unset] [(.ref ob)])) (fun t k => XS.aloadN X2.here hx rfl (hb hby d7_75) rfl rfl k) ?_
  refine Wk.go (A' := T2.setTop (mkF m 78 #[rv ob, jv lim, .second, iv ((fB 1) &&& (127 : Int32)), jv ln, .second, iv (2 : Int32), .unset] [(.long ln), (.ref ob)])) (fun t k => XS.lload X2.here hx rfl (hb hby d7_76) rfl k) ?_
  obtain ⟨T3, h3, X3, e3, W3, st3⟩ := putF X2 hx hZ hown (host := "") (Or.inl (tw46 hw)) Via.refl (hE2) F_length E_ob (Or.inl (tw47 hw)) (tw3 hw) (ty := .long) (by decide) rfl rfl (g := (mkF m 78 #[rv ob, jv lim, .second, iv ((fB 1) &&& (127 : Int32)), jv ln, .second, iv (2 : Int32), .unset] [(.long ln), (.ref ob)])) rfl rfl (hb hby d7_78)
  have f4 := E_ob.wr W3
  have f5 := VB.other W3 (Ne.symm hne)
  have f6 := F_bytes.other W3 (Or.inr (sn_40 hw))
  have f7 := F_masked.other W3 (Or.inr (sn_41 hw))
  have f8 := F_count.other W3 (Or.inr (sn_42 hw))
  have f9 := F_opcode.other W3 (Or.inr (sn_43 hw))
  have f10 := F_last.other W3 (Or.inr (sn_44 hw))
  have f11 := F_open.other W3 (Or.inr (sn_45 hw))
  have f12 := F_length.same W3
  have f13 := F_maskAt.other W3 (Or.inr (sn_46 hw))
  have f14 := F_messageOpcode.other W3 (Or.inr (sn_47 hw))
  have f15 := F_messageBytes.other W3 (Or.inr (sn_48 hw))
  have f16 := F_dataLength.other W3 (Or.inr (sn_49 hw))
  have Zp3 : n0 ≤ h3.size := Nat.le_trans Z0 (Nat.le_of_eq W3.size.symm)
  have K3 := K0.wr W3 (Or.inl (List.mem_of_getElem? (i := 0) rfl))
  have N3 := Fr.snoc X3 N2 g_ob
  refine Wk.go (A' := T3.setTop (mkF m 81 #[rv ob, jv lim, .second, iv ((fB 1) &&& (127 : Int32)), jv ln, .second, iv (2 : Int32), .unset] [])) (fun t k => st3 t k) ?_
  refine Wk.go (A' := T3.setTop (mkF m 82 #[rv ob, jv lim, .second, iv ((fB 1) &&& (127 : Int32)), jv ln, .second, iv (2 : Int32), .unset] [(.ref ob)])) (fun t k => XS.aloadN X3.here hx rfl (hb hby d7_81) rfl rfl k) ?_
  refine Wk.go (A' := T3.setTop (mkF m 83 #[rv ob, jv lim, .second, iv ((fB 1) &&& (127 : Int32)), jv ln, .second, iv (2 : Int32), .unset] [(.ref ob), (.ref ob)])) (fun t k => XS.aloadN X3.here hx rfl (hb hby d7_82) rfl rfl k) ?_
  obtain ⟨cq17, q17, q17'⟩ := f4.cell
  obtain ⟨_, _, ⟨T17, L17, k17, n17⟩, -, X17, ⟨Lc17, hQ17, l17, y17, z17⟩, st17⟩ := X3.privateBack hx (y := (⟨own_F, "lengthEnd", "()I"⟩ : MethodName)) hown (mvT hZ (tw23 hw)) (mvT hZ (tw24 hw)) (own_sel (mvT hZ (tw3 hw)) (Cond.privateMethod_at (mvP hZ (tw25 hw) (args := #[]))) (mvT hZ (tw24 hw)) (by decide)) (Cond.privateMethod_at (mvP hZ (tw25 hw) (args := #[]))) (mvT hZ (tw26 hw)) (by decide) (backOf (W := 1) (rm4 l Z a0 hw [] ob ba fB (2 : Int32) h3 n0 Zp3 f6 f8 f5) hZ (tw26 hw) (tw4 hw) (by decide) (by decide)) (g := (mkF m 83 #[rv ob, jv lim, .second, iv ((fB 1) &&& (127 : Int32)), jv ln, .second, iv (2 : Int32), .unset] [(.ref ob), (.ref ob)])) rfl (by rw [hml]; rfl) (Steps.refl _) (a := ob) (by rw [e3]; exact q17) q17' (argsL := []) (rest := [(.ref ob)]) (lenOf pd_1 rfl) rfl (by show 2 * 0 + _ ≤ _; exact Nat.le_of_eq rfl) (hb hby d7_83) (fun _ _ => ⟨rfl, e3, (by decide : 0 + 0 ≤ _), (by decide : 0 + 0 ≤ _)⟩)
  dsimp only [Pt.U, Pt.locs, Pt.cells, Pt.slots] at X17 l17 y17 z17 st17 hQ17
  subst l17 y17 z17
  obtain ⟨rfl, N17q, hE17⟩ := hQ17
  have N17 := Fr.app N3 N17q
  refine Wk.go (A' := T17.setTop (mkF m 86 #[rv ob, jv lim, .second, iv ((fB 1) &&& (127 : Int32)), jv ln, .second, iv (2 : Int32), .unset] [(.int (f_lend ob ba fB (2 : Int32))), (.ref ob)])) (fun t k => st17.trans k) ?_
  rw [show (f_lend ob ba fB (2 : Int32)) = (2 : Int32) from own_l2 _ _ _ (by decide) cw]
  obtain ⟨T18, h18, X18, e18, W18, st18⟩ := putF X17 hx hZ hown (host := "") (Or.inl (tw48 hw)) Via.refl (hE17) f13 f4 (Or.inl (tw49 hw)) (tw3 hw) (ty := .int) (by decide) rfl rfl (g := (mkF m 86 #[rv ob, jv lim, .second, iv ((fB 1) &&& (127 : Int32)), jv ln, .second, iv (2 : Int32), .unset] [(.int (2 : Int32)), (.ref ob)])) rfl rfl (hb hby d7_86)
  have f19 := f4.wr W18
  have f20 := f5.other W18 (Ne.symm hne)
  have f21 := f6.other W18 (Or.inr (sn_50 hw))
  have f22 := f7.other W18 (Or.inr (sn_51 hw))
  have f23 := f8.other W18 (Or.inr (sn_52 hw))
  have f24 := f9.other W18 (Or.inr (sn_53 hw))
  have f25 := f10.other W18 (Or.inr (sn_54 hw))
  have f26 := f11.other W18 (Or.inr (sn_55 hw))
  have f27 := f12.other W18 (Or.inr (sn_56 hw))
  have f28 := f13.same W18
  have f29 := f14.other W18 (Or.inr (sn_57 hw))
  have f30 := f15.other W18 (Or.inr (sn_58 hw))
  have f31 := f16.other W18 (Or.inr (sn_59 hw))
  have Zp18 : n0 ≤ h18.size := Nat.le_trans Zp3 (Nat.le_of_eq W18.size.symm)
  have K18 := K3.wr W18 (Or.inl (List.mem_of_getElem? (i := 0) rfl))
  have N18 := Fr.snoc X18 N17 g_ob
  refine Wk.go (A' := T18.setTop (mkF m 89 #[rv ob, jv lim, .second, iv ((fB 1) &&& (127 : Int32)), jv ln, .second, iv (2 : Int32), .unset] [])) (fun t k => st18 t k) ?_
  refine Wk.go (A' := T18.setTop (mkF m 90 #[rv ob, jv lim, .second, iv ((fB 1) &&& (127 : Int32)), jv ln, .second, iv (2 : Int32), .unset] [(.ref ob)])) (fun t k => XS.aloadN X18.here hx rfl (hb hby d7_89) rfl rfl k) ?_
  obtain ⟨cq32, kq32, q32a, q32b, q32c⟩ := isOf hZ e18 f19
  obtain ⟨_, _, ⟨T32, L32, k32, n32⟩, -, X32, ⟨Lc32, hQ32, l32, y32, z32⟩, st32⟩ := X18.virtualBack hx (y := (⟨own_F, "isControl", "()Z"⟩ : MethodName)) (z := (⟨own_F, "isControl", "()Z"⟩ : MethodName)) hown (mvT hZ (tw35 hw)) (mvT hZ (tw36 hw)) (notFace_of_selects (args := #[]) (mvT hZ (tw38 hw))) (mvT hZ (tw38 hw)) (mvT hZ (tw37 hw)) (by decide) (backOf (W := 0) (rm6 l Z a0 hw [] ob (2 : Int32) h18 n0 Zp18 f24) hZ (tw39 hw) (tw4 hw) (by decide) (by decide)) q32a q32c (g := (mkF m 90 #[rv ob, jv lim, .second, iv ((fB 1) &&& (127 : Int32)), jv ln, .second, iv (2 : Int32), .unset] [(.ref ob)])) rfl (by rw [hml]; rfl) (Steps.refl _) (argsL := []) (rest := []) (lenOf pd_0 rfl) rfl (by show 2 * 0 + _ ≤ _; exact Nat.le_of_eq rfl) (hb hby d7_90) (fun _ _ => ⟨rfl, e18, (by decide : 0 + 0 ≤ _), (by decide : 0 + 0 ≤ _)⟩)
  dsimp only [Pt.U, Pt.locs, Pt.cells, Pt.slots] at X32 l32 y32 z32 st32 hQ32
  subst l32 y32 z32
  obtain ⟨rfl, N32q, hE32⟩ := hQ32
  have N32 := Fr.app N18 N32q
  refine Wk.go (A' := T32.setTop (mkF m 93 #[rv ob, jv lim, .second, iv ((fB 1) &&& (127 : Int32)), jv ln, .second, iv (2 : Int32), .unset] [(.int (f_ctl ob (2 : Int32)))])) (fun t k => st32.trans k) ?_
  rw [show (f_ctl ob (2 : Int32)) = (0 : Int32) from own_c2 _]
  have hc93 : (0 : Int32) = (0 : Int32) := by decide
  refine Wk.go (A' := T32.setTop (mkF m 97 #[rv ob, jv lim, .second, iv ((fB 1) &&& (127 : Int32)), jv ln, .second, iv (2 : Int32), .unset] [])) (fun t k => XS.ifYes X32.here hx rfl (pc0 := 93) (pc' := 97) rfl (hb hby d7_93) rfl ((if0 _ _).trans (teq hc93).1) (by decide) (by decide) k) ?_
  refine Wk.go (A' := T32.setTop (mkF m 98 #[rv ob, jv lim, .second, iv ((fB 1) &&& (127 : Int32)), jv ln, .second, iv (2 : Int32), .unset] [(.ref ob)])) (fun t k => XS.aloadN X32.here hx rfl (hb hby d7_97) rfl rfl k) ?_
  obtain ⟨T33, X33, e33, st33⟩ := getF X32 hx hZ hown (host := "") (Or.inl (tw31 hw)) Via.refl (hE32) f24 (g := (mkF m 98 #[rv ob, jv lim, .second, iv ((fB 1) &&& (127 : Int32)), jv ln, .second, iv (2 : Int32), .unset] [(.ref ob)])) rfl rfl (hb hby d7_98)
  refine Wk.go (A' := T33.setTop (mkF m 101 #[rv ob, jv lim, .second, iv ((fB 1) &&& (127 : Int32)), jv ln, .second, iv (2 : Int32), .unset] [(.int (2 : Int32))])) (fun t k => st33 t k) ?_
  have hc101 : ¬ ((2 : Int32) = (0 : Int32)) := by decide
  refine Wk.go (A' := T33.setTop (mkF m 116 #[rv ob, jv lim, .second, iv ((fB 1) &&& (127 : Int32)), jv ln, .second, iv (2 : Int32), .unset] [])) (fun t k => XS.ifYes X33.here hx rfl (pc0 := 101) (pc' := 116) rfl (hb hby d7_101) rfl ((if0 _ _).trans (feq hc101).2) (by decide) (by decide) k) ?_
  refine Wk.go (A' := T33.setTop (mkF m 117 #[rv ob, jv lim, .second, iv ((fB 1) &&& (127 : Int32)), jv ln, .second, iv (2 : Int32), .unset] [(.long (0 : Int64))])) (fun t k => XS.lconst X33.here hx rfl (hb hby d7_116) k) ?_
  refine Wk.go (A' := T33.setTop (mkF m 119 #[rv ob, jv lim, .second, iv ((fB 1) &&& (127 : Int32)), jv ln, .second, jv (0 : Int64), .second] [])) (fun t k => XS.lstore X33.here hx rfl (hb hby d7_117) rfl (l' := #[rv ob, jv lim, .second, iv ((fB 1) &&& (127 : Int32)), jv ln, .second, jv (0 : Int64), .second]) rfl k) ?_
  refine Wk.go (A' := T33.setTop (mkF m 121 #[rv ob, jv lim, .second, iv ((fB 1) &&& (127 : Int32)), jv ln, .second, jv (0 : Int64), .second] [(.long ln)])) (fun t k => XS.lload X33.here hx rfl (hb hby d7_119) rfl k) ?_
  refine Wk.go (A' := T33.setTop (mkF m 122 #[rv ob, jv lim, .second, iv ((fB 1) &&& (127 : Int32)), jv ln, .second, jv (0 : Int64), .second] [(.long lim), (.long ln)])) (fun t k => XS.lloadN X33.here hx rfl (hb hby d7_121) rfl k) ?_
  refine Wk.go (A' := T33.setTop (mkF m 123 #[rv ob, jv lim, .second, iv ((fB 1) &&& (127 : Int32)), jv ln, .second, jv (0 : Int64), .second] [(.int (lcmpW ln lim))])) (fun t k => XS.lcmp X33.here hx rfl (hb hby d7_122) rfl k) ?_
  have hc123 : ¬ (lim < ln) := own_max _ hl
  refine Wk.go (A' := T33.setTop (mkF m 126 #[rv ob, jv lim, .second, iv ((fB 1) &&& (127 : Int32)), jv ln, .second, jv (0 : Int64), .second] [])) (fun t k => XS.ifNo X33.here hx rfl (hb hby d7_123) rfl ((if0 _ _).trans (flt (mt (lw_gt _ _).mp hc123)).2.2.1) k) ?_
  refine Wk.go (A' := T33.setTop (mkF m 128 #[rv ob, jv lim, .second, iv ((fB 1) &&& (127 : Int32)), jv ln, .second, jv (0 : Int64), .second] [(.long (0 : Int64))])) (fun t k => XS.lload X33.here hx rfl (hb hby d7_126) rfl k) ?_
  refine Wk.go (A' := T33.setTop (mkF m 130 #[rv ob, jv lim, .second, iv ((fB 1) &&& (127 : Int32)), jv ln, .second, jv (0 : Int64), .second] [(.long ln), (.long (0 : Int64))])) (fun t k => XS.lload X33.here hx rfl (hb hby d7_128) rfl k) ?_
  refine Wk.go (A' := T33.setTop (mkF m 131 #[rv ob, jv lim, .second, iv ((fB 1) &&& (127 : Int32)), jv ln, .second, jv (0 : Int64), .second] [(.long ((0 : Int64) + ln))])) (fun t k => XS.ladd X33.here hx rfl (hb hby d7_130) rfl k) ?_
  refine Wk.go (A' := T33.setTop (mkF m 132 #[rv ob, jv lim, .second, iv ((fB 1) &&& (127 : Int32)), jv ln, .second, jv (0 : Int64), .second] [(.long lim), (.long ((0 : Int64) + ln))])) (fun t k => XS.lloadN X33.here hx rfl (hb hby d7_131) rfl k) ?_
  refine Wk.go (A' := T33.setTop (mkF m 133 #[rv ob, jv lim, .second, iv ((fB 1) &&& (127 : Int32)), jv ln, .second, jv (0 : Int64), .second] [(.int (lcmpW ((0 : Int64) + ln) lim))])) (fun t k => XS.lcmp X33.here hx rfl (hb hby d7_132) rfl k) ?_
  have hc133 : ¬ (lim < ((0 : Int64) + ln)) := own_max _ hl
  refine Wk.go (A' := T33.setTop (mkF m 153 #[rv ob, jv lim, .second, iv ((fB 1) &&& (127 : Int32)), jv ln, .second, jv (0 : Int64), .second] [])) (fun t k => XS.ifYes X33.here hx rfl (pc0 := 133) (pc' := 153) rfl (hb hby d7_133) rfl ((if0 _ _).trans (flt (mt (lw_gt _ _).mp hc133)).2.2.2) (by decide) (by decide) k) ?_
  refine Wk.go (A' := T33.setTop (mkF m 154 #[rv ob, jv lim, .second, iv ((fB 1) &&& (127 : Int32)), jv ln, .second, jv (0 : Int64), .second] [(.ref ob)])) (fun t k => XS.aloadN X33.here hx rfl (hb hby d7_153) rfl rfl k) ?_
  obtain ⟨T34, X34, e34, st34⟩ := getF X33 hx hZ hown (host := "") (Or.inl (tw31 hw)) Via.refl e33 f24 (g := (mkF m 154 #[rv ob, jv lim, .second, iv ((fB 1) &&& (127 : Int32)), jv ln, .second, jv (0 : Int64), .second] [(.ref ob)])) rfl rfl (hb hby d7_154)
  refine Wk.go (A' := T34.setTop (mkF m 157 #[rv ob, jv lim, .second, iv ((fB 1) &&& (127 : Int32)), jv ln, .second, jv (0 : Int64), .second] [(.int (2 : Int32))])) (fun t k => st34 t k) ?_
  have hc157 : ¬ ((2 : Int32) = (0 : Int32)) := by decide
  refine Wk.go (A' := T34.setTop (mkF m 160 #[rv ob, jv lim, .second, iv ((fB 1) &&& (127 : Int32)), jv ln, .second, jv (0 : Int64), .second] [])) (fun t k => XS.ifNo X34.here hx rfl (hb hby d7_157) rfl ((if0 _ _).trans (feq hc157).1) k) ?_
  refine Wk.go (A' := T34.setTop (mkF m 161 #[rv ob, jv lim, .second, iv ((fB 1) &&& (127 : Int32)), jv ln, .second, jv (0 : Int64), .second] [(.ref ob)])) (fun t k => XS.aloadN X34.here hx rfl (hb hby d7_160) rfl rfl k) ?_
  refine Wk.go (A' := T34.setTop (mkF m 162 #[rv ob, jv lim, .second, iv ((fB 1) &&& (127 : Int32)), jv ln, .second, jv (0 : Int64), .second] [(.ref ob), (.ref ob)])) (fun t k => XS.aloadN X34.here hx rfl (hb hby d7_161) rfl rfl k) ?_
  obtain ⟨T35, X35, e35, st35⟩ := getF X34 hx hZ hown (host := "") (Or.inl (tw31 hw)) Via.refl e34 f24 (g := (mkF m 162 #[rv ob, jv lim, .second, iv ((fB 1) &&& (127 : Int32)), jv ln, .second, jv (0 : Int64), .second] [(.ref ob), (.ref ob)])) rfl rfl (hb hby d7_162)
  refine Wk.go (A' := T35.setTop (mkF m 165 #[rv ob, jv lim, .second, iv ((fB 1) &&& (127 : Int32)), jv ln, .second, jv (0 : Int64), .second] [(.int (2 : Int32)), (.ref ob)])) (fun t k => st35 t k) ?_
  obtain ⟨T36, h36, X36, e36, W36, st36⟩ := putF X35 hx hZ hown (host := "") (Or.inl (tw50 hw)) Via.refl e35 f29 f19 (Or.inl (tw51 hw)) (tw3 hw) (ty := .int) (by decide) rfl rfl (g := (mkF m 165 #[rv ob, jv lim, .second, iv ((fB 1) &&& (127 : Int32)), jv ln, .second, jv (0 : Int64), .second] [(.int (2 : Int32)), (.ref ob)])) rfl rfl (hb hby d7_165)
  have f37 := f19.wr W36
  have f38 := f20.other W36 (Ne.symm hne)
  have f39 := f21.other W36 (Or.inr (sn_60 hw))
  have f40 := f22.other W36 (Or.inr (sn_61 hw))
  have f41 := f23.other W36 (Or.inr (sn_62 hw))
  have f42 := f24.other W36 (Or.inr (sn_63 hw))
  have f43 := f25.other W36 (Or.inr (sn_64 hw))
  have f44 := f26.other W36 (Or.inr (sn_65 hw))
  have f45 := f27.other W36 (Or.inr (sn_66 hw))
  have f46 := f28.other W36 (Or.inr (sn_67 hw))
  have f47 := f29.same W36
  have f48 := f30.other W36 (Or.inr (sn_68 hw))
  have f49 := f31.other W36 (Or.inr (sn_69 hw))
  have Zp36 : n0 ≤ h36.size := Nat.le_trans Zp18 (Nat.le_of_eq W36.size.symm)
  have K36 := K18.wr W36 (Or.inl (List.mem_of_getElem? (i := 0) rfl))
  have N36 := Fr.snoc X36 N32 g_ob
  refine Wk.go (A' := T36.setTop (mkF m 168 #[rv ob, jv lim, .second, iv ((fB 1) &&& (127 : Int32)), jv ln, .second, jv (0 : Int64), .second] [])) (fun t k => st36 t k) ?_
  refine Wk.go (A' := T36.setTop (mkF m 169 #[rv ob, jv lim, .second, iv ((fB 1) &&& (127 : Int32)), jv ln, .second, jv (0 : Int64), .second] [(.ref ob)])) (fun t k => XS.aloadN X36.here hx rfl (hb hby d7_168) rfl rfl k) ?_
  refine Wk.go (A' := T36.setTop (mkF m 171 #[rv ob, jv lim, .second, iv ((fB 1) &&& (127 : Int32)), jv ln, .second, jv (0 : Int64), .second] [(.long (0 : Int64)), (.ref ob)])) (fun t k => XS.lload X36.here hx rfl (hb hby d7_169) rfl k) ?_
  obtain ⟨T50, h50, X50, e50, W50, st50⟩ := putF X36 hx hZ hown (host := "") (Or.inl (tw52 hw)) Via.refl e36 f48 f37 (Or.inl (tw53 hw)) (tw3 hw) (ty := .long) (by decide) rfl rfl (g := (mkF m 171 #[rv ob, jv lim, .second, iv ((fB 1) &&& (127 : Int32)), jv ln, .second, jv (0 : Int64), .second] [(.long (0 : Int64)), (.ref ob)])) rfl rfl (hb hby d7_171)
  have f51 := f37.wr W50
  have f52 := f38.other W50 (Ne.symm hne)
  have f53 := f39.other W50 (Or.inr (sn_70 hw))
  have f54 := f40.other W50 (Or.inr (sn_71 hw))
  have f55 := f41.other W50 (Or.inr (sn_72 hw))
  have f56 := f42.other W50 (Or.inr (sn_73 hw))
  have f57 := f43.other W50 (Or.inr (sn_74 hw))
  have f58 := f44.other W50 (Or.inr (sn_75 hw))
  have f59 := f45.other W50 (Or.inr (sn_76 hw))
  have f60 := f46.other W50 (Or.inr (sn_77 hw))
  have f61 := f47.other W50 (Or.inr (sn_78 hw))
  have f62 := f48.same W50
  have f63 := f49.other W50 (Or.inr (sn_79 hw))
  have Zp50 : n0 ≤ h50.size := Nat.le_trans Zp36 (Nat.le_of_eq W50.size.symm)
  have K50 := K36.wr W50 (Or.inl (List.mem_of_getElem? (i := 0) rfl))
  have N50 := Fr.snoc X50 N36 g_ob
  refine Wk.go (A' := T50.setTop (mkF m 174 #[rv ob, jv lim, .second, iv ((fB 1) &&& (127 : Int32)), jv ln, .second, jv (0 : Int64), .second] [])) (fun t k => st50 t k) ?_
  refine Wk.go (A' := T50.setTop (mkF m 175 #[rv ob, jv lim, .second, iv ((fB 1) &&& (127 : Int32)), jv ln, .second, jv (0 : Int64), .second] [(.ref ob)])) (fun t k => XS.aloadN X50.here hx rfl (hb hby d7_174) rfl rfl k) ?_
  refine Wk.go (A' := T50.setTop (mkF m 177 #[rv ob, jv lim, .second, iv ((fB 1) &&& (127 : Int32)), jv ln, .second, jv (0 : Int64), .second] [(.long ln), (.ref ob)])) (fun t k => XS.lload X50.here hx rfl (hb hby d7_175) rfl k) ?_
  obtain ⟨T64, h64, X64, e64, W64, st64⟩ := putF X50 hx hZ hown (host := "") (Or.inl (tw54 hw)) Via.refl e50 f63 f51 (Or.inl (tw55 hw)) (tw3 hw) (ty := .long) (by decide) rfl rfl (g := (mkF m 177 #[rv ob, jv lim, .second, iv ((fB 1) &&& (127 : Int32)), jv ln, .second, jv (0 : Int64), .second] [(.long ln), (.ref ob)])) rfl rfl (hb hby d7_177)
  have f65 := f51.wr W64
  have f66 := f52.other W64 (Ne.symm hne)
  have f67 := f53.other W64 (Or.inr (sn_80 hw))
  have f68 := f54.other W64 (Or.inr (sn_81 hw))
  have f69 := f55.other W64 (Or.inr (sn_82 hw))
  have f70 := f56.other W64 (Or.inr (sn_83 hw))
  have f71 := f57.other W64 (Or.inr (sn_84 hw))
  have f72 := f58.other W64 (Or.inr (sn_85 hw))
  have f73 := f59.other W64 (Or.inr (sn_86 hw))
  have f74 := f60.other W64 (Or.inr (sn_87 hw))
  have f75 := f61.other W64 (Or.inr (sn_88 hw))
  have f76 := f62.other W64 (Or.inr (sn_89 hw))
  have f77 := f63.same W64
  have Zp64 : n0 ≤ h64.size := Nat.le_trans Zp50 (Nat.le_of_eq W64.size.symm)
  have K64 := K50.wr W64 (Or.inl (List.mem_of_getElem? (i := 0) rfl))
  have N64 := Fr.snoc X64 N50 g_ob
  refine Wk.go (A' := T64.setTop (mkF m 180 #[rv ob, jv lim, .second, iv ((fB 1) &&& (127 : Int32)), jv ln, .second, jv (0 : Int64), .second] [])) (fun t k => st64 t k) ?_
  refine Wk.go (A' := T64.setTop (mkF m 181 #[rv ob, jv lim, .second, iv ((fB 1) &&& (127 : Int32)), jv ln, .second, jv (0 : Int64), .second] [(.ref ob)])) (fun t k => XS.aloadN X64.here hx rfl (hb hby d7_180) rfl rfl k) ?_
  refine Wk.go (A' := T64.setTop (mkF m 182 #[rv ob, jv lim, .second, iv ((fB 1) &&& (127 : Int32)), jv ln, .second, jv (0 : Int64), .second] [(.ref ob), (.ref ob)])) (fun t k => XS.aloadN X64.here hx rfl (hb hby d7_181) rfl rfl k) ?_
  obtain ⟨T78, X78, e78, st78⟩ := getF X64 hx hZ hown (host := "") (Or.inl (tw33 hw)) Via.refl e64 f71 (g := (mkF m 182 #[rv ob, jv lim, .second, iv ((fB 1) &&& (127 : Int32)), jv ln, .second, jv (0 : Int64), .second] [(.ref ob), (.ref ob)])) rfl rfl (hb hby d7_182)
  refine Wk.go (A' := T78.setTop (mkF m 185 #[rv ob, jv lim, .second, iv ((fB 1) &&& (127 : Int32)), jv ln, .second, jv (0 : Int64), .second] [(.int (1 : Int32)), (.ref ob)])) (fun t k => st78 t k) ?_
  have hc185 : ¬ ((1 : Int32) = (0 : Int32)) := by decide
  refine Wk.go (A' := T78.setTop (mkF m 192 #[rv ob, jv lim, .second, iv ((fB 1) &&& (127 : Int32)), jv ln, .second, jv (0 : Int64), .second] [(.ref ob)])) (fun t k => XS.ifYes X78.here hx rfl (pc0 := 185) (pc' := 192) rfl (hb hby d7_185) rfl ((if0 _ _).trans (feq hc185).2) (by decide) (by decide) k) ?_
  refine Wk.go (A' := T78.setTop (mkF m 193 #[rv ob, jv lim, .second, iv ((fB 1) &&& (127 : Int32)), jv ln, .second, jv (0 : Int64), .second] [(.int (0 : Int32)), (.ref ob)])) (fun t k => XS.iconst X78.here hx rfl (hb hby d7_192) k) ?_
  obtain ⟨T79, h79, X79, e79, W79, st79⟩ := putFN X78 hx hZ hown (tw40 hw) Via.refl e78 f72 f65 (Or.inl (tw41 hw)) (tw3 hw) (ty := .boolean) (v' := (.int (0 : Int32))) (by decide) rfl (fits_nar_bool (0 : Int32)) (g := (mkF m 193 #[rv ob, jv lim, .second, iv ((fB 1) &&& (127 : Int32)), jv ln, .second, jv (0 : Int64), .second] [(.int (0 : Int32)), (.ref ob)])) rfl rfl (hb hby d7_193)
  have f80 := f65.wr W79
  have f81 := f66.other W79 (Ne.symm hne)
  have f82 := f67.other W79 (Or.inr (sn_90 hw))
  have f83 := f68.other W79 (Or.inr (sn_91 hw))
  have f84 := f69.other W79 (Or.inr (sn_92 hw))
  have f85 := f70.other W79 (Or.inr (sn_93 hw))
  have f86 := f71.other W79 (Or.inr (sn_94 hw))
  have f87 := f72.same W79
  have f88 := f73.other W79 (Or.inr (sn_95 hw))
  have f89 := f74.other W79 (Or.inr (sn_96 hw))
  have f90 := f75.other W79 (Or.inr (sn_97 hw))
  have f91 := f76.other W79 (Or.inr (sn_98 hw))
  have f92 := f77.other W79 (Or.inr (sn_99 hw))
  have Zp79 : n0 ≤ h79.size := Nat.le_trans Zp64 (Nat.le_of_eq W79.size.symm)
  have K79 := K64.wr W79 (Or.inl (List.mem_of_getElem? (i := 0) rfl))
  have N79 := Fr.snoc X79 N64 g_ob
  refine Wk.go (A' := T79.setTop (mkF m 196 #[rv ob, jv lim, .second, iv ((fB 1) &&& (127 : Int32)), jv ln, .second, jv (0 : Int64), .second] [])) (fun t k => st79 t k) ?_
  refine own_fin (Qv := Q7nu Z ob lim ba fB h0 n0) (v := none) X79 hlk (fun _ => rfl) (fun fs hr => X79.returnOut hx Bd.returns (hb hby d7_196) hr) ?_ (by decide) (by decide)
  show Q7nu Z ob lim ba fB h0 n0 _ T79.heap _
  rw [e79]
  exact ⟨_, rfl, N79, K79, f80, f82, f83, f84, f85, f86, f87, f88, f89, f90, f91, f92, f81⟩
theorem ef_7nm (m : MethodId) (x0 : Addr) (x1 : Int64) : entryFrame m #[(.ref x0), (.long x1)] 8 = mkF m 0 #[rv x0, jv x1, .second, .unset, .unset, .unset, .unset, .unset] [] := by first | (simp [entryFrame, mkF, argsToLocals, Value.category]; done) | rfl
def Q7nm (Z : State) (ob : Addr) (lim : Int64) (ba : Addr) (fB : Nat → Int32) (h0 : Heap) (n0 : Nat) (v : Option Value) (h : Heap) (L : List Loc) : Prop := ∃ lnQ : Int64, v = none ∧ Fr n0 L ∧ Keep h0 h [ob, ba] ∧ Exa Z h ob own_F ∧ Fld Z h ob own_F "bytes" "[B" (.ref ba) ∧ Fld Z h ob own_F "masked" "Z" (.int (1 : Int32)) ∧ Fld Z h ob own_F "count" "I" (.int (2 : Int32)) ∧ Fld Z h ob own_F "opcode" "I" (.int (2 : Int32)) ∧ Fld Z h ob own_F "last" "Z" (.int (1 : Int32)) ∧ Fld Z h ob own_F "open" "Z" (.int (0 : Int32)) ∧ Fld Z h ob own_F "length" "J" (.long lnQ) ∧ Fld Z h ob own_F "maskAt" "I" (.int (2 : Int32)) ∧ Fld Z h ob own_F "messageOpcode" "I" (.int (2 : Int32)) ∧ Fld Z h ob own_F "messageBytes" "J" (.long (0 : Int64)) ∧ Fld Z h ob own_F "dataLength" "J" (.long lnQ) ∧ BA Z h ba 14 fB
set_option maxRecDepth 65536 in
set_option maxHeartbeats 40000000 in
theorem rm7nm (l : Launch) (Z : State) (a0 : Array Value) (hw : ∀ d ∈ tables_1, d.before a0 Z = true) (ws : List Jvm.Cond) (ob : Addr) (lim : Int64) (ba : Addr) (fB : Nat → Int32) (h0 : Heap) (n0 : Nat) (Z0 : n0 ≤ h0.size) (E_ob : Exa Z h0 ob own_F) (F_bytes : Fld Z h0 ob own_F "bytes" "[B" (.ref ba)) (F_masked : Fld Z h0 ob own_F "masked" "Z" (.int (1 : Int32))) (F_count : Fld Z h0 ob own_F "count" "I" (.int (2 : Int32))) (F_opcode : Fld Z h0 ob own_F "opcode" "I" (.int (2 : Int32))) (F_last : Fld Z h0 ob own_F "last" "Z" (.int (1 : Int32))) (F_open : Fld Z h0 ob own_F "open" "Z" (.int (0 : Int32))) (F_length : Fld Z h0 ob own_F "length" "J" (.long (0 : Int64))) (F_maskAt : Fld Z h0 ob own_F "maskAt" "I" (.int (0 : Int32))) (F_messageOpcode : Fld Z h0 ob own_F "messageOpcode" "I" (.int (0 : Int32))) (F_messageBytes : Fld Z h0 ob own_F "messageBytes" "J" (.long (0 : Int64))) (F_dataLength : Fld Z h0 ob own_F "dataLength" "J" (.long (0 : Int64))) (VB : BA Z h0 ba 14 fB) (hne : ob ≠ ba) (g_ob : n0 ≤ ob) (g_ba : n0 ≤ ba) (hl : lim = (9223372036854775807 : Int64)) (cw : (fB 1 &&& (127 : Int32)) < (126 : Int32)) :
    MetFree l (⟨own_F, "announce", "(J)V"⟩ : MethodName) (head1 (Jvm.Cond.code (⟨own_F, "announce", "(J)V"⟩ : MethodName) prog_100_method_11_code 8 none :: ws) ({ frames := 1, cells := 0, slots := 0, locals := 14 } : Room)) (fun a U => a = #[(.ref ob), (.long lim)] ∧ Z.Warmed39 U.vm ∧ U.heap = h0) (fun _ _ _ _ _ => True) (fun _ U o U' => ∃ v L, o = .returned v ∧ Q7nm Z ob lim ba fB h0 n0 v U'.heap L ∧ FrameEnd U o U' L ({ frames := 1, cells := 0, slots := 0, locals := 14 } : Room).cells ({ frames := 1, cells := 0, slots := 0, locals := 14 } : Room).slots) := by
  refine MetFree.of_bodySF (plainFor_of_name pn_0) hisR ?_
  intro p e s m args below meth c s₁ Bd hml0 hP hK
  obtain ⟨rfl, hZ, hh⟩ := hP
  have hx := Bd.exec
  have hby := Bd.bytes
  have hml : c.maxLocals = 8 := hml0
  have hown : s.vm.findClass own_F = some m.cls := findClass_of_methodNamed Bd.named
  have hnm := (name_of_methodNamed Bd.named Bd.method).1
  have X0 : Stand p l e ({ frames := 1, cells := 0, slots := 0, locals := 14 } : Room) s m #[(.ref ob), (.long lim)] below meth c s₁ [] 0 0 := Stand.of_body Bd
  have e0 : s₁.heap = h0 := by rw [← hh, Bd.state]; rfl
  have N0 := Fr.nil n0
  have hlk : meth.locks = false := BodyLoose.notSynchronized Bd
  suffices hwk : Wk p.tables e below (s₁.setTop (mkF m 0 #[rv ob, jv lim, .second, .unset, .unset, .unset, .unset, .unset] [])) (fun U o => U.status = .running ∧ Ended U below o ∧ ∃ v L, o = .returned v ∧ Q7nm Z ob lim ba fB h0 n0 v U.heap L ∧ FrameEnd s o U L 0 0) by
    obtain ⟨U, o, k1, k2⟩ := hwk
    exact ⟨U, o, castTop (ef_7nm m ob lim) k1, k2⟩
  have K0 := Keep.refl h0 [ob, ba]
  refine Wk.go (A' := s₁.setTop (mkF m 1 #[rv ob, jv lim, .second, .unset, .unset, .unset, .unset, .unset] [(.ref ob)])) (fun t k => XS.aloadN X0.here hx rfl (hb hby d7_0) rfl rfl k) ?_
  obtain ⟨T1, X1, e1, st1⟩ := getF X0 hx hZ hown (host := "") (Or.inl (tw11 hw)) Via.refl e0 F_bytes (g := (mkF m 1 #[rv ob, jv lim, .second, .unset, .unset, .unset, .unset, .unset] [(.ref ob)])) rfl rfl (hb hby d7_1)
  refine Wk.go (A' := T1.setTop (mkF m 4 #[rv ob, jv lim, .second, .unset, .unset, .unset, .unset, .unset] [(.ref ba)])) (fun t k => st1 t k) ?_
  refine Wk.go (A' := T1.setTop (mkF m 5 #[rv ob, jv lim, .second, .unset, .unset, .unset, .unset, .unset] [(.int (1 : Int32)), (.ref ba)])) (fun t k => XS.iconst X1.here hx rfl (hb hby d7_4) k) ?_
  refine Wk.go (A' := T1.setTop (mkF m 6 #[rv ob, jv lim, .second, .unset, .unset, .unset, .unset, .unset] [(.int (fB 1))])) (fun t k => own_ldB X1 hx hZ e1 VB (j := (1 : Int32)) (by decide) (g := (mkF m 5 #[rv ob, jv lim, .second, .unset, .unset, .unset, .unset, .unset] [(.int (1 : Int32)), (.ref ba)])) rfl rfl (hb hby d7_5) t k) ?_
  refine Wk.go (A' := T1.setTop (mkF m 8 #[rv ob, jv lim, .second, .unset, .unset, .unset, .unset, .unset] [(.int (127 : Int32)), (.int (fB 1))])) (fun t k => XS.bipush X1.here hx rfl (hb hby d7_6) k) ?_
  refine Wk.go (A' := T1.setTop (mkF m 9 #[rv ob, jv lim, .second, .unset, .unset, .unset, .unset, .unset] [(.int ((fB 1) &&& (127 : Int32)))])) (fun t k => XS.iand X1.here hx rfl (hb hby d7_8) rfl k) ?_
  refine Wk.go (A' := T1.setTop (mkF m 10 #[rv ob, jv lim, .second, iv ((fB 1) &&& (127 : Int32)), .unset, .unset, .unset, .unset] [])) (fun t k => XS.istoreN X1.here hx rfl (hb hby d7_9) rfl (l' := #[rv ob, jv lim, .second, iv ((fB 1) &&& (127 : Int32)), .unset, .unset, .unset, .unset]) rfl k) ?_
  refine Wk.go (A' := T1.setTop (mkF m 11 #[rv ob, jv lim, .second, iv ((fB 1) &&& (127 : Int32)), .unset, .unset, .unset, .unset] [(.int ((fB 1) &&& (127 : Int32)))])) (fun t k => XS.iloadN X1.here hx rfl (hb hby d7_10) rfl k) ?_
  refine Wk.go (A' := T1.setTop (mkF m 13 #[rv ob, jv lim, .second, iv ((fB 1) &&& (127 : Int32)), .unset, .unset, .unset, .unset] [(.int (126 : Int32)), (.int ((fB 1) &&& (127 : Int32)))])) (fun t k => XS.bipush X1.here hx rfl (hb hby d7_11) k) ?_
  have hc13 : ((fB 1) &&& (127 : Int32)) < (126 : Int32) := cw
  refine Wk.go (A' := T1.setTop (mkF m 16 #[rv ob, jv lim, .second, iv ((fB 1) &&& (127 : Int32)), .unset, .unset, .unset, .unset] [])) (fun t k => XS.icmpNo X1.here hx rfl (hb hby d7_13) rfl (tlt hc13).2.1 k) ?_
  refine Wk.go (A' := T1.setTop (mkF m 17 #[rv ob, jv lim, .second, iv ((fB 1) &&& (127 : Int32)), .unset, .unset, .unset, .unset] [(.int ((fB 1) &&& (127 : Int32)))])) (fun t k => XS.iloadN X1.here hx rfl (hb hby d7_16) rfl k) ?_
  refine Wk.go (A' := T1.setTop (mkF m 18 #[rv ob, jv lim, .second, iv ((fB 1) &&& (127 : Int32)), .unset, .unset, .unset, .unset] [(.long (((fB 1) &&& (127 : Int32)).toInt64))])) (fun t k => XS.i2l X1.here hx rfl (hb hby d7_17) rfl k) ?_
  refine Wk.go (A' := T1.setTop (mkF m 22 #[rv ob, jv lim, .second, iv ((fB 1) &&& (127 : Int32)), .unset, .unset, .unset, .unset] [(.long (((fB 1) &&& (127 : Int32)).toInt64))])) (fun t k => XS.goto X1.here hx rfl (pc0 := 18) (pc' := 22) rfl (hb hby d7_18) (by decide) (by decide) k) ?_
  refine Wk.go (A' := T1.setTop (mkF m 24 #[rv ob, jv lim, .second, iv ((fB 1) &&& (127 : Int32)), jv (((fB 1) &&& (127 : Int32)).toInt64), .second, .unset, .unset] [])) (fun t k => XS.lstore X1.here hx rfl (hb hby d7_22) rfl (l' := #[rv ob, jv lim, .second, iv ((fB 1) &&& (127 : Int32)), jv (((fB 1) &&& (127 : Int32)).toInt64), .second, .unset, .unset]) rfl k) ?_
  refine Wk.go (A' := T1.setTop (mkF m 25 #[rv ob, jv lim, .second, iv ((fB 1) &&& (127 : Int32)), jv (((fB 1) &&& (127 : Int32)).toInt64), .second, .unset, .unset] [(.int (2 : Int32))])) (fun t k => XS.iconst X1.here hx rfl (hb hby d7_24) k) ?_
  refine Wk.go (A' := T1.setTop (mkF m 27 #[rv ob, jv lim, .second, iv ((fB 1) &&& (127 : Int32)), jv (((fB 1) &&& (127 : Int32)).toInt64), .second, iv (2 : Int32), .unset] [])) (fun t k => XS.istore X1.here hx rfl (hb hby d7_25) rfl (l' := #[rv ob, jv lim, .second, iv ((fB 1) &&& (127 : Int32)), jv (((fB 1) &&& (127 : Int32)).toInt64), .second, iv (2 : Int32), .unset]) rfl k) ?_
  refine Wk.go (A' := T1.setTop (mkF m 29 #[rv ob, jv lim, .second, iv ((fB 1) &&& (127 : Int32)), jv (((fB 1) &&& (127 : Int32)).toInt64), .second, iv (2 : Int32), .unset] [(.int (2 : Int32))])) (fun t k => XS.iload X1.here hx rfl (hb hby d7_27) rfl k) ?_
  refine Wk.go (A' := T1.setTop (mkF m 30 #[rv ob, jv lim, .second, iv ((fB 1) &&& (127 : Int32)), jv (((fB 1) &&& (127 : Int32)).toInt64), .second, iv (2 : Int32), .unset] [(.ref ob), (.int (2 : Int32))])) (fun t k => XS.aloadN X1.here hx rfl (hb hby d7_29) rfl rfl k) ?_
  obtain ⟨cq2, q2, q2'⟩ := E_ob.cell
  obtain ⟨_, _, ⟨T2, L2, k2, n2⟩, -, X2, ⟨Lc2, hQ2, l2, y2, z2⟩, st2⟩ := X1.privateBack hx (y := (⟨own_F, "lengthEnd", "()I"⟩ : MethodName)) hown (mvT hZ (tw23 hw)) (mvT hZ (tw24 hw)) (own_sel (mvT hZ (tw3 hw)) (Cond.privateMethod_at (mvP hZ (tw25 hw) (args := #[]))) (mvT hZ (tw24 hw)) (by decide)) (Cond.privateMethod_at (mvP hZ (tw25 hw) (args := #[]))) (mvT hZ (tw26 hw)) (by decide) (backOf (W := 1) (rm4 l Z a0 hw [] ob ba fB (2 : Int32) h0 n0 Z0 F_bytes F_count VB) hZ (tw26 hw) (tw4 hw) (by decide) (by decide)) (g := (mkF m 30 #[rv ob, jv lim, .second, iv ((fB 1) &&& (127 : Int32)), jv (((fB 1) &&& (127 : Int32)).toInt64), .second, iv (2 : Int32), .unset] [(.ref ob), (.int (2 : Int32))])) rfl (by rw [hml]; rfl) (Steps.refl _) (a := ob) (by rw [e1]; exact q2) q2' (argsL := []) (rest := [(.int (2 : Int32))]) (lenOf pd_1 rfl) rfl (by show 2 * 0 + _ ≤ _; exact Nat.le_of_eq rfl) (hb hby d7_30) (fun _ _ => ⟨rfl, e1, (by decide : 0 + 0 ≤ _), (by decide : 0 + 0 ≤ _)⟩)
  dsimp only [Pt.U, Pt.locs, Pt.cells, Pt.slots] at X2 l2 y2 z2 st2 hQ2
  subst l2 y2 z2
  obtain ⟨rfl, N2q, hE2⟩ := hQ2
  have N2 := Fr.app N0 N2q
  refine Wk.go (A' := T2.setTop (mkF m 33 #[rv ob, jv lim, .second, iv ((fB 1) &&& (127 : Int32)), jv (((fB 1) &&& (127 : Int32)).toInt64), .second, iv (2 : Int32), .unset] [(.int (f_lend ob ba fB (2 : Int32))), (.int (2 : Int32))])) (fun t k => st2.trans k) ?_
  rw [show (f_lend ob ba fB (2 : Int32)) = (2 : Int32) from own_l2 _ _ _ (by decide) cw]
  have hc33 : ¬ ((2 : Int32) < (2 : Int32)) := by decide
  refine Wk.go (A' := T2.setTop (mkF m 62 #[rv ob, jv lim, .second, iv ((fB 1) &&& (127 : Int32)), jv (((fB 1) &&& (127 : Int32)).toInt64), .second, iv (2 : Int32), .unset] [])) (fun t k => XS.icmpYes X2.here hx rfl (pc0 := 33) (pc' := 62) rfl (hb hby d7_33) rfl (flt hc33).2.1 (by decide) (by decide) k) ?_
  generalize hln : (((fB 1) &&& (127 : Int32)).toInt64) = ln
  have hln0 : ¬ (ln < (0 : Int64)) := by rw [← hln, Int64.lt_iff_toInt_lt]; have := own_ln2 (fB 1); have e0 : (0 : Int64).toInt = 0 := (by decide); omega
  refine Wk.go (A' := T2.setTop (mkF m 64 #[rv ob, jv lim, .second, iv ((fB 1) &&& (127 : Int32)), jv ln, .second, iv (2 : Int32), .unset] [(.long ln)])) (fun t k => XS.lload X2.here hx rfl (hb hby d7_62) rfl k) ?_
  refine Wk.go (A' := T2.setTop (mkF m 65 #[rv ob, jv lim, .second, iv ((fB 1) &&& (127 : Int32)), jv ln, .second, iv (2 : Int32), .unset] [(.long (0 : Int64)), (.long ln)])) (fun t k => XS.lconst X2.here hx rfl (hb hby d7_64) k) ?_
  refine Wk.go (A' := T2.setTop (mkF m 66 #[rv ob, jv lim, .second, iv ((fB 1) &&& (127 : Int32)), jv ln, .second, iv (2 : Int32), .unset] [(.int (lcmpW ln (0 : Int64)))])) (fun t k => XS.lcmp X2.here hx rfl (hb hby d7_65) rfl k) ?_
  have hc66 : ¬ (ln < (0 : Int64)) := hln0
  refine Wk.go (A' := T2.setTop (mkF m 75 #[rv ob, jv lim, .second, iv ((fB 1) &&& (127 : Int32)), jv ln, .second, iv (2 : Int32), .unset] [])) (fun t k => XS.ifYes X2.here hx rfl (pc0 := 66) (pc' := 75) rfl (hb hby d7_66) rfl ((if0 _ _).trans (flt (mt (lw_lt _ _).mp hc66)).2.1) (by decide) (by decide) k) ?_
  refine Wk.go (A' := T2.setTop (mkF m 76 #[rv ob, jv lim, .second, iv ((fB 1) &&& (127 : Int32)), jv ln, .second, iv (2 : Int32), .unset] [(.ref ob)])) (fun t k => XS.aloadN X2.here hx rfl (hb hby d7_75) rfl rfl k) ?_
  refine Wk.go (A' := T2.setTop (mkF m 78 #[rv ob, jv lim, .second, iv ((fB 1) &&& (127 : Int32)), jv ln, .second, iv (2 : Int32), .unset] [(.long ln), (.ref ob)])) (fun t k => XS.lload X2.here hx rfl (hb hby d7_76) rfl k) ?_
  obtain ⟨T3, h3, X3, e3, W3, st3⟩ := putF X2 hx hZ hown (host := "") (Or.inl (tw46 hw)) Via.refl (hE2) F_length E_ob (Or.inl (tw47 hw)) (tw3 hw) (ty := .long) (by decide) rfl rfl (g := (mkF m 78 #[rv ob, jv lim, .second, iv ((fB 1) &&& (127 : Int32)), jv ln, .second, iv (2 : Int32), .unset] [(.long ln), (.ref ob)])) rfl rfl (hb hby d7_78)
  have f4 := E_ob.wr W3
  have f5 := VB.other W3 (Ne.symm hne)
  have f6 := F_bytes.other W3 (Or.inr (sn_40 hw))
  have f7 := F_masked.other W3 (Or.inr (sn_41 hw))
  have f8 := F_count.other W3 (Or.inr (sn_42 hw))
  have f9 := F_opcode.other W3 (Or.inr (sn_43 hw))
  have f10 := F_last.other W3 (Or.inr (sn_44 hw))
  have f11 := F_open.other W3 (Or.inr (sn_45 hw))
  have f12 := F_length.same W3
  have f13 := F_maskAt.other W3 (Or.inr (sn_46 hw))
  have f14 := F_messageOpcode.other W3 (Or.inr (sn_47 hw))
  have f15 := F_messageBytes.other W3 (Or.inr (sn_48 hw))
  have f16 := F_dataLength.other W3 (Or.inr (sn_49 hw))
  have Zp3 : n0 ≤ h3.size := Nat.le_trans Z0 (Nat.le_of_eq W3.size.symm)
  have K3 := K0.wr W3 (Or.inl (List.mem_of_getElem? (i := 0) rfl))
  have N3 := Fr.snoc X3 N2 g_ob
  refine Wk.go (A' := T3.setTop (mkF m 81 #[rv ob, jv lim, .second, iv ((fB 1) &&& (127 : Int32)), jv ln, .second, iv (2 : Int32), .unset] [])) (fun t k => st3 t k) ?_
  refine Wk.go (A' := T3.setTop (mkF m 82 #[rv ob, jv lim, .second, iv ((fB 1) &&& (127 : Int32)), jv ln, .second, iv (2 : Int32), .unset] [(.ref ob)])) (fun t k => XS.aloadN X3.here hx rfl (hb hby d7_81) rfl rfl k) ?_
  refine Wk.go (A' := T3.setTop (mkF m 83 #[rv ob, jv lim, .second, iv ((fB 1) &&& (127 : Int32)), jv ln, .second, iv (2 : Int32), .unset] [(.ref ob), (.ref ob)])) (fun t k => XS.aloadN X3.here hx rfl (hb hby d7_82) rfl rfl k) ?_
  obtain ⟨cq17, q17, q17'⟩ := f4.cell
  obtain ⟨_, _, ⟨T17, L17, k17, n17⟩, -, X17, ⟨Lc17, hQ17, l17, y17, z17⟩, st17⟩ := X3.privateBack hx (y := (⟨own_F, "lengthEnd", "()I"⟩ : MethodName)) hown (mvT hZ (tw23 hw)) (mvT hZ (tw24 hw)) (own_sel (mvT hZ (tw3 hw)) (Cond.privateMethod_at (mvP hZ (tw25 hw) (args := #[]))) (mvT hZ (tw24 hw)) (by decide)) (Cond.privateMethod_at (mvP hZ (tw25 hw) (args := #[]))) (mvT hZ (tw26 hw)) (by decide) (backOf (W := 1) (rm4 l Z a0 hw [] ob ba fB (2 : Int32) h3 n0 Zp3 f6 f8 f5) hZ (tw26 hw) (tw4 hw) (by decide) (by decide)) (g := (mkF m 83 #[rv ob, jv lim, .second, iv ((fB 1) &&& (127 : Int32)), jv ln, .second, iv (2 : Int32), .unset] [(.ref ob), (.ref ob)])) rfl (by rw [hml]; rfl) (Steps.refl _) (a := ob) (by rw [e3]; exact q17) q17' (argsL := []) (rest := [(.ref ob)]) (lenOf pd_1 rfl) rfl (by show 2 * 0 + _ ≤ _; exact Nat.le_of_eq rfl) (hb hby d7_83) (fun _ _ => ⟨rfl, e3, (by decide : 0 + 0 ≤ _), (by decide : 0 + 0 ≤ _)⟩)
  dsimp only [Pt.U, Pt.locs, Pt.cells, Pt.slots] at X17 l17 y17 z17 st17 hQ17
  subst l17 y17 z17
  obtain ⟨rfl, N17q, hE17⟩ := hQ17
  have N17 := Fr.app N3 N17q
  refine Wk.go (A' := T17.setTop (mkF m 86 #[rv ob, jv lim, .second, iv ((fB 1) &&& (127 : Int32)), jv ln, .second, iv (2 : Int32), .unset] [(.int (f_lend ob ba fB (2 : Int32))), (.ref ob)])) (fun t k => st17.trans k) ?_
  rw [show (f_lend ob ba fB (2 : Int32)) = (2 : Int32) from own_l2 _ _ _ (by decide) cw]
  obtain ⟨T18, h18, X18, e18, W18, st18⟩ := putF X17 hx hZ hown (host := "") (Or.inl (tw48 hw)) Via.refl (hE17) f13 f4 (Or.inl (tw49 hw)) (tw3 hw) (ty := .int) (by decide) rfl rfl (g := (mkF m 86 #[rv ob, jv lim, .second, iv ((fB 1) &&& (127 : Int32)), jv ln, .second, iv (2 : Int32), .unset] [(.int (2 : Int32)), (.ref ob)])) rfl rfl (hb hby d7_86)
  have f19 := f4.wr W18
  have f20 := f5.other W18 (Ne.symm hne)
  have f21 := f6.other W18 (Or.inr (sn_50 hw))
  have f22 := f7.other W18 (Or.inr (sn_51 hw))
  have f23 := f8.other W18 (Or.inr (sn_52 hw))
  have f24 := f9.other W18 (Or.inr (sn_53 hw))
  have f25 := f10.other W18 (Or.inr (sn_54 hw))
  have f26 := f11.other W18 (Or.inr (sn_55 hw))
  have f27 := f12.other W18 (Or.inr (sn_56 hw))
  have f28 := f13.same W18
  have f29 := f14.other W18 (Or.inr (sn_57 hw))
  have f30 := f15.other W18 (Or.inr (sn_58 hw))
  have f31 := f16.other W18 (Or.inr (sn_59 hw))
  have Zp18 : n0 ≤ h18.size := Nat.le_trans Zp3 (Nat.le_of_eq W18.size.symm)
  have K18 := K3.wr W18 (Or.inl (List.mem_of_getElem? (i := 0) rfl))
  have N18 := Fr.snoc X18 N17 g_ob
  refine Wk.go (A' := T18.setTop (mkF m 89 #[rv ob, jv lim, .second, iv ((fB 1) &&& (127 : Int32)), jv ln, .second, iv (2 : Int32), .unset] [])) (fun t k => st18 t k) ?_
  refine Wk.go (A' := T18.setTop (mkF m 90 #[rv ob, jv lim, .second, iv ((fB 1) &&& (127 : Int32)), jv ln, .second, iv (2 : Int32), .unset] [(.ref ob)])) (fun t k => XS.aloadN X18.here hx rfl (hb hby d7_89) rfl rfl k) ?_
  obtain ⟨cq32, kq32, q32a, q32b, q32c⟩ := isOf hZ e18 f19
  obtain ⟨_, _, ⟨T32, L32, k32, n32⟩, -, X32, ⟨Lc32, hQ32, l32, y32, z32⟩, st32⟩ := X18.virtualBack hx (y := (⟨own_F, "isControl", "()Z"⟩ : MethodName)) (z := (⟨own_F, "isControl", "()Z"⟩ : MethodName)) hown (mvT hZ (tw35 hw)) (mvT hZ (tw36 hw)) (notFace_of_selects (args := #[]) (mvT hZ (tw38 hw))) (mvT hZ (tw38 hw)) (mvT hZ (tw37 hw)) (by decide) (backOf (W := 0) (rm6 l Z a0 hw [] ob (2 : Int32) h18 n0 Zp18 f24) hZ (tw39 hw) (tw4 hw) (by decide) (by decide)) q32a q32c (g := (mkF m 90 #[rv ob, jv lim, .second, iv ((fB 1) &&& (127 : Int32)), jv ln, .second, iv (2 : Int32), .unset] [(.ref ob)])) rfl (by rw [hml]; rfl) (Steps.refl _) (argsL := []) (rest := []) (lenOf pd_0 rfl) rfl (by show 2 * 0 + _ ≤ _; exact Nat.le_of_eq rfl) (hb hby d7_90) (fun _ _ => ⟨rfl, e18, (by decide : 0 + 0 ≤ _), (by decide : 0 + 0 ≤ _)⟩)
  dsimp only [Pt.U, Pt.locs, Pt.cells, Pt.slots] at X32 l32 y32 z32 st32 hQ32
  subst l32 y32 z32
  obtain ⟨rfl, N32q, hE32⟩ := hQ32
  have N32 := Fr.app N18 N32q
  refine Wk.go (A' := T32.setTop (mkF m 93 #[rv ob, jv lim, .second, iv ((fB 1) &&& (127 : Int32)), jv ln, .second, iv (2 : Int32), .unset] [(.int (f_ctl ob (2 : Int32)))])) (fun t k => st32.trans k) ?_
  rw [show (f_ctl ob (2 : Int32)) = (0 : Int32) from own_c2 _]
  have hc93 : (0 : Int32) = (0 : Int32) := by decide
  refine Wk.go (A' := T32.setTop (mkF m 97 #[rv ob, jv lim, .second, iv ((fB 1) &&& (127 : Int32)), jv ln, .second, iv (2 : Int32), .unset] [])) (fun t k => XS.ifYes X32.here hx rfl (pc0 := 93) (pc' := 97) rfl (hb hby d7_93) rfl ((if0 _ _).trans (teq hc93).1) (by decide) (by decide) k) ?_
  refine Wk.go (A' := T32.setTop (mkF m 98 #[rv ob, jv lim, .second, iv ((fB 1) &&& (127 : Int32)), jv ln, .second, iv (2 : Int32), .unset] [(.ref ob)])) (fun t k => XS.aloadN X32.here hx rfl (hb hby d7_97) rfl rfl k) ?_
  obtain ⟨T33, X33, e33, st33⟩ := getF X32 hx hZ hown (host := "") (Or.inl (tw31 hw)) Via.refl (hE32) f24 (g := (mkF m 98 #[rv ob, jv lim, .second, iv ((fB 1) &&& (127 : Int32)), jv ln, .second, iv (2 : Int32), .unset] [(.ref ob)])) rfl rfl (hb hby d7_98)
  refine Wk.go (A' := T33.setTop (mkF m 101 #[rv ob, jv lim, .second, iv ((fB 1) &&& (127 : Int32)), jv ln, .second, iv (2 : Int32), .unset] [(.int (2 : Int32))])) (fun t k => st33 t k) ?_
  have hc101 : ¬ ((2 : Int32) = (0 : Int32)) := by decide
  refine Wk.go (A' := T33.setTop (mkF m 116 #[rv ob, jv lim, .second, iv ((fB 1) &&& (127 : Int32)), jv ln, .second, iv (2 : Int32), .unset] [])) (fun t k => XS.ifYes X33.here hx rfl (pc0 := 101) (pc' := 116) rfl (hb hby d7_101) rfl ((if0 _ _).trans (feq hc101).2) (by decide) (by decide) k) ?_
  refine Wk.go (A' := T33.setTop (mkF m 117 #[rv ob, jv lim, .second, iv ((fB 1) &&& (127 : Int32)), jv ln, .second, iv (2 : Int32), .unset] [(.long (0 : Int64))])) (fun t k => XS.lconst X33.here hx rfl (hb hby d7_116) k) ?_
  refine Wk.go (A' := T33.setTop (mkF m 119 #[rv ob, jv lim, .second, iv ((fB 1) &&& (127 : Int32)), jv ln, .second, jv (0 : Int64), .second] [])) (fun t k => XS.lstore X33.here hx rfl (hb hby d7_117) rfl (l' := #[rv ob, jv lim, .second, iv ((fB 1) &&& (127 : Int32)), jv ln, .second, jv (0 : Int64), .second]) rfl k) ?_
  refine Wk.go (A' := T33.setTop (mkF m 121 #[rv ob, jv lim, .second, iv ((fB 1) &&& (127 : Int32)), jv ln, .second, jv (0 : Int64), .second] [(.long ln)])) (fun t k => XS.lload X33.here hx rfl (hb hby d7_119) rfl k) ?_
  refine Wk.go (A' := T33.setTop (mkF m 122 #[rv ob, jv lim, .second, iv ((fB 1) &&& (127 : Int32)), jv ln, .second, jv (0 : Int64), .second] [(.long lim), (.long ln)])) (fun t k => XS.lloadN X33.here hx rfl (hb hby d7_121) rfl k) ?_
  refine Wk.go (A' := T33.setTop (mkF m 123 #[rv ob, jv lim, .second, iv ((fB 1) &&& (127 : Int32)), jv ln, .second, jv (0 : Int64), .second] [(.int (lcmpW ln lim))])) (fun t k => XS.lcmp X33.here hx rfl (hb hby d7_122) rfl k) ?_
  have hc123 : ¬ (lim < ln) := own_max _ hl
  refine Wk.go (A' := T33.setTop (mkF m 126 #[rv ob, jv lim, .second, iv ((fB 1) &&& (127 : Int32)), jv ln, .second, jv (0 : Int64), .second] [])) (fun t k => XS.ifNo X33.here hx rfl (hb hby d7_123) rfl ((if0 _ _).trans (flt (mt (lw_gt _ _).mp hc123)).2.2.1) k) ?_
  refine Wk.go (A' := T33.setTop (mkF m 128 #[rv ob, jv lim, .second, iv ((fB 1) &&& (127 : Int32)), jv ln, .second, jv (0 : Int64), .second] [(.long (0 : Int64))])) (fun t k => XS.lload X33.here hx rfl (hb hby d7_126) rfl k) ?_
  refine Wk.go (A' := T33.setTop (mkF m 130 #[rv ob, jv lim, .second, iv ((fB 1) &&& (127 : Int32)), jv ln, .second, jv (0 : Int64), .second] [(.long ln), (.long (0 : Int64))])) (fun t k => XS.lload X33.here hx rfl (hb hby d7_128) rfl k) ?_
  refine Wk.go (A' := T33.setTop (mkF m 131 #[rv ob, jv lim, .second, iv ((fB 1) &&& (127 : Int32)), jv ln, .second, jv (0 : Int64), .second] [(.long ((0 : Int64) + ln))])) (fun t k => XS.ladd X33.here hx rfl (hb hby d7_130) rfl k) ?_
  refine Wk.go (A' := T33.setTop (mkF m 132 #[rv ob, jv lim, .second, iv ((fB 1) &&& (127 : Int32)), jv ln, .second, jv (0 : Int64), .second] [(.long lim), (.long ((0 : Int64) + ln))])) (fun t k => XS.lloadN X33.here hx rfl (hb hby d7_131) rfl k) ?_
  refine Wk.go (A' := T33.setTop (mkF m 133 #[rv ob, jv lim, .second, iv ((fB 1) &&& (127 : Int32)), jv ln, .second, jv (0 : Int64), .second] [(.int (lcmpW ((0 : Int64) + ln) lim))])) (fun t k => XS.lcmp X33.here hx rfl (hb hby d7_132) rfl k) ?_
  have hc133 : ¬ (lim < ((0 : Int64) + ln)) := own_max _ hl
  refine Wk.go (A' := T33.setTop (mkF m 153 #[rv ob, jv lim, .second, iv ((fB 1) &&& (127 : Int32)), jv ln, .second, jv (0 : Int64), .second] [])) (fun t k => XS.ifYes X33.here hx rfl (pc0 := 133) (pc' := 153) rfl (hb hby d7_133) rfl ((if0 _ _).trans (flt (mt (lw_gt _ _).mp hc133)).2.2.2) (by decide) (by decide) k) ?_
  refine Wk.go (A' := T33.setTop (mkF m 154 #[rv ob, jv lim, .second, iv ((fB 1) &&& (127 : Int32)), jv ln, .second, jv (0 : Int64), .second] [(.ref ob)])) (fun t k => XS.aloadN X33.here hx rfl (hb hby d7_153) rfl rfl k) ?_
  obtain ⟨T34, X34, e34, st34⟩ := getF X33 hx hZ hown (host := "") (Or.inl (tw31 hw)) Via.refl e33 f24 (g := (mkF m 154 #[rv ob, jv lim, .second, iv ((fB 1) &&& (127 : Int32)), jv ln, .second, jv (0 : Int64), .second] [(.ref ob)])) rfl rfl (hb hby d7_154)
  refine Wk.go (A' := T34.setTop (mkF m 157 #[rv ob, jv lim, .second, iv ((fB 1) &&& (127 : Int32)), jv ln, .second, jv (0 : Int64), .second] [(.int (2 : Int32))])) (fun t k => st34 t k) ?_
  have hc157 : ¬ ((2 : Int32) = (0 : Int32)) := by decide
  refine Wk.go (A' := T34.setTop (mkF m 160 #[rv ob, jv lim, .second, iv ((fB 1) &&& (127 : Int32)), jv ln, .second, jv (0 : Int64), .second] [])) (fun t k => XS.ifNo X34.here hx rfl (hb hby d7_157) rfl ((if0 _ _).trans (feq hc157).1) k) ?_
  refine Wk.go (A' := T34.setTop (mkF m 161 #[rv ob, jv lim, .second, iv ((fB 1) &&& (127 : Int32)), jv ln, .second, jv (0 : Int64), .second] [(.ref ob)])) (fun t k => XS.aloadN X34.here hx rfl (hb hby d7_160) rfl rfl k) ?_
  refine Wk.go (A' := T34.setTop (mkF m 162 #[rv ob, jv lim, .second, iv ((fB 1) &&& (127 : Int32)), jv ln, .second, jv (0 : Int64), .second] [(.ref ob), (.ref ob)])) (fun t k => XS.aloadN X34.here hx rfl (hb hby d7_161) rfl rfl k) ?_
  obtain ⟨T35, X35, e35, st35⟩ := getF X34 hx hZ hown (host := "") (Or.inl (tw31 hw)) Via.refl e34 f24 (g := (mkF m 162 #[rv ob, jv lim, .second, iv ((fB 1) &&& (127 : Int32)), jv ln, .second, jv (0 : Int64), .second] [(.ref ob), (.ref ob)])) rfl rfl (hb hby d7_162)
  refine Wk.go (A' := T35.setTop (mkF m 165 #[rv ob, jv lim, .second, iv ((fB 1) &&& (127 : Int32)), jv ln, .second, jv (0 : Int64), .second] [(.int (2 : Int32)), (.ref ob)])) (fun t k => st35 t k) ?_
  obtain ⟨T36, h36, X36, e36, W36, st36⟩ := putF X35 hx hZ hown (host := "") (Or.inl (tw50 hw)) Via.refl e35 f29 f19 (Or.inl (tw51 hw)) (tw3 hw) (ty := .int) (by decide) rfl rfl (g := (mkF m 165 #[rv ob, jv lim, .second, iv ((fB 1) &&& (127 : Int32)), jv ln, .second, jv (0 : Int64), .second] [(.int (2 : Int32)), (.ref ob)])) rfl rfl (hb hby d7_165)
  have f37 := f19.wr W36
  have f38 := f20.other W36 (Ne.symm hne)
  have f39 := f21.other W36 (Or.inr (sn_60 hw))
  have f40 := f22.other W36 (Or.inr (sn_61 hw))
  have f41 := f23.other W36 (Or.inr (sn_62 hw))
  have f42 := f24.other W36 (Or.inr (sn_63 hw))
  have f43 := f25.other W36 (Or.inr (sn_64 hw))
  have f44 := f26.other W36 (Or.inr (sn_65 hw))
  have f45 := f27.other W36 (Or.inr (sn_66 hw))
  have f46 := f28.other W36 (Or.inr (sn_67 hw))
  have f47 := f29.same W36
  have f48 := f30.other W36 (Or.inr (sn_68 hw))
  have f49 := f31.other W36 (Or.inr (sn_69 hw))
  have Zp36 : n0 ≤ h36.size := Nat.le_trans Zp18 (Nat.le_of_eq W36.size.symm)
  have K36 := K18.wr W36 (Or.inl (List.mem_of_getElem? (i := 0) rfl))
  have N36 := Fr.snoc X36 N32 g_ob
  refine Wk.go (A' := T36.setTop (mkF m 168 #[rv ob, jv lim, .second, iv ((fB 1) &&& (127 : Int32)), jv ln, .second, jv (0 : Int64), .second] [])) (fun t k => st36 t k) ?_
  refine Wk.go (A' := T36.setTop (mkF m 169 #[rv ob, jv lim, .second, iv ((fB 1) &&& (127 : Int32)), jv ln, .second, jv (0 : Int64), .second] [(.ref ob)])) (fun t k => XS.aloadN X36.here hx rfl (hb hby d7_168) rfl rfl k) ?_
  refine Wk.go (A' := T36.setTop (mkF m 171 #[rv ob, jv lim, .second, iv ((fB 1) &&& (127 : Int32)), jv ln, .second, jv (0 : Int64), .second] [(.long (0 : Int64)), (.ref ob)])) (fun t k => XS.lload X36.here hx rfl (hb hby d7_169) rfl k) ?_
  obtain ⟨T50, h50, X50, e50, W50, st50⟩ := putF X36 hx hZ hown (host := "") (Or.inl (tw52 hw)) Via.refl e36 f48 f37 (Or.inl (tw53 hw)) (tw3 hw) (ty := .long) (by decide) rfl rfl (g := (mkF m 171 #[rv ob, jv lim, .second, iv ((fB 1) &&& (127 : Int32)), jv ln, .second, jv (0 : Int64), .second] [(.long (0 : Int64)), (.ref ob)])) rfl rfl (hb hby d7_171)
  have f51 := f37.wr W50
  have f52 := f38.other W50 (Ne.symm hne)
  have f53 := f39.other W50 (Or.inr (sn_70 hw))
  have f54 := f40.other W50 (Or.inr (sn_71 hw))
  have f55 := f41.other W50 (Or.inr (sn_72 hw))
  have f56 := f42.other W50 (Or.inr (sn_73 hw))
  have f57 := f43.other W50 (Or.inr (sn_74 hw))
  have f58 := f44.other W50 (Or.inr (sn_75 hw))
  have f59 := f45.other W50 (Or.inr (sn_76 hw))
  have f60 := f46.other W50 (Or.inr (sn_77 hw))
  have f61 := f47.other W50 (Or.inr (sn_78 hw))
  have f62 := f48.same W50
  have f63 := f49.other W50 (Or.inr (sn_79 hw))
  have Zp50 : n0 ≤ h50.size := Nat.le_trans Zp36 (Nat.le_of_eq W50.size.symm)
  have K50 := K36.wr W50 (Or.inl (List.mem_of_getElem? (i := 0) rfl))
  have N50 := Fr.snoc X50 N36 g_ob
  refine Wk.go (A' := T50.setTop (mkF m 174 #[rv ob, jv lim, .second, iv ((fB 1) &&& (127 : Int32)), jv ln, .second, jv (0 : Int64), .second] [])) (fun t k => st50 t k) ?_
  refine Wk.go (A' := T50.setTop (mkF m 175 #[rv ob, jv lim, .second, iv ((fB 1) &&& (127 : Int32)), jv ln, .second, jv (0 : Int64), .second] [(.ref ob)])) (fun t k => XS.aloadN X50.here hx rfl (hb hby d7_174) rfl rfl k) ?_
  refine Wk.go (A' := T50.setTop (mkF m 177 #[rv ob, jv lim, .second, iv ((fB 1) &&& (127 : Int32)), jv ln, .second, jv (0 : Int64), .second] [(.long ln), (.ref ob)])) (fun t k => XS.lload X50.here hx rfl (hb hby d7_175) rfl k) ?_
  obtain ⟨T64, h64, X64, e64, W64, st64⟩ := putF X50 hx hZ hown (host := "") (Or.inl (tw54 hw)) Via.refl e50 f63 f51 (Or.inl (tw55 hw)) (tw3 hw) (ty := .long) (by decide) rfl rfl (g := (mkF m 177 #[rv ob, jv lim, .second, iv ((fB 1) &&& (127 : Int32)), jv ln, .second, jv (0 : Int64), .second] [(.long ln), (.ref ob)])) rfl rfl (hb hby d7_177)
  have f65 := f51.wr W64
  have f66 := f52.other W64 (Ne.symm hne)
  have f67 := f53.other W64 (Or.inr (sn_80 hw))
  have f68 := f54.other W64 (Or.inr (sn_81 hw))
  have f69 := f55.other W64 (Or.inr (sn_82 hw))
  have f70 := f56.other W64 (Or.inr (sn_83 hw))
  have f71 := f57.other W64 (Or.inr (sn_84 hw))
  have f72 := f58.other W64 (Or.inr (sn_85 hw))
  have f73 := f59.other W64 (Or.inr (sn_86 hw))
  have f74 := f60.other W64 (Or.inr (sn_87 hw))
  have f75 := f61.other W64 (Or.inr (sn_88 hw))
  have f76 := f62.other W64 (Or.inr (sn_89 hw))
  have f77 := f63.same W64
  have Zp64 : n0 ≤ h64.size := Nat.le_trans Zp50 (Nat.le_of_eq W64.size.symm)
  have K64 := K50.wr W64 (Or.inl (List.mem_of_getElem? (i := 0) rfl))
  have N64 := Fr.snoc X64 N50 g_ob
  refine Wk.go (A' := T64.setTop (mkF m 180 #[rv ob, jv lim, .second, iv ((fB 1) &&& (127 : Int32)), jv ln, .second, jv (0 : Int64), .second] [])) (fun t k => st64 t k) ?_
  refine Wk.go (A' := T64.setTop (mkF m 181 #[rv ob, jv lim, .second, iv ((fB 1) &&& (127 : Int32)), jv ln, .second, jv (0 : Int64), .second] [(.ref ob)])) (fun t k => XS.aloadN X64.here hx rfl (hb hby d7_180) rfl rfl k) ?_
  refine Wk.go (A' := T64.setTop (mkF m 182 #[rv ob, jv lim, .second, iv ((fB 1) &&& (127 : Int32)), jv ln, .second, jv (0 : Int64), .second] [(.ref ob), (.ref ob)])) (fun t k => XS.aloadN X64.here hx rfl (hb hby d7_181) rfl rfl k) ?_
  obtain ⟨T78, X78, e78, st78⟩ := getF X64 hx hZ hown (host := "") (Or.inl (tw33 hw)) Via.refl e64 f71 (g := (mkF m 182 #[rv ob, jv lim, .second, iv ((fB 1) &&& (127 : Int32)), jv ln, .second, jv (0 : Int64), .second] [(.ref ob), (.ref ob)])) rfl rfl (hb hby d7_182)
  refine Wk.go (A' := T78.setTop (mkF m 185 #[rv ob, jv lim, .second, iv ((fB 1) &&& (127 : Int32)), jv ln, .second, jv (0 : Int64), .second] [(.int (1 : Int32)), (.ref ob)])) (fun t k => st78 t k) ?_
  have hc185 : ¬ ((1 : Int32) = (0 : Int32)) := by decide
  refine Wk.go (A' := T78.setTop (mkF m 192 #[rv ob, jv lim, .second, iv ((fB 1) &&& (127 : Int32)), jv ln, .second, jv (0 : Int64), .second] [(.ref ob)])) (fun t k => XS.ifYes X78.here hx rfl (pc0 := 185) (pc' := 192) rfl (hb hby d7_185) rfl ((if0 _ _).trans (feq hc185).2) (by decide) (by decide) k) ?_
  refine Wk.go (A' := T78.setTop (mkF m 193 #[rv ob, jv lim, .second, iv ((fB 1) &&& (127 : Int32)), jv ln, .second, jv (0 : Int64), .second] [(.int (0 : Int32)), (.ref ob)])) (fun t k => XS.iconst X78.here hx rfl (hb hby d7_192) k) ?_
  obtain ⟨T79, h79, X79, e79, W79, st79⟩ := putFN X78 hx hZ hown (tw40 hw) Via.refl e78 f72 f65 (Or.inl (tw41 hw)) (tw3 hw) (ty := .boolean) (v' := (.int (0 : Int32))) (by decide) rfl (fits_nar_bool (0 : Int32)) (g := (mkF m 193 #[rv ob, jv lim, .second, iv ((fB 1) &&& (127 : Int32)), jv ln, .second, jv (0 : Int64), .second] [(.int (0 : Int32)), (.ref ob)])) rfl rfl (hb hby d7_193)
  have f80 := f65.wr W79
  have f81 := f66.other W79 (Ne.symm hne)
  have f82 := f67.other W79 (Or.inr (sn_90 hw))
  have f83 := f68.other W79 (Or.inr (sn_91 hw))
  have f84 := f69.other W79 (Or.inr (sn_92 hw))
  have f85 := f70.other W79 (Or.inr (sn_93 hw))
  have f86 := f71.other W79 (Or.inr (sn_94 hw))
  have f87 := f72.same W79
  have f88 := f73.other W79 (Or.inr (sn_95 hw))
  have f89 := f74.other W79 (Or.inr (sn_96 hw))
  have f90 := f75.other W79 (Or.inr (sn_97 hw))
  have f91 := f76.other W79 (Or.inr (sn_98 hw))
  have f92 := f77.other W79 (Or.inr (sn_99 hw))
  have Zp79 : n0 ≤ h79.size := Nat.le_trans Zp64 (Nat.le_of_eq W79.size.symm)
  have K79 := K64.wr W79 (Or.inl (List.mem_of_getElem? (i := 0) rfl))
  have N79 := Fr.snoc X79 N64 g_ob
  refine Wk.go (A' := T79.setTop (mkF m 196 #[rv ob, jv lim, .second, iv ((fB 1) &&& (127 : Int32)), jv ln, .second, jv (0 : Int64), .second] [])) (fun t k => st79 t k) ?_
  refine own_fin (Qv := Q7nm Z ob lim ba fB h0 n0) (v := none) X79 hlk (fun _ => rfl) (fun fs hr => X79.returnOut hx Bd.returns (hb hby d7_196) hr) ?_ (by decide) (by decide)
  show Q7nm Z ob lim ba fB h0 n0 _ T79.heap _
  rw [e79]
  exact ⟨_, rfl, N79, K79, f80, f82, f83, f84, f85, f86, f87, f88, f89, f90, f91, f92, f81⟩
theorem d7_21 : decode prog_100_method_11_code 21 = .ok (.lconst 0, 1) := by decide +kernel
theorem d7_36 : decode prog_100_method_11_code 36 = .ok (.lload 4, 2) := by decide +kernel
theorem d7_38 : decode prog_100_method_11_code 38 = .ok (.bipush 8, 2) := by decide +kernel
theorem d7_40 : decode prog_100_method_11_code 40 = .ok (.lshl, 1) := by decide +kernel
theorem d7_41 : decode prog_100_method_11_code 41 = .ok (.aload_n 0, 1) := by decide +kernel
theorem d7_42 : decode prog_100_method_11_code 42 = .ok (.getfield 7, 3) := by decide +kernel
theorem d7_45 : decode prog_100_method_11_code 45 = .ok (.iload 6, 2) := by decide +kernel
theorem d7_47 : decode prog_100_method_11_code 47 = .ok (.baload, 1) := by decide +kernel
theorem d7_48 : decode prog_100_method_11_code 48 = .ok (.sipush 255, 3) := by decide +kernel
theorem d7_51 : decode prog_100_method_11_code 51 = .ok (.iand, 1) := by decide +kernel
theorem d7_52 : decode prog_100_method_11_code 52 = .ok (.i2l, 1) := by decide +kernel
theorem d7_53 : decode prog_100_method_11_code 53 = .ok (.lor, 1) := by decide +kernel
theorem d7_54 : decode prog_100_method_11_code 54 = .ok (.lstore 4, 2) := by decide +kernel
theorem d7_56 : decode prog_100_method_11_code 56 = .ok (.iinc 6 1, 3) := by decide +kernel
theorem d7_59 : decode prog_100_method_11_code 59 = .ok (.goto (-32), 3) := by decide +kernel
theorem ef_7wu (m : MethodId) (x0 : Addr) (x1 : Int64) : entryFrame m #[(.ref x0), (.long x1)] 8 = mkF m 0 #[rv x0, jv x1, .second, .unset, .unset, .unset, .unset, .unset] [] := by first | (simp [entryFrame, mkF, argsToLocals, Value.category]; done) | rfl
def Q7wu (Z : State) (ob : Addr) (lim : Int64) (ba : Addr) (fB : Nat → Int32) (h0 : Heap) (n0 : Nat) (v : Option Value) (h : Heap) (L : List Loc) : Prop := ∃ lnQ : Int64, v = none ∧ Fr n0 L ∧ Keep h0 h [ob, ba] ∧ Exa Z h ob own_F ∧ Fld Z h ob own_F "bytes" "[B" (.ref ba) ∧ Fld Z h ob own_F "masked" "Z" (.int (0 : Int32)) ∧ Fld Z h ob own_F "count" "I" (.int (4 : Int32)) ∧ Fld Z h ob own_F "opcode" "I" (.int (2 : Int32)) ∧ Fld Z h ob own_F "last" "Z" (.int (1 : Int32)) ∧ Fld Z h ob own_F "open" "Z" (.int (0 : Int32)) ∧ Fld Z h ob own_F "length" "J" (.long lnQ) ∧ Fld Z h ob own_F "maskAt" "I" (.int (4 : Int32)) ∧ Fld Z h ob own_F "messageOpcode" "I" (.int (2 : Int32)) ∧ Fld Z h ob own_F "messageBytes" "J" (.long (0 : Int64)) ∧ Fld Z h ob own_F "dataLength" "J" (.long lnQ) ∧ BA Z h ba 14 fB
set_option maxRecDepth 65536 in
set_option maxHeartbeats 40000000 in
theorem rm7wu (l : Launch) (Z : State) (a0 : Array Value) (hw : ∀ d ∈ tables_1, d.before a0 Z = true) (ws : List Jvm.Cond) (ob : Addr) (lim : Int64) (ba : Addr) (fB : Nat → Int32) (h0 : Heap) (n0 : Nat) (Z0 : n0 ≤ h0.size) (E_ob : Exa Z h0 ob own_F) (F_bytes : Fld Z h0 ob own_F "bytes" "[B" (.ref ba)) (F_masked : Fld Z h0 ob own_F "masked" "Z" (.int (0 : Int32))) (F_count : Fld Z h0 ob own_F "count" "I" (.int (4 : Int32))) (F_opcode : Fld Z h0 ob own_F "opcode" "I" (.int (2 : Int32))) (F_last : Fld Z h0 ob own_F "last" "Z" (.int (1 : Int32))) (F_open : Fld Z h0 ob own_F "open" "Z" (.int (0 : Int32))) (F_length : Fld Z h0 ob own_F "length" "J" (.long (0 : Int64))) (F_maskAt : Fld Z h0 ob own_F "maskAt" "I" (.int (0 : Int32))) (F_messageOpcode : Fld Z h0 ob own_F "messageOpcode" "I" (.int (0 : Int32))) (F_messageBytes : Fld Z h0 ob own_F "messageBytes" "J" (.long (0 : Int64))) (F_dataLength : Fld Z h0 ob own_F "dataLength" "J" (.long (0 : Int64))) (VB : BA Z h0 ba 14 fB) (hne : ob ≠ ba) (g_ob : n0 ≤ ob) (g_ba : n0 ≤ ba) (hl : lim = (9223372036854775807 : Int64)) (cw : (fB 1 &&& (127 : Int32)) = (126 : Int32)) :
    MetFree l (⟨own_F, "announce", "(J)V"⟩ : MethodName) (head1 (Jvm.Cond.code (⟨own_F, "announce", "(J)V"⟩ : MethodName) prog_100_method_11_code 8 none :: ws) ({ frames := 1, cells := 0, slots := 0, locals := 14 } : Room)) (fun a U => a = #[(.ref ob), (.long lim)] ∧ Z.Warmed39 U.vm ∧ U.heap = h0) (fun _ _ _ _ _ => True) (fun _ U o U' => ∃ v L, o = .returned v ∧ Q7wu Z ob lim ba fB h0 n0 v U'.heap L ∧ FrameEnd U o U' L ({ frames := 1, cells := 0, slots := 0, locals := 14 } : Room).cells ({ frames := 1, cells := 0, slots := 0, locals := 14 } : Room).slots) := by
  refine MetFree.of_bodySF (plainFor_of_name pn_0) hisR ?_
  intro p e s m args below meth c s₁ Bd hml0 hP hK
  obtain ⟨rfl, hZ, hh⟩ := hP
  have hx := Bd.exec
  have hby := Bd.bytes
  have hml : c.maxLocals = 8 := hml0
  have hown : s.vm.findClass own_F = some m.cls := findClass_of_methodNamed Bd.named
  have hnm := (name_of_methodNamed Bd.named Bd.method).1
  have X0 : Stand p l e ({ frames := 1, cells := 0, slots := 0, locals := 14 } : Room) s m #[(.ref ob), (.long lim)] below meth c s₁ [] 0 0 := Stand.of_body Bd
  have e0 : s₁.heap = h0 := by rw [← hh, Bd.state]; rfl
  have N0 := Fr.nil n0
  have hlk : meth.locks = false := BodyLoose.notSynchronized Bd
  suffices hwk : Wk p.tables e below (s₁.setTop (mkF m 0 #[rv ob, jv lim, .second, .unset, .unset, .unset, .unset, .unset] [])) (fun U o => U.status = .running ∧ Ended U below o ∧ ∃ v L, o = .returned v ∧ Q7wu Z ob lim ba fB h0 n0 v U.heap L ∧ FrameEnd s o U L 0 0) by
    obtain ⟨U, o, k1, k2⟩ := hwk
    exact ⟨U, o, castTop (ef_7wu m ob lim) k1, k2⟩
  have K0 := Keep.refl h0 [ob, ba]
  refine Wk.go (A' := s₁.setTop (mkF m 1 #[rv ob, jv lim, .second, .unset, .unset, .unset, .unset, .unset] [(.ref ob)])) (fun t k => XS.aloadN X0.here hx rfl (hb hby d7_0) rfl rfl k) ?_
  obtain ⟨T1, X1, e1, st1⟩ := getF X0 hx hZ hown (host := "") (Or.inl (tw11 hw)) Via.refl e0 F_bytes (g := (mkF m 1 #[rv ob, jv lim, .second, .unset, .unset, .unset, .unset, .unset] [(.ref ob)])) rfl rfl (hb hby d7_1)
  refine Wk.go (A' := T1.setTop (mkF m 4 #[rv ob, jv lim, .second, .unset, .unset, .unset, .unset, .unset] [(.ref ba)])) (fun t k => st1 t k) ?_
  refine Wk.go (A' := T1.setTop (mkF m 5 #[rv ob, jv lim, .second, .unset, .unset, .unset, .unset, .unset] [(.int (1 : Int32)), (.ref ba)])) (fun t k => XS.iconst X1.here hx rfl (hb hby d7_4) k) ?_
  refine Wk.go (A' := T1.setTop (mkF m 6 #[rv ob, jv lim, .second, .unset, .unset, .unset, .unset, .unset] [(.int (fB 1))])) (fun t k => own_ldB X1 hx hZ e1 VB (j := (1 : Int32)) (by decide) (g := (mkF m 5 #[rv ob, jv lim, .second, .unset, .unset, .unset, .unset, .unset] [(.int (1 : Int32)), (.ref ba)])) rfl rfl (hb hby d7_5) t k) ?_
  refine Wk.go (A' := T1.setTop (mkF m 8 #[rv ob, jv lim, .second, .unset, .unset, .unset, .unset, .unset] [(.int (127 : Int32)), (.int (fB 1))])) (fun t k => XS.bipush X1.here hx rfl (hb hby d7_6) k) ?_
  refine Wk.go (A' := T1.setTop (mkF m 9 #[rv ob, jv lim, .second, .unset, .unset, .unset, .unset, .unset] [(.int ((fB 1) &&& (127 : Int32)))])) (fun t k => XS.iand X1.here hx rfl (hb hby d7_8) rfl k) ?_
  refine Wk.go (A' := T1.setTop (mkF m 10 #[rv ob, jv lim, .second, iv ((fB 1) &&& (127 : Int32)), .unset, .unset, .unset, .unset] [])) (fun t k => XS.istoreN X1.here hx rfl (hb hby d7_9) rfl (l' := #[rv ob, jv lim, .second, iv ((fB 1) &&& (127 : Int32)), .unset, .unset, .unset, .unset]) rfl k) ?_
  refine Wk.go (A' := T1.setTop (mkF m 11 #[rv ob, jv lim, .second, iv ((fB 1) &&& (127 : Int32)), .unset, .unset, .unset, .unset] [(.int ((fB 1) &&& (127 : Int32)))])) (fun t k => XS.iloadN X1.here hx rfl (hb hby d7_10) rfl k) ?_
  refine Wk.go (A' := T1.setTop (mkF m 13 #[rv ob, jv lim, .second, iv ((fB 1) &&& (127 : Int32)), .unset, .unset, .unset, .unset] [(.int (126 : Int32)), (.int ((fB 1) &&& (127 : Int32)))])) (fun t k => XS.bipush X1.here hx rfl (hb hby d7_11) k) ?_
  have hc13 : ¬ (((fB 1) &&& (127 : Int32)) < (126 : Int32)) := by rw [cw]; decide
  refine Wk.go (A' := T1.setTop (mkF m 21 #[rv ob, jv lim, .second, iv ((fB 1) &&& (127 : Int32)), .unset, .unset, .unset, .unset] [])) (fun t k => XS.icmpYes X1.here hx rfl (pc0 := 13) (pc' := 21) rfl (hb hby d7_13) rfl (flt hc13).2.1 (by decide) (by decide) k) ?_
  refine Wk.go (A' := T1.setTop (mkF m 22 #[rv ob, jv lim, .second, iv ((fB 1) &&& (127 : Int32)), .unset, .unset, .unset, .unset] [(.long (0 : Int64))])) (fun t k => XS.lconst X1.here hx rfl (hb hby d7_21) k) ?_
  refine Wk.go (A' := T1.setTop (mkF m 24 #[rv ob, jv lim, .second, iv ((fB 1) &&& (127 : Int32)), jv (0 : Int64), .second, .unset, .unset] [])) (fun t k => XS.lstore X1.here hx rfl (hb hby d7_22) rfl (l' := #[rv ob, jv lim, .second, iv ((fB 1) &&& (127 : Int32)), jv (0 : Int64), .second, .unset, .unset]) rfl k) ?_
  refine Wk.go (A' := T1.setTop (mkF m 25 #[rv ob, jv lim, .second, iv ((fB 1) &&& (127 : Int32)), jv (0 : Int64), .second, .unset, .unset] [(.int (2 : Int32))])) (fun t k => XS.iconst X1.here hx rfl (hb hby d7_24) k) ?_
  refine Wk.go (A' := T1.setTop (mkF m 27 #[rv ob, jv lim, .second, iv ((fB 1) &&& (127 : Int32)), jv (0 : Int64), .second, iv (2 : Int32), .unset] [])) (fun t k => XS.istore X1.here hx rfl (hb hby d7_25) rfl (l' := #[rv ob, jv lim, .second, iv ((fB 1) &&& (127 : Int32)), jv (0 : Int64), .second, iv (2 : Int32), .unset]) rfl k) ?_
  refine Wk.go (A' := T1.setTop (mkF m 29 #[rv ob, jv lim, .second, iv ((fB 1) &&& (127 : Int32)), jv (0 : Int64), .second, iv (2 : Int32), .unset] [(.int (2 : Int32))])) (fun t k => XS.iload X1.here hx rfl (hb hby d7_27) rfl k) ?_
  refine Wk.go (A' := T1.setTop (mkF m 30 #[rv ob, jv lim, .second, iv ((fB 1) &&& (127 : Int32)), jv (0 : Int64), .second, iv (2 : Int32), .unset] [(.ref ob), (.int (2 : Int32))])) (fun t k => XS.aloadN X1.here hx rfl (hb hby d7_29) rfl rfl k) ?_
  obtain ⟨cq2, q2, q2'⟩ := E_ob.cell
  obtain ⟨_, _, ⟨T2, L2, k2, n2⟩, -, X2, ⟨Lc2, hQ2, l2, y2, z2⟩, st2⟩ := X1.privateBack hx (y := (⟨own_F, "lengthEnd", "()I"⟩ : MethodName)) hown (mvT hZ (tw23 hw)) (mvT hZ (tw24 hw)) (own_sel (mvT hZ (tw3 hw)) (Cond.privateMethod_at (mvP hZ (tw25 hw) (args := #[]))) (mvT hZ (tw24 hw)) (by decide)) (Cond.privateMethod_at (mvP hZ (tw25 hw) (args := #[]))) (mvT hZ (tw26 hw)) (by decide) (backOf (W := 1) (rm4 l Z a0 hw [] ob ba fB (4 : Int32) h0 n0 Z0 F_bytes F_count VB) hZ (tw26 hw) (tw4 hw) (by decide) (by decide)) (g := (mkF m 30 #[rv ob, jv lim, .second, iv ((fB 1) &&& (127 : Int32)), jv (0 : Int64), .second, iv (2 : Int32), .unset] [(.ref ob), (.int (2 : Int32))])) rfl (by rw [hml]; rfl) (Steps.refl _) (a := ob) (by rw [e1]; exact q2) q2' (argsL := []) (rest := [(.int (2 : Int32))]) (lenOf pd_1 rfl) rfl (by show 2 * 0 + _ ≤ _; exact Nat.le_of_eq rfl) (hb hby d7_30) (fun _ _ => ⟨rfl, e1, (by decide : 0 + 0 ≤ _), (by decide : 0 + 0 ≤ _)⟩)
  dsimp only [Pt.U, Pt.locs, Pt.cells, Pt.slots] at X2 l2 y2 z2 st2 hQ2
  subst l2 y2 z2
  obtain ⟨rfl, N2q, hE2⟩ := hQ2
  have N2 := Fr.app N0 N2q
  refine Wk.go (A' := T2.setTop (mkF m 33 #[rv ob, jv lim, .second, iv ((fB 1) &&& (127 : Int32)), jv (0 : Int64), .second, iv (2 : Int32), .unset] [(.int (f_lend ob ba fB (4 : Int32))), (.int (2 : Int32))])) (fun t k => st2.trans k) ?_
  rw [show (f_lend ob ba fB (4 : Int32)) = (4 : Int32) from own_l4 _ _ _ (by decide) cw]
  have hc33 : (2 : Int32) < (4 : Int32) := by decide
  refine Wk.go (A' := T2.setTop (mkF m 36 #[rv ob, jv lim, .second, iv ((fB 1) &&& (127 : Int32)), jv (0 : Int64), .second, iv (2 : Int32), .unset] [])) (fun t k => XS.icmpNo X2.here hx rfl (hb hby d7_33) rfl (tlt hc33).2.1 k) ?_
  refine Wk.go (A' := T2.setTop (mkF m 38 #[rv ob, jv lim, .second, iv ((fB 1) &&& (127 : Int32)), jv (0 : Int64), .second, iv (2 : Int32), .unset] [(.long (0 : Int64))])) (fun t k => XS.lload X2.here hx rfl (hb hby d7_36) rfl k) ?_
  refine Wk.go (A' := T2.setTop (mkF m 40 #[rv ob, jv lim, .second, iv ((fB 1) &&& (127 : Int32)), jv (0 : Int64), .second, iv (2 : Int32), .unset] [(.int (8 : Int32)), (.long (0 : Int64))])) (fun t k => XS.bipush X2.here hx rfl (hb hby d7_38) k) ?_
  refine Wk.go (A' := T2.setTop (mkF m 41 #[rv ob, jv lim, .second, iv ((fB 1) &&& (127 : Int32)), jv (0 : Int64), .second, iv (2 : Int32), .unset] [(.long ((0 : Int64) <<< ((8 : Int32) &&& 0x3f).toInt64))])) (fun t k => XS.lshl X2.here hx rfl (hb hby d7_40) rfl k) ?_
  refine Wk.go (A' := T2.setTop (mkF m 42 #[rv ob, jv lim, .second, iv ((fB 1) &&& (127 : Int32)), jv (0 : Int64), .second, iv (2 : Int32), .unset] [(.ref ob), (.long ((0 : Int64) <<< ((8 : Int32) &&& 0x3f).toInt64))])) (fun t k => XS.aloadN X2.here hx rfl (hb hby d7_41) rfl rfl k) ?_
  obtain ⟨T3, X3, e3, st3⟩ := getF X2 hx hZ hown (host := "") (Or.inl (tw11 hw)) Via.refl (hE2) F_bytes (g := (mkF m 42 #[rv ob, jv lim, .second, iv ((fB 1) &&& (127 : Int32)), jv (0 : Int64), .second, iv (2 : Int32), .unset] [(.ref ob), (.long ((0 : Int64) <<< ((8 : Int32) &&& 0x3f).toInt64))])) rfl rfl (hb hby d7_42)
  refine Wk.go (A' := T3.setTop (mkF m 45 #[rv ob, jv lim, .second, iv ((fB 1) &&& (127 : Int32)), jv (0 : Int64), .second, iv (2 : Int32), .unset] [(.ref ba), (.long ((0 : Int64) <<< ((8 : Int32) &&& 0x3f).toInt64))])) (fun t k => st3 t k) ?_
  refine Wk.go (A' := T3.setTop (mkF m 47 #[rv ob, jv lim, .second, iv ((fB 1) &&& (127 : Int32)), jv (0 : Int64), .second, iv (2 : Int32), .unset] [(.int (2 : Int32)), (.ref ba), (.long ((0 : Int64) <<< ((8 : Int32) &&& 0x3f).toInt64))])) (fun t k => XS.iload X3.here hx rfl (hb hby d7_45) rfl k) ?_
  refine Wk.go (A' := T3.setTop (mkF m 48 #[rv ob, jv lim, .second, iv ((fB 1) &&& (127 : Int32)), jv (0 : Int64), .second, iv (2 : Int32), .unset] [(.int (fB 2)), (.long ((0 : Int64) <<< ((8 : Int32) &&& 0x3f).toInt64))])) (fun t k => own_ldB X3 hx hZ e3 VB (j := (2 : Int32)) (by decide) (g := (mkF m 47 #[rv ob, jv lim, .second, iv ((fB 1) &&& (127 : Int32)), jv (0 : Int64), .second, iv (2 : Int32), .unset] [(.int (2 : Int32)), (.ref ba), (.long ((0 : Int64) <<< ((8 : Int32) &&& 0x3f).toInt64))])) rfl rfl (hb hby d7_47) t k) ?_
  refine Wk.go (A' := T3.setTop (mkF m 51 #[rv ob, jv lim, .second, iv ((fB 1) &&& (127 : Int32)), jv (0 : Int64), .second, iv (2 : Int32), .unset] [(.int (255 : Int32)), (.int (fB 2)), (.long ((0 : Int64) <<< ((8 : Int32) &&& 0x3f).toInt64))])) (fun t k => XS.sipush X3.here hx rfl (hb hby d7_48) k) ?_
  refine Wk.go (A' := T3.setTop (mkF m 52 #[rv ob, jv lim, .second, iv ((fB 1) &&& (127 : Int32)), jv (0 : Int64), .second, iv (2 : Int32), .unset] [(.int ((fB 2) &&& (255 : Int32))), (.long ((0 : Int64) <<< ((8 : Int32) &&& 0x3f).toInt64))])) (fun t k => XS.iand X3.here hx rfl (hb hby d7_51) rfl k) ?_
  refine Wk.go (A' := T3.setTop (mkF m 53 #[rv ob, jv lim, .second, iv ((fB 1) &&& (127 : Int32)), jv (0 : Int64), .second, iv (2 : Int32), .unset] [(.long (((fB 2) &&& (255 : Int32)).toInt64)), (.long ((0 : Int64) <<< ((8 : Int32) &&& 0x3f).toInt64))])) (fun t k => XS.i2l X3.here hx rfl (hb hby d7_52) rfl k) ?_
  refine Wk.go (A' := T3.setTop (mkF m 54 #[rv ob, jv lim, .second, iv ((fB 1) &&& (127 : Int32)), jv (0 : Int64), .second, iv (2 : Int32), .unset] [(.long (((0 : Int64) <<< ((8 : Int32) &&& 0x3f).toInt64) ||| (((fB 2) &&& (255 : Int32)).toInt64)))])) (fun t k => XS.lor X3.here hx rfl (hb hby d7_53) rfl k) ?_
  refine Wk.go (A' := T3.setTop (mkF m 56 #[rv ob, jv lim, .second, iv ((fB 1) &&& (127 : Int32)), jv (((0 : Int64) <<< ((8 : Int32) &&& 0x3f).toInt64) ||| (((fB 2) &&& (255 : Int32)).toInt64)), .second, iv (2 : Int32), .unset] [])) (fun t k => XS.lstore X3.here hx rfl (hb hby d7_54) rfl (l' := #[rv ob, jv lim, .second, iv ((fB 1) &&& (127 : Int32)), jv (((0 : Int64) <<< ((8 : Int32) &&& 0x3f).toInt64) ||| (((fB 2) &&& (255 : Int32)).toInt64)), .second, iv (2 : Int32), .unset]) rfl k) ?_
  refine Wk.go (A' := T3.setTop (mkF m 59 #[rv ob, jv lim, .second, iv ((fB 1) &&& (127 : Int32)), jv (((0 : Int64) <<< ((8 : Int32) &&& 0x3f).toInt64) ||| (((fB 2) &&& (255 : Int32)).toInt64)), .second, iv (3 : Int32), .unset] [])) (fun t k => XS.iinc X3.here hx rfl (hb hby d7_56) rfl (l' := #[rv ob, jv lim, .second, iv ((fB 1) &&& (127 : Int32)), jv (((0 : Int64) <<< ((8 : Int32) &&& 0x3f).toInt64) ||| (((fB 2) &&& (255 : Int32)).toInt64)), .second, iv (3 : Int32), .unset]) rfl k) ?_
  refine Wk.go (A' := T3.setTop (mkF m 27 #[rv ob, jv lim, .second, iv ((fB 1) &&& (127 : Int32)), jv (((0 : Int64) <<< ((8 : Int32) &&& 0x3f).toInt64) ||| (((fB 2) &&& (255 : Int32)).toInt64)), .second, iv (3 : Int32), .unset] [])) (fun t k => XS.goto X3.here hx rfl (pc0 := 59) (pc' := 27) rfl (hb hby d7_59) (by decide) (by decide) k) ?_
  refine Wk.go (A' := T3.setTop (mkF m 29 #[rv ob, jv lim, .second, iv ((fB 1) &&& (127 : Int32)), jv (((0 : Int64) <<< ((8 : Int32) &&& 0x3f).toInt64) ||| (((fB 2) &&& (255 : Int32)).toInt64)), .second, iv (3 : Int32), .unset] [(.int (3 : Int32))])) (fun t k => XS.iload X3.here hx rfl (hb hby d7_27) rfl k) ?_
  refine Wk.go (A' := T3.setTop (mkF m 30 #[rv ob, jv lim, .second, iv ((fB 1) &&& (127 : Int32)), jv (((0 : Int64) <<< ((8 : Int32) &&& 0x3f).toInt64) ||| (((fB 2) &&& (255 : Int32)).toInt64)), .second, iv (3 : Int32), .unset] [(.ref ob), (.int (3 : Int32))])) (fun t k => XS.aloadN X3.here hx rfl (hb hby d7_29) rfl rfl k) ?_
  obtain ⟨cq4, q4, q4'⟩ := E_ob.cell
  obtain ⟨_, _, ⟨T4, L4, k4, n4⟩, -, X4, ⟨Lc4, hQ4, l4, y4, z4⟩, st4⟩ := X3.privateBack hx (y := (⟨own_F, "lengthEnd", "()I"⟩ : MethodName)) hown (mvT hZ (tw23 hw)) (mvT hZ (tw24 hw)) (own_sel (mvT hZ (tw3 hw)) (Cond.privateMethod_at (mvP hZ (tw25 hw) (args := #[]))) (mvT hZ (tw24 hw)) (by decide)) (Cond.privateMethod_at (mvP hZ (tw25 hw) (args := #[]))) (mvT hZ (tw26 hw)) (by decide) (backOf (W := 1) (rm4 l Z a0 hw [] ob ba fB (4 : Int32) h0 n0 Z0 F_bytes F_count VB) hZ (tw26 hw) (tw4 hw) (by decide) (by decide)) (g := (mkF m 30 #[rv ob, jv lim, .second, iv ((fB 1) &&& (127 : Int32)), jv (((0 : Int64) <<< ((8 : Int32) &&& 0x3f).toInt64) ||| (((fB 2) &&& (255 : Int32)).toInt64)), .second, iv (3 : Int32), .unset] [(.ref ob), (.int (3 : Int32))])) rfl (by rw [hml]; rfl) (Steps.refl _) (a := ob) (by rw [e3]; exact q4) q4' (argsL := []) (rest := [(.int (3 : Int32))]) (lenOf pd_1 rfl) rfl (by show 2 * 0 + _ ≤ _; exact Nat.le_of_eq rfl) (hb hby d7_30) (fun _ _ => ⟨rfl, e3, (by decide : 0 + 0 ≤ _), (by decide : 0 + 0 ≤ _)⟩)
  dsimp only [Pt.U, Pt.locs, Pt.cells, Pt.slots] at X4 l4 y4 z4 st4 hQ4
  subst l4 y4 z4
  obtain ⟨rfl, N4q, hE4⟩ := hQ4
  have N4 := Fr.app N2 N4q
  refine Wk.go (A' := T4.setTop (mkF m 33 #[rv ob, jv lim, .second, iv ((fB 1) &&& (127 : Int32)), jv (((0 : Int64) <<< ((8 : Int32) &&& 0x3f).toInt64) ||| (((fB 2) &&& (255 : Int32)).toInt64)), .second, iv (3 : Int32), .unset] [(.int (f_lend ob ba fB (4 : Int32))), (.int (3 : Int32))])) (fun t k => st4.trans k) ?_
  rw [show (f_lend ob ba fB (4 : Int32)) = (4 : Int32) from own_l4 _ _ _ (by decide) cw]
  have hc33 : (3 : Int32) < (4 : Int32) := by decide
  refine Wk.go (A' := T4.setTop (mkF m 36 #[rv ob, jv lim, .second, iv ((fB 1) &&& (127 : Int32)), jv (((0 : Int64) <<< ((8 : Int32) &&& 0x3f).toInt64) ||| (((fB 2) &&& (255 : Int32)).toInt64)), .second, iv (3 : Int32), .unset] [])) (fun t k => XS.icmpNo X4.here hx rfl (hb hby d7_33) rfl (tlt hc33).2.1 k) ?_
  refine Wk.go (A' := T4.setTop (mkF m 38 #[rv ob, jv lim, .second, iv ((fB 1) &&& (127 : Int32)), jv (((0 : Int64) <<< ((8 : Int32) &&& 0x3f).toInt64) ||| (((fB 2) &&& (255 : Int32)).toInt64)), .second, iv (3 : Int32), .unset] [(.long (((0 : Int64) <<< ((8 : Int32) &&& 0x3f).toInt64) ||| (((fB 2) &&& (255 : Int32)).toInt64)))])) (fun t k => XS.lload X4.here hx rfl (hb hby d7_36) rfl k) ?_
  refine Wk.go (A' := T4.setTop (mkF m 40 #[rv ob, jv lim, .second, iv ((fB 1) &&& (127 : Int32)), jv (((0 : Int64) <<< ((8 : Int32) &&& 0x3f).toInt64) ||| (((fB 2) &&& (255 : Int32)).toInt64)), .second, iv (3 : Int32), .unset] [(.int (8 : Int32)), (.long (((0 : Int64) <<< ((8 : Int32) &&& 0x3f).toInt64) ||| (((fB 2) &&& (255 : Int32)).toInt64)))])) (fun t k => XS.bipush X4.here hx rfl (hb hby d7_38) k) ?_
  refine Wk.go (A' := T4.setTop (mkF m 41 #[rv ob, jv lim, .second, iv ((fB 1) &&& (127 : Int32)), jv (((0 : Int64) <<< ((8 : Int32) &&& 0x3f).toInt64) ||| (((fB 2) &&& (255 : Int32)).toInt64)), .second, iv (3 : Int32), .unset] [(.long ((((0 : Int64) <<< ((8 : Int32) &&& 0x3f).toInt64) ||| (((fB 2) &&& (255 : Int32)).toInt64)) <<< ((8 : Int32) &&& 0x3f).toInt64))])) (fun t k => XS.lshl X4.here hx rfl (hb hby d7_40) rfl k) ?_
  refine Wk.go (A' := T4.setTop (mkF m 42 #[rv ob, jv lim, .second, iv ((fB 1) &&& (127 : Int32)), jv (((0 : Int64) <<< ((8 : Int32) &&& 0x3f).toInt64) ||| (((fB 2) &&& (255 : Int32)).toInt64)), .second, iv (3 : Int32), .unset] [(.ref ob), (.long ((((0 : Int64) <<< ((8 : Int32) &&& 0x3f).toInt64) ||| (((fB 2) &&& (255 : Int32)).toInt64)) <<< ((8 : Int32) &&& 0x3f).toInt64))])) (fun t k => XS.aloadN X4.here hx rfl (hb hby d7_41) rfl rfl k) ?_
  obtain ⟨T5, X5, e5, st5⟩ := getF X4 hx hZ hown (host := "") (Or.inl (tw11 hw)) Via.refl (hE4) F_bytes (g := (mkF m 42 #[rv ob, jv lim, .second, iv ((fB 1) &&& (127 : Int32)), jv (((0 : Int64) <<< ((8 : Int32) &&& 0x3f).toInt64) ||| (((fB 2) &&& (255 : Int32)).toInt64)), .second, iv (3 : Int32), .unset] [(.ref ob), (.long ((((0 : Int64) <<< ((8 : Int32) &&& 0x3f).toInt64) ||| (((fB 2) &&& (255 : Int32)).toInt64)) <<< ((8 : Int32) &&& 0x3f).toInt64))])) rfl rfl (hb hby d7_42)
  refine Wk.go (A' := T5.setTop (mkF m 45 #[rv ob, jv lim, .second, iv ((fB 1) &&& (127 : Int32)), jv (((0 : Int64) <<< ((8 : Int32) &&& 0x3f).toInt64) ||| (((fB 2) &&& (255 : Int32)).toInt64)), .second, iv (3 : Int32), .unset] [(.ref ba), (.long ((((0 : Int64) <<< ((8 : Int32) &&& 0x3f).toInt64) ||| (((fB 2) &&& (255 : Int32)).toInt64)) <<< ((8 : Int32) &&& 0x3f).toInt64))])) (fun t k => st5 t k) ?_
  refine Wk.go (A' := T5.setTop (mkF m 47 #[rv ob, jv lim, .second, iv ((fB 1) &&& (127 : Int32)), jv (((0 : Int64) <<< ((8 : Int32) &&& 0x3f).toInt64) ||| (((fB 2) &&& (255 : Int32)).toInt64)), .second, iv (3 : Int32), .unset] [(.int (3 : Int32)), (.ref ba), (.long ((((0 : Int64) <<< ((8 : Int32) &&& 0x3f).toInt64) ||| (((fB 2) &&& (255 : Int32)).toInt64)) <<< ((8 : Int32) &&& 0x3f).toInt64))])) (fun t k => XS.iload X5.here hx rfl (hb hby d7_45) rfl k) ?_
  refine Wk.go (A' := T5.setTop (mkF m 48 #[rv ob, jv lim, .second, iv ((fB 1) &&& (127 : Int32)), jv (((0 : Int64) <<< ((8 : Int32) &&& 0x3f).toInt64) ||| (((fB 2) &&& (255 : Int32)).toInt64)), .second, iv (3 : Int32), .unset] [(.int (fB 3)), (.long ((((0 : Int64) <<< ((8 : Int32) &&& 0x3f).toInt64) ||| (((fB 2) &&& (255 : Int32)).toInt64)) <<< ((8 : Int32) &&& 0x3f).toInt64))])) (fun t k => own_ldB X5 hx hZ e5 VB (j := (3 : Int32)) (by decide) (g := (mkF m 47 #[rv ob, jv lim, .second, iv ((fB 1) &&& (127 : Int32)), jv (((0 : Int64) <<< ((8 : Int32) &&& 0x3f).toInt64) ||| (((fB 2) &&& (255 : Int32)).toInt64)), .second, iv (3 : Int32), .unset] [(.int (3 : Int32)), (.ref ba), (.long ((((0 : Int64) <<< ((8 : Int32) &&& 0x3f).toInt64) ||| (((fB 2) &&& (255 : Int32)).toInt64)) <<< ((8 : Int32) &&& 0x3f).toInt64))])) rfl rfl (hb hby d7_47) t k) ?_
  refine Wk.go (A' := T5.setTop (mkF m 51 #[rv ob, jv lim, .second, iv ((fB 1) &&& (127 : Int32)), jv (((0 : Int64) <<< ((8 : Int32) &&& 0x3f).toInt64) ||| (((fB 2) &&& (255 : Int32)).toInt64)), .second, iv (3 : Int32), .unset] [(.int (255 : Int32)), (.int (fB 3)), (.long ((((0 : Int64) <<< ((8 : Int32) &&& 0x3f).toInt64) ||| (((fB 2) &&& (255 : Int32)).toInt64)) <<< ((8 : Int32) &&& 0x3f).toInt64))])) (fun t k => XS.sipush X5.here hx rfl (hb hby d7_48) k) ?_
  refine Wk.go (A' := T5.setTop (mkF m 52 #[rv ob, jv lim, .second, iv ((fB 1) &&& (127 : Int32)), jv (((0 : Int64) <<< ((8 : Int32) &&& 0x3f).toInt64) ||| (((fB 2) &&& (255 : Int32)).toInt64)), .second, iv (3 : Int32), .unset] [(.int ((fB 3) &&& (255 : Int32))), (.long ((((0 : Int64) <<< ((8 : Int32) &&& 0x3f).toInt64) ||| (((fB 2) &&& (255 : Int32)).toInt64)) <<< ((8 : Int32) &&& 0x3f).toInt64))])) (fun t k => XS.iand X5.here hx rfl (hb hby d7_51) rfl k) ?_
  refine Wk.go (A' := T5.setTop (mkF m 53 #[rv ob, jv lim, .second, iv ((fB 1) &&& (127 : Int32)), jv (((0 : Int64) <<< ((8 : Int32) &&& 0x3f).toInt64) ||| (((fB 2) &&& (255 : Int32)).toInt64)), .second, iv (3 : Int32), .unset] [(.long (((fB 3) &&& (255 : Int32)).toInt64)), (.long ((((0 : Int64) <<< ((8 : Int32) &&& 0x3f).toInt64) ||| (((fB 2) &&& (255 : Int32)).toInt64)) <<< ((8 : Int32) &&& 0x3f).toInt64))])) (fun t k => XS.i2l X5.here hx rfl (hb hby d7_52) rfl k) ?_
  refine Wk.go (A' := T5.setTop (mkF m 54 #[rv ob, jv lim, .second, iv ((fB 1) &&& (127 : Int32)), jv (((0 : Int64) <<< ((8 : Int32) &&& 0x3f).toInt64) ||| (((fB 2) &&& (255 : Int32)).toInt64)), .second, iv (3 : Int32), .unset] [(.long (((((0 : Int64) <<< ((8 : Int32) &&& 0x3f).toInt64) ||| (((fB 2) &&& (255 : Int32)).toInt64)) <<< ((8 : Int32) &&& 0x3f).toInt64) ||| (((fB 3) &&& (255 : Int32)).toInt64)))])) (fun t k => XS.lor X5.here hx rfl (hb hby d7_53) rfl k) ?_
  refine Wk.go (A' := T5.setTop (mkF m 56 #[rv ob, jv lim, .second, iv ((fB 1) &&& (127 : Int32)), jv (((((0 : Int64) <<< ((8 : Int32) &&& 0x3f).toInt64) ||| (((fB 2) &&& (255 : Int32)).toInt64)) <<< ((8 : Int32) &&& 0x3f).toInt64) ||| (((fB 3) &&& (255 : Int32)).toInt64)), .second, iv (3 : Int32), .unset] [])) (fun t k => XS.lstore X5.here hx rfl (hb hby d7_54) rfl (l' := #[rv ob, jv lim, .second, iv ((fB 1) &&& (127 : Int32)), jv (((((0 : Int64) <<< ((8 : Int32) &&& 0x3f).toInt64) ||| (((fB 2) &&& (255 : Int32)).toInt64)) <<< ((8 : Int32) &&& 0x3f).toInt64) ||| (((fB 3) &&& (255 : Int32)).toInt64)), .second, iv (3 : Int32), .unset]) rfl k) ?_
  refine Wk.go (A' := T5.setTop (mkF m 59 #[rv ob, jv lim, .second, iv ((fB 1) &&& (127 : Int32)), jv (((((0 : Int64) <<< ((8 : Int32) &&& 0x3f).toInt64) ||| (((fB 2) &&& (255 : Int32)).toInt64)) <<< ((8 : Int32) &&& 0x3f).toInt64) ||| (((fB 3) &&& (255 : Int32)).toInt64)), .second, iv (4 : Int32), .unset] [])) (fun t k => XS.iinc X5.here hx rfl (hb hby d7_56) rfl (l' := #[rv ob, jv lim, .second, iv ((fB 1) &&& (127 : Int32)), jv (((((0 : Int64) <<< ((8 : Int32) &&& 0x3f).toInt64) ||| (((fB 2) &&& (255 : Int32)).toInt64)) <<< ((8 : Int32) &&& 0x3f).toInt64) ||| (((fB 3) &&& (255 : Int32)).toInt64)), .second, iv (4 : Int32), .unset]) rfl k) ?_
  refine Wk.go (A' := T5.setTop (mkF m 27 #[rv ob, jv lim, .second, iv ((fB 1) &&& (127 : Int32)), jv (((((0 : Int64) <<< ((8 : Int32) &&& 0x3f).toInt64) ||| (((fB 2) &&& (255 : Int32)).toInt64)) <<< ((8 : Int32) &&& 0x3f).toInt64) ||| (((fB 3) &&& (255 : Int32)).toInt64)), .second, iv (4 : Int32), .unset] [])) (fun t k => XS.goto X5.here hx rfl (pc0 := 59) (pc' := 27) rfl (hb hby d7_59) (by decide) (by decide) k) ?_
  refine Wk.go (A' := T5.setTop (mkF m 29 #[rv ob, jv lim, .second, iv ((fB 1) &&& (127 : Int32)), jv (((((0 : Int64) <<< ((8 : Int32) &&& 0x3f).toInt64) ||| (((fB 2) &&& (255 : Int32)).toInt64)) <<< ((8 : Int32) &&& 0x3f).toInt64) ||| (((fB 3) &&& (255 : Int32)).toInt64)), .second, iv (4 : Int32), .unset] [(.int (4 : Int32))])) (fun t k => XS.iload X5.here hx rfl (hb hby d7_27) rfl k) ?_
  refine Wk.go (A' := T5.setTop (mkF m 30 #[rv ob, jv lim, .second, iv ((fB 1) &&& (127 : Int32)), jv (((((0 : Int64) <<< ((8 : Int32) &&& 0x3f).toInt64) ||| (((fB 2) &&& (255 : Int32)).toInt64)) <<< ((8 : Int32) &&& 0x3f).toInt64) ||| (((fB 3) &&& (255 : Int32)).toInt64)), .second, iv (4 : Int32), .unset] [(.ref ob), (.int (4 : Int32))])) (fun t k => XS.aloadN X5.here hx rfl (hb hby d7_29) rfl rfl k) ?_
  obtain ⟨cq6, q6, q6'⟩ := E_ob.cell
  obtain ⟨_, _, ⟨T6, L6, k6, n6⟩, -, X6, ⟨Lc6, hQ6, l6, y6, z6⟩, st6⟩ := X5.privateBack hx (y := (⟨own_F, "lengthEnd", "()I"⟩ : MethodName)) hown (mvT hZ (tw23 hw)) (mvT hZ (tw24 hw)) (own_sel (mvT hZ (tw3 hw)) (Cond.privateMethod_at (mvP hZ (tw25 hw) (args := #[]))) (mvT hZ (tw24 hw)) (by decide)) (Cond.privateMethod_at (mvP hZ (tw25 hw) (args := #[]))) (mvT hZ (tw26 hw)) (by decide) (backOf (W := 1) (rm4 l Z a0 hw [] ob ba fB (4 : Int32) h0 n0 Z0 F_bytes F_count VB) hZ (tw26 hw) (tw4 hw) (by decide) (by decide)) (g := (mkF m 30 #[rv ob, jv lim, .second, iv ((fB 1) &&& (127 : Int32)), jv (((((0 : Int64) <<< ((8 : Int32) &&& 0x3f).toInt64) ||| (((fB 2) &&& (255 : Int32)).toInt64)) <<< ((8 : Int32) &&& 0x3f).toInt64) ||| (((fB 3) &&& (255 : Int32)).toInt64)), .second, iv (4 : Int32), .unset] [(.ref ob), (.int (4 : Int32))])) rfl (by rw [hml]; rfl) (Steps.refl _) (a := ob) (by rw [e5]; exact q6) q6' (argsL := []) (rest := [(.int (4 : Int32))]) (lenOf pd_1 rfl) rfl (by show 2 * 0 + _ ≤ _; exact Nat.le_of_eq rfl) (hb hby d7_30) (fun _ _ => ⟨rfl, e5, (by decide : 0 + 0 ≤ _), (by decide : 0 + 0 ≤ _)⟩)
  dsimp only [Pt.U, Pt.locs, Pt.cells, Pt.slots] at X6 l6 y6 z6 st6 hQ6
  subst l6 y6 z6
  obtain ⟨rfl, N6q, hE6⟩ := hQ6
  have N6 := Fr.app N4 N6q
  refine Wk.go (A' := T6.setTop (mkF m 33 #[rv ob, jv lim, .second, iv ((fB 1) &&& (127 : Int32)), jv (((((0 : Int64) <<< ((8 : Int32) &&& 0x3f).toInt64) ||| (((fB 2) &&& (255 : Int32)).toInt64)) <<< ((8 : Int32) &&& 0x3f).toInt64) ||| (((fB 3) &&& (255 : Int32)).toInt64)), .second, iv (4 : Int32), .unset] [(.int (f_lend ob ba fB (4 : Int32))), (.int (4 : Int32))])) (fun t k => st6.trans k) ?_
  rw [show (f_lend ob ba fB (4 : Int32)) = (4 : Int32) from own_l4 _ _ _ (by decide) cw]
  have hc33 : ¬ ((4 : Int32) < (4 : Int32)) := by decide
  refine Wk.go (A' := T6.setTop (mkF m 62 #[rv ob, jv lim, .second, iv ((fB 1) &&& (127 : Int32)), jv (((((0 : Int64) <<< ((8 : Int32) &&& 0x3f).toInt64) ||| (((fB 2) &&& (255 : Int32)).toInt64)) <<< ((8 : Int32) &&& 0x3f).toInt64) ||| (((fB 3) &&& (255 : Int32)).toInt64)), .second, iv (4 : Int32), .unset] [])) (fun t k => XS.icmpYes X6.here hx rfl (pc0 := 33) (pc' := 62) rfl (hb hby d7_33) rfl (flt hc33).2.1 (by decide) (by decide) k) ?_
  generalize hln : (((((0 : Int64) <<< ((8 : Int32) &&& 0x3f).toInt64) ||| (((fB 2) &&& (255 : Int32)).toInt64)) <<< ((8 : Int32) &&& 0x3f).toInt64) ||| (((fB 3) &&& (255 : Int32)).toInt64)) = ln
  have hln0 : ¬ (ln < (0 : Int64)) := by rw [← hln, Int64.lt_iff_toInt_lt]; have := own_ln4 (fB 2) (fB 3); have e0 : (0 : Int64).toInt = 0 := (by decide); omega
  refine Wk.go (A' := T6.setTop (mkF m 64 #[rv ob, jv lim, .second, iv ((fB 1) &&& (127 : Int32)), jv ln, .second, iv (4 : Int32), .unset] [(.long ln)])) (fun t k => XS.lload X6.here hx rfl (hb hby d7_62) rfl k) ?_
  refine Wk.go (A' := T6.setTop (mkF m 65 #[rv ob, jv lim, .second, iv ((fB 1) &&& (127 : Int32)), jv ln, .second, iv (4 : Int32), .unset] [(.long (0 : Int64)), (.long ln)])) (fun t k => XS.lconst X6.here hx rfl (hb hby d7_64) k) ?_
  refine Wk.go (A' := T6.setTop (mkF m 66 #[rv ob, jv lim, .second, iv ((fB 1) &&& (127 : Int32)), jv ln, .second, iv (4 : Int32), .unset] [(.int (lcmpW ln (0 : Int64)))])) (fun t k => XS.lcmp X6.here hx rfl (hb hby d7_65) rfl k) ?_
  have hc66 : ¬ (ln < (0 : Int64)) := hln0
  refine Wk.go (A' := T6.setTop (mkF m 75 #[rv ob, jv lim, .second, iv ((fB 1) &&& (127 : Int32)), jv ln, .second, iv (4 : Int32), .unset] [])) (fun t k => XS.ifYes X6.here hx rfl (pc0 := 66) (pc' := 75) rfl (hb hby d7_66) rfl ((if0 _ _).trans (flt (mt (lw_lt _ _).mp hc66)).2.1) (by decide) (by decide) k) ?_
  refine Wk.go (A' := T6.setTop (mkF m 76 #[rv ob, jv lim, .second, iv ((fB 1) &&& (127 : Int32)), jv ln, .second, iv (4 : Int32), .unset] [(.ref ob)])) (fun t k => XS.aloadN X6.here hx rfl (hb hby d7_75) rfl rfl k) ?_
  refine Wk.go (A' := T6.setTop (mkF m 78 #[rv ob, jv lim, .second, iv ((fB 1) &&& (127 : Int32)), jv ln, .second, iv (4 : Int32), .unset] [(.long ln), (.ref ob)])) (fun t k => XS.lload X6.here hx rfl (hb hby d7_76) rfl k) ?_
  obtain ⟨T7, h7, X7, e7, W7, st7⟩ := putF X6 hx hZ hown (host := "") (Or.inl (tw46 hw)) Via.refl (hE6) F_length E_ob (Or.inl (tw47 hw)) (tw3 hw) (ty := .long) (by decide) rfl rfl (g := (mkF m 78 #[rv ob, jv lim, .second, iv ((fB 1) &&& (127 : Int32)), jv ln, .second, iv (4 : Int32), .unset] [(.long ln), (.ref ob)])) rfl rfl (hb hby d7_78)
  have f8 := E_ob.wr W7
  have f9 := VB.other W7 (Ne.symm hne)
  have f10 := F_bytes.other W7 (Or.inr (sn_40 hw))
  have f11 := F_masked.other W7 (Or.inr (sn_41 hw))
  have f12 := F_count.other W7 (Or.inr (sn_42 hw))
  have f13 := F_opcode.other W7 (Or.inr (sn_43 hw))
  have f14 := F_last.other W7 (Or.inr (sn_44 hw))
  have f15 := F_open.other W7 (Or.inr (sn_45 hw))
  have f16 := F_length.same W7
  have f17 := F_maskAt.other W7 (Or.inr (sn_46 hw))
  have f18 := F_messageOpcode.other W7 (Or.inr (sn_47 hw))
  have f19 := F_messageBytes.other W7 (Or.inr (sn_48 hw))
  have f20 := F_dataLength.other W7 (Or.inr (sn_49 hw))
  have Zp7 : n0 ≤ h7.size := Nat.le_trans Z0 (Nat.le_of_eq W7.size.symm)
  have K7 := K0.wr W7 (Or.inl (List.mem_of_getElem? (i := 0) rfl))
  have N7 := Fr.snoc X7 N6 g_ob
  refine Wk.go (A' := T7.setTop (mkF m 81 #[rv ob, jv lim, .second, iv ((fB 1) &&& (127 : Int32)), jv ln, .second, iv (4 : Int32), .unset] [])) (fun t k => st7 t k) ?_
  refine Wk.go (A' := T7.setTop (mkF m 82 #[rv ob, jv lim, .second, iv ((fB 1) &&& (127 : Int32)), jv ln, .second, iv (4 : Int32), .unset] [(.ref ob)])) (fun t k => XS.aloadN X7.here hx rfl (hb hby d7_81) rfl rfl k) ?_
  refine Wk.go (A' := T7.setTop (mkF m 83 #[rv ob, jv lim, .second, iv ((fB 1) &&& (127 : Int32)), jv ln, .second, iv (4 : Int32), .unset] [(.ref ob), (.ref ob)])) (fun t k => XS.aloadN X7.here hx rfl (hb hby d7_82) rfl rfl k) ?_
  obtain ⟨cq21, q21, q21'⟩ := f8.cell
  obtain ⟨_, _, ⟨T21, L21, k21, n21⟩, -, X21, ⟨Lc21, hQ21, l21, y21, z21⟩, st21⟩ := X7.privateBack hx (y := (⟨own_F, "lengthEnd", "()I"⟩ : MethodName)) hown (mvT hZ (tw23 hw)) (mvT hZ (tw24 hw)) (own_sel (mvT hZ (tw3 hw)) (Cond.privateMethod_at (mvP hZ (tw25 hw) (args := #[]))) (mvT hZ (tw24 hw)) (by decide)) (Cond.privateMethod_at (mvP hZ (tw25 hw) (args := #[]))) (mvT hZ (tw26 hw)) (by decide) (backOf (W := 1) (rm4 l Z a0 hw [] ob ba fB (4 : Int32) h7 n0 Zp7 f10 f12 f9) hZ (tw26 hw) (tw4 hw) (by decide) (by decide)) (g := (mkF m 83 #[rv ob, jv lim, .second, iv ((fB 1) &&& (127 : Int32)), jv ln, .second, iv (4 : Int32), .unset] [(.ref ob), (.ref ob)])) rfl (by rw [hml]; rfl) (Steps.refl _) (a := ob) (by rw [e7]; exact q21) q21' (argsL := []) (rest := [(.ref ob)]) (lenOf pd_1 rfl) rfl (by show 2 * 0 + _ ≤ _; exact Nat.le_of_eq rfl) (hb hby d7_83) (fun _ _ => ⟨rfl, e7, (by decide : 0 + 0 ≤ _), (by decide : 0 + 0 ≤ _)⟩)
  dsimp only [Pt.U, Pt.locs, Pt.cells, Pt.slots] at X21 l21 y21 z21 st21 hQ21
  subst l21 y21 z21
  obtain ⟨rfl, N21q, hE21⟩ := hQ21
  have N21 := Fr.app N7 N21q
  refine Wk.go (A' := T21.setTop (mkF m 86 #[rv ob, jv lim, .second, iv ((fB 1) &&& (127 : Int32)), jv ln, .second, iv (4 : Int32), .unset] [(.int (f_lend ob ba fB (4 : Int32))), (.ref ob)])) (fun t k => st21.trans k) ?_
  rw [show (f_lend ob ba fB (4 : Int32)) = (4 : Int32) from own_l4 _ _ _ (by decide) cw]
  obtain ⟨T22, h22, X22, e22, W22, st22⟩ := putF X21 hx hZ hown (host := "") (Or.inl (tw48 hw)) Via.refl (hE21) f17 f8 (Or.inl (tw49 hw)) (tw3 hw) (ty := .int) (by decide) rfl rfl (g := (mkF m 86 #[rv ob, jv lim, .second, iv ((fB 1) &&& (127 : Int32)), jv ln, .second, iv (4 : Int32), .unset] [(.int (4 : Int32)), (.ref ob)])) rfl rfl (hb hby d7_86)
  have f23 := f8.wr W22
  have f24 := f9.other W22 (Ne.symm hne)
  have f25 := f10.other W22 (Or.inr (sn_50 hw))
  have f26 := f11.other W22 (Or.inr (sn_51 hw))
  have f27 := f12.other W22 (Or.inr (sn_52 hw))
  have f28 := f13.other W22 (Or.inr (sn_53 hw))
  have f29 := f14.other W22 (Or.inr (sn_54 hw))
  have f30 := f15.other W22 (Or.inr (sn_55 hw))
  have f31 := f16.other W22 (Or.inr (sn_56 hw))
  have f32 := f17.same W22
  have f33 := f18.other W22 (Or.inr (sn_57 hw))
  have f34 := f19.other W22 (Or.inr (sn_58 hw))
  have f35 := f20.other W22 (Or.inr (sn_59 hw))
  have Zp22 : n0 ≤ h22.size := Nat.le_trans Zp7 (Nat.le_of_eq W22.size.symm)
  have K22 := K7.wr W22 (Or.inl (List.mem_of_getElem? (i := 0) rfl))
  have N22 := Fr.snoc X22 N21 g_ob
  refine Wk.go (A' := T22.setTop (mkF m 89 #[rv ob, jv lim, .second, iv ((fB 1) &&& (127 : Int32)), jv ln, .second, iv (4 : Int32), .unset] [])) (fun t k => st22 t k) ?_
  refine Wk.go (A' := T22.setTop (mkF m 90 #[rv ob, jv lim, .second, iv ((fB 1) &&& (127 : Int32)), jv ln, .second, iv (4 : Int32), .unset] [(.ref ob)])) (fun t k => XS.aloadN X22.here hx rfl (hb hby d7_89) rfl rfl k) ?_
  obtain ⟨cq36, kq36, q36a, q36b, q36c⟩ := isOf hZ e22 f23
  obtain ⟨_, _, ⟨T36, L36, k36, n36⟩, -, X36, ⟨Lc36, hQ36, l36, y36, z36⟩, st36⟩ := X22.virtualBack hx (y := (⟨own_F, "isControl", "()Z"⟩ : MethodName)) (z := (⟨own_F, "isControl", "()Z"⟩ : MethodName)) hown (mvT hZ (tw35 hw)) (mvT hZ (tw36 hw)) (notFace_of_selects (args := #[]) (mvT hZ (tw38 hw))) (mvT hZ (tw38 hw)) (mvT hZ (tw37 hw)) (by decide) (backOf (W := 0) (rm6 l Z a0 hw [] ob (2 : Int32) h22 n0 Zp22 f28) hZ (tw39 hw) (tw4 hw) (by decide) (by decide)) q36a q36c (g := (mkF m 90 #[rv ob, jv lim, .second, iv ((fB 1) &&& (127 : Int32)), jv ln, .second, iv (4 : Int32), .unset] [(.ref ob)])) rfl (by rw [hml]; rfl) (Steps.refl _) (argsL := []) (rest := []) (lenOf pd_0 rfl) rfl (by show 2 * 0 + _ ≤ _; exact Nat.le_of_eq rfl) (hb hby d7_90) (fun _ _ => ⟨rfl, e22, (by decide : 0 + 0 ≤ _), (by decide : 0 + 0 ≤ _)⟩)
  dsimp only [Pt.U, Pt.locs, Pt.cells, Pt.slots] at X36 l36 y36 z36 st36 hQ36
  subst l36 y36 z36
  obtain ⟨rfl, N36q, hE36⟩ := hQ36
  have N36 := Fr.app N22 N36q
  refine Wk.go (A' := T36.setTop (mkF m 93 #[rv ob, jv lim, .second, iv ((fB 1) &&& (127 : Int32)), jv ln, .second, iv (4 : Int32), .unset] [(.int (f_ctl ob (2 : Int32)))])) (fun t k => st36.trans k) ?_
  rw [show (f_ctl ob (2 : Int32)) = (0 : Int32) from own_c2 _]
  have hc93 : (0 : Int32) = (0 : Int32) := by decide
  refine Wk.go (A' := T36.setTop (mkF m 97 #[rv ob, jv lim, .second, iv ((fB 1) &&& (127 : Int32)), jv ln, .second, iv (4 : Int32), .unset] [])) (fun t k => XS.ifYes X36.here hx rfl (pc0 := 93) (pc' := 97) rfl (hb hby d7_93) rfl ((if0 _ _).trans (teq hc93).1) (by decide) (by decide) k) ?_
  refine Wk.go (A' := T36.setTop (mkF m 98 #[rv ob, jv lim, .second, iv ((fB 1) &&& (127 : Int32)), jv ln, .second, iv (4 : Int32), .unset] [(.ref ob)])) (fun t k => XS.aloadN X36.here hx rfl (hb hby d7_97) rfl rfl k) ?_
  obtain ⟨T37, X37, e37, st37⟩ := getF X36 hx hZ hown (host := "") (Or.inl (tw31 hw)) Via.refl (hE36) f28 (g := (mkF m 98 #[rv ob, jv lim, .second, iv ((fB 1) &&& (127 : Int32)), jv ln, .second, iv (4 : Int32), .unset] [(.ref ob)])) rfl rfl (hb hby d7_98)
  refine Wk.go (A' := T37.setTop (mkF m 101 #[rv ob, jv lim, .second, iv ((fB 1) &&& (127 : Int32)), jv ln, .second, iv (4 : Int32), .unset] [(.int (2 : Int32))])) (fun t k => st37 t k) ?_
  have hc101 : ¬ ((2 : Int32) = (0 : Int32)) := by decide
  refine Wk.go (A' := T37.setTop (mkF m 116 #[rv ob, jv lim, .second, iv ((fB 1) &&& (127 : Int32)), jv ln, .second, iv (4 : Int32), .unset] [])) (fun t k => XS.ifYes X37.here hx rfl (pc0 := 101) (pc' := 116) rfl (hb hby d7_101) rfl ((if0 _ _).trans (feq hc101).2) (by decide) (by decide) k) ?_
  refine Wk.go (A' := T37.setTop (mkF m 117 #[rv ob, jv lim, .second, iv ((fB 1) &&& (127 : Int32)), jv ln, .second, iv (4 : Int32), .unset] [(.long (0 : Int64))])) (fun t k => XS.lconst X37.here hx rfl (hb hby d7_116) k) ?_
  refine Wk.go (A' := T37.setTop (mkF m 119 #[rv ob, jv lim, .second, iv ((fB 1) &&& (127 : Int32)), jv ln, .second, jv (0 : Int64), .second] [])) (fun t k => XS.lstore X37.here hx rfl (hb hby d7_117) rfl (l' := #[rv ob, jv lim, .second, iv ((fB 1) &&& (127 : Int32)), jv ln, .second, jv (0 : Int64), .second]) rfl k) ?_
  refine Wk.go (A' := T37.setTop (mkF m 121 #[rv ob, jv lim, .second, iv ((fB 1) &&& (127 : Int32)), jv ln, .second, jv (0 : Int64), .second] [(.long ln)])) (fun t k => XS.lload X37.here hx rfl (hb hby d7_119) rfl k) ?_
  refine Wk.go (A' := T37.setTop (mkF m 122 #[rv ob, jv lim, .second, iv ((fB 1) &&& (127 : Int32)), jv ln, .second, jv (0 : Int64), .second] [(.long lim), (.long ln)])) (fun t k => XS.lloadN X37.here hx rfl (hb hby d7_121) rfl k) ?_
  refine Wk.go (A' := T37.setTop (mkF m 123 #[rv ob, jv lim, .second, iv ((fB 1) &&& (127 : Int32)), jv ln, .second, jv (0 : Int64), .second] [(.int (lcmpW ln lim))])) (fun t k => XS.lcmp X37.here hx rfl (hb hby d7_122) rfl k) ?_
  have hc123 : ¬ (lim < ln) := own_max _ hl
  refine Wk.go (A' := T37.setTop (mkF m 126 #[rv ob, jv lim, .second, iv ((fB 1) &&& (127 : Int32)), jv ln, .second, jv (0 : Int64), .second] [])) (fun t k => XS.ifNo X37.here hx rfl (hb hby d7_123) rfl ((if0 _ _).trans (flt (mt (lw_gt _ _).mp hc123)).2.2.1) k) ?_
  refine Wk.go (A' := T37.setTop (mkF m 128 #[rv ob, jv lim, .second, iv ((fB 1) &&& (127 : Int32)), jv ln, .second, jv (0 : Int64), .second] [(.long (0 : Int64))])) (fun t k => XS.lload X37.here hx rfl (hb hby d7_126) rfl k) ?_
  refine Wk.go (A' := T37.setTop (mkF m 130 #[rv ob, jv lim, .second, iv ((fB 1) &&& (127 : Int32)), jv ln, .second, jv (0 : Int64), .second] [(.long ln), (.long (0 : Int64))])) (fun t k => XS.lload X37.here hx rfl (hb hby d7_128) rfl k) ?_
  refine Wk.go (A' := T37.setTop (mkF m 131 #[rv ob, jv lim, .second, iv ((fB 1) &&& (127 : Int32)), jv ln, .second, jv (0 : Int64), .second] [(.long ((0 : Int64) + ln))])) (fun t k => XS.ladd X37.here hx rfl (hb hby d7_130) rfl k) ?_
  refine Wk.go (A' := T37.setTop (mkF m 132 #[rv ob, jv lim, .second, iv ((fB 1) &&& (127 : Int32)), jv ln, .second, jv (0 : Int64), .second] [(.long lim), (.long ((0 : Int64) + ln))])) (fun t k => XS.lloadN X37.here hx rfl (hb hby d7_131) rfl k) ?_
  refine Wk.go (A' := T37.setTop (mkF m 133 #[rv ob, jv lim, .second, iv ((fB 1) &&& (127 : Int32)), jv ln, .second, jv (0 : Int64), .second] [(.int (lcmpW ((0 : Int64) + ln) lim))])) (fun t k => XS.lcmp X37.here hx rfl (hb hby d7_132) rfl k) ?_
  have hc133 : ¬ (lim < ((0 : Int64) + ln)) := own_max _ hl
  refine Wk.go (A' := T37.setTop (mkF m 153 #[rv ob, jv lim, .second, iv ((fB 1) &&& (127 : Int32)), jv ln, .second, jv (0 : Int64), .second] [])) (fun t k => XS.ifYes X37.here hx rfl (pc0 := 133) (pc' := 153) rfl (hb hby d7_133) rfl ((if0 _ _).trans (flt (mt (lw_gt _ _).mp hc133)).2.2.2) (by decide) (by decide) k) ?_
  refine Wk.go (A' := T37.setTop (mkF m 154 #[rv ob, jv lim, .second, iv ((fB 1) &&& (127 : Int32)), jv ln, .second, jv (0 : Int64), .second] [(.ref ob)])) (fun t k => XS.aloadN X37.here hx rfl (hb hby d7_153) rfl rfl k) ?_
  obtain ⟨T38, X38, e38, st38⟩ := getF X37 hx hZ hown (host := "") (Or.inl (tw31 hw)) Via.refl e37 f28 (g := (mkF m 154 #[rv ob, jv lim, .second, iv ((fB 1) &&& (127 : Int32)), jv ln, .second, jv (0 : Int64), .second] [(.ref ob)])) rfl rfl (hb hby d7_154)
  refine Wk.go (A' := T38.setTop (mkF m 157 #[rv ob, jv lim, .second, iv ((fB 1) &&& (127 : Int32)), jv ln, .second, jv (0 : Int64), .second] [(.int (2 : Int32))])) (fun t k => st38 t k) ?_
  have hc157 : ¬ ((2 : Int32) = (0 : Int32)) := by decide
  refine Wk.go (A' := T38.setTop (mkF m 160 #[rv ob, jv lim, .second, iv ((fB 1) &&& (127 : Int32)), jv ln, .second, jv (0 : Int64), .second] [])) (fun t k => XS.ifNo X38.here hx rfl (hb hby d7_157) rfl ((if0 _ _).trans (feq hc157).1) k) ?_
  refine Wk.go (A' := T38.setTop (mkF m 161 #[rv ob, jv lim, .second, iv ((fB 1) &&& (127 : Int32)), jv ln, .second, jv (0 : Int64), .second] [(.ref ob)])) (fun t k => XS.aloadN X38.here hx rfl (hb hby d7_160) rfl rfl k) ?_
  refine Wk.go (A' := T38.setTop (mkF m 162 #[rv ob, jv lim, .second, iv ((fB 1) &&& (127 : Int32)), jv ln, .second, jv (0 : Int64), .second] [(.ref ob), (.ref ob)])) (fun t k => XS.aloadN X38.here hx rfl (hb hby d7_161) rfl rfl k) ?_
  obtain ⟨T39, X39, e39, st39⟩ := getF X38 hx hZ hown (host := "") (Or.inl (tw31 hw)) Via.refl e38 f28 (g := (mkF m 162 #[rv ob, jv lim, .second, iv ((fB 1) &&& (127 : Int32)), jv ln, .second, jv (0 : Int64), .second] [(.ref ob), (.ref ob)])) rfl rfl (hb hby d7_162)
  refine Wk.go (A' := T39.setTop (mkF m 165 #[rv ob, jv lim, .second, iv ((fB 1) &&& (127 : Int32)), jv ln, .second, jv (0 : Int64), .second] [(.int (2 : Int32)), (.ref ob)])) (fun t k => st39 t k) ?_
  obtain ⟨T40, h40, X40, e40, W40, st40⟩ := putF X39 hx hZ hown (host := "") (Or.inl (tw50 hw)) Via.refl e39 f33 f23 (Or.inl (tw51 hw)) (tw3 hw) (ty := .int) (by decide) rfl rfl (g := (mkF m 165 #[rv ob, jv lim, .second, iv ((fB 1) &&& (127 : Int32)), jv ln, .second, jv (0 : Int64), .second] [(.int (2 : Int32)), (.ref ob)])) rfl rfl (hb hby d7_165)
  have f41 := f23.wr W40
  have f42 := f24.other W40 (Ne.symm hne)
  have f43 := f25.other W40 (Or.inr (sn_60 hw))
  have f44 := f26.other W40 (Or.inr (sn_61 hw))
  have f45 := f27.other W40 (Or.inr (sn_62 hw))
  have f46 := f28.other W40 (Or.inr (sn_63 hw))
  have f47 := f29.other W40 (Or.inr (sn_64 hw))
  have f48 := f30.other W40 (Or.inr (sn_65 hw))
  have f49 := f31.other W40 (Or.inr (sn_66 hw))
  have f50 := f32.other W40 (Or.inr (sn_67 hw))
  have f51 := f33.same W40
  have f52 := f34.other W40 (Or.inr (sn_68 hw))
  have f53 := f35.other W40 (Or.inr (sn_69 hw))
  have Zp40 : n0 ≤ h40.size := Nat.le_trans Zp22 (Nat.le_of_eq W40.size.symm)
  have K40 := K22.wr W40 (Or.inl (List.mem_of_getElem? (i := 0) rfl))
  have N40 := Fr.snoc X40 N36 g_ob
  refine Wk.go (A' := T40.setTop (mkF m 168 #[rv ob, jv lim, .second, iv ((fB 1) &&& (127 : Int32)), jv ln, .second, jv (0 : Int64), .second] [])) (fun t k => st40 t k) ?_
  refine Wk.go (A' := T40.setTop (mkF m 169 #[rv ob, jv lim, .second, iv ((fB 1) &&& (127 : Int32)), jv ln, .second, jv (0 : Int64), .second] [(.ref ob)])) (fun t k => XS.aloadN X40.here hx rfl (hb hby d7_168) rfl rfl k) ?_
  refine Wk.go (A' := T40.setTop (mkF m 171 #[rv ob, jv lim, .second, iv ((fB 1) &&& (127 : Int32)), jv ln, .second, jv (0 : Int64), .second] [(.long (0 : Int64)), (.ref ob)])) (fun t k => XS.lload X40.here hx rfl (hb hby d7_169) rfl k) ?_
  obtain ⟨T54, h54, X54, e54, W54, st54⟩ := putF X40 hx hZ hown (host := "") (Or.inl (tw52 hw)) Via.refl e40 f52 f41 (Or.inl (tw53 hw)) (tw3 hw) (ty := .long) (by decide) rfl rfl (g := (mkF m 171 #[rv ob, jv lim, .second, iv ((fB 1) &&& (127 : Int32)), jv ln, .second, jv (0 : Int64), .second] [(.long (0 : Int64)), (.ref ob)])) rfl rfl (hb hby d7_171)
  have f55 := f41.wr W54
  have f56 := f42.other W54 (Ne.symm hne)
  have f57 := f43.other W54 (Or.inr (sn_70 hw))
  have f58 := f44.other W54 (Or.inr (sn_71 hw))
  have f59 := f45.other W54 (Or.inr (sn_72 hw))
  have f60 := f46.other W54 (Or.inr (sn_73 hw))
  have f61 := f47.other W54 (Or.inr (sn_74 hw))
  have f62 := f48.other W54 (Or.inr (sn_75 hw))
  have f63 := f49.other W54 (Or.inr (sn_76 hw))
  have f64 := f50.other W54 (Or.inr (sn_77 hw))
  have f65 := f51.other W54 (Or.inr (sn_78 hw))
  have f66 := f52.same W54
  have f67 := f53.other W54 (Or.inr (sn_79 hw))
  have Zp54 : n0 ≤ h54.size := Nat.le_trans Zp40 (Nat.le_of_eq W54.size.symm)
  have K54 := K40.wr W54 (Or.inl (List.mem_of_getElem? (i := 0) rfl))
  have N54 := Fr.snoc X54 N40 g_ob
  refine Wk.go (A' := T54.setTop (mkF m 174 #[rv ob, jv lim, .second, iv ((fB 1) &&& (127 : Int32)), jv ln, .second, jv (0 : Int64), .second] [])) (fun t k => st54 t k) ?_
  refine Wk.go (A' := T54.setTop (mkF m 175 #[rv ob, jv lim, .second, iv ((fB 1) &&& (127 : Int32)), jv ln, .second, jv (0 : Int64), .second] [(.ref ob)])) (fun t k => XS.aloadN X54.here hx rfl (hb hby d7_174) rfl rfl k) ?_
  refine Wk.go (A' := T54.setTop (mkF m 177 #[rv ob, jv lim, .second, iv ((fB 1) &&& (127 : Int32)), jv ln, .second, jv (0 : Int64), .second] [(.long ln), (.ref ob)])) (fun t k => XS.lload X54.here hx rfl (hb hby d7_175) rfl k) ?_
  obtain ⟨T68, h68, X68, e68, W68, st68⟩ := putF X54 hx hZ hown (host := "") (Or.inl (tw54 hw)) Via.refl e54 f67 f55 (Or.inl (tw55 hw)) (tw3 hw) (ty := .long) (by decide) rfl rfl (g := (mkF m 177 #[rv ob, jv lim, .second, iv ((fB 1) &&& (127 : Int32)), jv ln, .second, jv (0 : Int64), .second] [(.long ln), (.ref ob)])) rfl rfl (hb hby d7_177)
  have f69 := f55.wr W68
  have f70 := f56.other W68 (Ne.symm hne)
  have f71 := f57.other W68 (Or.inr (sn_80 hw))
  have f72 := f58.other W68 (Or.inr (sn_81 hw))
  have f73 := f59.other W68 (Or.inr (sn_82 hw))
  have f74 := f60.other W68 (Or.inr (sn_83 hw))
  have f75 := f61.other W68 (Or.inr (sn_84 hw))
  have f76 := f62.other W68 (Or.inr (sn_85 hw))
  have f77 := f63.other W68 (Or.inr (sn_86 hw))
  have f78 := f64.other W68 (Or.inr (sn_87 hw))
  have f79 := f65.other W68 (Or.inr (sn_88 hw))
  have f80 := f66.other W68 (Or.inr (sn_89 hw))
  have f81 := f67.same W68
  have Zp68 : n0 ≤ h68.size := Nat.le_trans Zp54 (Nat.le_of_eq W68.size.symm)
  have K68 := K54.wr W68 (Or.inl (List.mem_of_getElem? (i := 0) rfl))
  have N68 := Fr.snoc X68 N54 g_ob
  refine Wk.go (A' := T68.setTop (mkF m 180 #[rv ob, jv lim, .second, iv ((fB 1) &&& (127 : Int32)), jv ln, .second, jv (0 : Int64), .second] [])) (fun t k => st68 t k) ?_
  refine Wk.go (A' := T68.setTop (mkF m 181 #[rv ob, jv lim, .second, iv ((fB 1) &&& (127 : Int32)), jv ln, .second, jv (0 : Int64), .second] [(.ref ob)])) (fun t k => XS.aloadN X68.here hx rfl (hb hby d7_180) rfl rfl k) ?_
  refine Wk.go (A' := T68.setTop (mkF m 182 #[rv ob, jv lim, .second, iv ((fB 1) &&& (127 : Int32)), jv ln, .second, jv (0 : Int64), .second] [(.ref ob), (.ref ob)])) (fun t k => XS.aloadN X68.here hx rfl (hb hby d7_181) rfl rfl k) ?_
  obtain ⟨T82, X82, e82, st82⟩ := getF X68 hx hZ hown (host := "") (Or.inl (tw33 hw)) Via.refl e68 f75 (g := (mkF m 182 #[rv ob, jv lim, .second, iv ((fB 1) &&& (127 : Int32)), jv ln, .second, jv (0 : Int64), .second] [(.ref ob), (.ref ob)])) rfl rfl (hb hby d7_182)
  refine Wk.go (A' := T82.setTop (mkF m 185 #[rv ob, jv lim, .second, iv ((fB 1) &&& (127 : Int32)), jv ln, .second, jv (0 : Int64), .second] [(.int (1 : Int32)), (.ref ob)])) (fun t k => st82 t k) ?_
  have hc185 : ¬ ((1 : Int32) = (0 : Int32)) := by decide
  refine Wk.go (A' := T82.setTop (mkF m 192 #[rv ob, jv lim, .second, iv ((fB 1) &&& (127 : Int32)), jv ln, .second, jv (0 : Int64), .second] [(.ref ob)])) (fun t k => XS.ifYes X82.here hx rfl (pc0 := 185) (pc' := 192) rfl (hb hby d7_185) rfl ((if0 _ _).trans (feq hc185).2) (by decide) (by decide) k) ?_
  refine Wk.go (A' := T82.setTop (mkF m 193 #[rv ob, jv lim, .second, iv ((fB 1) &&& (127 : Int32)), jv ln, .second, jv (0 : Int64), .second] [(.int (0 : Int32)), (.ref ob)])) (fun t k => XS.iconst X82.here hx rfl (hb hby d7_192) k) ?_
  obtain ⟨T83, h83, X83, e83, W83, st83⟩ := putFN X82 hx hZ hown (tw40 hw) Via.refl e82 f76 f69 (Or.inl (tw41 hw)) (tw3 hw) (ty := .boolean) (v' := (.int (0 : Int32))) (by decide) rfl (fits_nar_bool (0 : Int32)) (g := (mkF m 193 #[rv ob, jv lim, .second, iv ((fB 1) &&& (127 : Int32)), jv ln, .second, jv (0 : Int64), .second] [(.int (0 : Int32)), (.ref ob)])) rfl rfl (hb hby d7_193)
  have f84 := f69.wr W83
  have f85 := f70.other W83 (Ne.symm hne)
  have f86 := f71.other W83 (Or.inr (sn_90 hw))
  have f87 := f72.other W83 (Or.inr (sn_91 hw))
  have f88 := f73.other W83 (Or.inr (sn_92 hw))
  have f89 := f74.other W83 (Or.inr (sn_93 hw))
  have f90 := f75.other W83 (Or.inr (sn_94 hw))
  have f91 := f76.same W83
  have f92 := f77.other W83 (Or.inr (sn_95 hw))
  have f93 := f78.other W83 (Or.inr (sn_96 hw))
  have f94 := f79.other W83 (Or.inr (sn_97 hw))
  have f95 := f80.other W83 (Or.inr (sn_98 hw))
  have f96 := f81.other W83 (Or.inr (sn_99 hw))
  have Zp83 : n0 ≤ h83.size := Nat.le_trans Zp68 (Nat.le_of_eq W83.size.symm)
  have K83 := K68.wr W83 (Or.inl (List.mem_of_getElem? (i := 0) rfl))
  have N83 := Fr.snoc X83 N68 g_ob
  refine Wk.go (A' := T83.setTop (mkF m 196 #[rv ob, jv lim, .second, iv ((fB 1) &&& (127 : Int32)), jv ln, .second, jv (0 : Int64), .second] [])) (fun t k => st83 t k) ?_
  refine own_fin (Qv := Q7wu Z ob lim ba fB h0 n0) (v := none) X83 hlk (fun _ => rfl) (fun fs hr => X83.returnOut hx Bd.returns (hb hby d7_196) hr) ?_ (by decide) (by decide)
  show Q7wu Z ob lim ba fB h0 n0 _ T83.heap _
  rw [e83]
  exact ⟨_, rfl, N83, K83, f84, f86, f87, f88, f89, f90, f91, f92, f93, f94, f95, f96, f85⟩
theorem ef_7wm (m : MethodId) (x0 : Addr) (x1 : Int64) : entryFrame m #[(.ref x0), (.long x1)] 8 = mkF m 0 #[rv x0, jv x1, .second, .unset, .unset, .unset, .unset, .unset] [] := by first | (simp [entryFrame, mkF, argsToLocals, Value.category]; done) | rfl
def Q7wm (Z : State) (ob : Addr) (lim : Int64) (ba : Addr) (fB : Nat → Int32) (h0 : Heap) (n0 : Nat) (v : Option Value) (h : Heap) (L : List Loc) : Prop := ∃ lnQ : Int64, v = none ∧ Fr n0 L ∧ Keep h0 h [ob, ba] ∧ Exa Z h ob own_F ∧ Fld Z h ob own_F "bytes" "[B" (.ref ba) ∧ Fld Z h ob own_F "masked" "Z" (.int (1 : Int32)) ∧ Fld Z h ob own_F "count" "I" (.int (4 : Int32)) ∧ Fld Z h ob own_F "opcode" "I" (.int (2 : Int32)) ∧ Fld Z h ob own_F "last" "Z" (.int (1 : Int32)) ∧ Fld Z h ob own_F "open" "Z" (.int (0 : Int32)) ∧ Fld Z h ob own_F "length" "J" (.long lnQ) ∧ Fld Z h ob own_F "maskAt" "I" (.int (4 : Int32)) ∧ Fld Z h ob own_F "messageOpcode" "I" (.int (2 : Int32)) ∧ Fld Z h ob own_F "messageBytes" "J" (.long (0 : Int64)) ∧ Fld Z h ob own_F "dataLength" "J" (.long lnQ) ∧ BA Z h ba 14 fB
set_option maxRecDepth 65536 in
set_option maxHeartbeats 40000000 in
theorem rm7wm (l : Launch) (Z : State) (a0 : Array Value) (hw : ∀ d ∈ tables_1, d.before a0 Z = true) (ws : List Jvm.Cond) (ob : Addr) (lim : Int64) (ba : Addr) (fB : Nat → Int32) (h0 : Heap) (n0 : Nat) (Z0 : n0 ≤ h0.size) (E_ob : Exa Z h0 ob own_F) (F_bytes : Fld Z h0 ob own_F "bytes" "[B" (.ref ba)) (F_masked : Fld Z h0 ob own_F "masked" "Z" (.int (1 : Int32))) (F_count : Fld Z h0 ob own_F "count" "I" (.int (4 : Int32))) (F_opcode : Fld Z h0 ob own_F "opcode" "I" (.int (2 : Int32))) (F_last : Fld Z h0 ob own_F "last" "Z" (.int (1 : Int32))) (F_open : Fld Z h0 ob own_F "open" "Z" (.int (0 : Int32))) (F_length : Fld Z h0 ob own_F "length" "J" (.long (0 : Int64))) (F_maskAt : Fld Z h0 ob own_F "maskAt" "I" (.int (0 : Int32))) (F_messageOpcode : Fld Z h0 ob own_F "messageOpcode" "I" (.int (0 : Int32))) (F_messageBytes : Fld Z h0 ob own_F "messageBytes" "J" (.long (0 : Int64))) (F_dataLength : Fld Z h0 ob own_F "dataLength" "J" (.long (0 : Int64))) (VB : BA Z h0 ba 14 fB) (hne : ob ≠ ba) (g_ob : n0 ≤ ob) (g_ba : n0 ≤ ba) (hl : lim = (9223372036854775807 : Int64)) (cw : (fB 1 &&& (127 : Int32)) = (126 : Int32)) :
    MetFree l (⟨own_F, "announce", "(J)V"⟩ : MethodName) (head1 (Jvm.Cond.code (⟨own_F, "announce", "(J)V"⟩ : MethodName) prog_100_method_11_code 8 none :: ws) ({ frames := 1, cells := 0, slots := 0, locals := 14 } : Room)) (fun a U => a = #[(.ref ob), (.long lim)] ∧ Z.Warmed39 U.vm ∧ U.heap = h0) (fun _ _ _ _ _ => True) (fun _ U o U' => ∃ v L, o = .returned v ∧ Q7wm Z ob lim ba fB h0 n0 v U'.heap L ∧ FrameEnd U o U' L ({ frames := 1, cells := 0, slots := 0, locals := 14 } : Room).cells ({ frames := 1, cells := 0, slots := 0, locals := 14 } : Room).slots) := by
  refine MetFree.of_bodySF (plainFor_of_name pn_0) hisR ?_
  intro p e s m args below meth c s₁ Bd hml0 hP hK
  obtain ⟨rfl, hZ, hh⟩ := hP
  have hx := Bd.exec
  have hby := Bd.bytes
  have hml : c.maxLocals = 8 := hml0
  have hown : s.vm.findClass own_F = some m.cls := findClass_of_methodNamed Bd.named
  have hnm := (name_of_methodNamed Bd.named Bd.method).1
  have X0 : Stand p l e ({ frames := 1, cells := 0, slots := 0, locals := 14 } : Room) s m #[(.ref ob), (.long lim)] below meth c s₁ [] 0 0 := Stand.of_body Bd
  have e0 : s₁.heap = h0 := by rw [← hh, Bd.state]; rfl
  have N0 := Fr.nil n0
  have hlk : meth.locks = false := BodyLoose.notSynchronized Bd
  suffices hwk : Wk p.tables e below (s₁.setTop (mkF m 0 #[rv ob, jv lim, .second, .unset, .unset, .unset, .unset, .unset] [])) (fun U o => U.status = .running ∧ Ended U below o ∧ ∃ v L, o = .returned v ∧ Q7wm Z ob lim ba fB h0 n0 v U.heap L ∧ FrameEnd s o U L 0 0) by
    obtain ⟨U, o, k1, k2⟩ := hwk
    exact ⟨U, o, castTop (ef_7wm m ob lim) k1, k2⟩
  have K0 := Keep.refl h0 [ob, ba]
  refine Wk.go (A' := s₁.setTop (mkF m 1 #[rv ob, jv lim, .second, .unset, .unset, .unset, .unset, .unset] [(.ref ob)])) (fun t k => XS.aloadN X0.here hx rfl (hb hby d7_0) rfl rfl k) ?_
  obtain ⟨T1, X1, e1, st1⟩ := getF X0 hx hZ hown (host := "") (Or.inl (tw11 hw)) Via.refl e0 F_bytes (g := (mkF m 1 #[rv ob, jv lim, .second, .unset, .unset, .unset, .unset, .unset] [(.ref ob)])) rfl rfl (hb hby d7_1)
  refine Wk.go (A' := T1.setTop (mkF m 4 #[rv ob, jv lim, .second, .unset, .unset, .unset, .unset, .unset] [(.ref ba)])) (fun t k => st1 t k) ?_
  refine Wk.go (A' := T1.setTop (mkF m 5 #[rv ob, jv lim, .second, .unset, .unset, .unset, .unset, .unset] [(.int (1 : Int32)), (.ref ba)])) (fun t k => XS.iconst X1.here hx rfl (hb hby d7_4) k) ?_
  refine Wk.go (A' := T1.setTop (mkF m 6 #[rv ob, jv lim, .second, .unset, .unset, .unset, .unset, .unset] [(.int (fB 1))])) (fun t k => own_ldB X1 hx hZ e1 VB (j := (1 : Int32)) (by decide) (g := (mkF m 5 #[rv ob, jv lim, .second, .unset, .unset, .unset, .unset, .unset] [(.int (1 : Int32)), (.ref ba)])) rfl rfl (hb hby d7_5) t k) ?_
  refine Wk.go (A' := T1.setTop (mkF m 8 #[rv ob, jv lim, .second, .unset, .unset, .unset, .unset, .unset] [(.int (127 : Int32)), (.int (fB 1))])) (fun t k => XS.bipush X1.here hx rfl (hb hby d7_6) k) ?_
  refine Wk.go (A' := T1.setTop (mkF m 9 #[rv ob, jv lim, .second, .unset, .unset, .unset, .unset, .unset] [(.int ((fB 1) &&& (127 : Int32)))])) (fun t k => XS.iand X1.here hx rfl (hb hby d7_8) rfl k) ?_
  refine Wk.go (A' := T1.setTop (mkF m 10 #[rv ob, jv lim, .second, iv ((fB 1) &&& (127 : Int32)), .unset, .unset, .unset, .unset] [])) (fun t k => XS.istoreN X1.here hx rfl (hb hby d7_9) rfl (l' := #[rv ob, jv lim, .second, iv ((fB 1) &&& (127 : Int32)), .unset, .unset, .unset, .unset]) rfl k) ?_
  refine Wk.go (A' := T1.setTop (mkF m 11 #[rv ob, jv lim, .second, iv ((fB 1) &&& (127 : Int32)), .unset, .unset, .unset, .unset] [(.int ((fB 1) &&& (127 : Int32)))])) (fun t k => XS.iloadN X1.here hx rfl (hb hby d7_10) rfl k) ?_
  refine Wk.go (A' := T1.setTop (mkF m 13 #[rv ob, jv lim, .second, iv ((fB 1) &&& (127 : Int32)), .unset, .unset, .unset, .unset] [(.int (126 : Int32)), (.int ((fB 1) &&& (127 : Int32)))])) (fun t k => XS.bipush X1.here hx rfl (hb hby d7_11) k) ?_
  have hc13 : ¬ (((fB 1) &&& (127 : Int32)) < (126 : Int32)) := by rw [cw]; decide
  refine Wk.go (A' := T1.setTop (mkF m 21 #[rv ob, jv lim, .second, iv ((fB 1) &&& (127 : Int32)), .unset, .unset, .unset, .unset] [])) (fun t k => XS.icmpYes X1.here hx rfl (pc0 := 13) (pc' := 21) rfl (hb hby d7_13) rfl (flt hc13).2.1 (by decide) (by decide) k) ?_
  refine Wk.go (A' := T1.setTop (mkF m 22 #[rv ob, jv lim, .second, iv ((fB 1) &&& (127 : Int32)), .unset, .unset, .unset, .unset] [(.long (0 : Int64))])) (fun t k => XS.lconst X1.here hx rfl (hb hby d7_21) k) ?_
  refine Wk.go (A' := T1.setTop (mkF m 24 #[rv ob, jv lim, .second, iv ((fB 1) &&& (127 : Int32)), jv (0 : Int64), .second, .unset, .unset] [])) (fun t k => XS.lstore X1.here hx rfl (hb hby d7_22) rfl (l' := #[rv ob, jv lim, .second, iv ((fB 1) &&& (127 : Int32)), jv (0 : Int64), .second, .unset, .unset]) rfl k) ?_
  refine Wk.go (A' := T1.setTop (mkF m 25 #[rv ob, jv lim, .second, iv ((fB 1) &&& (127 : Int32)), jv (0 : Int64), .second, .unset, .unset] [(.int (2 : Int32))])) (fun t k => XS.iconst X1.here hx rfl (hb hby d7_24) k) ?_
  refine Wk.go (A' := T1.setTop (mkF m 27 #[rv ob, jv lim, .second, iv ((fB 1) &&& (127 : Int32)), jv (0 : Int64), .second, iv (2 : Int32), .unset] [])) (fun t k => XS.istore X1.here hx rfl (hb hby d7_25) rfl (l' := #[rv ob, jv lim, .second, iv ((fB 1) &&& (127 : Int32)), jv (0 : Int64), .second, iv (2 : Int32), .unset]) rfl k) ?_
  refine Wk.go (A' := T1.setTop (mkF m 29 #[rv ob, jv lim, .second, iv ((fB 1) &&& (127 : Int32)), jv (0 : Int64), .second, iv (2 : Int32), .unset] [(.int (2 : Int32))])) (fun t k => XS.iload X1.here hx rfl (hb hby d7_27) rfl k) ?_
  refine Wk.go (A' := T1.setTop (mkF m 30 #[rv ob, jv lim, .second, iv ((fB 1) &&& (127 : Int32)), jv (0 : Int64), .second, iv (2 : Int32), .unset] [(.ref ob), (.int (2 : Int32))])) (fun t k => XS.aloadN X1.here hx rfl (hb hby d7_29) rfl rfl k) ?_
  obtain ⟨cq2, q2, q2'⟩ := E_ob.cell
  obtain ⟨_, _, ⟨T2, L2, k2, n2⟩, -, X2, ⟨Lc2, hQ2, l2, y2, z2⟩, st2⟩ := X1.privateBack hx (y := (⟨own_F, "lengthEnd", "()I"⟩ : MethodName)) hown (mvT hZ (tw23 hw)) (mvT hZ (tw24 hw)) (own_sel (mvT hZ (tw3 hw)) (Cond.privateMethod_at (mvP hZ (tw25 hw) (args := #[]))) (mvT hZ (tw24 hw)) (by decide)) (Cond.privateMethod_at (mvP hZ (tw25 hw) (args := #[]))) (mvT hZ (tw26 hw)) (by decide) (backOf (W := 1) (rm4 l Z a0 hw [] ob ba fB (4 : Int32) h0 n0 Z0 F_bytes F_count VB) hZ (tw26 hw) (tw4 hw) (by decide) (by decide)) (g := (mkF m 30 #[rv ob, jv lim, .second, iv ((fB 1) &&& (127 : Int32)), jv (0 : Int64), .second, iv (2 : Int32), .unset] [(.ref ob), (.int (2 : Int32))])) rfl (by rw [hml]; rfl) (Steps.refl _) (a := ob) (by rw [e1]; exact q2) q2' (argsL := []) (rest := [(.int (2 : Int32))]) (lenOf pd_1 rfl) rfl (by show 2 * 0 + _ ≤ _; exact Nat.le_of_eq rfl) (hb hby d7_30) (fun _ _ => ⟨rfl, e1, (by decide : 0 + 0 ≤ _), (by decide : 0 + 0 ≤ _)⟩)
  dsimp only [Pt.U, Pt.locs, Pt.cells, Pt.slots] at X2 l2 y2 z2 st2 hQ2
  subst l2 y2 z2
  obtain ⟨rfl, N2q, hE2⟩ := hQ2
  have N2 := Fr.app N0 N2q
  refine Wk.go (A' := T2.setTop (mkF m 33 #[rv ob, jv lim, .second, iv ((fB 1) &&& (127 : Int32)), jv (0 : Int64), .second, iv (2 : Int32), .unset] [(.int (f_lend ob ba fB (4 : Int32))), (.int (2 : Int32))])) (fun t k => st2.trans k) ?_
  rw [show (f_lend ob ba fB (4 : Int32)) = (4 : Int32) from own_l4 _ _ _ (by decide) cw]
  have hc33 : (2 : Int32) < (4 : Int32) := by decide
  refine Wk.go (A' := T2.setTop (mkF m 36 #[rv ob, jv lim, .second, iv ((fB 1) &&& (127 : Int32)), jv (0 : Int64), .second, iv (2 : Int32), .unset] [])) (fun t k => XS.icmpNo X2.here hx rfl (hb hby d7_33) rfl (tlt hc33).2.1 k) ?_
  refine Wk.go (A' := T2.setTop (mkF m 38 #[rv ob, jv lim, .second, iv ((fB 1) &&& (127 : Int32)), jv (0 : Int64), .second, iv (2 : Int32), .unset] [(.long (0 : Int64))])) (fun t k => XS.lload X2.here hx rfl (hb hby d7_36) rfl k) ?_
  refine Wk.go (A' := T2.setTop (mkF m 40 #[rv ob, jv lim, .second, iv ((fB 1) &&& (127 : Int32)), jv (0 : Int64), .second, iv (2 : Int32), .unset] [(.int (8 : Int32)), (.long (0 : Int64))])) (fun t k => XS.bipush X2.here hx rfl (hb hby d7_38) k) ?_
  refine Wk.go (A' := T2.setTop (mkF m 41 #[rv ob, jv lim, .second, iv ((fB 1) &&& (127 : Int32)), jv (0 : Int64), .second, iv (2 : Int32), .unset] [(.long ((0 : Int64) <<< ((8 : Int32) &&& 0x3f).toInt64))])) (fun t k => XS.lshl X2.here hx rfl (hb hby d7_40) rfl k) ?_
  refine Wk.go (A' := T2.setTop (mkF m 42 #[rv ob, jv lim, .second, iv ((fB 1) &&& (127 : Int32)), jv (0 : Int64), .second, iv (2 : Int32), .unset] [(.ref ob), (.long ((0 : Int64) <<< ((8 : Int32) &&& 0x3f).toInt64))])) (fun t k => XS.aloadN X2.here hx rfl (hb hby d7_41) rfl rfl k) ?_
  obtain ⟨T3, X3, e3, st3⟩ := getF X2 hx hZ hown (host := "") (Or.inl (tw11 hw)) Via.refl (hE2) F_bytes (g := (mkF m 42 #[rv ob, jv lim, .second, iv ((fB 1) &&& (127 : Int32)), jv (0 : Int64), .second, iv (2 : Int32), .unset] [(.ref ob), (.long ((0 : Int64) <<< ((8 : Int32) &&& 0x3f).toInt64))])) rfl rfl (hb hby d7_42)
  refine Wk.go (A' := T3.setTop (mkF m 45 #[rv ob, jv lim, .second, iv ((fB 1) &&& (127 : Int32)), jv (0 : Int64), .second, iv (2 : Int32), .unset] [(.ref ba), (.long ((0 : Int64) <<< ((8 : Int32) &&& 0x3f).toInt64))])) (fun t k => st3 t k) ?_
  refine Wk.go (A' := T3.setTop (mkF m 47 #[rv ob, jv lim, .second, iv ((fB 1) &&& (127 : Int32)), jv (0 : Int64), .second, iv (2 : Int32), .unset] [(.int (2 : Int32)), (.ref ba), (.long ((0 : Int64) <<< ((8 : Int32) &&& 0x3f).toInt64))])) (fun t k => XS.iload X3.here hx rfl (hb hby d7_45) rfl k) ?_
  refine Wk.go (A' := T3.setTop (mkF m 48 #[rv ob, jv lim, .second, iv ((fB 1) &&& (127 : Int32)), jv (0 : Int64), .second, iv (2 : Int32), .unset] [(.int (fB 2)), (.long ((0 : Int64) <<< ((8 : Int32) &&& 0x3f).toInt64))])) (fun t k => own_ldB X3 hx hZ e3 VB (j := (2 : Int32)) (by decide) (g := (mkF m 47 #[rv ob, jv lim, .second, iv ((fB 1) &&& (127 : Int32)), jv (0 : Int64), .second, iv (2 : Int32), .unset] [(.int (2 : Int32)), (.ref ba), (.long ((0 : Int64) <<< ((8 : Int32) &&& 0x3f).toInt64))])) rfl rfl (hb hby d7_47) t k) ?_
  refine Wk.go (A' := T3.setTop (mkF m 51 #[rv ob, jv lim, .second, iv ((fB 1) &&& (127 : Int32)), jv (0 : Int64), .second, iv (2 : Int32), .unset] [(.int (255 : Int32)), (.int (fB 2)), (.long ((0 : Int64) <<< ((8 : Int32) &&& 0x3f).toInt64))])) (fun t k => XS.sipush X3.here hx rfl (hb hby d7_48) k) ?_
  refine Wk.go (A' := T3.setTop (mkF m 52 #[rv ob, jv lim, .second, iv ((fB 1) &&& (127 : Int32)), jv (0 : Int64), .second, iv (2 : Int32), .unset] [(.int ((fB 2) &&& (255 : Int32))), (.long ((0 : Int64) <<< ((8 : Int32) &&& 0x3f).toInt64))])) (fun t k => XS.iand X3.here hx rfl (hb hby d7_51) rfl k) ?_
  refine Wk.go (A' := T3.setTop (mkF m 53 #[rv ob, jv lim, .second, iv ((fB 1) &&& (127 : Int32)), jv (0 : Int64), .second, iv (2 : Int32), .unset] [(.long (((fB 2) &&& (255 : Int32)).toInt64)), (.long ((0 : Int64) <<< ((8 : Int32) &&& 0x3f).toInt64))])) (fun t k => XS.i2l X3.here hx rfl (hb hby d7_52) rfl k) ?_
  refine Wk.go (A' := T3.setTop (mkF m 54 #[rv ob, jv lim, .second, iv ((fB 1) &&& (127 : Int32)), jv (0 : Int64), .second, iv (2 : Int32), .unset] [(.long (((0 : Int64) <<< ((8 : Int32) &&& 0x3f).toInt64) ||| (((fB 2) &&& (255 : Int32)).toInt64)))])) (fun t k => XS.lor X3.here hx rfl (hb hby d7_53) rfl k) ?_
  refine Wk.go (A' := T3.setTop (mkF m 56 #[rv ob, jv lim, .second, iv ((fB 1) &&& (127 : Int32)), jv (((0 : Int64) <<< ((8 : Int32) &&& 0x3f).toInt64) ||| (((fB 2) &&& (255 : Int32)).toInt64)), .second, iv (2 : Int32), .unset] [])) (fun t k => XS.lstore X3.here hx rfl (hb hby d7_54) rfl (l' := #[rv ob, jv lim, .second, iv ((fB 1) &&& (127 : Int32)), jv (((0 : Int64) <<< ((8 : Int32) &&& 0x3f).toInt64) ||| (((fB 2) &&& (255 : Int32)).toInt64)), .second, iv (2 : Int32), .unset]) rfl k) ?_
  refine Wk.go (A' := T3.setTop (mkF m 59 #[rv ob, jv lim, .second, iv ((fB 1) &&& (127 : Int32)), jv (((0 : Int64) <<< ((8 : Int32) &&& 0x3f).toInt64) ||| (((fB 2) &&& (255 : Int32)).toInt64)), .second, iv (3 : Int32), .unset] [])) (fun t k => XS.iinc X3.here hx rfl (hb hby d7_56) rfl (l' := #[rv ob, jv lim, .second, iv ((fB 1) &&& (127 : Int32)), jv (((0 : Int64) <<< ((8 : Int32) &&& 0x3f).toInt64) ||| (((fB 2) &&& (255 : Int32)).toInt64)), .second, iv (3 : Int32), .unset]) rfl k) ?_
  refine Wk.go (A' := T3.setTop (mkF m 27 #[rv ob, jv lim, .second, iv ((fB 1) &&& (127 : Int32)), jv (((0 : Int64) <<< ((8 : Int32) &&& 0x3f).toInt64) ||| (((fB 2) &&& (255 : Int32)).toInt64)), .second, iv (3 : Int32), .unset] [])) (fun t k => XS.goto X3.here hx rfl (pc0 := 59) (pc' := 27) rfl (hb hby d7_59) (by decide) (by decide) k) ?_
  refine Wk.go (A' := T3.setTop (mkF m 29 #[rv ob, jv lim, .second, iv ((fB 1) &&& (127 : Int32)), jv (((0 : Int64) <<< ((8 : Int32) &&& 0x3f).toInt64) ||| (((fB 2) &&& (255 : Int32)).toInt64)), .second, iv (3 : Int32), .unset] [(.int (3 : Int32))])) (fun t k => XS.iload X3.here hx rfl (hb hby d7_27) rfl k) ?_
  refine Wk.go (A' := T3.setTop (mkF m 30 #[rv ob, jv lim, .second, iv ((fB 1) &&& (127 : Int32)), jv (((0 : Int64) <<< ((8 : Int32) &&& 0x3f).toInt64) ||| (((fB 2) &&& (255 : Int32)).toInt64)), .second, iv (3 : Int32), .unset] [(.ref ob), (.int (3 : Int32))])) (fun t k => XS.aloadN X3.here hx rfl (hb hby d7_29) rfl rfl k) ?_
  obtain ⟨cq4, q4, q4'⟩ := E_ob.cell
  obtain ⟨_, _, ⟨T4, L4, k4, n4⟩, -, X4, ⟨Lc4, hQ4, l4, y4, z4⟩, st4⟩ := X3.privateBack hx (y := (⟨own_F, "lengthEnd", "()I"⟩ : MethodName)) hown (mvT hZ (tw23 hw)) (mvT hZ (tw24 hw)) (own_sel (mvT hZ (tw3 hw)) (Cond.privateMethod_at (mvP hZ (tw25 hw) (args := #[]))) (mvT hZ (tw24 hw)) (by decide)) (Cond.privateMethod_at (mvP hZ (tw25 hw) (args := #[]))) (mvT hZ (tw26 hw)) (by decide) (backOf (W := 1) (rm4 l Z a0 hw [] ob ba fB (4 : Int32) h0 n0 Z0 F_bytes F_count VB) hZ (tw26 hw) (tw4 hw) (by decide) (by decide)) (g := (mkF m 30 #[rv ob, jv lim, .second, iv ((fB 1) &&& (127 : Int32)), jv (((0 : Int64) <<< ((8 : Int32) &&& 0x3f).toInt64) ||| (((fB 2) &&& (255 : Int32)).toInt64)), .second, iv (3 : Int32), .unset] [(.ref ob), (.int (3 : Int32))])) rfl (by rw [hml]; rfl) (Steps.refl _) (a := ob) (by rw [e3]; exact q4) q4' (argsL := []) (rest := [(.int (3 : Int32))]) (lenOf pd_1 rfl) rfl (by show 2 * 0 + _ ≤ _; exact Nat.le_of_eq rfl) (hb hby d7_30) (fun _ _ => ⟨rfl, e3, (by decide : 0 + 0 ≤ _), (by decide : 0 + 0 ≤ _)⟩)
  dsimp only [Pt.U, Pt.locs, Pt.cells, Pt.slots] at X4 l4 y4 z4 st4 hQ4
  subst l4 y4 z4
  obtain ⟨rfl, N4q, hE4⟩ := hQ4
  have N4 := Fr.app N2 N4q
  refine Wk.go (A' := T4.setTop (mkF m 33 #[rv ob, jv lim, .second, iv ((fB 1) &&& (127 : Int32)), jv (((0 : Int64) <<< ((8 : Int32) &&& 0x3f).toInt64) ||| (((fB 2) &&& (255 : Int32)).toInt64)), .second, iv (3 : Int32), .unset] [(.int (f_lend ob ba fB (4 : Int32))), (.int (3 : Int32))])) (fun t k => st4.trans k) ?_
  rw [show (f_lend ob ba fB (4 : Int32)) = (4 : Int32) from own_l4 _ _ _ (by decide) cw]
  have hc33 : (3 : Int32) < (4 : Int32) := by decide
  refine Wk.go (A' := T4.setTop (mkF m 36 #[rv ob, jv lim, .second, iv ((fB 1) &&& (127 : Int32)), jv (((0 : Int64) <<< ((8 : Int32) &&& 0x3f).toInt64) ||| (((fB 2) &&& (255 : Int32)).toInt64)), .second, iv (3 : Int32), .unset] [])) (fun t k => XS.icmpNo X4.here hx rfl (hb hby d7_33) rfl (tlt hc33).2.1 k) ?_
  refine Wk.go (A' := T4.setTop (mkF m 38 #[rv ob, jv lim, .second, iv ((fB 1) &&& (127 : Int32)), jv (((0 : Int64) <<< ((8 : Int32) &&& 0x3f).toInt64) ||| (((fB 2) &&& (255 : Int32)).toInt64)), .second, iv (3 : Int32), .unset] [(.long (((0 : Int64) <<< ((8 : Int32) &&& 0x3f).toInt64) ||| (((fB 2) &&& (255 : Int32)).toInt64)))])) (fun t k => XS.lload X4.here hx rfl (hb hby d7_36) rfl k) ?_
  refine Wk.go (A' := T4.setTop (mkF m 40 #[rv ob, jv lim, .second, iv ((fB 1) &&& (127 : Int32)), jv (((0 : Int64) <<< ((8 : Int32) &&& 0x3f).toInt64) ||| (((fB 2) &&& (255 : Int32)).toInt64)), .second, iv (3 : Int32), .unset] [(.int (8 : Int32)), (.long (((0 : Int64) <<< ((8 : Int32) &&& 0x3f).toInt64) ||| (((fB 2) &&& (255 : Int32)).toInt64)))])) (fun t k => XS.bipush X4.here hx rfl (hb hby d7_38) k) ?_
  refine Wk.go (A' := T4.setTop (mkF m 41 #[rv ob, jv lim, .second, iv ((fB 1) &&& (127 : Int32)), jv (((0 : Int64) <<< ((8 : Int32) &&& 0x3f).toInt64) ||| (((fB 2) &&& (255 : Int32)).toInt64)), .second, iv (3 : Int32), .unset] [(.long ((((0 : Int64) <<< ((8 : Int32) &&& 0x3f).toInt64) ||| (((fB 2) &&& (255 : Int32)).toInt64)) <<< ((8 : Int32) &&& 0x3f).toInt64))])) (fun t k => XS.lshl X4.here hx rfl (hb hby d7_40) rfl k) ?_
  refine Wk.go (A' := T4.setTop (mkF m 42 #[rv ob, jv lim, .second, iv ((fB 1) &&& (127 : Int32)), jv (((0 : Int64) <<< ((8 : Int32) &&& 0x3f).toInt64) ||| (((fB 2) &&& (255 : Int32)).toInt64)), .second, iv (3 : Int32), .unset] [(.ref ob), (.long ((((0 : Int64) <<< ((8 : Int32) &&& 0x3f).toInt64) ||| (((fB 2) &&& (255 : Int32)).toInt64)) <<< ((8 : Int32) &&& 0x3f).toInt64))])) (fun t k => XS.aloadN X4.here hx rfl (hb hby d7_41) rfl rfl k) ?_
  obtain ⟨T5, X5, e5, st5⟩ := getF X4 hx hZ hown (host := "") (Or.inl (tw11 hw)) Via.refl (hE4) F_bytes (g := (mkF m 42 #[rv ob, jv lim, .second, iv ((fB 1) &&& (127 : Int32)), jv (((0 : Int64) <<< ((8 : Int32) &&& 0x3f).toInt64) ||| (((fB 2) &&& (255 : Int32)).toInt64)), .second, iv (3 : Int32), .unset] [(.ref ob), (.long ((((0 : Int64) <<< ((8 : Int32) &&& 0x3f).toInt64) ||| (((fB 2) &&& (255 : Int32)).toInt64)) <<< ((8 : Int32) &&& 0x3f).toInt64))])) rfl rfl (hb hby d7_42)
  refine Wk.go (A' := T5.setTop (mkF m 45 #[rv ob, jv lim, .second, iv ((fB 1) &&& (127 : Int32)), jv (((0 : Int64) <<< ((8 : Int32) &&& 0x3f).toInt64) ||| (((fB 2) &&& (255 : Int32)).toInt64)), .second, iv (3 : Int32), .unset] [(.ref ba), (.long ((((0 : Int64) <<< ((8 : Int32) &&& 0x3f).toInt64) ||| (((fB 2) &&& (255 : Int32)).toInt64)) <<< ((8 : Int32) &&& 0x3f).toInt64))])) (fun t k => st5 t k) ?_
  refine Wk.go (A' := T5.setTop (mkF m 47 #[rv ob, jv lim, .second, iv ((fB 1) &&& (127 : Int32)), jv (((0 : Int64) <<< ((8 : Int32) &&& 0x3f).toInt64) ||| (((fB 2) &&& (255 : Int32)).toInt64)), .second, iv (3 : Int32), .unset] [(.int (3 : Int32)), (.ref ba), (.long ((((0 : Int64) <<< ((8 : Int32) &&& 0x3f).toInt64) ||| (((fB 2) &&& (255 : Int32)).toInt64)) <<< ((8 : Int32) &&& 0x3f).toInt64))])) (fun t k => XS.iload X5.here hx rfl (hb hby d7_45) rfl k) ?_
  refine Wk.go (A' := T5.setTop (mkF m 48 #[rv ob, jv lim, .second, iv ((fB 1) &&& (127 : Int32)), jv (((0 : Int64) <<< ((8 : Int32) &&& 0x3f).toInt64) ||| (((fB 2) &&& (255 : Int32)).toInt64)), .second, iv (3 : Int32), .unset] [(.int (fB 3)), (.long ((((0 : Int64) <<< ((8 : Int32) &&& 0x3f).toInt64) ||| (((fB 2) &&& (255 : Int32)).toInt64)) <<< ((8 : Int32) &&& 0x3f).toInt64))])) (fun t k => own_ldB X5 hx hZ e5 VB (j := (3 : Int32)) (by decide) (g := (mkF m 47 #[rv ob, jv lim, .second, iv ((fB 1) &&& (127 : Int32)), jv (((0 : Int64) <<< ((8 : Int32) &&& 0x3f).toInt64) ||| (((fB 2) &&& (255 : Int32)).toInt64)), .second, iv (3 : Int32), .unset] [(.int (3 : Int32)), (.ref ba), (.long ((((0 : Int64) <<< ((8 : Int32) &&& 0x3f).toInt64) ||| (((fB 2) &&& (255 : Int32)).toInt64)) <<< ((8 : Int32) &&& 0x3f).toInt64))])) rfl rfl (hb hby d7_47) t k) ?_
  refine Wk.go (A' := T5.setTop (mkF m 51 #[rv ob, jv lim, .second, iv ((fB 1) &&& (127 : Int32)), jv (((0 : Int64) <<< ((8 : Int32) &&& 0x3f).toInt64) ||| (((fB 2) &&& (255 : Int32)).toInt64)), .second, iv (3 : Int32), .unset] [(.int (255 : Int32)), (.int (fB 3)), (.long ((((0 : Int64) <<< ((8 : Int32) &&& 0x3f).toInt64) ||| (((fB 2) &&& (255 : Int32)).toInt64)) <<< ((8 : Int32) &&& 0x3f).toInt64))])) (fun t k => XS.sipush X5.here hx rfl (hb hby d7_48) k) ?_
  refine Wk.go (A' := T5.setTop (mkF m 52 #[rv ob, jv lim, .second, iv ((fB 1) &&& (127 : Int32)), jv (((0 : Int64) <<< ((8 : Int32) &&& 0x3f).toInt64) ||| (((fB 2) &&& (255 : Int32)).toInt64)), .second, iv (3 : Int32), .unset] [(.int ((fB 3) &&& (255 : Int32))), (.long ((((0 : Int64) <<< ((8 : Int32) &&& 0x3f).toInt64) ||| (((fB 2) &&& (255 : Int32)).toInt64)) <<< ((8 : Int32) &&& 0x3f).toInt64))])) (fun t k => XS.iand X5.here hx rfl (hb hby d7_51) rfl k) ?_
  refine Wk.go (A' := T5.setTop (mkF m 53 #[rv ob, jv lim, .second, iv ((fB 1) &&& (127 : Int32)), jv (((0 : Int64) <<< ((8 : Int32) &&& 0x3f).toInt64) ||| (((fB 2) &&& (255 : Int32)).toInt64)), .second, iv (3 : Int32), .unset] [(.long (((fB 3) &&& (255 : Int32)).toInt64)), (.long ((((0 : Int64) <<< ((8 : Int32) &&& 0x3f).toInt64) ||| (((fB 2) &&& (255 : Int32)).toInt64)) <<< ((8 : Int32) &&& 0x3f).toInt64))])) (fun t k => XS.i2l X5.here hx rfl (hb hby d7_52) rfl k) ?_
  refine Wk.go (A' := T5.setTop (mkF m 54 #[rv ob, jv lim, .second, iv ((fB 1) &&& (127 : Int32)), jv (((0 : Int64) <<< ((8 : Int32) &&& 0x3f).toInt64) ||| (((fB 2) &&& (255 : Int32)).toInt64)), .second, iv (3 : Int32), .unset] [(.long (((((0 : Int64) <<< ((8 : Int32) &&& 0x3f).toInt64) ||| (((fB 2) &&& (255 : Int32)).toInt64)) <<< ((8 : Int32) &&& 0x3f).toInt64) ||| (((fB 3) &&& (255 : Int32)).toInt64)))])) (fun t k => XS.lor X5.here hx rfl (hb hby d7_53) rfl k) ?_
  refine Wk.go (A' := T5.setTop (mkF m 56 #[rv ob, jv lim, .second, iv ((fB 1) &&& (127 : Int32)), jv (((((0 : Int64) <<< ((8 : Int32) &&& 0x3f).toInt64) ||| (((fB 2) &&& (255 : Int32)).toInt64)) <<< ((8 : Int32) &&& 0x3f).toInt64) ||| (((fB 3) &&& (255 : Int32)).toInt64)), .second, iv (3 : Int32), .unset] [])) (fun t k => XS.lstore X5.here hx rfl (hb hby d7_54) rfl (l' := #[rv ob, jv lim, .second, iv ((fB 1) &&& (127 : Int32)), jv (((((0 : Int64) <<< ((8 : Int32) &&& 0x3f).toInt64) ||| (((fB 2) &&& (255 : Int32)).toInt64)) <<< ((8 : Int32) &&& 0x3f).toInt64) ||| (((fB 3) &&& (255 : Int32)).toInt64)), .second, iv (3 : Int32), .unset]) rfl k) ?_
  refine Wk.go (A' := T5.setTop (mkF m 59 #[rv ob, jv lim, .second, iv ((fB 1) &&& (127 : Int32)), jv (((((0 : Int64) <<< ((8 : Int32) &&& 0x3f).toInt64) ||| (((fB 2) &&& (255 : Int32)).toInt64)) <<< ((8 : Int32) &&& 0x3f).toInt64) ||| (((fB 3) &&& (255 : Int32)).toInt64)), .second, iv (4 : Int32), .unset] [])) (fun t k => XS.iinc X5.here hx rfl (hb hby d7_56) rfl (l' := #[rv ob, jv lim, .second, iv ((fB 1) &&& (127 : Int32)), jv (((((0 : Int64) <<< ((8 : Int32) &&& 0x3f).toInt64) ||| (((fB 2) &&& (255 : Int32)).toInt64)) <<< ((8 : Int32) &&& 0x3f).toInt64) ||| (((fB 3) &&& (255 : Int32)).toInt64)), .second, iv (4 : Int32), .unset]) rfl k) ?_
  refine Wk.go (A' := T5.setTop (mkF m 27 #[rv ob, jv lim, .second, iv ((fB 1) &&& (127 : Int32)), jv (((((0 : Int64) <<< ((8 : Int32) &&& 0x3f).toInt64) ||| (((fB 2) &&& (255 : Int32)).toInt64)) <<< ((8 : Int32) &&& 0x3f).toInt64) ||| (((fB 3) &&& (255 : Int32)).toInt64)), .second, iv (4 : Int32), .unset] [])) (fun t k => XS.goto X5.here hx rfl (pc0 := 59) (pc' := 27) rfl (hb hby d7_59) (by decide) (by decide) k) ?_
  refine Wk.go (A' := T5.setTop (mkF m 29 #[rv ob, jv lim, .second, iv ((fB 1) &&& (127 : Int32)), jv (((((0 : Int64) <<< ((8 : Int32) &&& 0x3f).toInt64) ||| (((fB 2) &&& (255 : Int32)).toInt64)) <<< ((8 : Int32) &&& 0x3f).toInt64) ||| (((fB 3) &&& (255 : Int32)).toInt64)), .second, iv (4 : Int32), .unset] [(.int (4 : Int32))])) (fun t k => XS.iload X5.here hx rfl (hb hby d7_27) rfl k) ?_
  refine Wk.go (A' := T5.setTop (mkF m 30 #[rv ob, jv lim, .second, iv ((fB 1) &&& (127 : Int32)), jv (((((0 : Int64) <<< ((8 : Int32) &&& 0x3f).toInt64) ||| (((fB 2) &&& (255 : Int32)).toInt64)) <<< ((8 : Int32) &&& 0x3f).toInt64) ||| (((fB 3) &&& (255 : Int32)).toInt64)), .second, iv (4 : Int32), .unset] [(.ref ob), (.int (4 : Int32))])) (fun t k => XS.aloadN X5.here hx rfl (hb hby d7_29) rfl rfl k) ?_
  obtain ⟨cq6, q6, q6'⟩ := E_ob.cell
  obtain ⟨_, _, ⟨T6, L6, k6, n6⟩, -, X6, ⟨Lc6, hQ6, l6, y6, z6⟩, st6⟩ := X5.privateBack hx (y := (⟨own_F, "lengthEnd", "()I"⟩ : MethodName)) hown (mvT hZ (tw23 hw)) (mvT hZ (tw24 hw)) (own_sel (mvT hZ (tw3 hw)) (Cond.privateMethod_at (mvP hZ (tw25 hw) (args := #[]))) (mvT hZ (tw24 hw)) (by decide)) (Cond.privateMethod_at (mvP hZ (tw25 hw) (args := #[]))) (mvT hZ (tw26 hw)) (by decide) (backOf (W := 1) (rm4 l Z a0 hw [] ob ba fB (4 : Int32) h0 n0 Z0 F_bytes F_count VB) hZ (tw26 hw) (tw4 hw) (by decide) (by decide)) (g := (mkF m 30 #[rv ob, jv lim, .second, iv ((fB 1) &&& (127 : Int32)), jv (((((0 : Int64) <<< ((8 : Int32) &&& 0x3f).toInt64) ||| (((fB 2) &&& (255 : Int32)).toInt64)) <<< ((8 : Int32) &&& 0x3f).toInt64) ||| (((fB 3) &&& (255 : Int32)).toInt64)), .second, iv (4 : Int32), .unset] [(.ref ob), (.int (4 : Int32))])) rfl (by rw [hml]; rfl) (Steps.refl _) (a := ob) (by rw [e5]; exact q6) q6' (argsL := []) (rest := [(.int (4 : Int32))]) (lenOf pd_1 rfl) rfl (by show 2 * 0 + _ ≤ _; exact Nat.le_of_eq rfl) (hb hby d7_30) (fun _ _ => ⟨rfl, e5, (by decide : 0 + 0 ≤ _), (by decide : 0 + 0 ≤ _)⟩)
  dsimp only [Pt.U, Pt.locs, Pt.cells, Pt.slots] at X6 l6 y6 z6 st6 hQ6
  subst l6 y6 z6
  obtain ⟨rfl, N6q, hE6⟩ := hQ6
  have N6 := Fr.app N4 N6q
  refine Wk.go (A' := T6.setTop (mkF m 33 #[rv ob, jv lim, .second, iv ((fB 1) &&& (127 : Int32)), jv (((((0 : Int64) <<< ((8 : Int32) &&& 0x3f).toInt64) ||| (((fB 2) &&& (255 : Int32)).toInt64)) <<< ((8 : Int32) &&& 0x3f).toInt64) ||| (((fB 3) &&& (255 : Int32)).toInt64)), .second, iv (4 : Int32), .unset] [(.int (f_lend ob ba fB (4 : Int32))), (.int (4 : Int32))])) (fun t k => st6.trans k) ?_
  rw [show (f_lend ob ba fB (4 : Int32)) = (4 : Int32) from own_l4 _ _ _ (by decide) cw]
  have hc33 : ¬ ((4 : Int32) < (4 : Int32)) := by decide
  refine Wk.go (A' := T6.setTop (mkF m 62 #[rv ob, jv lim, .second, iv ((fB 1) &&& (127 : Int32)), jv (((((0 : Int64) <<< ((8 : Int32) &&& 0x3f).toInt64) ||| (((fB 2) &&& (255 : Int32)).toInt64)) <<< ((8 : Int32) &&& 0x3f).toInt64) ||| (((fB 3) &&& (255 : Int32)).toInt64)), .second, iv (4 : Int32), .unset] [])) (fun t k => XS.icmpYes X6.here hx rfl (pc0 := 33) (pc' := 62) rfl (hb hby d7_33) rfl (flt hc33).2.1 (by decide) (by decide) k) ?_
  generalize hln : (((((0 : Int64) <<< ((8 : Int32) &&& 0x3f).toInt64) ||| (((fB 2) &&& (255 : Int32)).toInt64)) <<< ((8 : Int32) &&& 0x3f).toInt64) ||| (((fB 3) &&& (255 : Int32)).toInt64)) = ln
  have hln0 : ¬ (ln < (0 : Int64)) := by rw [← hln, Int64.lt_iff_toInt_lt]; have := own_ln4 (fB 2) (fB 3); have e0 : (0 : Int64).toInt = 0 := (by decide); omega
  refine Wk.go (A' := T6.setTop (mkF m 64 #[rv ob, jv lim, .second, iv ((fB 1) &&& (127 : Int32)), jv ln, .second, iv (4 : Int32), .unset] [(.long ln)])) (fun t k => XS.lload X6.here hx rfl (hb hby d7_62) rfl k) ?_
  refine Wk.go (A' := T6.setTop (mkF m 65 #[rv ob, jv lim, .second, iv ((fB 1) &&& (127 : Int32)), jv ln, .second, iv (4 : Int32), .unset] [(.long (0 : Int64)), (.long ln)])) (fun t k => XS.lconst X6.here hx rfl (hb hby d7_64) k) ?_
  refine Wk.go (A' := T6.setTop (mkF m 66 #[rv ob, jv lim, .second, iv ((fB 1) &&& (127 : Int32)), jv ln, .second, iv (4 : Int32), .unset] [(.int (lcmpW ln (0 : Int64)))])) (fun t k => XS.lcmp X6.here hx rfl (hb hby d7_65) rfl k) ?_
  have hc66 : ¬ (ln < (0 : Int64)) := hln0
  refine Wk.go (A' := T6.setTop (mkF m 75 #[rv ob, jv lim, .second, iv ((fB 1) &&& (127 : Int32)), jv ln, .second, iv (4 : Int32), .unset] [])) (fun t k => XS.ifYes X6.here hx rfl (pc0 := 66) (pc' := 75) rfl (hb hby d7_66) rfl ((if0 _ _).trans (flt (mt (lw_lt _ _).mp hc66)).2.1) (by decide) (by decide) k) ?_
  refine Wk.go (A' := T6.setTop (mkF m 76 #[rv ob, jv lim, .second, iv ((fB 1) &&& (127 : Int32)), jv ln, .second, iv (4 : Int32), .unset] [(.ref ob)])) (fun t k => XS.aloadN X6.here hx rfl (hb hby d7_75) rfl rfl k) ?_
  refine Wk.go (A' := T6.setTop (mkF m 78 #[rv ob, jv lim, .second, iv ((fB 1) &&& (127 : Int32)), jv ln, .second, iv (4 : Int32), .unset] [(.long ln), (.ref ob)])) (fun t k => XS.lload X6.here hx rfl (hb hby d7_76) rfl k) ?_
  obtain ⟨T7, h7, X7, e7, W7, st7⟩ := putF X6 hx hZ hown (host := "") (Or.inl (tw46 hw)) Via.refl (hE6) F_length E_ob (Or.inl (tw47 hw)) (tw3 hw) (ty := .long) (by decide) rfl rfl (g := (mkF m 78 #[rv ob, jv lim, .second, iv ((fB 1) &&& (127 : Int32)), jv ln, .second, iv (4 : Int32), .unset] [(.long ln), (.ref ob)])) rfl rfl (hb hby d7_78)
  have f8 := E_ob.wr W7
  have f9 := VB.other W7 (Ne.symm hne)
  have f10 := F_bytes.other W7 (Or.inr (sn_40 hw))
  have f11 := F_masked.other W7 (Or.inr (sn_41 hw))
  have f12 := F_count.other W7 (Or.inr (sn_42 hw))
  have f13 := F_opcode.other W7 (Or.inr (sn_43 hw))
  have f14 := F_last.other W7 (Or.inr (sn_44 hw))
  have f15 := F_open.other W7 (Or.inr (sn_45 hw))
  have f16 := F_length.same W7
  have f17 := F_maskAt.other W7 (Or.inr (sn_46 hw))
  have f18 := F_messageOpcode.other W7 (Or.inr (sn_47 hw))
  have f19 := F_messageBytes.other W7 (Or.inr (sn_48 hw))
  have f20 := F_dataLength.other W7 (Or.inr (sn_49 hw))
  have Zp7 : n0 ≤ h7.size := Nat.le_trans Z0 (Nat.le_of_eq W7.size.symm)
  have K7 := K0.wr W7 (Or.inl (List.mem_of_getElem? (i := 0) rfl))
  have N7 := Fr.snoc X7 N6 g_ob
  refine Wk.go (A' := T7.setTop (mkF m 81 #[rv ob, jv lim, .second, iv ((fB 1) &&& (127 : Int32)), jv ln, .second, iv (4 : Int32), .unset] [])) (fun t k => st7 t k) ?_
  refine Wk.go (A' := T7.setTop (mkF m 82 #[rv ob, jv lim, .second, iv ((fB 1) &&& (127 : Int32)), jv ln, .second, iv (4 : Int32), .unset] [(.ref ob)])) (fun t k => XS.aloadN X7.here hx rfl (hb hby d7_81) rfl rfl k) ?_
  refine Wk.go (A' := T7.setTop (mkF m 83 #[rv ob, jv lim, .second, iv ((fB 1) &&& (127 : Int32)), jv ln, .second, iv (4 : Int32), .unset] [(.ref ob), (.ref ob)])) (fun t k => XS.aloadN X7.here hx rfl (hb hby d7_82) rfl rfl k) ?_
  obtain ⟨cq21, q21, q21'⟩ := f8.cell
  obtain ⟨_, _, ⟨T21, L21, k21, n21⟩, -, X21, ⟨Lc21, hQ21, l21, y21, z21⟩, st21⟩ := X7.privateBack hx (y := (⟨own_F, "lengthEnd", "()I"⟩ : MethodName)) hown (mvT hZ (tw23 hw)) (mvT hZ (tw24 hw)) (own_sel (mvT hZ (tw3 hw)) (Cond.privateMethod_at (mvP hZ (tw25 hw) (args := #[]))) (mvT hZ (tw24 hw)) (by decide)) (Cond.privateMethod_at (mvP hZ (tw25 hw) (args := #[]))) (mvT hZ (tw26 hw)) (by decide) (backOf (W := 1) (rm4 l Z a0 hw [] ob ba fB (4 : Int32) h7 n0 Zp7 f10 f12 f9) hZ (tw26 hw) (tw4 hw) (by decide) (by decide)) (g := (mkF m 83 #[rv ob, jv lim, .second, iv ((fB 1) &&& (127 : Int32)), jv ln, .second, iv (4 : Int32), .unset] [(.ref ob), (.ref ob)])) rfl (by rw [hml]; rfl) (Steps.refl _) (a := ob) (by rw [e7]; exact q21) q21' (argsL := []) (rest := [(.ref ob)]) (lenOf pd_1 rfl) rfl (by show 2 * 0 + _ ≤ _; exact Nat.le_of_eq rfl) (hb hby d7_83) (fun _ _ => ⟨rfl, e7, (by decide : 0 + 0 ≤ _), (by decide : 0 + 0 ≤ _)⟩)
  dsimp only [Pt.U, Pt.locs, Pt.cells, Pt.slots] at X21 l21 y21 z21 st21 hQ21
  subst l21 y21 z21
  obtain ⟨rfl, N21q, hE21⟩ := hQ21
  have N21 := Fr.app N7 N21q
  refine Wk.go (A' := T21.setTop (mkF m 86 #[rv ob, jv lim, .second, iv ((fB 1) &&& (127 : Int32)), jv ln, .second, iv (4 : Int32), .unset] [(.int (f_lend ob ba fB (4 : Int32))), (.ref ob)])) (fun t k => st21.trans k) ?_
  rw [show (f_lend ob ba fB (4 : Int32)) = (4 : Int32) from own_l4 _ _ _ (by decide) cw]
  obtain ⟨T22, h22, X22, e22, W22, st22⟩ := putF X21 hx hZ hown (host := "") (Or.inl (tw48 hw)) Via.refl (hE21) f17 f8 (Or.inl (tw49 hw)) (tw3 hw) (ty := .int) (by decide) rfl rfl (g := (mkF m 86 #[rv ob, jv lim, .second, iv ((fB 1) &&& (127 : Int32)), jv ln, .second, iv (4 : Int32), .unset] [(.int (4 : Int32)), (.ref ob)])) rfl rfl (hb hby d7_86)
  have f23 := f8.wr W22
  have f24 := f9.other W22 (Ne.symm hne)
  have f25 := f10.other W22 (Or.inr (sn_50 hw))
  have f26 := f11.other W22 (Or.inr (sn_51 hw))
  have f27 := f12.other W22 (Or.inr (sn_52 hw))
  have f28 := f13.other W22 (Or.inr (sn_53 hw))
  have f29 := f14.other W22 (Or.inr (sn_54 hw))
  have f30 := f15.other W22 (Or.inr (sn_55 hw))
  have f31 := f16.other W22 (Or.inr (sn_56 hw))
  have f32 := f17.same W22
  have f33 := f18.other W22 (Or.inr (sn_57 hw))
  have f34 := f19.other W22 (Or.inr (sn_58 hw))
  have f35 := f20.other W22 (Or.inr (sn_59 hw))
  have Zp22 : n0 ≤ h22.size := Nat.le_trans Zp7 (Nat.le_of_eq W22.size.symm)
  have K22 := K7.wr W22 (Or.inl (List.mem_of_getElem? (i := 0) rfl))
  have N22 := Fr.snoc X22 N21 g_ob
  refine Wk.go (A' := T22.setTop (mkF m 89 #[rv ob, jv lim, .second, iv ((fB 1) &&& (127 : Int32)), jv ln, .second, iv (4 : Int32), .unset] [])) (fun t k => st22 t k) ?_
  refine Wk.go (A' := T22.setTop (mkF m 90 #[rv ob, jv lim, .second, iv ((fB 1) &&& (127 : Int32)), jv ln, .second, iv (4 : Int32), .unset] [(.ref ob)])) (fun t k => XS.aloadN X22.here hx rfl (hb hby d7_89) rfl rfl k) ?_
  obtain ⟨cq36, kq36, q36a, q36b, q36c⟩ := isOf hZ e22 f23
  obtain ⟨_, _, ⟨T36, L36, k36, n36⟩, -, X36, ⟨Lc36, hQ36, l36, y36, z36⟩, st36⟩ := X22.virtualBack hx (y := (⟨own_F, "isControl", "()Z"⟩ : MethodName)) (z := (⟨own_F, "isControl", "()Z"⟩ : MethodName)) hown (mvT hZ (tw35 hw)) (mvT hZ (tw36 hw)) (notFace_of_selects (args := #[]) (mvT hZ (tw38 hw))) (mvT hZ (tw38 hw)) (mvT hZ (tw37 hw)) (by decide) (backOf (W := 0) (rm6 l Z a0 hw [] ob (2 : Int32) h22 n0 Zp22 f28) hZ (tw39 hw) (tw4 hw) (by decide) (by decide)) q36a q36c (g := (mkF m 90 #[rv ob, jv lim, .second, iv ((fB 1) &&& (127 : Int32)), jv ln, .second, iv (4 : Int32), .unset] [(.ref ob)])) rfl (by rw [hml]; rfl) (Steps.refl _) (argsL := []) (rest := []) (lenOf pd_0 rfl) rfl (by show 2 * 0 + _ ≤ _; exact Nat.le_of_eq rfl) (hb hby d7_90) (fun _ _ => ⟨rfl, e22, (by decide : 0 + 0 ≤ _), (by decide : 0 + 0 ≤ _)⟩)
  dsimp only [Pt.U, Pt.locs, Pt.cells, Pt.slots] at X36 l36 y36 z36 st36 hQ36
  subst l36 y36 z36
  obtain ⟨rfl, N36q, hE36⟩ := hQ36
  have N36 := Fr.app N22 N36q
  refine Wk.go (A' := T36.setTop (mkF m 93 #[rv ob, jv lim, .second, iv ((fB 1) &&& (127 : Int32)), jv ln, .second, iv (4 : Int32), .unset] [(.int (f_ctl ob (2 : Int32)))])) (fun t k => st36.trans k) ?_
  rw [show (f_ctl ob (2 : Int32)) = (0 : Int32) from own_c2 _]
  have hc93 : (0 : Int32) = (0 : Int32) := by decide
  refine Wk.go (A' := T36.setTop (mkF m 97 #[rv ob, jv lim, .second, iv ((fB 1) &&& (127 : Int32)), jv ln, .second, iv (4 : Int32), .unset] [])) (fun t k => XS.ifYes X36.here hx rfl (pc0 := 93) (pc' := 97) rfl (hb hby d7_93) rfl ((if0 _ _).trans (teq hc93).1) (by decide) (by decide) k) ?_
  refine Wk.go (A' := T36.setTop (mkF m 98 #[rv ob, jv lim, .second, iv ((fB 1) &&& (127 : Int32)), jv ln, .second, iv (4 : Int32), .unset] [(.ref ob)])) (fun t k => XS.aloadN X36.here hx rfl (hb hby d7_97) rfl rfl k) ?_
  obtain ⟨T37, X37, e37, st37⟩ := getF X36 hx hZ hown (host := "") (Or.inl (tw31 hw)) Via.refl (hE36) f28 (g := (mkF m 98 #[rv ob, jv lim, .second, iv ((fB 1) &&& (127 : Int32)), jv ln, .second, iv (4 : Int32), .unset] [(.ref ob)])) rfl rfl (hb hby d7_98)
  refine Wk.go (A' := T37.setTop (mkF m 101 #[rv ob, jv lim, .second, iv ((fB 1) &&& (127 : Int32)), jv ln, .second, iv (4 : Int32), .unset] [(.int (2 : Int32))])) (fun t k => st37 t k) ?_
  have hc101 : ¬ ((2 : Int32) = (0 : Int32)) := by decide
  refine Wk.go (A' := T37.setTop (mkF m 116 #[rv ob, jv lim, .second, iv ((fB 1) &&& (127 : Int32)), jv ln, .second, iv (4 : Int32), .unset] [])) (fun t k => XS.ifYes X37.here hx rfl (pc0 := 101) (pc' := 116) rfl (hb hby d7_101) rfl ((if0 _ _).trans (feq hc101).2) (by decide) (by decide) k) ?_
  refine Wk.go (A' := T37.setTop (mkF m 117 #[rv ob, jv lim, .second, iv ((fB 1) &&& (127 : Int32)), jv ln, .second, iv (4 : Int32), .unset] [(.long (0 : Int64))])) (fun t k => XS.lconst X37.here hx rfl (hb hby d7_116) k) ?_
  refine Wk.go (A' := T37.setTop (mkF m 119 #[rv ob, jv lim, .second, iv ((fB 1) &&& (127 : Int32)), jv ln, .second, jv (0 : Int64), .second] [])) (fun t k => XS.lstore X37.here hx rfl (hb hby d7_117) rfl (l' := #[rv ob, jv lim, .second, iv ((fB 1) &&& (127 : Int32)), jv ln, .second, jv (0 : Int64), .second]) rfl k) ?_
  refine Wk.go (A' := T37.setTop (mkF m 121 #[rv ob, jv lim, .second, iv ((fB 1) &&& (127 : Int32)), jv ln, .second, jv (0 : Int64), .second] [(.long ln)])) (fun t k => XS.lload X37.here hx rfl (hb hby d7_119) rfl k) ?_
  refine Wk.go (A' := T37.setTop (mkF m 122 #[rv ob, jv lim, .second, iv ((fB 1) &&& (127 : Int32)), jv ln, .second, jv (0 : Int64), .second] [(.long lim), (.long ln)])) (fun t k => XS.lloadN X37.here hx rfl (hb hby d7_121) rfl k) ?_
  refine Wk.go (A' := T37.setTop (mkF m 123 #[rv ob, jv lim, .second, iv ((fB 1) &&& (127 : Int32)), jv ln, .second, jv (0 : Int64), .second] [(.int (lcmpW ln lim))])) (fun t k => XS.lcmp X37.here hx rfl (hb hby d7_122) rfl k) ?_
  have hc123 : ¬ (lim < ln) := own_max _ hl
  refine Wk.go (A' := T37.setTop (mkF m 126 #[rv ob, jv lim, .second, iv ((fB 1) &&& (127 : Int32)), jv ln, .second, jv (0 : Int64), .second] [])) (fun t k => XS.ifNo X37.here hx rfl (hb hby d7_123) rfl ((if0 _ _).trans (flt (mt (lw_gt _ _).mp hc123)).2.2.1) k) ?_
  refine Wk.go (A' := T37.setTop (mkF m 128 #[rv ob, jv lim, .second, iv ((fB 1) &&& (127 : Int32)), jv ln, .second, jv (0 : Int64), .second] [(.long (0 : Int64))])) (fun t k => XS.lload X37.here hx rfl (hb hby d7_126) rfl k) ?_
  refine Wk.go (A' := T37.setTop (mkF m 130 #[rv ob, jv lim, .second, iv ((fB 1) &&& (127 : Int32)), jv ln, .second, jv (0 : Int64), .second] [(.long ln), (.long (0 : Int64))])) (fun t k => XS.lload X37.here hx rfl (hb hby d7_128) rfl k) ?_
  refine Wk.go (A' := T37.setTop (mkF m 131 #[rv ob, jv lim, .second, iv ((fB 1) &&& (127 : Int32)), jv ln, .second, jv (0 : Int64), .second] [(.long ((0 : Int64) + ln))])) (fun t k => XS.ladd X37.here hx rfl (hb hby d7_130) rfl k) ?_
  refine Wk.go (A' := T37.setTop (mkF m 132 #[rv ob, jv lim, .second, iv ((fB 1) &&& (127 : Int32)), jv ln, .second, jv (0 : Int64), .second] [(.long lim), (.long ((0 : Int64) + ln))])) (fun t k => XS.lloadN X37.here hx rfl (hb hby d7_131) rfl k) ?_
  refine Wk.go (A' := T37.setTop (mkF m 133 #[rv ob, jv lim, .second, iv ((fB 1) &&& (127 : Int32)), jv ln, .second, jv (0 : Int64), .second] [(.int (lcmpW ((0 : Int64) + ln) lim))])) (fun t k => XS.lcmp X37.here hx rfl (hb hby d7_132) rfl k) ?_
  have hc133 : ¬ (lim < ((0 : Int64) + ln)) := own_max _ hl
  refine Wk.go (A' := T37.setTop (mkF m 153 #[rv ob, jv lim, .second, iv ((fB 1) &&& (127 : Int32)), jv ln, .second, jv (0 : Int64), .second] [])) (fun t k => XS.ifYes X37.here hx rfl (pc0 := 133) (pc' := 153) rfl (hb hby d7_133) rfl ((if0 _ _).trans (flt (mt (lw_gt _ _).mp hc133)).2.2.2) (by decide) (by decide) k) ?_
  refine Wk.go (A' := T37.setTop (mkF m 154 #[rv ob, jv lim, .second, iv ((fB 1) &&& (127 : Int32)), jv ln, .second, jv (0 : Int64), .second] [(.ref ob)])) (fun t k => XS.aloadN X37.here hx rfl (hb hby d7_153) rfl rfl k) ?_
  obtain ⟨T38, X38, e38, st38⟩ := getF X37 hx hZ hown (host := "") (Or.inl (tw31 hw)) Via.refl e37 f28 (g := (mkF m 154 #[rv ob, jv lim, .second, iv ((fB 1) &&& (127 : Int32)), jv ln, .second, jv (0 : Int64), .second] [(.ref ob)])) rfl rfl (hb hby d7_154)
  refine Wk.go (A' := T38.setTop (mkF m 157 #[rv ob, jv lim, .second, iv ((fB 1) &&& (127 : Int32)), jv ln, .second, jv (0 : Int64), .second] [(.int (2 : Int32))])) (fun t k => st38 t k) ?_
  have hc157 : ¬ ((2 : Int32) = (0 : Int32)) := by decide
  refine Wk.go (A' := T38.setTop (mkF m 160 #[rv ob, jv lim, .second, iv ((fB 1) &&& (127 : Int32)), jv ln, .second, jv (0 : Int64), .second] [])) (fun t k => XS.ifNo X38.here hx rfl (hb hby d7_157) rfl ((if0 _ _).trans (feq hc157).1) k) ?_
  refine Wk.go (A' := T38.setTop (mkF m 161 #[rv ob, jv lim, .second, iv ((fB 1) &&& (127 : Int32)), jv ln, .second, jv (0 : Int64), .second] [(.ref ob)])) (fun t k => XS.aloadN X38.here hx rfl (hb hby d7_160) rfl rfl k) ?_
  refine Wk.go (A' := T38.setTop (mkF m 162 #[rv ob, jv lim, .second, iv ((fB 1) &&& (127 : Int32)), jv ln, .second, jv (0 : Int64), .second] [(.ref ob), (.ref ob)])) (fun t k => XS.aloadN X38.here hx rfl (hb hby d7_161) rfl rfl k) ?_
  obtain ⟨T39, X39, e39, st39⟩ := getF X38 hx hZ hown (host := "") (Or.inl (tw31 hw)) Via.refl e38 f28 (g := (mkF m 162 #[rv ob, jv lim, .second, iv ((fB 1) &&& (127 : Int32)), jv ln, .second, jv (0 : Int64), .second] [(.ref ob), (.ref ob)])) rfl rfl (hb hby d7_162)
  refine Wk.go (A' := T39.setTop (mkF m 165 #[rv ob, jv lim, .second, iv ((fB 1) &&& (127 : Int32)), jv ln, .second, jv (0 : Int64), .second] [(.int (2 : Int32)), (.ref ob)])) (fun t k => st39 t k) ?_
  obtain ⟨T40, h40, X40, e40, W40, st40⟩ := putF X39 hx hZ hown (host := "") (Or.inl (tw50 hw)) Via.refl e39 f33 f23 (Or.inl (tw51 hw)) (tw3 hw) (ty := .int) (by decide) rfl rfl (g := (mkF m 165 #[rv ob, jv lim, .second, iv ((fB 1) &&& (127 : Int32)), jv ln, .second, jv (0 : Int64), .second] [(.int (2 : Int32)), (.ref ob)])) rfl rfl (hb hby d7_165)
  have f41 := f23.wr W40
  have f42 := f24.other W40 (Ne.symm hne)
  have f43 := f25.other W40 (Or.inr (sn_60 hw))
  have f44 := f26.other W40 (Or.inr (sn_61 hw))
  have f45 := f27.other W40 (Or.inr (sn_62 hw))
  have f46 := f28.other W40 (Or.inr (sn_63 hw))
  have f47 := f29.other W40 (Or.inr (sn_64 hw))
  have f48 := f30.other W40 (Or.inr (sn_65 hw))
  have f49 := f31.other W40 (Or.inr (sn_66 hw))
  have f50 := f32.other W40 (Or.inr (sn_67 hw))
  have f51 := f33.same W40
  have f52 := f34.other W40 (Or.inr (sn_68 hw))
  have f53 := f35.other W40 (Or.inr (sn_69 hw))
  have Zp40 : n0 ≤ h40.size := Nat.le_trans Zp22 (Nat.le_of_eq W40.size.symm)
  have K40 := K22.wr W40 (Or.inl (List.mem_of_getElem? (i := 0) rfl))
  have N40 := Fr.snoc X40 N36 g_ob
  refine Wk.go (A' := T40.setTop (mkF m 168 #[rv ob, jv lim, .second, iv ((fB 1) &&& (127 : Int32)), jv ln, .second, jv (0 : Int64), .second] [])) (fun t k => st40 t k) ?_
  refine Wk.go (A' := T40.setTop (mkF m 169 #[rv ob, jv lim, .second, iv ((fB 1) &&& (127 : Int32)), jv ln, .second, jv (0 : Int64), .second] [(.ref ob)])) (fun t k => XS.aloadN X40.here hx rfl (hb hby d7_168) rfl rfl k) ?_
  refine Wk.go (A' := T40.setTop (mkF m 171 #[rv ob, jv lim, .second, iv ((fB 1) &&& (127 : Int32)), jv ln, .second, jv (0 : Int64), .second] [(.long (0 : Int64)), (.ref ob)])) (fun t k => XS.lload X40.here hx rfl (hb hby d7_169) rfl k) ?_
  obtain ⟨T54, h54, X54, e54, W54, st54⟩ := putF X40 hx hZ hown (host := "") (Or.inl (tw52 hw)) Via.refl e40 f52 f41 (Or.inl (tw53 hw)) (tw3 hw) (ty := .long) (by decide) rfl rfl (g := (mkF m 171 #[rv ob, jv lim, .second, iv ((fB 1) &&& (127 : Int32)), jv ln, .second, jv (0 : Int64), .second] [(.long (0 : Int64)), (.ref ob)])) rfl rfl (hb hby d7_171)
  have f55 := f41.wr W54
  have f56 := f42.other W54 (Ne.symm hne)
  have f57 := f43.other W54 (Or.inr (sn_70 hw))
  have f58 := f44.other W54 (Or.inr (sn_71 hw))
  have f59 := f45.other W54 (Or.inr (sn_72 hw))
  have f60 := f46.other W54 (Or.inr (sn_73 hw))
  have f61 := f47.other W54 (Or.inr (sn_74 hw))
  have f62 := f48.other W54 (Or.inr (sn_75 hw))
  have f63 := f49.other W54 (Or.inr (sn_76 hw))
  have f64 := f50.other W54 (Or.inr (sn_77 hw))
  have f65 := f51.other W54 (Or.inr (sn_78 hw))
  have f66 := f52.same W54
  have f67 := f53.other W54 (Or.inr (sn_79 hw))
  have Zp54 : n0 ≤ h54.size := Nat.le_trans Zp40 (Nat.le_of_eq W54.size.symm)
  have K54 := K40.wr W54 (Or.inl (List.mem_of_getElem? (i := 0) rfl))
  have N54 := Fr.snoc X54 N40 g_ob
  refine Wk.go (A' := T54.setTop (mkF m 174 #[rv ob, jv lim, .second, iv ((fB 1) &&& (127 : Int32)), jv ln, .second, jv (0 : Int64), .second] [])) (fun t k => st54 t k) ?_
  refine Wk.go (A' := T54.setTop (mkF m 175 #[rv ob, jv lim, .second, iv ((fB 1) &&& (127 : Int32)), jv ln, .second, jv (0 : Int64), .second] [(.ref ob)])) (fun t k => XS.aloadN X54.here hx rfl (hb hby d7_174) rfl rfl k) ?_
  refine Wk.go (A' := T54.setTop (mkF m 177 #[rv ob, jv lim, .second, iv ((fB 1) &&& (127 : Int32)), jv ln, .second, jv (0 : Int64), .second] [(.long ln), (.ref ob)])) (fun t k => XS.lload X54.here hx rfl (hb hby d7_175) rfl k) ?_
  obtain ⟨T68, h68, X68, e68, W68, st68⟩ := putF X54 hx hZ hown (host := "") (Or.inl (tw54 hw)) Via.refl e54 f67 f55 (Or.inl (tw55 hw)) (tw3 hw) (ty := .long) (by decide) rfl rfl (g := (mkF m 177 #[rv ob, jv lim, .second, iv ((fB 1) &&& (127 : Int32)), jv ln, .second, jv (0 : Int64), .second] [(.long ln), (.ref ob)])) rfl rfl (hb hby d7_177)
  have f69 := f55.wr W68
  have f70 := f56.other W68 (Ne.symm hne)
  have f71 := f57.other W68 (Or.inr (sn_80 hw))
  have f72 := f58.other W68 (Or.inr (sn_81 hw))
  have f73 := f59.other W68 (Or.inr (sn_82 hw))
  have f74 := f60.other W68 (Or.inr (sn_83 hw))
  have f75 := f61.other W68 (Or.inr (sn_84 hw))
  have f76 := f62.other W68 (Or.inr (sn_85 hw))
  have f77 := f63.other W68 (Or.inr (sn_86 hw))
  have f78 := f64.other W68 (Or.inr (sn_87 hw))
  have f79 := f65.other W68 (Or.inr (sn_88 hw))
  have f80 := f66.other W68 (Or.inr (sn_89 hw))
  have f81 := f67.same W68
  have Zp68 : n0 ≤ h68.size := Nat.le_trans Zp54 (Nat.le_of_eq W68.size.symm)
  have K68 := K54.wr W68 (Or.inl (List.mem_of_getElem? (i := 0) rfl))
  have N68 := Fr.snoc X68 N54 g_ob
  refine Wk.go (A' := T68.setTop (mkF m 180 #[rv ob, jv lim, .second, iv ((fB 1) &&& (127 : Int32)), jv ln, .second, jv (0 : Int64), .second] [])) (fun t k => st68 t k) ?_
  refine Wk.go (A' := T68.setTop (mkF m 181 #[rv ob, jv lim, .second, iv ((fB 1) &&& (127 : Int32)), jv ln, .second, jv (0 : Int64), .second] [(.ref ob)])) (fun t k => XS.aloadN X68.here hx rfl (hb hby d7_180) rfl rfl k) ?_
  refine Wk.go (A' := T68.setTop (mkF m 182 #[rv ob, jv lim, .second, iv ((fB 1) &&& (127 : Int32)), jv ln, .second, jv (0 : Int64), .second] [(.ref ob), (.ref ob)])) (fun t k => XS.aloadN X68.here hx rfl (hb hby d7_181) rfl rfl k) ?_
  obtain ⟨T82, X82, e82, st82⟩ := getF X68 hx hZ hown (host := "") (Or.inl (tw33 hw)) Via.refl e68 f75 (g := (mkF m 182 #[rv ob, jv lim, .second, iv ((fB 1) &&& (127 : Int32)), jv ln, .second, jv (0 : Int64), .second] [(.ref ob), (.ref ob)])) rfl rfl (hb hby d7_182)
  refine Wk.go (A' := T82.setTop (mkF m 185 #[rv ob, jv lim, .second, iv ((fB 1) &&& (127 : Int32)), jv ln, .second, jv (0 : Int64), .second] [(.int (1 : Int32)), (.ref ob)])) (fun t k => st82 t k) ?_
  have hc185 : ¬ ((1 : Int32) = (0 : Int32)) := by decide
  refine Wk.go (A' := T82.setTop (mkF m 192 #[rv ob, jv lim, .second, iv ((fB 1) &&& (127 : Int32)), jv ln, .second, jv (0 : Int64), .second] [(.ref ob)])) (fun t k => XS.ifYes X82.here hx rfl (pc0 := 185) (pc' := 192) rfl (hb hby d7_185) rfl ((if0 _ _).trans (feq hc185).2) (by decide) (by decide) k) ?_
  refine Wk.go (A' := T82.setTop (mkF m 193 #[rv ob, jv lim, .second, iv ((fB 1) &&& (127 : Int32)), jv ln, .second, jv (0 : Int64), .second] [(.int (0 : Int32)), (.ref ob)])) (fun t k => XS.iconst X82.here hx rfl (hb hby d7_192) k) ?_
  obtain ⟨T83, h83, X83, e83, W83, st83⟩ := putFN X82 hx hZ hown (tw40 hw) Via.refl e82 f76 f69 (Or.inl (tw41 hw)) (tw3 hw) (ty := .boolean) (v' := (.int (0 : Int32))) (by decide) rfl (fits_nar_bool (0 : Int32)) (g := (mkF m 193 #[rv ob, jv lim, .second, iv ((fB 1) &&& (127 : Int32)), jv ln, .second, jv (0 : Int64), .second] [(.int (0 : Int32)), (.ref ob)])) rfl rfl (hb hby d7_193)
  have f84 := f69.wr W83
  have f85 := f70.other W83 (Ne.symm hne)
  have f86 := f71.other W83 (Or.inr (sn_90 hw))
  have f87 := f72.other W83 (Or.inr (sn_91 hw))
  have f88 := f73.other W83 (Or.inr (sn_92 hw))
  have f89 := f74.other W83 (Or.inr (sn_93 hw))
  have f90 := f75.other W83 (Or.inr (sn_94 hw))
  have f91 := f76.same W83
  have f92 := f77.other W83 (Or.inr (sn_95 hw))
  have f93 := f78.other W83 (Or.inr (sn_96 hw))
  have f94 := f79.other W83 (Or.inr (sn_97 hw))
  have f95 := f80.other W83 (Or.inr (sn_98 hw))
  have f96 := f81.other W83 (Or.inr (sn_99 hw))
  have Zp83 : n0 ≤ h83.size := Nat.le_trans Zp68 (Nat.le_of_eq W83.size.symm)
  have K83 := K68.wr W83 (Or.inl (List.mem_of_getElem? (i := 0) rfl))
  have N83 := Fr.snoc X83 N68 g_ob
  refine Wk.go (A' := T83.setTop (mkF m 196 #[rv ob, jv lim, .second, iv ((fB 1) &&& (127 : Int32)), jv ln, .second, jv (0 : Int64), .second] [])) (fun t k => st83 t k) ?_
  refine own_fin (Qv := Q7wm Z ob lim ba fB h0 n0) (v := none) X83 hlk (fun _ => rfl) (fun fs hr => X83.returnOut hx Bd.returns (hb hby d7_196) hr) ?_ (by decide) (by decide)
  show Q7wm Z ob lim ba fB h0 n0 _ T83.heap _
  rw [e83]
  exact ⟨_, rfl, N83, K83, f84, f86, f87, f88, f89, f90, f91, f92, f93, f94, f95, f96, f85⟩
theorem d3_0 : decode prog_100_method_2_code 0 = .ok (.aload_n 0, 1) := by decide +kernel
theorem d3_1 : decode prog_100_method_2_code 1 = .ok (.getfield 7, 3) := by decide +kernel
theorem d3_4 : decode prog_100_method_2_code 4 = .ok (.aload_n 0, 1) := by decide +kernel
theorem d3_5 : decode prog_100_method_2_code 5 = .ok (.dup, 1) := by decide +kernel
theorem d3_6 : decode prog_100_method_2_code 6 = .ok (.getfield 17, 3) := by decide +kernel
theorem d3_9 : decode prog_100_method_2_code 9 = .ok (.dup_x1, 1) := by decide +kernel
theorem d3_10 : decode prog_100_method_2_code 10 = .ok (.iconst 1, 1) := by decide +kernel
theorem d3_11 : decode prog_100_method_2_code 11 = .ok (.iadd, 1) := by decide +kernel
theorem d3_12 : decode prog_100_method_2_code 12 = .ok (.putfield 17, 3) := by decide +kernel
theorem sn_100 {Z : State} {a0 : Array Value} (hw : ∀ d ∈ tables_1, d.before a0 Z = true) : Jvm.RoadKit.slotOf Z own_F "bytes" "[B" ≠ Jvm.RoadKit.slotOf Z own_F "count" "I" := Jvm.RoadKit.slot_ne (Or.inr (tw12 hw)) (Or.inl (tw22 hw)) (by decide) (t := (.array .byte)) (t' := .int) (by decide) (by decide)
theorem sn_101 {Z : State} {a0 : Array Value} (hw : ∀ d ∈ tables_1, d.before a0 Z = true) : Jvm.RoadKit.slotOf Z own_F "masked" "Z" ≠ Jvm.RoadKit.slotOf Z own_F "count" "I" := Jvm.RoadKit.slot_ne (Or.inr (tw14 hw)) (Or.inl (tw22 hw)) (by decide) (t := .boolean) (t' := .int) (by decide) (by decide)
theorem sn_102 {Z : State} {a0 : Array Value} (hw : ∀ d ∈ tables_1, d.before a0 Z = true) : Jvm.RoadKit.slotOf Z own_F "opcode" "I" ≠ Jvm.RoadKit.slotOf Z own_F "count" "I" := Jvm.RoadKit.slot_ne (Or.inl (tw32 hw)) (Or.inl (tw22 hw)) (by decide) (t := .int) (t' := .int) (by decide) (by decide)
theorem sn_103 {Z : State} {a0 : Array Value} (hw : ∀ d ∈ tables_1, d.before a0 Z = true) : Jvm.RoadKit.slotOf Z own_F "last" "Z" ≠ Jvm.RoadKit.slotOf Z own_F "count" "I" := Jvm.RoadKit.slot_ne (Or.inl (tw34 hw)) (Or.inl (tw22 hw)) (by decide) (t := .boolean) (t' := .int) (by decide) (by decide)
theorem sn_104 {Z : State} {a0 : Array Value} (hw : ∀ d ∈ tables_1, d.before a0 Z = true) : Jvm.RoadKit.slotOf Z own_F "open" "Z" ≠ Jvm.RoadKit.slotOf Z own_F "count" "I" := Jvm.RoadKit.slot_ne (Or.inl (tw41 hw)) (Or.inl (tw22 hw)) (by decide) (t := .boolean) (t' := .int) (by decide) (by decide)
theorem sn_105 {Z : State} {a0 : Array Value} (hw : ∀ d ∈ tables_1, d.before a0 Z = true) : Jvm.RoadKit.slotOf Z own_F "length" "J" ≠ Jvm.RoadKit.slotOf Z own_F "count" "I" := Jvm.RoadKit.slot_ne (Or.inl (tw47 hw)) (Or.inl (tw22 hw)) (by decide) (t := .long) (t' := .int) (by decide) (by decide)
theorem sn_106 {Z : State} {a0 : Array Value} (hw : ∀ d ∈ tables_1, d.before a0 Z = true) : Jvm.RoadKit.slotOf Z own_F "maskAt" "I" ≠ Jvm.RoadKit.slotOf Z own_F "count" "I" := Jvm.RoadKit.slot_ne (Or.inl (tw49 hw)) (Or.inl (tw22 hw)) (by decide) (t := .int) (t' := .int) (by decide) (by decide)
theorem sn_107 {Z : State} {a0 : Array Value} (hw : ∀ d ∈ tables_1, d.before a0 Z = true) : Jvm.RoadKit.slotOf Z own_F "messageOpcode" "I" ≠ Jvm.RoadKit.slotOf Z own_F "count" "I" := Jvm.RoadKit.slot_ne (Or.inl (tw51 hw)) (Or.inl (tw22 hw)) (by decide) (t := .int) (t' := .int) (by decide) (by decide)
theorem sn_108 {Z : State} {a0 : Array Value} (hw : ∀ d ∈ tables_1, d.before a0 Z = true) : Jvm.RoadKit.slotOf Z own_F "messageBytes" "J" ≠ Jvm.RoadKit.slotOf Z own_F "count" "I" := Jvm.RoadKit.slot_ne (Or.inl (tw53 hw)) (Or.inl (tw22 hw)) (by decide) (t := .long) (t' := .int) (by decide) (by decide)
theorem sn_109 {Z : State} {a0 : Array Value} (hw : ∀ d ∈ tables_1, d.before a0 Z = true) : Jvm.RoadKit.slotOf Z own_F "dataLength" "J" ≠ Jvm.RoadKit.slotOf Z own_F "count" "I" := Jvm.RoadKit.slot_ne (Or.inl (tw55 hw)) (Or.inl (tw22 hw)) (by decide) (t := .long) (t' := .int) (by decide) (by decide)
theorem d3_15 : decode prog_100_method_2_code 15 = .ok (.iload_n 1, 1) := by decide +kernel
theorem d3_16 : decode prog_100_method_2_code 16 = .ok (.bastore, 1) := by decide +kernel
theorem d3_17 : decode prog_100_method_2_code 17 = .ok (.aload_n 0, 1) := by decide +kernel
theorem d3_18 : decode prog_100_method_2_code 18 = .ok (.getfield 17, 3) := by decide +kernel
theorem d3_21 : decode prog_100_method_2_code 21 = .ok (.iconst 2, 1) := by decide +kernel
theorem d3_22 : decode prog_100_method_2_code 22 = .ok (.if_icmp .ne 7, 3) := by decide +kernel
theorem d3_29 : decode prog_100_method_2_code 29 = .ok (.aload_n 0, 1) := by decide +kernel
theorem d3_30 : decode prog_100_method_2_code 30 = .ok (.getfield 17, 3) := by decide +kernel
theorem d3_33 : decode prog_100_method_2_code 33 = .ok (.aload_n 0, 1) := by decide +kernel
theorem d3_34 : decode prog_100_method_2_code 34 = .ok (.invokevirtual 24, 3) := by decide +kernel
theorem d3_37 : decode prog_100_method_2_code 37 = .ok (.if_icmp .ne 8, 3) := by decide +kernel
theorem d3_45 : decode prog_100_method_2_code 45 = .ok (.aload_n 0, 1) := by decide +kernel
theorem d3_46 : decode prog_100_method_2_code 46 = .ok (.getfield 17, 3) := by decide +kernel
theorem d3_49 : decode prog_100_method_2_code 49 = .ok (.aload_n 0, 1) := by decide +kernel
theorem d3_50 : decode prog_100_method_2_code 50 = .ok (.invokevirtual 24, 3) := by decide +kernel
theorem d3_53 : decode prog_100_method_2_code 53 = .ok (.aload_n 0, 1) := by decide +kernel
theorem d3_54 : decode prog_100_method_2_code 54 = .ok (.getfield 13, 3) := by decide +kernel
theorem d3_57 : decode prog_100_method_2_code 57 = .ok (.ifCond .eq 7, 3) := by decide +kernel
theorem d3_64 : decode prog_100_method_2_code 64 = .ok (.iconst 0, 1) := by decide +kernel
theorem d3_65 : decode prog_100_method_2_code 65 = .ok (.iadd, 1) := by decide +kernel
theorem d3_66 : decode prog_100_method_2_code 66 = .ok (.if_icmp .ge 5, 3) := by decide +kernel
theorem d3_69 : decode prog_100_method_2_code 69 = .ok (.iconst 0, 1) := by decide +kernel
theorem d3_70 : decode prog_100_method_2_code 70 = .ok (.ireturn, 1) := by decide +kernel
theorem ef_30u (m : MethodId) (x0 : Addr) (x1 : Int32) (x2 : Int64) : entryFrame m #[(.ref x0), (.int x1), (.long x2)] 4 = mkF m 0 #[rv x0, iv x1, jv x2, .second] [] := by first | (simp [entryFrame, mkF, argsToLocals, Value.category]; done) | rfl
def Q30u (Z : State) (ob : Addr) (bx : Int32) (lim : Int64) (ba : Addr) (fB : Nat → Int32) (h0 : Heap) (n0 : Nat) (v : Option Value) (h : Heap) (L : List Loc) : Prop := v = some (.int (0 : Int32)) ∧ Fr n0 L ∧ Keep h0 h [ob, ba] ∧ Exa Z h ob own_F ∧ Fld Z h ob own_F "bytes" "[B" (.ref ba) ∧ Fld Z h ob own_F "masked" "Z" (.int (0 : Int32)) ∧ Fld Z h ob own_F "count" "I" (.int (1 : Int32)) ∧ Fld Z h ob own_F "opcode" "I" (.int (0 : Int32)) ∧ Fld Z h ob own_F "last" "Z" (.int (0 : Int32)) ∧ Fld Z h ob own_F "open" "Z" (.int (0 : Int32)) ∧ Fld Z h ob own_F "length" "J" (.long (0 : Int64)) ∧ Fld Z h ob own_F "maskAt" "I" (.int (0 : Int32)) ∧ Fld Z h ob own_F "messageOpcode" "I" (.int (0 : Int32)) ∧ Fld Z h ob own_F "messageBytes" "J" (.long (0 : Int64)) ∧ Fld Z h ob own_F "dataLength" "J" (.long (0 : Int64)) ∧ BA Z h ba 14 (own_upd fB 0 (bx).toInt8.toInt32)
set_option maxRecDepth 65536 in
set_option maxHeartbeats 40000000 in
theorem rm30u (l : Launch) (Z : State) (a0 : Array Value) (hw : ∀ d ∈ tables_1, d.before a0 Z = true) (ws : List Jvm.Cond) (ob : Addr) (bx : Int32) (lim : Int64) (ba : Addr) (fB : Nat → Int32) (h0 : Heap) (n0 : Nat) (Z0 : n0 ≤ h0.size) (E_ob : Exa Z h0 ob own_F) (F_bytes : Fld Z h0 ob own_F "bytes" "[B" (.ref ba)) (F_masked : Fld Z h0 ob own_F "masked" "Z" (.int (0 : Int32))) (F_count : Fld Z h0 ob own_F "count" "I" (.int (0 : Int32))) (F_opcode : Fld Z h0 ob own_F "opcode" "I" (.int (0 : Int32))) (F_last : Fld Z h0 ob own_F "last" "Z" (.int (0 : Int32))) (F_open : Fld Z h0 ob own_F "open" "Z" (.int (0 : Int32))) (F_length : Fld Z h0 ob own_F "length" "J" (.long (0 : Int64))) (F_maskAt : Fld Z h0 ob own_F "maskAt" "I" (.int (0 : Int32))) (F_messageOpcode : Fld Z h0 ob own_F "messageOpcode" "I" (.int (0 : Int32))) (F_messageBytes : Fld Z h0 ob own_F "messageBytes" "J" (.long (0 : Int64))) (F_dataLength : Fld Z h0 ob own_F "dataLength" "J" (.long (0 : Int64))) (VB : BA Z h0 ba 14 fB) (hne : ob ≠ ba) (g_ob : n0 ≤ ob) (g_ba : n0 ≤ ba) (hl : lim = (9223372036854775807 : Int64)) :
    MetFree l (⟨own_F, "take", "(BJ)Z"⟩ : MethodName) (head1 (Jvm.Cond.code (⟨own_F, "take", "(BJ)Z"⟩ : MethodName) prog_100_method_2_code 4 (some .boolean) :: ws) ({ frames := 1, cells := 0, slots := 0, locals := 14 } : Room)) (fun a U => a = #[(.ref ob), (.int bx), (.long lim)] ∧ Z.Warmed39 U.vm ∧ U.heap = h0) (fun _ _ _ _ _ => True) (fun _ U o U' => ∃ v L, o = .returned v ∧ Q30u Z ob bx lim ba fB h0 n0 v U'.heap L ∧ FrameEnd U o U' L ({ frames := 1, cells := 0, slots := 0, locals := 14 } : Room).cells ({ frames := 1, cells := 0, slots := 0, locals := 14 } : Room).slots) := by
  refine MetFree.of_bodySF (plainFor_of_name pn_0) hisR ?_
  intro p e s m args below meth c s₁ Bd hml0 hP hK
  obtain ⟨rfl, hZ, hh⟩ := hP
  have hx := Bd.exec
  have hby := Bd.bytes
  have hml : c.maxLocals = 4 := hml0
  have hown : s.vm.findClass own_F = some m.cls := findClass_of_methodNamed Bd.named
  have hnm := (name_of_methodNamed Bd.named Bd.method).1
  have X0 : Stand p l e ({ frames := 1, cells := 0, slots := 0, locals := 14 } : Room) s m #[(.ref ob), (.int bx), (.long lim)] below meth c s₁ [] 0 0 := Stand.of_body Bd
  have e0 : s₁.heap = h0 := by rw [← hh, Bd.state]; rfl
  have N0 := Fr.nil n0
  have hlk : meth.locks = false := BodyLoose.notSynchronized Bd
  suffices hwk : Wk p.tables e below (s₁.setTop (mkF m 0 #[rv ob, iv bx, jv lim, .second] [])) (fun U o => U.status = .running ∧ Ended U below o ∧ ∃ v L, o = .returned v ∧ Q30u Z ob bx lim ba fB h0 n0 v U.heap L ∧ FrameEnd s o U L 0 0) by
    obtain ⟨U, o, k1, k2⟩ := hwk
    exact ⟨U, o, castTop (ef_30u m ob bx lim) k1, k2⟩
  have K0 := Keep.refl h0 [ob, ba]
  refine Wk.go (A' := s₁.setTop (mkF m 1 #[rv ob, iv bx, jv lim, .second] [(.ref ob)])) (fun t k => XS.aloadN X0.here hx rfl (hb hby d3_0) rfl rfl k) ?_
  obtain ⟨T1, X1, e1, st1⟩ := getF X0 hx hZ hown (host := "") (Or.inl (tw11 hw)) Via.refl e0 F_bytes (g := (mkF m 1 #[rv ob, iv bx, jv lim, .second] [(.ref ob)])) rfl rfl (hb hby d3_1)
  refine Wk.go (A' := T1.setTop (mkF m 4 #[rv ob, iv bx, jv lim, .second] [(.ref ba)])) (fun t k => st1 t k) ?_
  refine Wk.go (A' := T1.setTop (mkF m 5 #[rv ob, iv bx, jv lim, .second] [(.ref ob), (.ref ba)])) (fun t k => XS.aloadN X1.here hx rfl (hb hby d3_4) rfl rfl k) ?_
  refine Wk.go (A' := T1.setTop (mkF m 6 #[rv ob, iv bx, jv lim, .second] [(.ref ob), (.ref ob), (.ref ba)])) (fun t k => XS.dup X1.here hx rfl (hb hby d3_5) rfl rfl k) ?_
  obtain ⟨T2, X2, e2, st2⟩ := getF X1 hx hZ hown (host := "") (Or.inl (tw21 hw)) Via.refl e1 F_count (g := (mkF m 6 #[rv ob, iv bx, jv lim, .second] [(.ref ob), (.ref ob), (.ref ba)])) rfl rfl (hb hby d3_6)
  refine Wk.go (A' := T2.setTop (mkF m 9 #[rv ob, iv bx, jv lim, .second] [(.int (0 : Int32)), (.ref ob), (.ref ba)])) (fun t k => st2 t k) ?_
  refine Wk.go (A' := T2.setTop (mkF m 10 #[rv ob, iv bx, jv lim, .second] [(.int (0 : Int32)), (.ref ob), (.int (0 : Int32)), (.ref ba)])) (fun t k => XS.dupX1 X2.here hx rfl (hb hby d3_9) rfl rfl rfl k) ?_
  refine Wk.go (A' := T2.setTop (mkF m 11 #[rv ob, iv bx, jv lim, .second] [(.int (1 : Int32)), (.int (0 : Int32)), (.ref ob), (.int (0 : Int32)), (.ref ba)])) (fun t k => XS.iconst X2.here hx rfl (hb hby d3_10) k) ?_
  refine Wk.go (A' := T2.setTop (mkF m 12 #[rv ob, iv bx, jv lim, .second] [(.int (1 : Int32)), (.ref ob), (.int (0 : Int32)), (.ref ba)])) (fun t k => XS.iadd X2.here hx rfl (hb hby d3_11) rfl k) ?_
  obtain ⟨T3, h3, X3, e3, W3, st3⟩ := putF X2 hx hZ hown (host := "") (Or.inl (tw21 hw)) Via.refl e2 F_count E_ob (Or.inl (tw22 hw)) (tw3 hw) (ty := .int) (by decide) rfl rfl (g := (mkF m 12 #[rv ob, iv bx, jv lim, .second] [(.int (1 : Int32)), (.ref ob), (.int (0 : Int32)), (.ref ba)])) rfl rfl (hb hby d3_12)
  have f4 := E_ob.wr W3
  have f5 := VB.other W3 (Ne.symm hne)
  have f6 := F_bytes.other W3 (Or.inr (sn_100 hw))
  have f7 := F_masked.other W3 (Or.inr (sn_101 hw))
  have f8 := F_count.same W3
  have f9 := F_opcode.other W3 (Or.inr (sn_102 hw))
  have f10 := F_last.other W3 (Or.inr (sn_103 hw))
  have f11 := F_open.other W3 (Or.inr (sn_104 hw))
  have f12 := F_length.other W3 (Or.inr (sn_105 hw))
  have f13 := F_maskAt.other W3 (Or.inr (sn_106 hw))
  have f14 := F_messageOpcode.other W3 (Or.inr (sn_107 hw))
  have f15 := F_messageBytes.other W3 (Or.inr (sn_108 hw))
  have f16 := F_dataLength.other W3 (Or.inr (sn_109 hw))
  have Zp3 : n0 ≤ h3.size := Nat.le_trans Z0 (Nat.le_of_eq W3.size.symm)
  have K3 := K0.wr W3 (Or.inl (List.mem_of_getElem? (i := 0) rfl))
  have N3 := Fr.snoc X3 N0 g_ob
  refine Wk.go (A' := T3.setTop (mkF m 15 #[rv ob, iv bx, jv lim, .second] [(.int (0 : Int32)), (.ref ba)])) (fun t k => st3 t k) ?_
  refine Wk.go (A' := T3.setTop (mkF m 16 #[rv ob, iv bx, jv lim, .second] [(.int bx), (.int (0 : Int32)), (.ref ba)])) (fun t k => XS.iloadN X3.here hx rfl (hb hby d3_15) rfl k) ?_
  obtain ⟨T17, h17, X17, e17, W17, B17, st17⟩ := own_stB X3 hx hZ e3 f5 (j := (0 : Int32)) (by decide) (g := (mkF m 16 #[rv ob, iv bx, jv lim, .second] [(.int bx), (.int (0 : Int32)), (.ref ba)])) rfl rfl (hb hby d3_16)
  have V17 : BA Z h17 ba 14 (own_upd fB 0 (bx).toInt8.toInt32) := B17
  obtain ⟨f2, hf2⟩ : ∃ z, z = (own_upd fB 0 (bx).toInt8.toInt32) := ⟨_, rfl⟩
  rw [← hf2] at V17
  have f18 := f4.wr W17
  have f19 := V17
  have f20 := f6.other W17 (Or.inl hne)
  have f21 := f7.other W17 (Or.inl hne)
  have f22 := f8.other W17 (Or.inl hne)
  have f23 := f9.other W17 (Or.inl hne)
  have f24 := f10.other W17 (Or.inl hne)
  have f25 := f11.other W17 (Or.inl hne)
  have f26 := f12.other W17 (Or.inl hne)
  have f27 := f13.other W17 (Or.inl hne)
  have f28 := f14.other W17 (Or.inl hne)
  have f29 := f15.other W17 (Or.inl hne)
  have f30 := f16.other W17 (Or.inl hne)
  have Zp17 : n0 ≤ h17.size := Nat.le_trans Zp3 (Nat.le_of_eq W17.size.symm)
  have K17 := K3.wr W17 (Or.inl (List.mem_of_getElem? (i := 1) rfl))
  have N17 := Fr.snoc X17 N3 g_ba
  refine Wk.go (A' := T17.setTop (mkF m 17 #[rv ob, iv bx, jv lim, .second] [])) (fun t k => st17 t k) ?_
  refine Wk.go (A' := T17.setTop (mkF m 18 #[rv ob, iv bx, jv lim, .second] [(.ref ob)])) (fun t k => XS.aloadN X17.here hx rfl (hb hby d3_17) rfl rfl k) ?_
  obtain ⟨T31, X31, e31, st31⟩ := getF X17 hx hZ hown (host := "") (Or.inl (tw21 hw)) Via.refl e17 f22 (g := (mkF m 18 #[rv ob, iv bx, jv lim, .second] [(.ref ob)])) rfl rfl (hb hby d3_18)
  refine Wk.go (A' := T31.setTop (mkF m 21 #[rv ob, iv bx, jv lim, .second] [(.int (1 : Int32))])) (fun t k => st31 t k) ?_
  refine Wk.go (A' := T31.setTop (mkF m 22 #[rv ob, iv bx, jv lim, .second] [(.int (2 : Int32)), (.int (1 : Int32))])) (fun t k => XS.iconst X31.here hx rfl (hb hby d3_21) k) ?_
  have hc22 : ¬ ((1 : Int32) = (2 : Int32)) := by decide
  refine Wk.go (A' := T31.setTop (mkF m 29 #[rv ob, iv bx, jv lim, .second] [])) (fun t k => XS.icmpYes X31.here hx rfl (pc0 := 22) (pc' := 29) rfl (hb hby d3_22) rfl (feq hc22).2 (by decide) (by decide) k) ?_
  refine Wk.go (A' := T31.setTop (mkF m 30 #[rv ob, iv bx, jv lim, .second] [(.ref ob)])) (fun t k => XS.aloadN X31.here hx rfl (hb hby d3_29) rfl rfl k) ?_
  obtain ⟨T32, X32, e32, st32⟩ := getF X31 hx hZ hown (host := "") (Or.inl (tw21 hw)) Via.refl e31 f22 (g := (mkF m 30 #[rv ob, iv bx, jv lim, .second] [(.ref ob)])) rfl rfl (hb hby d3_30)
  refine Wk.go (A' := T32.setTop (mkF m 33 #[rv ob, iv bx, jv lim, .second] [(.int (1 : Int32))])) (fun t k => st32 t k) ?_
  refine Wk.go (A' := T32.setTop (mkF m 34 #[rv ob, iv bx, jv lim, .second] [(.ref ob), (.int (1 : Int32))])) (fun t k => XS.aloadN X32.here hx rfl (hb hby d3_33) rfl rfl k) ?_
  obtain ⟨cq33, q33, q33'⟩ := f18.cell
  obtain ⟨_, _, ⟨T33, L33, k33, n33⟩, -, X33, ⟨Lc33, hQ33, l33, y33, z33⟩, st33⟩ := X32.privateBack hx (y := (⟨own_F, "lengthEnd", "()I"⟩ : MethodName)) hown (mvT hZ (tw23 hw)) (mvT hZ (tw24 hw)) (own_sel (mvT hZ (tw3 hw)) (Cond.privateMethod_at (mvP hZ (tw25 hw) (args := #[]))) (mvT hZ (tw24 hw)) (by decide)) (Cond.privateMethod_at (mvP hZ (tw25 hw) (args := #[]))) (mvT hZ (tw26 hw)) (by decide) (backOf (W := 1) (rm4 l Z a0 hw [] ob ba f2 (1 : Int32) h17 n0 Zp17 f20 f22 f19) hZ (tw26 hw) (tw4 hw) (by decide) (by decide)) (g := (mkF m 34 #[rv ob, iv bx, jv lim, .second] [(.ref ob), (.int (1 : Int32))])) rfl (by rw [hml]; rfl) (Steps.refl _) (a := ob) (by rw [e32]; exact q33) q33' (argsL := []) (rest := [(.int (1 : Int32))]) (lenOf pd_1 rfl) rfl (by show 2 * 0 + _ ≤ _; exact Nat.le_of_eq rfl) (hb hby d3_34) (fun _ _ => ⟨rfl, e32, (by decide : 0 + 0 ≤ _), (by decide : 0 + 0 ≤ _)⟩)
  dsimp only [Pt.U, Pt.locs, Pt.cells, Pt.slots] at X33 l33 y33 z33 st33 hQ33
  subst l33 y33 z33
  obtain ⟨rfl, N33q, hE33⟩ := hQ33
  have N33 := Fr.app N17 N33q
  refine Wk.go (A' := T33.setTop (mkF m 37 #[rv ob, iv bx, jv lim, .second] [(.int (f_lend ob ba f2 (1 : Int32))), (.int (1 : Int32))])) (fun t k => st33.trans k) ?_
  rw [show (f_lend ob ba f2 (1 : Int32)) = (2 : Int32) from own_l1 _ _ _ (by decide)]
  have hc37 : ¬ ((1 : Int32) = (2 : Int32)) := by decide
  refine Wk.go (A' := T33.setTop (mkF m 45 #[rv ob, iv bx, jv lim, .second] [])) (fun t k => XS.icmpYes X33.here hx rfl (pc0 := 37) (pc' := 45) rfl (hb hby d3_37) rfl (feq hc37).2 (by decide) (by decide) k) ?_
  refine Wk.go (A' := T33.setTop (mkF m 46 #[rv ob, iv bx, jv lim, .second] [(.ref ob)])) (fun t k => XS.aloadN X33.here hx rfl (hb hby d3_45) rfl rfl k) ?_
  obtain ⟨T34, X34, e34, st34⟩ := getF X33 hx hZ hown (host := "") (Or.inl (tw21 hw)) Via.refl (hE33) f22 (g := (mkF m 46 #[rv ob, iv bx, jv lim, .second] [(.ref ob)])) rfl rfl (hb hby d3_46)
  refine Wk.go (A' := T34.setTop (mkF m 49 #[rv ob, iv bx, jv lim, .second] [(.int (1 : Int32))])) (fun t k => st34 t k) ?_
  refine Wk.go (A' := T34.setTop (mkF m 50 #[rv ob, iv bx, jv lim, .second] [(.ref ob), (.int (1 : Int32))])) (fun t k => XS.aloadN X34.here hx rfl (hb hby d3_49) rfl rfl k) ?_
  obtain ⟨cq35, q35, q35'⟩ := f18.cell
  obtain ⟨_, _, ⟨T35, L35, k35, n35⟩, -, X35, ⟨Lc35, hQ35, l35, y35, z35⟩, st35⟩ := X34.privateBack hx (y := (⟨own_F, "lengthEnd", "()I"⟩ : MethodName)) hown (mvT hZ (tw23 hw)) (mvT hZ (tw24 hw)) (own_sel (mvT hZ (tw3 hw)) (Cond.privateMethod_at (mvP hZ (tw25 hw) (args := #[]))) (mvT hZ (tw24 hw)) (by decide)) (Cond.privateMethod_at (mvP hZ (tw25 hw) (args := #[]))) (mvT hZ (tw26 hw)) (by decide) (backOf (W := 1) (rm4 l Z a0 hw [] ob ba f2 (1 : Int32) h17 n0 Zp17 f20 f22 f19) hZ (tw26 hw) (tw4 hw) (by decide) (by decide)) (g := (mkF m 50 #[rv ob, iv bx, jv lim, .second] [(.ref ob), (.int (1 : Int32))])) rfl (by rw [hml]; rfl) (Steps.refl _) (a := ob) (by rw [e34]; exact q35) q35' (argsL := []) (rest := [(.int (1 : Int32))]) (lenOf pd_1 rfl) rfl (by show 2 * 0 + _ ≤ _; exact Nat.le_of_eq rfl) (hb hby d3_50) (fun _ _ => ⟨rfl, e34, (by decide : 0 + 0 ≤ _), (by decide : 0 + 0 ≤ _)⟩)
  dsimp only [Pt.U, Pt.locs, Pt.cells, Pt.slots] at X35 l35 y35 z35 st35 hQ35
  subst l35 y35 z35
  obtain ⟨rfl, N35q, hE35⟩ := hQ35
  have N35 := Fr.app N33 N35q
  refine Wk.go (A' := T35.setTop (mkF m 53 #[rv ob, iv bx, jv lim, .second] [(.int (f_lend ob ba f2 (1 : Int32))), (.int (1 : Int32))])) (fun t k => st35.trans k) ?_
  rw [show (f_lend ob ba f2 (1 : Int32)) = (2 : Int32) from own_l1 _ _ _ (by decide)]
  refine Wk.go (A' := T35.setTop (mkF m 54 #[rv ob, iv bx, jv lim, .second] [(.ref ob), (.int (2 : Int32)), (.int (1 : Int32))])) (fun t k => XS.aloadN X35.here hx rfl (hb hby d3_53) rfl rfl k) ?_
  obtain ⟨T36, X36, e36, st36⟩ := getF X35 hx hZ hown (host := "") (Or.inl (tw13 hw)) Via.refl (hE35) f21 (g := (mkF m 54 #[rv ob, iv bx, jv lim, .second] [(.ref ob), (.int (2 : Int32)), (.int (1 : Int32))])) rfl rfl (hb hby d3_54)
  refine Wk.go (A' := T36.setTop (mkF m 57 #[rv ob, iv bx, jv lim, .second] [(.int (0 : Int32)), (.int (2 : Int32)), (.int (1 : Int32))])) (fun t k => st36 t k) ?_
  have hc57 : (0 : Int32) = (0 : Int32) := by decide
  refine Wk.go (A' := T36.setTop (mkF m 64 #[rv ob, iv bx, jv lim, .second] [(.int (2 : Int32)), (.int (1 : Int32))])) (fun t k => XS.ifYes X36.here hx rfl (pc0 := 57) (pc' := 64) rfl (hb hby d3_57) rfl ((if0 _ _).trans (teq hc57).1) (by decide) (by decide) k) ?_
  refine Wk.go (A' := T36.setTop (mkF m 65 #[rv ob, iv bx, jv lim, .second] [(.int (0 : Int32)), (.int (2 : Int32)), (.int (1 : Int32))])) (fun t k => XS.iconst X36.here hx rfl (hb hby d3_64) k) ?_
  refine Wk.go (A' := T36.setTop (mkF m 66 #[rv ob, iv bx, jv lim, .second] [(.int (2 : Int32)), (.int (1 : Int32))])) (fun t k => XS.iadd X36.here hx rfl (hb hby d3_65) rfl k) ?_
  have hc66 : (1 : Int32) < (2 : Int32) := by decide
  refine Wk.go (A' := T36.setTop (mkF m 69 #[rv ob, iv bx, jv lim, .second] [])) (fun t k => XS.icmpNo X36.here hx rfl (hb hby d3_66) rfl (tlt hc66).2.1 k) ?_
  refine Wk.go (A' := T36.setTop (mkF m 70 #[rv ob, iv bx, jv lim, .second] [(.int (0 : Int32))])) (fun t k => XS.iconst X36.here hx rfl (hb hby d3_69) k) ?_
  refine own_fin (Qv := Q30u Z ob bx lim ba fB h0 n0) (v := some (.int (0 : Int32))) X36 hlk (fun h => by rw [Bd.returns] at h; cases h) (fun fs hr => retN X36 hx (t := .boolean) Bd.returns (by simp) (hb hby d3_70) hr) ?_ (by decide) (by decide)
  show Q30u Z ob bx lim ba fB h0 n0 _ T36.heap _
  rw [e36]
  have fin := f19
  rw [hf2] at fin
  exact ⟨rfl, N35, K17, f18, f20, f21, f22, f23, f24, f25, f26, f27, f28, f29, f30, fin⟩
theorem d3_25 : decode prog_100_method_2_code 25 = .ok (.aload_n 0, 1) := by decide +kernel
theorem tw27 {Z : State} {a0 : Array Value} (hw : ∀ d ∈ tables_1, d.before a0 Z = true) : (Jvm.Cond.methodLink "com/example/dense_envelope/denseenvelope/websocket/FrameHeader" (21 : Nat) ({ cls := "com/example/dense_envelope/denseenvelope/websocket/FrameHeader", name := "checkStart", desc := "()V" } : Jvm.MethodName)).before a0 Z = true := hw _ (List.mem_of_getElem? (i := 27) rfl)
theorem tw30 {Z : State} {a0 : Array Value} (hw : ∀ d ∈ tables_1, d.before a0 Z = true) : (Jvm.Cond.code ({ cls := "com/example/dense_envelope/denseenvelope/websocket/FrameHeader", name := "checkStart", desc := "()V" } : Jvm.MethodName) prog_100_method_10_code (1 : Nat) (Option.none : Option Jvm.ClassFile.FieldType)).before a0 Z = true := hw _ (List.mem_of_getElem? (i := 30) rfl)
theorem pd_2 : parseMethodDescriptor "()V" = some ⟨[], none⟩ := by decide +kernel
theorem d3_26 : decode prog_100_method_2_code 26 = .ok (.invokevirtual 21, 3) := by decide +kernel
theorem tw28 {Z : State} {a0 : Array Value} (hw : ∀ d ∈ tables_1, d.before a0 Z = true) : (Jvm.Cond.instanceMethod ({ cls := "com/example/dense_envelope/denseenvelope/websocket/FrameHeader", name := "checkStart", desc := "()V" } : Jvm.MethodName)).before a0 Z = true := hw _ (List.mem_of_getElem? (i := 28) rfl)
theorem tw29 {Z : State} {a0 : Array Value} (hw : ∀ d ∈ tables_1, d.before a0 Z = true) : (Jvm.Cond.privateMethod ({ cls := "com/example/dense_envelope/denseenvelope/websocket/FrameHeader", name := "checkStart", desc := "()V" } : Jvm.MethodName)).before a0 Z = true := hw _ (List.mem_of_getElem? (i := 29) rfl)
theorem d3_40 : decode prog_100_method_2_code 40 = .ok (.aload_n 0, 1) := by decide +kernel
theorem d3_41 : decode prog_100_method_2_code 41 = .ok (.lload_n 2, 1) := by decide +kernel
theorem tw42 {Z : State} {a0 : Array Value} (hw : ∀ d ∈ tables_1, d.before a0 Z = true) : (Jvm.Cond.methodLink "com/example/dense_envelope/denseenvelope/websocket/FrameHeader" (28 : Nat) ({ cls := "com/example/dense_envelope/denseenvelope/websocket/FrameHeader", name := "announce", desc := "(J)V" } : Jvm.MethodName)).before a0 Z = true := hw _ (List.mem_of_getElem? (i := 42) rfl)
theorem tw45 {Z : State} {a0 : Array Value} (hw : ∀ d ∈ tables_1, d.before a0 Z = true) : (Jvm.Cond.code ({ cls := "com/example/dense_envelope/denseenvelope/websocket/FrameHeader", name := "announce", desc := "(J)V" } : Jvm.MethodName) prog_100_method_11_code (8 : Nat) (Option.none : Option Jvm.ClassFile.FieldType)).before a0 Z = true := hw _ (List.mem_of_getElem? (i := 45) rfl)
theorem pd_3 : parseMethodDescriptor "(J)V" = some ⟨[.long], none⟩ := by decide +kernel
theorem d3_42 : decode prog_100_method_2_code 42 = .ok (.invokevirtual 28, 3) := by decide +kernel
theorem tw43 {Z : State} {a0 : Array Value} (hw : ∀ d ∈ tables_1, d.before a0 Z = true) : (Jvm.Cond.instanceMethod ({ cls := "com/example/dense_envelope/denseenvelope/websocket/FrameHeader", name := "announce", desc := "(J)V" } : Jvm.MethodName)).before a0 Z = true := hw _ (List.mem_of_getElem? (i := 43) rfl)
theorem tw44 {Z : State} {a0 : Array Value} (hw : ∀ d ∈ tables_1, d.before a0 Z = true) : (Jvm.Cond.privateMethod ({ cls := "com/example/dense_envelope/denseenvelope/websocket/FrameHeader", name := "announce", desc := "(J)V" } : Jvm.MethodName)).before a0 Z = true := hw _ (List.mem_of_getElem? (i := 44) rfl)
theorem d3_71 : decode prog_100_method_2_code 71 = .ok (.aload_n 0, 1) := by decide +kernel
theorem d3_72 : decode prog_100_method_2_code 72 = .ok (.iconst 0, 1) := by decide +kernel
theorem d3_73 : decode prog_100_method_2_code 73 = .ok (.putfield 17, 3) := by decide +kernel
theorem d3_76 : decode prog_100_method_2_code 76 = .ok (.iconst 1, 1) := by decide +kernel
theorem d3_77 : decode prog_100_method_2_code 77 = .ok (.ireturn, 1) := by decide +kernel
theorem ef_31nu (m : MethodId) (x0 : Addr) (x1 : Int32) (x2 : Int64) : entryFrame m #[(.ref x0), (.int x1), (.long x2)] 4 = mkF m 0 #[rv x0, iv x1, jv x2, .second] [] := by first | (simp [entryFrame, mkF, argsToLocals, Value.category]; done) | rfl
def Q31nu (Z : State) (ob : Addr) (bx : Int32) (lim : Int64) (ba : Addr) (fB : Nat → Int32) (h0 : Heap) (n0 : Nat) (v : Option Value) (h : Heap) (L : List Loc) : Prop := ∃ lnQ : Int64, v = some (.int (1 : Int32)) ∧ Fr n0 L ∧ Keep h0 h [ob, ba] ∧ Exa Z h ob own_F ∧ Fld Z h ob own_F "bytes" "[B" (.ref ba) ∧ Fld Z h ob own_F "masked" "Z" (.int (0 : Int32)) ∧ Fld Z h ob own_F "count" "I" (.int (0 : Int32)) ∧ Fld Z h ob own_F "opcode" "I" (.int (2 : Int32)) ∧ Fld Z h ob own_F "last" "Z" (.int (1 : Int32)) ∧ Fld Z h ob own_F "open" "Z" (.int (0 : Int32)) ∧ Fld Z h ob own_F "length" "J" (.long lnQ) ∧ Fld Z h ob own_F "maskAt" "I" (.int (2 : Int32)) ∧ Fld Z h ob own_F "messageOpcode" "I" (.int (2 : Int32)) ∧ Fld Z h ob own_F "messageBytes" "J" (.long (0 : Int64)) ∧ Fld Z h ob own_F "dataLength" "J" (.long lnQ) ∧ BA Z h ba 14 (own_upd fB 1 (bx).toInt8.toInt32)
set_option maxRecDepth 65536 in
set_option maxHeartbeats 40000000 in
theorem rm31nu (l : Launch) (Z : State) (a0 : Array Value) (hw : ∀ d ∈ tables_1, d.before a0 Z = true) (ws : List Jvm.Cond) (ob : Addr) (bx : Int32) (lim : Int64) (ba : Addr) (fB : Nat → Int32) (h0 : Heap) (n0 : Nat) (Z0 : n0 ≤ h0.size) (E_ob : Exa Z h0 ob own_F) (F_bytes : Fld Z h0 ob own_F "bytes" "[B" (.ref ba)) (F_masked : Fld Z h0 ob own_F "masked" "Z" (.int (0 : Int32))) (F_count : Fld Z h0 ob own_F "count" "I" (.int (1 : Int32))) (F_opcode : Fld Z h0 ob own_F "opcode" "I" (.int (0 : Int32))) (F_last : Fld Z h0 ob own_F "last" "Z" (.int (0 : Int32))) (F_open : Fld Z h0 ob own_F "open" "Z" (.int (0 : Int32))) (F_length : Fld Z h0 ob own_F "length" "J" (.long (0 : Int64))) (F_maskAt : Fld Z h0 ob own_F "maskAt" "I" (.int (0 : Int32))) (F_messageOpcode : Fld Z h0 ob own_F "messageOpcode" "I" (.int (0 : Int32))) (F_messageBytes : Fld Z h0 ob own_F "messageBytes" "J" (.long (0 : Int64))) (F_dataLength : Fld Z h0 ob own_F "dataLength" "J" (.long (0 : Int64))) (VB : BA Z h0 ba 14 fB) (hne : ob ≠ ba) (g_ob : n0 ≤ ob) (g_ba : n0 ≤ ba) (hl : lim = (9223372036854775807 : Int64)) (hb0 : fB 0 = (-126 : Int32)) (hbm : ((bx.toInt8.toInt32 &&& (128 : Int32)) = (0 : Int32))) (hbw : (bx.toInt8.toInt32 &&& (127 : Int32)) < (126 : Int32)) :
    MetFree l (⟨own_F, "take", "(BJ)Z"⟩ : MethodName) (head1 (Jvm.Cond.code (⟨own_F, "take", "(BJ)Z"⟩ : MethodName) prog_100_method_2_code 4 (some .boolean) :: ws) ({ frames := 2, cells := 0, slots := 0, locals := 33 } : Room)) (fun a U => a = #[(.ref ob), (.int bx), (.long lim)] ∧ Z.Warmed39 U.vm ∧ U.heap = h0) (fun _ _ _ _ _ => True) (fun _ U o U' => ∃ v L, o = .returned v ∧ Q31nu Z ob bx lim ba fB h0 n0 v U'.heap L ∧ FrameEnd U o U' L ({ frames := 2, cells := 0, slots := 0, locals := 33 } : Room).cells ({ frames := 2, cells := 0, slots := 0, locals := 33 } : Room).slots) := by
  refine MetFree.of_bodySF (plainFor_of_name pn_0) hisR ?_
  intro p e s m args below meth c s₁ Bd hml0 hP hK
  obtain ⟨rfl, hZ, hh⟩ := hP
  have hx := Bd.exec
  have hby := Bd.bytes
  have hml : c.maxLocals = 4 := hml0
  have hown : s.vm.findClass own_F = some m.cls := findClass_of_methodNamed Bd.named
  have hnm := (name_of_methodNamed Bd.named Bd.method).1
  have X0 : Stand p l e ({ frames := 2, cells := 0, slots := 0, locals := 33 } : Room) s m #[(.ref ob), (.int bx), (.long lim)] below meth c s₁ [] 0 0 := Stand.of_body Bd
  have e0 : s₁.heap = h0 := by rw [← hh, Bd.state]; rfl
  have N0 := Fr.nil n0
  have hlk : meth.locks = false := BodyLoose.notSynchronized Bd
  suffices hwk : Wk p.tables e below (s₁.setTop (mkF m 0 #[rv ob, iv bx, jv lim, .second] [])) (fun U o => U.status = .running ∧ Ended U below o ∧ ∃ v L, o = .returned v ∧ Q31nu Z ob bx lim ba fB h0 n0 v U.heap L ∧ FrameEnd s o U L 0 0) by
    obtain ⟨U, o, k1, k2⟩ := hwk
    exact ⟨U, o, castTop (ef_31nu m ob bx lim) k1, k2⟩
  have K0 := Keep.refl h0 [ob, ba]
  refine Wk.go (A' := s₁.setTop (mkF m 1 #[rv ob, iv bx, jv lim, .second] [(.ref ob)])) (fun t k => XS.aloadN X0.here hx rfl (hb hby d3_0) rfl rfl k) ?_
  obtain ⟨T1, X1, e1, st1⟩ := getF X0 hx hZ hown (host := "") (Or.inl (tw11 hw)) Via.refl e0 F_bytes (g := (mkF m 1 #[rv ob, iv bx, jv lim, .second] [(.ref ob)])) rfl rfl (hb hby d3_1)
  refine Wk.go (A' := T1.setTop (mkF m 4 #[rv ob, iv bx, jv lim, .second] [(.ref ba)])) (fun t k => st1 t k) ?_
  refine Wk.go (A' := T1.setTop (mkF m 5 #[rv ob, iv bx, jv lim, .second] [(.ref ob), (.ref ba)])) (fun t k => XS.aloadN X1.here hx rfl (hb hby d3_4) rfl rfl k) ?_
  refine Wk.go (A' := T1.setTop (mkF m 6 #[rv ob, iv bx, jv lim, .second] [(.ref ob), (.ref ob), (.ref ba)])) (fun t k => XS.dup X1.here hx rfl (hb hby d3_5) rfl rfl k) ?_
  obtain ⟨T2, X2, e2, st2⟩ := getF X1 hx hZ hown (host := "") (Or.inl (tw21 hw)) Via.refl e1 F_count (g := (mkF m 6 #[rv ob, iv bx, jv lim, .second] [(.ref ob), (.ref ob), (.ref ba)])) rfl rfl (hb hby d3_6)
  refine Wk.go (A' := T2.setTop (mkF m 9 #[rv ob, iv bx, jv lim, .second] [(.int (1 : Int32)), (.ref ob), (.ref ba)])) (fun t k => st2 t k) ?_
  refine Wk.go (A' := T2.setTop (mkF m 10 #[rv ob, iv bx, jv lim, .second] [(.int (1 : Int32)), (.ref ob), (.int (1 : Int32)), (.ref ba)])) (fun t k => XS.dupX1 X2.here hx rfl (hb hby d3_9) rfl rfl rfl k) ?_
  refine Wk.go (A' := T2.setTop (mkF m 11 #[rv ob, iv bx, jv lim, .second] [(.int (1 : Int32)), (.int (1 : Int32)), (.ref ob), (.int (1 : Int32)), (.ref ba)])) (fun t k => XS.iconst X2.here hx rfl (hb hby d3_10) k) ?_
  refine Wk.go (A' := T2.setTop (mkF m 12 #[rv ob, iv bx, jv lim, .second] [(.int (2 : Int32)), (.ref ob), (.int (1 : Int32)), (.ref ba)])) (fun t k => XS.iadd X2.here hx rfl (hb hby d3_11) rfl k) ?_
  obtain ⟨T3, h3, X3, e3, W3, st3⟩ := putF X2 hx hZ hown (host := "") (Or.inl (tw21 hw)) Via.refl e2 F_count E_ob (Or.inl (tw22 hw)) (tw3 hw) (ty := .int) (by decide) rfl rfl (g := (mkF m 12 #[rv ob, iv bx, jv lim, .second] [(.int (2 : Int32)), (.ref ob), (.int (1 : Int32)), (.ref ba)])) rfl rfl (hb hby d3_12)
  have f4 := E_ob.wr W3
  have f5 := VB.other W3 (Ne.symm hne)
  have f6 := F_bytes.other W3 (Or.inr (sn_100 hw))
  have f7 := F_masked.other W3 (Or.inr (sn_101 hw))
  have f8 := F_count.same W3
  have f9 := F_opcode.other W3 (Or.inr (sn_102 hw))
  have f10 := F_last.other W3 (Or.inr (sn_103 hw))
  have f11 := F_open.other W3 (Or.inr (sn_104 hw))
  have f12 := F_length.other W3 (Or.inr (sn_105 hw))
  have f13 := F_maskAt.other W3 (Or.inr (sn_106 hw))
  have f14 := F_messageOpcode.other W3 (Or.inr (sn_107 hw))
  have f15 := F_messageBytes.other W3 (Or.inr (sn_108 hw))
  have f16 := F_dataLength.other W3 (Or.inr (sn_109 hw))
  have Zp3 : n0 ≤ h3.size := Nat.le_trans Z0 (Nat.le_of_eq W3.size.symm)
  have K3 := K0.wr W3 (Or.inl (List.mem_of_getElem? (i := 0) rfl))
  have N3 := Fr.snoc X3 N0 g_ob
  refine Wk.go (A' := T3.setTop (mkF m 15 #[rv ob, iv bx, jv lim, .second] [(.int (1 : Int32)), (.ref ba)])) (fun t k => st3 t k) ?_
  refine Wk.go (A' := T3.setTop (mkF m 16 #[rv ob, iv bx, jv lim, .second] [(.int bx), (.int (1 : Int32)), (.ref ba)])) (fun t k => XS.iloadN X3.here hx rfl (hb hby d3_15) rfl k) ?_
  obtain ⟨T17, h17, X17, e17, W17, B17, st17⟩ := own_stB X3 hx hZ e3 f5 (j := (1 : Int32)) (by decide) (g := (mkF m 16 #[rv ob, iv bx, jv lim, .second] [(.int bx), (.int (1 : Int32)), (.ref ba)])) rfl rfl (hb hby d3_16)
  have V17 : BA Z h17 ba 14 (own_upd fB 1 (bx).toInt8.toInt32) := B17
  obtain ⟨f2, hf2⟩ : ∃ z, z = (own_upd fB 1 (bx).toInt8.toInt32) := ⟨_, rfl⟩
  rw [← hf2] at V17
  have f18 := f4.wr W17
  have f19 := V17
  have f20 := f6.other W17 (Or.inl hne)
  have f21 := f7.other W17 (Or.inl hne)
  have f22 := f8.other W17 (Or.inl hne)
  have f23 := f9.other W17 (Or.inl hne)
  have f24 := f10.other W17 (Or.inl hne)
  have f25 := f11.other W17 (Or.inl hne)
  have f26 := f12.other W17 (Or.inl hne)
  have f27 := f13.other W17 (Or.inl hne)
  have f28 := f14.other W17 (Or.inl hne)
  have f29 := f15.other W17 (Or.inl hne)
  have f30 := f16.other W17 (Or.inl hne)
  have Zp17 : n0 ≤ h17.size := Nat.le_trans Zp3 (Nat.le_of_eq W17.size.symm)
  have K17 := K3.wr W17 (Or.inl (List.mem_of_getElem? (i := 1) rfl))
  have N17 := Fr.snoc X17 N3 g_ba
  refine Wk.go (A' := T17.setTop (mkF m 17 #[rv ob, iv bx, jv lim, .second] [])) (fun t k => st17 t k) ?_
  have c1 : f2 1 = bx.toInt8.toInt32 := by rw [hf2, own_upd_eq]
  have cz : f2 0 = (-126 : Int32) := by rw [hf2, own_upd_ne _ _ (by decide)]; exact hb0
  have cm : ((f2 1 &&& (128 : Int32)) = (0 : Int32)) := by rw [c1]; exact hbm
  have cw : (f2 1 &&& (127 : Int32)) < (126 : Int32) := by rw [c1]; exact hbw
  refine Wk.go (A' := T17.setTop (mkF m 18 #[rv ob, iv bx, jv lim, .second] [(.ref ob)])) (fun t k => XS.aloadN X17.here hx rfl (hb hby d3_17) rfl rfl k) ?_
  obtain ⟨T31, X31, e31, st31⟩ := getF X17 hx hZ hown (host := "") (Or.inl (tw21 hw)) Via.refl e17 f22 (g := (mkF m 18 #[rv ob, iv bx, jv lim, .second] [(.ref ob)])) rfl rfl (hb hby d3_18)
  refine Wk.go (A' := T31.setTop (mkF m 21 #[rv ob, iv bx, jv lim, .second] [(.int (2 : Int32))])) (fun t k => st31 t k) ?_
  refine Wk.go (A' := T31.setTop (mkF m 22 #[rv ob, iv bx, jv lim, .second] [(.int (2 : Int32)), (.int (2 : Int32))])) (fun t k => XS.iconst X31.here hx rfl (hb hby d3_21) k) ?_
  have hc22 : (2 : Int32) = (2 : Int32) := by decide
  refine Wk.go (A' := T31.setTop (mkF m 25 #[rv ob, iv bx, jv lim, .second] [])) (fun t k => XS.icmpNo X31.here hx rfl (hb hby d3_22) rfl (teq hc22).2 k) ?_
  refine Wk.go (A' := T31.setTop (mkF m 26 #[rv ob, iv bx, jv lim, .second] [(.ref ob)])) (fun t k => XS.aloadN X31.here hx rfl (hb hby d3_25) rfl rfl k) ?_
  obtain ⟨cq32, q32, q32'⟩ := f18.cell
  obtain ⟨_, _, ⟨T32, L32, k32, n32⟩, -, X32, ⟨Lc32, hQ32, l32, y32, z32⟩, st32⟩ := X31.privateBack hx (y := (⟨own_F, "checkStart", "()V"⟩ : MethodName)) hown (mvT hZ (tw27 hw)) (mvT hZ (tw28 hw)) (own_sel (mvT hZ (tw3 hw)) (Cond.privateMethod_at (mvP hZ (tw29 hw) (args := #[]))) (mvT hZ (tw28 hw)) (by decide)) (Cond.privateMethod_at (mvP hZ (tw29 hw) (args := #[]))) (mvT hZ (tw30 hw)) (by decide) (backOf (W := 0) (rm5u l Z a0 hw [] ob ba f2 h17 n0 Zp17 f18 f20 f21 f22 f23 f24 f25 f26 f27 f28 f29 f30 f19 hne g_ob g_ba rfl cz cm) hZ (tw30 hw) (tw4 hw) (by decide) (by decide)) (g := (mkF m 26 #[rv ob, iv bx, jv lim, .second] [(.ref ob)])) rfl (by rw [hml]; rfl) (Steps.refl _) (a := ob) (by rw [e31]; exact q32) q32' (argsL := []) (rest := []) (lenOf pd_2 rfl) rfl (by show 2 * 0 + _ ≤ _; exact Nat.le_of_eq rfl) (hb hby d3_26) (fun _ _ => ⟨rfl, e31, (by decide : 0 + 0 ≤ _), (by decide : 0 + 0 ≤ _)⟩)
  dsimp only [Pt.U, Pt.locs, Pt.cells, Pt.slots] at X32 l32 y32 z32 st32 hQ32
  subst l32 y32 z32
  obtain ⟨rfl, N32q, Kq32, Eq32, Fq32_bytes, Fq32_masked, Fq32_count, Fq32_opcode, Fq32_last, Fq32_open, Fq32_length, Fq32_maskAt, Fq32_messageOpcode, Fq32_messageBytes, Fq32_dataLength, Vq32⟩ := hQ32
  have N32 := Fr.app N17 N32q
  have f33 := f18.keep Kq32
  have Zp32 : n0 ≤ T32.heap.size := Nat.le_trans Zp17 Kq32.1
  have Kt32 := K17.trans Kq32 (allS (Or.inl (List.mem_of_getElem? (i := 0) rfl)) (allS (Or.inl (List.mem_of_getElem? (i := 1) rfl)) all0))
  refine Wk.go (A' := T32.setTop (mkF m 29 #[rv ob, iv bx, jv lim, .second] [])) (fun t k => st32.trans k) ?_
  refine Wk.go (A' := T32.setTop (mkF m 30 #[rv ob, iv bx, jv lim, .second] [(.ref ob)])) (fun t k => XS.aloadN X32.here hx rfl (hb hby d3_29) rfl rfl k) ?_
  obtain ⟨T34, X34, e34, st34⟩ := getF X32 hx hZ hown (host := "") (Or.inl (tw21 hw)) Via.refl rfl Fq32_count (g := (mkF m 30 #[rv ob, iv bx, jv lim, .second] [(.ref ob)])) rfl rfl (hb hby d3_30)
  refine Wk.go (A' := T34.setTop (mkF m 33 #[rv ob, iv bx, jv lim, .second] [(.int (2 : Int32))])) (fun t k => st34 t k) ?_
  refine Wk.go (A' := T34.setTop (mkF m 34 #[rv ob, iv bx, jv lim, .second] [(.ref ob), (.int (2 : Int32))])) (fun t k => XS.aloadN X34.here hx rfl (hb hby d3_33) rfl rfl k) ?_
  obtain ⟨cq35, q35, q35'⟩ := Eq32.cell
  obtain ⟨_, _, ⟨T35, L35, k35, n35⟩, -, X35, ⟨Lc35, hQ35, l35, y35, z35⟩, st35⟩ := X34.privateBack hx (y := (⟨own_F, "lengthEnd", "()I"⟩ : MethodName)) hown (mvT hZ (tw23 hw)) (mvT hZ (tw24 hw)) (own_sel (mvT hZ (tw3 hw)) (Cond.privateMethod_at (mvP hZ (tw25 hw) (args := #[]))) (mvT hZ (tw24 hw)) (by decide)) (Cond.privateMethod_at (mvP hZ (tw25 hw) (args := #[]))) (mvT hZ (tw26 hw)) (by decide) (backOf (W := 1) (rm4 l Z a0 hw [] ob ba f2 (2 : Int32) T32.heap n0 Zp32 Fq32_bytes Fq32_count Vq32) hZ (tw26 hw) (tw4 hw) (by decide) (by decide)) (g := (mkF m 34 #[rv ob, iv bx, jv lim, .second] [(.ref ob), (.int (2 : Int32))])) rfl (by rw [hml]; rfl) (Steps.refl _) (a := ob) (by rw [e34]; exact q35) q35' (argsL := []) (rest := [(.int (2 : Int32))]) (lenOf pd_1 rfl) rfl (by show 2 * 0 + _ ≤ _; exact Nat.le_of_eq rfl) (hb hby d3_34) (fun _ _ => ⟨rfl, e34, (by decide : 0 + 0 ≤ _), (by decide : 0 + 0 ≤ _)⟩)
  dsimp only [Pt.U, Pt.locs, Pt.cells, Pt.slots] at X35 l35 y35 z35 st35 hQ35
  subst l35 y35 z35
  obtain ⟨rfl, N35q, hE35⟩ := hQ35
  have N35 := Fr.app N32 N35q
  refine Wk.go (A' := T35.setTop (mkF m 37 #[rv ob, iv bx, jv lim, .second] [(.int (f_lend ob ba f2 (2 : Int32))), (.int (2 : Int32))])) (fun t k => st35.trans k) ?_
  rw [show (f_lend ob ba f2 (2 : Int32)) = (2 : Int32) from own_l2 _ _ _ (by decide) cw]
  have hc37 : (2 : Int32) = (2 : Int32) := by decide
  refine Wk.go (A' := T35.setTop (mkF m 40 #[rv ob, iv bx, jv lim, .second] [])) (fun t k => XS.icmpNo X35.here hx rfl (hb hby d3_37) rfl (teq hc37).2 k) ?_
  refine Wk.go (A' := T35.setTop (mkF m 41 #[rv ob, iv bx, jv lim, .second] [(.ref ob)])) (fun t k => XS.aloadN X35.here hx rfl (hb hby d3_40) rfl rfl k) ?_
  refine Wk.go (A' := T35.setTop (mkF m 42 #[rv ob, iv bx, jv lim, .second] [(.long lim), (.ref ob)])) (fun t k => XS.lloadN X35.here hx rfl (hb hby d3_41) rfl k) ?_
  obtain ⟨cq36, q36, q36'⟩ := Eq32.cell
  obtain ⟨_, _, ⟨T36, L36, k36, n36⟩, -, X36, ⟨Lc36, hQ36, l36, y36, z36⟩, st36⟩ := X35.privateBack hx (y := (⟨own_F, "announce", "(J)V"⟩ : MethodName)) hown (mvT hZ (tw42 hw)) (mvT hZ (tw43 hw)) (own_sel (mvT hZ (tw3 hw)) (Cond.privateMethod_at (mvP hZ (tw44 hw) (args := #[]))) (mvT hZ (tw43 hw)) (by decide)) (Cond.privateMethod_at (mvP hZ (tw44 hw) (args := #[]))) (mvT hZ (tw45 hw)) (by decide) (backOf (W := 0) (rm7nu l Z a0 hw [] ob lim ba f2 T32.heap n0 Zp32 Eq32 Fq32_bytes Fq32_masked Fq32_count Fq32_opcode Fq32_last Fq32_open Fq32_length Fq32_maskAt Fq32_messageOpcode Fq32_messageBytes Fq32_dataLength Vq32 hne g_ob g_ba hl cw) hZ (tw45 hw) (tw4 hw) (by decide) (by decide)) (g := (mkF m 42 #[rv ob, iv bx, jv lim, .second] [(.long lim), (.ref ob)])) rfl (by rw [hml]; rfl) (Steps.refl _) (a := ob) (by rw [(hE35)]; exact q36) q36' (argsL := [(.long lim)]) (rest := []) (lenOf pd_3 rfl) rfl (by show 2 * 0 + _ ≤ _; exact Nat.le_of_eq rfl) (hb hby d3_42) (fun _ _ => ⟨rfl, (hE35), (by decide : 0 + 0 ≤ _), (by decide : 0 + 0 ≤ _)⟩)
  dsimp only [Pt.U, Pt.locs, Pt.cells, Pt.slots] at X36 l36 y36 z36 st36 hQ36
  subst l36 y36 z36
  obtain ⟨ln36, rfl, N36q, Kq36, Eq36, Fq36_bytes, Fq36_masked, Fq36_count, Fq36_opcode, Fq36_last, Fq36_open, Fq36_length, Fq36_maskAt, Fq36_messageOpcode, Fq36_messageBytes, Fq36_dataLength, Vq36⟩ := hQ36
  have N36 := Fr.app N35 N36q
  have f37 := Eq32.keep Kq36
  have Zp36 : n0 ≤ T36.heap.size := Nat.le_trans Zp32 Kq36.1
  have Kt36 := Kt32.trans Kq36 (allS (Or.inl (List.mem_of_getElem? (i := 0) rfl)) (allS (Or.inl (List.mem_of_getElem? (i := 1) rfl)) all0))
  refine Wk.go (A' := T36.setTop (mkF m 45 #[rv ob, iv bx, jv lim, .second] [])) (fun t k => st36.trans k) ?_
  refine Wk.go (A' := T36.setTop (mkF m 46 #[rv ob, iv bx, jv lim, .second] [(.ref ob)])) (fun t k => XS.aloadN X36.here hx rfl (hb hby d3_45) rfl rfl k) ?_
  obtain ⟨T38, X38, e38, st38⟩ := getF X36 hx hZ hown (host := "") (Or.inl (tw21 hw)) Via.refl rfl Fq36_count (g := (mkF m 46 #[rv ob, iv bx, jv lim, .second] [(.ref ob)])) rfl rfl (hb hby d3_46)
  refine Wk.go (A' := T38.setTop (mkF m 49 #[rv ob, iv bx, jv lim, .second] [(.int (2 : Int32))])) (fun t k => st38 t k) ?_
  refine Wk.go (A' := T38.setTop (mkF m 50 #[rv ob, iv bx, jv lim, .second] [(.ref ob), (.int (2 : Int32))])) (fun t k => XS.aloadN X38.here hx rfl (hb hby d3_49) rfl rfl k) ?_
  obtain ⟨cq39, q39, q39'⟩ := Eq36.cell
  obtain ⟨_, _, ⟨T39, L39, k39, n39⟩, -, X39, ⟨Lc39, hQ39, l39, y39, z39⟩, st39⟩ := X38.privateBack hx (y := (⟨own_F, "lengthEnd", "()I"⟩ : MethodName)) hown (mvT hZ (tw23 hw)) (mvT hZ (tw24 hw)) (own_sel (mvT hZ (tw3 hw)) (Cond.privateMethod_at (mvP hZ (tw25 hw) (args := #[]))) (mvT hZ (tw24 hw)) (by decide)) (Cond.privateMethod_at (mvP hZ (tw25 hw) (args := #[]))) (mvT hZ (tw26 hw)) (by decide) (backOf (W := 1) (rm4 l Z a0 hw [] ob ba f2 (2 : Int32) T36.heap n0 Zp36 Fq36_bytes Fq36_count Vq36) hZ (tw26 hw) (tw4 hw) (by decide) (by decide)) (g := (mkF m 50 #[rv ob, iv bx, jv lim, .second] [(.ref ob), (.int (2 : Int32))])) rfl (by rw [hml]; rfl) (Steps.refl _) (a := ob) (by rw [e38]; exact q39) q39' (argsL := []) (rest := [(.int (2 : Int32))]) (lenOf pd_1 rfl) rfl (by show 2 * 0 + _ ≤ _; exact Nat.le_of_eq rfl) (hb hby d3_50) (fun _ _ => ⟨rfl, e38, (by decide : 0 + 0 ≤ _), (by decide : 0 + 0 ≤ _)⟩)
  dsimp only [Pt.U, Pt.locs, Pt.cells, Pt.slots] at X39 l39 y39 z39 st39 hQ39
  subst l39 y39 z39
  obtain ⟨rfl, N39q, hE39⟩ := hQ39
  have N39 := Fr.app N36 N39q
  refine Wk.go (A' := T39.setTop (mkF m 53 #[rv ob, iv bx, jv lim, .second] [(.int (f_lend ob ba f2 (2 : Int32))), (.int (2 : Int32))])) (fun t k => st39.trans k) ?_
  rw [show (f_lend ob ba f2 (2 : Int32)) = (2 : Int32) from own_l2 _ _ _ (by decide) cw]
  refine Wk.go (A' := T39.setTop (mkF m 54 #[rv ob, iv bx, jv lim, .second] [(.ref ob), (.int (2 : Int32)), (.int (2 : Int32))])) (fun t k => XS.aloadN X39.here hx rfl (hb hby d3_53) rfl rfl k) ?_
  obtain ⟨T40, X40, e40, st40⟩ := getF X39 hx hZ hown (host := "") (Or.inl (tw13 hw)) Via.refl (hE39) Fq36_masked (g := (mkF m 54 #[rv ob, iv bx, jv lim, .second] [(.ref ob), (.int (2 : Int32)), (.int (2 : Int32))])) rfl rfl (hb hby d3_54)
  refine Wk.go (A' := T40.setTop (mkF m 57 #[rv ob, iv bx, jv lim, .second] [(.int (0 : Int32)), (.int (2 : Int32)), (.int (2 : Int32))])) (fun t k => st40 t k) ?_
  have hc57 : (0 : Int32) = (0 : Int32) := by decide
  refine Wk.go (A' := T40.setTop (mkF m 64 #[rv ob, iv bx, jv lim, .second] [(.int (2 : Int32)), (.int (2 : Int32))])) (fun t k => XS.ifYes X40.here hx rfl (pc0 := 57) (pc' := 64) rfl (hb hby d3_57) rfl ((if0 _ _).trans (teq hc57).1) (by decide) (by decide) k) ?_
  refine Wk.go (A' := T40.setTop (mkF m 65 #[rv ob, iv bx, jv lim, .second] [(.int (0 : Int32)), (.int (2 : Int32)), (.int (2 : Int32))])) (fun t k => XS.iconst X40.here hx rfl (hb hby d3_64) k) ?_
  refine Wk.go (A' := T40.setTop (mkF m 66 #[rv ob, iv bx, jv lim, .second] [(.int (2 : Int32)), (.int (2 : Int32))])) (fun t k => XS.iadd X40.here hx rfl (hb hby d3_65) rfl k) ?_
  have hc66 : ¬ ((2 : Int32) < (2 : Int32)) := by decide
  refine Wk.go (A' := T40.setTop (mkF m 71 #[rv ob, iv bx, jv lim, .second] [])) (fun t k => XS.icmpYes X40.here hx rfl (pc0 := 66) (pc' := 71) rfl (hb hby d3_66) rfl (flt hc66).2.1 (by decide) (by decide) k) ?_
  refine Wk.go (A' := T40.setTop (mkF m 72 #[rv ob, iv bx, jv lim, .second] [(.ref ob)])) (fun t k => XS.aloadN X40.here hx rfl (hb hby d3_71) rfl rfl k) ?_
  refine Wk.go (A' := T40.setTop (mkF m 73 #[rv ob, iv bx, jv lim, .second] [(.int (0 : Int32)), (.ref ob)])) (fun t k => XS.iconst X40.here hx rfl (hb hby d3_72) k) ?_
  obtain ⟨T41, h41, X41, e41, W41, st41⟩ := putF X40 hx hZ hown (host := "") (Or.inl (tw21 hw)) Via.refl e40 Fq36_count Eq36 (Or.inl (tw22 hw)) (tw3 hw) (ty := .int) (by decide) rfl rfl (g := (mkF m 73 #[rv ob, iv bx, jv lim, .second] [(.int (0 : Int32)), (.ref ob)])) rfl rfl (hb hby d3_73)
  have f42 := Eq36.wr W41
  have f43 := Fq36_bytes.other W41 (Or.inr (sn_100 hw))
  have f44 := Fq36_masked.other W41 (Or.inr (sn_101 hw))
  have f45 := Fq36_count.same W41
  have f46 := Fq36_opcode.other W41 (Or.inr (sn_102 hw))
  have f47 := Fq36_last.other W41 (Or.inr (sn_103 hw))
  have f48 := Fq36_open.other W41 (Or.inr (sn_104 hw))
  have f49 := Fq36_length.other W41 (Or.inr (sn_105 hw))
  have f50 := Fq36_maskAt.other W41 (Or.inr (sn_106 hw))
  have f51 := Fq36_messageOpcode.other W41 (Or.inr (sn_107 hw))
  have f52 := Fq36_messageBytes.other W41 (Or.inr (sn_108 hw))
  have f53 := Fq36_dataLength.other W41 (Or.inr (sn_109 hw))
  have f54 := Vq36.other W41 (Ne.symm hne)
  have Zp41 : n0 ≤ h41.size := Nat.le_trans Zp36 (Nat.le_of_eq W41.size.symm)
  have K41 := Kt36.wr W41 (Or.inl (List.mem_of_getElem? (i := 0) rfl))
  have N41 := Fr.snoc X41 N39 g_ob
  refine Wk.go (A' := T41.setTop (mkF m 76 #[rv ob, iv bx, jv lim, .second] [])) (fun t k => st41 t k) ?_
  refine Wk.go (A' := T41.setTop (mkF m 77 #[rv ob, iv bx, jv lim, .second] [(.int (1 : Int32))])) (fun t k => XS.iconst X41.here hx rfl (hb hby d3_76) k) ?_
  refine own_fin (Qv := Q31nu Z ob bx lim ba fB h0 n0) (v := some (.int (1 : Int32))) X41 hlk (fun h => by rw [Bd.returns] at h; cases h) (fun fs hr => retN X41 hx (t := .boolean) Bd.returns (by simp) (hb hby d3_77) hr) ?_ (by decide) (by decide)
  show Q31nu Z ob bx lim ba fB h0 n0 _ T41.heap _
  rw [e41]
  have fin := f54
  rw [hf2] at fin
  exact ⟨_, rfl, N41, K41, f42, f43, f44, f45, f46, f47, f48, f49, f50, f51, f52, f53, fin⟩
theorem ef_31wu (m : MethodId) (x0 : Addr) (x1 : Int32) (x2 : Int64) : entryFrame m #[(.ref x0), (.int x1), (.long x2)] 4 = mkF m 0 #[rv x0, iv x1, jv x2, .second] [] := by first | (simp [entryFrame, mkF, argsToLocals, Value.category]; done) | rfl
def Q31wu (Z : State) (ob : Addr) (bx : Int32) (lim : Int64) (ba : Addr) (fB : Nat → Int32) (h0 : Heap) (n0 : Nat) (v : Option Value) (h : Heap) (L : List Loc) : Prop := v = some (.int (0 : Int32)) ∧ Fr n0 L ∧ Keep h0 h [ob, ba] ∧ Exa Z h ob own_F ∧ Fld Z h ob own_F "bytes" "[B" (.ref ba) ∧ Fld Z h ob own_F "masked" "Z" (.int (0 : Int32)) ∧ Fld Z h ob own_F "count" "I" (.int (2 : Int32)) ∧ Fld Z h ob own_F "opcode" "I" (.int (2 : Int32)) ∧ Fld Z h ob own_F "last" "Z" (.int (1 : Int32)) ∧ Fld Z h ob own_F "open" "Z" (.int (0 : Int32)) ∧ Fld Z h ob own_F "length" "J" (.long (0 : Int64)) ∧ Fld Z h ob own_F "maskAt" "I" (.int (0 : Int32)) ∧ Fld Z h ob own_F "messageOpcode" "I" (.int (0 : Int32)) ∧ Fld Z h ob own_F "messageBytes" "J" (.long (0 : Int64)) ∧ Fld Z h ob own_F "dataLength" "J" (.long (0 : Int64)) ∧ BA Z h ba 14 (own_upd fB 1 (bx).toInt8.toInt32)
set_option maxRecDepth 65536 in
set_option maxHeartbeats 40000000 in
theorem rm31wu (l : Launch) (Z : State) (a0 : Array Value) (hw : ∀ d ∈ tables_1, d.before a0 Z = true) (ws : List Jvm.Cond) (ob : Addr) (bx : Int32) (lim : Int64) (ba : Addr) (fB : Nat → Int32) (h0 : Heap) (n0 : Nat) (Z0 : n0 ≤ h0.size) (E_ob : Exa Z h0 ob own_F) (F_bytes : Fld Z h0 ob own_F "bytes" "[B" (.ref ba)) (F_masked : Fld Z h0 ob own_F "masked" "Z" (.int (0 : Int32))) (F_count : Fld Z h0 ob own_F "count" "I" (.int (1 : Int32))) (F_opcode : Fld Z h0 ob own_F "opcode" "I" (.int (0 : Int32))) (F_last : Fld Z h0 ob own_F "last" "Z" (.int (0 : Int32))) (F_open : Fld Z h0 ob own_F "open" "Z" (.int (0 : Int32))) (F_length : Fld Z h0 ob own_F "length" "J" (.long (0 : Int64))) (F_maskAt : Fld Z h0 ob own_F "maskAt" "I" (.int (0 : Int32))) (F_messageOpcode : Fld Z h0 ob own_F "messageOpcode" "I" (.int (0 : Int32))) (F_messageBytes : Fld Z h0 ob own_F "messageBytes" "J" (.long (0 : Int64))) (F_dataLength : Fld Z h0 ob own_F "dataLength" "J" (.long (0 : Int64))) (VB : BA Z h0 ba 14 fB) (hne : ob ≠ ba) (g_ob : n0 ≤ ob) (g_ba : n0 ≤ ba) (hl : lim = (9223372036854775807 : Int64)) (hb0 : fB 0 = (-126 : Int32)) (hbm : ((bx.toInt8.toInt32 &&& (128 : Int32)) = (0 : Int32))) (hbw : (bx.toInt8.toInt32 &&& (127 : Int32)) = (126 : Int32)) :
    MetFree l (⟨own_F, "take", "(BJ)Z"⟩ : MethodName) (head1 (Jvm.Cond.code (⟨own_F, "take", "(BJ)Z"⟩ : MethodName) prog_100_method_2_code 4 (some .boolean) :: ws) ({ frames := 2, cells := 0, slots := 0, locals := 24 } : Room)) (fun a U => a = #[(.ref ob), (.int bx), (.long lim)] ∧ Z.Warmed39 U.vm ∧ U.heap = h0) (fun _ _ _ _ _ => True) (fun _ U o U' => ∃ v L, o = .returned v ∧ Q31wu Z ob bx lim ba fB h0 n0 v U'.heap L ∧ FrameEnd U o U' L ({ frames := 2, cells := 0, slots := 0, locals := 24 } : Room).cells ({ frames := 2, cells := 0, slots := 0, locals := 24 } : Room).slots) := by
  refine MetFree.of_bodySF (plainFor_of_name pn_0) hisR ?_
  intro p e s m args below meth c s₁ Bd hml0 hP hK
  obtain ⟨rfl, hZ, hh⟩ := hP
  have hx := Bd.exec
  have hby := Bd.bytes
  have hml : c.maxLocals = 4 := hml0
  have hown : s.vm.findClass own_F = some m.cls := findClass_of_methodNamed Bd.named
  have hnm := (name_of_methodNamed Bd.named Bd.method).1
  have X0 : Stand p l e ({ frames := 2, cells := 0, slots := 0, locals := 24 } : Room) s m #[(.ref ob), (.int bx), (.long lim)] below meth c s₁ [] 0 0 := Stand.of_body Bd
  have e0 : s₁.heap = h0 := by rw [← hh, Bd.state]; rfl
  have N0 := Fr.nil n0
  have hlk : meth.locks = false := BodyLoose.notSynchronized Bd
  suffices hwk : Wk p.tables e below (s₁.setTop (mkF m 0 #[rv ob, iv bx, jv lim, .second] [])) (fun U o => U.status = .running ∧ Ended U below o ∧ ∃ v L, o = .returned v ∧ Q31wu Z ob bx lim ba fB h0 n0 v U.heap L ∧ FrameEnd s o U L 0 0) by
    obtain ⟨U, o, k1, k2⟩ := hwk
    exact ⟨U, o, castTop (ef_31wu m ob bx lim) k1, k2⟩
  have K0 := Keep.refl h0 [ob, ba]
  refine Wk.go (A' := s₁.setTop (mkF m 1 #[rv ob, iv bx, jv lim, .second] [(.ref ob)])) (fun t k => XS.aloadN X0.here hx rfl (hb hby d3_0) rfl rfl k) ?_
  obtain ⟨T1, X1, e1, st1⟩ := getF X0 hx hZ hown (host := "") (Or.inl (tw11 hw)) Via.refl e0 F_bytes (g := (mkF m 1 #[rv ob, iv bx, jv lim, .second] [(.ref ob)])) rfl rfl (hb hby d3_1)
  refine Wk.go (A' := T1.setTop (mkF m 4 #[rv ob, iv bx, jv lim, .second] [(.ref ba)])) (fun t k => st1 t k) ?_
  refine Wk.go (A' := T1.setTop (mkF m 5 #[rv ob, iv bx, jv lim, .second] [(.ref ob), (.ref ba)])) (fun t k => XS.aloadN X1.here hx rfl (hb hby d3_4) rfl rfl k) ?_
  refine Wk.go (A' := T1.setTop (mkF m 6 #[rv ob, iv bx, jv lim, .second] [(.ref ob), (.ref ob), (.ref ba)])) (fun t k => XS.dup X1.here hx rfl (hb hby d3_5) rfl rfl k) ?_
  obtain ⟨T2, X2, e2, st2⟩ := getF X1 hx hZ hown (host := "") (Or.inl (tw21 hw)) Via.refl e1 F_count (g := (mkF m 6 #[rv ob, iv bx, jv lim, .second] [(.ref ob), (.ref ob), (.ref ba)])) rfl rfl (hb hby d3_6)
  refine Wk.go (A' := T2.setTop (mkF m 9 #[rv ob, iv bx, jv lim, .second] [(.int (1 : Int32)), (.ref ob), (.ref ba)])) (fun t k => st2 t k) ?_
  refine Wk.go (A' := T2.setTop (mkF m 10 #[rv ob, iv bx, jv lim, .second] [(.int (1 : Int32)), (.ref ob), (.int (1 : Int32)), (.ref ba)])) (fun t k => XS.dupX1 X2.here hx rfl (hb hby d3_9) rfl rfl rfl k) ?_
  refine Wk.go (A' := T2.setTop (mkF m 11 #[rv ob, iv bx, jv lim, .second] [(.int (1 : Int32)), (.int (1 : Int32)), (.ref ob), (.int (1 : Int32)), (.ref ba)])) (fun t k => XS.iconst X2.here hx rfl (hb hby d3_10) k) ?_
  refine Wk.go (A' := T2.setTop (mkF m 12 #[rv ob, iv bx, jv lim, .second] [(.int (2 : Int32)), (.ref ob), (.int (1 : Int32)), (.ref ba)])) (fun t k => XS.iadd X2.here hx rfl (hb hby d3_11) rfl k) ?_
  obtain ⟨T3, h3, X3, e3, W3, st3⟩ := putF X2 hx hZ hown (host := "") (Or.inl (tw21 hw)) Via.refl e2 F_count E_ob (Or.inl (tw22 hw)) (tw3 hw) (ty := .int) (by decide) rfl rfl (g := (mkF m 12 #[rv ob, iv bx, jv lim, .second] [(.int (2 : Int32)), (.ref ob), (.int (1 : Int32)), (.ref ba)])) rfl rfl (hb hby d3_12)
  have f4 := E_ob.wr W3
  have f5 := VB.other W3 (Ne.symm hne)
  have f6 := F_bytes.other W3 (Or.inr (sn_100 hw))
  have f7 := F_masked.other W3 (Or.inr (sn_101 hw))
  have f8 := F_count.same W3
  have f9 := F_opcode.other W3 (Or.inr (sn_102 hw))
  have f10 := F_last.other W3 (Or.inr (sn_103 hw))
  have f11 := F_open.other W3 (Or.inr (sn_104 hw))
  have f12 := F_length.other W3 (Or.inr (sn_105 hw))
  have f13 := F_maskAt.other W3 (Or.inr (sn_106 hw))
  have f14 := F_messageOpcode.other W3 (Or.inr (sn_107 hw))
  have f15 := F_messageBytes.other W3 (Or.inr (sn_108 hw))
  have f16 := F_dataLength.other W3 (Or.inr (sn_109 hw))
  have Zp3 : n0 ≤ h3.size := Nat.le_trans Z0 (Nat.le_of_eq W3.size.symm)
  have K3 := K0.wr W3 (Or.inl (List.mem_of_getElem? (i := 0) rfl))
  have N3 := Fr.snoc X3 N0 g_ob
  refine Wk.go (A' := T3.setTop (mkF m 15 #[rv ob, iv bx, jv lim, .second] [(.int (1 : Int32)), (.ref ba)])) (fun t k => st3 t k) ?_
  refine Wk.go (A' := T3.setTop (mkF m 16 #[rv ob, iv bx, jv lim, .second] [(.int bx), (.int (1 : Int32)), (.ref ba)])) (fun t k => XS.iloadN X3.here hx rfl (hb hby d3_15) rfl k) ?_
  obtain ⟨T17, h17, X17, e17, W17, B17, st17⟩ := own_stB X3 hx hZ e3 f5 (j := (1 : Int32)) (by decide) (g := (mkF m 16 #[rv ob, iv bx, jv lim, .second] [(.int bx), (.int (1 : Int32)), (.ref ba)])) rfl rfl (hb hby d3_16)
  have V17 : BA Z h17 ba 14 (own_upd fB 1 (bx).toInt8.toInt32) := B17
  obtain ⟨f2, hf2⟩ : ∃ z, z = (own_upd fB 1 (bx).toInt8.toInt32) := ⟨_, rfl⟩
  rw [← hf2] at V17
  have f18 := f4.wr W17
  have f19 := V17
  have f20 := f6.other W17 (Or.inl hne)
  have f21 := f7.other W17 (Or.inl hne)
  have f22 := f8.other W17 (Or.inl hne)
  have f23 := f9.other W17 (Or.inl hne)
  have f24 := f10.other W17 (Or.inl hne)
  have f25 := f11.other W17 (Or.inl hne)
  have f26 := f12.other W17 (Or.inl hne)
  have f27 := f13.other W17 (Or.inl hne)
  have f28 := f14.other W17 (Or.inl hne)
  have f29 := f15.other W17 (Or.inl hne)
  have f30 := f16.other W17 (Or.inl hne)
  have Zp17 : n0 ≤ h17.size := Nat.le_trans Zp3 (Nat.le_of_eq W17.size.symm)
  have K17 := K3.wr W17 (Or.inl (List.mem_of_getElem? (i := 1) rfl))
  have N17 := Fr.snoc X17 N3 g_ba
  refine Wk.go (A' := T17.setTop (mkF m 17 #[rv ob, iv bx, jv lim, .second] [])) (fun t k => st17 t k) ?_
  have c1 : f2 1 = bx.toInt8.toInt32 := by rw [hf2, own_upd_eq]
  have cz : f2 0 = (-126 : Int32) := by rw [hf2, own_upd_ne _ _ (by decide)]; exact hb0
  have cm : ((f2 1 &&& (128 : Int32)) = (0 : Int32)) := by rw [c1]; exact hbm
  have cw : (f2 1 &&& (127 : Int32)) = (126 : Int32) := by rw [c1]; exact hbw
  refine Wk.go (A' := T17.setTop (mkF m 18 #[rv ob, iv bx, jv lim, .second] [(.ref ob)])) (fun t k => XS.aloadN X17.here hx rfl (hb hby d3_17) rfl rfl k) ?_
  obtain ⟨T31, X31, e31, st31⟩ := getF X17 hx hZ hown (host := "") (Or.inl (tw21 hw)) Via.refl e17 f22 (g := (mkF m 18 #[rv ob, iv bx, jv lim, .second] [(.ref ob)])) rfl rfl (hb hby d3_18)
  refine Wk.go (A' := T31.setTop (mkF m 21 #[rv ob, iv bx, jv lim, .second] [(.int (2 : Int32))])) (fun t k => st31 t k) ?_
  refine Wk.go (A' := T31.setTop (mkF m 22 #[rv ob, iv bx, jv lim, .second] [(.int (2 : Int32)), (.int (2 : Int32))])) (fun t k => XS.iconst X31.here hx rfl (hb hby d3_21) k) ?_
  have hc22 : (2 : Int32) = (2 : Int32) := by decide
  refine Wk.go (A' := T31.setTop (mkF m 25 #[rv ob, iv bx, jv lim, .second] [])) (fun t k => XS.icmpNo X31.here hx rfl (hb hby d3_22) rfl (teq hc22).2 k) ?_
  refine Wk.go (A' := T31.setTop (mkF m 26 #[rv ob, iv bx, jv lim, .second] [(.ref ob)])) (fun t k => XS.aloadN X31.here hx rfl (hb hby d3_25) rfl rfl k) ?_
  obtain ⟨cq32, q32, q32'⟩ := f18.cell
  obtain ⟨_, _, ⟨T32, L32, k32, n32⟩, -, X32, ⟨Lc32, hQ32, l32, y32, z32⟩, st32⟩ := X31.privateBack hx (y := (⟨own_F, "checkStart", "()V"⟩ : MethodName)) hown (mvT hZ (tw27 hw)) (mvT hZ (tw28 hw)) (own_sel (mvT hZ (tw3 hw)) (Cond.privateMethod_at (mvP hZ (tw29 hw) (args := #[]))) (mvT hZ (tw28 hw)) (by decide)) (Cond.privateMethod_at (mvP hZ (tw29 hw) (args := #[]))) (mvT hZ (tw30 hw)) (by decide) (backOf (W := 0) (rm5u l Z a0 hw [] ob ba f2 h17 n0 Zp17 f18 f20 f21 f22 f23 f24 f25 f26 f27 f28 f29 f30 f19 hne g_ob g_ba rfl cz cm) hZ (tw30 hw) (tw4 hw) (by decide) (by decide)) (g := (mkF m 26 #[rv ob, iv bx, jv lim, .second] [(.ref ob)])) rfl (by rw [hml]; rfl) (Steps.refl _) (a := ob) (by rw [e31]; exact q32) q32' (argsL := []) (rest := []) (lenOf pd_2 rfl) rfl (by show 2 * 0 + _ ≤ _; exact Nat.le_of_eq rfl) (hb hby d3_26) (fun _ _ => ⟨rfl, e31, (by decide : 0 + 0 ≤ _), (by decide : 0 + 0 ≤ _)⟩)
  dsimp only [Pt.U, Pt.locs, Pt.cells, Pt.slots] at X32 l32 y32 z32 st32 hQ32
  subst l32 y32 z32
  obtain ⟨rfl, N32q, Kq32, Eq32, Fq32_bytes, Fq32_masked, Fq32_count, Fq32_opcode, Fq32_last, Fq32_open, Fq32_length, Fq32_maskAt, Fq32_messageOpcode, Fq32_messageBytes, Fq32_dataLength, Vq32⟩ := hQ32
  have N32 := Fr.app N17 N32q
  have f33 := f18.keep Kq32
  have Zp32 : n0 ≤ T32.heap.size := Nat.le_trans Zp17 Kq32.1
  have Kt32 := K17.trans Kq32 (allS (Or.inl (List.mem_of_getElem? (i := 0) rfl)) (allS (Or.inl (List.mem_of_getElem? (i := 1) rfl)) all0))
  refine Wk.go (A' := T32.setTop (mkF m 29 #[rv ob, iv bx, jv lim, .second] [])) (fun t k => st32.trans k) ?_
  refine Wk.go (A' := T32.setTop (mkF m 30 #[rv ob, iv bx, jv lim, .second] [(.ref ob)])) (fun t k => XS.aloadN X32.here hx rfl (hb hby d3_29) rfl rfl k) ?_
  obtain ⟨T34, X34, e34, st34⟩ := getF X32 hx hZ hown (host := "") (Or.inl (tw21 hw)) Via.refl rfl Fq32_count (g := (mkF m 30 #[rv ob, iv bx, jv lim, .second] [(.ref ob)])) rfl rfl (hb hby d3_30)
  refine Wk.go (A' := T34.setTop (mkF m 33 #[rv ob, iv bx, jv lim, .second] [(.int (2 : Int32))])) (fun t k => st34 t k) ?_
  refine Wk.go (A' := T34.setTop (mkF m 34 #[rv ob, iv bx, jv lim, .second] [(.ref ob), (.int (2 : Int32))])) (fun t k => XS.aloadN X34.here hx rfl (hb hby d3_33) rfl rfl k) ?_
  obtain ⟨cq35, q35, q35'⟩ := Eq32.cell
  obtain ⟨_, _, ⟨T35, L35, k35, n35⟩, -, X35, ⟨Lc35, hQ35, l35, y35, z35⟩, st35⟩ := X34.privateBack hx (y := (⟨own_F, "lengthEnd", "()I"⟩ : MethodName)) hown (mvT hZ (tw23 hw)) (mvT hZ (tw24 hw)) (own_sel (mvT hZ (tw3 hw)) (Cond.privateMethod_at (mvP hZ (tw25 hw) (args := #[]))) (mvT hZ (tw24 hw)) (by decide)) (Cond.privateMethod_at (mvP hZ (tw25 hw) (args := #[]))) (mvT hZ (tw26 hw)) (by decide) (backOf (W := 1) (rm4 l Z a0 hw [] ob ba f2 (2 : Int32) T32.heap n0 Zp32 Fq32_bytes Fq32_count Vq32) hZ (tw26 hw) (tw4 hw) (by decide) (by decide)) (g := (mkF m 34 #[rv ob, iv bx, jv lim, .second] [(.ref ob), (.int (2 : Int32))])) rfl (by rw [hml]; rfl) (Steps.refl _) (a := ob) (by rw [e34]; exact q35) q35' (argsL := []) (rest := [(.int (2 : Int32))]) (lenOf pd_1 rfl) rfl (by show 2 * 0 + _ ≤ _; exact Nat.le_of_eq rfl) (hb hby d3_34) (fun _ _ => ⟨rfl, e34, (by decide : 0 + 0 ≤ _), (by decide : 0 + 0 ≤ _)⟩)
  dsimp only [Pt.U, Pt.locs, Pt.cells, Pt.slots] at X35 l35 y35 z35 st35 hQ35
  subst l35 y35 z35
  obtain ⟨rfl, N35q, hE35⟩ := hQ35
  have N35 := Fr.app N32 N35q
  refine Wk.go (A' := T35.setTop (mkF m 37 #[rv ob, iv bx, jv lim, .second] [(.int (f_lend ob ba f2 (2 : Int32))), (.int (2 : Int32))])) (fun t k => st35.trans k) ?_
  rw [show (f_lend ob ba f2 (2 : Int32)) = (4 : Int32) from own_l4 _ _ _ (by decide) cw]
  have hc37 : ¬ ((2 : Int32) = (4 : Int32)) := by decide
  refine Wk.go (A' := T35.setTop (mkF m 45 #[rv ob, iv bx, jv lim, .second] [])) (fun t k => XS.icmpYes X35.here hx rfl (pc0 := 37) (pc' := 45) rfl (hb hby d3_37) rfl (feq hc37).2 (by decide) (by decide) k) ?_
  refine Wk.go (A' := T35.setTop (mkF m 46 #[rv ob, iv bx, jv lim, .second] [(.ref ob)])) (fun t k => XS.aloadN X35.here hx rfl (hb hby d3_45) rfl rfl k) ?_
  obtain ⟨T36, X36, e36, st36⟩ := getF X35 hx hZ hown (host := "") (Or.inl (tw21 hw)) Via.refl (hE35) Fq32_count (g := (mkF m 46 #[rv ob, iv bx, jv lim, .second] [(.ref ob)])) rfl rfl (hb hby d3_46)
  refine Wk.go (A' := T36.setTop (mkF m 49 #[rv ob, iv bx, jv lim, .second] [(.int (2 : Int32))])) (fun t k => st36 t k) ?_
  refine Wk.go (A' := T36.setTop (mkF m 50 #[rv ob, iv bx, jv lim, .second] [(.ref ob), (.int (2 : Int32))])) (fun t k => XS.aloadN X36.here hx rfl (hb hby d3_49) rfl rfl k) ?_
  obtain ⟨cq37, q37, q37'⟩ := Eq32.cell
  obtain ⟨_, _, ⟨T37, L37, k37, n37⟩, -, X37, ⟨Lc37, hQ37, l37, y37, z37⟩, st37⟩ := X36.privateBack hx (y := (⟨own_F, "lengthEnd", "()I"⟩ : MethodName)) hown (mvT hZ (tw23 hw)) (mvT hZ (tw24 hw)) (own_sel (mvT hZ (tw3 hw)) (Cond.privateMethod_at (mvP hZ (tw25 hw) (args := #[]))) (mvT hZ (tw24 hw)) (by decide)) (Cond.privateMethod_at (mvP hZ (tw25 hw) (args := #[]))) (mvT hZ (tw26 hw)) (by decide) (backOf (W := 1) (rm4 l Z a0 hw [] ob ba f2 (2 : Int32) T32.heap n0 Zp32 Fq32_bytes Fq32_count Vq32) hZ (tw26 hw) (tw4 hw) (by decide) (by decide)) (g := (mkF m 50 #[rv ob, iv bx, jv lim, .second] [(.ref ob), (.int (2 : Int32))])) rfl (by rw [hml]; rfl) (Steps.refl _) (a := ob) (by rw [e36]; exact q37) q37' (argsL := []) (rest := [(.int (2 : Int32))]) (lenOf pd_1 rfl) rfl (by show 2 * 0 + _ ≤ _; exact Nat.le_of_eq rfl) (hb hby d3_50) (fun _ _ => ⟨rfl, e36, (by decide : 0 + 0 ≤ _), (by decide : 0 + 0 ≤ _)⟩)
  dsimp only [Pt.U, Pt.locs, Pt.cells, Pt.slots] at X37 l37 y37 z37 st37 hQ37
  subst l37 y37 z37
  obtain ⟨rfl, N37q, hE37⟩ := hQ37
  have N37 := Fr.app N35 N37q
  refine Wk.go (A' := T37.setTop (mkF m 53 #[rv ob, iv bx, jv lim, .second] [(.int (f_lend ob ba f2 (2 : Int32))), (.int (2 : Int32))])) (fun t k => st37.trans k) ?_
  rw [show (f_lend ob ba f2 (2 : Int32)) = (4 : Int32) from own_l4 _ _ _ (by decide) cw]
  refine Wk.go (A' := T37.setTop (mkF m 54 #[rv ob, iv bx, jv lim, .second] [(.ref ob), (.int (4 : Int32)), (.int (2 : Int32))])) (fun t k => XS.aloadN X37.here hx rfl (hb hby d3_53) rfl rfl k) ?_
  obtain ⟨T38, X38, e38, st38⟩ := getF X37 hx hZ hown (host := "") (Or.inl (tw13 hw)) Via.refl (hE37) Fq32_masked (g := (mkF m 54 #[rv ob, iv bx, jv lim, .second] [(.ref ob), (.int (4 : Int32)), (.int (2 : Int32))])) rfl rfl (hb hby d3_54)
  refine Wk.go (A' := T38.setTop (mkF m 57 #[rv ob, iv bx, jv lim, .second] [(.int (0 : Int32)), (.int (4 : Int32)), (.int (2 : Int32))])) (fun t k => st38 t k) ?_
  have hc57 : (0 : Int32) = (0 : Int32) := by decide
  refine Wk.go (A' := T38.setTop (mkF m 64 #[rv ob, iv bx, jv lim, .second] [(.int (4 : Int32)), (.int (2 : Int32))])) (fun t k => XS.ifYes X38.here hx rfl (pc0 := 57) (pc' := 64) rfl (hb hby d3_57) rfl ((if0 _ _).trans (teq hc57).1) (by decide) (by decide) k) ?_
  refine Wk.go (A' := T38.setTop (mkF m 65 #[rv ob, iv bx, jv lim, .second] [(.int (0 : Int32)), (.int (4 : Int32)), (.int (2 : Int32))])) (fun t k => XS.iconst X38.here hx rfl (hb hby d3_64) k) ?_
  refine Wk.go (A' := T38.setTop (mkF m 66 #[rv ob, iv bx, jv lim, .second] [(.int (4 : Int32)), (.int (2 : Int32))])) (fun t k => XS.iadd X38.here hx rfl (hb hby d3_65) rfl k) ?_
  have hc66 : (2 : Int32) < (4 : Int32) := by decide
  refine Wk.go (A' := T38.setTop (mkF m 69 #[rv ob, iv bx, jv lim, .second] [])) (fun t k => XS.icmpNo X38.here hx rfl (hb hby d3_66) rfl (tlt hc66).2.1 k) ?_
  refine Wk.go (A' := T38.setTop (mkF m 70 #[rv ob, iv bx, jv lim, .second] [(.int (0 : Int32))])) (fun t k => XS.iconst X38.here hx rfl (hb hby d3_69) k) ?_
  refine own_fin (Qv := Q31wu Z ob bx lim ba fB h0 n0) (v := some (.int (0 : Int32))) X38 hlk (fun h => by rw [Bd.returns] at h; cases h) (fun fs hr => retN X38 hx (t := .boolean) Bd.returns (by simp) (hb hby d3_70) hr) ?_ (by decide) (by decide)
  show Q31wu Z ob bx lim ba fB h0 n0 _ T38.heap _
  rw [e38]
  have fin := Vq32
  rw [hf2] at fin
  exact ⟨rfl, N37, Kt32, Eq32, Fq32_bytes, Fq32_masked, Fq32_count, Fq32_opcode, Fq32_last, Fq32_open, Fq32_length, Fq32_maskAt, Fq32_messageOpcode, Fq32_messageBytes, Fq32_dataLength, fin⟩
theorem ef_32wu (m : MethodId) (x0 : Addr) (x1 : Int32) (x2 : Int64) : entryFrame m #[(.ref x0), (.int x1), (.long x2)] 4 = mkF m 0 #[rv x0, iv x1, jv x2, .second] [] := by first | (simp [entryFrame, mkF, argsToLocals, Value.category]; done) | rfl
def Q32wu (Z : State) (ob : Addr) (bx : Int32) (lim : Int64) (ba : Addr) (fB : Nat → Int32) (h0 : Heap) (n0 : Nat) (v : Option Value) (h : Heap) (L : List Loc) : Prop := v = some (.int (0 : Int32)) ∧ Fr n0 L ∧ Keep h0 h [ob, ba] ∧ Exa Z h ob own_F ∧ Fld Z h ob own_F "bytes" "[B" (.ref ba) ∧ Fld Z h ob own_F "masked" "Z" (.int (0 : Int32)) ∧ Fld Z h ob own_F "count" "I" (.int (3 : Int32)) ∧ Fld Z h ob own_F "opcode" "I" (.int (2 : Int32)) ∧ Fld Z h ob own_F "last" "Z" (.int (1 : Int32)) ∧ Fld Z h ob own_F "open" "Z" (.int (0 : Int32)) ∧ Fld Z h ob own_F "length" "J" (.long (0 : Int64)) ∧ Fld Z h ob own_F "maskAt" "I" (.int (0 : Int32)) ∧ Fld Z h ob own_F "messageOpcode" "I" (.int (0 : Int32)) ∧ Fld Z h ob own_F "messageBytes" "J" (.long (0 : Int64)) ∧ Fld Z h ob own_F "dataLength" "J" (.long (0 : Int64)) ∧ BA Z h ba 14 (own_upd fB 2 (bx).toInt8.toInt32)
set_option maxRecDepth 65536 in
set_option maxHeartbeats 40000000 in
theorem rm32wu (l : Launch) (Z : State) (a0 : Array Value) (hw : ∀ d ∈ tables_1, d.before a0 Z = true) (ws : List Jvm.Cond) (ob : Addr) (bx : Int32) (lim : Int64) (ba : Addr) (fB : Nat → Int32) (h0 : Heap) (n0 : Nat) (Z0 : n0 ≤ h0.size) (E_ob : Exa Z h0 ob own_F) (F_bytes : Fld Z h0 ob own_F "bytes" "[B" (.ref ba)) (F_masked : Fld Z h0 ob own_F "masked" "Z" (.int (0 : Int32))) (F_count : Fld Z h0 ob own_F "count" "I" (.int (2 : Int32))) (F_opcode : Fld Z h0 ob own_F "opcode" "I" (.int (2 : Int32))) (F_last : Fld Z h0 ob own_F "last" "Z" (.int (1 : Int32))) (F_open : Fld Z h0 ob own_F "open" "Z" (.int (0 : Int32))) (F_length : Fld Z h0 ob own_F "length" "J" (.long (0 : Int64))) (F_maskAt : Fld Z h0 ob own_F "maskAt" "I" (.int (0 : Int32))) (F_messageOpcode : Fld Z h0 ob own_F "messageOpcode" "I" (.int (0 : Int32))) (F_messageBytes : Fld Z h0 ob own_F "messageBytes" "J" (.long (0 : Int64))) (F_dataLength : Fld Z h0 ob own_F "dataLength" "J" (.long (0 : Int64))) (VB : BA Z h0 ba 14 fB) (hne : ob ≠ ba) (g_ob : n0 ≤ ob) (g_ba : n0 ≤ ba) (hl : lim = (9223372036854775807 : Int64)) (hbw : (fB 1 &&& (127 : Int32)) = (126 : Int32)) :
    MetFree l (⟨own_F, "take", "(BJ)Z"⟩ : MethodName) (head1 (Jvm.Cond.code (⟨own_F, "take", "(BJ)Z"⟩ : MethodName) prog_100_method_2_code 4 (some .boolean) :: ws) ({ frames := 1, cells := 0, slots := 0, locals := 14 } : Room)) (fun a U => a = #[(.ref ob), (.int bx), (.long lim)] ∧ Z.Warmed39 U.vm ∧ U.heap = h0) (fun _ _ _ _ _ => True) (fun _ U o U' => ∃ v L, o = .returned v ∧ Q32wu Z ob bx lim ba fB h0 n0 v U'.heap L ∧ FrameEnd U o U' L ({ frames := 1, cells := 0, slots := 0, locals := 14 } : Room).cells ({ frames := 1, cells := 0, slots := 0, locals := 14 } : Room).slots) := by
  refine MetFree.of_bodySF (plainFor_of_name pn_0) hisR ?_
  intro p e s m args below meth c s₁ Bd hml0 hP hK
  obtain ⟨rfl, hZ, hh⟩ := hP
  have hx := Bd.exec
  have hby := Bd.bytes
  have hml : c.maxLocals = 4 := hml0
  have hown : s.vm.findClass own_F = some m.cls := findClass_of_methodNamed Bd.named
  have hnm := (name_of_methodNamed Bd.named Bd.method).1
  have X0 : Stand p l e ({ frames := 1, cells := 0, slots := 0, locals := 14 } : Room) s m #[(.ref ob), (.int bx), (.long lim)] below meth c s₁ [] 0 0 := Stand.of_body Bd
  have e0 : s₁.heap = h0 := by rw [← hh, Bd.state]; rfl
  have N0 := Fr.nil n0
  have hlk : meth.locks = false := BodyLoose.notSynchronized Bd
  suffices hwk : Wk p.tables e below (s₁.setTop (mkF m 0 #[rv ob, iv bx, jv lim, .second] [])) (fun U o => U.status = .running ∧ Ended U below o ∧ ∃ v L, o = .returned v ∧ Q32wu Z ob bx lim ba fB h0 n0 v U.heap L ∧ FrameEnd s o U L 0 0) by
    obtain ⟨U, o, k1, k2⟩ := hwk
    exact ⟨U, o, castTop (ef_32wu m ob bx lim) k1, k2⟩
  have K0 := Keep.refl h0 [ob, ba]
  refine Wk.go (A' := s₁.setTop (mkF m 1 #[rv ob, iv bx, jv lim, .second] [(.ref ob)])) (fun t k => XS.aloadN X0.here hx rfl (hb hby d3_0) rfl rfl k) ?_
  obtain ⟨T1, X1, e1, st1⟩ := getF X0 hx hZ hown (host := "") (Or.inl (tw11 hw)) Via.refl e0 F_bytes (g := (mkF m 1 #[rv ob, iv bx, jv lim, .second] [(.ref ob)])) rfl rfl (hb hby d3_1)
  refine Wk.go (A' := T1.setTop (mkF m 4 #[rv ob, iv bx, jv lim, .second] [(.ref ba)])) (fun t k => st1 t k) ?_
  refine Wk.go (A' := T1.setTop (mkF m 5 #[rv ob, iv bx, jv lim, .second] [(.ref ob), (.ref ba)])) (fun t k => XS.aloadN X1.here hx rfl (hb hby d3_4) rfl rfl k) ?_
  refine Wk.go (A' := T1.setTop (mkF m 6 #[rv ob, iv bx, jv lim, .second] [(.ref ob), (.ref ob), (.ref ba)])) (fun t k => XS.dup X1.here hx rfl (hb hby d3_5) rfl rfl k) ?_
  obtain ⟨T2, X2, e2, st2⟩ := getF X1 hx hZ hown (host := "") (Or.inl (tw21 hw)) Via.refl e1 F_count (g := (mkF m 6 #[rv ob, iv bx, jv lim, .second] [(.ref ob), (.ref ob), (.ref ba)])) rfl rfl (hb hby d3_6)
  refine Wk.go (A' := T2.setTop (mkF m 9 #[rv ob, iv bx, jv lim, .second] [(.int (2 : Int32)), (.ref ob), (.ref ba)])) (fun t k => st2 t k) ?_
  refine Wk.go (A' := T2.setTop (mkF m 10 #[rv ob, iv bx, jv lim, .second] [(.int (2 : Int32)), (.ref ob), (.int (2 : Int32)), (.ref ba)])) (fun t k => XS.dupX1 X2.here hx rfl (hb hby d3_9) rfl rfl rfl k) ?_
  refine Wk.go (A' := T2.setTop (mkF m 11 #[rv ob, iv bx, jv lim, .second] [(.int (1 : Int32)), (.int (2 : Int32)), (.ref ob), (.int (2 : Int32)), (.ref ba)])) (fun t k => XS.iconst X2.here hx rfl (hb hby d3_10) k) ?_
  refine Wk.go (A' := T2.setTop (mkF m 12 #[rv ob, iv bx, jv lim, .second] [(.int (3 : Int32)), (.ref ob), (.int (2 : Int32)), (.ref ba)])) (fun t k => XS.iadd X2.here hx rfl (hb hby d3_11) rfl k) ?_
  obtain ⟨T3, h3, X3, e3, W3, st3⟩ := putF X2 hx hZ hown (host := "") (Or.inl (tw21 hw)) Via.refl e2 F_count E_ob (Or.inl (tw22 hw)) (tw3 hw) (ty := .int) (by decide) rfl rfl (g := (mkF m 12 #[rv ob, iv bx, jv lim, .second] [(.int (3 : Int32)), (.ref ob), (.int (2 : Int32)), (.ref ba)])) rfl rfl (hb hby d3_12)
  have f4 := E_ob.wr W3
  have f5 := VB.other W3 (Ne.symm hne)
  have f6 := F_bytes.other W3 (Or.inr (sn_100 hw))
  have f7 := F_masked.other W3 (Or.inr (sn_101 hw))
  have f8 := F_count.same W3
  have f9 := F_opcode.other W3 (Or.inr (sn_102 hw))
  have f10 := F_last.other W3 (Or.inr (sn_103 hw))
  have f11 := F_open.other W3 (Or.inr (sn_104 hw))
  have f12 := F_length.other W3 (Or.inr (sn_105 hw))
  have f13 := F_maskAt.other W3 (Or.inr (sn_106 hw))
  have f14 := F_messageOpcode.other W3 (Or.inr (sn_107 hw))
  have f15 := F_messageBytes.other W3 (Or.inr (sn_108 hw))
  have f16 := F_dataLength.other W3 (Or.inr (sn_109 hw))
  have Zp3 : n0 ≤ h3.size := Nat.le_trans Z0 (Nat.le_of_eq W3.size.symm)
  have K3 := K0.wr W3 (Or.inl (List.mem_of_getElem? (i := 0) rfl))
  have N3 := Fr.snoc X3 N0 g_ob
  refine Wk.go (A' := T3.setTop (mkF m 15 #[rv ob, iv bx, jv lim, .second] [(.int (2 : Int32)), (.ref ba)])) (fun t k => st3 t k) ?_
  refine Wk.go (A' := T3.setTop (mkF m 16 #[rv ob, iv bx, jv lim, .second] [(.int bx), (.int (2 : Int32)), (.ref ba)])) (fun t k => XS.iloadN X3.here hx rfl (hb hby d3_15) rfl k) ?_
  obtain ⟨T17, h17, X17, e17, W17, B17, st17⟩ := own_stB X3 hx hZ e3 f5 (j := (2 : Int32)) (by decide) (g := (mkF m 16 #[rv ob, iv bx, jv lim, .second] [(.int bx), (.int (2 : Int32)), (.ref ba)])) rfl rfl (hb hby d3_16)
  have V17 : BA Z h17 ba 14 (own_upd fB 2 (bx).toInt8.toInt32) := B17
  obtain ⟨f2, hf2⟩ : ∃ z, z = (own_upd fB 2 (bx).toInt8.toInt32) := ⟨_, rfl⟩
  rw [← hf2] at V17
  have f18 := f4.wr W17
  have f19 := V17
  have f20 := f6.other W17 (Or.inl hne)
  have f21 := f7.other W17 (Or.inl hne)
  have f22 := f8.other W17 (Or.inl hne)
  have f23 := f9.other W17 (Or.inl hne)
  have f24 := f10.other W17 (Or.inl hne)
  have f25 := f11.other W17 (Or.inl hne)
  have f26 := f12.other W17 (Or.inl hne)
  have f27 := f13.other W17 (Or.inl hne)
  have f28 := f14.other W17 (Or.inl hne)
  have f29 := f15.other W17 (Or.inl hne)
  have f30 := f16.other W17 (Or.inl hne)
  have Zp17 : n0 ≤ h17.size := Nat.le_trans Zp3 (Nat.le_of_eq W17.size.symm)
  have K17 := K3.wr W17 (Or.inl (List.mem_of_getElem? (i := 1) rfl))
  have N17 := Fr.snoc X17 N3 g_ba
  refine Wk.go (A' := T17.setTop (mkF m 17 #[rv ob, iv bx, jv lim, .second] [])) (fun t k => st17 t k) ?_
  have c1 : f2 1 = fB 1 := by rw [hf2, own_upd_ne _ _ (by decide)]
  have cw : (f2 1 &&& (127 : Int32)) = (126 : Int32) := by rw [c1]; exact hbw
  refine Wk.go (A' := T17.setTop (mkF m 18 #[rv ob, iv bx, jv lim, .second] [(.ref ob)])) (fun t k => XS.aloadN X17.here hx rfl (hb hby d3_17) rfl rfl k) ?_
  obtain ⟨T31, X31, e31, st31⟩ := getF X17 hx hZ hown (host := "") (Or.inl (tw21 hw)) Via.refl e17 f22 (g := (mkF m 18 #[rv ob, iv bx, jv lim, .second] [(.ref ob)])) rfl rfl (hb hby d3_18)
  refine Wk.go (A' := T31.setTop (mkF m 21 #[rv ob, iv bx, jv lim, .second] [(.int (3 : Int32))])) (fun t k => st31 t k) ?_
  refine Wk.go (A' := T31.setTop (mkF m 22 #[rv ob, iv bx, jv lim, .second] [(.int (2 : Int32)), (.int (3 : Int32))])) (fun t k => XS.iconst X31.here hx rfl (hb hby d3_21) k) ?_
  have hc22 : ¬ ((3 : Int32) = (2 : Int32)) := by decide
  refine Wk.go (A' := T31.setTop (mkF m 29 #[rv ob, iv bx, jv lim, .second] [])) (fun t k => XS.icmpYes X31.here hx rfl (pc0 := 22) (pc' := 29) rfl (hb hby d3_22) rfl (feq hc22).2 (by decide) (by decide) k) ?_
  refine Wk.go (A' := T31.setTop (mkF m 30 #[rv ob, iv bx, jv lim, .second] [(.ref ob)])) (fun t k => XS.aloadN X31.here hx rfl (hb hby d3_29) rfl rfl k) ?_
  obtain ⟨T32, X32, e32, st32⟩ := getF X31 hx hZ hown (host := "") (Or.inl (tw21 hw)) Via.refl e31 f22 (g := (mkF m 30 #[rv ob, iv bx, jv lim, .second] [(.ref ob)])) rfl rfl (hb hby d3_30)
  refine Wk.go (A' := T32.setTop (mkF m 33 #[rv ob, iv bx, jv lim, .second] [(.int (3 : Int32))])) (fun t k => st32 t k) ?_
  refine Wk.go (A' := T32.setTop (mkF m 34 #[rv ob, iv bx, jv lim, .second] [(.ref ob), (.int (3 : Int32))])) (fun t k => XS.aloadN X32.here hx rfl (hb hby d3_33) rfl rfl k) ?_
  obtain ⟨cq33, q33, q33'⟩ := f18.cell
  obtain ⟨_, _, ⟨T33, L33, k33, n33⟩, -, X33, ⟨Lc33, hQ33, l33, y33, z33⟩, st33⟩ := X32.privateBack hx (y := (⟨own_F, "lengthEnd", "()I"⟩ : MethodName)) hown (mvT hZ (tw23 hw)) (mvT hZ (tw24 hw)) (own_sel (mvT hZ (tw3 hw)) (Cond.privateMethod_at (mvP hZ (tw25 hw) (args := #[]))) (mvT hZ (tw24 hw)) (by decide)) (Cond.privateMethod_at (mvP hZ (tw25 hw) (args := #[]))) (mvT hZ (tw26 hw)) (by decide) (backOf (W := 1) (rm4 l Z a0 hw [] ob ba f2 (3 : Int32) h17 n0 Zp17 f20 f22 f19) hZ (tw26 hw) (tw4 hw) (by decide) (by decide)) (g := (mkF m 34 #[rv ob, iv bx, jv lim, .second] [(.ref ob), (.int (3 : Int32))])) rfl (by rw [hml]; rfl) (Steps.refl _) (a := ob) (by rw [e32]; exact q33) q33' (argsL := []) (rest := [(.int (3 : Int32))]) (lenOf pd_1 rfl) rfl (by show 2 * 0 + _ ≤ _; exact Nat.le_of_eq rfl) (hb hby d3_34) (fun _ _ => ⟨rfl, e32, (by decide : 0 + 0 ≤ _), (by decide : 0 + 0 ≤ _)⟩)
  dsimp only [Pt.U, Pt.locs, Pt.cells, Pt.slots] at X33 l33 y33 z33 st33 hQ33
  subst l33 y33 z33
  obtain ⟨rfl, N33q, hE33⟩ := hQ33
  have N33 := Fr.app N17 N33q
  refine Wk.go (A' := T33.setTop (mkF m 37 #[rv ob, iv bx, jv lim, .second] [(.int (f_lend ob ba f2 (3 : Int32))), (.int (3 : Int32))])) (fun t k => st33.trans k) ?_
  rw [show (f_lend ob ba f2 (3 : Int32)) = (4 : Int32) from own_l4 _ _ _ (by decide) cw]
  have hc37 : ¬ ((3 : Int32) = (4 : Int32)) := by decide
  refine Wk.go (A' := T33.setTop (mkF m 45 #[rv ob, iv bx, jv lim, .second] [])) (fun t k => XS.icmpYes X33.here hx rfl (pc0 := 37) (pc' := 45) rfl (hb hby d3_37) rfl (feq hc37).2 (by decide) (by decide) k) ?_
  refine Wk.go (A' := T33.setTop (mkF m 46 #[rv ob, iv bx, jv lim, .second] [(.ref ob)])) (fun t k => XS.aloadN X33.here hx rfl (hb hby d3_45) rfl rfl k) ?_
  obtain ⟨T34, X34, e34, st34⟩ := getF X33 hx hZ hown (host := "") (Or.inl (tw21 hw)) Via.refl (hE33) f22 (g := (mkF m 46 #[rv ob, iv bx, jv lim, .second] [(.ref ob)])) rfl rfl (hb hby d3_46)
  refine Wk.go (A' := T34.setTop (mkF m 49 #[rv ob, iv bx, jv lim, .second] [(.int (3 : Int32))])) (fun t k => st34 t k) ?_
  refine Wk.go (A' := T34.setTop (mkF m 50 #[rv ob, iv bx, jv lim, .second] [(.ref ob), (.int (3 : Int32))])) (fun t k => XS.aloadN X34.here hx rfl (hb hby d3_49) rfl rfl k) ?_
  obtain ⟨cq35, q35, q35'⟩ := f18.cell
  obtain ⟨_, _, ⟨T35, L35, k35, n35⟩, -, X35, ⟨Lc35, hQ35, l35, y35, z35⟩, st35⟩ := X34.privateBack hx (y := (⟨own_F, "lengthEnd", "()I"⟩ : MethodName)) hown (mvT hZ (tw23 hw)) (mvT hZ (tw24 hw)) (own_sel (mvT hZ (tw3 hw)) (Cond.privateMethod_at (mvP hZ (tw25 hw) (args := #[]))) (mvT hZ (tw24 hw)) (by decide)) (Cond.privateMethod_at (mvP hZ (tw25 hw) (args := #[]))) (mvT hZ (tw26 hw)) (by decide) (backOf (W := 1) (rm4 l Z a0 hw [] ob ba f2 (3 : Int32) h17 n0 Zp17 f20 f22 f19) hZ (tw26 hw) (tw4 hw) (by decide) (by decide)) (g := (mkF m 50 #[rv ob, iv bx, jv lim, .second] [(.ref ob), (.int (3 : Int32))])) rfl (by rw [hml]; rfl) (Steps.refl _) (a := ob) (by rw [e34]; exact q35) q35' (argsL := []) (rest := [(.int (3 : Int32))]) (lenOf pd_1 rfl) rfl (by show 2 * 0 + _ ≤ _; exact Nat.le_of_eq rfl) (hb hby d3_50) (fun _ _ => ⟨rfl, e34, (by decide : 0 + 0 ≤ _), (by decide : 0 + 0 ≤ _)⟩)
  dsimp only [Pt.U, Pt.locs, Pt.cells, Pt.slots] at X35 l35 y35 z35 st35 hQ35
  subst l35 y35 z35
  obtain ⟨rfl, N35q, hE35⟩ := hQ35
  have N35 := Fr.app N33 N35q
  refine Wk.go (A' := T35.setTop (mkF m 53 #[rv ob, iv bx, jv lim, .second] [(.int (f_lend ob ba f2 (3 : Int32))), (.int (3 : Int32))])) (fun t k => st35.trans k) ?_
  rw [show (f_lend ob ba f2 (3 : Int32)) = (4 : Int32) from own_l4 _ _ _ (by decide) cw]
  refine Wk.go (A' := T35.setTop (mkF m 54 #[rv ob, iv bx, jv lim, .second] [(.ref ob), (.int (4 : Int32)), (.int (3 : Int32))])) (fun t k => XS.aloadN X35.here hx rfl (hb hby d3_53) rfl rfl k) ?_
  obtain ⟨T36, X36, e36, st36⟩ := getF X35 hx hZ hown (host := "") (Or.inl (tw13 hw)) Via.refl (hE35) f21 (g := (mkF m 54 #[rv ob, iv bx, jv lim, .second] [(.ref ob), (.int (4 : Int32)), (.int (3 : Int32))])) rfl rfl (hb hby d3_54)
  refine Wk.go (A' := T36.setTop (mkF m 57 #[rv ob, iv bx, jv lim, .second] [(.int (0 : Int32)), (.int (4 : Int32)), (.int (3 : Int32))])) (fun t k => st36 t k) ?_
  have hc57 : (0 : Int32) = (0 : Int32) := by decide
  refine Wk.go (A' := T36.setTop (mkF m 64 #[rv ob, iv bx, jv lim, .second] [(.int (4 : Int32)), (.int (3 : Int32))])) (fun t k => XS.ifYes X36.here hx rfl (pc0 := 57) (pc' := 64) rfl (hb hby d3_57) rfl ((if0 _ _).trans (teq hc57).1) (by decide) (by decide) k) ?_
  refine Wk.go (A' := T36.setTop (mkF m 65 #[rv ob, iv bx, jv lim, .second] [(.int (0 : Int32)), (.int (4 : Int32)), (.int (3 : Int32))])) (fun t k => XS.iconst X36.here hx rfl (hb hby d3_64) k) ?_
  refine Wk.go (A' := T36.setTop (mkF m 66 #[rv ob, iv bx, jv lim, .second] [(.int (4 : Int32)), (.int (3 : Int32))])) (fun t k => XS.iadd X36.here hx rfl (hb hby d3_65) rfl k) ?_
  have hc66 : (3 : Int32) < (4 : Int32) := by decide
  refine Wk.go (A' := T36.setTop (mkF m 69 #[rv ob, iv bx, jv lim, .second] [])) (fun t k => XS.icmpNo X36.here hx rfl (hb hby d3_66) rfl (tlt hc66).2.1 k) ?_
  refine Wk.go (A' := T36.setTop (mkF m 70 #[rv ob, iv bx, jv lim, .second] [(.int (0 : Int32))])) (fun t k => XS.iconst X36.here hx rfl (hb hby d3_69) k) ?_
  refine own_fin (Qv := Q32wu Z ob bx lim ba fB h0 n0) (v := some (.int (0 : Int32))) X36 hlk (fun h => by rw [Bd.returns] at h; cases h) (fun fs hr => retN X36 hx (t := .boolean) Bd.returns (by simp) (hb hby d3_70) hr) ?_ (by decide) (by decide)
  show Q32wu Z ob bx lim ba fB h0 n0 _ T36.heap _
  rw [e36]
  have fin := f19
  rw [hf2] at fin
  exact ⟨rfl, N35, K17, f18, f20, f21, f22, f23, f24, f25, f26, f27, f28, f29, f30, fin⟩
theorem ef_33wu (m : MethodId) (x0 : Addr) (x1 : Int32) (x2 : Int64) : entryFrame m #[(.ref x0), (.int x1), (.long x2)] 4 = mkF m 0 #[rv x0, iv x1, jv x2, .second] [] := by first | (simp [entryFrame, mkF, argsToLocals, Value.category]; done) | rfl
def Q33wu (Z : State) (ob : Addr) (bx : Int32) (lim : Int64) (ba : Addr) (fB : Nat → Int32) (h0 : Heap) (n0 : Nat) (v : Option Value) (h : Heap) (L : List Loc) : Prop := ∃ lnQ : Int64, v = some (.int (1 : Int32)) ∧ Fr n0 L ∧ Keep h0 h [ob, ba] ∧ Exa Z h ob own_F ∧ Fld Z h ob own_F "bytes" "[B" (.ref ba) ∧ Fld Z h ob own_F "masked" "Z" (.int (0 : Int32)) ∧ Fld Z h ob own_F "count" "I" (.int (0 : Int32)) ∧ Fld Z h ob own_F "opcode" "I" (.int (2 : Int32)) ∧ Fld Z h ob own_F "last" "Z" (.int (1 : Int32)) ∧ Fld Z h ob own_F "open" "Z" (.int (0 : Int32)) ∧ Fld Z h ob own_F "length" "J" (.long lnQ) ∧ Fld Z h ob own_F "maskAt" "I" (.int (4 : Int32)) ∧ Fld Z h ob own_F "messageOpcode" "I" (.int (2 : Int32)) ∧ Fld Z h ob own_F "messageBytes" "J" (.long (0 : Int64)) ∧ Fld Z h ob own_F "dataLength" "J" (.long lnQ) ∧ BA Z h ba 14 (own_upd fB 3 (bx).toInt8.toInt32)
set_option maxRecDepth 65536 in
set_option maxHeartbeats 40000000 in
theorem rm33wu (l : Launch) (Z : State) (a0 : Array Value) (hw : ∀ d ∈ tables_1, d.before a0 Z = true) (ws : List Jvm.Cond) (ob : Addr) (bx : Int32) (lim : Int64) (ba : Addr) (fB : Nat → Int32) (h0 : Heap) (n0 : Nat) (Z0 : n0 ≤ h0.size) (E_ob : Exa Z h0 ob own_F) (F_bytes : Fld Z h0 ob own_F "bytes" "[B" (.ref ba)) (F_masked : Fld Z h0 ob own_F "masked" "Z" (.int (0 : Int32))) (F_count : Fld Z h0 ob own_F "count" "I" (.int (3 : Int32))) (F_opcode : Fld Z h0 ob own_F "opcode" "I" (.int (2 : Int32))) (F_last : Fld Z h0 ob own_F "last" "Z" (.int (1 : Int32))) (F_open : Fld Z h0 ob own_F "open" "Z" (.int (0 : Int32))) (F_length : Fld Z h0 ob own_F "length" "J" (.long (0 : Int64))) (F_maskAt : Fld Z h0 ob own_F "maskAt" "I" (.int (0 : Int32))) (F_messageOpcode : Fld Z h0 ob own_F "messageOpcode" "I" (.int (0 : Int32))) (F_messageBytes : Fld Z h0 ob own_F "messageBytes" "J" (.long (0 : Int64))) (F_dataLength : Fld Z h0 ob own_F "dataLength" "J" (.long (0 : Int64))) (VB : BA Z h0 ba 14 fB) (hne : ob ≠ ba) (g_ob : n0 ≤ ob) (g_ba : n0 ≤ ba) (hl : lim = (9223372036854775807 : Int64)) (hbw : (fB 1 &&& (127 : Int32)) = (126 : Int32)) :
    MetFree l (⟨own_F, "take", "(BJ)Z"⟩ : MethodName) (head1 (Jvm.Cond.code (⟨own_F, "take", "(BJ)Z"⟩ : MethodName) prog_100_method_2_code 4 (some .boolean) :: ws) ({ frames := 2, cells := 0, slots := 0, locals := 33 } : Room)) (fun a U => a = #[(.ref ob), (.int bx), (.long lim)] ∧ Z.Warmed39 U.vm ∧ U.heap = h0) (fun _ _ _ _ _ => True) (fun _ U o U' => ∃ v L, o = .returned v ∧ Q33wu Z ob bx lim ba fB h0 n0 v U'.heap L ∧ FrameEnd U o U' L ({ frames := 2, cells := 0, slots := 0, locals := 33 } : Room).cells ({ frames := 2, cells := 0, slots := 0, locals := 33 } : Room).slots) := by
  refine MetFree.of_bodySF (plainFor_of_name pn_0) hisR ?_
  intro p e s m args below meth c s₁ Bd hml0 hP hK
  obtain ⟨rfl, hZ, hh⟩ := hP
  have hx := Bd.exec
  have hby := Bd.bytes
  have hml : c.maxLocals = 4 := hml0
  have hown : s.vm.findClass own_F = some m.cls := findClass_of_methodNamed Bd.named
  have hnm := (name_of_methodNamed Bd.named Bd.method).1
  have X0 : Stand p l e ({ frames := 2, cells := 0, slots := 0, locals := 33 } : Room) s m #[(.ref ob), (.int bx), (.long lim)] below meth c s₁ [] 0 0 := Stand.of_body Bd
  have e0 : s₁.heap = h0 := by rw [← hh, Bd.state]; rfl
  have N0 := Fr.nil n0
  have hlk : meth.locks = false := BodyLoose.notSynchronized Bd
  suffices hwk : Wk p.tables e below (s₁.setTop (mkF m 0 #[rv ob, iv bx, jv lim, .second] [])) (fun U o => U.status = .running ∧ Ended U below o ∧ ∃ v L, o = .returned v ∧ Q33wu Z ob bx lim ba fB h0 n0 v U.heap L ∧ FrameEnd s o U L 0 0) by
    obtain ⟨U, o, k1, k2⟩ := hwk
    exact ⟨U, o, castTop (ef_33wu m ob bx lim) k1, k2⟩
  have K0 := Keep.refl h0 [ob, ba]
  refine Wk.go (A' := s₁.setTop (mkF m 1 #[rv ob, iv bx, jv lim, .second] [(.ref ob)])) (fun t k => XS.aloadN X0.here hx rfl (hb hby d3_0) rfl rfl k) ?_
  obtain ⟨T1, X1, e1, st1⟩ := getF X0 hx hZ hown (host := "") (Or.inl (tw11 hw)) Via.refl e0 F_bytes (g := (mkF m 1 #[rv ob, iv bx, jv lim, .second] [(.ref ob)])) rfl rfl (hb hby d3_1)
  refine Wk.go (A' := T1.setTop (mkF m 4 #[rv ob, iv bx, jv lim, .second] [(.ref ba)])) (fun t k => st1 t k) ?_
  refine Wk.go (A' := T1.setTop (mkF m 5 #[rv ob, iv bx, jv lim, .second] [(.ref ob), (.ref ba)])) (fun t k => XS.aloadN X1.here hx rfl (hb hby d3_4) rfl rfl k) ?_
  refine Wk.go (A' := T1.setTop (mkF m 6 #[rv ob, iv bx, jv lim, .second] [(.ref ob), (.ref ob), (.ref ba)])) (fun t k => XS.dup X1.here hx rfl (hb hby d3_5) rfl rfl k) ?_
  obtain ⟨T2, X2, e2, st2⟩ := getF X1 hx hZ hown (host := "") (Or.inl (tw21 hw)) Via.refl e1 F_count (g := (mkF m 6 #[rv ob, iv bx, jv lim, .second] [(.ref ob), (.ref ob), (.ref ba)])) rfl rfl (hb hby d3_6)
  refine Wk.go (A' := T2.setTop (mkF m 9 #[rv ob, iv bx, jv lim, .second] [(.int (3 : Int32)), (.ref ob), (.ref ba)])) (fun t k => st2 t k) ?_
  refine Wk.go (A' := T2.setTop (mkF m 10 #[rv ob, iv bx, jv lim, .second] [(.int (3 : Int32)), (.ref ob), (.int (3 : Int32)), (.ref ba)])) (fun t k => XS.dupX1 X2.here hx rfl (hb hby d3_9) rfl rfl rfl k) ?_
  refine Wk.go (A' := T2.setTop (mkF m 11 #[rv ob, iv bx, jv lim, .second] [(.int (1 : Int32)), (.int (3 : Int32)), (.ref ob), (.int (3 : Int32)), (.ref ba)])) (fun t k => XS.iconst X2.here hx rfl (hb hby d3_10) k) ?_
  refine Wk.go (A' := T2.setTop (mkF m 12 #[rv ob, iv bx, jv lim, .second] [(.int (4 : Int32)), (.ref ob), (.int (3 : Int32)), (.ref ba)])) (fun t k => XS.iadd X2.here hx rfl (hb hby d3_11) rfl k) ?_
  obtain ⟨T3, h3, X3, e3, W3, st3⟩ := putF X2 hx hZ hown (host := "") (Or.inl (tw21 hw)) Via.refl e2 F_count E_ob (Or.inl (tw22 hw)) (tw3 hw) (ty := .int) (by decide) rfl rfl (g := (mkF m 12 #[rv ob, iv bx, jv lim, .second] [(.int (4 : Int32)), (.ref ob), (.int (3 : Int32)), (.ref ba)])) rfl rfl (hb hby d3_12)
  have f4 := E_ob.wr W3
  have f5 := VB.other W3 (Ne.symm hne)
  have f6 := F_bytes.other W3 (Or.inr (sn_100 hw))
  have f7 := F_masked.other W3 (Or.inr (sn_101 hw))
  have f8 := F_count.same W3
  have f9 := F_opcode.other W3 (Or.inr (sn_102 hw))
  have f10 := F_last.other W3 (Or.inr (sn_103 hw))
  have f11 := F_open.other W3 (Or.inr (sn_104 hw))
  have f12 := F_length.other W3 (Or.inr (sn_105 hw))
  have f13 := F_maskAt.other W3 (Or.inr (sn_106 hw))
  have f14 := F_messageOpcode.other W3 (Or.inr (sn_107 hw))
  have f15 := F_messageBytes.other W3 (Or.inr (sn_108 hw))
  have f16 := F_dataLength.other W3 (Or.inr (sn_109 hw))
  have Zp3 : n0 ≤ h3.size := Nat.le_trans Z0 (Nat.le_of_eq W3.size.symm)
  have K3 := K0.wr W3 (Or.inl (List.mem_of_getElem? (i := 0) rfl))
  have N3 := Fr.snoc X3 N0 g_ob
  refine Wk.go (A' := T3.setTop (mkF m 15 #[rv ob, iv bx, jv lim, .second] [(.int (3 : Int32)), (.ref ba)])) (fun t k => st3 t k) ?_
  refine Wk.go (A' := T3.setTop (mkF m 16 #[rv ob, iv bx, jv lim, .second] [(.int bx), (.int (3 : Int32)), (.ref ba)])) (fun t k => XS.iloadN X3.here hx rfl (hb hby d3_15) rfl k) ?_
  obtain ⟨T17, h17, X17, e17, W17, B17, st17⟩ := own_stB X3 hx hZ e3 f5 (j := (3 : Int32)) (by decide) (g := (mkF m 16 #[rv ob, iv bx, jv lim, .second] [(.int bx), (.int (3 : Int32)), (.ref ba)])) rfl rfl (hb hby d3_16)
  have V17 : BA Z h17 ba 14 (own_upd fB 3 (bx).toInt8.toInt32) := B17
  obtain ⟨f2, hf2⟩ : ∃ z, z = (own_upd fB 3 (bx).toInt8.toInt32) := ⟨_, rfl⟩
  rw [← hf2] at V17
  have f18 := f4.wr W17
  have f19 := V17
  have f20 := f6.other W17 (Or.inl hne)
  have f21 := f7.other W17 (Or.inl hne)
  have f22 := f8.other W17 (Or.inl hne)
  have f23 := f9.other W17 (Or.inl hne)
  have f24 := f10.other W17 (Or.inl hne)
  have f25 := f11.other W17 (Or.inl hne)
  have f26 := f12.other W17 (Or.inl hne)
  have f27 := f13.other W17 (Or.inl hne)
  have f28 := f14.other W17 (Or.inl hne)
  have f29 := f15.other W17 (Or.inl hne)
  have f30 := f16.other W17 (Or.inl hne)
  have Zp17 : n0 ≤ h17.size := Nat.le_trans Zp3 (Nat.le_of_eq W17.size.symm)
  have K17 := K3.wr W17 (Or.inl (List.mem_of_getElem? (i := 1) rfl))
  have N17 := Fr.snoc X17 N3 g_ba
  refine Wk.go (A' := T17.setTop (mkF m 17 #[rv ob, iv bx, jv lim, .second] [])) (fun t k => st17 t k) ?_
  have c1 : f2 1 = fB 1 := by rw [hf2, own_upd_ne _ _ (by decide)]
  have cw : (f2 1 &&& (127 : Int32)) = (126 : Int32) := by rw [c1]; exact hbw
  refine Wk.go (A' := T17.setTop (mkF m 18 #[rv ob, iv bx, jv lim, .second] [(.ref ob)])) (fun t k => XS.aloadN X17.here hx rfl (hb hby d3_17) rfl rfl k) ?_
  obtain ⟨T31, X31, e31, st31⟩ := getF X17 hx hZ hown (host := "") (Or.inl (tw21 hw)) Via.refl e17 f22 (g := (mkF m 18 #[rv ob, iv bx, jv lim, .second] [(.ref ob)])) rfl rfl (hb hby d3_18)
  refine Wk.go (A' := T31.setTop (mkF m 21 #[rv ob, iv bx, jv lim, .second] [(.int (4 : Int32))])) (fun t k => st31 t k) ?_
  refine Wk.go (A' := T31.setTop (mkF m 22 #[rv ob, iv bx, jv lim, .second] [(.int (2 : Int32)), (.int (4 : Int32))])) (fun t k => XS.iconst X31.here hx rfl (hb hby d3_21) k) ?_
  have hc22 : ¬ ((4 : Int32) = (2 : Int32)) := by decide
  refine Wk.go (A' := T31.setTop (mkF m 29 #[rv ob, iv bx, jv lim, .second] [])) (fun t k => XS.icmpYes X31.here hx rfl (pc0 := 22) (pc' := 29) rfl (hb hby d3_22) rfl (feq hc22).2 (by decide) (by decide) k) ?_
  refine Wk.go (A' := T31.setTop (mkF m 30 #[rv ob, iv bx, jv lim, .second] [(.ref ob)])) (fun t k => XS.aloadN X31.here hx rfl (hb hby d3_29) rfl rfl k) ?_
  obtain ⟨T32, X32, e32, st32⟩ := getF X31 hx hZ hown (host := "") (Or.inl (tw21 hw)) Via.refl e31 f22 (g := (mkF m 30 #[rv ob, iv bx, jv lim, .second] [(.ref ob)])) rfl rfl (hb hby d3_30)
  refine Wk.go (A' := T32.setTop (mkF m 33 #[rv ob, iv bx, jv lim, .second] [(.int (4 : Int32))])) (fun t k => st32 t k) ?_
  refine Wk.go (A' := T32.setTop (mkF m 34 #[rv ob, iv bx, jv lim, .second] [(.ref ob), (.int (4 : Int32))])) (fun t k => XS.aloadN X32.here hx rfl (hb hby d3_33) rfl rfl k) ?_
  obtain ⟨cq33, q33, q33'⟩ := f18.cell
  obtain ⟨_, _, ⟨T33, L33, k33, n33⟩, -, X33, ⟨Lc33, hQ33, l33, y33, z33⟩, st33⟩ := X32.privateBack hx (y := (⟨own_F, "lengthEnd", "()I"⟩ : MethodName)) hown (mvT hZ (tw23 hw)) (mvT hZ (tw24 hw)) (own_sel (mvT hZ (tw3 hw)) (Cond.privateMethod_at (mvP hZ (tw25 hw) (args := #[]))) (mvT hZ (tw24 hw)) (by decide)) (Cond.privateMethod_at (mvP hZ (tw25 hw) (args := #[]))) (mvT hZ (tw26 hw)) (by decide) (backOf (W := 1) (rm4 l Z a0 hw [] ob ba f2 (4 : Int32) h17 n0 Zp17 f20 f22 f19) hZ (tw26 hw) (tw4 hw) (by decide) (by decide)) (g := (mkF m 34 #[rv ob, iv bx, jv lim, .second] [(.ref ob), (.int (4 : Int32))])) rfl (by rw [hml]; rfl) (Steps.refl _) (a := ob) (by rw [e32]; exact q33) q33' (argsL := []) (rest := [(.int (4 : Int32))]) (lenOf pd_1 rfl) rfl (by show 2 * 0 + _ ≤ _; exact Nat.le_of_eq rfl) (hb hby d3_34) (fun _ _ => ⟨rfl, e32, (by decide : 0 + 0 ≤ _), (by decide : 0 + 0 ≤ _)⟩)
  dsimp only [Pt.U, Pt.locs, Pt.cells, Pt.slots] at X33 l33 y33 z33 st33 hQ33
  subst l33 y33 z33
  obtain ⟨rfl, N33q, hE33⟩ := hQ33
  have N33 := Fr.app N17 N33q
  refine Wk.go (A' := T33.setTop (mkF m 37 #[rv ob, iv bx, jv lim, .second] [(.int (f_lend ob ba f2 (4 : Int32))), (.int (4 : Int32))])) (fun t k => st33.trans k) ?_
  rw [show (f_lend ob ba f2 (4 : Int32)) = (4 : Int32) from own_l4 _ _ _ (by decide) cw]
  have hc37 : (4 : Int32) = (4 : Int32) := by decide
  refine Wk.go (A' := T33.setTop (mkF m 40 #[rv ob, iv bx, jv lim, .second] [])) (fun t k => XS.icmpNo X33.here hx rfl (hb hby d3_37) rfl (teq hc37).2 k) ?_
  refine Wk.go (A' := T33.setTop (mkF m 41 #[rv ob, iv bx, jv lim, .second] [(.ref ob)])) (fun t k => XS.aloadN X33.here hx rfl (hb hby d3_40) rfl rfl k) ?_
  refine Wk.go (A' := T33.setTop (mkF m 42 #[rv ob, iv bx, jv lim, .second] [(.long lim), (.ref ob)])) (fun t k => XS.lloadN X33.here hx rfl (hb hby d3_41) rfl k) ?_
  obtain ⟨cq34, q34, q34'⟩ := f18.cell
  obtain ⟨_, _, ⟨T34, L34, k34, n34⟩, -, X34, ⟨Lc34, hQ34, l34, y34, z34⟩, st34⟩ := X33.privateBack hx (y := (⟨own_F, "announce", "(J)V"⟩ : MethodName)) hown (mvT hZ (tw42 hw)) (mvT hZ (tw43 hw)) (own_sel (mvT hZ (tw3 hw)) (Cond.privateMethod_at (mvP hZ (tw44 hw) (args := #[]))) (mvT hZ (tw43 hw)) (by decide)) (Cond.privateMethod_at (mvP hZ (tw44 hw) (args := #[]))) (mvT hZ (tw45 hw)) (by decide) (backOf (W := 0) (rm7wu l Z a0 hw [] ob lim ba f2 h17 n0 Zp17 f18 f20 f21 f22 f23 f24 f25 f26 f27 f28 f29 f30 f19 hne g_ob g_ba hl cw) hZ (tw45 hw) (tw4 hw) (by decide) (by decide)) (g := (mkF m 42 #[rv ob, iv bx, jv lim, .second] [(.long lim), (.ref ob)])) rfl (by rw [hml]; rfl) (Steps.refl _) (a := ob) (by rw [(hE33)]; exact q34) q34' (argsL := [(.long lim)]) (rest := []) (lenOf pd_3 rfl) rfl (by show 2 * 0 + _ ≤ _; exact Nat.le_of_eq rfl) (hb hby d3_42) (fun _ _ => ⟨rfl, (hE33), (by decide : 0 + 0 ≤ _), (by decide : 0 + 0 ≤ _)⟩)
  dsimp only [Pt.U, Pt.locs, Pt.cells, Pt.slots] at X34 l34 y34 z34 st34 hQ34
  subst l34 y34 z34
  obtain ⟨ln34, rfl, N34q, Kq34, Eq34, Fq34_bytes, Fq34_masked, Fq34_count, Fq34_opcode, Fq34_last, Fq34_open, Fq34_length, Fq34_maskAt, Fq34_messageOpcode, Fq34_messageBytes, Fq34_dataLength, Vq34⟩ := hQ34
  have N34 := Fr.app N33 N34q
  have f35 := f18.keep Kq34
  have Zp34 : n0 ≤ T34.heap.size := Nat.le_trans Zp17 Kq34.1
  have Kt34 := K17.trans Kq34 (allS (Or.inl (List.mem_of_getElem? (i := 0) rfl)) (allS (Or.inl (List.mem_of_getElem? (i := 1) rfl)) all0))
  refine Wk.go (A' := T34.setTop (mkF m 45 #[rv ob, iv bx, jv lim, .second] [])) (fun t k => st34.trans k) ?_
  refine Wk.go (A' := T34.setTop (mkF m 46 #[rv ob, iv bx, jv lim, .second] [(.ref ob)])) (fun t k => XS.aloadN X34.here hx rfl (hb hby d3_45) rfl rfl k) ?_
  obtain ⟨T36, X36, e36, st36⟩ := getF X34 hx hZ hown (host := "") (Or.inl (tw21 hw)) Via.refl rfl Fq34_count (g := (mkF m 46 #[rv ob, iv bx, jv lim, .second] [(.ref ob)])) rfl rfl (hb hby d3_46)
  refine Wk.go (A' := T36.setTop (mkF m 49 #[rv ob, iv bx, jv lim, .second] [(.int (4 : Int32))])) (fun t k => st36 t k) ?_
  refine Wk.go (A' := T36.setTop (mkF m 50 #[rv ob, iv bx, jv lim, .second] [(.ref ob), (.int (4 : Int32))])) (fun t k => XS.aloadN X36.here hx rfl (hb hby d3_49) rfl rfl k) ?_
  obtain ⟨cq37, q37, q37'⟩ := Eq34.cell
  obtain ⟨_, _, ⟨T37, L37, k37, n37⟩, -, X37, ⟨Lc37, hQ37, l37, y37, z37⟩, st37⟩ := X36.privateBack hx (y := (⟨own_F, "lengthEnd", "()I"⟩ : MethodName)) hown (mvT hZ (tw23 hw)) (mvT hZ (tw24 hw)) (own_sel (mvT hZ (tw3 hw)) (Cond.privateMethod_at (mvP hZ (tw25 hw) (args := #[]))) (mvT hZ (tw24 hw)) (by decide)) (Cond.privateMethod_at (mvP hZ (tw25 hw) (args := #[]))) (mvT hZ (tw26 hw)) (by decide) (backOf (W := 1) (rm4 l Z a0 hw [] ob ba f2 (4 : Int32) T34.heap n0 Zp34 Fq34_bytes Fq34_count Vq34) hZ (tw26 hw) (tw4 hw) (by decide) (by decide)) (g := (mkF m 50 #[rv ob, iv bx, jv lim, .second] [(.ref ob), (.int (4 : Int32))])) rfl (by rw [hml]; rfl) (Steps.refl _) (a := ob) (by rw [e36]; exact q37) q37' (argsL := []) (rest := [(.int (4 : Int32))]) (lenOf pd_1 rfl) rfl (by show 2 * 0 + _ ≤ _; exact Nat.le_of_eq rfl) (hb hby d3_50) (fun _ _ => ⟨rfl, e36, (by decide : 0 + 0 ≤ _), (by decide : 0 + 0 ≤ _)⟩)
  dsimp only [Pt.U, Pt.locs, Pt.cells, Pt.slots] at X37 l37 y37 z37 st37 hQ37
  subst l37 y37 z37
  obtain ⟨rfl, N37q, hE37⟩ := hQ37
  have N37 := Fr.app N34 N37q
  refine Wk.go (A' := T37.setTop (mkF m 53 #[rv ob, iv bx, jv lim, .second] [(.int (f_lend ob ba f2 (4 : Int32))), (.int (4 : Int32))])) (fun t k => st37.trans k) ?_
  rw [show (f_lend ob ba f2 (4 : Int32)) = (4 : Int32) from own_l4 _ _ _ (by decide) cw]
  refine Wk.go (A' := T37.setTop (mkF m 54 #[rv ob, iv bx, jv lim, .second] [(.ref ob), (.int (4 : Int32)), (.int (4 : Int32))])) (fun t k => XS.aloadN X37.here hx rfl (hb hby d3_53) rfl rfl k) ?_
  obtain ⟨T38, X38, e38, st38⟩ := getF X37 hx hZ hown (host := "") (Or.inl (tw13 hw)) Via.refl (hE37) Fq34_masked (g := (mkF m 54 #[rv ob, iv bx, jv lim, .second] [(.ref ob), (.int (4 : Int32)), (.int (4 : Int32))])) rfl rfl (hb hby d3_54)
  refine Wk.go (A' := T38.setTop (mkF m 57 #[rv ob, iv bx, jv lim, .second] [(.int (0 : Int32)), (.int (4 : Int32)), (.int (4 : Int32))])) (fun t k => st38 t k) ?_
  have hc57 : (0 : Int32) = (0 : Int32) := by decide
  refine Wk.go (A' := T38.setTop (mkF m 64 #[rv ob, iv bx, jv lim, .second] [(.int (4 : Int32)), (.int (4 : Int32))])) (fun t k => XS.ifYes X38.here hx rfl (pc0 := 57) (pc' := 64) rfl (hb hby d3_57) rfl ((if0 _ _).trans (teq hc57).1) (by decide) (by decide) k) ?_
  refine Wk.go (A' := T38.setTop (mkF m 65 #[rv ob, iv bx, jv lim, .second] [(.int (0 : Int32)), (.int (4 : Int32)), (.int (4 : Int32))])) (fun t k => XS.iconst X38.here hx rfl (hb hby d3_64) k) ?_
  refine Wk.go (A' := T38.setTop (mkF m 66 #[rv ob, iv bx, jv lim, .second] [(.int (4 : Int32)), (.int (4 : Int32))])) (fun t k => XS.iadd X38.here hx rfl (hb hby d3_65) rfl k) ?_
  have hc66 : ¬ ((4 : Int32) < (4 : Int32)) := by decide
  refine Wk.go (A' := T38.setTop (mkF m 71 #[rv ob, iv bx, jv lim, .second] [])) (fun t k => XS.icmpYes X38.here hx rfl (pc0 := 66) (pc' := 71) rfl (hb hby d3_66) rfl (flt hc66).2.1 (by decide) (by decide) k) ?_
  refine Wk.go (A' := T38.setTop (mkF m 72 #[rv ob, iv bx, jv lim, .second] [(.ref ob)])) (fun t k => XS.aloadN X38.here hx rfl (hb hby d3_71) rfl rfl k) ?_
  refine Wk.go (A' := T38.setTop (mkF m 73 #[rv ob, iv bx, jv lim, .second] [(.int (0 : Int32)), (.ref ob)])) (fun t k => XS.iconst X38.here hx rfl (hb hby d3_72) k) ?_
  obtain ⟨T39, h39, X39, e39, W39, st39⟩ := putF X38 hx hZ hown (host := "") (Or.inl (tw21 hw)) Via.refl e38 Fq34_count Eq34 (Or.inl (tw22 hw)) (tw3 hw) (ty := .int) (by decide) rfl rfl (g := (mkF m 73 #[rv ob, iv bx, jv lim, .second] [(.int (0 : Int32)), (.ref ob)])) rfl rfl (hb hby d3_73)
  have f40 := Eq34.wr W39
  have f41 := Fq34_bytes.other W39 (Or.inr (sn_100 hw))
  have f42 := Fq34_masked.other W39 (Or.inr (sn_101 hw))
  have f43 := Fq34_count.same W39
  have f44 := Fq34_opcode.other W39 (Or.inr (sn_102 hw))
  have f45 := Fq34_last.other W39 (Or.inr (sn_103 hw))
  have f46 := Fq34_open.other W39 (Or.inr (sn_104 hw))
  have f47 := Fq34_length.other W39 (Or.inr (sn_105 hw))
  have f48 := Fq34_maskAt.other W39 (Or.inr (sn_106 hw))
  have f49 := Fq34_messageOpcode.other W39 (Or.inr (sn_107 hw))
  have f50 := Fq34_messageBytes.other W39 (Or.inr (sn_108 hw))
  have f51 := Fq34_dataLength.other W39 (Or.inr (sn_109 hw))
  have f52 := Vq34.other W39 (Ne.symm hne)
  have Zp39 : n0 ≤ h39.size := Nat.le_trans Zp34 (Nat.le_of_eq W39.size.symm)
  have K39 := Kt34.wr W39 (Or.inl (List.mem_of_getElem? (i := 0) rfl))
  have N39 := Fr.snoc X39 N37 g_ob
  refine Wk.go (A' := T39.setTop (mkF m 76 #[rv ob, iv bx, jv lim, .second] [])) (fun t k => st39 t k) ?_
  refine Wk.go (A' := T39.setTop (mkF m 77 #[rv ob, iv bx, jv lim, .second] [(.int (1 : Int32))])) (fun t k => XS.iconst X39.here hx rfl (hb hby d3_76) k) ?_
  refine own_fin (Qv := Q33wu Z ob bx lim ba fB h0 n0) (v := some (.int (1 : Int32))) X39 hlk (fun h => by rw [Bd.returns] at h; cases h) (fun fs hr => retN X39 hx (t := .boolean) Bd.returns (by simp) (hb hby d3_77) hr) ?_ (by decide) (by decide)
  show Q33wu Z ob bx lim ba fB h0 n0 _ T39.heap _
  rw [e39]
  have fin := f52
  rw [hf2] at fin
  exact ⟨_, rfl, N39, K39, f40, f41, f42, f43, f44, f45, f46, f47, f48, f49, f50, f51, fin⟩
theorem d3_60 : decode prog_100_method_2_code 60 = .ok (.iconst 4, 1) := by decide +kernel
theorem d3_61 : decode prog_100_method_2_code 61 = .ok (.goto 4, 3) := by decide +kernel
theorem ef_30m (m : MethodId) (x0 : Addr) (x1 : Int32) (x2 : Int64) : entryFrame m #[(.ref x0), (.int x1), (.long x2)] 4 = mkF m 0 #[rv x0, iv x1, jv x2, .second] [] := by first | (simp [entryFrame, mkF, argsToLocals, Value.category]; done) | rfl
def Q30m (Z : State) (ob : Addr) (bx : Int32) (lim : Int64) (ba : Addr) (fB : Nat → Int32) (h0 : Heap) (n0 : Nat) (v : Option Value) (h : Heap) (L : List Loc) : Prop := v = some (.int (0 : Int32)) ∧ Fr n0 L ∧ Keep h0 h [ob, ba] ∧ Exa Z h ob own_F ∧ Fld Z h ob own_F "bytes" "[B" (.ref ba) ∧ Fld Z h ob own_F "masked" "Z" (.int (1 : Int32)) ∧ Fld Z h ob own_F "count" "I" (.int (1 : Int32)) ∧ Fld Z h ob own_F "opcode" "I" (.int (0 : Int32)) ∧ Fld Z h ob own_F "last" "Z" (.int (0 : Int32)) ∧ Fld Z h ob own_F "open" "Z" (.int (0 : Int32)) ∧ Fld Z h ob own_F "length" "J" (.long (0 : Int64)) ∧ Fld Z h ob own_F "maskAt" "I" (.int (0 : Int32)) ∧ Fld Z h ob own_F "messageOpcode" "I" (.int (0 : Int32)) ∧ Fld Z h ob own_F "messageBytes" "J" (.long (0 : Int64)) ∧ Fld Z h ob own_F "dataLength" "J" (.long (0 : Int64)) ∧ BA Z h ba 14 (own_upd fB 0 (bx).toInt8.toInt32)
set_option maxRecDepth 65536 in
set_option maxHeartbeats 40000000 in
theorem rm30m (l : Launch) (Z : State) (a0 : Array Value) (hw : ∀ d ∈ tables_1, d.before a0 Z = true) (ws : List Jvm.Cond) (ob : Addr) (bx : Int32) (lim : Int64) (ba : Addr) (fB : Nat → Int32) (h0 : Heap) (n0 : Nat) (Z0 : n0 ≤ h0.size) (E_ob : Exa Z h0 ob own_F) (F_bytes : Fld Z h0 ob own_F "bytes" "[B" (.ref ba)) (F_masked : Fld Z h0 ob own_F "masked" "Z" (.int (1 : Int32))) (F_count : Fld Z h0 ob own_F "count" "I" (.int (0 : Int32))) (F_opcode : Fld Z h0 ob own_F "opcode" "I" (.int (0 : Int32))) (F_last : Fld Z h0 ob own_F "last" "Z" (.int (0 : Int32))) (F_open : Fld Z h0 ob own_F "open" "Z" (.int (0 : Int32))) (F_length : Fld Z h0 ob own_F "length" "J" (.long (0 : Int64))) (F_maskAt : Fld Z h0 ob own_F "maskAt" "I" (.int (0 : Int32))) (F_messageOpcode : Fld Z h0 ob own_F "messageOpcode" "I" (.int (0 : Int32))) (F_messageBytes : Fld Z h0 ob own_F "messageBytes" "J" (.long (0 : Int64))) (F_dataLength : Fld Z h0 ob own_F "dataLength" "J" (.long (0 : Int64))) (VB : BA Z h0 ba 14 fB) (hne : ob ≠ ba) (g_ob : n0 ≤ ob) (g_ba : n0 ≤ ba) (hl : lim = (9223372036854775807 : Int64)) :
    MetFree l (⟨own_F, "take", "(BJ)Z"⟩ : MethodName) (head1 (Jvm.Cond.code (⟨own_F, "take", "(BJ)Z"⟩ : MethodName) prog_100_method_2_code 4 (some .boolean) :: ws) ({ frames := 1, cells := 0, slots := 0, locals := 14 } : Room)) (fun a U => a = #[(.ref ob), (.int bx), (.long lim)] ∧ Z.Warmed39 U.vm ∧ U.heap = h0) (fun _ _ _ _ _ => True) (fun _ U o U' => ∃ v L, o = .returned v ∧ Q30m Z ob bx lim ba fB h0 n0 v U'.heap L ∧ FrameEnd U o U' L ({ frames := 1, cells := 0, slots := 0, locals := 14 } : Room).cells ({ frames := 1, cells := 0, slots := 0, locals := 14 } : Room).slots) := by
  refine MetFree.of_bodySF (plainFor_of_name pn_0) hisR ?_
  intro p e s m args below meth c s₁ Bd hml0 hP hK
  obtain ⟨rfl, hZ, hh⟩ := hP
  have hx := Bd.exec
  have hby := Bd.bytes
  have hml : c.maxLocals = 4 := hml0
  have hown : s.vm.findClass own_F = some m.cls := findClass_of_methodNamed Bd.named
  have hnm := (name_of_methodNamed Bd.named Bd.method).1
  have X0 : Stand p l e ({ frames := 1, cells := 0, slots := 0, locals := 14 } : Room) s m #[(.ref ob), (.int bx), (.long lim)] below meth c s₁ [] 0 0 := Stand.of_body Bd
  have e0 : s₁.heap = h0 := by rw [← hh, Bd.state]; rfl
  have N0 := Fr.nil n0
  have hlk : meth.locks = false := BodyLoose.notSynchronized Bd
  suffices hwk : Wk p.tables e below (s₁.setTop (mkF m 0 #[rv ob, iv bx, jv lim, .second] [])) (fun U o => U.status = .running ∧ Ended U below o ∧ ∃ v L, o = .returned v ∧ Q30m Z ob bx lim ba fB h0 n0 v U.heap L ∧ FrameEnd s o U L 0 0) by
    obtain ⟨U, o, k1, k2⟩ := hwk
    exact ⟨U, o, castTop (ef_30m m ob bx lim) k1, k2⟩
  have K0 := Keep.refl h0 [ob, ba]
  refine Wk.go (A' := s₁.setTop (mkF m 1 #[rv ob, iv bx, jv lim, .second] [(.ref ob)])) (fun t k => XS.aloadN X0.here hx rfl (hb hby d3_0) rfl rfl k) ?_
  obtain ⟨T1, X1, e1, st1⟩ := getF X0 hx hZ hown (host := "") (Or.inl (tw11 hw)) Via.refl e0 F_bytes (g := (mkF m 1 #[rv ob, iv bx, jv lim, .second] [(.ref ob)])) rfl rfl (hb hby d3_1)
  refine Wk.go (A' := T1.setTop (mkF m 4 #[rv ob, iv bx, jv lim, .second] [(.ref ba)])) (fun t k => st1 t k) ?_
  refine Wk.go (A' := T1.setTop (mkF m 5 #[rv ob, iv bx, jv lim, .second] [(.ref ob), (.ref ba)])) (fun t k => XS.aloadN X1.here hx rfl (hb hby d3_4) rfl rfl k) ?_
  refine Wk.go (A' := T1.setTop (mkF m 6 #[rv ob, iv bx, jv lim, .second] [(.ref ob), (.ref ob), (.ref ba)])) (fun t k => XS.dup X1.here hx rfl (hb hby d3_5) rfl rfl k) ?_
  obtain ⟨T2, X2, e2, st2⟩ := getF X1 hx hZ hown (host := "") (Or.inl (tw21 hw)) Via.refl e1 F_count (g := (mkF m 6 #[rv ob, iv bx, jv lim, .second] [(.ref ob), (.ref ob), (.ref ba)])) rfl rfl (hb hby d3_6)
  refine Wk.go (A' := T2.setTop (mkF m 9 #[rv ob, iv bx, jv lim, .second] [(.int (0 : Int32)), (.ref ob), (.ref ba)])) (fun t k => st2 t k) ?_
  refine Wk.go (A' := T2.setTop (mkF m 10 #[rv ob, iv bx, jv lim, .second] [(.int (0 : Int32)), (.ref ob), (.int (0 : Int32)), (.ref ba)])) (fun t k => XS.dupX1 X2.here hx rfl (hb hby d3_9) rfl rfl rfl k) ?_
  refine Wk.go (A' := T2.setTop (mkF m 11 #[rv ob, iv bx, jv lim, .second] [(.int (1 : Int32)), (.int (0 : Int32)), (.ref ob), (.int (0 : Int32)), (.ref ba)])) (fun t k => XS.iconst X2.here hx rfl (hb hby d3_10) k) ?_
  refine Wk.go (A' := T2.setTop (mkF m 12 #[rv ob, iv bx, jv lim, .second] [(.int (1 : Int32)), (.ref ob), (.int (0 : Int32)), (.ref ba)])) (fun t k => XS.iadd X2.here hx rfl (hb hby d3_11) rfl k) ?_
  obtain ⟨T3, h3, X3, e3, W3, st3⟩ := putF X2 hx hZ hown (host := "") (Or.inl (tw21 hw)) Via.refl e2 F_count E_ob (Or.inl (tw22 hw)) (tw3 hw) (ty := .int) (by decide) rfl rfl (g := (mkF m 12 #[rv ob, iv bx, jv lim, .second] [(.int (1 : Int32)), (.ref ob), (.int (0 : Int32)), (.ref ba)])) rfl rfl (hb hby d3_12)
  have f4 := E_ob.wr W3
  have f5 := VB.other W3 (Ne.symm hne)
  have f6 := F_bytes.other W3 (Or.inr (sn_100 hw))
  have f7 := F_masked.other W3 (Or.inr (sn_101 hw))
  have f8 := F_count.same W3
  have f9 := F_opcode.other W3 (Or.inr (sn_102 hw))
  have f10 := F_last.other W3 (Or.inr (sn_103 hw))
  have f11 := F_open.other W3 (Or.inr (sn_104 hw))
  have f12 := F_length.other W3 (Or.inr (sn_105 hw))
  have f13 := F_maskAt.other W3 (Or.inr (sn_106 hw))
  have f14 := F_messageOpcode.other W3 (Or.inr (sn_107 hw))
  have f15 := F_messageBytes.other W3 (Or.inr (sn_108 hw))
  have f16 := F_dataLength.other W3 (Or.inr (sn_109 hw))
  have Zp3 : n0 ≤ h3.size := Nat.le_trans Z0 (Nat.le_of_eq W3.size.symm)
  have K3 := K0.wr W3 (Or.inl (List.mem_of_getElem? (i := 0) rfl))
  have N3 := Fr.snoc X3 N0 g_ob
  refine Wk.go (A' := T3.setTop (mkF m 15 #[rv ob, iv bx, jv lim, .second] [(.int (0 : Int32)), (.ref ba)])) (fun t k => st3 t k) ?_
  refine Wk.go (A' := T3.setTop (mkF m 16 #[rv ob, iv bx, jv lim, .second] [(.int bx), (.int (0 : Int32)), (.ref ba)])) (fun t k => XS.iloadN X3.here hx rfl (hb hby d3_15) rfl k) ?_
  obtain ⟨T17, h17, X17, e17, W17, B17, st17⟩ := own_stB X3 hx hZ e3 f5 (j := (0 : Int32)) (by decide) (g := (mkF m 16 #[rv ob, iv bx, jv lim, .second] [(.int bx), (.int (0 : Int32)), (.ref ba)])) rfl rfl (hb hby d3_16)
  have V17 : BA Z h17 ba 14 (own_upd fB 0 (bx).toInt8.toInt32) := B17
  obtain ⟨f2, hf2⟩ : ∃ z, z = (own_upd fB 0 (bx).toInt8.toInt32) := ⟨_, rfl⟩
  rw [← hf2] at V17
  have f18 := f4.wr W17
  have f19 := V17
  have f20 := f6.other W17 (Or.inl hne)
  have f21 := f7.other W17 (Or.inl hne)
  have f22 := f8.other W17 (Or.inl hne)
  have f23 := f9.other W17 (Or.inl hne)
  have f24 := f10.other W17 (Or.inl hne)
  have f25 := f11.other W17 (Or.inl hne)
  have f26 := f12.other W17 (Or.inl hne)
  have f27 := f13.other W17 (Or.inl hne)
  have f28 := f14.other W17 (Or.inl hne)
  have f29 := f15.other W17 (Or.inl hne)
  have f30 := f16.other W17 (Or.inl hne)
  have Zp17 : n0 ≤ h17.size := Nat.le_trans Zp3 (Nat.le_of_eq W17.size.symm)
  have K17 := K3.wr W17 (Or.inl (List.mem_of_getElem? (i := 1) rfl))
  have N17 := Fr.snoc X17 N3 g_ba
  refine Wk.go (A' := T17.setTop (mkF m 17 #[rv ob, iv bx, jv lim, .second] [])) (fun t k => st17 t k) ?_
  refine Wk.go (A' := T17.setTop (mkF m 18 #[rv ob, iv bx, jv lim, .second] [(.ref ob)])) (fun t k => XS.aloadN X17.here hx rfl (hb hby d3_17) rfl rfl k) ?_
  obtain ⟨T31, X31, e31, st31⟩ := getF X17 hx hZ hown (host := "") (Or.inl (tw21 hw)) Via.refl e17 f22 (g := (mkF m 18 #[rv ob, iv bx, jv lim, .second] [(.ref ob)])) rfl rfl (hb hby d3_18)
  refine Wk.go (A' := T31.setTop (mkF m 21 #[rv ob, iv bx, jv lim, .second] [(.int (1 : Int32))])) (fun t k => st31 t k) ?_
  refine Wk.go (A' := T31.setTop (mkF m 22 #[rv ob, iv bx, jv lim, .second] [(.int (2 : Int32)), (.int (1 : Int32))])) (fun t k => XS.iconst X31.here hx rfl (hb hby d3_21) k) ?_
  have hc22 : ¬ ((1 : Int32) = (2 : Int32)) := by decide
  refine Wk.go (A' := T31.setTop (mkF m 29 #[rv ob, iv bx, jv lim, .second] [])) (fun t k => XS.icmpYes X31.here hx rfl (pc0 := 22) (pc' := 29) rfl (hb hby d3_22) rfl (feq hc22).2 (by decide) (by decide) k) ?_
  refine Wk.go (A' := T31.setTop (mkF m 30 #[rv ob, iv bx, jv lim, .second] [(.ref ob)])) (fun t k => XS.aloadN X31.here hx rfl (hb hby d3_29) rfl rfl k) ?_
  obtain ⟨T32, X32, e32, st32⟩ := getF X31 hx hZ hown (host := "") (Or.inl (tw21 hw)) Via.refl e31 f22 (g := (mkF m 30 #[rv ob, iv bx, jv lim, .second] [(.ref ob)])) rfl rfl (hb hby d3_30)
  refine Wk.go (A' := T32.setTop (mkF m 33 #[rv ob, iv bx, jv lim, .second] [(.int (1 : Int32))])) (fun t k => st32 t k) ?_
  refine Wk.go (A' := T32.setTop (mkF m 34 #[rv ob, iv bx, jv lim, .second] [(.ref ob), (.int (1 : Int32))])) (fun t k => XS.aloadN X32.here hx rfl (hb hby d3_33) rfl rfl k) ?_
  obtain ⟨cq33, q33, q33'⟩ := f18.cell
  obtain ⟨_, _, ⟨T33, L33, k33, n33⟩, -, X33, ⟨Lc33, hQ33, l33, y33, z33⟩, st33⟩ := X32.privateBack hx (y := (⟨own_F, "lengthEnd", "()I"⟩ : MethodName)) hown (mvT hZ (tw23 hw)) (mvT hZ (tw24 hw)) (own_sel (mvT hZ (tw3 hw)) (Cond.privateMethod_at (mvP hZ (tw25 hw) (args := #[]))) (mvT hZ (tw24 hw)) (by decide)) (Cond.privateMethod_at (mvP hZ (tw25 hw) (args := #[]))) (mvT hZ (tw26 hw)) (by decide) (backOf (W := 1) (rm4 l Z a0 hw [] ob ba f2 (1 : Int32) h17 n0 Zp17 f20 f22 f19) hZ (tw26 hw) (tw4 hw) (by decide) (by decide)) (g := (mkF m 34 #[rv ob, iv bx, jv lim, .second] [(.ref ob), (.int (1 : Int32))])) rfl (by rw [hml]; rfl) (Steps.refl _) (a := ob) (by rw [e32]; exact q33) q33' (argsL := []) (rest := [(.int (1 : Int32))]) (lenOf pd_1 rfl) rfl (by show 2 * 0 + _ ≤ _; exact Nat.le_of_eq rfl) (hb hby d3_34) (fun _ _ => ⟨rfl, e32, (by decide : 0 + 0 ≤ _), (by decide : 0 + 0 ≤ _)⟩)
  dsimp only [Pt.U, Pt.locs, Pt.cells, Pt.slots] at X33 l33 y33 z33 st33 hQ33
  subst l33 y33 z33
  obtain ⟨rfl, N33q, hE33⟩ := hQ33
  have N33 := Fr.app N17 N33q
  refine Wk.go (A' := T33.setTop (mkF m 37 #[rv ob, iv bx, jv lim, .second] [(.int (f_lend ob ba f2 (1 : Int32))), (.int (1 : Int32))])) (fun t k => st33.trans k) ?_
  rw [show (f_lend ob ba f2 (1 : Int32)) = (2 : Int32) from own_l1 _ _ _ (by decide)]
  have hc37 : ¬ ((1 : Int32) = (2 : Int32)) := by decide
  refine Wk.go (A' := T33.setTop (mkF m 45 #[rv ob, iv bx, jv lim, .second] [])) (fun t k => XS.icmpYes X33.here hx rfl (pc0 := 37) (pc' := 45) rfl (hb hby d3_37) rfl (feq hc37).2 (by decide) (by decide) k) ?_
  refine Wk.go (A' := T33.setTop (mkF m 46 #[rv ob, iv bx, jv lim, .second] [(.ref ob)])) (fun t k => XS.aloadN X33.here hx rfl (hb hby d3_45) rfl rfl k) ?_
  obtain ⟨T34, X34, e34, st34⟩ := getF X33 hx hZ hown (host := "") (Or.inl (tw21 hw)) Via.refl (hE33) f22 (g := (mkF m 46 #[rv ob, iv bx, jv lim, .second] [(.ref ob)])) rfl rfl (hb hby d3_46)
  refine Wk.go (A' := T34.setTop (mkF m 49 #[rv ob, iv bx, jv lim, .second] [(.int (1 : Int32))])) (fun t k => st34 t k) ?_
  refine Wk.go (A' := T34.setTop (mkF m 50 #[rv ob, iv bx, jv lim, .second] [(.ref ob), (.int (1 : Int32))])) (fun t k => XS.aloadN X34.here hx rfl (hb hby d3_49) rfl rfl k) ?_
  obtain ⟨cq35, q35, q35'⟩ := f18.cell
  obtain ⟨_, _, ⟨T35, L35, k35, n35⟩, -, X35, ⟨Lc35, hQ35, l35, y35, z35⟩, st35⟩ := X34.privateBack hx (y := (⟨own_F, "lengthEnd", "()I"⟩ : MethodName)) hown (mvT hZ (tw23 hw)) (mvT hZ (tw24 hw)) (own_sel (mvT hZ (tw3 hw)) (Cond.privateMethod_at (mvP hZ (tw25 hw) (args := #[]))) (mvT hZ (tw24 hw)) (by decide)) (Cond.privateMethod_at (mvP hZ (tw25 hw) (args := #[]))) (mvT hZ (tw26 hw)) (by decide) (backOf (W := 1) (rm4 l Z a0 hw [] ob ba f2 (1 : Int32) h17 n0 Zp17 f20 f22 f19) hZ (tw26 hw) (tw4 hw) (by decide) (by decide)) (g := (mkF m 50 #[rv ob, iv bx, jv lim, .second] [(.ref ob), (.int (1 : Int32))])) rfl (by rw [hml]; rfl) (Steps.refl _) (a := ob) (by rw [e34]; exact q35) q35' (argsL := []) (rest := [(.int (1 : Int32))]) (lenOf pd_1 rfl) rfl (by show 2 * 0 + _ ≤ _; exact Nat.le_of_eq rfl) (hb hby d3_50) (fun _ _ => ⟨rfl, e34, (by decide : 0 + 0 ≤ _), (by decide : 0 + 0 ≤ _)⟩)
  dsimp only [Pt.U, Pt.locs, Pt.cells, Pt.slots] at X35 l35 y35 z35 st35 hQ35
  subst l35 y35 z35
  obtain ⟨rfl, N35q, hE35⟩ := hQ35
  have N35 := Fr.app N33 N35q
  refine Wk.go (A' := T35.setTop (mkF m 53 #[rv ob, iv bx, jv lim, .second] [(.int (f_lend ob ba f2 (1 : Int32))), (.int (1 : Int32))])) (fun t k => st35.trans k) ?_
  rw [show (f_lend ob ba f2 (1 : Int32)) = (2 : Int32) from own_l1 _ _ _ (by decide)]
  refine Wk.go (A' := T35.setTop (mkF m 54 #[rv ob, iv bx, jv lim, .second] [(.ref ob), (.int (2 : Int32)), (.int (1 : Int32))])) (fun t k => XS.aloadN X35.here hx rfl (hb hby d3_53) rfl rfl k) ?_
  obtain ⟨T36, X36, e36, st36⟩ := getF X35 hx hZ hown (host := "") (Or.inl (tw13 hw)) Via.refl (hE35) f21 (g := (mkF m 54 #[rv ob, iv bx, jv lim, .second] [(.ref ob), (.int (2 : Int32)), (.int (1 : Int32))])) rfl rfl (hb hby d3_54)
  refine Wk.go (A' := T36.setTop (mkF m 57 #[rv ob, iv bx, jv lim, .second] [(.int (1 : Int32)), (.int (2 : Int32)), (.int (1 : Int32))])) (fun t k => st36 t k) ?_
  have hc57 : ¬ ((1 : Int32) = (0 : Int32)) := by decide
  refine Wk.go (A' := T36.setTop (mkF m 60 #[rv ob, iv bx, jv lim, .second] [(.int (2 : Int32)), (.int (1 : Int32))])) (fun t k => XS.ifNo X36.here hx rfl (hb hby d3_57) rfl ((if0 _ _).trans (feq hc57).1) k) ?_
  refine Wk.go (A' := T36.setTop (mkF m 61 #[rv ob, iv bx, jv lim, .second] [(.int (4 : Int32)), (.int (2 : Int32)), (.int (1 : Int32))])) (fun t k => XS.iconst X36.here hx rfl (hb hby d3_60) k) ?_
  refine Wk.go (A' := T36.setTop (mkF m 65 #[rv ob, iv bx, jv lim, .second] [(.int (4 : Int32)), (.int (2 : Int32)), (.int (1 : Int32))])) (fun t k => XS.goto X36.here hx rfl (pc0 := 61) (pc' := 65) rfl (hb hby d3_61) (by decide) (by decide) k) ?_
  refine Wk.go (A' := T36.setTop (mkF m 66 #[rv ob, iv bx, jv lim, .second] [(.int (6 : Int32)), (.int (1 : Int32))])) (fun t k => XS.iadd X36.here hx rfl (hb hby d3_65) rfl k) ?_
  have hc66 : (1 : Int32) < (6 : Int32) := by decide
  refine Wk.go (A' := T36.setTop (mkF m 69 #[rv ob, iv bx, jv lim, .second] [])) (fun t k => XS.icmpNo X36.here hx rfl (hb hby d3_66) rfl (tlt hc66).2.1 k) ?_
  refine Wk.go (A' := T36.setTop (mkF m 70 #[rv ob, iv bx, jv lim, .second] [(.int (0 : Int32))])) (fun t k => XS.iconst X36.here hx rfl (hb hby d3_69) k) ?_
  refine own_fin (Qv := Q30m Z ob bx lim ba fB h0 n0) (v := some (.int (0 : Int32))) X36 hlk (fun h => by rw [Bd.returns] at h; cases h) (fun fs hr => retN X36 hx (t := .boolean) Bd.returns (by simp) (hb hby d3_70) hr) ?_ (by decide) (by decide)
  show Q30m Z ob bx lim ba fB h0 n0 _ T36.heap _
  rw [e36]
  have fin := f19
  rw [hf2] at fin
  exact ⟨rfl, N35, K17, f18, f20, f21, f22, f23, f24, f25, f26, f27, f28, f29, f30, fin⟩
theorem ef_31nm (m : MethodId) (x0 : Addr) (x1 : Int32) (x2 : Int64) : entryFrame m #[(.ref x0), (.int x1), (.long x2)] 4 = mkF m 0 #[rv x0, iv x1, jv x2, .second] [] := by first | (simp [entryFrame, mkF, argsToLocals, Value.category]; done) | rfl
def Q31nm (Z : State) (ob : Addr) (bx : Int32) (lim : Int64) (ba : Addr) (fB : Nat → Int32) (h0 : Heap) (n0 : Nat) (v : Option Value) (h : Heap) (L : List Loc) : Prop := ∃ lnQ : Int64, v = some (.int (0 : Int32)) ∧ Fr n0 L ∧ Keep h0 h [ob, ba] ∧ Exa Z h ob own_F ∧ Fld Z h ob own_F "bytes" "[B" (.ref ba) ∧ Fld Z h ob own_F "masked" "Z" (.int (1 : Int32)) ∧ Fld Z h ob own_F "count" "I" (.int (2 : Int32)) ∧ Fld Z h ob own_F "opcode" "I" (.int (2 : Int32)) ∧ Fld Z h ob own_F "last" "Z" (.int (1 : Int32)) ∧ Fld Z h ob own_F "open" "Z" (.int (0 : Int32)) ∧ Fld Z h ob own_F "length" "J" (.long lnQ) ∧ Fld Z h ob own_F "maskAt" "I" (.int (2 : Int32)) ∧ Fld Z h ob own_F "messageOpcode" "I" (.int (2 : Int32)) ∧ Fld Z h ob own_F "messageBytes" "J" (.long (0 : Int64)) ∧ Fld Z h ob own_F "dataLength" "J" (.long lnQ) ∧ BA Z h ba 14 (own_upd fB 1 (bx).toInt8.toInt32)
set_option maxRecDepth 65536 in
set_option maxHeartbeats 40000000 in
theorem rm31nm (l : Launch) (Z : State) (a0 : Array Value) (hw : ∀ d ∈ tables_1, d.before a0 Z = true) (ws : List Jvm.Cond) (ob : Addr) (bx : Int32) (lim : Int64) (ba : Addr) (fB : Nat → Int32) (h0 : Heap) (n0 : Nat) (Z0 : n0 ≤ h0.size) (E_ob : Exa Z h0 ob own_F) (F_bytes : Fld Z h0 ob own_F "bytes" "[B" (.ref ba)) (F_masked : Fld Z h0 ob own_F "masked" "Z" (.int (1 : Int32))) (F_count : Fld Z h0 ob own_F "count" "I" (.int (1 : Int32))) (F_opcode : Fld Z h0 ob own_F "opcode" "I" (.int (0 : Int32))) (F_last : Fld Z h0 ob own_F "last" "Z" (.int (0 : Int32))) (F_open : Fld Z h0 ob own_F "open" "Z" (.int (0 : Int32))) (F_length : Fld Z h0 ob own_F "length" "J" (.long (0 : Int64))) (F_maskAt : Fld Z h0 ob own_F "maskAt" "I" (.int (0 : Int32))) (F_messageOpcode : Fld Z h0 ob own_F "messageOpcode" "I" (.int (0 : Int32))) (F_messageBytes : Fld Z h0 ob own_F "messageBytes" "J" (.long (0 : Int64))) (F_dataLength : Fld Z h0 ob own_F "dataLength" "J" (.long (0 : Int64))) (VB : BA Z h0 ba 14 fB) (hne : ob ≠ ba) (g_ob : n0 ≤ ob) (g_ba : n0 ≤ ba) (hl : lim = (9223372036854775807 : Int64)) (hb0 : fB 0 = (-126 : Int32)) (hbm : ¬ ((bx.toInt8.toInt32 &&& (128 : Int32)) = (0 : Int32))) (hbw : (bx.toInt8.toInt32 &&& (127 : Int32)) < (126 : Int32)) :
    MetFree l (⟨own_F, "take", "(BJ)Z"⟩ : MethodName) (head1 (Jvm.Cond.code (⟨own_F, "take", "(BJ)Z"⟩ : MethodName) prog_100_method_2_code 4 (some .boolean) :: ws) ({ frames := 2, cells := 0, slots := 0, locals := 33 } : Room)) (fun a U => a = #[(.ref ob), (.int bx), (.long lim)] ∧ Z.Warmed39 U.vm ∧ U.heap = h0) (fun _ _ _ _ _ => True) (fun _ U o U' => ∃ v L, o = .returned v ∧ Q31nm Z ob bx lim ba fB h0 n0 v U'.heap L ∧ FrameEnd U o U' L ({ frames := 2, cells := 0, slots := 0, locals := 33 } : Room).cells ({ frames := 2, cells := 0, slots := 0, locals := 33 } : Room).slots) := by
  refine MetFree.of_bodySF (plainFor_of_name pn_0) hisR ?_
  intro p e s m args below meth c s₁ Bd hml0 hP hK
  obtain ⟨rfl, hZ, hh⟩ := hP
  have hx := Bd.exec
  have hby := Bd.bytes
  have hml : c.maxLocals = 4 := hml0
  have hown : s.vm.findClass own_F = some m.cls := findClass_of_methodNamed Bd.named
  have hnm := (name_of_methodNamed Bd.named Bd.method).1
  have X0 : Stand p l e ({ frames := 2, cells := 0, slots := 0, locals := 33 } : Room) s m #[(.ref ob), (.int bx), (.long lim)] below meth c s₁ [] 0 0 := Stand.of_body Bd
  have e0 : s₁.heap = h0 := by rw [← hh, Bd.state]; rfl
  have N0 := Fr.nil n0
  have hlk : meth.locks = false := BodyLoose.notSynchronized Bd
  suffices hwk : Wk p.tables e below (s₁.setTop (mkF m 0 #[rv ob, iv bx, jv lim, .second] [])) (fun U o => U.status = .running ∧ Ended U below o ∧ ∃ v L, o = .returned v ∧ Q31nm Z ob bx lim ba fB h0 n0 v U.heap L ∧ FrameEnd s o U L 0 0) by
    obtain ⟨U, o, k1, k2⟩ := hwk
    exact ⟨U, o, castTop (ef_31nm m ob bx lim) k1, k2⟩
  have K0 := Keep.refl h0 [ob, ba]
  refine Wk.go (A' := s₁.setTop (mkF m 1 #[rv ob, iv bx, jv lim, .second] [(.ref ob)])) (fun t k => XS.aloadN X0.here hx rfl (hb hby d3_0) rfl rfl k) ?_
  obtain ⟨T1, X1, e1, st1⟩ := getF X0 hx hZ hown (host := "") (Or.inl (tw11 hw)) Via.refl e0 F_bytes (g := (mkF m 1 #[rv ob, iv bx, jv lim, .second] [(.ref ob)])) rfl rfl (hb hby d3_1)
  refine Wk.go (A' := T1.setTop (mkF m 4 #[rv ob, iv bx, jv lim, .second] [(.ref ba)])) (fun t k => st1 t k) ?_
  refine Wk.go (A' := T1.setTop (mkF m 5 #[rv ob, iv bx, jv lim, .second] [(.ref ob), (.ref ba)])) (fun t k => XS.aloadN X1.here hx rfl (hb hby d3_4) rfl rfl k) ?_
  refine Wk.go (A' := T1.setTop (mkF m 6 #[rv ob, iv bx, jv lim, .second] [(.ref ob), (.ref ob), (.ref ba)])) (fun t k => XS.dup X1.here hx rfl (hb hby d3_5) rfl rfl k) ?_
  obtain ⟨T2, X2, e2, st2⟩ := getF X1 hx hZ hown (host := "") (Or.inl (tw21 hw)) Via.refl e1 F_count (g := (mkF m 6 #[rv ob, iv bx, jv lim, .second] [(.ref ob), (.ref ob), (.ref ba)])) rfl rfl (hb hby d3_6)
  refine Wk.go (A' := T2.setTop (mkF m 9 #[rv ob, iv bx, jv lim, .second] [(.int (1 : Int32)), (.ref ob), (.ref ba)])) (fun t k => st2 t k) ?_
  refine Wk.go (A' := T2.setTop (mkF m 10 #[rv ob, iv bx, jv lim, .second] [(.int (1 : Int32)), (.ref ob), (.int (1 : Int32)), (.ref ba)])) (fun t k => XS.dupX1 X2.here hx rfl (hb hby d3_9) rfl rfl rfl k) ?_
  refine Wk.go (A' := T2.setTop (mkF m 11 #[rv ob, iv bx, jv lim, .second] [(.int (1 : Int32)), (.int (1 : Int32)), (.ref ob), (.int (1 : Int32)), (.ref ba)])) (fun t k => XS.iconst X2.here hx rfl (hb hby d3_10) k) ?_
  refine Wk.go (A' := T2.setTop (mkF m 12 #[rv ob, iv bx, jv lim, .second] [(.int (2 : Int32)), (.ref ob), (.int (1 : Int32)), (.ref ba)])) (fun t k => XS.iadd X2.here hx rfl (hb hby d3_11) rfl k) ?_
  obtain ⟨T3, h3, X3, e3, W3, st3⟩ := putF X2 hx hZ hown (host := "") (Or.inl (tw21 hw)) Via.refl e2 F_count E_ob (Or.inl (tw22 hw)) (tw3 hw) (ty := .int) (by decide) rfl rfl (g := (mkF m 12 #[rv ob, iv bx, jv lim, .second] [(.int (2 : Int32)), (.ref ob), (.int (1 : Int32)), (.ref ba)])) rfl rfl (hb hby d3_12)
  have f4 := E_ob.wr W3
  have f5 := VB.other W3 (Ne.symm hne)
  have f6 := F_bytes.other W3 (Or.inr (sn_100 hw))
  have f7 := F_masked.other W3 (Or.inr (sn_101 hw))
  have f8 := F_count.same W3
  have f9 := F_opcode.other W3 (Or.inr (sn_102 hw))
  have f10 := F_last.other W3 (Or.inr (sn_103 hw))
  have f11 := F_open.other W3 (Or.inr (sn_104 hw))
  have f12 := F_length.other W3 (Or.inr (sn_105 hw))
  have f13 := F_maskAt.other W3 (Or.inr (sn_106 hw))
  have f14 := F_messageOpcode.other W3 (Or.inr (sn_107 hw))
  have f15 := F_messageBytes.other W3 (Or.inr (sn_108 hw))
  have f16 := F_dataLength.other W3 (Or.inr (sn_109 hw))
  have Zp3 : n0 ≤ h3.size := Nat.le_trans Z0 (Nat.le_of_eq W3.size.symm)
  have K3 := K0.wr W3 (Or.inl (List.mem_of_getElem? (i := 0) rfl))
  have N3 := Fr.snoc X3 N0 g_ob
  refine Wk.go (A' := T3.setTop (mkF m 15 #[rv ob, iv bx, jv lim, .second] [(.int (1 : Int32)), (.ref ba)])) (fun t k => st3 t k) ?_
  refine Wk.go (A' := T3.setTop (mkF m 16 #[rv ob, iv bx, jv lim, .second] [(.int bx), (.int (1 : Int32)), (.ref ba)])) (fun t k => XS.iloadN X3.here hx rfl (hb hby d3_15) rfl k) ?_
  obtain ⟨T17, h17, X17, e17, W17, B17, st17⟩ := own_stB X3 hx hZ e3 f5 (j := (1 : Int32)) (by decide) (g := (mkF m 16 #[rv ob, iv bx, jv lim, .second] [(.int bx), (.int (1 : Int32)), (.ref ba)])) rfl rfl (hb hby d3_16)
  have V17 : BA Z h17 ba 14 (own_upd fB 1 (bx).toInt8.toInt32) := B17
  obtain ⟨f2, hf2⟩ : ∃ z, z = (own_upd fB 1 (bx).toInt8.toInt32) := ⟨_, rfl⟩
  rw [← hf2] at V17
  have f18 := f4.wr W17
  have f19 := V17
  have f20 := f6.other W17 (Or.inl hne)
  have f21 := f7.other W17 (Or.inl hne)
  have f22 := f8.other W17 (Or.inl hne)
  have f23 := f9.other W17 (Or.inl hne)
  have f24 := f10.other W17 (Or.inl hne)
  have f25 := f11.other W17 (Or.inl hne)
  have f26 := f12.other W17 (Or.inl hne)
  have f27 := f13.other W17 (Or.inl hne)
  have f28 := f14.other W17 (Or.inl hne)
  have f29 := f15.other W17 (Or.inl hne)
  have f30 := f16.other W17 (Or.inl hne)
  have Zp17 : n0 ≤ h17.size := Nat.le_trans Zp3 (Nat.le_of_eq W17.size.symm)
  have K17 := K3.wr W17 (Or.inl (List.mem_of_getElem? (i := 1) rfl))
  have N17 := Fr.snoc X17 N3 g_ba
  refine Wk.go (A' := T17.setTop (mkF m 17 #[rv ob, iv bx, jv lim, .second] [])) (fun t k => st17 t k) ?_
  have c1 : f2 1 = bx.toInt8.toInt32 := by rw [hf2, own_upd_eq]
  have cz : f2 0 = (-126 : Int32) := by rw [hf2, own_upd_ne _ _ (by decide)]; exact hb0
  have cm : ¬ ((f2 1 &&& (128 : Int32)) = (0 : Int32)) := by rw [c1]; exact hbm
  have cw : (f2 1 &&& (127 : Int32)) < (126 : Int32) := by rw [c1]; exact hbw
  refine Wk.go (A' := T17.setTop (mkF m 18 #[rv ob, iv bx, jv lim, .second] [(.ref ob)])) (fun t k => XS.aloadN X17.here hx rfl (hb hby d3_17) rfl rfl k) ?_
  obtain ⟨T31, X31, e31, st31⟩ := getF X17 hx hZ hown (host := "") (Or.inl (tw21 hw)) Via.refl e17 f22 (g := (mkF m 18 #[rv ob, iv bx, jv lim, .second] [(.ref ob)])) rfl rfl (hb hby d3_18)
  refine Wk.go (A' := T31.setTop (mkF m 21 #[rv ob, iv bx, jv lim, .second] [(.int (2 : Int32))])) (fun t k => st31 t k) ?_
  refine Wk.go (A' := T31.setTop (mkF m 22 #[rv ob, iv bx, jv lim, .second] [(.int (2 : Int32)), (.int (2 : Int32))])) (fun t k => XS.iconst X31.here hx rfl (hb hby d3_21) k) ?_
  have hc22 : (2 : Int32) = (2 : Int32) := by decide
  refine Wk.go (A' := T31.setTop (mkF m 25 #[rv ob, iv bx, jv lim, .second] [])) (fun t k => XS.icmpNo X31.here hx rfl (hb hby d3_22) rfl (teq hc22).2 k) ?_
  refine Wk.go (A' := T31.setTop (mkF m 26 #[rv ob, iv bx, jv lim, .second] [(.ref ob)])) (fun t k => XS.aloadN X31.here hx rfl (hb hby d3_25) rfl rfl k) ?_
  obtain ⟨cq32, q32, q32'⟩ := f18.cell
  obtain ⟨_, _, ⟨T32, L32, k32, n32⟩, -, X32, ⟨Lc32, hQ32, l32, y32, z32⟩, st32⟩ := X31.privateBack hx (y := (⟨own_F, "checkStart", "()V"⟩ : MethodName)) hown (mvT hZ (tw27 hw)) (mvT hZ (tw28 hw)) (own_sel (mvT hZ (tw3 hw)) (Cond.privateMethod_at (mvP hZ (tw29 hw) (args := #[]))) (mvT hZ (tw28 hw)) (by decide)) (Cond.privateMethod_at (mvP hZ (tw29 hw) (args := #[]))) (mvT hZ (tw30 hw)) (by decide) (backOf (W := 0) (rm5m l Z a0 hw [] ob ba f2 h17 n0 Zp17 f18 f20 f21 f22 f23 f24 f25 f26 f27 f28 f29 f30 f19 hne g_ob g_ba rfl cz cm) hZ (tw30 hw) (tw4 hw) (by decide) (by decide)) (g := (mkF m 26 #[rv ob, iv bx, jv lim, .second] [(.ref ob)])) rfl (by rw [hml]; rfl) (Steps.refl _) (a := ob) (by rw [e31]; exact q32) q32' (argsL := []) (rest := []) (lenOf pd_2 rfl) rfl (by show 2 * 0 + _ ≤ _; exact Nat.le_of_eq rfl) (hb hby d3_26) (fun _ _ => ⟨rfl, e31, (by decide : 0 + 0 ≤ _), (by decide : 0 + 0 ≤ _)⟩)
  dsimp only [Pt.U, Pt.locs, Pt.cells, Pt.slots] at X32 l32 y32 z32 st32 hQ32
  subst l32 y32 z32
  obtain ⟨rfl, N32q, Kq32, Eq32, Fq32_bytes, Fq32_masked, Fq32_count, Fq32_opcode, Fq32_last, Fq32_open, Fq32_length, Fq32_maskAt, Fq32_messageOpcode, Fq32_messageBytes, Fq32_dataLength, Vq32⟩ := hQ32
  have N32 := Fr.app N17 N32q
  have f33 := f18.keep Kq32
  have Zp32 : n0 ≤ T32.heap.size := Nat.le_trans Zp17 Kq32.1
  have Kt32 := K17.trans Kq32 (allS (Or.inl (List.mem_of_getElem? (i := 0) rfl)) (allS (Or.inl (List.mem_of_getElem? (i := 1) rfl)) all0))
  refine Wk.go (A' := T32.setTop (mkF m 29 #[rv ob, iv bx, jv lim, .second] [])) (fun t k => st32.trans k) ?_
  refine Wk.go (A' := T32.setTop (mkF m 30 #[rv ob, iv bx, jv lim, .second] [(.ref ob)])) (fun t k => XS.aloadN X32.here hx rfl (hb hby d3_29) rfl rfl k) ?_
  obtain ⟨T34, X34, e34, st34⟩ := getF X32 hx hZ hown (host := "") (Or.inl (tw21 hw)) Via.refl rfl Fq32_count (g := (mkF m 30 #[rv ob, iv bx, jv lim, .second] [(.ref ob)])) rfl rfl (hb hby d3_30)
  refine Wk.go (A' := T34.setTop (mkF m 33 #[rv ob, iv bx, jv lim, .second] [(.int (2 : Int32))])) (fun t k => st34 t k) ?_
  refine Wk.go (A' := T34.setTop (mkF m 34 #[rv ob, iv bx, jv lim, .second] [(.ref ob), (.int (2 : Int32))])) (fun t k => XS.aloadN X34.here hx rfl (hb hby d3_33) rfl rfl k) ?_
  obtain ⟨cq35, q35, q35'⟩ := Eq32.cell
  obtain ⟨_, _, ⟨T35, L35, k35, n35⟩, -, X35, ⟨Lc35, hQ35, l35, y35, z35⟩, st35⟩ := X34.privateBack hx (y := (⟨own_F, "lengthEnd", "()I"⟩ : MethodName)) hown (mvT hZ (tw23 hw)) (mvT hZ (tw24 hw)) (own_sel (mvT hZ (tw3 hw)) (Cond.privateMethod_at (mvP hZ (tw25 hw) (args := #[]))) (mvT hZ (tw24 hw)) (by decide)) (Cond.privateMethod_at (mvP hZ (tw25 hw) (args := #[]))) (mvT hZ (tw26 hw)) (by decide) (backOf (W := 1) (rm4 l Z a0 hw [] ob ba f2 (2 : Int32) T32.heap n0 Zp32 Fq32_bytes Fq32_count Vq32) hZ (tw26 hw) (tw4 hw) (by decide) (by decide)) (g := (mkF m 34 #[rv ob, iv bx, jv lim, .second] [(.ref ob), (.int (2 : Int32))])) rfl (by rw [hml]; rfl) (Steps.refl _) (a := ob) (by rw [e34]; exact q35) q35' (argsL := []) (rest := [(.int (2 : Int32))]) (lenOf pd_1 rfl) rfl (by show 2 * 0 + _ ≤ _; exact Nat.le_of_eq rfl) (hb hby d3_34) (fun _ _ => ⟨rfl, e34, (by decide : 0 + 0 ≤ _), (by decide : 0 + 0 ≤ _)⟩)
  dsimp only [Pt.U, Pt.locs, Pt.cells, Pt.slots] at X35 l35 y35 z35 st35 hQ35
  subst l35 y35 z35
  obtain ⟨rfl, N35q, hE35⟩ := hQ35
  have N35 := Fr.app N32 N35q
  refine Wk.go (A' := T35.setTop (mkF m 37 #[rv ob, iv bx, jv lim, .second] [(.int (f_lend ob ba f2 (2 : Int32))), (.int (2 : Int32))])) (fun t k => st35.trans k) ?_
  rw [show (f_lend ob ba f2 (2 : Int32)) = (2 : Int32) from own_l2 _ _ _ (by decide) cw]
  have hc37 : (2 : Int32) = (2 : Int32) := by decide
  refine Wk.go (A' := T35.setTop (mkF m 40 #[rv ob, iv bx, jv lim, .second] [])) (fun t k => XS.icmpNo X35.here hx rfl (hb hby d3_37) rfl (teq hc37).2 k) ?_
  refine Wk.go (A' := T35.setTop (mkF m 41 #[rv ob, iv bx, jv lim, .second] [(.ref ob)])) (fun t k => XS.aloadN X35.here hx rfl (hb hby d3_40) rfl rfl k) ?_
  refine Wk.go (A' := T35.setTop (mkF m 42 #[rv ob, iv bx, jv lim, .second] [(.long lim), (.ref ob)])) (fun t k => XS.lloadN X35.here hx rfl (hb hby d3_41) rfl k) ?_
  obtain ⟨cq36, q36, q36'⟩ := Eq32.cell
  obtain ⟨_, _, ⟨T36, L36, k36, n36⟩, -, X36, ⟨Lc36, hQ36, l36, y36, z36⟩, st36⟩ := X35.privateBack hx (y := (⟨own_F, "announce", "(J)V"⟩ : MethodName)) hown (mvT hZ (tw42 hw)) (mvT hZ (tw43 hw)) (own_sel (mvT hZ (tw3 hw)) (Cond.privateMethod_at (mvP hZ (tw44 hw) (args := #[]))) (mvT hZ (tw43 hw)) (by decide)) (Cond.privateMethod_at (mvP hZ (tw44 hw) (args := #[]))) (mvT hZ (tw45 hw)) (by decide) (backOf (W := 0) (rm7nm l Z a0 hw [] ob lim ba f2 T32.heap n0 Zp32 Eq32 Fq32_bytes Fq32_masked Fq32_count Fq32_opcode Fq32_last Fq32_open Fq32_length Fq32_maskAt Fq32_messageOpcode Fq32_messageBytes Fq32_dataLength Vq32 hne g_ob g_ba hl cw) hZ (tw45 hw) (tw4 hw) (by decide) (by decide)) (g := (mkF m 42 #[rv ob, iv bx, jv lim, .second] [(.long lim), (.ref ob)])) rfl (by rw [hml]; rfl) (Steps.refl _) (a := ob) (by rw [(hE35)]; exact q36) q36' (argsL := [(.long lim)]) (rest := []) (lenOf pd_3 rfl) rfl (by show 2 * 0 + _ ≤ _; exact Nat.le_of_eq rfl) (hb hby d3_42) (fun _ _ => ⟨rfl, (hE35), (by decide : 0 + 0 ≤ _), (by decide : 0 + 0 ≤ _)⟩)
  dsimp only [Pt.U, Pt.locs, Pt.cells, Pt.slots] at X36 l36 y36 z36 st36 hQ36
  subst l36 y36 z36
  obtain ⟨ln36, rfl, N36q, Kq36, Eq36, Fq36_bytes, Fq36_masked, Fq36_count, Fq36_opcode, Fq36_last, Fq36_open, Fq36_length, Fq36_maskAt, Fq36_messageOpcode, Fq36_messageBytes, Fq36_dataLength, Vq36⟩ := hQ36
  have N36 := Fr.app N35 N36q
  have f37 := Eq32.keep Kq36
  have Zp36 : n0 ≤ T36.heap.size := Nat.le_trans Zp32 Kq36.1
  have Kt36 := Kt32.trans Kq36 (allS (Or.inl (List.mem_of_getElem? (i := 0) rfl)) (allS (Or.inl (List.mem_of_getElem? (i := 1) rfl)) all0))
  refine Wk.go (A' := T36.setTop (mkF m 45 #[rv ob, iv bx, jv lim, .second] [])) (fun t k => st36.trans k) ?_
  refine Wk.go (A' := T36.setTop (mkF m 46 #[rv ob, iv bx, jv lim, .second] [(.ref ob)])) (fun t k => XS.aloadN X36.here hx rfl (hb hby d3_45) rfl rfl k) ?_
  obtain ⟨T38, X38, e38, st38⟩ := getF X36 hx hZ hown (host := "") (Or.inl (tw21 hw)) Via.refl rfl Fq36_count (g := (mkF m 46 #[rv ob, iv bx, jv lim, .second] [(.ref ob)])) rfl rfl (hb hby d3_46)
  refine Wk.go (A' := T38.setTop (mkF m 49 #[rv ob, iv bx, jv lim, .second] [(.int (2 : Int32))])) (fun t k => st38 t k) ?_
  refine Wk.go (A' := T38.setTop (mkF m 50 #[rv ob, iv bx, jv lim, .second] [(.ref ob), (.int (2 : Int32))])) (fun t k => XS.aloadN X38.here hx rfl (hb hby d3_49) rfl rfl k) ?_
  obtain ⟨cq39, q39, q39'⟩ := Eq36.cell
  obtain ⟨_, _, ⟨T39, L39, k39, n39⟩, -, X39, ⟨Lc39, hQ39, l39, y39, z39⟩, st39⟩ := X38.privateBack hx (y := (⟨own_F, "lengthEnd", "()I"⟩ : MethodName)) hown (mvT hZ (tw23 hw)) (mvT hZ (tw24 hw)) (own_sel (mvT hZ (tw3 hw)) (Cond.privateMethod_at (mvP hZ (tw25 hw) (args := #[]))) (mvT hZ (tw24 hw)) (by decide)) (Cond.privateMethod_at (mvP hZ (tw25 hw) (args := #[]))) (mvT hZ (tw26 hw)) (by decide) (backOf (W := 1) (rm4 l Z a0 hw [] ob ba f2 (2 : Int32) T36.heap n0 Zp36 Fq36_bytes Fq36_count Vq36) hZ (tw26 hw) (tw4 hw) (by decide) (by decide)) (g := (mkF m 50 #[rv ob, iv bx, jv lim, .second] [(.ref ob), (.int (2 : Int32))])) rfl (by rw [hml]; rfl) (Steps.refl _) (a := ob) (by rw [e38]; exact q39) q39' (argsL := []) (rest := [(.int (2 : Int32))]) (lenOf pd_1 rfl) rfl (by show 2 * 0 + _ ≤ _; exact Nat.le_of_eq rfl) (hb hby d3_50) (fun _ _ => ⟨rfl, e38, (by decide : 0 + 0 ≤ _), (by decide : 0 + 0 ≤ _)⟩)
  dsimp only [Pt.U, Pt.locs, Pt.cells, Pt.slots] at X39 l39 y39 z39 st39 hQ39
  subst l39 y39 z39
  obtain ⟨rfl, N39q, hE39⟩ := hQ39
  have N39 := Fr.app N36 N39q
  refine Wk.go (A' := T39.setTop (mkF m 53 #[rv ob, iv bx, jv lim, .second] [(.int (f_lend ob ba f2 (2 : Int32))), (.int (2 : Int32))])) (fun t k => st39.trans k) ?_
  rw [show (f_lend ob ba f2 (2 : Int32)) = (2 : Int32) from own_l2 _ _ _ (by decide) cw]
  refine Wk.go (A' := T39.setTop (mkF m 54 #[rv ob, iv bx, jv lim, .second] [(.ref ob), (.int (2 : Int32)), (.int (2 : Int32))])) (fun t k => XS.aloadN X39.here hx rfl (hb hby d3_53) rfl rfl k) ?_
  obtain ⟨T40, X40, e40, st40⟩ := getF X39 hx hZ hown (host := "") (Or.inl (tw13 hw)) Via.refl (hE39) Fq36_masked (g := (mkF m 54 #[rv ob, iv bx, jv lim, .second] [(.ref ob), (.int (2 : Int32)), (.int (2 : Int32))])) rfl rfl (hb hby d3_54)
  refine Wk.go (A' := T40.setTop (mkF m 57 #[rv ob, iv bx, jv lim, .second] [(.int (1 : Int32)), (.int (2 : Int32)), (.int (2 : Int32))])) (fun t k => st40 t k) ?_
  have hc57 : ¬ ((1 : Int32) = (0 : Int32)) := by decide
  refine Wk.go (A' := T40.setTop (mkF m 60 #[rv ob, iv bx, jv lim, .second] [(.int (2 : Int32)), (.int (2 : Int32))])) (fun t k => XS.ifNo X40.here hx rfl (hb hby d3_57) rfl ((if0 _ _).trans (feq hc57).1) k) ?_
  refine Wk.go (A' := T40.setTop (mkF m 61 #[rv ob, iv bx, jv lim, .second] [(.int (4 : Int32)), (.int (2 : Int32)), (.int (2 : Int32))])) (fun t k => XS.iconst X40.here hx rfl (hb hby d3_60) k) ?_
  refine Wk.go (A' := T40.setTop (mkF m 65 #[rv ob, iv bx, jv lim, .second] [(.int (4 : Int32)), (.int (2 : Int32)), (.int (2 : Int32))])) (fun t k => XS.goto X40.here hx rfl (pc0 := 61) (pc' := 65) rfl (hb hby d3_61) (by decide) (by decide) k) ?_
  refine Wk.go (A' := T40.setTop (mkF m 66 #[rv ob, iv bx, jv lim, .second] [(.int (6 : Int32)), (.int (2 : Int32))])) (fun t k => XS.iadd X40.here hx rfl (hb hby d3_65) rfl k) ?_
  have hc66 : (2 : Int32) < (6 : Int32) := by decide
  refine Wk.go (A' := T40.setTop (mkF m 69 #[rv ob, iv bx, jv lim, .second] [])) (fun t k => XS.icmpNo X40.here hx rfl (hb hby d3_66) rfl (tlt hc66).2.1 k) ?_
  refine Wk.go (A' := T40.setTop (mkF m 70 #[rv ob, iv bx, jv lim, .second] [(.int (0 : Int32))])) (fun t k => XS.iconst X40.here hx rfl (hb hby d3_69) k) ?_
  refine own_fin (Qv := Q31nm Z ob bx lim ba fB h0 n0) (v := some (.int (0 : Int32))) X40 hlk (fun h => by rw [Bd.returns] at h; cases h) (fun fs hr => retN X40 hx (t := .boolean) Bd.returns (by simp) (hb hby d3_70) hr) ?_ (by decide) (by decide)
  show Q31nm Z ob bx lim ba fB h0 n0 _ T40.heap _
  rw [e40]
  have fin := Vq36
  rw [hf2] at fin
  exact ⟨_, rfl, N39, Kt36, Eq36, Fq36_bytes, Fq36_masked, Fq36_count, Fq36_opcode, Fq36_last, Fq36_open, Fq36_length, Fq36_maskAt, Fq36_messageOpcode, Fq36_messageBytes, Fq36_dataLength, fin⟩
theorem ef_31wm (m : MethodId) (x0 : Addr) (x1 : Int32) (x2 : Int64) : entryFrame m #[(.ref x0), (.int x1), (.long x2)] 4 = mkF m 0 #[rv x0, iv x1, jv x2, .second] [] := by first | (simp [entryFrame, mkF, argsToLocals, Value.category]; done) | rfl
def Q31wm (Z : State) (ob : Addr) (bx : Int32) (lim : Int64) (ba : Addr) (fB : Nat → Int32) (h0 : Heap) (n0 : Nat) (v : Option Value) (h : Heap) (L : List Loc) : Prop := v = some (.int (0 : Int32)) ∧ Fr n0 L ∧ Keep h0 h [ob, ba] ∧ Exa Z h ob own_F ∧ Fld Z h ob own_F "bytes" "[B" (.ref ba) ∧ Fld Z h ob own_F "masked" "Z" (.int (1 : Int32)) ∧ Fld Z h ob own_F "count" "I" (.int (2 : Int32)) ∧ Fld Z h ob own_F "opcode" "I" (.int (2 : Int32)) ∧ Fld Z h ob own_F "last" "Z" (.int (1 : Int32)) ∧ Fld Z h ob own_F "open" "Z" (.int (0 : Int32)) ∧ Fld Z h ob own_F "length" "J" (.long (0 : Int64)) ∧ Fld Z h ob own_F "maskAt" "I" (.int (0 : Int32)) ∧ Fld Z h ob own_F "messageOpcode" "I" (.int (0 : Int32)) ∧ Fld Z h ob own_F "messageBytes" "J" (.long (0 : Int64)) ∧ Fld Z h ob own_F "dataLength" "J" (.long (0 : Int64)) ∧ BA Z h ba 14 (own_upd fB 1 (bx).toInt8.toInt32)
set_option maxRecDepth 65536 in
set_option maxHeartbeats 40000000 in
theorem rm31wm (l : Launch) (Z : State) (a0 : Array Value) (hw : ∀ d ∈ tables_1, d.before a0 Z = true) (ws : List Jvm.Cond) (ob : Addr) (bx : Int32) (lim : Int64) (ba : Addr) (fB : Nat → Int32) (h0 : Heap) (n0 : Nat) (Z0 : n0 ≤ h0.size) (E_ob : Exa Z h0 ob own_F) (F_bytes : Fld Z h0 ob own_F "bytes" "[B" (.ref ba)) (F_masked : Fld Z h0 ob own_F "masked" "Z" (.int (1 : Int32))) (F_count : Fld Z h0 ob own_F "count" "I" (.int (1 : Int32))) (F_opcode : Fld Z h0 ob own_F "opcode" "I" (.int (0 : Int32))) (F_last : Fld Z h0 ob own_F "last" "Z" (.int (0 : Int32))) (F_open : Fld Z h0 ob own_F "open" "Z" (.int (0 : Int32))) (F_length : Fld Z h0 ob own_F "length" "J" (.long (0 : Int64))) (F_maskAt : Fld Z h0 ob own_F "maskAt" "I" (.int (0 : Int32))) (F_messageOpcode : Fld Z h0 ob own_F "messageOpcode" "I" (.int (0 : Int32))) (F_messageBytes : Fld Z h0 ob own_F "messageBytes" "J" (.long (0 : Int64))) (F_dataLength : Fld Z h0 ob own_F "dataLength" "J" (.long (0 : Int64))) (VB : BA Z h0 ba 14 fB) (hne : ob ≠ ba) (g_ob : n0 ≤ ob) (g_ba : n0 ≤ ba) (hl : lim = (9223372036854775807 : Int64)) (hb0 : fB 0 = (-126 : Int32)) (hbm : ¬ ((bx.toInt8.toInt32 &&& (128 : Int32)) = (0 : Int32))) (hbw : (bx.toInt8.toInt32 &&& (127 : Int32)) = (126 : Int32)) :
    MetFree l (⟨own_F, "take", "(BJ)Z"⟩ : MethodName) (head1 (Jvm.Cond.code (⟨own_F, "take", "(BJ)Z"⟩ : MethodName) prog_100_method_2_code 4 (some .boolean) :: ws) ({ frames := 2, cells := 0, slots := 0, locals := 24 } : Room)) (fun a U => a = #[(.ref ob), (.int bx), (.long lim)] ∧ Z.Warmed39 U.vm ∧ U.heap = h0) (fun _ _ _ _ _ => True) (fun _ U o U' => ∃ v L, o = .returned v ∧ Q31wm Z ob bx lim ba fB h0 n0 v U'.heap L ∧ FrameEnd U o U' L ({ frames := 2, cells := 0, slots := 0, locals := 24 } : Room).cells ({ frames := 2, cells := 0, slots := 0, locals := 24 } : Room).slots) := by
  refine MetFree.of_bodySF (plainFor_of_name pn_0) hisR ?_
  intro p e s m args below meth c s₁ Bd hml0 hP hK
  obtain ⟨rfl, hZ, hh⟩ := hP
  have hx := Bd.exec
  have hby := Bd.bytes
  have hml : c.maxLocals = 4 := hml0
  have hown : s.vm.findClass own_F = some m.cls := findClass_of_methodNamed Bd.named
  have hnm := (name_of_methodNamed Bd.named Bd.method).1
  have X0 : Stand p l e ({ frames := 2, cells := 0, slots := 0, locals := 24 } : Room) s m #[(.ref ob), (.int bx), (.long lim)] below meth c s₁ [] 0 0 := Stand.of_body Bd
  have e0 : s₁.heap = h0 := by rw [← hh, Bd.state]; rfl
  have N0 := Fr.nil n0
  have hlk : meth.locks = false := BodyLoose.notSynchronized Bd
  suffices hwk : Wk p.tables e below (s₁.setTop (mkF m 0 #[rv ob, iv bx, jv lim, .second] [])) (fun U o => U.status = .running ∧ Ended U below o ∧ ∃ v L, o = .returned v ∧ Q31wm Z ob bx lim ba fB h0 n0 v U.heap L ∧ FrameEnd s o U L 0 0) by
    obtain ⟨U, o, k1, k2⟩ := hwk
    exact ⟨U, o, castTop (ef_31wm m ob bx lim) k1, k2⟩
  have K0 := Keep.refl h0 [ob, ba]
  refine Wk.go (A' := s₁.setTop (mkF m 1 #[rv ob, iv bx, jv lim, .second] [(.ref ob)])) (fun t k => XS.aloadN X0.here hx rfl (hb hby d3_0) rfl rfl k) ?_
  obtain ⟨T1, X1, e1, st1⟩ := getF X0 hx hZ hown (host := "") (Or.inl (tw11 hw)) Via.refl e0 F_bytes (g := (mkF m 1 #[rv ob, iv bx, jv lim, .second] [(.ref ob)])) rfl rfl (hb hby d3_1)
  refine Wk.go (A' := T1.setTop (mkF m 4 #[rv ob, iv bx, jv lim, .second] [(.ref ba)])) (fun t k => st1 t k) ?_
  refine Wk.go (A' := T1.setTop (mkF m 5 #[rv ob, iv bx, jv lim, .second] [(.ref ob), (.ref ba)])) (fun t k => XS.aloadN X1.here hx rfl (hb hby d3_4) rfl rfl k) ?_
  refine Wk.go (A' := T1.setTop (mkF m 6 #[rv ob, iv bx, jv lim, .second] [(.ref ob), (.ref ob), (.ref ba)])) (fun t k => XS.dup X1.here hx rfl (hb hby d3_5) rfl rfl k) ?_
  obtain ⟨T2, X2, e2, st2⟩ := getF X1 hx hZ hown (host := "") (Or.inl (tw21 hw)) Via.refl e1 F_count (g := (mkF m 6 #[rv ob, iv bx, jv lim, .second] [(.ref ob), (.ref ob), (.ref ba)])) rfl rfl (hb hby d3_6)
  refine Wk.go (A' := T2.setTop (mkF m 9 #[rv ob, iv bx, jv lim, .second] [(.int (1 : Int32)), (.ref ob), (.ref ba)])) (fun t k => st2 t k) ?_
  refine Wk.go (A' := T2.setTop (mkF m 10 #[rv ob, iv bx, jv lim, .second] [(.int (1 : Int32)), (.ref ob), (.int (1 : Int32)), (.ref ba)])) (fun t k => XS.dupX1 X2.here hx rfl (hb hby d3_9) rfl rfl rfl k) ?_
  refine Wk.go (A' := T2.setTop (mkF m 11 #[rv ob, iv bx, jv lim, .second] [(.int (1 : Int32)), (.int (1 : Int32)), (.ref ob), (.int (1 : Int32)), (.ref ba)])) (fun t k => XS.iconst X2.here hx rfl (hb hby d3_10) k) ?_
  refine Wk.go (A' := T2.setTop (mkF m 12 #[rv ob, iv bx, jv lim, .second] [(.int (2 : Int32)), (.ref ob), (.int (1 : Int32)), (.ref ba)])) (fun t k => XS.iadd X2.here hx rfl (hb hby d3_11) rfl k) ?_
  obtain ⟨T3, h3, X3, e3, W3, st3⟩ := putF X2 hx hZ hown (host := "") (Or.inl (tw21 hw)) Via.refl e2 F_count E_ob (Or.inl (tw22 hw)) (tw3 hw) (ty := .int) (by decide) rfl rfl (g := (mkF m 12 #[rv ob, iv bx, jv lim, .second] [(.int (2 : Int32)), (.ref ob), (.int (1 : Int32)), (.ref ba)])) rfl rfl (hb hby d3_12)
  have f4 := E_ob.wr W3
  have f5 := VB.other W3 (Ne.symm hne)
  have f6 := F_bytes.other W3 (Or.inr (sn_100 hw))
  have f7 := F_masked.other W3 (Or.inr (sn_101 hw))
  have f8 := F_count.same W3
  have f9 := F_opcode.other W3 (Or.inr (sn_102 hw))
  have f10 := F_last.other W3 (Or.inr (sn_103 hw))
  have f11 := F_open.other W3 (Or.inr (sn_104 hw))
  have f12 := F_length.other W3 (Or.inr (sn_105 hw))
  have f13 := F_maskAt.other W3 (Or.inr (sn_106 hw))
  have f14 := F_messageOpcode.other W3 (Or.inr (sn_107 hw))
  have f15 := F_messageBytes.other W3 (Or.inr (sn_108 hw))
  have f16 := F_dataLength.other W3 (Or.inr (sn_109 hw))
  have Zp3 : n0 ≤ h3.size := Nat.le_trans Z0 (Nat.le_of_eq W3.size.symm)
  have K3 := K0.wr W3 (Or.inl (List.mem_of_getElem? (i := 0) rfl))
  have N3 := Fr.snoc X3 N0 g_ob
  refine Wk.go (A' := T3.setTop (mkF m 15 #[rv ob, iv bx, jv lim, .second] [(.int (1 : Int32)), (.ref ba)])) (fun t k => st3 t k) ?_
  refine Wk.go (A' := T3.setTop (mkF m 16 #[rv ob, iv bx, jv lim, .second] [(.int bx), (.int (1 : Int32)), (.ref ba)])) (fun t k => XS.iloadN X3.here hx rfl (hb hby d3_15) rfl k) ?_
  obtain ⟨T17, h17, X17, e17, W17, B17, st17⟩ := own_stB X3 hx hZ e3 f5 (j := (1 : Int32)) (by decide) (g := (mkF m 16 #[rv ob, iv bx, jv lim, .second] [(.int bx), (.int (1 : Int32)), (.ref ba)])) rfl rfl (hb hby d3_16)
  have V17 : BA Z h17 ba 14 (own_upd fB 1 (bx).toInt8.toInt32) := B17
  obtain ⟨f2, hf2⟩ : ∃ z, z = (own_upd fB 1 (bx).toInt8.toInt32) := ⟨_, rfl⟩
  rw [← hf2] at V17
  have f18 := f4.wr W17
  have f19 := V17
  have f20 := f6.other W17 (Or.inl hne)
  have f21 := f7.other W17 (Or.inl hne)
  have f22 := f8.other W17 (Or.inl hne)
  have f23 := f9.other W17 (Or.inl hne)
  have f24 := f10.other W17 (Or.inl hne)
  have f25 := f11.other W17 (Or.inl hne)
  have f26 := f12.other W17 (Or.inl hne)
  have f27 := f13.other W17 (Or.inl hne)
  have f28 := f14.other W17 (Or.inl hne)
  have f29 := f15.other W17 (Or.inl hne)
  have f30 := f16.other W17 (Or.inl hne)
  have Zp17 : n0 ≤ h17.size := Nat.le_trans Zp3 (Nat.le_of_eq W17.size.symm)
  have K17 := K3.wr W17 (Or.inl (List.mem_of_getElem? (i := 1) rfl))
  have N17 := Fr.snoc X17 N3 g_ba
  refine Wk.go (A' := T17.setTop (mkF m 17 #[rv ob, iv bx, jv lim, .second] [])) (fun t k => st17 t k) ?_
  have c1 : f2 1 = bx.toInt8.toInt32 := by rw [hf2, own_upd_eq]
  have cz : f2 0 = (-126 : Int32) := by rw [hf2, own_upd_ne _ _ (by decide)]; exact hb0
  have cm : ¬ ((f2 1 &&& (128 : Int32)) = (0 : Int32)) := by rw [c1]; exact hbm
  have cw : (f2 1 &&& (127 : Int32)) = (126 : Int32) := by rw [c1]; exact hbw
  refine Wk.go (A' := T17.setTop (mkF m 18 #[rv ob, iv bx, jv lim, .second] [(.ref ob)])) (fun t k => XS.aloadN X17.here hx rfl (hb hby d3_17) rfl rfl k) ?_
  obtain ⟨T31, X31, e31, st31⟩ := getF X17 hx hZ hown (host := "") (Or.inl (tw21 hw)) Via.refl e17 f22 (g := (mkF m 18 #[rv ob, iv bx, jv lim, .second] [(.ref ob)])) rfl rfl (hb hby d3_18)
  refine Wk.go (A' := T31.setTop (mkF m 21 #[rv ob, iv bx, jv lim, .second] [(.int (2 : Int32))])) (fun t k => st31 t k) ?_
  refine Wk.go (A' := T31.setTop (mkF m 22 #[rv ob, iv bx, jv lim, .second] [(.int (2 : Int32)), (.int (2 : Int32))])) (fun t k => XS.iconst X31.here hx rfl (hb hby d3_21) k) ?_
  have hc22 : (2 : Int32) = (2 : Int32) := by decide
  refine Wk.go (A' := T31.setTop (mkF m 25 #[rv ob, iv bx, jv lim, .second] [])) (fun t k => XS.icmpNo X31.here hx rfl (hb hby d3_22) rfl (teq hc22).2 k) ?_
  refine Wk.go (A' := T31.setTop (mkF m 26 #[rv ob, iv bx, jv lim, .second] [(.ref ob)])) (fun t k => XS.aloadN X31.here hx rfl (hb hby d3_25) rfl rfl k) ?_
  obtain ⟨cq32, q32, q32'⟩ := f18.cell
  obtain ⟨_, _, ⟨T32, L32, k32, n32⟩, -, X32, ⟨Lc32, hQ32, l32, y32, z32⟩, st32⟩ := X31.privateBack hx (y := (⟨own_F, "checkStart", "()V"⟩ : MethodName)) hown (mvT hZ (tw27 hw)) (mvT hZ (tw28 hw)) (own_sel (mvT hZ (tw3 hw)) (Cond.privateMethod_at (mvP hZ (tw29 hw) (args := #[]))) (mvT hZ (tw28 hw)) (by decide)) (Cond.privateMethod_at (mvP hZ (tw29 hw) (args := #[]))) (mvT hZ (tw30 hw)) (by decide) (backOf (W := 0) (rm5m l Z a0 hw [] ob ba f2 h17 n0 Zp17 f18 f20 f21 f22 f23 f24 f25 f26 f27 f28 f29 f30 f19 hne g_ob g_ba rfl cz cm) hZ (tw30 hw) (tw4 hw) (by decide) (by decide)) (g := (mkF m 26 #[rv ob, iv bx, jv lim, .second] [(.ref ob)])) rfl (by rw [hml]; rfl) (Steps.refl _) (a := ob) (by rw [e31]; exact q32) q32' (argsL := []) (rest := []) (lenOf pd_2 rfl) rfl (by show 2 * 0 + _ ≤ _; exact Nat.le_of_eq rfl) (hb hby d3_26) (fun _ _ => ⟨rfl, e31, (by decide : 0 + 0 ≤ _), (by decide : 0 + 0 ≤ _)⟩)
  dsimp only [Pt.U, Pt.locs, Pt.cells, Pt.slots] at X32 l32 y32 z32 st32 hQ32
  subst l32 y32 z32
  obtain ⟨rfl, N32q, Kq32, Eq32, Fq32_bytes, Fq32_masked, Fq32_count, Fq32_opcode, Fq32_last, Fq32_open, Fq32_length, Fq32_maskAt, Fq32_messageOpcode, Fq32_messageBytes, Fq32_dataLength, Vq32⟩ := hQ32
  have N32 := Fr.app N17 N32q
  have f33 := f18.keep Kq32
  have Zp32 : n0 ≤ T32.heap.size := Nat.le_trans Zp17 Kq32.1
  have Kt32 := K17.trans Kq32 (allS (Or.inl (List.mem_of_getElem? (i := 0) rfl)) (allS (Or.inl (List.mem_of_getElem? (i := 1) rfl)) all0))
  refine Wk.go (A' := T32.setTop (mkF m 29 #[rv ob, iv bx, jv lim, .second] [])) (fun t k => st32.trans k) ?_
  refine Wk.go (A' := T32.setTop (mkF m 30 #[rv ob, iv bx, jv lim, .second] [(.ref ob)])) (fun t k => XS.aloadN X32.here hx rfl (hb hby d3_29) rfl rfl k) ?_
  obtain ⟨T34, X34, e34, st34⟩ := getF X32 hx hZ hown (host := "") (Or.inl (tw21 hw)) Via.refl rfl Fq32_count (g := (mkF m 30 #[rv ob, iv bx, jv lim, .second] [(.ref ob)])) rfl rfl (hb hby d3_30)
  refine Wk.go (A' := T34.setTop (mkF m 33 #[rv ob, iv bx, jv lim, .second] [(.int (2 : Int32))])) (fun t k => st34 t k) ?_
  refine Wk.go (A' := T34.setTop (mkF m 34 #[rv ob, iv bx, jv lim, .second] [(.ref ob), (.int (2 : Int32))])) (fun t k => XS.aloadN X34.here hx rfl (hb hby d3_33) rfl rfl k) ?_
  obtain ⟨cq35, q35, q35'⟩ := Eq32.cell
  obtain ⟨_, _, ⟨T35, L35, k35, n35⟩, -, X35, ⟨Lc35, hQ35, l35, y35, z35⟩, st35⟩ := X34.privateBack hx (y := (⟨own_F, "lengthEnd", "()I"⟩ : MethodName)) hown (mvT hZ (tw23 hw)) (mvT hZ (tw24 hw)) (own_sel (mvT hZ (tw3 hw)) (Cond.privateMethod_at (mvP hZ (tw25 hw) (args := #[]))) (mvT hZ (tw24 hw)) (by decide)) (Cond.privateMethod_at (mvP hZ (tw25 hw) (args := #[]))) (mvT hZ (tw26 hw)) (by decide) (backOf (W := 1) (rm4 l Z a0 hw [] ob ba f2 (2 : Int32) T32.heap n0 Zp32 Fq32_bytes Fq32_count Vq32) hZ (tw26 hw) (tw4 hw) (by decide) (by decide)) (g := (mkF m 34 #[rv ob, iv bx, jv lim, .second] [(.ref ob), (.int (2 : Int32))])) rfl (by rw [hml]; rfl) (Steps.refl _) (a := ob) (by rw [e34]; exact q35) q35' (argsL := []) (rest := [(.int (2 : Int32))]) (lenOf pd_1 rfl) rfl (by show 2 * 0 + _ ≤ _; exact Nat.le_of_eq rfl) (hb hby d3_34) (fun _ _ => ⟨rfl, e34, (by decide : 0 + 0 ≤ _), (by decide : 0 + 0 ≤ _)⟩)
  dsimp only [Pt.U, Pt.locs, Pt.cells, Pt.slots] at X35 l35 y35 z35 st35 hQ35
  subst l35 y35 z35
  obtain ⟨rfl, N35q, hE35⟩ := hQ35
  have N35 := Fr.app N32 N35q
  refine Wk.go (A' := T35.setTop (mkF m 37 #[rv ob, iv bx, jv lim, .second] [(.int (f_lend ob ba f2 (2 : Int32))), (.int (2 : Int32))])) (fun t k => st35.trans k) ?_
  rw [show (f_lend ob ba f2 (2 : Int32)) = (4 : Int32) from own_l4 _ _ _ (by decide) cw]
  have hc37 : ¬ ((2 : Int32) = (4 : Int32)) := by decide
  refine Wk.go (A' := T35.setTop (mkF m 45 #[rv ob, iv bx, jv lim, .second] [])) (fun t k => XS.icmpYes X35.here hx rfl (pc0 := 37) (pc' := 45) rfl (hb hby d3_37) rfl (feq hc37).2 (by decide) (by decide) k) ?_
  refine Wk.go (A' := T35.setTop (mkF m 46 #[rv ob, iv bx, jv lim, .second] [(.ref ob)])) (fun t k => XS.aloadN X35.here hx rfl (hb hby d3_45) rfl rfl k) ?_
  obtain ⟨T36, X36, e36, st36⟩ := getF X35 hx hZ hown (host := "") (Or.inl (tw21 hw)) Via.refl (hE35) Fq32_count (g := (mkF m 46 #[rv ob, iv bx, jv lim, .second] [(.ref ob)])) rfl rfl (hb hby d3_46)
  refine Wk.go (A' := T36.setTop (mkF m 49 #[rv ob, iv bx, jv lim, .second] [(.int (2 : Int32))])) (fun t k => st36 t k) ?_
  refine Wk.go (A' := T36.setTop (mkF m 50 #[rv ob, iv bx, jv lim, .second] [(.ref ob), (.int (2 : Int32))])) (fun t k => XS.aloadN X36.here hx rfl (hb hby d3_49) rfl rfl k) ?_
  obtain ⟨cq37, q37, q37'⟩ := Eq32.cell
  obtain ⟨_, _, ⟨T37, L37, k37, n37⟩, -, X37, ⟨Lc37, hQ37, l37, y37, z37⟩, st37⟩ := X36.privateBack hx (y := (⟨own_F, "lengthEnd", "()I"⟩ : MethodName)) hown (mvT hZ (tw23 hw)) (mvT hZ (tw24 hw)) (own_sel (mvT hZ (tw3 hw)) (Cond.privateMethod_at (mvP hZ (tw25 hw) (args := #[]))) (mvT hZ (tw24 hw)) (by decide)) (Cond.privateMethod_at (mvP hZ (tw25 hw) (args := #[]))) (mvT hZ (tw26 hw)) (by decide) (backOf (W := 1) (rm4 l Z a0 hw [] ob ba f2 (2 : Int32) T32.heap n0 Zp32 Fq32_bytes Fq32_count Vq32) hZ (tw26 hw) (tw4 hw) (by decide) (by decide)) (g := (mkF m 50 #[rv ob, iv bx, jv lim, .second] [(.ref ob), (.int (2 : Int32))])) rfl (by rw [hml]; rfl) (Steps.refl _) (a := ob) (by rw [e36]; exact q37) q37' (argsL := []) (rest := [(.int (2 : Int32))]) (lenOf pd_1 rfl) rfl (by show 2 * 0 + _ ≤ _; exact Nat.le_of_eq rfl) (hb hby d3_50) (fun _ _ => ⟨rfl, e36, (by decide : 0 + 0 ≤ _), (by decide : 0 + 0 ≤ _)⟩)
  dsimp only [Pt.U, Pt.locs, Pt.cells, Pt.slots] at X37 l37 y37 z37 st37 hQ37
  subst l37 y37 z37
  obtain ⟨rfl, N37q, hE37⟩ := hQ37
  have N37 := Fr.app N35 N37q
  refine Wk.go (A' := T37.setTop (mkF m 53 #[rv ob, iv bx, jv lim, .second] [(.int (f_lend ob ba f2 (2 : Int32))), (.int (2 : Int32))])) (fun t k => st37.trans k) ?_
  rw [show (f_lend ob ba f2 (2 : Int32)) = (4 : Int32) from own_l4 _ _ _ (by decide) cw]
  refine Wk.go (A' := T37.setTop (mkF m 54 #[rv ob, iv bx, jv lim, .second] [(.ref ob), (.int (4 : Int32)), (.int (2 : Int32))])) (fun t k => XS.aloadN X37.here hx rfl (hb hby d3_53) rfl rfl k) ?_
  obtain ⟨T38, X38, e38, st38⟩ := getF X37 hx hZ hown (host := "") (Or.inl (tw13 hw)) Via.refl (hE37) Fq32_masked (g := (mkF m 54 #[rv ob, iv bx, jv lim, .second] [(.ref ob), (.int (4 : Int32)), (.int (2 : Int32))])) rfl rfl (hb hby d3_54)
  refine Wk.go (A' := T38.setTop (mkF m 57 #[rv ob, iv bx, jv lim, .second] [(.int (1 : Int32)), (.int (4 : Int32)), (.int (2 : Int32))])) (fun t k => st38 t k) ?_
  have hc57 : ¬ ((1 : Int32) = (0 : Int32)) := by decide
  refine Wk.go (A' := T38.setTop (mkF m 60 #[rv ob, iv bx, jv lim, .second] [(.int (4 : Int32)), (.int (2 : Int32))])) (fun t k => XS.ifNo X38.here hx rfl (hb hby d3_57) rfl ((if0 _ _).trans (feq hc57).1) k) ?_
  refine Wk.go (A' := T38.setTop (mkF m 61 #[rv ob, iv bx, jv lim, .second] [(.int (4 : Int32)), (.int (4 : Int32)), (.int (2 : Int32))])) (fun t k => XS.iconst X38.here hx rfl (hb hby d3_60) k) ?_
  refine Wk.go (A' := T38.setTop (mkF m 65 #[rv ob, iv bx, jv lim, .second] [(.int (4 : Int32)), (.int (4 : Int32)), (.int (2 : Int32))])) (fun t k => XS.goto X38.here hx rfl (pc0 := 61) (pc' := 65) rfl (hb hby d3_61) (by decide) (by decide) k) ?_
  refine Wk.go (A' := T38.setTop (mkF m 66 #[rv ob, iv bx, jv lim, .second] [(.int (8 : Int32)), (.int (2 : Int32))])) (fun t k => XS.iadd X38.here hx rfl (hb hby d3_65) rfl k) ?_
  have hc66 : (2 : Int32) < (8 : Int32) := by decide
  refine Wk.go (A' := T38.setTop (mkF m 69 #[rv ob, iv bx, jv lim, .second] [])) (fun t k => XS.icmpNo X38.here hx rfl (hb hby d3_66) rfl (tlt hc66).2.1 k) ?_
  refine Wk.go (A' := T38.setTop (mkF m 70 #[rv ob, iv bx, jv lim, .second] [(.int (0 : Int32))])) (fun t k => XS.iconst X38.here hx rfl (hb hby d3_69) k) ?_
  refine own_fin (Qv := Q31wm Z ob bx lim ba fB h0 n0) (v := some (.int (0 : Int32))) X38 hlk (fun h => by rw [Bd.returns] at h; cases h) (fun fs hr => retN X38 hx (t := .boolean) Bd.returns (by simp) (hb hby d3_70) hr) ?_ (by decide) (by decide)
  show Q31wm Z ob bx lim ba fB h0 n0 _ T38.heap _
  rw [e38]
  have fin := Vq32
  rw [hf2] at fin
  exact ⟨rfl, N37, Kt32, Eq32, Fq32_bytes, Fq32_masked, Fq32_count, Fq32_opcode, Fq32_last, Fq32_open, Fq32_length, Fq32_maskAt, Fq32_messageOpcode, Fq32_messageBytes, Fq32_dataLength, fin⟩
theorem ef_32wm (m : MethodId) (x0 : Addr) (x1 : Int32) (x2 : Int64) : entryFrame m #[(.ref x0), (.int x1), (.long x2)] 4 = mkF m 0 #[rv x0, iv x1, jv x2, .second] [] := by first | (simp [entryFrame, mkF, argsToLocals, Value.category]; done) | rfl
def Q32wm (Z : State) (ob : Addr) (bx : Int32) (lim : Int64) (ba : Addr) (fB : Nat → Int32) (h0 : Heap) (n0 : Nat) (v : Option Value) (h : Heap) (L : List Loc) : Prop := v = some (.int (0 : Int32)) ∧ Fr n0 L ∧ Keep h0 h [ob, ba] ∧ Exa Z h ob own_F ∧ Fld Z h ob own_F "bytes" "[B" (.ref ba) ∧ Fld Z h ob own_F "masked" "Z" (.int (1 : Int32)) ∧ Fld Z h ob own_F "count" "I" (.int (3 : Int32)) ∧ Fld Z h ob own_F "opcode" "I" (.int (2 : Int32)) ∧ Fld Z h ob own_F "last" "Z" (.int (1 : Int32)) ∧ Fld Z h ob own_F "open" "Z" (.int (0 : Int32)) ∧ Fld Z h ob own_F "length" "J" (.long (0 : Int64)) ∧ Fld Z h ob own_F "maskAt" "I" (.int (0 : Int32)) ∧ Fld Z h ob own_F "messageOpcode" "I" (.int (0 : Int32)) ∧ Fld Z h ob own_F "messageBytes" "J" (.long (0 : Int64)) ∧ Fld Z h ob own_F "dataLength" "J" (.long (0 : Int64)) ∧ BA Z h ba 14 (own_upd fB 2 (bx).toInt8.toInt32)
set_option maxRecDepth 65536 in
set_option maxHeartbeats 40000000 in
theorem rm32wm (l : Launch) (Z : State) (a0 : Array Value) (hw : ∀ d ∈ tables_1, d.before a0 Z = true) (ws : List Jvm.Cond) (ob : Addr) (bx : Int32) (lim : Int64) (ba : Addr) (fB : Nat → Int32) (h0 : Heap) (n0 : Nat) (Z0 : n0 ≤ h0.size) (E_ob : Exa Z h0 ob own_F) (F_bytes : Fld Z h0 ob own_F "bytes" "[B" (.ref ba)) (F_masked : Fld Z h0 ob own_F "masked" "Z" (.int (1 : Int32))) (F_count : Fld Z h0 ob own_F "count" "I" (.int (2 : Int32))) (F_opcode : Fld Z h0 ob own_F "opcode" "I" (.int (2 : Int32))) (F_last : Fld Z h0 ob own_F "last" "Z" (.int (1 : Int32))) (F_open : Fld Z h0 ob own_F "open" "Z" (.int (0 : Int32))) (F_length : Fld Z h0 ob own_F "length" "J" (.long (0 : Int64))) (F_maskAt : Fld Z h0 ob own_F "maskAt" "I" (.int (0 : Int32))) (F_messageOpcode : Fld Z h0 ob own_F "messageOpcode" "I" (.int (0 : Int32))) (F_messageBytes : Fld Z h0 ob own_F "messageBytes" "J" (.long (0 : Int64))) (F_dataLength : Fld Z h0 ob own_F "dataLength" "J" (.long (0 : Int64))) (VB : BA Z h0 ba 14 fB) (hne : ob ≠ ba) (g_ob : n0 ≤ ob) (g_ba : n0 ≤ ba) (hl : lim = (9223372036854775807 : Int64)) (hbw : (fB 1 &&& (127 : Int32)) = (126 : Int32)) :
    MetFree l (⟨own_F, "take", "(BJ)Z"⟩ : MethodName) (head1 (Jvm.Cond.code (⟨own_F, "take", "(BJ)Z"⟩ : MethodName) prog_100_method_2_code 4 (some .boolean) :: ws) ({ frames := 1, cells := 0, slots := 0, locals := 14 } : Room)) (fun a U => a = #[(.ref ob), (.int bx), (.long lim)] ∧ Z.Warmed39 U.vm ∧ U.heap = h0) (fun _ _ _ _ _ => True) (fun _ U o U' => ∃ v L, o = .returned v ∧ Q32wm Z ob bx lim ba fB h0 n0 v U'.heap L ∧ FrameEnd U o U' L ({ frames := 1, cells := 0, slots := 0, locals := 14 } : Room).cells ({ frames := 1, cells := 0, slots := 0, locals := 14 } : Room).slots) := by
  refine MetFree.of_bodySF (plainFor_of_name pn_0) hisR ?_
  intro p e s m args below meth c s₁ Bd hml0 hP hK
  obtain ⟨rfl, hZ, hh⟩ := hP
  have hx := Bd.exec
  have hby := Bd.bytes
  have hml : c.maxLocals = 4 := hml0
  have hown : s.vm.findClass own_F = some m.cls := findClass_of_methodNamed Bd.named
  have hnm := (name_of_methodNamed Bd.named Bd.method).1
  have X0 : Stand p l e ({ frames := 1, cells := 0, slots := 0, locals := 14 } : Room) s m #[(.ref ob), (.int bx), (.long lim)] below meth c s₁ [] 0 0 := Stand.of_body Bd
  have e0 : s₁.heap = h0 := by rw [← hh, Bd.state]; rfl
  have N0 := Fr.nil n0
  have hlk : meth.locks = false := BodyLoose.notSynchronized Bd
  suffices hwk : Wk p.tables e below (s₁.setTop (mkF m 0 #[rv ob, iv bx, jv lim, .second] [])) (fun U o => U.status = .running ∧ Ended U below o ∧ ∃ v L, o = .returned v ∧ Q32wm Z ob bx lim ba fB h0 n0 v U.heap L ∧ FrameEnd s o U L 0 0) by
    obtain ⟨U, o, k1, k2⟩ := hwk
    exact ⟨U, o, castTop (ef_32wm m ob bx lim) k1, k2⟩
  have K0 := Keep.refl h0 [ob, ba]
  refine Wk.go (A' := s₁.setTop (mkF m 1 #[rv ob, iv bx, jv lim, .second] [(.ref ob)])) (fun t k => XS.aloadN X0.here hx rfl (hb hby d3_0) rfl rfl k) ?_
  obtain ⟨T1, X1, e1, st1⟩ := getF X0 hx hZ hown (host := "") (Or.inl (tw11 hw)) Via.refl e0 F_bytes (g := (mkF m 1 #[rv ob, iv bx, jv lim, .second] [(.ref ob)])) rfl rfl (hb hby d3_1)
  refine Wk.go (A' := T1.setTop (mkF m 4 #[rv ob, iv bx, jv lim, .second] [(.ref ba)])) (fun t k => st1 t k) ?_
  refine Wk.go (A' := T1.setTop (mkF m 5 #[rv ob, iv bx, jv lim, .second] [(.ref ob), (.ref ba)])) (fun t k => XS.aloadN X1.here hx rfl (hb hby d3_4) rfl rfl k) ?_
  refine Wk.go (A' := T1.setTop (mkF m 6 #[rv ob, iv bx, jv lim, .second] [(.ref ob), (.ref ob), (.ref ba)])) (fun t k => XS.dup X1.here hx rfl (hb hby d3_5) rfl rfl k) ?_
  obtain ⟨T2, X2, e2, st2⟩ := getF X1 hx hZ hown (host := "") (Or.inl (tw21 hw)) Via.refl e1 F_count (g := (mkF m 6 #[rv ob, iv bx, jv lim, .second] [(.ref ob), (.ref ob), (.ref ba)])) rfl rfl (hb hby d3_6)
  refine Wk.go (A' := T2.setTop (mkF m 9 #[rv ob, iv bx, jv lim, .second] [(.int (2 : Int32)), (.ref ob), (.ref ba)])) (fun t k => st2 t k) ?_
  refine Wk.go (A' := T2.setTop (mkF m 10 #[rv ob, iv bx, jv lim, .second] [(.int (2 : Int32)), (.ref ob), (.int (2 : Int32)), (.ref ba)])) (fun t k => XS.dupX1 X2.here hx rfl (hb hby d3_9) rfl rfl rfl k) ?_
  refine Wk.go (A' := T2.setTop (mkF m 11 #[rv ob, iv bx, jv lim, .second] [(.int (1 : Int32)), (.int (2 : Int32)), (.ref ob), (.int (2 : Int32)), (.ref ba)])) (fun t k => XS.iconst X2.here hx rfl (hb hby d3_10) k) ?_
  refine Wk.go (A' := T2.setTop (mkF m 12 #[rv ob, iv bx, jv lim, .second] [(.int (3 : Int32)), (.ref ob), (.int (2 : Int32)), (.ref ba)])) (fun t k => XS.iadd X2.here hx rfl (hb hby d3_11) rfl k) ?_
  obtain ⟨T3, h3, X3, e3, W3, st3⟩ := putF X2 hx hZ hown (host := "") (Or.inl (tw21 hw)) Via.refl e2 F_count E_ob (Or.inl (tw22 hw)) (tw3 hw) (ty := .int) (by decide) rfl rfl (g := (mkF m 12 #[rv ob, iv bx, jv lim, .second] [(.int (3 : Int32)), (.ref ob), (.int (2 : Int32)), (.ref ba)])) rfl rfl (hb hby d3_12)
  have f4 := E_ob.wr W3
  have f5 := VB.other W3 (Ne.symm hne)
  have f6 := F_bytes.other W3 (Or.inr (sn_100 hw))
  have f7 := F_masked.other W3 (Or.inr (sn_101 hw))
  have f8 := F_count.same W3
  have f9 := F_opcode.other W3 (Or.inr (sn_102 hw))
  have f10 := F_last.other W3 (Or.inr (sn_103 hw))
  have f11 := F_open.other W3 (Or.inr (sn_104 hw))
  have f12 := F_length.other W3 (Or.inr (sn_105 hw))
  have f13 := F_maskAt.other W3 (Or.inr (sn_106 hw))
  have f14 := F_messageOpcode.other W3 (Or.inr (sn_107 hw))
  have f15 := F_messageBytes.other W3 (Or.inr (sn_108 hw))
  have f16 := F_dataLength.other W3 (Or.inr (sn_109 hw))
  have Zp3 : n0 ≤ h3.size := Nat.le_trans Z0 (Nat.le_of_eq W3.size.symm)
  have K3 := K0.wr W3 (Or.inl (List.mem_of_getElem? (i := 0) rfl))
  have N3 := Fr.snoc X3 N0 g_ob
  refine Wk.go (A' := T3.setTop (mkF m 15 #[rv ob, iv bx, jv lim, .second] [(.int (2 : Int32)), (.ref ba)])) (fun t k => st3 t k) ?_
  refine Wk.go (A' := T3.setTop (mkF m 16 #[rv ob, iv bx, jv lim, .second] [(.int bx), (.int (2 : Int32)), (.ref ba)])) (fun t k => XS.iloadN X3.here hx rfl (hb hby d3_15) rfl k) ?_
  obtain ⟨T17, h17, X17, e17, W17, B17, st17⟩ := own_stB X3 hx hZ e3 f5 (j := (2 : Int32)) (by decide) (g := (mkF m 16 #[rv ob, iv bx, jv lim, .second] [(.int bx), (.int (2 : Int32)), (.ref ba)])) rfl rfl (hb hby d3_16)
  have V17 : BA Z h17 ba 14 (own_upd fB 2 (bx).toInt8.toInt32) := B17
  obtain ⟨f2, hf2⟩ : ∃ z, z = (own_upd fB 2 (bx).toInt8.toInt32) := ⟨_, rfl⟩
  rw [← hf2] at V17
  have f18 := f4.wr W17
  have f19 := V17
  have f20 := f6.other W17 (Or.inl hne)
  have f21 := f7.other W17 (Or.inl hne)
  have f22 := f8.other W17 (Or.inl hne)
  have f23 := f9.other W17 (Or.inl hne)
  have f24 := f10.other W17 (Or.inl hne)
  have f25 := f11.other W17 (Or.inl hne)
  have f26 := f12.other W17 (Or.inl hne)
  have f27 := f13.other W17 (Or.inl hne)
  have f28 := f14.other W17 (Or.inl hne)
  have f29 := f15.other W17 (Or.inl hne)
  have f30 := f16.other W17 (Or.inl hne)
  have Zp17 : n0 ≤ h17.size := Nat.le_trans Zp3 (Nat.le_of_eq W17.size.symm)
  have K17 := K3.wr W17 (Or.inl (List.mem_of_getElem? (i := 1) rfl))
  have N17 := Fr.snoc X17 N3 g_ba
  refine Wk.go (A' := T17.setTop (mkF m 17 #[rv ob, iv bx, jv lim, .second] [])) (fun t k => st17 t k) ?_
  have c1 : f2 1 = fB 1 := by rw [hf2, own_upd_ne _ _ (by decide)]
  have cw : (f2 1 &&& (127 : Int32)) = (126 : Int32) := by rw [c1]; exact hbw
  refine Wk.go (A' := T17.setTop (mkF m 18 #[rv ob, iv bx, jv lim, .second] [(.ref ob)])) (fun t k => XS.aloadN X17.here hx rfl (hb hby d3_17) rfl rfl k) ?_
  obtain ⟨T31, X31, e31, st31⟩ := getF X17 hx hZ hown (host := "") (Or.inl (tw21 hw)) Via.refl e17 f22 (g := (mkF m 18 #[rv ob, iv bx, jv lim, .second] [(.ref ob)])) rfl rfl (hb hby d3_18)
  refine Wk.go (A' := T31.setTop (mkF m 21 #[rv ob, iv bx, jv lim, .second] [(.int (3 : Int32))])) (fun t k => st31 t k) ?_
  refine Wk.go (A' := T31.setTop (mkF m 22 #[rv ob, iv bx, jv lim, .second] [(.int (2 : Int32)), (.int (3 : Int32))])) (fun t k => XS.iconst X31.here hx rfl (hb hby d3_21) k) ?_
  have hc22 : ¬ ((3 : Int32) = (2 : Int32)) := by decide
  refine Wk.go (A' := T31.setTop (mkF m 29 #[rv ob, iv bx, jv lim, .second] [])) (fun t k => XS.icmpYes X31.here hx rfl (pc0 := 22) (pc' := 29) rfl (hb hby d3_22) rfl (feq hc22).2 (by decide) (by decide) k) ?_
  refine Wk.go (A' := T31.setTop (mkF m 30 #[rv ob, iv bx, jv lim, .second] [(.ref ob)])) (fun t k => XS.aloadN X31.here hx rfl (hb hby d3_29) rfl rfl k) ?_
  obtain ⟨T32, X32, e32, st32⟩ := getF X31 hx hZ hown (host := "") (Or.inl (tw21 hw)) Via.refl e31 f22 (g := (mkF m 30 #[rv ob, iv bx, jv lim, .second] [(.ref ob)])) rfl rfl (hb hby d3_30)
  refine Wk.go (A' := T32.setTop (mkF m 33 #[rv ob, iv bx, jv lim, .second] [(.int (3 : Int32))])) (fun t k => st32 t k) ?_
  refine Wk.go (A' := T32.setTop (mkF m 34 #[rv ob, iv bx, jv lim, .second] [(.ref ob), (.int (3 : Int32))])) (fun t k => XS.aloadN X32.here hx rfl (hb hby d3_33) rfl rfl k) ?_
  obtain ⟨cq33, q33, q33'⟩ := f18.cell
  obtain ⟨_, _, ⟨T33, L33, k33, n33⟩, -, X33, ⟨Lc33, hQ33, l33, y33, z33⟩, st33⟩ := X32.privateBack hx (y := (⟨own_F, "lengthEnd", "()I"⟩ : MethodName)) hown (mvT hZ (tw23 hw)) (mvT hZ (tw24 hw)) (own_sel (mvT hZ (tw3 hw)) (Cond.privateMethod_at (mvP hZ (tw25 hw) (args := #[]))) (mvT hZ (tw24 hw)) (by decide)) (Cond.privateMethod_at (mvP hZ (tw25 hw) (args := #[]))) (mvT hZ (tw26 hw)) (by decide) (backOf (W := 1) (rm4 l Z a0 hw [] ob ba f2 (3 : Int32) h17 n0 Zp17 f20 f22 f19) hZ (tw26 hw) (tw4 hw) (by decide) (by decide)) (g := (mkF m 34 #[rv ob, iv bx, jv lim, .second] [(.ref ob), (.int (3 : Int32))])) rfl (by rw [hml]; rfl) (Steps.refl _) (a := ob) (by rw [e32]; exact q33) q33' (argsL := []) (rest := [(.int (3 : Int32))]) (lenOf pd_1 rfl) rfl (by show 2 * 0 + _ ≤ _; exact Nat.le_of_eq rfl) (hb hby d3_34) (fun _ _ => ⟨rfl, e32, (by decide : 0 + 0 ≤ _), (by decide : 0 + 0 ≤ _)⟩)
  dsimp only [Pt.U, Pt.locs, Pt.cells, Pt.slots] at X33 l33 y33 z33 st33 hQ33
  subst l33 y33 z33
  obtain ⟨rfl, N33q, hE33⟩ := hQ33
  have N33 := Fr.app N17 N33q
  refine Wk.go (A' := T33.setTop (mkF m 37 #[rv ob, iv bx, jv lim, .second] [(.int (f_lend ob ba f2 (3 : Int32))), (.int (3 : Int32))])) (fun t k => st33.trans k) ?_
  rw [show (f_lend ob ba f2 (3 : Int32)) = (4 : Int32) from own_l4 _ _ _ (by decide) cw]
  have hc37 : ¬ ((3 : Int32) = (4 : Int32)) := by decide
  refine Wk.go (A' := T33.setTop (mkF m 45 #[rv ob, iv bx, jv lim, .second] [])) (fun t k => XS.icmpYes X33.here hx rfl (pc0 := 37) (pc' := 45) rfl (hb hby d3_37) rfl (feq hc37).2 (by decide) (by decide) k) ?_
  refine Wk.go (A' := T33.setTop (mkF m 46 #[rv ob, iv bx, jv lim, .second] [(.ref ob)])) (fun t k => XS.aloadN X33.here hx rfl (hb hby d3_45) rfl rfl k) ?_
  obtain ⟨T34, X34, e34, st34⟩ := getF X33 hx hZ hown (host := "") (Or.inl (tw21 hw)) Via.refl (hE33) f22 (g := (mkF m 46 #[rv ob, iv bx, jv lim, .second] [(.ref ob)])) rfl rfl (hb hby d3_46)
  refine Wk.go (A' := T34.setTop (mkF m 49 #[rv ob, iv bx, jv lim, .second] [(.int (3 : Int32))])) (fun t k => st34 t k) ?_
  refine Wk.go (A' := T34.setTop (mkF m 50 #[rv ob, iv bx, jv lim, .second] [(.ref ob), (.int (3 : Int32))])) (fun t k => XS.aloadN X34.here hx rfl (hb hby d3_49) rfl rfl k) ?_
  obtain ⟨cq35, q35, q35'⟩ := f18.cell
  obtain ⟨_, _, ⟨T35, L35, k35, n35⟩, -, X35, ⟨Lc35, hQ35, l35, y35, z35⟩, st35⟩ := X34.privateBack hx (y := (⟨own_F, "lengthEnd", "()I"⟩ : MethodName)) hown (mvT hZ (tw23 hw)) (mvT hZ (tw24 hw)) (own_sel (mvT hZ (tw3 hw)) (Cond.privateMethod_at (mvP hZ (tw25 hw) (args := #[]))) (mvT hZ (tw24 hw)) (by decide)) (Cond.privateMethod_at (mvP hZ (tw25 hw) (args := #[]))) (mvT hZ (tw26 hw)) (by decide) (backOf (W := 1) (rm4 l Z a0 hw [] ob ba f2 (3 : Int32) h17 n0 Zp17 f20 f22 f19) hZ (tw26 hw) (tw4 hw) (by decide) (by decide)) (g := (mkF m 50 #[rv ob, iv bx, jv lim, .second] [(.ref ob), (.int (3 : Int32))])) rfl (by rw [hml]; rfl) (Steps.refl _) (a := ob) (by rw [e34]; exact q35) q35' (argsL := []) (rest := [(.int (3 : Int32))]) (lenOf pd_1 rfl) rfl (by show 2 * 0 + _ ≤ _; exact Nat.le_of_eq rfl) (hb hby d3_50) (fun _ _ => ⟨rfl, e34, (by decide : 0 + 0 ≤ _), (by decide : 0 + 0 ≤ _)⟩)
  dsimp only [Pt.U, Pt.locs, Pt.cells, Pt.slots] at X35 l35 y35 z35 st35 hQ35
  subst l35 y35 z35
  obtain ⟨rfl, N35q, hE35⟩ := hQ35
  have N35 := Fr.app N33 N35q
  refine Wk.go (A' := T35.setTop (mkF m 53 #[rv ob, iv bx, jv lim, .second] [(.int (f_lend ob ba f2 (3 : Int32))), (.int (3 : Int32))])) (fun t k => st35.trans k) ?_
  rw [show (f_lend ob ba f2 (3 : Int32)) = (4 : Int32) from own_l4 _ _ _ (by decide) cw]
  refine Wk.go (A' := T35.setTop (mkF m 54 #[rv ob, iv bx, jv lim, .second] [(.ref ob), (.int (4 : Int32)), (.int (3 : Int32))])) (fun t k => XS.aloadN X35.here hx rfl (hb hby d3_53) rfl rfl k) ?_
  obtain ⟨T36, X36, e36, st36⟩ := getF X35 hx hZ hown (host := "") (Or.inl (tw13 hw)) Via.refl (hE35) f21 (g := (mkF m 54 #[rv ob, iv bx, jv lim, .second] [(.ref ob), (.int (4 : Int32)), (.int (3 : Int32))])) rfl rfl (hb hby d3_54)
  refine Wk.go (A' := T36.setTop (mkF m 57 #[rv ob, iv bx, jv lim, .second] [(.int (1 : Int32)), (.int (4 : Int32)), (.int (3 : Int32))])) (fun t k => st36 t k) ?_
  have hc57 : ¬ ((1 : Int32) = (0 : Int32)) := by decide
  refine Wk.go (A' := T36.setTop (mkF m 60 #[rv ob, iv bx, jv lim, .second] [(.int (4 : Int32)), (.int (3 : Int32))])) (fun t k => XS.ifNo X36.here hx rfl (hb hby d3_57) rfl ((if0 _ _).trans (feq hc57).1) k) ?_
  refine Wk.go (A' := T36.setTop (mkF m 61 #[rv ob, iv bx, jv lim, .second] [(.int (4 : Int32)), (.int (4 : Int32)), (.int (3 : Int32))])) (fun t k => XS.iconst X36.here hx rfl (hb hby d3_60) k) ?_
  refine Wk.go (A' := T36.setTop (mkF m 65 #[rv ob, iv bx, jv lim, .second] [(.int (4 : Int32)), (.int (4 : Int32)), (.int (3 : Int32))])) (fun t k => XS.goto X36.here hx rfl (pc0 := 61) (pc' := 65) rfl (hb hby d3_61) (by decide) (by decide) k) ?_
  refine Wk.go (A' := T36.setTop (mkF m 66 #[rv ob, iv bx, jv lim, .second] [(.int (8 : Int32)), (.int (3 : Int32))])) (fun t k => XS.iadd X36.here hx rfl (hb hby d3_65) rfl k) ?_
  have hc66 : (3 : Int32) < (8 : Int32) := by decide
  refine Wk.go (A' := T36.setTop (mkF m 69 #[rv ob, iv bx, jv lim, .second] [])) (fun t k => XS.icmpNo X36.here hx rfl (hb hby d3_66) rfl (tlt hc66).2.1 k) ?_
  refine Wk.go (A' := T36.setTop (mkF m 70 #[rv ob, iv bx, jv lim, .second] [(.int (0 : Int32))])) (fun t k => XS.iconst X36.here hx rfl (hb hby d3_69) k) ?_
  refine own_fin (Qv := Q32wm Z ob bx lim ba fB h0 n0) (v := some (.int (0 : Int32))) X36 hlk (fun h => by rw [Bd.returns] at h; cases h) (fun fs hr => retN X36 hx (t := .boolean) Bd.returns (by simp) (hb hby d3_70) hr) ?_ (by decide) (by decide)
  show Q32wm Z ob bx lim ba fB h0 n0 _ T36.heap _
  rw [e36]
  have fin := f19
  rw [hf2] at fin
  exact ⟨rfl, N35, K17, f18, f20, f21, f22, f23, f24, f25, f26, f27, f28, f29, f30, fin⟩
theorem ef_33wm (m : MethodId) (x0 : Addr) (x1 : Int32) (x2 : Int64) : entryFrame m #[(.ref x0), (.int x1), (.long x2)] 4 = mkF m 0 #[rv x0, iv x1, jv x2, .second] [] := by first | (simp [entryFrame, mkF, argsToLocals, Value.category]; done) | rfl
def Q33wm (Z : State) (ob : Addr) (bx : Int32) (lim : Int64) (ba : Addr) (fB : Nat → Int32) (h0 : Heap) (n0 : Nat) (v : Option Value) (h : Heap) (L : List Loc) : Prop := ∃ lnQ : Int64, v = some (.int (0 : Int32)) ∧ Fr n0 L ∧ Keep h0 h [ob, ba] ∧ Exa Z h ob own_F ∧ Fld Z h ob own_F "bytes" "[B" (.ref ba) ∧ Fld Z h ob own_F "masked" "Z" (.int (1 : Int32)) ∧ Fld Z h ob own_F "count" "I" (.int (4 : Int32)) ∧ Fld Z h ob own_F "opcode" "I" (.int (2 : Int32)) ∧ Fld Z h ob own_F "last" "Z" (.int (1 : Int32)) ∧ Fld Z h ob own_F "open" "Z" (.int (0 : Int32)) ∧ Fld Z h ob own_F "length" "J" (.long lnQ) ∧ Fld Z h ob own_F "maskAt" "I" (.int (4 : Int32)) ∧ Fld Z h ob own_F "messageOpcode" "I" (.int (2 : Int32)) ∧ Fld Z h ob own_F "messageBytes" "J" (.long (0 : Int64)) ∧ Fld Z h ob own_F "dataLength" "J" (.long lnQ) ∧ BA Z h ba 14 (own_upd fB 3 (bx).toInt8.toInt32)
set_option maxRecDepth 65536 in
set_option maxHeartbeats 40000000 in
theorem rm33wm (l : Launch) (Z : State) (a0 : Array Value) (hw : ∀ d ∈ tables_1, d.before a0 Z = true) (ws : List Jvm.Cond) (ob : Addr) (bx : Int32) (lim : Int64) (ba : Addr) (fB : Nat → Int32) (h0 : Heap) (n0 : Nat) (Z0 : n0 ≤ h0.size) (E_ob : Exa Z h0 ob own_F) (F_bytes : Fld Z h0 ob own_F "bytes" "[B" (.ref ba)) (F_masked : Fld Z h0 ob own_F "masked" "Z" (.int (1 : Int32))) (F_count : Fld Z h0 ob own_F "count" "I" (.int (3 : Int32))) (F_opcode : Fld Z h0 ob own_F "opcode" "I" (.int (2 : Int32))) (F_last : Fld Z h0 ob own_F "last" "Z" (.int (1 : Int32))) (F_open : Fld Z h0 ob own_F "open" "Z" (.int (0 : Int32))) (F_length : Fld Z h0 ob own_F "length" "J" (.long (0 : Int64))) (F_maskAt : Fld Z h0 ob own_F "maskAt" "I" (.int (0 : Int32))) (F_messageOpcode : Fld Z h0 ob own_F "messageOpcode" "I" (.int (0 : Int32))) (F_messageBytes : Fld Z h0 ob own_F "messageBytes" "J" (.long (0 : Int64))) (F_dataLength : Fld Z h0 ob own_F "dataLength" "J" (.long (0 : Int64))) (VB : BA Z h0 ba 14 fB) (hne : ob ≠ ba) (g_ob : n0 ≤ ob) (g_ba : n0 ≤ ba) (hl : lim = (9223372036854775807 : Int64)) (hbw : (fB 1 &&& (127 : Int32)) = (126 : Int32)) :
    MetFree l (⟨own_F, "take", "(BJ)Z"⟩ : MethodName) (head1 (Jvm.Cond.code (⟨own_F, "take", "(BJ)Z"⟩ : MethodName) prog_100_method_2_code 4 (some .boolean) :: ws) ({ frames := 2, cells := 0, slots := 0, locals := 33 } : Room)) (fun a U => a = #[(.ref ob), (.int bx), (.long lim)] ∧ Z.Warmed39 U.vm ∧ U.heap = h0) (fun _ _ _ _ _ => True) (fun _ U o U' => ∃ v L, o = .returned v ∧ Q33wm Z ob bx lim ba fB h0 n0 v U'.heap L ∧ FrameEnd U o U' L ({ frames := 2, cells := 0, slots := 0, locals := 33 } : Room).cells ({ frames := 2, cells := 0, slots := 0, locals := 33 } : Room).slots) := by
  refine MetFree.of_bodySF (plainFor_of_name pn_0) hisR ?_
  intro p e s m args below meth c s₁ Bd hml0 hP hK
  obtain ⟨rfl, hZ, hh⟩ := hP
  have hx := Bd.exec
  have hby := Bd.bytes
  have hml : c.maxLocals = 4 := hml0
  have hown : s.vm.findClass own_F = some m.cls := findClass_of_methodNamed Bd.named
  have hnm := (name_of_methodNamed Bd.named Bd.method).1
  have X0 : Stand p l e ({ frames := 2, cells := 0, slots := 0, locals := 33 } : Room) s m #[(.ref ob), (.int bx), (.long lim)] below meth c s₁ [] 0 0 := Stand.of_body Bd
  have e0 : s₁.heap = h0 := by rw [← hh, Bd.state]; rfl
  have N0 := Fr.nil n0
  have hlk : meth.locks = false := BodyLoose.notSynchronized Bd
  suffices hwk : Wk p.tables e below (s₁.setTop (mkF m 0 #[rv ob, iv bx, jv lim, .second] [])) (fun U o => U.status = .running ∧ Ended U below o ∧ ∃ v L, o = .returned v ∧ Q33wm Z ob bx lim ba fB h0 n0 v U.heap L ∧ FrameEnd s o U L 0 0) by
    obtain ⟨U, o, k1, k2⟩ := hwk
    exact ⟨U, o, castTop (ef_33wm m ob bx lim) k1, k2⟩
  have K0 := Keep.refl h0 [ob, ba]
  refine Wk.go (A' := s₁.setTop (mkF m 1 #[rv ob, iv bx, jv lim, .second] [(.ref ob)])) (fun t k => XS.aloadN X0.here hx rfl (hb hby d3_0) rfl rfl k) ?_
  obtain ⟨T1, X1, e1, st1⟩ := getF X0 hx hZ hown (host := "") (Or.inl (tw11 hw)) Via.refl e0 F_bytes (g := (mkF m 1 #[rv ob, iv bx, jv lim, .second] [(.ref ob)])) rfl rfl (hb hby d3_1)
  refine Wk.go (A' := T1.setTop (mkF m 4 #[rv ob, iv bx, jv lim, .second] [(.ref ba)])) (fun t k => st1 t k) ?_
  refine Wk.go (A' := T1.setTop (mkF m 5 #[rv ob, iv bx, jv lim, .second] [(.ref ob), (.ref ba)])) (fun t k => XS.aloadN X1.here hx rfl (hb hby d3_4) rfl rfl k) ?_
  refine Wk.go (A' := T1.setTop (mkF m 6 #[rv ob, iv bx, jv lim, .second] [(.ref ob), (.ref ob), (.ref ba)])) (fun t k => XS.dup X1.here hx rfl (hb hby d3_5) rfl rfl k) ?_
  obtain ⟨T2, X2, e2, st2⟩ := getF X1 hx hZ hown (host := "") (Or.inl (tw21 hw)) Via.refl e1 F_count (g := (mkF m 6 #[rv ob, iv bx, jv lim, .second] [(.ref ob), (.ref ob), (.ref ba)])) rfl rfl (hb hby d3_6)
  refine Wk.go (A' := T2.setTop (mkF m 9 #[rv ob, iv bx, jv lim, .second] [(.int (3 : Int32)), (.ref ob), (.ref ba)])) (fun t k => st2 t k) ?_
  refine Wk.go (A' := T2.setTop (mkF m 10 #[rv ob, iv bx, jv lim, .second] [(.int (3 : Int32)), (.ref ob), (.int (3 : Int32)), (.ref ba)])) (fun t k => XS.dupX1 X2.here hx rfl (hb hby d3_9) rfl rfl rfl k) ?_
  refine Wk.go (A' := T2.setTop (mkF m 11 #[rv ob, iv bx, jv lim, .second] [(.int (1 : Int32)), (.int (3 : Int32)), (.ref ob), (.int (3 : Int32)), (.ref ba)])) (fun t k => XS.iconst X2.here hx rfl (hb hby d3_10) k) ?_
  refine Wk.go (A' := T2.setTop (mkF m 12 #[rv ob, iv bx, jv lim, .second] [(.int (4 : Int32)), (.ref ob), (.int (3 : Int32)), (.ref ba)])) (fun t k => XS.iadd X2.here hx rfl (hb hby d3_11) rfl k) ?_
  obtain ⟨T3, h3, X3, e3, W3, st3⟩ := putF X2 hx hZ hown (host := "") (Or.inl (tw21 hw)) Via.refl e2 F_count E_ob (Or.inl (tw22 hw)) (tw3 hw) (ty := .int) (by decide) rfl rfl (g := (mkF m 12 #[rv ob, iv bx, jv lim, .second] [(.int (4 : Int32)), (.ref ob), (.int (3 : Int32)), (.ref ba)])) rfl rfl (hb hby d3_12)
  have f4 := E_ob.wr W3
  have f5 := VB.other W3 (Ne.symm hne)
  have f6 := F_bytes.other W3 (Or.inr (sn_100 hw))
  have f7 := F_masked.other W3 (Or.inr (sn_101 hw))
  have f8 := F_count.same W3
  have f9 := F_opcode.other W3 (Or.inr (sn_102 hw))
  have f10 := F_last.other W3 (Or.inr (sn_103 hw))
  have f11 := F_open.other W3 (Or.inr (sn_104 hw))
  have f12 := F_length.other W3 (Or.inr (sn_105 hw))
  have f13 := F_maskAt.other W3 (Or.inr (sn_106 hw))
  have f14 := F_messageOpcode.other W3 (Or.inr (sn_107 hw))
  have f15 := F_messageBytes.other W3 (Or.inr (sn_108 hw))
  have f16 := F_dataLength.other W3 (Or.inr (sn_109 hw))
  have Zp3 : n0 ≤ h3.size := Nat.le_trans Z0 (Nat.le_of_eq W3.size.symm)
  have K3 := K0.wr W3 (Or.inl (List.mem_of_getElem? (i := 0) rfl))
  have N3 := Fr.snoc X3 N0 g_ob
  refine Wk.go (A' := T3.setTop (mkF m 15 #[rv ob, iv bx, jv lim, .second] [(.int (3 : Int32)), (.ref ba)])) (fun t k => st3 t k) ?_
  refine Wk.go (A' := T3.setTop (mkF m 16 #[rv ob, iv bx, jv lim, .second] [(.int bx), (.int (3 : Int32)), (.ref ba)])) (fun t k => XS.iloadN X3.here hx rfl (hb hby d3_15) rfl k) ?_
  obtain ⟨T17, h17, X17, e17, W17, B17, st17⟩ := own_stB X3 hx hZ e3 f5 (j := (3 : Int32)) (by decide) (g := (mkF m 16 #[rv ob, iv bx, jv lim, .second] [(.int bx), (.int (3 : Int32)), (.ref ba)])) rfl rfl (hb hby d3_16)
  have V17 : BA Z h17 ba 14 (own_upd fB 3 (bx).toInt8.toInt32) := B17
  obtain ⟨f2, hf2⟩ : ∃ z, z = (own_upd fB 3 (bx).toInt8.toInt32) := ⟨_, rfl⟩
  rw [← hf2] at V17
  have f18 := f4.wr W17
  have f19 := V17
  have f20 := f6.other W17 (Or.inl hne)
  have f21 := f7.other W17 (Or.inl hne)
  have f22 := f8.other W17 (Or.inl hne)
  have f23 := f9.other W17 (Or.inl hne)
  have f24 := f10.other W17 (Or.inl hne)
  have f25 := f11.other W17 (Or.inl hne)
  have f26 := f12.other W17 (Or.inl hne)
  have f27 := f13.other W17 (Or.inl hne)
  have f28 := f14.other W17 (Or.inl hne)
  have f29 := f15.other W17 (Or.inl hne)
  have f30 := f16.other W17 (Or.inl hne)
  have Zp17 : n0 ≤ h17.size := Nat.le_trans Zp3 (Nat.le_of_eq W17.size.symm)
  have K17 := K3.wr W17 (Or.inl (List.mem_of_getElem? (i := 1) rfl))
  have N17 := Fr.snoc X17 N3 g_ba
  refine Wk.go (A' := T17.setTop (mkF m 17 #[rv ob, iv bx, jv lim, .second] [])) (fun t k => st17 t k) ?_
  have c1 : f2 1 = fB 1 := by rw [hf2, own_upd_ne _ _ (by decide)]
  have cw : (f2 1 &&& (127 : Int32)) = (126 : Int32) := by rw [c1]; exact hbw
  refine Wk.go (A' := T17.setTop (mkF m 18 #[rv ob, iv bx, jv lim, .second] [(.ref ob)])) (fun t k => XS.aloadN X17.here hx rfl (hb hby d3_17) rfl rfl k) ?_
  obtain ⟨T31, X31, e31, st31⟩ := getF X17 hx hZ hown (host := "") (Or.inl (tw21 hw)) Via.refl e17 f22 (g := (mkF m 18 #[rv ob, iv bx, jv lim, .second] [(.ref ob)])) rfl rfl (hb hby d3_18)
  refine Wk.go (A' := T31.setTop (mkF m 21 #[rv ob, iv bx, jv lim, .second] [(.int (4 : Int32))])) (fun t k => st31 t k) ?_
  refine Wk.go (A' := T31.setTop (mkF m 22 #[rv ob, iv bx, jv lim, .second] [(.int (2 : Int32)), (.int (4 : Int32))])) (fun t k => XS.iconst X31.here hx rfl (hb hby d3_21) k) ?_
  have hc22 : ¬ ((4 : Int32) = (2 : Int32)) := by decide
  refine Wk.go (A' := T31.setTop (mkF m 29 #[rv ob, iv bx, jv lim, .second] [])) (fun t k => XS.icmpYes X31.here hx rfl (pc0 := 22) (pc' := 29) rfl (hb hby d3_22) rfl (feq hc22).2 (by decide) (by decide) k) ?_
  refine Wk.go (A' := T31.setTop (mkF m 30 #[rv ob, iv bx, jv lim, .second] [(.ref ob)])) (fun t k => XS.aloadN X31.here hx rfl (hb hby d3_29) rfl rfl k) ?_
  obtain ⟨T32, X32, e32, st32⟩ := getF X31 hx hZ hown (host := "") (Or.inl (tw21 hw)) Via.refl e31 f22 (g := (mkF m 30 #[rv ob, iv bx, jv lim, .second] [(.ref ob)])) rfl rfl (hb hby d3_30)
  refine Wk.go (A' := T32.setTop (mkF m 33 #[rv ob, iv bx, jv lim, .second] [(.int (4 : Int32))])) (fun t k => st32 t k) ?_
  refine Wk.go (A' := T32.setTop (mkF m 34 #[rv ob, iv bx, jv lim, .second] [(.ref ob), (.int (4 : Int32))])) (fun t k => XS.aloadN X32.here hx rfl (hb hby d3_33) rfl rfl k) ?_
  obtain ⟨cq33, q33, q33'⟩ := f18.cell
  obtain ⟨_, _, ⟨T33, L33, k33, n33⟩, -, X33, ⟨Lc33, hQ33, l33, y33, z33⟩, st33⟩ := X32.privateBack hx (y := (⟨own_F, "lengthEnd", "()I"⟩ : MethodName)) hown (mvT hZ (tw23 hw)) (mvT hZ (tw24 hw)) (own_sel (mvT hZ (tw3 hw)) (Cond.privateMethod_at (mvP hZ (tw25 hw) (args := #[]))) (mvT hZ (tw24 hw)) (by decide)) (Cond.privateMethod_at (mvP hZ (tw25 hw) (args := #[]))) (mvT hZ (tw26 hw)) (by decide) (backOf (W := 1) (rm4 l Z a0 hw [] ob ba f2 (4 : Int32) h17 n0 Zp17 f20 f22 f19) hZ (tw26 hw) (tw4 hw) (by decide) (by decide)) (g := (mkF m 34 #[rv ob, iv bx, jv lim, .second] [(.ref ob), (.int (4 : Int32))])) rfl (by rw [hml]; rfl) (Steps.refl _) (a := ob) (by rw [e32]; exact q33) q33' (argsL := []) (rest := [(.int (4 : Int32))]) (lenOf pd_1 rfl) rfl (by show 2 * 0 + _ ≤ _; exact Nat.le_of_eq rfl) (hb hby d3_34) (fun _ _ => ⟨rfl, e32, (by decide : 0 + 0 ≤ _), (by decide : 0 + 0 ≤ _)⟩)
  dsimp only [Pt.U, Pt.locs, Pt.cells, Pt.slots] at X33 l33 y33 z33 st33 hQ33
  subst l33 y33 z33
  obtain ⟨rfl, N33q, hE33⟩ := hQ33
  have N33 := Fr.app N17 N33q
  refine Wk.go (A' := T33.setTop (mkF m 37 #[rv ob, iv bx, jv lim, .second] [(.int (f_lend ob ba f2 (4 : Int32))), (.int (4 : Int32))])) (fun t k => st33.trans k) ?_
  rw [show (f_lend ob ba f2 (4 : Int32)) = (4 : Int32) from own_l4 _ _ _ (by decide) cw]
  have hc37 : (4 : Int32) = (4 : Int32) := by decide
  refine Wk.go (A' := T33.setTop (mkF m 40 #[rv ob, iv bx, jv lim, .second] [])) (fun t k => XS.icmpNo X33.here hx rfl (hb hby d3_37) rfl (teq hc37).2 k) ?_
  refine Wk.go (A' := T33.setTop (mkF m 41 #[rv ob, iv bx, jv lim, .second] [(.ref ob)])) (fun t k => XS.aloadN X33.here hx rfl (hb hby d3_40) rfl rfl k) ?_
  refine Wk.go (A' := T33.setTop (mkF m 42 #[rv ob, iv bx, jv lim, .second] [(.long lim), (.ref ob)])) (fun t k => XS.lloadN X33.here hx rfl (hb hby d3_41) rfl k) ?_
  obtain ⟨cq34, q34, q34'⟩ := f18.cell
  obtain ⟨_, _, ⟨T34, L34, k34, n34⟩, -, X34, ⟨Lc34, hQ34, l34, y34, z34⟩, st34⟩ := X33.privateBack hx (y := (⟨own_F, "announce", "(J)V"⟩ : MethodName)) hown (mvT hZ (tw42 hw)) (mvT hZ (tw43 hw)) (own_sel (mvT hZ (tw3 hw)) (Cond.privateMethod_at (mvP hZ (tw44 hw) (args := #[]))) (mvT hZ (tw43 hw)) (by decide)) (Cond.privateMethod_at (mvP hZ (tw44 hw) (args := #[]))) (mvT hZ (tw45 hw)) (by decide) (backOf (W := 0) (rm7wm l Z a0 hw [] ob lim ba f2 h17 n0 Zp17 f18 f20 f21 f22 f23 f24 f25 f26 f27 f28 f29 f30 f19 hne g_ob g_ba hl cw) hZ (tw45 hw) (tw4 hw) (by decide) (by decide)) (g := (mkF m 42 #[rv ob, iv bx, jv lim, .second] [(.long lim), (.ref ob)])) rfl (by rw [hml]; rfl) (Steps.refl _) (a := ob) (by rw [(hE33)]; exact q34) q34' (argsL := [(.long lim)]) (rest := []) (lenOf pd_3 rfl) rfl (by show 2 * 0 + _ ≤ _; exact Nat.le_of_eq rfl) (hb hby d3_42) (fun _ _ => ⟨rfl, (hE33), (by decide : 0 + 0 ≤ _), (by decide : 0 + 0 ≤ _)⟩)
  dsimp only [Pt.U, Pt.locs, Pt.cells, Pt.slots] at X34 l34 y34 z34 st34 hQ34
  subst l34 y34 z34
  obtain ⟨ln34, rfl, N34q, Kq34, Eq34, Fq34_bytes, Fq34_masked, Fq34_count, Fq34_opcode, Fq34_last, Fq34_open, Fq34_length, Fq34_maskAt, Fq34_messageOpcode, Fq34_messageBytes, Fq34_dataLength, Vq34⟩ := hQ34
  have N34 := Fr.app N33 N34q
  have f35 := f18.keep Kq34
  have Zp34 : n0 ≤ T34.heap.size := Nat.le_trans Zp17 Kq34.1
  have Kt34 := K17.trans Kq34 (allS (Or.inl (List.mem_of_getElem? (i := 0) rfl)) (allS (Or.inl (List.mem_of_getElem? (i := 1) rfl)) all0))
  refine Wk.go (A' := T34.setTop (mkF m 45 #[rv ob, iv bx, jv lim, .second] [])) (fun t k => st34.trans k) ?_
  refine Wk.go (A' := T34.setTop (mkF m 46 #[rv ob, iv bx, jv lim, .second] [(.ref ob)])) (fun t k => XS.aloadN X34.here hx rfl (hb hby d3_45) rfl rfl k) ?_
  obtain ⟨T36, X36, e36, st36⟩ := getF X34 hx hZ hown (host := "") (Or.inl (tw21 hw)) Via.refl rfl Fq34_count (g := (mkF m 46 #[rv ob, iv bx, jv lim, .second] [(.ref ob)])) rfl rfl (hb hby d3_46)
  refine Wk.go (A' := T36.setTop (mkF m 49 #[rv ob, iv bx, jv lim, .second] [(.int (4 : Int32))])) (fun t k => st36 t k) ?_
  refine Wk.go (A' := T36.setTop (mkF m 50 #[rv ob, iv bx, jv lim, .second] [(.ref ob), (.int (4 : Int32))])) (fun t k => XS.aloadN X36.here hx rfl (hb hby d3_49) rfl rfl k) ?_
  obtain ⟨cq37, q37, q37'⟩ := Eq34.cell
  obtain ⟨_, _, ⟨T37, L37, k37, n37⟩, -, X37, ⟨Lc37, hQ37, l37, y37, z37⟩, st37⟩ := X36.privateBack hx (y := (⟨own_F, "lengthEnd", "()I"⟩ : MethodName)) hown (mvT hZ (tw23 hw)) (mvT hZ (tw24 hw)) (own_sel (mvT hZ (tw3 hw)) (Cond.privateMethod_at (mvP hZ (tw25 hw) (args := #[]))) (mvT hZ (tw24 hw)) (by decide)) (Cond.privateMethod_at (mvP hZ (tw25 hw) (args := #[]))) (mvT hZ (tw26 hw)) (by decide) (backOf (W := 1) (rm4 l Z a0 hw [] ob ba f2 (4 : Int32) T34.heap n0 Zp34 Fq34_bytes Fq34_count Vq34) hZ (tw26 hw) (tw4 hw) (by decide) (by decide)) (g := (mkF m 50 #[rv ob, iv bx, jv lim, .second] [(.ref ob), (.int (4 : Int32))])) rfl (by rw [hml]; rfl) (Steps.refl _) (a := ob) (by rw [e36]; exact q37) q37' (argsL := []) (rest := [(.int (4 : Int32))]) (lenOf pd_1 rfl) rfl (by show 2 * 0 + _ ≤ _; exact Nat.le_of_eq rfl) (hb hby d3_50) (fun _ _ => ⟨rfl, e36, (by decide : 0 + 0 ≤ _), (by decide : 0 + 0 ≤ _)⟩)
  dsimp only [Pt.U, Pt.locs, Pt.cells, Pt.slots] at X37 l37 y37 z37 st37 hQ37
  subst l37 y37 z37
  obtain ⟨rfl, N37q, hE37⟩ := hQ37
  have N37 := Fr.app N34 N37q
  refine Wk.go (A' := T37.setTop (mkF m 53 #[rv ob, iv bx, jv lim, .second] [(.int (f_lend ob ba f2 (4 : Int32))), (.int (4 : Int32))])) (fun t k => st37.trans k) ?_
  rw [show (f_lend ob ba f2 (4 : Int32)) = (4 : Int32) from own_l4 _ _ _ (by decide) cw]
  refine Wk.go (A' := T37.setTop (mkF m 54 #[rv ob, iv bx, jv lim, .second] [(.ref ob), (.int (4 : Int32)), (.int (4 : Int32))])) (fun t k => XS.aloadN X37.here hx rfl (hb hby d3_53) rfl rfl k) ?_
  obtain ⟨T38, X38, e38, st38⟩ := getF X37 hx hZ hown (host := "") (Or.inl (tw13 hw)) Via.refl (hE37) Fq34_masked (g := (mkF m 54 #[rv ob, iv bx, jv lim, .second] [(.ref ob), (.int (4 : Int32)), (.int (4 : Int32))])) rfl rfl (hb hby d3_54)
  refine Wk.go (A' := T38.setTop (mkF m 57 #[rv ob, iv bx, jv lim, .second] [(.int (1 : Int32)), (.int (4 : Int32)), (.int (4 : Int32))])) (fun t k => st38 t k) ?_
  have hc57 : ¬ ((1 : Int32) = (0 : Int32)) := by decide
  refine Wk.go (A' := T38.setTop (mkF m 60 #[rv ob, iv bx, jv lim, .second] [(.int (4 : Int32)), (.int (4 : Int32))])) (fun t k => XS.ifNo X38.here hx rfl (hb hby d3_57) rfl ((if0 _ _).trans (feq hc57).1) k) ?_
  refine Wk.go (A' := T38.setTop (mkF m 61 #[rv ob, iv bx, jv lim, .second] [(.int (4 : Int32)), (.int (4 : Int32)), (.int (4 : Int32))])) (fun t k => XS.iconst X38.here hx rfl (hb hby d3_60) k) ?_
  refine Wk.go (A' := T38.setTop (mkF m 65 #[rv ob, iv bx, jv lim, .second] [(.int (4 : Int32)), (.int (4 : Int32)), (.int (4 : Int32))])) (fun t k => XS.goto X38.here hx rfl (pc0 := 61) (pc' := 65) rfl (hb hby d3_61) (by decide) (by decide) k) ?_
  refine Wk.go (A' := T38.setTop (mkF m 66 #[rv ob, iv bx, jv lim, .second] [(.int (8 : Int32)), (.int (4 : Int32))])) (fun t k => XS.iadd X38.here hx rfl (hb hby d3_65) rfl k) ?_
  have hc66 : (4 : Int32) < (8 : Int32) := by decide
  refine Wk.go (A' := T38.setTop (mkF m 69 #[rv ob, iv bx, jv lim, .second] [])) (fun t k => XS.icmpNo X38.here hx rfl (hb hby d3_66) rfl (tlt hc66).2.1 k) ?_
  refine Wk.go (A' := T38.setTop (mkF m 70 #[rv ob, iv bx, jv lim, .second] [(.int (0 : Int32))])) (fun t k => XS.iconst X38.here hx rfl (hb hby d3_69) k) ?_
  refine own_fin (Qv := Q33wm Z ob bx lim ba fB h0 n0) (v := some (.int (0 : Int32))) X38 hlk (fun h => by rw [Bd.returns] at h; cases h) (fun fs hr => retN X38 hx (t := .boolean) Bd.returns (by simp) (hb hby d3_70) hr) ?_ (by decide) (by decide)
  show Q33wm Z ob bx lim ba fB h0 n0 _ T38.heap _
  rw [e38]
  have fin := Vq34
  rw [hf2] at fin
  exact ⟨_, rfl, N37, Kt34, Eq34, Fq34_bytes, Fq34_masked, Fq34_count, Fq34_opcode, Fq34_last, Fq34_open, Fq34_length, Fq34_maskAt, Fq34_messageOpcode, Fq34_messageBytes, Fq34_dataLength, fin⟩
theorem ef_3kn (m : MethodId) (x0 : Addr) (x1 : Int32) (x2 : Int64) : entryFrame m #[(.ref x0), (.int x1), (.long x2)] 4 = mkF m 0 #[rv x0, iv x1, jv x2, .second] [] := by first | (simp [entryFrame, mkF, argsToLocals, Value.category]; done) | rfl
def Q3kn (Z : State) (ob : Addr) (bx : Int32) (lim : Int64) (ba : Addr) (fB : Nat → Int32) (wlen : Int64) (wc : Int32) (h0 : Heap) (n0 : Nat) (v : Option Value) (h : Heap) (L : List Loc) : Prop := v = some (.int (0 : Int32)) ∧ Fr n0 L ∧ Keep h0 h [ob, ba] ∧ Exa Z h ob own_F ∧ Fld Z h ob own_F "bytes" "[B" (.ref ba) ∧ Fld Z h ob own_F "masked" "Z" (.int (1 : Int32)) ∧ Fld Z h ob own_F "count" "I" (.int (wc + (1 : Int32))) ∧ Fld Z h ob own_F "opcode" "I" (.int (2 : Int32)) ∧ Fld Z h ob own_F "last" "Z" (.int (1 : Int32)) ∧ Fld Z h ob own_F "open" "Z" (.int (0 : Int32)) ∧ Fld Z h ob own_F "length" "J" (.long wlen) ∧ Fld Z h ob own_F "maskAt" "I" (.int (2 : Int32)) ∧ Fld Z h ob own_F "messageOpcode" "I" (.int (2 : Int32)) ∧ Fld Z h ob own_F "messageBytes" "J" (.long (0 : Int64)) ∧ Fld Z h ob own_F "dataLength" "J" (.long wlen) ∧ BA Z h ba 14 (own_upd fB (wc).toNatClampNeg (bx).toInt8.toInt32)
set_option maxRecDepth 65536 in
set_option maxHeartbeats 40000000 in
theorem rm3kn (l : Launch) (Z : State) (a0 : Array Value) (hw : ∀ d ∈ tables_1, d.before a0 Z = true) (ws : List Jvm.Cond) (ob : Addr) (bx : Int32) (lim : Int64) (ba : Addr) (fB : Nat → Int32) (wlen : Int64) (wc : Int32) (h0 : Heap) (n0 : Nat) (Z0 : n0 ≤ h0.size) (E_ob : Exa Z h0 ob own_F) (F_bytes : Fld Z h0 ob own_F "bytes" "[B" (.ref ba)) (F_masked : Fld Z h0 ob own_F "masked" "Z" (.int (1 : Int32))) (F_count : Fld Z h0 ob own_F "count" "I" (.int wc)) (F_opcode : Fld Z h0 ob own_F "opcode" "I" (.int (2 : Int32))) (F_last : Fld Z h0 ob own_F "last" "Z" (.int (1 : Int32))) (F_open : Fld Z h0 ob own_F "open" "Z" (.int (0 : Int32))) (F_length : Fld Z h0 ob own_F "length" "J" (.long wlen)) (F_maskAt : Fld Z h0 ob own_F "maskAt" "I" (.int (2 : Int32))) (F_messageOpcode : Fld Z h0 ob own_F "messageOpcode" "I" (.int (2 : Int32))) (F_messageBytes : Fld Z h0 ob own_F "messageBytes" "J" (.long (0 : Int64))) (F_dataLength : Fld Z h0 ob own_F "dataLength" "J" (.long wlen)) (VB : BA Z h0 ba 14 fB) (hne : ob ≠ ba) (g_ob : n0 ≤ ob) (g_ba : n0 ≤ ba) (hl : lim = (9223372036854775807 : Int64)) (hbw : (fB 1 &&& (127 : Int32)) < (126 : Int32)) (hidx : 0 ≤ wc.toInt ∧ wc.toInt < ((14 : Nat) : Int)) (hi1 : 1 ≠ (wc).toNatClampNeg) (hk1 : ¬ ((wc + (1 : Int32)) < (2 : Int32))) (hk2 : ¬ ((wc + (1 : Int32)) = (2 : Int32))) (hkl : ¬ ((wc + (1 : Int32)) = (2 : Int32))) (hkt : ((wc + (1 : Int32)) < (6 : Int32))) :
    MetFree l (⟨own_F, "take", "(BJ)Z"⟩ : MethodName) (head1 (Jvm.Cond.code (⟨own_F, "take", "(BJ)Z"⟩ : MethodName) prog_100_method_2_code 4 (some .boolean) :: ws) ({ frames := 1, cells := 0, slots := 0, locals := 14 } : Room)) (fun a U => a = #[(.ref ob), (.int bx), (.long lim)] ∧ Z.Warmed39 U.vm ∧ U.heap = h0) (fun _ _ _ _ _ => True) (fun _ U o U' => ∃ v L, o = .returned v ∧ Q3kn Z ob bx lim ba fB wlen wc h0 n0 v U'.heap L ∧ FrameEnd U o U' L ({ frames := 1, cells := 0, slots := 0, locals := 14 } : Room).cells ({ frames := 1, cells := 0, slots := 0, locals := 14 } : Room).slots) := by
  refine MetFree.of_bodySF (plainFor_of_name pn_0) hisR ?_
  intro p e s m args below meth c s₁ Bd hml0 hP hK
  obtain ⟨rfl, hZ, hh⟩ := hP
  have hx := Bd.exec
  have hby := Bd.bytes
  have hml : c.maxLocals = 4 := hml0
  have hown : s.vm.findClass own_F = some m.cls := findClass_of_methodNamed Bd.named
  have hnm := (name_of_methodNamed Bd.named Bd.method).1
  have X0 : Stand p l e ({ frames := 1, cells := 0, slots := 0, locals := 14 } : Room) s m #[(.ref ob), (.int bx), (.long lim)] below meth c s₁ [] 0 0 := Stand.of_body Bd
  have e0 : s₁.heap = h0 := by rw [← hh, Bd.state]; rfl
  have N0 := Fr.nil n0
  have hlk : meth.locks = false := BodyLoose.notSynchronized Bd
  suffices hwk : Wk p.tables e below (s₁.setTop (mkF m 0 #[rv ob, iv bx, jv lim, .second] [])) (fun U o => U.status = .running ∧ Ended U below o ∧ ∃ v L, o = .returned v ∧ Q3kn Z ob bx lim ba fB wlen wc h0 n0 v U.heap L ∧ FrameEnd s o U L 0 0) by
    obtain ⟨U, o, k1, k2⟩ := hwk
    exact ⟨U, o, castTop (ef_3kn m ob bx lim) k1, k2⟩
  have K0 := Keep.refl h0 [ob, ba]
  refine Wk.go (A' := s₁.setTop (mkF m 1 #[rv ob, iv bx, jv lim, .second] [(.ref ob)])) (fun t k => XS.aloadN X0.here hx rfl (hb hby d3_0) rfl rfl k) ?_
  obtain ⟨T1, X1, e1, st1⟩ := getF X0 hx hZ hown (host := "") (Or.inl (tw11 hw)) Via.refl e0 F_bytes (g := (mkF m 1 #[rv ob, iv bx, jv lim, .second] [(.ref ob)])) rfl rfl (hb hby d3_1)
  refine Wk.go (A' := T1.setTop (mkF m 4 #[rv ob, iv bx, jv lim, .second] [(.ref ba)])) (fun t k => st1 t k) ?_
  refine Wk.go (A' := T1.setTop (mkF m 5 #[rv ob, iv bx, jv lim, .second] [(.ref ob), (.ref ba)])) (fun t k => XS.aloadN X1.here hx rfl (hb hby d3_4) rfl rfl k) ?_
  refine Wk.go (A' := T1.setTop (mkF m 6 #[rv ob, iv bx, jv lim, .second] [(.ref ob), (.ref ob), (.ref ba)])) (fun t k => XS.dup X1.here hx rfl (hb hby d3_5) rfl rfl k) ?_
  obtain ⟨T2, X2, e2, st2⟩ := getF X1 hx hZ hown (host := "") (Or.inl (tw21 hw)) Via.refl e1 F_count (g := (mkF m 6 #[rv ob, iv bx, jv lim, .second] [(.ref ob), (.ref ob), (.ref ba)])) rfl rfl (hb hby d3_6)
  refine Wk.go (A' := T2.setTop (mkF m 9 #[rv ob, iv bx, jv lim, .second] [(.int wc), (.ref ob), (.ref ba)])) (fun t k => st2 t k) ?_
  refine Wk.go (A' := T2.setTop (mkF m 10 #[rv ob, iv bx, jv lim, .second] [(.int wc), (.ref ob), (.int wc), (.ref ba)])) (fun t k => XS.dupX1 X2.here hx rfl (hb hby d3_9) rfl rfl rfl k) ?_
  refine Wk.go (A' := T2.setTop (mkF m 11 #[rv ob, iv bx, jv lim, .second] [(.int (1 : Int32)), (.int wc), (.ref ob), (.int wc), (.ref ba)])) (fun t k => XS.iconst X2.here hx rfl (hb hby d3_10) k) ?_
  refine Wk.go (A' := T2.setTop (mkF m 12 #[rv ob, iv bx, jv lim, .second] [(.int (wc + (1 : Int32))), (.ref ob), (.int wc), (.ref ba)])) (fun t k => XS.iadd X2.here hx rfl (hb hby d3_11) rfl k) ?_
  obtain ⟨T3, h3, X3, e3, W3, st3⟩ := putF X2 hx hZ hown (host := "") (Or.inl (tw21 hw)) Via.refl e2 F_count E_ob (Or.inl (tw22 hw)) (tw3 hw) (ty := .int) (by decide) rfl rfl (g := (mkF m 12 #[rv ob, iv bx, jv lim, .second] [(.int (wc + (1 : Int32))), (.ref ob), (.int wc), (.ref ba)])) rfl rfl (hb hby d3_12)
  have f4 := E_ob.wr W3
  have f5 := VB.other W3 (Ne.symm hne)
  have f6 := F_bytes.other W3 (Or.inr (sn_100 hw))
  have f7 := F_masked.other W3 (Or.inr (sn_101 hw))
  have f8 := F_count.same W3
  have f9 := F_opcode.other W3 (Or.inr (sn_102 hw))
  have f10 := F_last.other W3 (Or.inr (sn_103 hw))
  have f11 := F_open.other W3 (Or.inr (sn_104 hw))
  have f12 := F_length.other W3 (Or.inr (sn_105 hw))
  have f13 := F_maskAt.other W3 (Or.inr (sn_106 hw))
  have f14 := F_messageOpcode.other W3 (Or.inr (sn_107 hw))
  have f15 := F_messageBytes.other W3 (Or.inr (sn_108 hw))
  have f16 := F_dataLength.other W3 (Or.inr (sn_109 hw))
  have Zp3 : n0 ≤ h3.size := Nat.le_trans Z0 (Nat.le_of_eq W3.size.symm)
  have K3 := K0.wr W3 (Or.inl (List.mem_of_getElem? (i := 0) rfl))
  have N3 := Fr.snoc X3 N0 g_ob
  refine Wk.go (A' := T3.setTop (mkF m 15 #[rv ob, iv bx, jv lim, .second] [(.int wc), (.ref ba)])) (fun t k => st3 t k) ?_
  refine Wk.go (A' := T3.setTop (mkF m 16 #[rv ob, iv bx, jv lim, .second] [(.int bx), (.int wc), (.ref ba)])) (fun t k => XS.iloadN X3.here hx rfl (hb hby d3_15) rfl k) ?_
  obtain ⟨T17, h17, X17, e17, W17, B17, st17⟩ := own_stB X3 hx hZ e3 f5 (j := wc) hidx (g := (mkF m 16 #[rv ob, iv bx, jv lim, .second] [(.int bx), (.int wc), (.ref ba)])) rfl rfl (hb hby d3_16)
  have V17 : BA Z h17 ba 14 (own_upd fB (wc).toNatClampNeg (bx).toInt8.toInt32) := B17
  obtain ⟨f2, hf2⟩ : ∃ z, z = (own_upd fB (wc).toNatClampNeg (bx).toInt8.toInt32) := ⟨_, rfl⟩
  rw [← hf2] at V17
  have f18 := f4.wr W17
  have f19 := V17
  have f20 := f6.other W17 (Or.inl hne)
  have f21 := f7.other W17 (Or.inl hne)
  have f22 := f8.other W17 (Or.inl hne)
  have f23 := f9.other W17 (Or.inl hne)
  have f24 := f10.other W17 (Or.inl hne)
  have f25 := f11.other W17 (Or.inl hne)
  have f26 := f12.other W17 (Or.inl hne)
  have f27 := f13.other W17 (Or.inl hne)
  have f28 := f14.other W17 (Or.inl hne)
  have f29 := f15.other W17 (Or.inl hne)
  have f30 := f16.other W17 (Or.inl hne)
  have Zp17 : n0 ≤ h17.size := Nat.le_trans Zp3 (Nat.le_of_eq W17.size.symm)
  have K17 := K3.wr W17 (Or.inl (List.mem_of_getElem? (i := 1) rfl))
  have N17 := Fr.snoc X17 N3 g_ba
  refine Wk.go (A' := T17.setTop (mkF m 17 #[rv ob, iv bx, jv lim, .second] [])) (fun t k => st17 t k) ?_
  have c1 : f2 1 = fB 1 := by rw [hf2, own_upd_ne _ _ hi1]
  have cw : (f2 1 &&& (127 : Int32)) < (126 : Int32) := by rw [c1]; exact hbw
  refine Wk.go (A' := T17.setTop (mkF m 18 #[rv ob, iv bx, jv lim, .second] [(.ref ob)])) (fun t k => XS.aloadN X17.here hx rfl (hb hby d3_17) rfl rfl k) ?_
  obtain ⟨T31, X31, e31, st31⟩ := getF X17 hx hZ hown (host := "") (Or.inl (tw21 hw)) Via.refl e17 f22 (g := (mkF m 18 #[rv ob, iv bx, jv lim, .second] [(.ref ob)])) rfl rfl (hb hby d3_18)
  refine Wk.go (A' := T31.setTop (mkF m 21 #[rv ob, iv bx, jv lim, .second] [(.int (wc + (1 : Int32)))])) (fun t k => st31 t k) ?_
  refine Wk.go (A' := T31.setTop (mkF m 22 #[rv ob, iv bx, jv lim, .second] [(.int (2 : Int32)), (.int (wc + (1 : Int32)))])) (fun t k => XS.iconst X31.here hx rfl (hb hby d3_21) k) ?_
  have hc22 : ¬ ((wc + (1 : Int32)) = (2 : Int32)) := hk2
  refine Wk.go (A' := T31.setTop (mkF m 29 #[rv ob, iv bx, jv lim, .second] [])) (fun t k => XS.icmpYes X31.here hx rfl (pc0 := 22) (pc' := 29) rfl (hb hby d3_22) rfl (feq hc22).2 (by decide) (by decide) k) ?_
  refine Wk.go (A' := T31.setTop (mkF m 30 #[rv ob, iv bx, jv lim, .second] [(.ref ob)])) (fun t k => XS.aloadN X31.here hx rfl (hb hby d3_29) rfl rfl k) ?_
  obtain ⟨T32, X32, e32, st32⟩ := getF X31 hx hZ hown (host := "") (Or.inl (tw21 hw)) Via.refl e31 f22 (g := (mkF m 30 #[rv ob, iv bx, jv lim, .second] [(.ref ob)])) rfl rfl (hb hby d3_30)
  refine Wk.go (A' := T32.setTop (mkF m 33 #[rv ob, iv bx, jv lim, .second] [(.int (wc + (1 : Int32)))])) (fun t k => st32 t k) ?_
  refine Wk.go (A' := T32.setTop (mkF m 34 #[rv ob, iv bx, jv lim, .second] [(.ref ob), (.int (wc + (1 : Int32)))])) (fun t k => XS.aloadN X32.here hx rfl (hb hby d3_33) rfl rfl k) ?_
  obtain ⟨cq33, q33, q33'⟩ := f18.cell
  obtain ⟨_, _, ⟨T33, L33, k33, n33⟩, -, X33, ⟨Lc33, hQ33, l33, y33, z33⟩, st33⟩ := X32.privateBack hx (y := (⟨own_F, "lengthEnd", "()I"⟩ : MethodName)) hown (mvT hZ (tw23 hw)) (mvT hZ (tw24 hw)) (own_sel (mvT hZ (tw3 hw)) (Cond.privateMethod_at (mvP hZ (tw25 hw) (args := #[]))) (mvT hZ (tw24 hw)) (by decide)) (Cond.privateMethod_at (mvP hZ (tw25 hw) (args := #[]))) (mvT hZ (tw26 hw)) (by decide) (backOf (W := 1) (rm4 l Z a0 hw [] ob ba f2 (wc + (1 : Int32)) h17 n0 Zp17 f20 f22 f19) hZ (tw26 hw) (tw4 hw) (by decide) (by decide)) (g := (mkF m 34 #[rv ob, iv bx, jv lim, .second] [(.ref ob), (.int (wc + (1 : Int32)))])) rfl (by rw [hml]; rfl) (Steps.refl _) (a := ob) (by rw [e32]; exact q33) q33' (argsL := []) (rest := [(.int (wc + (1 : Int32)))]) (lenOf pd_1 rfl) rfl (by show 2 * 0 + _ ≤ _; exact Nat.le_of_eq rfl) (hb hby d3_34) (fun _ _ => ⟨rfl, e32, (by decide : 0 + 0 ≤ _), (by decide : 0 + 0 ≤ _)⟩)
  dsimp only [Pt.U, Pt.locs, Pt.cells, Pt.slots] at X33 l33 y33 z33 st33 hQ33
  subst l33 y33 z33
  obtain ⟨rfl, N33q, hE33⟩ := hQ33
  have N33 := Fr.app N17 N33q
  refine Wk.go (A' := T33.setTop (mkF m 37 #[rv ob, iv bx, jv lim, .second] [(.int (f_lend ob ba f2 (wc + (1 : Int32)))), (.int (wc + (1 : Int32)))])) (fun t k => st33.trans k) ?_
  rw [show (f_lend ob ba f2 (wc + (1 : Int32))) = (2 : Int32) from own_l2 _ _ _ hk1 cw]
  refine Wk.go (A' := T33.setTop (mkF m 45 #[rv ob, iv bx, jv lim, .second] [])) (fun t k => XS.icmpYes X33.here hx rfl (pc0 := 37) (pc' := 45) rfl (hb hby d3_37) rfl (feq hc22).2 (by decide) (by decide) k) ?_
  refine Wk.go (A' := T33.setTop (mkF m 46 #[rv ob, iv bx, jv lim, .second] [(.ref ob)])) (fun t k => XS.aloadN X33.here hx rfl (hb hby d3_45) rfl rfl k) ?_
  obtain ⟨T34, X34, e34, st34⟩ := getF X33 hx hZ hown (host := "") (Or.inl (tw21 hw)) Via.refl (hE33) f22 (g := (mkF m 46 #[rv ob, iv bx, jv lim, .second] [(.ref ob)])) rfl rfl (hb hby d3_46)
  refine Wk.go (A' := T34.setTop (mkF m 49 #[rv ob, iv bx, jv lim, .second] [(.int (wc + (1 : Int32)))])) (fun t k => st34 t k) ?_
  refine Wk.go (A' := T34.setTop (mkF m 50 #[rv ob, iv bx, jv lim, .second] [(.ref ob), (.int (wc + (1 : Int32)))])) (fun t k => XS.aloadN X34.here hx rfl (hb hby d3_49) rfl rfl k) ?_
  obtain ⟨cq35, q35, q35'⟩ := f18.cell
  obtain ⟨_, _, ⟨T35, L35, k35, n35⟩, -, X35, ⟨Lc35, hQ35, l35, y35, z35⟩, st35⟩ := X34.privateBack hx (y := (⟨own_F, "lengthEnd", "()I"⟩ : MethodName)) hown (mvT hZ (tw23 hw)) (mvT hZ (tw24 hw)) (own_sel (mvT hZ (tw3 hw)) (Cond.privateMethod_at (mvP hZ (tw25 hw) (args := #[]))) (mvT hZ (tw24 hw)) (by decide)) (Cond.privateMethod_at (mvP hZ (tw25 hw) (args := #[]))) (mvT hZ (tw26 hw)) (by decide) (backOf (W := 1) (rm4 l Z a0 hw [] ob ba f2 (wc + (1 : Int32)) h17 n0 Zp17 f20 f22 f19) hZ (tw26 hw) (tw4 hw) (by decide) (by decide)) (g := (mkF m 50 #[rv ob, iv bx, jv lim, .second] [(.ref ob), (.int (wc + (1 : Int32)))])) rfl (by rw [hml]; rfl) (Steps.refl _) (a := ob) (by rw [e34]; exact q35) q35' (argsL := []) (rest := [(.int (wc + (1 : Int32)))]) (lenOf pd_1 rfl) rfl (by show 2 * 0 + _ ≤ _; exact Nat.le_of_eq rfl) (hb hby d3_50) (fun _ _ => ⟨rfl, e34, (by decide : 0 + 0 ≤ _), (by decide : 0 + 0 ≤ _)⟩)
  dsimp only [Pt.U, Pt.locs, Pt.cells, Pt.slots] at X35 l35 y35 z35 st35 hQ35
  subst l35 y35 z35
  obtain ⟨rfl, N35q, hE35⟩ := hQ35
  have N35 := Fr.app N33 N35q
  refine Wk.go (A' := T35.setTop (mkF m 53 #[rv ob, iv bx, jv lim, .second] [(.int (f_lend ob ba f2 (wc + (1 : Int32)))), (.int (wc + (1 : Int32)))])) (fun t k => st35.trans k) ?_
  rw [show (f_lend ob ba f2 (wc + (1 : Int32))) = (2 : Int32) from own_l2 _ _ _ hk1 cw]
  refine Wk.go (A' := T35.setTop (mkF m 54 #[rv ob, iv bx, jv lim, .second] [(.ref ob), (.int (2 : Int32)), (.int (wc + (1 : Int32)))])) (fun t k => XS.aloadN X35.here hx rfl (hb hby d3_53) rfl rfl k) ?_
  obtain ⟨T36, X36, e36, st36⟩ := getF X35 hx hZ hown (host := "") (Or.inl (tw13 hw)) Via.refl (hE35) f21 (g := (mkF m 54 #[rv ob, iv bx, jv lim, .second] [(.ref ob), (.int (2 : Int32)), (.int (wc + (1 : Int32)))])) rfl rfl (hb hby d3_54)
  refine Wk.go (A' := T36.setTop (mkF m 57 #[rv ob, iv bx, jv lim, .second] [(.int (1 : Int32)), (.int (2 : Int32)), (.int (wc + (1 : Int32)))])) (fun t k => st36 t k) ?_
  have hc57 : ¬ ((1 : Int32) = (0 : Int32)) := by decide
  refine Wk.go (A' := T36.setTop (mkF m 60 #[rv ob, iv bx, jv lim, .second] [(.int (2 : Int32)), (.int (wc + (1 : Int32)))])) (fun t k => XS.ifNo X36.here hx rfl (hb hby d3_57) rfl ((if0 _ _).trans (feq hc57).1) k) ?_
  refine Wk.go (A' := T36.setTop (mkF m 61 #[rv ob, iv bx, jv lim, .second] [(.int (4 : Int32)), (.int (2 : Int32)), (.int (wc + (1 : Int32)))])) (fun t k => XS.iconst X36.here hx rfl (hb hby d3_60) k) ?_
  refine Wk.go (A' := T36.setTop (mkF m 65 #[rv ob, iv bx, jv lim, .second] [(.int (4 : Int32)), (.int (2 : Int32)), (.int (wc + (1 : Int32)))])) (fun t k => XS.goto X36.here hx rfl (pc0 := 61) (pc' := 65) rfl (hb hby d3_61) (by decide) (by decide) k) ?_
  refine Wk.go (A' := T36.setTop (mkF m 66 #[rv ob, iv bx, jv lim, .second] [(.int (6 : Int32)), (.int (wc + (1 : Int32)))])) (fun t k => XS.iadd X36.here hx rfl (hb hby d3_65) rfl k) ?_
  have hc66 : (wc + (1 : Int32)) < (6 : Int32) := hkt
  refine Wk.go (A' := T36.setTop (mkF m 69 #[rv ob, iv bx, jv lim, .second] [])) (fun t k => XS.icmpNo X36.here hx rfl (hb hby d3_66) rfl (tlt hc66).2.1 k) ?_
  refine Wk.go (A' := T36.setTop (mkF m 70 #[rv ob, iv bx, jv lim, .second] [(.int (0 : Int32))])) (fun t k => XS.iconst X36.here hx rfl (hb hby d3_69) k) ?_
  refine own_fin (Qv := Q3kn Z ob bx lim ba fB wlen wc h0 n0) (v := some (.int (0 : Int32))) X36 hlk (fun h => by rw [Bd.returns] at h; cases h) (fun fs hr => retN X36 hx (t := .boolean) Bd.returns (by simp) (hb hby d3_70) hr) ?_ (by decide) (by decide)
  show Q3kn Z ob bx lim ba fB wlen wc h0 n0 _ T36.heap _
  rw [e36]
  have fin := f19
  rw [hf2] at fin
  exact ⟨rfl, N35, K17, f18, f20, f21, f22, f23, f24, f25, f26, f27, f28, f29, f30, fin⟩
theorem ef_3ln (m : MethodId) (x0 : Addr) (x1 : Int32) (x2 : Int64) : entryFrame m #[(.ref x0), (.int x1), (.long x2)] 4 = mkF m 0 #[rv x0, iv x1, jv x2, .second] [] := by first | (simp [entryFrame, mkF, argsToLocals, Value.category]; done) | rfl
def Q3ln (Z : State) (ob : Addr) (bx : Int32) (lim : Int64) (ba : Addr) (fB : Nat → Int32) (wlen : Int64) (wc : Int32) (h0 : Heap) (n0 : Nat) (v : Option Value) (h : Heap) (L : List Loc) : Prop := v = some (.int (1 : Int32)) ∧ Fr n0 L ∧ Keep h0 h [ob, ba] ∧ Exa Z h ob own_F ∧ Fld Z h ob own_F "bytes" "[B" (.ref ba) ∧ Fld Z h ob own_F "masked" "Z" (.int (1 : Int32)) ∧ Fld Z h ob own_F "count" "I" (.int (0 : Int32)) ∧ Fld Z h ob own_F "opcode" "I" (.int (2 : Int32)) ∧ Fld Z h ob own_F "last" "Z" (.int (1 : Int32)) ∧ Fld Z h ob own_F "open" "Z" (.int (0 : Int32)) ∧ Fld Z h ob own_F "length" "J" (.long wlen) ∧ Fld Z h ob own_F "maskAt" "I" (.int (2 : Int32)) ∧ Fld Z h ob own_F "messageOpcode" "I" (.int (2 : Int32)) ∧ Fld Z h ob own_F "messageBytes" "J" (.long (0 : Int64)) ∧ Fld Z h ob own_F "dataLength" "J" (.long wlen) ∧ BA Z h ba 14 (own_upd fB (wc).toNatClampNeg (bx).toInt8.toInt32)
set_option maxRecDepth 65536 in
set_option maxHeartbeats 40000000 in
theorem rm3ln (l : Launch) (Z : State) (a0 : Array Value) (hw : ∀ d ∈ tables_1, d.before a0 Z = true) (ws : List Jvm.Cond) (ob : Addr) (bx : Int32) (lim : Int64) (ba : Addr) (fB : Nat → Int32) (wlen : Int64) (wc : Int32) (h0 : Heap) (n0 : Nat) (Z0 : n0 ≤ h0.size) (E_ob : Exa Z h0 ob own_F) (F_bytes : Fld Z h0 ob own_F "bytes" "[B" (.ref ba)) (F_masked : Fld Z h0 ob own_F "masked" "Z" (.int (1 : Int32))) (F_count : Fld Z h0 ob own_F "count" "I" (.int wc)) (F_opcode : Fld Z h0 ob own_F "opcode" "I" (.int (2 : Int32))) (F_last : Fld Z h0 ob own_F "last" "Z" (.int (1 : Int32))) (F_open : Fld Z h0 ob own_F "open" "Z" (.int (0 : Int32))) (F_length : Fld Z h0 ob own_F "length" "J" (.long wlen)) (F_maskAt : Fld Z h0 ob own_F "maskAt" "I" (.int (2 : Int32))) (F_messageOpcode : Fld Z h0 ob own_F "messageOpcode" "I" (.int (2 : Int32))) (F_messageBytes : Fld Z h0 ob own_F "messageBytes" "J" (.long (0 : Int64))) (F_dataLength : Fld Z h0 ob own_F "dataLength" "J" (.long wlen)) (VB : BA Z h0 ba 14 fB) (hne : ob ≠ ba) (g_ob : n0 ≤ ob) (g_ba : n0 ≤ ba) (hl : lim = (9223372036854775807 : Int64)) (hbw : (fB 1 &&& (127 : Int32)) < (126 : Int32)) (hidx : 0 ≤ wc.toInt ∧ wc.toInt < ((14 : Nat) : Int)) (hi1 : 1 ≠ (wc).toNatClampNeg) (hk1 : ¬ ((wc + (1 : Int32)) < (2 : Int32))) (hk2 : ¬ ((wc + (1 : Int32)) = (2 : Int32))) (hkl : ¬ ((wc + (1 : Int32)) = (2 : Int32))) (hkt : ¬ ((wc + (1 : Int32)) < (6 : Int32))) :
    MetFree l (⟨own_F, "take", "(BJ)Z"⟩ : MethodName) (head1 (Jvm.Cond.code (⟨own_F, "take", "(BJ)Z"⟩ : MethodName) prog_100_method_2_code 4 (some .boolean) :: ws) ({ frames := 1, cells := 0, slots := 0, locals := 14 } : Room)) (fun a U => a = #[(.ref ob), (.int bx), (.long lim)] ∧ Z.Warmed39 U.vm ∧ U.heap = h0) (fun _ _ _ _ _ => True) (fun _ U o U' => ∃ v L, o = .returned v ∧ Q3ln Z ob bx lim ba fB wlen wc h0 n0 v U'.heap L ∧ FrameEnd U o U' L ({ frames := 1, cells := 0, slots := 0, locals := 14 } : Room).cells ({ frames := 1, cells := 0, slots := 0, locals := 14 } : Room).slots) := by
  refine MetFree.of_bodySF (plainFor_of_name pn_0) hisR ?_
  intro p e s m args below meth c s₁ Bd hml0 hP hK
  obtain ⟨rfl, hZ, hh⟩ := hP
  have hx := Bd.exec
  have hby := Bd.bytes
  have hml : c.maxLocals = 4 := hml0
  have hown : s.vm.findClass own_F = some m.cls := findClass_of_methodNamed Bd.named
  have hnm := (name_of_methodNamed Bd.named Bd.method).1
  have X0 : Stand p l e ({ frames := 1, cells := 0, slots := 0, locals := 14 } : Room) s m #[(.ref ob), (.int bx), (.long lim)] below meth c s₁ [] 0 0 := Stand.of_body Bd
  have e0 : s₁.heap = h0 := by rw [← hh, Bd.state]; rfl
  have N0 := Fr.nil n0
  have hlk : meth.locks = false := BodyLoose.notSynchronized Bd
  suffices hwk : Wk p.tables e below (s₁.setTop (mkF m 0 #[rv ob, iv bx, jv lim, .second] [])) (fun U o => U.status = .running ∧ Ended U below o ∧ ∃ v L, o = .returned v ∧ Q3ln Z ob bx lim ba fB wlen wc h0 n0 v U.heap L ∧ FrameEnd s o U L 0 0) by
    obtain ⟨U, o, k1, k2⟩ := hwk
    exact ⟨U, o, castTop (ef_3ln m ob bx lim) k1, k2⟩
  have K0 := Keep.refl h0 [ob, ba]
  refine Wk.go (A' := s₁.setTop (mkF m 1 #[rv ob, iv bx, jv lim, .second] [(.ref ob)])) (fun t k => XS.aloadN X0.here hx rfl (hb hby d3_0) rfl rfl k) ?_
  obtain ⟨T1, X1, e1, st1⟩ := getF X0 hx hZ hown (host := "") (Or.inl (tw11 hw)) Via.refl e0 F_bytes (g := (mkF m 1 #[rv ob, iv bx, jv lim, .second] [(.ref ob)])) rfl rfl (hb hby d3_1)
  refine Wk.go (A' := T1.setTop (mkF m 4 #[rv ob, iv bx, jv lim, .second] [(.ref ba)])) (fun t k => st1 t k) ?_
  refine Wk.go (A' := T1.setTop (mkF m 5 #[rv ob, iv bx, jv lim, .second] [(.ref ob), (.ref ba)])) (fun t k => XS.aloadN X1.here hx rfl (hb hby d3_4) rfl rfl k) ?_
  refine Wk.go (A' := T1.setTop (mkF m 6 #[rv ob, iv bx, jv lim, .second] [(.ref ob), (.ref ob), (.ref ba)])) (fun t k => XS.dup X1.here hx rfl (hb hby d3_5) rfl rfl k) ?_
  obtain ⟨T2, X2, e2, st2⟩ := getF X1 hx hZ hown (host := "") (Or.inl (tw21 hw)) Via.refl e1 F_count (g := (mkF m 6 #[rv ob, iv bx, jv lim, .second] [(.ref ob), (.ref ob), (.ref ba)])) rfl rfl (hb hby d3_6)
  refine Wk.go (A' := T2.setTop (mkF m 9 #[rv ob, iv bx, jv lim, .second] [(.int wc), (.ref ob), (.ref ba)])) (fun t k => st2 t k) ?_
  refine Wk.go (A' := T2.setTop (mkF m 10 #[rv ob, iv bx, jv lim, .second] [(.int wc), (.ref ob), (.int wc), (.ref ba)])) (fun t k => XS.dupX1 X2.here hx rfl (hb hby d3_9) rfl rfl rfl k) ?_
  refine Wk.go (A' := T2.setTop (mkF m 11 #[rv ob, iv bx, jv lim, .second] [(.int (1 : Int32)), (.int wc), (.ref ob), (.int wc), (.ref ba)])) (fun t k => XS.iconst X2.here hx rfl (hb hby d3_10) k) ?_
  refine Wk.go (A' := T2.setTop (mkF m 12 #[rv ob, iv bx, jv lim, .second] [(.int (wc + (1 : Int32))), (.ref ob), (.int wc), (.ref ba)])) (fun t k => XS.iadd X2.here hx rfl (hb hby d3_11) rfl k) ?_
  obtain ⟨T3, h3, X3, e3, W3, st3⟩ := putF X2 hx hZ hown (host := "") (Or.inl (tw21 hw)) Via.refl e2 F_count E_ob (Or.inl (tw22 hw)) (tw3 hw) (ty := .int) (by decide) rfl rfl (g := (mkF m 12 #[rv ob, iv bx, jv lim, .second] [(.int (wc + (1 : Int32))), (.ref ob), (.int wc), (.ref ba)])) rfl rfl (hb hby d3_12)
  have f4 := E_ob.wr W3
  have f5 := VB.other W3 (Ne.symm hne)
  have f6 := F_bytes.other W3 (Or.inr (sn_100 hw))
  have f7 := F_masked.other W3 (Or.inr (sn_101 hw))
  have f8 := F_count.same W3
  have f9 := F_opcode.other W3 (Or.inr (sn_102 hw))
  have f10 := F_last.other W3 (Or.inr (sn_103 hw))
  have f11 := F_open.other W3 (Or.inr (sn_104 hw))
  have f12 := F_length.other W3 (Or.inr (sn_105 hw))
  have f13 := F_maskAt.other W3 (Or.inr (sn_106 hw))
  have f14 := F_messageOpcode.other W3 (Or.inr (sn_107 hw))
  have f15 := F_messageBytes.other W3 (Or.inr (sn_108 hw))
  have f16 := F_dataLength.other W3 (Or.inr (sn_109 hw))
  have Zp3 : n0 ≤ h3.size := Nat.le_trans Z0 (Nat.le_of_eq W3.size.symm)
  have K3 := K0.wr W3 (Or.inl (List.mem_of_getElem? (i := 0) rfl))
  have N3 := Fr.snoc X3 N0 g_ob
  refine Wk.go (A' := T3.setTop (mkF m 15 #[rv ob, iv bx, jv lim, .second] [(.int wc), (.ref ba)])) (fun t k => st3 t k) ?_
  refine Wk.go (A' := T3.setTop (mkF m 16 #[rv ob, iv bx, jv lim, .second] [(.int bx), (.int wc), (.ref ba)])) (fun t k => XS.iloadN X3.here hx rfl (hb hby d3_15) rfl k) ?_
  obtain ⟨T17, h17, X17, e17, W17, B17, st17⟩ := own_stB X3 hx hZ e3 f5 (j := wc) hidx (g := (mkF m 16 #[rv ob, iv bx, jv lim, .second] [(.int bx), (.int wc), (.ref ba)])) rfl rfl (hb hby d3_16)
  have V17 : BA Z h17 ba 14 (own_upd fB (wc).toNatClampNeg (bx).toInt8.toInt32) := B17
  obtain ⟨f2, hf2⟩ : ∃ z, z = (own_upd fB (wc).toNatClampNeg (bx).toInt8.toInt32) := ⟨_, rfl⟩
  rw [← hf2] at V17
  have f18 := f4.wr W17
  have f19 := V17
  have f20 := f6.other W17 (Or.inl hne)
  have f21 := f7.other W17 (Or.inl hne)
  have f22 := f8.other W17 (Or.inl hne)
  have f23 := f9.other W17 (Or.inl hne)
  have f24 := f10.other W17 (Or.inl hne)
  have f25 := f11.other W17 (Or.inl hne)
  have f26 := f12.other W17 (Or.inl hne)
  have f27 := f13.other W17 (Or.inl hne)
  have f28 := f14.other W17 (Or.inl hne)
  have f29 := f15.other W17 (Or.inl hne)
  have f30 := f16.other W17 (Or.inl hne)
  have Zp17 : n0 ≤ h17.size := Nat.le_trans Zp3 (Nat.le_of_eq W17.size.symm)
  have K17 := K3.wr W17 (Or.inl (List.mem_of_getElem? (i := 1) rfl))
  have N17 := Fr.snoc X17 N3 g_ba
  refine Wk.go (A' := T17.setTop (mkF m 17 #[rv ob, iv bx, jv lim, .second] [])) (fun t k => st17 t k) ?_
  have c1 : f2 1 = fB 1 := by rw [hf2, own_upd_ne _ _ hi1]
  have cw : (f2 1 &&& (127 : Int32)) < (126 : Int32) := by rw [c1]; exact hbw
  refine Wk.go (A' := T17.setTop (mkF m 18 #[rv ob, iv bx, jv lim, .second] [(.ref ob)])) (fun t k => XS.aloadN X17.here hx rfl (hb hby d3_17) rfl rfl k) ?_
  obtain ⟨T31, X31, e31, st31⟩ := getF X17 hx hZ hown (host := "") (Or.inl (tw21 hw)) Via.refl e17 f22 (g := (mkF m 18 #[rv ob, iv bx, jv lim, .second] [(.ref ob)])) rfl rfl (hb hby d3_18)
  refine Wk.go (A' := T31.setTop (mkF m 21 #[rv ob, iv bx, jv lim, .second] [(.int (wc + (1 : Int32)))])) (fun t k => st31 t k) ?_
  refine Wk.go (A' := T31.setTop (mkF m 22 #[rv ob, iv bx, jv lim, .second] [(.int (2 : Int32)), (.int (wc + (1 : Int32)))])) (fun t k => XS.iconst X31.here hx rfl (hb hby d3_21) k) ?_
  have hc22 : ¬ ((wc + (1 : Int32)) = (2 : Int32)) := hk2
  refine Wk.go (A' := T31.setTop (mkF m 29 #[rv ob, iv bx, jv lim, .second] [])) (fun t k => XS.icmpYes X31.here hx rfl (pc0 := 22) (pc' := 29) rfl (hb hby d3_22) rfl (feq hc22).2 (by decide) (by decide) k) ?_
  refine Wk.go (A' := T31.setTop (mkF m 30 #[rv ob, iv bx, jv lim, .second] [(.ref ob)])) (fun t k => XS.aloadN X31.here hx rfl (hb hby d3_29) rfl rfl k) ?_
  obtain ⟨T32, X32, e32, st32⟩ := getF X31 hx hZ hown (host := "") (Or.inl (tw21 hw)) Via.refl e31 f22 (g := (mkF m 30 #[rv ob, iv bx, jv lim, .second] [(.ref ob)])) rfl rfl (hb hby d3_30)
  refine Wk.go (A' := T32.setTop (mkF m 33 #[rv ob, iv bx, jv lim, .second] [(.int (wc + (1 : Int32)))])) (fun t k => st32 t k) ?_
  refine Wk.go (A' := T32.setTop (mkF m 34 #[rv ob, iv bx, jv lim, .second] [(.ref ob), (.int (wc + (1 : Int32)))])) (fun t k => XS.aloadN X32.here hx rfl (hb hby d3_33) rfl rfl k) ?_
  obtain ⟨cq33, q33, q33'⟩ := f18.cell
  obtain ⟨_, _, ⟨T33, L33, k33, n33⟩, -, X33, ⟨Lc33, hQ33, l33, y33, z33⟩, st33⟩ := X32.privateBack hx (y := (⟨own_F, "lengthEnd", "()I"⟩ : MethodName)) hown (mvT hZ (tw23 hw)) (mvT hZ (tw24 hw)) (own_sel (mvT hZ (tw3 hw)) (Cond.privateMethod_at (mvP hZ (tw25 hw) (args := #[]))) (mvT hZ (tw24 hw)) (by decide)) (Cond.privateMethod_at (mvP hZ (tw25 hw) (args := #[]))) (mvT hZ (tw26 hw)) (by decide) (backOf (W := 1) (rm4 l Z a0 hw [] ob ba f2 (wc + (1 : Int32)) h17 n0 Zp17 f20 f22 f19) hZ (tw26 hw) (tw4 hw) (by decide) (by decide)) (g := (mkF m 34 #[rv ob, iv bx, jv lim, .second] [(.ref ob), (.int (wc + (1 : Int32)))])) rfl (by rw [hml]; rfl) (Steps.refl _) (a := ob) (by rw [e32]; exact q33) q33' (argsL := []) (rest := [(.int (wc + (1 : Int32)))]) (lenOf pd_1 rfl) rfl (by show 2 * 0 + _ ≤ _; exact Nat.le_of_eq rfl) (hb hby d3_34) (fun _ _ => ⟨rfl, e32, (by decide : 0 + 0 ≤ _), (by decide : 0 + 0 ≤ _)⟩)
  dsimp only [Pt.U, Pt.locs, Pt.cells, Pt.slots] at X33 l33 y33 z33 st33 hQ33
  subst l33 y33 z33
  obtain ⟨rfl, N33q, hE33⟩ := hQ33
  have N33 := Fr.app N17 N33q
  refine Wk.go (A' := T33.setTop (mkF m 37 #[rv ob, iv bx, jv lim, .second] [(.int (f_lend ob ba f2 (wc + (1 : Int32)))), (.int (wc + (1 : Int32)))])) (fun t k => st33.trans k) ?_
  rw [show (f_lend ob ba f2 (wc + (1 : Int32))) = (2 : Int32) from own_l2 _ _ _ hk1 cw]
  refine Wk.go (A' := T33.setTop (mkF m 45 #[rv ob, iv bx, jv lim, .second] [])) (fun t k => XS.icmpYes X33.here hx rfl (pc0 := 37) (pc' := 45) rfl (hb hby d3_37) rfl (feq hc22).2 (by decide) (by decide) k) ?_
  refine Wk.go (A' := T33.setTop (mkF m 46 #[rv ob, iv bx, jv lim, .second] [(.ref ob)])) (fun t k => XS.aloadN X33.here hx rfl (hb hby d3_45) rfl rfl k) ?_
  obtain ⟨T34, X34, e34, st34⟩ := getF X33 hx hZ hown (host := "") (Or.inl (tw21 hw)) Via.refl (hE33) f22 (g := (mkF m 46 #[rv ob, iv bx, jv lim, .second] [(.ref ob)])) rfl rfl (hb hby d3_46)
  refine Wk.go (A' := T34.setTop (mkF m 49 #[rv ob, iv bx, jv lim, .second] [(.int (wc + (1 : Int32)))])) (fun t k => st34 t k) ?_
  refine Wk.go (A' := T34.setTop (mkF m 50 #[rv ob, iv bx, jv lim, .second] [(.ref ob), (.int (wc + (1 : Int32)))])) (fun t k => XS.aloadN X34.here hx rfl (hb hby d3_49) rfl rfl k) ?_
  obtain ⟨cq35, q35, q35'⟩ := f18.cell
  obtain ⟨_, _, ⟨T35, L35, k35, n35⟩, -, X35, ⟨Lc35, hQ35, l35, y35, z35⟩, st35⟩ := X34.privateBack hx (y := (⟨own_F, "lengthEnd", "()I"⟩ : MethodName)) hown (mvT hZ (tw23 hw)) (mvT hZ (tw24 hw)) (own_sel (mvT hZ (tw3 hw)) (Cond.privateMethod_at (mvP hZ (tw25 hw) (args := #[]))) (mvT hZ (tw24 hw)) (by decide)) (Cond.privateMethod_at (mvP hZ (tw25 hw) (args := #[]))) (mvT hZ (tw26 hw)) (by decide) (backOf (W := 1) (rm4 l Z a0 hw [] ob ba f2 (wc + (1 : Int32)) h17 n0 Zp17 f20 f22 f19) hZ (tw26 hw) (tw4 hw) (by decide) (by decide)) (g := (mkF m 50 #[rv ob, iv bx, jv lim, .second] [(.ref ob), (.int (wc + (1 : Int32)))])) rfl (by rw [hml]; rfl) (Steps.refl _) (a := ob) (by rw [e34]; exact q35) q35' (argsL := []) (rest := [(.int (wc + (1 : Int32)))]) (lenOf pd_1 rfl) rfl (by show 2 * 0 + _ ≤ _; exact Nat.le_of_eq rfl) (hb hby d3_50) (fun _ _ => ⟨rfl, e34, (by decide : 0 + 0 ≤ _), (by decide : 0 + 0 ≤ _)⟩)
  dsimp only [Pt.U, Pt.locs, Pt.cells, Pt.slots] at X35 l35 y35 z35 st35 hQ35
  subst l35 y35 z35
  obtain ⟨rfl, N35q, hE35⟩ := hQ35
  have N35 := Fr.app N33 N35q
  refine Wk.go (A' := T35.setTop (mkF m 53 #[rv ob, iv bx, jv lim, .second] [(.int (f_lend ob ba f2 (wc + (1 : Int32)))), (.int (wc + (1 : Int32)))])) (fun t k => st35.trans k) ?_
  rw [show (f_lend ob ba f2 (wc + (1 : Int32))) = (2 : Int32) from own_l2 _ _ _ hk1 cw]
  refine Wk.go (A' := T35.setTop (mkF m 54 #[rv ob, iv bx, jv lim, .second] [(.ref ob), (.int (2 : Int32)), (.int (wc + (1 : Int32)))])) (fun t k => XS.aloadN X35.here hx rfl (hb hby d3_53) rfl rfl k) ?_
  obtain ⟨T36, X36, e36, st36⟩ := getF X35 hx hZ hown (host := "") (Or.inl (tw13 hw)) Via.refl (hE35) f21 (g := (mkF m 54 #[rv ob, iv bx, jv lim, .second] [(.ref ob), (.int (2 : Int32)), (.int (wc + (1 : Int32)))])) rfl rfl (hb hby d3_54)
  refine Wk.go (A' := T36.setTop (mkF m 57 #[rv ob, iv bx, jv lim, .second] [(.int (1 : Int32)), (.int (2 : Int32)), (.int (wc + (1 : Int32)))])) (fun t k => st36 t k) ?_
  have hc57 : ¬ ((1 : Int32) = (0 : Int32)) := by decide
  refine Wk.go (A' := T36.setTop (mkF m 60 #[rv ob, iv bx, jv lim, .second] [(.int (2 : Int32)), (.int (wc + (1 : Int32)))])) (fun t k => XS.ifNo X36.here hx rfl (hb hby d3_57) rfl ((if0 _ _).trans (feq hc57).1) k) ?_
  refine Wk.go (A' := T36.setTop (mkF m 61 #[rv ob, iv bx, jv lim, .second] [(.int (4 : Int32)), (.int (2 : Int32)), (.int (wc + (1 : Int32)))])) (fun t k => XS.iconst X36.here hx rfl (hb hby d3_60) k) ?_
  refine Wk.go (A' := T36.setTop (mkF m 65 #[rv ob, iv bx, jv lim, .second] [(.int (4 : Int32)), (.int (2 : Int32)), (.int (wc + (1 : Int32)))])) (fun t k => XS.goto X36.here hx rfl (pc0 := 61) (pc' := 65) rfl (hb hby d3_61) (by decide) (by decide) k) ?_
  refine Wk.go (A' := T36.setTop (mkF m 66 #[rv ob, iv bx, jv lim, .second] [(.int (6 : Int32)), (.int (wc + (1 : Int32)))])) (fun t k => XS.iadd X36.here hx rfl (hb hby d3_65) rfl k) ?_
  have hc66 : ¬ ((wc + (1 : Int32)) < (6 : Int32)) := hkt
  refine Wk.go (A' := T36.setTop (mkF m 71 #[rv ob, iv bx, jv lim, .second] [])) (fun t k => XS.icmpYes X36.here hx rfl (pc0 := 66) (pc' := 71) rfl (hb hby d3_66) rfl (flt hc66).2.1 (by decide) (by decide) k) ?_
  refine Wk.go (A' := T36.setTop (mkF m 72 #[rv ob, iv bx, jv lim, .second] [(.ref ob)])) (fun t k => XS.aloadN X36.here hx rfl (hb hby d3_71) rfl rfl k) ?_
  refine Wk.go (A' := T36.setTop (mkF m 73 #[rv ob, iv bx, jv lim, .second] [(.int (0 : Int32)), (.ref ob)])) (fun t k => XS.iconst X36.here hx rfl (hb hby d3_72) k) ?_
  obtain ⟨T37, h37, X37, e37, W37, st37⟩ := putF X36 hx hZ hown (host := "") (Or.inl (tw21 hw)) Via.refl e36 f22 f18 (Or.inl (tw22 hw)) (tw3 hw) (ty := .int) (by decide) rfl rfl (g := (mkF m 73 #[rv ob, iv bx, jv lim, .second] [(.int (0 : Int32)), (.ref ob)])) rfl rfl (hb hby d3_73)
  have f38 := f18.wr W37
  have f39 := f19.other W37 (Ne.symm hne)
  have f40 := f20.other W37 (Or.inr (sn_100 hw))
  have f41 := f21.other W37 (Or.inr (sn_101 hw))
  have f42 := f22.same W37
  have f43 := f23.other W37 (Or.inr (sn_102 hw))
  have f44 := f24.other W37 (Or.inr (sn_103 hw))
  have f45 := f25.other W37 (Or.inr (sn_104 hw))
  have f46 := f26.other W37 (Or.inr (sn_105 hw))
  have f47 := f27.other W37 (Or.inr (sn_106 hw))
  have f48 := f28.other W37 (Or.inr (sn_107 hw))
  have f49 := f29.other W37 (Or.inr (sn_108 hw))
  have f50 := f30.other W37 (Or.inr (sn_109 hw))
  have Zp37 : n0 ≤ h37.size := Nat.le_trans Zp17 (Nat.le_of_eq W37.size.symm)
  have K37 := K17.wr W37 (Or.inl (List.mem_of_getElem? (i := 0) rfl))
  have N37 := Fr.snoc X37 N35 g_ob
  refine Wk.go (A' := T37.setTop (mkF m 76 #[rv ob, iv bx, jv lim, .second] [])) (fun t k => st37 t k) ?_
  refine Wk.go (A' := T37.setTop (mkF m 77 #[rv ob, iv bx, jv lim, .second] [(.int (1 : Int32))])) (fun t k => XS.iconst X37.here hx rfl (hb hby d3_76) k) ?_
  refine own_fin (Qv := Q3ln Z ob bx lim ba fB wlen wc h0 n0) (v := some (.int (1 : Int32))) X37 hlk (fun h => by rw [Bd.returns] at h; cases h) (fun fs hr => retN X37 hx (t := .boolean) Bd.returns (by simp) (hb hby d3_77) hr) ?_ (by decide) (by decide)
  show Q3ln Z ob bx lim ba fB wlen wc h0 n0 _ T37.heap _
  rw [e37]
  have fin := f39
  rw [hf2] at fin
  exact ⟨rfl, N37, K37, f38, f40, f41, f42, f43, f44, f45, f46, f47, f48, f49, f50, fin⟩
theorem ef_3kw (m : MethodId) (x0 : Addr) (x1 : Int32) (x2 : Int64) : entryFrame m #[(.ref x0), (.int x1), (.long x2)] 4 = mkF m 0 #[rv x0, iv x1, jv x2, .second] [] := by first | (simp [entryFrame, mkF, argsToLocals, Value.category]; done) | rfl
def Q3kw (Z : State) (ob : Addr) (bx : Int32) (lim : Int64) (ba : Addr) (fB : Nat → Int32) (wlen : Int64) (wc : Int32) (h0 : Heap) (n0 : Nat) (v : Option Value) (h : Heap) (L : List Loc) : Prop := v = some (.int (0 : Int32)) ∧ Fr n0 L ∧ Keep h0 h [ob, ba] ∧ Exa Z h ob own_F ∧ Fld Z h ob own_F "bytes" "[B" (.ref ba) ∧ Fld Z h ob own_F "masked" "Z" (.int (1 : Int32)) ∧ Fld Z h ob own_F "count" "I" (.int (wc + (1 : Int32))) ∧ Fld Z h ob own_F "opcode" "I" (.int (2 : Int32)) ∧ Fld Z h ob own_F "last" "Z" (.int (1 : Int32)) ∧ Fld Z h ob own_F "open" "Z" (.int (0 : Int32)) ∧ Fld Z h ob own_F "length" "J" (.long wlen) ∧ Fld Z h ob own_F "maskAt" "I" (.int (4 : Int32)) ∧ Fld Z h ob own_F "messageOpcode" "I" (.int (2 : Int32)) ∧ Fld Z h ob own_F "messageBytes" "J" (.long (0 : Int64)) ∧ Fld Z h ob own_F "dataLength" "J" (.long wlen) ∧ BA Z h ba 14 (own_upd fB (wc).toNatClampNeg (bx).toInt8.toInt32)
set_option maxRecDepth 65536 in
set_option maxHeartbeats 40000000 in
theorem rm3kw (l : Launch) (Z : State) (a0 : Array Value) (hw : ∀ d ∈ tables_1, d.before a0 Z = true) (ws : List Jvm.Cond) (ob : Addr) (bx : Int32) (lim : Int64) (ba : Addr) (fB : Nat → Int32) (wlen : Int64) (wc : Int32) (h0 : Heap) (n0 : Nat) (Z0 : n0 ≤ h0.size) (E_ob : Exa Z h0 ob own_F) (F_bytes : Fld Z h0 ob own_F "bytes" "[B" (.ref ba)) (F_masked : Fld Z h0 ob own_F "masked" "Z" (.int (1 : Int32))) (F_count : Fld Z h0 ob own_F "count" "I" (.int wc)) (F_opcode : Fld Z h0 ob own_F "opcode" "I" (.int (2 : Int32))) (F_last : Fld Z h0 ob own_F "last" "Z" (.int (1 : Int32))) (F_open : Fld Z h0 ob own_F "open" "Z" (.int (0 : Int32))) (F_length : Fld Z h0 ob own_F "length" "J" (.long wlen)) (F_maskAt : Fld Z h0 ob own_F "maskAt" "I" (.int (4 : Int32))) (F_messageOpcode : Fld Z h0 ob own_F "messageOpcode" "I" (.int (2 : Int32))) (F_messageBytes : Fld Z h0 ob own_F "messageBytes" "J" (.long (0 : Int64))) (F_dataLength : Fld Z h0 ob own_F "dataLength" "J" (.long wlen)) (VB : BA Z h0 ba 14 fB) (hne : ob ≠ ba) (g_ob : n0 ≤ ob) (g_ba : n0 ≤ ba) (hl : lim = (9223372036854775807 : Int64)) (hbw : (fB 1 &&& (127 : Int32)) = (126 : Int32)) (hidx : 0 ≤ wc.toInt ∧ wc.toInt < ((14 : Nat) : Int)) (hi1 : 1 ≠ (wc).toNatClampNeg) (hk1 : ¬ ((wc + (1 : Int32)) < (2 : Int32))) (hk2 : ¬ ((wc + (1 : Int32)) = (2 : Int32))) (hkl : ¬ ((wc + (1 : Int32)) = (4 : Int32))) (hkt : ((wc + (1 : Int32)) < (8 : Int32))) :
    MetFree l (⟨own_F, "take", "(BJ)Z"⟩ : MethodName) (head1 (Jvm.Cond.code (⟨own_F, "take", "(BJ)Z"⟩ : MethodName) prog_100_method_2_code 4 (some .boolean) :: ws) ({ frames := 1, cells := 0, slots := 0, locals := 14 } : Room)) (fun a U => a = #[(.ref ob), (.int bx), (.long lim)] ∧ Z.Warmed39 U.vm ∧ U.heap = h0) (fun _ _ _ _ _ => True) (fun _ U o U' => ∃ v L, o = .returned v ∧ Q3kw Z ob bx lim ba fB wlen wc h0 n0 v U'.heap L ∧ FrameEnd U o U' L ({ frames := 1, cells := 0, slots := 0, locals := 14 } : Room).cells ({ frames := 1, cells := 0, slots := 0, locals := 14 } : Room).slots) := by
  refine MetFree.of_bodySF (plainFor_of_name pn_0) hisR ?_
  intro p e s m args below meth c s₁ Bd hml0 hP hK
  obtain ⟨rfl, hZ, hh⟩ := hP
  have hx := Bd.exec
  have hby := Bd.bytes
  have hml : c.maxLocals = 4 := hml0
  have hown : s.vm.findClass own_F = some m.cls := findClass_of_methodNamed Bd.named
  have hnm := (name_of_methodNamed Bd.named Bd.method).1
  have X0 : Stand p l e ({ frames := 1, cells := 0, slots := 0, locals := 14 } : Room) s m #[(.ref ob), (.int bx), (.long lim)] below meth c s₁ [] 0 0 := Stand.of_body Bd
  have e0 : s₁.heap = h0 := by rw [← hh, Bd.state]; rfl
  have N0 := Fr.nil n0
  have hlk : meth.locks = false := BodyLoose.notSynchronized Bd
  suffices hwk : Wk p.tables e below (s₁.setTop (mkF m 0 #[rv ob, iv bx, jv lim, .second] [])) (fun U o => U.status = .running ∧ Ended U below o ∧ ∃ v L, o = .returned v ∧ Q3kw Z ob bx lim ba fB wlen wc h0 n0 v U.heap L ∧ FrameEnd s o U L 0 0) by
    obtain ⟨U, o, k1, k2⟩ := hwk
    exact ⟨U, o, castTop (ef_3kw m ob bx lim) k1, k2⟩
  have K0 := Keep.refl h0 [ob, ba]
  refine Wk.go (A' := s₁.setTop (mkF m 1 #[rv ob, iv bx, jv lim, .second] [(.ref ob)])) (fun t k => XS.aloadN X0.here hx rfl (hb hby d3_0) rfl rfl k) ?_
  obtain ⟨T1, X1, e1, st1⟩ := getF X0 hx hZ hown (host := "") (Or.inl (tw11 hw)) Via.refl e0 F_bytes (g := (mkF m 1 #[rv ob, iv bx, jv lim, .second] [(.ref ob)])) rfl rfl (hb hby d3_1)
  refine Wk.go (A' := T1.setTop (mkF m 4 #[rv ob, iv bx, jv lim, .second] [(.ref ba)])) (fun t k => st1 t k) ?_
  refine Wk.go (A' := T1.setTop (mkF m 5 #[rv ob, iv bx, jv lim, .second] [(.ref ob), (.ref ba)])) (fun t k => XS.aloadN X1.here hx rfl (hb hby d3_4) rfl rfl k) ?_
  refine Wk.go (A' := T1.setTop (mkF m 6 #[rv ob, iv bx, jv lim, .second] [(.ref ob), (.ref ob), (.ref ba)])) (fun t k => XS.dup X1.here hx rfl (hb hby d3_5) rfl rfl k) ?_
  obtain ⟨T2, X2, e2, st2⟩ := getF X1 hx hZ hown (host := "") (Or.inl (tw21 hw)) Via.refl e1 F_count (g := (mkF m 6 #[rv ob, iv bx, jv lim, .second] [(.ref ob), (.ref ob), (.ref ba)])) rfl rfl (hb hby d3_6)
  refine Wk.go (A' := T2.setTop (mkF m 9 #[rv ob, iv bx, jv lim, .second] [(.int wc), (.ref ob), (.ref ba)])) (fun t k => st2 t k) ?_
  refine Wk.go (A' := T2.setTop (mkF m 10 #[rv ob, iv bx, jv lim, .second] [(.int wc), (.ref ob), (.int wc), (.ref ba)])) (fun t k => XS.dupX1 X2.here hx rfl (hb hby d3_9) rfl rfl rfl k) ?_
  refine Wk.go (A' := T2.setTop (mkF m 11 #[rv ob, iv bx, jv lim, .second] [(.int (1 : Int32)), (.int wc), (.ref ob), (.int wc), (.ref ba)])) (fun t k => XS.iconst X2.here hx rfl (hb hby d3_10) k) ?_
  refine Wk.go (A' := T2.setTop (mkF m 12 #[rv ob, iv bx, jv lim, .second] [(.int (wc + (1 : Int32))), (.ref ob), (.int wc), (.ref ba)])) (fun t k => XS.iadd X2.here hx rfl (hb hby d3_11) rfl k) ?_
  obtain ⟨T3, h3, X3, e3, W3, st3⟩ := putF X2 hx hZ hown (host := "") (Or.inl (tw21 hw)) Via.refl e2 F_count E_ob (Or.inl (tw22 hw)) (tw3 hw) (ty := .int) (by decide) rfl rfl (g := (mkF m 12 #[rv ob, iv bx, jv lim, .second] [(.int (wc + (1 : Int32))), (.ref ob), (.int wc), (.ref ba)])) rfl rfl (hb hby d3_12)
  have f4 := E_ob.wr W3
  have f5 := VB.other W3 (Ne.symm hne)
  have f6 := F_bytes.other W3 (Or.inr (sn_100 hw))
  have f7 := F_masked.other W3 (Or.inr (sn_101 hw))
  have f8 := F_count.same W3
  have f9 := F_opcode.other W3 (Or.inr (sn_102 hw))
  have f10 := F_last.other W3 (Or.inr (sn_103 hw))
  have f11 := F_open.other W3 (Or.inr (sn_104 hw))
  have f12 := F_length.other W3 (Or.inr (sn_105 hw))
  have f13 := F_maskAt.other W3 (Or.inr (sn_106 hw))
  have f14 := F_messageOpcode.other W3 (Or.inr (sn_107 hw))
  have f15 := F_messageBytes.other W3 (Or.inr (sn_108 hw))
  have f16 := F_dataLength.other W3 (Or.inr (sn_109 hw))
  have Zp3 : n0 ≤ h3.size := Nat.le_trans Z0 (Nat.le_of_eq W3.size.symm)
  have K3 := K0.wr W3 (Or.inl (List.mem_of_getElem? (i := 0) rfl))
  have N3 := Fr.snoc X3 N0 g_ob
  refine Wk.go (A' := T3.setTop (mkF m 15 #[rv ob, iv bx, jv lim, .second] [(.int wc), (.ref ba)])) (fun t k => st3 t k) ?_
  refine Wk.go (A' := T3.setTop (mkF m 16 #[rv ob, iv bx, jv lim, .second] [(.int bx), (.int wc), (.ref ba)])) (fun t k => XS.iloadN X3.here hx rfl (hb hby d3_15) rfl k) ?_
  obtain ⟨T17, h17, X17, e17, W17, B17, st17⟩ := own_stB X3 hx hZ e3 f5 (j := wc) hidx (g := (mkF m 16 #[rv ob, iv bx, jv lim, .second] [(.int bx), (.int wc), (.ref ba)])) rfl rfl (hb hby d3_16)
  have V17 : BA Z h17 ba 14 (own_upd fB (wc).toNatClampNeg (bx).toInt8.toInt32) := B17
  obtain ⟨f2, hf2⟩ : ∃ z, z = (own_upd fB (wc).toNatClampNeg (bx).toInt8.toInt32) := ⟨_, rfl⟩
  rw [← hf2] at V17
  have f18 := f4.wr W17
  have f19 := V17
  have f20 := f6.other W17 (Or.inl hne)
  have f21 := f7.other W17 (Or.inl hne)
  have f22 := f8.other W17 (Or.inl hne)
  have f23 := f9.other W17 (Or.inl hne)
  have f24 := f10.other W17 (Or.inl hne)
  have f25 := f11.other W17 (Or.inl hne)
  have f26 := f12.other W17 (Or.inl hne)
  have f27 := f13.other W17 (Or.inl hne)
  have f28 := f14.other W17 (Or.inl hne)
  have f29 := f15.other W17 (Or.inl hne)
  have f30 := f16.other W17 (Or.inl hne)
  have Zp17 : n0 ≤ h17.size := Nat.le_trans Zp3 (Nat.le_of_eq W17.size.symm)
  have K17 := K3.wr W17 (Or.inl (List.mem_of_getElem? (i := 1) rfl))
  have N17 := Fr.snoc X17 N3 g_ba
  refine Wk.go (A' := T17.setTop (mkF m 17 #[rv ob, iv bx, jv lim, .second] [])) (fun t k => st17 t k) ?_
  have c1 : f2 1 = fB 1 := by rw [hf2, own_upd_ne _ _ hi1]
  have cw : (f2 1 &&& (127 : Int32)) = (126 : Int32) := by rw [c1]; exact hbw
  refine Wk.go (A' := T17.setTop (mkF m 18 #[rv ob, iv bx, jv lim, .second] [(.ref ob)])) (fun t k => XS.aloadN X17.here hx rfl (hb hby d3_17) rfl rfl k) ?_
  obtain ⟨T31, X31, e31, st31⟩ := getF X17 hx hZ hown (host := "") (Or.inl (tw21 hw)) Via.refl e17 f22 (g := (mkF m 18 #[rv ob, iv bx, jv lim, .second] [(.ref ob)])) rfl rfl (hb hby d3_18)
  refine Wk.go (A' := T31.setTop (mkF m 21 #[rv ob, iv bx, jv lim, .second] [(.int (wc + (1 : Int32)))])) (fun t k => st31 t k) ?_
  refine Wk.go (A' := T31.setTop (mkF m 22 #[rv ob, iv bx, jv lim, .second] [(.int (2 : Int32)), (.int (wc + (1 : Int32)))])) (fun t k => XS.iconst X31.here hx rfl (hb hby d3_21) k) ?_
  have hc22 : ¬ ((wc + (1 : Int32)) = (2 : Int32)) := hk2
  refine Wk.go (A' := T31.setTop (mkF m 29 #[rv ob, iv bx, jv lim, .second] [])) (fun t k => XS.icmpYes X31.here hx rfl (pc0 := 22) (pc' := 29) rfl (hb hby d3_22) rfl (feq hc22).2 (by decide) (by decide) k) ?_
  refine Wk.go (A' := T31.setTop (mkF m 30 #[rv ob, iv bx, jv lim, .second] [(.ref ob)])) (fun t k => XS.aloadN X31.here hx rfl (hb hby d3_29) rfl rfl k) ?_
  obtain ⟨T32, X32, e32, st32⟩ := getF X31 hx hZ hown (host := "") (Or.inl (tw21 hw)) Via.refl e31 f22 (g := (mkF m 30 #[rv ob, iv bx, jv lim, .second] [(.ref ob)])) rfl rfl (hb hby d3_30)
  refine Wk.go (A' := T32.setTop (mkF m 33 #[rv ob, iv bx, jv lim, .second] [(.int (wc + (1 : Int32)))])) (fun t k => st32 t k) ?_
  refine Wk.go (A' := T32.setTop (mkF m 34 #[rv ob, iv bx, jv lim, .second] [(.ref ob), (.int (wc + (1 : Int32)))])) (fun t k => XS.aloadN X32.here hx rfl (hb hby d3_33) rfl rfl k) ?_
  obtain ⟨cq33, q33, q33'⟩ := f18.cell
  obtain ⟨_, _, ⟨T33, L33, k33, n33⟩, -, X33, ⟨Lc33, hQ33, l33, y33, z33⟩, st33⟩ := X32.privateBack hx (y := (⟨own_F, "lengthEnd", "()I"⟩ : MethodName)) hown (mvT hZ (tw23 hw)) (mvT hZ (tw24 hw)) (own_sel (mvT hZ (tw3 hw)) (Cond.privateMethod_at (mvP hZ (tw25 hw) (args := #[]))) (mvT hZ (tw24 hw)) (by decide)) (Cond.privateMethod_at (mvP hZ (tw25 hw) (args := #[]))) (mvT hZ (tw26 hw)) (by decide) (backOf (W := 1) (rm4 l Z a0 hw [] ob ba f2 (wc + (1 : Int32)) h17 n0 Zp17 f20 f22 f19) hZ (tw26 hw) (tw4 hw) (by decide) (by decide)) (g := (mkF m 34 #[rv ob, iv bx, jv lim, .second] [(.ref ob), (.int (wc + (1 : Int32)))])) rfl (by rw [hml]; rfl) (Steps.refl _) (a := ob) (by rw [e32]; exact q33) q33' (argsL := []) (rest := [(.int (wc + (1 : Int32)))]) (lenOf pd_1 rfl) rfl (by show 2 * 0 + _ ≤ _; exact Nat.le_of_eq rfl) (hb hby d3_34) (fun _ _ => ⟨rfl, e32, (by decide : 0 + 0 ≤ _), (by decide : 0 + 0 ≤ _)⟩)
  dsimp only [Pt.U, Pt.locs, Pt.cells, Pt.slots] at X33 l33 y33 z33 st33 hQ33
  subst l33 y33 z33
  obtain ⟨rfl, N33q, hE33⟩ := hQ33
  have N33 := Fr.app N17 N33q
  refine Wk.go (A' := T33.setTop (mkF m 37 #[rv ob, iv bx, jv lim, .second] [(.int (f_lend ob ba f2 (wc + (1 : Int32)))), (.int (wc + (1 : Int32)))])) (fun t k => st33.trans k) ?_
  rw [show (f_lend ob ba f2 (wc + (1 : Int32))) = (4 : Int32) from own_l4 _ _ _ hk1 cw]
  have hc37 : ¬ ((wc + (1 : Int32)) = (4 : Int32)) := hkl
  refine Wk.go (A' := T33.setTop (mkF m 45 #[rv ob, iv bx, jv lim, .second] [])) (fun t k => XS.icmpYes X33.here hx rfl (pc0 := 37) (pc' := 45) rfl (hb hby d3_37) rfl (feq hc37).2 (by decide) (by decide) k) ?_
  refine Wk.go (A' := T33.setTop (mkF m 46 #[rv ob, iv bx, jv lim, .second] [(.ref ob)])) (fun t k => XS.aloadN X33.here hx rfl (hb hby d3_45) rfl rfl k) ?_
  obtain ⟨T34, X34, e34, st34⟩ := getF X33 hx hZ hown (host := "") (Or.inl (tw21 hw)) Via.refl (hE33) f22 (g := (mkF m 46 #[rv ob, iv bx, jv lim, .second] [(.ref ob)])) rfl rfl (hb hby d3_46)
  refine Wk.go (A' := T34.setTop (mkF m 49 #[rv ob, iv bx, jv lim, .second] [(.int (wc + (1 : Int32)))])) (fun t k => st34 t k) ?_
  refine Wk.go (A' := T34.setTop (mkF m 50 #[rv ob, iv bx, jv lim, .second] [(.ref ob), (.int (wc + (1 : Int32)))])) (fun t k => XS.aloadN X34.here hx rfl (hb hby d3_49) rfl rfl k) ?_
  obtain ⟨cq35, q35, q35'⟩ := f18.cell
  obtain ⟨_, _, ⟨T35, L35, k35, n35⟩, -, X35, ⟨Lc35, hQ35, l35, y35, z35⟩, st35⟩ := X34.privateBack hx (y := (⟨own_F, "lengthEnd", "()I"⟩ : MethodName)) hown (mvT hZ (tw23 hw)) (mvT hZ (tw24 hw)) (own_sel (mvT hZ (tw3 hw)) (Cond.privateMethod_at (mvP hZ (tw25 hw) (args := #[]))) (mvT hZ (tw24 hw)) (by decide)) (Cond.privateMethod_at (mvP hZ (tw25 hw) (args := #[]))) (mvT hZ (tw26 hw)) (by decide) (backOf (W := 1) (rm4 l Z a0 hw [] ob ba f2 (wc + (1 : Int32)) h17 n0 Zp17 f20 f22 f19) hZ (tw26 hw) (tw4 hw) (by decide) (by decide)) (g := (mkF m 50 #[rv ob, iv bx, jv lim, .second] [(.ref ob), (.int (wc + (1 : Int32)))])) rfl (by rw [hml]; rfl) (Steps.refl _) (a := ob) (by rw [e34]; exact q35) q35' (argsL := []) (rest := [(.int (wc + (1 : Int32)))]) (lenOf pd_1 rfl) rfl (by show 2 * 0 + _ ≤ _; exact Nat.le_of_eq rfl) (hb hby d3_50) (fun _ _ => ⟨rfl, e34, (by decide : 0 + 0 ≤ _), (by decide : 0 + 0 ≤ _)⟩)
  dsimp only [Pt.U, Pt.locs, Pt.cells, Pt.slots] at X35 l35 y35 z35 st35 hQ35
  subst l35 y35 z35
  obtain ⟨rfl, N35q, hE35⟩ := hQ35
  have N35 := Fr.app N33 N35q
  refine Wk.go (A' := T35.setTop (mkF m 53 #[rv ob, iv bx, jv lim, .second] [(.int (f_lend ob ba f2 (wc + (1 : Int32)))), (.int (wc + (1 : Int32)))])) (fun t k => st35.trans k) ?_
  rw [show (f_lend ob ba f2 (wc + (1 : Int32))) = (4 : Int32) from own_l4 _ _ _ hk1 cw]
  refine Wk.go (A' := T35.setTop (mkF m 54 #[rv ob, iv bx, jv lim, .second] [(.ref ob), (.int (4 : Int32)), (.int (wc + (1 : Int32)))])) (fun t k => XS.aloadN X35.here hx rfl (hb hby d3_53) rfl rfl k) ?_
  obtain ⟨T36, X36, e36, st36⟩ := getF X35 hx hZ hown (host := "") (Or.inl (tw13 hw)) Via.refl (hE35) f21 (g := (mkF m 54 #[rv ob, iv bx, jv lim, .second] [(.ref ob), (.int (4 : Int32)), (.int (wc + (1 : Int32)))])) rfl rfl (hb hby d3_54)
  refine Wk.go (A' := T36.setTop (mkF m 57 #[rv ob, iv bx, jv lim, .second] [(.int (1 : Int32)), (.int (4 : Int32)), (.int (wc + (1 : Int32)))])) (fun t k => st36 t k) ?_
  have hc57 : ¬ ((1 : Int32) = (0 : Int32)) := by decide
  refine Wk.go (A' := T36.setTop (mkF m 60 #[rv ob, iv bx, jv lim, .second] [(.int (4 : Int32)), (.int (wc + (1 : Int32)))])) (fun t k => XS.ifNo X36.here hx rfl (hb hby d3_57) rfl ((if0 _ _).trans (feq hc57).1) k) ?_
  refine Wk.go (A' := T36.setTop (mkF m 61 #[rv ob, iv bx, jv lim, .second] [(.int (4 : Int32)), (.int (4 : Int32)), (.int (wc + (1 : Int32)))])) (fun t k => XS.iconst X36.here hx rfl (hb hby d3_60) k) ?_
  refine Wk.go (A' := T36.setTop (mkF m 65 #[rv ob, iv bx, jv lim, .second] [(.int (4 : Int32)), (.int (4 : Int32)), (.int (wc + (1 : Int32)))])) (fun t k => XS.goto X36.here hx rfl (pc0 := 61) (pc' := 65) rfl (hb hby d3_61) (by decide) (by decide) k) ?_
  refine Wk.go (A' := T36.setTop (mkF m 66 #[rv ob, iv bx, jv lim, .second] [(.int (8 : Int32)), (.int (wc + (1 : Int32)))])) (fun t k => XS.iadd X36.here hx rfl (hb hby d3_65) rfl k) ?_
  have hc66 : (wc + (1 : Int32)) < (8 : Int32) := hkt
  refine Wk.go (A' := T36.setTop (mkF m 69 #[rv ob, iv bx, jv lim, .second] [])) (fun t k => XS.icmpNo X36.here hx rfl (hb hby d3_66) rfl (tlt hc66).2.1 k) ?_
  refine Wk.go (A' := T36.setTop (mkF m 70 #[rv ob, iv bx, jv lim, .second] [(.int (0 : Int32))])) (fun t k => XS.iconst X36.here hx rfl (hb hby d3_69) k) ?_
  refine own_fin (Qv := Q3kw Z ob bx lim ba fB wlen wc h0 n0) (v := some (.int (0 : Int32))) X36 hlk (fun h => by rw [Bd.returns] at h; cases h) (fun fs hr => retN X36 hx (t := .boolean) Bd.returns (by simp) (hb hby d3_70) hr) ?_ (by decide) (by decide)
  show Q3kw Z ob bx lim ba fB wlen wc h0 n0 _ T36.heap _
  rw [e36]
  have fin := f19
  rw [hf2] at fin
  exact ⟨rfl, N35, K17, f18, f20, f21, f22, f23, f24, f25, f26, f27, f28, f29, f30, fin⟩
theorem ef_3lw (m : MethodId) (x0 : Addr) (x1 : Int32) (x2 : Int64) : entryFrame m #[(.ref x0), (.int x1), (.long x2)] 4 = mkF m 0 #[rv x0, iv x1, jv x2, .second] [] := by first | (simp [entryFrame, mkF, argsToLocals, Value.category]; done) | rfl
def Q3lw (Z : State) (ob : Addr) (bx : Int32) (lim : Int64) (ba : Addr) (fB : Nat → Int32) (wlen : Int64) (wc : Int32) (h0 : Heap) (n0 : Nat) (v : Option Value) (h : Heap) (L : List Loc) : Prop := v = some (.int (1 : Int32)) ∧ Fr n0 L ∧ Keep h0 h [ob, ba] ∧ Exa Z h ob own_F ∧ Fld Z h ob own_F "bytes" "[B" (.ref ba) ∧ Fld Z h ob own_F "masked" "Z" (.int (1 : Int32)) ∧ Fld Z h ob own_F "count" "I" (.int (0 : Int32)) ∧ Fld Z h ob own_F "opcode" "I" (.int (2 : Int32)) ∧ Fld Z h ob own_F "last" "Z" (.int (1 : Int32)) ∧ Fld Z h ob own_F "open" "Z" (.int (0 : Int32)) ∧ Fld Z h ob own_F "length" "J" (.long wlen) ∧ Fld Z h ob own_F "maskAt" "I" (.int (4 : Int32)) ∧ Fld Z h ob own_F "messageOpcode" "I" (.int (2 : Int32)) ∧ Fld Z h ob own_F "messageBytes" "J" (.long (0 : Int64)) ∧ Fld Z h ob own_F "dataLength" "J" (.long wlen) ∧ BA Z h ba 14 (own_upd fB (wc).toNatClampNeg (bx).toInt8.toInt32)
set_option maxRecDepth 65536 in
set_option maxHeartbeats 40000000 in
theorem rm3lw (l : Launch) (Z : State) (a0 : Array Value) (hw : ∀ d ∈ tables_1, d.before a0 Z = true) (ws : List Jvm.Cond) (ob : Addr) (bx : Int32) (lim : Int64) (ba : Addr) (fB : Nat → Int32) (wlen : Int64) (wc : Int32) (h0 : Heap) (n0 : Nat) (Z0 : n0 ≤ h0.size) (E_ob : Exa Z h0 ob own_F) (F_bytes : Fld Z h0 ob own_F "bytes" "[B" (.ref ba)) (F_masked : Fld Z h0 ob own_F "masked" "Z" (.int (1 : Int32))) (F_count : Fld Z h0 ob own_F "count" "I" (.int wc)) (F_opcode : Fld Z h0 ob own_F "opcode" "I" (.int (2 : Int32))) (F_last : Fld Z h0 ob own_F "last" "Z" (.int (1 : Int32))) (F_open : Fld Z h0 ob own_F "open" "Z" (.int (0 : Int32))) (F_length : Fld Z h0 ob own_F "length" "J" (.long wlen)) (F_maskAt : Fld Z h0 ob own_F "maskAt" "I" (.int (4 : Int32))) (F_messageOpcode : Fld Z h0 ob own_F "messageOpcode" "I" (.int (2 : Int32))) (F_messageBytes : Fld Z h0 ob own_F "messageBytes" "J" (.long (0 : Int64))) (F_dataLength : Fld Z h0 ob own_F "dataLength" "J" (.long wlen)) (VB : BA Z h0 ba 14 fB) (hne : ob ≠ ba) (g_ob : n0 ≤ ob) (g_ba : n0 ≤ ba) (hl : lim = (9223372036854775807 : Int64)) (hbw : (fB 1 &&& (127 : Int32)) = (126 : Int32)) (hidx : 0 ≤ wc.toInt ∧ wc.toInt < ((14 : Nat) : Int)) (hi1 : 1 ≠ (wc).toNatClampNeg) (hk1 : ¬ ((wc + (1 : Int32)) < (2 : Int32))) (hk2 : ¬ ((wc + (1 : Int32)) = (2 : Int32))) (hkl : ¬ ((wc + (1 : Int32)) = (4 : Int32))) (hkt : ¬ ((wc + (1 : Int32)) < (8 : Int32))) :
    MetFree l (⟨own_F, "take", "(BJ)Z"⟩ : MethodName) (head1 (Jvm.Cond.code (⟨own_F, "take", "(BJ)Z"⟩ : MethodName) prog_100_method_2_code 4 (some .boolean) :: ws) ({ frames := 1, cells := 0, slots := 0, locals := 14 } : Room)) (fun a U => a = #[(.ref ob), (.int bx), (.long lim)] ∧ Z.Warmed39 U.vm ∧ U.heap = h0) (fun _ _ _ _ _ => True) (fun _ U o U' => ∃ v L, o = .returned v ∧ Q3lw Z ob bx lim ba fB wlen wc h0 n0 v U'.heap L ∧ FrameEnd U o U' L ({ frames := 1, cells := 0, slots := 0, locals := 14 } : Room).cells ({ frames := 1, cells := 0, slots := 0, locals := 14 } : Room).slots) := by
  refine MetFree.of_bodySF (plainFor_of_name pn_0) hisR ?_
  intro p e s m args below meth c s₁ Bd hml0 hP hK
  obtain ⟨rfl, hZ, hh⟩ := hP
  have hx := Bd.exec
  have hby := Bd.bytes
  have hml : c.maxLocals = 4 := hml0
  have hown : s.vm.findClass own_F = some m.cls := findClass_of_methodNamed Bd.named
  have hnm := (name_of_methodNamed Bd.named Bd.method).1
  have X0 : Stand p l e ({ frames := 1, cells := 0, slots := 0, locals := 14 } : Room) s m #[(.ref ob), (.int bx), (.long lim)] below meth c s₁ [] 0 0 := Stand.of_body Bd
  have e0 : s₁.heap = h0 := by rw [← hh, Bd.state]; rfl
  have N0 := Fr.nil n0
  have hlk : meth.locks = false := BodyLoose.notSynchronized Bd
  suffices hwk : Wk p.tables e below (s₁.setTop (mkF m 0 #[rv ob, iv bx, jv lim, .second] [])) (fun U o => U.status = .running ∧ Ended U below o ∧ ∃ v L, o = .returned v ∧ Q3lw Z ob bx lim ba fB wlen wc h0 n0 v U.heap L ∧ FrameEnd s o U L 0 0) by
    obtain ⟨U, o, k1, k2⟩ := hwk
    exact ⟨U, o, castTop (ef_3lw m ob bx lim) k1, k2⟩
  have K0 := Keep.refl h0 [ob, ba]
  refine Wk.go (A' := s₁.setTop (mkF m 1 #[rv ob, iv bx, jv lim, .second] [(.ref ob)])) (fun t k => XS.aloadN X0.here hx rfl (hb hby d3_0) rfl rfl k) ?_
  obtain ⟨T1, X1, e1, st1⟩ := getF X0 hx hZ hown (host := "") (Or.inl (tw11 hw)) Via.refl e0 F_bytes (g := (mkF m 1 #[rv ob, iv bx, jv lim, .second] [(.ref ob)])) rfl rfl (hb hby d3_1)
  refine Wk.go (A' := T1.setTop (mkF m 4 #[rv ob, iv bx, jv lim, .second] [(.ref ba)])) (fun t k => st1 t k) ?_
  refine Wk.go (A' := T1.setTop (mkF m 5 #[rv ob, iv bx, jv lim, .second] [(.ref ob), (.ref ba)])) (fun t k => XS.aloadN X1.here hx rfl (hb hby d3_4) rfl rfl k) ?_
  refine Wk.go (A' := T1.setTop (mkF m 6 #[rv ob, iv bx, jv lim, .second] [(.ref ob), (.ref ob), (.ref ba)])) (fun t k => XS.dup X1.here hx rfl (hb hby d3_5) rfl rfl k) ?_
  obtain ⟨T2, X2, e2, st2⟩ := getF X1 hx hZ hown (host := "") (Or.inl (tw21 hw)) Via.refl e1 F_count (g := (mkF m 6 #[rv ob, iv bx, jv lim, .second] [(.ref ob), (.ref ob), (.ref ba)])) rfl rfl (hb hby d3_6)
  refine Wk.go (A' := T2.setTop (mkF m 9 #[rv ob, iv bx, jv lim, .second] [(.int wc), (.ref ob), (.ref ba)])) (fun t k => st2 t k) ?_
  refine Wk.go (A' := T2.setTop (mkF m 10 #[rv ob, iv bx, jv lim, .second] [(.int wc), (.ref ob), (.int wc), (.ref ba)])) (fun t k => XS.dupX1 X2.here hx rfl (hb hby d3_9) rfl rfl rfl k) ?_
  refine Wk.go (A' := T2.setTop (mkF m 11 #[rv ob, iv bx, jv lim, .second] [(.int (1 : Int32)), (.int wc), (.ref ob), (.int wc), (.ref ba)])) (fun t k => XS.iconst X2.here hx rfl (hb hby d3_10) k) ?_
  refine Wk.go (A' := T2.setTop (mkF m 12 #[rv ob, iv bx, jv lim, .second] [(.int (wc + (1 : Int32))), (.ref ob), (.int wc), (.ref ba)])) (fun t k => XS.iadd X2.here hx rfl (hb hby d3_11) rfl k) ?_
  obtain ⟨T3, h3, X3, e3, W3, st3⟩ := putF X2 hx hZ hown (host := "") (Or.inl (tw21 hw)) Via.refl e2 F_count E_ob (Or.inl (tw22 hw)) (tw3 hw) (ty := .int) (by decide) rfl rfl (g := (mkF m 12 #[rv ob, iv bx, jv lim, .second] [(.int (wc + (1 : Int32))), (.ref ob), (.int wc), (.ref ba)])) rfl rfl (hb hby d3_12)
  have f4 := E_ob.wr W3
  have f5 := VB.other W3 (Ne.symm hne)
  have f6 := F_bytes.other W3 (Or.inr (sn_100 hw))
  have f7 := F_masked.other W3 (Or.inr (sn_101 hw))
  have f8 := F_count.same W3
  have f9 := F_opcode.other W3 (Or.inr (sn_102 hw))
  have f10 := F_last.other W3 (Or.inr (sn_103 hw))
  have f11 := F_open.other W3 (Or.inr (sn_104 hw))
  have f12 := F_length.other W3 (Or.inr (sn_105 hw))
  have f13 := F_maskAt.other W3 (Or.inr (sn_106 hw))
  have f14 := F_messageOpcode.other W3 (Or.inr (sn_107 hw))
  have f15 := F_messageBytes.other W3 (Or.inr (sn_108 hw))
  have f16 := F_dataLength.other W3 (Or.inr (sn_109 hw))
  have Zp3 : n0 ≤ h3.size := Nat.le_trans Z0 (Nat.le_of_eq W3.size.symm)
  have K3 := K0.wr W3 (Or.inl (List.mem_of_getElem? (i := 0) rfl))
  have N3 := Fr.snoc X3 N0 g_ob
  refine Wk.go (A' := T3.setTop (mkF m 15 #[rv ob, iv bx, jv lim, .second] [(.int wc), (.ref ba)])) (fun t k => st3 t k) ?_
  refine Wk.go (A' := T3.setTop (mkF m 16 #[rv ob, iv bx, jv lim, .second] [(.int bx), (.int wc), (.ref ba)])) (fun t k => XS.iloadN X3.here hx rfl (hb hby d3_15) rfl k) ?_
  obtain ⟨T17, h17, X17, e17, W17, B17, st17⟩ := own_stB X3 hx hZ e3 f5 (j := wc) hidx (g := (mkF m 16 #[rv ob, iv bx, jv lim, .second] [(.int bx), (.int wc), (.ref ba)])) rfl rfl (hb hby d3_16)
  have V17 : BA Z h17 ba 14 (own_upd fB (wc).toNatClampNeg (bx).toInt8.toInt32) := B17
  obtain ⟨f2, hf2⟩ : ∃ z, z = (own_upd fB (wc).toNatClampNeg (bx).toInt8.toInt32) := ⟨_, rfl⟩
  rw [← hf2] at V17
  have f18 := f4.wr W17
  have f19 := V17
  have f20 := f6.other W17 (Or.inl hne)
  have f21 := f7.other W17 (Or.inl hne)
  have f22 := f8.other W17 (Or.inl hne)
  have f23 := f9.other W17 (Or.inl hne)
  have f24 := f10.other W17 (Or.inl hne)
  have f25 := f11.other W17 (Or.inl hne)
  have f26 := f12.other W17 (Or.inl hne)
  have f27 := f13.other W17 (Or.inl hne)
  have f28 := f14.other W17 (Or.inl hne)
  have f29 := f15.other W17 (Or.inl hne)
  have f30 := f16.other W17 (Or.inl hne)
  have Zp17 : n0 ≤ h17.size := Nat.le_trans Zp3 (Nat.le_of_eq W17.size.symm)
  have K17 := K3.wr W17 (Or.inl (List.mem_of_getElem? (i := 1) rfl))
  have N17 := Fr.snoc X17 N3 g_ba
  refine Wk.go (A' := T17.setTop (mkF m 17 #[rv ob, iv bx, jv lim, .second] [])) (fun t k => st17 t k) ?_
  have c1 : f2 1 = fB 1 := by rw [hf2, own_upd_ne _ _ hi1]
  have cw : (f2 1 &&& (127 : Int32)) = (126 : Int32) := by rw [c1]; exact hbw
  refine Wk.go (A' := T17.setTop (mkF m 18 #[rv ob, iv bx, jv lim, .second] [(.ref ob)])) (fun t k => XS.aloadN X17.here hx rfl (hb hby d3_17) rfl rfl k) ?_
  obtain ⟨T31, X31, e31, st31⟩ := getF X17 hx hZ hown (host := "") (Or.inl (tw21 hw)) Via.refl e17 f22 (g := (mkF m 18 #[rv ob, iv bx, jv lim, .second] [(.ref ob)])) rfl rfl (hb hby d3_18)
  refine Wk.go (A' := T31.setTop (mkF m 21 #[rv ob, iv bx, jv lim, .second] [(.int (wc + (1 : Int32)))])) (fun t k => st31 t k) ?_
  refine Wk.go (A' := T31.setTop (mkF m 22 #[rv ob, iv bx, jv lim, .second] [(.int (2 : Int32)), (.int (wc + (1 : Int32)))])) (fun t k => XS.iconst X31.here hx rfl (hb hby d3_21) k) ?_
  have hc22 : ¬ ((wc + (1 : Int32)) = (2 : Int32)) := hk2
  refine Wk.go (A' := T31.setTop (mkF m 29 #[rv ob, iv bx, jv lim, .second] [])) (fun t k => XS.icmpYes X31.here hx rfl (pc0 := 22) (pc' := 29) rfl (hb hby d3_22) rfl (feq hc22).2 (by decide) (by decide) k) ?_
  refine Wk.go (A' := T31.setTop (mkF m 30 #[rv ob, iv bx, jv lim, .second] [(.ref ob)])) (fun t k => XS.aloadN X31.here hx rfl (hb hby d3_29) rfl rfl k) ?_
  obtain ⟨T32, X32, e32, st32⟩ := getF X31 hx hZ hown (host := "") (Or.inl (tw21 hw)) Via.refl e31 f22 (g := (mkF m 30 #[rv ob, iv bx, jv lim, .second] [(.ref ob)])) rfl rfl (hb hby d3_30)
  refine Wk.go (A' := T32.setTop (mkF m 33 #[rv ob, iv bx, jv lim, .second] [(.int (wc + (1 : Int32)))])) (fun t k => st32 t k) ?_
  refine Wk.go (A' := T32.setTop (mkF m 34 #[rv ob, iv bx, jv lim, .second] [(.ref ob), (.int (wc + (1 : Int32)))])) (fun t k => XS.aloadN X32.here hx rfl (hb hby d3_33) rfl rfl k) ?_
  obtain ⟨cq33, q33, q33'⟩ := f18.cell
  obtain ⟨_, _, ⟨T33, L33, k33, n33⟩, -, X33, ⟨Lc33, hQ33, l33, y33, z33⟩, st33⟩ := X32.privateBack hx (y := (⟨own_F, "lengthEnd", "()I"⟩ : MethodName)) hown (mvT hZ (tw23 hw)) (mvT hZ (tw24 hw)) (own_sel (mvT hZ (tw3 hw)) (Cond.privateMethod_at (mvP hZ (tw25 hw) (args := #[]))) (mvT hZ (tw24 hw)) (by decide)) (Cond.privateMethod_at (mvP hZ (tw25 hw) (args := #[]))) (mvT hZ (tw26 hw)) (by decide) (backOf (W := 1) (rm4 l Z a0 hw [] ob ba f2 (wc + (1 : Int32)) h17 n0 Zp17 f20 f22 f19) hZ (tw26 hw) (tw4 hw) (by decide) (by decide)) (g := (mkF m 34 #[rv ob, iv bx, jv lim, .second] [(.ref ob), (.int (wc + (1 : Int32)))])) rfl (by rw [hml]; rfl) (Steps.refl _) (a := ob) (by rw [e32]; exact q33) q33' (argsL := []) (rest := [(.int (wc + (1 : Int32)))]) (lenOf pd_1 rfl) rfl (by show 2 * 0 + _ ≤ _; exact Nat.le_of_eq rfl) (hb hby d3_34) (fun _ _ => ⟨rfl, e32, (by decide : 0 + 0 ≤ _), (by decide : 0 + 0 ≤ _)⟩)
  dsimp only [Pt.U, Pt.locs, Pt.cells, Pt.slots] at X33 l33 y33 z33 st33 hQ33
  subst l33 y33 z33
  obtain ⟨rfl, N33q, hE33⟩ := hQ33
  have N33 := Fr.app N17 N33q
  refine Wk.go (A' := T33.setTop (mkF m 37 #[rv ob, iv bx, jv lim, .second] [(.int (f_lend ob ba f2 (wc + (1 : Int32)))), (.int (wc + (1 : Int32)))])) (fun t k => st33.trans k) ?_
  rw [show (f_lend ob ba f2 (wc + (1 : Int32))) = (4 : Int32) from own_l4 _ _ _ hk1 cw]
  have hc37 : ¬ ((wc + (1 : Int32)) = (4 : Int32)) := hkl
  refine Wk.go (A' := T33.setTop (mkF m 45 #[rv ob, iv bx, jv lim, .second] [])) (fun t k => XS.icmpYes X33.here hx rfl (pc0 := 37) (pc' := 45) rfl (hb hby d3_37) rfl (feq hc37).2 (by decide) (by decide) k) ?_
  refine Wk.go (A' := T33.setTop (mkF m 46 #[rv ob, iv bx, jv lim, .second] [(.ref ob)])) (fun t k => XS.aloadN X33.here hx rfl (hb hby d3_45) rfl rfl k) ?_
  obtain ⟨T34, X34, e34, st34⟩ := getF X33 hx hZ hown (host := "") (Or.inl (tw21 hw)) Via.refl (hE33) f22 (g := (mkF m 46 #[rv ob, iv bx, jv lim, .second] [(.ref ob)])) rfl rfl (hb hby d3_46)
  refine Wk.go (A' := T34.setTop (mkF m 49 #[rv ob, iv bx, jv lim, .second] [(.int (wc + (1 : Int32)))])) (fun t k => st34 t k) ?_
  refine Wk.go (A' := T34.setTop (mkF m 50 #[rv ob, iv bx, jv lim, .second] [(.ref ob), (.int (wc + (1 : Int32)))])) (fun t k => XS.aloadN X34.here hx rfl (hb hby d3_49) rfl rfl k) ?_
  obtain ⟨cq35, q35, q35'⟩ := f18.cell
  obtain ⟨_, _, ⟨T35, L35, k35, n35⟩, -, X35, ⟨Lc35, hQ35, l35, y35, z35⟩, st35⟩ := X34.privateBack hx (y := (⟨own_F, "lengthEnd", "()I"⟩ : MethodName)) hown (mvT hZ (tw23 hw)) (mvT hZ (tw24 hw)) (own_sel (mvT hZ (tw3 hw)) (Cond.privateMethod_at (mvP hZ (tw25 hw) (args := #[]))) (mvT hZ (tw24 hw)) (by decide)) (Cond.privateMethod_at (mvP hZ (tw25 hw) (args := #[]))) (mvT hZ (tw26 hw)) (by decide) (backOf (W := 1) (rm4 l Z a0 hw [] ob ba f2 (wc + (1 : Int32)) h17 n0 Zp17 f20 f22 f19) hZ (tw26 hw) (tw4 hw) (by decide) (by decide)) (g := (mkF m 50 #[rv ob, iv bx, jv lim, .second] [(.ref ob), (.int (wc + (1 : Int32)))])) rfl (by rw [hml]; rfl) (Steps.refl _) (a := ob) (by rw [e34]; exact q35) q35' (argsL := []) (rest := [(.int (wc + (1 : Int32)))]) (lenOf pd_1 rfl) rfl (by show 2 * 0 + _ ≤ _; exact Nat.le_of_eq rfl) (hb hby d3_50) (fun _ _ => ⟨rfl, e34, (by decide : 0 + 0 ≤ _), (by decide : 0 + 0 ≤ _)⟩)
  dsimp only [Pt.U, Pt.locs, Pt.cells, Pt.slots] at X35 l35 y35 z35 st35 hQ35
  subst l35 y35 z35
  obtain ⟨rfl, N35q, hE35⟩ := hQ35
  have N35 := Fr.app N33 N35q
  refine Wk.go (A' := T35.setTop (mkF m 53 #[rv ob, iv bx, jv lim, .second] [(.int (f_lend ob ba f2 (wc + (1 : Int32)))), (.int (wc + (1 : Int32)))])) (fun t k => st35.trans k) ?_
  rw [show (f_lend ob ba f2 (wc + (1 : Int32))) = (4 : Int32) from own_l4 _ _ _ hk1 cw]
  refine Wk.go (A' := T35.setTop (mkF m 54 #[rv ob, iv bx, jv lim, .second] [(.ref ob), (.int (4 : Int32)), (.int (wc + (1 : Int32)))])) (fun t k => XS.aloadN X35.here hx rfl (hb hby d3_53) rfl rfl k) ?_
  obtain ⟨T36, X36, e36, st36⟩ := getF X35 hx hZ hown (host := "") (Or.inl (tw13 hw)) Via.refl (hE35) f21 (g := (mkF m 54 #[rv ob, iv bx, jv lim, .second] [(.ref ob), (.int (4 : Int32)), (.int (wc + (1 : Int32)))])) rfl rfl (hb hby d3_54)
  refine Wk.go (A' := T36.setTop (mkF m 57 #[rv ob, iv bx, jv lim, .second] [(.int (1 : Int32)), (.int (4 : Int32)), (.int (wc + (1 : Int32)))])) (fun t k => st36 t k) ?_
  have hc57 : ¬ ((1 : Int32) = (0 : Int32)) := by decide
  refine Wk.go (A' := T36.setTop (mkF m 60 #[rv ob, iv bx, jv lim, .second] [(.int (4 : Int32)), (.int (wc + (1 : Int32)))])) (fun t k => XS.ifNo X36.here hx rfl (hb hby d3_57) rfl ((if0 _ _).trans (feq hc57).1) k) ?_
  refine Wk.go (A' := T36.setTop (mkF m 61 #[rv ob, iv bx, jv lim, .second] [(.int (4 : Int32)), (.int (4 : Int32)), (.int (wc + (1 : Int32)))])) (fun t k => XS.iconst X36.here hx rfl (hb hby d3_60) k) ?_
  refine Wk.go (A' := T36.setTop (mkF m 65 #[rv ob, iv bx, jv lim, .second] [(.int (4 : Int32)), (.int (4 : Int32)), (.int (wc + (1 : Int32)))])) (fun t k => XS.goto X36.here hx rfl (pc0 := 61) (pc' := 65) rfl (hb hby d3_61) (by decide) (by decide) k) ?_
  refine Wk.go (A' := T36.setTop (mkF m 66 #[rv ob, iv bx, jv lim, .second] [(.int (8 : Int32)), (.int (wc + (1 : Int32)))])) (fun t k => XS.iadd X36.here hx rfl (hb hby d3_65) rfl k) ?_
  have hc66 : ¬ ((wc + (1 : Int32)) < (8 : Int32)) := hkt
  refine Wk.go (A' := T36.setTop (mkF m 71 #[rv ob, iv bx, jv lim, .second] [])) (fun t k => XS.icmpYes X36.here hx rfl (pc0 := 66) (pc' := 71) rfl (hb hby d3_66) rfl (flt hc66).2.1 (by decide) (by decide) k) ?_
  refine Wk.go (A' := T36.setTop (mkF m 72 #[rv ob, iv bx, jv lim, .second] [(.ref ob)])) (fun t k => XS.aloadN X36.here hx rfl (hb hby d3_71) rfl rfl k) ?_
  refine Wk.go (A' := T36.setTop (mkF m 73 #[rv ob, iv bx, jv lim, .second] [(.int (0 : Int32)), (.ref ob)])) (fun t k => XS.iconst X36.here hx rfl (hb hby d3_72) k) ?_
  obtain ⟨T37, h37, X37, e37, W37, st37⟩ := putF X36 hx hZ hown (host := "") (Or.inl (tw21 hw)) Via.refl e36 f22 f18 (Or.inl (tw22 hw)) (tw3 hw) (ty := .int) (by decide) rfl rfl (g := (mkF m 73 #[rv ob, iv bx, jv lim, .second] [(.int (0 : Int32)), (.ref ob)])) rfl rfl (hb hby d3_73)
  have f38 := f18.wr W37
  have f39 := f19.other W37 (Ne.symm hne)
  have f40 := f20.other W37 (Or.inr (sn_100 hw))
  have f41 := f21.other W37 (Or.inr (sn_101 hw))
  have f42 := f22.same W37
  have f43 := f23.other W37 (Or.inr (sn_102 hw))
  have f44 := f24.other W37 (Or.inr (sn_103 hw))
  have f45 := f25.other W37 (Or.inr (sn_104 hw))
  have f46 := f26.other W37 (Or.inr (sn_105 hw))
  have f47 := f27.other W37 (Or.inr (sn_106 hw))
  have f48 := f28.other W37 (Or.inr (sn_107 hw))
  have f49 := f29.other W37 (Or.inr (sn_108 hw))
  have f50 := f30.other W37 (Or.inr (sn_109 hw))
  have Zp37 : n0 ≤ h37.size := Nat.le_trans Zp17 (Nat.le_of_eq W37.size.symm)
  have K37 := K17.wr W37 (Or.inl (List.mem_of_getElem? (i := 0) rfl))
  have N37 := Fr.snoc X37 N35 g_ob
  refine Wk.go (A' := T37.setTop (mkF m 76 #[rv ob, iv bx, jv lim, .second] [])) (fun t k => st37 t k) ?_
  refine Wk.go (A' := T37.setTop (mkF m 77 #[rv ob, iv bx, jv lim, .second] [(.int (1 : Int32))])) (fun t k => XS.iconst X37.here hx rfl (hb hby d3_76) k) ?_
  refine own_fin (Qv := Q3lw Z ob bx lim ba fB wlen wc h0 n0) (v := some (.int (1 : Int32))) X37 hlk (fun h => by rw [Bd.returns] at h; cases h) (fun fs hr => retN X37 hx (t := .boolean) Bd.returns (by simp) (hb hby d3_77) hr) ?_ (by decide) (by decide)
  show Q3lw Z ob bx lim ba fB wlen wc h0 n0 _ T37.heap _
  rw [e37]
  have fin := f39
  rw [hf2] at fin
  exact ⟨rfl, N37, K37, f38, f40, f41, f42, f43, f44, f45, f46, f47, f48, f49, f50, fin⟩
theorem d8_0 : decode prog_100_method_9_code 0 = .ok (.aload_n 0, 1) := by decide +kernel
theorem d8_1 : decode prog_100_method_9_code 1 = .ok (.getfield 13, 3) := by decide +kernel
theorem d8_4 : decode prog_100_method_9_code 4 = .ok (.ifCond .ne 4, 3) := by decide +kernel
theorem d8_7 : decode prog_100_method_9_code 7 = .ok (.return_, 1) := by decide +kernel
theorem ef_8u (m : MethodId) (x0 : Addr) (x1 : Addr) (x2 : Int32) (x3 : Int32) (x4 : Int64) : entryFrame m #[(.ref x0), (.ref x1), (.int x2), (.int x3), (.long x4)] 7 = mkF m 0 #[rv x0, rv x1, iv x2, iv x3, jv x4, .second, .unset] [] := by first | (simp [entryFrame, mkF, argsToLocals, Value.category]; done) | rfl
def Q8u (Z : State) (ob : Addr) (pa : Addr) (ia : Int32) (nn : Int32) (of : Int64)  (h0 : Heap) (n0 : Nat) (v : Option Value) (h : Heap) (L : List Loc) : Prop := v = none ∧ Fr n0 L ∧ h = h0
set_option maxRecDepth 65536 in
set_option maxHeartbeats 40000000 in
theorem rm8u (l : Launch) (Z : State) (a0 : Array Value) (hw : ∀ d ∈ tables_1, d.before a0 Z = true) (ws : List Jvm.Cond) (ob : Addr) (pa : Addr) (ia : Int32) (nn : Int32) (of : Int64)  (h0 : Heap) (n0 : Nat) (Z0 : n0 ≤ h0.size) (F_masked : Fld Z h0 ob own_F "masked" "Z" (.int (0 : Int32))) :
    MetFree l (⟨own_F, "unmask", "([BIIJ)V"⟩ : MethodName) (head1 (Jvm.Cond.code (⟨own_F, "unmask", "([BIIJ)V"⟩ : MethodName) prog_100_method_9_code 7 none :: ws) ({ frames := 0, cells := 0, slots := 0, locals := 0 } : Room)) (fun a U => a = #[(.ref ob), (.ref pa), (.int ia), (.int nn), (.long of)] ∧ Z.Warmed39 U.vm ∧ U.heap = h0) (fun _ _ _ _ _ => True) (fun _ U o U' => ∃ v L, o = .returned v ∧ Q8u Z ob pa ia nn of h0 n0 v U'.heap L ∧ FrameEnd U o U' L ({ frames := 0, cells := 0, slots := 0, locals := 0 } : Room).cells ({ frames := 0, cells := 0, slots := 0, locals := 0 } : Room).slots) := by
  refine MetFree.of_bodySF (plainFor_of_name pn_0) hisR ?_
  intro p e s m args below meth c s₁ Bd hml0 hP hK
  obtain ⟨rfl, hZ, hh⟩ := hP
  have hx := Bd.exec
  have hby := Bd.bytes
  have hml : c.maxLocals = 7 := hml0
  have hown : s.vm.findClass own_F = some m.cls := findClass_of_methodNamed Bd.named
  have hnm := (name_of_methodNamed Bd.named Bd.method).1
  have X0 : Stand p l e ({ frames := 0, cells := 0, slots := 0, locals := 0 } : Room) s m #[(.ref ob), (.ref pa), (.int ia), (.int nn), (.long of)] below meth c s₁ [] 0 0 := Stand.of_body Bd
  have e0 : s₁.heap = h0 := by rw [← hh, Bd.state]; rfl
  have N0 := Fr.nil n0
  have hlk : meth.locks = false := BodyLoose.notSynchronized Bd
  suffices hwk : Wk p.tables e below (s₁.setTop (mkF m 0 #[rv ob, rv pa, iv ia, iv nn, jv of, .second, .unset] [])) (fun U o => U.status = .running ∧ Ended U below o ∧ ∃ v L, o = .returned v ∧ Q8u Z ob pa ia nn of h0 n0 v U.heap L ∧ FrameEnd s o U L 0 0) by
    obtain ⟨U, o, k1, k2⟩ := hwk
    exact ⟨U, o, castTop (ef_8u m ob pa ia nn of) k1, k2⟩
  refine Wk.go (A' := s₁.setTop (mkF m 1 #[rv ob, rv pa, iv ia, iv nn, jv of, .second, .unset] [(.ref ob)])) (fun t k => XS.aloadN X0.here hx rfl (hb hby d8_0) rfl rfl k) ?_
  obtain ⟨T1, X1, e1, st1⟩ := getF X0 hx hZ hown (host := "") (Or.inl (tw13 hw)) Via.refl e0 F_masked (g := (mkF m 1 #[rv ob, rv pa, iv ia, iv nn, jv of, .second, .unset] [(.ref ob)])) rfl rfl (hb hby d8_1)
  refine Wk.go (A' := T1.setTop (mkF m 4 #[rv ob, rv pa, iv ia, iv nn, jv of, .second, .unset] [(.int (0 : Int32))])) (fun t k => st1 t k) ?_
  have hc4 : (0 : Int32) = (0 : Int32) := by decide
  refine Wk.go (A' := T1.setTop (mkF m 7 #[rv ob, rv pa, iv ia, iv nn, jv of, .second, .unset] [])) (fun t k => XS.ifNo X1.here hx rfl (hb hby d8_4) rfl ((if0 _ _).trans (teq hc4).2) k) ?_
  refine own_fin (Qv := Q8u Z ob pa ia nn of h0 n0) (v := none) X1 hlk (fun _ => rfl) (fun fs hr => X1.returnOut hx Bd.returns (hb hby d8_7) hr) ?_ (by decide) (by decide)
  exact ⟨rfl, N0, e1⟩
/-- the i-th key's place -/
def own_kk (of : Int64) (i : Int32) : Int32 := (((of + i.toInt64) &&& (3 : Int64)).toInt32)
theorem own_kk_r (of : Int64) (i : Int32) : 0 ≤ (own_kk of i).toInt ∧ (own_kk of i).toInt ≤ 3 ∧ (own_kk of i).toInt = (of.toInt + i.toInt) % 4 := by
  have h := c_maskL (of + i.toInt64) 3 2 (by decide) (by decide)
  have a := c_ladd of i.toInt64
  rw [c_i2l] at a
  have b := c_l2i ((of + i.toInt64) &&& (3 : Int64))
  have r := rng32 (((of + i.toInt64) &&& (3 : Int64)).toInt32)
  unfold own_kk
  omega
/-- the payload behind n turns -/
def own_un (f g : Nat → Int32) (le ia : Int32) (of : Int64) (n : Int32) : Nat → Int32 := fun j => if ia.toInt ≤ (j : Int) ∧ (j : Int) < ia.toInt + n.toInt then (f j ^^^ g (le + own_kk of (Int32.ofInt ((j : Int) - ia.toInt))).toNatClampNeg).toInt8.toInt32 else f j
theorem own_add {a b : Int32} (ha : 0 ≤ a.toInt) (hb : 0 ≤ b.toInt) (h : a.toInt + b.toInt ≤ 100) : (a + b).toInt = a.toInt + b.toInt ∧ ((a + b).toNatClampNeg : Int) = a.toInt + b.toInt := by
  have h1 := c_iadd a b
  have r := rng32 (a + b)
  have e : (a + b).toInt = a.toInt + b.toInt := by omega
  have c := own_clamp (show 0 ≤ (a + b).toInt by omega)
  exact ⟨e, by omega⟩
theorem own_un_0 (f g : Nat → Int32) (le ia : Int32) (of : Int64) : own_un f g le ia of 0 = f := by
  funext j
  unfold own_un
  have e0 : (0 : Int32).toInt = 0 := by decide
  rw [if_neg]; omega
theorem own_un_at (f g : Nat → Int32) (le ia : Int32) (of : Int64) (i : Int32) (h0 : 0 ≤ ia.toInt) (h1 : 0 ≤ i.toInt) (h2 : ia.toInt + i.toInt < 8) : own_un f g le ia of i (ia + i).toNatClampNeg = f (ia + i).toNatClampNeg := by
  obtain ⟨a1, a2⟩ := own_add h0 h1 (by omega)
  unfold own_un
  rw [if_neg]; omega
theorem own_un_s (f g : Nat → Int32) (le ia : Int32) (of : Int64) (i : Int32) (h0 : 0 ≤ ia.toInt) (h1 : 0 ≤ i.toInt) (h2 : ia.toInt + i.toInt < 8) : own_upd (own_un f g le ia of i) (ia + i).toNatClampNeg (f (ia + i).toNatClampNeg ^^^ g (le + own_kk of i).toNatClampNeg).toInt8.toInt32 = own_un f g le ia of (i + (1 : Int32)) := by
  have e1 : (1 : Int32).toInt = 1 := by decide
  obtain ⟨a1, a2⟩ := own_add h0 h1 (by omega)
  obtain ⟨b1, -⟩ := own_add h1 (show 0 ≤ (1 : Int32).toInt by omega) (by omega)
  funext j
  by_cases q : j = (ia + i).toNatClampNeg
  · subst q
    rw [own_upd_eq]
    unfold own_un
    rw [if_pos (by omega)]
    have : Int32.ofInt (((ia + i).toNatClampNeg : Int) - ia.toInt) = i := by
      rw [show ((ia + i).toNatClampNeg : Int) - ia.toInt = i.toInt by omega, Int32.ofInt_toInt]
    rw [this]
  · rw [own_upd_ne _ _ q]
    unfold own_un
    by_cases z : ia.toInt ≤ (j : Int) ∧ (j : Int) < ia.toInt + i.toInt
    · rw [if_pos z, if_pos (by omega)]
    · rw [if_neg z, if_neg (by omega)]
theorem own_88 (x : Int32) : x.toInt8.toInt32.toInt8.toInt32 = x.toInt8.toInt32 := by rw [Int8.toInt8_toInt32]
theorem own_n1 {i n : Int32} {k : Nat} (h : i.toInt + ((k + 1 : Nat) : Int) = n.toInt) (h0 : 0 ≤ i.toInt) (h4 : n.toInt ≤ 5) : (i + (1 : Int32)).toInt = i.toInt + 1 := by
  have a := c_iadd i 1
  have r := rng32 (i + 1)
  have e1 : (1 : Int32).toInt = 1 := by decide
  omega
theorem d8_8 : decode prog_100_method_9_code 8 = .ok (.iconst 0, 1) := by decide +kernel
theorem d8_9 : decode prog_100_method_9_code 9 = .ok (.istore 6, 2) := by decide +kernel
theorem d8_11 : decode prog_100_method_9_code 11 = .ok (.iload 6, 2) := by decide +kernel
theorem d8_13 : decode prog_100_method_9_code 13 = .ok (.iload_n 3, 1) := by decide +kernel
theorem d8_14 : decode prog_100_method_9_code 14 = .ok (.if_icmp .ge 40, 3) := by decide +kernel
theorem d8_54 : decode prog_100_method_9_code 54 = .ok (.return_, 1) := by decide +kernel
theorem d8_17 : decode prog_100_method_9_code 17 = .ok (.aload_n 1, 1) := by decide +kernel
theorem d8_18 : decode prog_100_method_9_code 18 = .ok (.iload_n 2, 1) := by decide +kernel
theorem d8_19 : decode prog_100_method_9_code 19 = .ok (.iload 6, 2) := by decide +kernel
theorem d8_21 : decode prog_100_method_9_code 21 = .ok (.iadd, 1) := by decide +kernel
theorem d8_22 : decode prog_100_method_9_code 22 = .ok (.dup2, 1) := by decide +kernel
theorem d8_23 : decode prog_100_method_9_code 23 = .ok (.baload, 1) := by decide +kernel
theorem d8_24 : decode prog_100_method_9_code 24 = .ok (.aload_n 0, 1) := by decide +kernel
theorem d8_25 : decode prog_100_method_9_code 25 = .ok (.getfield 7, 3) := by decide +kernel
theorem d8_28 : decode prog_100_method_9_code 28 = .ok (.aload_n 0, 1) := by decide +kernel
theorem d8_29 : decode prog_100_method_9_code 29 = .ok (.getfield 50, 3) := by decide +kernel
theorem d8_32 : decode prog_100_method_9_code 32 = .ok (.lload 4, 2) := by decide +kernel
theorem d8_34 : decode prog_100_method_9_code 34 = .ok (.iload 6, 2) := by decide +kernel
theorem d8_36 : decode prog_100_method_9_code 36 = .ok (.i2l, 1) := by decide +kernel
theorem d8_37 : decode prog_100_method_9_code 37 = .ok (.ladd, 1) := by decide +kernel
theorem tw65 {Z : State} {a0 : Array Value} (hw : ∀ d ∈ tables_1, d.before a0 Z = true) : (Jvm.Cond.constantLong "com/example/dense_envelope/denseenvelope/websocket/FrameHeader" (53 : Nat) (3 : Int64)).before a0 Z = true := hw _ (List.mem_of_getElem? (i := 65) rfl)
theorem d8_38 : decode prog_100_method_9_code 38 = .ok (.ldc2_w 53, 3) := by decide +kernel
theorem d8_41 : decode prog_100_method_9_code 41 = .ok (.land, 1) := by decide +kernel
theorem d8_42 : decode prog_100_method_9_code 42 = .ok (.l2i, 1) := by decide +kernel
theorem d8_43 : decode prog_100_method_9_code 43 = .ok (.iadd, 1) := by decide +kernel
theorem d8_44 : decode prog_100_method_9_code 44 = .ok (.baload, 1) := by decide +kernel
theorem d8_45 : decode prog_100_method_9_code 45 = .ok (.ixor, 1) := by decide +kernel
theorem d8_46 : decode prog_100_method_9_code 46 = .ok (.i2b, 1) := by decide +kernel
theorem d8_47 : decode prog_100_method_9_code 47 = .ok (.bastore, 1) := by decide +kernel
theorem d8_48 : decode prog_100_method_9_code 48 = .ok (.iinc 6 1, 3) := by decide +kernel
theorem d8_51 : decode prog_100_method_9_code 51 = .ok (.goto (-40), 3) := by decide +kernel
theorem ef_8m (m : MethodId) (x0 : Addr) (x1 : Addr) (x2 : Int32) (x3 : Int32) (x4 : Int64) : entryFrame m #[(.ref x0), (.ref x1), (.int x2), (.int x3), (.long x4)] 7 = mkF m 0 #[rv x0, rv x1, iv x2, iv x3, jv x4, .second, .unset] [] := by first | (simp [entryFrame, mkF, argsToLocals, Value.category]; done) | rfl
def Q8m (Z : State) (ob : Addr) (pa : Addr) (ia : Int32) (nn : Int32) (of : Int64) (ba : Addr) (fB : Nat → Int32) (fP : Nat → Int32) (wma : Int32) (h0 : Heap) (n0 : Nat) (v : Option Value) (h : Heap) (L : List Loc) : Prop := v = none ∧ Fr n0 L ∧ Keep h0 h [pa] ∧ BA Z h pa 8 (own_un fP fB wma ia of nn)
set_option maxRecDepth 65536 in
set_option maxHeartbeats 40000000 in
theorem rm8m (l : Launch) (Z : State) (a0 : Array Value) (hw : ∀ d ∈ tables_1, d.before a0 Z = true) (ws : List Jvm.Cond) (ob : Addr) (pa : Addr) (ia : Int32) (nn : Int32) (of : Int64) (ba : Addr) (fB : Nat → Int32) (fP : Nat → Int32) (wma : Int32) (h0 : Heap) (n0 : Nat) (Z0 : n0 ≤ h0.size) (F_masked : Fld Z h0 ob own_F "masked" "Z" (.int (1 : Int32))) (F_bytes : Fld Z h0 ob own_F "bytes" "[B" (.ref ba)) (F_maskAt : Fld Z h0 ob own_F "maskAt" "I" (.int wma)) (VB : BA Z h0 ba 14 fB) (VP : BA Z h0 pa 8 fP) (hne : ob ≠ pa) (hne2 : ba ≠ pa) (g_pa : n0 ≤ pa) (pA : 0 ≤ ia.toInt) (pB : 0 ≤ nn.toInt) (pC : nn.toInt ≤ 5) (pD : ia.toInt + nn.toInt ≤ 8) (hm0 : 0 ≤ wma.toInt) (hm4 : wma.toInt ≤ 4) :
    MetFree l (⟨own_F, "unmask", "([BIIJ)V"⟩ : MethodName) (head1 (Jvm.Cond.code (⟨own_F, "unmask", "([BIIJ)V"⟩ : MethodName) prog_100_method_9_code 7 none :: ws) ({ frames := 0, cells := 0, slots := 0, locals := 0 } : Room)) (fun a U => a = #[(.ref ob), (.ref pa), (.int ia), (.int nn), (.long of)] ∧ Z.Warmed39 U.vm ∧ U.heap = h0) (fun _ _ _ _ _ => True) (fun _ U o U' => ∃ v L, o = .returned v ∧ Q8m Z ob pa ia nn of ba fB fP wma h0 n0 v U'.heap L ∧ FrameEnd U o U' L ({ frames := 0, cells := 0, slots := 0, locals := 0 } : Room).cells ({ frames := 0, cells := 0, slots := 0, locals := 0 } : Room).slots) := by
  refine MetFree.of_bodySF (plainFor_of_name pn_0) hisR ?_
  intro p e s m args below meth c s₁ Bd hml0 hP hK
  obtain ⟨rfl, hZ, hh⟩ := hP
  have hx := Bd.exec
  have hby := Bd.bytes
  have hml : c.maxLocals = 7 := hml0
  have hown : s.vm.findClass own_F = some m.cls := findClass_of_methodNamed Bd.named
  have hnm := (name_of_methodNamed Bd.named Bd.method).1
  have X0 : Stand p l e ({ frames := 0, cells := 0, slots := 0, locals := 0 } : Room) s m #[(.ref ob), (.ref pa), (.int ia), (.int nn), (.long of)] below meth c s₁ [] 0 0 := Stand.of_body Bd
  have e0 : s₁.heap = h0 := by rw [← hh, Bd.state]; rfl
  have N0 := Fr.nil n0
  have hlk : meth.locks = false := BodyLoose.notSynchronized Bd
  suffices hwk : Wk p.tables e below (s₁.setTop (mkF m 0 #[rv ob, rv pa, iv ia, iv nn, jv of, .second, .unset] [])) (fun U o => U.status = .running ∧ Ended U below o ∧ ∃ v L, o = .returned v ∧ Q8m Z ob pa ia nn of ba fB fP wma h0 n0 v U.heap L ∧ FrameEnd s o U L 0 0) by
    obtain ⟨U, o, k1, k2⟩ := hwk
    exact ⟨U, o, castTop (ef_8m m ob pa ia nn of) k1, k2⟩
  have K0 := Keep.refl h0 [pa]
  refine Wk.go (A' := s₁.setTop (mkF m 1 #[rv ob, rv pa, iv ia, iv nn, jv of, .second, .unset] [(.ref ob)])) (fun t k => XS.aloadN X0.here hx rfl (hb hby d8_0) rfl rfl k) ?_
  obtain ⟨T1, X1, e1, st1⟩ := getF X0 hx hZ hown (host := "") (Or.inl (tw13 hw)) Via.refl e0 F_masked (g := (mkF m 1 #[rv ob, rv pa, iv ia, iv nn, jv of, .second, .unset] [(.ref ob)])) rfl rfl (hb hby d8_1)
  refine Wk.go (A' := T1.setTop (mkF m 4 #[rv ob, rv pa, iv ia, iv nn, jv of, .second, .unset] [(.int (1 : Int32))])) (fun t k => st1 t k) ?_
  have hc4 : ¬ ((1 : Int32) = (0 : Int32)) := by decide
  refine Wk.go (A' := T1.setTop (mkF m 8 #[rv ob, rv pa, iv ia, iv nn, jv of, .second, .unset] [])) (fun t k => XS.ifYes X1.here hx rfl (pc0 := 4) (pc' := 8) rfl (hb hby d8_4) rfl ((if0 _ _).trans (feq hc4).2) (by decide) (by decide) k) ?_
  refine Wk.go (A' := T1.setTop (mkF m 9 #[rv ob, rv pa, iv ia, iv nn, jv of, .second, .unset] [(.int (0 : Int32))])) (fun t k => XS.iconst X1.here hx rfl (hb hby d8_8) k) ?_
  refine Wk.go (A' := T1.setTop (mkF m 11 #[rv ob, rv pa, iv ia, iv nn, jv of, .second, iv (0 : Int32)] [])) (fun t k => XS.istore X1.here hx rfl (hb hby d8_9) rfl (l' := #[rv ob, rv pa, iv ia, iv nn, jv of, .second, iv (0 : Int32)]) rfl k) ?_
  have V0' : BA Z h0 pa 8 (own_un fP fB wma ia of (0 : Int32)) := by rw [own_un_0]; exact VP
  have loop11 : ∀ (k : Nat) (i : Int32) (TL : State) (hL : Heap) (lL : List Loc) (XL : Stand p l e ({ frames := 0, cells := 0, slots := 0, locals := 0 } : Room) s m #[(.ref ob), (.ref pa), (.int ia), (.int nn), (.long of)] below meth c TL lL 0 0) (eL : TL.heap = hL) (NL : Fr n0 lL) (ZL : n0 ≤ hL.size) (KL : Keep h0 hL [pa]) (fL0 : Fld Z hL ob own_F "masked" "Z" (.int (1 : Int32))) (fL1 : Fld Z hL ob own_F "bytes" "[B" (.ref ba)) (fL2 : Fld Z hL ob own_F "maskAt" "I" (.int wma)) (fL3 : BA Z hL ba 14 fB) (fL4 : BA Z hL pa 8 (own_un fP fB wma ia of i)), (i.toInt + (k : Int) = nn.toInt ∧ 0 ≤ i.toInt) → Wk p.tables e below (TL.setTop (mkF m 11 #[rv ob, rv pa, iv ia, iv nn, jv of, .second, iv i] [])) (fun U o => U.status = .running ∧ Ended U below o ∧ ∃ v L, o = .returned v ∧ Q8m Z ob pa ia nn of ba fB fP wma h0 n0 v U.heap L ∧ FrameEnd s o U L 0 0) := by
    intro k
    induction k with
    | zero =>
      intro i TL hL lL XL eL NL ZL KL fL0 fL1 fL2 fL3 fL4 hinv
      refine Wk.go (A' := TL.setTop (mkF m 13 #[rv ob, rv pa, iv ia, iv nn, jv of, .second, iv i] [(.int i)])) (fun t k => XS.iload XL.here hx rfl (hb hby d8_11) rfl k) ?_
      refine Wk.go (A' := TL.setTop (mkF m 14 #[rv ob, rv pa, iv ia, iv nn, jv of, .second, iv i] [(.int nn), (.int i)])) (fun t k => XS.iloadN XL.here hx rfl (hb hby d8_13) rfl k) ?_
      have hc14 : ¬ (i < nn) := by rw [Int32.lt_iff_toInt_lt]; have := hinv.1; omega
      refine Wk.go (A' := TL.setTop (mkF m 54 #[rv ob, rv pa, iv ia, iv nn, jv of, .second, iv i] [])) (fun t k => XS.icmpYes XL.here hx rfl (pc0 := 14) (pc' := 54) rfl (hb hby d8_14) rfl (flt hc14).2.1 (by decide) (by decide) k) ?_
      refine own_fin (Qv := Q8m Z ob pa ia nn of ba fB fP wma h0 n0) (v := none) XL hlk (fun _ => rfl) (fun fs hr => XL.returnOut hx Bd.returns (hb hby d8_54) hr) ?_ (by decide) (by decide)
      have hic : i = nn := Int32.toInt_inj.mp (by have := hinv.1; omega)
      show Q8m Z ob pa ia nn of ba fB fP wma h0 n0 _ TL.heap _
      rw [eL]
      have fin := fL4
      rw [hic] at fin
      exact ⟨rfl, NL, KL, fin⟩
    | succ k ih =>
      intro i TL hL lL XL eL NL ZL KL fL0 fL1 fL2 fL3 fL4 hinv
      refine Wk.go (A' := TL.setTop (mkF m 13 #[rv ob, rv pa, iv ia, iv nn, jv of, .second, iv i] [(.int i)])) (fun t k => XS.iload XL.here hx rfl (hb hby d8_11) rfl k) ?_
      refine Wk.go (A' := TL.setTop (mkF m 14 #[rv ob, rv pa, iv ia, iv nn, jv of, .second, iv i] [(.int nn), (.int i)])) (fun t k => XS.iloadN XL.here hx rfl (hb hby d8_13) rfl k) ?_
      have hc14 : i < nn := by rw [Int32.lt_iff_toInt_lt]; have := hinv.1; omega
      refine Wk.go (A' := TL.setTop (mkF m 17 #[rv ob, rv pa, iv ia, iv nn, jv of, .second, iv i] [])) (fun t k => XS.icmpNo XL.here hx rfl (hb hby d8_14) rfl (tlt hc14).2.1 k) ?_
      refine Wk.go (A' := TL.setTop (mkF m 18 #[rv ob, rv pa, iv ia, iv nn, jv of, .second, iv i] [(.ref pa)])) (fun t k => XS.aloadN XL.here hx rfl (hb hby d8_17) rfl rfl k) ?_
      refine Wk.go (A' := TL.setTop (mkF m 19 #[rv ob, rv pa, iv ia, iv nn, jv of, .second, iv i] [(.int ia), (.ref pa)])) (fun t k => XS.iloadN XL.here hx rfl (hb hby d8_18) rfl k) ?_
      refine Wk.go (A' := TL.setTop (mkF m 21 #[rv ob, rv pa, iv ia, iv nn, jv of, .second, iv i] [(.int i), (.int ia), (.ref pa)])) (fun t k => XS.iload XL.here hx rfl (hb hby d8_19) rfl k) ?_
      refine Wk.go (A' := TL.setTop (mkF m 22 #[rv ob, rv pa, iv ia, iv nn, jv of, .second, iv i] [(.int (ia + i)), (.ref pa)])) (fun t k => XS.iadd XL.here hx rfl (hb hby d8_21) rfl k) ?_
      refine Wk.go (A' := TL.setTop (mkF m 23 #[rv ob, rv pa, iv ia, iv nn, jv of, .second, iv i] [(.int (ia + i)), (.ref pa), (.int (ia + i)), (.ref pa)])) (fun t k => Jvm.Free.XT.dup2 XL.here hx rfl (hb hby d8_22) rfl rfl rfl k) ?_
      refine Wk.go (A' := TL.setTop (mkF m 24 #[rv ob, rv pa, iv ia, iv nn, jv of, .second, iv i] [(.int ((own_un fP fB wma ia of i) ((ia + i)).toNatClampNeg)), (.int (ia + i)), (.ref pa)])) (fun t k => own_ldB XL hx hZ eL fL4 (j := (ia + i)) (by have := hinv.1; have e := (own_add pA hinv.2 (by omega)).1; have := hinv.2; omega) (g := (mkF m 23 #[rv ob, rv pa, iv ia, iv nn, jv of, .second, iv i] [(.int (ia + i)), (.ref pa), (.int (ia + i)), (.ref pa)])) rfl rfl (hb hby d8_23) t k) ?_
      rw [show ((own_un fP fB wma ia of i) ((ia + i)).toNatClampNeg) = (fP ((ia + i)).toNatClampNeg) from own_un_at fP fB wma ia of i pA hinv.2 (by have := hinv.1; omega)]
      refine Wk.go (A' := TL.setTop (mkF m 25 #[rv ob, rv pa, iv ia, iv nn, jv of, .second, iv i] [(.ref ob), (.int (fP ((ia + i)).toNatClampNeg)), (.int (ia + i)), (.ref pa)])) (fun t k => XS.aloadN XL.here hx rfl (hb hby d8_24) rfl rfl k) ?_
      obtain ⟨T2, X2, e2, st2⟩ := getF XL hx hZ hown (host := "") (Or.inl (tw11 hw)) Via.refl eL fL1 (g := (mkF m 25 #[rv ob, rv pa, iv ia, iv nn, jv of, .second, iv i] [(.ref ob), (.int (fP ((ia + i)).toNatClampNeg)), (.int (ia + i)), (.ref pa)])) rfl rfl (hb hby d8_25)
      refine Wk.go (A' := T2.setTop (mkF m 28 #[rv ob, rv pa, iv ia, iv nn, jv of, .second, iv i] [(.ref ba), (.int (fP ((ia + i)).toNatClampNeg)), (.int (ia + i)), (.ref pa)])) (fun t k => st2 t k) ?_
      refine Wk.go (A' := T2.setTop (mkF m 29 #[rv ob, rv pa, iv ia, iv nn, jv of, .second, iv i] [(.ref ob), (.ref ba), (.int (fP ((ia + i)).toNatClampNeg)), (.int (ia + i)), (.ref pa)])) (fun t k => XS.aloadN X2.here hx rfl (hb hby d8_28) rfl rfl k) ?_
      obtain ⟨T3, X3, e3, st3⟩ := getF X2 hx hZ hown (host := "") (Or.inl (tw48 hw)) Via.refl e2 fL2 (g := (mkF m 29 #[rv ob, rv pa, iv ia, iv nn, jv of, .second, iv i] [(.ref ob), (.ref ba), (.int (fP ((ia + i)).toNatClampNeg)), (.int (ia + i)), (.ref pa)])) rfl rfl (hb hby d8_29)
      refine Wk.go (A' := T3.setTop (mkF m 32 #[rv ob, rv pa, iv ia, iv nn, jv of, .second, iv i] [(.int wma), (.ref ba), (.int (fP ((ia + i)).toNatClampNeg)), (.int (ia + i)), (.ref pa)])) (fun t k => st3 t k) ?_
      refine Wk.go (A' := T3.setTop (mkF m 34 #[rv ob, rv pa, iv ia, iv nn, jv of, .second, iv i] [(.long of), (.int wma), (.ref ba), (.int (fP ((ia + i)).toNatClampNeg)), (.int (ia + i)), (.ref pa)])) (fun t k => XS.lload X3.here hx rfl (hb hby d8_32) rfl k) ?_
      refine Wk.go (A' := T3.setTop (mkF m 36 #[rv ob, rv pa, iv ia, iv nn, jv of, .second, iv i] [(.int i), (.long of), (.int wma), (.ref ba), (.int (fP ((ia + i)).toNatClampNeg)), (.int (ia + i)), (.ref pa)])) (fun t k => XS.iload X3.here hx rfl (hb hby d8_34) rfl k) ?_
      refine Wk.go (A' := T3.setTop (mkF m 37 #[rv ob, rv pa, iv ia, iv nn, jv of, .second, iv i] [(.long (i.toInt64)), (.long of), (.int wma), (.ref ba), (.int (fP ((ia + i)).toNatClampNeg)), (.int (ia + i)), (.ref pa)])) (fun t k => XS.i2l X3.here hx rfl (hb hby d8_36) rfl k) ?_
      refine Wk.go (A' := T3.setTop (mkF m 38 #[rv ob, rv pa, iv ia, iv nn, jv of, .second, iv i] [(.long (of + (i.toInt64))), (.int wma), (.ref ba), (.int (fP ((ia + i)).toNatClampNeg)), (.int (ia + i)), (.ref pa)])) (fun t k => XS.ladd X3.here hx rfl (hb hby d8_37) rfl k) ?_
      refine Wk.go (A' := T3.setTop (mkF m 41 #[rv ob, rv pa, iv ia, iv nn, jv of, .second, iv i] [(.long (3 : Int64)), (.long (of + (i.toInt64))), (.int wma), (.ref ba), (.int (fP ((ia + i)).toNatClampNeg)), (.int (ia + i)), (.ref pa)])) (fun t k => X3.ldc2Long hx hown (mvT hZ (tw65 hw)) (g := (mkF m 38 #[rv ob, rv pa, iv ia, iv nn, jv of, .second, iv i] [(.long (of + (i.toInt64))), (.int wma), (.ref ba), (.int (fP ((ia + i)).toNatClampNeg)), (.int (ia + i)), (.ref pa)])) rfl (hb hby d8_38) t k) ?_
      refine Wk.go (A' := T3.setTop (mkF m 42 #[rv ob, rv pa, iv ia, iv nn, jv of, .second, iv i] [(.long ((of + (i.toInt64)) &&& (3 : Int64))), (.int wma), (.ref ba), (.int (fP ((ia + i)).toNatClampNeg)), (.int (ia + i)), (.ref pa)])) (fun t k => XS.land X3.here hx rfl (hb hby d8_41) rfl k) ?_
      refine Wk.go (A' := T3.setTop (mkF m 43 #[rv ob, rv pa, iv ia, iv nn, jv of, .second, iv i] [(.int (own_kk of i)), (.int wma), (.ref ba), (.int (fP ((ia + i)).toNatClampNeg)), (.int (ia + i)), (.ref pa)])) (fun t k => XS.l2i X3.here hx rfl (hb hby d8_42) rfl k) ?_
      refine Wk.go (A' := T3.setTop (mkF m 44 #[rv ob, rv pa, iv ia, iv nn, jv of, .second, iv i] [(.int (wma + (own_kk of i))), (.ref ba), (.int (fP ((ia + i)).toNatClampNeg)), (.int (ia + i)), (.ref pa)])) (fun t k => XS.iadd X3.here hx rfl (hb hby d8_43) rfl k) ?_
      refine Wk.go (A' := T3.setTop (mkF m 45 #[rv ob, rv pa, iv ia, iv nn, jv of, .second, iv i] [(.int (fB ((wma + (own_kk of i))).toNatClampNeg)), (.int (fP ((ia + i)).toNatClampNeg)), (.int (ia + i)), (.ref pa)])) (fun t k => own_ldB X3 hx hZ e3 fL3 (j := (wma + (own_kk of i))) (by have q := own_kk_r of i; have e := (own_add hm0 q.1 (by omega)).1; omega) (g := (mkF m 44 #[rv ob, rv pa, iv ia, iv nn, jv of, .second, iv i] [(.int (wma + (own_kk of i))), (.ref ba), (.int (fP ((ia + i)).toNatClampNeg)), (.int (ia + i)), (.ref pa)])) rfl rfl (hb hby d8_44) t k) ?_
      refine Wk.go (A' := T3.setTop (mkF m 46 #[rv ob, rv pa, iv ia, iv nn, jv of, .second, iv i] [(.int ((fP ((ia + i)).toNatClampNeg) ^^^ (fB ((wma + (own_kk of i))).toNatClampNeg))), (.int (ia + i)), (.ref pa)])) (fun t k => XS.ixor X3.here hx rfl (hb hby d8_45) rfl k) ?_
      refine Wk.go (A' := T3.setTop (mkF m 47 #[rv ob, rv pa, iv ia, iv nn, jv of, .second, iv i] [(.int (((fP ((ia + i)).toNatClampNeg) ^^^ (fB ((wma + (own_kk of i))).toNatClampNeg)).toInt8.toInt32)), (.int (ia + i)), (.ref pa)])) (fun t k => XS.i2b X3.here hx rfl (hb hby d8_46) rfl k) ?_
      obtain ⟨T4, h4, X4, e4, W4, B4, st4⟩ := own_stB X3 hx hZ e3 fL4 (j := (ia + i)) (by have := hinv.1; have e := (own_add pA hinv.2 (by omega)).1; have := hinv.2; omega) (g := (mkF m 47 #[rv ob, rv pa, iv ia, iv nn, jv of, .second, iv i] [(.int (((fP ((ia + i)).toNatClampNeg) ^^^ (fB ((wma + (own_kk of i))).toNatClampNeg)).toInt8.toInt32)), (.int (ia + i)), (.ref pa)])) rfl rfl (hb hby d8_47)
      have V4 : BA Z h4 pa 8 (own_upd (own_un fP fB wma ia of i) ((ia + i)).toNatClampNeg ((((fP ((ia + i)).toNatClampNeg) ^^^ (fB ((wma + (own_kk of i))).toNatClampNeg)).toInt8.toInt32)).toInt8.toInt32) := B4
      have f5 := fL0.other W4 (Or.inl hne)
      have f6 := fL1.other W4 (Or.inl hne)
      have f7 := fL2.other W4 (Or.inl hne)
      have f8 := fL3.other W4 hne2
      have f9 := V4
      have Zp4 : n0 ≤ h4.size := Nat.le_trans ZL (Nat.le_of_eq W4.size.symm)
      have K4 := KL.wr W4 (Or.inl (List.mem_of_getElem? (i := 0) rfl))
      have N4 := Fr.snoc X4 NL g_pa
      refine Wk.go (A' := T4.setTop (mkF m 48 #[rv ob, rv pa, iv ia, iv nn, jv of, .second, iv i] [])) (fun t k => st4 t k) ?_
      have f10 : BA Z h4 pa 8 (own_un fP fB wma ia of (i + (1 : Int32))) := by rw [← own_un_s fP fB wma ia of i pA hinv.2 (by have := hinv.1; omega), ← own_88]; exact f9
      refine Wk.go (A' := T4.setTop (mkF m 51 #[rv ob, rv pa, iv ia, iv nn, jv of, .second, iv (i + (1 : Int32))] [])) (fun t k => XS.iinc X4.here hx rfl (hb hby d8_48) rfl (l' := #[rv ob, rv pa, iv ia, iv nn, jv of, .second, iv (i + (1 : Int32))]) rfl k) ?_
      refine Wk.go (A' := T4.setTop (mkF m 11 #[rv ob, rv pa, iv ia, iv nn, jv of, .second, iv (i + (1 : Int32))] [])) (fun t k => XS.goto X4.here hx rfl (pc0 := 51) (pc' := 11) rfl (hb hby d8_51) (by decide) (by decide) k) ?_
      exact ih (i + (1 : Int32))  T4 h4 _ X4 e4 N4 Zp4 K4 f5 f6 f7 f8 f10 (⟨by have := hinv.1; have := own_n1 hinv.1 hinv.2 pC; omega, by have := hinv.2; have := own_n1 hinv.1 hinv.2 pC; omega⟩)
  exact loop11 nn.toInt.toNat (0 : Int32)   T1 h0 _ X1 e1 N0 Z0 K0 F_masked F_bytes F_maskAt VB V0' (⟨by have e0 : (0 : Int32).toInt = 0 := (by decide); omega, by decide⟩)
theorem d9_0 : decode method_3_code 0 = .ok (.lload_n 1, 1) := by decide +kernel
theorem d9_1 : decode method_3_code 1 = .ok (.bipush 8, 2) := by decide +kernel
theorem d9_3 : decode method_3_code 3 = .ok (.iload_n 3, 1) := by decide +kernel
theorem d9_4 : decode method_3_code 4 = .ok (.imul, 1) := by decide +kernel
theorem d9_5 : decode method_3_code 5 = .ok (.lushr, 1) := by decide +kernel
theorem d9_6 : decode method_3_code 6 = .ok (.l2i, 1) := by decide +kernel
theorem d9_7 : decode method_3_code 7 = .ok (.i2b, 1) := by decide +kernel
theorem d9_8 : decode method_3_code 8 = .ok (.istore 10, 2) := by decide +kernel
theorem d9_10 : decode method_3_code 10 = .ok (.iload 9, 2) := by decide +kernel
theorem d9_12 : decode method_3_code 12 = .ok (.ifCond .eq 18, 3) := by decide +kernel
theorem d9_30 : decode method_3_code 30 = .ok (.aload_n 0, 1) := by decide +kernel
theorem d9_31 : decode method_3_code 31 = .ok (.iload_n 3, 1) := by decide +kernel
theorem d9_32 : decode method_3_code 32 = .ok (.baload, 1) := by decide +kernel
theorem d9_33 : decode method_3_code 33 = .ok (.iload 10, 2) := by decide +kernel
theorem d9_35 : decode method_3_code 35 = .ok (.if_icmp .ne 7, 3) := by decide +kernel
theorem d9_38 : decode method_3_code 38 = .ok (.iconst 1, 1) := by decide +kernel
theorem d9_39 : decode method_3_code 39 = .ok (.goto 4, 3) := by decide +kernel
theorem d9_43 : decode method_3_code 43 = .ok (.ireturn, 1) := by decide +kernel
theorem d9_42 : decode method_3_code 42 = .ok (.iconst 0, 1) := by decide +kernel
theorem d9_15 : decode method_3_code 15 = .ok (.iload_n 3, 1) := by decide +kernel
theorem d9_16 : decode method_3_code 16 = .ok (.iload 4, 2) := by decide +kernel
theorem d9_18 : decode method_3_code 18 = .ok (.if_icmp .lt 12, 3) := by decide +kernel
theorem d9_21 : decode method_3_code 21 = .ok (.iload_n 3, 1) := by decide +kernel
theorem d9_22 : decode method_3_code 22 = .ok (.iload 4, 2) := by decide +kernel
theorem d9_24 : decode method_3_code 24 = .ok (.iload 5, 2) := by decide +kernel
theorem d9_26 : decode method_3_code 26 = .ok (.iadd, 1) := by decide +kernel
theorem d9_27 : decode method_3_code 27 = .ok (.if_icmp .lt 17, 3) := by decide +kernel
theorem d9_44 : decode method_3_code 44 = .ok (.lload 6, 2) := by decide +kernel
theorem tw66 {Z : State} {a0 : Array Value} (hw : ∀ d ∈ tables_1, d.before a0 Z = true) : (Jvm.Cond.constantLong "com/example/dense_envelope/denseenvelope/websocket/FrameHeaderUnmaskPinLaw" (31 : Nat) (3 : Int64)).before a0 Z = true := hw _ (List.mem_of_getElem? (i := 66) rfl)
theorem d9_46 : decode method_3_code 46 = .ok (.ldc2_w 31, 3) := by decide +kernel
theorem d9_49 : decode method_3_code 49 = .ok (.land, 1) := by decide +kernel
theorem d9_50 : decode method_3_code 50 = .ok (.l2i, 1) := by decide +kernel
theorem d9_51 : decode method_3_code 51 = .ok (.iload_n 3, 1) := by decide +kernel
theorem d9_52 : decode method_3_code 52 = .ok (.iload 4, 2) := by decide +kernel
theorem d9_54 : decode method_3_code 54 = .ok (.isub, 1) := by decide +kernel
theorem d9_55 : decode method_3_code 55 = .ok (.iadd, 1) := by decide +kernel
theorem d9_56 : decode method_3_code 56 = .ok (.iconst 3, 1) := by decide +kernel
theorem d9_57 : decode method_3_code 57 = .ok (.iand, 1) := by decide +kernel
theorem d9_58 : decode method_3_code 58 = .ok (.istore 11, 2) := by decide +kernel
theorem d9_60 : decode method_3_code 60 = .ok (.iload 8, 2) := by decide +kernel
theorem d9_62 : decode method_3_code 62 = .ok (.bipush 24, 2) := by decide +kernel
theorem d9_64 : decode method_3_code 64 = .ok (.bipush 8, 2) := by decide +kernel
theorem d9_66 : decode method_3_code 66 = .ok (.iload 11, 2) := by decide +kernel
theorem d9_68 : decode method_3_code 68 = .ok (.imul, 1) := by decide +kernel
theorem d9_69 : decode method_3_code 69 = .ok (.isub, 1) := by decide +kernel
theorem d9_70 : decode method_3_code 70 = .ok (.iushr, 1) := by decide +kernel
theorem d9_71 : decode method_3_code 71 = .ok (.i2b, 1) := by decide +kernel
theorem d9_72 : decode method_3_code 72 = .ok (.istore 12, 2) := by decide +kernel
theorem d9_74 : decode method_3_code 74 = .ok (.aload_n 0, 1) := by decide +kernel
theorem d9_75 : decode method_3_code 75 = .ok (.iload_n 3, 1) := by decide +kernel
theorem d9_76 : decode method_3_code 76 = .ok (.baload, 1) := by decide +kernel
theorem d9_77 : decode method_3_code 77 = .ok (.iload 10, 2) := by decide +kernel
theorem d9_79 : decode method_3_code 79 = .ok (.iload 12, 2) := by decide +kernel
theorem d9_81 : decode method_3_code 81 = .ok (.ixor, 1) := by decide +kernel
theorem d9_82 : decode method_3_code 82 = .ok (.i2b, 1) := by decide +kernel
theorem d9_83 : decode method_3_code 83 = .ok (.if_icmp .ne 7, 3) := by decide +kernel
theorem d9_86 : decode method_3_code 86 = .ok (.iconst 1, 1) := by decide +kernel
theorem d9_87 : decode method_3_code 87 = .ok (.goto 4, 3) := by decide +kernel
theorem d9_91 : decode method_3_code 91 = .ok (.ireturn, 1) := by decide +kernel
theorem d9_90 : decode method_3_code 90 = .ok (.iconst 0, 1) := by decide +kernel
theorem pn_1 : plainName "com/example/dense_envelope/denseenvelope/websocket/FrameHeaderUnmaskPinLaw" = true := by first | (simp [plainName, overriddenIn]; done) | decide +kernel
theorem ef_9 (m : MethodId) (x0 : Addr) (x1 : Int64) (x2 : Int32) (x3 : Int32) (x4 : Int32) (x5 : Int64) (x6 : Int32) (x7 : Int32) : entryFrame m #[(.ref x0), (.long x1), (.int x2), (.int x3), (.int x4), (.long x5), (.int x6), (.int x7)] 13 = mkF m 0 #[rv x0, jv x1, .second, iv x2, iv x3, iv x4, jv x5, .second, iv x6, iv x7, .unset, .unset, .unset] [] := by first | (simp [entryFrame, mkF, argsToLocals, Value.category]; done) | rfl
def f_cell (pa : Addr) (bt : Int64) (jx : Int32) (ia : Int32) (nn : Int32) (of : Int64) (mx : Int32) (md : Int32) (fU : Nat → Int32) : Int32 := (if md = (0 : Int32) then (if (fU (jx).toNatClampNeg) = ((((bt.toUInt64 >>> (((8 : Int32) * jx) &&& 0x3f).toInt64.toUInt64).toInt64).toInt32).toInt8.toInt32) then (1 : Int32) else (0 : Int32)) else (if jx < ia then (if (fU (jx).toNatClampNeg) = ((((bt.toUInt64 >>> (((8 : Int32) * jx) &&& 0x3f).toInt64.toUInt64).toInt64).toInt32).toInt8.toInt32) then (1 : Int32) else (0 : Int32)) else (if jx < (ia + nn) then (if (fU (jx).toNatClampNeg) = ((((((bt.toUInt64 >>> (((8 : Int32) * jx) &&& 0x3f).toInt64.toUInt64).toInt64).toInt32).toInt8.toInt32) ^^^ (((mx.toUInt32 >>> (((24 : Int32) - ((8 : Int32) * ((((of &&& (3 : Int64)).toInt32) + (jx - ia)) &&& (3 : Int32)))) &&& 31).toUInt32).toInt32).toInt8.toInt32)).toInt8.toInt32) then (1 : Int32) else (0 : Int32)) else (if (fU (jx).toNatClampNeg) = ((((bt.toUInt64 >>> (((8 : Int32) * jx) &&& 0x3f).toInt64.toUInt64).toInt64).toInt32).toInt8.toInt32) then (1 : Int32) else (0 : Int32)))))
def Q9 (Z : State) (pa : Addr) (bt : Int64) (jx : Int32) (ia : Int32) (nn : Int32) (of : Int64) (mx : Int32) (md : Int32) (fU : Nat → Int32) (h0 : Heap) (n0 : Nat) (v : Option Value) (h : Heap) (L : List Loc) : Prop := v = some (.int (f_cell pa bt jx ia nn of mx md fU)) ∧ Fr n0 L ∧ h = h0
set_option maxRecDepth 65536 in
set_option maxHeartbeats 40000000 in
theorem rm9 (l : Launch) (Z : State) (a0 : Array Value) (hw : ∀ d ∈ tables_1, d.before a0 Z = true) (ws : List Jvm.Cond) (pa : Addr) (bt : Int64) (jx : Int32) (ia : Int32) (nn : Int32) (of : Int64) (mx : Int32) (md : Int32) (fU : Nat → Int32) (h0 : Heap) (n0 : Nat) (Z0 : n0 ≤ h0.size) (VP : BA Z h0 pa 8 fU) (hjx : 0 ≤ jx.toInt ∧ jx.toInt < ((8 : Nat) : Int)) :
    MetFree l (⟨"com/example/dense_envelope/denseenvelope/websocket/FrameHeaderUnmaskPinLaw", "cell", "([BJIIIJIZ)Z"⟩ : MethodName) (head1 (Jvm.Cond.code (⟨"com/example/dense_envelope/denseenvelope/websocket/FrameHeaderUnmaskPinLaw", "cell", "([BJIIIJIZ)Z"⟩ : MethodName) method_3_code 13 (some .boolean) :: ws) ({ frames := 0, cells := 0, slots := 0, locals := 0 } : Room)) (fun a U => a = #[(.ref pa), (.long bt), (.int jx), (.int ia), (.int nn), (.long of), (.int mx), (.int md)] ∧ Z.Warmed39 U.vm ∧ U.heap = h0) (fun _ _ _ _ _ => True) (fun _ U o U' => ∃ v L, o = .returned v ∧ Q9 Z pa bt jx ia nn of mx md fU h0 n0 v U'.heap L ∧ FrameEnd U o U' L ({ frames := 0, cells := 0, slots := 0, locals := 0 } : Room).cells ({ frames := 0, cells := 0, slots := 0, locals := 0 } : Room).slots) := by
  refine MetFree.of_bodySF (plainFor_of_name pn_1) hisR ?_
  intro p e s m args below meth c s₁ Bd hml0 hP hK
  obtain ⟨rfl, hZ, hh⟩ := hP
  have hx := Bd.exec
  have hby := Bd.bytes
  have hml : c.maxLocals = 13 := hml0
  have hown : s.vm.findClass "com/example/dense_envelope/denseenvelope/websocket/FrameHeaderUnmaskPinLaw" = some m.cls := findClass_of_methodNamed Bd.named
  have hnm := (name_of_methodNamed Bd.named Bd.method).1
  have X0 : Stand p l e ({ frames := 0, cells := 0, slots := 0, locals := 0 } : Room) s m #[(.ref pa), (.long bt), (.int jx), (.int ia), (.int nn), (.long of), (.int mx), (.int md)] below meth c s₁ [] 0 0 := Stand.of_body Bd
  have e0 : s₁.heap = h0 := by rw [← hh, Bd.state]; rfl
  have N0 := Fr.nil n0
  have hlk : meth.locks = false := BodyLoose.notSynchronized Bd
  suffices hwk : Wk p.tables e below (s₁.setTop (mkF m 0 #[rv pa, jv bt, .second, iv jx, iv ia, iv nn, jv of, .second, iv mx, iv md, .unset, .unset, .unset] [])) (fun U o => U.status = .running ∧ Ended U below o ∧ ∃ v L, o = .returned v ∧ Q9 Z pa bt jx ia nn of mx md fU h0 n0 v U.heap L ∧ FrameEnd s o U L 0 0) by
    obtain ⟨U, o, k1, k2⟩ := hwk
    exact ⟨U, o, castTop (ef_9 m pa bt jx ia nn of mx md) k1, k2⟩
  refine Wk.go (A' := s₁.setTop (mkF m 1 #[rv pa, jv bt, .second, iv jx, iv ia, iv nn, jv of, .second, iv mx, iv md, .unset, .unset, .unset] [(.long bt)])) (fun t k => XS.lloadN X0.here hx rfl (hb hby d9_0) rfl k) ?_
  refine Wk.go (A' := s₁.setTop (mkF m 3 #[rv pa, jv bt, .second, iv jx, iv ia, iv nn, jv of, .second, iv mx, iv md, .unset, .unset, .unset] [(.int (8 : Int32)), (.long bt)])) (fun t k => XS.bipush X0.here hx rfl (hb hby d9_1) k) ?_
  refine Wk.go (A' := s₁.setTop (mkF m 4 #[rv pa, jv bt, .second, iv jx, iv ia, iv nn, jv of, .second, iv mx, iv md, .unset, .unset, .unset] [(.int jx), (.int (8 : Int32)), (.long bt)])) (fun t k => XS.iloadN X0.here hx rfl (hb hby d9_3) rfl k) ?_
  refine Wk.go (A' := s₁.setTop (mkF m 5 #[rv pa, jv bt, .second, iv jx, iv ia, iv nn, jv of, .second, iv mx, iv md, .unset, .unset, .unset] [(.int ((8 : Int32) * jx)), (.long bt)])) (fun t k => XS.imul X0.here hx rfl (hb hby d9_4) rfl k) ?_
  refine Wk.go (A' := s₁.setTop (mkF m 6 #[rv pa, jv bt, .second, iv jx, iv ia, iv nn, jv of, .second, iv mx, iv md, .unset, .unset, .unset] [(.long ((bt.toUInt64 >>> (((8 : Int32) * jx) &&& 0x3f).toInt64.toUInt64).toInt64))])) (fun t k => XS.lushr X0.here hx rfl (hb hby d9_5) rfl k) ?_
  refine Wk.go (A' := s₁.setTop (mkF m 7 #[rv pa, jv bt, .second, iv jx, iv ia, iv nn, jv of, .second, iv mx, iv md, .unset, .unset, .unset] [(.int (((bt.toUInt64 >>> (((8 : Int32) * jx) &&& 0x3f).toInt64.toUInt64).toInt64).toInt32))])) (fun t k => XS.l2i X0.here hx rfl (hb hby d9_6) rfl k) ?_
  refine Wk.go (A' := s₁.setTop (mkF m 8 #[rv pa, jv bt, .second, iv jx, iv ia, iv nn, jv of, .second, iv mx, iv md, .unset, .unset, .unset] [(.int ((((bt.toUInt64 >>> (((8 : Int32) * jx) &&& 0x3f).toInt64.toUInt64).toInt64).toInt32).toInt8.toInt32))])) (fun t k => XS.i2b X0.here hx rfl (hb hby d9_7) rfl k) ?_
  refine Wk.go (A' := s₁.setTop (mkF m 10 #[rv pa, jv bt, .second, iv jx, iv ia, iv nn, jv of, .second, iv mx, iv md, iv ((((bt.toUInt64 >>> (((8 : Int32) * jx) &&& 0x3f).toInt64.toUInt64).toInt64).toInt32).toInt8.toInt32), .unset, .unset] [])) (fun t k => XS.istore X0.here hx rfl (hb hby d9_8) rfl (l' := #[rv pa, jv bt, .second, iv jx, iv ia, iv nn, jv of, .second, iv mx, iv md, iv ((((bt.toUInt64 >>> (((8 : Int32) * jx) &&& 0x3f).toInt64.toUInt64).toInt64).toInt32).toInt8.toInt32), .unset, .unset]) rfl k) ?_
  refine Wk.go (A' := s₁.setTop (mkF m 12 #[rv pa, jv bt, .second, iv jx, iv ia, iv nn, jv of, .second, iv mx, iv md, iv ((((bt.toUInt64 >>> (((8 : Int32) * jx) &&& 0x3f).toInt64.toUInt64).toInt64).toInt32).toInt8.toInt32), .unset, .unset] [(.int md)])) (fun t k => XS.iload X0.here hx rfl (hb hby d9_10) rfl k) ?_
  by_cases hc12 : md = (0 : Int32)
  · refine Wk.go (A' := s₁.setTop (mkF m 30 #[rv pa, jv bt, .second, iv jx, iv ia, iv nn, jv of, .second, iv mx, iv md, iv ((((bt.toUInt64 >>> (((8 : Int32) * jx) &&& 0x3f).toInt64.toUInt64).toInt64).toInt32).toInt8.toInt32), .unset, .unset] [])) (fun t k => XS.ifYes X0.here hx rfl (pc0 := 12) (pc' := 30) rfl (hb hby d9_12) rfl ((if0 _ _).trans (teq hc12).1) (by decide) (by decide) k) ?_
    refine Wk.go (A' := s₁.setTop (mkF m 31 #[rv pa, jv bt, .second, iv jx, iv ia, iv nn, jv of, .second, iv mx, iv md, iv ((((bt.toUInt64 >>> (((8 : Int32) * jx) &&& 0x3f).toInt64.toUInt64).toInt64).toInt32).toInt8.toInt32), .unset, .unset] [(.ref pa)])) (fun t k => XS.aloadN X0.here hx rfl (hb hby d9_30) rfl rfl k) ?_
    refine Wk.go (A' := s₁.setTop (mkF m 32 #[rv pa, jv bt, .second, iv jx, iv ia, iv nn, jv of, .second, iv mx, iv md, iv ((((bt.toUInt64 >>> (((8 : Int32) * jx) &&& 0x3f).toInt64.toUInt64).toInt64).toInt32).toInt8.toInt32), .unset, .unset] [(.int jx), (.ref pa)])) (fun t k => XS.iloadN X0.here hx rfl (hb hby d9_31) rfl k) ?_
    refine Wk.go (A' := s₁.setTop (mkF m 33 #[rv pa, jv bt, .second, iv jx, iv ia, iv nn, jv of, .second, iv mx, iv md, iv ((((bt.toUInt64 >>> (((8 : Int32) * jx) &&& 0x3f).toInt64.toUInt64).toInt64).toInt32).toInt8.toInt32), .unset, .unset] [(.int (fU (jx).toNatClampNeg))])) (fun t k => own_ldB X0 hx hZ e0 VP (j := jx) hjx (g := (mkF m 32 #[rv pa, jv bt, .second, iv jx, iv ia, iv nn, jv of, .second, iv mx, iv md, iv ((((bt.toUInt64 >>> (((8 : Int32) * jx) &&& 0x3f).toInt64.toUInt64).toInt64).toInt32).toInt8.toInt32), .unset, .unset] [(.int jx), (.ref pa)])) rfl rfl (hb hby d9_32) t k) ?_
    refine Wk.go (A' := s₁.setTop (mkF m 35 #[rv pa, jv bt, .second, iv jx, iv ia, iv nn, jv of, .second, iv mx, iv md, iv ((((bt.toUInt64 >>> (((8 : Int32) * jx) &&& 0x3f).toInt64.toUInt64).toInt64).toInt32).toInt8.toInt32), .unset, .unset] [(.int ((((bt.toUInt64 >>> (((8 : Int32) * jx) &&& 0x3f).toInt64.toUInt64).toInt64).toInt32).toInt8.toInt32)), (.int (fU (jx).toNatClampNeg))])) (fun t k => XS.iload X0.here hx rfl (hb hby d9_33) rfl k) ?_
    by_cases hc35 : (fU (jx).toNatClampNeg) = ((((bt.toUInt64 >>> (((8 : Int32) * jx) &&& 0x3f).toInt64.toUInt64).toInt64).toInt32).toInt8.toInt32)
    · refine Wk.go (A' := s₁.setTop (mkF m 38 #[rv pa, jv bt, .second, iv jx, iv ia, iv nn, jv of, .second, iv mx, iv md, iv ((((bt.toUInt64 >>> (((8 : Int32) * jx) &&& 0x3f).toInt64.toUInt64).toInt64).toInt32).toInt8.toInt32), .unset, .unset] [])) (fun t k => XS.icmpNo X0.here hx rfl (hb hby d9_35) rfl (teq hc35).2 k) ?_
      refine Wk.go (A' := s₁.setTop (mkF m 39 #[rv pa, jv bt, .second, iv jx, iv ia, iv nn, jv of, .second, iv mx, iv md, iv ((((bt.toUInt64 >>> (((8 : Int32) * jx) &&& 0x3f).toInt64.toUInt64).toInt64).toInt32).toInt8.toInt32), .unset, .unset] [(.int (1 : Int32))])) (fun t k => XS.iconst X0.here hx rfl (hb hby d9_38) k) ?_
      refine Wk.go (A' := s₁.setTop (mkF m 43 #[rv pa, jv bt, .second, iv jx, iv ia, iv nn, jv of, .second, iv mx, iv md, iv ((((bt.toUInt64 >>> (((8 : Int32) * jx) &&& 0x3f).toInt64.toUInt64).toInt64).toInt32).toInt8.toInt32), .unset, .unset] [(.int (1 : Int32))])) (fun t k => XS.goto X0.here hx rfl (pc0 := 39) (pc' := 43) rfl (hb hby d9_39) (by decide) (by decide) k) ?_
      refine own_fin (Qv := Q9 Z pa bt jx ia nn of mx md fU h0 n0) (v := some (.int (1 : Int32))) X0 hlk (fun h => by rw [Bd.returns] at h; cases h) (fun fs hr => retN X0 hx (t := .boolean) Bd.returns (by simp) (hb hby d9_43) hr) ?_ (by decide) (by decide)
      refine ⟨?_, N0, e0⟩
      simp only [f_cell, if_pos hc12, if_pos hc35]
    · refine Wk.go (A' := s₁.setTop (mkF m 42 #[rv pa, jv bt, .second, iv jx, iv ia, iv nn, jv of, .second, iv mx, iv md, iv ((((bt.toUInt64 >>> (((8 : Int32) * jx) &&& 0x3f).toInt64.toUInt64).toInt64).toInt32).toInt8.toInt32), .unset, .unset] [])) (fun t k => XS.icmpYes X0.here hx rfl (pc0 := 35) (pc' := 42) rfl (hb hby d9_35) rfl (feq hc35).2 (by decide) (by decide) k) ?_
      refine Wk.go (A' := s₁.setTop (mkF m 43 #[rv pa, jv bt, .second, iv jx, iv ia, iv nn, jv of, .second, iv mx, iv md, iv ((((bt.toUInt64 >>> (((8 : Int32) * jx) &&& 0x3f).toInt64.toUInt64).toInt64).toInt32).toInt8.toInt32), .unset, .unset] [(.int (0 : Int32))])) (fun t k => XS.iconst X0.here hx rfl (hb hby d9_42) k) ?_
      refine own_fin (Qv := Q9 Z pa bt jx ia nn of mx md fU h0 n0) (v := some (.int (0 : Int32))) X0 hlk (fun h => by rw [Bd.returns] at h; cases h) (fun fs hr => retN X0 hx (t := .boolean) Bd.returns (by simp) (hb hby d9_43) hr) ?_ (by decide) (by decide)
      refine ⟨?_, N0, e0⟩
      simp only [f_cell, if_pos hc12, if_neg hc35]
  · refine Wk.go (A' := s₁.setTop (mkF m 15 #[rv pa, jv bt, .second, iv jx, iv ia, iv nn, jv of, .second, iv mx, iv md, iv ((((bt.toUInt64 >>> (((8 : Int32) * jx) &&& 0x3f).toInt64.toUInt64).toInt64).toInt32).toInt8.toInt32), .unset, .unset] [])) (fun t k => XS.ifNo X0.here hx rfl (hb hby d9_12) rfl ((if0 _ _).trans (feq hc12).1) k) ?_
    refine Wk.go (A' := s₁.setTop (mkF m 16 #[rv pa, jv bt, .second, iv jx, iv ia, iv nn, jv of, .second, iv mx, iv md, iv ((((bt.toUInt64 >>> (((8 : Int32) * jx) &&& 0x3f).toInt64.toUInt64).toInt64).toInt32).toInt8.toInt32), .unset, .unset] [(.int jx)])) (fun t k => XS.iloadN X0.here hx rfl (hb hby d9_15) rfl k) ?_
    refine Wk.go (A' := s₁.setTop (mkF m 18 #[rv pa, jv bt, .second, iv jx, iv ia, iv nn, jv of, .second, iv mx, iv md, iv ((((bt.toUInt64 >>> (((8 : Int32) * jx) &&& 0x3f).toInt64.toUInt64).toInt64).toInt32).toInt8.toInt32), .unset, .unset] [(.int ia), (.int jx)])) (fun t k => XS.iload X0.here hx rfl (hb hby d9_16) rfl k) ?_
    by_cases hc18 : jx < ia
    · refine Wk.go (A' := s₁.setTop (mkF m 30 #[rv pa, jv bt, .second, iv jx, iv ia, iv nn, jv of, .second, iv mx, iv md, iv ((((bt.toUInt64 >>> (((8 : Int32) * jx) &&& 0x3f).toInt64.toUInt64).toInt64).toInt32).toInt8.toInt32), .unset, .unset] [])) (fun t k => XS.icmpYes X0.here hx rfl (pc0 := 18) (pc' := 30) rfl (hb hby d9_18) rfl (tlt hc18).1 (by decide) (by decide) k) ?_
      refine Wk.go (A' := s₁.setTop (mkF m 31 #[rv pa, jv bt, .second, iv jx, iv ia, iv nn, jv of, .second, iv mx, iv md, iv ((((bt.toUInt64 >>> (((8 : Int32) * jx) &&& 0x3f).toInt64.toUInt64).toInt64).toInt32).toInt8.toInt32), .unset, .unset] [(.ref pa)])) (fun t k => XS.aloadN X0.here hx rfl (hb hby d9_30) rfl rfl k) ?_
      refine Wk.go (A' := s₁.setTop (mkF m 32 #[rv pa, jv bt, .second, iv jx, iv ia, iv nn, jv of, .second, iv mx, iv md, iv ((((bt.toUInt64 >>> (((8 : Int32) * jx) &&& 0x3f).toInt64.toUInt64).toInt64).toInt32).toInt8.toInt32), .unset, .unset] [(.int jx), (.ref pa)])) (fun t k => XS.iloadN X0.here hx rfl (hb hby d9_31) rfl k) ?_
      refine Wk.go (A' := s₁.setTop (mkF m 33 #[rv pa, jv bt, .second, iv jx, iv ia, iv nn, jv of, .second, iv mx, iv md, iv ((((bt.toUInt64 >>> (((8 : Int32) * jx) &&& 0x3f).toInt64.toUInt64).toInt64).toInt32).toInt8.toInt32), .unset, .unset] [(.int (fU (jx).toNatClampNeg))])) (fun t k => own_ldB X0 hx hZ e0 VP (j := jx) hjx (g := (mkF m 32 #[rv pa, jv bt, .second, iv jx, iv ia, iv nn, jv of, .second, iv mx, iv md, iv ((((bt.toUInt64 >>> (((8 : Int32) * jx) &&& 0x3f).toInt64.toUInt64).toInt64).toInt32).toInt8.toInt32), .unset, .unset] [(.int jx), (.ref pa)])) rfl rfl (hb hby d9_32) t k) ?_
      refine Wk.go (A' := s₁.setTop (mkF m 35 #[rv pa, jv bt, .second, iv jx, iv ia, iv nn, jv of, .second, iv mx, iv md, iv ((((bt.toUInt64 >>> (((8 : Int32) * jx) &&& 0x3f).toInt64.toUInt64).toInt64).toInt32).toInt8.toInt32), .unset, .unset] [(.int ((((bt.toUInt64 >>> (((8 : Int32) * jx) &&& 0x3f).toInt64.toUInt64).toInt64).toInt32).toInt8.toInt32)), (.int (fU (jx).toNatClampNeg))])) (fun t k => XS.iload X0.here hx rfl (hb hby d9_33) rfl k) ?_
      by_cases hc35 : (fU (jx).toNatClampNeg) = ((((bt.toUInt64 >>> (((8 : Int32) * jx) &&& 0x3f).toInt64.toUInt64).toInt64).toInt32).toInt8.toInt32)
      · refine Wk.go (A' := s₁.setTop (mkF m 38 #[rv pa, jv bt, .second, iv jx, iv ia, iv nn, jv of, .second, iv mx, iv md, iv ((((bt.toUInt64 >>> (((8 : Int32) * jx) &&& 0x3f).toInt64.toUInt64).toInt64).toInt32).toInt8.toInt32), .unset, .unset] [])) (fun t k => XS.icmpNo X0.here hx rfl (hb hby d9_35) rfl (teq hc35).2 k) ?_
        refine Wk.go (A' := s₁.setTop (mkF m 39 #[rv pa, jv bt, .second, iv jx, iv ia, iv nn, jv of, .second, iv mx, iv md, iv ((((bt.toUInt64 >>> (((8 : Int32) * jx) &&& 0x3f).toInt64.toUInt64).toInt64).toInt32).toInt8.toInt32), .unset, .unset] [(.int (1 : Int32))])) (fun t k => XS.iconst X0.here hx rfl (hb hby d9_38) k) ?_
        refine Wk.go (A' := s₁.setTop (mkF m 43 #[rv pa, jv bt, .second, iv jx, iv ia, iv nn, jv of, .second, iv mx, iv md, iv ((((bt.toUInt64 >>> (((8 : Int32) * jx) &&& 0x3f).toInt64.toUInt64).toInt64).toInt32).toInt8.toInt32), .unset, .unset] [(.int (1 : Int32))])) (fun t k => XS.goto X0.here hx rfl (pc0 := 39) (pc' := 43) rfl (hb hby d9_39) (by decide) (by decide) k) ?_
        refine own_fin (Qv := Q9 Z pa bt jx ia nn of mx md fU h0 n0) (v := some (.int (1 : Int32))) X0 hlk (fun h => by rw [Bd.returns] at h; cases h) (fun fs hr => retN X0 hx (t := .boolean) Bd.returns (by simp) (hb hby d9_43) hr) ?_ (by decide) (by decide)
        refine ⟨?_, N0, e0⟩
        simp only [f_cell, if_neg hc12, if_pos hc18, if_pos hc35]
      · refine Wk.go (A' := s₁.setTop (mkF m 42 #[rv pa, jv bt, .second, iv jx, iv ia, iv nn, jv of, .second, iv mx, iv md, iv ((((bt.toUInt64 >>> (((8 : Int32) * jx) &&& 0x3f).toInt64.toUInt64).toInt64).toInt32).toInt8.toInt32), .unset, .unset] [])) (fun t k => XS.icmpYes X0.here hx rfl (pc0 := 35) (pc' := 42) rfl (hb hby d9_35) rfl (feq hc35).2 (by decide) (by decide) k) ?_
        refine Wk.go (A' := s₁.setTop (mkF m 43 #[rv pa, jv bt, .second, iv jx, iv ia, iv nn, jv of, .second, iv mx, iv md, iv ((((bt.toUInt64 >>> (((8 : Int32) * jx) &&& 0x3f).toInt64.toUInt64).toInt64).toInt32).toInt8.toInt32), .unset, .unset] [(.int (0 : Int32))])) (fun t k => XS.iconst X0.here hx rfl (hb hby d9_42) k) ?_
        refine own_fin (Qv := Q9 Z pa bt jx ia nn of mx md fU h0 n0) (v := some (.int (0 : Int32))) X0 hlk (fun h => by rw [Bd.returns] at h; cases h) (fun fs hr => retN X0 hx (t := .boolean) Bd.returns (by simp) (hb hby d9_43) hr) ?_ (by decide) (by decide)
        refine ⟨?_, N0, e0⟩
        simp only [f_cell, if_neg hc12, if_pos hc18, if_neg hc35]
    · refine Wk.go (A' := s₁.setTop (mkF m 21 #[rv pa, jv bt, .second, iv jx, iv ia, iv nn, jv of, .second, iv mx, iv md, iv ((((bt.toUInt64 >>> (((8 : Int32) * jx) &&& 0x3f).toInt64.toUInt64).toInt64).toInt32).toInt8.toInt32), .unset, .unset] [])) (fun t k => XS.icmpNo X0.here hx rfl (hb hby d9_18) rfl (flt hc18).1 k) ?_
      refine Wk.go (A' := s₁.setTop (mkF m 22 #[rv pa, jv bt, .second, iv jx, iv ia, iv nn, jv of, .second, iv mx, iv md, iv ((((bt.toUInt64 >>> (((8 : Int32) * jx) &&& 0x3f).toInt64.toUInt64).toInt64).toInt32).toInt8.toInt32), .unset, .unset] [(.int jx)])) (fun t k => XS.iloadN X0.here hx rfl (hb hby d9_21) rfl k) ?_
      refine Wk.go (A' := s₁.setTop (mkF m 24 #[rv pa, jv bt, .second, iv jx, iv ia, iv nn, jv of, .second, iv mx, iv md, iv ((((bt.toUInt64 >>> (((8 : Int32) * jx) &&& 0x3f).toInt64.toUInt64).toInt64).toInt32).toInt8.toInt32), .unset, .unset] [(.int ia), (.int jx)])) (fun t k => XS.iload X0.here hx rfl (hb hby d9_22) rfl k) ?_
      refine Wk.go (A' := s₁.setTop (mkF m 26 #[rv pa, jv bt, .second, iv jx, iv ia, iv nn, jv of, .second, iv mx, iv md, iv ((((bt.toUInt64 >>> (((8 : Int32) * jx) &&& 0x3f).toInt64.toUInt64).toInt64).toInt32).toInt8.toInt32), .unset, .unset] [(.int nn), (.int ia), (.int jx)])) (fun t k => XS.iload X0.here hx rfl (hb hby d9_24) rfl k) ?_
      refine Wk.go (A' := s₁.setTop (mkF m 27 #[rv pa, jv bt, .second, iv jx, iv ia, iv nn, jv of, .second, iv mx, iv md, iv ((((bt.toUInt64 >>> (((8 : Int32) * jx) &&& 0x3f).toInt64.toUInt64).toInt64).toInt32).toInt8.toInt32), .unset, .unset] [(.int (ia + nn)), (.int jx)])) (fun t k => XS.iadd X0.here hx rfl (hb hby d9_26) rfl k) ?_
      by_cases hc27 : jx < (ia + nn)
      · refine Wk.go (A' := s₁.setTop (mkF m 44 #[rv pa, jv bt, .second, iv jx, iv ia, iv nn, jv of, .second, iv mx, iv md, iv ((((bt.toUInt64 >>> (((8 : Int32) * jx) &&& 0x3f).toInt64.toUInt64).toInt64).toInt32).toInt8.toInt32), .unset, .unset] [])) (fun t k => XS.icmpYes X0.here hx rfl (pc0 := 27) (pc' := 44) rfl (hb hby d9_27) rfl (tlt hc27).1 (by decide) (by decide) k) ?_
        refine Wk.go (A' := s₁.setTop (mkF m 46 #[rv pa, jv bt, .second, iv jx, iv ia, iv nn, jv of, .second, iv mx, iv md, iv ((((bt.toUInt64 >>> (((8 : Int32) * jx) &&& 0x3f).toInt64.toUInt64).toInt64).toInt32).toInt8.toInt32), .unset, .unset] [(.long of)])) (fun t k => XS.lload X0.here hx rfl (hb hby d9_44) rfl k) ?_
        refine Wk.go (A' := s₁.setTop (mkF m 49 #[rv pa, jv bt, .second, iv jx, iv ia, iv nn, jv of, .second, iv mx, iv md, iv ((((bt.toUInt64 >>> (((8 : Int32) * jx) &&& 0x3f).toInt64.toUInt64).toInt64).toInt32).toInt8.toInt32), .unset, .unset] [(.long (3 : Int64)), (.long of)])) (fun t k => X0.ldc2Long hx hown (mvT hZ (tw66 hw)) (g := (mkF m 46 #[rv pa, jv bt, .second, iv jx, iv ia, iv nn, jv of, .second, iv mx, iv md, iv ((((bt.toUInt64 >>> (((8 : Int32) * jx) &&& 0x3f).toInt64.toUInt64).toInt64).toInt32).toInt8.toInt32), .unset, .unset] [(.long of)])) rfl (hb hby d9_46) t k) ?_
        refine Wk.go (A' := s₁.setTop (mkF m 50 #[rv pa, jv bt, .second, iv jx, iv ia, iv nn, jv of, .second, iv mx, iv md, iv ((((bt.toUInt64 >>> (((8 : Int32) * jx) &&& 0x3f).toInt64.toUInt64).toInt64).toInt32).toInt8.toInt32), .unset, .unset] [(.long (of &&& (3 : Int64)))])) (fun t k => XS.land X0.here hx rfl (hb hby d9_49) rfl k) ?_
        refine Wk.go (A' := s₁.setTop (mkF m 51 #[rv pa, jv bt, .second, iv jx, iv ia, iv nn, jv of, .second, iv mx, iv md, iv ((((bt.toUInt64 >>> (((8 : Int32) * jx) &&& 0x3f).toInt64.toUInt64).toInt64).toInt32).toInt8.toInt32), .unset, .unset] [(.int ((of &&& (3 : Int64)).toInt32))])) (fun t k => XS.l2i X0.here hx rfl (hb hby d9_50) rfl k) ?_
        refine Wk.go (A' := s₁.setTop (mkF m 52 #[rv pa, jv bt, .second, iv jx, iv ia, iv nn, jv of, .second, iv mx, iv md, iv ((((bt.toUInt64 >>> (((8 : Int32) * jx) &&& 0x3f).toInt64.toUInt64).toInt64).toInt32).toInt8.toInt32), .unset, .unset] [(.int jx), (.int ((of &&& (3 : Int64)).toInt32))])) (fun t k => XS.iloadN X0.here hx rfl (hb hby d9_51) rfl k) ?_
        refine Wk.go (A' := s₁.setTop (mkF m 54 #[rv pa, jv bt, .second, iv jx, iv ia, iv nn, jv of, .second, iv mx, iv md, iv ((((bt.toUInt64 >>> (((8 : Int32) * jx) &&& 0x3f).toInt64.toUInt64).toInt64).toInt32).toInt8.toInt32), .unset, .unset] [(.int ia), (.int jx), (.int ((of &&& (3 : Int64)).toInt32))])) (fun t k => XS.iload X0.here hx rfl (hb hby d9_52) rfl k) ?_
        refine Wk.go (A' := s₁.setTop (mkF m 55 #[rv pa, jv bt, .second, iv jx, iv ia, iv nn, jv of, .second, iv mx, iv md, iv ((((bt.toUInt64 >>> (((8 : Int32) * jx) &&& 0x3f).toInt64.toUInt64).toInt64).toInt32).toInt8.toInt32), .unset, .unset] [(.int (jx - ia)), (.int ((of &&& (3 : Int64)).toInt32))])) (fun t k => XS.isub X0.here hx rfl (hb hby d9_54) rfl k) ?_
        refine Wk.go (A' := s₁.setTop (mkF m 56 #[rv pa, jv bt, .second, iv jx, iv ia, iv nn, jv of, .second, iv mx, iv md, iv ((((bt.toUInt64 >>> (((8 : Int32) * jx) &&& 0x3f).toInt64.toUInt64).toInt64).toInt32).toInt8.toInt32), .unset, .unset] [(.int (((of &&& (3 : Int64)).toInt32) + (jx - ia)))])) (fun t k => XS.iadd X0.here hx rfl (hb hby d9_55) rfl k) ?_
        refine Wk.go (A' := s₁.setTop (mkF m 57 #[rv pa, jv bt, .second, iv jx, iv ia, iv nn, jv of, .second, iv mx, iv md, iv ((((bt.toUInt64 >>> (((8 : Int32) * jx) &&& 0x3f).toInt64.toUInt64).toInt64).toInt32).toInt8.toInt32), .unset, .unset] [(.int (3 : Int32)), (.int (((of &&& (3 : Int64)).toInt32) + (jx - ia)))])) (fun t k => XS.iconst X0.here hx rfl (hb hby d9_56) k) ?_
        refine Wk.go (A' := s₁.setTop (mkF m 58 #[rv pa, jv bt, .second, iv jx, iv ia, iv nn, jv of, .second, iv mx, iv md, iv ((((bt.toUInt64 >>> (((8 : Int32) * jx) &&& 0x3f).toInt64.toUInt64).toInt64).toInt32).toInt8.toInt32), .unset, .unset] [(.int ((((of &&& (3 : Int64)).toInt32) + (jx - ia)) &&& (3 : Int32)))])) (fun t k => XS.iand X0.here hx rfl (hb hby d9_57) rfl k) ?_
        refine Wk.go (A' := s₁.setTop (mkF m 60 #[rv pa, jv bt, .second, iv jx, iv ia, iv nn, jv of, .second, iv mx, iv md, iv ((((bt.toUInt64 >>> (((8 : Int32) * jx) &&& 0x3f).toInt64.toUInt64).toInt64).toInt32).toInt8.toInt32), iv ((((of &&& (3 : Int64)).toInt32) + (jx - ia)) &&& (3 : Int32)), .unset] [])) (fun t k => XS.istore X0.here hx rfl (hb hby d9_58) rfl (l' := #[rv pa, jv bt, .second, iv jx, iv ia, iv nn, jv of, .second, iv mx, iv md, iv ((((bt.toUInt64 >>> (((8 : Int32) * jx) &&& 0x3f).toInt64.toUInt64).toInt64).toInt32).toInt8.toInt32), iv ((((of &&& (3 : Int64)).toInt32) + (jx - ia)) &&& (3 : Int32)), .unset]) rfl k) ?_
        refine Wk.go (A' := s₁.setTop (mkF m 62 #[rv pa, jv bt, .second, iv jx, iv ia, iv nn, jv of, .second, iv mx, iv md, iv ((((bt.toUInt64 >>> (((8 : Int32) * jx) &&& 0x3f).toInt64.toUInt64).toInt64).toInt32).toInt8.toInt32), iv ((((of &&& (3 : Int64)).toInt32) + (jx - ia)) &&& (3 : Int32)), .unset] [(.int mx)])) (fun t k => XS.iload X0.here hx rfl (hb hby d9_60) rfl k) ?_
        refine Wk.go (A' := s₁.setTop (mkF m 64 #[rv pa, jv bt, .second, iv jx, iv ia, iv nn, jv of, .second, iv mx, iv md, iv ((((bt.toUInt64 >>> (((8 : Int32) * jx) &&& 0x3f).toInt64.toUInt64).toInt64).toInt32).toInt8.toInt32), iv ((((of &&& (3 : Int64)).toInt32) + (jx - ia)) &&& (3 : Int32)), .unset] [(.int (24 : Int32)), (.int mx)])) (fun t k => XS.bipush X0.here hx rfl (hb hby d9_62) k) ?_
        refine Wk.go (A' := s₁.setTop (mkF m 66 #[rv pa, jv bt, .second, iv jx, iv ia, iv nn, jv of, .second, iv mx, iv md, iv ((((bt.toUInt64 >>> (((8 : Int32) * jx) &&& 0x3f).toInt64.toUInt64).toInt64).toInt32).toInt8.toInt32), iv ((((of &&& (3 : Int64)).toInt32) + (jx - ia)) &&& (3 : Int32)), .unset] [(.int (8 : Int32)), (.int (24 : Int32)), (.int mx)])) (fun t k => XS.bipush X0.here hx rfl (hb hby d9_64) k) ?_
        refine Wk.go (A' := s₁.setTop (mkF m 68 #[rv pa, jv bt, .second, iv jx, iv ia, iv nn, jv of, .second, iv mx, iv md, iv ((((bt.toUInt64 >>> (((8 : Int32) * jx) &&& 0x3f).toInt64.toUInt64).toInt64).toInt32).toInt8.toInt32), iv ((((of &&& (3 : Int64)).toInt32) + (jx - ia)) &&& (3 : Int32)), .unset] [(.int ((((of &&& (3 : Int64)).toInt32) + (jx - ia)) &&& (3 : Int32))), (.int (8 : Int32)), (.int (24 : Int32)), (.int mx)])) (fun t k => XS.iload X0.here hx rfl (hb hby d9_66) rfl k) ?_
        refine Wk.go (A' := s₁.setTop (mkF m 69 #[rv pa, jv bt, .second, iv jx, iv ia, iv nn, jv of, .second, iv mx, iv md, iv ((((bt.toUInt64 >>> (((8 : Int32) * jx) &&& 0x3f).toInt64.toUInt64).toInt64).toInt32).toInt8.toInt32), iv ((((of &&& (3 : Int64)).toInt32) + (jx - ia)) &&& (3 : Int32)), .unset] [(.int ((8 : Int32) * ((((of &&& (3 : Int64)).toInt32) + (jx - ia)) &&& (3 : Int32)))), (.int (24 : Int32)), (.int mx)])) (fun t k => XS.imul X0.here hx rfl (hb hby d9_68) rfl k) ?_
        refine Wk.go (A' := s₁.setTop (mkF m 70 #[rv pa, jv bt, .second, iv jx, iv ia, iv nn, jv of, .second, iv mx, iv md, iv ((((bt.toUInt64 >>> (((8 : Int32) * jx) &&& 0x3f).toInt64.toUInt64).toInt64).toInt32).toInt8.toInt32), iv ((((of &&& (3 : Int64)).toInt32) + (jx - ia)) &&& (3 : Int32)), .unset] [(.int ((24 : Int32) - ((8 : Int32) * ((((of &&& (3 : Int64)).toInt32) + (jx - ia)) &&& (3 : Int32))))), (.int mx)])) (fun t k => XS.isub X0.here hx rfl (hb hby d9_69) rfl k) ?_
        refine Wk.go (A' := s₁.setTop (mkF m 71 #[rv pa, jv bt, .second, iv jx, iv ia, iv nn, jv of, .second, iv mx, iv md, iv ((((bt.toUInt64 >>> (((8 : Int32) * jx) &&& 0x3f).toInt64.toUInt64).toInt64).toInt32).toInt8.toInt32), iv ((((of &&& (3 : Int64)).toInt32) + (jx - ia)) &&& (3 : Int32)), .unset] [(.int ((mx.toUInt32 >>> (((24 : Int32) - ((8 : Int32) * ((((of &&& (3 : Int64)).toInt32) + (jx - ia)) &&& (3 : Int32)))) &&& 31).toUInt32).toInt32))])) (fun t k => XS.iushr X0.here hx rfl (hb hby d9_70) rfl k) ?_
        refine Wk.go (A' := s₁.setTop (mkF m 72 #[rv pa, jv bt, .second, iv jx, iv ia, iv nn, jv of, .second, iv mx, iv md, iv ((((bt.toUInt64 >>> (((8 : Int32) * jx) &&& 0x3f).toInt64.toUInt64).toInt64).toInt32).toInt8.toInt32), iv ((((of &&& (3 : Int64)).toInt32) + (jx - ia)) &&& (3 : Int32)), .unset] [(.int (((mx.toUInt32 >>> (((24 : Int32) - ((8 : Int32) * ((((of &&& (3 : Int64)).toInt32) + (jx - ia)) &&& (3 : Int32)))) &&& 31).toUInt32).toInt32).toInt8.toInt32))])) (fun t k => XS.i2b X0.here hx rfl (hb hby d9_71) rfl k) ?_
        refine Wk.go (A' := s₁.setTop (mkF m 74 #[rv pa, jv bt, .second, iv jx, iv ia, iv nn, jv of, .second, iv mx, iv md, iv ((((bt.toUInt64 >>> (((8 : Int32) * jx) &&& 0x3f).toInt64.toUInt64).toInt64).toInt32).toInt8.toInt32), iv ((((of &&& (3 : Int64)).toInt32) + (jx - ia)) &&& (3 : Int32)), iv (((mx.toUInt32 >>> (((24 : Int32) - ((8 : Int32) * ((((of &&& (3 : Int64)).toInt32) + (jx - ia)) &&& (3 : Int32)))) &&& 31).toUInt32).toInt32).toInt8.toInt32)] [])) (fun t k => XS.istore X0.here hx rfl (hb hby d9_72) rfl (l' := #[rv pa, jv bt, .second, iv jx, iv ia, iv nn, jv of, .second, iv mx, iv md, iv ((((bt.toUInt64 >>> (((8 : Int32) * jx) &&& 0x3f).toInt64.toUInt64).toInt64).toInt32).toInt8.toInt32), iv ((((of &&& (3 : Int64)).toInt32) + (jx - ia)) &&& (3 : Int32)), iv (((mx.toUInt32 >>> (((24 : Int32) - ((8 : Int32) * ((((of &&& (3 : Int64)).toInt32) + (jx - ia)) &&& (3 : Int32)))) &&& 31).toUInt32).toInt32).toInt8.toInt32)]) rfl k) ?_
        refine Wk.go (A' := s₁.setTop (mkF m 75 #[rv pa, jv bt, .second, iv jx, iv ia, iv nn, jv of, .second, iv mx, iv md, iv ((((bt.toUInt64 >>> (((8 : Int32) * jx) &&& 0x3f).toInt64.toUInt64).toInt64).toInt32).toInt8.toInt32), iv ((((of &&& (3 : Int64)).toInt32) + (jx - ia)) &&& (3 : Int32)), iv (((mx.toUInt32 >>> (((24 : Int32) - ((8 : Int32) * ((((of &&& (3 : Int64)).toInt32) + (jx - ia)) &&& (3 : Int32)))) &&& 31).toUInt32).toInt32).toInt8.toInt32)] [(.ref pa)])) (fun t k => XS.aloadN X0.here hx rfl (hb hby d9_74) rfl rfl k) ?_
        refine Wk.go (A' := s₁.setTop (mkF m 76 #[rv pa, jv bt, .second, iv jx, iv ia, iv nn, jv of, .second, iv mx, iv md, iv ((((bt.toUInt64 >>> (((8 : Int32) * jx) &&& 0x3f).toInt64.toUInt64).toInt64).toInt32).toInt8.toInt32), iv ((((of &&& (3 : Int64)).toInt32) + (jx - ia)) &&& (3 : Int32)), iv (((mx.toUInt32 >>> (((24 : Int32) - ((8 : Int32) * ((((of &&& (3 : Int64)).toInt32) + (jx - ia)) &&& (3 : Int32)))) &&& 31).toUInt32).toInt32).toInt8.toInt32)] [(.int jx), (.ref pa)])) (fun t k => XS.iloadN X0.here hx rfl (hb hby d9_75) rfl k) ?_
        refine Wk.go (A' := s₁.setTop (mkF m 77 #[rv pa, jv bt, .second, iv jx, iv ia, iv nn, jv of, .second, iv mx, iv md, iv ((((bt.toUInt64 >>> (((8 : Int32) * jx) &&& 0x3f).toInt64.toUInt64).toInt64).toInt32).toInt8.toInt32), iv ((((of &&& (3 : Int64)).toInt32) + (jx - ia)) &&& (3 : Int32)), iv (((mx.toUInt32 >>> (((24 : Int32) - ((8 : Int32) * ((((of &&& (3 : Int64)).toInt32) + (jx - ia)) &&& (3 : Int32)))) &&& 31).toUInt32).toInt32).toInt8.toInt32)] [(.int (fU (jx).toNatClampNeg))])) (fun t k => own_ldB X0 hx hZ e0 VP (j := jx) hjx (g := (mkF m 76 #[rv pa, jv bt, .second, iv jx, iv ia, iv nn, jv of, .second, iv mx, iv md, iv ((((bt.toUInt64 >>> (((8 : Int32) * jx) &&& 0x3f).toInt64.toUInt64).toInt64).toInt32).toInt8.toInt32), iv ((((of &&& (3 : Int64)).toInt32) + (jx - ia)) &&& (3 : Int32)), iv (((mx.toUInt32 >>> (((24 : Int32) - ((8 : Int32) * ((((of &&& (3 : Int64)).toInt32) + (jx - ia)) &&& (3 : Int32)))) &&& 31).toUInt32).toInt32).toInt8.toInt32)] [(.int jx), (.ref pa)])) rfl rfl (hb hby d9_76) t k) ?_
        refine Wk.go (A' := s₁.setTop (mkF m 79 #[rv pa, jv bt, .second, iv jx, iv ia, iv nn, jv of, .second, iv mx, iv md, iv ((((bt.toUInt64 >>> (((8 : Int32) * jx) &&& 0x3f).toInt64.toUInt64).toInt64).toInt32).toInt8.toInt32), iv ((((of &&& (3 : Int64)).toInt32) + (jx - ia)) &&& (3 : Int32)), iv (((mx.toUInt32 >>> (((24 : Int32) - ((8 : Int32) * ((((of &&& (3 : Int64)).toInt32) + (jx - ia)) &&& (3 : Int32)))) &&& 31).toUInt32).toInt32).toInt8.toInt32)] [(.int ((((bt.toUInt64 >>> (((8 : Int32) * jx) &&& 0x3f).toInt64.toUInt64).toInt64).toInt32).toInt8.toInt32)), (.int (fU (jx).toNatClampNeg))])) (fun t k => XS.iload X0.here hx rfl (hb hby d9_77) rfl k) ?_
        refine Wk.go (A' := s₁.setTop (mkF m 81 #[rv pa, jv bt, .second, iv jx, iv ia, iv nn, jv of, .second, iv mx, iv md, iv ((((bt.toUInt64 >>> (((8 : Int32) * jx) &&& 0x3f).toInt64.toUInt64).toInt64).toInt32).toInt8.toInt32), iv ((((of &&& (3 : Int64)).toInt32) + (jx - ia)) &&& (3 : Int32)), iv (((mx.toUInt32 >>> (((24 : Int32) - ((8 : Int32) * ((((of &&& (3 : Int64)).toInt32) + (jx - ia)) &&& (3 : Int32)))) &&& 31).toUInt32).toInt32).toInt8.toInt32)] [(.int (((mx.toUInt32 >>> (((24 : Int32) - ((8 : Int32) * ((((of &&& (3 : Int64)).toInt32) + (jx - ia)) &&& (3 : Int32)))) &&& 31).toUInt32).toInt32).toInt8.toInt32)), (.int ((((bt.toUInt64 >>> (((8 : Int32) * jx) &&& 0x3f).toInt64.toUInt64).toInt64).toInt32).toInt8.toInt32)), (.int (fU (jx).toNatClampNeg))])) (fun t k => XS.iload X0.here hx rfl (hb hby d9_79) rfl k) ?_
        refine Wk.go (A' := s₁.setTop (mkF m 82 #[rv pa, jv bt, .second, iv jx, iv ia, iv nn, jv of, .second, iv mx, iv md, iv ((((bt.toUInt64 >>> (((8 : Int32) * jx) &&& 0x3f).toInt64.toUInt64).toInt64).toInt32).toInt8.toInt32), iv ((((of &&& (3 : Int64)).toInt32) + (jx - ia)) &&& (3 : Int32)), iv (((mx.toUInt32 >>> (((24 : Int32) - ((8 : Int32) * ((((of &&& (3 : Int64)).toInt32) + (jx - ia)) &&& (3 : Int32)))) &&& 31).toUInt32).toInt32).toInt8.toInt32)] [(.int (((((bt.toUInt64 >>> (((8 : Int32) * jx) &&& 0x3f).toInt64.toUInt64).toInt64).toInt32).toInt8.toInt32) ^^^ (((mx.toUInt32 >>> (((24 : Int32) - ((8 : Int32) * ((((of &&& (3 : Int64)).toInt32) + (jx - ia)) &&& (3 : Int32)))) &&& 31).toUInt32).toInt32).toInt8.toInt32))), (.int (fU (jx).toNatClampNeg))])) (fun t k => XS.ixor X0.here hx rfl (hb hby d9_81) rfl k) ?_
        refine Wk.go (A' := s₁.setTop (mkF m 83 #[rv pa, jv bt, .second, iv jx, iv ia, iv nn, jv of, .second, iv mx, iv md, iv ((((bt.toUInt64 >>> (((8 : Int32) * jx) &&& 0x3f).toInt64.toUInt64).toInt64).toInt32).toInt8.toInt32), iv ((((of &&& (3 : Int64)).toInt32) + (jx - ia)) &&& (3 : Int32)), iv (((mx.toUInt32 >>> (((24 : Int32) - ((8 : Int32) * ((((of &&& (3 : Int64)).toInt32) + (jx - ia)) &&& (3 : Int32)))) &&& 31).toUInt32).toInt32).toInt8.toInt32)] [(.int ((((((bt.toUInt64 >>> (((8 : Int32) * jx) &&& 0x3f).toInt64.toUInt64).toInt64).toInt32).toInt8.toInt32) ^^^ (((mx.toUInt32 >>> (((24 : Int32) - ((8 : Int32) * ((((of &&& (3 : Int64)).toInt32) + (jx - ia)) &&& (3 : Int32)))) &&& 31).toUInt32).toInt32).toInt8.toInt32)).toInt8.toInt32)), (.int (fU (jx).toNatClampNeg))])) (fun t k => XS.i2b X0.here hx rfl (hb hby d9_82) rfl k) ?_
        by_cases hc83 : (fU (jx).toNatClampNeg) = ((((((bt.toUInt64 >>> (((8 : Int32) * jx) &&& 0x3f).toInt64.toUInt64).toInt64).toInt32).toInt8.toInt32) ^^^ (((mx.toUInt32 >>> (((24 : Int32) - ((8 : Int32) * ((((of &&& (3 : Int64)).toInt32) + (jx - ia)) &&& (3 : Int32)))) &&& 31).toUInt32).toInt32).toInt8.toInt32)).toInt8.toInt32)
        · refine Wk.go (A' := s₁.setTop (mkF m 86 #[rv pa, jv bt, .second, iv jx, iv ia, iv nn, jv of, .second, iv mx, iv md, iv ((((bt.toUInt64 >>> (((8 : Int32) * jx) &&& 0x3f).toInt64.toUInt64).toInt64).toInt32).toInt8.toInt32), iv ((((of &&& (3 : Int64)).toInt32) + (jx - ia)) &&& (3 : Int32)), iv (((mx.toUInt32 >>> (((24 : Int32) - ((8 : Int32) * ((((of &&& (3 : Int64)).toInt32) + (jx - ia)) &&& (3 : Int32)))) &&& 31).toUInt32).toInt32).toInt8.toInt32)] [])) (fun t k => XS.icmpNo X0.here hx rfl (hb hby d9_83) rfl (teq hc83).2 k) ?_
          refine Wk.go (A' := s₁.setTop (mkF m 87 #[rv pa, jv bt, .second, iv jx, iv ia, iv nn, jv of, .second, iv mx, iv md, iv ((((bt.toUInt64 >>> (((8 : Int32) * jx) &&& 0x3f).toInt64.toUInt64).toInt64).toInt32).toInt8.toInt32), iv ((((of &&& (3 : Int64)).toInt32) + (jx - ia)) &&& (3 : Int32)), iv (((mx.toUInt32 >>> (((24 : Int32) - ((8 : Int32) * ((((of &&& (3 : Int64)).toInt32) + (jx - ia)) &&& (3 : Int32)))) &&& 31).toUInt32).toInt32).toInt8.toInt32)] [(.int (1 : Int32))])) (fun t k => XS.iconst X0.here hx rfl (hb hby d9_86) k) ?_
          refine Wk.go (A' := s₁.setTop (mkF m 91 #[rv pa, jv bt, .second, iv jx, iv ia, iv nn, jv of, .second, iv mx, iv md, iv ((((bt.toUInt64 >>> (((8 : Int32) * jx) &&& 0x3f).toInt64.toUInt64).toInt64).toInt32).toInt8.toInt32), iv ((((of &&& (3 : Int64)).toInt32) + (jx - ia)) &&& (3 : Int32)), iv (((mx.toUInt32 >>> (((24 : Int32) - ((8 : Int32) * ((((of &&& (3 : Int64)).toInt32) + (jx - ia)) &&& (3 : Int32)))) &&& 31).toUInt32).toInt32).toInt8.toInt32)] [(.int (1 : Int32))])) (fun t k => XS.goto X0.here hx rfl (pc0 := 87) (pc' := 91) rfl (hb hby d9_87) (by decide) (by decide) k) ?_
          refine own_fin (Qv := Q9 Z pa bt jx ia nn of mx md fU h0 n0) (v := some (.int (1 : Int32))) X0 hlk (fun h => by rw [Bd.returns] at h; cases h) (fun fs hr => retN X0 hx (t := .boolean) Bd.returns (by simp) (hb hby d9_91) hr) ?_ (by decide) (by decide)
          refine ⟨?_, N0, e0⟩
          simp only [f_cell, if_neg hc12, if_neg hc18, if_pos hc27, if_pos hc83]
        · refine Wk.go (A' := s₁.setTop (mkF m 90 #[rv pa, jv bt, .second, iv jx, iv ia, iv nn, jv of, .second, iv mx, iv md, iv ((((bt.toUInt64 >>> (((8 : Int32) * jx) &&& 0x3f).toInt64.toUInt64).toInt64).toInt32).toInt8.toInt32), iv ((((of &&& (3 : Int64)).toInt32) + (jx - ia)) &&& (3 : Int32)), iv (((mx.toUInt32 >>> (((24 : Int32) - ((8 : Int32) * ((((of &&& (3 : Int64)).toInt32) + (jx - ia)) &&& (3 : Int32)))) &&& 31).toUInt32).toInt32).toInt8.toInt32)] [])) (fun t k => XS.icmpYes X0.here hx rfl (pc0 := 83) (pc' := 90) rfl (hb hby d9_83) rfl (feq hc83).2 (by decide) (by decide) k) ?_
          refine Wk.go (A' := s₁.setTop (mkF m 91 #[rv pa, jv bt, .second, iv jx, iv ia, iv nn, jv of, .second, iv mx, iv md, iv ((((bt.toUInt64 >>> (((8 : Int32) * jx) &&& 0x3f).toInt64.toUInt64).toInt64).toInt32).toInt8.toInt32), iv ((((of &&& (3 : Int64)).toInt32) + (jx - ia)) &&& (3 : Int32)), iv (((mx.toUInt32 >>> (((24 : Int32) - ((8 : Int32) * ((((of &&& (3 : Int64)).toInt32) + (jx - ia)) &&& (3 : Int32)))) &&& 31).toUInt32).toInt32).toInt8.toInt32)] [(.int (0 : Int32))])) (fun t k => XS.iconst X0.here hx rfl (hb hby d9_90) k) ?_
          refine own_fin (Qv := Q9 Z pa bt jx ia nn of mx md fU h0 n0) (v := some (.int (0 : Int32))) X0 hlk (fun h => by rw [Bd.returns] at h; cases h) (fun fs hr => retN X0 hx (t := .boolean) Bd.returns (by simp) (hb hby d9_91) hr) ?_ (by decide) (by decide)
          refine ⟨?_, N0, e0⟩
          simp only [f_cell, if_neg hc12, if_neg hc18, if_pos hc27, if_neg hc83]
      · refine Wk.go (A' := s₁.setTop (mkF m 30 #[rv pa, jv bt, .second, iv jx, iv ia, iv nn, jv of, .second, iv mx, iv md, iv ((((bt.toUInt64 >>> (((8 : Int32) * jx) &&& 0x3f).toInt64.toUInt64).toInt64).toInt32).toInt8.toInt32), .unset, .unset] [])) (fun t k => XS.icmpNo X0.here hx rfl (hb hby d9_27) rfl (flt hc27).1 k) ?_
        refine Wk.go (A' := s₁.setTop (mkF m 31 #[rv pa, jv bt, .second, iv jx, iv ia, iv nn, jv of, .second, iv mx, iv md, iv ((((bt.toUInt64 >>> (((8 : Int32) * jx) &&& 0x3f).toInt64.toUInt64).toInt64).toInt32).toInt8.toInt32), .unset, .unset] [(.ref pa)])) (fun t k => XS.aloadN X0.here hx rfl (hb hby d9_30) rfl rfl k) ?_
        refine Wk.go (A' := s₁.setTop (mkF m 32 #[rv pa, jv bt, .second, iv jx, iv ia, iv nn, jv of, .second, iv mx, iv md, iv ((((bt.toUInt64 >>> (((8 : Int32) * jx) &&& 0x3f).toInt64.toUInt64).toInt64).toInt32).toInt8.toInt32), .unset, .unset] [(.int jx), (.ref pa)])) (fun t k => XS.iloadN X0.here hx rfl (hb hby d9_31) rfl k) ?_
        refine Wk.go (A' := s₁.setTop (mkF m 33 #[rv pa, jv bt, .second, iv jx, iv ia, iv nn, jv of, .second, iv mx, iv md, iv ((((bt.toUInt64 >>> (((8 : Int32) * jx) &&& 0x3f).toInt64.toUInt64).toInt64).toInt32).toInt8.toInt32), .unset, .unset] [(.int (fU (jx).toNatClampNeg))])) (fun t k => own_ldB X0 hx hZ e0 VP (j := jx) hjx (g := (mkF m 32 #[rv pa, jv bt, .second, iv jx, iv ia, iv nn, jv of, .second, iv mx, iv md, iv ((((bt.toUInt64 >>> (((8 : Int32) * jx) &&& 0x3f).toInt64.toUInt64).toInt64).toInt32).toInt8.toInt32), .unset, .unset] [(.int jx), (.ref pa)])) rfl rfl (hb hby d9_32) t k) ?_
        refine Wk.go (A' := s₁.setTop (mkF m 35 #[rv pa, jv bt, .second, iv jx, iv ia, iv nn, jv of, .second, iv mx, iv md, iv ((((bt.toUInt64 >>> (((8 : Int32) * jx) &&& 0x3f).toInt64.toUInt64).toInt64).toInt32).toInt8.toInt32), .unset, .unset] [(.int ((((bt.toUInt64 >>> (((8 : Int32) * jx) &&& 0x3f).toInt64.toUInt64).toInt64).toInt32).toInt8.toInt32)), (.int (fU (jx).toNatClampNeg))])) (fun t k => XS.iload X0.here hx rfl (hb hby d9_33) rfl k) ?_
        by_cases hc35 : (fU (jx).toNatClampNeg) = ((((bt.toUInt64 >>> (((8 : Int32) * jx) &&& 0x3f).toInt64.toUInt64).toInt64).toInt32).toInt8.toInt32)
        · refine Wk.go (A' := s₁.setTop (mkF m 38 #[rv pa, jv bt, .second, iv jx, iv ia, iv nn, jv of, .second, iv mx, iv md, iv ((((bt.toUInt64 >>> (((8 : Int32) * jx) &&& 0x3f).toInt64.toUInt64).toInt64).toInt32).toInt8.toInt32), .unset, .unset] [])) (fun t k => XS.icmpNo X0.here hx rfl (hb hby d9_35) rfl (teq hc35).2 k) ?_
          refine Wk.go (A' := s₁.setTop (mkF m 39 #[rv pa, jv bt, .second, iv jx, iv ia, iv nn, jv of, .second, iv mx, iv md, iv ((((bt.toUInt64 >>> (((8 : Int32) * jx) &&& 0x3f).toInt64.toUInt64).toInt64).toInt32).toInt8.toInt32), .unset, .unset] [(.int (1 : Int32))])) (fun t k => XS.iconst X0.here hx rfl (hb hby d9_38) k) ?_
          refine Wk.go (A' := s₁.setTop (mkF m 43 #[rv pa, jv bt, .second, iv jx, iv ia, iv nn, jv of, .second, iv mx, iv md, iv ((((bt.toUInt64 >>> (((8 : Int32) * jx) &&& 0x3f).toInt64.toUInt64).toInt64).toInt32).toInt8.toInt32), .unset, .unset] [(.int (1 : Int32))])) (fun t k => XS.goto X0.here hx rfl (pc0 := 39) (pc' := 43) rfl (hb hby d9_39) (by decide) (by decide) k) ?_
          refine own_fin (Qv := Q9 Z pa bt jx ia nn of mx md fU h0 n0) (v := some (.int (1 : Int32))) X0 hlk (fun h => by rw [Bd.returns] at h; cases h) (fun fs hr => retN X0 hx (t := .boolean) Bd.returns (by simp) (hb hby d9_43) hr) ?_ (by decide) (by decide)
          refine ⟨?_, N0, e0⟩
          simp only [f_cell, if_neg hc12, if_neg hc18, if_neg hc27, if_pos hc35]
        · refine Wk.go (A' := s₁.setTop (mkF m 42 #[rv pa, jv bt, .second, iv jx, iv ia, iv nn, jv of, .second, iv mx, iv md, iv ((((bt.toUInt64 >>> (((8 : Int32) * jx) &&& 0x3f).toInt64.toUInt64).toInt64).toInt32).toInt8.toInt32), .unset, .unset] [])) (fun t k => XS.icmpYes X0.here hx rfl (pc0 := 35) (pc' := 42) rfl (hb hby d9_35) rfl (feq hc35).2 (by decide) (by decide) k) ?_
          refine Wk.go (A' := s₁.setTop (mkF m 43 #[rv pa, jv bt, .second, iv jx, iv ia, iv nn, jv of, .second, iv mx, iv md, iv ((((bt.toUInt64 >>> (((8 : Int32) * jx) &&& 0x3f).toInt64.toUInt64).toInt64).toInt32).toInt8.toInt32), .unset, .unset] [(.int (0 : Int32))])) (fun t k => XS.iconst X0.here hx rfl (hb hby d9_42) k) ?_
          refine own_fin (Qv := Q9 Z pa bt jx ia nn of mx md fU h0 n0) (v := some (.int (0 : Int32))) X0 hlk (fun h => by rw [Bd.returns] at h; cases h) (fun fs hr => retN X0 hx (t := .boolean) Bd.returns (by simp) (hb hby d9_43) hr) ?_ (by decide) (by decide)
          refine ⟨?_, N0, e0⟩
          simp only [f_cell, if_neg hc12, if_neg hc18, if_neg hc27, if_neg hc35]
def own_orig (bt : Int64) (j : Int32) : Int32 := ((((bt.toUInt64 >>> ((((8 : Int32) * j)) &&& 0x3f).toInt64.toUInt64).toInt64).toInt32).toInt8.toInt32)
def own_key (mx k : Int32) : Int32 := ((((mx.toUInt32 >>> (((24 : Int32) - ((8 : Int32) * k)) &&& 31).toUInt32).toInt32)).toInt8.toInt32)
theorem own_lit {z : Int32} {n : Nat} (hn : n < 1000) (h : z.toInt = n) : z = Int32.ofNat n := Int32.toInt_inj.mp (by rw [Int32.toInt_ofNat_small (by omega)]; exact h)
theorem own_sh0 (bt : Int64) : (bt.toUInt64 >>> (((8 : Int32) * (0 : Int32)) &&& 0x3f).toInt64.toUInt64).toInt64 = bt := by
  have : ((((8 : Int32) * (0 : Int32)) &&& 0x3f).toInt64.toUInt64) = (0 : UInt64) := by decide +kernel
  rw [this]; simp
theorem own_sm0 (mx : Int32) : ((mx.toUInt32 >>> (((24 : Int32) - ((8 : Int32) * (3 : Int32))) &&& 31).toUInt32).toInt32) = mx := by
  have : ((((24 : Int32) - ((8 : Int32) * (3 : Int32))) &&& 31).toUInt32) = (0 : UInt32) := by decide +kernel
  rw [this]; simp
theorem own_pay (bt : Int64) (p : Nat → Int32) (h0 : p 0 = (bt.toInt32).toInt8.toInt32) (h1 : p 1 = ((((bt.toUInt64 >>> ((8 : Int32) &&& 0x3f).toInt64.toUInt64).toInt64).toInt32).toInt8.toInt32)) (h2 : p 2 = ((((bt.toUInt64 >>> ((16 : Int32) &&& 0x3f).toInt64.toUInt64).toInt64).toInt32).toInt8.toInt32)) (h3 : p 3 = ((((bt.toUInt64 >>> ((24 : Int32) &&& 0x3f).toInt64.toUInt64).toInt64).toInt32).toInt8.toInt32)) (h4 : p 4 = ((((bt.toUInt64 >>> ((32 : Int32) &&& 0x3f).toInt64.toUInt64).toInt64).toInt32).toInt8.toInt32)) (h5 : p 5 = ((((bt.toUInt64 >>> ((40 : Int32) &&& 0x3f).toInt64.toUInt64).toInt64).toInt32).toInt8.toInt32)) (h6 : p 6 = ((((bt.toUInt64 >>> ((48 : Int32) &&& 0x3f).toInt64.toUInt64).toInt64).toInt32).toInt8.toInt32)) (h7 : p 7 = ((((bt.toUInt64 >>> ((56 : Int32) &&& 0x3f).toInt64.toUInt64).toInt64).toInt32).toInt8.toInt32)) : ∀ j : Int32, 0 ≤ j.toInt → j.toInt < 8 → p j.toNatClampNeg = own_orig bt j := by
  intro j j0 j8
  obtain ⟨n, hn⟩ : ∃ n : Nat, j.toInt = n := ⟨j.toInt.toNat, by omega⟩
  have e := own_lit (show n < 1000 by omega) hn
  have h9 : n < 8 := by omega
  subst e
  clear hn j0 j8
  match n, h9 with
  | 0, _ => show p 0 = own_orig bt 0; rw [h0]; unfold own_orig; rw [own_sh0]
  | 1, _ => show p 1 = own_orig bt 1; rw [h1]; rfl
  | 2, _ => show p 2 = own_orig bt 2; rw [h2]; rfl
  | 3, _ => show p 3 = own_orig bt 3; rw [h3]; rfl
  | 4, _ => show p 4 = own_orig bt 4; rw [h4]; rfl
  | 5, _ => show p 5 = own_orig bt 5; rw [h5]; rfl
  | 6, _ => show p 6 = own_orig bt 6; rw [h6]; rfl
  | 7, _ => show p 7 = own_orig bt 7; rw [h7]; rfl
theorem own_keys (le : Nat) (hle : le ≤ 4) (mx : Int32) (g : Nat → Int32) (h0 : g le = ((((mx.toUInt32 >>> ((24 : Int32) &&& 31).toUInt32).toInt32)).toInt8.toInt32)) (h1 : g (le + 1) = ((((mx.toUInt32 >>> ((16 : Int32) &&& 31).toUInt32).toInt32)).toInt8.toInt32)) (h2 : g (le + 2) = ((((mx.toUInt32 >>> ((8 : Int32) &&& 31).toUInt32).toInt32)).toInt8.toInt32)) (h3 : g (le + 3) = mx.toInt8.toInt32) : ∀ k : Int32, 0 ≤ k.toInt → k.toInt ≤ 3 → g (Int32.ofNat le + k).toNatClampNeg = own_key mx k := by
  intro k k0 k3
  obtain ⟨n, hn⟩ : ∃ n : Nat, k.toInt = n := ⟨k.toInt.toNat, by omega⟩
  have e := own_lit (show n < 1000 by omega) hn
  have hl : (Int32.ofNat le).toInt = le := Int32.toInt_ofNat_small (by omega)
  have ha := (own_add (show 0 ≤ (Int32.ofNat le).toInt by omega) k0 (by omega)).2
  have hi : (Int32.ofNat le + k).toNatClampNeg = le + n := by omega
  rw [hi]
  have h9 : n < 4 := by omega
  subst e
  clear hn k0 k3 hi ha
  match n, h9 with
  | 0, _ => show g le = own_key mx 0; rw [h0]; rfl
  | 1, _ => show g (le + 1) = own_key mx 1; rw [h1]; rfl
  | 2, _ => show g (le + 2) = own_key mx 2; rw [h2]; rfl
  | 3, _ => show g (le + 3) = own_key mx 3; rw [h3]; unfold own_key; rw [own_sm0]
theorem own_cell_u (pa : Addr) (bt : Int64) (ia nn : Int32) (of : Int64) (mx : Int32) (p : Nat → Int32) (hp : ∀ j : Int32, 0 ≤ j.toInt → j.toInt < 8 → p j.toNatClampNeg = own_orig bt j) : ∀ j : Int32, 0 ≤ j.toInt → j.toInt < 8 → ¬ (f_cell pa bt j ia nn of mx (0 : Int32) p = (0 : Int32)) := by
  intro j j0 j8
  unfold f_cell
  rw [if_pos rfl, if_pos]
  · decide
  · exact hp j j0 j8
theorem own_kk_eq (of : Int64) (j ia : Int32) (h : 0 ≤ (j - ia).toInt ∧ (j - ia).toInt < 8) : own_kk of (j - ia) = (((of &&& (3 : Int64)).toInt32) + (j - ia)) &&& (3 : Int32) := by
  apply Int32.toInt_inj.mp
  rw [(own_kk_r of (j - ia)).2.2, c_mask _ 3 2 (by decide) (by decide)]
  have a := c_maskL of 3 2 (by decide) (by decide)
  have b := c_l2i (of &&& (3 : Int64))
  have c := c_iadd ((of &&& (3 : Int64)).toInt32) (j - ia)
  omega
theorem own_cell_m (pa : Addr) (bt : Int64) {ia nn : Int32} (of : Int64) (mx le : Int32) (p g u : Nat → Int32) (hA : 0 ≤ ia.toInt) (hn : 0 ≤ nn.toInt) (hs : ia.toInt + nn.toInt ≤ 8) (hp : ∀ j : Int32, 0 ≤ j.toInt → j.toInt < 8 → p j.toNatClampNeg = own_orig bt j) (hu : u = own_un p g le ia of nn)
    (hg : ∀ k : Int32, 0 ≤ k.toInt → k.toInt ≤ 3 → g (le + k).toNatClampNeg = own_key mx k) : ∀ j : Int32, 0 ≤ j.toInt → j.toInt < 8 → ¬ (f_cell pa bt j ia nn of mx (1 : Int32) u = (0 : Int32)) := by
  intro j j0 j8
  have hcl := own_clamp j0
  have hsum := (own_add hA hn (by omega)).1
  unfold f_cell
  rw [if_neg (by decide)]
  by_cases q1 : j < ia
  · rw [if_pos q1, if_pos]
    · decide
    · rw [Int32.lt_iff_toInt_lt] at q1
      rw [hu]; unfold own_un
      rw [if_neg (by omega)]; exact hp j j0 j8
  · rw [if_neg q1]
    by_cases q2 : j < ia + nn
    · rw [if_pos q2, if_pos]
      · decide
      · rw [Int32.lt_iff_toInt_lt] at q1 q2
        rw [hu]; unfold own_un
        rw [if_pos (by omega), hp j j0 j8]
        have hd := c_isub j ia
        have hr := rng32 (j - ia)
        have hj : (j - ia).toInt = j.toInt - ia.toInt := by omega
        have e : Int32.ofInt ((j.toNatClampNeg : Int) - ia.toInt) = j - ia := by
          rw [hcl, ← hj, Int32.ofInt_toInt]
        rw [e]
        have hk := own_kk_r of (j - ia)
        rw [hg _ hk.1 hk.2.1, own_kk_eq of j ia (by omega)]
        rfl
    · rw [if_neg q2, if_pos]
      · decide
      · rw [Int32.lt_iff_toInt_lt] at q1 q2
        rw [hu]; unfold own_un
        rw [if_neg (by omega)]; exact hp j j0 j8
theorem own_b1m (c : Int32) (h0 : 0 ≤ c.toInt) (h1 : c.toInt < 126) : ¬ (((((((128 : Int32) ||| c)).toInt8.toInt32).toInt8.toInt32) &&& (128 : Int32)) = (0 : Int32)) ∧ (((((((128 : Int32) ||| c)).toInt8.toInt32).toInt8.toInt32) &&& (127 : Int32)) < (126 : Int32)) := by
  obtain ⟨n, hn⟩ : ∃ n : Nat, c.toInt = n := ⟨c.toInt.toNat, by omega⟩
  have e := own_lit (show n < 1000 by omega) hn
  have : ∀ i : Fin 126, ¬ (((((((128 : Int32) ||| Int32.ofNat i.1)).toInt8.toInt32).toInt8.toInt32) &&& (128 : Int32)) = (0 : Int32)) ∧ (((((((128 : Int32) ||| Int32.ofNat i.1)).toInt8.toInt32).toInt8.toInt32) &&& (127 : Int32)) < (126 : Int32)) := by decide +kernel
  rw [e]; exact this ⟨n, by omega⟩
theorem own_b1u (c : Int32) (h0 : 0 ≤ c.toInt) (h1 : c.toInt < 126) : (((((((0 : Int32) ||| c)).toInt8.toInt32).toInt8.toInt32) &&& (128 : Int32)) = (0 : Int32)) ∧ (((((((0 : Int32) ||| c)).toInt8.toInt32).toInt8.toInt32) &&& (127 : Int32)) < (126 : Int32)) := by
  obtain ⟨n, hn⟩ : ∃ n : Nat, c.toInt = n := ⟨c.toInt.toNat, by omega⟩
  have e := own_lit (show n < 1000 by omega) hn
  have : ∀ i : Fin 126, (((((((0 : Int32) ||| Int32.ofNat i.1)).toInt8.toInt32).toInt8.toInt32) &&& (128 : Int32)) = (0 : Int32)) ∧ (((((((0 : Int32) ||| Int32.ofNat i.1)).toInt8.toInt32).toInt8.toInt32) &&& (127 : Int32)) < (126 : Int32)) := by decide +kernel
  rw [e]; exact this ⟨n, by omega⟩
theorem own_cd (q : Int32) : 0 ≤ ((q &&& (127 : Int32)) % (126 : Int32)).toInt ∧ ((q &&& (127 : Int32)) % (126 : Int32)).toInt < 126 := by
  have h1 := c_mask q 127 7 (by decide) (by decide)
  have h2 := (c_irem (q &&& (127 : Int32)) 126 126 (by decide)).1 (by omega)
  omega
theorem own_ia (q : Int32) : 0 ≤ (q &&& (3 : Int32)).toInt ∧ (q &&& (3 : Int32)).toInt ≤ 3 := by
  have h1 := c_mask q 3 2 (by decide) (by decide)
  omega
theorem own_nn (q : Int32) : 0 ≤ ((q &&& (65535 : Int32)) % (6 : Int32)).toInt ∧ ((q &&& (65535 : Int32)) % (6 : Int32)).toInt ≤ 5 := by
  have h1 := c_mask q 65535 16 (by decide) (by decide)
  have h2 := (c_irem (q &&& (65535 : Int32)) 6 6 (by decide)).1 (by omega)
  omega
theorem tw0 {Z : State} {a0 : Array Value} (hw : ∀ d ∈ tables_1, d.before a0 Z = true) : (Jvm.Cond.constant "com/example/dense_envelope/denseenvelope/websocket/FrameHeaderUnmaskPinLaw" (7 : Nat) (65535 : Int32)).before a0 Z = true := hw _ (List.mem_of_getElem? (i := 0) rfl)
theorem tw61 {Z : State} {a0 : Array Value} (hw : ∀ d ∈ tables_1, d.before a0 Z = true) : (Jvm.Cond.methodLink "com/example/dense_envelope/denseenvelope/websocket/FrameHeaderUnmaskPinLaw" (25 : Nat) ({ cls := "com/example/dense_envelope/denseenvelope/websocket/FrameHeaderUnmaskPinLaw", name := "cell", desc := "([BJIIIJIZ)Z" } : Jvm.MethodName)).before a0 Z = true := hw _ (List.mem_of_getElem? (i := 61) rfl)
theorem tw64 {Z : State} {a0 : Array Value} (hw : ∀ d ∈ tables_1, d.before a0 Z = true) : (Jvm.Cond.code ({ cls := "com/example/dense_envelope/denseenvelope/websocket/FrameHeaderUnmaskPinLaw", name := "cell", desc := "([BJIIIJIZ)Z" } : Jvm.MethodName) method_3_code (13 : Nat) (Option.some Jvm.ClassFile.FieldType.boolean)).before a0 Z = true := hw _ (List.mem_of_getElem? (i := 64) rfl)
theorem tw63 {Z : State} {a0 : Array Value} (hw : ∀ d ∈ tables_1, d.before a0 Z = true) : (Jvm.Cond.initialized "com/example/dense_envelope/denseenvelope/websocket/FrameHeaderUnmaskPinLaw").before a0 Z = true := hw _ (List.mem_of_getElem? (i := 63) rfl)
theorem pd_4 : parseMethodDescriptor "([BJIIIJIZ)Z" = some ⟨[(.array .byte), .long, .int, .int, .int, .long, .int, .boolean], some .boolean⟩ := by decide +kernel
theorem tw62 {Z : State} {a0 : Array Value} (hw : ∀ d ∈ tables_1, d.before a0 Z = true) : (Jvm.Cond.static ({ cls := "com/example/dense_envelope/denseenvelope/websocket/FrameHeaderUnmaskPinLaw", name := "cell", desc := "([BJIIIJIZ)Z" } : Jvm.MethodName)).before a0 Z = true := hw _ (List.mem_of_getElem? (i := 62) rfl)
theorem tw2 {Z : State} {a0 : Array Value} (hw : ∀ d ∈ tables_1, d.before a0 Z = true) : (Jvm.Cond.classLink "com/example/dense_envelope/denseenvelope/websocket/FrameHeaderUnmaskPinLaw" (8 : Nat) "com/example/dense_envelope/denseenvelope/websocket/FrameHeader").before a0 Z = true := hw _ (List.mem_of_getElem? (i := 2) rfl)
theorem tw5 {Z : State} {a0 : Array Value} (hw : ∀ d ∈ tables_1, d.before a0 Z = true) : (Jvm.Cond.methodLink "com/example/dense_envelope/denseenvelope/websocket/FrameHeaderUnmaskPinLaw" (10 : Nat) ({ cls := "com/example/dense_envelope/denseenvelope/websocket/FrameHeader", name := "<init>", desc := "(Z)V" } : Jvm.MethodName)).before a0 Z = true := hw _ (List.mem_of_getElem? (i := 5) rfl)
theorem tw7 {Z : State} {a0 : Array Value} (hw : ∀ d ∈ tables_1, d.before a0 Z = true) : (Jvm.Cond.code ({ cls := "com/example/dense_envelope/denseenvelope/websocket/FrameHeader", name := "<init>", desc := "(Z)V" } : Jvm.MethodName) prog_100_method_1_code (2 : Nat) (Option.none : Option Jvm.ClassFile.FieldType)).before a0 Z = true := hw _ (List.mem_of_getElem? (i := 7) rfl)
theorem pd_5 : parseMethodDescriptor "(Z)V" = some ⟨[.boolean], none⟩ := by decide +kernel
theorem tw6 {Z : State} {a0 : Array Value} (hw : ∀ d ∈ tables_1, d.before a0 Z = true) : (Jvm.Cond.instanceMethod ({ cls := "com/example/dense_envelope/denseenvelope/websocket/FrameHeader", name := "<init>", desc := "(Z)V" } : Jvm.MethodName)).before a0 Z = true := hw _ (List.mem_of_getElem? (i := 6) rfl)
theorem tw15 {Z : State} {a0 : Array Value} (hw : ∀ d ∈ tables_1, d.before a0 Z = true) : (Jvm.Cond.constantLong "com/example/dense_envelope/denseenvelope/websocket/FrameHeaderUnmaskPinLaw" (15 : Nat) (9223372036854775807 : Int64)).before a0 Z = true := hw _ (List.mem_of_getElem? (i := 15) rfl)
theorem tw16 {Z : State} {a0 : Array Value} (hw : ∀ d ∈ tables_1, d.before a0 Z = true) : (Jvm.Cond.methodLink "com/example/dense_envelope/denseenvelope/websocket/FrameHeaderUnmaskPinLaw" (17 : Nat) ({ cls := "com/example/dense_envelope/denseenvelope/websocket/FrameHeader", name := "take", desc := "(BJ)Z" } : Jvm.MethodName)).before a0 Z = true := hw _ (List.mem_of_getElem? (i := 16) rfl)
theorem tw20 {Z : State} {a0 : Array Value} (hw : ∀ d ∈ tables_1, d.before a0 Z = true) : (Jvm.Cond.code ({ cls := "com/example/dense_envelope/denseenvelope/websocket/FrameHeader", name := "take", desc := "(BJ)Z" } : Jvm.MethodName) prog_100_method_2_code (4 : Nat) (Option.some Jvm.ClassFile.FieldType.boolean)).before a0 Z = true := hw _ (List.mem_of_getElem? (i := 20) rfl)
theorem pd_6 : parseMethodDescriptor "(BJ)Z" = some ⟨[.byte, .long], some .boolean⟩ := by decide +kernel
theorem tw19 {Z : State} {a0 : Array Value} (hw : ∀ d ∈ tables_1, d.before a0 Z = true) : (Jvm.Cond.selects "com/example/dense_envelope/denseenvelope/websocket/FrameHeader" ({ cls := "com/example/dense_envelope/denseenvelope/websocket/FrameHeader", name := "take", desc := "(BJ)Z" } : Jvm.MethodName) ({ cls := "com/example/dense_envelope/denseenvelope/websocket/FrameHeader", name := "take", desc := "(BJ)Z" } : Jvm.MethodName)).before a0 Z = true := hw _ (List.mem_of_getElem? (i := 19) rfl)
theorem tw17 {Z : State} {a0 : Array Value} (hw : ∀ d ∈ tables_1, d.before a0 Z = true) : (Jvm.Cond.declares ({ cls := "com/example/dense_envelope/denseenvelope/websocket/FrameHeader", name := "take", desc := "(BJ)Z" } : Jvm.MethodName)).before a0 Z = true := hw _ (List.mem_of_getElem? (i := 17) rfl)
theorem tw18 {Z : State} {a0 : Array Value} (hw : ∀ d ∈ tables_1, d.before a0 Z = true) : (Jvm.Cond.instanceMethod ({ cls := "com/example/dense_envelope/denseenvelope/websocket/FrameHeader", name := "take", desc := "(BJ)Z" } : Jvm.MethodName)).before a0 Z = true := hw _ (List.mem_of_getElem? (i := 18) rfl)
theorem tw56 {Z : State} {a0 : Array Value} (hw : ∀ d ∈ tables_1, d.before a0 Z = true) : (Jvm.Cond.methodLink "com/example/dense_envelope/denseenvelope/websocket/FrameHeaderUnmaskPinLaw" (21 : Nat) ({ cls := "com/example/dense_envelope/denseenvelope/websocket/FrameHeader", name := "unmask", desc := "([BIIJ)V" } : Jvm.MethodName)).before a0 Z = true := hw _ (List.mem_of_getElem? (i := 56) rfl)
theorem tw60 {Z : State} {a0 : Array Value} (hw : ∀ d ∈ tables_1, d.before a0 Z = true) : (Jvm.Cond.code ({ cls := "com/example/dense_envelope/denseenvelope/websocket/FrameHeader", name := "unmask", desc := "([BIIJ)V" } : Jvm.MethodName) prog_100_method_9_code (7 : Nat) (Option.none : Option Jvm.ClassFile.FieldType)).before a0 Z = true := hw _ (List.mem_of_getElem? (i := 60) rfl)
theorem pd_7 : parseMethodDescriptor "([BIIJ)V" = some ⟨[(.array .byte), .int, .int, .long], none⟩ := by decide +kernel
theorem tw59 {Z : State} {a0 : Array Value} (hw : ∀ d ∈ tables_1, d.before a0 Z = true) : (Jvm.Cond.selects "com/example/dense_envelope/denseenvelope/websocket/FrameHeader" ({ cls := "com/example/dense_envelope/denseenvelope/websocket/FrameHeader", name := "unmask", desc := "([BIIJ)V" } : Jvm.MethodName) ({ cls := "com/example/dense_envelope/denseenvelope/websocket/FrameHeader", name := "unmask", desc := "([BIIJ)V" } : Jvm.MethodName)).before a0 Z = true := hw _ (List.mem_of_getElem? (i := 59) rfl)
theorem tw57 {Z : State} {a0 : Array Value} (hw : ∀ d ∈ tables_1, d.before a0 Z = true) : (Jvm.Cond.declares ({ cls := "com/example/dense_envelope/denseenvelope/websocket/FrameHeader", name := "unmask", desc := "([BIIJ)V" } : Jvm.MethodName)).before a0 Z = true := hw _ (List.mem_of_getElem? (i := 57) rfl)
theorem tw58 {Z : State} {a0 : Array Value} (hw : ∀ d ∈ tables_1, d.before a0 Z = true) : (Jvm.Cond.instanceMethod ({ cls := "com/example/dense_envelope/denseenvelope/websocket/FrameHeader", name := "unmask", desc := "([BIIJ)V" } : Jvm.MethodName)).before a0 Z = true := hw _ (List.mem_of_getElem? (i := 58) rfl)
theorem ef_0 (m : MethodId) (x0 : Int32) (x1 : Int32) (x2 : Int64) (x3 : Int32) (x4 : Int64) (x5 : Int32) : entryFrame m #[(.int x0), (.int x1), (.long x2), (.int x3), (.long x4), (.int x5)] maxLocals = mkF m 0 #[iv x0, iv x1, jv x2, .second, iv x3, jv x4, .second, iv x5, .unset, .unset, .unset, .unset, .unset, .unset, .unset] [] := by first | (simp [entryFrame, mkF, argsToLocals, Value.category, maxLocals]; done) | rfl
def Q0 (Z : State) (fl : Int32) (mx : Int32) (bt : Int64) (sp : Int32) (of : Int64) (ln : Int32)  (h0 : Heap) (n0 : Nat) (v : Option Value) (h : Heap) (L : List Loc) : Prop := v = some (.int 1) ∧ Fr n0 L
set_option maxRecDepth 65536 in
set_option maxHeartbeats 40000000 in
theorem rm0 (l : Launch) (Z : State) (a0 : Array Value) (hw : ∀ d ∈ tables_1, d.before a0 Z = true) (ws : List Jvm.Cond) (fl : Int32) (mx : Int32) (bt : Int64) (sp : Int32) (of : Int64) (ln : Int32)  (h0 : Heap) (n0 : Nat) (Z0 : n0 ≤ h0.size)  :
    MetFree l x (head1 (Jvm.Cond.code x code maxLocals ret :: ws) room_1) (fun a U => a = #[(.int fl), (.int mx), (.long bt), (.int sp), (.long of), (.int ln)] ∧ Z.Warmed39 U.vm ∧ U.heap = h0) (fun _ _ _ _ _ => True) (fun _ U o U' => ∃ v L, o = .returned v ∧ Q0 Z fl mx bt sp of ln h0 n0 v U'.heap L ∧ FrameEnd U o U' L 3 33) := by
  refine MetFree.of_bodySF (plainFor_of_name pn_1) hisR ?_
  intro p e s m args below meth c s₁ Bd hml0 hP hK
  obtain ⟨rfl, hZ, hh⟩ := hP
  have hx := Bd.exec
  have hby := Bd.bytes
  have hml : c.maxLocals = 15 := hml0
  have hown : s.vm.findClass "com/example/dense_envelope/denseenvelope/websocket/FrameHeaderUnmaskPinLaw" = some m.cls := findClass_of_methodNamed Bd.named
  have hnm := (name_of_methodNamed Bd.named Bd.method).1
  have X0 : Stand p l e room_1 s m #[(.int fl), (.int mx), (.long bt), (.int sp), (.long of), (.int ln)] below meth c s₁ [] 0 0 := Stand.of_body Bd
  have e0 : s₁.heap = h0 := by rw [← hh, Bd.state]; rfl
  have N0 := Fr.nil n0
  have hlk : meth.locks = false := BodyLoose.notSynchronized Bd
  suffices hwk : Wk p.tables e below (s₁.setTop (mkF m 0 #[iv fl, iv mx, jv bt, .second, iv sp, jv of, .second, iv ln, .unset, .unset, .unset, .unset, .unset, .unset, .unset] [])) (fun U o => U.status = .running ∧ Ended U below o ∧ ∃ v L, o = .returned v ∧ Q0 Z fl mx bt sp of ln h0 n0 v U.heap L ∧ FrameEnd s o U L 3 33) by
    obtain ⟨U, o, k1, k2⟩ := hwk
    exact ⟨U, o, castTop (ef_0 m fl mx bt sp of ln) k1, k2⟩
  refine Wk.go (A' := s₁.setTop (mkF m 1 #[iv fl, iv mx, jv bt, .second, iv sp, jv of, .second, iv ln, .unset, .unset, .unset, .unset, .unset, .unset, .unset] [(.int fl)])) (fun t k => XS.iloadN X0.here hx rfl (hb hby at_0) rfl k) ?_
  refine Wk.go (A' := s₁.setTop (mkF m 2 #[iv fl, iv mx, jv bt, .second, iv sp, jv of, .second, iv ln, .unset, .unset, .unset, .unset, .unset, .unset, .unset] [(.int (1 : Int32)), (.int fl)])) (fun t k => XS.iconst X0.here hx rfl (hb hby at_1) k) ?_
  refine Wk.go (A' := s₁.setTop (mkF m 3 #[iv fl, iv mx, jv bt, .second, iv sp, jv of, .second, iv ln, .unset, .unset, .unset, .unset, .unset, .unset, .unset] [(.int (fl &&& (1 : Int32)))])) (fun t k => XS.iand X0.here hx rfl (hb hby at_2) rfl k) ?_
  refine Wk.go (A' := s₁.setTop (mkF m 11 #[iv fl, iv mx, jv bt, .second, iv sp, jv of, .second, iv ln, .unset, .unset, .unset, .unset, .unset, .unset, .unset] [(.int (if (fl &&& (1 : Int32)) = (0 : Int32) then (0 : Int32) else (1 : Int32)))])) (fun t k => ?_) ?_
  · by_cases hc3 : (fl &&& (1 : Int32)) = (0 : Int32)
    · simp only [if_pos hc3] at k
      refine XS.ifYes X0.here hx rfl (pc0 := 3) (pc' := 10) rfl (hb hby at_3) rfl ((if0 _ _).trans (teq hc3).1) (by decide) (by decide) ?_
      show Steps p.tables e below (s₁.setTop (mkF m 10 #[iv fl, iv mx, jv bt, .second, iv sp, jv of, .second, iv ln, .unset, .unset, .unset, .unset, .unset, .unset, .unset] [])) _
      refine XS.iconst X0.here hx rfl (hb hby at_10) ?_
      show Steps p.tables e below (s₁.setTop (mkF m 11 #[iv fl, iv mx, jv bt, .second, iv sp, jv of, .second, iv ln, .unset, .unset, .unset, .unset, .unset, .unset, .unset] [(.int (0 : Int32))])) _
      exact k
    · simp only [if_neg hc3] at k
      refine XS.ifNo X0.here hx rfl (hb hby at_3) rfl ((if0 _ _).trans (feq hc3).1) ?_
      show Steps p.tables e below (s₁.setTop (mkF m 6 #[iv fl, iv mx, jv bt, .second, iv sp, jv of, .second, iv ln, .unset, .unset, .unset, .unset, .unset, .unset, .unset] [])) _
      refine XS.iconst X0.here hx rfl (hb hby at_6) ?_
      show Steps p.tables e below (s₁.setTop (mkF m 7 #[iv fl, iv mx, jv bt, .second, iv sp, jv of, .second, iv ln, .unset, .unset, .unset, .unset, .unset, .unset, .unset] [(.int (1 : Int32))])) _
      refine XS.goto X0.here hx rfl (pc0 := 7) (pc' := 11) rfl (hb hby at_7) (by decide) (by decide) ?_
      show Steps p.tables e below (s₁.setTop (mkF m 11 #[iv fl, iv mx, jv bt, .second, iv sp, jv of, .second, iv ln, .unset, .unset, .unset, .unset, .unset, .unset, .unset] [(.int (1 : Int32))])) _
      exact k
  generalize hmd : (if (fl &&& (1 : Int32)) = (0 : Int32) then (0 : Int32) else (1 : Int32)) = md
  refine Wk.go (A' := s₁.setTop (mkF m 13 #[iv fl, iv mx, jv bt, .second, iv sp, jv of, .second, iv ln, iv md, .unset, .unset, .unset, .unset, .unset, .unset] [])) (fun t k => XS.istore X0.here hx rfl (hb hby at_11) rfl (l' := #[iv fl, iv mx, jv bt, .second, iv sp, jv of, .second, iv ln, iv md, .unset, .unset, .unset, .unset, .unset, .unset]) rfl k) ?_
  refine Wk.go (A' := s₁.setTop (mkF m 14 #[iv fl, iv mx, jv bt, .second, iv sp, jv of, .second, iv ln, iv md, .unset, .unset, .unset, .unset, .unset, .unset] [(.int fl)])) (fun t k => XS.iloadN X0.here hx rfl (hb hby at_13) rfl k) ?_
  refine Wk.go (A' := s₁.setTop (mkF m 15 #[iv fl, iv mx, jv bt, .second, iv sp, jv of, .second, iv ln, iv md, .unset, .unset, .unset, .unset, .unset, .unset] [(.int (2 : Int32)), (.int fl)])) (fun t k => XS.iconst X0.here hx rfl (hb hby at_14) k) ?_
  refine Wk.go (A' := s₁.setTop (mkF m 16 #[iv fl, iv mx, jv bt, .second, iv sp, jv of, .second, iv ln, iv md, .unset, .unset, .unset, .unset, .unset, .unset] [(.int (fl &&& (2 : Int32)))])) (fun t k => XS.iand X0.here hx rfl (hb hby at_15) rfl k) ?_
  refine Wk.go (A' := s₁.setTop (mkF m 24 #[iv fl, iv mx, jv bt, .second, iv sp, jv of, .second, iv ln, iv md, .unset, .unset, .unset, .unset, .unset, .unset] [(.int (if (fl &&& (2 : Int32)) = (0 : Int32) then (0 : Int32) else (1 : Int32)))])) (fun t k => ?_) ?_
  · by_cases hc16 : (fl &&& (2 : Int32)) = (0 : Int32)
    · simp only [if_pos hc16] at k
      refine XS.ifYes X0.here hx rfl (pc0 := 16) (pc' := 23) rfl (hb hby at_16) rfl ((if0 _ _).trans (teq hc16).1) (by decide) (by decide) ?_
      show Steps p.tables e below (s₁.setTop (mkF m 23 #[iv fl, iv mx, jv bt, .second, iv sp, jv of, .second, iv ln, iv md, .unset, .unset, .unset, .unset, .unset, .unset] [])) _
      refine XS.iconst X0.here hx rfl (hb hby at_23) ?_
      show Steps p.tables e below (s₁.setTop (mkF m 24 #[iv fl, iv mx, jv bt, .second, iv sp, jv of, .second, iv ln, iv md, .unset, .unset, .unset, .unset, .unset, .unset] [(.int (0 : Int32))])) _
      exact k
    · simp only [if_neg hc16] at k
      refine XS.ifNo X0.here hx rfl (hb hby at_16) rfl ((if0 _ _).trans (feq hc16).1) ?_
      show Steps p.tables e below (s₁.setTop (mkF m 19 #[iv fl, iv mx, jv bt, .second, iv sp, jv of, .second, iv ln, iv md, .unset, .unset, .unset, .unset, .unset, .unset] [])) _
      refine XS.iconst X0.here hx rfl (hb hby at_19) ?_
      show Steps p.tables e below (s₁.setTop (mkF m 20 #[iv fl, iv mx, jv bt, .second, iv sp, jv of, .second, iv ln, iv md, .unset, .unset, .unset, .unset, .unset, .unset] [(.int (1 : Int32))])) _
      refine XS.goto X0.here hx rfl (pc0 := 20) (pc' := 24) rfl (hb hby at_20) (by decide) (by decide) ?_
      show Steps p.tables e below (s₁.setTop (mkF m 24 #[iv fl, iv mx, jv bt, .second, iv sp, jv of, .second, iv ln, iv md, .unset, .unset, .unset, .unset, .unset, .unset] [(.int (1 : Int32))])) _
      exact k
  generalize hwi : (if (fl &&& (2 : Int32)) = (0 : Int32) then (0 : Int32) else (1 : Int32)) = wi
  refine Wk.go (A' := s₁.setTop (mkF m 26 #[iv fl, iv mx, jv bt, .second, iv sp, jv of, .second, iv ln, iv md, iv wi, .unset, .unset, .unset, .unset, .unset] [])) (fun t k => XS.istore X0.here hx rfl (hb hby at_24) rfl (l' := #[iv fl, iv mx, jv bt, .second, iv sp, jv of, .second, iv ln, iv md, iv wi, .unset, .unset, .unset, .unset, .unset]) rfl k) ?_
  refine Wk.go (A' := s₁.setTop (mkF m 28 #[iv fl, iv mx, jv bt, .second, iv sp, jv of, .second, iv ln, iv md, iv wi, .unset, .unset, .unset, .unset, .unset] [(.int sp)])) (fun t k => XS.iload X0.here hx rfl (hb hby at_26) rfl k) ?_
  refine Wk.go (A' := s₁.setTop (mkF m 29 #[iv fl, iv mx, jv bt, .second, iv sp, jv of, .second, iv ln, iv md, iv wi, .unset, .unset, .unset, .unset, .unset] [(.int (3 : Int32)), (.int sp)])) (fun t k => XS.iconst X0.here hx rfl (hb hby at_28) k) ?_
  refine Wk.go (A' := s₁.setTop (mkF m 30 #[iv fl, iv mx, jv bt, .second, iv sp, jv of, .second, iv ln, iv md, iv wi, .unset, .unset, .unset, .unset, .unset] [(.int (sp &&& (3 : Int32)))])) (fun t k => XS.iand X0.here hx rfl (hb hby at_29) rfl k) ?_
  refine Wk.go (A' := s₁.setTop (mkF m 32 #[iv fl, iv mx, jv bt, .second, iv sp, jv of, .second, iv ln, iv md, iv wi, iv (sp &&& (3 : Int32)), .unset, .unset, .unset, .unset] [])) (fun t k => XS.istore X0.here hx rfl (hb hby at_30) rfl (l' := #[iv fl, iv mx, jv bt, .second, iv sp, jv of, .second, iv ln, iv md, iv wi, iv (sp &&& (3 : Int32)), .unset, .unset, .unset, .unset]) rfl k) ?_
  generalize hia : (sp &&& (3 : Int32)) = ia
  refine Wk.go (A' := s₁.setTop (mkF m 34 #[iv fl, iv mx, jv bt, .second, iv sp, jv of, .second, iv ln, iv md, iv wi, iv ia, .unset, .unset, .unset, .unset] [(.int sp)])) (fun t k => XS.iload X0.here hx rfl (hb hby at_32) rfl k) ?_
  refine Wk.go (A' := s₁.setTop (mkF m 35 #[iv fl, iv mx, jv bt, .second, iv sp, jv of, .second, iv ln, iv md, iv wi, iv ia, .unset, .unset, .unset, .unset] [(.int (2 : Int32)), (.int sp)])) (fun t k => XS.iconst X0.here hx rfl (hb hby at_34) k) ?_
  refine Wk.go (A' := s₁.setTop (mkF m 36 #[iv fl, iv mx, jv bt, .second, iv sp, jv of, .second, iv ln, iv md, iv wi, iv ia, .unset, .unset, .unset, .unset] [(.int ((sp.toUInt32 >>> ((2 : Int32) &&& 31).toUInt32).toInt32))])) (fun t k => XS.iushr X0.here hx rfl (hb hby at_35) rfl k) ?_
  refine Wk.go (A' := s₁.setTop (mkF m 38 #[iv fl, iv mx, jv bt, .second, iv sp, jv of, .second, iv ln, iv md, iv wi, iv ia, .unset, .unset, .unset, .unset] [(.int (65535 : Int32)), (.int ((sp.toUInt32 >>> ((2 : Int32) &&& 31).toUInt32).toInt32))])) (fun t k => X0.ldcInt hx hown (mvT hZ (tw0 hw)) (g := (mkF m 36 #[iv fl, iv mx, jv bt, .second, iv sp, jv of, .second, iv ln, iv md, iv wi, iv ia, .unset, .unset, .unset, .unset] [(.int ((sp.toUInt32 >>> ((2 : Int32) &&& 31).toUInt32).toInt32))])) rfl (hb hby at_36) t k) ?_
  refine Wk.go (A' := s₁.setTop (mkF m 39 #[iv fl, iv mx, jv bt, .second, iv sp, jv of, .second, iv ln, iv md, iv wi, iv ia, .unset, .unset, .unset, .unset] [(.int (((sp.toUInt32 >>> ((2 : Int32) &&& 31).toUInt32).toInt32) &&& (65535 : Int32)))])) (fun t k => XS.iand X0.here hx rfl (hb hby at_38) rfl k) ?_
  refine Wk.go (A' := s₁.setTop (mkF m 41 #[iv fl, iv mx, jv bt, .second, iv sp, jv of, .second, iv ln, iv md, iv wi, iv ia, .unset, .unset, .unset, .unset] [(.int (6 : Int32)), (.int (((sp.toUInt32 >>> ((2 : Int32) &&& 31).toUInt32).toInt32) &&& (65535 : Int32)))])) (fun t k => XS.bipush X0.here hx rfl (hb hby at_39) k) ?_
  refine Wk.go (A' := s₁.setTop (mkF m 42 #[iv fl, iv mx, jv bt, .second, iv sp, jv of, .second, iv ln, iv md, iv wi, iv ia, .unset, .unset, .unset, .unset] [(.int ((((sp.toUInt32 >>> ((2 : Int32) &&& 31).toUInt32).toInt32) &&& (65535 : Int32)) % (6 : Int32)))])) (fun t k => iremM X0 hx rfl (hb hby at_41) rfl (by decide) k) ?_
  refine Wk.go (A' := s₁.setTop (mkF m 44 #[iv fl, iv mx, jv bt, .second, iv sp, jv of, .second, iv ln, iv md, iv wi, iv ia, iv ((((sp.toUInt32 >>> ((2 : Int32) &&& 31).toUInt32).toInt32) &&& (65535 : Int32)) % (6 : Int32)), .unset, .unset, .unset] [])) (fun t k => XS.istore X0.here hx rfl (hb hby at_42) rfl (l' := #[iv fl, iv mx, jv bt, .second, iv sp, jv of, .second, iv ln, iv md, iv wi, iv ia, iv ((((sp.toUInt32 >>> ((2 : Int32) &&& 31).toUInt32).toInt32) &&& (65535 : Int32)) % (6 : Int32)), .unset, .unset, .unset]) rfl k) ?_
  generalize hnn : ((((sp.toUInt32 >>> ((2 : Int32) &&& 31).toUInt32).toInt32) &&& (65535 : Int32)) % (6 : Int32)) = nn
  obtain ⟨hA0, hA3⟩ : 0 ≤ ia.toInt ∧ ia.toInt ≤ 3 := by rw [← hia]; exact own_ia sp
  obtain ⟨hn0, hn5⟩ : 0 ≤ nn.toInt ∧ nn.toInt ≤ 5 := by rw [← hnn]; exact own_nn _
  have hsum : ia.toInt + nn.toInt ≤ 8 := by omega
  refine Wk.go (A' := s₁.setTop (mkF m 46 #[iv fl, iv mx, jv bt, .second, iv sp, jv of, .second, iv ln, iv md, iv wi, iv ia, iv nn, .unset, .unset, .unset] [(.int (8 : Int32))])) (fun t k => XS.bipush X0.here hx rfl (hb hby at_44) k) ?_
  obtain ⟨T1, h1, k1, X1, e1, E1, A1, st1⟩ := newP (aty := .byte) X0 hx hZ (tw1 hw) e0 (g := (mkF m 46 #[iv fl, iv mx, jv bt, .second, iv sp, jv of, .second, iv ln, iv md, iv wi, iv ia, iv nn, .unset, .unset, .unset] [(.int (8 : Int32))])) rfl (hb hby at_46) rfl (by decide) (cap := 8) (by decide) (by decide) (by decide) (by decide)
  obtain ⟨pa, g1⟩ : ∃ z, z = h0.size := ⟨_, rfl⟩
  rw [← g1] at A1 st1
  have g_pa : n0 ≤ pa := Nat.le_trans Z0 (Nat.le_of_eq g1.symm)
  have V1 : BA Z h1 pa 8 (fun _ => 0) := BA.new A1
  have Zp1 : n0 ≤ h1.size := Nat.le_trans Z0 E1.1
  refine Wk.go (A' := T1.setTop (mkF m 48 #[iv fl, iv mx, jv bt, .second, iv sp, jv of, .second, iv ln, iv md, iv wi, iv ia, iv nn, .unset, .unset, .unset] [(.ref pa)])) (fun t k => st1 t k) ?_
  refine Wk.go (A' := T1.setTop (mkF m 50 #[iv fl, iv mx, jv bt, .second, iv sp, jv of, .second, iv ln, iv md, iv wi, iv ia, iv nn, rv pa, .unset, .unset] [])) (fun t k => XS.astore X1.here hx rfl (hb hby at_48) rfl rfl (l' := #[iv fl, iv mx, jv bt, .second, iv sp, jv of, .second, iv ln, iv md, iv wi, iv ia, iv nn, rv pa, .unset, .unset]) rfl k) ?_
  refine Wk.go (A' := T1.setTop (mkF m 52 #[iv fl, iv mx, jv bt, .second, iv sp, jv of, .second, iv ln, iv md, iv wi, iv ia, iv nn, rv pa, .unset, .unset] [(.ref pa)])) (fun t k => XS.aload X1.here hx rfl (hb hby at_50) rfl rfl k) ?_
  refine Wk.go (A' := T1.setTop (mkF m 53 #[iv fl, iv mx, jv bt, .second, iv sp, jv of, .second, iv ln, iv md, iv wi, iv ia, iv nn, rv pa, .unset, .unset] [(.int (0 : Int32)), (.ref pa)])) (fun t k => XS.iconst X1.here hx rfl (hb hby at_52) k) ?_
  refine Wk.go (A' := T1.setTop (mkF m 54 #[iv fl, iv mx, jv bt, .second, iv sp, jv of, .second, iv ln, iv md, iv wi, iv ia, iv nn, rv pa, .unset, .unset] [(.long bt), (.int (0 : Int32)), (.ref pa)])) (fun t k => XS.lloadN X1.here hx rfl (hb hby at_53) rfl k) ?_
  refine Wk.go (A' := T1.setTop (mkF m 55 #[iv fl, iv mx, jv bt, .second, iv sp, jv of, .second, iv ln, iv md, iv wi, iv ia, iv nn, rv pa, .unset, .unset] [(.int (bt.toInt32)), (.int (0 : Int32)), (.ref pa)])) (fun t k => XS.l2i X1.here hx rfl (hb hby at_54) rfl k) ?_
  refine Wk.go (A' := T1.setTop (mkF m 56 #[iv fl, iv mx, jv bt, .second, iv sp, jv of, .second, iv ln, iv md, iv wi, iv ia, iv nn, rv pa, .unset, .unset] [(.int ((bt.toInt32).toInt8.toInt32)), (.int (0 : Int32)), (.ref pa)])) (fun t k => XS.i2b X1.here hx rfl (hb hby at_55) rfl k) ?_
  obtain ⟨T2, h2, X2, e2, W2, B2, st2⟩ := own_stB X1 hx hZ e1 V1 (j := (0 : Int32)) (by decide) (g := (mkF m 56 #[iv fl, iv mx, jv bt, .second, iv sp, jv of, .second, iv ln, iv md, iv wi, iv ia, iv nn, rv pa, .unset, .unset] [(.int ((bt.toInt32).toInt8.toInt32)), (.int (0 : Int32)), (.ref pa)])) rfl rfl (hb hby at_56)
  have V2 : BA Z h2 pa 8 (own_upd (fun _ => 0) 0 (((bt.toInt32).toInt8.toInt32)).toInt8.toInt32) := B2
  obtain ⟨p1, hp1⟩ : ∃ z, z = (own_upd (fun _ => 0) 0 (((bt.toInt32).toInt8.toInt32)).toInt8.toInt32) := ⟨_, rfl⟩
  rw [← hp1] at V2
  have f3 := V2
  have Zp2 : n0 ≤ h2.size := Nat.le_trans Zp1 (Nat.le_of_eq W2.size.symm)
  have N2 := Fr.snoc X2 N0 g_pa
  refine Wk.go (A' := T2.setTop (mkF m 57 #[iv fl, iv mx, jv bt, .second, iv sp, jv of, .second, iv ln, iv md, iv wi, iv ia, iv nn, rv pa, .unset, .unset] [])) (fun t k => st2 t k) ?_
  refine Wk.go (A' := T2.setTop (mkF m 59 #[iv fl, iv mx, jv bt, .second, iv sp, jv of, .second, iv ln, iv md, iv wi, iv ia, iv nn, rv pa, .unset, .unset] [(.ref pa)])) (fun t k => XS.aload X2.here hx rfl (hb hby at_57) rfl rfl k) ?_
  refine Wk.go (A' := T2.setTop (mkF m 60 #[iv fl, iv mx, jv bt, .second, iv sp, jv of, .second, iv ln, iv md, iv wi, iv ia, iv nn, rv pa, .unset, .unset] [(.int (1 : Int32)), (.ref pa)])) (fun t k => XS.iconst X2.here hx rfl (hb hby at_59) k) ?_
  refine Wk.go (A' := T2.setTop (mkF m 61 #[iv fl, iv mx, jv bt, .second, iv sp, jv of, .second, iv ln, iv md, iv wi, iv ia, iv nn, rv pa, .unset, .unset] [(.long bt), (.int (1 : Int32)), (.ref pa)])) (fun t k => XS.lloadN X2.here hx rfl (hb hby at_60) rfl k) ?_
  refine Wk.go (A' := T2.setTop (mkF m 63 #[iv fl, iv mx, jv bt, .second, iv sp, jv of, .second, iv ln, iv md, iv wi, iv ia, iv nn, rv pa, .unset, .unset] [(.int (8 : Int32)), (.long bt), (.int (1 : Int32)), (.ref pa)])) (fun t k => XS.bipush X2.here hx rfl (hb hby at_61) k) ?_
  refine Wk.go (A' := T2.setTop (mkF m 64 #[iv fl, iv mx, jv bt, .second, iv sp, jv of, .second, iv ln, iv md, iv wi, iv ia, iv nn, rv pa, .unset, .unset] [(.long ((bt.toUInt64 >>> ((8 : Int32) &&& 0x3f).toInt64.toUInt64).toInt64)), (.int (1 : Int32)), (.ref pa)])) (fun t k => XS.lushr X2.here hx rfl (hb hby at_63) rfl k) ?_
  refine Wk.go (A' := T2.setTop (mkF m 65 #[iv fl, iv mx, jv bt, .second, iv sp, jv of, .second, iv ln, iv md, iv wi, iv ia, iv nn, rv pa, .unset, .unset] [(.int (((bt.toUInt64 >>> ((8 : Int32) &&& 0x3f).toInt64.toUInt64).toInt64).toInt32)), (.int (1 : Int32)), (.ref pa)])) (fun t k => XS.l2i X2.here hx rfl (hb hby at_64) rfl k) ?_
  refine Wk.go (A' := T2.setTop (mkF m 66 #[iv fl, iv mx, jv bt, .second, iv sp, jv of, .second, iv ln, iv md, iv wi, iv ia, iv nn, rv pa, .unset, .unset] [(.int ((((bt.toUInt64 >>> ((8 : Int32) &&& 0x3f).toInt64.toUInt64).toInt64).toInt32).toInt8.toInt32)), (.int (1 : Int32)), (.ref pa)])) (fun t k => XS.i2b X2.here hx rfl (hb hby at_65) rfl k) ?_
  obtain ⟨T4, h4, X4, e4, W4, B4, st4⟩ := own_stB X2 hx hZ e2 f3 (j := (1 : Int32)) (by decide) (g := (mkF m 66 #[iv fl, iv mx, jv bt, .second, iv sp, jv of, .second, iv ln, iv md, iv wi, iv ia, iv nn, rv pa, .unset, .unset] [(.int ((((bt.toUInt64 >>> ((8 : Int32) &&& 0x3f).toInt64.toUInt64).toInt64).toInt32).toInt8.toInt32)), (.int (1 : Int32)), (.ref pa)])) rfl rfl (hb hby at_66)
  have V4 : BA Z h4 pa 8 (own_upd p1 1 (((((bt.toUInt64 >>> ((8 : Int32) &&& 0x3f).toInt64.toUInt64).toInt64).toInt32).toInt8.toInt32)).toInt8.toInt32) := B4
  obtain ⟨p2, hp2⟩ : ∃ z, z = (own_upd p1 1 (((((bt.toUInt64 >>> ((8 : Int32) &&& 0x3f).toInt64.toUInt64).toInt64).toInt32).toInt8.toInt32)).toInt8.toInt32) := ⟨_, rfl⟩
  rw [← hp2] at V4
  have f5 := V4
  have Zp4 : n0 ≤ h4.size := Nat.le_trans Zp2 (Nat.le_of_eq W4.size.symm)
  have N4 := Fr.snoc X4 N2 g_pa
  refine Wk.go (A' := T4.setTop (mkF m 67 #[iv fl, iv mx, jv bt, .second, iv sp, jv of, .second, iv ln, iv md, iv wi, iv ia, iv nn, rv pa, .unset, .unset] [])) (fun t k => st4 t k) ?_
  refine Wk.go (A' := T4.setTop (mkF m 69 #[iv fl, iv mx, jv bt, .second, iv sp, jv of, .second, iv ln, iv md, iv wi, iv ia, iv nn, rv pa, .unset, .unset] [(.ref pa)])) (fun t k => XS.aload X4.here hx rfl (hb hby at_67) rfl rfl k) ?_
  refine Wk.go (A' := T4.setTop (mkF m 70 #[iv fl, iv mx, jv bt, .second, iv sp, jv of, .second, iv ln, iv md, iv wi, iv ia, iv nn, rv pa, .unset, .unset] [(.int (2 : Int32)), (.ref pa)])) (fun t k => XS.iconst X4.here hx rfl (hb hby at_69) k) ?_
  refine Wk.go (A' := T4.setTop (mkF m 71 #[iv fl, iv mx, jv bt, .second, iv sp, jv of, .second, iv ln, iv md, iv wi, iv ia, iv nn, rv pa, .unset, .unset] [(.long bt), (.int (2 : Int32)), (.ref pa)])) (fun t k => XS.lloadN X4.here hx rfl (hb hby at_70) rfl k) ?_
  refine Wk.go (A' := T4.setTop (mkF m 73 #[iv fl, iv mx, jv bt, .second, iv sp, jv of, .second, iv ln, iv md, iv wi, iv ia, iv nn, rv pa, .unset, .unset] [(.int (16 : Int32)), (.long bt), (.int (2 : Int32)), (.ref pa)])) (fun t k => XS.bipush X4.here hx rfl (hb hby at_71) k) ?_
  refine Wk.go (A' := T4.setTop (mkF m 74 #[iv fl, iv mx, jv bt, .second, iv sp, jv of, .second, iv ln, iv md, iv wi, iv ia, iv nn, rv pa, .unset, .unset] [(.long ((bt.toUInt64 >>> ((16 : Int32) &&& 0x3f).toInt64.toUInt64).toInt64)), (.int (2 : Int32)), (.ref pa)])) (fun t k => XS.lushr X4.here hx rfl (hb hby at_73) rfl k) ?_
  refine Wk.go (A' := T4.setTop (mkF m 75 #[iv fl, iv mx, jv bt, .second, iv sp, jv of, .second, iv ln, iv md, iv wi, iv ia, iv nn, rv pa, .unset, .unset] [(.int (((bt.toUInt64 >>> ((16 : Int32) &&& 0x3f).toInt64.toUInt64).toInt64).toInt32)), (.int (2 : Int32)), (.ref pa)])) (fun t k => XS.l2i X4.here hx rfl (hb hby at_74) rfl k) ?_
  refine Wk.go (A' := T4.setTop (mkF m 76 #[iv fl, iv mx, jv bt, .second, iv sp, jv of, .second, iv ln, iv md, iv wi, iv ia, iv nn, rv pa, .unset, .unset] [(.int ((((bt.toUInt64 >>> ((16 : Int32) &&& 0x3f).toInt64.toUInt64).toInt64).toInt32).toInt8.toInt32)), (.int (2 : Int32)), (.ref pa)])) (fun t k => XS.i2b X4.here hx rfl (hb hby at_75) rfl k) ?_
  obtain ⟨T6, h6, X6, e6, W6, B6, st6⟩ := own_stB X4 hx hZ e4 f5 (j := (2 : Int32)) (by decide) (g := (mkF m 76 #[iv fl, iv mx, jv bt, .second, iv sp, jv of, .second, iv ln, iv md, iv wi, iv ia, iv nn, rv pa, .unset, .unset] [(.int ((((bt.toUInt64 >>> ((16 : Int32) &&& 0x3f).toInt64.toUInt64).toInt64).toInt32).toInt8.toInt32)), (.int (2 : Int32)), (.ref pa)])) rfl rfl (hb hby at_76)
  have V6 : BA Z h6 pa 8 (own_upd p2 2 (((((bt.toUInt64 >>> ((16 : Int32) &&& 0x3f).toInt64.toUInt64).toInt64).toInt32).toInt8.toInt32)).toInt8.toInt32) := B6
  obtain ⟨p3, hp3⟩ : ∃ z, z = (own_upd p2 2 (((((bt.toUInt64 >>> ((16 : Int32) &&& 0x3f).toInt64.toUInt64).toInt64).toInt32).toInt8.toInt32)).toInt8.toInt32) := ⟨_, rfl⟩
  rw [← hp3] at V6
  have f7 := V6
  have Zp6 : n0 ≤ h6.size := Nat.le_trans Zp4 (Nat.le_of_eq W6.size.symm)
  have N6 := Fr.snoc X6 N4 g_pa
  refine Wk.go (A' := T6.setTop (mkF m 77 #[iv fl, iv mx, jv bt, .second, iv sp, jv of, .second, iv ln, iv md, iv wi, iv ia, iv nn, rv pa, .unset, .unset] [])) (fun t k => st6 t k) ?_
  refine Wk.go (A' := T6.setTop (mkF m 79 #[iv fl, iv mx, jv bt, .second, iv sp, jv of, .second, iv ln, iv md, iv wi, iv ia, iv nn, rv pa, .unset, .unset] [(.ref pa)])) (fun t k => XS.aload X6.here hx rfl (hb hby at_77) rfl rfl k) ?_
  refine Wk.go (A' := T6.setTop (mkF m 80 #[iv fl, iv mx, jv bt, .second, iv sp, jv of, .second, iv ln, iv md, iv wi, iv ia, iv nn, rv pa, .unset, .unset] [(.int (3 : Int32)), (.ref pa)])) (fun t k => XS.iconst X6.here hx rfl (hb hby at_79) k) ?_
  refine Wk.go (A' := T6.setTop (mkF m 81 #[iv fl, iv mx, jv bt, .second, iv sp, jv of, .second, iv ln, iv md, iv wi, iv ia, iv nn, rv pa, .unset, .unset] [(.long bt), (.int (3 : Int32)), (.ref pa)])) (fun t k => XS.lloadN X6.here hx rfl (hb hby at_80) rfl k) ?_
  refine Wk.go (A' := T6.setTop (mkF m 83 #[iv fl, iv mx, jv bt, .second, iv sp, jv of, .second, iv ln, iv md, iv wi, iv ia, iv nn, rv pa, .unset, .unset] [(.int (24 : Int32)), (.long bt), (.int (3 : Int32)), (.ref pa)])) (fun t k => XS.bipush X6.here hx rfl (hb hby at_81) k) ?_
  refine Wk.go (A' := T6.setTop (mkF m 84 #[iv fl, iv mx, jv bt, .second, iv sp, jv of, .second, iv ln, iv md, iv wi, iv ia, iv nn, rv pa, .unset, .unset] [(.long ((bt.toUInt64 >>> ((24 : Int32) &&& 0x3f).toInt64.toUInt64).toInt64)), (.int (3 : Int32)), (.ref pa)])) (fun t k => XS.lushr X6.here hx rfl (hb hby at_83) rfl k) ?_
  refine Wk.go (A' := T6.setTop (mkF m 85 #[iv fl, iv mx, jv bt, .second, iv sp, jv of, .second, iv ln, iv md, iv wi, iv ia, iv nn, rv pa, .unset, .unset] [(.int (((bt.toUInt64 >>> ((24 : Int32) &&& 0x3f).toInt64.toUInt64).toInt64).toInt32)), (.int (3 : Int32)), (.ref pa)])) (fun t k => XS.l2i X6.here hx rfl (hb hby at_84) rfl k) ?_
  refine Wk.go (A' := T6.setTop (mkF m 86 #[iv fl, iv mx, jv bt, .second, iv sp, jv of, .second, iv ln, iv md, iv wi, iv ia, iv nn, rv pa, .unset, .unset] [(.int ((((bt.toUInt64 >>> ((24 : Int32) &&& 0x3f).toInt64.toUInt64).toInt64).toInt32).toInt8.toInt32)), (.int (3 : Int32)), (.ref pa)])) (fun t k => XS.i2b X6.here hx rfl (hb hby at_85) rfl k) ?_
  obtain ⟨T8, h8, X8, e8, W8, B8, st8⟩ := own_stB X6 hx hZ e6 f7 (j := (3 : Int32)) (by decide) (g := (mkF m 86 #[iv fl, iv mx, jv bt, .second, iv sp, jv of, .second, iv ln, iv md, iv wi, iv ia, iv nn, rv pa, .unset, .unset] [(.int ((((bt.toUInt64 >>> ((24 : Int32) &&& 0x3f).toInt64.toUInt64).toInt64).toInt32).toInt8.toInt32)), (.int (3 : Int32)), (.ref pa)])) rfl rfl (hb hby at_86)
  have V8 : BA Z h8 pa 8 (own_upd p3 3 (((((bt.toUInt64 >>> ((24 : Int32) &&& 0x3f).toInt64.toUInt64).toInt64).toInt32).toInt8.toInt32)).toInt8.toInt32) := B8
  obtain ⟨p4, hp4⟩ : ∃ z, z = (own_upd p3 3 (((((bt.toUInt64 >>> ((24 : Int32) &&& 0x3f).toInt64.toUInt64).toInt64).toInt32).toInt8.toInt32)).toInt8.toInt32) := ⟨_, rfl⟩
  rw [← hp4] at V8
  have f9 := V8
  have Zp8 : n0 ≤ h8.size := Nat.le_trans Zp6 (Nat.le_of_eq W8.size.symm)
  have N8 := Fr.snoc X8 N6 g_pa
  refine Wk.go (A' := T8.setTop (mkF m 87 #[iv fl, iv mx, jv bt, .second, iv sp, jv of, .second, iv ln, iv md, iv wi, iv ia, iv nn, rv pa, .unset, .unset] [])) (fun t k => st8 t k) ?_
  refine Wk.go (A' := T8.setTop (mkF m 89 #[iv fl, iv mx, jv bt, .second, iv sp, jv of, .second, iv ln, iv md, iv wi, iv ia, iv nn, rv pa, .unset, .unset] [(.ref pa)])) (fun t k => XS.aload X8.here hx rfl (hb hby at_87) rfl rfl k) ?_
  refine Wk.go (A' := T8.setTop (mkF m 90 #[iv fl, iv mx, jv bt, .second, iv sp, jv of, .second, iv ln, iv md, iv wi, iv ia, iv nn, rv pa, .unset, .unset] [(.int (4 : Int32)), (.ref pa)])) (fun t k => XS.iconst X8.here hx rfl (hb hby at_89) k) ?_
  refine Wk.go (A' := T8.setTop (mkF m 91 #[iv fl, iv mx, jv bt, .second, iv sp, jv of, .second, iv ln, iv md, iv wi, iv ia, iv nn, rv pa, .unset, .unset] [(.long bt), (.int (4 : Int32)), (.ref pa)])) (fun t k => XS.lloadN X8.here hx rfl (hb hby at_90) rfl k) ?_
  refine Wk.go (A' := T8.setTop (mkF m 93 #[iv fl, iv mx, jv bt, .second, iv sp, jv of, .second, iv ln, iv md, iv wi, iv ia, iv nn, rv pa, .unset, .unset] [(.int (32 : Int32)), (.long bt), (.int (4 : Int32)), (.ref pa)])) (fun t k => XS.bipush X8.here hx rfl (hb hby at_91) k) ?_
  refine Wk.go (A' := T8.setTop (mkF m 94 #[iv fl, iv mx, jv bt, .second, iv sp, jv of, .second, iv ln, iv md, iv wi, iv ia, iv nn, rv pa, .unset, .unset] [(.long ((bt.toUInt64 >>> ((32 : Int32) &&& 0x3f).toInt64.toUInt64).toInt64)), (.int (4 : Int32)), (.ref pa)])) (fun t k => XS.lushr X8.here hx rfl (hb hby at_93) rfl k) ?_
  refine Wk.go (A' := T8.setTop (mkF m 95 #[iv fl, iv mx, jv bt, .second, iv sp, jv of, .second, iv ln, iv md, iv wi, iv ia, iv nn, rv pa, .unset, .unset] [(.int (((bt.toUInt64 >>> ((32 : Int32) &&& 0x3f).toInt64.toUInt64).toInt64).toInt32)), (.int (4 : Int32)), (.ref pa)])) (fun t k => XS.l2i X8.here hx rfl (hb hby at_94) rfl k) ?_
  refine Wk.go (A' := T8.setTop (mkF m 96 #[iv fl, iv mx, jv bt, .second, iv sp, jv of, .second, iv ln, iv md, iv wi, iv ia, iv nn, rv pa, .unset, .unset] [(.int ((((bt.toUInt64 >>> ((32 : Int32) &&& 0x3f).toInt64.toUInt64).toInt64).toInt32).toInt8.toInt32)), (.int (4 : Int32)), (.ref pa)])) (fun t k => XS.i2b X8.here hx rfl (hb hby at_95) rfl k) ?_
  obtain ⟨T10, h10, X10, e10, W10, B10, st10⟩ := own_stB X8 hx hZ e8 f9 (j := (4 : Int32)) (by decide) (g := (mkF m 96 #[iv fl, iv mx, jv bt, .second, iv sp, jv of, .second, iv ln, iv md, iv wi, iv ia, iv nn, rv pa, .unset, .unset] [(.int ((((bt.toUInt64 >>> ((32 : Int32) &&& 0x3f).toInt64.toUInt64).toInt64).toInt32).toInt8.toInt32)), (.int (4 : Int32)), (.ref pa)])) rfl rfl (hb hby at_96)
  have V10 : BA Z h10 pa 8 (own_upd p4 4 (((((bt.toUInt64 >>> ((32 : Int32) &&& 0x3f).toInt64.toUInt64).toInt64).toInt32).toInt8.toInt32)).toInt8.toInt32) := B10
  obtain ⟨p5, hp5⟩ : ∃ z, z = (own_upd p4 4 (((((bt.toUInt64 >>> ((32 : Int32) &&& 0x3f).toInt64.toUInt64).toInt64).toInt32).toInt8.toInt32)).toInt8.toInt32) := ⟨_, rfl⟩
  rw [← hp5] at V10
  have f11 := V10
  have Zp10 : n0 ≤ h10.size := Nat.le_trans Zp8 (Nat.le_of_eq W10.size.symm)
  have N10 := Fr.snoc X10 N8 g_pa
  refine Wk.go (A' := T10.setTop (mkF m 97 #[iv fl, iv mx, jv bt, .second, iv sp, jv of, .second, iv ln, iv md, iv wi, iv ia, iv nn, rv pa, .unset, .unset] [])) (fun t k => st10 t k) ?_
  refine Wk.go (A' := T10.setTop (mkF m 99 #[iv fl, iv mx, jv bt, .second, iv sp, jv of, .second, iv ln, iv md, iv wi, iv ia, iv nn, rv pa, .unset, .unset] [(.ref pa)])) (fun t k => XS.aload X10.here hx rfl (hb hby at_97) rfl rfl k) ?_
  refine Wk.go (A' := T10.setTop (mkF m 100 #[iv fl, iv mx, jv bt, .second, iv sp, jv of, .second, iv ln, iv md, iv wi, iv ia, iv nn, rv pa, .unset, .unset] [(.int (5 : Int32)), (.ref pa)])) (fun t k => XS.iconst X10.here hx rfl (hb hby at_99) k) ?_
  refine Wk.go (A' := T10.setTop (mkF m 101 #[iv fl, iv mx, jv bt, .second, iv sp, jv of, .second, iv ln, iv md, iv wi, iv ia, iv nn, rv pa, .unset, .unset] [(.long bt), (.int (5 : Int32)), (.ref pa)])) (fun t k => XS.lloadN X10.here hx rfl (hb hby at_100) rfl k) ?_
  refine Wk.go (A' := T10.setTop (mkF m 103 #[iv fl, iv mx, jv bt, .second, iv sp, jv of, .second, iv ln, iv md, iv wi, iv ia, iv nn, rv pa, .unset, .unset] [(.int (40 : Int32)), (.long bt), (.int (5 : Int32)), (.ref pa)])) (fun t k => XS.bipush X10.here hx rfl (hb hby at_101) k) ?_
  refine Wk.go (A' := T10.setTop (mkF m 104 #[iv fl, iv mx, jv bt, .second, iv sp, jv of, .second, iv ln, iv md, iv wi, iv ia, iv nn, rv pa, .unset, .unset] [(.long ((bt.toUInt64 >>> ((40 : Int32) &&& 0x3f).toInt64.toUInt64).toInt64)), (.int (5 : Int32)), (.ref pa)])) (fun t k => XS.lushr X10.here hx rfl (hb hby at_103) rfl k) ?_
  refine Wk.go (A' := T10.setTop (mkF m 105 #[iv fl, iv mx, jv bt, .second, iv sp, jv of, .second, iv ln, iv md, iv wi, iv ia, iv nn, rv pa, .unset, .unset] [(.int (((bt.toUInt64 >>> ((40 : Int32) &&& 0x3f).toInt64.toUInt64).toInt64).toInt32)), (.int (5 : Int32)), (.ref pa)])) (fun t k => XS.l2i X10.here hx rfl (hb hby at_104) rfl k) ?_
  refine Wk.go (A' := T10.setTop (mkF m 106 #[iv fl, iv mx, jv bt, .second, iv sp, jv of, .second, iv ln, iv md, iv wi, iv ia, iv nn, rv pa, .unset, .unset] [(.int ((((bt.toUInt64 >>> ((40 : Int32) &&& 0x3f).toInt64.toUInt64).toInt64).toInt32).toInt8.toInt32)), (.int (5 : Int32)), (.ref pa)])) (fun t k => XS.i2b X10.here hx rfl (hb hby at_105) rfl k) ?_
  obtain ⟨T12, h12, X12, e12, W12, B12, st12⟩ := own_stB X10 hx hZ e10 f11 (j := (5 : Int32)) (by decide) (g := (mkF m 106 #[iv fl, iv mx, jv bt, .second, iv sp, jv of, .second, iv ln, iv md, iv wi, iv ia, iv nn, rv pa, .unset, .unset] [(.int ((((bt.toUInt64 >>> ((40 : Int32) &&& 0x3f).toInt64.toUInt64).toInt64).toInt32).toInt8.toInt32)), (.int (5 : Int32)), (.ref pa)])) rfl rfl (hb hby at_106)
  have V12 : BA Z h12 pa 8 (own_upd p5 5 (((((bt.toUInt64 >>> ((40 : Int32) &&& 0x3f).toInt64.toUInt64).toInt64).toInt32).toInt8.toInt32)).toInt8.toInt32) := B12
  obtain ⟨p6, hp6⟩ : ∃ z, z = (own_upd p5 5 (((((bt.toUInt64 >>> ((40 : Int32) &&& 0x3f).toInt64.toUInt64).toInt64).toInt32).toInt8.toInt32)).toInt8.toInt32) := ⟨_, rfl⟩
  rw [← hp6] at V12
  have f13 := V12
  have Zp12 : n0 ≤ h12.size := Nat.le_trans Zp10 (Nat.le_of_eq W12.size.symm)
  have N12 := Fr.snoc X12 N10 g_pa
  refine Wk.go (A' := T12.setTop (mkF m 107 #[iv fl, iv mx, jv bt, .second, iv sp, jv of, .second, iv ln, iv md, iv wi, iv ia, iv nn, rv pa, .unset, .unset] [])) (fun t k => st12 t k) ?_
  refine Wk.go (A' := T12.setTop (mkF m 109 #[iv fl, iv mx, jv bt, .second, iv sp, jv of, .second, iv ln, iv md, iv wi, iv ia, iv nn, rv pa, .unset, .unset] [(.ref pa)])) (fun t k => XS.aload X12.here hx rfl (hb hby at_107) rfl rfl k) ?_
  refine Wk.go (A' := T12.setTop (mkF m 111 #[iv fl, iv mx, jv bt, .second, iv sp, jv of, .second, iv ln, iv md, iv wi, iv ia, iv nn, rv pa, .unset, .unset] [(.int (6 : Int32)), (.ref pa)])) (fun t k => XS.bipush X12.here hx rfl (hb hby at_109) k) ?_
  refine Wk.go (A' := T12.setTop (mkF m 112 #[iv fl, iv mx, jv bt, .second, iv sp, jv of, .second, iv ln, iv md, iv wi, iv ia, iv nn, rv pa, .unset, .unset] [(.long bt), (.int (6 : Int32)), (.ref pa)])) (fun t k => XS.lloadN X12.here hx rfl (hb hby at_111) rfl k) ?_
  refine Wk.go (A' := T12.setTop (mkF m 114 #[iv fl, iv mx, jv bt, .second, iv sp, jv of, .second, iv ln, iv md, iv wi, iv ia, iv nn, rv pa, .unset, .unset] [(.int (48 : Int32)), (.long bt), (.int (6 : Int32)), (.ref pa)])) (fun t k => XS.bipush X12.here hx rfl (hb hby at_112) k) ?_
  refine Wk.go (A' := T12.setTop (mkF m 115 #[iv fl, iv mx, jv bt, .second, iv sp, jv of, .second, iv ln, iv md, iv wi, iv ia, iv nn, rv pa, .unset, .unset] [(.long ((bt.toUInt64 >>> ((48 : Int32) &&& 0x3f).toInt64.toUInt64).toInt64)), (.int (6 : Int32)), (.ref pa)])) (fun t k => XS.lushr X12.here hx rfl (hb hby at_114) rfl k) ?_
  refine Wk.go (A' := T12.setTop (mkF m 116 #[iv fl, iv mx, jv bt, .second, iv sp, jv of, .second, iv ln, iv md, iv wi, iv ia, iv nn, rv pa, .unset, .unset] [(.int (((bt.toUInt64 >>> ((48 : Int32) &&& 0x3f).toInt64.toUInt64).toInt64).toInt32)), (.int (6 : Int32)), (.ref pa)])) (fun t k => XS.l2i X12.here hx rfl (hb hby at_115) rfl k) ?_
  refine Wk.go (A' := T12.setTop (mkF m 117 #[iv fl, iv mx, jv bt, .second, iv sp, jv of, .second, iv ln, iv md, iv wi, iv ia, iv nn, rv pa, .unset, .unset] [(.int ((((bt.toUInt64 >>> ((48 : Int32) &&& 0x3f).toInt64.toUInt64).toInt64).toInt32).toInt8.toInt32)), (.int (6 : Int32)), (.ref pa)])) (fun t k => XS.i2b X12.here hx rfl (hb hby at_116) rfl k) ?_
  obtain ⟨T14, h14, X14, e14, W14, B14, st14⟩ := own_stB X12 hx hZ e12 f13 (j := (6 : Int32)) (by decide) (g := (mkF m 117 #[iv fl, iv mx, jv bt, .second, iv sp, jv of, .second, iv ln, iv md, iv wi, iv ia, iv nn, rv pa, .unset, .unset] [(.int ((((bt.toUInt64 >>> ((48 : Int32) &&& 0x3f).toInt64.toUInt64).toInt64).toInt32).toInt8.toInt32)), (.int (6 : Int32)), (.ref pa)])) rfl rfl (hb hby at_117)
  have V14 : BA Z h14 pa 8 (own_upd p6 6 (((((bt.toUInt64 >>> ((48 : Int32) &&& 0x3f).toInt64.toUInt64).toInt64).toInt32).toInt8.toInt32)).toInt8.toInt32) := B14
  obtain ⟨p7, hp7⟩ : ∃ z, z = (own_upd p6 6 (((((bt.toUInt64 >>> ((48 : Int32) &&& 0x3f).toInt64.toUInt64).toInt64).toInt32).toInt8.toInt32)).toInt8.toInt32) := ⟨_, rfl⟩
  rw [← hp7] at V14
  have f15 := V14
  have Zp14 : n0 ≤ h14.size := Nat.le_trans Zp12 (Nat.le_of_eq W14.size.symm)
  have N14 := Fr.snoc X14 N12 g_pa
  refine Wk.go (A' := T14.setTop (mkF m 118 #[iv fl, iv mx, jv bt, .second, iv sp, jv of, .second, iv ln, iv md, iv wi, iv ia, iv nn, rv pa, .unset, .unset] [])) (fun t k => st14 t k) ?_
  refine Wk.go (A' := T14.setTop (mkF m 120 #[iv fl, iv mx, jv bt, .second, iv sp, jv of, .second, iv ln, iv md, iv wi, iv ia, iv nn, rv pa, .unset, .unset] [(.ref pa)])) (fun t k => XS.aload X14.here hx rfl (hb hby at_118) rfl rfl k) ?_
  refine Wk.go (A' := T14.setTop (mkF m 122 #[iv fl, iv mx, jv bt, .second, iv sp, jv of, .second, iv ln, iv md, iv wi, iv ia, iv nn, rv pa, .unset, .unset] [(.int (7 : Int32)), (.ref pa)])) (fun t k => XS.bipush X14.here hx rfl (hb hby at_120) k) ?_
  refine Wk.go (A' := T14.setTop (mkF m 123 #[iv fl, iv mx, jv bt, .second, iv sp, jv of, .second, iv ln, iv md, iv wi, iv ia, iv nn, rv pa, .unset, .unset] [(.long bt), (.int (7 : Int32)), (.ref pa)])) (fun t k => XS.lloadN X14.here hx rfl (hb hby at_122) rfl k) ?_
  refine Wk.go (A' := T14.setTop (mkF m 125 #[iv fl, iv mx, jv bt, .second, iv sp, jv of, .second, iv ln, iv md, iv wi, iv ia, iv nn, rv pa, .unset, .unset] [(.int (56 : Int32)), (.long bt), (.int (7 : Int32)), (.ref pa)])) (fun t k => XS.bipush X14.here hx rfl (hb hby at_123) k) ?_
  refine Wk.go (A' := T14.setTop (mkF m 126 #[iv fl, iv mx, jv bt, .second, iv sp, jv of, .second, iv ln, iv md, iv wi, iv ia, iv nn, rv pa, .unset, .unset] [(.long ((bt.toUInt64 >>> ((56 : Int32) &&& 0x3f).toInt64.toUInt64).toInt64)), (.int (7 : Int32)), (.ref pa)])) (fun t k => XS.lushr X14.here hx rfl (hb hby at_125) rfl k) ?_
  refine Wk.go (A' := T14.setTop (mkF m 127 #[iv fl, iv mx, jv bt, .second, iv sp, jv of, .second, iv ln, iv md, iv wi, iv ia, iv nn, rv pa, .unset, .unset] [(.int (((bt.toUInt64 >>> ((56 : Int32) &&& 0x3f).toInt64.toUInt64).toInt64).toInt32)), (.int (7 : Int32)), (.ref pa)])) (fun t k => XS.l2i X14.here hx rfl (hb hby at_126) rfl k) ?_
  refine Wk.go (A' := T14.setTop (mkF m 128 #[iv fl, iv mx, jv bt, .second, iv sp, jv of, .second, iv ln, iv md, iv wi, iv ia, iv nn, rv pa, .unset, .unset] [(.int ((((bt.toUInt64 >>> ((56 : Int32) &&& 0x3f).toInt64.toUInt64).toInt64).toInt32).toInt8.toInt32)), (.int (7 : Int32)), (.ref pa)])) (fun t k => XS.i2b X14.here hx rfl (hb hby at_127) rfl k) ?_
  obtain ⟨T16, h16, X16, e16, W16, B16, st16⟩ := own_stB X14 hx hZ e14 f15 (j := (7 : Int32)) (by decide) (g := (mkF m 128 #[iv fl, iv mx, jv bt, .second, iv sp, jv of, .second, iv ln, iv md, iv wi, iv ia, iv nn, rv pa, .unset, .unset] [(.int ((((bt.toUInt64 >>> ((56 : Int32) &&& 0x3f).toInt64.toUInt64).toInt64).toInt32).toInt8.toInt32)), (.int (7 : Int32)), (.ref pa)])) rfl rfl (hb hby at_128)
  have V16 : BA Z h16 pa 8 (own_upd p7 7 (((((bt.toUInt64 >>> ((56 : Int32) &&& 0x3f).toInt64.toUInt64).toInt64).toInt32).toInt8.toInt32)).toInt8.toInt32) := B16
  obtain ⟨p8, hp8⟩ : ∃ z, z = (own_upd p7 7 (((((bt.toUInt64 >>> ((56 : Int32) &&& 0x3f).toInt64.toUInt64).toInt64).toInt32).toInt8.toInt32)).toInt8.toInt32) := ⟨_, rfl⟩
  rw [← hp8] at V16
  have f17 := V16
  have Zp16 : n0 ≤ h16.size := Nat.le_trans Zp14 (Nat.le_of_eq W16.size.symm)
  have N16 := Fr.snoc X16 N14 g_pa
  refine Wk.go (A' := T16.setTop (mkF m 129 #[iv fl, iv mx, jv bt, .second, iv sp, jv of, .second, iv ln, iv md, iv wi, iv ia, iv nn, rv pa, .unset, .unset] [])) (fun t k => st16 t k) ?_
  have hpay := own_pay bt p8 (by simp [hp8, hp7, hp6, hp5, hp4, hp3, hp2, hp1, own_upd]) (by simp [hp8, hp7, hp6, hp5, hp4, hp3, hp2, hp1, own_upd]) (by simp [hp8, hp7, hp6, hp5, hp4, hp3, hp2, hp1, own_upd]) (by simp [hp8, hp7, hp6, hp5, hp4, hp3, hp2, hp1, own_upd]) (by simp [hp8, hp7, hp6, hp5, hp4, hp3, hp2, hp1, own_upd]) (by simp [hp8, hp7, hp6, hp5, hp4, hp3, hp2, hp1, own_upd]) (by simp [hp8, hp7, hp6, hp5, hp4, hp3, hp2, hp1, own_upd]) (by simp [hp8, hp7, hp6, hp5, hp4, hp3, hp2, hp1, own_upd])
  have hmd01 : md = (0 : Int32) ∨ md = (1 : Int32) := by rw [← hmd]; split <;> simp
  have hwi01 : wi = (0 : Int32) ∨ wi = (1 : Int32) := by rw [← hwi]; split <;> simp
  have cut299 : ∀ (hd : Addr) (cdx : Int32) (fU : Nat → Int32) (TL : State) (hL : Heap) (lL : List Loc) (XL : Stand p l e room_1 s m #[(.int fl), (.int mx), (.long bt), (.int sp), (.long of), (.int ln)] below meth c TL lL 3 33) (eL : TL.heap = hL) (NL : Fr n0 lL) (ZL : n0 ≤ hL.size) (fL0 : BA Z hL pa 8 fU), (∀ j : Int32, 0 ≤ j.toInt → j.toInt < 8 → ¬ (f_cell pa bt j ia nn of mx md fU = (0 : Int32))) → Wk p.tables e below (TL.setTop (mkF m 299 #[iv fl, iv mx, jv bt, .second, iv sp, jv of, .second, iv ln, iv md, iv wi, iv ia, iv nn, rv pa, rv hd, iv cdx] [])) (fun U o => U.status = .running ∧ Ended U below o ∧ ∃ v L, o = .returned v ∧ Q0 Z fl mx bt sp of ln h0 n0 v U.heap L ∧ FrameEnd s o U L 3 33) := by
    intro hd cdx fU TL hL lL XL eL NL ZL fL0 hinv
    refine Wk.go (A' := TL.setTop (mkF m 301 #[iv fl, iv mx, jv bt, .second, iv sp, jv of, .second, iv ln, iv md, iv wi, iv ia, iv nn, rv pa, rv hd, iv cdx] [(.ref pa)])) (fun t k => XS.aload XL.here hx rfl (hb hby at_299) rfl rfl k) ?_
    refine Wk.go (A' := TL.setTop (mkF m 302 #[iv fl, iv mx, jv bt, .second, iv sp, jv of, .second, iv ln, iv md, iv wi, iv ia, iv nn, rv pa, rv hd, iv cdx] [(.long bt), (.ref pa)])) (fun t k => XS.lloadN XL.here hx rfl (hb hby at_301) rfl k) ?_
    refine Wk.go (A' := TL.setTop (mkF m 303 #[iv fl, iv mx, jv bt, .second, iv sp, jv of, .second, iv ln, iv md, iv wi, iv ia, iv nn, rv pa, rv hd, iv cdx] [(.int (0 : Int32)), (.long bt), (.ref pa)])) (fun t k => XS.iconst XL.here hx rfl (hb hby at_302) k) ?_
    refine Wk.go (A' := TL.setTop (mkF m 305 #[iv fl, iv mx, jv bt, .second, iv sp, jv of, .second, iv ln, iv md, iv wi, iv ia, iv nn, rv pa, rv hd, iv cdx] [(.int ia), (.int (0 : Int32)), (.long bt), (.ref pa)])) (fun t k => XS.iload XL.here hx rfl (hb hby at_303) rfl k) ?_
    refine Wk.go (A' := TL.setTop (mkF m 307 #[iv fl, iv mx, jv bt, .second, iv sp, jv of, .second, iv ln, iv md, iv wi, iv ia, iv nn, rv pa, rv hd, iv cdx] [(.int nn), (.int ia), (.int (0 : Int32)), (.long bt), (.ref pa)])) (fun t k => XS.iload XL.here hx rfl (hb hby at_305) rfl k) ?_
    refine Wk.go (A' := TL.setTop (mkF m 309 #[iv fl, iv mx, jv bt, .second, iv sp, jv of, .second, iv ln, iv md, iv wi, iv ia, iv nn, rv pa, rv hd, iv cdx] [(.long of), (.int nn), (.int ia), (.int (0 : Int32)), (.long bt), (.ref pa)])) (fun t k => XS.lload XL.here hx rfl (hb hby at_307) rfl k) ?_
    refine Wk.go (A' := TL.setTop (mkF m 310 #[iv fl, iv mx, jv bt, .second, iv sp, jv of, .second, iv ln, iv md, iv wi, iv ia, iv nn, rv pa, rv hd, iv cdx] [(.int mx), (.long of), (.int nn), (.int ia), (.int (0 : Int32)), (.long bt), (.ref pa)])) (fun t k => XS.iloadN XL.here hx rfl (hb hby at_309) rfl k) ?_
    refine Wk.go (A' := TL.setTop (mkF m 312 #[iv fl, iv mx, jv bt, .second, iv sp, jv of, .second, iv ln, iv md, iv wi, iv ia, iv nn, rv pa, rv hd, iv cdx] [(.int md), (.int mx), (.long of), (.int nn), (.int ia), (.int (0 : Int32)), (.long bt), (.ref pa)])) (fun t k => XS.iload XL.here hx rfl (hb hby at_310) rfl k) ?_
    obtain ⟨_, _, ⟨T18, L18, k18, n18⟩, -, X18, ⟨Lc18, hQ18, l18, y18, z18⟩, st18⟩ := Jvm.LawKit.callS XL hx (y := (⟨"com/example/dense_envelope/denseenvelope/websocket/FrameHeaderUnmaskPinLaw", "cell", "([BJIIIJIZ)Z"⟩ : MethodName)) hown (mvT hZ (tw61 hw)) (mvT hZ (tw62 hw)) (mvT hZ (tw63 hw)) (mvT hZ (tw64 hw)) (by decide) (backOf (W := 0) (rm9 l Z a0 hw [] pa bt (0 : Int32) ia nn of mx md fU hL n0 ZL fL0 (by decide)) hZ (tw64 hw) (tw63 hw) (by decide) (by decide)) (g := (mkF m 312 #[iv fl, iv mx, jv bt, .second, iv sp, jv of, .second, iv ln, iv md, iv wi, iv ia, iv nn, rv pa, rv hd, iv cdx] [(.int md), (.int mx), (.long of), (.int nn), (.int ia), (.int (0 : Int32)), (.long bt), (.ref pa)])) rfl (by rw [hml]; rfl) (argsL := [(.ref pa), (.long bt), (.int (0 : Int32)), (.int ia), (.int nn), (.long of), (.int mx), (.int md)]) (rest := []) (lenOf pd_4 rfl) rfl (by show 2 * 0 + _ ≤ _; exact Nat.le_of_eq rfl) (hb hby at_312) (fun _ _ => ⟨rfl, eL, (by decide : 3 + 0 ≤ _), (by decide : 33 + 0 ≤ _)⟩)
    dsimp only [Pt.U, Pt.locs, Pt.cells, Pt.slots] at X18 l18 y18 z18 st18 hQ18
    subst l18 y18 z18
    obtain ⟨rfl, N18q, hE18⟩ := hQ18
    have N18 := Fr.app NL N18q
    refine Wk.go (A' := T18.setTop (mkF m 315 #[iv fl, iv mx, jv bt, .second, iv sp, jv of, .second, iv ln, iv md, iv wi, iv ia, iv nn, rv pa, rv hd, iv cdx] [(.int (f_cell pa bt (0 : Int32) ia nn of mx md fU))])) (fun t k => st18 t k) ?_
    have hc315 : ¬ ((f_cell pa bt (0 : Int32) ia nn of mx md fU) = (0 : Int32)) := hinv _ (by decide) (by decide)
    refine Wk.go (A' := T18.setTop (mkF m 318 #[iv fl, iv mx, jv bt, .second, iv sp, jv of, .second, iv ln, iv md, iv wi, iv ia, iv nn, rv pa, rv hd, iv cdx] [])) (fun t k => XS.ifNo X18.here hx rfl (hb hby at_315) rfl ((if0 _ _).trans (feq hc315).1) k) ?_
    refine Wk.go (A' := T18.setTop (mkF m 320 #[iv fl, iv mx, jv bt, .second, iv sp, jv of, .second, iv ln, iv md, iv wi, iv ia, iv nn, rv pa, rv hd, iv cdx] [(.ref pa)])) (fun t k => XS.aload X18.here hx rfl (hb hby at_318) rfl rfl k) ?_
    refine Wk.go (A' := T18.setTop (mkF m 321 #[iv fl, iv mx, jv bt, .second, iv sp, jv of, .second, iv ln, iv md, iv wi, iv ia, iv nn, rv pa, rv hd, iv cdx] [(.long bt), (.ref pa)])) (fun t k => XS.lloadN X18.here hx rfl (hb hby at_320) rfl k) ?_
    refine Wk.go (A' := T18.setTop (mkF m 322 #[iv fl, iv mx, jv bt, .second, iv sp, jv of, .second, iv ln, iv md, iv wi, iv ia, iv nn, rv pa, rv hd, iv cdx] [(.int (1 : Int32)), (.long bt), (.ref pa)])) (fun t k => XS.iconst X18.here hx rfl (hb hby at_321) k) ?_
    refine Wk.go (A' := T18.setTop (mkF m 324 #[iv fl, iv mx, jv bt, .second, iv sp, jv of, .second, iv ln, iv md, iv wi, iv ia, iv nn, rv pa, rv hd, iv cdx] [(.int ia), (.int (1 : Int32)), (.long bt), (.ref pa)])) (fun t k => XS.iload X18.here hx rfl (hb hby at_322) rfl k) ?_
    refine Wk.go (A' := T18.setTop (mkF m 326 #[iv fl, iv mx, jv bt, .second, iv sp, jv of, .second, iv ln, iv md, iv wi, iv ia, iv nn, rv pa, rv hd, iv cdx] [(.int nn), (.int ia), (.int (1 : Int32)), (.long bt), (.ref pa)])) (fun t k => XS.iload X18.here hx rfl (hb hby at_324) rfl k) ?_
    refine Wk.go (A' := T18.setTop (mkF m 328 #[iv fl, iv mx, jv bt, .second, iv sp, jv of, .second, iv ln, iv md, iv wi, iv ia, iv nn, rv pa, rv hd, iv cdx] [(.long of), (.int nn), (.int ia), (.int (1 : Int32)), (.long bt), (.ref pa)])) (fun t k => XS.lload X18.here hx rfl (hb hby at_326) rfl k) ?_
    refine Wk.go (A' := T18.setTop (mkF m 329 #[iv fl, iv mx, jv bt, .second, iv sp, jv of, .second, iv ln, iv md, iv wi, iv ia, iv nn, rv pa, rv hd, iv cdx] [(.int mx), (.long of), (.int nn), (.int ia), (.int (1 : Int32)), (.long bt), (.ref pa)])) (fun t k => XS.iloadN X18.here hx rfl (hb hby at_328) rfl k) ?_
    refine Wk.go (A' := T18.setTop (mkF m 331 #[iv fl, iv mx, jv bt, .second, iv sp, jv of, .second, iv ln, iv md, iv wi, iv ia, iv nn, rv pa, rv hd, iv cdx] [(.int md), (.int mx), (.long of), (.int nn), (.int ia), (.int (1 : Int32)), (.long bt), (.ref pa)])) (fun t k => XS.iload X18.here hx rfl (hb hby at_329) rfl k) ?_
    obtain ⟨_, _, ⟨T19, L19, k19, n19⟩, -, X19, ⟨Lc19, hQ19, l19, y19, z19⟩, st19⟩ := Jvm.LawKit.callS X18 hx (y := (⟨"com/example/dense_envelope/denseenvelope/websocket/FrameHeaderUnmaskPinLaw", "cell", "([BJIIIJIZ)Z"⟩ : MethodName)) hown (mvT hZ (tw61 hw)) (mvT hZ (tw62 hw)) (mvT hZ (tw63 hw)) (mvT hZ (tw64 hw)) (by decide) (backOf (W := 0) (rm9 l Z a0 hw [] pa bt (1 : Int32) ia nn of mx md fU hL n0 ZL fL0 (by decide)) hZ (tw64 hw) (tw63 hw) (by decide) (by decide)) (g := (mkF m 331 #[iv fl, iv mx, jv bt, .second, iv sp, jv of, .second, iv ln, iv md, iv wi, iv ia, iv nn, rv pa, rv hd, iv cdx] [(.int md), (.int mx), (.long of), (.int nn), (.int ia), (.int (1 : Int32)), (.long bt), (.ref pa)])) rfl (by rw [hml]; rfl) (argsL := [(.ref pa), (.long bt), (.int (1 : Int32)), (.int ia), (.int nn), (.long of), (.int mx), (.int md)]) (rest := []) (lenOf pd_4 rfl) rfl (by show 2 * 0 + _ ≤ _; exact Nat.le_of_eq rfl) (hb hby at_331) (fun _ _ => ⟨rfl, (hE18), (by decide : 3 + 0 ≤ _), (by decide : 33 + 0 ≤ _)⟩)
    dsimp only [Pt.U, Pt.locs, Pt.cells, Pt.slots] at X19 l19 y19 z19 st19 hQ19
    subst l19 y19 z19
    obtain ⟨rfl, N19q, hE19⟩ := hQ19
    have N19 := Fr.app N18 N19q
    refine Wk.go (A' := T19.setTop (mkF m 334 #[iv fl, iv mx, jv bt, .second, iv sp, jv of, .second, iv ln, iv md, iv wi, iv ia, iv nn, rv pa, rv hd, iv cdx] [(.int (f_cell pa bt (1 : Int32) ia nn of mx md fU))])) (fun t k => st19 t k) ?_
    have hc334 : ¬ ((f_cell pa bt (1 : Int32) ia nn of mx md fU) = (0 : Int32)) := hinv _ (by decide) (by decide)
    refine Wk.go (A' := T19.setTop (mkF m 337 #[iv fl, iv mx, jv bt, .second, iv sp, jv of, .second, iv ln, iv md, iv wi, iv ia, iv nn, rv pa, rv hd, iv cdx] [])) (fun t k => XS.ifNo X19.here hx rfl (hb hby at_334) rfl ((if0 _ _).trans (feq hc334).1) k) ?_
    refine Wk.go (A' := T19.setTop (mkF m 339 #[iv fl, iv mx, jv bt, .second, iv sp, jv of, .second, iv ln, iv md, iv wi, iv ia, iv nn, rv pa, rv hd, iv cdx] [(.ref pa)])) (fun t k => XS.aload X19.here hx rfl (hb hby at_337) rfl rfl k) ?_
    refine Wk.go (A' := T19.setTop (mkF m 340 #[iv fl, iv mx, jv bt, .second, iv sp, jv of, .second, iv ln, iv md, iv wi, iv ia, iv nn, rv pa, rv hd, iv cdx] [(.long bt), (.ref pa)])) (fun t k => XS.lloadN X19.here hx rfl (hb hby at_339) rfl k) ?_
    refine Wk.go (A' := T19.setTop (mkF m 341 #[iv fl, iv mx, jv bt, .second, iv sp, jv of, .second, iv ln, iv md, iv wi, iv ia, iv nn, rv pa, rv hd, iv cdx] [(.int (2 : Int32)), (.long bt), (.ref pa)])) (fun t k => XS.iconst X19.here hx rfl (hb hby at_340) k) ?_
    refine Wk.go (A' := T19.setTop (mkF m 343 #[iv fl, iv mx, jv bt, .second, iv sp, jv of, .second, iv ln, iv md, iv wi, iv ia, iv nn, rv pa, rv hd, iv cdx] [(.int ia), (.int (2 : Int32)), (.long bt), (.ref pa)])) (fun t k => XS.iload X19.here hx rfl (hb hby at_341) rfl k) ?_
    refine Wk.go (A' := T19.setTop (mkF m 345 #[iv fl, iv mx, jv bt, .second, iv sp, jv of, .second, iv ln, iv md, iv wi, iv ia, iv nn, rv pa, rv hd, iv cdx] [(.int nn), (.int ia), (.int (2 : Int32)), (.long bt), (.ref pa)])) (fun t k => XS.iload X19.here hx rfl (hb hby at_343) rfl k) ?_
    refine Wk.go (A' := T19.setTop (mkF m 347 #[iv fl, iv mx, jv bt, .second, iv sp, jv of, .second, iv ln, iv md, iv wi, iv ia, iv nn, rv pa, rv hd, iv cdx] [(.long of), (.int nn), (.int ia), (.int (2 : Int32)), (.long bt), (.ref pa)])) (fun t k => XS.lload X19.here hx rfl (hb hby at_345) rfl k) ?_
    refine Wk.go (A' := T19.setTop (mkF m 348 #[iv fl, iv mx, jv bt, .second, iv sp, jv of, .second, iv ln, iv md, iv wi, iv ia, iv nn, rv pa, rv hd, iv cdx] [(.int mx), (.long of), (.int nn), (.int ia), (.int (2 : Int32)), (.long bt), (.ref pa)])) (fun t k => XS.iloadN X19.here hx rfl (hb hby at_347) rfl k) ?_
    refine Wk.go (A' := T19.setTop (mkF m 350 #[iv fl, iv mx, jv bt, .second, iv sp, jv of, .second, iv ln, iv md, iv wi, iv ia, iv nn, rv pa, rv hd, iv cdx] [(.int md), (.int mx), (.long of), (.int nn), (.int ia), (.int (2 : Int32)), (.long bt), (.ref pa)])) (fun t k => XS.iload X19.here hx rfl (hb hby at_348) rfl k) ?_
    obtain ⟨_, _, ⟨T20, L20, k20, n20⟩, -, X20, ⟨Lc20, hQ20, l20, y20, z20⟩, st20⟩ := Jvm.LawKit.callS X19 hx (y := (⟨"com/example/dense_envelope/denseenvelope/websocket/FrameHeaderUnmaskPinLaw", "cell", "([BJIIIJIZ)Z"⟩ : MethodName)) hown (mvT hZ (tw61 hw)) (mvT hZ (tw62 hw)) (mvT hZ (tw63 hw)) (mvT hZ (tw64 hw)) (by decide) (backOf (W := 0) (rm9 l Z a0 hw [] pa bt (2 : Int32) ia nn of mx md fU hL n0 ZL fL0 (by decide)) hZ (tw64 hw) (tw63 hw) (by decide) (by decide)) (g := (mkF m 350 #[iv fl, iv mx, jv bt, .second, iv sp, jv of, .second, iv ln, iv md, iv wi, iv ia, iv nn, rv pa, rv hd, iv cdx] [(.int md), (.int mx), (.long of), (.int nn), (.int ia), (.int (2 : Int32)), (.long bt), (.ref pa)])) rfl (by rw [hml]; rfl) (argsL := [(.ref pa), (.long bt), (.int (2 : Int32)), (.int ia), (.int nn), (.long of), (.int mx), (.int md)]) (rest := []) (lenOf pd_4 rfl) rfl (by show 2 * 0 + _ ≤ _; exact Nat.le_of_eq rfl) (hb hby at_350) (fun _ _ => ⟨rfl, (hE19), (by decide : 3 + 0 ≤ _), (by decide : 33 + 0 ≤ _)⟩)
    dsimp only [Pt.U, Pt.locs, Pt.cells, Pt.slots] at X20 l20 y20 z20 st20 hQ20
    subst l20 y20 z20
    obtain ⟨rfl, N20q, hE20⟩ := hQ20
    have N20 := Fr.app N19 N20q
    refine Wk.go (A' := T20.setTop (mkF m 353 #[iv fl, iv mx, jv bt, .second, iv sp, jv of, .second, iv ln, iv md, iv wi, iv ia, iv nn, rv pa, rv hd, iv cdx] [(.int (f_cell pa bt (2 : Int32) ia nn of mx md fU))])) (fun t k => st20 t k) ?_
    have hc353 : ¬ ((f_cell pa bt (2 : Int32) ia nn of mx md fU) = (0 : Int32)) := hinv _ (by decide) (by decide)
    refine Wk.go (A' := T20.setTop (mkF m 356 #[iv fl, iv mx, jv bt, .second, iv sp, jv of, .second, iv ln, iv md, iv wi, iv ia, iv nn, rv pa, rv hd, iv cdx] [])) (fun t k => XS.ifNo X20.here hx rfl (hb hby at_353) rfl ((if0 _ _).trans (feq hc353).1) k) ?_
    refine Wk.go (A' := T20.setTop (mkF m 358 #[iv fl, iv mx, jv bt, .second, iv sp, jv of, .second, iv ln, iv md, iv wi, iv ia, iv nn, rv pa, rv hd, iv cdx] [(.ref pa)])) (fun t k => XS.aload X20.here hx rfl (hb hby at_356) rfl rfl k) ?_
    refine Wk.go (A' := T20.setTop (mkF m 359 #[iv fl, iv mx, jv bt, .second, iv sp, jv of, .second, iv ln, iv md, iv wi, iv ia, iv nn, rv pa, rv hd, iv cdx] [(.long bt), (.ref pa)])) (fun t k => XS.lloadN X20.here hx rfl (hb hby at_358) rfl k) ?_
    refine Wk.go (A' := T20.setTop (mkF m 360 #[iv fl, iv mx, jv bt, .second, iv sp, jv of, .second, iv ln, iv md, iv wi, iv ia, iv nn, rv pa, rv hd, iv cdx] [(.int (3 : Int32)), (.long bt), (.ref pa)])) (fun t k => XS.iconst X20.here hx rfl (hb hby at_359) k) ?_
    refine Wk.go (A' := T20.setTop (mkF m 362 #[iv fl, iv mx, jv bt, .second, iv sp, jv of, .second, iv ln, iv md, iv wi, iv ia, iv nn, rv pa, rv hd, iv cdx] [(.int ia), (.int (3 : Int32)), (.long bt), (.ref pa)])) (fun t k => XS.iload X20.here hx rfl (hb hby at_360) rfl k) ?_
    refine Wk.go (A' := T20.setTop (mkF m 364 #[iv fl, iv mx, jv bt, .second, iv sp, jv of, .second, iv ln, iv md, iv wi, iv ia, iv nn, rv pa, rv hd, iv cdx] [(.int nn), (.int ia), (.int (3 : Int32)), (.long bt), (.ref pa)])) (fun t k => XS.iload X20.here hx rfl (hb hby at_362) rfl k) ?_
    refine Wk.go (A' := T20.setTop (mkF m 366 #[iv fl, iv mx, jv bt, .second, iv sp, jv of, .second, iv ln, iv md, iv wi, iv ia, iv nn, rv pa, rv hd, iv cdx] [(.long of), (.int nn), (.int ia), (.int (3 : Int32)), (.long bt), (.ref pa)])) (fun t k => XS.lload X20.here hx rfl (hb hby at_364) rfl k) ?_
    refine Wk.go (A' := T20.setTop (mkF m 367 #[iv fl, iv mx, jv bt, .second, iv sp, jv of, .second, iv ln, iv md, iv wi, iv ia, iv nn, rv pa, rv hd, iv cdx] [(.int mx), (.long of), (.int nn), (.int ia), (.int (3 : Int32)), (.long bt), (.ref pa)])) (fun t k => XS.iloadN X20.here hx rfl (hb hby at_366) rfl k) ?_
    refine Wk.go (A' := T20.setTop (mkF m 369 #[iv fl, iv mx, jv bt, .second, iv sp, jv of, .second, iv ln, iv md, iv wi, iv ia, iv nn, rv pa, rv hd, iv cdx] [(.int md), (.int mx), (.long of), (.int nn), (.int ia), (.int (3 : Int32)), (.long bt), (.ref pa)])) (fun t k => XS.iload X20.here hx rfl (hb hby at_367) rfl k) ?_
    obtain ⟨_, _, ⟨T21, L21, k21, n21⟩, -, X21, ⟨Lc21, hQ21, l21, y21, z21⟩, st21⟩ := Jvm.LawKit.callS X20 hx (y := (⟨"com/example/dense_envelope/denseenvelope/websocket/FrameHeaderUnmaskPinLaw", "cell", "([BJIIIJIZ)Z"⟩ : MethodName)) hown (mvT hZ (tw61 hw)) (mvT hZ (tw62 hw)) (mvT hZ (tw63 hw)) (mvT hZ (tw64 hw)) (by decide) (backOf (W := 0) (rm9 l Z a0 hw [] pa bt (3 : Int32) ia nn of mx md fU hL n0 ZL fL0 (by decide)) hZ (tw64 hw) (tw63 hw) (by decide) (by decide)) (g := (mkF m 369 #[iv fl, iv mx, jv bt, .second, iv sp, jv of, .second, iv ln, iv md, iv wi, iv ia, iv nn, rv pa, rv hd, iv cdx] [(.int md), (.int mx), (.long of), (.int nn), (.int ia), (.int (3 : Int32)), (.long bt), (.ref pa)])) rfl (by rw [hml]; rfl) (argsL := [(.ref pa), (.long bt), (.int (3 : Int32)), (.int ia), (.int nn), (.long of), (.int mx), (.int md)]) (rest := []) (lenOf pd_4 rfl) rfl (by show 2 * 0 + _ ≤ _; exact Nat.le_of_eq rfl) (hb hby at_369) (fun _ _ => ⟨rfl, (hE20), (by decide : 3 + 0 ≤ _), (by decide : 33 + 0 ≤ _)⟩)
    dsimp only [Pt.U, Pt.locs, Pt.cells, Pt.slots] at X21 l21 y21 z21 st21 hQ21
    subst l21 y21 z21
    obtain ⟨rfl, N21q, hE21⟩ := hQ21
    have N21 := Fr.app N20 N21q
    refine Wk.go (A' := T21.setTop (mkF m 372 #[iv fl, iv mx, jv bt, .second, iv sp, jv of, .second, iv ln, iv md, iv wi, iv ia, iv nn, rv pa, rv hd, iv cdx] [(.int (f_cell pa bt (3 : Int32) ia nn of mx md fU))])) (fun t k => st21 t k) ?_
    have hc372 : ¬ ((f_cell pa bt (3 : Int32) ia nn of mx md fU) = (0 : Int32)) := hinv _ (by decide) (by decide)
    refine Wk.go (A' := T21.setTop (mkF m 375 #[iv fl, iv mx, jv bt, .second, iv sp, jv of, .second, iv ln, iv md, iv wi, iv ia, iv nn, rv pa, rv hd, iv cdx] [])) (fun t k => XS.ifNo X21.here hx rfl (hb hby at_372) rfl ((if0 _ _).trans (feq hc372).1) k) ?_
    refine Wk.go (A' := T21.setTop (mkF m 377 #[iv fl, iv mx, jv bt, .second, iv sp, jv of, .second, iv ln, iv md, iv wi, iv ia, iv nn, rv pa, rv hd, iv cdx] [(.ref pa)])) (fun t k => XS.aload X21.here hx rfl (hb hby at_375) rfl rfl k) ?_
    refine Wk.go (A' := T21.setTop (mkF m 378 #[iv fl, iv mx, jv bt, .second, iv sp, jv of, .second, iv ln, iv md, iv wi, iv ia, iv nn, rv pa, rv hd, iv cdx] [(.long bt), (.ref pa)])) (fun t k => XS.lloadN X21.here hx rfl (hb hby at_377) rfl k) ?_
    refine Wk.go (A' := T21.setTop (mkF m 379 #[iv fl, iv mx, jv bt, .second, iv sp, jv of, .second, iv ln, iv md, iv wi, iv ia, iv nn, rv pa, rv hd, iv cdx] [(.int (4 : Int32)), (.long bt), (.ref pa)])) (fun t k => XS.iconst X21.here hx rfl (hb hby at_378) k) ?_
    refine Wk.go (A' := T21.setTop (mkF m 381 #[iv fl, iv mx, jv bt, .second, iv sp, jv of, .second, iv ln, iv md, iv wi, iv ia, iv nn, rv pa, rv hd, iv cdx] [(.int ia), (.int (4 : Int32)), (.long bt), (.ref pa)])) (fun t k => XS.iload X21.here hx rfl (hb hby at_379) rfl k) ?_
    refine Wk.go (A' := T21.setTop (mkF m 383 #[iv fl, iv mx, jv bt, .second, iv sp, jv of, .second, iv ln, iv md, iv wi, iv ia, iv nn, rv pa, rv hd, iv cdx] [(.int nn), (.int ia), (.int (4 : Int32)), (.long bt), (.ref pa)])) (fun t k => XS.iload X21.here hx rfl (hb hby at_381) rfl k) ?_
    refine Wk.go (A' := T21.setTop (mkF m 385 #[iv fl, iv mx, jv bt, .second, iv sp, jv of, .second, iv ln, iv md, iv wi, iv ia, iv nn, rv pa, rv hd, iv cdx] [(.long of), (.int nn), (.int ia), (.int (4 : Int32)), (.long bt), (.ref pa)])) (fun t k => XS.lload X21.here hx rfl (hb hby at_383) rfl k) ?_
    refine Wk.go (A' := T21.setTop (mkF m 386 #[iv fl, iv mx, jv bt, .second, iv sp, jv of, .second, iv ln, iv md, iv wi, iv ia, iv nn, rv pa, rv hd, iv cdx] [(.int mx), (.long of), (.int nn), (.int ia), (.int (4 : Int32)), (.long bt), (.ref pa)])) (fun t k => XS.iloadN X21.here hx rfl (hb hby at_385) rfl k) ?_
    refine Wk.go (A' := T21.setTop (mkF m 388 #[iv fl, iv mx, jv bt, .second, iv sp, jv of, .second, iv ln, iv md, iv wi, iv ia, iv nn, rv pa, rv hd, iv cdx] [(.int md), (.int mx), (.long of), (.int nn), (.int ia), (.int (4 : Int32)), (.long bt), (.ref pa)])) (fun t k => XS.iload X21.here hx rfl (hb hby at_386) rfl k) ?_
    obtain ⟨_, _, ⟨T22, L22, k22, n22⟩, -, X22, ⟨Lc22, hQ22, l22, y22, z22⟩, st22⟩ := Jvm.LawKit.callS X21 hx (y := (⟨"com/example/dense_envelope/denseenvelope/websocket/FrameHeaderUnmaskPinLaw", "cell", "([BJIIIJIZ)Z"⟩ : MethodName)) hown (mvT hZ (tw61 hw)) (mvT hZ (tw62 hw)) (mvT hZ (tw63 hw)) (mvT hZ (tw64 hw)) (by decide) (backOf (W := 0) (rm9 l Z a0 hw [] pa bt (4 : Int32) ia nn of mx md fU hL n0 ZL fL0 (by decide)) hZ (tw64 hw) (tw63 hw) (by decide) (by decide)) (g := (mkF m 388 #[iv fl, iv mx, jv bt, .second, iv sp, jv of, .second, iv ln, iv md, iv wi, iv ia, iv nn, rv pa, rv hd, iv cdx] [(.int md), (.int mx), (.long of), (.int nn), (.int ia), (.int (4 : Int32)), (.long bt), (.ref pa)])) rfl (by rw [hml]; rfl) (argsL := [(.ref pa), (.long bt), (.int (4 : Int32)), (.int ia), (.int nn), (.long of), (.int mx), (.int md)]) (rest := []) (lenOf pd_4 rfl) rfl (by show 2 * 0 + _ ≤ _; exact Nat.le_of_eq rfl) (hb hby at_388) (fun _ _ => ⟨rfl, (hE21), (by decide : 3 + 0 ≤ _), (by decide : 33 + 0 ≤ _)⟩)
    dsimp only [Pt.U, Pt.locs, Pt.cells, Pt.slots] at X22 l22 y22 z22 st22 hQ22
    subst l22 y22 z22
    obtain ⟨rfl, N22q, hE22⟩ := hQ22
    have N22 := Fr.app N21 N22q
    refine Wk.go (A' := T22.setTop (mkF m 391 #[iv fl, iv mx, jv bt, .second, iv sp, jv of, .second, iv ln, iv md, iv wi, iv ia, iv nn, rv pa, rv hd, iv cdx] [(.int (f_cell pa bt (4 : Int32) ia nn of mx md fU))])) (fun t k => st22 t k) ?_
    have hc391 : ¬ ((f_cell pa bt (4 : Int32) ia nn of mx md fU) = (0 : Int32)) := hinv _ (by decide) (by decide)
    refine Wk.go (A' := T22.setTop (mkF m 394 #[iv fl, iv mx, jv bt, .second, iv sp, jv of, .second, iv ln, iv md, iv wi, iv ia, iv nn, rv pa, rv hd, iv cdx] [])) (fun t k => XS.ifNo X22.here hx rfl (hb hby at_391) rfl ((if0 _ _).trans (feq hc391).1) k) ?_
    refine Wk.go (A' := T22.setTop (mkF m 396 #[iv fl, iv mx, jv bt, .second, iv sp, jv of, .second, iv ln, iv md, iv wi, iv ia, iv nn, rv pa, rv hd, iv cdx] [(.ref pa)])) (fun t k => XS.aload X22.here hx rfl (hb hby at_394) rfl rfl k) ?_
    refine Wk.go (A' := T22.setTop (mkF m 397 #[iv fl, iv mx, jv bt, .second, iv sp, jv of, .second, iv ln, iv md, iv wi, iv ia, iv nn, rv pa, rv hd, iv cdx] [(.long bt), (.ref pa)])) (fun t k => XS.lloadN X22.here hx rfl (hb hby at_396) rfl k) ?_
    refine Wk.go (A' := T22.setTop (mkF m 398 #[iv fl, iv mx, jv bt, .second, iv sp, jv of, .second, iv ln, iv md, iv wi, iv ia, iv nn, rv pa, rv hd, iv cdx] [(.int (5 : Int32)), (.long bt), (.ref pa)])) (fun t k => XS.iconst X22.here hx rfl (hb hby at_397) k) ?_
    refine Wk.go (A' := T22.setTop (mkF m 400 #[iv fl, iv mx, jv bt, .second, iv sp, jv of, .second, iv ln, iv md, iv wi, iv ia, iv nn, rv pa, rv hd, iv cdx] [(.int ia), (.int (5 : Int32)), (.long bt), (.ref pa)])) (fun t k => XS.iload X22.here hx rfl (hb hby at_398) rfl k) ?_
    refine Wk.go (A' := T22.setTop (mkF m 402 #[iv fl, iv mx, jv bt, .second, iv sp, jv of, .second, iv ln, iv md, iv wi, iv ia, iv nn, rv pa, rv hd, iv cdx] [(.int nn), (.int ia), (.int (5 : Int32)), (.long bt), (.ref pa)])) (fun t k => XS.iload X22.here hx rfl (hb hby at_400) rfl k) ?_
    refine Wk.go (A' := T22.setTop (mkF m 404 #[iv fl, iv mx, jv bt, .second, iv sp, jv of, .second, iv ln, iv md, iv wi, iv ia, iv nn, rv pa, rv hd, iv cdx] [(.long of), (.int nn), (.int ia), (.int (5 : Int32)), (.long bt), (.ref pa)])) (fun t k => XS.lload X22.here hx rfl (hb hby at_402) rfl k) ?_
    refine Wk.go (A' := T22.setTop (mkF m 405 #[iv fl, iv mx, jv bt, .second, iv sp, jv of, .second, iv ln, iv md, iv wi, iv ia, iv nn, rv pa, rv hd, iv cdx] [(.int mx), (.long of), (.int nn), (.int ia), (.int (5 : Int32)), (.long bt), (.ref pa)])) (fun t k => XS.iloadN X22.here hx rfl (hb hby at_404) rfl k) ?_
    refine Wk.go (A' := T22.setTop (mkF m 407 #[iv fl, iv mx, jv bt, .second, iv sp, jv of, .second, iv ln, iv md, iv wi, iv ia, iv nn, rv pa, rv hd, iv cdx] [(.int md), (.int mx), (.long of), (.int nn), (.int ia), (.int (5 : Int32)), (.long bt), (.ref pa)])) (fun t k => XS.iload X22.here hx rfl (hb hby at_405) rfl k) ?_
    obtain ⟨_, _, ⟨T23, L23, k23, n23⟩, -, X23, ⟨Lc23, hQ23, l23, y23, z23⟩, st23⟩ := Jvm.LawKit.callS X22 hx (y := (⟨"com/example/dense_envelope/denseenvelope/websocket/FrameHeaderUnmaskPinLaw", "cell", "([BJIIIJIZ)Z"⟩ : MethodName)) hown (mvT hZ (tw61 hw)) (mvT hZ (tw62 hw)) (mvT hZ (tw63 hw)) (mvT hZ (tw64 hw)) (by decide) (backOf (W := 0) (rm9 l Z a0 hw [] pa bt (5 : Int32) ia nn of mx md fU hL n0 ZL fL0 (by decide)) hZ (tw64 hw) (tw63 hw) (by decide) (by decide)) (g := (mkF m 407 #[iv fl, iv mx, jv bt, .second, iv sp, jv of, .second, iv ln, iv md, iv wi, iv ia, iv nn, rv pa, rv hd, iv cdx] [(.int md), (.int mx), (.long of), (.int nn), (.int ia), (.int (5 : Int32)), (.long bt), (.ref pa)])) rfl (by rw [hml]; rfl) (argsL := [(.ref pa), (.long bt), (.int (5 : Int32)), (.int ia), (.int nn), (.long of), (.int mx), (.int md)]) (rest := []) (lenOf pd_4 rfl) rfl (by show 2 * 0 + _ ≤ _; exact Nat.le_of_eq rfl) (hb hby at_407) (fun _ _ => ⟨rfl, (hE22), (by decide : 3 + 0 ≤ _), (by decide : 33 + 0 ≤ _)⟩)
    dsimp only [Pt.U, Pt.locs, Pt.cells, Pt.slots] at X23 l23 y23 z23 st23 hQ23
    subst l23 y23 z23
    obtain ⟨rfl, N23q, hE23⟩ := hQ23
    have N23 := Fr.app N22 N23q
    refine Wk.go (A' := T23.setTop (mkF m 410 #[iv fl, iv mx, jv bt, .second, iv sp, jv of, .second, iv ln, iv md, iv wi, iv ia, iv nn, rv pa, rv hd, iv cdx] [(.int (f_cell pa bt (5 : Int32) ia nn of mx md fU))])) (fun t k => st23 t k) ?_
    have hc410 : ¬ ((f_cell pa bt (5 : Int32) ia nn of mx md fU) = (0 : Int32)) := hinv _ (by decide) (by decide)
    refine Wk.go (A' := T23.setTop (mkF m 413 #[iv fl, iv mx, jv bt, .second, iv sp, jv of, .second, iv ln, iv md, iv wi, iv ia, iv nn, rv pa, rv hd, iv cdx] [])) (fun t k => XS.ifNo X23.here hx rfl (hb hby at_410) rfl ((if0 _ _).trans (feq hc410).1) k) ?_
    refine Wk.go (A' := T23.setTop (mkF m 415 #[iv fl, iv mx, jv bt, .second, iv sp, jv of, .second, iv ln, iv md, iv wi, iv ia, iv nn, rv pa, rv hd, iv cdx] [(.ref pa)])) (fun t k => XS.aload X23.here hx rfl (hb hby at_413) rfl rfl k) ?_
    refine Wk.go (A' := T23.setTop (mkF m 416 #[iv fl, iv mx, jv bt, .second, iv sp, jv of, .second, iv ln, iv md, iv wi, iv ia, iv nn, rv pa, rv hd, iv cdx] [(.long bt), (.ref pa)])) (fun t k => XS.lloadN X23.here hx rfl (hb hby at_415) rfl k) ?_
    refine Wk.go (A' := T23.setTop (mkF m 418 #[iv fl, iv mx, jv bt, .second, iv sp, jv of, .second, iv ln, iv md, iv wi, iv ia, iv nn, rv pa, rv hd, iv cdx] [(.int (6 : Int32)), (.long bt), (.ref pa)])) (fun t k => XS.bipush X23.here hx rfl (hb hby at_416) k) ?_
    refine Wk.go (A' := T23.setTop (mkF m 420 #[iv fl, iv mx, jv bt, .second, iv sp, jv of, .second, iv ln, iv md, iv wi, iv ia, iv nn, rv pa, rv hd, iv cdx] [(.int ia), (.int (6 : Int32)), (.long bt), (.ref pa)])) (fun t k => XS.iload X23.here hx rfl (hb hby at_418) rfl k) ?_
    refine Wk.go (A' := T23.setTop (mkF m 422 #[iv fl, iv mx, jv bt, .second, iv sp, jv of, .second, iv ln, iv md, iv wi, iv ia, iv nn, rv pa, rv hd, iv cdx] [(.int nn), (.int ia), (.int (6 : Int32)), (.long bt), (.ref pa)])) (fun t k => XS.iload X23.here hx rfl (hb hby at_420) rfl k) ?_
    refine Wk.go (A' := T23.setTop (mkF m 424 #[iv fl, iv mx, jv bt, .second, iv sp, jv of, .second, iv ln, iv md, iv wi, iv ia, iv nn, rv pa, rv hd, iv cdx] [(.long of), (.int nn), (.int ia), (.int (6 : Int32)), (.long bt), (.ref pa)])) (fun t k => XS.lload X23.here hx rfl (hb hby at_422) rfl k) ?_
    refine Wk.go (A' := T23.setTop (mkF m 425 #[iv fl, iv mx, jv bt, .second, iv sp, jv of, .second, iv ln, iv md, iv wi, iv ia, iv nn, rv pa, rv hd, iv cdx] [(.int mx), (.long of), (.int nn), (.int ia), (.int (6 : Int32)), (.long bt), (.ref pa)])) (fun t k => XS.iloadN X23.here hx rfl (hb hby at_424) rfl k) ?_
    refine Wk.go (A' := T23.setTop (mkF m 427 #[iv fl, iv mx, jv bt, .second, iv sp, jv of, .second, iv ln, iv md, iv wi, iv ia, iv nn, rv pa, rv hd, iv cdx] [(.int md), (.int mx), (.long of), (.int nn), (.int ia), (.int (6 : Int32)), (.long bt), (.ref pa)])) (fun t k => XS.iload X23.here hx rfl (hb hby at_425) rfl k) ?_
    obtain ⟨_, _, ⟨T24, L24, k24, n24⟩, -, X24, ⟨Lc24, hQ24, l24, y24, z24⟩, st24⟩ := Jvm.LawKit.callS X23 hx (y := (⟨"com/example/dense_envelope/denseenvelope/websocket/FrameHeaderUnmaskPinLaw", "cell", "([BJIIIJIZ)Z"⟩ : MethodName)) hown (mvT hZ (tw61 hw)) (mvT hZ (tw62 hw)) (mvT hZ (tw63 hw)) (mvT hZ (tw64 hw)) (by decide) (backOf (W := 0) (rm9 l Z a0 hw [] pa bt (6 : Int32) ia nn of mx md fU hL n0 ZL fL0 (by decide)) hZ (tw64 hw) (tw63 hw) (by decide) (by decide)) (g := (mkF m 427 #[iv fl, iv mx, jv bt, .second, iv sp, jv of, .second, iv ln, iv md, iv wi, iv ia, iv nn, rv pa, rv hd, iv cdx] [(.int md), (.int mx), (.long of), (.int nn), (.int ia), (.int (6 : Int32)), (.long bt), (.ref pa)])) rfl (by rw [hml]; rfl) (argsL := [(.ref pa), (.long bt), (.int (6 : Int32)), (.int ia), (.int nn), (.long of), (.int mx), (.int md)]) (rest := []) (lenOf pd_4 rfl) rfl (by show 2 * 0 + _ ≤ _; exact Nat.le_of_eq rfl) (hb hby at_427) (fun _ _ => ⟨rfl, (hE23), (by decide : 3 + 0 ≤ _), (by decide : 33 + 0 ≤ _)⟩)
    dsimp only [Pt.U, Pt.locs, Pt.cells, Pt.slots] at X24 l24 y24 z24 st24 hQ24
    subst l24 y24 z24
    obtain ⟨rfl, N24q, hE24⟩ := hQ24
    have N24 := Fr.app N23 N24q
    refine Wk.go (A' := T24.setTop (mkF m 430 #[iv fl, iv mx, jv bt, .second, iv sp, jv of, .second, iv ln, iv md, iv wi, iv ia, iv nn, rv pa, rv hd, iv cdx] [(.int (f_cell pa bt (6 : Int32) ia nn of mx md fU))])) (fun t k => st24 t k) ?_
    have hc430 : ¬ ((f_cell pa bt (6 : Int32) ia nn of mx md fU) = (0 : Int32)) := hinv _ (by decide) (by decide)
    refine Wk.go (A' := T24.setTop (mkF m 433 #[iv fl, iv mx, jv bt, .second, iv sp, jv of, .second, iv ln, iv md, iv wi, iv ia, iv nn, rv pa, rv hd, iv cdx] [])) (fun t k => XS.ifNo X24.here hx rfl (hb hby at_430) rfl ((if0 _ _).trans (feq hc430).1) k) ?_
    refine Wk.go (A' := T24.setTop (mkF m 435 #[iv fl, iv mx, jv bt, .second, iv sp, jv of, .second, iv ln, iv md, iv wi, iv ia, iv nn, rv pa, rv hd, iv cdx] [(.ref pa)])) (fun t k => XS.aload X24.here hx rfl (hb hby at_433) rfl rfl k) ?_
    refine Wk.go (A' := T24.setTop (mkF m 436 #[iv fl, iv mx, jv bt, .second, iv sp, jv of, .second, iv ln, iv md, iv wi, iv ia, iv nn, rv pa, rv hd, iv cdx] [(.long bt), (.ref pa)])) (fun t k => XS.lloadN X24.here hx rfl (hb hby at_435) rfl k) ?_
    refine Wk.go (A' := T24.setTop (mkF m 438 #[iv fl, iv mx, jv bt, .second, iv sp, jv of, .second, iv ln, iv md, iv wi, iv ia, iv nn, rv pa, rv hd, iv cdx] [(.int (7 : Int32)), (.long bt), (.ref pa)])) (fun t k => XS.bipush X24.here hx rfl (hb hby at_436) k) ?_
    refine Wk.go (A' := T24.setTop (mkF m 440 #[iv fl, iv mx, jv bt, .second, iv sp, jv of, .second, iv ln, iv md, iv wi, iv ia, iv nn, rv pa, rv hd, iv cdx] [(.int ia), (.int (7 : Int32)), (.long bt), (.ref pa)])) (fun t k => XS.iload X24.here hx rfl (hb hby at_438) rfl k) ?_
    refine Wk.go (A' := T24.setTop (mkF m 442 #[iv fl, iv mx, jv bt, .second, iv sp, jv of, .second, iv ln, iv md, iv wi, iv ia, iv nn, rv pa, rv hd, iv cdx] [(.int nn), (.int ia), (.int (7 : Int32)), (.long bt), (.ref pa)])) (fun t k => XS.iload X24.here hx rfl (hb hby at_440) rfl k) ?_
    refine Wk.go (A' := T24.setTop (mkF m 444 #[iv fl, iv mx, jv bt, .second, iv sp, jv of, .second, iv ln, iv md, iv wi, iv ia, iv nn, rv pa, rv hd, iv cdx] [(.long of), (.int nn), (.int ia), (.int (7 : Int32)), (.long bt), (.ref pa)])) (fun t k => XS.lload X24.here hx rfl (hb hby at_442) rfl k) ?_
    refine Wk.go (A' := T24.setTop (mkF m 445 #[iv fl, iv mx, jv bt, .second, iv sp, jv of, .second, iv ln, iv md, iv wi, iv ia, iv nn, rv pa, rv hd, iv cdx] [(.int mx), (.long of), (.int nn), (.int ia), (.int (7 : Int32)), (.long bt), (.ref pa)])) (fun t k => XS.iloadN X24.here hx rfl (hb hby at_444) rfl k) ?_
    refine Wk.go (A' := T24.setTop (mkF m 447 #[iv fl, iv mx, jv bt, .second, iv sp, jv of, .second, iv ln, iv md, iv wi, iv ia, iv nn, rv pa, rv hd, iv cdx] [(.int md), (.int mx), (.long of), (.int nn), (.int ia), (.int (7 : Int32)), (.long bt), (.ref pa)])) (fun t k => XS.iload X24.here hx rfl (hb hby at_445) rfl k) ?_
    obtain ⟨_, _, ⟨T25, L25, k25, n25⟩, -, X25, ⟨Lc25, hQ25, l25, y25, z25⟩, st25⟩ := Jvm.LawKit.callS X24 hx (y := (⟨"com/example/dense_envelope/denseenvelope/websocket/FrameHeaderUnmaskPinLaw", "cell", "([BJIIIJIZ)Z"⟩ : MethodName)) hown (mvT hZ (tw61 hw)) (mvT hZ (tw62 hw)) (mvT hZ (tw63 hw)) (mvT hZ (tw64 hw)) (by decide) (backOf (W := 0) (rm9 l Z a0 hw [] pa bt (7 : Int32) ia nn of mx md fU hL n0 ZL fL0 (by decide)) hZ (tw64 hw) (tw63 hw) (by decide) (by decide)) (g := (mkF m 447 #[iv fl, iv mx, jv bt, .second, iv sp, jv of, .second, iv ln, iv md, iv wi, iv ia, iv nn, rv pa, rv hd, iv cdx] [(.int md), (.int mx), (.long of), (.int nn), (.int ia), (.int (7 : Int32)), (.long bt), (.ref pa)])) rfl (by rw [hml]; rfl) (argsL := [(.ref pa), (.long bt), (.int (7 : Int32)), (.int ia), (.int nn), (.long of), (.int mx), (.int md)]) (rest := []) (lenOf pd_4 rfl) rfl (by show 2 * 0 + _ ≤ _; exact Nat.le_of_eq rfl) (hb hby at_447) (fun _ _ => ⟨rfl, (hE24), (by decide : 3 + 0 ≤ _), (by decide : 33 + 0 ≤ _)⟩)
    dsimp only [Pt.U, Pt.locs, Pt.cells, Pt.slots] at X25 l25 y25 z25 st25 hQ25
    subst l25 y25 z25
    obtain ⟨rfl, N25q, hE25⟩ := hQ25
    have N25 := Fr.app N24 N25q
    refine Wk.go (A' := T25.setTop (mkF m 450 #[iv fl, iv mx, jv bt, .second, iv sp, jv of, .second, iv ln, iv md, iv wi, iv ia, iv nn, rv pa, rv hd, iv cdx] [(.int (f_cell pa bt (7 : Int32) ia nn of mx md fU))])) (fun t k => st25 t k) ?_
    have hc450 : ¬ ((f_cell pa bt (7 : Int32) ia nn of mx md fU) = (0 : Int32)) := hinv _ (by decide) (by decide)
    refine Wk.go (A' := T25.setTop (mkF m 453 #[iv fl, iv mx, jv bt, .second, iv sp, jv of, .second, iv ln, iv md, iv wi, iv ia, iv nn, rv pa, rv hd, iv cdx] [])) (fun t k => XS.ifNo X25.here hx rfl (hb hby at_450) rfl ((if0 _ _).trans (feq hc450).1) k) ?_
    refine Wk.go (A' := T25.setTop (mkF m 454 #[iv fl, iv mx, jv bt, .second, iv sp, jv of, .second, iv ln, iv md, iv wi, iv ia, iv nn, rv pa, rv hd, iv cdx] [(.int (1 : Int32))])) (fun t k => XS.iconst X25.here hx rfl (hb hby at_453) k) ?_
    refine Wk.go (A' := T25.setTop (mkF m 458 #[iv fl, iv mx, jv bt, .second, iv sp, jv of, .second, iv ln, iv md, iv wi, iv ia, iv nn, rv pa, rv hd, iv cdx] [(.int (1 : Int32))])) (fun t k => XS.goto X25.here hx rfl (pc0 := 454) (pc' := 458) rfl (hb hby at_454) (by decide) (by decide) k) ?_
    refine own_fin (Qv := Q0 Z fl mx bt sp of ln h0 n0) (v := some (.int (1 : Int32))) X25 hlk (fun h => by rw [Bd.returns] at h; cases h) (fun fs hr => retN X25 hx (t := .boolean) Bd.returns (by simp) (hb hby at_458) hr) ?_ (by decide) (by decide)
    exact ⟨rfl, N25⟩
  rcases hmd01 with rfl | rfl
  · rcases hwi01 with rfl | rfl
    · have hpath := hA0
      obtain ⟨T26, h26, X26, e26, E26, A26, D26, -, st26⟩ := newO X16 hx hZ hown (tw2 hw) (tw3 hw) (tw4 hw) e16 (g := (mkF m 129 #[iv fl, iv mx, jv bt, .second, iv sp, jv of, .second, iv ln, iv (0 : Int32), iv (0 : Int32), iv ia, iv nn, rv pa, .unset, .unset] [])) rfl (hb hby at_129) (by decide) (by decide)
      obtain ⟨hO, g26⟩ : ∃ z, z = h16.size := ⟨_, rfl⟩
      rw [← g26] at A26 D26 st26
      have g_hO : n0 ≤ hO := Nat.le_trans Zp16 (Nat.le_of_eq g26.symm)
      have ne_pa_hO : pa ≠ hO := Nat.ne_of_lt (Nat.lt_of_lt_of_le f17.lt (Nat.le_of_eq g26.symm))
      have f27 := f17.ext E26
      have F_bytes_hO : Fld Z h26 hO own_F "bytes" "[B" .null := D26 (Or.inr (tw12 hw)) (ty := (.array .byte)) (by decide)
      have F_masked_hO : Fld Z h26 hO own_F "masked" "Z" (.int (0 : Int32)) := D26 (Or.inr (tw14 hw)) (ty := .boolean) (by decide)
      have F_count_hO : Fld Z h26 hO own_F "count" "I" (.int (0 : Int32)) := D26 (Or.inl (tw22 hw)) (ty := .int) (by decide)
      have F_opcode_hO : Fld Z h26 hO own_F "opcode" "I" (.int (0 : Int32)) := D26 (Or.inl (tw32 hw)) (ty := .int) (by decide)
      have F_last_hO : Fld Z h26 hO own_F "last" "Z" (.int (0 : Int32)) := D26 (Or.inl (tw34 hw)) (ty := .boolean) (by decide)
      have F_open_hO : Fld Z h26 hO own_F "open" "Z" (.int (0 : Int32)) := D26 (Or.inl (tw41 hw)) (ty := .boolean) (by decide)
      have F_length_hO : Fld Z h26 hO own_F "length" "J" (.long (0 : Int64)) := D26 (Or.inl (tw47 hw)) (ty := .long) (by decide)
      have F_maskAt_hO : Fld Z h26 hO own_F "maskAt" "I" (.int (0 : Int32)) := D26 (Or.inl (tw49 hw)) (ty := .int) (by decide)
      have F_messageOpcode_hO : Fld Z h26 hO own_F "messageOpcode" "I" (.int (0 : Int32)) := D26 (Or.inl (tw51 hw)) (ty := .int) (by decide)
      have F_messageBytes_hO : Fld Z h26 hO own_F "messageBytes" "J" (.long (0 : Int64)) := D26 (Or.inl (tw53 hw)) (ty := .long) (by decide)
      have F_dataLength_hO : Fld Z h26 hO own_F "dataLength" "J" (.long (0 : Int64)) := D26 (Or.inl (tw55 hw)) (ty := .long) (by decide)
      have Zp26 : n0 ≤ h26.size := Nat.le_trans Zp16 E26.1
      refine Wk.go (A' := T26.setTop (mkF m 132 #[iv fl, iv mx, jv bt, .second, iv sp, jv of, .second, iv ln, iv (0 : Int32), iv (0 : Int32), iv ia, iv nn, rv pa, .unset, .unset] [(.ref hO)])) (fun t k => st26 t k) ?_
      refine Wk.go (A' := T26.setTop (mkF m 133 #[iv fl, iv mx, jv bt, .second, iv sp, jv of, .second, iv ln, iv (0 : Int32), iv (0 : Int32), iv ia, iv nn, rv pa, .unset, .unset] [(.ref hO), (.ref hO)])) (fun t k => XS.dup X26.here hx rfl (hb hby at_132) rfl rfl k) ?_
      refine Wk.go (A' := T26.setTop (mkF m 135 #[iv fl, iv mx, jv bt, .second, iv sp, jv of, .second, iv ln, iv (0 : Int32), iv (0 : Int32), iv ia, iv nn, rv pa, .unset, .unset] [(.int (0 : Int32)), (.ref hO), (.ref hO)])) (fun t k => XS.iload X26.here hx rfl (hb hby at_133) rfl k) ?_
      obtain ⟨_, _, ⟨T28, L28, k28, n28⟩, -, X28, ⟨Lc28, hQ28, l28, y28, z28⟩, st28⟩ := X26.specialBack hx (y := (⟨own_F, "<init>", "(Z)V"⟩ : MethodName)) rfl hown (mvT hZ (tw5 hw)) (mvT hZ (tw6 hw)) (mvT hZ (tw7 hw)) (by decide) (backOf (W := 1) (rm1 l Z a0 hw [] hO (0 : Int32)  h26 n0 Zp26 A26 F_bytes_hO F_masked_hO F_count_hO F_opcode_hO F_last_hO F_open_hO F_length_hO F_maskAt_hO F_messageOpcode_hO F_messageBytes_hO F_dataLength_hO g_hO) hZ (tw7 hw) (tw4 hw) (by decide) (by decide)) (g := (mkF m 135 #[iv fl, iv mx, jv bt, .second, iv sp, jv of, .second, iv ln, iv (0 : Int32), iv (0 : Int32), iv ia, iv nn, rv pa, .unset, .unset] [(.int (0 : Int32)), (.ref hO), (.ref hO)])) rfl (by rw [hml]; rfl) (Steps.refl _) (a := hO) (argsL := [(.int (0 : Int32))]) (rest := [(.ref hO)]) (lenOf pd_5 rfl) rfl (by show 2 * 0 + _ ≤ _; exact Nat.le_of_eq rfl) (hb hby at_135) (fun _ _ => ⟨rfl, e26, (by decide : 2 + 1 ≤ _), (by decide : 19 + 14 ≤ _)⟩)
      dsimp only [Pt.U, Pt.locs, Pt.cells, Pt.slots] at X28 l28 y28 z28 st28 hQ28
      subst l28 y28 z28
      obtain ⟨rfl, N28q, Kq28, ba, g_ba, bb_ba, Eq28, Fq28_bytes, Fq28_masked, Fq28_count, Fq28_opcode, Fq28_last, Fq28_open, Fq28_length, Fq28_maskAt, Fq28_messageOpcode, Fq28_messageBytes, Fq28_dataLength, Vq28⟩ := hQ28
      have N28 := Fr.app N16 N28q
      have ne_pa_ba : pa ≠ ba := Nat.ne_of_lt (Nat.lt_of_lt_of_le f27.lt bb_ba)
      have ne_hO_ba : hO ≠ ba := Nat.ne_of_lt (Nat.lt_of_lt_of_le A26.lt bb_ba)
      have f29 := f27.keep Kq28 (ninS ne_pa_hO nin0)
      have f30 := A26.keep Kq28
      have Zp28 : n0 ≤ T28.heap.size := Nat.le_trans Zp26 Kq28.1
      refine Wk.go (A' := T28.setTop (mkF m 138 #[iv fl, iv mx, jv bt, .second, iv sp, jv of, .second, iv ln, iv (0 : Int32), iv (0 : Int32), iv ia, iv nn, rv pa, .unset, .unset] [(.ref hO)])) (fun t k => st28.trans k) ?_
      refine Wk.go (A' := T28.setTop (mkF m 140 #[iv fl, iv mx, jv bt, .second, iv sp, jv of, .second, iv ln, iv (0 : Int32), iv (0 : Int32), iv ia, iv nn, rv pa, rv hO, .unset] [])) (fun t k => XS.astore X28.here hx rfl (hb hby at_138) rfl rfl (l' := #[iv fl, iv mx, jv bt, .second, iv sp, jv of, .second, iv ln, iv (0 : Int32), iv (0 : Int32), iv ia, iv nn, rv pa, rv hO, .unset]) rfl k) ?_
      refine Wk.go (A' := T28.setTop (mkF m 142 #[iv fl, iv mx, jv bt, .second, iv sp, jv of, .second, iv ln, iv (0 : Int32), iv (0 : Int32), iv ia, iv nn, rv pa, rv hO, .unset] [(.int (0 : Int32))])) (fun t k => XS.iload X28.here hx rfl (hb hby at_140) rfl k) ?_
      have hc142 : (0 : Int32) = (0 : Int32) := by decide
      refine Wk.go (A' := T28.setTop (mkF m 150 #[iv fl, iv mx, jv bt, .second, iv sp, jv of, .second, iv ln, iv (0 : Int32), iv (0 : Int32), iv ia, iv nn, rv pa, rv hO, .unset] [])) (fun t k => XS.ifYes X28.here hx rfl (pc0 := 142) (pc' := 150) rfl (hb hby at_142) rfl ((if0 _ _).trans (teq hc142).1) (by decide) (by decide) k) ?_
      refine Wk.go (A' := T28.setTop (mkF m 152 #[iv fl, iv mx, jv bt, .second, iv sp, jv of, .second, iv ln, iv (0 : Int32), iv (0 : Int32), iv ia, iv nn, rv pa, rv hO, .unset] [(.int ln)])) (fun t k => XS.iload X28.here hx rfl (hb hby at_150) rfl k) ?_
      refine Wk.go (A' := T28.setTop (mkF m 154 #[iv fl, iv mx, jv bt, .second, iv sp, jv of, .second, iv ln, iv (0 : Int32), iv (0 : Int32), iv ia, iv nn, rv pa, rv hO, .unset] [(.int (127 : Int32)), (.int ln)])) (fun t k => XS.bipush X28.here hx rfl (hb hby at_152) k) ?_
      refine Wk.go (A' := T28.setTop (mkF m 155 #[iv fl, iv mx, jv bt, .second, iv sp, jv of, .second, iv ln, iv (0 : Int32), iv (0 : Int32), iv ia, iv nn, rv pa, rv hO, .unset] [(.int (ln &&& (127 : Int32)))])) (fun t k => XS.iand X28.here hx rfl (hb hby at_154) rfl k) ?_
      refine Wk.go (A' := T28.setTop (mkF m 157 #[iv fl, iv mx, jv bt, .second, iv sp, jv of, .second, iv ln, iv (0 : Int32), iv (0 : Int32), iv ia, iv nn, rv pa, rv hO, .unset] [(.int (126 : Int32)), (.int (ln &&& (127 : Int32)))])) (fun t k => XS.bipush X28.here hx rfl (hb hby at_155) k) ?_
      refine Wk.go (A' := T28.setTop (mkF m 158 #[iv fl, iv mx, jv bt, .second, iv sp, jv of, .second, iv ln, iv (0 : Int32), iv (0 : Int32), iv ia, iv nn, rv pa, rv hO, .unset] [(.int ((ln &&& (127 : Int32)) % (126 : Int32)))])) (fun t k => iremM X28 hx rfl (hb hby at_157) rfl (by decide) k) ?_
      refine Wk.go (A' := T28.setTop (mkF m 160 #[iv fl, iv mx, jv bt, .second, iv sp, jv of, .second, iv ln, iv (0 : Int32), iv (0 : Int32), iv ia, iv nn, rv pa, rv hO, iv ((ln &&& (127 : Int32)) % (126 : Int32))] [])) (fun t k => XS.istore X28.here hx rfl (hb hby at_158) rfl (l' := #[iv fl, iv mx, jv bt, .second, iv sp, jv of, .second, iv ln, iv (0 : Int32), iv (0 : Int32), iv ia, iv nn, rv pa, rv hO, iv ((ln &&& (127 : Int32)) % (126 : Int32))]) rfl k) ?_
      generalize hcd : ((ln &&& (127 : Int32)) % (126 : Int32)) = cd
      obtain ⟨hcd0, hcd1⟩ : 0 ≤ cd.toInt ∧ cd.toInt < 126 := by rw [← hcd]; exact own_cd ln
      refine Wk.go (A' := T28.setTop (mkF m 162 #[iv fl, iv mx, jv bt, .second, iv sp, jv of, .second, iv ln, iv (0 : Int32), iv (0 : Int32), iv ia, iv nn, rv pa, rv hO, iv cd] [(.ref hO)])) (fun t k => XS.aload X28.here hx rfl (hb hby at_160) rfl rfl k) ?_
      refine Wk.go (A' := T28.setTop (mkF m 164 #[iv fl, iv mx, jv bt, .second, iv sp, jv of, .second, iv ln, iv (0 : Int32), iv (0 : Int32), iv ia, iv nn, rv pa, rv hO, iv cd] [(.int (-126 : Int32)), (.ref hO)])) (fun t k => XS.bipush X28.here hx rfl (hb hby at_162) k) ?_
      refine Wk.go (A' := T28.setTop (mkF m 167 #[iv fl, iv mx, jv bt, .second, iv sp, jv of, .second, iv ln, iv (0 : Int32), iv (0 : Int32), iv ia, iv nn, rv pa, rv hO, iv cd] [(.long (9223372036854775807 : Int64)), (.int (-126 : Int32)), (.ref hO)])) (fun t k => X28.ldc2Long hx hown (mvT hZ (tw15 hw)) (g := (mkF m 164 #[iv fl, iv mx, jv bt, .second, iv sp, jv of, .second, iv ln, iv (0 : Int32), iv (0 : Int32), iv ia, iv nn, rv pa, rv hO, iv cd] [(.int (-126 : Int32)), (.ref hO)])) rfl (hb hby at_164) t k) ?_
      obtain ⟨cq31, kq31, q31a, q31b, q31c⟩ := isOf hZ rfl Eq28
      obtain ⟨_, _, ⟨T31, L31, k31, n31⟩, -, X31, ⟨Lc31, hQ31, l31, y31, z31⟩, st31⟩ := X28.virtualBack hx (y := (⟨own_F, "take", "(BJ)Z"⟩ : MethodName)) (z := (⟨own_F, "take", "(BJ)Z"⟩ : MethodName)) hown (mvT hZ (tw16 hw)) (mvT hZ (tw17 hw)) (notFace_of_selects (args := #[]) (mvT hZ (tw19 hw))) (mvT hZ (tw19 hw)) (mvT hZ (tw18 hw)) (by decide) (backOf (W := 0) (rm30u l Z a0 hw [] hO (-126 : Int32) (9223372036854775807 : Int64) ba (fun _ => 0) T28.heap n0 Zp28 Eq28 Fq28_bytes Fq28_masked Fq28_count Fq28_opcode Fq28_last Fq28_open Fq28_length Fq28_maskAt Fq28_messageOpcode Fq28_messageBytes Fq28_dataLength Vq28 ne_hO_ba g_hO g_ba rfl) hZ (tw20 hw) (tw4 hw) (by decide) (by decide)) q31a q31c (g := (mkF m 167 #[iv fl, iv mx, jv bt, .second, iv sp, jv of, .second, iv ln, iv (0 : Int32), iv (0 : Int32), iv ia, iv nn, rv pa, rv hO, iv cd] [(.long (9223372036854775807 : Int64)), (.int (-126 : Int32)), (.ref hO)])) rfl (by rw [hml]; rfl) (Steps.refl _) (argsL := [(.int (-126 : Int32)), (.long (9223372036854775807 : Int64))]) (rest := []) (lenOf pd_6 rfl) rfl (by show 2 * 0 + _ ≤ _; exact Nat.le_of_eq rfl) (hb hby at_167) (fun _ _ => ⟨rfl, rfl, (by decide : 3 + 0 ≤ _), (by decide : 33 + 0 ≤ _)⟩)
      dsimp only [Pt.U, Pt.locs, Pt.cells, Pt.slots] at X31 l31 y31 z31 st31 hQ31
      subst l31 y31 z31
      obtain ⟨rfl, N31q, Kq31, Eq31, Fq31_bytes, Fq31_masked, Fq31_count, Fq31_opcode, Fq31_last, Fq31_open, Fq31_length, Fq31_maskAt, Fq31_messageOpcode, Fq31_messageBytes, Fq31_dataLength, Vq31⟩ := hQ31
      have N31 := Fr.app N28 N31q
      have f32 := f29.keep Kq31 (ninS ne_pa_hO (ninS ne_pa_ba nin0))
      have f33 := Eq28.keep Kq31
      have Zp31 : n0 ≤ T31.heap.size := Nat.le_trans Zp28 Kq31.1
      obtain ⟨g1, hg1⟩ : ∃ z, z = (own_upd (fun _ => 0) 0 ((-126 : Int32)).toInt8.toInt32) := ⟨_, rfl⟩
      have Vr31 : BA Z T31.heap ba 14 g1 := by rw [hg1]; exact Vq31
      refine Wk.go (A' := T31.setTop (mkF m 170 #[iv fl, iv mx, jv bt, .second, iv sp, jv of, .second, iv ln, iv (0 : Int32), iv (0 : Int32), iv ia, iv nn, rv pa, rv hO, iv cd] [(.int (0 : Int32))])) (fun t k => st31.trans k) ?_
      refine Wk.go (A' := T31.setTop (mkF m 171 #[iv fl, iv mx, jv bt, .second, iv sp, jv of, .second, iv ln, iv (0 : Int32), iv (0 : Int32), iv ia, iv nn, rv pa, rv hO, iv cd] [])) (fun t k => XS.pop X31.here hx rfl (hb hby at_170) rfl rfl k) ?_
      refine Wk.go (A' := T31.setTop (mkF m 173 #[iv fl, iv mx, jv bt, .second, iv sp, jv of, .second, iv ln, iv (0 : Int32), iv (0 : Int32), iv ia, iv nn, rv pa, rv hO, iv cd] [(.ref hO)])) (fun t k => XS.aload X31.here hx rfl (hb hby at_171) rfl rfl k) ?_
      refine Wk.go (A' := T31.setTop (mkF m 175 #[iv fl, iv mx, jv bt, .second, iv sp, jv of, .second, iv ln, iv (0 : Int32), iv (0 : Int32), iv ia, iv nn, rv pa, rv hO, iv cd] [(.int (0 : Int32)), (.ref hO)])) (fun t k => XS.iload X31.here hx rfl (hb hby at_173) rfl k) ?_
      have hc175 : (0 : Int32) = (0 : Int32) := by decide
      refine Wk.go (A' := T31.setTop (mkF m 184 #[iv fl, iv mx, jv bt, .second, iv sp, jv of, .second, iv ln, iv (0 : Int32), iv (0 : Int32), iv ia, iv nn, rv pa, rv hO, iv cd] [(.ref hO)])) (fun t k => XS.ifYes X31.here hx rfl (pc0 := 175) (pc' := 184) rfl (hb hby at_175) rfl ((if0 _ _).trans (teq hc175).1) (by decide) (by decide) k) ?_
      refine Wk.go (A' := T31.setTop (mkF m 185 #[iv fl, iv mx, jv bt, .second, iv sp, jv of, .second, iv ln, iv (0 : Int32), iv (0 : Int32), iv ia, iv nn, rv pa, rv hO, iv cd] [(.int (0 : Int32)), (.ref hO)])) (fun t k => XS.iconst X31.here hx rfl (hb hby at_184) k) ?_
      refine Wk.go (A' := T31.setTop (mkF m 187 #[iv fl, iv mx, jv bt, .second, iv sp, jv of, .second, iv ln, iv (0 : Int32), iv (0 : Int32), iv ia, iv nn, rv pa, rv hO, iv cd] [(.int cd), (.int (0 : Int32)), (.ref hO)])) (fun t k => XS.iload X31.here hx rfl (hb hby at_185) rfl k) ?_
      refine Wk.go (A' := T31.setTop (mkF m 188 #[iv fl, iv mx, jv bt, .second, iv sp, jv of, .second, iv ln, iv (0 : Int32), iv (0 : Int32), iv ia, iv nn, rv pa, rv hO, iv cd] [(.int ((0 : Int32) ||| cd)), (.ref hO)])) (fun t k => XS.ior X31.here hx rfl (hb hby at_187) rfl k) ?_
      refine Wk.go (A' := T31.setTop (mkF m 189 #[iv fl, iv mx, jv bt, .second, iv sp, jv of, .second, iv ln, iv (0 : Int32), iv (0 : Int32), iv ia, iv nn, rv pa, rv hO, iv cd] [(.int (((0 : Int32) ||| cd).toInt8.toInt32)), (.ref hO)])) (fun t k => XS.i2b X31.here hx rfl (hb hby at_188) rfl k) ?_
      refine Wk.go (A' := T31.setTop (mkF m 192 #[iv fl, iv mx, jv bt, .second, iv sp, jv of, .second, iv ln, iv (0 : Int32), iv (0 : Int32), iv ia, iv nn, rv pa, rv hO, iv cd] [(.long (9223372036854775807 : Int64)), (.int (((0 : Int32) ||| cd).toInt8.toInt32)), (.ref hO)])) (fun t k => X31.ldc2Long hx hown (mvT hZ (tw15 hw)) (g := (mkF m 189 #[iv fl, iv mx, jv bt, .second, iv sp, jv of, .second, iv ln, iv (0 : Int32), iv (0 : Int32), iv ia, iv nn, rv pa, rv hO, iv cd] [(.int (((0 : Int32) ||| cd).toInt8.toInt32)), (.ref hO)])) rfl (hb hby at_189) t k) ?_
      obtain ⟨cq34, kq34, q34a, q34b, q34c⟩ := isOf hZ rfl Eq31
      obtain ⟨_, _, ⟨T34, L34, k34, n34⟩, -, X34, ⟨Lc34, hQ34, l34, y34, z34⟩, st34⟩ := X31.virtualBack hx (y := (⟨own_F, "take", "(BJ)Z"⟩ : MethodName)) (z := (⟨own_F, "take", "(BJ)Z"⟩ : MethodName)) hown (mvT hZ (tw16 hw)) (mvT hZ (tw17 hw)) (notFace_of_selects (args := #[]) (mvT hZ (tw19 hw))) (mvT hZ (tw19 hw)) (mvT hZ (tw18 hw)) (by decide) (backOf (W := 0) (rm31nu l Z a0 hw [] hO (((0 : Int32) ||| cd).toInt8.toInt32) (9223372036854775807 : Int64) ba g1 T31.heap n0 Zp31 Eq31 Fq31_bytes Fq31_masked Fq31_count Fq31_opcode Fq31_last Fq31_open Fq31_length Fq31_maskAt Fq31_messageOpcode Fq31_messageBytes Fq31_dataLength Vr31 ne_hO_ba g_hO g_ba rfl (by rw [hg1, own_upd_eq]; decide) (own_b1u _ hcd0 hcd1).1 (own_b1u _ hcd0 hcd1).2) hZ (tw20 hw) (tw4 hw) (by decide) (by decide)) q34a q34c (g := (mkF m 192 #[iv fl, iv mx, jv bt, .second, iv sp, jv of, .second, iv ln, iv (0 : Int32), iv (0 : Int32), iv ia, iv nn, rv pa, rv hO, iv cd] [(.long (9223372036854775807 : Int64)), (.int (((0 : Int32) ||| cd).toInt8.toInt32)), (.ref hO)])) rfl (by rw [hml]; rfl) (Steps.refl _) (argsL := [(.int (((0 : Int32) ||| cd).toInt8.toInt32)), (.long (9223372036854775807 : Int64))]) (rest := []) (lenOf pd_6 rfl) rfl (by show 2 * 0 + _ ≤ _; exact Nat.le_of_eq rfl) (hb hby at_192) (fun _ _ => ⟨rfl, rfl, (by decide : 3 + 0 ≤ _), (by decide : 33 + 0 ≤ _)⟩)
      dsimp only [Pt.U, Pt.locs, Pt.cells, Pt.slots] at X34 l34 y34 z34 st34 hQ34
      subst l34 y34 z34
      obtain ⟨ln34, rfl, N34q, Kq34, Eq34, Fq34_bytes, Fq34_masked, Fq34_count, Fq34_opcode, Fq34_last, Fq34_open, Fq34_length, Fq34_maskAt, Fq34_messageOpcode, Fq34_messageBytes, Fq34_dataLength, Vq34⟩ := hQ34
      have N34 := Fr.app N31 N34q
      have f35 := f32.keep Kq34 (ninS ne_pa_hO (ninS ne_pa_ba nin0))
      have f36 := Eq31.keep Kq34
      have Zp34 : n0 ≤ T34.heap.size := Nat.le_trans Zp31 Kq34.1
      obtain ⟨g2, hg2⟩ : ∃ z, z = (own_upd g1 1 ((((0 : Int32) ||| cd).toInt8.toInt32)).toInt8.toInt32) := ⟨_, rfl⟩
      have Vr34 : BA Z T34.heap ba 14 g2 := by rw [hg2]; exact Vq34
      refine Wk.go (A' := T34.setTop (mkF m 195 #[iv fl, iv mx, jv bt, .second, iv sp, jv of, .second, iv ln, iv (0 : Int32), iv (0 : Int32), iv ia, iv nn, rv pa, rv hO, iv cd] [(.int (1 : Int32))])) (fun t k => st34.trans k) ?_
      refine Wk.go (A' := T34.setTop (mkF m 196 #[iv fl, iv mx, jv bt, .second, iv sp, jv of, .second, iv ln, iv (0 : Int32), iv (0 : Int32), iv ia, iv nn, rv pa, rv hO, iv cd] [])) (fun t k => XS.pop X34.here hx rfl (hb hby at_195) rfl rfl k) ?_
      refine Wk.go (A' := T34.setTop (mkF m 198 #[iv fl, iv mx, jv bt, .second, iv sp, jv of, .second, iv ln, iv (0 : Int32), iv (0 : Int32), iv ia, iv nn, rv pa, rv hO, iv cd] [(.int (0 : Int32))])) (fun t k => XS.iload X34.here hx rfl (hb hby at_196) rfl k) ?_
      have hc198 : (0 : Int32) = (0 : Int32) := by decide
      refine Wk.go (A' := T34.setTop (mkF m 228 #[iv fl, iv mx, jv bt, .second, iv sp, jv of, .second, iv ln, iv (0 : Int32), iv (0 : Int32), iv ia, iv nn, rv pa, rv hO, iv cd] [])) (fun t k => XS.ifYes X34.here hx rfl (pc0 := 198) (pc' := 228) rfl (hb hby at_198) rfl ((if0 _ _).trans (teq hc198).1) (by decide) (by decide) k) ?_
      refine Wk.go (A' := T34.setTop (mkF m 230 #[iv fl, iv mx, jv bt, .second, iv sp, jv of, .second, iv ln, iv (0 : Int32), iv (0 : Int32), iv ia, iv nn, rv pa, rv hO, iv cd] [(.int (0 : Int32))])) (fun t k => XS.iload X34.here hx rfl (hb hby at_228) rfl k) ?_
      have hc230 : (0 : Int32) = (0 : Int32) := by decide
      refine Wk.go (A' := T34.setTop (mkF m 286 #[iv fl, iv mx, jv bt, .second, iv sp, jv of, .second, iv ln, iv (0 : Int32), iv (0 : Int32), iv ia, iv nn, rv pa, rv hO, iv cd] [])) (fun t k => XS.ifYes X34.here hx rfl (pc0 := 230) (pc' := 286) rfl (hb hby at_230) rfl ((if0 _ _).trans (teq hc230).1) (by decide) (by decide) k) ?_
      refine Wk.go (A' := T34.setTop (mkF m 288 #[iv fl, iv mx, jv bt, .second, iv sp, jv of, .second, iv ln, iv (0 : Int32), iv (0 : Int32), iv ia, iv nn, rv pa, rv hO, iv cd] [(.ref hO)])) (fun t k => XS.aload X34.here hx rfl (hb hby at_286) rfl rfl k) ?_
      refine Wk.go (A' := T34.setTop (mkF m 290 #[iv fl, iv mx, jv bt, .second, iv sp, jv of, .second, iv ln, iv (0 : Int32), iv (0 : Int32), iv ia, iv nn, rv pa, rv hO, iv cd] [(.ref pa), (.ref hO)])) (fun t k => XS.aload X34.here hx rfl (hb hby at_288) rfl rfl k) ?_
      refine Wk.go (A' := T34.setTop (mkF m 292 #[iv fl, iv mx, jv bt, .second, iv sp, jv of, .second, iv ln, iv (0 : Int32), iv (0 : Int32), iv ia, iv nn, rv pa, rv hO, iv cd] [(.int ia), (.ref pa), (.ref hO)])) (fun t k => XS.iload X34.here hx rfl (hb hby at_290) rfl k) ?_
      refine Wk.go (A' := T34.setTop (mkF m 294 #[iv fl, iv mx, jv bt, .second, iv sp, jv of, .second, iv ln, iv (0 : Int32), iv (0 : Int32), iv ia, iv nn, rv pa, rv hO, iv cd] [(.int nn), (.int ia), (.ref pa), (.ref hO)])) (fun t k => XS.iload X34.here hx rfl (hb hby at_292) rfl k) ?_
      refine Wk.go (A' := T34.setTop (mkF m 296 #[iv fl, iv mx, jv bt, .second, iv sp, jv of, .second, iv ln, iv (0 : Int32), iv (0 : Int32), iv ia, iv nn, rv pa, rv hO, iv cd] [(.long of), (.int nn), (.int ia), (.ref pa), (.ref hO)])) (fun t k => XS.lload X34.here hx rfl (hb hby at_294) rfl k) ?_
      obtain ⟨cq37, kq37, q37a, q37b, q37c⟩ := isOf hZ rfl Eq34
      obtain ⟨_, _, ⟨T37, L37, k37, n37⟩, -, X37, ⟨Lc37, hQ37, l37, y37, z37⟩, st37⟩ := X34.virtualBack hx (y := (⟨own_F, "unmask", "([BIIJ)V"⟩ : MethodName)) (z := (⟨own_F, "unmask", "([BIIJ)V"⟩ : MethodName)) hown (mvT hZ (tw56 hw)) (mvT hZ (tw57 hw)) (notFace_of_selects (args := #[]) (mvT hZ (tw59 hw))) (mvT hZ (tw59 hw)) (mvT hZ (tw58 hw)) (by decide) (backOf (W := 0) (rm8u l Z a0 hw [] hO pa ia nn of  T34.heap n0 Zp34 Fq34_masked) hZ (tw60 hw) (tw4 hw) (by decide) (by decide)) q37a q37c (g := (mkF m 296 #[iv fl, iv mx, jv bt, .second, iv sp, jv of, .second, iv ln, iv (0 : Int32), iv (0 : Int32), iv ia, iv nn, rv pa, rv hO, iv cd] [(.long of), (.int nn), (.int ia), (.ref pa), (.ref hO)])) rfl (by rw [hml]; rfl) (Steps.refl _) (argsL := [(.ref pa), (.int ia), (.int nn), (.long of)]) (rest := []) (lenOf pd_7 rfl) rfl (by show 2 * 0 + _ ≤ _; exact Nat.le_of_eq rfl) (hb hby at_296) (fun _ _ => ⟨rfl, rfl, (by decide : 3 + 0 ≤ _), (by decide : 33 + 0 ≤ _)⟩)
      dsimp only [Pt.U, Pt.locs, Pt.cells, Pt.slots] at X37 l37 y37 z37 st37 hQ37
      subst l37 y37 z37
      obtain ⟨rfl, N37q, hE37⟩ := hQ37
      have N37 := Fr.app N34 N37q
      refine Wk.go (A' := T37.setTop (mkF m 299 #[iv fl, iv mx, jv bt, .second, iv sp, jv of, .second, iv ln, iv (0 : Int32), iv (0 : Int32), iv ia, iv nn, rv pa, rv hO, iv cd] [])) (fun t k => st37.trans k) ?_
      exact cut299 hO cd p8 T37 T34.heap _ X37 (hE37) N37 Zp34 f35 (own_cell_u pa bt ia nn of mx p8 hpay)
    · have hpath := hA0
      obtain ⟨T38, h38, X38, e38, E38, A38, D38, -, st38⟩ := newO X16 hx hZ hown (tw2 hw) (tw3 hw) (tw4 hw) e16 (g := (mkF m 129 #[iv fl, iv mx, jv bt, .second, iv sp, jv of, .second, iv ln, iv (0 : Int32), iv (1 : Int32), iv ia, iv nn, rv pa, .unset, .unset] [])) rfl (hb hby at_129) (by decide) (by decide)
      obtain ⟨hO, g38⟩ : ∃ z, z = h16.size := ⟨_, rfl⟩
      rw [← g38] at A38 D38 st38
      have g_hO : n0 ≤ hO := Nat.le_trans Zp16 (Nat.le_of_eq g38.symm)
      have ne_pa_hO : pa ≠ hO := Nat.ne_of_lt (Nat.lt_of_lt_of_le f17.lt (Nat.le_of_eq g38.symm))
      have f39 := f17.ext E38
      have F_bytes_hO : Fld Z h38 hO own_F "bytes" "[B" .null := D38 (Or.inr (tw12 hw)) (ty := (.array .byte)) (by decide)
      have F_masked_hO : Fld Z h38 hO own_F "masked" "Z" (.int (0 : Int32)) := D38 (Or.inr (tw14 hw)) (ty := .boolean) (by decide)
      have F_count_hO : Fld Z h38 hO own_F "count" "I" (.int (0 : Int32)) := D38 (Or.inl (tw22 hw)) (ty := .int) (by decide)
      have F_opcode_hO : Fld Z h38 hO own_F "opcode" "I" (.int (0 : Int32)) := D38 (Or.inl (tw32 hw)) (ty := .int) (by decide)
      have F_last_hO : Fld Z h38 hO own_F "last" "Z" (.int (0 : Int32)) := D38 (Or.inl (tw34 hw)) (ty := .boolean) (by decide)
      have F_open_hO : Fld Z h38 hO own_F "open" "Z" (.int (0 : Int32)) := D38 (Or.inl (tw41 hw)) (ty := .boolean) (by decide)
      have F_length_hO : Fld Z h38 hO own_F "length" "J" (.long (0 : Int64)) := D38 (Or.inl (tw47 hw)) (ty := .long) (by decide)
      have F_maskAt_hO : Fld Z h38 hO own_F "maskAt" "I" (.int (0 : Int32)) := D38 (Or.inl (tw49 hw)) (ty := .int) (by decide)
      have F_messageOpcode_hO : Fld Z h38 hO own_F "messageOpcode" "I" (.int (0 : Int32)) := D38 (Or.inl (tw51 hw)) (ty := .int) (by decide)
      have F_messageBytes_hO : Fld Z h38 hO own_F "messageBytes" "J" (.long (0 : Int64)) := D38 (Or.inl (tw53 hw)) (ty := .long) (by decide)
      have F_dataLength_hO : Fld Z h38 hO own_F "dataLength" "J" (.long (0 : Int64)) := D38 (Or.inl (tw55 hw)) (ty := .long) (by decide)
      have Zp38 : n0 ≤ h38.size := Nat.le_trans Zp16 E38.1
      refine Wk.go (A' := T38.setTop (mkF m 132 #[iv fl, iv mx, jv bt, .second, iv sp, jv of, .second, iv ln, iv (0 : Int32), iv (1 : Int32), iv ia, iv nn, rv pa, .unset, .unset] [(.ref hO)])) (fun t k => st38 t k) ?_
      refine Wk.go (A' := T38.setTop (mkF m 133 #[iv fl, iv mx, jv bt, .second, iv sp, jv of, .second, iv ln, iv (0 : Int32), iv (1 : Int32), iv ia, iv nn, rv pa, .unset, .unset] [(.ref hO), (.ref hO)])) (fun t k => XS.dup X38.here hx rfl (hb hby at_132) rfl rfl k) ?_
      refine Wk.go (A' := T38.setTop (mkF m 135 #[iv fl, iv mx, jv bt, .second, iv sp, jv of, .second, iv ln, iv (0 : Int32), iv (1 : Int32), iv ia, iv nn, rv pa, .unset, .unset] [(.int (0 : Int32)), (.ref hO), (.ref hO)])) (fun t k => XS.iload X38.here hx rfl (hb hby at_133) rfl k) ?_
      obtain ⟨_, _, ⟨T40, L40, k40, n40⟩, -, X40, ⟨Lc40, hQ40, l40, y40, z40⟩, st40⟩ := X38.specialBack hx (y := (⟨own_F, "<init>", "(Z)V"⟩ : MethodName)) rfl hown (mvT hZ (tw5 hw)) (mvT hZ (tw6 hw)) (mvT hZ (tw7 hw)) (by decide) (backOf (W := 1) (rm1 l Z a0 hw [] hO (0 : Int32)  h38 n0 Zp38 A38 F_bytes_hO F_masked_hO F_count_hO F_opcode_hO F_last_hO F_open_hO F_length_hO F_maskAt_hO F_messageOpcode_hO F_messageBytes_hO F_dataLength_hO g_hO) hZ (tw7 hw) (tw4 hw) (by decide) (by decide)) (g := (mkF m 135 #[iv fl, iv mx, jv bt, .second, iv sp, jv of, .second, iv ln, iv (0 : Int32), iv (1 : Int32), iv ia, iv nn, rv pa, .unset, .unset] [(.int (0 : Int32)), (.ref hO), (.ref hO)])) rfl (by rw [hml]; rfl) (Steps.refl _) (a := hO) (argsL := [(.int (0 : Int32))]) (rest := [(.ref hO)]) (lenOf pd_5 rfl) rfl (by show 2 * 0 + _ ≤ _; exact Nat.le_of_eq rfl) (hb hby at_135) (fun _ _ => ⟨rfl, e38, (by decide : 2 + 1 ≤ _), (by decide : 19 + 14 ≤ _)⟩)
      dsimp only [Pt.U, Pt.locs, Pt.cells, Pt.slots] at X40 l40 y40 z40 st40 hQ40
      subst l40 y40 z40
      obtain ⟨rfl, N40q, Kq40, ba, g_ba, bb_ba, Eq40, Fq40_bytes, Fq40_masked, Fq40_count, Fq40_opcode, Fq40_last, Fq40_open, Fq40_length, Fq40_maskAt, Fq40_messageOpcode, Fq40_messageBytes, Fq40_dataLength, Vq40⟩ := hQ40
      have N40 := Fr.app N16 N40q
      have ne_pa_ba : pa ≠ ba := Nat.ne_of_lt (Nat.lt_of_lt_of_le f39.lt bb_ba)
      have ne_hO_ba : hO ≠ ba := Nat.ne_of_lt (Nat.lt_of_lt_of_le A38.lt bb_ba)
      have f41 := f39.keep Kq40 (ninS ne_pa_hO nin0)
      have f42 := A38.keep Kq40
      have Zp40 : n0 ≤ T40.heap.size := Nat.le_trans Zp38 Kq40.1
      refine Wk.go (A' := T40.setTop (mkF m 138 #[iv fl, iv mx, jv bt, .second, iv sp, jv of, .second, iv ln, iv (0 : Int32), iv (1 : Int32), iv ia, iv nn, rv pa, .unset, .unset] [(.ref hO)])) (fun t k => st40.trans k) ?_
      refine Wk.go (A' := T40.setTop (mkF m 140 #[iv fl, iv mx, jv bt, .second, iv sp, jv of, .second, iv ln, iv (0 : Int32), iv (1 : Int32), iv ia, iv nn, rv pa, rv hO, .unset] [])) (fun t k => XS.astore X40.here hx rfl (hb hby at_138) rfl rfl (l' := #[iv fl, iv mx, jv bt, .second, iv sp, jv of, .second, iv ln, iv (0 : Int32), iv (1 : Int32), iv ia, iv nn, rv pa, rv hO, .unset]) rfl k) ?_
      refine Wk.go (A' := T40.setTop (mkF m 142 #[iv fl, iv mx, jv bt, .second, iv sp, jv of, .second, iv ln, iv (0 : Int32), iv (1 : Int32), iv ia, iv nn, rv pa, rv hO, .unset] [(.int (1 : Int32))])) (fun t k => XS.iload X40.here hx rfl (hb hby at_140) rfl k) ?_
      have hc142 : ¬ ((1 : Int32) = (0 : Int32)) := by decide
      refine Wk.go (A' := T40.setTop (mkF m 145 #[iv fl, iv mx, jv bt, .second, iv sp, jv of, .second, iv ln, iv (0 : Int32), iv (1 : Int32), iv ia, iv nn, rv pa, rv hO, .unset] [])) (fun t k => XS.ifNo X40.here hx rfl (hb hby at_142) rfl ((if0 _ _).trans (feq hc142).1) k) ?_
      refine Wk.go (A' := T40.setTop (mkF m 147 #[iv fl, iv mx, jv bt, .second, iv sp, jv of, .second, iv ln, iv (0 : Int32), iv (1 : Int32), iv ia, iv nn, rv pa, rv hO, .unset] [(.int (126 : Int32))])) (fun t k => XS.bipush X40.here hx rfl (hb hby at_145) k) ?_
      refine Wk.go (A' := T40.setTop (mkF m 158 #[iv fl, iv mx, jv bt, .second, iv sp, jv of, .second, iv ln, iv (0 : Int32), iv (1 : Int32), iv ia, iv nn, rv pa, rv hO, .unset] [(.int (126 : Int32))])) (fun t k => XS.goto X40.here hx rfl (pc0 := 147) (pc' := 158) rfl (hb hby at_147) (by decide) (by decide) k) ?_
      refine Wk.go (A' := T40.setTop (mkF m 160 #[iv fl, iv mx, jv bt, .second, iv sp, jv of, .second, iv ln, iv (0 : Int32), iv (1 : Int32), iv ia, iv nn, rv pa, rv hO, iv (126 : Int32)] [])) (fun t k => XS.istore X40.here hx rfl (hb hby at_158) rfl (l' := #[iv fl, iv mx, jv bt, .second, iv sp, jv of, .second, iv ln, iv (0 : Int32), iv (1 : Int32), iv ia, iv nn, rv pa, rv hO, iv (126 : Int32)]) rfl k) ?_
      refine Wk.go (A' := T40.setTop (mkF m 162 #[iv fl, iv mx, jv bt, .second, iv sp, jv of, .second, iv ln, iv (0 : Int32), iv (1 : Int32), iv ia, iv nn, rv pa, rv hO, iv (126 : Int32)] [(.ref hO)])) (fun t k => XS.aload X40.here hx rfl (hb hby at_160) rfl rfl k) ?_
      refine Wk.go (A' := T40.setTop (mkF m 164 #[iv fl, iv mx, jv bt, .second, iv sp, jv of, .second, iv ln, iv (0 : Int32), iv (1 : Int32), iv ia, iv nn, rv pa, rv hO, iv (126 : Int32)] [(.int (-126 : Int32)), (.ref hO)])) (fun t k => XS.bipush X40.here hx rfl (hb hby at_162) k) ?_
      refine Wk.go (A' := T40.setTop (mkF m 167 #[iv fl, iv mx, jv bt, .second, iv sp, jv of, .second, iv ln, iv (0 : Int32), iv (1 : Int32), iv ia, iv nn, rv pa, rv hO, iv (126 : Int32)] [(.long (9223372036854775807 : Int64)), (.int (-126 : Int32)), (.ref hO)])) (fun t k => X40.ldc2Long hx hown (mvT hZ (tw15 hw)) (g := (mkF m 164 #[iv fl, iv mx, jv bt, .second, iv sp, jv of, .second, iv ln, iv (0 : Int32), iv (1 : Int32), iv ia, iv nn, rv pa, rv hO, iv (126 : Int32)] [(.int (-126 : Int32)), (.ref hO)])) rfl (hb hby at_164) t k) ?_
      obtain ⟨cq43, kq43, q43a, q43b, q43c⟩ := isOf hZ rfl Eq40
      obtain ⟨_, _, ⟨T43, L43, k43, n43⟩, -, X43, ⟨Lc43, hQ43, l43, y43, z43⟩, st43⟩ := X40.virtualBack hx (y := (⟨own_F, "take", "(BJ)Z"⟩ : MethodName)) (z := (⟨own_F, "take", "(BJ)Z"⟩ : MethodName)) hown (mvT hZ (tw16 hw)) (mvT hZ (tw17 hw)) (notFace_of_selects (args := #[]) (mvT hZ (tw19 hw))) (mvT hZ (tw19 hw)) (mvT hZ (tw18 hw)) (by decide) (backOf (W := 0) (rm30u l Z a0 hw [] hO (-126 : Int32) (9223372036854775807 : Int64) ba (fun _ => 0) T40.heap n0 Zp40 Eq40 Fq40_bytes Fq40_masked Fq40_count Fq40_opcode Fq40_last Fq40_open Fq40_length Fq40_maskAt Fq40_messageOpcode Fq40_messageBytes Fq40_dataLength Vq40 ne_hO_ba g_hO g_ba rfl) hZ (tw20 hw) (tw4 hw) (by decide) (by decide)) q43a q43c (g := (mkF m 167 #[iv fl, iv mx, jv bt, .second, iv sp, jv of, .second, iv ln, iv (0 : Int32), iv (1 : Int32), iv ia, iv nn, rv pa, rv hO, iv (126 : Int32)] [(.long (9223372036854775807 : Int64)), (.int (-126 : Int32)), (.ref hO)])) rfl (by rw [hml]; rfl) (Steps.refl _) (argsL := [(.int (-126 : Int32)), (.long (9223372036854775807 : Int64))]) (rest := []) (lenOf pd_6 rfl) rfl (by show 2 * 0 + _ ≤ _; exact Nat.le_of_eq rfl) (hb hby at_167) (fun _ _ => ⟨rfl, rfl, (by decide : 3 + 0 ≤ _), (by decide : 33 + 0 ≤ _)⟩)
      dsimp only [Pt.U, Pt.locs, Pt.cells, Pt.slots] at X43 l43 y43 z43 st43 hQ43
      subst l43 y43 z43
      obtain ⟨rfl, N43q, Kq43, Eq43, Fq43_bytes, Fq43_masked, Fq43_count, Fq43_opcode, Fq43_last, Fq43_open, Fq43_length, Fq43_maskAt, Fq43_messageOpcode, Fq43_messageBytes, Fq43_dataLength, Vq43⟩ := hQ43
      have N43 := Fr.app N40 N43q
      have f44 := f41.keep Kq43 (ninS ne_pa_hO (ninS ne_pa_ba nin0))
      have f45 := Eq40.keep Kq43
      have Zp43 : n0 ≤ T43.heap.size := Nat.le_trans Zp40 Kq43.1
      obtain ⟨g1, hg1⟩ : ∃ z, z = (own_upd (fun _ => 0) 0 ((-126 : Int32)).toInt8.toInt32) := ⟨_, rfl⟩
      have Vr43 : BA Z T43.heap ba 14 g1 := by rw [hg1]; exact Vq43
      refine Wk.go (A' := T43.setTop (mkF m 170 #[iv fl, iv mx, jv bt, .second, iv sp, jv of, .second, iv ln, iv (0 : Int32), iv (1 : Int32), iv ia, iv nn, rv pa, rv hO, iv (126 : Int32)] [(.int (0 : Int32))])) (fun t k => st43.trans k) ?_
      refine Wk.go (A' := T43.setTop (mkF m 171 #[iv fl, iv mx, jv bt, .second, iv sp, jv of, .second, iv ln, iv (0 : Int32), iv (1 : Int32), iv ia, iv nn, rv pa, rv hO, iv (126 : Int32)] [])) (fun t k => XS.pop X43.here hx rfl (hb hby at_170) rfl rfl k) ?_
      refine Wk.go (A' := T43.setTop (mkF m 173 #[iv fl, iv mx, jv bt, .second, iv sp, jv of, .second, iv ln, iv (0 : Int32), iv (1 : Int32), iv ia, iv nn, rv pa, rv hO, iv (126 : Int32)] [(.ref hO)])) (fun t k => XS.aload X43.here hx rfl (hb hby at_171) rfl rfl k) ?_
      refine Wk.go (A' := T43.setTop (mkF m 175 #[iv fl, iv mx, jv bt, .second, iv sp, jv of, .second, iv ln, iv (0 : Int32), iv (1 : Int32), iv ia, iv nn, rv pa, rv hO, iv (126 : Int32)] [(.int (0 : Int32)), (.ref hO)])) (fun t k => XS.iload X43.here hx rfl (hb hby at_173) rfl k) ?_
      have hc175 : (0 : Int32) = (0 : Int32) := by decide
      refine Wk.go (A' := T43.setTop (mkF m 184 #[iv fl, iv mx, jv bt, .second, iv sp, jv of, .second, iv ln, iv (0 : Int32), iv (1 : Int32), iv ia, iv nn, rv pa, rv hO, iv (126 : Int32)] [(.ref hO)])) (fun t k => XS.ifYes X43.here hx rfl (pc0 := 175) (pc' := 184) rfl (hb hby at_175) rfl ((if0 _ _).trans (teq hc175).1) (by decide) (by decide) k) ?_
      refine Wk.go (A' := T43.setTop (mkF m 185 #[iv fl, iv mx, jv bt, .second, iv sp, jv of, .second, iv ln, iv (0 : Int32), iv (1 : Int32), iv ia, iv nn, rv pa, rv hO, iv (126 : Int32)] [(.int (0 : Int32)), (.ref hO)])) (fun t k => XS.iconst X43.here hx rfl (hb hby at_184) k) ?_
      refine Wk.go (A' := T43.setTop (mkF m 187 #[iv fl, iv mx, jv bt, .second, iv sp, jv of, .second, iv ln, iv (0 : Int32), iv (1 : Int32), iv ia, iv nn, rv pa, rv hO, iv (126 : Int32)] [(.int (126 : Int32)), (.int (0 : Int32)), (.ref hO)])) (fun t k => XS.iload X43.here hx rfl (hb hby at_185) rfl k) ?_
      refine Wk.go (A' := T43.setTop (mkF m 188 #[iv fl, iv mx, jv bt, .second, iv sp, jv of, .second, iv ln, iv (0 : Int32), iv (1 : Int32), iv ia, iv nn, rv pa, rv hO, iv (126 : Int32)] [(.int (126 : Int32)), (.ref hO)])) (fun t k => XS.ior X43.here hx rfl (hb hby at_187) rfl k) ?_
      refine Wk.go (A' := T43.setTop (mkF m 189 #[iv fl, iv mx, jv bt, .second, iv sp, jv of, .second, iv ln, iv (0 : Int32), iv (1 : Int32), iv ia, iv nn, rv pa, rv hO, iv (126 : Int32)] [(.int ((126 : Int32).toInt8.toInt32)), (.ref hO)])) (fun t k => XS.i2b X43.here hx rfl (hb hby at_188) rfl k) ?_
      refine Wk.go (A' := T43.setTop (mkF m 192 #[iv fl, iv mx, jv bt, .second, iv sp, jv of, .second, iv ln, iv (0 : Int32), iv (1 : Int32), iv ia, iv nn, rv pa, rv hO, iv (126 : Int32)] [(.long (9223372036854775807 : Int64)), (.int ((126 : Int32).toInt8.toInt32)), (.ref hO)])) (fun t k => X43.ldc2Long hx hown (mvT hZ (tw15 hw)) (g := (mkF m 189 #[iv fl, iv mx, jv bt, .second, iv sp, jv of, .second, iv ln, iv (0 : Int32), iv (1 : Int32), iv ia, iv nn, rv pa, rv hO, iv (126 : Int32)] [(.int ((126 : Int32).toInt8.toInt32)), (.ref hO)])) rfl (hb hby at_189) t k) ?_
      obtain ⟨cq46, kq46, q46a, q46b, q46c⟩ := isOf hZ rfl Eq43
      obtain ⟨_, _, ⟨T46, L46, k46, n46⟩, -, X46, ⟨Lc46, hQ46, l46, y46, z46⟩, st46⟩ := X43.virtualBack hx (y := (⟨own_F, "take", "(BJ)Z"⟩ : MethodName)) (z := (⟨own_F, "take", "(BJ)Z"⟩ : MethodName)) hown (mvT hZ (tw16 hw)) (mvT hZ (tw17 hw)) (notFace_of_selects (args := #[]) (mvT hZ (tw19 hw))) (mvT hZ (tw19 hw)) (mvT hZ (tw18 hw)) (by decide) (backOf (W := 0) (rm31wu l Z a0 hw [] hO ((126 : Int32).toInt8.toInt32) (9223372036854775807 : Int64) ba g1 T43.heap n0 Zp43 Eq43 Fq43_bytes Fq43_masked Fq43_count Fq43_opcode Fq43_last Fq43_open Fq43_length Fq43_maskAt Fq43_messageOpcode Fq43_messageBytes Fq43_dataLength Vr43 ne_hO_ba g_hO g_ba rfl (by rw [hg1, own_upd_eq]; decide) (by decide) (by decide)) hZ (tw20 hw) (tw4 hw) (by decide) (by decide)) q46a q46c (g := (mkF m 192 #[iv fl, iv mx, jv bt, .second, iv sp, jv of, .second, iv ln, iv (0 : Int32), iv (1 : Int32), iv ia, iv nn, rv pa, rv hO, iv (126 : Int32)] [(.long (9223372036854775807 : Int64)), (.int ((126 : Int32).toInt8.toInt32)), (.ref hO)])) rfl (by rw [hml]; rfl) (Steps.refl _) (argsL := [(.int ((126 : Int32).toInt8.toInt32)), (.long (9223372036854775807 : Int64))]) (rest := []) (lenOf pd_6 rfl) rfl (by show 2 * 0 + _ ≤ _; exact Nat.le_of_eq rfl) (hb hby at_192) (fun _ _ => ⟨rfl, rfl, (by decide : 3 + 0 ≤ _), (by decide : 33 + 0 ≤ _)⟩)
      dsimp only [Pt.U, Pt.locs, Pt.cells, Pt.slots] at X46 l46 y46 z46 st46 hQ46
      subst l46 y46 z46
      obtain ⟨rfl, N46q, Kq46, Eq46, Fq46_bytes, Fq46_masked, Fq46_count, Fq46_opcode, Fq46_last, Fq46_open, Fq46_length, Fq46_maskAt, Fq46_messageOpcode, Fq46_messageBytes, Fq46_dataLength, Vq46⟩ := hQ46
      have N46 := Fr.app N43 N46q
      have f47 := f44.keep Kq46 (ninS ne_pa_hO (ninS ne_pa_ba nin0))
      have f48 := Eq43.keep Kq46
      have Zp46 : n0 ≤ T46.heap.size := Nat.le_trans Zp43 Kq46.1
      obtain ⟨g2, hg2⟩ : ∃ z, z = (own_upd g1 1 (((126 : Int32).toInt8.toInt32)).toInt8.toInt32) := ⟨_, rfl⟩
      have Vr46 : BA Z T46.heap ba 14 g2 := by rw [hg2]; exact Vq46
      refine Wk.go (A' := T46.setTop (mkF m 195 #[iv fl, iv mx, jv bt, .second, iv sp, jv of, .second, iv ln, iv (0 : Int32), iv (1 : Int32), iv ia, iv nn, rv pa, rv hO, iv (126 : Int32)] [(.int (0 : Int32))])) (fun t k => st46.trans k) ?_
      refine Wk.go (A' := T46.setTop (mkF m 196 #[iv fl, iv mx, jv bt, .second, iv sp, jv of, .second, iv ln, iv (0 : Int32), iv (1 : Int32), iv ia, iv nn, rv pa, rv hO, iv (126 : Int32)] [])) (fun t k => XS.pop X46.here hx rfl (hb hby at_195) rfl rfl k) ?_
      refine Wk.go (A' := T46.setTop (mkF m 198 #[iv fl, iv mx, jv bt, .second, iv sp, jv of, .second, iv ln, iv (0 : Int32), iv (1 : Int32), iv ia, iv nn, rv pa, rv hO, iv (126 : Int32)] [(.int (1 : Int32))])) (fun t k => XS.iload X46.here hx rfl (hb hby at_196) rfl k) ?_
      have hc198 : ¬ ((1 : Int32) = (0 : Int32)) := by decide
      refine Wk.go (A' := T46.setTop (mkF m 201 #[iv fl, iv mx, jv bt, .second, iv sp, jv of, .second, iv ln, iv (0 : Int32), iv (1 : Int32), iv ia, iv nn, rv pa, rv hO, iv (126 : Int32)] [])) (fun t k => XS.ifNo X46.here hx rfl (hb hby at_198) rfl ((if0 _ _).trans (feq hc198).1) k) ?_
      refine Wk.go (A' := T46.setTop (mkF m 203 #[iv fl, iv mx, jv bt, .second, iv sp, jv of, .second, iv ln, iv (0 : Int32), iv (1 : Int32), iv ia, iv nn, rv pa, rv hO, iv (126 : Int32)] [(.ref hO)])) (fun t k => XS.aload X46.here hx rfl (hb hby at_201) rfl rfl k) ?_
      refine Wk.go (A' := T46.setTop (mkF m 205 #[iv fl, iv mx, jv bt, .second, iv sp, jv of, .second, iv ln, iv (0 : Int32), iv (1 : Int32), iv ia, iv nn, rv pa, rv hO, iv (126 : Int32)] [(.int ln), (.ref hO)])) (fun t k => XS.iload X46.here hx rfl (hb hby at_203) rfl k) ?_
      refine Wk.go (A' := T46.setTop (mkF m 207 #[iv fl, iv mx, jv bt, .second, iv sp, jv of, .second, iv ln, iv (0 : Int32), iv (1 : Int32), iv ia, iv nn, rv pa, rv hO, iv (126 : Int32)] [(.int (8 : Int32)), (.int ln), (.ref hO)])) (fun t k => XS.bipush X46.here hx rfl (hb hby at_205) k) ?_
      refine Wk.go (A' := T46.setTop (mkF m 208 #[iv fl, iv mx, jv bt, .second, iv sp, jv of, .second, iv ln, iv (0 : Int32), iv (1 : Int32), iv ia, iv nn, rv pa, rv hO, iv (126 : Int32)] [(.int ((ln.toUInt32 >>> ((8 : Int32) &&& 31).toUInt32).toInt32)), (.ref hO)])) (fun t k => XS.iushr X46.here hx rfl (hb hby at_207) rfl k) ?_
      refine Wk.go (A' := T46.setTop (mkF m 209 #[iv fl, iv mx, jv bt, .second, iv sp, jv of, .second, iv ln, iv (0 : Int32), iv (1 : Int32), iv ia, iv nn, rv pa, rv hO, iv (126 : Int32)] [(.int (((ln.toUInt32 >>> ((8 : Int32) &&& 31).toUInt32).toInt32).toInt8.toInt32)), (.ref hO)])) (fun t k => XS.i2b X46.here hx rfl (hb hby at_208) rfl k) ?_
      refine Wk.go (A' := T46.setTop (mkF m 212 #[iv fl, iv mx, jv bt, .second, iv sp, jv of, .second, iv ln, iv (0 : Int32), iv (1 : Int32), iv ia, iv nn, rv pa, rv hO, iv (126 : Int32)] [(.long (9223372036854775807 : Int64)), (.int (((ln.toUInt32 >>> ((8 : Int32) &&& 31).toUInt32).toInt32).toInt8.toInt32)), (.ref hO)])) (fun t k => X46.ldc2Long hx hown (mvT hZ (tw15 hw)) (g := (mkF m 209 #[iv fl, iv mx, jv bt, .second, iv sp, jv of, .second, iv ln, iv (0 : Int32), iv (1 : Int32), iv ia, iv nn, rv pa, rv hO, iv (126 : Int32)] [(.int (((ln.toUInt32 >>> ((8 : Int32) &&& 31).toUInt32).toInt32).toInt8.toInt32)), (.ref hO)])) rfl (hb hby at_209) t k) ?_
      obtain ⟨cq49, kq49, q49a, q49b, q49c⟩ := isOf hZ rfl Eq46
      obtain ⟨_, _, ⟨T49, L49, k49, n49⟩, -, X49, ⟨Lc49, hQ49, l49, y49, z49⟩, st49⟩ := X46.virtualBack hx (y := (⟨own_F, "take", "(BJ)Z"⟩ : MethodName)) (z := (⟨own_F, "take", "(BJ)Z"⟩ : MethodName)) hown (mvT hZ (tw16 hw)) (mvT hZ (tw17 hw)) (notFace_of_selects (args := #[]) (mvT hZ (tw19 hw))) (mvT hZ (tw19 hw)) (mvT hZ (tw18 hw)) (by decide) (backOf (W := 0) (rm32wu l Z a0 hw [] hO (((ln.toUInt32 >>> ((8 : Int32) &&& 31).toUInt32).toInt32).toInt8.toInt32) (9223372036854775807 : Int64) ba g2 T46.heap n0 Zp46 Eq46 Fq46_bytes Fq46_masked Fq46_count Fq46_opcode Fq46_last Fq46_open Fq46_length Fq46_maskAt Fq46_messageOpcode Fq46_messageBytes Fq46_dataLength Vr46 ne_hO_ba g_hO g_ba rfl (by rw [hg2, own_upd_eq]; decide)) hZ (tw20 hw) (tw4 hw) (by decide) (by decide)) q49a q49c (g := (mkF m 212 #[iv fl, iv mx, jv bt, .second, iv sp, jv of, .second, iv ln, iv (0 : Int32), iv (1 : Int32), iv ia, iv nn, rv pa, rv hO, iv (126 : Int32)] [(.long (9223372036854775807 : Int64)), (.int (((ln.toUInt32 >>> ((8 : Int32) &&& 31).toUInt32).toInt32).toInt8.toInt32)), (.ref hO)])) rfl (by rw [hml]; rfl) (Steps.refl _) (argsL := [(.int (((ln.toUInt32 >>> ((8 : Int32) &&& 31).toUInt32).toInt32).toInt8.toInt32)), (.long (9223372036854775807 : Int64))]) (rest := []) (lenOf pd_6 rfl) rfl (by show 2 * 0 + _ ≤ _; exact Nat.le_of_eq rfl) (hb hby at_212) (fun _ _ => ⟨rfl, rfl, (by decide : 3 + 0 ≤ _), (by decide : 33 + 0 ≤ _)⟩)
      dsimp only [Pt.U, Pt.locs, Pt.cells, Pt.slots] at X49 l49 y49 z49 st49 hQ49
      subst l49 y49 z49
      obtain ⟨rfl, N49q, Kq49, Eq49, Fq49_bytes, Fq49_masked, Fq49_count, Fq49_opcode, Fq49_last, Fq49_open, Fq49_length, Fq49_maskAt, Fq49_messageOpcode, Fq49_messageBytes, Fq49_dataLength, Vq49⟩ := hQ49
      have N49 := Fr.app N46 N49q
      have f50 := f47.keep Kq49 (ninS ne_pa_hO (ninS ne_pa_ba nin0))
      have f51 := Eq46.keep Kq49
      have Zp49 : n0 ≤ T49.heap.size := Nat.le_trans Zp46 Kq49.1
      obtain ⟨g3, hg3⟩ : ∃ z, z = (own_upd g2 2 ((((ln.toUInt32 >>> ((8 : Int32) &&& 31).toUInt32).toInt32).toInt8.toInt32)).toInt8.toInt32) := ⟨_, rfl⟩
      have Vr49 : BA Z T49.heap ba 14 g3 := by rw [hg3]; exact Vq49
      refine Wk.go (A' := T49.setTop (mkF m 215 #[iv fl, iv mx, jv bt, .second, iv sp, jv of, .second, iv ln, iv (0 : Int32), iv (1 : Int32), iv ia, iv nn, rv pa, rv hO, iv (126 : Int32)] [(.int (0 : Int32))])) (fun t k => st49.trans k) ?_
      refine Wk.go (A' := T49.setTop (mkF m 216 #[iv fl, iv mx, jv bt, .second, iv sp, jv of, .second, iv ln, iv (0 : Int32), iv (1 : Int32), iv ia, iv nn, rv pa, rv hO, iv (126 : Int32)] [])) (fun t k => XS.pop X49.here hx rfl (hb hby at_215) rfl rfl k) ?_
      refine Wk.go (A' := T49.setTop (mkF m 218 #[iv fl, iv mx, jv bt, .second, iv sp, jv of, .second, iv ln, iv (0 : Int32), iv (1 : Int32), iv ia, iv nn, rv pa, rv hO, iv (126 : Int32)] [(.ref hO)])) (fun t k => XS.aload X49.here hx rfl (hb hby at_216) rfl rfl k) ?_
      refine Wk.go (A' := T49.setTop (mkF m 220 #[iv fl, iv mx, jv bt, .second, iv sp, jv of, .second, iv ln, iv (0 : Int32), iv (1 : Int32), iv ia, iv nn, rv pa, rv hO, iv (126 : Int32)] [(.int ln), (.ref hO)])) (fun t k => XS.iload X49.here hx rfl (hb hby at_218) rfl k) ?_
      refine Wk.go (A' := T49.setTop (mkF m 221 #[iv fl, iv mx, jv bt, .second, iv sp, jv of, .second, iv ln, iv (0 : Int32), iv (1 : Int32), iv ia, iv nn, rv pa, rv hO, iv (126 : Int32)] [(.int (ln.toInt8.toInt32)), (.ref hO)])) (fun t k => XS.i2b X49.here hx rfl (hb hby at_220) rfl k) ?_
      refine Wk.go (A' := T49.setTop (mkF m 224 #[iv fl, iv mx, jv bt, .second, iv sp, jv of, .second, iv ln, iv (0 : Int32), iv (1 : Int32), iv ia, iv nn, rv pa, rv hO, iv (126 : Int32)] [(.long (9223372036854775807 : Int64)), (.int (ln.toInt8.toInt32)), (.ref hO)])) (fun t k => X49.ldc2Long hx hown (mvT hZ (tw15 hw)) (g := (mkF m 221 #[iv fl, iv mx, jv bt, .second, iv sp, jv of, .second, iv ln, iv (0 : Int32), iv (1 : Int32), iv ia, iv nn, rv pa, rv hO, iv (126 : Int32)] [(.int (ln.toInt8.toInt32)), (.ref hO)])) rfl (hb hby at_221) t k) ?_
      obtain ⟨cq52, kq52, q52a, q52b, q52c⟩ := isOf hZ rfl Eq49
      obtain ⟨_, _, ⟨T52, L52, k52, n52⟩, -, X52, ⟨Lc52, hQ52, l52, y52, z52⟩, st52⟩ := X49.virtualBack hx (y := (⟨own_F, "take", "(BJ)Z"⟩ : MethodName)) (z := (⟨own_F, "take", "(BJ)Z"⟩ : MethodName)) hown (mvT hZ (tw16 hw)) (mvT hZ (tw17 hw)) (notFace_of_selects (args := #[]) (mvT hZ (tw19 hw))) (mvT hZ (tw19 hw)) (mvT hZ (tw18 hw)) (by decide) (backOf (W := 0) (rm33wu l Z a0 hw [] hO (ln.toInt8.toInt32) (9223372036854775807 : Int64) ba g3 T49.heap n0 Zp49 Eq49 Fq49_bytes Fq49_masked Fq49_count Fq49_opcode Fq49_last Fq49_open Fq49_length Fq49_maskAt Fq49_messageOpcode Fq49_messageBytes Fq49_dataLength Vr49 ne_hO_ba g_hO g_ba rfl (by rw [hg3, own_upd_ne _ _ (by decide), hg2, own_upd_eq]; decide)) hZ (tw20 hw) (tw4 hw) (by decide) (by decide)) q52a q52c (g := (mkF m 224 #[iv fl, iv mx, jv bt, .second, iv sp, jv of, .second, iv ln, iv (0 : Int32), iv (1 : Int32), iv ia, iv nn, rv pa, rv hO, iv (126 : Int32)] [(.long (9223372036854775807 : Int64)), (.int (ln.toInt8.toInt32)), (.ref hO)])) rfl (by rw [hml]; rfl) (Steps.refl _) (argsL := [(.int (ln.toInt8.toInt32)), (.long (9223372036854775807 : Int64))]) (rest := []) (lenOf pd_6 rfl) rfl (by show 2 * 0 + _ ≤ _; exact Nat.le_of_eq rfl) (hb hby at_224) (fun _ _ => ⟨rfl, rfl, (by decide : 3 + 0 ≤ _), (by decide : 33 + 0 ≤ _)⟩)
      dsimp only [Pt.U, Pt.locs, Pt.cells, Pt.slots] at X52 l52 y52 z52 st52 hQ52
      subst l52 y52 z52
      obtain ⟨ln52, rfl, N52q, Kq52, Eq52, Fq52_bytes, Fq52_masked, Fq52_count, Fq52_opcode, Fq52_last, Fq52_open, Fq52_length, Fq52_maskAt, Fq52_messageOpcode, Fq52_messageBytes, Fq52_dataLength, Vq52⟩ := hQ52
      have N52 := Fr.app N49 N52q
      have f53 := f50.keep Kq52 (ninS ne_pa_hO (ninS ne_pa_ba nin0))
      have f54 := Eq49.keep Kq52
      have Zp52 : n0 ≤ T52.heap.size := Nat.le_trans Zp49 Kq52.1
      obtain ⟨g4, hg4⟩ : ∃ z, z = (own_upd g3 3 ((ln.toInt8.toInt32)).toInt8.toInt32) := ⟨_, rfl⟩
      have Vr52 : BA Z T52.heap ba 14 g4 := by rw [hg4]; exact Vq52
      refine Wk.go (A' := T52.setTop (mkF m 227 #[iv fl, iv mx, jv bt, .second, iv sp, jv of, .second, iv ln, iv (0 : Int32), iv (1 : Int32), iv ia, iv nn, rv pa, rv hO, iv (126 : Int32)] [(.int (1 : Int32))])) (fun t k => st52.trans k) ?_
      refine Wk.go (A' := T52.setTop (mkF m 228 #[iv fl, iv mx, jv bt, .second, iv sp, jv of, .second, iv ln, iv (0 : Int32), iv (1 : Int32), iv ia, iv nn, rv pa, rv hO, iv (126 : Int32)] [])) (fun t k => XS.pop X52.here hx rfl (hb hby at_227) rfl rfl k) ?_
      refine Wk.go (A' := T52.setTop (mkF m 230 #[iv fl, iv mx, jv bt, .second, iv sp, jv of, .second, iv ln, iv (0 : Int32), iv (1 : Int32), iv ia, iv nn, rv pa, rv hO, iv (126 : Int32)] [(.int (0 : Int32))])) (fun t k => XS.iload X52.here hx rfl (hb hby at_228) rfl k) ?_
      have hc230 : (0 : Int32) = (0 : Int32) := by decide
      refine Wk.go (A' := T52.setTop (mkF m 286 #[iv fl, iv mx, jv bt, .second, iv sp, jv of, .second, iv ln, iv (0 : Int32), iv (1 : Int32), iv ia, iv nn, rv pa, rv hO, iv (126 : Int32)] [])) (fun t k => XS.ifYes X52.here hx rfl (pc0 := 230) (pc' := 286) rfl (hb hby at_230) rfl ((if0 _ _).trans (teq hc230).1) (by decide) (by decide) k) ?_
      refine Wk.go (A' := T52.setTop (mkF m 288 #[iv fl, iv mx, jv bt, .second, iv sp, jv of, .second, iv ln, iv (0 : Int32), iv (1 : Int32), iv ia, iv nn, rv pa, rv hO, iv (126 : Int32)] [(.ref hO)])) (fun t k => XS.aload X52.here hx rfl (hb hby at_286) rfl rfl k) ?_
      refine Wk.go (A' := T52.setTop (mkF m 290 #[iv fl, iv mx, jv bt, .second, iv sp, jv of, .second, iv ln, iv (0 : Int32), iv (1 : Int32), iv ia, iv nn, rv pa, rv hO, iv (126 : Int32)] [(.ref pa), (.ref hO)])) (fun t k => XS.aload X52.here hx rfl (hb hby at_288) rfl rfl k) ?_
      refine Wk.go (A' := T52.setTop (mkF m 292 #[iv fl, iv mx, jv bt, .second, iv sp, jv of, .second, iv ln, iv (0 : Int32), iv (1 : Int32), iv ia, iv nn, rv pa, rv hO, iv (126 : Int32)] [(.int ia), (.ref pa), (.ref hO)])) (fun t k => XS.iload X52.here hx rfl (hb hby at_290) rfl k) ?_
      refine Wk.go (A' := T52.setTop (mkF m 294 #[iv fl, iv mx, jv bt, .second, iv sp, jv of, .second, iv ln, iv (0 : Int32), iv (1 : Int32), iv ia, iv nn, rv pa, rv hO, iv (126 : Int32)] [(.int nn), (.int ia), (.ref pa), (.ref hO)])) (fun t k => XS.iload X52.here hx rfl (hb hby at_292) rfl k) ?_
      refine Wk.go (A' := T52.setTop (mkF m 296 #[iv fl, iv mx, jv bt, .second, iv sp, jv of, .second, iv ln, iv (0 : Int32), iv (1 : Int32), iv ia, iv nn, rv pa, rv hO, iv (126 : Int32)] [(.long of), (.int nn), (.int ia), (.ref pa), (.ref hO)])) (fun t k => XS.lload X52.here hx rfl (hb hby at_294) rfl k) ?_
      obtain ⟨cq55, kq55, q55a, q55b, q55c⟩ := isOf hZ rfl Eq52
      obtain ⟨_, _, ⟨T55, L55, k55, n55⟩, -, X55, ⟨Lc55, hQ55, l55, y55, z55⟩, st55⟩ := X52.virtualBack hx (y := (⟨own_F, "unmask", "([BIIJ)V"⟩ : MethodName)) (z := (⟨own_F, "unmask", "([BIIJ)V"⟩ : MethodName)) hown (mvT hZ (tw56 hw)) (mvT hZ (tw57 hw)) (notFace_of_selects (args := #[]) (mvT hZ (tw59 hw))) (mvT hZ (tw59 hw)) (mvT hZ (tw58 hw)) (by decide) (backOf (W := 0) (rm8u l Z a0 hw [] hO pa ia nn of  T52.heap n0 Zp52 Fq52_masked) hZ (tw60 hw) (tw4 hw) (by decide) (by decide)) q55a q55c (g := (mkF m 296 #[iv fl, iv mx, jv bt, .second, iv sp, jv of, .second, iv ln, iv (0 : Int32), iv (1 : Int32), iv ia, iv nn, rv pa, rv hO, iv (126 : Int32)] [(.long of), (.int nn), (.int ia), (.ref pa), (.ref hO)])) rfl (by rw [hml]; rfl) (Steps.refl _) (argsL := [(.ref pa), (.int ia), (.int nn), (.long of)]) (rest := []) (lenOf pd_7 rfl) rfl (by show 2 * 0 + _ ≤ _; exact Nat.le_of_eq rfl) (hb hby at_296) (fun _ _ => ⟨rfl, rfl, (by decide : 3 + 0 ≤ _), (by decide : 33 + 0 ≤ _)⟩)
      dsimp only [Pt.U, Pt.locs, Pt.cells, Pt.slots] at X55 l55 y55 z55 st55 hQ55
      subst l55 y55 z55
      obtain ⟨rfl, N55q, hE55⟩ := hQ55
      have N55 := Fr.app N52 N55q
      refine Wk.go (A' := T55.setTop (mkF m 299 #[iv fl, iv mx, jv bt, .second, iv sp, jv of, .second, iv ln, iv (0 : Int32), iv (1 : Int32), iv ia, iv nn, rv pa, rv hO, iv (126 : Int32)] [])) (fun t k => st55.trans k) ?_
      exact cut299 hO (126 : Int32) p8 T55 T52.heap _ X55 (hE55) N55 Zp52 f53 (own_cell_u pa bt ia nn of mx p8 hpay)
  · rcases hwi01 with rfl | rfl
    · have hpath := hA0
      obtain ⟨T56, h56, X56, e56, E56, A56, D56, -, st56⟩ := newO X16 hx hZ hown (tw2 hw) (tw3 hw) (tw4 hw) e16 (g := (mkF m 129 #[iv fl, iv mx, jv bt, .second, iv sp, jv of, .second, iv ln, iv (1 : Int32), iv (0 : Int32), iv ia, iv nn, rv pa, .unset, .unset] [])) rfl (hb hby at_129) (by decide) (by decide)
      obtain ⟨hO, g56⟩ : ∃ z, z = h16.size := ⟨_, rfl⟩
      rw [← g56] at A56 D56 st56
      have g_hO : n0 ≤ hO := Nat.le_trans Zp16 (Nat.le_of_eq g56.symm)
      have ne_pa_hO : pa ≠ hO := Nat.ne_of_lt (Nat.lt_of_lt_of_le f17.lt (Nat.le_of_eq g56.symm))
      have f57 := f17.ext E56
      have F_bytes_hO : Fld Z h56 hO own_F "bytes" "[B" .null := D56 (Or.inr (tw12 hw)) (ty := (.array .byte)) (by decide)
      have F_masked_hO : Fld Z h56 hO own_F "masked" "Z" (.int (0 : Int32)) := D56 (Or.inr (tw14 hw)) (ty := .boolean) (by decide)
      have F_count_hO : Fld Z h56 hO own_F "count" "I" (.int (0 : Int32)) := D56 (Or.inl (tw22 hw)) (ty := .int) (by decide)
      have F_opcode_hO : Fld Z h56 hO own_F "opcode" "I" (.int (0 : Int32)) := D56 (Or.inl (tw32 hw)) (ty := .int) (by decide)
      have F_last_hO : Fld Z h56 hO own_F "last" "Z" (.int (0 : Int32)) := D56 (Or.inl (tw34 hw)) (ty := .boolean) (by decide)
      have F_open_hO : Fld Z h56 hO own_F "open" "Z" (.int (0 : Int32)) := D56 (Or.inl (tw41 hw)) (ty := .boolean) (by decide)
      have F_length_hO : Fld Z h56 hO own_F "length" "J" (.long (0 : Int64)) := D56 (Or.inl (tw47 hw)) (ty := .long) (by decide)
      have F_maskAt_hO : Fld Z h56 hO own_F "maskAt" "I" (.int (0 : Int32)) := D56 (Or.inl (tw49 hw)) (ty := .int) (by decide)
      have F_messageOpcode_hO : Fld Z h56 hO own_F "messageOpcode" "I" (.int (0 : Int32)) := D56 (Or.inl (tw51 hw)) (ty := .int) (by decide)
      have F_messageBytes_hO : Fld Z h56 hO own_F "messageBytes" "J" (.long (0 : Int64)) := D56 (Or.inl (tw53 hw)) (ty := .long) (by decide)
      have F_dataLength_hO : Fld Z h56 hO own_F "dataLength" "J" (.long (0 : Int64)) := D56 (Or.inl (tw55 hw)) (ty := .long) (by decide)
      have Zp56 : n0 ≤ h56.size := Nat.le_trans Zp16 E56.1
      refine Wk.go (A' := T56.setTop (mkF m 132 #[iv fl, iv mx, jv bt, .second, iv sp, jv of, .second, iv ln, iv (1 : Int32), iv (0 : Int32), iv ia, iv nn, rv pa, .unset, .unset] [(.ref hO)])) (fun t k => st56 t k) ?_
      refine Wk.go (A' := T56.setTop (mkF m 133 #[iv fl, iv mx, jv bt, .second, iv sp, jv of, .second, iv ln, iv (1 : Int32), iv (0 : Int32), iv ia, iv nn, rv pa, .unset, .unset] [(.ref hO), (.ref hO)])) (fun t k => XS.dup X56.here hx rfl (hb hby at_132) rfl rfl k) ?_
      refine Wk.go (A' := T56.setTop (mkF m 135 #[iv fl, iv mx, jv bt, .second, iv sp, jv of, .second, iv ln, iv (1 : Int32), iv (0 : Int32), iv ia, iv nn, rv pa, .unset, .unset] [(.int (1 : Int32)), (.ref hO), (.ref hO)])) (fun t k => XS.iload X56.here hx rfl (hb hby at_133) rfl k) ?_
      obtain ⟨_, _, ⟨T58, L58, k58, n58⟩, -, X58, ⟨Lc58, hQ58, l58, y58, z58⟩, st58⟩ := X56.specialBack hx (y := (⟨own_F, "<init>", "(Z)V"⟩ : MethodName)) rfl hown (mvT hZ (tw5 hw)) (mvT hZ (tw6 hw)) (mvT hZ (tw7 hw)) (by decide) (backOf (W := 1) (rm1 l Z a0 hw [] hO (1 : Int32)  h56 n0 Zp56 A56 F_bytes_hO F_masked_hO F_count_hO F_opcode_hO F_last_hO F_open_hO F_length_hO F_maskAt_hO F_messageOpcode_hO F_messageBytes_hO F_dataLength_hO g_hO) hZ (tw7 hw) (tw4 hw) (by decide) (by decide)) (g := (mkF m 135 #[iv fl, iv mx, jv bt, .second, iv sp, jv of, .second, iv ln, iv (1 : Int32), iv (0 : Int32), iv ia, iv nn, rv pa, .unset, .unset] [(.int (1 : Int32)), (.ref hO), (.ref hO)])) rfl (by rw [hml]; rfl) (Steps.refl _) (a := hO) (argsL := [(.int (1 : Int32))]) (rest := [(.ref hO)]) (lenOf pd_5 rfl) rfl (by show 2 * 0 + _ ≤ _; exact Nat.le_of_eq rfl) (hb hby at_135) (fun _ _ => ⟨rfl, e56, (by decide : 2 + 1 ≤ _), (by decide : 19 + 14 ≤ _)⟩)
      dsimp only [Pt.U, Pt.locs, Pt.cells, Pt.slots] at X58 l58 y58 z58 st58 hQ58
      subst l58 y58 z58
      obtain ⟨rfl, N58q, Kq58, ba, g_ba, bb_ba, Eq58, Fq58_bytes, Fq58_masked, Fq58_count, Fq58_opcode, Fq58_last, Fq58_open, Fq58_length, Fq58_maskAt, Fq58_messageOpcode, Fq58_messageBytes, Fq58_dataLength, Vq58⟩ := hQ58
      have N58 := Fr.app N16 N58q
      have ne_pa_ba : pa ≠ ba := Nat.ne_of_lt (Nat.lt_of_lt_of_le f57.lt bb_ba)
      have ne_hO_ba : hO ≠ ba := Nat.ne_of_lt (Nat.lt_of_lt_of_le A56.lt bb_ba)
      have f59 := f57.keep Kq58 (ninS ne_pa_hO nin0)
      have f60 := A56.keep Kq58
      have Zp58 : n0 ≤ T58.heap.size := Nat.le_trans Zp56 Kq58.1
      refine Wk.go (A' := T58.setTop (mkF m 138 #[iv fl, iv mx, jv bt, .second, iv sp, jv of, .second, iv ln, iv (1 : Int32), iv (0 : Int32), iv ia, iv nn, rv pa, .unset, .unset] [(.ref hO)])) (fun t k => st58.trans k) ?_
      refine Wk.go (A' := T58.setTop (mkF m 140 #[iv fl, iv mx, jv bt, .second, iv sp, jv of, .second, iv ln, iv (1 : Int32), iv (0 : Int32), iv ia, iv nn, rv pa, rv hO, .unset] [])) (fun t k => XS.astore X58.here hx rfl (hb hby at_138) rfl rfl (l' := #[iv fl, iv mx, jv bt, .second, iv sp, jv of, .second, iv ln, iv (1 : Int32), iv (0 : Int32), iv ia, iv nn, rv pa, rv hO, .unset]) rfl k) ?_
      refine Wk.go (A' := T58.setTop (mkF m 142 #[iv fl, iv mx, jv bt, .second, iv sp, jv of, .second, iv ln, iv (1 : Int32), iv (0 : Int32), iv ia, iv nn, rv pa, rv hO, .unset] [(.int (0 : Int32))])) (fun t k => XS.iload X58.here hx rfl (hb hby at_140) rfl k) ?_
      have hc142 : (0 : Int32) = (0 : Int32) := by decide
      refine Wk.go (A' := T58.setTop (mkF m 150 #[iv fl, iv mx, jv bt, .second, iv sp, jv of, .second, iv ln, iv (1 : Int32), iv (0 : Int32), iv ia, iv nn, rv pa, rv hO, .unset] [])) (fun t k => XS.ifYes X58.here hx rfl (pc0 := 142) (pc' := 150) rfl (hb hby at_142) rfl ((if0 _ _).trans (teq hc142).1) (by decide) (by decide) k) ?_
      refine Wk.go (A' := T58.setTop (mkF m 152 #[iv fl, iv mx, jv bt, .second, iv sp, jv of, .second, iv ln, iv (1 : Int32), iv (0 : Int32), iv ia, iv nn, rv pa, rv hO, .unset] [(.int ln)])) (fun t k => XS.iload X58.here hx rfl (hb hby at_150) rfl k) ?_
      refine Wk.go (A' := T58.setTop (mkF m 154 #[iv fl, iv mx, jv bt, .second, iv sp, jv of, .second, iv ln, iv (1 : Int32), iv (0 : Int32), iv ia, iv nn, rv pa, rv hO, .unset] [(.int (127 : Int32)), (.int ln)])) (fun t k => XS.bipush X58.here hx rfl (hb hby at_152) k) ?_
      refine Wk.go (A' := T58.setTop (mkF m 155 #[iv fl, iv mx, jv bt, .second, iv sp, jv of, .second, iv ln, iv (1 : Int32), iv (0 : Int32), iv ia, iv nn, rv pa, rv hO, .unset] [(.int (ln &&& (127 : Int32)))])) (fun t k => XS.iand X58.here hx rfl (hb hby at_154) rfl k) ?_
      refine Wk.go (A' := T58.setTop (mkF m 157 #[iv fl, iv mx, jv bt, .second, iv sp, jv of, .second, iv ln, iv (1 : Int32), iv (0 : Int32), iv ia, iv nn, rv pa, rv hO, .unset] [(.int (126 : Int32)), (.int (ln &&& (127 : Int32)))])) (fun t k => XS.bipush X58.here hx rfl (hb hby at_155) k) ?_
      refine Wk.go (A' := T58.setTop (mkF m 158 #[iv fl, iv mx, jv bt, .second, iv sp, jv of, .second, iv ln, iv (1 : Int32), iv (0 : Int32), iv ia, iv nn, rv pa, rv hO, .unset] [(.int ((ln &&& (127 : Int32)) % (126 : Int32)))])) (fun t k => iremM X58 hx rfl (hb hby at_157) rfl (by decide) k) ?_
      refine Wk.go (A' := T58.setTop (mkF m 160 #[iv fl, iv mx, jv bt, .second, iv sp, jv of, .second, iv ln, iv (1 : Int32), iv (0 : Int32), iv ia, iv nn, rv pa, rv hO, iv ((ln &&& (127 : Int32)) % (126 : Int32))] [])) (fun t k => XS.istore X58.here hx rfl (hb hby at_158) rfl (l' := #[iv fl, iv mx, jv bt, .second, iv sp, jv of, .second, iv ln, iv (1 : Int32), iv (0 : Int32), iv ia, iv nn, rv pa, rv hO, iv ((ln &&& (127 : Int32)) % (126 : Int32))]) rfl k) ?_
      generalize hcd : ((ln &&& (127 : Int32)) % (126 : Int32)) = cd
      obtain ⟨hcd0, hcd1⟩ : 0 ≤ cd.toInt ∧ cd.toInt < 126 := by rw [← hcd]; exact own_cd ln
      refine Wk.go (A' := T58.setTop (mkF m 162 #[iv fl, iv mx, jv bt, .second, iv sp, jv of, .second, iv ln, iv (1 : Int32), iv (0 : Int32), iv ia, iv nn, rv pa, rv hO, iv cd] [(.ref hO)])) (fun t k => XS.aload X58.here hx rfl (hb hby at_160) rfl rfl k) ?_
      refine Wk.go (A' := T58.setTop (mkF m 164 #[iv fl, iv mx, jv bt, .second, iv sp, jv of, .second, iv ln, iv (1 : Int32), iv (0 : Int32), iv ia, iv nn, rv pa, rv hO, iv cd] [(.int (-126 : Int32)), (.ref hO)])) (fun t k => XS.bipush X58.here hx rfl (hb hby at_162) k) ?_
      refine Wk.go (A' := T58.setTop (mkF m 167 #[iv fl, iv mx, jv bt, .second, iv sp, jv of, .second, iv ln, iv (1 : Int32), iv (0 : Int32), iv ia, iv nn, rv pa, rv hO, iv cd] [(.long (9223372036854775807 : Int64)), (.int (-126 : Int32)), (.ref hO)])) (fun t k => X58.ldc2Long hx hown (mvT hZ (tw15 hw)) (g := (mkF m 164 #[iv fl, iv mx, jv bt, .second, iv sp, jv of, .second, iv ln, iv (1 : Int32), iv (0 : Int32), iv ia, iv nn, rv pa, rv hO, iv cd] [(.int (-126 : Int32)), (.ref hO)])) rfl (hb hby at_164) t k) ?_
      obtain ⟨cq61, kq61, q61a, q61b, q61c⟩ := isOf hZ rfl Eq58
      obtain ⟨_, _, ⟨T61, L61, k61, n61⟩, -, X61, ⟨Lc61, hQ61, l61, y61, z61⟩, st61⟩ := X58.virtualBack hx (y := (⟨own_F, "take", "(BJ)Z"⟩ : MethodName)) (z := (⟨own_F, "take", "(BJ)Z"⟩ : MethodName)) hown (mvT hZ (tw16 hw)) (mvT hZ (tw17 hw)) (notFace_of_selects (args := #[]) (mvT hZ (tw19 hw))) (mvT hZ (tw19 hw)) (mvT hZ (tw18 hw)) (by decide) (backOf (W := 0) (rm30m l Z a0 hw [] hO (-126 : Int32) (9223372036854775807 : Int64) ba (fun _ => 0) T58.heap n0 Zp58 Eq58 Fq58_bytes Fq58_masked Fq58_count Fq58_opcode Fq58_last Fq58_open Fq58_length Fq58_maskAt Fq58_messageOpcode Fq58_messageBytes Fq58_dataLength Vq58 ne_hO_ba g_hO g_ba rfl) hZ (tw20 hw) (tw4 hw) (by decide) (by decide)) q61a q61c (g := (mkF m 167 #[iv fl, iv mx, jv bt, .second, iv sp, jv of, .second, iv ln, iv (1 : Int32), iv (0 : Int32), iv ia, iv nn, rv pa, rv hO, iv cd] [(.long (9223372036854775807 : Int64)), (.int (-126 : Int32)), (.ref hO)])) rfl (by rw [hml]; rfl) (Steps.refl _) (argsL := [(.int (-126 : Int32)), (.long (9223372036854775807 : Int64))]) (rest := []) (lenOf pd_6 rfl) rfl (by show 2 * 0 + _ ≤ _; exact Nat.le_of_eq rfl) (hb hby at_167) (fun _ _ => ⟨rfl, rfl, (by decide : 3 + 0 ≤ _), (by decide : 33 + 0 ≤ _)⟩)
      dsimp only [Pt.U, Pt.locs, Pt.cells, Pt.slots] at X61 l61 y61 z61 st61 hQ61
      subst l61 y61 z61
      obtain ⟨rfl, N61q, Kq61, Eq61, Fq61_bytes, Fq61_masked, Fq61_count, Fq61_opcode, Fq61_last, Fq61_open, Fq61_length, Fq61_maskAt, Fq61_messageOpcode, Fq61_messageBytes, Fq61_dataLength, Vq61⟩ := hQ61
      have N61 := Fr.app N58 N61q
      have f62 := f59.keep Kq61 (ninS ne_pa_hO (ninS ne_pa_ba nin0))
      have f63 := Eq58.keep Kq61
      have Zp61 : n0 ≤ T61.heap.size := Nat.le_trans Zp58 Kq61.1
      obtain ⟨g1, hg1⟩ : ∃ z, z = (own_upd (fun _ => 0) 0 ((-126 : Int32)).toInt8.toInt32) := ⟨_, rfl⟩
      have Vr61 : BA Z T61.heap ba 14 g1 := by rw [hg1]; exact Vq61
      refine Wk.go (A' := T61.setTop (mkF m 170 #[iv fl, iv mx, jv bt, .second, iv sp, jv of, .second, iv ln, iv (1 : Int32), iv (0 : Int32), iv ia, iv nn, rv pa, rv hO, iv cd] [(.int (0 : Int32))])) (fun t k => st61.trans k) ?_
      refine Wk.go (A' := T61.setTop (mkF m 171 #[iv fl, iv mx, jv bt, .second, iv sp, jv of, .second, iv ln, iv (1 : Int32), iv (0 : Int32), iv ia, iv nn, rv pa, rv hO, iv cd] [])) (fun t k => XS.pop X61.here hx rfl (hb hby at_170) rfl rfl k) ?_
      refine Wk.go (A' := T61.setTop (mkF m 173 #[iv fl, iv mx, jv bt, .second, iv sp, jv of, .second, iv ln, iv (1 : Int32), iv (0 : Int32), iv ia, iv nn, rv pa, rv hO, iv cd] [(.ref hO)])) (fun t k => XS.aload X61.here hx rfl (hb hby at_171) rfl rfl k) ?_
      refine Wk.go (A' := T61.setTop (mkF m 175 #[iv fl, iv mx, jv bt, .second, iv sp, jv of, .second, iv ln, iv (1 : Int32), iv (0 : Int32), iv ia, iv nn, rv pa, rv hO, iv cd] [(.int (1 : Int32)), (.ref hO)])) (fun t k => XS.iload X61.here hx rfl (hb hby at_173) rfl k) ?_
      have hc175 : ¬ ((1 : Int32) = (0 : Int32)) := by decide
      refine Wk.go (A' := T61.setTop (mkF m 178 #[iv fl, iv mx, jv bt, .second, iv sp, jv of, .second, iv ln, iv (1 : Int32), iv (0 : Int32), iv ia, iv nn, rv pa, rv hO, iv cd] [(.ref hO)])) (fun t k => XS.ifNo X61.here hx rfl (hb hby at_175) rfl ((if0 _ _).trans (feq hc175).1) k) ?_
      refine Wk.go (A' := T61.setTop (mkF m 181 #[iv fl, iv mx, jv bt, .second, iv sp, jv of, .second, iv ln, iv (1 : Int32), iv (0 : Int32), iv ia, iv nn, rv pa, rv hO, iv cd] [(.int (128 : Int32)), (.ref hO)])) (fun t k => XS.sipush X61.here hx rfl (hb hby at_178) k) ?_
      refine Wk.go (A' := T61.setTop (mkF m 185 #[iv fl, iv mx, jv bt, .second, iv sp, jv of, .second, iv ln, iv (1 : Int32), iv (0 : Int32), iv ia, iv nn, rv pa, rv hO, iv cd] [(.int (128 : Int32)), (.ref hO)])) (fun t k => XS.goto X61.here hx rfl (pc0 := 181) (pc' := 185) rfl (hb hby at_181) (by decide) (by decide) k) ?_
      refine Wk.go (A' := T61.setTop (mkF m 187 #[iv fl, iv mx, jv bt, .second, iv sp, jv of, .second, iv ln, iv (1 : Int32), iv (0 : Int32), iv ia, iv nn, rv pa, rv hO, iv cd] [(.int cd), (.int (128 : Int32)), (.ref hO)])) (fun t k => XS.iload X61.here hx rfl (hb hby at_185) rfl k) ?_
      refine Wk.go (A' := T61.setTop (mkF m 188 #[iv fl, iv mx, jv bt, .second, iv sp, jv of, .second, iv ln, iv (1 : Int32), iv (0 : Int32), iv ia, iv nn, rv pa, rv hO, iv cd] [(.int ((128 : Int32) ||| cd)), (.ref hO)])) (fun t k => XS.ior X61.here hx rfl (hb hby at_187) rfl k) ?_
      refine Wk.go (A' := T61.setTop (mkF m 189 #[iv fl, iv mx, jv bt, .second, iv sp, jv of, .second, iv ln, iv (1 : Int32), iv (0 : Int32), iv ia, iv nn, rv pa, rv hO, iv cd] [(.int (((128 : Int32) ||| cd).toInt8.toInt32)), (.ref hO)])) (fun t k => XS.i2b X61.here hx rfl (hb hby at_188) rfl k) ?_
      refine Wk.go (A' := T61.setTop (mkF m 192 #[iv fl, iv mx, jv bt, .second, iv sp, jv of, .second, iv ln, iv (1 : Int32), iv (0 : Int32), iv ia, iv nn, rv pa, rv hO, iv cd] [(.long (9223372036854775807 : Int64)), (.int (((128 : Int32) ||| cd).toInt8.toInt32)), (.ref hO)])) (fun t k => X61.ldc2Long hx hown (mvT hZ (tw15 hw)) (g := (mkF m 189 #[iv fl, iv mx, jv bt, .second, iv sp, jv of, .second, iv ln, iv (1 : Int32), iv (0 : Int32), iv ia, iv nn, rv pa, rv hO, iv cd] [(.int (((128 : Int32) ||| cd).toInt8.toInt32)), (.ref hO)])) rfl (hb hby at_189) t k) ?_
      obtain ⟨cq64, kq64, q64a, q64b, q64c⟩ := isOf hZ rfl Eq61
      obtain ⟨_, _, ⟨T64, L64, k64, n64⟩, -, X64, ⟨Lc64, hQ64, l64, y64, z64⟩, st64⟩ := X61.virtualBack hx (y := (⟨own_F, "take", "(BJ)Z"⟩ : MethodName)) (z := (⟨own_F, "take", "(BJ)Z"⟩ : MethodName)) hown (mvT hZ (tw16 hw)) (mvT hZ (tw17 hw)) (notFace_of_selects (args := #[]) (mvT hZ (tw19 hw))) (mvT hZ (tw19 hw)) (mvT hZ (tw18 hw)) (by decide) (backOf (W := 0) (rm31nm l Z a0 hw [] hO (((128 : Int32) ||| cd).toInt8.toInt32) (9223372036854775807 : Int64) ba g1 T61.heap n0 Zp61 Eq61 Fq61_bytes Fq61_masked Fq61_count Fq61_opcode Fq61_last Fq61_open Fq61_length Fq61_maskAt Fq61_messageOpcode Fq61_messageBytes Fq61_dataLength Vr61 ne_hO_ba g_hO g_ba rfl (by rw [hg1, own_upd_eq]; decide) (own_b1m _ hcd0 hcd1).1 (own_b1m _ hcd0 hcd1).2) hZ (tw20 hw) (tw4 hw) (by decide) (by decide)) q64a q64c (g := (mkF m 192 #[iv fl, iv mx, jv bt, .second, iv sp, jv of, .second, iv ln, iv (1 : Int32), iv (0 : Int32), iv ia, iv nn, rv pa, rv hO, iv cd] [(.long (9223372036854775807 : Int64)), (.int (((128 : Int32) ||| cd).toInt8.toInt32)), (.ref hO)])) rfl (by rw [hml]; rfl) (Steps.refl _) (argsL := [(.int (((128 : Int32) ||| cd).toInt8.toInt32)), (.long (9223372036854775807 : Int64))]) (rest := []) (lenOf pd_6 rfl) rfl (by show 2 * 0 + _ ≤ _; exact Nat.le_of_eq rfl) (hb hby at_192) (fun _ _ => ⟨rfl, rfl, (by decide : 3 + 0 ≤ _), (by decide : 33 + 0 ≤ _)⟩)
      dsimp only [Pt.U, Pt.locs, Pt.cells, Pt.slots] at X64 l64 y64 z64 st64 hQ64
      subst l64 y64 z64
      obtain ⟨ln64, rfl, N64q, Kq64, Eq64, Fq64_bytes, Fq64_masked, Fq64_count, Fq64_opcode, Fq64_last, Fq64_open, Fq64_length, Fq64_maskAt, Fq64_messageOpcode, Fq64_messageBytes, Fq64_dataLength, Vq64⟩ := hQ64
      have N64 := Fr.app N61 N64q
      have f65 := f62.keep Kq64 (ninS ne_pa_hO (ninS ne_pa_ba nin0))
      have f66 := Eq61.keep Kq64
      have Zp64 : n0 ≤ T64.heap.size := Nat.le_trans Zp61 Kq64.1
      obtain ⟨g2, hg2⟩ : ∃ z, z = (own_upd g1 1 ((((128 : Int32) ||| cd).toInt8.toInt32)).toInt8.toInt32) := ⟨_, rfl⟩
      have Vr64 : BA Z T64.heap ba 14 g2 := by rw [hg2]; exact Vq64
      refine Wk.go (A' := T64.setTop (mkF m 195 #[iv fl, iv mx, jv bt, .second, iv sp, jv of, .second, iv ln, iv (1 : Int32), iv (0 : Int32), iv ia, iv nn, rv pa, rv hO, iv cd] [(.int (0 : Int32))])) (fun t k => st64.trans k) ?_
      refine Wk.go (A' := T64.setTop (mkF m 196 #[iv fl, iv mx, jv bt, .second, iv sp, jv of, .second, iv ln, iv (1 : Int32), iv (0 : Int32), iv ia, iv nn, rv pa, rv hO, iv cd] [])) (fun t k => XS.pop X64.here hx rfl (hb hby at_195) rfl rfl k) ?_
      refine Wk.go (A' := T64.setTop (mkF m 198 #[iv fl, iv mx, jv bt, .second, iv sp, jv of, .second, iv ln, iv (1 : Int32), iv (0 : Int32), iv ia, iv nn, rv pa, rv hO, iv cd] [(.int (0 : Int32))])) (fun t k => XS.iload X64.here hx rfl (hb hby at_196) rfl k) ?_
      have hc198 : (0 : Int32) = (0 : Int32) := by decide
      refine Wk.go (A' := T64.setTop (mkF m 228 #[iv fl, iv mx, jv bt, .second, iv sp, jv of, .second, iv ln, iv (1 : Int32), iv (0 : Int32), iv ia, iv nn, rv pa, rv hO, iv cd] [])) (fun t k => XS.ifYes X64.here hx rfl (pc0 := 198) (pc' := 228) rfl (hb hby at_198) rfl ((if0 _ _).trans (teq hc198).1) (by decide) (by decide) k) ?_
      refine Wk.go (A' := T64.setTop (mkF m 230 #[iv fl, iv mx, jv bt, .second, iv sp, jv of, .second, iv ln, iv (1 : Int32), iv (0 : Int32), iv ia, iv nn, rv pa, rv hO, iv cd] [(.int (1 : Int32))])) (fun t k => XS.iload X64.here hx rfl (hb hby at_228) rfl k) ?_
      have hc230 : ¬ ((1 : Int32) = (0 : Int32)) := by decide
      refine Wk.go (A' := T64.setTop (mkF m 233 #[iv fl, iv mx, jv bt, .second, iv sp, jv of, .second, iv ln, iv (1 : Int32), iv (0 : Int32), iv ia, iv nn, rv pa, rv hO, iv cd] [])) (fun t k => XS.ifNo X64.here hx rfl (hb hby at_230) rfl ((if0 _ _).trans (feq hc230).1) k) ?_
      refine Wk.go (A' := T64.setTop (mkF m 235 #[iv fl, iv mx, jv bt, .second, iv sp, jv of, .second, iv ln, iv (1 : Int32), iv (0 : Int32), iv ia, iv nn, rv pa, rv hO, iv cd] [(.ref hO)])) (fun t k => XS.aload X64.here hx rfl (hb hby at_233) rfl rfl k) ?_
      refine Wk.go (A' := T64.setTop (mkF m 236 #[iv fl, iv mx, jv bt, .second, iv sp, jv of, .second, iv ln, iv (1 : Int32), iv (0 : Int32), iv ia, iv nn, rv pa, rv hO, iv cd] [(.int mx), (.ref hO)])) (fun t k => XS.iloadN X64.here hx rfl (hb hby at_235) rfl k) ?_
      refine Wk.go (A' := T64.setTop (mkF m 238 #[iv fl, iv mx, jv bt, .second, iv sp, jv of, .second, iv ln, iv (1 : Int32), iv (0 : Int32), iv ia, iv nn, rv pa, rv hO, iv cd] [(.int (24 : Int32)), (.int mx), (.ref hO)])) (fun t k => XS.bipush X64.here hx rfl (hb hby at_236) k) ?_
      refine Wk.go (A' := T64.setTop (mkF m 239 #[iv fl, iv mx, jv bt, .second, iv sp, jv of, .second, iv ln, iv (1 : Int32), iv (0 : Int32), iv ia, iv nn, rv pa, rv hO, iv cd] [(.int ((mx.toUInt32 >>> ((24 : Int32) &&& 31).toUInt32).toInt32)), (.ref hO)])) (fun t k => XS.iushr X64.here hx rfl (hb hby at_238) rfl k) ?_
      refine Wk.go (A' := T64.setTop (mkF m 240 #[iv fl, iv mx, jv bt, .second, iv sp, jv of, .second, iv ln, iv (1 : Int32), iv (0 : Int32), iv ia, iv nn, rv pa, rv hO, iv cd] [(.int (((mx.toUInt32 >>> ((24 : Int32) &&& 31).toUInt32).toInt32).toInt8.toInt32)), (.ref hO)])) (fun t k => XS.i2b X64.here hx rfl (hb hby at_239) rfl k) ?_
      refine Wk.go (A' := T64.setTop (mkF m 243 #[iv fl, iv mx, jv bt, .second, iv sp, jv of, .second, iv ln, iv (1 : Int32), iv (0 : Int32), iv ia, iv nn, rv pa, rv hO, iv cd] [(.long (9223372036854775807 : Int64)), (.int (((mx.toUInt32 >>> ((24 : Int32) &&& 31).toUInt32).toInt32).toInt8.toInt32)), (.ref hO)])) (fun t k => X64.ldc2Long hx hown (mvT hZ (tw15 hw)) (g := (mkF m 240 #[iv fl, iv mx, jv bt, .second, iv sp, jv of, .second, iv ln, iv (1 : Int32), iv (0 : Int32), iv ia, iv nn, rv pa, rv hO, iv cd] [(.int (((mx.toUInt32 >>> ((24 : Int32) &&& 31).toUInt32).toInt32).toInt8.toInt32)), (.ref hO)])) rfl (hb hby at_240) t k) ?_
      obtain ⟨cq67, kq67, q67a, q67b, q67c⟩ := isOf hZ rfl Eq64
      obtain ⟨_, _, ⟨T67, L67, k67, n67⟩, -, X67, ⟨Lc67, hQ67, l67, y67, z67⟩, st67⟩ := X64.virtualBack hx (y := (⟨own_F, "take", "(BJ)Z"⟩ : MethodName)) (z := (⟨own_F, "take", "(BJ)Z"⟩ : MethodName)) hown (mvT hZ (tw16 hw)) (mvT hZ (tw17 hw)) (notFace_of_selects (args := #[]) (mvT hZ (tw19 hw))) (mvT hZ (tw19 hw)) (mvT hZ (tw18 hw)) (by decide) (backOf (W := 0) (rm3kn l Z a0 hw [] hO (((mx.toUInt32 >>> ((24 : Int32) &&& 31).toUInt32).toInt32).toInt8.toInt32) (9223372036854775807 : Int64) ba g2 ln64 (2 : Int32) T64.heap n0 Zp64 Eq64 Fq64_bytes Fq64_masked Fq64_count Fq64_opcode Fq64_last Fq64_open Fq64_length Fq64_maskAt Fq64_messageOpcode Fq64_messageBytes Fq64_dataLength Vr64 ne_hO_ba g_hO g_ba rfl (by rw [hg2, own_upd_eq]; exact (own_b1m _ hcd0 hcd1).2) (by decide) (by decide) (by decide) (by decide) (by decide) (by decide)) hZ (tw20 hw) (tw4 hw) (by decide) (by decide)) q67a q67c (g := (mkF m 243 #[iv fl, iv mx, jv bt, .second, iv sp, jv of, .second, iv ln, iv (1 : Int32), iv (0 : Int32), iv ia, iv nn, rv pa, rv hO, iv cd] [(.long (9223372036854775807 : Int64)), (.int (((mx.toUInt32 >>> ((24 : Int32) &&& 31).toUInt32).toInt32).toInt8.toInt32)), (.ref hO)])) rfl (by rw [hml]; rfl) (Steps.refl _) (argsL := [(.int (((mx.toUInt32 >>> ((24 : Int32) &&& 31).toUInt32).toInt32).toInt8.toInt32)), (.long (9223372036854775807 : Int64))]) (rest := []) (lenOf pd_6 rfl) rfl (by show 2 * 0 + _ ≤ _; exact Nat.le_of_eq rfl) (hb hby at_243) (fun _ _ => ⟨rfl, rfl, (by decide : 3 + 0 ≤ _), (by decide : 33 + 0 ≤ _)⟩)
      dsimp only [Pt.U, Pt.locs, Pt.cells, Pt.slots] at X67 l67 y67 z67 st67 hQ67
      subst l67 y67 z67
      obtain ⟨rfl, N67q, Kq67, Eq67, Fq67_bytes, Fq67_masked, Fq67_count, Fq67_opcode, Fq67_last, Fq67_open, Fq67_length, Fq67_maskAt, Fq67_messageOpcode, Fq67_messageBytes, Fq67_dataLength, Vq67⟩ := hQ67
      have N67 := Fr.app N64 N67q
      have f68 := f65.keep Kq67 (ninS ne_pa_hO (ninS ne_pa_ba nin0))
      have f69 := Eq64.keep Kq67
      have Zp67 : n0 ≤ T67.heap.size := Nat.le_trans Zp64 Kq67.1
      obtain ⟨g3, hg3⟩ : ∃ z, z = (own_upd g2 2 ((((mx.toUInt32 >>> ((24 : Int32) &&& 31).toUInt32).toInt32).toInt8.toInt32)).toInt8.toInt32) := ⟨_, rfl⟩
      have Vr67 : BA Z T67.heap ba 14 g3 := by rw [hg3]; exact Vq67
      refine Wk.go (A' := T67.setTop (mkF m 246 #[iv fl, iv mx, jv bt, .second, iv sp, jv of, .second, iv ln, iv (1 : Int32), iv (0 : Int32), iv ia, iv nn, rv pa, rv hO, iv cd] [(.int (0 : Int32))])) (fun t k => st67.trans k) ?_
      refine Wk.go (A' := T67.setTop (mkF m 247 #[iv fl, iv mx, jv bt, .second, iv sp, jv of, .second, iv ln, iv (1 : Int32), iv (0 : Int32), iv ia, iv nn, rv pa, rv hO, iv cd] [])) (fun t k => XS.pop X67.here hx rfl (hb hby at_246) rfl rfl k) ?_
      refine Wk.go (A' := T67.setTop (mkF m 249 #[iv fl, iv mx, jv bt, .second, iv sp, jv of, .second, iv ln, iv (1 : Int32), iv (0 : Int32), iv ia, iv nn, rv pa, rv hO, iv cd] [(.ref hO)])) (fun t k => XS.aload X67.here hx rfl (hb hby at_247) rfl rfl k) ?_
      refine Wk.go (A' := T67.setTop (mkF m 250 #[iv fl, iv mx, jv bt, .second, iv sp, jv of, .second, iv ln, iv (1 : Int32), iv (0 : Int32), iv ia, iv nn, rv pa, rv hO, iv cd] [(.int mx), (.ref hO)])) (fun t k => XS.iloadN X67.here hx rfl (hb hby at_249) rfl k) ?_
      refine Wk.go (A' := T67.setTop (mkF m 252 #[iv fl, iv mx, jv bt, .second, iv sp, jv of, .second, iv ln, iv (1 : Int32), iv (0 : Int32), iv ia, iv nn, rv pa, rv hO, iv cd] [(.int (16 : Int32)), (.int mx), (.ref hO)])) (fun t k => XS.bipush X67.here hx rfl (hb hby at_250) k) ?_
      refine Wk.go (A' := T67.setTop (mkF m 253 #[iv fl, iv mx, jv bt, .second, iv sp, jv of, .second, iv ln, iv (1 : Int32), iv (0 : Int32), iv ia, iv nn, rv pa, rv hO, iv cd] [(.int ((mx.toUInt32 >>> ((16 : Int32) &&& 31).toUInt32).toInt32)), (.ref hO)])) (fun t k => XS.iushr X67.here hx rfl (hb hby at_252) rfl k) ?_
      refine Wk.go (A' := T67.setTop (mkF m 254 #[iv fl, iv mx, jv bt, .second, iv sp, jv of, .second, iv ln, iv (1 : Int32), iv (0 : Int32), iv ia, iv nn, rv pa, rv hO, iv cd] [(.int (((mx.toUInt32 >>> ((16 : Int32) &&& 31).toUInt32).toInt32).toInt8.toInt32)), (.ref hO)])) (fun t k => XS.i2b X67.here hx rfl (hb hby at_253) rfl k) ?_
      refine Wk.go (A' := T67.setTop (mkF m 257 #[iv fl, iv mx, jv bt, .second, iv sp, jv of, .second, iv ln, iv (1 : Int32), iv (0 : Int32), iv ia, iv nn, rv pa, rv hO, iv cd] [(.long (9223372036854775807 : Int64)), (.int (((mx.toUInt32 >>> ((16 : Int32) &&& 31).toUInt32).toInt32).toInt8.toInt32)), (.ref hO)])) (fun t k => X67.ldc2Long hx hown (mvT hZ (tw15 hw)) (g := (mkF m 254 #[iv fl, iv mx, jv bt, .second, iv sp, jv of, .second, iv ln, iv (1 : Int32), iv (0 : Int32), iv ia, iv nn, rv pa, rv hO, iv cd] [(.int (((mx.toUInt32 >>> ((16 : Int32) &&& 31).toUInt32).toInt32).toInt8.toInt32)), (.ref hO)])) rfl (hb hby at_254) t k) ?_
      obtain ⟨cq70, kq70, q70a, q70b, q70c⟩ := isOf hZ rfl Eq67
      obtain ⟨_, _, ⟨T70, L70, k70, n70⟩, -, X70, ⟨Lc70, hQ70, l70, y70, z70⟩, st70⟩ := X67.virtualBack hx (y := (⟨own_F, "take", "(BJ)Z"⟩ : MethodName)) (z := (⟨own_F, "take", "(BJ)Z"⟩ : MethodName)) hown (mvT hZ (tw16 hw)) (mvT hZ (tw17 hw)) (notFace_of_selects (args := #[]) (mvT hZ (tw19 hw))) (mvT hZ (tw19 hw)) (mvT hZ (tw18 hw)) (by decide) (backOf (W := 0) (rm3kn l Z a0 hw [] hO (((mx.toUInt32 >>> ((16 : Int32) &&& 31).toUInt32).toInt32).toInt8.toInt32) (9223372036854775807 : Int64) ba g3 ln64 (3 : Int32) T67.heap n0 Zp67 Eq67 Fq67_bytes Fq67_masked Fq67_count Fq67_opcode Fq67_last Fq67_open Fq67_length Fq67_maskAt Fq67_messageOpcode Fq67_messageBytes Fq67_dataLength Vr67 ne_hO_ba g_hO g_ba rfl (by rw [hg3, own_upd_ne _ _ (by decide), hg2, own_upd_eq]; exact (own_b1m _ hcd0 hcd1).2) (by decide) (by decide) (by decide) (by decide) (by decide) (by decide)) hZ (tw20 hw) (tw4 hw) (by decide) (by decide)) q70a q70c (g := (mkF m 257 #[iv fl, iv mx, jv bt, .second, iv sp, jv of, .second, iv ln, iv (1 : Int32), iv (0 : Int32), iv ia, iv nn, rv pa, rv hO, iv cd] [(.long (9223372036854775807 : Int64)), (.int (((mx.toUInt32 >>> ((16 : Int32) &&& 31).toUInt32).toInt32).toInt8.toInt32)), (.ref hO)])) rfl (by rw [hml]; rfl) (Steps.refl _) (argsL := [(.int (((mx.toUInt32 >>> ((16 : Int32) &&& 31).toUInt32).toInt32).toInt8.toInt32)), (.long (9223372036854775807 : Int64))]) (rest := []) (lenOf pd_6 rfl) rfl (by show 2 * 0 + _ ≤ _; exact Nat.le_of_eq rfl) (hb hby at_257) (fun _ _ => ⟨rfl, rfl, (by decide : 3 + 0 ≤ _), (by decide : 33 + 0 ≤ _)⟩)
      dsimp only [Pt.U, Pt.locs, Pt.cells, Pt.slots] at X70 l70 y70 z70 st70 hQ70
      subst l70 y70 z70
      obtain ⟨rfl, N70q, Kq70, Eq70, Fq70_bytes, Fq70_masked, Fq70_count, Fq70_opcode, Fq70_last, Fq70_open, Fq70_length, Fq70_maskAt, Fq70_messageOpcode, Fq70_messageBytes, Fq70_dataLength, Vq70⟩ := hQ70
      have N70 := Fr.app N67 N70q
      have f71 := f68.keep Kq70 (ninS ne_pa_hO (ninS ne_pa_ba nin0))
      have f72 := Eq67.keep Kq70
      have Zp70 : n0 ≤ T70.heap.size := Nat.le_trans Zp67 Kq70.1
      obtain ⟨g4, hg4⟩ : ∃ z, z = (own_upd g3 3 ((((mx.toUInt32 >>> ((16 : Int32) &&& 31).toUInt32).toInt32).toInt8.toInt32)).toInt8.toInt32) := ⟨_, rfl⟩
      have Vr70 : BA Z T70.heap ba 14 g4 := by rw [hg4]; exact Vq70
      refine Wk.go (A' := T70.setTop (mkF m 260 #[iv fl, iv mx, jv bt, .second, iv sp, jv of, .second, iv ln, iv (1 : Int32), iv (0 : Int32), iv ia, iv nn, rv pa, rv hO, iv cd] [(.int (0 : Int32))])) (fun t k => st70.trans k) ?_
      refine Wk.go (A' := T70.setTop (mkF m 261 #[iv fl, iv mx, jv bt, .second, iv sp, jv of, .second, iv ln, iv (1 : Int32), iv (0 : Int32), iv ia, iv nn, rv pa, rv hO, iv cd] [])) (fun t k => XS.pop X70.here hx rfl (hb hby at_260) rfl rfl k) ?_
      refine Wk.go (A' := T70.setTop (mkF m 263 #[iv fl, iv mx, jv bt, .second, iv sp, jv of, .second, iv ln, iv (1 : Int32), iv (0 : Int32), iv ia, iv nn, rv pa, rv hO, iv cd] [(.ref hO)])) (fun t k => XS.aload X70.here hx rfl (hb hby at_261) rfl rfl k) ?_
      refine Wk.go (A' := T70.setTop (mkF m 264 #[iv fl, iv mx, jv bt, .second, iv sp, jv of, .second, iv ln, iv (1 : Int32), iv (0 : Int32), iv ia, iv nn, rv pa, rv hO, iv cd] [(.int mx), (.ref hO)])) (fun t k => XS.iloadN X70.here hx rfl (hb hby at_263) rfl k) ?_
      refine Wk.go (A' := T70.setTop (mkF m 266 #[iv fl, iv mx, jv bt, .second, iv sp, jv of, .second, iv ln, iv (1 : Int32), iv (0 : Int32), iv ia, iv nn, rv pa, rv hO, iv cd] [(.int (8 : Int32)), (.int mx), (.ref hO)])) (fun t k => XS.bipush X70.here hx rfl (hb hby at_264) k) ?_
      refine Wk.go (A' := T70.setTop (mkF m 267 #[iv fl, iv mx, jv bt, .second, iv sp, jv of, .second, iv ln, iv (1 : Int32), iv (0 : Int32), iv ia, iv nn, rv pa, rv hO, iv cd] [(.int ((mx.toUInt32 >>> ((8 : Int32) &&& 31).toUInt32).toInt32)), (.ref hO)])) (fun t k => XS.iushr X70.here hx rfl (hb hby at_266) rfl k) ?_
      refine Wk.go (A' := T70.setTop (mkF m 268 #[iv fl, iv mx, jv bt, .second, iv sp, jv of, .second, iv ln, iv (1 : Int32), iv (0 : Int32), iv ia, iv nn, rv pa, rv hO, iv cd] [(.int (((mx.toUInt32 >>> ((8 : Int32) &&& 31).toUInt32).toInt32).toInt8.toInt32)), (.ref hO)])) (fun t k => XS.i2b X70.here hx rfl (hb hby at_267) rfl k) ?_
      refine Wk.go (A' := T70.setTop (mkF m 271 #[iv fl, iv mx, jv bt, .second, iv sp, jv of, .second, iv ln, iv (1 : Int32), iv (0 : Int32), iv ia, iv nn, rv pa, rv hO, iv cd] [(.long (9223372036854775807 : Int64)), (.int (((mx.toUInt32 >>> ((8 : Int32) &&& 31).toUInt32).toInt32).toInt8.toInt32)), (.ref hO)])) (fun t k => X70.ldc2Long hx hown (mvT hZ (tw15 hw)) (g := (mkF m 268 #[iv fl, iv mx, jv bt, .second, iv sp, jv of, .second, iv ln, iv (1 : Int32), iv (0 : Int32), iv ia, iv nn, rv pa, rv hO, iv cd] [(.int (((mx.toUInt32 >>> ((8 : Int32) &&& 31).toUInt32).toInt32).toInt8.toInt32)), (.ref hO)])) rfl (hb hby at_268) t k) ?_
      obtain ⟨cq73, kq73, q73a, q73b, q73c⟩ := isOf hZ rfl Eq70
      obtain ⟨_, _, ⟨T73, L73, k73, n73⟩, -, X73, ⟨Lc73, hQ73, l73, y73, z73⟩, st73⟩ := X70.virtualBack hx (y := (⟨own_F, "take", "(BJ)Z"⟩ : MethodName)) (z := (⟨own_F, "take", "(BJ)Z"⟩ : MethodName)) hown (mvT hZ (tw16 hw)) (mvT hZ (tw17 hw)) (notFace_of_selects (args := #[]) (mvT hZ (tw19 hw))) (mvT hZ (tw19 hw)) (mvT hZ (tw18 hw)) (by decide) (backOf (W := 0) (rm3kn l Z a0 hw [] hO (((mx.toUInt32 >>> ((8 : Int32) &&& 31).toUInt32).toInt32).toInt8.toInt32) (9223372036854775807 : Int64) ba g4 ln64 (4 : Int32) T70.heap n0 Zp70 Eq70 Fq70_bytes Fq70_masked Fq70_count Fq70_opcode Fq70_last Fq70_open Fq70_length Fq70_maskAt Fq70_messageOpcode Fq70_messageBytes Fq70_dataLength Vr70 ne_hO_ba g_hO g_ba rfl (by rw [hg4, own_upd_ne _ _ (by decide), hg3, own_upd_ne _ _ (by decide), hg2, own_upd_eq]; exact (own_b1m _ hcd0 hcd1).2) (by decide) (by decide) (by decide) (by decide) (by decide) (by decide)) hZ (tw20 hw) (tw4 hw) (by decide) (by decide)) q73a q73c (g := (mkF m 271 #[iv fl, iv mx, jv bt, .second, iv sp, jv of, .second, iv ln, iv (1 : Int32), iv (0 : Int32), iv ia, iv nn, rv pa, rv hO, iv cd] [(.long (9223372036854775807 : Int64)), (.int (((mx.toUInt32 >>> ((8 : Int32) &&& 31).toUInt32).toInt32).toInt8.toInt32)), (.ref hO)])) rfl (by rw [hml]; rfl) (Steps.refl _) (argsL := [(.int (((mx.toUInt32 >>> ((8 : Int32) &&& 31).toUInt32).toInt32).toInt8.toInt32)), (.long (9223372036854775807 : Int64))]) (rest := []) (lenOf pd_6 rfl) rfl (by show 2 * 0 + _ ≤ _; exact Nat.le_of_eq rfl) (hb hby at_271) (fun _ _ => ⟨rfl, rfl, (by decide : 3 + 0 ≤ _), (by decide : 33 + 0 ≤ _)⟩)
      dsimp only [Pt.U, Pt.locs, Pt.cells, Pt.slots] at X73 l73 y73 z73 st73 hQ73
      subst l73 y73 z73
      obtain ⟨rfl, N73q, Kq73, Eq73, Fq73_bytes, Fq73_masked, Fq73_count, Fq73_opcode, Fq73_last, Fq73_open, Fq73_length, Fq73_maskAt, Fq73_messageOpcode, Fq73_messageBytes, Fq73_dataLength, Vq73⟩ := hQ73
      have N73 := Fr.app N70 N73q
      have f74 := f71.keep Kq73 (ninS ne_pa_hO (ninS ne_pa_ba nin0))
      have f75 := Eq70.keep Kq73
      have Zp73 : n0 ≤ T73.heap.size := Nat.le_trans Zp70 Kq73.1
      obtain ⟨g5, hg5⟩ : ∃ z, z = (own_upd g4 4 ((((mx.toUInt32 >>> ((8 : Int32) &&& 31).toUInt32).toInt32).toInt8.toInt32)).toInt8.toInt32) := ⟨_, rfl⟩
      have Vr73 : BA Z T73.heap ba 14 g5 := by rw [hg5]; exact Vq73
      refine Wk.go (A' := T73.setTop (mkF m 274 #[iv fl, iv mx, jv bt, .second, iv sp, jv of, .second, iv ln, iv (1 : Int32), iv (0 : Int32), iv ia, iv nn, rv pa, rv hO, iv cd] [(.int (0 : Int32))])) (fun t k => st73.trans k) ?_
      refine Wk.go (A' := T73.setTop (mkF m 275 #[iv fl, iv mx, jv bt, .second, iv sp, jv of, .second, iv ln, iv (1 : Int32), iv (0 : Int32), iv ia, iv nn, rv pa, rv hO, iv cd] [])) (fun t k => XS.pop X73.here hx rfl (hb hby at_274) rfl rfl k) ?_
      refine Wk.go (A' := T73.setTop (mkF m 277 #[iv fl, iv mx, jv bt, .second, iv sp, jv of, .second, iv ln, iv (1 : Int32), iv (0 : Int32), iv ia, iv nn, rv pa, rv hO, iv cd] [(.ref hO)])) (fun t k => XS.aload X73.here hx rfl (hb hby at_275) rfl rfl k) ?_
      refine Wk.go (A' := T73.setTop (mkF m 278 #[iv fl, iv mx, jv bt, .second, iv sp, jv of, .second, iv ln, iv (1 : Int32), iv (0 : Int32), iv ia, iv nn, rv pa, rv hO, iv cd] [(.int mx), (.ref hO)])) (fun t k => XS.iloadN X73.here hx rfl (hb hby at_277) rfl k) ?_
      refine Wk.go (A' := T73.setTop (mkF m 279 #[iv fl, iv mx, jv bt, .second, iv sp, jv of, .second, iv ln, iv (1 : Int32), iv (0 : Int32), iv ia, iv nn, rv pa, rv hO, iv cd] [(.int (mx.toInt8.toInt32)), (.ref hO)])) (fun t k => XS.i2b X73.here hx rfl (hb hby at_278) rfl k) ?_
      refine Wk.go (A' := T73.setTop (mkF m 282 #[iv fl, iv mx, jv bt, .second, iv sp, jv of, .second, iv ln, iv (1 : Int32), iv (0 : Int32), iv ia, iv nn, rv pa, rv hO, iv cd] [(.long (9223372036854775807 : Int64)), (.int (mx.toInt8.toInt32)), (.ref hO)])) (fun t k => X73.ldc2Long hx hown (mvT hZ (tw15 hw)) (g := (mkF m 279 #[iv fl, iv mx, jv bt, .second, iv sp, jv of, .second, iv ln, iv (1 : Int32), iv (0 : Int32), iv ia, iv nn, rv pa, rv hO, iv cd] [(.int (mx.toInt8.toInt32)), (.ref hO)])) rfl (hb hby at_279) t k) ?_
      obtain ⟨cq76, kq76, q76a, q76b, q76c⟩ := isOf hZ rfl Eq73
      obtain ⟨_, _, ⟨T76, L76, k76, n76⟩, -, X76, ⟨Lc76, hQ76, l76, y76, z76⟩, st76⟩ := X73.virtualBack hx (y := (⟨own_F, "take", "(BJ)Z"⟩ : MethodName)) (z := (⟨own_F, "take", "(BJ)Z"⟩ : MethodName)) hown (mvT hZ (tw16 hw)) (mvT hZ (tw17 hw)) (notFace_of_selects (args := #[]) (mvT hZ (tw19 hw))) (mvT hZ (tw19 hw)) (mvT hZ (tw18 hw)) (by decide) (backOf (W := 0) (rm3ln l Z a0 hw [] hO (mx.toInt8.toInt32) (9223372036854775807 : Int64) ba g5 ln64 (5 : Int32) T73.heap n0 Zp73 Eq73 Fq73_bytes Fq73_masked Fq73_count Fq73_opcode Fq73_last Fq73_open Fq73_length Fq73_maskAt Fq73_messageOpcode Fq73_messageBytes Fq73_dataLength Vr73 ne_hO_ba g_hO g_ba rfl (by rw [hg5, own_upd_ne _ _ (by decide), hg4, own_upd_ne _ _ (by decide), hg3, own_upd_ne _ _ (by decide), hg2, own_upd_eq]; exact (own_b1m _ hcd0 hcd1).2) (by decide) (by decide) (by decide) (by decide) (by decide) (by decide)) hZ (tw20 hw) (tw4 hw) (by decide) (by decide)) q76a q76c (g := (mkF m 282 #[iv fl, iv mx, jv bt, .second, iv sp, jv of, .second, iv ln, iv (1 : Int32), iv (0 : Int32), iv ia, iv nn, rv pa, rv hO, iv cd] [(.long (9223372036854775807 : Int64)), (.int (mx.toInt8.toInt32)), (.ref hO)])) rfl (by rw [hml]; rfl) (Steps.refl _) (argsL := [(.int (mx.toInt8.toInt32)), (.long (9223372036854775807 : Int64))]) (rest := []) (lenOf pd_6 rfl) rfl (by show 2 * 0 + _ ≤ _; exact Nat.le_of_eq rfl) (hb hby at_282) (fun _ _ => ⟨rfl, rfl, (by decide : 3 + 0 ≤ _), (by decide : 33 + 0 ≤ _)⟩)
      dsimp only [Pt.U, Pt.locs, Pt.cells, Pt.slots] at X76 l76 y76 z76 st76 hQ76
      subst l76 y76 z76
      obtain ⟨rfl, N76q, Kq76, Eq76, Fq76_bytes, Fq76_masked, Fq76_count, Fq76_opcode, Fq76_last, Fq76_open, Fq76_length, Fq76_maskAt, Fq76_messageOpcode, Fq76_messageBytes, Fq76_dataLength, Vq76⟩ := hQ76
      have N76 := Fr.app N73 N76q
      have f77 := f74.keep Kq76 (ninS ne_pa_hO (ninS ne_pa_ba nin0))
      have f78 := Eq73.keep Kq76
      have Zp76 : n0 ≤ T76.heap.size := Nat.le_trans Zp73 Kq76.1
      obtain ⟨g6, hg6⟩ : ∃ z, z = (own_upd g5 5 ((mx.toInt8.toInt32)).toInt8.toInt32) := ⟨_, rfl⟩
      have Vr76 : BA Z T76.heap ba 14 g6 := by rw [hg6]; exact Vq76
      refine Wk.go (A' := T76.setTop (mkF m 285 #[iv fl, iv mx, jv bt, .second, iv sp, jv of, .second, iv ln, iv (1 : Int32), iv (0 : Int32), iv ia, iv nn, rv pa, rv hO, iv cd] [(.int (1 : Int32))])) (fun t k => st76.trans k) ?_
      refine Wk.go (A' := T76.setTop (mkF m 286 #[iv fl, iv mx, jv bt, .second, iv sp, jv of, .second, iv ln, iv (1 : Int32), iv (0 : Int32), iv ia, iv nn, rv pa, rv hO, iv cd] [])) (fun t k => XS.pop X76.here hx rfl (hb hby at_285) rfl rfl k) ?_
      refine Wk.go (A' := T76.setTop (mkF m 288 #[iv fl, iv mx, jv bt, .second, iv sp, jv of, .second, iv ln, iv (1 : Int32), iv (0 : Int32), iv ia, iv nn, rv pa, rv hO, iv cd] [(.ref hO)])) (fun t k => XS.aload X76.here hx rfl (hb hby at_286) rfl rfl k) ?_
      refine Wk.go (A' := T76.setTop (mkF m 290 #[iv fl, iv mx, jv bt, .second, iv sp, jv of, .second, iv ln, iv (1 : Int32), iv (0 : Int32), iv ia, iv nn, rv pa, rv hO, iv cd] [(.ref pa), (.ref hO)])) (fun t k => XS.aload X76.here hx rfl (hb hby at_288) rfl rfl k) ?_
      refine Wk.go (A' := T76.setTop (mkF m 292 #[iv fl, iv mx, jv bt, .second, iv sp, jv of, .second, iv ln, iv (1 : Int32), iv (0 : Int32), iv ia, iv nn, rv pa, rv hO, iv cd] [(.int ia), (.ref pa), (.ref hO)])) (fun t k => XS.iload X76.here hx rfl (hb hby at_290) rfl k) ?_
      refine Wk.go (A' := T76.setTop (mkF m 294 #[iv fl, iv mx, jv bt, .second, iv sp, jv of, .second, iv ln, iv (1 : Int32), iv (0 : Int32), iv ia, iv nn, rv pa, rv hO, iv cd] [(.int nn), (.int ia), (.ref pa), (.ref hO)])) (fun t k => XS.iload X76.here hx rfl (hb hby at_292) rfl k) ?_
      refine Wk.go (A' := T76.setTop (mkF m 296 #[iv fl, iv mx, jv bt, .second, iv sp, jv of, .second, iv ln, iv (1 : Int32), iv (0 : Int32), iv ia, iv nn, rv pa, rv hO, iv cd] [(.long of), (.int nn), (.int ia), (.ref pa), (.ref hO)])) (fun t k => XS.lload X76.here hx rfl (hb hby at_294) rfl k) ?_
      obtain ⟨cq79, kq79, q79a, q79b, q79c⟩ := isOf hZ rfl Eq76
      obtain ⟨_, _, ⟨T79, L79, k79, n79⟩, -, X79, ⟨Lc79, hQ79, l79, y79, z79⟩, st79⟩ := X76.virtualBack hx (y := (⟨own_F, "unmask", "([BIIJ)V"⟩ : MethodName)) (z := (⟨own_F, "unmask", "([BIIJ)V"⟩ : MethodName)) hown (mvT hZ (tw56 hw)) (mvT hZ (tw57 hw)) (notFace_of_selects (args := #[]) (mvT hZ (tw59 hw))) (mvT hZ (tw59 hw)) (mvT hZ (tw58 hw)) (by decide) (backOf (W := 0) (rm8m l Z a0 hw [] hO pa ia nn of ba g6 p8 (2 : Int32) T76.heap n0 Zp76 Fq76_masked Fq76_bytes Fq76_maskAt Vr76 f77 (Ne.symm ne_pa_hO) (Ne.symm ne_pa_ba) g_pa hA0 hn0 hn5 hsum (by decide) (by decide)) hZ (tw60 hw) (tw4 hw) (by decide) (by decide)) q79a q79c (g := (mkF m 296 #[iv fl, iv mx, jv bt, .second, iv sp, jv of, .second, iv ln, iv (1 : Int32), iv (0 : Int32), iv ia, iv nn, rv pa, rv hO, iv cd] [(.long of), (.int nn), (.int ia), (.ref pa), (.ref hO)])) rfl (by rw [hml]; rfl) (Steps.refl _) (argsL := [(.ref pa), (.int ia), (.int nn), (.long of)]) (rest := []) (lenOf pd_7 rfl) rfl (by show 2 * 0 + _ ≤ _; exact Nat.le_of_eq rfl) (hb hby at_296) (fun _ _ => ⟨rfl, rfl, (by decide : 3 + 0 ≤ _), (by decide : 33 + 0 ≤ _)⟩)
      dsimp only [Pt.U, Pt.locs, Pt.cells, Pt.slots] at X79 l79 y79 z79 st79 hQ79
      subst l79 y79 z79
      obtain ⟨rfl, N79q, Kq79, Vq79⟩ := hQ79
      have N79 := Fr.app N76 N79q
      have f80 := Eq76.keep Kq79
      have f81 := Fq76_bytes.keep Kq79 (ninS (Ne.symm ne_pa_hO) nin0)
      have f82 := Fq76_masked.keep Kq79 (ninS (Ne.symm ne_pa_hO) nin0)
      have f83 := Fq76_count.keep Kq79 (ninS (Ne.symm ne_pa_hO) nin0)
      have f84 := Fq76_opcode.keep Kq79 (ninS (Ne.symm ne_pa_hO) nin0)
      have f85 := Fq76_last.keep Kq79 (ninS (Ne.symm ne_pa_hO) nin0)
      have f86 := Fq76_open.keep Kq79 (ninS (Ne.symm ne_pa_hO) nin0)
      have f87 := Fq76_length.keep Kq79 (ninS (Ne.symm ne_pa_hO) nin0)
      have f88 := Fq76_maskAt.keep Kq79 (ninS (Ne.symm ne_pa_hO) nin0)
      have f89 := Fq76_messageOpcode.keep Kq79 (ninS (Ne.symm ne_pa_hO) nin0)
      have f90 := Fq76_messageBytes.keep Kq79 (ninS (Ne.symm ne_pa_hO) nin0)
      have f91 := Fq76_dataLength.keep Kq79 (ninS (Ne.symm ne_pa_hO) nin0)
      have f92 := Vr76.keep Kq79 (ninS (Ne.symm ne_pa_ba) nin0)
      have Zp79 : n0 ≤ T79.heap.size := Nat.le_trans Zp76 Kq79.1
      obtain ⟨fU, hfU⟩ : ∃ z, z = own_un p8 g6 ((2 : Int32)) ia of nn := ⟨_, rfl⟩
      rw [← hfU] at Vq79
      refine Wk.go (A' := T79.setTop (mkF m 299 #[iv fl, iv mx, jv bt, .second, iv sp, jv of, .second, iv ln, iv (1 : Int32), iv (0 : Int32), iv ia, iv nn, rv pa, rv hO, iv cd] [])) (fun t k => st79.trans k) ?_
      exact cut299 hO cd fU T79 T79.heap _ X79 rfl N79 Zp79 Vq79 (own_cell_m pa bt of mx (2 : Int32) p8 _ fU hA0 hn0 hsum hpay hfU (own_keys 2 (by decide) mx _ (by simp [hg6, hg5, hg4, hg3, hg2, hg1, own_upd]) (by simp [hg6, hg5, hg4, hg3, hg2, hg1, own_upd]) (by simp [hg6, hg5, hg4, hg3, hg2, hg1, own_upd]) (by simp [hg6, hg5, hg4, hg3, hg2, hg1, own_upd])))
    · have hpath := hA0
      obtain ⟨T93, h93, X93, e93, E93, A93, D93, -, st93⟩ := newO X16 hx hZ hown (tw2 hw) (tw3 hw) (tw4 hw) e16 (g := (mkF m 129 #[iv fl, iv mx, jv bt, .second, iv sp, jv of, .second, iv ln, iv (1 : Int32), iv (1 : Int32), iv ia, iv nn, rv pa, .unset, .unset] [])) rfl (hb hby at_129) (by decide) (by decide)
      obtain ⟨hO, g93⟩ : ∃ z, z = h16.size := ⟨_, rfl⟩
      rw [← g93] at A93 D93 st93
      have g_hO : n0 ≤ hO := Nat.le_trans Zp16 (Nat.le_of_eq g93.symm)
      have ne_pa_hO : pa ≠ hO := Nat.ne_of_lt (Nat.lt_of_lt_of_le f17.lt (Nat.le_of_eq g93.symm))
      have f94 := f17.ext E93
      have F_bytes_hO : Fld Z h93 hO own_F "bytes" "[B" .null := D93 (Or.inr (tw12 hw)) (ty := (.array .byte)) (by decide)
      have F_masked_hO : Fld Z h93 hO own_F "masked" "Z" (.int (0 : Int32)) := D93 (Or.inr (tw14 hw)) (ty := .boolean) (by decide)
      have F_count_hO : Fld Z h93 hO own_F "count" "I" (.int (0 : Int32)) := D93 (Or.inl (tw22 hw)) (ty := .int) (by decide)
      have F_opcode_hO : Fld Z h93 hO own_F "opcode" "I" (.int (0 : Int32)) := D93 (Or.inl (tw32 hw)) (ty := .int) (by decide)
      have F_last_hO : Fld Z h93 hO own_F "last" "Z" (.int (0 : Int32)) := D93 (Or.inl (tw34 hw)) (ty := .boolean) (by decide)
      have F_open_hO : Fld Z h93 hO own_F "open" "Z" (.int (0 : Int32)) := D93 (Or.inl (tw41 hw)) (ty := .boolean) (by decide)
      have F_length_hO : Fld Z h93 hO own_F "length" "J" (.long (0 : Int64)) := D93 (Or.inl (tw47 hw)) (ty := .long) (by decide)
      have F_maskAt_hO : Fld Z h93 hO own_F "maskAt" "I" (.int (0 : Int32)) := D93 (Or.inl (tw49 hw)) (ty := .int) (by decide)
      have F_messageOpcode_hO : Fld Z h93 hO own_F "messageOpcode" "I" (.int (0 : Int32)) := D93 (Or.inl (tw51 hw)) (ty := .int) (by decide)
      have F_messageBytes_hO : Fld Z h93 hO own_F "messageBytes" "J" (.long (0 : Int64)) := D93 (Or.inl (tw53 hw)) (ty := .long) (by decide)
      have F_dataLength_hO : Fld Z h93 hO own_F "dataLength" "J" (.long (0 : Int64)) := D93 (Or.inl (tw55 hw)) (ty := .long) (by decide)
      have Zp93 : n0 ≤ h93.size := Nat.le_trans Zp16 E93.1
      refine Wk.go (A' := T93.setTop (mkF m 132 #[iv fl, iv mx, jv bt, .second, iv sp, jv of, .second, iv ln, iv (1 : Int32), iv (1 : Int32), iv ia, iv nn, rv pa, .unset, .unset] [(.ref hO)])) (fun t k => st93 t k) ?_
      refine Wk.go (A' := T93.setTop (mkF m 133 #[iv fl, iv mx, jv bt, .second, iv sp, jv of, .second, iv ln, iv (1 : Int32), iv (1 : Int32), iv ia, iv nn, rv pa, .unset, .unset] [(.ref hO), (.ref hO)])) (fun t k => XS.dup X93.here hx rfl (hb hby at_132) rfl rfl k) ?_
      refine Wk.go (A' := T93.setTop (mkF m 135 #[iv fl, iv mx, jv bt, .second, iv sp, jv of, .second, iv ln, iv (1 : Int32), iv (1 : Int32), iv ia, iv nn, rv pa, .unset, .unset] [(.int (1 : Int32)), (.ref hO), (.ref hO)])) (fun t k => XS.iload X93.here hx rfl (hb hby at_133) rfl k) ?_
      obtain ⟨_, _, ⟨T95, L95, k95, n95⟩, -, X95, ⟨Lc95, hQ95, l95, y95, z95⟩, st95⟩ := X93.specialBack hx (y := (⟨own_F, "<init>", "(Z)V"⟩ : MethodName)) rfl hown (mvT hZ (tw5 hw)) (mvT hZ (tw6 hw)) (mvT hZ (tw7 hw)) (by decide) (backOf (W := 1) (rm1 l Z a0 hw [] hO (1 : Int32)  h93 n0 Zp93 A93 F_bytes_hO F_masked_hO F_count_hO F_opcode_hO F_last_hO F_open_hO F_length_hO F_maskAt_hO F_messageOpcode_hO F_messageBytes_hO F_dataLength_hO g_hO) hZ (tw7 hw) (tw4 hw) (by decide) (by decide)) (g := (mkF m 135 #[iv fl, iv mx, jv bt, .second, iv sp, jv of, .second, iv ln, iv (1 : Int32), iv (1 : Int32), iv ia, iv nn, rv pa, .unset, .unset] [(.int (1 : Int32)), (.ref hO), (.ref hO)])) rfl (by rw [hml]; rfl) (Steps.refl _) (a := hO) (argsL := [(.int (1 : Int32))]) (rest := [(.ref hO)]) (lenOf pd_5 rfl) rfl (by show 2 * 0 + _ ≤ _; exact Nat.le_of_eq rfl) (hb hby at_135) (fun _ _ => ⟨rfl, e93, (by decide : 2 + 1 ≤ _), (by decide : 19 + 14 ≤ _)⟩)
      dsimp only [Pt.U, Pt.locs, Pt.cells, Pt.slots] at X95 l95 y95 z95 st95 hQ95
      subst l95 y95 z95
      obtain ⟨rfl, N95q, Kq95, ba, g_ba, bb_ba, Eq95, Fq95_bytes, Fq95_masked, Fq95_count, Fq95_opcode, Fq95_last, Fq95_open, Fq95_length, Fq95_maskAt, Fq95_messageOpcode, Fq95_messageBytes, Fq95_dataLength, Vq95⟩ := hQ95
      have N95 := Fr.app N16 N95q
      have ne_pa_ba : pa ≠ ba := Nat.ne_of_lt (Nat.lt_of_lt_of_le f94.lt bb_ba)
      have ne_hO_ba : hO ≠ ba := Nat.ne_of_lt (Nat.lt_of_lt_of_le A93.lt bb_ba)
      have f96 := f94.keep Kq95 (ninS ne_pa_hO nin0)
      have f97 := A93.keep Kq95
      have Zp95 : n0 ≤ T95.heap.size := Nat.le_trans Zp93 Kq95.1
      refine Wk.go (A' := T95.setTop (mkF m 138 #[iv fl, iv mx, jv bt, .second, iv sp, jv of, .second, iv ln, iv (1 : Int32), iv (1 : Int32), iv ia, iv nn, rv pa, .unset, .unset] [(.ref hO)])) (fun t k => st95.trans k) ?_
      refine Wk.go (A' := T95.setTop (mkF m 140 #[iv fl, iv mx, jv bt, .second, iv sp, jv of, .second, iv ln, iv (1 : Int32), iv (1 : Int32), iv ia, iv nn, rv pa, rv hO, .unset] [])) (fun t k => XS.astore X95.here hx rfl (hb hby at_138) rfl rfl (l' := #[iv fl, iv mx, jv bt, .second, iv sp, jv of, .second, iv ln, iv (1 : Int32), iv (1 : Int32), iv ia, iv nn, rv pa, rv hO, .unset]) rfl k) ?_
      refine Wk.go (A' := T95.setTop (mkF m 142 #[iv fl, iv mx, jv bt, .second, iv sp, jv of, .second, iv ln, iv (1 : Int32), iv (1 : Int32), iv ia, iv nn, rv pa, rv hO, .unset] [(.int (1 : Int32))])) (fun t k => XS.iload X95.here hx rfl (hb hby at_140) rfl k) ?_
      have hc142 : ¬ ((1 : Int32) = (0 : Int32)) := by decide
      refine Wk.go (A' := T95.setTop (mkF m 145 #[iv fl, iv mx, jv bt, .second, iv sp, jv of, .second, iv ln, iv (1 : Int32), iv (1 : Int32), iv ia, iv nn, rv pa, rv hO, .unset] [])) (fun t k => XS.ifNo X95.here hx rfl (hb hby at_142) rfl ((if0 _ _).trans (feq hc142).1) k) ?_
      refine Wk.go (A' := T95.setTop (mkF m 147 #[iv fl, iv mx, jv bt, .second, iv sp, jv of, .second, iv ln, iv (1 : Int32), iv (1 : Int32), iv ia, iv nn, rv pa, rv hO, .unset] [(.int (126 : Int32))])) (fun t k => XS.bipush X95.here hx rfl (hb hby at_145) k) ?_
      refine Wk.go (A' := T95.setTop (mkF m 158 #[iv fl, iv mx, jv bt, .second, iv sp, jv of, .second, iv ln, iv (1 : Int32), iv (1 : Int32), iv ia, iv nn, rv pa, rv hO, .unset] [(.int (126 : Int32))])) (fun t k => XS.goto X95.here hx rfl (pc0 := 147) (pc' := 158) rfl (hb hby at_147) (by decide) (by decide) k) ?_
      refine Wk.go (A' := T95.setTop (mkF m 160 #[iv fl, iv mx, jv bt, .second, iv sp, jv of, .second, iv ln, iv (1 : Int32), iv (1 : Int32), iv ia, iv nn, rv pa, rv hO, iv (126 : Int32)] [])) (fun t k => XS.istore X95.here hx rfl (hb hby at_158) rfl (l' := #[iv fl, iv mx, jv bt, .second, iv sp, jv of, .second, iv ln, iv (1 : Int32), iv (1 : Int32), iv ia, iv nn, rv pa, rv hO, iv (126 : Int32)]) rfl k) ?_
      refine Wk.go (A' := T95.setTop (mkF m 162 #[iv fl, iv mx, jv bt, .second, iv sp, jv of, .second, iv ln, iv (1 : Int32), iv (1 : Int32), iv ia, iv nn, rv pa, rv hO, iv (126 : Int32)] [(.ref hO)])) (fun t k => XS.aload X95.here hx rfl (hb hby at_160) rfl rfl k) ?_
      refine Wk.go (A' := T95.setTop (mkF m 164 #[iv fl, iv mx, jv bt, .second, iv sp, jv of, .second, iv ln, iv (1 : Int32), iv (1 : Int32), iv ia, iv nn, rv pa, rv hO, iv (126 : Int32)] [(.int (-126 : Int32)), (.ref hO)])) (fun t k => XS.bipush X95.here hx rfl (hb hby at_162) k) ?_
      refine Wk.go (A' := T95.setTop (mkF m 167 #[iv fl, iv mx, jv bt, .second, iv sp, jv of, .second, iv ln, iv (1 : Int32), iv (1 : Int32), iv ia, iv nn, rv pa, rv hO, iv (126 : Int32)] [(.long (9223372036854775807 : Int64)), (.int (-126 : Int32)), (.ref hO)])) (fun t k => X95.ldc2Long hx hown (mvT hZ (tw15 hw)) (g := (mkF m 164 #[iv fl, iv mx, jv bt, .second, iv sp, jv of, .second, iv ln, iv (1 : Int32), iv (1 : Int32), iv ia, iv nn, rv pa, rv hO, iv (126 : Int32)] [(.int (-126 : Int32)), (.ref hO)])) rfl (hb hby at_164) t k) ?_
      obtain ⟨cq98, kq98, q98a, q98b, q98c⟩ := isOf hZ rfl Eq95
      obtain ⟨_, _, ⟨T98, L98, k98, n98⟩, -, X98, ⟨Lc98, hQ98, l98, y98, z98⟩, st98⟩ := X95.virtualBack hx (y := (⟨own_F, "take", "(BJ)Z"⟩ : MethodName)) (z := (⟨own_F, "take", "(BJ)Z"⟩ : MethodName)) hown (mvT hZ (tw16 hw)) (mvT hZ (tw17 hw)) (notFace_of_selects (args := #[]) (mvT hZ (tw19 hw))) (mvT hZ (tw19 hw)) (mvT hZ (tw18 hw)) (by decide) (backOf (W := 0) (rm30m l Z a0 hw [] hO (-126 : Int32) (9223372036854775807 : Int64) ba (fun _ => 0) T95.heap n0 Zp95 Eq95 Fq95_bytes Fq95_masked Fq95_count Fq95_opcode Fq95_last Fq95_open Fq95_length Fq95_maskAt Fq95_messageOpcode Fq95_messageBytes Fq95_dataLength Vq95 ne_hO_ba g_hO g_ba rfl) hZ (tw20 hw) (tw4 hw) (by decide) (by decide)) q98a q98c (g := (mkF m 167 #[iv fl, iv mx, jv bt, .second, iv sp, jv of, .second, iv ln, iv (1 : Int32), iv (1 : Int32), iv ia, iv nn, rv pa, rv hO, iv (126 : Int32)] [(.long (9223372036854775807 : Int64)), (.int (-126 : Int32)), (.ref hO)])) rfl (by rw [hml]; rfl) (Steps.refl _) (argsL := [(.int (-126 : Int32)), (.long (9223372036854775807 : Int64))]) (rest := []) (lenOf pd_6 rfl) rfl (by show 2 * 0 + _ ≤ _; exact Nat.le_of_eq rfl) (hb hby at_167) (fun _ _ => ⟨rfl, rfl, (by decide : 3 + 0 ≤ _), (by decide : 33 + 0 ≤ _)⟩)
      dsimp only [Pt.U, Pt.locs, Pt.cells, Pt.slots] at X98 l98 y98 z98 st98 hQ98
      subst l98 y98 z98
      obtain ⟨rfl, N98q, Kq98, Eq98, Fq98_bytes, Fq98_masked, Fq98_count, Fq98_opcode, Fq98_last, Fq98_open, Fq98_length, Fq98_maskAt, Fq98_messageOpcode, Fq98_messageBytes, Fq98_dataLength, Vq98⟩ := hQ98
      have N98 := Fr.app N95 N98q
      have f99 := f96.keep Kq98 (ninS ne_pa_hO (ninS ne_pa_ba nin0))
      have f100 := Eq95.keep Kq98
      have Zp98 : n0 ≤ T98.heap.size := Nat.le_trans Zp95 Kq98.1
      obtain ⟨g1, hg1⟩ : ∃ z, z = (own_upd (fun _ => 0) 0 ((-126 : Int32)).toInt8.toInt32) := ⟨_, rfl⟩
      have Vr98 : BA Z T98.heap ba 14 g1 := by rw [hg1]; exact Vq98
      refine Wk.go (A' := T98.setTop (mkF m 170 #[iv fl, iv mx, jv bt, .second, iv sp, jv of, .second, iv ln, iv (1 : Int32), iv (1 : Int32), iv ia, iv nn, rv pa, rv hO, iv (126 : Int32)] [(.int (0 : Int32))])) (fun t k => st98.trans k) ?_
      refine Wk.go (A' := T98.setTop (mkF m 171 #[iv fl, iv mx, jv bt, .second, iv sp, jv of, .second, iv ln, iv (1 : Int32), iv (1 : Int32), iv ia, iv nn, rv pa, rv hO, iv (126 : Int32)] [])) (fun t k => XS.pop X98.here hx rfl (hb hby at_170) rfl rfl k) ?_
      refine Wk.go (A' := T98.setTop (mkF m 173 #[iv fl, iv mx, jv bt, .second, iv sp, jv of, .second, iv ln, iv (1 : Int32), iv (1 : Int32), iv ia, iv nn, rv pa, rv hO, iv (126 : Int32)] [(.ref hO)])) (fun t k => XS.aload X98.here hx rfl (hb hby at_171) rfl rfl k) ?_
      refine Wk.go (A' := T98.setTop (mkF m 175 #[iv fl, iv mx, jv bt, .second, iv sp, jv of, .second, iv ln, iv (1 : Int32), iv (1 : Int32), iv ia, iv nn, rv pa, rv hO, iv (126 : Int32)] [(.int (1 : Int32)), (.ref hO)])) (fun t k => XS.iload X98.here hx rfl (hb hby at_173) rfl k) ?_
      have hc175 : ¬ ((1 : Int32) = (0 : Int32)) := by decide
      refine Wk.go (A' := T98.setTop (mkF m 178 #[iv fl, iv mx, jv bt, .second, iv sp, jv of, .second, iv ln, iv (1 : Int32), iv (1 : Int32), iv ia, iv nn, rv pa, rv hO, iv (126 : Int32)] [(.ref hO)])) (fun t k => XS.ifNo X98.here hx rfl (hb hby at_175) rfl ((if0 _ _).trans (feq hc175).1) k) ?_
      refine Wk.go (A' := T98.setTop (mkF m 181 #[iv fl, iv mx, jv bt, .second, iv sp, jv of, .second, iv ln, iv (1 : Int32), iv (1 : Int32), iv ia, iv nn, rv pa, rv hO, iv (126 : Int32)] [(.int (128 : Int32)), (.ref hO)])) (fun t k => XS.sipush X98.here hx rfl (hb hby at_178) k) ?_
      refine Wk.go (A' := T98.setTop (mkF m 185 #[iv fl, iv mx, jv bt, .second, iv sp, jv of, .second, iv ln, iv (1 : Int32), iv (1 : Int32), iv ia, iv nn, rv pa, rv hO, iv (126 : Int32)] [(.int (128 : Int32)), (.ref hO)])) (fun t k => XS.goto X98.here hx rfl (pc0 := 181) (pc' := 185) rfl (hb hby at_181) (by decide) (by decide) k) ?_
      refine Wk.go (A' := T98.setTop (mkF m 187 #[iv fl, iv mx, jv bt, .second, iv sp, jv of, .second, iv ln, iv (1 : Int32), iv (1 : Int32), iv ia, iv nn, rv pa, rv hO, iv (126 : Int32)] [(.int (126 : Int32)), (.int (128 : Int32)), (.ref hO)])) (fun t k => XS.iload X98.here hx rfl (hb hby at_185) rfl k) ?_
      refine Wk.go (A' := T98.setTop (mkF m 188 #[iv fl, iv mx, jv bt, .second, iv sp, jv of, .second, iv ln, iv (1 : Int32), iv (1 : Int32), iv ia, iv nn, rv pa, rv hO, iv (126 : Int32)] [(.int (254 : Int32)), (.ref hO)])) (fun t k => XS.ior X98.here hx rfl (hb hby at_187) rfl k) ?_
      refine Wk.go (A' := T98.setTop (mkF m 189 #[iv fl, iv mx, jv bt, .second, iv sp, jv of, .second, iv ln, iv (1 : Int32), iv (1 : Int32), iv ia, iv nn, rv pa, rv hO, iv (126 : Int32)] [(.int ((254 : Int32).toInt8.toInt32)), (.ref hO)])) (fun t k => XS.i2b X98.here hx rfl (hb hby at_188) rfl k) ?_
      refine Wk.go (A' := T98.setTop (mkF m 192 #[iv fl, iv mx, jv bt, .second, iv sp, jv of, .second, iv ln, iv (1 : Int32), iv (1 : Int32), iv ia, iv nn, rv pa, rv hO, iv (126 : Int32)] [(.long (9223372036854775807 : Int64)), (.int ((254 : Int32).toInt8.toInt32)), (.ref hO)])) (fun t k => X98.ldc2Long hx hown (mvT hZ (tw15 hw)) (g := (mkF m 189 #[iv fl, iv mx, jv bt, .second, iv sp, jv of, .second, iv ln, iv (1 : Int32), iv (1 : Int32), iv ia, iv nn, rv pa, rv hO, iv (126 : Int32)] [(.int ((254 : Int32).toInt8.toInt32)), (.ref hO)])) rfl (hb hby at_189) t k) ?_
      obtain ⟨cq101, kq101, q101a, q101b, q101c⟩ := isOf hZ rfl Eq98
      obtain ⟨_, _, ⟨T101, L101, k101, n101⟩, -, X101, ⟨Lc101, hQ101, l101, y101, z101⟩, st101⟩ := X98.virtualBack hx (y := (⟨own_F, "take", "(BJ)Z"⟩ : MethodName)) (z := (⟨own_F, "take", "(BJ)Z"⟩ : MethodName)) hown (mvT hZ (tw16 hw)) (mvT hZ (tw17 hw)) (notFace_of_selects (args := #[]) (mvT hZ (tw19 hw))) (mvT hZ (tw19 hw)) (mvT hZ (tw18 hw)) (by decide) (backOf (W := 0) (rm31wm l Z a0 hw [] hO ((254 : Int32).toInt8.toInt32) (9223372036854775807 : Int64) ba g1 T98.heap n0 Zp98 Eq98 Fq98_bytes Fq98_masked Fq98_count Fq98_opcode Fq98_last Fq98_open Fq98_length Fq98_maskAt Fq98_messageOpcode Fq98_messageBytes Fq98_dataLength Vr98 ne_hO_ba g_hO g_ba rfl (by rw [hg1, own_upd_eq]; decide) (by decide) (by decide)) hZ (tw20 hw) (tw4 hw) (by decide) (by decide)) q101a q101c (g := (mkF m 192 #[iv fl, iv mx, jv bt, .second, iv sp, jv of, .second, iv ln, iv (1 : Int32), iv (1 : Int32), iv ia, iv nn, rv pa, rv hO, iv (126 : Int32)] [(.long (9223372036854775807 : Int64)), (.int ((254 : Int32).toInt8.toInt32)), (.ref hO)])) rfl (by rw [hml]; rfl) (Steps.refl _) (argsL := [(.int ((254 : Int32).toInt8.toInt32)), (.long (9223372036854775807 : Int64))]) (rest := []) (lenOf pd_6 rfl) rfl (by show 2 * 0 + _ ≤ _; exact Nat.le_of_eq rfl) (hb hby at_192) (fun _ _ => ⟨rfl, rfl, (by decide : 3 + 0 ≤ _), (by decide : 33 + 0 ≤ _)⟩)
      dsimp only [Pt.U, Pt.locs, Pt.cells, Pt.slots] at X101 l101 y101 z101 st101 hQ101
      subst l101 y101 z101
      obtain ⟨rfl, N101q, Kq101, Eq101, Fq101_bytes, Fq101_masked, Fq101_count, Fq101_opcode, Fq101_last, Fq101_open, Fq101_length, Fq101_maskAt, Fq101_messageOpcode, Fq101_messageBytes, Fq101_dataLength, Vq101⟩ := hQ101
      have N101 := Fr.app N98 N101q
      have f102 := f99.keep Kq101 (ninS ne_pa_hO (ninS ne_pa_ba nin0))
      have f103 := Eq98.keep Kq101
      have Zp101 : n0 ≤ T101.heap.size := Nat.le_trans Zp98 Kq101.1
      obtain ⟨g2, hg2⟩ : ∃ z, z = (own_upd g1 1 (((254 : Int32).toInt8.toInt32)).toInt8.toInt32) := ⟨_, rfl⟩
      have Vr101 : BA Z T101.heap ba 14 g2 := by rw [hg2]; exact Vq101
      refine Wk.go (A' := T101.setTop (mkF m 195 #[iv fl, iv mx, jv bt, .second, iv sp, jv of, .second, iv ln, iv (1 : Int32), iv (1 : Int32), iv ia, iv nn, rv pa, rv hO, iv (126 : Int32)] [(.int (0 : Int32))])) (fun t k => st101.trans k) ?_
      refine Wk.go (A' := T101.setTop (mkF m 196 #[iv fl, iv mx, jv bt, .second, iv sp, jv of, .second, iv ln, iv (1 : Int32), iv (1 : Int32), iv ia, iv nn, rv pa, rv hO, iv (126 : Int32)] [])) (fun t k => XS.pop X101.here hx rfl (hb hby at_195) rfl rfl k) ?_
      refine Wk.go (A' := T101.setTop (mkF m 198 #[iv fl, iv mx, jv bt, .second, iv sp, jv of, .second, iv ln, iv (1 : Int32), iv (1 : Int32), iv ia, iv nn, rv pa, rv hO, iv (126 : Int32)] [(.int (1 : Int32))])) (fun t k => XS.iload X101.here hx rfl (hb hby at_196) rfl k) ?_
      have hc198 : ¬ ((1 : Int32) = (0 : Int32)) := by decide
      refine Wk.go (A' := T101.setTop (mkF m 201 #[iv fl, iv mx, jv bt, .second, iv sp, jv of, .second, iv ln, iv (1 : Int32), iv (1 : Int32), iv ia, iv nn, rv pa, rv hO, iv (126 : Int32)] [])) (fun t k => XS.ifNo X101.here hx rfl (hb hby at_198) rfl ((if0 _ _).trans (feq hc198).1) k) ?_
      refine Wk.go (A' := T101.setTop (mkF m 203 #[iv fl, iv mx, jv bt, .second, iv sp, jv of, .second, iv ln, iv (1 : Int32), iv (1 : Int32), iv ia, iv nn, rv pa, rv hO, iv (126 : Int32)] [(.ref hO)])) (fun t k => XS.aload X101.here hx rfl (hb hby at_201) rfl rfl k) ?_
      refine Wk.go (A' := T101.setTop (mkF m 205 #[iv fl, iv mx, jv bt, .second, iv sp, jv of, .second, iv ln, iv (1 : Int32), iv (1 : Int32), iv ia, iv nn, rv pa, rv hO, iv (126 : Int32)] [(.int ln), (.ref hO)])) (fun t k => XS.iload X101.here hx rfl (hb hby at_203) rfl k) ?_
      refine Wk.go (A' := T101.setTop (mkF m 207 #[iv fl, iv mx, jv bt, .second, iv sp, jv of, .second, iv ln, iv (1 : Int32), iv (1 : Int32), iv ia, iv nn, rv pa, rv hO, iv (126 : Int32)] [(.int (8 : Int32)), (.int ln), (.ref hO)])) (fun t k => XS.bipush X101.here hx rfl (hb hby at_205) k) ?_
      refine Wk.go (A' := T101.setTop (mkF m 208 #[iv fl, iv mx, jv bt, .second, iv sp, jv of, .second, iv ln, iv (1 : Int32), iv (1 : Int32), iv ia, iv nn, rv pa, rv hO, iv (126 : Int32)] [(.int ((ln.toUInt32 >>> ((8 : Int32) &&& 31).toUInt32).toInt32)), (.ref hO)])) (fun t k => XS.iushr X101.here hx rfl (hb hby at_207) rfl k) ?_
      refine Wk.go (A' := T101.setTop (mkF m 209 #[iv fl, iv mx, jv bt, .second, iv sp, jv of, .second, iv ln, iv (1 : Int32), iv (1 : Int32), iv ia, iv nn, rv pa, rv hO, iv (126 : Int32)] [(.int (((ln.toUInt32 >>> ((8 : Int32) &&& 31).toUInt32).toInt32).toInt8.toInt32)), (.ref hO)])) (fun t k => XS.i2b X101.here hx rfl (hb hby at_208) rfl k) ?_
      refine Wk.go (A' := T101.setTop (mkF m 212 #[iv fl, iv mx, jv bt, .second, iv sp, jv of, .second, iv ln, iv (1 : Int32), iv (1 : Int32), iv ia, iv nn, rv pa, rv hO, iv (126 : Int32)] [(.long (9223372036854775807 : Int64)), (.int (((ln.toUInt32 >>> ((8 : Int32) &&& 31).toUInt32).toInt32).toInt8.toInt32)), (.ref hO)])) (fun t k => X101.ldc2Long hx hown (mvT hZ (tw15 hw)) (g := (mkF m 209 #[iv fl, iv mx, jv bt, .second, iv sp, jv of, .second, iv ln, iv (1 : Int32), iv (1 : Int32), iv ia, iv nn, rv pa, rv hO, iv (126 : Int32)] [(.int (((ln.toUInt32 >>> ((8 : Int32) &&& 31).toUInt32).toInt32).toInt8.toInt32)), (.ref hO)])) rfl (hb hby at_209) t k) ?_
      obtain ⟨cq104, kq104, q104a, q104b, q104c⟩ := isOf hZ rfl Eq101
      obtain ⟨_, _, ⟨T104, L104, k104, n104⟩, -, X104, ⟨Lc104, hQ104, l104, y104, z104⟩, st104⟩ := X101.virtualBack hx (y := (⟨own_F, "take", "(BJ)Z"⟩ : MethodName)) (z := (⟨own_F, "take", "(BJ)Z"⟩ : MethodName)) hown (mvT hZ (tw16 hw)) (mvT hZ (tw17 hw)) (notFace_of_selects (args := #[]) (mvT hZ (tw19 hw))) (mvT hZ (tw19 hw)) (mvT hZ (tw18 hw)) (by decide) (backOf (W := 0) (rm32wm l Z a0 hw [] hO (((ln.toUInt32 >>> ((8 : Int32) &&& 31).toUInt32).toInt32).toInt8.toInt32) (9223372036854775807 : Int64) ba g2 T101.heap n0 Zp101 Eq101 Fq101_bytes Fq101_masked Fq101_count Fq101_opcode Fq101_last Fq101_open Fq101_length Fq101_maskAt Fq101_messageOpcode Fq101_messageBytes Fq101_dataLength Vr101 ne_hO_ba g_hO g_ba rfl (by rw [hg2, own_upd_eq]; decide)) hZ (tw20 hw) (tw4 hw) (by decide) (by decide)) q104a q104c (g := (mkF m 212 #[iv fl, iv mx, jv bt, .second, iv sp, jv of, .second, iv ln, iv (1 : Int32), iv (1 : Int32), iv ia, iv nn, rv pa, rv hO, iv (126 : Int32)] [(.long (9223372036854775807 : Int64)), (.int (((ln.toUInt32 >>> ((8 : Int32) &&& 31).toUInt32).toInt32).toInt8.toInt32)), (.ref hO)])) rfl (by rw [hml]; rfl) (Steps.refl _) (argsL := [(.int (((ln.toUInt32 >>> ((8 : Int32) &&& 31).toUInt32).toInt32).toInt8.toInt32)), (.long (9223372036854775807 : Int64))]) (rest := []) (lenOf pd_6 rfl) rfl (by show 2 * 0 + _ ≤ _; exact Nat.le_of_eq rfl) (hb hby at_212) (fun _ _ => ⟨rfl, rfl, (by decide : 3 + 0 ≤ _), (by decide : 33 + 0 ≤ _)⟩)
      dsimp only [Pt.U, Pt.locs, Pt.cells, Pt.slots] at X104 l104 y104 z104 st104 hQ104
      subst l104 y104 z104
      obtain ⟨rfl, N104q, Kq104, Eq104, Fq104_bytes, Fq104_masked, Fq104_count, Fq104_opcode, Fq104_last, Fq104_open, Fq104_length, Fq104_maskAt, Fq104_messageOpcode, Fq104_messageBytes, Fq104_dataLength, Vq104⟩ := hQ104
      have N104 := Fr.app N101 N104q
      have f105 := f102.keep Kq104 (ninS ne_pa_hO (ninS ne_pa_ba nin0))
      have f106 := Eq101.keep Kq104
      have Zp104 : n0 ≤ T104.heap.size := Nat.le_trans Zp101 Kq104.1
      obtain ⟨g3, hg3⟩ : ∃ z, z = (own_upd g2 2 ((((ln.toUInt32 >>> ((8 : Int32) &&& 31).toUInt32).toInt32).toInt8.toInt32)).toInt8.toInt32) := ⟨_, rfl⟩
      have Vr104 : BA Z T104.heap ba 14 g3 := by rw [hg3]; exact Vq104
      refine Wk.go (A' := T104.setTop (mkF m 215 #[iv fl, iv mx, jv bt, .second, iv sp, jv of, .second, iv ln, iv (1 : Int32), iv (1 : Int32), iv ia, iv nn, rv pa, rv hO, iv (126 : Int32)] [(.int (0 : Int32))])) (fun t k => st104.trans k) ?_
      refine Wk.go (A' := T104.setTop (mkF m 216 #[iv fl, iv mx, jv bt, .second, iv sp, jv of, .second, iv ln, iv (1 : Int32), iv (1 : Int32), iv ia, iv nn, rv pa, rv hO, iv (126 : Int32)] [])) (fun t k => XS.pop X104.here hx rfl (hb hby at_215) rfl rfl k) ?_
      refine Wk.go (A' := T104.setTop (mkF m 218 #[iv fl, iv mx, jv bt, .second, iv sp, jv of, .second, iv ln, iv (1 : Int32), iv (1 : Int32), iv ia, iv nn, rv pa, rv hO, iv (126 : Int32)] [(.ref hO)])) (fun t k => XS.aload X104.here hx rfl (hb hby at_216) rfl rfl k) ?_
      refine Wk.go (A' := T104.setTop (mkF m 220 #[iv fl, iv mx, jv bt, .second, iv sp, jv of, .second, iv ln, iv (1 : Int32), iv (1 : Int32), iv ia, iv nn, rv pa, rv hO, iv (126 : Int32)] [(.int ln), (.ref hO)])) (fun t k => XS.iload X104.here hx rfl (hb hby at_218) rfl k) ?_
      refine Wk.go (A' := T104.setTop (mkF m 221 #[iv fl, iv mx, jv bt, .second, iv sp, jv of, .second, iv ln, iv (1 : Int32), iv (1 : Int32), iv ia, iv nn, rv pa, rv hO, iv (126 : Int32)] [(.int (ln.toInt8.toInt32)), (.ref hO)])) (fun t k => XS.i2b X104.here hx rfl (hb hby at_220) rfl k) ?_
      refine Wk.go (A' := T104.setTop (mkF m 224 #[iv fl, iv mx, jv bt, .second, iv sp, jv of, .second, iv ln, iv (1 : Int32), iv (1 : Int32), iv ia, iv nn, rv pa, rv hO, iv (126 : Int32)] [(.long (9223372036854775807 : Int64)), (.int (ln.toInt8.toInt32)), (.ref hO)])) (fun t k => X104.ldc2Long hx hown (mvT hZ (tw15 hw)) (g := (mkF m 221 #[iv fl, iv mx, jv bt, .second, iv sp, jv of, .second, iv ln, iv (1 : Int32), iv (1 : Int32), iv ia, iv nn, rv pa, rv hO, iv (126 : Int32)] [(.int (ln.toInt8.toInt32)), (.ref hO)])) rfl (hb hby at_221) t k) ?_
      obtain ⟨cq107, kq107, q107a, q107b, q107c⟩ := isOf hZ rfl Eq104
      obtain ⟨_, _, ⟨T107, L107, k107, n107⟩, -, X107, ⟨Lc107, hQ107, l107, y107, z107⟩, st107⟩ := X104.virtualBack hx (y := (⟨own_F, "take", "(BJ)Z"⟩ : MethodName)) (z := (⟨own_F, "take", "(BJ)Z"⟩ : MethodName)) hown (mvT hZ (tw16 hw)) (mvT hZ (tw17 hw)) (notFace_of_selects (args := #[]) (mvT hZ (tw19 hw))) (mvT hZ (tw19 hw)) (mvT hZ (tw18 hw)) (by decide) (backOf (W := 0) (rm33wm l Z a0 hw [] hO (ln.toInt8.toInt32) (9223372036854775807 : Int64) ba g3 T104.heap n0 Zp104 Eq104 Fq104_bytes Fq104_masked Fq104_count Fq104_opcode Fq104_last Fq104_open Fq104_length Fq104_maskAt Fq104_messageOpcode Fq104_messageBytes Fq104_dataLength Vr104 ne_hO_ba g_hO g_ba rfl (by rw [hg3, own_upd_ne _ _ (by decide), hg2, own_upd_eq]; decide)) hZ (tw20 hw) (tw4 hw) (by decide) (by decide)) q107a q107c (g := (mkF m 224 #[iv fl, iv mx, jv bt, .second, iv sp, jv of, .second, iv ln, iv (1 : Int32), iv (1 : Int32), iv ia, iv nn, rv pa, rv hO, iv (126 : Int32)] [(.long (9223372036854775807 : Int64)), (.int (ln.toInt8.toInt32)), (.ref hO)])) rfl (by rw [hml]; rfl) (Steps.refl _) (argsL := [(.int (ln.toInt8.toInt32)), (.long (9223372036854775807 : Int64))]) (rest := []) (lenOf pd_6 rfl) rfl (by show 2 * 0 + _ ≤ _; exact Nat.le_of_eq rfl) (hb hby at_224) (fun _ _ => ⟨rfl, rfl, (by decide : 3 + 0 ≤ _), (by decide : 33 + 0 ≤ _)⟩)
      dsimp only [Pt.U, Pt.locs, Pt.cells, Pt.slots] at X107 l107 y107 z107 st107 hQ107
      subst l107 y107 z107
      obtain ⟨ln107, rfl, N107q, Kq107, Eq107, Fq107_bytes, Fq107_masked, Fq107_count, Fq107_opcode, Fq107_last, Fq107_open, Fq107_length, Fq107_maskAt, Fq107_messageOpcode, Fq107_messageBytes, Fq107_dataLength, Vq107⟩ := hQ107
      have N107 := Fr.app N104 N107q
      have f108 := f105.keep Kq107 (ninS ne_pa_hO (ninS ne_pa_ba nin0))
      have f109 := Eq104.keep Kq107
      have Zp107 : n0 ≤ T107.heap.size := Nat.le_trans Zp104 Kq107.1
      obtain ⟨g4, hg4⟩ : ∃ z, z = (own_upd g3 3 ((ln.toInt8.toInt32)).toInt8.toInt32) := ⟨_, rfl⟩
      have Vr107 : BA Z T107.heap ba 14 g4 := by rw [hg4]; exact Vq107
      refine Wk.go (A' := T107.setTop (mkF m 227 #[iv fl, iv mx, jv bt, .second, iv sp, jv of, .second, iv ln, iv (1 : Int32), iv (1 : Int32), iv ia, iv nn, rv pa, rv hO, iv (126 : Int32)] [(.int (0 : Int32))])) (fun t k => st107.trans k) ?_
      refine Wk.go (A' := T107.setTop (mkF m 228 #[iv fl, iv mx, jv bt, .second, iv sp, jv of, .second, iv ln, iv (1 : Int32), iv (1 : Int32), iv ia, iv nn, rv pa, rv hO, iv (126 : Int32)] [])) (fun t k => XS.pop X107.here hx rfl (hb hby at_227) rfl rfl k) ?_
      refine Wk.go (A' := T107.setTop (mkF m 230 #[iv fl, iv mx, jv bt, .second, iv sp, jv of, .second, iv ln, iv (1 : Int32), iv (1 : Int32), iv ia, iv nn, rv pa, rv hO, iv (126 : Int32)] [(.int (1 : Int32))])) (fun t k => XS.iload X107.here hx rfl (hb hby at_228) rfl k) ?_
      have hc230 : ¬ ((1 : Int32) = (0 : Int32)) := by decide
      refine Wk.go (A' := T107.setTop (mkF m 233 #[iv fl, iv mx, jv bt, .second, iv sp, jv of, .second, iv ln, iv (1 : Int32), iv (1 : Int32), iv ia, iv nn, rv pa, rv hO, iv (126 : Int32)] [])) (fun t k => XS.ifNo X107.here hx rfl (hb hby at_230) rfl ((if0 _ _).trans (feq hc230).1) k) ?_
      refine Wk.go (A' := T107.setTop (mkF m 235 #[iv fl, iv mx, jv bt, .second, iv sp, jv of, .second, iv ln, iv (1 : Int32), iv (1 : Int32), iv ia, iv nn, rv pa, rv hO, iv (126 : Int32)] [(.ref hO)])) (fun t k => XS.aload X107.here hx rfl (hb hby at_233) rfl rfl k) ?_
      refine Wk.go (A' := T107.setTop (mkF m 236 #[iv fl, iv mx, jv bt, .second, iv sp, jv of, .second, iv ln, iv (1 : Int32), iv (1 : Int32), iv ia, iv nn, rv pa, rv hO, iv (126 : Int32)] [(.int mx), (.ref hO)])) (fun t k => XS.iloadN X107.here hx rfl (hb hby at_235) rfl k) ?_
      refine Wk.go (A' := T107.setTop (mkF m 238 #[iv fl, iv mx, jv bt, .second, iv sp, jv of, .second, iv ln, iv (1 : Int32), iv (1 : Int32), iv ia, iv nn, rv pa, rv hO, iv (126 : Int32)] [(.int (24 : Int32)), (.int mx), (.ref hO)])) (fun t k => XS.bipush X107.here hx rfl (hb hby at_236) k) ?_
      refine Wk.go (A' := T107.setTop (mkF m 239 #[iv fl, iv mx, jv bt, .second, iv sp, jv of, .second, iv ln, iv (1 : Int32), iv (1 : Int32), iv ia, iv nn, rv pa, rv hO, iv (126 : Int32)] [(.int ((mx.toUInt32 >>> ((24 : Int32) &&& 31).toUInt32).toInt32)), (.ref hO)])) (fun t k => XS.iushr X107.here hx rfl (hb hby at_238) rfl k) ?_
      refine Wk.go (A' := T107.setTop (mkF m 240 #[iv fl, iv mx, jv bt, .second, iv sp, jv of, .second, iv ln, iv (1 : Int32), iv (1 : Int32), iv ia, iv nn, rv pa, rv hO, iv (126 : Int32)] [(.int (((mx.toUInt32 >>> ((24 : Int32) &&& 31).toUInt32).toInt32).toInt8.toInt32)), (.ref hO)])) (fun t k => XS.i2b X107.here hx rfl (hb hby at_239) rfl k) ?_
      refine Wk.go (A' := T107.setTop (mkF m 243 #[iv fl, iv mx, jv bt, .second, iv sp, jv of, .second, iv ln, iv (1 : Int32), iv (1 : Int32), iv ia, iv nn, rv pa, rv hO, iv (126 : Int32)] [(.long (9223372036854775807 : Int64)), (.int (((mx.toUInt32 >>> ((24 : Int32) &&& 31).toUInt32).toInt32).toInt8.toInt32)), (.ref hO)])) (fun t k => X107.ldc2Long hx hown (mvT hZ (tw15 hw)) (g := (mkF m 240 #[iv fl, iv mx, jv bt, .second, iv sp, jv of, .second, iv ln, iv (1 : Int32), iv (1 : Int32), iv ia, iv nn, rv pa, rv hO, iv (126 : Int32)] [(.int (((mx.toUInt32 >>> ((24 : Int32) &&& 31).toUInt32).toInt32).toInt8.toInt32)), (.ref hO)])) rfl (hb hby at_240) t k) ?_
      obtain ⟨cq110, kq110, q110a, q110b, q110c⟩ := isOf hZ rfl Eq107
      obtain ⟨_, _, ⟨T110, L110, k110, n110⟩, -, X110, ⟨Lc110, hQ110, l110, y110, z110⟩, st110⟩ := X107.virtualBack hx (y := (⟨own_F, "take", "(BJ)Z"⟩ : MethodName)) (z := (⟨own_F, "take", "(BJ)Z"⟩ : MethodName)) hown (mvT hZ (tw16 hw)) (mvT hZ (tw17 hw)) (notFace_of_selects (args := #[]) (mvT hZ (tw19 hw))) (mvT hZ (tw19 hw)) (mvT hZ (tw18 hw)) (by decide) (backOf (W := 0) (rm3kw l Z a0 hw [] hO (((mx.toUInt32 >>> ((24 : Int32) &&& 31).toUInt32).toInt32).toInt8.toInt32) (9223372036854775807 : Int64) ba g4 ln107 (4 : Int32) T107.heap n0 Zp107 Eq107 Fq107_bytes Fq107_masked Fq107_count Fq107_opcode Fq107_last Fq107_open Fq107_length Fq107_maskAt Fq107_messageOpcode Fq107_messageBytes Fq107_dataLength Vr107 ne_hO_ba g_hO g_ba rfl (by rw [hg4, own_upd_ne _ _ (by decide), hg3, own_upd_ne _ _ (by decide), hg2, own_upd_eq]; decide) (by decide) (by decide) (by decide) (by decide) (by decide) (by decide)) hZ (tw20 hw) (tw4 hw) (by decide) (by decide)) q110a q110c (g := (mkF m 243 #[iv fl, iv mx, jv bt, .second, iv sp, jv of, .second, iv ln, iv (1 : Int32), iv (1 : Int32), iv ia, iv nn, rv pa, rv hO, iv (126 : Int32)] [(.long (9223372036854775807 : Int64)), (.int (((mx.toUInt32 >>> ((24 : Int32) &&& 31).toUInt32).toInt32).toInt8.toInt32)), (.ref hO)])) rfl (by rw [hml]; rfl) (Steps.refl _) (argsL := [(.int (((mx.toUInt32 >>> ((24 : Int32) &&& 31).toUInt32).toInt32).toInt8.toInt32)), (.long (9223372036854775807 : Int64))]) (rest := []) (lenOf pd_6 rfl) rfl (by show 2 * 0 + _ ≤ _; exact Nat.le_of_eq rfl) (hb hby at_243) (fun _ _ => ⟨rfl, rfl, (by decide : 3 + 0 ≤ _), (by decide : 33 + 0 ≤ _)⟩)
      dsimp only [Pt.U, Pt.locs, Pt.cells, Pt.slots] at X110 l110 y110 z110 st110 hQ110
      subst l110 y110 z110
      obtain ⟨rfl, N110q, Kq110, Eq110, Fq110_bytes, Fq110_masked, Fq110_count, Fq110_opcode, Fq110_last, Fq110_open, Fq110_length, Fq110_maskAt, Fq110_messageOpcode, Fq110_messageBytes, Fq110_dataLength, Vq110⟩ := hQ110
      have N110 := Fr.app N107 N110q
      have f111 := f108.keep Kq110 (ninS ne_pa_hO (ninS ne_pa_ba nin0))
      have f112 := Eq107.keep Kq110
      have Zp110 : n0 ≤ T110.heap.size := Nat.le_trans Zp107 Kq110.1
      obtain ⟨g5, hg5⟩ : ∃ z, z = (own_upd g4 4 ((((mx.toUInt32 >>> ((24 : Int32) &&& 31).toUInt32).toInt32).toInt8.toInt32)).toInt8.toInt32) := ⟨_, rfl⟩
      have Vr110 : BA Z T110.heap ba 14 g5 := by rw [hg5]; exact Vq110
      refine Wk.go (A' := T110.setTop (mkF m 246 #[iv fl, iv mx, jv bt, .second, iv sp, jv of, .second, iv ln, iv (1 : Int32), iv (1 : Int32), iv ia, iv nn, rv pa, rv hO, iv (126 : Int32)] [(.int (0 : Int32))])) (fun t k => st110.trans k) ?_
      refine Wk.go (A' := T110.setTop (mkF m 247 #[iv fl, iv mx, jv bt, .second, iv sp, jv of, .second, iv ln, iv (1 : Int32), iv (1 : Int32), iv ia, iv nn, rv pa, rv hO, iv (126 : Int32)] [])) (fun t k => XS.pop X110.here hx rfl (hb hby at_246) rfl rfl k) ?_
      refine Wk.go (A' := T110.setTop (mkF m 249 #[iv fl, iv mx, jv bt, .second, iv sp, jv of, .second, iv ln, iv (1 : Int32), iv (1 : Int32), iv ia, iv nn, rv pa, rv hO, iv (126 : Int32)] [(.ref hO)])) (fun t k => XS.aload X110.here hx rfl (hb hby at_247) rfl rfl k) ?_
      refine Wk.go (A' := T110.setTop (mkF m 250 #[iv fl, iv mx, jv bt, .second, iv sp, jv of, .second, iv ln, iv (1 : Int32), iv (1 : Int32), iv ia, iv nn, rv pa, rv hO, iv (126 : Int32)] [(.int mx), (.ref hO)])) (fun t k => XS.iloadN X110.here hx rfl (hb hby at_249) rfl k) ?_
      refine Wk.go (A' := T110.setTop (mkF m 252 #[iv fl, iv mx, jv bt, .second, iv sp, jv of, .second, iv ln, iv (1 : Int32), iv (1 : Int32), iv ia, iv nn, rv pa, rv hO, iv (126 : Int32)] [(.int (16 : Int32)), (.int mx), (.ref hO)])) (fun t k => XS.bipush X110.here hx rfl (hb hby at_250) k) ?_
      refine Wk.go (A' := T110.setTop (mkF m 253 #[iv fl, iv mx, jv bt, .second, iv sp, jv of, .second, iv ln, iv (1 : Int32), iv (1 : Int32), iv ia, iv nn, rv pa, rv hO, iv (126 : Int32)] [(.int ((mx.toUInt32 >>> ((16 : Int32) &&& 31).toUInt32).toInt32)), (.ref hO)])) (fun t k => XS.iushr X110.here hx rfl (hb hby at_252) rfl k) ?_
      refine Wk.go (A' := T110.setTop (mkF m 254 #[iv fl, iv mx, jv bt, .second, iv sp, jv of, .second, iv ln, iv (1 : Int32), iv (1 : Int32), iv ia, iv nn, rv pa, rv hO, iv (126 : Int32)] [(.int (((mx.toUInt32 >>> ((16 : Int32) &&& 31).toUInt32).toInt32).toInt8.toInt32)), (.ref hO)])) (fun t k => XS.i2b X110.here hx rfl (hb hby at_253) rfl k) ?_
      refine Wk.go (A' := T110.setTop (mkF m 257 #[iv fl, iv mx, jv bt, .second, iv sp, jv of, .second, iv ln, iv (1 : Int32), iv (1 : Int32), iv ia, iv nn, rv pa, rv hO, iv (126 : Int32)] [(.long (9223372036854775807 : Int64)), (.int (((mx.toUInt32 >>> ((16 : Int32) &&& 31).toUInt32).toInt32).toInt8.toInt32)), (.ref hO)])) (fun t k => X110.ldc2Long hx hown (mvT hZ (tw15 hw)) (g := (mkF m 254 #[iv fl, iv mx, jv bt, .second, iv sp, jv of, .second, iv ln, iv (1 : Int32), iv (1 : Int32), iv ia, iv nn, rv pa, rv hO, iv (126 : Int32)] [(.int (((mx.toUInt32 >>> ((16 : Int32) &&& 31).toUInt32).toInt32).toInt8.toInt32)), (.ref hO)])) rfl (hb hby at_254) t k) ?_
      obtain ⟨cq113, kq113, q113a, q113b, q113c⟩ := isOf hZ rfl Eq110
      obtain ⟨_, _, ⟨T113, L113, k113, n113⟩, -, X113, ⟨Lc113, hQ113, l113, y113, z113⟩, st113⟩ := X110.virtualBack hx (y := (⟨own_F, "take", "(BJ)Z"⟩ : MethodName)) (z := (⟨own_F, "take", "(BJ)Z"⟩ : MethodName)) hown (mvT hZ (tw16 hw)) (mvT hZ (tw17 hw)) (notFace_of_selects (args := #[]) (mvT hZ (tw19 hw))) (mvT hZ (tw19 hw)) (mvT hZ (tw18 hw)) (by decide) (backOf (W := 0) (rm3kw l Z a0 hw [] hO (((mx.toUInt32 >>> ((16 : Int32) &&& 31).toUInt32).toInt32).toInt8.toInt32) (9223372036854775807 : Int64) ba g5 ln107 (5 : Int32) T110.heap n0 Zp110 Eq110 Fq110_bytes Fq110_masked Fq110_count Fq110_opcode Fq110_last Fq110_open Fq110_length Fq110_maskAt Fq110_messageOpcode Fq110_messageBytes Fq110_dataLength Vr110 ne_hO_ba g_hO g_ba rfl (by rw [hg5, own_upd_ne _ _ (by decide), hg4, own_upd_ne _ _ (by decide), hg3, own_upd_ne _ _ (by decide), hg2, own_upd_eq]; decide) (by decide) (by decide) (by decide) (by decide) (by decide) (by decide)) hZ (tw20 hw) (tw4 hw) (by decide) (by decide)) q113a q113c (g := (mkF m 257 #[iv fl, iv mx, jv bt, .second, iv sp, jv of, .second, iv ln, iv (1 : Int32), iv (1 : Int32), iv ia, iv nn, rv pa, rv hO, iv (126 : Int32)] [(.long (9223372036854775807 : Int64)), (.int (((mx.toUInt32 >>> ((16 : Int32) &&& 31).toUInt32).toInt32).toInt8.toInt32)), (.ref hO)])) rfl (by rw [hml]; rfl) (Steps.refl _) (argsL := [(.int (((mx.toUInt32 >>> ((16 : Int32) &&& 31).toUInt32).toInt32).toInt8.toInt32)), (.long (9223372036854775807 : Int64))]) (rest := []) (lenOf pd_6 rfl) rfl (by show 2 * 0 + _ ≤ _; exact Nat.le_of_eq rfl) (hb hby at_257) (fun _ _ => ⟨rfl, rfl, (by decide : 3 + 0 ≤ _), (by decide : 33 + 0 ≤ _)⟩)
      dsimp only [Pt.U, Pt.locs, Pt.cells, Pt.slots] at X113 l113 y113 z113 st113 hQ113
      subst l113 y113 z113
      obtain ⟨rfl, N113q, Kq113, Eq113, Fq113_bytes, Fq113_masked, Fq113_count, Fq113_opcode, Fq113_last, Fq113_open, Fq113_length, Fq113_maskAt, Fq113_messageOpcode, Fq113_messageBytes, Fq113_dataLength, Vq113⟩ := hQ113
      have N113 := Fr.app N110 N113q
      have f114 := f111.keep Kq113 (ninS ne_pa_hO (ninS ne_pa_ba nin0))
      have f115 := Eq110.keep Kq113
      have Zp113 : n0 ≤ T113.heap.size := Nat.le_trans Zp110 Kq113.1
      obtain ⟨g6, hg6⟩ : ∃ z, z = (own_upd g5 5 ((((mx.toUInt32 >>> ((16 : Int32) &&& 31).toUInt32).toInt32).toInt8.toInt32)).toInt8.toInt32) := ⟨_, rfl⟩
      have Vr113 : BA Z T113.heap ba 14 g6 := by rw [hg6]; exact Vq113
      refine Wk.go (A' := T113.setTop (mkF m 260 #[iv fl, iv mx, jv bt, .second, iv sp, jv of, .second, iv ln, iv (1 : Int32), iv (1 : Int32), iv ia, iv nn, rv pa, rv hO, iv (126 : Int32)] [(.int (0 : Int32))])) (fun t k => st113.trans k) ?_
      refine Wk.go (A' := T113.setTop (mkF m 261 #[iv fl, iv mx, jv bt, .second, iv sp, jv of, .second, iv ln, iv (1 : Int32), iv (1 : Int32), iv ia, iv nn, rv pa, rv hO, iv (126 : Int32)] [])) (fun t k => XS.pop X113.here hx rfl (hb hby at_260) rfl rfl k) ?_
      refine Wk.go (A' := T113.setTop (mkF m 263 #[iv fl, iv mx, jv bt, .second, iv sp, jv of, .second, iv ln, iv (1 : Int32), iv (1 : Int32), iv ia, iv nn, rv pa, rv hO, iv (126 : Int32)] [(.ref hO)])) (fun t k => XS.aload X113.here hx rfl (hb hby at_261) rfl rfl k) ?_
      refine Wk.go (A' := T113.setTop (mkF m 264 #[iv fl, iv mx, jv bt, .second, iv sp, jv of, .second, iv ln, iv (1 : Int32), iv (1 : Int32), iv ia, iv nn, rv pa, rv hO, iv (126 : Int32)] [(.int mx), (.ref hO)])) (fun t k => XS.iloadN X113.here hx rfl (hb hby at_263) rfl k) ?_
      refine Wk.go (A' := T113.setTop (mkF m 266 #[iv fl, iv mx, jv bt, .second, iv sp, jv of, .second, iv ln, iv (1 : Int32), iv (1 : Int32), iv ia, iv nn, rv pa, rv hO, iv (126 : Int32)] [(.int (8 : Int32)), (.int mx), (.ref hO)])) (fun t k => XS.bipush X113.here hx rfl (hb hby at_264) k) ?_
      refine Wk.go (A' := T113.setTop (mkF m 267 #[iv fl, iv mx, jv bt, .second, iv sp, jv of, .second, iv ln, iv (1 : Int32), iv (1 : Int32), iv ia, iv nn, rv pa, rv hO, iv (126 : Int32)] [(.int ((mx.toUInt32 >>> ((8 : Int32) &&& 31).toUInt32).toInt32)), (.ref hO)])) (fun t k => XS.iushr X113.here hx rfl (hb hby at_266) rfl k) ?_
      refine Wk.go (A' := T113.setTop (mkF m 268 #[iv fl, iv mx, jv bt, .second, iv sp, jv of, .second, iv ln, iv (1 : Int32), iv (1 : Int32), iv ia, iv nn, rv pa, rv hO, iv (126 : Int32)] [(.int (((mx.toUInt32 >>> ((8 : Int32) &&& 31).toUInt32).toInt32).toInt8.toInt32)), (.ref hO)])) (fun t k => XS.i2b X113.here hx rfl (hb hby at_267) rfl k) ?_
      refine Wk.go (A' := T113.setTop (mkF m 271 #[iv fl, iv mx, jv bt, .second, iv sp, jv of, .second, iv ln, iv (1 : Int32), iv (1 : Int32), iv ia, iv nn, rv pa, rv hO, iv (126 : Int32)] [(.long (9223372036854775807 : Int64)), (.int (((mx.toUInt32 >>> ((8 : Int32) &&& 31).toUInt32).toInt32).toInt8.toInt32)), (.ref hO)])) (fun t k => X113.ldc2Long hx hown (mvT hZ (tw15 hw)) (g := (mkF m 268 #[iv fl, iv mx, jv bt, .second, iv sp, jv of, .second, iv ln, iv (1 : Int32), iv (1 : Int32), iv ia, iv nn, rv pa, rv hO, iv (126 : Int32)] [(.int (((mx.toUInt32 >>> ((8 : Int32) &&& 31).toUInt32).toInt32).toInt8.toInt32)), (.ref hO)])) rfl (hb hby at_268) t k) ?_
      obtain ⟨cq116, kq116, q116a, q116b, q116c⟩ := isOf hZ rfl Eq113
      obtain ⟨_, _, ⟨T116, L116, k116, n116⟩, -, X116, ⟨Lc116, hQ116, l116, y116, z116⟩, st116⟩ := X113.virtualBack hx (y := (⟨own_F, "take", "(BJ)Z"⟩ : MethodName)) (z := (⟨own_F, "take", "(BJ)Z"⟩ : MethodName)) hown (mvT hZ (tw16 hw)) (mvT hZ (tw17 hw)) (notFace_of_selects (args := #[]) (mvT hZ (tw19 hw))) (mvT hZ (tw19 hw)) (mvT hZ (tw18 hw)) (by decide) (backOf (W := 0) (rm3kw l Z a0 hw [] hO (((mx.toUInt32 >>> ((8 : Int32) &&& 31).toUInt32).toInt32).toInt8.toInt32) (9223372036854775807 : Int64) ba g6 ln107 (6 : Int32) T113.heap n0 Zp113 Eq113 Fq113_bytes Fq113_masked Fq113_count Fq113_opcode Fq113_last Fq113_open Fq113_length Fq113_maskAt Fq113_messageOpcode Fq113_messageBytes Fq113_dataLength Vr113 ne_hO_ba g_hO g_ba rfl (by rw [hg6, own_upd_ne _ _ (by decide), hg5, own_upd_ne _ _ (by decide), hg4, own_upd_ne _ _ (by decide), hg3, own_upd_ne _ _ (by decide), hg2, own_upd_eq]; decide) (by decide) (by decide) (by decide) (by decide) (by decide) (by decide)) hZ (tw20 hw) (tw4 hw) (by decide) (by decide)) q116a q116c (g := (mkF m 271 #[iv fl, iv mx, jv bt, .second, iv sp, jv of, .second, iv ln, iv (1 : Int32), iv (1 : Int32), iv ia, iv nn, rv pa, rv hO, iv (126 : Int32)] [(.long (9223372036854775807 : Int64)), (.int (((mx.toUInt32 >>> ((8 : Int32) &&& 31).toUInt32).toInt32).toInt8.toInt32)), (.ref hO)])) rfl (by rw [hml]; rfl) (Steps.refl _) (argsL := [(.int (((mx.toUInt32 >>> ((8 : Int32) &&& 31).toUInt32).toInt32).toInt8.toInt32)), (.long (9223372036854775807 : Int64))]) (rest := []) (lenOf pd_6 rfl) rfl (by show 2 * 0 + _ ≤ _; exact Nat.le_of_eq rfl) (hb hby at_271) (fun _ _ => ⟨rfl, rfl, (by decide : 3 + 0 ≤ _), (by decide : 33 + 0 ≤ _)⟩)
      dsimp only [Pt.U, Pt.locs, Pt.cells, Pt.slots] at X116 l116 y116 z116 st116 hQ116
      subst l116 y116 z116
      obtain ⟨rfl, N116q, Kq116, Eq116, Fq116_bytes, Fq116_masked, Fq116_count, Fq116_opcode, Fq116_last, Fq116_open, Fq116_length, Fq116_maskAt, Fq116_messageOpcode, Fq116_messageBytes, Fq116_dataLength, Vq116⟩ := hQ116
      have N116 := Fr.app N113 N116q
      have f117 := f114.keep Kq116 (ninS ne_pa_hO (ninS ne_pa_ba nin0))
      have f118 := Eq113.keep Kq116
      have Zp116 : n0 ≤ T116.heap.size := Nat.le_trans Zp113 Kq116.1
      obtain ⟨g7, hg7⟩ : ∃ z, z = (own_upd g6 6 ((((mx.toUInt32 >>> ((8 : Int32) &&& 31).toUInt32).toInt32).toInt8.toInt32)).toInt8.toInt32) := ⟨_, rfl⟩
      have Vr116 : BA Z T116.heap ba 14 g7 := by rw [hg7]; exact Vq116
      refine Wk.go (A' := T116.setTop (mkF m 274 #[iv fl, iv mx, jv bt, .second, iv sp, jv of, .second, iv ln, iv (1 : Int32), iv (1 : Int32), iv ia, iv nn, rv pa, rv hO, iv (126 : Int32)] [(.int (0 : Int32))])) (fun t k => st116.trans k) ?_
      refine Wk.go (A' := T116.setTop (mkF m 275 #[iv fl, iv mx, jv bt, .second, iv sp, jv of, .second, iv ln, iv (1 : Int32), iv (1 : Int32), iv ia, iv nn, rv pa, rv hO, iv (126 : Int32)] [])) (fun t k => XS.pop X116.here hx rfl (hb hby at_274) rfl rfl k) ?_
      refine Wk.go (A' := T116.setTop (mkF m 277 #[iv fl, iv mx, jv bt, .second, iv sp, jv of, .second, iv ln, iv (1 : Int32), iv (1 : Int32), iv ia, iv nn, rv pa, rv hO, iv (126 : Int32)] [(.ref hO)])) (fun t k => XS.aload X116.here hx rfl (hb hby at_275) rfl rfl k) ?_
      refine Wk.go (A' := T116.setTop (mkF m 278 #[iv fl, iv mx, jv bt, .second, iv sp, jv of, .second, iv ln, iv (1 : Int32), iv (1 : Int32), iv ia, iv nn, rv pa, rv hO, iv (126 : Int32)] [(.int mx), (.ref hO)])) (fun t k => XS.iloadN X116.here hx rfl (hb hby at_277) rfl k) ?_
      refine Wk.go (A' := T116.setTop (mkF m 279 #[iv fl, iv mx, jv bt, .second, iv sp, jv of, .second, iv ln, iv (1 : Int32), iv (1 : Int32), iv ia, iv nn, rv pa, rv hO, iv (126 : Int32)] [(.int (mx.toInt8.toInt32)), (.ref hO)])) (fun t k => XS.i2b X116.here hx rfl (hb hby at_278) rfl k) ?_
      refine Wk.go (A' := T116.setTop (mkF m 282 #[iv fl, iv mx, jv bt, .second, iv sp, jv of, .second, iv ln, iv (1 : Int32), iv (1 : Int32), iv ia, iv nn, rv pa, rv hO, iv (126 : Int32)] [(.long (9223372036854775807 : Int64)), (.int (mx.toInt8.toInt32)), (.ref hO)])) (fun t k => X116.ldc2Long hx hown (mvT hZ (tw15 hw)) (g := (mkF m 279 #[iv fl, iv mx, jv bt, .second, iv sp, jv of, .second, iv ln, iv (1 : Int32), iv (1 : Int32), iv ia, iv nn, rv pa, rv hO, iv (126 : Int32)] [(.int (mx.toInt8.toInt32)), (.ref hO)])) rfl (hb hby at_279) t k) ?_
      obtain ⟨cq119, kq119, q119a, q119b, q119c⟩ := isOf hZ rfl Eq116
      obtain ⟨_, _, ⟨T119, L119, k119, n119⟩, -, X119, ⟨Lc119, hQ119, l119, y119, z119⟩, st119⟩ := X116.virtualBack hx (y := (⟨own_F, "take", "(BJ)Z"⟩ : MethodName)) (z := (⟨own_F, "take", "(BJ)Z"⟩ : MethodName)) hown (mvT hZ (tw16 hw)) (mvT hZ (tw17 hw)) (notFace_of_selects (args := #[]) (mvT hZ (tw19 hw))) (mvT hZ (tw19 hw)) (mvT hZ (tw18 hw)) (by decide) (backOf (W := 0) (rm3lw l Z a0 hw [] hO (mx.toInt8.toInt32) (9223372036854775807 : Int64) ba g7 ln107 (7 : Int32) T116.heap n0 Zp116 Eq116 Fq116_bytes Fq116_masked Fq116_count Fq116_opcode Fq116_last Fq116_open Fq116_length Fq116_maskAt Fq116_messageOpcode Fq116_messageBytes Fq116_dataLength Vr116 ne_hO_ba g_hO g_ba rfl (by rw [hg7, own_upd_ne _ _ (by decide), hg6, own_upd_ne _ _ (by decide), hg5, own_upd_ne _ _ (by decide), hg4, own_upd_ne _ _ (by decide), hg3, own_upd_ne _ _ (by decide), hg2, own_upd_eq]; decide) (by decide) (by decide) (by decide) (by decide) (by decide) (by decide)) hZ (tw20 hw) (tw4 hw) (by decide) (by decide)) q119a q119c (g := (mkF m 282 #[iv fl, iv mx, jv bt, .second, iv sp, jv of, .second, iv ln, iv (1 : Int32), iv (1 : Int32), iv ia, iv nn, rv pa, rv hO, iv (126 : Int32)] [(.long (9223372036854775807 : Int64)), (.int (mx.toInt8.toInt32)), (.ref hO)])) rfl (by rw [hml]; rfl) (Steps.refl _) (argsL := [(.int (mx.toInt8.toInt32)), (.long (9223372036854775807 : Int64))]) (rest := []) (lenOf pd_6 rfl) rfl (by show 2 * 0 + _ ≤ _; exact Nat.le_of_eq rfl) (hb hby at_282) (fun _ _ => ⟨rfl, rfl, (by decide : 3 + 0 ≤ _), (by decide : 33 + 0 ≤ _)⟩)
      dsimp only [Pt.U, Pt.locs, Pt.cells, Pt.slots] at X119 l119 y119 z119 st119 hQ119
      subst l119 y119 z119
      obtain ⟨rfl, N119q, Kq119, Eq119, Fq119_bytes, Fq119_masked, Fq119_count, Fq119_opcode, Fq119_last, Fq119_open, Fq119_length, Fq119_maskAt, Fq119_messageOpcode, Fq119_messageBytes, Fq119_dataLength, Vq119⟩ := hQ119
      have N119 := Fr.app N116 N119q
      have f120 := f117.keep Kq119 (ninS ne_pa_hO (ninS ne_pa_ba nin0))
      have f121 := Eq116.keep Kq119
      have Zp119 : n0 ≤ T119.heap.size := Nat.le_trans Zp116 Kq119.1
      obtain ⟨g8, hg8⟩ : ∃ z, z = (own_upd g7 7 ((mx.toInt8.toInt32)).toInt8.toInt32) := ⟨_, rfl⟩
      have Vr119 : BA Z T119.heap ba 14 g8 := by rw [hg8]; exact Vq119
      refine Wk.go (A' := T119.setTop (mkF m 285 #[iv fl, iv mx, jv bt, .second, iv sp, jv of, .second, iv ln, iv (1 : Int32), iv (1 : Int32), iv ia, iv nn, rv pa, rv hO, iv (126 : Int32)] [(.int (1 : Int32))])) (fun t k => st119.trans k) ?_
      refine Wk.go (A' := T119.setTop (mkF m 286 #[iv fl, iv mx, jv bt, .second, iv sp, jv of, .second, iv ln, iv (1 : Int32), iv (1 : Int32), iv ia, iv nn, rv pa, rv hO, iv (126 : Int32)] [])) (fun t k => XS.pop X119.here hx rfl (hb hby at_285) rfl rfl k) ?_
      refine Wk.go (A' := T119.setTop (mkF m 288 #[iv fl, iv mx, jv bt, .second, iv sp, jv of, .second, iv ln, iv (1 : Int32), iv (1 : Int32), iv ia, iv nn, rv pa, rv hO, iv (126 : Int32)] [(.ref hO)])) (fun t k => XS.aload X119.here hx rfl (hb hby at_286) rfl rfl k) ?_
      refine Wk.go (A' := T119.setTop (mkF m 290 #[iv fl, iv mx, jv bt, .second, iv sp, jv of, .second, iv ln, iv (1 : Int32), iv (1 : Int32), iv ia, iv nn, rv pa, rv hO, iv (126 : Int32)] [(.ref pa), (.ref hO)])) (fun t k => XS.aload X119.here hx rfl (hb hby at_288) rfl rfl k) ?_
      refine Wk.go (A' := T119.setTop (mkF m 292 #[iv fl, iv mx, jv bt, .second, iv sp, jv of, .second, iv ln, iv (1 : Int32), iv (1 : Int32), iv ia, iv nn, rv pa, rv hO, iv (126 : Int32)] [(.int ia), (.ref pa), (.ref hO)])) (fun t k => XS.iload X119.here hx rfl (hb hby at_290) rfl k) ?_
      refine Wk.go (A' := T119.setTop (mkF m 294 #[iv fl, iv mx, jv bt, .second, iv sp, jv of, .second, iv ln, iv (1 : Int32), iv (1 : Int32), iv ia, iv nn, rv pa, rv hO, iv (126 : Int32)] [(.int nn), (.int ia), (.ref pa), (.ref hO)])) (fun t k => XS.iload X119.here hx rfl (hb hby at_292) rfl k) ?_
      refine Wk.go (A' := T119.setTop (mkF m 296 #[iv fl, iv mx, jv bt, .second, iv sp, jv of, .second, iv ln, iv (1 : Int32), iv (1 : Int32), iv ia, iv nn, rv pa, rv hO, iv (126 : Int32)] [(.long of), (.int nn), (.int ia), (.ref pa), (.ref hO)])) (fun t k => XS.lload X119.here hx rfl (hb hby at_294) rfl k) ?_
      obtain ⟨cq122, kq122, q122a, q122b, q122c⟩ := isOf hZ rfl Eq119
      obtain ⟨_, _, ⟨T122, L122, k122, n122⟩, -, X122, ⟨Lc122, hQ122, l122, y122, z122⟩, st122⟩ := X119.virtualBack hx (y := (⟨own_F, "unmask", "([BIIJ)V"⟩ : MethodName)) (z := (⟨own_F, "unmask", "([BIIJ)V"⟩ : MethodName)) hown (mvT hZ (tw56 hw)) (mvT hZ (tw57 hw)) (notFace_of_selects (args := #[]) (mvT hZ (tw59 hw))) (mvT hZ (tw59 hw)) (mvT hZ (tw58 hw)) (by decide) (backOf (W := 0) (rm8m l Z a0 hw [] hO pa ia nn of ba g8 p8 (4 : Int32) T119.heap n0 Zp119 Fq119_masked Fq119_bytes Fq119_maskAt Vr119 f120 (Ne.symm ne_pa_hO) (Ne.symm ne_pa_ba) g_pa hA0 hn0 hn5 hsum (by decide) (by decide)) hZ (tw60 hw) (tw4 hw) (by decide) (by decide)) q122a q122c (g := (mkF m 296 #[iv fl, iv mx, jv bt, .second, iv sp, jv of, .second, iv ln, iv (1 : Int32), iv (1 : Int32), iv ia, iv nn, rv pa, rv hO, iv (126 : Int32)] [(.long of), (.int nn), (.int ia), (.ref pa), (.ref hO)])) rfl (by rw [hml]; rfl) (Steps.refl _) (argsL := [(.ref pa), (.int ia), (.int nn), (.long of)]) (rest := []) (lenOf pd_7 rfl) rfl (by show 2 * 0 + _ ≤ _; exact Nat.le_of_eq rfl) (hb hby at_296) (fun _ _ => ⟨rfl, rfl, (by decide : 3 + 0 ≤ _), (by decide : 33 + 0 ≤ _)⟩)
      dsimp only [Pt.U, Pt.locs, Pt.cells, Pt.slots] at X122 l122 y122 z122 st122 hQ122
      subst l122 y122 z122
      obtain ⟨rfl, N122q, Kq122, Vq122⟩ := hQ122
      have N122 := Fr.app N119 N122q
      have f123 := Eq119.keep Kq122
      have f124 := Fq119_bytes.keep Kq122 (ninS (Ne.symm ne_pa_hO) nin0)
      have f125 := Fq119_masked.keep Kq122 (ninS (Ne.symm ne_pa_hO) nin0)
      have f126 := Fq119_count.keep Kq122 (ninS (Ne.symm ne_pa_hO) nin0)
      have f127 := Fq119_opcode.keep Kq122 (ninS (Ne.symm ne_pa_hO) nin0)
      have f128 := Fq119_last.keep Kq122 (ninS (Ne.symm ne_pa_hO) nin0)
      have f129 := Fq119_open.keep Kq122 (ninS (Ne.symm ne_pa_hO) nin0)
      have f130 := Fq119_length.keep Kq122 (ninS (Ne.symm ne_pa_hO) nin0)
      have f131 := Fq119_maskAt.keep Kq122 (ninS (Ne.symm ne_pa_hO) nin0)
      have f132 := Fq119_messageOpcode.keep Kq122 (ninS (Ne.symm ne_pa_hO) nin0)
      have f133 := Fq119_messageBytes.keep Kq122 (ninS (Ne.symm ne_pa_hO) nin0)
      have f134 := Fq119_dataLength.keep Kq122 (ninS (Ne.symm ne_pa_hO) nin0)
      have f135 := Vr119.keep Kq122 (ninS (Ne.symm ne_pa_ba) nin0)
      have Zp122 : n0 ≤ T122.heap.size := Nat.le_trans Zp119 Kq122.1
      obtain ⟨fU, hfU⟩ : ∃ z, z = own_un p8 g8 ((4 : Int32)) ia of nn := ⟨_, rfl⟩
      rw [← hfU] at Vq122
      refine Wk.go (A' := T122.setTop (mkF m 299 #[iv fl, iv mx, jv bt, .second, iv sp, jv of, .second, iv ln, iv (1 : Int32), iv (1 : Int32), iv ia, iv nn, rv pa, rv hO, iv (126 : Int32)] [])) (fun t k => st122.trans k) ?_
      exact cut299 hO (126 : Int32) fU T122 T122.heap _ X122 rfl N122 Zp122 Vq122 (own_cell_m pa bt of mx (4 : Int32) p8 _ fU hA0 hn0 hsum hpay hfU (own_keys 4 (by decide) mx _ (by simp [hg8, hg7, hg6, hg5, hg4, hg3, hg2, hg1, own_upd]) (by simp [hg8, hg7, hg6, hg5, hg4, hg3, hg2, hg1, own_upd]) (by simp [hg8, hg7, hg6, hg5, hg4, hg3, hg2, hg1, own_upd]) (by simp [hg8, hg7, hg6, hg5, hg4, hg3, hg2, hg1, own_upd])))
set_option maxRecDepth 65536 in
set_option maxHeartbeats 40000000 in
theorem comes_1 {Post : Tables → Env → Array Value → State → Outcome → State → Prop} (hpost : ∀ tb e args s v u, (limb_1_1.after args s (.returned v) u = true ∧ limb_1_2.after args s (.returned v) u = true ∧ True) → FrameEnd s (.returned v) u (Jvm.fieldLocs frame_1_writes args s ++ Jvm.arrayLocs frame_1_arrays args s ++ Jvm.staticLocs frame_1_statics s) 16 192 → Post tb e args s (.returned v) u) :
    ArmFor flags0 classFile x code maxLocals ret World_1 tables_1 room_1 Calls_1 rest_1 Pre_1 Post := by
  intro l hfl _ _ p e ha hc hk s m args below hf hA hF happ hP
  obtain ⟨hcalls, hrest, hpre⟩ := hP
  obtain ⟨-, -, -, hnamed, -, -, -, hat⟩ := (Spec.applies_iff hf).mp happ
  obtain ⟨hg, hn⟩ := and_e (Cond.before_iff.mp (show (Jvm.Cond.and given_1 narrow_1).before args s = true from hpre))
  obtain ⟨hcnt, g0⟩ := and_e hg
  obtain ⟨ga0, g1⟩ := and_e g0
  obtain ⟨ga1, g2⟩ := and_e g1
  obtain ⟨ga2, g3⟩ := and_e g2
  obtain ⟨ga3, g4⟩ := and_e g3
  obtain ⟨ga4, g5⟩ := and_e g4
  obtain ⟨w0, w1, w2, w3, w4, w5, rfl⟩ : ∃ w0 w1 w2 w3 w4 w5 : Value, args = #[w0, w1, w2, w3, w4, w5] := by
    have hs : args.size = 6 := by simpa [Cond.value, given_1] using hcnt
    obtain ⟨L⟩ := args
    match L, hs with
    | [w0, w1, w2, w3, w4, w5], _ => exact ⟨w0, w1, w2, w3, w4, w5, rfl⟩
  have hw := fun d (hd : d ∈ tables_1) => atoms_spec (ws := Jvm.Cond.code x code maxLocals ret :: tables_1) hat d (List.mem_cons_of_mem _ hd)
  obtain ⟨i0, ei0⟩ := is_v ga0
  obtain rfl : w0 = (.int i0) := Option.some.inj ei0
  obtain ⟨i1, ei1⟩ := is_v ga1
  obtain rfl : w1 = (.int i1) := Option.some.inj ei1
  obtain ⟨i2, ei2⟩ := isL_v ga2
  obtain rfl : w2 = (.long i2) := Option.some.inj ei2
  obtain ⟨i3, ei3⟩ := is_v ga3
  obtain rfl : w3 = (.int i3) := Option.some.inj ei3
  obtain ⟨i4, ei4⟩ := isL_v ga4
  obtain rfl : w4 = (.long i4) := Option.some.inj ei4
  obtain ⟨i5, ei5⟩ := is_v g5
  obtain rfl : w5 = (.int i5) := Option.some.inj ei5
  obtain ⟨n, o, h1, h2, h3, _, L, rfl, ⟨rfl, N⟩, hq⟩ := rm0 l s _ hw tables_1 i0 i1 i2 i3 i4 i5  s.heap s.heap.size (Nat.le_refl _)  p e ha hc hk s m _ below hf ((Spec.applies_iff_loose hf).mp happ).1 ⟨rfl, State.Warmed39.refl s, rfl⟩ trivial
  refine ⟨n, _, h1, h2, h3, hpost _ _ _ _ _ _ ⟨Cond.after_iff.mpr rfl, Cond.after_iff.mpr (eq_i res_at (Term.int_eval (1)) rfl), trivial⟩ ⟨hq.1, hq.2.1, (hq.2.2.sift fun y hy => Or.inr (N y hy)).mono (by decide) (by decide)⟩⟩
theorem main_1_1 : Claimed_1_1 := comes_1 fun _ _ _ _ _ _ h hF => ⟨h.1, hF⟩
theorem main_1_2 : Claimed_1_2 := comes_1 fun _ _ _ _ _ _ h hF => ⟨h.2.1, hF⟩
end Jvm.Pilot.@@N@@
namespace Jvm.Pilot.@@N@@
open Jvm Jvm.ClassFile Sem Op Lib Jvm.Free Jvm.Stand Jvm.Pilot.@@N@@.Jvm.D
/-! MADE BY PROGRAM (witnessworld.py) out of the Statement's table words and the real class files: 9 classes; the members and pool entries that the words name. The judged class is class 1, her method 1. -/
namespace start1
open Jvm.ClassFile
def u (s : String) : CpInfo := .utf8 (stringToUtf16 s)
/-- a pool by its gaps: so many unusable entries, then the entry; so many at the end -/
def gap : Nat → List CpInfo → List CpInfo
  | 0, r => r
  | n + 1, r => .unusable :: gap n r
def poolList (es : List (Nat × CpInfo)) (last : Nat) : List CpInfo := es.foldr (fun e r => gap e.1 (e.2 :: r)) (gap last [])
def pool (es : List (Nat × CpInfo)) (last : Nat) : Array CpInfo := ⟨poolList es last⟩
def fileOf (pool : Array CpInfo) (this : Nat) (attrs : Array Attribute := #[]) (ms : Array MethodInfo := #[]) (fl : Nat := 33) (sup : Nat := 0) (ifs : Array Nat := #[]) (fds : Array FieldInfo := #[]) : ClassFile where
  minorVersion := 0
  majorVersion := 65
  constantPool := pool
  accessFlags := fl
  thisClass := this
  superClass := sup
  interfaces := ifs
  fields := fds
  methods := ms
  attributes := attrs
def plain (name : String) (sup : Option ClassId) : Class where
  name := name
  kind := .ordinary
  loader := none
  accessFlags := 33
  super := sup
  interfaces := #[]
  cf := none
  fields := #[]
  methods := #[]
  instanceTypes := #[]
  staticTypes := #[]
  resolved := #[]
  callSites := []
  init := .initialized
  statics := none
  mirror := none

def pool0 : Array CpInfo := pool [(5, u "<init>"), (0, u "()V"), (1, .class_ 10), (1, u "java/lang/Object")] 113

def k0c0 : Code := { maxStack := 0, maxLocals := 1, code := object_method_1_code, exceptionTable := #[], attributes := #[] }
def k0m0 : Method := { name := "<init>", desc := "()V", sig := { parameters := [], returnType := none }, accessFlags := 1, code := some k0c0 }
/-- java/lang/Object -/
def k0 : Class := { plain "java/lang/Object" none with
  accessFlags := 33
  interfaces := #[]
  cf := some (fileOf pool0 8 #[] #[{ accessFlags := 1, nameIndex := 5, descriptorIndex := 6, attributes := #[] }] 33 0 #[] #[])
  fields := #[]
  methods := #[k0m0]
  instanceTypes := #[]
  staticTypes := #[]
  resolved := Array.replicate 124 none
  statics := none }

def pool1 : Array CpInfo := pool [(2, .class_ 4), (1, u "java/lang/Object"), (0, u "<init>"), (0, u "()V"), (0, .integer 65535), (0, .class_ 9), (0, u "com/example/dense_envelope/denseenvelope/websocket/FrameHeader"), (0, .methodref 8 11), (0, .nameAndType 5 12), (0, u "(Z)V"), (2, .long 9223372036854775807), (1, .methodref 8 18), (0, .nameAndType 19 20), (0, u "take"), (0, u "(BJ)Z"), (0, .methodref 8 22), (0, .nameAndType 23 24), (0, u "unmask"), (0, u "([BIIJ)V"), (0, .methodref 26 27), (0, .class_ 28), (0, .nameAndType 29 30), (0, u "com/example/dense_envelope/denseenvelope/websocket/FrameHeaderUnmaskPinLaw"), (0, u "cell"), (0, u "([BJIIIJIZ)Z"), (0, .long 3), (3, u "law"), (0, u "(IIJIJI)Z")] 8

def k1m0 : Method := { name := "<init>", desc := "()V", sig := { parameters := [], returnType := none }, accessFlags := 1, code := none }
def k1c1 : Code := { maxStack := 10, maxLocals := 15, code := code, exceptionTable := #[], attributes := #[] }
def k1m1 : Method := { name := "law", desc := "(IIJIJI)Z", sig := { parameters := [.int, .int, .long, .int, .long, .int], returnType := some .boolean }, accessFlags := 9, code := some k1c1 }
def k1c2 : Code := { maxStack := 4, maxLocals := 13, code := method_3_code, exceptionTable := #[], attributes := #[] }
def k1m2 : Method := { name := "cell", desc := "([BJIIIJIZ)Z", sig := { parameters := [(.array .byte), .long, .int, .int, .int, .long, .int, .boolean], returnType := some .boolean }, accessFlags := 10, code := some k1c2 }
/-- com/example/dense_envelope/denseenvelope/websocket/FrameHeaderUnmaskPinLaw -/
def k1 : Class := { plain "com/example/dense_envelope/denseenvelope/websocket/FrameHeaderUnmaskPinLaw" (some 0) with
  accessFlags := 49
  interfaces := #[]
  cf := some (fileOf pool1 26 #[] #[{ accessFlags := 1, nameIndex := 5, descriptorIndex := 6, attributes := #[] }, { accessFlags := 9, nameIndex := 35, descriptorIndex := 36, attributes := #[] }, { accessFlags := 10, nameIndex := 29, descriptorIndex := 30, attributes := #[] }] 49 2 #[] #[])
  fields := #[]
  methods := #[k1m0, k1m1, k1m2]
  instanceTypes := #[]
  staticTypes := #[]
  resolved := Array.replicate 45 none
  statics := none }

def pool2 : Array CpInfo := pool [(1, .methodref 2 3), (0, .class_ 4), (0, .nameAndType 5 6), (0, u "java/lang/Object"), (0, u "<init>"), (0, u "()V"), (0, .fieldref 8 9), (0, .class_ 10), (0, .nameAndType 11 12), (0, u "com/example/dense_envelope/denseenvelope/websocket/FrameHeader"), (0, u "bytes"), (0, u "[B"), (0, .fieldref 8 14), (0, .nameAndType 15 16), (0, u "masked"), (0, u "Z"), (0, .fieldref 8 18), (0, .nameAndType 19 20), (0, u "count"), (0, u "I"), (0, .methodref 8 22), (0, .nameAndType 23 6), (0, u "checkStart"), (0, .methodref 8 25), (0, .nameAndType 26 27), (0, u "lengthEnd"), (0, u "()I"), (0, .methodref 8 29), (0, .nameAndType 30 31), (0, u "announce"), (0, u "(J)V"), (0, .fieldref 8 33), (0, .nameAndType 34 20), (0, u "opcode"), (2, .fieldref 8 38), (0, .nameAndType 39 16), (0, u "last"), (0, .fieldref 8 41), (0, .nameAndType 42 43), (0, u "length"), (0, u "J"), (0, .fieldref 8 45), (0, .nameAndType 46 20), (0, u "messageOpcode"), (0, .fieldref 8 48), (0, .nameAndType 49 43), (0, u "messageBytes"), (0, .fieldref 8 51), (0, .nameAndType 52 20), (0, u "maskAt"), (0, .long 3), (15, .methodref 8 70), (0, .nameAndType 71 72), (0, u "isControl"), (0, u "()Z"), (4, .fieldref 8 78), (0, .nameAndType 79 16), (0, u "open"), (6, .fieldref 8 87), (0, .nameAndType 88 43), (0, u "dataLength"), (10, u "(Z)V"), (2, u "take"), (0, u "(BJ)Z"), (3, u "unmask"), (0, u "([BIIJ)V")] 19

def k2c0 : Code := { maxStack := 2, maxLocals := 2, code := prog_100_method_1_code, exceptionTable := #[], attributes := #[] }
def k2m0 : Method := { name := "<init>", desc := "(Z)V", sig := { parameters := [.boolean], returnType := none }, accessFlags := 1, code := some k2c0 }
def k2c1 : Code := { maxStack := 5, maxLocals := 4, code := prog_100_method_2_code, exceptionTable := #[], attributes := #[] }
def k2m1 : Method := { name := "take", desc := "(BJ)Z", sig := { parameters := [.byte, .long], returnType := some .boolean }, accessFlags := 1, code := some k2c1 }
def k2c2 : Code := { maxStack := 2, maxLocals := 1, code := prog_100_method_4_code, exceptionTable := #[], attributes := #[] }
def k2m2 : Method := { name := "isControl", desc := "()Z", sig := { parameters := [], returnType := some .boolean }, accessFlags := 1, code := some k2c2 }
def k2c3 : Code := { maxStack := 9, maxLocals := 7, code := prog_100_method_9_code, exceptionTable := #[], attributes := #[] }
def k2m3 : Method := { name := "unmask", desc := "([BIIJ)V", sig := { parameters := [(.array .byte), .int, .int, .long], returnType := none }, accessFlags := 1, code := some k2c3 }
def k2c4 : Code := { maxStack := 3, maxLocals := 1, code := prog_100_method_10_code, exceptionTable := #[], attributes := #[] }
def k2m4 : Method := { name := "checkStart", desc := "()V", sig := { parameters := [], returnType := none }, accessFlags := 2, code := some k2c4 }
def k2c5 : Code := { maxStack := 5, maxLocals := 8, code := prog_100_method_11_code, exceptionTable := #[], attributes := #[] }
def k2m5 : Method := { name := "announce", desc := "(J)V", sig := { parameters := [.long], returnType := none }, accessFlags := 2, code := some k2c5 }
def k2c6 : Code := { maxStack := 3, maxLocals := 2, code := prog_100_method_12_code, exceptionTable := #[], attributes := #[] }
def k2m6 : Method := { name := "lengthEnd", desc := "()I", sig := { parameters := [], returnType := some .int }, accessFlags := 2, code := some k2c6 }
/-- com/example/dense_envelope/denseenvelope/websocket/FrameHeader -/
def k2 : Class := { plain "com/example/dense_envelope/denseenvelope/websocket/FrameHeader" (some 0) with
  accessFlags := 49
  interfaces := #[]
  cf := some (fileOf pool2 8 #[] #[{ accessFlags := 1, nameIndex := 5, descriptorIndex := 99, attributes := #[] }, { accessFlags := 1, nameIndex := 102, descriptorIndex := 103, attributes := #[] }, { accessFlags := 1, nameIndex := 71, descriptorIndex := 72, attributes := #[] }, { accessFlags := 1, nameIndex := 107, descriptorIndex := 108, attributes := #[] }, { accessFlags := 2, nameIndex := 23, descriptorIndex := 6, attributes := #[] }, { accessFlags := 2, nameIndex := 30, descriptorIndex := 31, attributes := #[] }, { accessFlags := 2, nameIndex := 26, descriptorIndex := 27, attributes := #[] }] 49 2 #[] #[{ accessFlags := 18, nameIndex := 15, descriptorIndex := 16, attributes := #[] }, { accessFlags := 18, nameIndex := 11, descriptorIndex := 12, attributes := #[] }, { accessFlags := 2, nameIndex := 19, descriptorIndex := 20, attributes := #[] }, { accessFlags := 2, nameIndex := 34, descriptorIndex := 20, attributes := #[] }, { accessFlags := 2, nameIndex := 39, descriptorIndex := 16, attributes := #[] }, { accessFlags := 2, nameIndex := 42, descriptorIndex := 43, attributes := #[] }, { accessFlags := 2, nameIndex := 52, descriptorIndex := 20, attributes := #[] }, { accessFlags := 2, nameIndex := 79, descriptorIndex := 16, attributes := #[] }, { accessFlags := 2, nameIndex := 46, descriptorIndex := 20, attributes := #[] }, { accessFlags := 2, nameIndex := 49, descriptorIndex := 43, attributes := #[] }, { accessFlags := 2, nameIndex := 88, descriptorIndex := 43, attributes := #[] }])
  fields := #[{ name := "masked", type := .boolean, accessFlags := 18, slot := 0, constantValue := 0 }, { name := "bytes", type := (.array .byte), accessFlags := 18, slot := 1, constantValue := 0 }, { name := "count", type := .int, accessFlags := 2, slot := 2, constantValue := 0 }, { name := "opcode", type := .int, accessFlags := 2, slot := 3, constantValue := 0 }, { name := "last", type := .boolean, accessFlags := 2, slot := 4, constantValue := 0 }, { name := "length", type := .long, accessFlags := 2, slot := 5, constantValue := 0 }, { name := "maskAt", type := .int, accessFlags := 2, slot := 6, constantValue := 0 }, { name := "open", type := .boolean, accessFlags := 2, slot := 7, constantValue := 0 }, { name := "messageOpcode", type := .int, accessFlags := 2, slot := 8, constantValue := 0 }, { name := "messageBytes", type := .long, accessFlags := 2, slot := 9, constantValue := 0 }, { name := "dataLength", type := .long, accessFlags := 2, slot := 10, constantValue := 0 }]
  methods := #[k2m0, k2m1, k2m2, k2m3, k2m4, k2m5, k2m6]
  instanceTypes := #[.boolean, (.array .byte), .int, .int, .boolean, .long, .int, .boolean, .int, .long, .long]
  staticTypes := #[]
  resolved := Array.replicate 128 none
  statics := none }

def pool3 : Array CpInfo := pool [(1, u "java/lang/Cloneable"), (0, .class_ 1), (0, u "java/lang/Object"), (0, .class_ 3)] 3

/-- java/lang/Cloneable -/
def k3 : Class := { plain "java/lang/Cloneable" (some 0) with
  accessFlags := 1537
  interfaces := #[]
  cf := some (fileOf pool3 2 #[] #[] 1537 4 #[] #[])
  fields := #[]
  methods := #[]
  instanceTypes := #[]
  staticTypes := #[]
  resolved := Array.replicate 8 none
  statics := none }

def pool4 : Array CpInfo := pool [(1, u "java/io/Serializable"), (0, .class_ 1), (0, u "java/lang/Object"), (0, .class_ 3)] 3

/-- java/io/Serializable -/
def k4 : Class := { plain "java/io/Serializable" (some 0) with
  accessFlags := 1537
  interfaces := #[]
  cf := some (fileOf pool4 2 #[] #[] 1537 4 #[] #[])
  fields := #[]
  methods := #[]
  instanceTypes := #[]
  staticTypes := #[]
  resolved := Array.replicate 8 none
  statics := none }

/-- the primitive byte -/
def k5 : Class := { plain "byte" none with kind := .primitive 'B', accessFlags := 0x411 }
/-- [B -/
def k6 : Class := { plain "[B" (some 0) with kind := .array 5 .byte, interfaces := #[3, 4], accessFlags := 1041 }

/-- the primitive int -/
def k7 : Class := { plain "int" none with kind := .primitive 'I', accessFlags := 0x411 }
/-- [I -/
def k8 : Class := { plain "[I" (some 0) with kind := .array 7 .int, interfaces := #[3, 4], accessFlags := 1041 }

def heap : Heap := #[]
def classes : Array Class := #[k0, k1, k2, k3, k4, k5, k6, k7, k8]
def interned : List (Array UInt16 × Addr) := []
def slotsUsed : Nat := 0
def theMethod : MethodId := ⟨1, 1⟩
def args0 : Array Value := #[.int 3, .int 5, .long 7, .int 9, .long 2, .int 6]
def aboutOver (below : List Frame) : State where
  vm := { classes := classes, interned := interned.toArray }
  heap := heap
  slotsUsed := slotsUsed
  threads := #[{ frames := .invoking theMethod args0 :: below }]
def below0 : List Frame := [.native { method := ⟨0, 0⟩, args := #[] }]
def about1 : State := aboutOver below0
def p0 : Program := .bare "" "" ""
def e0 : Env := launch0.env 0 0 0
theorem w_frames : about1.frames = Frame.invoking theMethod args0 :: below0 := rfl
set_option maxRecDepth 65536 in
theorem w_args : argsFit about1.vm theMethod args0 = true := by decide +kernel
set_option maxRecDepth 65536 in
theorem w_heap : heapFits about1 = true := by decide +kernel
set_option maxRecDepth 65536 in
theorem w_runnable : about1.curStatus? = some .runnable := by decide +kernel
set_option maxRecDepth 65536 in
theorem w_alone : about1.alone = true := by decide +kernel
set_option maxRecDepth 65536 in
theorem w_named : about1.methodNamed? x = some theMethod := by decide +kernel
set_option maxRecDepth 65536 in
theorem w_hears : about1.hears theMethod below0 = true := by decide +kernel
set_option maxRecDepth 65536 in
theorem w_ripe : about1.ripe theMethod args0 below0 = true := by decide +kernel
theorem w_running : about1.status = .running := rfl
set_option maxRecDepth 65536 in
theorem w_room : about1.hasRoom e0.platform room_1 = true :=
  launch0.hasRoom_least _ room_1 (by decide +kernel) (by decide +kernel) (by decide +kernel) (by decide +kernel) (by decide +kernel) (by decide +kernel)
theorem allAtoms_all (ts : List Jvm.Cond) (a : Array Jvm.Value) (st : Jvm.State) : (allAtoms ts).before a st = ts.all (fun c => c.before a st) := by
  induction ts with
  | nil => rfl
  | cons c t ih =>
    show (Jvm.Cond.and c (allAtoms t)).before a st = _
    rw [Jvm.Cond.before_and, ih, List.all_cons]
def words1 : List Jvm.Cond := Jvm.Cond.code x code maxLocals ret :: tables_1
/-- a 'code' word, met by the world's own term for the bytes: nothing is compared byte by byte -/
theorem code_word {y : MethodName} {bytes : ByteArray} {mx : Nat} {rt : Option FieldType} {a : Array Value} {s : State} {m : MethodId} {meth : Method} {c : Code} (h1 : s.methodNamed? y = some m) (h2 : s.vm.method? m = some meth) (h3 : meth.code = some c) (h4 : c.code = bytes)
    (h5 : (c.maxLocals == mx && c.exceptionTable.isEmpty && decide (c.maxStack ≤ mostOperands) && decide (meth.sig.returnType = rt) && !meth.locks && decide (parseMethodDescriptor y.desc = some meth.sig)) = true) : (Jvm.Cond.code y bytes mx rt).before a s = true := by
  simp only [Bool.and_eq_true, beq_iff_eq, Bool.not_eq_true', decide_eq_true_eq] at h5
  obtain ⟨⟨⟨⟨⟨g1, g2⟩, g3⟩, g4⟩, g5⟩, g6⟩ := h5
  simp [Cond.before, Cond.holds, Cond.value, h1, h2, h3, h4, g1, g2, g3, g4, g5, g6]
def isCode : Jvm.Cond → Bool
  | .code _ _ _ _ => true
  | _ => false
theorem all_split {L : List Jvm.Cond} {P : Jvm.Cond → Bool} (h1 : L.all (fun c => isCode c || P c) = true) (h2 : ∀ c ∈ L.filter isCode, P c = true) : L.all P = true := by
  refine List.all_eq_true.mpr fun c hc => ?_
  have h := List.all_eq_true.mp h1 c hc
  rcases Bool.eq_false_or_eq_true (isCode c) with hi | hi
  · exact h2 c (List.mem_filter.mpr ⟨hc, hi⟩)
  · simpa [hi] using h
set_option maxRecDepth 65536 in
theorem w_c0 : (Jvm.Cond.code x code maxLocals ret).before args0 about1 = true := code_word (m := ⟨1, 1⟩) (meth := k1m1) (c := k1c1) (by decide +kernel) rfl rfl rfl (by decide +kernel)
set_option maxRecDepth 65536 in
theorem w_c1 : (Jvm.Cond.code ({ cls := "com/example/dense_envelope/denseenvelope/websocket/FrameHeader", name := "<init>", desc := "(Z)V" } : Jvm.MethodName) prog_100_method_1_code (2 : Nat) (Option.none : Option Jvm.ClassFile.FieldType)).before args0 about1 = true := code_word (m := ⟨2, 0⟩) (meth := k2m0) (c := k2c0) (by decide +kernel) rfl rfl rfl (by decide +kernel)
set_option maxRecDepth 65536 in
theorem w_c2 : (Jvm.Cond.code ({ cls := "java/lang/Object", name := "<init>", desc := "()V" } : Jvm.MethodName) object_method_1_code (1 : Nat) (Option.none : Option Jvm.ClassFile.FieldType)).before args0 about1 = true := code_word (m := ⟨0, 0⟩) (meth := k0m0) (c := k0c0) (by decide +kernel) rfl rfl rfl (by decide +kernel)
set_option maxRecDepth 65536 in
theorem w_c3 : (Jvm.Cond.code ({ cls := "com/example/dense_envelope/denseenvelope/websocket/FrameHeader", name := "take", desc := "(BJ)Z" } : Jvm.MethodName) prog_100_method_2_code (4 : Nat) (Option.some Jvm.ClassFile.FieldType.boolean)).before args0 about1 = true := code_word (m := ⟨2, 1⟩) (meth := k2m1) (c := k2c1) (by decide +kernel) rfl rfl rfl (by decide +kernel)
set_option maxRecDepth 65536 in
theorem w_c4 : (Jvm.Cond.code ({ cls := "com/example/dense_envelope/denseenvelope/websocket/FrameHeader", name := "lengthEnd", desc := "()I" } : Jvm.MethodName) prog_100_method_12_code (2 : Nat) (Option.some Jvm.ClassFile.FieldType.int)).before args0 about1 = true := code_word (m := ⟨2, 6⟩) (meth := k2m6) (c := k2c6) (by decide +kernel) rfl rfl rfl (by decide +kernel)
set_option maxRecDepth 65536 in
theorem w_c5 : (Jvm.Cond.code ({ cls := "com/example/dense_envelope/denseenvelope/websocket/FrameHeader", name := "checkStart", desc := "()V" } : Jvm.MethodName) prog_100_method_10_code (1 : Nat) (Option.none : Option Jvm.ClassFile.FieldType)).before args0 about1 = true := code_word (m := ⟨2, 4⟩) (meth := k2m4) (c := k2c4) (by decide +kernel) rfl rfl rfl (by decide +kernel)
set_option maxRecDepth 65536 in
theorem w_c6 : (Jvm.Cond.code ({ cls := "com/example/dense_envelope/denseenvelope/websocket/FrameHeader", name := "isControl", desc := "()Z" } : Jvm.MethodName) prog_100_method_4_code (1 : Nat) (Option.some Jvm.ClassFile.FieldType.boolean)).before args0 about1 = true := code_word (m := ⟨2, 2⟩) (meth := k2m2) (c := k2c2) (by decide +kernel) rfl rfl rfl (by decide +kernel)
set_option maxRecDepth 65536 in
theorem w_c7 : (Jvm.Cond.code ({ cls := "com/example/dense_envelope/denseenvelope/websocket/FrameHeader", name := "announce", desc := "(J)V" } : Jvm.MethodName) prog_100_method_11_code (8 : Nat) (Option.none : Option Jvm.ClassFile.FieldType)).before args0 about1 = true := code_word (m := ⟨2, 5⟩) (meth := k2m5) (c := k2c5) (by decide +kernel) rfl rfl rfl (by decide +kernel)
set_option maxRecDepth 65536 in
theorem w_c8 : (Jvm.Cond.code ({ cls := "com/example/dense_envelope/denseenvelope/websocket/FrameHeader", name := "unmask", desc := "([BIIJ)V" } : Jvm.MethodName) prog_100_method_9_code (7 : Nat) (Option.none : Option Jvm.ClassFile.FieldType)).before args0 about1 = true := code_word (m := ⟨2, 3⟩) (meth := k2m3) (c := k2c3) (by decide +kernel) rfl rfl rfl (by decide +kernel)
set_option maxRecDepth 65536 in
theorem w_c9 : (Jvm.Cond.code ({ cls := "com/example/dense_envelope/denseenvelope/websocket/FrameHeaderUnmaskPinLaw", name := "cell", desc := "([BJIIIJIZ)Z" } : Jvm.MethodName) method_3_code (13 : Nat) (Option.some Jvm.ClassFile.FieldType.boolean)).before args0 about1 = true := code_word (m := ⟨1, 2⟩) (meth := k1m2) (c := k1c2) (by decide +kernel) rfl rfl rfl (by decide +kernel)
def codes1 : List Jvm.Cond := [Jvm.Cond.code x code maxLocals ret, Jvm.Cond.code ({ cls := "com/example/dense_envelope/denseenvelope/websocket/FrameHeader", name := "<init>", desc := "(Z)V" } : Jvm.MethodName) prog_100_method_1_code (2 : Nat) (Option.none : Option Jvm.ClassFile.FieldType), Jvm.Cond.code ({ cls := "java/lang/Object", name := "<init>", desc := "()V" } : Jvm.MethodName) object_method_1_code (1 : Nat) (Option.none : Option Jvm.ClassFile.FieldType), Jvm.Cond.code ({ cls := "com/example/dense_envelope/denseenvelope/websocket/FrameHeader", name := "take", desc := "(BJ)Z" } : Jvm.MethodName) prog_100_method_2_code (4 : Nat) (Option.some Jvm.ClassFile.FieldType.boolean), Jvm.Cond.code ({ cls := "com/example/dense_envelope/denseenvelope/websocket/FrameHeader", name := "lengthEnd", desc := "()I" } : Jvm.MethodName) prog_100_method_12_code (2 : Nat) (Option.some Jvm.ClassFile.FieldType.int), Jvm.Cond.code ({ cls := "com/example/dense_envelope/denseenvelope/websocket/FrameHeader", name := "checkStart", desc := "()V" } : Jvm.MethodName) prog_100_method_10_code (1 : Nat) (Option.none : Option Jvm.ClassFile.FieldType), Jvm.Cond.code ({ cls := "com/example/dense_envelope/denseenvelope/websocket/FrameHeader", name := "isControl", desc := "()Z" } : Jvm.MethodName) prog_100_method_4_code (1 : Nat) (Option.some Jvm.ClassFile.FieldType.boolean), Jvm.Cond.code ({ cls := "com/example/dense_envelope/denseenvelope/websocket/FrameHeader", name := "announce", desc := "(J)V" } : Jvm.MethodName) prog_100_method_11_code (8 : Nat) (Option.none : Option Jvm.ClassFile.FieldType), Jvm.Cond.code ({ cls := "com/example/dense_envelope/denseenvelope/websocket/FrameHeader", name := "unmask", desc := "([BIIJ)V" } : Jvm.MethodName) prog_100_method_9_code (7 : Nat) (Option.none : Option Jvm.ClassFile.FieldType), Jvm.Cond.code ({ cls := "com/example/dense_envelope/denseenvelope/websocket/FrameHeaderUnmaskPinLaw", name := "cell", desc := "([BJIIIJIZ)Z" } : Jvm.MethodName) method_3_code (13 : Nat) (Option.some Jvm.ClassFile.FieldType.boolean)]
set_option maxRecDepth 65536 in
theorem codes_eq : words1.filter isCode = codes1 := rfl
theorem w_codes : ∀ c ∈ words1.filter isCode, c.before args0 about1 = true := by
  rw [codes_eq]
  intro c hc
  simp only [codes1, List.mem_cons, List.not_mem_nil, or_false] at hc
  rcases hc with rfl | rfl | rfl | rfl | rfl | rfl | rfl | rfl | rfl | rfl
  · exact w_c0
  · exact w_c1
  · exact w_c2
  · exact w_c3
  · exact w_c4
  · exact w_c5
  · exact w_c6
  · exact w_c7
  · exact w_c8
  · exact w_c9
set_option maxRecDepth 65536 in
theorem w_t1 : (words1.take 24).all (fun c => isCode c || c.before args0 about1) = true := by decide +kernel
set_option maxRecDepth 65536 in
theorem w_t2 : ((words1.drop 24).take 24).all (fun c => isCode c || c.before args0 about1) = true := by decide +kernel
set_option maxRecDepth 65536 in
theorem w_t3 : ((words1.drop 24).drop 24).all (fun c => isCode c || c.before args0 about1) = true := by decide +kernel
theorem w_tables : (allAtoms (Jvm.Cond.code x code maxLocals ret :: tables_1)).before args0 about1 = true := by
  rw [allAtoms_all]
  show words1.all (fun c => c.before args0 about1) = true
  refine all_split ?_ w_codes
  rw [← List.take_append_drop 24 words1, List.all_append, w_t1, ← List.take_append_drop 24 (words1.drop 24), List.all_append, w_t2, w_t3]
  rfl
set_option maxRecDepth 65536 in
theorem w_case : (Jvm.Cond.and given_1 narrow_1).before args0 about1 = true := by decide +kernel
theorem w_applies : (headSpec (Jvm.Cond.code x code maxLocals ret :: tables_1) room_1).applies x e0.platform about1 = true :=
  (Spec.applies_iff w_frames).mpr ⟨w_running, w_runnable, w_alone, w_named, w_hears, w_ripe, w_room, w_tables⟩
theorem atStart : AtStart classFile x code maxLocals ret World_1 tables_1 room_1 Calls_1 rest_1 Pre_1 launch0 p0 e0 about1 theMethod args0 below0 :=
  ⟨lists_1, trivial, launch0.admits_env _ _ _, launch0.least_env, fairChoices_fair.cas, fairChoices_fair.clock, w_frames, w_args, w_heap, w_applies, trivial, trivial, w_case⟩
end start1
theorem witness_1 : WitnessClaimed_1 := ⟨start1.p0, start1.e0, start1.about1, start1.theMethod, start1.args0, start1.below0, start1.atStart⟩
end Jvm.Pilot.@@N@@
