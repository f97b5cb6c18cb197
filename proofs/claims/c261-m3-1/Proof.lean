import JvmDerived
import JvmDerived.Pilot.@@N@@Statement
import JvmDerived.Pilot.@@N@@Code
set_option linter.unusedVariables false
set_option linter.unusedSimpArgs false
namespace Jvm.RoadKit
open Sem ClassFile Op Lib Jvm.Stand Jvm.Free Jvm.LawKit
section New
variable {p : Program} {l : Launch} {e : Env} {R : Room} {s : State} {m : MethodId} {args : Array Value} {below : List Frame} {meth : Method} {c : Code} {T : State} {locs : List Loc} {cells slots : Nat}
theorem retI (X : Stand p l e R s m args below meth c T locs cells slots) (hx : p.tables.exec = Jvm.exec) {pc : Nat} {Ls : Array Slot} {z : Int32} {rest : List Value} (hret : meth.sig.returnType = some .int) (hd : decode c.code pc = .ok (.ireturn, 1)) {fs : List Frame}
    (hl : ∀ (f : JFrame) (acts : List Action), f.method = m → f.locked = none → f.entered = [] → (doReturn e (T.setTop f) acts (some (.int z))).1 = T.setFrames fs) : Steps p.tables e below (T.setTop (mkF m pc Ls (.int z :: rest))) (T.setFrames fs) := by
  have hm' : T.vm.method? m = some meth := X.method'
  have hn : narrow .int (.int z) = .int z := rfl
  show Steps p.tables e below (T.setTop { method := m, pc := pc, locals := Ls, stack := _ :: rest, locked := none }) _
  jvm_step X.here [X.here.top, hx, hd, hm', hret, hn]
  first | (intro acts; rw [hl _ acts rfl rfl rfl]) | rw [hl _ _ rfl rfl rfl]
  exact Steps.refl _
abbrev jv (x : Int64) : Slot := .val (.long x)
/-- from A the run goes on to an end of which R holds -/
def Wk (tb : Tables) (e : Env) (below : List Frame) (A : State) (R : State → Outcome → Prop) : Prop := ∃ U o, Steps tb e below A U ∧ R U o
theorem Wk.go {tb : Tables} {A A' : State} {R : State → Outcome → Prop} (h : ∀ t, Steps tb e below A' t → Steps tb e below A t) (k : Wk tb e below A' R) : Wk tb e below A R := by
  obtain ⟨U, o, k1, k2⟩ := k
  exact ⟨U, o, h _ k1, k2⟩
/-- the two ways from A to A' meet there -/
theorem own_fin (X : Stand p l e R s m args below meth c T locs cells slots) {Qv : Option Value → Heap → List Loc → Prop} {v : Option Value} {g : JFrame} {C S : Nat} (hlocks : meth.locks = false) (hv : meth.sig.returnType = none → v = none)
    (hst : ∀ fs, (∀ (f : JFrame) (acts : List Action), f.method = m → f.locked = none → f.entered = [] → (doReturn e (T.setTop f) acts v).1 = T.setFrames fs) → Steps p.tables e below (T.setTop g) (T.setFrames fs))
    (hQ : Qv v T.heap locs) (hc : cells ≤ C) (hs : slots ≤ S) :
    Wk p.tables e below (T.setTop g) (fun U o => U.status = .running ∧ Ended U below o ∧ ∃ v L, o = .returned v ∧ Qv v U.heap L ∧ FrameEnd s o U L C S) := by
  obtain ⟨fs, hr, hrun, hended, hW, hsame⟩ := X.leave (v := v) hv hlocks
  exact ⟨_, _, hst fs hr, hrun, hended, _, _, rfl, hQ, ⟨_, rfl⟩, hW, hsame.mono hc hs⟩
end New
end Jvm.RoadKit
namespace Jvm.Pilot.@@N@@
open Jvm Jvm.ClassFile Sem Op Lib Jvm.Free Jvm.Stand Jvm.LawKit Jvm.RoadKit Bundle Jvm.Pilot.@@N@@.Jvm.D
theorem d1_0 : decode jdk_29_method_65_code 0 = .ok (.iload_n 0, 1) := by decide +kernel
theorem d1_1 : decode jdk_29_method_65_code 1 = .ok (.iload_n 1, 1) := by decide +kernel
theorem d1_2 : decode jdk_29_method_65_code 2 = .ok (.if_icmp .lt 7, 3) := by decide +kernel
theorem d1_9 : decode jdk_29_method_65_code 9 = .ok (.iload_n 1, 1) := by decide +kernel
theorem d1_10 : decode jdk_29_method_65_code 10 = .ok (.ireturn, 1) := by decide +kernel
theorem d1_5 : decode jdk_29_method_65_code 5 = .ok (.iload_n 0, 1) := by decide +kernel
theorem d1_6 : decode jdk_29_method_65_code 6 = .ok (.goto 4, 3) := by decide +kernel
theorem ef_1 (m : MethodId) (x0 : Int32) (x1 : Int32) : entryFrame m #[(.int x0), (.int x1)] 2 = mkF m 0 #[iv x0, iv x1] [] := by first | (simp [entryFrame, mkF, argsToLocals, Value.category]; done) | rfl
def f_max (ax : Int32) (bx : Int32)  : Int32 := (if ax < bx then bx else ax)
def Q1 (Z : State) (ax : Int32) (bx : Int32)  (h0 : Heap) (n0 : Nat) (v : Option Value) (h : Heap) (L : List Loc) : Prop := v = some (.int (f_max ax bx)) ∧ Fr n0 L ∧ h = h0
set_option maxRecDepth 65536 in
set_option maxHeartbeats 40000000 in
theorem rm1 (l : Launch) (Z : State) (a0 : Array Value) (hw : ∀ d ∈ tables_1, d.before a0 Z = true) (ws : List Jvm.Cond) (ax : Int32) (bx : Int32)  (h0 : Heap) (n0 : Nat) (Z0 : n0 ≤ h0.size)  :
    MetFree l (⟨"java/lang/Math", "max", "(II)I"⟩ : MethodName) (head1 (Jvm.Cond.code (⟨"java/lang/Math", "max", "(II)I"⟩ : MethodName) jdk_29_method_65_code 2 (some .int) :: ws) ({ frames := 0, cells := 0, slots := 0, locals := 0 } : Room)) (fun a U => a = #[(.int ax), (.int bx)] ∧ Z.Warmed39 U.vm ∧ U.heap = h0) (fun _ _ _ _ _ => True) (fun _ U o U' => ∃ v L, o = .returned v ∧ Q1 Z ax bx h0 n0 v U'.heap L ∧ FrameEnd U o U' L ({ frames := 0, cells := 0, slots := 0, locals := 0 } : Room).cells ({ frames := 0, cells := 0, slots := 0, locals := 0 } : Room).slots) := by
  refine MetFree.of_bodySF (Jvm.Free.JP.mathPlain rfl (by decide +kernel)) hisR ?_
  intro p e s m args below meth c s₁ Bd hml0 hP hK
  obtain ⟨rfl, hZ, hh⟩ := hP
  have hx := Bd.exec
  have hby := Bd.bytes
  have hml : c.maxLocals = 2 := hml0
  have hown : s.vm.findClass "java/lang/Math" = some m.cls := findClass_of_methodNamed Bd.named
  have hnm := (name_of_methodNamed Bd.named Bd.method).1
  have X0 : Stand p l e ({ frames := 0, cells := 0, slots := 0, locals := 0 } : Room) s m #[(.int ax), (.int bx)] below meth c s₁ [] 0 0 := Stand.of_body Bd
  have e0 : s₁.heap = h0 := by rw [← hh, Bd.state]; rfl
  have N0 := Fr.nil n0
  have hlk : meth.locks = false := BodyLoose.notSynchronized Bd
  suffices hwk : Wk p.tables e below (s₁.setTop (mkF m 0 #[iv ax, iv bx] [])) (fun U o => U.status = .running ∧ Ended U below o ∧ ∃ v L, o = .returned v ∧ Q1 Z ax bx h0 n0 v U.heap L ∧ FrameEnd s o U L 0 0) by
    obtain ⟨U, o, k1, k2⟩ := hwk
    exact ⟨U, o, castTop (ef_1 m ax bx) k1, k2⟩
  refine Wk.go (A' := s₁.setTop (mkF m 1 #[iv ax, iv bx] [(.int ax)])) (fun t k => XS.iloadN X0.here hx rfl (hb hby d1_0) rfl k) ?_
  refine Wk.go (A' := s₁.setTop (mkF m 2 #[iv ax, iv bx] [(.int bx), (.int ax)])) (fun t k => XS.iloadN X0.here hx rfl (hb hby d1_1) rfl k) ?_
  by_cases hc2 : ax < bx
  · refine Wk.go (A' := s₁.setTop (mkF m 9 #[iv ax, iv bx] [])) (fun t k => XS.icmpYes X0.here hx rfl (pc0 := 2) (pc' := 9) rfl (hb hby d1_2) rfl (tlt hc2).1 (by decide) (by decide) k) ?_
    refine Wk.go (A' := s₁.setTop (mkF m 10 #[iv ax, iv bx] [(.int bx)])) (fun t k => XS.iloadN X0.here hx rfl (hb hby d1_9) rfl k) ?_
    refine own_fin (Qv := Q1 Z ax bx h0 n0) (v := some (.int bx)) X0 hlk (fun h => by rw [Bd.returns] at h; cases h) (fun fs hr => retI X0 hx Bd.returns (hb hby d1_10) hr) ?_ (by decide) (by decide)
    refine ⟨?_, N0, e0⟩
    simp only [f_max, if_pos hc2]
  · refine Wk.go (A' := s₁.setTop (mkF m 5 #[iv ax, iv bx] [])) (fun t k => XS.icmpNo X0.here hx rfl (hb hby d1_2) rfl (flt hc2).1 k) ?_
    refine Wk.go (A' := s₁.setTop (mkF m 6 #[iv ax, iv bx] [(.int ax)])) (fun t k => XS.iloadN X0.here hx rfl (hb hby d1_5) rfl k) ?_
    refine Wk.go (A' := s₁.setTop (mkF m 10 #[iv ax, iv bx] [(.int ax)])) (fun t k => XS.goto X0.here hx rfl (pc0 := 6) (pc' := 10) rfl (hb hby d1_6) (by decide) (by decide) k) ?_
    refine own_fin (Qv := Q1 Z ax bx h0 n0) (v := some (.int ax)) X0 hlk (fun h => by rw [Bd.returns] at h; cases h) (fun fs hr => retI X0 hx Bd.returns (hb hby d1_10) hr) ?_ (by decide) (by decide)
    refine ⟨?_, N0, e0⟩
    simp only [f_max, if_neg hc2]
theorem d2_0 : decode prog_23_method_5_code 0 = .ok (.iload_n 0, 1) := by decide +kernel
theorem d2_1 : decode prog_23_method_5_code 1 = .ok (.i2l, 1) := by decide +kernel
theorem d2_2 : decode prog_23_method_5_code 2 = .ok (.iload_n 1, 1) := by decide +kernel
theorem d2_3 : decode prog_23_method_5_code 3 = .ok (.iconst 1, 1) := by decide +kernel
theorem d2_4 : decode prog_23_method_5_code 4 = .ok (.iadd, 1) := by decide +kernel
theorem d2_5 : decode prog_23_method_5_code 5 = .ok (.i2l, 1) := by decide +kernel
theorem d2_6 : decode prog_23_method_5_code 6 = .ok (.lmul, 1) := by decide +kernel
theorem d2_7 : decode prog_23_method_5_code 7 = .ok (.iload_n 2, 1) := by decide +kernel
theorem d2_8 : decode prog_23_method_5_code 8 = .ok (.i2l, 1) := by decide +kernel
theorem d2_9 : decode prog_23_method_5_code 9 = .ok (.ldiv, 1) := by decide +kernel
theorem d2_10 : decode prog_23_method_5_code 10 = .ok (.l2i, 1) := by decide +kernel
theorem d2_11 : decode prog_23_method_5_code 11 = .ok (.ireturn, 1) := by decide +kernel
theorem pn_0 : plainName "com/example/bitbraid/bitbraid/Workers" = true := by first | (simp [plainName, overriddenIn]; done) | decide +kernel
theorem ef_2 (m : MethodId) (x0 : Int32) (x1 : Int32) (x2 : Int32) : entryFrame m #[(.int x0), (.int x1), (.int x2)] 3 = mkF m 0 #[iv x0, iv x1, iv x2] [] := by first | (simp [entryFrame, mkF, argsToLocals, Value.category]; done) | rfl
def f_str (cx : Int32) (px : Int32) (nx : Int32)  : Int32 := ((((cx.toInt64) * ((px + (1 : Int32)).toInt64)) / (nx.toInt64)).toInt32)
def Q2 (Z : State) (cx : Int32) (px : Int32) (nx : Int32)  (h0 : Heap) (n0 : Nat) (v : Option Value) (h : Heap) (L : List Loc) : Prop := v = some (.int (f_str cx px nx)) ∧ Fr n0 L ∧ h = h0
set_option maxRecDepth 65536 in
set_option maxHeartbeats 40000000 in
theorem rm2 (l : Launch) (Z : State) (a0 : Array Value) (hw : ∀ d ∈ tables_1, d.before a0 Z = true) (ws : List Jvm.Cond) (cx : Int32) (px : Int32) (nx : Int32)  (h0 : Heap) (n0 : Nat) (Z0 : n0 ≤ h0.size) (hnz : nx.toInt64 ≠ 0) :
    MetFree l (⟨"com/example/bitbraid/bitbraid/Workers", "stretchEnd", "(III)I"⟩ : MethodName) (head1 (Jvm.Cond.code (⟨"com/example/bitbraid/bitbraid/Workers", "stretchEnd", "(III)I"⟩ : MethodName) prog_23_method_5_code 3 (some .int) :: ws) ({ frames := 0, cells := 0, slots := 0, locals := 0 } : Room)) (fun a U => a = #[(.int cx), (.int px), (.int nx)] ∧ Z.Warmed39 U.vm ∧ U.heap = h0) (fun _ _ _ _ _ => True) (fun _ U o U' => ∃ v L, o = .returned v ∧ Q2 Z cx px nx h0 n0 v U'.heap L ∧ FrameEnd U o U' L ({ frames := 0, cells := 0, slots := 0, locals := 0 } : Room).cells ({ frames := 0, cells := 0, slots := 0, locals := 0 } : Room).slots) := by
  refine MetFree.of_bodySF (plainFor_of_name pn_0) hisR ?_
  intro p e s m args below meth c s₁ Bd hml0 hP hK
  obtain ⟨rfl, hZ, hh⟩ := hP
  have hx := Bd.exec
  have hby := Bd.bytes
  have hml : c.maxLocals = 3 := hml0
  have hown : s.vm.findClass "com/example/bitbraid/bitbraid/Workers" = some m.cls := findClass_of_methodNamed Bd.named
  have hnm := (name_of_methodNamed Bd.named Bd.method).1
  have X0 : Stand p l e ({ frames := 0, cells := 0, slots := 0, locals := 0 } : Room) s m #[(.int cx), (.int px), (.int nx)] below meth c s₁ [] 0 0 := Stand.of_body Bd
  have e0 : s₁.heap = h0 := by rw [← hh, Bd.state]; rfl
  have N0 := Fr.nil n0
  have hlk : meth.locks = false := BodyLoose.notSynchronized Bd
  suffices hwk : Wk p.tables e below (s₁.setTop (mkF m 0 #[iv cx, iv px, iv nx] [])) (fun U o => U.status = .running ∧ Ended U below o ∧ ∃ v L, o = .returned v ∧ Q2 Z cx px nx h0 n0 v U.heap L ∧ FrameEnd s o U L 0 0) by
    obtain ⟨U, o, k1, k2⟩ := hwk
    exact ⟨U, o, castTop (ef_2 m cx px nx) k1, k2⟩
  refine Wk.go (A' := s₁.setTop (mkF m 1 #[iv cx, iv px, iv nx] [(.int cx)])) (fun t k => XS.iloadN X0.here hx rfl (hb hby d2_0) rfl k) ?_
  refine Wk.go (A' := s₁.setTop (mkF m 2 #[iv cx, iv px, iv nx] [(.long (cx.toInt64))])) (fun t k => XS.i2l X0.here hx rfl (hb hby d2_1) rfl k) ?_
  refine Wk.go (A' := s₁.setTop (mkF m 3 #[iv cx, iv px, iv nx] [(.int px), (.long (cx.toInt64))])) (fun t k => XS.iloadN X0.here hx rfl (hb hby d2_2) rfl k) ?_
  refine Wk.go (A' := s₁.setTop (mkF m 4 #[iv cx, iv px, iv nx] [(.int (1 : Int32)), (.int px), (.long (cx.toInt64))])) (fun t k => XS.iconst X0.here hx rfl (hb hby d2_3) k) ?_
  refine Wk.go (A' := s₁.setTop (mkF m 5 #[iv cx, iv px, iv nx] [(.int (px + (1 : Int32))), (.long (cx.toInt64))])) (fun t k => XS.iadd X0.here hx rfl (hb hby d2_4) rfl k) ?_
  refine Wk.go (A' := s₁.setTop (mkF m 6 #[iv cx, iv px, iv nx] [(.long ((px + (1 : Int32)).toInt64)), (.long (cx.toInt64))])) (fun t k => XS.i2l X0.here hx rfl (hb hby d2_5) rfl k) ?_
  refine Wk.go (A' := s₁.setTop (mkF m 7 #[iv cx, iv px, iv nx] [(.long ((cx.toInt64) * ((px + (1 : Int32)).toInt64)))])) (fun t k => XS.lmul X0.here hx rfl (hb hby d2_6) rfl k) ?_
  refine Wk.go (A' := s₁.setTop (mkF m 8 #[iv cx, iv px, iv nx] [(.int nx), (.long ((cx.toInt64) * ((px + (1 : Int32)).toInt64)))])) (fun t k => XS.iloadN X0.here hx rfl (hb hby d2_7) rfl k) ?_
  refine Wk.go (A' := s₁.setTop (mkF m 9 #[iv cx, iv px, iv nx] [(.long (nx.toInt64)), (.long ((cx.toInt64) * ((px + (1 : Int32)).toInt64)))])) (fun t k => XS.i2l X0.here hx rfl (hb hby d2_8) rfl k) ?_
  refine Wk.go (A' := s₁.setTop (mkF m 10 #[iv cx, iv px, iv nx] [(.long (((cx.toInt64) * ((px + (1 : Int32)).toInt64)) / (nx.toInt64)))])) (fun t k => XS.ldiv X0.here hx rfl (hb hby d2_9) rfl hnz k) ?_
  refine Wk.go (A' := s₁.setTop (mkF m 11 #[iv cx, iv px, iv nx] [(.int ((((cx.toInt64) * ((px + (1 : Int32)).toInt64)) / (nx.toInt64)).toInt32))])) (fun t k => XS.l2i X0.here hx rfl (hb hby d2_10) rfl k) ?_
  refine own_fin (Qv := Q2 Z cx px nx h0 n0) (v := some (.int ((((cx.toInt64) * ((px + (1 : Int32)).toInt64)) / (nx.toInt64)).toInt32))) X0 hlk (fun h => by rw [Bd.returns] at h; cases h) (fun fs hr => retI X0 hx Bd.returns (hb hby d2_11) hr) ?_ (by decide) (by decide)
  refine ⟨?_, N0, e0⟩
  simp only [f_str]
theorem own_mulb {a b A B : Int} (h1 : 0 ≤ a) (h2 : a ≤ A) (h3 : 0 ≤ b) (h4 : b ≤ B) : 0 ≤ a * b ∧ a * b ≤ A * B := ⟨Int.mul_nonneg h1 h3, Int.mul_le_mul h2 h4 h3 (by omega)⟩
theorem own_max (a : Int32) : 1 ≤ (f_max (1 : Int32) (a &&& (2147483647 : Int32))).toInt := by
  have h1 := c_mask a 2147483647 31 (by decide) (by decide)
  have e1 : (1 : Int32).toInt = 1 := by decide
  unfold f_max
  split
  · next h => rw [Int32.lt_iff_toInt_lt] at h; omega
  · omega
theorem own_i64 {n : Int32} (h : 1 ≤ n.toInt) : n.toInt64 ≠ 0 := fun q => by
  have e := c_i2l n
  rw [q] at e
  have e0 : (0 : Int64).toInt = 0 := by decide
  omega
theorem own_ne1 {n : Int32} (h : 1 ≤ n.toInt) : n.toInt64 ≠ -1 := fun q => by
  have e := c_i2l n
  rw [q] at e
  have e0 : (-1 : Int64).toInt = -1 := by decide
  omega
/-- count times (part + 1), as a long -/
theorem own_tot (c p n : Int32) (hc : 0 ≤ c.toInt) (hp : -1 ≤ p.toInt) (hpn : p.toInt < n.toInt) : (c.toInt64 * (p + 1).toInt64).toInt = c.toInt * (p.toInt + 1) ∧ 0 ≤ c.toInt * (p.toInt + 1) ∧ c.toInt * (p.toInt + 1) ≤ 4611686014132420609 := by
  have h1 := c_iadd p 1
  have e1 : (1 : Int32).toInt = 1 := by decide
  have r1 := rng32 p
  have r2 := rng32 n
  have r3 := rng32 c
  have r4 := rng32 (p + 1)
  have e2 : (p + 1).toInt = p.toInt + 1 := by omega
  have h2 := c_lmul c.toInt64 (p + 1).toInt64
  rw [c_i2l, c_i2l, e2] at h2
  have b := own_mulb hc (show c.toInt ≤ 2147483647 by omega) (show 0 ≤ p.toInt + 1 by omega) (show p.toInt + 1 ≤ 2147483647 by omega)
  have r5 := rng64 (c.toInt64 * (p + 1).toInt64)
  generalize c.toInt * (p.toInt + 1) = P at *
  refine ⟨?_, b.1, ?_⟩ <;> omega
theorem own_str (c p n : Int32) (hc : 0 ≤ c.toInt) (hp : -1 ≤ p.toInt) (hpn : p.toInt < n.toInt) (hn : 1 ≤ n.toInt) : (f_str c p n).toInt = c.toInt * (p.toInt + 1) / n.toInt ∧ 0 ≤ (f_str c p n).toInt ∧ (f_str c p n).toInt ≤ c.toInt := by
  obtain ⟨t1, t2, t3⟩ := own_tot c p n hc hp hpn
  have hd := (c_ldiv (c.toInt64 * (p + 1).toInt64) n.toInt64 n.toInt (c_i2l n) (own_ne1 hn)).1 (by rw [t1]; exact t2)
  rw [t1] at hd
  have hle : c.toInt * (p.toInt + 1) / n.toInt ≤ c.toInt := by
    apply Int.ediv_le_of_le_mul (by omega)
    exact Int.mul_le_mul_of_nonneg_left (by omega) hc
  have h0 : 0 ≤ c.toInt * (p.toInt + 1) / n.toInt := Int.ediv_nonneg t2 (by omega)
  have hl := c_l2i (c.toInt64 * (p + 1).toInt64 / n.toInt64)
  have hf : f_str c p n = (c.toInt64 * (p + 1).toInt64 / n.toInt64).toInt32 := rfl
  rw [← hf, hd] at hl
  have r1 := rng32 (f_str c p n)
  have r2 := rng32 c
  have e : (f_str c p n).toInt = c.toInt * (p.toInt + 1) / n.toInt := by omega
  rw [e]; exact ⟨rfl, h0, hle⟩
theorem own_two {N d u : Int} (hN : 1 ≤ N) (h : N * d = u) (h1 : -N < u) (h2 : u < 2 * N) : d = 0 ∨ d = 1 := by
  by_cases a : d ≤ -1
  · have := Int.mul_le_mul_of_nonneg_left a (show 0 ≤ N by omega); omega
  · by_cases b : 2 ≤ d
    · have := Int.mul_le_mul_of_nonneg_left b (show 0 ≤ N by omega); omega
    · omega
theorem own_law (c p n : Int32) (hc : 0 ≤ c.toInt) (hp : -1 ≤ p.toInt) (hpn : p.toInt < n.toInt) (hn : 1 ≤ n.toInt) :
    (¬ (c.toInt64 * (p + 1).toInt64) < ((f_str c p n).toInt64 * n.toInt64)) ∧ (c.toInt64 * (p + 1).toInt64) < (((f_str c p n).toInt64 + 1) * n.toInt64) ∧ (p.toInt = -1 → f_str c p n = 0) ∧ (p.toInt = n.toInt - 1 → f_str c p n = c) ∧
    (¬ p < 0 → (f_str c p n - f_str c (p - 1) n) = c / n ∨ (f_str c p n - f_str c (p - 1) n) = c / n + 1) := by
  obtain ⟨t1, t2, t3⟩ := own_tot c p n hc hp hpn
  obtain ⟨s1, s2, s3⟩ := own_str c p n hc hp hpn hn
  have rc := rng32 c
  have rn := rng32 n
  have rp := rng32 p
  have e0 : (0 : Int32).toInt = 0 := by decide
  have e1 : (1 : Int32).toInt = 1 := by decide
  have hdm := Int.mul_ediv_add_emod (c.toInt * (p.toInt + 1)) n.toInt
  have hm1 := Int.emod_nonneg (c.toInt * (p.toInt + 1)) (show n.toInt ≠ 0 by omega)
  have hm2 := Int.emod_lt_of_pos (c.toInt * (p.toInt + 1)) (show 0 < n.toInt by omega)
  have hA := c_lmul (f_str c p n).toInt64 n.toInt64
  have hB := c_lmul ((f_str c p n).toInt64 + 1) n.toInt64
  have hC := c_ladd (f_str c p n).toInt64 1
  have el : (1 : Int64).toInt = 1 := by decide
  have rC := rng64 ((f_str c p n).toInt64 + 1)
  rw [c_i2l, el] at hC
  have eC : ((f_str c p n).toInt64 + 1).toInt = (f_str c p n).toInt + 1 := by omega
  rw [c_i2l, c_i2l] at hA
  rw [eC, c_i2l] at hB
  have bA := own_mulb s2 (show (f_str c p n).toInt ≤ 2147483647 by omega) (show 0 ≤ n.toInt by omega) (show n.toInt ≤ 2147483647 by omega)
  have bB := own_mulb (show 0 ≤ (f_str c p n).toInt + 1 by omega) (show (f_str c p n).toInt + 1 ≤ 2147483648 by omega) (show 0 ≤ n.toInt by omega) (show n.toInt ≤ 2147483647 by omega)
  have rA := rng64 ((f_str c p n).toInt64 * n.toInt64)
  have rB := rng64 (((f_str c p n).toInt64 + 1) * n.toInt64)
  have xA : ((f_str c p n).toInt64 * n.toInt64).toInt = (f_str c p n).toInt * n.toInt := by
    generalize (f_str c p n).toInt * n.toInt = P at *; omega
  have xB : (((f_str c p n).toInt64 + 1) * n.toInt64).toInt = (f_str c p n).toInt * n.toInt + n.toInt := by
    rw [Int.add_mul, Int.one_mul] at hB bB
    generalize (f_str c p n).toInt * n.toInt = P at *; omega
  rw [← s1, Int.mul_comm] at hdm
  refine ⟨?_, ?_, ?_, ?_, ?_⟩
  · rw [Int64.lt_iff_toInt_lt, t1, xA]; omega
  · rw [Int64.lt_iff_toInt_lt, t1, xB]; omega
  · intro h
    apply Int32.toInt_inj.mp
    rw [s1, h, e0]; simp
  · intro h
    apply Int32.toInt_inj.mp
    rw [s1, h, show n.toInt - 1 + 1 = n.toInt by omega]
    exact Int.mul_ediv_cancel _ (by omega)
  · intro h0
    rw [Int32.lt_iff_toInt_lt, e0] at h0
    have h1 := c_isub p 1
    have rq := rng32 (p - 1)
    have eq : (p - 1).toInt = p.toInt - 1 := by omega
    obtain ⟨u1, u2, u3⟩ := own_str c (p - 1) n hc (by omega) (by omega) hn
    rw [eq, show p.toInt - 1 + 1 = p.toInt by omega] at u1
    have hd := (c_idivV c n) hc (by omega)
    have hq := (c_idiv c n n.toInt rfl (fun q => by rw [q] at hn; exact absurd hn (by decide))).1 hc
    have d1 := c_isub (f_str c p n) (f_str c (p - 1) n)
    have d2 := c_iadd (c / n) 1
    have r1 := rng32 (f_str c p n - f_str c (p - 1) n)
    have r2 := rng32 (c / n + 1)
    have k1 := Int.mul_ediv_add_emod (c.toInt * p.toInt) n.toInt
    have k2 := Int.emod_nonneg (c.toInt * p.toInt) (show n.toInt ≠ 0 by omega)
    have k3 := Int.emod_lt_of_pos (c.toInt * p.toInt) (show 0 < n.toInt by omega)
    have k4 := Int.mul_ediv_add_emod c.toInt n.toInt
    have k5 := Int.emod_nonneg c.toInt (show n.toInt ≠ 0 by omega)
    have k6 := Int.emod_lt_of_pos c.toInt (show 0 < n.toInt by omega)
    rw [← u1] at k1
    rw [← hq] at k4
    rw [Int.mul_comm] at hdm
    have hx : c.toInt * (p.toInt + 1) = c.toInt * p.toInt + c.toInt := by rw [Int.mul_add, Int.mul_one]
    have hz : n.toInt * ((f_str c p n).toInt - (f_str c (p - 1) n).toInt - (c / n).toInt) = (c.toInt * p.toInt) % n.toInt + c.toInt % n.toInt - (c.toInt * (p.toInt + 1)) % n.toInt := by
      rw [Int.mul_sub, Int.mul_sub]; omega
    have two := own_two hn hz (by omega) (by omega)
    simp only [← Int32.toInt_inj]
    have z : (f_str c p n - f_str c (p - 1) n).toInt = (f_str c p n).toInt - (f_str c (p - 1) n).toInt := by omega
    omega
theorem own_p1 {n : Int32} (hn : 1 ≤ n.toInt) : -1 ≤ (n - (1 : Int32)).toInt ∧ (n - (1 : Int32)).toInt < n.toInt ∧ (n - (1 : Int32)).toInt = n.toInt - 1 := by
  have h := c_isub n 1
  have r := rng32 n
  have r2 := rng32 (n - 1)
  have e1 : (1 : Int32).toInt = 1 := by decide
  omega
theorem own_p3 {n : Int32} (hn : 1 ≤ n.toInt) : (n.toInt64 + (1 : Int64)).toInt = n.toInt + 1 := by
  have h := c_ladd n.toInt64 1
  have r := rng32 n
  have r2 := rng64 (n.toInt64 + 1)
  rw [c_i2l] at h
  have e1 : (1 : Int64).toInt = 1 := by decide
  omega
theorem own_p4 {n : Int32} (hn : 1 ≤ n.toInt) : n.toInt64 + (1 : Int64) ≠ 0 := fun q => by
  have h := own_p3 hn
  rw [q] at h
  have e1 : (0 : Int64).toInt = 0 := by decide
  omega
theorem own_p2 {n : Int32} (hn : 1 ≤ n.toInt) (q : Int32) : -1 ≤ ((((q &&& (2147483647 : Int32)).toInt64) - (((q &&& (2147483647 : Int32)).toInt64) / ((n.toInt64) + (1 : Int64))) * ((n.toInt64) + (1 : Int64))).toInt32 - (1 : Int32)).toInt ∧ ((((q &&& (2147483647 : Int32)).toInt64) - (((q &&& (2147483647 : Int32)).toInt64) / ((n.toInt64) + (1 : Int64))) * ((n.toInt64) + (1 : Int64))).toInt32 - (1 : Int32)).toInt < n.toInt := by
  have h1 := c_mask q 2147483647 31 (by decide) (by decide)
  have h2 := (c_lrem (q &&& (2147483647 : Int32)).toInt64 (n.toInt64 + 1) (n.toInt + 1) (own_p3 hn)).1 (by rw [c_i2l]; omega)
  generalize ((q &&& (2147483647 : Int32)).toInt64) - (((q &&& (2147483647 : Int32)).toInt64) / ((n.toInt64) + (1 : Int64))) * ((n.toInt64) + (1 : Int64)) = z at *
  rw [c_i2l] at h2
  have m1 := Int.emod_nonneg (q &&& (2147483647 : Int32)).toInt (show n.toInt + 1 ≠ 0 by omega)
  have m2 := Int.emod_lt_of_pos (q &&& (2147483647 : Int32)).toInt (show 0 < n.toInt + 1 by omega)
  rw [← h2] at m1 m2
  have h3 := c_l2i z
  have h4 := c_isub z.toInt32 1
  have r1 := rng32 z.toInt32
  have r2 := rng32 (z.toInt32 - 1)
  have r := rng32 n
  have e1 : (1 : Int32).toInt = 1 := by decide
  omega
theorem own_i32 {n : Int32} (h : 1 ≤ n.toInt) : n ≠ 0 := fun q => by rw [q] at h; exact absurd h (by decide)
theorem own_nn {p n : Int32} (h : p.toInt = n.toInt - 1) (hn : 1 ≤ n.toInt) : ¬ p < 0 := by
  have e0 : (0 : Int32).toInt = 0 := by decide
  rw [Int32.lt_iff_toInt_lt, e0]; omega
theorem tw0 {Z : State} {a0 : Array Value} (hw : ∀ d ∈ tables_1, d.before a0 Z = true) : (Jvm.Cond.constant "com/example/bitbraid/bitbraid/WorkersStretchEndPinLaw" (7 : Nat) (2147483647 : Int32)).before a0 Z = true := hw _ (List.mem_of_getElem? (i := 0) rfl)
theorem tw1 {Z : State} {a0 : Array Value} (hw : ∀ d ∈ tables_1, d.before a0 Z = true) : (Jvm.Cond.methodLink "com/example/bitbraid/bitbraid/WorkersStretchEndPinLaw" (8 : Nat) ({ cls := "java/lang/Math", name := "max", desc := "(II)I" } : Jvm.MethodName)).before a0 Z = true := hw _ (List.mem_of_getElem? (i := 1) rfl)
theorem tw4 {Z : State} {a0 : Array Value} (hw : ∀ d ∈ tables_1, d.before a0 Z = true) : (Jvm.Cond.code ({ cls := "java/lang/Math", name := "max", desc := "(II)I" } : Jvm.MethodName) jdk_29_method_65_code (2 : Nat) (Option.some Jvm.ClassFile.FieldType.int)).before a0 Z = true := hw _ (List.mem_of_getElem? (i := 4) rfl)
theorem tw3 {Z : State} {a0 : Array Value} (hw : ∀ d ∈ tables_1, d.before a0 Z = true) : (Jvm.Cond.initialized "java/lang/Math").before a0 Z = true := hw _ (List.mem_of_getElem? (i := 3) rfl)
theorem pd_0 : parseMethodDescriptor "(II)I" = some ⟨[.int, .int], some .int⟩ := by decide +kernel
theorem tw2 {Z : State} {a0 : Array Value} (hw : ∀ d ∈ tables_1, d.before a0 Z = true) : (Jvm.Cond.static ({ cls := "java/lang/Math", name := "max", desc := "(II)I" } : Jvm.MethodName)).before a0 Z = true := hw _ (List.mem_of_getElem? (i := 2) rfl)
theorem tw5 {Z : State} {a0 : Array Value} (hw : ∀ d ∈ tables_1, d.before a0 Z = true) : (Jvm.Cond.methodLink "com/example/bitbraid/bitbraid/WorkersStretchEndPinLaw" (14 : Nat) ({ cls := "com/example/bitbraid/bitbraid/Workers", name := "stretchEnd", desc := "(III)I" } : Jvm.MethodName)).before a0 Z = true := hw _ (List.mem_of_getElem? (i := 5) rfl)
theorem tw8 {Z : State} {a0 : Array Value} (hw : ∀ d ∈ tables_1, d.before a0 Z = true) : (Jvm.Cond.code ({ cls := "com/example/bitbraid/bitbraid/Workers", name := "stretchEnd", desc := "(III)I" } : Jvm.MethodName) prog_23_method_5_code (3 : Nat) (Option.some Jvm.ClassFile.FieldType.int)).before a0 Z = true := hw _ (List.mem_of_getElem? (i := 8) rfl)
theorem tw7 {Z : State} {a0 : Array Value} (hw : ∀ d ∈ tables_1, d.before a0 Z = true) : (Jvm.Cond.initialized "com/example/bitbraid/bitbraid/Workers").before a0 Z = true := hw _ (List.mem_of_getElem? (i := 7) rfl)
theorem pd_1 : parseMethodDescriptor "(III)I" = some ⟨[.int, .int, .int], some .int⟩ := by decide +kernel
theorem tw6 {Z : State} {a0 : Array Value} (hw : ∀ d ∈ tables_1, d.before a0 Z = true) : (Jvm.Cond.static ({ cls := "com/example/bitbraid/bitbraid/Workers", name := "stretchEnd", desc := "(III)I" } : Jvm.MethodName)).before a0 Z = true := hw _ (List.mem_of_getElem? (i := 6) rfl)
theorem pn_1 : plainName "com/example/bitbraid/bitbraid/WorkersStretchEndPinLaw" = true := by first | (simp [plainName, overriddenIn]; done) | decide +kernel
theorem ef_0 (m : MethodId) (x0 : Int32) (x1 : Int32) (x2 : Int32) (x3 : Int32) : entryFrame m #[(.int x0), (.int x1), (.int x2), (.int x3)] maxLocals = mkF m 0 #[iv x0, iv x1, iv x2, iv x3, .unset, .unset, .unset, .unset, .unset, .unset, .unset, .unset, .unset, .unset, .unset, .unset, .unset] [] := by first | (simp [entryFrame, mkF, argsToLocals, Value.category, maxLocals]; done) | rfl
def Q0 (Z : State) (cx : Int32) (px : Int32) (qx : Int32) (mx : Int32)  (h0 : Heap) (n0 : Nat) (v : Option Value) (h : Heap) (L : List Loc) : Prop := v = some (.int 1) ∧ Fr n0 L
set_option maxRecDepth 65536 in
set_option maxHeartbeats 40000000 in
theorem rm0 (l : Launch) (Z : State) (a0 : Array Value) (hw : ∀ d ∈ tables_1, d.before a0 Z = true) (ws : List Jvm.Cond) (cx : Int32) (px : Int32) (qx : Int32) (mx : Int32)  (h0 : Heap) (n0 : Nat) (Z0 : n0 ≤ h0.size)  :
    MetFree l x (head1 (Jvm.Cond.code x code maxLocals ret :: ws) room_1) (fun a U => a = #[(.int cx), (.int px), (.int qx), (.int mx)] ∧ Z.Warmed39 U.vm ∧ U.heap = h0) (fun _ _ _ _ _ => True) (fun _ U o U' => ∃ v L, o = .returned v ∧ Q0 Z cx px qx mx h0 n0 v U'.heap L ∧ FrameEnd U o U' L 0 0) := by
  refine MetFree.of_bodySF (plainFor_of_name pn_1) hisR ?_
  intro p e s m args below meth c s₁ Bd hml0 hP hK
  obtain ⟨rfl, hZ, hh⟩ := hP
  have hx := Bd.exec
  have hby := Bd.bytes
  have hml : c.maxLocals = 17 := hml0
  have hown : s.vm.findClass "com/example/bitbraid/bitbraid/WorkersStretchEndPinLaw" = some m.cls := findClass_of_methodNamed Bd.named
  have hnm := (name_of_methodNamed Bd.named Bd.method).1
  have X0 : Stand p l e room_1 s m #[(.int cx), (.int px), (.int qx), (.int mx)] below meth c s₁ [] 0 0 := Stand.of_body Bd
  have e0 : s₁.heap = h0 := by rw [← hh, Bd.state]; rfl
  have N0 := Fr.nil n0
  have hlk : meth.locks = false := BodyLoose.notSynchronized Bd
  suffices hwk : Wk p.tables e below (s₁.setTop (mkF m 0 #[iv cx, iv px, iv qx, iv mx, .unset, .unset, .unset, .unset, .unset, .unset, .unset, .unset, .unset, .unset, .unset, .unset, .unset] [])) (fun U o => U.status = .running ∧ Ended U below o ∧ ∃ v L, o = .returned v ∧ Q0 Z cx px qx mx h0 n0 v U.heap L ∧ FrameEnd s o U L 0 0) by
    obtain ⟨U, o, k1, k2⟩ := hwk
    exact ⟨U, o, castTop (ef_0 m cx px qx mx) k1, k2⟩
  refine Wk.go (A' := s₁.setTop (mkF m 1 #[iv cx, iv px, iv qx, iv mx, .unset, .unset, .unset, .unset, .unset, .unset, .unset, .unset, .unset, .unset, .unset, .unset, .unset] [(.int cx)])) (fun t k => XS.iloadN X0.here hx rfl (hb hby at_0) rfl k) ?_
  refine Wk.go (A' := s₁.setTop (mkF m 3 #[iv cx, iv px, iv qx, iv mx, .unset, .unset, .unset, .unset, .unset, .unset, .unset, .unset, .unset, .unset, .unset, .unset, .unset] [(.int (2147483647 : Int32)), (.int cx)])) (fun t k => X0.ldcInt hx hown (mvT hZ (tw0 hw)) (g := (mkF m 1 #[iv cx, iv px, iv qx, iv mx, .unset, .unset, .unset, .unset, .unset, .unset, .unset, .unset, .unset, .unset, .unset, .unset, .unset] [(.int cx)])) rfl (hb hby at_1) t k) ?_
  refine Wk.go (A' := s₁.setTop (mkF m 4 #[iv cx, iv px, iv qx, iv mx, .unset, .unset, .unset, .unset, .unset, .unset, .unset, .unset, .unset, .unset, .unset, .unset, .unset] [(.int (cx &&& (2147483647 : Int32)))])) (fun t k => XS.iand X0.here hx rfl (hb hby at_3) rfl k) ?_
  refine Wk.go (A' := s₁.setTop (mkF m 6 #[iv cx, iv px, iv qx, iv mx, iv (cx &&& (2147483647 : Int32)), .unset, .unset, .unset, .unset, .unset, .unset, .unset, .unset, .unset, .unset, .unset, .unset] [])) (fun t k => XS.istore X0.here hx rfl (hb hby at_4) rfl (l' := #[iv cx, iv px, iv qx, iv mx, iv (cx &&& (2147483647 : Int32)), .unset, .unset, .unset, .unset, .unset, .unset, .unset, .unset, .unset, .unset, .unset, .unset]) rfl k) ?_
  generalize hcount : (cx &&& (2147483647 : Int32)) = count
  have hC : 0 ≤ count.toInt := by have h1 := c_mask cx 2147483647 31 (by decide) (by decide); rw [hcount] at h1; omega
  refine Wk.go (A' := s₁.setTop (mkF m 7 #[iv cx, iv px, iv qx, iv mx, iv count, .unset, .unset, .unset, .unset, .unset, .unset, .unset, .unset, .unset, .unset, .unset, .unset] [(.int (1 : Int32))])) (fun t k => XS.iconst X0.here hx rfl (hb hby at_6) k) ?_
  refine Wk.go (A' := s₁.setTop (mkF m 8 #[iv cx, iv px, iv qx, iv mx, iv count, .unset, .unset, .unset, .unset, .unset, .unset, .unset, .unset, .unset, .unset, .unset, .unset] [(.int px), (.int (1 : Int32))])) (fun t k => XS.iloadN X0.here hx rfl (hb hby at_7) rfl k) ?_
  refine Wk.go (A' := s₁.setTop (mkF m 10 #[iv cx, iv px, iv qx, iv mx, iv count, .unset, .unset, .unset, .unset, .unset, .unset, .unset, .unset, .unset, .unset, .unset, .unset] [(.int (2147483647 : Int32)), (.int px), (.int (1 : Int32))])) (fun t k => X0.ldcInt hx hown (mvT hZ (tw0 hw)) (g := (mkF m 8 #[iv cx, iv px, iv qx, iv mx, iv count, .unset, .unset, .unset, .unset, .unset, .unset, .unset, .unset, .unset, .unset, .unset, .unset] [(.int px), (.int (1 : Int32))])) rfl (hb hby at_8) t k) ?_
  refine Wk.go (A' := s₁.setTop (mkF m 11 #[iv cx, iv px, iv qx, iv mx, iv count, .unset, .unset, .unset, .unset, .unset, .unset, .unset, .unset, .unset, .unset, .unset, .unset] [(.int (px &&& (2147483647 : Int32))), (.int (1 : Int32))])) (fun t k => XS.iand X0.here hx rfl (hb hby at_10) rfl k) ?_
  obtain ⟨_, _, ⟨T1, L1, k1, n1⟩, -, X1, ⟨Lc1, hQ1, l1, y1, z1⟩, st1⟩ := Jvm.LawKit.callS X0 hx (y := (⟨"java/lang/Math", "max", "(II)I"⟩ : MethodName)) hown (mvT hZ (tw1 hw)) (mvT hZ (tw2 hw)) (mvT hZ (tw3 hw)) (mvT hZ (tw4 hw)) (by decide) (backOf (W := 0) (rm1 l Z a0 hw [] (1 : Int32) (px &&& (2147483647 : Int32))  h0 n0 Z0 ) hZ (tw4 hw) (tw3 hw) (by decide) (by decide)) (g := (mkF m 11 #[iv cx, iv px, iv qx, iv mx, iv count, .unset, .unset, .unset, .unset, .unset, .unset, .unset, .unset, .unset, .unset, .unset, .unset] [(.int (px &&& (2147483647 : Int32))), (.int (1 : Int32))])) rfl (by rw [hml]; rfl) (argsL := [(.int (1 : Int32)), (.int (px &&& (2147483647 : Int32)))]) (rest := []) (lenOf pd_0 rfl) rfl (by show 2 * 0 + _ ≤ _; exact Nat.le_of_eq rfl) (hb hby at_11) (fun _ _ => ⟨rfl, e0, (by decide : 0 + 0 ≤ _), (by decide : 0 + 0 ≤ _)⟩)
  dsimp only [Pt.U, Pt.locs, Pt.cells, Pt.slots] at X1 l1 y1 z1 st1 hQ1
  subst l1 y1 z1
  obtain ⟨rfl, N1q, hE1⟩ := hQ1
  have N1 := Fr.app N0 N1q
  refine Wk.go (A' := T1.setTop (mkF m 14 #[iv cx, iv px, iv qx, iv mx, iv count, .unset, .unset, .unset, .unset, .unset, .unset, .unset, .unset, .unset, .unset, .unset, .unset] [(.int (f_max (1 : Int32) (px &&& (2147483647 : Int32))))])) (fun t k => st1 t k) ?_
  refine Wk.go (A' := T1.setTop (mkF m 16 #[iv cx, iv px, iv qx, iv mx, iv count, iv (f_max (1 : Int32) (px &&& (2147483647 : Int32))), .unset, .unset, .unset, .unset, .unset, .unset, .unset, .unset, .unset, .unset, .unset] [])) (fun t k => XS.istore X1.here hx rfl (hb hby at_14) rfl (l' := #[iv cx, iv px, iv qx, iv mx, iv count, iv (f_max (1 : Int32) (px &&& (2147483647 : Int32))), .unset, .unset, .unset, .unset, .unset, .unset, .unset, .unset, .unset, .unset, .unset]) rfl k) ?_
  generalize hparts : (f_max (1 : Int32) (px &&& (2147483647 : Int32))) = parts
  have hN : 1 ≤ parts.toInt := by rw [← hparts]; exact own_max px
  refine Wk.go (A' := T1.setTop (mkF m 17 #[iv cx, iv px, iv qx, iv mx, iv count, iv parts, .unset, .unset, .unset, .unset, .unset, .unset, .unset, .unset, .unset, .unset, .unset] [(.int mx)])) (fun t k => XS.iloadN X1.here hx rfl (hb hby at_16) rfl k) ?_
  refine Wk.go (A' := T1.setTop (mkF m 18 #[iv cx, iv px, iv qx, iv mx, iv count, iv parts, .unset, .unset, .unset, .unset, .unset, .unset, .unset, .unset, .unset, .unset, .unset] [(.int (3 : Int32)), (.int mx)])) (fun t k => XS.iconst X1.here hx rfl (hb hby at_17) k) ?_
  refine Wk.go (A' := T1.setTop (mkF m 19 #[iv cx, iv px, iv qx, iv mx, iv count, iv parts, .unset, .unset, .unset, .unset, .unset, .unset, .unset, .unset, .unset, .unset, .unset] [(.int (mx &&& (3 : Int32)))])) (fun t k => XS.iand X1.here hx rfl (hb hby at_18) rfl k) ?_
  refine Wk.go (A' := T1.setTop (mkF m 21 #[iv cx, iv px, iv qx, iv mx, iv count, iv parts, iv (mx &&& (3 : Int32)), .unset, .unset, .unset, .unset, .unset, .unset, .unset, .unset, .unset, .unset] [])) (fun t k => XS.istore X1.here hx rfl (hb hby at_19) rfl (l' := #[iv cx, iv px, iv qx, iv mx, iv count, iv parts, iv (mx &&& (3 : Int32)), .unset, .unset, .unset, .unset, .unset, .unset, .unset, .unset, .unset, .unset]) rfl k) ?_
  generalize hmode : (mx &&& (3 : Int32)) = mode
  refine Wk.go (A' := T1.setTop (mkF m 23 #[iv cx, iv px, iv qx, iv mx, iv count, iv parts, iv mode, .unset, .unset, .unset, .unset, .unset, .unset, .unset, .unset, .unset, .unset] [(.int mode)])) (fun t k => XS.iload X1.here hx rfl (hb hby at_21) rfl k) ?_
  by_cases hc23 : mode = (0 : Int32)
  · refine Wk.go (A' := T1.setTop (mkF m 26 #[iv cx, iv px, iv qx, iv mx, iv count, iv parts, iv mode, .unset, .unset, .unset, .unset, .unset, .unset, .unset, .unset, .unset, .unset] [])) (fun t k => XS.ifNo X1.here hx rfl (hb hby at_23) rfl ((if0 _ _).trans (teq hc23).2) k) ?_
    refine Wk.go (A' := T1.setTop (mkF m 27 #[iv cx, iv px, iv qx, iv mx, iv count, iv parts, iv mode, .unset, .unset, .unset, .unset, .unset, .unset, .unset, .unset, .unset, .unset] [(.int (-1 : Int32))])) (fun t k => XS.iconst X1.here hx rfl (hb hby at_26) k) ?_
    refine Wk.go (A' := T1.setTop (mkF m 29 #[iv cx, iv px, iv qx, iv mx, iv count, iv parts, iv mode, iv (-1 : Int32), .unset, .unset, .unset, .unset, .unset, .unset, .unset, .unset, .unset] [])) (fun t k => XS.istore X1.here hx rfl (hb hby at_27) rfl (l' := #[iv cx, iv px, iv qx, iv mx, iv count, iv parts, iv mode, iv (-1 : Int32), .unset, .unset, .unset, .unset, .unset, .unset, .unset, .unset, .unset]) rfl k) ?_
    refine Wk.go (A' := T1.setTop (mkF m 63 #[iv cx, iv px, iv qx, iv mx, iv count, iv parts, iv mode, iv (-1 : Int32), .unset, .unset, .unset, .unset, .unset, .unset, .unset, .unset, .unset] [])) (fun t k => XS.goto X1.here hx rfl (pc0 := 29) (pc' := 63) rfl (hb hby at_29) (by decide) (by decide) k) ?_
    have hp : -1 ≤ ((-1 : Int32)).toInt ∧ ((-1 : Int32)).toInt < parts.toInt := ⟨by decide, by have e : (-1 : Int32).toInt = -1 := (by decide); omega⟩
    obtain ⟨A1, A2, A3, A4, A5⟩ := own_law count (-1 : Int32) parts hC hp.1 hp.2 hN
    have hnz := own_i64 hN
    refine Wk.go (A' := T1.setTop (mkF m 65 #[iv cx, iv px, iv qx, iv mx, iv count, iv parts, iv mode, iv (-1 : Int32), .unset, .unset, .unset, .unset, .unset, .unset, .unset, .unset, .unset] [(.int count)])) (fun t k => XS.iload X1.here hx rfl (hb hby at_63) rfl k) ?_
    refine Wk.go (A' := T1.setTop (mkF m 67 #[iv cx, iv px, iv qx, iv mx, iv count, iv parts, iv mode, iv (-1 : Int32), .unset, .unset, .unset, .unset, .unset, .unset, .unset, .unset, .unset] [(.int (-1 : Int32)), (.int count)])) (fun t k => XS.iload X1.here hx rfl (hb hby at_65) rfl k) ?_
    refine Wk.go (A' := T1.setTop (mkF m 69 #[iv cx, iv px, iv qx, iv mx, iv count, iv parts, iv mode, iv (-1 : Int32), .unset, .unset, .unset, .unset, .unset, .unset, .unset, .unset, .unset] [(.int parts), (.int (-1 : Int32)), (.int count)])) (fun t k => XS.iload X1.here hx rfl (hb hby at_67) rfl k) ?_
    obtain ⟨_, _, ⟨T2, L2, k2, n2⟩, -, X2, ⟨Lc2, hQ2, l2, y2, z2⟩, st2⟩ := Jvm.LawKit.callS X1 hx (y := (⟨"com/example/bitbraid/bitbraid/Workers", "stretchEnd", "(III)I"⟩ : MethodName)) hown (mvT hZ (tw5 hw)) (mvT hZ (tw6 hw)) (mvT hZ (tw7 hw)) (mvT hZ (tw8 hw)) (by decide) (backOf (W := 0) (rm2 l Z a0 hw [] count (-1 : Int32) parts  h0 n0 Z0 hnz) hZ (tw8 hw) (tw7 hw) (by decide) (by decide)) (g := (mkF m 69 #[iv cx, iv px, iv qx, iv mx, iv count, iv parts, iv mode, iv (-1 : Int32), .unset, .unset, .unset, .unset, .unset, .unset, .unset, .unset, .unset] [(.int parts), (.int (-1 : Int32)), (.int count)])) rfl (by rw [hml]; rfl) (argsL := [(.int count), (.int (-1 : Int32)), (.int parts)]) (rest := []) (lenOf pd_1 rfl) rfl (by show 2 * 0 + _ ≤ _; exact Nat.le_of_eq rfl) (hb hby at_69) (fun _ _ => ⟨rfl, (hE1), (by decide : 0 + 0 ≤ _), (by decide : 0 + 0 ≤ _)⟩)
    dsimp only [Pt.U, Pt.locs, Pt.cells, Pt.slots] at X2 l2 y2 z2 st2 hQ2
    subst l2 y2 z2
    obtain ⟨rfl, N2q, hE2⟩ := hQ2
    have N2 := Fr.app N1 N2q
    refine Wk.go (A' := T2.setTop (mkF m 72 #[iv cx, iv px, iv qx, iv mx, iv count, iv parts, iv mode, iv (-1 : Int32), .unset, .unset, .unset, .unset, .unset, .unset, .unset, .unset, .unset] [(.int (f_str count (-1 : Int32) parts))])) (fun t k => st2 t k) ?_
    refine Wk.go (A' := T2.setTop (mkF m 74 #[iv cx, iv px, iv qx, iv mx, iv count, iv parts, iv mode, iv (-1 : Int32), iv (f_str count (-1 : Int32) parts), .unset, .unset, .unset, .unset, .unset, .unset, .unset, .unset] [])) (fun t k => XS.istore X2.here hx rfl (hb hby at_72) rfl (l' := #[iv cx, iv px, iv qx, iv mx, iv count, iv parts, iv mode, iv (-1 : Int32), iv (f_str count (-1 : Int32) parts), .unset, .unset, .unset, .unset, .unset, .unset, .unset, .unset]) rfl k) ?_
    refine Wk.go (A' := T2.setTop (mkF m 76 #[iv cx, iv px, iv qx, iv mx, iv count, iv parts, iv mode, iv (-1 : Int32), iv (f_str count (-1 : Int32) parts), .unset, .unset, .unset, .unset, .unset, .unset, .unset, .unset] [(.int count)])) (fun t k => XS.iload X2.here hx rfl (hb hby at_74) rfl k) ?_
    refine Wk.go (A' := T2.setTop (mkF m 77 #[iv cx, iv px, iv qx, iv mx, iv count, iv parts, iv mode, iv (-1 : Int32), iv (f_str count (-1 : Int32) parts), .unset, .unset, .unset, .unset, .unset, .unset, .unset, .unset] [(.long (count.toInt64))])) (fun t k => XS.i2l X2.here hx rfl (hb hby at_76) rfl k) ?_
    refine Wk.go (A' := T2.setTop (mkF m 79 #[iv cx, iv px, iv qx, iv mx, iv count, iv parts, iv mode, iv (-1 : Int32), iv (f_str count (-1 : Int32) parts), .unset, .unset, .unset, .unset, .unset, .unset, .unset, .unset] [(.int (-1 : Int32)), (.long (count.toInt64))])) (fun t k => XS.iload X2.here hx rfl (hb hby at_77) rfl k) ?_
    refine Wk.go (A' := T2.setTop (mkF m 80 #[iv cx, iv px, iv qx, iv mx, iv count, iv parts, iv mode, iv (-1 : Int32), iv (f_str count (-1 : Int32) parts), .unset, .unset, .unset, .unset, .unset, .unset, .unset, .unset] [(.int (1 : Int32)), (.int (-1 : Int32)), (.long (count.toInt64))])) (fun t k => XS.iconst X2.here hx rfl (hb hby at_79) k) ?_
    refine Wk.go (A' := T2.setTop (mkF m 81 #[iv cx, iv px, iv qx, iv mx, iv count, iv parts, iv mode, iv (-1 : Int32), iv (f_str count (-1 : Int32) parts), .unset, .unset, .unset, .unset, .unset, .unset, .unset, .unset] [(.int (0 : Int32)), (.long (count.toInt64))])) (fun t k => XS.iadd X2.here hx rfl (hb hby at_80) rfl k) ?_
    refine Wk.go (A' := T2.setTop (mkF m 82 #[iv cx, iv px, iv qx, iv mx, iv count, iv parts, iv mode, iv (-1 : Int32), iv (f_str count (-1 : Int32) parts), .unset, .unset, .unset, .unset, .unset, .unset, .unset, .unset] [(.long ((0 : Int32).toInt64)), (.long (count.toInt64))])) (fun t k => XS.i2l X2.here hx rfl (hb hby at_81) rfl k) ?_
    refine Wk.go (A' := T2.setTop (mkF m 83 #[iv cx, iv px, iv qx, iv mx, iv count, iv parts, iv mode, iv (-1 : Int32), iv (f_str count (-1 : Int32) parts), .unset, .unset, .unset, .unset, .unset, .unset, .unset, .unset] [(.long ((count.toInt64) * ((0 : Int32).toInt64)))])) (fun t k => XS.lmul X2.here hx rfl (hb hby at_82) rfl k) ?_
    refine Wk.go (A' := T2.setTop (mkF m 85 #[iv cx, iv px, iv qx, iv mx, iv count, iv parts, iv mode, iv (-1 : Int32), iv (f_str count (-1 : Int32) parts), jv ((count.toInt64) * ((0 : Int32).toInt64)), .second, .unset, .unset, .unset, .unset, .unset, .unset] [])) (fun t k => XS.lstore X2.here hx rfl (hb hby at_83) rfl (l' := #[iv cx, iv px, iv qx, iv mx, iv count, iv parts, iv mode, iv (-1 : Int32), iv (f_str count (-1 : Int32) parts), jv ((count.toInt64) * ((0 : Int32).toInt64)), .second, .unset, .unset, .unset, .unset, .unset, .unset]) rfl k) ?_
    refine Wk.go (A' := T2.setTop (mkF m 87 #[iv cx, iv px, iv qx, iv mx, iv count, iv parts, iv mode, iv (-1 : Int32), iv (f_str count (-1 : Int32) parts), jv ((count.toInt64) * ((0 : Int32).toInt64)), .second, .unset, .unset, .unset, .unset, .unset, .unset] [(.int (f_str count (-1 : Int32) parts))])) (fun t k => XS.iload X2.here hx rfl (hb hby at_85) rfl k) ?_
    refine Wk.go (A' := T2.setTop (mkF m 88 #[iv cx, iv px, iv qx, iv mx, iv count, iv parts, iv mode, iv (-1 : Int32), iv (f_str count (-1 : Int32) parts), jv ((count.toInt64) * ((0 : Int32).toInt64)), .second, .unset, .unset, .unset, .unset, .unset, .unset] [(.long ((f_str count (-1 : Int32) parts).toInt64))])) (fun t k => XS.i2l X2.here hx rfl (hb hby at_87) rfl k) ?_
    refine Wk.go (A' := T2.setTop (mkF m 90 #[iv cx, iv px, iv qx, iv mx, iv count, iv parts, iv mode, iv (-1 : Int32), iv (f_str count (-1 : Int32) parts), jv ((count.toInt64) * ((0 : Int32).toInt64)), .second, .unset, .unset, .unset, .unset, .unset, .unset] [(.int parts), (.long ((f_str count (-1 : Int32) parts).toInt64))])) (fun t k => XS.iload X2.here hx rfl (hb hby at_88) rfl k) ?_
    refine Wk.go (A' := T2.setTop (mkF m 91 #[iv cx, iv px, iv qx, iv mx, iv count, iv parts, iv mode, iv (-1 : Int32), iv (f_str count (-1 : Int32) parts), jv ((count.toInt64) * ((0 : Int32).toInt64)), .second, .unset, .unset, .unset, .unset, .unset, .unset] [(.long (parts.toInt64)), (.long ((f_str count (-1 : Int32) parts).toInt64))])) (fun t k => XS.i2l X2.here hx rfl (hb hby at_90) rfl k) ?_
    refine Wk.go (A' := T2.setTop (mkF m 92 #[iv cx, iv px, iv qx, iv mx, iv count, iv parts, iv mode, iv (-1 : Int32), iv (f_str count (-1 : Int32) parts), jv ((count.toInt64) * ((0 : Int32).toInt64)), .second, .unset, .unset, .unset, .unset, .unset, .unset] [(.long (((f_str count (-1 : Int32) parts).toInt64) * (parts.toInt64)))])) (fun t k => XS.lmul X2.here hx rfl (hb hby at_91) rfl k) ?_
    refine Wk.go (A' := T2.setTop (mkF m 94 #[iv cx, iv px, iv qx, iv mx, iv count, iv parts, iv mode, iv (-1 : Int32), iv (f_str count (-1 : Int32) parts), jv ((count.toInt64) * ((0 : Int32).toInt64)), .second, .unset, .unset, .unset, .unset, .unset, .unset] [(.long ((count.toInt64) * ((0 : Int32).toInt64))), (.long (((f_str count (-1 : Int32) parts).toInt64) * (parts.toInt64)))])) (fun t k => XS.lload X2.here hx rfl (hb hby at_92) rfl k) ?_
    refine Wk.go (A' := T2.setTop (mkF m 95 #[iv cx, iv px, iv qx, iv mx, iv count, iv parts, iv mode, iv (-1 : Int32), iv (f_str count (-1 : Int32) parts), jv ((count.toInt64) * ((0 : Int32).toInt64)), .second, .unset, .unset, .unset, .unset, .unset, .unset] [(.int (lcmpW (((f_str count (-1 : Int32) parts).toInt64) * (parts.toInt64)) ((count.toInt64) * ((0 : Int32).toInt64))))])) (fun t k => XS.lcmp X2.here hx rfl (hb hby at_94) rfl k) ?_
    have hc95 : ¬ (((count.toInt64) * ((0 : Int32).toInt64)) < (((f_str count (-1 : Int32) parts).toInt64) * (parts.toInt64))) := A1
    refine Wk.go (A' := T2.setTop (mkF m 98 #[iv cx, iv px, iv qx, iv mx, iv count, iv parts, iv mode, iv (-1 : Int32), iv (f_str count (-1 : Int32) parts), jv ((count.toInt64) * ((0 : Int32).toInt64)), .second, .unset, .unset, .unset, .unset, .unset, .unset] [])) (fun t k => XS.ifNo X2.here hx rfl (hb hby at_95) rfl ((if0 _ _).trans (flt (mt (lw_gt _ _).mp hc95)).2.2.1) k) ?_
    refine Wk.go (A' := T2.setTop (mkF m 100 #[iv cx, iv px, iv qx, iv mx, iv count, iv parts, iv mode, iv (-1 : Int32), iv (f_str count (-1 : Int32) parts), jv ((count.toInt64) * ((0 : Int32).toInt64)), .second, .unset, .unset, .unset, .unset, .unset, .unset] [(.long ((count.toInt64) * ((0 : Int32).toInt64)))])) (fun t k => XS.lload X2.here hx rfl (hb hby at_98) rfl k) ?_
    refine Wk.go (A' := T2.setTop (mkF m 102 #[iv cx, iv px, iv qx, iv mx, iv count, iv parts, iv mode, iv (-1 : Int32), iv (f_str count (-1 : Int32) parts), jv ((count.toInt64) * ((0 : Int32).toInt64)), .second, .unset, .unset, .unset, .unset, .unset, .unset] [(.int (f_str count (-1 : Int32) parts)), (.long ((count.toInt64) * ((0 : Int32).toInt64)))])) (fun t k => XS.iload X2.here hx rfl (hb hby at_100) rfl k) ?_
    refine Wk.go (A' := T2.setTop (mkF m 103 #[iv cx, iv px, iv qx, iv mx, iv count, iv parts, iv mode, iv (-1 : Int32), iv (f_str count (-1 : Int32) parts), jv ((count.toInt64) * ((0 : Int32).toInt64)), .second, .unset, .unset, .unset, .unset, .unset, .unset] [(.long ((f_str count (-1 : Int32) parts).toInt64)), (.long ((count.toInt64) * ((0 : Int32).toInt64)))])) (fun t k => XS.i2l X2.here hx rfl (hb hby at_102) rfl k) ?_
    refine Wk.go (A' := T2.setTop (mkF m 104 #[iv cx, iv px, iv qx, iv mx, iv count, iv parts, iv mode, iv (-1 : Int32), iv (f_str count (-1 : Int32) parts), jv ((count.toInt64) * ((0 : Int32).toInt64)), .second, .unset, .unset, .unset, .unset, .unset, .unset] [(.long (1 : Int64)), (.long ((f_str count (-1 : Int32) parts).toInt64)), (.long ((count.toInt64) * ((0 : Int32).toInt64)))])) (fun t k => XS.lconst X2.here hx rfl (hb hby at_103) k) ?_
    refine Wk.go (A' := T2.setTop (mkF m 105 #[iv cx, iv px, iv qx, iv mx, iv count, iv parts, iv mode, iv (-1 : Int32), iv (f_str count (-1 : Int32) parts), jv ((count.toInt64) * ((0 : Int32).toInt64)), .second, .unset, .unset, .unset, .unset, .unset, .unset] [(.long (((f_str count (-1 : Int32) parts).toInt64) + (1 : Int64))), (.long ((count.toInt64) * ((0 : Int32).toInt64)))])) (fun t k => XS.ladd X2.here hx rfl (hb hby at_104) rfl k) ?_
    refine Wk.go (A' := T2.setTop (mkF m 107 #[iv cx, iv px, iv qx, iv mx, iv count, iv parts, iv mode, iv (-1 : Int32), iv (f_str count (-1 : Int32) parts), jv ((count.toInt64) * ((0 : Int32).toInt64)), .second, .unset, .unset, .unset, .unset, .unset, .unset] [(.int parts), (.long (((f_str count (-1 : Int32) parts).toInt64) + (1 : Int64))), (.long ((count.toInt64) * ((0 : Int32).toInt64)))])) (fun t k => XS.iload X2.here hx rfl (hb hby at_105) rfl k) ?_
    refine Wk.go (A' := T2.setTop (mkF m 108 #[iv cx, iv px, iv qx, iv mx, iv count, iv parts, iv mode, iv (-1 : Int32), iv (f_str count (-1 : Int32) parts), jv ((count.toInt64) * ((0 : Int32).toInt64)), .second, .unset, .unset, .unset, .unset, .unset, .unset] [(.long (parts.toInt64)), (.long (((f_str count (-1 : Int32) parts).toInt64) + (1 : Int64))), (.long ((count.toInt64) * ((0 : Int32).toInt64)))])) (fun t k => XS.i2l X2.here hx rfl (hb hby at_107) rfl k) ?_
    refine Wk.go (A' := T2.setTop (mkF m 109 #[iv cx, iv px, iv qx, iv mx, iv count, iv parts, iv mode, iv (-1 : Int32), iv (f_str count (-1 : Int32) parts), jv ((count.toInt64) * ((0 : Int32).toInt64)), .second, .unset, .unset, .unset, .unset, .unset, .unset] [(.long ((((f_str count (-1 : Int32) parts).toInt64) + (1 : Int64)) * (parts.toInt64))), (.long ((count.toInt64) * ((0 : Int32).toInt64)))])) (fun t k => XS.lmul X2.here hx rfl (hb hby at_108) rfl k) ?_
    refine Wk.go (A' := T2.setTop (mkF m 110 #[iv cx, iv px, iv qx, iv mx, iv count, iv parts, iv mode, iv (-1 : Int32), iv (f_str count (-1 : Int32) parts), jv ((count.toInt64) * ((0 : Int32).toInt64)), .second, .unset, .unset, .unset, .unset, .unset, .unset] [(.int (lcmpW ((count.toInt64) * ((0 : Int32).toInt64)) ((((f_str count (-1 : Int32) parts).toInt64) + (1 : Int64)) * (parts.toInt64))))])) (fun t k => XS.lcmp X2.here hx rfl (hb hby at_109) rfl k) ?_
    have hc110 : ((count.toInt64) * ((0 : Int32).toInt64)) < ((((f_str count (-1 : Int32) parts).toInt64) + (1 : Int64)) * (parts.toInt64)) := A2
    refine Wk.go (A' := T2.setTop (mkF m 113 #[iv cx, iv px, iv qx, iv mx, iv count, iv parts, iv mode, iv (-1 : Int32), iv (f_str count (-1 : Int32) parts), jv ((count.toInt64) * ((0 : Int32).toInt64)), .second, .unset, .unset, .unset, .unset, .unset, .unset] [])) (fun t k => XS.ifNo X2.here hx rfl (hb hby at_110) rfl ((if0 _ _).trans (tlt ((lw_lt _ _).mpr hc110)).2.1) k) ?_
    refine Wk.go (A' := T2.setTop (mkF m 114 #[iv cx, iv px, iv qx, iv mx, iv count, iv parts, iv mode, iv (-1 : Int32), iv (f_str count (-1 : Int32) parts), jv ((count.toInt64) * ((0 : Int32).toInt64)), .second, .unset, .unset, .unset, .unset, .unset, .unset] [(.int (1 : Int32))])) (fun t k => XS.iconst X2.here hx rfl (hb hby at_113) k) ?_
    refine Wk.go (A' := T2.setTop (mkF m 118 #[iv cx, iv px, iv qx, iv mx, iv count, iv parts, iv mode, iv (-1 : Int32), iv (f_str count (-1 : Int32) parts), jv ((count.toInt64) * ((0 : Int32).toInt64)), .second, .unset, .unset, .unset, .unset, .unset, .unset] [(.int (1 : Int32))])) (fun t k => XS.goto X2.here hx rfl (pc0 := 114) (pc' := 118) rfl (hb hby at_114) (by decide) (by decide) k) ?_
    refine Wk.go (A' := T2.setTop (mkF m 120 #[iv cx, iv px, iv qx, iv mx, iv count, iv parts, iv mode, iv (-1 : Int32), iv (f_str count (-1 : Int32) parts), jv ((count.toInt64) * ((0 : Int32).toInt64)), .second, iv (1 : Int32), .unset, .unset, .unset, .unset, .unset] [])) (fun t k => XS.istore X2.here hx rfl (hb hby at_118) rfl (l' := #[iv cx, iv px, iv qx, iv mx, iv count, iv parts, iv mode, iv (-1 : Int32), iv (f_str count (-1 : Int32) parts), jv ((count.toInt64) * ((0 : Int32).toInt64)), .second, iv (1 : Int32), .unset, .unset, .unset, .unset, .unset]) rfl k) ?_
    refine Wk.go (A' := T2.setTop (mkF m 122 #[iv cx, iv px, iv qx, iv mx, iv count, iv parts, iv mode, iv (-1 : Int32), iv (f_str count (-1 : Int32) parts), jv ((count.toInt64) * ((0 : Int32).toInt64)), .second, iv (1 : Int32), .unset, .unset, .unset, .unset, .unset] [(.int mode)])) (fun t k => XS.iload X2.here hx rfl (hb hby at_120) rfl k) ?_
    refine Wk.go (A' := T2.setTop (mkF m 125 #[iv cx, iv px, iv qx, iv mx, iv count, iv parts, iv mode, iv (-1 : Int32), iv (f_str count (-1 : Int32) parts), jv ((count.toInt64) * ((0 : Int32).toInt64)), .second, iv (1 : Int32), .unset, .unset, .unset, .unset, .unset] [])) (fun t k => XS.ifNo X2.here hx rfl (hb hby at_122) rfl ((if0 _ _).trans (teq hc23).2) k) ?_
    refine Wk.go (A' := T2.setTop (mkF m 127 #[iv cx, iv px, iv qx, iv mx, iv count, iv parts, iv mode, iv (-1 : Int32), iv (f_str count (-1 : Int32) parts), jv ((count.toInt64) * ((0 : Int32).toInt64)), .second, iv (1 : Int32), .unset, .unset, .unset, .unset, .unset] [(.int (f_str count (-1 : Int32) parts))])) (fun t k => XS.iload X2.here hx rfl (hb hby at_125) rfl k) ?_
    have hc127 : (f_str count (-1 : Int32) parts) = (0 : Int32) := A3 (by decide)
    refine Wk.go (A' := T2.setTop (mkF m 130 #[iv cx, iv px, iv qx, iv mx, iv count, iv parts, iv mode, iv (-1 : Int32), iv (f_str count (-1 : Int32) parts), jv ((count.toInt64) * ((0 : Int32).toInt64)), .second, iv (1 : Int32), .unset, .unset, .unset, .unset, .unset] [])) (fun t k => XS.ifNo X2.here hx rfl (hb hby at_127) rfl ((if0 _ _).trans (teq hc127).2) k) ?_
    refine Wk.go (A' := T2.setTop (mkF m 132 #[iv cx, iv px, iv qx, iv mx, iv count, iv parts, iv mode, iv (-1 : Int32), iv (f_str count (-1 : Int32) parts), jv ((count.toInt64) * ((0 : Int32).toInt64)), .second, iv (1 : Int32), .unset, .unset, .unset, .unset, .unset] [(.int mode)])) (fun t k => XS.iload X2.here hx rfl (hb hby at_130) rfl k) ?_
    refine Wk.go (A' := T2.setTop (mkF m 133 #[iv cx, iv px, iv qx, iv mx, iv count, iv parts, iv mode, iv (-1 : Int32), iv (f_str count (-1 : Int32) parts), jv ((count.toInt64) * ((0 : Int32).toInt64)), .second, iv (1 : Int32), .unset, .unset, .unset, .unset, .unset] [(.int (1 : Int32)), (.int mode)])) (fun t k => XS.iconst X2.here hx rfl (hb hby at_132) k) ?_
    have hc133 : ¬ (mode = (1 : Int32)) := fun q => absurd (hc23.symm.trans q) (by decide)
    refine Wk.go (A' := T2.setTop (mkF m 143 #[iv cx, iv px, iv qx, iv mx, iv count, iv parts, iv mode, iv (-1 : Int32), iv (f_str count (-1 : Int32) parts), jv ((count.toInt64) * ((0 : Int32).toInt64)), .second, iv (1 : Int32), .unset, .unset, .unset, .unset, .unset] [])) (fun t k => XS.icmpYes X2.here hx rfl (pc0 := 133) (pc' := 143) rfl (hb hby at_133) rfl (feq hc133).2 (by decide) (by decide) k) ?_
    refine Wk.go (A' := T2.setTop (mkF m 144 #[iv cx, iv px, iv qx, iv mx, iv count, iv parts, iv mode, iv (-1 : Int32), iv (f_str count (-1 : Int32) parts), jv ((count.toInt64) * ((0 : Int32).toInt64)), .second, iv (1 : Int32), .unset, .unset, .unset, .unset, .unset] [(.int (1 : Int32))])) (fun t k => XS.iconst X2.here hx rfl (hb hby at_143) k) ?_
    refine Wk.go (A' := T2.setTop (mkF m 148 #[iv cx, iv px, iv qx, iv mx, iv count, iv parts, iv mode, iv (-1 : Int32), iv (f_str count (-1 : Int32) parts), jv ((count.toInt64) * ((0 : Int32).toInt64)), .second, iv (1 : Int32), .unset, .unset, .unset, .unset, .unset] [(.int (1 : Int32))])) (fun t k => XS.goto X2.here hx rfl (pc0 := 144) (pc' := 148) rfl (hb hby at_144) (by decide) (by decide) k) ?_
    refine Wk.go (A' := T2.setTop (mkF m 150 #[iv cx, iv px, iv qx, iv mx, iv count, iv parts, iv mode, iv (-1 : Int32), iv (f_str count (-1 : Int32) parts), jv ((count.toInt64) * ((0 : Int32).toInt64)), .second, iv (1 : Int32), iv (1 : Int32), .unset, .unset, .unset, .unset] [])) (fun t k => XS.istore X2.here hx rfl (hb hby at_148) rfl (l' := #[iv cx, iv px, iv qx, iv mx, iv count, iv parts, iv mode, iv (-1 : Int32), iv (f_str count (-1 : Int32) parts), jv ((count.toInt64) * ((0 : Int32).toInt64)), .second, iv (1 : Int32), iv (1 : Int32), .unset, .unset, .unset, .unset]) rfl k) ?_
    refine Wk.go (A' := T2.setTop (mkF m 151 #[iv cx, iv px, iv qx, iv mx, iv count, iv parts, iv mode, iv (-1 : Int32), iv (f_str count (-1 : Int32) parts), jv ((count.toInt64) * ((0 : Int32).toInt64)), .second, iv (1 : Int32), iv (1 : Int32), .unset, .unset, .unset, .unset] [(.int (1 : Int32))])) (fun t k => XS.iconst X2.here hx rfl (hb hby at_150) k) ?_
    refine Wk.go (A' := T2.setTop (mkF m 153 #[iv cx, iv px, iv qx, iv mx, iv count, iv parts, iv mode, iv (-1 : Int32), iv (f_str count (-1 : Int32) parts), jv ((count.toInt64) * ((0 : Int32).toInt64)), .second, iv (1 : Int32), iv (1 : Int32), iv (1 : Int32), .unset, .unset, .unset] [])) (fun t k => XS.istore X2.here hx rfl (hb hby at_151) rfl (l' := #[iv cx, iv px, iv qx, iv mx, iv count, iv parts, iv mode, iv (-1 : Int32), iv (f_str count (-1 : Int32) parts), jv ((count.toInt64) * ((0 : Int32).toInt64)), .second, iv (1 : Int32), iv (1 : Int32), iv (1 : Int32), .unset, .unset, .unset]) rfl k) ?_
    refine Wk.go (A' := T2.setTop (mkF m 155 #[iv cx, iv px, iv qx, iv mx, iv count, iv parts, iv mode, iv (-1 : Int32), iv (f_str count (-1 : Int32) parts), jv ((count.toInt64) * ((0 : Int32).toInt64)), .second, iv (1 : Int32), iv (1 : Int32), iv (1 : Int32), .unset, .unset, .unset] [(.int (-1 : Int32))])) (fun t k => XS.iload X2.here hx rfl (hb hby at_153) rfl k) ?_
    have hc155 : (-1 : Int32) < (0 : Int32) := by decide
    refine Wk.go (A' := T2.setTop (mkF m 208 #[iv cx, iv px, iv qx, iv mx, iv count, iv parts, iv mode, iv (-1 : Int32), iv (f_str count (-1 : Int32) parts), jv ((count.toInt64) * ((0 : Int32).toInt64)), .second, iv (1 : Int32), iv (1 : Int32), iv (1 : Int32), .unset, .unset, .unset] [])) (fun t k => XS.ifYes X2.here hx rfl (pc0 := 155) (pc' := 208) rfl (hb hby at_155) rfl ((if0 _ _).trans (tlt hc155).1) (by decide) (by decide) k) ?_
    refine Wk.go (A' := T2.setTop (mkF m 210 #[iv cx, iv px, iv qx, iv mx, iv count, iv parts, iv mode, iv (-1 : Int32), iv (f_str count (-1 : Int32) parts), jv ((count.toInt64) * ((0 : Int32).toInt64)), .second, iv (1 : Int32), iv (1 : Int32), iv (1 : Int32), .unset, .unset, .unset] [(.int (1 : Int32))])) (fun t k => XS.iload X2.here hx rfl (hb hby at_208) rfl k) ?_
    have hc210 : ¬ ((1 : Int32) = (0 : Int32)) := by decide
    refine Wk.go (A' := T2.setTop (mkF m 213 #[iv cx, iv px, iv qx, iv mx, iv count, iv parts, iv mode, iv (-1 : Int32), iv (f_str count (-1 : Int32) parts), jv ((count.toInt64) * ((0 : Int32).toInt64)), .second, iv (1 : Int32), iv (1 : Int32), iv (1 : Int32), .unset, .unset, .unset] [])) (fun t k => XS.ifNo X2.here hx rfl (hb hby at_210) rfl ((if0 _ _).trans (feq hc210).1) k) ?_
    refine Wk.go (A' := T2.setTop (mkF m 215 #[iv cx, iv px, iv qx, iv mx, iv count, iv parts, iv mode, iv (-1 : Int32), iv (f_str count (-1 : Int32) parts), jv ((count.toInt64) * ((0 : Int32).toInt64)), .second, iv (1 : Int32), iv (1 : Int32), iv (1 : Int32), .unset, .unset, .unset] [(.int (1 : Int32))])) (fun t k => XS.iload X2.here hx rfl (hb hby at_213) rfl k) ?_
    have hc215 : ¬ ((1 : Int32) = (0 : Int32)) := by decide
    refine Wk.go (A' := T2.setTop (mkF m 218 #[iv cx, iv px, iv qx, iv mx, iv count, iv parts, iv mode, iv (-1 : Int32), iv (f_str count (-1 : Int32) parts), jv ((count.toInt64) * ((0 : Int32).toInt64)), .second, iv (1 : Int32), iv (1 : Int32), iv (1 : Int32), .unset, .unset, .unset] [])) (fun t k => XS.ifNo X2.here hx rfl (hb hby at_215) rfl ((if0 _ _).trans (feq hc215).1) k) ?_
    refine Wk.go (A' := T2.setTop (mkF m 220 #[iv cx, iv px, iv qx, iv mx, iv count, iv parts, iv mode, iv (-1 : Int32), iv (f_str count (-1 : Int32) parts), jv ((count.toInt64) * ((0 : Int32).toInt64)), .second, iv (1 : Int32), iv (1 : Int32), iv (1 : Int32), .unset, .unset, .unset] [(.int (1 : Int32))])) (fun t k => XS.iload X2.here hx rfl (hb hby at_218) rfl k) ?_
    have hc220 : ¬ ((1 : Int32) = (0 : Int32)) := by decide
    refine Wk.go (A' := T2.setTop (mkF m 223 #[iv cx, iv px, iv qx, iv mx, iv count, iv parts, iv mode, iv (-1 : Int32), iv (f_str count (-1 : Int32) parts), jv ((count.toInt64) * ((0 : Int32).toInt64)), .second, iv (1 : Int32), iv (1 : Int32), iv (1 : Int32), .unset, .unset, .unset] [])) (fun t k => XS.ifNo X2.here hx rfl (hb hby at_220) rfl ((if0 _ _).trans (feq hc220).1) k) ?_
    refine Wk.go (A' := T2.setTop (mkF m 224 #[iv cx, iv px, iv qx, iv mx, iv count, iv parts, iv mode, iv (-1 : Int32), iv (f_str count (-1 : Int32) parts), jv ((count.toInt64) * ((0 : Int32).toInt64)), .second, iv (1 : Int32), iv (1 : Int32), iv (1 : Int32), .unset, .unset, .unset] [(.int (1 : Int32))])) (fun t k => XS.iconst X2.here hx rfl (hb hby at_223) k) ?_
    refine Wk.go (A' := T2.setTop (mkF m 228 #[iv cx, iv px, iv qx, iv mx, iv count, iv parts, iv mode, iv (-1 : Int32), iv (f_str count (-1 : Int32) parts), jv ((count.toInt64) * ((0 : Int32).toInt64)), .second, iv (1 : Int32), iv (1 : Int32), iv (1 : Int32), .unset, .unset, .unset] [(.int (1 : Int32))])) (fun t k => XS.goto X2.here hx rfl (pc0 := 224) (pc' := 228) rfl (hb hby at_224) (by decide) (by decide) k) ?_
    refine own_fin (Qv := Q0 Z cx px qx mx h0 n0) (v := some (.int (1 : Int32))) X2 hlk (fun h => by rw [Bd.returns] at h; cases h) (fun fs hr => retN X2 hx (t := .boolean) Bd.returns (by simp) (hb hby at_228) hr) ?_ (by decide) (by decide)
    exact ⟨rfl, N2⟩
  · refine Wk.go (A' := T1.setTop (mkF m 32 #[iv cx, iv px, iv qx, iv mx, iv count, iv parts, iv mode, .unset, .unset, .unset, .unset, .unset, .unset, .unset, .unset, .unset, .unset] [])) (fun t k => XS.ifYes X1.here hx rfl (pc0 := 23) (pc' := 32) rfl (hb hby at_23) rfl ((if0 _ _).trans (feq hc23).2) (by decide) (by decide) k) ?_
    refine Wk.go (A' := T1.setTop (mkF m 34 #[iv cx, iv px, iv qx, iv mx, iv count, iv parts, iv mode, .unset, .unset, .unset, .unset, .unset, .unset, .unset, .unset, .unset, .unset] [(.int mode)])) (fun t k => XS.iload X1.here hx rfl (hb hby at_32) rfl k) ?_
    refine Wk.go (A' := T1.setTop (mkF m 35 #[iv cx, iv px, iv qx, iv mx, iv count, iv parts, iv mode, .unset, .unset, .unset, .unset, .unset, .unset, .unset, .unset, .unset, .unset] [(.int (1 : Int32)), (.int mode)])) (fun t k => XS.iconst X1.here hx rfl (hb hby at_34) k) ?_
    by_cases hc35 : mode = (1 : Int32)
    · refine Wk.go (A' := T1.setTop (mkF m 38 #[iv cx, iv px, iv qx, iv mx, iv count, iv parts, iv mode, .unset, .unset, .unset, .unset, .unset, .unset, .unset, .unset, .unset, .unset] [])) (fun t k => XS.icmpNo X1.here hx rfl (hb hby at_35) rfl (teq hc35).2 k) ?_
      refine Wk.go (A' := T1.setTop (mkF m 40 #[iv cx, iv px, iv qx, iv mx, iv count, iv parts, iv mode, .unset, .unset, .unset, .unset, .unset, .unset, .unset, .unset, .unset, .unset] [(.int parts)])) (fun t k => XS.iload X1.here hx rfl (hb hby at_38) rfl k) ?_
      refine Wk.go (A' := T1.setTop (mkF m 41 #[iv cx, iv px, iv qx, iv mx, iv count, iv parts, iv mode, .unset, .unset, .unset, .unset, .unset, .unset, .unset, .unset, .unset, .unset] [(.int (1 : Int32)), (.int parts)])) (fun t k => XS.iconst X1.here hx rfl (hb hby at_40) k) ?_
      refine Wk.go (A' := T1.setTop (mkF m 42 #[iv cx, iv px, iv qx, iv mx, iv count, iv parts, iv mode, .unset, .unset, .unset, .unset, .unset, .unset, .unset, .unset, .unset, .unset] [(.int (parts - (1 : Int32)))])) (fun t k => XS.isub X1.here hx rfl (hb hby at_41) rfl k) ?_
      refine Wk.go (A' := T1.setTop (mkF m 44 #[iv cx, iv px, iv qx, iv mx, iv count, iv parts, iv mode, iv (parts - (1 : Int32)), .unset, .unset, .unset, .unset, .unset, .unset, .unset, .unset, .unset] [])) (fun t k => XS.istore X1.here hx rfl (hb hby at_42) rfl (l' := #[iv cx, iv px, iv qx, iv mx, iv count, iv parts, iv mode, iv (parts - (1 : Int32)), .unset, .unset, .unset, .unset, .unset, .unset, .unset, .unset, .unset]) rfl k) ?_
      refine Wk.go (A' := T1.setTop (mkF m 63 #[iv cx, iv px, iv qx, iv mx, iv count, iv parts, iv mode, iv (parts - (1 : Int32)), .unset, .unset, .unset, .unset, .unset, .unset, .unset, .unset, .unset] [])) (fun t k => XS.goto X1.here hx rfl (pc0 := 44) (pc' := 63) rfl (hb hby at_44) (by decide) (by decide) k) ?_
      have hp : -1 ≤ ((parts - (1 : Int32))).toInt ∧ ((parts - (1 : Int32))).toInt < parts.toInt ∧ ((parts - (1 : Int32))).toInt = parts.toInt - 1 := own_p1 hN
      generalize hpart : (parts - (1 : Int32)) = part at hp ⊢
      obtain ⟨A1, A2, A3, A4, A5⟩ := own_law count part parts hC hp.1 hp.2.1 hN
      have hnz := own_i64 hN
      refine Wk.go (A' := T1.setTop (mkF m 65 #[iv cx, iv px, iv qx, iv mx, iv count, iv parts, iv mode, iv part, .unset, .unset, .unset, .unset, .unset, .unset, .unset, .unset, .unset] [(.int count)])) (fun t k => XS.iload X1.here hx rfl (hb hby at_63) rfl k) ?_
      refine Wk.go (A' := T1.setTop (mkF m 67 #[iv cx, iv px, iv qx, iv mx, iv count, iv parts, iv mode, iv part, .unset, .unset, .unset, .unset, .unset, .unset, .unset, .unset, .unset] [(.int part), (.int count)])) (fun t k => XS.iload X1.here hx rfl (hb hby at_65) rfl k) ?_
      refine Wk.go (A' := T1.setTop (mkF m 69 #[iv cx, iv px, iv qx, iv mx, iv count, iv parts, iv mode, iv part, .unset, .unset, .unset, .unset, .unset, .unset, .unset, .unset, .unset] [(.int parts), (.int part), (.int count)])) (fun t k => XS.iload X1.here hx rfl (hb hby at_67) rfl k) ?_
      obtain ⟨_, _, ⟨T3, L3, k3, n3⟩, -, X3, ⟨Lc3, hQ3, l3, y3, z3⟩, st3⟩ := Jvm.LawKit.callS X1 hx (y := (⟨"com/example/bitbraid/bitbraid/Workers", "stretchEnd", "(III)I"⟩ : MethodName)) hown (mvT hZ (tw5 hw)) (mvT hZ (tw6 hw)) (mvT hZ (tw7 hw)) (mvT hZ (tw8 hw)) (by decide) (backOf (W := 0) (rm2 l Z a0 hw [] count part parts  h0 n0 Z0 hnz) hZ (tw8 hw) (tw7 hw) (by decide) (by decide)) (g := (mkF m 69 #[iv cx, iv px, iv qx, iv mx, iv count, iv parts, iv mode, iv part, .unset, .unset, .unset, .unset, .unset, .unset, .unset, .unset, .unset] [(.int parts), (.int part), (.int count)])) rfl (by rw [hml]; rfl) (argsL := [(.int count), (.int part), (.int parts)]) (rest := []) (lenOf pd_1 rfl) rfl (by show 2 * 0 + _ ≤ _; exact Nat.le_of_eq rfl) (hb hby at_69) (fun _ _ => ⟨rfl, (hE1), (by decide : 0 + 0 ≤ _), (by decide : 0 + 0 ≤ _)⟩)
      dsimp only [Pt.U, Pt.locs, Pt.cells, Pt.slots] at X3 l3 y3 z3 st3 hQ3
      subst l3 y3 z3
      obtain ⟨rfl, N3q, hE3⟩ := hQ3
      have N3 := Fr.app N1 N3q
      refine Wk.go (A' := T3.setTop (mkF m 72 #[iv cx, iv px, iv qx, iv mx, iv count, iv parts, iv mode, iv part, .unset, .unset, .unset, .unset, .unset, .unset, .unset, .unset, .unset] [(.int (f_str count part parts))])) (fun t k => st3 t k) ?_
      refine Wk.go (A' := T3.setTop (mkF m 74 #[iv cx, iv px, iv qx, iv mx, iv count, iv parts, iv mode, iv part, iv (f_str count part parts), .unset, .unset, .unset, .unset, .unset, .unset, .unset, .unset] [])) (fun t k => XS.istore X3.here hx rfl (hb hby at_72) rfl (l' := #[iv cx, iv px, iv qx, iv mx, iv count, iv parts, iv mode, iv part, iv (f_str count part parts), .unset, .unset, .unset, .unset, .unset, .unset, .unset, .unset]) rfl k) ?_
      refine Wk.go (A' := T3.setTop (mkF m 76 #[iv cx, iv px, iv qx, iv mx, iv count, iv parts, iv mode, iv part, iv (f_str count part parts), .unset, .unset, .unset, .unset, .unset, .unset, .unset, .unset] [(.int count)])) (fun t k => XS.iload X3.here hx rfl (hb hby at_74) rfl k) ?_
      refine Wk.go (A' := T3.setTop (mkF m 77 #[iv cx, iv px, iv qx, iv mx, iv count, iv parts, iv mode, iv part, iv (f_str count part parts), .unset, .unset, .unset, .unset, .unset, .unset, .unset, .unset] [(.long (count.toInt64))])) (fun t k => XS.i2l X3.here hx rfl (hb hby at_76) rfl k) ?_
      refine Wk.go (A' := T3.setTop (mkF m 79 #[iv cx, iv px, iv qx, iv mx, iv count, iv parts, iv mode, iv part, iv (f_str count part parts), .unset, .unset, .unset, .unset, .unset, .unset, .unset, .unset] [(.int part), (.long (count.toInt64))])) (fun t k => XS.iload X3.here hx rfl (hb hby at_77) rfl k) ?_
      refine Wk.go (A' := T3.setTop (mkF m 80 #[iv cx, iv px, iv qx, iv mx, iv count, iv parts, iv mode, iv part, iv (f_str count part parts), .unset, .unset, .unset, .unset, .unset, .unset, .unset, .unset] [(.int (1 : Int32)), (.int part), (.long (count.toInt64))])) (fun t k => XS.iconst X3.here hx rfl (hb hby at_79) k) ?_
      refine Wk.go (A' := T3.setTop (mkF m 81 #[iv cx, iv px, iv qx, iv mx, iv count, iv parts, iv mode, iv part, iv (f_str count part parts), .unset, .unset, .unset, .unset, .unset, .unset, .unset, .unset] [(.int (part + (1 : Int32))), (.long (count.toInt64))])) (fun t k => XS.iadd X3.here hx rfl (hb hby at_80) rfl k) ?_
      refine Wk.go (A' := T3.setTop (mkF m 82 #[iv cx, iv px, iv qx, iv mx, iv count, iv parts, iv mode, iv part, iv (f_str count part parts), .unset, .unset, .unset, .unset, .unset, .unset, .unset, .unset] [(.long ((part + (1 : Int32)).toInt64)), (.long (count.toInt64))])) (fun t k => XS.i2l X3.here hx rfl (hb hby at_81) rfl k) ?_
      refine Wk.go (A' := T3.setTop (mkF m 83 #[iv cx, iv px, iv qx, iv mx, iv count, iv parts, iv mode, iv part, iv (f_str count part parts), .unset, .unset, .unset, .unset, .unset, .unset, .unset, .unset] [(.long ((count.toInt64) * ((part + (1 : Int32)).toInt64)))])) (fun t k => XS.lmul X3.here hx rfl (hb hby at_82) rfl k) ?_
      refine Wk.go (A' := T3.setTop (mkF m 85 #[iv cx, iv px, iv qx, iv mx, iv count, iv parts, iv mode, iv part, iv (f_str count part parts), jv ((count.toInt64) * ((part + (1 : Int32)).toInt64)), .second, .unset, .unset, .unset, .unset, .unset, .unset] [])) (fun t k => XS.lstore X3.here hx rfl (hb hby at_83) rfl (l' := #[iv cx, iv px, iv qx, iv mx, iv count, iv parts, iv mode, iv part, iv (f_str count part parts), jv ((count.toInt64) * ((part + (1 : Int32)).toInt64)), .second, .unset, .unset, .unset, .unset, .unset, .unset]) rfl k) ?_
      refine Wk.go (A' := T3.setTop (mkF m 87 #[iv cx, iv px, iv qx, iv mx, iv count, iv parts, iv mode, iv part, iv (f_str count part parts), jv ((count.toInt64) * ((part + (1 : Int32)).toInt64)), .second, .unset, .unset, .unset, .unset, .unset, .unset] [(.int (f_str count part parts))])) (fun t k => XS.iload X3.here hx rfl (hb hby at_85) rfl k) ?_
      refine Wk.go (A' := T3.setTop (mkF m 88 #[iv cx, iv px, iv qx, iv mx, iv count, iv parts, iv mode, iv part, iv (f_str count part parts), jv ((count.toInt64) * ((part + (1 : Int32)).toInt64)), .second, .unset, .unset, .unset, .unset, .unset, .unset] [(.long ((f_str count part parts).toInt64))])) (fun t k => XS.i2l X3.here hx rfl (hb hby at_87) rfl k) ?_
      refine Wk.go (A' := T3.setTop (mkF m 90 #[iv cx, iv px, iv qx, iv mx, iv count, iv parts, iv mode, iv part, iv (f_str count part parts), jv ((count.toInt64) * ((part + (1 : Int32)).toInt64)), .second, .unset, .unset, .unset, .unset, .unset, .unset] [(.int parts), (.long ((f_str count part parts).toInt64))])) (fun t k => XS.iload X3.here hx rfl (hb hby at_88) rfl k) ?_
      refine Wk.go (A' := T3.setTop (mkF m 91 #[iv cx, iv px, iv qx, iv mx, iv count, iv parts, iv mode, iv part, iv (f_str count part parts), jv ((count.toInt64) * ((part + (1 : Int32)).toInt64)), .second, .unset, .unset, .unset, .unset, .unset, .unset] [(.long (parts.toInt64)), (.long ((f_str count part parts).toInt64))])) (fun t k => XS.i2l X3.here hx rfl (hb hby at_90) rfl k) ?_
      refine Wk.go (A' := T3.setTop (mkF m 92 #[iv cx, iv px, iv qx, iv mx, iv count, iv parts, iv mode, iv part, iv (f_str count part parts), jv ((count.toInt64) * ((part + (1 : Int32)).toInt64)), .second, .unset, .unset, .unset, .unset, .unset, .unset] [(.long (((f_str count part parts).toInt64) * (parts.toInt64)))])) (fun t k => XS.lmul X3.here hx rfl (hb hby at_91) rfl k) ?_
      refine Wk.go (A' := T3.setTop (mkF m 94 #[iv cx, iv px, iv qx, iv mx, iv count, iv parts, iv mode, iv part, iv (f_str count part parts), jv ((count.toInt64) * ((part + (1 : Int32)).toInt64)), .second, .unset, .unset, .unset, .unset, .unset, .unset] [(.long ((count.toInt64) * ((part + (1 : Int32)).toInt64))), (.long (((f_str count part parts).toInt64) * (parts.toInt64)))])) (fun t k => XS.lload X3.here hx rfl (hb hby at_92) rfl k) ?_
      refine Wk.go (A' := T3.setTop (mkF m 95 #[iv cx, iv px, iv qx, iv mx, iv count, iv parts, iv mode, iv part, iv (f_str count part parts), jv ((count.toInt64) * ((part + (1 : Int32)).toInt64)), .second, .unset, .unset, .unset, .unset, .unset, .unset] [(.int (lcmpW (((f_str count part parts).toInt64) * (parts.toInt64)) ((count.toInt64) * ((part + (1 : Int32)).toInt64))))])) (fun t k => XS.lcmp X3.here hx rfl (hb hby at_94) rfl k) ?_
      have hc95 : ¬ (((count.toInt64) * ((part + (1 : Int32)).toInt64)) < (((f_str count part parts).toInt64) * (parts.toInt64))) := A1
      refine Wk.go (A' := T3.setTop (mkF m 98 #[iv cx, iv px, iv qx, iv mx, iv count, iv parts, iv mode, iv part, iv (f_str count part parts), jv ((count.toInt64) * ((part + (1 : Int32)).toInt64)), .second, .unset, .unset, .unset, .unset, .unset, .unset] [])) (fun t k => XS.ifNo X3.here hx rfl (hb hby at_95) rfl ((if0 _ _).trans (flt (mt (lw_gt _ _).mp hc95)).2.2.1) k) ?_
      refine Wk.go (A' := T3.setTop (mkF m 100 #[iv cx, iv px, iv qx, iv mx, iv count, iv parts, iv mode, iv part, iv (f_str count part parts), jv ((count.toInt64) * ((part + (1 : Int32)).toInt64)), .second, .unset, .unset, .unset, .unset, .unset, .unset] [(.long ((count.toInt64) * ((part + (1 : Int32)).toInt64)))])) (fun t k => XS.lload X3.here hx rfl (hb hby at_98) rfl k) ?_
      refine Wk.go (A' := T3.setTop (mkF m 102 #[iv cx, iv px, iv qx, iv mx, iv count, iv parts, iv mode, iv part, iv (f_str count part parts), jv ((count.toInt64) * ((part + (1 : Int32)).toInt64)), .second, .unset, .unset, .unset, .unset, .unset, .unset] [(.int (f_str count part parts)), (.long ((count.toInt64) * ((part + (1 : Int32)).toInt64)))])) (fun t k => XS.iload X3.here hx rfl (hb hby at_100) rfl k) ?_
      refine Wk.go (A' := T3.setTop (mkF m 103 #[iv cx, iv px, iv qx, iv mx, iv count, iv parts, iv mode, iv part, iv (f_str count part parts), jv ((count.toInt64) * ((part + (1 : Int32)).toInt64)), .second, .unset, .unset, .unset, .unset, .unset, .unset] [(.long ((f_str count part parts).toInt64)), (.long ((count.toInt64) * ((part + (1 : Int32)).toInt64)))])) (fun t k => XS.i2l X3.here hx rfl (hb hby at_102) rfl k) ?_
      refine Wk.go (A' := T3.setTop (mkF m 104 #[iv cx, iv px, iv qx, iv mx, iv count, iv parts, iv mode, iv part, iv (f_str count part parts), jv ((count.toInt64) * ((part + (1 : Int32)).toInt64)), .second, .unset, .unset, .unset, .unset, .unset, .unset] [(.long (1 : Int64)), (.long ((f_str count part parts).toInt64)), (.long ((count.toInt64) * ((part + (1 : Int32)).toInt64)))])) (fun t k => XS.lconst X3.here hx rfl (hb hby at_103) k) ?_
      refine Wk.go (A' := T3.setTop (mkF m 105 #[iv cx, iv px, iv qx, iv mx, iv count, iv parts, iv mode, iv part, iv (f_str count part parts), jv ((count.toInt64) * ((part + (1 : Int32)).toInt64)), .second, .unset, .unset, .unset, .unset, .unset, .unset] [(.long (((f_str count part parts).toInt64) + (1 : Int64))), (.long ((count.toInt64) * ((part + (1 : Int32)).toInt64)))])) (fun t k => XS.ladd X3.here hx rfl (hb hby at_104) rfl k) ?_
      refine Wk.go (A' := T3.setTop (mkF m 107 #[iv cx, iv px, iv qx, iv mx, iv count, iv parts, iv mode, iv part, iv (f_str count part parts), jv ((count.toInt64) * ((part + (1 : Int32)).toInt64)), .second, .unset, .unset, .unset, .unset, .unset, .unset] [(.int parts), (.long (((f_str count part parts).toInt64) + (1 : Int64))), (.long ((count.toInt64) * ((part + (1 : Int32)).toInt64)))])) (fun t k => XS.iload X3.here hx rfl (hb hby at_105) rfl k) ?_
      refine Wk.go (A' := T3.setTop (mkF m 108 #[iv cx, iv px, iv qx, iv mx, iv count, iv parts, iv mode, iv part, iv (f_str count part parts), jv ((count.toInt64) * ((part + (1 : Int32)).toInt64)), .second, .unset, .unset, .unset, .unset, .unset, .unset] [(.long (parts.toInt64)), (.long (((f_str count part parts).toInt64) + (1 : Int64))), (.long ((count.toInt64) * ((part + (1 : Int32)).toInt64)))])) (fun t k => XS.i2l X3.here hx rfl (hb hby at_107) rfl k) ?_
      refine Wk.go (A' := T3.setTop (mkF m 109 #[iv cx, iv px, iv qx, iv mx, iv count, iv parts, iv mode, iv part, iv (f_str count part parts), jv ((count.toInt64) * ((part + (1 : Int32)).toInt64)), .second, .unset, .unset, .unset, .unset, .unset, .unset] [(.long ((((f_str count part parts).toInt64) + (1 : Int64)) * (parts.toInt64))), (.long ((count.toInt64) * ((part + (1 : Int32)).toInt64)))])) (fun t k => XS.lmul X3.here hx rfl (hb hby at_108) rfl k) ?_
      refine Wk.go (A' := T3.setTop (mkF m 110 #[iv cx, iv px, iv qx, iv mx, iv count, iv parts, iv mode, iv part, iv (f_str count part parts), jv ((count.toInt64) * ((part + (1 : Int32)).toInt64)), .second, .unset, .unset, .unset, .unset, .unset, .unset] [(.int (lcmpW ((count.toInt64) * ((part + (1 : Int32)).toInt64)) ((((f_str count part parts).toInt64) + (1 : Int64)) * (parts.toInt64))))])) (fun t k => XS.lcmp X3.here hx rfl (hb hby at_109) rfl k) ?_
      have hc110 : ((count.toInt64) * ((part + (1 : Int32)).toInt64)) < ((((f_str count part parts).toInt64) + (1 : Int64)) * (parts.toInt64)) := A2
      refine Wk.go (A' := T3.setTop (mkF m 113 #[iv cx, iv px, iv qx, iv mx, iv count, iv parts, iv mode, iv part, iv (f_str count part parts), jv ((count.toInt64) * ((part + (1 : Int32)).toInt64)), .second, .unset, .unset, .unset, .unset, .unset, .unset] [])) (fun t k => XS.ifNo X3.here hx rfl (hb hby at_110) rfl ((if0 _ _).trans (tlt ((lw_lt _ _).mpr hc110)).2.1) k) ?_
      refine Wk.go (A' := T3.setTop (mkF m 114 #[iv cx, iv px, iv qx, iv mx, iv count, iv parts, iv mode, iv part, iv (f_str count part parts), jv ((count.toInt64) * ((part + (1 : Int32)).toInt64)), .second, .unset, .unset, .unset, .unset, .unset, .unset] [(.int (1 : Int32))])) (fun t k => XS.iconst X3.here hx rfl (hb hby at_113) k) ?_
      refine Wk.go (A' := T3.setTop (mkF m 118 #[iv cx, iv px, iv qx, iv mx, iv count, iv parts, iv mode, iv part, iv (f_str count part parts), jv ((count.toInt64) * ((part + (1 : Int32)).toInt64)), .second, .unset, .unset, .unset, .unset, .unset, .unset] [(.int (1 : Int32))])) (fun t k => XS.goto X3.here hx rfl (pc0 := 114) (pc' := 118) rfl (hb hby at_114) (by decide) (by decide) k) ?_
      refine Wk.go (A' := T3.setTop (mkF m 120 #[iv cx, iv px, iv qx, iv mx, iv count, iv parts, iv mode, iv part, iv (f_str count part parts), jv ((count.toInt64) * ((part + (1 : Int32)).toInt64)), .second, iv (1 : Int32), .unset, .unset, .unset, .unset, .unset] [])) (fun t k => XS.istore X3.here hx rfl (hb hby at_118) rfl (l' := #[iv cx, iv px, iv qx, iv mx, iv count, iv parts, iv mode, iv part, iv (f_str count part parts), jv ((count.toInt64) * ((part + (1 : Int32)).toInt64)), .second, iv (1 : Int32), .unset, .unset, .unset, .unset, .unset]) rfl k) ?_
      refine Wk.go (A' := T3.setTop (mkF m 122 #[iv cx, iv px, iv qx, iv mx, iv count, iv parts, iv mode, iv part, iv (f_str count part parts), jv ((count.toInt64) * ((part + (1 : Int32)).toInt64)), .second, iv (1 : Int32), .unset, .unset, .unset, .unset, .unset] [(.int mode)])) (fun t k => XS.iload X3.here hx rfl (hb hby at_120) rfl k) ?_
      refine Wk.go (A' := T3.setTop (mkF m 130 #[iv cx, iv px, iv qx, iv mx, iv count, iv parts, iv mode, iv part, iv (f_str count part parts), jv ((count.toInt64) * ((part + (1 : Int32)).toInt64)), .second, iv (1 : Int32), .unset, .unset, .unset, .unset, .unset] [])) (fun t k => XS.ifYes X3.here hx rfl (pc0 := 122) (pc' := 130) rfl (hb hby at_122) rfl ((if0 _ _).trans (feq hc23).2) (by decide) (by decide) k) ?_
      refine Wk.go (A' := T3.setTop (mkF m 132 #[iv cx, iv px, iv qx, iv mx, iv count, iv parts, iv mode, iv part, iv (f_str count part parts), jv ((count.toInt64) * ((part + (1 : Int32)).toInt64)), .second, iv (1 : Int32), .unset, .unset, .unset, .unset, .unset] [(.int mode)])) (fun t k => XS.iload X3.here hx rfl (hb hby at_130) rfl k) ?_
      refine Wk.go (A' := T3.setTop (mkF m 133 #[iv cx, iv px, iv qx, iv mx, iv count, iv parts, iv mode, iv part, iv (f_str count part parts), jv ((count.toInt64) * ((part + (1 : Int32)).toInt64)), .second, iv (1 : Int32), .unset, .unset, .unset, .unset, .unset] [(.int (1 : Int32)), (.int mode)])) (fun t k => XS.iconst X3.here hx rfl (hb hby at_132) k) ?_
      refine Wk.go (A' := T3.setTop (mkF m 136 #[iv cx, iv px, iv qx, iv mx, iv count, iv parts, iv mode, iv part, iv (f_str count part parts), jv ((count.toInt64) * ((part + (1 : Int32)).toInt64)), .second, iv (1 : Int32), .unset, .unset, .unset, .unset, .unset] [])) (fun t k => XS.icmpNo X3.here hx rfl (hb hby at_133) rfl (teq hc35).2 k) ?_
      refine Wk.go (A' := T3.setTop (mkF m 138 #[iv cx, iv px, iv qx, iv mx, iv count, iv parts, iv mode, iv part, iv (f_str count part parts), jv ((count.toInt64) * ((part + (1 : Int32)).toInt64)), .second, iv (1 : Int32), .unset, .unset, .unset, .unset, .unset] [(.int (f_str count part parts))])) (fun t k => XS.iload X3.here hx rfl (hb hby at_136) rfl k) ?_
      refine Wk.go (A' := T3.setTop (mkF m 140 #[iv cx, iv px, iv qx, iv mx, iv count, iv parts, iv mode, iv part, iv (f_str count part parts), jv ((count.toInt64) * ((part + (1 : Int32)).toInt64)), .second, iv (1 : Int32), .unset, .unset, .unset, .unset, .unset] [(.int count), (.int (f_str count part parts))])) (fun t k => XS.iload X3.here hx rfl (hb hby at_138) rfl k) ?_
      have hc140 : (f_str count part parts) = count := A4 hp.2.2
      refine Wk.go (A' := T3.setTop (mkF m 143 #[iv cx, iv px, iv qx, iv mx, iv count, iv parts, iv mode, iv part, iv (f_str count part parts), jv ((count.toInt64) * ((part + (1 : Int32)).toInt64)), .second, iv (1 : Int32), .unset, .unset, .unset, .unset, .unset] [])) (fun t k => XS.icmpNo X3.here hx rfl (hb hby at_140) rfl (teq hc140).2 k) ?_
      refine Wk.go (A' := T3.setTop (mkF m 144 #[iv cx, iv px, iv qx, iv mx, iv count, iv parts, iv mode, iv part, iv (f_str count part parts), jv ((count.toInt64) * ((part + (1 : Int32)).toInt64)), .second, iv (1 : Int32), .unset, .unset, .unset, .unset, .unset] [(.int (1 : Int32))])) (fun t k => XS.iconst X3.here hx rfl (hb hby at_143) k) ?_
      refine Wk.go (A' := T3.setTop (mkF m 148 #[iv cx, iv px, iv qx, iv mx, iv count, iv parts, iv mode, iv part, iv (f_str count part parts), jv ((count.toInt64) * ((part + (1 : Int32)).toInt64)), .second, iv (1 : Int32), .unset, .unset, .unset, .unset, .unset] [(.int (1 : Int32))])) (fun t k => XS.goto X3.here hx rfl (pc0 := 144) (pc' := 148) rfl (hb hby at_144) (by decide) (by decide) k) ?_
      refine Wk.go (A' := T3.setTop (mkF m 150 #[iv cx, iv px, iv qx, iv mx, iv count, iv parts, iv mode, iv part, iv (f_str count part parts), jv ((count.toInt64) * ((part + (1 : Int32)).toInt64)), .second, iv (1 : Int32), iv (1 : Int32), .unset, .unset, .unset, .unset] [])) (fun t k => XS.istore X3.here hx rfl (hb hby at_148) rfl (l' := #[iv cx, iv px, iv qx, iv mx, iv count, iv parts, iv mode, iv part, iv (f_str count part parts), jv ((count.toInt64) * ((part + (1 : Int32)).toInt64)), .second, iv (1 : Int32), iv (1 : Int32), .unset, .unset, .unset, .unset]) rfl k) ?_
      refine Wk.go (A' := T3.setTop (mkF m 151 #[iv cx, iv px, iv qx, iv mx, iv count, iv parts, iv mode, iv part, iv (f_str count part parts), jv ((count.toInt64) * ((part + (1 : Int32)).toInt64)), .second, iv (1 : Int32), iv (1 : Int32), .unset, .unset, .unset, .unset] [(.int (1 : Int32))])) (fun t k => XS.iconst X3.here hx rfl (hb hby at_150) k) ?_
      refine Wk.go (A' := T3.setTop (mkF m 153 #[iv cx, iv px, iv qx, iv mx, iv count, iv parts, iv mode, iv part, iv (f_str count part parts), jv ((count.toInt64) * ((part + (1 : Int32)).toInt64)), .second, iv (1 : Int32), iv (1 : Int32), iv (1 : Int32), .unset, .unset, .unset] [])) (fun t k => XS.istore X3.here hx rfl (hb hby at_151) rfl (l' := #[iv cx, iv px, iv qx, iv mx, iv count, iv parts, iv mode, iv part, iv (f_str count part parts), jv ((count.toInt64) * ((part + (1 : Int32)).toInt64)), .second, iv (1 : Int32), iv (1 : Int32), iv (1 : Int32), .unset, .unset, .unset]) rfl k) ?_
      refine Wk.go (A' := T3.setTop (mkF m 155 #[iv cx, iv px, iv qx, iv mx, iv count, iv parts, iv mode, iv part, iv (f_str count part parts), jv ((count.toInt64) * ((part + (1 : Int32)).toInt64)), .second, iv (1 : Int32), iv (1 : Int32), iv (1 : Int32), .unset, .unset, .unset] [(.int part)])) (fun t k => XS.iload X3.here hx rfl (hb hby at_153) rfl k) ?_
      have hc155 : ¬ (part < (0 : Int32)) := fun q => absurd q (own_nn hp.2.2 hN)
      refine Wk.go (A' := T3.setTop (mkF m 158 #[iv cx, iv px, iv qx, iv mx, iv count, iv parts, iv mode, iv part, iv (f_str count part parts), jv ((count.toInt64) * ((part + (1 : Int32)).toInt64)), .second, iv (1 : Int32), iv (1 : Int32), iv (1 : Int32), .unset, .unset, .unset] [])) (fun t k => XS.ifNo X3.here hx rfl (hb hby at_155) rfl ((if0 _ _).trans (flt hc155).1) k) ?_
      refine Wk.go (A' := T3.setTop (mkF m 160 #[iv cx, iv px, iv qx, iv mx, iv count, iv parts, iv mode, iv part, iv (f_str count part parts), jv ((count.toInt64) * ((part + (1 : Int32)).toInt64)), .second, iv (1 : Int32), iv (1 : Int32), iv (1 : Int32), .unset, .unset, .unset] [(.int count)])) (fun t k => XS.iload X3.here hx rfl (hb hby at_158) rfl k) ?_
      refine Wk.go (A' := T3.setTop (mkF m 162 #[iv cx, iv px, iv qx, iv mx, iv count, iv parts, iv mode, iv part, iv (f_str count part parts), jv ((count.toInt64) * ((part + (1 : Int32)).toInt64)), .second, iv (1 : Int32), iv (1 : Int32), iv (1 : Int32), .unset, .unset, .unset] [(.int part), (.int count)])) (fun t k => XS.iload X3.here hx rfl (hb hby at_160) rfl k) ?_
      refine Wk.go (A' := T3.setTop (mkF m 163 #[iv cx, iv px, iv qx, iv mx, iv count, iv parts, iv mode, iv part, iv (f_str count part parts), jv ((count.toInt64) * ((part + (1 : Int32)).toInt64)), .second, iv (1 : Int32), iv (1 : Int32), iv (1 : Int32), .unset, .unset, .unset] [(.int (1 : Int32)), (.int part), (.int count)])) (fun t k => XS.iconst X3.here hx rfl (hb hby at_162) k) ?_
      refine Wk.go (A' := T3.setTop (mkF m 164 #[iv cx, iv px, iv qx, iv mx, iv count, iv parts, iv mode, iv part, iv (f_str count part parts), jv ((count.toInt64) * ((part + (1 : Int32)).toInt64)), .second, iv (1 : Int32), iv (1 : Int32), iv (1 : Int32), .unset, .unset, .unset] [(.int (part - (1 : Int32))), (.int count)])) (fun t k => XS.isub X3.here hx rfl (hb hby at_163) rfl k) ?_
      refine Wk.go (A' := T3.setTop (mkF m 166 #[iv cx, iv px, iv qx, iv mx, iv count, iv parts, iv mode, iv part, iv (f_str count part parts), jv ((count.toInt64) * ((part + (1 : Int32)).toInt64)), .second, iv (1 : Int32), iv (1 : Int32), iv (1 : Int32), .unset, .unset, .unset] [(.int parts), (.int (part - (1 : Int32))), (.int count)])) (fun t k => XS.iload X3.here hx rfl (hb hby at_164) rfl k) ?_
      obtain ⟨_, _, ⟨T4, L4, k4, n4⟩, -, X4, ⟨Lc4, hQ4, l4, y4, z4⟩, st4⟩ := Jvm.LawKit.callS X3 hx (y := (⟨"com/example/bitbraid/bitbraid/Workers", "stretchEnd", "(III)I"⟩ : MethodName)) hown (mvT hZ (tw5 hw)) (mvT hZ (tw6 hw)) (mvT hZ (tw7 hw)) (mvT hZ (tw8 hw)) (by decide) (backOf (W := 0) (rm2 l Z a0 hw [] count (part - (1 : Int32)) parts  h0 n0 Z0 hnz) hZ (tw8 hw) (tw7 hw) (by decide) (by decide)) (g := (mkF m 166 #[iv cx, iv px, iv qx, iv mx, iv count, iv parts, iv mode, iv part, iv (f_str count part parts), jv ((count.toInt64) * ((part + (1 : Int32)).toInt64)), .second, iv (1 : Int32), iv (1 : Int32), iv (1 : Int32), .unset, .unset, .unset] [(.int parts), (.int (part - (1 : Int32))), (.int count)])) rfl (by rw [hml]; rfl) (argsL := [(.int count), (.int (part - (1 : Int32))), (.int parts)]) (rest := []) (lenOf pd_1 rfl) rfl (by show 2 * 0 + _ ≤ _; exact Nat.le_of_eq rfl) (hb hby at_166) (fun _ _ => ⟨rfl, (hE3), (by decide : 0 + 0 ≤ _), (by decide : 0 + 0 ≤ _)⟩)
      dsimp only [Pt.U, Pt.locs, Pt.cells, Pt.slots] at X4 l4 y4 z4 st4 hQ4
      subst l4 y4 z4
      obtain ⟨rfl, N4q, hE4⟩ := hQ4
      have N4 := Fr.app N3 N4q
      refine Wk.go (A' := T4.setTop (mkF m 169 #[iv cx, iv px, iv qx, iv mx, iv count, iv parts, iv mode, iv part, iv (f_str count part parts), jv ((count.toInt64) * ((part + (1 : Int32)).toInt64)), .second, iv (1 : Int32), iv (1 : Int32), iv (1 : Int32), .unset, .unset, .unset] [(.int (f_str count (part - (1 : Int32)) parts))])) (fun t k => st4 t k) ?_
      refine Wk.go (A' := T4.setTop (mkF m 171 #[iv cx, iv px, iv qx, iv mx, iv count, iv parts, iv mode, iv part, iv (f_str count part parts), jv ((count.toInt64) * ((part + (1 : Int32)).toInt64)), .second, iv (1 : Int32), iv (1 : Int32), iv (1 : Int32), iv (f_str count (part - (1 : Int32)) parts), .unset, .unset] [])) (fun t k => XS.istore X4.here hx rfl (hb hby at_169) rfl (l' := #[iv cx, iv px, iv qx, iv mx, iv count, iv parts, iv mode, iv part, iv (f_str count part parts), jv ((count.toInt64) * ((part + (1 : Int32)).toInt64)), .second, iv (1 : Int32), iv (1 : Int32), iv (1 : Int32), iv (f_str count (part - (1 : Int32)) parts), .unset, .unset]) rfl k) ?_
      refine Wk.go (A' := T4.setTop (mkF m 173 #[iv cx, iv px, iv qx, iv mx, iv count, iv parts, iv mode, iv part, iv (f_str count part parts), jv ((count.toInt64) * ((part + (1 : Int32)).toInt64)), .second, iv (1 : Int32), iv (1 : Int32), iv (1 : Int32), iv (f_str count (part - (1 : Int32)) parts), .unset, .unset] [(.int (f_str count part parts))])) (fun t k => XS.iload X4.here hx rfl (hb hby at_171) rfl k) ?_
      refine Wk.go (A' := T4.setTop (mkF m 175 #[iv cx, iv px, iv qx, iv mx, iv count, iv parts, iv mode, iv part, iv (f_str count part parts), jv ((count.toInt64) * ((part + (1 : Int32)).toInt64)), .second, iv (1 : Int32), iv (1 : Int32), iv (1 : Int32), iv (f_str count (part - (1 : Int32)) parts), .unset, .unset] [(.int (f_str count (part - (1 : Int32)) parts)), (.int (f_str count part parts))])) (fun t k => XS.iload X4.here hx rfl (hb hby at_173) rfl k) ?_
      refine Wk.go (A' := T4.setTop (mkF m 176 #[iv cx, iv px, iv qx, iv mx, iv count, iv parts, iv mode, iv part, iv (f_str count part parts), jv ((count.toInt64) * ((part + (1 : Int32)).toInt64)), .second, iv (1 : Int32), iv (1 : Int32), iv (1 : Int32), iv (f_str count (part - (1 : Int32)) parts), .unset, .unset] [(.int ((f_str count part parts) - (f_str count (part - (1 : Int32)) parts)))])) (fun t k => XS.isub X4.here hx rfl (hb hby at_175) rfl k) ?_
      refine Wk.go (A' := T4.setTop (mkF m 178 #[iv cx, iv px, iv qx, iv mx, iv count, iv parts, iv mode, iv part, iv (f_str count part parts), jv ((count.toInt64) * ((part + (1 : Int32)).toInt64)), .second, iv (1 : Int32), iv (1 : Int32), iv (1 : Int32), iv (f_str count (part - (1 : Int32)) parts), iv ((f_str count part parts) - (f_str count (part - (1 : Int32)) parts)), .unset] [])) (fun t k => XS.istore X4.here hx rfl (hb hby at_176) rfl (l' := #[iv cx, iv px, iv qx, iv mx, iv count, iv parts, iv mode, iv part, iv (f_str count part parts), jv ((count.toInt64) * ((part + (1 : Int32)).toInt64)), .second, iv (1 : Int32), iv (1 : Int32), iv (1 : Int32), iv (f_str count (part - (1 : Int32)) parts), iv ((f_str count part parts) - (f_str count (part - (1 : Int32)) parts)), .unset]) rfl k) ?_
      refine Wk.go (A' := T4.setTop (mkF m 180 #[iv cx, iv px, iv qx, iv mx, iv count, iv parts, iv mode, iv part, iv (f_str count part parts), jv ((count.toInt64) * ((part + (1 : Int32)).toInt64)), .second, iv (1 : Int32), iv (1 : Int32), iv (1 : Int32), iv (f_str count (part - (1 : Int32)) parts), iv ((f_str count part parts) - (f_str count (part - (1 : Int32)) parts)), .unset] [(.int count)])) (fun t k => XS.iload X4.here hx rfl (hb hby at_178) rfl k) ?_
      refine Wk.go (A' := T4.setTop (mkF m 182 #[iv cx, iv px, iv qx, iv mx, iv count, iv parts, iv mode, iv part, iv (f_str count part parts), jv ((count.toInt64) * ((part + (1 : Int32)).toInt64)), .second, iv (1 : Int32), iv (1 : Int32), iv (1 : Int32), iv (f_str count (part - (1 : Int32)) parts), iv ((f_str count part parts) - (f_str count (part - (1 : Int32)) parts)), .unset] [(.int parts), (.int count)])) (fun t k => XS.iload X4.here hx rfl (hb hby at_180) rfl k) ?_
      refine Wk.go (A' := T4.setTop (mkF m 183 #[iv cx, iv px, iv qx, iv mx, iv count, iv parts, iv mode, iv part, iv (f_str count part parts), jv ((count.toInt64) * ((part + (1 : Int32)).toInt64)), .second, iv (1 : Int32), iv (1 : Int32), iv (1 : Int32), iv (f_str count (part - (1 : Int32)) parts), iv ((f_str count part parts) - (f_str count (part - (1 : Int32)) parts)), .unset] [(.int (count / parts))])) (fun t k => XS.idiv X4.here hx rfl (hb hby at_182) rfl (own_i32 hN) k) ?_
      refine Wk.go (A' := T4.setTop (mkF m 185 #[iv cx, iv px, iv qx, iv mx, iv count, iv parts, iv mode, iv part, iv (f_str count part parts), jv ((count.toInt64) * ((part + (1 : Int32)).toInt64)), .second, iv (1 : Int32), iv (1 : Int32), iv (1 : Int32), iv (f_str count (part - (1 : Int32)) parts), iv ((f_str count part parts) - (f_str count (part - (1 : Int32)) parts)), iv (count / parts)] [])) (fun t k => XS.istore X4.here hx rfl (hb hby at_183) rfl (l' := #[iv cx, iv px, iv qx, iv mx, iv count, iv parts, iv mode, iv part, iv (f_str count part parts), jv ((count.toInt64) * ((part + (1 : Int32)).toInt64)), .second, iv (1 : Int32), iv (1 : Int32), iv (1 : Int32), iv (f_str count (part - (1 : Int32)) parts), iv ((f_str count part parts) - (f_str count (part - (1 : Int32)) parts)), iv (count / parts)]) rfl k) ?_
      refine Wk.go (A' := T4.setTop (mkF m 187 #[iv cx, iv px, iv qx, iv mx, iv count, iv parts, iv mode, iv part, iv (f_str count part parts), jv ((count.toInt64) * ((part + (1 : Int32)).toInt64)), .second, iv (1 : Int32), iv (1 : Int32), iv (1 : Int32), iv (f_str count (part - (1 : Int32)) parts), iv ((f_str count part parts) - (f_str count (part - (1 : Int32)) parts)), iv (count / parts)] [(.int ((f_str count part parts) - (f_str count (part - (1 : Int32)) parts)))])) (fun t k => XS.iload X4.here hx rfl (hb hby at_185) rfl k) ?_
      refine Wk.go (A' := T4.setTop (mkF m 189 #[iv cx, iv px, iv qx, iv mx, iv count, iv parts, iv mode, iv part, iv (f_str count part parts), jv ((count.toInt64) * ((part + (1 : Int32)).toInt64)), .second, iv (1 : Int32), iv (1 : Int32), iv (1 : Int32), iv (f_str count (part - (1 : Int32)) parts), iv ((f_str count part parts) - (f_str count (part - (1 : Int32)) parts)), iv (count / parts)] [(.int (count / parts)), (.int ((f_str count part parts) - (f_str count (part - (1 : Int32)) parts)))])) (fun t k => XS.iload X4.here hx rfl (hb hby at_187) rfl k) ?_
      by_cases hc189 : ((f_str count part parts) - (f_str count (part - (1 : Int32)) parts)) = (count / parts)
      · refine Wk.go (A' := T4.setTop (mkF m 201 #[iv cx, iv px, iv qx, iv mx, iv count, iv parts, iv mode, iv part, iv (f_str count part parts), jv ((count.toInt64) * ((part + (1 : Int32)).toInt64)), .second, iv (1 : Int32), iv (1 : Int32), iv (1 : Int32), iv (f_str count (part - (1 : Int32)) parts), iv ((f_str count part parts) - (f_str count (part - (1 : Int32)) parts)), iv (count / parts)] [])) (fun t k => XS.icmpYes X4.here hx rfl (pc0 := 189) (pc' := 201) rfl (hb hby at_189) rfl (teq hc189).1 (by decide) (by decide) k) ?_
        refine Wk.go (A' := T4.setTop (mkF m 202 #[iv cx, iv px, iv qx, iv mx, iv count, iv parts, iv mode, iv part, iv (f_str count part parts), jv ((count.toInt64) * ((part + (1 : Int32)).toInt64)), .second, iv (1 : Int32), iv (1 : Int32), iv (1 : Int32), iv (f_str count (part - (1 : Int32)) parts), iv ((f_str count part parts) - (f_str count (part - (1 : Int32)) parts)), iv (count / parts)] [(.int (1 : Int32))])) (fun t k => XS.iconst X4.here hx rfl (hb hby at_201) k) ?_
        refine Wk.go (A' := T4.setTop (mkF m 206 #[iv cx, iv px, iv qx, iv mx, iv count, iv parts, iv mode, iv part, iv (f_str count part parts), jv ((count.toInt64) * ((part + (1 : Int32)).toInt64)), .second, iv (1 : Int32), iv (1 : Int32), iv (1 : Int32), iv (f_str count (part - (1 : Int32)) parts), iv ((f_str count part parts) - (f_str count (part - (1 : Int32)) parts)), iv (count / parts)] [(.int (1 : Int32))])) (fun t k => XS.goto X4.here hx rfl (pc0 := 202) (pc' := 206) rfl (hb hby at_202) (by decide) (by decide) k) ?_
        refine Wk.go (A' := T4.setTop (mkF m 208 #[iv cx, iv px, iv qx, iv mx, iv count, iv parts, iv mode, iv part, iv (f_str count part parts), jv ((count.toInt64) * ((part + (1 : Int32)).toInt64)), .second, iv (1 : Int32), iv (1 : Int32), iv (1 : Int32), iv (f_str count (part - (1 : Int32)) parts), iv ((f_str count part parts) - (f_str count (part - (1 : Int32)) parts)), iv (count / parts)] [])) (fun t k => XS.istore X4.here hx rfl (hb hby at_206) rfl (l' := #[iv cx, iv px, iv qx, iv mx, iv count, iv parts, iv mode, iv part, iv (f_str count part parts), jv ((count.toInt64) * ((part + (1 : Int32)).toInt64)), .second, iv (1 : Int32), iv (1 : Int32), iv (1 : Int32), iv (f_str count (part - (1 : Int32)) parts), iv ((f_str count part parts) - (f_str count (part - (1 : Int32)) parts)), iv (count / parts)]) rfl k) ?_
        refine Wk.go (A' := T4.setTop (mkF m 210 #[iv cx, iv px, iv qx, iv mx, iv count, iv parts, iv mode, iv part, iv (f_str count part parts), jv ((count.toInt64) * ((part + (1 : Int32)).toInt64)), .second, iv (1 : Int32), iv (1 : Int32), iv (1 : Int32), iv (f_str count (part - (1 : Int32)) parts), iv ((f_str count part parts) - (f_str count (part - (1 : Int32)) parts)), iv (count / parts)] [(.int (1 : Int32))])) (fun t k => XS.iload X4.here hx rfl (hb hby at_208) rfl k) ?_
        have hc210 : ¬ ((1 : Int32) = (0 : Int32)) := by decide
        refine Wk.go (A' := T4.setTop (mkF m 213 #[iv cx, iv px, iv qx, iv mx, iv count, iv parts, iv mode, iv part, iv (f_str count part parts), jv ((count.toInt64) * ((part + (1 : Int32)).toInt64)), .second, iv (1 : Int32), iv (1 : Int32), iv (1 : Int32), iv (f_str count (part - (1 : Int32)) parts), iv ((f_str count part parts) - (f_str count (part - (1 : Int32)) parts)), iv (count / parts)] [])) (fun t k => XS.ifNo X4.here hx rfl (hb hby at_210) rfl ((if0 _ _).trans (feq hc210).1) k) ?_
        refine Wk.go (A' := T4.setTop (mkF m 215 #[iv cx, iv px, iv qx, iv mx, iv count, iv parts, iv mode, iv part, iv (f_str count part parts), jv ((count.toInt64) * ((part + (1 : Int32)).toInt64)), .second, iv (1 : Int32), iv (1 : Int32), iv (1 : Int32), iv (f_str count (part - (1 : Int32)) parts), iv ((f_str count part parts) - (f_str count (part - (1 : Int32)) parts)), iv (count / parts)] [(.int (1 : Int32))])) (fun t k => XS.iload X4.here hx rfl (hb hby at_213) rfl k) ?_
        have hc215 : ¬ ((1 : Int32) = (0 : Int32)) := by decide
        refine Wk.go (A' := T4.setTop (mkF m 218 #[iv cx, iv px, iv qx, iv mx, iv count, iv parts, iv mode, iv part, iv (f_str count part parts), jv ((count.toInt64) * ((part + (1 : Int32)).toInt64)), .second, iv (1 : Int32), iv (1 : Int32), iv (1 : Int32), iv (f_str count (part - (1 : Int32)) parts), iv ((f_str count part parts) - (f_str count (part - (1 : Int32)) parts)), iv (count / parts)] [])) (fun t k => XS.ifNo X4.here hx rfl (hb hby at_215) rfl ((if0 _ _).trans (feq hc215).1) k) ?_
        refine Wk.go (A' := T4.setTop (mkF m 220 #[iv cx, iv px, iv qx, iv mx, iv count, iv parts, iv mode, iv part, iv (f_str count part parts), jv ((count.toInt64) * ((part + (1 : Int32)).toInt64)), .second, iv (1 : Int32), iv (1 : Int32), iv (1 : Int32), iv (f_str count (part - (1 : Int32)) parts), iv ((f_str count part parts) - (f_str count (part - (1 : Int32)) parts)), iv (count / parts)] [(.int (1 : Int32))])) (fun t k => XS.iload X4.here hx rfl (hb hby at_218) rfl k) ?_
        have hc220 : ¬ ((1 : Int32) = (0 : Int32)) := by decide
        refine Wk.go (A' := T4.setTop (mkF m 223 #[iv cx, iv px, iv qx, iv mx, iv count, iv parts, iv mode, iv part, iv (f_str count part parts), jv ((count.toInt64) * ((part + (1 : Int32)).toInt64)), .second, iv (1 : Int32), iv (1 : Int32), iv (1 : Int32), iv (f_str count (part - (1 : Int32)) parts), iv ((f_str count part parts) - (f_str count (part - (1 : Int32)) parts)), iv (count / parts)] [])) (fun t k => XS.ifNo X4.here hx rfl (hb hby at_220) rfl ((if0 _ _).trans (feq hc220).1) k) ?_
        refine Wk.go (A' := T4.setTop (mkF m 224 #[iv cx, iv px, iv qx, iv mx, iv count, iv parts, iv mode, iv part, iv (f_str count part parts), jv ((count.toInt64) * ((part + (1 : Int32)).toInt64)), .second, iv (1 : Int32), iv (1 : Int32), iv (1 : Int32), iv (f_str count (part - (1 : Int32)) parts), iv ((f_str count part parts) - (f_str count (part - (1 : Int32)) parts)), iv (count / parts)] [(.int (1 : Int32))])) (fun t k => XS.iconst X4.here hx rfl (hb hby at_223) k) ?_
        refine Wk.go (A' := T4.setTop (mkF m 228 #[iv cx, iv px, iv qx, iv mx, iv count, iv parts, iv mode, iv part, iv (f_str count part parts), jv ((count.toInt64) * ((part + (1 : Int32)).toInt64)), .second, iv (1 : Int32), iv (1 : Int32), iv (1 : Int32), iv (f_str count (part - (1 : Int32)) parts), iv ((f_str count part parts) - (f_str count (part - (1 : Int32)) parts)), iv (count / parts)] [(.int (1 : Int32))])) (fun t k => XS.goto X4.here hx rfl (pc0 := 224) (pc' := 228) rfl (hb hby at_224) (by decide) (by decide) k) ?_
        refine own_fin (Qv := Q0 Z cx px qx mx h0 n0) (v := some (.int (1 : Int32))) X4 hlk (fun h => by rw [Bd.returns] at h; cases h) (fun fs hr => retN X4 hx (t := .boolean) Bd.returns (by simp) (hb hby at_228) hr) ?_ (by decide) (by decide)
        exact ⟨rfl, N4⟩
      · refine Wk.go (A' := T4.setTop (mkF m 192 #[iv cx, iv px, iv qx, iv mx, iv count, iv parts, iv mode, iv part, iv (f_str count part parts), jv ((count.toInt64) * ((part + (1 : Int32)).toInt64)), .second, iv (1 : Int32), iv (1 : Int32), iv (1 : Int32), iv (f_str count (part - (1 : Int32)) parts), iv ((f_str count part parts) - (f_str count (part - (1 : Int32)) parts)), iv (count / parts)] [])) (fun t k => XS.icmpNo X4.here hx rfl (hb hby at_189) rfl (feq hc189).1 k) ?_
        refine Wk.go (A' := T4.setTop (mkF m 194 #[iv cx, iv px, iv qx, iv mx, iv count, iv parts, iv mode, iv part, iv (f_str count part parts), jv ((count.toInt64) * ((part + (1 : Int32)).toInt64)), .second, iv (1 : Int32), iv (1 : Int32), iv (1 : Int32), iv (f_str count (part - (1 : Int32)) parts), iv ((f_str count part parts) - (f_str count (part - (1 : Int32)) parts)), iv (count / parts)] [(.int ((f_str count part parts) - (f_str count (part - (1 : Int32)) parts)))])) (fun t k => XS.iload X4.here hx rfl (hb hby at_192) rfl k) ?_
        refine Wk.go (A' := T4.setTop (mkF m 196 #[iv cx, iv px, iv qx, iv mx, iv count, iv parts, iv mode, iv part, iv (f_str count part parts), jv ((count.toInt64) * ((part + (1 : Int32)).toInt64)), .second, iv (1 : Int32), iv (1 : Int32), iv (1 : Int32), iv (f_str count (part - (1 : Int32)) parts), iv ((f_str count part parts) - (f_str count (part - (1 : Int32)) parts)), iv (count / parts)] [(.int (count / parts)), (.int ((f_str count part parts) - (f_str count (part - (1 : Int32)) parts)))])) (fun t k => XS.iload X4.here hx rfl (hb hby at_194) rfl k) ?_
        refine Wk.go (A' := T4.setTop (mkF m 197 #[iv cx, iv px, iv qx, iv mx, iv count, iv parts, iv mode, iv part, iv (f_str count part parts), jv ((count.toInt64) * ((part + (1 : Int32)).toInt64)), .second, iv (1 : Int32), iv (1 : Int32), iv (1 : Int32), iv (f_str count (part - (1 : Int32)) parts), iv ((f_str count part parts) - (f_str count (part - (1 : Int32)) parts)), iv (count / parts)] [(.int (1 : Int32)), (.int (count / parts)), (.int ((f_str count part parts) - (f_str count (part - (1 : Int32)) parts)))])) (fun t k => XS.iconst X4.here hx rfl (hb hby at_196) k) ?_
        refine Wk.go (A' := T4.setTop (mkF m 198 #[iv cx, iv px, iv qx, iv mx, iv count, iv parts, iv mode, iv part, iv (f_str count part parts), jv ((count.toInt64) * ((part + (1 : Int32)).toInt64)), .second, iv (1 : Int32), iv (1 : Int32), iv (1 : Int32), iv (f_str count (part - (1 : Int32)) parts), iv ((f_str count part parts) - (f_str count (part - (1 : Int32)) parts)), iv (count / parts)] [(.int ((count / parts) + (1 : Int32))), (.int ((f_str count part parts) - (f_str count (part - (1 : Int32)) parts)))])) (fun t k => XS.iadd X4.here hx rfl (hb hby at_197) rfl k) ?_
        have hc198 : ((f_str count part parts) - (f_str count (part - (1 : Int32)) parts)) = ((count / parts) + (1 : Int32)) := (A5 hc155).resolve_left hc189
        refine Wk.go (A' := T4.setTop (mkF m 201 #[iv cx, iv px, iv qx, iv mx, iv count, iv parts, iv mode, iv part, iv (f_str count part parts), jv ((count.toInt64) * ((part + (1 : Int32)).toInt64)), .second, iv (1 : Int32), iv (1 : Int32), iv (1 : Int32), iv (f_str count (part - (1 : Int32)) parts), iv ((f_str count part parts) - (f_str count (part - (1 : Int32)) parts)), iv (count / parts)] [])) (fun t k => XS.icmpNo X4.here hx rfl (hb hby at_198) rfl (teq hc198).2 k) ?_
        refine Wk.go (A' := T4.setTop (mkF m 202 #[iv cx, iv px, iv qx, iv mx, iv count, iv parts, iv mode, iv part, iv (f_str count part parts), jv ((count.toInt64) * ((part + (1 : Int32)).toInt64)), .second, iv (1 : Int32), iv (1 : Int32), iv (1 : Int32), iv (f_str count (part - (1 : Int32)) parts), iv ((f_str count part parts) - (f_str count (part - (1 : Int32)) parts)), iv (count / parts)] [(.int (1 : Int32))])) (fun t k => XS.iconst X4.here hx rfl (hb hby at_201) k) ?_
        refine Wk.go (A' := T4.setTop (mkF m 206 #[iv cx, iv px, iv qx, iv mx, iv count, iv parts, iv mode, iv part, iv (f_str count part parts), jv ((count.toInt64) * ((part + (1 : Int32)).toInt64)), .second, iv (1 : Int32), iv (1 : Int32), iv (1 : Int32), iv (f_str count (part - (1 : Int32)) parts), iv ((f_str count part parts) - (f_str count (part - (1 : Int32)) parts)), iv (count / parts)] [(.int (1 : Int32))])) (fun t k => XS.goto X4.here hx rfl (pc0 := 202) (pc' := 206) rfl (hb hby at_202) (by decide) (by decide) k) ?_
        refine Wk.go (A' := T4.setTop (mkF m 208 #[iv cx, iv px, iv qx, iv mx, iv count, iv parts, iv mode, iv part, iv (f_str count part parts), jv ((count.toInt64) * ((part + (1 : Int32)).toInt64)), .second, iv (1 : Int32), iv (1 : Int32), iv (1 : Int32), iv (f_str count (part - (1 : Int32)) parts), iv ((f_str count part parts) - (f_str count (part - (1 : Int32)) parts)), iv (count / parts)] [])) (fun t k => XS.istore X4.here hx rfl (hb hby at_206) rfl (l' := #[iv cx, iv px, iv qx, iv mx, iv count, iv parts, iv mode, iv part, iv (f_str count part parts), jv ((count.toInt64) * ((part + (1 : Int32)).toInt64)), .second, iv (1 : Int32), iv (1 : Int32), iv (1 : Int32), iv (f_str count (part - (1 : Int32)) parts), iv ((f_str count part parts) - (f_str count (part - (1 : Int32)) parts)), iv (count / parts)]) rfl k) ?_
        refine Wk.go (A' := T4.setTop (mkF m 210 #[iv cx, iv px, iv qx, iv mx, iv count, iv parts, iv mode, iv part, iv (f_str count part parts), jv ((count.toInt64) * ((part + (1 : Int32)).toInt64)), .second, iv (1 : Int32), iv (1 : Int32), iv (1 : Int32), iv (f_str count (part - (1 : Int32)) parts), iv ((f_str count part parts) - (f_str count (part - (1 : Int32)) parts)), iv (count / parts)] [(.int (1 : Int32))])) (fun t k => XS.iload X4.here hx rfl (hb hby at_208) rfl k) ?_
        have hc210 : ¬ ((1 : Int32) = (0 : Int32)) := by decide
        refine Wk.go (A' := T4.setTop (mkF m 213 #[iv cx, iv px, iv qx, iv mx, iv count, iv parts, iv mode, iv part, iv (f_str count part parts), jv ((count.toInt64) * ((part + (1 : Int32)).toInt64)), .second, iv (1 : Int32), iv (1 : Int32), iv (1 : Int32), iv (f_str count (part - (1 : Int32)) parts), iv ((f_str count part parts) - (f_str count (part - (1 : Int32)) parts)), iv (count / parts)] [])) (fun t k => XS.ifNo X4.here hx rfl (hb hby at_210) rfl ((if0 _ _).trans (feq hc210).1) k) ?_
        refine Wk.go (A' := T4.setTop (mkF m 215 #[iv cx, iv px, iv qx, iv mx, iv count, iv parts, iv mode, iv part, iv (f_str count part parts), jv ((count.toInt64) * ((part + (1 : Int32)).toInt64)), .second, iv (1 : Int32), iv (1 : Int32), iv (1 : Int32), iv (f_str count (part - (1 : Int32)) parts), iv ((f_str count part parts) - (f_str count (part - (1 : Int32)) parts)), iv (count / parts)] [(.int (1 : Int32))])) (fun t k => XS.iload X4.here hx rfl (hb hby at_213) rfl k) ?_
        have hc215 : ¬ ((1 : Int32) = (0 : Int32)) := by decide
        refine Wk.go (A' := T4.setTop (mkF m 218 #[iv cx, iv px, iv qx, iv mx, iv count, iv parts, iv mode, iv part, iv (f_str count part parts), jv ((count.toInt64) * ((part + (1 : Int32)).toInt64)), .second, iv (1 : Int32), iv (1 : Int32), iv (1 : Int32), iv (f_str count (part - (1 : Int32)) parts), iv ((f_str count part parts) - (f_str count (part - (1 : Int32)) parts)), iv (count / parts)] [])) (fun t k => XS.ifNo X4.here hx rfl (hb hby at_215) rfl ((if0 _ _).trans (feq hc215).1) k) ?_
        refine Wk.go (A' := T4.setTop (mkF m 220 #[iv cx, iv px, iv qx, iv mx, iv count, iv parts, iv mode, iv part, iv (f_str count part parts), jv ((count.toInt64) * ((part + (1 : Int32)).toInt64)), .second, iv (1 : Int32), iv (1 : Int32), iv (1 : Int32), iv (f_str count (part - (1 : Int32)) parts), iv ((f_str count part parts) - (f_str count (part - (1 : Int32)) parts)), iv (count / parts)] [(.int (1 : Int32))])) (fun t k => XS.iload X4.here hx rfl (hb hby at_218) rfl k) ?_
        have hc220 : ¬ ((1 : Int32) = (0 : Int32)) := by decide
        refine Wk.go (A' := T4.setTop (mkF m 223 #[iv cx, iv px, iv qx, iv mx, iv count, iv parts, iv mode, iv part, iv (f_str count part parts), jv ((count.toInt64) * ((part + (1 : Int32)).toInt64)), .second, iv (1 : Int32), iv (1 : Int32), iv (1 : Int32), iv (f_str count (part - (1 : Int32)) parts), iv ((f_str count part parts) - (f_str count (part - (1 : Int32)) parts)), iv (count / parts)] [])) (fun t k => XS.ifNo X4.here hx rfl (hb hby at_220) rfl ((if0 _ _).trans (feq hc220).1) k) ?_
        refine Wk.go (A' := T4.setTop (mkF m 224 #[iv cx, iv px, iv qx, iv mx, iv count, iv parts, iv mode, iv part, iv (f_str count part parts), jv ((count.toInt64) * ((part + (1 : Int32)).toInt64)), .second, iv (1 : Int32), iv (1 : Int32), iv (1 : Int32), iv (f_str count (part - (1 : Int32)) parts), iv ((f_str count part parts) - (f_str count (part - (1 : Int32)) parts)), iv (count / parts)] [(.int (1 : Int32))])) (fun t k => XS.iconst X4.here hx rfl (hb hby at_223) k) ?_
        refine Wk.go (A' := T4.setTop (mkF m 228 #[iv cx, iv px, iv qx, iv mx, iv count, iv parts, iv mode, iv part, iv (f_str count part parts), jv ((count.toInt64) * ((part + (1 : Int32)).toInt64)), .second, iv (1 : Int32), iv (1 : Int32), iv (1 : Int32), iv (f_str count (part - (1 : Int32)) parts), iv ((f_str count part parts) - (f_str count (part - (1 : Int32)) parts)), iv (count / parts)] [(.int (1 : Int32))])) (fun t k => XS.goto X4.here hx rfl (pc0 := 224) (pc' := 228) rfl (hb hby at_224) (by decide) (by decide) k) ?_
        refine own_fin (Qv := Q0 Z cx px qx mx h0 n0) (v := some (.int (1 : Int32))) X4 hlk (fun h => by rw [Bd.returns] at h; cases h) (fun fs hr => retN X4 hx (t := .boolean) Bd.returns (by simp) (hb hby at_228) hr) ?_ (by decide) (by decide)
        exact ⟨rfl, N4⟩
    · refine Wk.go (A' := T1.setTop (mkF m 47 #[iv cx, iv px, iv qx, iv mx, iv count, iv parts, iv mode, .unset, .unset, .unset, .unset, .unset, .unset, .unset, .unset, .unset, .unset] [])) (fun t k => XS.icmpYes X1.here hx rfl (pc0 := 35) (pc' := 47) rfl (hb hby at_35) rfl (feq hc35).2 (by decide) (by decide) k) ?_
      refine Wk.go (A' := T1.setTop (mkF m 48 #[iv cx, iv px, iv qx, iv mx, iv count, iv parts, iv mode, .unset, .unset, .unset, .unset, .unset, .unset, .unset, .unset, .unset, .unset] [(.int qx)])) (fun t k => XS.iloadN X1.here hx rfl (hb hby at_47) rfl k) ?_
      refine Wk.go (A' := T1.setTop (mkF m 50 #[iv cx, iv px, iv qx, iv mx, iv count, iv parts, iv mode, .unset, .unset, .unset, .unset, .unset, .unset, .unset, .unset, .unset, .unset] [(.int (2147483647 : Int32)), (.int qx)])) (fun t k => X1.ldcInt hx hown (mvT hZ (tw0 hw)) (g := (mkF m 48 #[iv cx, iv px, iv qx, iv mx, iv count, iv parts, iv mode, .unset, .unset, .unset, .unset, .unset, .unset, .unset, .unset, .unset, .unset] [(.int qx)])) rfl (hb hby at_48) t k) ?_
      refine Wk.go (A' := T1.setTop (mkF m 51 #[iv cx, iv px, iv qx, iv mx, iv count, iv parts, iv mode, .unset, .unset, .unset, .unset, .unset, .unset, .unset, .unset, .unset, .unset] [(.int (qx &&& (2147483647 : Int32)))])) (fun t k => XS.iand X1.here hx rfl (hb hby at_50) rfl k) ?_
      refine Wk.go (A' := T1.setTop (mkF m 52 #[iv cx, iv px, iv qx, iv mx, iv count, iv parts, iv mode, .unset, .unset, .unset, .unset, .unset, .unset, .unset, .unset, .unset, .unset] [(.long ((qx &&& (2147483647 : Int32)).toInt64))])) (fun t k => XS.i2l X1.here hx rfl (hb hby at_51) rfl k) ?_
      refine Wk.go (A' := T1.setTop (mkF m 54 #[iv cx, iv px, iv qx, iv mx, iv count, iv parts, iv mode, .unset, .unset, .unset, .unset, .unset, .unset, .unset, .unset, .unset, .unset] [(.int parts), (.long ((qx &&& (2147483647 : Int32)).toInt64))])) (fun t k => XS.iload X1.here hx rfl (hb hby at_52) rfl k) ?_
      refine Wk.go (A' := T1.setTop (mkF m 55 #[iv cx, iv px, iv qx, iv mx, iv count, iv parts, iv mode, .unset, .unset, .unset, .unset, .unset, .unset, .unset, .unset, .unset, .unset] [(.long (parts.toInt64)), (.long ((qx &&& (2147483647 : Int32)).toInt64))])) (fun t k => XS.i2l X1.here hx rfl (hb hby at_54) rfl k) ?_
      refine Wk.go (A' := T1.setTop (mkF m 56 #[iv cx, iv px, iv qx, iv mx, iv count, iv parts, iv mode, .unset, .unset, .unset, .unset, .unset, .unset, .unset, .unset, .unset, .unset] [(.long (1 : Int64)), (.long (parts.toInt64)), (.long ((qx &&& (2147483647 : Int32)).toInt64))])) (fun t k => XS.lconst X1.here hx rfl (hb hby at_55) k) ?_
      refine Wk.go (A' := T1.setTop (mkF m 57 #[iv cx, iv px, iv qx, iv mx, iv count, iv parts, iv mode, .unset, .unset, .unset, .unset, .unset, .unset, .unset, .unset, .unset, .unset] [(.long ((parts.toInt64) + (1 : Int64))), (.long ((qx &&& (2147483647 : Int32)).toInt64))])) (fun t k => XS.ladd X1.here hx rfl (hb hby at_56) rfl k) ?_
      refine Wk.go (A' := T1.setTop (mkF m 58 #[iv cx, iv px, iv qx, iv mx, iv count, iv parts, iv mode, .unset, .unset, .unset, .unset, .unset, .unset, .unset, .unset, .unset, .unset] [(.long (((qx &&& (2147483647 : Int32)).toInt64) - (((qx &&& (2147483647 : Int32)).toInt64) / ((parts.toInt64) + (1 : Int64))) * ((parts.toInt64) + (1 : Int64))))])) (fun t k => XS.lrem X1.here hx rfl (hb hby at_57) rfl (own_p4 hN) k) ?_
      refine Wk.go (A' := T1.setTop (mkF m 59 #[iv cx, iv px, iv qx, iv mx, iv count, iv parts, iv mode, .unset, .unset, .unset, .unset, .unset, .unset, .unset, .unset, .unset, .unset] [(.int ((((qx &&& (2147483647 : Int32)).toInt64) - (((qx &&& (2147483647 : Int32)).toInt64) / ((parts.toInt64) + (1 : Int64))) * ((parts.toInt64) + (1 : Int64))).toInt32))])) (fun t k => XS.l2i X1.here hx rfl (hb hby at_58) rfl k) ?_
      refine Wk.go (A' := T1.setTop (mkF m 60 #[iv cx, iv px, iv qx, iv mx, iv count, iv parts, iv mode, .unset, .unset, .unset, .unset, .unset, .unset, .unset, .unset, .unset, .unset] [(.int (1 : Int32)), (.int ((((qx &&& (2147483647 : Int32)).toInt64) - (((qx &&& (2147483647 : Int32)).toInt64) / ((parts.toInt64) + (1 : Int64))) * ((parts.toInt64) + (1 : Int64))).toInt32))])) (fun t k => XS.iconst X1.here hx rfl (hb hby at_59) k) ?_
      refine Wk.go (A' := T1.setTop (mkF m 61 #[iv cx, iv px, iv qx, iv mx, iv count, iv parts, iv mode, .unset, .unset, .unset, .unset, .unset, .unset, .unset, .unset, .unset, .unset] [(.int (((((qx &&& (2147483647 : Int32)).toInt64) - (((qx &&& (2147483647 : Int32)).toInt64) / ((parts.toInt64) + (1 : Int64))) * ((parts.toInt64) + (1 : Int64))).toInt32) - (1 : Int32)))])) (fun t k => XS.isub X1.here hx rfl (hb hby at_60) rfl k) ?_
      refine Wk.go (A' := T1.setTop (mkF m 63 #[iv cx, iv px, iv qx, iv mx, iv count, iv parts, iv mode, iv (((((qx &&& (2147483647 : Int32)).toInt64) - (((qx &&& (2147483647 : Int32)).toInt64) / ((parts.toInt64) + (1 : Int64))) * ((parts.toInt64) + (1 : Int64))).toInt32) - (1 : Int32)), .unset, .unset, .unset, .unset, .unset, .unset, .unset, .unset, .unset] [])) (fun t k => XS.istore X1.here hx rfl (hb hby at_61) rfl (l' := #[iv cx, iv px, iv qx, iv mx, iv count, iv parts, iv mode, iv (((((qx &&& (2147483647 : Int32)).toInt64) - (((qx &&& (2147483647 : Int32)).toInt64) / ((parts.toInt64) + (1 : Int64))) * ((parts.toInt64) + (1 : Int64))).toInt32) - (1 : Int32)), .unset, .unset, .unset, .unset, .unset, .unset, .unset, .unset, .unset]) rfl k) ?_
      have hp : -1 ≤ ((((((qx &&& (2147483647 : Int32)).toInt64) - (((qx &&& (2147483647 : Int32)).toInt64) / ((parts.toInt64) + (1 : Int64))) * ((parts.toInt64) + (1 : Int64))).toInt32) - (1 : Int32))).toInt ∧ ((((((qx &&& (2147483647 : Int32)).toInt64) - (((qx &&& (2147483647 : Int32)).toInt64) / ((parts.toInt64) + (1 : Int64))) * ((parts.toInt64) + (1 : Int64))).toInt32) - (1 : Int32))).toInt < parts.toInt := own_p2 hN qx
      generalize hpart : (((((qx &&& (2147483647 : Int32)).toInt64) - (((qx &&& (2147483647 : Int32)).toInt64) / ((parts.toInt64) + (1 : Int64))) * ((parts.toInt64) + (1 : Int64))).toInt32) - (1 : Int32)) = part at hp ⊢
      obtain ⟨A1, A2, A3, A4, A5⟩ := own_law count part parts hC hp.1 hp.2 hN
      have hnz := own_i64 hN
      refine Wk.go (A' := T1.setTop (mkF m 65 #[iv cx, iv px, iv qx, iv mx, iv count, iv parts, iv mode, iv part, .unset, .unset, .unset, .unset, .unset, .unset, .unset, .unset, .unset] [(.int count)])) (fun t k => XS.iload X1.here hx rfl (hb hby at_63) rfl k) ?_
      refine Wk.go (A' := T1.setTop (mkF m 67 #[iv cx, iv px, iv qx, iv mx, iv count, iv parts, iv mode, iv part, .unset, .unset, .unset, .unset, .unset, .unset, .unset, .unset, .unset] [(.int part), (.int count)])) (fun t k => XS.iload X1.here hx rfl (hb hby at_65) rfl k) ?_
      refine Wk.go (A' := T1.setTop (mkF m 69 #[iv cx, iv px, iv qx, iv mx, iv count, iv parts, iv mode, iv part, .unset, .unset, .unset, .unset, .unset, .unset, .unset, .unset, .unset] [(.int parts), (.int part), (.int count)])) (fun t k => XS.iload X1.here hx rfl (hb hby at_67) rfl k) ?_
      obtain ⟨_, _, ⟨T5, L5, k5, n5⟩, -, X5, ⟨Lc5, hQ5, l5, y5, z5⟩, st5⟩ := Jvm.LawKit.callS X1 hx (y := (⟨"com/example/bitbraid/bitbraid/Workers", "stretchEnd", "(III)I"⟩ : MethodName)) hown (mvT hZ (tw5 hw)) (mvT hZ (tw6 hw)) (mvT hZ (tw7 hw)) (mvT hZ (tw8 hw)) (by decide) (backOf (W := 0) (rm2 l Z a0 hw [] count part parts  h0 n0 Z0 hnz) hZ (tw8 hw) (tw7 hw) (by decide) (by decide)) (g := (mkF m 69 #[iv cx, iv px, iv qx, iv mx, iv count, iv parts, iv mode, iv part, .unset, .unset, .unset, .unset, .unset, .unset, .unset, .unset, .unset] [(.int parts), (.int part), (.int count)])) rfl (by rw [hml]; rfl) (argsL := [(.int count), (.int part), (.int parts)]) (rest := []) (lenOf pd_1 rfl) rfl (by show 2 * 0 + _ ≤ _; exact Nat.le_of_eq rfl) (hb hby at_69) (fun _ _ => ⟨rfl, (hE1), (by decide : 0 + 0 ≤ _), (by decide : 0 + 0 ≤ _)⟩)
      dsimp only [Pt.U, Pt.locs, Pt.cells, Pt.slots] at X5 l5 y5 z5 st5 hQ5
      subst l5 y5 z5
      obtain ⟨rfl, N5q, hE5⟩ := hQ5
      have N5 := Fr.app N1 N5q
      refine Wk.go (A' := T5.setTop (mkF m 72 #[iv cx, iv px, iv qx, iv mx, iv count, iv parts, iv mode, iv part, .unset, .unset, .unset, .unset, .unset, .unset, .unset, .unset, .unset] [(.int (f_str count part parts))])) (fun t k => st5 t k) ?_
      refine Wk.go (A' := T5.setTop (mkF m 74 #[iv cx, iv px, iv qx, iv mx, iv count, iv parts, iv mode, iv part, iv (f_str count part parts), .unset, .unset, .unset, .unset, .unset, .unset, .unset, .unset] [])) (fun t k => XS.istore X5.here hx rfl (hb hby at_72) rfl (l' := #[iv cx, iv px, iv qx, iv mx, iv count, iv parts, iv mode, iv part, iv (f_str count part parts), .unset, .unset, .unset, .unset, .unset, .unset, .unset, .unset]) rfl k) ?_
      refine Wk.go (A' := T5.setTop (mkF m 76 #[iv cx, iv px, iv qx, iv mx, iv count, iv parts, iv mode, iv part, iv (f_str count part parts), .unset, .unset, .unset, .unset, .unset, .unset, .unset, .unset] [(.int count)])) (fun t k => XS.iload X5.here hx rfl (hb hby at_74) rfl k) ?_
      refine Wk.go (A' := T5.setTop (mkF m 77 #[iv cx, iv px, iv qx, iv mx, iv count, iv parts, iv mode, iv part, iv (f_str count part parts), .unset, .unset, .unset, .unset, .unset, .unset, .unset, .unset] [(.long (count.toInt64))])) (fun t k => XS.i2l X5.here hx rfl (hb hby at_76) rfl k) ?_
      refine Wk.go (A' := T5.setTop (mkF m 79 #[iv cx, iv px, iv qx, iv mx, iv count, iv parts, iv mode, iv part, iv (f_str count part parts), .unset, .unset, .unset, .unset, .unset, .unset, .unset, .unset] [(.int part), (.long (count.toInt64))])) (fun t k => XS.iload X5.here hx rfl (hb hby at_77) rfl k) ?_
      refine Wk.go (A' := T5.setTop (mkF m 80 #[iv cx, iv px, iv qx, iv mx, iv count, iv parts, iv mode, iv part, iv (f_str count part parts), .unset, .unset, .unset, .unset, .unset, .unset, .unset, .unset] [(.int (1 : Int32)), (.int part), (.long (count.toInt64))])) (fun t k => XS.iconst X5.here hx rfl (hb hby at_79) k) ?_
      refine Wk.go (A' := T5.setTop (mkF m 81 #[iv cx, iv px, iv qx, iv mx, iv count, iv parts, iv mode, iv part, iv (f_str count part parts), .unset, .unset, .unset, .unset, .unset, .unset, .unset, .unset] [(.int (part + (1 : Int32))), (.long (count.toInt64))])) (fun t k => XS.iadd X5.here hx rfl (hb hby at_80) rfl k) ?_
      refine Wk.go (A' := T5.setTop (mkF m 82 #[iv cx, iv px, iv qx, iv mx, iv count, iv parts, iv mode, iv part, iv (f_str count part parts), .unset, .unset, .unset, .unset, .unset, .unset, .unset, .unset] [(.long ((part + (1 : Int32)).toInt64)), (.long (count.toInt64))])) (fun t k => XS.i2l X5.here hx rfl (hb hby at_81) rfl k) ?_
      refine Wk.go (A' := T5.setTop (mkF m 83 #[iv cx, iv px, iv qx, iv mx, iv count, iv parts, iv mode, iv part, iv (f_str count part parts), .unset, .unset, .unset, .unset, .unset, .unset, .unset, .unset] [(.long ((count.toInt64) * ((part + (1 : Int32)).toInt64)))])) (fun t k => XS.lmul X5.here hx rfl (hb hby at_82) rfl k) ?_
      refine Wk.go (A' := T5.setTop (mkF m 85 #[iv cx, iv px, iv qx, iv mx, iv count, iv parts, iv mode, iv part, iv (f_str count part parts), jv ((count.toInt64) * ((part + (1 : Int32)).toInt64)), .second, .unset, .unset, .unset, .unset, .unset, .unset] [])) (fun t k => XS.lstore X5.here hx rfl (hb hby at_83) rfl (l' := #[iv cx, iv px, iv qx, iv mx, iv count, iv parts, iv mode, iv part, iv (f_str count part parts), jv ((count.toInt64) * ((part + (1 : Int32)).toInt64)), .second, .unset, .unset, .unset, .unset, .unset, .unset]) rfl k) ?_
      refine Wk.go (A' := T5.setTop (mkF m 87 #[iv cx, iv px, iv qx, iv mx, iv count, iv parts, iv mode, iv part, iv (f_str count part parts), jv ((count.toInt64) * ((part + (1 : Int32)).toInt64)), .second, .unset, .unset, .unset, .unset, .unset, .unset] [(.int (f_str count part parts))])) (fun t k => XS.iload X5.here hx rfl (hb hby at_85) rfl k) ?_
      refine Wk.go (A' := T5.setTop (mkF m 88 #[iv cx, iv px, iv qx, iv mx, iv count, iv parts, iv mode, iv part, iv (f_str count part parts), jv ((count.toInt64) * ((part + (1 : Int32)).toInt64)), .second, .unset, .unset, .unset, .unset, .unset, .unset] [(.long ((f_str count part parts).toInt64))])) (fun t k => XS.i2l X5.here hx rfl (hb hby at_87) rfl k) ?_
      refine Wk.go (A' := T5.setTop (mkF m 90 #[iv cx, iv px, iv qx, iv mx, iv count, iv parts, iv mode, iv part, iv (f_str count part parts), jv ((count.toInt64) * ((part + (1 : Int32)).toInt64)), .second, .unset, .unset, .unset, .unset, .unset, .unset] [(.int parts), (.long ((f_str count part parts).toInt64))])) (fun t k => XS.iload X5.here hx rfl (hb hby at_88) rfl k) ?_
      refine Wk.go (A' := T5.setTop (mkF m 91 #[iv cx, iv px, iv qx, iv mx, iv count, iv parts, iv mode, iv part, iv (f_str count part parts), jv ((count.toInt64) * ((part + (1 : Int32)).toInt64)), .second, .unset, .unset, .unset, .unset, .unset, .unset] [(.long (parts.toInt64)), (.long ((f_str count part parts).toInt64))])) (fun t k => XS.i2l X5.here hx rfl (hb hby at_90) rfl k) ?_
      refine Wk.go (A' := T5.setTop (mkF m 92 #[iv cx, iv px, iv qx, iv mx, iv count, iv parts, iv mode, iv part, iv (f_str count part parts), jv ((count.toInt64) * ((part + (1 : Int32)).toInt64)), .second, .unset, .unset, .unset, .unset, .unset, .unset] [(.long (((f_str count part parts).toInt64) * (parts.toInt64)))])) (fun t k => XS.lmul X5.here hx rfl (hb hby at_91) rfl k) ?_
      refine Wk.go (A' := T5.setTop (mkF m 94 #[iv cx, iv px, iv qx, iv mx, iv count, iv parts, iv mode, iv part, iv (f_str count part parts), jv ((count.toInt64) * ((part + (1 : Int32)).toInt64)), .second, .unset, .unset, .unset, .unset, .unset, .unset] [(.long ((count.toInt64) * ((part + (1 : Int32)).toInt64))), (.long (((f_str count part parts).toInt64) * (parts.toInt64)))])) (fun t k => XS.lload X5.here hx rfl (hb hby at_92) rfl k) ?_
      refine Wk.go (A' := T5.setTop (mkF m 95 #[iv cx, iv px, iv qx, iv mx, iv count, iv parts, iv mode, iv part, iv (f_str count part parts), jv ((count.toInt64) * ((part + (1 : Int32)).toInt64)), .second, .unset, .unset, .unset, .unset, .unset, .unset] [(.int (lcmpW (((f_str count part parts).toInt64) * (parts.toInt64)) ((count.toInt64) * ((part + (1 : Int32)).toInt64))))])) (fun t k => XS.lcmp X5.here hx rfl (hb hby at_94) rfl k) ?_
      have hc95 : ¬ (((count.toInt64) * ((part + (1 : Int32)).toInt64)) < (((f_str count part parts).toInt64) * (parts.toInt64))) := A1
      refine Wk.go (A' := T5.setTop (mkF m 98 #[iv cx, iv px, iv qx, iv mx, iv count, iv parts, iv mode, iv part, iv (f_str count part parts), jv ((count.toInt64) * ((part + (1 : Int32)).toInt64)), .second, .unset, .unset, .unset, .unset, .unset, .unset] [])) (fun t k => XS.ifNo X5.here hx rfl (hb hby at_95) rfl ((if0 _ _).trans (flt (mt (lw_gt _ _).mp hc95)).2.2.1) k) ?_
      refine Wk.go (A' := T5.setTop (mkF m 100 #[iv cx, iv px, iv qx, iv mx, iv count, iv parts, iv mode, iv part, iv (f_str count part parts), jv ((count.toInt64) * ((part + (1 : Int32)).toInt64)), .second, .unset, .unset, .unset, .unset, .unset, .unset] [(.long ((count.toInt64) * ((part + (1 : Int32)).toInt64)))])) (fun t k => XS.lload X5.here hx rfl (hb hby at_98) rfl k) ?_
      refine Wk.go (A' := T5.setTop (mkF m 102 #[iv cx, iv px, iv qx, iv mx, iv count, iv parts, iv mode, iv part, iv (f_str count part parts), jv ((count.toInt64) * ((part + (1 : Int32)).toInt64)), .second, .unset, .unset, .unset, .unset, .unset, .unset] [(.int (f_str count part parts)), (.long ((count.toInt64) * ((part + (1 : Int32)).toInt64)))])) (fun t k => XS.iload X5.here hx rfl (hb hby at_100) rfl k) ?_
      refine Wk.go (A' := T5.setTop (mkF m 103 #[iv cx, iv px, iv qx, iv mx, iv count, iv parts, iv mode, iv part, iv (f_str count part parts), jv ((count.toInt64) * ((part + (1 : Int32)).toInt64)), .second, .unset, .unset, .unset, .unset, .unset, .unset] [(.long ((f_str count part parts).toInt64)), (.long ((count.toInt64) * ((part + (1 : Int32)).toInt64)))])) (fun t k => XS.i2l X5.here hx rfl (hb hby at_102) rfl k) ?_
      refine Wk.go (A' := T5.setTop (mkF m 104 #[iv cx, iv px, iv qx, iv mx, iv count, iv parts, iv mode, iv part, iv (f_str count part parts), jv ((count.toInt64) * ((part + (1 : Int32)).toInt64)), .second, .unset, .unset, .unset, .unset, .unset, .unset] [(.long (1 : Int64)), (.long ((f_str count part parts).toInt64)), (.long ((count.toInt64) * ((part + (1 : Int32)).toInt64)))])) (fun t k => XS.lconst X5.here hx rfl (hb hby at_103) k) ?_
      refine Wk.go (A' := T5.setTop (mkF m 105 #[iv cx, iv px, iv qx, iv mx, iv count, iv parts, iv mode, iv part, iv (f_str count part parts), jv ((count.toInt64) * ((part + (1 : Int32)).toInt64)), .second, .unset, .unset, .unset, .unset, .unset, .unset] [(.long (((f_str count part parts).toInt64) + (1 : Int64))), (.long ((count.toInt64) * ((part + (1 : Int32)).toInt64)))])) (fun t k => XS.ladd X5.here hx rfl (hb hby at_104) rfl k) ?_
      refine Wk.go (A' := T5.setTop (mkF m 107 #[iv cx, iv px, iv qx, iv mx, iv count, iv parts, iv mode, iv part, iv (f_str count part parts), jv ((count.toInt64) * ((part + (1 : Int32)).toInt64)), .second, .unset, .unset, .unset, .unset, .unset, .unset] [(.int parts), (.long (((f_str count part parts).toInt64) + (1 : Int64))), (.long ((count.toInt64) * ((part + (1 : Int32)).toInt64)))])) (fun t k => XS.iload X5.here hx rfl (hb hby at_105) rfl k) ?_
      refine Wk.go (A' := T5.setTop (mkF m 108 #[iv cx, iv px, iv qx, iv mx, iv count, iv parts, iv mode, iv part, iv (f_str count part parts), jv ((count.toInt64) * ((part + (1 : Int32)).toInt64)), .second, .unset, .unset, .unset, .unset, .unset, .unset] [(.long (parts.toInt64)), (.long (((f_str count part parts).toInt64) + (1 : Int64))), (.long ((count.toInt64) * ((part + (1 : Int32)).toInt64)))])) (fun t k => XS.i2l X5.here hx rfl (hb hby at_107) rfl k) ?_
      refine Wk.go (A' := T5.setTop (mkF m 109 #[iv cx, iv px, iv qx, iv mx, iv count, iv parts, iv mode, iv part, iv (f_str count part parts), jv ((count.toInt64) * ((part + (1 : Int32)).toInt64)), .second, .unset, .unset, .unset, .unset, .unset, .unset] [(.long ((((f_str count part parts).toInt64) + (1 : Int64)) * (parts.toInt64))), (.long ((count.toInt64) * ((part + (1 : Int32)).toInt64)))])) (fun t k => XS.lmul X5.here hx rfl (hb hby at_108) rfl k) ?_
      refine Wk.go (A' := T5.setTop (mkF m 110 #[iv cx, iv px, iv qx, iv mx, iv count, iv parts, iv mode, iv part, iv (f_str count part parts), jv ((count.toInt64) * ((part + (1 : Int32)).toInt64)), .second, .unset, .unset, .unset, .unset, .unset, .unset] [(.int (lcmpW ((count.toInt64) * ((part + (1 : Int32)).toInt64)) ((((f_str count part parts).toInt64) + (1 : Int64)) * (parts.toInt64))))])) (fun t k => XS.lcmp X5.here hx rfl (hb hby at_109) rfl k) ?_
      have hc110 : ((count.toInt64) * ((part + (1 : Int32)).toInt64)) < ((((f_str count part parts).toInt64) + (1 : Int64)) * (parts.toInt64)) := A2
      refine Wk.go (A' := T5.setTop (mkF m 113 #[iv cx, iv px, iv qx, iv mx, iv count, iv parts, iv mode, iv part, iv (f_str count part parts), jv ((count.toInt64) * ((part + (1 : Int32)).toInt64)), .second, .unset, .unset, .unset, .unset, .unset, .unset] [])) (fun t k => XS.ifNo X5.here hx rfl (hb hby at_110) rfl ((if0 _ _).trans (tlt ((lw_lt _ _).mpr hc110)).2.1) k) ?_
      refine Wk.go (A' := T5.setTop (mkF m 114 #[iv cx, iv px, iv qx, iv mx, iv count, iv parts, iv mode, iv part, iv (f_str count part parts), jv ((count.toInt64) * ((part + (1 : Int32)).toInt64)), .second, .unset, .unset, .unset, .unset, .unset, .unset] [(.int (1 : Int32))])) (fun t k => XS.iconst X5.here hx rfl (hb hby at_113) k) ?_
      refine Wk.go (A' := T5.setTop (mkF m 118 #[iv cx, iv px, iv qx, iv mx, iv count, iv parts, iv mode, iv part, iv (f_str count part parts), jv ((count.toInt64) * ((part + (1 : Int32)).toInt64)), .second, .unset, .unset, .unset, .unset, .unset, .unset] [(.int (1 : Int32))])) (fun t k => XS.goto X5.here hx rfl (pc0 := 114) (pc' := 118) rfl (hb hby at_114) (by decide) (by decide) k) ?_
      refine Wk.go (A' := T5.setTop (mkF m 120 #[iv cx, iv px, iv qx, iv mx, iv count, iv parts, iv mode, iv part, iv (f_str count part parts), jv ((count.toInt64) * ((part + (1 : Int32)).toInt64)), .second, iv (1 : Int32), .unset, .unset, .unset, .unset, .unset] [])) (fun t k => XS.istore X5.here hx rfl (hb hby at_118) rfl (l' := #[iv cx, iv px, iv qx, iv mx, iv count, iv parts, iv mode, iv part, iv (f_str count part parts), jv ((count.toInt64) * ((part + (1 : Int32)).toInt64)), .second, iv (1 : Int32), .unset, .unset, .unset, .unset, .unset]) rfl k) ?_
      refine Wk.go (A' := T5.setTop (mkF m 122 #[iv cx, iv px, iv qx, iv mx, iv count, iv parts, iv mode, iv part, iv (f_str count part parts), jv ((count.toInt64) * ((part + (1 : Int32)).toInt64)), .second, iv (1 : Int32), .unset, .unset, .unset, .unset, .unset] [(.int mode)])) (fun t k => XS.iload X5.here hx rfl (hb hby at_120) rfl k) ?_
      refine Wk.go (A' := T5.setTop (mkF m 130 #[iv cx, iv px, iv qx, iv mx, iv count, iv parts, iv mode, iv part, iv (f_str count part parts), jv ((count.toInt64) * ((part + (1 : Int32)).toInt64)), .second, iv (1 : Int32), .unset, .unset, .unset, .unset, .unset] [])) (fun t k => XS.ifYes X5.here hx rfl (pc0 := 122) (pc' := 130) rfl (hb hby at_122) rfl ((if0 _ _).trans (feq hc23).2) (by decide) (by decide) k) ?_
      refine Wk.go (A' := T5.setTop (mkF m 132 #[iv cx, iv px, iv qx, iv mx, iv count, iv parts, iv mode, iv part, iv (f_str count part parts), jv ((count.toInt64) * ((part + (1 : Int32)).toInt64)), .second, iv (1 : Int32), .unset, .unset, .unset, .unset, .unset] [(.int mode)])) (fun t k => XS.iload X5.here hx rfl (hb hby at_130) rfl k) ?_
      refine Wk.go (A' := T5.setTop (mkF m 133 #[iv cx, iv px, iv qx, iv mx, iv count, iv parts, iv mode, iv part, iv (f_str count part parts), jv ((count.toInt64) * ((part + (1 : Int32)).toInt64)), .second, iv (1 : Int32), .unset, .unset, .unset, .unset, .unset] [(.int (1 : Int32)), (.int mode)])) (fun t k => XS.iconst X5.here hx rfl (hb hby at_132) k) ?_
      refine Wk.go (A' := T5.setTop (mkF m 143 #[iv cx, iv px, iv qx, iv mx, iv count, iv parts, iv mode, iv part, iv (f_str count part parts), jv ((count.toInt64) * ((part + (1 : Int32)).toInt64)), .second, iv (1 : Int32), .unset, .unset, .unset, .unset, .unset] [])) (fun t k => XS.icmpYes X5.here hx rfl (pc0 := 133) (pc' := 143) rfl (hb hby at_133) rfl (feq hc35).2 (by decide) (by decide) k) ?_
      refine Wk.go (A' := T5.setTop (mkF m 144 #[iv cx, iv px, iv qx, iv mx, iv count, iv parts, iv mode, iv part, iv (f_str count part parts), jv ((count.toInt64) * ((part + (1 : Int32)).toInt64)), .second, iv (1 : Int32), .unset, .unset, .unset, .unset, .unset] [(.int (1 : Int32))])) (fun t k => XS.iconst X5.here hx rfl (hb hby at_143) k) ?_
      refine Wk.go (A' := T5.setTop (mkF m 148 #[iv cx, iv px, iv qx, iv mx, iv count, iv parts, iv mode, iv part, iv (f_str count part parts), jv ((count.toInt64) * ((part + (1 : Int32)).toInt64)), .second, iv (1 : Int32), .unset, .unset, .unset, .unset, .unset] [(.int (1 : Int32))])) (fun t k => XS.goto X5.here hx rfl (pc0 := 144) (pc' := 148) rfl (hb hby at_144) (by decide) (by decide) k) ?_
      refine Wk.go (A' := T5.setTop (mkF m 150 #[iv cx, iv px, iv qx, iv mx, iv count, iv parts, iv mode, iv part, iv (f_str count part parts), jv ((count.toInt64) * ((part + (1 : Int32)).toInt64)), .second, iv (1 : Int32), iv (1 : Int32), .unset, .unset, .unset, .unset] [])) (fun t k => XS.istore X5.here hx rfl (hb hby at_148) rfl (l' := #[iv cx, iv px, iv qx, iv mx, iv count, iv parts, iv mode, iv part, iv (f_str count part parts), jv ((count.toInt64) * ((part + (1 : Int32)).toInt64)), .second, iv (1 : Int32), iv (1 : Int32), .unset, .unset, .unset, .unset]) rfl k) ?_
      refine Wk.go (A' := T5.setTop (mkF m 151 #[iv cx, iv px, iv qx, iv mx, iv count, iv parts, iv mode, iv part, iv (f_str count part parts), jv ((count.toInt64) * ((part + (1 : Int32)).toInt64)), .second, iv (1 : Int32), iv (1 : Int32), .unset, .unset, .unset, .unset] [(.int (1 : Int32))])) (fun t k => XS.iconst X5.here hx rfl (hb hby at_150) k) ?_
      refine Wk.go (A' := T5.setTop (mkF m 153 #[iv cx, iv px, iv qx, iv mx, iv count, iv parts, iv mode, iv part, iv (f_str count part parts), jv ((count.toInt64) * ((part + (1 : Int32)).toInt64)), .second, iv (1 : Int32), iv (1 : Int32), iv (1 : Int32), .unset, .unset, .unset] [])) (fun t k => XS.istore X5.here hx rfl (hb hby at_151) rfl (l' := #[iv cx, iv px, iv qx, iv mx, iv count, iv parts, iv mode, iv part, iv (f_str count part parts), jv ((count.toInt64) * ((part + (1 : Int32)).toInt64)), .second, iv (1 : Int32), iv (1 : Int32), iv (1 : Int32), .unset, .unset, .unset]) rfl k) ?_
      refine Wk.go (A' := T5.setTop (mkF m 155 #[iv cx, iv px, iv qx, iv mx, iv count, iv parts, iv mode, iv part, iv (f_str count part parts), jv ((count.toInt64) * ((part + (1 : Int32)).toInt64)), .second, iv (1 : Int32), iv (1 : Int32), iv (1 : Int32), .unset, .unset, .unset] [(.int part)])) (fun t k => XS.iload X5.here hx rfl (hb hby at_153) rfl k) ?_
      by_cases hc155 : part < (0 : Int32)
      · refine Wk.go (A' := T5.setTop (mkF m 208 #[iv cx, iv px, iv qx, iv mx, iv count, iv parts, iv mode, iv part, iv (f_str count part parts), jv ((count.toInt64) * ((part + (1 : Int32)).toInt64)), .second, iv (1 : Int32), iv (1 : Int32), iv (1 : Int32), .unset, .unset, .unset] [])) (fun t k => XS.ifYes X5.here hx rfl (pc0 := 155) (pc' := 208) rfl (hb hby at_155) rfl ((if0 _ _).trans (tlt hc155).1) (by decide) (by decide) k) ?_
        refine Wk.go (A' := T5.setTop (mkF m 210 #[iv cx, iv px, iv qx, iv mx, iv count, iv parts, iv mode, iv part, iv (f_str count part parts), jv ((count.toInt64) * ((part + (1 : Int32)).toInt64)), .second, iv (1 : Int32), iv (1 : Int32), iv (1 : Int32), .unset, .unset, .unset] [(.int (1 : Int32))])) (fun t k => XS.iload X5.here hx rfl (hb hby at_208) rfl k) ?_
        have hc210 : ¬ ((1 : Int32) = (0 : Int32)) := by decide
        refine Wk.go (A' := T5.setTop (mkF m 213 #[iv cx, iv px, iv qx, iv mx, iv count, iv parts, iv mode, iv part, iv (f_str count part parts), jv ((count.toInt64) * ((part + (1 : Int32)).toInt64)), .second, iv (1 : Int32), iv (1 : Int32), iv (1 : Int32), .unset, .unset, .unset] [])) (fun t k => XS.ifNo X5.here hx rfl (hb hby at_210) rfl ((if0 _ _).trans (feq hc210).1) k) ?_
        refine Wk.go (A' := T5.setTop (mkF m 215 #[iv cx, iv px, iv qx, iv mx, iv count, iv parts, iv mode, iv part, iv (f_str count part parts), jv ((count.toInt64) * ((part + (1 : Int32)).toInt64)), .second, iv (1 : Int32), iv (1 : Int32), iv (1 : Int32), .unset, .unset, .unset] [(.int (1 : Int32))])) (fun t k => XS.iload X5.here hx rfl (hb hby at_213) rfl k) ?_
        have hc215 : ¬ ((1 : Int32) = (0 : Int32)) := by decide
        refine Wk.go (A' := T5.setTop (mkF m 218 #[iv cx, iv px, iv qx, iv mx, iv count, iv parts, iv mode, iv part, iv (f_str count part parts), jv ((count.toInt64) * ((part + (1 : Int32)).toInt64)), .second, iv (1 : Int32), iv (1 : Int32), iv (1 : Int32), .unset, .unset, .unset] [])) (fun t k => XS.ifNo X5.here hx rfl (hb hby at_215) rfl ((if0 _ _).trans (feq hc215).1) k) ?_
        refine Wk.go (A' := T5.setTop (mkF m 220 #[iv cx, iv px, iv qx, iv mx, iv count, iv parts, iv mode, iv part, iv (f_str count part parts), jv ((count.toInt64) * ((part + (1 : Int32)).toInt64)), .second, iv (1 : Int32), iv (1 : Int32), iv (1 : Int32), .unset, .unset, .unset] [(.int (1 : Int32))])) (fun t k => XS.iload X5.here hx rfl (hb hby at_218) rfl k) ?_
        have hc220 : ¬ ((1 : Int32) = (0 : Int32)) := by decide
        refine Wk.go (A' := T5.setTop (mkF m 223 #[iv cx, iv px, iv qx, iv mx, iv count, iv parts, iv mode, iv part, iv (f_str count part parts), jv ((count.toInt64) * ((part + (1 : Int32)).toInt64)), .second, iv (1 : Int32), iv (1 : Int32), iv (1 : Int32), .unset, .unset, .unset] [])) (fun t k => XS.ifNo X5.here hx rfl (hb hby at_220) rfl ((if0 _ _).trans (feq hc220).1) k) ?_
        refine Wk.go (A' := T5.setTop (mkF m 224 #[iv cx, iv px, iv qx, iv mx, iv count, iv parts, iv mode, iv part, iv (f_str count part parts), jv ((count.toInt64) * ((part + (1 : Int32)).toInt64)), .second, iv (1 : Int32), iv (1 : Int32), iv (1 : Int32), .unset, .unset, .unset] [(.int (1 : Int32))])) (fun t k => XS.iconst X5.here hx rfl (hb hby at_223) k) ?_
        refine Wk.go (A' := T5.setTop (mkF m 228 #[iv cx, iv px, iv qx, iv mx, iv count, iv parts, iv mode, iv part, iv (f_str count part parts), jv ((count.toInt64) * ((part + (1 : Int32)).toInt64)), .second, iv (1 : Int32), iv (1 : Int32), iv (1 : Int32), .unset, .unset, .unset] [(.int (1 : Int32))])) (fun t k => XS.goto X5.here hx rfl (pc0 := 224) (pc' := 228) rfl (hb hby at_224) (by decide) (by decide) k) ?_
        refine own_fin (Qv := Q0 Z cx px qx mx h0 n0) (v := some (.int (1 : Int32))) X5 hlk (fun h => by rw [Bd.returns] at h; cases h) (fun fs hr => retN X5 hx (t := .boolean) Bd.returns (by simp) (hb hby at_228) hr) ?_ (by decide) (by decide)
        exact ⟨rfl, N5⟩
      · refine Wk.go (A' := T5.setTop (mkF m 158 #[iv cx, iv px, iv qx, iv mx, iv count, iv parts, iv mode, iv part, iv (f_str count part parts), jv ((count.toInt64) * ((part + (1 : Int32)).toInt64)), .second, iv (1 : Int32), iv (1 : Int32), iv (1 : Int32), .unset, .unset, .unset] [])) (fun t k => XS.ifNo X5.here hx rfl (hb hby at_155) rfl ((if0 _ _).trans (flt hc155).1) k) ?_
        refine Wk.go (A' := T5.setTop (mkF m 160 #[iv cx, iv px, iv qx, iv mx, iv count, iv parts, iv mode, iv part, iv (f_str count part parts), jv ((count.toInt64) * ((part + (1 : Int32)).toInt64)), .second, iv (1 : Int32), iv (1 : Int32), iv (1 : Int32), .unset, .unset, .unset] [(.int count)])) (fun t k => XS.iload X5.here hx rfl (hb hby at_158) rfl k) ?_
        refine Wk.go (A' := T5.setTop (mkF m 162 #[iv cx, iv px, iv qx, iv mx, iv count, iv parts, iv mode, iv part, iv (f_str count part parts), jv ((count.toInt64) * ((part + (1 : Int32)).toInt64)), .second, iv (1 : Int32), iv (1 : Int32), iv (1 : Int32), .unset, .unset, .unset] [(.int part), (.int count)])) (fun t k => XS.iload X5.here hx rfl (hb hby at_160) rfl k) ?_
        refine Wk.go (A' := T5.setTop (mkF m 163 #[iv cx, iv px, iv qx, iv mx, iv count, iv parts, iv mode, iv part, iv (f_str count part parts), jv ((count.toInt64) * ((part + (1 : Int32)).toInt64)), .second, iv (1 : Int32), iv (1 : Int32), iv (1 : Int32), .unset, .unset, .unset] [(.int (1 : Int32)), (.int part), (.int count)])) (fun t k => XS.iconst X5.here hx rfl (hb hby at_162) k) ?_
        refine Wk.go (A' := T5.setTop (mkF m 164 #[iv cx, iv px, iv qx, iv mx, iv count, iv parts, iv mode, iv part, iv (f_str count part parts), jv ((count.toInt64) * ((part + (1 : Int32)).toInt64)), .second, iv (1 : Int32), iv (1 : Int32), iv (1 : Int32), .unset, .unset, .unset] [(.int (part - (1 : Int32))), (.int count)])) (fun t k => XS.isub X5.here hx rfl (hb hby at_163) rfl k) ?_
        refine Wk.go (A' := T5.setTop (mkF m 166 #[iv cx, iv px, iv qx, iv mx, iv count, iv parts, iv mode, iv part, iv (f_str count part parts), jv ((count.toInt64) * ((part + (1 : Int32)).toInt64)), .second, iv (1 : Int32), iv (1 : Int32), iv (1 : Int32), .unset, .unset, .unset] [(.int parts), (.int (part - (1 : Int32))), (.int count)])) (fun t k => XS.iload X5.here hx rfl (hb hby at_164) rfl k) ?_
        obtain ⟨_, _, ⟨T6, L6, k6, n6⟩, -, X6, ⟨Lc6, hQ6, l6, y6, z6⟩, st6⟩ := Jvm.LawKit.callS X5 hx (y := (⟨"com/example/bitbraid/bitbraid/Workers", "stretchEnd", "(III)I"⟩ : MethodName)) hown (mvT hZ (tw5 hw)) (mvT hZ (tw6 hw)) (mvT hZ (tw7 hw)) (mvT hZ (tw8 hw)) (by decide) (backOf (W := 0) (rm2 l Z a0 hw [] count (part - (1 : Int32)) parts  h0 n0 Z0 hnz) hZ (tw8 hw) (tw7 hw) (by decide) (by decide)) (g := (mkF m 166 #[iv cx, iv px, iv qx, iv mx, iv count, iv parts, iv mode, iv part, iv (f_str count part parts), jv ((count.toInt64) * ((part + (1 : Int32)).toInt64)), .second, iv (1 : Int32), iv (1 : Int32), iv (1 : Int32), .unset, .unset, .unset] [(.int parts), (.int (part - (1 : Int32))), (.int count)])) rfl (by rw [hml]; rfl) (argsL := [(.int count), (.int (part - (1 : Int32))), (.int parts)]) (rest := []) (lenOf pd_1 rfl) rfl (by show 2 * 0 + _ ≤ _; exact Nat.le_of_eq rfl) (hb hby at_166) (fun _ _ => ⟨rfl, (hE5), (by decide : 0 + 0 ≤ _), (by decide : 0 + 0 ≤ _)⟩)
        dsimp only [Pt.U, Pt.locs, Pt.cells, Pt.slots] at X6 l6 y6 z6 st6 hQ6
        subst l6 y6 z6
        obtain ⟨rfl, N6q, hE6⟩ := hQ6
        have N6 := Fr.app N5 N6q
        refine Wk.go (A' := T6.setTop (mkF m 169 #[iv cx, iv px, iv qx, iv mx, iv count, iv parts, iv mode, iv part, iv (f_str count part parts), jv ((count.toInt64) * ((part + (1 : Int32)).toInt64)), .second, iv (1 : Int32), iv (1 : Int32), iv (1 : Int32), .unset, .unset, .unset] [(.int (f_str count (part - (1 : Int32)) parts))])) (fun t k => st6 t k) ?_
        refine Wk.go (A' := T6.setTop (mkF m 171 #[iv cx, iv px, iv qx, iv mx, iv count, iv parts, iv mode, iv part, iv (f_str count part parts), jv ((count.toInt64) * ((part + (1 : Int32)).toInt64)), .second, iv (1 : Int32), iv (1 : Int32), iv (1 : Int32), iv (f_str count (part - (1 : Int32)) parts), .unset, .unset] [])) (fun t k => XS.istore X6.here hx rfl (hb hby at_169) rfl (l' := #[iv cx, iv px, iv qx, iv mx, iv count, iv parts, iv mode, iv part, iv (f_str count part parts), jv ((count.toInt64) * ((part + (1 : Int32)).toInt64)), .second, iv (1 : Int32), iv (1 : Int32), iv (1 : Int32), iv (f_str count (part - (1 : Int32)) parts), .unset, .unset]) rfl k) ?_
        refine Wk.go (A' := T6.setTop (mkF m 173 #[iv cx, iv px, iv qx, iv mx, iv count, iv parts, iv mode, iv part, iv (f_str count part parts), jv ((count.toInt64) * ((part + (1 : Int32)).toInt64)), .second, iv (1 : Int32), iv (1 : Int32), iv (1 : Int32), iv (f_str count (part - (1 : Int32)) parts), .unset, .unset] [(.int (f_str count part parts))])) (fun t k => XS.iload X6.here hx rfl (hb hby at_171) rfl k) ?_
        refine Wk.go (A' := T6.setTop (mkF m 175 #[iv cx, iv px, iv qx, iv mx, iv count, iv parts, iv mode, iv part, iv (f_str count part parts), jv ((count.toInt64) * ((part + (1 : Int32)).toInt64)), .second, iv (1 : Int32), iv (1 : Int32), iv (1 : Int32), iv (f_str count (part - (1 : Int32)) parts), .unset, .unset] [(.int (f_str count (part - (1 : Int32)) parts)), (.int (f_str count part parts))])) (fun t k => XS.iload X6.here hx rfl (hb hby at_173) rfl k) ?_
        refine Wk.go (A' := T6.setTop (mkF m 176 #[iv cx, iv px, iv qx, iv mx, iv count, iv parts, iv mode, iv part, iv (f_str count part parts), jv ((count.toInt64) * ((part + (1 : Int32)).toInt64)), .second, iv (1 : Int32), iv (1 : Int32), iv (1 : Int32), iv (f_str count (part - (1 : Int32)) parts), .unset, .unset] [(.int ((f_str count part parts) - (f_str count (part - (1 : Int32)) parts)))])) (fun t k => XS.isub X6.here hx rfl (hb hby at_175) rfl k) ?_
        refine Wk.go (A' := T6.setTop (mkF m 178 #[iv cx, iv px, iv qx, iv mx, iv count, iv parts, iv mode, iv part, iv (f_str count part parts), jv ((count.toInt64) * ((part + (1 : Int32)).toInt64)), .second, iv (1 : Int32), iv (1 : Int32), iv (1 : Int32), iv (f_str count (part - (1 : Int32)) parts), iv ((f_str count part parts) - (f_str count (part - (1 : Int32)) parts)), .unset] [])) (fun t k => XS.istore X6.here hx rfl (hb hby at_176) rfl (l' := #[iv cx, iv px, iv qx, iv mx, iv count, iv parts, iv mode, iv part, iv (f_str count part parts), jv ((count.toInt64) * ((part + (1 : Int32)).toInt64)), .second, iv (1 : Int32), iv (1 : Int32), iv (1 : Int32), iv (f_str count (part - (1 : Int32)) parts), iv ((f_str count part parts) - (f_str count (part - (1 : Int32)) parts)), .unset]) rfl k) ?_
        refine Wk.go (A' := T6.setTop (mkF m 180 #[iv cx, iv px, iv qx, iv mx, iv count, iv parts, iv mode, iv part, iv (f_str count part parts), jv ((count.toInt64) * ((part + (1 : Int32)).toInt64)), .second, iv (1 : Int32), iv (1 : Int32), iv (1 : Int32), iv (f_str count (part - (1 : Int32)) parts), iv ((f_str count part parts) - (f_str count (part - (1 : Int32)) parts)), .unset] [(.int count)])) (fun t k => XS.iload X6.here hx rfl (hb hby at_178) rfl k) ?_
        refine Wk.go (A' := T6.setTop (mkF m 182 #[iv cx, iv px, iv qx, iv mx, iv count, iv parts, iv mode, iv part, iv (f_str count part parts), jv ((count.toInt64) * ((part + (1 : Int32)).toInt64)), .second, iv (1 : Int32), iv (1 : Int32), iv (1 : Int32), iv (f_str count (part - (1 : Int32)) parts), iv ((f_str count part parts) - (f_str count (part - (1 : Int32)) parts)), .unset] [(.int parts), (.int count)])) (fun t k => XS.iload X6.here hx rfl (hb hby at_180) rfl k) ?_
        refine Wk.go (A' := T6.setTop (mkF m 183 #[iv cx, iv px, iv qx, iv mx, iv count, iv parts, iv mode, iv part, iv (f_str count part parts), jv ((count.toInt64) * ((part + (1 : Int32)).toInt64)), .second, iv (1 : Int32), iv (1 : Int32), iv (1 : Int32), iv (f_str count (part - (1 : Int32)) parts), iv ((f_str count part parts) - (f_str count (part - (1 : Int32)) parts)), .unset] [(.int (count / parts))])) (fun t k => XS.idiv X6.here hx rfl (hb hby at_182) rfl (own_i32 hN) k) ?_
        refine Wk.go (A' := T6.setTop (mkF m 185 #[iv cx, iv px, iv qx, iv mx, iv count, iv parts, iv mode, iv part, iv (f_str count part parts), jv ((count.toInt64) * ((part + (1 : Int32)).toInt64)), .second, iv (1 : Int32), iv (1 : Int32), iv (1 : Int32), iv (f_str count (part - (1 : Int32)) parts), iv ((f_str count part parts) - (f_str count (part - (1 : Int32)) parts)), iv (count / parts)] [])) (fun t k => XS.istore X6.here hx rfl (hb hby at_183) rfl (l' := #[iv cx, iv px, iv qx, iv mx, iv count, iv parts, iv mode, iv part, iv (f_str count part parts), jv ((count.toInt64) * ((part + (1 : Int32)).toInt64)), .second, iv (1 : Int32), iv (1 : Int32), iv (1 : Int32), iv (f_str count (part - (1 : Int32)) parts), iv ((f_str count part parts) - (f_str count (part - (1 : Int32)) parts)), iv (count / parts)]) rfl k) ?_
        refine Wk.go (A' := T6.setTop (mkF m 187 #[iv cx, iv px, iv qx, iv mx, iv count, iv parts, iv mode, iv part, iv (f_str count part parts), jv ((count.toInt64) * ((part + (1 : Int32)).toInt64)), .second, iv (1 : Int32), iv (1 : Int32), iv (1 : Int32), iv (f_str count (part - (1 : Int32)) parts), iv ((f_str count part parts) - (f_str count (part - (1 : Int32)) parts)), iv (count / parts)] [(.int ((f_str count part parts) - (f_str count (part - (1 : Int32)) parts)))])) (fun t k => XS.iload X6.here hx rfl (hb hby at_185) rfl k) ?_
        refine Wk.go (A' := T6.setTop (mkF m 189 #[iv cx, iv px, iv qx, iv mx, iv count, iv parts, iv mode, iv part, iv (f_str count part parts), jv ((count.toInt64) * ((part + (1 : Int32)).toInt64)), .second, iv (1 : Int32), iv (1 : Int32), iv (1 : Int32), iv (f_str count (part - (1 : Int32)) parts), iv ((f_str count part parts) - (f_str count (part - (1 : Int32)) parts)), iv (count / parts)] [(.int (count / parts)), (.int ((f_str count part parts) - (f_str count (part - (1 : Int32)) parts)))])) (fun t k => XS.iload X6.here hx rfl (hb hby at_187) rfl k) ?_
        by_cases hc189 : ((f_str count part parts) - (f_str count (part - (1 : Int32)) parts)) = (count / parts)
        · refine Wk.go (A' := T6.setTop (mkF m 201 #[iv cx, iv px, iv qx, iv mx, iv count, iv parts, iv mode, iv part, iv (f_str count part parts), jv ((count.toInt64) * ((part + (1 : Int32)).toInt64)), .second, iv (1 : Int32), iv (1 : Int32), iv (1 : Int32), iv (f_str count (part - (1 : Int32)) parts), iv ((f_str count part parts) - (f_str count (part - (1 : Int32)) parts)), iv (count / parts)] [])) (fun t k => XS.icmpYes X6.here hx rfl (pc0 := 189) (pc' := 201) rfl (hb hby at_189) rfl (teq hc189).1 (by decide) (by decide) k) ?_
          refine Wk.go (A' := T6.setTop (mkF m 202 #[iv cx, iv px, iv qx, iv mx, iv count, iv parts, iv mode, iv part, iv (f_str count part parts), jv ((count.toInt64) * ((part + (1 : Int32)).toInt64)), .second, iv (1 : Int32), iv (1 : Int32), iv (1 : Int32), iv (f_str count (part - (1 : Int32)) parts), iv ((f_str count part parts) - (f_str count (part - (1 : Int32)) parts)), iv (count / parts)] [(.int (1 : Int32))])) (fun t k => XS.iconst X6.here hx rfl (hb hby at_201) k) ?_
          refine Wk.go (A' := T6.setTop (mkF m 206 #[iv cx, iv px, iv qx, iv mx, iv count, iv parts, iv mode, iv part, iv (f_str count part parts), jv ((count.toInt64) * ((part + (1 : Int32)).toInt64)), .second, iv (1 : Int32), iv (1 : Int32), iv (1 : Int32), iv (f_str count (part - (1 : Int32)) parts), iv ((f_str count part parts) - (f_str count (part - (1 : Int32)) parts)), iv (count / parts)] [(.int (1 : Int32))])) (fun t k => XS.goto X6.here hx rfl (pc0 := 202) (pc' := 206) rfl (hb hby at_202) (by decide) (by decide) k) ?_
          refine Wk.go (A' := T6.setTop (mkF m 208 #[iv cx, iv px, iv qx, iv mx, iv count, iv parts, iv mode, iv part, iv (f_str count part parts), jv ((count.toInt64) * ((part + (1 : Int32)).toInt64)), .second, iv (1 : Int32), iv (1 : Int32), iv (1 : Int32), iv (f_str count (part - (1 : Int32)) parts), iv ((f_str count part parts) - (f_str count (part - (1 : Int32)) parts)), iv (count / parts)] [])) (fun t k => XS.istore X6.here hx rfl (hb hby at_206) rfl (l' := #[iv cx, iv px, iv qx, iv mx, iv count, iv parts, iv mode, iv part, iv (f_str count part parts), jv ((count.toInt64) * ((part + (1 : Int32)).toInt64)), .second, iv (1 : Int32), iv (1 : Int32), iv (1 : Int32), iv (f_str count (part - (1 : Int32)) parts), iv ((f_str count part parts) - (f_str count (part - (1 : Int32)) parts)), iv (count / parts)]) rfl k) ?_
          refine Wk.go (A' := T6.setTop (mkF m 210 #[iv cx, iv px, iv qx, iv mx, iv count, iv parts, iv mode, iv part, iv (f_str count part parts), jv ((count.toInt64) * ((part + (1 : Int32)).toInt64)), .second, iv (1 : Int32), iv (1 : Int32), iv (1 : Int32), iv (f_str count (part - (1 : Int32)) parts), iv ((f_str count part parts) - (f_str count (part - (1 : Int32)) parts)), iv (count / parts)] [(.int (1 : Int32))])) (fun t k => XS.iload X6.here hx rfl (hb hby at_208) rfl k) ?_
          have hc210 : ¬ ((1 : Int32) = (0 : Int32)) := by decide
          refine Wk.go (A' := T6.setTop (mkF m 213 #[iv cx, iv px, iv qx, iv mx, iv count, iv parts, iv mode, iv part, iv (f_str count part parts), jv ((count.toInt64) * ((part + (1 : Int32)).toInt64)), .second, iv (1 : Int32), iv (1 : Int32), iv (1 : Int32), iv (f_str count (part - (1 : Int32)) parts), iv ((f_str count part parts) - (f_str count (part - (1 : Int32)) parts)), iv (count / parts)] [])) (fun t k => XS.ifNo X6.here hx rfl (hb hby at_210) rfl ((if0 _ _).trans (feq hc210).1) k) ?_
          refine Wk.go (A' := T6.setTop (mkF m 215 #[iv cx, iv px, iv qx, iv mx, iv count, iv parts, iv mode, iv part, iv (f_str count part parts), jv ((count.toInt64) * ((part + (1 : Int32)).toInt64)), .second, iv (1 : Int32), iv (1 : Int32), iv (1 : Int32), iv (f_str count (part - (1 : Int32)) parts), iv ((f_str count part parts) - (f_str count (part - (1 : Int32)) parts)), iv (count / parts)] [(.int (1 : Int32))])) (fun t k => XS.iload X6.here hx rfl (hb hby at_213) rfl k) ?_
          have hc215 : ¬ ((1 : Int32) = (0 : Int32)) := by decide
          refine Wk.go (A' := T6.setTop (mkF m 218 #[iv cx, iv px, iv qx, iv mx, iv count, iv parts, iv mode, iv part, iv (f_str count part parts), jv ((count.toInt64) * ((part + (1 : Int32)).toInt64)), .second, iv (1 : Int32), iv (1 : Int32), iv (1 : Int32), iv (f_str count (part - (1 : Int32)) parts), iv ((f_str count part parts) - (f_str count (part - (1 : Int32)) parts)), iv (count / parts)] [])) (fun t k => XS.ifNo X6.here hx rfl (hb hby at_215) rfl ((if0 _ _).trans (feq hc215).1) k) ?_
          refine Wk.go (A' := T6.setTop (mkF m 220 #[iv cx, iv px, iv qx, iv mx, iv count, iv parts, iv mode, iv part, iv (f_str count part parts), jv ((count.toInt64) * ((part + (1 : Int32)).toInt64)), .second, iv (1 : Int32), iv (1 : Int32), iv (1 : Int32), iv (f_str count (part - (1 : Int32)) parts), iv ((f_str count part parts) - (f_str count (part - (1 : Int32)) parts)), iv (count / parts)] [(.int (1 : Int32))])) (fun t k => XS.iload X6.here hx rfl (hb hby at_218) rfl k) ?_
          have hc220 : ¬ ((1 : Int32) = (0 : Int32)) := by decide
          refine Wk.go (A' := T6.setTop (mkF m 223 #[iv cx, iv px, iv qx, iv mx, iv count, iv parts, iv mode, iv part, iv (f_str count part parts), jv ((count.toInt64) * ((part + (1 : Int32)).toInt64)), .second, iv (1 : Int32), iv (1 : Int32), iv (1 : Int32), iv (f_str count (part - (1 : Int32)) parts), iv ((f_str count part parts) - (f_str count (part - (1 : Int32)) parts)), iv (count / parts)] [])) (fun t k => XS.ifNo X6.here hx rfl (hb hby at_220) rfl ((if0 _ _).trans (feq hc220).1) k) ?_
          refine Wk.go (A' := T6.setTop (mkF m 224 #[iv cx, iv px, iv qx, iv mx, iv count, iv parts, iv mode, iv part, iv (f_str count part parts), jv ((count.toInt64) * ((part + (1 : Int32)).toInt64)), .second, iv (1 : Int32), iv (1 : Int32), iv (1 : Int32), iv (f_str count (part - (1 : Int32)) parts), iv ((f_str count part parts) - (f_str count (part - (1 : Int32)) parts)), iv (count / parts)] [(.int (1 : Int32))])) (fun t k => XS.iconst X6.here hx rfl (hb hby at_223) k) ?_
          refine Wk.go (A' := T6.setTop (mkF m 228 #[iv cx, iv px, iv qx, iv mx, iv count, iv parts, iv mode, iv part, iv (f_str count part parts), jv ((count.toInt64) * ((part + (1 : Int32)).toInt64)), .second, iv (1 : Int32), iv (1 : Int32), iv (1 : Int32), iv (f_str count (part - (1 : Int32)) parts), iv ((f_str count part parts) - (f_str count (part - (1 : Int32)) parts)), iv (count / parts)] [(.int (1 : Int32))])) (fun t k => XS.goto X6.here hx rfl (pc0 := 224) (pc' := 228) rfl (hb hby at_224) (by decide) (by decide) k) ?_
          refine own_fin (Qv := Q0 Z cx px qx mx h0 n0) (v := some (.int (1 : Int32))) X6 hlk (fun h => by rw [Bd.returns] at h; cases h) (fun fs hr => retN X6 hx (t := .boolean) Bd.returns (by simp) (hb hby at_228) hr) ?_ (by decide) (by decide)
          exact ⟨rfl, N6⟩
        · refine Wk.go (A' := T6.setTop (mkF m 192 #[iv cx, iv px, iv qx, iv mx, iv count, iv parts, iv mode, iv part, iv (f_str count part parts), jv ((count.toInt64) * ((part + (1 : Int32)).toInt64)), .second, iv (1 : Int32), iv (1 : Int32), iv (1 : Int32), iv (f_str count (part - (1 : Int32)) parts), iv ((f_str count part parts) - (f_str count (part - (1 : Int32)) parts)), iv (count / parts)] [])) (fun t k => XS.icmpNo X6.here hx rfl (hb hby at_189) rfl (feq hc189).1 k) ?_
          refine Wk.go (A' := T6.setTop (mkF m 194 #[iv cx, iv px, iv qx, iv mx, iv count, iv parts, iv mode, iv part, iv (f_str count part parts), jv ((count.toInt64) * ((part + (1 : Int32)).toInt64)), .second, iv (1 : Int32), iv (1 : Int32), iv (1 : Int32), iv (f_str count (part - (1 : Int32)) parts), iv ((f_str count part parts) - (f_str count (part - (1 : Int32)) parts)), iv (count / parts)] [(.int ((f_str count part parts) - (f_str count (part - (1 : Int32)) parts)))])) (fun t k => XS.iload X6.here hx rfl (hb hby at_192) rfl k) ?_
          refine Wk.go (A' := T6.setTop (mkF m 196 #[iv cx, iv px, iv qx, iv mx, iv count, iv parts, iv mode, iv part, iv (f_str count part parts), jv ((count.toInt64) * ((part + (1 : Int32)).toInt64)), .second, iv (1 : Int32), iv (1 : Int32), iv (1 : Int32), iv (f_str count (part - (1 : Int32)) parts), iv ((f_str count part parts) - (f_str count (part - (1 : Int32)) parts)), iv (count / parts)] [(.int (count / parts)), (.int ((f_str count part parts) - (f_str count (part - (1 : Int32)) parts)))])) (fun t k => XS.iload X6.here hx rfl (hb hby at_194) rfl k) ?_
          refine Wk.go (A' := T6.setTop (mkF m 197 #[iv cx, iv px, iv qx, iv mx, iv count, iv parts, iv mode, iv part, iv (f_str count part parts), jv ((count.toInt64) * ((part + (1 : Int32)).toInt64)), .second, iv (1 : Int32), iv (1 : Int32), iv (1 : Int32), iv (f_str count (part - (1 : Int32)) parts), iv ((f_str count part parts) - (f_str count (part - (1 : Int32)) parts)), iv (count / parts)] [(.int (1 : Int32)), (.int (count / parts)), (.int ((f_str count part parts) - (f_str count (part - (1 : Int32)) parts)))])) (fun t k => XS.iconst X6.here hx rfl (hb hby at_196) k) ?_
          refine Wk.go (A' := T6.setTop (mkF m 198 #[iv cx, iv px, iv qx, iv mx, iv count, iv parts, iv mode, iv part, iv (f_str count part parts), jv ((count.toInt64) * ((part + (1 : Int32)).toInt64)), .second, iv (1 : Int32), iv (1 : Int32), iv (1 : Int32), iv (f_str count (part - (1 : Int32)) parts), iv ((f_str count part parts) - (f_str count (part - (1 : Int32)) parts)), iv (count / parts)] [(.int ((count / parts) + (1 : Int32))), (.int ((f_str count part parts) - (f_str count (part - (1 : Int32)) parts)))])) (fun t k => XS.iadd X6.here hx rfl (hb hby at_197) rfl k) ?_
          have hc198 : ((f_str count part parts) - (f_str count (part - (1 : Int32)) parts)) = ((count / parts) + (1 : Int32)) := (A5 hc155).resolve_left hc189
          refine Wk.go (A' := T6.setTop (mkF m 201 #[iv cx, iv px, iv qx, iv mx, iv count, iv parts, iv mode, iv part, iv (f_str count part parts), jv ((count.toInt64) * ((part + (1 : Int32)).toInt64)), .second, iv (1 : Int32), iv (1 : Int32), iv (1 : Int32), iv (f_str count (part - (1 : Int32)) parts), iv ((f_str count part parts) - (f_str count (part - (1 : Int32)) parts)), iv (count / parts)] [])) (fun t k => XS.icmpNo X6.here hx rfl (hb hby at_198) rfl (teq hc198).2 k) ?_
          refine Wk.go (A' := T6.setTop (mkF m 202 #[iv cx, iv px, iv qx, iv mx, iv count, iv parts, iv mode, iv part, iv (f_str count part parts), jv ((count.toInt64) * ((part + (1 : Int32)).toInt64)), .second, iv (1 : Int32), iv (1 : Int32), iv (1 : Int32), iv (f_str count (part - (1 : Int32)) parts), iv ((f_str count part parts) - (f_str count (part - (1 : Int32)) parts)), iv (count / parts)] [(.int (1 : Int32))])) (fun t k => XS.iconst X6.here hx rfl (hb hby at_201) k) ?_
          refine Wk.go (A' := T6.setTop (mkF m 206 #[iv cx, iv px, iv qx, iv mx, iv count, iv parts, iv mode, iv part, iv (f_str count part parts), jv ((count.toInt64) * ((part + (1 : Int32)).toInt64)), .second, iv (1 : Int32), iv (1 : Int32), iv (1 : Int32), iv (f_str count (part - (1 : Int32)) parts), iv ((f_str count part parts) - (f_str count (part - (1 : Int32)) parts)), iv (count / parts)] [(.int (1 : Int32))])) (fun t k => XS.goto X6.here hx rfl (pc0 := 202) (pc' := 206) rfl (hb hby at_202) (by decide) (by decide) k) ?_
          refine Wk.go (A' := T6.setTop (mkF m 208 #[iv cx, iv px, iv qx, iv mx, iv count, iv parts, iv mode, iv part, iv (f_str count part parts), jv ((count.toInt64) * ((part + (1 : Int32)).toInt64)), .second, iv (1 : Int32), iv (1 : Int32), iv (1 : Int32), iv (f_str count (part - (1 : Int32)) parts), iv ((f_str count part parts) - (f_str count (part - (1 : Int32)) parts)), iv (count / parts)] [])) (fun t k => XS.istore X6.here hx rfl (hb hby at_206) rfl (l' := #[iv cx, iv px, iv qx, iv mx, iv count, iv parts, iv mode, iv part, iv (f_str count part parts), jv ((count.toInt64) * ((part + (1 : Int32)).toInt64)), .second, iv (1 : Int32), iv (1 : Int32), iv (1 : Int32), iv (f_str count (part - (1 : Int32)) parts), iv ((f_str count part parts) - (f_str count (part - (1 : Int32)) parts)), iv (count / parts)]) rfl k) ?_
          refine Wk.go (A' := T6.setTop (mkF m 210 #[iv cx, iv px, iv qx, iv mx, iv count, iv parts, iv mode, iv part, iv (f_str count part parts), jv ((count.toInt64) * ((part + (1 : Int32)).toInt64)), .second, iv (1 : Int32), iv (1 : Int32), iv (1 : Int32), iv (f_str count (part - (1 : Int32)) parts), iv ((f_str count part parts) - (f_str count (part - (1 : Int32)) parts)), iv (count / parts)] [(.int (1 : Int32))])) (fun t k => XS.iload X6.here hx rfl (hb hby at_208) rfl k) ?_
          have hc210 : ¬ ((1 : Int32) = (0 : Int32)) := by decide
          refine Wk.go (A' := T6.setTop (mkF m 213 #[iv cx, iv px, iv qx, iv mx, iv count, iv parts, iv mode, iv part, iv (f_str count part parts), jv ((count.toInt64) * ((part + (1 : Int32)).toInt64)), .second, iv (1 : Int32), iv (1 : Int32), iv (1 : Int32), iv (f_str count (part - (1 : Int32)) parts), iv ((f_str count part parts) - (f_str count (part - (1 : Int32)) parts)), iv (count / parts)] [])) (fun t k => XS.ifNo X6.here hx rfl (hb hby at_210) rfl ((if0 _ _).trans (feq hc210).1) k) ?_
          refine Wk.go (A' := T6.setTop (mkF m 215 #[iv cx, iv px, iv qx, iv mx, iv count, iv parts, iv mode, iv part, iv (f_str count part parts), jv ((count.toInt64) * ((part + (1 : Int32)).toInt64)), .second, iv (1 : Int32), iv (1 : Int32), iv (1 : Int32), iv (f_str count (part - (1 : Int32)) parts), iv ((f_str count part parts) - (f_str count (part - (1 : Int32)) parts)), iv (count / parts)] [(.int (1 : Int32))])) (fun t k => XS.iload X6.here hx rfl (hb hby at_213) rfl k) ?_
          have hc215 : ¬ ((1 : Int32) = (0 : Int32)) := by decide
          refine Wk.go (A' := T6.setTop (mkF m 218 #[iv cx, iv px, iv qx, iv mx, iv count, iv parts, iv mode, iv part, iv (f_str count part parts), jv ((count.toInt64) * ((part + (1 : Int32)).toInt64)), .second, iv (1 : Int32), iv (1 : Int32), iv (1 : Int32), iv (f_str count (part - (1 : Int32)) parts), iv ((f_str count part parts) - (f_str count (part - (1 : Int32)) parts)), iv (count / parts)] [])) (fun t k => XS.ifNo X6.here hx rfl (hb hby at_215) rfl ((if0 _ _).trans (feq hc215).1) k) ?_
          refine Wk.go (A' := T6.setTop (mkF m 220 #[iv cx, iv px, iv qx, iv mx, iv count, iv parts, iv mode, iv part, iv (f_str count part parts), jv ((count.toInt64) * ((part + (1 : Int32)).toInt64)), .second, iv (1 : Int32), iv (1 : Int32), iv (1 : Int32), iv (f_str count (part - (1 : Int32)) parts), iv ((f_str count part parts) - (f_str count (part - (1 : Int32)) parts)), iv (count / parts)] [(.int (1 : Int32))])) (fun t k => XS.iload X6.here hx rfl (hb hby at_218) rfl k) ?_
          have hc220 : ¬ ((1 : Int32) = (0 : Int32)) := by decide
          refine Wk.go (A' := T6.setTop (mkF m 223 #[iv cx, iv px, iv qx, iv mx, iv count, iv parts, iv mode, iv part, iv (f_str count part parts), jv ((count.toInt64) * ((part + (1 : Int32)).toInt64)), .second, iv (1 : Int32), iv (1 : Int32), iv (1 : Int32), iv (f_str count (part - (1 : Int32)) parts), iv ((f_str count part parts) - (f_str count (part - (1 : Int32)) parts)), iv (count / parts)] [])) (fun t k => XS.ifNo X6.here hx rfl (hb hby at_220) rfl ((if0 _ _).trans (feq hc220).1) k) ?_
          refine Wk.go (A' := T6.setTop (mkF m 224 #[iv cx, iv px, iv qx, iv mx, iv count, iv parts, iv mode, iv part, iv (f_str count part parts), jv ((count.toInt64) * ((part + (1 : Int32)).toInt64)), .second, iv (1 : Int32), iv (1 : Int32), iv (1 : Int32), iv (f_str count (part - (1 : Int32)) parts), iv ((f_str count part parts) - (f_str count (part - (1 : Int32)) parts)), iv (count / parts)] [(.int (1 : Int32))])) (fun t k => XS.iconst X6.here hx rfl (hb hby at_223) k) ?_
          refine Wk.go (A' := T6.setTop (mkF m 228 #[iv cx, iv px, iv qx, iv mx, iv count, iv parts, iv mode, iv part, iv (f_str count part parts), jv ((count.toInt64) * ((part + (1 : Int32)).toInt64)), .second, iv (1 : Int32), iv (1 : Int32), iv (1 : Int32), iv (f_str count (part - (1 : Int32)) parts), iv ((f_str count part parts) - (f_str count (part - (1 : Int32)) parts)), iv (count / parts)] [(.int (1 : Int32))])) (fun t k => XS.goto X6.here hx rfl (pc0 := 224) (pc' := 228) rfl (hb hby at_224) (by decide) (by decide) k) ?_
          refine own_fin (Qv := Q0 Z cx px qx mx h0 n0) (v := some (.int (1 : Int32))) X6 hlk (fun h => by rw [Bd.returns] at h; cases h) (fun fs hr => retN X6 hx (t := .boolean) Bd.returns (by simp) (hb hby at_228) hr) ?_ (by decide) (by decide)
          exact ⟨rfl, N6⟩
set_option maxRecDepth 65536 in
set_option maxHeartbeats 40000000 in
theorem comes_1 {Post : Tables → Env → Array Value → State → Outcome → State → Prop} (hpost : ∀ tb e args s v u, (limb_1_1.after args s (.returned v) u = true ∧ limb_1_2.after args s (.returned v) u = true ∧ True) → FrameEnd s (.returned v) u (Jvm.fieldLocs frame_1_writes args s ++ Jvm.arrayLocs frame_1_arrays args s ++ Jvm.staticLocs frame_1_statics s) 0 0 → Post tb e args s (.returned v) u) :
    ArmFor flags0 classFile x code maxLocals ret World_1 tables_1 room_1 Calls_1 rest_1 Pre_1 Post := by
  intro l hfl _ _ p e ha hc hk s m args below hf hA hF happ hP
  obtain ⟨hcalls, hrest, hpre⟩ := hP
  obtain ⟨-, -, -, hnamed, -, -, -, hat⟩ := (Spec.applies_iff hf).mp happ
  obtain ⟨hg, hn⟩ := and_e (Cond.before_iff.mp (show (Jvm.Cond.and given_1 narrow_1).before args s = true from hpre))
  obtain ⟨hcnt, g0⟩ := and_e hg
  obtain ⟨ga0, g1⟩ := and_e g0
  obtain ⟨ga1, g2⟩ := and_e g1
  obtain ⟨ga2, g3⟩ := and_e g2
  obtain ⟨w0, w1, w2, w3, rfl⟩ : ∃ w0 w1 w2 w3 : Value, args = #[w0, w1, w2, w3] := by
    have hs : args.size = 4 := by simpa [Cond.value, given_1] using hcnt
    obtain ⟨L⟩ := args
    match L, hs with
    | [w0, w1, w2, w3], _ => exact ⟨w0, w1, w2, w3, rfl⟩
  have hw := fun d (hd : d ∈ tables_1) => atoms_spec (ws := Jvm.Cond.code x code maxLocals ret :: tables_1) hat d (List.mem_cons_of_mem _ hd)
  obtain ⟨i0, ei0⟩ := is_v ga0
  obtain rfl : w0 = (.int i0) := Option.some.inj ei0
  obtain ⟨i1, ei1⟩ := is_v ga1
  obtain rfl : w1 = (.int i1) := Option.some.inj ei1
  obtain ⟨i2, ei2⟩ := is_v ga2
  obtain rfl : w2 = (.int i2) := Option.some.inj ei2
  obtain ⟨i3, ei3⟩ := is_v g3
  obtain rfl : w3 = (.int i3) := Option.some.inj ei3
  obtain ⟨n, o, h1, h2, h3, _, L, rfl, ⟨rfl, N⟩, hq⟩ := rm0 l s _ hw tables_1 i0 i1 i2 i3  s.heap s.heap.size (Nat.le_refl _)  p e ha hc hk s m _ below hf ((Spec.applies_iff_loose hf).mp happ).1 ⟨rfl, State.Warmed39.refl s, rfl⟩ trivial
  refine ⟨n, _, h1, h2, h3, hpost _ _ _ _ _ _ ⟨Cond.after_iff.mpr rfl, Cond.after_iff.mpr (eq_i res_at (Term.int_eval (1)) rfl), trivial⟩ ⟨hq.1, hq.2.1, (hq.2.2.sift fun y hy => Or.inr (N y hy)).mono (by decide) (by decide)⟩⟩
theorem main_1_1 : Claimed_1_1 := comes_1 fun _ _ _ _ _ _ h hF => ⟨h.1, hF⟩
theorem main_1_2 : Claimed_1_2 := comes_1 fun _ _ _ _ _ _ h hF => ⟨h.2.1, hF⟩
end Jvm.Pilot.@@N@@
namespace Jvm.Pilot.@@N@@
open Jvm Jvm.ClassFile Sem Op Lib Jvm.Free Jvm.Stand Jvm.Pilot.@@N@@.Jvm.D
/-! MADE BY PROGRAM (witnessworld.py) out of the Statement's table words and the real class files: 11 classes; the members and pool entries that the words name. The judged class is class 1, her method 1. -/
namespace start1
open Jvm.ClassFile
def u (s : String) : CpInfo := .utf8 (stringToUtf16 s)
/-- a pool by its gaps: so many unusable entries, then the entry; so many at the end -/
def gap : Nat → List CpInfo → List CpInfo
  | 0, r => r
  | n + 1, r => .unusable :: gap n r
def poolList (es : List (Nat × CpInfo)) (last : Nat) : List CpInfo := es.foldr (fun e r => gap e.1 (e.2 :: r)) (gap last [])
def pool (es : List (Nat × CpInfo)) (last : Nat) : Array CpInfo := ⟨poolList es last⟩
def fileOf (pool : Array CpInfo) (this : Nat) (attrs : Array Attribute := #[]) (ms : Array MethodInfo := #[]) (fl : Nat := 33) (sup : Nat := 0) (ifs : Array Nat := #[]) (fds : Array FieldInfo := #[]) : ClassFile where
  minorVersion := 0
  majorVersion := 65
  constantPool := pool
  accessFlags := fl
  thisClass := this
  superClass := sup
  interfaces := ifs
  fields := fds
  methods := ms
  attributes := attrs
def plain (name : String) (sup : Option ClassId) : Class where
  name := name
  kind := .ordinary
  loader := none
  accessFlags := 33
  super := sup
  interfaces := #[]
  cf := none
  fields := #[]
  methods := #[]
  instanceTypes := #[]
  staticTypes := #[]
  resolved := #[]
  callSites := []
  init := .initialized
  statics := none
  mirror := none

def pool0 : Array CpInfo := pool [(5, u "<init>"), (0, u "()V"), (1, .class_ 10), (1, u "java/lang/Object")] 113

def k0m0 : Method := { name := "<init>", desc := "()V", sig := { parameters := [], returnType := none }, accessFlags := 1, code := none }
/-- java/lang/Object -/
def k0 : Class := { plain "java/lang/Object" none with
  accessFlags := 33
  interfaces := #[]
  cf := some (fileOf pool0 8 #[] #[{ accessFlags := 1, nameIndex := 5, descriptorIndex := 6, attributes := #[] }] 33 0 #[] #[])
  fields := #[]
  methods := #[k0m0]
  instanceTypes := #[]
  staticTypes := #[]
  resolved := Array.replicate 124 none
  statics := none }

def pool1 : Array CpInfo := pool [(2, .class_ 4), (1, u "java/lang/Object"), (0, u "<init>"), (0, u "()V"), (0, .integer 2147483647), (0, .methodref 9 10), (0, .class_ 11), (0, .nameAndType 12 13), (0, u "java/lang/Math"), (0, u "max"), (0, u "(II)I"), (0, .methodref 15 16), (0, .class_ 17), (0, .nameAndType 18 19), (0, u "com/example/bitbraid/bitbraid/Workers"), (0, u "stretchEnd"), (0, u "(III)I"), (0, .class_ 21), (0, u "com/example/bitbraid/bitbraid/WorkersStretchEndPinLaw"), (2, u "law"), (0, u "(IIII)Z")] 3

def k1m0 : Method := { name := "<init>", desc := "()V", sig := { parameters := [], returnType := none }, accessFlags := 1, code := none }
def k1c1 : Code := { maxStack := 6, maxLocals := 17, code := code, exceptionTable := #[], attributes := #[] }
def k1m1 : Method := { name := "law", desc := "(IIII)Z", sig := { parameters := [.int, .int, .int, .int], returnType := some .boolean }, accessFlags := 9, code := some k1c1 }
/-- com/example/bitbraid/bitbraid/WorkersStretchEndPinLaw -/
def k1 : Class := { plain "com/example/bitbraid/bitbraid/WorkersStretchEndPinLaw" (some 0) with
  accessFlags := 49
  interfaces := #[]
  cf := some (fileOf pool1 20 #[] #[{ accessFlags := 1, nameIndex := 5, descriptorIndex := 6, attributes := #[] }, { accessFlags := 9, nameIndex := 24, descriptorIndex := 25, attributes := #[] }] 49 2 #[] #[])
  fields := #[]
  methods := #[k1m0, k1m1]
  instanceTypes := #[]
  staticTypes := #[]
  resolved := Array.replicate 29 none
  statics := none }

def pool2 : Array CpInfo := pool [(1, .class_ 2), (0, u "java/lang/Math"), (1, .class_ 6), (1, u "java/lang/Object"), (0, u "<init>"), (0, u "()V"), (89, .class_ 100), (1, u "java/lang/Math$RandomNumberGeneratorHolder"), (71, u "negativeZeroFloatBits"), (0, u "J"), (2, u "negativeZeroDoubleBits"), (21, u "max"), (46, u "$assertionsDisabled"), (0, u "Z"), (88, u "(II)I"), (2, u "twoToTheDoubleScaleDown"), (0, u "D"), (4, u "twoToTheDoubleScaleUp"), (9, u "E"), (3, u "PI"), (2, u "TAU"), (2, u "DEGREES_TO_RADIANS"), (0, u "RADIANS_TO_DEGREES")] 94

def k2m0 : Method := { name := "<init>", desc := "()V", sig := { parameters := [], returnType := none }, accessFlags := 2, code := none }
def k2c1 : Code := { maxStack := 2, maxLocals := 2, code := jdk_29_method_65_code, exceptionTable := #[], attributes := #[] }
def k2m1 : Method := { name := "max", desc := "(II)I", sig := { parameters := [.int, .int], returnType := some .int }, accessFlags := 9, code := some k2c1 }
/-- java/lang/Math -/
def k2 : Class := { plain "java/lang/Math" (some 0) with
  accessFlags := 49
  interfaces := #[]
  cf := some (fileOf pool2 1 #[.nestMembers #[98]] #[{ accessFlags := 2, nameIndex := 7, descriptorIndex := 8, attributes := #[] }, { accessFlags := 9, nameIndex := 198, descriptorIndex := 335, attributes := #[] }] 49 4 #[] #[{ accessFlags := 25, nameIndex := 354, descriptorIndex := 339, attributes := #[] }, { accessFlags := 25, nameIndex := 358, descriptorIndex := 339, attributes := #[] }, { accessFlags := 25, nameIndex := 361, descriptorIndex := 339, attributes := #[] }, { accessFlags := 26, nameIndex := 364, descriptorIndex := 339, attributes := #[] }, { accessFlags := 26, nameIndex := 365, descriptorIndex := 339, attributes := #[] }, { accessFlags := 26, nameIndex := 172, descriptorIndex := 173, attributes := #[] }, { accessFlags := 26, nameIndex := 176, descriptorIndex := 173, attributes := #[] }, { accessFlags := 8, nameIndex := 344, descriptorIndex := 339, attributes := #[] }, { accessFlags := 8, nameIndex := 338, descriptorIndex := 339, attributes := #[] }, { accessFlags := 4120, nameIndex := 245, descriptorIndex := 246, attributes := #[] }])
  fields := #[{ name := "E", type := .double, accessFlags := 25, slot := 0, constantValue := 0 }, { name := "PI", type := .double, accessFlags := 25, slot := 1, constantValue := 0 }, { name := "TAU", type := .double, accessFlags := 25, slot := 2, constantValue := 0 }, { name := "DEGREES_TO_RADIANS", type := .double, accessFlags := 26, slot := 3, constantValue := 0 }, { name := "RADIANS_TO_DEGREES", type := .double, accessFlags := 26, slot := 4, constantValue := 0 }, { name := "negativeZeroFloatBits", type := .long, accessFlags := 26, slot := 5, constantValue := 0 }, { name := "negativeZeroDoubleBits", type := .long, accessFlags := 26, slot := 6, constantValue := 0 }, { name := "twoToTheDoubleScaleUp", type := .double, accessFlags := 8, slot := 7, constantValue := 0 }, { name := "twoToTheDoubleScaleDown", type := .double, accessFlags := 8, slot := 8, constantValue := 0 }, { name := "$assertionsDisabled", type := .boolean, accessFlags := 4120, slot := 9, constantValue := 0 }]
  methods := #[k2m0, k2m1]
  instanceTypes := #[]
  staticTypes := #[.double, .double, .double, .double, .double, .long, .long, .double, .double, .boolean]
  resolved := Array.replicate 460 none
  statics := none }

def pool3 : Array CpInfo := pool [(1, .class_ 2), (0, u "java/lang/AutoCloseable"), (0, .class_ 4), (0, u "java/lang/Object")] 7

/-- java/lang/AutoCloseable -/
def k3 : Class := { plain "java/lang/AutoCloseable" (some 0) with
  accessFlags := 1537
  interfaces := #[]
  cf := some (fileOf pool3 1 #[] #[] 1537 3 #[] #[])
  fields := #[]
  methods := #[]
  instanceTypes := #[]
  staticTypes := #[]
  resolved := Array.replicate 12 none
  statics := none }

def pool4 : Array CpInfo := pool [(2, .class_ 4), (1, u "java/lang/Object"), (3, .class_ 10), (1, u "com/example/bitbraid/bitbraid/Workers"), (0, u "threads"), (0, u "I"), (0, .class_ 14), (0, u "com/example/bitbraid/bitbraid/Workers$Helper"), (2, u "helpers"), (0, u "[Lcom/example/bitbraid/bitbraid/Workers$Helper;"), (4, u "RUNS"), (0, u "Ljava/util/concurrent/atomic/AtomicInteger;"), (24, u "ONE"), (0, u "Lcom/example/bitbraid/bitbraid/Workers;"), (3, .class_ 55), (0, u "com/example/bitbraid/bitbraid/Workers$Step"), (33, u "closed"), (0, u "Z"), (21, u "QUIET_OUT_OF_MEMORY"), (0, u "Ljava/lang/Thread$UncaughtExceptionHandler;"), (6, .class_ 121), (0, u "java/lang/AutoCloseable"), (0, u "STRETCHES_A_THREAD"), (10, u "stretchEnd"), (0, u "(III)I"), (13, .class_ 149), (0, u "com/example/bitbraid/bitbraid/Workers$Task")] 36

def k4c0 : Code := { maxStack := 4, maxLocals := 3, code := prog_23_method_5_code, exceptionTable := #[], attributes := #[] }
def k4m0 : Method := { name := "stretchEnd", desc := "(III)I", sig := { parameters := [.int, .int, .int], returnType := some .int }, accessFlags := 8, code := some k4c0 }
/-- com/example/bitbraid/bitbraid/Workers -/
def k4 : Class := { plain "com/example/bitbraid/bitbraid/Workers" (some 0) with
  accessFlags := 48
  interfaces := #[3]
  cf := some (fileOf pool4 8 #[.nestMembers #[54, 13, 148]] #[{ accessFlags := 8, nameIndex := 133, descriptorIndex := 134, attributes := #[] }] 48 2 #[120] #[{ accessFlags := 24, nameIndex := 49, descriptorIndex := 50, attributes := #[] }, { accessFlags := 26, nameIndex := 23, descriptorIndex := 24, attributes := #[] }, { accessFlags := 26, nameIndex := 122, descriptorIndex := 12, attributes := #[] }, { accessFlags := 26, nameIndex := 112, descriptorIndex := 113, attributes := #[] }, { accessFlags := 18, nameIndex := 11, descriptorIndex := 12, attributes := #[] }, { accessFlags := 18, nameIndex := 17, descriptorIndex := 18, attributes := #[] }, { accessFlags := 66, nameIndex := 89, descriptorIndex := 90, attributes := #[] }])
  fields := #[{ name := "ONE", type := (.object "com/example/bitbraid/bitbraid/Workers"), accessFlags := 24, slot := 0, constantValue := 0 }, { name := "RUNS", type := (.object "java/util/concurrent/atomic/AtomicInteger"), accessFlags := 26, slot := 1, constantValue := 0 }, { name := "STRETCHES_A_THREAD", type := .int, accessFlags := 26, slot := 2, constantValue := 0 }, { name := "QUIET_OUT_OF_MEMORY", type := (.object "java/lang/Thread$UncaughtExceptionHandler"), accessFlags := 26, slot := 3, constantValue := 0 }, { name := "threads", type := .int, accessFlags := 18, slot := 0, constantValue := 0 }, { name := "helpers", type := (.array (.object "com/example/bitbraid/bitbraid/Workers$Helper")), accessFlags := 18, slot := 1, constantValue := 0 }, { name := "closed", type := .boolean, accessFlags := 66, slot := 2, constantValue := 0 }]
  methods := #[k4m0]
  instanceTypes := #[.int, (.array (.object "com/example/bitbraid/bitbraid/Workers$Helper")), .boolean]
  staticTypes := #[(.object "com/example/bitbraid/bitbraid/Workers"), (.object "java/util/concurrent/atomic/AtomicInteger"), .int, (.object "java/lang/Thread$UncaughtExceptionHandler")]
  resolved := Array.replicate 186 none
  statics := none }

def pool5 : Array CpInfo := pool [(1, u "java/lang/Cloneable"), (0, .class_ 1), (0, u "java/lang/Object"), (0, .class_ 3)] 3

/-- java/lang/Cloneable -/
def k5 : Class := { plain "java/lang/Cloneable" (some 0) with
  accessFlags := 1537
  interfaces := #[]
  cf := some (fileOf pool5 2 #[] #[] 1537 4 #[] #[])
  fields := #[]
  methods := #[]
  instanceTypes := #[]
  staticTypes := #[]
  resolved := Array.replicate 8 none
  statics := none }

def pool6 : Array CpInfo := pool [(1, u "java/io/Serializable"), (0, .class_ 1), (0, u "java/lang/Object"), (0, .class_ 3)] 3

/-- java/io/Serializable -/
def k6 : Class := { plain "java/io/Serializable" (some 0) with
  accessFlags := 1537
  interfaces := #[]
  cf := some (fileOf pool6 2 #[] #[] 1537 4 #[] #[])
  fields := #[]
  methods := #[]
  instanceTypes := #[]
  staticTypes := #[]
  resolved := Array.replicate 8 none
  statics := none }

/-- the primitive byte -/
def k7 : Class := { plain "byte" none with kind := .primitive 'B', accessFlags := 0x411 }
/-- [B -/
def k8 : Class := { plain "[B" (some 0) with kind := .array 7 .byte, interfaces := #[5, 6], accessFlags := 1041 }

/-- the primitive int -/
def k9 : Class := { plain "int" none with kind := .primitive 'I', accessFlags := 0x411 }
/-- [I -/
def k10 : Class := { plain "[I" (some 0) with kind := .array 9 .int, interfaces := #[5, 6], accessFlags := 1041 }

def heap : Heap := #[]
def classes : Array Class := #[k0, k1, k2, k3, k4, k5, k6, k7, k8, k9, k10]
def interned : List (Array UInt16 × Addr) := []
def slotsUsed : Nat := 0
def theMethod : MethodId := ⟨1, 1⟩
def args0 : Array Value := #[.int 5, .int 3, .int 7, .int 2]
def aboutOver (below : List Frame) : State where
  vm := { classes := classes, interned := interned.toArray }
  heap := heap
  slotsUsed := slotsUsed
  threads := #[{ frames := .invoking theMethod args0 :: below }]
def below0 : List Frame := [.native { method := ⟨0, 0⟩, args := #[] }]
def about1 : State := aboutOver below0
def p0 : Program := .bare "" "" ""
def e0 : Env := launch0.env 0 0 0
theorem w_frames : about1.frames = Frame.invoking theMethod args0 :: below0 := rfl
set_option maxRecDepth 65536 in
theorem w_args : argsFit about1.vm theMethod args0 = true := by decide +kernel
set_option maxRecDepth 65536 in
theorem w_heap : heapFits about1 = true := by decide +kernel
set_option maxRecDepth 65536 in
theorem w_runnable : about1.curStatus? = some .runnable := by decide +kernel
set_option maxRecDepth 65536 in
theorem w_alone : about1.alone = true := by decide +kernel
set_option maxRecDepth 65536 in
theorem w_named : about1.methodNamed? x = some theMethod := by decide +kernel
set_option maxRecDepth 65536 in
theorem w_hears : about1.hears theMethod below0 = true := by decide +kernel
set_option maxRecDepth 65536 in
theorem w_ripe : about1.ripe theMethod args0 below0 = true := by decide +kernel
theorem w_running : about1.status = .running := rfl
set_option maxRecDepth 65536 in
theorem w_room : about1.hasRoom e0.platform room_1 = true :=
  launch0.hasRoom_least _ room_1 (by decide +kernel) (by decide +kernel) (by decide +kernel) (by decide +kernel) (by decide +kernel) (by decide +kernel)
theorem allAtoms_all (ts : List Jvm.Cond) (a : Array Jvm.Value) (st : Jvm.State) : (allAtoms ts).before a st = ts.all (fun c => c.before a st) := by
  induction ts with
  | nil => rfl
  | cons c t ih =>
    show (Jvm.Cond.and c (allAtoms t)).before a st = _
    rw [Jvm.Cond.before_and, ih, List.all_cons]
def words1 : List Jvm.Cond := Jvm.Cond.code x code maxLocals ret :: tables_1
/-- a 'code' word, met by the world's own term for the bytes: nothing is compared byte by byte -/
theorem code_word {y : MethodName} {bytes : ByteArray} {mx : Nat} {rt : Option FieldType} {a : Array Value} {s : State} {m : MethodId} {meth : Method} {c : Code} (h1 : s.methodNamed? y = some m) (h2 : s.vm.method? m = some meth) (h3 : meth.code = some c) (h4 : c.code = bytes)
    (h5 : (c.maxLocals == mx && c.exceptionTable.isEmpty && decide (c.maxStack ≤ mostOperands) && decide (meth.sig.returnType = rt) && !meth.locks && decide (parseMethodDescriptor y.desc = some meth.sig)) = true) : (Jvm.Cond.code y bytes mx rt).before a s = true := by
  simp only [Bool.and_eq_true, beq_iff_eq, Bool.not_eq_true', decide_eq_true_eq] at h5
  obtain ⟨⟨⟨⟨⟨g1, g2⟩, g3⟩, g4⟩, g5⟩, g6⟩ := h5
  simp [Cond.before, Cond.holds, Cond.value, h1, h2, h3, h4, g1, g2, g3, g4, g5, g6]
def isCode : Jvm.Cond → Bool
  | .code _ _ _ _ => true
  | _ => false
theorem all_split {L : List Jvm.Cond} {P : Jvm.Cond → Bool} (h1 : L.all (fun c => isCode c || P c) = true) (h2 : ∀ c ∈ L.filter isCode, P c = true) : L.all P = true := by
  refine List.all_eq_true.mpr fun c hc => ?_
  have h := List.all_eq_true.mp h1 c hc
  rcases Bool.eq_false_or_eq_true (isCode c) with hi | hi
  · exact h2 c (List.mem_filter.mpr ⟨hc, hi⟩)
  · simpa [hi] using h
set_option maxRecDepth 65536 in
theorem w_c0 : (Jvm.Cond.code x code maxLocals ret).before args0 about1 = true := code_word (m := ⟨1, 1⟩) (meth := k1m1) (c := k1c1) (by decide +kernel) rfl rfl rfl (by decide +kernel)
set_option maxRecDepth 65536 in
theorem w_c1 : (Jvm.Cond.code ({ cls := "java/lang/Math", name := "max", desc := "(II)I" } : Jvm.MethodName) jdk_29_method_65_code (2 : Nat) (Option.some Jvm.ClassFile.FieldType.int)).before args0 about1 = true := code_word (m := ⟨2, 1⟩) (meth := k2m1) (c := k2c1) (by decide +kernel) rfl rfl rfl (by decide +kernel)
set_option maxRecDepth 65536 in
theorem w_c2 : (Jvm.Cond.code ({ cls := "com/example/bitbraid/bitbraid/Workers", name := "stretchEnd", desc := "(III)I" } : Jvm.MethodName) prog_23_method_5_code (3 : Nat) (Option.some Jvm.ClassFile.FieldType.int)).before args0 about1 = true := code_word (m := ⟨4, 0⟩) (meth := k4m0) (c := k4c0) (by decide +kernel) rfl rfl rfl (by decide +kernel)
def codes1 : List Jvm.Cond := [Jvm.Cond.code x code maxLocals ret, Jvm.Cond.code ({ cls := "java/lang/Math", name := "max", desc := "(II)I" } : Jvm.MethodName) jdk_29_method_65_code (2 : Nat) (Option.some Jvm.ClassFile.FieldType.int), Jvm.Cond.code ({ cls := "com/example/bitbraid/bitbraid/Workers", name := "stretchEnd", desc := "(III)I" } : Jvm.MethodName) prog_23_method_5_code (3 : Nat) (Option.some Jvm.ClassFile.FieldType.int)]
set_option maxRecDepth 65536 in
theorem codes_eq : words1.filter isCode = codes1 := rfl
theorem w_codes : ∀ c ∈ words1.filter isCode, c.before args0 about1 = true := by
  rw [codes_eq]
  intro c hc
  simp only [codes1, List.mem_cons, List.not_mem_nil, or_false] at hc
  rcases hc with rfl | rfl | rfl
  · exact w_c0
  · exact w_c1
  · exact w_c2
set_option maxRecDepth 65536 in
theorem w_t1 : words1.all (fun c => isCode c || c.before args0 about1) = true := by decide +kernel
theorem w_tables : (allAtoms (Jvm.Cond.code x code maxLocals ret :: tables_1)).before args0 about1 = true := by
  rw [allAtoms_all]
  show words1.all (fun c => c.before args0 about1) = true
  refine all_split ?_ w_codes
  rw [w_t1]
set_option maxRecDepth 65536 in
theorem w_case : (Jvm.Cond.and given_1 narrow_1).before args0 about1 = true := by decide +kernel
theorem w_applies : (headSpec (Jvm.Cond.code x code maxLocals ret :: tables_1) room_1).applies x e0.platform about1 = true :=
  (Spec.applies_iff w_frames).mpr ⟨w_running, w_runnable, w_alone, w_named, w_hears, w_ripe, w_room, w_tables⟩
theorem atStart : AtStart classFile x code maxLocals ret World_1 tables_1 room_1 Calls_1 rest_1 Pre_1 launch0 p0 e0 about1 theMethod args0 below0 :=
  ⟨lists_1, trivial, launch0.admits_env _ _ _, launch0.least_env, fairChoices_fair.cas, fairChoices_fair.clock, w_frames, w_args, w_heap, w_applies, trivial, trivial, w_case⟩
end start1
theorem witness_1 : WitnessClaimed_1 := ⟨start1.p0, start1.e0, start1.about1, start1.theMethod, start1.args0, start1.below0, start1.atStart⟩
end Jvm.Pilot.@@N@@
