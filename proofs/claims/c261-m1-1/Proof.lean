import JvmDerived
import JvmDerived.Pilot.@@N@@Statement
import JvmDerived.Pilot.@@N@@Code
set_option linter.unusedVariables false
set_option linter.unusedSimpArgs false
namespace Jvm.RoadKit
open Sem ClassFile Op Lib Jvm.Stand Jvm.Free Jvm.LawKit
section New
variable {p : Program} {l : Launch} {e : Env} {R : Room} {s : State} {m : MethodId} {args : Array Value} {below : List Frame} {meth : Method} {c : Code} {T : State} {locs : List Loc} {cells slots : Nat}
theorem retI (X : Stand p l e R s m args below meth c T locs cells slots) (hx : p.tables.exec = Jvm.exec) {pc : Nat} {Ls : Array Slot} {z : Int32} {rest : List Value} (hret : meth.sig.returnType = some .int) (hd : decode c.code pc = .ok (.ireturn, 1)) {fs : List Frame}
    (hl : ∀ (f : JFrame) (acts : List Action), f.method = m → f.locked = none → f.entered = [] → (doReturn e (T.setTop f) acts (some (.int z))).1 = T.setFrames fs) : Steps p.tables e below (T.setTop (mkF m pc Ls (.int z :: rest))) (T.setFrames fs) := by
  have hm' : T.vm.method? m = some meth := X.method'
  have hn : narrow .int (.int z) = .int z := rfl
  show Steps p.tables e below (T.setTop { method := m, pc := pc, locals := Ls, stack := _ :: rest, locked := none }) _
  jvm_step X.here [X.here.top, hx, hd, hm', hret, hn]
  first | (intro acts; rw [hl _ acts rfl rfl rfl]) | rw [hl _ _ rfl rfl rfl]
  exact Steps.refl _
abbrev jv (x : Int64) : Slot := .val (.long x)
/-- from A the run goes on to an end of which R holds -/
def Wk (tb : Tables) (e : Env) (below : List Frame) (A : State) (R : State → Outcome → Prop) : Prop := ∃ U o, Steps tb e below A U ∧ R U o
theorem Wk.go {tb : Tables} {A A' : State} {R : State → Outcome → Prop} (h : ∀ t, Steps tb e below A' t → Steps tb e below A t) (k : Wk tb e below A' R) : Wk tb e below A R := by
  obtain ⟨U, o, k1, k2⟩ := k
  exact ⟨U, o, h _ k1, k2⟩
/-- the two ways from A to A' meet there -/
theorem own_fin (X : Stand p l e R s m args below meth c T locs cells slots) {Qv : Option Value → Heap → List Loc → Prop} {v : Option Value} {g : JFrame} {C S : Nat} (hlocks : meth.locks = false) (hv : meth.sig.returnType = none → v = none)
    (hst : ∀ fs, (∀ (f : JFrame) (acts : List Action), f.method = m → f.locked = none → f.entered = [] → (doReturn e (T.setTop f) acts v).1 = T.setFrames fs) → Steps p.tables e below (T.setTop g) (T.setFrames fs))
    (hQ : Qv v T.heap locs) (hc : cells ≤ C) (hs : slots ≤ S) :
    Wk p.tables e below (T.setTop g) (fun U o => U.status = .running ∧ Ended U below o ∧ ∃ v L, o = .returned v ∧ Qv v U.heap L ∧ FrameEnd s o U L C S) := by
  obtain ⟨fs, hr, hrun, hended, hW, hsame⟩ := X.leave (v := v) hv hlocks
  exact ⟨_, _, hst fs hr, hrun, hended, _, _, rfl, hQ, ⟨_, rfl⟩, hW, hsame.mono hc hs⟩
end New
end Jvm.RoadKit
namespace Jvm.Pilot.@@N@@
open Jvm Jvm.ClassFile Sem Op Lib Jvm.Free Jvm.Stand Jvm.LawKit Jvm.RoadKit Bundle Jvm.Pilot.@@N@@.Jvm.D
theorem d1_0 : decode prog_14_method_7_code 0 = .ok (.lload_n 0, 1) := by decide +kernel
theorem tw5 {Z : State} {a0 : Array Value} (hw : ∀ d ∈ tables_1, d.before a0 Z = true) : (Jvm.Cond.constantLong "com/example/bitbraid/bitbraid/NumberTable" (40 : Nat) (-7046029254386353131 : Int64)).before a0 Z = true := hw _ (List.mem_of_getElem? (i := 5) rfl)
theorem d1_1 : decode prog_14_method_7_code 1 = .ok (.ldc2_w 40, 3) := by decide +kernel
theorem d1_4 : decode prog_14_method_7_code 4 = .ok (.lmul, 1) := by decide +kernel
theorem d1_5 : decode prog_14_method_7_code 5 = .ok (.bipush 64, 2) := by decide +kernel
theorem d1_7 : decode prog_14_method_7_code 7 = .ok (.iload_n 2, 1) := by decide +kernel
theorem d1_8 : decode prog_14_method_7_code 8 = .ok (.isub, 1) := by decide +kernel
theorem d1_9 : decode prog_14_method_7_code 9 = .ok (.lushr, 1) := by decide +kernel
theorem d1_10 : decode prog_14_method_7_code 10 = .ok (.l2i, 1) := by decide +kernel
theorem d1_11 : decode prog_14_method_7_code 11 = .ok (.ireturn, 1) := by decide +kernel
theorem pn_0 : plainName "com/example/bitbraid/bitbraid/NumberTable" = true := by first | (simp [plainName, overriddenIn]; done) | decide +kernel
theorem ef_1 (m : MethodId) (x0 : Int64) (x1 : Int32) : entryFrame m #[(.long x0), (.int x1)] 3 = mkF m 0 #[jv x0, .second, iv x1] [] := by first | (simp [entryFrame, mkF, argsToLocals, Value.category]; done) | rfl
def f_first (vx : Int64) (bx : Int32)  : Int32 := ((((vx * (-7046029254386353131 : Int64)).toUInt64 >>> (((64 : Int32) - bx) &&& 0x3f).toInt64.toUInt64).toInt64).toInt32)
def Q1 (Z : State) (vx : Int64) (bx : Int32)  (h0 : Heap) (n0 : Nat) (v : Option Value) (h : Heap) (L : List Loc) : Prop := v = some (.int (f_first vx bx)) ∧ Fr n0 L ∧ h = h0
set_option maxRecDepth 65536 in
set_option maxHeartbeats 40000000 in
theorem rm1 (l : Launch) (Z : State) (a0 : Array Value) (hw : ∀ d ∈ tables_1, d.before a0 Z = true) (ws : List Jvm.Cond) (vx : Int64) (bx : Int32)  (h0 : Heap) (n0 : Nat) (Z0 : n0 ≤ h0.size)  :
    MetFree l (⟨"com/example/bitbraid/bitbraid/NumberTable", "firstPlace", "(JI)I"⟩ : MethodName) (head1 (Jvm.Cond.code (⟨"com/example/bitbraid/bitbraid/NumberTable", "firstPlace", "(JI)I"⟩ : MethodName) prog_14_method_7_code 3 (some .int) :: ws) ({ frames := 0, cells := 0, slots := 0, locals := 0 } : Room)) (fun a U => a = #[(.long vx), (.int bx)] ∧ Z.Warmed39 U.vm ∧ U.heap = h0) (fun _ _ _ _ _ => True) (fun _ U o U' => ∃ v L, o = .returned v ∧ Q1 Z vx bx h0 n0 v U'.heap L ∧ FrameEnd U o U' L ({ frames := 0, cells := 0, slots := 0, locals := 0 } : Room).cells ({ frames := 0, cells := 0, slots := 0, locals := 0 } : Room).slots) := by
  refine MetFree.of_bodySF (plainFor_of_name pn_0) hisR ?_
  intro p e s m args below meth c s₁ Bd hml0 hP hK
  obtain ⟨rfl, hZ, hh⟩ := hP
  have hx := Bd.exec
  have hby := Bd.bytes
  have hml : c.maxLocals = 3 := hml0
  have hown : s.vm.findClass "com/example/bitbraid/bitbraid/NumberTable" = some m.cls := findClass_of_methodNamed Bd.named
  have hnm := (name_of_methodNamed Bd.named Bd.method).1
  have X0 : Stand p l e ({ frames := 0, cells := 0, slots := 0, locals := 0 } : Room) s m #[(.long vx), (.int bx)] below meth c s₁ [] 0 0 := Stand.of_body Bd
  have e0 : s₁.heap = h0 := by rw [← hh, Bd.state]; rfl
  have N0 := Fr.nil n0
  have hlk : meth.locks = false := BodyLoose.notSynchronized Bd
  suffices hwk : Wk p.tables e below (s₁.setTop (mkF m 0 #[jv vx, .second, iv bx] [])) (fun U o => U.status = .running ∧ Ended U below o ∧ ∃ v L, o = .returned v ∧ Q1 Z vx bx h0 n0 v U.heap L ∧ FrameEnd s o U L 0 0) by
    obtain ⟨U, o, k1, k2⟩ := hwk
    exact ⟨U, o, castTop (ef_1 m vx bx) k1, k2⟩
  refine Wk.go (A' := s₁.setTop (mkF m 1 #[jv vx, .second, iv bx] [(.long vx)])) (fun t k => XS.lloadN X0.here hx rfl (hb hby d1_0) rfl k) ?_
  refine Wk.go (A' := s₁.setTop (mkF m 4 #[jv vx, .second, iv bx] [(.long (-7046029254386353131 : Int64)), (.long vx)])) (fun t k => X0.ldc2Long hx hown (mvT hZ (tw5 hw)) (g := (mkF m 1 #[jv vx, .second, iv bx] [(.long vx)])) rfl (hb hby d1_1) t k) ?_
  refine Wk.go (A' := s₁.setTop (mkF m 5 #[jv vx, .second, iv bx] [(.long (vx * (-7046029254386353131 : Int64)))])) (fun t k => XS.lmul X0.here hx rfl (hb hby d1_4) rfl k) ?_
  refine Wk.go (A' := s₁.setTop (mkF m 7 #[jv vx, .second, iv bx] [(.int (64 : Int32)), (.long (vx * (-7046029254386353131 : Int64)))])) (fun t k => XS.bipush X0.here hx rfl (hb hby d1_5) k) ?_
  refine Wk.go (A' := s₁.setTop (mkF m 8 #[jv vx, .second, iv bx] [(.int bx), (.int (64 : Int32)), (.long (vx * (-7046029254386353131 : Int64)))])) (fun t k => XS.iloadN X0.here hx rfl (hb hby d1_7) rfl k) ?_
  refine Wk.go (A' := s₁.setTop (mkF m 9 #[jv vx, .second, iv bx] [(.int ((64 : Int32) - bx)), (.long (vx * (-7046029254386353131 : Int64)))])) (fun t k => XS.isub X0.here hx rfl (hb hby d1_8) rfl k) ?_
  refine Wk.go (A' := s₁.setTop (mkF m 10 #[jv vx, .second, iv bx] [(.long (((vx * (-7046029254386353131 : Int64)).toUInt64 >>> (((64 : Int32) - bx) &&& 0x3f).toInt64.toUInt64).toInt64))])) (fun t k => XS.lushr X0.here hx rfl (hb hby d1_9) rfl k) ?_
  refine Wk.go (A' := s₁.setTop (mkF m 11 #[jv vx, .second, iv bx] [(.int ((((vx * (-7046029254386353131 : Int64)).toUInt64 >>> (((64 : Int32) - bx) &&& 0x3f).toInt64.toUInt64).toInt64).toInt32))])) (fun t k => XS.l2i X0.here hx rfl (hb hby d1_10) rfl k) ?_
  refine own_fin (Qv := Q1 Z vx bx h0 n0) (v := some (.int ((((vx * (-7046029254386353131 : Int64)).toUInt64 >>> (((64 : Int32) - bx) &&& 0x3f).toInt64.toUInt64).toInt64).toInt32))) X0 hlk (fun h => by rw [Bd.returns] at h; cases h) (fun fs hr => retI X0 hx Bd.returns (hb hby d1_11) hr) ?_ (by decide) (by decide)
  refine ⟨?_, N0, e0⟩
  simp only [f_first]
/-- the product's word as a natural -/
def own_P (v : Int64) : Int := (v * (-7046029254386353131 : Int64)).toInt % 18446744073709551616
theorem own_P_range (v : Int64) : 0 ≤ own_P v ∧ own_P v < 18446744073709551616 := by unfold own_P; omega
theorem own_P_add (v w : Int64) : own_P (v + w) = (own_P v + own_P w) % 18446744073709551616 := by
  unfold own_P
  rw [Int64.add_mul]
  have h := c_ladd (v * (-7046029254386353131 : Int64)) (w * (-7046029254386353131 : Int64))
  omega
theorem own_sub_nat (b : Int32) (k : Nat) (h1 : 1 ≤ k) (h2 : k ≤ 31) (hb : b.toInt = k) (c : Int32) (n : Nat) (hn : c.toInt = n) (hk : k ≤ n) (hc : n ≤ 64) : (c - b).toBitVec.toNat = n - k := by
  have h := c_isub c b
  have hr := rng32 (c - b)
  have e : (c - b).toInt = ((n - k : Nat) : Int) := by omega
  have e2 : (c - b).toInt = (c - b).toBitVec.toInt := rfl
  rw [e2, BitVec.toInt_eq_toNat_cond] at e
  have := (c - b).toBitVec.isLt
  split at e <;> omega
theorem own_first (v : Int64) (b : Int32) (k : Nat) (h1 : 1 ≤ k) (h2 : k ≤ 31) (hb : b.toInt = k) : (f_first v b).toInt = own_P v / ((2 ^ (64 - k) : Nat) : Int) ∧ 0 ≤ (f_first v b).toInt ∧ (f_first v b).toInt < ((2 ^ k : Nat) : Int) := by
  have e64 : (64 : Int32).toInt = ((64 : Nat) : Int) := by decide
  have hs : ((64 : Int32) - b).toBitVec.toNat % 64 = 64 - k := by rw [own_sub_nat b k h1 h2 hb 64 64 e64 (by omega) (by omega)]; omega
  have hu := c_lushr (v * (-7046029254386353131 : Int64)) ((64 : Int32) - b) (64 - k) hs (by omega)
  have hP := own_P_range v
  have hpow : (2 ^ k : Nat) * (2 ^ (64 - k) : Nat) = 18446744073709551616 := by rw [← Nat.pow_add, show k + (64 - k) = 64 by omega]
  have h31 : (2 ^ k : Nat) ≤ 2 ^ 31 := Nat.pow_le_pow_right (by decide) h2
  have hpos := Nat.two_pow_pos (64 - k)
  have hl := c_l2i (((v * (-7046029254386353131 : Int64)).toUInt64 >>> (((64 : Int32) - b) &&& 0x3f).toInt64.toUInt64).toInt64)
  have hr := rng32 (f_first v b)
  have hf : f_first v b = (((v * (-7046029254386353131 : Int64)).toUInt64 >>> (((64 : Int32) - b) &&& 0x3f).toInt64.toUInt64).toInt64).toInt32 := rfl
  rw [← hf, hu] at hl
  have hd : (v * (-7046029254386353131 : Int64)).toInt % 18446744073709551616 = own_P v := by unfold own_P; rfl
  rw [hd] at hl
  clear hu hf hd
  generalize (2 ^ (64 - k) : Nat) = M at *
  generalize (2 ^ k : Nat) = N at *
  have h' : (N : Int) * (M : Int) = 18446744073709551616 := by rw [← Int.natCast_mul, hpow]; rfl
  have hq : own_P v / (M : Int) < (N : Int) := Int.ediv_lt_of_lt_mul (by omega) (by rw [h']; exact hP.2)
  have hq0 := Int.ediv_nonneg hP.1 (show 0 ≤ (M : Int) by omega)
  generalize own_P v / (M : Int) = q at *
  clear h' hpow hs hP
  omega
theorem own_bits (b : Int32) : ∃ k : Nat, 1 ≤ k ∧ k ≤ 31 ∧ ((1 : Int32) + ((b &&& (2147483647 : Int32)) % (31 : Int32))).toInt = k := by
  have h1 := c_mask b 2147483647 31 (by decide) (by decide)
  have h2 := (c_irem (b &&& (2147483647 : Int32)) 31 31 (by decide)).1 (by omega)
  have h3 := c_iadd 1 ((b &&& (2147483647 : Int32)) % (31 : Int32))
  have h4 := rng32 ((1 : Int32) + ((b &&& (2147483647 : Int32)) % (31 : Int32)))
  have e1 : (1 : Int32).toInt = 1 := by decide
  refine ⟨((1 : Int32) + ((b &&& (2147483647 : Int32)) % (31 : Int32))).toInt.toNat, ?_, ?_, ?_⟩ <;> omega
theorem own_iushr (x q : Int32) (k : Nat) (hk : q.toBitVec.toNat % 32 = k) (h0 : 0 ≤ x.toInt) : ((x.toUInt32 >>> (q &&& 31).toUInt32).toInt32).toInt = x.toInt / (2 ^ k : Nat) := by
  by_cases hp : 0 < k
  · rw [c_iushr x q k hk hp]; have := rng32 x; congr 1; omega
  · have h : k = 0 := by omega
    subst h
    have e : q &&& 31 = 0 := by
      apply Int32.toBitVec_inj.mp
      apply BitVec.eq_of_toNat_eq
      have : (q &&& 31).toBitVec.toNat = q.toBitVec.toNat % 32 := by
        rw [Int32.toBitVec_and, BitVec.toNat_and]
        exact Nat.and_two_pow_sub_one_eq_mod _ 5
      rw [this, hk]; rfl
    rw [e]
    have : (x.toUInt32 >>> (0 : Int32).toUInt32).toInt32 = x := by
      show (x.toUInt32 >>> (0 : UInt32)).toInt32 = x
      simp
    rw [this]; simp
theorem own_addt {P Q a b c d1 d2 z : Int} (hP : 0 ≤ P ∧ P < 18446744073709551616) (hQ : 0 ≤ Q ∧ Q < 18446744073709551616) (v1 : a = P / ((2 ^ (64 - 31) : Nat) : Int)) (w1 : b = Q / ((2 ^ (64 - 31) : Nat) : Int)) (s1 : c = (P + Q) % 18446744073709551616 / ((2 ^ (64 - 31) : Nat) : Int)) (hb : (d1 - (c - a)) % 4294967296 = 0) (ha : (d2 - (d1 - b)) % 4294967296 = 0) (hm : z = d2 % (2 ^ 31 : Nat)) : z = 0 ∨ z = 1 := by
  have e33 : ((2 ^ (64 - 31) : Nat) : Int) = 8589934592 := rfl
  rw [e33] at v1 w1 s1
  clear e33
  omega
/-- what the law asks of the four places -/
theorem own_law (v w : Int64) (b : Int32) (bits : Int32) (hbits : bits = (1 : Int32) + ((b &&& (2147483647 : Int32)) % (31 : Int32))) :
    (¬ f_first v bits < 0) ∧ (f_first v bits).toInt64 < ((1 : Int64) <<< (bits &&& 0x3f).toInt64) ∧ (¬ f_first v 31 < 0) ∧ (¬ f_first w 31 < 0) ∧ (¬ f_first (v + w) 31 < 0) ∧
    f_first v bits = (((f_first v 31).toUInt32 >>> (((31 : Int32) - bits) &&& 31).toUInt32).toInt32) ∧
    (((f_first (v + w) 31 - f_first v 31) - f_first w 31) &&& (2147483647 : Int32) = 0 ∨ ((f_first (v + w) 31 - f_first v 31) - f_first w 31) &&& (2147483647 : Int32) = 1) := by
  obtain ⟨k, h1, h2, hk⟩ := own_bits b
  rw [← hbits] at hk
  obtain ⟨r1, r2, r3⟩ := own_first v bits k h1 h2 hk
  obtain ⟨v1, v2, v3⟩ := own_first v 31 31 (by decide) (by decide) (by decide)
  obtain ⟨w1, w2, w3⟩ := own_first w 31 31 (by decide) (by decide) (by decide)
  obtain ⟨s1, s2, s3⟩ := own_first (v + w) 31 31 (by decide) (by decide) (by decide)
  have e0 : (0 : Int32).toInt = 0 := by decide
  have e1 : (1 : Int32).toInt = 1 := by decide
  have eb : bits.toBitVec.toNat = k := by
    have e2 : bits.toInt = bits.toBitVec.toInt := rfl
    rw [e2, BitVec.toInt_eq_toNat_cond] at hk
    have := bits.toBitVec.isLt
    split at hk <;> omega
  refine ⟨?_, ?_, ?_, ?_, ?_, ?_, ?_⟩
  · rw [Int32.lt_iff_toInt_lt, e0]; exact Int.not_lt.mpr r2
  · rw [Int64.lt_iff_toInt_lt, c_i2l]
    have hl := c_lshl 1 bits k (by omega)
    have hr := rng64 ((1 : Int64) <<< (bits &&& 0x3f).toInt64)
    have e : (1 : Int64).toInt = 1 := by decide
    have h31 : (2 ^ k : Nat) ≤ 2 ^ 31 := Nat.pow_le_pow_right (by decide) h2
    rw [e] at hl
    clear r1 v1 w1 s1
    generalize (2 ^ k : Nat) = N at *
    omega
  · rw [Int32.lt_iff_toInt_lt, e0]; exact Int.not_lt.mpr v2
  · rw [Int32.lt_iff_toInt_lt, e0]; exact Int.not_lt.mpr w2
  · rw [Int32.lt_iff_toInt_lt, e0]; exact Int.not_lt.mpr s2
  · apply Int32.toInt_inj.mp
    have e31 : (31 : Int32).toInt = ((31 : Nat) : Int) := by decide
    have hs : ((31 : Int32) - bits).toBitVec.toNat % 32 = 31 - k := by
      rw [own_sub_nat bits k h1 h2 hk 31 31 e31 h2 (by decide)]
      exact Nat.mod_eq_of_lt (by clear r1 v1 w1 s1 r3 v3 w3 s3; omega)
    rw [own_iushr _ _ (31 - k) hs v2, v1, r1, Int.ediv_ediv_of_nonneg (Int.natCast_nonneg _)]
    have : (2 ^ (64 - 31) : Nat) * (2 ^ (31 - k) : Nat) = 2 ^ (64 - k) := by rw [← Nat.pow_add]; congr 1; omega
    rw [← this, Int.natCast_mul]
  · have hm := c_mask ((f_first (v + w) 31 - f_first v 31) - f_first w 31) 2147483647 31 (by decide) (by decide)
    have ha := c_isub (f_first (v + w) 31 - f_first v 31) (f_first w 31)
    have hb := c_isub (f_first (v + w) 31) (f_first v 31)
    rw [own_P_add] at s1
    rcases own_addt (own_P_range v) (own_P_range w) v1 w1 s1 hb ha hm with q | q
    · exact Or.inl (Int32.toInt_inj.mp (q.trans e0.symm))
    · exact Or.inr (Int32.toInt_inj.mp (q.trans e1.symm))
theorem tw0 {Z : State} {a0 : Array Value} (hw : ∀ d ∈ tables_1, d.before a0 Z = true) : (Jvm.Cond.constant "com/example/bitbraid/bitbraid/NumberTableFirstPlacePinLaw" (7 : Nat) (2147483647 : Int32)).before a0 Z = true := hw _ (List.mem_of_getElem? (i := 0) rfl)
theorem tw1 {Z : State} {a0 : Array Value} (hw : ∀ d ∈ tables_1, d.before a0 Z = true) : (Jvm.Cond.methodLink "com/example/bitbraid/bitbraid/NumberTableFirstPlacePinLaw" (8 : Nat) ({ cls := "com/example/bitbraid/bitbraid/NumberTable", name := "firstPlace", desc := "(JI)I" } : Jvm.MethodName)).before a0 Z = true := hw _ (List.mem_of_getElem? (i := 1) rfl)
theorem tw4 {Z : State} {a0 : Array Value} (hw : ∀ d ∈ tables_1, d.before a0 Z = true) : (Jvm.Cond.code ({ cls := "com/example/bitbraid/bitbraid/NumberTable", name := "firstPlace", desc := "(JI)I" } : Jvm.MethodName) prog_14_method_7_code (3 : Nat) (Option.some Jvm.ClassFile.FieldType.int)).before a0 Z = true := hw _ (List.mem_of_getElem? (i := 4) rfl)
theorem tw3 {Z : State} {a0 : Array Value} (hw : ∀ d ∈ tables_1, d.before a0 Z = true) : (Jvm.Cond.initialized "com/example/bitbraid/bitbraid/NumberTable").before a0 Z = true := hw _ (List.mem_of_getElem? (i := 3) rfl)
theorem pd_0 : parseMethodDescriptor "(JI)I" = some ⟨[.long, .int], some .int⟩ := by decide +kernel
theorem tw2 {Z : State} {a0 : Array Value} (hw : ∀ d ∈ tables_1, d.before a0 Z = true) : (Jvm.Cond.static ({ cls := "com/example/bitbraid/bitbraid/NumberTable", name := "firstPlace", desc := "(JI)I" } : Jvm.MethodName)).before a0 Z = true := hw _ (List.mem_of_getElem? (i := 2) rfl)
theorem tw6 {Z : State} {a0 : Array Value} (hw : ∀ d ∈ tables_1, d.before a0 Z = true) : (Jvm.Cond.constant "com/example/bitbraid/bitbraid/NumberTableFirstPlacePinLaw" (14 : Nat) (1327217884 : Int32)).before a0 Z = true := hw _ (List.mem_of_getElem? (i := 6) rfl)
theorem tw7 {Z : State} {a0 : Array Value} (hw : ∀ d ∈ tables_1, d.before a0 Z = true) : (Jvm.Cond.constantLong "com/example/bitbraid/bitbraid/NumberTableFirstPlacePinLaw" (15 : Nat) (8 : Int64)).before a0 Z = true := hw _ (List.mem_of_getElem? (i := 7) rfl)
theorem tw8 {Z : State} {a0 : Array Value} (hw : ∀ d ∈ tables_1, d.before a0 Z = true) : (Jvm.Cond.constant "com/example/bitbraid/bitbraid/NumberTableFirstPlacePinLaw" (17 : Nat) (2027808485 : Int32)).before a0 Z = true := hw _ (List.mem_of_getElem? (i := 8) rfl)
theorem tw9 {Z : State} {a0 : Array Value} (hw : ∀ d ∈ tables_1, d.before a0 Z = true) : (Jvm.Cond.constantLong "com/example/bitbraid/bitbraid/NumberTableFirstPlacePinLaw" (18 : Nat) (8589934592 : Int64)).before a0 Z = true := hw _ (List.mem_of_getElem? (i := 9) rfl)
theorem tw10 {Z : State} {a0 : Array Value} (hw : ∀ d ∈ tables_1, d.before a0 Z = true) : (Jvm.Cond.constant "com/example/bitbraid/bitbraid/NumberTableFirstPlacePinLaw" (20 : Nat) (2135587861 : Int32)).before a0 Z = true := hw _ (List.mem_of_getElem? (i := 10) rfl)
theorem pn_1 : plainName "com/example/bitbraid/bitbraid/NumberTableFirstPlacePinLaw" = true := by first | (simp [plainName, overriddenIn]; done) | decide +kernel
theorem ef_0 (m : MethodId) (x0 : Int64) (x1 : Int64) (x2 : Int32) : entryFrame m #[(.long x0), (.long x1), (.int x2)] maxLocals = mkF m 0 #[jv x0, .second, jv x1, .second, iv x2, .unset, .unset, .unset, .unset, .unset, .unset, .unset, .unset, .unset, .unset] [] := by first | (simp [entryFrame, mkF, argsToLocals, Value.category, maxLocals]; done) | rfl
def Q0 (Z : State) (vx : Int64) (wx : Int64) (bx : Int32)  (h0 : Heap) (n0 : Nat) (v : Option Value) (h : Heap) (L : List Loc) : Prop := v = some (.int 1) ∧ Fr n0 L
set_option maxRecDepth 65536 in
set_option maxHeartbeats 40000000 in
theorem rm0 (l : Launch) (Z : State) (a0 : Array Value) (hw : ∀ d ∈ tables_1, d.before a0 Z = true) (ws : List Jvm.Cond) (vx : Int64) (wx : Int64) (bx : Int32)  (h0 : Heap) (n0 : Nat) (Z0 : n0 ≤ h0.size)  :
    MetFree l x (head1 (Jvm.Cond.code x code maxLocals ret :: ws) room_1) (fun a U => a = #[(.long vx), (.long wx), (.int bx)] ∧ Z.Warmed39 U.vm ∧ U.heap = h0) (fun _ _ _ _ _ => True) (fun _ U o U' => ∃ v L, o = .returned v ∧ Q0 Z vx wx bx h0 n0 v U'.heap L ∧ FrameEnd U o U' L 0 0) := by
  refine MetFree.of_bodySF (plainFor_of_name pn_1) hisR ?_
  intro p e s m args below meth c s₁ Bd hml0 hP hK
  obtain ⟨rfl, hZ, hh⟩ := hP
  have hx := Bd.exec
  have hby := Bd.bytes
  have hml : c.maxLocals = 15 := hml0
  have hown : s.vm.findClass "com/example/bitbraid/bitbraid/NumberTableFirstPlacePinLaw" = some m.cls := findClass_of_methodNamed Bd.named
  have hnm := (name_of_methodNamed Bd.named Bd.method).1
  have X0 : Stand p l e room_1 s m #[(.long vx), (.long wx), (.int bx)] below meth c s₁ [] 0 0 := Stand.of_body Bd
  have e0 : s₁.heap = h0 := by rw [← hh, Bd.state]; rfl
  have N0 := Fr.nil n0
  have hlk : meth.locks = false := BodyLoose.notSynchronized Bd
  suffices hwk : Wk p.tables e below (s₁.setTop (mkF m 0 #[jv vx, .second, jv wx, .second, iv bx, .unset, .unset, .unset, .unset, .unset, .unset, .unset, .unset, .unset, .unset] [])) (fun U o => U.status = .running ∧ Ended U below o ∧ ∃ v L, o = .returned v ∧ Q0 Z vx wx bx h0 n0 v U.heap L ∧ FrameEnd s o U L 0 0) by
    obtain ⟨U, o, k1, k2⟩ := hwk
    exact ⟨U, o, castTop (ef_0 m vx wx bx) k1, k2⟩
  obtain ⟨bits, hbits⟩ : ∃ z, z = (1 : Int32) + ((bx &&& (2147483647 : Int32)) % (31 : Int32)) := ⟨_, rfl⟩
  obtain ⟨LA1, LA2, LA3, LA4, LA5, LA6, LA7⟩ := own_law vx wx bx bits hbits
  refine Wk.go (A' := s₁.setTop (mkF m 1 #[jv vx, .second, jv wx, .second, iv bx, .unset, .unset, .unset, .unset, .unset, .unset, .unset, .unset, .unset, .unset] [(.int (1 : Int32))])) (fun t k => XS.iconst X0.here hx rfl (hb hby at_0) k) ?_
  refine Wk.go (A' := s₁.setTop (mkF m 3 #[jv vx, .second, jv wx, .second, iv bx, .unset, .unset, .unset, .unset, .unset, .unset, .unset, .unset, .unset, .unset] [(.int bx), (.int (1 : Int32))])) (fun t k => XS.iload X0.here hx rfl (hb hby at_1) rfl k) ?_
  refine Wk.go (A' := s₁.setTop (mkF m 5 #[jv vx, .second, jv wx, .second, iv bx, .unset, .unset, .unset, .unset, .unset, .unset, .unset, .unset, .unset, .unset] [(.int (2147483647 : Int32)), (.int bx), (.int (1 : Int32))])) (fun t k => X0.ldcInt hx hown (mvT hZ (tw0 hw)) (g := (mkF m 3 #[jv vx, .second, jv wx, .second, iv bx, .unset, .unset, .unset, .unset, .unset, .unset, .unset, .unset, .unset, .unset] [(.int bx), (.int (1 : Int32))])) rfl (hb hby at_3) t k) ?_
  refine Wk.go (A' := s₁.setTop (mkF m 6 #[jv vx, .second, jv wx, .second, iv bx, .unset, .unset, .unset, .unset, .unset, .unset, .unset, .unset, .unset, .unset] [(.int (bx &&& (2147483647 : Int32))), (.int (1 : Int32))])) (fun t k => XS.iand X0.here hx rfl (hb hby at_5) rfl k) ?_
  refine Wk.go (A' := s₁.setTop (mkF m 8 #[jv vx, .second, jv wx, .second, iv bx, .unset, .unset, .unset, .unset, .unset, .unset, .unset, .unset, .unset, .unset] [(.int (31 : Int32)), (.int (bx &&& (2147483647 : Int32))), (.int (1 : Int32))])) (fun t k => XS.bipush X0.here hx rfl (hb hby at_6) k) ?_
  refine Wk.go (A' := s₁.setTop (mkF m 9 #[jv vx, .second, jv wx, .second, iv bx, .unset, .unset, .unset, .unset, .unset, .unset, .unset, .unset, .unset, .unset] [(.int ((bx &&& (2147483647 : Int32)) % (31 : Int32))), (.int (1 : Int32))])) (fun t k => iremM X0 hx rfl (hb hby at_8) rfl (by decide) k) ?_
  refine Wk.go (A' := s₁.setTop (mkF m 10 #[jv vx, .second, jv wx, .second, iv bx, .unset, .unset, .unset, .unset, .unset, .unset, .unset, .unset, .unset, .unset] [(.int ((1 : Int32) + ((bx &&& (2147483647 : Int32)) % (31 : Int32))))])) (fun t k => XS.iadd X0.here hx rfl (hb hby at_9) rfl k) ?_
  refine Wk.go (A' := s₁.setTop (mkF m 12 #[jv vx, .second, jv wx, .second, iv bx, iv ((1 : Int32) + ((bx &&& (2147483647 : Int32)) % (31 : Int32))), .unset, .unset, .unset, .unset, .unset, .unset, .unset, .unset, .unset] [])) (fun t k => XS.istore X0.here hx rfl (hb hby at_10) rfl (l' := #[jv vx, .second, jv wx, .second, iv bx, iv ((1 : Int32) + ((bx &&& (2147483647 : Int32)) % (31 : Int32))), .unset, .unset, .unset, .unset, .unset, .unset, .unset, .unset, .unset]) rfl k) ?_
  rw [← hbits]
  refine Wk.go (A' := s₁.setTop (mkF m 13 #[jv vx, .second, jv wx, .second, iv bx, iv bits, .unset, .unset, .unset, .unset, .unset, .unset, .unset, .unset, .unset] [(.long vx)])) (fun t k => XS.lloadN X0.here hx rfl (hb hby at_12) rfl k) ?_
  refine Wk.go (A' := s₁.setTop (mkF m 15 #[jv vx, .second, jv wx, .second, iv bx, iv bits, .unset, .unset, .unset, .unset, .unset, .unset, .unset, .unset, .unset] [(.int bits), (.long vx)])) (fun t k => XS.iload X0.here hx rfl (hb hby at_13) rfl k) ?_
  obtain ⟨_, _, ⟨T1, L1, k1, n1⟩, -, X1, ⟨Lc1, hQ1, l1, y1, z1⟩, st1⟩ := Jvm.LawKit.callS X0 hx (y := (⟨"com/example/bitbraid/bitbraid/NumberTable", "firstPlace", "(JI)I"⟩ : MethodName)) hown (mvT hZ (tw1 hw)) (mvT hZ (tw2 hw)) (mvT hZ (tw3 hw)) (mvT hZ (tw4 hw)) (by decide) (backOf (W := 0) (rm1 l Z a0 hw [] vx bits  h0 n0 Z0 ) hZ (tw4 hw) (tw3 hw) (by decide) (by decide)) (g := (mkF m 15 #[jv vx, .second, jv wx, .second, iv bx, iv bits, .unset, .unset, .unset, .unset, .unset, .unset, .unset, .unset, .unset] [(.int bits), (.long vx)])) rfl (by rw [hml]; rfl) (argsL := [(.long vx), (.int bits)]) (rest := []) (lenOf pd_0 rfl) rfl (by show 2 * 0 + _ ≤ _; exact Nat.le_of_eq rfl) (hb hby at_15) (fun _ _ => ⟨rfl, e0, (by decide : 0 + 0 ≤ _), (by decide : 0 + 0 ≤ _)⟩)
  dsimp only [Pt.U, Pt.locs, Pt.cells, Pt.slots] at X1 l1 y1 z1 st1 hQ1
  subst l1 y1 z1
  obtain ⟨rfl, N1q, hE1⟩ := hQ1
  have N1 := Fr.app N0 N1q
  refine Wk.go (A' := T1.setTop (mkF m 18 #[jv vx, .second, jv wx, .second, iv bx, iv bits, .unset, .unset, .unset, .unset, .unset, .unset, .unset, .unset, .unset] [(.int (f_first vx bits))])) (fun t k => st1 t k) ?_
  refine Wk.go (A' := T1.setTop (mkF m 20 #[jv vx, .second, jv wx, .second, iv bx, iv bits, iv (f_first vx bits), .unset, .unset, .unset, .unset, .unset, .unset, .unset, .unset] [])) (fun t k => XS.istore X1.here hx rfl (hb hby at_18) rfl (l' := #[jv vx, .second, jv wx, .second, iv bx, iv bits, iv (f_first vx bits), .unset, .unset, .unset, .unset, .unset, .unset, .unset, .unset]) rfl k) ?_
  refine Wk.go (A' := T1.setTop (mkF m 21 #[jv vx, .second, jv wx, .second, iv bx, iv bits, iv (f_first vx bits), .unset, .unset, .unset, .unset, .unset, .unset, .unset, .unset] [(.long vx)])) (fun t k => XS.lloadN X1.here hx rfl (hb hby at_20) rfl k) ?_
  refine Wk.go (A' := T1.setTop (mkF m 23 #[jv vx, .second, jv wx, .second, iv bx, iv bits, iv (f_first vx bits), .unset, .unset, .unset, .unset, .unset, .unset, .unset, .unset] [(.int (31 : Int32)), (.long vx)])) (fun t k => XS.bipush X1.here hx rfl (hb hby at_21) k) ?_
  obtain ⟨_, _, ⟨T2, L2, k2, n2⟩, -, X2, ⟨Lc2, hQ2, l2, y2, z2⟩, st2⟩ := Jvm.LawKit.callS X1 hx (y := (⟨"com/example/bitbraid/bitbraid/NumberTable", "firstPlace", "(JI)I"⟩ : MethodName)) hown (mvT hZ (tw1 hw)) (mvT hZ (tw2 hw)) (mvT hZ (tw3 hw)) (mvT hZ (tw4 hw)) (by decide) (backOf (W := 0) (rm1 l Z a0 hw [] vx (31 : Int32)  h0 n0 Z0 ) hZ (tw4 hw) (tw3 hw) (by decide) (by decide)) (g := (mkF m 23 #[jv vx, .second, jv wx, .second, iv bx, iv bits, iv (f_first vx bits), .unset, .unset, .unset, .unset, .unset, .unset, .unset, .unset] [(.int (31 : Int32)), (.long vx)])) rfl (by rw [hml]; rfl) (argsL := [(.long vx), (.int (31 : Int32))]) (rest := []) (lenOf pd_0 rfl) rfl (by show 2 * 0 + _ ≤ _; exact Nat.le_of_eq rfl) (hb hby at_23) (fun _ _ => ⟨rfl, (hE1), (by decide : 0 + 0 ≤ _), (by decide : 0 + 0 ≤ _)⟩)
  dsimp only [Pt.U, Pt.locs, Pt.cells, Pt.slots] at X2 l2 y2 z2 st2 hQ2
  subst l2 y2 z2
  obtain ⟨rfl, N2q, hE2⟩ := hQ2
  have N2 := Fr.app N1 N2q
  refine Wk.go (A' := T2.setTop (mkF m 26 #[jv vx, .second, jv wx, .second, iv bx, iv bits, iv (f_first vx bits), .unset, .unset, .unset, .unset, .unset, .unset, .unset, .unset] [(.int (f_first vx (31 : Int32)))])) (fun t k => st2 t k) ?_
  refine Wk.go (A' := T2.setTop (mkF m 28 #[jv vx, .second, jv wx, .second, iv bx, iv bits, iv (f_first vx bits), iv (f_first vx (31 : Int32)), .unset, .unset, .unset, .unset, .unset, .unset, .unset] [])) (fun t k => XS.istore X2.here hx rfl (hb hby at_26) rfl (l' := #[jv vx, .second, jv wx, .second, iv bx, iv bits, iv (f_first vx bits), iv (f_first vx (31 : Int32)), .unset, .unset, .unset, .unset, .unset, .unset, .unset]) rfl k) ?_
  refine Wk.go (A' := T2.setTop (mkF m 29 #[jv vx, .second, jv wx, .second, iv bx, iv bits, iv (f_first vx bits), iv (f_first vx (31 : Int32)), .unset, .unset, .unset, .unset, .unset, .unset, .unset] [(.long wx)])) (fun t k => XS.lloadN X2.here hx rfl (hb hby at_28) rfl k) ?_
  refine Wk.go (A' := T2.setTop (mkF m 31 #[jv vx, .second, jv wx, .second, iv bx, iv bits, iv (f_first vx bits), iv (f_first vx (31 : Int32)), .unset, .unset, .unset, .unset, .unset, .unset, .unset] [(.int (31 : Int32)), (.long wx)])) (fun t k => XS.bipush X2.here hx rfl (hb hby at_29) k) ?_
  obtain ⟨_, _, ⟨T3, L3, k3, n3⟩, -, X3, ⟨Lc3, hQ3, l3, y3, z3⟩, st3⟩ := Jvm.LawKit.callS X2 hx (y := (⟨"com/example/bitbraid/bitbraid/NumberTable", "firstPlace", "(JI)I"⟩ : MethodName)) hown (mvT hZ (tw1 hw)) (mvT hZ (tw2 hw)) (mvT hZ (tw3 hw)) (mvT hZ (tw4 hw)) (by decide) (backOf (W := 0) (rm1 l Z a0 hw [] wx (31 : Int32)  h0 n0 Z0 ) hZ (tw4 hw) (tw3 hw) (by decide) (by decide)) (g := (mkF m 31 #[jv vx, .second, jv wx, .second, iv bx, iv bits, iv (f_first vx bits), iv (f_first vx (31 : Int32)), .unset, .unset, .unset, .unset, .unset, .unset, .unset] [(.int (31 : Int32)), (.long wx)])) rfl (by rw [hml]; rfl) (argsL := [(.long wx), (.int (31 : Int32))]) (rest := []) (lenOf pd_0 rfl) rfl (by show 2 * 0 + _ ≤ _; exact Nat.le_of_eq rfl) (hb hby at_31) (fun _ _ => ⟨rfl, (hE2), (by decide : 0 + 0 ≤ _), (by decide : 0 + 0 ≤ _)⟩)
  dsimp only [Pt.U, Pt.locs, Pt.cells, Pt.slots] at X3 l3 y3 z3 st3 hQ3
  subst l3 y3 z3
  obtain ⟨rfl, N3q, hE3⟩ := hQ3
  have N3 := Fr.app N2 N3q
  refine Wk.go (A' := T3.setTop (mkF m 34 #[jv vx, .second, jv wx, .second, iv bx, iv bits, iv (f_first vx bits), iv (f_first vx (31 : Int32)), .unset, .unset, .unset, .unset, .unset, .unset, .unset] [(.int (f_first wx (31 : Int32)))])) (fun t k => st3 t k) ?_
  refine Wk.go (A' := T3.setTop (mkF m 36 #[jv vx, .second, jv wx, .second, iv bx, iv bits, iv (f_first vx bits), iv (f_first vx (31 : Int32)), iv (f_first wx (31 : Int32)), .unset, .unset, .unset, .unset, .unset, .unset] [])) (fun t k => XS.istore X3.here hx rfl (hb hby at_34) rfl (l' := #[jv vx, .second, jv wx, .second, iv bx, iv bits, iv (f_first vx bits), iv (f_first vx (31 : Int32)), iv (f_first wx (31 : Int32)), .unset, .unset, .unset, .unset, .unset, .unset]) rfl k) ?_
  refine Wk.go (A' := T3.setTop (mkF m 37 #[jv vx, .second, jv wx, .second, iv bx, iv bits, iv (f_first vx bits), iv (f_first vx (31 : Int32)), iv (f_first wx (31 : Int32)), .unset, .unset, .unset, .unset, .unset, .unset] [(.long vx)])) (fun t k => XS.lloadN X3.here hx rfl (hb hby at_36) rfl k) ?_
  refine Wk.go (A' := T3.setTop (mkF m 38 #[jv vx, .second, jv wx, .second, iv bx, iv bits, iv (f_first vx bits), iv (f_first vx (31 : Int32)), iv (f_first wx (31 : Int32)), .unset, .unset, .unset, .unset, .unset, .unset] [(.long wx), (.long vx)])) (fun t k => XS.lloadN X3.here hx rfl (hb hby at_37) rfl k) ?_
  refine Wk.go (A' := T3.setTop (mkF m 39 #[jv vx, .second, jv wx, .second, iv bx, iv bits, iv (f_first vx bits), iv (f_first vx (31 : Int32)), iv (f_first wx (31 : Int32)), .unset, .unset, .unset, .unset, .unset, .unset] [(.long (vx + wx))])) (fun t k => XS.ladd X3.here hx rfl (hb hby at_38) rfl k) ?_
  refine Wk.go (A' := T3.setTop (mkF m 41 #[jv vx, .second, jv wx, .second, iv bx, iv bits, iv (f_first vx bits), iv (f_first vx (31 : Int32)), iv (f_first wx (31 : Int32)), .unset, .unset, .unset, .unset, .unset, .unset] [(.int (31 : Int32)), (.long (vx + wx))])) (fun t k => XS.bipush X3.here hx rfl (hb hby at_39) k) ?_
  obtain ⟨_, _, ⟨T4, L4, k4, n4⟩, -, X4, ⟨Lc4, hQ4, l4, y4, z4⟩, st4⟩ := Jvm.LawKit.callS X3 hx (y := (⟨"com/example/bitbraid/bitbraid/NumberTable", "firstPlace", "(JI)I"⟩ : MethodName)) hown (mvT hZ (tw1 hw)) (mvT hZ (tw2 hw)) (mvT hZ (tw3 hw)) (mvT hZ (tw4 hw)) (by decide) (backOf (W := 0) (rm1 l Z a0 hw [] (vx + wx) (31 : Int32)  h0 n0 Z0 ) hZ (tw4 hw) (tw3 hw) (by decide) (by decide)) (g := (mkF m 41 #[jv vx, .second, jv wx, .second, iv bx, iv bits, iv (f_first vx bits), iv (f_first vx (31 : Int32)), iv (f_first wx (31 : Int32)), .unset, .unset, .unset, .unset, .unset, .unset] [(.int (31 : Int32)), (.long (vx + wx))])) rfl (by rw [hml]; rfl) (argsL := [(.long (vx + wx)), (.int (31 : Int32))]) (rest := []) (lenOf pd_0 rfl) rfl (by show 2 * 0 + _ ≤ _; exact Nat.le_of_eq rfl) (hb hby at_41) (fun _ _ => ⟨rfl, (hE3), (by decide : 0 + 0 ≤ _), (by decide : 0 + 0 ≤ _)⟩)
  dsimp only [Pt.U, Pt.locs, Pt.cells, Pt.slots] at X4 l4 y4 z4 st4 hQ4
  subst l4 y4 z4
  obtain ⟨rfl, N4q, hE4⟩ := hQ4
  have N4 := Fr.app N3 N4q
  refine Wk.go (A' := T4.setTop (mkF m 44 #[jv vx, .second, jv wx, .second, iv bx, iv bits, iv (f_first vx bits), iv (f_first vx (31 : Int32)), iv (f_first wx (31 : Int32)), .unset, .unset, .unset, .unset, .unset, .unset] [(.int (f_first (vx + wx) (31 : Int32)))])) (fun t k => st4 t k) ?_
  refine Wk.go (A' := T4.setTop (mkF m 46 #[jv vx, .second, jv wx, .second, iv bx, iv bits, iv (f_first vx bits), iv (f_first vx (31 : Int32)), iv (f_first wx (31 : Int32)), iv (f_first (vx + wx) (31 : Int32)), .unset, .unset, .unset, .unset, .unset] [])) (fun t k => XS.istore X4.here hx rfl (hb hby at_44) rfl (l' := #[jv vx, .second, jv wx, .second, iv bx, iv bits, iv (f_first vx bits), iv (f_first vx (31 : Int32)), iv (f_first wx (31 : Int32)), iv (f_first (vx + wx) (31 : Int32)), .unset, .unset, .unset, .unset, .unset]) rfl k) ?_
  refine Wk.go (A' := T4.setTop (mkF m 48 #[jv vx, .second, jv wx, .second, iv bx, iv bits, iv (f_first vx bits), iv (f_first vx (31 : Int32)), iv (f_first wx (31 : Int32)), iv (f_first (vx + wx) (31 : Int32)), .unset, .unset, .unset, .unset, .unset] [(.int (f_first vx bits))])) (fun t k => XS.iload X4.here hx rfl (hb hby at_46) rfl k) ?_
  have hc48 : ¬ ((f_first vx bits) < (0 : Int32)) := LA1
  refine Wk.go (A' := T4.setTop (mkF m 51 #[jv vx, .second, jv wx, .second, iv bx, iv bits, iv (f_first vx bits), iv (f_first vx (31 : Int32)), iv (f_first wx (31 : Int32)), iv (f_first (vx + wx) (31 : Int32)), .unset, .unset, .unset, .unset, .unset] [])) (fun t k => XS.ifNo X4.here hx rfl (hb hby at_48) rfl ((if0 _ _).trans (flt hc48).1) k) ?_
  refine Wk.go (A' := T4.setTop (mkF m 53 #[jv vx, .second, jv wx, .second, iv bx, iv bits, iv (f_first vx bits), iv (f_first vx (31 : Int32)), iv (f_first wx (31 : Int32)), iv (f_first (vx + wx) (31 : Int32)), .unset, .unset, .unset, .unset, .unset] [(.int (f_first vx bits))])) (fun t k => XS.iload X4.here hx rfl (hb hby at_51) rfl k) ?_
  refine Wk.go (A' := T4.setTop (mkF m 54 #[jv vx, .second, jv wx, .second, iv bx, iv bits, iv (f_first vx bits), iv (f_first vx (31 : Int32)), iv (f_first wx (31 : Int32)), iv (f_first (vx + wx) (31 : Int32)), .unset, .unset, .unset, .unset, .unset] [(.long ((f_first vx bits).toInt64))])) (fun t k => XS.i2l X4.here hx rfl (hb hby at_53) rfl k) ?_
  refine Wk.go (A' := T4.setTop (mkF m 55 #[jv vx, .second, jv wx, .second, iv bx, iv bits, iv (f_first vx bits), iv (f_first vx (31 : Int32)), iv (f_first wx (31 : Int32)), iv (f_first (vx + wx) (31 : Int32)), .unset, .unset, .unset, .unset, .unset] [(.long (1 : Int64)), (.long ((f_first vx bits).toInt64))])) (fun t k => XS.lconst X4.here hx rfl (hb hby at_54) k) ?_
  refine Wk.go (A' := T4.setTop (mkF m 57 #[jv vx, .second, jv wx, .second, iv bx, iv bits, iv (f_first vx bits), iv (f_first vx (31 : Int32)), iv (f_first wx (31 : Int32)), iv (f_first (vx + wx) (31 : Int32)), .unset, .unset, .unset, .unset, .unset] [(.int bits), (.long (1 : Int64)), (.long ((f_first vx bits).toInt64))])) (fun t k => XS.iload X4.here hx rfl (hb hby at_55) rfl k) ?_
  refine Wk.go (A' := T4.setTop (mkF m 58 #[jv vx, .second, jv wx, .second, iv bx, iv bits, iv (f_first vx bits), iv (f_first vx (31 : Int32)), iv (f_first wx (31 : Int32)), iv (f_first (vx + wx) (31 : Int32)), .unset, .unset, .unset, .unset, .unset] [(.long ((1 : Int64) <<< (bits &&& 0x3f).toInt64)), (.long ((f_first vx bits).toInt64))])) (fun t k => XS.lshl X4.here hx rfl (hb hby at_57) rfl k) ?_
  refine Wk.go (A' := T4.setTop (mkF m 59 #[jv vx, .second, jv wx, .second, iv bx, iv bits, iv (f_first vx bits), iv (f_first vx (31 : Int32)), iv (f_first wx (31 : Int32)), iv (f_first (vx + wx) (31 : Int32)), .unset, .unset, .unset, .unset, .unset] [(.int (lcmpW ((f_first vx bits).toInt64) ((1 : Int64) <<< (bits &&& 0x3f).toInt64)))])) (fun t k => XS.lcmp X4.here hx rfl (hb hby at_58) rfl k) ?_
  have hc59 : ((f_first vx bits).toInt64) < ((1 : Int64) <<< (bits &&& 0x3f).toInt64) := LA2
  refine Wk.go (A' := T4.setTop (mkF m 62 #[jv vx, .second, jv wx, .second, iv bx, iv bits, iv (f_first vx bits), iv (f_first vx (31 : Int32)), iv (f_first wx (31 : Int32)), iv (f_first (vx + wx) (31 : Int32)), .unset, .unset, .unset, .unset, .unset] [])) (fun t k => XS.ifNo X4.here hx rfl (hb hby at_59) rfl ((if0 _ _).trans (tlt ((lw_lt _ _).mpr hc59)).2.1) k) ?_
  refine Wk.go (A' := T4.setTop (mkF m 64 #[jv vx, .second, jv wx, .second, iv bx, iv bits, iv (f_first vx bits), iv (f_first vx (31 : Int32)), iv (f_first wx (31 : Int32)), iv (f_first (vx + wx) (31 : Int32)), .unset, .unset, .unset, .unset, .unset] [(.int (f_first vx (31 : Int32)))])) (fun t k => XS.iload X4.here hx rfl (hb hby at_62) rfl k) ?_
  have hc64 : ¬ ((f_first vx (31 : Int32)) < (0 : Int32)) := LA3
  refine Wk.go (A' := T4.setTop (mkF m 67 #[jv vx, .second, jv wx, .second, iv bx, iv bits, iv (f_first vx bits), iv (f_first vx (31 : Int32)), iv (f_first wx (31 : Int32)), iv (f_first (vx + wx) (31 : Int32)), .unset, .unset, .unset, .unset, .unset] [])) (fun t k => XS.ifNo X4.here hx rfl (hb hby at_64) rfl ((if0 _ _).trans (flt hc64).1) k) ?_
  refine Wk.go (A' := T4.setTop (mkF m 69 #[jv vx, .second, jv wx, .second, iv bx, iv bits, iv (f_first vx bits), iv (f_first vx (31 : Int32)), iv (f_first wx (31 : Int32)), iv (f_first (vx + wx) (31 : Int32)), .unset, .unset, .unset, .unset, .unset] [(.int (f_first wx (31 : Int32)))])) (fun t k => XS.iload X4.here hx rfl (hb hby at_67) rfl k) ?_
  have hc69 : ¬ ((f_first wx (31 : Int32)) < (0 : Int32)) := LA4
  refine Wk.go (A' := T4.setTop (mkF m 72 #[jv vx, .second, jv wx, .second, iv bx, iv bits, iv (f_first vx bits), iv (f_first vx (31 : Int32)), iv (f_first wx (31 : Int32)), iv (f_first (vx + wx) (31 : Int32)), .unset, .unset, .unset, .unset, .unset] [])) (fun t k => XS.ifNo X4.here hx rfl (hb hby at_69) rfl ((if0 _ _).trans (flt hc69).1) k) ?_
  refine Wk.go (A' := T4.setTop (mkF m 74 #[jv vx, .second, jv wx, .second, iv bx, iv bits, iv (f_first vx bits), iv (f_first vx (31 : Int32)), iv (f_first wx (31 : Int32)), iv (f_first (vx + wx) (31 : Int32)), .unset, .unset, .unset, .unset, .unset] [(.int (f_first (vx + wx) (31 : Int32)))])) (fun t k => XS.iload X4.here hx rfl (hb hby at_72) rfl k) ?_
  have hc74 : ¬ ((f_first (vx + wx) (31 : Int32)) < (0 : Int32)) := LA5
  refine Wk.go (A' := T4.setTop (mkF m 77 #[jv vx, .second, jv wx, .second, iv bx, iv bits, iv (f_first vx bits), iv (f_first vx (31 : Int32)), iv (f_first wx (31 : Int32)), iv (f_first (vx + wx) (31 : Int32)), .unset, .unset, .unset, .unset, .unset] [])) (fun t k => XS.ifNo X4.here hx rfl (hb hby at_74) rfl ((if0 _ _).trans (flt hc74).1) k) ?_
  refine Wk.go (A' := T4.setTop (mkF m 78 #[jv vx, .second, jv wx, .second, iv bx, iv bits, iv (f_first vx bits), iv (f_first vx (31 : Int32)), iv (f_first wx (31 : Int32)), iv (f_first (vx + wx) (31 : Int32)), .unset, .unset, .unset, .unset, .unset] [(.int (1 : Int32))])) (fun t k => XS.iconst X4.here hx rfl (hb hby at_77) k) ?_
  refine Wk.go (A' := T4.setTop (mkF m 82 #[jv vx, .second, jv wx, .second, iv bx, iv bits, iv (f_first vx bits), iv (f_first vx (31 : Int32)), iv (f_first wx (31 : Int32)), iv (f_first (vx + wx) (31 : Int32)), .unset, .unset, .unset, .unset, .unset] [(.int (1 : Int32))])) (fun t k => XS.goto X4.here hx rfl (pc0 := 78) (pc' := 82) rfl (hb hby at_78) (by decide) (by decide) k) ?_
  refine Wk.go (A' := T4.setTop (mkF m 84 #[jv vx, .second, jv wx, .second, iv bx, iv bits, iv (f_first vx bits), iv (f_first vx (31 : Int32)), iv (f_first wx (31 : Int32)), iv (f_first (vx + wx) (31 : Int32)), iv (1 : Int32), .unset, .unset, .unset, .unset] [])) (fun t k => XS.istore X4.here hx rfl (hb hby at_82) rfl (l' := #[jv vx, .second, jv wx, .second, iv bx, iv bits, iv (f_first vx bits), iv (f_first vx (31 : Int32)), iv (f_first wx (31 : Int32)), iv (f_first (vx + wx) (31 : Int32)), iv (1 : Int32), .unset, .unset, .unset, .unset]) rfl k) ?_
  refine Wk.go (A' := T4.setTop (mkF m 86 #[jv vx, .second, jv wx, .second, iv bx, iv bits, iv (f_first vx bits), iv (f_first vx (31 : Int32)), iv (f_first wx (31 : Int32)), iv (f_first (vx + wx) (31 : Int32)), iv (1 : Int32), .unset, .unset, .unset, .unset] [(.int (f_first vx bits))])) (fun t k => XS.iload X4.here hx rfl (hb hby at_84) rfl k) ?_
  refine Wk.go (A' := T4.setTop (mkF m 88 #[jv vx, .second, jv wx, .second, iv bx, iv bits, iv (f_first vx bits), iv (f_first vx (31 : Int32)), iv (f_first wx (31 : Int32)), iv (f_first (vx + wx) (31 : Int32)), iv (1 : Int32), .unset, .unset, .unset, .unset] [(.int (f_first vx (31 : Int32))), (.int (f_first vx bits))])) (fun t k => XS.iload X4.here hx rfl (hb hby at_86) rfl k) ?_
  refine Wk.go (A' := T4.setTop (mkF m 90 #[jv vx, .second, jv wx, .second, iv bx, iv bits, iv (f_first vx bits), iv (f_first vx (31 : Int32)), iv (f_first wx (31 : Int32)), iv (f_first (vx + wx) (31 : Int32)), iv (1 : Int32), .unset, .unset, .unset, .unset] [(.int (31 : Int32)), (.int (f_first vx (31 : Int32))), (.int (f_first vx bits))])) (fun t k => XS.bipush X4.here hx rfl (hb hby at_88) k) ?_
  refine Wk.go (A' := T4.setTop (mkF m 92 #[jv vx, .second, jv wx, .second, iv bx, iv bits, iv (f_first vx bits), iv (f_first vx (31 : Int32)), iv (f_first wx (31 : Int32)), iv (f_first (vx + wx) (31 : Int32)), iv (1 : Int32), .unset, .unset, .unset, .unset] [(.int bits), (.int (31 : Int32)), (.int (f_first vx (31 : Int32))), (.int (f_first vx bits))])) (fun t k => XS.iload X4.here hx rfl (hb hby at_90) rfl k) ?_
  refine Wk.go (A' := T4.setTop (mkF m 93 #[jv vx, .second, jv wx, .second, iv bx, iv bits, iv (f_first vx bits), iv (f_first vx (31 : Int32)), iv (f_first wx (31 : Int32)), iv (f_first (vx + wx) (31 : Int32)), iv (1 : Int32), .unset, .unset, .unset, .unset] [(.int ((31 : Int32) - bits)), (.int (f_first vx (31 : Int32))), (.int (f_first vx bits))])) (fun t k => XS.isub X4.here hx rfl (hb hby at_92) rfl k) ?_
  refine Wk.go (A' := T4.setTop (mkF m 94 #[jv vx, .second, jv wx, .second, iv bx, iv bits, iv (f_first vx bits), iv (f_first vx (31 : Int32)), iv (f_first wx (31 : Int32)), iv (f_first (vx + wx) (31 : Int32)), iv (1 : Int32), .unset, .unset, .unset, .unset] [(.int (((f_first vx (31 : Int32)).toUInt32 >>> (((31 : Int32) - bits) &&& 31).toUInt32).toInt32)), (.int (f_first vx bits))])) (fun t k => XS.iushr X4.here hx rfl (hb hby at_93) rfl k) ?_
  have hc94 : (f_first vx bits) = (((f_first vx (31 : Int32)).toUInt32 >>> (((31 : Int32) - bits) &&& 31).toUInt32).toInt32) := LA6
  refine Wk.go (A' := T4.setTop (mkF m 97 #[jv vx, .second, jv wx, .second, iv bx, iv bits, iv (f_first vx bits), iv (f_first vx (31 : Int32)), iv (f_first wx (31 : Int32)), iv (f_first (vx + wx) (31 : Int32)), iv (1 : Int32), .unset, .unset, .unset, .unset] [])) (fun t k => XS.icmpNo X4.here hx rfl (hb hby at_94) rfl (teq hc94).2 k) ?_
  refine Wk.go (A' := T4.setTop (mkF m 98 #[jv vx, .second, jv wx, .second, iv bx, iv bits, iv (f_first vx bits), iv (f_first vx (31 : Int32)), iv (f_first wx (31 : Int32)), iv (f_first (vx + wx) (31 : Int32)), iv (1 : Int32), .unset, .unset, .unset, .unset] [(.int (1 : Int32))])) (fun t k => XS.iconst X4.here hx rfl (hb hby at_97) k) ?_
  refine Wk.go (A' := T4.setTop (mkF m 102 #[jv vx, .second, jv wx, .second, iv bx, iv bits, iv (f_first vx bits), iv (f_first vx (31 : Int32)), iv (f_first wx (31 : Int32)), iv (f_first (vx + wx) (31 : Int32)), iv (1 : Int32), .unset, .unset, .unset, .unset] [(.int (1 : Int32))])) (fun t k => XS.goto X4.here hx rfl (pc0 := 98) (pc' := 102) rfl (hb hby at_98) (by decide) (by decide) k) ?_
  refine Wk.go (A' := T4.setTop (mkF m 104 #[jv vx, .second, jv wx, .second, iv bx, iv bits, iv (f_first vx bits), iv (f_first vx (31 : Int32)), iv (f_first wx (31 : Int32)), iv (f_first (vx + wx) (31 : Int32)), iv (1 : Int32), iv (1 : Int32), .unset, .unset, .unset] [])) (fun t k => XS.istore X4.here hx rfl (hb hby at_102) rfl (l' := #[jv vx, .second, jv wx, .second, iv bx, iv bits, iv (f_first vx bits), iv (f_first vx (31 : Int32)), iv (f_first wx (31 : Int32)), iv (f_first (vx + wx) (31 : Int32)), iv (1 : Int32), iv (1 : Int32), .unset, .unset, .unset]) rfl k) ?_
  refine Wk.go (A' := T4.setTop (mkF m 106 #[jv vx, .second, jv wx, .second, iv bx, iv bits, iv (f_first vx bits), iv (f_first vx (31 : Int32)), iv (f_first wx (31 : Int32)), iv (f_first (vx + wx) (31 : Int32)), iv (1 : Int32), iv (1 : Int32), .unset, .unset, .unset] [(.int (f_first (vx + wx) (31 : Int32)))])) (fun t k => XS.iload X4.here hx rfl (hb hby at_104) rfl k) ?_
  refine Wk.go (A' := T4.setTop (mkF m 108 #[jv vx, .second, jv wx, .second, iv bx, iv bits, iv (f_first vx bits), iv (f_first vx (31 : Int32)), iv (f_first wx (31 : Int32)), iv (f_first (vx + wx) (31 : Int32)), iv (1 : Int32), iv (1 : Int32), .unset, .unset, .unset] [(.int (f_first vx (31 : Int32))), (.int (f_first (vx + wx) (31 : Int32)))])) (fun t k => XS.iload X4.here hx rfl (hb hby at_106) rfl k) ?_
  refine Wk.go (A' := T4.setTop (mkF m 109 #[jv vx, .second, jv wx, .second, iv bx, iv bits, iv (f_first vx bits), iv (f_first vx (31 : Int32)), iv (f_first wx (31 : Int32)), iv (f_first (vx + wx) (31 : Int32)), iv (1 : Int32), iv (1 : Int32), .unset, .unset, .unset] [(.int ((f_first (vx + wx) (31 : Int32)) - (f_first vx (31 : Int32))))])) (fun t k => XS.isub X4.here hx rfl (hb hby at_108) rfl k) ?_
  refine Wk.go (A' := T4.setTop (mkF m 111 #[jv vx, .second, jv wx, .second, iv bx, iv bits, iv (f_first vx bits), iv (f_first vx (31 : Int32)), iv (f_first wx (31 : Int32)), iv (f_first (vx + wx) (31 : Int32)), iv (1 : Int32), iv (1 : Int32), .unset, .unset, .unset] [(.int (f_first wx (31 : Int32))), (.int ((f_first (vx + wx) (31 : Int32)) - (f_first vx (31 : Int32))))])) (fun t k => XS.iload X4.here hx rfl (hb hby at_109) rfl k) ?_
  refine Wk.go (A' := T4.setTop (mkF m 112 #[jv vx, .second, jv wx, .second, iv bx, iv bits, iv (f_first vx bits), iv (f_first vx (31 : Int32)), iv (f_first wx (31 : Int32)), iv (f_first (vx + wx) (31 : Int32)), iv (1 : Int32), iv (1 : Int32), .unset, .unset, .unset] [(.int (((f_first (vx + wx) (31 : Int32)) - (f_first vx (31 : Int32))) - (f_first wx (31 : Int32))))])) (fun t k => XS.isub X4.here hx rfl (hb hby at_111) rfl k) ?_
  refine Wk.go (A' := T4.setTop (mkF m 114 #[jv vx, .second, jv wx, .second, iv bx, iv bits, iv (f_first vx bits), iv (f_first vx (31 : Int32)), iv (f_first wx (31 : Int32)), iv (f_first (vx + wx) (31 : Int32)), iv (1 : Int32), iv (1 : Int32), .unset, .unset, .unset] [(.int (2147483647 : Int32)), (.int (((f_first (vx + wx) (31 : Int32)) - (f_first vx (31 : Int32))) - (f_first wx (31 : Int32))))])) (fun t k => X4.ldcInt hx hown (mvT hZ (tw0 hw)) (g := (mkF m 112 #[jv vx, .second, jv wx, .second, iv bx, iv bits, iv (f_first vx bits), iv (f_first vx (31 : Int32)), iv (f_first wx (31 : Int32)), iv (f_first (vx + wx) (31 : Int32)), iv (1 : Int32), iv (1 : Int32), .unset, .unset, .unset] [(.int (((f_first (vx + wx) (31 : Int32)) - (f_first vx (31 : Int32))) - (f_first wx (31 : Int32))))])) rfl (hb hby at_112) t k) ?_
  refine Wk.go (A' := T4.setTop (mkF m 115 #[jv vx, .second, jv wx, .second, iv bx, iv bits, iv (f_first vx bits), iv (f_first vx (31 : Int32)), iv (f_first wx (31 : Int32)), iv (f_first (vx + wx) (31 : Int32)), iv (1 : Int32), iv (1 : Int32), .unset, .unset, .unset] [(.int ((((f_first (vx + wx) (31 : Int32)) - (f_first vx (31 : Int32))) - (f_first wx (31 : Int32))) &&& (2147483647 : Int32)))])) (fun t k => XS.iand X4.here hx rfl (hb hby at_114) rfl k) ?_
  refine Wk.go (A' := T4.setTop (mkF m 117 #[jv vx, .second, jv wx, .second, iv bx, iv bits, iv (f_first vx bits), iv (f_first vx (31 : Int32)), iv (f_first wx (31 : Int32)), iv (f_first (vx + wx) (31 : Int32)), iv (1 : Int32), iv (1 : Int32), iv ((((f_first (vx + wx) (31 : Int32)) - (f_first vx (31 : Int32))) - (f_first wx (31 : Int32))) &&& (2147483647 : Int32)), .unset, .unset] [])) (fun t k => XS.istore X4.here hx rfl (hb hby at_115) rfl (l' := #[jv vx, .second, jv wx, .second, iv bx, iv bits, iv (f_first vx bits), iv (f_first vx (31 : Int32)), iv (f_first wx (31 : Int32)), iv (f_first (vx + wx) (31 : Int32)), iv (1 : Int32), iv (1 : Int32), iv ((((f_first (vx + wx) (31 : Int32)) - (f_first vx (31 : Int32))) - (f_first wx (31 : Int32))) &&& (2147483647 : Int32)), .unset, .unset]) rfl k) ?_
  refine Wk.go (A' := T4.setTop (mkF m 119 #[jv vx, .second, jv wx, .second, iv bx, iv bits, iv (f_first vx bits), iv (f_first vx (31 : Int32)), iv (f_first wx (31 : Int32)), iv (f_first (vx + wx) (31 : Int32)), iv (1 : Int32), iv (1 : Int32), iv ((((f_first (vx + wx) (31 : Int32)) - (f_first vx (31 : Int32))) - (f_first wx (31 : Int32))) &&& (2147483647 : Int32)), .unset, .unset] [(.int ((((f_first (vx + wx) (31 : Int32)) - (f_first vx (31 : Int32))) - (f_first wx (31 : Int32))) &&& (2147483647 : Int32)))])) (fun t k => XS.iload X4.here hx rfl (hb hby at_117) rfl k) ?_
  by_cases hc119 : ((((f_first (vx + wx) (31 : Int32)) - (f_first vx (31 : Int32))) - (f_first wx (31 : Int32))) &&& (2147483647 : Int32)) = (0 : Int32)
  · refine Wk.go (A' := T4.setTop (mkF m 128 #[jv vx, .second, jv wx, .second, iv bx, iv bits, iv (f_first vx bits), iv (f_first vx (31 : Int32)), iv (f_first wx (31 : Int32)), iv (f_first (vx + wx) (31 : Int32)), iv (1 : Int32), iv (1 : Int32), iv ((((f_first (vx + wx) (31 : Int32)) - (f_first vx (31 : Int32))) - (f_first wx (31 : Int32))) &&& (2147483647 : Int32)), .unset, .unset] [])) (fun t k => XS.ifYes X4.here hx rfl (pc0 := 119) (pc' := 128) rfl (hb hby at_119) rfl ((if0 _ _).trans (teq hc119).1) (by decide) (by decide) k) ?_
    refine Wk.go (A' := T4.setTop (mkF m 129 #[jv vx, .second, jv wx, .second, iv bx, iv bits, iv (f_first vx bits), iv (f_first vx (31 : Int32)), iv (f_first wx (31 : Int32)), iv (f_first (vx + wx) (31 : Int32)), iv (1 : Int32), iv (1 : Int32), iv ((((f_first (vx + wx) (31 : Int32)) - (f_first vx (31 : Int32))) - (f_first wx (31 : Int32))) &&& (2147483647 : Int32)), .unset, .unset] [(.int (1 : Int32))])) (fun t k => XS.iconst X4.here hx rfl (hb hby at_128) k) ?_
    refine Wk.go (A' := T4.setTop (mkF m 133 #[jv vx, .second, jv wx, .second, iv bx, iv bits, iv (f_first vx bits), iv (f_first vx (31 : Int32)), iv (f_first wx (31 : Int32)), iv (f_first (vx + wx) (31 : Int32)), iv (1 : Int32), iv (1 : Int32), iv ((((f_first (vx + wx) (31 : Int32)) - (f_first vx (31 : Int32))) - (f_first wx (31 : Int32))) &&& (2147483647 : Int32)), .unset, .unset] [(.int (1 : Int32))])) (fun t k => XS.goto X4.here hx rfl (pc0 := 129) (pc' := 133) rfl (hb hby at_129) (by decide) (by decide) k) ?_
    refine Wk.go (A' := T4.setTop (mkF m 135 #[jv vx, .second, jv wx, .second, iv bx, iv bits, iv (f_first vx bits), iv (f_first vx (31 : Int32)), iv (f_first wx (31 : Int32)), iv (f_first (vx + wx) (31 : Int32)), iv (1 : Int32), iv (1 : Int32), iv ((((f_first (vx + wx) (31 : Int32)) - (f_first vx (31 : Int32))) - (f_first wx (31 : Int32))) &&& (2147483647 : Int32)), iv (1 : Int32), .unset] [])) (fun t k => XS.istore X4.here hx rfl (hb hby at_133) rfl (l' := #[jv vx, .second, jv wx, .second, iv bx, iv bits, iv (f_first vx bits), iv (f_first vx (31 : Int32)), iv (f_first wx (31 : Int32)), iv (f_first (vx + wx) (31 : Int32)), iv (1 : Int32), iv (1 : Int32), iv ((((f_first (vx + wx) (31 : Int32)) - (f_first vx (31 : Int32))) - (f_first wx (31 : Int32))) &&& (2147483647 : Int32)), iv (1 : Int32), .unset]) rfl k) ?_
    refine Wk.go (A' := T4.setTop (mkF m 136 #[jv vx, .second, jv wx, .second, iv bx, iv bits, iv (f_first vx bits), iv (f_first vx (31 : Int32)), iv (f_first wx (31 : Int32)), iv (f_first (vx + wx) (31 : Int32)), iv (1 : Int32), iv (1 : Int32), iv ((((f_first (vx + wx) (31 : Int32)) - (f_first vx (31 : Int32))) - (f_first wx (31 : Int32))) &&& (2147483647 : Int32)), iv (1 : Int32), .unset] [(.long (1 : Int64))])) (fun t k => XS.lconst X4.here hx rfl (hb hby at_135) k) ?_
    refine Wk.go (A' := T4.setTop (mkF m 138 #[jv vx, .second, jv wx, .second, iv bx, iv bits, iv (f_first vx bits), iv (f_first vx (31 : Int32)), iv (f_first wx (31 : Int32)), iv (f_first (vx + wx) (31 : Int32)), iv (1 : Int32), iv (1 : Int32), iv ((((f_first (vx + wx) (31 : Int32)) - (f_first vx (31 : Int32))) - (f_first wx (31 : Int32))) &&& (2147483647 : Int32)), iv (1 : Int32), .unset] [(.int (31 : Int32)), (.long (1 : Int64))])) (fun t k => XS.bipush X4.here hx rfl (hb hby at_136) k) ?_
    obtain ⟨_, _, ⟨T5, L5, k5, n5⟩, -, X5, ⟨Lc5, hQ5, l5, y5, z5⟩, st5⟩ := Jvm.LawKit.callS X4 hx (y := (⟨"com/example/bitbraid/bitbraid/NumberTable", "firstPlace", "(JI)I"⟩ : MethodName)) hown (mvT hZ (tw1 hw)) (mvT hZ (tw2 hw)) (mvT hZ (tw3 hw)) (mvT hZ (tw4 hw)) (by decide) (backOf (W := 0) (rm1 l Z a0 hw [] (1 : Int64) (31 : Int32)  h0 n0 Z0 ) hZ (tw4 hw) (tw3 hw) (by decide) (by decide)) (g := (mkF m 138 #[jv vx, .second, jv wx, .second, iv bx, iv bits, iv (f_first vx bits), iv (f_first vx (31 : Int32)), iv (f_first wx (31 : Int32)), iv (f_first (vx + wx) (31 : Int32)), iv (1 : Int32), iv (1 : Int32), iv ((((f_first (vx + wx) (31 : Int32)) - (f_first vx (31 : Int32))) - (f_first wx (31 : Int32))) &&& (2147483647 : Int32)), iv (1 : Int32), .unset] [(.int (31 : Int32)), (.long (1 : Int64))])) rfl (by rw [hml]; rfl) (argsL := [(.long (1 : Int64)), (.int (31 : Int32))]) (rest := []) (lenOf pd_0 rfl) rfl (by show 2 * 0 + _ ≤ _; exact Nat.le_of_eq rfl) (hb hby at_138) (fun _ _ => ⟨rfl, (hE4), (by decide : 0 + 0 ≤ _), (by decide : 0 + 0 ≤ _)⟩)
    dsimp only [Pt.U, Pt.locs, Pt.cells, Pt.slots] at X5 l5 y5 z5 st5 hQ5
    subst l5 y5 z5
    obtain ⟨rfl, N5q, hE5⟩ := hQ5
    have N5 := Fr.app N4 N5q
    refine Wk.go (A' := T5.setTop (mkF m 141 #[jv vx, .second, jv wx, .second, iv bx, iv bits, iv (f_first vx bits), iv (f_first vx (31 : Int32)), iv (f_first wx (31 : Int32)), iv (f_first (vx + wx) (31 : Int32)), iv (1 : Int32), iv (1 : Int32), iv ((((f_first (vx + wx) (31 : Int32)) - (f_first vx (31 : Int32))) - (f_first wx (31 : Int32))) &&& (2147483647 : Int32)), iv (1 : Int32), .unset] [(.int (f_first (1 : Int64) (31 : Int32)))])) (fun t k => st5 t k) ?_
    refine Wk.go (A' := T5.setTop (mkF m 143 #[jv vx, .second, jv wx, .second, iv bx, iv bits, iv (f_first vx bits), iv (f_first vx (31 : Int32)), iv (f_first wx (31 : Int32)), iv (f_first (vx + wx) (31 : Int32)), iv (1 : Int32), iv (1 : Int32), iv ((((f_first (vx + wx) (31 : Int32)) - (f_first vx (31 : Int32))) - (f_first wx (31 : Int32))) &&& (2147483647 : Int32)), iv (1 : Int32), .unset] [(.int (1327217884 : Int32)), (.int (f_first (1 : Int64) (31 : Int32)))])) (fun t k => X5.ldcInt hx hown (mvT hZ (tw6 hw)) (g := (mkF m 141 #[jv vx, .second, jv wx, .second, iv bx, iv bits, iv (f_first vx bits), iv (f_first vx (31 : Int32)), iv (f_first wx (31 : Int32)), iv (f_first (vx + wx) (31 : Int32)), iv (1 : Int32), iv (1 : Int32), iv ((((f_first (vx + wx) (31 : Int32)) - (f_first vx (31 : Int32))) - (f_first wx (31 : Int32))) &&& (2147483647 : Int32)), iv (1 : Int32), .unset] [(.int (f_first (1 : Int64) (31 : Int32)))])) rfl (hb hby at_141) t k) ?_
    have hc143 : (f_first (1 : Int64) (31 : Int32)) = (1327217884 : Int32) := by decide +kernel
    refine Wk.go (A' := T5.setTop (mkF m 146 #[jv vx, .second, jv wx, .second, iv bx, iv bits, iv (f_first vx bits), iv (f_first vx (31 : Int32)), iv (f_first wx (31 : Int32)), iv (f_first (vx + wx) (31 : Int32)), iv (1 : Int32), iv (1 : Int32), iv ((((f_first (vx + wx) (31 : Int32)) - (f_first vx (31 : Int32))) - (f_first wx (31 : Int32))) &&& (2147483647 : Int32)), iv (1 : Int32), .unset] [])) (fun t k => XS.icmpNo X5.here hx rfl (hb hby at_143) rfl (teq hc143).2 k) ?_
    refine Wk.go (A' := T5.setTop (mkF m 149 #[jv vx, .second, jv wx, .second, iv bx, iv bits, iv (f_first vx bits), iv (f_first vx (31 : Int32)), iv (f_first wx (31 : Int32)), iv (f_first (vx + wx) (31 : Int32)), iv (1 : Int32), iv (1 : Int32), iv ((((f_first (vx + wx) (31 : Int32)) - (f_first vx (31 : Int32))) - (f_first wx (31 : Int32))) &&& (2147483647 : Int32)), iv (1 : Int32), .unset] [(.long (8 : Int64))])) (fun t k => X5.ldc2Long hx hown (mvT hZ (tw7 hw)) (g := (mkF m 146 #[jv vx, .second, jv wx, .second, iv bx, iv bits, iv (f_first vx bits), iv (f_first vx (31 : Int32)), iv (f_first wx (31 : Int32)), iv (f_first (vx + wx) (31 : Int32)), iv (1 : Int32), iv (1 : Int32), iv ((((f_first (vx + wx) (31 : Int32)) - (f_first vx (31 : Int32))) - (f_first wx (31 : Int32))) &&& (2147483647 : Int32)), iv (1 : Int32), .unset] [])) rfl (hb hby at_146) t k) ?_
    refine Wk.go (A' := T5.setTop (mkF m 151 #[jv vx, .second, jv wx, .second, iv bx, iv bits, iv (f_first vx bits), iv (f_first vx (31 : Int32)), iv (f_first wx (31 : Int32)), iv (f_first (vx + wx) (31 : Int32)), iv (1 : Int32), iv (1 : Int32), iv ((((f_first (vx + wx) (31 : Int32)) - (f_first vx (31 : Int32))) - (f_first wx (31 : Int32))) &&& (2147483647 : Int32)), iv (1 : Int32), .unset] [(.int (31 : Int32)), (.long (8 : Int64))])) (fun t k => XS.bipush X5.here hx rfl (hb hby at_149) k) ?_
    obtain ⟨_, _, ⟨T6, L6, k6, n6⟩, -, X6, ⟨Lc6, hQ6, l6, y6, z6⟩, st6⟩ := Jvm.LawKit.callS X5 hx (y := (⟨"com/example/bitbraid/bitbraid/NumberTable", "firstPlace", "(JI)I"⟩ : MethodName)) hown (mvT hZ (tw1 hw)) (mvT hZ (tw2 hw)) (mvT hZ (tw3 hw)) (mvT hZ (tw4 hw)) (by decide) (backOf (W := 0) (rm1 l Z a0 hw [] (8 : Int64) (31 : Int32)  h0 n0 Z0 ) hZ (tw4 hw) (tw3 hw) (by decide) (by decide)) (g := (mkF m 151 #[jv vx, .second, jv wx, .second, iv bx, iv bits, iv (f_first vx bits), iv (f_first vx (31 : Int32)), iv (f_first wx (31 : Int32)), iv (f_first (vx + wx) (31 : Int32)), iv (1 : Int32), iv (1 : Int32), iv ((((f_first (vx + wx) (31 : Int32)) - (f_first vx (31 : Int32))) - (f_first wx (31 : Int32))) &&& (2147483647 : Int32)), iv (1 : Int32), .unset] [(.int (31 : Int32)), (.long (8 : Int64))])) rfl (by rw [hml]; rfl) (argsL := [(.long (8 : Int64)), (.int (31 : Int32))]) (rest := []) (lenOf pd_0 rfl) rfl (by show 2 * 0 + _ ≤ _; exact Nat.le_of_eq rfl) (hb hby at_151) (fun _ _ => ⟨rfl, (hE5), (by decide : 0 + 0 ≤ _), (by decide : 0 + 0 ≤ _)⟩)
    dsimp only [Pt.U, Pt.locs, Pt.cells, Pt.slots] at X6 l6 y6 z6 st6 hQ6
    subst l6 y6 z6
    obtain ⟨rfl, N6q, hE6⟩ := hQ6
    have N6 := Fr.app N5 N6q
    refine Wk.go (A' := T6.setTop (mkF m 154 #[jv vx, .second, jv wx, .second, iv bx, iv bits, iv (f_first vx bits), iv (f_first vx (31 : Int32)), iv (f_first wx (31 : Int32)), iv (f_first (vx + wx) (31 : Int32)), iv (1 : Int32), iv (1 : Int32), iv ((((f_first (vx + wx) (31 : Int32)) - (f_first vx (31 : Int32))) - (f_first wx (31 : Int32))) &&& (2147483647 : Int32)), iv (1 : Int32), .unset] [(.int (f_first (8 : Int64) (31 : Int32)))])) (fun t k => st6 t k) ?_
    refine Wk.go (A' := T6.setTop (mkF m 156 #[jv vx, .second, jv wx, .second, iv bx, iv bits, iv (f_first vx bits), iv (f_first vx (31 : Int32)), iv (f_first wx (31 : Int32)), iv (f_first (vx + wx) (31 : Int32)), iv (1 : Int32), iv (1 : Int32), iv ((((f_first (vx + wx) (31 : Int32)) - (f_first vx (31 : Int32))) - (f_first wx (31 : Int32))) &&& (2147483647 : Int32)), iv (1 : Int32), .unset] [(.int (2027808485 : Int32)), (.int (f_first (8 : Int64) (31 : Int32)))])) (fun t k => X6.ldcInt hx hown (mvT hZ (tw8 hw)) (g := (mkF m 154 #[jv vx, .second, jv wx, .second, iv bx, iv bits, iv (f_first vx bits), iv (f_first vx (31 : Int32)), iv (f_first wx (31 : Int32)), iv (f_first (vx + wx) (31 : Int32)), iv (1 : Int32), iv (1 : Int32), iv ((((f_first (vx + wx) (31 : Int32)) - (f_first vx (31 : Int32))) - (f_first wx (31 : Int32))) &&& (2147483647 : Int32)), iv (1 : Int32), .unset] [(.int (f_first (8 : Int64) (31 : Int32)))])) rfl (hb hby at_154) t k) ?_
    have hc156 : (f_first (8 : Int64) (31 : Int32)) = (2027808485 : Int32) := by decide +kernel
    refine Wk.go (A' := T6.setTop (mkF m 159 #[jv vx, .second, jv wx, .second, iv bx, iv bits, iv (f_first vx bits), iv (f_first vx (31 : Int32)), iv (f_first wx (31 : Int32)), iv (f_first (vx + wx) (31 : Int32)), iv (1 : Int32), iv (1 : Int32), iv ((((f_first (vx + wx) (31 : Int32)) - (f_first vx (31 : Int32))) - (f_first wx (31 : Int32))) &&& (2147483647 : Int32)), iv (1 : Int32), .unset] [])) (fun t k => XS.icmpNo X6.here hx rfl (hb hby at_156) rfl (teq hc156).2 k) ?_
    refine Wk.go (A' := T6.setTop (mkF m 162 #[jv vx, .second, jv wx, .second, iv bx, iv bits, iv (f_first vx bits), iv (f_first vx (31 : Int32)), iv (f_first wx (31 : Int32)), iv (f_first (vx + wx) (31 : Int32)), iv (1 : Int32), iv (1 : Int32), iv ((((f_first (vx + wx) (31 : Int32)) - (f_first vx (31 : Int32))) - (f_first wx (31 : Int32))) &&& (2147483647 : Int32)), iv (1 : Int32), .unset] [(.long (8589934592 : Int64))])) (fun t k => X6.ldc2Long hx hown (mvT hZ (tw9 hw)) (g := (mkF m 159 #[jv vx, .second, jv wx, .second, iv bx, iv bits, iv (f_first vx bits), iv (f_first vx (31 : Int32)), iv (f_first wx (31 : Int32)), iv (f_first (vx + wx) (31 : Int32)), iv (1 : Int32), iv (1 : Int32), iv ((((f_first (vx + wx) (31 : Int32)) - (f_first vx (31 : Int32))) - (f_first wx (31 : Int32))) &&& (2147483647 : Int32)), iv (1 : Int32), .unset] [])) rfl (hb hby at_159) t k) ?_
    refine Wk.go (A' := T6.setTop (mkF m 164 #[jv vx, .second, jv wx, .second, iv bx, iv bits, iv (f_first vx bits), iv (f_first vx (31 : Int32)), iv (f_first wx (31 : Int32)), iv (f_first (vx + wx) (31 : Int32)), iv (1 : Int32), iv (1 : Int32), iv ((((f_first (vx + wx) (31 : Int32)) - (f_first vx (31 : Int32))) - (f_first wx (31 : Int32))) &&& (2147483647 : Int32)), iv (1 : Int32), .unset] [(.int (31 : Int32)), (.long (8589934592 : Int64))])) (fun t k => XS.bipush X6.here hx rfl (hb hby at_162) k) ?_
    obtain ⟨_, _, ⟨T7, L7, k7, n7⟩, -, X7, ⟨Lc7, hQ7, l7, y7, z7⟩, st7⟩ := Jvm.LawKit.callS X6 hx (y := (⟨"com/example/bitbraid/bitbraid/NumberTable", "firstPlace", "(JI)I"⟩ : MethodName)) hown (mvT hZ (tw1 hw)) (mvT hZ (tw2 hw)) (mvT hZ (tw3 hw)) (mvT hZ (tw4 hw)) (by decide) (backOf (W := 0) (rm1 l Z a0 hw [] (8589934592 : Int64) (31 : Int32)  h0 n0 Z0 ) hZ (tw4 hw) (tw3 hw) (by decide) (by decide)) (g := (mkF m 164 #[jv vx, .second, jv wx, .second, iv bx, iv bits, iv (f_first vx bits), iv (f_first vx (31 : Int32)), iv (f_first wx (31 : Int32)), iv (f_first (vx + wx) (31 : Int32)), iv (1 : Int32), iv (1 : Int32), iv ((((f_first (vx + wx) (31 : Int32)) - (f_first vx (31 : Int32))) - (f_first wx (31 : Int32))) &&& (2147483647 : Int32)), iv (1 : Int32), .unset] [(.int (31 : Int32)), (.long (8589934592 : Int64))])) rfl (by rw [hml]; rfl) (argsL := [(.long (8589934592 : Int64)), (.int (31 : Int32))]) (rest := []) (lenOf pd_0 rfl) rfl (by show 2 * 0 + _ ≤ _; exact Nat.le_of_eq rfl) (hb hby at_164) (fun _ _ => ⟨rfl, (hE6), (by decide : 0 + 0 ≤ _), (by decide : 0 + 0 ≤ _)⟩)
    dsimp only [Pt.U, Pt.locs, Pt.cells, Pt.slots] at X7 l7 y7 z7 st7 hQ7
    subst l7 y7 z7
    obtain ⟨rfl, N7q, hE7⟩ := hQ7
    have N7 := Fr.app N6 N7q
    refine Wk.go (A' := T7.setTop (mkF m 167 #[jv vx, .second, jv wx, .second, iv bx, iv bits, iv (f_first vx bits), iv (f_first vx (31 : Int32)), iv (f_first wx (31 : Int32)), iv (f_first (vx + wx) (31 : Int32)), iv (1 : Int32), iv (1 : Int32), iv ((((f_first (vx + wx) (31 : Int32)) - (f_first vx (31 : Int32))) - (f_first wx (31 : Int32))) &&& (2147483647 : Int32)), iv (1 : Int32), .unset] [(.int (f_first (8589934592 : Int64) (31 : Int32)))])) (fun t k => st7 t k) ?_
    refine Wk.go (A' := T7.setTop (mkF m 169 #[jv vx, .second, jv wx, .second, iv bx, iv bits, iv (f_first vx bits), iv (f_first vx (31 : Int32)), iv (f_first wx (31 : Int32)), iv (f_first (vx + wx) (31 : Int32)), iv (1 : Int32), iv (1 : Int32), iv ((((f_first (vx + wx) (31 : Int32)) - (f_first vx (31 : Int32))) - (f_first wx (31 : Int32))) &&& (2147483647 : Int32)), iv (1 : Int32), .unset] [(.int (2135587861 : Int32)), (.int (f_first (8589934592 : Int64) (31 : Int32)))])) (fun t k => X7.ldcInt hx hown (mvT hZ (tw10 hw)) (g := (mkF m 167 #[jv vx, .second, jv wx, .second, iv bx, iv bits, iv (f_first vx bits), iv (f_first vx (31 : Int32)), iv (f_first wx (31 : Int32)), iv (f_first (vx + wx) (31 : Int32)), iv (1 : Int32), iv (1 : Int32), iv ((((f_first (vx + wx) (31 : Int32)) - (f_first vx (31 : Int32))) - (f_first wx (31 : Int32))) &&& (2147483647 : Int32)), iv (1 : Int32), .unset] [(.int (f_first (8589934592 : Int64) (31 : Int32)))])) rfl (hb hby at_167) t k) ?_
    have hc169 : (f_first (8589934592 : Int64) (31 : Int32)) = (2135587861 : Int32) := by decide +kernel
    refine Wk.go (A' := T7.setTop (mkF m 172 #[jv vx, .second, jv wx, .second, iv bx, iv bits, iv (f_first vx bits), iv (f_first vx (31 : Int32)), iv (f_first wx (31 : Int32)), iv (f_first (vx + wx) (31 : Int32)), iv (1 : Int32), iv (1 : Int32), iv ((((f_first (vx + wx) (31 : Int32)) - (f_first vx (31 : Int32))) - (f_first wx (31 : Int32))) &&& (2147483647 : Int32)), iv (1 : Int32), .unset] [])) (fun t k => XS.icmpNo X7.here hx rfl (hb hby at_169) rfl (teq hc169).2 k) ?_
    refine Wk.go (A' := T7.setTop (mkF m 173 #[jv vx, .second, jv wx, .second, iv bx, iv bits, iv (f_first vx bits), iv (f_first vx (31 : Int32)), iv (f_first wx (31 : Int32)), iv (f_first (vx + wx) (31 : Int32)), iv (1 : Int32), iv (1 : Int32), iv ((((f_first (vx + wx) (31 : Int32)) - (f_first vx (31 : Int32))) - (f_first wx (31 : Int32))) &&& (2147483647 : Int32)), iv (1 : Int32), .unset] [(.int (1 : Int32))])) (fun t k => XS.iconst X7.here hx rfl (hb hby at_172) k) ?_
    refine Wk.go (A' := T7.setTop (mkF m 177 #[jv vx, .second, jv wx, .second, iv bx, iv bits, iv (f_first vx bits), iv (f_first vx (31 : Int32)), iv (f_first wx (31 : Int32)), iv (f_first (vx + wx) (31 : Int32)), iv (1 : Int32), iv (1 : Int32), iv ((((f_first (vx + wx) (31 : Int32)) - (f_first vx (31 : Int32))) - (f_first wx (31 : Int32))) &&& (2147483647 : Int32)), iv (1 : Int32), .unset] [(.int (1 : Int32))])) (fun t k => XS.goto X7.here hx rfl (pc0 := 173) (pc' := 177) rfl (hb hby at_173) (by decide) (by decide) k) ?_
    refine Wk.go (A' := T7.setTop (mkF m 179 #[jv vx, .second, jv wx, .second, iv bx, iv bits, iv (f_first vx bits), iv (f_first vx (31 : Int32)), iv (f_first wx (31 : Int32)), iv (f_first (vx + wx) (31 : Int32)), iv (1 : Int32), iv (1 : Int32), iv ((((f_first (vx + wx) (31 : Int32)) - (f_first vx (31 : Int32))) - (f_first wx (31 : Int32))) &&& (2147483647 : Int32)), iv (1 : Int32), iv (1 : Int32)] [])) (fun t k => XS.istore X7.here hx rfl (hb hby at_177) rfl (l' := #[jv vx, .second, jv wx, .second, iv bx, iv bits, iv (f_first vx bits), iv (f_first vx (31 : Int32)), iv (f_first wx (31 : Int32)), iv (f_first (vx + wx) (31 : Int32)), iv (1 : Int32), iv (1 : Int32), iv ((((f_first (vx + wx) (31 : Int32)) - (f_first vx (31 : Int32))) - (f_first wx (31 : Int32))) &&& (2147483647 : Int32)), iv (1 : Int32), iv (1 : Int32)]) rfl k) ?_
    refine Wk.go (A' := T7.setTop (mkF m 181 #[jv vx, .second, jv wx, .second, iv bx, iv bits, iv (f_first vx bits), iv (f_first vx (31 : Int32)), iv (f_first wx (31 : Int32)), iv (f_first (vx + wx) (31 : Int32)), iv (1 : Int32), iv (1 : Int32), iv ((((f_first (vx + wx) (31 : Int32)) - (f_first vx (31 : Int32))) - (f_first wx (31 : Int32))) &&& (2147483647 : Int32)), iv (1 : Int32), iv (1 : Int32)] [(.int (1 : Int32))])) (fun t k => XS.iload X7.here hx rfl (hb hby at_179) rfl k) ?_
    have hc181 : ¬ ((1 : Int32) = (0 : Int32)) := by decide
    refine Wk.go (A' := T7.setTop (mkF m 184 #[jv vx, .second, jv wx, .second, iv bx, iv bits, iv (f_first vx bits), iv (f_first vx (31 : Int32)), iv (f_first wx (31 : Int32)), iv (f_first (vx + wx) (31 : Int32)), iv (1 : Int32), iv (1 : Int32), iv ((((f_first (vx + wx) (31 : Int32)) - (f_first vx (31 : Int32))) - (f_first wx (31 : Int32))) &&& (2147483647 : Int32)), iv (1 : Int32), iv (1 : Int32)] [])) (fun t k => XS.ifNo X7.here hx rfl (hb hby at_181) rfl ((if0 _ _).trans (feq hc181).1) k) ?_
    refine Wk.go (A' := T7.setTop (mkF m 186 #[jv vx, .second, jv wx, .second, iv bx, iv bits, iv (f_first vx bits), iv (f_first vx (31 : Int32)), iv (f_first wx (31 : Int32)), iv (f_first (vx + wx) (31 : Int32)), iv (1 : Int32), iv (1 : Int32), iv ((((f_first (vx + wx) (31 : Int32)) - (f_first vx (31 : Int32))) - (f_first wx (31 : Int32))) &&& (2147483647 : Int32)), iv (1 : Int32), iv (1 : Int32)] [(.int (1 : Int32))])) (fun t k => XS.iload X7.here hx rfl (hb hby at_184) rfl k) ?_
    have hc186 : ¬ ((1 : Int32) = (0 : Int32)) := by decide
    refine Wk.go (A' := T7.setTop (mkF m 189 #[jv vx, .second, jv wx, .second, iv bx, iv bits, iv (f_first vx bits), iv (f_first vx (31 : Int32)), iv (f_first wx (31 : Int32)), iv (f_first (vx + wx) (31 : Int32)), iv (1 : Int32), iv (1 : Int32), iv ((((f_first (vx + wx) (31 : Int32)) - (f_first vx (31 : Int32))) - (f_first wx (31 : Int32))) &&& (2147483647 : Int32)), iv (1 : Int32), iv (1 : Int32)] [])) (fun t k => XS.ifNo X7.here hx rfl (hb hby at_186) rfl ((if0 _ _).trans (feq hc186).1) k) ?_
    refine Wk.go (A' := T7.setTop (mkF m 191 #[jv vx, .second, jv wx, .second, iv bx, iv bits, iv (f_first vx bits), iv (f_first vx (31 : Int32)), iv (f_first wx (31 : Int32)), iv (f_first (vx + wx) (31 : Int32)), iv (1 : Int32), iv (1 : Int32), iv ((((f_first (vx + wx) (31 : Int32)) - (f_first vx (31 : Int32))) - (f_first wx (31 : Int32))) &&& (2147483647 : Int32)), iv (1 : Int32), iv (1 : Int32)] [(.int (1 : Int32))])) (fun t k => XS.iload X7.here hx rfl (hb hby at_189) rfl k) ?_
    have hc191 : ¬ ((1 : Int32) = (0 : Int32)) := by decide
    refine Wk.go (A' := T7.setTop (mkF m 194 #[jv vx, .second, jv wx, .second, iv bx, iv bits, iv (f_first vx bits), iv (f_first vx (31 : Int32)), iv (f_first wx (31 : Int32)), iv (f_first (vx + wx) (31 : Int32)), iv (1 : Int32), iv (1 : Int32), iv ((((f_first (vx + wx) (31 : Int32)) - (f_first vx (31 : Int32))) - (f_first wx (31 : Int32))) &&& (2147483647 : Int32)), iv (1 : Int32), iv (1 : Int32)] [])) (fun t k => XS.ifNo X7.here hx rfl (hb hby at_191) rfl ((if0 _ _).trans (feq hc191).1) k) ?_
    refine Wk.go (A' := T7.setTop (mkF m 196 #[jv vx, .second, jv wx, .second, iv bx, iv bits, iv (f_first vx bits), iv (f_first vx (31 : Int32)), iv (f_first wx (31 : Int32)), iv (f_first (vx + wx) (31 : Int32)), iv (1 : Int32), iv (1 : Int32), iv ((((f_first (vx + wx) (31 : Int32)) - (f_first vx (31 : Int32))) - (f_first wx (31 : Int32))) &&& (2147483647 : Int32)), iv (1 : Int32), iv (1 : Int32)] [(.int (1 : Int32))])) (fun t k => XS.iload X7.here hx rfl (hb hby at_194) rfl k) ?_
    have hc196 : ¬ ((1 : Int32) = (0 : Int32)) := by decide
    refine Wk.go (A' := T7.setTop (mkF m 199 #[jv vx, .second, jv wx, .second, iv bx, iv bits, iv (f_first vx bits), iv (f_first vx (31 : Int32)), iv (f_first wx (31 : Int32)), iv (f_first (vx + wx) (31 : Int32)), iv (1 : Int32), iv (1 : Int32), iv ((((f_first (vx + wx) (31 : Int32)) - (f_first vx (31 : Int32))) - (f_first wx (31 : Int32))) &&& (2147483647 : Int32)), iv (1 : Int32), iv (1 : Int32)] [])) (fun t k => XS.ifNo X7.here hx rfl (hb hby at_196) rfl ((if0 _ _).trans (feq hc196).1) k) ?_
    refine Wk.go (A' := T7.setTop (mkF m 200 #[jv vx, .second, jv wx, .second, iv bx, iv bits, iv (f_first vx bits), iv (f_first vx (31 : Int32)), iv (f_first wx (31 : Int32)), iv (f_first (vx + wx) (31 : Int32)), iv (1 : Int32), iv (1 : Int32), iv ((((f_first (vx + wx) (31 : Int32)) - (f_first vx (31 : Int32))) - (f_first wx (31 : Int32))) &&& (2147483647 : Int32)), iv (1 : Int32), iv (1 : Int32)] [(.int (1 : Int32))])) (fun t k => XS.iconst X7.here hx rfl (hb hby at_199) k) ?_
    refine Wk.go (A' := T7.setTop (mkF m 204 #[jv vx, .second, jv wx, .second, iv bx, iv bits, iv (f_first vx bits), iv (f_first vx (31 : Int32)), iv (f_first wx (31 : Int32)), iv (f_first (vx + wx) (31 : Int32)), iv (1 : Int32), iv (1 : Int32), iv ((((f_first (vx + wx) (31 : Int32)) - (f_first vx (31 : Int32))) - (f_first wx (31 : Int32))) &&& (2147483647 : Int32)), iv (1 : Int32), iv (1 : Int32)] [(.int (1 : Int32))])) (fun t k => XS.goto X7.here hx rfl (pc0 := 200) (pc' := 204) rfl (hb hby at_200) (by decide) (by decide) k) ?_
    refine own_fin (Qv := Q0 Z vx wx bx h0 n0) (v := some (.int (1 : Int32))) X7 hlk (fun h => by rw [Bd.returns] at h; cases h) (fun fs hr => retN X7 hx (t := .boolean) Bd.returns (by simp) (hb hby at_204) hr) ?_ (by decide) (by decide)
    exact ⟨rfl, N7⟩
  · refine Wk.go (A' := T4.setTop (mkF m 122 #[jv vx, .second, jv wx, .second, iv bx, iv bits, iv (f_first vx bits), iv (f_first vx (31 : Int32)), iv (f_first wx (31 : Int32)), iv (f_first (vx + wx) (31 : Int32)), iv (1 : Int32), iv (1 : Int32), iv ((((f_first (vx + wx) (31 : Int32)) - (f_first vx (31 : Int32))) - (f_first wx (31 : Int32))) &&& (2147483647 : Int32)), .unset, .unset] [])) (fun t k => XS.ifNo X4.here hx rfl (hb hby at_119) rfl ((if0 _ _).trans (feq hc119).1) k) ?_
    refine Wk.go (A' := T4.setTop (mkF m 124 #[jv vx, .second, jv wx, .second, iv bx, iv bits, iv (f_first vx bits), iv (f_first vx (31 : Int32)), iv (f_first wx (31 : Int32)), iv (f_first (vx + wx) (31 : Int32)), iv (1 : Int32), iv (1 : Int32), iv ((((f_first (vx + wx) (31 : Int32)) - (f_first vx (31 : Int32))) - (f_first wx (31 : Int32))) &&& (2147483647 : Int32)), .unset, .unset] [(.int ((((f_first (vx + wx) (31 : Int32)) - (f_first vx (31 : Int32))) - (f_first wx (31 : Int32))) &&& (2147483647 : Int32)))])) (fun t k => XS.iload X4.here hx rfl (hb hby at_122) rfl k) ?_
    refine Wk.go (A' := T4.setTop (mkF m 125 #[jv vx, .second, jv wx, .second, iv bx, iv bits, iv (f_first vx bits), iv (f_first vx (31 : Int32)), iv (f_first wx (31 : Int32)), iv (f_first (vx + wx) (31 : Int32)), iv (1 : Int32), iv (1 : Int32), iv ((((f_first (vx + wx) (31 : Int32)) - (f_first vx (31 : Int32))) - (f_first wx (31 : Int32))) &&& (2147483647 : Int32)), .unset, .unset] [(.int (1 : Int32)), (.int ((((f_first (vx + wx) (31 : Int32)) - (f_first vx (31 : Int32))) - (f_first wx (31 : Int32))) &&& (2147483647 : Int32)))])) (fun t k => XS.iconst X4.here hx rfl (hb hby at_124) k) ?_
    have hc125 : ((((f_first (vx + wx) (31 : Int32)) - (f_first vx (31 : Int32))) - (f_first wx (31 : Int32))) &&& (2147483647 : Int32)) = (1 : Int32) := LA7.resolve_left hc119
    refine Wk.go (A' := T4.setTop (mkF m 128 #[jv vx, .second, jv wx, .second, iv bx, iv bits, iv (f_first vx bits), iv (f_first vx (31 : Int32)), iv (f_first wx (31 : Int32)), iv (f_first (vx + wx) (31 : Int32)), iv (1 : Int32), iv (1 : Int32), iv ((((f_first (vx + wx) (31 : Int32)) - (f_first vx (31 : Int32))) - (f_first wx (31 : Int32))) &&& (2147483647 : Int32)), .unset, .unset] [])) (fun t k => XS.icmpNo X4.here hx rfl (hb hby at_125) rfl (teq hc125).2 k) ?_
    refine Wk.go (A' := T4.setTop (mkF m 129 #[jv vx, .second, jv wx, .second, iv bx, iv bits, iv (f_first vx bits), iv (f_first vx (31 : Int32)), iv (f_first wx (31 : Int32)), iv (f_first (vx + wx) (31 : Int32)), iv (1 : Int32), iv (1 : Int32), iv ((((f_first (vx + wx) (31 : Int32)) - (f_first vx (31 : Int32))) - (f_first wx (31 : Int32))) &&& (2147483647 : Int32)), .unset, .unset] [(.int (1 : Int32))])) (fun t k => XS.iconst X4.here hx rfl (hb hby at_128) k) ?_
    refine Wk.go (A' := T4.setTop (mkF m 133 #[jv vx, .second, jv wx, .second, iv bx, iv bits, iv (f_first vx bits), iv (f_first vx (31 : Int32)), iv (f_first wx (31 : Int32)), iv (f_first (vx + wx) (31 : Int32)), iv (1 : Int32), iv (1 : Int32), iv ((((f_first (vx + wx) (31 : Int32)) - (f_first vx (31 : Int32))) - (f_first wx (31 : Int32))) &&& (2147483647 : Int32)), .unset, .unset] [(.int (1 : Int32))])) (fun t k => XS.goto X4.here hx rfl (pc0 := 129) (pc' := 133) rfl (hb hby at_129) (by decide) (by decide) k) ?_
    refine Wk.go (A' := T4.setTop (mkF m 135 #[jv vx, .second, jv wx, .second, iv bx, iv bits, iv (f_first vx bits), iv (f_first vx (31 : Int32)), iv (f_first wx (31 : Int32)), iv (f_first (vx + wx) (31 : Int32)), iv (1 : Int32), iv (1 : Int32), iv ((((f_first (vx + wx) (31 : Int32)) - (f_first vx (31 : Int32))) - (f_first wx (31 : Int32))) &&& (2147483647 : Int32)), iv (1 : Int32), .unset] [])) (fun t k => XS.istore X4.here hx rfl (hb hby at_133) rfl (l' := #[jv vx, .second, jv wx, .second, iv bx, iv bits, iv (f_first vx bits), iv (f_first vx (31 : Int32)), iv (f_first wx (31 : Int32)), iv (f_first (vx + wx) (31 : Int32)), iv (1 : Int32), iv (1 : Int32), iv ((((f_first (vx + wx) (31 : Int32)) - (f_first vx (31 : Int32))) - (f_first wx (31 : Int32))) &&& (2147483647 : Int32)), iv (1 : Int32), .unset]) rfl k) ?_
    refine Wk.go (A' := T4.setTop (mkF m 136 #[jv vx, .second, jv wx, .second, iv bx, iv bits, iv (f_first vx bits), iv (f_first vx (31 : Int32)), iv (f_first wx (31 : Int32)), iv (f_first (vx + wx) (31 : Int32)), iv (1 : Int32), iv (1 : Int32), iv ((((f_first (vx + wx) (31 : Int32)) - (f_first vx (31 : Int32))) - (f_first wx (31 : Int32))) &&& (2147483647 : Int32)), iv (1 : Int32), .unset] [(.long (1 : Int64))])) (fun t k => XS.lconst X4.here hx rfl (hb hby at_135) k) ?_
    refine Wk.go (A' := T4.setTop (mkF m 138 #[jv vx, .second, jv wx, .second, iv bx, iv bits, iv (f_first vx bits), iv (f_first vx (31 : Int32)), iv (f_first wx (31 : Int32)), iv (f_first (vx + wx) (31 : Int32)), iv (1 : Int32), iv (1 : Int32), iv ((((f_first (vx + wx) (31 : Int32)) - (f_first vx (31 : Int32))) - (f_first wx (31 : Int32))) &&& (2147483647 : Int32)), iv (1 : Int32), .unset] [(.int (31 : Int32)), (.long (1 : Int64))])) (fun t k => XS.bipush X4.here hx rfl (hb hby at_136) k) ?_
    obtain ⟨_, _, ⟨T8, L8, k8, n8⟩, -, X8, ⟨Lc8, hQ8, l8, y8, z8⟩, st8⟩ := Jvm.LawKit.callS X4 hx (y := (⟨"com/example/bitbraid/bitbraid/NumberTable", "firstPlace", "(JI)I"⟩ : MethodName)) hown (mvT hZ (tw1 hw)) (mvT hZ (tw2 hw)) (mvT hZ (tw3 hw)) (mvT hZ (tw4 hw)) (by decide) (backOf (W := 0) (rm1 l Z a0 hw [] (1 : Int64) (31 : Int32)  h0 n0 Z0 ) hZ (tw4 hw) (tw3 hw) (by decide) (by decide)) (g := (mkF m 138 #[jv vx, .second, jv wx, .second, iv bx, iv bits, iv (f_first vx bits), iv (f_first vx (31 : Int32)), iv (f_first wx (31 : Int32)), iv (f_first (vx + wx) (31 : Int32)), iv (1 : Int32), iv (1 : Int32), iv ((((f_first (vx + wx) (31 : Int32)) - (f_first vx (31 : Int32))) - (f_first wx (31 : Int32))) &&& (2147483647 : Int32)), iv (1 : Int32), .unset] [(.int (31 : Int32)), (.long (1 : Int64))])) rfl (by rw [hml]; rfl) (argsL := [(.long (1 : Int64)), (.int (31 : Int32))]) (rest := []) (lenOf pd_0 rfl) rfl (by show 2 * 0 + _ ≤ _; exact Nat.le_of_eq rfl) (hb hby at_138) (fun _ _ => ⟨rfl, (hE4), (by decide : 0 + 0 ≤ _), (by decide : 0 + 0 ≤ _)⟩)
    dsimp only [Pt.U, Pt.locs, Pt.cells, Pt.slots] at X8 l8 y8 z8 st8 hQ8
    subst l8 y8 z8
    obtain ⟨rfl, N8q, hE8⟩ := hQ8
    have N8 := Fr.app N4 N8q
    refine Wk.go (A' := T8.setTop (mkF m 141 #[jv vx, .second, jv wx, .second, iv bx, iv bits, iv (f_first vx bits), iv (f_first vx (31 : Int32)), iv (f_first wx (31 : Int32)), iv (f_first (vx + wx) (31 : Int32)), iv (1 : Int32), iv (1 : Int32), iv ((((f_first (vx + wx) (31 : Int32)) - (f_first vx (31 : Int32))) - (f_first wx (31 : Int32))) &&& (2147483647 : Int32)), iv (1 : Int32), .unset] [(.int (f_first (1 : Int64) (31 : Int32)))])) (fun t k => st8 t k) ?_
    refine Wk.go (A' := T8.setTop (mkF m 143 #[jv vx, .second, jv wx, .second, iv bx, iv bits, iv (f_first vx bits), iv (f_first vx (31 : Int32)), iv (f_first wx (31 : Int32)), iv (f_first (vx + wx) (31 : Int32)), iv (1 : Int32), iv (1 : Int32), iv ((((f_first (vx + wx) (31 : Int32)) - (f_first vx (31 : Int32))) - (f_first wx (31 : Int32))) &&& (2147483647 : Int32)), iv (1 : Int32), .unset] [(.int (1327217884 : Int32)), (.int (f_first (1 : Int64) (31 : Int32)))])) (fun t k => X8.ldcInt hx hown (mvT hZ (tw6 hw)) (g := (mkF m 141 #[jv vx, .second, jv wx, .second, iv bx, iv bits, iv (f_first vx bits), iv (f_first vx (31 : Int32)), iv (f_first wx (31 : Int32)), iv (f_first (vx + wx) (31 : Int32)), iv (1 : Int32), iv (1 : Int32), iv ((((f_first (vx + wx) (31 : Int32)) - (f_first vx (31 : Int32))) - (f_first wx (31 : Int32))) &&& (2147483647 : Int32)), iv (1 : Int32), .unset] [(.int (f_first (1 : Int64) (31 : Int32)))])) rfl (hb hby at_141) t k) ?_
    have hc143 : (f_first (1 : Int64) (31 : Int32)) = (1327217884 : Int32) := by decide +kernel
    refine Wk.go (A' := T8.setTop (mkF m 146 #[jv vx, .second, jv wx, .second, iv bx, iv bits, iv (f_first vx bits), iv (f_first vx (31 : Int32)), iv (f_first wx (31 : Int32)), iv (f_first (vx + wx) (31 : Int32)), iv (1 : Int32), iv (1 : Int32), iv ((((f_first (vx + wx) (31 : Int32)) - (f_first vx (31 : Int32))) - (f_first wx (31 : Int32))) &&& (2147483647 : Int32)), iv (1 : Int32), .unset] [])) (fun t k => XS.icmpNo X8.here hx rfl (hb hby at_143) rfl (teq hc143).2 k) ?_
    refine Wk.go (A' := T8.setTop (mkF m 149 #[jv vx, .second, jv wx, .second, iv bx, iv bits, iv (f_first vx bits), iv (f_first vx (31 : Int32)), iv (f_first wx (31 : Int32)), iv (f_first (vx + wx) (31 : Int32)), iv (1 : Int32), iv (1 : Int32), iv ((((f_first (vx + wx) (31 : Int32)) - (f_first vx (31 : Int32))) - (f_first wx (31 : Int32))) &&& (2147483647 : Int32)), iv (1 : Int32), .unset] [(.long (8 : Int64))])) (fun t k => X8.ldc2Long hx hown (mvT hZ (tw7 hw)) (g := (mkF m 146 #[jv vx, .second, jv wx, .second, iv bx, iv bits, iv (f_first vx bits), iv (f_first vx (31 : Int32)), iv (f_first wx (31 : Int32)), iv (f_first (vx + wx) (31 : Int32)), iv (1 : Int32), iv (1 : Int32), iv ((((f_first (vx + wx) (31 : Int32)) - (f_first vx (31 : Int32))) - (f_first wx (31 : Int32))) &&& (2147483647 : Int32)), iv (1 : Int32), .unset] [])) rfl (hb hby at_146) t k) ?_
    refine Wk.go (A' := T8.setTop (mkF m 151 #[jv vx, .second, jv wx, .second, iv bx, iv bits, iv (f_first vx bits), iv (f_first vx (31 : Int32)), iv (f_first wx (31 : Int32)), iv (f_first (vx + wx) (31 : Int32)), iv (1 : Int32), iv (1 : Int32), iv ((((f_first (vx + wx) (31 : Int32)) - (f_first vx (31 : Int32))) - (f_first wx (31 : Int32))) &&& (2147483647 : Int32)), iv (1 : Int32), .unset] [(.int (31 : Int32)), (.long (8 : Int64))])) (fun t k => XS.bipush X8.here hx rfl (hb hby at_149) k) ?_
    obtain ⟨_, _, ⟨T9, L9, k9, n9⟩, -, X9, ⟨Lc9, hQ9, l9, y9, z9⟩, st9⟩ := Jvm.LawKit.callS X8 hx (y := (⟨"com/example/bitbraid/bitbraid/NumberTable", "firstPlace", "(JI)I"⟩ : MethodName)) hown (mvT hZ (tw1 hw)) (mvT hZ (tw2 hw)) (mvT hZ (tw3 hw)) (mvT hZ (tw4 hw)) (by decide) (backOf (W := 0) (rm1 l Z a0 hw [] (8 : Int64) (31 : Int32)  h0 n0 Z0 ) hZ (tw4 hw) (tw3 hw) (by decide) (by decide)) (g := (mkF m 151 #[jv vx, .second, jv wx, .second, iv bx, iv bits, iv (f_first vx bits), iv (f_first vx (31 : Int32)), iv (f_first wx (31 : Int32)), iv (f_first (vx + wx) (31 : Int32)), iv (1 : Int32), iv (1 : Int32), iv ((((f_first (vx + wx) (31 : Int32)) - (f_first vx (31 : Int32))) - (f_first wx (31 : Int32))) &&& (2147483647 : Int32)), iv (1 : Int32), .unset] [(.int (31 : Int32)), (.long (8 : Int64))])) rfl (by rw [hml]; rfl) (argsL := [(.long (8 : Int64)), (.int (31 : Int32))]) (rest := []) (lenOf pd_0 rfl) rfl (by show 2 * 0 + _ ≤ _; exact Nat.le_of_eq rfl) (hb hby at_151) (fun _ _ => ⟨rfl, (hE8), (by decide : 0 + 0 ≤ _), (by decide : 0 + 0 ≤ _)⟩)
    dsimp only [Pt.U, Pt.locs, Pt.cells, Pt.slots] at X9 l9 y9 z9 st9 hQ9
    subst l9 y9 z9
    obtain ⟨rfl, N9q, hE9⟩ := hQ9
    have N9 := Fr.app N8 N9q
    refine Wk.go (A' := T9.setTop (mkF m 154 #[jv vx, .second, jv wx, .second, iv bx, iv bits, iv (f_first vx bits), iv (f_first vx (31 : Int32)), iv (f_first wx (31 : Int32)), iv (f_first (vx + wx) (31 : Int32)), iv (1 : Int32), iv (1 : Int32), iv ((((f_first (vx + wx) (31 : Int32)) - (f_first vx (31 : Int32))) - (f_first wx (31 : Int32))) &&& (2147483647 : Int32)), iv (1 : Int32), .unset] [(.int (f_first (8 : Int64) (31 : Int32)))])) (fun t k => st9 t k) ?_
    refine Wk.go (A' := T9.setTop (mkF m 156 #[jv vx, .second, jv wx, .second, iv bx, iv bits, iv (f_first vx bits), iv (f_first vx (31 : Int32)), iv (f_first wx (31 : Int32)), iv (f_first (vx + wx) (31 : Int32)), iv (1 : Int32), iv (1 : Int32), iv ((((f_first (vx + wx) (31 : Int32)) - (f_first vx (31 : Int32))) - (f_first wx (31 : Int32))) &&& (2147483647 : Int32)), iv (1 : Int32), .unset] [(.int (2027808485 : Int32)), (.int (f_first (8 : Int64) (31 : Int32)))])) (fun t k => X9.ldcInt hx hown (mvT hZ (tw8 hw)) (g := (mkF m 154 #[jv vx, .second, jv wx, .second, iv bx, iv bits, iv (f_first vx bits), iv (f_first vx (31 : Int32)), iv (f_first wx (31 : Int32)), iv (f_first (vx + wx) (31 : Int32)), iv (1 : Int32), iv (1 : Int32), iv ((((f_first (vx + wx) (31 : Int32)) - (f_first vx (31 : Int32))) - (f_first wx (31 : Int32))) &&& (2147483647 : Int32)), iv (1 : Int32), .unset] [(.int (f_first (8 : Int64) (31 : Int32)))])) rfl (hb hby at_154) t k) ?_
    have hc156 : (f_first (8 : Int64) (31 : Int32)) = (2027808485 : Int32) := by decide +kernel
    refine Wk.go (A' := T9.setTop (mkF m 159 #[jv vx, .second, jv wx, .second, iv bx, iv bits, iv (f_first vx bits), iv (f_first vx (31 : Int32)), iv (f_first wx (31 : Int32)), iv (f_first (vx + wx) (31 : Int32)), iv (1 : Int32), iv (1 : Int32), iv ((((f_first (vx + wx) (31 : Int32)) - (f_first vx (31 : Int32))) - (f_first wx (31 : Int32))) &&& (2147483647 : Int32)), iv (1 : Int32), .unset] [])) (fun t k => XS.icmpNo X9.here hx rfl (hb hby at_156) rfl (teq hc156).2 k) ?_
    refine Wk.go (A' := T9.setTop (mkF m 162 #[jv vx, .second, jv wx, .second, iv bx, iv bits, iv (f_first vx bits), iv (f_first vx (31 : Int32)), iv (f_first wx (31 : Int32)), iv (f_first (vx + wx) (31 : Int32)), iv (1 : Int32), iv (1 : Int32), iv ((((f_first (vx + wx) (31 : Int32)) - (f_first vx (31 : Int32))) - (f_first wx (31 : Int32))) &&& (2147483647 : Int32)), iv (1 : Int32), .unset] [(.long (8589934592 : Int64))])) (fun t k => X9.ldc2Long hx hown (mvT hZ (tw9 hw)) (g := (mkF m 159 #[jv vx, .second, jv wx, .second, iv bx, iv bits, iv (f_first vx bits), iv (f_first vx (31 : Int32)), iv (f_first wx (31 : Int32)), iv (f_first (vx + wx) (31 : Int32)), iv (1 : Int32), iv (1 : Int32), iv ((((f_first (vx + wx) (31 : Int32)) - (f_first vx (31 : Int32))) - (f_first wx (31 : Int32))) &&& (2147483647 : Int32)), iv (1 : Int32), .unset] [])) rfl (hb hby at_159) t k) ?_
    refine Wk.go (A' := T9.setTop (mkF m 164 #[jv vx, .second, jv wx, .second, iv bx, iv bits, iv (f_first vx bits), iv (f_first vx (31 : Int32)), iv (f_first wx (31 : Int32)), iv (f_first (vx + wx) (31 : Int32)), iv (1 : Int32), iv (1 : Int32), iv ((((f_first (vx + wx) (31 : Int32)) - (f_first vx (31 : Int32))) - (f_first wx (31 : Int32))) &&& (2147483647 : Int32)), iv (1 : Int32), .unset] [(.int (31 : Int32)), (.long (8589934592 : Int64))])) (fun t k => XS.bipush X9.here hx rfl (hb hby at_162) k) ?_
    obtain ⟨_, _, ⟨T10, L10, k10, n10⟩, -, X10, ⟨Lc10, hQ10, l10, y10, z10⟩, st10⟩ := Jvm.LawKit.callS X9 hx (y := (⟨"com/example/bitbraid/bitbraid/NumberTable", "firstPlace", "(JI)I"⟩ : MethodName)) hown (mvT hZ (tw1 hw)) (mvT hZ (tw2 hw)) (mvT hZ (tw3 hw)) (mvT hZ (tw4 hw)) (by decide) (backOf (W := 0) (rm1 l Z a0 hw [] (8589934592 : Int64) (31 : Int32)  h0 n0 Z0 ) hZ (tw4 hw) (tw3 hw) (by decide) (by decide)) (g := (mkF m 164 #[jv vx, .second, jv wx, .second, iv bx, iv bits, iv (f_first vx bits), iv (f_first vx (31 : Int32)), iv (f_first wx (31 : Int32)), iv (f_first (vx + wx) (31 : Int32)), iv (1 : Int32), iv (1 : Int32), iv ((((f_first (vx + wx) (31 : Int32)) - (f_first vx (31 : Int32))) - (f_first wx (31 : Int32))) &&& (2147483647 : Int32)), iv (1 : Int32), .unset] [(.int (31 : Int32)), (.long (8589934592 : Int64))])) rfl (by rw [hml]; rfl) (argsL := [(.long (8589934592 : Int64)), (.int (31 : Int32))]) (rest := []) (lenOf pd_0 rfl) rfl (by show 2 * 0 + _ ≤ _; exact Nat.le_of_eq rfl) (hb hby at_164) (fun _ _ => ⟨rfl, (hE9), (by decide : 0 + 0 ≤ _), (by decide : 0 + 0 ≤ _)⟩)
    dsimp only [Pt.U, Pt.locs, Pt.cells, Pt.slots] at X10 l10 y10 z10 st10 hQ10
    subst l10 y10 z10
    obtain ⟨rfl, N10q, hE10⟩ := hQ10
    have N10 := Fr.app N9 N10q
    refine Wk.go (A' := T10.setTop (mkF m 167 #[jv vx, .second, jv wx, .second, iv bx, iv bits, iv (f_first vx bits), iv (f_first vx (31 : Int32)), iv (f_first wx (31 : Int32)), iv (f_first (vx + wx) (31 : Int32)), iv (1 : Int32), iv (1 : Int32), iv ((((f_first (vx + wx) (31 : Int32)) - (f_first vx (31 : Int32))) - (f_first wx (31 : Int32))) &&& (2147483647 : Int32)), iv (1 : Int32), .unset] [(.int (f_first (8589934592 : Int64) (31 : Int32)))])) (fun t k => st10 t k) ?_
    refine Wk.go (A' := T10.setTop (mkF m 169 #[jv vx, .second, jv wx, .second, iv bx, iv bits, iv (f_first vx bits), iv (f_first vx (31 : Int32)), iv (f_first wx (31 : Int32)), iv (f_first (vx + wx) (31 : Int32)), iv (1 : Int32), iv (1 : Int32), iv ((((f_first (vx + wx) (31 : Int32)) - (f_first vx (31 : Int32))) - (f_first wx (31 : Int32))) &&& (2147483647 : Int32)), iv (1 : Int32), .unset] [(.int (2135587861 : Int32)), (.int (f_first (8589934592 : Int64) (31 : Int32)))])) (fun t k => X10.ldcInt hx hown (mvT hZ (tw10 hw)) (g := (mkF m 167 #[jv vx, .second, jv wx, .second, iv bx, iv bits, iv (f_first vx bits), iv (f_first vx (31 : Int32)), iv (f_first wx (31 : Int32)), iv (f_first (vx + wx) (31 : Int32)), iv (1 : Int32), iv (1 : Int32), iv ((((f_first (vx + wx) (31 : Int32)) - (f_first vx (31 : Int32))) - (f_first wx (31 : Int32))) &&& (2147483647 : Int32)), iv (1 : Int32), .unset] [(.int (f_first (8589934592 : Int64) (31 : Int32)))])) rfl (hb hby at_167) t k) ?_
    have hc169 : (f_first (8589934592 : Int64) (31 : Int32)) = (2135587861 : Int32) := by decide +kernel
    refine Wk.go (A' := T10.setTop (mkF m 172 #[jv vx, .second, jv wx, .second, iv bx, iv bits, iv (f_first vx bits), iv (f_first vx (31 : Int32)), iv (f_first wx (31 : Int32)), iv (f_first (vx + wx) (31 : Int32)), iv (1 : Int32), iv (1 : Int32), iv ((((f_first (vx + wx) (31 : Int32)) - (f_first vx (31 : Int32))) - (f_first wx (31 : Int32))) &&& (2147483647 : Int32)), iv (1 : Int32), .unset] [])) (fun t k => XS.icmpNo X10.here hx rfl (hb hby at_169) rfl (teq hc169).2 k) ?_
    refine Wk.go (A' := T10.setTop (mkF m 173 #[jv vx, .second, jv wx, .second, iv bx, iv bits, iv (f_first vx bits), iv (f_first vx (31 : Int32)), iv (f_first wx (31 : Int32)), iv (f_first (vx + wx) (31 : Int32)), iv (1 : Int32), iv (1 : Int32), iv ((((f_first (vx + wx) (31 : Int32)) - (f_first vx (31 : Int32))) - (f_first wx (31 : Int32))) &&& (2147483647 : Int32)), iv (1 : Int32), .unset] [(.int (1 : Int32))])) (fun t k => XS.iconst X10.here hx rfl (hb hby at_172) k) ?_
    refine Wk.go (A' := T10.setTop (mkF m 177 #[jv vx, .second, jv wx, .second, iv bx, iv bits, iv (f_first vx bits), iv (f_first vx (31 : Int32)), iv (f_first wx (31 : Int32)), iv (f_first (vx + wx) (31 : Int32)), iv (1 : Int32), iv (1 : Int32), iv ((((f_first (vx + wx) (31 : Int32)) - (f_first vx (31 : Int32))) - (f_first wx (31 : Int32))) &&& (2147483647 : Int32)), iv (1 : Int32), .unset] [(.int (1 : Int32))])) (fun t k => XS.goto X10.here hx rfl (pc0 := 173) (pc' := 177) rfl (hb hby at_173) (by decide) (by decide) k) ?_
    refine Wk.go (A' := T10.setTop (mkF m 179 #[jv vx, .second, jv wx, .second, iv bx, iv bits, iv (f_first vx bits), iv (f_first vx (31 : Int32)), iv (f_first wx (31 : Int32)), iv (f_first (vx + wx) (31 : Int32)), iv (1 : Int32), iv (1 : Int32), iv ((((f_first (vx + wx) (31 : Int32)) - (f_first vx (31 : Int32))) - (f_first wx (31 : Int32))) &&& (2147483647 : Int32)), iv (1 : Int32), iv (1 : Int32)] [])) (fun t k => XS.istore X10.here hx rfl (hb hby at_177) rfl (l' := #[jv vx, .second, jv wx, .second, iv bx, iv bits, iv (f_first vx bits), iv (f_first vx (31 : Int32)), iv (f_first wx (31 : Int32)), iv (f_first (vx + wx) (31 : Int32)), iv (1 : Int32), iv (1 : Int32), iv ((((f_first (vx + wx) (31 : Int32)) - (f_first vx (31 : Int32))) - (f_first wx (31 : Int32))) &&& (2147483647 : Int32)), iv (1 : Int32), iv (1 : Int32)]) rfl k) ?_
    refine Wk.go (A' := T10.setTop (mkF m 181 #[jv vx, .second, jv wx, .second, iv bx, iv bits, iv (f_first vx bits), iv (f_first vx (31 : Int32)), iv (f_first wx (31 : Int32)), iv (f_first (vx + wx) (31 : Int32)), iv (1 : Int32), iv (1 : Int32), iv ((((f_first (vx + wx) (31 : Int32)) - (f_first vx (31 : Int32))) - (f_first wx (31 : Int32))) &&& (2147483647 : Int32)), iv (1 : Int32), iv (1 : Int32)] [(.int (1 : Int32))])) (fun t k => XS.iload X10.here hx rfl (hb hby at_179) rfl k) ?_
    have hc181 : ¬ ((1 : Int32) = (0 : Int32)) := by decide
    refine Wk.go (A' := T10.setTop (mkF m 184 #[jv vx, .second, jv wx, .second, iv bx, iv bits, iv (f_first vx bits), iv (f_first vx (31 : Int32)), iv (f_first wx (31 : Int32)), iv (f_first (vx + wx) (31 : Int32)), iv (1 : Int32), iv (1 : Int32), iv ((((f_first (vx + wx) (31 : Int32)) - (f_first vx (31 : Int32))) - (f_first wx (31 : Int32))) &&& (2147483647 : Int32)), iv (1 : Int32), iv (1 : Int32)] [])) (fun t k => XS.ifNo X10.here hx rfl (hb hby at_181) rfl ((if0 _ _).trans (feq hc181).1) k) ?_
    refine Wk.go (A' := T10.setTop (mkF m 186 #[jv vx, .second, jv wx, .second, iv bx, iv bits, iv (f_first vx bits), iv (f_first vx (31 : Int32)), iv (f_first wx (31 : Int32)), iv (f_first (vx + wx) (31 : Int32)), iv (1 : Int32), iv (1 : Int32), iv ((((f_first (vx + wx) (31 : Int32)) - (f_first vx (31 : Int32))) - (f_first wx (31 : Int32))) &&& (2147483647 : Int32)), iv (1 : Int32), iv (1 : Int32)] [(.int (1 : Int32))])) (fun t k => XS.iload X10.here hx rfl (hb hby at_184) rfl k) ?_
    have hc186 : ¬ ((1 : Int32) = (0 : Int32)) := by decide
    refine Wk.go (A' := T10.setTop (mkF m 189 #[jv vx, .second, jv wx, .second, iv bx, iv bits, iv (f_first vx bits), iv (f_first vx (31 : Int32)), iv (f_first wx (31 : Int32)), iv (f_first (vx + wx) (31 : Int32)), iv (1 : Int32), iv (1 : Int32), iv ((((f_first (vx + wx) (31 : Int32)) - (f_first vx (31 : Int32))) - (f_first wx (31 : Int32))) &&& (2147483647 : Int32)), iv (1 : Int32), iv (1 : Int32)] [])) (fun t k => XS.ifNo X10.here hx rfl (hb hby at_186) rfl ((if0 _ _).trans (feq hc186).1) k) ?_
    refine Wk.go (A' := T10.setTop (mkF m 191 #[jv vx, .second, jv wx, .second, iv bx, iv bits, iv (f_first vx bits), iv (f_first vx (31 : Int32)), iv (f_first wx (31 : Int32)), iv (f_first (vx + wx) (31 : Int32)), iv (1 : Int32), iv (1 : Int32), iv ((((f_first (vx + wx) (31 : Int32)) - (f_first vx (31 : Int32))) - (f_first wx (31 : Int32))) &&& (2147483647 : Int32)), iv (1 : Int32), iv (1 : Int32)] [(.int (1 : Int32))])) (fun t k => XS.iload X10.here hx rfl (hb hby at_189) rfl k) ?_
    have hc191 : ¬ ((1 : Int32) = (0 : Int32)) := by decide
    refine Wk.go (A' := T10.setTop (mkF m 194 #[jv vx, .second, jv wx, .second, iv bx, iv bits, iv (f_first vx bits), iv (f_first vx (31 : Int32)), iv (f_first wx (31 : Int32)), iv (f_first (vx + wx) (31 : Int32)), iv (1 : Int32), iv (1 : Int32), iv ((((f_first (vx + wx) (31 : Int32)) - (f_first vx (31 : Int32))) - (f_first wx (31 : Int32))) &&& (2147483647 : Int32)), iv (1 : Int32), iv (1 : Int32)] [])) (fun t k => XS.ifNo X10.here hx rfl (hb hby at_191) rfl ((if0 _ _).trans (feq hc191).1) k) ?_
    refine Wk.go (A' := T10.setTop (mkF m 196 #[jv vx, .second, jv wx, .second, iv bx, iv bits, iv (f_first vx bits), iv (f_first vx (31 : Int32)), iv (f_first wx (31 : Int32)), iv (f_first (vx + wx) (31 : Int32)), iv (1 : Int32), iv (1 : Int32), iv ((((f_first (vx + wx) (31 : Int32)) - (f_first vx (31 : Int32))) - (f_first wx (31 : Int32))) &&& (2147483647 : Int32)), iv (1 : Int32), iv (1 : Int32)] [(.int (1 : Int32))])) (fun t k => XS.iload X10.here hx rfl (hb hby at_194) rfl k) ?_
    have hc196 : ¬ ((1 : Int32) = (0 : Int32)) := by decide
    refine Wk.go (A' := T10.setTop (mkF m 199 #[jv vx, .second, jv wx, .second, iv bx, iv bits, iv (f_first vx bits), iv (f_first vx (31 : Int32)), iv (f_first wx (31 : Int32)), iv (f_first (vx + wx) (31 : Int32)), iv (1 : Int32), iv (1 : Int32), iv ((((f_first (vx + wx) (31 : Int32)) - (f_first vx (31 : Int32))) - (f_first wx (31 : Int32))) &&& (2147483647 : Int32)), iv (1 : Int32), iv (1 : Int32)] [])) (fun t k => XS.ifNo X10.here hx rfl (hb hby at_196) rfl ((if0 _ _).trans (feq hc196).1) k) ?_
    refine Wk.go (A' := T10.setTop (mkF m 200 #[jv vx, .second, jv wx, .second, iv bx, iv bits, iv (f_first vx bits), iv (f_first vx (31 : Int32)), iv (f_first wx (31 : Int32)), iv (f_first (vx + wx) (31 : Int32)), iv (1 : Int32), iv (1 : Int32), iv ((((f_first (vx + wx) (31 : Int32)) - (f_first vx (31 : Int32))) - (f_first wx (31 : Int32))) &&& (2147483647 : Int32)), iv (1 : Int32), iv (1 : Int32)] [(.int (1 : Int32))])) (fun t k => XS.iconst X10.here hx rfl (hb hby at_199) k) ?_
    refine Wk.go (A' := T10.setTop (mkF m 204 #[jv vx, .second, jv wx, .second, iv bx, iv bits, iv (f_first vx bits), iv (f_first vx (31 : Int32)), iv (f_first wx (31 : Int32)), iv (f_first (vx + wx) (31 : Int32)), iv (1 : Int32), iv (1 : Int32), iv ((((f_first (vx + wx) (31 : Int32)) - (f_first vx (31 : Int32))) - (f_first wx (31 : Int32))) &&& (2147483647 : Int32)), iv (1 : Int32), iv (1 : Int32)] [(.int (1 : Int32))])) (fun t k => XS.goto X10.here hx rfl (pc0 := 200) (pc' := 204) rfl (hb hby at_200) (by decide) (by decide) k) ?_
    refine own_fin (Qv := Q0 Z vx wx bx h0 n0) (v := some (.int (1 : Int32))) X10 hlk (fun h => by rw [Bd.returns] at h; cases h) (fun fs hr => retN X10 hx (t := .boolean) Bd.returns (by simp) (hb hby at_204) hr) ?_ (by decide) (by decide)
    exact ⟨rfl, N10⟩
set_option maxRecDepth 65536 in
set_option maxHeartbeats 40000000 in
theorem comes_1 {Post : Tables → Env → Array Value → State → Outcome → State → Prop} (hpost : ∀ tb e args s v u, (limb_1_1.after args s (.returned v) u = true ∧ limb_1_2.after args s (.returned v) u = true ∧ True) → FrameEnd s (.returned v) u (Jvm.fieldLocs frame_1_writes args s ++ Jvm.arrayLocs frame_1_arrays args s ++ Jvm.staticLocs frame_1_statics s) 0 0 → Post tb e args s (.returned v) u) :
    ArmFor flags0 classFile x code maxLocals ret World_1 tables_1 room_1 Calls_1 rest_1 Pre_1 Post := by
  intro l hfl _ _ p e ha hc hk s m args below hf hA hF happ hP
  obtain ⟨hcalls, hrest, hpre⟩ := hP
  obtain ⟨-, -, -, hnamed, -, -, -, hat⟩ := (Spec.applies_iff hf).mp happ
  obtain ⟨hg, hn⟩ := and_e (Cond.before_iff.mp (show (Jvm.Cond.and given_1 narrow_1).before args s = true from hpre))
  obtain ⟨hcnt, g0⟩ := and_e hg
  obtain ⟨ga0, g1⟩ := and_e g0
  obtain ⟨ga1, g2⟩ := and_e g1
  obtain ⟨w0, w1, w2, rfl⟩ : ∃ w0 w1 w2 : Value, args = #[w0, w1, w2] := by
    have hs : args.size = 3 := by simpa [Cond.value, given_1] using hcnt
    obtain ⟨L⟩ := args
    match L, hs with
    | [w0, w1, w2], _ => exact ⟨w0, w1, w2, rfl⟩
  have hw := fun d (hd : d ∈ tables_1) => atoms_spec (ws := Jvm.Cond.code x code maxLocals ret :: tables_1) hat d (List.mem_cons_of_mem _ hd)
  obtain ⟨i0, ei0⟩ := isL_v ga0
  obtain rfl : w0 = (.long i0) := Option.some.inj ei0
  obtain ⟨i1, ei1⟩ := isL_v ga1
  obtain rfl : w1 = (.long i1) := Option.some.inj ei1
  obtain ⟨i2, ei2⟩ := is_v g2
  obtain rfl : w2 = (.int i2) := Option.some.inj ei2
  obtain ⟨n, o, h1, h2, h3, _, L, rfl, ⟨rfl, N⟩, hq⟩ := rm0 l s _ hw tables_1 i0 i1 i2  s.heap s.heap.size (Nat.le_refl _)  p e ha hc hk s m _ below hf ((Spec.applies_iff_loose hf).mp happ).1 ⟨rfl, State.Warmed39.refl s, rfl⟩ trivial
  refine ⟨n, _, h1, h2, h3, hpost _ _ _ _ _ _ ⟨Cond.after_iff.mpr rfl, Cond.after_iff.mpr (eq_i res_at (Term.int_eval (1)) rfl), trivial⟩ ⟨hq.1, hq.2.1, (hq.2.2.sift fun y hy => Or.inr (N y hy)).mono (by decide) (by decide)⟩⟩
theorem main_1_1 : Claimed_1_1 := comes_1 fun _ _ _ _ _ _ h hF => ⟨h.1, hF⟩
theorem main_1_2 : Claimed_1_2 := comes_1 fun _ _ _ _ _ _ h hF => ⟨h.2.1, hF⟩
end Jvm.Pilot.@@N@@
namespace Jvm.Pilot.@@N@@
open Jvm Jvm.ClassFile Sem Op Lib Jvm.Free Jvm.Stand Jvm.Pilot.@@N@@.Jvm.D
/-! MADE BY PROGRAM (witnessworld.py) out of the Statement's table words and the real class files: 9 classes; the members and pool entries that the words name. The judged class is class 1, her method 1. -/
namespace start1
open Jvm.ClassFile
def u (s : String) : CpInfo := .utf8 (stringToUtf16 s)
/-- a pool by its gaps: so many unusable entries, then the entry; so many at the end -/
def gap : Nat → List CpInfo → List CpInfo
  | 0, r => r
  | n + 1, r => .unusable :: gap n r
def poolList (es : List (Nat × CpInfo)) (last : Nat) : List CpInfo := es.foldr (fun e r => gap e.1 (e.2 :: r)) (gap last [])
def pool (es : List (Nat × CpInfo)) (last : Nat) : Array CpInfo := ⟨poolList es last⟩
def fileOf (pool : Array CpInfo) (this : Nat) (attrs : Array Attribute := #[]) (ms : Array MethodInfo := #[]) (fl : Nat := 33) (sup : Nat := 0) (ifs : Array Nat := #[]) (fds : Array FieldInfo := #[]) : ClassFile where
  minorVersion := 0
  majorVersion := 65
  constantPool := pool
  accessFlags := fl
  thisClass := this
  superClass := sup
  interfaces := ifs
  fields := fds
  methods := ms
  attributes := attrs
def plain (name : String) (sup : Option ClassId) : Class where
  name := name
  kind := .ordinary
  loader := none
  accessFlags := 33
  super := sup
  interfaces := #[]
  cf := none
  fields := #[]
  methods := #[]
  instanceTypes := #[]
  staticTypes := #[]
  resolved := #[]
  callSites := []
  init := .initialized
  statics := none
  mirror := none

def pool0 : Array CpInfo := pool [(5, u "<init>"), (0, u "()V"), (1, .class_ 10), (1, u "java/lang/Object")] 113

def k0m0 : Method := { name := "<init>", desc := "()V", sig := { parameters := [], returnType := none }, accessFlags := 1, code := none }
/-- java/lang/Object -/
def k0 : Class := { plain "java/lang/Object" none with
  accessFlags := 33
  interfaces := #[]
  cf := some (fileOf pool0 8 #[] #[{ accessFlags := 1, nameIndex := 5, descriptorIndex := 6, attributes := #[] }] 33 0 #[] #[])
  fields := #[]
  methods := #[k0m0]
  instanceTypes := #[]
  staticTypes := #[]
  resolved := Array.replicate 124 none
  statics := none }

def pool1 : Array CpInfo := pool [(2, .class_ 4), (1, u "java/lang/Object"), (0, u "<init>"), (0, u "()V"), (0, .integer 2147483647), (0, .methodref 9 10), (0, .class_ 11), (0, .nameAndType 12 13), (0, u "com/example/bitbraid/bitbraid/NumberTable"), (0, u "firstPlace"), (0, u "(JI)I"), (0, .integer 1327217884), (0, .long 8), (1, .integer 2027808485), (0, .long 8589934592), (1, .integer 2135587861), (0, .class_ 22), (0, u "com/example/bitbraid/bitbraid/NumberTableFirstPlacePinLaw"), (2, u "law"), (0, u "(JJI)Z")] 3

def k1m0 : Method := { name := "<init>", desc := "()V", sig := { parameters := [], returnType := none }, accessFlags := 1, code := none }
def k1c1 : Code := { maxStack := 5, maxLocals := 15, code := code, exceptionTable := #[], attributes := #[] }
def k1m1 : Method := { name := "law", desc := "(JJI)Z", sig := { parameters := [.long, .long, .int], returnType := some .boolean }, accessFlags := 9, code := some k1c1 }
/-- com/example/bitbraid/bitbraid/NumberTableFirstPlacePinLaw -/
def k1 : Class := { plain "com/example/bitbraid/bitbraid/NumberTableFirstPlacePinLaw" (some 0) with
  accessFlags := 49
  interfaces := #[]
  cf := some (fileOf pool1 21 #[] #[{ accessFlags := 1, nameIndex := 5, descriptorIndex := 6, attributes := #[] }, { accessFlags := 9, nameIndex := 25, descriptorIndex := 26, attributes := #[] }] 49 2 #[] #[])
  fields := #[]
  methods := #[k1m0, k1m1]
  instanceTypes := #[]
  staticTypes := #[]
  resolved := Array.replicate 30 none
  statics := none }

def pool2 : Array CpInfo := pool [(2, .class_ 4), (1, u "java/lang/Object"), (3, .class_ 10), (1, u "com/example/bitbraid/bitbraid/NumberTable"), (0, u "values"), (0, u "[J"), (2, u "longs"), (0, u "Z"), (8, u "size"), (0, u "I"), (3, u "(JI)I"), (9, .long 11400714819323198485), (5, u "table"), (2, u "bits"), (2, u "firstPlace")] 22

def k2c0 : Code := { maxStack := 4, maxLocals := 3, code := prog_14_method_7_code, exceptionTable := #[], attributes := #[] }
def k2m0 : Method := { name := "firstPlace", desc := "(JI)I", sig := { parameters := [.long, .int], returnType := some .int }, accessFlags := 8, code := some k2c0 }
/-- com/example/bitbraid/bitbraid/NumberTable -/
def k2 : Class := { plain "com/example/bitbraid/bitbraid/NumberTable" (some 0) with
  accessFlags := 48
  interfaces := #[]
  cf := some (fileOf pool2 8 #[] #[{ accessFlags := 8, nameIndex := 52, descriptorIndex := 30, attributes := #[] }] 48 2 #[] #[{ accessFlags := 18, nameIndex := 15, descriptorIndex := 16, attributes := #[] }, { accessFlags := 2, nameIndex := 11, descriptorIndex := 12, attributes := #[] }, { accessFlags := 2, nameIndex := 25, descriptorIndex := 26, attributes := #[] }, { accessFlags := 2, nameIndex := 46, descriptorIndex := 12, attributes := #[] }, { accessFlags := 2, nameIndex := 49, descriptorIndex := 26, attributes := #[] }])
  fields := #[{ name := "longs", type := .boolean, accessFlags := 18, slot := 0, constantValue := 0 }, { name := "values", type := (.array .long), accessFlags := 2, slot := 1, constantValue := 0 }, { name := "size", type := .int, accessFlags := 2, slot := 2, constantValue := 0 }, { name := "table", type := (.array .long), accessFlags := 2, slot := 3, constantValue := 0 }, { name := "bits", type := .int, accessFlags := 2, slot := 4, constantValue := 0 }]
  methods := #[k2m0]
  instanceTypes := #[.boolean, (.array .long), .int, (.array .long), .int]
  staticTypes := #[]
  resolved := Array.replicate 75 none
  statics := none }

def pool3 : Array CpInfo := pool [(1, u "java/lang/Cloneable"), (0, .class_ 1), (0, u "java/lang/Object"), (0, .class_ 3)] 3

/-- java/lang/Cloneable -/
def k3 : Class := { plain "java/lang/Cloneable" (some 0) with
  accessFlags := 1537
  interfaces := #[]
  cf := some (fileOf pool3 2 #[] #[] 1537 4 #[] #[])
  fields := #[]
  methods := #[]
  instanceTypes := #[]
  staticTypes := #[]
  resolved := Array.replicate 8 none
  statics := none }

def pool4 : Array CpInfo := pool [(1, u "java/io/Serializable"), (0, .class_ 1), (0, u "java/lang/Object"), (0, .class_ 3)] 3

/-- java/io/Serializable -/
def k4 : Class := { plain "java/io/Serializable" (some 0) with
  accessFlags := 1537
  interfaces := #[]
  cf := some (fileOf pool4 2 #[] #[] 1537 4 #[] #[])
  fields := #[]
  methods := #[]
  instanceTypes := #[]
  staticTypes := #[]
  resolved := Array.replicate 8 none
  statics := none }

/-- the primitive byte -/
def k5 : Class := { plain "byte" none with kind := .primitive 'B', accessFlags := 0x411 }
/-- [B -/
def k6 : Class := { plain "[B" (some 0) with kind := .array 5 .byte, interfaces := #[3, 4], accessFlags := 1041 }

/-- the primitive int -/
def k7 : Class := { plain "int" none with kind := .primitive 'I', accessFlags := 0x411 }
/-- [I -/
def k8 : Class := { plain "[I" (some 0) with kind := .array 7 .int, interfaces := #[3, 4], accessFlags := 1041 }

def heap : Heap := #[]
def classes : Array Class := #[k0, k1, k2, k3, k4, k5, k6, k7, k8]
def interned : List (Array UInt16 × Addr) := []
def slotsUsed : Nat := 0
def theMethod : MethodId := ⟨1, 1⟩
def args0 : Array Value := #[.long 5, .long 7, .int 3]
def aboutOver (below : List Frame) : State where
  vm := { classes := classes, interned := interned.toArray }
  heap := heap
  slotsUsed := slotsUsed
  threads := #[{ frames := .invoking theMethod args0 :: below }]
def below0 : List Frame := [.native { method := ⟨0, 0⟩, args := #[] }]
def about1 : State := aboutOver below0
def p0 : Program := .bare "" "" ""
def e0 : Env := launch0.env 0 0 0
theorem w_frames : about1.frames = Frame.invoking theMethod args0 :: below0 := rfl
set_option maxRecDepth 65536 in
theorem w_args : argsFit about1.vm theMethod args0 = true := by decide +kernel
set_option maxRecDepth 65536 in
theorem w_heap : heapFits about1 = true := by decide +kernel
set_option maxRecDepth 65536 in
theorem w_runnable : about1.curStatus? = some .runnable := by decide +kernel
set_option maxRecDepth 65536 in
theorem w_alone : about1.alone = true := by decide +kernel
set_option maxRecDepth 65536 in
theorem w_named : about1.methodNamed? x = some theMethod := by decide +kernel
set_option maxRecDepth 65536 in
theorem w_hears : about1.hears theMethod below0 = true := by decide +kernel
set_option maxRecDepth 65536 in
theorem w_ripe : about1.ripe theMethod args0 below0 = true := by decide +kernel
theorem w_running : about1.status = .running := rfl
set_option maxRecDepth 65536 in
theorem w_room : about1.hasRoom e0.platform room_1 = true :=
  launch0.hasRoom_least _ room_1 (by decide +kernel) (by decide +kernel) (by decide +kernel) (by decide +kernel) (by decide +kernel) (by decide +kernel)
theorem allAtoms_all (ts : List Jvm.Cond) (a : Array Jvm.Value) (st : Jvm.State) : (allAtoms ts).before a st = ts.all (fun c => c.before a st) := by
  induction ts with
  | nil => rfl
  | cons c t ih =>
    show (Jvm.Cond.and c (allAtoms t)).before a st = _
    rw [Jvm.Cond.before_and, ih, List.all_cons]
def words1 : List Jvm.Cond := Jvm.Cond.code x code maxLocals ret :: tables_1
/-- a 'code' word, met by the world's own term for the bytes: nothing is compared byte by byte -/
theorem code_word {y : MethodName} {bytes : ByteArray} {mx : Nat} {rt : Option FieldType} {a : Array Value} {s : State} {m : MethodId} {meth : Method} {c : Code} (h1 : s.methodNamed? y = some m) (h2 : s.vm.method? m = some meth) (h3 : meth.code = some c) (h4 : c.code = bytes)
    (h5 : (c.maxLocals == mx && c.exceptionTable.isEmpty && decide (c.maxStack ≤ mostOperands) && decide (meth.sig.returnType = rt) && !meth.locks && decide (parseMethodDescriptor y.desc = some meth.sig)) = true) : (Jvm.Cond.code y bytes mx rt).before a s = true := by
  simp only [Bool.and_eq_true, beq_iff_eq, Bool.not_eq_true', decide_eq_true_eq] at h5
  obtain ⟨⟨⟨⟨⟨g1, g2⟩, g3⟩, g4⟩, g5⟩, g6⟩ := h5
  simp [Cond.before, Cond.holds, Cond.value, h1, h2, h3, h4, g1, g2, g3, g4, g5, g6]
def isCode : Jvm.Cond → Bool
  | .code _ _ _ _ => true
  | _ => false
theorem all_split {L : List Jvm.Cond} {P : Jvm.Cond → Bool} (h1 : L.all (fun c => isCode c || P c) = true) (h2 : ∀ c ∈ L.filter isCode, P c = true) : L.all P = true := by
  refine List.all_eq_true.mpr fun c hc => ?_
  have h := List.all_eq_true.mp h1 c hc
  rcases Bool.eq_false_or_eq_true (isCode c) with hi | hi
  · exact h2 c (List.mem_filter.mpr ⟨hc, hi⟩)
  · simpa [hi] using h
set_option maxRecDepth 65536 in
theorem w_c0 : (Jvm.Cond.code x code maxLocals ret).before args0 about1 = true := code_word (m := ⟨1, 1⟩) (meth := k1m1) (c := k1c1) (by decide +kernel) rfl rfl rfl (by decide +kernel)
set_option maxRecDepth 65536 in
theorem w_c1 : (Jvm.Cond.code ({ cls := "com/example/bitbraid/bitbraid/NumberTable", name := "firstPlace", desc := "(JI)I" } : Jvm.MethodName) prog_14_method_7_code (3 : Nat) (Option.some Jvm.ClassFile.FieldType.int)).before args0 about1 = true := code_word (m := ⟨2, 0⟩) (meth := k2m0) (c := k2c0) (by decide +kernel) rfl rfl rfl (by decide +kernel)
def codes1 : List Jvm.Cond := [Jvm.Cond.code x code maxLocals ret, Jvm.Cond.code ({ cls := "com/example/bitbraid/bitbraid/NumberTable", name := "firstPlace", desc := "(JI)I" } : Jvm.MethodName) prog_14_method_7_code (3 : Nat) (Option.some Jvm.ClassFile.FieldType.int)]
set_option maxRecDepth 65536 in
theorem codes_eq : words1.filter isCode = codes1 := rfl
theorem w_codes : ∀ c ∈ words1.filter isCode, c.before args0 about1 = true := by
  rw [codes_eq]
  intro c hc
  simp only [codes1, List.mem_cons, List.not_mem_nil, or_false] at hc
  rcases hc with rfl | rfl
  · exact w_c0
  · exact w_c1
set_option maxRecDepth 65536 in
theorem w_t1 : words1.all (fun c => isCode c || c.before args0 about1) = true := by decide +kernel
theorem w_tables : (allAtoms (Jvm.Cond.code x code maxLocals ret :: tables_1)).before args0 about1 = true := by
  rw [allAtoms_all]
  show words1.all (fun c => c.before args0 about1) = true
  refine all_split ?_ w_codes
  rw [w_t1]
set_option maxRecDepth 65536 in
theorem w_case : (Jvm.Cond.and given_1 narrow_1).before args0 about1 = true := by decide +kernel
theorem w_applies : (headSpec (Jvm.Cond.code x code maxLocals ret :: tables_1) room_1).applies x e0.platform about1 = true :=
  (Spec.applies_iff w_frames).mpr ⟨w_running, w_runnable, w_alone, w_named, w_hears, w_ripe, w_room, w_tables⟩
theorem atStart : AtStart classFile x code maxLocals ret World_1 tables_1 room_1 Calls_1 rest_1 Pre_1 launch0 p0 e0 about1 theMethod args0 below0 :=
  ⟨lists_1, trivial, launch0.admits_env _ _ _, launch0.least_env, fairChoices_fair.cas, fairChoices_fair.clock, w_frames, w_args, w_heap, w_applies, trivial, trivial, w_case⟩
end start1
theorem witness_1 : WitnessClaimed_1 := ⟨start1.p0, start1.e0, start1.about1, start1.theMethod, start1.args0, start1.below0, start1.atStart⟩
end Jvm.Pilot.@@N@@
