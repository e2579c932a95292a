import JvmDerived
import JvmDerived.Pilot.@@N@@Statement
import JvmDerived.Pilot.@@N@@Code
set_option linter.unusedVariables false
set_option linter.unusedSimpArgs false
@@BLOCK:NumsL.lean.txt@@
namespace Jvm.RoadKit
open Sem ClassFile Op Lib Jvm.Stand Jvm.Free Jvm.LawKit
section New
variable {p : Program} {l : Launch} {e : Env} {R : Room} {s : State} {m : MethodId} {args : Array Value} {below : List Frame} {meth : Method} {c : Code} {T : State} {locs : List Loc} {cells slots : Nat}
theorem retI (X : Stand p l e R s m args below meth c T locs cells slots) (hx : p.tables.exec = Jvm.exec) {pc : Nat} {Ls : Array Slot} {z : Int32} {rest : List Value} (hret : meth.sig.returnType = some .int) (hd : decode c.code pc = .ok (.ireturn, 1)) {fs : List Frame}
    (hl : ∀ (f : JFrame) (acts : List Action), f.method = m → f.locked = none → f.entered = [] → (doReturn e (T.setTop f) acts (some (.int z))).1 = T.setFrames fs) : Steps p.tables e below (T.setTop (mkF m pc Ls (.int z :: rest))) (T.setFrames fs) := by
  have hm' : T.vm.method? m = some meth := X.method'
  have hn : narrow .int (.int z) = .int z := rfl
  show Steps p.tables e below (T.setTop { method := m, pc := pc, locals := Ls, stack := _ :: rest, locked := none }) _
  jvm_step X.here [X.here.top, hx, hd, hm', hret, hn]
  first | (intro acts; rw [hl _ acts rfl rfl rfl]) | rw [hl _ _ rfl rfl rfl]
  exact Steps.refl _
end New
end Jvm.RoadKit
namespace Jvm.Pilot.@@N@@
open Jvm Jvm.ClassFile Sem Op Lib Jvm.Free Jvm.Stand Jvm.LawKit Jvm.RoadKit Bundle Jvm.Pilot.@@N@@.Jvm.D
theorem own_fi {args : Array Value} {s : State} {t : Term} {C n d : String} {k : Int32} {x : Addr} (ht : t.eval args s none [] s = some (.ref x)) (h : (Jvm.Cond.eq (Term.field t C n d) (Term.int k)).value args s none s [] = some true) : Fld s s.heap x C n d (.int k) := by
  obtain ⟨a, b, ha, hb, hk, -⟩ := cmp_v (Or.inl h)
  have hb' : b = .int k := Option.some.inj (hb.symm.trans rfl)
  subst hb'
  cases a <;> simp [Kin, Value.isRef] at hk
  rename_i z
  have hz : z = k := by simpa [Jvm.Cond.value, ha, hb] using h
  subst hz
  exact Fld.start ((fld_at ht).symm.trans ha)
theorem own_fn {args : Array Value} {s : State} {t : Term} {C n d : String} {x : Addr} (ht : t.eval args s none [] s = some (.ref x)) (h : (Jvm.Cond.eq (Term.field t C n d) Term.null).value args s none s [] = some true) : Fld s s.heap x C n d .null := Fld.start ((fld_at ht).symm.trans (null_v h))
theorem own_fx {args : Array Value} {s : State} {t : Term} {C n d K : String} {x : Addr} (ht : t.eval args s none [] s = some (.ref x)) (h : (Jvm.Cond.exactly (Term.field t C n d) K).value args s none s [] = some true) : ∃ y, (Term.field t C n d).eval args s none [] s = some (.ref y) ∧ Fld s s.heap x C n d (.ref y) ∧ Exa s s.heap y K := by
  obtain ⟨y, hy⟩ := exa_v h
  exact ⟨y, hy, Fld.start ((fld_at ht).symm.trans hy), Exa.start hy h⟩
theorem own_sx {args : Array Value} {s : State} {C n d K : String} (hi : (Jvm.Cond.initialized C).before args s = true) (hl : (Jvm.Cond.laysStatic C n d).before args s = true) (h : (Jvm.Cond.exactly (Term.static C n d) K).value args s none s [] = some true) : ∃ x, (Term.static C n d).eval args s none [] s = some (.ref x) ∧ Sta s s.heap C n d (.ref x) ∧ Exa s s.heap x K := by
  obtain ⟨y, hy⟩ := exa_v h
  exact ⟨y, hy, Sta.start hy (Or.inr ⟨hi, hl⟩), Exa.start hy h⟩
theorem own_and31 (x : Int32) : (x &&& 2147483647).toInt = x.toInt % 2 ^ 31 := Jvm.Kit.i32_mask x 2147483647 (k := 31) (by decide) (by decide)
theorem own_pos31 (x : Int32) : 0 ≤ (x &&& 2147483647).toInt := by rw [own_and31]; omega
theorem own_rem (x m : Int32) (hm : 0 < m.toInt) : 0 ≤ ((x &&& 2147483647) % m).toInt ∧ ((x &&& 2147483647) % m).toInt < m.toInt := by
  have h1 := own_pos31 x
  rw [Int32.toInt_mod]
  have h2 : ((x &&& 2147483647).toInt).tmod m.toInt = (x &&& 2147483647).toInt % m.toInt := Int.tmod_eq_emod_of_nonneg h1
  have h3 := Int.emod_nonneg (x &&& 2147483647).toInt (show m.toInt ≠ 0 by omega)
  have h4 := Int.emod_lt_of_pos (x &&& 2147483647).toInt hm
  omega
theorem own_selp {s : State} {args : Array Value} {y : MethodName} {n : Nat} (hy : y.cls ≠ "java/lang/invoke/MethodHandle" ∧ y.cls ≠ "java/lang/invoke/VarHandle") (hins : (Jvm.Cond.instantiable y.cls n).before args s = true) (hpriv : (Jvm.Cond.privateMethod y).before args s = true) (hinst : (Jvm.Cond.instanceMethod y).before args s = true) : (Jvm.Cond.selects y.cls y y).before args s = true := by
  obtain ⟨c, k, hc, hk, -, hniab, -, -⟩ := Cond.instantiable_spec hins
  have hni : k.isInterface = false := (Bool.or_eq_false_iff.mp hniab).1
  obtain ⟨mk, methM, hnamed, hmethM, -, -⟩ := Cond.instanceMethod_spec hinst
  have hfound : s.methodFound? y.cls y.name y.desc = some mk := State.methodFound?_of_named hnamed hy
  have hcls : mk.cls = c := Option.some.inj ((findClass_of_methodNamed hnamed).symm.trans hc)
  have hsel : selectMethod {} s.vm c mk = .method mk := selectMethod_private hmethM (Cond.privateMethod_at hpriv mk methM hnamed hmethM)
  simp only [Cond.before, Cond.holds, Cond.value, hc, hfound, hnamed, hsel, hcls, hk]
  simp; exact hni
theorem own_of_toInt {x : Int32} {n : Int} (h : x.toInt = n) : x = Int32.ofInt n := by rw [← h, Int32.ofInt_toInt]
theorem d1_0 : decode prog_18_method_9_code 0 = .ok (.iload_n 0, 1) := by decide +kernel
theorem d1_1 : decode prog_18_method_9_code 1 = .ok (.bipush 32, 2) := by decide +kernel
theorem d1_3 : decode prog_18_method_9_code 3 = .ok (.if_icmp .le 9, 3) := by decide +kernel
theorem d1_6 : decode prog_18_method_9_code 6 = .ok (.iload_n 0, 1) := by decide +kernel
theorem d1_7 : decode prog_18_method_9_code 7 = .ok (.bipush 127, 2) := by decide +kernel
theorem d1_9 : decode prog_18_method_9_code 9 = .ok (.if_icmp .ne 7, 3) := by decide +kernel
theorem d1_12 : decode prog_18_method_9_code 12 = .ok (.iconst 1, 1) := by decide +kernel
theorem d1_13 : decode prog_18_method_9_code 13 = .ok (.goto 4, 3) := by decide +kernel
theorem d1_16 : decode prog_18_method_9_code 16 = .ok (.iconst 0, 1) := by decide +kernel
theorem d1_17 : decode prog_18_method_9_code 17 = .ok (.ireturn, 1) := by decide +kernel
theorem pn_0 : plainName "com/example/convey/convey/io/FieldTokens" = true := by first | (simp [plainName, overriddenIn]; done) | decide +kernel
theorem ef_rm1 (m : MethodId) (p1 : Int32) : entryFrame m #[(.int p1)] 1 = mkF m 0 #[.val (.int p1)] [] := by first | (simp [entryFrame, mkF, argsToLocals, Value.category]; done) | rfl
def Q1 (Z : State) (p1 : Int32) (h0 : Heap) (n0 : Nat) (v : Option Value) (h : Heap) (L : List Loc) : Prop := v = some (.int (if ¬ (32 : Int32) < p1 ∨ p1 = 127 then 1 else 0)) ∧ Fr n0 L ∧ h = h0
set_option maxRecDepth 65536 in
set_option maxHeartbeats 40000000 in
theorem rm1 (l : Launch) (Z : State) (a0 : Array Value) (hw : ∀ d ∈ tables_1, d.before a0 Z = true) (ws : List Jvm.Cond) (p1 : Int32) (h0 : Heap) (n0 : Nat) (Z0 : n0 ≤ h0.size) :
    MetFree l (⟨"com/example/convey/convey/io/FieldTokens", "isSpace", "(C)Z"⟩ : MethodName) (head1 (Jvm.Cond.code (⟨"com/example/convey/convey/io/FieldTokens", "isSpace", "(C)Z"⟩ : MethodName) prog_18_method_9_code 1 (some .boolean) :: ws) ({ frames := 0, cells := 0, slots := 0, locals := 0 } : Room)) (fun a U => a = #[(.int p1)] ∧ Z.Warmed39 U.vm ∧ U.heap = h0) (fun _ _ _ _ _ => True) (fun _ U o U' => ∃ v L, o = .returned v ∧ Q1 Z p1 h0 n0 v U'.heap L ∧ FrameEnd U o U' L ({ frames := 0, cells := 0, slots := 0, locals := 0 } : Room).cells ({ frames := 0, cells := 0, slots := 0, locals := 0 } : Room).slots) := by
  refine MetFree.of_bodySF (plainFor_of_name pn_0) hisR ?_
  intro p e s m args below meth c s₁ Bd hml0 hP hK
  obtain ⟨rfl, hZ, hh⟩ := hP
  have hx := Bd.exec
  have hby := Bd.bytes
  have hml : c.maxLocals = 1 := hml0
  have hown : s.vm.findClass "com/example/convey/convey/io/FieldTokens" = some m.cls := findClass_of_methodNamed Bd.named
  have hnm := (name_of_methodNamed Bd.named Bd.method).1
  have X0 : Stand p l e ({ frames := 0, cells := 0, slots := 0, locals := 0 } : Room) s m #[(.int p1)] below meth c s₁ [] 0 0 := Stand.of_body Bd
  have e0 : s₁.heap = h0 := by rw [← hh, Bd.state]; rfl
  have N0 := Fr.nil n0
  have K0 := Keep.refl h0 []
  have go0 : Goes p e below s₁ (entryFrame m #[(.int p1)] 1) s₁ (mkF m 0 #[.val (.int p1)] []) := fun t k => castTop (ef_rm1 m p1) k
  have go1 : Goes p e below s₁ (entryFrame m #[(.int p1)] 1) s₁ (mkF m 3 #[.val (.int p1)] [(.int (32 : Int32)), (.int p1)]) := fun t k => by
    refine go0 t ?_
    refine XS.iloadN X0.here hx rfl (hb hby d1_0) rfl ?_
    show Steps p.tables e below (s₁.setTop (mkF m 1 #[.val (.int p1)] [(.int p1)])) _
    refine XS.bipush X0.here hx rfl (hb hby d1_1) ?_
    show Steps p.tables e below (s₁.setTop (mkF m 3 #[.val (.int p1)] [(.int (32 : Int32)), (.int p1)])) _
    exact k
  by_cases hc2 : (32 : Int32) < p1
  · have go3 : Goes p e below s₁ (entryFrame m #[(.int p1)] 1) s₁ (mkF m 9 #[.val (.int p1)] [(.int (127 : Int32)), (.int p1)]) := fun t k => by
      refine go1 t ?_
      refine XS.icmpNo X0.here hx rfl (hb hby d1_3) rfl (Jvm.Free.XT.ii_le_f hc2) ?_
      show Steps p.tables e below (s₁.setTop (mkF m 6 #[.val (.int p1)] [])) _
      refine XS.iloadN X0.here hx rfl (hb hby d1_6) rfl ?_
      show Steps p.tables e below (s₁.setTop (mkF m 7 #[.val (.int p1)] [(.int p1)])) _
      refine XS.bipush X0.here hx rfl (hb hby d1_7) ?_
      show Steps p.tables e below (s₁.setTop (mkF m 9 #[.val (.int p1)] [(.int (127 : Int32)), (.int p1)])) _
      exact k
    by_cases hc4 : p1 = (127 : Int32)
    · have go5 : Goes p e below s₁ (entryFrame m #[(.int p1)] 1) s₁ (mkF m 17 #[.val (.int p1)] [(.int (1 : Int32))]) := fun t k => by
        refine go3 t ?_
        refine XS.icmpNo X0.here hx rfl (hb hby d1_9) rfl (Jvm.Free.XT.ii_ne_f hc4) ?_
        show Steps p.tables e below (s₁.setTop (mkF m 12 #[.val (.int p1)] [])) _
        refine XS.iconst X0.here hx rfl (hb hby d1_12) ?_
        show Steps p.tables e below (s₁.setTop (mkF m 13 #[.val (.int p1)] [(.int (1 : Int32))])) _
        refine XS.goto X0.here hx rfl (pc0 := 13) (pc' := 17) rfl (hb hby d1_13) (by decide) (by decide) ?_
        show Steps p.tables e below (s₁.setTop (mkF m 17 #[.val (.int p1)] [(.int (1 : Int32))])) _
        exact k
      obtain ⟨fs, hr, hrun, hended, hW, hsame⟩ := X0.leave (v := some (.int (1 : Int32))) (fun h => by rw [Bd.returns] at h; cases h)
      refine ⟨_, _, go5 _ ?_, hrun, hended, _, _, rfl, ?_, ⟨_, rfl⟩, hW, hsame.mono (by decide) (by decide)⟩
      · exact retN X0 hx (t := .boolean) Bd.returns (by simp) (hb hby d1_17) hr
      · show Q1 Z _ _ _ _ s₁.heap _
        rw [e0]
        exact ⟨by simp [hc2, hc4], N0, rfl⟩
    · have go6 : Goes p e below s₁ (entryFrame m #[(.int p1)] 1) s₁ (mkF m 17 #[.val (.int p1)] [(.int (0 : Int32))]) := fun t k => by
        refine go3 t ?_
        refine XS.icmpYes X0.here hx rfl (pc0 := 9) (pc' := 16) rfl (hb hby d1_9) rfl (Jvm.Free.XT.ii_ne_t hc4) (by decide) (by decide) ?_
        show Steps p.tables e below (s₁.setTop (mkF m 16 #[.val (.int p1)] [])) _
        refine XS.iconst X0.here hx rfl (hb hby d1_16) ?_
        show Steps p.tables e below (s₁.setTop (mkF m 17 #[.val (.int p1)] [(.int (0 : Int32))])) _
        exact k
      obtain ⟨fs, hr, hrun, hended, hW, hsame⟩ := X0.leave (v := some (.int (0 : Int32))) (fun h => by rw [Bd.returns] at h; cases h)
      refine ⟨_, _, go6 _ ?_, hrun, hended, _, _, rfl, ?_, ⟨_, rfl⟩, hW, hsame.mono (by decide) (by decide)⟩
      · exact retN X0 hx (t := .boolean) Bd.returns (by simp) (hb hby d1_17) hr
      · show Q1 Z _ _ _ _ s₁.heap _
        rw [e0]
        exact ⟨by simp [hc2, hc4], N0, rfl⟩
  · have go7 : Goes p e below s₁ (entryFrame m #[(.int p1)] 1) s₁ (mkF m 17 #[.val (.int p1)] [(.int (1 : Int32))]) := fun t k => by
      refine go1 t ?_
      refine XS.icmpYes X0.here hx rfl (pc0 := 3) (pc' := 12) rfl (hb hby d1_3) rfl (Jvm.Free.XT.ii_le_t hc2) (by decide) (by decide) ?_
      show Steps p.tables e below (s₁.setTop (mkF m 12 #[.val (.int p1)] [])) _
      refine XS.iconst X0.here hx rfl (hb hby d1_12) ?_
      show Steps p.tables e below (s₁.setTop (mkF m 13 #[.val (.int p1)] [(.int (1 : Int32))])) _
      refine XS.goto X0.here hx rfl (pc0 := 13) (pc' := 17) rfl (hb hby d1_13) (by decide) (by decide) ?_
      show Steps p.tables e below (s₁.setTop (mkF m 17 #[.val (.int p1)] [(.int (1 : Int32))])) _
      exact k
    obtain ⟨fs, hr, hrun, hended, hW, hsame⟩ := X0.leave (v := some (.int (1 : Int32))) (fun h => by rw [Bd.returns] at h; cases h)
    refine ⟨_, _, go7 _ ?_, hrun, hended, _, _, rfl, ?_, ⟨_, rfl⟩, hW, hsame.mono (by decide) (by decide)⟩
    · exact retN X0 hx (t := .boolean) Bd.returns (by simp) (hb hby d1_17) hr
    · show Q1 Z _ _ _ _ s₁.heap _
      rw [e0]
      exact ⟨by simp [hc2], N0, rfl⟩
theorem own_i2c {x : Int32} (h0 : 0 ≤ x.toInt) (h1 : x.toInt < 65536) : x.toUInt32.toUInt16.toUInt32.toInt32 = x := by
  have e := Jvm.Kit.i32_mask x 65535 (k := 16) (by decide) (by decide)
  have e2 : x &&& 65535 = x := by
    apply Int32.toInt_inj.mp; rw [e]; omega
  apply Int32.toBitVec_inj.mp
  have e3 : (x.toUInt32.toUInt16.toUInt32.toInt32).toBitVec = (x.toBitVec.setWidth 16).setWidth 32 := rfl
  have e4 : x.toBitVec.toNat < 65536 := by
    have := congrArg Int32.toBitVec e2
    rw [Int32.toBitVec_and] at this
    have h5 := congrArg BitVec.toNat this
    rw [BitVec.toNat_and] at h5
    have h6 : (65535 : Int32).toBitVec.toNat = 2 ^ 16 - 1 := rfl
    rw [h6, Nat.and_two_pow_sub_one_eq_mod] at h5
    omega
  rw [e3]
  apply BitVec.eq_of_toNat_eq
  simp only [BitVec.toNat_setWidth]
  omega
theorem own_a (a : Int32) : (¬ (32 : Int32) < (a &&& (31 : Int32)).toUInt32.toUInt16.toUInt32.toInt32 ∨ (a &&& (31 : Int32)).toUInt32.toUInt16.toUInt32.toInt32 = 127) := by
  have e := Jvm.Kit.i32_mask a 31 (k := 5) (by decide) (by decide)
  rw [own_i2c (by omega) (by omega)]
  left; rw [Int32.lt_iff_toInt_lt]
  have : (32 : Int32).toInt = 32 := rfl
  omega
theorem own_b (a : Int32) : ¬ (¬ (32 : Int32) < ((33 : Int32) + ((a &&& (2147483647 : Int32)) % (94 : Int32))).toUInt32.toUInt16.toUInt32.toInt32 ∨ ((33 : Int32) + ((a &&& (2147483647 : Int32)) % (94 : Int32))).toUInt32.toUInt16.toUInt32.toInt32 = 127) := by
  obtain ⟨h1, h2⟩ := own_rem a 94 (by decide)
  have e94 : (94 : Int32).toInt = 94 := rfl
  have e33 : (33 : Int32).toInt = 33 := rfl
  have e := Jvm.Kit.i32_add (p := 33) (q := ((a &&& (2147483647 : Int32)) % (94 : Int32))) (by omega) (by omega)
  rw [own_i2c (by omega) (by omega)]
  rintro (h | h)
  · rw [Int32.lt_iff_toInt_lt] at h
    have : (32 : Int32).toInt = 32 := rfl
    omega
  · have := congrArg Int32.toInt h
    have e127 : (127 : Int32).toInt = 127 := rfl
    omega
theorem own_c (a : Int32) : ¬ (¬ (32 : Int32) < ((128 : Int32) + ((a &&& (2147483647 : Int32)) % (65408 : Int32))).toUInt32.toUInt16.toUInt32.toInt32 ∨ ((128 : Int32) + ((a &&& (2147483647 : Int32)) % (65408 : Int32))).toUInt32.toUInt16.toUInt32.toInt32 = 127) := by
  obtain ⟨h1, h2⟩ := own_rem a 65408 (by decide)
  have e94 : (65408 : Int32).toInt = 65408 := rfl
  have e33 : (128 : Int32).toInt = 128 := rfl
  have e := Jvm.Kit.i32_add (p := 128) (q := ((a &&& (2147483647 : Int32)) % (65408 : Int32))) (by omega) (by omega)
  rw [own_i2c (by omega) (by omega)]
  rintro (h | h)
  · rw [Int32.lt_iff_toInt_lt] at h
    have : (32 : Int32).toInt = 32 := rfl
    omega
  · have := congrArg Int32.toInt h
    have e127 : (127 : Int32).toInt = 127 := rfl
    omega
theorem pd_0 : parseMethodDescriptor "(C)Z" = some ⟨[.char], some .boolean⟩ := by decide +kernel
theorem pn_1 : plainName "com/example/convey/convey/io/FieldTokensIsSpacePinLaw" = true := by first | (simp [plainName, overriddenIn]; done) | decide +kernel
theorem ef_rm0 (m : MethodId) (p1 : Int32) (p2 : Int32) (p3 : Int32) : entryFrame m #[(.int p1), (.int p2), (.int p3)] maxLocals = mkF m 0 #[.val (.int p1), .val (.int p2), .val (.int p3), .unset, .unset, .unset, .unset, .unset, .unset, .unset, .unset] [] := by first | (simp [entryFrame, mkF, argsToLocals, Value.category, maxLocals]; done) | rfl
def Q0 (Z : State) (p1 : Int32) (p2 : Int32) (p3 : Int32) (h0 : Heap) (n0 : Nat) (v : Option Value) (h : Heap) (L : List Loc) : Prop := v = some (.int 1) ∧ Fr n0 L
set_option maxRecDepth 65536 in
set_option maxHeartbeats 40000000 in
theorem rm0 (l : Launch) (Z : State) (a0 : Array Value) (hw : ∀ d ∈ tables_1, d.before a0 Z = true) (ws : List Jvm.Cond) (p1 : Int32) (p2 : Int32) (p3 : Int32) (h0 : Heap) (n0 : Nat) (Z0 : n0 ≤ h0.size) :
    MetFree l x (head1 (Jvm.Cond.code x code maxLocals ret :: ws) room_1) (fun a U => a = #[(.int p1), (.int p2), (.int p3)] ∧ Z.Warmed39 U.vm ∧ U.heap = h0) (fun _ _ _ _ _ => True) (fun _ U o U' => ∃ v L, o = .returned v ∧ Q0 Z p1 p2 p3 h0 n0 v U'.heap L ∧ FrameEnd U o U' L room_1.cells room_1.slots) := by
  refine MetFree.of_bodySF (plainFor_of_name pn_1) hisR ?_
  intro p e s m args below meth c s₁ Bd hml0 hP hK
  obtain ⟨rfl, hZ, hh⟩ := hP
  have hx := Bd.exec
  have hby := Bd.bytes
  have hml : c.maxLocals = 11 := hml0
  have hown : s.vm.findClass "com/example/convey/convey/io/FieldTokensIsSpacePinLaw" = some m.cls := findClass_of_methodNamed Bd.named
  have hnm := (name_of_methodNamed Bd.named Bd.method).1
  have X0 : Stand p l e room_1 s m #[(.int p1), (.int p2), (.int p3)] below meth c s₁ [] 0 0 := Stand.of_body Bd
  have e0 : s₁.heap = h0 := by rw [← hh, Bd.state]; rfl
  have N0 := Fr.nil n0
  have K0 := Keep.refl h0 []
  have go0 : Goes p e below s₁ (entryFrame m #[(.int p1), (.int p2), (.int p3)] maxLocals) s₁ (mkF m 0 #[.val (.int p1), .val (.int p2), .val (.int p3), .unset, .unset, .unset, .unset, .unset, .unset, .unset, .unset] []) := fun t k => castTop (ef_rm0 m p1 p2 p3) k
  have go1 : Goes p e below s₁ (entryFrame m #[(.int p1), (.int p2), (.int p3)] maxLocals) s₁ (mkF m 34 #[.val (.int p1), .val (.int p2), .val (.int p3), .val (.int ((p1 &&& (31 : Int32)).toUInt32.toUInt16.toUInt32.toInt32)), .val (.int (((33 : Int32) + ((p2 &&& (2147483647 : Int32)) % (94 : Int32))).toUInt32.toUInt16.toUInt32.toInt32)), .val (.int (((128 : Int32) + ((p3 &&& (2147483647 : Int32)) % (65408 : Int32))).toUInt32.toUInt16.toUInt32.toInt32)), .unset, .unset, .unset, .unset, .unset] [(.int ((p1 &&& (31 : Int32)).toUInt32.toUInt16.toUInt32.toInt32))]) := fun t k => by
    refine go0 t ?_
    refine XS.iloadN X0.here hx rfl (hb hby at_0) rfl ?_
    show Steps p.tables e below (s₁.setTop (mkF m 1 #[.val (.int p1), .val (.int p2), .val (.int p3), .unset, .unset, .unset, .unset, .unset, .unset, .unset, .unset] [(.int p1)])) _
    refine XS.bipush X0.here hx rfl (hb hby at_1) ?_
    show Steps p.tables e below (s₁.setTop (mkF m 3 #[.val (.int p1), .val (.int p2), .val (.int p3), .unset, .unset, .unset, .unset, .unset, .unset, .unset, .unset] [(.int (31 : Int32)), (.int p1)])) _
    refine XS.iand X0.here hx rfl (hb hby at_3) rfl ?_
    show Steps p.tables e below (s₁.setTop (mkF m 4 #[.val (.int p1), .val (.int p2), .val (.int p3), .unset, .unset, .unset, .unset, .unset, .unset, .unset, .unset] [(.int (p1 &&& (31 : Int32)))])) _
    refine XS.i2c X0.here hx rfl (hb hby at_4) rfl ?_
    show Steps p.tables e below (s₁.setTop (mkF m 5 #[.val (.int p1), .val (.int p2), .val (.int p3), .unset, .unset, .unset, .unset, .unset, .unset, .unset, .unset] [(.int ((p1 &&& (31 : Int32)).toUInt32.toUInt16.toUInt32.toInt32))])) _
    refine XS.istoreN X0.here hx rfl (hb hby at_5) rfl (l' := #[.val (.int p1), .val (.int p2), .val (.int p3), .val (.int ((p1 &&& (31 : Int32)).toUInt32.toUInt16.toUInt32.toInt32)), .unset, .unset, .unset, .unset, .unset, .unset, .unset]) rfl ?_
    show Steps p.tables e below (s₁.setTop (mkF m 6 #[.val (.int p1), .val (.int p2), .val (.int p3), .val (.int ((p1 &&& (31 : Int32)).toUInt32.toUInt16.toUInt32.toInt32)), .unset, .unset, .unset, .unset, .unset, .unset, .unset] [])) _
    refine XS.bipush X0.here hx rfl (hb hby at_6) ?_
    show Steps p.tables e below (s₁.setTop (mkF m 8 #[.val (.int p1), .val (.int p2), .val (.int p3), .val (.int ((p1 &&& (31 : Int32)).toUInt32.toUInt16.toUInt32.toInt32)), .unset, .unset, .unset, .unset, .unset, .unset, .unset] [(.int (33 : Int32))])) _
    refine XS.iloadN X0.here hx rfl (hb hby at_8) rfl ?_
    show Steps p.tables e below (s₁.setTop (mkF m 9 #[.val (.int p1), .val (.int p2), .val (.int p3), .val (.int ((p1 &&& (31 : Int32)).toUInt32.toUInt16.toUInt32.toInt32)), .unset, .unset, .unset, .unset, .unset, .unset, .unset] [(.int p2), (.int (33 : Int32))])) _
    refine X0.ldcInt hx hown (mvT hZ (hw _ (List.mem_of_getElem? (i := 0) rfl))) (g := (mkF m 9 #[.val (.int p1), .val (.int p2), .val (.int p3), .val (.int ((p1 &&& (31 : Int32)).toUInt32.toUInt16.toUInt32.toInt32)), .unset, .unset, .unset, .unset, .unset, .unset, .unset] [(.int p2), (.int (33 : Int32))])) rfl (hb hby at_9) _ ?_
    show Steps p.tables e below (s₁.setTop (mkF m 11 #[.val (.int p1), .val (.int p2), .val (.int p3), .val (.int ((p1 &&& (31 : Int32)).toUInt32.toUInt16.toUInt32.toInt32)), .unset, .unset, .unset, .unset, .unset, .unset, .unset] [(.int (2147483647 : Int32)), (.int p2), (.int (33 : Int32))])) _
    refine XS.iand X0.here hx rfl (hb hby at_11) rfl ?_
    show Steps p.tables e below (s₁.setTop (mkF m 12 #[.val (.int p1), .val (.int p2), .val (.int p3), .val (.int ((p1 &&& (31 : Int32)).toUInt32.toUInt16.toUInt32.toInt32)), .unset, .unset, .unset, .unset, .unset, .unset, .unset] [(.int (p2 &&& (2147483647 : Int32))), (.int (33 : Int32))])) _
    refine XS.bipush X0.here hx rfl (hb hby at_12) ?_
    show Steps p.tables e below (s₁.setTop (mkF m 14 #[.val (.int p1), .val (.int p2), .val (.int p3), .val (.int ((p1 &&& (31 : Int32)).toUInt32.toUInt16.toUInt32.toInt32)), .unset, .unset, .unset, .unset, .unset, .unset, .unset] [(.int (94 : Int32)), (.int (p2 &&& (2147483647 : Int32))), (.int (33 : Int32))])) _
    refine iremM X0 hx rfl (hb hby at_14) rfl (by decide) ?_
    show Steps p.tables e below (s₁.setTop (mkF m 15 #[.val (.int p1), .val (.int p2), .val (.int p3), .val (.int ((p1 &&& (31 : Int32)).toUInt32.toUInt16.toUInt32.toInt32)), .unset, .unset, .unset, .unset, .unset, .unset, .unset] [(.int ((p2 &&& (2147483647 : Int32)) % (94 : Int32))), (.int (33 : Int32))])) _
    refine XS.iadd X0.here hx rfl (hb hby at_15) rfl ?_
    show Steps p.tables e below (s₁.setTop (mkF m 16 #[.val (.int p1), .val (.int p2), .val (.int p3), .val (.int ((p1 &&& (31 : Int32)).toUInt32.toUInt16.toUInt32.toInt32)), .unset, .unset, .unset, .unset, .unset, .unset, .unset] [(.int ((33 : Int32) + ((p2 &&& (2147483647 : Int32)) % (94 : Int32))))])) _
    refine XS.i2c X0.here hx rfl (hb hby at_16) rfl ?_
    show Steps p.tables e below (s₁.setTop (mkF m 17 #[.val (.int p1), .val (.int p2), .val (.int p3), .val (.int ((p1 &&& (31 : Int32)).toUInt32.toUInt16.toUInt32.toInt32)), .unset, .unset, .unset, .unset, .unset, .unset, .unset] [(.int (((33 : Int32) + ((p2 &&& (2147483647 : Int32)) % (94 : Int32))).toUInt32.toUInt16.toUInt32.toInt32))])) _
    refine XS.istore X0.here hx rfl (hb hby at_17) rfl (l' := #[.val (.int p1), .val (.int p2), .val (.int p3), .val (.int ((p1 &&& (31 : Int32)).toUInt32.toUInt16.toUInt32.toInt32)), .val (.int (((33 : Int32) + ((p2 &&& (2147483647 : Int32)) % (94 : Int32))).toUInt32.toUInt16.toUInt32.toInt32)), .unset, .unset, .unset, .unset, .unset, .unset]) rfl ?_
    show Steps p.tables e below (s₁.setTop (mkF m 19 #[.val (.int p1), .val (.int p2), .val (.int p3), .val (.int ((p1 &&& (31 : Int32)).toUInt32.toUInt16.toUInt32.toInt32)), .val (.int (((33 : Int32) + ((p2 &&& (2147483647 : Int32)) % (94 : Int32))).toUInt32.toUInt16.toUInt32.toInt32)), .unset, .unset, .unset, .unset, .unset, .unset] [])) _
    refine XS.sipush X0.here hx rfl (hb hby at_19) ?_
    show Steps p.tables e below (s₁.setTop (mkF m 22 #[.val (.int p1), .val (.int p2), .val (.int p3), .val (.int ((p1 &&& (31 : Int32)).toUInt32.toUInt16.toUInt32.toInt32)), .val (.int (((33 : Int32) + ((p2 &&& (2147483647 : Int32)) % (94 : Int32))).toUInt32.toUInt16.toUInt32.toInt32)), .unset, .unset, .unset, .unset, .unset, .unset] [(.int (128 : Int32))])) _
    refine XS.iloadN X0.here hx rfl (hb hby at_22) rfl ?_
    show Steps p.tables e below (s₁.setTop (mkF m 23 #[.val (.int p1), .val (.int p2), .val (.int p3), .val (.int ((p1 &&& (31 : Int32)).toUInt32.toUInt16.toUInt32.toInt32)), .val (.int (((33 : Int32) + ((p2 &&& (2147483647 : Int32)) % (94 : Int32))).toUInt32.toUInt16.toUInt32.toInt32)), .unset, .unset, .unset, .unset, .unset, .unset] [(.int p3), (.int (128 : Int32))])) _
    refine X0.ldcInt hx hown (mvT hZ (hw _ (List.mem_of_getElem? (i := 0) rfl))) (g := (mkF m 23 #[.val (.int p1), .val (.int p2), .val (.int p3), .val (.int ((p1 &&& (31 : Int32)).toUInt32.toUInt16.toUInt32.toInt32)), .val (.int (((33 : Int32) + ((p2 &&& (2147483647 : Int32)) % (94 : Int32))).toUInt32.toUInt16.toUInt32.toInt32)), .unset, .unset, .unset, .unset, .unset, .unset] [(.int p3), (.int (128 : Int32))])) rfl (hb hby at_23) _ ?_
    show Steps p.tables e below (s₁.setTop (mkF m 25 #[.val (.int p1), .val (.int p2), .val (.int p3), .val (.int ((p1 &&& (31 : Int32)).toUInt32.toUInt16.toUInt32.toInt32)), .val (.int (((33 : Int32) + ((p2 &&& (2147483647 : Int32)) % (94 : Int32))).toUInt32.toUInt16.toUInt32.toInt32)), .unset, .unset, .unset, .unset, .unset, .unset] [(.int (2147483647 : Int32)), (.int p3), (.int (128 : Int32))])) _
    refine XS.iand X0.here hx rfl (hb hby at_25) rfl ?_
    show Steps p.tables e below (s₁.setTop (mkF m 26 #[.val (.int p1), .val (.int p2), .val (.int p3), .val (.int ((p1 &&& (31 : Int32)).toUInt32.toUInt16.toUInt32.toInt32)), .val (.int (((33 : Int32) + ((p2 &&& (2147483647 : Int32)) % (94 : Int32))).toUInt32.toUInt16.toUInt32.toInt32)), .unset, .unset, .unset, .unset, .unset, .unset] [(.int (p3 &&& (2147483647 : Int32))), (.int (128 : Int32))])) _
    refine X0.ldcInt hx hown (mvT hZ (hw _ (List.mem_of_getElem? (i := 1) rfl))) (g := (mkF m 26 #[.val (.int p1), .val (.int p2), .val (.int p3), .val (.int ((p1 &&& (31 : Int32)).toUInt32.toUInt16.toUInt32.toInt32)), .val (.int (((33 : Int32) + ((p2 &&& (2147483647 : Int32)) % (94 : Int32))).toUInt32.toUInt16.toUInt32.toInt32)), .unset, .unset, .unset, .unset, .unset, .unset] [(.int (p3 &&& (2147483647 : Int32))), (.int (128 : Int32))])) rfl (hb hby at_26) _ ?_
    show Steps p.tables e below (s₁.setTop (mkF m 28 #[.val (.int p1), .val (.int p2), .val (.int p3), .val (.int ((p1 &&& (31 : Int32)).toUInt32.toUInt16.toUInt32.toInt32)), .val (.int (((33 : Int32) + ((p2 &&& (2147483647 : Int32)) % (94 : Int32))).toUInt32.toUInt16.toUInt32.toInt32)), .unset, .unset, .unset, .unset, .unset, .unset] [(.int (65408 : Int32)), (.int (p3 &&& (2147483647 : Int32))), (.int (128 : Int32))])) _
    refine iremM X0 hx rfl (hb hby at_28) rfl (by decide) ?_
    show Steps p.tables e below (s₁.setTop (mkF m 29 #[.val (.int p1), .val (.int p2), .val (.int p3), .val (.int ((p1 &&& (31 : Int32)).toUInt32.toUInt16.toUInt32.toInt32)), .val (.int (((33 : Int32) + ((p2 &&& (2147483647 : Int32)) % (94 : Int32))).toUInt32.toUInt16.toUInt32.toInt32)), .unset, .unset, .unset, .unset, .unset, .unset] [(.int ((p3 &&& (2147483647 : Int32)) % (65408 : Int32))), (.int (128 : Int32))])) _
    refine XS.iadd X0.here hx rfl (hb hby at_29) rfl ?_
    show Steps p.tables e below (s₁.setTop (mkF m 30 #[.val (.int p1), .val (.int p2), .val (.int p3), .val (.int ((p1 &&& (31 : Int32)).toUInt32.toUInt16.toUInt32.toInt32)), .val (.int (((33 : Int32) + ((p2 &&& (2147483647 : Int32)) % (94 : Int32))).toUInt32.toUInt16.toUInt32.toInt32)), .unset, .unset, .unset, .unset, .unset, .unset] [(.int ((128 : Int32) + ((p3 &&& (2147483647 : Int32)) % (65408 : Int32))))])) _
    refine XS.i2c X0.here hx rfl (hb hby at_30) rfl ?_
    show Steps p.tables e below (s₁.setTop (mkF m 31 #[.val (.int p1), .val (.int p2), .val (.int p3), .val (.int ((p1 &&& (31 : Int32)).toUInt32.toUInt16.toUInt32.toInt32)), .val (.int (((33 : Int32) + ((p2 &&& (2147483647 : Int32)) % (94 : Int32))).toUInt32.toUInt16.toUInt32.toInt32)), .unset, .unset, .unset, .unset, .unset, .unset] [(.int (((128 : Int32) + ((p3 &&& (2147483647 : Int32)) % (65408 : Int32))).toUInt32.toUInt16.toUInt32.toInt32))])) _
    refine XS.istore X0.here hx rfl (hb hby at_31) rfl (l' := #[.val (.int p1), .val (.int p2), .val (.int p3), .val (.int ((p1 &&& (31 : Int32)).toUInt32.toUInt16.toUInt32.toInt32)), .val (.int (((33 : Int32) + ((p2 &&& (2147483647 : Int32)) % (94 : Int32))).toUInt32.toUInt16.toUInt32.toInt32)), .val (.int (((128 : Int32) + ((p3 &&& (2147483647 : Int32)) % (65408 : Int32))).toUInt32.toUInt16.toUInt32.toInt32)), .unset, .unset, .unset, .unset, .unset]) rfl ?_
    show Steps p.tables e below (s₁.setTop (mkF m 33 #[.val (.int p1), .val (.int p2), .val (.int p3), .val (.int ((p1 &&& (31 : Int32)).toUInt32.toUInt16.toUInt32.toInt32)), .val (.int (((33 : Int32) + ((p2 &&& (2147483647 : Int32)) % (94 : Int32))).toUInt32.toUInt16.toUInt32.toInt32)), .val (.int (((128 : Int32) + ((p3 &&& (2147483647 : Int32)) % (65408 : Int32))).toUInt32.toUInt16.toUInt32.toInt32)), .unset, .unset, .unset, .unset, .unset] [])) _
    refine XS.iloadN X0.here hx rfl (hb hby at_33) rfl ?_
    show Steps p.tables e below (s₁.setTop (mkF m 34 #[.val (.int p1), .val (.int p2), .val (.int p3), .val (.int ((p1 &&& (31 : Int32)).toUInt32.toUInt16.toUInt32.toInt32)), .val (.int (((33 : Int32) + ((p2 &&& (2147483647 : Int32)) % (94 : Int32))).toUInt32.toUInt16.toUInt32.toInt32)), .val (.int (((128 : Int32) + ((p3 &&& (2147483647 : Int32)) % (65408 : Int32))).toUInt32.toUInt16.toUInt32.toInt32)), .unset, .unset, .unset, .unset, .unset] [(.int ((p1 &&& (31 : Int32)).toUInt32.toUInt16.toUInt32.toInt32))])) _
    exact k
  obtain ⟨_, _, ⟨T2, L2, k2, n2⟩, -, X2, ⟨Lc2, hQ2, l2, y2, z2⟩, st2⟩ := Jvm.LawKit.callS X0 hx (y := (⟨"com/example/convey/convey/io/FieldTokens", "isSpace", "(C)Z"⟩ : MethodName)) hown (mvT hZ (hw _ (List.mem_of_getElem? (i := 2) rfl))) (mvT hZ (hw _ (List.mem_of_getElem? (i := 3) rfl))) (mvT hZ (hw _ (List.mem_of_getElem? (i := 4) rfl))) (mvT hZ (hw _ (List.mem_of_getElem? (i := 5) rfl))) (by decide) (backOf (W := 0) (rm1 l Z a0 hw [] ((p1 &&& (31 : Int32)).toUInt32.toUInt16.toUInt32.toInt32) h0 n0 Z0) hZ (hw _ (List.mem_of_getElem? (i := 5) rfl)) (hw _ (List.mem_of_getElem? (i := 4) rfl)) (by decide) (by decide)) (g := (mkF m 34 #[.val (.int p1), .val (.int p2), .val (.int p3), .val (.int ((p1 &&& (31 : Int32)).toUInt32.toUInt16.toUInt32.toInt32)), .val (.int (((33 : Int32) + ((p2 &&& (2147483647 : Int32)) % (94 : Int32))).toUInt32.toUInt16.toUInt32.toInt32)), .val (.int (((128 : Int32) + ((p3 &&& (2147483647 : Int32)) % (65408 : Int32))).toUInt32.toUInt16.toUInt32.toInt32)), .unset, .unset, .unset, .unset, .unset] [(.int ((p1 &&& (31 : Int32)).toUInt32.toUInt16.toUInt32.toInt32))])) rfl (by rw [hml]; rfl) (argsL := [(.int ((p1 &&& (31 : Int32)).toUInt32.toUInt16.toUInt32.toInt32))]) (rest := []) (lenOf pd_0 rfl) rfl (by show 2 * 0 + _ ≤ _; exact Nat.le_of_eq rfl) (hb hby at_34) (fun _ _ => ⟨rfl, e0, (by decide : 0 + 0 ≤ room_1.cells), (by decide : 0 + 0 ≤ room_1.slots)⟩)
  dsimp only [Pt.U, Pt.locs, Pt.cells, Pt.slots] at X2 l2 y2 z2 st2 hQ2
  subst l2 y2 z2
  obtain ⟨rfl, N2q, e2⟩ := hQ2
  have N2 := Fr.app N0 N2q
  have go3 : Goes p e below s₁ (entryFrame m #[(.int p1), (.int p2), (.int p3)] maxLocals) T2 (mkF m 37 #[.val (.int p1), .val (.int p2), .val (.int p3), .val (.int ((p1 &&& (31 : Int32)).toUInt32.toUInt16.toUInt32.toInt32)), .val (.int (((33 : Int32) + ((p2 &&& (2147483647 : Int32)) % (94 : Int32))).toUInt32.toUInt16.toUInt32.toInt32)), .val (.int (((128 : Int32) + ((p3 &&& (2147483647 : Int32)) % (65408 : Int32))).toUInt32.toUInt16.toUInt32.toInt32)), .unset, .unset, .unset, .unset, .unset] [(.int (if ¬ (32 : Int32) < ((p1 &&& (31 : Int32)).toUInt32.toUInt16.toUInt32.toInt32) ∨ ((p1 &&& (31 : Int32)).toUInt32.toUInt16.toUInt32.toInt32) = 127 then 1 else 0))]) := fun t k => go1 t (st2 t k)
  have go4 : Goes p e below s₁ (entryFrame m #[(.int p1), (.int p2), (.int p3)] maxLocals) T2 (mkF m 41 #[.val (.int p1), .val (.int p2), .val (.int p3), .val (.int ((p1 &&& (31 : Int32)).toUInt32.toUInt16.toUInt32.toInt32)), .val (.int (((33 : Int32) + ((p2 &&& (2147483647 : Int32)) % (94 : Int32))).toUInt32.toUInt16.toUInt32.toInt32)), .val (.int (((128 : Int32) + ((p3 &&& (2147483647 : Int32)) % (65408 : Int32))).toUInt32.toUInt16.toUInt32.toInt32)), .val (.int (if ¬ (32 : Int32) < ((p1 &&& (31 : Int32)).toUInt32.toUInt16.toUInt32.toInt32) ∨ ((p1 &&& (31 : Int32)).toUInt32.toUInt16.toUInt32.toInt32) = 127 then 1 else 0)), .unset, .unset, .unset, .unset] [(.int (32 : Int32))]) := fun t k => by
    refine go3 t ?_
    refine XS.istore X2.here hx rfl (hb hby at_37) rfl (l' := #[.val (.int p1), .val (.int p2), .val (.int p3), .val (.int ((p1 &&& (31 : Int32)).toUInt32.toUInt16.toUInt32.toInt32)), .val (.int (((33 : Int32) + ((p2 &&& (2147483647 : Int32)) % (94 : Int32))).toUInt32.toUInt16.toUInt32.toInt32)), .val (.int (((128 : Int32) + ((p3 &&& (2147483647 : Int32)) % (65408 : Int32))).toUInt32.toUInt16.toUInt32.toInt32)), .val (.int (if ¬ (32 : Int32) < ((p1 &&& (31 : Int32)).toUInt32.toUInt16.toUInt32.toInt32) ∨ ((p1 &&& (31 : Int32)).toUInt32.toUInt16.toUInt32.toInt32) = 127 then 1 else 0)), .unset, .unset, .unset, .unset]) rfl ?_
    show Steps p.tables e below (T2.setTop (mkF m 39 #[.val (.int p1), .val (.int p2), .val (.int p3), .val (.int ((p1 &&& (31 : Int32)).toUInt32.toUInt16.toUInt32.toInt32)), .val (.int (((33 : Int32) + ((p2 &&& (2147483647 : Int32)) % (94 : Int32))).toUInt32.toUInt16.toUInt32.toInt32)), .val (.int (((128 : Int32) + ((p3 &&& (2147483647 : Int32)) % (65408 : Int32))).toUInt32.toUInt16.toUInt32.toInt32)), .val (.int (if ¬ (32 : Int32) < ((p1 &&& (31 : Int32)).toUInt32.toUInt16.toUInt32.toInt32) ∨ ((p1 &&& (31 : Int32)).toUInt32.toUInt16.toUInt32.toInt32) = 127 then 1 else 0)), .unset, .unset, .unset, .unset] [])) _
    refine XS.bipush X2.here hx rfl (hb hby at_39) ?_
    show Steps p.tables e below (T2.setTop (mkF m 41 #[.val (.int p1), .val (.int p2), .val (.int p3), .val (.int ((p1 &&& (31 : Int32)).toUInt32.toUInt16.toUInt32.toInt32)), .val (.int (((33 : Int32) + ((p2 &&& (2147483647 : Int32)) % (94 : Int32))).toUInt32.toUInt16.toUInt32.toInt32)), .val (.int (((128 : Int32) + ((p3 &&& (2147483647 : Int32)) % (65408 : Int32))).toUInt32.toUInt16.toUInt32.toInt32)), .val (.int (if ¬ (32 : Int32) < ((p1 &&& (31 : Int32)).toUInt32.toUInt16.toUInt32.toInt32) ∨ ((p1 &&& (31 : Int32)).toUInt32.toUInt16.toUInt32.toInt32) = 127 then 1 else 0)), .unset, .unset, .unset, .unset] [(.int (32 : Int32))])) _
    exact k
  obtain ⟨_, _, ⟨T5, L5, k5, n5⟩, -, X5, ⟨Lc5, hQ5, l5, y5, z5⟩, st5⟩ := Jvm.LawKit.callS X2 hx (y := (⟨"com/example/convey/convey/io/FieldTokens", "isSpace", "(C)Z"⟩ : MethodName)) hown (mvT hZ (hw _ (List.mem_of_getElem? (i := 2) rfl))) (mvT hZ (hw _ (List.mem_of_getElem? (i := 3) rfl))) (mvT hZ (hw _ (List.mem_of_getElem? (i := 4) rfl))) (mvT hZ (hw _ (List.mem_of_getElem? (i := 5) rfl))) (by decide) (backOf (W := 0) (rm1 l Z a0 hw [] (32 : Int32) h0 n0 Z0) hZ (hw _ (List.mem_of_getElem? (i := 5) rfl)) (hw _ (List.mem_of_getElem? (i := 4) rfl)) (by decide) (by decide)) (g := (mkF m 41 #[.val (.int p1), .val (.int p2), .val (.int p3), .val (.int ((p1 &&& (31 : Int32)).toUInt32.toUInt16.toUInt32.toInt32)), .val (.int (((33 : Int32) + ((p2 &&& (2147483647 : Int32)) % (94 : Int32))).toUInt32.toUInt16.toUInt32.toInt32)), .val (.int (((128 : Int32) + ((p3 &&& (2147483647 : Int32)) % (65408 : Int32))).toUInt32.toUInt16.toUInt32.toInt32)), .val (.int (if ¬ (32 : Int32) < ((p1 &&& (31 : Int32)).toUInt32.toUInt16.toUInt32.toInt32) ∨ ((p1 &&& (31 : Int32)).toUInt32.toUInt16.toUInt32.toInt32) = 127 then 1 else 0)), .unset, .unset, .unset, .unset] [(.int (32 : Int32))])) rfl (by rw [hml]; rfl) (argsL := [(.int (32 : Int32))]) (rest := []) (lenOf pd_0 rfl) rfl (by show 2 * 0 + _ ≤ _; exact Nat.le_of_eq rfl) (hb hby at_41) (fun _ _ => ⟨rfl, e2, (by decide : 0 + 0 ≤ room_1.cells), (by decide : 0 + 0 ≤ room_1.slots)⟩)
  dsimp only [Pt.U, Pt.locs, Pt.cells, Pt.slots] at X5 l5 y5 z5 st5 hQ5
  subst l5 y5 z5
  obtain ⟨rfl, N5q, e5⟩ := hQ5
  have N5 := Fr.app N2 N5q
  have go6 : Goes p e below s₁ (entryFrame m #[(.int p1), (.int p2), (.int p3)] maxLocals) T5 (mkF m 44 #[.val (.int p1), .val (.int p2), .val (.int p3), .val (.int ((p1 &&& (31 : Int32)).toUInt32.toUInt16.toUInt32.toInt32)), .val (.int (((33 : Int32) + ((p2 &&& (2147483647 : Int32)) % (94 : Int32))).toUInt32.toUInt16.toUInt32.toInt32)), .val (.int (((128 : Int32) + ((p3 &&& (2147483647 : Int32)) % (65408 : Int32))).toUInt32.toUInt16.toUInt32.toInt32)), .val (.int (if ¬ (32 : Int32) < ((p1 &&& (31 : Int32)).toUInt32.toUInt16.toUInt32.toInt32) ∨ ((p1 &&& (31 : Int32)).toUInt32.toUInt16.toUInt32.toInt32) = 127 then 1 else 0)), .unset, .unset, .unset, .unset] [(.int (if ¬ (32 : Int32) < (32 : Int32) ∨ (32 : Int32) = 127 then 1 else 0))]) := fun t k => go4 t (st5 t k)
  have go7 : Goes p e below s₁ (entryFrame m #[(.int p1), (.int p2), (.int p3)] maxLocals) T5 (mkF m 48 #[.val (.int p1), .val (.int p2), .val (.int p3), .val (.int ((p1 &&& (31 : Int32)).toUInt32.toUInt16.toUInt32.toInt32)), .val (.int (((33 : Int32) + ((p2 &&& (2147483647 : Int32)) % (94 : Int32))).toUInt32.toUInt16.toUInt32.toInt32)), .val (.int (((128 : Int32) + ((p3 &&& (2147483647 : Int32)) % (65408 : Int32))).toUInt32.toUInt16.toUInt32.toInt32)), .val (.int (if ¬ (32 : Int32) < ((p1 &&& (31 : Int32)).toUInt32.toUInt16.toUInt32.toInt32) ∨ ((p1 &&& (31 : Int32)).toUInt32.toUInt16.toUInt32.toInt32) = 127 then 1 else 0)), .val (.int (if ¬ (32 : Int32) < (32 : Int32) ∨ (32 : Int32) = 127 then 1 else 0)), .unset, .unset, .unset] [(.int (127 : Int32))]) := fun t k => by
    refine go6 t ?_
    refine XS.istore X5.here hx rfl (hb hby at_44) rfl (l' := #[.val (.int p1), .val (.int p2), .val (.int p3), .val (.int ((p1 &&& (31 : Int32)).toUInt32.toUInt16.toUInt32.toInt32)), .val (.int (((33 : Int32) + ((p2 &&& (2147483647 : Int32)) % (94 : Int32))).toUInt32.toUInt16.toUInt32.toInt32)), .val (.int (((128 : Int32) + ((p3 &&& (2147483647 : Int32)) % (65408 : Int32))).toUInt32.toUInt16.toUInt32.toInt32)), .val (.int (if ¬ (32 : Int32) < ((p1 &&& (31 : Int32)).toUInt32.toUInt16.toUInt32.toInt32) ∨ ((p1 &&& (31 : Int32)).toUInt32.toUInt16.toUInt32.toInt32) = 127 then 1 else 0)), .val (.int (if ¬ (32 : Int32) < (32 : Int32) ∨ (32 : Int32) = 127 then 1 else 0)), .unset, .unset, .unset]) rfl ?_
    show Steps p.tables e below (T5.setTop (mkF m 46 #[.val (.int p1), .val (.int p2), .val (.int p3), .val (.int ((p1 &&& (31 : Int32)).toUInt32.toUInt16.toUInt32.toInt32)), .val (.int (((33 : Int32) + ((p2 &&& (2147483647 : Int32)) % (94 : Int32))).toUInt32.toUInt16.toUInt32.toInt32)), .val (.int (((128 : Int32) + ((p3 &&& (2147483647 : Int32)) % (65408 : Int32))).toUInt32.toUInt16.toUInt32.toInt32)), .val (.int (if ¬ (32 : Int32) < ((p1 &&& (31 : Int32)).toUInt32.toUInt16.toUInt32.toInt32) ∨ ((p1 &&& (31 : Int32)).toUInt32.toUInt16.toUInt32.toInt32) = 127 then 1 else 0)), .val (.int (if ¬ (32 : Int32) < (32 : Int32) ∨ (32 : Int32) = 127 then 1 else 0)), .unset, .unset, .unset] [])) _
    refine XS.bipush X5.here hx rfl (hb hby at_46) ?_
    show Steps p.tables e below (T5.setTop (mkF m 48 #[.val (.int p1), .val (.int p2), .val (.int p3), .val (.int ((p1 &&& (31 : Int32)).toUInt32.toUInt16.toUInt32.toInt32)), .val (.int (((33 : Int32) + ((p2 &&& (2147483647 : Int32)) % (94 : Int32))).toUInt32.toUInt16.toUInt32.toInt32)), .val (.int (((128 : Int32) + ((p3 &&& (2147483647 : Int32)) % (65408 : Int32))).toUInt32.toUInt16.toUInt32.toInt32)), .val (.int (if ¬ (32 : Int32) < ((p1 &&& (31 : Int32)).toUInt32.toUInt16.toUInt32.toInt32) ∨ ((p1 &&& (31 : Int32)).toUInt32.toUInt16.toUInt32.toInt32) = 127 then 1 else 0)), .val (.int (if ¬ (32 : Int32) < (32 : Int32) ∨ (32 : Int32) = 127 then 1 else 0)), .unset, .unset, .unset] [(.int (127 : Int32))])) _
    exact k
  obtain ⟨_, _, ⟨T8, L8, k8, n8⟩, -, X8, ⟨Lc8, hQ8, l8, y8, z8⟩, st8⟩ := Jvm.LawKit.callS X5 hx (y := (⟨"com/example/convey/convey/io/FieldTokens", "isSpace", "(C)Z"⟩ : MethodName)) hown (mvT hZ (hw _ (List.mem_of_getElem? (i := 2) rfl))) (mvT hZ (hw _ (List.mem_of_getElem? (i := 3) rfl))) (mvT hZ (hw _ (List.mem_of_getElem? (i := 4) rfl))) (mvT hZ (hw _ (List.mem_of_getElem? (i := 5) rfl))) (by decide) (backOf (W := 0) (rm1 l Z a0 hw [] (127 : Int32) h0 n0 Z0) hZ (hw _ (List.mem_of_getElem? (i := 5) rfl)) (hw _ (List.mem_of_getElem? (i := 4) rfl)) (by decide) (by decide)) (g := (mkF m 48 #[.val (.int p1), .val (.int p2), .val (.int p3), .val (.int ((p1 &&& (31 : Int32)).toUInt32.toUInt16.toUInt32.toInt32)), .val (.int (((33 : Int32) + ((p2 &&& (2147483647 : Int32)) % (94 : Int32))).toUInt32.toUInt16.toUInt32.toInt32)), .val (.int (((128 : Int32) + ((p3 &&& (2147483647 : Int32)) % (65408 : Int32))).toUInt32.toUInt16.toUInt32.toInt32)), .val (.int (if ¬ (32 : Int32) < ((p1 &&& (31 : Int32)).toUInt32.toUInt16.toUInt32.toInt32) ∨ ((p1 &&& (31 : Int32)).toUInt32.toUInt16.toUInt32.toInt32) = 127 then 1 else 0)), .val (.int (if ¬ (32 : Int32) < (32 : Int32) ∨ (32 : Int32) = 127 then 1 else 0)), .unset, .unset, .unset] [(.int (127 : Int32))])) rfl (by rw [hml]; rfl) (argsL := [(.int (127 : Int32))]) (rest := []) (lenOf pd_0 rfl) rfl (by show 2 * 0 + _ ≤ _; exact Nat.le_of_eq rfl) (hb hby at_48) (fun _ _ => ⟨rfl, e5, (by decide : 0 + 0 ≤ room_1.cells), (by decide : 0 + 0 ≤ room_1.slots)⟩)
  dsimp only [Pt.U, Pt.locs, Pt.cells, Pt.slots] at X8 l8 y8 z8 st8 hQ8
  subst l8 y8 z8
  obtain ⟨rfl, N8q, e8⟩ := hQ8
  have N8 := Fr.app N5 N8q
  have go9 : Goes p e below s₁ (entryFrame m #[(.int p1), (.int p2), (.int p3)] maxLocals) T8 (mkF m 51 #[.val (.int p1), .val (.int p2), .val (.int p3), .val (.int ((p1 &&& (31 : Int32)).toUInt32.toUInt16.toUInt32.toInt32)), .val (.int (((33 : Int32) + ((p2 &&& (2147483647 : Int32)) % (94 : Int32))).toUInt32.toUInt16.toUInt32.toInt32)), .val (.int (((128 : Int32) + ((p3 &&& (2147483647 : Int32)) % (65408 : Int32))).toUInt32.toUInt16.toUInt32.toInt32)), .val (.int (if ¬ (32 : Int32) < ((p1 &&& (31 : Int32)).toUInt32.toUInt16.toUInt32.toInt32) ∨ ((p1 &&& (31 : Int32)).toUInt32.toUInt16.toUInt32.toInt32) = 127 then 1 else 0)), .val (.int (if ¬ (32 : Int32) < (32 : Int32) ∨ (32 : Int32) = 127 then 1 else 0)), .unset, .unset, .unset] [(.int (if ¬ (32 : Int32) < (127 : Int32) ∨ (127 : Int32) = 127 then 1 else 0))]) := fun t k => go7 t (st8 t k)
  have go10 : Goes p e below s₁ (entryFrame m #[(.int p1), (.int p2), (.int p3)] maxLocals) T8 (mkF m 55 #[.val (.int p1), .val (.int p2), .val (.int p3), .val (.int ((p1 &&& (31 : Int32)).toUInt32.toUInt16.toUInt32.toInt32)), .val (.int (((33 : Int32) + ((p2 &&& (2147483647 : Int32)) % (94 : Int32))).toUInt32.toUInt16.toUInt32.toInt32)), .val (.int (((128 : Int32) + ((p3 &&& (2147483647 : Int32)) % (65408 : Int32))).toUInt32.toUInt16.toUInt32.toInt32)), .val (.int (if ¬ (32 : Int32) < ((p1 &&& (31 : Int32)).toUInt32.toUInt16.toUInt32.toInt32) ∨ ((p1 &&& (31 : Int32)).toUInt32.toUInt16.toUInt32.toInt32) = 127 then 1 else 0)), .val (.int (if ¬ (32 : Int32) < (32 : Int32) ∨ (32 : Int32) = 127 then 1 else 0)), .val (.int (if ¬ (32 : Int32) < (127 : Int32) ∨ (127 : Int32) = 127 then 1 else 0)), .unset, .unset] [(.int (((33 : Int32) + ((p2 &&& (2147483647 : Int32)) % (94 : Int32))).toUInt32.toUInt16.toUInt32.toInt32))]) := fun t k => by
    refine go9 t ?_
    refine XS.istore X8.here hx rfl (hb hby at_51) rfl (l' := #[.val (.int p1), .val (.int p2), .val (.int p3), .val (.int ((p1 &&& (31 : Int32)).toUInt32.toUInt16.toUInt32.toInt32)), .val (.int (((33 : Int32) + ((p2 &&& (2147483647 : Int32)) % (94 : Int32))).toUInt32.toUInt16.toUInt32.toInt32)), .val (.int (((128 : Int32) + ((p3 &&& (2147483647 : Int32)) % (65408 : Int32))).toUInt32.toUInt16.toUInt32.toInt32)), .val (.int (if ¬ (32 : Int32) < ((p1 &&& (31 : Int32)).toUInt32.toUInt16.toUInt32.toInt32) ∨ ((p1 &&& (31 : Int32)).toUInt32.toUInt16.toUInt32.toInt32) = 127 then 1 else 0)), .val (.int (if ¬ (32 : Int32) < (32 : Int32) ∨ (32 : Int32) = 127 then 1 else 0)), .val (.int (if ¬ (32 : Int32) < (127 : Int32) ∨ (127 : Int32) = 127 then 1 else 0)), .unset, .unset]) rfl ?_
    show Steps p.tables e below (T8.setTop (mkF m 53 #[.val (.int p1), .val (.int p2), .val (.int p3), .val (.int ((p1 &&& (31 : Int32)).toUInt32.toUInt16.toUInt32.toInt32)), .val (.int (((33 : Int32) + ((p2 &&& (2147483647 : Int32)) % (94 : Int32))).toUInt32.toUInt16.toUInt32.toInt32)), .val (.int (((128 : Int32) + ((p3 &&& (2147483647 : Int32)) % (65408 : Int32))).toUInt32.toUInt16.toUInt32.toInt32)), .val (.int (if ¬ (32 : Int32) < ((p1 &&& (31 : Int32)).toUInt32.toUInt16.toUInt32.toInt32) ∨ ((p1 &&& (31 : Int32)).toUInt32.toUInt16.toUInt32.toInt32) = 127 then 1 else 0)), .val (.int (if ¬ (32 : Int32) < (32 : Int32) ∨ (32 : Int32) = 127 then 1 else 0)), .val (.int (if ¬ (32 : Int32) < (127 : Int32) ∨ (127 : Int32) = 127 then 1 else 0)), .unset, .unset] [])) _
    refine XS.iload X8.here hx rfl (hb hby at_53) rfl ?_
    show Steps p.tables e below (T8.setTop (mkF m 55 #[.val (.int p1), .val (.int p2), .val (.int p3), .val (.int ((p1 &&& (31 : Int32)).toUInt32.toUInt16.toUInt32.toInt32)), .val (.int (((33 : Int32) + ((p2 &&& (2147483647 : Int32)) % (94 : Int32))).toUInt32.toUInt16.toUInt32.toInt32)), .val (.int (((128 : Int32) + ((p3 &&& (2147483647 : Int32)) % (65408 : Int32))).toUInt32.toUInt16.toUInt32.toInt32)), .val (.int (if ¬ (32 : Int32) < ((p1 &&& (31 : Int32)).toUInt32.toUInt16.toUInt32.toInt32) ∨ ((p1 &&& (31 : Int32)).toUInt32.toUInt16.toUInt32.toInt32) = 127 then 1 else 0)), .val (.int (if ¬ (32 : Int32) < (32 : Int32) ∨ (32 : Int32) = 127 then 1 else 0)), .val (.int (if ¬ (32 : Int32) < (127 : Int32) ∨ (127 : Int32) = 127 then 1 else 0)), .unset, .unset] [(.int (((33 : Int32) + ((p2 &&& (2147483647 : Int32)) % (94 : Int32))).toUInt32.toUInt16.toUInt32.toInt32))])) _
    exact k
  obtain ⟨_, _, ⟨T11, L11, k11, n11⟩, -, X11, ⟨Lc11, hQ11, l11, y11, z11⟩, st11⟩ := Jvm.LawKit.callS X8 hx (y := (⟨"com/example/convey/convey/io/FieldTokens", "isSpace", "(C)Z"⟩ : MethodName)) hown (mvT hZ (hw _ (List.mem_of_getElem? (i := 2) rfl))) (mvT hZ (hw _ (List.mem_of_getElem? (i := 3) rfl))) (mvT hZ (hw _ (List.mem_of_getElem? (i := 4) rfl))) (mvT hZ (hw _ (List.mem_of_getElem? (i := 5) rfl))) (by decide) (backOf (W := 0) (rm1 l Z a0 hw [] (((33 : Int32) + ((p2 &&& (2147483647 : Int32)) % (94 : Int32))).toUInt32.toUInt16.toUInt32.toInt32) h0 n0 Z0) hZ (hw _ (List.mem_of_getElem? (i := 5) rfl)) (hw _ (List.mem_of_getElem? (i := 4) rfl)) (by decide) (by decide)) (g := (mkF m 55 #[.val (.int p1), .val (.int p2), .val (.int p3), .val (.int ((p1 &&& (31 : Int32)).toUInt32.toUInt16.toUInt32.toInt32)), .val (.int (((33 : Int32) + ((p2 &&& (2147483647 : Int32)) % (94 : Int32))).toUInt32.toUInt16.toUInt32.toInt32)), .val (.int (((128 : Int32) + ((p3 &&& (2147483647 : Int32)) % (65408 : Int32))).toUInt32.toUInt16.toUInt32.toInt32)), .val (.int (if ¬ (32 : Int32) < ((p1 &&& (31 : Int32)).toUInt32.toUInt16.toUInt32.toInt32) ∨ ((p1 &&& (31 : Int32)).toUInt32.toUInt16.toUInt32.toInt32) = 127 then 1 else 0)), .val (.int (if ¬ (32 : Int32) < (32 : Int32) ∨ (32 : Int32) = 127 then 1 else 0)), .val (.int (if ¬ (32 : Int32) < (127 : Int32) ∨ (127 : Int32) = 127 then 1 else 0)), .unset, .unset] [(.int (((33 : Int32) + ((p2 &&& (2147483647 : Int32)) % (94 : Int32))).toUInt32.toUInt16.toUInt32.toInt32))])) rfl (by rw [hml]; rfl) (argsL := [(.int (((33 : Int32) + ((p2 &&& (2147483647 : Int32)) % (94 : Int32))).toUInt32.toUInt16.toUInt32.toInt32))]) (rest := []) (lenOf pd_0 rfl) rfl (by show 2 * 0 + _ ≤ _; exact Nat.le_of_eq rfl) (hb hby at_55) (fun _ _ => ⟨rfl, e8, (by decide : 0 + 0 ≤ room_1.cells), (by decide : 0 + 0 ≤ room_1.slots)⟩)
  dsimp only [Pt.U, Pt.locs, Pt.cells, Pt.slots] at X11 l11 y11 z11 st11 hQ11
  subst l11 y11 z11
  obtain ⟨rfl, N11q, e11⟩ := hQ11
  have N11 := Fr.app N8 N11q
  have go12 : Goes p e below s₁ (entryFrame m #[(.int p1), (.int p2), (.int p3)] maxLocals) T11 (mkF m 58 #[.val (.int p1), .val (.int p2), .val (.int p3), .val (.int ((p1 &&& (31 : Int32)).toUInt32.toUInt16.toUInt32.toInt32)), .val (.int (((33 : Int32) + ((p2 &&& (2147483647 : Int32)) % (94 : Int32))).toUInt32.toUInt16.toUInt32.toInt32)), .val (.int (((128 : Int32) + ((p3 &&& (2147483647 : Int32)) % (65408 : Int32))).toUInt32.toUInt16.toUInt32.toInt32)), .val (.int (if ¬ (32 : Int32) < ((p1 &&& (31 : Int32)).toUInt32.toUInt16.toUInt32.toInt32) ∨ ((p1 &&& (31 : Int32)).toUInt32.toUInt16.toUInt32.toInt32) = 127 then 1 else 0)), .val (.int (if ¬ (32 : Int32) < (32 : Int32) ∨ (32 : Int32) = 127 then 1 else 0)), .val (.int (if ¬ (32 : Int32) < (127 : Int32) ∨ (127 : Int32) = 127 then 1 else 0)), .unset, .unset] [(.int (if ¬ (32 : Int32) < (((33 : Int32) + ((p2 &&& (2147483647 : Int32)) % (94 : Int32))).toUInt32.toUInt16.toUInt32.toInt32) ∨ (((33 : Int32) + ((p2 &&& (2147483647 : Int32)) % (94 : Int32))).toUInt32.toUInt16.toUInt32.toInt32) = 127 then 1 else 0))]) := fun t k => go10 t (st11 t k)
  have go13 : Goes p e below s₁ (entryFrame m #[(.int p1), (.int p2), (.int p3)] maxLocals) T11 (mkF m 62 #[.val (.int p1), .val (.int p2), .val (.int p3), .val (.int ((p1 &&& (31 : Int32)).toUInt32.toUInt16.toUInt32.toInt32)), .val (.int (((33 : Int32) + ((p2 &&& (2147483647 : Int32)) % (94 : Int32))).toUInt32.toUInt16.toUInt32.toInt32)), .val (.int (((128 : Int32) + ((p3 &&& (2147483647 : Int32)) % (65408 : Int32))).toUInt32.toUInt16.toUInt32.toInt32)), .val (.int (if ¬ (32 : Int32) < ((p1 &&& (31 : Int32)).toUInt32.toUInt16.toUInt32.toInt32) ∨ ((p1 &&& (31 : Int32)).toUInt32.toUInt16.toUInt32.toInt32) = 127 then 1 else 0)), .val (.int (if ¬ (32 : Int32) < (32 : Int32) ∨ (32 : Int32) = 127 then 1 else 0)), .val (.int (if ¬ (32 : Int32) < (127 : Int32) ∨ (127 : Int32) = 127 then 1 else 0)), .val (.int (if ¬ (32 : Int32) < (((33 : Int32) + ((p2 &&& (2147483647 : Int32)) % (94 : Int32))).toUInt32.toUInt16.toUInt32.toInt32) ∨ (((33 : Int32) + ((p2 &&& (2147483647 : Int32)) % (94 : Int32))).toUInt32.toUInt16.toUInt32.toInt32) = 127 then 1 else 0)), .unset] [(.int (((128 : Int32) + ((p3 &&& (2147483647 : Int32)) % (65408 : Int32))).toUInt32.toUInt16.toUInt32.toInt32))]) := fun t k => by
    refine go12 t ?_
    refine XS.istore X11.here hx rfl (hb hby at_58) rfl (l' := #[.val (.int p1), .val (.int p2), .val (.int p3), .val (.int ((p1 &&& (31 : Int32)).toUInt32.toUInt16.toUInt32.toInt32)), .val (.int (((33 : Int32) + ((p2 &&& (2147483647 : Int32)) % (94 : Int32))).toUInt32.toUInt16.toUInt32.toInt32)), .val (.int (((128 : Int32) + ((p3 &&& (2147483647 : Int32)) % (65408 : Int32))).toUInt32.toUInt16.toUInt32.toInt32)), .val (.int (if ¬ (32 : Int32) < ((p1 &&& (31 : Int32)).toUInt32.toUInt16.toUInt32.toInt32) ∨ ((p1 &&& (31 : Int32)).toUInt32.toUInt16.toUInt32.toInt32) = 127 then 1 else 0)), .val (.int (if ¬ (32 : Int32) < (32 : Int32) ∨ (32 : Int32) = 127 then 1 else 0)), .val (.int (if ¬ (32 : Int32) < (127 : Int32) ∨ (127 : Int32) = 127 then 1 else 0)), .val (.int (if ¬ (32 : Int32) < (((33 : Int32) + ((p2 &&& (2147483647 : Int32)) % (94 : Int32))).toUInt32.toUInt16.toUInt32.toInt32) ∨ (((33 : Int32) + ((p2 &&& (2147483647 : Int32)) % (94 : Int32))).toUInt32.toUInt16.toUInt32.toInt32) = 127 then 1 else 0)), .unset]) rfl ?_
    show Steps p.tables e below (T11.setTop (mkF m 60 #[.val (.int p1), .val (.int p2), .val (.int p3), .val (.int ((p1 &&& (31 : Int32)).toUInt32.toUInt16.toUInt32.toInt32)), .val (.int (((33 : Int32) + ((p2 &&& (2147483647 : Int32)) % (94 : Int32))).toUInt32.toUInt16.toUInt32.toInt32)), .val (.int (((128 : Int32) + ((p3 &&& (2147483647 : Int32)) % (65408 : Int32))).toUInt32.toUInt16.toUInt32.toInt32)), .val (.int (if ¬ (32 : Int32) < ((p1 &&& (31 : Int32)).toUInt32.toUInt16.toUInt32.toInt32) ∨ ((p1 &&& (31 : Int32)).toUInt32.toUInt16.toUInt32.toInt32) = 127 then 1 else 0)), .val (.int (if ¬ (32 : Int32) < (32 : Int32) ∨ (32 : Int32) = 127 then 1 else 0)), .val (.int (if ¬ (32 : Int32) < (127 : Int32) ∨ (127 : Int32) = 127 then 1 else 0)), .val (.int (if ¬ (32 : Int32) < (((33 : Int32) + ((p2 &&& (2147483647 : Int32)) % (94 : Int32))).toUInt32.toUInt16.toUInt32.toInt32) ∨ (((33 : Int32) + ((p2 &&& (2147483647 : Int32)) % (94 : Int32))).toUInt32.toUInt16.toUInt32.toInt32) = 127 then 1 else 0)), .unset] [])) _
    refine XS.iload X11.here hx rfl (hb hby at_60) rfl ?_
    show Steps p.tables e below (T11.setTop (mkF m 62 #[.val (.int p1), .val (.int p2), .val (.int p3), .val (.int ((p1 &&& (31 : Int32)).toUInt32.toUInt16.toUInt32.toInt32)), .val (.int (((33 : Int32) + ((p2 &&& (2147483647 : Int32)) % (94 : Int32))).toUInt32.toUInt16.toUInt32.toInt32)), .val (.int (((128 : Int32) + ((p3 &&& (2147483647 : Int32)) % (65408 : Int32))).toUInt32.toUInt16.toUInt32.toInt32)), .val (.int (if ¬ (32 : Int32) < ((p1 &&& (31 : Int32)).toUInt32.toUInt16.toUInt32.toInt32) ∨ ((p1 &&& (31 : Int32)).toUInt32.toUInt16.toUInt32.toInt32) = 127 then 1 else 0)), .val (.int (if ¬ (32 : Int32) < (32 : Int32) ∨ (32 : Int32) = 127 then 1 else 0)), .val (.int (if ¬ (32 : Int32) < (127 : Int32) ∨ (127 : Int32) = 127 then 1 else 0)), .val (.int (if ¬ (32 : Int32) < (((33 : Int32) + ((p2 &&& (2147483647 : Int32)) % (94 : Int32))).toUInt32.toUInt16.toUInt32.toInt32) ∨ (((33 : Int32) + ((p2 &&& (2147483647 : Int32)) % (94 : Int32))).toUInt32.toUInt16.toUInt32.toInt32) = 127 then 1 else 0)), .unset] [(.int (((128 : Int32) + ((p3 &&& (2147483647 : Int32)) % (65408 : Int32))).toUInt32.toUInt16.toUInt32.toInt32))])) _
    exact k
  obtain ⟨_, _, ⟨T14, L14, k14, n14⟩, -, X14, ⟨Lc14, hQ14, l14, y14, z14⟩, st14⟩ := Jvm.LawKit.callS X11 hx (y := (⟨"com/example/convey/convey/io/FieldTokens", "isSpace", "(C)Z"⟩ : MethodName)) hown (mvT hZ (hw _ (List.mem_of_getElem? (i := 2) rfl))) (mvT hZ (hw _ (List.mem_of_getElem? (i := 3) rfl))) (mvT hZ (hw _ (List.mem_of_getElem? (i := 4) rfl))) (mvT hZ (hw _ (List.mem_of_getElem? (i := 5) rfl))) (by decide) (backOf (W := 0) (rm1 l Z a0 hw [] (((128 : Int32) + ((p3 &&& (2147483647 : Int32)) % (65408 : Int32))).toUInt32.toUInt16.toUInt32.toInt32) h0 n0 Z0) hZ (hw _ (List.mem_of_getElem? (i := 5) rfl)) (hw _ (List.mem_of_getElem? (i := 4) rfl)) (by decide) (by decide)) (g := (mkF m 62 #[.val (.int p1), .val (.int p2), .val (.int p3), .val (.int ((p1 &&& (31 : Int32)).toUInt32.toUInt16.toUInt32.toInt32)), .val (.int (((33 : Int32) + ((p2 &&& (2147483647 : Int32)) % (94 : Int32))).toUInt32.toUInt16.toUInt32.toInt32)), .val (.int (((128 : Int32) + ((p3 &&& (2147483647 : Int32)) % (65408 : Int32))).toUInt32.toUInt16.toUInt32.toInt32)), .val (.int (if ¬ (32 : Int32) < ((p1 &&& (31 : Int32)).toUInt32.toUInt16.toUInt32.toInt32) ∨ ((p1 &&& (31 : Int32)).toUInt32.toUInt16.toUInt32.toInt32) = 127 then 1 else 0)), .val (.int (if ¬ (32 : Int32) < (32 : Int32) ∨ (32 : Int32) = 127 then 1 else 0)), .val (.int (if ¬ (32 : Int32) < (127 : Int32) ∨ (127 : Int32) = 127 then 1 else 0)), .val (.int (if ¬ (32 : Int32) < (((33 : Int32) + ((p2 &&& (2147483647 : Int32)) % (94 : Int32))).toUInt32.toUInt16.toUInt32.toInt32) ∨ (((33 : Int32) + ((p2 &&& (2147483647 : Int32)) % (94 : Int32))).toUInt32.toUInt16.toUInt32.toInt32) = 127 then 1 else 0)), .unset] [(.int (((128 : Int32) + ((p3 &&& (2147483647 : Int32)) % (65408 : Int32))).toUInt32.toUInt16.toUInt32.toInt32))])) rfl (by rw [hml]; rfl) (argsL := [(.int (((128 : Int32) + ((p3 &&& (2147483647 : Int32)) % (65408 : Int32))).toUInt32.toUInt16.toUInt32.toInt32))]) (rest := []) (lenOf pd_0 rfl) rfl (by show 2 * 0 + _ ≤ _; exact Nat.le_of_eq rfl) (hb hby at_62) (fun _ _ => ⟨rfl, e11, (by decide : 0 + 0 ≤ room_1.cells), (by decide : 0 + 0 ≤ room_1.slots)⟩)
  dsimp only [Pt.U, Pt.locs, Pt.cells, Pt.slots] at X14 l14 y14 z14 st14 hQ14
  subst l14 y14 z14
  obtain ⟨rfl, N14q, e14⟩ := hQ14
  have N14 := Fr.app N11 N14q
  have go15 : Goes p e below s₁ (entryFrame m #[(.int p1), (.int p2), (.int p3)] maxLocals) T14 (mkF m 65 #[.val (.int p1), .val (.int p2), .val (.int p3), .val (.int ((p1 &&& (31 : Int32)).toUInt32.toUInt16.toUInt32.toInt32)), .val (.int (((33 : Int32) + ((p2 &&& (2147483647 : Int32)) % (94 : Int32))).toUInt32.toUInt16.toUInt32.toInt32)), .val (.int (((128 : Int32) + ((p3 &&& (2147483647 : Int32)) % (65408 : Int32))).toUInt32.toUInt16.toUInt32.toInt32)), .val (.int (if ¬ (32 : Int32) < ((p1 &&& (31 : Int32)).toUInt32.toUInt16.toUInt32.toInt32) ∨ ((p1 &&& (31 : Int32)).toUInt32.toUInt16.toUInt32.toInt32) = 127 then 1 else 0)), .val (.int (if ¬ (32 : Int32) < (32 : Int32) ∨ (32 : Int32) = 127 then 1 else 0)), .val (.int (if ¬ (32 : Int32) < (127 : Int32) ∨ (127 : Int32) = 127 then 1 else 0)), .val (.int (if ¬ (32 : Int32) < (((33 : Int32) + ((p2 &&& (2147483647 : Int32)) % (94 : Int32))).toUInt32.toUInt16.toUInt32.toInt32) ∨ (((33 : Int32) + ((p2 &&& (2147483647 : Int32)) % (94 : Int32))).toUInt32.toUInt16.toUInt32.toInt32) = 127 then 1 else 0)), .unset] [(.int (if ¬ (32 : Int32) < (((128 : Int32) + ((p3 &&& (2147483647 : Int32)) % (65408 : Int32))).toUInt32.toUInt16.toUInt32.toInt32) ∨ (((128 : Int32) + ((p3 &&& (2147483647 : Int32)) % (65408 : Int32))).toUInt32.toUInt16.toUInt32.toInt32) = 127 then 1 else 0))]) := fun t k => go13 t (st14 t k)
  have go16 : Goes p e below s₁ (entryFrame m #[(.int p1), (.int p2), (.int p3)] maxLocals) T14 (mkF m 69 #[.val (.int p1), .val (.int p2), .val (.int p3), .val (.int ((p1 &&& (31 : Int32)).toUInt32.toUInt16.toUInt32.toInt32)), .val (.int (((33 : Int32) + ((p2 &&& (2147483647 : Int32)) % (94 : Int32))).toUInt32.toUInt16.toUInt32.toInt32)), .val (.int (((128 : Int32) + ((p3 &&& (2147483647 : Int32)) % (65408 : Int32))).toUInt32.toUInt16.toUInt32.toInt32)), .val (.int (if ¬ (32 : Int32) < ((p1 &&& (31 : Int32)).toUInt32.toUInt16.toUInt32.toInt32) ∨ ((p1 &&& (31 : Int32)).toUInt32.toUInt16.toUInt32.toInt32) = 127 then 1 else 0)), .val (.int (if ¬ (32 : Int32) < (32 : Int32) ∨ (32 : Int32) = 127 then 1 else 0)), .val (.int (if ¬ (32 : Int32) < (127 : Int32) ∨ (127 : Int32) = 127 then 1 else 0)), .val (.int (if ¬ (32 : Int32) < (((33 : Int32) + ((p2 &&& (2147483647 : Int32)) % (94 : Int32))).toUInt32.toUInt16.toUInt32.toInt32) ∨ (((33 : Int32) + ((p2 &&& (2147483647 : Int32)) % (94 : Int32))).toUInt32.toUInt16.toUInt32.toInt32) = 127 then 1 else 0)), .val (.int (if ¬ (32 : Int32) < (((128 : Int32) + ((p3 &&& (2147483647 : Int32)) % (65408 : Int32))).toUInt32.toUInt16.toUInt32.toInt32) ∨ (((128 : Int32) + ((p3 &&& (2147483647 : Int32)) % (65408 : Int32))).toUInt32.toUInt16.toUInt32.toInt32) = 127 then 1 else 0))] [(.int (if ¬ (32 : Int32) < ((p1 &&& (31 : Int32)).toUInt32.toUInt16.toUInt32.toInt32) ∨ ((p1 &&& (31 : Int32)).toUInt32.toUInt16.toUInt32.toInt32) = 127 then 1 else 0))]) := fun t k => by
    refine go15 t ?_
    refine XS.istore X14.here hx rfl (hb hby at_65) rfl (l' := #[.val (.int p1), .val (.int p2), .val (.int p3), .val (.int ((p1 &&& (31 : Int32)).toUInt32.toUInt16.toUInt32.toInt32)), .val (.int (((33 : Int32) + ((p2 &&& (2147483647 : Int32)) % (94 : Int32))).toUInt32.toUInt16.toUInt32.toInt32)), .val (.int (((128 : Int32) + ((p3 &&& (2147483647 : Int32)) % (65408 : Int32))).toUInt32.toUInt16.toUInt32.toInt32)), .val (.int (if ¬ (32 : Int32) < ((p1 &&& (31 : Int32)).toUInt32.toUInt16.toUInt32.toInt32) ∨ ((p1 &&& (31 : Int32)).toUInt32.toUInt16.toUInt32.toInt32) = 127 then 1 else 0)), .val (.int (if ¬ (32 : Int32) < (32 : Int32) ∨ (32 : Int32) = 127 then 1 else 0)), .val (.int (if ¬ (32 : Int32) < (127 : Int32) ∨ (127 : Int32) = 127 then 1 else 0)), .val (.int (if ¬ (32 : Int32) < (((33 : Int32) + ((p2 &&& (2147483647 : Int32)) % (94 : Int32))).toUInt32.toUInt16.toUInt32.toInt32) ∨ (((33 : Int32) + ((p2 &&& (2147483647 : Int32)) % (94 : Int32))).toUInt32.toUInt16.toUInt32.toInt32) = 127 then 1 else 0)), .val (.int (if ¬ (32 : Int32) < (((128 : Int32) + ((p3 &&& (2147483647 : Int32)) % (65408 : Int32))).toUInt32.toUInt16.toUInt32.toInt32) ∨ (((128 : Int32) + ((p3 &&& (2147483647 : Int32)) % (65408 : Int32))).toUInt32.toUInt16.toUInt32.toInt32) = 127 then 1 else 0))]) rfl ?_
    show Steps p.tables e below (T14.setTop (mkF m 67 #[.val (.int p1), .val (.int p2), .val (.int p3), .val (.int ((p1 &&& (31 : Int32)).toUInt32.toUInt16.toUInt32.toInt32)), .val (.int (((33 : Int32) + ((p2 &&& (2147483647 : Int32)) % (94 : Int32))).toUInt32.toUInt16.toUInt32.toInt32)), .val (.int (((128 : Int32) + ((p3 &&& (2147483647 : Int32)) % (65408 : Int32))).toUInt32.toUInt16.toUInt32.toInt32)), .val (.int (if ¬ (32 : Int32) < ((p1 &&& (31 : Int32)).toUInt32.toUInt16.toUInt32.toInt32) ∨ ((p1 &&& (31 : Int32)).toUInt32.toUInt16.toUInt32.toInt32) = 127 then 1 else 0)), .val (.int (if ¬ (32 : Int32) < (32 : Int32) ∨ (32 : Int32) = 127 then 1 else 0)), .val (.int (if ¬ (32 : Int32) < (127 : Int32) ∨ (127 : Int32) = 127 then 1 else 0)), .val (.int (if ¬ (32 : Int32) < (((33 : Int32) + ((p2 &&& (2147483647 : Int32)) % (94 : Int32))).toUInt32.toUInt16.toUInt32.toInt32) ∨ (((33 : Int32) + ((p2 &&& (2147483647 : Int32)) % (94 : Int32))).toUInt32.toUInt16.toUInt32.toInt32) = 127 then 1 else 0)), .val (.int (if ¬ (32 : Int32) < (((128 : Int32) + ((p3 &&& (2147483647 : Int32)) % (65408 : Int32))).toUInt32.toUInt16.toUInt32.toInt32) ∨ (((128 : Int32) + ((p3 &&& (2147483647 : Int32)) % (65408 : Int32))).toUInt32.toUInt16.toUInt32.toInt32) = 127 then 1 else 0))] [])) _
    refine XS.iload X14.here hx rfl (hb hby at_67) rfl ?_
    show Steps p.tables e below (T14.setTop (mkF m 69 #[.val (.int p1), .val (.int p2), .val (.int p3), .val (.int ((p1 &&& (31 : Int32)).toUInt32.toUInt16.toUInt32.toInt32)), .val (.int (((33 : Int32) + ((p2 &&& (2147483647 : Int32)) % (94 : Int32))).toUInt32.toUInt16.toUInt32.toInt32)), .val (.int (((128 : Int32) + ((p3 &&& (2147483647 : Int32)) % (65408 : Int32))).toUInt32.toUInt16.toUInt32.toInt32)), .val (.int (if ¬ (32 : Int32) < ((p1 &&& (31 : Int32)).toUInt32.toUInt16.toUInt32.toInt32) ∨ ((p1 &&& (31 : Int32)).toUInt32.toUInt16.toUInt32.toInt32) = 127 then 1 else 0)), .val (.int (if ¬ (32 : Int32) < (32 : Int32) ∨ (32 : Int32) = 127 then 1 else 0)), .val (.int (if ¬ (32 : Int32) < (127 : Int32) ∨ (127 : Int32) = 127 then 1 else 0)), .val (.int (if ¬ (32 : Int32) < (((33 : Int32) + ((p2 &&& (2147483647 : Int32)) % (94 : Int32))).toUInt32.toUInt16.toUInt32.toInt32) ∨ (((33 : Int32) + ((p2 &&& (2147483647 : Int32)) % (94 : Int32))).toUInt32.toUInt16.toUInt32.toInt32) = 127 then 1 else 0)), .val (.int (if ¬ (32 : Int32) < (((128 : Int32) + ((p3 &&& (2147483647 : Int32)) % (65408 : Int32))).toUInt32.toUInt16.toUInt32.toInt32) ∨ (((128 : Int32) + ((p3 &&& (2147483647 : Int32)) % (65408 : Int32))).toUInt32.toUInt16.toUInt32.toInt32) = 127 then 1 else 0))] [(.int (if ¬ (32 : Int32) < ((p1 &&& (31 : Int32)).toUInt32.toUInt16.toUInt32.toInt32) ∨ ((p1 &&& (31 : Int32)).toUInt32.toUInt16.toUInt32.toInt32) = 127 then 1 else 0))])) _
    exact k
  have go17 : Goes p e below s₁ (entryFrame m #[(.int p1), (.int p2), (.int p3)] maxLocals) T14 (mkF m 74 #[.val (.int p1), .val (.int p2), .val (.int p3), .val (.int ((p1 &&& (31 : Int32)).toUInt32.toUInt16.toUInt32.toInt32)), .val (.int (((33 : Int32) + ((p2 &&& (2147483647 : Int32)) % (94 : Int32))).toUInt32.toUInt16.toUInt32.toInt32)), .val (.int (((128 : Int32) + ((p3 &&& (2147483647 : Int32)) % (65408 : Int32))).toUInt32.toUInt16.toUInt32.toInt32)), .val (.int (if ¬ (32 : Int32) < ((p1 &&& (31 : Int32)).toUInt32.toUInt16.toUInt32.toInt32) ∨ ((p1 &&& (31 : Int32)).toUInt32.toUInt16.toUInt32.toInt32) = 127 then 1 else 0)), .val (.int (if ¬ (32 : Int32) < (32 : Int32) ∨ (32 : Int32) = 127 then 1 else 0)), .val (.int (if ¬ (32 : Int32) < (127 : Int32) ∨ (127 : Int32) = 127 then 1 else 0)), .val (.int (if ¬ (32 : Int32) < (((33 : Int32) + ((p2 &&& (2147483647 : Int32)) % (94 : Int32))).toUInt32.toUInt16.toUInt32.toInt32) ∨ (((33 : Int32) + ((p2 &&& (2147483647 : Int32)) % (94 : Int32))).toUInt32.toUInt16.toUInt32.toInt32) = 127 then 1 else 0)), .val (.int (if ¬ (32 : Int32) < (((128 : Int32) + ((p3 &&& (2147483647 : Int32)) % (65408 : Int32))).toUInt32.toUInt16.toUInt32.toInt32) ∨ (((128 : Int32) + ((p3 &&& (2147483647 : Int32)) % (65408 : Int32))).toUInt32.toUInt16.toUInt32.toInt32) = 127 then 1 else 0))] [(.int (if ¬ (32 : Int32) < (32 : Int32) ∨ (32 : Int32) = 127 then 1 else 0))]) := fun t k => by
    refine go16 t ?_
    refine XS.ifNo X14.here hx rfl (hb hby at_69) rfl (Jvm.Free.XT.i0_eq_f (by rw [if_pos (own_a p1)]; decide)) ?_
    show Steps p.tables e below (T14.setTop (mkF m 72 #[.val (.int p1), .val (.int p2), .val (.int p3), .val (.int ((p1 &&& (31 : Int32)).toUInt32.toUInt16.toUInt32.toInt32)), .val (.int (((33 : Int32) + ((p2 &&& (2147483647 : Int32)) % (94 : Int32))).toUInt32.toUInt16.toUInt32.toInt32)), .val (.int (((128 : Int32) + ((p3 &&& (2147483647 : Int32)) % (65408 : Int32))).toUInt32.toUInt16.toUInt32.toInt32)), .val (.int (if ¬ (32 : Int32) < ((p1 &&& (31 : Int32)).toUInt32.toUInt16.toUInt32.toInt32) ∨ ((p1 &&& (31 : Int32)).toUInt32.toUInt16.toUInt32.toInt32) = 127 then 1 else 0)), .val (.int (if ¬ (32 : Int32) < (32 : Int32) ∨ (32 : Int32) = 127 then 1 else 0)), .val (.int (if ¬ (32 : Int32) < (127 : Int32) ∨ (127 : Int32) = 127 then 1 else 0)), .val (.int (if ¬ (32 : Int32) < (((33 : Int32) + ((p2 &&& (2147483647 : Int32)) % (94 : Int32))).toUInt32.toUInt16.toUInt32.toInt32) ∨ (((33 : Int32) + ((p2 &&& (2147483647 : Int32)) % (94 : Int32))).toUInt32.toUInt16.toUInt32.toInt32) = 127 then 1 else 0)), .val (.int (if ¬ (32 : Int32) < (((128 : Int32) + ((p3 &&& (2147483647 : Int32)) % (65408 : Int32))).toUInt32.toUInt16.toUInt32.toInt32) ∨ (((128 : Int32) + ((p3 &&& (2147483647 : Int32)) % (65408 : Int32))).toUInt32.toUInt16.toUInt32.toInt32) = 127 then 1 else 0))] [])) _
    refine XS.iload X14.here hx rfl (hb hby at_72) rfl ?_
    show Steps p.tables e below (T14.setTop (mkF m 74 #[.val (.int p1), .val (.int p2), .val (.int p3), .val (.int ((p1 &&& (31 : Int32)).toUInt32.toUInt16.toUInt32.toInt32)), .val (.int (((33 : Int32) + ((p2 &&& (2147483647 : Int32)) % (94 : Int32))).toUInt32.toUInt16.toUInt32.toInt32)), .val (.int (((128 : Int32) + ((p3 &&& (2147483647 : Int32)) % (65408 : Int32))).toUInt32.toUInt16.toUInt32.toInt32)), .val (.int (if ¬ (32 : Int32) < ((p1 &&& (31 : Int32)).toUInt32.toUInt16.toUInt32.toInt32) ∨ ((p1 &&& (31 : Int32)).toUInt32.toUInt16.toUInt32.toInt32) = 127 then 1 else 0)), .val (.int (if ¬ (32 : Int32) < (32 : Int32) ∨ (32 : Int32) = 127 then 1 else 0)), .val (.int (if ¬ (32 : Int32) < (127 : Int32) ∨ (127 : Int32) = 127 then 1 else 0)), .val (.int (if ¬ (32 : Int32) < (((33 : Int32) + ((p2 &&& (2147483647 : Int32)) % (94 : Int32))).toUInt32.toUInt16.toUInt32.toInt32) ∨ (((33 : Int32) + ((p2 &&& (2147483647 : Int32)) % (94 : Int32))).toUInt32.toUInt16.toUInt32.toInt32) = 127 then 1 else 0)), .val (.int (if ¬ (32 : Int32) < (((128 : Int32) + ((p3 &&& (2147483647 : Int32)) % (65408 : Int32))).toUInt32.toUInt16.toUInt32.toInt32) ∨ (((128 : Int32) + ((p3 &&& (2147483647 : Int32)) % (65408 : Int32))).toUInt32.toUInt16.toUInt32.toInt32) = 127 then 1 else 0))] [(.int (if ¬ (32 : Int32) < (32 : Int32) ∨ (32 : Int32) = 127 then 1 else 0))])) _
    exact k
  have go18 : Goes p e below s₁ (entryFrame m #[(.int p1), (.int p2), (.int p3)] maxLocals) T14 (mkF m 79 #[.val (.int p1), .val (.int p2), .val (.int p3), .val (.int ((p1 &&& (31 : Int32)).toUInt32.toUInt16.toUInt32.toInt32)), .val (.int (((33 : Int32) + ((p2 &&& (2147483647 : Int32)) % (94 : Int32))).toUInt32.toUInt16.toUInt32.toInt32)), .val (.int (((128 : Int32) + ((p3 &&& (2147483647 : Int32)) % (65408 : Int32))).toUInt32.toUInt16.toUInt32.toInt32)), .val (.int (if ¬ (32 : Int32) < ((p1 &&& (31 : Int32)).toUInt32.toUInt16.toUInt32.toInt32) ∨ ((p1 &&& (31 : Int32)).toUInt32.toUInt16.toUInt32.toInt32) = 127 then 1 else 0)), .val (.int (if ¬ (32 : Int32) < (32 : Int32) ∨ (32 : Int32) = 127 then 1 else 0)), .val (.int (if ¬ (32 : Int32) < (127 : Int32) ∨ (127 : Int32) = 127 then 1 else 0)), .val (.int (if ¬ (32 : Int32) < (((33 : Int32) + ((p2 &&& (2147483647 : Int32)) % (94 : Int32))).toUInt32.toUInt16.toUInt32.toInt32) ∨ (((33 : Int32) + ((p2 &&& (2147483647 : Int32)) % (94 : Int32))).toUInt32.toUInt16.toUInt32.toInt32) = 127 then 1 else 0)), .val (.int (if ¬ (32 : Int32) < (((128 : Int32) + ((p3 &&& (2147483647 : Int32)) % (65408 : Int32))).toUInt32.toUInt16.toUInt32.toInt32) ∨ (((128 : Int32) + ((p3 &&& (2147483647 : Int32)) % (65408 : Int32))).toUInt32.toUInt16.toUInt32.toInt32) = 127 then 1 else 0))] [(.int (if ¬ (32 : Int32) < (127 : Int32) ∨ (127 : Int32) = 127 then 1 else 0))]) := fun t k => by
    refine go17 t ?_
    refine XS.ifNo X14.here hx rfl (hb hby at_74) rfl (Jvm.Free.XT.i0_eq_f (by decide)) ?_
    show Steps p.tables e below (T14.setTop (mkF m 77 #[.val (.int p1), .val (.int p2), .val (.int p3), .val (.int ((p1 &&& (31 : Int32)).toUInt32.toUInt16.toUInt32.toInt32)), .val (.int (((33 : Int32) + ((p2 &&& (2147483647 : Int32)) % (94 : Int32))).toUInt32.toUInt16.toUInt32.toInt32)), .val (.int (((128 : Int32) + ((p3 &&& (2147483647 : Int32)) % (65408 : Int32))).toUInt32.toUInt16.toUInt32.toInt32)), .val (.int (if ¬ (32 : Int32) < ((p1 &&& (31 : Int32)).toUInt32.toUInt16.toUInt32.toInt32) ∨ ((p1 &&& (31 : Int32)).toUInt32.toUInt16.toUInt32.toInt32) = 127 then 1 else 0)), .val (.int (if ¬ (32 : Int32) < (32 : Int32) ∨ (32 : Int32) = 127 then 1 else 0)), .val (.int (if ¬ (32 : Int32) < (127 : Int32) ∨ (127 : Int32) = 127 then 1 else 0)), .val (.int (if ¬ (32 : Int32) < (((33 : Int32) + ((p2 &&& (2147483647 : Int32)) % (94 : Int32))).toUInt32.toUInt16.toUInt32.toInt32) ∨ (((33 : Int32) + ((p2 &&& (2147483647 : Int32)) % (94 : Int32))).toUInt32.toUInt16.toUInt32.toInt32) = 127 then 1 else 0)), .val (.int (if ¬ (32 : Int32) < (((128 : Int32) + ((p3 &&& (2147483647 : Int32)) % (65408 : Int32))).toUInt32.toUInt16.toUInt32.toInt32) ∨ (((128 : Int32) + ((p3 &&& (2147483647 : Int32)) % (65408 : Int32))).toUInt32.toUInt16.toUInt32.toInt32) = 127 then 1 else 0))] [])) _
    refine XS.iload X14.here hx rfl (hb hby at_77) rfl ?_
    show Steps p.tables e below (T14.setTop (mkF m 79 #[.val (.int p1), .val (.int p2), .val (.int p3), .val (.int ((p1 &&& (31 : Int32)).toUInt32.toUInt16.toUInt32.toInt32)), .val (.int (((33 : Int32) + ((p2 &&& (2147483647 : Int32)) % (94 : Int32))).toUInt32.toUInt16.toUInt32.toInt32)), .val (.int (((128 : Int32) + ((p3 &&& (2147483647 : Int32)) % (65408 : Int32))).toUInt32.toUInt16.toUInt32.toInt32)), .val (.int (if ¬ (32 : Int32) < ((p1 &&& (31 : Int32)).toUInt32.toUInt16.toUInt32.toInt32) ∨ ((p1 &&& (31 : Int32)).toUInt32.toUInt16.toUInt32.toInt32) = 127 then 1 else 0)), .val (.int (if ¬ (32 : Int32) < (32 : Int32) ∨ (32 : Int32) = 127 then 1 else 0)), .val (.int (if ¬ (32 : Int32) < (127 : Int32) ∨ (127 : Int32) = 127 then 1 else 0)), .val (.int (if ¬ (32 : Int32) < (((33 : Int32) + ((p2 &&& (2147483647 : Int32)) % (94 : Int32))).toUInt32.toUInt16.toUInt32.toInt32) ∨ (((33 : Int32) + ((p2 &&& (2147483647 : Int32)) % (94 : Int32))).toUInt32.toUInt16.toUInt32.toInt32) = 127 then 1 else 0)), .val (.int (if ¬ (32 : Int32) < (((128 : Int32) + ((p3 &&& (2147483647 : Int32)) % (65408 : Int32))).toUInt32.toUInt16.toUInt32.toInt32) ∨ (((128 : Int32) + ((p3 &&& (2147483647 : Int32)) % (65408 : Int32))).toUInt32.toUInt16.toUInt32.toInt32) = 127 then 1 else 0))] [(.int (if ¬ (32 : Int32) < (127 : Int32) ∨ (127 : Int32) = 127 then 1 else 0))])) _
    exact k
  have go19 : Goes p e below s₁ (entryFrame m #[(.int p1), (.int p2), (.int p3)] maxLocals) T14 (mkF m 84 #[.val (.int p1), .val (.int p2), .val (.int p3), .val (.int ((p1 &&& (31 : Int32)).toUInt32.toUInt16.toUInt32.toInt32)), .val (.int (((33 : Int32) + ((p2 &&& (2147483647 : Int32)) % (94 : Int32))).toUInt32.toUInt16.toUInt32.toInt32)), .val (.int (((128 : Int32) + ((p3 &&& (2147483647 : Int32)) % (65408 : Int32))).toUInt32.toUInt16.toUInt32.toInt32)), .val (.int (if ¬ (32 : Int32) < ((p1 &&& (31 : Int32)).toUInt32.toUInt16.toUInt32.toInt32) ∨ ((p1 &&& (31 : Int32)).toUInt32.toUInt16.toUInt32.toInt32) = 127 then 1 else 0)), .val (.int (if ¬ (32 : Int32) < (32 : Int32) ∨ (32 : Int32) = 127 then 1 else 0)), .val (.int (if ¬ (32 : Int32) < (127 : Int32) ∨ (127 : Int32) = 127 then 1 else 0)), .val (.int (if ¬ (32 : Int32) < (((33 : Int32) + ((p2 &&& (2147483647 : Int32)) % (94 : Int32))).toUInt32.toUInt16.toUInt32.toInt32) ∨ (((33 : Int32) + ((p2 &&& (2147483647 : Int32)) % (94 : Int32))).toUInt32.toUInt16.toUInt32.toInt32) = 127 then 1 else 0)), .val (.int (if ¬ (32 : Int32) < (((128 : Int32) + ((p3 &&& (2147483647 : Int32)) % (65408 : Int32))).toUInt32.toUInt16.toUInt32.toInt32) ∨ (((128 : Int32) + ((p3 &&& (2147483647 : Int32)) % (65408 : Int32))).toUInt32.toUInt16.toUInt32.toInt32) = 127 then 1 else 0))] [(.int (if ¬ (32 : Int32) < (((33 : Int32) + ((p2 &&& (2147483647 : Int32)) % (94 : Int32))).toUInt32.toUInt16.toUInt32.toInt32) ∨ (((33 : Int32) + ((p2 &&& (2147483647 : Int32)) % (94 : Int32))).toUInt32.toUInt16.toUInt32.toInt32) = 127 then 1 else 0))]) := fun t k => by
    refine go18 t ?_
    refine XS.ifNo X14.here hx rfl (hb hby at_79) rfl (Jvm.Free.XT.i0_eq_f (by decide)) ?_
    show Steps p.tables e below (T14.setTop (mkF m 82 #[.val (.int p1), .val (.int p2), .val (.int p3), .val (.int ((p1 &&& (31 : Int32)).toUInt32.toUInt16.toUInt32.toInt32)), .val (.int (((33 : Int32) + ((p2 &&& (2147483647 : Int32)) % (94 : Int32))).toUInt32.toUInt16.toUInt32.toInt32)), .val (.int (((128 : Int32) + ((p3 &&& (2147483647 : Int32)) % (65408 : Int32))).toUInt32.toUInt16.toUInt32.toInt32)), .val (.int (if ¬ (32 : Int32) < ((p1 &&& (31 : Int32)).toUInt32.toUInt16.toUInt32.toInt32) ∨ ((p1 &&& (31 : Int32)).toUInt32.toUInt16.toUInt32.toInt32) = 127 then 1 else 0)), .val (.int (if ¬ (32 : Int32) < (32 : Int32) ∨ (32 : Int32) = 127 then 1 else 0)), .val (.int (if ¬ (32 : Int32) < (127 : Int32) ∨ (127 : Int32) = 127 then 1 else 0)), .val (.int (if ¬ (32 : Int32) < (((33 : Int32) + ((p2 &&& (2147483647 : Int32)) % (94 : Int32))).toUInt32.toUInt16.toUInt32.toInt32) ∨ (((33 : Int32) + ((p2 &&& (2147483647 : Int32)) % (94 : Int32))).toUInt32.toUInt16.toUInt32.toInt32) = 127 then 1 else 0)), .val (.int (if ¬ (32 : Int32) < (((128 : Int32) + ((p3 &&& (2147483647 : Int32)) % (65408 : Int32))).toUInt32.toUInt16.toUInt32.toInt32) ∨ (((128 : Int32) + ((p3 &&& (2147483647 : Int32)) % (65408 : Int32))).toUInt32.toUInt16.toUInt32.toInt32) = 127 then 1 else 0))] [])) _
    refine XS.iload X14.here hx rfl (hb hby at_82) rfl ?_
    show Steps p.tables e below (T14.setTop (mkF m 84 #[.val (.int p1), .val (.int p2), .val (.int p3), .val (.int ((p1 &&& (31 : Int32)).toUInt32.toUInt16.toUInt32.toInt32)), .val (.int (((33 : Int32) + ((p2 &&& (2147483647 : Int32)) % (94 : Int32))).toUInt32.toUInt16.toUInt32.toInt32)), .val (.int (((128 : Int32) + ((p3 &&& (2147483647 : Int32)) % (65408 : Int32))).toUInt32.toUInt16.toUInt32.toInt32)), .val (.int (if ¬ (32 : Int32) < ((p1 &&& (31 : Int32)).toUInt32.toUInt16.toUInt32.toInt32) ∨ ((p1 &&& (31 : Int32)).toUInt32.toUInt16.toUInt32.toInt32) = 127 then 1 else 0)), .val (.int (if ¬ (32 : Int32) < (32 : Int32) ∨ (32 : Int32) = 127 then 1 else 0)), .val (.int (if ¬ (32 : Int32) < (127 : Int32) ∨ (127 : Int32) = 127 then 1 else 0)), .val (.int (if ¬ (32 : Int32) < (((33 : Int32) + ((p2 &&& (2147483647 : Int32)) % (94 : Int32))).toUInt32.toUInt16.toUInt32.toInt32) ∨ (((33 : Int32) + ((p2 &&& (2147483647 : Int32)) % (94 : Int32))).toUInt32.toUInt16.toUInt32.toInt32) = 127 then 1 else 0)), .val (.int (if ¬ (32 : Int32) < (((128 : Int32) + ((p3 &&& (2147483647 : Int32)) % (65408 : Int32))).toUInt32.toUInt16.toUInt32.toInt32) ∨ (((128 : Int32) + ((p3 &&& (2147483647 : Int32)) % (65408 : Int32))).toUInt32.toUInt16.toUInt32.toInt32) = 127 then 1 else 0))] [(.int (if ¬ (32 : Int32) < (((33 : Int32) + ((p2 &&& (2147483647 : Int32)) % (94 : Int32))).toUInt32.toUInt16.toUInt32.toInt32) ∨ (((33 : Int32) + ((p2 &&& (2147483647 : Int32)) % (94 : Int32))).toUInt32.toUInt16.toUInt32.toInt32) = 127 then 1 else 0))])) _
    exact k
  have go20 : Goes p e below s₁ (entryFrame m #[(.int p1), (.int p2), (.int p3)] maxLocals) T14 (mkF m 89 #[.val (.int p1), .val (.int p2), .val (.int p3), .val (.int ((p1 &&& (31 : Int32)).toUInt32.toUInt16.toUInt32.toInt32)), .val (.int (((33 : Int32) + ((p2 &&& (2147483647 : Int32)) % (94 : Int32))).toUInt32.toUInt16.toUInt32.toInt32)), .val (.int (((128 : Int32) + ((p3 &&& (2147483647 : Int32)) % (65408 : Int32))).toUInt32.toUInt16.toUInt32.toInt32)), .val (.int (if ¬ (32 : Int32) < ((p1 &&& (31 : Int32)).toUInt32.toUInt16.toUInt32.toInt32) ∨ ((p1 &&& (31 : Int32)).toUInt32.toUInt16.toUInt32.toInt32) = 127 then 1 else 0)), .val (.int (if ¬ (32 : Int32) < (32 : Int32) ∨ (32 : Int32) = 127 then 1 else 0)), .val (.int (if ¬ (32 : Int32) < (127 : Int32) ∨ (127 : Int32) = 127 then 1 else 0)), .val (.int (if ¬ (32 : Int32) < (((33 : Int32) + ((p2 &&& (2147483647 : Int32)) % (94 : Int32))).toUInt32.toUInt16.toUInt32.toInt32) ∨ (((33 : Int32) + ((p2 &&& (2147483647 : Int32)) % (94 : Int32))).toUInt32.toUInt16.toUInt32.toInt32) = 127 then 1 else 0)), .val (.int (if ¬ (32 : Int32) < (((128 : Int32) + ((p3 &&& (2147483647 : Int32)) % (65408 : Int32))).toUInt32.toUInt16.toUInt32.toInt32) ∨ (((128 : Int32) + ((p3 &&& (2147483647 : Int32)) % (65408 : Int32))).toUInt32.toUInt16.toUInt32.toInt32) = 127 then 1 else 0))] [(.int (if ¬ (32 : Int32) < (((128 : Int32) + ((p3 &&& (2147483647 : Int32)) % (65408 : Int32))).toUInt32.toUInt16.toUInt32.toInt32) ∨ (((128 : Int32) + ((p3 &&& (2147483647 : Int32)) % (65408 : Int32))).toUInt32.toUInt16.toUInt32.toInt32) = 127 then 1 else 0))]) := fun t k => by
    refine go19 t ?_
    refine XS.ifNo X14.here hx rfl (hb hby at_84) rfl (Jvm.Free.XT.i0_ne_f (if_neg (own_b p2))) ?_
    show Steps p.tables e below (T14.setTop (mkF m 87 #[.val (.int p1), .val (.int p2), .val (.int p3), .val (.int ((p1 &&& (31 : Int32)).toUInt32.toUInt16.toUInt32.toInt32)), .val (.int (((33 : Int32) + ((p2 &&& (2147483647 : Int32)) % (94 : Int32))).toUInt32.toUInt16.toUInt32.toInt32)), .val (.int (((128 : Int32) + ((p3 &&& (2147483647 : Int32)) % (65408 : Int32))).toUInt32.toUInt16.toUInt32.toInt32)), .val (.int (if ¬ (32 : Int32) < ((p1 &&& (31 : Int32)).toUInt32.toUInt16.toUInt32.toInt32) ∨ ((p1 &&& (31 : Int32)).toUInt32.toUInt16.toUInt32.toInt32) = 127 then 1 else 0)), .val (.int (if ¬ (32 : Int32) < (32 : Int32) ∨ (32 : Int32) = 127 then 1 else 0)), .val (.int (if ¬ (32 : Int32) < (127 : Int32) ∨ (127 : Int32) = 127 then 1 else 0)), .val (.int (if ¬ (32 : Int32) < (((33 : Int32) + ((p2 &&& (2147483647 : Int32)) % (94 : Int32))).toUInt32.toUInt16.toUInt32.toInt32) ∨ (((33 : Int32) + ((p2 &&& (2147483647 : Int32)) % (94 : Int32))).toUInt32.toUInt16.toUInt32.toInt32) = 127 then 1 else 0)), .val (.int (if ¬ (32 : Int32) < (((128 : Int32) + ((p3 &&& (2147483647 : Int32)) % (65408 : Int32))).toUInt32.toUInt16.toUInt32.toInt32) ∨ (((128 : Int32) + ((p3 &&& (2147483647 : Int32)) % (65408 : Int32))).toUInt32.toUInt16.toUInt32.toInt32) = 127 then 1 else 0))] [])) _
    refine XS.iload X14.here hx rfl (hb hby at_87) rfl ?_
    show Steps p.tables e below (T14.setTop (mkF m 89 #[.val (.int p1), .val (.int p2), .val (.int p3), .val (.int ((p1 &&& (31 : Int32)).toUInt32.toUInt16.toUInt32.toInt32)), .val (.int (((33 : Int32) + ((p2 &&& (2147483647 : Int32)) % (94 : Int32))).toUInt32.toUInt16.toUInt32.toInt32)), .val (.int (((128 : Int32) + ((p3 &&& (2147483647 : Int32)) % (65408 : Int32))).toUInt32.toUInt16.toUInt32.toInt32)), .val (.int (if ¬ (32 : Int32) < ((p1 &&& (31 : Int32)).toUInt32.toUInt16.toUInt32.toInt32) ∨ ((p1 &&& (31 : Int32)).toUInt32.toUInt16.toUInt32.toInt32) = 127 then 1 else 0)), .val (.int (if ¬ (32 : Int32) < (32 : Int32) ∨ (32 : Int32) = 127 then 1 else 0)), .val (.int (if ¬ (32 : Int32) < (127 : Int32) ∨ (127 : Int32) = 127 then 1 else 0)), .val (.int (if ¬ (32 : Int32) < (((33 : Int32) + ((p2 &&& (2147483647 : Int32)) % (94 : Int32))).toUInt32.toUInt16.toUInt32.toInt32) ∨ (((33 : Int32) + ((p2 &&& (2147483647 : Int32)) % (94 : Int32))).toUInt32.toUInt16.toUInt32.toInt32) = 127 then 1 else 0)), .val (.int (if ¬ (32 : Int32) < (((128 : Int32) + ((p3 &&& (2147483647 : Int32)) % (65408 : Int32))).toUInt32.toUInt16.toUInt32.toInt32) ∨ (((128 : Int32) + ((p3 &&& (2147483647 : Int32)) % (65408 : Int32))).toUInt32.toUInt16.toUInt32.toInt32) = 127 then 1 else 0))] [(.int (if ¬ (32 : Int32) < (((128 : Int32) + ((p3 &&& (2147483647 : Int32)) % (65408 : Int32))).toUInt32.toUInt16.toUInt32.toInt32) ∨ (((128 : Int32) + ((p3 &&& (2147483647 : Int32)) % (65408 : Int32))).toUInt32.toUInt16.toUInt32.toInt32) = 127 then 1 else 0))])) _
    exact k
  have go21 : Goes p e below s₁ (entryFrame m #[(.int p1), (.int p2), (.int p3)] maxLocals) T14 (mkF m 97 #[.val (.int p1), .val (.int p2), .val (.int p3), .val (.int ((p1 &&& (31 : Int32)).toUInt32.toUInt16.toUInt32.toInt32)), .val (.int (((33 : Int32) + ((p2 &&& (2147483647 : Int32)) % (94 : Int32))).toUInt32.toUInt16.toUInt32.toInt32)), .val (.int (((128 : Int32) + ((p3 &&& (2147483647 : Int32)) % (65408 : Int32))).toUInt32.toUInt16.toUInt32.toInt32)), .val (.int (if ¬ (32 : Int32) < ((p1 &&& (31 : Int32)).toUInt32.toUInt16.toUInt32.toInt32) ∨ ((p1 &&& (31 : Int32)).toUInt32.toUInt16.toUInt32.toInt32) = 127 then 1 else 0)), .val (.int (if ¬ (32 : Int32) < (32 : Int32) ∨ (32 : Int32) = 127 then 1 else 0)), .val (.int (if ¬ (32 : Int32) < (127 : Int32) ∨ (127 : Int32) = 127 then 1 else 0)), .val (.int (if ¬ (32 : Int32) < (((33 : Int32) + ((p2 &&& (2147483647 : Int32)) % (94 : Int32))).toUInt32.toUInt16.toUInt32.toInt32) ∨ (((33 : Int32) + ((p2 &&& (2147483647 : Int32)) % (94 : Int32))).toUInt32.toUInt16.toUInt32.toInt32) = 127 then 1 else 0)), .val (.int (if ¬ (32 : Int32) < (((128 : Int32) + ((p3 &&& (2147483647 : Int32)) % (65408 : Int32))).toUInt32.toUInt16.toUInt32.toInt32) ∨ (((128 : Int32) + ((p3 &&& (2147483647 : Int32)) % (65408 : Int32))).toUInt32.toUInt16.toUInt32.toInt32) = 127 then 1 else 0))] [(.int (1 : Int32))]) := fun t k => by
    refine go20 t ?_
    refine XS.ifNo X14.here hx rfl (hb hby at_89) rfl (Jvm.Free.XT.i0_ne_f (if_neg (own_c p3))) ?_
    show Steps p.tables e below (T14.setTop (mkF m 92 #[.val (.int p1), .val (.int p2), .val (.int p3), .val (.int ((p1 &&& (31 : Int32)).toUInt32.toUInt16.toUInt32.toInt32)), .val (.int (((33 : Int32) + ((p2 &&& (2147483647 : Int32)) % (94 : Int32))).toUInt32.toUInt16.toUInt32.toInt32)), .val (.int (((128 : Int32) + ((p3 &&& (2147483647 : Int32)) % (65408 : Int32))).toUInt32.toUInt16.toUInt32.toInt32)), .val (.int (if ¬ (32 : Int32) < ((p1 &&& (31 : Int32)).toUInt32.toUInt16.toUInt32.toInt32) ∨ ((p1 &&& (31 : Int32)).toUInt32.toUInt16.toUInt32.toInt32) = 127 then 1 else 0)), .val (.int (if ¬ (32 : Int32) < (32 : Int32) ∨ (32 : Int32) = 127 then 1 else 0)), .val (.int (if ¬ (32 : Int32) < (127 : Int32) ∨ (127 : Int32) = 127 then 1 else 0)), .val (.int (if ¬ (32 : Int32) < (((33 : Int32) + ((p2 &&& (2147483647 : Int32)) % (94 : Int32))).toUInt32.toUInt16.toUInt32.toInt32) ∨ (((33 : Int32) + ((p2 &&& (2147483647 : Int32)) % (94 : Int32))).toUInt32.toUInt16.toUInt32.toInt32) = 127 then 1 else 0)), .val (.int (if ¬ (32 : Int32) < (((128 : Int32) + ((p3 &&& (2147483647 : Int32)) % (65408 : Int32))).toUInt32.toUInt16.toUInt32.toInt32) ∨ (((128 : Int32) + ((p3 &&& (2147483647 : Int32)) % (65408 : Int32))).toUInt32.toUInt16.toUInt32.toInt32) = 127 then 1 else 0))] [])) _
    refine XS.iconst X14.here hx rfl (hb hby at_92) ?_
    show Steps p.tables e below (T14.setTop (mkF m 93 #[.val (.int p1), .val (.int p2), .val (.int p3), .val (.int ((p1 &&& (31 : Int32)).toUInt32.toUInt16.toUInt32.toInt32)), .val (.int (((33 : Int32) + ((p2 &&& (2147483647 : Int32)) % (94 : Int32))).toUInt32.toUInt16.toUInt32.toInt32)), .val (.int (((128 : Int32) + ((p3 &&& (2147483647 : Int32)) % (65408 : Int32))).toUInt32.toUInt16.toUInt32.toInt32)), .val (.int (if ¬ (32 : Int32) < ((p1 &&& (31 : Int32)).toUInt32.toUInt16.toUInt32.toInt32) ∨ ((p1 &&& (31 : Int32)).toUInt32.toUInt16.toUInt32.toInt32) = 127 then 1 else 0)), .val (.int (if ¬ (32 : Int32) < (32 : Int32) ∨ (32 : Int32) = 127 then 1 else 0)), .val (.int (if ¬ (32 : Int32) < (127 : Int32) ∨ (127 : Int32) = 127 then 1 else 0)), .val (.int (if ¬ (32 : Int32) < (((33 : Int32) + ((p2 &&& (2147483647 : Int32)) % (94 : Int32))).toUInt32.toUInt16.toUInt32.toInt32) ∨ (((33 : Int32) + ((p2 &&& (2147483647 : Int32)) % (94 : Int32))).toUInt32.toUInt16.toUInt32.toInt32) = 127 then 1 else 0)), .val (.int (if ¬ (32 : Int32) < (((128 : Int32) + ((p3 &&& (2147483647 : Int32)) % (65408 : Int32))).toUInt32.toUInt16.toUInt32.toInt32) ∨ (((128 : Int32) + ((p3 &&& (2147483647 : Int32)) % (65408 : Int32))).toUInt32.toUInt16.toUInt32.toInt32) = 127 then 1 else 0))] [(.int (1 : Int32))])) _
    refine XS.goto X14.here hx rfl (pc0 := 93) (pc' := 97) rfl (hb hby at_93) (by decide) (by decide) ?_
    show Steps p.tables e below (T14.setTop (mkF m 97 #[.val (.int p1), .val (.int p2), .val (.int p3), .val (.int ((p1 &&& (31 : Int32)).toUInt32.toUInt16.toUInt32.toInt32)), .val (.int (((33 : Int32) + ((p2 &&& (2147483647 : Int32)) % (94 : Int32))).toUInt32.toUInt16.toUInt32.toInt32)), .val (.int (((128 : Int32) + ((p3 &&& (2147483647 : Int32)) % (65408 : Int32))).toUInt32.toUInt16.toUInt32.toInt32)), .val (.int (if ¬ (32 : Int32) < ((p1 &&& (31 : Int32)).toUInt32.toUInt16.toUInt32.toInt32) ∨ ((p1 &&& (31 : Int32)).toUInt32.toUInt16.toUInt32.toInt32) = 127 then 1 else 0)), .val (.int (if ¬ (32 : Int32) < (32 : Int32) ∨ (32 : Int32) = 127 then 1 else 0)), .val (.int (if ¬ (32 : Int32) < (127 : Int32) ∨ (127 : Int32) = 127 then 1 else 0)), .val (.int (if ¬ (32 : Int32) < (((33 : Int32) + ((p2 &&& (2147483647 : Int32)) % (94 : Int32))).toUInt32.toUInt16.toUInt32.toInt32) ∨ (((33 : Int32) + ((p2 &&& (2147483647 : Int32)) % (94 : Int32))).toUInt32.toUInt16.toUInt32.toInt32) = 127 then 1 else 0)), .val (.int (if ¬ (32 : Int32) < (((128 : Int32) + ((p3 &&& (2147483647 : Int32)) % (65408 : Int32))).toUInt32.toUInt16.toUInt32.toInt32) ∨ (((128 : Int32) + ((p3 &&& (2147483647 : Int32)) % (65408 : Int32))).toUInt32.toUInt16.toUInt32.toInt32) = 127 then 1 else 0))] [(.int (1 : Int32))])) _
    exact k
  obtain ⟨fs, hr, hrun, hended, hW, hsame⟩ := X14.leave (v := some (.int (1 : Int32))) (fun h => by rw [Bd.returns] at h; cases h)
  refine ⟨_, _, go21 _ ?_, hrun, hended, _, _, rfl, ?_, ⟨_, rfl⟩, hW, hsame.mono (by decide) (by decide)⟩
  · exact retN X14 hx (t := .boolean) Bd.returns (by simp) (hb hby at_97) hr
  · show Q0 Z _ _ _ _ _ _ T14.heap _
    rw [e14]
    exact ⟨rfl, N14⟩
set_option maxRecDepth 65536 in
set_option maxHeartbeats 40000000 in
theorem comes_1 {Post : Tables → Env → Array Value → State → Outcome → State → Prop} (hpost : ∀ tb e args s v u, (limb_1_1.after args s (.returned v) u = true ∧ limb_1_2.after args s (.returned v) u = true ∧ True) → FrameEnd s (.returned v) u (Jvm.fieldLocs frame_1_writes args s ++ Jvm.arrayLocs frame_1_arrays args s ++ Jvm.staticLocs frame_1_statics s) 0 0 → Post tb e args s (.returned v) u) :
    ArmFor flags0 classFile x code maxLocals ret World_1 tables_1 room_1 Calls_1 rest_1 Pre_1 Post := by
  intro l hfl _ _ p e ha hc hk s m args below hf hA hF happ hP
  obtain ⟨hcalls, hrest, hpre⟩ := hP
  obtain ⟨-, -, -, hnamed, -, -, -, hat⟩ := (Spec.applies_iff hf).mp happ
  obtain ⟨hg, hn⟩ := and_e (Cond.before_iff.mp (show (Jvm.Cond.and given_1 narrow_1).before args s = true from hpre))
  obtain ⟨hg0, hg⟩ := and_e hg
  obtain ⟨ga0, hg⟩ := and_e hg
  obtain ⟨ga1, hg⟩ := and_e hg
  have ga2 := hg
  obtain ⟨w0, w1, w2, rfl⟩ : ∃ w0 w1 w2 : Value, args = #[w0, w1, w2] := by
    have hs : args.size = 3 := by simpa [Cond.value, given_1] using hg0
    obtain ⟨L⟩ := args
    match L, hs with
    | [w0, w1, w2], _ => exact ⟨w0, w1, w2, rfl⟩
  have hw := fun d (hd : d ∈ tables_1) => atoms_spec (ws := Jvm.Cond.code x code maxLocals ret :: tables_1) hat d (List.mem_cons_of_mem _ hd)
  have hfit : Fit s := fun {y c} hc i hi => by
    obtain ⟨ha, rfl⟩ := Array.getElem?_eq_some_iff.mp hc
    have q := List.all_eq_true.mp ((Array.all_eq_true_iff_forall_mem.mp hF) _ (Array.getElem_mem ha)) i (List.mem_range.mpr hi)
    simpa [Array.getElem?_eq_getElem hi] using q
  obtain ⟨i0, ei0⟩ := is_v ga0
  obtain rfl : w0 = (.int i0) := Option.some.inj ei0
  obtain ⟨i1, ei1⟩ := is_v ga1
  obtain rfl : w1 = (.int i1) := Option.some.inj ei1
  obtain ⟨i2, ei2⟩ := is_v ga2
  obtain rfl : w2 = (.int i2) := Option.some.inj ei2
  obtain ⟨n, o, h1, h2, h3, _, L, rfl, ⟨rfl, N⟩, hq⟩ := rm0 l s _ hw tables_1 i0 i1 i2 s.heap s.heap.size (Nat.le_refl _) p e ha hc hk s m _ below hf ((Spec.applies_iff_loose hf).mp happ).1 ⟨rfl, State.Warmed39.refl s, rfl⟩ trivial
  refine ⟨n, _, h1, h2, h3, hpost _ _ _ _ _ _ ⟨Cond.after_iff.mpr rfl, Cond.after_iff.mpr (eq_i res_at (Term.int_eval (1)) rfl), trivial⟩ ⟨hq.1, hq.2.1, (hq.2.2.sift fun y hy => Or.inr (N y hy)).mono (by decide) (by decide)⟩⟩
theorem main_1_1 : Claimed_1_1 := comes_1 fun _ _ _ _ _ _ h hF => ⟨h.1, hF⟩
theorem main_1_2 : Claimed_1_2 := comes_1 fun _ _ _ _ _ _ h hF => ⟨h.2.1, hF⟩
end Jvm.Pilot.@@N@@
namespace Jvm.Pilot.@@N@@
open Jvm Jvm.ClassFile Sem Op Lib Jvm.Free Jvm.Stand Jvm.Pilot.@@N@@.Jvm.D
/-! MADE BY PROGRAM (witnessworld.py) out of the Statement's table words and the real class files: 9 classes; the members and pool entries that the words name. The judged class is class 1, her method 1. -/
namespace start1
open Jvm.ClassFile
def u (s : String) : CpInfo := .utf8 (stringToUtf16 s)
/-- a pool by its gaps: so many unusable entries, then the entry; so many at the end -/
def gap : Nat → List CpInfo → List CpInfo
  | 0, r => r
  | n + 1, r => .unusable :: gap n r
def poolList (es : List (Nat × CpInfo)) (last : Nat) : List CpInfo := es.foldr (fun e r => gap e.1 (e.2 :: r)) (gap last [])
def pool (es : List (Nat × CpInfo)) (last : Nat) : Array CpInfo := ⟨poolList es last⟩
def fileOf (pool : Array CpInfo) (this : Nat) (attrs : Array Attribute := #[]) (ms : Array MethodInfo := #[]) (fl : Nat := 33) (sup : Nat := 0) (ifs : Array Nat := #[]) (fds : Array FieldInfo := #[]) : ClassFile where
  minorVersion := 0
  majorVersion := 65
  constantPool := pool
  accessFlags := fl
  thisClass := this
  superClass := sup
  interfaces := ifs
  fields := fds
  methods := ms
  attributes := attrs
def plain (name : String) (sup : Option ClassId) : Class where
  name := name
  kind := .ordinary
  loader := none
  accessFlags := 33
  super := sup
  interfaces := #[]
  cf := none
  fields := #[]
  methods := #[]
  instanceTypes := #[]
  staticTypes := #[]
  resolved := #[]
  callSites := []
  init := .initialized
  statics := none
  mirror := none

def pool0 : Array CpInfo := pool [(5, u "<init>"), (0, u "()V"), (1, .class_ 10), (1, u "java/lang/Object")] 113

def k0m0 : Method := { name := "<init>", desc := "()V", sig := { parameters := [], returnType := none }, accessFlags := 1, code := none }
/-- java/lang/Object -/
def k0 : Class := { plain "java/lang/Object" none with
  accessFlags := 33
  interfaces := #[]
  cf := some (fileOf pool0 8 #[] #[{ accessFlags := 1, nameIndex := 5, descriptorIndex := 6, attributes := #[] }] 33 0 #[] #[])
  fields := #[]
  methods := #[k0m0]
  instanceTypes := #[]
  staticTypes := #[]
  resolved := Array.replicate 124 none
  statics := none }

def pool1 : Array CpInfo := pool [(2, .class_ 4), (1, u "java/lang/Object"), (0, u "<init>"), (0, u "()V"), (0, .integer 2147483647), (0, .integer 65408), (0, .methodref 10 11), (0, .class_ 12), (0, .nameAndType 13 14), (0, u "com/example/convey/convey/io/FieldTokens"), (0, u "isSpace"), (0, u "(C)Z"), (0, .class_ 16), (0, u "com/example/convey/convey/io/FieldTokensIsSpacePinLaw"), (2, u "law"), (0, u "(III)Z")] 3

def k1m0 : Method := { name := "<init>", desc := "()V", sig := { parameters := [], returnType := none }, accessFlags := 1, code := none }
def k1c1 : Code := { maxStack := 3, maxLocals := 11, code := code, exceptionTable := #[], attributes := #[] }
def k1m1 : Method := { name := "law", desc := "(III)Z", sig := { parameters := [.int, .int, .int], returnType := some .boolean }, accessFlags := 9, code := some k1c1 }
/-- com/example/convey/convey/io/FieldTokensIsSpacePinLaw -/
def k1 : Class := { plain "com/example/convey/convey/io/FieldTokensIsSpacePinLaw" (some 0) with
  accessFlags := 49
  interfaces := #[]
  cf := some (fileOf pool1 15 #[] #[{ accessFlags := 1, nameIndex := 5, descriptorIndex := 6, attributes := #[] }, { accessFlags := 9, nameIndex := 19, descriptorIndex := 20, attributes := #[] }] 49 2 #[] #[])
  fields := #[]
  methods := #[k1m0, k1m1]
  instanceTypes := #[]
  staticTypes := #[]
  resolved := Array.replicate 24 none
  statics := none }

def pool2 : Array CpInfo := pool [(2, .class_ 4), (1, u "java/lang/Object"), (6, .class_ 13), (1, u "com/example/convey/convey/io/FieldTokens"), (0, u "tokens"), (0, u "Ljava/util/List;"), (2, u "value"), (0, u "Ljava/lang/String;"), (8, u "position"), (0, u "I"), (12, u "isSpace"), (0, u "(C)Z"), (5, u "spaced"), (0, u "Z"), (1, .class_ 54), (1, u "com/example/convey/convey/io/FieldTokens$Kind"), (50, .class_ 106), (0, u "com/example/convey/convey/io/FieldTokens$Token"), (8, u "SPECIALS")] 17

def k2c0 : Code := { maxStack := 2, maxLocals := 1, code := prog_18_method_9_code, exceptionTable := #[], attributes := #[] }
def k2m0 : Method := { name := "isSpace", desc := "(C)Z", sig := { parameters := [.char], returnType := some .boolean }, accessFlags := 8, code := some k2c0 }
/-- com/example/convey/convey/io/FieldTokens -/
def k2 : Class := { plain "com/example/convey/convey/io/FieldTokens" (some 0) with
  accessFlags := 32
  interfaces := #[]
  cf := some (fileOf pool2 11 #[.nestMembers #[105, 52]] #[{ accessFlags := 8, nameIndex := 42, descriptorIndex := 43, attributes := #[] }] 32 2 #[] #[{ accessFlags := 26, nameIndex := 115, descriptorIndex := 19, attributes := #[] }, { accessFlags := 18, nameIndex := 18, descriptorIndex := 19, attributes := #[] }, { accessFlags := 18, nameIndex := 14, descriptorIndex := 15, attributes := #[] }, { accessFlags := 2, nameIndex := 28, descriptorIndex := 29, attributes := #[] }, { accessFlags := 2, nameIndex := 49, descriptorIndex := 50, attributes := #[] }])
  fields := #[{ name := "SPECIALS", type := (.object "java/lang/String"), accessFlags := 26, slot := 0, constantValue := 0 }, { name := "value", type := (.object "java/lang/String"), accessFlags := 18, slot := 0, constantValue := 0 }, { name := "tokens", type := (.object "java/util/List"), accessFlags := 18, slot := 1, constantValue := 0 }, { name := "position", type := .int, accessFlags := 2, slot := 2, constantValue := 0 }, { name := "spaced", type := .boolean, accessFlags := 2, slot := 3, constantValue := 0 }]
  methods := #[k2m0]
  instanceTypes := #[(.object "java/lang/String"), (.object "java/util/List"), .int, .boolean]
  staticTypes := #[(.object "java/lang/String")]
  resolved := Array.replicate 133 none
  statics := none }

def pool3 : Array CpInfo := pool [(1, u "java/lang/Cloneable"), (0, .class_ 1), (0, u "java/lang/Object"), (0, .class_ 3)] 3

/-- java/lang/Cloneable -/
def k3 : Class := { plain "java/lang/Cloneable" (some 0) with
  accessFlags := 1537
  interfaces := #[]
  cf := some (fileOf pool3 2 #[] #[] 1537 4 #[] #[])
  fields := #[]
  methods := #[]
  instanceTypes := #[]
  staticTypes := #[]
  resolved := Array.replicate 8 none
  statics := none }

def pool4 : Array CpInfo := pool [(1, u "java/io/Serializable"), (0, .class_ 1), (0, u "java/lang/Object"), (0, .class_ 3)] 3

/-- java/io/Serializable -/
def k4 : Class := { plain "java/io/Serializable" (some 0) with
  accessFlags := 1537
  interfaces := #[]
  cf := some (fileOf pool4 2 #[] #[] 1537 4 #[] #[])
  fields := #[]
  methods := #[]
  instanceTypes := #[]
  staticTypes := #[]
  resolved := Array.replicate 8 none
  statics := none }

/-- the primitive byte -/
def k5 : Class := { plain "byte" none with kind := .primitive 'B', accessFlags := 0x411 }
/-- [B -/
def k6 : Class := { plain "[B" (some 0) with kind := .array 5 .byte, interfaces := #[3, 4], accessFlags := 1041 }

/-- the primitive int -/
def k7 : Class := { plain "int" none with kind := .primitive 'I', accessFlags := 0x411 }
/-- [I -/
def k8 : Class := { plain "[I" (some 0) with kind := .array 7 .int, interfaces := #[3, 4], accessFlags := 1041 }

def heap : Heap := #[]
def classes : Array Class := #[k0, k1, k2, k3, k4, k5, k6, k7, k8]
def interned : List (Array UInt16 × Addr) := []
def slotsUsed : Nat := 0
def theMethod : MethodId := ⟨1, 1⟩
def args0 : Array Value := #[.int 5, .int 7, .int 9]
def aboutOver (below : List Frame) : State where
  vm := { classes := classes, interned := interned.toArray }
  heap := heap
  slotsUsed := slotsUsed
  threads := #[{ frames := .invoking theMethod args0 :: below }]
def below0 : List Frame := [.native { method := ⟨0, 0⟩, args := #[] }]
def about1 : State := aboutOver below0
def p0 : Program := .bare "" "" ""
def e0 : Env := launch0.env 0 0 0
theorem w_frames : about1.frames = Frame.invoking theMethod args0 :: below0 := rfl
set_option maxRecDepth 65536 in
theorem w_args : argsFit about1.vm theMethod args0 = true := by decide +kernel
set_option maxRecDepth 65536 in
theorem w_heap : heapFits about1 = true := by decide +kernel
set_option maxRecDepth 65536 in
theorem w_runnable : about1.curStatus? = some .runnable := by decide +kernel
set_option maxRecDepth 65536 in
theorem w_alone : about1.alone = true := by decide +kernel
set_option maxRecDepth 65536 in
theorem w_named : about1.methodNamed? x = some theMethod := by decide +kernel
set_option maxRecDepth 65536 in
theorem w_hears : about1.hears theMethod below0 = true := by decide +kernel
set_option maxRecDepth 65536 in
theorem w_ripe : about1.ripe theMethod args0 below0 = true := by decide +kernel
theorem w_running : about1.status = .running := rfl
set_option maxRecDepth 65536 in
theorem w_room : about1.hasRoom e0.platform room_1 = true :=
  launch0.hasRoom_least _ room_1 (by decide +kernel) (by decide +kernel) (by decide +kernel) (by decide +kernel) (by decide +kernel) (by decide +kernel)
theorem allAtoms_all (ts : List Jvm.Cond) (a : Array Jvm.Value) (st : Jvm.State) : (allAtoms ts).before a st = ts.all (fun c => c.before a st) := by
  induction ts with
  | nil => rfl
  | cons c t ih =>
    show (Jvm.Cond.and c (allAtoms t)).before a st = _
    rw [Jvm.Cond.before_and, ih, List.all_cons]
def words1 : List Jvm.Cond := Jvm.Cond.code x code maxLocals ret :: tables_1
/-- a 'code' word, met by the world's own term for the bytes: nothing is compared byte by byte -/
theorem code_word {y : MethodName} {bytes : ByteArray} {mx : Nat} {rt : Option FieldType} {a : Array Value} {s : State} {m : MethodId} {meth : Method} {c : Code} (h1 : s.methodNamed? y = some m) (h2 : s.vm.method? m = some meth) (h3 : meth.code = some c) (h4 : c.code = bytes)
    (h5 : (c.maxLocals == mx && c.exceptionTable.isEmpty && decide (c.maxStack ≤ mostOperands) && decide (meth.sig.returnType = rt) && !meth.locks && decide (parseMethodDescriptor y.desc = some meth.sig)) = true) : (Jvm.Cond.code y bytes mx rt).before a s = true := by
  simp only [Bool.and_eq_true, beq_iff_eq, Bool.not_eq_true', decide_eq_true_eq] at h5
  obtain ⟨⟨⟨⟨⟨g1, g2⟩, g3⟩, g4⟩, g5⟩, g6⟩ := h5
  simp [Cond.before, Cond.holds, Cond.value, h1, h2, h3, h4, g1, g2, g3, g4, g5, g6]
def isCode : Jvm.Cond → Bool
  | .code _ _ _ _ => true
  | _ => false
theorem all_split {L : List Jvm.Cond} {P : Jvm.Cond → Bool} (h1 : L.all (fun c => isCode c || P c) = true) (h2 : ∀ c ∈ L.filter isCode, P c = true) : L.all P = true := by
  refine List.all_eq_true.mpr fun c hc => ?_
  have h := List.all_eq_true.mp h1 c hc
  rcases Bool.eq_false_or_eq_true (isCode c) with hi | hi
  · exact h2 c (List.mem_filter.mpr ⟨hc, hi⟩)
  · simpa [hi] using h
set_option maxRecDepth 65536 in
theorem w_c0 : (Jvm.Cond.code x code maxLocals ret).before args0 about1 = true := code_word (m := ⟨1, 1⟩) (meth := k1m1) (c := k1c1) (by decide +kernel) rfl rfl rfl (by decide +kernel)
set_option maxRecDepth 65536 in
theorem w_c1 : (Jvm.Cond.code ({ cls := "com/example/convey/convey/io/FieldTokens", name := "isSpace", desc := "(C)Z" } : Jvm.MethodName) prog_18_method_9_code (1 : Nat) (Option.some Jvm.ClassFile.FieldType.boolean)).before args0 about1 = true := code_word (m := ⟨2, 0⟩) (meth := k2m0) (c := k2c0) (by decide +kernel) rfl rfl rfl (by decide +kernel)
def codes1 : List Jvm.Cond := [Jvm.Cond.code x code maxLocals ret, Jvm.Cond.code ({ cls := "com/example/convey/convey/io/FieldTokens", name := "isSpace", desc := "(C)Z" } : Jvm.MethodName) prog_18_method_9_code (1 : Nat) (Option.some Jvm.ClassFile.FieldType.boolean)]
set_option maxRecDepth 65536 in
theorem codes_eq : words1.filter isCode = codes1 := rfl
theorem w_codes : ∀ c ∈ words1.filter isCode, c.before args0 about1 = true := by
  rw [codes_eq]
  intro c hc
  simp only [codes1, List.mem_cons, List.not_mem_nil, or_false] at hc
  rcases hc with rfl | rfl
  · exact w_c0
  · exact w_c1
set_option maxRecDepth 65536 in
theorem w_t1 : words1.all (fun c => isCode c || c.before args0 about1) = true := by decide +kernel
theorem w_tables : (allAtoms (Jvm.Cond.code x code maxLocals ret :: tables_1)).before args0 about1 = true := by
  rw [allAtoms_all]
  show words1.all (fun c => c.before args0 about1) = true
  refine all_split ?_ w_codes
  rw [w_t1]
set_option maxRecDepth 65536 in
theorem w_case : (Jvm.Cond.and given_1 narrow_1).before args0 about1 = true := by decide +kernel
theorem w_applies : (headSpec (Jvm.Cond.code x code maxLocals ret :: tables_1) room_1).applies x e0.platform about1 = true :=
  (Spec.applies_iff w_frames).mpr ⟨w_running, w_runnable, w_alone, w_named, w_hears, w_ripe, w_room, w_tables⟩
theorem atStart : AtStart classFile x code maxLocals ret World_1 tables_1 room_1 Calls_1 rest_1 Pre_1 launch0 p0 e0 about1 theMethod args0 below0 :=
  ⟨lists_1, trivial, launch0.admits_env _ _ _, launch0.least_env, fairChoices_fair.cas, fairChoices_fair.clock, w_frames, w_args, w_heap, w_applies, trivial, trivial, w_case⟩
end start1
theorem witness_1 : WitnessClaimed_1 := ⟨start1.p0, start1.e0, start1.about1, start1.theMethod, start1.args0, start1.below0, start1.atStart⟩
end Jvm.Pilot.@@N@@
