import JvmDerived
import JvmDerived.Pilot.@@N@@Statement
import JvmDerived.Pilot.@@N@@Code
set_option linter.unusedVariables false
set_option linter.unusedSimpArgs false
@@BLOCK:NumsL.lean.txt@@
namespace Jvm.RoadKit
open Sem ClassFile Op Lib Jvm.Stand Jvm.Free Jvm.LawKit
section New
variable {p : Program} {l : Launch} {e : Env} {R : Room} {s : State} {m : MethodId} {args : Array Value} {below : List Frame} {meth : Method} {c : Code} {T : State} {locs : List Loc} {cells slots : Nat}
theorem retI (X : Stand p l e R s m args below meth c T locs cells slots) (hx : p.tables.exec = Jvm.exec) {pc : Nat} {Ls : Array Slot} {z : Int32} {rest : List Value} (hret : meth.sig.returnType = some .int) (hd : decode c.code pc = .ok (.ireturn, 1)) {fs : List Frame}
    (hl : ∀ (f : JFrame) (acts : List Action), f.method = m → f.locked = none → f.entered = [] → (doReturn e (T.setTop f) acts (some (.int z))).1 = T.setFrames fs) : Steps p.tables e below (T.setTop (mkF m pc Ls (.int z :: rest))) (T.setFrames fs) := by
  have hm' : T.vm.method? m = some meth := X.method'
  have hn : narrow .int (.int z) = .int z := rfl
  show Steps p.tables e below (T.setTop { method := m, pc := pc, locals := Ls, stack := _ :: rest, locked := none }) _
  jvm_step X.here [X.here.top, hx, hd, hm', hret, hn]
  first | (intro acts; rw [hl _ acts rfl rfl rfl]) | rw [hl _ _ rfl rfl rfl]
  exact Steps.refl _
end New
end Jvm.RoadKit
namespace Jvm.Pilot.@@N@@
open Jvm Jvm.ClassFile Sem Op Lib Jvm.Free Jvm.Stand Jvm.LawKit Jvm.RoadKit Bundle Jvm.Pilot.@@N@@.Jvm.D
theorem own_fi {args : Array Value} {s : State} {t : Term} {C n d : String} {k : Int32} {x : Addr} (ht : t.eval args s none [] s = some (.ref x)) (h : (Jvm.Cond.eq (Term.field t C n d) (Term.int k)).value args s none s [] = some true) : Fld s s.heap x C n d (.int k) := by
  obtain ⟨a, b, ha, hb, hk, -⟩ := cmp_v (Or.inl h)
  have hb' : b = .int k := Option.some.inj (hb.symm.trans rfl)
  subst hb'
  cases a <;> simp [Kin, Value.isRef] at hk
  rename_i z
  have hz : z = k := by simpa [Jvm.Cond.value, ha, hb] using h
  subst hz
  exact Fld.start ((fld_at ht).symm.trans ha)
theorem own_fn {args : Array Value} {s : State} {t : Term} {C n d : String} {x : Addr} (ht : t.eval args s none [] s = some (.ref x)) (h : (Jvm.Cond.eq (Term.field t C n d) Term.null).value args s none s [] = some true) : Fld s s.heap x C n d .null := Fld.start ((fld_at ht).symm.trans (null_v h))
theorem own_fx {args : Array Value} {s : State} {t : Term} {C n d K : String} {x : Addr} (ht : t.eval args s none [] s = some (.ref x)) (h : (Jvm.Cond.exactly (Term.field t C n d) K).value args s none s [] = some true) : ∃ y, (Term.field t C n d).eval args s none [] s = some (.ref y) ∧ Fld s s.heap x C n d (.ref y) ∧ Exa s s.heap y K := by
  obtain ⟨y, hy⟩ := exa_v h
  exact ⟨y, hy, Fld.start ((fld_at ht).symm.trans hy), Exa.start hy h⟩
theorem own_sx {args : Array Value} {s : State} {C n d K : String} (hi : (Jvm.Cond.initialized C).before args s = true) (hl : (Jvm.Cond.laysStatic C n d).before args s = true) (h : (Jvm.Cond.exactly (Term.static C n d) K).value args s none s [] = some true) : ∃ x, (Term.static C n d).eval args s none [] s = some (.ref x) ∧ Sta s s.heap C n d (.ref x) ∧ Exa s s.heap x K := by
  obtain ⟨y, hy⟩ := exa_v h
  exact ⟨y, hy, Sta.start hy (Or.inr ⟨hi, hl⟩), Exa.start hy h⟩
theorem own_and31 (x : Int32) : (x &&& 2147483647).toInt = x.toInt % 2 ^ 31 := Jvm.Kit.i32_mask x 2147483647 (k := 31) (by decide) (by decide)
theorem own_pos31 (x : Int32) : 0 ≤ (x &&& 2147483647).toInt := by rw [own_and31]; omega
theorem own_rem (x m : Int32) (hm : 0 < m.toInt) : 0 ≤ ((x &&& 2147483647) % m).toInt ∧ ((x &&& 2147483647) % m).toInt < m.toInt := by
  have h1 := own_pos31 x
  rw [Int32.toInt_mod]
  have h2 : ((x &&& 2147483647).toInt).tmod m.toInt = (x &&& 2147483647).toInt % m.toInt := Int.tmod_eq_emod_of_nonneg h1
  have h3 := Int.emod_nonneg (x &&& 2147483647).toInt (show m.toInt ≠ 0 by omega)
  have h4 := Int.emod_lt_of_pos (x &&& 2147483647).toInt hm
  omega
theorem own_selp {s : State} {args : Array Value} {y : MethodName} {n : Nat} (hy : y.cls ≠ "java/lang/invoke/MethodHandle" ∧ y.cls ≠ "java/lang/invoke/VarHandle") (hins : (Jvm.Cond.instantiable y.cls n).before args s = true) (hpriv : (Jvm.Cond.privateMethod y).before args s = true) (hinst : (Jvm.Cond.instanceMethod y).before args s = true) : (Jvm.Cond.selects y.cls y y).before args s = true := by
  obtain ⟨c, k, hc, hk, -, hniab, -, -⟩ := Cond.instantiable_spec hins
  have hni : k.isInterface = false := (Bool.or_eq_false_iff.mp hniab).1
  obtain ⟨mk, methM, hnamed, hmethM, -, -⟩ := Cond.instanceMethod_spec hinst
  have hfound : s.methodFound? y.cls y.name y.desc = some mk := State.methodFound?_of_named hnamed hy
  have hcls : mk.cls = c := Option.some.inj ((findClass_of_methodNamed hnamed).symm.trans hc)
  have hsel : selectMethod {} s.vm c mk = .method mk := selectMethod_private hmethM (Cond.privateMethod_at hpriv mk methM hnamed hmethM)
  simp only [Cond.before, Cond.holds, Cond.value, hc, hfound, hnamed, hsel, hcls, hk]
  simp; exact hni
theorem own_hp {T : State} {h : Heap} {a : Addr} {c : Cell} (e : T.heap = h) (q : h[a]? = some c) : T.heap[a]? = some c := e ▸ q
theorem own_of_toInt {x : Int32} {n : Int} (h : x.toInt = n) : x = Int32.ofInt n := by rw [← h, Int32.ofInt_toInt]
theorem d1_0 : decode prog_9_method_5_code 0 = .ok (.iload_n 0, 1) := by decide +kernel
theorem d1_1 : decode prog_9_method_5_code 1 = .ok (.sipush 128, 3) := by decide +kernel
theorem d1_4 : decode prog_9_method_5_code 4 = .ok (.if_icmp .ge 11, 3) := by decide +kernel
theorem d1_7 : decode prog_9_method_5_code 7 = .ok (.iload_n 0, 1) := by decide +kernel
theorem d1_8 : decode prog_9_method_5_code 8 = .ok (.bipush 32, 2) := by decide +kernel
theorem d1_10 : decode prog_9_method_5_code 10 = .ok (.ior, 1) := by decide +kernel
theorem d1_11 : decode prog_9_method_5_code 11 = .ok (.iload_n 1, 1) := by decide +kernel
theorem d1_12 : decode prog_9_method_5_code 12 = .ok (.if_icmp .ne 7, 3) := by decide +kernel
theorem d1_15 : decode prog_9_method_5_code 15 = .ok (.iconst 1, 1) := by decide +kernel
theorem d1_16 : decode prog_9_method_5_code 16 = .ok (.goto 4, 3) := by decide +kernel
theorem d1_19 : decode prog_9_method_5_code 19 = .ok (.iconst 0, 1) := by decide +kernel
theorem d1_20 : decode prog_9_method_5_code 20 = .ok (.ireturn, 1) := by decide +kernel
theorem pn_0 : plainName "com/example/whereas/whereas/analysis/Letters" = true := by first | (simp [plainName, overriddenIn]; done) | decide +kernel
theorem ef_rm1 (m : MethodId) (p1 : Int32) (p2 : Int32) : entryFrame m #[(.int p1), (.int p2)] 2 = mkF m 0 #[.val (.int p1), .val (.int p2)] [] := by first | (simp [entryFrame, mkF, argsToLocals, Value.category]; done) | rfl
def Q1 (Z : State) (p1 : Int32) (p2 : Int32) (h0 : Heap) (n0 : Nat) (v : Option Value) (h : Heap) (L : List Loc) : Prop := v = some (.int (if ¬ p1 < (128 : Int32) ∨ (p1 ||| (32 : Int32)) = p2 then 1 else 0)) ∧ Fr n0 L ∧ h = h0
set_option maxRecDepth 65536 in
set_option maxHeartbeats 40000000 in
theorem rm1 (l : Launch) (Z : State) (a0 : Array Value) (hw : ∀ d ∈ tables_1, d.before a0 Z = true) (ws : List Jvm.Cond) (p1 : Int32) (p2 : Int32) (h0 : Heap) (n0 : Nat) (Z0 : n0 ≤ h0.size) :
    MetFree l (⟨"com/example/whereas/whereas/analysis/Letters", "mayBe", "(CC)Z"⟩ : MethodName) (head1 (Jvm.Cond.code (⟨"com/example/whereas/whereas/analysis/Letters", "mayBe", "(CC)Z"⟩ : MethodName) prog_9_method_5_code 2 (some .boolean) :: ws) ({ frames := 0, cells := 0, slots := 0, locals := 0 } : Room)) (fun a U => a = #[(.int p1), (.int p2)] ∧ Z.Warmed39 U.vm ∧ U.heap = h0) (fun _ _ _ _ _ => True) (fun _ U o U' => ∃ v L, o = .returned v ∧ Q1 Z p1 p2 h0 n0 v U'.heap L ∧ FrameEnd U o U' L ({ frames := 0, cells := 0, slots := 0, locals := 0 } : Room).cells ({ frames := 0, cells := 0, slots := 0, locals := 0 } : Room).slots) := by
  refine MetFree.of_bodySF (plainFor_of_name pn_0) hisR ?_
  intro p e s m args below meth c s₁ Bd hml0 hP hK
  obtain ⟨rfl, hZ, hh⟩ := hP
  have hx := Bd.exec
  have hby := Bd.bytes
  have hml : c.maxLocals = 2 := hml0
  have hown : s.vm.findClass "com/example/whereas/whereas/analysis/Letters" = some m.cls := findClass_of_methodNamed Bd.named
  have hnm := (name_of_methodNamed Bd.named Bd.method).1
  have X0 : Stand p l e ({ frames := 0, cells := 0, slots := 0, locals := 0 } : Room) s m #[(.int p1), (.int p2)] below meth c s₁ [] 0 0 := Stand.of_body Bd
  have e0 : s₁.heap = h0 := by rw [← hh, Bd.state]; rfl
  have N0 := Fr.nil n0
  have K0 := Keep.refl h0 []
  have go0 : Goes p e below s₁ (entryFrame m #[(.int p1), (.int p2)] 2) s₁ (mkF m 0 #[.val (.int p1), .val (.int p2)] []) := fun t k => castTop (ef_rm1 m p1 p2) k
  have go1 : Goes p e below s₁ (entryFrame m #[(.int p1), (.int p2)] 2) s₁ (mkF m 4 #[.val (.int p1), .val (.int p2)] [(.int (128 : Int32)), (.int p1)]) := fun t k => by
    refine go0 t ?_
    refine XS.iloadN X0.here hx rfl (hb hby d1_0) rfl ?_
    show Steps p.tables e below (s₁.setTop (mkF m 1 #[.val (.int p1), .val (.int p2)] [(.int p1)])) _
    refine XS.sipush X0.here hx rfl (hb hby d1_1) ?_
    show Steps p.tables e below (s₁.setTop (mkF m 4 #[.val (.int p1), .val (.int p2)] [(.int (128 : Int32)), (.int p1)])) _
    exact k
  by_cases hc2 : p1 < (128 : Int32)
  · have go3 : Goes p e below s₁ (entryFrame m #[(.int p1), (.int p2)] 2) s₁ (mkF m 12 #[.val (.int p1), .val (.int p2)] [(.int p2), (.int (p1 ||| (32 : Int32)))]) := fun t k => by
      refine go1 t ?_
      refine XS.icmpNo X0.here hx rfl (hb hby d1_4) rfl (Jvm.Free.XT.ii_ge_f hc2) ?_
      show Steps p.tables e below (s₁.setTop (mkF m 7 #[.val (.int p1), .val (.int p2)] [])) _
      refine XS.iloadN X0.here hx rfl (hb hby d1_7) rfl ?_
      show Steps p.tables e below (s₁.setTop (mkF m 8 #[.val (.int p1), .val (.int p2)] [(.int p1)])) _
      refine XS.bipush X0.here hx rfl (hb hby d1_8) ?_
      show Steps p.tables e below (s₁.setTop (mkF m 10 #[.val (.int p1), .val (.int p2)] [(.int (32 : Int32)), (.int p1)])) _
      refine XS.ior X0.here hx rfl (hb hby d1_10) rfl ?_
      show Steps p.tables e below (s₁.setTop (mkF m 11 #[.val (.int p1), .val (.int p2)] [(.int (p1 ||| (32 : Int32)))])) _
      refine XS.iloadN X0.here hx rfl (hb hby d1_11) rfl ?_
      show Steps p.tables e below (s₁.setTop (mkF m 12 #[.val (.int p1), .val (.int p2)] [(.int p2), (.int (p1 ||| (32 : Int32)))])) _
      exact k
    by_cases hc4 : (p1 ||| (32 : Int32)) = p2
    · have go5 : Goes p e below s₁ (entryFrame m #[(.int p1), (.int p2)] 2) s₁ (mkF m 20 #[.val (.int p1), .val (.int p2)] [(.int (1 : Int32))]) := fun t k => by
        refine go3 t ?_
        refine XS.icmpNo X0.here hx rfl (hb hby d1_12) rfl (Jvm.Free.XT.ii_ne_f hc4) ?_
        show Steps p.tables e below (s₁.setTop (mkF m 15 #[.val (.int p1), .val (.int p2)] [])) _
        refine XS.iconst X0.here hx rfl (hb hby d1_15) ?_
        show Steps p.tables e below (s₁.setTop (mkF m 16 #[.val (.int p1), .val (.int p2)] [(.int (1 : Int32))])) _
        refine XS.goto X0.here hx rfl (pc0 := 16) (pc' := 20) rfl (hb hby d1_16) (by decide) (by decide) ?_
        show Steps p.tables e below (s₁.setTop (mkF m 20 #[.val (.int p1), .val (.int p2)] [(.int (1 : Int32))])) _
        exact k
      obtain ⟨fs, hr, hrun, hended, hW, hsame⟩ := X0.leave (v := some (.int (1 : Int32))) (fun h => by rw [Bd.returns] at h; cases h)
      refine ⟨_, _, go5 _ ?_, hrun, hended, _, _, rfl, ?_, ⟨_, rfl⟩, hW, hsame.mono (by decide) (by decide)⟩
      · exact retN X0 hx (t := .boolean) Bd.returns (by simp) (hb hby d1_20) hr
      · show Q1 Z _ _ _ _ _ s₁.heap _
        rw [e0]
        exact ⟨by simp [hc2, hc4], N0, rfl⟩
    · have go6 : Goes p e below s₁ (entryFrame m #[(.int p1), (.int p2)] 2) s₁ (mkF m 20 #[.val (.int p1), .val (.int p2)] [(.int (0 : Int32))]) := fun t k => by
        refine go3 t ?_
        refine XS.icmpYes X0.here hx rfl (pc0 := 12) (pc' := 19) rfl (hb hby d1_12) rfl (Jvm.Free.XT.ii_ne_t hc4) (by decide) (by decide) ?_
        show Steps p.tables e below (s₁.setTop (mkF m 19 #[.val (.int p1), .val (.int p2)] [])) _
        refine XS.iconst X0.here hx rfl (hb hby d1_19) ?_
        show Steps p.tables e below (s₁.setTop (mkF m 20 #[.val (.int p1), .val (.int p2)] [(.int (0 : Int32))])) _
        exact k
      obtain ⟨fs, hr, hrun, hended, hW, hsame⟩ := X0.leave (v := some (.int (0 : Int32))) (fun h => by rw [Bd.returns] at h; cases h)
      refine ⟨_, _, go6 _ ?_, hrun, hended, _, _, rfl, ?_, ⟨_, rfl⟩, hW, hsame.mono (by decide) (by decide)⟩
      · exact retN X0 hx (t := .boolean) Bd.returns (by simp) (hb hby d1_20) hr
      · show Q1 Z _ _ _ _ _ s₁.heap _
        rw [e0]
        exact ⟨by simp [hc2, hc4], N0, rfl⟩
  · have go7 : Goes p e below s₁ (entryFrame m #[(.int p1), (.int p2)] 2) s₁ (mkF m 20 #[.val (.int p1), .val (.int p2)] [(.int (1 : Int32))]) := fun t k => by
      refine go1 t ?_
      refine XS.icmpYes X0.here hx rfl (pc0 := 4) (pc' := 15) rfl (hb hby d1_4) rfl (Jvm.Free.XT.ii_ge_t hc2) (by decide) (by decide) ?_
      show Steps p.tables e below (s₁.setTop (mkF m 15 #[.val (.int p1), .val (.int p2)] [])) _
      refine XS.iconst X0.here hx rfl (hb hby d1_15) ?_
      show Steps p.tables e below (s₁.setTop (mkF m 16 #[.val (.int p1), .val (.int p2)] [(.int (1 : Int32))])) _
      refine XS.goto X0.here hx rfl (pc0 := 16) (pc' := 20) rfl (hb hby d1_16) (by decide) (by decide) ?_
      show Steps p.tables e below (s₁.setTop (mkF m 20 #[.val (.int p1), .val (.int p2)] [(.int (1 : Int32))])) _
      exact k
    obtain ⟨fs, hr, hrun, hended, hW, hsame⟩ := X0.leave (v := some (.int (1 : Int32))) (fun h => by rw [Bd.returns] at h; cases h)
    refine ⟨_, _, go7 _ ?_, hrun, hended, _, _, rfl, ?_, ⟨_, rfl⟩, hW, hsame.mono (by decide) (by decide)⟩
    · exact retN X0 hx (t := .boolean) Bd.returns (by simp) (hb hby d1_20) hr
    · show Q1 Z _ _ _ _ _ s₁.heap _
      rw [e0]
      exact ⟨by simp [hc2], N0, rfl⟩
theorem own_i2c {x : Int32} (h0 : 0 ≤ x.toInt) (h1 : x.toInt < 65536) : x.toUInt32.toUInt16.toUInt32.toInt32 = x := by
  have e := Jvm.Kit.i32_mask x 65535 (k := 16) (by decide) (by decide)
  have e2 : x &&& 65535 = x := by
    apply Int32.toInt_inj.mp; rw [e]; omega
  apply Int32.toBitVec_inj.mp
  have e3 : (x.toUInt32.toUInt16.toUInt32.toInt32).toBitVec = (x.toBitVec.setWidth 16).setWidth 32 := rfl
  have e4 : x.toBitVec.toNat < 65536 := by
    have := congrArg Int32.toBitVec e2
    rw [Int32.toBitVec_and] at this
    have h5 := congrArg BitVec.toNat this
    rw [BitVec.toNat_and] at h5
    have h6 : (65535 : Int32).toBitVec.toNat = 2 ^ 16 - 1 := rfl
    rw [h6, Nat.and_two_pow_sub_one_eq_mod] at h5
    omega
  rw [e3]
  apply BitVec.eq_of_toNat_eq
  simp only [BitVec.toNat_setWidth]
  omega
theorem own_chr (x : Int32) : 0 ≤ (x.toUInt32.toUInt16.toUInt32.toInt32).toInt ∧ (x.toUInt32.toUInt16.toUInt32.toInt32).toInt < 65536 := by
  have e3 : (x.toUInt32.toUInt16.toUInt32.toInt32).toInt = ((x.toBitVec.setWidth 16).setWidth 32).toInt := rfl
  rw [e3, BitVec.toInt_eq_toNat_cond]
  simp only [BitVec.toNat_setWidth]
  have := Nat.mod_lt x.toBitVec.toNat (show 0 < 2 ^ 16 by decide)
  split <;> omega
/-- the letter is one of a .. z -/
def own_L (z : Int32) : Prop := z = 97 ∨ z = 98 ∨ z = 99 ∨ z = 100 ∨ z = 101 ∨ z = 102 ∨ z = 103 ∨ z = 104 ∨ z = 105 ∨ z = 106 ∨ z = 107 ∨ z = 108 ∨ z = 109 ∨ z = 110 ∨ z = 111 ∨ z = 112 ∨ z = 113 ∨ z = 114 ∨ z = 115 ∨ z = 116 ∨ z = 117 ∨ z = 118 ∨ z = 119 ∨ z = 120 ∨ z = 121 ∨ z = 122
theorem own_L_of (x : Int32) : own_L (((97 : Int32) + ((x &&& (2147483647 : Int32)) % (26 : Int32))).toUInt32.toUInt16.toUInt32.toInt32) := by
  obtain ⟨h1, h2⟩ := own_rem x 26 (by decide)
  have e26 : (26 : Int32).toInt = 26 := rfl
  have e97 : (97 : Int32).toInt = 97 := rfl
  have e := Jvm.Kit.i32_add (p := 97) (q := ((x &&& (2147483647 : Int32)) % (26 : Int32))) (by omega) (by omega)
  rw [own_i2c (by omega) (by omega)]
  generalize ((97 : Int32) + ((x &&& (2147483647 : Int32)) % (26 : Int32))) = z at *
  have : z.toInt = 97 ∨ z.toInt = 98 ∨ z.toInt = 99 ∨ z.toInt = 100 ∨ z.toInt = 101 ∨ z.toInt = 102 ∨ z.toInt = 103 ∨ z.toInt = 104 ∨ z.toInt = 105 ∨ z.toInt = 106 ∨ z.toInt = 107 ∨ z.toInt = 108 ∨ z.toInt = 109 ∨ z.toInt = 110 ∨ z.toInt = 111 ∨ z.toInt = 112 ∨ z.toInt = 113 ∨ z.toInt = 114 ∨ z.toInt = 115 ∨ z.toInt = 116 ∨ z.toInt = 117 ∨ z.toInt = 118 ∨ z.toInt = 119 ∨ z.toInt = 120 ∨ z.toInt = 121 ∨ z.toInt = 122 := by omega
  unfold own_L
  rcases this with h | h | h | h | h | h | h | h | h | h | h | h | h | h | h | h | h | h | h | h | h | h | h | h | h | h <;> (have := own_of_toInt h; subst this; decide)
theorem own_all : ∀ n : Fin 128, ∀ k : Fin 26, (((Int32.ofInt n.val) ||| (32 : Int32)) = Int32.ofInt (97 + k.val)) ↔ (Int32.ofInt n.val = Int32.ofInt (97 + k.val) ∨ Int32.ofInt n.val = Int32.ofInt (65 + k.val)) := by decide +kernel
/-- the law's core: below 0x80 a char or'ed with 32 is the letter iff it is the letter or its upper form -/
theorem own_core {c z : Int32} (hz : own_L z) (h0 : 0 ≤ c.toInt) (h1 : c < 128) : ((c ||| (32 : Int32)) = z) ↔ (c = z ∨ c = ((z - (97 : Int32)) + (65 : Int32)).toUInt32.toUInt16.toUInt32.toInt32) := by
  rw [Int32.lt_iff_toInt_lt] at h1
  have e128 : (128 : Int32).toInt = 128 := rfl
  obtain ⟨n, hn⟩ : ∃ n : Nat, c.toInt = n := ⟨c.toInt.toNat, by omega⟩
  have hc := own_of_toInt hn
  have hn2 : n < 128 := by omega
  have H := own_all ⟨n, hn2⟩
  unfold own_L at hz
  rcases hz with rfl | rfl | rfl | rfl | rfl | rfl | rfl | rfl | rfl | rfl | rfl | rfl | rfl | rfl | rfl | rfl | rfl | rfl | rfl | rfl | rfl | rfl | rfl | rfl | rfl | rfl
  · rw [hc]; exact H ⟨0, by decide⟩
  · rw [hc]; exact H ⟨1, by decide⟩
  · rw [hc]; exact H ⟨2, by decide⟩
  · rw [hc]; exact H ⟨3, by decide⟩
  · rw [hc]; exact H ⟨4, by decide⟩
  · rw [hc]; exact H ⟨5, by decide⟩
  · rw [hc]; exact H ⟨6, by decide⟩
  · rw [hc]; exact H ⟨7, by decide⟩
  · rw [hc]; exact H ⟨8, by decide⟩
  · rw [hc]; exact H ⟨9, by decide⟩
  · rw [hc]; exact H ⟨10, by decide⟩
  · rw [hc]; exact H ⟨11, by decide⟩
  · rw [hc]; exact H ⟨12, by decide⟩
  · rw [hc]; exact H ⟨13, by decide⟩
  · rw [hc]; exact H ⟨14, by decide⟩
  · rw [hc]; exact H ⟨15, by decide⟩
  · rw [hc]; exact H ⟨16, by decide⟩
  · rw [hc]; exact H ⟨17, by decide⟩
  · rw [hc]; exact H ⟨18, by decide⟩
  · rw [hc]; exact H ⟨19, by decide⟩
  · rw [hc]; exact H ⟨20, by decide⟩
  · rw [hc]; exact H ⟨21, by decide⟩
  · rw [hc]; exact H ⟨22, by decide⟩
  · rw [hc]; exact H ⟨23, by decide⟩
  · rw [hc]; exact H ⟨24, by decide⟩
  · rw [hc]; exact H ⟨25, by decide⟩
theorem pd_0 : parseMethodDescriptor "(CC)Z" = some ⟨[.char, .char], some .boolean⟩ := by decide +kernel
theorem pn_1 : plainName "com/example/whereas/whereas/analysis/LettersMayBePinLaw" = true := by first | (simp [plainName, overriddenIn]; done) | decide +kernel
theorem ef_rm0 (m : MethodId) (p1 : Int32) (p2 : Int32) (p3 : Int32) : entryFrame m #[(.int p1), (.int p2), (.int p3)] maxLocals = mkF m 0 #[.val (.int p1), .val (.int p2), .val (.int p3), .unset, .unset, .unset, .unset, .unset] [] := by first | (simp [entryFrame, mkF, argsToLocals, Value.category, maxLocals]; done) | rfl
def Q0 (Z : State) (p1 : Int32) (p2 : Int32) (p3 : Int32) (h0 : Heap) (n0 : Nat) (v : Option Value) (h : Heap) (L : List Loc) : Prop := v = some (.int 1) ∧ Fr n0 L
set_option maxRecDepth 65536 in
set_option maxHeartbeats 40000000 in
theorem rm0 (l : Launch) (Z : State) (a0 : Array Value) (hw : ∀ d ∈ tables_1, d.before a0 Z = true) (ws : List Jvm.Cond) (p1 : Int32) (p2 : Int32) (p3 : Int32) (h0 : Heap) (n0 : Nat) (Z0 : n0 ≤ h0.size) :
    MetFree l x (head1 (Jvm.Cond.code x code maxLocals ret :: ws) room_1) (fun a U => a = #[(.int p1), (.int p2), (.int p3)] ∧ Z.Warmed39 U.vm ∧ U.heap = h0) (fun _ _ _ _ _ => True) (fun _ U o U' => ∃ v L, o = .returned v ∧ Q0 Z p1 p2 p3 h0 n0 v U'.heap L ∧ FrameEnd U o U' L room_1.cells room_1.slots) := by
  refine MetFree.of_bodySF (plainFor_of_name pn_1) hisR ?_
  intro p e s m args below meth c s₁ Bd hml0 hP hK
  obtain ⟨rfl, hZ, hh⟩ := hP
  have hx := Bd.exec
  have hby := Bd.bytes
  have hml : c.maxLocals = 8 := hml0
  have hown : s.vm.findClass "com/example/whereas/whereas/analysis/LettersMayBePinLaw" = some m.cls := findClass_of_methodNamed Bd.named
  have hnm := (name_of_methodNamed Bd.named Bd.method).1
  have X0 : Stand p l e room_1 s m #[(.int p1), (.int p2), (.int p3)] below meth c s₁ [] 0 0 := Stand.of_body Bd
  have e0 : s₁.heap = h0 := by rw [← hh, Bd.state]; rfl
  have N0 := Fr.nil n0
  have K0 := Keep.refl h0 []
  have go0 : Goes p e below s₁ (entryFrame m #[(.int p1), (.int p2), (.int p3)] maxLocals) s₁ (mkF m 0 #[.val (.int p1), .val (.int p2), .val (.int p3), .unset, .unset, .unset, .unset, .unset] []) := fun t k => castTop (ef_rm0 m p1 p2 p3) k
  have go1 : Goes p e below s₁ (entryFrame m #[(.int p1), (.int p2), (.int p3)] maxLocals) s₁ (mkF m 12 #[.val (.int p1), .val (.int p2), .val (.int p3), .val (.int (((97 : Int32) + ((p2 &&& (2147483647 : Int32)) % (26 : Int32))).toUInt32.toUInt16.toUInt32.toInt32)), .unset, .unset, .unset, .unset] []) := fun t k => by
    refine go0 t ?_
    refine XS.bipush X0.here hx rfl (hb hby at_0) ?_
    show Steps p.tables e below (s₁.setTop (mkF m 2 #[.val (.int p1), .val (.int p2), .val (.int p3), .unset, .unset, .unset, .unset, .unset] [(.int (97 : Int32))])) _
    refine XS.iloadN X0.here hx rfl (hb hby at_2) rfl ?_
    show Steps p.tables e below (s₁.setTop (mkF m 3 #[.val (.int p1), .val (.int p2), .val (.int p3), .unset, .unset, .unset, .unset, .unset] [(.int p2), (.int (97 : Int32))])) _
    refine X0.ldcInt hx hown (mvT hZ (hw _ (List.mem_of_getElem? (i := 0) rfl))) (g := (mkF m 3 #[.val (.int p1), .val (.int p2), .val (.int p3), .unset, .unset, .unset, .unset, .unset] [(.int p2), (.int (97 : Int32))])) rfl (hb hby at_3) _ ?_
    show Steps p.tables e below (s₁.setTop (mkF m 5 #[.val (.int p1), .val (.int p2), .val (.int p3), .unset, .unset, .unset, .unset, .unset] [(.int (2147483647 : Int32)), (.int p2), (.int (97 : Int32))])) _
    refine XS.iand X0.here hx rfl (hb hby at_5) rfl ?_
    show Steps p.tables e below (s₁.setTop (mkF m 6 #[.val (.int p1), .val (.int p2), .val (.int p3), .unset, .unset, .unset, .unset, .unset] [(.int (p2 &&& (2147483647 : Int32))), (.int (97 : Int32))])) _
    refine XS.bipush X0.here hx rfl (hb hby at_6) ?_
    show Steps p.tables e below (s₁.setTop (mkF m 8 #[.val (.int p1), .val (.int p2), .val (.int p3), .unset, .unset, .unset, .unset, .unset] [(.int (26 : Int32)), (.int (p2 &&& (2147483647 : Int32))), (.int (97 : Int32))])) _
    refine iremM X0 hx rfl (hb hby at_8) rfl (by decide) ?_
    show Steps p.tables e below (s₁.setTop (mkF m 9 #[.val (.int p1), .val (.int p2), .val (.int p3), .unset, .unset, .unset, .unset, .unset] [(.int ((p2 &&& (2147483647 : Int32)) % (26 : Int32))), (.int (97 : Int32))])) _
    refine XS.iadd X0.here hx rfl (hb hby at_9) rfl ?_
    show Steps p.tables e below (s₁.setTop (mkF m 10 #[.val (.int p1), .val (.int p2), .val (.int p3), .unset, .unset, .unset, .unset, .unset] [(.int ((97 : Int32) + ((p2 &&& (2147483647 : Int32)) % (26 : Int32))))])) _
    refine XS.i2c X0.here hx rfl (hb hby at_10) rfl ?_
    show Steps p.tables e below (s₁.setTop (mkF m 11 #[.val (.int p1), .val (.int p2), .val (.int p3), .unset, .unset, .unset, .unset, .unset] [(.int (((97 : Int32) + ((p2 &&& (2147483647 : Int32)) % (26 : Int32))).toUInt32.toUInt16.toUInt32.toInt32))])) _
    refine XS.istoreN X0.here hx rfl (hb hby at_11) rfl (l' := #[.val (.int p1), .val (.int p2), .val (.int p3), .val (.int (((97 : Int32) + ((p2 &&& (2147483647 : Int32)) % (26 : Int32))).toUInt32.toUInt16.toUInt32.toInt32)), .unset, .unset, .unset, .unset]) rfl ?_
    show Steps p.tables e below (s₁.setTop (mkF m 12 #[.val (.int p1), .val (.int p2), .val (.int p3), .val (.int (((97 : Int32) + ((p2 &&& (2147483647 : Int32)) % (26 : Int32))).toUInt32.toUInt16.toUInt32.toInt32)), .unset, .unset, .unset, .unset] [])) _
    exact k
  obtain ⟨lt, h_lt⟩ : ∃ z : Int32, z = (((97 : Int32) + ((p2 &&& (2147483647 : Int32)) % (26 : Int32))).toUInt32.toUInt16.toUInt32.toInt32) := ⟨_, rfl⟩
  have go2 : Goes p e below s₁ (entryFrame m #[(.int p1), (.int p2), (.int p3)] maxLocals) s₁ (mkF m 12 #[.val (.int p1), .val (.int p2), .val (.int p3), .val (.int lt), .unset, .unset, .unset, .unset] []) := by rw [h_lt]; exact go1
  have hL : own_L lt := h_lt ▸ own_L_of p2
  have hl0 : 0 ≤ lt.toInt ∧ lt.toInt < 65536 := by rw [h_lt]; exact own_chr _
  have go3 : Goes p e below s₁ (entryFrame m #[(.int p1), (.int p2), (.int p3)] maxLocals) s₁ (mkF m 20 #[.val (.int p1), .val (.int p2), .val (.int p3), .val (.int lt), .unset, .unset, .unset, .unset] [(.int (((lt - (97 : Int32)) + (65 : Int32)).toUInt32.toUInt16.toUInt32.toInt32))]) := fun t k => by
    refine go2 t ?_
    refine XS.iloadN X0.here hx rfl (hb hby at_12) rfl ?_
    show Steps p.tables e below (s₁.setTop (mkF m 13 #[.val (.int p1), .val (.int p2), .val (.int p3), .val (.int lt), .unset, .unset, .unset, .unset] [(.int lt)])) _
    refine XS.bipush X0.here hx rfl (hb hby at_13) ?_
    show Steps p.tables e below (s₁.setTop (mkF m 15 #[.val (.int p1), .val (.int p2), .val (.int p3), .val (.int lt), .unset, .unset, .unset, .unset] [(.int (97 : Int32)), (.int lt)])) _
    refine XS.isub X0.here hx rfl (hb hby at_15) rfl ?_
    show Steps p.tables e below (s₁.setTop (mkF m 16 #[.val (.int p1), .val (.int p2), .val (.int p3), .val (.int lt), .unset, .unset, .unset, .unset] [(.int (lt - (97 : Int32)))])) _
    refine XS.bipush X0.here hx rfl (hb hby at_16) ?_
    show Steps p.tables e below (s₁.setTop (mkF m 18 #[.val (.int p1), .val (.int p2), .val (.int p3), .val (.int lt), .unset, .unset, .unset, .unset] [(.int (65 : Int32)), (.int (lt - (97 : Int32)))])) _
    refine XS.iadd X0.here hx rfl (hb hby at_18) rfl ?_
    show Steps p.tables e below (s₁.setTop (mkF m 19 #[.val (.int p1), .val (.int p2), .val (.int p3), .val (.int lt), .unset, .unset, .unset, .unset] [(.int ((lt - (97 : Int32)) + (65 : Int32)))])) _
    refine XS.i2c X0.here hx rfl (hb hby at_19) rfl ?_
    show Steps p.tables e below (s₁.setTop (mkF m 20 #[.val (.int p1), .val (.int p2), .val (.int p3), .val (.int lt), .unset, .unset, .unset, .unset] [(.int (((lt - (97 : Int32)) + (65 : Int32)).toUInt32.toUInt16.toUInt32.toInt32))])) _
    exact k
  obtain ⟨up, h_up⟩ : ∃ z : Int32, z = (((lt - (97 : Int32)) + (65 : Int32)).toUInt32.toUInt16.toUInt32.toInt32) := ⟨_, rfl⟩
  have go4 : Goes p e below s₁ (entryFrame m #[(.int p1), (.int p2), (.int p3)] maxLocals) s₁ (mkF m 20 #[.val (.int p1), .val (.int p2), .val (.int p3), .val (.int lt), .unset, .unset, .unset, .unset] [(.int up)]) := by rw [h_up]; exact go3
  have hu0 : 0 ≤ up.toInt ∧ up.toInt < 65536 := by rw [h_up]; exact own_chr _
  have go5 : Goes p e below s₁ (entryFrame m #[(.int p1), (.int p2), (.int p3)] maxLocals) s₁ (mkF m 27 #[.val (.int p1), .val (.int p2), .val (.int p3), .val (.int lt), .val (.int up), .val (.int (p3 &&& (3 : Int32))), .unset, .unset] []) := fun t k => by
    refine go4 t ?_
    refine XS.istore X0.here hx rfl (hb hby at_20) rfl (l' := #[.val (.int p1), .val (.int p2), .val (.int p3), .val (.int lt), .val (.int up), .unset, .unset, .unset]) rfl ?_
    show Steps p.tables e below (s₁.setTop (mkF m 22 #[.val (.int p1), .val (.int p2), .val (.int p3), .val (.int lt), .val (.int up), .unset, .unset, .unset] [])) _
    refine XS.iloadN X0.here hx rfl (hb hby at_22) rfl ?_
    show Steps p.tables e below (s₁.setTop (mkF m 23 #[.val (.int p1), .val (.int p2), .val (.int p3), .val (.int lt), .val (.int up), .unset, .unset, .unset] [(.int p3)])) _
    refine XS.iconst X0.here hx rfl (hb hby at_23) ?_
    show Steps p.tables e below (s₁.setTop (mkF m 24 #[.val (.int p1), .val (.int p2), .val (.int p3), .val (.int lt), .val (.int up), .unset, .unset, .unset] [(.int (3 : Int32)), (.int p3)])) _
    refine XS.iand X0.here hx rfl (hb hby at_24) rfl ?_
    show Steps p.tables e below (s₁.setTop (mkF m 25 #[.val (.int p1), .val (.int p2), .val (.int p3), .val (.int lt), .val (.int up), .unset, .unset, .unset] [(.int (p3 &&& (3 : Int32)))])) _
    refine XS.istore X0.here hx rfl (hb hby at_25) rfl (l' := #[.val (.int p1), .val (.int p2), .val (.int p3), .val (.int lt), .val (.int up), .val (.int (p3 &&& (3 : Int32))), .unset, .unset]) rfl ?_
    show Steps p.tables e below (s₁.setTop (mkF m 27 #[.val (.int p1), .val (.int p2), .val (.int p3), .val (.int lt), .val (.int up), .val (.int (p3 &&& (3 : Int32))), .unset, .unset] [])) _
    exact k
  obtain ⟨T6, cc, X6, e6, hj6, go6j⟩ : ∃ (T' : State) (cc : Int32), Stand p l e room_1 s m #[(.int p1), (.int p2), (.int p3)] below meth c T' [] 0 0 ∧ T'.heap = h0 ∧ (0 ≤ cc.toInt ∧ cc.toInt < 65536) ∧ Goes p e below s₁ (entryFrame m #[(.int p1), (.int p2), (.int p3)] maxLocals) T' (mkF m 71 #[.val (.int p1), .val (.int p2), .val (.int p3), .val (.int lt), .val (.int up), .val (.int (p3 &&& (3 : Int32))), .val (.int cc), .unset] []) := by
    have go7 : Goes p e below s₁ (entryFrame m #[(.int p1), (.int p2), (.int p3)] maxLocals) s₁ (mkF m 29 #[.val (.int p1), .val (.int p2), .val (.int p3), .val (.int lt), .val (.int up), .val (.int (p3 &&& (3 : Int32))), .unset, .unset] [(.int (p3 &&& (3 : Int32)))]) := fun t k => by
      refine go5 t ?_
      refine XS.iload X0.here hx rfl (hb hby at_27) rfl ?_
      show Steps p.tables e below (s₁.setTop (mkF m 29 #[.val (.int p1), .val (.int p2), .val (.int p3), .val (.int lt), .val (.int up), .val (.int (p3 &&& (3 : Int32))), .unset, .unset] [(.int (p3 &&& (3 : Int32)))])) _
      exact k
    by_cases hc8 : (p3 &&& (3 : Int32)) = (0 : Int32)
    · have go9 : Goes p e below s₁ (entryFrame m #[(.int p1), (.int p2), (.int p3)] maxLocals) s₁ (mkF m 71 #[.val (.int p1), .val (.int p2), .val (.int p3), .val (.int lt), .val (.int up), .val (.int (p3 &&& (3 : Int32))), .val (.int lt), .unset] []) := fun t k => by
        refine go7 t ?_
        refine XS.ifNo X0.here hx rfl (hb hby at_29) rfl (Jvm.Free.XT.i0_ne_f hc8) ?_
        show Steps p.tables e below (s₁.setTop (mkF m 32 #[.val (.int p1), .val (.int p2), .val (.int p3), .val (.int lt), .val (.int up), .val (.int (p3 &&& (3 : Int32))), .unset, .unset] [])) _
        refine XS.iloadN X0.here hx rfl (hb hby at_32) rfl ?_
        show Steps p.tables e below (s₁.setTop (mkF m 33 #[.val (.int p1), .val (.int p2), .val (.int p3), .val (.int lt), .val (.int up), .val (.int (p3 &&& (3 : Int32))), .unset, .unset] [(.int lt)])) _
        refine XS.istore X0.here hx rfl (hb hby at_33) rfl (l' := #[.val (.int p1), .val (.int p2), .val (.int p3), .val (.int lt), .val (.int up), .val (.int (p3 &&& (3 : Int32))), .val (.int lt), .unset]) rfl ?_
        show Steps p.tables e below (s₁.setTop (mkF m 35 #[.val (.int p1), .val (.int p2), .val (.int p3), .val (.int lt), .val (.int up), .val (.int (p3 &&& (3 : Int32))), .val (.int lt), .unset] [])) _
        refine XS.goto X0.here hx rfl (pc0 := 35) (pc' := 71) rfl (hb hby at_35) (by decide) (by decide) ?_
        show Steps p.tables e below (s₁.setTop (mkF m 71 #[.val (.int p1), .val (.int p2), .val (.int p3), .val (.int lt), .val (.int up), .val (.int (p3 &&& (3 : Int32))), .val (.int lt), .unset] [])) _
        exact k
      exact ⟨s₁, lt, X0, e0, hl0, go9⟩
    · have go10 : Goes p e below s₁ (entryFrame m #[(.int p1), (.int p2), (.int p3)] maxLocals) s₁ (mkF m 41 #[.val (.int p1), .val (.int p2), .val (.int p3), .val (.int lt), .val (.int up), .val (.int (p3 &&& (3 : Int32))), .unset, .unset] [(.int (1 : Int32)), (.int (p3 &&& (3 : Int32)))]) := fun t k => by
        refine go7 t ?_
        refine XS.ifYes X0.here hx rfl (pc0 := 29) (pc' := 38) rfl (hb hby at_29) rfl (Jvm.Free.XT.i0_ne_t hc8) (by decide) (by decide) ?_
        show Steps p.tables e below (s₁.setTop (mkF m 38 #[.val (.int p1), .val (.int p2), .val (.int p3), .val (.int lt), .val (.int up), .val (.int (p3 &&& (3 : Int32))), .unset, .unset] [])) _
        refine XS.iload X0.here hx rfl (hb hby at_38) rfl ?_
        show Steps p.tables e below (s₁.setTop (mkF m 40 #[.val (.int p1), .val (.int p2), .val (.int p3), .val (.int lt), .val (.int up), .val (.int (p3 &&& (3 : Int32))), .unset, .unset] [(.int (p3 &&& (3 : Int32)))])) _
        refine XS.iconst X0.here hx rfl (hb hby at_40) ?_
        show Steps p.tables e below (s₁.setTop (mkF m 41 #[.val (.int p1), .val (.int p2), .val (.int p3), .val (.int lt), .val (.int up), .val (.int (p3 &&& (3 : Int32))), .unset, .unset] [(.int (1 : Int32)), (.int (p3 &&& (3 : Int32)))])) _
        exact k
      by_cases hc11 : (p3 &&& (3 : Int32)) = (1 : Int32)
      · have go12 : Goes p e below s₁ (entryFrame m #[(.int p1), (.int p2), (.int p3)] maxLocals) s₁ (mkF m 71 #[.val (.int p1), .val (.int p2), .val (.int p3), .val (.int lt), .val (.int up), .val (.int (p3 &&& (3 : Int32))), .val (.int up), .unset] []) := fun t k => by
          refine go10 t ?_
          refine XS.icmpNo X0.here hx rfl (hb hby at_41) rfl (Jvm.Free.XT.ii_ne_f hc11) ?_
          show Steps p.tables e below (s₁.setTop (mkF m 44 #[.val (.int p1), .val (.int p2), .val (.int p3), .val (.int lt), .val (.int up), .val (.int (p3 &&& (3 : Int32))), .unset, .unset] [])) _
          refine XS.iload X0.here hx rfl (hb hby at_44) rfl ?_
          show Steps p.tables e below (s₁.setTop (mkF m 46 #[.val (.int p1), .val (.int p2), .val (.int p3), .val (.int lt), .val (.int up), .val (.int (p3 &&& (3 : Int32))), .unset, .unset] [(.int up)])) _
          refine XS.istore X0.here hx rfl (hb hby at_46) rfl (l' := #[.val (.int p1), .val (.int p2), .val (.int p3), .val (.int lt), .val (.int up), .val (.int (p3 &&& (3 : Int32))), .val (.int up), .unset]) rfl ?_
          show Steps p.tables e below (s₁.setTop (mkF m 48 #[.val (.int p1), .val (.int p2), .val (.int p3), .val (.int lt), .val (.int up), .val (.int (p3 &&& (3 : Int32))), .val (.int up), .unset] [])) _
          refine XS.goto X0.here hx rfl (pc0 := 48) (pc' := 71) rfl (hb hby at_48) (by decide) (by decide) ?_
          show Steps p.tables e below (s₁.setTop (mkF m 71 #[.val (.int p1), .val (.int p2), .val (.int p3), .val (.int lt), .val (.int up), .val (.int (p3 &&& (3 : Int32))), .val (.int up), .unset] [])) _
          exact k
        exact ⟨s₁, up, X0, e0, hu0, go12⟩
      · have go13 : Goes p e below s₁ (entryFrame m #[(.int p1), (.int p2), (.int p3)] maxLocals) s₁ (mkF m 54 #[.val (.int p1), .val (.int p2), .val (.int p3), .val (.int lt), .val (.int up), .val (.int (p3 &&& (3 : Int32))), .unset, .unset] [(.int (2 : Int32)), (.int (p3 &&& (3 : Int32)))]) := fun t k => by
          refine go10 t ?_
          refine XS.icmpYes X0.here hx rfl (pc0 := 41) (pc' := 51) rfl (hb hby at_41) rfl (Jvm.Free.XT.ii_ne_t hc11) (by decide) (by decide) ?_
          show Steps p.tables e below (s₁.setTop (mkF m 51 #[.val (.int p1), .val (.int p2), .val (.int p3), .val (.int lt), .val (.int up), .val (.int (p3 &&& (3 : Int32))), .unset, .unset] [])) _
          refine XS.iload X0.here hx rfl (hb hby at_51) rfl ?_
          show Steps p.tables e below (s₁.setTop (mkF m 53 #[.val (.int p1), .val (.int p2), .val (.int p3), .val (.int lt), .val (.int up), .val (.int (p3 &&& (3 : Int32))), .unset, .unset] [(.int (p3 &&& (3 : Int32)))])) _
          refine XS.iconst X0.here hx rfl (hb hby at_53) ?_
          show Steps p.tables e below (s₁.setTop (mkF m 54 #[.val (.int p1), .val (.int p2), .val (.int p3), .val (.int lt), .val (.int up), .val (.int (p3 &&& (3 : Int32))), .unset, .unset] [(.int (2 : Int32)), (.int (p3 &&& (3 : Int32)))])) _
          exact k
        by_cases hc14 : (p3 &&& (3 : Int32)) = (2 : Int32)
        · have go15 : Goes p e below s₁ (entryFrame m #[(.int p1), (.int p2), (.int p3)] maxLocals) s₁ (mkF m 71 #[.val (.int p1), .val (.int p2), .val (.int p3), .val (.int lt), .val (.int up), .val (.int (p3 &&& (3 : Int32))), .val (.int (p1.toUInt32.toUInt16.toUInt32.toInt32)), .unset] []) := fun t k => by
            refine go13 t ?_
            refine XS.icmpNo X0.here hx rfl (hb hby at_54) rfl (Jvm.Free.XT.ii_ne_f hc14) ?_
            show Steps p.tables e below (s₁.setTop (mkF m 57 #[.val (.int p1), .val (.int p2), .val (.int p3), .val (.int lt), .val (.int up), .val (.int (p3 &&& (3 : Int32))), .unset, .unset] [])) _
            refine XS.iloadN X0.here hx rfl (hb hby at_57) rfl ?_
            show Steps p.tables e below (s₁.setTop (mkF m 58 #[.val (.int p1), .val (.int p2), .val (.int p3), .val (.int lt), .val (.int up), .val (.int (p3 &&& (3 : Int32))), .unset, .unset] [(.int p1)])) _
            refine XS.i2c X0.here hx rfl (hb hby at_58) rfl ?_
            show Steps p.tables e below (s₁.setTop (mkF m 59 #[.val (.int p1), .val (.int p2), .val (.int p3), .val (.int lt), .val (.int up), .val (.int (p3 &&& (3 : Int32))), .unset, .unset] [(.int (p1.toUInt32.toUInt16.toUInt32.toInt32))])) _
            refine XS.istore X0.here hx rfl (hb hby at_59) rfl (l' := #[.val (.int p1), .val (.int p2), .val (.int p3), .val (.int lt), .val (.int up), .val (.int (p3 &&& (3 : Int32))), .val (.int (p1.toUInt32.toUInt16.toUInt32.toInt32)), .unset]) rfl ?_
            show Steps p.tables e below (s₁.setTop (mkF m 61 #[.val (.int p1), .val (.int p2), .val (.int p3), .val (.int lt), .val (.int up), .val (.int (p3 &&& (3 : Int32))), .val (.int (p1.toUInt32.toUInt16.toUInt32.toInt32)), .unset] [])) _
            refine XS.goto X0.here hx rfl (pc0 := 61) (pc' := 71) rfl (hb hby at_61) (by decide) (by decide) ?_
            show Steps p.tables e below (s₁.setTop (mkF m 71 #[.val (.int p1), .val (.int p2), .val (.int p3), .val (.int lt), .val (.int up), .val (.int (p3 &&& (3 : Int32))), .val (.int (p1.toUInt32.toUInt16.toUInt32.toInt32)), .unset] [])) _
            exact k
          exact ⟨s₁, (p1.toUInt32.toUInt16.toUInt32.toInt32), X0, e0, own_chr _, go15⟩
        · have go16 : Goes p e below s₁ (entryFrame m #[(.int p1), (.int p2), (.int p3)] maxLocals) s₁ (mkF m 71 #[.val (.int p1), .val (.int p2), .val (.int p3), .val (.int lt), .val (.int up), .val (.int (p3 &&& (3 : Int32))), .val (.int ((p1 &&& (127 : Int32)).toUInt32.toUInt16.toUInt32.toInt32)), .unset] []) := fun t k => by
            refine go13 t ?_
            refine XS.icmpYes X0.here hx rfl (pc0 := 54) (pc' := 64) rfl (hb hby at_54) rfl (Jvm.Free.XT.ii_ne_t hc14) (by decide) (by decide) ?_
            show Steps p.tables e below (s₁.setTop (mkF m 64 #[.val (.int p1), .val (.int p2), .val (.int p3), .val (.int lt), .val (.int up), .val (.int (p3 &&& (3 : Int32))), .unset, .unset] [])) _
            refine XS.iloadN X0.here hx rfl (hb hby at_64) rfl ?_
            show Steps p.tables e below (s₁.setTop (mkF m 65 #[.val (.int p1), .val (.int p2), .val (.int p3), .val (.int lt), .val (.int up), .val (.int (p3 &&& (3 : Int32))), .unset, .unset] [(.int p1)])) _
            refine XS.bipush X0.here hx rfl (hb hby at_65) ?_
            show Steps p.tables e below (s₁.setTop (mkF m 67 #[.val (.int p1), .val (.int p2), .val (.int p3), .val (.int lt), .val (.int up), .val (.int (p3 &&& (3 : Int32))), .unset, .unset] [(.int (127 : Int32)), (.int p1)])) _
            refine XS.iand X0.here hx rfl (hb hby at_67) rfl ?_
            show Steps p.tables e below (s₁.setTop (mkF m 68 #[.val (.int p1), .val (.int p2), .val (.int p3), .val (.int lt), .val (.int up), .val (.int (p3 &&& (3 : Int32))), .unset, .unset] [(.int (p1 &&& (127 : Int32)))])) _
            refine XS.i2c X0.here hx rfl (hb hby at_68) rfl ?_
            show Steps p.tables e below (s₁.setTop (mkF m 69 #[.val (.int p1), .val (.int p2), .val (.int p3), .val (.int lt), .val (.int up), .val (.int (p3 &&& (3 : Int32))), .unset, .unset] [(.int ((p1 &&& (127 : Int32)).toUInt32.toUInt16.toUInt32.toInt32))])) _
            refine XS.istore X0.here hx rfl (hb hby at_69) rfl (l' := #[.val (.int p1), .val (.int p2), .val (.int p3), .val (.int lt), .val (.int up), .val (.int (p3 &&& (3 : Int32))), .val (.int ((p1 &&& (127 : Int32)).toUInt32.toUInt16.toUInt32.toInt32)), .unset]) rfl ?_
            show Steps p.tables e below (s₁.setTop (mkF m 71 #[.val (.int p1), .val (.int p2), .val (.int p3), .val (.int lt), .val (.int up), .val (.int (p3 &&& (3 : Int32))), .val (.int ((p1 &&& (127 : Int32)).toUInt32.toUInt16.toUInt32.toInt32)), .unset] [])) _
            exact k
          exact ⟨s₁, ((p1 &&& (127 : Int32)).toUInt32.toUInt16.toUInt32.toInt32), X0, e0, own_chr _, go16⟩
  obtain ⟨T17, exv, X17, e17, hj17, go17j⟩ : ∃ (T' : State) (exv : Int32), Stand p l e room_1 s m #[(.int p1), (.int p2), (.int p3)] below meth c T' [] 0 0 ∧ T'.heap = h0 ∧ (exv = (if ¬ cc < (128 : Int32) ∨ (cc = lt ∨ cc = up) then 1 else 0)) ∧ Goes p e below s₁ (entryFrame m #[(.int p1), (.int p2), (.int p3)] maxLocals) T' (mkF m 113 #[.val (.int p1), .val (.int p2), .val (.int p3), .val (.int lt), .val (.int up), .val (.int (p3 &&& (3 : Int32))), .val (.int cc), .val (.int exv)] []) := by
    have go18 : Goes p e below s₁ (entryFrame m #[(.int p1), (.int p2), (.int p3)] maxLocals) T6 (mkF m 76 #[.val (.int p1), .val (.int p2), .val (.int p3), .val (.int lt), .val (.int up), .val (.int (p3 &&& (3 : Int32))), .val (.int cc), .unset] [(.int (128 : Int32)), (.int cc)]) := fun t k => by
      refine go6j t ?_
      refine XS.iload X6.here hx rfl (hb hby at_71) rfl ?_
      show Steps p.tables e below (T6.setTop (mkF m 73 #[.val (.int p1), .val (.int p2), .val (.int p3), .val (.int lt), .val (.int up), .val (.int (p3 &&& (3 : Int32))), .val (.int cc), .unset] [(.int cc)])) _
      refine XS.sipush X6.here hx rfl (hb hby at_73) ?_
      show Steps p.tables e below (T6.setTop (mkF m 76 #[.val (.int p1), .val (.int p2), .val (.int p3), .val (.int lt), .val (.int up), .val (.int (p3 &&& (3 : Int32))), .val (.int cc), .unset] [(.int (128 : Int32)), (.int cc)])) _
      exact k
    by_cases hc19 : cc < (128 : Int32)
    · have go20 : Goes p e below s₁ (entryFrame m #[(.int p1), (.int p2), (.int p3)] maxLocals) T6 (mkF m 88 #[.val (.int p1), .val (.int p2), .val (.int p3), .val (.int lt), .val (.int up), .val (.int (p3 &&& (3 : Int32))), .val (.int cc), .unset] [(.int lt), (.int cc)]) := fun t k => by
        refine go18 t ?_
        refine XS.icmpYes X6.here hx rfl (pc0 := 76) (pc' := 85) rfl (hb hby at_76) rfl (Jvm.Free.XT.ii_lt_t hc19) (by decide) (by decide) ?_
        show Steps p.tables e below (T6.setTop (mkF m 85 #[.val (.int p1), .val (.int p2), .val (.int p3), .val (.int lt), .val (.int up), .val (.int (p3 &&& (3 : Int32))), .val (.int cc), .unset] [])) _
        refine XS.iload X6.here hx rfl (hb hby at_85) rfl ?_
        show Steps p.tables e below (T6.setTop (mkF m 87 #[.val (.int p1), .val (.int p2), .val (.int p3), .val (.int lt), .val (.int up), .val (.int (p3 &&& (3 : Int32))), .val (.int cc), .unset] [(.int cc)])) _
        refine XS.iloadN X6.here hx rfl (hb hby at_87) rfl ?_
        show Steps p.tables e below (T6.setTop (mkF m 88 #[.val (.int p1), .val (.int p2), .val (.int p3), .val (.int lt), .val (.int up), .val (.int (p3 &&& (3 : Int32))), .val (.int cc), .unset] [(.int lt), (.int cc)])) _
        exact k
      by_cases hc21 : cc = lt
      · have go22 : Goes p e below s₁ (entryFrame m #[(.int p1), (.int p2), (.int p3)] maxLocals) T6 (mkF m 113 #[.val (.int p1), .val (.int p2), .val (.int p3), .val (.int lt), .val (.int up), .val (.int (p3 &&& (3 : Int32))), .val (.int cc), .val (.int (1 : Int32))] []) := fun t k => by
          refine go20 t ?_
          refine XS.icmpNo X6.here hx rfl (hb hby at_88) rfl (Jvm.Free.XT.ii_ne_f hc21) ?_
          show Steps p.tables e below (T6.setTop (mkF m 91 #[.val (.int p1), .val (.int p2), .val (.int p3), .val (.int lt), .val (.int up), .val (.int (p3 &&& (3 : Int32))), .val (.int cc), .unset] [])) _
          refine XS.iconst X6.here hx rfl (hb hby at_91) ?_
          show Steps p.tables e below (T6.setTop (mkF m 92 #[.val (.int p1), .val (.int p2), .val (.int p3), .val (.int lt), .val (.int up), .val (.int (p3 &&& (3 : Int32))), .val (.int cc), .unset] [(.int (1 : Int32))])) _
          refine XS.istore X6.here hx rfl (hb hby at_92) rfl (l' := #[.val (.int p1), .val (.int p2), .val (.int p3), .val (.int lt), .val (.int up), .val (.int (p3 &&& (3 : Int32))), .val (.int cc), .val (.int (1 : Int32))]) rfl ?_
          show Steps p.tables e below (T6.setTop (mkF m 94 #[.val (.int p1), .val (.int p2), .val (.int p3), .val (.int lt), .val (.int up), .val (.int (p3 &&& (3 : Int32))), .val (.int cc), .val (.int (1 : Int32))] [])) _
          refine XS.goto X6.here hx rfl (pc0 := 94) (pc' := 113) rfl (hb hby at_94) (by decide) (by decide) ?_
          show Steps p.tables e below (T6.setTop (mkF m 113 #[.val (.int p1), .val (.int p2), .val (.int p3), .val (.int lt), .val (.int up), .val (.int (p3 &&& (3 : Int32))), .val (.int cc), .val (.int (1 : Int32))] [])) _
          exact k
        exact ⟨T6, (1 : Int32), X6, e6, (by simp [hc19, hc21]), go22⟩
      · have go23 : Goes p e below s₁ (entryFrame m #[(.int p1), (.int p2), (.int p3)] maxLocals) T6 (mkF m 101 #[.val (.int p1), .val (.int p2), .val (.int p3), .val (.int lt), .val (.int up), .val (.int (p3 &&& (3 : Int32))), .val (.int cc), .unset] [(.int up), (.int cc)]) := fun t k => by
          refine go20 t ?_
          refine XS.icmpYes X6.here hx rfl (pc0 := 88) (pc' := 97) rfl (hb hby at_88) rfl (Jvm.Free.XT.ii_ne_t hc21) (by decide) (by decide) ?_
          show Steps p.tables e below (T6.setTop (mkF m 97 #[.val (.int p1), .val (.int p2), .val (.int p3), .val (.int lt), .val (.int up), .val (.int (p3 &&& (3 : Int32))), .val (.int cc), .unset] [])) _
          refine XS.iload X6.here hx rfl (hb hby at_97) rfl ?_
          show Steps p.tables e below (T6.setTop (mkF m 99 #[.val (.int p1), .val (.int p2), .val (.int p3), .val (.int lt), .val (.int up), .val (.int (p3 &&& (3 : Int32))), .val (.int cc), .unset] [(.int cc)])) _
          refine XS.iload X6.here hx rfl (hb hby at_99) rfl ?_
          show Steps p.tables e below (T6.setTop (mkF m 101 #[.val (.int p1), .val (.int p2), .val (.int p3), .val (.int lt), .val (.int up), .val (.int (p3 &&& (3 : Int32))), .val (.int cc), .unset] [(.int up), (.int cc)])) _
          exact k
        by_cases hc24 : cc = up
        · have go25 : Goes p e below s₁ (entryFrame m #[(.int p1), (.int p2), (.int p3)] maxLocals) T6 (mkF m 113 #[.val (.int p1), .val (.int p2), .val (.int p3), .val (.int lt), .val (.int up), .val (.int (p3 &&& (3 : Int32))), .val (.int cc), .val (.int (1 : Int32))] []) := fun t k => by
            refine go23 t ?_
            refine XS.icmpNo X6.here hx rfl (hb hby at_101) rfl (Jvm.Free.XT.ii_ne_f hc24) ?_
            show Steps p.tables e below (T6.setTop (mkF m 104 #[.val (.int p1), .val (.int p2), .val (.int p3), .val (.int lt), .val (.int up), .val (.int (p3 &&& (3 : Int32))), .val (.int cc), .unset] [])) _
            refine XS.iconst X6.here hx rfl (hb hby at_104) ?_
            show Steps p.tables e below (T6.setTop (mkF m 105 #[.val (.int p1), .val (.int p2), .val (.int p3), .val (.int lt), .val (.int up), .val (.int (p3 &&& (3 : Int32))), .val (.int cc), .unset] [(.int (1 : Int32))])) _
            refine XS.istore X6.here hx rfl (hb hby at_105) rfl (l' := #[.val (.int p1), .val (.int p2), .val (.int p3), .val (.int lt), .val (.int up), .val (.int (p3 &&& (3 : Int32))), .val (.int cc), .val (.int (1 : Int32))]) rfl ?_
            show Steps p.tables e below (T6.setTop (mkF m 107 #[.val (.int p1), .val (.int p2), .val (.int p3), .val (.int lt), .val (.int up), .val (.int (p3 &&& (3 : Int32))), .val (.int cc), .val (.int (1 : Int32))] [])) _
            refine XS.goto X6.here hx rfl (pc0 := 107) (pc' := 113) rfl (hb hby at_107) (by decide) (by decide) ?_
            show Steps p.tables e below (T6.setTop (mkF m 113 #[.val (.int p1), .val (.int p2), .val (.int p3), .val (.int lt), .val (.int up), .val (.int (p3 &&& (3 : Int32))), .val (.int cc), .val (.int (1 : Int32))] [])) _
            exact k
          exact ⟨T6, (1 : Int32), X6, e6, (by simp [hc19, hc21, hc24]), go25⟩
        · have go26 : Goes p e below s₁ (entryFrame m #[(.int p1), (.int p2), (.int p3)] maxLocals) T6 (mkF m 113 #[.val (.int p1), .val (.int p2), .val (.int p3), .val (.int lt), .val (.int up), .val (.int (p3 &&& (3 : Int32))), .val (.int cc), .val (.int (0 : Int32))] []) := fun t k => by
            refine go23 t ?_
            refine XS.icmpYes X6.here hx rfl (pc0 := 101) (pc' := 110) rfl (hb hby at_101) rfl (Jvm.Free.XT.ii_ne_t hc24) (by decide) (by decide) ?_
            show Steps p.tables e below (T6.setTop (mkF m 110 #[.val (.int p1), .val (.int p2), .val (.int p3), .val (.int lt), .val (.int up), .val (.int (p3 &&& (3 : Int32))), .val (.int cc), .unset] [])) _
            refine XS.iconst X6.here hx rfl (hb hby at_110) ?_
            show Steps p.tables e below (T6.setTop (mkF m 111 #[.val (.int p1), .val (.int p2), .val (.int p3), .val (.int lt), .val (.int up), .val (.int (p3 &&& (3 : Int32))), .val (.int cc), .unset] [(.int (0 : Int32))])) _
            refine XS.istore X6.here hx rfl (hb hby at_111) rfl (l' := #[.val (.int p1), .val (.int p2), .val (.int p3), .val (.int lt), .val (.int up), .val (.int (p3 &&& (3 : Int32))), .val (.int cc), .val (.int (0 : Int32))]) rfl ?_
            show Steps p.tables e below (T6.setTop (mkF m 113 #[.val (.int p1), .val (.int p2), .val (.int p3), .val (.int lt), .val (.int up), .val (.int (p3 &&& (3 : Int32))), .val (.int cc), .val (.int (0 : Int32))] [])) _
            exact k
          exact ⟨T6, (0 : Int32), X6, e6, (by simp [hc19, hc21, hc24]), go26⟩
    · have go27 : Goes p e below s₁ (entryFrame m #[(.int p1), (.int p2), (.int p3)] maxLocals) T6 (mkF m 113 #[.val (.int p1), .val (.int p2), .val (.int p3), .val (.int lt), .val (.int up), .val (.int (p3 &&& (3 : Int32))), .val (.int cc), .val (.int (1 : Int32))] []) := fun t k => by
        refine go18 t ?_
        refine XS.icmpNo X6.here hx rfl (hb hby at_76) rfl (Jvm.Free.XT.ii_lt_f hc19) ?_
        show Steps p.tables e below (T6.setTop (mkF m 79 #[.val (.int p1), .val (.int p2), .val (.int p3), .val (.int lt), .val (.int up), .val (.int (p3 &&& (3 : Int32))), .val (.int cc), .unset] [])) _
        refine XS.iconst X6.here hx rfl (hb hby at_79) ?_
        show Steps p.tables e below (T6.setTop (mkF m 80 #[.val (.int p1), .val (.int p2), .val (.int p3), .val (.int lt), .val (.int up), .val (.int (p3 &&& (3 : Int32))), .val (.int cc), .unset] [(.int (1 : Int32))])) _
        refine XS.istore X6.here hx rfl (hb hby at_80) rfl (l' := #[.val (.int p1), .val (.int p2), .val (.int p3), .val (.int lt), .val (.int up), .val (.int (p3 &&& (3 : Int32))), .val (.int cc), .val (.int (1 : Int32))]) rfl ?_
        show Steps p.tables e below (T6.setTop (mkF m 82 #[.val (.int p1), .val (.int p2), .val (.int p3), .val (.int lt), .val (.int up), .val (.int (p3 &&& (3 : Int32))), .val (.int cc), .val (.int (1 : Int32))] [])) _
        refine XS.goto X6.here hx rfl (pc0 := 82) (pc' := 113) rfl (hb hby at_82) (by decide) (by decide) ?_
        show Steps p.tables e below (T6.setTop (mkF m 113 #[.val (.int p1), .val (.int p2), .val (.int p3), .val (.int lt), .val (.int up), .val (.int (p3 &&& (3 : Int32))), .val (.int cc), .val (.int (1 : Int32))] [])) _
        exact k
      exact ⟨T6, (1 : Int32), X6, e6, (by simp [hc19]), go27⟩
  have go28 : Goes p e below s₁ (entryFrame m #[(.int p1), (.int p2), (.int p3)] maxLocals) T17 (mkF m 116 #[.val (.int p1), .val (.int p2), .val (.int p3), .val (.int lt), .val (.int up), .val (.int (p3 &&& (3 : Int32))), .val (.int cc), .val (.int exv)] [(.int lt), (.int cc)]) := fun t k => by
    refine go17j t ?_
    refine XS.iload X17.here hx rfl (hb hby at_113) rfl ?_
    show Steps p.tables e below (T17.setTop (mkF m 115 #[.val (.int p1), .val (.int p2), .val (.int p3), .val (.int lt), .val (.int up), .val (.int (p3 &&& (3 : Int32))), .val (.int cc), .val (.int exv)] [(.int cc)])) _
    refine XS.iloadN X17.here hx rfl (hb hby at_115) rfl ?_
    show Steps p.tables e below (T17.setTop (mkF m 116 #[.val (.int p1), .val (.int p2), .val (.int p3), .val (.int lt), .val (.int up), .val (.int (p3 &&& (3 : Int32))), .val (.int cc), .val (.int exv)] [(.int lt), (.int cc)])) _
    exact k
  obtain ⟨_, _, ⟨T29, L29, k29, n29⟩, -, X29, ⟨Lc29, hQ29, l29, y29, z29⟩, st29⟩ := Jvm.LawKit.callS X17 hx (y := (⟨"com/example/whereas/whereas/analysis/Letters", "mayBe", "(CC)Z"⟩ : MethodName)) hown (mvT hZ (hw _ (List.mem_of_getElem? (i := 1) rfl))) (mvT hZ (hw _ (List.mem_of_getElem? (i := 2) rfl))) (mvT hZ (hw _ (List.mem_of_getElem? (i := 3) rfl))) (mvT hZ (hw _ (List.mem_of_getElem? (i := 4) rfl))) (by decide) (backOf (W := 0) (rm1 l Z a0 hw [] cc lt h0 n0 Z0) hZ (hw _ (List.mem_of_getElem? (i := 4) rfl)) (hw _ (List.mem_of_getElem? (i := 3) rfl)) (by decide) (by decide)) (g := (mkF m 116 #[.val (.int p1), .val (.int p2), .val (.int p3), .val (.int lt), .val (.int up), .val (.int (p3 &&& (3 : Int32))), .val (.int cc), .val (.int exv)] [(.int lt), (.int cc)])) rfl (by rw [hml]; rfl) (argsL := [(.int cc), (.int lt)]) (rest := []) (lenOf pd_0 rfl) rfl (by show 2 * 0 + _ ≤ _; exact Nat.le_of_eq rfl) (hb hby at_116) (fun _ _ => ⟨rfl, e17, (by decide : 0 + 0 ≤ room_1.cells), (by decide : 0 + 0 ≤ room_1.slots)⟩)
  dsimp only [Pt.U, Pt.locs, Pt.cells, Pt.slots] at X29 l29 y29 z29 st29 hQ29
  subst l29 y29 z29
  obtain ⟨rfl, N29q, e29⟩ := hQ29
  have N29 := Fr.app N0 N29q
  have go30 : Goes p e below s₁ (entryFrame m #[(.int p1), (.int p2), (.int p3)] maxLocals) T29 (mkF m 119 #[.val (.int p1), .val (.int p2), .val (.int p3), .val (.int lt), .val (.int up), .val (.int (p3 &&& (3 : Int32))), .val (.int cc), .val (.int exv)] [(.int (if ¬ cc < (128 : Int32) ∨ (cc ||| (32 : Int32)) = lt then 1 else 0))]) := fun t k => go28 t (st29 t k)
  have go31 : Goes p e below s₁ (entryFrame m #[(.int p1), (.int p2), (.int p3)] maxLocals) T29 (mkF m 121 #[.val (.int p1), .val (.int p2), .val (.int p3), .val (.int lt), .val (.int up), .val (.int (p3 &&& (3 : Int32))), .val (.int cc), .val (.int exv)] [(.int exv), (.int (if ¬ cc < (128 : Int32) ∨ (cc ||| (32 : Int32)) = lt then 1 else 0))]) := fun t k => by
    refine go30 t ?_
    refine XS.iload X29.here hx rfl (hb hby at_119) rfl ?_
    show Steps p.tables e below (T29.setTop (mkF m 121 #[.val (.int p1), .val (.int p2), .val (.int p3), .val (.int lt), .val (.int up), .val (.int (p3 &&& (3 : Int32))), .val (.int cc), .val (.int exv)] [(.int exv), (.int (if ¬ cc < (128 : Int32) ∨ (cc ||| (32 : Int32)) = lt then 1 else 0))])) _
    exact k
  have hfin : (if ¬ cc < (128 : Int32) ∨ (cc ||| (32 : Int32)) = lt then (1 : Int32) else 0) = exv := by
    rw [hj17]
    by_cases h : cc < 128
    · have hc := own_core hL hj6.1 h
      rw [← h_up] at hc
      simp [h, hc]
    · simp [h]
  have go32 : Goes p e below s₁ (entryFrame m #[(.int p1), (.int p2), (.int p3)] maxLocals) T29 (mkF m 129 #[.val (.int p1), .val (.int p2), .val (.int p3), .val (.int lt), .val (.int up), .val (.int (p3 &&& (3 : Int32))), .val (.int cc), .val (.int exv)] [(.int (1 : Int32))]) := fun t k => by
    refine go31 t ?_
    refine XS.icmpNo X29.here hx rfl (hb hby at_121) rfl (Jvm.Free.XT.ii_ne_f hfin) ?_
    show Steps p.tables e below (T29.setTop (mkF m 124 #[.val (.int p1), .val (.int p2), .val (.int p3), .val (.int lt), .val (.int up), .val (.int (p3 &&& (3 : Int32))), .val (.int cc), .val (.int exv)] [])) _
    refine XS.iconst X29.here hx rfl (hb hby at_124) ?_
    show Steps p.tables e below (T29.setTop (mkF m 125 #[.val (.int p1), .val (.int p2), .val (.int p3), .val (.int lt), .val (.int up), .val (.int (p3 &&& (3 : Int32))), .val (.int cc), .val (.int exv)] [(.int (1 : Int32))])) _
    refine XS.goto X29.here hx rfl (pc0 := 125) (pc' := 129) rfl (hb hby at_125) (by decide) (by decide) ?_
    show Steps p.tables e below (T29.setTop (mkF m 129 #[.val (.int p1), .val (.int p2), .val (.int p3), .val (.int lt), .val (.int up), .val (.int (p3 &&& (3 : Int32))), .val (.int cc), .val (.int exv)] [(.int (1 : Int32))])) _
    exact k
  obtain ⟨fs, hr, hrun, hended, hW, hsame⟩ := X29.leave (v := some (.int (1 : Int32))) (fun h => by rw [Bd.returns] at h; cases h)
  refine ⟨_, _, go32 _ ?_, hrun, hended, _, _, rfl, ?_, ⟨_, rfl⟩, hW, hsame.mono (by decide) (by decide)⟩
  · exact retN X29 hx (t := .boolean) Bd.returns (by simp) (hb hby at_129) hr
  · show Q0 Z _ _ _ _ _ _ T29.heap _
    rw [e29]
    exact ⟨rfl, N29⟩
set_option maxRecDepth 65536 in
set_option maxHeartbeats 40000000 in
theorem comes_1 {Post : Tables → Env → Array Value → State → Outcome → State → Prop} (hpost : ∀ tb e args s v u, (limb_1_1.after args s (.returned v) u = true ∧ limb_1_2.after args s (.returned v) u = true ∧ True) → FrameEnd s (.returned v) u (Jvm.fieldLocs frame_1_writes args s ++ Jvm.arrayLocs frame_1_arrays args s ++ Jvm.staticLocs frame_1_statics s) 0 0 → Post tb e args s (.returned v) u) :
    ArmFor flags0 classFile x code maxLocals ret World_1 tables_1 room_1 Calls_1 rest_1 Pre_1 Post := by
  intro l hfl _ _ p e ha hc hk s m args below hf hA hF happ hP
  obtain ⟨hcalls, hrest, hpre⟩ := hP
  obtain ⟨-, -, -, hnamed, -, -, -, hat⟩ := (Spec.applies_iff hf).mp happ
  obtain ⟨hg, hn⟩ := and_e (Cond.before_iff.mp (show (Jvm.Cond.and given_1 narrow_1).before args s = true from hpre))
  obtain ⟨hg0, hg⟩ := and_e hg
  obtain ⟨ga0, hg⟩ := and_e hg
  obtain ⟨ga1, hg⟩ := and_e hg
  have ga2 := hg
  obtain ⟨w0, w1, w2, rfl⟩ : ∃ w0 w1 w2 : Value, args = #[w0, w1, w2] := by
    have hs : args.size = 3 := by simpa [Cond.value, given_1] using hg0
    obtain ⟨L⟩ := args
    match L, hs with
    | [w0, w1, w2], _ => exact ⟨w0, w1, w2, rfl⟩
  have hw := fun d (hd : d ∈ tables_1) => atoms_spec (ws := Jvm.Cond.code x code maxLocals ret :: tables_1) hat d (List.mem_cons_of_mem _ hd)
  have hfit : Fit s := fun {y c} hc i hi => by
    obtain ⟨ha, rfl⟩ := Array.getElem?_eq_some_iff.mp hc
    have q := List.all_eq_true.mp ((Array.all_eq_true_iff_forall_mem.mp hF) _ (Array.getElem_mem ha)) i (List.mem_range.mpr hi)
    simpa [Array.getElem?_eq_getElem hi] using q
  obtain ⟨i0, ei0⟩ := is_v ga0
  obtain rfl : w0 = (.int i0) := Option.some.inj ei0
  obtain ⟨i1, ei1⟩ := is_v ga1
  obtain rfl : w1 = (.int i1) := Option.some.inj ei1
  obtain ⟨i2, ei2⟩ := is_v ga2
  obtain rfl : w2 = (.int i2) := Option.some.inj ei2
  obtain ⟨n, o, h1, h2, h3, _, L, rfl, ⟨rfl, N⟩, hq⟩ := rm0 l s _ hw tables_1 i0 i1 i2 s.heap s.heap.size (Nat.le_refl _) p e ha hc hk s m _ below hf ((Spec.applies_iff_loose hf).mp happ).1 ⟨rfl, State.Warmed39.refl s, rfl⟩ trivial
  refine ⟨n, _, h1, h2, h3, hpost _ _ _ _ _ _ ⟨Cond.after_iff.mpr rfl, Cond.after_iff.mpr (eq_i res_at (Term.int_eval (1)) rfl), trivial⟩ ⟨hq.1, hq.2.1, (hq.2.2.sift fun y hy => Or.inr (N y hy)).mono (by decide) (by decide)⟩⟩
theorem main_1_1 : Claimed_1_1 := comes_1 fun _ _ _ _ _ _ h hF => ⟨h.1, hF⟩
theorem main_1_2 : Claimed_1_2 := comes_1 fun _ _ _ _ _ _ h hF => ⟨h.2.1, hF⟩
end Jvm.Pilot.@@N@@
namespace Jvm.Pilot.@@N@@
open Jvm Jvm.ClassFile Sem Op Lib Jvm.Free Jvm.Stand Jvm.Pilot.@@N@@.Jvm.D
/-! MADE BY PROGRAM (witnessworld.py) out of the Statement's table words and the real class files: 9 classes; the members and pool entries that the words name. The judged class is class 1, her method 1. -/
namespace start1
open Jvm.ClassFile
def u (s : String) : CpInfo := .utf8 (stringToUtf16 s)
/-- a pool by its gaps: so many unusable entries, then the entry; so many at the end -/
def gap : Nat → List CpInfo → List CpInfo
  | 0, r => r
  | n + 1, r => .unusable :: gap n r
def poolList (es : List (Nat × CpInfo)) (last : Nat) : List CpInfo := es.foldr (fun e r => gap e.1 (e.2 :: r)) (gap last [])
def pool (es : List (Nat × CpInfo)) (last : Nat) : Array CpInfo := ⟨poolList es last⟩
def fileOf (pool : Array CpInfo) (this : Nat) (attrs : Array Attribute := #[]) (ms : Array MethodInfo := #[]) (fl : Nat := 33) (sup : Nat := 0) (ifs : Array Nat := #[]) (fds : Array FieldInfo := #[]) : ClassFile where
  minorVersion := 0
  majorVersion := 65
  constantPool := pool
  accessFlags := fl
  thisClass := this
  superClass := sup
  interfaces := ifs
  fields := fds
  methods := ms
  attributes := attrs
def plain (name : String) (sup : Option ClassId) : Class where
  name := name
  kind := .ordinary
  loader := none
  accessFlags := 33
  super := sup
  interfaces := #[]
  cf := none
  fields := #[]
  methods := #[]
  instanceTypes := #[]
  staticTypes := #[]
  resolved := #[]
  callSites := []
  init := .initialized
  statics := none
  mirror := none

def pool0 : Array CpInfo := pool [(5, u "<init>"), (0, u "()V"), (1, .class_ 10), (1, u "java/lang/Object")] 113

def k0m0 : Method := { name := "<init>", desc := "()V", sig := { parameters := [], returnType := none }, accessFlags := 1, code := none }
/-- java/lang/Object -/
def k0 : Class := { plain "java/lang/Object" none with
  accessFlags := 33
  interfaces := #[]
  cf := some (fileOf pool0 8 #[] #[{ accessFlags := 1, nameIndex := 5, descriptorIndex := 6, attributes := #[] }] 33 0 #[] #[])
  fields := #[]
  methods := #[k0m0]
  instanceTypes := #[]
  staticTypes := #[]
  resolved := Array.replicate 124 none
  statics := none }

def pool1 : Array CpInfo := pool [(2, .class_ 4), (1, u "java/lang/Object"), (0, u "<init>"), (0, u "()V"), (0, .integer 2147483647), (0, .methodref 9 10), (0, .class_ 11), (0, .nameAndType 12 13), (0, u "com/example/whereas/whereas/analysis/Letters"), (0, u "mayBe"), (0, u "(CC)Z"), (0, .class_ 15), (0, u "com/example/whereas/whereas/analysis/LettersMayBePinLaw"), (2, u "law"), (0, u "(III)Z")] 3

def k1m0 : Method := { name := "<init>", desc := "()V", sig := { parameters := [], returnType := none }, accessFlags := 2, code := none }
def k1c1 : Code := { maxStack := 3, maxLocals := 8, code := code, exceptionTable := #[], attributes := #[] }
def k1m1 : Method := { name := "law", desc := "(III)Z", sig := { parameters := [.int, .int, .int], returnType := some .boolean }, accessFlags := 9, code := some k1c1 }
/-- com/example/whereas/whereas/analysis/LettersMayBePinLaw -/
def k1 : Class := { plain "com/example/whereas/whereas/analysis/LettersMayBePinLaw" (some 0) with
  accessFlags := 49
  interfaces := #[]
  cf := some (fileOf pool1 14 #[] #[{ accessFlags := 2, nameIndex := 5, descriptorIndex := 6, attributes := #[] }, { accessFlags := 9, nameIndex := 18, descriptorIndex := 19, attributes := #[] }] 49 2 #[] #[])
  fields := #[]
  methods := #[k1m0, k1m1]
  instanceTypes := #[]
  staticTypes := #[]
  resolved := Array.replicate 23 none
  statics := none }

def pool2 : Array CpInfo := pool [(2, .class_ 4), (1, u "java/lang/Object"), (0, u "<init>"), (0, u "()V"), (12, .class_ 20), (0, u "com/example/whereas/whereas/analysis/Letters"), (3, u "mayBe"), (0, u "(CC)Z")] 2

def k2m0 : Method := { name := "<init>", desc := "()V", sig := { parameters := [], returnType := none }, accessFlags := 2, code := none }
def k2c1 : Code := { maxStack := 2, maxLocals := 2, code := prog_9_method_5_code, exceptionTable := #[], attributes := #[] }
def k2m1 : Method := { name := "mayBe", desc := "(CC)Z", sig := { parameters := [.char, .char], returnType := some .boolean }, accessFlags := 8, code := some k2c1 }
/-- com/example/whereas/whereas/analysis/Letters -/
def k2 : Class := { plain "com/example/whereas/whereas/analysis/Letters" (some 0) with
  accessFlags := 48
  interfaces := #[]
  cf := some (fileOf pool2 19 #[] #[{ accessFlags := 2, nameIndex := 5, descriptorIndex := 6, attributes := #[] }, { accessFlags := 8, nameIndex := 24, descriptorIndex := 25, attributes := #[] }] 48 2 #[] #[])
  fields := #[]
  methods := #[k2m0, k2m1]
  instanceTypes := #[]
  staticTypes := #[]
  resolved := Array.replicate 28 none
  statics := none }

def pool3 : Array CpInfo := pool [(1, u "java/lang/Cloneable"), (0, .class_ 1), (0, u "java/lang/Object"), (0, .class_ 3)] 3

/-- java/lang/Cloneable -/
def k3 : Class := { plain "java/lang/Cloneable" (some 0) with
  accessFlags := 1537
  interfaces := #[]
  cf := some (fileOf pool3 2 #[] #[] 1537 4 #[] #[])
  fields := #[]
  methods := #[]
  instanceTypes := #[]
  staticTypes := #[]
  resolved := Array.replicate 8 none
  statics := none }

def pool4 : Array CpInfo := pool [(1, u "java/io/Serializable"), (0, .class_ 1), (0, u "java/lang/Object"), (0, .class_ 3)] 3

/-- java/io/Serializable -/
def k4 : Class := { plain "java/io/Serializable" (some 0) with
  accessFlags := 1537
  interfaces := #[]
  cf := some (fileOf pool4 2 #[] #[] 1537 4 #[] #[])
  fields := #[]
  methods := #[]
  instanceTypes := #[]
  staticTypes := #[]
  resolved := Array.replicate 8 none
  statics := none }

/-- the primitive byte -/
def k5 : Class := { plain "byte" none with kind := .primitive 'B', accessFlags := 0x411 }
/-- [B -/
def k6 : Class := { plain "[B" (some 0) with kind := .array 5 .byte, interfaces := #[3, 4], accessFlags := 1041 }

/-- the primitive int -/
def k7 : Class := { plain "int" none with kind := .primitive 'I', accessFlags := 0x411 }
/-- [I -/
def k8 : Class := { plain "[I" (some 0) with kind := .array 7 .int, interfaces := #[3, 4], accessFlags := 1041 }

def heap : Heap := #[]
def classes : Array Class := #[k0, k1, k2, k3, k4, k5, k6, k7, k8]
def interned : List (Array UInt16 × Addr) := []
def slotsUsed : Nat := 0
def theMethod : MethodId := ⟨1, 1⟩
def args0 : Array Value := #[.int 5, .int 7, .int 2]
def aboutOver (below : List Frame) : State where
  vm := { classes := classes, interned := interned.toArray }
  heap := heap
  slotsUsed := slotsUsed
  threads := #[{ frames := .invoking theMethod args0 :: below }]
def below0 : List Frame := [.native { method := ⟨0, 0⟩, args := #[] }]
def about1 : State := aboutOver below0
def p0 : Program := .bare "" "" ""
def e0 : Env := launch0.env 0 0 0
theorem w_frames : about1.frames = Frame.invoking theMethod args0 :: below0 := rfl
set_option maxRecDepth 65536 in
theorem w_args : argsFit about1.vm theMethod args0 = true := by decide +kernel
set_option maxRecDepth 65536 in
theorem w_heap : heapFits about1 = true := by decide +kernel
set_option maxRecDepth 65536 in
theorem w_runnable : about1.curStatus? = some .runnable := by decide +kernel
set_option maxRecDepth 65536 in
theorem w_alone : about1.alone = true := by decide +kernel
set_option maxRecDepth 65536 in
theorem w_named : about1.methodNamed? x = some theMethod := by decide +kernel
set_option maxRecDepth 65536 in
theorem w_hears : about1.hears theMethod below0 = true := by decide +kernel
set_option maxRecDepth 65536 in
theorem w_ripe : about1.ripe theMethod args0 below0 = true := by decide +kernel
theorem w_running : about1.status = .running := rfl
set_option maxRecDepth 65536 in
theorem w_room : about1.hasRoom e0.platform room_1 = true :=
  launch0.hasRoom_least _ room_1 (by decide +kernel) (by decide +kernel) (by decide +kernel) (by decide +kernel) (by decide +kernel) (by decide +kernel)
theorem allAtoms_all (ts : List Jvm.Cond) (a : Array Jvm.Value) (st : Jvm.State) : (allAtoms ts).before a st = ts.all (fun c => c.before a st) := by
  induction ts with
  | nil => rfl
  | cons c t ih =>
    show (Jvm.Cond.and c (allAtoms t)).before a st = _
    rw [Jvm.Cond.before_and, ih, List.all_cons]
def words1 : List Jvm.Cond := Jvm.Cond.code x code maxLocals ret :: tables_1
/-- a 'code' word, met by the world's own term for the bytes: nothing is compared byte by byte -/
theorem code_word {y : MethodName} {bytes : ByteArray} {mx : Nat} {rt : Option FieldType} {a : Array Value} {s : State} {m : MethodId} {meth : Method} {c : Code} (h1 : s.methodNamed? y = some m) (h2 : s.vm.method? m = some meth) (h3 : meth.code = some c) (h4 : c.code = bytes)
    (h5 : (c.maxLocals == mx && c.exceptionTable.isEmpty && decide (c.maxStack ≤ mostOperands) && decide (meth.sig.returnType = rt) && !meth.locks && decide (parseMethodDescriptor y.desc = some meth.sig)) = true) : (Jvm.Cond.code y bytes mx rt).before a s = true := by
  simp only [Bool.and_eq_true, beq_iff_eq, Bool.not_eq_true', decide_eq_true_eq] at h5
  obtain ⟨⟨⟨⟨⟨g1, g2⟩, g3⟩, g4⟩, g5⟩, g6⟩ := h5
  simp [Cond.before, Cond.holds, Cond.value, h1, h2, h3, h4, g1, g2, g3, g4, g5, g6]
def isCode : Jvm.Cond → Bool
  | .code _ _ _ _ => true
  | _ => false
theorem all_split {L : List Jvm.Cond} {P : Jvm.Cond → Bool} (h1 : L.all (fun c => isCode c || P c) = true) (h2 : ∀ c ∈ L.filter isCode, P c = true) : L.all P = true := by
  refine List.all_eq_true.mpr fun c hc => ?_
  have h := List.all_eq_true.mp h1 c hc
  rcases Bool.eq_false_or_eq_true (isCode c) with hi | hi
  · exact h2 c (List.mem_filter.mpr ⟨hc, hi⟩)
  · simpa [hi] using h
set_option maxRecDepth 65536 in
theorem w_c0 : (Jvm.Cond.code x code maxLocals ret).before args0 about1 = true := code_word (m := ⟨1, 1⟩) (meth := k1m1) (c := k1c1) (by decide +kernel) rfl rfl rfl (by decide +kernel)
set_option maxRecDepth 65536 in
theorem w_c1 : (Jvm.Cond.code ({ cls := "com/example/whereas/whereas/analysis/Letters", name := "mayBe", desc := "(CC)Z" } : Jvm.MethodName) prog_9_method_5_code (2 : Nat) (Option.some Jvm.ClassFile.FieldType.boolean)).before args0 about1 = true := code_word (m := ⟨2, 1⟩) (meth := k2m1) (c := k2c1) (by decide +kernel) rfl rfl rfl (by decide +kernel)
def codes1 : List Jvm.Cond := [Jvm.Cond.code x code maxLocals ret, Jvm.Cond.code ({ cls := "com/example/whereas/whereas/analysis/Letters", name := "mayBe", desc := "(CC)Z" } : Jvm.MethodName) prog_9_method_5_code (2 : Nat) (Option.some Jvm.ClassFile.FieldType.boolean)]
set_option maxRecDepth 65536 in
theorem codes_eq : words1.filter isCode = codes1 := rfl
theorem w_codes : ∀ c ∈ words1.filter isCode, c.before args0 about1 = true := by
  rw [codes_eq]
  intro c hc
  simp only [codes1, List.mem_cons, List.not_mem_nil, or_false] at hc
  rcases hc with rfl | rfl
  · exact w_c0
  · exact w_c1
set_option maxRecDepth 65536 in
theorem w_t1 : words1.all (fun c => isCode c || c.before args0 about1) = true := by decide +kernel
theorem w_tables : (allAtoms (Jvm.Cond.code x code maxLocals ret :: tables_1)).before args0 about1 = true := by
  rw [allAtoms_all]
  show words1.all (fun c => c.before args0 about1) = true
  refine all_split ?_ w_codes
  rw [w_t1]
set_option maxRecDepth 65536 in
theorem w_case : (Jvm.Cond.and given_1 narrow_1).before args0 about1 = true := by decide +kernel
theorem w_applies : (headSpec (Jvm.Cond.code x code maxLocals ret :: tables_1) room_1).applies x e0.platform about1 = true :=
  (Spec.applies_iff w_frames).mpr ⟨w_running, w_runnable, w_alone, w_named, w_hears, w_ripe, w_room, w_tables⟩
theorem atStart : AtStart classFile x code maxLocals ret World_1 tables_1 room_1 Calls_1 rest_1 Pre_1 launch0 p0 e0 about1 theMethod args0 below0 :=
  ⟨lists_1, trivial, launch0.admits_env _ _ _, launch0.least_env, fairChoices_fair.cas, fairChoices_fair.clock, w_frames, w_args, w_heap, w_applies, trivial, trivial, w_case⟩
end start1
theorem witness_1 : WitnessClaimed_1 := ⟨start1.p0, start1.e0, start1.about1, start1.theMethod, start1.args0, start1.below0, start1.atStart⟩
end Jvm.Pilot.@@N@@
