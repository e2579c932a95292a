import JvmDerived
import JvmDerived.Pilot.@@N@@Statement
import JvmDerived.Pilot.@@N@@Code
set_option linter.unusedVariables false
set_option linter.unusedSimpArgs false
@@BLOCK:NumsL.lean.txt@@
namespace Jvm.RoadKit
open Sem ClassFile Op Lib Jvm.Stand Jvm.Free Jvm.LawKit
section New
variable {p : Program} {l : Launch} {e : Env} {R : Room} {s : State} {m : MethodId} {args : Array Value} {below : List Frame} {meth : Method} {c : Code} {T : State} {locs : List Loc} {cells slots : Nat}
theorem retI (X : Stand p l e R s m args below meth c T locs cells slots) (hx : p.tables.exec = Jvm.exec) {pc : Nat} {Ls : Array Slot} {z : Int32} {rest : List Value} (hret : meth.sig.returnType = some .int) (hd : decode c.code pc = .ok (.ireturn, 1)) {fs : List Frame}
    (hl : ∀ (f : JFrame) (acts : List Action), f.method = m → f.locked = none → f.entered = [] → (doReturn e (T.setTop f) acts (some (.int z))).1 = T.setFrames fs) : Steps p.tables e below (T.setTop (mkF m pc Ls (.int z :: rest))) (T.setFrames fs) := by
  have hm' : T.vm.method? m = some meth := X.method'
  have hn : narrow .int (.int z) = .int z := rfl
  show Steps p.tables e below (T.setTop { method := m, pc := pc, locals := Ls, stack := _ :: rest, locked := none }) _
  jvm_step X.here [X.here.top, hx, hd, hm', hret, hn]
  first | (intro acts; rw [hl _ acts rfl rfl rfl]) | rw [hl _ _ rfl rfl rfl]
  exact Steps.refl _
end New
end Jvm.RoadKit
namespace Jvm.Pilot.@@N@@
open Jvm Jvm.ClassFile Sem Op Lib Jvm.Free Jvm.Stand Jvm.LawKit Jvm.RoadKit Bundle Jvm.Pilot.@@N@@.Jvm.D
theorem own_fi {args : Array Value} {s : State} {t : Term} {C n d : String} {k : Int32} {x : Addr} (ht : t.eval args s none [] s = some (.ref x)) (h : (Jvm.Cond.eq (Term.field t C n d) (Term.int k)).value args s none s [] = some true) : Fld s s.heap x C n d (.int k) := by
  obtain ⟨a, b, ha, hb, hk, -⟩ := cmp_v (Or.inl h)
  have hb' : b = .int k := Option.some.inj (hb.symm.trans rfl)
  subst hb'
  cases a <;> simp [Kin, Value.isRef] at hk
  rename_i z
  have hz : z = k := by simpa [Jvm.Cond.value, ha, hb] using h
  subst hz
  exact Fld.start ((fld_at ht).symm.trans ha)
theorem own_fn {args : Array Value} {s : State} {t : Term} {C n d : String} {x : Addr} (ht : t.eval args s none [] s = some (.ref x)) (h : (Jvm.Cond.eq (Term.field t C n d) Term.null).value args s none s [] = some true) : Fld s s.heap x C n d .null := Fld.start ((fld_at ht).symm.trans (null_v h))
theorem own_fx {args : Array Value} {s : State} {t : Term} {C n d K : String} {x : Addr} (ht : t.eval args s none [] s = some (.ref x)) (h : (Jvm.Cond.exactly (Term.field t C n d) K).value args s none s [] = some true) : ∃ y, (Term.field t C n d).eval args s none [] s = some (.ref y) ∧ Fld s s.heap x C n d (.ref y) ∧ Exa s s.heap y K := by
  obtain ⟨y, hy⟩ := exa_v h
  exact ⟨y, hy, Fld.start ((fld_at ht).symm.trans hy), Exa.start hy h⟩
theorem own_sx {args : Array Value} {s : State} {C n d K : String} (hi : (Jvm.Cond.initialized C).before args s = true) (hl : (Jvm.Cond.laysStatic C n d).before args s = true) (h : (Jvm.Cond.exactly (Term.static C n d) K).value args s none s [] = some true) : ∃ x, (Term.static C n d).eval args s none [] s = some (.ref x) ∧ Sta s s.heap C n d (.ref x) ∧ Exa s s.heap x K := by
  obtain ⟨y, hy⟩ := exa_v h
  exact ⟨y, hy, Sta.start hy (Or.inr ⟨hi, hl⟩), Exa.start hy h⟩
theorem own_and31 (x : Int32) : (x &&& 2147483647).toInt = x.toInt % 2 ^ 31 := Jvm.Kit.i32_mask x 2147483647 (k := 31) (by decide) (by decide)
theorem own_pos31 (x : Int32) : 0 ≤ (x &&& 2147483647).toInt := by rw [own_and31]; omega
theorem own_rem (x m : Int32) (hm : 0 < m.toInt) : 0 ≤ ((x &&& 2147483647) % m).toInt ∧ ((x &&& 2147483647) % m).toInt < m.toInt := by
  have h1 := own_pos31 x
  rw [Int32.toInt_mod]
  have h2 : ((x &&& 2147483647).toInt).tmod m.toInt = (x &&& 2147483647).toInt % m.toInt := Int.tmod_eq_emod_of_nonneg h1
  have h3 := Int.emod_nonneg (x &&& 2147483647).toInt (show m.toInt ≠ 0 by omega)
  have h4 := Int.emod_lt_of_pos (x &&& 2147483647).toInt hm
  omega
theorem own_selp {s : State} {args : Array Value} {y : MethodName} {n : Nat} (hy : y.cls ≠ "java/lang/invoke/MethodHandle" ∧ y.cls ≠ "java/lang/invoke/VarHandle") (hins : (Jvm.Cond.instantiable y.cls n).before args s = true) (hpriv : (Jvm.Cond.privateMethod y).before args s = true) (hinst : (Jvm.Cond.instanceMethod y).before args s = true) : (Jvm.Cond.selects y.cls y y).before args s = true := by
  obtain ⟨c, k, hc, hk, -, hniab, -, -⟩ := Cond.instantiable_spec hins
  have hni : k.isInterface = false := (Bool.or_eq_false_iff.mp hniab).1
  obtain ⟨mk, methM, hnamed, hmethM, -, -⟩ := Cond.instanceMethod_spec hinst
  have hfound : s.methodFound? y.cls y.name y.desc = some mk := State.methodFound?_of_named hnamed hy
  have hcls : mk.cls = c := Option.some.inj ((findClass_of_methodNamed hnamed).symm.trans hc)
  have hsel : selectMethod {} s.vm c mk = .method mk := selectMethod_private hmethM (Cond.privateMethod_at hpriv mk methM hnamed hmethM)
  simp only [Cond.before, Cond.holds, Cond.value, hc, hfound, hnamed, hsel, hcls, hk]
  simp; exact hni
theorem own_of_toInt {x : Int32} {n : Int} (h : x.toInt = n) : x = Int32.ofInt n := by rw [← h, Int32.ofInt_toInt]
def own_mix (z : Int64) : Int64 :=
  ((((z ^^^ (Jvm.Free.XT.ushrL z 30)) * (-4658895280553007687 : Int64)) ^^^ (Jvm.Free.XT.ushrL ((z ^^^ (Jvm.Free.XT.ushrL z 30)) * (-4658895280553007687 : Int64)) 27)) * (-7723592293110705685 : Int64)) ^^^ (Jvm.Free.XT.ushrL ((((z ^^^ (Jvm.Free.XT.ushrL z 30)) * (-4658895280553007687 : Int64)) ^^^ (Jvm.Free.XT.ushrL ((z ^^^ (Jvm.Free.XT.ushrL z 30)) * (-4658895280553007687 : Int64)) 27)) * (-7723592293110705685 : Int64)) 31)
theorem own_bv {a b : BitVec 64} {k : Nat} (hk : 0 < k) (h : a ^^^ (a >>> k) = b ^^^ (b >>> k)) : a = b := by
  have h1 : a ^^^ b = (a ^^^ b) >>> k := by
    rw [BitVec.ushiftRight_xor_distrib]
    have h2 : (a ^^^ (a >>> k)) ^^^ ((a >>> k) ^^^ b) = (b ^^^ (b >>> k)) ^^^ ((a >>> k) ^^^ b) := by rw [h]
    have h3 : (a ^^^ (a >>> k)) ^^^ ((a >>> k) ^^^ b) = a ^^^ b := by
      rw [BitVec.xor_assoc, ← BitVec.xor_assoc (a >>> k), BitVec.xor_self, BitVec.zero_xor]
    have h4 : (b ^^^ (b >>> k)) ^^^ ((a >>> k) ^^^ b) = (a >>> k) ^^^ (b >>> k) := by
      rw [BitVec.xor_comm b, BitVec.xor_comm (a >>> k) b, BitVec.xor_assoc, ← BitVec.xor_assoc b, BitVec.xor_self, BitVec.zero_xor, BitVec.xor_comm]
    rw [← h3, h2, h4]
  have h5 : (a ^^^ b).toNat = (a ^^^ b).toNat / 2 ^ k := by
    have := congrArg BitVec.toNat h1
    rw [BitVec.toNat_ushiftRight, Nat.shiftRight_eq_div_pow] at this
    exact this
  have h6 : (a ^^^ b).toNat = 0 := by
    rcases Nat.eq_zero_or_pos (a ^^^ b).toNat with h | h
    · exact h
    · have := Nat.div_lt_self h (Nat.one_lt_two_pow (Nat.ne_of_gt hk)); omega
  have h7 : a ^^^ b = 0#64 := BitVec.eq_of_toNat_eq (by simpa using h6)
  exact BitVec.xor_eq_zero_iff.mp h7
theorem own_sh (x : Int64) (k : Int32) (n : Nat) (h : (k.toInt64.toUInt64 &&& Int64.toUInt64 63).toBitVec.toNat % 64 = n) : (Jvm.Free.XT.ushrL x k).toBitVec = x.toBitVec >>> n := by
  subst h
  unfold Jvm.Free.XT.ushrL
  generalize (k.toInt64.toUInt64 &&& Int64.toUInt64 63) = c
  simp only [UInt64.toBitVec_toInt64, UInt64.toBitVec_shiftRight, Int64.toBitVec_toUInt64]
  simp [BitVec.ushiftRight_eq']
theorem own_xs {x y : Int64} (k : Int32) (n : Nat) (hn : 0 < n) (h : (k.toInt64.toUInt64 &&& Int64.toUInt64 63).toBitVec.toNat % 64 = n) (e : x ^^^ (Jvm.Free.XT.ushrL x k) = y ^^^ (Jvm.Free.XT.ushrL y k)) : x = y := by
  have e2 := congrArg Int64.toBitVec e
  rw [Int64.toBitVec_xor, Int64.toBitVec_xor, own_sh x k n h, own_sh y k n h] at e2
  exact Int64.toBitVec_inj.mp (own_bv hn e2)
theorem own_mul {x y : Int64} (c d : Int64) (hcd : c * d = 1) (h : x * c = y * c) : x = y := by
  have h2 : x * c * d = y * c * d := by rw [h]
  rwa [Int64.mul_assoc, Int64.mul_assoc, hcd, Int64.mul_one, Int64.mul_one] at h2
theorem own_mix_inj {x y : Int64} (h : own_mix x = own_mix y) : x = y := by
  unfold own_mix at h
  have h1 := own_xs 31 31 (by decide) (by decide) h
  have h2 := own_mul (-7723592293110705685) (3573116690164977347) (by decide) h1
  have h3 := own_xs 27 27 (by decide) (by decide) h2
  have h4 := own_mul (-4658895280553007687) (-7575587736534282103) (by decide) h3
  exact own_xs 30 30 (by decide) (by decide) h4
theorem own_inj (s d : Int64) : own_mix ((s + d) + (-7046029254386353131 : Int64)) = own_mix (s + (-7046029254386353131 : Int64)) ↔ d = 0 := by
  constructor
  · intro h
    have h1 := own_mix_inj h
    have h2 : s + d = s := by
      have := congrArg (fun z => z - (-7046029254386353131 : Int64)) h1
      simpa [Int64.add_sub_cancel] using this
    have h3 : s + d = s + 0 := by rw [Int64.add_zero]; exact h2
    exact (Int64.add_right_inj s).mp h3
  · intro h; rw [h, Int64.add_zero]
theorem own_anchor : own_mix ((0 : Int64) + (-7046029254386353131 : Int64)) = (-2152535657050944081 : Int64) := by decide +kernel
theorem d4_0 : decode prog_76_method_7_code 0 = .ok (.lload_n 0, 1) := by decide +kernel
theorem d4_1 : decode prog_76_method_7_code 1 = .ok (.lload_n 0, 1) := by decide +kernel
theorem d4_2 : decode prog_76_method_7_code 2 = .ok (.bipush 30, 2) := by decide +kernel
theorem d4_4 : decode prog_76_method_7_code 4 = .ok (.lushr, 1) := by decide +kernel
theorem d4_5 : decode prog_76_method_7_code 5 = .ok (.lxor, 1) := by decide +kernel
theorem d4_6 : decode prog_76_method_7_code 6 = .ok (.ldc2_w 38, 3) := by decide +kernel
theorem d4_9 : decode prog_76_method_7_code 9 = .ok (.lmul, 1) := by decide +kernel
theorem d4_10 : decode prog_76_method_7_code 10 = .ok (.lstore_n 0, 1) := by decide +kernel
theorem d4_11 : decode prog_76_method_7_code 11 = .ok (.lload_n 0, 1) := by decide +kernel
theorem d4_12 : decode prog_76_method_7_code 12 = .ok (.lload_n 0, 1) := by decide +kernel
theorem d4_13 : decode prog_76_method_7_code 13 = .ok (.bipush 27, 2) := by decide +kernel
theorem d4_15 : decode prog_76_method_7_code 15 = .ok (.lushr, 1) := by decide +kernel
theorem d4_16 : decode prog_76_method_7_code 16 = .ok (.lxor, 1) := by decide +kernel
theorem d4_17 : decode prog_76_method_7_code 17 = .ok (.ldc2_w 40, 3) := by decide +kernel
theorem d4_20 : decode prog_76_method_7_code 20 = .ok (.lmul, 1) := by decide +kernel
theorem d4_21 : decode prog_76_method_7_code 21 = .ok (.lstore_n 0, 1) := by decide +kernel
theorem d4_22 : decode prog_76_method_7_code 22 = .ok (.lload_n 0, 1) := by decide +kernel
theorem d4_23 : decode prog_76_method_7_code 23 = .ok (.lload_n 0, 1) := by decide +kernel
theorem d4_24 : decode prog_76_method_7_code 24 = .ok (.bipush 31, 2) := by decide +kernel
theorem d4_26 : decode prog_76_method_7_code 26 = .ok (.lushr, 1) := by decide +kernel
theorem d4_27 : decode prog_76_method_7_code 27 = .ok (.lxor, 1) := by decide +kernel
theorem d4_28 : decode prog_76_method_7_code 28 = .ok (.lreturn, 1) := by decide +kernel
theorem pn_0 : plainName "com/example/covermesh/covermesh/graph/SeededRandom" = true := by first | (simp [plainName, overriddenIn]; done) | decide +kernel
theorem ef_rm1 (m : MethodId) (q1 : Int64) : entryFrame m #[(.long q1)] 2 = mkF m 0 #[.val (.long q1), .second] [] := by first | (simp [entryFrame, mkF, argsToLocals, Value.category]; done) | rfl
def Q1 (Z : State) (q1 : Int64) (h0 : Heap) (n0 : Nat) (v : Option Value) (h : Heap) (L : List Loc) : Prop := v = some (.long (own_mix q1)) ∧ Fr n0 L ∧ h = h0
set_option maxRecDepth 65536 in
set_option maxHeartbeats 40000000 in
theorem rm1 (l : Launch) (Z : State) (a0 : Array Value) (hw : ∀ d ∈ tables_1, d.before a0 Z = true) (ws : List Jvm.Cond) (q1 : Int64) (h0 : Heap) (n0 : Nat) (Z0 : n0 ≤ h0.size) :
    MetFree l (⟨"com/example/covermesh/covermesh/graph/SeededRandom", "mix", "(J)J"⟩ : MethodName) (head1 (Jvm.Cond.code (⟨"com/example/covermesh/covermesh/graph/SeededRandom", "mix", "(J)J"⟩ : MethodName) prog_76_method_7_code 2 (some .long) :: ws) ({ frames := 0, cells := 0, slots := 0, locals := 0 } : Room)) (fun a U => a = #[(.long q1)] ∧ Z.Warmed39 U.vm ∧ U.heap = h0) (fun _ _ _ _ _ => True) (fun _ U o U' => ∃ v L, o = .returned v ∧ Q1 Z q1 h0 n0 v U'.heap L ∧ FrameEnd U o U' L ({ frames := 0, cells := 0, slots := 0, locals := 0 } : Room).cells ({ frames := 0, cells := 0, slots := 0, locals := 0 } : Room).slots) := by
  refine MetFree.of_bodySF (plainFor_of_name pn_0) hisR ?_
  intro p e s m args below meth c s₁ Bd hml0 hP hK
  obtain ⟨rfl, hZ, hh⟩ := hP
  have hx := Bd.exec
  have hby := Bd.bytes
  have hml : c.maxLocals = 2 := hml0
  have hown : s.vm.findClass "com/example/covermesh/covermesh/graph/SeededRandom" = some m.cls := findClass_of_methodNamed Bd.named
  have hnm := (name_of_methodNamed Bd.named Bd.method).1
  have X0 : Stand p l e ({ frames := 0, cells := 0, slots := 0, locals := 0 } : Room) s m #[(.long q1)] below meth c s₁ [] 0 0 := Stand.of_body Bd
  have e0 : s₁.heap = h0 := by rw [← hh, Bd.state]; rfl
  have N0 := Fr.nil n0
  have K0 := Keep.refl h0 []
  have go0 : Goes p e below s₁ (entryFrame m #[(.long q1)] 2) s₁ (mkF m 0 #[.val (.long q1), .second] []) := fun t k => castTop (ef_rm1 m q1) k
  have go1 : Goes p e below s₁ (entryFrame m #[(.long q1)] 2) s₁ (mkF m 28 #[.val (.long ((((q1 ^^^ (Jvm.Free.XT.ushrL q1 (30 : Int32))) * (-4658895280553007687 : Int64)) ^^^ (Jvm.Free.XT.ushrL ((q1 ^^^ (Jvm.Free.XT.ushrL q1 (30 : Int32))) * (-4658895280553007687 : Int64)) (27 : Int32))) * (-7723592293110705685 : Int64))), .second] [(.long (((((q1 ^^^ (Jvm.Free.XT.ushrL q1 (30 : Int32))) * (-4658895280553007687 : Int64)) ^^^ (Jvm.Free.XT.ushrL ((q1 ^^^ (Jvm.Free.XT.ushrL q1 (30 : Int32))) * (-4658895280553007687 : Int64)) (27 : Int32))) * (-7723592293110705685 : Int64)) ^^^ (Jvm.Free.XT.ushrL ((((q1 ^^^ (Jvm.Free.XT.ushrL q1 (30 : Int32))) * (-4658895280553007687 : Int64)) ^^^ (Jvm.Free.XT.ushrL ((q1 ^^^ (Jvm.Free.XT.ushrL q1 (30 : Int32))) * (-4658895280553007687 : Int64)) (27 : Int32))) * (-7723592293110705685 : Int64)) (31 : Int32))))]) := fun t k => by
    refine go0 t ?_
    refine XS.lloadN X0.here hx rfl (hb hby d4_0) rfl ?_
    show Steps p.tables e below (s₁.setTop (mkF m 1 #[.val (.long q1), .second] [(.long q1)])) _
    refine XS.lloadN X0.here hx rfl (hb hby d4_1) rfl ?_
    show Steps p.tables e below (s₁.setTop (mkF m 2 #[.val (.long q1), .second] [(.long q1), (.long q1)])) _
    refine XS.bipush X0.here hx rfl (hb hby d4_2) ?_
    show Steps p.tables e below (s₁.setTop (mkF m 4 #[.val (.long q1), .second] [(.int (30 : Int32)), (.long q1), (.long q1)])) _
    refine XS.lushr X0.here hx rfl (hb hby d4_4) rfl ?_
    show Steps p.tables e below (s₁.setTop (mkF m 5 #[.val (.long q1), .second] [(.long (Jvm.Free.XT.ushrL q1 (30 : Int32))), (.long q1)])) _
    refine XS.lxor X0.here hx rfl (hb hby d4_5) rfl ?_
    show Steps p.tables e below (s₁.setTop (mkF m 6 #[.val (.long q1), .second] [(.long (q1 ^^^ (Jvm.Free.XT.ushrL q1 (30 : Int32))))])) _
    refine X0.ldc2Long hx hown (mvT hZ (hw _ (List.mem_of_getElem? (i := 20) rfl))) (g := (mkF m 6 #[.val (.long q1), .second] [(.long (q1 ^^^ (Jvm.Free.XT.ushrL q1 (30 : Int32))))])) rfl (hb hby d4_6) _ ?_
    show Steps p.tables e below (s₁.setTop (mkF m 9 #[.val (.long q1), .second] [(.long (-4658895280553007687 : Int64)), (.long (q1 ^^^ (Jvm.Free.XT.ushrL q1 (30 : Int32))))])) _
    refine XS.lmul X0.here hx rfl (hb hby d4_9) rfl ?_
    show Steps p.tables e below (s₁.setTop (mkF m 10 #[.val (.long q1), .second] [(.long ((q1 ^^^ (Jvm.Free.XT.ushrL q1 (30 : Int32))) * (-4658895280553007687 : Int64)))])) _
    refine XS.lstoreN X0.here hx rfl (hb hby d4_10) rfl (l' := #[.val (.long ((q1 ^^^ (Jvm.Free.XT.ushrL q1 (30 : Int32))) * (-4658895280553007687 : Int64))), .second]) rfl ?_
    show Steps p.tables e below (s₁.setTop (mkF m 11 #[.val (.long ((q1 ^^^ (Jvm.Free.XT.ushrL q1 (30 : Int32))) * (-4658895280553007687 : Int64))), .second] [])) _
    refine XS.lloadN X0.here hx rfl (hb hby d4_11) rfl ?_
    show Steps p.tables e below (s₁.setTop (mkF m 12 #[.val (.long ((q1 ^^^ (Jvm.Free.XT.ushrL q1 (30 : Int32))) * (-4658895280553007687 : Int64))), .second] [(.long ((q1 ^^^ (Jvm.Free.XT.ushrL q1 (30 : Int32))) * (-4658895280553007687 : Int64)))])) _
    refine XS.lloadN X0.here hx rfl (hb hby d4_12) rfl ?_
    show Steps p.tables e below (s₁.setTop (mkF m 13 #[.val (.long ((q1 ^^^ (Jvm.Free.XT.ushrL q1 (30 : Int32))) * (-4658895280553007687 : Int64))), .second] [(.long ((q1 ^^^ (Jvm.Free.XT.ushrL q1 (30 : Int32))) * (-4658895280553007687 : Int64))), (.long ((q1 ^^^ (Jvm.Free.XT.ushrL q1 (30 : Int32))) * (-4658895280553007687 : Int64)))])) _
    refine XS.bipush X0.here hx rfl (hb hby d4_13) ?_
    show Steps p.tables e below (s₁.setTop (mkF m 15 #[.val (.long ((q1 ^^^ (Jvm.Free.XT.ushrL q1 (30 : Int32))) * (-4658895280553007687 : Int64))), .second] [(.int (27 : Int32)), (.long ((q1 ^^^ (Jvm.Free.XT.ushrL q1 (30 : Int32))) * (-4658895280553007687 : Int64))), (.long ((q1 ^^^ (Jvm.Free.XT.ushrL q1 (30 : Int32))) * (-4658895280553007687 : Int64)))])) _
    refine XS.lushr X0.here hx rfl (hb hby d4_15) rfl ?_
    show Steps p.tables e below (s₁.setTop (mkF m 16 #[.val (.long ((q1 ^^^ (Jvm.Free.XT.ushrL q1 (30 : Int32))) * (-4658895280553007687 : Int64))), .second] [(.long (Jvm.Free.XT.ushrL ((q1 ^^^ (Jvm.Free.XT.ushrL q1 (30 : Int32))) * (-4658895280553007687 : Int64)) (27 : Int32))), (.long ((q1 ^^^ (Jvm.Free.XT.ushrL q1 (30 : Int32))) * (-4658895280553007687 : Int64)))])) _
    refine XS.lxor X0.here hx rfl (hb hby d4_16) rfl ?_
    show Steps p.tables e below (s₁.setTop (mkF m 17 #[.val (.long ((q1 ^^^ (Jvm.Free.XT.ushrL q1 (30 : Int32))) * (-4658895280553007687 : Int64))), .second] [(.long (((q1 ^^^ (Jvm.Free.XT.ushrL q1 (30 : Int32))) * (-4658895280553007687 : Int64)) ^^^ (Jvm.Free.XT.ushrL ((q1 ^^^ (Jvm.Free.XT.ushrL q1 (30 : Int32))) * (-4658895280553007687 : Int64)) (27 : Int32))))])) _
    refine X0.ldc2Long hx hown (mvT hZ (hw _ (List.mem_of_getElem? (i := 21) rfl))) (g := (mkF m 17 #[.val (.long ((q1 ^^^ (Jvm.Free.XT.ushrL q1 (30 : Int32))) * (-4658895280553007687 : Int64))), .second] [(.long (((q1 ^^^ (Jvm.Free.XT.ushrL q1 (30 : Int32))) * (-4658895280553007687 : Int64)) ^^^ (Jvm.Free.XT.ushrL ((q1 ^^^ (Jvm.Free.XT.ushrL q1 (30 : Int32))) * (-4658895280553007687 : Int64)) (27 : Int32))))])) rfl (hb hby d4_17) _ ?_
    show Steps p.tables e below (s₁.setTop (mkF m 20 #[.val (.long ((q1 ^^^ (Jvm.Free.XT.ushrL q1 (30 : Int32))) * (-4658895280553007687 : Int64))), .second] [(.long (-7723592293110705685 : Int64)), (.long (((q1 ^^^ (Jvm.Free.XT.ushrL q1 (30 : Int32))) * (-4658895280553007687 : Int64)) ^^^ (Jvm.Free.XT.ushrL ((q1 ^^^ (Jvm.Free.XT.ushrL q1 (30 : Int32))) * (-4658895280553007687 : Int64)) (27 : Int32))))])) _
    refine XS.lmul X0.here hx rfl (hb hby d4_20) rfl ?_
    show Steps p.tables e below (s₁.setTop (mkF m 21 #[.val (.long ((q1 ^^^ (Jvm.Free.XT.ushrL q1 (30 : Int32))) * (-4658895280553007687 : Int64))), .second] [(.long ((((q1 ^^^ (Jvm.Free.XT.ushrL q1 (30 : Int32))) * (-4658895280553007687 : Int64)) ^^^ (Jvm.Free.XT.ushrL ((q1 ^^^ (Jvm.Free.XT.ushrL q1 (30 : Int32))) * (-4658895280553007687 : Int64)) (27 : Int32))) * (-7723592293110705685 : Int64)))])) _
    refine XS.lstoreN X0.here hx rfl (hb hby d4_21) rfl (l' := #[.val (.long ((((q1 ^^^ (Jvm.Free.XT.ushrL q1 (30 : Int32))) * (-4658895280553007687 : Int64)) ^^^ (Jvm.Free.XT.ushrL ((q1 ^^^ (Jvm.Free.XT.ushrL q1 (30 : Int32))) * (-4658895280553007687 : Int64)) (27 : Int32))) * (-7723592293110705685 : Int64))), .second]) rfl ?_
    show Steps p.tables e below (s₁.setTop (mkF m 22 #[.val (.long ((((q1 ^^^ (Jvm.Free.XT.ushrL q1 (30 : Int32))) * (-4658895280553007687 : Int64)) ^^^ (Jvm.Free.XT.ushrL ((q1 ^^^ (Jvm.Free.XT.ushrL q1 (30 : Int32))) * (-4658895280553007687 : Int64)) (27 : Int32))) * (-7723592293110705685 : Int64))), .second] [])) _
    refine XS.lloadN X0.here hx rfl (hb hby d4_22) rfl ?_
    show Steps p.tables e below (s₁.setTop (mkF m 23 #[.val (.long ((((q1 ^^^ (Jvm.Free.XT.ushrL q1 (30 : Int32))) * (-4658895280553007687 : Int64)) ^^^ (Jvm.Free.XT.ushrL ((q1 ^^^ (Jvm.Free.XT.ushrL q1 (30 : Int32))) * (-4658895280553007687 : Int64)) (27 : Int32))) * (-7723592293110705685 : Int64))), .second] [(.long ((((q1 ^^^ (Jvm.Free.XT.ushrL q1 (30 : Int32))) * (-4658895280553007687 : Int64)) ^^^ (Jvm.Free.XT.ushrL ((q1 ^^^ (Jvm.Free.XT.ushrL q1 (30 : Int32))) * (-4658895280553007687 : Int64)) (27 : Int32))) * (-7723592293110705685 : Int64)))])) _
    refine XS.lloadN X0.here hx rfl (hb hby d4_23) rfl ?_
    show Steps p.tables e below (s₁.setTop (mkF m 24 #[.val (.long ((((q1 ^^^ (Jvm.Free.XT.ushrL q1 (30 : Int32))) * (-4658895280553007687 : Int64)) ^^^ (Jvm.Free.XT.ushrL ((q1 ^^^ (Jvm.Free.XT.ushrL q1 (30 : Int32))) * (-4658895280553007687 : Int64)) (27 : Int32))) * (-7723592293110705685 : Int64))), .second] [(.long ((((q1 ^^^ (Jvm.Free.XT.ushrL q1 (30 : Int32))) * (-4658895280553007687 : Int64)) ^^^ (Jvm.Free.XT.ushrL ((q1 ^^^ (Jvm.Free.XT.ushrL q1 (30 : Int32))) * (-4658895280553007687 : Int64)) (27 : Int32))) * (-7723592293110705685 : Int64))), (.long ((((q1 ^^^ (Jvm.Free.XT.ushrL q1 (30 : Int32))) * (-4658895280553007687 : Int64)) ^^^ (Jvm.Free.XT.ushrL ((q1 ^^^ (Jvm.Free.XT.ushrL q1 (30 : Int32))) * (-4658895280553007687 : Int64)) (27 : Int32))) * (-7723592293110705685 : Int64)))])) _
    refine XS.bipush X0.here hx rfl (hb hby d4_24) ?_
    show Steps p.tables e below (s₁.setTop (mkF m 26 #[.val (.long ((((q1 ^^^ (Jvm.Free.XT.ushrL q1 (30 : Int32))) * (-4658895280553007687 : Int64)) ^^^ (Jvm.Free.XT.ushrL ((q1 ^^^ (Jvm.Free.XT.ushrL q1 (30 : Int32))) * (-4658895280553007687 : Int64)) (27 : Int32))) * (-7723592293110705685 : Int64))), .second] [(.int (31 : Int32)), (.long ((((q1 ^^^ (Jvm.Free.XT.ushrL q1 (30 : Int32))) * (-4658895280553007687 : Int64)) ^^^ (Jvm.Free.XT.ushrL ((q1 ^^^ (Jvm.Free.XT.ushrL q1 (30 : Int32))) * (-4658895280553007687 : Int64)) (27 : Int32))) * (-7723592293110705685 : Int64))), (.long ((((q1 ^^^ (Jvm.Free.XT.ushrL q1 (30 : Int32))) * (-4658895280553007687 : Int64)) ^^^ (Jvm.Free.XT.ushrL ((q1 ^^^ (Jvm.Free.XT.ushrL q1 (30 : Int32))) * (-4658895280553007687 : Int64)) (27 : Int32))) * (-7723592293110705685 : Int64)))])) _
    refine XS.lushr X0.here hx rfl (hb hby d4_26) rfl ?_
    show Steps p.tables e below (s₁.setTop (mkF m 27 #[.val (.long ((((q1 ^^^ (Jvm.Free.XT.ushrL q1 (30 : Int32))) * (-4658895280553007687 : Int64)) ^^^ (Jvm.Free.XT.ushrL ((q1 ^^^ (Jvm.Free.XT.ushrL q1 (30 : Int32))) * (-4658895280553007687 : Int64)) (27 : Int32))) * (-7723592293110705685 : Int64))), .second] [(.long (Jvm.Free.XT.ushrL ((((q1 ^^^ (Jvm.Free.XT.ushrL q1 (30 : Int32))) * (-4658895280553007687 : Int64)) ^^^ (Jvm.Free.XT.ushrL ((q1 ^^^ (Jvm.Free.XT.ushrL q1 (30 : Int32))) * (-4658895280553007687 : Int64)) (27 : Int32))) * (-7723592293110705685 : Int64)) (31 : Int32))), (.long ((((q1 ^^^ (Jvm.Free.XT.ushrL q1 (30 : Int32))) * (-4658895280553007687 : Int64)) ^^^ (Jvm.Free.XT.ushrL ((q1 ^^^ (Jvm.Free.XT.ushrL q1 (30 : Int32))) * (-4658895280553007687 : Int64)) (27 : Int32))) * (-7723592293110705685 : Int64)))])) _
    refine XS.lxor X0.here hx rfl (hb hby d4_27) rfl ?_
    show Steps p.tables e below (s₁.setTop (mkF m 28 #[.val (.long ((((q1 ^^^ (Jvm.Free.XT.ushrL q1 (30 : Int32))) * (-4658895280553007687 : Int64)) ^^^ (Jvm.Free.XT.ushrL ((q1 ^^^ (Jvm.Free.XT.ushrL q1 (30 : Int32))) * (-4658895280553007687 : Int64)) (27 : Int32))) * (-7723592293110705685 : Int64))), .second] [(.long (((((q1 ^^^ (Jvm.Free.XT.ushrL q1 (30 : Int32))) * (-4658895280553007687 : Int64)) ^^^ (Jvm.Free.XT.ushrL ((q1 ^^^ (Jvm.Free.XT.ushrL q1 (30 : Int32))) * (-4658895280553007687 : Int64)) (27 : Int32))) * (-7723592293110705685 : Int64)) ^^^ (Jvm.Free.XT.ushrL ((((q1 ^^^ (Jvm.Free.XT.ushrL q1 (30 : Int32))) * (-4658895280553007687 : Int64)) ^^^ (Jvm.Free.XT.ushrL ((q1 ^^^ (Jvm.Free.XT.ushrL q1 (30 : Int32))) * (-4658895280553007687 : Int64)) (27 : Int32))) * (-7723592293110705685 : Int64)) (31 : Int32))))])) _
    exact k
  obtain ⟨fs, hr, hrun, hended, hW, hsame⟩ := X0.leave (v := some (.long (((((q1 ^^^ (Jvm.Free.XT.ushrL q1 (30 : Int32))) * (-4658895280553007687 : Int64)) ^^^ (Jvm.Free.XT.ushrL ((q1 ^^^ (Jvm.Free.XT.ushrL q1 (30 : Int32))) * (-4658895280553007687 : Int64)) (27 : Int32))) * (-7723592293110705685 : Int64)) ^^^ (Jvm.Free.XT.ushrL ((((q1 ^^^ (Jvm.Free.XT.ushrL q1 (30 : Int32))) * (-4658895280553007687 : Int64)) ^^^ (Jvm.Free.XT.ushrL ((q1 ^^^ (Jvm.Free.XT.ushrL q1 (30 : Int32))) * (-4658895280553007687 : Int64)) (27 : Int32))) * (-7723592293110705685 : Int64)) (31 : Int32))))) (fun h => by rw [Bd.returns] at h; cases h)
  refine ⟨_, _, go1 _ ?_, hrun, hended, _, _, rfl, ?_, ⟨_, rfl⟩, hW, hsame.mono (by decide) (by decide)⟩
  · jvm_step X0.here [X0.here.top, hx, (hb hby d4_28), X0.method', Bd.returns, narrow]
    first | (intro acts; rw [hr _ acts rfl rfl rfl]) | rw [hr _ _ rfl rfl rfl]
    exact Steps.refl _
  · show Q1 Z _ _ _ _ s₁.heap _
    rw [e0]
    exact ⟨rfl, N0, rfl⟩
theorem d1_0 : decode prog_76_method_1_code 0 = .ok (.aload_n 0, 1) := by decide +kernel
theorem d1_1 : decode prog_76_method_1_code 1 = .ok (.invokespecial 1, 3) := by decide +kernel
theorem d1_4 : decode prog_76_method_1_code 4 = .ok (.aload_n 0, 1) := by decide +kernel
theorem d1_5 : decode prog_76_method_1_code 5 = .ok (.lload_n 1, 1) := by decide +kernel
theorem d1_6 : decode prog_76_method_1_code 6 = .ok (.putfield 7, 3) := by decide +kernel
theorem d1_9 : decode prog_76_method_1_code 9 = .ok (.return_, 1) := by decide +kernel
theorem ef_rm2 (m : MethodId) (a1 : Addr) (q1 : Int64) : entryFrame m #[(.ref a1), (.long q1)] 3 = mkF m 0 #[.val (.ref a1), .val (.long q1), .second] [] := by first | (simp [entryFrame, mkF, argsToLocals, Value.category]; done) | rfl
def Q2 (Z : State) (a1 : Addr) (q1 : Int64) (u0 : Value) (h0 : Heap) (n0 : Nat) (v : Option Value) (h : Heap) (L : List Loc) : Prop := v = none ∧ Fr n0 L ∧ Keep h0 h [a1] ∧ Exa Z h a1 "com/example/covermesh/covermesh/graph/SeededRandom" ∧ Fld Z h a1 "com/example/covermesh/covermesh/graph/SeededRandom" "state" "J" (.long q1)
set_option maxRecDepth 65536 in
set_option maxHeartbeats 40000000 in
theorem rm2 (l : Launch) (Z : State) (a0 : Array Value) (hw : ∀ d ∈ tables_1, d.before a0 Z = true) (ws : List Jvm.Cond) (a1 : Addr) (q1 : Int64) (u0 : Value) (h0 : Heap) (n0 : Nat) (Z0 : n0 ≤ h0.size) (F1 : Fld Z h0 a1 "com/example/covermesh/covermesh/graph/SeededRandom" "state" "J" u0) (E1 : Exa Z h0 a1 "com/example/covermesh/covermesh/graph/SeededRandom") (g1 : n0 ≤ a1) :
    MetFree l (⟨"com/example/covermesh/covermesh/graph/SeededRandom", "<init>", "(J)V"⟩ : MethodName) (head1 (Jvm.Cond.code (⟨"com/example/covermesh/covermesh/graph/SeededRandom", "<init>", "(J)V"⟩ : MethodName) prog_76_method_1_code 3 none :: ws) ({ frames := 1, cells := 0, slots := 0, locals := 12 } : Room)) (fun a U => a = #[(.ref a1), (.long q1)] ∧ Z.Warmed39 U.vm ∧ U.heap = h0) (fun _ _ _ _ _ => True) (fun _ U o U' => ∃ v L, o = .returned v ∧ Q2 Z a1 q1 u0 h0 n0 v U'.heap L ∧ FrameEnd U o U' L ({ frames := 1, cells := 0, slots := 0, locals := 12 } : Room).cells ({ frames := 1, cells := 0, slots := 0, locals := 12 } : Room).slots) := by
  refine MetFree.of_bodySF (plainFor_of_name pn_0) hisR ?_
  intro p e s m args below meth c s₁ Bd hml0 hP hK
  obtain ⟨rfl, hZ, hh⟩ := hP
  have hx := Bd.exec
  have hby := Bd.bytes
  have hml : c.maxLocals = 3 := hml0
  have hown : s.vm.findClass "com/example/covermesh/covermesh/graph/SeededRandom" = some m.cls := findClass_of_methodNamed Bd.named
  have hnm := (name_of_methodNamed Bd.named Bd.method).1
  have X0 : Stand p l e ({ frames := 1, cells := 0, slots := 0, locals := 12 } : Room) s m #[(.ref a1), (.long q1)] below meth c s₁ [] 0 0 := Stand.of_body Bd
  have e0 : s₁.heap = h0 := by rw [← hh, Bd.state]; rfl
  have N0 := Fr.nil n0
  have K0 := Keep.refl h0 [a1]
  have go0 : Goes p e below s₁ (entryFrame m #[(.ref a1), (.long q1)] 3) s₁ (mkF m 0 #[.val (.ref a1), .val (.long q1), .second] []) := fun t k => castTop (ef_rm2 m a1 q1) k
  have go1 : Goes p e below s₁ (entryFrame m #[(.ref a1), (.long q1)] 3) s₁ (mkF m 1 #[.val (.ref a1), .val (.long q1), .second] [(.ref a1)]) := fun t k => by
    refine go0 t ?_
    refine XS.aloadN X0.here hx rfl (hb hby d1_0) rfl rfl ?_
    show Steps p.tables e below (s₁.setTop (mkF m 1 #[.val (.ref a1), .val (.long q1), .second] [(.ref a1)])) _
    exact k
  obtain ⟨T2, X2, e2, st2⟩ := initO X0 hx hZ hown (hw _ (List.mem_of_getElem? (i := 6) rfl)) (hw _ (List.mem_of_getElem? (i := 7) rfl)) (hw _ (List.mem_of_getElem? (i := 8) rfl)) e0 (g := (mkF m 1 #[.val (.ref a1), .val (.long q1), .second] [(.ref a1)])) rfl (by rw [hml]; rfl) rfl (hb hby d1_1) (by decide) (W := 0) (by show 2 * 0 + _ ≤ _; exact Nat.le_of_eq rfl) (by decide)
  have go3 : Goes p e below s₁ (entryFrame m #[(.ref a1), (.long q1)] 3) T2 (mkF m 4 #[.val (.ref a1), .val (.long q1), .second] []) := fun t k => go1 t (st2 t k)
  have go4 : Goes p e below s₁ (entryFrame m #[(.ref a1), (.long q1)] 3) T2 (mkF m 6 #[.val (.ref a1), .val (.long q1), .second] [(.long q1), (.ref a1)]) := fun t k => by
    refine go3 t ?_
    refine XS.aloadN X2.here hx rfl (hb hby d1_4) rfl rfl ?_
    show Steps p.tables e below (T2.setTop (mkF m 5 #[.val (.ref a1), .val (.long q1), .second] [(.ref a1)])) _
    refine XS.lloadN X2.here hx rfl (hb hby d1_5) rfl ?_
    show Steps p.tables e below (T2.setTop (mkF m 6 #[.val (.ref a1), .val (.long q1), .second] [(.long q1), (.ref a1)])) _
    exact k
  obtain ⟨T5, h5, X5, e5, W5, st5⟩ := putF X2 hx hZ hown (host := "") (Or.inl (hw _ (List.mem_of_getElem? (i := 9) rfl))) Via.refl e2 F1 E1 (Or.inl (hw _ (List.mem_of_getElem? (i := 10) rfl))) (hw _ (List.mem_of_getElem? (i := 1) rfl)) (ty := .long) (by decide) rfl rfl (g := (mkF m 6 #[.val (.ref a1), .val (.long q1), .second] [(.long q1), (.ref a1)])) rfl rfl (hb hby d1_6)
  have f6 := F1.same W5
  have f7 := E1.wr W5
  have Z8 := Nat.le_trans Z0 (Nat.le_of_eq W5.size.symm)
  have K9 := K0.wr W5 (Or.inl (List.mem_of_getElem? (i := 0) rfl))
  have N10 := Fr.snoc X5 N0 g1
  have go11 : Goes p e below s₁ (entryFrame m #[(.ref a1), (.long q1)] 3) T5 (mkF m 9 #[.val (.ref a1), .val (.long q1), .second] []) := fun t k => go4 t (st5 t k)
  obtain ⟨fs, hr, hrun, hended, hW, hsame⟩ := X5.leave (v := none) (fun _ => rfl)
  refine ⟨_, _, go11 _ ?_, hrun, hended, _, _, rfl, ?_, ⟨_, rfl⟩, hW, hsame.mono (by decide) (by decide)⟩
  · exact X5.returnOut hx Bd.returns (hb hby d1_9) hr
  · show Q2 Z _ _ _ _ _ _ T5.heap _
    rw [e5]
    exact ⟨rfl, N10, K9, f7, f6⟩
theorem pd_0 : parseMethodDescriptor "(J)J" = some ⟨[.long], some .long⟩ := by decide +kernel
theorem d3_0 : decode prog_76_method_3_code 0 = .ok (.aload_n 0, 1) := by decide +kernel
theorem d3_1 : decode prog_76_method_3_code 1 = .ok (.dup, 1) := by decide +kernel
theorem d3_2 : decode prog_76_method_3_code 2 = .ok (.getfield 7, 3) := by decide +kernel
theorem d3_5 : decode prog_76_method_3_code 5 = .ok (.ldc2_w 17, 3) := by decide +kernel
theorem d3_8 : decode prog_76_method_3_code 8 = .ok (.ladd, 1) := by decide +kernel
theorem d3_9 : decode prog_76_method_3_code 9 = .ok (.putfield 7, 3) := by decide +kernel
theorem d3_12 : decode prog_76_method_3_code 12 = .ok (.aload_n 0, 1) := by decide +kernel
theorem d3_13 : decode prog_76_method_3_code 13 = .ok (.getfield 7, 3) := by decide +kernel
theorem d3_16 : decode prog_76_method_3_code 16 = .ok (.invokestatic 13, 3) := by decide +kernel
theorem d3_19 : decode prog_76_method_3_code 19 = .ok (.lreturn, 1) := by decide +kernel
theorem ef_rm3 (m : MethodId) (a1 : Addr) : entryFrame m #[(.ref a1)] 1 = mkF m 0 #[.val (.ref a1)] [] := by first | (simp [entryFrame, mkF, argsToLocals, Value.category]; done) | rfl
def Q3 (Z : State) (a1 : Addr) (z : Int64) (h0 : Heap) (n0 : Nat) (v : Option Value) (h : Heap) (L : List Loc) : Prop := v = some (.long (own_mix (z + (-7046029254386353131 : Int64)))) ∧ Fr n0 L ∧ Keep h0 h [a1] ∧ Exa Z h a1 "com/example/covermesh/covermesh/graph/SeededRandom" ∧ Fld Z h a1 "com/example/covermesh/covermesh/graph/SeededRandom" "state" "J" (.long (z + (-7046029254386353131 : Int64)))
set_option maxRecDepth 65536 in
set_option maxHeartbeats 40000000 in
theorem rm3 (l : Launch) (Z : State) (a0 : Array Value) (hw : ∀ d ∈ tables_1, d.before a0 Z = true) (ws : List Jvm.Cond) (a1 : Addr) (z : Int64) (h0 : Heap) (n0 : Nat) (Z0 : n0 ≤ h0.size) (F1 : Fld Z h0 a1 "com/example/covermesh/covermesh/graph/SeededRandom" "state" "J" (.long z)) (E1 : Exa Z h0 a1 "com/example/covermesh/covermesh/graph/SeededRandom") (g1 : n0 ≤ a1) :
    MetFree l (⟨"com/example/covermesh/covermesh/graph/SeededRandom", "nextLong", "()J"⟩ : MethodName) (head1 (Jvm.Cond.code (⟨"com/example/covermesh/covermesh/graph/SeededRandom", "nextLong", "()J"⟩ : MethodName) prog_76_method_3_code 1 (some .long) :: ws) ({ frames := 1, cells := 0, slots := 0, locals := 13 } : Room)) (fun a U => a = #[(.ref a1)] ∧ Z.Warmed39 U.vm ∧ U.heap = h0) (fun _ _ _ _ _ => True) (fun _ U o U' => ∃ v L, o = .returned v ∧ Q3 Z a1 z h0 n0 v U'.heap L ∧ FrameEnd U o U' L ({ frames := 1, cells := 0, slots := 0, locals := 13 } : Room).cells ({ frames := 1, cells := 0, slots := 0, locals := 13 } : Room).slots) := by
  refine MetFree.of_bodySF (plainFor_of_name pn_0) hisR ?_
  intro p e s m args below meth c s₁ Bd hml0 hP hK
  obtain ⟨rfl, hZ, hh⟩ := hP
  have hx := Bd.exec
  have hby := Bd.bytes
  have hml : c.maxLocals = 1 := hml0
  have hown : s.vm.findClass "com/example/covermesh/covermesh/graph/SeededRandom" = some m.cls := findClass_of_methodNamed Bd.named
  have hnm := (name_of_methodNamed Bd.named Bd.method).1
  have X0 : Stand p l e ({ frames := 1, cells := 0, slots := 0, locals := 13 } : Room) s m #[(.ref a1)] below meth c s₁ [] 0 0 := Stand.of_body Bd
  have e0 : s₁.heap = h0 := by rw [← hh, Bd.state]; rfl
  have N0 := Fr.nil n0
  have K0 := Keep.refl h0 [a1]
  have go0 : Goes p e below s₁ (entryFrame m #[(.ref a1)] 1) s₁ (mkF m 0 #[.val (.ref a1)] []) := fun t k => castTop (ef_rm3 m a1) k
  have go1 : Goes p e below s₁ (entryFrame m #[(.ref a1)] 1) s₁ (mkF m 2 #[.val (.ref a1)] [(.ref a1), (.ref a1)]) := fun t k => by
    refine go0 t ?_
    refine XS.aloadN X0.here hx rfl (hb hby d3_0) rfl rfl ?_
    show Steps p.tables e below (s₁.setTop (mkF m 1 #[.val (.ref a1)] [(.ref a1)])) _
    refine XS.dup X0.here hx rfl (hb hby d3_1) rfl rfl ?_
    show Steps p.tables e below (s₁.setTop (mkF m 2 #[.val (.ref a1)] [(.ref a1), (.ref a1)])) _
    exact k
  obtain ⟨T2, X2, e2, st2⟩ := getF X0 hx hZ hown (host := "") (Or.inl (hw _ (List.mem_of_getElem? (i := 9) rfl))) Via.refl e0 F1 (g := (mkF m 2 #[.val (.ref a1)] [(.ref a1), (.ref a1)])) rfl rfl (hb hby d3_2)
  have go3 : Goes p e below s₁ (entryFrame m #[(.ref a1)] 1) T2 (mkF m 5 #[.val (.ref a1)] [(.long z), (.ref a1)]) := fun t k => go1 t (st2 t k)
  have go4 : Goes p e below s₁ (entryFrame m #[(.ref a1)] 1) T2 (mkF m 9 #[.val (.ref a1)] [(.long (z + (-7046029254386353131 : Int64))), (.ref a1)]) := fun t k => by
    refine go3 t ?_
    refine X2.ldc2Long hx hown (mvT hZ (hw _ (List.mem_of_getElem? (i := 16) rfl))) (g := (mkF m 5 #[.val (.ref a1)] [(.long z), (.ref a1)])) rfl (hb hby d3_5) _ ?_
    show Steps p.tables e below (T2.setTop (mkF m 8 #[.val (.ref a1)] [(.long (-7046029254386353131 : Int64)), (.long z), (.ref a1)])) _
    refine XS.ladd X2.here hx rfl (hb hby d3_8) rfl ?_
    show Steps p.tables e below (T2.setTop (mkF m 9 #[.val (.ref a1)] [(.long (z + (-7046029254386353131 : Int64))), (.ref a1)])) _
    exact k
  obtain ⟨T5, h5, X5, e5, W5, st5⟩ := putF X2 hx hZ hown (host := "") (Or.inl (hw _ (List.mem_of_getElem? (i := 9) rfl))) Via.refl e2 F1 E1 (Or.inl (hw _ (List.mem_of_getElem? (i := 10) rfl))) (hw _ (List.mem_of_getElem? (i := 1) rfl)) (ty := .long) (by decide) rfl rfl (g := (mkF m 9 #[.val (.ref a1)] [(.long (z + (-7046029254386353131 : Int64))), (.ref a1)])) rfl rfl (hb hby d3_9)
  have f6 := F1.same W5
  have f7 := E1.wr W5
  have Z8 := Nat.le_trans Z0 (Nat.le_of_eq W5.size.symm)
  have K9 := K0.wr W5 (Or.inl (List.mem_of_getElem? (i := 0) rfl))
  have N10 := Fr.snoc X5 N0 g1
  have go11 : Goes p e below s₁ (entryFrame m #[(.ref a1)] 1) T5 (mkF m 12 #[.val (.ref a1)] []) := fun t k => go4 t (st5 t k)
  have go12 : Goes p e below s₁ (entryFrame m #[(.ref a1)] 1) T5 (mkF m 13 #[.val (.ref a1)] [(.ref a1)]) := fun t k => by
    refine go11 t ?_
    refine XS.aloadN X5.here hx rfl (hb hby d3_12) rfl rfl ?_
    show Steps p.tables e below (T5.setTop (mkF m 13 #[.val (.ref a1)] [(.ref a1)])) _
    exact k
  obtain ⟨T13, X13, e13, st13⟩ := getF X5 hx hZ hown (host := "") (Or.inl (hw _ (List.mem_of_getElem? (i := 9) rfl))) Via.refl e5 f6 (g := (mkF m 13 #[.val (.ref a1)] [(.ref a1)])) rfl rfl (hb hby d3_13)
  have go14 : Goes p e below s₁ (entryFrame m #[(.ref a1)] 1) T13 (mkF m 16 #[.val (.ref a1)] [(.long (z + (-7046029254386353131 : Int64)))]) := fun t k => go12 t (st13 t k)
  obtain ⟨_, _, ⟨T15, L15, k15, n15⟩, -, X15, ⟨Lc15, hQ15, l15, y15, z15⟩, st15⟩ := Jvm.LawKit.callS X13 hx (y := (⟨"com/example/covermesh/covermesh/graph/SeededRandom", "mix", "(J)J"⟩ : MethodName)) hown (mvT hZ (hw _ (List.mem_of_getElem? (i := 17) rfl))) (mvT hZ (hw _ (List.mem_of_getElem? (i := 18) rfl))) (mvT hZ (hw _ (List.mem_of_getElem? (i := 2) rfl))) (mvT hZ (hw _ (List.mem_of_getElem? (i := 19) rfl))) (by decide) (backOf (W := 0) (rm1 l Z a0 hw [] (z + (-7046029254386353131 : Int64)) h5 n0 Z8) hZ (hw _ (List.mem_of_getElem? (i := 19) rfl)) (hw _ (List.mem_of_getElem? (i := 2) rfl)) (by decide) (by decide)) (g := (mkF m 16 #[.val (.ref a1)] [(.long (z + (-7046029254386353131 : Int64)))])) rfl (by rw [hml]; rfl) (argsL := [(.long (z + (-7046029254386353131 : Int64)))]) (rest := []) (lenOf pd_0 rfl) rfl (by show 2 * 0 + _ ≤ _; exact Nat.le_of_eq rfl) (hb hby d3_16) (fun _ _ => ⟨rfl, e13, (by decide : 0 + 0 ≤ ({ frames := 1, cells := 0, slots := 0, locals := 13 } : Room).cells), (by decide : 0 + 0 ≤ ({ frames := 1, cells := 0, slots := 0, locals := 13 } : Room).slots)⟩)
  dsimp only [Pt.U, Pt.locs, Pt.cells, Pt.slots] at X15 l15 y15 z15 st15 hQ15
  subst l15 y15 z15
  obtain ⟨rfl, N15q, e15⟩ := hQ15
  have N15 := Fr.app N10 N15q
  have go16 : Goes p e below s₁ (entryFrame m #[(.ref a1)] 1) T15 (mkF m 19 #[.val (.ref a1)] [(.long (own_mix (z + (-7046029254386353131 : Int64))))]) := fun t k => go14 t (st15 t k)
  obtain ⟨fs, hr, hrun, hended, hW, hsame⟩ := X15.leave (v := some (.long (own_mix (z + (-7046029254386353131 : Int64))))) (fun h => by rw [Bd.returns] at h; cases h)
  refine ⟨_, _, go16 _ ?_, hrun, hended, _, _, rfl, ?_, ⟨_, rfl⟩, hW, hsame.mono (by decide) (by decide)⟩
  · jvm_step X15.here [X15.here.top, hx, (hb hby d3_19), X15.method', Bd.returns, narrow]
    first | (intro acts; rw [hr _ acts rfl rfl rfl]) | rw [hr _ _ rfl rfl rfl]
    exact Steps.refl _
  · show Q3 Z _ _ _ _ _ T15.heap _
    rw [e15]
    exact ⟨rfl, N15, K9, f7, f6⟩
theorem pd_1 : parseMethodDescriptor "(J)V" = some ⟨[.long], none⟩ := by decide +kernel
theorem pd_2 : parseMethodDescriptor "()J" = some ⟨[], some .long⟩ := by decide +kernel
theorem pn_1 : plainName "com/example/covermesh/covermesh/graph/SeededRandomNextLongPinLaw" = true := by first | (simp [plainName, overriddenIn]; done) | decide +kernel
theorem ef_rm0 (m : MethodId) (q1 : Int64) (q2 : Int64) : entryFrame m #[(.long q1), (.long q2)] maxLocals = mkF m 0 #[.val (.long q1), .second, .val (.long q2), .second, .unset, .unset, .unset, .unset, .unset, .unset, .unset, .unset, .unset, .unset, .unset, .unset, .unset, .unset, .unset] [] := by first | (simp [entryFrame, mkF, argsToLocals, Value.category, maxLocals]; done) | rfl
def Q0 (Z : State) (q1 : Int64) (q2 : Int64) (h0 : Heap) (n0 : Nat) (v : Option Value) (h : Heap) (L : List Loc) : Prop := v = some (.int 1) ∧ Fr n0 L
set_option maxRecDepth 65536 in
set_option maxHeartbeats 40000000 in
theorem rm0 (l : Launch) (Z : State) (a0 : Array Value) (hw : ∀ d ∈ tables_1, d.before a0 Z = true) (ws : List Jvm.Cond) (q1 : Int64) (q2 : Int64) (h0 : Heap) (n0 : Nat) (Z0 : n0 ≤ h0.size) :
    MetFree l x (head1 (Jvm.Cond.code x code maxLocals ret :: ws) room_1) (fun a U => a = #[(.long q1), (.long q2)] ∧ Z.Warmed39 U.vm ∧ U.heap = h0) (fun _ _ _ _ _ => True) (fun _ U o U' => ∃ v L, o = .returned v ∧ Q0 Z q1 q2 h0 n0 v U'.heap L ∧ FrameEnd U o U' L room_1.cells room_1.slots) := by
  refine MetFree.of_bodySF (plainFor_of_name pn_1) hisR ?_
  intro p e s m args below meth c s₁ Bd hml0 hP hK
  obtain ⟨rfl, hZ, hh⟩ := hP
  have hx := Bd.exec
  have hby := Bd.bytes
  have hml : c.maxLocals = 19 := hml0
  have hown : s.vm.findClass "com/example/covermesh/covermesh/graph/SeededRandomNextLongPinLaw" = some m.cls := findClass_of_methodNamed Bd.named
  have hnm := (name_of_methodNamed Bd.named Bd.method).1
  have X0 : Stand p l e room_1 s m #[(.long q1), (.long q2)] below meth c s₁ [] 0 0 := Stand.of_body Bd
  have e0 : s₁.heap = h0 := by rw [← hh, Bd.state]; rfl
  have N0 := Fr.nil n0
  have K0 := Keep.refl h0 []
  have go0 : Goes p e below s₁ (entryFrame m #[(.long q1), (.long q2)] maxLocals) s₁ (mkF m 0 #[.val (.long q1), .second, .val (.long q2), .second, .unset, .unset, .unset, .unset, .unset, .unset, .unset, .unset, .unset, .unset, .unset, .unset, .unset, .unset, .unset] []) := fun t k => castTop (ef_rm0 m q1 q2) k
  obtain ⟨T1, h1, X1, e1, E1, A1, D1, -, st1⟩ := newO X0 hx hZ hown (hw _ (List.mem_of_getElem? (i := 0) rfl)) (hw _ (List.mem_of_getElem? (i := 1) rfl)) (hw _ (List.mem_of_getElem? (i := 2) rfl)) e0 (g := (mkF m 0 #[.val (.long q1), .second, .val (.long q2), .second, .unset, .unset, .unset, .unset, .unset, .unset, .unset, .unset, .unset, .unset, .unset, .unset, .unset, .unset, .unset] [])) rfl (hb hby at_0) (by decide) (by decide)
  obtain ⟨b1, g_b_b1⟩ : ∃ z, z = h0.size := ⟨_, rfl⟩
  have le_b1 : h0.size ≤ b1 := Nat.le_of_eq g_b_b1.symm
  have gn_b1 : n0 ≤ b1 := Nat.le_trans Z0 le_b1
  have sz_b1 : h0.size ≤ b1 := Nat.le_trans K0.1 le_b1
  rw [← g_b_b1] at A1 D1 st1
  have Z2 := Nat.le_trans Z0 E1.1
  have K3 := K0.ext E1
  have f4 : Fld Z h1 b1 "com/example/covermesh/covermesh/graph/SeededRandom" "state" "J" (.long (0 : Int64)) := D1 (Or.inl (hw _ (List.mem_of_getElem? (i := 10) rfl))) (ty := .long) (by decide)
  have go5 : Goes p e below s₁ (entryFrame m #[(.long q1), (.long q2)] maxLocals) T1 (mkF m 3 #[.val (.long q1), .second, .val (.long q2), .second, .unset, .unset, .unset, .unset, .unset, .unset, .unset, .unset, .unset, .unset, .unset, .unset, .unset, .unset, .unset] [(.ref b1)]) := fun t k => go0 t (st1 t k)
  have go6 : Goes p e below s₁ (entryFrame m #[(.long q1), (.long q2)] maxLocals) T1 (mkF m 5 #[.val (.long q1), .second, .val (.long q2), .second, .unset, .unset, .unset, .unset, .unset, .unset, .unset, .unset, .unset, .unset, .unset, .unset, .unset, .unset, .unset] [(.long q1), (.ref b1), (.ref b1)]) := fun t k => by
    refine go5 t ?_
    refine XS.dup X1.here hx rfl (hb hby at_3) rfl rfl ?_
    show Steps p.tables e below (T1.setTop (mkF m 4 #[.val (.long q1), .second, .val (.long q2), .second, .unset, .unset, .unset, .unset, .unset, .unset, .unset, .unset, .unset, .unset, .unset, .unset, .unset, .unset, .unset] [(.ref b1), (.ref b1)])) _
    refine XS.lloadN X1.here hx rfl (hb hby at_4) rfl ?_
    show Steps p.tables e below (T1.setTop (mkF m 5 #[.val (.long q1), .second, .val (.long q2), .second, .unset, .unset, .unset, .unset, .unset, .unset, .unset, .unset, .unset, .unset, .unset, .unset, .unset, .unset, .unset] [(.long q1), (.ref b1), (.ref b1)])) _
    exact k
  obtain ⟨_, _, ⟨T7, L7, k7, n7⟩, -, X7, ⟨Lc7, hQ7, l7, y7, z7⟩, st7⟩ := X1.specialBack hx (y := (⟨"com/example/covermesh/covermesh/graph/SeededRandom", "<init>", "(J)V"⟩ : MethodName)) rfl hown (mvT hZ (hw _ (List.mem_of_getElem? (i := 3) rfl))) (mvT hZ (hw _ (List.mem_of_getElem? (i := 4) rfl))) (mvT hZ (hw _ (List.mem_of_getElem? (i := 5) rfl))) (by decide) (backOf (W := 1) (rm2 l Z a0 hw [] b1 q1 (.long (0 : Int64)) h1 n0 Z2 f4 A1 gn_b1) hZ (hw _ (List.mem_of_getElem? (i := 5) rfl)) (hw _ (List.mem_of_getElem? (i := 2) rfl)) (by decide) (by decide)) (g := (mkF m 5 #[.val (.long q1), .second, .val (.long q2), .second, .unset, .unset, .unset, .unset, .unset, .unset, .unset, .unset, .unset, .unset, .unset, .unset, .unset, .unset, .unset] [(.long q1), (.ref b1), (.ref b1)])) rfl (by rw [hml]; rfl) (Steps.refl _) (a := b1) (argsL := [(.long q1)]) (rest := [(.ref b1)]) (lenOf pd_1 rfl) rfl (by show 2 * 0 + _ ≤ _; exact Nat.le_of_eq rfl) (hb hby at_5) (fun _ _ => ⟨rfl, e1, (by decide : 1 + 0 ≤ room_1.cells), (by decide : 1 + 0 ≤ room_1.slots)⟩)
  dsimp only [Pt.U, Pt.locs, Pt.cells, Pt.slots] at X7 l7 y7 z7 st7 hQ7
  subst l7 y7 z7
  obtain ⟨rfl, N7q, Kq7, Eq7, Fq7⟩ := hQ7
  have N7 := Fr.app N0 N7q
  have f8 := A1.keep Kq7
  have Z9 := Nat.le_trans Z2 Kq7.1
  have K10 := K3.trans Kq7 (allS (Or.inr sz_b1) all0)
  have go11 : Goes p e below s₁ (entryFrame m #[(.long q1), (.long q2)] maxLocals) T7 (mkF m 8 #[.val (.long q1), .second, .val (.long q2), .second, .unset, .unset, .unset, .unset, .unset, .unset, .unset, .unset, .unset, .unset, .unset, .unset, .unset, .unset, .unset] [(.ref b1)]) := fun t k => go6 t (st7.trans k)
  have go12 : Goes p e below s₁ (entryFrame m #[(.long q1), (.long q2)] maxLocals) T7 (mkF m 12 #[.val (.long q1), .second, .val (.long q2), .second, .val (.ref b1), .unset, .unset, .unset, .unset, .unset, .unset, .unset, .unset, .unset, .unset, .unset, .unset, .unset, .unset] [(.ref b1)]) := fun t k => by
    refine go11 t ?_
    refine XS.astore X7.here hx rfl (hb hby at_8) rfl rfl (l' := #[.val (.long q1), .second, .val (.long q2), .second, .val (.ref b1), .unset, .unset, .unset, .unset, .unset, .unset, .unset, .unset, .unset, .unset, .unset, .unset, .unset, .unset]) rfl ?_
    show Steps p.tables e below (T7.setTop (mkF m 10 #[.val (.long q1), .second, .val (.long q2), .second, .val (.ref b1), .unset, .unset, .unset, .unset, .unset, .unset, .unset, .unset, .unset, .unset, .unset, .unset, .unset, .unset] [])) _
    refine XS.aload X7.here hx rfl (hb hby at_10) rfl rfl ?_
    show Steps p.tables e below (T7.setTop (mkF m 12 #[.val (.long q1), .second, .val (.long q2), .second, .val (.ref b1), .unset, .unset, .unset, .unset, .unset, .unset, .unset, .unset, .unset, .unset, .unset, .unset, .unset, .unset] [(.ref b1)])) _
    exact k
  obtain ⟨cq13, kq13, q13a, q13b, q13c⟩ := isOf hZ rfl f8
  obtain ⟨_, _, ⟨T13, L13, k13, n13⟩, -, X13, ⟨Lc13, hQ13, l13, y13, z13⟩, st13⟩ := X7.virtualBack hx (y := (⟨"com/example/covermesh/covermesh/graph/SeededRandom", "nextLong", "()J"⟩ : MethodName)) (z := (⟨"com/example/covermesh/covermesh/graph/SeededRandom", "nextLong", "()J"⟩ : MethodName)) hown (mvT hZ (hw _ (List.mem_of_getElem? (i := 11) rfl))) (mvT hZ (hw _ (List.mem_of_getElem? (i := 12) rfl))) (notFace_of_selects (args := #[]) (mvT hZ (hw _ (List.mem_of_getElem? (i := 14) rfl)))) (mvT hZ (hw _ (List.mem_of_getElem? (i := 14) rfl))) (mvT hZ (hw _ (List.mem_of_getElem? (i := 13) rfl))) (by decide) (backOf (W := 0) (rm3 l Z a0 hw [] b1 q1 T7.heap n0 Z9 Fq7 f8 gn_b1) hZ (hw _ (List.mem_of_getElem? (i := 15) rfl)) (hw _ (List.mem_of_getElem? (i := 2) rfl)) (by decide) (by decide)) q13a q13c (g := (mkF m 12 #[.val (.long q1), .second, .val (.long q2), .second, .val (.ref b1), .unset, .unset, .unset, .unset, .unset, .unset, .unset, .unset, .unset, .unset, .unset, .unset, .unset, .unset] [(.ref b1)])) rfl (by rw [hml]; rfl) (Steps.refl _) (argsL := []) (rest := []) (lenOf pd_2 rfl) rfl (by show 2 * 0 + _ ≤ _; exact Nat.le_of_eq rfl) (hb hby at_12) (fun _ _ => ⟨rfl, rfl, (by decide : 1 + 0 ≤ room_1.cells), (by decide : 1 + 0 ≤ room_1.slots)⟩)
  dsimp only [Pt.U, Pt.locs, Pt.cells, Pt.slots] at X13 l13 y13 z13 st13 hQ13
  subst l13 y13 z13
  obtain ⟨rfl, N13q, Kq13, Eq13, Fq13⟩ := hQ13
  have N13 := Fr.app N7 N13q
  have f14 := f8.keep Kq13
  have Z15 := Nat.le_trans Z9 Kq13.1
  have K16 := K10.trans Kq13 (allS (Or.inr sz_b1) all0)
  have go17 : Goes p e below s₁ (entryFrame m #[(.long q1), (.long q2)] maxLocals) T13 (mkF m 15 #[.val (.long q1), .second, .val (.long q2), .second, .val (.ref b1), .unset, .unset, .unset, .unset, .unset, .unset, .unset, .unset, .unset, .unset, .unset, .unset, .unset, .unset] [(.long (own_mix (q1 + (-7046029254386353131 : Int64))))]) := fun t k => go12 t (st13.trans k)
  have go18 : Goes p e below s₁ (entryFrame m #[(.long q1), (.long q2)] maxLocals) T13 (mkF m 19 #[.val (.long q1), .second, .val (.long q2), .second, .val (.ref b1), .val (.long (own_mix (q1 + (-7046029254386353131 : Int64)))), .second, .unset, .unset, .unset, .unset, .unset, .unset, .unset, .unset, .unset, .unset, .unset, .unset] [(.ref b1)]) := fun t k => by
    refine go17 t ?_
    refine XS.lstore X13.here hx rfl (hb hby at_15) rfl (l' := #[.val (.long q1), .second, .val (.long q2), .second, .val (.ref b1), .val (.long (own_mix (q1 + (-7046029254386353131 : Int64)))), .second, .unset, .unset, .unset, .unset, .unset, .unset, .unset, .unset, .unset, .unset, .unset, .unset]) rfl ?_
    show Steps p.tables e below (T13.setTop (mkF m 17 #[.val (.long q1), .second, .val (.long q2), .second, .val (.ref b1), .val (.long (own_mix (q1 + (-7046029254386353131 : Int64)))), .second, .unset, .unset, .unset, .unset, .unset, .unset, .unset, .unset, .unset, .unset, .unset, .unset] [])) _
    refine XS.aload X13.here hx rfl (hb hby at_17) rfl rfl ?_
    show Steps p.tables e below (T13.setTop (mkF m 19 #[.val (.long q1), .second, .val (.long q2), .second, .val (.ref b1), .val (.long (own_mix (q1 + (-7046029254386353131 : Int64)))), .second, .unset, .unset, .unset, .unset, .unset, .unset, .unset, .unset, .unset, .unset, .unset, .unset] [(.ref b1)])) _
    exact k
  obtain ⟨cq19, kq19, q19a, q19b, q19c⟩ := isOf hZ rfl f14
  obtain ⟨_, _, ⟨T19, L19, k19, n19⟩, -, X19, ⟨Lc19, hQ19, l19, y19, z19⟩, st19⟩ := X13.virtualBack hx (y := (⟨"com/example/covermesh/covermesh/graph/SeededRandom", "nextLong", "()J"⟩ : MethodName)) (z := (⟨"com/example/covermesh/covermesh/graph/SeededRandom", "nextLong", "()J"⟩ : MethodName)) hown (mvT hZ (hw _ (List.mem_of_getElem? (i := 11) rfl))) (mvT hZ (hw _ (List.mem_of_getElem? (i := 12) rfl))) (notFace_of_selects (args := #[]) (mvT hZ (hw _ (List.mem_of_getElem? (i := 14) rfl)))) (mvT hZ (hw _ (List.mem_of_getElem? (i := 14) rfl))) (mvT hZ (hw _ (List.mem_of_getElem? (i := 13) rfl))) (by decide) (backOf (W := 0) (rm3 l Z a0 hw [] b1 (q1 + (-7046029254386353131 : Int64)) T13.heap n0 Z15 Fq13 f14 gn_b1) hZ (hw _ (List.mem_of_getElem? (i := 15) rfl)) (hw _ (List.mem_of_getElem? (i := 2) rfl)) (by decide) (by decide)) q19a q19c (g := (mkF m 19 #[.val (.long q1), .second, .val (.long q2), .second, .val (.ref b1), .val (.long (own_mix (q1 + (-7046029254386353131 : Int64)))), .second, .unset, .unset, .unset, .unset, .unset, .unset, .unset, .unset, .unset, .unset, .unset, .unset] [(.ref b1)])) rfl (by rw [hml]; rfl) (Steps.refl _) (argsL := []) (rest := []) (lenOf pd_2 rfl) rfl (by show 2 * 0 + _ ≤ _; exact Nat.le_of_eq rfl) (hb hby at_19) (fun _ _ => ⟨rfl, rfl, (by decide : 1 + 0 ≤ room_1.cells), (by decide : 1 + 0 ≤ room_1.slots)⟩)
  dsimp only [Pt.U, Pt.locs, Pt.cells, Pt.slots] at X19 l19 y19 z19 st19 hQ19
  subst l19 y19 z19
  obtain ⟨rfl, N19q, Kq19, Eq19, Fq19⟩ := hQ19
  have N19 := Fr.app N13 N19q
  have f20 := f14.keep Kq19
  have Z21 := Nat.le_trans Z15 Kq19.1
  have K22 := K16.trans Kq19 (allS (Or.inr sz_b1) all0)
  have go23 : Goes p e below s₁ (entryFrame m #[(.long q1), (.long q2)] maxLocals) T19 (mkF m 22 #[.val (.long q1), .second, .val (.long q2), .second, .val (.ref b1), .val (.long (own_mix (q1 + (-7046029254386353131 : Int64)))), .second, .unset, .unset, .unset, .unset, .unset, .unset, .unset, .unset, .unset, .unset, .unset, .unset] [(.long (own_mix ((q1 + (-7046029254386353131 : Int64)) + (-7046029254386353131 : Int64))))]) := fun t k => go18 t (st19.trans k)
  have go24 : Goes p e below s₁ (entryFrame m #[(.long q1), (.long q2)] maxLocals) T19 (mkF m 24 #[.val (.long q1), .second, .val (.long q2), .second, .val (.ref b1), .val (.long (own_mix (q1 + (-7046029254386353131 : Int64)))), .second, .val (.long (own_mix ((q1 + (-7046029254386353131 : Int64)) + (-7046029254386353131 : Int64)))), .second, .unset, .unset, .unset, .unset, .unset, .unset, .unset, .unset, .unset, .unset] []) := fun t k => by
    refine go23 t ?_
    refine XS.lstore X19.here hx rfl (hb hby at_22) rfl (l' := #[.val (.long q1), .second, .val (.long q2), .second, .val (.ref b1), .val (.long (own_mix (q1 + (-7046029254386353131 : Int64)))), .second, .val (.long (own_mix ((q1 + (-7046029254386353131 : Int64)) + (-7046029254386353131 : Int64)))), .second, .unset, .unset, .unset, .unset, .unset, .unset, .unset, .unset, .unset, .unset]) rfl ?_
    show Steps p.tables e below (T19.setTop (mkF m 24 #[.val (.long q1), .second, .val (.long q2), .second, .val (.ref b1), .val (.long (own_mix (q1 + (-7046029254386353131 : Int64)))), .second, .val (.long (own_mix ((q1 + (-7046029254386353131 : Int64)) + (-7046029254386353131 : Int64)))), .second, .unset, .unset, .unset, .unset, .unset, .unset, .unset, .unset, .unset, .unset] [])) _
    exact k
  obtain ⟨T25, h25, X25, e25, E25, A25, D25, -, st25⟩ := newO X19 hx hZ hown (hw _ (List.mem_of_getElem? (i := 0) rfl)) (hw _ (List.mem_of_getElem? (i := 1) rfl)) (hw _ (List.mem_of_getElem? (i := 2) rfl)) rfl (g := (mkF m 24 #[.val (.long q1), .second, .val (.long q2), .second, .val (.ref b1), .val (.long (own_mix (q1 + (-7046029254386353131 : Int64)))), .second, .val (.long (own_mix ((q1 + (-7046029254386353131 : Int64)) + (-7046029254386353131 : Int64)))), .second, .unset, .unset, .unset, .unset, .unset, .unset, .unset, .unset, .unset, .unset] [])) rfl (hb hby at_24) (by decide) (by decide)
  obtain ⟨b25, g_b_b25⟩ : ∃ z, z = T19.heap.size := ⟨_, rfl⟩
  have le_b25 : T19.heap.size ≤ b25 := Nat.le_of_eq g_b_b25.symm
  have gn_b25 : n0 ≤ b25 := Nat.le_trans Z21 le_b25
  have sz_b25 : h0.size ≤ b25 := Nat.le_trans K22.1 le_b25
  rw [← g_b_b25] at A25 D25 st25
  have f26 := f20.ext E25
  have f27 := Fq19.ext E25
  have Z28 := Nat.le_trans Z21 E25.1
  have K29 := K22.ext E25
  have f30 : Fld Z h25 b25 "com/example/covermesh/covermesh/graph/SeededRandom" "state" "J" (.long (0 : Int64)) := D25 (Or.inl (hw _ (List.mem_of_getElem? (i := 10) rfl))) (ty := .long) (by decide)
  have go31 : Goes p e below s₁ (entryFrame m #[(.long q1), (.long q2)] maxLocals) T25 (mkF m 27 #[.val (.long q1), .second, .val (.long q2), .second, .val (.ref b1), .val (.long (own_mix (q1 + (-7046029254386353131 : Int64)))), .second, .val (.long (own_mix ((q1 + (-7046029254386353131 : Int64)) + (-7046029254386353131 : Int64)))), .second, .unset, .unset, .unset, .unset, .unset, .unset, .unset, .unset, .unset, .unset] [(.ref b25)]) := fun t k => go24 t (st25 t k)
  have go32 : Goes p e below s₁ (entryFrame m #[(.long q1), (.long q2)] maxLocals) T25 (mkF m 33 #[.val (.long q1), .second, .val (.long q2), .second, .val (.ref b1), .val (.long (own_mix (q1 + (-7046029254386353131 : Int64)))), .second, .val (.long (own_mix ((q1 + (-7046029254386353131 : Int64)) + (-7046029254386353131 : Int64)))), .second, .unset, .unset, .unset, .unset, .unset, .unset, .unset, .unset, .unset, .unset] [(.long (q1 + (-7046029254386353131 : Int64))), (.ref b25), (.ref b25)]) := fun t k => by
    refine go31 t ?_
    refine XS.dup X25.here hx rfl (hb hby at_27) rfl rfl ?_
    show Steps p.tables e below (T25.setTop (mkF m 28 #[.val (.long q1), .second, .val (.long q2), .second, .val (.ref b1), .val (.long (own_mix (q1 + (-7046029254386353131 : Int64)))), .second, .val (.long (own_mix ((q1 + (-7046029254386353131 : Int64)) + (-7046029254386353131 : Int64)))), .second, .unset, .unset, .unset, .unset, .unset, .unset, .unset, .unset, .unset, .unset] [(.ref b25), (.ref b25)])) _
    refine XS.lloadN X25.here hx rfl (hb hby at_28) rfl ?_
    show Steps p.tables e below (T25.setTop (mkF m 29 #[.val (.long q1), .second, .val (.long q2), .second, .val (.ref b1), .val (.long (own_mix (q1 + (-7046029254386353131 : Int64)))), .second, .val (.long (own_mix ((q1 + (-7046029254386353131 : Int64)) + (-7046029254386353131 : Int64)))), .second, .unset, .unset, .unset, .unset, .unset, .unset, .unset, .unset, .unset, .unset] [(.long q1), (.ref b25), (.ref b25)])) _
    refine X25.ldc2Long hx hown (mvT hZ (hw _ (List.mem_of_getElem? (i := 22) rfl))) (g := (mkF m 29 #[.val (.long q1), .second, .val (.long q2), .second, .val (.ref b1), .val (.long (own_mix (q1 + (-7046029254386353131 : Int64)))), .second, .val (.long (own_mix ((q1 + (-7046029254386353131 : Int64)) + (-7046029254386353131 : Int64)))), .second, .unset, .unset, .unset, .unset, .unset, .unset, .unset, .unset, .unset, .unset] [(.long q1), (.ref b25), (.ref b25)])) rfl (hb hby at_29) _ ?_
    show Steps p.tables e below (T25.setTop (mkF m 32 #[.val (.long q1), .second, .val (.long q2), .second, .val (.ref b1), .val (.long (own_mix (q1 + (-7046029254386353131 : Int64)))), .second, .val (.long (own_mix ((q1 + (-7046029254386353131 : Int64)) + (-7046029254386353131 : Int64)))), .second, .unset, .unset, .unset, .unset, .unset, .unset, .unset, .unset, .unset, .unset] [(.long (-7046029254386353131 : Int64)), (.long q1), (.ref b25), (.ref b25)])) _
    refine XS.ladd X25.here hx rfl (hb hby at_32) rfl ?_
    show Steps p.tables e below (T25.setTop (mkF m 33 #[.val (.long q1), .second, .val (.long q2), .second, .val (.ref b1), .val (.long (own_mix (q1 + (-7046029254386353131 : Int64)))), .second, .val (.long (own_mix ((q1 + (-7046029254386353131 : Int64)) + (-7046029254386353131 : Int64)))), .second, .unset, .unset, .unset, .unset, .unset, .unset, .unset, .unset, .unset, .unset] [(.long (q1 + (-7046029254386353131 : Int64))), (.ref b25), (.ref b25)])) _
    exact k
  obtain ⟨_, _, ⟨T33, L33, k33, n33⟩, -, X33, ⟨Lc33, hQ33, l33, y33, z33⟩, st33⟩ := X25.specialBack hx (y := (⟨"com/example/covermesh/covermesh/graph/SeededRandom", "<init>", "(J)V"⟩ : MethodName)) rfl hown (mvT hZ (hw _ (List.mem_of_getElem? (i := 3) rfl))) (mvT hZ (hw _ (List.mem_of_getElem? (i := 4) rfl))) (mvT hZ (hw _ (List.mem_of_getElem? (i := 5) rfl))) (by decide) (backOf (W := 1) (rm2 l Z a0 hw [] b25 (q1 + (-7046029254386353131 : Int64)) (.long (0 : Int64)) h25 n0 Z28 f30 A25 gn_b25) hZ (hw _ (List.mem_of_getElem? (i := 5) rfl)) (hw _ (List.mem_of_getElem? (i := 2) rfl)) (by decide) (by decide)) (g := (mkF m 33 #[.val (.long q1), .second, .val (.long q2), .second, .val (.ref b1), .val (.long (own_mix (q1 + (-7046029254386353131 : Int64)))), .second, .val (.long (own_mix ((q1 + (-7046029254386353131 : Int64)) + (-7046029254386353131 : Int64)))), .second, .unset, .unset, .unset, .unset, .unset, .unset, .unset, .unset, .unset, .unset] [(.long (q1 + (-7046029254386353131 : Int64))), (.ref b25), (.ref b25)])) rfl (by rw [hml]; rfl) (Steps.refl _) (a := b25) (argsL := [(.long (q1 + (-7046029254386353131 : Int64)))]) (rest := [(.ref b25)]) (lenOf pd_1 rfl) rfl (by show 2 * 0 + _ ≤ _; exact Nat.le_of_eq rfl) (hb hby at_33) (fun _ _ => ⟨rfl, e25, (by decide : 2 + 0 ≤ room_1.cells), (by decide : 2 + 0 ≤ room_1.slots)⟩)
  dsimp only [Pt.U, Pt.locs, Pt.cells, Pt.slots] at X33 l33 y33 z33 st33 hQ33
  subst l33 y33 z33
  obtain ⟨rfl, N33q, Kq33, Eq33, Fq33⟩ := hQ33
  have N33 := Fr.app N19 N33q
  have f34 := f26.keep Kq33
  have f35 := f27.keep Kq33 (ninS (Nat.ne_of_lt (Nat.lt_of_lt_of_le Fq19.lt le_b25)) nin0)
  have f36 := A25.keep Kq33
  have Z37 := Nat.le_trans Z28 Kq33.1
  have K38 := K29.trans Kq33 (allS (Or.inr sz_b25) all0)
  have go39 : Goes p e below s₁ (entryFrame m #[(.long q1), (.long q2)] maxLocals) T33 (mkF m 36 #[.val (.long q1), .second, .val (.long q2), .second, .val (.ref b1), .val (.long (own_mix (q1 + (-7046029254386353131 : Int64)))), .second, .val (.long (own_mix ((q1 + (-7046029254386353131 : Int64)) + (-7046029254386353131 : Int64)))), .second, .unset, .unset, .unset, .unset, .unset, .unset, .unset, .unset, .unset, .unset] [(.ref b25)]) := fun t k => go32 t (st33.trans k)
  have go40 : Goes p e below s₁ (entryFrame m #[(.long q1), (.long q2)] maxLocals) T33 (mkF m 40 #[.val (.long q1), .second, .val (.long q2), .second, .val (.ref b1), .val (.long (own_mix (q1 + (-7046029254386353131 : Int64)))), .second, .val (.long (own_mix ((q1 + (-7046029254386353131 : Int64)) + (-7046029254386353131 : Int64)))), .second, .val (.ref b25), .unset, .unset, .unset, .unset, .unset, .unset, .unset, .unset, .unset] [(.ref b25)]) := fun t k => by
    refine go39 t ?_
    refine XS.astore X33.here hx rfl (hb hby at_36) rfl rfl (l' := #[.val (.long q1), .second, .val (.long q2), .second, .val (.ref b1), .val (.long (own_mix (q1 + (-7046029254386353131 : Int64)))), .second, .val (.long (own_mix ((q1 + (-7046029254386353131 : Int64)) + (-7046029254386353131 : Int64)))), .second, .val (.ref b25), .unset, .unset, .unset, .unset, .unset, .unset, .unset, .unset, .unset]) rfl ?_
    show Steps p.tables e below (T33.setTop (mkF m 38 #[.val (.long q1), .second, .val (.long q2), .second, .val (.ref b1), .val (.long (own_mix (q1 + (-7046029254386353131 : Int64)))), .second, .val (.long (own_mix ((q1 + (-7046029254386353131 : Int64)) + (-7046029254386353131 : Int64)))), .second, .val (.ref b25), .unset, .unset, .unset, .unset, .unset, .unset, .unset, .unset, .unset] [])) _
    refine XS.aload X33.here hx rfl (hb hby at_38) rfl rfl ?_
    show Steps p.tables e below (T33.setTop (mkF m 40 #[.val (.long q1), .second, .val (.long q2), .second, .val (.ref b1), .val (.long (own_mix (q1 + (-7046029254386353131 : Int64)))), .second, .val (.long (own_mix ((q1 + (-7046029254386353131 : Int64)) + (-7046029254386353131 : Int64)))), .second, .val (.ref b25), .unset, .unset, .unset, .unset, .unset, .unset, .unset, .unset, .unset] [(.ref b25)])) _
    exact k
  obtain ⟨cq41, kq41, q41a, q41b, q41c⟩ := isOf hZ rfl f36
  obtain ⟨_, _, ⟨T41, L41, k41, n41⟩, -, X41, ⟨Lc41, hQ41, l41, y41, z41⟩, st41⟩ := X33.virtualBack hx (y := (⟨"com/example/covermesh/covermesh/graph/SeededRandom", "nextLong", "()J"⟩ : MethodName)) (z := (⟨"com/example/covermesh/covermesh/graph/SeededRandom", "nextLong", "()J"⟩ : MethodName)) hown (mvT hZ (hw _ (List.mem_of_getElem? (i := 11) rfl))) (mvT hZ (hw _ (List.mem_of_getElem? (i := 12) rfl))) (notFace_of_selects (args := #[]) (mvT hZ (hw _ (List.mem_of_getElem? (i := 14) rfl)))) (mvT hZ (hw _ (List.mem_of_getElem? (i := 14) rfl))) (mvT hZ (hw _ (List.mem_of_getElem? (i := 13) rfl))) (by decide) (backOf (W := 0) (rm3 l Z a0 hw [] b25 (q1 + (-7046029254386353131 : Int64)) T33.heap n0 Z37 Fq33 f36 gn_b25) hZ (hw _ (List.mem_of_getElem? (i := 15) rfl)) (hw _ (List.mem_of_getElem? (i := 2) rfl)) (by decide) (by decide)) q41a q41c (g := (mkF m 40 #[.val (.long q1), .second, .val (.long q2), .second, .val (.ref b1), .val (.long (own_mix (q1 + (-7046029254386353131 : Int64)))), .second, .val (.long (own_mix ((q1 + (-7046029254386353131 : Int64)) + (-7046029254386353131 : Int64)))), .second, .val (.ref b25), .unset, .unset, .unset, .unset, .unset, .unset, .unset, .unset, .unset] [(.ref b25)])) rfl (by rw [hml]; rfl) (Steps.refl _) (argsL := []) (rest := []) (lenOf pd_2 rfl) rfl (by show 2 * 0 + _ ≤ _; exact Nat.le_of_eq rfl) (hb hby at_40) (fun _ _ => ⟨rfl, rfl, (by decide : 2 + 0 ≤ room_1.cells), (by decide : 2 + 0 ≤ room_1.slots)⟩)
  dsimp only [Pt.U, Pt.locs, Pt.cells, Pt.slots] at X41 l41 y41 z41 st41 hQ41
  subst l41 y41 z41
  obtain ⟨rfl, N41q, Kq41, Eq41, Fq41⟩ := hQ41
  have N41 := Fr.app N33 N41q
  have f42 := f34.keep Kq41
  have f43 := f35.keep Kq41 (ninS (Nat.ne_of_lt (Nat.lt_of_lt_of_le Fq19.lt le_b25)) nin0)
  have f44 := f36.keep Kq41
  have Z45 := Nat.le_trans Z37 Kq41.1
  have K46 := K38.trans Kq41 (allS (Or.inr sz_b25) all0)
  have go47 : Goes p e below s₁ (entryFrame m #[(.long q1), (.long q2)] maxLocals) T41 (mkF m 43 #[.val (.long q1), .second, .val (.long q2), .second, .val (.ref b1), .val (.long (own_mix (q1 + (-7046029254386353131 : Int64)))), .second, .val (.long (own_mix ((q1 + (-7046029254386353131 : Int64)) + (-7046029254386353131 : Int64)))), .second, .val (.ref b25), .unset, .unset, .unset, .unset, .unset, .unset, .unset, .unset, .unset] [(.long (own_mix ((q1 + (-7046029254386353131 : Int64)) + (-7046029254386353131 : Int64))))]) := fun t k => go40 t (st41.trans k)
  have go48 : Goes p e below s₁ (entryFrame m #[(.long q1), (.long q2)] maxLocals) T41 (mkF m 50 #[.val (.long q1), .second, .val (.long q2), .second, .val (.ref b1), .val (.long (own_mix (q1 + (-7046029254386353131 : Int64)))), .second, .val (.long (own_mix ((q1 + (-7046029254386353131 : Int64)) + (-7046029254386353131 : Int64)))), .second, .val (.ref b25), .val (.long (own_mix ((q1 + (-7046029254386353131 : Int64)) + (-7046029254386353131 : Int64)))), .second, .unset, .unset, .unset, .unset, .unset, .unset, .unset] [(.int (Jvm.Free.XT.cmpL (own_mix ((q1 + (-7046029254386353131 : Int64)) + (-7046029254386353131 : Int64))) (own_mix ((q1 + (-7046029254386353131 : Int64)) + (-7046029254386353131 : Int64)))))]) := fun t k => by
    refine go47 t ?_
    refine XS.lstore X41.here hx rfl (hb hby at_43) rfl (l' := #[.val (.long q1), .second, .val (.long q2), .second, .val (.ref b1), .val (.long (own_mix (q1 + (-7046029254386353131 : Int64)))), .second, .val (.long (own_mix ((q1 + (-7046029254386353131 : Int64)) + (-7046029254386353131 : Int64)))), .second, .val (.ref b25), .val (.long (own_mix ((q1 + (-7046029254386353131 : Int64)) + (-7046029254386353131 : Int64)))), .second, .unset, .unset, .unset, .unset, .unset, .unset, .unset]) rfl ?_
    show Steps p.tables e below (T41.setTop (mkF m 45 #[.val (.long q1), .second, .val (.long q2), .second, .val (.ref b1), .val (.long (own_mix (q1 + (-7046029254386353131 : Int64)))), .second, .val (.long (own_mix ((q1 + (-7046029254386353131 : Int64)) + (-7046029254386353131 : Int64)))), .second, .val (.ref b25), .val (.long (own_mix ((q1 + (-7046029254386353131 : Int64)) + (-7046029254386353131 : Int64)))), .second, .unset, .unset, .unset, .unset, .unset, .unset, .unset] [])) _
    refine XS.lload X41.here hx rfl (hb hby at_45) rfl ?_
    show Steps p.tables e below (T41.setTop (mkF m 47 #[.val (.long q1), .second, .val (.long q2), .second, .val (.ref b1), .val (.long (own_mix (q1 + (-7046029254386353131 : Int64)))), .second, .val (.long (own_mix ((q1 + (-7046029254386353131 : Int64)) + (-7046029254386353131 : Int64)))), .second, .val (.ref b25), .val (.long (own_mix ((q1 + (-7046029254386353131 : Int64)) + (-7046029254386353131 : Int64)))), .second, .unset, .unset, .unset, .unset, .unset, .unset, .unset] [(.long (own_mix ((q1 + (-7046029254386353131 : Int64)) + (-7046029254386353131 : Int64))))])) _
    refine XS.lload X41.here hx rfl (hb hby at_47) rfl ?_
    show Steps p.tables e below (T41.setTop (mkF m 49 #[.val (.long q1), .second, .val (.long q2), .second, .val (.ref b1), .val (.long (own_mix (q1 + (-7046029254386353131 : Int64)))), .second, .val (.long (own_mix ((q1 + (-7046029254386353131 : Int64)) + (-7046029254386353131 : Int64)))), .second, .val (.ref b25), .val (.long (own_mix ((q1 + (-7046029254386353131 : Int64)) + (-7046029254386353131 : Int64)))), .second, .unset, .unset, .unset, .unset, .unset, .unset, .unset] [(.long (own_mix ((q1 + (-7046029254386353131 : Int64)) + (-7046029254386353131 : Int64)))), (.long (own_mix ((q1 + (-7046029254386353131 : Int64)) + (-7046029254386353131 : Int64))))])) _
    refine XS.lcmp X41.here hx rfl (hb hby at_49) rfl ?_
    show Steps p.tables e below (T41.setTop (mkF m 50 #[.val (.long q1), .second, .val (.long q2), .second, .val (.ref b1), .val (.long (own_mix (q1 + (-7046029254386353131 : Int64)))), .second, .val (.long (own_mix ((q1 + (-7046029254386353131 : Int64)) + (-7046029254386353131 : Int64)))), .second, .val (.ref b25), .val (.long (own_mix ((q1 + (-7046029254386353131 : Int64)) + (-7046029254386353131 : Int64)))), .second, .unset, .unset, .unset, .unset, .unset, .unset, .unset] [(.int (Jvm.Free.XT.cmpL (own_mix ((q1 + (-7046029254386353131 : Int64)) + (-7046029254386353131 : Int64))) (own_mix ((q1 + (-7046029254386353131 : Int64)) + (-7046029254386353131 : Int64)))))])) _
    exact k
  have go49 : Goes p e below s₁ (entryFrame m #[(.long q1), (.long q2)] maxLocals) T41 (mkF m 60 #[.val (.long q1), .second, .val (.long q2), .second, .val (.ref b1), .val (.long (own_mix (q1 + (-7046029254386353131 : Int64)))), .second, .val (.long (own_mix ((q1 + (-7046029254386353131 : Int64)) + (-7046029254386353131 : Int64)))), .second, .val (.ref b25), .val (.long (own_mix ((q1 + (-7046029254386353131 : Int64)) + (-7046029254386353131 : Int64)))), .second, .val (.int (1 : Int32)), .unset, .unset, .unset, .unset, .unset, .unset] []) := fun t k => by
    refine go48 t ?_
    refine XS.ifNo X41.here hx rfl (hb hby at_50) rfl (Jvm.Free.XT.ll_ne_f rfl) ?_
    show Steps p.tables e below (T41.setTop (mkF m 53 #[.val (.long q1), .second, .val (.long q2), .second, .val (.ref b1), .val (.long (own_mix (q1 + (-7046029254386353131 : Int64)))), .second, .val (.long (own_mix ((q1 + (-7046029254386353131 : Int64)) + (-7046029254386353131 : Int64)))), .second, .val (.ref b25), .val (.long (own_mix ((q1 + (-7046029254386353131 : Int64)) + (-7046029254386353131 : Int64)))), .second, .unset, .unset, .unset, .unset, .unset, .unset, .unset] [])) _
    refine XS.iconst X41.here hx rfl (hb hby at_53) ?_
    show Steps p.tables e below (T41.setTop (mkF m 54 #[.val (.long q1), .second, .val (.long q2), .second, .val (.ref b1), .val (.long (own_mix (q1 + (-7046029254386353131 : Int64)))), .second, .val (.long (own_mix ((q1 + (-7046029254386353131 : Int64)) + (-7046029254386353131 : Int64)))), .second, .val (.ref b25), .val (.long (own_mix ((q1 + (-7046029254386353131 : Int64)) + (-7046029254386353131 : Int64)))), .second, .unset, .unset, .unset, .unset, .unset, .unset, .unset] [(.int (1 : Int32))])) _
    refine XS.goto X41.here hx rfl (pc0 := 54) (pc' := 58) rfl (hb hby at_54) (by decide) (by decide) ?_
    show Steps p.tables e below (T41.setTop (mkF m 58 #[.val (.long q1), .second, .val (.long q2), .second, .val (.ref b1), .val (.long (own_mix (q1 + (-7046029254386353131 : Int64)))), .second, .val (.long (own_mix ((q1 + (-7046029254386353131 : Int64)) + (-7046029254386353131 : Int64)))), .second, .val (.ref b25), .val (.long (own_mix ((q1 + (-7046029254386353131 : Int64)) + (-7046029254386353131 : Int64)))), .second, .unset, .unset, .unset, .unset, .unset, .unset, .unset] [(.int (1 : Int32))])) _
    refine XS.istore X41.here hx rfl (hb hby at_58) rfl (l' := #[.val (.long q1), .second, .val (.long q2), .second, .val (.ref b1), .val (.long (own_mix (q1 + (-7046029254386353131 : Int64)))), .second, .val (.long (own_mix ((q1 + (-7046029254386353131 : Int64)) + (-7046029254386353131 : Int64)))), .second, .val (.ref b25), .val (.long (own_mix ((q1 + (-7046029254386353131 : Int64)) + (-7046029254386353131 : Int64)))), .second, .val (.int (1 : Int32)), .unset, .unset, .unset, .unset, .unset, .unset]) rfl ?_
    show Steps p.tables e below (T41.setTop (mkF m 60 #[.val (.long q1), .second, .val (.long q2), .second, .val (.ref b1), .val (.long (own_mix (q1 + (-7046029254386353131 : Int64)))), .second, .val (.long (own_mix ((q1 + (-7046029254386353131 : Int64)) + (-7046029254386353131 : Int64)))), .second, .val (.ref b25), .val (.long (own_mix ((q1 + (-7046029254386353131 : Int64)) + (-7046029254386353131 : Int64)))), .second, .val (.int (1 : Int32)), .unset, .unset, .unset, .unset, .unset, .unset] [])) _
    exact k
  obtain ⟨T50, h50, X50, e50, E50, A50, D50, -, st50⟩ := newO X41 hx hZ hown (hw _ (List.mem_of_getElem? (i := 0) rfl)) (hw _ (List.mem_of_getElem? (i := 1) rfl)) (hw _ (List.mem_of_getElem? (i := 2) rfl)) rfl (g := (mkF m 60 #[.val (.long q1), .second, .val (.long q2), .second, .val (.ref b1), .val (.long (own_mix (q1 + (-7046029254386353131 : Int64)))), .second, .val (.long (own_mix ((q1 + (-7046029254386353131 : Int64)) + (-7046029254386353131 : Int64)))), .second, .val (.ref b25), .val (.long (own_mix ((q1 + (-7046029254386353131 : Int64)) + (-7046029254386353131 : Int64)))), .second, .val (.int (1 : Int32)), .unset, .unset, .unset, .unset, .unset, .unset] [])) rfl (hb hby at_60) (by decide) (by decide)
  obtain ⟨b50, g_b_b50⟩ : ∃ z, z = T41.heap.size := ⟨_, rfl⟩
  have le_b50 : T41.heap.size ≤ b50 := Nat.le_of_eq g_b_b50.symm
  have gn_b50 : n0 ≤ b50 := Nat.le_trans Z45 le_b50
  have sz_b50 : h0.size ≤ b50 := Nat.le_trans K46.1 le_b50
  rw [← g_b_b50] at A50 D50 st50
  have f51 := f42.ext E50
  have f52 := f43.ext E50
  have f53 := f44.ext E50
  have f54 := Fq41.ext E50
  have Z55 := Nat.le_trans Z45 E50.1
  have K56 := K46.ext E50
  have f57 : Fld Z h50 b50 "com/example/covermesh/covermesh/graph/SeededRandom" "state" "J" (.long (0 : Int64)) := D50 (Or.inl (hw _ (List.mem_of_getElem? (i := 10) rfl))) (ty := .long) (by decide)
  have go58 : Goes p e below s₁ (entryFrame m #[(.long q1), (.long q2)] maxLocals) T50 (mkF m 63 #[.val (.long q1), .second, .val (.long q2), .second, .val (.ref b1), .val (.long (own_mix (q1 + (-7046029254386353131 : Int64)))), .second, .val (.long (own_mix ((q1 + (-7046029254386353131 : Int64)) + (-7046029254386353131 : Int64)))), .second, .val (.ref b25), .val (.long (own_mix ((q1 + (-7046029254386353131 : Int64)) + (-7046029254386353131 : Int64)))), .second, .val (.int (1 : Int32)), .unset, .unset, .unset, .unset, .unset, .unset] [(.ref b50)]) := fun t k => go49 t (st50 t k)
  have go59 : Goes p e below s₁ (entryFrame m #[(.long q1), (.long q2)] maxLocals) T50 (mkF m 67 #[.val (.long q1), .second, .val (.long q2), .second, .val (.ref b1), .val (.long (own_mix (q1 + (-7046029254386353131 : Int64)))), .second, .val (.long (own_mix ((q1 + (-7046029254386353131 : Int64)) + (-7046029254386353131 : Int64)))), .second, .val (.ref b25), .val (.long (own_mix ((q1 + (-7046029254386353131 : Int64)) + (-7046029254386353131 : Int64)))), .second, .val (.int (1 : Int32)), .unset, .unset, .unset, .unset, .unset, .unset] [(.long (q1 + q2)), (.ref b50), (.ref b50)]) := fun t k => by
    refine go58 t ?_
    refine XS.dup X50.here hx rfl (hb hby at_63) rfl rfl ?_
    show Steps p.tables e below (T50.setTop (mkF m 64 #[.val (.long q1), .second, .val (.long q2), .second, .val (.ref b1), .val (.long (own_mix (q1 + (-7046029254386353131 : Int64)))), .second, .val (.long (own_mix ((q1 + (-7046029254386353131 : Int64)) + (-7046029254386353131 : Int64)))), .second, .val (.ref b25), .val (.long (own_mix ((q1 + (-7046029254386353131 : Int64)) + (-7046029254386353131 : Int64)))), .second, .val (.int (1 : Int32)), .unset, .unset, .unset, .unset, .unset, .unset] [(.ref b50), (.ref b50)])) _
    refine XS.lloadN X50.here hx rfl (hb hby at_64) rfl ?_
    show Steps p.tables e below (T50.setTop (mkF m 65 #[.val (.long q1), .second, .val (.long q2), .second, .val (.ref b1), .val (.long (own_mix (q1 + (-7046029254386353131 : Int64)))), .second, .val (.long (own_mix ((q1 + (-7046029254386353131 : Int64)) + (-7046029254386353131 : Int64)))), .second, .val (.ref b25), .val (.long (own_mix ((q1 + (-7046029254386353131 : Int64)) + (-7046029254386353131 : Int64)))), .second, .val (.int (1 : Int32)), .unset, .unset, .unset, .unset, .unset, .unset] [(.long q1), (.ref b50), (.ref b50)])) _
    refine XS.lloadN X50.here hx rfl (hb hby at_65) rfl ?_
    show Steps p.tables e below (T50.setTop (mkF m 66 #[.val (.long q1), .second, .val (.long q2), .second, .val (.ref b1), .val (.long (own_mix (q1 + (-7046029254386353131 : Int64)))), .second, .val (.long (own_mix ((q1 + (-7046029254386353131 : Int64)) + (-7046029254386353131 : Int64)))), .second, .val (.ref b25), .val (.long (own_mix ((q1 + (-7046029254386353131 : Int64)) + (-7046029254386353131 : Int64)))), .second, .val (.int (1 : Int32)), .unset, .unset, .unset, .unset, .unset, .unset] [(.long q2), (.long q1), (.ref b50), (.ref b50)])) _
    refine XS.ladd X50.here hx rfl (hb hby at_66) rfl ?_
    show Steps p.tables e below (T50.setTop (mkF m 67 #[.val (.long q1), .second, .val (.long q2), .second, .val (.ref b1), .val (.long (own_mix (q1 + (-7046029254386353131 : Int64)))), .second, .val (.long (own_mix ((q1 + (-7046029254386353131 : Int64)) + (-7046029254386353131 : Int64)))), .second, .val (.ref b25), .val (.long (own_mix ((q1 + (-7046029254386353131 : Int64)) + (-7046029254386353131 : Int64)))), .second, .val (.int (1 : Int32)), .unset, .unset, .unset, .unset, .unset, .unset] [(.long (q1 + q2)), (.ref b50), (.ref b50)])) _
    exact k
  obtain ⟨_, _, ⟨T60, L60, k60, n60⟩, -, X60, ⟨Lc60, hQ60, l60, y60, z60⟩, st60⟩ := X50.specialBack hx (y := (⟨"com/example/covermesh/covermesh/graph/SeededRandom", "<init>", "(J)V"⟩ : MethodName)) rfl hown (mvT hZ (hw _ (List.mem_of_getElem? (i := 3) rfl))) (mvT hZ (hw _ (List.mem_of_getElem? (i := 4) rfl))) (mvT hZ (hw _ (List.mem_of_getElem? (i := 5) rfl))) (by decide) (backOf (W := 1) (rm2 l Z a0 hw [] b50 (q1 + q2) (.long (0 : Int64)) h50 n0 Z55 f57 A50 gn_b50) hZ (hw _ (List.mem_of_getElem? (i := 5) rfl)) (hw _ (List.mem_of_getElem? (i := 2) rfl)) (by decide) (by decide)) (g := (mkF m 67 #[.val (.long q1), .second, .val (.long q2), .second, .val (.ref b1), .val (.long (own_mix (q1 + (-7046029254386353131 : Int64)))), .second, .val (.long (own_mix ((q1 + (-7046029254386353131 : Int64)) + (-7046029254386353131 : Int64)))), .second, .val (.ref b25), .val (.long (own_mix ((q1 + (-7046029254386353131 : Int64)) + (-7046029254386353131 : Int64)))), .second, .val (.int (1 : Int32)), .unset, .unset, .unset, .unset, .unset, .unset] [(.long (q1 + q2)), (.ref b50), (.ref b50)])) rfl (by rw [hml]; rfl) (Steps.refl _) (a := b50) (argsL := [(.long (q1 + q2))]) (rest := [(.ref b50)]) (lenOf pd_1 rfl) rfl (by show 2 * 0 + _ ≤ _; exact Nat.le_of_eq rfl) (hb hby at_67) (fun _ _ => ⟨rfl, e50, (by decide : 3 + 0 ≤ room_1.cells), (by decide : 3 + 0 ≤ room_1.slots)⟩)
  dsimp only [Pt.U, Pt.locs, Pt.cells, Pt.slots] at X60 l60 y60 z60 st60 hQ60
  subst l60 y60 z60
  obtain ⟨rfl, N60q, Kq60, Eq60, Fq60⟩ := hQ60
  have N60 := Fr.app N41 N60q
  have f61 := f51.keep Kq60
  have f62 := f52.keep Kq60 (ninS (Nat.ne_of_lt (Nat.lt_of_lt_of_le f43.lt le_b50)) nin0)
  have f63 := f53.keep Kq60
  have f64 := f54.keep Kq60 (ninS (Nat.ne_of_lt (Nat.lt_of_lt_of_le Fq41.lt le_b50)) nin0)
  have f65 := A50.keep Kq60
  have Z66 := Nat.le_trans Z55 Kq60.1
  have K67 := K56.trans Kq60 (allS (Or.inr sz_b50) all0)
  have go68 : Goes p e below s₁ (entryFrame m #[(.long q1), (.long q2)] maxLocals) T60 (mkF m 70 #[.val (.long q1), .second, .val (.long q2), .second, .val (.ref b1), .val (.long (own_mix (q1 + (-7046029254386353131 : Int64)))), .second, .val (.long (own_mix ((q1 + (-7046029254386353131 : Int64)) + (-7046029254386353131 : Int64)))), .second, .val (.ref b25), .val (.long (own_mix ((q1 + (-7046029254386353131 : Int64)) + (-7046029254386353131 : Int64)))), .second, .val (.int (1 : Int32)), .unset, .unset, .unset, .unset, .unset, .unset] [(.ref b50)]) := fun t k => go59 t (st60.trans k)
  have go69 : Goes p e below s₁ (entryFrame m #[(.long q1), (.long q2)] maxLocals) T60 (mkF m 74 #[.val (.long q1), .second, .val (.long q2), .second, .val (.ref b1), .val (.long (own_mix (q1 + (-7046029254386353131 : Int64)))), .second, .val (.long (own_mix ((q1 + (-7046029254386353131 : Int64)) + (-7046029254386353131 : Int64)))), .second, .val (.ref b25), .val (.long (own_mix ((q1 + (-7046029254386353131 : Int64)) + (-7046029254386353131 : Int64)))), .second, .val (.int (1 : Int32)), .val (.ref b50), .unset, .unset, .unset, .unset, .unset] [(.ref b50)]) := fun t k => by
    refine go68 t ?_
    refine XS.astore X60.here hx rfl (hb hby at_70) rfl rfl (l' := #[.val (.long q1), .second, .val (.long q2), .second, .val (.ref b1), .val (.long (own_mix (q1 + (-7046029254386353131 : Int64)))), .second, .val (.long (own_mix ((q1 + (-7046029254386353131 : Int64)) + (-7046029254386353131 : Int64)))), .second, .val (.ref b25), .val (.long (own_mix ((q1 + (-7046029254386353131 : Int64)) + (-7046029254386353131 : Int64)))), .second, .val (.int (1 : Int32)), .val (.ref b50), .unset, .unset, .unset, .unset, .unset]) rfl ?_
    show Steps p.tables e below (T60.setTop (mkF m 72 #[.val (.long q1), .second, .val (.long q2), .second, .val (.ref b1), .val (.long (own_mix (q1 + (-7046029254386353131 : Int64)))), .second, .val (.long (own_mix ((q1 + (-7046029254386353131 : Int64)) + (-7046029254386353131 : Int64)))), .second, .val (.ref b25), .val (.long (own_mix ((q1 + (-7046029254386353131 : Int64)) + (-7046029254386353131 : Int64)))), .second, .val (.int (1 : Int32)), .val (.ref b50), .unset, .unset, .unset, .unset, .unset] [])) _
    refine XS.aload X60.here hx rfl (hb hby at_72) rfl rfl ?_
    show Steps p.tables e below (T60.setTop (mkF m 74 #[.val (.long q1), .second, .val (.long q2), .second, .val (.ref b1), .val (.long (own_mix (q1 + (-7046029254386353131 : Int64)))), .second, .val (.long (own_mix ((q1 + (-7046029254386353131 : Int64)) + (-7046029254386353131 : Int64)))), .second, .val (.ref b25), .val (.long (own_mix ((q1 + (-7046029254386353131 : Int64)) + (-7046029254386353131 : Int64)))), .second, .val (.int (1 : Int32)), .val (.ref b50), .unset, .unset, .unset, .unset, .unset] [(.ref b50)])) _
    exact k
  obtain ⟨cq70, kq70, q70a, q70b, q70c⟩ := isOf hZ rfl f65
  obtain ⟨_, _, ⟨T70, L70, k70, n70⟩, -, X70, ⟨Lc70, hQ70, l70, y70, z70⟩, st70⟩ := X60.virtualBack hx (y := (⟨"com/example/covermesh/covermesh/graph/SeededRandom", "nextLong", "()J"⟩ : MethodName)) (z := (⟨"com/example/covermesh/covermesh/graph/SeededRandom", "nextLong", "()J"⟩ : MethodName)) hown (mvT hZ (hw _ (List.mem_of_getElem? (i := 11) rfl))) (mvT hZ (hw _ (List.mem_of_getElem? (i := 12) rfl))) (notFace_of_selects (args := #[]) (mvT hZ (hw _ (List.mem_of_getElem? (i := 14) rfl)))) (mvT hZ (hw _ (List.mem_of_getElem? (i := 14) rfl))) (mvT hZ (hw _ (List.mem_of_getElem? (i := 13) rfl))) (by decide) (backOf (W := 0) (rm3 l Z a0 hw [] b50 (q1 + q2) T60.heap n0 Z66 Fq60 f65 gn_b50) hZ (hw _ (List.mem_of_getElem? (i := 15) rfl)) (hw _ (List.mem_of_getElem? (i := 2) rfl)) (by decide) (by decide)) q70a q70c (g := (mkF m 74 #[.val (.long q1), .second, .val (.long q2), .second, .val (.ref b1), .val (.long (own_mix (q1 + (-7046029254386353131 : Int64)))), .second, .val (.long (own_mix ((q1 + (-7046029254386353131 : Int64)) + (-7046029254386353131 : Int64)))), .second, .val (.ref b25), .val (.long (own_mix ((q1 + (-7046029254386353131 : Int64)) + (-7046029254386353131 : Int64)))), .second, .val (.int (1 : Int32)), .val (.ref b50), .unset, .unset, .unset, .unset, .unset] [(.ref b50)])) rfl (by rw [hml]; rfl) (Steps.refl _) (argsL := []) (rest := []) (lenOf pd_2 rfl) rfl (by show 2 * 0 + _ ≤ _; exact Nat.le_of_eq rfl) (hb hby at_74) (fun _ _ => ⟨rfl, rfl, (by decide : 3 + 0 ≤ room_1.cells), (by decide : 3 + 0 ≤ room_1.slots)⟩)
  dsimp only [Pt.U, Pt.locs, Pt.cells, Pt.slots] at X70 l70 y70 z70 st70 hQ70
  subst l70 y70 z70
  obtain ⟨rfl, N70q, Kq70, Eq70, Fq70⟩ := hQ70
  have N70 := Fr.app N60 N70q
  have f71 := f61.keep Kq70
  have f72 := f62.keep Kq70 (ninS (Nat.ne_of_lt (Nat.lt_of_lt_of_le f43.lt le_b50)) nin0)
  have f73 := f63.keep Kq70
  have f74 := f64.keep Kq70 (ninS (Nat.ne_of_lt (Nat.lt_of_lt_of_le Fq41.lt le_b50)) nin0)
  have f75 := f65.keep Kq70
  have Z76 := Nat.le_trans Z66 Kq70.1
  have K77 := K67.trans Kq70 (allS (Or.inr sz_b50) all0)
  have go78 : Goes p e below s₁ (entryFrame m #[(.long q1), (.long q2)] maxLocals) T70 (mkF m 77 #[.val (.long q1), .second, .val (.long q2), .second, .val (.ref b1), .val (.long (own_mix (q1 + (-7046029254386353131 : Int64)))), .second, .val (.long (own_mix ((q1 + (-7046029254386353131 : Int64)) + (-7046029254386353131 : Int64)))), .second, .val (.ref b25), .val (.long (own_mix ((q1 + (-7046029254386353131 : Int64)) + (-7046029254386353131 : Int64)))), .second, .val (.int (1 : Int32)), .val (.ref b50), .unset, .unset, .unset, .unset, .unset] [(.long (own_mix ((q1 + q2) + (-7046029254386353131 : Int64))))]) := fun t k => go69 t (st70.trans k)
  have go79 : Goes p e below s₁ (entryFrame m #[(.long q1), (.long q2)] maxLocals) T70 (mkF m 82 #[.val (.long q1), .second, .val (.long q2), .second, .val (.ref b1), .val (.long (own_mix (q1 + (-7046029254386353131 : Int64)))), .second, .val (.long (own_mix ((q1 + (-7046029254386353131 : Int64)) + (-7046029254386353131 : Int64)))), .second, .val (.ref b25), .val (.long (own_mix ((q1 + (-7046029254386353131 : Int64)) + (-7046029254386353131 : Int64)))), .second, .val (.int (1 : Int32)), .val (.ref b50), .val (.long (own_mix ((q1 + q2) + (-7046029254386353131 : Int64)))), .second, .unset, .unset, .unset] [(.int (Jvm.Free.XT.cmpL q2 (0 : Int64)))]) := fun t k => by
    refine go78 t ?_
    refine XS.lstore X70.here hx rfl (hb hby at_77) rfl (l' := #[.val (.long q1), .second, .val (.long q2), .second, .val (.ref b1), .val (.long (own_mix (q1 + (-7046029254386353131 : Int64)))), .second, .val (.long (own_mix ((q1 + (-7046029254386353131 : Int64)) + (-7046029254386353131 : Int64)))), .second, .val (.ref b25), .val (.long (own_mix ((q1 + (-7046029254386353131 : Int64)) + (-7046029254386353131 : Int64)))), .second, .val (.int (1 : Int32)), .val (.ref b50), .val (.long (own_mix ((q1 + q2) + (-7046029254386353131 : Int64)))), .second, .unset, .unset, .unset]) rfl ?_
    show Steps p.tables e below (T70.setTop (mkF m 79 #[.val (.long q1), .second, .val (.long q2), .second, .val (.ref b1), .val (.long (own_mix (q1 + (-7046029254386353131 : Int64)))), .second, .val (.long (own_mix ((q1 + (-7046029254386353131 : Int64)) + (-7046029254386353131 : Int64)))), .second, .val (.ref b25), .val (.long (own_mix ((q1 + (-7046029254386353131 : Int64)) + (-7046029254386353131 : Int64)))), .second, .val (.int (1 : Int32)), .val (.ref b50), .val (.long (own_mix ((q1 + q2) + (-7046029254386353131 : Int64)))), .second, .unset, .unset, .unset] [])) _
    refine XS.lloadN X70.here hx rfl (hb hby at_79) rfl ?_
    show Steps p.tables e below (T70.setTop (mkF m 80 #[.val (.long q1), .second, .val (.long q2), .second, .val (.ref b1), .val (.long (own_mix (q1 + (-7046029254386353131 : Int64)))), .second, .val (.long (own_mix ((q1 + (-7046029254386353131 : Int64)) + (-7046029254386353131 : Int64)))), .second, .val (.ref b25), .val (.long (own_mix ((q1 + (-7046029254386353131 : Int64)) + (-7046029254386353131 : Int64)))), .second, .val (.int (1 : Int32)), .val (.ref b50), .val (.long (own_mix ((q1 + q2) + (-7046029254386353131 : Int64)))), .second, .unset, .unset, .unset] [(.long q2)])) _
    refine XS.lconst X70.here hx rfl (hb hby at_80) ?_
    show Steps p.tables e below (T70.setTop (mkF m 81 #[.val (.long q1), .second, .val (.long q2), .second, .val (.ref b1), .val (.long (own_mix (q1 + (-7046029254386353131 : Int64)))), .second, .val (.long (own_mix ((q1 + (-7046029254386353131 : Int64)) + (-7046029254386353131 : Int64)))), .second, .val (.ref b25), .val (.long (own_mix ((q1 + (-7046029254386353131 : Int64)) + (-7046029254386353131 : Int64)))), .second, .val (.int (1 : Int32)), .val (.ref b50), .val (.long (own_mix ((q1 + q2) + (-7046029254386353131 : Int64)))), .second, .unset, .unset, .unset] [(.long (0 : Int64)), (.long q2)])) _
    refine XS.lcmp X70.here hx rfl (hb hby at_81) rfl ?_
    show Steps p.tables e below (T70.setTop (mkF m 82 #[.val (.long q1), .second, .val (.long q2), .second, .val (.ref b1), .val (.long (own_mix (q1 + (-7046029254386353131 : Int64)))), .second, .val (.long (own_mix ((q1 + (-7046029254386353131 : Int64)) + (-7046029254386353131 : Int64)))), .second, .val (.ref b25), .val (.long (own_mix ((q1 + (-7046029254386353131 : Int64)) + (-7046029254386353131 : Int64)))), .second, .val (.int (1 : Int32)), .val (.ref b50), .val (.long (own_mix ((q1 + q2) + (-7046029254386353131 : Int64)))), .second, .unset, .unset, .unset] [(.int (Jvm.Free.XT.cmpL q2 (0 : Int64)))])) _
    exact k
  by_cases hc80 : q2 = (0 : Int64)
  · have go81 : Goes p e below s₁ (entryFrame m #[(.long q1), (.long q2)] maxLocals) T70 (mkF m 95 #[.val (.long q1), .second, .val (.long q2), .second, .val (.ref b1), .val (.long (own_mix (q1 + (-7046029254386353131 : Int64)))), .second, .val (.long (own_mix ((q1 + (-7046029254386353131 : Int64)) + (-7046029254386353131 : Int64)))), .second, .val (.ref b25), .val (.long (own_mix ((q1 + (-7046029254386353131 : Int64)) + (-7046029254386353131 : Int64)))), .second, .val (.int (1 : Int32)), .val (.ref b50), .val (.long (own_mix ((q1 + q2) + (-7046029254386353131 : Int64)))), .second, .unset, .unset, .unset] [(.int (Jvm.Free.XT.cmpL (own_mix ((q1 + q2) + (-7046029254386353131 : Int64))) (own_mix (q1 + (-7046029254386353131 : Int64))))), (.int (1 : Int32))]) := fun t k => by
      refine go79 t ?_
      refine XS.ifNo X70.here hx rfl (hb hby at_82) rfl (Jvm.Free.XT.ll_ne_f hc80) ?_
      show Steps p.tables e below (T70.setTop (mkF m 85 #[.val (.long q1), .second, .val (.long q2), .second, .val (.ref b1), .val (.long (own_mix (q1 + (-7046029254386353131 : Int64)))), .second, .val (.long (own_mix ((q1 + (-7046029254386353131 : Int64)) + (-7046029254386353131 : Int64)))), .second, .val (.ref b25), .val (.long (own_mix ((q1 + (-7046029254386353131 : Int64)) + (-7046029254386353131 : Int64)))), .second, .val (.int (1 : Int32)), .val (.ref b50), .val (.long (own_mix ((q1 + q2) + (-7046029254386353131 : Int64)))), .second, .unset, .unset, .unset] [])) _
      refine XS.iconst X70.here hx rfl (hb hby at_85) ?_
      show Steps p.tables e below (T70.setTop (mkF m 86 #[.val (.long q1), .second, .val (.long q2), .second, .val (.ref b1), .val (.long (own_mix (q1 + (-7046029254386353131 : Int64)))), .second, .val (.long (own_mix ((q1 + (-7046029254386353131 : Int64)) + (-7046029254386353131 : Int64)))), .second, .val (.ref b25), .val (.long (own_mix ((q1 + (-7046029254386353131 : Int64)) + (-7046029254386353131 : Int64)))), .second, .val (.int (1 : Int32)), .val (.ref b50), .val (.long (own_mix ((q1 + q2) + (-7046029254386353131 : Int64)))), .second, .unset, .unset, .unset] [(.int (1 : Int32))])) _
      refine XS.goto X70.here hx rfl (pc0 := 86) (pc' := 90) rfl (hb hby at_86) (by decide) (by decide) ?_
      show Steps p.tables e below (T70.setTop (mkF m 90 #[.val (.long q1), .second, .val (.long q2), .second, .val (.ref b1), .val (.long (own_mix (q1 + (-7046029254386353131 : Int64)))), .second, .val (.long (own_mix ((q1 + (-7046029254386353131 : Int64)) + (-7046029254386353131 : Int64)))), .second, .val (.ref b25), .val (.long (own_mix ((q1 + (-7046029254386353131 : Int64)) + (-7046029254386353131 : Int64)))), .second, .val (.int (1 : Int32)), .val (.ref b50), .val (.long (own_mix ((q1 + q2) + (-7046029254386353131 : Int64)))), .second, .unset, .unset, .unset] [(.int (1 : Int32))])) _
      refine XS.lload X70.here hx rfl (hb hby at_90) rfl ?_
      show Steps p.tables e below (T70.setTop (mkF m 92 #[.val (.long q1), .second, .val (.long q2), .second, .val (.ref b1), .val (.long (own_mix (q1 + (-7046029254386353131 : Int64)))), .second, .val (.long (own_mix ((q1 + (-7046029254386353131 : Int64)) + (-7046029254386353131 : Int64)))), .second, .val (.ref b25), .val (.long (own_mix ((q1 + (-7046029254386353131 : Int64)) + (-7046029254386353131 : Int64)))), .second, .val (.int (1 : Int32)), .val (.ref b50), .val (.long (own_mix ((q1 + q2) + (-7046029254386353131 : Int64)))), .second, .unset, .unset, .unset] [(.long (own_mix ((q1 + q2) + (-7046029254386353131 : Int64)))), (.int (1 : Int32))])) _
      refine XS.lload X70.here hx rfl (hb hby at_92) rfl ?_
      show Steps p.tables e below (T70.setTop (mkF m 94 #[.val (.long q1), .second, .val (.long q2), .second, .val (.ref b1), .val (.long (own_mix (q1 + (-7046029254386353131 : Int64)))), .second, .val (.long (own_mix ((q1 + (-7046029254386353131 : Int64)) + (-7046029254386353131 : Int64)))), .second, .val (.ref b25), .val (.long (own_mix ((q1 + (-7046029254386353131 : Int64)) + (-7046029254386353131 : Int64)))), .second, .val (.int (1 : Int32)), .val (.ref b50), .val (.long (own_mix ((q1 + q2) + (-7046029254386353131 : Int64)))), .second, .unset, .unset, .unset] [(.long (own_mix (q1 + (-7046029254386353131 : Int64)))), (.long (own_mix ((q1 + q2) + (-7046029254386353131 : Int64)))), (.int (1 : Int32))])) _
      refine XS.lcmp X70.here hx rfl (hb hby at_94) rfl ?_
      show Steps p.tables e below (T70.setTop (mkF m 95 #[.val (.long q1), .second, .val (.long q2), .second, .val (.ref b1), .val (.long (own_mix (q1 + (-7046029254386353131 : Int64)))), .second, .val (.long (own_mix ((q1 + (-7046029254386353131 : Int64)) + (-7046029254386353131 : Int64)))), .second, .val (.ref b25), .val (.long (own_mix ((q1 + (-7046029254386353131 : Int64)) + (-7046029254386353131 : Int64)))), .second, .val (.int (1 : Int32)), .val (.ref b50), .val (.long (own_mix ((q1 + q2) + (-7046029254386353131 : Int64)))), .second, .unset, .unset, .unset] [(.int (Jvm.Free.XT.cmpL (own_mix ((q1 + q2) + (-7046029254386353131 : Int64))) (own_mix (q1 + (-7046029254386353131 : Int64))))), (.int (1 : Int32))])) _
      exact k
    have go82 : Goes p e below s₁ (entryFrame m #[(.long q1), (.long q2)] maxLocals) T70 (mkF m 103 #[.val (.long q1), .second, .val (.long q2), .second, .val (.ref b1), .val (.long (own_mix (q1 + (-7046029254386353131 : Int64)))), .second, .val (.long (own_mix ((q1 + (-7046029254386353131 : Int64)) + (-7046029254386353131 : Int64)))), .second, .val (.ref b25), .val (.long (own_mix ((q1 + (-7046029254386353131 : Int64)) + (-7046029254386353131 : Int64)))), .second, .val (.int (1 : Int32)), .val (.ref b50), .val (.long (own_mix ((q1 + q2) + (-7046029254386353131 : Int64)))), .second, .unset, .unset, .unset] [(.int (1 : Int32)), (.int (1 : Int32))]) := fun t k => by
      refine go81 t ?_
      refine XS.ifNo X70.here hx rfl (hb hby at_95) rfl (Jvm.Free.XT.ll_ne_f ((own_inj q1 q2).mpr hc80)) ?_
      show Steps p.tables e below (T70.setTop (mkF m 98 #[.val (.long q1), .second, .val (.long q2), .second, .val (.ref b1), .val (.long (own_mix (q1 + (-7046029254386353131 : Int64)))), .second, .val (.long (own_mix ((q1 + (-7046029254386353131 : Int64)) + (-7046029254386353131 : Int64)))), .second, .val (.ref b25), .val (.long (own_mix ((q1 + (-7046029254386353131 : Int64)) + (-7046029254386353131 : Int64)))), .second, .val (.int (1 : Int32)), .val (.ref b50), .val (.long (own_mix ((q1 + q2) + (-7046029254386353131 : Int64)))), .second, .unset, .unset, .unset] [(.int (1 : Int32))])) _
      refine XS.iconst X70.here hx rfl (hb hby at_98) ?_
      show Steps p.tables e below (T70.setTop (mkF m 99 #[.val (.long q1), .second, .val (.long q2), .second, .val (.ref b1), .val (.long (own_mix (q1 + (-7046029254386353131 : Int64)))), .second, .val (.long (own_mix ((q1 + (-7046029254386353131 : Int64)) + (-7046029254386353131 : Int64)))), .second, .val (.ref b25), .val (.long (own_mix ((q1 + (-7046029254386353131 : Int64)) + (-7046029254386353131 : Int64)))), .second, .val (.int (1 : Int32)), .val (.ref b50), .val (.long (own_mix ((q1 + q2) + (-7046029254386353131 : Int64)))), .second, .unset, .unset, .unset] [(.int (1 : Int32)), (.int (1 : Int32))])) _
      refine XS.goto X70.here hx rfl (pc0 := 99) (pc' := 103) rfl (hb hby at_99) (by decide) (by decide) ?_
      show Steps p.tables e below (T70.setTop (mkF m 103 #[.val (.long q1), .second, .val (.long q2), .second, .val (.ref b1), .val (.long (own_mix (q1 + (-7046029254386353131 : Int64)))), .second, .val (.long (own_mix ((q1 + (-7046029254386353131 : Int64)) + (-7046029254386353131 : Int64)))), .second, .val (.ref b25), .val (.long (own_mix ((q1 + (-7046029254386353131 : Int64)) + (-7046029254386353131 : Int64)))), .second, .val (.int (1 : Int32)), .val (.ref b50), .val (.long (own_mix ((q1 + q2) + (-7046029254386353131 : Int64)))), .second, .unset, .unset, .unset] [(.int (1 : Int32)), (.int (1 : Int32))])) _
      exact k
    have go83 : Goes p e below s₁ (entryFrame m #[(.long q1), (.long q2)] maxLocals) T70 (mkF m 113 #[.val (.long q1), .second, .val (.long q2), .second, .val (.ref b1), .val (.long (own_mix (q1 + (-7046029254386353131 : Int64)))), .second, .val (.long (own_mix ((q1 + (-7046029254386353131 : Int64)) + (-7046029254386353131 : Int64)))), .second, .val (.ref b25), .val (.long (own_mix ((q1 + (-7046029254386353131 : Int64)) + (-7046029254386353131 : Int64)))), .second, .val (.int (1 : Int32)), .val (.ref b50), .val (.long (own_mix ((q1 + q2) + (-7046029254386353131 : Int64)))), .second, .val (.int (1 : Int32)), .unset, .unset] []) := fun t k => by
      refine go82 t ?_
      refine XS.icmpNo X70.here hx rfl (hb hby at_103) rfl (Jvm.Free.XT.ii_ne_f (by decide)) ?_
      show Steps p.tables e below (T70.setTop (mkF m 106 #[.val (.long q1), .second, .val (.long q2), .second, .val (.ref b1), .val (.long (own_mix (q1 + (-7046029254386353131 : Int64)))), .second, .val (.long (own_mix ((q1 + (-7046029254386353131 : Int64)) + (-7046029254386353131 : Int64)))), .second, .val (.ref b25), .val (.long (own_mix ((q1 + (-7046029254386353131 : Int64)) + (-7046029254386353131 : Int64)))), .second, .val (.int (1 : Int32)), .val (.ref b50), .val (.long (own_mix ((q1 + q2) + (-7046029254386353131 : Int64)))), .second, .unset, .unset, .unset] [])) _
      refine XS.iconst X70.here hx rfl (hb hby at_106) ?_
      show Steps p.tables e below (T70.setTop (mkF m 107 #[.val (.long q1), .second, .val (.long q2), .second, .val (.ref b1), .val (.long (own_mix (q1 + (-7046029254386353131 : Int64)))), .second, .val (.long (own_mix ((q1 + (-7046029254386353131 : Int64)) + (-7046029254386353131 : Int64)))), .second, .val (.ref b25), .val (.long (own_mix ((q1 + (-7046029254386353131 : Int64)) + (-7046029254386353131 : Int64)))), .second, .val (.int (1 : Int32)), .val (.ref b50), .val (.long (own_mix ((q1 + q2) + (-7046029254386353131 : Int64)))), .second, .unset, .unset, .unset] [(.int (1 : Int32))])) _
      refine XS.goto X70.here hx rfl (pc0 := 107) (pc' := 111) rfl (hb hby at_107) (by decide) (by decide) ?_
      show Steps p.tables e below (T70.setTop (mkF m 111 #[.val (.long q1), .second, .val (.long q2), .second, .val (.ref b1), .val (.long (own_mix (q1 + (-7046029254386353131 : Int64)))), .second, .val (.long (own_mix ((q1 + (-7046029254386353131 : Int64)) + (-7046029254386353131 : Int64)))), .second, .val (.ref b25), .val (.long (own_mix ((q1 + (-7046029254386353131 : Int64)) + (-7046029254386353131 : Int64)))), .second, .val (.int (1 : Int32)), .val (.ref b50), .val (.long (own_mix ((q1 + q2) + (-7046029254386353131 : Int64)))), .second, .unset, .unset, .unset] [(.int (1 : Int32))])) _
      refine XS.istore X70.here hx rfl (hb hby at_111) rfl (l' := #[.val (.long q1), .second, .val (.long q2), .second, .val (.ref b1), .val (.long (own_mix (q1 + (-7046029254386353131 : Int64)))), .second, .val (.long (own_mix ((q1 + (-7046029254386353131 : Int64)) + (-7046029254386353131 : Int64)))), .second, .val (.ref b25), .val (.long (own_mix ((q1 + (-7046029254386353131 : Int64)) + (-7046029254386353131 : Int64)))), .second, .val (.int (1 : Int32)), .val (.ref b50), .val (.long (own_mix ((q1 + q2) + (-7046029254386353131 : Int64)))), .second, .val (.int (1 : Int32)), .unset, .unset]) rfl ?_
      show Steps p.tables e below (T70.setTop (mkF m 113 #[.val (.long q1), .second, .val (.long q2), .second, .val (.ref b1), .val (.long (own_mix (q1 + (-7046029254386353131 : Int64)))), .second, .val (.long (own_mix ((q1 + (-7046029254386353131 : Int64)) + (-7046029254386353131 : Int64)))), .second, .val (.ref b25), .val (.long (own_mix ((q1 + (-7046029254386353131 : Int64)) + (-7046029254386353131 : Int64)))), .second, .val (.int (1 : Int32)), .val (.ref b50), .val (.long (own_mix ((q1 + q2) + (-7046029254386353131 : Int64)))), .second, .val (.int (1 : Int32)), .unset, .unset] [])) _
      exact k
    obtain ⟨T84, h84, X84, e84, E84, A84, D84, -, st84⟩ := newO X70 hx hZ hown (hw _ (List.mem_of_getElem? (i := 0) rfl)) (hw _ (List.mem_of_getElem? (i := 1) rfl)) (hw _ (List.mem_of_getElem? (i := 2) rfl)) rfl (g := (mkF m 113 #[.val (.long q1), .second, .val (.long q2), .second, .val (.ref b1), .val (.long (own_mix (q1 + (-7046029254386353131 : Int64)))), .second, .val (.long (own_mix ((q1 + (-7046029254386353131 : Int64)) + (-7046029254386353131 : Int64)))), .second, .val (.ref b25), .val (.long (own_mix ((q1 + (-7046029254386353131 : Int64)) + (-7046029254386353131 : Int64)))), .second, .val (.int (1 : Int32)), .val (.ref b50), .val (.long (own_mix ((q1 + q2) + (-7046029254386353131 : Int64)))), .second, .val (.int (1 : Int32)), .unset, .unset] [])) rfl (hb hby at_113) (by decide) (by decide)
    obtain ⟨b84, g_b_b84⟩ : ∃ z, z = T70.heap.size := ⟨_, rfl⟩
    have le_b84 : T70.heap.size ≤ b84 := Nat.le_of_eq g_b_b84.symm
    have gn_b84 : n0 ≤ b84 := Nat.le_trans Z76 le_b84
    have sz_b84 : h0.size ≤ b84 := Nat.le_trans K77.1 le_b84
    rw [← g_b_b84] at A84 D84 st84
    have f85 := f71.ext E84
    have f86 := f72.ext E84
    have f87 := f73.ext E84
    have f88 := f74.ext E84
    have f89 := f75.ext E84
    have f90 := Fq70.ext E84
    have Z91 := Nat.le_trans Z76 E84.1
    have K92 := K77.ext E84
    have f93 : Fld Z h84 b84 "com/example/covermesh/covermesh/graph/SeededRandom" "state" "J" (.long (0 : Int64)) := D84 (Or.inl (hw _ (List.mem_of_getElem? (i := 10) rfl))) (ty := .long) (by decide)
    have go94 : Goes p e below s₁ (entryFrame m #[(.long q1), (.long q2)] maxLocals) T84 (mkF m 116 #[.val (.long q1), .second, .val (.long q2), .second, .val (.ref b1), .val (.long (own_mix (q1 + (-7046029254386353131 : Int64)))), .second, .val (.long (own_mix ((q1 + (-7046029254386353131 : Int64)) + (-7046029254386353131 : Int64)))), .second, .val (.ref b25), .val (.long (own_mix ((q1 + (-7046029254386353131 : Int64)) + (-7046029254386353131 : Int64)))), .second, .val (.int (1 : Int32)), .val (.ref b50), .val (.long (own_mix ((q1 + q2) + (-7046029254386353131 : Int64)))), .second, .val (.int (1 : Int32)), .unset, .unset] [(.ref b84)]) := fun t k => go83 t (st84 t k)
    have go95 : Goes p e below s₁ (entryFrame m #[(.long q1), (.long q2)] maxLocals) T84 (mkF m 118 #[.val (.long q1), .second, .val (.long q2), .second, .val (.ref b1), .val (.long (own_mix (q1 + (-7046029254386353131 : Int64)))), .second, .val (.long (own_mix ((q1 + (-7046029254386353131 : Int64)) + (-7046029254386353131 : Int64)))), .second, .val (.ref b25), .val (.long (own_mix ((q1 + (-7046029254386353131 : Int64)) + (-7046029254386353131 : Int64)))), .second, .val (.int (1 : Int32)), .val (.ref b50), .val (.long (own_mix ((q1 + q2) + (-7046029254386353131 : Int64)))), .second, .val (.int (1 : Int32)), .unset, .unset] [(.long (0 : Int64)), (.ref b84), (.ref b84)]) := fun t k => by
      refine go94 t ?_
      refine XS.dup X84.here hx rfl (hb hby at_116) rfl rfl ?_
      show Steps p.tables e below (T84.setTop (mkF m 117 #[.val (.long q1), .second, .val (.long q2), .second, .val (.ref b1), .val (.long (own_mix (q1 + (-7046029254386353131 : Int64)))), .second, .val (.long (own_mix ((q1 + (-7046029254386353131 : Int64)) + (-7046029254386353131 : Int64)))), .second, .val (.ref b25), .val (.long (own_mix ((q1 + (-7046029254386353131 : Int64)) + (-7046029254386353131 : Int64)))), .second, .val (.int (1 : Int32)), .val (.ref b50), .val (.long (own_mix ((q1 + q2) + (-7046029254386353131 : Int64)))), .second, .val (.int (1 : Int32)), .unset, .unset] [(.ref b84), (.ref b84)])) _
      refine XS.lconst X84.here hx rfl (hb hby at_117) ?_
      show Steps p.tables e below (T84.setTop (mkF m 118 #[.val (.long q1), .second, .val (.long q2), .second, .val (.ref b1), .val (.long (own_mix (q1 + (-7046029254386353131 : Int64)))), .second, .val (.long (own_mix ((q1 + (-7046029254386353131 : Int64)) + (-7046029254386353131 : Int64)))), .second, .val (.ref b25), .val (.long (own_mix ((q1 + (-7046029254386353131 : Int64)) + (-7046029254386353131 : Int64)))), .second, .val (.int (1 : Int32)), .val (.ref b50), .val (.long (own_mix ((q1 + q2) + (-7046029254386353131 : Int64)))), .second, .val (.int (1 : Int32)), .unset, .unset] [(.long (0 : Int64)), (.ref b84), (.ref b84)])) _
      exact k
    obtain ⟨_, _, ⟨T96, L96, k96, n96⟩, -, X96, ⟨Lc96, hQ96, l96, y96, z96⟩, st96⟩ := X84.specialBack hx (y := (⟨"com/example/covermesh/covermesh/graph/SeededRandom", "<init>", "(J)V"⟩ : MethodName)) rfl hown (mvT hZ (hw _ (List.mem_of_getElem? (i := 3) rfl))) (mvT hZ (hw _ (List.mem_of_getElem? (i := 4) rfl))) (mvT hZ (hw _ (List.mem_of_getElem? (i := 5) rfl))) (by decide) (backOf (W := 1) (rm2 l Z a0 hw [] b84 (0 : Int64) (.long (0 : Int64)) h84 n0 Z91 f93 A84 gn_b84) hZ (hw _ (List.mem_of_getElem? (i := 5) rfl)) (hw _ (List.mem_of_getElem? (i := 2) rfl)) (by decide) (by decide)) (g := (mkF m 118 #[.val (.long q1), .second, .val (.long q2), .second, .val (.ref b1), .val (.long (own_mix (q1 + (-7046029254386353131 : Int64)))), .second, .val (.long (own_mix ((q1 + (-7046029254386353131 : Int64)) + (-7046029254386353131 : Int64)))), .second, .val (.ref b25), .val (.long (own_mix ((q1 + (-7046029254386353131 : Int64)) + (-7046029254386353131 : Int64)))), .second, .val (.int (1 : Int32)), .val (.ref b50), .val (.long (own_mix ((q1 + q2) + (-7046029254386353131 : Int64)))), .second, .val (.int (1 : Int32)), .unset, .unset] [(.long (0 : Int64)), (.ref b84), (.ref b84)])) rfl (by rw [hml]; rfl) (Steps.refl _) (a := b84) (argsL := [(.long (0 : Int64))]) (rest := [(.ref b84)]) (lenOf pd_1 rfl) rfl (by show 2 * 0 + _ ≤ _; exact Nat.le_of_eq rfl) (hb hby at_118) (fun _ _ => ⟨rfl, e84, (by decide : 4 + 0 ≤ room_1.cells), (by decide : 4 + 0 ≤ room_1.slots)⟩)
    dsimp only [Pt.U, Pt.locs, Pt.cells, Pt.slots] at X96 l96 y96 z96 st96 hQ96
    subst l96 y96 z96
    obtain ⟨rfl, N96q, Kq96, Eq96, Fq96⟩ := hQ96
    have N96 := Fr.app N70 N96q
    have f97 := f85.keep Kq96
    have f98 := f86.keep Kq96 (ninS (Nat.ne_of_lt (Nat.lt_of_lt_of_le f72.lt le_b84)) nin0)
    have f99 := f87.keep Kq96
    have f100 := f88.keep Kq96 (ninS (Nat.ne_of_lt (Nat.lt_of_lt_of_le f74.lt le_b84)) nin0)
    have f101 := f89.keep Kq96
    have f102 := f90.keep Kq96 (ninS (Nat.ne_of_lt (Nat.lt_of_lt_of_le Fq70.lt le_b84)) nin0)
    have f103 := A84.keep Kq96
    have Z104 := Nat.le_trans Z91 Kq96.1
    have K105 := K92.trans Kq96 (allS (Or.inr sz_b84) all0)
    have go106 : Goes p e below s₁ (entryFrame m #[(.long q1), (.long q2)] maxLocals) T96 (mkF m 121 #[.val (.long q1), .second, .val (.long q2), .second, .val (.ref b1), .val (.long (own_mix (q1 + (-7046029254386353131 : Int64)))), .second, .val (.long (own_mix ((q1 + (-7046029254386353131 : Int64)) + (-7046029254386353131 : Int64)))), .second, .val (.ref b25), .val (.long (own_mix ((q1 + (-7046029254386353131 : Int64)) + (-7046029254386353131 : Int64)))), .second, .val (.int (1 : Int32)), .val (.ref b50), .val (.long (own_mix ((q1 + q2) + (-7046029254386353131 : Int64)))), .second, .val (.int (1 : Int32)), .unset, .unset] [(.ref b84)]) := fun t k => go95 t (st96.trans k)
    have go107 : Goes p e below s₁ (entryFrame m #[(.long q1), (.long q2)] maxLocals) T96 (mkF m 125 #[.val (.long q1), .second, .val (.long q2), .second, .val (.ref b1), .val (.long (own_mix (q1 + (-7046029254386353131 : Int64)))), .second, .val (.long (own_mix ((q1 + (-7046029254386353131 : Int64)) + (-7046029254386353131 : Int64)))), .second, .val (.ref b25), .val (.long (own_mix ((q1 + (-7046029254386353131 : Int64)) + (-7046029254386353131 : Int64)))), .second, .val (.int (1 : Int32)), .val (.ref b50), .val (.long (own_mix ((q1 + q2) + (-7046029254386353131 : Int64)))), .second, .val (.int (1 : Int32)), .val (.ref b84), .unset] [(.ref b84)]) := fun t k => by
      refine go106 t ?_
      refine XS.astore X96.here hx rfl (hb hby at_121) rfl rfl (l' := #[.val (.long q1), .second, .val (.long q2), .second, .val (.ref b1), .val (.long (own_mix (q1 + (-7046029254386353131 : Int64)))), .second, .val (.long (own_mix ((q1 + (-7046029254386353131 : Int64)) + (-7046029254386353131 : Int64)))), .second, .val (.ref b25), .val (.long (own_mix ((q1 + (-7046029254386353131 : Int64)) + (-7046029254386353131 : Int64)))), .second, .val (.int (1 : Int32)), .val (.ref b50), .val (.long (own_mix ((q1 + q2) + (-7046029254386353131 : Int64)))), .second, .val (.int (1 : Int32)), .val (.ref b84), .unset]) rfl ?_
      show Steps p.tables e below (T96.setTop (mkF m 123 #[.val (.long q1), .second, .val (.long q2), .second, .val (.ref b1), .val (.long (own_mix (q1 + (-7046029254386353131 : Int64)))), .second, .val (.long (own_mix ((q1 + (-7046029254386353131 : Int64)) + (-7046029254386353131 : Int64)))), .second, .val (.ref b25), .val (.long (own_mix ((q1 + (-7046029254386353131 : Int64)) + (-7046029254386353131 : Int64)))), .second, .val (.int (1 : Int32)), .val (.ref b50), .val (.long (own_mix ((q1 + q2) + (-7046029254386353131 : Int64)))), .second, .val (.int (1 : Int32)), .val (.ref b84), .unset] [])) _
      refine XS.aload X96.here hx rfl (hb hby at_123) rfl rfl ?_
      show Steps p.tables e below (T96.setTop (mkF m 125 #[.val (.long q1), .second, .val (.long q2), .second, .val (.ref b1), .val (.long (own_mix (q1 + (-7046029254386353131 : Int64)))), .second, .val (.long (own_mix ((q1 + (-7046029254386353131 : Int64)) + (-7046029254386353131 : Int64)))), .second, .val (.ref b25), .val (.long (own_mix ((q1 + (-7046029254386353131 : Int64)) + (-7046029254386353131 : Int64)))), .second, .val (.int (1 : Int32)), .val (.ref b50), .val (.long (own_mix ((q1 + q2) + (-7046029254386353131 : Int64)))), .second, .val (.int (1 : Int32)), .val (.ref b84), .unset] [(.ref b84)])) _
      exact k
    obtain ⟨cq108, kq108, q108a, q108b, q108c⟩ := isOf hZ rfl f103
    obtain ⟨_, _, ⟨T108, L108, k108, n108⟩, -, X108, ⟨Lc108, hQ108, l108, y108, z108⟩, st108⟩ := X96.virtualBack hx (y := (⟨"com/example/covermesh/covermesh/graph/SeededRandom", "nextLong", "()J"⟩ : MethodName)) (z := (⟨"com/example/covermesh/covermesh/graph/SeededRandom", "nextLong", "()J"⟩ : MethodName)) hown (mvT hZ (hw _ (List.mem_of_getElem? (i := 11) rfl))) (mvT hZ (hw _ (List.mem_of_getElem? (i := 12) rfl))) (notFace_of_selects (args := #[]) (mvT hZ (hw _ (List.mem_of_getElem? (i := 14) rfl)))) (mvT hZ (hw _ (List.mem_of_getElem? (i := 14) rfl))) (mvT hZ (hw _ (List.mem_of_getElem? (i := 13) rfl))) (by decide) (backOf (W := 0) (rm3 l Z a0 hw [] b84 (0 : Int64) T96.heap n0 Z104 Fq96 f103 gn_b84) hZ (hw _ (List.mem_of_getElem? (i := 15) rfl)) (hw _ (List.mem_of_getElem? (i := 2) rfl)) (by decide) (by decide)) q108a q108c (g := (mkF m 125 #[.val (.long q1), .second, .val (.long q2), .second, .val (.ref b1), .val (.long (own_mix (q1 + (-7046029254386353131 : Int64)))), .second, .val (.long (own_mix ((q1 + (-7046029254386353131 : Int64)) + (-7046029254386353131 : Int64)))), .second, .val (.ref b25), .val (.long (own_mix ((q1 + (-7046029254386353131 : Int64)) + (-7046029254386353131 : Int64)))), .second, .val (.int (1 : Int32)), .val (.ref b50), .val (.long (own_mix ((q1 + q2) + (-7046029254386353131 : Int64)))), .second, .val (.int (1 : Int32)), .val (.ref b84), .unset] [(.ref b84)])) rfl (by rw [hml]; rfl) (Steps.refl _) (argsL := []) (rest := []) (lenOf pd_2 rfl) rfl (by show 2 * 0 + _ ≤ _; exact Nat.le_of_eq rfl) (hb hby at_125) (fun _ _ => ⟨rfl, rfl, (by decide : 4 + 0 ≤ room_1.cells), (by decide : 4 + 0 ≤ room_1.slots)⟩)
    dsimp only [Pt.U, Pt.locs, Pt.cells, Pt.slots] at X108 l108 y108 z108 st108 hQ108
    subst l108 y108 z108
    obtain ⟨rfl, N108q, Kq108, Eq108, Fq108⟩ := hQ108
    have N108 := Fr.app N96 N108q
    have f109 := f97.keep Kq108
    have f110 := f98.keep Kq108 (ninS (Nat.ne_of_lt (Nat.lt_of_lt_of_le f72.lt le_b84)) nin0)
    have f111 := f99.keep Kq108
    have f112 := f100.keep Kq108 (ninS (Nat.ne_of_lt (Nat.lt_of_lt_of_le f74.lt le_b84)) nin0)
    have f113 := f101.keep Kq108
    have f114 := f102.keep Kq108 (ninS (Nat.ne_of_lt (Nat.lt_of_lt_of_le Fq70.lt le_b84)) nin0)
    have f115 := f103.keep Kq108
    have Z116 := Nat.le_trans Z104 Kq108.1
    have K117 := K105.trans Kq108 (allS (Or.inr sz_b84) all0)
    have go118 : Goes p e below s₁ (entryFrame m #[(.long q1), (.long q2)] maxLocals) T108 (mkF m 128 #[.val (.long q1), .second, .val (.long q2), .second, .val (.ref b1), .val (.long (own_mix (q1 + (-7046029254386353131 : Int64)))), .second, .val (.long (own_mix ((q1 + (-7046029254386353131 : Int64)) + (-7046029254386353131 : Int64)))), .second, .val (.ref b25), .val (.long (own_mix ((q1 + (-7046029254386353131 : Int64)) + (-7046029254386353131 : Int64)))), .second, .val (.int (1 : Int32)), .val (.ref b50), .val (.long (own_mix ((q1 + q2) + (-7046029254386353131 : Int64)))), .second, .val (.int (1 : Int32)), .val (.ref b84), .unset] [(.long (own_mix ((0 : Int64) + (-7046029254386353131 : Int64))))]) := fun t k => go107 t (st108.trans k)
    have go119 : Goes p e below s₁ (entryFrame m #[(.long q1), (.long q2)] maxLocals) T108 (mkF m 132 #[.val (.long q1), .second, .val (.long q2), .second, .val (.ref b1), .val (.long (own_mix (q1 + (-7046029254386353131 : Int64)))), .second, .val (.long (own_mix ((q1 + (-7046029254386353131 : Int64)) + (-7046029254386353131 : Int64)))), .second, .val (.ref b25), .val (.long (own_mix ((q1 + (-7046029254386353131 : Int64)) + (-7046029254386353131 : Int64)))), .second, .val (.int (1 : Int32)), .val (.ref b50), .val (.long (own_mix ((q1 + q2) + (-7046029254386353131 : Int64)))), .second, .val (.int (1 : Int32)), .val (.ref b84), .unset] [(.int (Jvm.Free.XT.cmpL (own_mix ((0 : Int64) + (-7046029254386353131 : Int64))) (-2152535657050944081 : Int64)))]) := fun t k => by
      refine go118 t ?_
      refine X108.ldc2Long hx hown (mvT hZ (hw _ (List.mem_of_getElem? (i := 23) rfl))) (g := (mkF m 128 #[.val (.long q1), .second, .val (.long q2), .second, .val (.ref b1), .val (.long (own_mix (q1 + (-7046029254386353131 : Int64)))), .second, .val (.long (own_mix ((q1 + (-7046029254386353131 : Int64)) + (-7046029254386353131 : Int64)))), .second, .val (.ref b25), .val (.long (own_mix ((q1 + (-7046029254386353131 : Int64)) + (-7046029254386353131 : Int64)))), .second, .val (.int (1 : Int32)), .val (.ref b50), .val (.long (own_mix ((q1 + q2) + (-7046029254386353131 : Int64)))), .second, .val (.int (1 : Int32)), .val (.ref b84), .unset] [(.long (own_mix ((0 : Int64) + (-7046029254386353131 : Int64))))])) rfl (hb hby at_128) _ ?_
      show Steps p.tables e below (T108.setTop (mkF m 131 #[.val (.long q1), .second, .val (.long q2), .second, .val (.ref b1), .val (.long (own_mix (q1 + (-7046029254386353131 : Int64)))), .second, .val (.long (own_mix ((q1 + (-7046029254386353131 : Int64)) + (-7046029254386353131 : Int64)))), .second, .val (.ref b25), .val (.long (own_mix ((q1 + (-7046029254386353131 : Int64)) + (-7046029254386353131 : Int64)))), .second, .val (.int (1 : Int32)), .val (.ref b50), .val (.long (own_mix ((q1 + q2) + (-7046029254386353131 : Int64)))), .second, .val (.int (1 : Int32)), .val (.ref b84), .unset] [(.long (-2152535657050944081 : Int64)), (.long (own_mix ((0 : Int64) + (-7046029254386353131 : Int64))))])) _
      refine XS.lcmp X108.here hx rfl (hb hby at_131) rfl ?_
      show Steps p.tables e below (T108.setTop (mkF m 132 #[.val (.long q1), .second, .val (.long q2), .second, .val (.ref b1), .val (.long (own_mix (q1 + (-7046029254386353131 : Int64)))), .second, .val (.long (own_mix ((q1 + (-7046029254386353131 : Int64)) + (-7046029254386353131 : Int64)))), .second, .val (.ref b25), .val (.long (own_mix ((q1 + (-7046029254386353131 : Int64)) + (-7046029254386353131 : Int64)))), .second, .val (.int (1 : Int32)), .val (.ref b50), .val (.long (own_mix ((q1 + q2) + (-7046029254386353131 : Int64)))), .second, .val (.int (1 : Int32)), .val (.ref b84), .unset] [(.int (Jvm.Free.XT.cmpL (own_mix ((0 : Int64) + (-7046029254386353131 : Int64))) (-2152535657050944081 : Int64)))])) _
      exact k
    have go120 : Goes p e below s₁ (entryFrame m #[(.long q1), (.long q2)] maxLocals) T108 (mkF m 144 #[.val (.long q1), .second, .val (.long q2), .second, .val (.ref b1), .val (.long (own_mix (q1 + (-7046029254386353131 : Int64)))), .second, .val (.long (own_mix ((q1 + (-7046029254386353131 : Int64)) + (-7046029254386353131 : Int64)))), .second, .val (.ref b25), .val (.long (own_mix ((q1 + (-7046029254386353131 : Int64)) + (-7046029254386353131 : Int64)))), .second, .val (.int (1 : Int32)), .val (.ref b50), .val (.long (own_mix ((q1 + q2) + (-7046029254386353131 : Int64)))), .second, .val (.int (1 : Int32)), .val (.ref b84), .val (.int (1 : Int32))] [(.int (1 : Int32))]) := fun t k => by
      refine go119 t ?_
      refine XS.ifNo X108.here hx rfl (hb hby at_132) rfl (Jvm.Free.XT.ll_ne_f own_anchor) ?_
      show Steps p.tables e below (T108.setTop (mkF m 135 #[.val (.long q1), .second, .val (.long q2), .second, .val (.ref b1), .val (.long (own_mix (q1 + (-7046029254386353131 : Int64)))), .second, .val (.long (own_mix ((q1 + (-7046029254386353131 : Int64)) + (-7046029254386353131 : Int64)))), .second, .val (.ref b25), .val (.long (own_mix ((q1 + (-7046029254386353131 : Int64)) + (-7046029254386353131 : Int64)))), .second, .val (.int (1 : Int32)), .val (.ref b50), .val (.long (own_mix ((q1 + q2) + (-7046029254386353131 : Int64)))), .second, .val (.int (1 : Int32)), .val (.ref b84), .unset] [])) _
      refine XS.iconst X108.here hx rfl (hb hby at_135) ?_
      show Steps p.tables e below (T108.setTop (mkF m 136 #[.val (.long q1), .second, .val (.long q2), .second, .val (.ref b1), .val (.long (own_mix (q1 + (-7046029254386353131 : Int64)))), .second, .val (.long (own_mix ((q1 + (-7046029254386353131 : Int64)) + (-7046029254386353131 : Int64)))), .second, .val (.ref b25), .val (.long (own_mix ((q1 + (-7046029254386353131 : Int64)) + (-7046029254386353131 : Int64)))), .second, .val (.int (1 : Int32)), .val (.ref b50), .val (.long (own_mix ((q1 + q2) + (-7046029254386353131 : Int64)))), .second, .val (.int (1 : Int32)), .val (.ref b84), .unset] [(.int (1 : Int32))])) _
      refine XS.goto X108.here hx rfl (pc0 := 136) (pc' := 140) rfl (hb hby at_136) (by decide) (by decide) ?_
      show Steps p.tables e below (T108.setTop (mkF m 140 #[.val (.long q1), .second, .val (.long q2), .second, .val (.ref b1), .val (.long (own_mix (q1 + (-7046029254386353131 : Int64)))), .second, .val (.long (own_mix ((q1 + (-7046029254386353131 : Int64)) + (-7046029254386353131 : Int64)))), .second, .val (.ref b25), .val (.long (own_mix ((q1 + (-7046029254386353131 : Int64)) + (-7046029254386353131 : Int64)))), .second, .val (.int (1 : Int32)), .val (.ref b50), .val (.long (own_mix ((q1 + q2) + (-7046029254386353131 : Int64)))), .second, .val (.int (1 : Int32)), .val (.ref b84), .unset] [(.int (1 : Int32))])) _
      refine XS.istore X108.here hx rfl (hb hby at_140) rfl (l' := #[.val (.long q1), .second, .val (.long q2), .second, .val (.ref b1), .val (.long (own_mix (q1 + (-7046029254386353131 : Int64)))), .second, .val (.long (own_mix ((q1 + (-7046029254386353131 : Int64)) + (-7046029254386353131 : Int64)))), .second, .val (.ref b25), .val (.long (own_mix ((q1 + (-7046029254386353131 : Int64)) + (-7046029254386353131 : Int64)))), .second, .val (.int (1 : Int32)), .val (.ref b50), .val (.long (own_mix ((q1 + q2) + (-7046029254386353131 : Int64)))), .second, .val (.int (1 : Int32)), .val (.ref b84), .val (.int (1 : Int32))]) rfl ?_
      show Steps p.tables e below (T108.setTop (mkF m 142 #[.val (.long q1), .second, .val (.long q2), .second, .val (.ref b1), .val (.long (own_mix (q1 + (-7046029254386353131 : Int64)))), .second, .val (.long (own_mix ((q1 + (-7046029254386353131 : Int64)) + (-7046029254386353131 : Int64)))), .second, .val (.ref b25), .val (.long (own_mix ((q1 + (-7046029254386353131 : Int64)) + (-7046029254386353131 : Int64)))), .second, .val (.int (1 : Int32)), .val (.ref b50), .val (.long (own_mix ((q1 + q2) + (-7046029254386353131 : Int64)))), .second, .val (.int (1 : Int32)), .val (.ref b84), .val (.int (1 : Int32))] [])) _
      refine XS.iload X108.here hx rfl (hb hby at_142) rfl ?_
      show Steps p.tables e below (T108.setTop (mkF m 144 #[.val (.long q1), .second, .val (.long q2), .second, .val (.ref b1), .val (.long (own_mix (q1 + (-7046029254386353131 : Int64)))), .second, .val (.long (own_mix ((q1 + (-7046029254386353131 : Int64)) + (-7046029254386353131 : Int64)))), .second, .val (.ref b25), .val (.long (own_mix ((q1 + (-7046029254386353131 : Int64)) + (-7046029254386353131 : Int64)))), .second, .val (.int (1 : Int32)), .val (.ref b50), .val (.long (own_mix ((q1 + q2) + (-7046029254386353131 : Int64)))), .second, .val (.int (1 : Int32)), .val (.ref b84), .val (.int (1 : Int32))] [(.int (1 : Int32))])) _
      exact k
    have go121 : Goes p e below s₁ (entryFrame m #[(.long q1), (.long q2)] maxLocals) T108 (mkF m 149 #[.val (.long q1), .second, .val (.long q2), .second, .val (.ref b1), .val (.long (own_mix (q1 + (-7046029254386353131 : Int64)))), .second, .val (.long (own_mix ((q1 + (-7046029254386353131 : Int64)) + (-7046029254386353131 : Int64)))), .second, .val (.ref b25), .val (.long (own_mix ((q1 + (-7046029254386353131 : Int64)) + (-7046029254386353131 : Int64)))), .second, .val (.int (1 : Int32)), .val (.ref b50), .val (.long (own_mix ((q1 + q2) + (-7046029254386353131 : Int64)))), .second, .val (.int (1 : Int32)), .val (.ref b84), .val (.int (1 : Int32))] [(.int (1 : Int32))]) := fun t k => by
      refine go120 t ?_
      refine XS.ifNo X108.here hx rfl (hb hby at_144) rfl (Jvm.Free.XT.i0_eq_f (by decide)) ?_
      show Steps p.tables e below (T108.setTop (mkF m 147 #[.val (.long q1), .second, .val (.long q2), .second, .val (.ref b1), .val (.long (own_mix (q1 + (-7046029254386353131 : Int64)))), .second, .val (.long (own_mix ((q1 + (-7046029254386353131 : Int64)) + (-7046029254386353131 : Int64)))), .second, .val (.ref b25), .val (.long (own_mix ((q1 + (-7046029254386353131 : Int64)) + (-7046029254386353131 : Int64)))), .second, .val (.int (1 : Int32)), .val (.ref b50), .val (.long (own_mix ((q1 + q2) + (-7046029254386353131 : Int64)))), .second, .val (.int (1 : Int32)), .val (.ref b84), .val (.int (1 : Int32))] [])) _
      refine XS.iload X108.here hx rfl (hb hby at_147) rfl ?_
      show Steps p.tables e below (T108.setTop (mkF m 149 #[.val (.long q1), .second, .val (.long q2), .second, .val (.ref b1), .val (.long (own_mix (q1 + (-7046029254386353131 : Int64)))), .second, .val (.long (own_mix ((q1 + (-7046029254386353131 : Int64)) + (-7046029254386353131 : Int64)))), .second, .val (.ref b25), .val (.long (own_mix ((q1 + (-7046029254386353131 : Int64)) + (-7046029254386353131 : Int64)))), .second, .val (.int (1 : Int32)), .val (.ref b50), .val (.long (own_mix ((q1 + q2) + (-7046029254386353131 : Int64)))), .second, .val (.int (1 : Int32)), .val (.ref b84), .val (.int (1 : Int32))] [(.int (1 : Int32))])) _
      exact k
    have go122 : Goes p e below s₁ (entryFrame m #[(.long q1), (.long q2)] maxLocals) T108 (mkF m 154 #[.val (.long q1), .second, .val (.long q2), .second, .val (.ref b1), .val (.long (own_mix (q1 + (-7046029254386353131 : Int64)))), .second, .val (.long (own_mix ((q1 + (-7046029254386353131 : Int64)) + (-7046029254386353131 : Int64)))), .second, .val (.ref b25), .val (.long (own_mix ((q1 + (-7046029254386353131 : Int64)) + (-7046029254386353131 : Int64)))), .second, .val (.int (1 : Int32)), .val (.ref b50), .val (.long (own_mix ((q1 + q2) + (-7046029254386353131 : Int64)))), .second, .val (.int (1 : Int32)), .val (.ref b84), .val (.int (1 : Int32))] [(.int (1 : Int32))]) := fun t k => by
      refine go121 t ?_
      refine XS.ifNo X108.here hx rfl (hb hby at_149) rfl (Jvm.Free.XT.i0_eq_f (by decide)) ?_
      show Steps p.tables e below (T108.setTop (mkF m 152 #[.val (.long q1), .second, .val (.long q2), .second, .val (.ref b1), .val (.long (own_mix (q1 + (-7046029254386353131 : Int64)))), .second, .val (.long (own_mix ((q1 + (-7046029254386353131 : Int64)) + (-7046029254386353131 : Int64)))), .second, .val (.ref b25), .val (.long (own_mix ((q1 + (-7046029254386353131 : Int64)) + (-7046029254386353131 : Int64)))), .second, .val (.int (1 : Int32)), .val (.ref b50), .val (.long (own_mix ((q1 + q2) + (-7046029254386353131 : Int64)))), .second, .val (.int (1 : Int32)), .val (.ref b84), .val (.int (1 : Int32))] [])) _
      refine XS.iload X108.here hx rfl (hb hby at_152) rfl ?_
      show Steps p.tables e below (T108.setTop (mkF m 154 #[.val (.long q1), .second, .val (.long q2), .second, .val (.ref b1), .val (.long (own_mix (q1 + (-7046029254386353131 : Int64)))), .second, .val (.long (own_mix ((q1 + (-7046029254386353131 : Int64)) + (-7046029254386353131 : Int64)))), .second, .val (.ref b25), .val (.long (own_mix ((q1 + (-7046029254386353131 : Int64)) + (-7046029254386353131 : Int64)))), .second, .val (.int (1 : Int32)), .val (.ref b50), .val (.long (own_mix ((q1 + q2) + (-7046029254386353131 : Int64)))), .second, .val (.int (1 : Int32)), .val (.ref b84), .val (.int (1 : Int32))] [(.int (1 : Int32))])) _
      exact k
    have go123 : Goes p e below s₁ (entryFrame m #[(.long q1), (.long q2)] maxLocals) T108 (mkF m 162 #[.val (.long q1), .second, .val (.long q2), .second, .val (.ref b1), .val (.long (own_mix (q1 + (-7046029254386353131 : Int64)))), .second, .val (.long (own_mix ((q1 + (-7046029254386353131 : Int64)) + (-7046029254386353131 : Int64)))), .second, .val (.ref b25), .val (.long (own_mix ((q1 + (-7046029254386353131 : Int64)) + (-7046029254386353131 : Int64)))), .second, .val (.int (1 : Int32)), .val (.ref b50), .val (.long (own_mix ((q1 + q2) + (-7046029254386353131 : Int64)))), .second, .val (.int (1 : Int32)), .val (.ref b84), .val (.int (1 : Int32))] [(.int (1 : Int32))]) := fun t k => by
      refine go122 t ?_
      refine XS.ifNo X108.here hx rfl (hb hby at_154) rfl (Jvm.Free.XT.i0_eq_f (by decide)) ?_
      show Steps p.tables e below (T108.setTop (mkF m 157 #[.val (.long q1), .second, .val (.long q2), .second, .val (.ref b1), .val (.long (own_mix (q1 + (-7046029254386353131 : Int64)))), .second, .val (.long (own_mix ((q1 + (-7046029254386353131 : Int64)) + (-7046029254386353131 : Int64)))), .second, .val (.ref b25), .val (.long (own_mix ((q1 + (-7046029254386353131 : Int64)) + (-7046029254386353131 : Int64)))), .second, .val (.int (1 : Int32)), .val (.ref b50), .val (.long (own_mix ((q1 + q2) + (-7046029254386353131 : Int64)))), .second, .val (.int (1 : Int32)), .val (.ref b84), .val (.int (1 : Int32))] [])) _
      refine XS.iconst X108.here hx rfl (hb hby at_157) ?_
      show Steps p.tables e below (T108.setTop (mkF m 158 #[.val (.long q1), .second, .val (.long q2), .second, .val (.ref b1), .val (.long (own_mix (q1 + (-7046029254386353131 : Int64)))), .second, .val (.long (own_mix ((q1 + (-7046029254386353131 : Int64)) + (-7046029254386353131 : Int64)))), .second, .val (.ref b25), .val (.long (own_mix ((q1 + (-7046029254386353131 : Int64)) + (-7046029254386353131 : Int64)))), .second, .val (.int (1 : Int32)), .val (.ref b50), .val (.long (own_mix ((q1 + q2) + (-7046029254386353131 : Int64)))), .second, .val (.int (1 : Int32)), .val (.ref b84), .val (.int (1 : Int32))] [(.int (1 : Int32))])) _
      refine XS.goto X108.here hx rfl (pc0 := 158) (pc' := 162) rfl (hb hby at_158) (by decide) (by decide) ?_
      show Steps p.tables e below (T108.setTop (mkF m 162 #[.val (.long q1), .second, .val (.long q2), .second, .val (.ref b1), .val (.long (own_mix (q1 + (-7046029254386353131 : Int64)))), .second, .val (.long (own_mix ((q1 + (-7046029254386353131 : Int64)) + (-7046029254386353131 : Int64)))), .second, .val (.ref b25), .val (.long (own_mix ((q1 + (-7046029254386353131 : Int64)) + (-7046029254386353131 : Int64)))), .second, .val (.int (1 : Int32)), .val (.ref b50), .val (.long (own_mix ((q1 + q2) + (-7046029254386353131 : Int64)))), .second, .val (.int (1 : Int32)), .val (.ref b84), .val (.int (1 : Int32))] [(.int (1 : Int32))])) _
      exact k
    obtain ⟨fs, hr, hrun, hended, hW, hsame⟩ := X108.leave (v := some (.int (1 : Int32))) (fun h => by rw [Bd.returns] at h; cases h)
    refine ⟨_, _, go123 _ ?_, hrun, hended, _, _, rfl, ?_, ⟨_, rfl⟩, hW, hsame.mono (by decide) (by decide)⟩
    · exact retN X108 hx (t := .boolean) Bd.returns (by simp) (hb hby at_162) hr
    · show Q0 Z _ _ _ _ _ T108.heap _
      exact ⟨rfl, N108⟩
  · have go124 : Goes p e below s₁ (entryFrame m #[(.long q1), (.long q2)] maxLocals) T70 (mkF m 95 #[.val (.long q1), .second, .val (.long q2), .second, .val (.ref b1), .val (.long (own_mix (q1 + (-7046029254386353131 : Int64)))), .second, .val (.long (own_mix ((q1 + (-7046029254386353131 : Int64)) + (-7046029254386353131 : Int64)))), .second, .val (.ref b25), .val (.long (own_mix ((q1 + (-7046029254386353131 : Int64)) + (-7046029254386353131 : Int64)))), .second, .val (.int (1 : Int32)), .val (.ref b50), .val (.long (own_mix ((q1 + q2) + (-7046029254386353131 : Int64)))), .second, .unset, .unset, .unset] [(.int (Jvm.Free.XT.cmpL (own_mix ((q1 + q2) + (-7046029254386353131 : Int64))) (own_mix (q1 + (-7046029254386353131 : Int64))))), (.int (0 : Int32))]) := fun t k => by
      refine go79 t ?_
      refine XS.ifYes X70.here hx rfl (pc0 := 82) (pc' := 89) rfl (hb hby at_82) rfl (Jvm.Free.XT.ll_ne_t hc80) (by decide) (by decide) ?_
      show Steps p.tables e below (T70.setTop (mkF m 89 #[.val (.long q1), .second, .val (.long q2), .second, .val (.ref b1), .val (.long (own_mix (q1 + (-7046029254386353131 : Int64)))), .second, .val (.long (own_mix ((q1 + (-7046029254386353131 : Int64)) + (-7046029254386353131 : Int64)))), .second, .val (.ref b25), .val (.long (own_mix ((q1 + (-7046029254386353131 : Int64)) + (-7046029254386353131 : Int64)))), .second, .val (.int (1 : Int32)), .val (.ref b50), .val (.long (own_mix ((q1 + q2) + (-7046029254386353131 : Int64)))), .second, .unset, .unset, .unset] [])) _
      refine XS.iconst X70.here hx rfl (hb hby at_89) ?_
      show Steps p.tables e below (T70.setTop (mkF m 90 #[.val (.long q1), .second, .val (.long q2), .second, .val (.ref b1), .val (.long (own_mix (q1 + (-7046029254386353131 : Int64)))), .second, .val (.long (own_mix ((q1 + (-7046029254386353131 : Int64)) + (-7046029254386353131 : Int64)))), .second, .val (.ref b25), .val (.long (own_mix ((q1 + (-7046029254386353131 : Int64)) + (-7046029254386353131 : Int64)))), .second, .val (.int (1 : Int32)), .val (.ref b50), .val (.long (own_mix ((q1 + q2) + (-7046029254386353131 : Int64)))), .second, .unset, .unset, .unset] [(.int (0 : Int32))])) _
      refine XS.lload X70.here hx rfl (hb hby at_90) rfl ?_
      show Steps p.tables e below (T70.setTop (mkF m 92 #[.val (.long q1), .second, .val (.long q2), .second, .val (.ref b1), .val (.long (own_mix (q1 + (-7046029254386353131 : Int64)))), .second, .val (.long (own_mix ((q1 + (-7046029254386353131 : Int64)) + (-7046029254386353131 : Int64)))), .second, .val (.ref b25), .val (.long (own_mix ((q1 + (-7046029254386353131 : Int64)) + (-7046029254386353131 : Int64)))), .second, .val (.int (1 : Int32)), .val (.ref b50), .val (.long (own_mix ((q1 + q2) + (-7046029254386353131 : Int64)))), .second, .unset, .unset, .unset] [(.long (own_mix ((q1 + q2) + (-7046029254386353131 : Int64)))), (.int (0 : Int32))])) _
      refine XS.lload X70.here hx rfl (hb hby at_92) rfl ?_
      show Steps p.tables e below (T70.setTop (mkF m 94 #[.val (.long q1), .second, .val (.long q2), .second, .val (.ref b1), .val (.long (own_mix (q1 + (-7046029254386353131 : Int64)))), .second, .val (.long (own_mix ((q1 + (-7046029254386353131 : Int64)) + (-7046029254386353131 : Int64)))), .second, .val (.ref b25), .val (.long (own_mix ((q1 + (-7046029254386353131 : Int64)) + (-7046029254386353131 : Int64)))), .second, .val (.int (1 : Int32)), .val (.ref b50), .val (.long (own_mix ((q1 + q2) + (-7046029254386353131 : Int64)))), .second, .unset, .unset, .unset] [(.long (own_mix (q1 + (-7046029254386353131 : Int64)))), (.long (own_mix ((q1 + q2) + (-7046029254386353131 : Int64)))), (.int (0 : Int32))])) _
      refine XS.lcmp X70.here hx rfl (hb hby at_94) rfl ?_
      show Steps p.tables e below (T70.setTop (mkF m 95 #[.val (.long q1), .second, .val (.long q2), .second, .val (.ref b1), .val (.long (own_mix (q1 + (-7046029254386353131 : Int64)))), .second, .val (.long (own_mix ((q1 + (-7046029254386353131 : Int64)) + (-7046029254386353131 : Int64)))), .second, .val (.ref b25), .val (.long (own_mix ((q1 + (-7046029254386353131 : Int64)) + (-7046029254386353131 : Int64)))), .second, .val (.int (1 : Int32)), .val (.ref b50), .val (.long (own_mix ((q1 + q2) + (-7046029254386353131 : Int64)))), .second, .unset, .unset, .unset] [(.int (Jvm.Free.XT.cmpL (own_mix ((q1 + q2) + (-7046029254386353131 : Int64))) (own_mix (q1 + (-7046029254386353131 : Int64))))), (.int (0 : Int32))])) _
      exact k
    have go125 : Goes p e below s₁ (entryFrame m #[(.long q1), (.long q2)] maxLocals) T70 (mkF m 103 #[.val (.long q1), .second, .val (.long q2), .second, .val (.ref b1), .val (.long (own_mix (q1 + (-7046029254386353131 : Int64)))), .second, .val (.long (own_mix ((q1 + (-7046029254386353131 : Int64)) + (-7046029254386353131 : Int64)))), .second, .val (.ref b25), .val (.long (own_mix ((q1 + (-7046029254386353131 : Int64)) + (-7046029254386353131 : Int64)))), .second, .val (.int (1 : Int32)), .val (.ref b50), .val (.long (own_mix ((q1 + q2) + (-7046029254386353131 : Int64)))), .second, .unset, .unset, .unset] [(.int (0 : Int32)), (.int (0 : Int32))]) := fun t k => by
      refine go124 t ?_
      refine XS.ifYes X70.here hx rfl (pc0 := 95) (pc' := 102) rfl (hb hby at_95) rfl (Jvm.Free.XT.ll_ne_t (fun q => hc80 ((own_inj q1 q2).mp q))) (by decide) (by decide) ?_
      show Steps p.tables e below (T70.setTop (mkF m 102 #[.val (.long q1), .second, .val (.long q2), .second, .val (.ref b1), .val (.long (own_mix (q1 + (-7046029254386353131 : Int64)))), .second, .val (.long (own_mix ((q1 + (-7046029254386353131 : Int64)) + (-7046029254386353131 : Int64)))), .second, .val (.ref b25), .val (.long (own_mix ((q1 + (-7046029254386353131 : Int64)) + (-7046029254386353131 : Int64)))), .second, .val (.int (1 : Int32)), .val (.ref b50), .val (.long (own_mix ((q1 + q2) + (-7046029254386353131 : Int64)))), .second, .unset, .unset, .unset] [(.int (0 : Int32))])) _
      refine XS.iconst X70.here hx rfl (hb hby at_102) ?_
      show Steps p.tables e below (T70.setTop (mkF m 103 #[.val (.long q1), .second, .val (.long q2), .second, .val (.ref b1), .val (.long (own_mix (q1 + (-7046029254386353131 : Int64)))), .second, .val (.long (own_mix ((q1 + (-7046029254386353131 : Int64)) + (-7046029254386353131 : Int64)))), .second, .val (.ref b25), .val (.long (own_mix ((q1 + (-7046029254386353131 : Int64)) + (-7046029254386353131 : Int64)))), .second, .val (.int (1 : Int32)), .val (.ref b50), .val (.long (own_mix ((q1 + q2) + (-7046029254386353131 : Int64)))), .second, .unset, .unset, .unset] [(.int (0 : Int32)), (.int (0 : Int32))])) _
      exact k
    have go126 : Goes p e below s₁ (entryFrame m #[(.long q1), (.long q2)] maxLocals) T70 (mkF m 113 #[.val (.long q1), .second, .val (.long q2), .second, .val (.ref b1), .val (.long (own_mix (q1 + (-7046029254386353131 : Int64)))), .second, .val (.long (own_mix ((q1 + (-7046029254386353131 : Int64)) + (-7046029254386353131 : Int64)))), .second, .val (.ref b25), .val (.long (own_mix ((q1 + (-7046029254386353131 : Int64)) + (-7046029254386353131 : Int64)))), .second, .val (.int (1 : Int32)), .val (.ref b50), .val (.long (own_mix ((q1 + q2) + (-7046029254386353131 : Int64)))), .second, .val (.int (1 : Int32)), .unset, .unset] []) := fun t k => by
      refine go125 t ?_
      refine XS.icmpNo X70.here hx rfl (hb hby at_103) rfl (Jvm.Free.XT.ii_ne_f (by decide)) ?_
      show Steps p.tables e below (T70.setTop (mkF m 106 #[.val (.long q1), .second, .val (.long q2), .second, .val (.ref b1), .val (.long (own_mix (q1 + (-7046029254386353131 : Int64)))), .second, .val (.long (own_mix ((q1 + (-7046029254386353131 : Int64)) + (-7046029254386353131 : Int64)))), .second, .val (.ref b25), .val (.long (own_mix ((q1 + (-7046029254386353131 : Int64)) + (-7046029254386353131 : Int64)))), .second, .val (.int (1 : Int32)), .val (.ref b50), .val (.long (own_mix ((q1 + q2) + (-7046029254386353131 : Int64)))), .second, .unset, .unset, .unset] [])) _
      refine XS.iconst X70.here hx rfl (hb hby at_106) ?_
      show Steps p.tables e below (T70.setTop (mkF m 107 #[.val (.long q1), .second, .val (.long q2), .second, .val (.ref b1), .val (.long (own_mix (q1 + (-7046029254386353131 : Int64)))), .second, .val (.long (own_mix ((q1 + (-7046029254386353131 : Int64)) + (-7046029254386353131 : Int64)))), .second, .val (.ref b25), .val (.long (own_mix ((q1 + (-7046029254386353131 : Int64)) + (-7046029254386353131 : Int64)))), .second, .val (.int (1 : Int32)), .val (.ref b50), .val (.long (own_mix ((q1 + q2) + (-7046029254386353131 : Int64)))), .second, .unset, .unset, .unset] [(.int (1 : Int32))])) _
      refine XS.goto X70.here hx rfl (pc0 := 107) (pc' := 111) rfl (hb hby at_107) (by decide) (by decide) ?_
      show Steps p.tables e below (T70.setTop (mkF m 111 #[.val (.long q1), .second, .val (.long q2), .second, .val (.ref b1), .val (.long (own_mix (q1 + (-7046029254386353131 : Int64)))), .second, .val (.long (own_mix ((q1 + (-7046029254386353131 : Int64)) + (-7046029254386353131 : Int64)))), .second, .val (.ref b25), .val (.long (own_mix ((q1 + (-7046029254386353131 : Int64)) + (-7046029254386353131 : Int64)))), .second, .val (.int (1 : Int32)), .val (.ref b50), .val (.long (own_mix ((q1 + q2) + (-7046029254386353131 : Int64)))), .second, .unset, .unset, .unset] [(.int (1 : Int32))])) _
      refine XS.istore X70.here hx rfl (hb hby at_111) rfl (l' := #[.val (.long q1), .second, .val (.long q2), .second, .val (.ref b1), .val (.long (own_mix (q1 + (-7046029254386353131 : Int64)))), .second, .val (.long (own_mix ((q1 + (-7046029254386353131 : Int64)) + (-7046029254386353131 : Int64)))), .second, .val (.ref b25), .val (.long (own_mix ((q1 + (-7046029254386353131 : Int64)) + (-7046029254386353131 : Int64)))), .second, .val (.int (1 : Int32)), .val (.ref b50), .val (.long (own_mix ((q1 + q2) + (-7046029254386353131 : Int64)))), .second, .val (.int (1 : Int32)), .unset, .unset]) rfl ?_
      show Steps p.tables e below (T70.setTop (mkF m 113 #[.val (.long q1), .second, .val (.long q2), .second, .val (.ref b1), .val (.long (own_mix (q1 + (-7046029254386353131 : Int64)))), .second, .val (.long (own_mix ((q1 + (-7046029254386353131 : Int64)) + (-7046029254386353131 : Int64)))), .second, .val (.ref b25), .val (.long (own_mix ((q1 + (-7046029254386353131 : Int64)) + (-7046029254386353131 : Int64)))), .second, .val (.int (1 : Int32)), .val (.ref b50), .val (.long (own_mix ((q1 + q2) + (-7046029254386353131 : Int64)))), .second, .val (.int (1 : Int32)), .unset, .unset] [])) _
      exact k
    obtain ⟨T127, h127, X127, e127, E127, A127, D127, -, st127⟩ := newO X70 hx hZ hown (hw _ (List.mem_of_getElem? (i := 0) rfl)) (hw _ (List.mem_of_getElem? (i := 1) rfl)) (hw _ (List.mem_of_getElem? (i := 2) rfl)) rfl (g := (mkF m 113 #[.val (.long q1), .second, .val (.long q2), .second, .val (.ref b1), .val (.long (own_mix (q1 + (-7046029254386353131 : Int64)))), .second, .val (.long (own_mix ((q1 + (-7046029254386353131 : Int64)) + (-7046029254386353131 : Int64)))), .second, .val (.ref b25), .val (.long (own_mix ((q1 + (-7046029254386353131 : Int64)) + (-7046029254386353131 : Int64)))), .second, .val (.int (1 : Int32)), .val (.ref b50), .val (.long (own_mix ((q1 + q2) + (-7046029254386353131 : Int64)))), .second, .val (.int (1 : Int32)), .unset, .unset] [])) rfl (hb hby at_113) (by decide) (by decide)
    obtain ⟨b127, g_b_b127⟩ : ∃ z, z = T70.heap.size := ⟨_, rfl⟩
    have le_b127 : T70.heap.size ≤ b127 := Nat.le_of_eq g_b_b127.symm
    have gn_b127 : n0 ≤ b127 := Nat.le_trans Z76 le_b127
    have sz_b127 : h0.size ≤ b127 := Nat.le_trans K77.1 le_b127
    rw [← g_b_b127] at A127 D127 st127
    have f128 := f71.ext E127
    have f129 := f72.ext E127
    have f130 := f73.ext E127
    have f131 := f74.ext E127
    have f132 := f75.ext E127
    have f133 := Fq70.ext E127
    have Z134 := Nat.le_trans Z76 E127.1
    have K135 := K77.ext E127
    have f136 : Fld Z h127 b127 "com/example/covermesh/covermesh/graph/SeededRandom" "state" "J" (.long (0 : Int64)) := D127 (Or.inl (hw _ (List.mem_of_getElem? (i := 10) rfl))) (ty := .long) (by decide)
    have go137 : Goes p e below s₁ (entryFrame m #[(.long q1), (.long q2)] maxLocals) T127 (mkF m 116 #[.val (.long q1), .second, .val (.long q2), .second, .val (.ref b1), .val (.long (own_mix (q1 + (-7046029254386353131 : Int64)))), .second, .val (.long (own_mix ((q1 + (-7046029254386353131 : Int64)) + (-7046029254386353131 : Int64)))), .second, .val (.ref b25), .val (.long (own_mix ((q1 + (-7046029254386353131 : Int64)) + (-7046029254386353131 : Int64)))), .second, .val (.int (1 : Int32)), .val (.ref b50), .val (.long (own_mix ((q1 + q2) + (-7046029254386353131 : Int64)))), .second, .val (.int (1 : Int32)), .unset, .unset] [(.ref b127)]) := fun t k => go126 t (st127 t k)
    have go138 : Goes p e below s₁ (entryFrame m #[(.long q1), (.long q2)] maxLocals) T127 (mkF m 118 #[.val (.long q1), .second, .val (.long q2), .second, .val (.ref b1), .val (.long (own_mix (q1 + (-7046029254386353131 : Int64)))), .second, .val (.long (own_mix ((q1 + (-7046029254386353131 : Int64)) + (-7046029254386353131 : Int64)))), .second, .val (.ref b25), .val (.long (own_mix ((q1 + (-7046029254386353131 : Int64)) + (-7046029254386353131 : Int64)))), .second, .val (.int (1 : Int32)), .val (.ref b50), .val (.long (own_mix ((q1 + q2) + (-7046029254386353131 : Int64)))), .second, .val (.int (1 : Int32)), .unset, .unset] [(.long (0 : Int64)), (.ref b127), (.ref b127)]) := fun t k => by
      refine go137 t ?_
      refine XS.dup X127.here hx rfl (hb hby at_116) rfl rfl ?_
      show Steps p.tables e below (T127.setTop (mkF m 117 #[.val (.long q1), .second, .val (.long q2), .second, .val (.ref b1), .val (.long (own_mix (q1 + (-7046029254386353131 : Int64)))), .second, .val (.long (own_mix ((q1 + (-7046029254386353131 : Int64)) + (-7046029254386353131 : Int64)))), .second, .val (.ref b25), .val (.long (own_mix ((q1 + (-7046029254386353131 : Int64)) + (-7046029254386353131 : Int64)))), .second, .val (.int (1 : Int32)), .val (.ref b50), .val (.long (own_mix ((q1 + q2) + (-7046029254386353131 : Int64)))), .second, .val (.int (1 : Int32)), .unset, .unset] [(.ref b127), (.ref b127)])) _
      refine XS.lconst X127.here hx rfl (hb hby at_117) ?_
      show Steps p.tables e below (T127.setTop (mkF m 118 #[.val (.long q1), .second, .val (.long q2), .second, .val (.ref b1), .val (.long (own_mix (q1 + (-7046029254386353131 : Int64)))), .second, .val (.long (own_mix ((q1 + (-7046029254386353131 : Int64)) + (-7046029254386353131 : Int64)))), .second, .val (.ref b25), .val (.long (own_mix ((q1 + (-7046029254386353131 : Int64)) + (-7046029254386353131 : Int64)))), .second, .val (.int (1 : Int32)), .val (.ref b50), .val (.long (own_mix ((q1 + q2) + (-7046029254386353131 : Int64)))), .second, .val (.int (1 : Int32)), .unset, .unset] [(.long (0 : Int64)), (.ref b127), (.ref b127)])) _
      exact k
    obtain ⟨_, _, ⟨T139, L139, k139, n139⟩, -, X139, ⟨Lc139, hQ139, l139, y139, z139⟩, st139⟩ := X127.specialBack hx (y := (⟨"com/example/covermesh/covermesh/graph/SeededRandom", "<init>", "(J)V"⟩ : MethodName)) rfl hown (mvT hZ (hw _ (List.mem_of_getElem? (i := 3) rfl))) (mvT hZ (hw _ (List.mem_of_getElem? (i := 4) rfl))) (mvT hZ (hw _ (List.mem_of_getElem? (i := 5) rfl))) (by decide) (backOf (W := 1) (rm2 l Z a0 hw [] b127 (0 : Int64) (.long (0 : Int64)) h127 n0 Z134 f136 A127 gn_b127) hZ (hw _ (List.mem_of_getElem? (i := 5) rfl)) (hw _ (List.mem_of_getElem? (i := 2) rfl)) (by decide) (by decide)) (g := (mkF m 118 #[.val (.long q1), .second, .val (.long q2), .second, .val (.ref b1), .val (.long (own_mix (q1 + (-7046029254386353131 : Int64)))), .second, .val (.long (own_mix ((q1 + (-7046029254386353131 : Int64)) + (-7046029254386353131 : Int64)))), .second, .val (.ref b25), .val (.long (own_mix ((q1 + (-7046029254386353131 : Int64)) + (-7046029254386353131 : Int64)))), .second, .val (.int (1 : Int32)), .val (.ref b50), .val (.long (own_mix ((q1 + q2) + (-7046029254386353131 : Int64)))), .second, .val (.int (1 : Int32)), .unset, .unset] [(.long (0 : Int64)), (.ref b127), (.ref b127)])) rfl (by rw [hml]; rfl) (Steps.refl _) (a := b127) (argsL := [(.long (0 : Int64))]) (rest := [(.ref b127)]) (lenOf pd_1 rfl) rfl (by show 2 * 0 + _ ≤ _; exact Nat.le_of_eq rfl) (hb hby at_118) (fun _ _ => ⟨rfl, e127, (by decide : 4 + 0 ≤ room_1.cells), (by decide : 4 + 0 ≤ room_1.slots)⟩)
    dsimp only [Pt.U, Pt.locs, Pt.cells, Pt.slots] at X139 l139 y139 z139 st139 hQ139
    subst l139 y139 z139
    obtain ⟨rfl, N139q, Kq139, Eq139, Fq139⟩ := hQ139
    have N139 := Fr.app N70 N139q
    have f140 := f128.keep Kq139
    have f141 := f129.keep Kq139 (ninS (Nat.ne_of_lt (Nat.lt_of_lt_of_le f72.lt le_b127)) nin0)
    have f142 := f130.keep Kq139
    have f143 := f131.keep Kq139 (ninS (Nat.ne_of_lt (Nat.lt_of_lt_of_le f74.lt le_b127)) nin0)
    have f144 := f132.keep Kq139
    have f145 := f133.keep Kq139 (ninS (Nat.ne_of_lt (Nat.lt_of_lt_of_le Fq70.lt le_b127)) nin0)
    have f146 := A127.keep Kq139
    have Z147 := Nat.le_trans Z134 Kq139.1
    have K148 := K135.trans Kq139 (allS (Or.inr sz_b127) all0)
    have go149 : Goes p e below s₁ (entryFrame m #[(.long q1), (.long q2)] maxLocals) T139 (mkF m 121 #[.val (.long q1), .second, .val (.long q2), .second, .val (.ref b1), .val (.long (own_mix (q1 + (-7046029254386353131 : Int64)))), .second, .val (.long (own_mix ((q1 + (-7046029254386353131 : Int64)) + (-7046029254386353131 : Int64)))), .second, .val (.ref b25), .val (.long (own_mix ((q1 + (-7046029254386353131 : Int64)) + (-7046029254386353131 : Int64)))), .second, .val (.int (1 : Int32)), .val (.ref b50), .val (.long (own_mix ((q1 + q2) + (-7046029254386353131 : Int64)))), .second, .val (.int (1 : Int32)), .unset, .unset] [(.ref b127)]) := fun t k => go138 t (st139.trans k)
    have go150 : Goes p e below s₁ (entryFrame m #[(.long q1), (.long q2)] maxLocals) T139 (mkF m 125 #[.val (.long q1), .second, .val (.long q2), .second, .val (.ref b1), .val (.long (own_mix (q1 + (-7046029254386353131 : Int64)))), .second, .val (.long (own_mix ((q1 + (-7046029254386353131 : Int64)) + (-7046029254386353131 : Int64)))), .second, .val (.ref b25), .val (.long (own_mix ((q1 + (-7046029254386353131 : Int64)) + (-7046029254386353131 : Int64)))), .second, .val (.int (1 : Int32)), .val (.ref b50), .val (.long (own_mix ((q1 + q2) + (-7046029254386353131 : Int64)))), .second, .val (.int (1 : Int32)), .val (.ref b127), .unset] [(.ref b127)]) := fun t k => by
      refine go149 t ?_
      refine XS.astore X139.here hx rfl (hb hby at_121) rfl rfl (l' := #[.val (.long q1), .second, .val (.long q2), .second, .val (.ref b1), .val (.long (own_mix (q1 + (-7046029254386353131 : Int64)))), .second, .val (.long (own_mix ((q1 + (-7046029254386353131 : Int64)) + (-7046029254386353131 : Int64)))), .second, .val (.ref b25), .val (.long (own_mix ((q1 + (-7046029254386353131 : Int64)) + (-7046029254386353131 : Int64)))), .second, .val (.int (1 : Int32)), .val (.ref b50), .val (.long (own_mix ((q1 + q2) + (-7046029254386353131 : Int64)))), .second, .val (.int (1 : Int32)), .val (.ref b127), .unset]) rfl ?_
      show Steps p.tables e below (T139.setTop (mkF m 123 #[.val (.long q1), .second, .val (.long q2), .second, .val (.ref b1), .val (.long (own_mix (q1 + (-7046029254386353131 : Int64)))), .second, .val (.long (own_mix ((q1 + (-7046029254386353131 : Int64)) + (-7046029254386353131 : Int64)))), .second, .val (.ref b25), .val (.long (own_mix ((q1 + (-7046029254386353131 : Int64)) + (-7046029254386353131 : Int64)))), .second, .val (.int (1 : Int32)), .val (.ref b50), .val (.long (own_mix ((q1 + q2) + (-7046029254386353131 : Int64)))), .second, .val (.int (1 : Int32)), .val (.ref b127), .unset] [])) _
      refine XS.aload X139.here hx rfl (hb hby at_123) rfl rfl ?_
      show Steps p.tables e below (T139.setTop (mkF m 125 #[.val (.long q1), .second, .val (.long q2), .second, .val (.ref b1), .val (.long (own_mix (q1 + (-7046029254386353131 : Int64)))), .second, .val (.long (own_mix ((q1 + (-7046029254386353131 : Int64)) + (-7046029254386353131 : Int64)))), .second, .val (.ref b25), .val (.long (own_mix ((q1 + (-7046029254386353131 : Int64)) + (-7046029254386353131 : Int64)))), .second, .val (.int (1 : Int32)), .val (.ref b50), .val (.long (own_mix ((q1 + q2) + (-7046029254386353131 : Int64)))), .second, .val (.int (1 : Int32)), .val (.ref b127), .unset] [(.ref b127)])) _
      exact k
    obtain ⟨cq151, kq151, q151a, q151b, q151c⟩ := isOf hZ rfl f146
    obtain ⟨_, _, ⟨T151, L151, k151, n151⟩, -, X151, ⟨Lc151, hQ151, l151, y151, z151⟩, st151⟩ := X139.virtualBack hx (y := (⟨"com/example/covermesh/covermesh/graph/SeededRandom", "nextLong", "()J"⟩ : MethodName)) (z := (⟨"com/example/covermesh/covermesh/graph/SeededRandom", "nextLong", "()J"⟩ : MethodName)) hown (mvT hZ (hw _ (List.mem_of_getElem? (i := 11) rfl))) (mvT hZ (hw _ (List.mem_of_getElem? (i := 12) rfl))) (notFace_of_selects (args := #[]) (mvT hZ (hw _ (List.mem_of_getElem? (i := 14) rfl)))) (mvT hZ (hw _ (List.mem_of_getElem? (i := 14) rfl))) (mvT hZ (hw _ (List.mem_of_getElem? (i := 13) rfl))) (by decide) (backOf (W := 0) (rm3 l Z a0 hw [] b127 (0 : Int64) T139.heap n0 Z147 Fq139 f146 gn_b127) hZ (hw _ (List.mem_of_getElem? (i := 15) rfl)) (hw _ (List.mem_of_getElem? (i := 2) rfl)) (by decide) (by decide)) q151a q151c (g := (mkF m 125 #[.val (.long q1), .second, .val (.long q2), .second, .val (.ref b1), .val (.long (own_mix (q1 + (-7046029254386353131 : Int64)))), .second, .val (.long (own_mix ((q1 + (-7046029254386353131 : Int64)) + (-7046029254386353131 : Int64)))), .second, .val (.ref b25), .val (.long (own_mix ((q1 + (-7046029254386353131 : Int64)) + (-7046029254386353131 : Int64)))), .second, .val (.int (1 : Int32)), .val (.ref b50), .val (.long (own_mix ((q1 + q2) + (-7046029254386353131 : Int64)))), .second, .val (.int (1 : Int32)), .val (.ref b127), .unset] [(.ref b127)])) rfl (by rw [hml]; rfl) (Steps.refl _) (argsL := []) (rest := []) (lenOf pd_2 rfl) rfl (by show 2 * 0 + _ ≤ _; exact Nat.le_of_eq rfl) (hb hby at_125) (fun _ _ => ⟨rfl, rfl, (by decide : 4 + 0 ≤ room_1.cells), (by decide : 4 + 0 ≤ room_1.slots)⟩)
    dsimp only [Pt.U, Pt.locs, Pt.cells, Pt.slots] at X151 l151 y151 z151 st151 hQ151
    subst l151 y151 z151
    obtain ⟨rfl, N151q, Kq151, Eq151, Fq151⟩ := hQ151
    have N151 := Fr.app N139 N151q
    have f152 := f140.keep Kq151
    have f153 := f141.keep Kq151 (ninS (Nat.ne_of_lt (Nat.lt_of_lt_of_le f72.lt le_b127)) nin0)
    have f154 := f142.keep Kq151
    have f155 := f143.keep Kq151 (ninS (Nat.ne_of_lt (Nat.lt_of_lt_of_le f74.lt le_b127)) nin0)
    have f156 := f144.keep Kq151
    have f157 := f145.keep Kq151 (ninS (Nat.ne_of_lt (Nat.lt_of_lt_of_le Fq70.lt le_b127)) nin0)
    have f158 := f146.keep Kq151
    have Z159 := Nat.le_trans Z147 Kq151.1
    have K160 := K148.trans Kq151 (allS (Or.inr sz_b127) all0)
    have go161 : Goes p e below s₁ (entryFrame m #[(.long q1), (.long q2)] maxLocals) T151 (mkF m 128 #[.val (.long q1), .second, .val (.long q2), .second, .val (.ref b1), .val (.long (own_mix (q1 + (-7046029254386353131 : Int64)))), .second, .val (.long (own_mix ((q1 + (-7046029254386353131 : Int64)) + (-7046029254386353131 : Int64)))), .second, .val (.ref b25), .val (.long (own_mix ((q1 + (-7046029254386353131 : Int64)) + (-7046029254386353131 : Int64)))), .second, .val (.int (1 : Int32)), .val (.ref b50), .val (.long (own_mix ((q1 + q2) + (-7046029254386353131 : Int64)))), .second, .val (.int (1 : Int32)), .val (.ref b127), .unset] [(.long (own_mix ((0 : Int64) + (-7046029254386353131 : Int64))))]) := fun t k => go150 t (st151.trans k)
    have go162 : Goes p e below s₁ (entryFrame m #[(.long q1), (.long q2)] maxLocals) T151 (mkF m 132 #[.val (.long q1), .second, .val (.long q2), .second, .val (.ref b1), .val (.long (own_mix (q1 + (-7046029254386353131 : Int64)))), .second, .val (.long (own_mix ((q1 + (-7046029254386353131 : Int64)) + (-7046029254386353131 : Int64)))), .second, .val (.ref b25), .val (.long (own_mix ((q1 + (-7046029254386353131 : Int64)) + (-7046029254386353131 : Int64)))), .second, .val (.int (1 : Int32)), .val (.ref b50), .val (.long (own_mix ((q1 + q2) + (-7046029254386353131 : Int64)))), .second, .val (.int (1 : Int32)), .val (.ref b127), .unset] [(.int (Jvm.Free.XT.cmpL (own_mix ((0 : Int64) + (-7046029254386353131 : Int64))) (-2152535657050944081 : Int64)))]) := fun t k => by
      refine go161 t ?_
      refine X151.ldc2Long hx hown (mvT hZ (hw _ (List.mem_of_getElem? (i := 23) rfl))) (g := (mkF m 128 #[.val (.long q1), .second, .val (.long q2), .second, .val (.ref b1), .val (.long (own_mix (q1 + (-7046029254386353131 : Int64)))), .second, .val (.long (own_mix ((q1 + (-7046029254386353131 : Int64)) + (-7046029254386353131 : Int64)))), .second, .val (.ref b25), .val (.long (own_mix ((q1 + (-7046029254386353131 : Int64)) + (-7046029254386353131 : Int64)))), .second, .val (.int (1 : Int32)), .val (.ref b50), .val (.long (own_mix ((q1 + q2) + (-7046029254386353131 : Int64)))), .second, .val (.int (1 : Int32)), .val (.ref b127), .unset] [(.long (own_mix ((0 : Int64) + (-7046029254386353131 : Int64))))])) rfl (hb hby at_128) _ ?_
      show Steps p.tables e below (T151.setTop (mkF m 131 #[.val (.long q1), .second, .val (.long q2), .second, .val (.ref b1), .val (.long (own_mix (q1 + (-7046029254386353131 : Int64)))), .second, .val (.long (own_mix ((q1 + (-7046029254386353131 : Int64)) + (-7046029254386353131 : Int64)))), .second, .val (.ref b25), .val (.long (own_mix ((q1 + (-7046029254386353131 : Int64)) + (-7046029254386353131 : Int64)))), .second, .val (.int (1 : Int32)), .val (.ref b50), .val (.long (own_mix ((q1 + q2) + (-7046029254386353131 : Int64)))), .second, .val (.int (1 : Int32)), .val (.ref b127), .unset] [(.long (-2152535657050944081 : Int64)), (.long (own_mix ((0 : Int64) + (-7046029254386353131 : Int64))))])) _
      refine XS.lcmp X151.here hx rfl (hb hby at_131) rfl ?_
      show Steps p.tables e below (T151.setTop (mkF m 132 #[.val (.long q1), .second, .val (.long q2), .second, .val (.ref b1), .val (.long (own_mix (q1 + (-7046029254386353131 : Int64)))), .second, .val (.long (own_mix ((q1 + (-7046029254386353131 : Int64)) + (-7046029254386353131 : Int64)))), .second, .val (.ref b25), .val (.long (own_mix ((q1 + (-7046029254386353131 : Int64)) + (-7046029254386353131 : Int64)))), .second, .val (.int (1 : Int32)), .val (.ref b50), .val (.long (own_mix ((q1 + q2) + (-7046029254386353131 : Int64)))), .second, .val (.int (1 : Int32)), .val (.ref b127), .unset] [(.int (Jvm.Free.XT.cmpL (own_mix ((0 : Int64) + (-7046029254386353131 : Int64))) (-2152535657050944081 : Int64)))])) _
      exact k
    have go163 : Goes p e below s₁ (entryFrame m #[(.long q1), (.long q2)] maxLocals) T151 (mkF m 144 #[.val (.long q1), .second, .val (.long q2), .second, .val (.ref b1), .val (.long (own_mix (q1 + (-7046029254386353131 : Int64)))), .second, .val (.long (own_mix ((q1 + (-7046029254386353131 : Int64)) + (-7046029254386353131 : Int64)))), .second, .val (.ref b25), .val (.long (own_mix ((q1 + (-7046029254386353131 : Int64)) + (-7046029254386353131 : Int64)))), .second, .val (.int (1 : Int32)), .val (.ref b50), .val (.long (own_mix ((q1 + q2) + (-7046029254386353131 : Int64)))), .second, .val (.int (1 : Int32)), .val (.ref b127), .val (.int (1 : Int32))] [(.int (1 : Int32))]) := fun t k => by
      refine go162 t ?_
      refine XS.ifNo X151.here hx rfl (hb hby at_132) rfl (Jvm.Free.XT.ll_ne_f own_anchor) ?_
      show Steps p.tables e below (T151.setTop (mkF m 135 #[.val (.long q1), .second, .val (.long q2), .second, .val (.ref b1), .val (.long (own_mix (q1 + (-7046029254386353131 : Int64)))), .second, .val (.long (own_mix ((q1 + (-7046029254386353131 : Int64)) + (-7046029254386353131 : Int64)))), .second, .val (.ref b25), .val (.long (own_mix ((q1 + (-7046029254386353131 : Int64)) + (-7046029254386353131 : Int64)))), .second, .val (.int (1 : Int32)), .val (.ref b50), .val (.long (own_mix ((q1 + q2) + (-7046029254386353131 : Int64)))), .second, .val (.int (1 : Int32)), .val (.ref b127), .unset] [])) _
      refine XS.iconst X151.here hx rfl (hb hby at_135) ?_
      show Steps p.tables e below (T151.setTop (mkF m 136 #[.val (.long q1), .second, .val (.long q2), .second, .val (.ref b1), .val (.long (own_mix (q1 + (-7046029254386353131 : Int64)))), .second, .val (.long (own_mix ((q1 + (-7046029254386353131 : Int64)) + (-7046029254386353131 : Int64)))), .second, .val (.ref b25), .val (.long (own_mix ((q1 + (-7046029254386353131 : Int64)) + (-7046029254386353131 : Int64)))), .second, .val (.int (1 : Int32)), .val (.ref b50), .val (.long (own_mix ((q1 + q2) + (-7046029254386353131 : Int64)))), .second, .val (.int (1 : Int32)), .val (.ref b127), .unset] [(.int (1 : Int32))])) _
      refine XS.goto X151.here hx rfl (pc0 := 136) (pc' := 140) rfl (hb hby at_136) (by decide) (by decide) ?_
      show Steps p.tables e below (T151.setTop (mkF m 140 #[.val (.long q1), .second, .val (.long q2), .second, .val (.ref b1), .val (.long (own_mix (q1 + (-7046029254386353131 : Int64)))), .second, .val (.long (own_mix ((q1 + (-7046029254386353131 : Int64)) + (-7046029254386353131 : Int64)))), .second, .val (.ref b25), .val (.long (own_mix ((q1 + (-7046029254386353131 : Int64)) + (-7046029254386353131 : Int64)))), .second, .val (.int (1 : Int32)), .val (.ref b50), .val (.long (own_mix ((q1 + q2) + (-7046029254386353131 : Int64)))), .second, .val (.int (1 : Int32)), .val (.ref b127), .unset] [(.int (1 : Int32))])) _
      refine XS.istore X151.here hx rfl (hb hby at_140) rfl (l' := #[.val (.long q1), .second, .val (.long q2), .second, .val (.ref b1), .val (.long (own_mix (q1 + (-7046029254386353131 : Int64)))), .second, .val (.long (own_mix ((q1 + (-7046029254386353131 : Int64)) + (-7046029254386353131 : Int64)))), .second, .val (.ref b25), .val (.long (own_mix ((q1 + (-7046029254386353131 : Int64)) + (-7046029254386353131 : Int64)))), .second, .val (.int (1 : Int32)), .val (.ref b50), .val (.long (own_mix ((q1 + q2) + (-7046029254386353131 : Int64)))), .second, .val (.int (1 : Int32)), .val (.ref b127), .val (.int (1 : Int32))]) rfl ?_
      show Steps p.tables e below (T151.setTop (mkF m 142 #[.val (.long q1), .second, .val (.long q2), .second, .val (.ref b1), .val (.long (own_mix (q1 + (-7046029254386353131 : Int64)))), .second, .val (.long (own_mix ((q1 + (-7046029254386353131 : Int64)) + (-7046029254386353131 : Int64)))), .second, .val (.ref b25), .val (.long (own_mix ((q1 + (-7046029254386353131 : Int64)) + (-7046029254386353131 : Int64)))), .second, .val (.int (1 : Int32)), .val (.ref b50), .val (.long (own_mix ((q1 + q2) + (-7046029254386353131 : Int64)))), .second, .val (.int (1 : Int32)), .val (.ref b127), .val (.int (1 : Int32))] [])) _
      refine XS.iload X151.here hx rfl (hb hby at_142) rfl ?_
      show Steps p.tables e below (T151.setTop (mkF m 144 #[.val (.long q1), .second, .val (.long q2), .second, .val (.ref b1), .val (.long (own_mix (q1 + (-7046029254386353131 : Int64)))), .second, .val (.long (own_mix ((q1 + (-7046029254386353131 : Int64)) + (-7046029254386353131 : Int64)))), .second, .val (.ref b25), .val (.long (own_mix ((q1 + (-7046029254386353131 : Int64)) + (-7046029254386353131 : Int64)))), .second, .val (.int (1 : Int32)), .val (.ref b50), .val (.long (own_mix ((q1 + q2) + (-7046029254386353131 : Int64)))), .second, .val (.int (1 : Int32)), .val (.ref b127), .val (.int (1 : Int32))] [(.int (1 : Int32))])) _
      exact k
    have go164 : Goes p e below s₁ (entryFrame m #[(.long q1), (.long q2)] maxLocals) T151 (mkF m 149 #[.val (.long q1), .second, .val (.long q2), .second, .val (.ref b1), .val (.long (own_mix (q1 + (-7046029254386353131 : Int64)))), .second, .val (.long (own_mix ((q1 + (-7046029254386353131 : Int64)) + (-7046029254386353131 : Int64)))), .second, .val (.ref b25), .val (.long (own_mix ((q1 + (-7046029254386353131 : Int64)) + (-7046029254386353131 : Int64)))), .second, .val (.int (1 : Int32)), .val (.ref b50), .val (.long (own_mix ((q1 + q2) + (-7046029254386353131 : Int64)))), .second, .val (.int (1 : Int32)), .val (.ref b127), .val (.int (1 : Int32))] [(.int (1 : Int32))]) := fun t k => by
      refine go163 t ?_
      refine XS.ifNo X151.here hx rfl (hb hby at_144) rfl (Jvm.Free.XT.i0_eq_f (by decide)) ?_
      show Steps p.tables e below (T151.setTop (mkF m 147 #[.val (.long q1), .second, .val (.long q2), .second, .val (.ref b1), .val (.long (own_mix (q1 + (-7046029254386353131 : Int64)))), .second, .val (.long (own_mix ((q1 + (-7046029254386353131 : Int64)) + (-7046029254386353131 : Int64)))), .second, .val (.ref b25), .val (.long (own_mix ((q1 + (-7046029254386353131 : Int64)) + (-7046029254386353131 : Int64)))), .second, .val (.int (1 : Int32)), .val (.ref b50), .val (.long (own_mix ((q1 + q2) + (-7046029254386353131 : Int64)))), .second, .val (.int (1 : Int32)), .val (.ref b127), .val (.int (1 : Int32))] [])) _
      refine XS.iload X151.here hx rfl (hb hby at_147) rfl ?_
      show Steps p.tables e below (T151.setTop (mkF m 149 #[.val (.long q1), .second, .val (.long q2), .second, .val (.ref b1), .val (.long (own_mix (q1 + (-7046029254386353131 : Int64)))), .second, .val (.long (own_mix ((q1 + (-7046029254386353131 : Int64)) + (-7046029254386353131 : Int64)))), .second, .val (.ref b25), .val (.long (own_mix ((q1 + (-7046029254386353131 : Int64)) + (-7046029254386353131 : Int64)))), .second, .val (.int (1 : Int32)), .val (.ref b50), .val (.long (own_mix ((q1 + q2) + (-7046029254386353131 : Int64)))), .second, .val (.int (1 : Int32)), .val (.ref b127), .val (.int (1 : Int32))] [(.int (1 : Int32))])) _
      exact k
    have go165 : Goes p e below s₁ (entryFrame m #[(.long q1), (.long q2)] maxLocals) T151 (mkF m 154 #[.val (.long q1), .second, .val (.long q2), .second, .val (.ref b1), .val (.long (own_mix (q1 + (-7046029254386353131 : Int64)))), .second, .val (.long (own_mix ((q1 + (-7046029254386353131 : Int64)) + (-7046029254386353131 : Int64)))), .second, .val (.ref b25), .val (.long (own_mix ((q1 + (-7046029254386353131 : Int64)) + (-7046029254386353131 : Int64)))), .second, .val (.int (1 : Int32)), .val (.ref b50), .val (.long (own_mix ((q1 + q2) + (-7046029254386353131 : Int64)))), .second, .val (.int (1 : Int32)), .val (.ref b127), .val (.int (1 : Int32))] [(.int (1 : Int32))]) := fun t k => by
      refine go164 t ?_
      refine XS.ifNo X151.here hx rfl (hb hby at_149) rfl (Jvm.Free.XT.i0_eq_f (by decide)) ?_
      show Steps p.tables e below (T151.setTop (mkF m 152 #[.val (.long q1), .second, .val (.long q2), .second, .val (.ref b1), .val (.long (own_mix (q1 + (-7046029254386353131 : Int64)))), .second, .val (.long (own_mix ((q1 + (-7046029254386353131 : Int64)) + (-7046029254386353131 : Int64)))), .second, .val (.ref b25), .val (.long (own_mix ((q1 + (-7046029254386353131 : Int64)) + (-7046029254386353131 : Int64)))), .second, .val (.int (1 : Int32)), .val (.ref b50), .val (.long (own_mix ((q1 + q2) + (-7046029254386353131 : Int64)))), .second, .val (.int (1 : Int32)), .val (.ref b127), .val (.int (1 : Int32))] [])) _
      refine XS.iload X151.here hx rfl (hb hby at_152) rfl ?_
      show Steps p.tables e below (T151.setTop (mkF m 154 #[.val (.long q1), .second, .val (.long q2), .second, .val (.ref b1), .val (.long (own_mix (q1 + (-7046029254386353131 : Int64)))), .second, .val (.long (own_mix ((q1 + (-7046029254386353131 : Int64)) + (-7046029254386353131 : Int64)))), .second, .val (.ref b25), .val (.long (own_mix ((q1 + (-7046029254386353131 : Int64)) + (-7046029254386353131 : Int64)))), .second, .val (.int (1 : Int32)), .val (.ref b50), .val (.long (own_mix ((q1 + q2) + (-7046029254386353131 : Int64)))), .second, .val (.int (1 : Int32)), .val (.ref b127), .val (.int (1 : Int32))] [(.int (1 : Int32))])) _
      exact k
    have go166 : Goes p e below s₁ (entryFrame m #[(.long q1), (.long q2)] maxLocals) T151 (mkF m 162 #[.val (.long q1), .second, .val (.long q2), .second, .val (.ref b1), .val (.long (own_mix (q1 + (-7046029254386353131 : Int64)))), .second, .val (.long (own_mix ((q1 + (-7046029254386353131 : Int64)) + (-7046029254386353131 : Int64)))), .second, .val (.ref b25), .val (.long (own_mix ((q1 + (-7046029254386353131 : Int64)) + (-7046029254386353131 : Int64)))), .second, .val (.int (1 : Int32)), .val (.ref b50), .val (.long (own_mix ((q1 + q2) + (-7046029254386353131 : Int64)))), .second, .val (.int (1 : Int32)), .val (.ref b127), .val (.int (1 : Int32))] [(.int (1 : Int32))]) := fun t k => by
      refine go165 t ?_
      refine XS.ifNo X151.here hx rfl (hb hby at_154) rfl (Jvm.Free.XT.i0_eq_f (by decide)) ?_
      show Steps p.tables e below (T151.setTop (mkF m 157 #[.val (.long q1), .second, .val (.long q2), .second, .val (.ref b1), .val (.long (own_mix (q1 + (-7046029254386353131 : Int64)))), .second, .val (.long (own_mix ((q1 + (-7046029254386353131 : Int64)) + (-7046029254386353131 : Int64)))), .second, .val (.ref b25), .val (.long (own_mix ((q1 + (-7046029254386353131 : Int64)) + (-7046029254386353131 : Int64)))), .second, .val (.int (1 : Int32)), .val (.ref b50), .val (.long (own_mix ((q1 + q2) + (-7046029254386353131 : Int64)))), .second, .val (.int (1 : Int32)), .val (.ref b127), .val (.int (1 : Int32))] [])) _
      refine XS.iconst X151.here hx rfl (hb hby at_157) ?_
      show Steps p.tables e below (T151.setTop (mkF m 158 #[.val (.long q1), .second, .val (.long q2), .second, .val (.ref b1), .val (.long (own_mix (q1 + (-7046029254386353131 : Int64)))), .second, .val (.long (own_mix ((q1 + (-7046029254386353131 : Int64)) + (-7046029254386353131 : Int64)))), .second, .val (.ref b25), .val (.long (own_mix ((q1 + (-7046029254386353131 : Int64)) + (-7046029254386353131 : Int64)))), .second, .val (.int (1 : Int32)), .val (.ref b50), .val (.long (own_mix ((q1 + q2) + (-7046029254386353131 : Int64)))), .second, .val (.int (1 : Int32)), .val (.ref b127), .val (.int (1 : Int32))] [(.int (1 : Int32))])) _
      refine XS.goto X151.here hx rfl (pc0 := 158) (pc' := 162) rfl (hb hby at_158) (by decide) (by decide) ?_
      show Steps p.tables e below (T151.setTop (mkF m 162 #[.val (.long q1), .second, .val (.long q2), .second, .val (.ref b1), .val (.long (own_mix (q1 + (-7046029254386353131 : Int64)))), .second, .val (.long (own_mix ((q1 + (-7046029254386353131 : Int64)) + (-7046029254386353131 : Int64)))), .second, .val (.ref b25), .val (.long (own_mix ((q1 + (-7046029254386353131 : Int64)) + (-7046029254386353131 : Int64)))), .second, .val (.int (1 : Int32)), .val (.ref b50), .val (.long (own_mix ((q1 + q2) + (-7046029254386353131 : Int64)))), .second, .val (.int (1 : Int32)), .val (.ref b127), .val (.int (1 : Int32))] [(.int (1 : Int32))])) _
      exact k
    obtain ⟨fs, hr, hrun, hended, hW, hsame⟩ := X151.leave (v := some (.int (1 : Int32))) (fun h => by rw [Bd.returns] at h; cases h)
    refine ⟨_, _, go166 _ ?_, hrun, hended, _, _, rfl, ?_, ⟨_, rfl⟩, hW, hsame.mono (by decide) (by decide)⟩
    · exact retN X151 hx (t := .boolean) Bd.returns (by simp) (hb hby at_162) hr
    · show Q0 Z _ _ _ _ _ T151.heap _
      exact ⟨rfl, N151⟩
set_option maxRecDepth 65536 in
set_option maxHeartbeats 40000000 in
theorem comes_1 {Post : Tables → Env → Array Value → State → Outcome → State → Prop} (hpost : ∀ tb e args s v u, (limb_1_1.after args s (.returned v) u = true ∧ limb_1_2.after args s (.returned v) u = true ∧ True) → FrameEnd s (.returned v) u (Jvm.fieldLocs frame_1_writes args s ++ Jvm.arrayLocs frame_1_arrays args s ++ Jvm.staticLocs frame_1_statics s) 16 128 → Post tb e args s (.returned v) u) :
    ArmFor flags0 classFile x code maxLocals ret World_1 tables_1 room_1 Calls_1 rest_1 Pre_1 Post := by
  intro l hfl _ _ p e ha hc hk s m args below hf hA hF happ hP
  obtain ⟨hcalls, hrest, hpre⟩ := hP
  obtain ⟨-, -, -, hnamed, -, -, -, hat⟩ := (Spec.applies_iff hf).mp happ
  obtain ⟨hg, hn⟩ := and_e (Cond.before_iff.mp (show (Jvm.Cond.and given_1 narrow_1).before args s = true from hpre))
  obtain ⟨hg0, hg⟩ := and_e hg
  obtain ⟨ga0, hg⟩ := and_e hg
  have ga1 := hg
  obtain ⟨w0, w1, rfl⟩ : ∃ w0 w1 : Value, args = #[w0, w1] := by
    have hs : args.size = 2 := by simpa [Cond.value, given_1] using hg0
    obtain ⟨L⟩ := args
    match L, hs with
    | [w0, w1], _ => exact ⟨w0, w1, rfl⟩
  have hw := fun d (hd : d ∈ tables_1) => atoms_spec (ws := Jvm.Cond.code x code maxLocals ret :: tables_1) hat d (List.mem_cons_of_mem _ hd)
  have hfit : Fit s := fun {y c} hc i hi => by
    obtain ⟨ha, rfl⟩ := Array.getElem?_eq_some_iff.mp hc
    have q := List.all_eq_true.mp ((Array.all_eq_true_iff_forall_mem.mp hF) _ (Array.getElem_mem ha)) i (List.mem_range.mpr hi)
    simpa [Array.getElem?_eq_getElem hi] using q
  obtain ⟨i0, ei0⟩ := isL_v ga0
  obtain rfl : w0 = (.long i0) := Option.some.inj ei0
  obtain ⟨i1, ei1⟩ := isL_v ga1
  obtain rfl : w1 = (.long i1) := Option.some.inj ei1
  obtain ⟨n, o, h1, h2, h3, _, L, rfl, ⟨rfl, N⟩, hq⟩ := rm0 l s _ hw tables_1 i0 i1 s.heap s.heap.size (Nat.le_refl _) p e ha hc hk s m _ below hf ((Spec.applies_iff_loose hf).mp happ).1 ⟨rfl, State.Warmed39.refl s, rfl⟩ trivial
  refine ⟨n, _, h1, h2, h3, hpost _ _ _ _ _ _ ⟨Cond.after_iff.mpr rfl, Cond.after_iff.mpr (eq_i res_at (Term.int_eval (1)) rfl), trivial⟩ ⟨hq.1, hq.2.1, (hq.2.2.sift fun y hy => Or.inr (N y hy)).mono (by decide) (by decide)⟩⟩
theorem main_1_1 : Claimed_1_1 := comes_1 fun _ _ _ _ _ _ h hF => ⟨h.1, hF⟩
theorem main_1_2 : Claimed_1_2 := comes_1 fun _ _ _ _ _ _ h hF => ⟨h.2.1, hF⟩
end Jvm.Pilot.@@N@@
namespace Jvm.Pilot.@@N@@
open Jvm Jvm.ClassFile Sem Op Lib Jvm.Free Jvm.Stand Jvm.Pilot.@@N@@.Jvm.D
/-! MADE BY PROGRAM (witnessworld.py) out of the Statement's table words and the real class files: 9 classes; the members and pool entries that the words name. The judged class is class 1, her method 1. -/
namespace start1
open Jvm.ClassFile
def u (s : String) : CpInfo := .utf8 (stringToUtf16 s)
/-- a pool by its gaps: so many unusable entries, then the entry; so many at the end -/
def gap : Nat → List CpInfo → List CpInfo
  | 0, r => r
  | n + 1, r => .unusable :: gap n r
def poolList (es : List (Nat × CpInfo)) (last : Nat) : List CpInfo := es.foldr (fun e r => gap e.1 (e.2 :: r)) (gap last [])
def pool (es : List (Nat × CpInfo)) (last : Nat) : Array CpInfo := ⟨poolList es last⟩
def fileOf (pool : Array CpInfo) (this : Nat) (attrs : Array Attribute := #[]) (ms : Array MethodInfo := #[]) (fl : Nat := 33) (sup : Nat := 0) (ifs : Array Nat := #[]) (fds : Array FieldInfo := #[]) : ClassFile where
  minorVersion := 0
  majorVersion := 65
  constantPool := pool
  accessFlags := fl
  thisClass := this
  superClass := sup
  interfaces := ifs
  fields := fds
  methods := ms
  attributes := attrs
def plain (name : String) (sup : Option ClassId) : Class where
  name := name
  kind := .ordinary
  loader := none
  accessFlags := 33
  super := sup
  interfaces := #[]
  cf := none
  fields := #[]
  methods := #[]
  instanceTypes := #[]
  staticTypes := #[]
  resolved := #[]
  callSites := []
  init := .initialized
  statics := none
  mirror := none

def pool0 : Array CpInfo := pool [(5, u "<init>"), (0, u "()V"), (1, .class_ 10), (1, u "java/lang/Object")] 113

def k0c0 : Code := { maxStack := 0, maxLocals := 1, code := object_method_1_code, exceptionTable := #[], attributes := #[] }
def k0m0 : Method := { name := "<init>", desc := "()V", sig := { parameters := [], returnType := none }, accessFlags := 1, code := some k0c0 }
/-- java/lang/Object -/
def k0 : Class := { plain "java/lang/Object" none with
  accessFlags := 33
  interfaces := #[]
  cf := some (fileOf pool0 8 #[] #[{ accessFlags := 1, nameIndex := 5, descriptorIndex := 6, attributes := #[] }] 33 0 #[] #[])
  fields := #[]
  methods := #[k0m0]
  instanceTypes := #[]
  staticTypes := #[]
  resolved := Array.replicate 124 none
  statics := none }

def pool1 : Array CpInfo := pool [(2, .class_ 4), (1, u "java/lang/Object"), (0, u "<init>"), (0, u "()V"), (0, .class_ 8), (0, u "com/example/covermesh/covermesh/graph/SeededRandom"), (0, .methodref 7 10), (0, .nameAndType 5 11), (0, u "(J)V"), (0, .methodref 7 13), (0, .nameAndType 14 15), (0, u "nextLong"), (0, u "()J"), (0, .class_ 17), (0, u "com/example/covermesh/covermesh/graph/SeededRandomNextLongPinLaw"), (0, .long 11400714819323198485), (1, .long 16294208416658607535), (1, u "GAMMA"), (0, u "J"), (3, u "law"), (0, u "(JJ)Z")] 3

def k1m0 : Method := { name := "<init>", desc := "()V", sig := { parameters := [], returnType := none }, accessFlags := 1, code := none }
def k1c1 : Code := { maxStack := 6, maxLocals := 19, code := code, exceptionTable := #[], attributes := #[] }
def k1m1 : Method := { name := "law", desc := "(JJ)Z", sig := { parameters := [.long, .long], returnType := some .boolean }, accessFlags := 9, code := some k1c1 }
/-- com/example/covermesh/covermesh/graph/SeededRandomNextLongPinLaw -/
def k1 : Class := { plain "com/example/covermesh/covermesh/graph/SeededRandomNextLongPinLaw" (some 0) with
  accessFlags := 49
  interfaces := #[]
  cf := some (fileOf pool1 16 #[] #[{ accessFlags := 1, nameIndex := 5, descriptorIndex := 6, attributes := #[] }, { accessFlags := 9, nameIndex := 27, descriptorIndex := 28, attributes := #[] }] 49 2 #[] #[{ accessFlags := 26, nameIndex := 22, descriptorIndex := 23, attributes := #[] }])
  fields := #[{ name := "GAMMA", type := .long, accessFlags := 26, slot := 0, constantValue := 0 }]
  methods := #[k1m0, k1m1]
  instanceTypes := #[]
  staticTypes := #[.long]
  resolved := Array.replicate 32 none
  statics := none }

def pool2 : Array CpInfo := pool [(1, .methodref 2 3), (0, .class_ 4), (0, .nameAndType 5 6), (0, u "java/lang/Object"), (0, u "<init>"), (0, u "()V"), (0, .fieldref 8 9), (0, .class_ 10), (0, .nameAndType 11 12), (0, u "com/example/covermesh/covermesh/graph/SeededRandom"), (0, u "state"), (0, u "J"), (0, .methodref 8 14), (0, .nameAndType 15 16), (0, u "mix"), (0, u "(J)J"), (0, .long 11400714819323198485), (3, u "nextLong"), (0, u "()J"), (15, .long 13787848793156543929), (1, .long 10723151780598845931), (1, u "GAMMA"), (1, u "UNIT"), (0, u "D"), (0, u "(J)V")] 25

def k2c0 : Code := { maxStack := 3, maxLocals := 3, code := prog_76_method_1_code, exceptionTable := #[], attributes := #[] }
def k2m0 : Method := { name := "<init>", desc := "(J)V", sig := { parameters := [.long], returnType := none }, accessFlags := 1, code := some k2c0 }
def k2c1 : Code := { maxStack := 5, maxLocals := 1, code := prog_76_method_3_code, exceptionTable := #[], attributes := #[] }
def k2m1 : Method := { name := "nextLong", desc := "()J", sig := { parameters := [], returnType := some .long }, accessFlags := 1, code := some k2c1 }
def k2c2 : Code := { maxStack := 5, maxLocals := 2, code := prog_76_method_7_code, exceptionTable := #[], attributes := #[] }
def k2m2 : Method := { name := "mix", desc := "(J)J", sig := { parameters := [.long], returnType := some .long }, accessFlags := 10, code := some k2c2 }
/-- com/example/covermesh/covermesh/graph/SeededRandom -/
def k2 : Class := { plain "com/example/covermesh/covermesh/graph/SeededRandom" (some 0) with
  accessFlags := 49
  interfaces := #[]
  cf := some (fileOf pool2 8 #[] #[{ accessFlags := 1, nameIndex := 5, descriptorIndex := 46, attributes := #[] }, { accessFlags := 1, nameIndex := 21, descriptorIndex := 22, attributes := #[] }, { accessFlags := 10, nameIndex := 15, descriptorIndex := 16, attributes := #[] }] 49 2 #[] #[{ accessFlags := 26, nameIndex := 42, descriptorIndex := 12, attributes := #[] }, { accessFlags := 26, nameIndex := 44, descriptorIndex := 45, attributes := #[] }, { accessFlags := 2, nameIndex := 11, descriptorIndex := 12, attributes := #[] }])
  fields := #[{ name := "GAMMA", type := .long, accessFlags := 26, slot := 0, constantValue := 0 }, { name := "UNIT", type := .double, accessFlags := 26, slot := 1, constantValue := 0 }, { name := "state", type := .long, accessFlags := 2, slot := 0, constantValue := 0 }]
  methods := #[k2m0, k2m1, k2m2]
  instanceTypes := #[.long]
  staticTypes := #[.long, .double]
  resolved := Array.replicate 72 none
  statics := none }

def pool3 : Array CpInfo := pool [(1, u "java/lang/Cloneable"), (0, .class_ 1), (0, u "java/lang/Object"), (0, .class_ 3)] 3

/-- java/lang/Cloneable -/
def k3 : Class := { plain "java/lang/Cloneable" (some 0) with
  accessFlags := 1537
  interfaces := #[]
  cf := some (fileOf pool3 2 #[] #[] 1537 4 #[] #[])
  fields := #[]
  methods := #[]
  instanceTypes := #[]
  staticTypes := #[]
  resolved := Array.replicate 8 none
  statics := none }

def pool4 : Array CpInfo := pool [(1, u "java/io/Serializable"), (0, .class_ 1), (0, u "java/lang/Object"), (0, .class_ 3)] 3

/-- java/io/Serializable -/
def k4 : Class := { plain "java/io/Serializable" (some 0) with
  accessFlags := 1537
  interfaces := #[]
  cf := some (fileOf pool4 2 #[] #[] 1537 4 #[] #[])
  fields := #[]
  methods := #[]
  instanceTypes := #[]
  staticTypes := #[]
  resolved := Array.replicate 8 none
  statics := none }

/-- the primitive byte -/
def k5 : Class := { plain "byte" none with kind := .primitive 'B', accessFlags := 0x411 }
/-- [B -/
def k6 : Class := { plain "[B" (some 0) with kind := .array 5 .byte, interfaces := #[3, 4], accessFlags := 1041 }

/-- the primitive int -/
def k7 : Class := { plain "int" none with kind := .primitive 'I', accessFlags := 0x411 }
/-- [I -/
def k8 : Class := { plain "[I" (some 0) with kind := .array 7 .int, interfaces := #[3, 4], accessFlags := 1041 }

def heap : Heap := #[]
def classes : Array Class := #[k0, k1, k2, k3, k4, k5, k6, k7, k8]
def interned : List (Array UInt16 × Addr) := []
def slotsUsed : Nat := 0
def theMethod : MethodId := ⟨1, 1⟩
def args0 : Array Value := #[.long 5, .long 7]
def aboutOver (below : List Frame) : State where
  vm := { classes := classes, interned := interned.toArray }
  heap := heap
  slotsUsed := slotsUsed
  threads := #[{ frames := .invoking theMethod args0 :: below }]
def below0 : List Frame := [.native { method := ⟨0, 0⟩, args := #[] }]
def about1 : State := aboutOver below0
def p0 : Program := .bare "" "" ""
def e0 : Env := launch0.env 0 0 0
theorem w_frames : about1.frames = Frame.invoking theMethod args0 :: below0 := rfl
set_option maxRecDepth 65536 in
theorem w_args : argsFit about1.vm theMethod args0 = true := by decide +kernel
set_option maxRecDepth 65536 in
theorem w_heap : heapFits about1 = true := by decide +kernel
set_option maxRecDepth 65536 in
theorem w_runnable : about1.curStatus? = some .runnable := by decide +kernel
set_option maxRecDepth 65536 in
theorem w_alone : about1.alone = true := by decide +kernel
set_option maxRecDepth 65536 in
theorem w_named : about1.methodNamed? x = some theMethod := by decide +kernel
set_option maxRecDepth 65536 in
theorem w_hears : about1.hears theMethod below0 = true := by decide +kernel
set_option maxRecDepth 65536 in
theorem w_ripe : about1.ripe theMethod args0 below0 = true := by decide +kernel
theorem w_running : about1.status = .running := rfl
set_option maxRecDepth 65536 in
theorem w_room : about1.hasRoom e0.platform room_1 = true :=
  launch0.hasRoom_least _ room_1 (by decide +kernel) (by decide +kernel) (by decide +kernel) (by decide +kernel) (by decide +kernel) (by decide +kernel)
theorem allAtoms_all (ts : List Jvm.Cond) (a : Array Jvm.Value) (st : Jvm.State) : (allAtoms ts).before a st = ts.all (fun c => c.before a st) := by
  induction ts with
  | nil => rfl
  | cons c t ih =>
    show (Jvm.Cond.and c (allAtoms t)).before a st = _
    rw [Jvm.Cond.before_and, ih, List.all_cons]
def words1 : List Jvm.Cond := Jvm.Cond.code x code maxLocals ret :: tables_1
/-- a 'code' word, met by the world's own term for the bytes: nothing is compared byte by byte -/
theorem code_word {y : MethodName} {bytes : ByteArray} {mx : Nat} {rt : Option FieldType} {a : Array Value} {s : State} {m : MethodId} {meth : Method} {c : Code} (h1 : s.methodNamed? y = some m) (h2 : s.vm.method? m = some meth) (h3 : meth.code = some c) (h4 : c.code = bytes)
    (h5 : (c.maxLocals == mx && c.exceptionTable.isEmpty && decide (c.maxStack ≤ mostOperands) && decide (meth.sig.returnType = rt) && !meth.locks && decide (parseMethodDescriptor y.desc = some meth.sig)) = true) : (Jvm.Cond.code y bytes mx rt).before a s = true := by
  simp only [Bool.and_eq_true, beq_iff_eq, Bool.not_eq_true', decide_eq_true_eq] at h5
  obtain ⟨⟨⟨⟨⟨g1, g2⟩, g3⟩, g4⟩, g5⟩, g6⟩ := h5
  simp [Cond.before, Cond.holds, Cond.value, h1, h2, h3, h4, g1, g2, g3, g4, g5, g6]
def isCode : Jvm.Cond → Bool
  | .code _ _ _ _ => true
  | _ => false
theorem all_split {L : List Jvm.Cond} {P : Jvm.Cond → Bool} (h1 : L.all (fun c => isCode c || P c) = true) (h2 : ∀ c ∈ L.filter isCode, P c = true) : L.all P = true := by
  refine List.all_eq_true.mpr fun c hc => ?_
  have h := List.all_eq_true.mp h1 c hc
  rcases Bool.eq_false_or_eq_true (isCode c) with hi | hi
  · exact h2 c (List.mem_filter.mpr ⟨hc, hi⟩)
  · simpa [hi] using h
set_option maxRecDepth 65536 in
theorem w_c0 : (Jvm.Cond.code x code maxLocals ret).before args0 about1 = true := code_word (m := ⟨1, 1⟩) (meth := k1m1) (c := k1c1) (by decide +kernel) rfl rfl rfl (by decide +kernel)
set_option maxRecDepth 65536 in
theorem w_c1 : (Jvm.Cond.code ({ cls := "com/example/covermesh/covermesh/graph/SeededRandom", name := "<init>", desc := "(J)V" } : Jvm.MethodName) prog_76_method_1_code (3 : Nat) (Option.none : Option Jvm.ClassFile.FieldType)).before args0 about1 = true := code_word (m := ⟨2, 0⟩) (meth := k2m0) (c := k2c0) (by decide +kernel) rfl rfl rfl (by decide +kernel)
set_option maxRecDepth 65536 in
theorem w_c2 : (Jvm.Cond.code ({ cls := "java/lang/Object", name := "<init>", desc := "()V" } : Jvm.MethodName) object_method_1_code (1 : Nat) (Option.none : Option Jvm.ClassFile.FieldType)).before args0 about1 = true := code_word (m := ⟨0, 0⟩) (meth := k0m0) (c := k0c0) (by decide +kernel) rfl rfl rfl (by decide +kernel)
set_option maxRecDepth 65536 in
theorem w_c3 : (Jvm.Cond.code ({ cls := "com/example/covermesh/covermesh/graph/SeededRandom", name := "nextLong", desc := "()J" } : Jvm.MethodName) prog_76_method_3_code (1 : Nat) (Option.some Jvm.ClassFile.FieldType.long)).before args0 about1 = true := code_word (m := ⟨2, 1⟩) (meth := k2m1) (c := k2c1) (by decide +kernel) rfl rfl rfl (by decide +kernel)
set_option maxRecDepth 65536 in
theorem w_c4 : (Jvm.Cond.code ({ cls := "com/example/covermesh/covermesh/graph/SeededRandom", name := "mix", desc := "(J)J" } : Jvm.MethodName) prog_76_method_7_code (2 : Nat) (Option.some Jvm.ClassFile.FieldType.long)).before args0 about1 = true := code_word (m := ⟨2, 2⟩) (meth := k2m2) (c := k2c2) (by decide +kernel) rfl rfl rfl (by decide +kernel)
def codes1 : List Jvm.Cond := [Jvm.Cond.code x code maxLocals ret, Jvm.Cond.code ({ cls := "com/example/covermesh/covermesh/graph/SeededRandom", name := "<init>", desc := "(J)V" } : Jvm.MethodName) prog_76_method_1_code (3 : Nat) (Option.none : Option Jvm.ClassFile.FieldType), Jvm.Cond.code ({ cls := "java/lang/Object", name := "<init>", desc := "()V" } : Jvm.MethodName) object_method_1_code (1 : Nat) (Option.none : Option Jvm.ClassFile.FieldType), Jvm.Cond.code ({ cls := "com/example/covermesh/covermesh/graph/SeededRandom", name := "nextLong", desc := "()J" } : Jvm.MethodName) prog_76_method_3_code (1 : Nat) (Option.some Jvm.ClassFile.FieldType.long), Jvm.Cond.code ({ cls := "com/example/covermesh/covermesh/graph/SeededRandom", name := "mix", desc := "(J)J" } : Jvm.MethodName) prog_76_method_7_code (2 : Nat) (Option.some Jvm.ClassFile.FieldType.long)]
set_option maxRecDepth 65536 in
theorem codes_eq : words1.filter isCode = codes1 := rfl
theorem w_codes : ∀ c ∈ words1.filter isCode, c.before args0 about1 = true := by
  rw [codes_eq]
  intro c hc
  simp only [codes1, List.mem_cons, List.not_mem_nil, or_false] at hc
  rcases hc with rfl | rfl | rfl | rfl | rfl
  · exact w_c0
  · exact w_c1
  · exact w_c2
  · exact w_c3
  · exact w_c4
set_option maxRecDepth 65536 in
theorem w_t1 : (words1.take 24).all (fun c => isCode c || c.before args0 about1) = true := by decide +kernel
set_option maxRecDepth 65536 in
theorem w_t2 : (words1.drop 24).all (fun c => isCode c || c.before args0 about1) = true := by decide +kernel
theorem w_tables : (allAtoms (Jvm.Cond.code x code maxLocals ret :: tables_1)).before args0 about1 = true := by
  rw [allAtoms_all]
  show words1.all (fun c => c.before args0 about1) = true
  refine all_split ?_ w_codes
  rw [← List.take_append_drop 24 words1, List.all_append, w_t1, w_t2]
  rfl
set_option maxRecDepth 65536 in
theorem w_case : (Jvm.Cond.and given_1 narrow_1).before args0 about1 = true := by decide +kernel
theorem w_applies : (headSpec (Jvm.Cond.code x code maxLocals ret :: tables_1) room_1).applies x e0.platform about1 = true :=
  (Spec.applies_iff w_frames).mpr ⟨w_running, w_runnable, w_alone, w_named, w_hears, w_ripe, w_room, w_tables⟩
theorem atStart : AtStart classFile x code maxLocals ret World_1 tables_1 room_1 Calls_1 rest_1 Pre_1 launch0 p0 e0 about1 theMethod args0 below0 :=
  ⟨lists_1, trivial, launch0.admits_env _ _ _, launch0.least_env, fairChoices_fair.cas, fairChoices_fair.clock, w_frames, w_args, w_heap, w_applies, trivial, trivial, w_case⟩
end start1
theorem witness_1 : WitnessClaimed_1 := ⟨start1.p0, start1.e0, start1.about1, start1.theMethod, start1.args0, start1.below0, start1.atStart⟩
end Jvm.Pilot.@@N@@
