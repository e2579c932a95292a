import JvmDerived
import JvmDerived.Pilot.@@N@@Statement
import JvmDerived.Pilot.@@N@@Code
set_option linter.unusedVariables false
set_option linter.unusedSimpArgs false
@@BLOCK:NumsL.lean.txt@@
namespace Jvm.RoadKit
open Sem ClassFile Op Lib Jvm.Stand Jvm.Free Jvm.LawKit
section New
variable {p : Program} {l : Launch} {e : Env} {R : Room} {s : State} {m : MethodId} {args : Array Value} {below : List Frame} {meth : Method} {c : Code} {T : State} {locs : List Loc} {cells slots : Nat}
theorem retI (X : Stand p l e R s m args below meth c T locs cells slots) (hx : p.tables.exec = Jvm.exec) {pc : Nat} {Ls : Array Slot} {z : Int32} {rest : List Value} (hret : meth.sig.returnType = some .int) (hd : decode c.code pc = .ok (.ireturn, 1)) {fs : List Frame}
    (hl : ∀ (f : JFrame) (acts : List Action), f.method = m → f.locked = none → f.entered = [] → (doReturn e (T.setTop f) acts (some (.int z))).1 = T.setFrames fs) : Steps p.tables e below (T.setTop (mkF m pc Ls (.int z :: rest))) (T.setFrames fs) := by
  have hm' : T.vm.method? m = some meth := X.method'
  have hn : narrow .int (.int z) = .int z := rfl
  show Steps p.tables e below (T.setTop { method := m, pc := pc, locals := Ls, stack := _ :: rest, locked := none }) _
  jvm_step X.here [X.here.top, hx, hd, hm', hret, hn]
  first | (intro acts; rw [hl _ acts rfl rfl rfl]) | rw [hl _ _ rfl rfl rfl]
  exact Steps.refl _
end New
end Jvm.RoadKit
namespace Jvm.Pilot.@@N@@
open Jvm Jvm.ClassFile Sem Op Lib Jvm.Free Jvm.Stand Jvm.LawKit Jvm.RoadKit Bundle Jvm.Pilot.@@N@@.Jvm.D
abbrev dc13 (p : Nat) (i : Instr) (k : Nat) : Prop := decode jdk_68_method_9_code p = .ok (i, k)
abbrev dc21 (p : Nat) (i : Instr) (k : Nat) : Prop := decode jdk_68_method_68_code p = .ok (i, k)
abbrev dc33 (p : Nat) (i : Instr) (k : Nat) : Prop := decode jdk_43_method_3_code p = .ok (i, k)
abbrev dc32 (p : Nat) (i : Instr) (k : Nat) : Prop := decode jdk_68_method_31_code p = .ok (i, k)
abbrev dc31 (p : Nat) (i : Instr) (k : Nat) : Prop := decode jdk_67_method_14_code p = .ok (i, k)
abbrev dc9 (p : Nat) (i : Instr) (k : Nat) : Prop := decode jdk_68_method_6_code p = .ok (i, k)
abbrev dc8 (p : Nat) (i : Instr) (k : Nat) : Prop := decode jdk_67_method_93_code p = .ok (i, k)
abbrev dc12 (p : Nat) (i : Instr) (k : Nat) : Prop := decode jdk_68_method_13_code p = .ok (i, k)
abbrev dc11 (p : Nat) (i : Instr) (k : Nat) : Prop := decode jdk_67_method_89_code p = .ok (i, k)
abbrev dc25 (p : Nat) (i : Instr) (k : Nat) : Prop := decode jdk_29_method_69_code p = .ok (i, k)
abbrev dc45 (p : Nat) (i : Instr) (k : Nat) : Prop := decode jdk_41_method_11_code p = .ok (i, k)
abbrev dc44 (p : Nat) (i : Instr) (k : Nat) : Prop := decode jdk_42_method_155_code p = .ok (i, k)
abbrev dc47 (p : Nat) (i : Instr) (k : Nat) : Prop := decode jdk_68_method_14_code p = .ok (i, k)
abbrev dc46 (p : Nat) (i : Instr) (k : Nat) : Prop := decode jdk_67_method_88_code p = .ok (i, k)
abbrev dc24 (p : Nat) (i : Instr) (k : Nat) : Prop := decode jdk_65_method_131_code p = .ok (i, k)
abbrev dc23 (p : Nat) (i : Instr) (k : Nat) : Prop := decode jdk_65_method_133_code p = .ok (i, k)
abbrev dc22 (p : Nat) (i : Instr) (k : Nat) : Prop := decode jdk_65_method_132_code p = .ok (i, k)
abbrev dc20 (p : Nat) (i : Instr) (k : Nat) : Prop := decode jdk_68_method_64_code p = .ok (i, k)
abbrev dc19 (p : Nat) (i : Instr) (k : Nat) : Prop := decode jdk_42_method_150_code p = .ok (i, k)
abbrev dc18 (p : Nat) (i : Instr) (k : Nat) : Prop := decode jdk_42_method_53_code p = .ok (i, k)
abbrev dc17 (p : Nat) (i : Instr) (k : Nat) : Prop := decode jdk_67_method_42_code p = .ok (i, k)
abbrev dc37 (p : Nat) (i : Instr) (k : Nat) : Prop := decode prog_44_method_5_code p = .ok (i, k)
abbrev dc36 (p : Nat) (i : Instr) (k : Nat) : Prop := decode prog_44_method_2_code p = .ok (i, k)
abbrev dc40 (p : Nat) (i : Instr) (k : Nat) : Prop := decode prog_44_method_3_code p = .ok (i, k)
abbrev dc10 (p : Nat) (i : Instr) (k : Nat) : Prop := decode prog_41_method_17_code p = .ok (i, k)
abbrev dc7 (p : Nat) (i : Instr) (k : Nat) : Prop := decode prog_41_method_9_code p = .ok (i, k)
abbrev dc6 (p : Nat) (i : Instr) (k : Nat) : Prop := decode prog_41_method_10_code p = .ok (i, k)
abbrev dc14 (p : Nat) (i : Instr) (k : Nat) : Prop := decode prog_41_method_11_code p = .ok (i, k)
abbrev dc35 (p : Nat) (i : Instr) (k : Nat) : Prop := decode prog_41_method_16_code p = .ok (i, k)
abbrev dc39 (p : Nat) (i : Instr) (k : Nat) : Prop := decode prog_41_method_15_code p = .ok (i, k)
abbrev dc34 (p : Nat) (i : Instr) (k : Nat) : Prop := decode prog_41_method_6_code p = .ok (i, k)
abbrev dc30 (p : Nat) (i : Instr) (k : Nat) : Prop := decode prog_41_method_5_code p = .ok (i, k)
abbrev dc29 (p : Nat) (i : Instr) (k : Nat) : Prop := decode prog_41_method_2_code p = .ok (i, k)
abbrev dc38 (p : Nat) (i : Instr) (k : Nat) : Prop := decode prog_41_method_7_code p = .ok (i, k)
abbrev dc15 (p : Nat) (i : Instr) (k : Nat) : Prop := decode prog_41_method_12_code p = .ok (i, k)
abbrev dc16 (p : Nat) (i : Instr) (k : Nat) : Prop := decode prog_41_method_13_code p = .ok (i, k)
abbrev dc4 (p : Nat) (i : Instr) (k : Nat) : Prop := decode jdk_68_method_2_code p = .ok (i, k)
abbrev dc3 (p : Nat) (i : Instr) (k : Nat) : Prop := decode jdk_67_method_1_code p = .ok (i, k)
abbrev dc5 (p : Nat) (i : Instr) (k : Nat) : Prop := decode prog_44_method_1_code p = .ok (i, k)
abbrev dc1 (p : Nat) (i : Instr) (k : Nat) : Prop := decode prog_41_method_1_code p = .ok (i, k)
abbrev dc27 (p : Nat) (i : Instr) (k : Nat) : Prop := decode jdk_42_method_152_code p = .ok (i, k)
abbrev dc42 (p : Nat) (i : Instr) (k : Nat) : Prop := decode jdk_42_method_154_code p = .ok (i, k)
abbrev dc26 (p : Nat) (i : Instr) (k : Nat) : Prop := decode jdk_42_method_54_code p = .ok (i, k)
abbrev dc43 (p : Nat) (i : Instr) (k : Nat) : Prop := decode jdk_43_method_2_code p = .ok (i, k)
abbrev dc41 (p : Nat) (i : Instr) (k : Nat) : Prop := decode jdk_42_method_56_code p = .ok (i, k)
abbrev dc28 (p : Nat) (i : Instr) (k : Nat) : Prop := decode method_3_code p = .ok (i, k)
abbrev vI (x : Int32) : Slot := .val (.int x)
abbrev vR (x : Addr) : Slot := .val (.ref x)
theorem own_w {Z : State} {a0 : Array Value} (hw : ∀ d ∈ tables_1, d.before a0 Z = true) (i : Nat) {d : Jvm.Cond} (h : tables_1[i]? = some d) : d.before a0 Z = true := hw _ (List.mem_of_getElem? h)
abbrev rO_0 : Room := { frames := 0, cells := 0, slots := 0, locals := 0 }
abbrev rO_1 : Room := { frames := 1, cells := 0, slots := 0, locals := 12 }
abbrev rO_2 : Room := { frames := 1, cells := 0, slots := 0, locals := 13 }
abbrev rO_3 : Room := { frames := 1, cells := 0, slots := 0, locals := 14 }
abbrev rO_4 : Room := { frames := 1, cells := 0, slots := 0, locals := 16 }
abbrev rO_5 : Room := { frames := 1, cells := 1, slots := 12, locals := 60 }
abbrev rO_6 : Room := { frames := 1, cells := 1, slots := 16, locals := 12 }
abbrev rO_7 : Room := { frames := 1, cells := 4, slots := 64, locals := 12 }
abbrev rO_8 : Room := { frames := 2, cells := 0, slots := 0, locals := 27 }
abbrev rO_9 : Room := { frames := 2, cells := 0, slots := 0, locals := 30 }
abbrev rO_10 : Room := { frames := 2, cells := 0, slots := 0, locals := 31 }
abbrev rO_11 : Room := { frames := 2, cells := 1, slots := 12, locals := 76 }
abbrev rO_12 : Room := { frames := 2, cells := 1, slots := 16, locals := 25 }
abbrev rO_13 : Room := { frames := 3, cells := 0, slots := 0, locals := 40 }
abbrev rO_14 : Room := { frames := 3, cells := 0, slots := 0, locals := 43 }
abbrev rO_15 : Room := { frames := 3, cells := 0, slots := 0, locals := 45 }
abbrev rO_16 : Room := { frames := 3, cells := 0, slots := 0, locals := 46 }
abbrev rO_17 : Room := { frames := 3, cells := 1, slots := 12, locals := 91 }
abbrev rO_18 : Room := { frames := 3, cells := 11, slots := 122, locals := 39 }
abbrev rO_19 : Room := { frames := 4, cells := 0, slots := 0, locals := 52 }
abbrev rO_20 : Room := { frames := 4, cells := 0, slots := 0, locals := 53 }
abbrev rO_21 : Room := { frames := 4, cells := 0, slots := 0, locals := 63 }
abbrev rO_22 : Room := { frames := 4, cells := 1, slots := 12, locals := 107 }
abbrev rO_23 : Room := { frames := 5, cells := 0, slots := 0, locals := 64 }
abbrev rO_24 : Room := { frames := 5, cells := 0, slots := 0, locals := 78 }
abbrev rO_25 : Room := { frames := 5, cells := 2, slots := 16, locals := 121 }
abbrev rO_26 : Room := { frames := 6, cells := 2, slots := 16, locals := 133 }
abbrev mN_0 : MethodName := ⟨"java/lang/StringBuilder", "length", "()I"⟩
abbrev mN_1 : MethodName := ⟨"java/lang/StringBuilder", "append", "(C)Ljava/lang/StringBuilder;"⟩
abbrev mN_2 : MethodName := ⟨"com/example/whereas/whereas/model/HtmlLayout", "endRow", "(I)V"⟩
abbrev mN_3 : MethodName := ⟨"com/example/whereas/whereas/model/HtmlLayout", "clearPending", "()V"⟩
abbrev mN_4 : MethodName := ⟨"com/example/whereas/whereas/model/HtmlLayout", "paragraphBreak", "()V"⟩
abbrev mN_5 : MethodName := ⟨"java/lang/AbstractStringBuilder", "ensureCapacityInternal", "(I)V"⟩
abbrev mN_6 : MethodName := ⟨"com/example/whereas/whereas/model/HtmlLayout", "startCell", "()V"⟩
abbrev mN_7 : MethodName := ⟨"com/example/whereas/whereas/model/HtmlLayout", "add", "(III)V"⟩
abbrev mN_8 : MethodName := ⟨"com/example/whereas/whereas/model/HtmlLayout", "append", "(CIII)V"⟩
abbrev mN_9 : MethodName := ⟨"com/example/whereas/whereas/model/Origins$Builder", "add", "(IIZ)V"⟩
abbrev mN_10 : MethodName := ⟨"com/example/whereas/whereas/model/HtmlLayout", "space", "(CIIZZ)V"⟩
abbrev mN_11 : MethodName := ⟨"com/example/whereas/whereas/model/HtmlLayoutStartCellPinLaw", "at", "(Ljava/lang/String;[CII)Z"⟩
abbrev mN_12 : MethodName := ⟨"java/lang/AbstractStringBuilder", "isLatin1", "()Z"⟩
abbrev mN_13 : MethodName := ⟨"java/lang/AbstractStringBuilder", "length", "()I"⟩
abbrev mN_14 : MethodName := ⟨"java/lang/StringBuilder", "toString", "()Ljava/lang/String;"⟩
abbrev mN_15 : MethodName := ⟨"com/example/whereas/whereas/model/HtmlLayout", "show", "(CII)V"⟩
abbrev mN_16 : MethodName := ⟨"java/lang/AbstractStringBuilder", "append", "(C)Ljava/lang/AbstractStringBuilder;"⟩
abbrev mN_17 : MethodName := ⟨"java/lang/AbstractStringBuilder", "setLength", "(I)V"⟩
abbrev mN_18 : MethodName := ⟨"java/lang/StringBuilder", "setLength", "(I)V"⟩
abbrev mN_19 : MethodName := ⟨"java/lang/Math", "min", "(II)I"⟩
abbrev mN_20 : MethodName := ⟨"java/lang/String", "checkIndex", "(II)V"⟩
abbrev mN_21 : MethodName := ⟨"java/lang/AbstractStringBuilder", "charAt", "(I)C"⟩
abbrev mN_22 : MethodName := ⟨"java/lang/StringBuilder", "charAt", "(I)C"⟩
abbrev mN_23 : MethodName := ⟨"java/lang/AbstractStringBuilder", "getValue", "()[B"⟩
abbrev mN_24 : MethodName := ⟨"com/example/whereas/whereas/model/Origins$Builder", "literal", "(II)V"⟩
abbrev mN_25 : MethodName := ⟨"com/example/whereas/whereas/model/Origins$Builder", "standFor", "(III)V"⟩
abbrev mN_26 : MethodName := ⟨"com/example/whereas/whereas/model/HtmlLayout", "startRow", "()V"⟩
abbrev mN_27 : MethodName := ⟨"com/example/whereas/whereas/model/HtmlLayout", "shown", "(III)V"⟩
abbrev mN_28 : MethodName := ⟨"com/example/whereas/whereas/model/HtmlLayout", "layOutBefore", "(I)V"⟩
abbrev mN_29 : MethodName := ⟨"com/example/whereas/whereas/model/HtmlLayout", "finish", "(I)Ljava/lang/String;"⟩
abbrev mN_30 : MethodName := ⟨"java/lang/StringBuilder", "<init>", "()V"⟩
abbrev mN_31 : MethodName := ⟨"java/lang/String", "coder", "()B"⟩
abbrev mN_32 : MethodName := ⟨"java/lang/String", "isLatin1", "()Z"⟩
abbrev mN_33 : MethodName := ⟨"java/lang/String", "length", "()I"⟩
abbrev mN_34 : MethodName := ⟨"java/lang/String", "charAt", "(I)C"⟩
theorem own_fi {args : Array Value} {s : State} {t : Term} {C n d : String} {k : Int32} {x : Addr} (ht : t.eval args s none [] s = some (.ref x)) (h : (Jvm.Cond.eq (Term.field t C n d) (Term.int k)).value args s none s [] = some true) : Fld s s.heap x C n d (.int k) := by
  obtain ⟨a, b, ha, hb, hk, -⟩ := cmp_v (Or.inl h)
  have hb' : b = .int k := Option.some.inj (hb.symm.trans rfl)
  subst hb'
  cases a <;> simp [Kin, Value.isRef] at hk
  rename_i z
  have hz : z = k := by simpa [Jvm.Cond.value, ha, hb] using h
  subst hz
  exact Fld.start ((fld_at ht).symm.trans ha)
theorem own_fn {args : Array Value} {s : State} {t : Term} {C n d : String} {x : Addr} (ht : t.eval args s none [] s = some (.ref x)) (h : (Jvm.Cond.eq (Term.field t C n d) Term.null).value args s none s [] = some true) : Fld s s.heap x C n d .null := Fld.start ((fld_at ht).symm.trans (null_v h))
theorem own_fx {args : Array Value} {s : State} {t : Term} {C n d K : String} {x : Addr} (ht : t.eval args s none [] s = some (.ref x)) (h : (Jvm.Cond.exactly (Term.field t C n d) K).value args s none s [] = some true) : ∃ y, (Term.field t C n d).eval args s none [] s = some (.ref y) ∧ Fld s s.heap x C n d (.ref y) ∧ Exa s s.heap y K := by
  obtain ⟨y, hy⟩ := exa_v h
  exact ⟨y, hy, Fld.start ((fld_at ht).symm.trans hy), Exa.start hy h⟩
theorem own_sx {args : Array Value} {s : State} {C n d K : String} (hi : (Jvm.Cond.initialized C).before args s = true) (hl : (Jvm.Cond.laysStatic C n d).before args s = true) (h : (Jvm.Cond.exactly (Term.static C n d) K).value args s none s [] = some true) : ∃ x, (Term.static C n d).eval args s none [] s = some (.ref x) ∧ Sta s s.heap C n d (.ref x) ∧ Exa s s.heap x K := by
  obtain ⟨y, hy⟩ := exa_v h
  exact ⟨y, hy, Sta.start hy (Or.inr ⟨hi, hl⟩), Exa.start hy h⟩
theorem own_and31 (x : Int32) : (x &&& 2147483647).toInt = x.toInt % 2 ^ 31 := Jvm.Kit.i32_mask x 2147483647 (k := 31) (by decide) (by decide)
theorem own_pos31 (x : Int32) : 0 ≤ (x &&& 2147483647).toInt := by rw [own_and31]; omega
theorem own_rem (x m : Int32) (hm : 0 < m.toInt) : 0 ≤ ((x &&& 2147483647) % m).toInt ∧ ((x &&& 2147483647) % m).toInt < m.toInt := by
  have h1 := own_pos31 x
  rw [Int32.toInt_mod]
  have h2 : ((x &&& 2147483647).toInt).tmod m.toInt = (x &&& 2147483647).toInt % m.toInt := Int.tmod_eq_emod_of_nonneg h1
  have h3 := Int.emod_nonneg (x &&& 2147483647).toInt (show m.toInt ≠ 0 by omega)
  have h4 := Int.emod_lt_of_pos (x &&& 2147483647).toInt hm
  omega
theorem own_selp {s : State} {args : Array Value} {y : MethodName} {n : Nat} (hy : y.cls ≠ "java/lang/invoke/MethodHandle" ∧ y.cls ≠ "java/lang/invoke/VarHandle") (hins : (Jvm.Cond.instantiable y.cls n).before args s = true) (hpriv : (Jvm.Cond.privateMethod y).before args s = true) (hinst : (Jvm.Cond.instanceMethod y).before args s = true) : (Jvm.Cond.selects y.cls y y).before args s = true := by
  obtain ⟨c, k, hc, hk, -, hniab, -, -⟩ := Cond.instantiable_spec hins
  have hni : k.isInterface = false := (Bool.or_eq_false_iff.mp hniab).1
  obtain ⟨mk, methM, hnamed, hmethM, -, -⟩ := Cond.instanceMethod_spec hinst
  have hfound : s.methodFound? y.cls y.name y.desc = some mk := State.methodFound?_of_named hnamed hy
  have hcls : mk.cls = c := Option.some.inj ((findClass_of_methodNamed hnamed).symm.trans hc)
  have hsel : selectMethod {} s.vm c mk = .method mk := selectMethod_private hmethM (Cond.privateMethod_at hpriv mk methM hnamed hmethM)
  simp only [Cond.before, Cond.holds, Cond.value, hc, hfound, hnamed, hsel, hcls, hk]
  simp; exact hni
theorem own_hp {T : State} {h : Heap} {a : Addr} {c : Cell} (e : T.heap = h) (q : h[a]? = some c) : T.heap[a]? = some c := e ▸ q
theorem own_of_toInt {x : Int32} {n : Int} (h : x.toInt = n) : x = Int32.ofInt n := by rw [← h, Int32.ofInt_toInt]
theorem own_cs {args : Array Value} {s : State} (h0 : (Jvm.Cond.initializedFor "java/lang/String" "COMPACT_STRINGS" "Z").before args s = true) (h1 : (Jvm.Cond.isInt (Term.static "java/lang/String" "COMPACT_STRINGS" "Z")).before args s = true) (h2 : (Jvm.Cond.not (Jvm.Cond.eq (Term.static "java/lang/String" "COMPACT_STRINGS" "Z") (Term.int 0))).before args s = true) : ∃ cs : Int32, Sta s s.heap "java/lang/String" "COMPACT_STRINGS" "Z" (.int cs) ∧ ¬ cs = 0 := by
  obtain ⟨cs, e⟩ := is_v (Cond.before_iff.mp h1)
  have h3 := not_v (Cond.before_iff.mp h2)
  refine ⟨cs, Sta.start e (Or.inl h0), fun q => ?_⟩
  subst q
  have e2 : (Term.int 0).eval args s none [] s = some (.int 0) := rfl
  simp [Jvm.Cond.value, e, e2] at h3
theorem own_narO {C : String} {v : Value} (h : v.isRef = true) : narrow (.object C) v = v := by rcases ref_cases h with rfl | ⟨_, rfl⟩ <;> rfl
theorem own_fitO {C : String} {v : Value} (h : v.isRef = true) : fits (.object C) v = true := by rcases ref_cases h with rfl | ⟨_, rfl⟩ <;> rfl
theorem own_nf {s : State} {args : Array Value} {C : String} {y y' : MethodName} (hc : y.cls = y'.cls) (hsel : (Jvm.Cond.selects C y' y').before args s = true) : NotFace s y := fun r0 h0 => by
  obtain ⟨c2, r2, m2, q1, q2, q3, q4, kP, hkP, hkPi⟩ := Cond.selects_spec hsel
  have e1 := findClass_of_methodNamed h0
  have e2 := findClass_of_methodNamed q3
  rw [hc] at e1
  rw [Option.some.inj (e1.symm.trans e2)]
  exact ⟨kP, hkP, hkPi⟩
theorem own_sm {s : State} {args : Array Value} {C : String} {y y' : MethodName} (hc : y.cls = y'.cls) (hy : y.cls ≠ "java/lang/invoke/MethodHandle" ∧ y.cls ≠ "java/lang/invoke/VarHandle") (hinst : (Jvm.Cond.instanceMethod y).before args s = true) (hsel : (Jvm.Cond.selects C y' y').before args s = true) : (Jvm.Cond.sameMethod y.cls y.cls y.name y.desc).before args s = true := by
  obtain ⟨mk, methM, hnamed, hmethM, -, -⟩ := Cond.instanceMethod_spec hinst
  obtain ⟨kr, hk, hki⟩ := own_nf hc hsel mk hnamed
  have hfound := State.methodFound?_of_named hnamed hy
  have hcl := findClass_of_methodNamed hnamed
  have hnamed' : s.methodNamed? ⟨y.cls, y.name, y.desc⟩ = some mk := hnamed
  simp only [Cond.before, Cond.holds, Cond.value, hcl, hfound, hnamed', hk]
  simp [hki]
theorem own_selp2 {s : State} {args : Array Value} {C : String} {y y' : MethodName} (hc : y.cls = y'.cls) (hy : y.cls ≠ "java/lang/invoke/MethodHandle" ∧ y.cls ≠ "java/lang/invoke/VarHandle") (hsel : (Jvm.Cond.selects C y' y').before args s = true) (hpriv : (Jvm.Cond.privateMethod y).before args s = true) (hinst : (Jvm.Cond.instanceMethod y).before args s = true) : (Jvm.Cond.selects y.cls y y).before args s = true := by
  obtain ⟨mk, methM, hnamed, hmethM, -, -⟩ := Cond.instanceMethod_spec hinst
  obtain ⟨kr, hk, hki⟩ := own_nf hc hsel mk hnamed
  have hfound : s.methodFound? y.cls y.name y.desc = some mk := State.methodFound?_of_named hnamed hy
  have hcl := findClass_of_methodNamed hnamed
  have hsl : selectMethod {} s.vm mk.cls mk = .method mk := selectMethod_private hmethM (Cond.privateMethod_at hpriv mk methM hnamed hmethM)
  simp only [Cond.before, Cond.holds, Cond.value, hcl, hfound, hnamed, hsl, hk]
  simp [hki]
def own_bv (c : Int32) : Value := .int (nar .byte c.toInt8.toInt32)
def own_vs (xs : List Int32) : List Value := xs.map own_bv
theorem own_vs_len (xs : List Int32) : (own_vs xs).length = xs.length := List.length_map _
theorem own_vs_app (xs : List Int32) (c : Int32) : own_vs (xs ++ [c]) = own_vs xs ++ [own_bv c] := by simp [own_vs]
/-- n is the length of xs, which is small -/
def own_ln (xs : List Int32) (n : Int32) : Prop := n.toInt = xs.length ∧ xs.length < 12
theorem own_ln.nat {xs : List Int32} {n : Int32} (h : own_ln xs n) : n.toNatClampNeg = xs.length := by
  have h1 := h.1
  have : n.toNatClampNeg = n.toInt.toNat := rfl
  rw [this, h1]; rfl
theorem own_ln.nn {xs : List Int32} {n : Int32} (h : own_ln xs n) : ¬ n < 0 := by
  rw [Int32.lt_iff_toInt_lt, h.1]; have : (0 : Int32).toInt = 0 := rfl; omega
theorem own_ln.lt {xs : List Int32} {n : Int32} (h : own_ln xs n) : n < 16 := by
  rw [Int32.lt_iff_toInt_lt, h.1]; have : (16 : Int32).toInt = 16 := rfl; have := h.2; omega
theorem own_add1 {n : Int32} (h : 0 ≤ n.toInt ∧ n.toInt < 1000) : (n + 1).toInt = n.toInt + 1 := by
  rw [Int32.toInt_add, show (1 : Int32).toInt = 1 from rfl]; exact Int.bmod_eq_of_le (by omega) (by omega)
theorem own_ln.cap {xs : List Int32} {n : Int32} (h : own_ln xs n) : ¬ (0 : Int32) < (n + (1 : Int32)) - 16 := by
  have h1 := h.1; have h2 := h.2
  have e1 : (n + 1).toInt = n.toInt + 1 := own_add1 (by omega)
  have e2 : ((n + 1) - 16).toInt = n.toInt + 1 - 16 := by
    rw [Int32.toInt_sub, e1, show (16 : Int32).toInt = 16 from rfl]; exact Int.bmod_eq_of_le (by omega) (by omega)
  rw [Int32.lt_iff_toInt_lt, e2, show (0 : Int32).toInt = 0 from rfl]; omega
theorem own_ln.push {xs : List Int32} {n : Int32} (h : own_ln xs n) (c : Int32) (hs : xs.length < 11) : own_ln (xs ++ [c]) (n + 1) := by
  have h1 := h.1
  refine ⟨?_, by simp; omega⟩
  rw [own_add1 (by omega), h1]; simp
theorem own_pad (L : List Value) (d : Value) : ∀ i, (L ++ [d]).getD i d = L.getD i d := by
  intro i
  rw [List.getD_eq_getElem?_getD, List.getD_eq_getElem?_getD]
  by_cases h : i < L.length
  · rw [List.getElem?_append_left h]
  · rw [List.getElem?_append_right (by omega), List.getElem?_eq_none (by omega : L.length ≤ i)]
    cases hk : i - L.length with
    | zero => rfl
    | succ k => rfl
theorem own_setlast (L : List Value) (d v : Value) : (L ++ [d]).set L.length v = L ++ [v] := by
  rw [List.set_append_right _ _ (Nat.le_refl _)]; simp
theorem own_rt {c : Int32} (h : ¬ c < 0 ∧ ¬ 255 < c) : ((nar .byte c.toInt8.toInt32) &&& (255 : Int32)).toUInt32.toUInt16.toUInt32.toInt32 = c := by
  obtain ⟨h0, h1⟩ := h
  rw [Int32.lt_iff_toInt_lt] at h0 h1
  have z0 : (0 : Int32).toInt = 0 := rfl
  have z1 : (255 : Int32).toInt = 255 := rfl
  have hc : c = Int32.ofInt c.toInt := (Int32.ofInt_toInt c).symm
  have hb : ∃ b : Nat, b < 256 ∧ c.toInt = (b : Int) := ⟨c.toInt.toNat, by omega, by omega⟩
  obtain ⟨b, hb1, hb2⟩ := hb
  rw [hc, hb2]
  revert b
  have key : ∀ b : Fin 256, ((nar .byte (Int32.ofInt (b.val : Int)).toInt8.toInt32) &&& (255 : Int32)).toUInt32.toUInt16.toUInt32.toInt32 = Int32.ofInt (b.val : Int) := by decide +kernel
  intro b hb1 hb2
  exact key ⟨b, hb1⟩
theorem d13_0 : dc13 0 (.aload_n 0) 1 := by decide +kernel
theorem d13_1 : dc13 1 (.getfield 15) 3 := by decide +kernel
theorem d13_4 : dc13 4 (.arraylength) 1 := by decide +kernel
theorem d13_5 : dc13 5 (.aload_n 0) 1 := by decide +kernel
theorem d13_6 : dc13 6 (.getfield 22) 3 := by decide +kernel
theorem d13_9 : dc13 9 (.ishr) 1 := by decide +kernel
theorem d13_10 : dc13 10 (.istore_n 2) 1 := by decide +kernel
theorem d13_11 : dc13 11 (.iload_n 1) 1 := by decide +kernel
theorem d13_12 : dc13 12 (.iload_n 2) 1 := by decide +kernel
theorem d13_13 : dc13 13 (.isub) 1 := by decide +kernel
theorem d13_14 : dc13 14 (.ifCond .le 24) 3 := by decide +kernel
theorem d13_38 : dc13 38 (.return_) 1 := by decide +kernel
theorem pn_0 : plainName "java/lang/AbstractStringBuilder" = true := by first | (simp [plainName, overriddenIn]; done) | decide +kernel
theorem ef_rmEc (m : MethodId) (a1 : Addr) (x : Int32) : entryFrame m #[(.ref a1), (.int x)] 3 = mkF m 0 #[.val (.ref a1), .val (.int x), .unset] [] := by first | (simp [entryFrame, mkF, argsToLocals, Value.category]; done) | rfl
def QEc (Z : State) (a1 : Addr) (x : Int32) (v1 : Addr) (kA : ClassId) (vs : List Value) (h0 : Heap) (n0 : Nat) (v : Option Value) (h : Heap) (L : List Loc) : Prop := v = none ∧ Fr n0 L ∧ h = h0
set_option maxRecDepth 65536 in
set_option maxHeartbeats 40000000 in
theorem rmEc (l : Launch) (Z : State) (a0 : Array Value) (hw : ∀ d ∈ tables_1, d.before a0 Z = true) (ws : List Jvm.Cond) (a1 : Addr) (x : Int32) (v1 : Addr) (kA : ClassId) (vs : List Value) (h0 : Heap) (n0 : Nat) (Z0 : n0 ≤ h0.size) (FV : Fld Z h0 a1 "java/lang/AbstractStringBuilder" "value" "[B" (.ref v1)) (FC : Fld Z h0 a1 "java/lang/AbstractStringBuilder" "coder" "B" (.int (0 : Int32))) (VA : Arv Z h0 v1 kA .byte 16 vs (.int (0 : Int32))) (hx16 : ¬ (0 : Int32) < x - 16) :
    MetFree l mN_5 (head1 (Jvm.Cond.code mN_5 jdk_68_method_9_code 3 none :: ws) rO_0) (fun a U => a = #[(.ref a1), (.int x)] ∧ Z.Warmed39 U.vm ∧ U.heap = h0) (fun _ _ _ _ _ => True) (fun _ U o U' => ∃ v L, o = .returned v ∧ QEc Z a1 x v1 kA vs h0 n0 v U'.heap L ∧ FrameEnd U o U' L rO_0.cells rO_0.slots) := by
  refine MetFree.of_bodySF (plainFor_of_name pn_0) hisR ?_
  intro p e s m args below meth c s₁ Bd hml0 hP hK
  obtain ⟨rfl, hZ, hh⟩ := hP
  have hx := Bd.exec
  have hby := Bd.bytes
  have hml : c.maxLocals = 3 := hml0
  have hown : s.vm.findClass "java/lang/AbstractStringBuilder" = some m.cls := findClass_of_methodNamed Bd.named
  have hnm := (name_of_methodNamed Bd.named Bd.method).1
  have X0 : Stand p l e rO_0 s m #[(.ref a1), (.int x)] below meth c s₁ [] 0 0 := Stand.of_body Bd
  have e0 : s₁.heap = h0 := by rw [← hh, Bd.state]; rfl
  have N0 := Fr.nil n0
  have K0 := Keep.refl h0 []
  have go0 : Goes p e below s₁ (entryFrame m #[(.ref a1), (.int x)] 3) s₁ (mkF m 0 #[vR a1, vI x, .unset] []) := fun t k => castTop (ef_rmEc m a1 x) k
  obtain ⟨T1, X1, e1, st1⟩ := getF X0 hx hZ hown (host := "") (Or.inl (own_w hw 25 rfl)) Via.refl e0 FV (g := (mkF m 1 #[vR a1, vI x, .unset] [(.ref a1)])) rfl rfl (hb hby d13_1)
  obtain ⟨cl2, Ar2, kq2, Sz2, Nn2, Hs2, Gf2⟩ := id (VA)
  obtain ⟨T3, X3, e3, st3⟩ := getF X1 hx hZ hown (host := "") (Or.inl (own_w hw 27 rfl)) Via.refl e1 FC (g := (mkF m 6 #[vR a1, vI x, .unset] [(.ref a1), (.int (16 : Int32))])) rfl rfl (hb hby d13_6)
  have go4 : Goes p e below s₁ (entryFrame m #[(.ref a1), (.int x)] 3) T3 (mkF m 38 #[vR a1, vI x, vI (16 : Int32)] []) := fun t k => by
    refine go0 t ?_
    refine XS.aloadN X0.here hx rfl (hb hby d13_0) rfl rfl ?_
    refine st1 t ?_
    refine X1.arraylength hx (own_hp e1 Ar2.1) (State.isArrayOf_alike hZ.alike Ar2.2.1) (g := (mkF m 4 #[vR a1, vI x, .unset] [(.ref v1)])) rfl rfl (hb hby d13_4) _ ?_
    rw [len_of Sz2 Nn2]
    refine XS.aloadN X1.here hx rfl (hb hby d13_5) rfl rfl ?_
    refine st3 t ?_
    refine XS.ishr X3.here hx rfl (hb hby d13_9) rfl ?_
    show Steps p.tables e below (T3.setTop (mkF m 10 #[vR a1, vI x, .unset] [(.int (16 : Int32))])) _
    refine XS.istoreN X3.here hx rfl (hb hby d13_10) rfl (l' := #[vR a1, vI x, vI (16 : Int32)]) rfl ?_
    refine XS.iloadN X3.here hx rfl (hb hby d13_11) rfl ?_
    refine XS.iloadN X3.here hx rfl (hb hby d13_12) rfl ?_
    refine XS.isub X3.here hx rfl (hb hby d13_13) rfl ?_
    refine XS.ifYes X3.here hx rfl (pc0 := 14) (pc' := 38) rfl (hb hby d13_14) rfl (Jvm.Free.XT.i0_le_t hx16) (by decide) (by decide) ?_
    exact k
  obtain ⟨fs, hr, hrun, hended, hW, hsame⟩ := X3.leave (v := none) (fun _ => rfl)
  refine ⟨_, _, go4 _ ?_, hrun, hended, _, _, rfl, ?_, ⟨_, rfl⟩, hW, hsame.mono (by decide) (by decide)⟩
  · exact X3.returnOut hx Bd.returns (hb hby d13_38) hr
  · show QEc Z _ _ _ _ _ _ _ _ T3.heap _
    rw [e3]
    exact ⟨rfl, N0, rfl⟩
theorem d21_0 : dc21 0 (.getstatic 18) 3 := by decide +kernel
theorem d21_3 : dc21 3 (.ifCond .eq 14) 3 := by decide +kernel
theorem d21_6 : dc21 6 (.aload_n 0) 1 := by decide +kernel
theorem d21_7 : dc21 7 (.getfield 22) 3 := by decide +kernel
theorem d21_10 : dc21 10 (.ifCond .ne 7) 3 := by decide +kernel
theorem d21_13 : dc21 13 (.iconst 1) 1 := by decide +kernel
theorem d21_14 : dc21 14 (.goto 4) 3 := by decide +kernel
theorem d21_18 : dc21 18 (.ireturn) 1 := by decide +kernel
theorem ef_rmAi (m : MethodId) (a1 : Addr) : entryFrame m #[(.ref a1)] 1 = mkF m 0 #[.val (.ref a1)] [] := by first | (simp [entryFrame, mkF, argsToLocals, Value.category]; done) | rfl
def QAi (Z : State) (a1 : Addr) (cs : Int32) (h0 : Heap) (n0 : Nat) (v : Option Value) (h : Heap) (L : List Loc) : Prop := v = some (.int 1) ∧ Fr n0 L ∧ h = h0
set_option maxRecDepth 65536 in
set_option maxHeartbeats 40000000 in
theorem rmAi (l : Launch) (Z : State) (a0 : Array Value) (hw : ∀ d ∈ tables_1, d.before a0 Z = true) (ws : List Jvm.Cond) (a1 : Addr) (cs : Int32) (h0 : Heap) (n0 : Nat) (Z0 : n0 ≤ h0.size) (O0 : Old Z n0 h0) (S_CS : Sta Z Z.heap "java/lang/String" "COMPACT_STRINGS" "Z" (.int cs)) (hcs : ¬ cs = 0) (FC : Fld Z h0 a1 "java/lang/AbstractStringBuilder" "coder" "B" (.int (0 : Int32))) :
    MetFree l mN_12 (head1 (Jvm.Cond.code mN_12 jdk_68_method_68_code 1 (some .boolean) :: ws) rO_0) (fun a U => a = #[(.ref a1)] ∧ Z.Warmed39 U.vm ∧ U.heap = h0) (fun _ _ _ _ _ => True) (fun _ U o U' => ∃ v L, o = .returned v ∧ QAi Z a1 cs h0 n0 v U'.heap L ∧ FrameEnd U o U' L rO_0.cells rO_0.slots) := by
  refine MetFree.of_bodySF (plainFor_of_name pn_0) hisR ?_
  intro p e s m args below meth c s₁ Bd hml0 hP hK
  obtain ⟨rfl, hZ, hh⟩ := hP
  have hx := Bd.exec
  have hby := Bd.bytes
  have hml : c.maxLocals = 1 := hml0
  have hown : s.vm.findClass "java/lang/AbstractStringBuilder" = some m.cls := findClass_of_methodNamed Bd.named
  have hnm := (name_of_methodNamed Bd.named Bd.method).1
  have X0 : Stand p l e rO_0 s m #[(.ref a1)] below meth c s₁ [] 0 0 := Stand.of_body Bd
  have e0 : s₁.heap = h0 := by rw [← hh, Bd.state]; rfl
  have N0 := Fr.nil n0
  have K0 := Keep.refl h0 []
  have go0 : Goes p e below s₁ (entryFrame m #[(.ref a1)] 1) s₁ (mkF m 0 #[vR a1] []) := fun t k => castTop (ef_rmAi m a1) k
  obtain ⟨T1, X1, e1, st1⟩ := getS2 X0 hx hZ hown (host := "") (Or.inl (own_w hw 22 rfl)) Via.refl e0 (S_CS.ext O0.2) (g := (mkF m 0 #[vR a1] [])) rfl (hb hby d21_0)
  obtain ⟨T2, X2, e2, st2⟩ := getF X1 hx hZ hown (host := "") (Or.inl (own_w hw 27 rfl)) Via.refl e1 FC (g := (mkF m 7 #[vR a1] [(.ref a1)])) rfl rfl (hb hby d21_7)
  have go3 : Goes p e below s₁ (entryFrame m #[(.ref a1)] 1) T2 (mkF m 18 #[vR a1] [(.int (1 : Int32))]) := fun t k => by
    refine go0 t ?_
    refine st1 t ?_
    refine XS.ifNo X1.here hx rfl (hb hby d21_3) rfl (Jvm.Free.XT.i0_eq_f hcs) ?_
    refine XS.aloadN X1.here hx rfl (hb hby d21_6) rfl rfl ?_
    refine st2 t ?_
    refine XS.ifNo X2.here hx rfl (hb hby d21_10) rfl (Jvm.Free.XT.i0_ne_f (by decide)) ?_
    refine XS.iconst X2.here hx rfl (hb hby d21_13) ?_
    show Steps p.tables e below (T2.setTop (mkF m 14 #[vR a1] [(.int (1 : Int32))])) _
    refine XS.goto X2.here hx rfl (pc0 := 14) (pc' := 18) rfl (hb hby d21_14) (by decide) (by decide) ?_
    exact k
  obtain ⟨fs, hr, hrun, hended, hW, hsame⟩ := X2.leave (v := some (.int (1 : Int32))) (fun h => by rw [Bd.returns] at h; cases h)
  refine ⟨_, _, go3 _ ?_, hrun, hended, _, _, rfl, ?_, ⟨_, rfl⟩, hW, hsame.mono (by decide) (by decide)⟩
  · exact retN X2 hx (t := .boolean) Bd.returns (by simp) (hb hby d21_18) hr
  · show QAi Z _ _ _ _ _ T2.heap _
    rw [e2]
    exact ⟨rfl, N0, rfl⟩
theorem d33_0 : dc33 0 (.iload_n 0) 1 := by decide +kernel
theorem d33_1 : dc33 1 (.sipush 255) 3 := by decide +kernel
theorem d33_4 : dc33 4 (.if_icmp .gt 7) 3 := by decide +kernel
theorem d33_7 : dc33 7 (.iconst 1) 1 := by decide +kernel
theorem d33_8 : dc33 8 (.goto 4) 3 := by decide +kernel
theorem d33_12 : dc33 12 (.ireturn) 1 := by decide +kernel
theorem pn_1 : plainName "java/lang/StringLatin1" = true := by first | (simp [plainName, overriddenIn]; done) | decide +kernel
theorem ef_rmCa (m : MethodId) (cc : Int32) : entryFrame m #[(.int cc)] 1 = mkF m 0 #[.val (.int cc)] [] := by first | (simp [entryFrame, mkF, argsToLocals, Value.category]; done) | rfl
def QCa (Z : State) (cc : Int32) (h0 : Heap) (n0 : Nat) (v : Option Value) (h : Heap) (L : List Loc) : Prop := v = some (.int 1) ∧ Fr n0 L ∧ h = h0
set_option maxRecDepth 65536 in
set_option maxHeartbeats 40000000 in
theorem rmCa (l : Launch) (Z : State) (a0 : Array Value) (hw : ∀ d ∈ tables_1, d.before a0 Z = true) (ws : List Jvm.Cond) (cc : Int32) (h0 : Heap) (n0 : Nat) (Z0 : n0 ≤ h0.size) (hc : ¬ (255 : Int32) < cc) :
    MetFree l (⟨"java/lang/StringLatin1", "canEncode", "(C)Z"⟩ : MethodName) (head1 (Jvm.Cond.code (⟨"java/lang/StringLatin1", "canEncode", "(C)Z"⟩ : MethodName) jdk_43_method_3_code 1 (some .boolean) :: ws) rO_0) (fun a U => a = #[(.int cc)] ∧ Z.Warmed39 U.vm ∧ U.heap = h0) (fun _ _ _ _ _ => True) (fun _ U o U' => ∃ v L, o = .returned v ∧ QCa Z cc h0 n0 v U'.heap L ∧ FrameEnd U o U' L rO_0.cells rO_0.slots) := by
  refine MetFree.of_bodySF (plainFor_of_name pn_1) hisR ?_
  intro p e s m args below meth c s₁ Bd hml0 hP hK
  obtain ⟨rfl, hZ, hh⟩ := hP
  have hx := Bd.exec
  have hby := Bd.bytes
  have hml : c.maxLocals = 1 := hml0
  have hown : s.vm.findClass "java/lang/StringLatin1" = some m.cls := findClass_of_methodNamed Bd.named
  have hnm := (name_of_methodNamed Bd.named Bd.method).1
  have X0 : Stand p l e rO_0 s m #[(.int cc)] below meth c s₁ [] 0 0 := Stand.of_body Bd
  have e0 : s₁.heap = h0 := by rw [← hh, Bd.state]; rfl
  have N0 := Fr.nil n0
  have K0 := Keep.refl h0 []
  have go0 : Goes p e below s₁ (entryFrame m #[(.int cc)] 1) s₁ (mkF m 0 #[vI cc] []) := fun t k => castTop (ef_rmCa m cc) k
  have go1 : Goes p e below s₁ (entryFrame m #[(.int cc)] 1) s₁ (mkF m 12 #[vI cc] [(.int (1 : Int32))]) := fun t k => by
    refine go0 t ?_
    refine XS.iloadN X0.here hx rfl (hb hby d33_0) rfl ?_
    refine XS.sipush X0.here hx rfl (hb hby d33_1) ?_
    refine XS.icmpNo X0.here hx rfl (hb hby d33_4) rfl (Jvm.Free.XT.ii_gt_f hc) ?_
    refine XS.iconst X0.here hx rfl (hb hby d33_7) ?_
    refine XS.goto X0.here hx rfl (pc0 := 8) (pc' := 12) rfl (hb hby d33_8) (by decide) (by decide) ?_
    exact k
  obtain ⟨fs, hr, hrun, hended, hW, hsame⟩ := X0.leave (v := some (.int (1 : Int32))) (fun h => by rw [Bd.returns] at h; cases h)
  refine ⟨_, _, go1 _ ?_, hrun, hended, _, _, rfl, ?_, ⟨_, rfl⟩, hW, hsame.mono (by decide) (by decide)⟩
  · exact retN X0 hx (t := .boolean) Bd.returns (by simp) (hb hby d33_12) hr
  · show QCa Z _ _ _ _ s₁.heap _
    rw [e0]
    exact ⟨rfl, N0, rfl⟩
theorem pd_0 : parseMethodDescriptor "(I)V" = some ⟨[.int], none⟩ := by decide +kernel
theorem pd_1 : parseMethodDescriptor "()Z" = some ⟨[], some .boolean⟩ := by decide +kernel
theorem pd_2 : parseMethodDescriptor "(C)Z" = some ⟨[.char], some .boolean⟩ := by decide +kernel
theorem d32_0 : dc32 0 (.aload_n 0) 1 := by decide +kernel
theorem d32_1 : dc32 1 (.aload_n 0) 1 := by decide +kernel
theorem d32_2 : dc32 2 (.getfield 79) 3 := by decide +kernel
theorem d32_5 : dc32 5 (.iconst 1) 1 := by decide +kernel
theorem d32_6 : dc32 6 (.iadd) 1 := by decide +kernel
theorem d32_7 : dc32 7 (.invokevirtual 100) 3 := by decide +kernel
theorem d32_10 : dc32 10 (.aload_n 0) 1 := by decide +kernel
theorem d32_11 : dc32 11 (.invokevirtual 83) 3 := by decide +kernel
theorem d32_14 : dc32 14 (.ifCond .eq 31) 3 := by decide +kernel
theorem d32_17 : dc32 17 (.iload_n 1) 1 := by decide +kernel
theorem d32_18 : dc32 18 (.invokestatic 191) 3 := by decide +kernel
theorem d32_21 : dc32 21 (.ifCond .eq 24) 3 := by decide +kernel
theorem d32_24 : dc32 24 (.aload_n 0) 1 := by decide +kernel
theorem d32_25 : dc32 25 (.getfield 15) 3 := by decide +kernel
theorem d32_28 : dc32 28 (.aload_n 0) 1 := by decide +kernel
theorem d32_29 : dc32 29 (.dup) 1 := by decide +kernel
theorem d32_30 : dc32 30 (.getfield 79) 3 := by decide +kernel
theorem d32_33 : dc32 33 (.dup_x1) 1 := by decide +kernel
theorem d32_34 : dc32 34 (.iconst 1) 1 := by decide +kernel
theorem d32_35 : dc32 35 (.iadd) 1 := by decide +kernel
theorem d32_36 : dc32 36 (.putfield 79) 3 := by decide +kernel
theorem d32_39 : dc32 39 (.iload_n 1) 1 := by decide +kernel
theorem d32_40 : dc32 40 (.i2b) 1 := by decide +kernel
theorem d32_41 : dc32 41 (.bastore) 1 := by decide +kernel
theorem d32_42 : dc32 42 (.goto 33) 3 := by decide +kernel
theorem d32_75 : dc32 75 (.aload_n 0) 1 := by decide +kernel
theorem d32_76 : dc32 76 (.areturn) 1 := by decide +kernel
theorem ef_rmAc (m : MethodId) (a1 : Addr) (cc : Int32) : entryFrame m #[(.ref a1), (.int cc)] 2 = mkF m 0 #[.val (.ref a1), .val (.int cc)] [] := by first | (simp [entryFrame, mkF, argsToLocals, Value.category]; done) | rfl
def QAc (Z : State) (a1 : Addr) (cc : Int32) (v1 : Addr) (kA : ClassId) (n mb : Int32) (xs : List Int32) (cs : Int32) (h0 : Heap) (n0 : Nat) (v : Option Value) (h : Heap) (L : List Loc) : Prop := v = some (.ref a1) ∧ Fr n0 L ∧ Keep h0 h [a1, v1] ∧ Exa Z h a1 "java/lang/StringBuilder" ∧ Fld Z h a1 "java/lang/AbstractStringBuilder" "value" "[B" (.ref v1) ∧ Fld Z h a1 "java/lang/AbstractStringBuilder" "coder" "B" (.int (0 : Int32)) ∧ Fld Z h a1 "java/lang/AbstractStringBuilder" "count" "I" (.int (n + (1 : Int32))) ∧ Fld Z h a1 "java/lang/AbstractStringBuilder" "maybeLatin1" "Z" (.int mb) ∧ Arv Z h v1 kA .byte 16 (own_vs (xs ++ [cc])) (.int (0 : Int32))
set_option maxRecDepth 65536 in
set_option maxHeartbeats 40000000 in
theorem rmAc (l : Launch) (Z : State) (a0 : Array Value) (hw : ∀ d ∈ tables_1, d.before a0 Z = true) (ws : List Jvm.Cond) (a1 : Addr) (cc : Int32) (v1 : Addr) (kA : ClassId) (n mb : Int32) (xs : List Int32) (cs : Int32) (h0 : Heap) (n0 : Nat) (Z0 : n0 ≤ h0.size) (O0 : Old Z n0 h0) (S_CS : Sta Z Z.heap "java/lang/String" "COMPACT_STRINGS" "Z" (.int cs)) (hcs : ¬ cs = 0) (EB : Exa Z h0 a1 "java/lang/StringBuilder") (FV : Fld Z h0 a1 "java/lang/AbstractStringBuilder" "value" "[B" (.ref v1)) (FC : Fld Z h0 a1 "java/lang/AbstractStringBuilder" "coder" "B" (.int (0 : Int32))) (FN : Fld Z h0 a1 "java/lang/AbstractStringBuilder" "count" "I" (.int n)) (FM : Fld Z h0 a1 "java/lang/AbstractStringBuilder" "maybeLatin1" "Z" (.int mb)) (VA : Arv Z h0 v1 kA .byte 16 (own_vs xs) (.int (0 : Int32))) (hne : a1 ≠ v1) (gA : n0 ≤ a1) (gV : n0 ≤ v1) (hln : own_ln xs n) (hc : ¬ (255 : Int32) < cc) :
    MetFree l mN_16 (head1 (Jvm.Cond.code mN_16 jdk_68_method_31_code 2 (some (.object "java/lang/AbstractStringBuilder")) :: ws) rO_3) (fun a U => a = #[(.ref a1), (.int cc)] ∧ Z.Warmed39 U.vm ∧ U.heap = h0) (fun _ _ _ _ _ => True) (fun _ U o U' => ∃ v L, o = .returned v ∧ QAc Z a1 cc v1 kA n mb xs cs h0 n0 v U'.heap L ∧ FrameEnd U o U' L rO_3.cells rO_3.slots) := by
  refine MetFree.of_bodySF (plainFor_of_name pn_0) hisR ?_
  intro p e s m args below meth c s₁ Bd hml0 hP hK
  obtain ⟨rfl, hZ, hh⟩ := hP
  have hx := Bd.exec
  have hby := Bd.bytes
  have hml : c.maxLocals = 2 := hml0
  have hown : s.vm.findClass "java/lang/AbstractStringBuilder" = some m.cls := findClass_of_methodNamed Bd.named
  have hnm := (name_of_methodNamed Bd.named Bd.method).1
  have X0 : Stand p l e rO_3 s m #[(.ref a1), (.int cc)] below meth c s₁ [] 0 0 := Stand.of_body Bd
  have e0 : s₁.heap = h0 := by rw [← hh, Bd.state]; rfl
  have N0 := Fr.nil n0
  have K0 := Keep.refl h0 [a1, v1]
  have go0 : Goes p e below s₁ (entryFrame m #[(.ref a1), (.int cc)] 2) s₁ (mkF m 0 #[vR a1, vI cc] []) := fun t k => castTop (ef_rmAc m a1 cc) k
  obtain ⟨T1, X1, e1, st1⟩ := getF X0 hx hZ hown (host := "") (Or.inl (own_w hw 76 rfl)) Via.refl e0 FN (g := (mkF m 2 #[vR a1, vI cc] [(.ref a1), (.ref a1)])) rfl rfl (hb hby d32_2)
  obtain ⟨cq2, q2a, q2b⟩ := EB.cell
  obtain ⟨_, _, ⟨T2, L2, k2, n2⟩, -, X2, ⟨Lc2, hQ2, l2, y2, z2⟩, st2⟩ := X1.privateBack hx (y := mN_5) hown (mvT hZ (own_w hw 91 rfl)) (mvT hZ (own_w hw 92 rfl)) (own_selp2 (y := mN_5) (y' := mN_5) rfl (by decide) (mvT hZ (own_w hw 94 rfl)) (mvP hZ (own_w hw 93 rfl)) (mvT hZ (own_w hw 92 rfl))) (Cond.privateMethod_at (mvP hZ (own_w hw 93 rfl) (args := #[]))) (mvT hZ (own_w hw 95 rfl)) (by decide) (backOf (W := 0) (rmEc l Z a0 hw [] a1 (n + (1 : Int32)) v1 kA (own_vs xs) h0 n0 Z0 FV FC VA hln.cap) hZ (own_w hw 95 rfl) (own_w hw 19 rfl) (by decide) (by decide)) (g := (mkF m 7 #[vR a1, vI cc] [(.int (n + (1 : Int32))), (.ref a1)])) rfl (by rw [hml]; rfl) (Steps.refl _) (a := a1) (by rw [e1]; exact q2a) q2b (argsL := [(.int (n + (1 : Int32)))]) (rest := []) (lenOf pd_0 rfl) rfl (by show 2 * 0 + _ ≤ _; exact Nat.le_of_eq rfl) (hb hby d32_7) (fun _ _ => ⟨rfl, e1, (by decide : 0 + 0 ≤ rO_3.cells), (by decide : 0 + 0 ≤ rO_3.slots)⟩)
  dsimp only [Pt.U, Pt.locs, Pt.cells, Pt.slots] at X2 l2 y2 z2 st2 hQ2
  subst l2 y2 z2
  obtain ⟨rfl, N2q, e2⟩ := hQ2
  have N2 := Fr.app N0 N2q
  obtain ⟨cq3, kq3, q3a, q3b, q3c⟩ := isOf hZ e2 EB
  obtain ⟨_, _, ⟨T3, L3, k3, n3⟩, -, X3, ⟨Lc3, hQ3, l3, y3, z3⟩, st3⟩ := X2.virtualBack hx (y := mN_12) (z := mN_12) hown (mvT hZ (own_w hw 210 rfl)) (mvT hZ (own_w hw 146 rfl)) (notFace_of_selects (args := #[]) (mvT hZ (own_w hw 148 rfl))) (mvT hZ (own_w hw 148 rfl)) (mvT hZ (own_w hw 147 rfl)) (by decide) (backOf (W := 0) (rmAi l Z a0 hw [] a1 cs h0 n0 Z0 O0 S_CS hcs FC) hZ (own_w hw 149 rfl) (own_w hw 19 rfl) (by decide) (by decide)) q3a q3c (g := (mkF m 11 #[vR a1, vI cc] [(.ref a1)])) rfl (by rw [hml]; rfl) (Steps.refl _) (argsL := []) (rest := []) (lenOf pd_1 rfl) rfl (by show 2 * 0 + _ ≤ _; exact Nat.le_of_eq rfl) (hb hby d32_11) (fun _ _ => ⟨rfl, e2, (by decide : 0 + 0 ≤ rO_3.cells), (by decide : 0 + 0 ≤ rO_3.slots)⟩)
  dsimp only [Pt.U, Pt.locs, Pt.cells, Pt.slots] at X3 l3 y3 z3 st3 hQ3
  subst l3 y3 z3
  obtain ⟨rfl, N3q, e3⟩ := hQ3
  have N3 := Fr.app N2 N3q
  obtain ⟨_, _, ⟨T4, L4, k4, n4⟩, -, X4, ⟨Lc4, hQ4, l4, y4, z4⟩, st4⟩ := Jvm.LawKit.callS X3 hx (y := (⟨"java/lang/StringLatin1", "canEncode", "(C)Z"⟩ : MethodName)) hown (mvT hZ (own_w hw 211 rfl)) (mvT hZ (own_w hw 212 rfl)) (mvT hZ (own_w hw 213 rfl)) (mvT hZ (own_w hw 214 rfl)) (by decide) (backOf (W := 0) (rmCa l Z a0 hw [] cc h0 n0 Z0 hc) hZ (own_w hw 214 rfl) (own_w hw 213 rfl) (by decide) (by decide)) (g := (mkF m 18 #[vR a1, vI cc] [(.int cc)])) rfl (by rw [hml]; rfl) (argsL := [(.int cc)]) (rest := []) (lenOf pd_2 rfl) rfl (by show 2 * 0 + _ ≤ _; exact Nat.le_of_eq rfl) (hb hby d32_18) (fun _ _ => ⟨rfl, e3, (by decide : 0 + 0 ≤ rO_3.cells), (by decide : 0 + 0 ≤ rO_3.slots)⟩)
  dsimp only [Pt.U, Pt.locs, Pt.cells, Pt.slots] at X4 l4 y4 z4 st4 hQ4
  subst l4 y4 z4
  obtain ⟨rfl, N4q, e4⟩ := hQ4
  have N4 := Fr.app N3 N4q
  obtain ⟨T5, X5, e5, st5⟩ := getF X4 hx hZ hown (host := "") (Or.inl (own_w hw 25 rfl)) Via.refl e4 FV (g := (mkF m 25 #[vR a1, vI cc] [(.ref a1)])) rfl rfl (hb hby d32_25)
  obtain ⟨T6, X6, e6, st6⟩ := getF X5 hx hZ hown (host := "") (Or.inl (own_w hw 76 rfl)) Via.refl e5 FN (g := (mkF m 30 #[vR a1, vI cc] [(.ref a1), (.ref a1), (.ref v1)])) rfl rfl (hb hby d32_30)
  obtain ⟨T7, h7, X7, e7, W7, st7⟩ := putF X6 hx hZ hown (host := "") (Or.inl (own_w hw 76 rfl)) Via.refl e6 FN EB (Or.inl (own_w hw 77 rfl)) (own_w hw 10 rfl) (ty := .int) (by decide) rfl rfl (g := (mkF m 36 #[vR a1, vI cc] [(.int (n + (1 : Int32))), (.ref a1), (.int n), (.ref v1)])) rfl rfl (hb hby d32_36)
  have f8 := FN.same W7
  have f9 := EB.wr W7
  have f10 := FV.other W7 (Or.inr (slot_ne (Or.inl (own_w hw 26 rfl)) (Or.inl (own_w hw 77 rfl)) (by decide) (t := (.array .byte)) (t' := .int) (by decide) (by decide)))
  have f11 := FC.other W7 (Or.inr (slot_ne (Or.inl (own_w hw 28 rfl)) (Or.inl (own_w hw 77 rfl)) (by decide) (t := .byte) (t' := .int) (by decide) (by decide)))
  have f12 := FM.other W7 (Or.inr (slot_ne (Or.inl (own_w hw 251 rfl)) (Or.inl (own_w hw 77 rfl)) (by decide) (t := .boolean) (t' := .int) (by decide) (by decide)))
  have f13 := VA.other W7 (Ne.symm hne)
  have O14 := O0.wr W7 gA
  have Z15 := Nat.le_trans Z0 (Nat.le_of_eq W7.size.symm)
  have K16 := K0.wr W7 (Or.inl (List.mem_of_getElem? (i := 0) rfl))
  have N17 := Fr.snoc X7 N4 gA
  have go18 : Goes p e below s₁ (entryFrame m #[(.ref a1), (.int cc)] 2) T7 (mkF m 41 #[vR a1, vI cc] [(.int (cc.toInt8.toInt32)), (.int n), (.ref v1)]) := fun t k => by
    refine go0 t ?_
    refine XS.aloadN X0.here hx rfl (hb hby d32_0) rfl rfl ?_
    refine XS.aloadN X0.here hx rfl (hb hby d32_1) rfl rfl ?_
    refine st1 t ?_
    refine XS.iconst X1.here hx rfl (hb hby d32_5) ?_
    refine XS.iadd X1.here hx rfl (hb hby d32_6) rfl ?_
    refine st2.trans ?_
    show Steps p.tables e below (T2.setTop (mkF m 10 #[vR a1, vI cc] [])) _
    refine XS.aloadN X2.here hx rfl (hb hby d32_10) rfl rfl ?_
    refine st3.trans ?_
    refine XS.ifNo X3.here hx rfl (hb hby d32_14) rfl (Jvm.Free.XT.i0_eq_f (by decide)) ?_
    refine XS.iloadN X3.here hx rfl (hb hby d32_17) rfl ?_
    refine st4 t ?_
    refine XS.ifNo X4.here hx rfl (hb hby d32_21) rfl (Jvm.Free.XT.i0_eq_f (by decide)) ?_
    show Steps p.tables e below (T4.setTop (mkF m 24 #[vR a1, vI cc] [])) _
    refine XS.aloadN X4.here hx rfl (hb hby d32_24) rfl rfl ?_
    refine st5 t ?_
    refine XS.aloadN X5.here hx rfl (hb hby d32_28) rfl rfl ?_
    refine XS.dup X5.here hx rfl (hb hby d32_29) rfl rfl ?_
    refine st6 t ?_
    refine XS.dupX1 X6.here hx rfl (hb hby d32_33) rfl rfl rfl ?_
    show Steps p.tables e below (T6.setTop (mkF m 34 #[vR a1, vI cc] [(.int n), (.ref a1), (.int n), (.ref v1)])) _
    refine XS.iconst X6.here hx rfl (hb hby d32_34) ?_
    refine XS.iadd X6.here hx rfl (hb hby d32_35) rfl ?_
    refine st7 t ?_
    refine XS.iloadN X7.here hx rfl (hb hby d32_39) rfl ?_
    refine XS.i2b X7.here hx rfl (hb hby d32_40) rfl ?_
    exact k
  obtain ⟨cl19, Ar19, kq19, Sz19, Nn19, Hs19, Gf19⟩ := Arv.pad (vs' := (own_vs xs) ++ [(.int (0 : Int32))]) (f13) (own_pad _ _)
  have hin19 : ¬ (n < 0 ∨ cl19.slots.size ≤ (n).toNatClampNeg) := inb_of Sz19 ⟨hln.nn, hln.lt⟩
  obtain ⟨T20, h20, X20, e20, W20, st20⟩ := stB X7 hx hZ e7 Ar19 (j := n) hin19 (g := (mkF m 41 #[vR a1, vI cc] [(.int (cc.toInt8.toInt32)), (.int n), (.ref v1)])) rfl rfl (hb hby d32_41)
  have V21 : Arv Z h20 v1 kA .byte 16 (own_vs (xs ++ [cc])) (.int (0 : Int32)) := by rw [own_vs_app, ← own_setlast (own_vs xs) (.int (0 : Int32)) (own_bv cc)]; exact Arv.set Ar19 kq19 Sz19 Nn19 Hs19 Gf19 (fits_nar_byte _) W20 _ (hln.nat.trans (own_vs_len xs).symm) (by simp)
  have f22 := f9.wr W20
  have f23 := f10.other W20 (Or.inl hne)
  have f24 := f11.other W20 (Or.inl hne)
  have f25 := f12.other W20 (Or.inl hne)
  have f26 := f8.other W20 (Or.inl hne)
  have O27 := O14.wr W20 gV
  have Z28 := Nat.le_trans Z15 (Nat.le_of_eq W20.size.symm)
  have K29 := K16.wr W20 (Or.inl (List.mem_of_getElem? (i := 1) rfl))
  have N30 := Fr.snoc X20 N17 gV
  have go31 : Goes p e below s₁ (entryFrame m #[(.ref a1), (.int cc)] 2) T20 (mkF m 76 #[vR a1, vI cc] [(.ref a1)]) := fun t k => by
    refine go18 t ?_
    refine st20 t ?_
    refine XS.goto X20.here hx rfl (pc0 := 42) (pc' := 75) rfl (hb hby d32_42) (by decide) (by decide) ?_
    refine XS.aloadN X20.here hx rfl (hb hby d32_75) rfl rfl ?_
    exact k
  obtain ⟨fs, hr, hrun, hended, hW, hsame⟩ := X20.leave (v := some (.ref a1)) (fun h => by rw [Bd.returns] at h; cases h)
  refine ⟨_, _, go31 _ ?_, hrun, hended, _, _, rfl, ?_, ⟨_, rfl⟩, hW, hsame.mono (by decide) (by decide)⟩
  · jvm_step X20.here [X20.here.top, hx, (hb hby d32_76), X20.method', Bd.returns, Value.isRef, FieldType.isReference]
    first | (intro acts; rw [hr _ acts rfl rfl rfl]) | rw [hr _ _ rfl rfl rfl]
    exact Steps.refl _
  · show QAc Z _ _ _ _ _ _ _ _ _ _ _ T20.heap _
    rw [e20]
    exact ⟨rfl, N30, K29, f22, f23, f24, f26, f25, V21⟩
theorem pd_3 : parseMethodDescriptor "(C)Ljava/lang/AbstractStringBuilder;" = some ⟨[.char], some (.object "java/lang/AbstractStringBuilder")⟩ := by decide +kernel
theorem d31_0 : dc31 0 (.aload_n 0) 1 := by decide +kernel
theorem d31_1 : dc31 1 (.iload_n 1) 1 := by decide +kernel
theorem d31_2 : dc31 2 (.invokespecial 50) 3 := by decide +kernel
theorem d31_5 : dc31 5 (.pop) 1 := by decide +kernel
theorem d31_6 : dc31 6 (.aload_n 0) 1 := by decide +kernel
theorem d31_7 : dc31 7 (.areturn) 1 := by decide +kernel
theorem pn_2 : plainName "java/lang/StringBuilder" = true := by first | (simp [plainName, overriddenIn]; done) | decide +kernel
theorem ef_rmSc (m : MethodId) (a1 : Addr) (cc : Int32) : entryFrame m #[(.ref a1), (.int cc)] 2 = mkF m 0 #[.val (.ref a1), .val (.int cc)] [] := by first | (simp [entryFrame, mkF, argsToLocals, Value.category]; done) | rfl
def QSc (Z : State) (a1 : Addr) (cc : Int32) (v1 : Addr) (kA : ClassId) (n mb : Int32) (xs : List Int32) (cs : Int32) (h0 : Heap) (n0 : Nat) (v : Option Value) (h : Heap) (L : List Loc) : Prop := v = some (.ref a1) ∧ Fr n0 L ∧ Keep h0 h [a1, v1] ∧ Exa Z h a1 "java/lang/StringBuilder" ∧ Fld Z h a1 "java/lang/AbstractStringBuilder" "value" "[B" (.ref v1) ∧ Fld Z h a1 "java/lang/AbstractStringBuilder" "coder" "B" (.int (0 : Int32)) ∧ Fld Z h a1 "java/lang/AbstractStringBuilder" "count" "I" (.int (n + (1 : Int32))) ∧ Fld Z h a1 "java/lang/AbstractStringBuilder" "maybeLatin1" "Z" (.int mb) ∧ Arv Z h v1 kA .byte 16 (own_vs (xs ++ [cc])) (.int (0 : Int32))
set_option maxRecDepth 65536 in
set_option maxHeartbeats 40000000 in
theorem rmSc (l : Launch) (Z : State) (a0 : Array Value) (hw : ∀ d ∈ tables_1, d.before a0 Z = true) (ws : List Jvm.Cond) (a1 : Addr) (cc : Int32) (v1 : Addr) (kA : ClassId) (n mb : Int32) (xs : List Int32) (cs : Int32) (h0 : Heap) (n0 : Nat) (Z0 : n0 ≤ h0.size) (O0 : Old Z n0 h0) (S_CS : Sta Z Z.heap "java/lang/String" "COMPACT_STRINGS" "Z" (.int cs)) (hcs : ¬ cs = 0) (EB : Exa Z h0 a1 "java/lang/StringBuilder") (FV : Fld Z h0 a1 "java/lang/AbstractStringBuilder" "value" "[B" (.ref v1)) (FC : Fld Z h0 a1 "java/lang/AbstractStringBuilder" "coder" "B" (.int (0 : Int32))) (FN : Fld Z h0 a1 "java/lang/AbstractStringBuilder" "count" "I" (.int n)) (FM : Fld Z h0 a1 "java/lang/AbstractStringBuilder" "maybeLatin1" "Z" (.int mb)) (VA : Arv Z h0 v1 kA .byte 16 (own_vs xs) (.int (0 : Int32))) (hne : a1 ≠ v1) (gA : n0 ≤ a1) (gV : n0 ≤ v1) (hln : own_ln xs n) (hc : ¬ (255 : Int32) < cc) :
    MetFree l mN_1 (head1 (Jvm.Cond.code mN_1 jdk_67_method_14_code 2 (some (.object "java/lang/StringBuilder")) :: ws) rO_8) (fun a U => a = #[(.ref a1), (.int cc)] ∧ Z.Warmed39 U.vm ∧ U.heap = h0) (fun _ _ _ _ _ => True) (fun _ U o U' => ∃ v L, o = .returned v ∧ QSc Z a1 cc v1 kA n mb xs cs h0 n0 v U'.heap L ∧ FrameEnd U o U' L rO_8.cells rO_8.slots) := by
  refine MetFree.of_bodySF (plainFor_of_name pn_2) hisR ?_
  intro p e s m args below meth c s₁ Bd hml0 hP hK
  obtain ⟨rfl, hZ, hh⟩ := hP
  have hx := Bd.exec
  have hby := Bd.bytes
  have hml : c.maxLocals = 2 := hml0
  have hown : s.vm.findClass "java/lang/StringBuilder" = some m.cls := findClass_of_methodNamed Bd.named
  have hnm := (name_of_methodNamed Bd.named Bd.method).1
  have X0 : Stand p l e rO_8 s m #[(.ref a1), (.int cc)] below meth c s₁ [] 0 0 := Stand.of_body Bd
  have e0 : s₁.heap = h0 := by rw [← hh, Bd.state]; rfl
  have N0 := Fr.nil n0
  have K0 := Keep.refl h0 [a1, v1]
  have go0 : Goes p e below s₁ (entryFrame m #[(.ref a1), (.int cc)] 2) s₁ (mkF m 0 #[vR a1, vI cc] []) := fun t k => castTop (ef_rmSc m a1 cc) k
  obtain ⟨_, _, ⟨T1, L1, k1, n1⟩, -, X1, ⟨Lc1, hQ1, l1, y1, z1⟩, st1⟩ := superBack X0 hx hZ (y := mN_16) hown (own_w hw 206 rfl) (own_sm (y := mN_16) (y' := mN_5) rfl (by decide) (own_w hw 207 rfl) (own_w hw 94 rfl)) (own_w hw 207 rfl) (own_w hw 73 rfl) (by decide) (backOf (W := 0) (rmAc l Z a0 hw [] a1 cc v1 kA n mb xs cs h0 n0 Z0 O0 S_CS hcs EB FV FC FN FM VA hne gA gV hln hc) hZ (own_w hw 209 rfl) (own_w hw 19 rfl) (by decide) (by decide)) e0 (Ins.self EB) (g := (mkF m 2 #[vR a1, vI cc] [(.int cc), (.ref a1)])) rfl (by rw [hml]; rfl) (own_w hw 209 rfl) (argsL := [(.int cc)]) (rest := []) (lenOf pd_3 rfl) rfl (by show 2 * 0 + _ ≤ _; exact Nat.le_of_eq rfl) (hb hby d31_2) (fun _ _ => ⟨rfl, e0, (by decide : 0 + 0 ≤ rO_8.cells), (by decide : 0 + 0 ≤ rO_8.slots)⟩)
  dsimp only [Pt.U, Pt.locs, Pt.cells, Pt.slots] at X1 l1 y1 z1 st1 hQ1
  subst l1 y1 z1
  obtain ⟨rfl, N1q, Kq1, E1q1, FVq1, FCq1, FNq1, FMq1, V1q1⟩ := hQ1
  have N1 := Fr.app N0 N1q
  have f2 := EB.keep Kq1
  have O3 := O0.keep Kq1 (allS gA (allS gV all0))
  have Z4 := Nat.le_trans Z0 Kq1.1
  have K5 := K0.trans Kq1 (allS (Or.inl (List.mem_of_getElem? (i := 0) rfl)) (allS (Or.inl (List.mem_of_getElem? (i := 1) rfl)) all0))
  have go6 : Goes p e below s₁ (entryFrame m #[(.ref a1), (.int cc)] 2) T1 (mkF m 7 #[vR a1, vI cc] [(.ref a1)]) := fun t k => by
    refine go0 t ?_
    refine XS.aloadN X0.here hx rfl (hb hby d31_0) rfl rfl ?_
    refine XS.iloadN X0.here hx rfl (hb hby d31_1) rfl ?_
    refine st1.trans ?_
    refine XS.pop X1.here hx rfl (hb hby d31_5) rfl rfl ?_
    refine XS.aloadN X1.here hx rfl (hb hby d31_6) rfl rfl ?_
    exact k
  obtain ⟨fs, hr, hrun, hended, hW, hsame⟩ := X1.leave (v := some (.ref a1)) (fun h => by rw [Bd.returns] at h; cases h)
  refine ⟨_, _, go6 _ ?_, hrun, hended, _, _, rfl, ?_, ⟨_, rfl⟩, hW, hsame.mono (by decide) (by decide)⟩
  · jvm_step X1.here [X1.here.top, hx, (hb hby d31_7), X1.method', Bd.returns, Value.isRef, FieldType.isReference]
    first | (intro acts; rw [hr _ acts rfl rfl rfl]) | rw [hr _ _ rfl rfl rfl]
    exact Steps.refl _
  · show QSc Z _ _ _ _ _ _ _ _ _ _ _ T1.heap _
    exact ⟨rfl, N1, K5, E1q1, FVq1, FCq1, FNq1, FMq1, V1q1⟩
theorem d9_0 : dc9 0 (.aload_n 0) 1 := by decide +kernel
theorem d9_1 : dc9 1 (.getfield 79) 3 := by decide +kernel
theorem d9_4 : dc9 4 (.ireturn) 1 := by decide +kernel
theorem ef_rmAl (m : MethodId) (a1 : Addr) : entryFrame m #[(.ref a1)] 1 = mkF m 0 #[.val (.ref a1)] [] := by first | (simp [entryFrame, mkF, argsToLocals, Value.category]; done) | rfl
def QAl (Z : State) (a1 : Addr) (n : Int32) (h0 : Heap) (n0 : Nat) (v : Option Value) (h : Heap) (L : List Loc) : Prop := v = some (.int n) ∧ Fr n0 L ∧ h = h0
set_option maxRecDepth 65536 in
set_option maxHeartbeats 40000000 in
theorem rmAl (l : Launch) (Z : State) (a0 : Array Value) (hw : ∀ d ∈ tables_1, d.before a0 Z = true) (ws : List Jvm.Cond) (a1 : Addr) (n : Int32) (h0 : Heap) (n0 : Nat) (Z0 : n0 ≤ h0.size) (EB : Exa Z h0 a1 "java/lang/StringBuilder") (FN : Fld Z h0 a1 "java/lang/AbstractStringBuilder" "count" "I" (.int n)) :
    MetFree l mN_13 (head1 (Jvm.Cond.code mN_13 jdk_68_method_6_code 1 (some .int) :: ws) rO_0) (fun a U => a = #[(.ref a1)] ∧ Z.Warmed39 U.vm ∧ U.heap = h0) (fun _ _ _ _ _ => True) (fun _ U o U' => ∃ v L, o = .returned v ∧ QAl Z a1 n h0 n0 v U'.heap L ∧ FrameEnd U o U' L rO_0.cells rO_0.slots) := by
  refine MetFree.of_bodySF (plainFor_of_name pn_0) hisR ?_
  intro p e s m args below meth c s₁ Bd hml0 hP hK
  obtain ⟨rfl, hZ, hh⟩ := hP
  have hx := Bd.exec
  have hby := Bd.bytes
  have hml : c.maxLocals = 1 := hml0
  have hown : s.vm.findClass "java/lang/AbstractStringBuilder" = some m.cls := findClass_of_methodNamed Bd.named
  have hnm := (name_of_methodNamed Bd.named Bd.method).1
  have X0 : Stand p l e rO_0 s m #[(.ref a1)] below meth c s₁ [] 0 0 := Stand.of_body Bd
  have e0 : s₁.heap = h0 := by rw [← hh, Bd.state]; rfl
  have N0 := Fr.nil n0
  have K0 := Keep.refl h0 []
  have go0 : Goes p e below s₁ (entryFrame m #[(.ref a1)] 1) s₁ (mkF m 0 #[vR a1] []) := fun t k => castTop (ef_rmAl m a1) k
  obtain ⟨T1, X1, e1, st1⟩ := getF X0 hx hZ hown (host := "") (Or.inl (own_w hw 76 rfl)) Via.refl e0 FN (g := (mkF m 1 #[vR a1] [(.ref a1)])) rfl rfl (hb hby d9_1)
  have go2 : Goes p e below s₁ (entryFrame m #[(.ref a1)] 1) T1 (mkF m 4 #[vR a1] [(.int n)]) := fun t k => by
    refine go0 t ?_
    refine XS.aloadN X0.here hx rfl (hb hby d9_0) rfl rfl ?_
    refine st1 t ?_
    exact k
  obtain ⟨fs, hr, hrun, hended, hW, hsame⟩ := X1.leave (v := some (.int n)) (fun h => by rw [Bd.returns] at h; cases h)
  refine ⟨_, _, go2 _ ?_, hrun, hended, _, _, rfl, ?_, ⟨_, rfl⟩, hW, hsame.mono (by decide) (by decide)⟩
  · exact retI X1 hx Bd.returns (hb hby d9_4) hr
  · show QAl Z _ _ _ _ _ T1.heap _
    rw [e1]
    exact ⟨rfl, N0, rfl⟩
theorem pd_4 : parseMethodDescriptor "()I" = some ⟨[], some .int⟩ := by decide +kernel
theorem d8_0 : dc8 0 (.aload_n 0) 1 := by decide +kernel
theorem d8_1 : dc8 1 (.invokespecial 343) 3 := by decide +kernel
theorem d8_4 : dc8 4 (.ireturn) 1 := by decide +kernel
theorem ef_rmSl (m : MethodId) (a1 : Addr) : entryFrame m #[(.ref a1)] 1 = mkF m 0 #[.val (.ref a1)] [] := by first | (simp [entryFrame, mkF, argsToLocals, Value.category]; done) | rfl
def QSl (Z : State) (a1 : Addr) (n : Int32) (h0 : Heap) (n0 : Nat) (v : Option Value) (h : Heap) (L : List Loc) : Prop := v = some (.int n) ∧ Fr n0 L ∧ h = h0
set_option maxRecDepth 65536 in
set_option maxHeartbeats 40000000 in
theorem rmSl (l : Launch) (Z : State) (a0 : Array Value) (hw : ∀ d ∈ tables_1, d.before a0 Z = true) (ws : List Jvm.Cond) (a1 : Addr) (n : Int32) (h0 : Heap) (n0 : Nat) (Z0 : n0 ≤ h0.size) (EB : Exa Z h0 a1 "java/lang/StringBuilder") (FN : Fld Z h0 a1 "java/lang/AbstractStringBuilder" "count" "I" (.int n)) :
    MetFree l mN_0 (head1 (Jvm.Cond.code mN_0 jdk_67_method_93_code 1 (some .int) :: ws) rO_1) (fun a U => a = #[(.ref a1)] ∧ Z.Warmed39 U.vm ∧ U.heap = h0) (fun _ _ _ _ _ => True) (fun _ U o U' => ∃ v L, o = .returned v ∧ QSl Z a1 n h0 n0 v U'.heap L ∧ FrameEnd U o U' L rO_1.cells rO_1.slots) := by
  refine MetFree.of_bodySF (plainFor_of_name pn_2) hisR ?_
  intro p e s m args below meth c s₁ Bd hml0 hP hK
  obtain ⟨rfl, hZ, hh⟩ := hP
  have hx := Bd.exec
  have hby := Bd.bytes
  have hml : c.maxLocals = 1 := hml0
  have hown : s.vm.findClass "java/lang/StringBuilder" = some m.cls := findClass_of_methodNamed Bd.named
  have hnm := (name_of_methodNamed Bd.named Bd.method).1
  have X0 : Stand p l e rO_1 s m #[(.ref a1)] below meth c s₁ [] 0 0 := Stand.of_body Bd
  have e0 : s₁.heap = h0 := by rw [← hh, Bd.state]; rfl
  have N0 := Fr.nil n0
  have K0 := Keep.refl h0 []
  have go0 : Goes p e below s₁ (entryFrame m #[(.ref a1)] 1) s₁ (mkF m 0 #[vR a1] []) := fun t k => castTop (ef_rmSl m a1) k
  obtain ⟨_, _, ⟨T1, L1, k1, n1⟩, -, X1, ⟨Lc1, hQ1, l1, y1, z1⟩, st1⟩ := superBack X0 hx hZ (y := mN_13) hown (own_w hw 71 rfl) (own_sm (y := mN_13) (y' := mN_5) rfl (by decide) (own_w hw 72 rfl) (own_w hw 94 rfl)) (own_w hw 72 rfl) (own_w hw 73 rfl) (by decide) (backOf (W := 0) (rmAl l Z a0 hw [] a1 n h0 n0 Z0 EB FN) hZ (own_w hw 75 rfl) (own_w hw 19 rfl) (by decide) (by decide)) e0 (Ins.self EB) (g := (mkF m 1 #[vR a1] [(.ref a1)])) rfl (by rw [hml]; rfl) (own_w hw 75 rfl) (argsL := []) (rest := []) (lenOf pd_4 rfl) rfl (by show 2 * 0 + _ ≤ _; exact Nat.le_of_eq rfl) (hb hby d8_1) (fun _ _ => ⟨rfl, e0, (by decide : 0 + 0 ≤ rO_1.cells), (by decide : 0 + 0 ≤ rO_1.slots)⟩)
  dsimp only [Pt.U, Pt.locs, Pt.cells, Pt.slots] at X1 l1 y1 z1 st1 hQ1
  subst l1 y1 z1
  obtain ⟨rfl, N1q, e1⟩ := hQ1
  have N1 := Fr.app N0 N1q
  have go2 : Goes p e below s₁ (entryFrame m #[(.ref a1)] 1) T1 (mkF m 4 #[vR a1] [(.int n)]) := fun t k => by
    refine go0 t ?_
    refine XS.aloadN X0.here hx rfl (hb hby d8_0) rfl rfl ?_
    refine st1.trans ?_
    exact k
  obtain ⟨fs, hr, hrun, hended, hW, hsame⟩ := X1.leave (v := some (.int n)) (fun h => by rw [Bd.returns] at h; cases h)
  refine ⟨_, _, go2 _ ?_, hrun, hended, _, _, rfl, ?_, ⟨_, rfl⟩, hW, hsame.mono (by decide) (by decide)⟩
  · exact retI X1 hx Bd.returns (hb hby d8_4) hr
  · show QSl Z _ _ _ _ _ T1.heap _
    rw [e1]
    exact ⟨rfl, N1, rfl⟩
theorem d12_0 : dc12 0 (.iload_n 1) 1 := by decide +kernel
theorem d12_1 : dc12 1 (.ifCond .ge 12) 3 := by decide +kernel
theorem d12_13 : dc12 13 (.aload_n 0) 1 := by decide +kernel
theorem d12_14 : dc12 14 (.iload_n 1) 1 := by decide +kernel
theorem d12_15 : dc12 15 (.invokevirtual 100) 3 := by decide +kernel
theorem d12_18 : dc12 18 (.aload_n 0) 1 := by decide +kernel
theorem d12_19 : dc12 19 (.getfield 79) 3 := by decide +kernel
theorem d12_22 : dc12 22 (.iload_n 1) 1 := by decide +kernel
theorem d12_23 : dc12 23 (.if_icmp .ge 40) 3 := by decide +kernel
theorem d12_63 : dc12 63 (.aload_n 0) 1 := by decide +kernel
theorem d12_64 : dc12 64 (.getfield 79) 3 := by decide +kernel
theorem d12_67 : dc12 67 (.iload_n 1) 1 := by decide +kernel
theorem d12_68 : dc12 68 (.if_icmp .le 8) 3 := by decide +kernel
theorem d12_71 : dc12 71 (.aload_n 0) 1 := by decide +kernel
theorem d12_72 : dc12 72 (.iconst 1) 1 := by decide +kernel
theorem d12_73 : dc12 73 (.putfield 73) 3 := by decide +kernel
theorem d12_76 : dc12 76 (.aload_n 0) 1 := by decide +kernel
theorem d12_77 : dc12 77 (.iload_n 1) 1 := by decide +kernel
theorem d12_78 : dc12 78 (.putfield 79) 3 := by decide +kernel
theorem d12_81 : dc12 81 (.return_) 1 := by decide +kernel
theorem ef_rmAs (m : MethodId) (a1 : Addr) : entryFrame m #[(.ref a1), (.int (0 : Int32))] 2 = mkF m 0 #[.val (.ref a1), .val (.int (0 : Int32))] [] := by first | (simp [entryFrame, mkF, argsToLocals, Value.category]; done) | rfl
def QAs (Z : State) (a1 : Addr) (v1 : Addr) (kA : ClassId) (n mb : Int32) (xs : List Int32) (xs0 : List Int32) (h0 : Heap) (n0 : Nat) (v : Option Value) (h : Heap) (L : List Loc) : Prop := v = none ∧ Fr n0 L ∧ Keep h0 h [a1] ∧ ∃ mb' : Int32, Exa Z h a1 "java/lang/StringBuilder" ∧ Fld Z h a1 "java/lang/AbstractStringBuilder" "value" "[B" (.ref v1) ∧ Fld Z h a1 "java/lang/AbstractStringBuilder" "coder" "B" (.int (0 : Int32)) ∧ Fld Z h a1 "java/lang/AbstractStringBuilder" "count" "I" (.int (0 : Int32)) ∧ Fld Z h a1 "java/lang/AbstractStringBuilder" "maybeLatin1" "Z" (.int mb') ∧ Arv Z h v1 kA .byte 16 (own_vs xs) (.int (0 : Int32))
set_option maxRecDepth 65536 in
set_option maxHeartbeats 40000000 in
theorem rmAs (l : Launch) (Z : State) (a0 : Array Value) (hw : ∀ d ∈ tables_1, d.before a0 Z = true) (ws : List Jvm.Cond) (a1 : Addr) (v1 : Addr) (kA : ClassId) (n mb : Int32) (xs : List Int32) (xs0 : List Int32) (h0 : Heap) (n0 : Nat) (Z0 : n0 ≤ h0.size) (EB : Exa Z h0 a1 "java/lang/StringBuilder") (FV : Fld Z h0 a1 "java/lang/AbstractStringBuilder" "value" "[B" (.ref v1)) (FC : Fld Z h0 a1 "java/lang/AbstractStringBuilder" "coder" "B" (.int (0 : Int32))) (FN : Fld Z h0 a1 "java/lang/AbstractStringBuilder" "count" "I" (.int n)) (FM : Fld Z h0 a1 "java/lang/AbstractStringBuilder" "maybeLatin1" "Z" (.int mb)) (VA : Arv Z h0 v1 kA .byte 16 (own_vs xs) (.int (0 : Int32))) (hne : a1 ≠ v1) (gA : n0 ≤ a1) (gV : n0 ≤ v1) (hln : own_ln xs0 n) :
    MetFree l mN_17 (head1 (Jvm.Cond.code mN_17 jdk_68_method_13_code 2 none :: ws) rO_3) (fun a U => a = #[(.ref a1), (.int (0 : Int32))] ∧ Z.Warmed39 U.vm ∧ U.heap = h0) (fun _ _ _ _ _ => True) (fun _ U o U' => ∃ v L, o = .returned v ∧ QAs Z a1 v1 kA n mb xs xs0 h0 n0 v U'.heap L ∧ FrameEnd U o U' L rO_3.cells rO_3.slots) := by
  refine MetFree.of_bodySF (plainFor_of_name pn_0) hisR ?_
  intro p e s m args below meth c s₁ Bd hml0 hP hK
  obtain ⟨rfl, hZ, hh⟩ := hP
  have hx := Bd.exec
  have hby := Bd.bytes
  have hml : c.maxLocals = 2 := hml0
  have hown : s.vm.findClass "java/lang/AbstractStringBuilder" = some m.cls := findClass_of_methodNamed Bd.named
  have hnm := (name_of_methodNamed Bd.named Bd.method).1
  have X0 : Stand p l e rO_3 s m #[(.ref a1), (.int (0 : Int32))] below meth c s₁ [] 0 0 := Stand.of_body Bd
  have e0 : s₁.heap = h0 := by rw [← hh, Bd.state]; rfl
  have N0 := Fr.nil n0
  have K0 := Keep.refl h0 [a1]
  have go0 : Goes p e below s₁ (entryFrame m #[(.ref a1), (.int (0 : Int32))] 2) s₁ (mkF m 0 #[vR a1, vI (0 : Int32)] []) := fun t k => castTop (ef_rmAs m a1) k
  obtain ⟨cq1, q1a, q1b⟩ := EB.cell
  obtain ⟨_, _, ⟨T1, L1, k1, n1⟩, -, X1, ⟨Lc1, hQ1, l1, y1, z1⟩, st1⟩ := X0.privateBack hx (y := mN_5) hown (mvT hZ (own_w hw 91 rfl)) (mvT hZ (own_w hw 92 rfl)) (own_selp2 (y := mN_5) (y' := mN_5) rfl (by decide) (mvT hZ (own_w hw 94 rfl)) (mvP hZ (own_w hw 93 rfl)) (mvT hZ (own_w hw 92 rfl))) (Cond.privateMethod_at (mvP hZ (own_w hw 93 rfl) (args := #[]))) (mvT hZ (own_w hw 95 rfl)) (by decide) (backOf (W := 0) (rmEc l Z a0 hw [] a1 (0 : Int32) v1 kA (own_vs xs) h0 n0 Z0 FV FC VA (by decide)) hZ (own_w hw 95 rfl) (own_w hw 19 rfl) (by decide) (by decide)) (g := (mkF m 15 #[vR a1, vI (0 : Int32)] [(.int (0 : Int32)), (.ref a1)])) rfl (by rw [hml]; rfl) (Steps.refl _) (a := a1) (by rw [e0]; exact q1a) q1b (argsL := [(.int (0 : Int32))]) (rest := []) (lenOf pd_0 rfl) rfl (by show 2 * 0 + _ ≤ _; exact Nat.le_of_eq rfl) (hb hby d12_15) (fun _ _ => ⟨rfl, e0, (by decide : 0 + 0 ≤ rO_3.cells), (by decide : 0 + 0 ≤ rO_3.slots)⟩)
  dsimp only [Pt.U, Pt.locs, Pt.cells, Pt.slots] at X1 l1 y1 z1 st1 hQ1
  subst l1 y1 z1
  obtain ⟨rfl, N1q, e1⟩ := hQ1
  have N1 := Fr.app N0 N1q
  obtain ⟨T2, X2, e2, st2⟩ := getF X1 hx hZ hown (host := "") (Or.inl (own_w hw 76 rfl)) Via.refl e1 FN (g := (mkF m 19 #[vR a1, vI (0 : Int32)] [(.ref a1)])) rfl rfl (hb hby d12_19)
  obtain ⟨T3, X3, e3, st3⟩ := getF X2 hx hZ hown (host := "") (Or.inl (own_w hw 76 rfl)) Via.refl e2 FN (g := (mkF m 64 #[vR a1, vI (0 : Int32)] [(.ref a1)])) rfl rfl (hb hby d12_64)
  have go4 : Goes p e below s₁ (entryFrame m #[(.ref a1), (.int (0 : Int32))] 2) T3 (mkF m 68 #[vR a1, vI (0 : Int32)] [(.int (0 : Int32)), (.int n)]) := fun t k => by
    refine go0 t ?_
    refine XS.iloadN X0.here hx rfl (hb hby d12_0) rfl ?_
    refine XS.ifYes X0.here hx rfl (pc0 := 1) (pc' := 13) rfl (hb hby d12_1) rfl (Jvm.Free.XT.i0_ge_t (by decide)) (by decide) (by decide) ?_
    refine XS.aloadN X0.here hx rfl (hb hby d12_13) rfl rfl ?_
    refine XS.iloadN X0.here hx rfl (hb hby d12_14) rfl ?_
    refine st1.trans ?_
    refine XS.aloadN X1.here hx rfl (hb hby d12_18) rfl rfl ?_
    show Steps p.tables e below (T1.setTop (mkF m 19 #[vR a1, vI (0 : Int32)] [(.ref a1)])) _
    refine st2 t ?_
    refine XS.iloadN X2.here hx rfl (hb hby d12_22) rfl ?_
    refine XS.icmpYes X2.here hx rfl (pc0 := 23) (pc' := 63) rfl (hb hby d12_23) rfl (Jvm.Free.XT.ii_ge_t hln.nn) (by decide) (by decide) ?_
    refine XS.aloadN X2.here hx rfl (hb hby d12_63) rfl rfl ?_
    refine st3 t ?_
    refine XS.iloadN X3.here hx rfl (hb hby d12_67) rfl ?_
    exact k
  by_cases hc5 : (0 : Int32) < n
  · obtain ⟨T6, h6, X6, e6, W6, st6⟩ := putFN X3 hx hZ hown (own_w hw 250 rfl) Via.refl e3 FM EB (Or.inl (own_w hw 251 rfl)) (own_w hw 10 rfl) (ty := .boolean) (v' := (.int (1 : Int32))) (by decide) rfl rfl (g := (mkF m 73 #[vR a1, vI (0 : Int32)] [(.int (1 : Int32)), (.ref a1)])) rfl rfl (hb hby d12_73)
    have f7 := FM.same W6
    have f8 := EB.wr W6
    have f9 := FV.other W6 (Or.inr (slot_ne (Or.inl (own_w hw 26 rfl)) (Or.inl (own_w hw 251 rfl)) (by decide) (t := (.array .byte)) (t' := .boolean) (by decide) (by decide)))
    have f10 := FC.other W6 (Or.inr (slot_ne (Or.inl (own_w hw 28 rfl)) (Or.inl (own_w hw 251 rfl)) (by decide) (t := .byte) (t' := .boolean) (by decide) (by decide)))
    have f11 := FN.other W6 (Or.inr (slot_ne (Or.inl (own_w hw 77 rfl)) (Or.inl (own_w hw 251 rfl)) (by decide) (t := .int) (t' := .boolean) (by decide) (by decide)))
    have f12 := VA.other W6 (Ne.symm hne)
    have Z13 := Nat.le_trans Z0 (Nat.le_of_eq W6.size.symm)
    have K14 := K0.wr W6 (Or.inl (List.mem_of_getElem? (i := 0) rfl))
    have N15 := Fr.snoc X6 N1 gA
    obtain ⟨T16, h16, X16, e16, W16, st16⟩ := putF X6 hx hZ hown (host := "") (Or.inl (own_w hw 76 rfl)) Via.refl e6 f11 f8 (Or.inl (own_w hw 77 rfl)) (own_w hw 10 rfl) (ty := .int) (by decide) rfl rfl (g := (mkF m 78 #[vR a1, vI (0 : Int32)] [(.int (0 : Int32)), (.ref a1)])) rfl rfl (hb hby d12_78)
    have f17 := f11.same W16
    have f18 := f8.wr W16
    have f19 := f9.other W16 (Or.inr (slot_ne (Or.inl (own_w hw 26 rfl)) (Or.inl (own_w hw 77 rfl)) (by decide) (t := (.array .byte)) (t' := .int) (by decide) (by decide)))
    have f20 := f10.other W16 (Or.inr (slot_ne (Or.inl (own_w hw 28 rfl)) (Or.inl (own_w hw 77 rfl)) (by decide) (t := .byte) (t' := .int) (by decide) (by decide)))
    have f21 := f12.other W16 (Ne.symm hne)
    have f22 := f7.other W16 (Or.inr (slot_ne (Or.inl (own_w hw 251 rfl)) (Or.inl (own_w hw 77 rfl)) (by decide) (t := .boolean) (t' := .int) (by decide) (by decide)))
    have Z23 := Nat.le_trans Z13 (Nat.le_of_eq W16.size.symm)
    have K24 := K14.wr W16 (Or.inl (List.mem_of_getElem? (i := 0) rfl))
    have N25 := Fr.snoc X16 N15 gA
    have go26 : Goes p e below s₁ (entryFrame m #[(.ref a1), (.int (0 : Int32))] 2) T16 (mkF m 81 #[vR a1, vI (0 : Int32)] []) := fun t k => by
      refine go4 t ?_
      refine XS.icmpNo X3.here hx rfl (hb hby d12_68) rfl (Jvm.Free.XT.ii_le_f hc5) ?_
      refine XS.aloadN X3.here hx rfl (hb hby d12_71) rfl rfl ?_
      refine XS.iconst X3.here hx rfl (hb hby d12_72) ?_
      refine st6 t ?_
      refine XS.aloadN X6.here hx rfl (hb hby d12_76) rfl rfl ?_
      refine XS.iloadN X6.here hx rfl (hb hby d12_77) rfl ?_
      show Steps p.tables e below (T6.setTop (mkF m 78 #[vR a1, vI (0 : Int32)] [(.int (0 : Int32)), (.ref a1)])) _
      refine st16 t ?_
      exact k
    obtain ⟨fs, hr, hrun, hended, hW, hsame⟩ := X16.leave (v := none) (fun _ => rfl)
    refine ⟨_, _, go26 _ ?_, hrun, hended, _, _, rfl, ?_, ⟨_, rfl⟩, hW, hsame.mono (by decide) (by decide)⟩
    · exact X16.returnOut hx Bd.returns (hb hby d12_81) hr
    · show QAs Z _ _ _ _ _ _ _ _ _ _ T16.heap _
      rw [e16]
      exact ⟨rfl, N25, K24, _, f18, f19, f20, f17, f22, f21⟩
  · obtain ⟨T27, h27, X27, e27, W27, st27⟩ := putF X3 hx hZ hown (host := "") (Or.inl (own_w hw 76 rfl)) Via.refl e3 FN EB (Or.inl (own_w hw 77 rfl)) (own_w hw 10 rfl) (ty := .int) (by decide) rfl rfl (g := (mkF m 78 #[vR a1, vI (0 : Int32)] [(.int (0 : Int32)), (.ref a1)])) rfl rfl (hb hby d12_78)
    have f28 := FN.same W27
    have f29 := EB.wr W27
    have f30 := FV.other W27 (Or.inr (slot_ne (Or.inl (own_w hw 26 rfl)) (Or.inl (own_w hw 77 rfl)) (by decide) (t := (.array .byte)) (t' := .int) (by decide) (by decide)))
    have f31 := FC.other W27 (Or.inr (slot_ne (Or.inl (own_w hw 28 rfl)) (Or.inl (own_w hw 77 rfl)) (by decide) (t := .byte) (t' := .int) (by decide) (by decide)))
    have f32 := FM.other W27 (Or.inr (slot_ne (Or.inl (own_w hw 251 rfl)) (Or.inl (own_w hw 77 rfl)) (by decide) (t := .boolean) (t' := .int) (by decide) (by decide)))
    have f33 := VA.other W27 (Ne.symm hne)
    have Z34 := Nat.le_trans Z0 (Nat.le_of_eq W27.size.symm)
    have K35 := K0.wr W27 (Or.inl (List.mem_of_getElem? (i := 0) rfl))
    have N36 := Fr.snoc X27 N1 gA
    have go37 : Goes p e below s₁ (entryFrame m #[(.ref a1), (.int (0 : Int32))] 2) T27 (mkF m 81 #[vR a1, vI (0 : Int32)] []) := fun t k => by
      refine go4 t ?_
      refine XS.icmpYes X3.here hx rfl (pc0 := 68) (pc' := 76) rfl (hb hby d12_68) rfl (Jvm.Free.XT.ii_le_t hc5) (by decide) (by decide) ?_
      refine XS.aloadN X3.here hx rfl (hb hby d12_76) rfl rfl ?_
      refine XS.iloadN X3.here hx rfl (hb hby d12_77) rfl ?_
      refine st27 t ?_
      exact k
    obtain ⟨fs, hr, hrun, hended, hW, hsame⟩ := X27.leave (v := none) (fun _ => rfl)
    refine ⟨_, _, go37 _ ?_, hrun, hended, _, _, rfl, ?_, ⟨_, rfl⟩, hW, hsame.mono (by decide) (by decide)⟩
    · exact X27.returnOut hx Bd.returns (hb hby d12_81) hr
    · show QAs Z _ _ _ _ _ _ _ _ _ _ T27.heap _
      rw [e27]
      exact ⟨rfl, N36, K35, _, f29, f30, f31, f28, f32, f33⟩
theorem d11_0 : dc11 0 (.aload_n 0) 1 := by decide +kernel
theorem d11_1 : dc11 1 (.iload_n 1) 1 := by decide +kernel
theorem d11_2 : dc11 2 (.invokespecial 333) 3 := by decide +kernel
theorem d11_5 : dc11 5 (.return_) 1 := by decide +kernel
theorem ef_rmSs (m : MethodId) (a1 : Addr) : entryFrame m #[(.ref a1), (.int (0 : Int32))] 2 = mkF m 0 #[.val (.ref a1), .val (.int (0 : Int32))] [] := by first | (simp [entryFrame, mkF, argsToLocals, Value.category]; done) | rfl
def QSs (Z : State) (a1 : Addr) (v1 : Addr) (kA : ClassId) (n mb : Int32) (xs : List Int32) (xs0 : List Int32) (h0 : Heap) (n0 : Nat) (v : Option Value) (h : Heap) (L : List Loc) : Prop := v = none ∧ Fr n0 L ∧ Keep h0 h [a1] ∧ ∃ mb' : Int32, Exa Z h a1 "java/lang/StringBuilder" ∧ Fld Z h a1 "java/lang/AbstractStringBuilder" "value" "[B" (.ref v1) ∧ Fld Z h a1 "java/lang/AbstractStringBuilder" "coder" "B" (.int (0 : Int32)) ∧ Fld Z h a1 "java/lang/AbstractStringBuilder" "count" "I" (.int (0 : Int32)) ∧ Fld Z h a1 "java/lang/AbstractStringBuilder" "maybeLatin1" "Z" (.int mb') ∧ Arv Z h v1 kA .byte 16 (own_vs xs) (.int (0 : Int32))
set_option maxRecDepth 65536 in
set_option maxHeartbeats 40000000 in
theorem rmSs (l : Launch) (Z : State) (a0 : Array Value) (hw : ∀ d ∈ tables_1, d.before a0 Z = true) (ws : List Jvm.Cond) (a1 : Addr) (v1 : Addr) (kA : ClassId) (n mb : Int32) (xs : List Int32) (xs0 : List Int32) (h0 : Heap) (n0 : Nat) (Z0 : n0 ≤ h0.size) (EB : Exa Z h0 a1 "java/lang/StringBuilder") (FV : Fld Z h0 a1 "java/lang/AbstractStringBuilder" "value" "[B" (.ref v1)) (FC : Fld Z h0 a1 "java/lang/AbstractStringBuilder" "coder" "B" (.int (0 : Int32))) (FN : Fld Z h0 a1 "java/lang/AbstractStringBuilder" "count" "I" (.int n)) (FM : Fld Z h0 a1 "java/lang/AbstractStringBuilder" "maybeLatin1" "Z" (.int mb)) (VA : Arv Z h0 v1 kA .byte 16 (own_vs xs) (.int (0 : Int32))) (hne : a1 ≠ v1) (gA : n0 ≤ a1) (gV : n0 ≤ v1) (hln : own_ln xs0 n) :
    MetFree l mN_18 (head1 (Jvm.Cond.code mN_18 jdk_67_method_89_code 2 none :: ws) rO_8) (fun a U => a = #[(.ref a1), (.int (0 : Int32))] ∧ Z.Warmed39 U.vm ∧ U.heap = h0) (fun _ _ _ _ _ => True) (fun _ U o U' => ∃ v L, o = .returned v ∧ QSs Z a1 v1 kA n mb xs xs0 h0 n0 v U'.heap L ∧ FrameEnd U o U' L rO_8.cells rO_8.slots) := by
  refine MetFree.of_bodySF (plainFor_of_name pn_2) hisR ?_
  intro p e s m args below meth c s₁ Bd hml0 hP hK
  obtain ⟨rfl, hZ, hh⟩ := hP
  have hx := Bd.exec
  have hby := Bd.bytes
  have hml : c.maxLocals = 2 := hml0
  have hown : s.vm.findClass "java/lang/StringBuilder" = some m.cls := findClass_of_methodNamed Bd.named
  have hnm := (name_of_methodNamed Bd.named Bd.method).1
  have X0 : Stand p l e rO_8 s m #[(.ref a1), (.int (0 : Int32))] below meth c s₁ [] 0 0 := Stand.of_body Bd
  have e0 : s₁.heap = h0 := by rw [← hh, Bd.state]; rfl
  have N0 := Fr.nil n0
  have K0 := Keep.refl h0 [a1]
  have go0 : Goes p e below s₁ (entryFrame m #[(.ref a1), (.int (0 : Int32))] 2) s₁ (mkF m 0 #[vR a1, vI (0 : Int32)] []) := fun t k => castTop (ef_rmSs m a1) k
  obtain ⟨_, _, ⟨T1, L1, k1, n1⟩, -, X1, ⟨Lc1, hQ1, l1, y1, z1⟩, st1⟩ := superBack X0 hx hZ (y := mN_17) hown (own_w hw 87 rfl) (own_sm (y := mN_17) (y' := mN_5) rfl (by decide) (own_w hw 88 rfl) (own_w hw 94 rfl)) (own_w hw 88 rfl) (own_w hw 73 rfl) (by decide) (backOf (W := 0) (rmAs l Z a0 hw [] a1 v1 kA n mb xs xs0 h0 n0 Z0 EB FV FC FN FM VA hne gA gV hln) hZ (own_w hw 90 rfl) (own_w hw 19 rfl) (by decide) (by decide)) e0 (Ins.self EB) (g := (mkF m 2 #[vR a1, vI (0 : Int32)] [(.int (0 : Int32)), (.ref a1)])) rfl (by rw [hml]; rfl) (own_w hw 90 rfl) (argsL := [(.int (0 : Int32))]) (rest := []) (lenOf pd_0 rfl) rfl (by show 2 * 0 + _ ≤ _; exact Nat.le_of_eq rfl) (hb hby d11_2) (fun _ _ => ⟨rfl, e0, (by decide : 0 + 0 ≤ rO_8.cells), (by decide : 0 + 0 ≤ rO_8.slots)⟩)
  dsimp only [Pt.U, Pt.locs, Pt.cells, Pt.slots] at X1 l1 y1 z1 st1 hQ1
  subst l1 y1 z1
  obtain ⟨rfl, N1q, Kq1, Rq1⟩ := hQ1
  have N1 := Fr.app N0 N1q
  obtain ⟨mb1, E1q1, FVq1, FCq1, FNq1, FMq1, V1q1⟩ := Rq1
  have f2 := EB.keep Kq1
  have f3 := VA.keep Kq1 (ninS (Ne.symm hne) nin0)
  have Z4 := Nat.le_trans Z0 Kq1.1
  have K5 := K0.trans Kq1 (allS (Or.inl (List.mem_of_getElem? (i := 0) rfl)) all0)
  have go6 : Goes p e below s₁ (entryFrame m #[(.ref a1), (.int (0 : Int32))] 2) T1 (mkF m 5 #[vR a1, vI (0 : Int32)] []) := fun t k => by
    refine go0 t ?_
    refine XS.aloadN X0.here hx rfl (hb hby d11_0) rfl rfl ?_
    refine XS.iloadN X0.here hx rfl (hb hby d11_1) rfl ?_
    refine st1.trans ?_
    exact k
  obtain ⟨fs, hr, hrun, hended, hW, hsame⟩ := X1.leave (v := none) (fun _ => rfl)
  refine ⟨_, _, go6 _ ?_, hrun, hended, _, _, rfl, ?_, ⟨_, rfl⟩, hW, hsame.mono (by decide) (by decide)⟩
  · exact X1.returnOut hx Bd.returns (hb hby d11_5) hr
  · show QSs Z _ _ _ _ _ _ _ _ _ _ T1.heap _
    exact ⟨rfl, N1, K5, _, E1q1, FVq1, FCq1, FNq1, FMq1, V1q1⟩
theorem own_mn {xs : List Int32} {n : Int32} (h : own_ln xs n) : ¬ (16 : Int32) < n := by
  have := h.lt; rw [Int32.lt_iff_toInt_lt] at this ⊢; omega
theorem own_ne16 {xs : List Int32} {n : Int32} (h : own_ln xs n) : ¬ n = 16 := fun q => by
  have h1 := h.1; have h2 := h.2; rw [q] at h1; have : (16 : Int32).toInt = 16 := rfl; omega
theorem own_nc {c : Int32} (h : ¬ c < 0 ∧ ¬ 255 < c) : nar .char c = c := by
  obtain ⟨h0, h1⟩ := h
  rw [Int32.lt_iff_toInt_lt] at h0 h1
  have z0 : (0 : Int32).toInt = 0 := rfl
  have z1 : (255 : Int32).toInt = 255 := rfl
  have hc : c = Int32.ofInt c.toInt := (Int32.ofInt_toInt c).symm
  have hb : ∃ b : Nat, b < 256 ∧ c.toInt = (b : Int) := ⟨c.toInt.toNat, by omega, by omega⟩
  obtain ⟨b, hb1, hb2⟩ := hb
  rw [hc, hb2]
  revert b
  have key : ∀ b : Fin 256, nar .char (Int32.ofInt (b.val : Int)) = Int32.ofInt (b.val : Int) := by decide +kernel
  intro b hb1 hb2
  exact key ⟨b, hb1⟩
theorem own_sh0 (n : Int32) : (n >>> ((0 : Int32) &&& 31)) = n := by
  have e : ((0 : Int32) &&& 31) = 0 := by decide
  rw [e]; exact Int32.shiftRight_zero
theorem own_copy (L : List Value) (d : Value) (k : Nat) (hk : k = L.length) : (List.range k).map (fun i => L.getD (0 + i) d) = L := by
  subst hk
  apply List.ext_getElem
  · simp
  · intro i h1 h2
    simp only [List.getElem_map, List.getElem_range, Nat.zero_add]
    rw [List.getD_eq_getElem?_getD, List.getElem?_eq_getElem h2]; rfl
theorem own_rm {L : List Value} {d : Value} {k n : Nat} (hk : k = L.length) (hn : n = k) : (List.replicate n d).take 0 ++ (List.range k).map (fun i => L.getD (0 + i) d) ++ (List.replicate n d).drop (0 + k) = L := by
  rw [own_copy L d k hk]; subst hn; simp
theorem own_rep (d : Value) (k : Nat) : ∀ i, (List.replicate k d).getD i d = ([] : List Value).getD i d := by
  intro i
  rw [List.getD_eq_getElem?_getD, List.getElem?_replicate]
  split <;> rfl
theorem own_vs_get {xs : List Int32} {i : Nat} (h : i < xs.length) (d : Value) : (own_vs xs).getD i d = own_bv (xs.getD i 0) := by
  rw [List.getD_eq_getElem?_getD, List.getD_eq_getElem?_getD]
  have h' : i < (own_vs xs).length := by rw [own_vs_len]; exact h
  rw [List.getElem?_eq_getElem h', List.getElem?_eq_getElem h]
  simp [own_vs]
theorem d25_0 : dc25 0 (.iload_n 0) 1 := by decide +kernel
theorem d25_1 : dc25 1 (.iload_n 1) 1 := by decide +kernel
theorem d25_2 : dc25 2 (.if_icmp .gt 7) 3 := by decide +kernel
theorem d25_5 : dc25 5 (.iload_n 0) 1 := by decide +kernel
theorem d25_6 : dc25 6 (.goto 4) 3 := by decide +kernel
theorem d25_9 : dc25 9 (.iload_n 1) 1 := by decide +kernel
theorem d25_10 : dc25 10 (.ireturn) 1 := by decide +kernel
theorem ef_rmMn (m : MethodId) (x : Int32) (y : Int32) : entryFrame m #[(.int x), (.int y)] 2 = mkF m 0 #[.val (.int x), .val (.int y)] [] := by first | (simp [entryFrame, mkF, argsToLocals, Value.category]; done) | rfl
def QMn (Z : State) (x : Int32) (y : Int32) (h0 : Heap) (n0 : Nat) (v : Option Value) (h : Heap) (L : List Loc) : Prop := v = some (.int (if y < x then y else x)) ∧ Fr n0 L ∧ h = h0
set_option maxRecDepth 65536 in
set_option maxHeartbeats 40000000 in
theorem rmMn (l : Launch) (Z : State) (a0 : Array Value) (hw : ∀ d ∈ tables_1, d.before a0 Z = true) (ws : List Jvm.Cond) (x : Int32) (y : Int32) (h0 : Heap) (n0 : Nat) (Z0 : n0 ≤ h0.size) :
    MetFree l mN_19 (head1 (Jvm.Cond.code mN_19 jdk_29_method_69_code 2 (some .int) :: ws) rO_0) (fun a U => a = #[(.int x), (.int y)] ∧ Z.Warmed39 U.vm ∧ U.heap = h0) (fun _ _ _ _ _ => True) (fun _ U o U' => ∃ v L, o = .returned v ∧ QMn Z x y h0 n0 v U'.heap L ∧ FrameEnd U o U' L rO_0.cells rO_0.slots) := by
  refine MetFree.of_bodySF (Jvm.Free.JP.mathPlain rfl (by decide +kernel)) hisR ?_
  intro p e s m args below meth c s₁ Bd hml0 hP hK
  obtain ⟨rfl, hZ, hh⟩ := hP
  have hx := Bd.exec
  have hby := Bd.bytes
  have hml : c.maxLocals = 2 := hml0
  have hown : s.vm.findClass "java/lang/Math" = some m.cls := findClass_of_methodNamed Bd.named
  have hnm := (name_of_methodNamed Bd.named Bd.method).1
  have X0 : Stand p l e rO_0 s m #[(.int x), (.int y)] below meth c s₁ [] 0 0 := Stand.of_body Bd
  have e0 : s₁.heap = h0 := by rw [← hh, Bd.state]; rfl
  have N0 := Fr.nil n0
  have K0 := Keep.refl h0 []
  have go0 : Goes p e below s₁ (entryFrame m #[(.int x), (.int y)] 2) s₁ (mkF m 0 #[vI x, vI y] []) := fun t k => castTop (ef_rmMn m x y) k
  have go1 : Goes p e below s₁ (entryFrame m #[(.int x), (.int y)] 2) s₁ (mkF m 2 #[vI x, vI y] [(.int y), (.int x)]) := fun t k => by
    refine go0 t ?_
    refine XS.iloadN X0.here hx rfl (hb hby d25_0) rfl ?_
    refine XS.iloadN X0.here hx rfl (hb hby d25_1) rfl ?_
    exact k
  by_cases hc2 : y < x
  · have go3 : Goes p e below s₁ (entryFrame m #[(.int x), (.int y)] 2) s₁ (mkF m 10 #[vI x, vI y] [(.int y)]) := fun t k => by
      refine go1 t ?_
      refine XS.icmpYes X0.here hx rfl (pc0 := 2) (pc' := 9) rfl (hb hby d25_2) rfl (Jvm.Free.XT.ii_gt_t hc2) (by decide) (by decide) ?_
      refine XS.iloadN X0.here hx rfl (hb hby d25_9) rfl ?_
      exact k
    obtain ⟨fs, hr, hrun, hended, hW, hsame⟩ := X0.leave (v := some (.int y)) (fun h => by rw [Bd.returns] at h; cases h)
    refine ⟨_, _, go3 _ ?_, hrun, hended, _, _, rfl, ?_, ⟨_, rfl⟩, hW, hsame.mono (by decide) (by decide)⟩
    · exact retI X0 hx Bd.returns (hb hby d25_10) hr
    · show QMn Z _ _ _ _ _ s₁.heap _
      rw [e0]
      exact ⟨by simp [hc2], N0, rfl⟩
  · have go4 : Goes p e below s₁ (entryFrame m #[(.int x), (.int y)] 2) s₁ (mkF m 10 #[vI x, vI y] [(.int x)]) := fun t k => by
      refine go1 t ?_
      refine XS.icmpNo X0.here hx rfl (hb hby d25_2) rfl (Jvm.Free.XT.ii_gt_f hc2) ?_
      refine XS.iloadN X0.here hx rfl (hb hby d25_5) rfl ?_
      refine XS.goto X0.here hx rfl (pc0 := 6) (pc' := 10) rfl (hb hby d25_6) (by decide) (by decide) ?_
      exact k
    obtain ⟨fs, hr, hrun, hended, hW, hsame⟩ := X0.leave (v := some (.int x)) (fun h => by rw [Bd.returns] at h; cases h)
    refine ⟨_, _, go4 _ ?_, hrun, hended, _, _, rfl, ?_, ⟨_, rfl⟩, hW, hsame.mono (by decide) (by decide)⟩
    · exact retI X0 hx Bd.returns (hb hby d25_10) hr
    · show QMn Z _ _ _ _ _ s₁.heap _
      rw [e0]
      exact ⟨by simp [hc2], N0, rfl⟩
theorem d45_0 : dc45 0 (.iload_n 0) 1 := by decide +kernel
theorem d45_1 : dc45 1 (.ifCond .lt 8) 3 := by decide +kernel
theorem d45_4 : dc45 4 (.iload_n 0) 1 := by decide +kernel
theorem d45_5 : dc45 5 (.iload_n 1) 1 := by decide +kernel
theorem d45_6 : dc45 6 (.if_icmp .lt 10) 3 := by decide +kernel
theorem d45_16 : dc45 16 (.iload_n 0) 1 := by decide +kernel
theorem d45_17 : dc45 17 (.ireturn) 1 := by decide +kernel
theorem pn_3 : plainName "jdk/internal/util/Preconditions" = true := by first | (simp [plainName, overriddenIn]; done) | decide +kernel
theorem ef_rmPc (m : MethodId) (x : Int32) (y : Int32) (fm : Value) (h_fm : fm.isRef = true) : entryFrame m #[(.int x), (.int y), fm] 3 = mkF m 0 #[.val (.int x), .val (.int y), .val fm] [] := by rcases ref_cases h_fm with rfl | ⟨_, rfl⟩ <;> first | (simp [entryFrame, mkF, argsToLocals, Value.category]; done) | rfl
def QPc (Z : State) (x : Int32) (y : Int32) (fm : Value) (h0 : Heap) (n0 : Nat) (v : Option Value) (h : Heap) (L : List Loc) : Prop := v = some (.int x) ∧ Fr n0 L ∧ h = h0
set_option maxRecDepth 65536 in
set_option maxHeartbeats 40000000 in
theorem rmPc (l : Launch) (Z : State) (a0 : Array Value) (hw : ∀ d ∈ tables_1, d.before a0 Z = true) (ws : List Jvm.Cond) (x : Int32) (y : Int32) (fm : Value) (h0 : Heap) (n0 : Nat) (Z0 : n0 ≤ h0.size) (hfm : fm.isRef = true) (hx0 : ¬ x < 0) (hxy : x < y) :
    MetFree l (⟨"jdk/internal/util/Preconditions", "checkIndex", "(IILjava/util/function/BiFunction;)I"⟩ : MethodName) (head1 (Jvm.Cond.code (⟨"jdk/internal/util/Preconditions", "checkIndex", "(IILjava/util/function/BiFunction;)I"⟩ : MethodName) jdk_41_method_11_code 3 (some .int) :: ws) rO_0) (fun a U => a = #[(.int x), (.int y), fm] ∧ Z.Warmed39 U.vm ∧ U.heap = h0) (fun _ _ _ _ _ => True) (fun _ U o U' => ∃ v L, o = .returned v ∧ QPc Z x y fm h0 n0 v U'.heap L ∧ FrameEnd U o U' L rO_0.cells rO_0.slots) := by
  refine MetFree.of_bodySF (plainFor_of_name pn_3) hisR ?_
  intro p e s m args below meth c s₁ Bd hml0 hP hK
  obtain ⟨rfl, hZ, hh⟩ := hP
  have hx := Bd.exec
  have hby := Bd.bytes
  have hml : c.maxLocals = 3 := hml0
  have hown : s.vm.findClass "jdk/internal/util/Preconditions" = some m.cls := findClass_of_methodNamed Bd.named
  have hnm := (name_of_methodNamed Bd.named Bd.method).1
  have X0 : Stand p l e rO_0 s m #[(.int x), (.int y), fm] below meth c s₁ [] 0 0 := Stand.of_body Bd
  have e0 : s₁.heap = h0 := by rw [← hh, Bd.state]; rfl
  have N0 := Fr.nil n0
  have K0 := Keep.refl h0 []
  have go0 : Goes p e below s₁ (entryFrame m #[(.int x), (.int y), fm] 3) s₁ (mkF m 0 #[vI x, vI y, .val fm] []) := fun t k => castTop (ef_rmPc m x y fm hfm) k
  have go1 : Goes p e below s₁ (entryFrame m #[(.int x), (.int y), fm] 3) s₁ (mkF m 17 #[vI x, vI y, .val fm] [(.int x)]) := fun t k => by
    refine go0 t ?_
    refine XS.iloadN X0.here hx rfl (hb hby d45_0) rfl ?_
    refine XS.ifNo X0.here hx rfl (hb hby d45_1) rfl (Jvm.Free.XT.i0_lt_f hx0) ?_
    refine XS.iloadN X0.here hx rfl (hb hby d45_4) rfl ?_
    refine XS.iloadN X0.here hx rfl (hb hby d45_5) rfl ?_
    refine XS.icmpYes X0.here hx rfl (pc0 := 6) (pc' := 16) rfl (hb hby d45_6) rfl (Jvm.Free.XT.ii_lt_t hxy) (by decide) (by decide) ?_
    refine XS.iloadN X0.here hx rfl (hb hby d45_16) rfl ?_
    exact k
  obtain ⟨fs, hr, hrun, hended, hW, hsame⟩ := X0.leave (v := some (.int x)) (fun h => by rw [Bd.returns] at h; cases h)
  refine ⟨_, _, go1 _ ?_, hrun, hended, _, _, rfl, ?_, ⟨_, rfl⟩, hW, hsame.mono (by decide) (by decide)⟩
  · exact retI X0 hx Bd.returns (hb hby d45_17) hr
  · show QPc Z _ _ _ _ _ _ s₁.heap _
    rw [e0]
    exact ⟨rfl, N0, rfl⟩
theorem pd_5 : parseMethodDescriptor "(IILjava/util/function/BiFunction;)I" = some ⟨[.int, .int, (.object "java/util/function/BiFunction")], some .int⟩ := by decide +kernel
theorem d44_0 : dc44 0 (.iload_n 0) 1 := by decide +kernel
theorem d44_1 : dc44 1 (.iload_n 1) 1 := by decide +kernel
theorem d44_2 : dc44 2 (.getstatic 1053) 3 := by decide +kernel
theorem d44_5 : dc44 5 (.invokestatic 1059) 3 := by decide +kernel
theorem d44_8 : dc44 8 (.pop) 1 := by decide +kernel
theorem d44_9 : dc44 9 (.return_) 1 := by decide +kernel
theorem pn_4 : plainName "java/lang/String" = true := by first | (simp [plainName, overriddenIn]; done) | decide +kernel
theorem ef_rmCi (m : MethodId) (x : Int32) (y : Int32) : entryFrame m #[(.int x), (.int y)] 2 = mkF m 0 #[.val (.int x), .val (.int y)] [] := by first | (simp [entryFrame, mkF, argsToLocals, Value.category]; done) | rfl
def QCi (Z : State) (x : Int32) (y : Int32) (fm : Value) (h0 : Heap) (n0 : Nat) (v : Option Value) (h : Heap) (L : List Loc) : Prop := v = none ∧ Fr n0 L ∧ h = h0
set_option maxRecDepth 65536 in
set_option maxHeartbeats 40000000 in
theorem rmCi (l : Launch) (Z : State) (a0 : Array Value) (hw : ∀ d ∈ tables_1, d.before a0 Z = true) (ws : List Jvm.Cond) (x : Int32) (y : Int32) (fm : Value) (h0 : Heap) (n0 : Nat) (Z0 : n0 ≤ h0.size) (O0 : Old Z n0 h0) (S_FM : Sta Z Z.heap "jdk/internal/util/Preconditions" "SIOOBE_FORMATTER" "Ljava/util/function/BiFunction;" fm) (hfm : fm.isRef = true) (hx0 : ¬ x < 0) (hxy : x < y) :
    MetFree l mN_20 (head1 (Jvm.Cond.code mN_20 jdk_42_method_155_code 2 none :: ws) rO_3) (fun a U => a = #[(.int x), (.int y)] ∧ Z.Warmed39 U.vm ∧ U.heap = h0) (fun _ _ _ _ _ => True) (fun _ U o U' => ∃ v L, o = .returned v ∧ QCi Z x y fm h0 n0 v U'.heap L ∧ FrameEnd U o U' L rO_3.cells rO_3.slots) := by
  refine MetFree.of_bodySF (plainFor_of_name pn_4) hisR ?_
  intro p e s m args below meth c s₁ Bd hml0 hP hK
  obtain ⟨rfl, hZ, hh⟩ := hP
  have hx := Bd.exec
  have hby := Bd.bytes
  have hml : c.maxLocals = 2 := hml0
  have hown : s.vm.findClass "java/lang/String" = some m.cls := findClass_of_methodNamed Bd.named
  have hnm := (name_of_methodNamed Bd.named Bd.method).1
  have X0 : Stand p l e rO_3 s m #[(.int x), (.int y)] below meth c s₁ [] 0 0 := Stand.of_body Bd
  have e0 : s₁.heap = h0 := by rw [← hh, Bd.state]; rfl
  have N0 := Fr.nil n0
  have K0 := Keep.refl h0 []
  have go0 : Goes p e below s₁ (entryFrame m #[(.int x), (.int y)] 2) s₁ (mkF m 0 #[vI x, vI y] []) := fun t k => castTop (ef_rmCi m x y) k
  obtain ⟨T1, X1, e1, st1⟩ := getS2 X0 hx hZ hown (host := "") (Or.inl (own_w hw 268 rfl)) Via.refl e0 (S_FM.ext O0.2) (g := (mkF m 2 #[vI x, vI y] [(.int y), (.int x)])) rfl (hb hby d44_2)
  obtain ⟨_, _, ⟨T2, L2, k2, n2⟩, -, X2, ⟨Lc2, hQ2, l2, y2, z2⟩, st2⟩ := Jvm.LawKit.callS X1 hx (y := (⟨"jdk/internal/util/Preconditions", "checkIndex", "(IILjava/util/function/BiFunction;)I"⟩ : MethodName)) hown (mvT hZ (own_w hw 270 rfl)) (mvT hZ (own_w hw 271 rfl)) (mvT hZ (own_w hw 269 rfl)) (mvT hZ (own_w hw 272 rfl)) (by decide) (backOf (W := 0) (rmPc l Z a0 hw [] x y fm h0 n0 Z0 hfm hx0 hxy) hZ (own_w hw 272 rfl) (own_w hw 269 rfl) (by decide) (by decide)) (g := (mkF m 5 #[vI x, vI y] [fm, (.int y), (.int x)])) rfl (by rw [hml]; rfl) (argsL := [(.int x), (.int y), fm]) (rest := []) (lenOf pd_5 rfl) rfl (by show 2 * 0 + _ ≤ _; exact Nat.le_of_eq rfl) (hb hby d44_5) (fun _ _ => ⟨rfl, e1, (by decide : 0 + 0 ≤ rO_3.cells), (by decide : 0 + 0 ≤ rO_3.slots)⟩)
  dsimp only [Pt.U, Pt.locs, Pt.cells, Pt.slots] at X2 l2 y2 z2 st2 hQ2
  subst l2 y2 z2
  obtain ⟨rfl, N2q, e2⟩ := hQ2
  have N2 := Fr.app N0 N2q
  have go3 : Goes p e below s₁ (entryFrame m #[(.int x), (.int y)] 2) T2 (mkF m 9 #[vI x, vI y] []) := fun t k => by
    refine go0 t ?_
    refine XS.iloadN X0.here hx rfl (hb hby d44_0) rfl ?_
    refine XS.iloadN X0.here hx rfl (hb hby d44_1) rfl ?_
    refine st1 t ?_
    refine st2 t ?_
    refine XS.pop X2.here hx rfl (hb hby d44_8) rfl rfl ?_
    exact k
  obtain ⟨fs, hr, hrun, hended, hW, hsame⟩ := X2.leave (v := none) (fun _ => rfl)
  refine ⟨_, _, go3 _ ?_, hrun, hended, _, _, rfl, ?_, ⟨_, rfl⟩, hW, hsame.mono (by decide) (by decide)⟩
  · exact X2.returnOut hx Bd.returns (hb hby d44_9) hr
  · show QCi Z _ _ _ _ _ _ T2.heap _
    rw [e2]
    exact ⟨rfl, N2, rfl⟩
theorem pd_6 : parseMethodDescriptor "(II)I" = some ⟨[.int, .int], some .int⟩ := by decide +kernel
theorem pd_7 : parseMethodDescriptor "(II)V" = some ⟨[.int, .int], none⟩ := by decide +kernel
theorem d47_0 : dc47 0 (.aload_n 0) 1 := by decide +kernel
theorem d47_1 : dc47 1 (.getfield 22) 3 := by decide +kernel
theorem d47_4 : dc47 4 (.istore_n 2) 1 := by decide +kernel
theorem d47_5 : dc47 5 (.aload_n 0) 1 := by decide +kernel
theorem d47_6 : dc47 6 (.getfield 15) 3 := by decide +kernel
theorem d47_9 : dc47 9 (.astore_n 3) 1 := by decide +kernel
theorem d47_10 : dc47 10 (.aload_n 0) 1 := by decide +kernel
theorem d47_11 : dc47 11 (.getfield 79) 3 := by decide +kernel
theorem d47_14 : dc47 14 (.aload_n 3) 1 := by decide +kernel
theorem d47_15 : dc47 15 (.arraylength) 1 := by decide +kernel
theorem d47_16 : dc47 16 (.iload_n 2) 1 := by decide +kernel
theorem d47_17 : dc47 17 (.ishr) 1 := by decide +kernel
theorem d47_18 : dc47 18 (.invokestatic 138) 3 := by decide +kernel
theorem d47_21 : dc47 21 (.istore 4) 2 := by decide +kernel
theorem d47_23 : dc47 23 (.iload_n 1) 1 := by decide +kernel
theorem d47_24 : dc47 24 (.iload 4) 2 := by decide +kernel
theorem d47_26 : dc47 26 (.invokestatic 144) 3 := by decide +kernel
theorem d47_29 : dc47 29 (.iload_n 2) 1 := by decide +kernel
theorem d47_30 : dc47 30 (.ifCond .ne 12) 3 := by decide +kernel
theorem d47_33 : dc47 33 (.aload_n 3) 1 := by decide +kernel
theorem d47_34 : dc47 34 (.iload_n 1) 1 := by decide +kernel
theorem d47_35 : dc47 35 (.baload) 1 := by decide +kernel
theorem d47_36 : dc47 36 (.sipush 255) 3 := by decide +kernel
theorem d47_39 : dc47 39 (.iand) 1 := by decide +kernel
theorem d47_40 : dc47 40 (.i2c) 1 := by decide +kernel
theorem d47_41 : dc47 41 (.ireturn) 1 := by decide +kernel
theorem ef_rmAh (m : MethodId) (a1 : Addr) : entryFrame m #[(.ref a1), (.int (0 : Int32))] 5 = mkF m 0 #[.val (.ref a1), .val (.int (0 : Int32)), .unset, .unset, .unset] [] := by first | (simp [entryFrame, mkF, argsToLocals, Value.category]; done) | rfl
def QAh (Z : State) (a1 : Addr) (v1 : Addr) (kA : ClassId) (n mb : Int32) (xs : List Int32) (fm : Value) (h0 : Heap) (n0 : Nat) (v : Option Value) (h : Heap) (L : List Loc) : Prop := v = some (.int (xs.getD 0 0)) ∧ Fr n0 L ∧ h = h0
set_option maxRecDepth 65536 in
set_option maxHeartbeats 40000000 in
theorem rmAh (l : Launch) (Z : State) (a0 : Array Value) (hw : ∀ d ∈ tables_1, d.before a0 Z = true) (ws : List Jvm.Cond) (a1 : Addr) (v1 : Addr) (kA : ClassId) (n mb : Int32) (xs : List Int32) (fm : Value) (h0 : Heap) (n0 : Nat) (Z0 : n0 ≤ h0.size) (O0 : Old Z n0 h0) (S_FM : Sta Z Z.heap "jdk/internal/util/Preconditions" "SIOOBE_FORMATTER" "Ljava/util/function/BiFunction;" fm) (hfm : fm.isRef = true) (EB : Exa Z h0 a1 "java/lang/StringBuilder") (FV : Fld Z h0 a1 "java/lang/AbstractStringBuilder" "value" "[B" (.ref v1)) (FC : Fld Z h0 a1 "java/lang/AbstractStringBuilder" "coder" "B" (.int (0 : Int32))) (FN : Fld Z h0 a1 "java/lang/AbstractStringBuilder" "count" "I" (.int n)) (FM : Fld Z h0 a1 "java/lang/AbstractStringBuilder" "maybeLatin1" "Z" (.int mb)) (VA : Arv Z h0 v1 kA .byte 16 (own_vs xs) (.int (0 : Int32))) (hne : a1 ≠ v1) (gA : n0 ≤ a1) (gV : n0 ≤ v1) (hln : own_ln xs n) (hc0 : ¬ (xs.getD 0 0) < 0 ∧ ¬ (255 : Int32) < (xs.getD 0 0)) (hpos : (0 : Int32) < n) (hp2 : 0 < xs.length) :
    MetFree l mN_21 (head1 (Jvm.Cond.code mN_21 jdk_68_method_14_code 5 (some .char) :: ws) rO_8) (fun a U => a = #[(.ref a1), (.int (0 : Int32))] ∧ Z.Warmed39 U.vm ∧ U.heap = h0) (fun _ _ _ _ _ => True) (fun _ U o U' => ∃ v L, o = .returned v ∧ QAh Z a1 v1 kA n mb xs fm h0 n0 v U'.heap L ∧ FrameEnd U o U' L rO_8.cells rO_8.slots) := by
  refine MetFree.of_bodySF (plainFor_of_name pn_0) hisR ?_
  intro p e s m args below meth c s₁ Bd hml0 hP hK
  obtain ⟨rfl, hZ, hh⟩ := hP
  have hx := Bd.exec
  have hby := Bd.bytes
  have hml : c.maxLocals = 5 := hml0
  have hown : s.vm.findClass "java/lang/AbstractStringBuilder" = some m.cls := findClass_of_methodNamed Bd.named
  have hnm := (name_of_methodNamed Bd.named Bd.method).1
  have X0 : Stand p l e rO_8 s m #[(.ref a1), (.int (0 : Int32))] below meth c s₁ [] 0 0 := Stand.of_body Bd
  have e0 : s₁.heap = h0 := by rw [← hh, Bd.state]; rfl
  have N0 := Fr.nil n0
  have K0 := Keep.refl h0 []
  have go0 : Goes p e below s₁ (entryFrame m #[(.ref a1), (.int (0 : Int32))] 5) s₁ (mkF m 0 #[vR a1, vI (0 : Int32), .unset, .unset, .unset] []) := fun t k => castTop (ef_rmAh m a1) k
  obtain ⟨T1, X1, e1, st1⟩ := getF X0 hx hZ hown (host := "") (Or.inl (own_w hw 27 rfl)) Via.refl e0 FC (g := (mkF m 1 #[vR a1, vI (0 : Int32), .unset, .unset, .unset] [(.ref a1)])) rfl rfl (hb hby d47_1)
  obtain ⟨T2, X2, e2, st2⟩ := getF X1 hx hZ hown (host := "") (Or.inl (own_w hw 25 rfl)) Via.refl e1 FV (g := (mkF m 6 #[vR a1, vI (0 : Int32), vI (0 : Int32), .unset, .unset] [(.ref a1)])) rfl rfl (hb hby d47_6)
  obtain ⟨T3, X3, e3, st3⟩ := getF X2 hx hZ hown (host := "") (Or.inl (own_w hw 76 rfl)) Via.refl e2 FN (g := (mkF m 11 #[vR a1, vI (0 : Int32), vI (0 : Int32), vR v1, .unset] [(.ref a1)])) rfl rfl (hb hby d47_11)
  obtain ⟨cl4, Ar4, kq4, Sz4, Nn4, Hs4, Gf4⟩ := id (VA)
  obtain ⟨_, _, ⟨T5, L5, k5, n5⟩, -, X5, ⟨Lc5, hQ5, l5, y5, z5⟩, st5⟩ := Jvm.LawKit.callS X3 hx (y := mN_19) hown (mvT hZ (own_w hw 282 rfl)) (mvT hZ (own_w hw 163 rfl)) (mvT hZ (own_w hw 164 rfl)) (mvT hZ (own_w hw 165 rfl)) (by decide) (backOf (W := 0) (rmMn l Z a0 hw [] n (16 : Int32) h0 n0 Z0) hZ (own_w hw 165 rfl) (own_w hw 164 rfl) (by decide) (by decide)) (g := (mkF m 18 #[vR a1, vI (0 : Int32), vI (0 : Int32), vR v1, .unset] [(.int (16 : Int32)), (.int n)])) rfl (by rw [hml]; rfl) (argsL := [(.int n), (.int (16 : Int32))]) (rest := []) (lenOf pd_6 rfl) rfl (by show 2 * 0 + _ ≤ _; exact Nat.le_of_eq rfl) (hb hby d47_18) (fun _ _ => ⟨rfl, e3, (by decide : 0 + 0 ≤ rO_8.cells), (by decide : 0 + 0 ≤ rO_8.slots)⟩)
  dsimp only [Pt.U, Pt.locs, Pt.cells, Pt.slots] at X5 l5 y5 z5 st5 hQ5
  subst l5 y5 z5
  obtain ⟨rfl, N5q, e5⟩ := hQ5
  have N5 := Fr.app N0 N5q
  have go6 : Goes p e below s₁ (entryFrame m #[(.ref a1), (.int (0 : Int32))] 5) T5 (mkF m 21 #[vR a1, vI (0 : Int32), vI (0 : Int32), vR v1, .unset] [(.int (if (16 : Int32) < n then (16 : Int32) else n))]) := fun t k => by
    refine go0 t ?_
    refine XS.aloadN X0.here hx rfl (hb hby d47_0) rfl rfl ?_
    refine st1 t ?_
    refine XS.istoreN X1.here hx rfl (hb hby d47_4) rfl (l' := #[vR a1, vI (0 : Int32), vI (0 : Int32), .unset, .unset]) rfl ?_
    refine XS.aloadN X1.here hx rfl (hb hby d47_5) rfl rfl ?_
    refine st2 t ?_
    refine XS.astoreN X2.here hx rfl (hb hby d47_9) rfl rfl (l' := #[vR a1, vI (0 : Int32), vI (0 : Int32), vR v1, .unset]) rfl ?_
    show Steps p.tables e below (T2.setTop (mkF m 10 #[vR a1, vI (0 : Int32), vI (0 : Int32), vR v1, .unset] [])) _
    refine XS.aloadN X2.here hx rfl (hb hby d47_10) rfl rfl ?_
    refine st3 t ?_
    refine XS.aloadN X3.here hx rfl (hb hby d47_14) rfl rfl ?_
    refine X3.arraylength hx (own_hp e3 Ar4.1) (State.isArrayOf_alike hZ.alike Ar4.2.1) (g := (mkF m 15 #[vR a1, vI (0 : Int32), vI (0 : Int32), vR v1, .unset] [(.ref v1), (.int n)])) rfl rfl (hb hby d47_15) _ ?_
    rw [len_of Sz4 Nn4]
    refine XS.iloadN X3.here hx rfl (hb hby d47_16) rfl ?_
    refine XS.ishr X3.here hx rfl (hb hby d47_17) rfl ?_
    show Steps p.tables e below (T3.setTop (mkF m 18 #[vR a1, vI (0 : Int32), vI (0 : Int32), vR v1, .unset] [(.int (16 : Int32)), (.int n)])) _
    refine st5 t ?_
    exact k
  have go7 : Goes p e below s₁ (entryFrame m #[(.ref a1), (.int (0 : Int32))] 5) T5 (mkF m 21 #[vR a1, vI (0 : Int32), vI (0 : Int32), vR v1, .unset] [(.int n)]) := Eq.mp (congrArg (fun zz => Goes p e below s₁ (entryFrame m #[(.ref a1), (.int (0 : Int32))] 5) T5 (mkF m 21 #[vR a1, vI (0 : Int32), vI (0 : Int32), vR v1, .unset] [(.int zz)])) (if_neg (own_mn hln))) go6
  obtain ⟨_, _, ⟨T8, L8, k8, n8⟩, -, X8, ⟨Lc8, hQ8, l8, y8, z8⟩, st8⟩ := Jvm.LawKit.callS X5 hx (y := mN_20) hown (mvT hZ (own_w hw 283 rfl)) (mvT hZ (own_w hw 266 rfl)) (mvT hZ (own_w hw 23 rfl)) (mvT hZ (own_w hw 267 rfl)) (by decide) (backOf (W := 0) (rmCi l Z a0 hw [] (0 : Int32) n fm h0 n0 Z0 O0 S_FM hfm (by decide) hpos) hZ (own_w hw 267 rfl) (own_w hw 23 rfl) (by decide) (by decide)) (g := (mkF m 26 #[vR a1, vI (0 : Int32), vI (0 : Int32), vR v1, vI n] [(.int n), (.int (0 : Int32))])) rfl (by rw [hml]; rfl) (argsL := [(.int (0 : Int32)), (.int n)]) (rest := []) (lenOf pd_7 rfl) rfl (by show 2 * 0 + _ ≤ _; exact Nat.le_of_eq rfl) (hb hby d47_26) (fun _ _ => ⟨rfl, e5, (by decide : 0 + 0 ≤ rO_8.cells), (by decide : 0 + 0 ≤ rO_8.slots)⟩)
  dsimp only [Pt.U, Pt.locs, Pt.cells, Pt.slots] at X8 l8 y8 z8 st8 hQ8
  subst l8 y8 z8
  obtain ⟨rfl, N8q, e8⟩ := hQ8
  have N8 := Fr.app N5 N8q
  obtain ⟨cl9, Ar9, kq9, Sz9, Nn9, Hs9, Gf9⟩ := id (VA)
  have hin9 : ¬ ((0 : Int32) < 0 ∨ cl9.slots.size ≤ ((0 : Int32)).toNatClampNeg) := inb_of Sz9 ⟨by decide, by decide⟩
  have hat9 : cl9.slots[((0 : Int32)).toNatClampNeg]? = some (.int (nar .byte (xs.getD 0 0).toInt8.toInt32)) := Has.at Hs9 hin9 (own_vs_get hp2 _)
  have go10 : Goes p e below s₁ (entryFrame m #[(.ref a1), (.int (0 : Int32))] 5) T8 (mkF m 41 #[vR a1, vI (0 : Int32), vI (0 : Int32), vR v1, vI n] [(.int (((nar .byte (xs.getD 0 0).toInt8.toInt32) &&& (255 : Int32)).toUInt32.toUInt16.toUInt32.toInt32))]) := fun t k => by
    refine go7 t ?_
    refine XS.istore X5.here hx rfl (hb hby d47_21) rfl (l' := #[vR a1, vI (0 : Int32), vI (0 : Int32), vR v1, vI n]) rfl ?_
    refine XS.iloadN X5.here hx rfl (hb hby d47_23) rfl ?_
    refine XS.iload X5.here hx rfl (hb hby d47_24) rfl ?_
    refine st8 t ?_
    refine XS.iloadN X8.here hx rfl (hb hby d47_29) rfl ?_
    refine XS.ifNo X8.here hx rfl (hb hby d47_30) rfl (Jvm.Free.XT.i0_ne_f (by decide)) ?_
    show Steps p.tables e below (T8.setTop (mkF m 33 #[vR a1, vI (0 : Int32), vI (0 : Int32), vR v1, vI n] [])) _
    refine XS.aloadN X8.here hx rfl (hb hby d47_33) rfl rfl ?_
    refine XS.iloadN X8.here hx rfl (hb hby d47_34) rfl ?_
    refine X8.baloadBytes hx (j := (0 : Int32)) (v := (.int (nar .byte (xs.getD 0 0).toInt8.toInt32))) (own_hp e8 Ar9.1) (State.isArrayOf_alike hZ.alike Ar9.2.1) Ar9.2.2 hin9 hat9 (g := (mkF m 35 #[vR a1, vI (0 : Int32), vI (0 : Int32), vR v1, vI n] [(.int (0 : Int32)), (.ref v1)])) rfl rfl (hb hby d47_35) _ ?_
    refine XS.sipush X8.here hx rfl (hb hby d47_36) ?_
    refine XS.iand X8.here hx rfl (hb hby d47_39) rfl ?_
    refine XS.i2c X8.here hx rfl (hb hby d47_40) rfl ?_
    exact k
  have go11 : Goes p e below s₁ (entryFrame m #[(.ref a1), (.int (0 : Int32))] 5) T8 (mkF m 41 #[vR a1, vI (0 : Int32), vI (0 : Int32), vR v1, vI n] [(.int (xs.getD 0 0))]) := Eq.mp (congrArg (fun zz => Goes p e below s₁ (entryFrame m #[(.ref a1), (.int (0 : Int32))] 5) T8 (mkF m 41 #[vR a1, vI (0 : Int32), vI (0 : Int32), vR v1, vI n] [(.int zz)])) (own_rt hc0)) go10
  obtain ⟨fs, hr, hrun, hended, hW, hsame⟩ := X8.leave (v := some (.int (nar .char (xs.getD 0 0)))) (fun h => by rw [Bd.returns] at h; cases h)
  refine ⟨_, _, go11 _ ?_, hrun, hended, _, _, rfl, ?_, ⟨_, rfl⟩, hW, hsame.mono (by decide) (by decide)⟩
  · exact retN X8 hx (t := .char) Bd.returns (by simp) (hb hby d47_41) hr
  · show QAh Z _ _ _ _ _ _ _ _ _ _ T8.heap _
    rw [e8]
    exact ⟨congrArg (fun z => some (Value.int z)) (own_nc hc0), N8, rfl⟩
theorem pd_8 : parseMethodDescriptor "(I)C" = some ⟨[.int], some .char⟩ := by decide +kernel
theorem d46_0 : dc46 0 (.aload_n 0) 1 := by decide +kernel
theorem d46_1 : dc46 1 (.iload_n 1) 1 := by decide +kernel
theorem d46_2 : dc46 2 (.invokespecial 329) 3 := by decide +kernel
theorem d46_5 : dc46 5 (.ireturn) 1 := by decide +kernel
theorem ef_rmSh (m : MethodId) (a1 : Addr) : entryFrame m #[(.ref a1), (.int (0 : Int32))] 2 = mkF m 0 #[.val (.ref a1), .val (.int (0 : Int32))] [] := by first | (simp [entryFrame, mkF, argsToLocals, Value.category]; done) | rfl
def QSh (Z : State) (a1 : Addr) (v1 : Addr) (kA : ClassId) (n mb : Int32) (xs : List Int32) (fm : Value) (h0 : Heap) (n0 : Nat) (v : Option Value) (h : Heap) (L : List Loc) : Prop := v = some (.int (xs.getD 0 0)) ∧ Fr n0 L ∧ h = h0
set_option maxRecDepth 65536 in
set_option maxHeartbeats 40000000 in
theorem rmSh (l : Launch) (Z : State) (a0 : Array Value) (hw : ∀ d ∈ tables_1, d.before a0 Z = true) (ws : List Jvm.Cond) (a1 : Addr) (v1 : Addr) (kA : ClassId) (n mb : Int32) (xs : List Int32) (fm : Value) (h0 : Heap) (n0 : Nat) (Z0 : n0 ≤ h0.size) (O0 : Old Z n0 h0) (S_FM : Sta Z Z.heap "jdk/internal/util/Preconditions" "SIOOBE_FORMATTER" "Ljava/util/function/BiFunction;" fm) (hfm : fm.isRef = true) (EB : Exa Z h0 a1 "java/lang/StringBuilder") (FV : Fld Z h0 a1 "java/lang/AbstractStringBuilder" "value" "[B" (.ref v1)) (FC : Fld Z h0 a1 "java/lang/AbstractStringBuilder" "coder" "B" (.int (0 : Int32))) (FN : Fld Z h0 a1 "java/lang/AbstractStringBuilder" "count" "I" (.int n)) (FM : Fld Z h0 a1 "java/lang/AbstractStringBuilder" "maybeLatin1" "Z" (.int mb)) (VA : Arv Z h0 v1 kA .byte 16 (own_vs xs) (.int (0 : Int32))) (hne : a1 ≠ v1) (gA : n0 ≤ a1) (gV : n0 ≤ v1) (hln : own_ln xs n) (hc0 : ¬ (xs.getD 0 0) < 0 ∧ ¬ (255 : Int32) < (xs.getD 0 0)) (hpos : (0 : Int32) < n) (hp2 : 0 < xs.length) :
    MetFree l mN_22 (head1 (Jvm.Cond.code mN_22 jdk_67_method_88_code 2 (some .char) :: ws) rO_14) (fun a U => a = #[(.ref a1), (.int (0 : Int32))] ∧ Z.Warmed39 U.vm ∧ U.heap = h0) (fun _ _ _ _ _ => True) (fun _ U o U' => ∃ v L, o = .returned v ∧ QSh Z a1 v1 kA n mb xs fm h0 n0 v U'.heap L ∧ FrameEnd U o U' L rO_14.cells rO_14.slots) := by
  refine MetFree.of_bodySF (plainFor_of_name pn_2) hisR ?_
  intro p e s m args below meth c s₁ Bd hml0 hP hK
  obtain ⟨rfl, hZ, hh⟩ := hP
  have hx := Bd.exec
  have hby := Bd.bytes
  have hml : c.maxLocals = 2 := hml0
  have hown : s.vm.findClass "java/lang/StringBuilder" = some m.cls := findClass_of_methodNamed Bd.named
  have hnm := (name_of_methodNamed Bd.named Bd.method).1
  have X0 : Stand p l e rO_14 s m #[(.ref a1), (.int (0 : Int32))] below meth c s₁ [] 0 0 := Stand.of_body Bd
  have e0 : s₁.heap = h0 := by rw [← hh, Bd.state]; rfl
  have N0 := Fr.nil n0
  have K0 := Keep.refl h0 []
  have go0 : Goes p e below s₁ (entryFrame m #[(.ref a1), (.int (0 : Int32))] 2) s₁ (mkF m 0 #[vR a1, vI (0 : Int32)] []) := fun t k => castTop (ef_rmSh m a1) k
  obtain ⟨_, _, ⟨T1, L1, k1, n1⟩, -, X1, ⟨Lc1, hQ1, l1, y1, z1⟩, st1⟩ := superBack X0 hx hZ (y := mN_21) hown (own_w hw 278 rfl) (own_sm (y := mN_21) (y' := mN_5) rfl (by decide) (own_w hw 279 rfl) (own_w hw 94 rfl)) (own_w hw 279 rfl) (own_w hw 73 rfl) (by decide) (backOf (W := 0) (rmAh l Z a0 hw [] a1 v1 kA n mb xs fm h0 n0 Z0 O0 S_FM hfm EB FV FC FN FM VA hne gA gV hln hc0 hpos hp2) hZ (own_w hw 281 rfl) (own_w hw 19 rfl) (by decide) (by decide)) e0 (Ins.self EB) (g := (mkF m 2 #[vR a1, vI (0 : Int32)] [(.int (0 : Int32)), (.ref a1)])) rfl (by rw [hml]; rfl) (own_w hw 281 rfl) (argsL := [(.int (0 : Int32))]) (rest := []) (lenOf pd_8 rfl) rfl (by show 2 * 0 + _ ≤ _; exact Nat.le_of_eq rfl) (hb hby d46_2) (fun _ _ => ⟨rfl, e0, (by decide : 0 + 0 ≤ rO_14.cells), (by decide : 0 + 0 ≤ rO_14.slots)⟩)
  dsimp only [Pt.U, Pt.locs, Pt.cells, Pt.slots] at X1 l1 y1 z1 st1 hQ1
  subst l1 y1 z1
  obtain ⟨rfl, N1q, e1⟩ := hQ1
  have N1 := Fr.app N0 N1q
  have go2 : Goes p e below s₁ (entryFrame m #[(.ref a1), (.int (0 : Int32))] 2) T1 (mkF m 5 #[vR a1, vI (0 : Int32)] [(.int (xs.getD 0 0))]) := fun t k => by
    refine go0 t ?_
    refine XS.aloadN X0.here hx rfl (hb hby d46_0) rfl rfl ?_
    refine XS.iloadN X0.here hx rfl (hb hby d46_1) rfl ?_
    refine st1.trans ?_
    exact k
  obtain ⟨fs, hr, hrun, hended, hW, hsame⟩ := X1.leave (v := some (.int (nar .char (xs.getD 0 0)))) (fun h => by rw [Bd.returns] at h; cases h)
  refine ⟨_, _, go2 _ ?_, hrun, hended, _, _, rfl, ?_, ⟨_, rfl⟩, hW, hsame.mono (by decide) (by decide)⟩
  · exact retN X1 hx (t := .char) Bd.returns (by simp) (hb hby d46_5) hr
  · show QSh Z _ _ _ _ _ _ _ _ _ _ T1.heap _
    rw [e1]
    exact ⟨congrArg (fun z => some (Value.int z)) (own_nc hc0), N1, rfl⟩
theorem d24_0 : dc24 0 (.iload_n 1) 1 := by decide +kernel
theorem d24_1 : dc24 1 (.iload_n 0) 1 := by decide +kernel
theorem d24_2 : dc24 2 (.if_icmp .ge 35) 3 := by decide +kernel
theorem d24_37 : dc24 37 (.return_) 1 := by decide +kernel
theorem pn_5 : plainName "java/util/Arrays" = true := by first | (simp [plainName, overriddenIn]; done) | decide +kernel
theorem ef_rmCk (m : MethodId) (n : Int32) : entryFrame m #[(.int (0 : Int32)), (.int n)] 2 = mkF m 0 #[.val (.int (0 : Int32)), .val (.int n)] [] := by first | (simp [entryFrame, mkF, argsToLocals, Value.category]; done) | rfl
def QCk (Z : State) (n : Int32) (h0 : Heap) (n0 : Nat) (v : Option Value) (h : Heap) (L : List Loc) : Prop := v = none ∧ Fr n0 L ∧ h = h0
set_option maxRecDepth 65536 in
set_option maxHeartbeats 40000000 in
theorem rmCk (l : Launch) (Z : State) (a0 : Array Value) (hw : ∀ d ∈ tables_1, d.before a0 Z = true) (ws : List Jvm.Cond) (n : Int32) (h0 : Heap) (n0 : Nat) (Z0 : n0 ≤ h0.size) (hn0 : ¬ n < 0) :
    MetFree l (⟨"java/util/Arrays", "checkLength", "(II)V"⟩ : MethodName) (head1 (Jvm.Cond.code (⟨"java/util/Arrays", "checkLength", "(II)V"⟩ : MethodName) jdk_65_method_131_code 2 none :: ws) rO_0) (fun a U => a = #[(.int (0 : Int32)), (.int n)] ∧ Z.Warmed39 U.vm ∧ U.heap = h0) (fun _ _ _ _ _ => True) (fun _ U o U' => ∃ v L, o = .returned v ∧ QCk Z n h0 n0 v U'.heap L ∧ FrameEnd U o U' L rO_0.cells rO_0.slots) := by
  refine MetFree.of_bodySF (plainFor_of_name pn_5) hisR ?_
  intro p e s m args below meth c s₁ Bd hml0 hP hK
  obtain ⟨rfl, hZ, hh⟩ := hP
  have hx := Bd.exec
  have hby := Bd.bytes
  have hml : c.maxLocals = 2 := hml0
  have hown : s.vm.findClass "java/util/Arrays" = some m.cls := findClass_of_methodNamed Bd.named
  have hnm := (name_of_methodNamed Bd.named Bd.method).1
  have X0 : Stand p l e rO_0 s m #[(.int (0 : Int32)), (.int n)] below meth c s₁ [] 0 0 := Stand.of_body Bd
  have e0 : s₁.heap = h0 := by rw [← hh, Bd.state]; rfl
  have N0 := Fr.nil n0
  have K0 := Keep.refl h0 []
  have go0 : Goes p e below s₁ (entryFrame m #[(.int (0 : Int32)), (.int n)] 2) s₁ (mkF m 0 #[vI (0 : Int32), vI n] []) := fun t k => castTop (ef_rmCk m n) k
  have go1 : Goes p e below s₁ (entryFrame m #[(.int (0 : Int32)), (.int n)] 2) s₁ (mkF m 37 #[vI (0 : Int32), vI n] []) := fun t k => by
    refine go0 t ?_
    refine XS.iloadN X0.here hx rfl (hb hby d24_0) rfl ?_
    refine XS.iloadN X0.here hx rfl (hb hby d24_1) rfl ?_
    refine XS.icmpYes X0.here hx rfl (pc0 := 2) (pc' := 37) rfl (hb hby d24_2) rfl (Jvm.Free.XT.ii_ge_t hn0) (by decide) (by decide) ?_
    exact k
  obtain ⟨fs, hr, hrun, hended, hW, hsame⟩ := X0.leave (v := none) (fun _ => rfl)
  refine ⟨_, _, go1 _ ?_, hrun, hended, _, _, rfl, ?_, ⟨_, rfl⟩, hW, hsame.mono (by decide) (by decide)⟩
  · exact X0.returnOut hx Bd.returns (hb hby d24_37) hr
  · show QCk Z _ _ _ _ s₁.heap _
    rw [e0]
    exact ⟨rfl, N0, rfl⟩
theorem d23_0 : dc23 0 (.iload_n 1) 1 := by decide +kernel
theorem d23_1 : dc23 1 (.iload_n 2) 1 := by decide +kernel
theorem d23_2 : dc23 2 (.invokestatic 343) 3 := by decide +kernel
theorem d23_5 : dc23 5 (.iload_n 2) 1 := by decide +kernel
theorem d23_6 : dc23 6 (.iload_n 1) 1 := by decide +kernel
theorem d23_7 : dc23 7 (.isub) 1 := by decide +kernel
theorem d23_8 : dc23 8 (.istore_n 3) 1 := by decide +kernel
theorem d23_9 : dc23 9 (.iload_n 3) 1 := by decide +kernel
theorem d23_10 : dc23 10 (.newarray .byte) 2 := by decide +kernel
theorem d23_12 : dc23 12 (.astore 4) 2 := by decide +kernel
theorem d23_14 : dc23 14 (.aload_n 0) 1 := by decide +kernel
theorem d23_15 : dc23 15 (.iload_n 1) 1 := by decide +kernel
theorem d23_16 : dc23 16 (.aload 4) 2 := by decide +kernel
theorem d23_18 : dc23 18 (.iconst 0) 1 := by decide +kernel
theorem d23_19 : dc23 19 (.aload_n 0) 1 := by decide +kernel
theorem d23_20 : dc23 20 (.arraylength) 1 := by decide +kernel
theorem d23_21 : dc23 21 (.iload_n 1) 1 := by decide +kernel
theorem d23_22 : dc23 22 (.isub) 1 := by decide +kernel
theorem d23_23 : dc23 23 (.iload_n 3) 1 := by decide +kernel
theorem d23_24 : dc23 24 (.invokestatic 304) 3 := by decide +kernel
theorem d23_27 : dc23 27 (.invokestatic 150) 3 := by decide +kernel
theorem d23_30 : dc23 30 (.aload 4) 2 := by decide +kernel
theorem d23_32 : dc23 32 (.areturn) 1 := by decide +kernel
theorem ef_rmCb (m : MethodId) (a1 : Addr) (n : Int32) : entryFrame m #[(.ref a1), (.int (0 : Int32)), (.int n)] 5 = mkF m 0 #[.val (.ref a1), .val (.int (0 : Int32)), .val (.int n), .unset, .unset] [] := by first | (simp [entryFrame, mkF, argsToLocals, Value.category]; done) | rfl
def QCb (Z : State) (a1 : Addr) (n : Int32) (kA : ClassId) (xs : List Int32) (h0 : Heap) (n0 : Nat) (v : Option Value) (h : Heap) (L : List Loc) : Prop := ∃ (b : Addr) (kb : ClassId), v = some (.ref b) ∧ Fr n0 L ∧ Keep h0 h [] ∧ n0 ≤ b ∧ h0.size ≤ b ∧ Arv Z h b kb .byte n (own_vs xs) (.int (0 : Int32))
set_option maxRecDepth 65536 in
set_option maxHeartbeats 40000000 in
theorem rmCb (l : Launch) (Z : State) (a0 : Array Value) (hw : ∀ d ∈ tables_1, d.before a0 Z = true) (ws : List Jvm.Cond) (a1 : Addr) (n : Int32) (kA : ClassId) (xs : List Int32) (h0 : Heap) (n0 : Nat) (Z0 : n0 ≤ h0.size) (VA : Arv Z h0 a1 kA .byte 16 (own_vs xs) (.int (0 : Int32))) (hln : own_ln xs n) :
    MetFree l (⟨"java/util/Arrays", "copyOfRangeByte", "([BII)[B"⟩ : MethodName) (head1 (Jvm.Cond.code (⟨"java/util/Arrays", "copyOfRangeByte", "([BII)[B"⟩ : MethodName) jdk_65_method_133_code 5 (some (.array .byte)) :: ws) rO_5) (fun a U => a = #[(.ref a1), (.int (0 : Int32)), (.int n)] ∧ Z.Warmed39 U.vm ∧ U.heap = h0) (fun _ _ _ _ _ => True) (fun _ U o U' => ∃ v L, o = .returned v ∧ QCb Z a1 n kA xs h0 n0 v U'.heap L ∧ FrameEnd U o U' L rO_5.cells rO_5.slots) := by
  refine MetFree.of_bodySF (plainFor_of_name pn_5) hisR ?_
  intro p e s m args below meth c s₁ Bd hml0 hP hK
  obtain ⟨rfl, hZ, hh⟩ := hP
  have hx := Bd.exec
  have hby := Bd.bytes
  have hml : c.maxLocals = 5 := hml0
  have hown : s.vm.findClass "java/util/Arrays" = some m.cls := findClass_of_methodNamed Bd.named
  have hnm := (name_of_methodNamed Bd.named Bd.method).1
  have X0 : Stand p l e rO_5 s m #[(.ref a1), (.int (0 : Int32)), (.int n)] below meth c s₁ [] 0 0 := Stand.of_body Bd
  have e0 : s₁.heap = h0 := by rw [← hh, Bd.state]; rfl
  have N0 := Fr.nil n0
  have K0 := Keep.refl h0 []
  have go0 : Goes p e below s₁ (entryFrame m #[(.ref a1), (.int (0 : Int32)), (.int n)] 5) s₁ (mkF m 0 #[vR a1, vI (0 : Int32), vI n, .unset, .unset] []) := fun t k => castTop (ef_rmCb m a1 n) k
  obtain ⟨_, _, ⟨T1, L1, k1, n1⟩, -, X1, ⟨Lc1, hQ1, l1, y1, z1⟩, st1⟩ := Jvm.LawKit.callS X0 hx (y := (⟨"java/util/Arrays", "checkLength", "(II)V"⟩ : MethodName)) hown (mvT hZ (own_w hw 159 rfl)) (mvT hZ (own_w hw 160 rfl)) (mvT hZ (own_w hw 154 rfl)) (mvT hZ (own_w hw 161 rfl)) (by decide) (backOf (W := 0) (rmCk l Z a0 hw [] n h0 n0 Z0 hln.nn) hZ (own_w hw 161 rfl) (own_w hw 154 rfl) (by decide) (by decide)) (g := (mkF m 2 #[vR a1, vI (0 : Int32), vI n, .unset, .unset] [(.int n), (.int (0 : Int32))])) rfl (by rw [hml]; rfl) (argsL := [(.int (0 : Int32)), (.int n)]) (rest := []) (lenOf pd_7 rfl) rfl (by show 2 * 0 + _ ≤ _; exact Nat.le_of_eq rfl) (hb hby d23_2) (fun _ _ => ⟨rfl, e0, (by decide : 0 + 0 ≤ rO_5.cells), (by decide : 0 + 0 ≤ rO_5.slots)⟩)
  dsimp only [Pt.U, Pt.locs, Pt.cells, Pt.slots] at X1 l1 y1 z1 st1 hQ1
  subst l1 y1 z1
  obtain ⟨rfl, N1q, e1⟩ := hQ1
  have N1 := Fr.app N0 N1q
  have go2 : Goes p e below s₁ (entryFrame m #[(.ref a1), (.int (0 : Int32)), (.int n)] 5) T1 (mkF m 8 #[vR a1, vI (0 : Int32), vI n, .unset, .unset] [(.int (n - (0 : Int32)))]) := fun t k => by
    refine go0 t ?_
    refine XS.iloadN X0.here hx rfl (hb hby d23_0) rfl ?_
    refine XS.iloadN X0.here hx rfl (hb hby d23_1) rfl ?_
    refine st1 t ?_
    refine XS.iloadN X1.here hx rfl (hb hby d23_5) rfl ?_
    refine XS.iloadN X1.here hx rfl (hb hby d23_6) rfl ?_
    refine XS.isub X1.here hx rfl (hb hby d23_7) rfl ?_
    exact k
  have go3 : Goes p e below s₁ (entryFrame m #[(.ref a1), (.int (0 : Int32)), (.int n)] 5) T1 (mkF m 8 #[vR a1, vI (0 : Int32), vI n, .unset, .unset] [(.int n)]) := Eq.mp (congrArg (fun zz => Goes p e below s₁ (entryFrame m #[(.ref a1), (.int (0 : Int32)), (.int n)] 5) T1 (mkF m 8 #[vR a1, vI (0 : Int32), vI n, .unset, .unset] [(.int zz)])) (Int32.sub_zero n)) go2
  obtain ⟨T4, h4, k4, X4, e4, E4, A4, st4⟩ := newP X1 hx hZ (own_w hw 24 rfl) e1 (g := (mkF m 10 #[vR a1, vI (0 : Int32), vI n, vI n, .unset] [(.int n)])) rfl (hb hby d23_10) rfl hln.nn (cap := 12) (by rw [hln.nat]; exact Nat.le_of_lt hln.2) (by decide) (by decide) (by decide)
  obtain ⟨b4, g_b_b4⟩ : ∃ z, z = h0.size := ⟨_, rfl⟩
  have le_b4 : h0.size ≤ b4 := Nat.le_of_eq g_b_b4.symm
  have gn_b4 : n0 ≤ b4 := Nat.le_trans Z0 le_b4
  have sz_b4 : h0.size ≤ b4 := Nat.le_trans K0.1 le_b4
  rw [← g_b_b4] at A4 st4
  have f5 := VA.ext E4
  have Z6 := Nat.le_trans Z0 E4.1
  have K7 := K0.ext E4
  have V8 : Arv Z h4 b4 k4 .byte n [] (.int (0 : Int32)) := Arv.new A4 hln.nn
  obtain ⟨cl9, Ar9, kq9, Sz9, Nn9, Hs9, Gf9⟩ := id (f5)
  obtain ⟨_, _, ⟨T10, L10, k10, n10⟩, -, X10, ⟨Lc10, hQ10, l10, y10, z10⟩, st10⟩ := Jvm.LawKit.callS X4 hx (y := mN_19) hown (mvT hZ (own_w hw 162 rfl)) (mvT hZ (own_w hw 163 rfl)) (mvT hZ (own_w hw 164 rfl)) (mvT hZ (own_w hw 165 rfl)) (by decide) (backOf (W := 4) (rmMn l Z a0 hw [] (16 : Int32) n h4 n0 Z6) hZ (own_w hw 165 rfl) (own_w hw 164 rfl) (by decide) (by decide)) (g := (mkF m 24 #[vR a1, vI (0 : Int32), vI n, vI n, vR b4] [(.int n), (.int (16 : Int32)), (.int (0 : Int32)), (.ref b4), (.int (0 : Int32)), (.ref a1)])) rfl (by rw [hml]; rfl) (argsL := [(.int (16 : Int32)), (.int n)]) (rest := [(.int (0 : Int32)), (.ref b4), (.int (0 : Int32)), (.ref a1)]) (lenOf pd_6 rfl) rfl (by show 2 * 0 + _ ≤ _; exact Nat.le_of_eq rfl) (hb hby d23_24) (fun _ _ => ⟨rfl, e4, (by decide : 1 + 0 ≤ rO_5.cells), (by decide : 12 + 0 ≤ rO_5.slots)⟩)
  dsimp only [Pt.U, Pt.locs, Pt.cells, Pt.slots] at X10 l10 y10 z10 st10 hQ10
  subst l10 y10 z10
  obtain ⟨rfl, N10q, e10⟩ := hQ10
  have N10 := Fr.app N1 N10q
  have go11 : Goes p e below s₁ (entryFrame m #[(.ref a1), (.int (0 : Int32)), (.int n)] 5) T10 (mkF m 27 #[vR a1, vI (0 : Int32), vI n, vI n, vR b4] [(.int (if n < (16 : Int32) then n else (16 : Int32))), (.int (0 : Int32)), (.ref b4), (.int (0 : Int32)), (.ref a1)]) := fun t k => by
    refine go3 t ?_
    refine XS.istoreN X1.here hx rfl (hb hby d23_8) rfl (l' := #[vR a1, vI (0 : Int32), vI n, vI n, .unset]) rfl ?_
    refine XS.iloadN X1.here hx rfl (hb hby d23_9) rfl ?_
    refine st4 t ?_
    refine XS.astore X4.here hx rfl (hb hby d23_12) rfl rfl (l' := #[vR a1, vI (0 : Int32), vI n, vI n, vR b4]) rfl ?_
    refine XS.aloadN X4.here hx rfl (hb hby d23_14) rfl rfl ?_
    refine XS.iloadN X4.here hx rfl (hb hby d23_15) rfl ?_
    show Steps p.tables e below (T4.setTop (mkF m 16 #[vR a1, vI (0 : Int32), vI n, vI n, vR b4] [(.int (0 : Int32)), (.ref a1)])) _
    refine XS.aload X4.here hx rfl (hb hby d23_16) rfl rfl ?_
    refine XS.iconst X4.here hx rfl (hb hby d23_18) ?_
    refine XS.aloadN X4.here hx rfl (hb hby d23_19) rfl rfl ?_
    refine X4.arraylength hx (own_hp e4 Ar9.1) (State.isArrayOf_alike hZ.alike Ar9.2.1) (g := (mkF m 20 #[vR a1, vI (0 : Int32), vI n, vI n, vR b4] [(.ref a1), (.int (0 : Int32)), (.ref b4), (.int (0 : Int32)), (.ref a1)])) rfl rfl (hb hby d23_20) _ ?_
    rw [len_of Sz9 Nn9]
    refine XS.iloadN X4.here hx rfl (hb hby d23_21) rfl ?_
    refine XS.isub X4.here hx rfl (hb hby d23_22) rfl ?_
    show Steps p.tables e below (T4.setTop (mkF m 23 #[vR a1, vI (0 : Int32), vI n, vI n, vR b4] [(.int (16 : Int32)), (.int (0 : Int32)), (.ref b4), (.int (0 : Int32)), (.ref a1)])) _
    refine XS.iloadN X4.here hx rfl (hb hby d23_23) rfl ?_
    refine st10 t ?_
    exact k
  have go12 : Goes p e below s₁ (entryFrame m #[(.ref a1), (.int (0 : Int32)), (.int n)] 5) T10 (mkF m 27 #[vR a1, vI (0 : Int32), vI n, vI n, vR b4] [(.int n), (.int (0 : Int32)), (.ref b4), (.int (0 : Int32)), (.ref a1)]) := Eq.mp (congrArg (fun zz => Goes p e below s₁ (entryFrame m #[(.ref a1), (.int (0 : Int32)), (.int n)] 5) T10 (mkF m 27 #[vR a1, vI (0 : Int32), vI n, vI n, vR b4] [(.int zz), (.int (0 : Int32)), (.ref b4), (.int (0 : Int32)), (.ref a1)])) (if_pos hln.lt)) go11
  obtain ⟨T13, h13, L13, X13, e13, N13, K13, Vc13, st13⟩ := cpA X10 hx hZ hown (own_w hw 166 rfl) (own_w hw 169 rfl) (own_w hw 167 rfl) (own_w hw 168 rfl) e10 (sp := (0 : Int32)) (dp := (0 : Int32)) (nn := n) f5 (Arv.pad (vs' := List.replicate n.toNatClampNeg (.int (0 : Int32))) (V8) (own_rep _ _)) (Or.inl ⟨rfl, rfl⟩) (by decide) (by decide) hln.nn (by show 0 + n.toNatClampNeg ≤ 16; rw [hln.nat]; have := hln.2; omega) (by show 0 + n.toNatClampNeg ≤ n.toNatClampNeg; omega) rfl (by show 0 + n.toNatClampNeg ≤ _; simp) N10 gn_b4 (g := (mkF m 27 #[vR a1, vI (0 : Int32), vI n, vI n, vR b4] [(.int n), (.int (0 : Int32)), (.ref b4), (.int (0 : Int32)), (.ref a1)])) rfl (by rw [hml]; rfl) (rest := []) rfl (hb hby d23_27) (by decide) (W := 0) (by show 2 * 0 + _ ≤ _; exact Nat.le_of_eq rfl) (by decide)
  have Vd13 : Arv Z h13 b4 k4 .byte n (own_vs xs) (.int (0 : Int32)) := own_rm (L := own_vs xs) (d := (.int (0 : Int32))) (k := n.toNatClampNeg) (n := n.toNatClampNeg) (hln.nat.trans (own_vs_len xs).symm) rfl ▸ Vc13
  have f14 := f5.keep K13 (ninS (Nat.ne_of_lt (Nat.lt_of_lt_of_le VA.lt le_b4)) nin0)
  have Z15 := Nat.le_trans Z6 K13.1
  have K16 := K7.trans K13 (allS (Or.inr sz_b4) all0)
  have go17 : Goes p e below s₁ (entryFrame m #[(.ref a1), (.int (0 : Int32)), (.int n)] 5) T13 (mkF m 32 #[vR a1, vI (0 : Int32), vI n, vI n, vR b4] [(.ref b4)]) := fun t k => by
    refine go12 t ?_
    refine st13 t ?_
    refine XS.aload X13.here hx rfl (hb hby d23_30) rfl rfl ?_
    exact k
  obtain ⟨fs, hr, hrun, hended, hW, hsame⟩ := X13.leave (v := some (.ref b4)) (fun h => by rw [Bd.returns] at h; cases h)
  refine ⟨_, _, go17 _ ?_, hrun, hended, _, _, rfl, ?_, ⟨_, rfl⟩, hW, hsame.mono (by decide) (by decide)⟩
  · jvm_step X13.here [X13.here.top, hx, (hb hby d23_32), X13.method', Bd.returns, Value.isRef, FieldType.isReference]
    first | (intro acts; rw [hr _ acts rfl rfl rfl]) | rw [hr _ _ rfl rfl rfl]
    exact Steps.refl _
  · show QCb Z _ _ _ _ _ _ _ T13.heap _
    rw [e13]
    exact ⟨b4, _, rfl, N13, K16, gn_b4, sz_b4, Vd13⟩
theorem pd_9 : parseMethodDescriptor "([BII)[B" = some ⟨[(.array .byte), .int, .int], some (.array .byte)⟩ := by decide +kernel
theorem d22_0 : dc22 0 (.iload_n 1) 1 := by decide +kernel
theorem d22_1 : dc22 1 (.ifCond .ne 9) 3 := by decide +kernel
theorem d22_4 : dc22 4 (.iload_n 2) 1 := by decide +kernel
theorem d22_5 : dc22 5 (.aload_n 0) 1 := by decide +kernel
theorem d22_6 : dc22 6 (.arraylength) 1 := by decide +kernel
theorem d22_7 : dc22 7 (.if_icmp .eq 10) 3 := by decide +kernel
theorem d22_10 : dc22 10 (.aload_n 0) 1 := by decide +kernel
theorem d22_11 : dc22 11 (.iload_n 1) 1 := by decide +kernel
theorem d22_12 : dc22 12 (.iload_n 2) 1 := by decide +kernel
theorem d22_13 : dc22 13 (.invokestatic 339) 3 := by decide +kernel
theorem d22_16 : dc22 16 (.areturn) 1 := by decide +kernel
theorem ef_rmCr (m : MethodId) (a1 : Addr) (n : Int32) : entryFrame m #[(.ref a1), (.int (0 : Int32)), (.int n)] 3 = mkF m 0 #[.val (.ref a1), .val (.int (0 : Int32)), .val (.int n)] [] := by first | (simp [entryFrame, mkF, argsToLocals, Value.category]; done) | rfl
def QCr (Z : State) (a1 : Addr) (n : Int32) (kA : ClassId) (xs : List Int32) (h0 : Heap) (n0 : Nat) (v : Option Value) (h : Heap) (L : List Loc) : Prop := ∃ (b : Addr) (kb : ClassId), v = some (.ref b) ∧ Fr n0 L ∧ Keep h0 h [] ∧ n0 ≤ b ∧ h0.size ≤ b ∧ Arv Z h b kb .byte n (own_vs xs) (.int (0 : Int32))
set_option maxRecDepth 65536 in
set_option maxHeartbeats 40000000 in
theorem rmCr (l : Launch) (Z : State) (a0 : Array Value) (hw : ∀ d ∈ tables_1, d.before a0 Z = true) (ws : List Jvm.Cond) (a1 : Addr) (n : Int32) (kA : ClassId) (xs : List Int32) (h0 : Heap) (n0 : Nat) (Z0 : n0 ≤ h0.size) (VA : Arv Z h0 a1 kA .byte 16 (own_vs xs) (.int (0 : Int32))) (hln : own_ln xs n) :
    MetFree l (⟨"java/util/Arrays", "copyOfRange", "([BII)[B"⟩ : MethodName) (head1 (Jvm.Cond.code (⟨"java/util/Arrays", "copyOfRange", "([BII)[B"⟩ : MethodName) jdk_65_method_132_code 3 (some (.array .byte)) :: ws) rO_11) (fun a U => a = #[(.ref a1), (.int (0 : Int32)), (.int n)] ∧ Z.Warmed39 U.vm ∧ U.heap = h0) (fun _ _ _ _ _ => True) (fun _ U o U' => ∃ v L, o = .returned v ∧ QCr Z a1 n kA xs h0 n0 v U'.heap L ∧ FrameEnd U o U' L rO_11.cells rO_11.slots) := by
  refine MetFree.of_bodySF (plainFor_of_name pn_5) hisR ?_
  intro p e s m args below meth c s₁ Bd hml0 hP hK
  obtain ⟨rfl, hZ, hh⟩ := hP
  have hx := Bd.exec
  have hby := Bd.bytes
  have hml : c.maxLocals = 3 := hml0
  have hown : s.vm.findClass "java/util/Arrays" = some m.cls := findClass_of_methodNamed Bd.named
  have hnm := (name_of_methodNamed Bd.named Bd.method).1
  have X0 : Stand p l e rO_11 s m #[(.ref a1), (.int (0 : Int32)), (.int n)] below meth c s₁ [] 0 0 := Stand.of_body Bd
  have e0 : s₁.heap = h0 := by rw [← hh, Bd.state]; rfl
  have N0 := Fr.nil n0
  have K0 := Keep.refl h0 []
  have go0 : Goes p e below s₁ (entryFrame m #[(.ref a1), (.int (0 : Int32)), (.int n)] 3) s₁ (mkF m 0 #[vR a1, vI (0 : Int32), vI n] []) := fun t k => castTop (ef_rmCr m a1 n) k
  obtain ⟨cl1, Ar1, kq1, Sz1, Nn1, Hs1, Gf1⟩ := id (VA)
  obtain ⟨_, _, ⟨T2, L2, k2, n2⟩, -, X2, ⟨Lc2, hQ2, l2, y2, z2⟩, st2⟩ := Jvm.LawKit.callS X0 hx (y := (⟨"java/util/Arrays", "copyOfRangeByte", "([BII)[B"⟩ : MethodName)) hown (mvT hZ (own_w hw 156 rfl)) (mvT hZ (own_w hw 157 rfl)) (mvT hZ (own_w hw 154 rfl)) (mvT hZ (own_w hw 158 rfl)) (by decide) (backOf (W := 0) (rmCb l Z a0 hw [] a1 n kA xs h0 n0 Z0 VA hln) hZ (own_w hw 158 rfl) (own_w hw 154 rfl) (by decide) (by decide)) (g := (mkF m 13 #[vR a1, vI (0 : Int32), vI n] [(.int n), (.int (0 : Int32)), (.ref a1)])) rfl (by rw [hml]; rfl) (argsL := [(.ref a1), (.int (0 : Int32)), (.int n)]) (rest := []) (lenOf pd_9 rfl) rfl (by show 2 * 0 + _ ≤ _; exact Nat.le_of_eq rfl) (hb hby d22_13) (fun _ _ => ⟨rfl, e0, (by decide : 0 + 1 ≤ rO_11.cells), (by decide : 0 + 12 ≤ rO_11.slots)⟩)
  dsimp only [Pt.U, Pt.locs, Pt.cells, Pt.slots] at X2 l2 y2 z2 st2 hQ2
  subst l2 y2 z2
  obtain ⟨bb2, kk2, rfl, N2q, Kq2, gq2, leq2, Vq2⟩ := hQ2
  have N2 := Fr.app N0 N2q
  have le_bb2 := leq2
  have gn_bb2 : n0 ≤ bb2 := Nat.le_trans Z0 le_bb2
  have sz_bb2 : h0.size ≤ bb2 := Nat.le_trans K0.1 le_bb2
  have f3 := VA.keep Kq2 nin0
  have Z4 := Nat.le_trans Z0 Kq2.1
  have K5 := K0.trans Kq2 all0
  have go6 : Goes p e below s₁ (entryFrame m #[(.ref a1), (.int (0 : Int32)), (.int n)] 3) T2 (mkF m 16 #[vR a1, vI (0 : Int32), vI n] [(.ref bb2)]) := fun t k => by
    refine go0 t ?_
    refine XS.iloadN X0.here hx rfl (hb hby d22_0) rfl ?_
    refine XS.ifNo X0.here hx rfl (hb hby d22_1) rfl (Jvm.Free.XT.i0_ne_f (by decide)) ?_
    refine XS.iloadN X0.here hx rfl (hb hby d22_4) rfl ?_
    refine XS.aloadN X0.here hx rfl (hb hby d22_5) rfl rfl ?_
    refine X0.arraylength hx (own_hp e0 Ar1.1) (State.isArrayOf_alike hZ.alike Ar1.2.1) (g := (mkF m 6 #[vR a1, vI (0 : Int32), vI n] [(.ref a1), (.int n)])) rfl rfl (hb hby d22_6) _ ?_
    rw [len_of Sz1 Nn1]
    refine XS.icmpNo X0.here hx rfl (hb hby d22_7) rfl (Jvm.Free.XT.ii_eq_f (own_ne16 hln)) ?_
    show Steps p.tables e below (s₁.setTop (mkF m 10 #[vR a1, vI (0 : Int32), vI n] [])) _
    refine XS.aloadN X0.here hx rfl (hb hby d22_10) rfl rfl ?_
    refine XS.iloadN X0.here hx rfl (hb hby d22_11) rfl ?_
    refine XS.iloadN X0.here hx rfl (hb hby d22_12) rfl ?_
    refine st2 t ?_
    exact k
  obtain ⟨fs, hr, hrun, hended, hW, hsame⟩ := X2.leave (v := some (.ref bb2)) (fun h => by rw [Bd.returns] at h; cases h)
  refine ⟨_, _, go6 _ ?_, hrun, hended, _, _, rfl, ?_, ⟨_, rfl⟩, hW, hsame.mono (by decide) (by decide)⟩
  · jvm_step X2.here [X2.here.top, hx, (hb hby d22_16), X2.method', Bd.returns, Value.isRef, FieldType.isReference]
    first | (intro acts; rw [hr _ acts rfl rfl rfl]) | rw [hr _ _ rfl rfl rfl]
    exact Steps.refl _
  · show QCr Z _ _ _ _ _ _ _ T2.heap _
    exact ⟨bb2, _, rfl, N2, K5, gn_bb2, sz_bb2, Vq2⟩
theorem d20_0 : dc20 0 (.aload_n 0) 1 := by decide +kernel
theorem d20_1 : dc20 1 (.getfield 15) 3 := by decide +kernel
theorem d20_4 : dc20 4 (.areturn) 1 := by decide +kernel
theorem ef_rmGv (m : MethodId) (a1 : Addr) : entryFrame m #[(.ref a1)] 1 = mkF m 0 #[.val (.ref a1)] [] := by first | (simp [entryFrame, mkF, argsToLocals, Value.category]; done) | rfl
def QGv (Z : State) (a1 : Addr) (v1 : Addr) (h0 : Heap) (n0 : Nat) (v : Option Value) (h : Heap) (L : List Loc) : Prop := v = some (.ref v1) ∧ Fr n0 L ∧ h = h0
set_option maxRecDepth 65536 in
set_option maxHeartbeats 40000000 in
theorem rmGv (l : Launch) (Z : State) (a0 : Array Value) (hw : ∀ d ∈ tables_1, d.before a0 Z = true) (ws : List Jvm.Cond) (a1 : Addr) (v1 : Addr) (h0 : Heap) (n0 : Nat) (Z0 : n0 ≤ h0.size) (FV : Fld Z h0 a1 "java/lang/AbstractStringBuilder" "value" "[B" (.ref v1)) :
    MetFree l mN_23 (head1 (Jvm.Cond.code mN_23 jdk_68_method_64_code 1 (some (.array .byte)) :: ws) rO_0) (fun a U => a = #[(.ref a1)] ∧ Z.Warmed39 U.vm ∧ U.heap = h0) (fun _ _ _ _ _ => True) (fun _ U o U' => ∃ v L, o = .returned v ∧ QGv Z a1 v1 h0 n0 v U'.heap L ∧ FrameEnd U o U' L rO_0.cells rO_0.slots) := by
  refine MetFree.of_bodySF (plainFor_of_name pn_0) hisR ?_
  intro p e s m args below meth c s₁ Bd hml0 hP hK
  obtain ⟨rfl, hZ, hh⟩ := hP
  have hx := Bd.exec
  have hby := Bd.bytes
  have hml : c.maxLocals = 1 := hml0
  have hown : s.vm.findClass "java/lang/AbstractStringBuilder" = some m.cls := findClass_of_methodNamed Bd.named
  have hnm := (name_of_methodNamed Bd.named Bd.method).1
  have X0 : Stand p l e rO_0 s m #[(.ref a1)] below meth c s₁ [] 0 0 := Stand.of_body Bd
  have e0 : s₁.heap = h0 := by rw [← hh, Bd.state]; rfl
  have N0 := Fr.nil n0
  have K0 := Keep.refl h0 []
  have go0 : Goes p e below s₁ (entryFrame m #[(.ref a1)] 1) s₁ (mkF m 0 #[vR a1] []) := fun t k => castTop (ef_rmGv m a1) k
  obtain ⟨T1, X1, e1, st1⟩ := getF X0 hx hZ hown (host := "") (Or.inl (own_w hw 25 rfl)) Via.refl e0 FV (g := (mkF m 1 #[vR a1] [(.ref a1)])) rfl rfl (hb hby d20_1)
  have go2 : Goes p e below s₁ (entryFrame m #[(.ref a1)] 1) T1 (mkF m 4 #[vR a1] [(.ref v1)]) := fun t k => by
    refine go0 t ?_
    refine XS.aloadN X0.here hx rfl (hb hby d20_0) rfl rfl ?_
    refine st1 t ?_
    exact k
  obtain ⟨fs, hr, hrun, hended, hW, hsame⟩ := X1.leave (v := some (.ref v1)) (fun h => by rw [Bd.returns] at h; cases h)
  refine ⟨_, _, go2 _ ?_, hrun, hended, _, _, rfl, ?_, ⟨_, rfl⟩, hW, hsame.mono (by decide) (by decide)⟩
  · jvm_step X1.here [X1.here.top, hx, (hb hby d20_4), X1.method', Bd.returns, Value.isRef, FieldType.isReference]
    first | (intro acts; rw [hr _ acts rfl rfl rfl]) | rw [hr _ _ rfl rfl rfl]
    exact Steps.refl _
  · show QGv Z _ _ _ _ _ T1.heap _
    rw [e1]
    exact ⟨rfl, N0, rfl⟩
theorem pd_10 : parseMethodDescriptor "()[B" = some ⟨[], some (.array .byte)⟩ := by decide +kernel
theorem d19_0 : dc19 0 (.aload_n 0) 1 := by decide +kernel
theorem d19_1 : dc19 1 (.invokespecial 1) 3 := by decide +kernel
theorem d19_4 : dc19 4 (.aload_n 1) 1 := by decide +kernel
theorem d19_5 : dc19 5 (.invokevirtual 552) 3 := by decide +kernel
theorem d19_8 : dc19 8 (.astore_n 3) 1 := by decide +kernel
theorem d19_9 : dc19 9 (.aload_n 1) 1 := by decide +kernel
theorem d19_10 : dc19 10 (.invokevirtual 549) 3 := by decide +kernel
theorem d19_13 : dc19 13 (.istore 4) 2 := by decide +kernel
theorem d19_15 : dc19 15 (.aload_n 1) 1 := by decide +kernel
theorem d19_16 : dc19 16 (.invokevirtual 1047) 3 := by decide +kernel
theorem d19_19 : dc19 19 (.ifCond .eq 22) 3 := by decide +kernel
theorem d19_22 : dc19 22 (.aload_n 0) 1 := by decide +kernel
theorem d19_23 : dc19 23 (.iconst 0) 1 := by decide +kernel
theorem d19_24 : dc19 24 (.putfield 15) 3 := by decide +kernel
theorem d19_27 : dc19 27 (.aload_n 0) 1 := by decide +kernel
theorem d19_28 : dc19 28 (.aload_n 3) 1 := by decide +kernel
theorem d19_29 : dc19 29 (.iconst 0) 1 := by decide +kernel
theorem d19_30 : dc19 30 (.iload 4) 2 := by decide +kernel
theorem d19_32 : dc19 32 (.invokestatic 54) 3 := by decide +kernel
theorem d19_35 : dc19 35 (.putfield 9) 3 := by decide +kernel
theorem d19_38 : dc19 38 (.goto 59) 3 := by decide +kernel
theorem d19_97 : dc19 97 (.return_) 1 := by decide +kernel
theorem ef_rmT2 (m : MethodId) (a2 : Addr) (a1 : Addr) : entryFrame m #[(.ref a2), (.ref a1), .null] 5 = mkF m 0 #[.val (.ref a2), .val (.ref a1), .val .null, .unset, .unset] [] := by first | (simp [entryFrame, mkF, argsToLocals, Value.category]; done) | rfl
def QT2 (Z : State) (a2 : Addr) (a1 : Addr) (v1 : Addr) (kA : ClassId) (n mb : Int32) (xs : List Int32) (cs : Int32) (h0 : Heap) (n0 : Nat) (v : Option Value) (h : Heap) (L : List Loc) : Prop := v = none ∧ Fr n0 L ∧ Keep h0 h [a2] ∧ Exa Z h a2 "java/lang/String" ∧ Fld Z h a2 "java/lang/String" "coder" "B" (.int (0 : Int32)) ∧ ∃ (b : Addr) (kb : ClassId), n0 ≤ b ∧ h0.size ≤ b ∧ Fld Z h a2 "java/lang/String" "value" "[B" (.ref b) ∧ Arv Z h b kb .byte n (own_vs xs) (.int (0 : Int32))
set_option maxRecDepth 65536 in
set_option maxHeartbeats 40000000 in
theorem rmT2 (l : Launch) (Z : State) (a0 : Array Value) (hw : ∀ d ∈ tables_1, d.before a0 Z = true) (ws : List Jvm.Cond) (a2 : Addr) (a1 : Addr) (v1 : Addr) (kA : ClassId) (n mb : Int32) (xs : List Int32) (cs : Int32) (h0 : Heap) (n0 : Nat) (Z0 : n0 ≤ h0.size) (O0 : Old Z n0 h0) (S_CS : Sta Z Z.heap "java/lang/String" "COMPACT_STRINGS" "Z" (.int cs)) (hcs : ¬ cs = 0) (EB : Exa Z h0 a1 "java/lang/StringBuilder") (FV : Fld Z h0 a1 "java/lang/AbstractStringBuilder" "value" "[B" (.ref v1)) (FC : Fld Z h0 a1 "java/lang/AbstractStringBuilder" "coder" "B" (.int (0 : Int32))) (FN : Fld Z h0 a1 "java/lang/AbstractStringBuilder" "count" "I" (.int n)) (FM : Fld Z h0 a1 "java/lang/AbstractStringBuilder" "maybeLatin1" "Z" (.int mb)) (VA : Arv Z h0 v1 kA .byte 16 (own_vs xs) (.int (0 : Int32))) (hne : a1 ≠ v1) (gA : n0 ≤ a1) (gV : n0 ≤ v1) (hln : own_ln xs n) (ES : Exa Z h0 a2 "java/lang/String") (SV : Fld Z h0 a2 "java/lang/String" "value" "[B" .null) (SCo : Fld Z h0 a2 "java/lang/String" "coder" "B" (.int (0 : Int32))) (gS : n0 ≤ a2) :
    MetFree l (⟨"java/lang/String", "<init>", "(Ljava/lang/AbstractStringBuilder;Ljava/lang/Void;)V"⟩ : MethodName) (head1 (Jvm.Cond.code (⟨"java/lang/String", "<init>", "(Ljava/lang/AbstractStringBuilder;Ljava/lang/Void;)V"⟩ : MethodName) jdk_42_method_150_code 5 none :: ws) rO_17) (fun a U => a = #[(.ref a2), (.ref a1), .null] ∧ Z.Warmed39 U.vm ∧ U.heap = h0) (fun _ _ _ _ _ => True) (fun _ U o U' => ∃ v L, o = .returned v ∧ QT2 Z a2 a1 v1 kA n mb xs cs h0 n0 v U'.heap L ∧ FrameEnd U o U' L rO_17.cells rO_17.slots) := by
  refine MetFree.of_bodySF (plainFor_of_name pn_4) hisR ?_
  intro p e s m args below meth c s₁ Bd hml0 hP hK
  obtain ⟨rfl, hZ, hh⟩ := hP
  have hx := Bd.exec
  have hby := Bd.bytes
  have hml : c.maxLocals = 5 := hml0
  have hown : s.vm.findClass "java/lang/String" = some m.cls := findClass_of_methodNamed Bd.named
  have hnm := (name_of_methodNamed Bd.named Bd.method).1
  have X0 : Stand p l e rO_17 s m #[(.ref a2), (.ref a1), .null] below meth c s₁ [] 0 0 := Stand.of_body Bd
  have e0 : s₁.heap = h0 := by rw [← hh, Bd.state]; rfl
  have N0 := Fr.nil n0
  have K0 := Keep.refl h0 [a2]
  have go0 : Goes p e below s₁ (entryFrame m #[(.ref a2), (.ref a1), .null] 5) s₁ (mkF m 0 #[vR a2, vR a1, .val .null, .unset, .unset] []) := fun t k => castTop (ef_rmT2 m a2 a1) k
  have n21 : a2 ≠ a1 := Exa.ne ES EB (by decide)
  have n2v : a2 ≠ v1 := by obtain ⟨cl, A, -⟩ := id VA; exact ne_arr ES (own_w hw 129 rfl) A
  obtain ⟨T1, X1, e1, st1⟩ := initO X0 hx hZ hown (own_w hw 137 rfl) (own_w hw 7 rfl) (own_w hw 8 rfl) e0 (g := (mkF m 1 #[vR a2, vR a1, .val .null, .unset, .unset] [(.ref a2)])) rfl (by rw [hml]; rfl) rfl (hb hby d19_1) (by decide) (W := 0) (by show 2 * 0 + _ ≤ _; exact Nat.le_of_eq rfl) (by decide)
  obtain ⟨cq2, kq2, q2a, q2b, q2c⟩ := isOf hZ e1 EB
  obtain ⟨_, _, ⟨T2, L2, k2, n2⟩, -, X2, ⟨Lc2, hQ2, l2, y2, z2⟩, st2⟩ := X1.virtualBack hx (y := mN_23) (z := mN_23) hown (mvT hZ (own_w hw 138 rfl)) (mvT hZ (own_w hw 139 rfl)) (notFace_of_selects (args := #[]) (mvT hZ (own_w hw 141 rfl))) (mvT hZ (own_w hw 141 rfl)) (mvT hZ (own_w hw 140 rfl)) (by decide) (backOf (W := 0) (rmGv l Z a0 hw [] a1 v1 h0 n0 Z0 FV) hZ (own_w hw 142 rfl) (own_w hw 19 rfl) (by decide) (by decide)) q2a q2c (g := (mkF m 5 #[vR a2, vR a1, .val .null, .unset, .unset] [(.ref a1)])) rfl (by rw [hml]; rfl) (Steps.refl _) (argsL := []) (rest := []) (lenOf pd_10 rfl) rfl (by show 2 * 0 + _ ≤ _; exact Nat.le_of_eq rfl) (hb hby d19_5) (fun _ _ => ⟨rfl, e1, (by decide : 0 + 0 ≤ rO_17.cells), (by decide : 0 + 0 ≤ rO_17.slots)⟩)
  dsimp only [Pt.U, Pt.locs, Pt.cells, Pt.slots] at X2 l2 y2 z2 st2 hQ2
  subst l2 y2 z2
  obtain ⟨rfl, N2q, e2⟩ := hQ2
  have N2 := Fr.app N0 N2q
  obtain ⟨cq3, kq3, q3a, q3b, q3c⟩ := isOf hZ e2 EB
  obtain ⟨_, _, ⟨T3, L3, k3, n3⟩, -, X3, ⟨Lc3, hQ3, l3, y3, z3⟩, st3⟩ := X2.virtualBack hx (y := mN_13) (z := mN_0) hown (mvT hZ (own_w hw 143 rfl)) (mvT hZ (own_w hw 74 rfl)) (own_nf (y := mN_13) (y' := mN_5) rfl (mvT hZ (own_w hw 94 rfl) (args := #[]))) (mvT hZ (own_w hw 144 rfl)) (mvT hZ (own_w hw 68 rfl)) (by decide) (backOf (W := 0) (rmSl l Z a0 hw [] a1 n h0 n0 Z0 EB FN) hZ (own_w hw 70 rfl) (own_w hw 11 rfl) (by decide) (by decide)) q3a q3c (g := (mkF m 10 #[vR a2, vR a1, .val .null, vR v1, .unset] [(.ref a1)])) rfl (by rw [hml]; rfl) (Steps.refl _) (argsL := []) (rest := []) (lenOf pd_4 rfl) rfl (by show 2 * 0 + _ ≤ _; exact Nat.le_of_eq rfl) (hb hby d19_10) (fun _ _ => ⟨rfl, e2, (by decide : 0 + 0 ≤ rO_17.cells), (by decide : 0 + 0 ≤ rO_17.slots)⟩)
  dsimp only [Pt.U, Pt.locs, Pt.cells, Pt.slots] at X3 l3 y3 z3 st3 hQ3
  subst l3 y3 z3
  obtain ⟨rfl, N3q, e3⟩ := hQ3
  have N3 := Fr.app N2 N3q
  obtain ⟨cq4, kq4, q4a, q4b, q4c⟩ := isOf hZ e3 EB
  obtain ⟨_, _, ⟨T4, L4, k4, n4⟩, -, X4, ⟨Lc4, hQ4, l4, y4, z4⟩, st4⟩ := X3.virtualBack hx (y := mN_12) (z := mN_12) hown (mvT hZ (own_w hw 145 rfl)) (mvT hZ (own_w hw 146 rfl)) (notFace_of_selects (args := #[]) (mvT hZ (own_w hw 148 rfl))) (mvT hZ (own_w hw 148 rfl)) (mvT hZ (own_w hw 147 rfl)) (by decide) (backOf (W := 0) (rmAi l Z a0 hw [] a1 cs h0 n0 Z0 O0 S_CS hcs FC) hZ (own_w hw 149 rfl) (own_w hw 19 rfl) (by decide) (by decide)) q4a q4c (g := (mkF m 16 #[vR a2, vR a1, .val .null, vR v1, vI n] [(.ref a1)])) rfl (by rw [hml]; rfl) (Steps.refl _) (argsL := []) (rest := []) (lenOf pd_1 rfl) rfl (by show 2 * 0 + _ ≤ _; exact Nat.le_of_eq rfl) (hb hby d19_16) (fun _ _ => ⟨rfl, e3, (by decide : 0 + 0 ≤ rO_17.cells), (by decide : 0 + 0 ≤ rO_17.slots)⟩)
  dsimp only [Pt.U, Pt.locs, Pt.cells, Pt.slots] at X4 l4 y4 z4 st4 hQ4
  subst l4 y4 z4
  obtain ⟨rfl, N4q, e4⟩ := hQ4
  have N4 := Fr.app N3 N4q
  obtain ⟨T5, h5, X5, e5, W5, st5⟩ := putFN X4 hx hZ hown (own_w hw 150 rfl) Via.refl e4 SCo ES (Or.inr ⟨(own_w hw 151 rfl), rfl, hnm⟩) (own_w hw 129 rfl) (ty := .byte) (v' := (.int (0 : Int32))) (by decide) rfl rfl (g := (mkF m 24 #[vR a2, vR a1, .val .null, vR v1, vI n] [(.int (0 : Int32)), (.ref a2)])) rfl rfl (hb hby d19_24)
  have f6 := SCo.same W5
  have f7 := EB.wr W5
  have f8 := FV.other W5 (Or.inl (Ne.symm n21))
  have f9 := FC.other W5 (Or.inl (Ne.symm n21))
  have f10 := FN.other W5 (Or.inl (Ne.symm n21))
  have f11 := FM.other W5 (Or.inl (Ne.symm n21))
  have f12 := VA.other W5 (Ne.symm n2v)
  have f13 := ES.wr W5
  have f14 := SV.other W5 (Or.inr (slot_ne (Or.inr (own_w hw 171 rfl)) (Or.inr (own_w hw 151 rfl)) (by decide) (t := (.array .byte)) (t' := .byte) (by decide) (by decide)))
  have O15 := O0.wr W5 gS
  have Z16 := Nat.le_trans Z0 (Nat.le_of_eq W5.size.symm)
  have K17 := K0.wr W5 (Or.inl (List.mem_of_getElem? (i := 0) rfl))
  have N18 := Fr.snoc X5 N4 gS
  obtain ⟨_, _, ⟨T19, L19, k19, n19⟩, -, X19, ⟨Lc19, hQ19, l19, y19, z19⟩, st19⟩ := Jvm.LawKit.callS X5 hx (y := (⟨"java/util/Arrays", "copyOfRange", "([BII)[B"⟩ : MethodName)) hown (mvT hZ (own_w hw 152 rfl)) (mvT hZ (own_w hw 153 rfl)) (mvT hZ (own_w hw 154 rfl)) (mvT hZ (own_w hw 155 rfl)) (by decide) (backOf (W := 1) (rmCr l Z a0 hw [] v1 n kA xs h5 n0 Z16 f12 hln) hZ (own_w hw 155 rfl) (own_w hw 154 rfl) (by decide) (by decide)) (g := (mkF m 32 #[vR a2, vR a1, .val .null, vR v1, vI n] [(.int n), (.int (0 : Int32)), (.ref v1), (.ref a2)])) rfl (by rw [hml]; rfl) (argsL := [(.ref v1), (.int (0 : Int32)), (.int n)]) (rest := [(.ref a2)]) (lenOf pd_9 rfl) rfl (by show 2 * 0 + _ ≤ _; exact Nat.le_of_eq rfl) (hb hby d19_32) (fun _ _ => ⟨rfl, e5, (by decide : 0 + 1 ≤ rO_17.cells), (by decide : 0 + 12 ≤ rO_17.slots)⟩)
  dsimp only [Pt.U, Pt.locs, Pt.cells, Pt.slots] at X19 l19 y19 z19 st19 hQ19
  subst l19 y19 z19
  obtain ⟨bb19, kk19, rfl, N19q, Kq19, gq19, leq19, Vq19⟩ := hQ19
  have N19 := Fr.app N18 N19q
  have le_bb19 := leq19
  have gn_bb19 : n0 ≤ bb19 := Nat.le_trans Z16 le_bb19
  have sz_bb19 : h0.size ≤ bb19 := Nat.le_trans K17.1 le_bb19
  have f20 := f7.keep Kq19
  have f21 := f8.keep Kq19 nin0
  have f22 := f9.keep Kq19 nin0
  have f23 := f10.keep Kq19 nin0
  have f24 := f11.keep Kq19 nin0
  have f25 := f12.keep Kq19 nin0
  have f26 := f13.keep Kq19
  have f27 := f14.keep Kq19 nin0
  have f28 := f6.keep Kq19 nin0
  have O29 := O15.keep Kq19 all0
  have Z30 := Nat.le_trans Z16 Kq19.1
  have K31 := K17.trans Kq19 all0
  obtain ⟨T32, h32, X32, e32, W32, st32⟩ := putF X19 hx hZ hown (host := "") (Or.inl (own_w hw 170 rfl)) Via.refl rfl f27 f26 (Or.inr ⟨(own_w hw 171 rfl), rfl, hnm⟩) (own_w hw 129 rfl) (ty := (.array .byte)) (by decide) rfl rfl (g := (mkF m 35 #[vR a2, vR a1, .val .null, vR v1, vI n] [(.ref bb19), (.ref a2)])) rfl rfl (hb hby d19_35)
  have f33 := f27.same W32
  have f34 := f20.wr W32
  have f35 := f21.other W32 (Or.inl (Ne.symm n21))
  have f36 := f22.other W32 (Or.inl (Ne.symm n21))
  have f37 := f23.other W32 (Or.inl (Ne.symm n21))
  have f38 := f24.other W32 (Or.inl (Ne.symm n21))
  have f39 := f25.other W32 (Ne.symm n2v)
  have f40 := f26.wr W32
  have f41 := f28.other W32 (Or.inr (slot_ne (Or.inr (own_w hw 151 rfl)) (Or.inr (own_w hw 171 rfl)) (by decide) (t := .byte) (t' := (.array .byte)) (by decide) (by decide)))
  have f42 := Vq19.other W32 (Ne.symm (Nat.ne_of_lt (Nat.lt_of_lt_of_le f6.lt le_bb19)))
  have O43 := O29.wr W32 gS
  have Z44 := Nat.le_trans Z30 (Nat.le_of_eq W32.size.symm)
  have K45 := K31.wr W32 (Or.inl (List.mem_of_getElem? (i := 0) rfl))
  have N46 := Fr.snoc X32 N19 gS
  have go47 : Goes p e below s₁ (entryFrame m #[(.ref a2), (.ref a1), .null] 5) T32 (mkF m 97 #[vR a2, vR a1, .val .null, vR v1, vI n] []) := fun t k => by
    refine go0 t ?_
    refine XS.aloadN X0.here hx rfl (hb hby d19_0) rfl rfl ?_
    refine st1 t ?_
    refine XS.aloadN X1.here hx rfl (hb hby d19_4) rfl rfl ?_
    refine st2.trans ?_
    refine XS.astoreN X2.here hx rfl (hb hby d19_8) rfl rfl (l' := #[vR a2, vR a1, .val .null, vR v1, .unset]) rfl ?_
    refine XS.aloadN X2.here hx rfl (hb hby d19_9) rfl rfl ?_
    show Steps p.tables e below (T2.setTop (mkF m 10 #[vR a2, vR a1, .val .null, vR v1, .unset] [(.ref a1)])) _
    refine st3.trans ?_
    refine XS.istore X3.here hx rfl (hb hby d19_13) rfl (l' := #[vR a2, vR a1, .val .null, vR v1, vI n]) rfl ?_
    refine XS.aloadN X3.here hx rfl (hb hby d19_15) rfl rfl ?_
    refine st4.trans ?_
    refine XS.ifNo X4.here hx rfl (hb hby d19_19) rfl (Jvm.Free.XT.i0_eq_f (by decide)) ?_
    refine XS.aloadN X4.here hx rfl (hb hby d19_22) rfl rfl ?_
    show Steps p.tables e below (T4.setTop (mkF m 23 #[vR a2, vR a1, .val .null, vR v1, vI n] [(.ref a2)])) _
    refine XS.iconst X4.here hx rfl (hb hby d19_23) ?_
    refine st5 t ?_
    refine XS.aloadN X5.here hx rfl (hb hby d19_27) rfl rfl ?_
    refine XS.aloadN X5.here hx rfl (hb hby d19_28) rfl rfl ?_
    refine XS.iconst X5.here hx rfl (hb hby d19_29) ?_
    refine XS.iload X5.here hx rfl (hb hby d19_30) rfl ?_
    show Steps p.tables e below (T5.setTop (mkF m 32 #[vR a2, vR a1, .val .null, vR v1, vI n] [(.int n), (.int (0 : Int32)), (.ref v1), (.ref a2)])) _
    refine st19 t ?_
    refine st32 t ?_
    refine XS.goto X32.here hx rfl (pc0 := 38) (pc' := 97) rfl (hb hby d19_38) (by decide) (by decide) ?_
    exact k
  obtain ⟨fs, hr, hrun, hended, hW, hsame⟩ := X32.leave (v := none) (fun _ => rfl)
  refine ⟨_, _, go47 _ ?_, hrun, hended, _, _, rfl, ?_, ⟨_, rfl⟩, hW, hsame.mono (by decide) (by decide)⟩
  · exact X32.returnOut hx Bd.returns (hb hby d19_97) hr
  · show QT2 Z _ _ _ _ _ _ _ _ _ _ _ T32.heap _
    rw [e32]
    exact ⟨rfl, N46, K45, f40, f41, bb19, _, gn_bb19, sz_bb19, f33, f42⟩
theorem pd_11 : parseMethodDescriptor "(Ljava/lang/AbstractStringBuilder;Ljava/lang/Void;)V" = some ⟨[(.object "java/lang/AbstractStringBuilder"), (.object "java/lang/Void")], none⟩ := by decide +kernel
theorem d18_0 : dc18 0 (.aload_n 0) 1 := by decide +kernel
theorem d18_1 : dc18 1 (.aload_n 1) 1 := by decide +kernel
theorem d18_2 : dc18 2 (.aconst_null) 1 := by decide +kernel
theorem d18_3 : dc18 3 (.invokespecial 489) 3 := by decide +kernel
theorem d18_6 : dc18 6 (.return_) 1 := by decide +kernel
theorem ef_rmT1 (m : MethodId) (a2 : Addr) (a1 : Addr) : entryFrame m #[(.ref a2), (.ref a1)] 2 = mkF m 0 #[.val (.ref a2), .val (.ref a1)] [] := by first | (simp [entryFrame, mkF, argsToLocals, Value.category]; done) | rfl
def QT1 (Z : State) (a2 : Addr) (a1 : Addr) (v1 : Addr) (kA : ClassId) (n mb : Int32) (xs : List Int32) (cs : Int32) (h0 : Heap) (n0 : Nat) (v : Option Value) (h : Heap) (L : List Loc) : Prop := v = none ∧ Fr n0 L ∧ Keep h0 h [a2] ∧ Exa Z h a2 "java/lang/String" ∧ Fld Z h a2 "java/lang/String" "coder" "B" (.int (0 : Int32)) ∧ ∃ (b : Addr) (kb : ClassId), n0 ≤ b ∧ h0.size ≤ b ∧ Fld Z h a2 "java/lang/String" "value" "[B" (.ref b) ∧ Arv Z h b kb .byte n (own_vs xs) (.int (0 : Int32))
set_option maxRecDepth 65536 in
set_option maxHeartbeats 40000000 in
theorem rmT1 (l : Launch) (Z : State) (a0 : Array Value) (hw : ∀ d ∈ tables_1, d.before a0 Z = true) (ws : List Jvm.Cond) (a2 : Addr) (a1 : Addr) (v1 : Addr) (kA : ClassId) (n mb : Int32) (xs : List Int32) (cs : Int32) (h0 : Heap) (n0 : Nat) (Z0 : n0 ≤ h0.size) (O0 : Old Z n0 h0) (S_CS : Sta Z Z.heap "java/lang/String" "COMPACT_STRINGS" "Z" (.int cs)) (hcs : ¬ cs = 0) (EB : Exa Z h0 a1 "java/lang/StringBuilder") (FV : Fld Z h0 a1 "java/lang/AbstractStringBuilder" "value" "[B" (.ref v1)) (FC : Fld Z h0 a1 "java/lang/AbstractStringBuilder" "coder" "B" (.int (0 : Int32))) (FN : Fld Z h0 a1 "java/lang/AbstractStringBuilder" "count" "I" (.int n)) (FM : Fld Z h0 a1 "java/lang/AbstractStringBuilder" "maybeLatin1" "Z" (.int mb)) (VA : Arv Z h0 v1 kA .byte 16 (own_vs xs) (.int (0 : Int32))) (hne : a1 ≠ v1) (gA : n0 ≤ a1) (gV : n0 ≤ v1) (hln : own_ln xs n) (ES : Exa Z h0 a2 "java/lang/String") (SV : Fld Z h0 a2 "java/lang/String" "value" "[B" .null) (SCo : Fld Z h0 a2 "java/lang/String" "coder" "B" (.int (0 : Int32))) (gS : n0 ≤ a2) :
    MetFree l (⟨"java/lang/String", "<init>", "(Ljava/lang/StringBuilder;)V"⟩ : MethodName) (head1 (Jvm.Cond.code (⟨"java/lang/String", "<init>", "(Ljava/lang/StringBuilder;)V"⟩ : MethodName) jdk_42_method_53_code 2 none :: ws) rO_22) (fun a U => a = #[(.ref a2), (.ref a1)] ∧ Z.Warmed39 U.vm ∧ U.heap = h0) (fun _ _ _ _ _ => True) (fun _ U o U' => ∃ v L, o = .returned v ∧ QT1 Z a2 a1 v1 kA n mb xs cs h0 n0 v U'.heap L ∧ FrameEnd U o U' L rO_22.cells rO_22.slots) := by
  refine MetFree.of_bodySF (plainFor_of_name pn_4) hisR ?_
  intro p e s m args below meth c s₁ Bd hml0 hP hK
  obtain ⟨rfl, hZ, hh⟩ := hP
  have hx := Bd.exec
  have hby := Bd.bytes
  have hml : c.maxLocals = 2 := hml0
  have hown : s.vm.findClass "java/lang/String" = some m.cls := findClass_of_methodNamed Bd.named
  have hnm := (name_of_methodNamed Bd.named Bd.method).1
  have X0 : Stand p l e rO_22 s m #[(.ref a2), (.ref a1)] below meth c s₁ [] 0 0 := Stand.of_body Bd
  have e0 : s₁.heap = h0 := by rw [← hh, Bd.state]; rfl
  have N0 := Fr.nil n0
  have K0 := Keep.refl h0 [a2]
  have go0 : Goes p e below s₁ (entryFrame m #[(.ref a2), (.ref a1)] 2) s₁ (mkF m 0 #[vR a2, vR a1] []) := fun t k => castTop (ef_rmT1 m a2 a1) k
  have n21 : a2 ≠ a1 := Exa.ne ES EB (by decide)
  have n2v : a2 ≠ v1 := by obtain ⟨cl, A, -⟩ := id VA; exact ne_arr ES (own_w hw 129 rfl) A
  obtain ⟨_, _, ⟨T1, L1, k1, n1⟩, -, X1, ⟨Lc1, hQ1, l1, y1, z1⟩, st1⟩ := X0.specialBack hx (y := (⟨"java/lang/String", "<init>", "(Ljava/lang/AbstractStringBuilder;Ljava/lang/Void;)V"⟩ : MethodName)) rfl hown (mvT hZ (own_w hw 134 rfl)) (mvT hZ (own_w hw 135 rfl)) (mvT hZ (own_w hw 136 rfl)) (by decide) (backOf (W := 0) (rmT2 l Z a0 hw [] a2 a1 v1 kA n mb xs cs h0 n0 Z0 O0 S_CS hcs EB FV FC FN FM VA hne gA gV hln ES SV SCo gS) hZ (own_w hw 136 rfl) (own_w hw 23 rfl) (by decide) (by decide)) (g := (mkF m 3 #[vR a2, vR a1] [.null, (.ref a1), (.ref a2)])) rfl (by rw [hml]; rfl) (Steps.refl _) (a := a2) (argsL := [(.ref a1), .null]) (rest := []) (lenOf pd_11 rfl) rfl (by show 2 * 0 + _ ≤ _; exact Nat.le_of_eq rfl) (hb hby d18_3) (fun _ _ => ⟨rfl, e0, (by decide : 0 + 1 ≤ rO_22.cells), (by decide : 0 + 12 ≤ rO_22.slots)⟩)
  dsimp only [Pt.U, Pt.locs, Pt.cells, Pt.slots] at X1 l1 y1 z1 st1 hQ1
  subst l1 y1 z1
  obtain ⟨rfl, N1q, Kq1, Eq1, Cq1, Rq1⟩ := hQ1
  have N1 := Fr.app N0 N1q
  obtain ⟨bb1, kk1, gb1, leb1, Fb1, Vb1⟩ := Rq1
  have le_bb1 := leb1
  have gn_bb1 : n0 ≤ bb1 := Nat.le_trans Z0 le_bb1
  have sz_bb1 : h0.size ≤ bb1 := Nat.le_trans K0.1 le_bb1
  have f2 := EB.keep Kq1
  have f3 := FV.keep Kq1 (ninS (Ne.symm n21) nin0)
  have f4 := FC.keep Kq1 (ninS (Ne.symm n21) nin0)
  have f5 := FN.keep Kq1 (ninS (Ne.symm n21) nin0)
  have f6 := FM.keep Kq1 (ninS (Ne.symm n21) nin0)
  have f7 := VA.keep Kq1 (ninS (Ne.symm n2v) nin0)
  have f8 := ES.keep Kq1
  have O9 := O0.keep Kq1 (allS gS all0)
  have Z10 := Nat.le_trans Z0 Kq1.1
  have K11 := K0.trans Kq1 (allS (Or.inl (List.mem_of_getElem? (i := 0) rfl)) all0)
  have go12 : Goes p e below s₁ (entryFrame m #[(.ref a2), (.ref a1)] 2) T1 (mkF m 6 #[vR a2, vR a1] []) := fun t k => by
    refine go0 t ?_
    refine XS.aloadN X0.here hx rfl (hb hby d18_0) rfl rfl ?_
    refine XS.aloadN X0.here hx rfl (hb hby d18_1) rfl rfl ?_
    refine XS.aconstNull X0.here hx rfl (hb hby d18_2) ?_
    refine st1.trans ?_
    exact k
  obtain ⟨fs, hr, hrun, hended, hW, hsame⟩ := X1.leave (v := none) (fun _ => rfl)
  refine ⟨_, _, go12 _ ?_, hrun, hended, _, _, rfl, ?_, ⟨_, rfl⟩, hW, hsame.mono (by decide) (by decide)⟩
  · exact X1.returnOut hx Bd.returns (hb hby d18_6) hr
  · show QT1 Z _ _ _ _ _ _ _ _ _ _ _ T1.heap _
    exact ⟨rfl, N1, K11, Eq1, Cq1, bb1, _, gn_bb1, sz_bb1, Fb1, Vb1⟩
theorem pd_12 : parseMethodDescriptor "(Ljava/lang/StringBuilder;)V" = some ⟨[(.object "java/lang/StringBuilder")], none⟩ := by decide +kernel
theorem d17_0 : dc17 0 (.new 18) 3 := by decide +kernel
theorem d17_3 : dc17 3 (.dup) 1 := by decide +kernel
theorem d17_4 : dc17 4 (.aload_n 0) 1 := by decide +kernel
theorem d17_5 : dc17 5 (.invokespecial 137) 3 := by decide +kernel
theorem d17_8 : dc17 8 (.areturn) 1 := by decide +kernel
theorem ef_rmTs (m : MethodId) (a1 : Addr) : entryFrame m #[(.ref a1)] 1 = mkF m 0 #[.val (.ref a1)] [] := by first | (simp [entryFrame, mkF, argsToLocals, Value.category]; done) | rfl
def QTs (Z : State) (a1 : Addr) (v1 : Addr) (kA : ClassId) (n mb : Int32) (xs : List Int32) (cs : Int32) (h0 : Heap) (n0 : Nat) (v : Option Value) (h : Heap) (L : List Loc) : Prop := ∃ (sa b : Addr) (kb : ClassId), v = some (.ref sa) ∧ Fr n0 L ∧ Keep h0 h [] ∧ n0 ≤ sa ∧ h0.size ≤ sa ∧ n0 ≤ b ∧ h0.size ≤ b ∧ Exa Z h sa "java/lang/String" ∧ Fld Z h sa "java/lang/String" "coder" "B" (.int (0 : Int32)) ∧ Fld Z h sa "java/lang/String" "value" "[B" (.ref b) ∧ Arv Z h b kb .byte n (own_vs xs) (.int (0 : Int32))
set_option maxRecDepth 65536 in
set_option maxHeartbeats 40000000 in
theorem rmTs (l : Launch) (Z : State) (a0 : Array Value) (hw : ∀ d ∈ tables_1, d.before a0 Z = true) (ws : List Jvm.Cond) (a1 : Addr) (v1 : Addr) (kA : ClassId) (n mb : Int32) (xs : List Int32) (cs : Int32) (h0 : Heap) (n0 : Nat) (Z0 : n0 ≤ h0.size) (O0 : Old Z n0 h0) (S_CS : Sta Z Z.heap "java/lang/String" "COMPACT_STRINGS" "Z" (.int cs)) (hcs : ¬ cs = 0) (EB : Exa Z h0 a1 "java/lang/StringBuilder") (FV : Fld Z h0 a1 "java/lang/AbstractStringBuilder" "value" "[B" (.ref v1)) (FC : Fld Z h0 a1 "java/lang/AbstractStringBuilder" "coder" "B" (.int (0 : Int32))) (FN : Fld Z h0 a1 "java/lang/AbstractStringBuilder" "count" "I" (.int n)) (FM : Fld Z h0 a1 "java/lang/AbstractStringBuilder" "maybeLatin1" "Z" (.int mb)) (VA : Arv Z h0 v1 kA .byte 16 (own_vs xs) (.int (0 : Int32))) (hne : a1 ≠ v1) (gA : n0 ≤ a1) (gV : n0 ≤ v1) (hln : own_ln xs n) :
    MetFree l mN_14 (head1 (Jvm.Cond.code mN_14 jdk_67_method_42_code 1 (some (.object "java/lang/String")) :: ws) rO_25) (fun a U => a = #[(.ref a1)] ∧ Z.Warmed39 U.vm ∧ U.heap = h0) (fun _ _ _ _ _ => True) (fun _ U o U' => ∃ v L, o = .returned v ∧ QTs Z a1 v1 kA n mb xs cs h0 n0 v U'.heap L ∧ FrameEnd U o U' L rO_25.cells rO_25.slots) := by
  refine MetFree.of_bodySF (plainFor_of_name pn_2) hisR ?_
  intro p e s m args below meth c s₁ Bd hml0 hP hK
  obtain ⟨rfl, hZ, hh⟩ := hP
  have hx := Bd.exec
  have hby := Bd.bytes
  have hml : c.maxLocals = 1 := hml0
  have hown : s.vm.findClass "java/lang/StringBuilder" = some m.cls := findClass_of_methodNamed Bd.named
  have hnm := (name_of_methodNamed Bd.named Bd.method).1
  have X0 : Stand p l e rO_25 s m #[(.ref a1)] below meth c s₁ [] 0 0 := Stand.of_body Bd
  have e0 : s₁.heap = h0 := by rw [← hh, Bd.state]; rfl
  have N0 := Fr.nil n0
  have K0 := Keep.refl h0 []
  have go0 : Goes p e below s₁ (entryFrame m #[(.ref a1)] 1) s₁ (mkF m 0 #[vR a1] []) := fun t k => castTop (ef_rmTs m a1) k
  obtain ⟨T1, h1, X1, e1, E1, A1, D1, -, st1⟩ := newO X0 hx hZ hown (own_w hw 128 rfl) (own_w hw 129 rfl) (own_w hw 23 rfl) e0 (g := (mkF m 0 #[vR a1] [])) rfl (hb hby d17_0) (by decide) (by decide)
  obtain ⟨b1, g_b_b1⟩ : ∃ z, z = h0.size := ⟨_, rfl⟩
  have le_b1 : h0.size ≤ b1 := Nat.le_of_eq g_b_b1.symm
  have gn_b1 : n0 ≤ b1 := Nat.le_trans Z0 le_b1
  have sz_b1 : h0.size ≤ b1 := Nat.le_trans K0.1 le_b1
  rw [← g_b_b1] at A1 D1 st1
  have f2 := EB.ext E1
  have f3 := FV.ext E1
  have f4 := FC.ext E1
  have f5 := FN.ext E1
  have f6 := FM.ext E1
  have f7 := VA.ext E1
  have O8 := O0.ext E1
  have Z9 := Nat.le_trans Z0 E1.1
  have K10 := K0.ext E1
  have f11 : Fld Z h1 b1 "java/lang/String" "coder" "B" (.int (0 : Int32)) := D1 (Or.inr (own_w hw 151 rfl)) (ty := .byte) (by decide)
  have f12 : Fld Z h1 b1 "java/lang/String" "value" "[B" .null := D1 (Or.inr (own_w hw 171 rfl)) (ty := (.array .byte)) (by decide)
  obtain ⟨_, _, ⟨T13, L13, k13, n13⟩, -, X13, ⟨Lc13, hQ13, l13, y13, z13⟩, st13⟩ := X1.specialBack hx (y := (⟨"java/lang/String", "<init>", "(Ljava/lang/StringBuilder;)V"⟩ : MethodName)) rfl hown (mvT hZ (own_w hw 130 rfl)) (mvT hZ (own_w hw 131 rfl)) (mvT hZ (own_w hw 133 rfl)) (by decide) (backOf (W := 1) (rmT1 l Z a0 hw [] b1 a1 v1 kA n mb xs cs h1 n0 Z9 O8 S_CS hcs f2 f3 f4 f5 f6 f7 hne gA gV hln A1 f12 f11 gn_b1) hZ (own_w hw 133 rfl) (own_w hw 23 rfl) (by decide) (by decide)) (g := (mkF m 5 #[vR a1] [(.ref a1), (.ref b1), (.ref b1)])) rfl (by rw [hml]; rfl) (Steps.refl _) (a := b1) (argsL := [(.ref a1)]) (rest := [(.ref b1)]) (lenOf pd_12 rfl) rfl (by show 2 * 0 + _ ≤ _; exact Nat.le_of_eq rfl) (hb hby d17_5) (fun _ _ => ⟨rfl, e1, (by decide : 1 + 1 ≤ rO_25.cells), (by decide : 4 + 12 ≤ rO_25.slots)⟩)
  dsimp only [Pt.U, Pt.locs, Pt.cells, Pt.slots] at X13 l13 y13 z13 st13 hQ13
  subst l13 y13 z13
  obtain ⟨rfl, N13q, Kq13, Eq13, Cq13, Rq13⟩ := hQ13
  have N13 := Fr.app N0 N13q
  obtain ⟨bb13, kk13, gb13, leb13, Fb13, Vb13⟩ := Rq13
  have le_bb13 := leb13
  have gn_bb13 : n0 ≤ bb13 := Nat.le_trans Z9 le_bb13
  have sz_bb13 : h0.size ≤ bb13 := Nat.le_trans K10.1 le_bb13
  have f14 := f2.keep Kq13
  have f15 := f3.keep Kq13 (ninS (Nat.ne_of_lt (Nat.lt_of_lt_of_le FM.lt le_b1)) nin0)
  have f16 := f4.keep Kq13 (ninS (Nat.ne_of_lt (Nat.lt_of_lt_of_le FM.lt le_b1)) nin0)
  have f17 := f5.keep Kq13 (ninS (Nat.ne_of_lt (Nat.lt_of_lt_of_le FM.lt le_b1)) nin0)
  have f18 := f6.keep Kq13 (ninS (Nat.ne_of_lt (Nat.lt_of_lt_of_le FM.lt le_b1)) nin0)
  have f19 := f7.keep Kq13 (ninS (Nat.ne_of_lt (Nat.lt_of_lt_of_le VA.lt le_b1)) nin0)
  have f20 := A1.keep Kq13
  have O21 := O8.keep Kq13 (allS gn_b1 all0)
  have Z22 := Nat.le_trans Z9 Kq13.1
  have K23 := K10.trans Kq13 (allS (Or.inr sz_b1) all0)
  have go24 : Goes p e below s₁ (entryFrame m #[(.ref a1)] 1) T13 (mkF m 8 #[vR a1] [(.ref b1)]) := fun t k => by
    refine go0 t ?_
    refine st1 t ?_
    refine XS.dup X1.here hx rfl (hb hby d17_3) rfl rfl ?_
    refine XS.aloadN X1.here hx rfl (hb hby d17_4) rfl rfl ?_
    refine st13.trans ?_
    exact k
  obtain ⟨fs, hr, hrun, hended, hW, hsame⟩ := X13.leave (v := some (.ref b1)) (fun h => by rw [Bd.returns] at h; cases h)
  refine ⟨_, _, go24 _ ?_, hrun, hended, _, _, rfl, ?_, ⟨_, rfl⟩, hW, hsame.mono (by decide) (by decide)⟩
  · jvm_step X13.here [X13.here.top, hx, (hb hby d17_8), X13.method', Bd.returns, Value.isRef, FieldType.isReference]
    first | (intro acts; rw [hr _ acts rfl rfl rfl]) | rw [hr _ _ rfl rfl rfl]
    exact Steps.refl _
  · show QTs Z _ _ _ _ _ _ _ _ _ _ T13.heap _
    exact ⟨b1, bb13, _, rfl, N13, K23, gn_b1, sz_b1, gn_bb13, sz_bb13, Eq13, Cq13, Fb13, Vb13⟩
theorem own_lt16 {j : Int32} (h : ¬ j < 0 ∧ j < 16) : j.toNatClampNeg < 16 := by
  obtain ⟨h0, h1⟩ := h
  rw [Int32.lt_iff_toInt_lt] at h0 h1
  have z0 : (0 : Int32).toInt = 0 := rfl
  have z1 : (16 : Int32).toInt = 16 := rfl
  have e : j.toNatClampNeg = j.toInt.toNat := rfl
  omega
theorem own_hv_set {ws : List Value} {z : Int32} {j : Nat} (h : ∀ i, i < 16 → ∃ x, ws.getD i (.int (0 : Int32)) = .int x) : ∀ i, i < 16 → ∃ x, (ws.set j (.int z)).getD i (.int (0 : Int32)) = .int x := by
  intro i hi
  rw [List.getD_eq_getElem?_getD, List.getElem?_set]
  split
  · split
    · exact ⟨z, rfl⟩
    · exact ⟨0, rfl⟩
  · have := h i hi; rw [List.getD_eq_getElem?_getD] at this; exact this
def own_An (Z : State) (h : Heap) (a : Addr) (ty : FieldType) : Prop := ∃ (k : ClassId) (ws : List Value), ws.length = 16 ∧ (∀ i, i < 16 → ∃ x, ws.getD i (.int (0 : Int32)) = .int x) ∧ Arv Z h a k ty 16 ws (.int (0 : Int32))
def own_rb (r : Int32) (K : Nat) : Prop := 0 ≤ r.toInt ∧ r.toInt ≤ K
theorem own_rb.inb {r : Int32} {K : Nat} (h : own_rb r K) (hKb : K < 15) : ¬ r < 0 ∧ r < 16 := by
  rw [Int32.lt_iff_toInt_lt, Int32.lt_iff_toInt_lt, show (0 : Int32).toInt = 0 from rfl, show (16 : Int32).toInt = 16 from rfl]; have := h.1; have := h.2; omega
theorem own_rb.pre {r : Int32} {K : Nat} (h : own_rb r K) (hKb : K < 15) (hp : (0 : Int32) < r) : ¬ (r - (1 : Int32)) < 0 ∧ (r - (1 : Int32)) < 16 := by
  rw [Int32.lt_iff_toInt_lt, show (0 : Int32).toInt = 0 from rfl] at hp
  have h1 := h.1; have h2 := h.2
  have e : (r - 1).toInt = r.toInt - 1 := by rw [Int32.toInt_sub, show (1 : Int32).toInt = 1 from rfl]; exact Int.bmod_eq_of_le (by omega) (by omega)
  rw [Int32.lt_iff_toInt_lt, Int32.lt_iff_toInt_lt, e, show (0 : Int32).toInt = 0 from rfl, show (16 : Int32).toInt = 16 from rfl]; omega
theorem own_rb.ne {r : Int32} {K : Nat} (h : own_rb r K) (hKb : K < 15) : ¬ r = 16 := fun q => by
  have h2 := h.2; rw [q, show (16 : Int32).toInt = 16 from rfl] at h2; omega
theorem own_rb.succ {r : Int32} {K : Nat} (h : own_rb r K) (hKb : K < 15) : own_rb (r + 1) (K + 1) := by
  have h1 := h.1; have h2 := h.2
  unfold own_rb; rw [own_add1 (by omega)]; constructor <;> omega
theorem own_rb.up {r : Int32} {K : Nat} (h : own_rb r K) : own_rb r (K + 1) := by
  have h1 := h.1; have h2 := h.2; constructor <;> omega
theorem d37_0 : dc37 0 (.aload_n 0) 1 := by decide +kernel
theorem d37_1 : dc37 1 (.getfield 23) 3 := by decide +kernel
theorem d37_4 : dc37 4 (.aload_n 0) 1 := by decide +kernel
theorem d37_5 : dc37 5 (.getfield 7) 3 := by decide +kernel
theorem d37_8 : dc37 8 (.arraylength) 1 := by decide +kernel
theorem d37_9 : dc37 9 (.if_icmp .ne 63) 3 := by decide +kernel
theorem d37_72 : dc37 72 (.aload_n 0) 1 := by decide +kernel
theorem d37_73 : dc37 73 (.getfield 7) 3 := by decide +kernel
theorem d37_76 : dc37 76 (.aload_n 0) 1 := by decide +kernel
theorem d37_77 : dc37 77 (.getfield 23) 3 := by decide +kernel
theorem d37_80 : dc37 80 (.aload_n 0) 1 := by decide +kernel
theorem d37_81 : dc37 81 (.getfield 31) 3 := by decide +kernel
theorem d37_84 : dc37 84 (.iastore) 1 := by decide +kernel
theorem d37_85 : dc37 85 (.aload_n 0) 1 := by decide +kernel
theorem d37_86 : dc37 86 (.getfield 13) 3 := by decide +kernel
theorem d37_89 : dc37 89 (.aload_n 0) 1 := by decide +kernel
theorem d37_90 : dc37 90 (.getfield 23) 3 := by decide +kernel
theorem d37_93 : dc37 93 (.iload_n 1) 1 := by decide +kernel
theorem d37_94 : dc37 94 (.iastore) 1 := by decide +kernel
theorem d37_95 : dc37 95 (.aload_n 0) 1 := by decide +kernel
theorem d37_96 : dc37 96 (.getfield 16) 3 := by decide +kernel
theorem d37_99 : dc37 99 (.aload_n 0) 1 := by decide +kernel
theorem d37_100 : dc37 100 (.getfield 23) 3 := by decide +kernel
theorem d37_103 : dc37 103 (.iload_n 2) 1 := by decide +kernel
theorem d37_104 : dc37 104 (.iastore) 1 := by decide +kernel
theorem d37_105 : dc37 105 (.aload_n 0) 1 := by decide +kernel
theorem d37_106 : dc37 106 (.getfield 19) 3 := by decide +kernel
theorem d37_109 : dc37 109 (.aload_n 0) 1 := by decide +kernel
theorem d37_110 : dc37 110 (.getfield 23) 3 := by decide +kernel
theorem d37_113 : dc37 113 (.iload_n 3) 1 := by decide +kernel
theorem d37_114 : dc37 114 (.bastore) 1 := by decide +kernel
theorem d37_115 : dc37 115 (.aload_n 0) 1 := by decide +kernel
theorem d37_116 : dc37 116 (.dup) 1 := by decide +kernel
theorem d37_117 : dc37 117 (.getfield 23) 3 := by decide +kernel
theorem d37_120 : dc37 120 (.iconst 1) 1 := by decide +kernel
theorem d37_121 : dc37 121 (.iadd) 1 := by decide +kernel
theorem d37_122 : dc37 122 (.putfield 23) 3 := by decide +kernel
theorem d37_125 : dc37 125 (.return_) 1 := by decide +kernel
theorem pn_6 : plainName "com/example/whereas/whereas/model/Origins$Builder" = true := by first | (simp [plainName, overriddenIn]; done) | decide +kernel
theorem ef_rmOa (m : MethodId) (ob : Addr) (x : Int32) (y : Int32) (z : Int32) : entryFrame m #[(.ref ob), (.int x), (.int y), (.int z)] 5 = mkF m 0 #[.val (.ref ob), .val (.int x), .val (.int y), .val (.int z), .unset] [] := by first | (simp [entryFrame, mkF, argsToLocals, Value.category]; done) | rfl
def QOa (Z : State) (ob : Addr) (x : Int32) (y : Int32) (z : Int32) (o1 o2 o3 o4 : Addr) (rr ll : Int32) (K : Nat) (h0 : Heap) (n0 : Nat) (v : Option Value) (h : Heap) (L : List Loc) : Prop := v = none ∧ Fr n0 L ∧ Keep h0 h [ob, o1, o2, o3, o4] ∧ ∃ (rr' ll' : Int32), own_rb rr' (K + 1) ∧ Exa Z h ob "com/example/whereas/whereas/model/Origins$Builder" ∧ Fld Z h ob "com/example/whereas/whereas/model/Origins$Builder" "starts" "[I" (.ref o1) ∧ Fld Z h ob "com/example/whereas/whereas/model/Origins$Builder" "originStarts" "[I" (.ref o2) ∧ Fld Z h ob "com/example/whereas/whereas/model/Origins$Builder" "originEnds" "[I" (.ref o3) ∧ Fld Z h ob "com/example/whereas/whereas/model/Origins$Builder" "literal" "[Z" (.ref o4) ∧ Fld Z h ob "com/example/whereas/whereas/model/Origins$Builder" "runs" "I" (.int rr') ∧ Fld Z h ob "com/example/whereas/whereas/model/Origins$Builder" "length" "I" (.int ll') ∧ own_An Z h o1 .int ∧ own_An Z h o2 .int ∧ own_An Z h o3 .int ∧ own_An Z h o4 .boolean
set_option maxRecDepth 65536 in
set_option maxHeartbeats 40000000 in
theorem rmOa (l : Launch) (Z : State) (a0 : Array Value) (hw : ∀ d ∈ tables_1, d.before a0 Z = true) (ws : List Jvm.Cond) (ob : Addr) (x : Int32) (y : Int32) (z : Int32) (o1 o2 o3 o4 : Addr) (rr ll : Int32) (K : Nat) (h0 : Heap) (n0 : Nat) (Z0 : n0 ≤ h0.size) (EO : Exa Z h0 ob "com/example/whereas/whereas/model/Origins$Builder") (FO1 : Fld Z h0 ob "com/example/whereas/whereas/model/Origins$Builder" "starts" "[I" (.ref o1)) (FO2 : Fld Z h0 ob "com/example/whereas/whereas/model/Origins$Builder" "originStarts" "[I" (.ref o2)) (FO3 : Fld Z h0 ob "com/example/whereas/whereas/model/Origins$Builder" "originEnds" "[I" (.ref o3)) (FO4 : Fld Z h0 ob "com/example/whereas/whereas/model/Origins$Builder" "literal" "[Z" (.ref o4)) (FOr : Fld Z h0 ob "com/example/whereas/whereas/model/Origins$Builder" "runs" "I" (.int rr)) (FOl : Fld Z h0 ob "com/example/whereas/whereas/model/Origins$Builder" "length" "I" (.int ll)) (AN1 : own_An Z h0 o1 .int) (AN2 : own_An Z h0 o2 .int) (AN3 : own_An Z h0 o3 .int) (AN4 : own_An Z h0 o4 .boolean) (n_ob_o1 : ob ≠ o1) (n_ob_o2 : ob ≠ o2) (n_ob_o3 : ob ≠ o3) (n_ob_o4 : ob ≠ o4) (n_o1_o2 : o1 ≠ o2) (n_o1_o3 : o1 ≠ o3) (n_o1_o4 : o1 ≠ o4) (n_o2_o3 : o2 ≠ o3) (n_o2_o4 : o2 ≠ o4) (n_o3_o4 : o3 ≠ o4) (g_ob : n0 ≤ ob) (g_o1 : n0 ≤ o1) (g_o2 : n0 ≤ o2) (g_o3 : n0 ≤ o3) (g_o4 : n0 ≤ o4) (hrb : own_rb rr K) (hKb : K < 15) :
    MetFree l mN_9 (head1 (Jvm.Cond.code mN_9 prog_44_method_5_code 5 none :: ws) rO_0) (fun a U => a = #[(.ref ob), (.int x), (.int y), (.int z)] ∧ Z.Warmed39 U.vm ∧ U.heap = h0) (fun _ _ _ _ _ => True) (fun _ U o U' => ∃ v L, o = .returned v ∧ QOa Z ob x y z o1 o2 o3 o4 rr ll K h0 n0 v U'.heap L ∧ FrameEnd U o U' L rO_0.cells rO_0.slots) := by
  refine MetFree.of_bodySF (plainFor_of_name pn_6) hisR ?_
  intro p e s m args below meth c s₁ Bd hml0 hP hK
  obtain ⟨rfl, hZ, hh⟩ := hP
  have hx := Bd.exec
  have hby := Bd.bytes
  have hml : c.maxLocals = 5 := hml0
  have hown : s.vm.findClass "com/example/whereas/whereas/model/Origins$Builder" = some m.cls := findClass_of_methodNamed Bd.named
  have hnm := (name_of_methodNamed Bd.named Bd.method).1
  have X0 : Stand p l e rO_0 s m #[(.ref ob), (.int x), (.int y), (.int z)] below meth c s₁ [] 0 0 := Stand.of_body Bd
  have e0 : s₁.heap = h0 := by rw [← hh, Bd.state]; rfl
  have N0 := Fr.nil n0
  have K0 := Keep.refl h0 [ob, o1, o2, o3, o4]
  have go0 : Goes p e below s₁ (entryFrame m #[(.ref ob), (.int x), (.int y), (.int z)] 5) s₁ (mkF m 0 #[vR ob, vI x, vI y, vI z, .unset] []) := fun t k => castTop (ef_rmOa m ob x y z) k
  obtain ⟨kO1, wO1, hO1, vO1, VO1⟩ := AN1
  obtain ⟨kO2, wO2, hO2, vO2, VO2⟩ := AN2
  obtain ⟨kO3, wO3, hO3, vO3, VO3⟩ := AN3
  obtain ⟨kO4, wO4, hO4, vO4, VO4⟩ := AN4
  obtain ⟨T1, X1, e1, st1⟩ := getF X0 hx hZ hown (host := "") (Or.inl (own_w hw 228 rfl)) Via.refl e0 FOr (g := (mkF m 1 #[vR ob, vI x, vI y, vI z, .unset] [(.ref ob)])) rfl rfl (hb hby d37_1)
  obtain ⟨T2, X2, e2, st2⟩ := getF X1 hx hZ hown (host := "") (Or.inl (own_w hw 39 rfl)) Via.refl e1 FO1 (g := (mkF m 5 #[vR ob, vI x, vI y, vI z, .unset] [(.ref ob), (.int rr)])) rfl rfl (hb hby d37_5)
  obtain ⟨cl3, Ar3, kq3, Sz3, Nn3, Hs3, Gf3⟩ := id (VO1)
  obtain ⟨T4, X4, e4, st4⟩ := getF X2 hx hZ hown (host := "") (Or.inl (own_w hw 39 rfl)) Via.refl e2 FO1 (g := (mkF m 73 #[vR ob, vI x, vI y, vI z, .unset] [(.ref ob)])) rfl rfl (hb hby d37_73)
  obtain ⟨T5, X5, e5, st5⟩ := getF X4 hx hZ hown (host := "") (Or.inl (own_w hw 228 rfl)) Via.refl e4 FOr (g := (mkF m 77 #[vR ob, vI x, vI y, vI z, .unset] [(.ref ob), (.ref o1)])) rfl rfl (hb hby d37_77)
  obtain ⟨T6, X6, e6, st6⟩ := getF X5 hx hZ hown (host := "") (Or.inl (own_w hw 234 rfl)) Via.refl e5 FOl (g := (mkF m 81 #[vR ob, vI x, vI y, vI z, .unset] [(.ref ob), (.int rr), (.ref o1)])) rfl rfl (hb hby d37_81)
  obtain ⟨cl7, Ar7, kq7, Sz7, Nn7, Hs7, Gf7⟩ := id (VO1)
  have hin7 : ¬ (rr < 0 ∨ cl7.slots.size ≤ (rr).toNatClampNeg) := inb_of Sz7 (hrb.inb hKb)
  obtain ⟨T8, h8, X8, e8, W8, st8⟩ := stI X6 hx hZ e6 Ar7 (j := rr) hin7 (g := (mkF m 84 #[vR ob, vI x, vI y, vI z, .unset] [(.int ll), (.int rr), (.ref o1)])) rfl rfl (hb hby d37_84)
  have V10 : Arv Z h8 o1 kO1 .int (16 : Int32) (wO1.set (rr).toNatClampNeg (.int ll)) (.int (0 : Int32)) := Arv.set Ar7 kq7 Sz7 Nn7 Hs7 Gf7 rfl W8 _ rfl (by rw [hO1]; exact own_lt16 (hrb.inb hKb))
  have hl9 : (wO1.set (rr).toNatClampNeg (.int ll)).length = 16 := by rw [List.length_set]; exact hO1
  have hl9v := own_hv_set (z := ll) (j := (rr).toNatClampNeg) vO1
  have f11 := EO.wr W8
  have f12 := FO1.other W8 (Or.inl n_ob_o1)
  have f13 := FO2.other W8 (Or.inl n_ob_o1)
  have f14 := VO2.other W8 (Ne.symm n_o1_o2)
  have f15 := FO3.other W8 (Or.inl n_ob_o1)
  have f16 := VO3.other W8 (Ne.symm n_o1_o3)
  have f17 := FO4.other W8 (Or.inl n_ob_o1)
  have f18 := VO4.other W8 (Ne.symm n_o1_o4)
  have f19 := FOr.other W8 (Or.inl n_ob_o1)
  have f20 := FOl.other W8 (Or.inl n_ob_o1)
  have Z21 := Nat.le_trans Z0 (Nat.le_of_eq W8.size.symm)
  have K22 := K0.wr W8 (Or.inl (List.mem_of_getElem? (i := 1) rfl))
  have N23 := Fr.snoc X8 N0 g_o1
  obtain ⟨T24, X24, e24, st24⟩ := getF X8 hx hZ hown (host := "") (Or.inl (own_w hw 41 rfl)) Via.refl e8 f13 (g := (mkF m 86 #[vR ob, vI x, vI y, vI z, .unset] [(.ref ob)])) rfl rfl (hb hby d37_86)
  obtain ⟨T25, X25, e25, st25⟩ := getF X24 hx hZ hown (host := "") (Or.inl (own_w hw 228 rfl)) Via.refl e24 f19 (g := (mkF m 90 #[vR ob, vI x, vI y, vI z, .unset] [(.ref ob), (.ref o2)])) rfl rfl (hb hby d37_90)
  obtain ⟨cl26, Ar26, kq26, Sz26, Nn26, Hs26, Gf26⟩ := id (f14)
  have hin26 : ¬ (rr < 0 ∨ cl26.slots.size ≤ (rr).toNatClampNeg) := inb_of Sz26 (hrb.inb hKb)
  obtain ⟨T27, h27, X27, e27, W27, st27⟩ := stI X25 hx hZ e25 Ar26 (j := rr) hin26 (g := (mkF m 94 #[vR ob, vI x, vI y, vI z, .unset] [(.int x), (.int rr), (.ref o2)])) rfl rfl (hb hby d37_94)
  have V29 : Arv Z h27 o2 kO2 .int (16 : Int32) (wO2.set (rr).toNatClampNeg (.int x)) (.int (0 : Int32)) := Arv.set Ar26 kq26 Sz26 Nn26 Hs26 Gf26 rfl W27 _ rfl (by rw [hO2]; exact own_lt16 (hrb.inb hKb))
  have hl28 : (wO2.set (rr).toNatClampNeg (.int x)).length = 16 := by rw [List.length_set]; exact hO2
  have hl28v := own_hv_set (z := x) (j := (rr).toNatClampNeg) vO2
  have f30 := f11.wr W27
  have f31 := f12.other W27 (Or.inl n_ob_o2)
  have f32 := f13.other W27 (Or.inl n_ob_o2)
  have f33 := f15.other W27 (Or.inl n_ob_o2)
  have f34 := f16.other W27 (Ne.symm n_o2_o3)
  have f35 := f17.other W27 (Or.inl n_ob_o2)
  have f36 := f18.other W27 (Ne.symm n_o2_o4)
  have f37 := f19.other W27 (Or.inl n_ob_o2)
  have f38 := f20.other W27 (Or.inl n_ob_o2)
  have f39 := V10.other W27 n_o1_o2
  have Z40 := Nat.le_trans Z21 (Nat.le_of_eq W27.size.symm)
  have K41 := K22.wr W27 (Or.inl (List.mem_of_getElem? (i := 2) rfl))
  have N42 := Fr.snoc X27 N23 g_o2
  obtain ⟨T43, X43, e43, st43⟩ := getF X27 hx hZ hown (host := "") (Or.inl (own_w hw 43 rfl)) Via.refl e27 f33 (g := (mkF m 96 #[vR ob, vI x, vI y, vI z, .unset] [(.ref ob)])) rfl rfl (hb hby d37_96)
  obtain ⟨T44, X44, e44, st44⟩ := getF X43 hx hZ hown (host := "") (Or.inl (own_w hw 228 rfl)) Via.refl e43 f37 (g := (mkF m 100 #[vR ob, vI x, vI y, vI z, .unset] [(.ref ob), (.ref o3)])) rfl rfl (hb hby d37_100)
  obtain ⟨cl45, Ar45, kq45, Sz45, Nn45, Hs45, Gf45⟩ := id (f34)
  have hin45 : ¬ (rr < 0 ∨ cl45.slots.size ≤ (rr).toNatClampNeg) := inb_of Sz45 (hrb.inb hKb)
  obtain ⟨T46, h46, X46, e46, W46, st46⟩ := stI X44 hx hZ e44 Ar45 (j := rr) hin45 (g := (mkF m 104 #[vR ob, vI x, vI y, vI z, .unset] [(.int y), (.int rr), (.ref o3)])) rfl rfl (hb hby d37_104)
  have V48 : Arv Z h46 o3 kO3 .int (16 : Int32) (wO3.set (rr).toNatClampNeg (.int y)) (.int (0 : Int32)) := Arv.set Ar45 kq45 Sz45 Nn45 Hs45 Gf45 rfl W46 _ rfl (by rw [hO3]; exact own_lt16 (hrb.inb hKb))
  have hl47 : (wO3.set (rr).toNatClampNeg (.int y)).length = 16 := by rw [List.length_set]; exact hO3
  have hl47v := own_hv_set (z := y) (j := (rr).toNatClampNeg) vO3
  have f49 := f30.wr W46
  have f50 := f31.other W46 (Or.inl n_ob_o3)
  have f51 := f32.other W46 (Or.inl n_ob_o3)
  have f52 := f33.other W46 (Or.inl n_ob_o3)
  have f53 := f35.other W46 (Or.inl n_ob_o3)
  have f54 := f36.other W46 (Ne.symm n_o3_o4)
  have f55 := f37.other W46 (Or.inl n_ob_o3)
  have f56 := f38.other W46 (Or.inl n_ob_o3)
  have f57 := f39.other W46 n_o1_o3
  have f58 := V29.other W46 n_o2_o3
  have Z59 := Nat.le_trans Z40 (Nat.le_of_eq W46.size.symm)
  have K60 := K41.wr W46 (Or.inl (List.mem_of_getElem? (i := 3) rfl))
  have N61 := Fr.snoc X46 N42 g_o3
  obtain ⟨T62, X62, e62, st62⟩ := getF X46 hx hZ hown (host := "") (Or.inl (own_w hw 46 rfl)) Via.refl e46 f53 (g := (mkF m 106 #[vR ob, vI x, vI y, vI z, .unset] [(.ref ob)])) rfl rfl (hb hby d37_106)
  obtain ⟨T63, X63, e63, st63⟩ := getF X62 hx hZ hown (host := "") (Or.inl (own_w hw 228 rfl)) Via.refl e62 f55 (g := (mkF m 110 #[vR ob, vI x, vI y, vI z, .unset] [(.ref ob), (.ref o4)])) rfl rfl (hb hby d37_110)
  obtain ⟨cl64, Ar64, kq64, Sz64, Nn64, Hs64, Gf64⟩ := id (f54)
  have hin64 : ¬ (rr < 0 ∨ cl64.slots.size ≤ (rr).toNatClampNeg) := inb_of Sz64 (hrb.inb hKb)
  obtain ⟨T65, h65, X65, e65, W65, st65⟩ := stZ X63 hx hZ e63 Ar64 (j := rr) hin64 (g := (mkF m 114 #[vR ob, vI x, vI y, vI z, .unset] [(.int z), (.int rr), (.ref o4)])) rfl rfl (hb hby d37_114)
  have V67 : Arv Z h65 o4 kO4 .boolean (16 : Int32) (wO4.set (rr).toNatClampNeg (.int (nar .boolean z))) (.int (0 : Int32)) := Arv.set Ar64 kq64 Sz64 Nn64 Hs64 Gf64 (fits_nar_bool _) W65 _ rfl (by rw [hO4]; exact own_lt16 (hrb.inb hKb))
  have hl66 : (wO4.set (rr).toNatClampNeg (.int (nar .boolean z))).length = 16 := by rw [List.length_set]; exact hO4
  have hl66v := own_hv_set (z := (nar .boolean z)) (j := (rr).toNatClampNeg) vO4
  have f68 := f49.wr W65
  have f69 := f50.other W65 (Or.inl n_ob_o4)
  have f70 := f51.other W65 (Or.inl n_ob_o4)
  have f71 := f52.other W65 (Or.inl n_ob_o4)
  have f72 := f53.other W65 (Or.inl n_ob_o4)
  have f73 := f55.other W65 (Or.inl n_ob_o4)
  have f74 := f56.other W65 (Or.inl n_ob_o4)
  have f75 := f57.other W65 n_o1_o4
  have f76 := f58.other W65 n_o2_o4
  have f77 := V48.other W65 n_o3_o4
  have Z78 := Nat.le_trans Z59 (Nat.le_of_eq W65.size.symm)
  have K79 := K60.wr W65 (Or.inl (List.mem_of_getElem? (i := 4) rfl))
  have N80 := Fr.snoc X65 N61 g_o4
  obtain ⟨T81, X81, e81, st81⟩ := getF X65 hx hZ hown (host := "") (Or.inl (own_w hw 228 rfl)) Via.refl e65 f73 (g := (mkF m 117 #[vR ob, vI x, vI y, vI z, .unset] [(.ref ob), (.ref ob)])) rfl rfl (hb hby d37_117)
  obtain ⟨T82, h82, X82, e82, W82, st82⟩ := putF X81 hx hZ hown (host := "") (Or.inl (own_w hw 228 rfl)) Via.refl e81 f73 f68 (Or.inl (own_w hw 229 rfl)) (own_w hw 32 rfl) (ty := .int) (by decide) rfl rfl (g := (mkF m 122 #[vR ob, vI x, vI y, vI z, .unset] [(.int (rr + (1 : Int32))), (.ref ob)])) rfl rfl (hb hby d37_122)
  have f83 := f73.same W82
  have f84 := f68.wr W82
  have f85 := f69.other W82 (Or.inr (slot_ne (Or.inl (own_w hw 40 rfl)) (Or.inl (own_w hw 229 rfl)) (by decide) (t := (.array .int)) (t' := .int) (by decide) (by decide)))
  have f86 := f70.other W82 (Or.inr (slot_ne (Or.inl (own_w hw 42 rfl)) (Or.inl (own_w hw 229 rfl)) (by decide) (t := (.array .int)) (t' := .int) (by decide) (by decide)))
  have f87 := f71.other W82 (Or.inr (slot_ne (Or.inl (own_w hw 44 rfl)) (Or.inl (own_w hw 229 rfl)) (by decide) (t := (.array .int)) (t' := .int) (by decide) (by decide)))
  have f88 := f72.other W82 (Or.inr (slot_ne (Or.inl (own_w hw 47 rfl)) (Or.inl (own_w hw 229 rfl)) (by decide) (t := (.array .boolean)) (t' := .int) (by decide) (by decide)))
  have f89 := f74.other W82 (Or.inr (slot_ne (Or.inl (own_w hw 235 rfl)) (Or.inl (own_w hw 229 rfl)) (by decide) (t := .int) (t' := .int) (by decide) (by decide)))
  have f90 := f75.other W82 (Ne.symm n_ob_o1)
  have f91 := f76.other W82 (Ne.symm n_ob_o2)
  have f92 := f77.other W82 (Ne.symm n_ob_o3)
  have f93 := V67.other W82 (Ne.symm n_ob_o4)
  have Z94 := Nat.le_trans Z78 (Nat.le_of_eq W82.size.symm)
  have K95 := K79.wr W82 (Or.inl (List.mem_of_getElem? (i := 0) rfl))
  have N96 := Fr.snoc X82 N80 g_ob
  have go97 : Goes p e below s₁ (entryFrame m #[(.ref ob), (.int x), (.int y), (.int z)] 5) T82 (mkF m 125 #[vR ob, vI x, vI y, vI z, .unset] []) := fun t k => by
    refine go0 t ?_
    refine XS.aloadN X0.here hx rfl (hb hby d37_0) rfl rfl ?_
    refine st1 t ?_
    refine XS.aloadN X1.here hx rfl (hb hby d37_4) rfl rfl ?_
    refine st2 t ?_
    refine X2.arraylength hx (own_hp e2 Ar3.1) (State.isArrayOf_alike hZ.alike Ar3.2.1) (g := (mkF m 8 #[vR ob, vI x, vI y, vI z, .unset] [(.ref o1), (.int rr)])) rfl rfl (hb hby d37_8) _ ?_
    rw [len_of Sz3 Nn3]
    refine XS.icmpYes X2.here hx rfl (pc0 := 9) (pc' := 72) rfl (hb hby d37_9) rfl (Jvm.Free.XT.ii_ne_t (hrb.ne hKb)) (by decide) (by decide) ?_
    show Steps p.tables e below (T2.setTop (mkF m 72 #[vR ob, vI x, vI y, vI z, .unset] [])) _
    refine XS.aloadN X2.here hx rfl (hb hby d37_72) rfl rfl ?_
    refine st4 t ?_
    refine XS.aloadN X4.here hx rfl (hb hby d37_76) rfl rfl ?_
    refine st5 t ?_
    refine XS.aloadN X5.here hx rfl (hb hby d37_80) rfl rfl ?_
    refine st6 t ?_
    show Steps p.tables e below (T6.setTop (mkF m 84 #[vR ob, vI x, vI y, vI z, .unset] [(.int ll), (.int rr), (.ref o1)])) _
    refine st8 t ?_
    refine XS.aloadN X8.here hx rfl (hb hby d37_85) rfl rfl ?_
    refine st24 t ?_
    refine XS.aloadN X24.here hx rfl (hb hby d37_89) rfl rfl ?_
    refine st25 t ?_
    refine XS.iloadN X25.here hx rfl (hb hby d37_93) rfl ?_
    show Steps p.tables e below (T25.setTop (mkF m 94 #[vR ob, vI x, vI y, vI z, .unset] [(.int x), (.int rr), (.ref o2)])) _
    refine st27 t ?_
    refine XS.aloadN X27.here hx rfl (hb hby d37_95) rfl rfl ?_
    refine st43 t ?_
    refine XS.aloadN X43.here hx rfl (hb hby d37_99) rfl rfl ?_
    refine st44 t ?_
    refine XS.iloadN X44.here hx rfl (hb hby d37_103) rfl ?_
    show Steps p.tables e below (T44.setTop (mkF m 104 #[vR ob, vI x, vI y, vI z, .unset] [(.int y), (.int rr), (.ref o3)])) _
    refine st46 t ?_
    refine XS.aloadN X46.here hx rfl (hb hby d37_105) rfl rfl ?_
    refine st62 t ?_
    refine XS.aloadN X62.here hx rfl (hb hby d37_109) rfl rfl ?_
    refine st63 t ?_
    refine XS.iloadN X63.here hx rfl (hb hby d37_113) rfl ?_
    show Steps p.tables e below (T63.setTop (mkF m 114 #[vR ob, vI x, vI y, vI z, .unset] [(.int z), (.int rr), (.ref o4)])) _
    refine st65 t ?_
    refine XS.aloadN X65.here hx rfl (hb hby d37_115) rfl rfl ?_
    refine XS.dup X65.here hx rfl (hb hby d37_116) rfl rfl ?_
    refine st81 t ?_
    refine XS.iconst X81.here hx rfl (hb hby d37_120) ?_
    refine XS.iadd X81.here hx rfl (hb hby d37_121) rfl ?_
    show Steps p.tables e below (T81.setTop (mkF m 122 #[vR ob, vI x, vI y, vI z, .unset] [(.int (rr + (1 : Int32))), (.ref ob)])) _
    refine st82 t ?_
    exact k
  obtain ⟨fs, hr, hrun, hended, hW, hsame⟩ := X82.leave (v := none) (fun _ => rfl)
  refine ⟨_, _, go97 _ ?_, hrun, hended, _, _, rfl, ?_, ⟨_, rfl⟩, hW, hsame.mono (by decide) (by decide)⟩
  · exact X82.returnOut hx Bd.returns (hb hby d37_125) hr
  · show QOa Z _ _ _ _ _ _ _ _ _ _ _ _ _ _ T82.heap _
    rw [e82]
    exact ⟨rfl, N96, K95, _, _, hrb.succ hKb, f84, f85, f86, f87, f88, f83, f89, ⟨_, _, hl9, hl9v, f90⟩, ⟨_, _, hl28, hl28v, f91⟩, ⟨_, _, hl47, hl47v, f92⟩, ⟨_, _, hl66, hl66v, f93⟩⟩
theorem pd_13 : parseMethodDescriptor "(IIZ)V" = some ⟨[.int, .int, .boolean], none⟩ := by decide +kernel
theorem d36_0 : dc36 0 (.aload_n 0) 1 := by decide +kernel
theorem d36_1 : dc36 1 (.getfield 23) 3 := by decide +kernel
theorem d36_4 : dc36 4 (.ifCond .le 50) 3 := by decide +kernel
theorem d36_7 : dc36 7 (.aload_n 0) 1 := by decide +kernel
theorem d36_8 : dc36 8 (.getfield 19) 3 := by decide +kernel
theorem d36_11 : dc36 11 (.aload_n 0) 1 := by decide +kernel
theorem d36_12 : dc36 12 (.getfield 23) 3 := by decide +kernel
theorem d36_15 : dc36 15 (.iconst 1) 1 := by decide +kernel
theorem d36_16 : dc36 16 (.isub) 1 := by decide +kernel
theorem d36_17 : dc36 17 (.baload) 1 := by decide +kernel
theorem d36_18 : dc36 18 (.ifCond .eq 36) 3 := by decide +kernel
theorem d36_21 : dc36 21 (.aload_n 0) 1 := by decide +kernel
theorem d36_22 : dc36 22 (.getfield 16) 3 := by decide +kernel
theorem d36_25 : dc36 25 (.aload_n 0) 1 := by decide +kernel
theorem d36_26 : dc36 26 (.getfield 23) 3 := by decide +kernel
theorem d36_29 : dc36 29 (.iconst 1) 1 := by decide +kernel
theorem d36_30 : dc36 30 (.isub) 1 := by decide +kernel
theorem d36_31 : dc36 31 (.iaload) 1 := by decide +kernel
theorem d36_32 : dc36 32 (.iload_n 1) 1 := by decide +kernel
theorem d36_33 : dc36 33 (.if_icmp .ne 21) 3 := by decide +kernel
theorem d36_36 : dc36 36 (.aload_n 0) 1 := by decide +kernel
theorem d36_37 : dc36 37 (.getfield 16) 3 := by decide +kernel
theorem d36_40 : dc36 40 (.aload_n 0) 1 := by decide +kernel
theorem d36_41 : dc36 41 (.getfield 23) 3 := by decide +kernel
theorem d36_44 : dc36 44 (.iconst 1) 1 := by decide +kernel
theorem d36_45 : dc36 45 (.isub) 1 := by decide +kernel
theorem d36_46 : dc36 46 (.dup2) 1 := by decide +kernel
theorem d36_47 : dc36 47 (.iaload) 1 := by decide +kernel
theorem d36_48 : dc36 48 (.iload_n 2) 1 := by decide +kernel
theorem d36_49 : dc36 49 (.iadd) 1 := by decide +kernel
theorem d36_50 : dc36 50 (.iastore) 1 := by decide +kernel
theorem d36_51 : dc36 51 (.goto 12) 3 := by decide +kernel
theorem d36_54 : dc36 54 (.aload_n 0) 1 := by decide +kernel
theorem d36_55 : dc36 55 (.iload_n 1) 1 := by decide +kernel
theorem d36_56 : dc36 56 (.iload_n 1) 1 := by decide +kernel
theorem d36_57 : dc36 57 (.iload_n 2) 1 := by decide +kernel
theorem d36_58 : dc36 58 (.iadd) 1 := by decide +kernel
theorem d36_59 : dc36 59 (.iconst 1) 1 := by decide +kernel
theorem d36_60 : dc36 60 (.invokevirtual 27) 3 := by decide +kernel
theorem d36_63 : dc36 63 (.aload_n 0) 1 := by decide +kernel
theorem d36_64 : dc36 64 (.dup) 1 := by decide +kernel
theorem d36_65 : dc36 65 (.getfield 31) 3 := by decide +kernel
theorem d36_68 : dc36 68 (.iload_n 2) 1 := by decide +kernel
theorem d36_69 : dc36 69 (.iadd) 1 := by decide +kernel
theorem d36_70 : dc36 70 (.putfield 31) 3 := by decide +kernel
theorem d36_73 : dc36 73 (.return_) 1 := by decide +kernel
theorem ef_rmOl (m : MethodId) (ob : Addr) (x : Int32) (y : Int32) : entryFrame m #[(.ref ob), (.int x), (.int y)] 3 = mkF m 0 #[.val (.ref ob), .val (.int x), .val (.int y)] [] := by first | (simp [entryFrame, mkF, argsToLocals, Value.category]; done) | rfl
def QOl (Z : State) (ob : Addr) (x : Int32) (y : Int32) (o1 o2 o3 o4 : Addr) (rr ll : Int32) (K : Nat) (h0 : Heap) (n0 : Nat) (v : Option Value) (h : Heap) (L : List Loc) : Prop := v = none ∧ Fr n0 L ∧ Keep h0 h [ob, o1, o2, o3, o4] ∧ ∃ (rr' ll' : Int32), own_rb rr' (K + 1) ∧ Exa Z h ob "com/example/whereas/whereas/model/Origins$Builder" ∧ Fld Z h ob "com/example/whereas/whereas/model/Origins$Builder" "starts" "[I" (.ref o1) ∧ Fld Z h ob "com/example/whereas/whereas/model/Origins$Builder" "originStarts" "[I" (.ref o2) ∧ Fld Z h ob "com/example/whereas/whereas/model/Origins$Builder" "originEnds" "[I" (.ref o3) ∧ Fld Z h ob "com/example/whereas/whereas/model/Origins$Builder" "literal" "[Z" (.ref o4) ∧ Fld Z h ob "com/example/whereas/whereas/model/Origins$Builder" "runs" "I" (.int rr') ∧ Fld Z h ob "com/example/whereas/whereas/model/Origins$Builder" "length" "I" (.int ll') ∧ own_An Z h o1 .int ∧ own_An Z h o2 .int ∧ own_An Z h o3 .int ∧ own_An Z h o4 .boolean
set_option maxRecDepth 65536 in
set_option maxHeartbeats 40000000 in
theorem rmOl (l : Launch) (Z : State) (a0 : Array Value) (hw : ∀ d ∈ tables_1, d.before a0 Z = true) (ws : List Jvm.Cond) (ob : Addr) (x : Int32) (y : Int32) (o1 o2 o3 o4 : Addr) (rr ll : Int32) (K : Nat) (h0 : Heap) (n0 : Nat) (Z0 : n0 ≤ h0.size) (EO : Exa Z h0 ob "com/example/whereas/whereas/model/Origins$Builder") (FO1 : Fld Z h0 ob "com/example/whereas/whereas/model/Origins$Builder" "starts" "[I" (.ref o1)) (FO2 : Fld Z h0 ob "com/example/whereas/whereas/model/Origins$Builder" "originStarts" "[I" (.ref o2)) (FO3 : Fld Z h0 ob "com/example/whereas/whereas/model/Origins$Builder" "originEnds" "[I" (.ref o3)) (FO4 : Fld Z h0 ob "com/example/whereas/whereas/model/Origins$Builder" "literal" "[Z" (.ref o4)) (FOr : Fld Z h0 ob "com/example/whereas/whereas/model/Origins$Builder" "runs" "I" (.int rr)) (FOl : Fld Z h0 ob "com/example/whereas/whereas/model/Origins$Builder" "length" "I" (.int ll)) (AN1 : own_An Z h0 o1 .int) (AN2 : own_An Z h0 o2 .int) (AN3 : own_An Z h0 o3 .int) (AN4 : own_An Z h0 o4 .boolean) (n_ob_o1 : ob ≠ o1) (n_ob_o2 : ob ≠ o2) (n_ob_o3 : ob ≠ o3) (n_ob_o4 : ob ≠ o4) (n_o1_o2 : o1 ≠ o2) (n_o1_o3 : o1 ≠ o3) (n_o1_o4 : o1 ≠ o4) (n_o2_o3 : o2 ≠ o3) (n_o2_o4 : o2 ≠ o4) (n_o3_o4 : o3 ≠ o4) (g_ob : n0 ≤ ob) (g_o1 : n0 ≤ o1) (g_o2 : n0 ≤ o2) (g_o3 : n0 ≤ o3) (g_o4 : n0 ≤ o4) (hrb : own_rb rr K) (hKb : K < 15) :
    MetFree l mN_24 (head1 (Jvm.Cond.code mN_24 prog_44_method_2_code 3 none :: ws) rO_4) (fun a U => a = #[(.ref ob), (.int x), (.int y)] ∧ Z.Warmed39 U.vm ∧ U.heap = h0) (fun _ _ _ _ _ => True) (fun _ U o U' => ∃ v L, o = .returned v ∧ QOl Z ob x y o1 o2 o3 o4 rr ll K h0 n0 v U'.heap L ∧ FrameEnd U o U' L rO_4.cells rO_4.slots) := by
  refine MetFree.of_bodySF (plainFor_of_name pn_6) hisR ?_
  intro p e s m args below meth c s₁ Bd hml0 hP hK
  obtain ⟨rfl, hZ, hh⟩ := hP
  have hx := Bd.exec
  have hby := Bd.bytes
  have hml : c.maxLocals = 3 := hml0
  have hown : s.vm.findClass "com/example/whereas/whereas/model/Origins$Builder" = some m.cls := findClass_of_methodNamed Bd.named
  have hnm := (name_of_methodNamed Bd.named Bd.method).1
  have X0 : Stand p l e rO_4 s m #[(.ref ob), (.int x), (.int y)] below meth c s₁ [] 0 0 := Stand.of_body Bd
  have e0 : s₁.heap = h0 := by rw [← hh, Bd.state]; rfl
  have N0 := Fr.nil n0
  have K0 := Keep.refl h0 [ob, o1, o2, o3, o4]
  have go0 : Goes p e below s₁ (entryFrame m #[(.ref ob), (.int x), (.int y)] 3) s₁ (mkF m 0 #[vR ob, vI x, vI y] []) := fun t k => castTop (ef_rmOl m ob x y) k
  obtain ⟨kO1, wO1, hO1, vO1, VO1⟩ := AN1
  obtain ⟨kO2, wO2, hO2, vO2, VO2⟩ := AN2
  obtain ⟨kO3, wO3, hO3, vO3, VO3⟩ := AN3
  obtain ⟨kO4, wO4, hO4, vO4, VO4⟩ := AN4
  obtain ⟨T1, X1, e1, st1⟩ := getF X0 hx hZ hown (host := "") (Or.inl (own_w hw 228 rfl)) Via.refl e0 FOr (g := (mkF m 1 #[vR ob, vI x, vI y] [(.ref ob)])) rfl rfl (hb hby d36_1)
  have go2 : Goes p e below s₁ (entryFrame m #[(.ref ob), (.int x), (.int y)] 3) T1 (mkF m 4 #[vR ob, vI x, vI y] [(.int rr)]) := fun t k => by
    refine go0 t ?_
    refine XS.aloadN X0.here hx rfl (hb hby d36_0) rfl rfl ?_
    refine st1 t ?_
    exact k
  by_cases hc3 : (0 : Int32) < rr
  · obtain ⟨T4, X4, e4, st4⟩ := getF X1 hx hZ hown (host := "") (Or.inl (own_w hw 46 rfl)) Via.refl e1 FO4 (g := (mkF m 8 #[vR ob, vI x, vI y] [(.ref ob)])) rfl rfl (hb hby d36_8)
    obtain ⟨T5, X5, e5, st5⟩ := getF X4 hx hZ hown (host := "") (Or.inl (own_w hw 228 rfl)) Via.refl e4 FOr (g := (mkF m 12 #[vR ob, vI x, vI y] [(.ref ob), (.ref o4)])) rfl rfl (hb hby d36_12)
    obtain ⟨xl6, hxl6⟩ := vO4 ((rr - (1 : Int32))).toNatClampNeg (own_lt16 (hrb.pre hKb hc3))
    obtain ⟨cl6, Ar6, kq6, Sz6, Nn6, Hs6, Gf6⟩ := id (VO4)
    have hin6 : ¬ ((rr - (1 : Int32)) < 0 ∨ cl6.slots.size ≤ ((rr - (1 : Int32))).toNatClampNeg) := inb_of Sz6 (hrb.pre hKb hc3)
    have hat6 : cl6.slots[((rr - (1 : Int32))).toNatClampNeg]? = some (.int xl6) := Has.at Hs6 hin6 hxl6
    have go7 : Goes p e below s₁ (entryFrame m #[(.ref ob), (.int x), (.int y)] 3) T5 (mkF m 18 #[vR ob, vI x, vI y] [(.int xl6)]) := fun t k => by
      refine go2 t ?_
      refine XS.ifNo X1.here hx rfl (hb hby d36_4) rfl (Jvm.Free.XT.i0_le_f hc3) ?_
      refine XS.aloadN X1.here hx rfl (hb hby d36_7) rfl rfl ?_
      refine st4 t ?_
      refine XS.aloadN X4.here hx rfl (hb hby d36_11) rfl rfl ?_
      refine st5 t ?_
      refine XS.iconst X5.here hx rfl (hb hby d36_15) ?_
      show Steps p.tables e below (T5.setTop (mkF m 16 #[vR ob, vI x, vI y] [(.int (1 : Int32)), (.int rr), (.ref o4)])) _
      refine XS.isub X5.here hx rfl (hb hby d36_16) rfl ?_
      refine X5.baloadBooleans hx (j := (rr - (1 : Int32))) (v := (.int xl6)) (own_hp e5 Ar6.1) (State.isArrayOf_alike hZ.alike Ar6.2.1) Ar6.2.2 hin6 hat6 (g := (mkF m 17 #[vR ob, vI x, vI y] [(.int (rr - (1 : Int32))), (.ref o4)])) rfl rfl (hb hby d36_17) _ ?_
      exact k
    by_cases hc8 : xl6 = (0 : Int32)
    · obtain ⟨cq9, q9a, q9b⟩ := EO.cell
      obtain ⟨_, _, ⟨T9, L9, k9, n9⟩, -, X9, ⟨Lc9, hQ9, l9, y9, z9⟩, st9⟩ := X5.privateBack hx (y := mN_9) hown (mvT hZ (own_w hw 230 rfl)) (mvT hZ (own_w hw 231 rfl)) (own_selp (y := mN_9) (by decide) (mvT hZ (own_w hw 32 rfl)) (mvP hZ (own_w hw 232 rfl)) (mvT hZ (own_w hw 231 rfl))) (Cond.privateMethod_at (mvP hZ (own_w hw 232 rfl) (args := #[]))) (mvT hZ (own_w hw 233 rfl)) (by decide) (backOf (W := 0) (rmOa l Z a0 hw [] ob x (x + y) (1 : Int32) o1 o2 o3 o4 rr ll K h0 n0 Z0 EO FO1 FO2 FO3 FO4 FOr FOl ⟨_, _, hO1, vO1, VO1⟩ ⟨_, _, hO2, vO2, VO2⟩ ⟨_, _, hO3, vO3, VO3⟩ ⟨_, _, hO4, vO4, VO4⟩ n_ob_o1 n_ob_o2 n_ob_o3 n_ob_o4 n_o1_o2 n_o1_o3 n_o1_o4 n_o2_o3 n_o2_o4 n_o3_o4 g_ob g_o1 g_o2 g_o3 g_o4 hrb hKb) hZ (own_w hw 233 rfl) (own_w hw 33 rfl) (by decide) (by decide)) (g := (mkF m 60 #[vR ob, vI x, vI y] [(.int (1 : Int32)), (.int (x + y)), (.int x), (.ref ob)])) rfl (by rw [hml]; rfl) (Steps.refl _) (a := ob) (by rw [e5]; exact q9a) q9b (argsL := [(.int x), (.int (x + y)), (.int (1 : Int32))]) (rest := []) (lenOf pd_13 rfl) rfl (by show 2 * 0 + _ ≤ _; exact Nat.le_of_eq rfl) (hb hby d36_60) (fun _ _ => ⟨rfl, e5, (by decide : 0 + 0 ≤ rO_4.cells), (by decide : 0 + 0 ≤ rO_4.slots)⟩)
      dsimp only [Pt.U, Pt.locs, Pt.cells, Pt.slots] at X9 l9 y9 z9 st9 hQ9
      subst l9 y9 z9
      obtain ⟨rfl, N9q, Kq9, Rq9⟩ := hQ9
      have N9 := Fr.app N0 N9q
      obtain ⟨rr9, ll9, hrb9, EOq9, FO1q9, FO2q9, FO3q9, FO4q9, FOrq9, FOlq9, AN1q9, AN2q9, AN3q9, AN4q9⟩ := Rq9
      have f10 := EO.keep Kq9
      have Z11 := Nat.le_trans Z0 Kq9.1
      have K12 := K0.trans Kq9 (allS (Or.inl (List.mem_of_getElem? (i := 0) rfl)) (allS (Or.inl (List.mem_of_getElem? (i := 1) rfl)) (allS (Or.inl (List.mem_of_getElem? (i := 2) rfl)) (allS (Or.inl (List.mem_of_getElem? (i := 3) rfl)) (allS (Or.inl (List.mem_of_getElem? (i := 4) rfl)) all0)))))
      obtain ⟨k9_7, w9_7, h9_7, v9_7, V9_7⟩ := AN1q9
      obtain ⟨k9_8, w9_8, h9_8, v9_8, V9_8⟩ := AN2q9
      obtain ⟨k9_9, w9_9, h9_9, v9_9, V9_9⟩ := AN3q9
      obtain ⟨k9_10, w9_10, h9_10, v9_10, V9_10⟩ := AN4q9
      obtain ⟨T13, X13, e13, st13⟩ := getF X9 hx hZ hown (host := "") (Or.inl (own_w hw 234 rfl)) Via.refl rfl FOlq9 (g := (mkF m 65 #[vR ob, vI x, vI y] [(.ref ob), (.ref ob)])) rfl rfl (hb hby d36_65)
      obtain ⟨T14, h14, X14, e14, W14, st14⟩ := putF X13 hx hZ hown (host := "") (Or.inl (own_w hw 234 rfl)) Via.refl e13 FOlq9 EOq9 (Or.inl (own_w hw 235 rfl)) (own_w hw 32 rfl) (ty := .int) (by decide) rfl rfl (g := (mkF m 70 #[vR ob, vI x, vI y] [(.int (ll9 + y)), (.ref ob)])) rfl rfl (hb hby d36_70)
      have f15 := FOlq9.same W14
      have f16 := EOq9.wr W14
      have f17 := FO1q9.other W14 (Or.inr (slot_ne (Or.inl (own_w hw 40 rfl)) (Or.inl (own_w hw 235 rfl)) (by decide) (t := (.array .int)) (t' := .int) (by decide) (by decide)))
      have f18 := V9_7.other W14 (Ne.symm n_ob_o1)
      have f19 := FO2q9.other W14 (Or.inr (slot_ne (Or.inl (own_w hw 42 rfl)) (Or.inl (own_w hw 235 rfl)) (by decide) (t := (.array .int)) (t' := .int) (by decide) (by decide)))
      have f20 := V9_8.other W14 (Ne.symm n_ob_o2)
      have f21 := FO3q9.other W14 (Or.inr (slot_ne (Or.inl (own_w hw 44 rfl)) (Or.inl (own_w hw 235 rfl)) (by decide) (t := (.array .int)) (t' := .int) (by decide) (by decide)))
      have f22 := V9_9.other W14 (Ne.symm n_ob_o3)
      have f23 := FO4q9.other W14 (Or.inr (slot_ne (Or.inl (own_w hw 47 rfl)) (Or.inl (own_w hw 235 rfl)) (by decide) (t := (.array .boolean)) (t' := .int) (by decide) (by decide)))
      have f24 := V9_10.other W14 (Ne.symm n_ob_o4)
      have f25 := FOrq9.other W14 (Or.inr (slot_ne (Or.inl (own_w hw 229 rfl)) (Or.inl (own_w hw 235 rfl)) (by decide) (t := .int) (t' := .int) (by decide) (by decide)))
      have Z26 := Nat.le_trans Z11 (Nat.le_of_eq W14.size.symm)
      have K27 := K12.wr W14 (Or.inl (List.mem_of_getElem? (i := 0) rfl))
      have N28 := Fr.snoc X14 N9 g_ob
      have go29 : Goes p e below s₁ (entryFrame m #[(.ref ob), (.int x), (.int y)] 3) T14 (mkF m 73 #[vR ob, vI x, vI y] []) := fun t k => by
        refine go7 t ?_
        refine XS.ifYes X5.here hx rfl (pc0 := 18) (pc' := 54) rfl (hb hby d36_18) rfl (Jvm.Free.XT.i0_eq_t hc8) (by decide) (by decide) ?_
        refine XS.aloadN X5.here hx rfl (hb hby d36_54) rfl rfl ?_
        refine XS.iloadN X5.here hx rfl (hb hby d36_55) rfl ?_
        refine XS.iloadN X5.here hx rfl (hb hby d36_56) rfl ?_
        refine XS.iloadN X5.here hx rfl (hb hby d36_57) rfl ?_
        refine XS.iadd X5.here hx rfl (hb hby d36_58) rfl ?_
        show Steps p.tables e below (T5.setTop (mkF m 59 #[vR ob, vI x, vI y] [(.int (x + y)), (.int x), (.ref ob)])) _
        refine XS.iconst X5.here hx rfl (hb hby d36_59) ?_
        refine st9.trans ?_
        refine XS.aloadN X9.here hx rfl (hb hby d36_63) rfl rfl ?_
        refine XS.dup X9.here hx rfl (hb hby d36_64) rfl rfl ?_
        refine st13 t ?_
        refine XS.iloadN X13.here hx rfl (hb hby d36_68) rfl ?_
        show Steps p.tables e below (T13.setTop (mkF m 69 #[vR ob, vI x, vI y] [(.int y), (.int ll9), (.ref ob)])) _
        refine XS.iadd X13.here hx rfl (hb hby d36_69) rfl ?_
        refine st14 t ?_
        exact k
      obtain ⟨fs, hr, hrun, hended, hW, hsame⟩ := X14.leave (v := none) (fun _ => rfl)
      refine ⟨_, _, go29 _ ?_, hrun, hended, _, _, rfl, ?_, ⟨_, rfl⟩, hW, hsame.mono (by decide) (by decide)⟩
      · exact X14.returnOut hx Bd.returns (hb hby d36_73) hr
      · show QOl Z _ _ _ _ _ _ _ _ _ _ _ _ _ T14.heap _
        rw [e14]
        exact ⟨rfl, N28, K27, _, _, hrb9, f16, f17, f19, f21, f23, f25, f15, ⟨_, _, h9_7, v9_7, f18⟩, ⟨_, _, h9_8, v9_8, f20⟩, ⟨_, _, h9_9, v9_9, f22⟩, ⟨_, _, h9_10, v9_10, f24⟩⟩
    · obtain ⟨T30, X30, e30, st30⟩ := getF X5 hx hZ hown (host := "") (Or.inl (own_w hw 43 rfl)) Via.refl e5 FO3 (g := (mkF m 22 #[vR ob, vI x, vI y] [(.ref ob)])) rfl rfl (hb hby d36_22)
      obtain ⟨T31, X31, e31, st31⟩ := getF X30 hx hZ hown (host := "") (Or.inl (own_w hw 228 rfl)) Via.refl e30 FOr (g := (mkF m 26 #[vR ob, vI x, vI y] [(.ref ob), (.ref o3)])) rfl rfl (hb hby d36_26)
      obtain ⟨xl32, hxl32⟩ := vO3 ((rr - (1 : Int32))).toNatClampNeg (own_lt16 (hrb.pre hKb hc3))
      obtain ⟨cl32, Ar32, kq32, Sz32, Nn32, Hs32, Gf32⟩ := id (VO3)
      have hin32 : ¬ ((rr - (1 : Int32)) < 0 ∨ cl32.slots.size ≤ ((rr - (1 : Int32))).toNatClampNeg) := inb_of Sz32 (hrb.pre hKb hc3)
      have hat32 : cl32.slots[((rr - (1 : Int32))).toNatClampNeg]? = some (.int xl32) := Has.at Hs32 hin32 hxl32
      have go33 : Goes p e below s₁ (entryFrame m #[(.ref ob), (.int x), (.int y)] 3) T31 (mkF m 33 #[vR ob, vI x, vI y] [(.int x), (.int xl32)]) := fun t k => by
        refine go7 t ?_
        refine XS.ifNo X5.here hx rfl (hb hby d36_18) rfl (Jvm.Free.XT.i0_eq_f hc8) ?_
        refine XS.aloadN X5.here hx rfl (hb hby d36_21) rfl rfl ?_
        refine st30 t ?_
        refine XS.aloadN X30.here hx rfl (hb hby d36_25) rfl rfl ?_
        refine st31 t ?_
        refine XS.iconst X31.here hx rfl (hb hby d36_29) ?_
        show Steps p.tables e below (T31.setTop (mkF m 30 #[vR ob, vI x, vI y] [(.int (1 : Int32)), (.int rr), (.ref o3)])) _
        refine XS.isub X31.here hx rfl (hb hby d36_30) rfl ?_
        refine X31.iaload hx (j := (rr - (1 : Int32))) (v := (.int xl32)) (own_hp e31 Ar32.1) (State.isArrayOf_alike hZ.alike Ar32.2.1) Ar32.2.2 hin32 hat32 (g := (mkF m 31 #[vR ob, vI x, vI y] [(.int (rr - (1 : Int32))), (.ref o3)])) rfl rfl (hb hby d36_31) _ ?_
        refine XS.iloadN X31.here hx rfl (hb hby d36_32) rfl ?_
        exact k
      by_cases hc34 : xl32 = x
      · obtain ⟨T35, X35, e35, st35⟩ := getF X31 hx hZ hown (host := "") (Or.inl (own_w hw 43 rfl)) Via.refl e31 FO3 (g := (mkF m 37 #[vR ob, vI x, vI y] [(.ref ob)])) rfl rfl (hb hby d36_37)
        obtain ⟨T36, X36, e36, st36⟩ := getF X35 hx hZ hown (host := "") (Or.inl (own_w hw 228 rfl)) Via.refl e35 FOr (g := (mkF m 41 #[vR ob, vI x, vI y] [(.ref ob), (.ref o3)])) rfl rfl (hb hby d36_41)
        obtain ⟨xl37, hxl37⟩ := vO3 ((rr - (1 : Int32))).toNatClampNeg (own_lt16 (hrb.pre hKb hc3))
        obtain ⟨cl37, Ar37, kq37, Sz37, Nn37, Hs37, Gf37⟩ := id (VO3)
        have hin37 : ¬ ((rr - (1 : Int32)) < 0 ∨ cl37.slots.size ≤ ((rr - (1 : Int32))).toNatClampNeg) := inb_of Sz37 (hrb.pre hKb hc3)
        have hat37 : cl37.slots[((rr - (1 : Int32))).toNatClampNeg]? = some (.int xl37) := Has.at Hs37 hin37 hxl37
        obtain ⟨cl38, Ar38, kq38, Sz38, Nn38, Hs38, Gf38⟩ := id (VO3)
        have hin38 : ¬ ((rr - (1 : Int32)) < 0 ∨ cl38.slots.size ≤ ((rr - (1 : Int32))).toNatClampNeg) := inb_of Sz38 (hrb.pre hKb hc3)
        obtain ⟨T39, h39, X39, e39, W39, st39⟩ := stI X36 hx hZ e36 Ar38 (j := (rr - (1 : Int32))) hin38 (g := (mkF m 50 #[vR ob, vI x, vI y] [(.int (xl37 + y)), (.int (rr - (1 : Int32))), (.ref o3)])) rfl rfl (hb hby d36_50)
        have V41 : Arv Z h39 o3 kO3 .int (16 : Int32) (wO3.set ((rr - (1 : Int32))).toNatClampNeg (.int (xl37 + y))) (.int (0 : Int32)) := Arv.set Ar38 kq38 Sz38 Nn38 Hs38 Gf38 rfl W39 _ rfl (by rw [hO3]; exact own_lt16 (hrb.pre hKb hc3))
        have hl40 : (wO3.set ((rr - (1 : Int32))).toNatClampNeg (.int (xl37 + y))).length = 16 := by rw [List.length_set]; exact hO3
        have hl40v := own_hv_set (z := (xl37 + y)) (j := ((rr - (1 : Int32))).toNatClampNeg) vO3
        have f42 := EO.wr W39
        have f43 := FO1.other W39 (Or.inl n_ob_o3)
        have f44 := VO1.other W39 n_o1_o3
        have f45 := FO2.other W39 (Or.inl n_ob_o3)
        have f46 := VO2.other W39 n_o2_o3
        have f47 := FO3.other W39 (Or.inl n_ob_o3)
        have f48 := FO4.other W39 (Or.inl n_ob_o3)
        have f49 := VO4.other W39 (Ne.symm n_o3_o4)
        have f50 := FOr.other W39 (Or.inl n_ob_o3)
        have f51 := FOl.other W39 (Or.inl n_ob_o3)
        have Z52 := Nat.le_trans Z0 (Nat.le_of_eq W39.size.symm)
        have K53 := K0.wr W39 (Or.inl (List.mem_of_getElem? (i := 3) rfl))
        have N54 := Fr.snoc X39 N0 g_o3
        obtain ⟨T55, X55, e55, st55⟩ := getF X39 hx hZ hown (host := "") (Or.inl (own_w hw 234 rfl)) Via.refl e39 f51 (g := (mkF m 65 #[vR ob, vI x, vI y] [(.ref ob), (.ref ob)])) rfl rfl (hb hby d36_65)
        obtain ⟨T56, h56, X56, e56, W56, st56⟩ := putF X55 hx hZ hown (host := "") (Or.inl (own_w hw 234 rfl)) Via.refl e55 f51 f42 (Or.inl (own_w hw 235 rfl)) (own_w hw 32 rfl) (ty := .int) (by decide) rfl rfl (g := (mkF m 70 #[vR ob, vI x, vI y] [(.int (ll + y)), (.ref ob)])) rfl rfl (hb hby d36_70)
        have f57 := f51.same W56
        have f58 := f42.wr W56
        have f59 := f43.other W56 (Or.inr (slot_ne (Or.inl (own_w hw 40 rfl)) (Or.inl (own_w hw 235 rfl)) (by decide) (t := (.array .int)) (t' := .int) (by decide) (by decide)))
        have f60 := f44.other W56 (Ne.symm n_ob_o1)
        have f61 := f45.other W56 (Or.inr (slot_ne (Or.inl (own_w hw 42 rfl)) (Or.inl (own_w hw 235 rfl)) (by decide) (t := (.array .int)) (t' := .int) (by decide) (by decide)))
        have f62 := f46.other W56 (Ne.symm n_ob_o2)
        have f63 := f47.other W56 (Or.inr (slot_ne (Or.inl (own_w hw 44 rfl)) (Or.inl (own_w hw 235 rfl)) (by decide) (t := (.array .int)) (t' := .int) (by decide) (by decide)))
        have f64 := f48.other W56 (Or.inr (slot_ne (Or.inl (own_w hw 47 rfl)) (Or.inl (own_w hw 235 rfl)) (by decide) (t := (.array .boolean)) (t' := .int) (by decide) (by decide)))
        have f65 := f49.other W56 (Ne.symm n_ob_o4)
        have f66 := f50.other W56 (Or.inr (slot_ne (Or.inl (own_w hw 229 rfl)) (Or.inl (own_w hw 235 rfl)) (by decide) (t := .int) (t' := .int) (by decide) (by decide)))
        have f67 := V41.other W56 (Ne.symm n_ob_o3)
        have Z68 := Nat.le_trans Z52 (Nat.le_of_eq W56.size.symm)
        have K69 := K53.wr W56 (Or.inl (List.mem_of_getElem? (i := 0) rfl))
        have N70 := Fr.snoc X56 N54 g_ob
        have go71 : Goes p e below s₁ (entryFrame m #[(.ref ob), (.int x), (.int y)] 3) T56 (mkF m 73 #[vR ob, vI x, vI y] []) := fun t k => by
          refine go33 t ?_
          refine XS.icmpNo X31.here hx rfl (hb hby d36_33) rfl (Jvm.Free.XT.ii_ne_f hc34) ?_
          refine XS.aloadN X31.here hx rfl (hb hby d36_36) rfl rfl ?_
          refine st35 t ?_
          refine XS.aloadN X35.here hx rfl (hb hby d36_40) rfl rfl ?_
          refine st36 t ?_
          refine XS.iconst X36.here hx rfl (hb hby d36_44) ?_
          show Steps p.tables e below (T36.setTop (mkF m 45 #[vR ob, vI x, vI y] [(.int (1 : Int32)), (.int rr), (.ref o3)])) _
          refine XS.isub X36.here hx rfl (hb hby d36_45) rfl ?_
          refine Jvm.Free.XT.dup2 X36.here hx rfl (hb hby d36_46) rfl rfl rfl ?_
          refine X36.iaload hx (j := (rr - (1 : Int32))) (v := (.int xl37)) (own_hp e36 Ar37.1) (State.isArrayOf_alike hZ.alike Ar37.2.1) Ar37.2.2 hin37 hat37 (g := (mkF m 47 #[vR ob, vI x, vI y] [(.int (rr - (1 : Int32))), (.ref o3), (.int (rr - (1 : Int32))), (.ref o3)])) rfl rfl (hb hby d36_47) _ ?_
          refine XS.iloadN X36.here hx rfl (hb hby d36_48) rfl ?_
          refine XS.iadd X36.here hx rfl (hb hby d36_49) rfl ?_
          refine st39 t ?_
          show Steps p.tables e below (T39.setTop (mkF m 51 #[vR ob, vI x, vI y] [])) _
          refine XS.goto X39.here hx rfl (pc0 := 51) (pc' := 63) rfl (hb hby d36_51) (by decide) (by decide) ?_
          refine XS.aloadN X39.here hx rfl (hb hby d36_63) rfl rfl ?_
          refine XS.dup X39.here hx rfl (hb hby d36_64) rfl rfl ?_
          refine st55 t ?_
          refine XS.iloadN X55.here hx rfl (hb hby d36_68) rfl ?_
          refine XS.iadd X55.here hx rfl (hb hby d36_69) rfl ?_
          show Steps p.tables e below (T55.setTop (mkF m 70 #[vR ob, vI x, vI y] [(.int (ll + y)), (.ref ob)])) _
          refine st56 t ?_
          exact k
        obtain ⟨fs, hr, hrun, hended, hW, hsame⟩ := X56.leave (v := none) (fun _ => rfl)
        refine ⟨_, _, go71 _ ?_, hrun, hended, _, _, rfl, ?_, ⟨_, rfl⟩, hW, hsame.mono (by decide) (by decide)⟩
        · exact X56.returnOut hx Bd.returns (hb hby d36_73) hr
        · show QOl Z _ _ _ _ _ _ _ _ _ _ _ _ _ T56.heap _
          rw [e56]
          exact ⟨rfl, N70, K69, _, _, hrb.up, f58, f59, f61, f63, f64, f66, f57, ⟨_, _, hO1, vO1, f60⟩, ⟨_, _, hO2, vO2, f62⟩, ⟨_, _, hl40, hl40v, f67⟩, ⟨_, _, hO4, vO4, f65⟩⟩
      · obtain ⟨cq72, q72a, q72b⟩ := EO.cell
        obtain ⟨_, _, ⟨T72, L72, k72, n72⟩, -, X72, ⟨Lc72, hQ72, l72, y72, z72⟩, st72⟩ := X31.privateBack hx (y := mN_9) hown (mvT hZ (own_w hw 230 rfl)) (mvT hZ (own_w hw 231 rfl)) (own_selp (y := mN_9) (by decide) (mvT hZ (own_w hw 32 rfl)) (mvP hZ (own_w hw 232 rfl)) (mvT hZ (own_w hw 231 rfl))) (Cond.privateMethod_at (mvP hZ (own_w hw 232 rfl) (args := #[]))) (mvT hZ (own_w hw 233 rfl)) (by decide) (backOf (W := 0) (rmOa l Z a0 hw [] ob x (x + y) (1 : Int32) o1 o2 o3 o4 rr ll K h0 n0 Z0 EO FO1 FO2 FO3 FO4 FOr FOl ⟨_, _, hO1, vO1, VO1⟩ ⟨_, _, hO2, vO2, VO2⟩ ⟨_, _, hO3, vO3, VO3⟩ ⟨_, _, hO4, vO4, VO4⟩ n_ob_o1 n_ob_o2 n_ob_o3 n_ob_o4 n_o1_o2 n_o1_o3 n_o1_o4 n_o2_o3 n_o2_o4 n_o3_o4 g_ob g_o1 g_o2 g_o3 g_o4 hrb hKb) hZ (own_w hw 233 rfl) (own_w hw 33 rfl) (by decide) (by decide)) (g := (mkF m 60 #[vR ob, vI x, vI y] [(.int (1 : Int32)), (.int (x + y)), (.int x), (.ref ob)])) rfl (by rw [hml]; rfl) (Steps.refl _) (a := ob) (by rw [e31]; exact q72a) q72b (argsL := [(.int x), (.int (x + y)), (.int (1 : Int32))]) (rest := []) (lenOf pd_13 rfl) rfl (by show 2 * 0 + _ ≤ _; exact Nat.le_of_eq rfl) (hb hby d36_60) (fun _ _ => ⟨rfl, e31, (by decide : 0 + 0 ≤ rO_4.cells), (by decide : 0 + 0 ≤ rO_4.slots)⟩)
        dsimp only [Pt.U, Pt.locs, Pt.cells, Pt.slots] at X72 l72 y72 z72 st72 hQ72
        subst l72 y72 z72
        obtain ⟨rfl, N72q, Kq72, Rq72⟩ := hQ72
        have N72 := Fr.app N0 N72q
        obtain ⟨rr72, ll72, hrb72, EOq72, FO1q72, FO2q72, FO3q72, FO4q72, FOrq72, FOlq72, AN1q72, AN2q72, AN3q72, AN4q72⟩ := Rq72
        have f73 := EO.keep Kq72
        have Z74 := Nat.le_trans Z0 Kq72.1
        have K75 := K0.trans Kq72 (allS (Or.inl (List.mem_of_getElem? (i := 0) rfl)) (allS (Or.inl (List.mem_of_getElem? (i := 1) rfl)) (allS (Or.inl (List.mem_of_getElem? (i := 2) rfl)) (allS (Or.inl (List.mem_of_getElem? (i := 3) rfl)) (allS (Or.inl (List.mem_of_getElem? (i := 4) rfl)) all0)))))
        obtain ⟨k72_7, w72_7, h72_7, v72_7, V72_7⟩ := AN1q72
        obtain ⟨k72_8, w72_8, h72_8, v72_8, V72_8⟩ := AN2q72
        obtain ⟨k72_9, w72_9, h72_9, v72_9, V72_9⟩ := AN3q72
        obtain ⟨k72_10, w72_10, h72_10, v72_10, V72_10⟩ := AN4q72
        obtain ⟨T76, X76, e76, st76⟩ := getF X72 hx hZ hown (host := "") (Or.inl (own_w hw 234 rfl)) Via.refl rfl FOlq72 (g := (mkF m 65 #[vR ob, vI x, vI y] [(.ref ob), (.ref ob)])) rfl rfl (hb hby d36_65)
        obtain ⟨T77, h77, X77, e77, W77, st77⟩ := putF X76 hx hZ hown (host := "") (Or.inl (own_w hw 234 rfl)) Via.refl e76 FOlq72 EOq72 (Or.inl (own_w hw 235 rfl)) (own_w hw 32 rfl) (ty := .int) (by decide) rfl rfl (g := (mkF m 70 #[vR ob, vI x, vI y] [(.int (ll72 + y)), (.ref ob)])) rfl rfl (hb hby d36_70)
        have f78 := FOlq72.same W77
        have f79 := EOq72.wr W77
        have f80 := FO1q72.other W77 (Or.inr (slot_ne (Or.inl (own_w hw 40 rfl)) (Or.inl (own_w hw 235 rfl)) (by decide) (t := (.array .int)) (t' := .int) (by decide) (by decide)))
        have f81 := V72_7.other W77 (Ne.symm n_ob_o1)
        have f82 := FO2q72.other W77 (Or.inr (slot_ne (Or.inl (own_w hw 42 rfl)) (Or.inl (own_w hw 235 rfl)) (by decide) (t := (.array .int)) (t' := .int) (by decide) (by decide)))
        have f83 := V72_8.other W77 (Ne.symm n_ob_o2)
        have f84 := FO3q72.other W77 (Or.inr (slot_ne (Or.inl (own_w hw 44 rfl)) (Or.inl (own_w hw 235 rfl)) (by decide) (t := (.array .int)) (t' := .int) (by decide) (by decide)))
        have f85 := V72_9.other W77 (Ne.symm n_ob_o3)
        have f86 := FO4q72.other W77 (Or.inr (slot_ne (Or.inl (own_w hw 47 rfl)) (Or.inl (own_w hw 235 rfl)) (by decide) (t := (.array .boolean)) (t' := .int) (by decide) (by decide)))
        have f87 := V72_10.other W77 (Ne.symm n_ob_o4)
        have f88 := FOrq72.other W77 (Or.inr (slot_ne (Or.inl (own_w hw 229 rfl)) (Or.inl (own_w hw 235 rfl)) (by decide) (t := .int) (t' := .int) (by decide) (by decide)))
        have Z89 := Nat.le_trans Z74 (Nat.le_of_eq W77.size.symm)
        have K90 := K75.wr W77 (Or.inl (List.mem_of_getElem? (i := 0) rfl))
        have N91 := Fr.snoc X77 N72 g_ob
        have go92 : Goes p e below s₁ (entryFrame m #[(.ref ob), (.int x), (.int y)] 3) T77 (mkF m 73 #[vR ob, vI x, vI y] []) := fun t k => by
          refine go33 t ?_
          refine XS.icmpYes X31.here hx rfl (pc0 := 33) (pc' := 54) rfl (hb hby d36_33) rfl (Jvm.Free.XT.ii_ne_t hc34) (by decide) (by decide) ?_
          refine XS.aloadN X31.here hx rfl (hb hby d36_54) rfl rfl ?_
          refine XS.iloadN X31.here hx rfl (hb hby d36_55) rfl ?_
          refine XS.iloadN X31.here hx rfl (hb hby d36_56) rfl ?_
          refine XS.iloadN X31.here hx rfl (hb hby d36_57) rfl ?_
          refine XS.iadd X31.here hx rfl (hb hby d36_58) rfl ?_
          show Steps p.tables e below (T31.setTop (mkF m 59 #[vR ob, vI x, vI y] [(.int (x + y)), (.int x), (.ref ob)])) _
          refine XS.iconst X31.here hx rfl (hb hby d36_59) ?_
          refine st72.trans ?_
          refine XS.aloadN X72.here hx rfl (hb hby d36_63) rfl rfl ?_
          refine XS.dup X72.here hx rfl (hb hby d36_64) rfl rfl ?_
          refine st76 t ?_
          refine XS.iloadN X76.here hx rfl (hb hby d36_68) rfl ?_
          show Steps p.tables e below (T76.setTop (mkF m 69 #[vR ob, vI x, vI y] [(.int y), (.int ll72), (.ref ob)])) _
          refine XS.iadd X76.here hx rfl (hb hby d36_69) rfl ?_
          refine st77 t ?_
          exact k
        obtain ⟨fs, hr, hrun, hended, hW, hsame⟩ := X77.leave (v := none) (fun _ => rfl)
        refine ⟨_, _, go92 _ ?_, hrun, hended, _, _, rfl, ?_, ⟨_, rfl⟩, hW, hsame.mono (by decide) (by decide)⟩
        · exact X77.returnOut hx Bd.returns (hb hby d36_73) hr
        · show QOl Z _ _ _ _ _ _ _ _ _ _ _ _ _ T77.heap _
          rw [e77]
          exact ⟨rfl, N91, K90, _, _, hrb72, f79, f80, f82, f84, f86, f88, f78, ⟨_, _, h72_7, v72_7, f81⟩, ⟨_, _, h72_8, v72_8, f83⟩, ⟨_, _, h72_9, v72_9, f85⟩, ⟨_, _, h72_10, v72_10, f87⟩⟩
  · obtain ⟨cq93, q93a, q93b⟩ := EO.cell
    obtain ⟨_, _, ⟨T93, L93, k93, n93⟩, -, X93, ⟨Lc93, hQ93, l93, y93, z93⟩, st93⟩ := X1.privateBack hx (y := mN_9) hown (mvT hZ (own_w hw 230 rfl)) (mvT hZ (own_w hw 231 rfl)) (own_selp (y := mN_9) (by decide) (mvT hZ (own_w hw 32 rfl)) (mvP hZ (own_w hw 232 rfl)) (mvT hZ (own_w hw 231 rfl))) (Cond.privateMethod_at (mvP hZ (own_w hw 232 rfl) (args := #[]))) (mvT hZ (own_w hw 233 rfl)) (by decide) (backOf (W := 0) (rmOa l Z a0 hw [] ob x (x + y) (1 : Int32) o1 o2 o3 o4 rr ll K h0 n0 Z0 EO FO1 FO2 FO3 FO4 FOr FOl ⟨_, _, hO1, vO1, VO1⟩ ⟨_, _, hO2, vO2, VO2⟩ ⟨_, _, hO3, vO3, VO3⟩ ⟨_, _, hO4, vO4, VO4⟩ n_ob_o1 n_ob_o2 n_ob_o3 n_ob_o4 n_o1_o2 n_o1_o3 n_o1_o4 n_o2_o3 n_o2_o4 n_o3_o4 g_ob g_o1 g_o2 g_o3 g_o4 hrb hKb) hZ (own_w hw 233 rfl) (own_w hw 33 rfl) (by decide) (by decide)) (g := (mkF m 60 #[vR ob, vI x, vI y] [(.int (1 : Int32)), (.int (x + y)), (.int x), (.ref ob)])) rfl (by rw [hml]; rfl) (Steps.refl _) (a := ob) (by rw [e1]; exact q93a) q93b (argsL := [(.int x), (.int (x + y)), (.int (1 : Int32))]) (rest := []) (lenOf pd_13 rfl) rfl (by show 2 * 0 + _ ≤ _; exact Nat.le_of_eq rfl) (hb hby d36_60) (fun _ _ => ⟨rfl, e1, (by decide : 0 + 0 ≤ rO_4.cells), (by decide : 0 + 0 ≤ rO_4.slots)⟩)
    dsimp only [Pt.U, Pt.locs, Pt.cells, Pt.slots] at X93 l93 y93 z93 st93 hQ93
    subst l93 y93 z93
    obtain ⟨rfl, N93q, Kq93, Rq93⟩ := hQ93
    have N93 := Fr.app N0 N93q
    obtain ⟨rr93, ll93, hrb93, EOq93, FO1q93, FO2q93, FO3q93, FO4q93, FOrq93, FOlq93, AN1q93, AN2q93, AN3q93, AN4q93⟩ := Rq93
    have f94 := EO.keep Kq93
    have Z95 := Nat.le_trans Z0 Kq93.1
    have K96 := K0.trans Kq93 (allS (Or.inl (List.mem_of_getElem? (i := 0) rfl)) (allS (Or.inl (List.mem_of_getElem? (i := 1) rfl)) (allS (Or.inl (List.mem_of_getElem? (i := 2) rfl)) (allS (Or.inl (List.mem_of_getElem? (i := 3) rfl)) (allS (Or.inl (List.mem_of_getElem? (i := 4) rfl)) all0)))))
    obtain ⟨k93_7, w93_7, h93_7, v93_7, V93_7⟩ := AN1q93
    obtain ⟨k93_8, w93_8, h93_8, v93_8, V93_8⟩ := AN2q93
    obtain ⟨k93_9, w93_9, h93_9, v93_9, V93_9⟩ := AN3q93
    obtain ⟨k93_10, w93_10, h93_10, v93_10, V93_10⟩ := AN4q93
    obtain ⟨T97, X97, e97, st97⟩ := getF X93 hx hZ hown (host := "") (Or.inl (own_w hw 234 rfl)) Via.refl rfl FOlq93 (g := (mkF m 65 #[vR ob, vI x, vI y] [(.ref ob), (.ref ob)])) rfl rfl (hb hby d36_65)
    obtain ⟨T98, h98, X98, e98, W98, st98⟩ := putF X97 hx hZ hown (host := "") (Or.inl (own_w hw 234 rfl)) Via.refl e97 FOlq93 EOq93 (Or.inl (own_w hw 235 rfl)) (own_w hw 32 rfl) (ty := .int) (by decide) rfl rfl (g := (mkF m 70 #[vR ob, vI x, vI y] [(.int (ll93 + y)), (.ref ob)])) rfl rfl (hb hby d36_70)
    have f99 := FOlq93.same W98
    have f100 := EOq93.wr W98
    have f101 := FO1q93.other W98 (Or.inr (slot_ne (Or.inl (own_w hw 40 rfl)) (Or.inl (own_w hw 235 rfl)) (by decide) (t := (.array .int)) (t' := .int) (by decide) (by decide)))
    have f102 := V93_7.other W98 (Ne.symm n_ob_o1)
    have f103 := FO2q93.other W98 (Or.inr (slot_ne (Or.inl (own_w hw 42 rfl)) (Or.inl (own_w hw 235 rfl)) (by decide) (t := (.array .int)) (t' := .int) (by decide) (by decide)))
    have f104 := V93_8.other W98 (Ne.symm n_ob_o2)
    have f105 := FO3q93.other W98 (Or.inr (slot_ne (Or.inl (own_w hw 44 rfl)) (Or.inl (own_w hw 235 rfl)) (by decide) (t := (.array .int)) (t' := .int) (by decide) (by decide)))
    have f106 := V93_9.other W98 (Ne.symm n_ob_o3)
    have f107 := FO4q93.other W98 (Or.inr (slot_ne (Or.inl (own_w hw 47 rfl)) (Or.inl (own_w hw 235 rfl)) (by decide) (t := (.array .boolean)) (t' := .int) (by decide) (by decide)))
    have f108 := V93_10.other W98 (Ne.symm n_ob_o4)
    have f109 := FOrq93.other W98 (Or.inr (slot_ne (Or.inl (own_w hw 229 rfl)) (Or.inl (own_w hw 235 rfl)) (by decide) (t := .int) (t' := .int) (by decide) (by decide)))
    have Z110 := Nat.le_trans Z95 (Nat.le_of_eq W98.size.symm)
    have K111 := K96.wr W98 (Or.inl (List.mem_of_getElem? (i := 0) rfl))
    have N112 := Fr.snoc X98 N93 g_ob
    have go113 : Goes p e below s₁ (entryFrame m #[(.ref ob), (.int x), (.int y)] 3) T98 (mkF m 73 #[vR ob, vI x, vI y] []) := fun t k => by
      refine go2 t ?_
      refine XS.ifYes X1.here hx rfl (pc0 := 4) (pc' := 54) rfl (hb hby d36_4) rfl (Jvm.Free.XT.i0_le_t hc3) (by decide) (by decide) ?_
      refine XS.aloadN X1.here hx rfl (hb hby d36_54) rfl rfl ?_
      refine XS.iloadN X1.here hx rfl (hb hby d36_55) rfl ?_
      refine XS.iloadN X1.here hx rfl (hb hby d36_56) rfl ?_
      refine XS.iloadN X1.here hx rfl (hb hby d36_57) rfl ?_
      refine XS.iadd X1.here hx rfl (hb hby d36_58) rfl ?_
      show Steps p.tables e below (T1.setTop (mkF m 59 #[vR ob, vI x, vI y] [(.int (x + y)), (.int x), (.ref ob)])) _
      refine XS.iconst X1.here hx rfl (hb hby d36_59) ?_
      refine st93.trans ?_
      refine XS.aloadN X93.here hx rfl (hb hby d36_63) rfl rfl ?_
      refine XS.dup X93.here hx rfl (hb hby d36_64) rfl rfl ?_
      refine st97 t ?_
      refine XS.iloadN X97.here hx rfl (hb hby d36_68) rfl ?_
      show Steps p.tables e below (T97.setTop (mkF m 69 #[vR ob, vI x, vI y] [(.int y), (.int ll93), (.ref ob)])) _
      refine XS.iadd X97.here hx rfl (hb hby d36_69) rfl ?_
      refine st98 t ?_
      exact k
    obtain ⟨fs, hr, hrun, hended, hW, hsame⟩ := X98.leave (v := none) (fun _ => rfl)
    refine ⟨_, _, go113 _ ?_, hrun, hended, _, _, rfl, ?_, ⟨_, rfl⟩, hW, hsame.mono (by decide) (by decide)⟩
    · exact X98.returnOut hx Bd.returns (hb hby d36_73) hr
    · show QOl Z _ _ _ _ _ _ _ _ _ _ _ _ _ T98.heap _
      rw [e98]
      exact ⟨rfl, N112, K111, _, _, hrb93, f100, f101, f103, f105, f107, f109, f99, ⟨_, _, h93_7, v93_7, f102⟩, ⟨_, _, h93_8, v93_8, f104⟩, ⟨_, _, h93_9, v93_9, f106⟩, ⟨_, _, h93_10, v93_10, f108⟩⟩
theorem d40_0 : dc40 0 (.aload_n 0) 1 := by decide +kernel
theorem d40_1 : dc40 1 (.iload_n 1) 1 := by decide +kernel
theorem d40_2 : dc40 2 (.iload_n 2) 1 := by decide +kernel
theorem d40_3 : dc40 3 (.iconst 0) 1 := by decide +kernel
theorem d40_4 : dc40 4 (.invokevirtual 27) 3 := by decide +kernel
theorem d40_7 : dc40 7 (.aload_n 0) 1 := by decide +kernel
theorem d40_8 : dc40 8 (.dup) 1 := by decide +kernel
theorem d40_9 : dc40 9 (.getfield 31) 3 := by decide +kernel
theorem d40_12 : dc40 12 (.iload_n 3) 1 := by decide +kernel
theorem d40_13 : dc40 13 (.iadd) 1 := by decide +kernel
theorem d40_14 : dc40 14 (.putfield 31) 3 := by decide +kernel
theorem d40_17 : dc40 17 (.return_) 1 := by decide +kernel
theorem ef_rmOs (m : MethodId) (ob : Addr) (x : Int32) (y : Int32) (z : Int32) : entryFrame m #[(.ref ob), (.int x), (.int y), (.int z)] 4 = mkF m 0 #[.val (.ref ob), .val (.int x), .val (.int y), .val (.int z)] [] := by first | (simp [entryFrame, mkF, argsToLocals, Value.category]; done) | rfl
def QOs (Z : State) (ob : Addr) (x : Int32) (y : Int32) (z : Int32) (o1 o2 o3 o4 : Addr) (rr ll : Int32) (K : Nat) (h0 : Heap) (n0 : Nat) (v : Option Value) (h : Heap) (L : List Loc) : Prop := v = none ∧ Fr n0 L ∧ Keep h0 h [ob, o1, o2, o3, o4] ∧ ∃ (rr' ll' : Int32), own_rb rr' (K + 1) ∧ Exa Z h ob "com/example/whereas/whereas/model/Origins$Builder" ∧ Fld Z h ob "com/example/whereas/whereas/model/Origins$Builder" "starts" "[I" (.ref o1) ∧ Fld Z h ob "com/example/whereas/whereas/model/Origins$Builder" "originStarts" "[I" (.ref o2) ∧ Fld Z h ob "com/example/whereas/whereas/model/Origins$Builder" "originEnds" "[I" (.ref o3) ∧ Fld Z h ob "com/example/whereas/whereas/model/Origins$Builder" "literal" "[Z" (.ref o4) ∧ Fld Z h ob "com/example/whereas/whereas/model/Origins$Builder" "runs" "I" (.int rr') ∧ Fld Z h ob "com/example/whereas/whereas/model/Origins$Builder" "length" "I" (.int ll') ∧ own_An Z h o1 .int ∧ own_An Z h o2 .int ∧ own_An Z h o3 .int ∧ own_An Z h o4 .boolean
set_option maxRecDepth 65536 in
set_option maxHeartbeats 40000000 in
theorem rmOs (l : Launch) (Z : State) (a0 : Array Value) (hw : ∀ d ∈ tables_1, d.before a0 Z = true) (ws : List Jvm.Cond) (ob : Addr) (x : Int32) (y : Int32) (z : Int32) (o1 o2 o3 o4 : Addr) (rr ll : Int32) (K : Nat) (h0 : Heap) (n0 : Nat) (Z0 : n0 ≤ h0.size) (EO : Exa Z h0 ob "com/example/whereas/whereas/model/Origins$Builder") (FO1 : Fld Z h0 ob "com/example/whereas/whereas/model/Origins$Builder" "starts" "[I" (.ref o1)) (FO2 : Fld Z h0 ob "com/example/whereas/whereas/model/Origins$Builder" "originStarts" "[I" (.ref o2)) (FO3 : Fld Z h0 ob "com/example/whereas/whereas/model/Origins$Builder" "originEnds" "[I" (.ref o3)) (FO4 : Fld Z h0 ob "com/example/whereas/whereas/model/Origins$Builder" "literal" "[Z" (.ref o4)) (FOr : Fld Z h0 ob "com/example/whereas/whereas/model/Origins$Builder" "runs" "I" (.int rr)) (FOl : Fld Z h0 ob "com/example/whereas/whereas/model/Origins$Builder" "length" "I" (.int ll)) (AN1 : own_An Z h0 o1 .int) (AN2 : own_An Z h0 o2 .int) (AN3 : own_An Z h0 o3 .int) (AN4 : own_An Z h0 o4 .boolean) (n_ob_o1 : ob ≠ o1) (n_ob_o2 : ob ≠ o2) (n_ob_o3 : ob ≠ o3) (n_ob_o4 : ob ≠ o4) (n_o1_o2 : o1 ≠ o2) (n_o1_o3 : o1 ≠ o3) (n_o1_o4 : o1 ≠ o4) (n_o2_o3 : o2 ≠ o3) (n_o2_o4 : o2 ≠ o4) (n_o3_o4 : o3 ≠ o4) (g_ob : n0 ≤ ob) (g_o1 : n0 ≤ o1) (g_o2 : n0 ≤ o2) (g_o3 : n0 ≤ o3) (g_o4 : n0 ≤ o4) (hrb : own_rb rr K) (hKb : K < 15) :
    MetFree l mN_25 (head1 (Jvm.Cond.code mN_25 prog_44_method_3_code 4 none :: ws) rO_4) (fun a U => a = #[(.ref ob), (.int x), (.int y), (.int z)] ∧ Z.Warmed39 U.vm ∧ U.heap = h0) (fun _ _ _ _ _ => True) (fun _ U o U' => ∃ v L, o = .returned v ∧ QOs Z ob x y z o1 o2 o3 o4 rr ll K h0 n0 v U'.heap L ∧ FrameEnd U o U' L rO_4.cells rO_4.slots) := by
  refine MetFree.of_bodySF (plainFor_of_name pn_6) hisR ?_
  intro p e s m args below meth c s₁ Bd hml0 hP hK
  obtain ⟨rfl, hZ, hh⟩ := hP
  have hx := Bd.exec
  have hby := Bd.bytes
  have hml : c.maxLocals = 4 := hml0
  have hown : s.vm.findClass "com/example/whereas/whereas/model/Origins$Builder" = some m.cls := findClass_of_methodNamed Bd.named
  have hnm := (name_of_methodNamed Bd.named Bd.method).1
  have X0 : Stand p l e rO_4 s m #[(.ref ob), (.int x), (.int y), (.int z)] below meth c s₁ [] 0 0 := Stand.of_body Bd
  have e0 : s₁.heap = h0 := by rw [← hh, Bd.state]; rfl
  have N0 := Fr.nil n0
  have K0 := Keep.refl h0 [ob, o1, o2, o3, o4]
  have go0 : Goes p e below s₁ (entryFrame m #[(.ref ob), (.int x), (.int y), (.int z)] 4) s₁ (mkF m 0 #[vR ob, vI x, vI y, vI z] []) := fun t k => castTop (ef_rmOs m ob x y z) k
  obtain ⟨kO1, wO1, hO1, vO1, VO1⟩ := AN1
  obtain ⟨kO2, wO2, hO2, vO2, VO2⟩ := AN2
  obtain ⟨kO3, wO3, hO3, vO3, VO3⟩ := AN3
  obtain ⟨kO4, wO4, hO4, vO4, VO4⟩ := AN4
  obtain ⟨cq1, q1a, q1b⟩ := EO.cell
  obtain ⟨_, _, ⟨T1, L1, k1, n1⟩, -, X1, ⟨Lc1, hQ1, l1, y1, z1⟩, st1⟩ := X0.privateBack hx (y := mN_9) hown (mvT hZ (own_w hw 230 rfl)) (mvT hZ (own_w hw 231 rfl)) (own_selp (y := mN_9) (by decide) (mvT hZ (own_w hw 32 rfl)) (mvP hZ (own_w hw 232 rfl)) (mvT hZ (own_w hw 231 rfl))) (Cond.privateMethod_at (mvP hZ (own_w hw 232 rfl) (args := #[]))) (mvT hZ (own_w hw 233 rfl)) (by decide) (backOf (W := 0) (rmOa l Z a0 hw [] ob x y (0 : Int32) o1 o2 o3 o4 rr ll K h0 n0 Z0 EO FO1 FO2 FO3 FO4 FOr FOl ⟨_, _, hO1, vO1, VO1⟩ ⟨_, _, hO2, vO2, VO2⟩ ⟨_, _, hO3, vO3, VO3⟩ ⟨_, _, hO4, vO4, VO4⟩ n_ob_o1 n_ob_o2 n_ob_o3 n_ob_o4 n_o1_o2 n_o1_o3 n_o1_o4 n_o2_o3 n_o2_o4 n_o3_o4 g_ob g_o1 g_o2 g_o3 g_o4 hrb hKb) hZ (own_w hw 233 rfl) (own_w hw 33 rfl) (by decide) (by decide)) (g := (mkF m 4 #[vR ob, vI x, vI y, vI z] [(.int (0 : Int32)), (.int y), (.int x), (.ref ob)])) rfl (by rw [hml]; rfl) (Steps.refl _) (a := ob) (by rw [e0]; exact q1a) q1b (argsL := [(.int x), (.int y), (.int (0 : Int32))]) (rest := []) (lenOf pd_13 rfl) rfl (by show 2 * 0 + _ ≤ _; exact Nat.le_of_eq rfl) (hb hby d40_4) (fun _ _ => ⟨rfl, e0, (by decide : 0 + 0 ≤ rO_4.cells), (by decide : 0 + 0 ≤ rO_4.slots)⟩)
  dsimp only [Pt.U, Pt.locs, Pt.cells, Pt.slots] at X1 l1 y1 z1 st1 hQ1
  subst l1 y1 z1
  obtain ⟨rfl, N1q, Kq1, Rq1⟩ := hQ1
  have N1 := Fr.app N0 N1q
  obtain ⟨rr1, ll1, hrb1, EOq1, FO1q1, FO2q1, FO3q1, FO4q1, FOrq1, FOlq1, AN1q1, AN2q1, AN3q1, AN4q1⟩ := Rq1
  have f2 := EO.keep Kq1
  have Z3 := Nat.le_trans Z0 Kq1.1
  have K4 := K0.trans Kq1 (allS (Or.inl (List.mem_of_getElem? (i := 0) rfl)) (allS (Or.inl (List.mem_of_getElem? (i := 1) rfl)) (allS (Or.inl (List.mem_of_getElem? (i := 2) rfl)) (allS (Or.inl (List.mem_of_getElem? (i := 3) rfl)) (allS (Or.inl (List.mem_of_getElem? (i := 4) rfl)) all0)))))
  obtain ⟨k1_7, w1_7, h1_7, v1_7, V1_7⟩ := AN1q1
  obtain ⟨k1_8, w1_8, h1_8, v1_8, V1_8⟩ := AN2q1
  obtain ⟨k1_9, w1_9, h1_9, v1_9, V1_9⟩ := AN3q1
  obtain ⟨k1_10, w1_10, h1_10, v1_10, V1_10⟩ := AN4q1
  obtain ⟨T5, X5, e5, st5⟩ := getF X1 hx hZ hown (host := "") (Or.inl (own_w hw 234 rfl)) Via.refl rfl FOlq1 (g := (mkF m 9 #[vR ob, vI x, vI y, vI z] [(.ref ob), (.ref ob)])) rfl rfl (hb hby d40_9)
  obtain ⟨T6, h6, X6, e6, W6, st6⟩ := putF X5 hx hZ hown (host := "") (Or.inl (own_w hw 234 rfl)) Via.refl e5 FOlq1 EOq1 (Or.inl (own_w hw 235 rfl)) (own_w hw 32 rfl) (ty := .int) (by decide) rfl rfl (g := (mkF m 14 #[vR ob, vI x, vI y, vI z] [(.int (ll1 + z)), (.ref ob)])) rfl rfl (hb hby d40_14)
  have f7 := FOlq1.same W6
  have f8 := EOq1.wr W6
  have f9 := FO1q1.other W6 (Or.inr (slot_ne (Or.inl (own_w hw 40 rfl)) (Or.inl (own_w hw 235 rfl)) (by decide) (t := (.array .int)) (t' := .int) (by decide) (by decide)))
  have f10 := V1_7.other W6 (Ne.symm n_ob_o1)
  have f11 := FO2q1.other W6 (Or.inr (slot_ne (Or.inl (own_w hw 42 rfl)) (Or.inl (own_w hw 235 rfl)) (by decide) (t := (.array .int)) (t' := .int) (by decide) (by decide)))
  have f12 := V1_8.other W6 (Ne.symm n_ob_o2)
  have f13 := FO3q1.other W6 (Or.inr (slot_ne (Or.inl (own_w hw 44 rfl)) (Or.inl (own_w hw 235 rfl)) (by decide) (t := (.array .int)) (t' := .int) (by decide) (by decide)))
  have f14 := V1_9.other W6 (Ne.symm n_ob_o3)
  have f15 := FO4q1.other W6 (Or.inr (slot_ne (Or.inl (own_w hw 47 rfl)) (Or.inl (own_w hw 235 rfl)) (by decide) (t := (.array .boolean)) (t' := .int) (by decide) (by decide)))
  have f16 := V1_10.other W6 (Ne.symm n_ob_o4)
  have f17 := FOrq1.other W6 (Or.inr (slot_ne (Or.inl (own_w hw 229 rfl)) (Or.inl (own_w hw 235 rfl)) (by decide) (t := .int) (t' := .int) (by decide) (by decide)))
  have Z18 := Nat.le_trans Z3 (Nat.le_of_eq W6.size.symm)
  have K19 := K4.wr W6 (Or.inl (List.mem_of_getElem? (i := 0) rfl))
  have N20 := Fr.snoc X6 N1 g_ob
  have go21 : Goes p e below s₁ (entryFrame m #[(.ref ob), (.int x), (.int y), (.int z)] 4) T6 (mkF m 17 #[vR ob, vI x, vI y, vI z] []) := fun t k => by
    refine go0 t ?_
    refine XS.aloadN X0.here hx rfl (hb hby d40_0) rfl rfl ?_
    refine XS.iloadN X0.here hx rfl (hb hby d40_1) rfl ?_
    refine XS.iloadN X0.here hx rfl (hb hby d40_2) rfl ?_
    refine XS.iconst X0.here hx rfl (hb hby d40_3) ?_
    refine st1.trans ?_
    refine XS.aloadN X1.here hx rfl (hb hby d40_7) rfl rfl ?_
    show Steps p.tables e below (T1.setTop (mkF m 8 #[vR ob, vI x, vI y, vI z] [(.ref ob)])) _
    refine XS.dup X1.here hx rfl (hb hby d40_8) rfl rfl ?_
    refine st5 t ?_
    refine XS.iloadN X5.here hx rfl (hb hby d40_12) rfl ?_
    refine XS.iadd X5.here hx rfl (hb hby d40_13) rfl ?_
    refine st6 t ?_
    exact k
  obtain ⟨fs, hr, hrun, hended, hW, hsame⟩ := X6.leave (v := none) (fun _ => rfl)
  refine ⟨_, _, go21 _ ?_, hrun, hended, _, _, rfl, ?_, ⟨_, rfl⟩, hW, hsame.mono (by decide) (by decide)⟩
  · exact X6.returnOut hx Bd.returns (hb hby d40_17) hr
  · show QOs Z _ _ _ _ _ _ _ _ _ _ _ _ _ _ T6.heap _
    rw [e6]
    exact ⟨rfl, N20, K19, _, _, hrb1, f8, f9, f11, f13, f15, f17, f7, ⟨_, _, h1_7, v1_7, f10⟩, ⟨_, _, h1_8, v1_8, f12⟩, ⟨_, _, h1_9, v1_9, f14⟩, ⟨_, _, h1_10, v1_10, f16⟩⟩
def own_HX (Z : State) (h : Heap) (aH aT vT aP vP aQ aK ob o1 o2 o3 o4 : Addr) (kT : ClassId) (kP : ClassId) (kQ : ClassId) (kK : ClassId) (nT : Int32) (mT : Int32) (mP : Int32) (rr : Int32) (ll : Int32) (tx : List Int32) (px : List Int32) (cP : Int32) (po : List Value) (pk : List Value) (K : Nat) (brk : Int32) (tabs : Int32) (cells : Int32) (par : Int32) (col : Int32) (ls : Int32) (inr : Int32) (rs : Int32) : Prop := own_ln tx nT ∧ own_rb rr K ∧ Exa Z h aH "com/example/whereas/whereas/model/HtmlLayout" ∧ Fld Z h aH "com/example/whereas/whereas/model/HtmlLayout" "text" "Ljava/lang/StringBuilder;" (.ref aT) ∧ Fld Z h aH "com/example/whereas/whereas/model/HtmlLayout" "origins" "Lcom/example/whereas/whereas/model/Origins$Builder;" (.ref ob) ∧ Fld Z h aH "com/example/whereas/whereas/model/HtmlLayout" "pending" "Ljava/lang/StringBuilder;" (.ref aP) ∧ Fld Z h aH "com/example/whereas/whereas/model/HtmlLayout" "pendingOrigins" "[I" (.ref aQ) ∧ Fld Z h aH "com/example/whereas/whereas/model/HtmlLayout" "pendingKept" "[Z" (.ref aK) ∧ Fld Z h aH "com/example/whereas/whereas/model/HtmlLayout" "breaks" "I" (.int brk) ∧ Fld Z h aH "com/example/whereas/whereas/model/HtmlLayout" "tabs" "I" (.int tabs) ∧ Fld Z h aH "com/example/whereas/whereas/model/HtmlLayout" "cells" "I" (.int cells) ∧ Fld Z h aH "com/example/whereas/whereas/model/HtmlLayout" "paragraph" "Z" (.int par) ∧ Fld Z h aH "com/example/whereas/whereas/model/HtmlLayout" "collapsing" "Z" (.int col) ∧ Fld Z h aH "com/example/whereas/whereas/model/HtmlLayout" "lineShows" "Z" (.int ls) ∧ Fld Z h aH "com/example/whereas/whereas/model/HtmlLayout" "inRow" "Z" (.int inr) ∧ Fld Z h aH "com/example/whereas/whereas/model/HtmlLayout" "rowShows" "Z" (.int rs) ∧ Exa Z h aT "java/lang/StringBuilder" ∧ Fld Z h aT "java/lang/AbstractStringBuilder" "value" "[B" (.ref vT) ∧ Fld Z h aT "java/lang/AbstractStringBuilder" "coder" "B" (.int (0 : Int32)) ∧ Fld Z h aT "java/lang/AbstractStringBuilder" "count" "I" (.int nT) ∧ Fld Z h aT "java/lang/AbstractStringBuilder" "maybeLatin1" "Z" (.int mT) ∧ Arv Z h vT kT .byte 16 (own_vs tx) (.int (0 : Int32)) ∧ Exa Z h aP "java/lang/StringBuilder" ∧ Fld Z h aP "java/lang/AbstractStringBuilder" "value" "[B" (.ref vP) ∧ Fld Z h aP "java/lang/AbstractStringBuilder" "coder" "B" (.int (0 : Int32)) ∧ Fld Z h aP "java/lang/AbstractStringBuilder" "count" "I" (.int cP) ∧ Fld Z h aP "java/lang/AbstractStringBuilder" "maybeLatin1" "Z" (.int mP) ∧ Arv Z h vP kP .byte 16 (own_vs px) (.int (0 : Int32)) ∧ Arv Z h aQ kQ .int 8 po (.int (0 : Int32)) ∧ Arv Z h aK kK .boolean 4 pk (.int (0 : Int32)) ∧ Exa Z h ob "com/example/whereas/whereas/model/Origins$Builder" ∧ Fld Z h ob "com/example/whereas/whereas/model/Origins$Builder" "starts" "[I" (.ref o1) ∧ Fld Z h ob "com/example/whereas/whereas/model/Origins$Builder" "originStarts" "[I" (.ref o2) ∧ Fld Z h ob "com/example/whereas/whereas/model/Origins$Builder" "originEnds" "[I" (.ref o3) ∧ Fld Z h ob "com/example/whereas/whereas/model/Origins$Builder" "literal" "[Z" (.ref o4) ∧ Fld Z h ob "com/example/whereas/whereas/model/Origins$Builder" "runs" "I" (.int rr) ∧ Fld Z h ob "com/example/whereas/whereas/model/Origins$Builder" "length" "I" (.int ll) ∧ own_An Z h o1 .int ∧ own_An Z h o2 .int ∧ own_An Z h o3 .int ∧ own_An Z h o4 .boolean
def own_HB (Z : State) (h : Heap) (aH aT vT aP vP aQ aK ob o1 o2 o3 o4 : Addr) (tx : List Int32) (px : List Int32) (cP : Int32) (po : List Value) (pk : List Value) (K : Nat) (brk : Int32) (tabs : Int32) (cells : Int32) (par : Int32) (col : Int32) (ls : Int32) (inr : Int32) (rs : Int32) : Prop := ∃ (kT kP kQ kK : ClassId) (nT mT mP rr ll : Int32), own_HX Z h aH aT vT aP vP aQ aK ob o1 o2 o3 o4 kT kP kQ kK nT mT mP rr ll tx px cP po pk K brk tabs cells par col ls inr rs
section HXs
variable {Z : State} {h h' : Heap} {aH aT vT aP vP aQ aK ob o1 o2 o3 o4 : Addr} {kT : ClassId} {kP : ClassId} {kQ : ClassId} {kK : ClassId} {nT : Int32} {mT : Int32} {mP : Int32} {rr : Int32} {ll : Int32} {tx : List Int32} {px : List Int32} {cP : Int32} {po : List Value} {pk : List Value} {K : Nat} {brk : Int32} {tabs : Int32} {cells : Int32} {par : Int32} {col : Int32} {ls : Int32} {inr : Int32} {rs : Int32}
theorem pj_hln (X : own_HX Z h aH aT vT aP vP aQ aK ob o1 o2 o3 o4 kT kP kQ kK nT mT mP rr ll tx px cP po pk K brk tabs cells par col ls inr rs) : own_ln tx nT := X.1
theorem pj_hrb (X : own_HX Z h aH aT vT aP vP aQ aK ob o1 o2 o3 o4 kT kP kQ kK nT mT mP rr ll tx px cP po pk K brk tabs cells par col ls inr rs) : own_rb rr K := X.2.1
theorem pj_EH (X : own_HX Z h aH aT vT aP vP aQ aK ob o1 o2 o3 o4 kT kP kQ kK nT mT mP rr ll tx px cP po pk K brk tabs cells par col ls inr rs) : Exa Z h aH "com/example/whereas/whereas/model/HtmlLayout" := X.2.2.1
theorem pj_FH_text (X : own_HX Z h aH aT vT aP vP aQ aK ob o1 o2 o3 o4 kT kP kQ kK nT mT mP rr ll tx px cP po pk K brk tabs cells par col ls inr rs) : Fld Z h aH "com/example/whereas/whereas/model/HtmlLayout" "text" "Ljava/lang/StringBuilder;" (.ref aT) := X.2.2.2.1
theorem pj_FH_origins (X : own_HX Z h aH aT vT aP vP aQ aK ob o1 o2 o3 o4 kT kP kQ kK nT mT mP rr ll tx px cP po pk K brk tabs cells par col ls inr rs) : Fld Z h aH "com/example/whereas/whereas/model/HtmlLayout" "origins" "Lcom/example/whereas/whereas/model/Origins$Builder;" (.ref ob) := X.2.2.2.2.1
theorem pj_FH_pending (X : own_HX Z h aH aT vT aP vP aQ aK ob o1 o2 o3 o4 kT kP kQ kK nT mT mP rr ll tx px cP po pk K brk tabs cells par col ls inr rs) : Fld Z h aH "com/example/whereas/whereas/model/HtmlLayout" "pending" "Ljava/lang/StringBuilder;" (.ref aP) := X.2.2.2.2.2.1
theorem pj_FH_pendingOrigins (X : own_HX Z h aH aT vT aP vP aQ aK ob o1 o2 o3 o4 kT kP kQ kK nT mT mP rr ll tx px cP po pk K brk tabs cells par col ls inr rs) : Fld Z h aH "com/example/whereas/whereas/model/HtmlLayout" "pendingOrigins" "[I" (.ref aQ) := X.2.2.2.2.2.2.1
theorem pj_FH_pendingKept (X : own_HX Z h aH aT vT aP vP aQ aK ob o1 o2 o3 o4 kT kP kQ kK nT mT mP rr ll tx px cP po pk K brk tabs cells par col ls inr rs) : Fld Z h aH "com/example/whereas/whereas/model/HtmlLayout" "pendingKept" "[Z" (.ref aK) := X.2.2.2.2.2.2.2.1
theorem pj_FH_breaks (X : own_HX Z h aH aT vT aP vP aQ aK ob o1 o2 o3 o4 kT kP kQ kK nT mT mP rr ll tx px cP po pk K brk tabs cells par col ls inr rs) : Fld Z h aH "com/example/whereas/whereas/model/HtmlLayout" "breaks" "I" (.int brk) := X.2.2.2.2.2.2.2.2.1
theorem pj_FH_tabs (X : own_HX Z h aH aT vT aP vP aQ aK ob o1 o2 o3 o4 kT kP kQ kK nT mT mP rr ll tx px cP po pk K brk tabs cells par col ls inr rs) : Fld Z h aH "com/example/whereas/whereas/model/HtmlLayout" "tabs" "I" (.int tabs) := X.2.2.2.2.2.2.2.2.2.1
theorem pj_FH_cells (X : own_HX Z h aH aT vT aP vP aQ aK ob o1 o2 o3 o4 kT kP kQ kK nT mT mP rr ll tx px cP po pk K brk tabs cells par col ls inr rs) : Fld Z h aH "com/example/whereas/whereas/model/HtmlLayout" "cells" "I" (.int cells) := X.2.2.2.2.2.2.2.2.2.2.1
theorem pj_FH_paragraph (X : own_HX Z h aH aT vT aP vP aQ aK ob o1 o2 o3 o4 kT kP kQ kK nT mT mP rr ll tx px cP po pk K brk tabs cells par col ls inr rs) : Fld Z h aH "com/example/whereas/whereas/model/HtmlLayout" "paragraph" "Z" (.int par) := X.2.2.2.2.2.2.2.2.2.2.2.1
theorem pj_FH_collapsing (X : own_HX Z h aH aT vT aP vP aQ aK ob o1 o2 o3 o4 kT kP kQ kK nT mT mP rr ll tx px cP po pk K brk tabs cells par col ls inr rs) : Fld Z h aH "com/example/whereas/whereas/model/HtmlLayout" "collapsing" "Z" (.int col) := X.2.2.2.2.2.2.2.2.2.2.2.2.1
theorem pj_FH_lineShows (X : own_HX Z h aH aT vT aP vP aQ aK ob o1 o2 o3 o4 kT kP kQ kK nT mT mP rr ll tx px cP po pk K brk tabs cells par col ls inr rs) : Fld Z h aH "com/example/whereas/whereas/model/HtmlLayout" "lineShows" "Z" (.int ls) := X.2.2.2.2.2.2.2.2.2.2.2.2.2.1
theorem pj_FH_inRow (X : own_HX Z h aH aT vT aP vP aQ aK ob o1 o2 o3 o4 kT kP kQ kK nT mT mP rr ll tx px cP po pk K brk tabs cells par col ls inr rs) : Fld Z h aH "com/example/whereas/whereas/model/HtmlLayout" "inRow" "Z" (.int inr) := X.2.2.2.2.2.2.2.2.2.2.2.2.2.2.1
theorem pj_FH_rowShows (X : own_HX Z h aH aT vT aP vP aQ aK ob o1 o2 o3 o4 kT kP kQ kK nT mT mP rr ll tx px cP po pk K brk tabs cells par col ls inr rs) : Fld Z h aH "com/example/whereas/whereas/model/HtmlLayout" "rowShows" "Z" (.int rs) := X.2.2.2.2.2.2.2.2.2.2.2.2.2.2.2.1
theorem pj_EsT_ (X : own_HX Z h aH aT vT aP vP aQ aK ob o1 o2 o3 o4 kT kP kQ kK nT mT mP rr ll tx px cP po pk K brk tabs cells par col ls inr rs) : Exa Z h aT "java/lang/StringBuilder" := X.2.2.2.2.2.2.2.2.2.2.2.2.2.2.2.2.1
theorem pj_FvT_ (X : own_HX Z h aH aT vT aP vP aQ aK ob o1 o2 o3 o4 kT kP kQ kK nT mT mP rr ll tx px cP po pk K brk tabs cells par col ls inr rs) : Fld Z h aT "java/lang/AbstractStringBuilder" "value" "[B" (.ref vT) := X.2.2.2.2.2.2.2.2.2.2.2.2.2.2.2.2.2.1
theorem pj_FcT_ (X : own_HX Z h aH aT vT aP vP aQ aK ob o1 o2 o3 o4 kT kP kQ kK nT mT mP rr ll tx px cP po pk K brk tabs cells par col ls inr rs) : Fld Z h aT "java/lang/AbstractStringBuilder" "coder" "B" (.int (0 : Int32)) := X.2.2.2.2.2.2.2.2.2.2.2.2.2.2.2.2.2.2.1
theorem pj_FnT_ (X : own_HX Z h aH aT vT aP vP aQ aK ob o1 o2 o3 o4 kT kP kQ kK nT mT mP rr ll tx px cP po pk K brk tabs cells par col ls inr rs) : Fld Z h aT "java/lang/AbstractStringBuilder" "count" "I" (.int nT) := X.2.2.2.2.2.2.2.2.2.2.2.2.2.2.2.2.2.2.2.1
theorem pj_FmT_ (X : own_HX Z h aH aT vT aP vP aQ aK ob o1 o2 o3 o4 kT kP kQ kK nT mT mP rr ll tx px cP po pk K brk tabs cells par col ls inr rs) : Fld Z h aT "java/lang/AbstractStringBuilder" "maybeLatin1" "Z" (.int mT) := X.2.2.2.2.2.2.2.2.2.2.2.2.2.2.2.2.2.2.2.2.1
theorem pj_VaT_ (X : own_HX Z h aH aT vT aP vP aQ aK ob o1 o2 o3 o4 kT kP kQ kK nT mT mP rr ll tx px cP po pk K brk tabs cells par col ls inr rs) : Arv Z h vT kT .byte 16 (own_vs tx) (.int (0 : Int32)) := X.2.2.2.2.2.2.2.2.2.2.2.2.2.2.2.2.2.2.2.2.2.1
theorem pj_EsP_ (X : own_HX Z h aH aT vT aP vP aQ aK ob o1 o2 o3 o4 kT kP kQ kK nT mT mP rr ll tx px cP po pk K brk tabs cells par col ls inr rs) : Exa Z h aP "java/lang/StringBuilder" := X.2.2.2.2.2.2.2.2.2.2.2.2.2.2.2.2.2.2.2.2.2.2.1
theorem pj_FvP_ (X : own_HX Z h aH aT vT aP vP aQ aK ob o1 o2 o3 o4 kT kP kQ kK nT mT mP rr ll tx px cP po pk K brk tabs cells par col ls inr rs) : Fld Z h aP "java/lang/AbstractStringBuilder" "value" "[B" (.ref vP) := X.2.2.2.2.2.2.2.2.2.2.2.2.2.2.2.2.2.2.2.2.2.2.2.1
theorem pj_FcP_ (X : own_HX Z h aH aT vT aP vP aQ aK ob o1 o2 o3 o4 kT kP kQ kK nT mT mP rr ll tx px cP po pk K brk tabs cells par col ls inr rs) : Fld Z h aP "java/lang/AbstractStringBuilder" "coder" "B" (.int (0 : Int32)) := X.2.2.2.2.2.2.2.2.2.2.2.2.2.2.2.2.2.2.2.2.2.2.2.2.1
theorem pj_FnP_ (X : own_HX Z h aH aT vT aP vP aQ aK ob o1 o2 o3 o4 kT kP kQ kK nT mT mP rr ll tx px cP po pk K brk tabs cells par col ls inr rs) : Fld Z h aP "java/lang/AbstractStringBuilder" "count" "I" (.int cP) := X.2.2.2.2.2.2.2.2.2.2.2.2.2.2.2.2.2.2.2.2.2.2.2.2.2.1
theorem pj_FmP_ (X : own_HX Z h aH aT vT aP vP aQ aK ob o1 o2 o3 o4 kT kP kQ kK nT mT mP rr ll tx px cP po pk K brk tabs cells par col ls inr rs) : Fld Z h aP "java/lang/AbstractStringBuilder" "maybeLatin1" "Z" (.int mP) := X.2.2.2.2.2.2.2.2.2.2.2.2.2.2.2.2.2.2.2.2.2.2.2.2.2.2.1
theorem pj_VaP_ (X : own_HX Z h aH aT vT aP vP aQ aK ob o1 o2 o3 o4 kT kP kQ kK nT mT mP rr ll tx px cP po pk K brk tabs cells par col ls inr rs) : Arv Z h vP kP .byte 16 (own_vs px) (.int (0 : Int32)) := X.2.2.2.2.2.2.2.2.2.2.2.2.2.2.2.2.2.2.2.2.2.2.2.2.2.2.2.1
theorem pj_VQ_ (X : own_HX Z h aH aT vT aP vP aQ aK ob o1 o2 o3 o4 kT kP kQ kK nT mT mP rr ll tx px cP po pk K brk tabs cells par col ls inr rs) : Arv Z h aQ kQ .int 8 po (.int (0 : Int32)) := X.2.2.2.2.2.2.2.2.2.2.2.2.2.2.2.2.2.2.2.2.2.2.2.2.2.2.2.2.1
theorem pj_VK_ (X : own_HX Z h aH aT vT aP vP aQ aK ob o1 o2 o3 o4 kT kP kQ kK nT mT mP rr ll tx px cP po pk K brk tabs cells par col ls inr rs) : Arv Z h aK kK .boolean 4 pk (.int (0 : Int32)) := X.2.2.2.2.2.2.2.2.2.2.2.2.2.2.2.2.2.2.2.2.2.2.2.2.2.2.2.2.2.1
theorem pj_EO (X : own_HX Z h aH aT vT aP vP aQ aK ob o1 o2 o3 o4 kT kP kQ kK nT mT mP rr ll tx px cP po pk K brk tabs cells par col ls inr rs) : Exa Z h ob "com/example/whereas/whereas/model/Origins$Builder" := X.2.2.2.2.2.2.2.2.2.2.2.2.2.2.2.2.2.2.2.2.2.2.2.2.2.2.2.2.2.2.1
theorem pj_FO1 (X : own_HX Z h aH aT vT aP vP aQ aK ob o1 o2 o3 o4 kT kP kQ kK nT mT mP rr ll tx px cP po pk K brk tabs cells par col ls inr rs) : Fld Z h ob "com/example/whereas/whereas/model/Origins$Builder" "starts" "[I" (.ref o1) := X.2.2.2.2.2.2.2.2.2.2.2.2.2.2.2.2.2.2.2.2.2.2.2.2.2.2.2.2.2.2.2.1
theorem pj_FO2 (X : own_HX Z h aH aT vT aP vP aQ aK ob o1 o2 o3 o4 kT kP kQ kK nT mT mP rr ll tx px cP po pk K brk tabs cells par col ls inr rs) : Fld Z h ob "com/example/whereas/whereas/model/Origins$Builder" "originStarts" "[I" (.ref o2) := X.2.2.2.2.2.2.2.2.2.2.2.2.2.2.2.2.2.2.2.2.2.2.2.2.2.2.2.2.2.2.2.2.1
theorem pj_FO3 (X : own_HX Z h aH aT vT aP vP aQ aK ob o1 o2 o3 o4 kT kP kQ kK nT mT mP rr ll tx px cP po pk K brk tabs cells par col ls inr rs) : Fld Z h ob "com/example/whereas/whereas/model/Origins$Builder" "originEnds" "[I" (.ref o3) := X.2.2.2.2.2.2.2.2.2.2.2.2.2.2.2.2.2.2.2.2.2.2.2.2.2.2.2.2.2.2.2.2.2.1
theorem pj_FO4 (X : own_HX Z h aH aT vT aP vP aQ aK ob o1 o2 o3 o4 kT kP kQ kK nT mT mP rr ll tx px cP po pk K brk tabs cells par col ls inr rs) : Fld Z h ob "com/example/whereas/whereas/model/Origins$Builder" "literal" "[Z" (.ref o4) := X.2.2.2.2.2.2.2.2.2.2.2.2.2.2.2.2.2.2.2.2.2.2.2.2.2.2.2.2.2.2.2.2.2.2.1
theorem pj_FOr (X : own_HX Z h aH aT vT aP vP aQ aK ob o1 o2 o3 o4 kT kP kQ kK nT mT mP rr ll tx px cP po pk K brk tabs cells par col ls inr rs) : Fld Z h ob "com/example/whereas/whereas/model/Origins$Builder" "runs" "I" (.int rr) := X.2.2.2.2.2.2.2.2.2.2.2.2.2.2.2.2.2.2.2.2.2.2.2.2.2.2.2.2.2.2.2.2.2.2.2.1
theorem pj_FOl (X : own_HX Z h aH aT vT aP vP aQ aK ob o1 o2 o3 o4 kT kP kQ kK nT mT mP rr ll tx px cP po pk K brk tabs cells par col ls inr rs) : Fld Z h ob "com/example/whereas/whereas/model/Origins$Builder" "length" "I" (.int ll) := X.2.2.2.2.2.2.2.2.2.2.2.2.2.2.2.2.2.2.2.2.2.2.2.2.2.2.2.2.2.2.2.2.2.2.2.2.1
theorem pj_AN1 (X : own_HX Z h aH aT vT aP vP aQ aK ob o1 o2 o3 o4 kT kP kQ kK nT mT mP rr ll tx px cP po pk K brk tabs cells par col ls inr rs) : own_An Z h o1 .int := X.2.2.2.2.2.2.2.2.2.2.2.2.2.2.2.2.2.2.2.2.2.2.2.2.2.2.2.2.2.2.2.2.2.2.2.2.2.1
theorem pj_AN2 (X : own_HX Z h aH aT vT aP vP aQ aK ob o1 o2 o3 o4 kT kP kQ kK nT mT mP rr ll tx px cP po pk K brk tabs cells par col ls inr rs) : own_An Z h o2 .int := X.2.2.2.2.2.2.2.2.2.2.2.2.2.2.2.2.2.2.2.2.2.2.2.2.2.2.2.2.2.2.2.2.2.2.2.2.2.2.1
theorem pj_AN3 (X : own_HX Z h aH aT vT aP vP aQ aK ob o1 o2 o3 o4 kT kP kQ kK nT mT mP rr ll tx px cP po pk K brk tabs cells par col ls inr rs) : own_An Z h o3 .int := X.2.2.2.2.2.2.2.2.2.2.2.2.2.2.2.2.2.2.2.2.2.2.2.2.2.2.2.2.2.2.2.2.2.2.2.2.2.2.2.1
theorem pj_AN4 (X : own_HX Z h aH aT vT aP vP aQ aK ob o1 o2 o3 o4 kT kP kQ kK nT mT mP rr ll tx px cP po pk K brk tabs cells par col ls inr rs) : own_An Z h o4 .boolean := X.2.2.2.2.2.2.2.2.2.2.2.2.2.2.2.2.2.2.2.2.2.2.2.2.2.2.2.2.2.2.2.2.2.2.2.2.2.2.2.2
theorem own_nd {l : List Addr} (D : l.Nodup) {i j : Nat} {x y : Addr} (hx : l[i]? = some x) (hy : l[j]? = some y) (h : i ≠ j) : x ≠ y := fun q => by
  subst q
  obtain ⟨hi, ei⟩ := List.getElem?_eq_some_iff.mp hx
  obtain ⟨hj, ej⟩ := List.getElem?_eq_some_iff.mp hy
  have P := List.pairwise_iff_getElem.mp D
  rcases Nat.lt_or_gt_of_ne h with h | h
  · exact P i j hi hj h (ei.trans ej.symm)
  · exact P j i hj hi h (ej.trans ei.symm)
theorem nd_0_1 (D : List.Nodup [aH, aT, vT, aP, vP, aQ, aK, ob, o1, o2, o3, o4]) : aH ≠ aT := own_nd D (i := 0) (j := 1) rfl rfl (by decide)
theorem nd_0_2 (D : List.Nodup [aH, aT, vT, aP, vP, aQ, aK, ob, o1, o2, o3, o4]) : aH ≠ vT := own_nd D (i := 0) (j := 2) rfl rfl (by decide)
theorem nd_0_3 (D : List.Nodup [aH, aT, vT, aP, vP, aQ, aK, ob, o1, o2, o3, o4]) : aH ≠ aP := own_nd D (i := 0) (j := 3) rfl rfl (by decide)
theorem nd_0_4 (D : List.Nodup [aH, aT, vT, aP, vP, aQ, aK, ob, o1, o2, o3, o4]) : aH ≠ vP := own_nd D (i := 0) (j := 4) rfl rfl (by decide)
theorem nd_0_5 (D : List.Nodup [aH, aT, vT, aP, vP, aQ, aK, ob, o1, o2, o3, o4]) : aH ≠ aQ := own_nd D (i := 0) (j := 5) rfl rfl (by decide)
theorem nd_0_6 (D : List.Nodup [aH, aT, vT, aP, vP, aQ, aK, ob, o1, o2, o3, o4]) : aH ≠ aK := own_nd D (i := 0) (j := 6) rfl rfl (by decide)
theorem nd_0_7 (D : List.Nodup [aH, aT, vT, aP, vP, aQ, aK, ob, o1, o2, o3, o4]) : aH ≠ ob := own_nd D (i := 0) (j := 7) rfl rfl (by decide)
theorem nd_0_8 (D : List.Nodup [aH, aT, vT, aP, vP, aQ, aK, ob, o1, o2, o3, o4]) : aH ≠ o1 := own_nd D (i := 0) (j := 8) rfl rfl (by decide)
theorem nd_0_9 (D : List.Nodup [aH, aT, vT, aP, vP, aQ, aK, ob, o1, o2, o3, o4]) : aH ≠ o2 := own_nd D (i := 0) (j := 9) rfl rfl (by decide)
theorem nd_0_10 (D : List.Nodup [aH, aT, vT, aP, vP, aQ, aK, ob, o1, o2, o3, o4]) : aH ≠ o3 := own_nd D (i := 0) (j := 10) rfl rfl (by decide)
theorem nd_0_11 (D : List.Nodup [aH, aT, vT, aP, vP, aQ, aK, ob, o1, o2, o3, o4]) : aH ≠ o4 := own_nd D (i := 0) (j := 11) rfl rfl (by decide)
theorem nd_1_2 (D : List.Nodup [aH, aT, vT, aP, vP, aQ, aK, ob, o1, o2, o3, o4]) : aT ≠ vT := own_nd D (i := 1) (j := 2) rfl rfl (by decide)
theorem nd_1_3 (D : List.Nodup [aH, aT, vT, aP, vP, aQ, aK, ob, o1, o2, o3, o4]) : aT ≠ aP := own_nd D (i := 1) (j := 3) rfl rfl (by decide)
theorem nd_1_4 (D : List.Nodup [aH, aT, vT, aP, vP, aQ, aK, ob, o1, o2, o3, o4]) : aT ≠ vP := own_nd D (i := 1) (j := 4) rfl rfl (by decide)
theorem nd_1_5 (D : List.Nodup [aH, aT, vT, aP, vP, aQ, aK, ob, o1, o2, o3, o4]) : aT ≠ aQ := own_nd D (i := 1) (j := 5) rfl rfl (by decide)
theorem nd_1_6 (D : List.Nodup [aH, aT, vT, aP, vP, aQ, aK, ob, o1, o2, o3, o4]) : aT ≠ aK := own_nd D (i := 1) (j := 6) rfl rfl (by decide)
theorem nd_1_7 (D : List.Nodup [aH, aT, vT, aP, vP, aQ, aK, ob, o1, o2, o3, o4]) : aT ≠ ob := own_nd D (i := 1) (j := 7) rfl rfl (by decide)
theorem nd_1_8 (D : List.Nodup [aH, aT, vT, aP, vP, aQ, aK, ob, o1, o2, o3, o4]) : aT ≠ o1 := own_nd D (i := 1) (j := 8) rfl rfl (by decide)
theorem nd_1_9 (D : List.Nodup [aH, aT, vT, aP, vP, aQ, aK, ob, o1, o2, o3, o4]) : aT ≠ o2 := own_nd D (i := 1) (j := 9) rfl rfl (by decide)
theorem nd_1_10 (D : List.Nodup [aH, aT, vT, aP, vP, aQ, aK, ob, o1, o2, o3, o4]) : aT ≠ o3 := own_nd D (i := 1) (j := 10) rfl rfl (by decide)
theorem nd_1_11 (D : List.Nodup [aH, aT, vT, aP, vP, aQ, aK, ob, o1, o2, o3, o4]) : aT ≠ o4 := own_nd D (i := 1) (j := 11) rfl rfl (by decide)
theorem nd_2_3 (D : List.Nodup [aH, aT, vT, aP, vP, aQ, aK, ob, o1, o2, o3, o4]) : vT ≠ aP := own_nd D (i := 2) (j := 3) rfl rfl (by decide)
theorem nd_2_4 (D : List.Nodup [aH, aT, vT, aP, vP, aQ, aK, ob, o1, o2, o3, o4]) : vT ≠ vP := own_nd D (i := 2) (j := 4) rfl rfl (by decide)
theorem nd_2_5 (D : List.Nodup [aH, aT, vT, aP, vP, aQ, aK, ob, o1, o2, o3, o4]) : vT ≠ aQ := own_nd D (i := 2) (j := 5) rfl rfl (by decide)
theorem nd_2_6 (D : List.Nodup [aH, aT, vT, aP, vP, aQ, aK, ob, o1, o2, o3, o4]) : vT ≠ aK := own_nd D (i := 2) (j := 6) rfl rfl (by decide)
theorem nd_2_7 (D : List.Nodup [aH, aT, vT, aP, vP, aQ, aK, ob, o1, o2, o3, o4]) : vT ≠ ob := own_nd D (i := 2) (j := 7) rfl rfl (by decide)
theorem nd_2_8 (D : List.Nodup [aH, aT, vT, aP, vP, aQ, aK, ob, o1, o2, o3, o4]) : vT ≠ o1 := own_nd D (i := 2) (j := 8) rfl rfl (by decide)
theorem nd_2_9 (D : List.Nodup [aH, aT, vT, aP, vP, aQ, aK, ob, o1, o2, o3, o4]) : vT ≠ o2 := own_nd D (i := 2) (j := 9) rfl rfl (by decide)
theorem nd_2_10 (D : List.Nodup [aH, aT, vT, aP, vP, aQ, aK, ob, o1, o2, o3, o4]) : vT ≠ o3 := own_nd D (i := 2) (j := 10) rfl rfl (by decide)
theorem nd_2_11 (D : List.Nodup [aH, aT, vT, aP, vP, aQ, aK, ob, o1, o2, o3, o4]) : vT ≠ o4 := own_nd D (i := 2) (j := 11) rfl rfl (by decide)
theorem nd_3_4 (D : List.Nodup [aH, aT, vT, aP, vP, aQ, aK, ob, o1, o2, o3, o4]) : aP ≠ vP := own_nd D (i := 3) (j := 4) rfl rfl (by decide)
theorem nd_3_5 (D : List.Nodup [aH, aT, vT, aP, vP, aQ, aK, ob, o1, o2, o3, o4]) : aP ≠ aQ := own_nd D (i := 3) (j := 5) rfl rfl (by decide)
theorem nd_3_6 (D : List.Nodup [aH, aT, vT, aP, vP, aQ, aK, ob, o1, o2, o3, o4]) : aP ≠ aK := own_nd D (i := 3) (j := 6) rfl rfl (by decide)
theorem nd_3_7 (D : List.Nodup [aH, aT, vT, aP, vP, aQ, aK, ob, o1, o2, o3, o4]) : aP ≠ ob := own_nd D (i := 3) (j := 7) rfl rfl (by decide)
theorem nd_3_8 (D : List.Nodup [aH, aT, vT, aP, vP, aQ, aK, ob, o1, o2, o3, o4]) : aP ≠ o1 := own_nd D (i := 3) (j := 8) rfl rfl (by decide)
theorem nd_3_9 (D : List.Nodup [aH, aT, vT, aP, vP, aQ, aK, ob, o1, o2, o3, o4]) : aP ≠ o2 := own_nd D (i := 3) (j := 9) rfl rfl (by decide)
theorem nd_3_10 (D : List.Nodup [aH, aT, vT, aP, vP, aQ, aK, ob, o1, o2, o3, o4]) : aP ≠ o3 := own_nd D (i := 3) (j := 10) rfl rfl (by decide)
theorem nd_3_11 (D : List.Nodup [aH, aT, vT, aP, vP, aQ, aK, ob, o1, o2, o3, o4]) : aP ≠ o4 := own_nd D (i := 3) (j := 11) rfl rfl (by decide)
theorem nd_4_5 (D : List.Nodup [aH, aT, vT, aP, vP, aQ, aK, ob, o1, o2, o3, o4]) : vP ≠ aQ := own_nd D (i := 4) (j := 5) rfl rfl (by decide)
theorem nd_4_6 (D : List.Nodup [aH, aT, vT, aP, vP, aQ, aK, ob, o1, o2, o3, o4]) : vP ≠ aK := own_nd D (i := 4) (j := 6) rfl rfl (by decide)
theorem nd_4_7 (D : List.Nodup [aH, aT, vT, aP, vP, aQ, aK, ob, o1, o2, o3, o4]) : vP ≠ ob := own_nd D (i := 4) (j := 7) rfl rfl (by decide)
theorem nd_4_8 (D : List.Nodup [aH, aT, vT, aP, vP, aQ, aK, ob, o1, o2, o3, o4]) : vP ≠ o1 := own_nd D (i := 4) (j := 8) rfl rfl (by decide)
theorem nd_4_9 (D : List.Nodup [aH, aT, vT, aP, vP, aQ, aK, ob, o1, o2, o3, o4]) : vP ≠ o2 := own_nd D (i := 4) (j := 9) rfl rfl (by decide)
theorem nd_4_10 (D : List.Nodup [aH, aT, vT, aP, vP, aQ, aK, ob, o1, o2, o3, o4]) : vP ≠ o3 := own_nd D (i := 4) (j := 10) rfl rfl (by decide)
theorem nd_4_11 (D : List.Nodup [aH, aT, vT, aP, vP, aQ, aK, ob, o1, o2, o3, o4]) : vP ≠ o4 := own_nd D (i := 4) (j := 11) rfl rfl (by decide)
theorem nd_5_6 (D : List.Nodup [aH, aT, vT, aP, vP, aQ, aK, ob, o1, o2, o3, o4]) : aQ ≠ aK := own_nd D (i := 5) (j := 6) rfl rfl (by decide)
theorem nd_5_7 (D : List.Nodup [aH, aT, vT, aP, vP, aQ, aK, ob, o1, o2, o3, o4]) : aQ ≠ ob := own_nd D (i := 5) (j := 7) rfl rfl (by decide)
theorem nd_5_8 (D : List.Nodup [aH, aT, vT, aP, vP, aQ, aK, ob, o1, o2, o3, o4]) : aQ ≠ o1 := own_nd D (i := 5) (j := 8) rfl rfl (by decide)
theorem nd_5_9 (D : List.Nodup [aH, aT, vT, aP, vP, aQ, aK, ob, o1, o2, o3, o4]) : aQ ≠ o2 := own_nd D (i := 5) (j := 9) rfl rfl (by decide)
theorem nd_5_10 (D : List.Nodup [aH, aT, vT, aP, vP, aQ, aK, ob, o1, o2, o3, o4]) : aQ ≠ o3 := own_nd D (i := 5) (j := 10) rfl rfl (by decide)
theorem nd_5_11 (D : List.Nodup [aH, aT, vT, aP, vP, aQ, aK, ob, o1, o2, o3, o4]) : aQ ≠ o4 := own_nd D (i := 5) (j := 11) rfl rfl (by decide)
theorem nd_6_7 (D : List.Nodup [aH, aT, vT, aP, vP, aQ, aK, ob, o1, o2, o3, o4]) : aK ≠ ob := own_nd D (i := 6) (j := 7) rfl rfl (by decide)
theorem nd_6_8 (D : List.Nodup [aH, aT, vT, aP, vP, aQ, aK, ob, o1, o2, o3, o4]) : aK ≠ o1 := own_nd D (i := 6) (j := 8) rfl rfl (by decide)
theorem nd_6_9 (D : List.Nodup [aH, aT, vT, aP, vP, aQ, aK, ob, o1, o2, o3, o4]) : aK ≠ o2 := own_nd D (i := 6) (j := 9) rfl rfl (by decide)
theorem nd_6_10 (D : List.Nodup [aH, aT, vT, aP, vP, aQ, aK, ob, o1, o2, o3, o4]) : aK ≠ o3 := own_nd D (i := 6) (j := 10) rfl rfl (by decide)
theorem nd_6_11 (D : List.Nodup [aH, aT, vT, aP, vP, aQ, aK, ob, o1, o2, o3, o4]) : aK ≠ o4 := own_nd D (i := 6) (j := 11) rfl rfl (by decide)
theorem nd_7_8 (D : List.Nodup [aH, aT, vT, aP, vP, aQ, aK, ob, o1, o2, o3, o4]) : ob ≠ o1 := own_nd D (i := 7) (j := 8) rfl rfl (by decide)
theorem nd_7_9 (D : List.Nodup [aH, aT, vT, aP, vP, aQ, aK, ob, o1, o2, o3, o4]) : ob ≠ o2 := own_nd D (i := 7) (j := 9) rfl rfl (by decide)
theorem nd_7_10 (D : List.Nodup [aH, aT, vT, aP, vP, aQ, aK, ob, o1, o2, o3, o4]) : ob ≠ o3 := own_nd D (i := 7) (j := 10) rfl rfl (by decide)
theorem nd_7_11 (D : List.Nodup [aH, aT, vT, aP, vP, aQ, aK, ob, o1, o2, o3, o4]) : ob ≠ o4 := own_nd D (i := 7) (j := 11) rfl rfl (by decide)
theorem nd_8_9 (D : List.Nodup [aH, aT, vT, aP, vP, aQ, aK, ob, o1, o2, o3, o4]) : o1 ≠ o2 := own_nd D (i := 8) (j := 9) rfl rfl (by decide)
theorem nd_8_10 (D : List.Nodup [aH, aT, vT, aP, vP, aQ, aK, ob, o1, o2, o3, o4]) : o1 ≠ o3 := own_nd D (i := 8) (j := 10) rfl rfl (by decide)
theorem nd_8_11 (D : List.Nodup [aH, aT, vT, aP, vP, aQ, aK, ob, o1, o2, o3, o4]) : o1 ≠ o4 := own_nd D (i := 8) (j := 11) rfl rfl (by decide)
theorem nd_9_10 (D : List.Nodup [aH, aT, vT, aP, vP, aQ, aK, ob, o1, o2, o3, o4]) : o2 ≠ o3 := own_nd D (i := 9) (j := 10) rfl rfl (by decide)
theorem nd_9_11 (D : List.Nodup [aH, aT, vT, aP, vP, aQ, aK, ob, o1, o2, o3, o4]) : o2 ≠ o4 := own_nd D (i := 9) (j := 11) rfl rfl (by decide)
theorem nd_10_11 (D : List.Nodup [aH, aT, vT, aP, vP, aQ, aK, ob, o1, o2, o3, o4]) : o3 ≠ o4 := own_nd D (i := 10) (j := 11) rfl rfl (by decide)
theorem own_ln0 : own_ln [] 0 := ⟨rfl, by decide⟩
theorem own_ln_nil {n : Int32} (h : own_ln [] n) : n = 0 := Int32.toInt_inj.mp h.1
theorem own_ln1 (c : Int32) : own_ln [c] 1 := ⟨rfl, by simp⟩
theorem own_xx (x m : Int32) (h : ¬ m = 0) : ¬ (x - x) = m := fun q => h (by rw [← q, Int32.sub_self])
theorem own_or1 {r : Int32} (h : r = 0 ∨ r = 1) : (r ||| (1 : Int32)) = 1 := by rcases h with rfl | rfl <;> decide
theorem own_An.other {a b : Addr} {ty : FieldType} {sl : Nat} {v : Value} (F : own_An Z h a ty) (W : Wr h h' b sl v) (q : a ≠ b) : own_An Z h' a ty := by obtain ⟨k, ws, h1, h2, V⟩ := F; exact ⟨k, ws, h1, h2, V.other W q⟩
theorem own_An.ext {a : Addr} {ty : FieldType} (F : own_An Z h a ty) (E : Ext h h') : own_An Z h' a ty := by obtain ⟨k, ws, h1, h2, V⟩ := F; exact ⟨k, ws, h1, h2, V.ext E⟩
theorem own_An.keep {a : Addr} {ty : FieldType} {ws : List Addr} (F : own_An Z h a ty) (K : Keep h h' ws) (q : a ∉ ws) : own_An Z h' a ty := by obtain ⟨k, ls, h1, h2, V⟩ := F; exact ⟨k, ls, h1, h2, V.keep K q⟩
theorem hx_w_brk {a0 : Array Value} (hw : ∀ d ∈ tables_1, d.before a0 Z = true) (X : own_HX Z h aH aT vT aP vP aQ aK ob o1 o2 o3 o4 kT kP kQ kK nT mT mP rr ll tx px cP po pk K brk tabs cells par col ls inr rs) (D : List.Nodup [aH, aT, vT, aP, vP, aQ, aK, ob, o1, o2, o3, o4]) {v : Int32} (W : Wr h h' aH (Jvm.RoadKit.slotOf Z "com/example/whereas/whereas/model/HtmlLayout" "breaks" "I") (.int v)) (F : Fld Z h' aH "com/example/whereas/whereas/model/HtmlLayout" "breaks" "I" (.int v)) : own_HX Z h' aH aT vT aP vP aQ aK ob o1 o2 o3 o4 kT kP kQ kK nT mT mP rr ll tx px cP po pk K v tabs cells par col ls inr rs := ⟨pj_hln X, pj_hrb X, (pj_EH X).wr W, (pj_FH_text X).other W (Or.inr (slot_ne (Or.inr (own_w hw 30 rfl)) (Or.inl (own_w hw 200 rfl)) (by decide) (t := (.object "java/lang/StringBuilder")) (t' := .int) (by decide) (by decide))), (pj_FH_origins X).other W (Or.inr (slot_ne (Or.inr (own_w hw 49 rfl)) (Or.inl (own_w hw 200 rfl)) (by decide) (t := (.object "com/example/whereas/whereas/model/Origins$Builder")) (t' := .int) (by decide) (by decide))), (pj_FH_pending X).other W (Or.inr (slot_ne (Or.inr (own_w hw 51 rfl)) (Or.inl (own_w hw 200 rfl)) (by decide) (t := (.object "java/lang/StringBuilder")) (t' := .int) (by decide) (by decide))), (pj_FH_pendingOrigins X).other W (Or.inr (slot_ne (Or.inl (own_w hw 53 rfl)) (Or.inl (own_w hw 200 rfl)) (by decide) (t := (.array .int)) (t' := .int) (by decide) (by decide))), (pj_FH_pendingKept X).other W (Or.inr (slot_ne (Or.inl (own_w hw 55 rfl)) (Or.inl (own_w hw 200 rfl)) (by decide) (t := (.array .boolean)) (t' := .int) (by decide) (by decide))), F, (pj_FH_tabs X).other W (Or.inr (slot_ne (Or.inl (own_w hw 103 rfl)) (Or.inl (own_w hw 200 rfl)) (by decide) (t := .int) (t' := .int) (by decide) (by decide))), (pj_FH_cells X).other W (Or.inr (slot_ne (Or.inl (own_w hw 107 rfl)) (Or.inl (own_w hw 200 rfl)) (by decide) (t := .int) (t' := .int) (by decide) (by decide))), (pj_FH_paragraph X).other W (Or.inr (slot_ne (Or.inl (own_w hw 198 rfl)) (Or.inl (own_w hw 200 rfl)) (by decide) (t := .boolean) (t' := .int) (by decide) (by decide))), (pj_FH_collapsing X).other W (Or.inr (slot_ne (Or.inl (own_w hw 97 rfl)) (Or.inl (own_w hw 200 rfl)) (by decide) (t := .boolean) (t' := .int) (by decide) (by decide))), (pj_FH_lineShows X).other W (Or.inr (slot_ne (Or.inl (own_w hw 99 rfl)) (Or.inl (own_w hw 200 rfl)) (by decide) (t := .boolean) (t' := .int) (by decide) (by decide))), (pj_FH_inRow X).other W (Or.inr (slot_ne (Or.inl (own_w hw 101 rfl)) (Or.inl (own_w hw 200 rfl)) (by decide) (t := .boolean) (t' := .int) (by decide) (by decide))), (pj_FH_rowShows X).other W (Or.inr (slot_ne (Or.inl (own_w hw 105 rfl)) (Or.inl (own_w hw 200 rfl)) (by decide) (t := .boolean) (t' := .int) (by decide) (by decide))), (pj_EsT_ X).wr W, (pj_FvT_ X).other W (Or.inl (nd_0_1 D).symm), (pj_FcT_ X).other W (Or.inl (nd_0_1 D).symm), (pj_FnT_ X).other W (Or.inl (nd_0_1 D).symm), (pj_FmT_ X).other W (Or.inl (nd_0_1 D).symm), (pj_VaT_ X).other W (nd_0_2 D).symm, (pj_EsP_ X).wr W, (pj_FvP_ X).other W (Or.inl (nd_0_3 D).symm), (pj_FcP_ X).other W (Or.inl (nd_0_3 D).symm), (pj_FnP_ X).other W (Or.inl (nd_0_3 D).symm), (pj_FmP_ X).other W (Or.inl (nd_0_3 D).symm), (pj_VaP_ X).other W (nd_0_4 D).symm, (pj_VQ_ X).other W (nd_0_5 D).symm, (pj_VK_ X).other W (nd_0_6 D).symm, (pj_EO X).wr W, (pj_FO1 X).other W (Or.inl (nd_0_7 D).symm), (pj_FO2 X).other W (Or.inl (nd_0_7 D).symm), (pj_FO3 X).other W (Or.inl (nd_0_7 D).symm), (pj_FO4 X).other W (Or.inl (nd_0_7 D).symm), (pj_FOr X).other W (Or.inl (nd_0_7 D).symm), (pj_FOl X).other W (Or.inl (nd_0_7 D).symm), (pj_AN1 X).other W (nd_0_8 D).symm, (pj_AN2 X).other W (nd_0_9 D).symm, (pj_AN3 X).other W (nd_0_10 D).symm, (pj_AN4 X).other W (nd_0_11 D).symm⟩
theorem hx_w_tabs {a0 : Array Value} (hw : ∀ d ∈ tables_1, d.before a0 Z = true) (X : own_HX Z h aH aT vT aP vP aQ aK ob o1 o2 o3 o4 kT kP kQ kK nT mT mP rr ll tx px cP po pk K brk tabs cells par col ls inr rs) (D : List.Nodup [aH, aT, vT, aP, vP, aQ, aK, ob, o1, o2, o3, o4]) {v : Int32} (W : Wr h h' aH (Jvm.RoadKit.slotOf Z "com/example/whereas/whereas/model/HtmlLayout" "tabs" "I") (.int v)) (F : Fld Z h' aH "com/example/whereas/whereas/model/HtmlLayout" "tabs" "I" (.int v)) : own_HX Z h' aH aT vT aP vP aQ aK ob o1 o2 o3 o4 kT kP kQ kK nT mT mP rr ll tx px cP po pk K brk v cells par col ls inr rs := ⟨pj_hln X, pj_hrb X, (pj_EH X).wr W, (pj_FH_text X).other W (Or.inr (slot_ne (Or.inr (own_w hw 30 rfl)) (Or.inl (own_w hw 103 rfl)) (by decide) (t := (.object "java/lang/StringBuilder")) (t' := .int) (by decide) (by decide))), (pj_FH_origins X).other W (Or.inr (slot_ne (Or.inr (own_w hw 49 rfl)) (Or.inl (own_w hw 103 rfl)) (by decide) (t := (.object "com/example/whereas/whereas/model/Origins$Builder")) (t' := .int) (by decide) (by decide))), (pj_FH_pending X).other W (Or.inr (slot_ne (Or.inr (own_w hw 51 rfl)) (Or.inl (own_w hw 103 rfl)) (by decide) (t := (.object "java/lang/StringBuilder")) (t' := .int) (by decide) (by decide))), (pj_FH_pendingOrigins X).other W (Or.inr (slot_ne (Or.inl (own_w hw 53 rfl)) (Or.inl (own_w hw 103 rfl)) (by decide) (t := (.array .int)) (t' := .int) (by decide) (by decide))), (pj_FH_pendingKept X).other W (Or.inr (slot_ne (Or.inl (own_w hw 55 rfl)) (Or.inl (own_w hw 103 rfl)) (by decide) (t := (.array .boolean)) (t' := .int) (by decide) (by decide))), (pj_FH_breaks X).other W (Or.inr (slot_ne (Or.inl (own_w hw 200 rfl)) (Or.inl (own_w hw 103 rfl)) (by decide) (t := .int) (t' := .int) (by decide) (by decide))), F, (pj_FH_cells X).other W (Or.inr (slot_ne (Or.inl (own_w hw 107 rfl)) (Or.inl (own_w hw 103 rfl)) (by decide) (t := .int) (t' := .int) (by decide) (by decide))), (pj_FH_paragraph X).other W (Or.inr (slot_ne (Or.inl (own_w hw 198 rfl)) (Or.inl (own_w hw 103 rfl)) (by decide) (t := .boolean) (t' := .int) (by decide) (by decide))), (pj_FH_collapsing X).other W (Or.inr (slot_ne (Or.inl (own_w hw 97 rfl)) (Or.inl (own_w hw 103 rfl)) (by decide) (t := .boolean) (t' := .int) (by decide) (by decide))), (pj_FH_lineShows X).other W (Or.inr (slot_ne (Or.inl (own_w hw 99 rfl)) (Or.inl (own_w hw 103 rfl)) (by decide) (t := .boolean) (t' := .int) (by decide) (by decide))), (pj_FH_inRow X).other W (Or.inr (slot_ne (Or.inl (own_w hw 101 rfl)) (Or.inl (own_w hw 103 rfl)) (by decide) (t := .boolean) (t' := .int) (by decide) (by decide))), (pj_FH_rowShows X).other W (Or.inr (slot_ne (Or.inl (own_w hw 105 rfl)) (Or.inl (own_w hw 103 rfl)) (by decide) (t := .boolean) (t' := .int) (by decide) (by decide))), (pj_EsT_ X).wr W, (pj_FvT_ X).other W (Or.inl (nd_0_1 D).symm), (pj_FcT_ X).other W (Or.inl (nd_0_1 D).symm), (pj_FnT_ X).other W (Or.inl (nd_0_1 D).symm), (pj_FmT_ X).other W (Or.inl (nd_0_1 D).symm), (pj_VaT_ X).other W (nd_0_2 D).symm, (pj_EsP_ X).wr W, (pj_FvP_ X).other W (Or.inl (nd_0_3 D).symm), (pj_FcP_ X).other W (Or.inl (nd_0_3 D).symm), (pj_FnP_ X).other W (Or.inl (nd_0_3 D).symm), (pj_FmP_ X).other W (Or.inl (nd_0_3 D).symm), (pj_VaP_ X).other W (nd_0_4 D).symm, (pj_VQ_ X).other W (nd_0_5 D).symm, (pj_VK_ X).other W (nd_0_6 D).symm, (pj_EO X).wr W, (pj_FO1 X).other W (Or.inl (nd_0_7 D).symm), (pj_FO2 X).other W (Or.inl (nd_0_7 D).symm), (pj_FO3 X).other W (Or.inl (nd_0_7 D).symm), (pj_FO4 X).other W (Or.inl (nd_0_7 D).symm), (pj_FOr X).other W (Or.inl (nd_0_7 D).symm), (pj_FOl X).other W (Or.inl (nd_0_7 D).symm), (pj_AN1 X).other W (nd_0_8 D).symm, (pj_AN2 X).other W (nd_0_9 D).symm, (pj_AN3 X).other W (nd_0_10 D).symm, (pj_AN4 X).other W (nd_0_11 D).symm⟩
theorem hx_w_cells {a0 : Array Value} (hw : ∀ d ∈ tables_1, d.before a0 Z = true) (X : own_HX Z h aH aT vT aP vP aQ aK ob o1 o2 o3 o4 kT kP kQ kK nT mT mP rr ll tx px cP po pk K brk tabs cells par col ls inr rs) (D : List.Nodup [aH, aT, vT, aP, vP, aQ, aK, ob, o1, o2, o3, o4]) {v : Int32} (W : Wr h h' aH (Jvm.RoadKit.slotOf Z "com/example/whereas/whereas/model/HtmlLayout" "cells" "I") (.int v)) (F : Fld Z h' aH "com/example/whereas/whereas/model/HtmlLayout" "cells" "I" (.int v)) : own_HX Z h' aH aT vT aP vP aQ aK ob o1 o2 o3 o4 kT kP kQ kK nT mT mP rr ll tx px cP po pk K brk tabs v par col ls inr rs := ⟨pj_hln X, pj_hrb X, (pj_EH X).wr W, (pj_FH_text X).other W (Or.inr (slot_ne (Or.inr (own_w hw 30 rfl)) (Or.inl (own_w hw 107 rfl)) (by decide) (t := (.object "java/lang/StringBuilder")) (t' := .int) (by decide) (by decide))), (pj_FH_origins X).other W (Or.inr (slot_ne (Or.inr (own_w hw 49 rfl)) (Or.inl (own_w hw 107 rfl)) (by decide) (t := (.object "com/example/whereas/whereas/model/Origins$Builder")) (t' := .int) (by decide) (by decide))), (pj_FH_pending X).other W (Or.inr (slot_ne (Or.inr (own_w hw 51 rfl)) (Or.inl (own_w hw 107 rfl)) (by decide) (t := (.object "java/lang/StringBuilder")) (t' := .int) (by decide) (by decide))), (pj_FH_pendingOrigins X).other W (Or.inr (slot_ne (Or.inl (own_w hw 53 rfl)) (Or.inl (own_w hw 107 rfl)) (by decide) (t := (.array .int)) (t' := .int) (by decide) (by decide))), (pj_FH_pendingKept X).other W (Or.inr (slot_ne (Or.inl (own_w hw 55 rfl)) (Or.inl (own_w hw 107 rfl)) (by decide) (t := (.array .boolean)) (t' := .int) (by decide) (by decide))), (pj_FH_breaks X).other W (Or.inr (slot_ne (Or.inl (own_w hw 200 rfl)) (Or.inl (own_w hw 107 rfl)) (by decide) (t := .int) (t' := .int) (by decide) (by decide))), (pj_FH_tabs X).other W (Or.inr (slot_ne (Or.inl (own_w hw 103 rfl)) (Or.inl (own_w hw 107 rfl)) (by decide) (t := .int) (t' := .int) (by decide) (by decide))), F, (pj_FH_paragraph X).other W (Or.inr (slot_ne (Or.inl (own_w hw 198 rfl)) (Or.inl (own_w hw 107 rfl)) (by decide) (t := .boolean) (t' := .int) (by decide) (by decide))), (pj_FH_collapsing X).other W (Or.inr (slot_ne (Or.inl (own_w hw 97 rfl)) (Or.inl (own_w hw 107 rfl)) (by decide) (t := .boolean) (t' := .int) (by decide) (by decide))), (pj_FH_lineShows X).other W (Or.inr (slot_ne (Or.inl (own_w hw 99 rfl)) (Or.inl (own_w hw 107 rfl)) (by decide) (t := .boolean) (t' := .int) (by decide) (by decide))), (pj_FH_inRow X).other W (Or.inr (slot_ne (Or.inl (own_w hw 101 rfl)) (Or.inl (own_w hw 107 rfl)) (by decide) (t := .boolean) (t' := .int) (by decide) (by decide))), (pj_FH_rowShows X).other W (Or.inr (slot_ne (Or.inl (own_w hw 105 rfl)) (Or.inl (own_w hw 107 rfl)) (by decide) (t := .boolean) (t' := .int) (by decide) (by decide))), (pj_EsT_ X).wr W, (pj_FvT_ X).other W (Or.inl (nd_0_1 D).symm), (pj_FcT_ X).other W (Or.inl (nd_0_1 D).symm), (pj_FnT_ X).other W (Or.inl (nd_0_1 D).symm), (pj_FmT_ X).other W (Or.inl (nd_0_1 D).symm), (pj_VaT_ X).other W (nd_0_2 D).symm, (pj_EsP_ X).wr W, (pj_FvP_ X).other W (Or.inl (nd_0_3 D).symm), (pj_FcP_ X).other W (Or.inl (nd_0_3 D).symm), (pj_FnP_ X).other W (Or.inl (nd_0_3 D).symm), (pj_FmP_ X).other W (Or.inl (nd_0_3 D).symm), (pj_VaP_ X).other W (nd_0_4 D).symm, (pj_VQ_ X).other W (nd_0_5 D).symm, (pj_VK_ X).other W (nd_0_6 D).symm, (pj_EO X).wr W, (pj_FO1 X).other W (Or.inl (nd_0_7 D).symm), (pj_FO2 X).other W (Or.inl (nd_0_7 D).symm), (pj_FO3 X).other W (Or.inl (nd_0_7 D).symm), (pj_FO4 X).other W (Or.inl (nd_0_7 D).symm), (pj_FOr X).other W (Or.inl (nd_0_7 D).symm), (pj_FOl X).other W (Or.inl (nd_0_7 D).symm), (pj_AN1 X).other W (nd_0_8 D).symm, (pj_AN2 X).other W (nd_0_9 D).symm, (pj_AN3 X).other W (nd_0_10 D).symm, (pj_AN4 X).other W (nd_0_11 D).symm⟩
theorem hx_w_par {a0 : Array Value} (hw : ∀ d ∈ tables_1, d.before a0 Z = true) (X : own_HX Z h aH aT vT aP vP aQ aK ob o1 o2 o3 o4 kT kP kQ kK nT mT mP rr ll tx px cP po pk K brk tabs cells par col ls inr rs) (D : List.Nodup [aH, aT, vT, aP, vP, aQ, aK, ob, o1, o2, o3, o4]) {v : Int32} (W : Wr h h' aH (Jvm.RoadKit.slotOf Z "com/example/whereas/whereas/model/HtmlLayout" "paragraph" "Z") (.int v)) (F : Fld Z h' aH "com/example/whereas/whereas/model/HtmlLayout" "paragraph" "Z" (.int v)) : own_HX Z h' aH aT vT aP vP aQ aK ob o1 o2 o3 o4 kT kP kQ kK nT mT mP rr ll tx px cP po pk K brk tabs cells v col ls inr rs := ⟨pj_hln X, pj_hrb X, (pj_EH X).wr W, (pj_FH_text X).other W (Or.inr (slot_ne (Or.inr (own_w hw 30 rfl)) (Or.inl (own_w hw 198 rfl)) (by decide) (t := (.object "java/lang/StringBuilder")) (t' := .boolean) (by decide) (by decide))), (pj_FH_origins X).other W (Or.inr (slot_ne (Or.inr (own_w hw 49 rfl)) (Or.inl (own_w hw 198 rfl)) (by decide) (t := (.object "com/example/whereas/whereas/model/Origins$Builder")) (t' := .boolean) (by decide) (by decide))), (pj_FH_pending X).other W (Or.inr (slot_ne (Or.inr (own_w hw 51 rfl)) (Or.inl (own_w hw 198 rfl)) (by decide) (t := (.object "java/lang/StringBuilder")) (t' := .boolean) (by decide) (by decide))), (pj_FH_pendingOrigins X).other W (Or.inr (slot_ne (Or.inl (own_w hw 53 rfl)) (Or.inl (own_w hw 198 rfl)) (by decide) (t := (.array .int)) (t' := .boolean) (by decide) (by decide))), (pj_FH_pendingKept X).other W (Or.inr (slot_ne (Or.inl (own_w hw 55 rfl)) (Or.inl (own_w hw 198 rfl)) (by decide) (t := (.array .boolean)) (t' := .boolean) (by decide) (by decide))), (pj_FH_breaks X).other W (Or.inr (slot_ne (Or.inl (own_w hw 200 rfl)) (Or.inl (own_w hw 198 rfl)) (by decide) (t := .int) (t' := .boolean) (by decide) (by decide))), (pj_FH_tabs X).other W (Or.inr (slot_ne (Or.inl (own_w hw 103 rfl)) (Or.inl (own_w hw 198 rfl)) (by decide) (t := .int) (t' := .boolean) (by decide) (by decide))), (pj_FH_cells X).other W (Or.inr (slot_ne (Or.inl (own_w hw 107 rfl)) (Or.inl (own_w hw 198 rfl)) (by decide) (t := .int) (t' := .boolean) (by decide) (by decide))), F, (pj_FH_collapsing X).other W (Or.inr (slot_ne (Or.inl (own_w hw 97 rfl)) (Or.inl (own_w hw 198 rfl)) (by decide) (t := .boolean) (t' := .boolean) (by decide) (by decide))), (pj_FH_lineShows X).other W (Or.inr (slot_ne (Or.inl (own_w hw 99 rfl)) (Or.inl (own_w hw 198 rfl)) (by decide) (t := .boolean) (t' := .boolean) (by decide) (by decide))), (pj_FH_inRow X).other W (Or.inr (slot_ne (Or.inl (own_w hw 101 rfl)) (Or.inl (own_w hw 198 rfl)) (by decide) (t := .boolean) (t' := .boolean) (by decide) (by decide))), (pj_FH_rowShows X).other W (Or.inr (slot_ne (Or.inl (own_w hw 105 rfl)) (Or.inl (own_w hw 198 rfl)) (by decide) (t := .boolean) (t' := .boolean) (by decide) (by decide))), (pj_EsT_ X).wr W, (pj_FvT_ X).other W (Or.inl (nd_0_1 D).symm), (pj_FcT_ X).other W (Or.inl (nd_0_1 D).symm), (pj_FnT_ X).other W (Or.inl (nd_0_1 D).symm), (pj_FmT_ X).other W (Or.inl (nd_0_1 D).symm), (pj_VaT_ X).other W (nd_0_2 D).symm, (pj_EsP_ X).wr W, (pj_FvP_ X).other W (Or.inl (nd_0_3 D).symm), (pj_FcP_ X).other W (Or.inl (nd_0_3 D).symm), (pj_FnP_ X).other W (Or.inl (nd_0_3 D).symm), (pj_FmP_ X).other W (Or.inl (nd_0_3 D).symm), (pj_VaP_ X).other W (nd_0_4 D).symm, (pj_VQ_ X).other W (nd_0_5 D).symm, (pj_VK_ X).other W (nd_0_6 D).symm, (pj_EO X).wr W, (pj_FO1 X).other W (Or.inl (nd_0_7 D).symm), (pj_FO2 X).other W (Or.inl (nd_0_7 D).symm), (pj_FO3 X).other W (Or.inl (nd_0_7 D).symm), (pj_FO4 X).other W (Or.inl (nd_0_7 D).symm), (pj_FOr X).other W (Or.inl (nd_0_7 D).symm), (pj_FOl X).other W (Or.inl (nd_0_7 D).symm), (pj_AN1 X).other W (nd_0_8 D).symm, (pj_AN2 X).other W (nd_0_9 D).symm, (pj_AN3 X).other W (nd_0_10 D).symm, (pj_AN4 X).other W (nd_0_11 D).symm⟩
theorem hx_w_col {a0 : Array Value} (hw : ∀ d ∈ tables_1, d.before a0 Z = true) (X : own_HX Z h aH aT vT aP vP aQ aK ob o1 o2 o3 o4 kT kP kQ kK nT mT mP rr ll tx px cP po pk K brk tabs cells par col ls inr rs) (D : List.Nodup [aH, aT, vT, aP, vP, aQ, aK, ob, o1, o2, o3, o4]) {v : Int32} (W : Wr h h' aH (Jvm.RoadKit.slotOf Z "com/example/whereas/whereas/model/HtmlLayout" "collapsing" "Z") (.int v)) (F : Fld Z h' aH "com/example/whereas/whereas/model/HtmlLayout" "collapsing" "Z" (.int v)) : own_HX Z h' aH aT vT aP vP aQ aK ob o1 o2 o3 o4 kT kP kQ kK nT mT mP rr ll tx px cP po pk K brk tabs cells par v ls inr rs := ⟨pj_hln X, pj_hrb X, (pj_EH X).wr W, (pj_FH_text X).other W (Or.inr (slot_ne (Or.inr (own_w hw 30 rfl)) (Or.inl (own_w hw 97 rfl)) (by decide) (t := (.object "java/lang/StringBuilder")) (t' := .boolean) (by decide) (by decide))), (pj_FH_origins X).other W (Or.inr (slot_ne (Or.inr (own_w hw 49 rfl)) (Or.inl (own_w hw 97 rfl)) (by decide) (t := (.object "com/example/whereas/whereas/model/Origins$Builder")) (t' := .boolean) (by decide) (by decide))), (pj_FH_pending X).other W (Or.inr (slot_ne (Or.inr (own_w hw 51 rfl)) (Or.inl (own_w hw 97 rfl)) (by decide) (t := (.object "java/lang/StringBuilder")) (t' := .boolean) (by decide) (by decide))), (pj_FH_pendingOrigins X).other W (Or.inr (slot_ne (Or.inl (own_w hw 53 rfl)) (Or.inl (own_w hw 97 rfl)) (by decide) (t := (.array .int)) (t' := .boolean) (by decide) (by decide))), (pj_FH_pendingKept X).other W (Or.inr (slot_ne (Or.inl (own_w hw 55 rfl)) (Or.inl (own_w hw 97 rfl)) (by decide) (t := (.array .boolean)) (t' := .boolean) (by decide) (by decide))), (pj_FH_breaks X).other W (Or.inr (slot_ne (Or.inl (own_w hw 200 rfl)) (Or.inl (own_w hw 97 rfl)) (by decide) (t := .int) (t' := .boolean) (by decide) (by decide))), (pj_FH_tabs X).other W (Or.inr (slot_ne (Or.inl (own_w hw 103 rfl)) (Or.inl (own_w hw 97 rfl)) (by decide) (t := .int) (t' := .boolean) (by decide) (by decide))), (pj_FH_cells X).other W (Or.inr (slot_ne (Or.inl (own_w hw 107 rfl)) (Or.inl (own_w hw 97 rfl)) (by decide) (t := .int) (t' := .boolean) (by decide) (by decide))), (pj_FH_paragraph X).other W (Or.inr (slot_ne (Or.inl (own_w hw 198 rfl)) (Or.inl (own_w hw 97 rfl)) (by decide) (t := .boolean) (t' := .boolean) (by decide) (by decide))), F, (pj_FH_lineShows X).other W (Or.inr (slot_ne (Or.inl (own_w hw 99 rfl)) (Or.inl (own_w hw 97 rfl)) (by decide) (t := .boolean) (t' := .boolean) (by decide) (by decide))), (pj_FH_inRow X).other W (Or.inr (slot_ne (Or.inl (own_w hw 101 rfl)) (Or.inl (own_w hw 97 rfl)) (by decide) (t := .boolean) (t' := .boolean) (by decide) (by decide))), (pj_FH_rowShows X).other W (Or.inr (slot_ne (Or.inl (own_w hw 105 rfl)) (Or.inl (own_w hw 97 rfl)) (by decide) (t := .boolean) (t' := .boolean) (by decide) (by decide))), (pj_EsT_ X).wr W, (pj_FvT_ X).other W (Or.inl (nd_0_1 D).symm), (pj_FcT_ X).other W (Or.inl (nd_0_1 D).symm), (pj_FnT_ X).other W (Or.inl (nd_0_1 D).symm), (pj_FmT_ X).other W (Or.inl (nd_0_1 D).symm), (pj_VaT_ X).other W (nd_0_2 D).symm, (pj_EsP_ X).wr W, (pj_FvP_ X).other W (Or.inl (nd_0_3 D).symm), (pj_FcP_ X).other W (Or.inl (nd_0_3 D).symm), (pj_FnP_ X).other W (Or.inl (nd_0_3 D).symm), (pj_FmP_ X).other W (Or.inl (nd_0_3 D).symm), (pj_VaP_ X).other W (nd_0_4 D).symm, (pj_VQ_ X).other W (nd_0_5 D).symm, (pj_VK_ X).other W (nd_0_6 D).symm, (pj_EO X).wr W, (pj_FO1 X).other W (Or.inl (nd_0_7 D).symm), (pj_FO2 X).other W (Or.inl (nd_0_7 D).symm), (pj_FO3 X).other W (Or.inl (nd_0_7 D).symm), (pj_FO4 X).other W (Or.inl (nd_0_7 D).symm), (pj_FOr X).other W (Or.inl (nd_0_7 D).symm), (pj_FOl X).other W (Or.inl (nd_0_7 D).symm), (pj_AN1 X).other W (nd_0_8 D).symm, (pj_AN2 X).other W (nd_0_9 D).symm, (pj_AN3 X).other W (nd_0_10 D).symm, (pj_AN4 X).other W (nd_0_11 D).symm⟩
theorem hx_w_ls {a0 : Array Value} (hw : ∀ d ∈ tables_1, d.before a0 Z = true) (X : own_HX Z h aH aT vT aP vP aQ aK ob o1 o2 o3 o4 kT kP kQ kK nT mT mP rr ll tx px cP po pk K brk tabs cells par col ls inr rs) (D : List.Nodup [aH, aT, vT, aP, vP, aQ, aK, ob, o1, o2, o3, o4]) {v : Int32} (W : Wr h h' aH (Jvm.RoadKit.slotOf Z "com/example/whereas/whereas/model/HtmlLayout" "lineShows" "Z") (.int v)) (F : Fld Z h' aH "com/example/whereas/whereas/model/HtmlLayout" "lineShows" "Z" (.int v)) : own_HX Z h' aH aT vT aP vP aQ aK ob o1 o2 o3 o4 kT kP kQ kK nT mT mP rr ll tx px cP po pk K brk tabs cells par col v inr rs := ⟨pj_hln X, pj_hrb X, (pj_EH X).wr W, (pj_FH_text X).other W (Or.inr (slot_ne (Or.inr (own_w hw 30 rfl)) (Or.inl (own_w hw 99 rfl)) (by decide) (t := (.object "java/lang/StringBuilder")) (t' := .boolean) (by decide) (by decide))), (pj_FH_origins X).other W (Or.inr (slot_ne (Or.inr (own_w hw 49 rfl)) (Or.inl (own_w hw 99 rfl)) (by decide) (t := (.object "com/example/whereas/whereas/model/Origins$Builder")) (t' := .boolean) (by decide) (by decide))), (pj_FH_pending X).other W (Or.inr (slot_ne (Or.inr (own_w hw 51 rfl)) (Or.inl (own_w hw 99 rfl)) (by decide) (t := (.object "java/lang/StringBuilder")) (t' := .boolean) (by decide) (by decide))), (pj_FH_pendingOrigins X).other W (Or.inr (slot_ne (Or.inl (own_w hw 53 rfl)) (Or.inl (own_w hw 99 rfl)) (by decide) (t := (.array .int)) (t' := .boolean) (by decide) (by decide))), (pj_FH_pendingKept X).other W (Or.inr (slot_ne (Or.inl (own_w hw 55 rfl)) (Or.inl (own_w hw 99 rfl)) (by decide) (t := (.array .boolean)) (t' := .boolean) (by decide) (by decide))), (pj_FH_breaks X).other W (Or.inr (slot_ne (Or.inl (own_w hw 200 rfl)) (Or.inl (own_w hw 99 rfl)) (by decide) (t := .int) (t' := .boolean) (by decide) (by decide))), (pj_FH_tabs X).other W (Or.inr (slot_ne (Or.inl (own_w hw 103 rfl)) (Or.inl (own_w hw 99 rfl)) (by decide) (t := .int) (t' := .boolean) (by decide) (by decide))), (pj_FH_cells X).other W (Or.inr (slot_ne (Or.inl (own_w hw 107 rfl)) (Or.inl (own_w hw 99 rfl)) (by decide) (t := .int) (t' := .boolean) (by decide) (by decide))), (pj_FH_paragraph X).other W (Or.inr (slot_ne (Or.inl (own_w hw 198 rfl)) (Or.inl (own_w hw 99 rfl)) (by decide) (t := .boolean) (t' := .boolean) (by decide) (by decide))), (pj_FH_collapsing X).other W (Or.inr (slot_ne (Or.inl (own_w hw 97 rfl)) (Or.inl (own_w hw 99 rfl)) (by decide) (t := .boolean) (t' := .boolean) (by decide) (by decide))), F, (pj_FH_inRow X).other W (Or.inr (slot_ne (Or.inl (own_w hw 101 rfl)) (Or.inl (own_w hw 99 rfl)) (by decide) (t := .boolean) (t' := .boolean) (by decide) (by decide))), (pj_FH_rowShows X).other W (Or.inr (slot_ne (Or.inl (own_w hw 105 rfl)) (Or.inl (own_w hw 99 rfl)) (by decide) (t := .boolean) (t' := .boolean) (by decide) (by decide))), (pj_EsT_ X).wr W, (pj_FvT_ X).other W (Or.inl (nd_0_1 D).symm), (pj_FcT_ X).other W (Or.inl (nd_0_1 D).symm), (pj_FnT_ X).other W (Or.inl (nd_0_1 D).symm), (pj_FmT_ X).other W (Or.inl (nd_0_1 D).symm), (pj_VaT_ X).other W (nd_0_2 D).symm, (pj_EsP_ X).wr W, (pj_FvP_ X).other W (Or.inl (nd_0_3 D).symm), (pj_FcP_ X).other W (Or.inl (nd_0_3 D).symm), (pj_FnP_ X).other W (Or.inl (nd_0_3 D).symm), (pj_FmP_ X).other W (Or.inl (nd_0_3 D).symm), (pj_VaP_ X).other W (nd_0_4 D).symm, (pj_VQ_ X).other W (nd_0_5 D).symm, (pj_VK_ X).other W (nd_0_6 D).symm, (pj_EO X).wr W, (pj_FO1 X).other W (Or.inl (nd_0_7 D).symm), (pj_FO2 X).other W (Or.inl (nd_0_7 D).symm), (pj_FO3 X).other W (Or.inl (nd_0_7 D).symm), (pj_FO4 X).other W (Or.inl (nd_0_7 D).symm), (pj_FOr X).other W (Or.inl (nd_0_7 D).symm), (pj_FOl X).other W (Or.inl (nd_0_7 D).symm), (pj_AN1 X).other W (nd_0_8 D).symm, (pj_AN2 X).other W (nd_0_9 D).symm, (pj_AN3 X).other W (nd_0_10 D).symm, (pj_AN4 X).other W (nd_0_11 D).symm⟩
theorem hx_w_inr {a0 : Array Value} (hw : ∀ d ∈ tables_1, d.before a0 Z = true) (X : own_HX Z h aH aT vT aP vP aQ aK ob o1 o2 o3 o4 kT kP kQ kK nT mT mP rr ll tx px cP po pk K brk tabs cells par col ls inr rs) (D : List.Nodup [aH, aT, vT, aP, vP, aQ, aK, ob, o1, o2, o3, o4]) {v : Int32} (W : Wr h h' aH (Jvm.RoadKit.slotOf Z "com/example/whereas/whereas/model/HtmlLayout" "inRow" "Z") (.int v)) (F : Fld Z h' aH "com/example/whereas/whereas/model/HtmlLayout" "inRow" "Z" (.int v)) : own_HX Z h' aH aT vT aP vP aQ aK ob o1 o2 o3 o4 kT kP kQ kK nT mT mP rr ll tx px cP po pk K brk tabs cells par col ls v rs := ⟨pj_hln X, pj_hrb X, (pj_EH X).wr W, (pj_FH_text X).other W (Or.inr (slot_ne (Or.inr (own_w hw 30 rfl)) (Or.inl (own_w hw 101 rfl)) (by decide) (t := (.object "java/lang/StringBuilder")) (t' := .boolean) (by decide) (by decide))), (pj_FH_origins X).other W (Or.inr (slot_ne (Or.inr (own_w hw 49 rfl)) (Or.inl (own_w hw 101 rfl)) (by decide) (t := (.object "com/example/whereas/whereas/model/Origins$Builder")) (t' := .boolean) (by decide) (by decide))), (pj_FH_pending X).other W (Or.inr (slot_ne (Or.inr (own_w hw 51 rfl)) (Or.inl (own_w hw 101 rfl)) (by decide) (t := (.object "java/lang/StringBuilder")) (t' := .boolean) (by decide) (by decide))), (pj_FH_pendingOrigins X).other W (Or.inr (slot_ne (Or.inl (own_w hw 53 rfl)) (Or.inl (own_w hw 101 rfl)) (by decide) (t := (.array .int)) (t' := .boolean) (by decide) (by decide))), (pj_FH_pendingKept X).other W (Or.inr (slot_ne (Or.inl (own_w hw 55 rfl)) (Or.inl (own_w hw 101 rfl)) (by decide) (t := (.array .boolean)) (t' := .boolean) (by decide) (by decide))), (pj_FH_breaks X).other W (Or.inr (slot_ne (Or.inl (own_w hw 200 rfl)) (Or.inl (own_w hw 101 rfl)) (by decide) (t := .int) (t' := .boolean) (by decide) (by decide))), (pj_FH_tabs X).other W (Or.inr (slot_ne (Or.inl (own_w hw 103 rfl)) (Or.inl (own_w hw 101 rfl)) (by decide) (t := .int) (t' := .boolean) (by decide) (by decide))), (pj_FH_cells X).other W (Or.inr (slot_ne (Or.inl (own_w hw 107 rfl)) (Or.inl (own_w hw 101 rfl)) (by decide) (t := .int) (t' := .boolean) (by decide) (by decide))), (pj_FH_paragraph X).other W (Or.inr (slot_ne (Or.inl (own_w hw 198 rfl)) (Or.inl (own_w hw 101 rfl)) (by decide) (t := .boolean) (t' := .boolean) (by decide) (by decide))), (pj_FH_collapsing X).other W (Or.inr (slot_ne (Or.inl (own_w hw 97 rfl)) (Or.inl (own_w hw 101 rfl)) (by decide) (t := .boolean) (t' := .boolean) (by decide) (by decide))), (pj_FH_lineShows X).other W (Or.inr (slot_ne (Or.inl (own_w hw 99 rfl)) (Or.inl (own_w hw 101 rfl)) (by decide) (t := .boolean) (t' := .boolean) (by decide) (by decide))), F, (pj_FH_rowShows X).other W (Or.inr (slot_ne (Or.inl (own_w hw 105 rfl)) (Or.inl (own_w hw 101 rfl)) (by decide) (t := .boolean) (t' := .boolean) (by decide) (by decide))), (pj_EsT_ X).wr W, (pj_FvT_ X).other W (Or.inl (nd_0_1 D).symm), (pj_FcT_ X).other W (Or.inl (nd_0_1 D).symm), (pj_FnT_ X).other W (Or.inl (nd_0_1 D).symm), (pj_FmT_ X).other W (Or.inl (nd_0_1 D).symm), (pj_VaT_ X).other W (nd_0_2 D).symm, (pj_EsP_ X).wr W, (pj_FvP_ X).other W (Or.inl (nd_0_3 D).symm), (pj_FcP_ X).other W (Or.inl (nd_0_3 D).symm), (pj_FnP_ X).other W (Or.inl (nd_0_3 D).symm), (pj_FmP_ X).other W (Or.inl (nd_0_3 D).symm), (pj_VaP_ X).other W (nd_0_4 D).symm, (pj_VQ_ X).other W (nd_0_5 D).symm, (pj_VK_ X).other W (nd_0_6 D).symm, (pj_EO X).wr W, (pj_FO1 X).other W (Or.inl (nd_0_7 D).symm), (pj_FO2 X).other W (Or.inl (nd_0_7 D).symm), (pj_FO3 X).other W (Or.inl (nd_0_7 D).symm), (pj_FO4 X).other W (Or.inl (nd_0_7 D).symm), (pj_FOr X).other W (Or.inl (nd_0_7 D).symm), (pj_FOl X).other W (Or.inl (nd_0_7 D).symm), (pj_AN1 X).other W (nd_0_8 D).symm, (pj_AN2 X).other W (nd_0_9 D).symm, (pj_AN3 X).other W (nd_0_10 D).symm, (pj_AN4 X).other W (nd_0_11 D).symm⟩
theorem hx_w_rs {a0 : Array Value} (hw : ∀ d ∈ tables_1, d.before a0 Z = true) (X : own_HX Z h aH aT vT aP vP aQ aK ob o1 o2 o3 o4 kT kP kQ kK nT mT mP rr ll tx px cP po pk K brk tabs cells par col ls inr rs) (D : List.Nodup [aH, aT, vT, aP, vP, aQ, aK, ob, o1, o2, o3, o4]) {v : Int32} (W : Wr h h' aH (Jvm.RoadKit.slotOf Z "com/example/whereas/whereas/model/HtmlLayout" "rowShows" "Z") (.int v)) (F : Fld Z h' aH "com/example/whereas/whereas/model/HtmlLayout" "rowShows" "Z" (.int v)) : own_HX Z h' aH aT vT aP vP aQ aK ob o1 o2 o3 o4 kT kP kQ kK nT mT mP rr ll tx px cP po pk K brk tabs cells par col ls inr v := ⟨pj_hln X, pj_hrb X, (pj_EH X).wr W, (pj_FH_text X).other W (Or.inr (slot_ne (Or.inr (own_w hw 30 rfl)) (Or.inl (own_w hw 105 rfl)) (by decide) (t := (.object "java/lang/StringBuilder")) (t' := .boolean) (by decide) (by decide))), (pj_FH_origins X).other W (Or.inr (slot_ne (Or.inr (own_w hw 49 rfl)) (Or.inl (own_w hw 105 rfl)) (by decide) (t := (.object "com/example/whereas/whereas/model/Origins$Builder")) (t' := .boolean) (by decide) (by decide))), (pj_FH_pending X).other W (Or.inr (slot_ne (Or.inr (own_w hw 51 rfl)) (Or.inl (own_w hw 105 rfl)) (by decide) (t := (.object "java/lang/StringBuilder")) (t' := .boolean) (by decide) (by decide))), (pj_FH_pendingOrigins X).other W (Or.inr (slot_ne (Or.inl (own_w hw 53 rfl)) (Or.inl (own_w hw 105 rfl)) (by decide) (t := (.array .int)) (t' := .boolean) (by decide) (by decide))), (pj_FH_pendingKept X).other W (Or.inr (slot_ne (Or.inl (own_w hw 55 rfl)) (Or.inl (own_w hw 105 rfl)) (by decide) (t := (.array .boolean)) (t' := .boolean) (by decide) (by decide))), (pj_FH_breaks X).other W (Or.inr (slot_ne (Or.inl (own_w hw 200 rfl)) (Or.inl (own_w hw 105 rfl)) (by decide) (t := .int) (t' := .boolean) (by decide) (by decide))), (pj_FH_tabs X).other W (Or.inr (slot_ne (Or.inl (own_w hw 103 rfl)) (Or.inl (own_w hw 105 rfl)) (by decide) (t := .int) (t' := .boolean) (by decide) (by decide))), (pj_FH_cells X).other W (Or.inr (slot_ne (Or.inl (own_w hw 107 rfl)) (Or.inl (own_w hw 105 rfl)) (by decide) (t := .int) (t' := .boolean) (by decide) (by decide))), (pj_FH_paragraph X).other W (Or.inr (slot_ne (Or.inl (own_w hw 198 rfl)) (Or.inl (own_w hw 105 rfl)) (by decide) (t := .boolean) (t' := .boolean) (by decide) (by decide))), (pj_FH_collapsing X).other W (Or.inr (slot_ne (Or.inl (own_w hw 97 rfl)) (Or.inl (own_w hw 105 rfl)) (by decide) (t := .boolean) (t' := .boolean) (by decide) (by decide))), (pj_FH_lineShows X).other W (Or.inr (slot_ne (Or.inl (own_w hw 99 rfl)) (Or.inl (own_w hw 105 rfl)) (by decide) (t := .boolean) (t' := .boolean) (by decide) (by decide))), (pj_FH_inRow X).other W (Or.inr (slot_ne (Or.inl (own_w hw 101 rfl)) (Or.inl (own_w hw 105 rfl)) (by decide) (t := .boolean) (t' := .boolean) (by decide) (by decide))), F, (pj_EsT_ X).wr W, (pj_FvT_ X).other W (Or.inl (nd_0_1 D).symm), (pj_FcT_ X).other W (Or.inl (nd_0_1 D).symm), (pj_FnT_ X).other W (Or.inl (nd_0_1 D).symm), (pj_FmT_ X).other W (Or.inl (nd_0_1 D).symm), (pj_VaT_ X).other W (nd_0_2 D).symm, (pj_EsP_ X).wr W, (pj_FvP_ X).other W (Or.inl (nd_0_3 D).symm), (pj_FcP_ X).other W (Or.inl (nd_0_3 D).symm), (pj_FnP_ X).other W (Or.inl (nd_0_3 D).symm), (pj_FmP_ X).other W (Or.inl (nd_0_3 D).symm), (pj_VaP_ X).other W (nd_0_4 D).symm, (pj_VQ_ X).other W (nd_0_5 D).symm, (pj_VK_ X).other W (nd_0_6 D).symm, (pj_EO X).wr W, (pj_FO1 X).other W (Or.inl (nd_0_7 D).symm), (pj_FO2 X).other W (Or.inl (nd_0_7 D).symm), (pj_FO3 X).other W (Or.inl (nd_0_7 D).symm), (pj_FO4 X).other W (Or.inl (nd_0_7 D).symm), (pj_FOr X).other W (Or.inl (nd_0_7 D).symm), (pj_FOl X).other W (Or.inl (nd_0_7 D).symm), (pj_AN1 X).other W (nd_0_8 D).symm, (pj_AN2 X).other W (nd_0_9 D).symm, (pj_AN3 X).other W (nd_0_10 D).symm, (pj_AN4 X).other W (nd_0_11 D).symm⟩
theorem hx_T (X : own_HX Z h aH aT vT aP vP aQ aK ob o1 o2 o3 o4 kT kP kQ kK nT mT mP rr ll tx px cP po pk K brk tabs cells par col ls inr rs) (D : List.Nodup [aH, aT, vT, aP, vP, aQ, aK, ob, o1, o2, o3, o4]) {nT' mT' : Int32} {tx' : List Int32} (Kk : Keep h h' [aT, vT]) (q0 : Exa Z h' aT "java/lang/StringBuilder") (q1 : Fld Z h' aT "java/lang/AbstractStringBuilder" "value" "[B" (.ref vT)) (q2 : Fld Z h' aT "java/lang/AbstractStringBuilder" "coder" "B" (.int (0 : Int32))) (q3 : Fld Z h' aT "java/lang/AbstractStringBuilder" "count" "I" (.int nT')) (q4 : Fld Z h' aT "java/lang/AbstractStringBuilder" "maybeLatin1" "Z" (.int mT')) (q5 : Arv Z h' vT kT .byte 16 (own_vs tx') (.int (0 : Int32))) (ln : own_ln tx' nT') : own_HX Z h' aH aT vT aP vP aQ aK ob o1 o2 o3 o4 kT kP kQ kK nT' mT' mP rr ll tx' px cP po pk K brk tabs cells par col ls inr rs := ⟨ln, pj_hrb X, (pj_EH X).keep Kk, (pj_FH_text X).keep Kk (ninS (nd_0_1 D) (ninS (nd_0_2 D) nin0)), (pj_FH_origins X).keep Kk (ninS (nd_0_1 D) (ninS (nd_0_2 D) nin0)), (pj_FH_pending X).keep Kk (ninS (nd_0_1 D) (ninS (nd_0_2 D) nin0)), (pj_FH_pendingOrigins X).keep Kk (ninS (nd_0_1 D) (ninS (nd_0_2 D) nin0)), (pj_FH_pendingKept X).keep Kk (ninS (nd_0_1 D) (ninS (nd_0_2 D) nin0)), (pj_FH_breaks X).keep Kk (ninS (nd_0_1 D) (ninS (nd_0_2 D) nin0)), (pj_FH_tabs X).keep Kk (ninS (nd_0_1 D) (ninS (nd_0_2 D) nin0)), (pj_FH_cells X).keep Kk (ninS (nd_0_1 D) (ninS (nd_0_2 D) nin0)), (pj_FH_paragraph X).keep Kk (ninS (nd_0_1 D) (ninS (nd_0_2 D) nin0)), (pj_FH_collapsing X).keep Kk (ninS (nd_0_1 D) (ninS (nd_0_2 D) nin0)), (pj_FH_lineShows X).keep Kk (ninS (nd_0_1 D) (ninS (nd_0_2 D) nin0)), (pj_FH_inRow X).keep Kk (ninS (nd_0_1 D) (ninS (nd_0_2 D) nin0)), (pj_FH_rowShows X).keep Kk (ninS (nd_0_1 D) (ninS (nd_0_2 D) nin0)), q0, q1, q2, q3, q4, q5, (pj_EsP_ X).keep Kk, (pj_FvP_ X).keep Kk (ninS (nd_1_3 D).symm (ninS (nd_2_3 D).symm nin0)), (pj_FcP_ X).keep Kk (ninS (nd_1_3 D).symm (ninS (nd_2_3 D).symm nin0)), (pj_FnP_ X).keep Kk (ninS (nd_1_3 D).symm (ninS (nd_2_3 D).symm nin0)), (pj_FmP_ X).keep Kk (ninS (nd_1_3 D).symm (ninS (nd_2_3 D).symm nin0)), (pj_VaP_ X).keep Kk (ninS (nd_1_4 D).symm (ninS (nd_2_4 D).symm nin0)), (pj_VQ_ X).keep Kk (ninS (nd_1_5 D).symm (ninS (nd_2_5 D).symm nin0)), (pj_VK_ X).keep Kk (ninS (nd_1_6 D).symm (ninS (nd_2_6 D).symm nin0)), (pj_EO X).keep Kk, (pj_FO1 X).keep Kk (ninS (nd_1_7 D).symm (ninS (nd_2_7 D).symm nin0)), (pj_FO2 X).keep Kk (ninS (nd_1_7 D).symm (ninS (nd_2_7 D).symm nin0)), (pj_FO3 X).keep Kk (ninS (nd_1_7 D).symm (ninS (nd_2_7 D).symm nin0)), (pj_FO4 X).keep Kk (ninS (nd_1_7 D).symm (ninS (nd_2_7 D).symm nin0)), (pj_FOr X).keep Kk (ninS (nd_1_7 D).symm (ninS (nd_2_7 D).symm nin0)), (pj_FOl X).keep Kk (ninS (nd_1_7 D).symm (ninS (nd_2_7 D).symm nin0)), (pj_AN1 X).keep Kk (ninS (nd_1_8 D).symm (ninS (nd_2_8 D).symm nin0)), (pj_AN2 X).keep Kk (ninS (nd_1_9 D).symm (ninS (nd_2_9 D).symm nin0)), (pj_AN3 X).keep Kk (ninS (nd_1_10 D).symm (ninS (nd_2_10 D).symm nin0)), (pj_AN4 X).keep Kk (ninS (nd_1_11 D).symm (ninS (nd_2_11 D).symm nin0))⟩
theorem hx_P (X : own_HX Z h aH aT vT aP vP aQ aK ob o1 o2 o3 o4 kT kP kQ kK nT mT mP rr ll tx px cP po pk K brk tabs cells par col ls inr rs) (D : List.Nodup [aH, aT, vT, aP, vP, aQ, aK, ob, o1, o2, o3, o4]) {cP' mP' : Int32} {px' : List Int32} (Kk : Keep h h' [aP]) (q0 : Exa Z h' aP "java/lang/StringBuilder") (q1 : Fld Z h' aP "java/lang/AbstractStringBuilder" "value" "[B" (.ref vP)) (q2 : Fld Z h' aP "java/lang/AbstractStringBuilder" "coder" "B" (.int (0 : Int32))) (q3 : Fld Z h' aP "java/lang/AbstractStringBuilder" "count" "I" (.int cP')) (q4 : Fld Z h' aP "java/lang/AbstractStringBuilder" "maybeLatin1" "Z" (.int mP')) (q5 : Arv Z h' vP kP .byte 16 (own_vs px') (.int (0 : Int32))) : own_HX Z h' aH aT vT aP vP aQ aK ob o1 o2 o3 o4 kT kP kQ kK nT mT mP' rr ll tx px' cP' po pk K brk tabs cells par col ls inr rs := ⟨pj_hln X, pj_hrb X, (pj_EH X).keep Kk, (pj_FH_text X).keep Kk (ninS (nd_0_3 D) nin0), (pj_FH_origins X).keep Kk (ninS (nd_0_3 D) nin0), (pj_FH_pending X).keep Kk (ninS (nd_0_3 D) nin0), (pj_FH_pendingOrigins X).keep Kk (ninS (nd_0_3 D) nin0), (pj_FH_pendingKept X).keep Kk (ninS (nd_0_3 D) nin0), (pj_FH_breaks X).keep Kk (ninS (nd_0_3 D) nin0), (pj_FH_tabs X).keep Kk (ninS (nd_0_3 D) nin0), (pj_FH_cells X).keep Kk (ninS (nd_0_3 D) nin0), (pj_FH_paragraph X).keep Kk (ninS (nd_0_3 D) nin0), (pj_FH_collapsing X).keep Kk (ninS (nd_0_3 D) nin0), (pj_FH_lineShows X).keep Kk (ninS (nd_0_3 D) nin0), (pj_FH_inRow X).keep Kk (ninS (nd_0_3 D) nin0), (pj_FH_rowShows X).keep Kk (ninS (nd_0_3 D) nin0), (pj_EsT_ X).keep Kk, (pj_FvT_ X).keep Kk (ninS (nd_1_3 D) nin0), (pj_FcT_ X).keep Kk (ninS (nd_1_3 D) nin0), (pj_FnT_ X).keep Kk (ninS (nd_1_3 D) nin0), (pj_FmT_ X).keep Kk (ninS (nd_1_3 D) nin0), (pj_VaT_ X).keep Kk (ninS (nd_2_3 D) nin0), q0, q1, q2, q3, q4, q5, (pj_VQ_ X).keep Kk (ninS (nd_3_5 D).symm nin0), (pj_VK_ X).keep Kk (ninS (nd_3_6 D).symm nin0), (pj_EO X).keep Kk, (pj_FO1 X).keep Kk (ninS (nd_3_7 D).symm nin0), (pj_FO2 X).keep Kk (ninS (nd_3_7 D).symm nin0), (pj_FO3 X).keep Kk (ninS (nd_3_7 D).symm nin0), (pj_FO4 X).keep Kk (ninS (nd_3_7 D).symm nin0), (pj_FOr X).keep Kk (ninS (nd_3_7 D).symm nin0), (pj_FOl X).keep Kk (ninS (nd_3_7 D).symm nin0), (pj_AN1 X).keep Kk (ninS (nd_3_8 D).symm nin0), (pj_AN2 X).keep Kk (ninS (nd_3_9 D).symm nin0), (pj_AN3 X).keep Kk (ninS (nd_3_10 D).symm nin0), (pj_AN4 X).keep Kk (ninS (nd_3_11 D).symm nin0)⟩
theorem hx_P2 (X : own_HX Z h aH aT vT aP vP aQ aK ob o1 o2 o3 o4 kT kP kQ kK nT mT mP rr ll tx px cP po pk K brk tabs cells par col ls inr rs) (D : List.Nodup [aH, aT, vT, aP, vP, aQ, aK, ob, o1, o2, o3, o4]) {cP' mP' : Int32} {px' : List Int32} (Kk : Keep h h' [aP, vP]) (q0 : Exa Z h' aP "java/lang/StringBuilder") (q1 : Fld Z h' aP "java/lang/AbstractStringBuilder" "value" "[B" (.ref vP)) (q2 : Fld Z h' aP "java/lang/AbstractStringBuilder" "coder" "B" (.int (0 : Int32))) (q3 : Fld Z h' aP "java/lang/AbstractStringBuilder" "count" "I" (.int cP')) (q4 : Fld Z h' aP "java/lang/AbstractStringBuilder" "maybeLatin1" "Z" (.int mP')) (q5 : Arv Z h' vP kP .byte 16 (own_vs px') (.int (0 : Int32))) : own_HX Z h' aH aT vT aP vP aQ aK ob o1 o2 o3 o4 kT kP kQ kK nT mT mP' rr ll tx px' cP' po pk K brk tabs cells par col ls inr rs := ⟨pj_hln X, pj_hrb X, (pj_EH X).keep Kk, (pj_FH_text X).keep Kk (ninS (nd_0_3 D) (ninS (nd_0_4 D) nin0)), (pj_FH_origins X).keep Kk (ninS (nd_0_3 D) (ninS (nd_0_4 D) nin0)), (pj_FH_pending X).keep Kk (ninS (nd_0_3 D) (ninS (nd_0_4 D) nin0)), (pj_FH_pendingOrigins X).keep Kk (ninS (nd_0_3 D) (ninS (nd_0_4 D) nin0)), (pj_FH_pendingKept X).keep Kk (ninS (nd_0_3 D) (ninS (nd_0_4 D) nin0)), (pj_FH_breaks X).keep Kk (ninS (nd_0_3 D) (ninS (nd_0_4 D) nin0)), (pj_FH_tabs X).keep Kk (ninS (nd_0_3 D) (ninS (nd_0_4 D) nin0)), (pj_FH_cells X).keep Kk (ninS (nd_0_3 D) (ninS (nd_0_4 D) nin0)), (pj_FH_paragraph X).keep Kk (ninS (nd_0_3 D) (ninS (nd_0_4 D) nin0)), (pj_FH_collapsing X).keep Kk (ninS (nd_0_3 D) (ninS (nd_0_4 D) nin0)), (pj_FH_lineShows X).keep Kk (ninS (nd_0_3 D) (ninS (nd_0_4 D) nin0)), (pj_FH_inRow X).keep Kk (ninS (nd_0_3 D) (ninS (nd_0_4 D) nin0)), (pj_FH_rowShows X).keep Kk (ninS (nd_0_3 D) (ninS (nd_0_4 D) nin0)), (pj_EsT_ X).keep Kk, (pj_FvT_ X).keep Kk (ninS (nd_1_3 D) (ninS (nd_1_4 D) nin0)), (pj_FcT_ X).keep Kk (ninS (nd_1_3 D) (ninS (nd_1_4 D) nin0)), (pj_FnT_ X).keep Kk (ninS (nd_1_3 D) (ninS (nd_1_4 D) nin0)), (pj_FmT_ X).keep Kk (ninS (nd_1_3 D) (ninS (nd_1_4 D) nin0)), (pj_VaT_ X).keep Kk (ninS (nd_2_3 D) (ninS (nd_2_4 D) nin0)), q0, q1, q2, q3, q4, q5, (pj_VQ_ X).keep Kk (ninS (nd_3_5 D).symm (ninS (nd_4_5 D).symm nin0)), (pj_VK_ X).keep Kk (ninS (nd_3_6 D).symm (ninS (nd_4_6 D).symm nin0)), (pj_EO X).keep Kk, (pj_FO1 X).keep Kk (ninS (nd_3_7 D).symm (ninS (nd_4_7 D).symm nin0)), (pj_FO2 X).keep Kk (ninS (nd_3_7 D).symm (ninS (nd_4_7 D).symm nin0)), (pj_FO3 X).keep Kk (ninS (nd_3_7 D).symm (ninS (nd_4_7 D).symm nin0)), (pj_FO4 X).keep Kk (ninS (nd_3_7 D).symm (ninS (nd_4_7 D).symm nin0)), (pj_FOr X).keep Kk (ninS (nd_3_7 D).symm (ninS (nd_4_7 D).symm nin0)), (pj_FOl X).keep Kk (ninS (nd_3_7 D).symm (ninS (nd_4_7 D).symm nin0)), (pj_AN1 X).keep Kk (ninS (nd_3_8 D).symm (ninS (nd_4_8 D).symm nin0)), (pj_AN2 X).keep Kk (ninS (nd_3_9 D).symm (ninS (nd_4_9 D).symm nin0)), (pj_AN3 X).keep Kk (ninS (nd_3_10 D).symm (ninS (nd_4_10 D).symm nin0)), (pj_AN4 X).keep Kk (ninS (nd_3_11 D).symm (ninS (nd_4_11 D).symm nin0))⟩
theorem hx_O (X : own_HX Z h aH aT vT aP vP aQ aK ob o1 o2 o3 o4 kT kP kQ kK nT mT mP rr ll tx px cP po pk K brk tabs cells par col ls inr rs) (D : List.Nodup [aH, aT, vT, aP, vP, aQ, aK, ob, o1, o2, o3, o4]) {rr' ll' : Int32} {K' : Nat} (Kk : Keep h h' [ob, o1, o2, o3, o4]) (rb : own_rb rr' K') (q0 : Exa Z h' ob "com/example/whereas/whereas/model/Origins$Builder") (q1 : Fld Z h' ob "com/example/whereas/whereas/model/Origins$Builder" "starts" "[I" (.ref o1)) (q2 : Fld Z h' ob "com/example/whereas/whereas/model/Origins$Builder" "originStarts" "[I" (.ref o2)) (q3 : Fld Z h' ob "com/example/whereas/whereas/model/Origins$Builder" "originEnds" "[I" (.ref o3)) (q4 : Fld Z h' ob "com/example/whereas/whereas/model/Origins$Builder" "literal" "[Z" (.ref o4)) (q5 : Fld Z h' ob "com/example/whereas/whereas/model/Origins$Builder" "runs" "I" (.int rr')) (q6 : Fld Z h' ob "com/example/whereas/whereas/model/Origins$Builder" "length" "I" (.int ll')) (q7 : own_An Z h' o1 .int) (q8 : own_An Z h' o2 .int) (q9 : own_An Z h' o3 .int) (q10 : own_An Z h' o4 .boolean) : own_HX Z h' aH aT vT aP vP aQ aK ob o1 o2 o3 o4 kT kP kQ kK nT mT mP rr' ll' tx px cP po pk K' brk tabs cells par col ls inr rs := ⟨pj_hln X, rb, (pj_EH X).keep Kk, (pj_FH_text X).keep Kk (ninS (nd_0_7 D) (ninS (nd_0_8 D) (ninS (nd_0_9 D) (ninS (nd_0_10 D) (ninS (nd_0_11 D) nin0))))), (pj_FH_origins X).keep Kk (ninS (nd_0_7 D) (ninS (nd_0_8 D) (ninS (nd_0_9 D) (ninS (nd_0_10 D) (ninS (nd_0_11 D) nin0))))), (pj_FH_pending X).keep Kk (ninS (nd_0_7 D) (ninS (nd_0_8 D) (ninS (nd_0_9 D) (ninS (nd_0_10 D) (ninS (nd_0_11 D) nin0))))), (pj_FH_pendingOrigins X).keep Kk (ninS (nd_0_7 D) (ninS (nd_0_8 D) (ninS (nd_0_9 D) (ninS (nd_0_10 D) (ninS (nd_0_11 D) nin0))))), (pj_FH_pendingKept X).keep Kk (ninS (nd_0_7 D) (ninS (nd_0_8 D) (ninS (nd_0_9 D) (ninS (nd_0_10 D) (ninS (nd_0_11 D) nin0))))), (pj_FH_breaks X).keep Kk (ninS (nd_0_7 D) (ninS (nd_0_8 D) (ninS (nd_0_9 D) (ninS (nd_0_10 D) (ninS (nd_0_11 D) nin0))))), (pj_FH_tabs X).keep Kk (ninS (nd_0_7 D) (ninS (nd_0_8 D) (ninS (nd_0_9 D) (ninS (nd_0_10 D) (ninS (nd_0_11 D) nin0))))), (pj_FH_cells X).keep Kk (ninS (nd_0_7 D) (ninS (nd_0_8 D) (ninS (nd_0_9 D) (ninS (nd_0_10 D) (ninS (nd_0_11 D) nin0))))), (pj_FH_paragraph X).keep Kk (ninS (nd_0_7 D) (ninS (nd_0_8 D) (ninS (nd_0_9 D) (ninS (nd_0_10 D) (ninS (nd_0_11 D) nin0))))), (pj_FH_collapsing X).keep Kk (ninS (nd_0_7 D) (ninS (nd_0_8 D) (ninS (nd_0_9 D) (ninS (nd_0_10 D) (ninS (nd_0_11 D) nin0))))), (pj_FH_lineShows X).keep Kk (ninS (nd_0_7 D) (ninS (nd_0_8 D) (ninS (nd_0_9 D) (ninS (nd_0_10 D) (ninS (nd_0_11 D) nin0))))), (pj_FH_inRow X).keep Kk (ninS (nd_0_7 D) (ninS (nd_0_8 D) (ninS (nd_0_9 D) (ninS (nd_0_10 D) (ninS (nd_0_11 D) nin0))))), (pj_FH_rowShows X).keep Kk (ninS (nd_0_7 D) (ninS (nd_0_8 D) (ninS (nd_0_9 D) (ninS (nd_0_10 D) (ninS (nd_0_11 D) nin0))))), (pj_EsT_ X).keep Kk, (pj_FvT_ X).keep Kk (ninS (nd_1_7 D) (ninS (nd_1_8 D) (ninS (nd_1_9 D) (ninS (nd_1_10 D) (ninS (nd_1_11 D) nin0))))), (pj_FcT_ X).keep Kk (ninS (nd_1_7 D) (ninS (nd_1_8 D) (ninS (nd_1_9 D) (ninS (nd_1_10 D) (ninS (nd_1_11 D) nin0))))), (pj_FnT_ X).keep Kk (ninS (nd_1_7 D) (ninS (nd_1_8 D) (ninS (nd_1_9 D) (ninS (nd_1_10 D) (ninS (nd_1_11 D) nin0))))), (pj_FmT_ X).keep Kk (ninS (nd_1_7 D) (ninS (nd_1_8 D) (ninS (nd_1_9 D) (ninS (nd_1_10 D) (ninS (nd_1_11 D) nin0))))), (pj_VaT_ X).keep Kk (ninS (nd_2_7 D) (ninS (nd_2_8 D) (ninS (nd_2_9 D) (ninS (nd_2_10 D) (ninS (nd_2_11 D) nin0))))), (pj_EsP_ X).keep Kk, (pj_FvP_ X).keep Kk (ninS (nd_3_7 D) (ninS (nd_3_8 D) (ninS (nd_3_9 D) (ninS (nd_3_10 D) (ninS (nd_3_11 D) nin0))))), (pj_FcP_ X).keep Kk (ninS (nd_3_7 D) (ninS (nd_3_8 D) (ninS (nd_3_9 D) (ninS (nd_3_10 D) (ninS (nd_3_11 D) nin0))))), (pj_FnP_ X).keep Kk (ninS (nd_3_7 D) (ninS (nd_3_8 D) (ninS (nd_3_9 D) (ninS (nd_3_10 D) (ninS (nd_3_11 D) nin0))))), (pj_FmP_ X).keep Kk (ninS (nd_3_7 D) (ninS (nd_3_8 D) (ninS (nd_3_9 D) (ninS (nd_3_10 D) (ninS (nd_3_11 D) nin0))))), (pj_VaP_ X).keep Kk (ninS (nd_4_7 D) (ninS (nd_4_8 D) (ninS (nd_4_9 D) (ninS (nd_4_10 D) (ninS (nd_4_11 D) nin0))))), (pj_VQ_ X).keep Kk (ninS (nd_5_7 D) (ninS (nd_5_8 D) (ninS (nd_5_9 D) (ninS (nd_5_10 D) (ninS (nd_5_11 D) nin0))))), (pj_VK_ X).keep Kk (ninS (nd_6_7 D) (ninS (nd_6_8 D) (ninS (nd_6_9 D) (ninS (nd_6_10 D) (ninS (nd_6_11 D) nin0))))), q0, q1, q2, q3, q4, q5, q6, q7, q8, q9, q10⟩
theorem hx_W_aQ (X : own_HX Z h aH aT vT aP vP aQ aK ob o1 o2 o3 o4 kT kP kQ kK nT mT mP rr ll tx px cP po pk K brk tabs cells par col ls inr rs) (D : List.Nodup [aH, aT, vT, aP, vP, aQ, aK, ob, o1, o2, o3, o4]) {sl : Nat} {v : Value} {l' : List Value} (W : Wr h h' aQ sl v) (F : Arv Z h' aQ kQ .int 8 l' (.int (0 : Int32))) : own_HX Z h' aH aT vT aP vP aQ aK ob o1 o2 o3 o4 kT kP kQ kK nT mT mP rr ll tx px cP l' pk K brk tabs cells par col ls inr rs := ⟨pj_hln X, pj_hrb X, (pj_EH X).wr W, (pj_FH_text X).other W (Or.inl (nd_0_5 D)), (pj_FH_origins X).other W (Or.inl (nd_0_5 D)), (pj_FH_pending X).other W (Or.inl (nd_0_5 D)), (pj_FH_pendingOrigins X).other W (Or.inl (nd_0_5 D)), (pj_FH_pendingKept X).other W (Or.inl (nd_0_5 D)), (pj_FH_breaks X).other W (Or.inl (nd_0_5 D)), (pj_FH_tabs X).other W (Or.inl (nd_0_5 D)), (pj_FH_cells X).other W (Or.inl (nd_0_5 D)), (pj_FH_paragraph X).other W (Or.inl (nd_0_5 D)), (pj_FH_collapsing X).other W (Or.inl (nd_0_5 D)), (pj_FH_lineShows X).other W (Or.inl (nd_0_5 D)), (pj_FH_inRow X).other W (Or.inl (nd_0_5 D)), (pj_FH_rowShows X).other W (Or.inl (nd_0_5 D)), (pj_EsT_ X).wr W, (pj_FvT_ X).other W (Or.inl (nd_1_5 D)), (pj_FcT_ X).other W (Or.inl (nd_1_5 D)), (pj_FnT_ X).other W (Or.inl (nd_1_5 D)), (pj_FmT_ X).other W (Or.inl (nd_1_5 D)), (pj_VaT_ X).other W (nd_2_5 D), (pj_EsP_ X).wr W, (pj_FvP_ X).other W (Or.inl (nd_3_5 D)), (pj_FcP_ X).other W (Or.inl (nd_3_5 D)), (pj_FnP_ X).other W (Or.inl (nd_3_5 D)), (pj_FmP_ X).other W (Or.inl (nd_3_5 D)), (pj_VaP_ X).other W (nd_4_5 D), F, (pj_VK_ X).other W (nd_5_6 D).symm, (pj_EO X).wr W, (pj_FO1 X).other W (Or.inl (nd_5_7 D).symm), (pj_FO2 X).other W (Or.inl (nd_5_7 D).symm), (pj_FO3 X).other W (Or.inl (nd_5_7 D).symm), (pj_FO4 X).other W (Or.inl (nd_5_7 D).symm), (pj_FOr X).other W (Or.inl (nd_5_7 D).symm), (pj_FOl X).other W (Or.inl (nd_5_7 D).symm), (pj_AN1 X).other W (nd_5_8 D).symm, (pj_AN2 X).other W (nd_5_9 D).symm, (pj_AN3 X).other W (nd_5_10 D).symm, (pj_AN4 X).other W (nd_5_11 D).symm⟩
theorem hx_pad_aQ (X : own_HX Z h aH aT vT aP vP aQ aK ob o1 o2 o3 o4 kT kP kQ kK nT mT mP rr ll tx px cP [] pk K brk tabs cells par col ls inr rs) : own_HX Z h aH aT vT aP vP aQ aK ob o1 o2 o3 o4 kT kP kQ kK nT mT mP rr ll tx px cP [(.int (0 : Int32)), (.int (0 : Int32)), (.int (0 : Int32)), (.int (0 : Int32)), (.int (0 : Int32)), (.int (0 : Int32)), (.int (0 : Int32)), (.int (0 : Int32))] pk K brk tabs cells par col ls inr rs := ⟨pj_hln X, pj_hrb X, pj_EH X, pj_FH_text X, pj_FH_origins X, pj_FH_pending X, pj_FH_pendingOrigins X, pj_FH_pendingKept X, pj_FH_breaks X, pj_FH_tabs X, pj_FH_cells X, pj_FH_paragraph X, pj_FH_collapsing X, pj_FH_lineShows X, pj_FH_inRow X, pj_FH_rowShows X, pj_EsT_ X, pj_FvT_ X, pj_FcT_ X, pj_FnT_ X, pj_FmT_ X, pj_VaT_ X, pj_EsP_ X, pj_FvP_ X, pj_FcP_ X, pj_FnP_ X, pj_FmP_ X, pj_VaP_ X, (pj_VQ_ X).pad (pad_rep [] (.int (0 : Int32)) 8), pj_VK_ X, pj_EO X, pj_FO1 X, pj_FO2 X, pj_FO3 X, pj_FO4 X, pj_FOr X, pj_FOl X, pj_AN1 X, pj_AN2 X, pj_AN3 X, pj_AN4 X⟩
theorem hx_W_aK (X : own_HX Z h aH aT vT aP vP aQ aK ob o1 o2 o3 o4 kT kP kQ kK nT mT mP rr ll tx px cP po pk K brk tabs cells par col ls inr rs) (D : List.Nodup [aH, aT, vT, aP, vP, aQ, aK, ob, o1, o2, o3, o4]) {sl : Nat} {v : Value} {l' : List Value} (W : Wr h h' aK sl v) (F : Arv Z h' aK kK .boolean 4 l' (.int (0 : Int32))) : own_HX Z h' aH aT vT aP vP aQ aK ob o1 o2 o3 o4 kT kP kQ kK nT mT mP rr ll tx px cP po l' K brk tabs cells par col ls inr rs := ⟨pj_hln X, pj_hrb X, (pj_EH X).wr W, (pj_FH_text X).other W (Or.inl (nd_0_6 D)), (pj_FH_origins X).other W (Or.inl (nd_0_6 D)), (pj_FH_pending X).other W (Or.inl (nd_0_6 D)), (pj_FH_pendingOrigins X).other W (Or.inl (nd_0_6 D)), (pj_FH_pendingKept X).other W (Or.inl (nd_0_6 D)), (pj_FH_breaks X).other W (Or.inl (nd_0_6 D)), (pj_FH_tabs X).other W (Or.inl (nd_0_6 D)), (pj_FH_cells X).other W (Or.inl (nd_0_6 D)), (pj_FH_paragraph X).other W (Or.inl (nd_0_6 D)), (pj_FH_collapsing X).other W (Or.inl (nd_0_6 D)), (pj_FH_lineShows X).other W (Or.inl (nd_0_6 D)), (pj_FH_inRow X).other W (Or.inl (nd_0_6 D)), (pj_FH_rowShows X).other W (Or.inl (nd_0_6 D)), (pj_EsT_ X).wr W, (pj_FvT_ X).other W (Or.inl (nd_1_6 D)), (pj_FcT_ X).other W (Or.inl (nd_1_6 D)), (pj_FnT_ X).other W (Or.inl (nd_1_6 D)), (pj_FmT_ X).other W (Or.inl (nd_1_6 D)), (pj_VaT_ X).other W (nd_2_6 D), (pj_EsP_ X).wr W, (pj_FvP_ X).other W (Or.inl (nd_3_6 D)), (pj_FcP_ X).other W (Or.inl (nd_3_6 D)), (pj_FnP_ X).other W (Or.inl (nd_3_6 D)), (pj_FmP_ X).other W (Or.inl (nd_3_6 D)), (pj_VaP_ X).other W (nd_4_6 D), (pj_VQ_ X).other W (nd_5_6 D), F, (pj_EO X).wr W, (pj_FO1 X).other W (Or.inl (nd_6_7 D).symm), (pj_FO2 X).other W (Or.inl (nd_6_7 D).symm), (pj_FO3 X).other W (Or.inl (nd_6_7 D).symm), (pj_FO4 X).other W (Or.inl (nd_6_7 D).symm), (pj_FOr X).other W (Or.inl (nd_6_7 D).symm), (pj_FOl X).other W (Or.inl (nd_6_7 D).symm), (pj_AN1 X).other W (nd_6_8 D).symm, (pj_AN2 X).other W (nd_6_9 D).symm, (pj_AN3 X).other W (nd_6_10 D).symm, (pj_AN4 X).other W (nd_6_11 D).symm⟩
theorem hx_pad_aK (X : own_HX Z h aH aT vT aP vP aQ aK ob o1 o2 o3 o4 kT kP kQ kK nT mT mP rr ll tx px cP po [] K brk tabs cells par col ls inr rs) : own_HX Z h aH aT vT aP vP aQ aK ob o1 o2 o3 o4 kT kP kQ kK nT mT mP rr ll tx px cP po [(.int (0 : Int32)), (.int (0 : Int32)), (.int (0 : Int32)), (.int (0 : Int32))] K brk tabs cells par col ls inr rs := ⟨pj_hln X, pj_hrb X, pj_EH X, pj_FH_text X, pj_FH_origins X, pj_FH_pending X, pj_FH_pendingOrigins X, pj_FH_pendingKept X, pj_FH_breaks X, pj_FH_tabs X, pj_FH_cells X, pj_FH_paragraph X, pj_FH_collapsing X, pj_FH_lineShows X, pj_FH_inRow X, pj_FH_rowShows X, pj_EsT_ X, pj_FvT_ X, pj_FcT_ X, pj_FnT_ X, pj_FmT_ X, pj_VaT_ X, pj_EsP_ X, pj_FvP_ X, pj_FcP_ X, pj_FnP_ X, pj_FmP_ X, pj_VaP_ X, pj_VQ_ X, (pj_VK_ X).pad (pad_rep [] (.int (0 : Int32)) 4), pj_EO X, pj_FO1 X, pj_FO2 X, pj_FO3 X, pj_FO4 X, pj_FOr X, pj_FOl X, pj_AN1 X, pj_AN2 X, pj_AN3 X, pj_AN4 X⟩
theorem hx_keep (X : own_HX Z h aH aT vT aP vP aQ aK ob o1 o2 o3 o4 kT kP kQ kK nT mT mP rr ll tx px cP po pk K brk tabs cells par col ls inr rs) {ws : List Addr} (Kk : Keep h h' ws) (hd : ∀ y ∈ [aH, aT, vT, aP, vP, aQ, aK, ob, o1, o2, o3, o4], y ∉ ws) : own_HX Z h' aH aT vT aP vP aQ aK ob o1 o2 o3 o4 kT kP kQ kK nT mT mP rr ll tx px cP po pk K brk tabs cells par col ls inr rs := ⟨pj_hln X, pj_hrb X, (pj_EH X).keep Kk, (pj_FH_text X).keep Kk (hd _ (List.mem_of_getElem? (i := 0) rfl)), (pj_FH_origins X).keep Kk (hd _ (List.mem_of_getElem? (i := 0) rfl)), (pj_FH_pending X).keep Kk (hd _ (List.mem_of_getElem? (i := 0) rfl)), (pj_FH_pendingOrigins X).keep Kk (hd _ (List.mem_of_getElem? (i := 0) rfl)), (pj_FH_pendingKept X).keep Kk (hd _ (List.mem_of_getElem? (i := 0) rfl)), (pj_FH_breaks X).keep Kk (hd _ (List.mem_of_getElem? (i := 0) rfl)), (pj_FH_tabs X).keep Kk (hd _ (List.mem_of_getElem? (i := 0) rfl)), (pj_FH_cells X).keep Kk (hd _ (List.mem_of_getElem? (i := 0) rfl)), (pj_FH_paragraph X).keep Kk (hd _ (List.mem_of_getElem? (i := 0) rfl)), (pj_FH_collapsing X).keep Kk (hd _ (List.mem_of_getElem? (i := 0) rfl)), (pj_FH_lineShows X).keep Kk (hd _ (List.mem_of_getElem? (i := 0) rfl)), (pj_FH_inRow X).keep Kk (hd _ (List.mem_of_getElem? (i := 0) rfl)), (pj_FH_rowShows X).keep Kk (hd _ (List.mem_of_getElem? (i := 0) rfl)), (pj_EsT_ X).keep Kk, (pj_FvT_ X).keep Kk (hd _ (List.mem_of_getElem? (i := 1) rfl)), (pj_FcT_ X).keep Kk (hd _ (List.mem_of_getElem? (i := 1) rfl)), (pj_FnT_ X).keep Kk (hd _ (List.mem_of_getElem? (i := 1) rfl)), (pj_FmT_ X).keep Kk (hd _ (List.mem_of_getElem? (i := 1) rfl)), (pj_VaT_ X).keep Kk (hd _ (List.mem_of_getElem? (i := 2) rfl)), (pj_EsP_ X).keep Kk, (pj_FvP_ X).keep Kk (hd _ (List.mem_of_getElem? (i := 3) rfl)), (pj_FcP_ X).keep Kk (hd _ (List.mem_of_getElem? (i := 3) rfl)), (pj_FnP_ X).keep Kk (hd _ (List.mem_of_getElem? (i := 3) rfl)), (pj_FmP_ X).keep Kk (hd _ (List.mem_of_getElem? (i := 3) rfl)), (pj_VaP_ X).keep Kk (hd _ (List.mem_of_getElem? (i := 4) rfl)), (pj_VQ_ X).keep Kk (hd _ (List.mem_of_getElem? (i := 5) rfl)), (pj_VK_ X).keep Kk (hd _ (List.mem_of_getElem? (i := 6) rfl)), (pj_EO X).keep Kk, (pj_FO1 X).keep Kk (hd _ (List.mem_of_getElem? (i := 7) rfl)), (pj_FO2 X).keep Kk (hd _ (List.mem_of_getElem? (i := 7) rfl)), (pj_FO3 X).keep Kk (hd _ (List.mem_of_getElem? (i := 7) rfl)), (pj_FO4 X).keep Kk (hd _ (List.mem_of_getElem? (i := 7) rfl)), (pj_FOr X).keep Kk (hd _ (List.mem_of_getElem? (i := 7) rfl)), (pj_FOl X).keep Kk (hd _ (List.mem_of_getElem? (i := 7) rfl)), (pj_AN1 X).keep Kk (hd _ (List.mem_of_getElem? (i := 8) rfl)), (pj_AN2 X).keep Kk (hd _ (List.mem_of_getElem? (i := 9) rfl)), (pj_AN3 X).keep Kk (hd _ (List.mem_of_getElem? (i := 10) rfl)), (pj_AN4 X).keep Kk (hd _ (List.mem_of_getElem? (i := 11) rfl))⟩
theorem hx_wr (X : own_HX Z h aH aT vT aP vP aQ aK ob o1 o2 o3 o4 kT kP kQ kK nT mT mP rr ll tx px cP po pk K brk tabs cells par col ls inr rs) {b : Addr} {sl : Nat} {v : Value} (W : Wr h h' b sl v) (hd : ∀ y ∈ [aH, aT, vT, aP, vP, aQ, aK, ob, o1, o2, o3, o4], y ≠ b) : own_HX Z h' aH aT vT aP vP aQ aK ob o1 o2 o3 o4 kT kP kQ kK nT mT mP rr ll tx px cP po pk K brk tabs cells par col ls inr rs := ⟨pj_hln X, pj_hrb X, (pj_EH X).wr W, (pj_FH_text X).other W (Or.inl (hd _ (List.mem_of_getElem? (i := 0) rfl))), (pj_FH_origins X).other W (Or.inl (hd _ (List.mem_of_getElem? (i := 0) rfl))), (pj_FH_pending X).other W (Or.inl (hd _ (List.mem_of_getElem? (i := 0) rfl))), (pj_FH_pendingOrigins X).other W (Or.inl (hd _ (List.mem_of_getElem? (i := 0) rfl))), (pj_FH_pendingKept X).other W (Or.inl (hd _ (List.mem_of_getElem? (i := 0) rfl))), (pj_FH_breaks X).other W (Or.inl (hd _ (List.mem_of_getElem? (i := 0) rfl))), (pj_FH_tabs X).other W (Or.inl (hd _ (List.mem_of_getElem? (i := 0) rfl))), (pj_FH_cells X).other W (Or.inl (hd _ (List.mem_of_getElem? (i := 0) rfl))), (pj_FH_paragraph X).other W (Or.inl (hd _ (List.mem_of_getElem? (i := 0) rfl))), (pj_FH_collapsing X).other W (Or.inl (hd _ (List.mem_of_getElem? (i := 0) rfl))), (pj_FH_lineShows X).other W (Or.inl (hd _ (List.mem_of_getElem? (i := 0) rfl))), (pj_FH_inRow X).other W (Or.inl (hd _ (List.mem_of_getElem? (i := 0) rfl))), (pj_FH_rowShows X).other W (Or.inl (hd _ (List.mem_of_getElem? (i := 0) rfl))), (pj_EsT_ X).wr W, (pj_FvT_ X).other W (Or.inl (hd _ (List.mem_of_getElem? (i := 1) rfl))), (pj_FcT_ X).other W (Or.inl (hd _ (List.mem_of_getElem? (i := 1) rfl))), (pj_FnT_ X).other W (Or.inl (hd _ (List.mem_of_getElem? (i := 1) rfl))), (pj_FmT_ X).other W (Or.inl (hd _ (List.mem_of_getElem? (i := 1) rfl))), (pj_VaT_ X).other W (hd _ (List.mem_of_getElem? (i := 2) rfl)), (pj_EsP_ X).wr W, (pj_FvP_ X).other W (Or.inl (hd _ (List.mem_of_getElem? (i := 3) rfl))), (pj_FcP_ X).other W (Or.inl (hd _ (List.mem_of_getElem? (i := 3) rfl))), (pj_FnP_ X).other W (Or.inl (hd _ (List.mem_of_getElem? (i := 3) rfl))), (pj_FmP_ X).other W (Or.inl (hd _ (List.mem_of_getElem? (i := 3) rfl))), (pj_VaP_ X).other W (hd _ (List.mem_of_getElem? (i := 4) rfl)), (pj_VQ_ X).other W (hd _ (List.mem_of_getElem? (i := 5) rfl)), (pj_VK_ X).other W (hd _ (List.mem_of_getElem? (i := 6) rfl)), (pj_EO X).wr W, (pj_FO1 X).other W (Or.inl (hd _ (List.mem_of_getElem? (i := 7) rfl))), (pj_FO2 X).other W (Or.inl (hd _ (List.mem_of_getElem? (i := 7) rfl))), (pj_FO3 X).other W (Or.inl (hd _ (List.mem_of_getElem? (i := 7) rfl))), (pj_FO4 X).other W (Or.inl (hd _ (List.mem_of_getElem? (i := 7) rfl))), (pj_FOr X).other W (Or.inl (hd _ (List.mem_of_getElem? (i := 7) rfl))), (pj_FOl X).other W (Or.inl (hd _ (List.mem_of_getElem? (i := 7) rfl))), (pj_AN1 X).other W (hd _ (List.mem_of_getElem? (i := 8) rfl)), (pj_AN2 X).other W (hd _ (List.mem_of_getElem? (i := 9) rfl)), (pj_AN3 X).other W (hd _ (List.mem_of_getElem? (i := 10) rfl)), (pj_AN4 X).other W (hd _ (List.mem_of_getElem? (i := 11) rfl))⟩
theorem hx_up (X : own_HX Z h aH aT vT aP vP aQ aK ob o1 o2 o3 o4 kT kP kQ kK nT mT mP rr ll tx px cP po pk K brk tabs cells par col ls inr rs) : own_HX Z h aH aT vT aP vP aQ aK ob o1 o2 o3 o4 kT kP kQ kK nT mT mP rr ll tx px cP po pk (K + 1) brk tabs cells par col ls inr rs := ⟨pj_hln X, (pj_hrb X).up, pj_EH X, pj_FH_text X, pj_FH_origins X, pj_FH_pending X, pj_FH_pendingOrigins X, pj_FH_pendingKept X, pj_FH_breaks X, pj_FH_tabs X, pj_FH_cells X, pj_FH_paragraph X, pj_FH_collapsing X, pj_FH_lineShows X, pj_FH_inRow X, pj_FH_rowShows X, pj_EsT_ X, pj_FvT_ X, pj_FcT_ X, pj_FnT_ X, pj_FmT_ X, pj_VaT_ X, pj_EsP_ X, pj_FvP_ X, pj_FcP_ X, pj_FnP_ X, pj_FmP_ X, pj_VaP_ X, pj_VQ_ X, pj_VK_ X, pj_EO X, pj_FO1 X, pj_FO2 X, pj_FO3 X, pj_FO4 X, pj_FOr X, pj_FOl X, pj_AN1 X, pj_AN2 X, pj_AN3 X, pj_AN4 X⟩
theorem hx_ext (X : own_HX Z h aH aT vT aP vP aQ aK ob o1 o2 o3 o4 kT kP kQ kK nT mT mP rr ll tx px cP po pk K brk tabs cells par col ls inr rs) (E : Ext h h') : own_HX Z h' aH aT vT aP vP aQ aK ob o1 o2 o3 o4 kT kP kQ kK nT mT mP rr ll tx px cP po pk K brk tabs cells par col ls inr rs := ⟨pj_hln X, pj_hrb X, (pj_EH X).ext E, (pj_FH_text X).ext E, (pj_FH_origins X).ext E, (pj_FH_pending X).ext E, (pj_FH_pendingOrigins X).ext E, (pj_FH_pendingKept X).ext E, (pj_FH_breaks X).ext E, (pj_FH_tabs X).ext E, (pj_FH_cells X).ext E, (pj_FH_paragraph X).ext E, (pj_FH_collapsing X).ext E, (pj_FH_lineShows X).ext E, (pj_FH_inRow X).ext E, (pj_FH_rowShows X).ext E, (pj_EsT_ X).ext E, (pj_FvT_ X).ext E, (pj_FcT_ X).ext E, (pj_FnT_ X).ext E, (pj_FmT_ X).ext E, (pj_VaT_ X).ext E, (pj_EsP_ X).ext E, (pj_FvP_ X).ext E, (pj_FcP_ X).ext E, (pj_FnP_ X).ext E, (pj_FmP_ X).ext E, (pj_VaP_ X).ext E, (pj_VQ_ X).ext E, (pj_VK_ X).ext E, (pj_EO X).ext E, (pj_FO1 X).ext E, (pj_FO2 X).ext E, (pj_FO3 X).ext E, (pj_FO4 X).ext E, (pj_FOr X).ext E, (pj_FOl X).ext E, (pj_AN1 X).ext E, (pj_AN2 X).ext E, (pj_AN3 X).ext E, (pj_AN4 X).ext E⟩
end HXs
theorem d10_0 : dc10 0 (.aload_n 0) 1 := by decide +kernel
theorem d10_1 : dc10 1 (.getfield 23) 3 := by decide +kernel
theorem d10_4 : dc10 4 (.iconst 0) 1 := by decide +kernel
theorem d10_5 : dc10 5 (.invokevirtual 125) 3 := by decide +kernel
theorem d10_8 : dc10 8 (.aload_n 0) 1 := by decide +kernel
theorem d10_9 : dc10 9 (.iconst 0) 1 := by decide +kernel
theorem d10_10 : dc10 10 (.putfield 92) 3 := by decide +kernel
theorem d10_13 : dc10 13 (.return_) 1 := by decide +kernel
theorem pn_7 : plainName "com/example/whereas/whereas/model/HtmlLayout" = true := by first | (simp [plainName, overriddenIn]; done) | decide +kernel
theorem ef_rmHcl (m : MethodId) (aH : Addr) : entryFrame m #[(.ref aH)] 1 = mkF m 0 #[.val (.ref aH)] [] := by first | (simp [entryFrame, mkF, argsToLocals, Value.category]; done) | rfl
def QHcl (Z : State) (aH : Addr) (aT vT aP vP aQ aK ob o1 o2 o3 o4 : Addr) (tx : List Int32) (px : List Int32) (cP : Int32) (po : List Value) (pk : List Value) (K : Nat) (brk : Int32) (tabs : Int32) (cells : Int32) (par : Int32) (col : Int32) (ls : Int32) (inr : Int32) (rs : Int32) (xs0 : List Int32) (cs : Int32) (fm : Value) (h0 : Heap) (n0 : Nat) (v : Option Value) (h : Heap) (L : List Loc) : Prop := v = none ∧ Fr n0 L ∧ Keep h0 h [aH, aT, vT, aP, vP, aQ, aK, ob, o1, o2, o3, o4] ∧ own_HB Z h aH aT vT aP vP aQ aK ob o1 o2 o3 o4 tx px (0 : Int32) po pk K brk tabs cells par (0 : Int32) ls inr rs
set_option maxRecDepth 65536 in
set_option maxHeartbeats 40000000 in
theorem rmHcl (l : Launch) (Z : State) (a0 : Array Value) (hw : ∀ d ∈ tables_1, d.before a0 Z = true) (ws : List Jvm.Cond) (aH : Addr) (aT vT aP vP aQ aK ob o1 o2 o3 o4 : Addr) (tx : List Int32) (px : List Int32) (cP : Int32) (po : List Value) (pk : List Value) (K : Nat) (brk : Int32) (tabs : Int32) (cells : Int32) (par : Int32) (col : Int32) (ls : Int32) (inr : Int32) (rs : Int32) (xs0 : List Int32) (cs : Int32) (fm : Value) (h0 : Heap) (n0 : Nat) (Z0 : n0 ≤ h0.size) (O0 : Old Z n0 h0) (S_CS : Sta Z Z.heap "java/lang/String" "COMPACT_STRINGS" "Z" (.int cs)) (hcs : ¬ cs = 0) (S_FM : Sta Z Z.heap "jdk/internal/util/Preconditions" "SIOOBE_FORMATTER" "Ljava/util/function/BiFunction;" fm) (hfm : fm.isRef = true) (HB : own_HB Z h0 aH aT vT aP vP aQ aK ob o1 o2 o3 o4 tx px cP po pk K brk tabs cells par col ls inr rs) (D : List.Nodup [aH, aT, vT, aP, vP, aQ, aK, ob, o1, o2, o3, o4]) (gN : ∀ y ∈ [aH, aT, vT, aP, vP, aQ, aK, ob, o1, o2, o3, o4], n0 ≤ y) (hB : (tx : List Int32).length < 8) (hKb : K < 10) (hcp : own_ln xs0 cP) :
    MetFree l mN_3 (head1 (Jvm.Cond.code mN_3 prog_41_method_17_code 1 none :: ws) rO_13) (fun a U => a = #[(.ref aH)] ∧ Z.Warmed39 U.vm ∧ U.heap = h0) (fun _ _ _ _ _ => True) (fun _ U o U' => ∃ v L, o = .returned v ∧ QHcl Z aH aT vT aP vP aQ aK ob o1 o2 o3 o4 tx px cP po pk K brk tabs cells par col ls inr rs xs0 cs fm h0 n0 v U'.heap L ∧ FrameEnd U o U' L rO_13.cells rO_13.slots) := by
  refine MetFree.of_bodySF (plainFor_of_name pn_7) hisR ?_
  intro p e s m args below meth c s₁ Bd hml0 hP hK
  obtain ⟨rfl, hZ, hh⟩ := hP
  have hx := Bd.exec
  have hby := Bd.bytes
  have hml : c.maxLocals = 1 := hml0
  have hown : s.vm.findClass "com/example/whereas/whereas/model/HtmlLayout" = some m.cls := findClass_of_methodNamed Bd.named
  have hnm := (name_of_methodNamed Bd.named Bd.method).1
  have X0 : Stand p l e rO_13 s m #[(.ref aH)] below meth c s₁ [] 0 0 := Stand.of_body Bd
  have e0 : s₁.heap = h0 := by rw [← hh, Bd.state]; rfl
  have N0 := Fr.nil n0
  have K0 := Keep.refl h0 [aH, aT, vT, aP, vP, aQ, aK, ob, o1, o2, o3, o4]
  have go0 : Goes p e below s₁ (entryFrame m #[(.ref aH)] 1) s₁ (mkF m 0 #[vR aH] []) := fun t k => castTop (ef_rmHcl m aH) k
  obtain ⟨kT, kP, kQ, kK, nT, mT, mP, rr, ll, HX0⟩ := HB
  obtain ⟨T1, X1, e1, st1⟩ := getF X0 hx hZ hown (host := "") (Or.inl (own_w hw 50 rfl)) Via.refl e0 (pj_FH_pending HX0) (g := (mkF m 1 #[vR aH] [(.ref aH)])) rfl rfl (hb hby d10_1)
  obtain ⟨cq2, kq2, q2a, q2b, q2c⟩ := isOf hZ e1 (pj_EsP_ HX0)
  obtain ⟨_, _, ⟨T2, L2, k2, n2⟩, -, X2, ⟨Lc2, hQ2, l2, y2, z2⟩, st2⟩ := X1.virtualBack hx (y := mN_18) (z := mN_18) hown (mvT hZ (own_w hw 82 rfl)) (mvT hZ (own_w hw 83 rfl)) (notFace_of_selects (args := #[]) (mvT hZ (own_w hw 85 rfl))) (mvT hZ (own_w hw 85 rfl)) (mvT hZ (own_w hw 84 rfl)) (by decide) (backOf (W := 0) (rmSs l Z a0 hw [] aP vP kP cP mP px xs0 h0 n0 Z0 (pj_EsP_ HX0) (pj_FvP_ HX0) (pj_FcP_ HX0) (pj_FnP_ HX0) (pj_FmP_ HX0) (pj_VaP_ HX0) (nd_3_4 D) (gN _ (List.mem_of_getElem? (i := 3) rfl)) (gN _ (List.mem_of_getElem? (i := 4) rfl)) hcp) hZ (own_w hw 86 rfl) (own_w hw 11 rfl) (by decide) (by decide)) q2a q2c (g := (mkF m 5 #[vR aH] [(.int (0 : Int32)), (.ref aP)])) rfl (by rw [hml]; rfl) (Steps.refl _) (argsL := [(.int (0 : Int32))]) (rest := []) (lenOf pd_0 rfl) rfl (by show 2 * 0 + _ ≤ _; exact Nat.le_of_eq rfl) (hb hby d10_5) (fun _ _ => ⟨rfl, e1, (by decide : 0 + 0 ≤ rO_13.cells), (by decide : 0 + 0 ≤ rO_13.slots)⟩)
  dsimp only [Pt.U, Pt.locs, Pt.cells, Pt.slots] at X2 l2 y2 z2 st2 hQ2
  subst l2 y2 z2
  obtain ⟨rfl, N2q, Kq2, Rq2⟩ := hQ2
  have N2 := Fr.app N0 N2q
  obtain ⟨mb2, E1q2, FVq2, FCq2, FNq2, FMq2, V1q2⟩ := Rq2
  have HX3 := hx_P HX0 D Kq2 E1q2 FVq2 FCq2 FNq2 FMq2 V1q2
  have O4 := O0.keep Kq2 (allS (gN _ (List.mem_of_getElem? (i := 3) rfl)) all0)
  have Z5 := Nat.le_trans Z0 Kq2.1
  have K6 := K0.trans Kq2 (allS (Or.inl (List.mem_of_getElem? (i := 3) rfl)) all0)
  obtain ⟨T7, h7, X7, e7, W7, st7⟩ := putFN X2 hx hZ hown (own_w hw 96 rfl) Via.refl rfl (pj_FH_collapsing HX3) (pj_EH HX3) (Or.inl (own_w hw 97 rfl)) (own_w hw 1 rfl) (ty := .boolean) (v' := (.int (0 : Int32))) (by decide) rfl rfl (g := (mkF m 10 #[vR aH] [(.int (0 : Int32)), (.ref aH)])) rfl rfl (hb hby d10_10)
  have f8 := (pj_FH_collapsing HX3).same W7
  have O9 := O4.wr W7 (gN _ (List.mem_of_getElem? (i := 0) rfl))
  have Z10 := Nat.le_trans Z5 (Nat.le_of_eq W7.size.symm)
  have K11 := K6.wr W7 (Or.inl (List.mem_of_getElem? (i := 0) rfl))
  have HX12 := hx_w_col hw HX3 D W7 f8
  have N13 := Fr.snoc X7 N2 (gN _ (List.mem_of_getElem? (i := 0) rfl))
  have go14 : Goes p e below s₁ (entryFrame m #[(.ref aH)] 1) T7 (mkF m 13 #[vR aH] []) := fun t k => by
    refine go0 t ?_
    refine XS.aloadN X0.here hx rfl (hb hby d10_0) rfl rfl ?_
    refine st1 t ?_
    refine XS.iconst X1.here hx rfl (hb hby d10_4) ?_
    refine st2.trans ?_
    refine XS.aloadN X2.here hx rfl (hb hby d10_8) rfl rfl ?_
    refine XS.iconst X2.here hx rfl (hb hby d10_9) ?_
    show Steps p.tables e below (T2.setTop (mkF m 10 #[vR aH] [(.int (0 : Int32)), (.ref aH)])) _
    refine st7 t ?_
    exact k
  obtain ⟨fs, hr, hrun, hended, hW, hsame⟩ := X7.leave (v := none) (fun _ => rfl)
  refine ⟨_, _, go14 _ ?_, hrun, hended, _, _, rfl, ?_, ⟨_, rfl⟩, hW, hsame.mono (by decide) (by decide)⟩
  · exact X7.returnOut hx Bd.returns (hb hby d10_13) hr
  · show QHcl Z _ _ _ _ _ _ _ _ _ _ _ _ _ _ _ _ _ _ _ _ _ _ _ _ _ _ _ _ _ _ _ _ T7.heap _
    rw [e7]
    exact ⟨rfl, N13, K11, ⟨_, _, _, _, _, _, _, _, _, HX12⟩⟩
theorem pd_14 : parseMethodDescriptor "()V" = some ⟨[], none⟩ := by decide +kernel
theorem d7_0 : dc7 0 (.aload_n 0) 1 := by decide +kernel
theorem d7_1 : dc7 1 (.getfield 10) 3 := by decide +kernel
theorem d7_4 : dc7 4 (.invokevirtual 66) 3 := by decide +kernel
theorem d7_7 : dc7 7 (.ifCond .le 13) 3 := by decide +kernel
theorem d7_10 : dc7 10 (.aload_n 0) 1 := by decide +kernel
theorem d7_11 : dc7 11 (.iconst 1) 1 := by decide +kernel
theorem d7_12 : dc7 12 (.putfield 58) 3 := by decide +kernel
theorem d7_15 : dc7 15 (.aload_n 0) 1 := by decide +kernel
theorem d7_16 : dc7 16 (.iconst 0) 1 := by decide +kernel
theorem d7_17 : dc7 17 (.putfield 62) 3 := by decide +kernel
theorem d7_20 : dc7 20 (.aload_n 0) 1 := by decide +kernel
theorem d7_21 : dc7 21 (.invokevirtual 83) 3 := by decide +kernel
theorem d7_24 : dc7 24 (.aload_n 0) 1 := by decide +kernel
theorem d7_25 : dc7 25 (.iconst 0) 1 := by decide +kernel
theorem d7_26 : dc7 26 (.putfield 73) 3 := by decide +kernel
theorem d7_29 : dc7 29 (.aload_n 0) 1 := by decide +kernel
theorem d7_30 : dc7 30 (.iconst 0) 1 := by decide +kernel
theorem d7_31 : dc7 31 (.putfield 89) 3 := by decide +kernel
theorem d7_34 : dc7 34 (.aload_n 0) 1 := by decide +kernel
theorem d7_35 : dc7 35 (.iconst 0) 1 := by decide +kernel
theorem d7_36 : dc7 36 (.putfield 70) 3 := by decide +kernel
theorem d7_39 : dc7 39 (.return_) 1 := by decide +kernel
theorem ef_rmHpb0 (m : MethodId) (aH : Addr) : entryFrame m #[(.ref aH)] 1 = mkF m 0 #[.val (.ref aH)] [] := by first | (simp [entryFrame, mkF, argsToLocals, Value.category]; done) | rfl
def QHpb0 (Z : State) (aH : Addr) (aT vT aP vP aQ aK ob o1 o2 o3 o4 : Addr) (px : List Int32) (cP : Int32) (po : List Value) (pk : List Value) (K : Nat) (brk : Int32) (tabs : Int32) (cells : Int32) (par : Int32) (col : Int32) (ls : Int32) (inr : Int32) (rs : Int32) (xs0 : List Int32) (cs : Int32) (fm : Value) (h0 : Heap) (n0 : Nat) (v : Option Value) (h : Heap) (L : List Loc) : Prop := v = none ∧ Fr n0 L ∧ Keep h0 h [aH, aT, vT, aP, vP, aQ, aK, ob, o1, o2, o3, o4] ∧ own_HB Z h aH aT vT aP vP aQ aK ob o1 o2 o3 o4 [] px (0 : Int32) po pk K brk (0 : Int32) cells par (0 : Int32) (0 : Int32) (0 : Int32) rs
set_option maxRecDepth 65536 in
set_option maxHeartbeats 40000000 in
theorem rmHpb0 (l : Launch) (Z : State) (a0 : Array Value) (hw : ∀ d ∈ tables_1, d.before a0 Z = true) (ws : List Jvm.Cond) (aH : Addr) (aT vT aP vP aQ aK ob o1 o2 o3 o4 : Addr) (px : List Int32) (cP : Int32) (po : List Value) (pk : List Value) (K : Nat) (brk : Int32) (tabs : Int32) (cells : Int32) (par : Int32) (col : Int32) (ls : Int32) (inr : Int32) (rs : Int32) (xs0 : List Int32) (cs : Int32) (fm : Value) (h0 : Heap) (n0 : Nat) (Z0 : n0 ≤ h0.size) (O0 : Old Z n0 h0) (S_CS : Sta Z Z.heap "java/lang/String" "COMPACT_STRINGS" "Z" (.int cs)) (hcs : ¬ cs = 0) (S_FM : Sta Z Z.heap "jdk/internal/util/Preconditions" "SIOOBE_FORMATTER" "Ljava/util/function/BiFunction;" fm) (hfm : fm.isRef = true) (HB : own_HB Z h0 aH aT vT aP vP aQ aK ob o1 o2 o3 o4 [] px cP po pk K brk tabs cells par col ls inr rs) (D : List.Nodup [aH, aT, vT, aP, vP, aQ, aK, ob, o1, o2, o3, o4]) (gN : ∀ y ∈ [aH, aT, vT, aP, vP, aQ, aK, ob, o1, o2, o3, o4], n0 ≤ y) (hB : ([] : List Int32).length < 8) (hKb : K < 10) (hcp : own_ln xs0 cP) :
    MetFree l mN_4 (head1 (Jvm.Cond.code mN_4 prog_41_method_9_code 1 none :: ws) rO_19) (fun a U => a = #[(.ref aH)] ∧ Z.Warmed39 U.vm ∧ U.heap = h0) (fun _ _ _ _ _ => True) (fun _ U o U' => ∃ v L, o = .returned v ∧ QHpb0 Z aH aT vT aP vP aQ aK ob o1 o2 o3 o4 px cP po pk K brk tabs cells par col ls inr rs xs0 cs fm h0 n0 v U'.heap L ∧ FrameEnd U o U' L rO_19.cells rO_19.slots) := by
  refine MetFree.of_bodySF (plainFor_of_name pn_7) hisR ?_
  intro p e s m args below meth c s₁ Bd hml0 hP hK
  obtain ⟨rfl, hZ, hh⟩ := hP
  have hx := Bd.exec
  have hby := Bd.bytes
  have hml : c.maxLocals = 1 := hml0
  have hown : s.vm.findClass "com/example/whereas/whereas/model/HtmlLayout" = some m.cls := findClass_of_methodNamed Bd.named
  have hnm := (name_of_methodNamed Bd.named Bd.method).1
  have X0 : Stand p l e rO_19 s m #[(.ref aH)] below meth c s₁ [] 0 0 := Stand.of_body Bd
  have e0 : s₁.heap = h0 := by rw [← hh, Bd.state]; rfl
  have N0 := Fr.nil n0
  have K0 := Keep.refl h0 [aH, aT, vT, aP, vP, aQ, aK, ob, o1, o2, o3, o4]
  have go0 : Goes p e below s₁ (entryFrame m #[(.ref aH)] 1) s₁ (mkF m 0 #[vR aH] []) := fun t k => castTop (ef_rmHpb0 m aH) k
  obtain ⟨kT, kP, kQ, kK, nT, mT, mP, rr, ll, HX0⟩ := HB
  obtain ⟨T1, X1, e1, st1⟩ := getF X0 hx hZ hown (host := "") (Or.inl (own_w hw 29 rfl)) Via.refl e0 (pj_FH_text HX0) (g := (mkF m 1 #[vR aH] [(.ref aH)])) rfl rfl (hb hby d7_1)
  obtain ⟨cq2, kq2, q2a, q2b, q2c⟩ := isOf hZ e1 (pj_EsT_ HX0)
  obtain ⟨_, _, ⟨T2, L2, k2, n2⟩, -, X2, ⟨Lc2, hQ2, l2, y2, z2⟩, st2⟩ := X1.virtualBack hx (y := mN_0) (z := mN_0) hown (mvT hZ (own_w hw 66 rfl)) (mvT hZ (own_w hw 67 rfl)) (notFace_of_selects (args := #[]) (mvT hZ (own_w hw 69 rfl))) (mvT hZ (own_w hw 69 rfl)) (mvT hZ (own_w hw 68 rfl)) (by decide) (backOf (W := 0) (rmSl l Z a0 hw [] aT nT h0 n0 Z0 (pj_EsT_ HX0) (pj_FnT_ HX0)) hZ (own_w hw 70 rfl) (own_w hw 11 rfl) (by decide) (by decide)) q2a q2c (g := (mkF m 4 #[vR aH] [(.ref aT)])) rfl (by rw [hml]; rfl) (Steps.refl _) (argsL := []) (rest := []) (lenOf pd_4 rfl) rfl (by show 2 * 0 + _ ≤ _; exact Nat.le_of_eq rfl) (hb hby d7_4) (fun _ _ => ⟨rfl, e1, (by decide : 0 + 0 ≤ rO_19.cells), (by decide : 0 + 0 ≤ rO_19.slots)⟩)
  dsimp only [Pt.U, Pt.locs, Pt.cells, Pt.slots] at X2 l2 y2 z2 st2 hQ2
  subst l2 y2 z2
  obtain ⟨rfl, N2q, e2⟩ := hQ2
  have N2 := Fr.app N0 N2q
  have go3 : Goes p e below s₁ (entryFrame m #[(.ref aH)] 1) T2 (mkF m 7 #[vR aH] [(.int nT)]) := fun t k => by
    refine go0 t ?_
    refine XS.aloadN X0.here hx rfl (hb hby d7_0) rfl rfl ?_
    refine st1 t ?_
    refine st2.trans ?_
    exact k
  have go4 : Goes p e below s₁ (entryFrame m #[(.ref aH)] 1) T2 (mkF m 7 #[vR aH] [(.int (0 : Int32))]) := Eq.mp (congrArg (fun zz => Goes p e below s₁ (entryFrame m #[(.ref aH)] 1) T2 (mkF m 7 #[vR aH] [(.int zz)])) (own_ln_nil (pj_hln HX0))) go3
  obtain ⟨cq5, q5a, q5b⟩ := (pj_EH HX0).cell
  obtain ⟨_, _, ⟨T5, L5, k5, n5⟩, -, X5, ⟨Lc5, hQ5, l5, y5, z5⟩, st5⟩ := X2.privateBack hx (y := mN_3) hown (mvT hZ (own_w hw 78 rfl)) (mvT hZ (own_w hw 79 rfl)) (own_selp (y := mN_3) (by decide) (mvT hZ (own_w hw 1 rfl)) (mvP hZ (own_w hw 80 rfl)) (mvT hZ (own_w hw 79 rfl))) (Cond.privateMethod_at (mvP hZ (own_w hw 80 rfl) (args := #[]))) (mvT hZ (own_w hw 81 rfl)) (by decide) (backOf (W := 0) (rmHcl l Z a0 hw [] aH  aT vT aP vP aQ aK ob o1 o2 o3 o4 [] px cP po pk K brk tabs cells par col ls inr rs xs0 cs fm h0 n0 Z0 O0 S_CS hcs S_FM hfm (show own_HB Z h0 aH aT vT aP vP aQ aK ob o1 o2 o3 o4 [] px cP po pk K brk tabs cells par col ls inr rs from ⟨_, _, _, _, _, _, _, _, _, HX0⟩) D gN hB hKb hcp) hZ (own_w hw 81 rfl) (own_w hw 2 rfl) (by decide) (by decide)) (g := (mkF m 21 #[vR aH] [(.ref aH)])) rfl (by rw [hml]; rfl) (Steps.refl _) (a := aH) (by rw [e2]; exact q5a) q5b (argsL := []) (rest := []) (lenOf pd_14 rfl) rfl (by show 2 * 0 + _ ≤ _; exact Nat.le_of_eq rfl) (hb hby d7_21) (fun _ _ => ⟨rfl, e2, (by decide : 0 + 0 ≤ rO_19.cells), (by decide : 0 + 0 ≤ rO_19.slots)⟩)
  dsimp only [Pt.U, Pt.locs, Pt.cells, Pt.slots] at X5 l5 y5 z5 st5 hQ5
  subst l5 y5 z5
  obtain ⟨rfl, N5q, Kq5, Hq5⟩ := hQ5
  have N5 := Fr.app N2 N5q
  have O6 := O0.keep Kq5 gN
  have Z7 := Nat.le_trans Z0 Kq5.1
  have K8 := K0.trans Kq5 (fun _ q => Or.inl q)
  obtain ⟨kTq5, kPq5, kQq5, kKq5, nTq5, mTq5, mPq5, rrq5, llq5, HXq5⟩ := Hq5
  obtain ⟨T9, h9, X9, e9, W9, st9⟩ := putFN X5 hx hZ hown (own_w hw 98 rfl) Via.refl rfl (pj_FH_lineShows HXq5) (pj_EH HXq5) (Or.inl (own_w hw 99 rfl)) (own_w hw 1 rfl) (ty := .boolean) (v' := (.int (0 : Int32))) (by decide) rfl rfl (g := (mkF m 26 #[vR aH] [(.int (0 : Int32)), (.ref aH)])) rfl rfl (hb hby d7_26)
  have f10 := (pj_FH_lineShows HXq5).same W9
  have O11 := O6.wr W9 (gN _ (List.mem_of_getElem? (i := 0) rfl))
  have Z12 := Nat.le_trans Z7 (Nat.le_of_eq W9.size.symm)
  have K13 := K8.wr W9 (Or.inl (List.mem_of_getElem? (i := 0) rfl))
  have HX14 := hx_w_ls hw HXq5 D W9 f10
  have N15 := Fr.snoc X9 N5 (gN _ (List.mem_of_getElem? (i := 0) rfl))
  obtain ⟨T16, h16, X16, e16, W16, st16⟩ := putFN X9 hx hZ hown (own_w hw 100 rfl) Via.refl e9 (pj_FH_inRow HX14) (pj_EH HX14) (Or.inl (own_w hw 101 rfl)) (own_w hw 1 rfl) (ty := .boolean) (v' := (.int (0 : Int32))) (by decide) rfl rfl (g := (mkF m 31 #[vR aH] [(.int (0 : Int32)), (.ref aH)])) rfl rfl (hb hby d7_31)
  have f17 := (pj_FH_inRow HX14).same W16
  have O18 := O11.wr W16 (gN _ (List.mem_of_getElem? (i := 0) rfl))
  have Z19 := Nat.le_trans Z12 (Nat.le_of_eq W16.size.symm)
  have K20 := K13.wr W16 (Or.inl (List.mem_of_getElem? (i := 0) rfl))
  have HX21 := hx_w_inr hw HX14 D W16 f17
  have N22 := Fr.snoc X16 N15 (gN _ (List.mem_of_getElem? (i := 0) rfl))
  obtain ⟨T23, h23, X23, e23, W23, st23⟩ := putF X16 hx hZ hown (host := "") (Or.inl (own_w hw 102 rfl)) Via.refl e16 (pj_FH_tabs HX21) (pj_EH HX21) (Or.inl (own_w hw 103 rfl)) (own_w hw 1 rfl) (ty := .int) (by decide) rfl rfl (g := (mkF m 36 #[vR aH] [(.int (0 : Int32)), (.ref aH)])) rfl rfl (hb hby d7_36)
  have f24 := (pj_FH_tabs HX21).same W23
  have O25 := O18.wr W23 (gN _ (List.mem_of_getElem? (i := 0) rfl))
  have Z26 := Nat.le_trans Z19 (Nat.le_of_eq W23.size.symm)
  have K27 := K20.wr W23 (Or.inl (List.mem_of_getElem? (i := 0) rfl))
  have HX28 := hx_w_tabs hw HX21 D W23 f24
  have N29 := Fr.snoc X23 N22 (gN _ (List.mem_of_getElem? (i := 0) rfl))
  have go30 : Goes p e below s₁ (entryFrame m #[(.ref aH)] 1) T23 (mkF m 39 #[vR aH] []) := fun t k => by
    refine go4 t ?_
    refine XS.ifYes X2.here hx rfl (pc0 := 7) (pc' := 20) rfl (hb hby d7_7) rfl (Jvm.Free.XT.i0_le_t (by decide)) (by decide) (by decide) ?_
    refine XS.aloadN X2.here hx rfl (hb hby d7_20) rfl rfl ?_
    refine st5.trans ?_
    refine XS.aloadN X5.here hx rfl (hb hby d7_24) rfl rfl ?_
    refine XS.iconst X5.here hx rfl (hb hby d7_25) ?_
    refine st9 t ?_
    show Steps p.tables e below (T9.setTop (mkF m 29 #[vR aH] [])) _
    refine XS.aloadN X9.here hx rfl (hb hby d7_29) rfl rfl ?_
    refine XS.iconst X9.here hx rfl (hb hby d7_30) ?_
    refine st16 t ?_
    refine XS.aloadN X16.here hx rfl (hb hby d7_34) rfl rfl ?_
    refine XS.iconst X16.here hx rfl (hb hby d7_35) ?_
    refine st23 t ?_
    exact k
  obtain ⟨fs, hr, hrun, hended, hW, hsame⟩ := X23.leave (v := none) (fun _ => rfl)
  refine ⟨_, _, go30 _ ?_, hrun, hended, _, _, rfl, ?_, ⟨_, rfl⟩, hW, hsame.mono (by decide) (by decide)⟩
  · exact X23.returnOut hx Bd.returns (hb hby d7_39) hr
  · show QHpb0 Z _ _ _ _ _ _ _ _ _ _ _ _ _ _ _ _ _ _ _ _ _ _ _ _ _ _ _ _ _ _ _ T23.heap _
    rw [e23]
    exact ⟨rfl, N29, K27, ⟨_, _, _, _, _, _, _, _, _, HX28⟩⟩
theorem ef_rmHpb1 (m : MethodId) (aH : Addr) : entryFrame m #[(.ref aH)] 1 = mkF m 0 #[.val (.ref aH)] [] := by first | (simp [entryFrame, mkF, argsToLocals, Value.category]; done) | rfl
def QHpb1 (Z : State) (aH : Addr) (aT vT aP vP aQ aK ob o1 o2 o3 o4 : Addr) (tx : List Int32) (px : List Int32) (cP : Int32) (po : List Value) (pk : List Value) (K : Nat) (brk : Int32) (tabs : Int32) (cells : Int32) (par : Int32) (col : Int32) (ls : Int32) (inr : Int32) (rs : Int32) (xs0 : List Int32) (cs : Int32) (fm : Value) (h0 : Heap) (n0 : Nat) (v : Option Value) (h : Heap) (L : List Loc) : Prop := v = none ∧ Fr n0 L ∧ Keep h0 h [aH, aT, vT, aP, vP, aQ, aK, ob, o1, o2, o3, o4] ∧ ∃ (par' brk' : Int32), own_HB Z h aH aT vT aP vP aQ aK ob o1 o2 o3 o4 tx px (0 : Int32) po pk K brk' (0 : Int32) cells par' (0 : Int32) (0 : Int32) (0 : Int32) rs
set_option maxRecDepth 65536 in
set_option maxHeartbeats 40000000 in
theorem rmHpb1 (l : Launch) (Z : State) (a0 : Array Value) (hw : ∀ d ∈ tables_1, d.before a0 Z = true) (ws : List Jvm.Cond) (aH : Addr) (aT vT aP vP aQ aK ob o1 o2 o3 o4 : Addr) (tx : List Int32) (px : List Int32) (cP : Int32) (po : List Value) (pk : List Value) (K : Nat) (brk : Int32) (tabs : Int32) (cells : Int32) (par : Int32) (col : Int32) (ls : Int32) (inr : Int32) (rs : Int32) (xs0 : List Int32) (cs : Int32) (fm : Value) (h0 : Heap) (n0 : Nat) (Z0 : n0 ≤ h0.size) (O0 : Old Z n0 h0) (S_CS : Sta Z Z.heap "java/lang/String" "COMPACT_STRINGS" "Z" (.int cs)) (hcs : ¬ cs = 0) (S_FM : Sta Z Z.heap "jdk/internal/util/Preconditions" "SIOOBE_FORMATTER" "Ljava/util/function/BiFunction;" fm) (hfm : fm.isRef = true) (HB : own_HB Z h0 aH aT vT aP vP aQ aK ob o1 o2 o3 o4 tx px cP po pk K brk tabs cells par col ls inr rs) (D : List.Nodup [aH, aT, vT, aP, vP, aQ, aK, ob, o1, o2, o3, o4]) (gN : ∀ y ∈ [aH, aT, vT, aP, vP, aQ, aK, ob, o1, o2, o3, o4], n0 ≤ y) (hB : (tx : List Int32).length < 8) (hKb : K < 10) (hcp : own_ln xs0 cP) :
    MetFree l mN_4 (head1 (Jvm.Cond.code mN_4 prog_41_method_9_code 1 none :: ws) rO_19) (fun a U => a = #[(.ref aH)] ∧ Z.Warmed39 U.vm ∧ U.heap = h0) (fun _ _ _ _ _ => True) (fun _ U o U' => ∃ v L, o = .returned v ∧ QHpb1 Z aH aT vT aP vP aQ aK ob o1 o2 o3 o4 tx px cP po pk K brk tabs cells par col ls inr rs xs0 cs fm h0 n0 v U'.heap L ∧ FrameEnd U o U' L rO_19.cells rO_19.slots) := by
  refine MetFree.of_bodySF (plainFor_of_name pn_7) hisR ?_
  intro p e s m args below meth c s₁ Bd hml0 hP hK
  obtain ⟨rfl, hZ, hh⟩ := hP
  have hx := Bd.exec
  have hby := Bd.bytes
  have hml : c.maxLocals = 1 := hml0
  have hown : s.vm.findClass "com/example/whereas/whereas/model/HtmlLayout" = some m.cls := findClass_of_methodNamed Bd.named
  have hnm := (name_of_methodNamed Bd.named Bd.method).1
  have X0 : Stand p l e rO_19 s m #[(.ref aH)] below meth c s₁ [] 0 0 := Stand.of_body Bd
  have e0 : s₁.heap = h0 := by rw [← hh, Bd.state]; rfl
  have N0 := Fr.nil n0
  have K0 := Keep.refl h0 [aH, aT, vT, aP, vP, aQ, aK, ob, o1, o2, o3, o4]
  have go0 : Goes p e below s₁ (entryFrame m #[(.ref aH)] 1) s₁ (mkF m 0 #[vR aH] []) := fun t k => castTop (ef_rmHpb1 m aH) k
  obtain ⟨kT, kP, kQ, kK, nT, mT, mP, rr, ll, HX0⟩ := HB
  obtain ⟨T1, X1, e1, st1⟩ := getF X0 hx hZ hown (host := "") (Or.inl (own_w hw 29 rfl)) Via.refl e0 (pj_FH_text HX0) (g := (mkF m 1 #[vR aH] [(.ref aH)])) rfl rfl (hb hby d7_1)
  obtain ⟨cq2, kq2, q2a, q2b, q2c⟩ := isOf hZ e1 (pj_EsT_ HX0)
  obtain ⟨_, _, ⟨T2, L2, k2, n2⟩, -, X2, ⟨Lc2, hQ2, l2, y2, z2⟩, st2⟩ := X1.virtualBack hx (y := mN_0) (z := mN_0) hown (mvT hZ (own_w hw 66 rfl)) (mvT hZ (own_w hw 67 rfl)) (notFace_of_selects (args := #[]) (mvT hZ (own_w hw 69 rfl))) (mvT hZ (own_w hw 69 rfl)) (mvT hZ (own_w hw 68 rfl)) (by decide) (backOf (W := 0) (rmSl l Z a0 hw [] aT nT h0 n0 Z0 (pj_EsT_ HX0) (pj_FnT_ HX0)) hZ (own_w hw 70 rfl) (own_w hw 11 rfl) (by decide) (by decide)) q2a q2c (g := (mkF m 4 #[vR aH] [(.ref aT)])) rfl (by rw [hml]; rfl) (Steps.refl _) (argsL := []) (rest := []) (lenOf pd_4 rfl) rfl (by show 2 * 0 + _ ≤ _; exact Nat.le_of_eq rfl) (hb hby d7_4) (fun _ _ => ⟨rfl, e1, (by decide : 0 + 0 ≤ rO_19.cells), (by decide : 0 + 0 ≤ rO_19.slots)⟩)
  dsimp only [Pt.U, Pt.locs, Pt.cells, Pt.slots] at X2 l2 y2 z2 st2 hQ2
  subst l2 y2 z2
  obtain ⟨rfl, N2q, e2⟩ := hQ2
  have N2 := Fr.app N0 N2q
  have go3 : Goes p e below s₁ (entryFrame m #[(.ref aH)] 1) T2 (mkF m 7 #[vR aH] [(.int nT)]) := fun t k => by
    refine go0 t ?_
    refine XS.aloadN X0.here hx rfl (hb hby d7_0) rfl rfl ?_
    refine st1 t ?_
    refine st2.trans ?_
    exact k
  by_cases hc4 : (0 : Int32) < nT
  · obtain ⟨T5, h5, X5, e5, W5, st5⟩ := putFN X2 hx hZ hown (own_w hw 197 rfl) Via.refl e2 (pj_FH_paragraph HX0) (pj_EH HX0) (Or.inl (own_w hw 198 rfl)) (own_w hw 1 rfl) (ty := .boolean) (v' := (.int (1 : Int32))) (by decide) rfl rfl (g := (mkF m 12 #[vR aH] [(.int (1 : Int32)), (.ref aH)])) rfl rfl (hb hby d7_12)
    have f6 := (pj_FH_paragraph HX0).same W5
    have O7 := O0.wr W5 (gN _ (List.mem_of_getElem? (i := 0) rfl))
    have Z8 := Nat.le_trans Z0 (Nat.le_of_eq W5.size.symm)
    have K9 := K0.wr W5 (Or.inl (List.mem_of_getElem? (i := 0) rfl))
    have HX10 := hx_w_par hw HX0 D W5 f6
    have N11 := Fr.snoc X5 N2 (gN _ (List.mem_of_getElem? (i := 0) rfl))
    obtain ⟨T12, h12, X12, e12, W12, st12⟩ := putF X5 hx hZ hown (host := "") (Or.inl (own_w hw 199 rfl)) Via.refl e5 (pj_FH_breaks HX10) (pj_EH HX10) (Or.inl (own_w hw 200 rfl)) (own_w hw 1 rfl) (ty := .int) (by decide) rfl rfl (g := (mkF m 17 #[vR aH] [(.int (0 : Int32)), (.ref aH)])) rfl rfl (hb hby d7_17)
    have f13 := (pj_FH_breaks HX10).same W12
    have O14 := O7.wr W12 (gN _ (List.mem_of_getElem? (i := 0) rfl))
    have Z15 := Nat.le_trans Z8 (Nat.le_of_eq W12.size.symm)
    have K16 := K9.wr W12 (Or.inl (List.mem_of_getElem? (i := 0) rfl))
    have HX17 := hx_w_brk hw HX10 D W12 f13
    have N18 := Fr.snoc X12 N11 (gN _ (List.mem_of_getElem? (i := 0) rfl))
    obtain ⟨cq19, q19a, q19b⟩ := (pj_EH HX17).cell
    obtain ⟨_, _, ⟨T19, L19, k19, n19⟩, -, X19, ⟨Lc19, hQ19, l19, y19, z19⟩, st19⟩ := X12.privateBack hx (y := mN_3) hown (mvT hZ (own_w hw 78 rfl)) (mvT hZ (own_w hw 79 rfl)) (own_selp (y := mN_3) (by decide) (mvT hZ (own_w hw 1 rfl)) (mvP hZ (own_w hw 80 rfl)) (mvT hZ (own_w hw 79 rfl))) (Cond.privateMethod_at (mvP hZ (own_w hw 80 rfl) (args := #[]))) (mvT hZ (own_w hw 81 rfl)) (by decide) (backOf (W := 0) (rmHcl l Z a0 hw [] aH  aT vT aP vP aQ aK ob o1 o2 o3 o4 tx px cP po pk K (0 : Int32) tabs cells (1 : Int32) col ls inr rs xs0 cs fm h12 n0 Z15 O14 S_CS hcs S_FM hfm (show own_HB Z h12 aH aT vT aP vP aQ aK ob o1 o2 o3 o4 tx px cP po pk K (0 : Int32) tabs cells (1 : Int32) col ls inr rs from ⟨_, _, _, _, _, _, _, _, _, HX17⟩) D gN hB hKb hcp) hZ (own_w hw 81 rfl) (own_w hw 2 rfl) (by decide) (by decide)) (g := (mkF m 21 #[vR aH] [(.ref aH)])) rfl (by rw [hml]; rfl) (Steps.refl _) (a := aH) (by rw [e12]; exact q19a) q19b (argsL := []) (rest := []) (lenOf pd_14 rfl) rfl (by show 2 * 0 + _ ≤ _; exact Nat.le_of_eq rfl) (hb hby d7_21) (fun _ _ => ⟨rfl, e12, (by decide : 0 + 0 ≤ rO_19.cells), (by decide : 0 + 0 ≤ rO_19.slots)⟩)
    dsimp only [Pt.U, Pt.locs, Pt.cells, Pt.slots] at X19 l19 y19 z19 st19 hQ19
    subst l19 y19 z19
    obtain ⟨rfl, N19q, Kq19, Hq19⟩ := hQ19
    have N19 := Fr.app N18 N19q
    have O20 := O14.keep Kq19 gN
    have Z21 := Nat.le_trans Z15 Kq19.1
    have K22 := K16.trans Kq19 (fun _ q => Or.inl q)
    obtain ⟨kTq19, kPq19, kQq19, kKq19, nTq19, mTq19, mPq19, rrq19, llq19, HXq19⟩ := Hq19
    obtain ⟨T23, h23, X23, e23, W23, st23⟩ := putFN X19 hx hZ hown (own_w hw 98 rfl) Via.refl rfl (pj_FH_lineShows HXq19) (pj_EH HXq19) (Or.inl (own_w hw 99 rfl)) (own_w hw 1 rfl) (ty := .boolean) (v' := (.int (0 : Int32))) (by decide) rfl rfl (g := (mkF m 26 #[vR aH] [(.int (0 : Int32)), (.ref aH)])) rfl rfl (hb hby d7_26)
    have f24 := (pj_FH_lineShows HXq19).same W23
    have O25 := O20.wr W23 (gN _ (List.mem_of_getElem? (i := 0) rfl))
    have Z26 := Nat.le_trans Z21 (Nat.le_of_eq W23.size.symm)
    have K27 := K22.wr W23 (Or.inl (List.mem_of_getElem? (i := 0) rfl))
    have HX28 := hx_w_ls hw HXq19 D W23 f24
    have N29 := Fr.snoc X23 N19 (gN _ (List.mem_of_getElem? (i := 0) rfl))
    obtain ⟨T30, h30, X30, e30, W30, st30⟩ := putFN X23 hx hZ hown (own_w hw 100 rfl) Via.refl e23 (pj_FH_inRow HX28) (pj_EH HX28) (Or.inl (own_w hw 101 rfl)) (own_w hw 1 rfl) (ty := .boolean) (v' := (.int (0 : Int32))) (by decide) rfl rfl (g := (mkF m 31 #[vR aH] [(.int (0 : Int32)), (.ref aH)])) rfl rfl (hb hby d7_31)
    have f31 := (pj_FH_inRow HX28).same W30
    have O32 := O25.wr W30 (gN _ (List.mem_of_getElem? (i := 0) rfl))
    have Z33 := Nat.le_trans Z26 (Nat.le_of_eq W30.size.symm)
    have K34 := K27.wr W30 (Or.inl (List.mem_of_getElem? (i := 0) rfl))
    have HX35 := hx_w_inr hw HX28 D W30 f31
    have N36 := Fr.snoc X30 N29 (gN _ (List.mem_of_getElem? (i := 0) rfl))
    obtain ⟨T37, h37, X37, e37, W37, st37⟩ := putF X30 hx hZ hown (host := "") (Or.inl (own_w hw 102 rfl)) Via.refl e30 (pj_FH_tabs HX35) (pj_EH HX35) (Or.inl (own_w hw 103 rfl)) (own_w hw 1 rfl) (ty := .int) (by decide) rfl rfl (g := (mkF m 36 #[vR aH] [(.int (0 : Int32)), (.ref aH)])) rfl rfl (hb hby d7_36)
    have f38 := (pj_FH_tabs HX35).same W37
    have O39 := O32.wr W37 (gN _ (List.mem_of_getElem? (i := 0) rfl))
    have Z40 := Nat.le_trans Z33 (Nat.le_of_eq W37.size.symm)
    have K41 := K34.wr W37 (Or.inl (List.mem_of_getElem? (i := 0) rfl))
    have HX42 := hx_w_tabs hw HX35 D W37 f38
    have N43 := Fr.snoc X37 N36 (gN _ (List.mem_of_getElem? (i := 0) rfl))
    have go44 : Goes p e below s₁ (entryFrame m #[(.ref aH)] 1) T37 (mkF m 39 #[vR aH] []) := fun t k => by
      refine go3 t ?_
      refine XS.ifNo X2.here hx rfl (hb hby d7_7) rfl (Jvm.Free.XT.i0_le_f hc4) ?_
      refine XS.aloadN X2.here hx rfl (hb hby d7_10) rfl rfl ?_
      refine XS.iconst X2.here hx rfl (hb hby d7_11) ?_
      refine st5 t ?_
      refine XS.aloadN X5.here hx rfl (hb hby d7_15) rfl rfl ?_
      refine XS.iconst X5.here hx rfl (hb hby d7_16) ?_
      show Steps p.tables e below (T5.setTop (mkF m 17 #[vR aH] [(.int (0 : Int32)), (.ref aH)])) _
      refine st12 t ?_
      refine XS.aloadN X12.here hx rfl (hb hby d7_20) rfl rfl ?_
      refine st19.trans ?_
      refine XS.aloadN X19.here hx rfl (hb hby d7_24) rfl rfl ?_
      refine XS.iconst X19.here hx rfl (hb hby d7_25) ?_
      refine st23 t ?_
      show Steps p.tables e below (T23.setTop (mkF m 29 #[vR aH] [])) _
      refine XS.aloadN X23.here hx rfl (hb hby d7_29) rfl rfl ?_
      refine XS.iconst X23.here hx rfl (hb hby d7_30) ?_
      refine st30 t ?_
      refine XS.aloadN X30.here hx rfl (hb hby d7_34) rfl rfl ?_
      refine XS.iconst X30.here hx rfl (hb hby d7_35) ?_
      refine st37 t ?_
      exact k
    obtain ⟨fs, hr, hrun, hended, hW, hsame⟩ := X37.leave (v := none) (fun _ => rfl)
    refine ⟨_, _, go44 _ ?_, hrun, hended, _, _, rfl, ?_, ⟨_, rfl⟩, hW, hsame.mono (by decide) (by decide)⟩
    · exact X37.returnOut hx Bd.returns (hb hby d7_39) hr
    · show QHpb1 Z _ _ _ _ _ _ _ _ _ _ _ _ _ _ _ _ _ _ _ _ _ _ _ _ _ _ _ _ _ _ _ _ T37.heap _
      rw [e37]
      exact ⟨rfl, N43, K41, _, _, ⟨_, _, _, _, _, _, _, _, _, HX42⟩⟩
  · obtain ⟨cq45, q45a, q45b⟩ := (pj_EH HX0).cell
    obtain ⟨_, _, ⟨T45, L45, k45, n45⟩, -, X45, ⟨Lc45, hQ45, l45, y45, z45⟩, st45⟩ := X2.privateBack hx (y := mN_3) hown (mvT hZ (own_w hw 78 rfl)) (mvT hZ (own_w hw 79 rfl)) (own_selp (y := mN_3) (by decide) (mvT hZ (own_w hw 1 rfl)) (mvP hZ (own_w hw 80 rfl)) (mvT hZ (own_w hw 79 rfl))) (Cond.privateMethod_at (mvP hZ (own_w hw 80 rfl) (args := #[]))) (mvT hZ (own_w hw 81 rfl)) (by decide) (backOf (W := 0) (rmHcl l Z a0 hw [] aH  aT vT aP vP aQ aK ob o1 o2 o3 o4 tx px cP po pk K brk tabs cells par col ls inr rs xs0 cs fm h0 n0 Z0 O0 S_CS hcs S_FM hfm (show own_HB Z h0 aH aT vT aP vP aQ aK ob o1 o2 o3 o4 tx px cP po pk K brk tabs cells par col ls inr rs from ⟨_, _, _, _, _, _, _, _, _, HX0⟩) D gN hB hKb hcp) hZ (own_w hw 81 rfl) (own_w hw 2 rfl) (by decide) (by decide)) (g := (mkF m 21 #[vR aH] [(.ref aH)])) rfl (by rw [hml]; rfl) (Steps.refl _) (a := aH) (by rw [e2]; exact q45a) q45b (argsL := []) (rest := []) (lenOf pd_14 rfl) rfl (by show 2 * 0 + _ ≤ _; exact Nat.le_of_eq rfl) (hb hby d7_21) (fun _ _ => ⟨rfl, e2, (by decide : 0 + 0 ≤ rO_19.cells), (by decide : 0 + 0 ≤ rO_19.slots)⟩)
    dsimp only [Pt.U, Pt.locs, Pt.cells, Pt.slots] at X45 l45 y45 z45 st45 hQ45
    subst l45 y45 z45
    obtain ⟨rfl, N45q, Kq45, Hq45⟩ := hQ45
    have N45 := Fr.app N2 N45q
    have O46 := O0.keep Kq45 gN
    have Z47 := Nat.le_trans Z0 Kq45.1
    have K48 := K0.trans Kq45 (fun _ q => Or.inl q)
    obtain ⟨kTq45, kPq45, kQq45, kKq45, nTq45, mTq45, mPq45, rrq45, llq45, HXq45⟩ := Hq45
    obtain ⟨T49, h49, X49, e49, W49, st49⟩ := putFN X45 hx hZ hown (own_w hw 98 rfl) Via.refl rfl (pj_FH_lineShows HXq45) (pj_EH HXq45) (Or.inl (own_w hw 99 rfl)) (own_w hw 1 rfl) (ty := .boolean) (v' := (.int (0 : Int32))) (by decide) rfl rfl (g := (mkF m 26 #[vR aH] [(.int (0 : Int32)), (.ref aH)])) rfl rfl (hb hby d7_26)
    have f50 := (pj_FH_lineShows HXq45).same W49
    have O51 := O46.wr W49 (gN _ (List.mem_of_getElem? (i := 0) rfl))
    have Z52 := Nat.le_trans Z47 (Nat.le_of_eq W49.size.symm)
    have K53 := K48.wr W49 (Or.inl (List.mem_of_getElem? (i := 0) rfl))
    have HX54 := hx_w_ls hw HXq45 D W49 f50
    have N55 := Fr.snoc X49 N45 (gN _ (List.mem_of_getElem? (i := 0) rfl))
    obtain ⟨T56, h56, X56, e56, W56, st56⟩ := putFN X49 hx hZ hown (own_w hw 100 rfl) Via.refl e49 (pj_FH_inRow HX54) (pj_EH HX54) (Or.inl (own_w hw 101 rfl)) (own_w hw 1 rfl) (ty := .boolean) (v' := (.int (0 : Int32))) (by decide) rfl rfl (g := (mkF m 31 #[vR aH] [(.int (0 : Int32)), (.ref aH)])) rfl rfl (hb hby d7_31)
    have f57 := (pj_FH_inRow HX54).same W56
    have O58 := O51.wr W56 (gN _ (List.mem_of_getElem? (i := 0) rfl))
    have Z59 := Nat.le_trans Z52 (Nat.le_of_eq W56.size.symm)
    have K60 := K53.wr W56 (Or.inl (List.mem_of_getElem? (i := 0) rfl))
    have HX61 := hx_w_inr hw HX54 D W56 f57
    have N62 := Fr.snoc X56 N55 (gN _ (List.mem_of_getElem? (i := 0) rfl))
    obtain ⟨T63, h63, X63, e63, W63, st63⟩ := putF X56 hx hZ hown (host := "") (Or.inl (own_w hw 102 rfl)) Via.refl e56 (pj_FH_tabs HX61) (pj_EH HX61) (Or.inl (own_w hw 103 rfl)) (own_w hw 1 rfl) (ty := .int) (by decide) rfl rfl (g := (mkF m 36 #[vR aH] [(.int (0 : Int32)), (.ref aH)])) rfl rfl (hb hby d7_36)
    have f64 := (pj_FH_tabs HX61).same W63
    have O65 := O58.wr W63 (gN _ (List.mem_of_getElem? (i := 0) rfl))
    have Z66 := Nat.le_trans Z59 (Nat.le_of_eq W63.size.symm)
    have K67 := K60.wr W63 (Or.inl (List.mem_of_getElem? (i := 0) rfl))
    have HX68 := hx_w_tabs hw HX61 D W63 f64
    have N69 := Fr.snoc X63 N62 (gN _ (List.mem_of_getElem? (i := 0) rfl))
    have go70 : Goes p e below s₁ (entryFrame m #[(.ref aH)] 1) T63 (mkF m 39 #[vR aH] []) := fun t k => by
      refine go3 t ?_
      refine XS.ifYes X2.here hx rfl (pc0 := 7) (pc' := 20) rfl (hb hby d7_7) rfl (Jvm.Free.XT.i0_le_t hc4) (by decide) (by decide) ?_
      refine XS.aloadN X2.here hx rfl (hb hby d7_20) rfl rfl ?_
      refine st45.trans ?_
      refine XS.aloadN X45.here hx rfl (hb hby d7_24) rfl rfl ?_
      refine XS.iconst X45.here hx rfl (hb hby d7_25) ?_
      refine st49 t ?_
      show Steps p.tables e below (T49.setTop (mkF m 29 #[vR aH] [])) _
      refine XS.aloadN X49.here hx rfl (hb hby d7_29) rfl rfl ?_
      refine XS.iconst X49.here hx rfl (hb hby d7_30) ?_
      refine st56 t ?_
      refine XS.aloadN X56.here hx rfl (hb hby d7_34) rfl rfl ?_
      refine XS.iconst X56.here hx rfl (hb hby d7_35) ?_
      refine st63 t ?_
      exact k
    obtain ⟨fs, hr, hrun, hended, hW, hsame⟩ := X63.leave (v := none) (fun _ => rfl)
    refine ⟨_, _, go70 _ ?_, hrun, hended, _, _, rfl, ?_, ⟨_, rfl⟩, hW, hsame.mono (by decide) (by decide)⟩
    · exact X63.returnOut hx Bd.returns (hb hby d7_39) hr
    · show QHpb1 Z _ _ _ _ _ _ _ _ _ _ _ _ _ _ _ _ _ _ _ _ _ _ _ _ _ _ _ _ _ _ _ _ T63.heap _
      rw [e63]
      exact ⟨rfl, N69, K67, _, _, ⟨_, _, _, _, _, _, _, _, _, HX68⟩⟩
theorem d6_0 : dc6 0 (.aload_n 0) 1 := by decide +kernel
theorem d6_1 : dc6 1 (.invokevirtual 104) 3 := by decide +kernel
theorem d6_4 : dc6 4 (.aload_n 0) 1 := by decide +kernel
theorem d6_5 : dc6 5 (.iconst 1) 1 := by decide +kernel
theorem d6_6 : dc6 6 (.putfield 89) 3 := by decide +kernel
theorem d6_9 : dc6 9 (.aload_n 0) 1 := by decide +kernel
theorem d6_10 : dc6 10 (.iconst 0) 1 := by decide +kernel
theorem d6_11 : dc6 11 (.putfield 86) 3 := by decide +kernel
theorem d6_14 : dc6 14 (.aload_n 0) 1 := by decide +kernel
theorem d6_15 : dc6 15 (.iconst 0) 1 := by decide +kernel
theorem d6_16 : dc6 16 (.putfield 107) 3 := by decide +kernel
theorem d6_19 : dc6 19 (.return_) 1 := by decide +kernel
theorem ef_rmHsr (m : MethodId) (aH : Addr) : entryFrame m #[(.ref aH)] 1 = mkF m 0 #[.val (.ref aH)] [] := by first | (simp [entryFrame, mkF, argsToLocals, Value.category]; done) | rfl
def QHsr (Z : State) (aH : Addr) (aT vT aP vP aQ aK ob o1 o2 o3 o4 : Addr) (px : List Int32) (po : List Value) (pk : List Value) (K : Nat) (brk : Int32) (tabs : Int32) (cells : Int32) (par : Int32) (col : Int32) (ls : Int32) (inr : Int32) (rs : Int32) (cs : Int32) (fm : Value) (h0 : Heap) (n0 : Nat) (v : Option Value) (h : Heap) (L : List Loc) : Prop := v = none ∧ Fr n0 L ∧ Keep h0 h [aH, aT, vT, aP, vP, aQ, aK, ob, o1, o2, o3, o4] ∧ own_HB Z h aH aT vT aP vP aQ aK ob o1 o2 o3 o4 [] px (0 : Int32) po pk K brk (0 : Int32) (0 : Int32) par (0 : Int32) (0 : Int32) (1 : Int32) (0 : Int32)
set_option maxRecDepth 65536 in
set_option maxHeartbeats 40000000 in
theorem rmHsr (l : Launch) (Z : State) (a0 : Array Value) (hw : ∀ d ∈ tables_1, d.before a0 Z = true) (ws : List Jvm.Cond) (aH : Addr) (aT vT aP vP aQ aK ob o1 o2 o3 o4 : Addr) (px : List Int32) (po : List Value) (pk : List Value) (K : Nat) (brk : Int32) (tabs : Int32) (cells : Int32) (par : Int32) (col : Int32) (ls : Int32) (inr : Int32) (rs : Int32) (cs : Int32) (fm : Value) (h0 : Heap) (n0 : Nat) (Z0 : n0 ≤ h0.size) (O0 : Old Z n0 h0) (S_CS : Sta Z Z.heap "java/lang/String" "COMPACT_STRINGS" "Z" (.int cs)) (hcs : ¬ cs = 0) (S_FM : Sta Z Z.heap "jdk/internal/util/Preconditions" "SIOOBE_FORMATTER" "Ljava/util/function/BiFunction;" fm) (hfm : fm.isRef = true) (HB : own_HB Z h0 aH aT vT aP vP aQ aK ob o1 o2 o3 o4 [] px (0 : Int32) po pk K brk tabs cells par col ls inr rs) (D : List.Nodup [aH, aT, vT, aP, vP, aQ, aK, ob, o1, o2, o3, o4]) (gN : ∀ y ∈ [aH, aT, vT, aP, vP, aQ, aK, ob, o1, o2, o3, o4], n0 ≤ y) (hB : ([] : List Int32).length < 8) (hKb : K < 10) :
    MetFree l mN_26 (head1 (Jvm.Cond.code mN_26 prog_41_method_10_code 1 none :: ws) rO_23) (fun a U => a = #[(.ref aH)] ∧ Z.Warmed39 U.vm ∧ U.heap = h0) (fun _ _ _ _ _ => True) (fun _ U o U' => ∃ v L, o = .returned v ∧ QHsr Z aH aT vT aP vP aQ aK ob o1 o2 o3 o4 px po pk K brk tabs cells par col ls inr rs cs fm h0 n0 v U'.heap L ∧ FrameEnd U o U' L rO_23.cells rO_23.slots) := by
  refine MetFree.of_bodySF (plainFor_of_name pn_7) hisR ?_
  intro p e s m args below meth c s₁ Bd hml0 hP hK
  obtain ⟨rfl, hZ, hh⟩ := hP
  have hx := Bd.exec
  have hby := Bd.bytes
  have hml : c.maxLocals = 1 := hml0
  have hown : s.vm.findClass "com/example/whereas/whereas/model/HtmlLayout" = some m.cls := findClass_of_methodNamed Bd.named
  have hnm := (name_of_methodNamed Bd.named Bd.method).1
  have X0 : Stand p l e rO_23 s m #[(.ref aH)] below meth c s₁ [] 0 0 := Stand.of_body Bd
  have e0 : s₁.heap = h0 := by rw [← hh, Bd.state]; rfl
  have N0 := Fr.nil n0
  have K0 := Keep.refl h0 [aH, aT, vT, aP, vP, aQ, aK, ob, o1, o2, o3, o4]
  have go0 : Goes p e below s₁ (entryFrame m #[(.ref aH)] 1) s₁ (mkF m 0 #[vR aH] []) := fun t k => castTop (ef_rmHsr m aH) k
  obtain ⟨kT, kP, kQ, kK, nT, mT, mP, rr, ll, HX0⟩ := HB
  obtain ⟨cq1, kq1, q1a, q1b, q1c⟩ := isOf hZ e0 (pj_EH HX0)
  obtain ⟨_, _, ⟨T1, L1, k1, n1⟩, -, X1, ⟨Lc1, hQ1, l1, y1, z1⟩, st1⟩ := X0.virtualBack hx (y := mN_4) (z := mN_4) hown (mvT hZ (own_w hw 61 rfl)) (mvT hZ (own_w hw 62 rfl)) (notFace_of_selects (args := #[]) (mvT hZ (own_w hw 64 rfl))) (mvT hZ (own_w hw 64 rfl)) (mvT hZ (own_w hw 63 rfl)) (by decide) (backOf (W := 0) (rmHpb0 l Z a0 hw [] aH  aT vT aP vP aQ aK ob o1 o2 o3 o4 px (0 : Int32) po pk K brk tabs cells par col ls inr rs [] cs fm h0 n0 Z0 O0 S_CS hcs S_FM hfm (show own_HB Z h0 aH aT vT aP vP aQ aK ob o1 o2 o3 o4 [] px (0 : Int32) po pk K brk tabs cells par col ls inr rs from ⟨_, _, _, _, _, _, _, _, _, HX0⟩) D gN hB hKb own_ln0) hZ (own_w hw 65 rfl) (own_w hw 2 rfl) (by decide) (by decide)) q1a q1c (g := (mkF m 1 #[vR aH] [(.ref aH)])) rfl (by rw [hml]; rfl) (Steps.refl _) (argsL := []) (rest := []) (lenOf pd_14 rfl) rfl (by show 2 * 0 + _ ≤ _; exact Nat.le_of_eq rfl) (hb hby d6_1) (fun _ _ => ⟨rfl, e0, (by decide : 0 + 0 ≤ rO_23.cells), (by decide : 0 + 0 ≤ rO_23.slots)⟩)
  dsimp only [Pt.U, Pt.locs, Pt.cells, Pt.slots] at X1 l1 y1 z1 st1 hQ1
  subst l1 y1 z1
  obtain ⟨rfl, N1q, Kq1, Hq1⟩ := hQ1
  have N1 := Fr.app N0 N1q
  have O2 := O0.keep Kq1 gN
  have Z3 := Nat.le_trans Z0 Kq1.1
  have K4 := K0.trans Kq1 (fun _ q => Or.inl q)
  obtain ⟨kTq1, kPq1, kQq1, kKq1, nTq1, mTq1, mPq1, rrq1, llq1, HXq1⟩ := Hq1
  obtain ⟨T5, h5, X5, e5, W5, st5⟩ := putFN X1 hx hZ hown (own_w hw 100 rfl) Via.refl rfl (pj_FH_inRow HXq1) (pj_EH HXq1) (Or.inl (own_w hw 101 rfl)) (own_w hw 1 rfl) (ty := .boolean) (v' := (.int (1 : Int32))) (by decide) rfl rfl (g := (mkF m 6 #[vR aH] [(.int (1 : Int32)), (.ref aH)])) rfl rfl (hb hby d6_6)
  have f6 := (pj_FH_inRow HXq1).same W5
  have O7 := O2.wr W5 (gN _ (List.mem_of_getElem? (i := 0) rfl))
  have Z8 := Nat.le_trans Z3 (Nat.le_of_eq W5.size.symm)
  have K9 := K4.wr W5 (Or.inl (List.mem_of_getElem? (i := 0) rfl))
  have HX10 := hx_w_inr hw HXq1 D W5 f6
  have N11 := Fr.snoc X5 N1 (gN _ (List.mem_of_getElem? (i := 0) rfl))
  obtain ⟨T12, h12, X12, e12, W12, st12⟩ := putFN X5 hx hZ hown (own_w hw 104 rfl) Via.refl e5 (pj_FH_rowShows HX10) (pj_EH HX10) (Or.inl (own_w hw 105 rfl)) (own_w hw 1 rfl) (ty := .boolean) (v' := (.int (0 : Int32))) (by decide) rfl rfl (g := (mkF m 11 #[vR aH] [(.int (0 : Int32)), (.ref aH)])) rfl rfl (hb hby d6_11)
  have f13 := (pj_FH_rowShows HX10).same W12
  have O14 := O7.wr W12 (gN _ (List.mem_of_getElem? (i := 0) rfl))
  have Z15 := Nat.le_trans Z8 (Nat.le_of_eq W12.size.symm)
  have K16 := K9.wr W12 (Or.inl (List.mem_of_getElem? (i := 0) rfl))
  have HX17 := hx_w_rs hw HX10 D W12 f13
  have N18 := Fr.snoc X12 N11 (gN _ (List.mem_of_getElem? (i := 0) rfl))
  obtain ⟨T19, h19, X19, e19, W19, st19⟩ := putF X12 hx hZ hown (host := "") (Or.inl (own_w hw 106 rfl)) Via.refl e12 (pj_FH_cells HX17) (pj_EH HX17) (Or.inl (own_w hw 107 rfl)) (own_w hw 1 rfl) (ty := .int) (by decide) rfl rfl (g := (mkF m 16 #[vR aH] [(.int (0 : Int32)), (.ref aH)])) rfl rfl (hb hby d6_16)
  have f20 := (pj_FH_cells HX17).same W19
  have O21 := O14.wr W19 (gN _ (List.mem_of_getElem? (i := 0) rfl))
  have Z22 := Nat.le_trans Z15 (Nat.le_of_eq W19.size.symm)
  have K23 := K16.wr W19 (Or.inl (List.mem_of_getElem? (i := 0) rfl))
  have HX24 := hx_w_cells hw HX17 D W19 f20
  have N25 := Fr.snoc X19 N18 (gN _ (List.mem_of_getElem? (i := 0) rfl))
  have go26 : Goes p e below s₁ (entryFrame m #[(.ref aH)] 1) T19 (mkF m 19 #[vR aH] []) := fun t k => by
    refine go0 t ?_
    refine XS.aloadN X0.here hx rfl (hb hby d6_0) rfl rfl ?_
    refine st1.trans ?_
    refine XS.aloadN X1.here hx rfl (hb hby d6_4) rfl rfl ?_
    refine XS.iconst X1.here hx rfl (hb hby d6_5) ?_
    refine st5 t ?_
    refine XS.aloadN X5.here hx rfl (hb hby d6_9) rfl rfl ?_
    show Steps p.tables e below (T5.setTop (mkF m 10 #[vR aH] [(.ref aH)])) _
    refine XS.iconst X5.here hx rfl (hb hby d6_10) ?_
    refine st12 t ?_
    refine XS.aloadN X12.here hx rfl (hb hby d6_14) rfl rfl ?_
    refine XS.iconst X12.here hx rfl (hb hby d6_15) ?_
    refine st19 t ?_
    exact k
  obtain ⟨fs, hr, hrun, hended, hW, hsame⟩ := X19.leave (v := none) (fun _ => rfl)
  refine ⟨_, _, go26 _ ?_, hrun, hended, _, _, rfl, ?_, ⟨_, rfl⟩, hW, hsame.mono (by decide) (by decide)⟩
  · exact X19.returnOut hx Bd.returns (hb hby d6_19) hr
  · show QHsr Z _ _ _ _ _ _ _ _ _ _ _ _ _ _ _ _ _ _ _ _ _ _ _ _ _ _ _ _ _ T19.heap _
    rw [e19]
    exact ⟨rfl, N25, K23, ⟨_, _, _, _, _, _, _, _, _, HX24⟩⟩
theorem d14_0 : dc14 0 (.aload_n 0) 1 := by decide +kernel
theorem d14_1 : dc14 1 (.getfield 107) 3 := by decide +kernel
theorem d14_4 : dc14 4 (.ifCond .le 13) 3 := by decide +kernel
theorem d14_7 : dc14 7 (.aload_n 0) 1 := by decide +kernel
theorem d14_8 : dc14 8 (.dup) 1 := by decide +kernel
theorem d14_9 : dc14 9 (.getfield 70) 3 := by decide +kernel
theorem d14_12 : dc14 12 (.iconst 1) 1 := by decide +kernel
theorem d14_13 : dc14 13 (.iadd) 1 := by decide +kernel
theorem d14_14 : dc14 14 (.putfield 70) 3 := by decide +kernel
theorem d14_17 : dc14 17 (.aload_n 0) 1 := by decide +kernel
theorem d14_18 : dc14 18 (.dup) 1 := by decide +kernel
theorem d14_19 : dc14 19 (.getfield 107) 3 := by decide +kernel
theorem d14_22 : dc14 22 (.iconst 1) 1 := by decide +kernel
theorem d14_23 : dc14 23 (.iadd) 1 := by decide +kernel
theorem d14_24 : dc14 24 (.putfield 107) 3 := by decide +kernel
theorem d14_27 : dc14 27 (.aload_n 0) 1 := by decide +kernel
theorem d14_28 : dc14 28 (.iconst 0) 1 := by decide +kernel
theorem d14_29 : dc14 29 (.putfield 73) 3 := by decide +kernel
theorem d14_32 : dc14 32 (.return_) 1 := by decide +kernel
theorem ef_rmHsc0 (m : MethodId) (aH : Addr) : entryFrame m #[(.ref aH)] 1 = mkF m 0 #[.val (.ref aH)] [] := by first | (simp [entryFrame, mkF, argsToLocals, Value.category]; done) | rfl
def QHsc0 (Z : State) (aH : Addr) (aT vT aP vP aQ aK ob o1 o2 o3 o4 : Addr) (tx : List Int32) (px : List Int32) (cP : Int32) (po : List Value) (pk : List Value) (K : Nat) (brk : Int32) (tabs : Int32) (par : Int32) (col : Int32) (ls : Int32) (inr : Int32) (rs : Int32) (cs : Int32) (fm : Value) (h0 : Heap) (n0 : Nat) (v : Option Value) (h : Heap) (L : List Loc) : Prop := v = none ∧ Fr n0 L ∧ Keep h0 h [aH, aT, vT, aP, vP, aQ, aK, ob, o1, o2, o3, o4] ∧ own_HB Z h aH aT vT aP vP aQ aK ob o1 o2 o3 o4 tx px cP po pk K brk tabs (1 : Int32) par col (0 : Int32) inr rs
set_option maxRecDepth 65536 in
set_option maxHeartbeats 40000000 in
theorem rmHsc0 (l : Launch) (Z : State) (a0 : Array Value) (hw : ∀ d ∈ tables_1, d.before a0 Z = true) (ws : List Jvm.Cond) (aH : Addr) (aT vT aP vP aQ aK ob o1 o2 o3 o4 : Addr) (tx : List Int32) (px : List Int32) (cP : Int32) (po : List Value) (pk : List Value) (K : Nat) (brk : Int32) (tabs : Int32) (par : Int32) (col : Int32) (ls : Int32) (inr : Int32) (rs : Int32) (cs : Int32) (fm : Value) (h0 : Heap) (n0 : Nat) (Z0 : n0 ≤ h0.size) (O0 : Old Z n0 h0) (S_CS : Sta Z Z.heap "java/lang/String" "COMPACT_STRINGS" "Z" (.int cs)) (hcs : ¬ cs = 0) (S_FM : Sta Z Z.heap "jdk/internal/util/Preconditions" "SIOOBE_FORMATTER" "Ljava/util/function/BiFunction;" fm) (hfm : fm.isRef = true) (HB : own_HB Z h0 aH aT vT aP vP aQ aK ob o1 o2 o3 o4 tx px cP po pk K brk tabs (0 : Int32) par col ls inr rs) (D : List.Nodup [aH, aT, vT, aP, vP, aQ, aK, ob, o1, o2, o3, o4]) (gN : ∀ y ∈ [aH, aT, vT, aP, vP, aQ, aK, ob, o1, o2, o3, o4], n0 ≤ y) (hB : (tx : List Int32).length < 8) (hKb : K < 10) :
    MetFree l mN_6 (head1 (Jvm.Cond.code mN_6 prog_41_method_11_code 1 none :: ws) rO_0) (fun a U => a = #[(.ref aH)] ∧ Z.Warmed39 U.vm ∧ U.heap = h0) (fun _ _ _ _ _ => True) (fun _ U o U' => ∃ v L, o = .returned v ∧ QHsc0 Z aH aT vT aP vP aQ aK ob o1 o2 o3 o4 tx px cP po pk K brk tabs par col ls inr rs cs fm h0 n0 v U'.heap L ∧ FrameEnd U o U' L rO_0.cells rO_0.slots) := by
  refine MetFree.of_bodySF (plainFor_of_name pn_7) hisR ?_
  intro p e s m args below meth c s₁ Bd hml0 hP hK
  obtain ⟨rfl, hZ, hh⟩ := hP
  have hx := Bd.exec
  have hby := Bd.bytes
  have hml : c.maxLocals = 1 := hml0
  have hown : s.vm.findClass "com/example/whereas/whereas/model/HtmlLayout" = some m.cls := findClass_of_methodNamed Bd.named
  have hnm := (name_of_methodNamed Bd.named Bd.method).1
  have X0 : Stand p l e rO_0 s m #[(.ref aH)] below meth c s₁ [] 0 0 := Stand.of_body Bd
  have e0 : s₁.heap = h0 := by rw [← hh, Bd.state]; rfl
  have N0 := Fr.nil n0
  have K0 := Keep.refl h0 [aH, aT, vT, aP, vP, aQ, aK, ob, o1, o2, o3, o4]
  have go0 : Goes p e below s₁ (entryFrame m #[(.ref aH)] 1) s₁ (mkF m 0 #[vR aH] []) := fun t k => castTop (ef_rmHsc0 m aH) k
  obtain ⟨kT, kP, kQ, kK, nT, mT, mP, rr, ll, HX0⟩ := HB
  obtain ⟨T1, X1, e1, st1⟩ := getF X0 hx hZ hown (host := "") (Or.inl (own_w hw 106 rfl)) Via.refl e0 (pj_FH_cells HX0) (g := (mkF m 1 #[vR aH] [(.ref aH)])) rfl rfl (hb hby d14_1)
  obtain ⟨T2, X2, e2, st2⟩ := getF X1 hx hZ hown (host := "") (Or.inl (own_w hw 106 rfl)) Via.refl e1 (pj_FH_cells HX0) (g := (mkF m 19 #[vR aH] [(.ref aH), (.ref aH)])) rfl rfl (hb hby d14_19)
  obtain ⟨T3, h3, X3, e3, W3, st3⟩ := putF X2 hx hZ hown (host := "") (Or.inl (own_w hw 106 rfl)) Via.refl e2 (pj_FH_cells HX0) (pj_EH HX0) (Or.inl (own_w hw 107 rfl)) (own_w hw 1 rfl) (ty := .int) (by decide) rfl rfl (g := (mkF m 24 #[vR aH] [(.int (1 : Int32)), (.ref aH)])) rfl rfl (hb hby d14_24)
  have f4 := (pj_FH_cells HX0).same W3
  have O5 := O0.wr W3 (gN _ (List.mem_of_getElem? (i := 0) rfl))
  have Z6 := Nat.le_trans Z0 (Nat.le_of_eq W3.size.symm)
  have K7 := K0.wr W3 (Or.inl (List.mem_of_getElem? (i := 0) rfl))
  have HX8 := hx_w_cells hw HX0 D W3 f4
  have N9 := Fr.snoc X3 N0 (gN _ (List.mem_of_getElem? (i := 0) rfl))
  obtain ⟨T10, h10, X10, e10, W10, st10⟩ := putFN X3 hx hZ hown (own_w hw 98 rfl) Via.refl e3 (pj_FH_lineShows HX8) (pj_EH HX8) (Or.inl (own_w hw 99 rfl)) (own_w hw 1 rfl) (ty := .boolean) (v' := (.int (0 : Int32))) (by decide) rfl rfl (g := (mkF m 29 #[vR aH] [(.int (0 : Int32)), (.ref aH)])) rfl rfl (hb hby d14_29)
  have f11 := (pj_FH_lineShows HX8).same W10
  have O12 := O5.wr W10 (gN _ (List.mem_of_getElem? (i := 0) rfl))
  have Z13 := Nat.le_trans Z6 (Nat.le_of_eq W10.size.symm)
  have K14 := K7.wr W10 (Or.inl (List.mem_of_getElem? (i := 0) rfl))
  have HX15 := hx_w_ls hw HX8 D W10 f11
  have N16 := Fr.snoc X10 N9 (gN _ (List.mem_of_getElem? (i := 0) rfl))
  have go17 : Goes p e below s₁ (entryFrame m #[(.ref aH)] 1) T10 (mkF m 32 #[vR aH] []) := fun t k => by
    refine go0 t ?_
    refine XS.aloadN X0.here hx rfl (hb hby d14_0) rfl rfl ?_
    refine st1 t ?_
    refine XS.ifYes X1.here hx rfl (pc0 := 4) (pc' := 17) rfl (hb hby d14_4) rfl (Jvm.Free.XT.i0_le_t (by decide)) (by decide) (by decide) ?_
    refine XS.aloadN X1.here hx rfl (hb hby d14_17) rfl rfl ?_
    refine XS.dup X1.here hx rfl (hb hby d14_18) rfl rfl ?_
    refine st2 t ?_
    show Steps p.tables e below (T2.setTop (mkF m 22 #[vR aH] [(.int (0 : Int32)), (.ref aH)])) _
    refine XS.iconst X2.here hx rfl (hb hby d14_22) ?_
    refine XS.iadd X2.here hx rfl (hb hby d14_23) rfl ?_
    refine st3 t ?_
    refine XS.aloadN X3.here hx rfl (hb hby d14_27) rfl rfl ?_
    refine XS.iconst X3.here hx rfl (hb hby d14_28) ?_
    refine st10 t ?_
    exact k
  obtain ⟨fs, hr, hrun, hended, hW, hsame⟩ := X10.leave (v := none) (fun _ => rfl)
  refine ⟨_, _, go17 _ ?_, hrun, hended, _, _, rfl, ?_, ⟨_, rfl⟩, hW, hsame.mono (by decide) (by decide)⟩
  · exact X10.returnOut hx Bd.returns (hb hby d14_32) hr
  · show QHsc0 Z _ _ _ _ _ _ _ _ _ _ _ _ _ _ _ _ _ _ _ _ _ _ _ _ _ _ _ _ _ _ T10.heap _
    rw [e10]
    exact ⟨rfl, N16, K14, ⟨_, _, _, _, _, _, _, _, _, HX15⟩⟩
theorem ef_rmHsc1 (m : MethodId) (aH : Addr) : entryFrame m #[(.ref aH)] 1 = mkF m 0 #[.val (.ref aH)] [] := by first | (simp [entryFrame, mkF, argsToLocals, Value.category]; done) | rfl
def QHsc1 (Z : State) (aH : Addr) (aT vT aP vP aQ aK ob o1 o2 o3 o4 : Addr) (tx : List Int32) (px : List Int32) (cP : Int32) (po : List Value) (pk : List Value) (K : Nat) (brk : Int32) (tabs : Int32) (par : Int32) (col : Int32) (ls : Int32) (inr : Int32) (rs : Int32) (cs : Int32) (fm : Value) (h0 : Heap) (n0 : Nat) (v : Option Value) (h : Heap) (L : List Loc) : Prop := v = none ∧ Fr n0 L ∧ Keep h0 h [aH, aT, vT, aP, vP, aQ, aK, ob, o1, o2, o3, o4] ∧ own_HB Z h aH aT vT aP vP aQ aK ob o1 o2 o3 o4 tx px cP po pk K brk (tabs + (1 : Int32)) (2 : Int32) par col (0 : Int32) inr rs
set_option maxRecDepth 65536 in
set_option maxHeartbeats 40000000 in
theorem rmHsc1 (l : Launch) (Z : State) (a0 : Array Value) (hw : ∀ d ∈ tables_1, d.before a0 Z = true) (ws : List Jvm.Cond) (aH : Addr) (aT vT aP vP aQ aK ob o1 o2 o3 o4 : Addr) (tx : List Int32) (px : List Int32) (cP : Int32) (po : List Value) (pk : List Value) (K : Nat) (brk : Int32) (tabs : Int32) (par : Int32) (col : Int32) (ls : Int32) (inr : Int32) (rs : Int32) (cs : Int32) (fm : Value) (h0 : Heap) (n0 : Nat) (Z0 : n0 ≤ h0.size) (O0 : Old Z n0 h0) (S_CS : Sta Z Z.heap "java/lang/String" "COMPACT_STRINGS" "Z" (.int cs)) (hcs : ¬ cs = 0) (S_FM : Sta Z Z.heap "jdk/internal/util/Preconditions" "SIOOBE_FORMATTER" "Ljava/util/function/BiFunction;" fm) (hfm : fm.isRef = true) (HB : own_HB Z h0 aH aT vT aP vP aQ aK ob o1 o2 o3 o4 tx px cP po pk K brk tabs (1 : Int32) par col ls inr rs) (D : List.Nodup [aH, aT, vT, aP, vP, aQ, aK, ob, o1, o2, o3, o4]) (gN : ∀ y ∈ [aH, aT, vT, aP, vP, aQ, aK, ob, o1, o2, o3, o4], n0 ≤ y) (hB : (tx : List Int32).length < 8) (hKb : K < 10) :
    MetFree l mN_6 (head1 (Jvm.Cond.code mN_6 prog_41_method_11_code 1 none :: ws) rO_0) (fun a U => a = #[(.ref aH)] ∧ Z.Warmed39 U.vm ∧ U.heap = h0) (fun _ _ _ _ _ => True) (fun _ U o U' => ∃ v L, o = .returned v ∧ QHsc1 Z aH aT vT aP vP aQ aK ob o1 o2 o3 o4 tx px cP po pk K brk tabs par col ls inr rs cs fm h0 n0 v U'.heap L ∧ FrameEnd U o U' L rO_0.cells rO_0.slots) := by
  refine MetFree.of_bodySF (plainFor_of_name pn_7) hisR ?_
  intro p e s m args below meth c s₁ Bd hml0 hP hK
  obtain ⟨rfl, hZ, hh⟩ := hP
  have hx := Bd.exec
  have hby := Bd.bytes
  have hml : c.maxLocals = 1 := hml0
  have hown : s.vm.findClass "com/example/whereas/whereas/model/HtmlLayout" = some m.cls := findClass_of_methodNamed Bd.named
  have hnm := (name_of_methodNamed Bd.named Bd.method).1
  have X0 : Stand p l e rO_0 s m #[(.ref aH)] below meth c s₁ [] 0 0 := Stand.of_body Bd
  have e0 : s₁.heap = h0 := by rw [← hh, Bd.state]; rfl
  have N0 := Fr.nil n0
  have K0 := Keep.refl h0 [aH, aT, vT, aP, vP, aQ, aK, ob, o1, o2, o3, o4]
  have go0 : Goes p e below s₁ (entryFrame m #[(.ref aH)] 1) s₁ (mkF m 0 #[vR aH] []) := fun t k => castTop (ef_rmHsc1 m aH) k
  obtain ⟨kT, kP, kQ, kK, nT, mT, mP, rr, ll, HX0⟩ := HB
  obtain ⟨T1, X1, e1, st1⟩ := getF X0 hx hZ hown (host := "") (Or.inl (own_w hw 106 rfl)) Via.refl e0 (pj_FH_cells HX0) (g := (mkF m 1 #[vR aH] [(.ref aH)])) rfl rfl (hb hby d14_1)
  obtain ⟨T2, X2, e2, st2⟩ := getF X1 hx hZ hown (host := "") (Or.inl (own_w hw 102 rfl)) Via.refl e1 (pj_FH_tabs HX0) (g := (mkF m 9 #[vR aH] [(.ref aH), (.ref aH)])) rfl rfl (hb hby d14_9)
  obtain ⟨T3, h3, X3, e3, W3, st3⟩ := putF X2 hx hZ hown (host := "") (Or.inl (own_w hw 102 rfl)) Via.refl e2 (pj_FH_tabs HX0) (pj_EH HX0) (Or.inl (own_w hw 103 rfl)) (own_w hw 1 rfl) (ty := .int) (by decide) rfl rfl (g := (mkF m 14 #[vR aH] [(.int (tabs + (1 : Int32))), (.ref aH)])) rfl rfl (hb hby d14_14)
  have f4 := (pj_FH_tabs HX0).same W3
  have O5 := O0.wr W3 (gN _ (List.mem_of_getElem? (i := 0) rfl))
  have Z6 := Nat.le_trans Z0 (Nat.le_of_eq W3.size.symm)
  have K7 := K0.wr W3 (Or.inl (List.mem_of_getElem? (i := 0) rfl))
  have HX8 := hx_w_tabs hw HX0 D W3 f4
  have N9 := Fr.snoc X3 N0 (gN _ (List.mem_of_getElem? (i := 0) rfl))
  obtain ⟨T10, X10, e10, st10⟩ := getF X3 hx hZ hown (host := "") (Or.inl (own_w hw 106 rfl)) Via.refl e3 (pj_FH_cells HX8) (g := (mkF m 19 #[vR aH] [(.ref aH), (.ref aH)])) rfl rfl (hb hby d14_19)
  obtain ⟨T11, h11, X11, e11, W11, st11⟩ := putF X10 hx hZ hown (host := "") (Or.inl (own_w hw 106 rfl)) Via.refl e10 (pj_FH_cells HX8) (pj_EH HX8) (Or.inl (own_w hw 107 rfl)) (own_w hw 1 rfl) (ty := .int) (by decide) rfl rfl (g := (mkF m 24 #[vR aH] [(.int (2 : Int32)), (.ref aH)])) rfl rfl (hb hby d14_24)
  have f12 := (pj_FH_cells HX8).same W11
  have O13 := O5.wr W11 (gN _ (List.mem_of_getElem? (i := 0) rfl))
  have Z14 := Nat.le_trans Z6 (Nat.le_of_eq W11.size.symm)
  have K15 := K7.wr W11 (Or.inl (List.mem_of_getElem? (i := 0) rfl))
  have HX16 := hx_w_cells hw HX8 D W11 f12
  have N17 := Fr.snoc X11 N9 (gN _ (List.mem_of_getElem? (i := 0) rfl))
  obtain ⟨T18, h18, X18, e18, W18, st18⟩ := putFN X11 hx hZ hown (own_w hw 98 rfl) Via.refl e11 (pj_FH_lineShows HX16) (pj_EH HX16) (Or.inl (own_w hw 99 rfl)) (own_w hw 1 rfl) (ty := .boolean) (v' := (.int (0 : Int32))) (by decide) rfl rfl (g := (mkF m 29 #[vR aH] [(.int (0 : Int32)), (.ref aH)])) rfl rfl (hb hby d14_29)
  have f19 := (pj_FH_lineShows HX16).same W18
  have O20 := O13.wr W18 (gN _ (List.mem_of_getElem? (i := 0) rfl))
  have Z21 := Nat.le_trans Z14 (Nat.le_of_eq W18.size.symm)
  have K22 := K15.wr W18 (Or.inl (List.mem_of_getElem? (i := 0) rfl))
  have HX23 := hx_w_ls hw HX16 D W18 f19
  have N24 := Fr.snoc X18 N17 (gN _ (List.mem_of_getElem? (i := 0) rfl))
  have go25 : Goes p e below s₁ (entryFrame m #[(.ref aH)] 1) T18 (mkF m 32 #[vR aH] []) := fun t k => by
    refine go0 t ?_
    refine XS.aloadN X0.here hx rfl (hb hby d14_0) rfl rfl ?_
    refine st1 t ?_
    refine XS.ifNo X1.here hx rfl (hb hby d14_4) rfl (Jvm.Free.XT.i0_le_f (by decide)) ?_
    refine XS.aloadN X1.here hx rfl (hb hby d14_7) rfl rfl ?_
    refine XS.dup X1.here hx rfl (hb hby d14_8) rfl rfl ?_
    refine st2 t ?_
    show Steps p.tables e below (T2.setTop (mkF m 12 #[vR aH] [(.int tabs), (.ref aH)])) _
    refine XS.iconst X2.here hx rfl (hb hby d14_12) ?_
    refine XS.iadd X2.here hx rfl (hb hby d14_13) rfl ?_
    refine st3 t ?_
    refine XS.aloadN X3.here hx rfl (hb hby d14_17) rfl rfl ?_
    refine XS.dup X3.here hx rfl (hb hby d14_18) rfl rfl ?_
    refine st10 t ?_
    show Steps p.tables e below (T10.setTop (mkF m 22 #[vR aH] [(.int (1 : Int32)), (.ref aH)])) _
    refine XS.iconst X10.here hx rfl (hb hby d14_22) ?_
    refine XS.iadd X10.here hx rfl (hb hby d14_23) rfl ?_
    refine st11 t ?_
    refine XS.aloadN X11.here hx rfl (hb hby d14_27) rfl rfl ?_
    refine XS.iconst X11.here hx rfl (hb hby d14_28) ?_
    refine st18 t ?_
    exact k
  obtain ⟨fs, hr, hrun, hended, hW, hsame⟩ := X18.leave (v := none) (fun _ => rfl)
  refine ⟨_, _, go25 _ ?_, hrun, hended, _, _, rfl, ?_, ⟨_, rfl⟩, hW, hsame.mono (by decide) (by decide)⟩
  · exact X18.returnOut hx Bd.returns (hb hby d14_32) hr
  · show QHsc1 Z _ _ _ _ _ _ _ _ _ _ _ _ _ _ _ _ _ _ _ _ _ _ _ _ _ _ _ _ _ _ T18.heap _
    rw [e18]
    exact ⟨rfl, N24, K22, ⟨_, _, _, _, _, _, _, _, _, HX23⟩⟩
theorem ef_rmHsc2 (m : MethodId) (aH : Addr) : entryFrame m #[(.ref aH)] 1 = mkF m 0 #[.val (.ref aH)] [] := by first | (simp [entryFrame, mkF, argsToLocals, Value.category]; done) | rfl
def QHsc2 (Z : State) (aH : Addr) (aT vT aP vP aQ aK ob o1 o2 o3 o4 : Addr) (tx : List Int32) (px : List Int32) (cP : Int32) (po : List Value) (pk : List Value) (K : Nat) (brk : Int32) (tabs : Int32) (par : Int32) (col : Int32) (ls : Int32) (inr : Int32) (rs : Int32) (cs : Int32) (fm : Value) (h0 : Heap) (n0 : Nat) (v : Option Value) (h : Heap) (L : List Loc) : Prop := v = none ∧ Fr n0 L ∧ Keep h0 h [aH, aT, vT, aP, vP, aQ, aK, ob, o1, o2, o3, o4] ∧ own_HB Z h aH aT vT aP vP aQ aK ob o1 o2 o3 o4 tx px cP po pk K brk (tabs + (1 : Int32)) (3 : Int32) par col (0 : Int32) inr rs
set_option maxRecDepth 65536 in
set_option maxHeartbeats 40000000 in
theorem rmHsc2 (l : Launch) (Z : State) (a0 : Array Value) (hw : ∀ d ∈ tables_1, d.before a0 Z = true) (ws : List Jvm.Cond) (aH : Addr) (aT vT aP vP aQ aK ob o1 o2 o3 o4 : Addr) (tx : List Int32) (px : List Int32) (cP : Int32) (po : List Value) (pk : List Value) (K : Nat) (brk : Int32) (tabs : Int32) (par : Int32) (col : Int32) (ls : Int32) (inr : Int32) (rs : Int32) (cs : Int32) (fm : Value) (h0 : Heap) (n0 : Nat) (Z0 : n0 ≤ h0.size) (O0 : Old Z n0 h0) (S_CS : Sta Z Z.heap "java/lang/String" "COMPACT_STRINGS" "Z" (.int cs)) (hcs : ¬ cs = 0) (S_FM : Sta Z Z.heap "jdk/internal/util/Preconditions" "SIOOBE_FORMATTER" "Ljava/util/function/BiFunction;" fm) (hfm : fm.isRef = true) (HB : own_HB Z h0 aH aT vT aP vP aQ aK ob o1 o2 o3 o4 tx px cP po pk K brk tabs (2 : Int32) par col ls inr rs) (D : List.Nodup [aH, aT, vT, aP, vP, aQ, aK, ob, o1, o2, o3, o4]) (gN : ∀ y ∈ [aH, aT, vT, aP, vP, aQ, aK, ob, o1, o2, o3, o4], n0 ≤ y) (hB : (tx : List Int32).length < 8) (hKb : K < 10) :
    MetFree l mN_6 (head1 (Jvm.Cond.code mN_6 prog_41_method_11_code 1 none :: ws) rO_0) (fun a U => a = #[(.ref aH)] ∧ Z.Warmed39 U.vm ∧ U.heap = h0) (fun _ _ _ _ _ => True) (fun _ U o U' => ∃ v L, o = .returned v ∧ QHsc2 Z aH aT vT aP vP aQ aK ob o1 o2 o3 o4 tx px cP po pk K brk tabs par col ls inr rs cs fm h0 n0 v U'.heap L ∧ FrameEnd U o U' L rO_0.cells rO_0.slots) := by
  refine MetFree.of_bodySF (plainFor_of_name pn_7) hisR ?_
  intro p e s m args below meth c s₁ Bd hml0 hP hK
  obtain ⟨rfl, hZ, hh⟩ := hP
  have hx := Bd.exec
  have hby := Bd.bytes
  have hml : c.maxLocals = 1 := hml0
  have hown : s.vm.findClass "com/example/whereas/whereas/model/HtmlLayout" = some m.cls := findClass_of_methodNamed Bd.named
  have hnm := (name_of_methodNamed Bd.named Bd.method).1
  have X0 : Stand p l e rO_0 s m #[(.ref aH)] below meth c s₁ [] 0 0 := Stand.of_body Bd
  have e0 : s₁.heap = h0 := by rw [← hh, Bd.state]; rfl
  have N0 := Fr.nil n0
  have K0 := Keep.refl h0 [aH, aT, vT, aP, vP, aQ, aK, ob, o1, o2, o3, o4]
  have go0 : Goes p e below s₁ (entryFrame m #[(.ref aH)] 1) s₁ (mkF m 0 #[vR aH] []) := fun t k => castTop (ef_rmHsc2 m aH) k
  obtain ⟨kT, kP, kQ, kK, nT, mT, mP, rr, ll, HX0⟩ := HB
  obtain ⟨T1, X1, e1, st1⟩ := getF X0 hx hZ hown (host := "") (Or.inl (own_w hw 106 rfl)) Via.refl e0 (pj_FH_cells HX0) (g := (mkF m 1 #[vR aH] [(.ref aH)])) rfl rfl (hb hby d14_1)
  obtain ⟨T2, X2, e2, st2⟩ := getF X1 hx hZ hown (host := "") (Or.inl (own_w hw 102 rfl)) Via.refl e1 (pj_FH_tabs HX0) (g := (mkF m 9 #[vR aH] [(.ref aH), (.ref aH)])) rfl rfl (hb hby d14_9)
  obtain ⟨T3, h3, X3, e3, W3, st3⟩ := putF X2 hx hZ hown (host := "") (Or.inl (own_w hw 102 rfl)) Via.refl e2 (pj_FH_tabs HX0) (pj_EH HX0) (Or.inl (own_w hw 103 rfl)) (own_w hw 1 rfl) (ty := .int) (by decide) rfl rfl (g := (mkF m 14 #[vR aH] [(.int (tabs + (1 : Int32))), (.ref aH)])) rfl rfl (hb hby d14_14)
  have f4 := (pj_FH_tabs HX0).same W3
  have O5 := O0.wr W3 (gN _ (List.mem_of_getElem? (i := 0) rfl))
  have Z6 := Nat.le_trans Z0 (Nat.le_of_eq W3.size.symm)
  have K7 := K0.wr W3 (Or.inl (List.mem_of_getElem? (i := 0) rfl))
  have HX8 := hx_w_tabs hw HX0 D W3 f4
  have N9 := Fr.snoc X3 N0 (gN _ (List.mem_of_getElem? (i := 0) rfl))
  obtain ⟨T10, X10, e10, st10⟩ := getF X3 hx hZ hown (host := "") (Or.inl (own_w hw 106 rfl)) Via.refl e3 (pj_FH_cells HX8) (g := (mkF m 19 #[vR aH] [(.ref aH), (.ref aH)])) rfl rfl (hb hby d14_19)
  obtain ⟨T11, h11, X11, e11, W11, st11⟩ := putF X10 hx hZ hown (host := "") (Or.inl (own_w hw 106 rfl)) Via.refl e10 (pj_FH_cells HX8) (pj_EH HX8) (Or.inl (own_w hw 107 rfl)) (own_w hw 1 rfl) (ty := .int) (by decide) rfl rfl (g := (mkF m 24 #[vR aH] [(.int (3 : Int32)), (.ref aH)])) rfl rfl (hb hby d14_24)
  have f12 := (pj_FH_cells HX8).same W11
  have O13 := O5.wr W11 (gN _ (List.mem_of_getElem? (i := 0) rfl))
  have Z14 := Nat.le_trans Z6 (Nat.le_of_eq W11.size.symm)
  have K15 := K7.wr W11 (Or.inl (List.mem_of_getElem? (i := 0) rfl))
  have HX16 := hx_w_cells hw HX8 D W11 f12
  have N17 := Fr.snoc X11 N9 (gN _ (List.mem_of_getElem? (i := 0) rfl))
  obtain ⟨T18, h18, X18, e18, W18, st18⟩ := putFN X11 hx hZ hown (own_w hw 98 rfl) Via.refl e11 (pj_FH_lineShows HX16) (pj_EH HX16) (Or.inl (own_w hw 99 rfl)) (own_w hw 1 rfl) (ty := .boolean) (v' := (.int (0 : Int32))) (by decide) rfl rfl (g := (mkF m 29 #[vR aH] [(.int (0 : Int32)), (.ref aH)])) rfl rfl (hb hby d14_29)
  have f19 := (pj_FH_lineShows HX16).same W18
  have O20 := O13.wr W18 (gN _ (List.mem_of_getElem? (i := 0) rfl))
  have Z21 := Nat.le_trans Z14 (Nat.le_of_eq W18.size.symm)
  have K22 := K15.wr W18 (Or.inl (List.mem_of_getElem? (i := 0) rfl))
  have HX23 := hx_w_ls hw HX16 D W18 f19
  have N24 := Fr.snoc X18 N17 (gN _ (List.mem_of_getElem? (i := 0) rfl))
  have go25 : Goes p e below s₁ (entryFrame m #[(.ref aH)] 1) T18 (mkF m 32 #[vR aH] []) := fun t k => by
    refine go0 t ?_
    refine XS.aloadN X0.here hx rfl (hb hby d14_0) rfl rfl ?_
    refine st1 t ?_
    refine XS.ifNo X1.here hx rfl (hb hby d14_4) rfl (Jvm.Free.XT.i0_le_f (by decide)) ?_
    refine XS.aloadN X1.here hx rfl (hb hby d14_7) rfl rfl ?_
    refine XS.dup X1.here hx rfl (hb hby d14_8) rfl rfl ?_
    refine st2 t ?_
    show Steps p.tables e below (T2.setTop (mkF m 12 #[vR aH] [(.int tabs), (.ref aH)])) _
    refine XS.iconst X2.here hx rfl (hb hby d14_12) ?_
    refine XS.iadd X2.here hx rfl (hb hby d14_13) rfl ?_
    refine st3 t ?_
    refine XS.aloadN X3.here hx rfl (hb hby d14_17) rfl rfl ?_
    refine XS.dup X3.here hx rfl (hb hby d14_18) rfl rfl ?_
    refine st10 t ?_
    show Steps p.tables e below (T10.setTop (mkF m 22 #[vR aH] [(.int (2 : Int32)), (.ref aH)])) _
    refine XS.iconst X10.here hx rfl (hb hby d14_22) ?_
    refine XS.iadd X10.here hx rfl (hb hby d14_23) rfl ?_
    refine st11 t ?_
    refine XS.aloadN X11.here hx rfl (hb hby d14_27) rfl rfl ?_
    refine XS.iconst X11.here hx rfl (hb hby d14_28) ?_
    refine st18 t ?_
    exact k
  obtain ⟨fs, hr, hrun, hended, hW, hsame⟩ := X18.leave (v := none) (fun _ => rfl)
  refine ⟨_, _, go25 _ ?_, hrun, hended, _, _, rfl, ?_, ⟨_, rfl⟩, hW, hsame.mono (by decide) (by decide)⟩
  · exact X18.returnOut hx Bd.returns (hb hby d14_32) hr
  · show QHsc2 Z _ _ _ _ _ _ _ _ _ _ _ _ _ _ _ _ _ _ _ _ _ _ _ _ _ _ _ _ _ _ T18.heap _
    rw [e18]
    exact ⟨rfl, N24, K22, ⟨_, _, _, _, _, _, _, _, _, HX23⟩⟩
theorem d35_0 : dc35 0 (.iload_n 2) 1 := by decide +kernel
theorem d35_1 : dc35 1 (.iload_n 1) 1 := by decide +kernel
theorem d35_2 : dc35 2 (.isub) 1 := by decide +kernel
theorem d35_3 : dc35 3 (.iload_n 3) 1 := by decide +kernel
theorem d35_4 : dc35 4 (.if_icmp .ne 15) 3 := by decide +kernel
theorem d35_7 : dc35 7 (.aload_n 0) 1 := by decide +kernel
theorem d35_8 : dc35 8 (.getfield 19) 3 := by decide +kernel
theorem d35_11 : dc35 11 (.iload_n 1) 1 := by decide +kernel
theorem d35_12 : dc35 12 (.iload_n 3) 1 := by decide +kernel
theorem d35_13 : dc35 13 (.invokevirtual 118) 3 := by decide +kernel
theorem d35_16 : dc35 16 (.goto 13) 3 := by decide +kernel
theorem d35_19 : dc35 19 (.aload_n 0) 1 := by decide +kernel
theorem d35_20 : dc35 20 (.getfield 19) 3 := by decide +kernel
theorem d35_23 : dc35 23 (.iload_n 1) 1 := by decide +kernel
theorem d35_24 : dc35 24 (.iload_n 2) 1 := by decide +kernel
theorem d35_25 : dc35 25 (.iload_n 3) 1 := by decide +kernel
theorem d35_26 : dc35 26 (.invokevirtual 122) 3 := by decide +kernel
theorem d35_29 : dc35 29 (.return_) 1 := by decide +kernel
theorem ef_rmHaL (m : MethodId) (aH : Addr) (x : Int32) (y : Int32) (z : Int32) : entryFrame m #[(.ref aH), (.int x), (.int y), (.int z)] 4 = mkF m 0 #[.val (.ref aH), .val (.int x), .val (.int y), .val (.int z)] [] := by first | (simp [entryFrame, mkF, argsToLocals, Value.category]; done) | rfl
def QHaL (Z : State) (aH : Addr) (x : Int32) (y : Int32) (z : Int32) (aT vT aP vP aQ aK ob o1 o2 o3 o4 : Addr) (tx : List Int32) (px : List Int32) (cP : Int32) (po : List Value) (pk : List Value) (K : Nat) (brk : Int32) (tabs : Int32) (cells : Int32) (par : Int32) (col : Int32) (ls : Int32) (inr : Int32) (rs : Int32) (cs : Int32) (fm : Value) (h0 : Heap) (n0 : Nat) (v : Option Value) (h : Heap) (L : List Loc) : Prop := v = none ∧ Fr n0 L ∧ Keep h0 h [aH, aT, vT, aP, vP, aQ, aK, ob, o1, o2, o3, o4] ∧ own_HB Z h aH aT vT aP vP aQ aK ob o1 o2 o3 o4 tx px cP po pk (K + 1) brk tabs cells par col ls inr rs
set_option maxRecDepth 65536 in
set_option maxHeartbeats 40000000 in
theorem rmHaL (l : Launch) (Z : State) (a0 : Array Value) (hw : ∀ d ∈ tables_1, d.before a0 Z = true) (ws : List Jvm.Cond) (aH : Addr) (x : Int32) (y : Int32) (z : Int32) (aT vT aP vP aQ aK ob o1 o2 o3 o4 : Addr) (tx : List Int32) (px : List Int32) (cP : Int32) (po : List Value) (pk : List Value) (K : Nat) (brk : Int32) (tabs : Int32) (cells : Int32) (par : Int32) (col : Int32) (ls : Int32) (inr : Int32) (rs : Int32) (cs : Int32) (fm : Value) (h0 : Heap) (n0 : Nat) (Z0 : n0 ≤ h0.size) (O0 : Old Z n0 h0) (S_CS : Sta Z Z.heap "java/lang/String" "COMPACT_STRINGS" "Z" (.int cs)) (hcs : ¬ cs = 0) (S_FM : Sta Z Z.heap "jdk/internal/util/Preconditions" "SIOOBE_FORMATTER" "Ljava/util/function/BiFunction;" fm) (hfm : fm.isRef = true) (HB : own_HB Z h0 aH aT vT aP vP aQ aK ob o1 o2 o3 o4 tx px cP po pk K brk tabs cells par col ls inr rs) (D : List.Nodup [aH, aT, vT, aP, vP, aQ, aK, ob, o1, o2, o3, o4]) (gN : ∀ y ∈ [aH, aT, vT, aP, vP, aQ, aK, ob, o1, o2, o3, o4], n0 ≤ y) (hB : (tx : List Int32).length < 8) (hKb : K < 10) (hq : (y - x) = z) :
    MetFree l mN_7 (head1 (Jvm.Cond.code mN_7 prog_41_method_16_code 4 none :: ws) rO_9) (fun a U => a = #[(.ref aH), (.int x), (.int y), (.int z)] ∧ Z.Warmed39 U.vm ∧ U.heap = h0) (fun _ _ _ _ _ => True) (fun _ U o U' => ∃ v L, o = .returned v ∧ QHaL Z aH x y z aT vT aP vP aQ aK ob o1 o2 o3 o4 tx px cP po pk K brk tabs cells par col ls inr rs cs fm h0 n0 v U'.heap L ∧ FrameEnd U o U' L rO_9.cells rO_9.slots) := by
  refine MetFree.of_bodySF (plainFor_of_name pn_7) hisR ?_
  intro p e s m args below meth c s₁ Bd hml0 hP hK
  obtain ⟨rfl, hZ, hh⟩ := hP
  have hx := Bd.exec
  have hby := Bd.bytes
  have hml : c.maxLocals = 4 := hml0
  have hown : s.vm.findClass "com/example/whereas/whereas/model/HtmlLayout" = some m.cls := findClass_of_methodNamed Bd.named
  have hnm := (name_of_methodNamed Bd.named Bd.method).1
  have X0 : Stand p l e rO_9 s m #[(.ref aH), (.int x), (.int y), (.int z)] below meth c s₁ [] 0 0 := Stand.of_body Bd
  have e0 : s₁.heap = h0 := by rw [← hh, Bd.state]; rfl
  have N0 := Fr.nil n0
  have K0 := Keep.refl h0 [aH, aT, vT, aP, vP, aQ, aK, ob, o1, o2, o3, o4]
  have go0 : Goes p e below s₁ (entryFrame m #[(.ref aH), (.int x), (.int y), (.int z)] 4) s₁ (mkF m 0 #[vR aH, vI x, vI y, vI z] []) := fun t k => castTop (ef_rmHaL m aH x y z) k
  obtain ⟨kT, kP, kQ, kK, nT, mT, mP, rr, ll, HX0⟩ := HB
  obtain ⟨T1, X1, e1, st1⟩ := getF X0 hx hZ hown (host := "") (Or.inl (own_w hw 48 rfl)) Via.refl e0 (pj_FH_origins HX0) (g := (mkF m 8 #[vR aH, vI x, vI y, vI z] [(.ref aH)])) rfl rfl (hb hby d35_8)
  obtain ⟨cq2, kq2, q2a, q2b, q2c⟩ := isOf hZ e1 (pj_EO HX0)
  obtain ⟨_, _, ⟨T2, L2, k2, n2⟩, -, X2, ⟨Lc2, hQ2, l2, y2, z2⟩, st2⟩ := X1.virtualBack hx (y := mN_24) (z := mN_24) hown (mvT hZ (own_w hw 223 rfl)) (mvT hZ (own_w hw 224 rfl)) (notFace_of_selects (args := #[]) (mvT hZ (own_w hw 226 rfl))) (mvT hZ (own_w hw 226 rfl)) (mvT hZ (own_w hw 225 rfl)) (by decide) (backOf (W := 0) (rmOl l Z a0 hw [] ob x z o1 o2 o3 o4 rr ll K h0 n0 Z0 (pj_EO HX0) (pj_FO1 HX0) (pj_FO2 HX0) (pj_FO3 HX0) (pj_FO4 HX0) (pj_FOr HX0) (pj_FOl HX0) (pj_AN1 HX0) (pj_AN2 HX0) (pj_AN3 HX0) (pj_AN4 HX0) (nd_7_8 D) (nd_7_9 D) (nd_7_10 D) (nd_7_11 D) (nd_8_9 D) (nd_8_10 D) (nd_8_11 D) (nd_9_10 D) (nd_9_11 D) (nd_10_11 D) (gN _ (List.mem_of_getElem? (i := 7) rfl)) (gN _ (List.mem_of_getElem? (i := 8) rfl)) (gN _ (List.mem_of_getElem? (i := 9) rfl)) (gN _ (List.mem_of_getElem? (i := 10) rfl)) (gN _ (List.mem_of_getElem? (i := 11) rfl)) (pj_hrb HX0) (by omega)) hZ (own_w hw 227 rfl) (own_w hw 33 rfl) (by decide) (by decide)) q2a q2c (g := (mkF m 13 #[vR aH, vI x, vI y, vI z] [(.int z), (.int x), (.ref ob)])) rfl (by rw [hml]; rfl) (Steps.refl _) (argsL := [(.int x), (.int z)]) (rest := []) (lenOf pd_7 rfl) rfl (by show 2 * 0 + _ ≤ _; exact Nat.le_of_eq rfl) (hb hby d35_13) (fun _ _ => ⟨rfl, e1, (by decide : 0 + 0 ≤ rO_9.cells), (by decide : 0 + 0 ≤ rO_9.slots)⟩)
  dsimp only [Pt.U, Pt.locs, Pt.cells, Pt.slots] at X2 l2 y2 z2 st2 hQ2
  subst l2 y2 z2
  obtain ⟨rfl, N2q, Kq2, Rq2⟩ := hQ2
  have N2 := Fr.app N0 N2q
  obtain ⟨rr2, ll2, hrb2, EOq2, FO1q2, FO2q2, FO3q2, FO4q2, FOrq2, FOlq2, AN1q2, AN2q2, AN3q2, AN4q2⟩ := Rq2
  have HX3 := hx_O HX0 D Kq2 hrb2 EOq2 FO1q2 FO2q2 FO3q2 FO4q2 FOrq2 FOlq2 AN1q2 AN2q2 AN3q2 AN4q2
  have O4 := O0.keep Kq2 (allS (gN _ (List.mem_of_getElem? (i := 7) rfl)) (allS (gN _ (List.mem_of_getElem? (i := 8) rfl)) (allS (gN _ (List.mem_of_getElem? (i := 9) rfl)) (allS (gN _ (List.mem_of_getElem? (i := 10) rfl)) (allS (gN _ (List.mem_of_getElem? (i := 11) rfl)) all0)))))
  have Z5 := Nat.le_trans Z0 Kq2.1
  have K6 := K0.trans Kq2 (allS (Or.inl (List.mem_of_getElem? (i := 7) rfl)) (allS (Or.inl (List.mem_of_getElem? (i := 8) rfl)) (allS (Or.inl (List.mem_of_getElem? (i := 9) rfl)) (allS (Or.inl (List.mem_of_getElem? (i := 10) rfl)) (allS (Or.inl (List.mem_of_getElem? (i := 11) rfl)) all0)))))
  have go7 : Goes p e below s₁ (entryFrame m #[(.ref aH), (.int x), (.int y), (.int z)] 4) T2 (mkF m 29 #[vR aH, vI x, vI y, vI z] []) := fun t k => by
    refine go0 t ?_
    refine XS.iloadN X0.here hx rfl (hb hby d35_0) rfl ?_
    refine XS.iloadN X0.here hx rfl (hb hby d35_1) rfl ?_
    refine XS.isub X0.here hx rfl (hb hby d35_2) rfl ?_
    refine XS.iloadN X0.here hx rfl (hb hby d35_3) rfl ?_
    refine XS.icmpNo X0.here hx rfl (hb hby d35_4) rfl (Jvm.Free.XT.ii_ne_f hq) ?_
    refine XS.aloadN X0.here hx rfl (hb hby d35_7) rfl rfl ?_
    show Steps p.tables e below (s₁.setTop (mkF m 8 #[vR aH, vI x, vI y, vI z] [(.ref aH)])) _
    refine st1 t ?_
    refine XS.iloadN X1.here hx rfl (hb hby d35_11) rfl ?_
    refine XS.iloadN X1.here hx rfl (hb hby d35_12) rfl ?_
    refine st2.trans ?_
    refine XS.goto X2.here hx rfl (pc0 := 16) (pc' := 29) rfl (hb hby d35_16) (by decide) (by decide) ?_
    exact k
  obtain ⟨fs, hr, hrun, hended, hW, hsame⟩ := X2.leave (v := none) (fun _ => rfl)
  refine ⟨_, _, go7 _ ?_, hrun, hended, _, _, rfl, ?_, ⟨_, rfl⟩, hW, hsame.mono (by decide) (by decide)⟩
  · exact X2.returnOut hx Bd.returns (hb hby d35_29) hr
  · show QHaL Z _ _ _ _ _ _ _ _ _ _ _ _ _ _ _ _ _ _ _ _ _ _ _ _ _ _ _ _ _ _ _ _ _ _ T2.heap _
    exact ⟨rfl, N2, K6, ⟨_, _, _, _, _, _, _, _, _, HX3⟩⟩
theorem pd_15 : parseMethodDescriptor "(III)V" = some ⟨[.int, .int, .int], none⟩ := by decide +kernel
theorem ef_rmHaS (m : MethodId) (aH : Addr) (x : Int32) (y : Int32) (z : Int32) : entryFrame m #[(.ref aH), (.int x), (.int y), (.int z)] 4 = mkF m 0 #[.val (.ref aH), .val (.int x), .val (.int y), .val (.int z)] [] := by first | (simp [entryFrame, mkF, argsToLocals, Value.category]; done) | rfl
def QHaS (Z : State) (aH : Addr) (x : Int32) (y : Int32) (z : Int32) (aT vT aP vP aQ aK ob o1 o2 o3 o4 : Addr) (tx : List Int32) (px : List Int32) (cP : Int32) (po : List Value) (pk : List Value) (K : Nat) (brk : Int32) (tabs : Int32) (cells : Int32) (par : Int32) (col : Int32) (ls : Int32) (inr : Int32) (rs : Int32) (cs : Int32) (fm : Value) (h0 : Heap) (n0 : Nat) (v : Option Value) (h : Heap) (L : List Loc) : Prop := v = none ∧ Fr n0 L ∧ Keep h0 h [aH, aT, vT, aP, vP, aQ, aK, ob, o1, o2, o3, o4] ∧ own_HB Z h aH aT vT aP vP aQ aK ob o1 o2 o3 o4 tx px cP po pk (K + 1) brk tabs cells par col ls inr rs
set_option maxRecDepth 65536 in
set_option maxHeartbeats 40000000 in
theorem rmHaS (l : Launch) (Z : State) (a0 : Array Value) (hw : ∀ d ∈ tables_1, d.before a0 Z = true) (ws : List Jvm.Cond) (aH : Addr) (x : Int32) (y : Int32) (z : Int32) (aT vT aP vP aQ aK ob o1 o2 o3 o4 : Addr) (tx : List Int32) (px : List Int32) (cP : Int32) (po : List Value) (pk : List Value) (K : Nat) (brk : Int32) (tabs : Int32) (cells : Int32) (par : Int32) (col : Int32) (ls : Int32) (inr : Int32) (rs : Int32) (cs : Int32) (fm : Value) (h0 : Heap) (n0 : Nat) (Z0 : n0 ≤ h0.size) (O0 : Old Z n0 h0) (S_CS : Sta Z Z.heap "java/lang/String" "COMPACT_STRINGS" "Z" (.int cs)) (hcs : ¬ cs = 0) (S_FM : Sta Z Z.heap "jdk/internal/util/Preconditions" "SIOOBE_FORMATTER" "Ljava/util/function/BiFunction;" fm) (hfm : fm.isRef = true) (HB : own_HB Z h0 aH aT vT aP vP aQ aK ob o1 o2 o3 o4 tx px cP po pk K brk tabs cells par col ls inr rs) (D : List.Nodup [aH, aT, vT, aP, vP, aQ, aK, ob, o1, o2, o3, o4]) (gN : ∀ y ∈ [aH, aT, vT, aP, vP, aQ, aK, ob, o1, o2, o3, o4], n0 ≤ y) (hB : (tx : List Int32).length < 8) (hKb : K < 10) (hq : ¬ (y - x) = z) :
    MetFree l mN_7 (head1 (Jvm.Cond.code mN_7 prog_41_method_16_code 4 none :: ws) rO_10) (fun a U => a = #[(.ref aH), (.int x), (.int y), (.int z)] ∧ Z.Warmed39 U.vm ∧ U.heap = h0) (fun _ _ _ _ _ => True) (fun _ U o U' => ∃ v L, o = .returned v ∧ QHaS Z aH x y z aT vT aP vP aQ aK ob o1 o2 o3 o4 tx px cP po pk K brk tabs cells par col ls inr rs cs fm h0 n0 v U'.heap L ∧ FrameEnd U o U' L rO_10.cells rO_10.slots) := by
  refine MetFree.of_bodySF (plainFor_of_name pn_7) hisR ?_
  intro p e s m args below meth c s₁ Bd hml0 hP hK
  obtain ⟨rfl, hZ, hh⟩ := hP
  have hx := Bd.exec
  have hby := Bd.bytes
  have hml : c.maxLocals = 4 := hml0
  have hown : s.vm.findClass "com/example/whereas/whereas/model/HtmlLayout" = some m.cls := findClass_of_methodNamed Bd.named
  have hnm := (name_of_methodNamed Bd.named Bd.method).1
  have X0 : Stand p l e rO_10 s m #[(.ref aH), (.int x), (.int y), (.int z)] below meth c s₁ [] 0 0 := Stand.of_body Bd
  have e0 : s₁.heap = h0 := by rw [← hh, Bd.state]; rfl
  have N0 := Fr.nil n0
  have K0 := Keep.refl h0 [aH, aT, vT, aP, vP, aQ, aK, ob, o1, o2, o3, o4]
  have go0 : Goes p e below s₁ (entryFrame m #[(.ref aH), (.int x), (.int y), (.int z)] 4) s₁ (mkF m 0 #[vR aH, vI x, vI y, vI z] []) := fun t k => castTop (ef_rmHaS m aH x y z) k
  obtain ⟨kT, kP, kQ, kK, nT, mT, mP, rr, ll, HX0⟩ := HB
  obtain ⟨T1, X1, e1, st1⟩ := getF X0 hx hZ hown (host := "") (Or.inl (own_w hw 48 rfl)) Via.refl e0 (pj_FH_origins HX0) (g := (mkF m 20 #[vR aH, vI x, vI y, vI z] [(.ref aH)])) rfl rfl (hb hby d35_20)
  obtain ⟨cq2, kq2, q2a, q2b, q2c⟩ := isOf hZ e1 (pj_EO HX0)
  obtain ⟨_, _, ⟨T2, L2, k2, n2⟩, -, X2, ⟨Lc2, hQ2, l2, y2, z2⟩, st2⟩ := X1.virtualBack hx (y := mN_25) (z := mN_25) hown (mvT hZ (own_w hw 245 rfl)) (mvT hZ (own_w hw 246 rfl)) (notFace_of_selects (args := #[]) (mvT hZ (own_w hw 248 rfl))) (mvT hZ (own_w hw 248 rfl)) (mvT hZ (own_w hw 247 rfl)) (by decide) (backOf (W := 0) (rmOs l Z a0 hw [] ob x y z o1 o2 o3 o4 rr ll K h0 n0 Z0 (pj_EO HX0) (pj_FO1 HX0) (pj_FO2 HX0) (pj_FO3 HX0) (pj_FO4 HX0) (pj_FOr HX0) (pj_FOl HX0) (pj_AN1 HX0) (pj_AN2 HX0) (pj_AN3 HX0) (pj_AN4 HX0) (nd_7_8 D) (nd_7_9 D) (nd_7_10 D) (nd_7_11 D) (nd_8_9 D) (nd_8_10 D) (nd_8_11 D) (nd_9_10 D) (nd_9_11 D) (nd_10_11 D) (gN _ (List.mem_of_getElem? (i := 7) rfl)) (gN _ (List.mem_of_getElem? (i := 8) rfl)) (gN _ (List.mem_of_getElem? (i := 9) rfl)) (gN _ (List.mem_of_getElem? (i := 10) rfl)) (gN _ (List.mem_of_getElem? (i := 11) rfl)) (pj_hrb HX0) (by omega)) hZ (own_w hw 249 rfl) (own_w hw 33 rfl) (by decide) (by decide)) q2a q2c (g := (mkF m 26 #[vR aH, vI x, vI y, vI z] [(.int z), (.int y), (.int x), (.ref ob)])) rfl (by rw [hml]; rfl) (Steps.refl _) (argsL := [(.int x), (.int y), (.int z)]) (rest := []) (lenOf pd_15 rfl) rfl (by show 2 * 0 + _ ≤ _; exact Nat.le_of_eq rfl) (hb hby d35_26) (fun _ _ => ⟨rfl, e1, (by decide : 0 + 0 ≤ rO_10.cells), (by decide : 0 + 0 ≤ rO_10.slots)⟩)
  dsimp only [Pt.U, Pt.locs, Pt.cells, Pt.slots] at X2 l2 y2 z2 st2 hQ2
  subst l2 y2 z2
  obtain ⟨rfl, N2q, Kq2, Rq2⟩ := hQ2
  have N2 := Fr.app N0 N2q
  obtain ⟨rr2, ll2, hrb2, EOq2, FO1q2, FO2q2, FO3q2, FO4q2, FOrq2, FOlq2, AN1q2, AN2q2, AN3q2, AN4q2⟩ := Rq2
  have HX3 := hx_O HX0 D Kq2 hrb2 EOq2 FO1q2 FO2q2 FO3q2 FO4q2 FOrq2 FOlq2 AN1q2 AN2q2 AN3q2 AN4q2
  have O4 := O0.keep Kq2 (allS (gN _ (List.mem_of_getElem? (i := 7) rfl)) (allS (gN _ (List.mem_of_getElem? (i := 8) rfl)) (allS (gN _ (List.mem_of_getElem? (i := 9) rfl)) (allS (gN _ (List.mem_of_getElem? (i := 10) rfl)) (allS (gN _ (List.mem_of_getElem? (i := 11) rfl)) all0)))))
  have Z5 := Nat.le_trans Z0 Kq2.1
  have K6 := K0.trans Kq2 (allS (Or.inl (List.mem_of_getElem? (i := 7) rfl)) (allS (Or.inl (List.mem_of_getElem? (i := 8) rfl)) (allS (Or.inl (List.mem_of_getElem? (i := 9) rfl)) (allS (Or.inl (List.mem_of_getElem? (i := 10) rfl)) (allS (Or.inl (List.mem_of_getElem? (i := 11) rfl)) all0)))))
  have go7 : Goes p e below s₁ (entryFrame m #[(.ref aH), (.int x), (.int y), (.int z)] 4) T2 (mkF m 29 #[vR aH, vI x, vI y, vI z] []) := fun t k => by
    refine go0 t ?_
    refine XS.iloadN X0.here hx rfl (hb hby d35_0) rfl ?_
    refine XS.iloadN X0.here hx rfl (hb hby d35_1) rfl ?_
    refine XS.isub X0.here hx rfl (hb hby d35_2) rfl ?_
    refine XS.iloadN X0.here hx rfl (hb hby d35_3) rfl ?_
    refine XS.icmpYes X0.here hx rfl (pc0 := 4) (pc' := 19) rfl (hb hby d35_4) rfl (Jvm.Free.XT.ii_ne_t hq) (by decide) (by decide) ?_
    refine XS.aloadN X0.here hx rfl (hb hby d35_19) rfl rfl ?_
    show Steps p.tables e below (s₁.setTop (mkF m 20 #[vR aH, vI x, vI y, vI z] [(.ref aH)])) _
    refine st1 t ?_
    refine XS.iloadN X1.here hx rfl (hb hby d35_23) rfl ?_
    refine XS.iloadN X1.here hx rfl (hb hby d35_24) rfl ?_
    refine XS.iloadN X1.here hx rfl (hb hby d35_25) rfl ?_
    refine st2.trans ?_
    exact k
  obtain ⟨fs, hr, hrun, hended, hW, hsame⟩ := X2.leave (v := none) (fun _ => rfl)
  refine ⟨_, _, go7 _ ?_, hrun, hended, _, _, rfl, ?_, ⟨_, rfl⟩, hW, hsame.mono (by decide) (by decide)⟩
  · exact X2.returnOut hx Bd.returns (hb hby d35_29) hr
  · show QHaS Z _ _ _ _ _ _ _ _ _ _ _ _ _ _ _ _ _ _ _ _ _ _ _ _ _ _ _ _ _ _ _ _ _ _ T2.heap _
    exact ⟨rfl, N2, K6, ⟨_, _, _, _, _, _, _, _, _, HX3⟩⟩
theorem pd_16 : parseMethodDescriptor "(C)Ljava/lang/StringBuilder;" = some ⟨[.char], some (.object "java/lang/StringBuilder")⟩ := by decide +kernel
theorem d39_0 : dc39 0 (.iconst 0) 1 := by decide +kernel
theorem d39_1 : dc39 1 (.istore 5) 2 := by decide +kernel
theorem d39_3 : dc39 3 (.iload 5) 2 := by decide +kernel
theorem d39_5 : dc39 5 (.iload_n 2) 1 := by decide +kernel
theorem d39_6 : dc39 6 (.if_icmp .ge 18) 3 := by decide +kernel
theorem d39_9 : dc39 9 (.aload_n 0) 1 := by decide +kernel
theorem d39_10 : dc39 10 (.getfield 10) 3 := by decide +kernel
theorem d39_13 : dc39 13 (.iload_n 1) 1 := by decide +kernel
theorem d39_14 : dc39 14 (.invokevirtual 38) 3 := by decide +kernel
theorem d39_17 : dc39 17 (.pop) 1 := by decide +kernel
theorem d39_18 : dc39 18 (.iinc 5 1) 3 := by decide +kernel
theorem d39_21 : dc39 21 (.goto (-18)) 3 := by decide +kernel
theorem d39_24 : dc39 24 (.aload_n 0) 1 := by decide +kernel
theorem d39_25 : dc39 25 (.iload_n 3) 1 := by decide +kernel
theorem d39_26 : dc39 26 (.iload 4) 2 := by decide +kernel
theorem d39_28 : dc39 28 (.iload_n 2) 1 := by decide +kernel
theorem d39_29 : dc39 29 (.invokevirtual 80) 3 := by decide +kernel
theorem d39_32 : dc39 32 (.return_) 1 := by decide +kernel
theorem ef_rmHap1 (m : MethodId) (aH : Addr) (cc : Int32) (x : Int32) (y : Int32) : entryFrame m #[(.ref aH), (.int cc), (.int (1 : Int32)), (.int x), (.int y)] 6 = mkF m 0 #[.val (.ref aH), .val (.int cc), .val (.int (1 : Int32)), .val (.int x), .val (.int y), .unset] [] := by first | (simp [entryFrame, mkF, argsToLocals, Value.category]; done) | rfl
def QHap1 (Z : State) (aH : Addr) (cc : Int32) (x : Int32) (y : Int32) (aT vT aP vP aQ aK ob o1 o2 o3 o4 : Addr) (tx : List Int32) (px : List Int32) (cP : Int32) (po : List Value) (pk : List Value) (K : Nat) (brk : Int32) (tabs : Int32) (cells : Int32) (par : Int32) (col : Int32) (ls : Int32) (inr : Int32) (rs : Int32) (cs : Int32) (fm : Value) (h0 : Heap) (n0 : Nat) (v : Option Value) (h : Heap) (L : List Loc) : Prop := v = none ∧ Fr n0 L ∧ Keep h0 h [aH, aT, vT, aP, vP, aQ, aK, ob, o1, o2, o3, o4] ∧ own_HB Z h aH aT vT aP vP aQ aK ob o1 o2 o3 o4 (tx ++ [cc]) px cP po pk (K + 1) brk tabs cells par col ls inr rs
set_option maxRecDepth 65536 in
set_option maxHeartbeats 40000000 in
theorem rmHap1 (l : Launch) (Z : State) (a0 : Array Value) (hw : ∀ d ∈ tables_1, d.before a0 Z = true) (ws : List Jvm.Cond) (aH : Addr) (cc : Int32) (x : Int32) (y : Int32) (aT vT aP vP aQ aK ob o1 o2 o3 o4 : Addr) (tx : List Int32) (px : List Int32) (cP : Int32) (po : List Value) (pk : List Value) (K : Nat) (brk : Int32) (tabs : Int32) (cells : Int32) (par : Int32) (col : Int32) (ls : Int32) (inr : Int32) (rs : Int32) (cs : Int32) (fm : Value) (h0 : Heap) (n0 : Nat) (Z0 : n0 ≤ h0.size) (O0 : Old Z n0 h0) (S_CS : Sta Z Z.heap "java/lang/String" "COMPACT_STRINGS" "Z" (.int cs)) (hcs : ¬ cs = 0) (S_FM : Sta Z Z.heap "jdk/internal/util/Preconditions" "SIOOBE_FORMATTER" "Ljava/util/function/BiFunction;" fm) (hfm : fm.isRef = true) (HB : own_HB Z h0 aH aT vT aP vP aQ aK ob o1 o2 o3 o4 tx px cP po pk K brk tabs cells par col ls inr rs) (D : List.Nodup [aH, aT, vT, aP, vP, aQ, aK, ob, o1, o2, o3, o4]) (gN : ∀ y ∈ [aH, aT, vT, aP, vP, aQ, aK, ob, o1, o2, o3, o4], n0 ≤ y) (hB : (tx : List Int32).length < 8) (hKb : K < 10) (hc : ¬ cc < 0 ∧ ¬ (255 : Int32) < cc) (hq : ¬ (y - x) = (1 : Int32)) (hB2 : tx.length < 6) :
    MetFree l mN_8 (head1 (Jvm.Cond.code mN_8 prog_41_method_15_code 6 none :: ws) rO_16) (fun a U => a = #[(.ref aH), (.int cc), (.int (1 : Int32)), (.int x), (.int y)] ∧ Z.Warmed39 U.vm ∧ U.heap = h0) (fun _ _ _ _ _ => True) (fun _ U o U' => ∃ v L, o = .returned v ∧ QHap1 Z aH cc x y aT vT aP vP aQ aK ob o1 o2 o3 o4 tx px cP po pk K brk tabs cells par col ls inr rs cs fm h0 n0 v U'.heap L ∧ FrameEnd U o U' L rO_16.cells rO_16.slots) := by
  refine MetFree.of_bodySF (plainFor_of_name pn_7) hisR ?_
  intro p e s m args below meth c s₁ Bd hml0 hP hK
  obtain ⟨rfl, hZ, hh⟩ := hP
  have hx := Bd.exec
  have hby := Bd.bytes
  have hml : c.maxLocals = 6 := hml0
  have hown : s.vm.findClass "com/example/whereas/whereas/model/HtmlLayout" = some m.cls := findClass_of_methodNamed Bd.named
  have hnm := (name_of_methodNamed Bd.named Bd.method).1
  have X0 : Stand p l e rO_16 s m #[(.ref aH), (.int cc), (.int (1 : Int32)), (.int x), (.int y)] below meth c s₁ [] 0 0 := Stand.of_body Bd
  have e0 : s₁.heap = h0 := by rw [← hh, Bd.state]; rfl
  have N0 := Fr.nil n0
  have K0 := Keep.refl h0 [aH, aT, vT, aP, vP, aQ, aK, ob, o1, o2, o3, o4]
  have go0 : Goes p e below s₁ (entryFrame m #[(.ref aH), (.int cc), (.int (1 : Int32)), (.int x), (.int y)] 6) s₁ (mkF m 0 #[vR aH, vI cc, vI (1 : Int32), vI x, vI y, .unset] []) := fun t k => castTop (ef_rmHap1 m aH cc x y) k
  obtain ⟨kT, kP, kQ, kK, nT, mT, mP, rr, ll, HX0⟩ := HB
  obtain ⟨T1, X1, e1, st1⟩ := getF X0 hx hZ hown (host := "") (Or.inl (own_w hw 29 rfl)) Via.refl e0 (pj_FH_text HX0) (g := (mkF m 10 #[vR aH, vI cc, vI (1 : Int32), vI x, vI y, vI (0 : Int32)] [(.ref aH)])) rfl rfl (hb hby d39_10)
  obtain ⟨cq2, kq2, q2a, q2b, q2c⟩ := isOf hZ e1 (pj_EsT_ HX0)
  obtain ⟨_, _, ⟨T2, L2, k2, n2⟩, -, X2, ⟨Lc2, hQ2, l2, y2, z2⟩, st2⟩ := X1.virtualBack hx (y := mN_1) (z := mN_1) hown (mvT hZ (own_w hw 201 rfl)) (mvT hZ (own_w hw 202 rfl)) (notFace_of_selects (args := #[]) (mvT hZ (own_w hw 204 rfl))) (mvT hZ (own_w hw 204 rfl)) (mvT hZ (own_w hw 203 rfl)) (by decide) (backOf (W := 0) (rmSc l Z a0 hw [] aT cc vT kT nT mT tx cs h0 n0 Z0 O0 S_CS hcs (pj_EsT_ HX0) (pj_FvT_ HX0) (pj_FcT_ HX0) (pj_FnT_ HX0) (pj_FmT_ HX0) (pj_VaT_ HX0) (nd_1_2 D) (gN _ (List.mem_of_getElem? (i := 1) rfl)) (gN _ (List.mem_of_getElem? (i := 2) rfl)) (pj_hln HX0) hc.2) hZ (own_w hw 205 rfl) (own_w hw 11 rfl) (by decide) (by decide)) q2a q2c (g := (mkF m 14 #[vR aH, vI cc, vI (1 : Int32), vI x, vI y, vI (0 : Int32)] [(.int cc), (.ref aT)])) rfl (by rw [hml]; rfl) (Steps.refl _) (argsL := [(.int cc)]) (rest := []) (lenOf pd_16 rfl) rfl (by show 2 * 0 + _ ≤ _; exact Nat.le_of_eq rfl) (hb hby d39_14) (fun _ _ => ⟨rfl, e1, (by decide : 0 + 0 ≤ rO_16.cells), (by decide : 0 + 0 ≤ rO_16.slots)⟩)
  dsimp only [Pt.U, Pt.locs, Pt.cells, Pt.slots] at X2 l2 y2 z2 st2 hQ2
  subst l2 y2 z2
  obtain ⟨rfl, N2q, Kq2, E1q2, FVq2, FCq2, FNq2, FMq2, V1q2⟩ := hQ2
  have N2 := Fr.app N0 N2q
  have HX3 := (hx_T HX0 D Kq2 E1q2 FVq2 FCq2 FNq2 FMq2 V1q2 ((pj_hln HX0).push cc (by first | omega | (simp; omega))) : own_HX Z T2.heap aH aT vT aP vP aQ aK ob o1 o2 o3 o4 kT kP kQ kK (nT + (1 : Int32)) mT mP rr ll (tx ++ [cc]) px cP po pk K brk tabs cells par col ls inr rs)
  have O4 := O0.keep Kq2 (allS (gN _ (List.mem_of_getElem? (i := 1) rfl)) (allS (gN _ (List.mem_of_getElem? (i := 2) rfl)) all0))
  have Z5 := Nat.le_trans Z0 Kq2.1
  have K6 := K0.trans Kq2 (allS (Or.inl (List.mem_of_getElem? (i := 1) rfl)) (allS (Or.inl (List.mem_of_getElem? (i := 2) rfl)) all0))
  obtain ⟨cq7, q7a, q7b⟩ := (pj_EH HX3).cell
  obtain ⟨_, _, ⟨T7, L7, k7, n7⟩, -, X7, ⟨Lc7, hQ7, l7, y7, z7⟩, st7⟩ := X2.privateBack hx (y := mN_7) hown (mvT hZ (own_w hw 219 rfl)) (mvT hZ (own_w hw 220 rfl)) (own_selp (y := mN_7) (by decide) (mvT hZ (own_w hw 1 rfl)) (mvP hZ (own_w hw 221 rfl)) (mvT hZ (own_w hw 220 rfl))) (Cond.privateMethod_at (mvP hZ (own_w hw 221 rfl) (args := #[]))) (mvT hZ (own_w hw 222 rfl)) (by decide) (backOf (W := 0) (rmHaS l Z a0 hw [] aH x y (1 : Int32) aT vT aP vP aQ aK ob o1 o2 o3 o4 (tx ++ [cc]) px cP po pk K brk tabs cells par col ls inr rs  cs fm T2.heap n0 Z5 O4 S_CS hcs S_FM hfm (show own_HB Z T2.heap aH aT vT aP vP aQ aK ob o1 o2 o3 o4 (tx ++ [cc]) px cP po pk K brk tabs cells par col ls inr rs from ⟨_, _, _, _, _, _, _, _, _, HX3⟩) D gN (by first | omega | (simp; omega)) hKb hq) hZ (own_w hw 222 rfl) (own_w hw 2 rfl) (by decide) (by decide)) (g := (mkF m 29 #[vR aH, vI cc, vI (1 : Int32), vI x, vI y, vI (1 : Int32)] [(.int (1 : Int32)), (.int y), (.int x), (.ref aH)])) rfl (by rw [hml]; rfl) (Steps.refl _) (a := aH) q7a q7b (argsL := [(.int x), (.int y), (.int (1 : Int32))]) (rest := []) (lenOf pd_15 rfl) rfl (by show 2 * 0 + _ ≤ _; exact Nat.le_of_eq rfl) (hb hby d39_29) (fun _ _ => ⟨rfl, rfl, (by decide : 0 + 0 ≤ rO_16.cells), (by decide : 0 + 0 ≤ rO_16.slots)⟩)
  dsimp only [Pt.U, Pt.locs, Pt.cells, Pt.slots] at X7 l7 y7 z7 st7 hQ7
  subst l7 y7 z7
  obtain ⟨rfl, N7q, Kq7, Hq7⟩ := hQ7
  have N7 := Fr.app N2 N7q
  have O8 := O4.keep Kq7 gN
  have Z9 := Nat.le_trans Z5 Kq7.1
  have K10 := K6.trans Kq7 (fun _ q => Or.inl q)
  obtain ⟨kTq7, kPq7, kQq7, kKq7, nTq7, mTq7, mPq7, rrq7, llq7, HXq7⟩ := Hq7
  have go11 : Goes p e below s₁ (entryFrame m #[(.ref aH), (.int cc), (.int (1 : Int32)), (.int x), (.int y)] 6) T7 (mkF m 32 #[vR aH, vI cc, vI (1 : Int32), vI x, vI y, vI (1 : Int32)] []) := fun t k => by
    refine go0 t ?_
    refine XS.iconst X0.here hx rfl (hb hby d39_0) ?_
    refine XS.istore X0.here hx rfl (hb hby d39_1) rfl (l' := #[vR aH, vI cc, vI (1 : Int32), vI x, vI y, vI (0 : Int32)]) rfl ?_
    refine XS.iload X0.here hx rfl (hb hby d39_3) rfl ?_
    refine XS.iloadN X0.here hx rfl (hb hby d39_5) rfl ?_
    refine XS.icmpNo X0.here hx rfl (hb hby d39_6) rfl (Jvm.Free.XT.ii_ge_f (by decide)) ?_
    refine XS.aloadN X0.here hx rfl (hb hby d39_9) rfl rfl ?_
    show Steps p.tables e below (s₁.setTop (mkF m 10 #[vR aH, vI cc, vI (1 : Int32), vI x, vI y, vI (0 : Int32)] [(.ref aH)])) _
    refine st1 t ?_
    refine XS.iloadN X1.here hx rfl (hb hby d39_13) rfl ?_
    refine st2.trans ?_
    refine XS.pop X2.here hx rfl (hb hby d39_17) rfl rfl ?_
    refine XS.iinc X2.here hx rfl (hb hby d39_18) rfl (l' := #[vR aH, vI cc, vI (1 : Int32), vI x, vI y, vI (1 : Int32)]) rfl ?_
    refine XS.goto X2.here hx rfl (pc0 := 21) (pc' := 3) rfl (hb hby d39_21) (by decide) (by decide) ?_
    show Steps p.tables e below (T2.setTop (mkF m 3 #[vR aH, vI cc, vI (1 : Int32), vI x, vI y, vI (1 : Int32)] [])) _
    refine XS.iload X2.here hx rfl (hb hby d39_3) rfl ?_
    refine XS.iloadN X2.here hx rfl (hb hby d39_5) rfl ?_
    refine XS.icmpYes X2.here hx rfl (pc0 := 6) (pc' := 24) rfl (hb hby d39_6) rfl (Jvm.Free.XT.ii_ge_t (by decide)) (by decide) (by decide) ?_
    refine XS.aloadN X2.here hx rfl (hb hby d39_24) rfl rfl ?_
    refine XS.iloadN X2.here hx rfl (hb hby d39_25) rfl ?_
    refine XS.iload X2.here hx rfl (hb hby d39_26) rfl ?_
    show Steps p.tables e below (T2.setTop (mkF m 28 #[vR aH, vI cc, vI (1 : Int32), vI x, vI y, vI (1 : Int32)] [(.int y), (.int x), (.ref aH)])) _
    refine XS.iloadN X2.here hx rfl (hb hby d39_28) rfl ?_
    refine st7.trans ?_
    exact k
  obtain ⟨fs, hr, hrun, hended, hW, hsame⟩ := X7.leave (v := none) (fun _ => rfl)
  refine ⟨_, _, go11 _ ?_, hrun, hended, _, _, rfl, ?_, ⟨_, rfl⟩, hW, hsame.mono (by decide) (by decide)⟩
  · exact X7.returnOut hx Bd.returns (hb hby d39_32) hr
  · show QHap1 Z _ _ _ _ _ _ _ _ _ _ _ _ _ _ _ _ _ _ _ _ _ _ _ _ _ _ _ _ _ _ _ _ _ _ T7.heap _
    exact ⟨rfl, N7, K10, ⟨_, _, _, _, _, _, _, _, _, HXq7⟩⟩
theorem ef_rmHap2 (m : MethodId) (aH : Addr) (cc : Int32) (x : Int32) (y : Int32) : entryFrame m #[(.ref aH), (.int cc), (.int (2 : Int32)), (.int x), (.int y)] 6 = mkF m 0 #[.val (.ref aH), .val (.int cc), .val (.int (2 : Int32)), .val (.int x), .val (.int y), .unset] [] := by first | (simp [entryFrame, mkF, argsToLocals, Value.category]; done) | rfl
def QHap2 (Z : State) (aH : Addr) (cc : Int32) (x : Int32) (y : Int32) (aT vT aP vP aQ aK ob o1 o2 o3 o4 : Addr) (tx : List Int32) (px : List Int32) (cP : Int32) (po : List Value) (pk : List Value) (K : Nat) (brk : Int32) (tabs : Int32) (cells : Int32) (par : Int32) (col : Int32) (ls : Int32) (inr : Int32) (rs : Int32) (cs : Int32) (fm : Value) (h0 : Heap) (n0 : Nat) (v : Option Value) (h : Heap) (L : List Loc) : Prop := v = none ∧ Fr n0 L ∧ Keep h0 h [aH, aT, vT, aP, vP, aQ, aK, ob, o1, o2, o3, o4] ∧ own_HB Z h aH aT vT aP vP aQ aK ob o1 o2 o3 o4 ((tx ++ [cc]) ++ [cc]) px cP po pk (K + 1) brk tabs cells par col ls inr rs
set_option maxRecDepth 65536 in
set_option maxHeartbeats 40000000 in
theorem rmHap2 (l : Launch) (Z : State) (a0 : Array Value) (hw : ∀ d ∈ tables_1, d.before a0 Z = true) (ws : List Jvm.Cond) (aH : Addr) (cc : Int32) (x : Int32) (y : Int32) (aT vT aP vP aQ aK ob o1 o2 o3 o4 : Addr) (tx : List Int32) (px : List Int32) (cP : Int32) (po : List Value) (pk : List Value) (K : Nat) (brk : Int32) (tabs : Int32) (cells : Int32) (par : Int32) (col : Int32) (ls : Int32) (inr : Int32) (rs : Int32) (cs : Int32) (fm : Value) (h0 : Heap) (n0 : Nat) (Z0 : n0 ≤ h0.size) (O0 : Old Z n0 h0) (S_CS : Sta Z Z.heap "java/lang/String" "COMPACT_STRINGS" "Z" (.int cs)) (hcs : ¬ cs = 0) (S_FM : Sta Z Z.heap "jdk/internal/util/Preconditions" "SIOOBE_FORMATTER" "Ljava/util/function/BiFunction;" fm) (hfm : fm.isRef = true) (HB : own_HB Z h0 aH aT vT aP vP aQ aK ob o1 o2 o3 o4 tx px cP po pk K brk tabs cells par col ls inr rs) (D : List.Nodup [aH, aT, vT, aP, vP, aQ, aK, ob, o1, o2, o3, o4]) (gN : ∀ y ∈ [aH, aT, vT, aP, vP, aQ, aK, ob, o1, o2, o3, o4], n0 ≤ y) (hB : (tx : List Int32).length < 8) (hKb : K < 10) (hc : ¬ cc < 0 ∧ ¬ (255 : Int32) < cc) (hq : ¬ (y - x) = (2 : Int32)) (hB2 : tx.length < 6) :
    MetFree l mN_8 (head1 (Jvm.Cond.code mN_8 prog_41_method_15_code 6 none :: ws) rO_16) (fun a U => a = #[(.ref aH), (.int cc), (.int (2 : Int32)), (.int x), (.int y)] ∧ Z.Warmed39 U.vm ∧ U.heap = h0) (fun _ _ _ _ _ => True) (fun _ U o U' => ∃ v L, o = .returned v ∧ QHap2 Z aH cc x y aT vT aP vP aQ aK ob o1 o2 o3 o4 tx px cP po pk K brk tabs cells par col ls inr rs cs fm h0 n0 v U'.heap L ∧ FrameEnd U o U' L rO_16.cells rO_16.slots) := by
  refine MetFree.of_bodySF (plainFor_of_name pn_7) hisR ?_
  intro p e s m args below meth c s₁ Bd hml0 hP hK
  obtain ⟨rfl, hZ, hh⟩ := hP
  have hx := Bd.exec
  have hby := Bd.bytes
  have hml : c.maxLocals = 6 := hml0
  have hown : s.vm.findClass "com/example/whereas/whereas/model/HtmlLayout" = some m.cls := findClass_of_methodNamed Bd.named
  have hnm := (name_of_methodNamed Bd.named Bd.method).1
  have X0 : Stand p l e rO_16 s m #[(.ref aH), (.int cc), (.int (2 : Int32)), (.int x), (.int y)] below meth c s₁ [] 0 0 := Stand.of_body Bd
  have e0 : s₁.heap = h0 := by rw [← hh, Bd.state]; rfl
  have N0 := Fr.nil n0
  have K0 := Keep.refl h0 [aH, aT, vT, aP, vP, aQ, aK, ob, o1, o2, o3, o4]
  have go0 : Goes p e below s₁ (entryFrame m #[(.ref aH), (.int cc), (.int (2 : Int32)), (.int x), (.int y)] 6) s₁ (mkF m 0 #[vR aH, vI cc, vI (2 : Int32), vI x, vI y, .unset] []) := fun t k => castTop (ef_rmHap2 m aH cc x y) k
  obtain ⟨kT, kP, kQ, kK, nT, mT, mP, rr, ll, HX0⟩ := HB
  obtain ⟨T1, X1, e1, st1⟩ := getF X0 hx hZ hown (host := "") (Or.inl (own_w hw 29 rfl)) Via.refl e0 (pj_FH_text HX0) (g := (mkF m 10 #[vR aH, vI cc, vI (2 : Int32), vI x, vI y, vI (0 : Int32)] [(.ref aH)])) rfl rfl (hb hby d39_10)
  obtain ⟨cq2, kq2, q2a, q2b, q2c⟩ := isOf hZ e1 (pj_EsT_ HX0)
  obtain ⟨_, _, ⟨T2, L2, k2, n2⟩, -, X2, ⟨Lc2, hQ2, l2, y2, z2⟩, st2⟩ := X1.virtualBack hx (y := mN_1) (z := mN_1) hown (mvT hZ (own_w hw 201 rfl)) (mvT hZ (own_w hw 202 rfl)) (notFace_of_selects (args := #[]) (mvT hZ (own_w hw 204 rfl))) (mvT hZ (own_w hw 204 rfl)) (mvT hZ (own_w hw 203 rfl)) (by decide) (backOf (W := 0) (rmSc l Z a0 hw [] aT cc vT kT nT mT tx cs h0 n0 Z0 O0 S_CS hcs (pj_EsT_ HX0) (pj_FvT_ HX0) (pj_FcT_ HX0) (pj_FnT_ HX0) (pj_FmT_ HX0) (pj_VaT_ HX0) (nd_1_2 D) (gN _ (List.mem_of_getElem? (i := 1) rfl)) (gN _ (List.mem_of_getElem? (i := 2) rfl)) (pj_hln HX0) hc.2) hZ (own_w hw 205 rfl) (own_w hw 11 rfl) (by decide) (by decide)) q2a q2c (g := (mkF m 14 #[vR aH, vI cc, vI (2 : Int32), vI x, vI y, vI (0 : Int32)] [(.int cc), (.ref aT)])) rfl (by rw [hml]; rfl) (Steps.refl _) (argsL := [(.int cc)]) (rest := []) (lenOf pd_16 rfl) rfl (by show 2 * 0 + _ ≤ _; exact Nat.le_of_eq rfl) (hb hby d39_14) (fun _ _ => ⟨rfl, e1, (by decide : 0 + 0 ≤ rO_16.cells), (by decide : 0 + 0 ≤ rO_16.slots)⟩)
  dsimp only [Pt.U, Pt.locs, Pt.cells, Pt.slots] at X2 l2 y2 z2 st2 hQ2
  subst l2 y2 z2
  obtain ⟨rfl, N2q, Kq2, E1q2, FVq2, FCq2, FNq2, FMq2, V1q2⟩ := hQ2
  have N2 := Fr.app N0 N2q
  have HX3 := (hx_T HX0 D Kq2 E1q2 FVq2 FCq2 FNq2 FMq2 V1q2 ((pj_hln HX0).push cc (by first | omega | (simp; omega))) : own_HX Z T2.heap aH aT vT aP vP aQ aK ob o1 o2 o3 o4 kT kP kQ kK (nT + (1 : Int32)) mT mP rr ll (tx ++ [cc]) px cP po pk K brk tabs cells par col ls inr rs)
  have O4 := O0.keep Kq2 (allS (gN _ (List.mem_of_getElem? (i := 1) rfl)) (allS (gN _ (List.mem_of_getElem? (i := 2) rfl)) all0))
  have Z5 := Nat.le_trans Z0 Kq2.1
  have K6 := K0.trans Kq2 (allS (Or.inl (List.mem_of_getElem? (i := 1) rfl)) (allS (Or.inl (List.mem_of_getElem? (i := 2) rfl)) all0))
  obtain ⟨T7, X7, e7, st7⟩ := getF X2 hx hZ hown (host := "") (Or.inl (own_w hw 29 rfl)) Via.refl rfl (pj_FH_text HX3) (g := (mkF m 10 #[vR aH, vI cc, vI (2 : Int32), vI x, vI y, vI (1 : Int32)] [(.ref aH)])) rfl rfl (hb hby d39_10)
  obtain ⟨cq8, kq8, q8a, q8b, q8c⟩ := isOf hZ e7 (pj_EsT_ HX3)
  obtain ⟨_, _, ⟨T8, L8, k8, n8⟩, -, X8, ⟨Lc8, hQ8, l8, y8, z8⟩, st8⟩ := X7.virtualBack hx (y := mN_1) (z := mN_1) hown (mvT hZ (own_w hw 201 rfl)) (mvT hZ (own_w hw 202 rfl)) (notFace_of_selects (args := #[]) (mvT hZ (own_w hw 204 rfl))) (mvT hZ (own_w hw 204 rfl)) (mvT hZ (own_w hw 203 rfl)) (by decide) (backOf (W := 0) (rmSc l Z a0 hw [] aT cc vT kT (nT + (1 : Int32)) mT (tx ++ [cc]) cs T2.heap n0 Z5 O4 S_CS hcs (pj_EsT_ HX3) (pj_FvT_ HX3) (pj_FcT_ HX3) (pj_FnT_ HX3) (pj_FmT_ HX3) (pj_VaT_ HX3) (nd_1_2 D) (gN _ (List.mem_of_getElem? (i := 1) rfl)) (gN _ (List.mem_of_getElem? (i := 2) rfl)) (pj_hln HX3) hc.2) hZ (own_w hw 205 rfl) (own_w hw 11 rfl) (by decide) (by decide)) q8a q8c (g := (mkF m 14 #[vR aH, vI cc, vI (2 : Int32), vI x, vI y, vI (1 : Int32)] [(.int cc), (.ref aT)])) rfl (by rw [hml]; rfl) (Steps.refl _) (argsL := [(.int cc)]) (rest := []) (lenOf pd_16 rfl) rfl (by show 2 * 0 + _ ≤ _; exact Nat.le_of_eq rfl) (hb hby d39_14) (fun _ _ => ⟨rfl, e7, (by decide : 0 + 0 ≤ rO_16.cells), (by decide : 0 + 0 ≤ rO_16.slots)⟩)
  dsimp only [Pt.U, Pt.locs, Pt.cells, Pt.slots] at X8 l8 y8 z8 st8 hQ8
  subst l8 y8 z8
  obtain ⟨rfl, N8q, Kq8, E1q8, FVq8, FCq8, FNq8, FMq8, V1q8⟩ := hQ8
  have N8 := Fr.app N2 N8q
  have HX9 := (hx_T HX3 D Kq8 E1q8 FVq8 FCq8 FNq8 FMq8 V1q8 ((pj_hln HX3).push cc (by first | omega | (simp; omega))) : own_HX Z T8.heap aH aT vT aP vP aQ aK ob o1 o2 o3 o4 kT kP kQ kK ((nT + (1 : Int32)) + (1 : Int32)) mT mP rr ll ((tx ++ [cc]) ++ [cc]) px cP po pk K brk tabs cells par col ls inr rs)
  have O10 := O4.keep Kq8 (allS (gN _ (List.mem_of_getElem? (i := 1) rfl)) (allS (gN _ (List.mem_of_getElem? (i := 2) rfl)) all0))
  have Z11 := Nat.le_trans Z5 Kq8.1
  have K12 := K6.trans Kq8 (allS (Or.inl (List.mem_of_getElem? (i := 1) rfl)) (allS (Or.inl (List.mem_of_getElem? (i := 2) rfl)) all0))
  obtain ⟨cq13, q13a, q13b⟩ := (pj_EH HX9).cell
  obtain ⟨_, _, ⟨T13, L13, k13, n13⟩, -, X13, ⟨Lc13, hQ13, l13, y13, z13⟩, st13⟩ := X8.privateBack hx (y := mN_7) hown (mvT hZ (own_w hw 219 rfl)) (mvT hZ (own_w hw 220 rfl)) (own_selp (y := mN_7) (by decide) (mvT hZ (own_w hw 1 rfl)) (mvP hZ (own_w hw 221 rfl)) (mvT hZ (own_w hw 220 rfl))) (Cond.privateMethod_at (mvP hZ (own_w hw 221 rfl) (args := #[]))) (mvT hZ (own_w hw 222 rfl)) (by decide) (backOf (W := 0) (rmHaS l Z a0 hw [] aH x y (2 : Int32) aT vT aP vP aQ aK ob o1 o2 o3 o4 ((tx ++ [cc]) ++ [cc]) px cP po pk K brk tabs cells par col ls inr rs  cs fm T8.heap n0 Z11 O10 S_CS hcs S_FM hfm (show own_HB Z T8.heap aH aT vT aP vP aQ aK ob o1 o2 o3 o4 ((tx ++ [cc]) ++ [cc]) px cP po pk K brk tabs cells par col ls inr rs from ⟨_, _, _, _, _, _, _, _, _, HX9⟩) D gN (by first | omega | (simp; omega)) hKb hq) hZ (own_w hw 222 rfl) (own_w hw 2 rfl) (by decide) (by decide)) (g := (mkF m 29 #[vR aH, vI cc, vI (2 : Int32), vI x, vI y, vI (2 : Int32)] [(.int (2 : Int32)), (.int y), (.int x), (.ref aH)])) rfl (by rw [hml]; rfl) (Steps.refl _) (a := aH) q13a q13b (argsL := [(.int x), (.int y), (.int (2 : Int32))]) (rest := []) (lenOf pd_15 rfl) rfl (by show 2 * 0 + _ ≤ _; exact Nat.le_of_eq rfl) (hb hby d39_29) (fun _ _ => ⟨rfl, rfl, (by decide : 0 + 0 ≤ rO_16.cells), (by decide : 0 + 0 ≤ rO_16.slots)⟩)
  dsimp only [Pt.U, Pt.locs, Pt.cells, Pt.slots] at X13 l13 y13 z13 st13 hQ13
  subst l13 y13 z13
  obtain ⟨rfl, N13q, Kq13, Hq13⟩ := hQ13
  have N13 := Fr.app N8 N13q
  have O14 := O10.keep Kq13 gN
  have Z15 := Nat.le_trans Z11 Kq13.1
  have K16 := K12.trans Kq13 (fun _ q => Or.inl q)
  obtain ⟨kTq13, kPq13, kQq13, kKq13, nTq13, mTq13, mPq13, rrq13, llq13, HXq13⟩ := Hq13
  have go17 : Goes p e below s₁ (entryFrame m #[(.ref aH), (.int cc), (.int (2 : Int32)), (.int x), (.int y)] 6) T13 (mkF m 32 #[vR aH, vI cc, vI (2 : Int32), vI x, vI y, vI (2 : Int32)] []) := fun t k => by
    refine go0 t ?_
    refine XS.iconst X0.here hx rfl (hb hby d39_0) ?_
    refine XS.istore X0.here hx rfl (hb hby d39_1) rfl (l' := #[vR aH, vI cc, vI (2 : Int32), vI x, vI y, vI (0 : Int32)]) rfl ?_
    refine XS.iload X0.here hx rfl (hb hby d39_3) rfl ?_
    refine XS.iloadN X0.here hx rfl (hb hby d39_5) rfl ?_
    refine XS.icmpNo X0.here hx rfl (hb hby d39_6) rfl (Jvm.Free.XT.ii_ge_f (by decide)) ?_
    refine XS.aloadN X0.here hx rfl (hb hby d39_9) rfl rfl ?_
    show Steps p.tables e below (s₁.setTop (mkF m 10 #[vR aH, vI cc, vI (2 : Int32), vI x, vI y, vI (0 : Int32)] [(.ref aH)])) _
    refine st1 t ?_
    refine XS.iloadN X1.here hx rfl (hb hby d39_13) rfl ?_
    refine st2.trans ?_
    refine XS.pop X2.here hx rfl (hb hby d39_17) rfl rfl ?_
    refine XS.iinc X2.here hx rfl (hb hby d39_18) rfl (l' := #[vR aH, vI cc, vI (2 : Int32), vI x, vI y, vI (1 : Int32)]) rfl ?_
    refine XS.goto X2.here hx rfl (pc0 := 21) (pc' := 3) rfl (hb hby d39_21) (by decide) (by decide) ?_
    show Steps p.tables e below (T2.setTop (mkF m 3 #[vR aH, vI cc, vI (2 : Int32), vI x, vI y, vI (1 : Int32)] [])) _
    refine XS.iload X2.here hx rfl (hb hby d39_3) rfl ?_
    refine XS.iloadN X2.here hx rfl (hb hby d39_5) rfl ?_
    refine XS.icmpNo X2.here hx rfl (hb hby d39_6) rfl (Jvm.Free.XT.ii_ge_f (by decide)) ?_
    refine XS.aloadN X2.here hx rfl (hb hby d39_9) rfl rfl ?_
    refine st7 t ?_
    refine XS.iloadN X7.here hx rfl (hb hby d39_13) rfl ?_
    show Steps p.tables e below (T7.setTop (mkF m 14 #[vR aH, vI cc, vI (2 : Int32), vI x, vI y, vI (1 : Int32)] [(.int cc), (.ref aT)])) _
    refine st8.trans ?_
    refine XS.pop X8.here hx rfl (hb hby d39_17) rfl rfl ?_
    refine XS.iinc X8.here hx rfl (hb hby d39_18) rfl (l' := #[vR aH, vI cc, vI (2 : Int32), vI x, vI y, vI (2 : Int32)]) rfl ?_
    refine XS.goto X8.here hx rfl (pc0 := 21) (pc' := 3) rfl (hb hby d39_21) (by decide) (by decide) ?_
    refine XS.iload X8.here hx rfl (hb hby d39_3) rfl ?_
    refine XS.iloadN X8.here hx rfl (hb hby d39_5) rfl ?_
    show Steps p.tables e below (T8.setTop (mkF m 6 #[vR aH, vI cc, vI (2 : Int32), vI x, vI y, vI (2 : Int32)] [(.int (2 : Int32)), (.int (2 : Int32))])) _
    refine XS.icmpYes X8.here hx rfl (pc0 := 6) (pc' := 24) rfl (hb hby d39_6) rfl (Jvm.Free.XT.ii_ge_t (by decide)) (by decide) (by decide) ?_
    refine XS.aloadN X8.here hx rfl (hb hby d39_24) rfl rfl ?_
    refine XS.iloadN X8.here hx rfl (hb hby d39_25) rfl ?_
    refine XS.iload X8.here hx rfl (hb hby d39_26) rfl ?_
    refine XS.iloadN X8.here hx rfl (hb hby d39_28) rfl ?_
    refine st13.trans ?_
    exact k
  obtain ⟨fs, hr, hrun, hended, hW, hsame⟩ := X13.leave (v := none) (fun _ => rfl)
  refine ⟨_, _, go17 _ ?_, hrun, hended, _, _, rfl, ?_, ⟨_, rfl⟩, hW, hsame.mono (by decide) (by decide)⟩
  · exact X13.returnOut hx Bd.returns (hb hby d39_32) hr
  · show QHap2 Z _ _ _ _ _ _ _ _ _ _ _ _ _ _ _ _ _ _ _ _ _ _ _ _ _ _ _ _ _ _ _ _ _ _ T13.heap _
    exact ⟨rfl, N13, K16, ⟨_, _, _, _, _, _, _, _, _, HXq13⟩⟩
theorem d34_0 : dc34 0 (.aload_n 0) 1 := by decide +kernel
theorem d34_1 : dc34 1 (.iload_n 1) 1 := by decide +kernel
theorem d34_2 : dc34 2 (.iload_n 2) 1 := by decide +kernel
theorem d34_3 : dc34 3 (.iload_n 3) 1 := by decide +kernel
theorem d34_4 : dc34 4 (.invokevirtual 80) 3 := by decide +kernel
theorem d34_7 : dc34 7 (.aload_n 0) 1 := by decide +kernel
theorem d34_8 : dc34 8 (.iconst 1) 1 := by decide +kernel
theorem d34_9 : dc34 9 (.putfield 73) 3 := by decide +kernel
theorem d34_12 : dc34 12 (.aload_n 0) 1 := by decide +kernel
theorem d34_13 : dc34 13 (.dup) 1 := by decide +kernel
theorem d34_14 : dc34 14 (.getfield 86) 3 := by decide +kernel
theorem d34_17 : dc34 17 (.aload_n 0) 1 := by decide +kernel
theorem d34_18 : dc34 18 (.getfield 89) 3 := by decide +kernel
theorem d34_21 : dc34 21 (.ior) 1 := by decide +kernel
theorem d34_22 : dc34 22 (.putfield 86) 3 := by decide +kernel
theorem d34_25 : dc34 25 (.return_) 1 := by decide +kernel
theorem ef_rmHsh (m : MethodId) (aH : Addr) (x : Int32) (y : Int32) (z : Int32) : entryFrame m #[(.ref aH), (.int x), (.int y), (.int z)] 4 = mkF m 0 #[.val (.ref aH), .val (.int x), .val (.int y), .val (.int z)] [] := by first | (simp [entryFrame, mkF, argsToLocals, Value.category]; done) | rfl
def QHsh (Z : State) (aH : Addr) (x : Int32) (y : Int32) (z : Int32) (aT vT aP vP aQ aK ob o1 o2 o3 o4 : Addr) (tx : List Int32) (px : List Int32) (cP : Int32) (po : List Value) (pk : List Value) (K : Nat) (brk : Int32) (tabs : Int32) (cells : Int32) (par : Int32) (col : Int32) (ls : Int32) (rs : Int32) (cs : Int32) (fm : Value) (h0 : Heap) (n0 : Nat) (v : Option Value) (h : Heap) (L : List Loc) : Prop := v = none ∧ Fr n0 L ∧ Keep h0 h [aH, aT, vT, aP, vP, aQ, aK, ob, o1, o2, o3, o4] ∧ own_HB Z h aH aT vT aP vP aQ aK ob o1 o2 o3 o4 tx px cP po pk (K + 1) brk tabs cells par col (1 : Int32) (1 : Int32) (1 : Int32)
set_option maxRecDepth 65536 in
set_option maxHeartbeats 40000000 in
theorem rmHsh (l : Launch) (Z : State) (a0 : Array Value) (hw : ∀ d ∈ tables_1, d.before a0 Z = true) (ws : List Jvm.Cond) (aH : Addr) (x : Int32) (y : Int32) (z : Int32) (aT vT aP vP aQ aK ob o1 o2 o3 o4 : Addr) (tx : List Int32) (px : List Int32) (cP : Int32) (po : List Value) (pk : List Value) (K : Nat) (brk : Int32) (tabs : Int32) (cells : Int32) (par : Int32) (col : Int32) (ls : Int32) (rs : Int32) (cs : Int32) (fm : Value) (h0 : Heap) (n0 : Nat) (Z0 : n0 ≤ h0.size) (O0 : Old Z n0 h0) (S_CS : Sta Z Z.heap "java/lang/String" "COMPACT_STRINGS" "Z" (.int cs)) (hcs : ¬ cs = 0) (S_FM : Sta Z Z.heap "jdk/internal/util/Preconditions" "SIOOBE_FORMATTER" "Ljava/util/function/BiFunction;" fm) (hfm : fm.isRef = true) (HB : own_HB Z h0 aH aT vT aP vP aQ aK ob o1 o2 o3 o4 tx px cP po pk K brk tabs cells par col ls (1 : Int32) rs) (D : List.Nodup [aH, aT, vT, aP, vP, aQ, aK, ob, o1, o2, o3, o4]) (gN : ∀ y ∈ [aH, aT, vT, aP, vP, aQ, aK, ob, o1, o2, o3, o4], n0 ≤ y) (hB : (tx : List Int32).length < 8) (hKb : K < 10) (hq : (y - x) = z) (hrs : rs = 0 ∨ rs = 1) :
    MetFree l mN_27 (head1 (Jvm.Cond.code mN_27 prog_41_method_6_code 4 none :: ws) rO_15) (fun a U => a = #[(.ref aH), (.int x), (.int y), (.int z)] ∧ Z.Warmed39 U.vm ∧ U.heap = h0) (fun _ _ _ _ _ => True) (fun _ U o U' => ∃ v L, o = .returned v ∧ QHsh Z aH x y z aT vT aP vP aQ aK ob o1 o2 o3 o4 tx px cP po pk K brk tabs cells par col ls rs cs fm h0 n0 v U'.heap L ∧ FrameEnd U o U' L rO_15.cells rO_15.slots) := by
  refine MetFree.of_bodySF (plainFor_of_name pn_7) hisR ?_
  intro p e s m args below meth c s₁ Bd hml0 hP hK
  obtain ⟨rfl, hZ, hh⟩ := hP
  have hx := Bd.exec
  have hby := Bd.bytes
  have hml : c.maxLocals = 4 := hml0
  have hown : s.vm.findClass "com/example/whereas/whereas/model/HtmlLayout" = some m.cls := findClass_of_methodNamed Bd.named
  have hnm := (name_of_methodNamed Bd.named Bd.method).1
  have X0 : Stand p l e rO_15 s m #[(.ref aH), (.int x), (.int y), (.int z)] below meth c s₁ [] 0 0 := Stand.of_body Bd
  have e0 : s₁.heap = h0 := by rw [← hh, Bd.state]; rfl
  have N0 := Fr.nil n0
  have K0 := Keep.refl h0 [aH, aT, vT, aP, vP, aQ, aK, ob, o1, o2, o3, o4]
  have go0 : Goes p e below s₁ (entryFrame m #[(.ref aH), (.int x), (.int y), (.int z)] 4) s₁ (mkF m 0 #[vR aH, vI x, vI y, vI z] []) := fun t k => castTop (ef_rmHsh m aH x y z) k
  obtain ⟨kT, kP, kQ, kK, nT, mT, mP, rr, ll, HX0⟩ := HB
  obtain ⟨cq1, q1a, q1b⟩ := (pj_EH HX0).cell
  obtain ⟨_, _, ⟨T1, L1, k1, n1⟩, -, X1, ⟨Lc1, hQ1, l1, y1, z1⟩, st1⟩ := X0.privateBack hx (y := mN_7) hown (mvT hZ (own_w hw 219 rfl)) (mvT hZ (own_w hw 220 rfl)) (own_selp (y := mN_7) (by decide) (mvT hZ (own_w hw 1 rfl)) (mvP hZ (own_w hw 221 rfl)) (mvT hZ (own_w hw 220 rfl))) (Cond.privateMethod_at (mvP hZ (own_w hw 221 rfl) (args := #[]))) (mvT hZ (own_w hw 222 rfl)) (by decide) (backOf (W := 0) (rmHaL l Z a0 hw [] aH x y z aT vT aP vP aQ aK ob o1 o2 o3 o4 tx px cP po pk K brk tabs cells par col ls (1 : Int32) rs  cs fm h0 n0 Z0 O0 S_CS hcs S_FM hfm (show own_HB Z h0 aH aT vT aP vP aQ aK ob o1 o2 o3 o4 tx px cP po pk K brk tabs cells par col ls (1 : Int32) rs from ⟨_, _, _, _, _, _, _, _, _, HX0⟩) D gN hB hKb hq) hZ (own_w hw 222 rfl) (own_w hw 2 rfl) (by decide) (by decide)) (g := (mkF m 4 #[vR aH, vI x, vI y, vI z] [(.int z), (.int y), (.int x), (.ref aH)])) rfl (by rw [hml]; rfl) (Steps.refl _) (a := aH) (by rw [e0]; exact q1a) q1b (argsL := [(.int x), (.int y), (.int z)]) (rest := []) (lenOf pd_15 rfl) rfl (by show 2 * 0 + _ ≤ _; exact Nat.le_of_eq rfl) (hb hby d34_4) (fun _ _ => ⟨rfl, e0, (by decide : 0 + 0 ≤ rO_15.cells), (by decide : 0 + 0 ≤ rO_15.slots)⟩)
  dsimp only [Pt.U, Pt.locs, Pt.cells, Pt.slots] at X1 l1 y1 z1 st1 hQ1
  subst l1 y1 z1
  obtain ⟨rfl, N1q, Kq1, Hq1⟩ := hQ1
  have N1 := Fr.app N0 N1q
  have O2 := O0.keep Kq1 gN
  have Z3 := Nat.le_trans Z0 Kq1.1
  have K4 := K0.trans Kq1 (fun _ q => Or.inl q)
  obtain ⟨kTq1, kPq1, kQq1, kKq1, nTq1, mTq1, mPq1, rrq1, llq1, HXq1⟩ := Hq1
  obtain ⟨T5, h5, X5, e5, W5, st5⟩ := putFN X1 hx hZ hown (own_w hw 98 rfl) Via.refl rfl (pj_FH_lineShows HXq1) (pj_EH HXq1) (Or.inl (own_w hw 99 rfl)) (own_w hw 1 rfl) (ty := .boolean) (v' := (.int (1 : Int32))) (by decide) rfl rfl (g := (mkF m 9 #[vR aH, vI x, vI y, vI z] [(.int (1 : Int32)), (.ref aH)])) rfl rfl (hb hby d34_9)
  have f6 := (pj_FH_lineShows HXq1).same W5
  have O7 := O2.wr W5 (gN _ (List.mem_of_getElem? (i := 0) rfl))
  have Z8 := Nat.le_trans Z3 (Nat.le_of_eq W5.size.symm)
  have K9 := K4.wr W5 (Or.inl (List.mem_of_getElem? (i := 0) rfl))
  have HX10 := hx_w_ls hw HXq1 D W5 f6
  have N11 := Fr.snoc X5 N1 (gN _ (List.mem_of_getElem? (i := 0) rfl))
  obtain ⟨T12, X12, e12, st12⟩ := getF X5 hx hZ hown (host := "") (Or.inl (own_w hw 104 rfl)) Via.refl e5 (pj_FH_rowShows HX10) (g := (mkF m 14 #[vR aH, vI x, vI y, vI z] [(.ref aH), (.ref aH)])) rfl rfl (hb hby d34_14)
  obtain ⟨T13, X13, e13, st13⟩ := getF X12 hx hZ hown (host := "") (Or.inl (own_w hw 100 rfl)) Via.refl e12 (pj_FH_inRow HX10) (g := (mkF m 18 #[vR aH, vI x, vI y, vI z] [(.ref aH), (.int rs), (.ref aH)])) rfl rfl (hb hby d34_18)
  have go14 : Goes p e below s₁ (entryFrame m #[(.ref aH), (.int x), (.int y), (.int z)] 4) T13 (mkF m 22 #[vR aH, vI x, vI y, vI z] [(.int (rs ||| (1 : Int32))), (.ref aH)]) := fun t k => by
    refine go0 t ?_
    refine XS.aloadN X0.here hx rfl (hb hby d34_0) rfl rfl ?_
    refine XS.iloadN X0.here hx rfl (hb hby d34_1) rfl ?_
    refine XS.iloadN X0.here hx rfl (hb hby d34_2) rfl ?_
    refine XS.iloadN X0.here hx rfl (hb hby d34_3) rfl ?_
    refine st1.trans ?_
    refine XS.aloadN X1.here hx rfl (hb hby d34_7) rfl rfl ?_
    show Steps p.tables e below (T1.setTop (mkF m 8 #[vR aH, vI x, vI y, vI z] [(.ref aH)])) _
    refine XS.iconst X1.here hx rfl (hb hby d34_8) ?_
    refine st5 t ?_
    refine XS.aloadN X5.here hx rfl (hb hby d34_12) rfl rfl ?_
    refine XS.dup X5.here hx rfl (hb hby d34_13) rfl rfl ?_
    refine st12 t ?_
    refine XS.aloadN X12.here hx rfl (hb hby d34_17) rfl rfl ?_
    show Steps p.tables e below (T12.setTop (mkF m 18 #[vR aH, vI x, vI y, vI z] [(.ref aH), (.int rs), (.ref aH)])) _
    refine st13 t ?_
    refine XS.ior X13.here hx rfl (hb hby d34_21) rfl ?_
    exact k
  have go15 : Goes p e below s₁ (entryFrame m #[(.ref aH), (.int x), (.int y), (.int z)] 4) T13 (mkF m 22 #[vR aH, vI x, vI y, vI z] [(.int (1 : Int32)), (.ref aH)]) := Eq.mp (congrArg (fun zz => Goes p e below s₁ (entryFrame m #[(.ref aH), (.int x), (.int y), (.int z)] 4) T13 (mkF m 22 #[vR aH, vI x, vI y, vI z] [(.int zz), (.ref aH)])) (own_or1 hrs)) go14
  obtain ⟨T16, h16, X16, e16, W16, st16⟩ := putFN X13 hx hZ hown (own_w hw 104 rfl) Via.refl e13 (pj_FH_rowShows HX10) (pj_EH HX10) (Or.inl (own_w hw 105 rfl)) (own_w hw 1 rfl) (ty := .boolean) (v' := (.int (1 : Int32))) (by decide) rfl rfl (g := (mkF m 22 #[vR aH, vI x, vI y, vI z] [(.int (1 : Int32)), (.ref aH)])) rfl rfl (hb hby d34_22)
  have f17 := (pj_FH_rowShows HX10).same W16
  have O18 := O7.wr W16 (gN _ (List.mem_of_getElem? (i := 0) rfl))
  have Z19 := Nat.le_trans Z8 (Nat.le_of_eq W16.size.symm)
  have K20 := K9.wr W16 (Or.inl (List.mem_of_getElem? (i := 0) rfl))
  have HX21 := hx_w_rs hw HX10 D W16 f17
  have N22 := Fr.snoc X16 N11 (gN _ (List.mem_of_getElem? (i := 0) rfl))
  have go23 : Goes p e below s₁ (entryFrame m #[(.ref aH), (.int x), (.int y), (.int z)] 4) T16 (mkF m 25 #[vR aH, vI x, vI y, vI z] []) := fun t k => by
    refine go15 t ?_
    refine st16 t ?_
    exact k
  obtain ⟨fs, hr, hrun, hended, hW, hsame⟩ := X16.leave (v := none) (fun _ => rfl)
  refine ⟨_, _, go23 _ ?_, hrun, hended, _, _, rfl, ?_, ⟨_, rfl⟩, hW, hsame.mono (by decide) (by decide)⟩
  · exact X16.returnOut hx Bd.returns (hb hby d34_25) hr
  · show QHsh Z _ _ _ _ _ _ _ _ _ _ _ _ _ _ _ _ _ _ _ _ _ _ _ _ _ _ _ _ _ _ _ _ _ T16.heap _
    rw [e16]
    exact ⟨rfl, N22, K20, ⟨_, _, _, _, _, _, _, _, _, HX21⟩⟩
def own_lay (tx : List Int32) (tabs cP kp cq : Int32) : List Int32 := (if tabs = 0 then tx else tx ++ [9]) ++ (if cP = 1 ∧ ¬ kp = 0 then [cq] else [])
theorem own_t0 {t : Int32} (h : t = 0 ∨ t = 1) (q : ¬ (0 : Int32) < t) : t = 0 := by rcases h with h | h; exact h; exact absurd (by rw [h]; decide) q
theorem own_lay_len {tx : List Int32} {tabs cP kp cq : Int32} : (own_lay tx tabs cP kp cq).length ≤ tx.length + 2 := by unfold own_lay; split <;> split <;> simp
theorem own_t1 {t : Int32} (q : (0 : Int32) < t) : ¬ t = 0 := fun e => absurd (e ▸ q) (by decide)
theorem own_t2 {t : Int32} (h : t = 0 ∨ t = 1) (q : (0 : Int32) < t) : t = 1 := h.resolve_left (own_t1 q)
theorem pd_17 : parseMethodDescriptor "(CIII)V" = some ⟨[.char, .int, .int, .int], none⟩ := by decide +kernel
theorem d30_0 : dc30 0 (.aload_n 0) 1 := by decide +kernel
theorem d30_1 : dc30 1 (.getfield 58) 3 := by decide +kernel
theorem d30_4 : dc30 4 (.ifCond .eq 7) 3 := by decide +kernel
theorem d30_11 : dc30 11 (.aload_n 0) 1 := by decide +kernel
theorem d30_12 : dc30 12 (.getfield 62) 3 := by decide +kernel
theorem d30_15 : dc30 15 (.istore_n 2) 1 := by decide +kernel
theorem d30_16 : dc30 16 (.aload_n 0) 1 := by decide +kernel
theorem d30_17 : dc30 17 (.getfield 10) 3 := by decide +kernel
theorem d30_20 : dc30 20 (.invokevirtual 66) 3 := by decide +kernel
theorem d30_23 : dc30 23 (.ifCond .le 16) 3 := by decide +kernel
theorem d30_26 : dc30 26 (.iload_n 2) 1 := by decide +kernel
theorem d30_27 : dc30 27 (.ifCond .le 12) 3 := by decide +kernel
theorem d30_39 : dc30 39 (.aload_n 0) 1 := by decide +kernel
theorem d30_40 : dc30 40 (.iconst 0) 1 := by decide +kernel
theorem d30_41 : dc30 41 (.putfield 58) 3 := by decide +kernel
theorem d30_44 : dc30 44 (.aload_n 0) 1 := by decide +kernel
theorem d30_45 : dc30 45 (.iconst 0) 1 := by decide +kernel
theorem d30_46 : dc30 46 (.putfield 62) 3 := by decide +kernel
theorem d30_49 : dc30 49 (.aload_n 0) 1 := by decide +kernel
theorem d30_50 : dc30 50 (.getfield 70) 3 := by decide +kernel
theorem d30_53 : dc30 53 (.ifCond .le 20) 3 := by decide +kernel
theorem d30_56 : dc30 56 (.aload_n 0) 1 := by decide +kernel
theorem d30_57 : dc30 57 (.bipush 9) 2 := by decide +kernel
theorem d30_59 : dc30 59 (.aload_n 0) 1 := by decide +kernel
theorem d30_60 : dc30 60 (.getfield 70) 3 := by decide +kernel
theorem d30_63 : dc30 63 (.iload_n 1) 1 := by decide +kernel
theorem d30_64 : dc30 64 (.iload_n 1) 1 := by decide +kernel
theorem d30_65 : dc30 65 (.invokevirtual 67) 3 := by decide +kernel
theorem d30_68 : dc30 68 (.aload_n 0) 1 := by decide +kernel
theorem d30_69 : dc30 69 (.iconst 0) 1 := by decide +kernel
theorem d30_70 : dc30 70 (.putfield 70) 3 := by decide +kernel
theorem d30_73 : dc30 73 (.iconst 0) 1 := by decide +kernel
theorem d30_74 : dc30 74 (.istore_n 3) 1 := by decide +kernel
theorem d30_75 : dc30 75 (.iload_n 3) 1 := by decide +kernel
theorem d30_76 : dc30 76 (.aload_n 0) 1 := by decide +kernel
theorem d30_77 : dc30 77 (.getfield 23) 3 := by decide +kernel
theorem d30_80 : dc30 80 (.invokevirtual 66) 3 := by decide +kernel
theorem d30_83 : dc30 83 (.if_icmp .ge 64) 3 := by decide +kernel
theorem d30_86 : dc30 86 (.aload_n 0) 1 := by decide +kernel
theorem d30_87 : dc30 87 (.getfield 73) 3 := by decide +kernel
theorem d30_90 : dc30 90 (.ifCond .ne 12) 3 := by decide +kernel
theorem d30_93 : dc30 93 (.aload_n 0) 1 := by decide +kernel
theorem d30_94 : dc30 94 (.getfield 30) 3 := by decide +kernel
theorem d30_97 : dc30 97 (.iload_n 3) 1 := by decide +kernel
theorem d30_98 : dc30 98 (.baload) 1 := by decide +kernel
theorem d30_99 : dc30 99 (.ifCond .eq 42) 3 := by decide +kernel
theorem d30_102 : dc30 102 (.aload_n 0) 1 := by decide +kernel
theorem d30_103 : dc30 103 (.getfield 10) 3 := by decide +kernel
theorem d30_106 : dc30 106 (.aload_n 0) 1 := by decide +kernel
theorem d30_107 : dc30 107 (.getfield 23) 3 := by decide +kernel
theorem d30_110 : dc30 110 (.iload_n 3) 1 := by decide +kernel
theorem d30_111 : dc30 111 (.invokevirtual 76) 3 := by decide +kernel
theorem d30_114 : dc30 114 (.invokevirtual 38) 3 := by decide +kernel
theorem d30_117 : dc30 117 (.pop) 1 := by decide +kernel
theorem d30_118 : dc30 118 (.aload_n 0) 1 := by decide +kernel
theorem d30_119 : dc30 119 (.aload_n 0) 1 := by decide +kernel
theorem d30_120 : dc30 120 (.getfield 26) 3 := by decide +kernel
theorem d30_123 : dc30 123 (.iconst 2) 1 := by decide +kernel
theorem d30_124 : dc30 124 (.iload_n 3) 1 := by decide +kernel
theorem d30_125 : dc30 125 (.imul) 1 := by decide +kernel
theorem d30_126 : dc30 126 (.iaload) 1 := by decide +kernel
theorem d30_127 : dc30 127 (.aload_n 0) 1 := by decide +kernel
theorem d30_128 : dc30 128 (.getfield 26) 3 := by decide +kernel
theorem d30_131 : dc30 131 (.iconst 2) 1 := by decide +kernel
theorem d30_132 : dc30 132 (.iload_n 3) 1 := by decide +kernel
theorem d30_133 : dc30 133 (.imul) 1 := by decide +kernel
theorem d30_134 : dc30 134 (.iconst 1) 1 := by decide +kernel
theorem d30_135 : dc30 135 (.iadd) 1 := by decide +kernel
theorem d30_136 : dc30 136 (.iaload) 1 := by decide +kernel
theorem d30_137 : dc30 137 (.iconst 1) 1 := by decide +kernel
theorem d30_138 : dc30 138 (.invokevirtual 80) 3 := by decide +kernel
theorem d30_141 : dc30 141 (.iinc 3 1) 3 := by decide +kernel
theorem d30_144 : dc30 144 (.goto (-69)) 3 := by decide +kernel
theorem d30_147 : dc30 147 (.aload_n 0) 1 := by decide +kernel
theorem d30_148 : dc30 148 (.invokevirtual 83) 3 := by decide +kernel
theorem d30_151 : dc30 151 (.return_) 1 := by decide +kernel
theorem ef_rmHl (m : MethodId) (aH : Addr) (x : Int32) : entryFrame m #[(.ref aH), (.int x)] 4 = mkF m 0 #[.val (.ref aH), .val (.int x), .unset, .unset] [] := by first | (simp [entryFrame, mkF, argsToLocals, Value.category]; done) | rfl
def QHl (Z : State) (aH : Addr) (x : Int32) (aT vT aP vP aQ aK ob o1 o2 o3 o4 : Addr) (tx : List Int32) (px : List Int32) (cP : Int32) (po : List Value) (pk : List Value) (K : Nat) (tabs : Int32) (cells : Int32) (col : Int32) (inr : Int32) (rs : Int32) (cq kp : Int32) (cs : Int32) (fm : Value) (h0 : Heap) (n0 : Nat) (v : Option Value) (h : Heap) (L : List Loc) : Prop := v = none ∧ Fr n0 L ∧ Keep h0 h [aH, aT, vT, aP, vP, aQ, aK, ob, o1, o2, o3, o4] ∧ own_HB Z h aH aT vT aP vP aQ aK ob o1 o2 o3 o4 (own_lay tx tabs cP kp cq) px (0 : Int32) po pk ((K + 1) + 1) (0 : Int32) (0 : Int32) cells (0 : Int32) (0 : Int32) (0 : Int32) inr rs
set_option maxRecDepth 65536 in
set_option maxHeartbeats 40000000 in
theorem rmHl (l : Launch) (Z : State) (a0 : Array Value) (hw : ∀ d ∈ tables_1, d.before a0 Z = true) (ws : List Jvm.Cond) (aH : Addr) (x : Int32) (aT vT aP vP aQ aK ob o1 o2 o3 o4 : Addr) (tx : List Int32) (px : List Int32) (cP : Int32) (po : List Value) (pk : List Value) (K : Nat) (tabs : Int32) (cells : Int32) (col : Int32) (inr : Int32) (rs : Int32) (cq kp : Int32) (cs : Int32) (fm : Value) (h0 : Heap) (n0 : Nat) (Z0 : n0 ≤ h0.size) (O0 : Old Z n0 h0) (S_CS : Sta Z Z.heap "java/lang/String" "COMPACT_STRINGS" "Z" (.int cs)) (hcs : ¬ cs = 0) (S_FM : Sta Z Z.heap "jdk/internal/util/Preconditions" "SIOOBE_FORMATTER" "Ljava/util/function/BiFunction;" fm) (hfm : fm.isRef = true) (HB : own_HB Z h0 aH aT vT aP vP aQ aK ob o1 o2 o3 o4 tx px cP po pk K (0 : Int32) tabs cells (0 : Int32) col (0 : Int32) inr rs) (D : List.Nodup [aH, aT, vT, aP, vP, aQ, aK, ob, o1, o2, o3, o4]) (gN : ∀ y ∈ [aH, aT, vT, aP, vP, aQ, aK, ob, o1, o2, o3, o4], n0 ≤ y) (hB : (tx : List Int32).length < 8) (hKb : K < 10) (hB2 : tx.length < 4) (hK2 : K < 5) (htb : tabs = 0 ∨ tabs = 1) (hcq : ¬ cq < 0 ∧ ¬ (255 : Int32) < cq) (hpd : cP = 0 ∨ (cP = 1 ∧ px = [cq] ∧ po = [(.int (1 : Int32)), (.int (2 : Int32)), (.int (0 : Int32)), (.int (0 : Int32)), (.int (0 : Int32)), (.int (0 : Int32)), (.int (0 : Int32)), (.int (0 : Int32))] ∧ pk = [(.int kp), (.int (0 : Int32)), (.int (0 : Int32)), (.int (0 : Int32))])) :
    MetFree l mN_28 (head1 (Jvm.Cond.code mN_28 prog_41_method_5_code 4 none :: ws) rO_21) (fun a U => a = #[(.ref aH), (.int x)] ∧ Z.Warmed39 U.vm ∧ U.heap = h0) (fun _ _ _ _ _ => True) (fun _ U o U' => ∃ v L, o = .returned v ∧ QHl Z aH x aT vT aP vP aQ aK ob o1 o2 o3 o4 tx px cP po pk K tabs cells col inr rs cq kp cs fm h0 n0 v U'.heap L ∧ FrameEnd U o U' L rO_21.cells rO_21.slots) := by
  refine MetFree.of_bodySF (plainFor_of_name pn_7) hisR ?_
  intro p e s m args below meth c s₁ Bd hml0 hP hK
  obtain ⟨rfl, hZ, hh⟩ := hP
  have hx := Bd.exec
  have hby := Bd.bytes
  have hml : c.maxLocals = 4 := hml0
  have hown : s.vm.findClass "com/example/whereas/whereas/model/HtmlLayout" = some m.cls := findClass_of_methodNamed Bd.named
  have hnm := (name_of_methodNamed Bd.named Bd.method).1
  have X0 : Stand p l e rO_21 s m #[(.ref aH), (.int x)] below meth c s₁ [] 0 0 := Stand.of_body Bd
  have e0 : s₁.heap = h0 := by rw [← hh, Bd.state]; rfl
  have N0 := Fr.nil n0
  have K0 := Keep.refl h0 [aH, aT, vT, aP, vP, aQ, aK, ob, o1, o2, o3, o4]
  have go0 : Goes p e below s₁ (entryFrame m #[(.ref aH), (.int x)] 4) s₁ (mkF m 0 #[vR aH, vI x, .unset, .unset] []) := fun t k => castTop (ef_rmHl m aH x) k
  obtain ⟨kT, kP, kQ, kK, nT, mT, mP, rr, ll, HX0⟩ := HB
  obtain ⟨T1, X1, e1, st1⟩ := getF X0 hx hZ hown (host := "") (Or.inl (own_w hw 197 rfl)) Via.refl e0 (pj_FH_paragraph HX0) (g := (mkF m 1 #[vR aH, vI x, .unset, .unset] [(.ref aH)])) rfl rfl (hb hby d30_1)
  obtain ⟨T2, X2, e2, st2⟩ := getF X1 hx hZ hown (host := "") (Or.inl (own_w hw 199 rfl)) Via.refl e1 (pj_FH_breaks HX0) (g := (mkF m 12 #[vR aH, vI x, .unset, .unset] [(.ref aH)])) rfl rfl (hb hby d30_12)
  obtain ⟨T3, X3, e3, st3⟩ := getF X2 hx hZ hown (host := "") (Or.inl (own_w hw 29 rfl)) Via.refl e2 (pj_FH_text HX0) (g := (mkF m 17 #[vR aH, vI x, vI (0 : Int32), .unset] [(.ref aH)])) rfl rfl (hb hby d30_17)
  obtain ⟨cq4, kq4, q4a, q4b, q4c⟩ := isOf hZ e3 (pj_EsT_ HX0)
  obtain ⟨_, _, ⟨T4, L4, k4, n4⟩, -, X4, ⟨Lc4, hQ4, l4, y4, z4⟩, st4⟩ := X3.virtualBack hx (y := mN_0) (z := mN_0) hown (mvT hZ (own_w hw 66 rfl)) (mvT hZ (own_w hw 67 rfl)) (notFace_of_selects (args := #[]) (mvT hZ (own_w hw 69 rfl))) (mvT hZ (own_w hw 69 rfl)) (mvT hZ (own_w hw 68 rfl)) (by decide) (backOf (W := 0) (rmSl l Z a0 hw [] aT nT h0 n0 Z0 (pj_EsT_ HX0) (pj_FnT_ HX0)) hZ (own_w hw 70 rfl) (own_w hw 11 rfl) (by decide) (by decide)) q4a q4c (g := (mkF m 20 #[vR aH, vI x, vI (0 : Int32), .unset] [(.ref aT)])) rfl (by rw [hml]; rfl) (Steps.refl _) (argsL := []) (rest := []) (lenOf pd_4 rfl) rfl (by show 2 * 0 + _ ≤ _; exact Nat.le_of_eq rfl) (hb hby d30_20) (fun _ _ => ⟨rfl, e3, (by decide : 0 + 0 ≤ rO_21.cells), (by decide : 0 + 0 ≤ rO_21.slots)⟩)
  dsimp only [Pt.U, Pt.locs, Pt.cells, Pt.slots] at X4 l4 y4 z4 st4 hQ4
  subst l4 y4 z4
  obtain ⟨rfl, N4q, e4⟩ := hQ4
  have N4 := Fr.app N0 N4q
  have go5 : Goes p e below s₁ (entryFrame m #[(.ref aH), (.int x)] 4) T4 (mkF m 23 #[vR aH, vI x, vI (0 : Int32), .unset] [(.int nT)]) := fun t k => by
    refine go0 t ?_
    refine XS.aloadN X0.here hx rfl (hb hby d30_0) rfl rfl ?_
    refine st1 t ?_
    refine XS.ifYes X1.here hx rfl (pc0 := 4) (pc' := 11) rfl (hb hby d30_4) rfl (Jvm.Free.XT.i0_eq_t (by decide)) (by decide) (by decide) ?_
    refine XS.aloadN X1.here hx rfl (hb hby d30_11) rfl rfl ?_
    refine st2 t ?_
    refine XS.istoreN X2.here hx rfl (hb hby d30_15) rfl (l' := #[vR aH, vI x, vI (0 : Int32), .unset]) rfl ?_
    show Steps p.tables e below (T2.setTop (mkF m 16 #[vR aH, vI x, vI (0 : Int32), .unset] [])) _
    refine XS.aloadN X2.here hx rfl (hb hby d30_16) rfl rfl ?_
    refine st3 t ?_
    refine st4.trans ?_
    exact k
  obtain ⟨T6, bk2, X6, e6, hj6, go6j⟩ : ∃ (T' : State) (bk2 : Int32), Stand p l e rO_21 s m #[(.ref aH), (.int x)] below meth c T' L4 0 0 ∧ T'.heap = h0 ∧ (True) ∧ Goes p e below s₁ (entryFrame m #[(.ref aH), (.int x)] 4) T' (mkF m 39 #[vR aH, vI x, vI bk2, .unset] []) := by
    by_cases hc7 : (0 : Int32) < nT
    · have go8 : Goes p e below s₁ (entryFrame m #[(.ref aH), (.int x)] 4) T4 (mkF m 39 #[vR aH, vI x, vI (0 : Int32), .unset] []) := fun t k => by
        refine go5 t ?_
        refine XS.ifNo X4.here hx rfl (hb hby d30_23) rfl (Jvm.Free.XT.i0_le_f hc7) ?_
        refine XS.iloadN X4.here hx rfl (hb hby d30_26) rfl ?_
        refine XS.ifYes X4.here hx rfl (pc0 := 27) (pc' := 39) rfl (hb hby d30_27) rfl (Jvm.Free.XT.i0_le_t (by decide)) (by decide) (by decide) ?_
        exact k
      exact ⟨T4, (0 : Int32), X4, e4, trivial, go8⟩
    · have go9 : Goes p e below s₁ (entryFrame m #[(.ref aH), (.int x)] 4) T4 (mkF m 39 #[vR aH, vI x, vI (0 : Int32), .unset] []) := fun t k => by
        refine go5 t ?_
        refine XS.ifYes X4.here hx rfl (pc0 := 23) (pc' := 39) rfl (hb hby d30_23) rfl (Jvm.Free.XT.i0_le_t hc7) (by decide) (by decide) ?_
        exact k
      exact ⟨T4, (0 : Int32), X4, e4, trivial, go9⟩
  obtain ⟨T10, h10, X10, e10, W10, st10⟩ := putFN X6 hx hZ hown (own_w hw 197 rfl) Via.refl e6 (pj_FH_paragraph HX0) (pj_EH HX0) (Or.inl (own_w hw 198 rfl)) (own_w hw 1 rfl) (ty := .boolean) (v' := (.int (0 : Int32))) (by decide) rfl rfl (g := (mkF m 41 #[vR aH, vI x, vI bk2, .unset] [(.int (0 : Int32)), (.ref aH)])) rfl rfl (hb hby d30_41)
  have f11 := (pj_FH_paragraph HX0).same W10
  have O12 := O0.wr W10 (gN _ (List.mem_of_getElem? (i := 0) rfl))
  have Z13 := Nat.le_trans Z0 (Nat.le_of_eq W10.size.symm)
  have K14 := K0.wr W10 (Or.inl (List.mem_of_getElem? (i := 0) rfl))
  have HX15 := hx_w_par hw HX0 D W10 f11
  have N16 := Fr.snoc X10 N4 (gN _ (List.mem_of_getElem? (i := 0) rfl))
  obtain ⟨T17, h17, X17, e17, W17, st17⟩ := putF X10 hx hZ hown (host := "") (Or.inl (own_w hw 199 rfl)) Via.refl e10 (pj_FH_breaks HX15) (pj_EH HX15) (Or.inl (own_w hw 200 rfl)) (own_w hw 1 rfl) (ty := .int) (by decide) rfl rfl (g := (mkF m 46 #[vR aH, vI x, vI bk2, .unset] [(.int (0 : Int32)), (.ref aH)])) rfl rfl (hb hby d30_46)
  have f18 := (pj_FH_breaks HX15).same W17
  have O19 := O12.wr W17 (gN _ (List.mem_of_getElem? (i := 0) rfl))
  have Z20 := Nat.le_trans Z13 (Nat.le_of_eq W17.size.symm)
  have K21 := K14.wr W17 (Or.inl (List.mem_of_getElem? (i := 0) rfl))
  have HX22 := hx_w_brk hw HX15 D W17 f18
  have N23 := Fr.snoc X17 N16 (gN _ (List.mem_of_getElem? (i := 0) rfl))
  obtain ⟨T24, X24, e24, st24⟩ := getF X17 hx hZ hown (host := "") (Or.inl (own_w hw 102 rfl)) Via.refl e17 (pj_FH_tabs HX22) (g := (mkF m 50 #[vR aH, vI x, vI bk2, .unset] [(.ref aH)])) rfl rfl (hb hby d30_50)
  have go25 : Goes p e below s₁ (entryFrame m #[(.ref aH), (.int x)] 4) T24 (mkF m 53 #[vR aH, vI x, vI bk2, .unset] [(.int tabs)]) := fun t k => by
    refine go6j t ?_
    refine XS.aloadN X6.here hx rfl (hb hby d30_39) rfl rfl ?_
    refine XS.iconst X6.here hx rfl (hb hby d30_40) ?_
    refine st10 t ?_
    refine XS.aloadN X10.here hx rfl (hb hby d30_44) rfl rfl ?_
    refine XS.iconst X10.here hx rfl (hb hby d30_45) ?_
    refine st17 t ?_
    show Steps p.tables e below (T17.setTop (mkF m 49 #[vR aH, vI x, vI bk2, .unset] [])) _
    refine XS.aloadN X17.here hx rfl (hb hby d30_49) rfl rfl ?_
    refine st24 t ?_
    exact k
  obtain ⟨T26, h26, lo26, txj, X26, e26, Z26, N26, O26, K26, Hj26, hj26, go26j⟩ : ∃ (T' : State) (h' : Heap) (lo' : List Loc) (txj : List Int32), Stand p l e rO_21 s m #[(.ref aH), (.int x)] below meth c T' lo' 0 0 ∧ T'.heap = h' ∧ n0 ≤ h'.size ∧ Fr n0 lo' ∧ Old Z n0 h' ∧ Keep h0 h' [aH, aT, vT, aP, vP, aQ, aK, ob, o1, o2, o3, o4] ∧ own_HB Z h' aH aT vT aP vP aQ aK ob o1 o2 o3 o4 txj px cP po pk (K + 1) (0 : Int32) (0 : Int32) cells (0 : Int32) col (0 : Int32) inr rs ∧ (txj = (if tabs = 0 then tx else tx ++ [9])) ∧ Goes p e below s₁ (entryFrame m #[(.ref aH), (.int x)] 4) T' (mkF m 73 #[vR aH, vI x, vI bk2, .unset] []) := by
    by_cases hc27 : (0 : Int32) < tabs
    · obtain ⟨T28, X28, e28, st28⟩ := getF X24 hx hZ hown (host := "") (Or.inl (own_w hw 102 rfl)) Via.refl e24 (pj_FH_tabs HX22) (g := (mkF m 60 #[vR aH, vI x, vI bk2, .unset] [(.ref aH), (.int (9 : Int32)), (.ref aH)])) rfl rfl (hb hby d30_60)
      have go29 : Goes p e below s₁ (entryFrame m #[(.ref aH), (.int x)] 4) T28 (mkF m 65 #[vR aH, vI x, vI bk2, .unset] [(.int x), (.int x), (.int tabs), (.int (9 : Int32)), (.ref aH)]) := fun t k => by
        refine go25 t ?_
        refine XS.ifNo X24.here hx rfl (hb hby d30_53) rfl (Jvm.Free.XT.i0_le_f hc27) ?_
        refine XS.aloadN X24.here hx rfl (hb hby d30_56) rfl rfl ?_
        refine XS.bipush X24.here hx rfl (hb hby d30_57) ?_
        refine XS.aloadN X24.here hx rfl (hb hby d30_59) rfl rfl ?_
        refine st28 t ?_
        refine XS.iloadN X28.here hx rfl (hb hby d30_63) rfl ?_
        show Steps p.tables e below (T28.setTop (mkF m 64 #[vR aH, vI x, vI bk2, .unset] [(.int x), (.int tabs), (.int (9 : Int32)), (.ref aH)])) _
        refine XS.iloadN X28.here hx rfl (hb hby d30_64) rfl ?_
        exact k
      have go30 : Goes p e below s₁ (entryFrame m #[(.ref aH), (.int x)] 4) T28 (mkF m 65 #[vR aH, vI x, vI bk2, .unset] [(.int x), (.int x), (.int (1 : Int32)), (.int (9 : Int32)), (.ref aH)]) := Eq.mp (congrArg (fun zz => Goes p e below s₁ (entryFrame m #[(.ref aH), (.int x)] 4) T28 (mkF m 65 #[vR aH, vI x, vI bk2, .unset] [(.int x), (.int x), (.int zz), (.int (9 : Int32)), (.ref aH)])) (own_t2 htb hc27)) go29
      obtain ⟨cq31, q31a, q31b⟩ := (pj_EH HX22).cell
      obtain ⟨_, _, ⟨T31, L31, k31, n31⟩, -, X31, ⟨Lc31, hQ31, l31, y31, z31⟩, st31⟩ := X28.privateBack hx (y := mN_8) hown (mvT hZ (own_w hw 241 rfl)) (mvT hZ (own_w hw 242 rfl)) (own_selp (y := mN_8) (by decide) (mvT hZ (own_w hw 1 rfl)) (mvP hZ (own_w hw 243 rfl)) (mvT hZ (own_w hw 242 rfl))) (Cond.privateMethod_at (mvP hZ (own_w hw 243 rfl) (args := #[]))) (mvT hZ (own_w hw 244 rfl)) (by decide) (backOf (W := 0) (rmHap1 l Z a0 hw [] aH (9 : Int32) x x aT vT aP vP aQ aK ob o1 o2 o3 o4 tx px cP po pk K (0 : Int32) tabs cells (0 : Int32) col (0 : Int32) inr rs  cs fm h17 n0 Z20 O19 S_CS hcs S_FM hfm (show own_HB Z h17 aH aT vT aP vP aQ aK ob o1 o2 o3 o4 tx px cP po pk K (0 : Int32) tabs cells (0 : Int32) col (0 : Int32) inr rs from ⟨_, _, _, _, _, _, _, _, _, HX22⟩) D gN hB hKb ⟨by decide, by decide⟩ (own_xx x (1 : Int32) (by decide)) (by omega)) hZ (own_w hw 244 rfl) (own_w hw 2 rfl) (by decide) (by decide)) (g := (mkF m 65 #[vR aH, vI x, vI bk2, .unset] [(.int x), (.int x), (.int (1 : Int32)), (.int (9 : Int32)), (.ref aH)])) rfl (by rw [hml]; rfl) (Steps.refl _) (a := aH) (by rw [e28]; exact q31a) q31b (argsL := [(.int (9 : Int32)), (.int (1 : Int32)), (.int x), (.int x)]) (rest := []) (lenOf pd_17 rfl) rfl (by show 2 * 0 + _ ≤ _; exact Nat.le_of_eq rfl) (hb hby d30_65) (fun _ _ => ⟨rfl, e28, (by decide : 0 + 0 ≤ rO_21.cells), (by decide : 0 + 0 ≤ rO_21.slots)⟩)
      dsimp only [Pt.U, Pt.locs, Pt.cells, Pt.slots] at X31 l31 y31 z31 st31 hQ31
      subst l31 y31 z31
      obtain ⟨rfl, N31q, Kq31, Hq31⟩ := hQ31
      have N31 := Fr.app N23 N31q
      have O32 := O19.keep Kq31 gN
      have Z33 := Nat.le_trans Z20 Kq31.1
      have K34 := K21.trans Kq31 (fun _ q => Or.inl q)
      obtain ⟨kTq31, kPq31, kQq31, kKq31, nTq31, mTq31, mPq31, rrq31, llq31, HXq31⟩ := Hq31
      obtain ⟨T35, h35, X35, e35, W35, st35⟩ := putF X31 hx hZ hown (host := "") (Or.inl (own_w hw 102 rfl)) Via.refl rfl (pj_FH_tabs HXq31) (pj_EH HXq31) (Or.inl (own_w hw 103 rfl)) (own_w hw 1 rfl) (ty := .int) (by decide) rfl rfl (g := (mkF m 70 #[vR aH, vI x, vI bk2, .unset] [(.int (0 : Int32)), (.ref aH)])) rfl rfl (hb hby d30_70)
      have f36 := (pj_FH_tabs HXq31).same W35
      have O37 := O32.wr W35 (gN _ (List.mem_of_getElem? (i := 0) rfl))
      have Z38 := Nat.le_trans Z33 (Nat.le_of_eq W35.size.symm)
      have K39 := K34.wr W35 (Or.inl (List.mem_of_getElem? (i := 0) rfl))
      have HX40 := hx_w_tabs hw HXq31 D W35 f36
      have N41 := Fr.snoc X35 N31 (gN _ (List.mem_of_getElem? (i := 0) rfl))
      have go42 : Goes p e below s₁ (entryFrame m #[(.ref aH), (.int x)] 4) T35 (mkF m 73 #[vR aH, vI x, vI bk2, .unset] []) := fun t k => by
        refine go30 t ?_
        refine st31.trans ?_
        refine XS.aloadN X31.here hx rfl (hb hby d30_68) rfl rfl ?_
        refine XS.iconst X31.here hx rfl (hb hby d30_69) ?_
        refine st35 t ?_
        exact k
      exact ⟨T35, h35, _, (tx ++ [(9 : Int32)]), X35, e35, Z38, N41, O37, K39, ⟨_, _, _, _, _, _, _, _, _, HX40⟩, (if_neg (own_t1 hc27)).symm, go42⟩
    · have go43 : Goes p e below s₁ (entryFrame m #[(.ref aH), (.int x)] 4) T24 (mkF m 73 #[vR aH, vI x, vI bk2, .unset] []) := fun t k => by
        refine go25 t ?_
        refine XS.ifYes X24.here hx rfl (pc0 := 53) (pc' := 73) rfl (hb hby d30_53) rfl (Jvm.Free.XT.i0_le_t hc27) (by decide) (by decide) ?_
        exact k
      have HX44 := hx_up HX22
      have ht0 : tabs = 0 := own_t0 htb hc27
      have HX45 := (ht0 ▸ HX44 : own_HX Z h17 aH aT vT aP vP aQ aK ob o1 o2 o3 o4 kT kP kQ kK nT mT mP rr ll tx px cP po pk (K + 1) (0 : Int32) (0 : Int32) cells (0 : Int32) col (0 : Int32) inr rs)
      exact ⟨T24, h17, _, tx, X24, e24, Z20, N23, O19, K21, ⟨_, _, _, _, _, _, _, _, _, HX45⟩, (if_pos ht0).symm, go43⟩
  obtain ⟨kTj26, kPj26, kQj26, kKj26, nTj26, mTj26, mPj26, rrj26, llj26, HXj26⟩ := Hj26
  have hBj : txj.length < 5 := by rw [hj26]; split <;> first | omega | (simp; omega)
  obtain ⟨T46, X46, e46, st46⟩ := getF X26 hx hZ hown (host := "") (Or.inl (own_w hw 50 rfl)) Via.refl e26 (pj_FH_pending HXj26) (g := (mkF m 77 #[vR aH, vI x, vI bk2, vI (0 : Int32)] [(.ref aH), (.int (0 : Int32))])) rfl rfl (hb hby d30_77)
  have go47 : Goes p e below s₁ (entryFrame m #[(.ref aH), (.int x)] 4) T46 (mkF m 80 #[vR aH, vI x, vI bk2, vI (0 : Int32)] [(.ref aP), (.int (0 : Int32))]) := fun t k => by
    refine go26j t ?_
    refine XS.iconst X26.here hx rfl (hb hby d30_73) ?_
    refine XS.istoreN X26.here hx rfl (hb hby d30_74) rfl (l' := #[vR aH, vI x, vI bk2, vI (0 : Int32)]) rfl ?_
    refine XS.iloadN X26.here hx rfl (hb hby d30_75) rfl ?_
    refine XS.aloadN X26.here hx rfl (hb hby d30_76) rfl rfl ?_
    refine st46 t ?_
    exact k
  rcases hpd with hc0 | ⟨hc1, hpx, hpo, hpk⟩
  · have HX48 := (hc0 ▸ HXj26 : own_HX Z h26 aH aT vT aP vP aQ aK ob o1 o2 o3 o4 kTj26 kPj26 kQj26 kKj26 nTj26 mTj26 mPj26 rrj26 llj26 txj px (0 : Int32) po pk (K + 1) (0 : Int32) (0 : Int32) cells (0 : Int32) col (0 : Int32) inr rs)
    obtain ⟨cq49, kq49, q49a, q49b, q49c⟩ := isOf hZ e46 (pj_EsP_ HX48)
    obtain ⟨_, _, ⟨T49, L49, k49, n49⟩, -, X49, ⟨Lc49, hQ49, l49, y49, z49⟩, st49⟩ := X46.virtualBack hx (y := mN_0) (z := mN_0) hown (mvT hZ (own_w hw 66 rfl)) (mvT hZ (own_w hw 67 rfl)) (notFace_of_selects (args := #[]) (mvT hZ (own_w hw 69 rfl))) (mvT hZ (own_w hw 69 rfl)) (mvT hZ (own_w hw 68 rfl)) (by decide) (backOf (W := 1) (rmSl l Z a0 hw [] aP (0 : Int32) h26 n0 Z26 (pj_EsP_ HX48) (pj_FnP_ HX48)) hZ (own_w hw 70 rfl) (own_w hw 11 rfl) (by decide) (by decide)) q49a q49c (g := (mkF m 80 #[vR aH, vI x, vI bk2, vI (0 : Int32)] [(.ref aP), (.int (0 : Int32))])) rfl (by rw [hml]; rfl) (Steps.refl _) (argsL := []) (rest := [(.int (0 : Int32))]) (lenOf pd_4 rfl) rfl (by show 2 * 0 + _ ≤ _; exact Nat.le_of_eq rfl) (hb hby d30_80) (fun _ _ => ⟨rfl, e46, (by decide : 0 + 0 ≤ rO_21.cells), (by decide : 0 + 0 ≤ rO_21.slots)⟩)
    dsimp only [Pt.U, Pt.locs, Pt.cells, Pt.slots] at X49 l49 y49 z49 st49 hQ49
    subst l49 y49 z49
    obtain ⟨rfl, N49q, e49⟩ := hQ49
    have N49 := Fr.app N26 N49q
    obtain ⟨cq50, q50a, q50b⟩ := (pj_EH HX48).cell
    obtain ⟨_, _, ⟨T50, L50, k50, n50⟩, -, X50, ⟨Lc50, hQ50, l50, y50, z50⟩, st50⟩ := X49.privateBack hx (y := mN_3) hown (mvT hZ (own_w hw 78 rfl)) (mvT hZ (own_w hw 79 rfl)) (own_selp (y := mN_3) (by decide) (mvT hZ (own_w hw 1 rfl)) (mvP hZ (own_w hw 80 rfl)) (mvT hZ (own_w hw 79 rfl))) (Cond.privateMethod_at (mvP hZ (own_w hw 80 rfl) (args := #[]))) (mvT hZ (own_w hw 81 rfl)) (by decide) (backOf (W := 0) (rmHcl l Z a0 hw [] aH  aT vT aP vP aQ aK ob o1 o2 o3 o4 txj px (0 : Int32) po pk (K + 1) (0 : Int32) (0 : Int32) cells (0 : Int32) col (0 : Int32) inr rs [] cs fm h26 n0 Z26 O26 S_CS hcs S_FM hfm (show own_HB Z h26 aH aT vT aP vP aQ aK ob o1 o2 o3 o4 txj px (0 : Int32) po pk (K + 1) (0 : Int32) (0 : Int32) cells (0 : Int32) col (0 : Int32) inr rs from ⟨_, _, _, _, _, _, _, _, _, HX48⟩) D gN (by first | omega | (simp; omega)) (by omega) own_ln0) hZ (own_w hw 81 rfl) (own_w hw 2 rfl) (by decide) (by decide)) (g := (mkF m 148 #[vR aH, vI x, vI bk2, vI (0 : Int32)] [(.ref aH)])) rfl (by rw [hml]; rfl) (Steps.refl _) (a := aH) (by rw [e49]; exact q50a) q50b (argsL := []) (rest := []) (lenOf pd_14 rfl) rfl (by show 2 * 0 + _ ≤ _; exact Nat.le_of_eq rfl) (hb hby d30_148) (fun _ _ => ⟨rfl, e49, (by decide : 0 + 0 ≤ rO_21.cells), (by decide : 0 + 0 ≤ rO_21.slots)⟩)
    dsimp only [Pt.U, Pt.locs, Pt.cells, Pt.slots] at X50 l50 y50 z50 st50 hQ50
    subst l50 y50 z50
    obtain ⟨rfl, N50q, Kq50, Hq50⟩ := hQ50
    have N50 := Fr.app N49 N50q
    have O51 := O26.keep Kq50 gN
    have Z52 := Nat.le_trans Z26 Kq50.1
    have K53 := K26.trans Kq50 (fun _ q => Or.inl q)
    obtain ⟨kTq50, kPq50, kQq50, kKq50, nTq50, mTq50, mPq50, rrq50, llq50, HXq50⟩ := Hq50
    have go54 : Goes p e below s₁ (entryFrame m #[(.ref aH), (.int x)] 4) T50 (mkF m 151 #[vR aH, vI x, vI bk2, vI (0 : Int32)] []) := fun t k => by
      refine go47 t ?_
      refine st49.trans ?_
      refine XS.icmpYes X49.here hx rfl (pc0 := 83) (pc' := 147) rfl (hb hby d30_83) rfl (Jvm.Free.XT.ii_ge_t (by decide)) (by decide) (by decide) ?_
      refine XS.aloadN X49.here hx rfl (hb hby d30_147) rfl rfl ?_
      refine st50.trans ?_
      exact k
    obtain ⟨fs, hr, hrun, hended, hW, hsame⟩ := X50.leave (v := none) (fun _ => rfl)
    have HX55 := hx_up HXq50
    have hlay : own_lay tx tabs cP kp cq = txj := by rw [hj26]; simp [own_lay, hc0]
    refine ⟨_, _, go54 _ ?_, hrun, hended, _, _, rfl, ?_, ⟨_, rfl⟩, hW, hsame.mono (by decide) (by decide)⟩
    · exact X50.returnOut hx Bd.returns (hb hby d30_151) hr
    · show QHl Z _ _ _ _ _ _ _ _ _ _ _ _ _ _ _ _ _ _ _ _ _ _ _ _ _ _ _ _ _ _ _ T50.heap _
      exact ⟨rfl, N50, K53, by rw [hlay]; exact ⟨_, _, _, _, _, _, _, _, _, HX55⟩⟩
  · have HX56 := (by have q := HXj26; rw [hc1, hpx, hpo, hpk] at q; exact q : own_HX Z h26 aH aT vT aP vP aQ aK ob o1 o2 o3 o4 kTj26 kPj26 kQj26 kKj26 nTj26 mTj26 mPj26 rrj26 llj26 txj [cq] (1 : Int32) [(.int (1 : Int32)), (.int (2 : Int32)), (.int (0 : Int32)), (.int (0 : Int32)), (.int (0 : Int32)), (.int (0 : Int32)), (.int (0 : Int32)), (.int (0 : Int32))] [(.int kp), (.int (0 : Int32)), (.int (0 : Int32)), (.int (0 : Int32))] (K + 1) (0 : Int32) (0 : Int32) cells (0 : Int32) col (0 : Int32) inr rs)
    obtain ⟨cq57, kq57, q57a, q57b, q57c⟩ := isOf hZ e46 (pj_EsP_ HX56)
    obtain ⟨_, _, ⟨T57, L57, k57, n57⟩, -, X57, ⟨Lc57, hQ57, l57, y57, z57⟩, st57⟩ := X46.virtualBack hx (y := mN_0) (z := mN_0) hown (mvT hZ (own_w hw 66 rfl)) (mvT hZ (own_w hw 67 rfl)) (notFace_of_selects (args := #[]) (mvT hZ (own_w hw 69 rfl))) (mvT hZ (own_w hw 69 rfl)) (mvT hZ (own_w hw 68 rfl)) (by decide) (backOf (W := 1) (rmSl l Z a0 hw [] aP (1 : Int32) h26 n0 Z26 (pj_EsP_ HX56) (pj_FnP_ HX56)) hZ (own_w hw 70 rfl) (own_w hw 11 rfl) (by decide) (by decide)) q57a q57c (g := (mkF m 80 #[vR aH, vI x, vI bk2, vI (0 : Int32)] [(.ref aP), (.int (0 : Int32))])) rfl (by rw [hml]; rfl) (Steps.refl _) (argsL := []) (rest := [(.int (0 : Int32))]) (lenOf pd_4 rfl) rfl (by show 2 * 0 + _ ≤ _; exact Nat.le_of_eq rfl) (hb hby d30_80) (fun _ _ => ⟨rfl, e46, (by decide : 0 + 0 ≤ rO_21.cells), (by decide : 0 + 0 ≤ rO_21.slots)⟩)
    dsimp only [Pt.U, Pt.locs, Pt.cells, Pt.slots] at X57 l57 y57 z57 st57 hQ57
    subst l57 y57 z57
    obtain ⟨rfl, N57q, e57⟩ := hQ57
    have N57 := Fr.app N26 N57q
    obtain ⟨T58, X58, e58, st58⟩ := getF X57 hx hZ hown (host := "") (Or.inl (own_w hw 98 rfl)) Via.refl e57 (pj_FH_lineShows HX56) (g := (mkF m 87 #[vR aH, vI x, vI bk2, vI (0 : Int32)] [(.ref aH)])) rfl rfl (hb hby d30_87)
    obtain ⟨T59, X59, e59, st59⟩ := getF X58 hx hZ hown (host := "") (Or.inl (own_w hw 54 rfl)) Via.refl e58 (pj_FH_pendingKept HX56) (g := (mkF m 94 #[vR aH, vI x, vI bk2, vI (0 : Int32)] [(.ref aH)])) rfl rfl (hb hby d30_94)
    obtain ⟨cl60, Ar60, kq60, Sz60, Nn60, Hs60, Gf60⟩ := id ((pj_VK_ HX56))
    have hin60 : ¬ ((0 : Int32) < 0 ∨ cl60.slots.size ≤ ((0 : Int32)).toNatClampNeg) := inb_of Sz60 ⟨by decide, by decide⟩
    have hat60 : cl60.slots[((0 : Int32)).toNatClampNeg]? = some (.int kp) := Has.at Hs60 hin60 rfl
    have go61 : Goes p e below s₁ (entryFrame m #[(.ref aH), (.int x)] 4) T59 (mkF m 99 #[vR aH, vI x, vI bk2, vI (0 : Int32)] [(.int kp)]) := fun t k => by
      refine go47 t ?_
      refine st57.trans ?_
      refine XS.icmpNo X57.here hx rfl (hb hby d30_83) rfl (Jvm.Free.XT.ii_ge_f (by decide)) ?_
      refine XS.aloadN X57.here hx rfl (hb hby d30_86) rfl rfl ?_
      refine st58 t ?_
      refine XS.ifNo X58.here hx rfl (hb hby d30_90) rfl (Jvm.Free.XT.i0_ne_f (by decide)) ?_
      refine XS.aloadN X58.here hx rfl (hb hby d30_93) rfl rfl ?_
      show Steps p.tables e below (T58.setTop (mkF m 94 #[vR aH, vI x, vI bk2, vI (0 : Int32)] [(.ref aH)])) _
      refine st59 t ?_
      refine XS.iloadN X59.here hx rfl (hb hby d30_97) rfl ?_
      refine X59.baloadBooleans hx (j := (0 : Int32)) (v := (.int kp)) (own_hp e59 Ar60.1) (State.isArrayOf_alike hZ.alike Ar60.2.1) Ar60.2.2 hin60 hat60 (g := (mkF m 98 #[vR aH, vI x, vI bk2, vI (0 : Int32)] [(.int (0 : Int32)), (.ref aK)])) rfl rfl (hb hby d30_98) _ ?_
      exact k
    by_cases hc62 : kp = (0 : Int32)
    · obtain ⟨T63, X63, e63, st63⟩ := getF X59 hx hZ hown (host := "") (Or.inl (own_w hw 50 rfl)) Via.refl e59 (pj_FH_pending HX56) (g := (mkF m 77 #[vR aH, vI x, vI bk2, vI (1 : Int32)] [(.ref aH), (.int (1 : Int32))])) rfl rfl (hb hby d30_77)
      obtain ⟨cq64, kq64, q64a, q64b, q64c⟩ := isOf hZ e63 (pj_EsP_ HX56)
      obtain ⟨_, _, ⟨T64, L64, k64, n64⟩, -, X64, ⟨Lc64, hQ64, l64, y64, z64⟩, st64⟩ := X63.virtualBack hx (y := mN_0) (z := mN_0) hown (mvT hZ (own_w hw 66 rfl)) (mvT hZ (own_w hw 67 rfl)) (notFace_of_selects (args := #[]) (mvT hZ (own_w hw 69 rfl))) (mvT hZ (own_w hw 69 rfl)) (mvT hZ (own_w hw 68 rfl)) (by decide) (backOf (W := 1) (rmSl l Z a0 hw [] aP (1 : Int32) h26 n0 Z26 (pj_EsP_ HX56) (pj_FnP_ HX56)) hZ (own_w hw 70 rfl) (own_w hw 11 rfl) (by decide) (by decide)) q64a q64c (g := (mkF m 80 #[vR aH, vI x, vI bk2, vI (1 : Int32)] [(.ref aP), (.int (1 : Int32))])) rfl (by rw [hml]; rfl) (Steps.refl _) (argsL := []) (rest := [(.int (1 : Int32))]) (lenOf pd_4 rfl) rfl (by show 2 * 0 + _ ≤ _; exact Nat.le_of_eq rfl) (hb hby d30_80) (fun _ _ => ⟨rfl, e63, (by decide : 0 + 0 ≤ rO_21.cells), (by decide : 0 + 0 ≤ rO_21.slots)⟩)
      dsimp only [Pt.U, Pt.locs, Pt.cells, Pt.slots] at X64 l64 y64 z64 st64 hQ64
      subst l64 y64 z64
      obtain ⟨rfl, N64q, e64⟩ := hQ64
      have N64 := Fr.app N57 N64q
      obtain ⟨cq65, q65a, q65b⟩ := (pj_EH HX56).cell
      obtain ⟨_, _, ⟨T65, L65, k65, n65⟩, -, X65, ⟨Lc65, hQ65, l65, y65, z65⟩, st65⟩ := X64.privateBack hx (y := mN_3) hown (mvT hZ (own_w hw 78 rfl)) (mvT hZ (own_w hw 79 rfl)) (own_selp (y := mN_3) (by decide) (mvT hZ (own_w hw 1 rfl)) (mvP hZ (own_w hw 80 rfl)) (mvT hZ (own_w hw 79 rfl))) (Cond.privateMethod_at (mvP hZ (own_w hw 80 rfl) (args := #[]))) (mvT hZ (own_w hw 81 rfl)) (by decide) (backOf (W := 0) (rmHcl l Z a0 hw [] aH  aT vT aP vP aQ aK ob o1 o2 o3 o4 txj [cq] (1 : Int32) [(.int (1 : Int32)), (.int (2 : Int32)), (.int (0 : Int32)), (.int (0 : Int32)), (.int (0 : Int32)), (.int (0 : Int32)), (.int (0 : Int32)), (.int (0 : Int32))] [(.int kp), (.int (0 : Int32)), (.int (0 : Int32)), (.int (0 : Int32))] (K + 1) (0 : Int32) (0 : Int32) cells (0 : Int32) col (0 : Int32) inr rs [cq] cs fm h26 n0 Z26 O26 S_CS hcs S_FM hfm (show own_HB Z h26 aH aT vT aP vP aQ aK ob o1 o2 o3 o4 txj [cq] (1 : Int32) [(.int (1 : Int32)), (.int (2 : Int32)), (.int (0 : Int32)), (.int (0 : Int32)), (.int (0 : Int32)), (.int (0 : Int32)), (.int (0 : Int32)), (.int (0 : Int32))] [(.int kp), (.int (0 : Int32)), (.int (0 : Int32)), (.int (0 : Int32))] (K + 1) (0 : Int32) (0 : Int32) cells (0 : Int32) col (0 : Int32) inr rs from ⟨_, _, _, _, _, _, _, _, _, HX56⟩) D gN (by first | omega | (simp; omega)) (by omega) (own_ln1 cq)) hZ (own_w hw 81 rfl) (own_w hw 2 rfl) (by decide) (by decide)) (g := (mkF m 148 #[vR aH, vI x, vI bk2, vI (1 : Int32)] [(.ref aH)])) rfl (by rw [hml]; rfl) (Steps.refl _) (a := aH) (by rw [e64]; exact q65a) q65b (argsL := []) (rest := []) (lenOf pd_14 rfl) rfl (by show 2 * 0 + _ ≤ _; exact Nat.le_of_eq rfl) (hb hby d30_148) (fun _ _ => ⟨rfl, e64, (by decide : 0 + 0 ≤ rO_21.cells), (by decide : 0 + 0 ≤ rO_21.slots)⟩)
      dsimp only [Pt.U, Pt.locs, Pt.cells, Pt.slots] at X65 l65 y65 z65 st65 hQ65
      subst l65 y65 z65
      obtain ⟨rfl, N65q, Kq65, Hq65⟩ := hQ65
      have N65 := Fr.app N64 N65q
      have O66 := O26.keep Kq65 gN
      have Z67 := Nat.le_trans Z26 Kq65.1
      have K68 := K26.trans Kq65 (fun _ q => Or.inl q)
      obtain ⟨kTq65, kPq65, kQq65, kKq65, nTq65, mTq65, mPq65, rrq65, llq65, HXq65⟩ := Hq65
      have go69 : Goes p e below s₁ (entryFrame m #[(.ref aH), (.int x)] 4) T65 (mkF m 151 #[vR aH, vI x, vI bk2, vI (1 : Int32)] []) := fun t k => by
        refine go61 t ?_
        refine XS.ifYes X59.here hx rfl (pc0 := 99) (pc' := 141) rfl (hb hby d30_99) rfl (Jvm.Free.XT.i0_eq_t hc62) (by decide) (by decide) ?_
        refine XS.iinc X59.here hx rfl (hb hby d30_141) rfl (l' := #[vR aH, vI x, vI bk2, vI (1 : Int32)]) rfl ?_
        refine XS.goto X59.here hx rfl (pc0 := 144) (pc' := 75) rfl (hb hby d30_144) (by decide) (by decide) ?_
        refine XS.iloadN X59.here hx rfl (hb hby d30_75) rfl ?_
        refine XS.aloadN X59.here hx rfl (hb hby d30_76) rfl rfl ?_
        refine st63 t ?_
        show Steps p.tables e below (T63.setTop (mkF m 80 #[vR aH, vI x, vI bk2, vI (1 : Int32)] [(.ref aP), (.int (1 : Int32))])) _
        refine st64.trans ?_
        refine XS.icmpYes X64.here hx rfl (pc0 := 83) (pc' := 147) rfl (hb hby d30_83) rfl (Jvm.Free.XT.ii_ge_t (by decide)) (by decide) (by decide) ?_
        refine XS.aloadN X64.here hx rfl (hb hby d30_147) rfl rfl ?_
        refine st65.trans ?_
        exact k
      obtain ⟨fs, hr, hrun, hended, hW, hsame⟩ := X65.leave (v := none) (fun _ => rfl)
      have HX70 := hx_up HXq65
      have hlay : own_lay tx tabs cP kp cq = txj := by rw [hj26]; simp [own_lay, hc62, hc1]
      refine ⟨_, _, go69 _ ?_, hrun, hended, _, _, rfl, ?_, ⟨_, rfl⟩, hW, hsame.mono (by decide) (by decide)⟩
      · exact X65.returnOut hx Bd.returns (hb hby d30_151) hr
      · show QHl Z _ _ _ _ _ _ _ _ _ _ _ _ _ _ _ _ _ _ _ _ _ _ _ _ _ _ _ _ _ _ _ T65.heap _
        exact ⟨rfl, N65, K68, by rw [hlay, hpx, hpo, hpk]; exact ⟨_, _, _, _, _, _, _, _, _, HX70⟩⟩
    · obtain ⟨T71, X71, e71, st71⟩ := getF X59 hx hZ hown (host := "") (Or.inl (own_w hw 29 rfl)) Via.refl e59 (pj_FH_text HX56) (g := (mkF m 103 #[vR aH, vI x, vI bk2, vI (0 : Int32)] [(.ref aH)])) rfl rfl (hb hby d30_103)
      obtain ⟨T72, X72, e72, st72⟩ := getF X71 hx hZ hown (host := "") (Or.inl (own_w hw 50 rfl)) Via.refl e71 (pj_FH_pending HX56) (g := (mkF m 107 #[vR aH, vI x, vI bk2, vI (0 : Int32)] [(.ref aH), (.ref aT)])) rfl rfl (hb hby d30_107)
      obtain ⟨cq73, kq73, q73a, q73b, q73c⟩ := isOf hZ e72 (pj_EsP_ HX56)
      obtain ⟨_, _, ⟨T73, L73, k73, n73⟩, -, X73, ⟨Lc73, hQ73, l73, y73, z73⟩, st73⟩ := X72.virtualBack hx (y := mN_22) (z := mN_22) hown (mvT hZ (own_w hw 273 rfl)) (mvT hZ (own_w hw 274 rfl)) (notFace_of_selects (args := #[]) (mvT hZ (own_w hw 276 rfl))) (mvT hZ (own_w hw 276 rfl)) (mvT hZ (own_w hw 275 rfl)) (by decide) (backOf (W := 1) (rmSh l Z a0 hw [] aP vP kPj26 (1 : Int32) mPj26 [cq] fm h26 n0 Z26 O26 S_FM hfm (pj_EsP_ HX56) (pj_FvP_ HX56) (pj_FcP_ HX56) (pj_FnP_ HX56) (pj_FmP_ HX56) (pj_VaP_ HX56) (nd_3_4 D) (gN _ (List.mem_of_getElem? (i := 3) rfl)) (gN _ (List.mem_of_getElem? (i := 4) rfl)) (own_ln1 cq) hcq (by decide) (Nat.zero_lt_one)) hZ (own_w hw 277 rfl) (own_w hw 11 rfl) (by decide) (by decide)) q73a q73c (g := (mkF m 111 #[vR aH, vI x, vI bk2, vI (0 : Int32)] [(.int (0 : Int32)), (.ref aP), (.ref aT)])) rfl (by rw [hml]; rfl) (Steps.refl _) (argsL := [(.int (0 : Int32))]) (rest := [(.ref aT)]) (lenOf pd_8 rfl) rfl (by show 2 * 0 + _ ≤ _; exact Nat.le_of_eq rfl) (hb hby d30_111) (fun _ _ => ⟨rfl, e72, (by decide : 0 + 0 ≤ rO_21.cells), (by decide : 0 + 0 ≤ rO_21.slots)⟩)
      dsimp only [Pt.U, Pt.locs, Pt.cells, Pt.slots] at X73 l73 y73 z73 st73 hQ73
      subst l73 y73 z73
      obtain ⟨rfl, N73q, e73⟩ := hQ73
      have N73 := Fr.app N57 N73q
      have go74 : Goes p e below s₁ (entryFrame m #[(.ref aH), (.int x)] 4) T73 (mkF m 114 #[vR aH, vI x, vI bk2, vI (0 : Int32)] [(.int ([cq].getD 0 0)), (.ref aT)]) := fun t k => by
        refine go61 t ?_
        refine XS.ifNo X59.here hx rfl (hb hby d30_99) rfl (Jvm.Free.XT.i0_eq_f hc62) ?_
        refine XS.aloadN X59.here hx rfl (hb hby d30_102) rfl rfl ?_
        refine st71 t ?_
        refine XS.aloadN X71.here hx rfl (hb hby d30_106) rfl rfl ?_
        refine st72 t ?_
        refine XS.iloadN X72.here hx rfl (hb hby d30_110) rfl ?_
        show Steps p.tables e below (T72.setTop (mkF m 111 #[vR aH, vI x, vI bk2, vI (0 : Int32)] [(.int (0 : Int32)), (.ref aP), (.ref aT)])) _
        refine st73.trans ?_
        exact k
      have go75 : Goes p e below s₁ (entryFrame m #[(.ref aH), (.int x)] 4) T73 (mkF m 114 #[vR aH, vI x, vI bk2, vI (0 : Int32)] [(.int cq), (.ref aT)]) := Eq.mp (congrArg (fun zz => Goes p e below s₁ (entryFrame m #[(.ref aH), (.int x)] 4) T73 (mkF m 114 #[vR aH, vI x, vI bk2, vI (0 : Int32)] [(.int zz), (.ref aT)])) (rfl : ([cq] : List Int32).getD 0 0 = cq)) go74
      obtain ⟨cq76, kq76, q76a, q76b, q76c⟩ := isOf hZ e73 (pj_EsT_ HX56)
      obtain ⟨_, _, ⟨T76, L76, k76, n76⟩, -, X76, ⟨Lc76, hQ76, l76, y76, z76⟩, st76⟩ := X73.virtualBack hx (y := mN_1) (z := mN_1) hown (mvT hZ (own_w hw 201 rfl)) (mvT hZ (own_w hw 202 rfl)) (notFace_of_selects (args := #[]) (mvT hZ (own_w hw 204 rfl))) (mvT hZ (own_w hw 204 rfl)) (mvT hZ (own_w hw 203 rfl)) (by decide) (backOf (W := 0) (rmSc l Z a0 hw [] aT cq vT kTj26 nTj26 mTj26 txj cs h26 n0 Z26 O26 S_CS hcs (pj_EsT_ HX56) (pj_FvT_ HX56) (pj_FcT_ HX56) (pj_FnT_ HX56) (pj_FmT_ HX56) (pj_VaT_ HX56) (nd_1_2 D) (gN _ (List.mem_of_getElem? (i := 1) rfl)) (gN _ (List.mem_of_getElem? (i := 2) rfl)) (pj_hln HX56) hcq.2) hZ (own_w hw 205 rfl) (own_w hw 11 rfl) (by decide) (by decide)) q76a q76c (g := (mkF m 114 #[vR aH, vI x, vI bk2, vI (0 : Int32)] [(.int cq), (.ref aT)])) rfl (by rw [hml]; rfl) (Steps.refl _) (argsL := [(.int cq)]) (rest := []) (lenOf pd_16 rfl) rfl (by show 2 * 0 + _ ≤ _; exact Nat.le_of_eq rfl) (hb hby d30_114) (fun _ _ => ⟨rfl, e73, (by decide : 0 + 0 ≤ rO_21.cells), (by decide : 0 + 0 ≤ rO_21.slots)⟩)
      dsimp only [Pt.U, Pt.locs, Pt.cells, Pt.slots] at X76 l76 y76 z76 st76 hQ76
      subst l76 y76 z76
      obtain ⟨rfl, N76q, Kq76, E1q76, FVq76, FCq76, FNq76, FMq76, V1q76⟩ := hQ76
      have N76 := Fr.app N73 N76q
      have HX77 := (hx_T HX56 D Kq76 E1q76 FVq76 FCq76 FNq76 FMq76 V1q76 ((pj_hln HX56).push cq (by first | omega | (simp; omega))) : own_HX Z T76.heap aH aT vT aP vP aQ aK ob o1 o2 o3 o4 kTj26 kPj26 kQj26 kKj26 (nTj26 + (1 : Int32)) mTj26 mPj26 rrj26 llj26 (txj ++ [cq]) [cq] (1 : Int32) [(.int (1 : Int32)), (.int (2 : Int32)), (.int (0 : Int32)), (.int (0 : Int32)), (.int (0 : Int32)), (.int (0 : Int32)), (.int (0 : Int32)), (.int (0 : Int32))] [(.int kp), (.int (0 : Int32)), (.int (0 : Int32)), (.int (0 : Int32))] (K + 1) (0 : Int32) (0 : Int32) cells (0 : Int32) col (0 : Int32) inr rs)
      have O78 := O26.keep Kq76 (allS (gN _ (List.mem_of_getElem? (i := 1) rfl)) (allS (gN _ (List.mem_of_getElem? (i := 2) rfl)) all0))
      have Z79 := Nat.le_trans Z26 Kq76.1
      have K80 := K26.trans Kq76 (allS (Or.inl (List.mem_of_getElem? (i := 1) rfl)) (allS (Or.inl (List.mem_of_getElem? (i := 2) rfl)) all0))
      obtain ⟨T81, X81, e81, st81⟩ := getF X76 hx hZ hown (host := "") (Or.inl (own_w hw 52 rfl)) Via.refl rfl (pj_FH_pendingOrigins HX77) (g := (mkF m 120 #[vR aH, vI x, vI bk2, vI (0 : Int32)] [(.ref aH), (.ref aH)])) rfl rfl (hb hby d30_120)
      obtain ⟨cl82, Ar82, kq82, Sz82, Nn82, Hs82, Gf82⟩ := id ((pj_VQ_ HX77))
      have hin82 : ¬ ((0 : Int32) < 0 ∨ cl82.slots.size ≤ ((0 : Int32)).toNatClampNeg) := inb_of Sz82 ⟨by decide, by decide⟩
      have hat82 : cl82.slots[((0 : Int32)).toNatClampNeg]? = some (.int (1 : Int32)) := Has.at Hs82 hin82 rfl
      obtain ⟨T83, X83, e83, st83⟩ := getF X81 hx hZ hown (host := "") (Or.inl (own_w hw 52 rfl)) Via.refl e81 (pj_FH_pendingOrigins HX77) (g := (mkF m 128 #[vR aH, vI x, vI bk2, vI (0 : Int32)] [(.ref aH), (.int (1 : Int32)), (.ref aH)])) rfl rfl (hb hby d30_128)
      obtain ⟨cl84, Ar84, kq84, Sz84, Nn84, Hs84, Gf84⟩ := id ((pj_VQ_ HX77))
      have hin84 : ¬ ((1 : Int32) < 0 ∨ cl84.slots.size ≤ ((1 : Int32)).toNatClampNeg) := inb_of Sz84 ⟨by decide, by decide⟩
      have hat84 : cl84.slots[((1 : Int32)).toNatClampNeg]? = some (.int (2 : Int32)) := Has.at Hs84 hin84 rfl
      obtain ⟨cq85, q85a, q85b⟩ := (pj_EH HX77).cell
      obtain ⟨_, _, ⟨T85, L85, k85, n85⟩, -, X85, ⟨Lc85, hQ85, l85, y85, z85⟩, st85⟩ := X83.privateBack hx (y := mN_7) hown (mvT hZ (own_w hw 219 rfl)) (mvT hZ (own_w hw 220 rfl)) (own_selp (y := mN_7) (by decide) (mvT hZ (own_w hw 1 rfl)) (mvP hZ (own_w hw 221 rfl)) (mvT hZ (own_w hw 220 rfl))) (Cond.privateMethod_at (mvP hZ (own_w hw 221 rfl) (args := #[]))) (mvT hZ (own_w hw 222 rfl)) (by decide) (backOf (W := 0) (rmHaL l Z a0 hw [] aH (1 : Int32) (2 : Int32) (1 : Int32) aT vT aP vP aQ aK ob o1 o2 o3 o4 (txj ++ [cq]) [cq] (1 : Int32) [(.int (1 : Int32)), (.int (2 : Int32)), (.int (0 : Int32)), (.int (0 : Int32)), (.int (0 : Int32)), (.int (0 : Int32)), (.int (0 : Int32)), (.int (0 : Int32))] [(.int kp), (.int (0 : Int32)), (.int (0 : Int32)), (.int (0 : Int32))] (K + 1) (0 : Int32) (0 : Int32) cells (0 : Int32) col (0 : Int32) inr rs  cs fm T76.heap n0 Z79 O78 S_CS hcs S_FM hfm (show own_HB Z T76.heap aH aT vT aP vP aQ aK ob o1 o2 o3 o4 (txj ++ [cq]) [cq] (1 : Int32) [(.int (1 : Int32)), (.int (2 : Int32)), (.int (0 : Int32)), (.int (0 : Int32)), (.int (0 : Int32)), (.int (0 : Int32)), (.int (0 : Int32)), (.int (0 : Int32))] [(.int kp), (.int (0 : Int32)), (.int (0 : Int32)), (.int (0 : Int32))] (K + 1) (0 : Int32) (0 : Int32) cells (0 : Int32) col (0 : Int32) inr rs from ⟨_, _, _, _, _, _, _, _, _, HX77⟩) D gN (by first | omega | (simp; omega)) (by omega) (by decide)) hZ (own_w hw 222 rfl) (own_w hw 2 rfl) (by decide) (by decide)) (g := (mkF m 138 #[vR aH, vI x, vI bk2, vI (0 : Int32)] [(.int (1 : Int32)), (.int (2 : Int32)), (.int (1 : Int32)), (.ref aH)])) rfl (by rw [hml]; rfl) (Steps.refl _) (a := aH) (by rw [e83]; exact q85a) q85b (argsL := [(.int (1 : Int32)), (.int (2 : Int32)), (.int (1 : Int32))]) (rest := []) (lenOf pd_15 rfl) rfl (by show 2 * 0 + _ ≤ _; exact Nat.le_of_eq rfl) (hb hby d30_138) (fun _ _ => ⟨rfl, e83, (by decide : 0 + 0 ≤ rO_21.cells), (by decide : 0 + 0 ≤ rO_21.slots)⟩)
      dsimp only [Pt.U, Pt.locs, Pt.cells, Pt.slots] at X85 l85 y85 z85 st85 hQ85
      subst l85 y85 z85
      obtain ⟨rfl, N85q, Kq85, Hq85⟩ := hQ85
      have N85 := Fr.app N76 N85q
      have O86 := O78.keep Kq85 gN
      have Z87 := Nat.le_trans Z79 Kq85.1
      have K88 := K80.trans Kq85 (fun _ q => Or.inl q)
      obtain ⟨kTq85, kPq85, kQq85, kKq85, nTq85, mTq85, mPq85, rrq85, llq85, HXq85⟩ := Hq85
      obtain ⟨T89, X89, e89, st89⟩ := getF X85 hx hZ hown (host := "") (Or.inl (own_w hw 50 rfl)) Via.refl rfl (pj_FH_pending HXq85) (g := (mkF m 77 #[vR aH, vI x, vI bk2, vI (1 : Int32)] [(.ref aH), (.int (1 : Int32))])) rfl rfl (hb hby d30_77)
      obtain ⟨cq90, kq90, q90a, q90b, q90c⟩ := isOf hZ e89 (pj_EsP_ HXq85)
      obtain ⟨_, _, ⟨T90, L90, k90, n90⟩, -, X90, ⟨Lc90, hQ90, l90, y90, z90⟩, st90⟩ := X89.virtualBack hx (y := mN_0) (z := mN_0) hown (mvT hZ (own_w hw 66 rfl)) (mvT hZ (own_w hw 67 rfl)) (notFace_of_selects (args := #[]) (mvT hZ (own_w hw 69 rfl))) (mvT hZ (own_w hw 69 rfl)) (mvT hZ (own_w hw 68 rfl)) (by decide) (backOf (W := 1) (rmSl l Z a0 hw [] aP (1 : Int32) T85.heap n0 Z87 (pj_EsP_ HXq85) (pj_FnP_ HXq85)) hZ (own_w hw 70 rfl) (own_w hw 11 rfl) (by decide) (by decide)) q90a q90c (g := (mkF m 80 #[vR aH, vI x, vI bk2, vI (1 : Int32)] [(.ref aP), (.int (1 : Int32))])) rfl (by rw [hml]; rfl) (Steps.refl _) (argsL := []) (rest := [(.int (1 : Int32))]) (lenOf pd_4 rfl) rfl (by show 2 * 0 + _ ≤ _; exact Nat.le_of_eq rfl) (hb hby d30_80) (fun _ _ => ⟨rfl, e89, (by decide : 0 + 0 ≤ rO_21.cells), (by decide : 0 + 0 ≤ rO_21.slots)⟩)
      dsimp only [Pt.U, Pt.locs, Pt.cells, Pt.slots] at X90 l90 y90 z90 st90 hQ90
      subst l90 y90 z90
      obtain ⟨rfl, N90q, e90⟩ := hQ90
      have N90 := Fr.app N85 N90q
      obtain ⟨cq91, q91a, q91b⟩ := (pj_EH HXq85).cell
      obtain ⟨_, _, ⟨T91, L91, k91, n91⟩, -, X91, ⟨Lc91, hQ91, l91, y91, z91⟩, st91⟩ := X90.privateBack hx (y := mN_3) hown (mvT hZ (own_w hw 78 rfl)) (mvT hZ (own_w hw 79 rfl)) (own_selp (y := mN_3) (by decide) (mvT hZ (own_w hw 1 rfl)) (mvP hZ (own_w hw 80 rfl)) (mvT hZ (own_w hw 79 rfl))) (Cond.privateMethod_at (mvP hZ (own_w hw 80 rfl) (args := #[]))) (mvT hZ (own_w hw 81 rfl)) (by decide) (backOf (W := 0) (rmHcl l Z a0 hw [] aH  aT vT aP vP aQ aK ob o1 o2 o3 o4 (txj ++ [cq]) [cq] (1 : Int32) [(.int (1 : Int32)), (.int (2 : Int32)), (.int (0 : Int32)), (.int (0 : Int32)), (.int (0 : Int32)), (.int (0 : Int32)), (.int (0 : Int32)), (.int (0 : Int32))] [(.int kp), (.int (0 : Int32)), (.int (0 : Int32)), (.int (0 : Int32))] ((K + 1) + 1) (0 : Int32) (0 : Int32) cells (0 : Int32) col (0 : Int32) inr rs [cq] cs fm T85.heap n0 Z87 O86 S_CS hcs S_FM hfm (show own_HB Z T85.heap aH aT vT aP vP aQ aK ob o1 o2 o3 o4 (txj ++ [cq]) [cq] (1 : Int32) [(.int (1 : Int32)), (.int (2 : Int32)), (.int (0 : Int32)), (.int (0 : Int32)), (.int (0 : Int32)), (.int (0 : Int32)), (.int (0 : Int32)), (.int (0 : Int32))] [(.int kp), (.int (0 : Int32)), (.int (0 : Int32)), (.int (0 : Int32))] ((K + 1) + 1) (0 : Int32) (0 : Int32) cells (0 : Int32) col (0 : Int32) inr rs from ⟨_, _, _, _, _, _, _, _, _, HXq85⟩) D gN (by first | omega | (simp; omega)) (by omega) (own_ln1 cq)) hZ (own_w hw 81 rfl) (own_w hw 2 rfl) (by decide) (by decide)) (g := (mkF m 148 #[vR aH, vI x, vI bk2, vI (1 : Int32)] [(.ref aH)])) rfl (by rw [hml]; rfl) (Steps.refl _) (a := aH) (by rw [e90]; exact q91a) q91b (argsL := []) (rest := []) (lenOf pd_14 rfl) rfl (by show 2 * 0 + _ ≤ _; exact Nat.le_of_eq rfl) (hb hby d30_148) (fun _ _ => ⟨rfl, e90, (by decide : 0 + 0 ≤ rO_21.cells), (by decide : 0 + 0 ≤ rO_21.slots)⟩)
      dsimp only [Pt.U, Pt.locs, Pt.cells, Pt.slots] at X91 l91 y91 z91 st91 hQ91
      subst l91 y91 z91
      obtain ⟨rfl, N91q, Kq91, Hq91⟩ := hQ91
      have N91 := Fr.app N90 N91q
      have O92 := O86.keep Kq91 gN
      have Z93 := Nat.le_trans Z87 Kq91.1
      have K94 := K88.trans Kq91 (fun _ q => Or.inl q)
      obtain ⟨kTq91, kPq91, kQq91, kKq91, nTq91, mTq91, mPq91, rrq91, llq91, HXq91⟩ := Hq91
      have go95 : Goes p e below s₁ (entryFrame m #[(.ref aH), (.int x)] 4) T91 (mkF m 151 #[vR aH, vI x, vI bk2, vI (1 : Int32)] []) := fun t k => by
        refine go75 t ?_
        refine st76.trans ?_
        refine XS.pop X76.here hx rfl (hb hby d30_117) rfl rfl ?_
        refine XS.aloadN X76.here hx rfl (hb hby d30_118) rfl rfl ?_
        refine XS.aloadN X76.here hx rfl (hb hby d30_119) rfl rfl ?_
        refine st81 t ?_
        refine XS.iconst X81.here hx rfl (hb hby d30_123) ?_
        show Steps p.tables e below (T81.setTop (mkF m 124 #[vR aH, vI x, vI bk2, vI (0 : Int32)] [(.int (2 : Int32)), (.ref aQ), (.ref aH)])) _
        refine XS.iloadN X81.here hx rfl (hb hby d30_124) rfl ?_
        refine XS.imul X81.here hx rfl (hb hby d30_125) rfl ?_
        refine X81.iaload hx (j := (0 : Int32)) (v := (.int (1 : Int32))) (own_hp e81 Ar82.1) (State.isArrayOf_alike hZ.alike Ar82.2.1) Ar82.2.2 hin82 hat82 (g := (mkF m 126 #[vR aH, vI x, vI bk2, vI (0 : Int32)] [(.int (0 : Int32)), (.ref aQ), (.ref aH)])) rfl rfl (hb hby d30_126) _ ?_
        refine XS.aloadN X81.here hx rfl (hb hby d30_127) rfl rfl ?_
        refine st83 t ?_
        refine XS.iconst X83.here hx rfl (hb hby d30_131) ?_
        show Steps p.tables e below (T83.setTop (mkF m 132 #[vR aH, vI x, vI bk2, vI (0 : Int32)] [(.int (2 : Int32)), (.ref aQ), (.int (1 : Int32)), (.ref aH)])) _
        refine XS.iloadN X83.here hx rfl (hb hby d30_132) rfl ?_
        refine XS.imul X83.here hx rfl (hb hby d30_133) rfl ?_
        refine XS.iconst X83.here hx rfl (hb hby d30_134) ?_
        refine XS.iadd X83.here hx rfl (hb hby d30_135) rfl ?_
        refine X83.iaload hx (j := (1 : Int32)) (v := (.int (2 : Int32))) (own_hp e83 Ar84.1) (State.isArrayOf_alike hZ.alike Ar84.2.1) Ar84.2.2 hin84 hat84 (g := (mkF m 136 #[vR aH, vI x, vI bk2, vI (0 : Int32)] [(.int (1 : Int32)), (.ref aQ), (.int (1 : Int32)), (.ref aH)])) rfl rfl (hb hby d30_136) _ ?_
        refine XS.iconst X83.here hx rfl (hb hby d30_137) ?_
        show Steps p.tables e below (T83.setTop (mkF m 138 #[vR aH, vI x, vI bk2, vI (0 : Int32)] [(.int (1 : Int32)), (.int (2 : Int32)), (.int (1 : Int32)), (.ref aH)])) _
        refine st85.trans ?_
        refine XS.iinc X85.here hx rfl (hb hby d30_141) rfl (l' := #[vR aH, vI x, vI bk2, vI (1 : Int32)]) rfl ?_
        refine XS.goto X85.here hx rfl (pc0 := 144) (pc' := 75) rfl (hb hby d30_144) (by decide) (by decide) ?_
        refine XS.iloadN X85.here hx rfl (hb hby d30_75) rfl ?_
        refine XS.aloadN X85.here hx rfl (hb hby d30_76) rfl rfl ?_
        refine st89 t ?_
        show Steps p.tables e below (T89.setTop (mkF m 80 #[vR aH, vI x, vI bk2, vI (1 : Int32)] [(.ref aP), (.int (1 : Int32))])) _
        refine st90.trans ?_
        refine XS.icmpYes X90.here hx rfl (pc0 := 83) (pc' := 147) rfl (hb hby d30_83) rfl (Jvm.Free.XT.ii_ge_t (by decide)) (by decide) (by decide) ?_
        refine XS.aloadN X90.here hx rfl (hb hby d30_147) rfl rfl ?_
        refine st91.trans ?_
        exact k
      obtain ⟨fs, hr, hrun, hended, hW, hsame⟩ := X91.leave (v := none) (fun _ => rfl)
      have hlay : own_lay tx tabs cP kp cq = (txj ++ [cq]) := by rw [hj26]; simp [own_lay, hc62, hc1]
      refine ⟨_, _, go95 _ ?_, hrun, hended, _, _, rfl, ?_, ⟨_, rfl⟩, hW, hsame.mono (by decide) (by decide)⟩
      · exact X91.returnOut hx Bd.returns (hb hby d30_151) hr
      · show QHl Z _ _ _ _ _ _ _ _ _ _ _ _ _ _ _ _ _ _ _ _ _ _ _ _ _ _ _ _ _ _ _ T91.heap _
        exact ⟨rfl, N91, K94, by rw [hlay, hpx, hpo, hpk]; exact ⟨_, _, _, _, _, _, _, _, _, HXq91⟩⟩
theorem d29_0 : dc29 0 (.aload_n 0) 1 := by decide +kernel
theorem d29_1 : dc29 1 (.iload_n 2) 1 := by decide +kernel
theorem d29_2 : dc29 2 (.invokevirtual 34) 3 := by decide +kernel
theorem d29_5 : dc29 5 (.aload_n 0) 1 := by decide +kernel
theorem d29_6 : dc29 6 (.getfield 10) 3 := by decide +kernel
theorem d29_9 : dc29 9 (.iload_n 1) 1 := by decide +kernel
theorem d29_10 : dc29 10 (.invokevirtual 38) 3 := by decide +kernel
theorem d29_13 : dc29 13 (.pop) 1 := by decide +kernel
theorem d29_14 : dc29 14 (.aload_n 0) 1 := by decide +kernel
theorem d29_15 : dc29 15 (.iload_n 2) 1 := by decide +kernel
theorem d29_16 : dc29 16 (.iload_n 3) 1 := by decide +kernel
theorem d29_17 : dc29 17 (.iconst 1) 1 := by decide +kernel
theorem d29_18 : dc29 18 (.invokevirtual 42) 3 := by decide +kernel
theorem d29_21 : dc29 21 (.return_) 1 := by decide +kernel
theorem ef_rmSw (m : MethodId) (aH : Addr) (cc : Int32) (x : Int32) (y : Int32) : entryFrame m #[(.ref aH), (.int cc), (.int x), (.int y)] 4 = mkF m 0 #[.val (.ref aH), .val (.int cc), .val (.int x), .val (.int y)] [] := by first | (simp [entryFrame, mkF, argsToLocals, Value.category]; done) | rfl
def QSw (Z : State) (aH : Addr) (cc : Int32) (x : Int32) (y : Int32) (aT vT aP vP aQ aK ob o1 o2 o3 o4 : Addr) (tx : List Int32) (px : List Int32) (cP : Int32) (po : List Value) (pk : List Value) (K : Nat) (tabs : Int32) (cells : Int32) (col : Int32) (rs : Int32) (cq kp : Int32) (cs : Int32) (fm : Value) (h0 : Heap) (n0 : Nat) (v : Option Value) (h : Heap) (L : List Loc) : Prop := v = none ∧ Fr n0 L ∧ Keep h0 h [aH, aT, vT, aP, vP, aQ, aK, ob, o1, o2, o3, o4] ∧ own_HB Z h aH aT vT aP vP aQ aK ob o1 o2 o3 o4 ((own_lay tx tabs cP kp cq) ++ [cc]) px (0 : Int32) po pk (((K + 1) + 1) + 1) (0 : Int32) (0 : Int32) cells (0 : Int32) (0 : Int32) (1 : Int32) (1 : Int32) (1 : Int32)
set_option maxRecDepth 65536 in
set_option maxHeartbeats 40000000 in
theorem rmSw (l : Launch) (Z : State) (a0 : Array Value) (hw : ∀ d ∈ tables_1, d.before a0 Z = true) (ws : List Jvm.Cond) (aH : Addr) (cc : Int32) (x : Int32) (y : Int32) (aT vT aP vP aQ aK ob o1 o2 o3 o4 : Addr) (tx : List Int32) (px : List Int32) (cP : Int32) (po : List Value) (pk : List Value) (K : Nat) (tabs : Int32) (cells : Int32) (col : Int32) (rs : Int32) (cq kp : Int32) (cs : Int32) (fm : Value) (h0 : Heap) (n0 : Nat) (Z0 : n0 ≤ h0.size) (O0 : Old Z n0 h0) (S_CS : Sta Z Z.heap "java/lang/String" "COMPACT_STRINGS" "Z" (.int cs)) (hcs : ¬ cs = 0) (S_FM : Sta Z Z.heap "jdk/internal/util/Preconditions" "SIOOBE_FORMATTER" "Ljava/util/function/BiFunction;" fm) (hfm : fm.isRef = true) (HB : own_HB Z h0 aH aT vT aP vP aQ aK ob o1 o2 o3 o4 tx px cP po pk K (0 : Int32) tabs cells (0 : Int32) col (0 : Int32) (1 : Int32) rs) (D : List.Nodup [aH, aT, vT, aP, vP, aQ, aK, ob, o1, o2, o3, o4]) (gN : ∀ y ∈ [aH, aT, vT, aP, vP, aQ, aK, ob, o1, o2, o3, o4], n0 ≤ y) (hB : (tx : List Int32).length < 8) (hKb : K < 10) (hB2 : tx.length < 4) (hK2 : K < 5) (htb : tabs = 0 ∨ tabs = 1) (hcq : ¬ cq < 0 ∧ ¬ (255 : Int32) < cq) (hpd : cP = 0 ∨ (cP = 1 ∧ px = [cq] ∧ po = [(.int (1 : Int32)), (.int (2 : Int32)), (.int (0 : Int32)), (.int (0 : Int32)), (.int (0 : Int32)), (.int (0 : Int32)), (.int (0 : Int32)), (.int (0 : Int32))] ∧ pk = [(.int kp), (.int (0 : Int32)), (.int (0 : Int32)), (.int (0 : Int32))])) (hc : ¬ cc < 0 ∧ ¬ (255 : Int32) < cc) (hq : (y - x) = (1 : Int32)) (hrs : rs = 0 ∨ rs = 1) :
    MetFree l mN_15 (head1 (Jvm.Cond.code mN_15 prog_41_method_2_code 4 none :: ws) rO_24) (fun a U => a = #[(.ref aH), (.int cc), (.int x), (.int y)] ∧ Z.Warmed39 U.vm ∧ U.heap = h0) (fun _ _ _ _ _ => True) (fun _ U o U' => ∃ v L, o = .returned v ∧ QSw Z aH cc x y aT vT aP vP aQ aK ob o1 o2 o3 o4 tx px cP po pk K tabs cells col rs cq kp cs fm h0 n0 v U'.heap L ∧ FrameEnd U o U' L rO_24.cells rO_24.slots) := by
  refine MetFree.of_bodySF (plainFor_of_name pn_7) hisR ?_
  intro p e s m args below meth c s₁ Bd hml0 hP hK
  obtain ⟨rfl, hZ, hh⟩ := hP
  have hx := Bd.exec
  have hby := Bd.bytes
  have hml : c.maxLocals = 4 := hml0
  have hown : s.vm.findClass "com/example/whereas/whereas/model/HtmlLayout" = some m.cls := findClass_of_methodNamed Bd.named
  have hnm := (name_of_methodNamed Bd.named Bd.method).1
  have X0 : Stand p l e rO_24 s m #[(.ref aH), (.int cc), (.int x), (.int y)] below meth c s₁ [] 0 0 := Stand.of_body Bd
  have e0 : s₁.heap = h0 := by rw [← hh, Bd.state]; rfl
  have N0 := Fr.nil n0
  have K0 := Keep.refl h0 [aH, aT, vT, aP, vP, aQ, aK, ob, o1, o2, o3, o4]
  have go0 : Goes p e below s₁ (entryFrame m #[(.ref aH), (.int cc), (.int x), (.int y)] 4) s₁ (mkF m 0 #[vR aH, vI cc, vI x, vI y] []) := fun t k => castTop (ef_rmSw m aH cc x y) k
  obtain ⟨kT, kP, kQ, kK, nT, mT, mP, rr, ll, HX0⟩ := HB
  have hBl : (own_lay tx tabs cP kp cq).length ≤ tx.length + 2 := own_lay_len
  obtain ⟨cq1, q1a, q1b⟩ := (pj_EH HX0).cell
  obtain ⟨_, _, ⟨T1, L1, k1, n1⟩, -, X1, ⟨Lc1, hQ1, l1, y1, z1⟩, st1⟩ := X0.privateBack hx (y := mN_28) hown (mvT hZ (own_w hw 193 rfl)) (mvT hZ (own_w hw 194 rfl)) (own_selp (y := mN_28) (by decide) (mvT hZ (own_w hw 1 rfl)) (mvP hZ (own_w hw 195 rfl)) (mvT hZ (own_w hw 194 rfl))) (Cond.privateMethod_at (mvP hZ (own_w hw 195 rfl) (args := #[]))) (mvT hZ (own_w hw 196 rfl)) (by decide) (backOf (W := 0) (rmHl l Z a0 hw [] aH x aT vT aP vP aQ aK ob o1 o2 o3 o4 tx px cP po pk K tabs cells col (1 : Int32) rs cq kp cs fm h0 n0 Z0 O0 S_CS hcs S_FM hfm (show own_HB Z h0 aH aT vT aP vP aQ aK ob o1 o2 o3 o4 tx px cP po pk K (0 : Int32) tabs cells (0 : Int32) col (0 : Int32) (1 : Int32) rs from ⟨_, _, _, _, _, _, _, _, _, HX0⟩) D gN hB hKb hB2 hK2 htb hcq hpd) hZ (own_w hw 196 rfl) (own_w hw 2 rfl) (by decide) (by decide)) (g := (mkF m 2 #[vR aH, vI cc, vI x, vI y] [(.int x), (.ref aH)])) rfl (by rw [hml]; rfl) (Steps.refl _) (a := aH) (by rw [e0]; exact q1a) q1b (argsL := [(.int x)]) (rest := []) (lenOf pd_0 rfl) rfl (by show 2 * 0 + _ ≤ _; exact Nat.le_of_eq rfl) (hb hby d29_2) (fun _ _ => ⟨rfl, e0, (by decide : 0 + 0 ≤ rO_24.cells), (by decide : 0 + 0 ≤ rO_24.slots)⟩)
  dsimp only [Pt.U, Pt.locs, Pt.cells, Pt.slots] at X1 l1 y1 z1 st1 hQ1
  subst l1 y1 z1
  obtain ⟨rfl, N1q, Kq1, Hq1⟩ := hQ1
  have N1 := Fr.app N0 N1q
  have O2 := O0.keep Kq1 gN
  have Z3 := Nat.le_trans Z0 Kq1.1
  have K4 := K0.trans Kq1 (fun _ q => Or.inl q)
  obtain ⟨kTq1, kPq1, kQq1, kKq1, nTq1, mTq1, mPq1, rrq1, llq1, HXq1⟩ := Hq1
  obtain ⟨T5, X5, e5, st5⟩ := getF X1 hx hZ hown (host := "") (Or.inl (own_w hw 29 rfl)) Via.refl rfl (pj_FH_text HXq1) (g := (mkF m 6 #[vR aH, vI cc, vI x, vI y] [(.ref aH)])) rfl rfl (hb hby d29_6)
  obtain ⟨cq6, kq6, q6a, q6b, q6c⟩ := isOf hZ e5 (pj_EsT_ HXq1)
  obtain ⟨_, _, ⟨T6, L6, k6, n6⟩, -, X6, ⟨Lc6, hQ6, l6, y6, z6⟩, st6⟩ := X5.virtualBack hx (y := mN_1) (z := mN_1) hown (mvT hZ (own_w hw 201 rfl)) (mvT hZ (own_w hw 202 rfl)) (notFace_of_selects (args := #[]) (mvT hZ (own_w hw 204 rfl))) (mvT hZ (own_w hw 204 rfl)) (mvT hZ (own_w hw 203 rfl)) (by decide) (backOf (W := 0) (rmSc l Z a0 hw [] aT cc vT kTq1 nTq1 mTq1 (own_lay tx tabs cP kp cq) cs T1.heap n0 Z3 O2 S_CS hcs (pj_EsT_ HXq1) (pj_FvT_ HXq1) (pj_FcT_ HXq1) (pj_FnT_ HXq1) (pj_FmT_ HXq1) (pj_VaT_ HXq1) (nd_1_2 D) (gN _ (List.mem_of_getElem? (i := 1) rfl)) (gN _ (List.mem_of_getElem? (i := 2) rfl)) (pj_hln HXq1) hc.2) hZ (own_w hw 205 rfl) (own_w hw 11 rfl) (by decide) (by decide)) q6a q6c (g := (mkF m 10 #[vR aH, vI cc, vI x, vI y] [(.int cc), (.ref aT)])) rfl (by rw [hml]; rfl) (Steps.refl _) (argsL := [(.int cc)]) (rest := []) (lenOf pd_16 rfl) rfl (by show 2 * 0 + _ ≤ _; exact Nat.le_of_eq rfl) (hb hby d29_10) (fun _ _ => ⟨rfl, e5, (by decide : 0 + 0 ≤ rO_24.cells), (by decide : 0 + 0 ≤ rO_24.slots)⟩)
  dsimp only [Pt.U, Pt.locs, Pt.cells, Pt.slots] at X6 l6 y6 z6 st6 hQ6
  subst l6 y6 z6
  obtain ⟨rfl, N6q, Kq6, E1q6, FVq6, FCq6, FNq6, FMq6, V1q6⟩ := hQ6
  have N6 := Fr.app N1 N6q
  have HX7 := (hx_T HXq1 D Kq6 E1q6 FVq6 FCq6 FNq6 FMq6 V1q6 ((pj_hln HXq1).push cc (by first | omega | (simp; omega))) : own_HX Z T6.heap aH aT vT aP vP aQ aK ob o1 o2 o3 o4 kTq1 kPq1 kQq1 kKq1 (nTq1 + (1 : Int32)) mTq1 mPq1 rrq1 llq1 ((own_lay tx tabs cP kp cq) ++ [cc]) px (0 : Int32) po pk ((K + 1) + 1) (0 : Int32) (0 : Int32) cells (0 : Int32) (0 : Int32) (0 : Int32) (1 : Int32) rs)
  have O8 := O2.keep Kq6 (allS (gN _ (List.mem_of_getElem? (i := 1) rfl)) (allS (gN _ (List.mem_of_getElem? (i := 2) rfl)) all0))
  have Z9 := Nat.le_trans Z3 Kq6.1
  have K10 := K4.trans Kq6 (allS (Or.inl (List.mem_of_getElem? (i := 1) rfl)) (allS (Or.inl (List.mem_of_getElem? (i := 2) rfl)) all0))
  obtain ⟨cq11, q11a, q11b⟩ := (pj_EH HX7).cell
  obtain ⟨_, _, ⟨T11, L11, k11, n11⟩, -, X11, ⟨Lc11, hQ11, l11, y11, z11⟩, st11⟩ := X6.privateBack hx (y := mN_27) hown (mvT hZ (own_w hw 215 rfl)) (mvT hZ (own_w hw 216 rfl)) (own_selp (y := mN_27) (by decide) (mvT hZ (own_w hw 1 rfl)) (mvP hZ (own_w hw 217 rfl)) (mvT hZ (own_w hw 216 rfl))) (Cond.privateMethod_at (mvP hZ (own_w hw 217 rfl) (args := #[]))) (mvT hZ (own_w hw 218 rfl)) (by decide) (backOf (W := 0) (rmHsh l Z a0 hw [] aH x y (1 : Int32) aT vT aP vP aQ aK ob o1 o2 o3 o4 ((own_lay tx tabs cP kp cq) ++ [cc]) px (0 : Int32) po pk ((K + 1) + 1) (0 : Int32) (0 : Int32) cells (0 : Int32) (0 : Int32) (0 : Int32) rs  cs fm T6.heap n0 Z9 O8 S_CS hcs S_FM hfm (show own_HB Z T6.heap aH aT vT aP vP aQ aK ob o1 o2 o3 o4 ((own_lay tx tabs cP kp cq) ++ [cc]) px (0 : Int32) po pk ((K + 1) + 1) (0 : Int32) (0 : Int32) cells (0 : Int32) (0 : Int32) (0 : Int32) (1 : Int32) rs from ⟨_, _, _, _, _, _, _, _, _, HX7⟩) D gN (by first | omega | (simp; omega)) (by omega) hq hrs) hZ (own_w hw 218 rfl) (own_w hw 2 rfl) (by decide) (by decide)) (g := (mkF m 18 #[vR aH, vI cc, vI x, vI y] [(.int (1 : Int32)), (.int y), (.int x), (.ref aH)])) rfl (by rw [hml]; rfl) (Steps.refl _) (a := aH) q11a q11b (argsL := [(.int x), (.int y), (.int (1 : Int32))]) (rest := []) (lenOf pd_15 rfl) rfl (by show 2 * 0 + _ ≤ _; exact Nat.le_of_eq rfl) (hb hby d29_18) (fun _ _ => ⟨rfl, rfl, (by decide : 0 + 0 ≤ rO_24.cells), (by decide : 0 + 0 ≤ rO_24.slots)⟩)
  dsimp only [Pt.U, Pt.locs, Pt.cells, Pt.slots] at X11 l11 y11 z11 st11 hQ11
  subst l11 y11 z11
  obtain ⟨rfl, N11q, Kq11, Hq11⟩ := hQ11
  have N11 := Fr.app N6 N11q
  have O12 := O8.keep Kq11 gN
  have Z13 := Nat.le_trans Z9 Kq11.1
  have K14 := K10.trans Kq11 (fun _ q => Or.inl q)
  obtain ⟨kTq11, kPq11, kQq11, kKq11, nTq11, mTq11, mPq11, rrq11, llq11, HXq11⟩ := Hq11
  have go15 : Goes p e below s₁ (entryFrame m #[(.ref aH), (.int cc), (.int x), (.int y)] 4) T11 (mkF m 21 #[vR aH, vI cc, vI x, vI y] []) := fun t k => by
    refine go0 t ?_
    refine XS.aloadN X0.here hx rfl (hb hby d29_0) rfl rfl ?_
    refine XS.iloadN X0.here hx rfl (hb hby d29_1) rfl ?_
    refine st1.trans ?_
    refine XS.aloadN X1.here hx rfl (hb hby d29_5) rfl rfl ?_
    refine st5 t ?_
    refine XS.iloadN X5.here hx rfl (hb hby d29_9) rfl ?_
    show Steps p.tables e below (T5.setTop (mkF m 10 #[vR aH, vI cc, vI x, vI y] [(.int cc), (.ref aT)])) _
    refine st6.trans ?_
    refine XS.pop X6.here hx rfl (hb hby d29_13) rfl rfl ?_
    refine XS.aloadN X6.here hx rfl (hb hby d29_14) rfl rfl ?_
    refine XS.iloadN X6.here hx rfl (hb hby d29_15) rfl ?_
    refine XS.iloadN X6.here hx rfl (hb hby d29_16) rfl ?_
    refine XS.iconst X6.here hx rfl (hb hby d29_17) ?_
    show Steps p.tables e below (T6.setTop (mkF m 18 #[vR aH, vI cc, vI x, vI y] [(.int (1 : Int32)), (.int y), (.int x), (.ref aH)])) _
    refine st11.trans ?_
    exact k
  obtain ⟨fs, hr, hrun, hended, hW, hsame⟩ := X11.leave (v := none) (fun _ => rfl)
  refine ⟨_, _, go15 _ ?_, hrun, hended, _, _, rfl, ?_, ⟨_, rfl⟩, hW, hsame.mono (by decide) (by decide)⟩
  · exact X11.returnOut hx Bd.returns (hb hby d29_21) hr
  · show QSw Z _ _ _ _ _ _ _ _ _ _ _ _ _ _ _ _ _ _ _ _ _ _ _ _ _ _ _ _ _ _ _ _ T11.heap _
    exact ⟨rfl, N11, K14, ⟨_, _, _, _, _, _, _, _, _, HXq11⟩⟩
theorem d38_0 : dc38 0 (.aload_n 0) 1 := by decide +kernel
theorem d38_1 : dc38 1 (.getfield 23) 3 := by decide +kernel
theorem d38_4 : dc38 4 (.invokevirtual 66) 3 := by decide +kernel
theorem d38_7 : dc38 7 (.iconst 1) 1 := by decide +kernel
theorem d38_8 : dc38 8 (.isub) 1 := by decide +kernel
theorem d38_9 : dc38 9 (.istore 6) 2 := by decide +kernel
theorem d38_11 : dc38 11 (.iload 4) 2 := by decide +kernel
theorem d38_13 : dc38 13 (.ifCond .eq 23) 3 := by decide +kernel
theorem d38_16 : dc38 16 (.aload_n 0) 1 := by decide +kernel
theorem d38_17 : dc38 17 (.getfield 92) 3 := by decide +kernel
theorem d38_20 : dc38 20 (.ifCond .eq 16) 3 := by decide +kernel
theorem d38_36 : dc38 36 (.iconst 2) 1 := by decide +kernel
theorem d38_37 : dc38 37 (.aload_n 0) 1 := by decide +kernel
theorem d38_38 : dc38 38 (.getfield 23) 3 := by decide +kernel
theorem d38_41 : dc38 41 (.invokevirtual 66) 3 := by decide +kernel
theorem d38_44 : dc38 44 (.imul) 1 := by decide +kernel
theorem d38_45 : dc38 45 (.iconst 2) 1 := by decide +kernel
theorem d38_46 : dc38 46 (.iadd) 1 := by decide +kernel
theorem d38_47 : dc38 47 (.aload_n 0) 1 := by decide +kernel
theorem d38_48 : dc38 48 (.getfield 26) 3 := by decide +kernel
theorem d38_51 : dc38 51 (.arraylength) 1 := by decide +kernel
theorem d38_52 : dc38 52 (.if_icmp .le 39) 3 := by decide +kernel
theorem d38_91 : dc38 91 (.aload_n 0) 1 := by decide +kernel
theorem d38_92 : dc38 92 (.getfield 26) 3 := by decide +kernel
theorem d38_95 : dc38 95 (.iconst 2) 1 := by decide +kernel
theorem d38_96 : dc38 96 (.aload_n 0) 1 := by decide +kernel
theorem d38_97 : dc38 97 (.getfield 23) 3 := by decide +kernel
theorem d38_100 : dc38 100 (.invokevirtual 66) 3 := by decide +kernel
theorem d38_103 : dc38 103 (.imul) 1 := by decide +kernel
theorem d38_104 : dc38 104 (.iload_n 2) 1 := by decide +kernel
theorem d38_105 : dc38 105 (.iastore) 1 := by decide +kernel
theorem d38_106 : dc38 106 (.aload_n 0) 1 := by decide +kernel
theorem d38_107 : dc38 107 (.getfield 26) 3 := by decide +kernel
theorem d38_110 : dc38 110 (.iconst 2) 1 := by decide +kernel
theorem d38_111 : dc38 111 (.aload_n 0) 1 := by decide +kernel
theorem d38_112 : dc38 112 (.getfield 23) 3 := by decide +kernel
theorem d38_115 : dc38 115 (.invokevirtual 66) 3 := by decide +kernel
theorem d38_118 : dc38 118 (.imul) 1 := by decide +kernel
theorem d38_119 : dc38 119 (.iconst 1) 1 := by decide +kernel
theorem d38_120 : dc38 120 (.iadd) 1 := by decide +kernel
theorem d38_121 : dc38 121 (.iload_n 3) 1 := by decide +kernel
theorem d38_122 : dc38 122 (.iastore) 1 := by decide +kernel
theorem d38_123 : dc38 123 (.aload_n 0) 1 := by decide +kernel
theorem d38_124 : dc38 124 (.getfield 30) 3 := by decide +kernel
theorem d38_127 : dc38 127 (.aload_n 0) 1 := by decide +kernel
theorem d38_128 : dc38 128 (.getfield 23) 3 := by decide +kernel
theorem d38_131 : dc38 131 (.invokevirtual 66) 3 := by decide +kernel
theorem d38_134 : dc38 134 (.iload 5) 2 := by decide +kernel
theorem d38_136 : dc38 136 (.bastore) 1 := by decide +kernel
theorem d38_137 : dc38 137 (.aload_n 0) 1 := by decide +kernel
theorem d38_138 : dc38 138 (.getfield 23) 3 := by decide +kernel
theorem d38_141 : dc38 141 (.iload 4) 2 := by decide +kernel
theorem d38_143 : dc38 143 (.ifCond .eq 8) 3 := by decide +kernel
theorem d38_146 : dc38 146 (.bipush 32) 2 := by decide +kernel
theorem d38_148 : dc38 148 (.goto 4) 3 := by decide +kernel
theorem d38_151 : dc38 151 (.iload_n 1) 1 := by decide +kernel
theorem d38_152 : dc38 152 (.invokevirtual 38) 3 := by decide +kernel
theorem d38_155 : dc38 155 (.pop) 1 := by decide +kernel
theorem d38_156 : dc38 156 (.aload_n 0) 1 := by decide +kernel
theorem d38_157 : dc38 157 (.iload 4) 2 := by decide +kernel
theorem d38_159 : dc38 159 (.putfield 92) 3 := by decide +kernel
theorem d38_162 : dc38 162 (.return_) 1 := by decide +kernel
theorem ef_rmSp0 (m : MethodId) (aH : Addr) (cc : Int32) (kp : Int32) : entryFrame m #[(.ref aH), (.int cc), (.int (1 : Int32)), (.int (2 : Int32)), (.int (0 : Int32)), (.int kp)] 7 = mkF m 0 #[.val (.ref aH), .val (.int cc), .val (.int (1 : Int32)), .val (.int (2 : Int32)), .val (.int (0 : Int32)), .val (.int kp), .unset] [] := by first | (simp [entryFrame, mkF, argsToLocals, Value.category]; done) | rfl
def QSp0 (Z : State) (aH : Addr) (cc : Int32) (kp : Int32) (aT vT aP vP aQ aK ob o1 o2 o3 o4 : Addr) (tx : List Int32) (K : Nat) (brk : Int32) (tabs : Int32) (cells : Int32) (par : Int32) (ls : Int32) (inr : Int32) (rs : Int32) (cs : Int32) (fm : Value) (h0 : Heap) (n0 : Nat) (v : Option Value) (h : Heap) (L : List Loc) : Prop := v = none ∧ Fr n0 L ∧ Keep h0 h [aH, aT, vT, aP, vP, aQ, aK, ob, o1, o2, o3, o4] ∧ own_HB Z h aH aT vT aP vP aQ aK ob o1 o2 o3 o4 tx [cc] (1 : Int32) [(.int (1 : Int32)), (.int (2 : Int32)), (.int (0 : Int32)), (.int (0 : Int32)), (.int (0 : Int32)), (.int (0 : Int32)), (.int (0 : Int32)), (.int (0 : Int32))] [(.int (nar .boolean kp)), (.int (0 : Int32)), (.int (0 : Int32)), (.int (0 : Int32))] K brk tabs cells par (0 : Int32) ls inr rs
set_option maxRecDepth 65536 in
set_option maxHeartbeats 40000000 in
theorem rmSp0 (l : Launch) (Z : State) (a0 : Array Value) (hw : ∀ d ∈ tables_1, d.before a0 Z = true) (ws : List Jvm.Cond) (aH : Addr) (cc : Int32) (kp : Int32) (aT vT aP vP aQ aK ob o1 o2 o3 o4 : Addr) (tx : List Int32) (K : Nat) (brk : Int32) (tabs : Int32) (cells : Int32) (par : Int32) (ls : Int32) (inr : Int32) (rs : Int32) (cs : Int32) (fm : Value) (h0 : Heap) (n0 : Nat) (Z0 : n0 ≤ h0.size) (O0 : Old Z n0 h0) (S_CS : Sta Z Z.heap "java/lang/String" "COMPACT_STRINGS" "Z" (.int cs)) (hcs : ¬ cs = 0) (S_FM : Sta Z Z.heap "jdk/internal/util/Preconditions" "SIOOBE_FORMATTER" "Ljava/util/function/BiFunction;" fm) (hfm : fm.isRef = true) (HB : own_HB Z h0 aH aT vT aP vP aQ aK ob o1 o2 o3 o4 tx [] (0 : Int32) [] [] K brk tabs cells par (0 : Int32) ls inr rs) (D : List.Nodup [aH, aT, vT, aP, vP, aQ, aK, ob, o1, o2, o3, o4]) (gN : ∀ y ∈ [aH, aT, vT, aP, vP, aQ, aK, ob, o1, o2, o3, o4], n0 ≤ y) (hB : (tx : List Int32).length < 8) (hKb : K < 10) (hc : ¬ cc < 0 ∧ ¬ (255 : Int32) < cc) :
    MetFree l mN_10 (head1 (Jvm.Cond.code mN_10 prog_41_method_7_code 7 none :: ws) rO_13) (fun a U => a = #[(.ref aH), (.int cc), (.int (1 : Int32)), (.int (2 : Int32)), (.int (0 : Int32)), (.int kp)] ∧ Z.Warmed39 U.vm ∧ U.heap = h0) (fun _ _ _ _ _ => True) (fun _ U o U' => ∃ v L, o = .returned v ∧ QSp0 Z aH cc kp aT vT aP vP aQ aK ob o1 o2 o3 o4 tx K brk tabs cells par ls inr rs cs fm h0 n0 v U'.heap L ∧ FrameEnd U o U' L rO_13.cells rO_13.slots) := by
  refine MetFree.of_bodySF (plainFor_of_name pn_7) hisR ?_
  intro p e s m args below meth c s₁ Bd hml0 hP hK
  obtain ⟨rfl, hZ, hh⟩ := hP
  have hx := Bd.exec
  have hby := Bd.bytes
  have hml : c.maxLocals = 7 := hml0
  have hown : s.vm.findClass "com/example/whereas/whereas/model/HtmlLayout" = some m.cls := findClass_of_methodNamed Bd.named
  have hnm := (name_of_methodNamed Bd.named Bd.method).1
  have X0 : Stand p l e rO_13 s m #[(.ref aH), (.int cc), (.int (1 : Int32)), (.int (2 : Int32)), (.int (0 : Int32)), (.int kp)] below meth c s₁ [] 0 0 := Stand.of_body Bd
  have e0 : s₁.heap = h0 := by rw [← hh, Bd.state]; rfl
  have N0 := Fr.nil n0
  have K0 := Keep.refl h0 [aH, aT, vT, aP, vP, aQ, aK, ob, o1, o2, o3, o4]
  have go0 : Goes p e below s₁ (entryFrame m #[(.ref aH), (.int cc), (.int (1 : Int32)), (.int (2 : Int32)), (.int (0 : Int32)), (.int kp)] 7) s₁ (mkF m 0 #[vR aH, vI cc, vI (1 : Int32), vI (2 : Int32), vI (0 : Int32), vI kp, .unset] []) := fun t k => castTop (ef_rmSp0 m aH cc kp) k
  obtain ⟨kT, kP, kQ, kK, nT, mT, mP, rr, ll, HX0⟩ := HB
  have HX1 := hx_pad_aQ HX0
  have HX2 := hx_pad_aK HX1
  obtain ⟨T3, X3, e3, st3⟩ := getF X0 hx hZ hown (host := "") (Or.inl (own_w hw 50 rfl)) Via.refl e0 (pj_FH_pending HX2) (g := (mkF m 1 #[vR aH, vI cc, vI (1 : Int32), vI (2 : Int32), vI (0 : Int32), vI kp, .unset] [(.ref aH)])) rfl rfl (hb hby d38_1)
  obtain ⟨cq4, kq4, q4a, q4b, q4c⟩ := isOf hZ e3 (pj_EsP_ HX2)
  obtain ⟨_, _, ⟨T4, L4, k4, n4⟩, -, X4, ⟨Lc4, hQ4, l4, y4, z4⟩, st4⟩ := X3.virtualBack hx (y := mN_0) (z := mN_0) hown (mvT hZ (own_w hw 66 rfl)) (mvT hZ (own_w hw 67 rfl)) (notFace_of_selects (args := #[]) (mvT hZ (own_w hw 69 rfl))) (mvT hZ (own_w hw 69 rfl)) (mvT hZ (own_w hw 68 rfl)) (by decide) (backOf (W := 0) (rmSl l Z a0 hw [] aP (0 : Int32) h0 n0 Z0 (pj_EsP_ HX2) (pj_FnP_ HX2)) hZ (own_w hw 70 rfl) (own_w hw 11 rfl) (by decide) (by decide)) q4a q4c (g := (mkF m 4 #[vR aH, vI cc, vI (1 : Int32), vI (2 : Int32), vI (0 : Int32), vI kp, .unset] [(.ref aP)])) rfl (by rw [hml]; rfl) (Steps.refl _) (argsL := []) (rest := []) (lenOf pd_4 rfl) rfl (by show 2 * 0 + _ ≤ _; exact Nat.le_of_eq rfl) (hb hby d38_4) (fun _ _ => ⟨rfl, e3, (by decide : 0 + 0 ≤ rO_13.cells), (by decide : 0 + 0 ≤ rO_13.slots)⟩)
  dsimp only [Pt.U, Pt.locs, Pt.cells, Pt.slots] at X4 l4 y4 z4 st4 hQ4
  subst l4 y4 z4
  obtain ⟨rfl, N4q, e4⟩ := hQ4
  have N4 := Fr.app N0 N4q
  obtain ⟨T5, X5, e5, st5⟩ := getF X4 hx hZ hown (host := "") (Or.inl (own_w hw 50 rfl)) Via.refl e4 (pj_FH_pending HX2) (g := (mkF m 38 #[vR aH, vI cc, vI (1 : Int32), vI (2 : Int32), vI (0 : Int32), vI kp, vI (-1 : Int32)] [(.ref aH), (.int (2 : Int32))])) rfl rfl (hb hby d38_38)
  obtain ⟨cq6, kq6, q6a, q6b, q6c⟩ := isOf hZ e5 (pj_EsP_ HX2)
  obtain ⟨_, _, ⟨T6, L6, k6, n6⟩, -, X6, ⟨Lc6, hQ6, l6, y6, z6⟩, st6⟩ := X5.virtualBack hx (y := mN_0) (z := mN_0) hown (mvT hZ (own_w hw 66 rfl)) (mvT hZ (own_w hw 67 rfl)) (notFace_of_selects (args := #[]) (mvT hZ (own_w hw 69 rfl))) (mvT hZ (own_w hw 69 rfl)) (mvT hZ (own_w hw 68 rfl)) (by decide) (backOf (W := 1) (rmSl l Z a0 hw [] aP (0 : Int32) h0 n0 Z0 (pj_EsP_ HX2) (pj_FnP_ HX2)) hZ (own_w hw 70 rfl) (own_w hw 11 rfl) (by decide) (by decide)) q6a q6c (g := (mkF m 41 #[vR aH, vI cc, vI (1 : Int32), vI (2 : Int32), vI (0 : Int32), vI kp, vI (-1 : Int32)] [(.ref aP), (.int (2 : Int32))])) rfl (by rw [hml]; rfl) (Steps.refl _) (argsL := []) (rest := [(.int (2 : Int32))]) (lenOf pd_4 rfl) rfl (by show 2 * 0 + _ ≤ _; exact Nat.le_of_eq rfl) (hb hby d38_41) (fun _ _ => ⟨rfl, e5, (by decide : 0 + 0 ≤ rO_13.cells), (by decide : 0 + 0 ≤ rO_13.slots)⟩)
  dsimp only [Pt.U, Pt.locs, Pt.cells, Pt.slots] at X6 l6 y6 z6 st6 hQ6
  subst l6 y6 z6
  obtain ⟨rfl, N6q, e6⟩ := hQ6
  have N6 := Fr.app N4 N6q
  obtain ⟨T7, X7, e7, st7⟩ := getF X6 hx hZ hown (host := "") (Or.inl (own_w hw 52 rfl)) Via.refl e6 (pj_FH_pendingOrigins HX2) (g := (mkF m 48 #[vR aH, vI cc, vI (1 : Int32), vI (2 : Int32), vI (0 : Int32), vI kp, vI (-1 : Int32)] [(.ref aH), (.int (2 : Int32))])) rfl rfl (hb hby d38_48)
  obtain ⟨cl8, Ar8, kq8, Sz8, Nn8, Hs8, Gf8⟩ := id ((pj_VQ_ HX2))
  obtain ⟨T9, X9, e9, st9⟩ := getF X7 hx hZ hown (host := "") (Or.inl (own_w hw 52 rfl)) Via.refl e7 (pj_FH_pendingOrigins HX2) (g := (mkF m 92 #[vR aH, vI cc, vI (1 : Int32), vI (2 : Int32), vI (0 : Int32), vI kp, vI (-1 : Int32)] [(.ref aH)])) rfl rfl (hb hby d38_92)
  obtain ⟨T10, X10, e10, st10⟩ := getF X9 hx hZ hown (host := "") (Or.inl (own_w hw 50 rfl)) Via.refl e9 (pj_FH_pending HX2) (g := (mkF m 97 #[vR aH, vI cc, vI (1 : Int32), vI (2 : Int32), vI (0 : Int32), vI kp, vI (-1 : Int32)] [(.ref aH), (.int (2 : Int32)), (.ref aQ)])) rfl rfl (hb hby d38_97)
  obtain ⟨cq11, kq11, q11a, q11b, q11c⟩ := isOf hZ e10 (pj_EsP_ HX2)
  obtain ⟨_, _, ⟨T11, L11, k11, n11⟩, -, X11, ⟨Lc11, hQ11, l11, y11, z11⟩, st11⟩ := X10.virtualBack hx (y := mN_0) (z := mN_0) hown (mvT hZ (own_w hw 66 rfl)) (mvT hZ (own_w hw 67 rfl)) (notFace_of_selects (args := #[]) (mvT hZ (own_w hw 69 rfl))) (mvT hZ (own_w hw 69 rfl)) (mvT hZ (own_w hw 68 rfl)) (by decide) (backOf (W := 2) (rmSl l Z a0 hw [] aP (0 : Int32) h0 n0 Z0 (pj_EsP_ HX2) (pj_FnP_ HX2)) hZ (own_w hw 70 rfl) (own_w hw 11 rfl) (by decide) (by decide)) q11a q11c (g := (mkF m 100 #[vR aH, vI cc, vI (1 : Int32), vI (2 : Int32), vI (0 : Int32), vI kp, vI (-1 : Int32)] [(.ref aP), (.int (2 : Int32)), (.ref aQ)])) rfl (by rw [hml]; rfl) (Steps.refl _) (argsL := []) (rest := [(.int (2 : Int32)), (.ref aQ)]) (lenOf pd_4 rfl) rfl (by show 2 * 0 + _ ≤ _; exact Nat.le_of_eq rfl) (hb hby d38_100) (fun _ _ => ⟨rfl, e10, (by decide : 0 + 0 ≤ rO_13.cells), (by decide : 0 + 0 ≤ rO_13.slots)⟩)
  dsimp only [Pt.U, Pt.locs, Pt.cells, Pt.slots] at X11 l11 y11 z11 st11 hQ11
  subst l11 y11 z11
  obtain ⟨rfl, N11q, e11⟩ := hQ11
  have N11 := Fr.app N6 N11q
  obtain ⟨cl12, Ar12, kq12, Sz12, Nn12, Hs12, Gf12⟩ := id ((pj_VQ_ HX2))
  have hin12 : ¬ ((0 : Int32) < 0 ∨ cl12.slots.size ≤ ((0 : Int32)).toNatClampNeg) := inb_of Sz12 ⟨by decide, by decide⟩
  obtain ⟨T13, h13, X13, e13, W13, st13⟩ := stI X11 hx hZ e11 Ar12 (j := (0 : Int32)) hin12 (g := (mkF m 105 #[vR aH, vI cc, vI (1 : Int32), vI (2 : Int32), vI (0 : Int32), vI kp, vI (-1 : Int32)] [(.int (1 : Int32)), (.int (0 : Int32)), (.ref aQ)])) rfl rfl (hb hby d38_105)
  have V14 : Arv Z h13 aQ kQ .int (8 : Int32) [(.int (1 : Int32)), (.int (0 : Int32)), (.int (0 : Int32)), (.int (0 : Int32)), (.int (0 : Int32)), (.int (0 : Int32)), (.int (0 : Int32)), (.int (0 : Int32))] (.int (0 : Int32)) := Arv.set Ar12 kq12 Sz12 Nn12 Hs12 Gf12 rfl W13 0 rfl (Nat.le_of_ble_eq_true rfl)
  have O15 := O0.wr W13 (gN _ (List.mem_of_getElem? (i := 5) rfl))
  have Z16 := Nat.le_trans Z0 (Nat.le_of_eq W13.size.symm)
  have K17 := K0.wr W13 (Or.inl (List.mem_of_getElem? (i := 5) rfl))
  have HX18 := hx_W_aQ HX2 D W13 V14
  have N19 := Fr.snoc X13 N11 (gN _ (List.mem_of_getElem? (i := 5) rfl))
  obtain ⟨T20, X20, e20, st20⟩ := getF X13 hx hZ hown (host := "") (Or.inl (own_w hw 52 rfl)) Via.refl e13 (pj_FH_pendingOrigins HX18) (g := (mkF m 107 #[vR aH, vI cc, vI (1 : Int32), vI (2 : Int32), vI (0 : Int32), vI kp, vI (-1 : Int32)] [(.ref aH)])) rfl rfl (hb hby d38_107)
  obtain ⟨T21, X21, e21, st21⟩ := getF X20 hx hZ hown (host := "") (Or.inl (own_w hw 50 rfl)) Via.refl e20 (pj_FH_pending HX18) (g := (mkF m 112 #[vR aH, vI cc, vI (1 : Int32), vI (2 : Int32), vI (0 : Int32), vI kp, vI (-1 : Int32)] [(.ref aH), (.int (2 : Int32)), (.ref aQ)])) rfl rfl (hb hby d38_112)
  obtain ⟨cq22, kq22, q22a, q22b, q22c⟩ := isOf hZ e21 (pj_EsP_ HX18)
  obtain ⟨_, _, ⟨T22, L22, k22, n22⟩, -, X22, ⟨Lc22, hQ22, l22, y22, z22⟩, st22⟩ := X21.virtualBack hx (y := mN_0) (z := mN_0) hown (mvT hZ (own_w hw 66 rfl)) (mvT hZ (own_w hw 67 rfl)) (notFace_of_selects (args := #[]) (mvT hZ (own_w hw 69 rfl))) (mvT hZ (own_w hw 69 rfl)) (mvT hZ (own_w hw 68 rfl)) (by decide) (backOf (W := 2) (rmSl l Z a0 hw [] aP (0 : Int32) h13 n0 Z16 (pj_EsP_ HX18) (pj_FnP_ HX18)) hZ (own_w hw 70 rfl) (own_w hw 11 rfl) (by decide) (by decide)) q22a q22c (g := (mkF m 115 #[vR aH, vI cc, vI (1 : Int32), vI (2 : Int32), vI (0 : Int32), vI kp, vI (-1 : Int32)] [(.ref aP), (.int (2 : Int32)), (.ref aQ)])) rfl (by rw [hml]; rfl) (Steps.refl _) (argsL := []) (rest := [(.int (2 : Int32)), (.ref aQ)]) (lenOf pd_4 rfl) rfl (by show 2 * 0 + _ ≤ _; exact Nat.le_of_eq rfl) (hb hby d38_115) (fun _ _ => ⟨rfl, e21, (by decide : 0 + 0 ≤ rO_13.cells), (by decide : 0 + 0 ≤ rO_13.slots)⟩)
  dsimp only [Pt.U, Pt.locs, Pt.cells, Pt.slots] at X22 l22 y22 z22 st22 hQ22
  subst l22 y22 z22
  obtain ⟨rfl, N22q, e22⟩ := hQ22
  have N22 := Fr.app N19 N22q
  obtain ⟨cl23, Ar23, kq23, Sz23, Nn23, Hs23, Gf23⟩ := id ((pj_VQ_ HX18))
  have hin23 : ¬ ((1 : Int32) < 0 ∨ cl23.slots.size ≤ ((1 : Int32)).toNatClampNeg) := inb_of Sz23 ⟨by decide, by decide⟩
  obtain ⟨T24, h24, X24, e24, W24, st24⟩ := stI X22 hx hZ e22 Ar23 (j := (1 : Int32)) hin23 (g := (mkF m 122 #[vR aH, vI cc, vI (1 : Int32), vI (2 : Int32), vI (0 : Int32), vI kp, vI (-1 : Int32)] [(.int (2 : Int32)), (.int (1 : Int32)), (.ref aQ)])) rfl rfl (hb hby d38_122)
  have V25 : Arv Z h24 aQ kQ .int (8 : Int32) [(.int (1 : Int32)), (.int (2 : Int32)), (.int (0 : Int32)), (.int (0 : Int32)), (.int (0 : Int32)), (.int (0 : Int32)), (.int (0 : Int32)), (.int (0 : Int32))] (.int (0 : Int32)) := Arv.set Ar23 kq23 Sz23 Nn23 Hs23 Gf23 rfl W24 1 rfl (Nat.le_of_ble_eq_true rfl)
  have O26 := O15.wr W24 (gN _ (List.mem_of_getElem? (i := 5) rfl))
  have Z27 := Nat.le_trans Z16 (Nat.le_of_eq W24.size.symm)
  have K28 := K17.wr W24 (Or.inl (List.mem_of_getElem? (i := 5) rfl))
  have HX29 := hx_W_aQ HX18 D W24 V25
  have N30 := Fr.snoc X24 N22 (gN _ (List.mem_of_getElem? (i := 5) rfl))
  obtain ⟨T31, X31, e31, st31⟩ := getF X24 hx hZ hown (host := "") (Or.inl (own_w hw 54 rfl)) Via.refl e24 (pj_FH_pendingKept HX29) (g := (mkF m 124 #[vR aH, vI cc, vI (1 : Int32), vI (2 : Int32), vI (0 : Int32), vI kp, vI (-1 : Int32)] [(.ref aH)])) rfl rfl (hb hby d38_124)
  obtain ⟨T32, X32, e32, st32⟩ := getF X31 hx hZ hown (host := "") (Or.inl (own_w hw 50 rfl)) Via.refl e31 (pj_FH_pending HX29) (g := (mkF m 128 #[vR aH, vI cc, vI (1 : Int32), vI (2 : Int32), vI (0 : Int32), vI kp, vI (-1 : Int32)] [(.ref aH), (.ref aK)])) rfl rfl (hb hby d38_128)
  obtain ⟨cq33, kq33, q33a, q33b, q33c⟩ := isOf hZ e32 (pj_EsP_ HX29)
  obtain ⟨_, _, ⟨T33, L33, k33, n33⟩, -, X33, ⟨Lc33, hQ33, l33, y33, z33⟩, st33⟩ := X32.virtualBack hx (y := mN_0) (z := mN_0) hown (mvT hZ (own_w hw 66 rfl)) (mvT hZ (own_w hw 67 rfl)) (notFace_of_selects (args := #[]) (mvT hZ (own_w hw 69 rfl))) (mvT hZ (own_w hw 69 rfl)) (mvT hZ (own_w hw 68 rfl)) (by decide) (backOf (W := 1) (rmSl l Z a0 hw [] aP (0 : Int32) h24 n0 Z27 (pj_EsP_ HX29) (pj_FnP_ HX29)) hZ (own_w hw 70 rfl) (own_w hw 11 rfl) (by decide) (by decide)) q33a q33c (g := (mkF m 131 #[vR aH, vI cc, vI (1 : Int32), vI (2 : Int32), vI (0 : Int32), vI kp, vI (-1 : Int32)] [(.ref aP), (.ref aK)])) rfl (by rw [hml]; rfl) (Steps.refl _) (argsL := []) (rest := [(.ref aK)]) (lenOf pd_4 rfl) rfl (by show 2 * 0 + _ ≤ _; exact Nat.le_of_eq rfl) (hb hby d38_131) (fun _ _ => ⟨rfl, e32, (by decide : 0 + 0 ≤ rO_13.cells), (by decide : 0 + 0 ≤ rO_13.slots)⟩)
  dsimp only [Pt.U, Pt.locs, Pt.cells, Pt.slots] at X33 l33 y33 z33 st33 hQ33
  subst l33 y33 z33
  obtain ⟨rfl, N33q, e33⟩ := hQ33
  have N33 := Fr.app N30 N33q
  obtain ⟨cl34, Ar34, kq34, Sz34, Nn34, Hs34, Gf34⟩ := id ((pj_VK_ HX29))
  have hin34 : ¬ ((0 : Int32) < 0 ∨ cl34.slots.size ≤ ((0 : Int32)).toNatClampNeg) := inb_of Sz34 ⟨by decide, by decide⟩
  obtain ⟨T35, h35, X35, e35, W35, st35⟩ := stZ X33 hx hZ e33 Ar34 (j := (0 : Int32)) hin34 (g := (mkF m 136 #[vR aH, vI cc, vI (1 : Int32), vI (2 : Int32), vI (0 : Int32), vI kp, vI (-1 : Int32)] [(.int kp), (.int (0 : Int32)), (.ref aK)])) rfl rfl (hb hby d38_136)
  have V36 : Arv Z h35 aK kK .boolean (4 : Int32) [(.int (nar .boolean kp)), (.int (0 : Int32)), (.int (0 : Int32)), (.int (0 : Int32))] (.int (0 : Int32)) := Arv.set Ar34 kq34 Sz34 Nn34 Hs34 Gf34 (fits_nar_bool _) W35 0 rfl (Nat.le_of_ble_eq_true rfl)
  have O37 := O26.wr W35 (gN _ (List.mem_of_getElem? (i := 6) rfl))
  have Z38 := Nat.le_trans Z27 (Nat.le_of_eq W35.size.symm)
  have K39 := K28.wr W35 (Or.inl (List.mem_of_getElem? (i := 6) rfl))
  have HX40 := hx_W_aK HX29 D W35 V36
  have N41 := Fr.snoc X35 N33 (gN _ (List.mem_of_getElem? (i := 6) rfl))
  obtain ⟨T42, X42, e42, st42⟩ := getF X35 hx hZ hown (host := "") (Or.inl (own_w hw 50 rfl)) Via.refl e35 (pj_FH_pending HX40) (g := (mkF m 138 #[vR aH, vI cc, vI (1 : Int32), vI (2 : Int32), vI (0 : Int32), vI kp, vI (-1 : Int32)] [(.ref aH)])) rfl rfl (hb hby d38_138)
  obtain ⟨cq43, kq43, q43a, q43b, q43c⟩ := isOf hZ e42 (pj_EsP_ HX40)
  obtain ⟨_, _, ⟨T43, L43, k43, n43⟩, -, X43, ⟨Lc43, hQ43, l43, y43, z43⟩, st43⟩ := X42.virtualBack hx (y := mN_1) (z := mN_1) hown (mvT hZ (own_w hw 201 rfl)) (mvT hZ (own_w hw 202 rfl)) (notFace_of_selects (args := #[]) (mvT hZ (own_w hw 204 rfl))) (mvT hZ (own_w hw 204 rfl)) (mvT hZ (own_w hw 203 rfl)) (by decide) (backOf (W := 0) (rmSc l Z a0 hw [] aP cc vP kP (0 : Int32) mP [] cs h35 n0 Z38 O37 S_CS hcs (pj_EsP_ HX40) (pj_FvP_ HX40) (pj_FcP_ HX40) (pj_FnP_ HX40) (pj_FmP_ HX40) (pj_VaP_ HX40) (nd_3_4 D) (gN _ (List.mem_of_getElem? (i := 3) rfl)) (gN _ (List.mem_of_getElem? (i := 4) rfl)) own_ln0 hc.2) hZ (own_w hw 205 rfl) (own_w hw 11 rfl) (by decide) (by decide)) q43a q43c (g := (mkF m 152 #[vR aH, vI cc, vI (1 : Int32), vI (2 : Int32), vI (0 : Int32), vI kp, vI (-1 : Int32)] [(.int cc), (.ref aP)])) rfl (by rw [hml]; rfl) (Steps.refl _) (argsL := [(.int cc)]) (rest := []) (lenOf pd_16 rfl) rfl (by show 2 * 0 + _ ≤ _; exact Nat.le_of_eq rfl) (hb hby d38_152) (fun _ _ => ⟨rfl, e42, (by decide : 0 + 0 ≤ rO_13.cells), (by decide : 0 + 0 ≤ rO_13.slots)⟩)
  dsimp only [Pt.U, Pt.locs, Pt.cells, Pt.slots] at X43 l43 y43 z43 st43 hQ43
  subst l43 y43 z43
  obtain ⟨rfl, N43q, Kq43, E1q43, FVq43, FCq43, FNq43, FMq43, V1q43⟩ := hQ43
  have N43 := Fr.app N41 N43q
  have HX44 := (hx_P2 HX40 D Kq43 E1q43 FVq43 FCq43 FNq43 FMq43 V1q43 : own_HX Z T43.heap aH aT vT aP vP aQ aK ob o1 o2 o3 o4 kT kP kQ kK nT mT mP rr ll tx [cc] (1 : Int32) [(.int (1 : Int32)), (.int (2 : Int32)), (.int (0 : Int32)), (.int (0 : Int32)), (.int (0 : Int32)), (.int (0 : Int32)), (.int (0 : Int32)), (.int (0 : Int32))] [(.int (nar .boolean kp)), (.int (0 : Int32)), (.int (0 : Int32)), (.int (0 : Int32))] K brk tabs cells par (0 : Int32) ls inr rs)
  have O45 := O37.keep Kq43 (allS (gN _ (List.mem_of_getElem? (i := 3) rfl)) (allS (gN _ (List.mem_of_getElem? (i := 4) rfl)) all0))
  have Z46 := Nat.le_trans Z38 Kq43.1
  have K47 := K39.trans Kq43 (allS (Or.inl (List.mem_of_getElem? (i := 3) rfl)) (allS (Or.inl (List.mem_of_getElem? (i := 4) rfl)) all0))
  obtain ⟨T48, h48, X48, e48, W48, st48⟩ := putFN X43 hx hZ hown (own_w hw 96 rfl) Via.refl rfl (pj_FH_collapsing HX44) (pj_EH HX44) (Or.inl (own_w hw 97 rfl)) (own_w hw 1 rfl) (ty := .boolean) (v' := (.int (0 : Int32))) (by decide) rfl rfl (g := (mkF m 159 #[vR aH, vI cc, vI (1 : Int32), vI (2 : Int32), vI (0 : Int32), vI kp, vI (-1 : Int32)] [(.int (0 : Int32)), (.ref aH)])) rfl rfl (hb hby d38_159)
  have f49 := (pj_FH_collapsing HX44).same W48
  have O50 := O45.wr W48 (gN _ (List.mem_of_getElem? (i := 0) rfl))
  have Z51 := Nat.le_trans Z46 (Nat.le_of_eq W48.size.symm)
  have K52 := K47.wr W48 (Or.inl (List.mem_of_getElem? (i := 0) rfl))
  have HX53 := hx_w_col hw HX44 D W48 f49
  have N54 := Fr.snoc X48 N43 (gN _ (List.mem_of_getElem? (i := 0) rfl))
  have go55 : Goes p e below s₁ (entryFrame m #[(.ref aH), (.int cc), (.int (1 : Int32)), (.int (2 : Int32)), (.int (0 : Int32)), (.int kp)] 7) T48 (mkF m 162 #[vR aH, vI cc, vI (1 : Int32), vI (2 : Int32), vI (0 : Int32), vI kp, vI (-1 : Int32)] []) := fun t k => by
    refine go0 t ?_
    refine XS.aloadN X0.here hx rfl (hb hby d38_0) rfl rfl ?_
    refine st3 t ?_
    refine st4.trans ?_
    refine XS.iconst X4.here hx rfl (hb hby d38_7) ?_
    refine XS.isub X4.here hx rfl (hb hby d38_8) rfl ?_
    refine XS.istore X4.here hx rfl (hb hby d38_9) rfl (l' := #[vR aH, vI cc, vI (1 : Int32), vI (2 : Int32), vI (0 : Int32), vI kp, vI (-1 : Int32)]) rfl ?_
    show Steps p.tables e below (T4.setTop (mkF m 11 #[vR aH, vI cc, vI (1 : Int32), vI (2 : Int32), vI (0 : Int32), vI kp, vI (-1 : Int32)] [])) _
    refine XS.iload X4.here hx rfl (hb hby d38_11) rfl ?_
    refine XS.ifYes X4.here hx rfl (pc0 := 13) (pc' := 36) rfl (hb hby d38_13) rfl (Jvm.Free.XT.i0_eq_t (by decide)) (by decide) (by decide) ?_
    refine XS.iconst X4.here hx rfl (hb hby d38_36) ?_
    refine XS.aloadN X4.here hx rfl (hb hby d38_37) rfl rfl ?_
    refine st5 t ?_
    refine st6.trans ?_
    show Steps p.tables e below (T6.setTop (mkF m 44 #[vR aH, vI cc, vI (1 : Int32), vI (2 : Int32), vI (0 : Int32), vI kp, vI (-1 : Int32)] [(.int (0 : Int32)), (.int (2 : Int32))])) _
    refine XS.imul X6.here hx rfl (hb hby d38_44) rfl ?_
    refine XS.iconst X6.here hx rfl (hb hby d38_45) ?_
    refine XS.iadd X6.here hx rfl (hb hby d38_46) rfl ?_
    refine XS.aloadN X6.here hx rfl (hb hby d38_47) rfl rfl ?_
    refine st7 t ?_
    refine X7.arraylength hx (own_hp e7 Ar8.1) (State.isArrayOf_alike hZ.alike Ar8.2.1) (g := (mkF m 51 #[vR aH, vI cc, vI (1 : Int32), vI (2 : Int32), vI (0 : Int32), vI kp, vI (-1 : Int32)] [(.ref aQ), (.int (2 : Int32))])) rfl rfl (hb hby d38_51) _ ?_
    rw [len_of Sz8 Nn8]
    show Steps p.tables e below (T7.setTop (mkF m 52 #[vR aH, vI cc, vI (1 : Int32), vI (2 : Int32), vI (0 : Int32), vI kp, vI (-1 : Int32)] [(.int (8 : Int32)), (.int (2 : Int32))])) _
    refine XS.icmpYes X7.here hx rfl (pc0 := 52) (pc' := 91) rfl (hb hby d38_52) rfl (Jvm.Free.XT.ii_le_t (by decide)) (by decide) (by decide) ?_
    refine XS.aloadN X7.here hx rfl (hb hby d38_91) rfl rfl ?_
    refine st9 t ?_
    refine XS.iconst X9.here hx rfl (hb hby d38_95) ?_
    refine XS.aloadN X9.here hx rfl (hb hby d38_96) rfl rfl ?_
    refine st10 t ?_
    show Steps p.tables e below (T10.setTop (mkF m 100 #[vR aH, vI cc, vI (1 : Int32), vI (2 : Int32), vI (0 : Int32), vI kp, vI (-1 : Int32)] [(.ref aP), (.int (2 : Int32)), (.ref aQ)])) _
    refine st11.trans ?_
    refine XS.imul X11.here hx rfl (hb hby d38_103) rfl ?_
    refine XS.iloadN X11.here hx rfl (hb hby d38_104) rfl ?_
    refine st13 t ?_
    refine XS.aloadN X13.here hx rfl (hb hby d38_106) rfl rfl ?_
    refine st20 t ?_
    show Steps p.tables e below (T20.setTop (mkF m 110 #[vR aH, vI cc, vI (1 : Int32), vI (2 : Int32), vI (0 : Int32), vI kp, vI (-1 : Int32)] [(.ref aQ)])) _
    refine XS.iconst X20.here hx rfl (hb hby d38_110) ?_
    refine XS.aloadN X20.here hx rfl (hb hby d38_111) rfl rfl ?_
    refine st21 t ?_
    refine st22.trans ?_
    refine XS.imul X22.here hx rfl (hb hby d38_118) rfl ?_
    refine XS.iconst X22.here hx rfl (hb hby d38_119) ?_
    show Steps p.tables e below (T22.setTop (mkF m 120 #[vR aH, vI cc, vI (1 : Int32), vI (2 : Int32), vI (0 : Int32), vI kp, vI (-1 : Int32)] [(.int (1 : Int32)), (.int (0 : Int32)), (.ref aQ)])) _
    refine XS.iadd X22.here hx rfl (hb hby d38_120) rfl ?_
    refine XS.iloadN X22.here hx rfl (hb hby d38_121) rfl ?_
    refine st24 t ?_
    refine XS.aloadN X24.here hx rfl (hb hby d38_123) rfl rfl ?_
    refine st31 t ?_
    refine XS.aloadN X31.here hx rfl (hb hby d38_127) rfl rfl ?_
    show Steps p.tables e below (T31.setTop (mkF m 128 #[vR aH, vI cc, vI (1 : Int32), vI (2 : Int32), vI (0 : Int32), vI kp, vI (-1 : Int32)] [(.ref aH), (.ref aK)])) _
    refine st32 t ?_
    refine st33.trans ?_
    refine XS.iload X33.here hx rfl (hb hby d38_134) rfl ?_
    refine st35 t ?_
    refine XS.aloadN X35.here hx rfl (hb hby d38_137) rfl rfl ?_
    refine st42 t ?_
    show Steps p.tables e below (T42.setTop (mkF m 141 #[vR aH, vI cc, vI (1 : Int32), vI (2 : Int32), vI (0 : Int32), vI kp, vI (-1 : Int32)] [(.ref aP)])) _
    refine XS.iload X42.here hx rfl (hb hby d38_141) rfl ?_
    refine XS.ifYes X42.here hx rfl (pc0 := 143) (pc' := 151) rfl (hb hby d38_143) rfl (Jvm.Free.XT.i0_eq_t (by decide)) (by decide) (by decide) ?_
    refine XS.iloadN X42.here hx rfl (hb hby d38_151) rfl ?_
    refine st43.trans ?_
    refine XS.pop X43.here hx rfl (hb hby d38_155) rfl rfl ?_
    refine XS.aloadN X43.here hx rfl (hb hby d38_156) rfl rfl ?_
    show Steps p.tables e below (T43.setTop (mkF m 157 #[vR aH, vI cc, vI (1 : Int32), vI (2 : Int32), vI (0 : Int32), vI kp, vI (-1 : Int32)] [(.ref aH)])) _
    refine XS.iload X43.here hx rfl (hb hby d38_157) rfl ?_
    refine st48 t ?_
    exact k
  obtain ⟨fs, hr, hrun, hended, hW, hsame⟩ := X48.leave (v := none) (fun _ => rfl)
  refine ⟨_, _, go55 _ ?_, hrun, hended, _, _, rfl, ?_, ⟨_, rfl⟩, hW, hsame.mono (by decide) (by decide)⟩
  · exact X48.returnOut hx Bd.returns (hb hby d38_162) hr
  · show QSp0 Z _ _ _ _ _ _ _ _ _ _ _ _ _ _ _ _ _ _ _ _ _ _ _ _ _ _ _ _ T48.heap _
    rw [e48]
    exact ⟨rfl, N54, K52, ⟨_, _, _, _, _, _, _, _, _, HX53⟩⟩
theorem ef_rmSp1 (m : MethodId) (aH : Addr) (cc : Int32) (kp : Int32) : entryFrame m #[(.ref aH), (.int cc), (.int (1 : Int32)), (.int (2 : Int32)), (.int (1 : Int32)), (.int kp)] 7 = mkF m 0 #[.val (.ref aH), .val (.int cc), .val (.int (1 : Int32)), .val (.int (2 : Int32)), .val (.int (1 : Int32)), .val (.int kp), .unset] [] := by first | (simp [entryFrame, mkF, argsToLocals, Value.category]; done) | rfl
def QSp1 (Z : State) (aH : Addr) (cc : Int32) (kp : Int32) (aT vT aP vP aQ aK ob o1 o2 o3 o4 : Addr) (tx : List Int32) (K : Nat) (brk : Int32) (tabs : Int32) (cells : Int32) (par : Int32) (ls : Int32) (inr : Int32) (rs : Int32) (cs : Int32) (fm : Value) (h0 : Heap) (n0 : Nat) (v : Option Value) (h : Heap) (L : List Loc) : Prop := v = none ∧ Fr n0 L ∧ Keep h0 h [aH, aT, vT, aP, vP, aQ, aK, ob, o1, o2, o3, o4] ∧ own_HB Z h aH aT vT aP vP aQ aK ob o1 o2 o3 o4 tx [(32 : Int32)] (1 : Int32) [(.int (1 : Int32)), (.int (2 : Int32)), (.int (0 : Int32)), (.int (0 : Int32)), (.int (0 : Int32)), (.int (0 : Int32)), (.int (0 : Int32)), (.int (0 : Int32))] [(.int (nar .boolean kp)), (.int (0 : Int32)), (.int (0 : Int32)), (.int (0 : Int32))] K brk tabs cells par (1 : Int32) ls inr rs
set_option maxRecDepth 65536 in
set_option maxHeartbeats 40000000 in
theorem rmSp1 (l : Launch) (Z : State) (a0 : Array Value) (hw : ∀ d ∈ tables_1, d.before a0 Z = true) (ws : List Jvm.Cond) (aH : Addr) (cc : Int32) (kp : Int32) (aT vT aP vP aQ aK ob o1 o2 o3 o4 : Addr) (tx : List Int32) (K : Nat) (brk : Int32) (tabs : Int32) (cells : Int32) (par : Int32) (ls : Int32) (inr : Int32) (rs : Int32) (cs : Int32) (fm : Value) (h0 : Heap) (n0 : Nat) (Z0 : n0 ≤ h0.size) (O0 : Old Z n0 h0) (S_CS : Sta Z Z.heap "java/lang/String" "COMPACT_STRINGS" "Z" (.int cs)) (hcs : ¬ cs = 0) (S_FM : Sta Z Z.heap "jdk/internal/util/Preconditions" "SIOOBE_FORMATTER" "Ljava/util/function/BiFunction;" fm) (hfm : fm.isRef = true) (HB : own_HB Z h0 aH aT vT aP vP aQ aK ob o1 o2 o3 o4 tx [] (0 : Int32) [] [] K brk tabs cells par (0 : Int32) ls inr rs) (D : List.Nodup [aH, aT, vT, aP, vP, aQ, aK, ob, o1, o2, o3, o4]) (gN : ∀ y ∈ [aH, aT, vT, aP, vP, aQ, aK, ob, o1, o2, o3, o4], n0 ≤ y) (hB : (tx : List Int32).length < 8) (hKb : K < 10) (hc : ¬ cc < 0 ∧ ¬ (255 : Int32) < cc) :
    MetFree l mN_10 (head1 (Jvm.Cond.code mN_10 prog_41_method_7_code 7 none :: ws) rO_13) (fun a U => a = #[(.ref aH), (.int cc), (.int (1 : Int32)), (.int (2 : Int32)), (.int (1 : Int32)), (.int kp)] ∧ Z.Warmed39 U.vm ∧ U.heap = h0) (fun _ _ _ _ _ => True) (fun _ U o U' => ∃ v L, o = .returned v ∧ QSp1 Z aH cc kp aT vT aP vP aQ aK ob o1 o2 o3 o4 tx K brk tabs cells par ls inr rs cs fm h0 n0 v U'.heap L ∧ FrameEnd U o U' L rO_13.cells rO_13.slots) := by
  refine MetFree.of_bodySF (plainFor_of_name pn_7) hisR ?_
  intro p e s m args below meth c s₁ Bd hml0 hP hK
  obtain ⟨rfl, hZ, hh⟩ := hP
  have hx := Bd.exec
  have hby := Bd.bytes
  have hml : c.maxLocals = 7 := hml0
  have hown : s.vm.findClass "com/example/whereas/whereas/model/HtmlLayout" = some m.cls := findClass_of_methodNamed Bd.named
  have hnm := (name_of_methodNamed Bd.named Bd.method).1
  have X0 : Stand p l e rO_13 s m #[(.ref aH), (.int cc), (.int (1 : Int32)), (.int (2 : Int32)), (.int (1 : Int32)), (.int kp)] below meth c s₁ [] 0 0 := Stand.of_body Bd
  have e0 : s₁.heap = h0 := by rw [← hh, Bd.state]; rfl
  have N0 := Fr.nil n0
  have K0 := Keep.refl h0 [aH, aT, vT, aP, vP, aQ, aK, ob, o1, o2, o3, o4]
  have go0 : Goes p e below s₁ (entryFrame m #[(.ref aH), (.int cc), (.int (1 : Int32)), (.int (2 : Int32)), (.int (1 : Int32)), (.int kp)] 7) s₁ (mkF m 0 #[vR aH, vI cc, vI (1 : Int32), vI (2 : Int32), vI (1 : Int32), vI kp, .unset] []) := fun t k => castTop (ef_rmSp1 m aH cc kp) k
  obtain ⟨kT, kP, kQ, kK, nT, mT, mP, rr, ll, HX0⟩ := HB
  have HX1 := hx_pad_aQ HX0
  have HX2 := hx_pad_aK HX1
  obtain ⟨T3, X3, e3, st3⟩ := getF X0 hx hZ hown (host := "") (Or.inl (own_w hw 50 rfl)) Via.refl e0 (pj_FH_pending HX2) (g := (mkF m 1 #[vR aH, vI cc, vI (1 : Int32), vI (2 : Int32), vI (1 : Int32), vI kp, .unset] [(.ref aH)])) rfl rfl (hb hby d38_1)
  obtain ⟨cq4, kq4, q4a, q4b, q4c⟩ := isOf hZ e3 (pj_EsP_ HX2)
  obtain ⟨_, _, ⟨T4, L4, k4, n4⟩, -, X4, ⟨Lc4, hQ4, l4, y4, z4⟩, st4⟩ := X3.virtualBack hx (y := mN_0) (z := mN_0) hown (mvT hZ (own_w hw 66 rfl)) (mvT hZ (own_w hw 67 rfl)) (notFace_of_selects (args := #[]) (mvT hZ (own_w hw 69 rfl))) (mvT hZ (own_w hw 69 rfl)) (mvT hZ (own_w hw 68 rfl)) (by decide) (backOf (W := 0) (rmSl l Z a0 hw [] aP (0 : Int32) h0 n0 Z0 (pj_EsP_ HX2) (pj_FnP_ HX2)) hZ (own_w hw 70 rfl) (own_w hw 11 rfl) (by decide) (by decide)) q4a q4c (g := (mkF m 4 #[vR aH, vI cc, vI (1 : Int32), vI (2 : Int32), vI (1 : Int32), vI kp, .unset] [(.ref aP)])) rfl (by rw [hml]; rfl) (Steps.refl _) (argsL := []) (rest := []) (lenOf pd_4 rfl) rfl (by show 2 * 0 + _ ≤ _; exact Nat.le_of_eq rfl) (hb hby d38_4) (fun _ _ => ⟨rfl, e3, (by decide : 0 + 0 ≤ rO_13.cells), (by decide : 0 + 0 ≤ rO_13.slots)⟩)
  dsimp only [Pt.U, Pt.locs, Pt.cells, Pt.slots] at X4 l4 y4 z4 st4 hQ4
  subst l4 y4 z4
  obtain ⟨rfl, N4q, e4⟩ := hQ4
  have N4 := Fr.app N0 N4q
  obtain ⟨T5, X5, e5, st5⟩ := getF X4 hx hZ hown (host := "") (Or.inl (own_w hw 96 rfl)) Via.refl e4 (pj_FH_collapsing HX2) (g := (mkF m 17 #[vR aH, vI cc, vI (1 : Int32), vI (2 : Int32), vI (1 : Int32), vI kp, vI (-1 : Int32)] [(.ref aH)])) rfl rfl (hb hby d38_17)
  obtain ⟨T6, X6, e6, st6⟩ := getF X5 hx hZ hown (host := "") (Or.inl (own_w hw 50 rfl)) Via.refl e5 (pj_FH_pending HX2) (g := (mkF m 38 #[vR aH, vI cc, vI (1 : Int32), vI (2 : Int32), vI (1 : Int32), vI kp, vI (-1 : Int32)] [(.ref aH), (.int (2 : Int32))])) rfl rfl (hb hby d38_38)
  obtain ⟨cq7, kq7, q7a, q7b, q7c⟩ := isOf hZ e6 (pj_EsP_ HX2)
  obtain ⟨_, _, ⟨T7, L7, k7, n7⟩, -, X7, ⟨Lc7, hQ7, l7, y7, z7⟩, st7⟩ := X6.virtualBack hx (y := mN_0) (z := mN_0) hown (mvT hZ (own_w hw 66 rfl)) (mvT hZ (own_w hw 67 rfl)) (notFace_of_selects (args := #[]) (mvT hZ (own_w hw 69 rfl))) (mvT hZ (own_w hw 69 rfl)) (mvT hZ (own_w hw 68 rfl)) (by decide) (backOf (W := 1) (rmSl l Z a0 hw [] aP (0 : Int32) h0 n0 Z0 (pj_EsP_ HX2) (pj_FnP_ HX2)) hZ (own_w hw 70 rfl) (own_w hw 11 rfl) (by decide) (by decide)) q7a q7c (g := (mkF m 41 #[vR aH, vI cc, vI (1 : Int32), vI (2 : Int32), vI (1 : Int32), vI kp, vI (-1 : Int32)] [(.ref aP), (.int (2 : Int32))])) rfl (by rw [hml]; rfl) (Steps.refl _) (argsL := []) (rest := [(.int (2 : Int32))]) (lenOf pd_4 rfl) rfl (by show 2 * 0 + _ ≤ _; exact Nat.le_of_eq rfl) (hb hby d38_41) (fun _ _ => ⟨rfl, e6, (by decide : 0 + 0 ≤ rO_13.cells), (by decide : 0 + 0 ≤ rO_13.slots)⟩)
  dsimp only [Pt.U, Pt.locs, Pt.cells, Pt.slots] at X7 l7 y7 z7 st7 hQ7
  subst l7 y7 z7
  obtain ⟨rfl, N7q, e7⟩ := hQ7
  have N7 := Fr.app N4 N7q
  obtain ⟨T8, X8, e8, st8⟩ := getF X7 hx hZ hown (host := "") (Or.inl (own_w hw 52 rfl)) Via.refl e7 (pj_FH_pendingOrigins HX2) (g := (mkF m 48 #[vR aH, vI cc, vI (1 : Int32), vI (2 : Int32), vI (1 : Int32), vI kp, vI (-1 : Int32)] [(.ref aH), (.int (2 : Int32))])) rfl rfl (hb hby d38_48)
  obtain ⟨cl9, Ar9, kq9, Sz9, Nn9, Hs9, Gf9⟩ := id ((pj_VQ_ HX2))
  obtain ⟨T10, X10, e10, st10⟩ := getF X8 hx hZ hown (host := "") (Or.inl (own_w hw 52 rfl)) Via.refl e8 (pj_FH_pendingOrigins HX2) (g := (mkF m 92 #[vR aH, vI cc, vI (1 : Int32), vI (2 : Int32), vI (1 : Int32), vI kp, vI (-1 : Int32)] [(.ref aH)])) rfl rfl (hb hby d38_92)
  obtain ⟨T11, X11, e11, st11⟩ := getF X10 hx hZ hown (host := "") (Or.inl (own_w hw 50 rfl)) Via.refl e10 (pj_FH_pending HX2) (g := (mkF m 97 #[vR aH, vI cc, vI (1 : Int32), vI (2 : Int32), vI (1 : Int32), vI kp, vI (-1 : Int32)] [(.ref aH), (.int (2 : Int32)), (.ref aQ)])) rfl rfl (hb hby d38_97)
  obtain ⟨cq12, kq12, q12a, q12b, q12c⟩ := isOf hZ e11 (pj_EsP_ HX2)
  obtain ⟨_, _, ⟨T12, L12, k12, n12⟩, -, X12, ⟨Lc12, hQ12, l12, y12, z12⟩, st12⟩ := X11.virtualBack hx (y := mN_0) (z := mN_0) hown (mvT hZ (own_w hw 66 rfl)) (mvT hZ (own_w hw 67 rfl)) (notFace_of_selects (args := #[]) (mvT hZ (own_w hw 69 rfl))) (mvT hZ (own_w hw 69 rfl)) (mvT hZ (own_w hw 68 rfl)) (by decide) (backOf (W := 2) (rmSl l Z a0 hw [] aP (0 : Int32) h0 n0 Z0 (pj_EsP_ HX2) (pj_FnP_ HX2)) hZ (own_w hw 70 rfl) (own_w hw 11 rfl) (by decide) (by decide)) q12a q12c (g := (mkF m 100 #[vR aH, vI cc, vI (1 : Int32), vI (2 : Int32), vI (1 : Int32), vI kp, vI (-1 : Int32)] [(.ref aP), (.int (2 : Int32)), (.ref aQ)])) rfl (by rw [hml]; rfl) (Steps.refl _) (argsL := []) (rest := [(.int (2 : Int32)), (.ref aQ)]) (lenOf pd_4 rfl) rfl (by show 2 * 0 + _ ≤ _; exact Nat.le_of_eq rfl) (hb hby d38_100) (fun _ _ => ⟨rfl, e11, (by decide : 0 + 0 ≤ rO_13.cells), (by decide : 0 + 0 ≤ rO_13.slots)⟩)
  dsimp only [Pt.U, Pt.locs, Pt.cells, Pt.slots] at X12 l12 y12 z12 st12 hQ12
  subst l12 y12 z12
  obtain ⟨rfl, N12q, e12⟩ := hQ12
  have N12 := Fr.app N7 N12q
  obtain ⟨cl13, Ar13, kq13, Sz13, Nn13, Hs13, Gf13⟩ := id ((pj_VQ_ HX2))
  have hin13 : ¬ ((0 : Int32) < 0 ∨ cl13.slots.size ≤ ((0 : Int32)).toNatClampNeg) := inb_of Sz13 ⟨by decide, by decide⟩
  obtain ⟨T14, h14, X14, e14, W14, st14⟩ := stI X12 hx hZ e12 Ar13 (j := (0 : Int32)) hin13 (g := (mkF m 105 #[vR aH, vI cc, vI (1 : Int32), vI (2 : Int32), vI (1 : Int32), vI kp, vI (-1 : Int32)] [(.int (1 : Int32)), (.int (0 : Int32)), (.ref aQ)])) rfl rfl (hb hby d38_105)
  have V15 : Arv Z h14 aQ kQ .int (8 : Int32) [(.int (1 : Int32)), (.int (0 : Int32)), (.int (0 : Int32)), (.int (0 : Int32)), (.int (0 : Int32)), (.int (0 : Int32)), (.int (0 : Int32)), (.int (0 : Int32))] (.int (0 : Int32)) := Arv.set Ar13 kq13 Sz13 Nn13 Hs13 Gf13 rfl W14 0 rfl (Nat.le_of_ble_eq_true rfl)
  have O16 := O0.wr W14 (gN _ (List.mem_of_getElem? (i := 5) rfl))
  have Z17 := Nat.le_trans Z0 (Nat.le_of_eq W14.size.symm)
  have K18 := K0.wr W14 (Or.inl (List.mem_of_getElem? (i := 5) rfl))
  have HX19 := hx_W_aQ HX2 D W14 V15
  have N20 := Fr.snoc X14 N12 (gN _ (List.mem_of_getElem? (i := 5) rfl))
  obtain ⟨T21, X21, e21, st21⟩ := getF X14 hx hZ hown (host := "") (Or.inl (own_w hw 52 rfl)) Via.refl e14 (pj_FH_pendingOrigins HX19) (g := (mkF m 107 #[vR aH, vI cc, vI (1 : Int32), vI (2 : Int32), vI (1 : Int32), vI kp, vI (-1 : Int32)] [(.ref aH)])) rfl rfl (hb hby d38_107)
  obtain ⟨T22, X22, e22, st22⟩ := getF X21 hx hZ hown (host := "") (Or.inl (own_w hw 50 rfl)) Via.refl e21 (pj_FH_pending HX19) (g := (mkF m 112 #[vR aH, vI cc, vI (1 : Int32), vI (2 : Int32), vI (1 : Int32), vI kp, vI (-1 : Int32)] [(.ref aH), (.int (2 : Int32)), (.ref aQ)])) rfl rfl (hb hby d38_112)
  obtain ⟨cq23, kq23, q23a, q23b, q23c⟩ := isOf hZ e22 (pj_EsP_ HX19)
  obtain ⟨_, _, ⟨T23, L23, k23, n23⟩, -, X23, ⟨Lc23, hQ23, l23, y23, z23⟩, st23⟩ := X22.virtualBack hx (y := mN_0) (z := mN_0) hown (mvT hZ (own_w hw 66 rfl)) (mvT hZ (own_w hw 67 rfl)) (notFace_of_selects (args := #[]) (mvT hZ (own_w hw 69 rfl))) (mvT hZ (own_w hw 69 rfl)) (mvT hZ (own_w hw 68 rfl)) (by decide) (backOf (W := 2) (rmSl l Z a0 hw [] aP (0 : Int32) h14 n0 Z17 (pj_EsP_ HX19) (pj_FnP_ HX19)) hZ (own_w hw 70 rfl) (own_w hw 11 rfl) (by decide) (by decide)) q23a q23c (g := (mkF m 115 #[vR aH, vI cc, vI (1 : Int32), vI (2 : Int32), vI (1 : Int32), vI kp, vI (-1 : Int32)] [(.ref aP), (.int (2 : Int32)), (.ref aQ)])) rfl (by rw [hml]; rfl) (Steps.refl _) (argsL := []) (rest := [(.int (2 : Int32)), (.ref aQ)]) (lenOf pd_4 rfl) rfl (by show 2 * 0 + _ ≤ _; exact Nat.le_of_eq rfl) (hb hby d38_115) (fun _ _ => ⟨rfl, e22, (by decide : 0 + 0 ≤ rO_13.cells), (by decide : 0 + 0 ≤ rO_13.slots)⟩)
  dsimp only [Pt.U, Pt.locs, Pt.cells, Pt.slots] at X23 l23 y23 z23 st23 hQ23
  subst l23 y23 z23
  obtain ⟨rfl, N23q, e23⟩ := hQ23
  have N23 := Fr.app N20 N23q
  obtain ⟨cl24, Ar24, kq24, Sz24, Nn24, Hs24, Gf24⟩ := id ((pj_VQ_ HX19))
  have hin24 : ¬ ((1 : Int32) < 0 ∨ cl24.slots.size ≤ ((1 : Int32)).toNatClampNeg) := inb_of Sz24 ⟨by decide, by decide⟩
  obtain ⟨T25, h25, X25, e25, W25, st25⟩ := stI X23 hx hZ e23 Ar24 (j := (1 : Int32)) hin24 (g := (mkF m 122 #[vR aH, vI cc, vI (1 : Int32), vI (2 : Int32), vI (1 : Int32), vI kp, vI (-1 : Int32)] [(.int (2 : Int32)), (.int (1 : Int32)), (.ref aQ)])) rfl rfl (hb hby d38_122)
  have V26 : Arv Z h25 aQ kQ .int (8 : Int32) [(.int (1 : Int32)), (.int (2 : Int32)), (.int (0 : Int32)), (.int (0 : Int32)), (.int (0 : Int32)), (.int (0 : Int32)), (.int (0 : Int32)), (.int (0 : Int32))] (.int (0 : Int32)) := Arv.set Ar24 kq24 Sz24 Nn24 Hs24 Gf24 rfl W25 1 rfl (Nat.le_of_ble_eq_true rfl)
  have O27 := O16.wr W25 (gN _ (List.mem_of_getElem? (i := 5) rfl))
  have Z28 := Nat.le_trans Z17 (Nat.le_of_eq W25.size.symm)
  have K29 := K18.wr W25 (Or.inl (List.mem_of_getElem? (i := 5) rfl))
  have HX30 := hx_W_aQ HX19 D W25 V26
  have N31 := Fr.snoc X25 N23 (gN _ (List.mem_of_getElem? (i := 5) rfl))
  obtain ⟨T32, X32, e32, st32⟩ := getF X25 hx hZ hown (host := "") (Or.inl (own_w hw 54 rfl)) Via.refl e25 (pj_FH_pendingKept HX30) (g := (mkF m 124 #[vR aH, vI cc, vI (1 : Int32), vI (2 : Int32), vI (1 : Int32), vI kp, vI (-1 : Int32)] [(.ref aH)])) rfl rfl (hb hby d38_124)
  obtain ⟨T33, X33, e33, st33⟩ := getF X32 hx hZ hown (host := "") (Or.inl (own_w hw 50 rfl)) Via.refl e32 (pj_FH_pending HX30) (g := (mkF m 128 #[vR aH, vI cc, vI (1 : Int32), vI (2 : Int32), vI (1 : Int32), vI kp, vI (-1 : Int32)] [(.ref aH), (.ref aK)])) rfl rfl (hb hby d38_128)
  obtain ⟨cq34, kq34, q34a, q34b, q34c⟩ := isOf hZ e33 (pj_EsP_ HX30)
  obtain ⟨_, _, ⟨T34, L34, k34, n34⟩, -, X34, ⟨Lc34, hQ34, l34, y34, z34⟩, st34⟩ := X33.virtualBack hx (y := mN_0) (z := mN_0) hown (mvT hZ (own_w hw 66 rfl)) (mvT hZ (own_w hw 67 rfl)) (notFace_of_selects (args := #[]) (mvT hZ (own_w hw 69 rfl))) (mvT hZ (own_w hw 69 rfl)) (mvT hZ (own_w hw 68 rfl)) (by decide) (backOf (W := 1) (rmSl l Z a0 hw [] aP (0 : Int32) h25 n0 Z28 (pj_EsP_ HX30) (pj_FnP_ HX30)) hZ (own_w hw 70 rfl) (own_w hw 11 rfl) (by decide) (by decide)) q34a q34c (g := (mkF m 131 #[vR aH, vI cc, vI (1 : Int32), vI (2 : Int32), vI (1 : Int32), vI kp, vI (-1 : Int32)] [(.ref aP), (.ref aK)])) rfl (by rw [hml]; rfl) (Steps.refl _) (argsL := []) (rest := [(.ref aK)]) (lenOf pd_4 rfl) rfl (by show 2 * 0 + _ ≤ _; exact Nat.le_of_eq rfl) (hb hby d38_131) (fun _ _ => ⟨rfl, e33, (by decide : 0 + 0 ≤ rO_13.cells), (by decide : 0 + 0 ≤ rO_13.slots)⟩)
  dsimp only [Pt.U, Pt.locs, Pt.cells, Pt.slots] at X34 l34 y34 z34 st34 hQ34
  subst l34 y34 z34
  obtain ⟨rfl, N34q, e34⟩ := hQ34
  have N34 := Fr.app N31 N34q
  obtain ⟨cl35, Ar35, kq35, Sz35, Nn35, Hs35, Gf35⟩ := id ((pj_VK_ HX30))
  have hin35 : ¬ ((0 : Int32) < 0 ∨ cl35.slots.size ≤ ((0 : Int32)).toNatClampNeg) := inb_of Sz35 ⟨by decide, by decide⟩
  obtain ⟨T36, h36, X36, e36, W36, st36⟩ := stZ X34 hx hZ e34 Ar35 (j := (0 : Int32)) hin35 (g := (mkF m 136 #[vR aH, vI cc, vI (1 : Int32), vI (2 : Int32), vI (1 : Int32), vI kp, vI (-1 : Int32)] [(.int kp), (.int (0 : Int32)), (.ref aK)])) rfl rfl (hb hby d38_136)
  have V37 : Arv Z h36 aK kK .boolean (4 : Int32) [(.int (nar .boolean kp)), (.int (0 : Int32)), (.int (0 : Int32)), (.int (0 : Int32))] (.int (0 : Int32)) := Arv.set Ar35 kq35 Sz35 Nn35 Hs35 Gf35 (fits_nar_bool _) W36 0 rfl (Nat.le_of_ble_eq_true rfl)
  have O38 := O27.wr W36 (gN _ (List.mem_of_getElem? (i := 6) rfl))
  have Z39 := Nat.le_trans Z28 (Nat.le_of_eq W36.size.symm)
  have K40 := K29.wr W36 (Or.inl (List.mem_of_getElem? (i := 6) rfl))
  have HX41 := hx_W_aK HX30 D W36 V37
  have N42 := Fr.snoc X36 N34 (gN _ (List.mem_of_getElem? (i := 6) rfl))
  obtain ⟨T43, X43, e43, st43⟩ := getF X36 hx hZ hown (host := "") (Or.inl (own_w hw 50 rfl)) Via.refl e36 (pj_FH_pending HX41) (g := (mkF m 138 #[vR aH, vI cc, vI (1 : Int32), vI (2 : Int32), vI (1 : Int32), vI kp, vI (-1 : Int32)] [(.ref aH)])) rfl rfl (hb hby d38_138)
  obtain ⟨cq44, kq44, q44a, q44b, q44c⟩ := isOf hZ e43 (pj_EsP_ HX41)
  obtain ⟨_, _, ⟨T44, L44, k44, n44⟩, -, X44, ⟨Lc44, hQ44, l44, y44, z44⟩, st44⟩ := X43.virtualBack hx (y := mN_1) (z := mN_1) hown (mvT hZ (own_w hw 201 rfl)) (mvT hZ (own_w hw 202 rfl)) (notFace_of_selects (args := #[]) (mvT hZ (own_w hw 204 rfl))) (mvT hZ (own_w hw 204 rfl)) (mvT hZ (own_w hw 203 rfl)) (by decide) (backOf (W := 0) (rmSc l Z a0 hw [] aP (32 : Int32) vP kP (0 : Int32) mP [] cs h36 n0 Z39 O38 S_CS hcs (pj_EsP_ HX41) (pj_FvP_ HX41) (pj_FcP_ HX41) (pj_FnP_ HX41) (pj_FmP_ HX41) (pj_VaP_ HX41) (nd_3_4 D) (gN _ (List.mem_of_getElem? (i := 3) rfl)) (gN _ (List.mem_of_getElem? (i := 4) rfl)) own_ln0 (by decide)) hZ (own_w hw 205 rfl) (own_w hw 11 rfl) (by decide) (by decide)) q44a q44c (g := (mkF m 152 #[vR aH, vI cc, vI (1 : Int32), vI (2 : Int32), vI (1 : Int32), vI kp, vI (-1 : Int32)] [(.int (32 : Int32)), (.ref aP)])) rfl (by rw [hml]; rfl) (Steps.refl _) (argsL := [(.int (32 : Int32))]) (rest := []) (lenOf pd_16 rfl) rfl (by show 2 * 0 + _ ≤ _; exact Nat.le_of_eq rfl) (hb hby d38_152) (fun _ _ => ⟨rfl, e43, (by decide : 0 + 0 ≤ rO_13.cells), (by decide : 0 + 0 ≤ rO_13.slots)⟩)
  dsimp only [Pt.U, Pt.locs, Pt.cells, Pt.slots] at X44 l44 y44 z44 st44 hQ44
  subst l44 y44 z44
  obtain ⟨rfl, N44q, Kq44, E1q44, FVq44, FCq44, FNq44, FMq44, V1q44⟩ := hQ44
  have N44 := Fr.app N42 N44q
  have HX45 := (hx_P2 HX41 D Kq44 E1q44 FVq44 FCq44 FNq44 FMq44 V1q44 : own_HX Z T44.heap aH aT vT aP vP aQ aK ob o1 o2 o3 o4 kT kP kQ kK nT mT mP rr ll tx [(32 : Int32)] (1 : Int32) [(.int (1 : Int32)), (.int (2 : Int32)), (.int (0 : Int32)), (.int (0 : Int32)), (.int (0 : Int32)), (.int (0 : Int32)), (.int (0 : Int32)), (.int (0 : Int32))] [(.int (nar .boolean kp)), (.int (0 : Int32)), (.int (0 : Int32)), (.int (0 : Int32))] K brk tabs cells par (0 : Int32) ls inr rs)
  have O46 := O38.keep Kq44 (allS (gN _ (List.mem_of_getElem? (i := 3) rfl)) (allS (gN _ (List.mem_of_getElem? (i := 4) rfl)) all0))
  have Z47 := Nat.le_trans Z39 Kq44.1
  have K48 := K40.trans Kq44 (allS (Or.inl (List.mem_of_getElem? (i := 3) rfl)) (allS (Or.inl (List.mem_of_getElem? (i := 4) rfl)) all0))
  obtain ⟨T49, h49, X49, e49, W49, st49⟩ := putFN X44 hx hZ hown (own_w hw 96 rfl) Via.refl rfl (pj_FH_collapsing HX45) (pj_EH HX45) (Or.inl (own_w hw 97 rfl)) (own_w hw 1 rfl) (ty := .boolean) (v' := (.int (1 : Int32))) (by decide) rfl rfl (g := (mkF m 159 #[vR aH, vI cc, vI (1 : Int32), vI (2 : Int32), vI (1 : Int32), vI kp, vI (-1 : Int32)] [(.int (1 : Int32)), (.ref aH)])) rfl rfl (hb hby d38_159)
  have f50 := (pj_FH_collapsing HX45).same W49
  have O51 := O46.wr W49 (gN _ (List.mem_of_getElem? (i := 0) rfl))
  have Z52 := Nat.le_trans Z47 (Nat.le_of_eq W49.size.symm)
  have K53 := K48.wr W49 (Or.inl (List.mem_of_getElem? (i := 0) rfl))
  have HX54 := hx_w_col hw HX45 D W49 f50
  have N55 := Fr.snoc X49 N44 (gN _ (List.mem_of_getElem? (i := 0) rfl))
  have go56 : Goes p e below s₁ (entryFrame m #[(.ref aH), (.int cc), (.int (1 : Int32)), (.int (2 : Int32)), (.int (1 : Int32)), (.int kp)] 7) T49 (mkF m 162 #[vR aH, vI cc, vI (1 : Int32), vI (2 : Int32), vI (1 : Int32), vI kp, vI (-1 : Int32)] []) := fun t k => by
    refine go0 t ?_
    refine XS.aloadN X0.here hx rfl (hb hby d38_0) rfl rfl ?_
    refine st3 t ?_
    refine st4.trans ?_
    refine XS.iconst X4.here hx rfl (hb hby d38_7) ?_
    refine XS.isub X4.here hx rfl (hb hby d38_8) rfl ?_
    refine XS.istore X4.here hx rfl (hb hby d38_9) rfl (l' := #[vR aH, vI cc, vI (1 : Int32), vI (2 : Int32), vI (1 : Int32), vI kp, vI (-1 : Int32)]) rfl ?_
    show Steps p.tables e below (T4.setTop (mkF m 11 #[vR aH, vI cc, vI (1 : Int32), vI (2 : Int32), vI (1 : Int32), vI kp, vI (-1 : Int32)] [])) _
    refine XS.iload X4.here hx rfl (hb hby d38_11) rfl ?_
    refine XS.ifNo X4.here hx rfl (hb hby d38_13) rfl (Jvm.Free.XT.i0_eq_f (by decide)) ?_
    refine XS.aloadN X4.here hx rfl (hb hby d38_16) rfl rfl ?_
    refine st5 t ?_
    refine XS.ifYes X5.here hx rfl (pc0 := 20) (pc' := 36) rfl (hb hby d38_20) rfl (Jvm.Free.XT.i0_eq_t (by decide)) (by decide) (by decide) ?_
    refine XS.iconst X5.here hx rfl (hb hby d38_36) ?_
    show Steps p.tables e below (T5.setTop (mkF m 37 #[vR aH, vI cc, vI (1 : Int32), vI (2 : Int32), vI (1 : Int32), vI kp, vI (-1 : Int32)] [(.int (2 : Int32))])) _
    refine XS.aloadN X5.here hx rfl (hb hby d38_37) rfl rfl ?_
    refine st6 t ?_
    refine st7.trans ?_
    refine XS.imul X7.here hx rfl (hb hby d38_44) rfl ?_
    refine XS.iconst X7.here hx rfl (hb hby d38_45) ?_
    refine XS.iadd X7.here hx rfl (hb hby d38_46) rfl ?_
    show Steps p.tables e below (T7.setTop (mkF m 47 #[vR aH, vI cc, vI (1 : Int32), vI (2 : Int32), vI (1 : Int32), vI kp, vI (-1 : Int32)] [(.int (2 : Int32))])) _
    refine XS.aloadN X7.here hx rfl (hb hby d38_47) rfl rfl ?_
    refine st8 t ?_
    refine X8.arraylength hx (own_hp e8 Ar9.1) (State.isArrayOf_alike hZ.alike Ar9.2.1) (g := (mkF m 51 #[vR aH, vI cc, vI (1 : Int32), vI (2 : Int32), vI (1 : Int32), vI kp, vI (-1 : Int32)] [(.ref aQ), (.int (2 : Int32))])) rfl rfl (hb hby d38_51) _ ?_
    rw [len_of Sz9 Nn9]
    refine XS.icmpYes X8.here hx rfl (pc0 := 52) (pc' := 91) rfl (hb hby d38_52) rfl (Jvm.Free.XT.ii_le_t (by decide)) (by decide) (by decide) ?_
    refine XS.aloadN X8.here hx rfl (hb hby d38_91) rfl rfl ?_
    refine st10 t ?_
    show Steps p.tables e below (T10.setTop (mkF m 95 #[vR aH, vI cc, vI (1 : Int32), vI (2 : Int32), vI (1 : Int32), vI kp, vI (-1 : Int32)] [(.ref aQ)])) _
    refine XS.iconst X10.here hx rfl (hb hby d38_95) ?_
    refine XS.aloadN X10.here hx rfl (hb hby d38_96) rfl rfl ?_
    refine st11 t ?_
    refine st12.trans ?_
    refine XS.imul X12.here hx rfl (hb hby d38_103) rfl ?_
    refine XS.iloadN X12.here hx rfl (hb hby d38_104) rfl ?_
    show Steps p.tables e below (T12.setTop (mkF m 105 #[vR aH, vI cc, vI (1 : Int32), vI (2 : Int32), vI (1 : Int32), vI kp, vI (-1 : Int32)] [(.int (1 : Int32)), (.int (0 : Int32)), (.ref aQ)])) _
    refine st14 t ?_
    refine XS.aloadN X14.here hx rfl (hb hby d38_106) rfl rfl ?_
    refine st21 t ?_
    refine XS.iconst X21.here hx rfl (hb hby d38_110) ?_
    refine XS.aloadN X21.here hx rfl (hb hby d38_111) rfl rfl ?_
    refine st22 t ?_
    show Steps p.tables e below (T22.setTop (mkF m 115 #[vR aH, vI cc, vI (1 : Int32), vI (2 : Int32), vI (1 : Int32), vI kp, vI (-1 : Int32)] [(.ref aP), (.int (2 : Int32)), (.ref aQ)])) _
    refine st23.trans ?_
    refine XS.imul X23.here hx rfl (hb hby d38_118) rfl ?_
    refine XS.iconst X23.here hx rfl (hb hby d38_119) ?_
    refine XS.iadd X23.here hx rfl (hb hby d38_120) rfl ?_
    refine XS.iloadN X23.here hx rfl (hb hby d38_121) rfl ?_
    refine st25 t ?_
    show Steps p.tables e below (T25.setTop (mkF m 123 #[vR aH, vI cc, vI (1 : Int32), vI (2 : Int32), vI (1 : Int32), vI kp, vI (-1 : Int32)] [])) _
    refine XS.aloadN X25.here hx rfl (hb hby d38_123) rfl rfl ?_
    refine st32 t ?_
    refine XS.aloadN X32.here hx rfl (hb hby d38_127) rfl rfl ?_
    refine st33 t ?_
    refine st34.trans ?_
    refine XS.iload X34.here hx rfl (hb hby d38_134) rfl ?_
    show Steps p.tables e below (T34.setTop (mkF m 136 #[vR aH, vI cc, vI (1 : Int32), vI (2 : Int32), vI (1 : Int32), vI kp, vI (-1 : Int32)] [(.int kp), (.int (0 : Int32)), (.ref aK)])) _
    refine st36 t ?_
    refine XS.aloadN X36.here hx rfl (hb hby d38_137) rfl rfl ?_
    refine st43 t ?_
    refine XS.iload X43.here hx rfl (hb hby d38_141) rfl ?_
    refine XS.ifNo X43.here hx rfl (hb hby d38_143) rfl (Jvm.Free.XT.i0_eq_f (by decide)) ?_
    refine XS.bipush X43.here hx rfl (hb hby d38_146) ?_
    show Steps p.tables e below (T43.setTop (mkF m 148 #[vR aH, vI cc, vI (1 : Int32), vI (2 : Int32), vI (1 : Int32), vI kp, vI (-1 : Int32)] [(.int (32 : Int32)), (.ref aP)])) _
    refine XS.goto X43.here hx rfl (pc0 := 148) (pc' := 152) rfl (hb hby d38_148) (by decide) (by decide) ?_
    refine st44.trans ?_
    refine XS.pop X44.here hx rfl (hb hby d38_155) rfl rfl ?_
    refine XS.aloadN X44.here hx rfl (hb hby d38_156) rfl rfl ?_
    refine XS.iload X44.here hx rfl (hb hby d38_157) rfl ?_
    refine st49 t ?_
    exact k
  obtain ⟨fs, hr, hrun, hended, hW, hsame⟩ := X49.leave (v := none) (fun _ => rfl)
  refine ⟨_, _, go56 _ ?_, hrun, hended, _, _, rfl, ?_, ⟨_, rfl⟩, hW, hsame.mono (by decide) (by decide)⟩
  · exact X49.returnOut hx Bd.returns (hb hby d38_162) hr
  · show QSp1 Z _ _ _ _ _ _ _ _ _ _ _ _ _ _ _ _ _ _ _ _ _ _ _ _ _ _ _ _ T49.heap _
    rw [e49]
    exact ⟨rfl, N55, K53, ⟨_, _, _, _, _, _, _, _, _, HX54⟩⟩
theorem d15_0 : dc15 0 (.aload_n 0) 1 := by decide +kernel
theorem d15_1 : dc15 1 (.getfield 89) 3 := by decide +kernel
theorem d15_4 : dc15 4 (.ifCond .eq 29) 3 := by decide +kernel
theorem d15_7 : dc15 7 (.aload_n 0) 1 := by decide +kernel
theorem d15_8 : dc15 8 (.getfield 86) 3 := by decide +kernel
theorem d15_11 : dc15 11 (.ifCond .eq 22) 3 := by decide +kernel
theorem d15_14 : dc15 14 (.aload_n 0) 1 := by decide +kernel
theorem d15_15 : dc15 15 (.getfield 70) 3 := by decide +kernel
theorem d15_18 : dc15 18 (.ifCond .le 15) 3 := by decide +kernel
theorem d15_21 : dc15 21 (.aload_n 0) 1 := by decide +kernel
theorem d15_22 : dc15 22 (.bipush 9) 2 := by decide +kernel
theorem d15_24 : dc15 24 (.aload_n 0) 1 := by decide +kernel
theorem d15_25 : dc15 25 (.getfield 70) 3 := by decide +kernel
theorem d15_28 : dc15 28 (.iload_n 1) 1 := by decide +kernel
theorem d15_29 : dc15 29 (.iload_n 1) 1 := by decide +kernel
theorem d15_30 : dc15 30 (.invokevirtual 67) 3 := by decide +kernel
theorem d15_33 : dc15 33 (.aload_n 0) 1 := by decide +kernel
theorem d15_34 : dc15 34 (.invokevirtual 104) 3 := by decide +kernel
theorem d15_37 : dc15 37 (.return_) 1 := by decide +kernel
theorem ef_rmE (m : MethodId) (aH : Addr) (x : Int32) : entryFrame m #[(.ref aH), (.int x)] 2 = mkF m 0 #[.val (.ref aH), .val (.int x)] [] := by first | (simp [entryFrame, mkF, argsToLocals, Value.category]; done) | rfl
def QE (Z : State) (aH : Addr) (x : Int32) (aT vT aP vP aQ aK ob o1 o2 o3 o4 : Addr) (tx : List Int32) (px : List Int32) (cP : Int32) (po : List Value) (pk : List Value) (K : Nat) (brk : Int32) (tabs : Int32) (cells : Int32) (par : Int32) (col : Int32) (ls : Int32) (xs0 : List Int32) (cs : Int32) (fm : Value) (h0 : Heap) (n0 : Nat) (v : Option Value) (h : Heap) (L : List Loc) : Prop := v = none ∧ Fr n0 L ∧ Keep h0 h [aH, aT, vT, aP, vP, aQ, aK, ob, o1, o2, o3, o4] ∧ ∃ (par' brk' : Int32), own_HB Z h aH aT vT aP vP aQ aK ob o1 o2 o3 o4 tx px (0 : Int32) po pk K brk' (0 : Int32) cells par' (0 : Int32) (0 : Int32) (0 : Int32) (0 : Int32)
set_option maxRecDepth 65536 in
set_option maxHeartbeats 40000000 in
theorem rmE (l : Launch) (Z : State) (a0 : Array Value) (hw : ∀ d ∈ tables_1, d.before a0 Z = true) (ws : List Jvm.Cond) (aH : Addr) (x : Int32) (aT vT aP vP aQ aK ob o1 o2 o3 o4 : Addr) (tx : List Int32) (px : List Int32) (cP : Int32) (po : List Value) (pk : List Value) (K : Nat) (brk : Int32) (tabs : Int32) (cells : Int32) (par : Int32) (col : Int32) (ls : Int32) (xs0 : List Int32) (cs : Int32) (fm : Value) (h0 : Heap) (n0 : Nat) (Z0 : n0 ≤ h0.size) (O0 : Old Z n0 h0) (S_CS : Sta Z Z.heap "java/lang/String" "COMPACT_STRINGS" "Z" (.int cs)) (hcs : ¬ cs = 0) (S_FM : Sta Z Z.heap "jdk/internal/util/Preconditions" "SIOOBE_FORMATTER" "Ljava/util/function/BiFunction;" fm) (hfm : fm.isRef = true) (HB : own_HB Z h0 aH aT vT aP vP aQ aK ob o1 o2 o3 o4 tx px cP po pk K brk tabs cells par col ls (1 : Int32) (0 : Int32)) (D : List.Nodup [aH, aT, vT, aP, vP, aQ, aK, ob, o1, o2, o3, o4]) (gN : ∀ y ∈ [aH, aT, vT, aP, vP, aQ, aK, ob, o1, o2, o3, o4], n0 ≤ y) (hB : (tx : List Int32).length < 8) (hKb : K < 10) (hB2 : tx.length < 5) (hK2 : K < 7) (hcp : own_ln xs0 cP) :
    MetFree l mN_2 (head1 (Jvm.Cond.code mN_2 prog_41_method_12_code 2 none :: ws) rO_23) (fun a U => a = #[(.ref aH), (.int x)] ∧ Z.Warmed39 U.vm ∧ U.heap = h0) (fun _ _ _ _ _ => True) (fun _ U o U' => ∃ v L, o = .returned v ∧ QE Z aH x aT vT aP vP aQ aK ob o1 o2 o3 o4 tx px cP po pk K brk tabs cells par col ls xs0 cs fm h0 n0 v U'.heap L ∧ FrameEnd U o U' L rO_23.cells rO_23.slots) := by
  refine MetFree.of_bodySF (plainFor_of_name pn_7) hisR ?_
  intro p e s m args below meth c s₁ Bd hml0 hP hK
  obtain ⟨rfl, hZ, hh⟩ := hP
  have hx := Bd.exec
  have hby := Bd.bytes
  have hml : c.maxLocals = 2 := hml0
  have hown : s.vm.findClass "com/example/whereas/whereas/model/HtmlLayout" = some m.cls := findClass_of_methodNamed Bd.named
  have hnm := (name_of_methodNamed Bd.named Bd.method).1
  have X0 : Stand p l e rO_23 s m #[(.ref aH), (.int x)] below meth c s₁ [] 0 0 := Stand.of_body Bd
  have e0 : s₁.heap = h0 := by rw [← hh, Bd.state]; rfl
  have N0 := Fr.nil n0
  have K0 := Keep.refl h0 [aH, aT, vT, aP, vP, aQ, aK, ob, o1, o2, o3, o4]
  have go0 : Goes p e below s₁ (entryFrame m #[(.ref aH), (.int x)] 2) s₁ (mkF m 0 #[vR aH, vI x] []) := fun t k => castTop (ef_rmE m aH x) k
  obtain ⟨kT, kP, kQ, kK, nT, mT, mP, rr, ll, HX0⟩ := HB
  obtain ⟨T1, X1, e1, st1⟩ := getF X0 hx hZ hown (host := "") (Or.inl (own_w hw 100 rfl)) Via.refl e0 (pj_FH_inRow HX0) (g := (mkF m 1 #[vR aH, vI x] [(.ref aH)])) rfl rfl (hb hby d15_1)
  obtain ⟨T2, X2, e2, st2⟩ := getF X1 hx hZ hown (host := "") (Or.inl (own_w hw 104 rfl)) Via.refl e1 (pj_FH_rowShows HX0) (g := (mkF m 8 #[vR aH, vI x] [(.ref aH)])) rfl rfl (hb hby d15_8)
  obtain ⟨cq3, kq3, q3a, q3b, q3c⟩ := isOf hZ e2 (pj_EH HX0)
  obtain ⟨_, _, ⟨T3, L3, k3, n3⟩, -, X3, ⟨Lc3, hQ3, l3, y3, z3⟩, st3⟩ := X2.virtualBack hx (y := mN_4) (z := mN_4) hown (mvT hZ (own_w hw 61 rfl)) (mvT hZ (own_w hw 62 rfl)) (notFace_of_selects (args := #[]) (mvT hZ (own_w hw 64 rfl))) (mvT hZ (own_w hw 64 rfl)) (mvT hZ (own_w hw 63 rfl)) (by decide) (backOf (W := 0) (rmHpb1 l Z a0 hw [] aH  aT vT aP vP aQ aK ob o1 o2 o3 o4 tx px cP po pk K brk tabs cells par col ls (1 : Int32) (0 : Int32) xs0 cs fm h0 n0 Z0 O0 S_CS hcs S_FM hfm (show own_HB Z h0 aH aT vT aP vP aQ aK ob o1 o2 o3 o4 tx px cP po pk K brk tabs cells par col ls (1 : Int32) (0 : Int32) from ⟨_, _, _, _, _, _, _, _, _, HX0⟩) D gN hB hKb hcp) hZ (own_w hw 65 rfl) (own_w hw 2 rfl) (by decide) (by decide)) q3a q3c (g := (mkF m 34 #[vR aH, vI x] [(.ref aH)])) rfl (by rw [hml]; rfl) (Steps.refl _) (argsL := []) (rest := []) (lenOf pd_14 rfl) rfl (by show 2 * 0 + _ ≤ _; exact Nat.le_of_eq rfl) (hb hby d15_34) (fun _ _ => ⟨rfl, e2, (by decide : 0 + 0 ≤ rO_23.cells), (by decide : 0 + 0 ≤ rO_23.slots)⟩)
  dsimp only [Pt.U, Pt.locs, Pt.cells, Pt.slots] at X3 l3 y3 z3 st3 hQ3
  subst l3 y3 z3
  obtain ⟨rfl, N3q, Kq3, par3, brk3, Hq3⟩ := hQ3
  have N3 := Fr.app N0 N3q
  have O4 := O0.keep Kq3 gN
  have Z5 := Nat.le_trans Z0 Kq3.1
  have K6 := K0.trans Kq3 (fun _ q => Or.inl q)
  obtain ⟨kTq3, kPq3, kQq3, kKq3, nTq3, mTq3, mPq3, rrq3, llq3, HXq3⟩ := Hq3
  have go7 : Goes p e below s₁ (entryFrame m #[(.ref aH), (.int x)] 2) T3 (mkF m 37 #[vR aH, vI x] []) := fun t k => by
    refine go0 t ?_
    refine XS.aloadN X0.here hx rfl (hb hby d15_0) rfl rfl ?_
    refine st1 t ?_
    refine XS.ifNo X1.here hx rfl (hb hby d15_4) rfl (Jvm.Free.XT.i0_eq_f (by decide)) ?_
    refine XS.aloadN X1.here hx rfl (hb hby d15_7) rfl rfl ?_
    refine st2 t ?_
    refine XS.ifYes X2.here hx rfl (pc0 := 11) (pc' := 33) rfl (hb hby d15_11) rfl (Jvm.Free.XT.i0_eq_t (by decide)) (by decide) (by decide) ?_
    show Steps p.tables e below (T2.setTop (mkF m 33 #[vR aH, vI x] [])) _
    refine XS.aloadN X2.here hx rfl (hb hby d15_33) rfl rfl ?_
    refine st3.trans ?_
    exact k
  obtain ⟨fs, hr, hrun, hended, hW, hsame⟩ := X3.leave (v := none) (fun _ => rfl)
  refine ⟨_, _, go7 _ ?_, hrun, hended, _, _, rfl, ?_, ⟨_, rfl⟩, hW, hsame.mono (by decide) (by decide)⟩
  · exact X3.returnOut hx Bd.returns (hb hby d15_37) hr
  · show QE Z _ _ _ _ _ _ _ _ _ _ _ _ _ _ _ _ _ _ _ _ _ _ _ _ _ _ _ _ _ _ _ T3.heap _
    exact ⟨rfl, N3, K6, _, _, ⟨_, _, _, _, _, _, _, _, _, HXq3⟩⟩
theorem ef_rmE0 (m : MethodId) (aH : Addr) (x : Int32) : entryFrame m #[(.ref aH), (.int x)] 2 = mkF m 0 #[.val (.ref aH), .val (.int x)] [] := by first | (simp [entryFrame, mkF, argsToLocals, Value.category]; done) | rfl
def QE0 (Z : State) (aH : Addr) (x : Int32) (aT vT aP vP aQ aK ob o1 o2 o3 o4 : Addr) (tx : List Int32) (px : List Int32) (cP : Int32) (po : List Value) (pk : List Value) (K : Nat) (brk : Int32) (cells : Int32) (par : Int32) (col : Int32) (ls : Int32) (xs0 : List Int32) (cs : Int32) (fm : Value) (h0 : Heap) (n0 : Nat) (v : Option Value) (h : Heap) (L : List Loc) : Prop := v = none ∧ Fr n0 L ∧ Keep h0 h [aH, aT, vT, aP, vP, aQ, aK, ob, o1, o2, o3, o4] ∧ ∃ (par' brk' : Int32), own_HB Z h aH aT vT aP vP aQ aK ob o1 o2 o3 o4 tx px (0 : Int32) po pk K brk' (0 : Int32) cells par' (0 : Int32) (0 : Int32) (0 : Int32) (1 : Int32)
set_option maxRecDepth 65536 in
set_option maxHeartbeats 40000000 in
theorem rmE0 (l : Launch) (Z : State) (a0 : Array Value) (hw : ∀ d ∈ tables_1, d.before a0 Z = true) (ws : List Jvm.Cond) (aH : Addr) (x : Int32) (aT vT aP vP aQ aK ob o1 o2 o3 o4 : Addr) (tx : List Int32) (px : List Int32) (cP : Int32) (po : List Value) (pk : List Value) (K : Nat) (brk : Int32) (cells : Int32) (par : Int32) (col : Int32) (ls : Int32) (xs0 : List Int32) (cs : Int32) (fm : Value) (h0 : Heap) (n0 : Nat) (Z0 : n0 ≤ h0.size) (O0 : Old Z n0 h0) (S_CS : Sta Z Z.heap "java/lang/String" "COMPACT_STRINGS" "Z" (.int cs)) (hcs : ¬ cs = 0) (S_FM : Sta Z Z.heap "jdk/internal/util/Preconditions" "SIOOBE_FORMATTER" "Ljava/util/function/BiFunction;" fm) (hfm : fm.isRef = true) (HB : own_HB Z h0 aH aT vT aP vP aQ aK ob o1 o2 o3 o4 tx px cP po pk K brk (0 : Int32) cells par col ls (1 : Int32) (1 : Int32)) (D : List.Nodup [aH, aT, vT, aP, vP, aQ, aK, ob, o1, o2, o3, o4]) (gN : ∀ y ∈ [aH, aT, vT, aP, vP, aQ, aK, ob, o1, o2, o3, o4], n0 ≤ y) (hB : (tx : List Int32).length < 8) (hKb : K < 10) (hB2 : tx.length < 5) (hK2 : K < 7) (hcp : own_ln xs0 cP) :
    MetFree l mN_2 (head1 (Jvm.Cond.code mN_2 prog_41_method_12_code 2 none :: ws) rO_23) (fun a U => a = #[(.ref aH), (.int x)] ∧ Z.Warmed39 U.vm ∧ U.heap = h0) (fun _ _ _ _ _ => True) (fun _ U o U' => ∃ v L, o = .returned v ∧ QE0 Z aH x aT vT aP vP aQ aK ob o1 o2 o3 o4 tx px cP po pk K brk cells par col ls xs0 cs fm h0 n0 v U'.heap L ∧ FrameEnd U o U' L rO_23.cells rO_23.slots) := by
  refine MetFree.of_bodySF (plainFor_of_name pn_7) hisR ?_
  intro p e s m args below meth c s₁ Bd hml0 hP hK
  obtain ⟨rfl, hZ, hh⟩ := hP
  have hx := Bd.exec
  have hby := Bd.bytes
  have hml : c.maxLocals = 2 := hml0
  have hown : s.vm.findClass "com/example/whereas/whereas/model/HtmlLayout" = some m.cls := findClass_of_methodNamed Bd.named
  have hnm := (name_of_methodNamed Bd.named Bd.method).1
  have X0 : Stand p l e rO_23 s m #[(.ref aH), (.int x)] below meth c s₁ [] 0 0 := Stand.of_body Bd
  have e0 : s₁.heap = h0 := by rw [← hh, Bd.state]; rfl
  have N0 := Fr.nil n0
  have K0 := Keep.refl h0 [aH, aT, vT, aP, vP, aQ, aK, ob, o1, o2, o3, o4]
  have go0 : Goes p e below s₁ (entryFrame m #[(.ref aH), (.int x)] 2) s₁ (mkF m 0 #[vR aH, vI x] []) := fun t k => castTop (ef_rmE0 m aH x) k
  obtain ⟨kT, kP, kQ, kK, nT, mT, mP, rr, ll, HX0⟩ := HB
  obtain ⟨T1, X1, e1, st1⟩ := getF X0 hx hZ hown (host := "") (Or.inl (own_w hw 100 rfl)) Via.refl e0 (pj_FH_inRow HX0) (g := (mkF m 1 #[vR aH, vI x] [(.ref aH)])) rfl rfl (hb hby d15_1)
  obtain ⟨T2, X2, e2, st2⟩ := getF X1 hx hZ hown (host := "") (Or.inl (own_w hw 104 rfl)) Via.refl e1 (pj_FH_rowShows HX0) (g := (mkF m 8 #[vR aH, vI x] [(.ref aH)])) rfl rfl (hb hby d15_8)
  obtain ⟨T3, X3, e3, st3⟩ := getF X2 hx hZ hown (host := "") (Or.inl (own_w hw 102 rfl)) Via.refl e2 (pj_FH_tabs HX0) (g := (mkF m 15 #[vR aH, vI x] [(.ref aH)])) rfl rfl (hb hby d15_15)
  obtain ⟨cq4, kq4, q4a, q4b, q4c⟩ := isOf hZ e3 (pj_EH HX0)
  obtain ⟨_, _, ⟨T4, L4, k4, n4⟩, -, X4, ⟨Lc4, hQ4, l4, y4, z4⟩, st4⟩ := X3.virtualBack hx (y := mN_4) (z := mN_4) hown (mvT hZ (own_w hw 61 rfl)) (mvT hZ (own_w hw 62 rfl)) (notFace_of_selects (args := #[]) (mvT hZ (own_w hw 64 rfl))) (mvT hZ (own_w hw 64 rfl)) (mvT hZ (own_w hw 63 rfl)) (by decide) (backOf (W := 0) (rmHpb1 l Z a0 hw [] aH  aT vT aP vP aQ aK ob o1 o2 o3 o4 tx px cP po pk K brk (0 : Int32) cells par col ls (1 : Int32) (1 : Int32) xs0 cs fm h0 n0 Z0 O0 S_CS hcs S_FM hfm (show own_HB Z h0 aH aT vT aP vP aQ aK ob o1 o2 o3 o4 tx px cP po pk K brk (0 : Int32) cells par col ls (1 : Int32) (1 : Int32) from ⟨_, _, _, _, _, _, _, _, _, HX0⟩) D gN hB hKb hcp) hZ (own_w hw 65 rfl) (own_w hw 2 rfl) (by decide) (by decide)) q4a q4c (g := (mkF m 34 #[vR aH, vI x] [(.ref aH)])) rfl (by rw [hml]; rfl) (Steps.refl _) (argsL := []) (rest := []) (lenOf pd_14 rfl) rfl (by show 2 * 0 + _ ≤ _; exact Nat.le_of_eq rfl) (hb hby d15_34) (fun _ _ => ⟨rfl, e3, (by decide : 0 + 0 ≤ rO_23.cells), (by decide : 0 + 0 ≤ rO_23.slots)⟩)
  dsimp only [Pt.U, Pt.locs, Pt.cells, Pt.slots] at X4 l4 y4 z4 st4 hQ4
  subst l4 y4 z4
  obtain ⟨rfl, N4q, Kq4, par4, brk4, Hq4⟩ := hQ4
  have N4 := Fr.app N0 N4q
  have O5 := O0.keep Kq4 gN
  have Z6 := Nat.le_trans Z0 Kq4.1
  have K7 := K0.trans Kq4 (fun _ q => Or.inl q)
  obtain ⟨kTq4, kPq4, kQq4, kKq4, nTq4, mTq4, mPq4, rrq4, llq4, HXq4⟩ := Hq4
  have go8 : Goes p e below s₁ (entryFrame m #[(.ref aH), (.int x)] 2) T4 (mkF m 37 #[vR aH, vI x] []) := fun t k => by
    refine go0 t ?_
    refine XS.aloadN X0.here hx rfl (hb hby d15_0) rfl rfl ?_
    refine st1 t ?_
    refine XS.ifNo X1.here hx rfl (hb hby d15_4) rfl (Jvm.Free.XT.i0_eq_f (by decide)) ?_
    refine XS.aloadN X1.here hx rfl (hb hby d15_7) rfl rfl ?_
    refine st2 t ?_
    refine XS.ifNo X2.here hx rfl (hb hby d15_11) rfl (Jvm.Free.XT.i0_eq_f (by decide)) ?_
    show Steps p.tables e below (T2.setTop (mkF m 14 #[vR aH, vI x] [])) _
    refine XS.aloadN X2.here hx rfl (hb hby d15_14) rfl rfl ?_
    refine st3 t ?_
    refine XS.ifYes X3.here hx rfl (pc0 := 18) (pc' := 33) rfl (hb hby d15_18) rfl (Jvm.Free.XT.i0_le_t (by decide)) (by decide) (by decide) ?_
    refine XS.aloadN X3.here hx rfl (hb hby d15_33) rfl rfl ?_
    refine st4.trans ?_
    exact k
  obtain ⟨fs, hr, hrun, hended, hW, hsame⟩ := X4.leave (v := none) (fun _ => rfl)
  refine ⟨_, _, go8 _ ?_, hrun, hended, _, _, rfl, ?_, ⟨_, rfl⟩, hW, hsame.mono (by decide) (by decide)⟩
  · exact X4.returnOut hx Bd.returns (hb hby d15_37) hr
  · show QE0 Z _ _ _ _ _ _ _ _ _ _ _ _ _ _ _ _ _ _ _ _ _ _ _ _ _ _ _ _ _ _ T4.heap _
    exact ⟨rfl, N4, K7, _, _, ⟨_, _, _, _, _, _, _, _, _, HXq4⟩⟩
theorem ef_rmE1 (m : MethodId) (aH : Addr) (x : Int32) : entryFrame m #[(.ref aH), (.int x)] 2 = mkF m 0 #[.val (.ref aH), .val (.int x)] [] := by first | (simp [entryFrame, mkF, argsToLocals, Value.category]; done) | rfl
def QE1 (Z : State) (aH : Addr) (x : Int32) (aT vT aP vP aQ aK ob o1 o2 o3 o4 : Addr) (tx : List Int32) (px : List Int32) (cP : Int32) (po : List Value) (pk : List Value) (K : Nat) (brk : Int32) (cells : Int32) (par : Int32) (col : Int32) (ls : Int32) (xs0 : List Int32) (cs : Int32) (fm : Value) (h0 : Heap) (n0 : Nat) (v : Option Value) (h : Heap) (L : List Loc) : Prop := v = none ∧ Fr n0 L ∧ Keep h0 h [aH, aT, vT, aP, vP, aQ, aK, ob, o1, o2, o3, o4] ∧ ∃ (par' brk' : Int32), own_HB Z h aH aT vT aP vP aQ aK ob o1 o2 o3 o4 (tx ++ [(9 : Int32)]) px (0 : Int32) po pk (K + 1) brk' (0 : Int32) cells par' (0 : Int32) (0 : Int32) (0 : Int32) (1 : Int32)
set_option maxRecDepth 65536 in
set_option maxHeartbeats 40000000 in
theorem rmE1 (l : Launch) (Z : State) (a0 : Array Value) (hw : ∀ d ∈ tables_1, d.before a0 Z = true) (ws : List Jvm.Cond) (aH : Addr) (x : Int32) (aT vT aP vP aQ aK ob o1 o2 o3 o4 : Addr) (tx : List Int32) (px : List Int32) (cP : Int32) (po : List Value) (pk : List Value) (K : Nat) (brk : Int32) (cells : Int32) (par : Int32) (col : Int32) (ls : Int32) (xs0 : List Int32) (cs : Int32) (fm : Value) (h0 : Heap) (n0 : Nat) (Z0 : n0 ≤ h0.size) (O0 : Old Z n0 h0) (S_CS : Sta Z Z.heap "java/lang/String" "COMPACT_STRINGS" "Z" (.int cs)) (hcs : ¬ cs = 0) (S_FM : Sta Z Z.heap "jdk/internal/util/Preconditions" "SIOOBE_FORMATTER" "Ljava/util/function/BiFunction;" fm) (hfm : fm.isRef = true) (HB : own_HB Z h0 aH aT vT aP vP aQ aK ob o1 o2 o3 o4 tx px cP po pk K brk (1 : Int32) cells par col ls (1 : Int32) (1 : Int32)) (D : List.Nodup [aH, aT, vT, aP, vP, aQ, aK, ob, o1, o2, o3, o4]) (gN : ∀ y ∈ [aH, aT, vT, aP, vP, aQ, aK, ob, o1, o2, o3, o4], n0 ≤ y) (hB : (tx : List Int32).length < 8) (hKb : K < 10) (hB2 : tx.length < 5) (hK2 : K < 7) (hcp : own_ln xs0 cP) :
    MetFree l mN_2 (head1 (Jvm.Cond.code mN_2 prog_41_method_12_code 2 none :: ws) rO_23) (fun a U => a = #[(.ref aH), (.int x)] ∧ Z.Warmed39 U.vm ∧ U.heap = h0) (fun _ _ _ _ _ => True) (fun _ U o U' => ∃ v L, o = .returned v ∧ QE1 Z aH x aT vT aP vP aQ aK ob o1 o2 o3 o4 tx px cP po pk K brk cells par col ls xs0 cs fm h0 n0 v U'.heap L ∧ FrameEnd U o U' L rO_23.cells rO_23.slots) := by
  refine MetFree.of_bodySF (plainFor_of_name pn_7) hisR ?_
  intro p e s m args below meth c s₁ Bd hml0 hP hK
  obtain ⟨rfl, hZ, hh⟩ := hP
  have hx := Bd.exec
  have hby := Bd.bytes
  have hml : c.maxLocals = 2 := hml0
  have hown : s.vm.findClass "com/example/whereas/whereas/model/HtmlLayout" = some m.cls := findClass_of_methodNamed Bd.named
  have hnm := (name_of_methodNamed Bd.named Bd.method).1
  have X0 : Stand p l e rO_23 s m #[(.ref aH), (.int x)] below meth c s₁ [] 0 0 := Stand.of_body Bd
  have e0 : s₁.heap = h0 := by rw [← hh, Bd.state]; rfl
  have N0 := Fr.nil n0
  have K0 := Keep.refl h0 [aH, aT, vT, aP, vP, aQ, aK, ob, o1, o2, o3, o4]
  have go0 : Goes p e below s₁ (entryFrame m #[(.ref aH), (.int x)] 2) s₁ (mkF m 0 #[vR aH, vI x] []) := fun t k => castTop (ef_rmE1 m aH x) k
  obtain ⟨kT, kP, kQ, kK, nT, mT, mP, rr, ll, HX0⟩ := HB
  obtain ⟨T1, X1, e1, st1⟩ := getF X0 hx hZ hown (host := "") (Or.inl (own_w hw 100 rfl)) Via.refl e0 (pj_FH_inRow HX0) (g := (mkF m 1 #[vR aH, vI x] [(.ref aH)])) rfl rfl (hb hby d15_1)
  obtain ⟨T2, X2, e2, st2⟩ := getF X1 hx hZ hown (host := "") (Or.inl (own_w hw 104 rfl)) Via.refl e1 (pj_FH_rowShows HX0) (g := (mkF m 8 #[vR aH, vI x] [(.ref aH)])) rfl rfl (hb hby d15_8)
  obtain ⟨T3, X3, e3, st3⟩ := getF X2 hx hZ hown (host := "") (Or.inl (own_w hw 102 rfl)) Via.refl e2 (pj_FH_tabs HX0) (g := (mkF m 15 #[vR aH, vI x] [(.ref aH)])) rfl rfl (hb hby d15_15)
  obtain ⟨T4, X4, e4, st4⟩ := getF X3 hx hZ hown (host := "") (Or.inl (own_w hw 102 rfl)) Via.refl e3 (pj_FH_tabs HX0) (g := (mkF m 25 #[vR aH, vI x] [(.ref aH), (.int (9 : Int32)), (.ref aH)])) rfl rfl (hb hby d15_25)
  obtain ⟨cq5, q5a, q5b⟩ := (pj_EH HX0).cell
  obtain ⟨_, _, ⟨T5, L5, k5, n5⟩, -, X5, ⟨Lc5, hQ5, l5, y5, z5⟩, st5⟩ := X4.privateBack hx (y := mN_8) hown (mvT hZ (own_w hw 241 rfl)) (mvT hZ (own_w hw 242 rfl)) (own_selp (y := mN_8) (by decide) (mvT hZ (own_w hw 1 rfl)) (mvP hZ (own_w hw 243 rfl)) (mvT hZ (own_w hw 242 rfl))) (Cond.privateMethod_at (mvP hZ (own_w hw 243 rfl) (args := #[]))) (mvT hZ (own_w hw 244 rfl)) (by decide) (backOf (W := 0) (rmHap1 l Z a0 hw [] aH (9 : Int32) x x aT vT aP vP aQ aK ob o1 o2 o3 o4 tx px cP po pk K brk (1 : Int32) cells par col ls (1 : Int32) (1 : Int32)  cs fm h0 n0 Z0 O0 S_CS hcs S_FM hfm (show own_HB Z h0 aH aT vT aP vP aQ aK ob o1 o2 o3 o4 tx px cP po pk K brk (1 : Int32) cells par col ls (1 : Int32) (1 : Int32) from ⟨_, _, _, _, _, _, _, _, _, HX0⟩) D gN hB hKb ⟨by decide, by decide⟩ (own_xx x (1 : Int32) (by decide)) (by omega)) hZ (own_w hw 244 rfl) (own_w hw 2 rfl) (by decide) (by decide)) (g := (mkF m 30 #[vR aH, vI x] [(.int x), (.int x), (.int (1 : Int32)), (.int (9 : Int32)), (.ref aH)])) rfl (by rw [hml]; rfl) (Steps.refl _) (a := aH) (by rw [e4]; exact q5a) q5b (argsL := [(.int (9 : Int32)), (.int (1 : Int32)), (.int x), (.int x)]) (rest := []) (lenOf pd_17 rfl) rfl (by show 2 * 0 + _ ≤ _; exact Nat.le_of_eq rfl) (hb hby d15_30) (fun _ _ => ⟨rfl, e4, (by decide : 0 + 0 ≤ rO_23.cells), (by decide : 0 + 0 ≤ rO_23.slots)⟩)
  dsimp only [Pt.U, Pt.locs, Pt.cells, Pt.slots] at X5 l5 y5 z5 st5 hQ5
  subst l5 y5 z5
  obtain ⟨rfl, N5q, Kq5, Hq5⟩ := hQ5
  have N5 := Fr.app N0 N5q
  have O6 := O0.keep Kq5 gN
  have Z7 := Nat.le_trans Z0 Kq5.1
  have K8 := K0.trans Kq5 (fun _ q => Or.inl q)
  obtain ⟨kTq5, kPq5, kQq5, kKq5, nTq5, mTq5, mPq5, rrq5, llq5, HXq5⟩ := Hq5
  obtain ⟨cq9, kq9, q9a, q9b, q9c⟩ := isOf hZ rfl (pj_EH HXq5)
  obtain ⟨_, _, ⟨T9, L9, k9, n9⟩, -, X9, ⟨Lc9, hQ9, l9, y9, z9⟩, st9⟩ := X5.virtualBack hx (y := mN_4) (z := mN_4) hown (mvT hZ (own_w hw 61 rfl)) (mvT hZ (own_w hw 62 rfl)) (notFace_of_selects (args := #[]) (mvT hZ (own_w hw 64 rfl))) (mvT hZ (own_w hw 64 rfl)) (mvT hZ (own_w hw 63 rfl)) (by decide) (backOf (W := 0) (rmHpb1 l Z a0 hw [] aH  aT vT aP vP aQ aK ob o1 o2 o3 o4 (tx ++ [(9 : Int32)]) px cP po pk (K + 1) brk (1 : Int32) cells par col ls (1 : Int32) (1 : Int32) xs0 cs fm T5.heap n0 Z7 O6 S_CS hcs S_FM hfm (show own_HB Z T5.heap aH aT vT aP vP aQ aK ob o1 o2 o3 o4 (tx ++ [(9 : Int32)]) px cP po pk (K + 1) brk (1 : Int32) cells par col ls (1 : Int32) (1 : Int32) from ⟨_, _, _, _, _, _, _, _, _, HXq5⟩) D gN (by first | omega | (simp; omega)) (by omega) hcp) hZ (own_w hw 65 rfl) (own_w hw 2 rfl) (by decide) (by decide)) q9a q9c (g := (mkF m 34 #[vR aH, vI x] [(.ref aH)])) rfl (by rw [hml]; rfl) (Steps.refl _) (argsL := []) (rest := []) (lenOf pd_14 rfl) rfl (by show 2 * 0 + _ ≤ _; exact Nat.le_of_eq rfl) (hb hby d15_34) (fun _ _ => ⟨rfl, rfl, (by decide : 0 + 0 ≤ rO_23.cells), (by decide : 0 + 0 ≤ rO_23.slots)⟩)
  dsimp only [Pt.U, Pt.locs, Pt.cells, Pt.slots] at X9 l9 y9 z9 st9 hQ9
  subst l9 y9 z9
  obtain ⟨rfl, N9q, Kq9, par9, brk9, Hq9⟩ := hQ9
  have N9 := Fr.app N5 N9q
  have O10 := O6.keep Kq9 gN
  have Z11 := Nat.le_trans Z7 Kq9.1
  have K12 := K8.trans Kq9 (fun _ q => Or.inl q)
  obtain ⟨kTq9, kPq9, kQq9, kKq9, nTq9, mTq9, mPq9, rrq9, llq9, HXq9⟩ := Hq9
  have go13 : Goes p e below s₁ (entryFrame m #[(.ref aH), (.int x)] 2) T9 (mkF m 37 #[vR aH, vI x] []) := fun t k => by
    refine go0 t ?_
    refine XS.aloadN X0.here hx rfl (hb hby d15_0) rfl rfl ?_
    refine st1 t ?_
    refine XS.ifNo X1.here hx rfl (hb hby d15_4) rfl (Jvm.Free.XT.i0_eq_f (by decide)) ?_
    refine XS.aloadN X1.here hx rfl (hb hby d15_7) rfl rfl ?_
    refine st2 t ?_
    refine XS.ifNo X2.here hx rfl (hb hby d15_11) rfl (Jvm.Free.XT.i0_eq_f (by decide)) ?_
    show Steps p.tables e below (T2.setTop (mkF m 14 #[vR aH, vI x] [])) _
    refine XS.aloadN X2.here hx rfl (hb hby d15_14) rfl rfl ?_
    refine st3 t ?_
    refine XS.ifNo X3.here hx rfl (hb hby d15_18) rfl (Jvm.Free.XT.i0_le_f (by decide)) ?_
    refine XS.aloadN X3.here hx rfl (hb hby d15_21) rfl rfl ?_
    refine XS.bipush X3.here hx rfl (hb hby d15_22) ?_
    refine XS.aloadN X3.here hx rfl (hb hby d15_24) rfl rfl ?_
    show Steps p.tables e below (T3.setTop (mkF m 25 #[vR aH, vI x] [(.ref aH), (.int (9 : Int32)), (.ref aH)])) _
    refine st4 t ?_
    refine XS.iloadN X4.here hx rfl (hb hby d15_28) rfl ?_
    refine XS.iloadN X4.here hx rfl (hb hby d15_29) rfl ?_
    refine st5.trans ?_
    refine XS.aloadN X5.here hx rfl (hb hby d15_33) rfl rfl ?_
    refine st9.trans ?_
    exact k
  obtain ⟨fs, hr, hrun, hended, hW, hsame⟩ := X9.leave (v := none) (fun _ => rfl)
  refine ⟨_, _, go13 _ ?_, hrun, hended, _, _, rfl, ?_, ⟨_, rfl⟩, hW, hsame.mono (by decide) (by decide)⟩
  · exact X9.returnOut hx Bd.returns (hb hby d15_37) hr
  · show QE1 Z _ _ _ _ _ _ _ _ _ _ _ _ _ _ _ _ _ _ _ _ _ _ _ _ _ _ _ _ _ _ T9.heap _
    exact ⟨rfl, N9, K12, _, _, ⟨_, _, _, _, _, _, _, _, _, HXq9⟩⟩
theorem ef_rmE2 (m : MethodId) (aH : Addr) (x : Int32) : entryFrame m #[(.ref aH), (.int x)] 2 = mkF m 0 #[.val (.ref aH), .val (.int x)] [] := by first | (simp [entryFrame, mkF, argsToLocals, Value.category]; done) | rfl
def QE2 (Z : State) (aH : Addr) (x : Int32) (aT vT aP vP aQ aK ob o1 o2 o3 o4 : Addr) (tx : List Int32) (px : List Int32) (cP : Int32) (po : List Value) (pk : List Value) (K : Nat) (brk : Int32) (cells : Int32) (par : Int32) (col : Int32) (ls : Int32) (xs0 : List Int32) (cs : Int32) (fm : Value) (h0 : Heap) (n0 : Nat) (v : Option Value) (h : Heap) (L : List Loc) : Prop := v = none ∧ Fr n0 L ∧ Keep h0 h [aH, aT, vT, aP, vP, aQ, aK, ob, o1, o2, o3, o4] ∧ ∃ (par' brk' : Int32), own_HB Z h aH aT vT aP vP aQ aK ob o1 o2 o3 o4 ((tx ++ [(9 : Int32)]) ++ [(9 : Int32)]) px (0 : Int32) po pk (K + 1) brk' (0 : Int32) cells par' (0 : Int32) (0 : Int32) (0 : Int32) (1 : Int32)
set_option maxRecDepth 65536 in
set_option maxHeartbeats 40000000 in
theorem rmE2 (l : Launch) (Z : State) (a0 : Array Value) (hw : ∀ d ∈ tables_1, d.before a0 Z = true) (ws : List Jvm.Cond) (aH : Addr) (x : Int32) (aT vT aP vP aQ aK ob o1 o2 o3 o4 : Addr) (tx : List Int32) (px : List Int32) (cP : Int32) (po : List Value) (pk : List Value) (K : Nat) (brk : Int32) (cells : Int32) (par : Int32) (col : Int32) (ls : Int32) (xs0 : List Int32) (cs : Int32) (fm : Value) (h0 : Heap) (n0 : Nat) (Z0 : n0 ≤ h0.size) (O0 : Old Z n0 h0) (S_CS : Sta Z Z.heap "java/lang/String" "COMPACT_STRINGS" "Z" (.int cs)) (hcs : ¬ cs = 0) (S_FM : Sta Z Z.heap "jdk/internal/util/Preconditions" "SIOOBE_FORMATTER" "Ljava/util/function/BiFunction;" fm) (hfm : fm.isRef = true) (HB : own_HB Z h0 aH aT vT aP vP aQ aK ob o1 o2 o3 o4 tx px cP po pk K brk (2 : Int32) cells par col ls (1 : Int32) (1 : Int32)) (D : List.Nodup [aH, aT, vT, aP, vP, aQ, aK, ob, o1, o2, o3, o4]) (gN : ∀ y ∈ [aH, aT, vT, aP, vP, aQ, aK, ob, o1, o2, o3, o4], n0 ≤ y) (hB : (tx : List Int32).length < 8) (hKb : K < 10) (hB2 : tx.length < 5) (hK2 : K < 7) (hcp : own_ln xs0 cP) :
    MetFree l mN_2 (head1 (Jvm.Cond.code mN_2 prog_41_method_12_code 2 none :: ws) rO_23) (fun a U => a = #[(.ref aH), (.int x)] ∧ Z.Warmed39 U.vm ∧ U.heap = h0) (fun _ _ _ _ _ => True) (fun _ U o U' => ∃ v L, o = .returned v ∧ QE2 Z aH x aT vT aP vP aQ aK ob o1 o2 o3 o4 tx px cP po pk K brk cells par col ls xs0 cs fm h0 n0 v U'.heap L ∧ FrameEnd U o U' L rO_23.cells rO_23.slots) := by
  refine MetFree.of_bodySF (plainFor_of_name pn_7) hisR ?_
  intro p e s m args below meth c s₁ Bd hml0 hP hK
  obtain ⟨rfl, hZ, hh⟩ := hP
  have hx := Bd.exec
  have hby := Bd.bytes
  have hml : c.maxLocals = 2 := hml0
  have hown : s.vm.findClass "com/example/whereas/whereas/model/HtmlLayout" = some m.cls := findClass_of_methodNamed Bd.named
  have hnm := (name_of_methodNamed Bd.named Bd.method).1
  have X0 : Stand p l e rO_23 s m #[(.ref aH), (.int x)] below meth c s₁ [] 0 0 := Stand.of_body Bd
  have e0 : s₁.heap = h0 := by rw [← hh, Bd.state]; rfl
  have N0 := Fr.nil n0
  have K0 := Keep.refl h0 [aH, aT, vT, aP, vP, aQ, aK, ob, o1, o2, o3, o4]
  have go0 : Goes p e below s₁ (entryFrame m #[(.ref aH), (.int x)] 2) s₁ (mkF m 0 #[vR aH, vI x] []) := fun t k => castTop (ef_rmE2 m aH x) k
  obtain ⟨kT, kP, kQ, kK, nT, mT, mP, rr, ll, HX0⟩ := HB
  obtain ⟨T1, X1, e1, st1⟩ := getF X0 hx hZ hown (host := "") (Or.inl (own_w hw 100 rfl)) Via.refl e0 (pj_FH_inRow HX0) (g := (mkF m 1 #[vR aH, vI x] [(.ref aH)])) rfl rfl (hb hby d15_1)
  obtain ⟨T2, X2, e2, st2⟩ := getF X1 hx hZ hown (host := "") (Or.inl (own_w hw 104 rfl)) Via.refl e1 (pj_FH_rowShows HX0) (g := (mkF m 8 #[vR aH, vI x] [(.ref aH)])) rfl rfl (hb hby d15_8)
  obtain ⟨T3, X3, e3, st3⟩ := getF X2 hx hZ hown (host := "") (Or.inl (own_w hw 102 rfl)) Via.refl e2 (pj_FH_tabs HX0) (g := (mkF m 15 #[vR aH, vI x] [(.ref aH)])) rfl rfl (hb hby d15_15)
  obtain ⟨T4, X4, e4, st4⟩ := getF X3 hx hZ hown (host := "") (Or.inl (own_w hw 102 rfl)) Via.refl e3 (pj_FH_tabs HX0) (g := (mkF m 25 #[vR aH, vI x] [(.ref aH), (.int (9 : Int32)), (.ref aH)])) rfl rfl (hb hby d15_25)
  obtain ⟨cq5, q5a, q5b⟩ := (pj_EH HX0).cell
  obtain ⟨_, _, ⟨T5, L5, k5, n5⟩, -, X5, ⟨Lc5, hQ5, l5, y5, z5⟩, st5⟩ := X4.privateBack hx (y := mN_8) hown (mvT hZ (own_w hw 241 rfl)) (mvT hZ (own_w hw 242 rfl)) (own_selp (y := mN_8) (by decide) (mvT hZ (own_w hw 1 rfl)) (mvP hZ (own_w hw 243 rfl)) (mvT hZ (own_w hw 242 rfl))) (Cond.privateMethod_at (mvP hZ (own_w hw 243 rfl) (args := #[]))) (mvT hZ (own_w hw 244 rfl)) (by decide) (backOf (W := 0) (rmHap2 l Z a0 hw [] aH (9 : Int32) x x aT vT aP vP aQ aK ob o1 o2 o3 o4 tx px cP po pk K brk (2 : Int32) cells par col ls (1 : Int32) (1 : Int32)  cs fm h0 n0 Z0 O0 S_CS hcs S_FM hfm (show own_HB Z h0 aH aT vT aP vP aQ aK ob o1 o2 o3 o4 tx px cP po pk K brk (2 : Int32) cells par col ls (1 : Int32) (1 : Int32) from ⟨_, _, _, _, _, _, _, _, _, HX0⟩) D gN hB hKb ⟨by decide, by decide⟩ (own_xx x (2 : Int32) (by decide)) (by omega)) hZ (own_w hw 244 rfl) (own_w hw 2 rfl) (by decide) (by decide)) (g := (mkF m 30 #[vR aH, vI x] [(.int x), (.int x), (.int (2 : Int32)), (.int (9 : Int32)), (.ref aH)])) rfl (by rw [hml]; rfl) (Steps.refl _) (a := aH) (by rw [e4]; exact q5a) q5b (argsL := [(.int (9 : Int32)), (.int (2 : Int32)), (.int x), (.int x)]) (rest := []) (lenOf pd_17 rfl) rfl (by show 2 * 0 + _ ≤ _; exact Nat.le_of_eq rfl) (hb hby d15_30) (fun _ _ => ⟨rfl, e4, (by decide : 0 + 0 ≤ rO_23.cells), (by decide : 0 + 0 ≤ rO_23.slots)⟩)
  dsimp only [Pt.U, Pt.locs, Pt.cells, Pt.slots] at X5 l5 y5 z5 st5 hQ5
  subst l5 y5 z5
  obtain ⟨rfl, N5q, Kq5, Hq5⟩ := hQ5
  have N5 := Fr.app N0 N5q
  have O6 := O0.keep Kq5 gN
  have Z7 := Nat.le_trans Z0 Kq5.1
  have K8 := K0.trans Kq5 (fun _ q => Or.inl q)
  obtain ⟨kTq5, kPq5, kQq5, kKq5, nTq5, mTq5, mPq5, rrq5, llq5, HXq5⟩ := Hq5
  obtain ⟨cq9, kq9, q9a, q9b, q9c⟩ := isOf hZ rfl (pj_EH HXq5)
  obtain ⟨_, _, ⟨T9, L9, k9, n9⟩, -, X9, ⟨Lc9, hQ9, l9, y9, z9⟩, st9⟩ := X5.virtualBack hx (y := mN_4) (z := mN_4) hown (mvT hZ (own_w hw 61 rfl)) (mvT hZ (own_w hw 62 rfl)) (notFace_of_selects (args := #[]) (mvT hZ (own_w hw 64 rfl))) (mvT hZ (own_w hw 64 rfl)) (mvT hZ (own_w hw 63 rfl)) (by decide) (backOf (W := 0) (rmHpb1 l Z a0 hw [] aH  aT vT aP vP aQ aK ob o1 o2 o3 o4 ((tx ++ [(9 : Int32)]) ++ [(9 : Int32)]) px cP po pk (K + 1) brk (2 : Int32) cells par col ls (1 : Int32) (1 : Int32) xs0 cs fm T5.heap n0 Z7 O6 S_CS hcs S_FM hfm (show own_HB Z T5.heap aH aT vT aP vP aQ aK ob o1 o2 o3 o4 ((tx ++ [(9 : Int32)]) ++ [(9 : Int32)]) px cP po pk (K + 1) brk (2 : Int32) cells par col ls (1 : Int32) (1 : Int32) from ⟨_, _, _, _, _, _, _, _, _, HXq5⟩) D gN (by first | omega | (simp; omega)) (by omega) hcp) hZ (own_w hw 65 rfl) (own_w hw 2 rfl) (by decide) (by decide)) q9a q9c (g := (mkF m 34 #[vR aH, vI x] [(.ref aH)])) rfl (by rw [hml]; rfl) (Steps.refl _) (argsL := []) (rest := []) (lenOf pd_14 rfl) rfl (by show 2 * 0 + _ ≤ _; exact Nat.le_of_eq rfl) (hb hby d15_34) (fun _ _ => ⟨rfl, rfl, (by decide : 0 + 0 ≤ rO_23.cells), (by decide : 0 + 0 ≤ rO_23.slots)⟩)
  dsimp only [Pt.U, Pt.locs, Pt.cells, Pt.slots] at X9 l9 y9 z9 st9 hQ9
  subst l9 y9 z9
  obtain ⟨rfl, N9q, Kq9, par9, brk9, Hq9⟩ := hQ9
  have N9 := Fr.app N5 N9q
  have O10 := O6.keep Kq9 gN
  have Z11 := Nat.le_trans Z7 Kq9.1
  have K12 := K8.trans Kq9 (fun _ q => Or.inl q)
  obtain ⟨kTq9, kPq9, kQq9, kKq9, nTq9, mTq9, mPq9, rrq9, llq9, HXq9⟩ := Hq9
  have go13 : Goes p e below s₁ (entryFrame m #[(.ref aH), (.int x)] 2) T9 (mkF m 37 #[vR aH, vI x] []) := fun t k => by
    refine go0 t ?_
    refine XS.aloadN X0.here hx rfl (hb hby d15_0) rfl rfl ?_
    refine st1 t ?_
    refine XS.ifNo X1.here hx rfl (hb hby d15_4) rfl (Jvm.Free.XT.i0_eq_f (by decide)) ?_
    refine XS.aloadN X1.here hx rfl (hb hby d15_7) rfl rfl ?_
    refine st2 t ?_
    refine XS.ifNo X2.here hx rfl (hb hby d15_11) rfl (Jvm.Free.XT.i0_eq_f (by decide)) ?_
    show Steps p.tables e below (T2.setTop (mkF m 14 #[vR aH, vI x] [])) _
    refine XS.aloadN X2.here hx rfl (hb hby d15_14) rfl rfl ?_
    refine st3 t ?_
    refine XS.ifNo X3.here hx rfl (hb hby d15_18) rfl (Jvm.Free.XT.i0_le_f (by decide)) ?_
    refine XS.aloadN X3.here hx rfl (hb hby d15_21) rfl rfl ?_
    refine XS.bipush X3.here hx rfl (hb hby d15_22) ?_
    refine XS.aloadN X3.here hx rfl (hb hby d15_24) rfl rfl ?_
    show Steps p.tables e below (T3.setTop (mkF m 25 #[vR aH, vI x] [(.ref aH), (.int (9 : Int32)), (.ref aH)])) _
    refine st4 t ?_
    refine XS.iloadN X4.here hx rfl (hb hby d15_28) rfl ?_
    refine XS.iloadN X4.here hx rfl (hb hby d15_29) rfl ?_
    refine st5.trans ?_
    refine XS.aloadN X5.here hx rfl (hb hby d15_33) rfl rfl ?_
    refine st9.trans ?_
    exact k
  obtain ⟨fs, hr, hrun, hended, hW, hsame⟩ := X9.leave (v := none) (fun _ => rfl)
  refine ⟨_, _, go13 _ ?_, hrun, hended, _, _, rfl, ?_, ⟨_, rfl⟩, hW, hsame.mono (by decide) (by decide)⟩
  · exact X9.returnOut hx Bd.returns (hb hby d15_37) hr
  · show QE2 Z _ _ _ _ _ _ _ _ _ _ _ _ _ _ _ _ _ _ _ _ _ _ _ _ _ _ _ _ _ _ T9.heap _
    exact ⟨rfl, N9, K12, _, _, ⟨_, _, _, _, _, _, _, _, _, HXq9⟩⟩
def own_fin (tx : List Int32) : List Int32 := if tx = [] then [] else tx ++ [10]
theorem own_fin0 {tx : List Int32} {n : Int32} (h : own_ln tx n) (q : ¬ (0 : Int32) < n) : own_fin tx = tx := by
  have h1 := h.1; rw [Int32.lt_iff_toInt_lt, show (0 : Int32).toInt = 0 from rfl] at q
  have : tx = [] := List.length_eq_zero_iff.mp (by omega)
  subst this; rfl
theorem own_fin1 {tx : List Int32} {n : Int32} (h : own_ln tx n) (q : (0 : Int32) < n) : own_fin tx = tx ++ [10] := by
  have h1 := h.1; rw [Int32.lt_iff_toInt_lt, show (0 : Int32).toInt = 0 from rfl] at q
  exact if_neg (fun e => by subst e; simp at h1; omega)
theorem pd_18 : parseMethodDescriptor "()Ljava/lang/String;" = some ⟨[], some (.object "java/lang/String")⟩ := by decide +kernel
theorem d16_0 : dc16 0 (.aload_n 0) 1 := by decide +kernel
theorem d16_1 : dc16 1 (.getfield 10) 3 := by decide +kernel
theorem d16_4 : dc16 4 (.invokevirtual 66) 3 := by decide +kernel
theorem d16_7 : dc16 7 (.ifCond .le 12) 3 := by decide +kernel
theorem d16_10 : dc16 10 (.aload_n 0) 1 := by decide +kernel
theorem d16_11 : dc16 11 (.bipush 10) 2 := by decide +kernel
theorem d16_13 : dc16 13 (.iconst 1) 1 := by decide +kernel
theorem d16_14 : dc16 14 (.iload_n 1) 1 := by decide +kernel
theorem d16_15 : dc16 15 (.iload_n 1) 1 := by decide +kernel
theorem d16_16 : dc16 16 (.invokevirtual 67) 3 := by decide +kernel
theorem d16_19 : dc16 19 (.aload_n 0) 1 := by decide +kernel
theorem d16_20 : dc16 20 (.getfield 10) 3 := by decide +kernel
theorem d16_23 : dc16 23 (.invokevirtual 110) 3 := by decide +kernel
theorem d16_26 : dc16 26 (.areturn) 1 := by decide +kernel
theorem ef_rmFi (m : MethodId) (aH : Addr) (x : Int32) : entryFrame m #[(.ref aH), (.int x)] 2 = mkF m 0 #[.val (.ref aH), .val (.int x)] [] := by first | (simp [entryFrame, mkF, argsToLocals, Value.category]; done) | rfl
def QFi (Z : State) (aH : Addr) (x : Int32) (aT vT aP vP aQ aK ob o1 o2 o3 o4 : Addr) (tx : List Int32) (px : List Int32) (cP : Int32) (po : List Value) (pk : List Value) (K : Nat) (brk : Int32) (tabs : Int32) (cells : Int32) (par : Int32) (col : Int32) (ls : Int32) (inr : Int32) (rs : Int32) (cs : Int32) (fm : Value) (h0 : Heap) (n0 : Nat) (v : Option Value) (h : Heap) (L : List Loc) : Prop := ∃ (sa b : Addr) (kb : ClassId) (n : Int32), v = some (.ref sa) ∧ Fr n0 L ∧ Keep h0 h [aH, aT, vT, aP, vP, aQ, aK, ob, o1, o2, o3, o4] ∧ n0 ≤ sa ∧ h0.size ≤ sa ∧ n0 ≤ b ∧ h0.size ≤ b ∧ own_ln (own_fin tx) n ∧ Exa Z h sa "java/lang/String" ∧ Fld Z h sa "java/lang/String" "coder" "B" (.int (0 : Int32)) ∧ Fld Z h sa "java/lang/String" "value" "[B" (.ref b) ∧ Arv Z h b kb .byte n (own_vs (own_fin tx)) (.int (0 : Int32))
set_option maxRecDepth 65536 in
set_option maxHeartbeats 40000000 in
theorem rmFi (l : Launch) (Z : State) (a0 : Array Value) (hw : ∀ d ∈ tables_1, d.before a0 Z = true) (ws : List Jvm.Cond) (aH : Addr) (x : Int32) (aT vT aP vP aQ aK ob o1 o2 o3 o4 : Addr) (tx : List Int32) (px : List Int32) (cP : Int32) (po : List Value) (pk : List Value) (K : Nat) (brk : Int32) (tabs : Int32) (cells : Int32) (par : Int32) (col : Int32) (ls : Int32) (inr : Int32) (rs : Int32) (cs : Int32) (fm : Value) (h0 : Heap) (n0 : Nat) (Z0 : n0 ≤ h0.size) (O0 : Old Z n0 h0) (S_CS : Sta Z Z.heap "java/lang/String" "COMPACT_STRINGS" "Z" (.int cs)) (hcs : ¬ cs = 0) (S_FM : Sta Z Z.heap "jdk/internal/util/Preconditions" "SIOOBE_FORMATTER" "Ljava/util/function/BiFunction;" fm) (hfm : fm.isRef = true) (HB : own_HB Z h0 aH aT vT aP vP aQ aK ob o1 o2 o3 o4 tx px cP po pk K brk tabs cells par col ls inr rs) (D : List.Nodup [aH, aT, vT, aP, vP, aQ, aK, ob, o1, o2, o3, o4]) (gN : ∀ y ∈ [aH, aT, vT, aP, vP, aQ, aK, ob, o1, o2, o3, o4], n0 ≤ y) (hB : (tx : List Int32).length < 8) (hKb : K < 10) (hB2 : tx.length < 6) (hK2 : K < 8) :
    MetFree l mN_29 (head1 (Jvm.Cond.code mN_29 prog_41_method_13_code 2 (some (.object "java/lang/String")) :: ws) rO_26) (fun a U => a = #[(.ref aH), (.int x)] ∧ Z.Warmed39 U.vm ∧ U.heap = h0) (fun _ _ _ _ _ => True) (fun _ U o U' => ∃ v L, o = .returned v ∧ QFi Z aH x aT vT aP vP aQ aK ob o1 o2 o3 o4 tx px cP po pk K brk tabs cells par col ls inr rs cs fm h0 n0 v U'.heap L ∧ FrameEnd U o U' L rO_26.cells rO_26.slots) := by
  refine MetFree.of_bodySF (plainFor_of_name pn_7) hisR ?_
  intro p e s m args below meth c s₁ Bd hml0 hP hK
  obtain ⟨rfl, hZ, hh⟩ := hP
  have hx := Bd.exec
  have hby := Bd.bytes
  have hml : c.maxLocals = 2 := hml0
  have hown : s.vm.findClass "com/example/whereas/whereas/model/HtmlLayout" = some m.cls := findClass_of_methodNamed Bd.named
  have hnm := (name_of_methodNamed Bd.named Bd.method).1
  have X0 : Stand p l e rO_26 s m #[(.ref aH), (.int x)] below meth c s₁ [] 0 0 := Stand.of_body Bd
  have e0 : s₁.heap = h0 := by rw [← hh, Bd.state]; rfl
  have N0 := Fr.nil n0
  have K0 := Keep.refl h0 [aH, aT, vT, aP, vP, aQ, aK, ob, o1, o2, o3, o4]
  have go0 : Goes p e below s₁ (entryFrame m #[(.ref aH), (.int x)] 2) s₁ (mkF m 0 #[vR aH, vI x] []) := fun t k => castTop (ef_rmFi m aH x) k
  obtain ⟨kT, kP, kQ, kK, nT, mT, mP, rr, ll, HX0⟩ := HB
  obtain ⟨T1, X1, e1, st1⟩ := getF X0 hx hZ hown (host := "") (Or.inl (own_w hw 29 rfl)) Via.refl e0 (pj_FH_text HX0) (g := (mkF m 1 #[vR aH, vI x] [(.ref aH)])) rfl rfl (hb hby d16_1)
  obtain ⟨cq2, kq2, q2a, q2b, q2c⟩ := isOf hZ e1 (pj_EsT_ HX0)
  obtain ⟨_, _, ⟨T2, L2, k2, n2⟩, -, X2, ⟨Lc2, hQ2, l2, y2, z2⟩, st2⟩ := X1.virtualBack hx (y := mN_0) (z := mN_0) hown (mvT hZ (own_w hw 66 rfl)) (mvT hZ (own_w hw 67 rfl)) (notFace_of_selects (args := #[]) (mvT hZ (own_w hw 69 rfl))) (mvT hZ (own_w hw 69 rfl)) (mvT hZ (own_w hw 68 rfl)) (by decide) (backOf (W := 0) (rmSl l Z a0 hw [] aT nT h0 n0 Z0 (pj_EsT_ HX0) (pj_FnT_ HX0)) hZ (own_w hw 70 rfl) (own_w hw 11 rfl) (by decide) (by decide)) q2a q2c (g := (mkF m 4 #[vR aH, vI x] [(.ref aT)])) rfl (by rw [hml]; rfl) (Steps.refl _) (argsL := []) (rest := []) (lenOf pd_4 rfl) rfl (by show 2 * 0 + _ ≤ _; exact Nat.le_of_eq rfl) (hb hby d16_4) (fun _ _ => ⟨rfl, e1, (by decide : 0 + 0 ≤ rO_26.cells), (by decide : 0 + 0 ≤ rO_26.slots)⟩)
  dsimp only [Pt.U, Pt.locs, Pt.cells, Pt.slots] at X2 l2 y2 z2 st2 hQ2
  subst l2 y2 z2
  obtain ⟨rfl, N2q, e2⟩ := hQ2
  have N2 := Fr.app N0 N2q
  have go3 : Goes p e below s₁ (entryFrame m #[(.ref aH), (.int x)] 2) T2 (mkF m 7 #[vR aH, vI x] [(.int nT)]) := fun t k => by
    refine go0 t ?_
    refine XS.aloadN X0.here hx rfl (hb hby d16_0) rfl rfl ?_
    refine st1 t ?_
    refine st2.trans ?_
    exact k
  by_cases hc4 : (0 : Int32) < nT
  · obtain ⟨cq5, q5a, q5b⟩ := (pj_EH HX0).cell
    obtain ⟨_, _, ⟨T5, L5, k5, n5⟩, -, X5, ⟨Lc5, hQ5, l5, y5, z5⟩, st5⟩ := X2.privateBack hx (y := mN_8) hown (mvT hZ (own_w hw 241 rfl)) (mvT hZ (own_w hw 242 rfl)) (own_selp (y := mN_8) (by decide) (mvT hZ (own_w hw 1 rfl)) (mvP hZ (own_w hw 243 rfl)) (mvT hZ (own_w hw 242 rfl))) (Cond.privateMethod_at (mvP hZ (own_w hw 243 rfl) (args := #[]))) (mvT hZ (own_w hw 244 rfl)) (by decide) (backOf (W := 0) (rmHap1 l Z a0 hw [] aH (10 : Int32) x x aT vT aP vP aQ aK ob o1 o2 o3 o4 tx px cP po pk K brk tabs cells par col ls inr rs  cs fm h0 n0 Z0 O0 S_CS hcs S_FM hfm (show own_HB Z h0 aH aT vT aP vP aQ aK ob o1 o2 o3 o4 tx px cP po pk K brk tabs cells par col ls inr rs from ⟨_, _, _, _, _, _, _, _, _, HX0⟩) D gN hB hKb ⟨by decide, by decide⟩ (own_xx x (1 : Int32) (by decide)) hB2) hZ (own_w hw 244 rfl) (own_w hw 2 rfl) (by decide) (by decide)) (g := (mkF m 16 #[vR aH, vI x] [(.int x), (.int x), (.int (1 : Int32)), (.int (10 : Int32)), (.ref aH)])) rfl (by rw [hml]; rfl) (Steps.refl _) (a := aH) (by rw [e2]; exact q5a) q5b (argsL := [(.int (10 : Int32)), (.int (1 : Int32)), (.int x), (.int x)]) (rest := []) (lenOf pd_17 rfl) rfl (by show 2 * 0 + _ ≤ _; exact Nat.le_of_eq rfl) (hb hby d16_16) (fun _ _ => ⟨rfl, e2, (by decide : 0 + 0 ≤ rO_26.cells), (by decide : 0 + 0 ≤ rO_26.slots)⟩)
    dsimp only [Pt.U, Pt.locs, Pt.cells, Pt.slots] at X5 l5 y5 z5 st5 hQ5
    subst l5 y5 z5
    obtain ⟨rfl, N5q, Kq5, Hq5⟩ := hQ5
    have N5 := Fr.app N2 N5q
    have O6 := O0.keep Kq5 gN
    have Z7 := Nat.le_trans Z0 Kq5.1
    have K8 := K0.trans Kq5 (fun _ q => Or.inl q)
    obtain ⟨kTq5, kPq5, kQq5, kKq5, nTq5, mTq5, mPq5, rrq5, llq5, HXq5⟩ := Hq5
    obtain ⟨T9, X9, e9, st9⟩ := getF X5 hx hZ hown (host := "") (Or.inl (own_w hw 29 rfl)) Via.refl rfl (pj_FH_text HXq5) (g := (mkF m 20 #[vR aH, vI x] [(.ref aH)])) rfl rfl (hb hby d16_20)
    obtain ⟨cq10, kq10, q10a, q10b, q10c⟩ := isOf hZ e9 (pj_EsT_ HXq5)
    obtain ⟨_, _, ⟨T10, L10, k10, n10⟩, -, X10, ⟨Lc10, hQ10, l10, y10, z10⟩, st10⟩ := X9.virtualBack hx (y := mN_14) (z := mN_14) hown (mvT hZ (own_w hw 123 rfl)) (mvT hZ (own_w hw 124 rfl)) (notFace_of_selects (args := #[]) (mvT hZ (own_w hw 126 rfl))) (mvT hZ (own_w hw 126 rfl)) (mvT hZ (own_w hw 125 rfl)) (by decide) (backOf (W := 0) (rmTs l Z a0 hw [] aT vT kTq5 nTq5 mTq5 (tx ++ [(10 : Int32)]) cs T5.heap n0 Z7 O6 S_CS hcs (pj_EsT_ HXq5) (pj_FvT_ HXq5) (pj_FcT_ HXq5) (pj_FnT_ HXq5) (pj_FmT_ HXq5) (pj_VaT_ HXq5) (nd_1_2 D) (gN _ (List.mem_of_getElem? (i := 1) rfl)) (gN _ (List.mem_of_getElem? (i := 2) rfl)) (pj_hln HXq5)) hZ (own_w hw 127 rfl) (own_w hw 11 rfl) (by decide) (by decide)) q10a q10c (g := (mkF m 23 #[vR aH, vI x] [(.ref aT)])) rfl (by rw [hml]; rfl) (Steps.refl _) (argsL := []) (rest := []) (lenOf pd_18 rfl) rfl (by show 2 * 0 + _ ≤ _; exact Nat.le_of_eq rfl) (hb hby d16_23) (fun _ _ => ⟨rfl, e9, (by decide : 0 + 2 ≤ rO_26.cells), (by decide : 0 + 16 ≤ rO_26.slots)⟩)
    dsimp only [Pt.U, Pt.locs, Pt.cells, Pt.slots] at X10 l10 y10 z10 st10 hQ10
    subst l10 y10 z10
    obtain ⟨sa10, sb10, kb10, rfl, N10q, Kq10, gS10, leS10, gB10, leB10, Eq10, Cq10, Fq10, Vq10⟩ := hQ10
    have N10 := Fr.app N5 N10q
    have le_sa10 := leS10
    have le_sb10 := leB10
    have gn_sa10 : n0 ≤ sa10 := Nat.le_trans Z7 le_sa10
    have sz_sa10 : h0.size ≤ sa10 := Nat.le_trans K8.1 le_sa10
    have gn_sb10 : n0 ≤ sb10 := Nat.le_trans Z7 le_sb10
    have sz_sb10 : h0.size ≤ sb10 := Nat.le_trans K8.1 le_sb10
    have HX11 := hx_keep HXq5 Kq10 (fun _ _ q => by cases q)
    have O12 := O6.keep Kq10 all0
    have Z13 := Nat.le_trans Z7 Kq10.1
    have K14 := K8.trans Kq10 all0
    have go15 : Goes p e below s₁ (entryFrame m #[(.ref aH), (.int x)] 2) T10 (mkF m 26 #[vR aH, vI x] [(.ref sa10)]) := fun t k => by
      refine go3 t ?_
      refine XS.ifNo X2.here hx rfl (hb hby d16_7) rfl (Jvm.Free.XT.i0_le_f hc4) ?_
      refine XS.aloadN X2.here hx rfl (hb hby d16_10) rfl rfl ?_
      refine XS.bipush X2.here hx rfl (hb hby d16_11) ?_
      refine XS.iconst X2.here hx rfl (hb hby d16_13) ?_
      refine XS.iloadN X2.here hx rfl (hb hby d16_14) rfl ?_
      refine XS.iloadN X2.here hx rfl (hb hby d16_15) rfl ?_
      show Steps p.tables e below (T2.setTop (mkF m 16 #[vR aH, vI x] [(.int x), (.int x), (.int (1 : Int32)), (.int (10 : Int32)), (.ref aH)])) _
      refine st5.trans ?_
      refine XS.aloadN X5.here hx rfl (hb hby d16_19) rfl rfl ?_
      refine st9 t ?_
      refine st10.trans ?_
      exact k
    obtain ⟨fs, hr, hrun, hended, hW, hsame⟩ := X10.leave (v := some (.ref sa10)) (fun h => by rw [Bd.returns] at h; cases h)
    have hfin : own_fin tx = (tx ++ [(10 : Int32)]) := own_fin1 (pj_hln HX0) hc4
    refine ⟨_, _, go15 _ ?_, hrun, hended, _, _, rfl, ?_, ⟨_, rfl⟩, hW, hsame.mono (by decide) (by decide)⟩
    · jvm_step X10.here [X10.here.top, hx, (hb hby d16_26), X10.method', Bd.returns, Value.isRef, FieldType.isReference]
      first | (intro acts; rw [hr _ acts rfl rfl rfl]) | rw [hr _ _ rfl rfl rfl]
      exact Steps.refl _
    · show QFi Z _ _ _ _ _ _ _ _ _ _ _ _ _ _ _ _ _ _ _ _ _ _ _ _ _ _ _ _ _ _ _ _ T10.heap _
      exact ⟨sa10, sb10, kb10, _, rfl, N10, K14, gn_sa10, sz_sa10, gn_sb10, sz_sb10, by rw [hfin]; exact (pj_hln HX11), Eq10, Cq10, Fq10, by rw [hfin]; exact Vq10⟩
  · obtain ⟨T16, X16, e16, st16⟩ := getF X2 hx hZ hown (host := "") (Or.inl (own_w hw 29 rfl)) Via.refl e2 (pj_FH_text HX0) (g := (mkF m 20 #[vR aH, vI x] [(.ref aH)])) rfl rfl (hb hby d16_20)
    obtain ⟨cq17, kq17, q17a, q17b, q17c⟩ := isOf hZ e16 (pj_EsT_ HX0)
    obtain ⟨_, _, ⟨T17, L17, k17, n17⟩, -, X17, ⟨Lc17, hQ17, l17, y17, z17⟩, st17⟩ := X16.virtualBack hx (y := mN_14) (z := mN_14) hown (mvT hZ (own_w hw 123 rfl)) (mvT hZ (own_w hw 124 rfl)) (notFace_of_selects (args := #[]) (mvT hZ (own_w hw 126 rfl))) (mvT hZ (own_w hw 126 rfl)) (mvT hZ (own_w hw 125 rfl)) (by decide) (backOf (W := 0) (rmTs l Z a0 hw [] aT vT kT nT mT tx cs h0 n0 Z0 O0 S_CS hcs (pj_EsT_ HX0) (pj_FvT_ HX0) (pj_FcT_ HX0) (pj_FnT_ HX0) (pj_FmT_ HX0) (pj_VaT_ HX0) (nd_1_2 D) (gN _ (List.mem_of_getElem? (i := 1) rfl)) (gN _ (List.mem_of_getElem? (i := 2) rfl)) (pj_hln HX0)) hZ (own_w hw 127 rfl) (own_w hw 11 rfl) (by decide) (by decide)) q17a q17c (g := (mkF m 23 #[vR aH, vI x] [(.ref aT)])) rfl (by rw [hml]; rfl) (Steps.refl _) (argsL := []) (rest := []) (lenOf pd_18 rfl) rfl (by show 2 * 0 + _ ≤ _; exact Nat.le_of_eq rfl) (hb hby d16_23) (fun _ _ => ⟨rfl, e16, (by decide : 0 + 2 ≤ rO_26.cells), (by decide : 0 + 16 ≤ rO_26.slots)⟩)
    dsimp only [Pt.U, Pt.locs, Pt.cells, Pt.slots] at X17 l17 y17 z17 st17 hQ17
    subst l17 y17 z17
    obtain ⟨sa17, sb17, kb17, rfl, N17q, Kq17, gS17, leS17, gB17, leB17, Eq17, Cq17, Fq17, Vq17⟩ := hQ17
    have N17 := Fr.app N2 N17q
    have le_sa17 := leS17
    have le_sb17 := leB17
    have gn_sa17 : n0 ≤ sa17 := Nat.le_trans Z0 le_sa17
    have sz_sa17 : h0.size ≤ sa17 := Nat.le_trans K0.1 le_sa17
    have gn_sb17 : n0 ≤ sb17 := Nat.le_trans Z0 le_sb17
    have sz_sb17 : h0.size ≤ sb17 := Nat.le_trans K0.1 le_sb17
    have HX18 := hx_keep HX0 Kq17 (fun _ _ q => by cases q)
    have O19 := O0.keep Kq17 all0
    have Z20 := Nat.le_trans Z0 Kq17.1
    have K21 := K0.trans Kq17 all0
    have go22 : Goes p e below s₁ (entryFrame m #[(.ref aH), (.int x)] 2) T17 (mkF m 26 #[vR aH, vI x] [(.ref sa17)]) := fun t k => by
      refine go3 t ?_
      refine XS.ifYes X2.here hx rfl (pc0 := 7) (pc' := 19) rfl (hb hby d16_7) rfl (Jvm.Free.XT.i0_le_t hc4) (by decide) (by decide) ?_
      refine XS.aloadN X2.here hx rfl (hb hby d16_19) rfl rfl ?_
      refine st16 t ?_
      refine st17.trans ?_
      exact k
    obtain ⟨fs, hr, hrun, hended, hW, hsame⟩ := X17.leave (v := some (.ref sa17)) (fun h => by rw [Bd.returns] at h; cases h)
    have hfin : own_fin tx = tx := own_fin0 (pj_hln HX0) hc4
    refine ⟨_, _, go22 _ ?_, hrun, hended, _, _, rfl, ?_, ⟨_, rfl⟩, hW, hsame.mono (by decide) (by decide)⟩
    · jvm_step X17.here [X17.here.top, hx, (hb hby d16_26), X17.method', Bd.returns, Value.isRef, FieldType.isReference]
      first | (intro acts; rw [hr _ acts rfl rfl rfl]) | rw [hr _ _ rfl rfl rfl]
      exact Steps.refl _
    · show QFi Z _ _ _ _ _ _ _ _ _ _ _ _ _ _ _ _ _ _ _ _ _ _ _ _ _ _ _ _ _ _ _ _ T17.heap _
      exact ⟨sa17, sb17, kb17, _, rfl, N17, K21, gn_sa17, sz_sa17, gn_sb17, sz_sb17, by rw [hfin]; exact (pj_hln HX18), Eq17, Cq17, Fq17, by rw [hfin]; exact Vq17⟩
theorem own_fresh {Z : State} {h : Heap} {a : Addr} {k : ClassId} {ty : FieldType} {z : Int32} {vs : List Value} (n : Nat) (hv : vs = List.replicate n (.int (0 : Int32))) (V : Arv Z h a k ty z vs (.int (0 : Int32))) : Arv Z h a k ty z [] (.int (0 : Int32)) := by
  subst hv; exact V.pad (fun i => (own_rep _ n i).symm)
theorem own_An_new {Z : State} {h : Heap} {a : Addr} {k : ClassId} {ty : FieldType} {vs : List Value} (hv : vs = List.replicate 16 (.int (0 : Int32))) (V : Arv Z h a k ty 16 vs (.int (0 : Int32))) : own_An Z h a ty := by
  subst hv
  refine ⟨k, _, List.length_replicate, fun i _ => ⟨0, ?_⟩, V⟩
  rw [own_rep]; rfl
theorem d4_0 : dc4 0 (.aload_n 0) 1 := by decide +kernel
theorem d4_1 : dc4 1 (.invokespecial 3) 3 := by decide +kernel
theorem d4_4 : dc4 4 (.getstatic 18) 3 := by decide +kernel
theorem d4_7 : dc4 7 (.ifCond .eq 18) 3 := by decide +kernel
theorem d4_10 : dc4 10 (.aload_n 0) 1 := by decide +kernel
theorem d4_11 : dc4 11 (.iload_n 1) 1 := by decide +kernel
theorem d4_12 : dc4 12 (.newarray .byte) 2 := by decide +kernel
theorem d4_14 : dc4 14 (.putfield 15) 3 := by decide +kernel
theorem d4_17 : dc4 17 (.aload_n 0) 1 := by decide +kernel
theorem d4_18 : dc4 18 (.iconst 0) 1 := by decide +kernel
theorem d4_19 : dc4 19 (.putfield 22) 3 := by decide +kernel
theorem d4_22 : dc4 22 (.goto 16) 3 := by decide +kernel
theorem d4_38 : dc4 38 (.return_) 1 := by decide +kernel
theorem ef_rmBi (m : MethodId) (a1 : Addr) : entryFrame m #[(.ref a1), (.int (16 : Int32))] 2 = mkF m 0 #[.val (.ref a1), .val (.int (16 : Int32))] [] := by first | (simp [entryFrame, mkF, argsToLocals, Value.category]; done) | rfl
def QBi (Z : State) (a1 : Addr) (cs : Int32) (h0 : Heap) (n0 : Nat) (v : Option Value) (h : Heap) (L : List Loc) : Prop := v = none ∧ Fr n0 L ∧ Keep h0 h [a1] ∧ ∃ (v1 : Addr) (kA : ClassId), n0 ≤ v1 ∧ h0.size ≤ v1 ∧ Exa Z h a1 "java/lang/StringBuilder" ∧ Fld Z h a1 "java/lang/AbstractStringBuilder" "value" "[B" (.ref v1) ∧ Fld Z h a1 "java/lang/AbstractStringBuilder" "coder" "B" (.int (0 : Int32)) ∧ Fld Z h a1 "java/lang/AbstractStringBuilder" "count" "I" (.int (0 : Int32)) ∧ Fld Z h a1 "java/lang/AbstractStringBuilder" "maybeLatin1" "Z" (.int (0 : Int32)) ∧ Arv Z h v1 kA .byte 16 (own_vs []) (.int (0 : Int32))
set_option maxRecDepth 65536 in
set_option maxHeartbeats 40000000 in
theorem rmBi (l : Launch) (Z : State) (a0 : Array Value) (hw : ∀ d ∈ tables_1, d.before a0 Z = true) (ws : List Jvm.Cond) (a1 : Addr) (cs : Int32) (h0 : Heap) (n0 : Nat) (Z0 : n0 ≤ h0.size) (O0 : Old Z n0 h0) (S_CS : Sta Z Z.heap "java/lang/String" "COMPACT_STRINGS" "Z" (.int cs)) (hcs : ¬ cs = 0) (EB : Exa Z h0 a1 "java/lang/StringBuilder") (FV : Fld Z h0 a1 "java/lang/AbstractStringBuilder" "value" "[B" .null) (FC : Fld Z h0 a1 "java/lang/AbstractStringBuilder" "coder" "B" (.int (0 : Int32))) (FN : Fld Z h0 a1 "java/lang/AbstractStringBuilder" "count" "I" (.int (0 : Int32))) (FM : Fld Z h0 a1 "java/lang/AbstractStringBuilder" "maybeLatin1" "Z" (.int (0 : Int32))) (gA : n0 ≤ a1) :
    MetFree l (⟨"java/lang/AbstractStringBuilder", "<init>", "(I)V"⟩ : MethodName) (head1 (Jvm.Cond.code (⟨"java/lang/AbstractStringBuilder", "<init>", "(I)V"⟩ : MethodName) jdk_68_method_2_code 2 none :: ws) rO_6) (fun a U => a = #[(.ref a1), (.int (16 : Int32))] ∧ Z.Warmed39 U.vm ∧ U.heap = h0) (fun _ _ _ _ _ => True) (fun _ U o U' => ∃ v L, o = .returned v ∧ QBi Z a1 cs h0 n0 v U'.heap L ∧ FrameEnd U o U' L rO_6.cells rO_6.slots) := by
  refine MetFree.of_bodySF (plainFor_of_name pn_0) hisR ?_
  intro p e s m args below meth c s₁ Bd hml0 hP hK
  obtain ⟨rfl, hZ, hh⟩ := hP
  have hx := Bd.exec
  have hby := Bd.bytes
  have hml : c.maxLocals = 2 := hml0
  have hown : s.vm.findClass "java/lang/AbstractStringBuilder" = some m.cls := findClass_of_methodNamed Bd.named
  have hnm := (name_of_methodNamed Bd.named Bd.method).1
  have X0 : Stand p l e rO_6 s m #[(.ref a1), (.int (16 : Int32))] below meth c s₁ [] 0 0 := Stand.of_body Bd
  have e0 : s₁.heap = h0 := by rw [← hh, Bd.state]; rfl
  have N0 := Fr.nil n0
  have K0 := Keep.refl h0 [a1]
  have go0 : Goes p e below s₁ (entryFrame m #[(.ref a1), (.int (16 : Int32))] 2) s₁ (mkF m 0 #[vR a1, vI (16 : Int32)] []) := fun t k => castTop (ef_rmBi m a1) k
  obtain ⟨T1, X1, e1, st1⟩ := initO X0 hx hZ hown (own_w hw 21 rfl) (own_w hw 7 rfl) (own_w hw 8 rfl) e0 (g := (mkF m 1 #[vR a1, vI (16 : Int32)] [(.ref a1)])) rfl (by rw [hml]; rfl) rfl (hb hby d4_1) (by decide) (W := 0) (by show 2 * 0 + _ ≤ _; exact Nat.le_of_eq rfl) (by decide)
  obtain ⟨T2, X2, e2, st2⟩ := getS2 X1 hx hZ hown (host := "") (Or.inl (own_w hw 22 rfl)) Via.refl e1 (S_CS.ext O0.2) (g := (mkF m 4 #[vR a1, vI (16 : Int32)] [])) rfl (hb hby d4_4)
  obtain ⟨T3, h3, k3, X3, e3, E3, A3, st3⟩ := newP X2 hx hZ (own_w hw 24 rfl) e2 (g := (mkF m 12 #[vR a1, vI (16 : Int32)] [(.int (16 : Int32)), (.ref a1)])) rfl (hb hby d4_12) rfl (by decide) (cap := 16) (by decide) (by decide) (by decide) (by decide)
  obtain ⟨b3, g_b_b3⟩ : ∃ z, z = h0.size := ⟨_, rfl⟩
  have le_b3 : h0.size ≤ b3 := Nat.le_of_eq g_b_b3.symm
  have gn_b3 : n0 ≤ b3 := Nat.le_trans Z0 le_b3
  have sz_b3 : h0.size ≤ b3 := Nat.le_trans K0.1 le_b3
  rw [← g_b_b3] at A3 st3
  have f4 := EB.ext E3
  have f5 := FV.ext E3
  have f6 := FC.ext E3
  have f7 := FN.ext E3
  have f8 := FM.ext E3
  have O9 := O0.ext E3
  have Z10 := Nat.le_trans Z0 E3.1
  have K11 := K0.ext E3
  have V12 : Arv Z h3 b3 k3 .byte (16 : Int32) [(.int (0 : Int32)), (.int (0 : Int32)), (.int (0 : Int32)), (.int (0 : Int32)), (.int (0 : Int32)), (.int (0 : Int32)), (.int (0 : Int32)), (.int (0 : Int32)), (.int (0 : Int32)), (.int (0 : Int32)), (.int (0 : Int32)), (.int (0 : Int32)), (.int (0 : Int32)), (.int (0 : Int32)), (.int (0 : Int32)), (.int (0 : Int32))] (.int (0 : Int32)) := (Arv.new A3 (by decide)).pad (pad_rep [] (.int (0 : Int32)) 16)
  obtain ⟨T13, h13, X13, e13, W13, st13⟩ := putF X3 hx hZ hown (host := "") (Or.inl (own_w hw 25 rfl)) Via.refl e3 f5 f4 (Or.inl (own_w hw 26 rfl)) (own_w hw 10 rfl) (ty := (.array .byte)) (by decide) rfl rfl (g := (mkF m 14 #[vR a1, vI (16 : Int32)] [(.ref b3), (.ref a1)])) rfl rfl (hb hby d4_14)
  have f14 := f5.same W13
  have f15 := f4.wr W13
  have f16 := f6.other W13 (Or.inr (slot_ne (Or.inl (own_w hw 28 rfl)) (Or.inl (own_w hw 26 rfl)) (by decide) (t := .byte) (t' := (.array .byte)) (by decide) (by decide)))
  have f17 := f7.other W13 (Or.inr (slot_ne (Or.inl (own_w hw 77 rfl)) (Or.inl (own_w hw 26 rfl)) (by decide) (t := .int) (t' := (.array .byte)) (by decide) (by decide)))
  have f18 := f8.other W13 (Or.inr (slot_ne (Or.inl (own_w hw 251 rfl)) (Or.inl (own_w hw 26 rfl)) (by decide) (t := .boolean) (t' := (.array .byte)) (by decide) (by decide)))
  have f19 := V12.other W13 (Ne.symm (Nat.ne_of_lt (Nat.lt_of_lt_of_le FM.lt le_b3)))
  have O20 := O9.wr W13 gA
  have Z21 := Nat.le_trans Z10 (Nat.le_of_eq W13.size.symm)
  have K22 := K11.wr W13 (Or.inl (List.mem_of_getElem? (i := 0) rfl))
  have N23 := Fr.snoc X13 N0 gA
  obtain ⟨T24, h24, X24, e24, W24, st24⟩ := putFN X13 hx hZ hown (own_w hw 27 rfl) Via.refl e13 f16 f15 (Or.inl (own_w hw 28 rfl)) (own_w hw 10 rfl) (ty := .byte) (v' := (.int (0 : Int32))) (by decide) rfl rfl (g := (mkF m 19 #[vR a1, vI (16 : Int32)] [(.int (0 : Int32)), (.ref a1)])) rfl rfl (hb hby d4_19)
  have f25 := f16.same W24
  have f26 := f15.wr W24
  have f27 := f17.other W24 (Or.inr (slot_ne (Or.inl (own_w hw 77 rfl)) (Or.inl (own_w hw 28 rfl)) (by decide) (t := .int) (t' := .byte) (by decide) (by decide)))
  have f28 := f18.other W24 (Or.inr (slot_ne (Or.inl (own_w hw 251 rfl)) (Or.inl (own_w hw 28 rfl)) (by decide) (t := .boolean) (t' := .byte) (by decide) (by decide)))
  have f29 := f19.other W24 (Ne.symm (Nat.ne_of_lt (Nat.lt_of_lt_of_le FM.lt le_b3)))
  have f30 := f14.other W24 (Or.inr (slot_ne (Or.inl (own_w hw 26 rfl)) (Or.inl (own_w hw 28 rfl)) (by decide) (t := (.array .byte)) (t' := .byte) (by decide) (by decide)))
  have O31 := O20.wr W24 gA
  have Z32 := Nat.le_trans Z21 (Nat.le_of_eq W24.size.symm)
  have K33 := K22.wr W24 (Or.inl (List.mem_of_getElem? (i := 0) rfl))
  have N34 := Fr.snoc X24 N23 gA
  have go35 : Goes p e below s₁ (entryFrame m #[(.ref a1), (.int (16 : Int32))] 2) T24 (mkF m 38 #[vR a1, vI (16 : Int32)] []) := fun t k => by
    refine go0 t ?_
    refine XS.aloadN X0.here hx rfl (hb hby d4_0) rfl rfl ?_
    refine st1 t ?_
    refine st2 t ?_
    refine XS.ifNo X2.here hx rfl (hb hby d4_7) rfl (Jvm.Free.XT.i0_eq_f hcs) ?_
    refine XS.aloadN X2.here hx rfl (hb hby d4_10) rfl rfl ?_
    refine XS.iloadN X2.here hx rfl (hb hby d4_11) rfl ?_
    show Steps p.tables e below (T2.setTop (mkF m 12 #[vR a1, vI (16 : Int32)] [(.int (16 : Int32)), (.ref a1)])) _
    refine st3 t ?_
    refine st13 t ?_
    refine XS.aloadN X13.here hx rfl (hb hby d4_17) rfl rfl ?_
    refine XS.iconst X13.here hx rfl (hb hby d4_18) ?_
    refine st24 t ?_
    refine XS.goto X24.here hx rfl (pc0 := 22) (pc' := 38) rfl (hb hby d4_22) (by decide) (by decide) ?_
    exact k
  obtain ⟨fs, hr, hrun, hended, hW, hsame⟩ := X24.leave (v := none) (fun _ => rfl)
  refine ⟨_, _, go35 _ ?_, hrun, hended, _, _, rfl, ?_, ⟨_, rfl⟩, hW, hsame.mono (by decide) (by decide)⟩
  · exact X24.returnOut hx Bd.returns (hb hby d4_38) hr
  · show QBi Z _ _ _ _ _ T24.heap _
    rw [e24]
    exact ⟨rfl, N34, K33, b3, _, gn_b3, sz_b3, f26, f30, f25, f27, f28, own_fresh 16 rfl (f29)⟩
theorem d3_0 : dc3 0 (.aload_n 0) 1 := by decide +kernel
theorem d3_1 : dc3 1 (.bipush 16) 2 := by decide +kernel
theorem d3_3 : dc3 3 (.invokespecial 1) 3 := by decide +kernel
theorem d3_6 : dc3 6 (.return_) 1 := by decide +kernel
theorem ef_rmBj (m : MethodId) (a1 : Addr) : entryFrame m #[(.ref a1)] 1 = mkF m 0 #[.val (.ref a1)] [] := by first | (simp [entryFrame, mkF, argsToLocals, Value.category]; done) | rfl
def QBj (Z : State) (a1 : Addr) (cs : Int32) (h0 : Heap) (n0 : Nat) (v : Option Value) (h : Heap) (L : List Loc) : Prop := v = none ∧ Fr n0 L ∧ Keep h0 h [a1] ∧ ∃ (v1 : Addr) (kA : ClassId), n0 ≤ v1 ∧ h0.size ≤ v1 ∧ Exa Z h a1 "java/lang/StringBuilder" ∧ Fld Z h a1 "java/lang/AbstractStringBuilder" "value" "[B" (.ref v1) ∧ Fld Z h a1 "java/lang/AbstractStringBuilder" "coder" "B" (.int (0 : Int32)) ∧ Fld Z h a1 "java/lang/AbstractStringBuilder" "count" "I" (.int (0 : Int32)) ∧ Fld Z h a1 "java/lang/AbstractStringBuilder" "maybeLatin1" "Z" (.int (0 : Int32)) ∧ Arv Z h v1 kA .byte 16 (own_vs []) (.int (0 : Int32))
set_option maxRecDepth 65536 in
set_option maxHeartbeats 40000000 in
theorem rmBj (l : Launch) (Z : State) (a0 : Array Value) (hw : ∀ d ∈ tables_1, d.before a0 Z = true) (ws : List Jvm.Cond) (a1 : Addr) (cs : Int32) (h0 : Heap) (n0 : Nat) (Z0 : n0 ≤ h0.size) (O0 : Old Z n0 h0) (S_CS : Sta Z Z.heap "java/lang/String" "COMPACT_STRINGS" "Z" (.int cs)) (hcs : ¬ cs = 0) (EB : Exa Z h0 a1 "java/lang/StringBuilder") (FV : Fld Z h0 a1 "java/lang/AbstractStringBuilder" "value" "[B" .null) (FC : Fld Z h0 a1 "java/lang/AbstractStringBuilder" "coder" "B" (.int (0 : Int32))) (FN : Fld Z h0 a1 "java/lang/AbstractStringBuilder" "count" "I" (.int (0 : Int32))) (FM : Fld Z h0 a1 "java/lang/AbstractStringBuilder" "maybeLatin1" "Z" (.int (0 : Int32))) (gA : n0 ≤ a1) :
    MetFree l mN_30 (head1 (Jvm.Cond.code mN_30 jdk_67_method_1_code 1 none :: ws) rO_12) (fun a U => a = #[(.ref a1)] ∧ Z.Warmed39 U.vm ∧ U.heap = h0) (fun _ _ _ _ _ => True) (fun _ U o U' => ∃ v L, o = .returned v ∧ QBj Z a1 cs h0 n0 v U'.heap L ∧ FrameEnd U o U' L rO_12.cells rO_12.slots) := by
  refine MetFree.of_bodySF (plainFor_of_name pn_2) hisR ?_
  intro p e s m args below meth c s₁ Bd hml0 hP hK
  obtain ⟨rfl, hZ, hh⟩ := hP
  have hx := Bd.exec
  have hby := Bd.bytes
  have hml : c.maxLocals = 1 := hml0
  have hown : s.vm.findClass "java/lang/StringBuilder" = some m.cls := findClass_of_methodNamed Bd.named
  have hnm := (name_of_methodNamed Bd.named Bd.method).1
  have X0 : Stand p l e rO_12 s m #[(.ref a1)] below meth c s₁ [] 0 0 := Stand.of_body Bd
  have e0 : s₁.heap = h0 := by rw [← hh, Bd.state]; rfl
  have N0 := Fr.nil n0
  have K0 := Keep.refl h0 [a1]
  have go0 : Goes p e below s₁ (entryFrame m #[(.ref a1)] 1) s₁ (mkF m 0 #[vR a1] []) := fun t k => castTop (ef_rmBj m a1) k
  obtain ⟨_, _, ⟨T1, L1, k1, n1⟩, -, X1, ⟨Lc1, hQ1, l1, y1, z1⟩, st1⟩ := X0.specialBack hx (y := (⟨"java/lang/AbstractStringBuilder", "<init>", "(I)V"⟩ : MethodName)) rfl hown (mvT hZ (own_w hw 15 rfl)) (mvT hZ (own_w hw 16 rfl)) (mvT hZ (own_w hw 20 rfl)) (by decide) (backOf (W := 0) (rmBi l Z a0 hw [] a1 cs h0 n0 Z0 O0 S_CS hcs EB FV FC FN FM gA) hZ (own_w hw 20 rfl) (own_w hw 19 rfl) (by decide) (by decide)) (g := (mkF m 3 #[vR a1] [(.int (16 : Int32)), (.ref a1)])) rfl (by rw [hml]; rfl) (Steps.refl _) (a := a1) (argsL := [(.int (16 : Int32))]) (rest := []) (lenOf pd_0 rfl) rfl (by show 2 * 0 + _ ≤ _; exact Nat.le_of_eq rfl) (hb hby d3_3) (fun _ _ => ⟨rfl, e0, (by decide : 0 + 1 ≤ rO_12.cells), (by decide : 0 + 16 ≤ rO_12.slots)⟩)
  dsimp only [Pt.U, Pt.locs, Pt.cells, Pt.slots] at X1 l1 y1 z1 st1 hQ1
  subst l1 y1 z1
  obtain ⟨rfl, N1q, Kq1, Rq1⟩ := hQ1
  have N1 := Fr.app N0 N1q
  obtain ⟨v1, kv1, gv1, lev1, E1q1, FVq1, FCq1, FNq1, FMq1, V1q1⟩ := Rq1
  have le_v1 := lev1
  have gn_v1 : n0 ≤ v1 := Nat.le_trans Z0 le_v1
  have sz_v1 : h0.size ≤ v1 := Nat.le_trans K0.1 le_v1
  have f2 := EB.keep Kq1
  have O3 := O0.keep Kq1 (allS gA all0)
  have Z4 := Nat.le_trans Z0 Kq1.1
  have K5 := K0.trans Kq1 (allS (Or.inl (List.mem_of_getElem? (i := 0) rfl)) all0)
  have go6 : Goes p e below s₁ (entryFrame m #[(.ref a1)] 1) T1 (mkF m 6 #[vR a1] []) := fun t k => by
    refine go0 t ?_
    refine XS.aloadN X0.here hx rfl (hb hby d3_0) rfl rfl ?_
    refine XS.bipush X0.here hx rfl (hb hby d3_1) ?_
    refine st1.trans ?_
    exact k
  obtain ⟨fs, hr, hrun, hended, hW, hsame⟩ := X1.leave (v := none) (fun _ => rfl)
  refine ⟨_, _, go6 _ ?_, hrun, hended, _, _, rfl, ?_, ⟨_, rfl⟩, hW, hsame.mono (by decide) (by decide)⟩
  · exact X1.returnOut hx Bd.returns (hb hby d3_6) hr
  · show QBj Z _ _ _ _ _ T1.heap _
    exact ⟨rfl, N1, K5, v1, _, gn_v1, sz_v1, E1q1, FVq1, FCq1, FNq1, FMq1, (V1q1)⟩
theorem d5_0 : dc5 0 (.aload_n 0) 1 := by decide +kernel
theorem d5_1 : dc5 1 (.invokespecial 1) 3 := by decide +kernel
theorem d5_4 : dc5 4 (.aload_n 0) 1 := by decide +kernel
theorem d5_5 : dc5 5 (.bipush 16) 2 := by decide +kernel
theorem d5_7 : dc5 7 (.newarray .int) 2 := by decide +kernel
theorem d5_9 : dc5 9 (.putfield 7) 3 := by decide +kernel
theorem d5_12 : dc5 12 (.aload_n 0) 1 := by decide +kernel
theorem d5_13 : dc5 13 (.bipush 16) 2 := by decide +kernel
theorem d5_15 : dc5 15 (.newarray .int) 2 := by decide +kernel
theorem d5_17 : dc5 17 (.putfield 13) 3 := by decide +kernel
theorem d5_20 : dc5 20 (.aload_n 0) 1 := by decide +kernel
theorem d5_21 : dc5 21 (.bipush 16) 2 := by decide +kernel
theorem d5_23 : dc5 23 (.newarray .int) 2 := by decide +kernel
theorem d5_25 : dc5 25 (.putfield 16) 3 := by decide +kernel
theorem d5_28 : dc5 28 (.aload_n 0) 1 := by decide +kernel
theorem d5_29 : dc5 29 (.bipush 16) 2 := by decide +kernel
theorem d5_31 : dc5 31 (.newarray .boolean) 2 := by decide +kernel
theorem d5_33 : dc5 33 (.putfield 19) 3 := by decide +kernel
theorem d5_36 : dc5 36 (.return_) 1 := by decide +kernel
theorem ef_rmOi (m : MethodId) (ob : Addr) : entryFrame m #[(.ref ob)] 1 = mkF m 0 #[.val (.ref ob)] [] := by first | (simp [entryFrame, mkF, argsToLocals, Value.category]; done) | rfl
def QOi (Z : State) (ob : Addr) (h0 : Heap) (n0 : Nat) (v : Option Value) (h : Heap) (L : List Loc) : Prop := v = none ∧ Fr n0 L ∧ Keep h0 h [ob] ∧ ∃ (o1 o2 o3 o4 : Addr), h0.size ≤ o1 ∧ h0.size ≤ o2 ∧ h0.size ≤ o3 ∧ h0.size ≤ o4 ∧ o1 ≠ o2 ∧ o1 ≠ o3 ∧ o1 ≠ o4 ∧ o2 ≠ o3 ∧ o2 ≠ o4 ∧ o3 ≠ o4 ∧ Exa Z h ob "com/example/whereas/whereas/model/Origins$Builder" ∧ Fld Z h ob "com/example/whereas/whereas/model/Origins$Builder" "starts" "[I" (.ref o1) ∧ Fld Z h ob "com/example/whereas/whereas/model/Origins$Builder" "originStarts" "[I" (.ref o2) ∧ Fld Z h ob "com/example/whereas/whereas/model/Origins$Builder" "originEnds" "[I" (.ref o3) ∧ Fld Z h ob "com/example/whereas/whereas/model/Origins$Builder" "literal" "[Z" (.ref o4) ∧ Fld Z h ob "com/example/whereas/whereas/model/Origins$Builder" "runs" "I" (.int (0 : Int32)) ∧ Fld Z h ob "com/example/whereas/whereas/model/Origins$Builder" "length" "I" (.int (0 : Int32)) ∧ own_An Z h o1 .int ∧ own_An Z h o2 .int ∧ own_An Z h o3 .int ∧ own_An Z h o4 .boolean
set_option maxRecDepth 65536 in
set_option maxHeartbeats 40000000 in
theorem rmOi (l : Launch) (Z : State) (a0 : Array Value) (hw : ∀ d ∈ tables_1, d.before a0 Z = true) (ws : List Jvm.Cond) (ob : Addr) (h0 : Heap) (n0 : Nat) (Z0 : n0 ≤ h0.size) (EO : Exa Z h0 ob "com/example/whereas/whereas/model/Origins$Builder") (FO0 : Fld Z h0 ob "com/example/whereas/whereas/model/Origins$Builder" "starts" "[I" .null) (FO1 : Fld Z h0 ob "com/example/whereas/whereas/model/Origins$Builder" "originStarts" "[I" .null) (FO2 : Fld Z h0 ob "com/example/whereas/whereas/model/Origins$Builder" "originEnds" "[I" .null) (FO3 : Fld Z h0 ob "com/example/whereas/whereas/model/Origins$Builder" "literal" "[Z" .null) (FOr : Fld Z h0 ob "com/example/whereas/whereas/model/Origins$Builder" "runs" "I" (.int (0 : Int32))) (FOl : Fld Z h0 ob "com/example/whereas/whereas/model/Origins$Builder" "length" "I" (.int (0 : Int32))) (gO : n0 ≤ ob) :
    MetFree l (⟨"com/example/whereas/whereas/model/Origins$Builder", "<init>", "()V"⟩ : MethodName) (head1 (Jvm.Cond.code (⟨"com/example/whereas/whereas/model/Origins$Builder", "<init>", "()V"⟩ : MethodName) prog_44_method_1_code 1 none :: ws) rO_7) (fun a U => a = #[(.ref ob)] ∧ Z.Warmed39 U.vm ∧ U.heap = h0) (fun _ _ _ _ _ => True) (fun _ U o U' => ∃ v L, o = .returned v ∧ QOi Z ob h0 n0 v U'.heap L ∧ FrameEnd U o U' L rO_7.cells rO_7.slots) := by
  refine MetFree.of_bodySF (plainFor_of_name pn_6) hisR ?_
  intro p e s m args below meth c s₁ Bd hml0 hP hK
  obtain ⟨rfl, hZ, hh⟩ := hP
  have hx := Bd.exec
  have hby := Bd.bytes
  have hml : c.maxLocals = 1 := hml0
  have hown : s.vm.findClass "com/example/whereas/whereas/model/Origins$Builder" = some m.cls := findClass_of_methodNamed Bd.named
  have hnm := (name_of_methodNamed Bd.named Bd.method).1
  have X0 : Stand p l e rO_7 s m #[(.ref ob)] below meth c s₁ [] 0 0 := Stand.of_body Bd
  have e0 : s₁.heap = h0 := by rw [← hh, Bd.state]; rfl
  have N0 := Fr.nil n0
  have K0 := Keep.refl h0 [ob]
  have go0 : Goes p e below s₁ (entryFrame m #[(.ref ob)] 1) s₁ (mkF m 0 #[vR ob] []) := fun t k => castTop (ef_rmOi m ob) k
  obtain ⟨T1, X1, e1, st1⟩ := initO X0 hx hZ hown (own_w hw 37 rfl) (own_w hw 7 rfl) (own_w hw 8 rfl) e0 (g := (mkF m 1 #[vR ob] [(.ref ob)])) rfl (by rw [hml]; rfl) rfl (hb hby d5_1) (by decide) (W := 0) (by show 2 * 0 + _ ≤ _; exact Nat.le_of_eq rfl) (by decide)
  obtain ⟨T2, h2, k2, X2, e2, E2, A2, st2⟩ := newP X1 hx hZ (own_w hw 38 rfl) e1 (g := (mkF m 7 #[vR ob] [(.int (16 : Int32)), (.ref ob)])) rfl (hb hby d5_7) rfl (by decide) (cap := 16) (by decide) (by decide) (by decide) (by decide)
  obtain ⟨b2, g_b_b2⟩ : ∃ z, z = h0.size := ⟨_, rfl⟩
  have le_b2 : h0.size ≤ b2 := Nat.le_of_eq g_b_b2.symm
  have gn_b2 : n0 ≤ b2 := Nat.le_trans Z0 le_b2
  have sz_b2 : h0.size ≤ b2 := Nat.le_trans K0.1 le_b2
  rw [← g_b_b2] at A2 st2
  have f3 := EO.ext E2
  have f4 := FO0.ext E2
  have f5 := FO1.ext E2
  have f6 := FO2.ext E2
  have f7 := FO3.ext E2
  have f8 := FOr.ext E2
  have f9 := FOl.ext E2
  have Z10 := Nat.le_trans Z0 E2.1
  have K11 := K0.ext E2
  have V12 : Arv Z h2 b2 k2 .int (16 : Int32) [(.int (0 : Int32)), (.int (0 : Int32)), (.int (0 : Int32)), (.int (0 : Int32)), (.int (0 : Int32)), (.int (0 : Int32)), (.int (0 : Int32)), (.int (0 : Int32)), (.int (0 : Int32)), (.int (0 : Int32)), (.int (0 : Int32)), (.int (0 : Int32)), (.int (0 : Int32)), (.int (0 : Int32)), (.int (0 : Int32)), (.int (0 : Int32))] (.int (0 : Int32)) := (Arv.new A2 (by decide)).pad (pad_rep [] (.int (0 : Int32)) 16)
  obtain ⟨T13, h13, X13, e13, W13, st13⟩ := putF X2 hx hZ hown (host := "") (Or.inl (own_w hw 39 rfl)) Via.refl e2 f4 f3 (Or.inl (own_w hw 40 rfl)) (own_w hw 32 rfl) (ty := (.array .int)) (by decide) rfl rfl (g := (mkF m 9 #[vR ob] [(.ref b2), (.ref ob)])) rfl rfl (hb hby d5_9)
  have f14 := f4.same W13
  have f15 := f3.wr W13
  have f16 := f5.other W13 (Or.inr (slot_ne (Or.inl (own_w hw 42 rfl)) (Or.inl (own_w hw 40 rfl)) (by decide) (t := (.array .int)) (t' := (.array .int)) (by decide) (by decide)))
  have f17 := f6.other W13 (Or.inr (slot_ne (Or.inl (own_w hw 44 rfl)) (Or.inl (own_w hw 40 rfl)) (by decide) (t := (.array .int)) (t' := (.array .int)) (by decide) (by decide)))
  have f18 := f7.other W13 (Or.inr (slot_ne (Or.inl (own_w hw 47 rfl)) (Or.inl (own_w hw 40 rfl)) (by decide) (t := (.array .boolean)) (t' := (.array .int)) (by decide) (by decide)))
  have f19 := f8.other W13 (Or.inr (slot_ne (Or.inl (own_w hw 229 rfl)) (Or.inl (own_w hw 40 rfl)) (by decide) (t := .int) (t' := (.array .int)) (by decide) (by decide)))
  have f20 := f9.other W13 (Or.inr (slot_ne (Or.inl (own_w hw 235 rfl)) (Or.inl (own_w hw 40 rfl)) (by decide) (t := .int) (t' := (.array .int)) (by decide) (by decide)))
  have f21 := V12.other W13 (Ne.symm (Nat.ne_of_lt (Nat.lt_of_lt_of_le FOl.lt le_b2)))
  have Z22 := Nat.le_trans Z10 (Nat.le_of_eq W13.size.symm)
  have K23 := K11.wr W13 (Or.inl (List.mem_of_getElem? (i := 0) rfl))
  have N24 := Fr.snoc X13 N0 gO
  obtain ⟨T25, h25, k25, X25, e25, E25, A25, st25⟩ := newP X13 hx hZ (own_w hw 38 rfl) e13 (g := (mkF m 15 #[vR ob] [(.int (16 : Int32)), (.ref ob)])) rfl (hb hby d5_15) rfl (by decide) (cap := 16) (by decide) (by decide) (by decide) (by decide)
  obtain ⟨b25, g_b_b25⟩ : ∃ z, z = h13.size := ⟨_, rfl⟩
  have le_b25 : h13.size ≤ b25 := Nat.le_of_eq g_b_b25.symm
  have gn_b25 : n0 ≤ b25 := Nat.le_trans Z22 le_b25
  have sz_b25 : h0.size ≤ b25 := Nat.le_trans K23.1 le_b25
  rw [← g_b_b25] at A25 st25
  have f26 := f15.ext E25
  have f27 := f16.ext E25
  have f28 := f17.ext E25
  have f29 := f18.ext E25
  have f30 := f19.ext E25
  have f31 := f20.ext E25
  have f32 := f21.ext E25
  have f33 := f14.ext E25
  have Z34 := Nat.le_trans Z22 E25.1
  have K35 := K23.ext E25
  have V36 : Arv Z h25 b25 k25 .int (16 : Int32) [(.int (0 : Int32)), (.int (0 : Int32)), (.int (0 : Int32)), (.int (0 : Int32)), (.int (0 : Int32)), (.int (0 : Int32)), (.int (0 : Int32)), (.int (0 : Int32)), (.int (0 : Int32)), (.int (0 : Int32)), (.int (0 : Int32)), (.int (0 : Int32)), (.int (0 : Int32)), (.int (0 : Int32)), (.int (0 : Int32)), (.int (0 : Int32))] (.int (0 : Int32)) := (Arv.new A25 (by decide)).pad (pad_rep [] (.int (0 : Int32)) 16)
  obtain ⟨T37, h37, X37, e37, W37, st37⟩ := putF X25 hx hZ hown (host := "") (Or.inl (own_w hw 41 rfl)) Via.refl e25 f27 f26 (Or.inl (own_w hw 42 rfl)) (own_w hw 32 rfl) (ty := (.array .int)) (by decide) rfl rfl (g := (mkF m 17 #[vR ob] [(.ref b25), (.ref ob)])) rfl rfl (hb hby d5_17)
  have f38 := f27.same W37
  have f39 := f26.wr W37
  have f40 := f28.other W37 (Or.inr (slot_ne (Or.inl (own_w hw 44 rfl)) (Or.inl (own_w hw 42 rfl)) (by decide) (t := (.array .int)) (t' := (.array .int)) (by decide) (by decide)))
  have f41 := f29.other W37 (Or.inr (slot_ne (Or.inl (own_w hw 47 rfl)) (Or.inl (own_w hw 42 rfl)) (by decide) (t := (.array .boolean)) (t' := (.array .int)) (by decide) (by decide)))
  have f42 := f30.other W37 (Or.inr (slot_ne (Or.inl (own_w hw 229 rfl)) (Or.inl (own_w hw 42 rfl)) (by decide) (t := .int) (t' := (.array .int)) (by decide) (by decide)))
  have f43 := f31.other W37 (Or.inr (slot_ne (Or.inl (own_w hw 235 rfl)) (Or.inl (own_w hw 42 rfl)) (by decide) (t := .int) (t' := (.array .int)) (by decide) (by decide)))
  have f44 := f32.other W37 (Ne.symm (Nat.ne_of_lt (Nat.lt_of_lt_of_le FOl.lt le_b2)))
  have f45 := f33.other W37 (Or.inr (slot_ne (Or.inl (own_w hw 40 rfl)) (Or.inl (own_w hw 42 rfl)) (by decide) (t := (.array .int)) (t' := (.array .int)) (by decide) (by decide)))
  have f46 := V36.other W37 (Ne.symm (Nat.ne_of_lt (Nat.lt_of_lt_of_le f14.lt le_b25)))
  have Z47 := Nat.le_trans Z34 (Nat.le_of_eq W37.size.symm)
  have K48 := K35.wr W37 (Or.inl (List.mem_of_getElem? (i := 0) rfl))
  have N49 := Fr.snoc X37 N24 gO
  obtain ⟨T50, h50, k50, X50, e50, E50, A50, st50⟩ := newP X37 hx hZ (own_w hw 38 rfl) e37 (g := (mkF m 23 #[vR ob] [(.int (16 : Int32)), (.ref ob)])) rfl (hb hby d5_23) rfl (by decide) (cap := 16) (by decide) (by decide) (by decide) (by decide)
  obtain ⟨b50, g_b_b50⟩ : ∃ z, z = h37.size := ⟨_, rfl⟩
  have le_b50 : h37.size ≤ b50 := Nat.le_of_eq g_b_b50.symm
  have gn_b50 : n0 ≤ b50 := Nat.le_trans Z47 le_b50
  have sz_b50 : h0.size ≤ b50 := Nat.le_trans K48.1 le_b50
  rw [← g_b_b50] at A50 st50
  have f51 := f39.ext E50
  have f52 := f40.ext E50
  have f53 := f41.ext E50
  have f54 := f42.ext E50
  have f55 := f43.ext E50
  have f56 := f44.ext E50
  have f57 := f45.ext E50
  have f58 := f46.ext E50
  have f59 := f38.ext E50
  have Z60 := Nat.le_trans Z47 E50.1
  have K61 := K48.ext E50
  have V62 : Arv Z h50 b50 k50 .int (16 : Int32) [(.int (0 : Int32)), (.int (0 : Int32)), (.int (0 : Int32)), (.int (0 : Int32)), (.int (0 : Int32)), (.int (0 : Int32)), (.int (0 : Int32)), (.int (0 : Int32)), (.int (0 : Int32)), (.int (0 : Int32)), (.int (0 : Int32)), (.int (0 : Int32)), (.int (0 : Int32)), (.int (0 : Int32)), (.int (0 : Int32)), (.int (0 : Int32))] (.int (0 : Int32)) := (Arv.new A50 (by decide)).pad (pad_rep [] (.int (0 : Int32)) 16)
  obtain ⟨T63, h63, X63, e63, W63, st63⟩ := putF X50 hx hZ hown (host := "") (Or.inl (own_w hw 43 rfl)) Via.refl e50 f52 f51 (Or.inl (own_w hw 44 rfl)) (own_w hw 32 rfl) (ty := (.array .int)) (by decide) rfl rfl (g := (mkF m 25 #[vR ob] [(.ref b50), (.ref ob)])) rfl rfl (hb hby d5_25)
  have f64 := f52.same W63
  have f65 := f51.wr W63
  have f66 := f53.other W63 (Or.inr (slot_ne (Or.inl (own_w hw 47 rfl)) (Or.inl (own_w hw 44 rfl)) (by decide) (t := (.array .boolean)) (t' := (.array .int)) (by decide) (by decide)))
  have f67 := f54.other W63 (Or.inr (slot_ne (Or.inl (own_w hw 229 rfl)) (Or.inl (own_w hw 44 rfl)) (by decide) (t := .int) (t' := (.array .int)) (by decide) (by decide)))
  have f68 := f55.other W63 (Or.inr (slot_ne (Or.inl (own_w hw 235 rfl)) (Or.inl (own_w hw 44 rfl)) (by decide) (t := .int) (t' := (.array .int)) (by decide) (by decide)))
  have f69 := f56.other W63 (Ne.symm (Nat.ne_of_lt (Nat.lt_of_lt_of_le FOl.lt le_b2)))
  have f70 := f57.other W63 (Or.inr (slot_ne (Or.inl (own_w hw 40 rfl)) (Or.inl (own_w hw 44 rfl)) (by decide) (t := (.array .int)) (t' := (.array .int)) (by decide) (by decide)))
  have f71 := f58.other W63 (Ne.symm (Nat.ne_of_lt (Nat.lt_of_lt_of_le f14.lt le_b25)))
  have f72 := f59.other W63 (Or.inr (slot_ne (Or.inl (own_w hw 42 rfl)) (Or.inl (own_w hw 44 rfl)) (by decide) (t := (.array .int)) (t' := (.array .int)) (by decide) (by decide)))
  have f73 := V62.other W63 (Ne.symm (Nat.ne_of_lt (Nat.lt_of_lt_of_le f38.lt le_b50)))
  have Z74 := Nat.le_trans Z60 (Nat.le_of_eq W63.size.symm)
  have K75 := K61.wr W63 (Or.inl (List.mem_of_getElem? (i := 0) rfl))
  have N76 := Fr.snoc X63 N49 gO
  obtain ⟨T77, h77, k77, X77, e77, E77, A77, st77⟩ := newP X63 hx hZ (own_w hw 45 rfl) e63 (g := (mkF m 31 #[vR ob] [(.int (16 : Int32)), (.ref ob)])) rfl (hb hby d5_31) rfl (by decide) (cap := 16) (by decide) (by decide) (by decide) (by decide)
  obtain ⟨b77, g_b_b77⟩ : ∃ z, z = h63.size := ⟨_, rfl⟩
  have le_b77 : h63.size ≤ b77 := Nat.le_of_eq g_b_b77.symm
  have gn_b77 : n0 ≤ b77 := Nat.le_trans Z74 le_b77
  have sz_b77 : h0.size ≤ b77 := Nat.le_trans K75.1 le_b77
  rw [← g_b_b77] at A77 st77
  have f78 := f65.ext E77
  have f79 := f66.ext E77
  have f80 := f67.ext E77
  have f81 := f68.ext E77
  have f82 := f69.ext E77
  have f83 := f70.ext E77
  have f84 := f71.ext E77
  have f85 := f72.ext E77
  have f86 := f73.ext E77
  have f87 := f64.ext E77
  have Z88 := Nat.le_trans Z74 E77.1
  have K89 := K75.ext E77
  have V90 : Arv Z h77 b77 k77 .boolean (16 : Int32) [(.int (0 : Int32)), (.int (0 : Int32)), (.int (0 : Int32)), (.int (0 : Int32)), (.int (0 : Int32)), (.int (0 : Int32)), (.int (0 : Int32)), (.int (0 : Int32)), (.int (0 : Int32)), (.int (0 : Int32)), (.int (0 : Int32)), (.int (0 : Int32)), (.int (0 : Int32)), (.int (0 : Int32)), (.int (0 : Int32)), (.int (0 : Int32))] (.int (0 : Int32)) := (Arv.new A77 (by decide)).pad (pad_rep [] (.int (0 : Int32)) 16)
  obtain ⟨T91, h91, X91, e91, W91, st91⟩ := putF X77 hx hZ hown (host := "") (Or.inl (own_w hw 46 rfl)) Via.refl e77 f79 f78 (Or.inl (own_w hw 47 rfl)) (own_w hw 32 rfl) (ty := (.array .boolean)) (by decide) rfl rfl (g := (mkF m 33 #[vR ob] [(.ref b77), (.ref ob)])) rfl rfl (hb hby d5_33)
  have f92 := f79.same W91
  have f93 := f78.wr W91
  have f94 := f80.other W91 (Or.inr (slot_ne (Or.inl (own_w hw 229 rfl)) (Or.inl (own_w hw 47 rfl)) (by decide) (t := .int) (t' := (.array .boolean)) (by decide) (by decide)))
  have f95 := f81.other W91 (Or.inr (slot_ne (Or.inl (own_w hw 235 rfl)) (Or.inl (own_w hw 47 rfl)) (by decide) (t := .int) (t' := (.array .boolean)) (by decide) (by decide)))
  have f96 := f82.other W91 (Ne.symm (Nat.ne_of_lt (Nat.lt_of_lt_of_le FOl.lt le_b2)))
  have f97 := f83.other W91 (Or.inr (slot_ne (Or.inl (own_w hw 40 rfl)) (Or.inl (own_w hw 47 rfl)) (by decide) (t := (.array .int)) (t' := (.array .boolean)) (by decide) (by decide)))
  have f98 := f84.other W91 (Ne.symm (Nat.ne_of_lt (Nat.lt_of_lt_of_le f14.lt le_b25)))
  have f99 := f85.other W91 (Or.inr (slot_ne (Or.inl (own_w hw 42 rfl)) (Or.inl (own_w hw 47 rfl)) (by decide) (t := (.array .int)) (t' := (.array .boolean)) (by decide) (by decide)))
  have f100 := f86.other W91 (Ne.symm (Nat.ne_of_lt (Nat.lt_of_lt_of_le f38.lt le_b50)))
  have f101 := f87.other W91 (Or.inr (slot_ne (Or.inl (own_w hw 44 rfl)) (Or.inl (own_w hw 47 rfl)) (by decide) (t := (.array .int)) (t' := (.array .boolean)) (by decide) (by decide)))
  have f102 := V90.other W91 (Ne.symm (Nat.ne_of_lt (Nat.lt_of_lt_of_le f64.lt le_b77)))
  have Z103 := Nat.le_trans Z88 (Nat.le_of_eq W91.size.symm)
  have K104 := K89.wr W91 (Or.inl (List.mem_of_getElem? (i := 0) rfl))
  have N105 := Fr.snoc X91 N76 gO
  have go106 : Goes p e below s₁ (entryFrame m #[(.ref ob)] 1) T91 (mkF m 36 #[vR ob] []) := fun t k => by
    refine go0 t ?_
    refine XS.aloadN X0.here hx rfl (hb hby d5_0) rfl rfl ?_
    refine st1 t ?_
    refine XS.aloadN X1.here hx rfl (hb hby d5_4) rfl rfl ?_
    refine XS.bipush X1.here hx rfl (hb hby d5_5) ?_
    refine st2 t ?_
    refine st13 t ?_
    show Steps p.tables e below (T13.setTop (mkF m 12 #[vR ob] [])) _
    refine XS.aloadN X13.here hx rfl (hb hby d5_12) rfl rfl ?_
    refine XS.bipush X13.here hx rfl (hb hby d5_13) ?_
    refine st25 t ?_
    refine st37 t ?_
    refine XS.aloadN X37.here hx rfl (hb hby d5_20) rfl rfl ?_
    refine XS.bipush X37.here hx rfl (hb hby d5_21) ?_
    show Steps p.tables e below (T37.setTop (mkF m 23 #[vR ob] [(.int (16 : Int32)), (.ref ob)])) _
    refine st50 t ?_
    refine st63 t ?_
    refine XS.aloadN X63.here hx rfl (hb hby d5_28) rfl rfl ?_
    refine XS.bipush X63.here hx rfl (hb hby d5_29) ?_
    refine st77 t ?_
    refine st91 t ?_
    exact k
  obtain ⟨fs, hr, hrun, hended, hW, hsame⟩ := X91.leave (v := none) (fun _ => rfl)
  refine ⟨_, _, go106 _ ?_, hrun, hended, _, _, rfl, ?_, ⟨_, rfl⟩, hW, hsame.mono (by decide) (by decide)⟩
  · exact X91.returnOut hx Bd.returns (hb hby d5_36) hr
  · show QOi Z _ _ _ _ T91.heap _
    rw [e91]
    exact ⟨rfl, N105, K104, b2, b25, b50, b77, sz_b2, sz_b25, sz_b50, sz_b77, (Nat.ne_of_lt (Nat.lt_of_lt_of_le f21.lt le_b25)), (Nat.ne_of_lt (Nat.lt_of_lt_of_le f44.lt le_b50)), (Nat.ne_of_lt (Nat.lt_of_lt_of_le f69.lt le_b77)), (Nat.ne_of_lt (Nat.lt_of_lt_of_le f46.lt le_b50)), (Nat.ne_of_lt (Nat.lt_of_lt_of_le f71.lt le_b77)), (Nat.ne_of_lt (Nat.lt_of_lt_of_le f73.lt le_b77)), f93, f97, f99, f101, f92, f94, f95, own_An_new rfl (f96), own_An_new rfl (f98), own_An_new rfl (f100), own_An_new rfl (f102)⟩
theorem own_An.lt {Z : State} {h : Heap} {a : Addr} {ty : FieldType} (F : own_An Z h a ty) : a < h.size := by obtain ⟨k, ws, h1, h2, V⟩ := F; exact V.lt
theorem own_rb0 : own_rb 0 0 := ⟨by decide, by decide⟩
theorem d1_0 : dc1 0 (.aload_n 0) 1 := by decide +kernel
theorem d1_1 : dc1 1 (.invokespecial 1) 3 := by decide +kernel
theorem d1_4 : dc1 4 (.aload_n 0) 1 := by decide +kernel
theorem d1_5 : dc1 5 (.new 7) 3 := by decide +kernel
theorem d1_8 : dc1 8 (.dup) 1 := by decide +kernel
theorem d1_9 : dc1 9 (.invokespecial 9) 3 := by decide +kernel
theorem d1_12 : dc1 12 (.putfield 10) 3 := by decide +kernel
theorem d1_15 : dc1 15 (.aload_n 0) 1 := by decide +kernel
theorem d1_16 : dc1 16 (.new 16) 3 := by decide +kernel
theorem d1_19 : dc1 19 (.dup) 1 := by decide +kernel
theorem d1_20 : dc1 20 (.invokespecial 18) 3 := by decide +kernel
theorem d1_23 : dc1 23 (.putfield 19) 3 := by decide +kernel
theorem d1_26 : dc1 26 (.aload_n 0) 1 := by decide +kernel
theorem d1_27 : dc1 27 (.new 7) 3 := by decide +kernel
theorem d1_30 : dc1 30 (.dup) 1 := by decide +kernel
theorem d1_31 : dc1 31 (.invokespecial 9) 3 := by decide +kernel
theorem d1_34 : dc1 34 (.putfield 23) 3 := by decide +kernel
theorem d1_37 : dc1 37 (.aload_n 0) 1 := by decide +kernel
theorem d1_38 : dc1 38 (.bipush 8) 2 := by decide +kernel
theorem d1_40 : dc1 40 (.newarray .int) 2 := by decide +kernel
theorem d1_42 : dc1 42 (.putfield 26) 3 := by decide +kernel
theorem d1_45 : dc1 45 (.aload_n 0) 1 := by decide +kernel
theorem d1_46 : dc1 46 (.iconst 4) 1 := by decide +kernel
theorem d1_47 : dc1 47 (.newarray .boolean) 2 := by decide +kernel
theorem d1_49 : dc1 49 (.putfield 30) 3 := by decide +kernel
theorem d1_52 : dc1 52 (.return_) 1 := by decide +kernel
theorem ef_rmHi (m : MethodId) (aH : Addr) : entryFrame m #[(.ref aH)] 1 = mkF m 0 #[.val (.ref aH)] [] := by first | (simp [entryFrame, mkF, argsToLocals, Value.category]; done) | rfl
def QHi (Z : State) (aH : Addr) (cs : Int32) (h0 : Heap) (n0 : Nat) (v : Option Value) (h : Heap) (L : List Loc) : Prop := v = none ∧ Fr n0 L ∧ Keep h0 h [aH] ∧ ∃ (aT vT aP vP aQ aK ob o1 o2 o3 o4 : Addr), List.Nodup [aH, aT, vT, aP, vP, aQ, aK, ob, o1, o2, o3, o4] ∧ (∀ y ∈ [aT, vT, aP, vP, aQ, aK, ob, o1, o2, o3, o4], h0.size ≤ y) ∧ own_HB Z h aH aT vT aP vP aQ aK ob o1 o2 o3 o4 [] [] (0 : Int32) [] [] 0 (0 : Int32) (0 : Int32) (0 : Int32) (0 : Int32) (0 : Int32) (0 : Int32) (0 : Int32) (0 : Int32)
set_option maxRecDepth 65536 in
set_option maxHeartbeats 40000000 in
theorem rmHi (l : Launch) (Z : State) (a0 : Array Value) (hw : ∀ d ∈ tables_1, d.before a0 Z = true) (ws : List Jvm.Cond) (aH : Addr) (cs : Int32) (h0 : Heap) (n0 : Nat) (Z0 : n0 ≤ h0.size) (O0 : Old Z n0 h0) (S_CS : Sta Z Z.heap "java/lang/String" "COMPACT_STRINGS" "Z" (.int cs)) (hcs : ¬ cs = 0) (EH0 : Exa Z h0 aH "com/example/whereas/whereas/model/HtmlLayout") (H0_text : Fld Z h0 aH "com/example/whereas/whereas/model/HtmlLayout" "text" "Ljava/lang/StringBuilder;" .null) (H0_origins : Fld Z h0 aH "com/example/whereas/whereas/model/HtmlLayout" "origins" "Lcom/example/whereas/whereas/model/Origins$Builder;" .null) (H0_pending : Fld Z h0 aH "com/example/whereas/whereas/model/HtmlLayout" "pending" "Ljava/lang/StringBuilder;" .null) (H0_pendingOrigins : Fld Z h0 aH "com/example/whereas/whereas/model/HtmlLayout" "pendingOrigins" "[I" .null) (H0_pendingKept : Fld Z h0 aH "com/example/whereas/whereas/model/HtmlLayout" "pendingKept" "[Z" .null) (H0_breaks : Fld Z h0 aH "com/example/whereas/whereas/model/HtmlLayout" "breaks" "I" (.int (0 : Int32))) (H0_tabs : Fld Z h0 aH "com/example/whereas/whereas/model/HtmlLayout" "tabs" "I" (.int (0 : Int32))) (H0_cells : Fld Z h0 aH "com/example/whereas/whereas/model/HtmlLayout" "cells" "I" (.int (0 : Int32))) (H0_paragraph : Fld Z h0 aH "com/example/whereas/whereas/model/HtmlLayout" "paragraph" "Z" (.int (0 : Int32))) (H0_collapsing : Fld Z h0 aH "com/example/whereas/whereas/model/HtmlLayout" "collapsing" "Z" (.int (0 : Int32))) (H0_lineShows : Fld Z h0 aH "com/example/whereas/whereas/model/HtmlLayout" "lineShows" "Z" (.int (0 : Int32))) (H0_inRow : Fld Z h0 aH "com/example/whereas/whereas/model/HtmlLayout" "inRow" "Z" (.int (0 : Int32))) (H0_rowShows : Fld Z h0 aH "com/example/whereas/whereas/model/HtmlLayout" "rowShows" "Z" (.int (0 : Int32))) (gH : n0 ≤ aH) :
    MetFree l (⟨"com/example/whereas/whereas/model/HtmlLayout", "<init>", "()V"⟩ : MethodName) (head1 (Jvm.Cond.code (⟨"com/example/whereas/whereas/model/HtmlLayout", "<init>", "()V"⟩ : MethodName) prog_41_method_1_code 1 none :: ws) rO_18) (fun a U => a = #[(.ref aH)] ∧ Z.Warmed39 U.vm ∧ U.heap = h0) (fun _ _ _ _ _ => True) (fun _ U o U' => ∃ v L, o = .returned v ∧ QHi Z aH cs h0 n0 v U'.heap L ∧ FrameEnd U o U' L rO_18.cells rO_18.slots) := by
  refine MetFree.of_bodySF (plainFor_of_name pn_7) hisR ?_
  intro p e s m args below meth c s₁ Bd hml0 hP hK
  obtain ⟨rfl, hZ, hh⟩ := hP
  have hx := Bd.exec
  have hby := Bd.bytes
  have hml : c.maxLocals = 1 := hml0
  have hown : s.vm.findClass "com/example/whereas/whereas/model/HtmlLayout" = some m.cls := findClass_of_methodNamed Bd.named
  have hnm := (name_of_methodNamed Bd.named Bd.method).1
  have X0 : Stand p l e rO_18 s m #[(.ref aH)] below meth c s₁ [] 0 0 := Stand.of_body Bd
  have e0 : s₁.heap = h0 := by rw [← hh, Bd.state]; rfl
  have N0 := Fr.nil n0
  have K0 := Keep.refl h0 [aH]
  have go0 : Goes p e below s₁ (entryFrame m #[(.ref aH)] 1) s₁ (mkF m 0 #[vR aH] []) := fun t k => castTop (ef_rmHi m aH) k
  obtain ⟨T1, X1, e1, st1⟩ := initO X0 hx hZ hown (own_w hw 6 rfl) (own_w hw 7 rfl) (own_w hw 8 rfl) e0 (g := (mkF m 1 #[vR aH] [(.ref aH)])) rfl (by rw [hml]; rfl) rfl (hb hby d1_1) (by decide) (W := 0) (by show 2 * 0 + _ ≤ _; exact Nat.le_of_eq rfl) (by decide)
  obtain ⟨T2, h2, X2, e2, E2, A2, D2, -, st2⟩ := newO X1 hx hZ hown (own_w hw 9 rfl) (own_w hw 10 rfl) (own_w hw 11 rfl) e1 (g := (mkF m 5 #[vR aH] [(.ref aH)])) rfl (hb hby d1_5) (by decide) (by decide)
  obtain ⟨b2, g_b_b2⟩ : ∃ z, z = h0.size := ⟨_, rfl⟩
  have le_b2 : h0.size ≤ b2 := Nat.le_of_eq g_b_b2.symm
  have gn_b2 : n0 ≤ b2 := Nat.le_trans Z0 le_b2
  have sz_b2 : h0.size ≤ b2 := Nat.le_trans K0.1 le_b2
  rw [← g_b_b2] at A2 D2 st2
  have f3 := EH0.ext E2
  have f4 := H0_text.ext E2
  have f5 := H0_origins.ext E2
  have f6 := H0_pending.ext E2
  have f7 := H0_pendingOrigins.ext E2
  have f8 := H0_pendingKept.ext E2
  have f9 := H0_breaks.ext E2
  have f10 := H0_tabs.ext E2
  have f11 := H0_cells.ext E2
  have f12 := H0_paragraph.ext E2
  have f13 := H0_collapsing.ext E2
  have f14 := H0_lineShows.ext E2
  have f15 := H0_inRow.ext E2
  have f16 := H0_rowShows.ext E2
  have O17 := O0.ext E2
  have Z18 := Nat.le_trans Z0 E2.1
  have K19 := K0.ext E2
  have f20 : Fld Z h2 b2 "java/lang/AbstractStringBuilder" "value" "[B" .null := D2 (Or.inl (own_w hw 26 rfl)) (ty := (.array .byte)) (by decide)
  have f21 : Fld Z h2 b2 "java/lang/AbstractStringBuilder" "coder" "B" (.int (0 : Int32)) := D2 (Or.inl (own_w hw 28 rfl)) (ty := .byte) (by decide)
  have f22 : Fld Z h2 b2 "java/lang/AbstractStringBuilder" "count" "I" (.int (0 : Int32)) := D2 (Or.inl (own_w hw 77 rfl)) (ty := .int) (by decide)
  have f23 : Fld Z h2 b2 "java/lang/AbstractStringBuilder" "maybeLatin1" "Z" (.int (0 : Int32)) := D2 (Or.inl (own_w hw 251 rfl)) (ty := .boolean) (by decide)
  obtain ⟨_, _, ⟨T24, L24, k24, n24⟩, -, X24, ⟨Lc24, hQ24, l24, y24, z24⟩, st24⟩ := X2.specialBack hx (y := mN_30) rfl hown (mvT hZ (own_w hw 12 rfl)) (mvT hZ (own_w hw 13 rfl)) (mvT hZ (own_w hw 14 rfl)) (by decide) (backOf (W := 2) (rmBj l Z a0 hw [] b2 cs h2 n0 Z18 O17 S_CS hcs A2 f20 f21 f22 f23 gn_b2) hZ (own_w hw 14 rfl) (own_w hw 11 rfl) (by decide) (by decide)) (g := (mkF m 9 #[vR aH] [(.ref b2), (.ref b2), (.ref aH)])) rfl (by rw [hml]; rfl) (Steps.refl _) (a := b2) (argsL := []) (rest := [(.ref b2), (.ref aH)]) (lenOf pd_14 rfl) rfl (by show 2 * 0 + _ ≤ _; exact Nat.le_of_eq rfl) (hb hby d1_9) (fun _ _ => ⟨rfl, e2, (by decide : 1 + 1 ≤ rO_18.cells), (by decide : 4 + 16 ≤ rO_18.slots)⟩)
  dsimp only [Pt.U, Pt.locs, Pt.cells, Pt.slots] at X24 l24 y24 z24 st24 hQ24
  subst l24 y24 z24
  obtain ⟨rfl, N24q, Kq24, Rq24⟩ := hQ24
  have N24 := Fr.app N0 N24q
  obtain ⟨v24, kv24, gv24, lev24, E1q24, FVq24, FCq24, FNq24, FMq24, V1q24⟩ := Rq24
  have le_v24 := lev24
  have gn_v24 : n0 ≤ v24 := Nat.le_trans Z18 le_v24
  have sz_v24 : h0.size ≤ v24 := Nat.le_trans K19.1 le_v24
  have f25 := f3.keep Kq24
  have f26 := f4.keep Kq24 (ninS (Nat.ne_of_lt (Nat.lt_of_lt_of_le H0_rowShows.lt le_b2)) nin0)
  have f27 := f5.keep Kq24 (ninS (Nat.ne_of_lt (Nat.lt_of_lt_of_le H0_rowShows.lt le_b2)) nin0)
  have f28 := f6.keep Kq24 (ninS (Nat.ne_of_lt (Nat.lt_of_lt_of_le H0_rowShows.lt le_b2)) nin0)
  have f29 := f7.keep Kq24 (ninS (Nat.ne_of_lt (Nat.lt_of_lt_of_le H0_rowShows.lt le_b2)) nin0)
  have f30 := f8.keep Kq24 (ninS (Nat.ne_of_lt (Nat.lt_of_lt_of_le H0_rowShows.lt le_b2)) nin0)
  have f31 := f9.keep Kq24 (ninS (Nat.ne_of_lt (Nat.lt_of_lt_of_le H0_rowShows.lt le_b2)) nin0)
  have f32 := f10.keep Kq24 (ninS (Nat.ne_of_lt (Nat.lt_of_lt_of_le H0_rowShows.lt le_b2)) nin0)
  have f33 := f11.keep Kq24 (ninS (Nat.ne_of_lt (Nat.lt_of_lt_of_le H0_rowShows.lt le_b2)) nin0)
  have f34 := f12.keep Kq24 (ninS (Nat.ne_of_lt (Nat.lt_of_lt_of_le H0_rowShows.lt le_b2)) nin0)
  have f35 := f13.keep Kq24 (ninS (Nat.ne_of_lt (Nat.lt_of_lt_of_le H0_rowShows.lt le_b2)) nin0)
  have f36 := f14.keep Kq24 (ninS (Nat.ne_of_lt (Nat.lt_of_lt_of_le H0_rowShows.lt le_b2)) nin0)
  have f37 := f15.keep Kq24 (ninS (Nat.ne_of_lt (Nat.lt_of_lt_of_le H0_rowShows.lt le_b2)) nin0)
  have f38 := f16.keep Kq24 (ninS (Nat.ne_of_lt (Nat.lt_of_lt_of_le H0_rowShows.lt le_b2)) nin0)
  have f39 := A2.keep Kq24
  have O40 := O17.keep Kq24 (allS gn_b2 all0)
  have Z41 := Nat.le_trans Z18 Kq24.1
  have K42 := K19.trans Kq24 (allS (Or.inr sz_b2) all0)
  obtain ⟨T43, h43, X43, e43, W43, st43⟩ := putF X24 hx hZ hown (host := "") (Or.inl (own_w hw 29 rfl)) Via.refl rfl f26 f25 (Or.inr ⟨(own_w hw 30 rfl), rfl, hnm⟩) (own_w hw 1 rfl) (ty := (.object "java/lang/StringBuilder")) (by decide) rfl rfl (g := (mkF m 12 #[vR aH] [(.ref b2), (.ref aH)])) rfl rfl (hb hby d1_12)
  have f44 := f26.same W43
  have f45 := f25.wr W43
  have f46 := f27.other W43 (Or.inr (slot_ne (Or.inr (own_w hw 49 rfl)) (Or.inr (own_w hw 30 rfl)) (by decide) (t := (.object "com/example/whereas/whereas/model/Origins$Builder")) (t' := (.object "java/lang/StringBuilder")) (by decide) (by decide)))
  have f47 := f28.other W43 (Or.inr (slot_ne (Or.inr (own_w hw 51 rfl)) (Or.inr (own_w hw 30 rfl)) (by decide) (t := (.object "java/lang/StringBuilder")) (t' := (.object "java/lang/StringBuilder")) (by decide) (by decide)))
  have f48 := f29.other W43 (Or.inr (slot_ne (Or.inl (own_w hw 53 rfl)) (Or.inr (own_w hw 30 rfl)) (by decide) (t := (.array .int)) (t' := (.object "java/lang/StringBuilder")) (by decide) (by decide)))
  have f49 := f30.other W43 (Or.inr (slot_ne (Or.inl (own_w hw 55 rfl)) (Or.inr (own_w hw 30 rfl)) (by decide) (t := (.array .boolean)) (t' := (.object "java/lang/StringBuilder")) (by decide) (by decide)))
  have f50 := f31.other W43 (Or.inr (slot_ne (Or.inl (own_w hw 200 rfl)) (Or.inr (own_w hw 30 rfl)) (by decide) (t := .int) (t' := (.object "java/lang/StringBuilder")) (by decide) (by decide)))
  have f51 := f32.other W43 (Or.inr (slot_ne (Or.inl (own_w hw 103 rfl)) (Or.inr (own_w hw 30 rfl)) (by decide) (t := .int) (t' := (.object "java/lang/StringBuilder")) (by decide) (by decide)))
  have f52 := f33.other W43 (Or.inr (slot_ne (Or.inl (own_w hw 107 rfl)) (Or.inr (own_w hw 30 rfl)) (by decide) (t := .int) (t' := (.object "java/lang/StringBuilder")) (by decide) (by decide)))
  have f53 := f34.other W43 (Or.inr (slot_ne (Or.inl (own_w hw 198 rfl)) (Or.inr (own_w hw 30 rfl)) (by decide) (t := .boolean) (t' := (.object "java/lang/StringBuilder")) (by decide) (by decide)))
  have f54 := f35.other W43 (Or.inr (slot_ne (Or.inl (own_w hw 97 rfl)) (Or.inr (own_w hw 30 rfl)) (by decide) (t := .boolean) (t' := (.object "java/lang/StringBuilder")) (by decide) (by decide)))
  have f55 := f36.other W43 (Or.inr (slot_ne (Or.inl (own_w hw 99 rfl)) (Or.inr (own_w hw 30 rfl)) (by decide) (t := .boolean) (t' := (.object "java/lang/StringBuilder")) (by decide) (by decide)))
  have f56 := f37.other W43 (Or.inr (slot_ne (Or.inl (own_w hw 101 rfl)) (Or.inr (own_w hw 30 rfl)) (by decide) (t := .boolean) (t' := (.object "java/lang/StringBuilder")) (by decide) (by decide)))
  have f57 := f38.other W43 (Or.inr (slot_ne (Or.inl (own_w hw 105 rfl)) (Or.inr (own_w hw 30 rfl)) (by decide) (t := .boolean) (t' := (.object "java/lang/StringBuilder")) (by decide) (by decide)))
  have f58 := E1q24.wr W43
  have f59 := FVq24.other W43 (Or.inl (Ne.symm (Nat.ne_of_lt (Nat.lt_of_lt_of_le H0_rowShows.lt le_b2))))
  have f60 := FCq24.other W43 (Or.inl (Ne.symm (Nat.ne_of_lt (Nat.lt_of_lt_of_le H0_rowShows.lt le_b2))))
  have f61 := FNq24.other W43 (Or.inl (Ne.symm (Nat.ne_of_lt (Nat.lt_of_lt_of_le H0_rowShows.lt le_b2))))
  have f62 := FMq24.other W43 (Or.inl (Ne.symm (Nat.ne_of_lt (Nat.lt_of_lt_of_le H0_rowShows.lt le_b2))))
  have f63 := V1q24.other W43 (Ne.symm (Nat.ne_of_lt (Nat.lt_of_lt_of_le f16.lt le_v24)))
  have O64 := O40.wr W43 gH
  have Z65 := Nat.le_trans Z41 (Nat.le_of_eq W43.size.symm)
  have K66 := K42.wr W43 (Or.inl (List.mem_of_getElem? (i := 0) rfl))
  have N67 := Fr.snoc X43 N24 gH
  obtain ⟨T68, h68, X68, e68, E68, A68, D68, -, st68⟩ := newO X43 hx hZ hown (own_w hw 31 rfl) (own_w hw 32 rfl) (own_w hw 33 rfl) e43 (g := (mkF m 16 #[vR aH] [(.ref aH)])) rfl (hb hby d1_16) (by decide) (by decide)
  obtain ⟨b68, g_b_b68⟩ : ∃ z, z = h43.size := ⟨_, rfl⟩
  have le_b68 : h43.size ≤ b68 := Nat.le_of_eq g_b_b68.symm
  have gn_b68 : n0 ≤ b68 := Nat.le_trans Z65 le_b68
  have sz_b68 : h0.size ≤ b68 := Nat.le_trans K66.1 le_b68
  rw [← g_b_b68] at A68 D68 st68
  have f69 := f45.ext E68
  have f70 := f46.ext E68
  have f71 := f47.ext E68
  have f72 := f48.ext E68
  have f73 := f49.ext E68
  have f74 := f50.ext E68
  have f75 := f51.ext E68
  have f76 := f52.ext E68
  have f77 := f53.ext E68
  have f78 := f54.ext E68
  have f79 := f55.ext E68
  have f80 := f56.ext E68
  have f81 := f57.ext E68
  have f82 := f58.ext E68
  have f83 := f59.ext E68
  have f84 := f60.ext E68
  have f85 := f61.ext E68
  have f86 := f62.ext E68
  have f87 := f63.ext E68
  have f88 := f44.ext E68
  have O89 := O64.ext E68
  have Z90 := Nat.le_trans Z65 E68.1
  have K91 := K66.ext E68
  have f92 : Fld Z h68 b68 "com/example/whereas/whereas/model/Origins$Builder" "starts" "[I" .null := D68 (Or.inl (own_w hw 40 rfl)) (ty := (.array .int)) (by decide)
  have f93 : Fld Z h68 b68 "com/example/whereas/whereas/model/Origins$Builder" "originStarts" "[I" .null := D68 (Or.inl (own_w hw 42 rfl)) (ty := (.array .int)) (by decide)
  have f94 : Fld Z h68 b68 "com/example/whereas/whereas/model/Origins$Builder" "originEnds" "[I" .null := D68 (Or.inl (own_w hw 44 rfl)) (ty := (.array .int)) (by decide)
  have f95 : Fld Z h68 b68 "com/example/whereas/whereas/model/Origins$Builder" "literal" "[Z" .null := D68 (Or.inl (own_w hw 47 rfl)) (ty := (.array .boolean)) (by decide)
  have f96 : Fld Z h68 b68 "com/example/whereas/whereas/model/Origins$Builder" "runs" "I" (.int (0 : Int32)) := D68 (Or.inl (own_w hw 229 rfl)) (ty := .int) (by decide)
  have f97 : Fld Z h68 b68 "com/example/whereas/whereas/model/Origins$Builder" "length" "I" (.int (0 : Int32)) := D68 (Or.inl (own_w hw 235 rfl)) (ty := .int) (by decide)
  obtain ⟨_, _, ⟨T98, L98, k98, n98⟩, -, X98, ⟨Lc98, hQ98, l98, y98, z98⟩, st98⟩ := X68.specialBack hx (y := (⟨"com/example/whereas/whereas/model/Origins$Builder", "<init>", "()V"⟩ : MethodName)) rfl hown (mvT hZ (own_w hw 34 rfl)) (mvT hZ (own_w hw 35 rfl)) (mvT hZ (own_w hw 36 rfl)) (by decide) (backOf (W := 2) (rmOi l Z a0 hw [] b68 h68 n0 Z90 A68 f92 f93 f94 f95 f96 f97 gn_b68) hZ (own_w hw 36 rfl) (own_w hw 33 rfl) (by decide) (by decide)) (g := (mkF m 20 #[vR aH] [(.ref b68), (.ref b68), (.ref aH)])) rfl (by rw [hml]; rfl) (Steps.refl _) (a := b68) (argsL := []) (rest := [(.ref b68), (.ref aH)]) (lenOf pd_14 rfl) rfl (by show 2 * 0 + _ ≤ _; exact Nat.le_of_eq rfl) (hb hby d1_20) (fun _ _ => ⟨rfl, e68, (by decide : 3 + 4 ≤ rO_18.cells), (by decide : 26 + 64 ≤ rO_18.slots)⟩)
  dsimp only [Pt.U, Pt.locs, Pt.cells, Pt.slots] at X98 l98 y98 z98 st98 hQ98
  subst l98 y98 z98
  obtain ⟨rfl, N98q, Kq98, Rq98⟩ := hQ98
  have N98 := Fr.app N67 N98q
  obtain ⟨o1q98, o2q98, o3q98, o4q98, le_o1q98, le_o2q98, le_o3q98, le_o4q98, no1_o298, no1_o398, no1_o498, no2_o398, no2_o498, no3_o498, EOq98, FO1q98, FO2q98, FO3q98, FO4q98, FOrq98, FOlq98, AN1q98, AN2q98, AN3q98, AN4q98⟩ := Rq98
  have gn_o1q98 : n0 ≤ o1q98 := Nat.le_trans Z90 le_o1q98
  have sz_o1q98 : h0.size ≤ o1q98 := Nat.le_trans K91.1 le_o1q98
  have gn_o2q98 : n0 ≤ o2q98 := Nat.le_trans Z90 le_o2q98
  have sz_o2q98 : h0.size ≤ o2q98 := Nat.le_trans K91.1 le_o2q98
  have gn_o3q98 : n0 ≤ o3q98 := Nat.le_trans Z90 le_o3q98
  have sz_o3q98 : h0.size ≤ o3q98 := Nat.le_trans K91.1 le_o3q98
  have gn_o4q98 : n0 ≤ o4q98 := Nat.le_trans Z90 le_o4q98
  have sz_o4q98 : h0.size ≤ o4q98 := Nat.le_trans K91.1 le_o4q98
  have f99 := f69.keep Kq98
  have f100 := f70.keep Kq98 (ninS (Nat.ne_of_lt (Nat.lt_of_lt_of_le f44.lt le_b68)) nin0)
  have f101 := f71.keep Kq98 (ninS (Nat.ne_of_lt (Nat.lt_of_lt_of_le f44.lt le_b68)) nin0)
  have f102 := f72.keep Kq98 (ninS (Nat.ne_of_lt (Nat.lt_of_lt_of_le f44.lt le_b68)) nin0)
  have f103 := f73.keep Kq98 (ninS (Nat.ne_of_lt (Nat.lt_of_lt_of_le f44.lt le_b68)) nin0)
  have f104 := f74.keep Kq98 (ninS (Nat.ne_of_lt (Nat.lt_of_lt_of_le f44.lt le_b68)) nin0)
  have f105 := f75.keep Kq98 (ninS (Nat.ne_of_lt (Nat.lt_of_lt_of_le f44.lt le_b68)) nin0)
  have f106 := f76.keep Kq98 (ninS (Nat.ne_of_lt (Nat.lt_of_lt_of_le f44.lt le_b68)) nin0)
  have f107 := f77.keep Kq98 (ninS (Nat.ne_of_lt (Nat.lt_of_lt_of_le f44.lt le_b68)) nin0)
  have f108 := f78.keep Kq98 (ninS (Nat.ne_of_lt (Nat.lt_of_lt_of_le f44.lt le_b68)) nin0)
  have f109 := f79.keep Kq98 (ninS (Nat.ne_of_lt (Nat.lt_of_lt_of_le f44.lt le_b68)) nin0)
  have f110 := f80.keep Kq98 (ninS (Nat.ne_of_lt (Nat.lt_of_lt_of_le f44.lt le_b68)) nin0)
  have f111 := f81.keep Kq98 (ninS (Nat.ne_of_lt (Nat.lt_of_lt_of_le f44.lt le_b68)) nin0)
  have f112 := f82.keep Kq98
  have f113 := f83.keep Kq98 (ninS (Nat.ne_of_lt (Nat.lt_of_lt_of_le f62.lt le_b68)) nin0)
  have f114 := f84.keep Kq98 (ninS (Nat.ne_of_lt (Nat.lt_of_lt_of_le f62.lt le_b68)) nin0)
  have f115 := f85.keep Kq98 (ninS (Nat.ne_of_lt (Nat.lt_of_lt_of_le f62.lt le_b68)) nin0)
  have f116 := f86.keep Kq98 (ninS (Nat.ne_of_lt (Nat.lt_of_lt_of_le f62.lt le_b68)) nin0)
  have f117 := f87.keep Kq98 (ninS (Nat.ne_of_lt (Nat.lt_of_lt_of_le f63.lt le_b68)) nin0)
  have f118 := f88.keep Kq98 (ninS (Nat.ne_of_lt (Nat.lt_of_lt_of_le f44.lt le_b68)) nin0)
  have f119 := A68.keep Kq98
  have O120 := O89.keep Kq98 (allS gn_b68 all0)
  have Z121 := Nat.le_trans Z90 Kq98.1
  have K122 := K91.trans Kq98 (allS (Or.inr sz_b68) all0)
  obtain ⟨T123, h123, X123, e123, W123, st123⟩ := putF X98 hx hZ hown (host := "") (Or.inl (own_w hw 48 rfl)) Via.refl rfl f100 f99 (Or.inr ⟨(own_w hw 49 rfl), rfl, hnm⟩) (own_w hw 1 rfl) (ty := (.object "com/example/whereas/whereas/model/Origins$Builder")) (by decide) rfl rfl (g := (mkF m 23 #[vR aH] [(.ref b68), (.ref aH)])) rfl rfl (hb hby d1_23)
  have f124 := f100.same W123
  have f125 := f99.wr W123
  have f126 := f101.other W123 (Or.inr (slot_ne (Or.inr (own_w hw 51 rfl)) (Or.inr (own_w hw 49 rfl)) (by decide) (t := (.object "java/lang/StringBuilder")) (t' := (.object "com/example/whereas/whereas/model/Origins$Builder")) (by decide) (by decide)))
  have f127 := f102.other W123 (Or.inr (slot_ne (Or.inl (own_w hw 53 rfl)) (Or.inr (own_w hw 49 rfl)) (by decide) (t := (.array .int)) (t' := (.object "com/example/whereas/whereas/model/Origins$Builder")) (by decide) (by decide)))
  have f128 := f103.other W123 (Or.inr (slot_ne (Or.inl (own_w hw 55 rfl)) (Or.inr (own_w hw 49 rfl)) (by decide) (t := (.array .boolean)) (t' := (.object "com/example/whereas/whereas/model/Origins$Builder")) (by decide) (by decide)))
  have f129 := f104.other W123 (Or.inr (slot_ne (Or.inl (own_w hw 200 rfl)) (Or.inr (own_w hw 49 rfl)) (by decide) (t := .int) (t' := (.object "com/example/whereas/whereas/model/Origins$Builder")) (by decide) (by decide)))
  have f130 := f105.other W123 (Or.inr (slot_ne (Or.inl (own_w hw 103 rfl)) (Or.inr (own_w hw 49 rfl)) (by decide) (t := .int) (t' := (.object "com/example/whereas/whereas/model/Origins$Builder")) (by decide) (by decide)))
  have f131 := f106.other W123 (Or.inr (slot_ne (Or.inl (own_w hw 107 rfl)) (Or.inr (own_w hw 49 rfl)) (by decide) (t := .int) (t' := (.object "com/example/whereas/whereas/model/Origins$Builder")) (by decide) (by decide)))
  have f132 := f107.other W123 (Or.inr (slot_ne (Or.inl (own_w hw 198 rfl)) (Or.inr (own_w hw 49 rfl)) (by decide) (t := .boolean) (t' := (.object "com/example/whereas/whereas/model/Origins$Builder")) (by decide) (by decide)))
  have f133 := f108.other W123 (Or.inr (slot_ne (Or.inl (own_w hw 97 rfl)) (Or.inr (own_w hw 49 rfl)) (by decide) (t := .boolean) (t' := (.object "com/example/whereas/whereas/model/Origins$Builder")) (by decide) (by decide)))
  have f134 := f109.other W123 (Or.inr (slot_ne (Or.inl (own_w hw 99 rfl)) (Or.inr (own_w hw 49 rfl)) (by decide) (t := .boolean) (t' := (.object "com/example/whereas/whereas/model/Origins$Builder")) (by decide) (by decide)))
  have f135 := f110.other W123 (Or.inr (slot_ne (Or.inl (own_w hw 101 rfl)) (Or.inr (own_w hw 49 rfl)) (by decide) (t := .boolean) (t' := (.object "com/example/whereas/whereas/model/Origins$Builder")) (by decide) (by decide)))
  have f136 := f111.other W123 (Or.inr (slot_ne (Or.inl (own_w hw 105 rfl)) (Or.inr (own_w hw 49 rfl)) (by decide) (t := .boolean) (t' := (.object "com/example/whereas/whereas/model/Origins$Builder")) (by decide) (by decide)))
  have f137 := f112.wr W123
  have f138 := f113.other W123 (Or.inl (Ne.symm (Nat.ne_of_lt (Nat.lt_of_lt_of_le H0_rowShows.lt le_b2))))
  have f139 := f114.other W123 (Or.inl (Ne.symm (Nat.ne_of_lt (Nat.lt_of_lt_of_le H0_rowShows.lt le_b2))))
  have f140 := f115.other W123 (Or.inl (Ne.symm (Nat.ne_of_lt (Nat.lt_of_lt_of_le H0_rowShows.lt le_b2))))
  have f141 := f116.other W123 (Or.inl (Ne.symm (Nat.ne_of_lt (Nat.lt_of_lt_of_le H0_rowShows.lt le_b2))))
  have f142 := f117.other W123 (Ne.symm (Nat.ne_of_lt (Nat.lt_of_lt_of_le f16.lt le_v24)))
  have f143 := f118.other W123 (Or.inr (slot_ne (Or.inr (own_w hw 30 rfl)) (Or.inr (own_w hw 49 rfl)) (by decide) (t := (.object "java/lang/StringBuilder")) (t' := (.object "com/example/whereas/whereas/model/Origins$Builder")) (by decide) (by decide)))
  have f144 := EOq98.wr W123
  have f145 := FO1q98.other W123 (Or.inl (Ne.symm (Nat.ne_of_lt (Nat.lt_of_lt_of_le f44.lt le_b68))))
  have f146 := AN1q98.other W123 (Ne.symm (Nat.ne_of_lt (Nat.lt_of_lt_of_le f88.lt le_o1q98)))
  have f147 := FO2q98.other W123 (Or.inl (Ne.symm (Nat.ne_of_lt (Nat.lt_of_lt_of_le f44.lt le_b68))))
  have f148 := AN2q98.other W123 (Ne.symm (Nat.ne_of_lt (Nat.lt_of_lt_of_le f88.lt le_o2q98)))
  have f149 := FO3q98.other W123 (Or.inl (Ne.symm (Nat.ne_of_lt (Nat.lt_of_lt_of_le f44.lt le_b68))))
  have f150 := AN3q98.other W123 (Ne.symm (Nat.ne_of_lt (Nat.lt_of_lt_of_le f88.lt le_o3q98)))
  have f151 := FO4q98.other W123 (Or.inl (Ne.symm (Nat.ne_of_lt (Nat.lt_of_lt_of_le f44.lt le_b68))))
  have f152 := AN4q98.other W123 (Ne.symm (Nat.ne_of_lt (Nat.lt_of_lt_of_le f88.lt le_o4q98)))
  have f153 := FOrq98.other W123 (Or.inl (Ne.symm (Nat.ne_of_lt (Nat.lt_of_lt_of_le f44.lt le_b68))))
  have f154 := FOlq98.other W123 (Or.inl (Ne.symm (Nat.ne_of_lt (Nat.lt_of_lt_of_le f44.lt le_b68))))
  have O155 := O120.wr W123 gH
  have Z156 := Nat.le_trans Z121 (Nat.le_of_eq W123.size.symm)
  have K157 := K122.wr W123 (Or.inl (List.mem_of_getElem? (i := 0) rfl))
  have N158 := Fr.snoc X123 N98 gH
  obtain ⟨T159, h159, X159, e159, E159, A159, D159, -, st159⟩ := newO X123 hx hZ hown (own_w hw 9 rfl) (own_w hw 10 rfl) (own_w hw 11 rfl) e123 (g := (mkF m 27 #[vR aH] [(.ref aH)])) rfl (hb hby d1_27) (by decide) (by decide)
  obtain ⟨b159, g_b_b159⟩ : ∃ z, z = h123.size := ⟨_, rfl⟩
  have le_b159 : h123.size ≤ b159 := Nat.le_of_eq g_b_b159.symm
  have gn_b159 : n0 ≤ b159 := Nat.le_trans Z156 le_b159
  have sz_b159 : h0.size ≤ b159 := Nat.le_trans K157.1 le_b159
  rw [← g_b_b159] at A159 D159 st159
  have f160 := f125.ext E159
  have f161 := f126.ext E159
  have f162 := f127.ext E159
  have f163 := f128.ext E159
  have f164 := f129.ext E159
  have f165 := f130.ext E159
  have f166 := f131.ext E159
  have f167 := f132.ext E159
  have f168 := f133.ext E159
  have f169 := f134.ext E159
  have f170 := f135.ext E159
  have f171 := f136.ext E159
  have f172 := f137.ext E159
  have f173 := f138.ext E159
  have f174 := f139.ext E159
  have f175 := f140.ext E159
  have f176 := f141.ext E159
  have f177 := f142.ext E159
  have f178 := f143.ext E159
  have f179 := f144.ext E159
  have f180 := f145.ext E159
  have f181 := f146.ext E159
  have f182 := f147.ext E159
  have f183 := f148.ext E159
  have f184 := f149.ext E159
  have f185 := f150.ext E159
  have f186 := f151.ext E159
  have f187 := f152.ext E159
  have f188 := f153.ext E159
  have f189 := f154.ext E159
  have f190 := f124.ext E159
  have O191 := O155.ext E159
  have Z192 := Nat.le_trans Z156 E159.1
  have K193 := K157.ext E159
  have f194 : Fld Z h159 b159 "java/lang/AbstractStringBuilder" "value" "[B" .null := D159 (Or.inl (own_w hw 26 rfl)) (ty := (.array .byte)) (by decide)
  have f195 : Fld Z h159 b159 "java/lang/AbstractStringBuilder" "coder" "B" (.int (0 : Int32)) := D159 (Or.inl (own_w hw 28 rfl)) (ty := .byte) (by decide)
  have f196 : Fld Z h159 b159 "java/lang/AbstractStringBuilder" "count" "I" (.int (0 : Int32)) := D159 (Or.inl (own_w hw 77 rfl)) (ty := .int) (by decide)
  have f197 : Fld Z h159 b159 "java/lang/AbstractStringBuilder" "maybeLatin1" "Z" (.int (0 : Int32)) := D159 (Or.inl (own_w hw 251 rfl)) (ty := .boolean) (by decide)
  obtain ⟨_, _, ⟨T198, L198, k198, n198⟩, -, X198, ⟨Lc198, hQ198, l198, y198, z198⟩, st198⟩ := X159.specialBack hx (y := mN_30) rfl hown (mvT hZ (own_w hw 12 rfl)) (mvT hZ (own_w hw 13 rfl)) (mvT hZ (own_w hw 14 rfl)) (by decide) (backOf (W := 2) (rmBj l Z a0 hw [] b159 cs h159 n0 Z192 O191 S_CS hcs A159 f194 f195 f196 f197 gn_b159) hZ (own_w hw 14 rfl) (own_w hw 11 rfl) (by decide) (by decide)) (g := (mkF m 31 #[vR aH] [(.ref b159), (.ref b159), (.ref aH)])) rfl (by rw [hml]; rfl) (Steps.refl _) (a := b159) (argsL := []) (rest := [(.ref b159), (.ref aH)]) (lenOf pd_14 rfl) rfl (by show 2 * 0 + _ ≤ _; exact Nat.le_of_eq rfl) (hb hby d1_31) (fun _ _ => ⟨rfl, e159, (by decide : 8 + 1 ≤ rO_18.cells), (by decide : 94 + 16 ≤ rO_18.slots)⟩)
  dsimp only [Pt.U, Pt.locs, Pt.cells, Pt.slots] at X198 l198 y198 z198 st198 hQ198
  subst l198 y198 z198
  obtain ⟨rfl, N198q, Kq198, Rq198⟩ := hQ198
  have N198 := Fr.app N158 N198q
  obtain ⟨v198, kv198, gv198, lev198, E1q198, FVq198, FCq198, FNq198, FMq198, V1q198⟩ := Rq198
  have le_v198 := lev198
  have gn_v198 : n0 ≤ v198 := Nat.le_trans Z192 le_v198
  have sz_v198 : h0.size ≤ v198 := Nat.le_trans K193.1 le_v198
  have f199 := f160.keep Kq198
  have f200 := f161.keep Kq198 (ninS (Nat.ne_of_lt (Nat.lt_of_lt_of_le f124.lt le_b159)) nin0)
  have f201 := f162.keep Kq198 (ninS (Nat.ne_of_lt (Nat.lt_of_lt_of_le f124.lt le_b159)) nin0)
  have f202 := f163.keep Kq198 (ninS (Nat.ne_of_lt (Nat.lt_of_lt_of_le f124.lt le_b159)) nin0)
  have f203 := f164.keep Kq198 (ninS (Nat.ne_of_lt (Nat.lt_of_lt_of_le f124.lt le_b159)) nin0)
  have f204 := f165.keep Kq198 (ninS (Nat.ne_of_lt (Nat.lt_of_lt_of_le f124.lt le_b159)) nin0)
  have f205 := f166.keep Kq198 (ninS (Nat.ne_of_lt (Nat.lt_of_lt_of_le f124.lt le_b159)) nin0)
  have f206 := f167.keep Kq198 (ninS (Nat.ne_of_lt (Nat.lt_of_lt_of_le f124.lt le_b159)) nin0)
  have f207 := f168.keep Kq198 (ninS (Nat.ne_of_lt (Nat.lt_of_lt_of_le f124.lt le_b159)) nin0)
  have f208 := f169.keep Kq198 (ninS (Nat.ne_of_lt (Nat.lt_of_lt_of_le f124.lt le_b159)) nin0)
  have f209 := f170.keep Kq198 (ninS (Nat.ne_of_lt (Nat.lt_of_lt_of_le f124.lt le_b159)) nin0)
  have f210 := f171.keep Kq198 (ninS (Nat.ne_of_lt (Nat.lt_of_lt_of_le f124.lt le_b159)) nin0)
  have f211 := f172.keep Kq198
  have f212 := f173.keep Kq198 (ninS (Nat.ne_of_lt (Nat.lt_of_lt_of_le f141.lt le_b159)) nin0)
  have f213 := f174.keep Kq198 (ninS (Nat.ne_of_lt (Nat.lt_of_lt_of_le f141.lt le_b159)) nin0)
  have f214 := f175.keep Kq198 (ninS (Nat.ne_of_lt (Nat.lt_of_lt_of_le f141.lt le_b159)) nin0)
  have f215 := f176.keep Kq198 (ninS (Nat.ne_of_lt (Nat.lt_of_lt_of_le f141.lt le_b159)) nin0)
  have f216 := f177.keep Kq198 (ninS (Nat.ne_of_lt (Nat.lt_of_lt_of_le f142.lt le_b159)) nin0)
  have f217 := f178.keep Kq198 (ninS (Nat.ne_of_lt (Nat.lt_of_lt_of_le f124.lt le_b159)) nin0)
  have f218 := f179.keep Kq198
  have f219 := f180.keep Kq198 (ninS (Nat.ne_of_lt (Nat.lt_of_lt_of_le f154.lt le_b159)) nin0)
  have f220 := f181.keep Kq198 (ninS (Nat.ne_of_lt (Nat.lt_of_lt_of_le f146.lt le_b159)) nin0)
  have f221 := f182.keep Kq198 (ninS (Nat.ne_of_lt (Nat.lt_of_lt_of_le f154.lt le_b159)) nin0)
  have f222 := f183.keep Kq198 (ninS (Nat.ne_of_lt (Nat.lt_of_lt_of_le f148.lt le_b159)) nin0)
  have f223 := f184.keep Kq198 (ninS (Nat.ne_of_lt (Nat.lt_of_lt_of_le f154.lt le_b159)) nin0)
  have f224 := f185.keep Kq198 (ninS (Nat.ne_of_lt (Nat.lt_of_lt_of_le f150.lt le_b159)) nin0)
  have f225 := f186.keep Kq198 (ninS (Nat.ne_of_lt (Nat.lt_of_lt_of_le f154.lt le_b159)) nin0)
  have f226 := f187.keep Kq198 (ninS (Nat.ne_of_lt (Nat.lt_of_lt_of_le f152.lt le_b159)) nin0)
  have f227 := f188.keep Kq198 (ninS (Nat.ne_of_lt (Nat.lt_of_lt_of_le f154.lt le_b159)) nin0)
  have f228 := f189.keep Kq198 (ninS (Nat.ne_of_lt (Nat.lt_of_lt_of_le f154.lt le_b159)) nin0)
  have f229 := f190.keep Kq198 (ninS (Nat.ne_of_lt (Nat.lt_of_lt_of_le f124.lt le_b159)) nin0)
  have f230 := A159.keep Kq198
  have O231 := O191.keep Kq198 (allS gn_b159 all0)
  have Z232 := Nat.le_trans Z192 Kq198.1
  have K233 := K193.trans Kq198 (allS (Or.inr sz_b159) all0)
  obtain ⟨T234, h234, X234, e234, W234, st234⟩ := putF X198 hx hZ hown (host := "") (Or.inl (own_w hw 50 rfl)) Via.refl rfl f200 f199 (Or.inr ⟨(own_w hw 51 rfl), rfl, hnm⟩) (own_w hw 1 rfl) (ty := (.object "java/lang/StringBuilder")) (by decide) rfl rfl (g := (mkF m 34 #[vR aH] [(.ref b159), (.ref aH)])) rfl rfl (hb hby d1_34)
  have f235 := f200.same W234
  have f236 := f199.wr W234
  have f237 := f201.other W234 (Or.inr (slot_ne (Or.inl (own_w hw 53 rfl)) (Or.inr (own_w hw 51 rfl)) (by decide) (t := (.array .int)) (t' := (.object "java/lang/StringBuilder")) (by decide) (by decide)))
  have f238 := f202.other W234 (Or.inr (slot_ne (Or.inl (own_w hw 55 rfl)) (Or.inr (own_w hw 51 rfl)) (by decide) (t := (.array .boolean)) (t' := (.object "java/lang/StringBuilder")) (by decide) (by decide)))
  have f239 := f203.other W234 (Or.inr (slot_ne (Or.inl (own_w hw 200 rfl)) (Or.inr (own_w hw 51 rfl)) (by decide) (t := .int) (t' := (.object "java/lang/StringBuilder")) (by decide) (by decide)))
  have f240 := f204.other W234 (Or.inr (slot_ne (Or.inl (own_w hw 103 rfl)) (Or.inr (own_w hw 51 rfl)) (by decide) (t := .int) (t' := (.object "java/lang/StringBuilder")) (by decide) (by decide)))
  have f241 := f205.other W234 (Or.inr (slot_ne (Or.inl (own_w hw 107 rfl)) (Or.inr (own_w hw 51 rfl)) (by decide) (t := .int) (t' := (.object "java/lang/StringBuilder")) (by decide) (by decide)))
  have f242 := f206.other W234 (Or.inr (slot_ne (Or.inl (own_w hw 198 rfl)) (Or.inr (own_w hw 51 rfl)) (by decide) (t := .boolean) (t' := (.object "java/lang/StringBuilder")) (by decide) (by decide)))
  have f243 := f207.other W234 (Or.inr (slot_ne (Or.inl (own_w hw 97 rfl)) (Or.inr (own_w hw 51 rfl)) (by decide) (t := .boolean) (t' := (.object "java/lang/StringBuilder")) (by decide) (by decide)))
  have f244 := f208.other W234 (Or.inr (slot_ne (Or.inl (own_w hw 99 rfl)) (Or.inr (own_w hw 51 rfl)) (by decide) (t := .boolean) (t' := (.object "java/lang/StringBuilder")) (by decide) (by decide)))
  have f245 := f209.other W234 (Or.inr (slot_ne (Or.inl (own_w hw 101 rfl)) (Or.inr (own_w hw 51 rfl)) (by decide) (t := .boolean) (t' := (.object "java/lang/StringBuilder")) (by decide) (by decide)))
  have f246 := f210.other W234 (Or.inr (slot_ne (Or.inl (own_w hw 105 rfl)) (Or.inr (own_w hw 51 rfl)) (by decide) (t := .boolean) (t' := (.object "java/lang/StringBuilder")) (by decide) (by decide)))
  have f247 := f211.wr W234
  have f248 := f212.other W234 (Or.inl (Ne.symm (Nat.ne_of_lt (Nat.lt_of_lt_of_le H0_rowShows.lt le_b2))))
  have f249 := f213.other W234 (Or.inl (Ne.symm (Nat.ne_of_lt (Nat.lt_of_lt_of_le H0_rowShows.lt le_b2))))
  have f250 := f214.other W234 (Or.inl (Ne.symm (Nat.ne_of_lt (Nat.lt_of_lt_of_le H0_rowShows.lt le_b2))))
  have f251 := f215.other W234 (Or.inl (Ne.symm (Nat.ne_of_lt (Nat.lt_of_lt_of_le H0_rowShows.lt le_b2))))
  have f252 := f216.other W234 (Ne.symm (Nat.ne_of_lt (Nat.lt_of_lt_of_le f16.lt le_v24)))
  have f253 := f217.other W234 (Or.inr (slot_ne (Or.inr (own_w hw 30 rfl)) (Or.inr (own_w hw 51 rfl)) (by decide) (t := (.object "java/lang/StringBuilder")) (t' := (.object "java/lang/StringBuilder")) (by decide) (by decide)))
  have f254 := f218.wr W234
  have f255 := f219.other W234 (Or.inl (Ne.symm (Nat.ne_of_lt (Nat.lt_of_lt_of_le f44.lt le_b68))))
  have f256 := f220.other W234 (Ne.symm (Nat.ne_of_lt (Nat.lt_of_lt_of_le f88.lt le_o1q98)))
  have f257 := f221.other W234 (Or.inl (Ne.symm (Nat.ne_of_lt (Nat.lt_of_lt_of_le f44.lt le_b68))))
  have f258 := f222.other W234 (Ne.symm (Nat.ne_of_lt (Nat.lt_of_lt_of_le f88.lt le_o2q98)))
  have f259 := f223.other W234 (Or.inl (Ne.symm (Nat.ne_of_lt (Nat.lt_of_lt_of_le f44.lt le_b68))))
  have f260 := f224.other W234 (Ne.symm (Nat.ne_of_lt (Nat.lt_of_lt_of_le f88.lt le_o3q98)))
  have f261 := f225.other W234 (Or.inl (Ne.symm (Nat.ne_of_lt (Nat.lt_of_lt_of_le f44.lt le_b68))))
  have f262 := f226.other W234 (Ne.symm (Nat.ne_of_lt (Nat.lt_of_lt_of_le f88.lt le_o4q98)))
  have f263 := f227.other W234 (Or.inl (Ne.symm (Nat.ne_of_lt (Nat.lt_of_lt_of_le f44.lt le_b68))))
  have f264 := f228.other W234 (Or.inl (Ne.symm (Nat.ne_of_lt (Nat.lt_of_lt_of_le f44.lt le_b68))))
  have f265 := f229.other W234 (Or.inr (slot_ne (Or.inr (own_w hw 49 rfl)) (Or.inr (own_w hw 51 rfl)) (by decide) (t := (.object "com/example/whereas/whereas/model/Origins$Builder")) (t' := (.object "java/lang/StringBuilder")) (by decide) (by decide)))
  have f266 := E1q198.wr W234
  have f267 := FVq198.other W234 (Or.inl (Ne.symm (Nat.ne_of_lt (Nat.lt_of_lt_of_le f124.lt le_b159))))
  have f268 := FCq198.other W234 (Or.inl (Ne.symm (Nat.ne_of_lt (Nat.lt_of_lt_of_le f124.lt le_b159))))
  have f269 := FNq198.other W234 (Or.inl (Ne.symm (Nat.ne_of_lt (Nat.lt_of_lt_of_le f124.lt le_b159))))
  have f270 := FMq198.other W234 (Or.inl (Ne.symm (Nat.ne_of_lt (Nat.lt_of_lt_of_le f124.lt le_b159))))
  have f271 := V1q198.other W234 (Ne.symm (Nat.ne_of_lt (Nat.lt_of_lt_of_le f190.lt le_v198)))
  have O272 := O231.wr W234 gH
  have Z273 := Nat.le_trans Z232 (Nat.le_of_eq W234.size.symm)
  have K274 := K233.wr W234 (Or.inl (List.mem_of_getElem? (i := 0) rfl))
  have N275 := Fr.snoc X234 N198 gH
  obtain ⟨T276, h276, k276, X276, e276, E276, A276, st276⟩ := newP X234 hx hZ (own_w hw 38 rfl) e234 (g := (mkF m 40 #[vR aH] [(.int (8 : Int32)), (.ref aH)])) rfl (hb hby d1_40) rfl (by decide) (cap := 8) (by decide) (by decide) (by decide) (by decide)
  obtain ⟨b276, g_b_b276⟩ : ∃ z, z = h234.size := ⟨_, rfl⟩
  have le_b276 : h234.size ≤ b276 := Nat.le_of_eq g_b_b276.symm
  have gn_b276 : n0 ≤ b276 := Nat.le_trans Z273 le_b276
  have sz_b276 : h0.size ≤ b276 := Nat.le_trans K274.1 le_b276
  rw [← g_b_b276] at A276 st276
  have f277 := f236.ext E276
  have f278 := f237.ext E276
  have f279 := f238.ext E276
  have f280 := f239.ext E276
  have f281 := f240.ext E276
  have f282 := f241.ext E276
  have f283 := f242.ext E276
  have f284 := f243.ext E276
  have f285 := f244.ext E276
  have f286 := f245.ext E276
  have f287 := f246.ext E276
  have f288 := f247.ext E276
  have f289 := f248.ext E276
  have f290 := f249.ext E276
  have f291 := f250.ext E276
  have f292 := f251.ext E276
  have f293 := f252.ext E276
  have f294 := f253.ext E276
  have f295 := f254.ext E276
  have f296 := f255.ext E276
  have f297 := f256.ext E276
  have f298 := f257.ext E276
  have f299 := f258.ext E276
  have f300 := f259.ext E276
  have f301 := f260.ext E276
  have f302 := f261.ext E276
  have f303 := f262.ext E276
  have f304 := f263.ext E276
  have f305 := f264.ext E276
  have f306 := f265.ext E276
  have f307 := f266.ext E276
  have f308 := f267.ext E276
  have f309 := f268.ext E276
  have f310 := f269.ext E276
  have f311 := f270.ext E276
  have f312 := f271.ext E276
  have f313 := f235.ext E276
  have O314 := O272.ext E276
  have Z315 := Nat.le_trans Z273 E276.1
  have K316 := K274.ext E276
  have V317 : Arv Z h276 b276 k276 .int (8 : Int32) [(.int (0 : Int32)), (.int (0 : Int32)), (.int (0 : Int32)), (.int (0 : Int32)), (.int (0 : Int32)), (.int (0 : Int32)), (.int (0 : Int32)), (.int (0 : Int32))] (.int (0 : Int32)) := (Arv.new A276 (by decide)).pad (pad_rep [] (.int (0 : Int32)) 8)
  obtain ⟨T318, h318, X318, e318, W318, st318⟩ := putF X276 hx hZ hown (host := "") (Or.inl (own_w hw 52 rfl)) Via.refl e276 f278 f277 (Or.inl (own_w hw 53 rfl)) (own_w hw 1 rfl) (ty := (.array .int)) (by decide) rfl rfl (g := (mkF m 42 #[vR aH] [(.ref b276), (.ref aH)])) rfl rfl (hb hby d1_42)
  have f319 := f278.same W318
  have f320 := f277.wr W318
  have f321 := f279.other W318 (Or.inr (slot_ne (Or.inl (own_w hw 55 rfl)) (Or.inl (own_w hw 53 rfl)) (by decide) (t := (.array .boolean)) (t' := (.array .int)) (by decide) (by decide)))
  have f322 := f280.other W318 (Or.inr (slot_ne (Or.inl (own_w hw 200 rfl)) (Or.inl (own_w hw 53 rfl)) (by decide) (t := .int) (t' := (.array .int)) (by decide) (by decide)))
  have f323 := f281.other W318 (Or.inr (slot_ne (Or.inl (own_w hw 103 rfl)) (Or.inl (own_w hw 53 rfl)) (by decide) (t := .int) (t' := (.array .int)) (by decide) (by decide)))
  have f324 := f282.other W318 (Or.inr (slot_ne (Or.inl (own_w hw 107 rfl)) (Or.inl (own_w hw 53 rfl)) (by decide) (t := .int) (t' := (.array .int)) (by decide) (by decide)))
  have f325 := f283.other W318 (Or.inr (slot_ne (Or.inl (own_w hw 198 rfl)) (Or.inl (own_w hw 53 rfl)) (by decide) (t := .boolean) (t' := (.array .int)) (by decide) (by decide)))
  have f326 := f284.other W318 (Or.inr (slot_ne (Or.inl (own_w hw 97 rfl)) (Or.inl (own_w hw 53 rfl)) (by decide) (t := .boolean) (t' := (.array .int)) (by decide) (by decide)))
  have f327 := f285.other W318 (Or.inr (slot_ne (Or.inl (own_w hw 99 rfl)) (Or.inl (own_w hw 53 rfl)) (by decide) (t := .boolean) (t' := (.array .int)) (by decide) (by decide)))
  have f328 := f286.other W318 (Or.inr (slot_ne (Or.inl (own_w hw 101 rfl)) (Or.inl (own_w hw 53 rfl)) (by decide) (t := .boolean) (t' := (.array .int)) (by decide) (by decide)))
  have f329 := f287.other W318 (Or.inr (slot_ne (Or.inl (own_w hw 105 rfl)) (Or.inl (own_w hw 53 rfl)) (by decide) (t := .boolean) (t' := (.array .int)) (by decide) (by decide)))
  have f330 := f288.wr W318
  have f331 := f289.other W318 (Or.inl (Ne.symm (Nat.ne_of_lt (Nat.lt_of_lt_of_le H0_rowShows.lt le_b2))))
  have f332 := f290.other W318 (Or.inl (Ne.symm (Nat.ne_of_lt (Nat.lt_of_lt_of_le H0_rowShows.lt le_b2))))
  have f333 := f291.other W318 (Or.inl (Ne.symm (Nat.ne_of_lt (Nat.lt_of_lt_of_le H0_rowShows.lt le_b2))))
  have f334 := f292.other W318 (Or.inl (Ne.symm (Nat.ne_of_lt (Nat.lt_of_lt_of_le H0_rowShows.lt le_b2))))
  have f335 := f293.other W318 (Ne.symm (Nat.ne_of_lt (Nat.lt_of_lt_of_le f16.lt le_v24)))
  have f336 := f294.other W318 (Or.inr (slot_ne (Or.inr (own_w hw 30 rfl)) (Or.inl (own_w hw 53 rfl)) (by decide) (t := (.object "java/lang/StringBuilder")) (t' := (.array .int)) (by decide) (by decide)))
  have f337 := f295.wr W318
  have f338 := f296.other W318 (Or.inl (Ne.symm (Nat.ne_of_lt (Nat.lt_of_lt_of_le f44.lt le_b68))))
  have f339 := f297.other W318 (Ne.symm (Nat.ne_of_lt (Nat.lt_of_lt_of_le f88.lt le_o1q98)))
  have f340 := f298.other W318 (Or.inl (Ne.symm (Nat.ne_of_lt (Nat.lt_of_lt_of_le f44.lt le_b68))))
  have f341 := f299.other W318 (Ne.symm (Nat.ne_of_lt (Nat.lt_of_lt_of_le f88.lt le_o2q98)))
  have f342 := f300.other W318 (Or.inl (Ne.symm (Nat.ne_of_lt (Nat.lt_of_lt_of_le f44.lt le_b68))))
  have f343 := f301.other W318 (Ne.symm (Nat.ne_of_lt (Nat.lt_of_lt_of_le f88.lt le_o3q98)))
  have f344 := f302.other W318 (Or.inl (Ne.symm (Nat.ne_of_lt (Nat.lt_of_lt_of_le f44.lt le_b68))))
  have f345 := f303.other W318 (Ne.symm (Nat.ne_of_lt (Nat.lt_of_lt_of_le f88.lt le_o4q98)))
  have f346 := f304.other W318 (Or.inl (Ne.symm (Nat.ne_of_lt (Nat.lt_of_lt_of_le f44.lt le_b68))))
  have f347 := f305.other W318 (Or.inl (Ne.symm (Nat.ne_of_lt (Nat.lt_of_lt_of_le f44.lt le_b68))))
  have f348 := f306.other W318 (Or.inr (slot_ne (Or.inr (own_w hw 49 rfl)) (Or.inl (own_w hw 53 rfl)) (by decide) (t := (.object "com/example/whereas/whereas/model/Origins$Builder")) (t' := (.array .int)) (by decide) (by decide)))
  have f349 := f307.wr W318
  have f350 := f308.other W318 (Or.inl (Ne.symm (Nat.ne_of_lt (Nat.lt_of_lt_of_le f124.lt le_b159))))
  have f351 := f309.other W318 (Or.inl (Ne.symm (Nat.ne_of_lt (Nat.lt_of_lt_of_le f124.lt le_b159))))
  have f352 := f310.other W318 (Or.inl (Ne.symm (Nat.ne_of_lt (Nat.lt_of_lt_of_le f124.lt le_b159))))
  have f353 := f311.other W318 (Or.inl (Ne.symm (Nat.ne_of_lt (Nat.lt_of_lt_of_le f124.lt le_b159))))
  have f354 := f312.other W318 (Ne.symm (Nat.ne_of_lt (Nat.lt_of_lt_of_le f190.lt le_v198)))
  have f355 := f313.other W318 (Or.inr (slot_ne (Or.inr (own_w hw 51 rfl)) (Or.inl (own_w hw 53 rfl)) (by decide) (t := (.object "java/lang/StringBuilder")) (t' := (.array .int)) (by decide) (by decide)))
  have f356 := V317.other W318 (Ne.symm (Nat.ne_of_lt (Nat.lt_of_lt_of_le f235.lt le_b276)))
  have O357 := O314.wr W318 gH
  have Z358 := Nat.le_trans Z315 (Nat.le_of_eq W318.size.symm)
  have K359 := K316.wr W318 (Or.inl (List.mem_of_getElem? (i := 0) rfl))
  have N360 := Fr.snoc X318 N275 gH
  obtain ⟨T361, h361, k361, X361, e361, E361, A361, st361⟩ := newP X318 hx hZ (own_w hw 45 rfl) e318 (g := (mkF m 47 #[vR aH] [(.int (4 : Int32)), (.ref aH)])) rfl (hb hby d1_47) rfl (by decide) (cap := 4) (by decide) (by decide) (by decide) (by decide)
  obtain ⟨b361, g_b_b361⟩ : ∃ z, z = h318.size := ⟨_, rfl⟩
  have le_b361 : h318.size ≤ b361 := Nat.le_of_eq g_b_b361.symm
  have gn_b361 : n0 ≤ b361 := Nat.le_trans Z358 le_b361
  have sz_b361 : h0.size ≤ b361 := Nat.le_trans K359.1 le_b361
  rw [← g_b_b361] at A361 st361
  have f362 := f320.ext E361
  have f363 := f321.ext E361
  have f364 := f322.ext E361
  have f365 := f323.ext E361
  have f366 := f324.ext E361
  have f367 := f325.ext E361
  have f368 := f326.ext E361
  have f369 := f327.ext E361
  have f370 := f328.ext E361
  have f371 := f329.ext E361
  have f372 := f330.ext E361
  have f373 := f331.ext E361
  have f374 := f332.ext E361
  have f375 := f333.ext E361
  have f376 := f334.ext E361
  have f377 := f335.ext E361
  have f378 := f336.ext E361
  have f379 := f337.ext E361
  have f380 := f338.ext E361
  have f381 := f339.ext E361
  have f382 := f340.ext E361
  have f383 := f341.ext E361
  have f384 := f342.ext E361
  have f385 := f343.ext E361
  have f386 := f344.ext E361
  have f387 := f345.ext E361
  have f388 := f346.ext E361
  have f389 := f347.ext E361
  have f390 := f348.ext E361
  have f391 := f349.ext E361
  have f392 := f350.ext E361
  have f393 := f351.ext E361
  have f394 := f352.ext E361
  have f395 := f353.ext E361
  have f396 := f354.ext E361
  have f397 := f355.ext E361
  have f398 := f356.ext E361
  have f399 := f319.ext E361
  have O400 := O357.ext E361
  have Z401 := Nat.le_trans Z358 E361.1
  have K402 := K359.ext E361
  have V403 : Arv Z h361 b361 k361 .boolean (4 : Int32) [(.int (0 : Int32)), (.int (0 : Int32)), (.int (0 : Int32)), (.int (0 : Int32))] (.int (0 : Int32)) := (Arv.new A361 (by decide)).pad (pad_rep [] (.int (0 : Int32)) 4)
  obtain ⟨T404, h404, X404, e404, W404, st404⟩ := putF X361 hx hZ hown (host := "") (Or.inl (own_w hw 54 rfl)) Via.refl e361 f363 f362 (Or.inl (own_w hw 55 rfl)) (own_w hw 1 rfl) (ty := (.array .boolean)) (by decide) rfl rfl (g := (mkF m 49 #[vR aH] [(.ref b361), (.ref aH)])) rfl rfl (hb hby d1_49)
  have f405 := f363.same W404
  have f406 := f362.wr W404
  have f407 := f364.other W404 (Or.inr (slot_ne (Or.inl (own_w hw 200 rfl)) (Or.inl (own_w hw 55 rfl)) (by decide) (t := .int) (t' := (.array .boolean)) (by decide) (by decide)))
  have f408 := f365.other W404 (Or.inr (slot_ne (Or.inl (own_w hw 103 rfl)) (Or.inl (own_w hw 55 rfl)) (by decide) (t := .int) (t' := (.array .boolean)) (by decide) (by decide)))
  have f409 := f366.other W404 (Or.inr (slot_ne (Or.inl (own_w hw 107 rfl)) (Or.inl (own_w hw 55 rfl)) (by decide) (t := .int) (t' := (.array .boolean)) (by decide) (by decide)))
  have f410 := f367.other W404 (Or.inr (slot_ne (Or.inl (own_w hw 198 rfl)) (Or.inl (own_w hw 55 rfl)) (by decide) (t := .boolean) (t' := (.array .boolean)) (by decide) (by decide)))
  have f411 := f368.other W404 (Or.inr (slot_ne (Or.inl (own_w hw 97 rfl)) (Or.inl (own_w hw 55 rfl)) (by decide) (t := .boolean) (t' := (.array .boolean)) (by decide) (by decide)))
  have f412 := f369.other W404 (Or.inr (slot_ne (Or.inl (own_w hw 99 rfl)) (Or.inl (own_w hw 55 rfl)) (by decide) (t := .boolean) (t' := (.array .boolean)) (by decide) (by decide)))
  have f413 := f370.other W404 (Or.inr (slot_ne (Or.inl (own_w hw 101 rfl)) (Or.inl (own_w hw 55 rfl)) (by decide) (t := .boolean) (t' := (.array .boolean)) (by decide) (by decide)))
  have f414 := f371.other W404 (Or.inr (slot_ne (Or.inl (own_w hw 105 rfl)) (Or.inl (own_w hw 55 rfl)) (by decide) (t := .boolean) (t' := (.array .boolean)) (by decide) (by decide)))
  have f415 := f372.wr W404
  have f416 := f373.other W404 (Or.inl (Ne.symm (Nat.ne_of_lt (Nat.lt_of_lt_of_le H0_rowShows.lt le_b2))))
  have f417 := f374.other W404 (Or.inl (Ne.symm (Nat.ne_of_lt (Nat.lt_of_lt_of_le H0_rowShows.lt le_b2))))
  have f418 := f375.other W404 (Or.inl (Ne.symm (Nat.ne_of_lt (Nat.lt_of_lt_of_le H0_rowShows.lt le_b2))))
  have f419 := f376.other W404 (Or.inl (Ne.symm (Nat.ne_of_lt (Nat.lt_of_lt_of_le H0_rowShows.lt le_b2))))
  have f420 := f377.other W404 (Ne.symm (Nat.ne_of_lt (Nat.lt_of_lt_of_le f16.lt le_v24)))
  have f421 := f378.other W404 (Or.inr (slot_ne (Or.inr (own_w hw 30 rfl)) (Or.inl (own_w hw 55 rfl)) (by decide) (t := (.object "java/lang/StringBuilder")) (t' := (.array .boolean)) (by decide) (by decide)))
  have f422 := f379.wr W404
  have f423 := f380.other W404 (Or.inl (Ne.symm (Nat.ne_of_lt (Nat.lt_of_lt_of_le f44.lt le_b68))))
  have f424 := f381.other W404 (Ne.symm (Nat.ne_of_lt (Nat.lt_of_lt_of_le f88.lt le_o1q98)))
  have f425 := f382.other W404 (Or.inl (Ne.symm (Nat.ne_of_lt (Nat.lt_of_lt_of_le f44.lt le_b68))))
  have f426 := f383.other W404 (Ne.symm (Nat.ne_of_lt (Nat.lt_of_lt_of_le f88.lt le_o2q98)))
  have f427 := f384.other W404 (Or.inl (Ne.symm (Nat.ne_of_lt (Nat.lt_of_lt_of_le f44.lt le_b68))))
  have f428 := f385.other W404 (Ne.symm (Nat.ne_of_lt (Nat.lt_of_lt_of_le f88.lt le_o3q98)))
  have f429 := f386.other W404 (Or.inl (Ne.symm (Nat.ne_of_lt (Nat.lt_of_lt_of_le f44.lt le_b68))))
  have f430 := f387.other W404 (Ne.symm (Nat.ne_of_lt (Nat.lt_of_lt_of_le f88.lt le_o4q98)))
  have f431 := f388.other W404 (Or.inl (Ne.symm (Nat.ne_of_lt (Nat.lt_of_lt_of_le f44.lt le_b68))))
  have f432 := f389.other W404 (Or.inl (Ne.symm (Nat.ne_of_lt (Nat.lt_of_lt_of_le f44.lt le_b68))))
  have f433 := f390.other W404 (Or.inr (slot_ne (Or.inr (own_w hw 49 rfl)) (Or.inl (own_w hw 55 rfl)) (by decide) (t := (.object "com/example/whereas/whereas/model/Origins$Builder")) (t' := (.array .boolean)) (by decide) (by decide)))
  have f434 := f391.wr W404
  have f435 := f392.other W404 (Or.inl (Ne.symm (Nat.ne_of_lt (Nat.lt_of_lt_of_le f124.lt le_b159))))
  have f436 := f393.other W404 (Or.inl (Ne.symm (Nat.ne_of_lt (Nat.lt_of_lt_of_le f124.lt le_b159))))
  have f437 := f394.other W404 (Or.inl (Ne.symm (Nat.ne_of_lt (Nat.lt_of_lt_of_le f124.lt le_b159))))
  have f438 := f395.other W404 (Or.inl (Ne.symm (Nat.ne_of_lt (Nat.lt_of_lt_of_le f124.lt le_b159))))
  have f439 := f396.other W404 (Ne.symm (Nat.ne_of_lt (Nat.lt_of_lt_of_le f190.lt le_v198)))
  have f440 := f397.other W404 (Or.inr (slot_ne (Or.inr (own_w hw 51 rfl)) (Or.inl (own_w hw 55 rfl)) (by decide) (t := (.object "java/lang/StringBuilder")) (t' := (.array .boolean)) (by decide) (by decide)))
  have f441 := f398.other W404 (Ne.symm (Nat.ne_of_lt (Nat.lt_of_lt_of_le f235.lt le_b276)))
  have f442 := f399.other W404 (Or.inr (slot_ne (Or.inl (own_w hw 53 rfl)) (Or.inl (own_w hw 55 rfl)) (by decide) (t := (.array .int)) (t' := (.array .boolean)) (by decide) (by decide)))
  have f443 := V403.other W404 (Ne.symm (Nat.ne_of_lt (Nat.lt_of_lt_of_le f319.lt le_b361)))
  have O444 := O400.wr W404 gH
  have Z445 := Nat.le_trans Z401 (Nat.le_of_eq W404.size.symm)
  have K446 := K402.wr W404 (Or.inl (List.mem_of_getElem? (i := 0) rfl))
  have N447 := Fr.snoc X404 N360 gH
  have go448 : Goes p e below s₁ (entryFrame m #[(.ref aH)] 1) T404 (mkF m 52 #[vR aH] []) := fun t k => by
    refine go0 t ?_
    refine XS.aloadN X0.here hx rfl (hb hby d1_0) rfl rfl ?_
    refine st1 t ?_
    refine XS.aloadN X1.here hx rfl (hb hby d1_4) rfl rfl ?_
    refine st2 t ?_
    refine XS.dup X2.here hx rfl (hb hby d1_8) rfl rfl ?_
    refine st24.trans ?_
    show Steps p.tables e below (T24.setTop (mkF m 12 #[vR aH] [(.ref b2), (.ref aH)])) _
    refine st43 t ?_
    refine XS.aloadN X43.here hx rfl (hb hby d1_15) rfl rfl ?_
    refine st68 t ?_
    refine XS.dup X68.here hx rfl (hb hby d1_19) rfl rfl ?_
    refine st98.trans ?_
    refine st123 t ?_
    show Steps p.tables e below (T123.setTop (mkF m 26 #[vR aH] [])) _
    refine XS.aloadN X123.here hx rfl (hb hby d1_26) rfl rfl ?_
    refine st159 t ?_
    refine XS.dup X159.here hx rfl (hb hby d1_30) rfl rfl ?_
    refine st198.trans ?_
    refine st234 t ?_
    refine XS.aloadN X234.here hx rfl (hb hby d1_37) rfl rfl ?_
    show Steps p.tables e below (T234.setTop (mkF m 38 #[vR aH] [(.ref aH)])) _
    refine XS.bipush X234.here hx rfl (hb hby d1_38) ?_
    refine st276 t ?_
    refine st318 t ?_
    refine XS.aloadN X318.here hx rfl (hb hby d1_45) rfl rfl ?_
    refine XS.iconst X318.here hx rfl (hb hby d1_46) ?_
    refine st361 t ?_
    show Steps p.tables e below (T361.setTop (mkF m 49 #[vR aH] [(.ref b361), (.ref aH)])) _
    refine st404 t ?_
    exact k
  obtain ⟨fs, hr, hrun, hended, hW, hsame⟩ := X404.leave (v := none) (fun _ => rfl)
  have D : List.Nodup [aH, b2, v24, b159, v198, b276, b361, b68, o1q98, o2q98, o3q98, o4q98] := (List.nodup_cons.mpr ⟨(ninS (Nat.ne_of_lt (Nat.lt_of_lt_of_le H0_rowShows.lt le_b2)) (ninS (Nat.ne_of_lt (Nat.lt_of_lt_of_le f16.lt le_v24)) (ninS (Nat.ne_of_lt (Nat.lt_of_lt_of_le f124.lt le_b159)) (ninS (Nat.ne_of_lt (Nat.lt_of_lt_of_le f190.lt le_v198)) (ninS (Nat.ne_of_lt (Nat.lt_of_lt_of_le f235.lt le_b276)) (ninS (Nat.ne_of_lt (Nat.lt_of_lt_of_le f319.lt le_b361)) (ninS (Nat.ne_of_lt (Nat.lt_of_lt_of_le f44.lt le_b68)) (ninS (Nat.ne_of_lt (Nat.lt_of_lt_of_le f88.lt le_o1q98)) (ninS (Nat.ne_of_lt (Nat.lt_of_lt_of_le f88.lt le_o2q98)) (ninS (Nat.ne_of_lt (Nat.lt_of_lt_of_le f88.lt le_o3q98)) (ninS (Nat.ne_of_lt (Nat.lt_of_lt_of_le f88.lt le_o4q98)) nin0))))))))))), (List.nodup_cons.mpr ⟨(ninS (Nat.ne_of_lt (Nat.lt_of_lt_of_le f23.lt le_v24)) (ninS (Nat.ne_of_lt (Nat.lt_of_lt_of_le f141.lt le_b159)) (ninS (Nat.ne_of_lt (Nat.lt_of_lt_of_le f176.lt le_v198)) (ninS (Nat.ne_of_lt (Nat.lt_of_lt_of_le f251.lt le_b276)) (ninS (Nat.ne_of_lt (Nat.lt_of_lt_of_le f334.lt le_b361)) (ninS (Nat.ne_of_lt (Nat.lt_of_lt_of_le f62.lt le_b68)) (ninS (Nat.ne_of_lt (Nat.lt_of_lt_of_le f86.lt le_o1q98)) (ninS (Nat.ne_of_lt (Nat.lt_of_lt_of_le f86.lt le_o2q98)) (ninS (Nat.ne_of_lt (Nat.lt_of_lt_of_le f86.lt le_o3q98)) (ninS (Nat.ne_of_lt (Nat.lt_of_lt_of_le f86.lt le_o4q98)) nin0)))))))))), (List.nodup_cons.mpr ⟨(ninS (Nat.ne_of_lt (Nat.lt_of_lt_of_le f142.lt le_b159)) (ninS (Nat.ne_of_lt (Nat.lt_of_lt_of_le f177.lt le_v198)) (ninS (Nat.ne_of_lt (Nat.lt_of_lt_of_le f252.lt le_b276)) (ninS (Nat.ne_of_lt (Nat.lt_of_lt_of_le f335.lt le_b361)) (ninS (Nat.ne_of_lt (Nat.lt_of_lt_of_le f63.lt le_b68)) (ninS (Nat.ne_of_lt (Nat.lt_of_lt_of_le f87.lt le_o1q98)) (ninS (Nat.ne_of_lt (Nat.lt_of_lt_of_le f87.lt le_o2q98)) (ninS (Nat.ne_of_lt (Nat.lt_of_lt_of_le f87.lt le_o3q98)) (ninS (Nat.ne_of_lt (Nat.lt_of_lt_of_le f87.lt le_o4q98)) nin0))))))))), (List.nodup_cons.mpr ⟨(ninS (Nat.ne_of_lt (Nat.lt_of_lt_of_le f197.lt le_v198)) (ninS (Nat.ne_of_lt (Nat.lt_of_lt_of_le f270.lt le_b276)) (ninS (Nat.ne_of_lt (Nat.lt_of_lt_of_le f353.lt le_b361)) (ninS (Ne.symm (Nat.ne_of_lt (Nat.lt_of_lt_of_le f154.lt le_b159))) (ninS (Ne.symm (Nat.ne_of_lt (Nat.lt_of_lt_of_le f146.lt le_b159))) (ninS (Ne.symm (Nat.ne_of_lt (Nat.lt_of_lt_of_le f148.lt le_b159))) (ninS (Ne.symm (Nat.ne_of_lt (Nat.lt_of_lt_of_le f150.lt le_b159))) (ninS (Ne.symm (Nat.ne_of_lt (Nat.lt_of_lt_of_le f152.lt le_b159))) nin0)))))))), (List.nodup_cons.mpr ⟨(ninS (Nat.ne_of_lt (Nat.lt_of_lt_of_le f271.lt le_b276)) (ninS (Nat.ne_of_lt (Nat.lt_of_lt_of_le f354.lt le_b361)) (ninS (Ne.symm (Nat.ne_of_lt (Nat.lt_of_lt_of_le f189.lt le_v198))) (ninS (Ne.symm (Nat.ne_of_lt (Nat.lt_of_lt_of_le f181.lt le_v198))) (ninS (Ne.symm (Nat.ne_of_lt (Nat.lt_of_lt_of_le f183.lt le_v198))) (ninS (Ne.symm (Nat.ne_of_lt (Nat.lt_of_lt_of_le f185.lt le_v198))) (ninS (Ne.symm (Nat.ne_of_lt (Nat.lt_of_lt_of_le f187.lt le_v198))) nin0))))))), (List.nodup_cons.mpr ⟨(ninS (Nat.ne_of_lt (Nat.lt_of_lt_of_le f356.lt le_b361)) (ninS (Ne.symm (Nat.ne_of_lt (Nat.lt_of_lt_of_le f264.lt le_b276))) (ninS (Ne.symm (Nat.ne_of_lt (Nat.lt_of_lt_of_le f256.lt le_b276))) (ninS (Ne.symm (Nat.ne_of_lt (Nat.lt_of_lt_of_le f258.lt le_b276))) (ninS (Ne.symm (Nat.ne_of_lt (Nat.lt_of_lt_of_le f260.lt le_b276))) (ninS (Ne.symm (Nat.ne_of_lt (Nat.lt_of_lt_of_le f262.lt le_b276))) nin0)))))), (List.nodup_cons.mpr ⟨(ninS (Ne.symm (Nat.ne_of_lt (Nat.lt_of_lt_of_le f347.lt le_b361))) (ninS (Ne.symm (Nat.ne_of_lt (Nat.lt_of_lt_of_le f339.lt le_b361))) (ninS (Ne.symm (Nat.ne_of_lt (Nat.lt_of_lt_of_le f341.lt le_b361))) (ninS (Ne.symm (Nat.ne_of_lt (Nat.lt_of_lt_of_le f343.lt le_b361))) (ninS (Ne.symm (Nat.ne_of_lt (Nat.lt_of_lt_of_le f345.lt le_b361))) nin0))))), (List.nodup_cons.mpr ⟨(ninS (Nat.ne_of_lt (Nat.lt_of_lt_of_le f97.lt le_o1q98)) (ninS (Nat.ne_of_lt (Nat.lt_of_lt_of_le f97.lt le_o2q98)) (ninS (Nat.ne_of_lt (Nat.lt_of_lt_of_le f97.lt le_o3q98)) (ninS (Nat.ne_of_lt (Nat.lt_of_lt_of_le f97.lt le_o4q98)) nin0)))), (List.nodup_cons.mpr ⟨(ninS no1_o298 (ninS no1_o398 (ninS no1_o498 nin0))), (List.nodup_cons.mpr ⟨(ninS no2_o398 (ninS no2_o498 nin0)), (List.nodup_cons.mpr ⟨(ninS no3_o498 nin0), (List.nodup_cons.mpr ⟨nin0, List.nodup_nil⟩)⟩)⟩)⟩)⟩)⟩)⟩)⟩)⟩)⟩)⟩)⟩)
  have gA : ∀ y ∈ [b2, v24, b159, v198, b276, b361, b68, o1q98, o2q98, o3q98, o4q98], h0.size ≤ y := (allS sz_b2 (allS sz_v24 (allS sz_b159 (allS sz_v198 (allS sz_b276 (allS sz_b361 (allS sz_b68 (allS sz_o1q98 (allS sz_o2q98 (allS sz_o3q98 (allS sz_o4q98 all0)))))))))))
  refine ⟨_, _, go448 _ ?_, hrun, hended, _, _, rfl, ?_, ⟨_, rfl⟩, hW, hsame.mono (by decide) (by decide)⟩
  · exact X404.returnOut hx Bd.returns (hb hby d1_52) hr
  · show QHi Z _ _ _ _ _ T404.heap _
    rw [e404]
    exact ⟨rfl, N447, K446, b2, v24, b159, v198, b276, b361, b68, o1q98, o2q98, o3q98, o4q98, D, gA, _, _, _, _, _, _, _, _, _, own_ln0, own_rb0, f406, f421, f433, f440, f442, f405, f407, f408, f409, f410, f411, f412, f413, f414, f415, f416, f417, f418, f419, f420, f434, f435, f436, f437, f438, f439, own_fresh 8 rfl (f441), own_fresh 4 rfl (f443), f422, f423, f425, f427, f429, f431, f432, f424, f426, f428, f430⟩
theorem own_mp_get {xs : List Int32} {i : Nat} : (xs.map Value.int).getD i (.int (0 : Int32)) = .int (xs.getD i 0) := by
  rw [List.getD_eq_getElem?_getD, List.getD_eq_getElem?_getD, List.getElem?_map]
  cases xs[i]? <;> rfl
def own_rg (xs : List Int32) : Prop := ∀ c ∈ xs, ¬ c < 0 ∧ ¬ (255 : Int32) < c
theorem own_rg0 : own_rg [] := fun _ q => by cases q
theorem own_rg.push {xs : List Int32} {c : Int32} (h : own_rg xs) (hc : ¬ c < 0 ∧ ¬ (255 : Int32) < c) : own_rg (xs ++ [c]) := fun y q => by
  rcases List.mem_append.mp q with q | q
  · exact h y q
  · rw [List.mem_singleton.mp q]; exact hc
theorem own_rg.at {xs : List Int32} {i : Nat} (h : own_rg xs) : ¬ (xs.getD i 0) < 0 ∧ ¬ (255 : Int32) < (xs.getD i 0) := by
  rw [List.getD_eq_getElem?_getD]
  cases q : xs[i]? with
  | none => exact ⟨by decide, by decide⟩
  | some y => exact h y (List.mem_of_getElem? q)
theorem own_ln.idx {xs : List Int32} {n x : Int32} (h : own_ln xs n) (h0 : ¬ x < 0) (h1 : x < n) : x.toNatClampNeg < xs.length := by
  rw [Int32.lt_iff_toInt_lt] at h0 h1
  have z0 : (0 : Int32).toInt = 0 := rfl
  have e : x.toNatClampNeg = x.toInt.toNat := rfl
  have := h.1; omega
theorem d27_0 : dc27 0 (.getstatic 38) 3 := by decide +kernel
theorem d27_3 : dc27 3 (.ifCond .eq 10) 3 := by decide +kernel
theorem d27_6 : dc27 6 (.aload_n 0) 1 := by decide +kernel
theorem d27_7 : dc27 7 (.getfield 15) 3 := by decide +kernel
theorem d27_10 : dc27 10 (.goto 4) 3 := by decide +kernel
theorem d27_14 : dc27 14 (.ireturn) 1 := by decide +kernel
theorem ef_rmSd (m : MethodId) (sa : Addr) : entryFrame m #[(.ref sa)] 1 = mkF m 0 #[.val (.ref sa)] [] := by first | (simp [entryFrame, mkF, argsToLocals, Value.category]; done) | rfl
def QSd (Z : State) (sa : Addr) (cs : Int32) (h0 : Heap) (n0 : Nat) (v : Option Value) (h : Heap) (L : List Loc) : Prop := v = some (.int (0 : Int32)) ∧ Fr n0 L ∧ h = h0
set_option maxRecDepth 65536 in
set_option maxHeartbeats 40000000 in
theorem rmSd (l : Launch) (Z : State) (a0 : Array Value) (hw : ∀ d ∈ tables_1, d.before a0 Z = true) (ws : List Jvm.Cond) (sa : Addr) (cs : Int32) (h0 : Heap) (n0 : Nat) (Z0 : n0 ≤ h0.size) (O0 : Old Z n0 h0) (S_CS : Sta Z Z.heap "java/lang/String" "COMPACT_STRINGS" "Z" (.int cs)) (hcs : ¬ cs = 0) (FC : Fld Z h0 sa "java/lang/String" "coder" "B" (.int (0 : Int32))) :
    MetFree l mN_31 (head1 (Jvm.Cond.code mN_31 jdk_42_method_152_code 1 (some .byte) :: ws) rO_0) (fun a U => a = #[(.ref sa)] ∧ Z.Warmed39 U.vm ∧ U.heap = h0) (fun _ _ _ _ _ => True) (fun _ U o U' => ∃ v L, o = .returned v ∧ QSd Z sa cs h0 n0 v U'.heap L ∧ FrameEnd U o U' L rO_0.cells rO_0.slots) := by
  refine MetFree.of_bodySF (plainFor_of_name pn_4) hisR ?_
  intro p e s m args below meth c s₁ Bd hml0 hP hK
  obtain ⟨rfl, hZ, hh⟩ := hP
  have hx := Bd.exec
  have hby := Bd.bytes
  have hml : c.maxLocals = 1 := hml0
  have hown : s.vm.findClass "java/lang/String" = some m.cls := findClass_of_methodNamed Bd.named
  have hnm := (name_of_methodNamed Bd.named Bd.method).1
  have X0 : Stand p l e rO_0 s m #[(.ref sa)] below meth c s₁ [] 0 0 := Stand.of_body Bd
  have e0 : s₁.heap = h0 := by rw [← hh, Bd.state]; rfl
  have N0 := Fr.nil n0
  have K0 := Keep.refl h0 []
  have go0 : Goes p e below s₁ (entryFrame m #[(.ref sa)] 1) s₁ (mkF m 0 #[vR sa] []) := fun t k => castTop (ef_rmSd m sa) k
  obtain ⟨T1, X1, e1, st1⟩ := getS2 X0 hx hZ hown (host := "") (Or.inl (own_w hw 183 rfl)) Via.refl e0 (S_CS.ext O0.2) (g := (mkF m 0 #[vR sa] [])) rfl (hb hby d27_0)
  obtain ⟨T2, X2, e2, st2⟩ := getF X1 hx hZ hown (host := "") (Or.inl (own_w hw 150 rfl)) Via.refl e1 FC (g := (mkF m 7 #[vR sa] [(.ref sa)])) rfl rfl (hb hby d27_7)
  have go3 : Goes p e below s₁ (entryFrame m #[(.ref sa)] 1) T2 (mkF m 14 #[vR sa] [(.int (0 : Int32))]) := fun t k => by
    refine go0 t ?_
    refine st1 t ?_
    refine XS.ifNo X1.here hx rfl (hb hby d27_3) rfl (Jvm.Free.XT.i0_eq_f hcs) ?_
    refine XS.aloadN X1.here hx rfl (hb hby d27_6) rfl rfl ?_
    refine st2 t ?_
    refine XS.goto X2.here hx rfl (pc0 := 10) (pc' := 14) rfl (hb hby d27_10) (by decide) (by decide) ?_
    exact k
  obtain ⟨fs, hr, hrun, hended, hW, hsame⟩ := X2.leave (v := some (.int (0 : Int32))) (fun h => by rw [Bd.returns] at h; cases h)
  refine ⟨_, _, go3 _ ?_, hrun, hended, _, _, rfl, ?_, ⟨_, rfl⟩, hW, hsame.mono (by decide) (by decide)⟩
  · exact retN X2 hx (t := .byte) Bd.returns (by simp) (hb hby d27_14) hr
  · show QSd Z _ _ _ _ _ T2.heap _
    rw [e2]
    exact ⟨rfl, N0, rfl⟩
theorem d42_0 : dc42 0 (.getstatic 38) 3 := by decide +kernel
theorem d42_3 : dc42 3 (.ifCond .eq 14) 3 := by decide +kernel
theorem d42_6 : dc42 6 (.aload_n 0) 1 := by decide +kernel
theorem d42_7 : dc42 7 (.getfield 15) 3 := by decide +kernel
theorem d42_10 : dc42 10 (.ifCond .ne 7) 3 := by decide +kernel
theorem d42_13 : dc42 13 (.iconst 1) 1 := by decide +kernel
theorem d42_14 : dc42 14 (.goto 4) 3 := by decide +kernel
theorem d42_18 : dc42 18 (.ireturn) 1 := by decide +kernel
theorem ef_rmSi (m : MethodId) (sa : Addr) : entryFrame m #[(.ref sa)] 1 = mkF m 0 #[.val (.ref sa)] [] := by first | (simp [entryFrame, mkF, argsToLocals, Value.category]; done) | rfl
def QSi (Z : State) (sa : Addr) (cs : Int32) (h0 : Heap) (n0 : Nat) (v : Option Value) (h : Heap) (L : List Loc) : Prop := v = some (.int (1 : Int32)) ∧ Fr n0 L ∧ h = h0
set_option maxRecDepth 65536 in
set_option maxHeartbeats 40000000 in
theorem rmSi (l : Launch) (Z : State) (a0 : Array Value) (hw : ∀ d ∈ tables_1, d.before a0 Z = true) (ws : List Jvm.Cond) (sa : Addr) (cs : Int32) (h0 : Heap) (n0 : Nat) (Z0 : n0 ≤ h0.size) (O0 : Old Z n0 h0) (S_CS : Sta Z Z.heap "java/lang/String" "COMPACT_STRINGS" "Z" (.int cs)) (hcs : ¬ cs = 0) (FC : Fld Z h0 sa "java/lang/String" "coder" "B" (.int (0 : Int32))) :
    MetFree l mN_32 (head1 (Jvm.Cond.code mN_32 jdk_42_method_154_code 1 (some .boolean) :: ws) rO_0) (fun a U => a = #[(.ref sa)] ∧ Z.Warmed39 U.vm ∧ U.heap = h0) (fun _ _ _ _ _ => True) (fun _ U o U' => ∃ v L, o = .returned v ∧ QSi Z sa cs h0 n0 v U'.heap L ∧ FrameEnd U o U' L rO_0.cells rO_0.slots) := by
  refine MetFree.of_bodySF (plainFor_of_name pn_4) hisR ?_
  intro p e s m args below meth c s₁ Bd hml0 hP hK
  obtain ⟨rfl, hZ, hh⟩ := hP
  have hx := Bd.exec
  have hby := Bd.bytes
  have hml : c.maxLocals = 1 := hml0
  have hown : s.vm.findClass "java/lang/String" = some m.cls := findClass_of_methodNamed Bd.named
  have hnm := (name_of_methodNamed Bd.named Bd.method).1
  have X0 : Stand p l e rO_0 s m #[(.ref sa)] below meth c s₁ [] 0 0 := Stand.of_body Bd
  have e0 : s₁.heap = h0 := by rw [← hh, Bd.state]; rfl
  have N0 := Fr.nil n0
  have K0 := Keep.refl h0 []
  have go0 : Goes p e below s₁ (entryFrame m #[(.ref sa)] 1) s₁ (mkF m 0 #[vR sa] []) := fun t k => castTop (ef_rmSi m sa) k
  obtain ⟨T1, X1, e1, st1⟩ := getS2 X0 hx hZ hown (host := "") (Or.inl (own_w hw 183 rfl)) Via.refl e0 (S_CS.ext O0.2) (g := (mkF m 0 #[vR sa] [])) rfl (hb hby d42_0)
  obtain ⟨T2, X2, e2, st2⟩ := getF X1 hx hZ hown (host := "") (Or.inl (own_w hw 150 rfl)) Via.refl e1 FC (g := (mkF m 7 #[vR sa] [(.ref sa)])) rfl rfl (hb hby d42_7)
  have go3 : Goes p e below s₁ (entryFrame m #[(.ref sa)] 1) T2 (mkF m 18 #[vR sa] [(.int (1 : Int32))]) := fun t k => by
    refine go0 t ?_
    refine st1 t ?_
    refine XS.ifNo X1.here hx rfl (hb hby d42_3) rfl (Jvm.Free.XT.i0_eq_f hcs) ?_
    refine XS.aloadN X1.here hx rfl (hb hby d42_6) rfl rfl ?_
    refine st2 t ?_
    refine XS.ifNo X2.here hx rfl (hb hby d42_10) rfl (Jvm.Free.XT.i0_ne_f (by decide)) ?_
    refine XS.iconst X2.here hx rfl (hb hby d42_13) ?_
    show Steps p.tables e below (T2.setTop (mkF m 14 #[vR sa] [(.int (1 : Int32))])) _
    refine XS.goto X2.here hx rfl (pc0 := 14) (pc' := 18) rfl (hb hby d42_14) (by decide) (by decide) ?_
    exact k
  obtain ⟨fs, hr, hrun, hended, hW, hsame⟩ := X2.leave (v := some (.int (1 : Int32))) (fun h => by rw [Bd.returns] at h; cases h)
  refine ⟨_, _, go3 _ ?_, hrun, hended, _, _, rfl, ?_, ⟨_, rfl⟩, hW, hsame.mono (by decide) (by decide)⟩
  · exact retN X2 hx (t := .boolean) Bd.returns (by simp) (hb hby d42_18) hr
  · show QSi Z _ _ _ _ _ T2.heap _
    rw [e2]
    exact ⟨rfl, N0, rfl⟩
theorem pd_19 : parseMethodDescriptor "()B" = some ⟨[], some .byte⟩ := by decide +kernel
theorem d26_0 : dc26 0 (.aload_n 0) 1 := by decide +kernel
theorem d26_1 : dc26 1 (.getfield 9) 3 := by decide +kernel
theorem d26_4 : dc26 4 (.arraylength) 1 := by decide +kernel
theorem d26_5 : dc26 5 (.aload_n 0) 1 := by decide +kernel
theorem d26_6 : dc26 6 (.invokevirtual 335) 3 := by decide +kernel
theorem d26_9 : dc26 9 (.ishr) 1 := by decide +kernel
theorem d26_10 : dc26 10 (.ireturn) 1 := by decide +kernel
theorem ef_rmLn (m : MethodId) (sa : Addr) : entryFrame m #[(.ref sa)] 1 = mkF m 0 #[.val (.ref sa)] [] := by first | (simp [entryFrame, mkF, argsToLocals, Value.category]; done) | rfl
def QLn (Z : State) (sa : Addr) (sb : Addr) (kb : ClassId) (n : Int32) (xs : List Int32) (cs : Int32) (h0 : Heap) (n0 : Nat) (v : Option Value) (h : Heap) (L : List Loc) : Prop := v = some (.int n) ∧ Fr n0 L ∧ h = h0
set_option maxRecDepth 65536 in
set_option maxHeartbeats 40000000 in
theorem rmLn (l : Launch) (Z : State) (a0 : Array Value) (hw : ∀ d ∈ tables_1, d.before a0 Z = true) (ws : List Jvm.Cond) (sa : Addr) (sb : Addr) (kb : ClassId) (n : Int32) (xs : List Int32) (cs : Int32) (h0 : Heap) (n0 : Nat) (Z0 : n0 ≤ h0.size) (O0 : Old Z n0 h0) (S_CS : Sta Z Z.heap "java/lang/String" "COMPACT_STRINGS" "Z" (.int cs)) (hcs : ¬ cs = 0) (ES : Exa Z h0 sa "java/lang/String") (FC : Fld Z h0 sa "java/lang/String" "coder" "B" (.int (0 : Int32))) (FV : Fld Z h0 sa "java/lang/String" "value" "[B" (.ref sb)) (VB : Arv Z h0 sb kb .byte n (own_vs xs) (.int (0 : Int32))) :
    MetFree l mN_33 (head1 (Jvm.Cond.code mN_33 jdk_42_method_54_code 1 (some .int) :: ws) rO_2) (fun a U => a = #[(.ref sa)] ∧ Z.Warmed39 U.vm ∧ U.heap = h0) (fun _ _ _ _ _ => True) (fun _ U o U' => ∃ v L, o = .returned v ∧ QLn Z sa sb kb n xs cs h0 n0 v U'.heap L ∧ FrameEnd U o U' L rO_2.cells rO_2.slots) := by
  refine MetFree.of_bodySF (plainFor_of_name pn_4) hisR ?_
  intro p e s m args below meth c s₁ Bd hml0 hP hK
  obtain ⟨rfl, hZ, hh⟩ := hP
  have hx := Bd.exec
  have hby := Bd.bytes
  have hml : c.maxLocals = 1 := hml0
  have hown : s.vm.findClass "java/lang/String" = some m.cls := findClass_of_methodNamed Bd.named
  have hnm := (name_of_methodNamed Bd.named Bd.method).1
  have X0 : Stand p l e rO_2 s m #[(.ref sa)] below meth c s₁ [] 0 0 := Stand.of_body Bd
  have e0 : s₁.heap = h0 := by rw [← hh, Bd.state]; rfl
  have N0 := Fr.nil n0
  have K0 := Keep.refl h0 []
  have go0 : Goes p e below s₁ (entryFrame m #[(.ref sa)] 1) s₁ (mkF m 0 #[vR sa] []) := fun t k => castTop (ef_rmLn m sa) k
  obtain ⟨T1, X1, e1, st1⟩ := getF X0 hx hZ hown (host := "") (Or.inl (own_w hw 170 rfl)) Via.refl e0 FV (g := (mkF m 1 #[vR sa] [(.ref sa)])) rfl rfl (hb hby d26_1)
  obtain ⟨cl2, Ar2, kq2, Sz2, Nn2, Hs2, Gf2⟩ := id (VB)
  obtain ⟨cq3, kq3, q3a, q3b, q3c⟩ := isOf hZ e1 ES
  obtain ⟨_, _, ⟨T3, L3, k3, n3⟩, -, X3, ⟨Lc3, hQ3, l3, y3, z3⟩, st3⟩ := X1.virtualBack hx (y := mN_31) (z := mN_31) hown (mvT hZ (own_w hw 178 rfl)) (mvT hZ (own_w hw 179 rfl)) (notFace_of_selects (args := #[]) (mvT hZ (own_w hw 181 rfl))) (mvT hZ (own_w hw 181 rfl)) (mvT hZ (own_w hw 180 rfl)) (by decide) (backOf (W := 1) (rmSd l Z a0 hw [] sa cs h0 n0 Z0 O0 S_CS hcs FC) hZ (own_w hw 182 rfl) (own_w hw 23 rfl) (by decide) (by decide)) q3a q3c (g := (mkF m 6 #[vR sa] [(.ref sa), (.int n)])) rfl (by rw [hml]; rfl) (Steps.refl _) (argsL := []) (rest := [(.int n)]) (lenOf pd_19 rfl) rfl (by show 2 * 0 + _ ≤ _; exact Nat.le_of_eq rfl) (hb hby d26_6) (fun _ _ => ⟨rfl, e1, (by decide : 0 + 0 ≤ rO_2.cells), (by decide : 0 + 0 ≤ rO_2.slots)⟩)
  dsimp only [Pt.U, Pt.locs, Pt.cells, Pt.slots] at X3 l3 y3 z3 st3 hQ3
  subst l3 y3 z3
  obtain ⟨rfl, N3q, e3⟩ := hQ3
  have N3 := Fr.app N0 N3q
  have go4 : Goes p e below s₁ (entryFrame m #[(.ref sa)] 1) T3 (mkF m 10 #[vR sa] [(.int (n >>> ((0 : Int32) &&& 31)))]) := fun t k => by
    refine go0 t ?_
    refine XS.aloadN X0.here hx rfl (hb hby d26_0) rfl rfl ?_
    refine st1 t ?_
    refine X1.arraylength hx (own_hp e1 Ar2.1) (State.isArrayOf_alike hZ.alike Ar2.2.1) (g := (mkF m 4 #[vR sa] [(.ref sb)])) rfl rfl (hb hby d26_4) _ ?_
    rw [len_of Sz2 Nn2]
    refine XS.aloadN X1.here hx rfl (hb hby d26_5) rfl rfl ?_
    refine st3.trans ?_
    refine XS.ishr X3.here hx rfl (hb hby d26_9) rfl ?_
    exact k
  have go5 : Goes p e below s₁ (entryFrame m #[(.ref sa)] 1) T3 (mkF m 10 #[vR sa] [(.int n)]) := Eq.mp (congrArg (fun zz => Goes p e below s₁ (entryFrame m #[(.ref sa)] 1) T3 (mkF m 10 #[vR sa] [(.int zz)])) (own_sh0 n)) go4
  obtain ⟨fs, hr, hrun, hended, hW, hsame⟩ := X3.leave (v := some (.int n)) (fun h => by rw [Bd.returns] at h; cases h)
  refine ⟨_, _, go5 _ ?_, hrun, hended, _, _, rfl, ?_, ⟨_, rfl⟩, hW, hsame.mono (by decide) (by decide)⟩
  · exact retI X3 hx Bd.returns (hb hby d26_10) hr
  · show QLn Z _ _ _ _ _ _ _ _ _ T3.heap _
    rw [e3]
    exact ⟨rfl, N3, rfl⟩
theorem d43_0 : dc43 0 (.iload_n 1) 1 := by decide +kernel
theorem d43_1 : dc43 1 (.aload_n 0) 1 := by decide +kernel
theorem d43_2 : dc43 2 (.arraylength) 1 := by decide +kernel
theorem d43_3 : dc43 3 (.invokestatic 9) 3 := by decide +kernel
theorem d43_6 : dc43 6 (.aload_n 0) 1 := by decide +kernel
theorem d43_7 : dc43 7 (.iload_n 1) 1 := by decide +kernel
theorem d43_8 : dc43 8 (.baload) 1 := by decide +kernel
theorem d43_9 : dc43 9 (.sipush 255) 3 := by decide +kernel
theorem d43_12 : dc43 12 (.iand) 1 := by decide +kernel
theorem d43_13 : dc43 13 (.i2c) 1 := by decide +kernel
theorem d43_14 : dc43 14 (.ireturn) 1 := by decide +kernel
theorem ef_rmLc (m : MethodId) (sb : Addr) (x : Int32) : entryFrame m #[(.ref sb), (.int x)] 2 = mkF m 0 #[.val (.ref sb), .val (.int x)] [] := by first | (simp [entryFrame, mkF, argsToLocals, Value.category]; done) | rfl
def QLc (Z : State) (sb : Addr) (x : Int32) (kb : ClassId) (n : Int32) (xs : List Int32) (fm : Value) (h0 : Heap) (n0 : Nat) (v : Option Value) (h : Heap) (L : List Loc) : Prop := v = some (.int (xs.getD x.toNatClampNeg 0)) ∧ Fr n0 L ∧ h = h0
set_option maxRecDepth 65536 in
set_option maxHeartbeats 40000000 in
theorem rmLc (l : Launch) (Z : State) (a0 : Array Value) (hw : ∀ d ∈ tables_1, d.before a0 Z = true) (ws : List Jvm.Cond) (sb : Addr) (x : Int32) (kb : ClassId) (n : Int32) (xs : List Int32) (fm : Value) (h0 : Heap) (n0 : Nat) (Z0 : n0 ≤ h0.size) (O0 : Old Z n0 h0) (S_FM : Sta Z Z.heap "jdk/internal/util/Preconditions" "SIOOBE_FORMATTER" "Ljava/util/function/BiFunction;" fm) (hfm : fm.isRef = true) (VB : Arv Z h0 sb kb .byte n (own_vs xs) (.int (0 : Int32))) (hln : own_ln xs n) (hrg : own_rg xs) (hx0 : ¬ x < 0) (hxn : x < n) :
    MetFree l (⟨"java/lang/StringLatin1", "charAt", "([BI)C"⟩ : MethodName) (head1 (Jvm.Cond.code (⟨"java/lang/StringLatin1", "charAt", "([BI)C"⟩ : MethodName) jdk_43_method_2_code 2 (some .char) :: ws) rO_8) (fun a U => a = #[(.ref sb), (.int x)] ∧ Z.Warmed39 U.vm ∧ U.heap = h0) (fun _ _ _ _ _ => True) (fun _ U o U' => ∃ v L, o = .returned v ∧ QLc Z sb x kb n xs fm h0 n0 v U'.heap L ∧ FrameEnd U o U' L rO_8.cells rO_8.slots) := by
  refine MetFree.of_bodySF (plainFor_of_name pn_1) hisR ?_
  intro p e s m args below meth c s₁ Bd hml0 hP hK
  obtain ⟨rfl, hZ, hh⟩ := hP
  have hx := Bd.exec
  have hby := Bd.bytes
  have hml : c.maxLocals = 2 := hml0
  have hown : s.vm.findClass "java/lang/StringLatin1" = some m.cls := findClass_of_methodNamed Bd.named
  have hnm := (name_of_methodNamed Bd.named Bd.method).1
  have X0 : Stand p l e rO_8 s m #[(.ref sb), (.int x)] below meth c s₁ [] 0 0 := Stand.of_body Bd
  have e0 : s₁.heap = h0 := by rw [← hh, Bd.state]; rfl
  have N0 := Fr.nil n0
  have K0 := Keep.refl h0 []
  have go0 : Goes p e below s₁ (entryFrame m #[(.ref sb), (.int x)] 2) s₁ (mkF m 0 #[vR sb, vI x] []) := fun t k => castTop (ef_rmLc m sb x) k
  obtain ⟨cl1, Ar1, kq1, Sz1, Nn1, Hs1, Gf1⟩ := id (VB)
  obtain ⟨_, _, ⟨T2, L2, k2, n2⟩, -, X2, ⟨Lc2, hQ2, l2, y2, z2⟩, st2⟩ := Jvm.LawKit.callS X0 hx (y := mN_20) hown (mvT hZ (own_w hw 265 rfl)) (mvT hZ (own_w hw 266 rfl)) (mvT hZ (own_w hw 23 rfl)) (mvT hZ (own_w hw 267 rfl)) (by decide) (backOf (W := 0) (rmCi l Z a0 hw [] x n fm h0 n0 Z0 O0 S_FM hfm hx0 hxn) hZ (own_w hw 267 rfl) (own_w hw 23 rfl) (by decide) (by decide)) (g := (mkF m 3 #[vR sb, vI x] [(.int n), (.int x)])) rfl (by rw [hml]; rfl) (argsL := [(.int x), (.int n)]) (rest := []) (lenOf pd_7 rfl) rfl (by show 2 * 0 + _ ≤ _; exact Nat.le_of_eq rfl) (hb hby d43_3) (fun _ _ => ⟨rfl, e0, (by decide : 0 + 0 ≤ rO_8.cells), (by decide : 0 + 0 ≤ rO_8.slots)⟩)
  dsimp only [Pt.U, Pt.locs, Pt.cells, Pt.slots] at X2 l2 y2 z2 st2 hQ2
  subst l2 y2 z2
  obtain ⟨rfl, N2q, e2⟩ := hQ2
  have N2 := Fr.app N0 N2q
  obtain ⟨cl3, Ar3, kq3, Sz3, Nn3, Hs3, Gf3⟩ := id (VB)
  have hin3 : ¬ (x < 0 ∨ cl3.slots.size ≤ (x).toNatClampNeg) := inb_of Sz3 ⟨hx0, hxn⟩
  have hat3 : cl3.slots[(x).toNatClampNeg]? = some (.int (nar .byte (xs.getD x.toNatClampNeg 0).toInt8.toInt32)) := Has.at Hs3 hin3 (own_vs_get (hln.idx hx0 hxn) _)
  have go4 : Goes p e below s₁ (entryFrame m #[(.ref sb), (.int x)] 2) T2 (mkF m 14 #[vR sb, vI x] [(.int (((nar .byte (xs.getD x.toNatClampNeg 0).toInt8.toInt32) &&& (255 : Int32)).toUInt32.toUInt16.toUInt32.toInt32))]) := fun t k => by
    refine go0 t ?_
    refine XS.iloadN X0.here hx rfl (hb hby d43_0) rfl ?_
    refine XS.aloadN X0.here hx rfl (hb hby d43_1) rfl rfl ?_
    refine X0.arraylength hx (own_hp e0 Ar1.1) (State.isArrayOf_alike hZ.alike Ar1.2.1) (g := (mkF m 2 #[vR sb, vI x] [(.ref sb), (.int x)])) rfl rfl (hb hby d43_2) _ ?_
    rw [len_of Sz1 Nn1]
    refine st2 t ?_
    refine XS.aloadN X2.here hx rfl (hb hby d43_6) rfl rfl ?_
    refine XS.iloadN X2.here hx rfl (hb hby d43_7) rfl ?_
    show Steps p.tables e below (T2.setTop (mkF m 8 #[vR sb, vI x] [(.int x), (.ref sb)])) _
    refine X2.baloadBytes hx (j := x) (v := (.int (nar .byte (xs.getD x.toNatClampNeg 0).toInt8.toInt32))) (own_hp e2 Ar3.1) (State.isArrayOf_alike hZ.alike Ar3.2.1) Ar3.2.2 hin3 hat3 (g := (mkF m 8 #[vR sb, vI x] [(.int x), (.ref sb)])) rfl rfl (hb hby d43_8) _ ?_
    refine XS.sipush X2.here hx rfl (hb hby d43_9) ?_
    refine XS.iand X2.here hx rfl (hb hby d43_12) rfl ?_
    refine XS.i2c X2.here hx rfl (hb hby d43_13) rfl ?_
    exact k
  have go5 : Goes p e below s₁ (entryFrame m #[(.ref sb), (.int x)] 2) T2 (mkF m 14 #[vR sb, vI x] [(.int (xs.getD x.toNatClampNeg 0))]) := Eq.mp (congrArg (fun zz => Goes p e below s₁ (entryFrame m #[(.ref sb), (.int x)] 2) T2 (mkF m 14 #[vR sb, vI x] [(.int zz)])) (own_rt hrg.at)) go4
  obtain ⟨fs, hr, hrun, hended, hW, hsame⟩ := X2.leave (v := some (.int (nar .char (xs.getD x.toNatClampNeg 0)))) (fun h => by rw [Bd.returns] at h; cases h)
  refine ⟨_, _, go5 _ ?_, hrun, hended, _, _, rfl, ?_, ⟨_, rfl⟩, hW, hsame.mono (by decide) (by decide)⟩
  · exact retN X2 hx (t := .char) Bd.returns (by simp) (hb hby d43_14) hr
  · show QLc Z _ _ _ _ _ _ _ _ _ T2.heap _
    rw [e2]
    exact ⟨congrArg (fun z => some (Value.int z)) (own_nc hrg.at), N2, rfl⟩
theorem pd_20 : parseMethodDescriptor "([BI)C" = some ⟨[(.array .byte), .int], some .char⟩ := by decide +kernel
theorem d41_0 : dc41 0 (.aload_n 0) 1 := by decide +kernel
theorem d41_1 : dc41 1 (.invokevirtual 492) 3 := by decide +kernel
theorem d41_4 : dc41 4 (.ifCond .eq 12) 3 := by decide +kernel
theorem d41_7 : dc41 7 (.aload_n 0) 1 := by decide +kernel
theorem d41_8 : dc41 8 (.getfield 9) 3 := by decide +kernel
theorem d41_11 : dc41 11 (.iload_n 1) 1 := by decide +kernel
theorem d41_12 : dc41 12 (.invokestatic 495) 3 := by decide +kernel
theorem d41_15 : dc41 15 (.ireturn) 1 := by decide +kernel
theorem ef_rmSa (m : MethodId) (sa : Addr) (x : Int32) : entryFrame m #[(.ref sa), (.int x)] 2 = mkF m 0 #[.val (.ref sa), .val (.int x)] [] := by first | (simp [entryFrame, mkF, argsToLocals, Value.category]; done) | rfl
def QSa (Z : State) (sa : Addr) (x : Int32) (sb : Addr) (kb : ClassId) (n : Int32) (xs : List Int32) (cs : Int32) (fm : Value) (h0 : Heap) (n0 : Nat) (v : Option Value) (h : Heap) (L : List Loc) : Prop := v = some (.int (xs.getD x.toNatClampNeg 0)) ∧ Fr n0 L ∧ h = h0
set_option maxRecDepth 65536 in
set_option maxHeartbeats 40000000 in
theorem rmSa (l : Launch) (Z : State) (a0 : Array Value) (hw : ∀ d ∈ tables_1, d.before a0 Z = true) (ws : List Jvm.Cond) (sa : Addr) (x : Int32) (sb : Addr) (kb : ClassId) (n : Int32) (xs : List Int32) (cs : Int32) (fm : Value) (h0 : Heap) (n0 : Nat) (Z0 : n0 ≤ h0.size) (O0 : Old Z n0 h0) (S_CS : Sta Z Z.heap "java/lang/String" "COMPACT_STRINGS" "Z" (.int cs)) (hcs : ¬ cs = 0) (S_FM : Sta Z Z.heap "jdk/internal/util/Preconditions" "SIOOBE_FORMATTER" "Ljava/util/function/BiFunction;" fm) (hfm : fm.isRef = true) (ES : Exa Z h0 sa "java/lang/String") (FC : Fld Z h0 sa "java/lang/String" "coder" "B" (.int (0 : Int32))) (FV : Fld Z h0 sa "java/lang/String" "value" "[B" (.ref sb)) (VB : Arv Z h0 sb kb .byte n (own_vs xs) (.int (0 : Int32))) (hln : own_ln xs n) (hrg : own_rg xs) (hx0 : ¬ x < 0) (hxn : x < n) :
    MetFree l mN_34 (head1 (Jvm.Cond.code mN_34 jdk_42_method_56_code 2 (some .char) :: ws) rO_13) (fun a U => a = #[(.ref sa), (.int x)] ∧ Z.Warmed39 U.vm ∧ U.heap = h0) (fun _ _ _ _ _ => True) (fun _ U o U' => ∃ v L, o = .returned v ∧ QSa Z sa x sb kb n xs cs fm h0 n0 v U'.heap L ∧ FrameEnd U o U' L rO_13.cells rO_13.slots) := by
  refine MetFree.of_bodySF (plainFor_of_name pn_4) hisR ?_
  intro p e s m args below meth c s₁ Bd hml0 hP hK
  obtain ⟨rfl, hZ, hh⟩ := hP
  have hx := Bd.exec
  have hby := Bd.bytes
  have hml : c.maxLocals = 2 := hml0
  have hown : s.vm.findClass "java/lang/String" = some m.cls := findClass_of_methodNamed Bd.named
  have hnm := (name_of_methodNamed Bd.named Bd.method).1
  have X0 : Stand p l e rO_13 s m #[(.ref sa), (.int x)] below meth c s₁ [] 0 0 := Stand.of_body Bd
  have e0 : s₁.heap = h0 := by rw [← hh, Bd.state]; rfl
  have N0 := Fr.nil n0
  have K0 := Keep.refl h0 []
  have go0 : Goes p e below s₁ (entryFrame m #[(.ref sa), (.int x)] 2) s₁ (mkF m 0 #[vR sa, vI x] []) := fun t k => castTop (ef_rmSa m sa x) k
  obtain ⟨cq1, kq1, q1a, q1b, q1c⟩ := isOf hZ e0 ES
  obtain ⟨_, _, ⟨T1, L1, k1, n1⟩, -, X1, ⟨Lc1, hQ1, l1, y1, z1⟩, st1⟩ := X0.virtualBack hx (y := mN_32) (z := mN_32) hown (mvT hZ (own_w hw 257 rfl)) (mvT hZ (own_w hw 258 rfl)) (notFace_of_selects (args := #[]) (mvT hZ (own_w hw 260 rfl))) (mvT hZ (own_w hw 260 rfl)) (mvT hZ (own_w hw 259 rfl)) (by decide) (backOf (W := 0) (rmSi l Z a0 hw [] sa cs h0 n0 Z0 O0 S_CS hcs FC) hZ (own_w hw 261 rfl) (own_w hw 23 rfl) (by decide) (by decide)) q1a q1c (g := (mkF m 1 #[vR sa, vI x] [(.ref sa)])) rfl (by rw [hml]; rfl) (Steps.refl _) (argsL := []) (rest := []) (lenOf pd_1 rfl) rfl (by show 2 * 0 + _ ≤ _; exact Nat.le_of_eq rfl) (hb hby d41_1) (fun _ _ => ⟨rfl, e0, (by decide : 0 + 0 ≤ rO_13.cells), (by decide : 0 + 0 ≤ rO_13.slots)⟩)
  dsimp only [Pt.U, Pt.locs, Pt.cells, Pt.slots] at X1 l1 y1 z1 st1 hQ1
  subst l1 y1 z1
  obtain ⟨rfl, N1q, e1⟩ := hQ1
  have N1 := Fr.app N0 N1q
  obtain ⟨T2, X2, e2, st2⟩ := getF X1 hx hZ hown (host := "") (Or.inl (own_w hw 170 rfl)) Via.refl e1 FV (g := (mkF m 8 #[vR sa, vI x] [(.ref sa)])) rfl rfl (hb hby d41_8)
  obtain ⟨_, _, ⟨T3, L3, k3, n3⟩, -, X3, ⟨Lc3, hQ3, l3, y3, z3⟩, st3⟩ := Jvm.LawKit.callS X2 hx (y := (⟨"java/lang/StringLatin1", "charAt", "([BI)C"⟩ : MethodName)) hown (mvT hZ (own_w hw 262 rfl)) (mvT hZ (own_w hw 263 rfl)) (mvT hZ (own_w hw 213 rfl)) (mvT hZ (own_w hw 264 rfl)) (by decide) (backOf (W := 0) (rmLc l Z a0 hw [] sb x kb n xs fm h0 n0 Z0 O0 S_FM hfm VB hln hrg hx0 hxn) hZ (own_w hw 264 rfl) (own_w hw 213 rfl) (by decide) (by decide)) (g := (mkF m 12 #[vR sa, vI x] [(.int x), (.ref sb)])) rfl (by rw [hml]; rfl) (argsL := [(.ref sb), (.int x)]) (rest := []) (lenOf pd_20 rfl) rfl (by show 2 * 0 + _ ≤ _; exact Nat.le_of_eq rfl) (hb hby d41_12) (fun _ _ => ⟨rfl, e2, (by decide : 0 + 0 ≤ rO_13.cells), (by decide : 0 + 0 ≤ rO_13.slots)⟩)
  dsimp only [Pt.U, Pt.locs, Pt.cells, Pt.slots] at X3 l3 y3 z3 st3 hQ3
  subst l3 y3 z3
  obtain ⟨rfl, N3q, e3⟩ := hQ3
  have N3 := Fr.app N1 N3q
  have go4 : Goes p e below s₁ (entryFrame m #[(.ref sa), (.int x)] 2) T3 (mkF m 15 #[vR sa, vI x] [(.int (xs.getD x.toNatClampNeg 0))]) := fun t k => by
    refine go0 t ?_
    refine XS.aloadN X0.here hx rfl (hb hby d41_0) rfl rfl ?_
    refine st1.trans ?_
    refine XS.ifNo X1.here hx rfl (hb hby d41_4) rfl (Jvm.Free.XT.i0_eq_f (by decide)) ?_
    refine XS.aloadN X1.here hx rfl (hb hby d41_7) rfl rfl ?_
    refine st2 t ?_
    refine XS.iloadN X2.here hx rfl (hb hby d41_11) rfl ?_
    show Steps p.tables e below (T2.setTop (mkF m 12 #[vR sa, vI x] [(.int x), (.ref sb)])) _
    refine st3 t ?_
    exact k
  obtain ⟨fs, hr, hrun, hended, hW, hsame⟩ := X3.leave (v := some (.int (nar .char (xs.getD x.toNatClampNeg 0)))) (fun h => by rw [Bd.returns] at h; cases h)
  refine ⟨_, _, go4 _ ?_, hrun, hended, _, _, rfl, ?_, ⟨_, rfl⟩, hW, hsame.mono (by decide) (by decide)⟩
  · exact retN X3 hx (t := .char) Bd.returns (by simp) (hb hby d41_15) hr
  · show QSa Z _ _ _ _ _ _ _ _ _ _ _ T3.heap _
    rw [e3]
    exact ⟨congrArg (fun z => some (Value.int z)) (own_nc hrg.at), N3, rfl⟩
theorem d28_0 : dc28 0 (.iload_n 3) 1 := by decide +kernel
theorem d28_1 : dc28 1 (.iload_n 2) 1 := by decide +kernel
theorem d28_2 : dc28 2 (.if_icmp .ge 14) 3 := by decide +kernel
theorem d28_5 : dc28 5 (.aload_n 0) 1 := by decide +kernel
theorem d28_6 : dc28 6 (.iload_n 3) 1 := by decide +kernel
theorem d28_7 : dc28 7 (.invokevirtual 44) 3 := by decide +kernel
theorem d28_10 : dc28 10 (.aload_n 1) 1 := by decide +kernel
theorem d28_11 : dc28 11 (.iload_n 3) 1 := by decide +kernel
theorem d28_12 : dc28 12 (.caload) 1 := by decide +kernel
theorem d28_13 : dc28 13 (.if_icmp .ne 7) 3 := by decide +kernel
theorem d28_16 : dc28 16 (.iconst 1) 1 := by decide +kernel
theorem d28_17 : dc28 17 (.goto 4) 3 := by decide +kernel
theorem d28_21 : dc28 21 (.ireturn) 1 := by decide +kernel
theorem pn_8 : plainName "com/example/whereas/whereas/model/HtmlLayoutStartCellPinLaw" = true := by first | (simp [plainName, overriddenIn]; done) | decide +kernel
theorem ef_rmAt (m : MethodId) (sa : Addr) (aE : Addr) (n : Int32) (x : Int32) : entryFrame m #[(.ref sa), (.ref aE), (.int n), (.int x)] 4 = mkF m 0 #[.val (.ref sa), .val (.ref aE), .val (.int n), .val (.int x)] [] := by first | (simp [entryFrame, mkF, argsToLocals, Value.category]; done) | rfl
def QAt (Z : State) (sa : Addr) (aE : Addr) (n : Int32) (x : Int32) (sb : Addr) (kb kE : ClassId) (xs : List Int32) (cs : Int32) (fm : Value) (h0 : Heap) (n0 : Nat) (v : Option Value) (h : Heap) (L : List Loc) : Prop := v = some (.int 1) ∧ Fr n0 L ∧ h = h0
set_option maxRecDepth 65536 in
set_option maxHeartbeats 40000000 in
theorem rmAt (l : Launch) (Z : State) (a0 : Array Value) (hw : ∀ d ∈ tables_1, d.before a0 Z = true) (ws : List Jvm.Cond) (sa : Addr) (aE : Addr) (n : Int32) (x : Int32) (sb : Addr) (kb kE : ClassId) (xs : List Int32) (cs : Int32) (fm : Value) (h0 : Heap) (n0 : Nat) (Z0 : n0 ≤ h0.size) (O0 : Old Z n0 h0) (S_CS : Sta Z Z.heap "java/lang/String" "COMPACT_STRINGS" "Z" (.int cs)) (hcs : ¬ cs = 0) (S_FM : Sta Z Z.heap "jdk/internal/util/Preconditions" "SIOOBE_FORMATTER" "Ljava/util/function/BiFunction;" fm) (hfm : fm.isRef = true) (ES : Exa Z h0 sa "java/lang/String") (FC : Fld Z h0 sa "java/lang/String" "coder" "B" (.int (0 : Int32))) (FV : Fld Z h0 sa "java/lang/String" "value" "[B" (.ref sb)) (VB : Arv Z h0 sb kb .byte n (own_vs xs) (.int (0 : Int32))) (VE : Arv Z h0 aE kE .char 6 (xs.map Value.int) (.int (0 : Int32))) (hln : own_ln xs n) (hrg : own_rg xs) (hx0 : ¬ x < 0) (hx6 : x < 6) :
    MetFree l mN_11 (head1 (Jvm.Cond.code mN_11 method_3_code 4 (some .boolean) :: ws) rO_20) (fun a U => a = #[(.ref sa), (.ref aE), (.int n), (.int x)] ∧ Z.Warmed39 U.vm ∧ U.heap = h0) (fun _ _ _ _ _ => True) (fun _ U o U' => ∃ v L, o = .returned v ∧ QAt Z sa aE n x sb kb kE xs cs fm h0 n0 v U'.heap L ∧ FrameEnd U o U' L rO_20.cells rO_20.slots) := by
  refine MetFree.of_bodySF (plainFor_of_name pn_8) hisR ?_
  intro p e s m args below meth c s₁ Bd hml0 hP hK
  obtain ⟨rfl, hZ, hh⟩ := hP
  have hx := Bd.exec
  have hby := Bd.bytes
  have hml : c.maxLocals = 4 := hml0
  have hown : s.vm.findClass "com/example/whereas/whereas/model/HtmlLayoutStartCellPinLaw" = some m.cls := findClass_of_methodNamed Bd.named
  have hnm := (name_of_methodNamed Bd.named Bd.method).1
  have X0 : Stand p l e rO_20 s m #[(.ref sa), (.ref aE), (.int n), (.int x)] below meth c s₁ [] 0 0 := Stand.of_body Bd
  have e0 : s₁.heap = h0 := by rw [← hh, Bd.state]; rfl
  have N0 := Fr.nil n0
  have K0 := Keep.refl h0 []
  have go0 : Goes p e below s₁ (entryFrame m #[(.ref sa), (.ref aE), (.int n), (.int x)] 4) s₁ (mkF m 0 #[vR sa, vR aE, vI n, vI x] []) := fun t k => castTop (ef_rmAt m sa aE n x) k
  have go1 : Goes p e below s₁ (entryFrame m #[(.ref sa), (.ref aE), (.int n), (.int x)] 4) s₁ (mkF m 2 #[vR sa, vR aE, vI n, vI x] [(.int n), (.int x)]) := fun t k => by
    refine go0 t ?_
    refine XS.iloadN X0.here hx rfl (hb hby d28_0) rfl ?_
    refine XS.iloadN X0.here hx rfl (hb hby d28_1) rfl ?_
    exact k
  by_cases hc2 : x < n
  · obtain ⟨cq3, kq3, q3a, q3b, q3c⟩ := isOf hZ e0 ES
    obtain ⟨_, _, ⟨T3, L3, k3, n3⟩, -, X3, ⟨Lc3, hQ3, l3, y3, z3⟩, st3⟩ := X0.virtualBack hx (y := mN_34) (z := mN_34) hown (mvT hZ (own_w hw 252 rfl)) (mvT hZ (own_w hw 253 rfl)) (notFace_of_selects (args := #[]) (mvT hZ (own_w hw 255 rfl))) (mvT hZ (own_w hw 255 rfl)) (mvT hZ (own_w hw 254 rfl)) (by decide) (backOf (W := 0) (rmSa l Z a0 hw [] sa x sb kb n xs cs fm h0 n0 Z0 O0 S_CS hcs S_FM hfm ES FC FV VB hln hrg hx0 hc2) hZ (own_w hw 256 rfl) (own_w hw 23 rfl) (by decide) (by decide)) q3a q3c (g := (mkF m 7 #[vR sa, vR aE, vI n, vI x] [(.int x), (.ref sa)])) rfl (by rw [hml]; rfl) (Steps.refl _) (argsL := [(.int x)]) (rest := []) (lenOf pd_8 rfl) rfl (by show 2 * 0 + _ ≤ _; exact Nat.le_of_eq rfl) (hb hby d28_7) (fun _ _ => ⟨rfl, e0, (by decide : 0 + 0 ≤ rO_20.cells), (by decide : 0 + 0 ≤ rO_20.slots)⟩)
    dsimp only [Pt.U, Pt.locs, Pt.cells, Pt.slots] at X3 l3 y3 z3 st3 hQ3
    subst l3 y3 z3
    obtain ⟨rfl, N3q, e3⟩ := hQ3
    have N3 := Fr.app N0 N3q
    obtain ⟨cl4, Ar4, kq4, Sz4, Nn4, Hs4, Gf4⟩ := id (VE)
    have hin4 : ¬ (x < 0 ∨ cl4.slots.size ≤ (x).toNatClampNeg) := inb_of Sz4 ⟨hx0, hx6⟩
    have hat4 : cl4.slots[(x).toNatClampNeg]? = some (.int (xs.getD x.toNatClampNeg 0)) := Has.at Hs4 hin4 own_mp_get
    have go5 : Goes p e below s₁ (entryFrame m #[(.ref sa), (.ref aE), (.int n), (.int x)] 4) T3 (mkF m 21 #[vR sa, vR aE, vI n, vI x] [(.int (1 : Int32))]) := fun t k => by
      refine go1 t ?_
      refine XS.icmpNo X0.here hx rfl (hb hby d28_2) rfl (Jvm.Free.XT.ii_ge_f hc2) ?_
      refine XS.aloadN X0.here hx rfl (hb hby d28_5) rfl rfl ?_
      refine XS.iloadN X0.here hx rfl (hb hby d28_6) rfl ?_
      refine st3.trans ?_
      refine XS.aloadN X3.here hx rfl (hb hby d28_10) rfl rfl ?_
      refine XS.iloadN X3.here hx rfl (hb hby d28_11) rfl ?_
      show Steps p.tables e below (T3.setTop (mkF m 12 #[vR sa, vR aE, vI n, vI x] [(.int x), (.ref aE), (.int (xs.getD x.toNatClampNeg 0))])) _
      refine X3.caload hx (j := x) (v := (.int (xs.getD x.toNatClampNeg 0))) (own_hp e3 Ar4.1) (State.isArrayOf_alike hZ.alike Ar4.2.1) Ar4.2.2 hin4 hat4 (g := (mkF m 12 #[vR sa, vR aE, vI n, vI x] [(.int x), (.ref aE), (.int (xs.getD x.toNatClampNeg 0))])) rfl rfl (hb hby d28_12) _ ?_
      refine XS.icmpNo X3.here hx rfl (hb hby d28_13) rfl (Jvm.Free.XT.ii_ne_f rfl) ?_
      refine XS.iconst X3.here hx rfl (hb hby d28_16) ?_
      refine XS.goto X3.here hx rfl (pc0 := 17) (pc' := 21) rfl (hb hby d28_17) (by decide) (by decide) ?_
      exact k
    obtain ⟨fs, hr, hrun, hended, hW, hsame⟩ := X3.leave (v := some (.int (1 : Int32))) (fun h => by rw [Bd.returns] at h; cases h)
    refine ⟨_, _, go5 _ ?_, hrun, hended, _, _, rfl, ?_, ⟨_, rfl⟩, hW, hsame.mono (by decide) (by decide)⟩
    · exact retN X3 hx (t := .boolean) Bd.returns (by simp) (hb hby d28_21) hr
    · show QAt Z _ _ _ _ _ _ _ _ _ _ _ _ _ T3.heap _
      rw [e3]
      exact ⟨rfl, N3, rfl⟩
  · have go6 : Goes p e below s₁ (entryFrame m #[(.ref sa), (.ref aE), (.int n), (.int x)] 4) s₁ (mkF m 21 #[vR sa, vR aE, vI n, vI x] [(.int (1 : Int32))]) := fun t k => by
      refine go1 t ?_
      refine XS.icmpYes X0.here hx rfl (pc0 := 2) (pc' := 16) rfl (hb hby d28_2) rfl (Jvm.Free.XT.ii_ge_t hc2) (by decide) (by decide) ?_
      refine XS.iconst X0.here hx rfl (hb hby d28_16) ?_
      refine XS.goto X0.here hx rfl (pc0 := 17) (pc' := 21) rfl (hb hby d28_17) (by decide) (by decide) ?_
      exact k
    obtain ⟨fs, hr, hrun, hended, hW, hsame⟩ := X0.leave (v := some (.int (1 : Int32))) (fun h => by rw [Bd.returns] at h; cases h)
    refine ⟨_, _, go6 _ ?_, hrun, hended, _, _, rfl, ?_, ⟨_, rfl⟩, hW, hsame.mono (by decide) (by decide)⟩
    · exact retN X0 hx (t := .boolean) Bd.returns (by simp) (hb hby d28_21) hr
    · show QAt Z _ _ _ _ _ _ _ _ _ _ _ _ _ s₁.heap _
      rw [e0]
      exact ⟨rfl, N0, rfl⟩
theorem own_fm {args : Array Value} {s : State} (h0 : (Jvm.Cond.initializedFor "jdk/internal/util/Preconditions" "SIOOBE_FORMATTER" "Ljava/util/function/BiFunction;").before args s = true) (h1 : (Jvm.Cond.isRef (Term.static "jdk/internal/util/Preconditions" "SIOOBE_FORMATTER" "Ljava/util/function/BiFunction;")).before args s = true) : ∃ fm : Value, Sta s s.heap "jdk/internal/util/Preconditions" "SIOOBE_FORMATTER" "Ljava/util/function/BiFunction;" fm ∧ fm.isRef = true := by
  obtain ⟨fm, e, hr⟩ := isR_v (Cond.before_iff.mp h1)
  exact ⟨fm, Sta.start e (Or.inl h0), hr⟩
theorem own_chr (c : Int32) : ¬ ((c &&& (255 : Int32)).toUInt32.toUInt16.toUInt32.toInt32) < 0 ∧ ¬ (255 : Int32) < ((c &&& (255 : Int32)).toUInt32.toUInt16.toUInt32.toInt32) := by
  have e : (c &&& (255 : Int32)).toInt = c.toInt % 2 ^ 8 := Jvm.Kit.i32_mask c 255 (k := 8) (by decide) (by decide)
  obtain ⟨b, hb1, hb2⟩ : ∃ b : Nat, b < 256 ∧ (c &&& (255 : Int32)).toInt = (b : Int) := ⟨((c &&& (255 : Int32)).toInt).toNat, by omega, by omega⟩
  have hc : (c &&& (255 : Int32)) = Int32.ofInt (b : Int) := by rw [← hb2, Int32.ofInt_toInt]
  rw [hc]
  have key : ∀ b : Fin 256, ¬ ((Int32.ofInt (b.val : Int)).toUInt32.toUInt16.toUInt32.toInt32) < 0 ∧ ¬ (255 : Int32) < ((Int32.ofInt (b.val : Int)).toUInt32.toUInt16.toUInt32.toInt32) := by decide +kernel
  exact key ⟨b, hb1⟩
theorem own_nb {k : Int32} (h : k = 0 ∨ k = 1) : nar .boolean k = k := by rcases h with rfl | rfl <;> rfl
def own_cq (c s : Int32) : Int32 := if c = 0 then s else 32
theorem own_cq_r {c s : Int32} (h : ¬ s < 0 ∧ ¬ (255 : Int32) < s) : ¬ own_cq c s < 0 ∧ ¬ (255 : Int32) < own_cq c s := by
  unfold own_cq; split
  · exact h
  · exact ⟨by decide, by decide⟩
def own_end (r t : Int32) (tx : List Int32) : List Int32 := if r = 0 then tx else if t = 0 then tx else if t = 1 then tx ++ [9] else (tx ++ [9]) ++ [9]
def own_kp (sp k c s : Int32) : List Int32 := if sp = 0 ∨ k = 0 then [] else [own_cq c s]
def own_ow (f t : Int32) : Int32 := (if f = 0 then 1 else 0) + (if t = 0 then 0 else 1)
def own_tabs (f g ow : Int32) (ys : List Int32) : List Int32 := if f = 0 ∧ g = 0 then ys else if ow < 2 then (if ow < 1 then ys else ys ++ [9]) else (if ow < 1 then ys else ys ++ [9]) ++ [9]
def own_b (x : Int32) : Prop := x = 0 ∨ x = 1
theorem own_all {f1 fp fk fc f2 ft a b s : Int32} (h1 : f1 = 0 ∨ f1 = 1) (h2 : fp = 0 ∨ fp = 1) (h3 : fk = 0 ∨ fk = 1) (h4 : fc = 0 ∨ fc = 1) (h5 : f2 = 0 ∨ f2 = 1) (h6 : ft = 0 ∨ ft = 1) : own_end (if f2 = 0 then f1 else 1) (if ft = 0 then (if f2 = 0 then 1 else 0) else (if f2 = 0 then 1 else 0) + 1) (if f2 = 0 then (if f1 = 0 then [] else [a]) else own_lay (if f1 = 0 then [] else [a]) 1 fp fk (own_cq fc s) ++ [b]) = own_tabs f1 f2 (own_ow f2 ft) (if f2 = 0 then (if f1 = 0 then [] else [a]) else (((if f1 = 0 then [] else [a]) ++ [9]) ++ own_kp fp fk fc s) ++ [b]) := by
  rcases h1 with rfl | rfl <;> rcases h2 with rfl | rfl <;> rcases h3 with rfl | rfl <;> rcases h4 with rfl | rfl <;> rcases h5 with rfl | rfl <;> rcases h6 with rfl | rfl <;> rfl
theorem own_tabs_len {f g t : Int32} {ys : List Int32} (hg : g = 0 ∨ g = 1) (ht : t = 0 ∨ t = 1) (h : ys.length ≤ (if g = 0 then 1 else 4)) : (own_tabs f g (own_ow g t) ys).length ≤ 5 := by
  have k1 : ys.length ≤ 4 := Nat.le_trans h (by split <;> decide)
  have k2 : g = 0 → ys.length ≤ 1 := fun q => by rw [if_pos q] at h; exact h
  have k3 : g = 1 → own_ow g t < 2 := fun q => by subst q; rcases ht with rfl | rfl <;> decide
  unfold own_tabs
  rcases hg with hg | hg
  · have := k2 hg; split; omega; split <;> split <;> simp <;> omega
  · have := k3 hg; split; omega; first | (rw [if_pos this]; split <;> simp <;> omega) | (split <;> simp <;> omega)
theorem own_l4 {f g sp k c s a b : Int32} : (if f = 0 then (if g = 0 then [] else [a]) else (((if g = 0 then [] else [a]) ++ [9]) ++ own_kp sp k c s) ++ [b] : List Int32).length ≤ (if f = 0 then 1 else 4) := by
  unfold own_kp; split <;> split <;> simp <;> split <;> simp
theorem own_ln_inj {xs : List Int32} {n k : Int32} (h : own_ln xs n) (h' : own_ln xs k) : n = k := Int32.toInt_inj.mp (h.1.trans h'.1.symm)
theorem own_ln.lt6 {xs : List Int32} {n : Int32} (h : own_ln xs n) (q : xs.length < 6) : n < 6 := by
  rw [Int32.lt_iff_toInt_lt, h.1, show (6 : Int32).toInt = 6 from rfl]; omega
theorem own_cap {xs : List Int32} {c : Int32} (hc : ¬ c < 0 ∧ ¬ (255 : Int32) < c) : ((xs.map Value.int) ++ [Value.int (0 : Int32)]).set (xs.map Value.int).length (Value.int (nar .char c)) = (xs ++ [c]).map Value.int := by
  rw [own_nc hc, own_setlast]; simp
theorem own_cap0 {c : Int32} (hc : ¬ c < 0 ∧ ¬ (255 : Int32) < c) : ((List.map Value.int []) ++ [Value.int (0 : Int32)]).set (List.map Value.int []).length (Value.int (nar .char c)) = [c].map Value.int := own_cap (xs := []) hc
theorem own_hc {r t : Int32} (hr : r = 0 ∨ r = 1) (ht : t = 0 ∨ t = 1 ∨ t = 2) : r = 0 ∨ (r = 1 ∧ t = 0) ∨ (r = 1 ∧ t = 1) ∨ (r = 1 ∧ t = 2) := by
  rcases hr with hr | hr
  · exact Or.inl hr
  · rcases ht with ht | ht | ht
    · exact Or.inr (Or.inl ⟨hr, ht⟩)
    · exact Or.inr (Or.inr (Or.inl ⟨hr, ht⟩))
    · exact Or.inr (Or.inr (Or.inr ⟨hr, ht⟩))
theorem own_end_len {r t : Int32} {tx : List Int32} : (own_end r t tx).length ≤ tx.length + 2 := by
  unfold own_end; split; omega; split; omega; split <;> simp
theorem pd_21 : parseMethodDescriptor "(CII)V" = some ⟨[.char, .int, .int], none⟩ := by decide +kernel
theorem pd_22 : parseMethodDescriptor "(CIIZZ)V" = some ⟨[.char, .int, .int, .boolean, .boolean], none⟩ := by decide +kernel
theorem pd_23 : parseMethodDescriptor "(I)Ljava/lang/String;" = some ⟨[.int], some (.object "java/lang/String")⟩ := by decide +kernel
theorem pd_24 : parseMethodDescriptor "(Ljava/lang/String;[CII)Z" = some ⟨[(.object "java/lang/String"), (.array .char), .int, .int], some .boolean⟩ := by decide +kernel
theorem ef_rm0 (m : MethodId) (fl : Int32) (ca : Int32) (cb : Int32) (cc : Int32) : entryFrame m #[(.int fl), (.int ca), (.int cb), (.int cc)] maxLocals = mkF m 0 #[.val (.int fl), .val (.int ca), .val (.int cb), .val (.int cc), .unset, .unset, .unset, .unset, .unset, .unset, .unset, .unset, .unset, .unset, .unset, .unset, .unset, .unset] [] := by first | (simp [entryFrame, mkF, argsToLocals, Value.category, maxLocals]; done) | rfl
def Q0 (Z : State) (fl : Int32) (ca : Int32) (cb : Int32) (cc : Int32) (cs : Int32) (fm : Value) (h0 : Heap) (n0 : Nat) (v : Option Value) (h : Heap) (L : List Loc) : Prop := v = some (.int 1) ∧ Fr n0 L
set_option maxRecDepth 65536 in
set_option maxHeartbeats 40000000 in
theorem rm0 (l : Launch) (Z : State) (a0 : Array Value) (hw : ∀ d ∈ tables_1, d.before a0 Z = true) (ws : List Jvm.Cond) (fl : Int32) (ca : Int32) (cb : Int32) (cc : Int32) (cs : Int32) (fm : Value) (h0 : Heap) (n0 : Nat) (Z0 : n0 ≤ h0.size) (O0 : Old Z n0 h0) (S_CS : Sta Z Z.heap "java/lang/String" "COMPACT_STRINGS" "Z" (.int cs)) (hcs : ¬ cs = 0) (S_FM : Sta Z Z.heap "jdk/internal/util/Preconditions" "SIOOBE_FORMATTER" "Ljava/util/function/BiFunction;" fm) (hfm : fm.isRef = true) :
    MetFree l x (head1 (Jvm.Cond.code x code maxLocals ret :: ws) room_1) (fun a U => a = #[(.int fl), (.int ca), (.int cb), (.int cc)] ∧ Z.Warmed39 U.vm ∧ U.heap = h0) (fun _ _ _ _ _ => True) (fun _ U o U' => ∃ v L, o = .returned v ∧ Q0 Z fl ca cb cc cs fm h0 n0 v U'.heap L ∧ FrameEnd U o U' L room_1.cells room_1.slots) := by
  refine MetFree.of_bodySF (plainFor_of_name pn_8) hisR ?_
  intro p e s m args below meth c s₁ Bd hml0 hP hK
  obtain ⟨rfl, hZ, hh⟩ := hP
  have hx := Bd.exec
  have hby := Bd.bytes
  have hml : c.maxLocals = 18 := hml0
  have hown : s.vm.findClass "com/example/whereas/whereas/model/HtmlLayoutStartCellPinLaw" = some m.cls := findClass_of_methodNamed Bd.named
  have hnm := (name_of_methodNamed Bd.named Bd.method).1
  have X0 : Stand p l e room_1 s m #[(.int fl), (.int ca), (.int cb), (.int cc)] below meth c s₁ [] 0 0 := Stand.of_body Bd
  have e0 : s₁.heap = h0 := by rw [← hh, Bd.state]; rfl
  have N0 := Fr.nil n0
  have K0 := Keep.refl h0 []
  have go0 : Goes p e below s₁ (entryFrame m #[(.int fl), (.int ca), (.int cb), (.int cc)] maxLocals) s₁ (mkF m 0 #[vI fl, vI ca, vI cb, vI cc, .unset, .unset, .unset, .unset, .unset, .unset, .unset, .unset, .unset, .unset, .unset, .unset, .unset, .unset] []) := fun t k => castTop (ef_rm0 m fl ca cb cc) k
  obtain ⟨T1, fl1, X1, e1, hj1, go1j⟩ : ∃ (T' : State) (fl1 : Int32), Stand p l e room_1 s m #[(.int fl), (.int ca), (.int cb), (.int cc)] below meth c T' [] 0 0 ∧ T'.heap = h0 ∧ (fl1 = 0 ∨ fl1 = 1) ∧ Goes p e below s₁ (entryFrame m #[(.int fl), (.int ca), (.int cb), (.int cc)] maxLocals) T' (mkF m 11 #[vI fl, vI ca, vI cb, vI cc, .unset, .unset, .unset, .unset, .unset, .unset, .unset, .unset, .unset, .unset, .unset, .unset, .unset, .unset] [(.int fl1)]) := by
    have go2 : Goes p e below s₁ (entryFrame m #[(.int fl), (.int ca), (.int cb), (.int cc)] maxLocals) s₁ (mkF m 3 #[vI fl, vI ca, vI cb, vI cc, .unset, .unset, .unset, .unset, .unset, .unset, .unset, .unset, .unset, .unset, .unset, .unset, .unset, .unset] [(.int (fl &&& (1 : Int32)))]) := fun t k => by
      refine go0 t ?_
      refine XS.iloadN X0.here hx rfl (hb hby at_0) rfl ?_
      refine XS.iconst X0.here hx rfl (hb hby at_1) ?_
      refine XS.iand X0.here hx rfl (hb hby at_2) rfl ?_
      exact k
    by_cases hc3 : (fl &&& (1 : Int32)) = (0 : Int32)
    · have go4 : Goes p e below s₁ (entryFrame m #[(.int fl), (.int ca), (.int cb), (.int cc)] maxLocals) s₁ (mkF m 11 #[vI fl, vI ca, vI cb, vI cc, .unset, .unset, .unset, .unset, .unset, .unset, .unset, .unset, .unset, .unset, .unset, .unset, .unset, .unset] [(.int (0 : Int32))]) := fun t k => by
        refine go2 t ?_
        refine XS.ifYes X0.here hx rfl (pc0 := 3) (pc' := 10) rfl (hb hby at_3) rfl (Jvm.Free.XT.i0_eq_t hc3) (by decide) (by decide) ?_
        refine XS.iconst X0.here hx rfl (hb hby at_10) ?_
        exact k
      exact ⟨s₁, (0 : Int32), X0, e0, Or.inl rfl, go4⟩
    · have go5 : Goes p e below s₁ (entryFrame m #[(.int fl), (.int ca), (.int cb), (.int cc)] maxLocals) s₁ (mkF m 11 #[vI fl, vI ca, vI cb, vI cc, .unset, .unset, .unset, .unset, .unset, .unset, .unset, .unset, .unset, .unset, .unset, .unset, .unset, .unset] [(.int (1 : Int32))]) := fun t k => by
        refine go2 t ?_
        refine XS.ifNo X0.here hx rfl (hb hby at_3) rfl (Jvm.Free.XT.i0_eq_f hc3) ?_
        refine XS.iconst X0.here hx rfl (hb hby at_6) ?_
        refine XS.goto X0.here hx rfl (pc0 := 7) (pc' := 11) rfl (hb hby at_7) (by decide) (by decide) ?_
        exact k
      exact ⟨s₁, (1 : Int32), X0, e0, Or.inr rfl, go5⟩
  have h_fl1 := hj1
  have go6 : Goes p e below s₁ (entryFrame m #[(.int fl), (.int ca), (.int cb), (.int cc)] maxLocals) T1 (mkF m 13 #[vI fl, vI ca, vI cb, vI cc, vI fl1, .unset, .unset, .unset, .unset, .unset, .unset, .unset, .unset, .unset, .unset, .unset, .unset, .unset] []) := fun t k => by
    refine go1j t ?_
    refine XS.istore X1.here hx rfl (hb hby at_11) rfl (l' := #[vI fl, vI ca, vI cb, vI cc, vI fl1, .unset, .unset, .unset, .unset, .unset, .unset, .unset, .unset, .unset, .unset, .unset, .unset, .unset]) rfl ?_
    exact k
  obtain ⟨T7, flp, X7, e7, hj7, go7j⟩ : ∃ (T' : State) (flp : Int32), Stand p l e room_1 s m #[(.int fl), (.int ca), (.int cb), (.int cc)] below meth c T' [] 0 0 ∧ T'.heap = h0 ∧ (flp = 0 ∨ flp = 1) ∧ Goes p e below s₁ (entryFrame m #[(.int fl), (.int ca), (.int cb), (.int cc)] maxLocals) T' (mkF m 24 #[vI fl, vI ca, vI cb, vI cc, vI fl1, .unset, .unset, .unset, .unset, .unset, .unset, .unset, .unset, .unset, .unset, .unset, .unset, .unset] [(.int flp)]) := by
    have go8 : Goes p e below s₁ (entryFrame m #[(.int fl), (.int ca), (.int cb), (.int cc)] maxLocals) T1 (mkF m 16 #[vI fl, vI ca, vI cb, vI cc, vI fl1, .unset, .unset, .unset, .unset, .unset, .unset, .unset, .unset, .unset, .unset, .unset, .unset, .unset] [(.int (fl &&& (2 : Int32)))]) := fun t k => by
      refine go6 t ?_
      refine XS.iloadN X1.here hx rfl (hb hby at_13) rfl ?_
      refine XS.iconst X1.here hx rfl (hb hby at_14) ?_
      refine XS.iand X1.here hx rfl (hb hby at_15) rfl ?_
      exact k
    by_cases hc9 : (fl &&& (2 : Int32)) = (0 : Int32)
    · have go10 : Goes p e below s₁ (entryFrame m #[(.int fl), (.int ca), (.int cb), (.int cc)] maxLocals) T1 (mkF m 24 #[vI fl, vI ca, vI cb, vI cc, vI fl1, .unset, .unset, .unset, .unset, .unset, .unset, .unset, .unset, .unset, .unset, .unset, .unset, .unset] [(.int (0 : Int32))]) := fun t k => by
        refine go8 t ?_
        refine XS.ifYes X1.here hx rfl (pc0 := 16) (pc' := 23) rfl (hb hby at_16) rfl (Jvm.Free.XT.i0_eq_t hc9) (by decide) (by decide) ?_
        refine XS.iconst X1.here hx rfl (hb hby at_23) ?_
        exact k
      exact ⟨T1, (0 : Int32), X1, e1, Or.inl rfl, go10⟩
    · have go11 : Goes p e below s₁ (entryFrame m #[(.int fl), (.int ca), (.int cb), (.int cc)] maxLocals) T1 (mkF m 24 #[vI fl, vI ca, vI cb, vI cc, vI fl1, .unset, .unset, .unset, .unset, .unset, .unset, .unset, .unset, .unset, .unset, .unset, .unset, .unset] [(.int (1 : Int32))]) := fun t k => by
        refine go8 t ?_
        refine XS.ifNo X1.here hx rfl (hb hby at_16) rfl (Jvm.Free.XT.i0_eq_f hc9) ?_
        refine XS.iconst X1.here hx rfl (hb hby at_19) ?_
        refine XS.goto X1.here hx rfl (pc0 := 20) (pc' := 24) rfl (hb hby at_20) (by decide) (by decide) ?_
        exact k
      exact ⟨T1, (1 : Int32), X1, e1, Or.inr rfl, go11⟩
  have h_flp := hj7
  have go12 : Goes p e below s₁ (entryFrame m #[(.int fl), (.int ca), (.int cb), (.int cc)] maxLocals) T7 (mkF m 26 #[vI fl, vI ca, vI cb, vI cc, vI fl1, vI flp, .unset, .unset, .unset, .unset, .unset, .unset, .unset, .unset, .unset, .unset, .unset, .unset] []) := fun t k => by
    refine go7j t ?_
    refine XS.istore X7.here hx rfl (hb hby at_24) rfl (l' := #[vI fl, vI ca, vI cb, vI cc, vI fl1, vI flp, .unset, .unset, .unset, .unset, .unset, .unset, .unset, .unset, .unset, .unset, .unset, .unset]) rfl ?_
    exact k
  obtain ⟨T13, flk, X13, e13, hj13, go13j⟩ : ∃ (T' : State) (flk : Int32), Stand p l e room_1 s m #[(.int fl), (.int ca), (.int cb), (.int cc)] below meth c T' [] 0 0 ∧ T'.heap = h0 ∧ (flk = 0 ∨ flk = 1) ∧ Goes p e below s₁ (entryFrame m #[(.int fl), (.int ca), (.int cb), (.int cc)] maxLocals) T' (mkF m 37 #[vI fl, vI ca, vI cb, vI cc, vI fl1, vI flp, .unset, .unset, .unset, .unset, .unset, .unset, .unset, .unset, .unset, .unset, .unset, .unset] [(.int flk)]) := by
    have go14 : Goes p e below s₁ (entryFrame m #[(.int fl), (.int ca), (.int cb), (.int cc)] maxLocals) T7 (mkF m 29 #[vI fl, vI ca, vI cb, vI cc, vI fl1, vI flp, .unset, .unset, .unset, .unset, .unset, .unset, .unset, .unset, .unset, .unset, .unset, .unset] [(.int (fl &&& (4 : Int32)))]) := fun t k => by
      refine go12 t ?_
      refine XS.iloadN X7.here hx rfl (hb hby at_26) rfl ?_
      refine XS.iconst X7.here hx rfl (hb hby at_27) ?_
      refine XS.iand X7.here hx rfl (hb hby at_28) rfl ?_
      exact k
    by_cases hc15 : (fl &&& (4 : Int32)) = (0 : Int32)
    · have go16 : Goes p e below s₁ (entryFrame m #[(.int fl), (.int ca), (.int cb), (.int cc)] maxLocals) T7 (mkF m 37 #[vI fl, vI ca, vI cb, vI cc, vI fl1, vI flp, .unset, .unset, .unset, .unset, .unset, .unset, .unset, .unset, .unset, .unset, .unset, .unset] [(.int (0 : Int32))]) := fun t k => by
        refine go14 t ?_
        refine XS.ifYes X7.here hx rfl (pc0 := 29) (pc' := 36) rfl (hb hby at_29) rfl (Jvm.Free.XT.i0_eq_t hc15) (by decide) (by decide) ?_
        refine XS.iconst X7.here hx rfl (hb hby at_36) ?_
        exact k
      exact ⟨T7, (0 : Int32), X7, e7, Or.inl rfl, go16⟩
    · have go17 : Goes p e below s₁ (entryFrame m #[(.int fl), (.int ca), (.int cb), (.int cc)] maxLocals) T7 (mkF m 37 #[vI fl, vI ca, vI cb, vI cc, vI fl1, vI flp, .unset, .unset, .unset, .unset, .unset, .unset, .unset, .unset, .unset, .unset, .unset, .unset] [(.int (1 : Int32))]) := fun t k => by
        refine go14 t ?_
        refine XS.ifNo X7.here hx rfl (hb hby at_29) rfl (Jvm.Free.XT.i0_eq_f hc15) ?_
        refine XS.iconst X7.here hx rfl (hb hby at_32) ?_
        refine XS.goto X7.here hx rfl (pc0 := 33) (pc' := 37) rfl (hb hby at_33) (by decide) (by decide) ?_
        exact k
      exact ⟨T7, (1 : Int32), X7, e7, Or.inr rfl, go17⟩
  have h_flk := hj13
  have go18 : Goes p e below s₁ (entryFrame m #[(.int fl), (.int ca), (.int cb), (.int cc)] maxLocals) T13 (mkF m 39 #[vI fl, vI ca, vI cb, vI cc, vI fl1, vI flp, vI flk, .unset, .unset, .unset, .unset, .unset, .unset, .unset, .unset, .unset, .unset, .unset] []) := fun t k => by
    refine go13j t ?_
    refine XS.istore X13.here hx rfl (hb hby at_37) rfl (l' := #[vI fl, vI ca, vI cb, vI cc, vI fl1, vI flp, vI flk, .unset, .unset, .unset, .unset, .unset, .unset, .unset, .unset, .unset, .unset, .unset]) rfl ?_
    exact k
  obtain ⟨T19, flc, X19, e19, hj19, go19j⟩ : ∃ (T' : State) (flc : Int32), Stand p l e room_1 s m #[(.int fl), (.int ca), (.int cb), (.int cc)] below meth c T' [] 0 0 ∧ T'.heap = h0 ∧ (flc = 0 ∨ flc = 1) ∧ Goes p e below s₁ (entryFrame m #[(.int fl), (.int ca), (.int cb), (.int cc)] maxLocals) T' (mkF m 51 #[vI fl, vI ca, vI cb, vI cc, vI fl1, vI flp, vI flk, .unset, .unset, .unset, .unset, .unset, .unset, .unset, .unset, .unset, .unset, .unset] [(.int flc)]) := by
    have go20 : Goes p e below s₁ (entryFrame m #[(.int fl), (.int ca), (.int cb), (.int cc)] maxLocals) T13 (mkF m 43 #[vI fl, vI ca, vI cb, vI cc, vI fl1, vI flp, vI flk, .unset, .unset, .unset, .unset, .unset, .unset, .unset, .unset, .unset, .unset, .unset] [(.int (fl &&& (8 : Int32)))]) := fun t k => by
      refine go18 t ?_
      refine XS.iloadN X13.here hx rfl (hb hby at_39) rfl ?_
      refine XS.bipush X13.here hx rfl (hb hby at_40) ?_
      refine XS.iand X13.here hx rfl (hb hby at_42) rfl ?_
      exact k
    by_cases hc21 : (fl &&& (8 : Int32)) = (0 : Int32)
    · have go22 : Goes p e below s₁ (entryFrame m #[(.int fl), (.int ca), (.int cb), (.int cc)] maxLocals) T13 (mkF m 51 #[vI fl, vI ca, vI cb, vI cc, vI fl1, vI flp, vI flk, .unset, .unset, .unset, .unset, .unset, .unset, .unset, .unset, .unset, .unset, .unset] [(.int (0 : Int32))]) := fun t k => by
        refine go20 t ?_
        refine XS.ifYes X13.here hx rfl (pc0 := 43) (pc' := 50) rfl (hb hby at_43) rfl (Jvm.Free.XT.i0_eq_t hc21) (by decide) (by decide) ?_
        refine XS.iconst X13.here hx rfl (hb hby at_50) ?_
        exact k
      exact ⟨T13, (0 : Int32), X13, e13, Or.inl rfl, go22⟩
    · have go23 : Goes p e below s₁ (entryFrame m #[(.int fl), (.int ca), (.int cb), (.int cc)] maxLocals) T13 (mkF m 51 #[vI fl, vI ca, vI cb, vI cc, vI fl1, vI flp, vI flk, .unset, .unset, .unset, .unset, .unset, .unset, .unset, .unset, .unset, .unset, .unset] [(.int (1 : Int32))]) := fun t k => by
        refine go20 t ?_
        refine XS.ifNo X13.here hx rfl (hb hby at_43) rfl (Jvm.Free.XT.i0_eq_f hc21) ?_
        refine XS.iconst X13.here hx rfl (hb hby at_46) ?_
        refine XS.goto X13.here hx rfl (pc0 := 47) (pc' := 51) rfl (hb hby at_47) (by decide) (by decide) ?_
        exact k
      exact ⟨T13, (1 : Int32), X13, e13, Or.inr rfl, go23⟩
  have h_flc := hj19
  have go24 : Goes p e below s₁ (entryFrame m #[(.int fl), (.int ca), (.int cb), (.int cc)] maxLocals) T19 (mkF m 53 #[vI fl, vI ca, vI cb, vI cc, vI fl1, vI flp, vI flk, vI flc, .unset, .unset, .unset, .unset, .unset, .unset, .unset, .unset, .unset, .unset] []) := fun t k => by
    refine go19j t ?_
    refine XS.istore X19.here hx rfl (hb hby at_51) rfl (l' := #[vI fl, vI ca, vI cb, vI cc, vI fl1, vI flp, vI flk, vI flc, .unset, .unset, .unset, .unset, .unset, .unset, .unset, .unset, .unset, .unset]) rfl ?_
    exact k
  obtain ⟨T25, fl2, X25, e25, hj25, go25j⟩ : ∃ (T' : State) (fl2 : Int32), Stand p l e room_1 s m #[(.int fl), (.int ca), (.int cb), (.int cc)] below meth c T' [] 0 0 ∧ T'.heap = h0 ∧ (fl2 = 0 ∨ fl2 = 1) ∧ Goes p e below s₁ (entryFrame m #[(.int fl), (.int ca), (.int cb), (.int cc)] maxLocals) T' (mkF m 65 #[vI fl, vI ca, vI cb, vI cc, vI fl1, vI flp, vI flk, vI flc, .unset, .unset, .unset, .unset, .unset, .unset, .unset, .unset, .unset, .unset] [(.int fl2)]) := by
    have go26 : Goes p e below s₁ (entryFrame m #[(.int fl), (.int ca), (.int cb), (.int cc)] maxLocals) T19 (mkF m 57 #[vI fl, vI ca, vI cb, vI cc, vI fl1, vI flp, vI flk, vI flc, .unset, .unset, .unset, .unset, .unset, .unset, .unset, .unset, .unset, .unset] [(.int (fl &&& (16 : Int32)))]) := fun t k => by
      refine go24 t ?_
      refine XS.iloadN X19.here hx rfl (hb hby at_53) rfl ?_
      refine XS.bipush X19.here hx rfl (hb hby at_54) ?_
      refine XS.iand X19.here hx rfl (hb hby at_56) rfl ?_
      exact k
    by_cases hc27 : (fl &&& (16 : Int32)) = (0 : Int32)
    · have go28 : Goes p e below s₁ (entryFrame m #[(.int fl), (.int ca), (.int cb), (.int cc)] maxLocals) T19 (mkF m 65 #[vI fl, vI ca, vI cb, vI cc, vI fl1, vI flp, vI flk, vI flc, .unset, .unset, .unset, .unset, .unset, .unset, .unset, .unset, .unset, .unset] [(.int (0 : Int32))]) := fun t k => by
        refine go26 t ?_
        refine XS.ifYes X19.here hx rfl (pc0 := 57) (pc' := 64) rfl (hb hby at_57) rfl (Jvm.Free.XT.i0_eq_t hc27) (by decide) (by decide) ?_
        refine XS.iconst X19.here hx rfl (hb hby at_64) ?_
        exact k
      exact ⟨T19, (0 : Int32), X19, e19, Or.inl rfl, go28⟩
    · have go29 : Goes p e below s₁ (entryFrame m #[(.int fl), (.int ca), (.int cb), (.int cc)] maxLocals) T19 (mkF m 65 #[vI fl, vI ca, vI cb, vI cc, vI fl1, vI flp, vI flk, vI flc, .unset, .unset, .unset, .unset, .unset, .unset, .unset, .unset, .unset, .unset] [(.int (1 : Int32))]) := fun t k => by
        refine go26 t ?_
        refine XS.ifNo X19.here hx rfl (hb hby at_57) rfl (Jvm.Free.XT.i0_eq_f hc27) ?_
        refine XS.iconst X19.here hx rfl (hb hby at_60) ?_
        refine XS.goto X19.here hx rfl (pc0 := 61) (pc' := 65) rfl (hb hby at_61) (by decide) (by decide) ?_
        exact k
      exact ⟨T19, (1 : Int32), X19, e19, Or.inr rfl, go29⟩
  have h_fl2 := hj25
  have go30 : Goes p e below s₁ (entryFrame m #[(.int fl), (.int ca), (.int cb), (.int cc)] maxLocals) T25 (mkF m 67 #[vI fl, vI ca, vI cb, vI cc, vI fl1, vI flp, vI flk, vI flc, vI fl2, .unset, .unset, .unset, .unset, .unset, .unset, .unset, .unset, .unset] []) := fun t k => by
    refine go25j t ?_
    refine XS.istore X25.here hx rfl (hb hby at_65) rfl (l' := #[vI fl, vI ca, vI cb, vI cc, vI fl1, vI flp, vI flk, vI flc, vI fl2, .unset, .unset, .unset, .unset, .unset, .unset, .unset, .unset, .unset]) rfl ?_
    exact k
  obtain ⟨T31, flt, X31, e31, hj31, go31j⟩ : ∃ (T' : State) (flt : Int32), Stand p l e room_1 s m #[(.int fl), (.int ca), (.int cb), (.int cc)] below meth c T' [] 0 0 ∧ T'.heap = h0 ∧ (flt = 0 ∨ flt = 1) ∧ Goes p e below s₁ (entryFrame m #[(.int fl), (.int ca), (.int cb), (.int cc)] maxLocals) T' (mkF m 79 #[vI fl, vI ca, vI cb, vI cc, vI fl1, vI flp, vI flk, vI flc, vI fl2, .unset, .unset, .unset, .unset, .unset, .unset, .unset, .unset, .unset] [(.int flt)]) := by
    have go32 : Goes p e below s₁ (entryFrame m #[(.int fl), (.int ca), (.int cb), (.int cc)] maxLocals) T25 (mkF m 71 #[vI fl, vI ca, vI cb, vI cc, vI fl1, vI flp, vI flk, vI flc, vI fl2, .unset, .unset, .unset, .unset, .unset, .unset, .unset, .unset, .unset] [(.int (fl &&& (32 : Int32)))]) := fun t k => by
      refine go30 t ?_
      refine XS.iloadN X25.here hx rfl (hb hby at_67) rfl ?_
      refine XS.bipush X25.here hx rfl (hb hby at_68) ?_
      refine XS.iand X25.here hx rfl (hb hby at_70) rfl ?_
      exact k
    by_cases hc33 : (fl &&& (32 : Int32)) = (0 : Int32)
    · have go34 : Goes p e below s₁ (entryFrame m #[(.int fl), (.int ca), (.int cb), (.int cc)] maxLocals) T25 (mkF m 79 #[vI fl, vI ca, vI cb, vI cc, vI fl1, vI flp, vI flk, vI flc, vI fl2, .unset, .unset, .unset, .unset, .unset, .unset, .unset, .unset, .unset] [(.int (0 : Int32))]) := fun t k => by
        refine go32 t ?_
        refine XS.ifYes X25.here hx rfl (pc0 := 71) (pc' := 78) rfl (hb hby at_71) rfl (Jvm.Free.XT.i0_eq_t hc33) (by decide) (by decide) ?_
        refine XS.iconst X25.here hx rfl (hb hby at_78) ?_
        exact k
      exact ⟨T25, (0 : Int32), X25, e25, Or.inl rfl, go34⟩
    · have go35 : Goes p e below s₁ (entryFrame m #[(.int fl), (.int ca), (.int cb), (.int cc)] maxLocals) T25 (mkF m 79 #[vI fl, vI ca, vI cb, vI cc, vI fl1, vI flp, vI flk, vI flc, vI fl2, .unset, .unset, .unset, .unset, .unset, .unset, .unset, .unset, .unset] [(.int (1 : Int32))]) := fun t k => by
        refine go32 t ?_
        refine XS.ifNo X25.here hx rfl (hb hby at_71) rfl (Jvm.Free.XT.i0_eq_f hc33) ?_
        refine XS.iconst X25.here hx rfl (hb hby at_74) ?_
        refine XS.goto X25.here hx rfl (pc0 := 75) (pc' := 79) rfl (hb hby at_75) (by decide) (by decide) ?_
        exact k
      exact ⟨T25, (1 : Int32), X25, e25, Or.inr rfl, go35⟩
  have h_flt := hj31
  have go36 : Goes p e below s₁ (entryFrame m #[(.int fl), (.int ca), (.int cb), (.int cc)] maxLocals) T31 (mkF m 87 #[vI fl, vI ca, vI cb, vI cc, vI fl1, vI flp, vI flk, vI flc, vI fl2, vI flt, .unset, .unset, .unset, .unset, .unset, .unset, .unset, .unset] [(.int ((ca &&& (255 : Int32)).toUInt32.toUInt16.toUInt32.toInt32))]) := fun t k => by
    refine go31j t ?_
    refine XS.istore X31.here hx rfl (hb hby at_79) rfl (l' := #[vI fl, vI ca, vI cb, vI cc, vI fl1, vI flp, vI flk, vI flc, vI fl2, vI flt, .unset, .unset, .unset, .unset, .unset, .unset, .unset, .unset]) rfl ?_
    refine XS.iloadN X31.here hx rfl (hb hby at_81) rfl ?_
    refine XS.sipush X31.here hx rfl (hb hby at_82) ?_
    refine XS.iand X31.here hx rfl (hb hby at_85) rfl ?_
    refine XS.i2c X31.here hx rfl (hb hby at_86) rfl ?_
    exact k
  obtain ⟨xa, h_xa⟩ : ∃ z : Int32, z = ((ca &&& (255 : Int32)).toUInt32.toUInt16.toUInt32.toInt32) := ⟨_, rfl⟩
  have go37 : Goes p e below s₁ (entryFrame m #[(.int fl), (.int ca), (.int cb), (.int cc)] maxLocals) T31 (mkF m 87 #[vI fl, vI ca, vI cb, vI cc, vI fl1, vI flp, vI flk, vI flc, vI fl2, vI flt, .unset, .unset, .unset, .unset, .unset, .unset, .unset, .unset] [(.int xa)]) := by rw [h_xa]; exact go36
  have hxa : ¬ xa < 0 ∧ ¬ (255 : Int32) < xa := by rw [h_xa]; exact own_chr ca
  have go38 : Goes p e below s₁ (entryFrame m #[(.int fl), (.int ca), (.int cb), (.int cc)] maxLocals) T31 (mkF m 95 #[vI fl, vI ca, vI cb, vI cc, vI fl1, vI flp, vI flk, vI flc, vI fl2, vI flt, vI xa, .unset, .unset, .unset, .unset, .unset, .unset, .unset] [(.int ((cb &&& (255 : Int32)).toUInt32.toUInt16.toUInt32.toInt32))]) := fun t k => by
    refine go37 t ?_
    refine XS.istore X31.here hx rfl (hb hby at_87) rfl (l' := #[vI fl, vI ca, vI cb, vI cc, vI fl1, vI flp, vI flk, vI flc, vI fl2, vI flt, vI xa, .unset, .unset, .unset, .unset, .unset, .unset, .unset]) rfl ?_
    refine XS.iloadN X31.here hx rfl (hb hby at_89) rfl ?_
    refine XS.sipush X31.here hx rfl (hb hby at_90) ?_
    refine XS.iand X31.here hx rfl (hb hby at_93) rfl ?_
    refine XS.i2c X31.here hx rfl (hb hby at_94) rfl ?_
    exact k
  obtain ⟨xb, h_xb⟩ : ∃ z : Int32, z = ((cb &&& (255 : Int32)).toUInt32.toUInt16.toUInt32.toInt32) := ⟨_, rfl⟩
  have go39 : Goes p e below s₁ (entryFrame m #[(.int fl), (.int ca), (.int cb), (.int cc)] maxLocals) T31 (mkF m 95 #[vI fl, vI ca, vI cb, vI cc, vI fl1, vI flp, vI flk, vI flc, vI fl2, vI flt, vI xa, .unset, .unset, .unset, .unset, .unset, .unset, .unset] [(.int xb)]) := by rw [h_xb]; exact go38
  have hxb : ¬ xb < 0 ∧ ¬ (255 : Int32) < xb := by rw [h_xb]; exact own_chr cb
  have go40 : Goes p e below s₁ (entryFrame m #[(.int fl), (.int ca), (.int cb), (.int cc)] maxLocals) T31 (mkF m 103 #[vI fl, vI ca, vI cb, vI cc, vI fl1, vI flp, vI flk, vI flc, vI fl2, vI flt, vI xa, vI xb, .unset, .unset, .unset, .unset, .unset, .unset] [(.int ((cc &&& (255 : Int32)).toUInt32.toUInt16.toUInt32.toInt32))]) := fun t k => by
    refine go39 t ?_
    refine XS.istore X31.here hx rfl (hb hby at_95) rfl (l' := #[vI fl, vI ca, vI cb, vI cc, vI fl1, vI flp, vI flk, vI flc, vI fl2, vI flt, vI xa, vI xb, .unset, .unset, .unset, .unset, .unset, .unset]) rfl ?_
    refine XS.iloadN X31.here hx rfl (hb hby at_97) rfl ?_
    refine XS.sipush X31.here hx rfl (hb hby at_98) ?_
    refine XS.iand X31.here hx rfl (hb hby at_101) rfl ?_
    refine XS.i2c X31.here hx rfl (hb hby at_102) rfl ?_
    exact k
  obtain ⟨xc, h_xc⟩ : ∃ z : Int32, z = ((cc &&& (255 : Int32)).toUInt32.toUInt16.toUInt32.toInt32) := ⟨_, rfl⟩
  have go41 : Goes p e below s₁ (entryFrame m #[(.int fl), (.int ca), (.int cb), (.int cc)] maxLocals) T31 (mkF m 103 #[vI fl, vI ca, vI cb, vI cc, vI fl1, vI flp, vI flk, vI flc, vI fl2, vI flt, vI xa, vI xb, .unset, .unset, .unset, .unset, .unset, .unset] [(.int xc)]) := by rw [h_xc]; exact go40
  have hxc : ¬ xc < 0 ∧ ¬ (255 : Int32) < xc := by rw [h_xc]; exact own_chr cc
  obtain ⟨T42, h42, X42, e42, E42, A42, D42, -, st42⟩ := newO X31 hx hZ hown (own_w hw 0 rfl) (own_w hw 1 rfl) (own_w hw 2 rfl) e31 (g := (mkF m 105 #[vI fl, vI ca, vI cb, vI cc, vI fl1, vI flp, vI flk, vI flc, vI fl2, vI flt, vI xa, vI xb, vI xc, .unset, .unset, .unset, .unset, .unset] [])) rfl (hb hby at_105) (by decide) (by decide)
  obtain ⟨aH, g_b_aH⟩ : ∃ z, z = h0.size := ⟨_, rfl⟩
  have le_aH : h0.size ≤ aH := Nat.le_of_eq g_b_aH.symm
  have gn_aH : n0 ≤ aH := Nat.le_trans Z0 le_aH
  have sz_aH : h0.size ≤ aH := Nat.le_trans K0.1 le_aH
  rw [← g_b_aH] at A42 D42 st42
  have O43 := O0.ext E42
  have Z44 := Nat.le_trans Z0 E42.1
  have K45 := K0.ext E42
  have f46 : Fld Z h42 aH "com/example/whereas/whereas/model/HtmlLayout" "text" "Ljava/lang/StringBuilder;" .null := D42 (Or.inr (own_w hw 30 rfl)) (ty := (.object "java/lang/StringBuilder")) (by decide)
  have f47 : Fld Z h42 aH "com/example/whereas/whereas/model/HtmlLayout" "origins" "Lcom/example/whereas/whereas/model/Origins$Builder;" .null := D42 (Or.inr (own_w hw 49 rfl)) (ty := (.object "com/example/whereas/whereas/model/Origins$Builder")) (by decide)
  have f48 : Fld Z h42 aH "com/example/whereas/whereas/model/HtmlLayout" "pending" "Ljava/lang/StringBuilder;" .null := D42 (Or.inr (own_w hw 51 rfl)) (ty := (.object "java/lang/StringBuilder")) (by decide)
  have f49 : Fld Z h42 aH "com/example/whereas/whereas/model/HtmlLayout" "pendingOrigins" "[I" .null := D42 (Or.inl (own_w hw 53 rfl)) (ty := (.array .int)) (by decide)
  have f50 : Fld Z h42 aH "com/example/whereas/whereas/model/HtmlLayout" "pendingKept" "[Z" .null := D42 (Or.inl (own_w hw 55 rfl)) (ty := (.array .boolean)) (by decide)
  have f51 : Fld Z h42 aH "com/example/whereas/whereas/model/HtmlLayout" "collapsing" "Z" (.int (0 : Int32)) := D42 (Or.inl (own_w hw 97 rfl)) (ty := .boolean) (by decide)
  have f52 : Fld Z h42 aH "com/example/whereas/whereas/model/HtmlLayout" "lineShows" "Z" (.int (0 : Int32)) := D42 (Or.inl (own_w hw 99 rfl)) (ty := .boolean) (by decide)
  have f53 : Fld Z h42 aH "com/example/whereas/whereas/model/HtmlLayout" "inRow" "Z" (.int (0 : Int32)) := D42 (Or.inl (own_w hw 101 rfl)) (ty := .boolean) (by decide)
  have f54 : Fld Z h42 aH "com/example/whereas/whereas/model/HtmlLayout" "tabs" "I" (.int (0 : Int32)) := D42 (Or.inl (own_w hw 103 rfl)) (ty := .int) (by decide)
  have f55 : Fld Z h42 aH "com/example/whereas/whereas/model/HtmlLayout" "rowShows" "Z" (.int (0 : Int32)) := D42 (Or.inl (own_w hw 105 rfl)) (ty := .boolean) (by decide)
  have f56 : Fld Z h42 aH "com/example/whereas/whereas/model/HtmlLayout" "cells" "I" (.int (0 : Int32)) := D42 (Or.inl (own_w hw 107 rfl)) (ty := .int) (by decide)
  have f57 : Fld Z h42 aH "com/example/whereas/whereas/model/HtmlLayout" "paragraph" "Z" (.int (0 : Int32)) := D42 (Or.inl (own_w hw 198 rfl)) (ty := .boolean) (by decide)
  have f58 : Fld Z h42 aH "com/example/whereas/whereas/model/HtmlLayout" "breaks" "I" (.int (0 : Int32)) := D42 (Or.inl (own_w hw 200 rfl)) (ty := .int) (by decide)
  obtain ⟨_, _, ⟨T59, L59, k59, n59⟩, -, X59, ⟨Lc59, hQ59, l59, y59, z59⟩, st59⟩ := X42.specialBack hx (y := (⟨"com/example/whereas/whereas/model/HtmlLayout", "<init>", "()V"⟩ : MethodName)) rfl hown (mvT hZ (own_w hw 3 rfl)) (mvT hZ (own_w hw 4 rfl)) (mvT hZ (own_w hw 5 rfl)) (by decide) (backOf (W := 1) (rmHi l Z a0 hw [] aH cs h42 n0 Z44 O43 S_CS hcs A42 f46 f47 f48 f49 f50 f58 f54 f56 f57 f51 f52 f53 f55 gn_aH) hZ (own_w hw 5 rfl) (own_w hw 2 rfl) (by decide) (by decide)) (g := (mkF m 109 #[vI fl, vI ca, vI cb, vI cc, vI fl1, vI flp, vI flk, vI flc, vI fl2, vI flt, vI xa, vI xb, vI xc, .unset, .unset, .unset, .unset, .unset] [(.ref aH), (.ref aH)])) rfl (by rw [hml]; rfl) (Steps.refl _) (a := aH) (argsL := []) (rest := [(.ref aH)]) (lenOf pd_14 rfl) rfl (by show 2 * 0 + _ ≤ _; exact Nat.le_of_eq rfl) (hb hby at_109) (fun _ _ => ⟨rfl, e42, (by decide : 1 + 11 ≤ room_1.cells), (by decide : 13 + 122 ≤ room_1.slots)⟩)
  dsimp only [Pt.U, Pt.locs, Pt.cells, Pt.slots] at X59 l59 y59 z59 st59 hQ59
  subst l59 y59 z59
  obtain ⟨rfl, N59q, Kq59, Rq59⟩ := hQ59
  have N59 := Fr.app N0 N59q
  have f60 := A42.keep Kq59
  have O61 := O43.keep Kq59 (allS gn_aH all0)
  have Z62 := Nat.le_trans Z44 Kq59.1
  have K63 := K45.trans Kq59 (allS (Or.inr sz_aH) all0)
  obtain ⟨aT, vT, aP, vP, aQ, aK, ob, o1, o2, o3, o4, D, gA, HBi⟩ := Rq59
  have gN : ∀ y ∈ [aH, aT, vT, aP, vP, aQ, aK, ob, o1, o2, o3, o4], n0 ≤ y := allS gn_aH (fun y q => Nat.le_trans Z44 (gA y q))
  have K64 := (Keep.refl h0 [aH, aT, vT, aP, vP, aQ, aK, ob, o1, o2, o3, o4]).trans K63 (fun _ q => by cases q)
  obtain ⟨kTi, kPi, kQi, kKi, nTi, mTi, mPi, rri, lli, HXi⟩ := HBi
  obtain ⟨cq65, kq65, q65a, q65b, q65c⟩ := isOf hZ rfl (pj_EH HXi)
  obtain ⟨_, _, ⟨T65, L65, k65, n65⟩, -, X65, ⟨Lc65, hQ65, l65, y65, z65⟩, st65⟩ := X59.virtualBack hx (y := mN_26) (z := mN_26) hown (mvT hZ (own_w hw 56 rfl)) (mvT hZ (own_w hw 57 rfl)) (notFace_of_selects (args := #[]) (mvT hZ (own_w hw 59 rfl))) (mvT hZ (own_w hw 59 rfl)) (mvT hZ (own_w hw 58 rfl)) (by decide) (backOf (W := 0) (rmHsr l Z a0 hw [] aH  aT vT aP vP aQ aK ob o1 o2 o3 o4 [] [] [] 0 (0 : Int32) (0 : Int32) (0 : Int32) (0 : Int32) (0 : Int32) (0 : Int32) (0 : Int32) (0 : Int32)  cs fm T59.heap n0 Z62 O61 S_CS hcs S_FM hfm (show own_HB Z T59.heap aH aT vT aP vP aQ aK ob o1 o2 o3 o4 [] [] (0 : Int32) [] [] 0 (0 : Int32) (0 : Int32) (0 : Int32) (0 : Int32) (0 : Int32) (0 : Int32) (0 : Int32) (0 : Int32) from ⟨_, _, _, _, _, _, _, _, _, HXi⟩) D gN (by first | omega | decide | (simp; omega)) (by decide) ) hZ (own_w hw 60 rfl) (own_w hw 2 rfl) (by decide) (by decide)) q65a q65c (g := (mkF m 116 #[vI fl, vI ca, vI cb, vI cc, vI fl1, vI flp, vI flk, vI flc, vI fl2, vI flt, vI xa, vI xb, vI xc, vR aH, .unset, .unset, .unset, .unset] [(.ref aH)])) rfl (by rw [hml]; rfl) (Steps.refl _) (argsL := []) (rest := []) (lenOf pd_14 rfl) rfl (by show 2 * 0 + _ ≤ _; exact Nat.le_of_eq rfl) (hb hby at_116) (fun _ _ => ⟨rfl, rfl, (by decide : 12 + 0 ≤ room_1.cells), (by decide : 135 + 0 ≤ room_1.slots)⟩)
  dsimp only [Pt.U, Pt.locs, Pt.cells, Pt.slots] at X65 l65 y65 z65 st65 hQ65
  subst l65 y65 z65
  obtain ⟨rfl, N65q, Kq65, Hq65⟩ := hQ65
  have N65 := Fr.app N59 N65q
  have O66 := O61.keep Kq65 gN
  have Z67 := Nat.le_trans Z62 Kq65.1
  have K68 := K64.trans Kq65 (fun _ q => Or.inl q)
  obtain ⟨kTq65, kPq65, kQq65, kKq65, nTq65, mTq65, mPq65, rrq65, llq65, HXq65⟩ := Hq65
  obtain ⟨cq69, kq69, q69a, q69b, q69c⟩ := isOf hZ rfl (pj_EH HXq65)
  obtain ⟨_, _, ⟨T69, L69, k69, n69⟩, -, X69, ⟨Lc69, hQ69, l69, y69, z69⟩, st69⟩ := X65.virtualBack hx (y := mN_6) (z := mN_6) hown (mvT hZ (own_w hw 108 rfl)) (mvT hZ (own_w hw 109 rfl)) (notFace_of_selects (args := #[]) (mvT hZ (own_w hw 111 rfl))) (mvT hZ (own_w hw 111 rfl)) (mvT hZ (own_w hw 110 rfl)) (by decide) (backOf (W := 0) (rmHsc0 l Z a0 hw [] aH  aT vT aP vP aQ aK ob o1 o2 o3 o4 [] [] (0 : Int32) [] [] 0 (0 : Int32) (0 : Int32) (0 : Int32) (0 : Int32) (0 : Int32) (1 : Int32) (0 : Int32)  cs fm T65.heap n0 Z67 O66 S_CS hcs S_FM hfm (show own_HB Z T65.heap aH aT vT aP vP aQ aK ob o1 o2 o3 o4 [] [] (0 : Int32) [] [] 0 (0 : Int32) (0 : Int32) (0 : Int32) (0 : Int32) (0 : Int32) (0 : Int32) (1 : Int32) (0 : Int32) from ⟨_, _, _, _, _, _, _, _, _, HXq65⟩) D gN (by first | omega | decide | (simp; omega)) (by decide) ) hZ (own_w hw 112 rfl) (own_w hw 2 rfl) (by decide) (by decide)) q69a q69c (g := (mkF m 121 #[vI fl, vI ca, vI cb, vI cc, vI fl1, vI flp, vI flk, vI flc, vI fl2, vI flt, vI xa, vI xb, vI xc, vR aH, .unset, .unset, .unset, .unset] [(.ref aH)])) rfl (by rw [hml]; rfl) (Steps.refl _) (argsL := []) (rest := []) (lenOf pd_14 rfl) rfl (by show 2 * 0 + _ ≤ _; exact Nat.le_of_eq rfl) (hb hby at_121) (fun _ _ => ⟨rfl, rfl, (by decide : 12 + 0 ≤ room_1.cells), (by decide : 135 + 0 ≤ room_1.slots)⟩)
  dsimp only [Pt.U, Pt.locs, Pt.cells, Pt.slots] at X69 l69 y69 z69 st69 hQ69
  subst l69 y69 z69
  obtain ⟨rfl, N69q, Kq69, Hq69⟩ := hQ69
  have N69 := Fr.app N65 N69q
  have O70 := O66.keep Kq69 gN
  have Z71 := Nat.le_trans Z67 Kq69.1
  have K72 := K68.trans Kq69 (fun _ q => Or.inl q)
  obtain ⟨kTq69, kPq69, kQq69, kKq69, nTq69, mTq69, mPq69, rrq69, llq69, HXq69⟩ := Hq69
  have go73 : Goes p e below s₁ (entryFrame m #[(.int fl), (.int ca), (.int cb), (.int cc)] maxLocals) T69 (mkF m 124 #[vI fl, vI ca, vI cb, vI cc, vI fl1, vI flp, vI flk, vI flc, vI fl2, vI flt, vI xa, vI xb, vI xc, vR aH, .unset, .unset, .unset, .unset] []) := fun t k => by
    refine go41 t ?_
    refine XS.istore X31.here hx rfl (hb hby at_103) rfl (l' := #[vI fl, vI ca, vI cb, vI cc, vI fl1, vI flp, vI flk, vI flc, vI fl2, vI flt, vI xa, vI xb, vI xc, .unset, .unset, .unset, .unset, .unset]) rfl ?_
    refine st42 t ?_
    refine XS.dup X42.here hx rfl (hb hby at_108) rfl rfl ?_
    refine st59.trans ?_
    refine XS.astore X59.here hx rfl (hb hby at_112) rfl rfl (l' := #[vI fl, vI ca, vI cb, vI cc, vI fl1, vI flp, vI flk, vI flc, vI fl2, vI flt, vI xa, vI xb, vI xc, vR aH, .unset, .unset, .unset, .unset]) rfl ?_
    refine XS.aload X59.here hx rfl (hb hby at_114) rfl rfl ?_
    show Steps p.tables e below (T59.setTop (mkF m 116 #[vI fl, vI ca, vI cb, vI cc, vI fl1, vI flp, vI flk, vI flc, vI fl2, vI flt, vI xa, vI xb, vI xc, vR aH, .unset, .unset, .unset, .unset] [(.ref aH)])) _
    refine st65.trans ?_
    refine XS.aload X65.here hx rfl (hb hby at_119) rfl rfl ?_
    refine st69.trans ?_
    exact k
  obtain ⟨T74, h74, lo74, tx1, rs1, ls1, X74, e74, Z74, N74, O74, K74, Hj74, hj74, go74j⟩ : ∃ (T' : State) (h' : Heap) (lo' : List Loc) (tx1 : List Int32) (rs1 : Int32) (ls1 : Int32), Stand p l e room_1 s m #[(.int fl), (.int ca), (.int cb), (.int cc)] below meth c T' lo' 12 135 ∧ T'.heap = h' ∧ n0 ≤ h'.size ∧ Fr n0 lo' ∧ Old Z n0 h' ∧ Keep h0 h' [aH, aT, vT, aP, vP, aQ, aK, ob, o1, o2, o3, o4] ∧ own_HB Z h' aH aT vT aP vP aQ aK ob o1 o2 o3 o4 tx1 [] (0 : Int32) [] [] 3 (0 : Int32) (0 : Int32) (1 : Int32) (0 : Int32) (0 : Int32) ls1 (1 : Int32) rs1 ∧ (tx1 = (if fl1 = 0 then [] else [xa]) ∧ rs1 = fl1) ∧ Goes p e below s₁ (entryFrame m #[(.int fl), (.int ca), (.int cb), (.int cc)] maxLocals) T' (mkF m 138 #[vI fl, vI ca, vI cb, vI cc, vI fl1, vI flp, vI flk, vI flc, vI fl2, vI flt, vI xa, vI xb, vI xc, vR aH, .unset, .unset, .unset, .unset] []) := by
    have go75 : Goes p e below s₁ (entryFrame m #[(.int fl), (.int ca), (.int cb), (.int cc)] maxLocals) T69 (mkF m 126 #[vI fl, vI ca, vI cb, vI cc, vI fl1, vI flp, vI flk, vI flc, vI fl2, vI flt, vI xa, vI xb, vI xc, vR aH, .unset, .unset, .unset, .unset] [(.int fl1)]) := fun t k => by
      refine go73 t ?_
      refine XS.iload X69.here hx rfl (hb hby at_124) rfl ?_
      exact k
    by_cases hc76 : fl1 = (0 : Int32)
    · have go77 : Goes p e below s₁ (entryFrame m #[(.int fl), (.int ca), (.int cb), (.int cc)] maxLocals) T69 (mkF m 138 #[vI fl, vI ca, vI cb, vI cc, vI fl1, vI flp, vI flk, vI flc, vI fl2, vI flt, vI xa, vI xb, vI xc, vR aH, .unset, .unset, .unset, .unset] []) := fun t k => by
        refine go75 t ?_
        refine XS.ifYes X69.here hx rfl (pc0 := 126) (pc' := 138) rfl (hb hby at_126) rfl (Jvm.Free.XT.i0_eq_t hc76) (by decide) (by decide) ?_
        exact k
      have HX78 := hx_up HXq69
      have HX79 := hx_up HX78
      have HX80 := hx_up HX79
      exact ⟨T69, T69.heap, _, [], (0 : Int32), (0 : Int32), X69, rfl, Z71, N69, O70, K72, ⟨_, _, _, _, _, _, _, _, _, HX80⟩, ⟨(if_pos hc76).symm, hc76.symm⟩, go77⟩
    · obtain ⟨cq81, kq81, q81a, q81b, q81c⟩ := isOf hZ rfl (pj_EH HXq69)
      obtain ⟨_, _, ⟨T81, L81, k81, n81⟩, -, X81, ⟨Lc81, hQ81, l81, y81, z81⟩, st81⟩ := X69.virtualBack hx (y := mN_15) (z := mN_15) hown (mvT hZ (own_w hw 188 rfl)) (mvT hZ (own_w hw 189 rfl)) (notFace_of_selects (args := #[]) (mvT hZ (own_w hw 191 rfl))) (mvT hZ (own_w hw 191 rfl)) (mvT hZ (own_w hw 190 rfl)) (by decide) (backOf (W := 0) (rmSw l Z a0 hw [] aH xa (0 : Int32) (1 : Int32) aT vT aP vP aQ aK ob o1 o2 o3 o4 [] [] (0 : Int32) [] [] 0 (0 : Int32) (1 : Int32) (0 : Int32) (0 : Int32) (32 : Int32) flk cs fm T69.heap n0 Z71 O70 S_CS hcs S_FM hfm (show own_HB Z T69.heap aH aT vT aP vP aQ aK ob o1 o2 o3 o4 [] [] (0 : Int32) [] [] 0 (0 : Int32) (0 : Int32) (1 : Int32) (0 : Int32) (0 : Int32) (0 : Int32) (1 : Int32) (0 : Int32) from ⟨_, _, _, _, _, _, _, _, _, HXq69⟩) D gN (by first | omega | decide | (simp; omega)) (by decide) (by decide) (by decide) (Or.inl rfl) ⟨by decide, by decide⟩ (Or.inl rfl) hxa (by decide) (Or.inl rfl)) hZ (own_w hw 192 rfl) (own_w hw 2 rfl) (by decide) (by decide)) q81a q81c (g := (mkF m 135 #[vI fl, vI ca, vI cb, vI cc, vI fl1, vI flp, vI flk, vI flc, vI fl2, vI flt, vI xa, vI xb, vI xc, vR aH, .unset, .unset, .unset, .unset] [(.int (1 : Int32)), (.int (0 : Int32)), (.int xa), (.ref aH)])) rfl (by rw [hml]; rfl) (Steps.refl _) (argsL := [(.int xa), (.int (0 : Int32)), (.int (1 : Int32))]) (rest := []) (lenOf pd_21 rfl) rfl (by show 2 * 0 + _ ≤ _; exact Nat.le_of_eq rfl) (hb hby at_135) (fun _ _ => ⟨rfl, rfl, (by decide : 12 + 0 ≤ room_1.cells), (by decide : 135 + 0 ≤ room_1.slots)⟩)
      dsimp only [Pt.U, Pt.locs, Pt.cells, Pt.slots] at X81 l81 y81 z81 st81 hQ81
      subst l81 y81 z81
      obtain ⟨rfl, N81q, Kq81, Hq81⟩ := hQ81
      have N81 := Fr.app N69 N81q
      have O82 := O70.keep Kq81 gN
      have Z83 := Nat.le_trans Z71 Kq81.1
      have K84 := K72.trans Kq81 (fun _ q => Or.inl q)
      obtain ⟨kTq81, kPq81, kQq81, kKq81, nTq81, mTq81, mPq81, rrq81, llq81, HXq81⟩ := Hq81
      have go85 : Goes p e below s₁ (entryFrame m #[(.int fl), (.int ca), (.int cb), (.int cc)] maxLocals) T81 (mkF m 138 #[vI fl, vI ca, vI cb, vI cc, vI fl1, vI flp, vI flk, vI flc, vI fl2, vI flt, vI xa, vI xb, vI xc, vR aH, .unset, .unset, .unset, .unset] []) := fun t k => by
        refine go75 t ?_
        refine XS.ifNo X69.here hx rfl (hb hby at_126) rfl (Jvm.Free.XT.i0_eq_f hc76) ?_
        refine XS.aload X69.here hx rfl (hb hby at_129) rfl rfl ?_
        refine XS.iload X69.here hx rfl (hb hby at_131) rfl ?_
        refine XS.iconst X69.here hx rfl (hb hby at_133) ?_
        refine XS.iconst X69.here hx rfl (hb hby at_134) ?_
        refine st81.trans ?_
        exact k
      exact ⟨T81, T81.heap, _, (own_lay [] (0 : Int32) (0 : Int32) flk (32 : Int32) ++ [xa]), (1 : Int32), (1 : Int32), X81, rfl, Z83, N81, O82, K84, ⟨_, _, _, _, _, _, _, _, _, HXq81⟩, ⟨by rw [if_neg hc76]; simp [own_lay], (h_fl1.resolve_left hc76).symm⟩, go85⟩
  obtain ⟨kTj74, kPj74, kQj74, kKj74, nTj74, mTj74, mPj74, rrj74, llj74, HXj74⟩ := Hj74
  have hL1 : tx1.length ≤ 1 := by rw [hj74.1]; split <;> simp
  obtain ⟨T86, h86, lo86, cP1, px1, po1, pk1, col1, X86, e86, Z86, N86, O86, K86, Hj86, hj86, go86j⟩ : ∃ (T' : State) (h' : Heap) (lo' : List Loc) (cP1 : Int32) (px1 : List Int32) (po1 : List Value) (pk1 : List Value) (col1 : Int32), Stand p l e room_1 s m #[(.int fl), (.int ca), (.int cb), (.int cc)] below meth c T' lo' 12 135 ∧ T'.heap = h' ∧ n0 ≤ h'.size ∧ Fr n0 lo' ∧ Old Z n0 h' ∧ Keep h0 h' [aH, aT, vT, aP, vP, aQ, aK, ob, o1, o2, o3, o4] ∧ own_HB Z h' aH aT vT aP vP aQ aK ob o1 o2 o3 o4 tx1 px1 cP1 po1 pk1 3 (0 : Int32) (0 : Int32) (1 : Int32) (0 : Int32) col1 ls1 (1 : Int32) rs1 ∧ (cP1 = flp ∧ (cP1 = 0 ∨ (cP1 = 1 ∧ px1 = [own_cq flc xc] ∧ po1 = [(.int (1 : Int32)), (.int (2 : Int32)), (.int (0 : Int32)), (.int (0 : Int32)), (.int (0 : Int32)), (.int (0 : Int32)), (.int (0 : Int32)), (.int (0 : Int32))] ∧ pk1 = [(.int flk), (.int (0 : Int32)), (.int (0 : Int32)), (.int (0 : Int32))]))) ∧ Goes p e below s₁ (entryFrame m #[(.int fl), (.int ca), (.int cb), (.int cc)] maxLocals) T' (mkF m 156 #[vI fl, vI ca, vI cb, vI cc, vI fl1, vI flp, vI flk, vI flc, vI fl2, vI flt, vI xa, vI xb, vI xc, vR aH, .unset, .unset, .unset, .unset] []) := by
    have go87 : Goes p e below s₁ (entryFrame m #[(.int fl), (.int ca), (.int cb), (.int cc)] maxLocals) T74 (mkF m 140 #[vI fl, vI ca, vI cb, vI cc, vI fl1, vI flp, vI flk, vI flc, vI fl2, vI flt, vI xa, vI xb, vI xc, vR aH, .unset, .unset, .unset, .unset] [(.int flp)]) := fun t k => by
      refine go74j t ?_
      refine XS.iload X74.here hx rfl (hb hby at_138) rfl ?_
      exact k
    by_cases hc88 : flp = (0 : Int32)
    · have go89 : Goes p e below s₁ (entryFrame m #[(.int fl), (.int ca), (.int cb), (.int cc)] maxLocals) T74 (mkF m 156 #[vI fl, vI ca, vI cb, vI cc, vI fl1, vI flp, vI flk, vI flc, vI fl2, vI flt, vI xa, vI xb, vI xc, vR aH, .unset, .unset, .unset, .unset] []) := fun t k => by
        refine go87 t ?_
        refine XS.ifYes X74.here hx rfl (pc0 := 140) (pc' := 156) rfl (hb hby at_140) rfl (Jvm.Free.XT.i0_eq_t hc88) (by decide) (by decide) ?_
        exact k
      exact ⟨T74, h74, _, (0 : Int32), [], [], [], (0 : Int32), X74, e74, Z74, N74, O74, K74, ⟨_, _, _, _, _, _, _, _, _, HXj74⟩, ⟨hc88.symm, Or.inl rfl⟩, go89⟩
    · have go90 : Goes p e below s₁ (entryFrame m #[(.int fl), (.int ca), (.int cb), (.int cc)] maxLocals) T74 (mkF m 153 #[vI fl, vI ca, vI cb, vI cc, vI fl1, vI flp, vI flk, vI flc, vI fl2, vI flt, vI xa, vI xb, vI xc, vR aH, .unset, .unset, .unset, .unset] [(.int flk), (.int flc), (.int (2 : Int32)), (.int (1 : Int32)), (.int xc), (.ref aH)]) := fun t k => by
        refine go87 t ?_
        refine XS.ifNo X74.here hx rfl (hb hby at_140) rfl (Jvm.Free.XT.i0_eq_f hc88) ?_
        refine XS.aload X74.here hx rfl (hb hby at_143) rfl rfl ?_
        refine XS.iload X74.here hx rfl (hb hby at_145) rfl ?_
        refine XS.iconst X74.here hx rfl (hb hby at_147) ?_
        refine XS.iconst X74.here hx rfl (hb hby at_148) ?_
        refine XS.iload X74.here hx rfl (hb hby at_149) rfl ?_
        show Steps p.tables e below (T74.setTop (mkF m 151 #[vI fl, vI ca, vI cb, vI cc, vI fl1, vI flp, vI flk, vI flc, vI fl2, vI flt, vI xa, vI xb, vI xc, vR aH, .unset, .unset, .unset, .unset] [(.int flc), (.int (2 : Int32)), (.int (1 : Int32)), (.int xc), (.ref aH)])) _
        refine XS.iload X74.here hx rfl (hb hby at_151) rfl ?_
        exact k
      rcases h_flc with hq0 | hq1
      · have go91 : Goes p e below s₁ (entryFrame m #[(.int fl), (.int ca), (.int cb), (.int cc)] maxLocals) T74 (mkF m 153 #[vI fl, vI ca, vI cb, vI cc, vI fl1, vI flp, vI flk, vI flc, vI fl2, vI flt, vI xa, vI xb, vI xc, vR aH, .unset, .unset, .unset, .unset] [(.int flk), (.int (0 : Int32)), (.int (2 : Int32)), (.int (1 : Int32)), (.int xc), (.ref aH)]) := Eq.mp (congrArg (fun zz => Goes p e below s₁ (entryFrame m #[(.int fl), (.int ca), (.int cb), (.int cc)] maxLocals) T74 (mkF m 153 #[vI fl, vI ca, vI cb, vI cc, vI fl1, vI flp, vI flk, vI flc, vI fl2, vI flt, vI xa, vI xb, vI xc, vR aH, .unset, .unset, .unset, .unset] [(.int flk), (.int zz), (.int (2 : Int32)), (.int (1 : Int32)), (.int xc), (.ref aH)])) hq0) go90
        obtain ⟨cq92, kq92, q92a, q92b, q92c⟩ := isOf hZ e74 (pj_EH HXj74)
        obtain ⟨_, _, ⟨T92, L92, k92, n92⟩, -, X92, ⟨Lc92, hQ92, l92, y92, z92⟩, st92⟩ := X74.virtualBack hx (y := mN_10) (z := mN_10) hown (mvT hZ (own_w hw 236 rfl)) (mvT hZ (own_w hw 237 rfl)) (notFace_of_selects (args := #[]) (mvT hZ (own_w hw 239 rfl))) (mvT hZ (own_w hw 239 rfl)) (mvT hZ (own_w hw 238 rfl)) (by decide) (backOf (W := 0) (rmSp0 l Z a0 hw [] aH xc flk aT vT aP vP aQ aK ob o1 o2 o3 o4 tx1 3 (0 : Int32) (0 : Int32) (1 : Int32) (0 : Int32) ls1 (1 : Int32) rs1  cs fm h74 n0 Z74 O74 S_CS hcs S_FM hfm (show own_HB Z h74 aH aT vT aP vP aQ aK ob o1 o2 o3 o4 tx1 [] (0 : Int32) [] [] 3 (0 : Int32) (0 : Int32) (1 : Int32) (0 : Int32) (0 : Int32) ls1 (1 : Int32) rs1 from ⟨_, _, _, _, _, _, _, _, _, HXj74⟩) D gN (by first | omega | decide | (simp; omega)) (by decide) hxc) hZ (own_w hw 240 rfl) (own_w hw 2 rfl) (by decide) (by decide)) q92a q92c (g := (mkF m 153 #[vI fl, vI ca, vI cb, vI cc, vI fl1, vI flp, vI flk, vI flc, vI fl2, vI flt, vI xa, vI xb, vI xc, vR aH, .unset, .unset, .unset, .unset] [(.int flk), (.int (0 : Int32)), (.int (2 : Int32)), (.int (1 : Int32)), (.int xc), (.ref aH)])) rfl (by rw [hml]; rfl) (Steps.refl _) (argsL := [(.int xc), (.int (1 : Int32)), (.int (2 : Int32)), (.int (0 : Int32)), (.int flk)]) (rest := []) (lenOf pd_22 rfl) rfl (by show 2 * 0 + _ ≤ _; exact Nat.le_of_eq rfl) (hb hby at_153) (fun _ _ => ⟨rfl, e74, (by decide : 12 + 0 ≤ room_1.cells), (by decide : 135 + 0 ≤ room_1.slots)⟩)
        dsimp only [Pt.U, Pt.locs, Pt.cells, Pt.slots] at X92 l92 y92 z92 st92 hQ92
        subst l92 y92 z92
        obtain ⟨rfl, N92q, Kq92, Hq92⟩ := hQ92
        have N92 := Fr.app N74 N92q
        have O93 := O74.keep Kq92 gN
        have Z94 := Nat.le_trans Z74 Kq92.1
        have K95 := K74.trans Kq92 (fun _ q => Or.inl q)
        obtain ⟨kTq92, kPq92, kQq92, kKq92, nTq92, mTq92, mPq92, rrq92, llq92, HXq92⟩ := Hq92
        have go96 : Goes p e below s₁ (entryFrame m #[(.int fl), (.int ca), (.int cb), (.int cc)] maxLocals) T92 (mkF m 156 #[vI fl, vI ca, vI cb, vI cc, vI fl1, vI flp, vI flk, vI flc, vI fl2, vI flt, vI xa, vI xb, vI xc, vR aH, .unset, .unset, .unset, .unset] []) := fun t k => by
          refine go91 t ?_
          refine st92.trans ?_
          exact k
        exact ⟨T92, T92.heap, _, (1 : Int32), [xc], [(.int (1 : Int32)), (.int (2 : Int32)), (.int (0 : Int32)), (.int (0 : Int32)), (.int (0 : Int32)), (.int (0 : Int32)), (.int (0 : Int32)), (.int (0 : Int32))], [(.int (nar .boolean flk)), (.int (0 : Int32)), (.int (0 : Int32)), (.int (0 : Int32))], (0 : Int32), X92, rfl, Z94, N92, O93, K95, ⟨_, _, _, _, _, _, _, _, _, HXq92⟩, ⟨(h_flp.resolve_left hc88).symm, Or.inr ⟨rfl, by rw [hq0]; rfl, rfl, by rw [own_nb h_flk]⟩⟩, go96⟩
      · have go97 : Goes p e below s₁ (entryFrame m #[(.int fl), (.int ca), (.int cb), (.int cc)] maxLocals) T74 (mkF m 153 #[vI fl, vI ca, vI cb, vI cc, vI fl1, vI flp, vI flk, vI flc, vI fl2, vI flt, vI xa, vI xb, vI xc, vR aH, .unset, .unset, .unset, .unset] [(.int flk), (.int (1 : Int32)), (.int (2 : Int32)), (.int (1 : Int32)), (.int xc), (.ref aH)]) := Eq.mp (congrArg (fun zz => Goes p e below s₁ (entryFrame m #[(.int fl), (.int ca), (.int cb), (.int cc)] maxLocals) T74 (mkF m 153 #[vI fl, vI ca, vI cb, vI cc, vI fl1, vI flp, vI flk, vI flc, vI fl2, vI flt, vI xa, vI xb, vI xc, vR aH, .unset, .unset, .unset, .unset] [(.int flk), (.int zz), (.int (2 : Int32)), (.int (1 : Int32)), (.int xc), (.ref aH)])) hq1) go90
        obtain ⟨cq98, kq98, q98a, q98b, q98c⟩ := isOf hZ e74 (pj_EH HXj74)
        obtain ⟨_, _, ⟨T98, L98, k98, n98⟩, -, X98, ⟨Lc98, hQ98, l98, y98, z98⟩, st98⟩ := X74.virtualBack hx (y := mN_10) (z := mN_10) hown (mvT hZ (own_w hw 236 rfl)) (mvT hZ (own_w hw 237 rfl)) (notFace_of_selects (args := #[]) (mvT hZ (own_w hw 239 rfl))) (mvT hZ (own_w hw 239 rfl)) (mvT hZ (own_w hw 238 rfl)) (by decide) (backOf (W := 0) (rmSp1 l Z a0 hw [] aH xc flk aT vT aP vP aQ aK ob o1 o2 o3 o4 tx1 3 (0 : Int32) (0 : Int32) (1 : Int32) (0 : Int32) ls1 (1 : Int32) rs1  cs fm h74 n0 Z74 O74 S_CS hcs S_FM hfm (show own_HB Z h74 aH aT vT aP vP aQ aK ob o1 o2 o3 o4 tx1 [] (0 : Int32) [] [] 3 (0 : Int32) (0 : Int32) (1 : Int32) (0 : Int32) (0 : Int32) ls1 (1 : Int32) rs1 from ⟨_, _, _, _, _, _, _, _, _, HXj74⟩) D gN (by first | omega | decide | (simp; omega)) (by decide) hxc) hZ (own_w hw 240 rfl) (own_w hw 2 rfl) (by decide) (by decide)) q98a q98c (g := (mkF m 153 #[vI fl, vI ca, vI cb, vI cc, vI fl1, vI flp, vI flk, vI flc, vI fl2, vI flt, vI xa, vI xb, vI xc, vR aH, .unset, .unset, .unset, .unset] [(.int flk), (.int (1 : Int32)), (.int (2 : Int32)), (.int (1 : Int32)), (.int xc), (.ref aH)])) rfl (by rw [hml]; rfl) (Steps.refl _) (argsL := [(.int xc), (.int (1 : Int32)), (.int (2 : Int32)), (.int (1 : Int32)), (.int flk)]) (rest := []) (lenOf pd_22 rfl) rfl (by show 2 * 0 + _ ≤ _; exact Nat.le_of_eq rfl) (hb hby at_153) (fun _ _ => ⟨rfl, e74, (by decide : 12 + 0 ≤ room_1.cells), (by decide : 135 + 0 ≤ room_1.slots)⟩)
        dsimp only [Pt.U, Pt.locs, Pt.cells, Pt.slots] at X98 l98 y98 z98 st98 hQ98
        subst l98 y98 z98
        obtain ⟨rfl, N98q, Kq98, Hq98⟩ := hQ98
        have N98 := Fr.app N74 N98q
        have O99 := O74.keep Kq98 gN
        have Z100 := Nat.le_trans Z74 Kq98.1
        have K101 := K74.trans Kq98 (fun _ q => Or.inl q)
        obtain ⟨kTq98, kPq98, kQq98, kKq98, nTq98, mTq98, mPq98, rrq98, llq98, HXq98⟩ := Hq98
        have go102 : Goes p e below s₁ (entryFrame m #[(.int fl), (.int ca), (.int cb), (.int cc)] maxLocals) T98 (mkF m 156 #[vI fl, vI ca, vI cb, vI cc, vI fl1, vI flp, vI flk, vI flc, vI fl2, vI flt, vI xa, vI xb, vI xc, vR aH, .unset, .unset, .unset, .unset] []) := fun t k => by
          refine go97 t ?_
          refine st98.trans ?_
          exact k
        exact ⟨T98, T98.heap, _, (1 : Int32), [(32 : Int32)], [(.int (1 : Int32)), (.int (2 : Int32)), (.int (0 : Int32)), (.int (0 : Int32)), (.int (0 : Int32)), (.int (0 : Int32)), (.int (0 : Int32)), (.int (0 : Int32))], [(.int (nar .boolean flk)), (.int (0 : Int32)), (.int (0 : Int32)), (.int (0 : Int32))], (1 : Int32), X98, rfl, Z100, N98, O99, K101, ⟨_, _, _, _, _, _, _, _, _, HXq98⟩, ⟨(h_flp.resolve_left hc88).symm, Or.inr ⟨rfl, by rw [hq1]; rfl, rfl, by rw [own_nb h_flk]⟩⟩, go102⟩
  obtain ⟨kTj86, kPj86, kQj86, kKj86, nTj86, mTj86, mPj86, rrj86, llj86, HXj86⟩ := Hj86
  have hcp1 : ∃ xs0, own_ln xs0 cP1 := by rcases hj86.2 with q | ⟨q, -⟩ <;> rw [q]; exact ⟨_, own_ln0⟩; exact ⟨_, own_ln1 0⟩
  obtain ⟨cq103, kq103, q103a, q103b, q103c⟩ := isOf hZ e86 (pj_EH HXj86)
  obtain ⟨_, _, ⟨T103, L103, k103, n103⟩, -, X103, ⟨Lc103, hQ103, l103, y103, z103⟩, st103⟩ := X86.virtualBack hx (y := mN_6) (z := mN_6) hown (mvT hZ (own_w hw 108 rfl)) (mvT hZ (own_w hw 109 rfl)) (notFace_of_selects (args := #[]) (mvT hZ (own_w hw 111 rfl))) (mvT hZ (own_w hw 111 rfl)) (mvT hZ (own_w hw 110 rfl)) (by decide) (backOf (W := 0) (rmHsc1 l Z a0 hw [] aH  aT vT aP vP aQ aK ob o1 o2 o3 o4 tx1 px1 cP1 po1 pk1 3 (0 : Int32) (0 : Int32) (0 : Int32) col1 ls1 (1 : Int32) rs1  cs fm h86 n0 Z86 O86 S_CS hcs S_FM hfm (show own_HB Z h86 aH aT vT aP vP aQ aK ob o1 o2 o3 o4 tx1 px1 cP1 po1 pk1 3 (0 : Int32) (0 : Int32) (1 : Int32) (0 : Int32) col1 ls1 (1 : Int32) rs1 from ⟨_, _, _, _, _, _, _, _, _, HXj86⟩) D gN (by first | omega | decide | (simp; omega)) (by decide) ) hZ (own_w hw 112 rfl) (own_w hw 2 rfl) (by decide) (by decide)) q103a q103c (g := (mkF m 158 #[vI fl, vI ca, vI cb, vI cc, vI fl1, vI flp, vI flk, vI flc, vI fl2, vI flt, vI xa, vI xb, vI xc, vR aH, .unset, .unset, .unset, .unset] [(.ref aH)])) rfl (by rw [hml]; rfl) (Steps.refl _) (argsL := []) (rest := []) (lenOf pd_14 rfl) rfl (by show 2 * 0 + _ ≤ _; exact Nat.le_of_eq rfl) (hb hby at_158) (fun _ _ => ⟨rfl, e86, (by decide : 12 + 0 ≤ room_1.cells), (by decide : 135 + 0 ≤ room_1.slots)⟩)
  dsimp only [Pt.U, Pt.locs, Pt.cells, Pt.slots] at X103 l103 y103 z103 st103 hQ103
  subst l103 y103 z103
  obtain ⟨rfl, N103q, Kq103, Hq103⟩ := hQ103
  have N103 := Fr.app N86 N103q
  have O104 := O86.keep Kq103 gN
  have Z105 := Nat.le_trans Z86 Kq103.1
  have K106 := K86.trans Kq103 (fun _ q => Or.inl q)
  obtain ⟨kTq103, kPq103, kQq103, kKq103, nTq103, mTq103, mPq103, rrq103, llq103, HXq103⟩ := Hq103
  have HX107 := (show own_HX Z T103.heap aH aT vT aP vP aQ aK ob o1 o2 o3 o4 kTq103 kPq103 kQq103 kKq103 nTq103 mTq103 mPq103 rrq103 llq103 tx1 px1 cP1 po1 pk1 3 (0 : Int32) (1 : Int32) (2 : Int32) (0 : Int32) col1 (0 : Int32) (1 : Int32) rs1 from HXq103)
  have hrs1 : rs1 = 0 ∨ rs1 = 1 := by rw [hj74.2]; exact h_fl1
  have hBl : (own_lay tx1 (1 : Int32) cP1 flk (own_cq flc xc)).length ≤ tx1.length + 2 := own_lay_len
  have go108 : Goes p e below s₁ (entryFrame m #[(.int fl), (.int ca), (.int cb), (.int cc)] maxLocals) T103 (mkF m 161 #[vI fl, vI ca, vI cb, vI cc, vI fl1, vI flp, vI flk, vI flc, vI fl2, vI flt, vI xa, vI xb, vI xc, vR aH, .unset, .unset, .unset, .unset] []) := fun t k => by
    refine go86j t ?_
    refine XS.aload X86.here hx rfl (hb hby at_156) rfl rfl ?_
    refine st103.trans ?_
    exact k
  obtain ⟨T109, h109, lo109, tx2, tabs2, rs2, ls2, cP2, col2, X109, e109, Z109, N109, O109, K109, Hj109, hj109, go109j⟩ : ∃ (T' : State) (h' : Heap) (lo' : List Loc) (tx2 : List Int32) (tabs2 : Int32) (rs2 : Int32) (ls2 : Int32) (cP2 : Int32) (col2 : Int32), Stand p l e room_1 s m #[(.int fl), (.int ca), (.int cb), (.int cc)] below meth c T' lo' 12 135 ∧ T'.heap = h' ∧ n0 ≤ h'.size ∧ Fr n0 lo' ∧ Old Z n0 h' ∧ Keep h0 h' [aH, aT, vT, aP, vP, aQ, aK, ob, o1, o2, o3, o4] ∧ own_HB Z h' aH aT vT aP vP aQ aK ob o1 o2 o3 o4 tx2 px1 cP2 po1 pk1 6 (0 : Int32) tabs2 (2 : Int32) (0 : Int32) col2 ls2 (1 : Int32) rs2 ∧ (tx2 = (if fl2 = 0 then tx1 else own_lay tx1 (1 : Int32) cP1 flk (own_cq flc xc) ++ [xb]) ∧ tabs2 = (if fl2 = 0 then 1 else 0) ∧ rs2 = (if fl2 = 0 then rs1 else 1) ∧ ∃ xs0, own_ln xs0 cP2) ∧ Goes p e below s₁ (entryFrame m #[(.int fl), (.int ca), (.int cb), (.int cc)] maxLocals) T' (mkF m 175 #[vI fl, vI ca, vI cb, vI cc, vI fl1, vI flp, vI flk, vI flc, vI fl2, vI flt, vI xa, vI xb, vI xc, vR aH, .unset, .unset, .unset, .unset] []) := by
    have go110 : Goes p e below s₁ (entryFrame m #[(.int fl), (.int ca), (.int cb), (.int cc)] maxLocals) T103 (mkF m 163 #[vI fl, vI ca, vI cb, vI cc, vI fl1, vI flp, vI flk, vI flc, vI fl2, vI flt, vI xa, vI xb, vI xc, vR aH, .unset, .unset, .unset, .unset] [(.int fl2)]) := fun t k => by
      refine go108 t ?_
      refine XS.iload X103.here hx rfl (hb hby at_161) rfl ?_
      exact k
    by_cases hc111 : fl2 = (0 : Int32)
    · have go112 : Goes p e below s₁ (entryFrame m #[(.int fl), (.int ca), (.int cb), (.int cc)] maxLocals) T103 (mkF m 175 #[vI fl, vI ca, vI cb, vI cc, vI fl1, vI flp, vI flk, vI flc, vI fl2, vI flt, vI xa, vI xb, vI xc, vR aH, .unset, .unset, .unset, .unset] []) := fun t k => by
        refine go110 t ?_
        refine XS.ifYes X103.here hx rfl (pc0 := 163) (pc' := 175) rfl (hb hby at_163) rfl (Jvm.Free.XT.i0_eq_t hc111) (by decide) (by decide) ?_
        exact k
      have HX113 := hx_up HX107
      have HX114 := hx_up HX113
      have HX115 := hx_up HX114
      exact ⟨T103, T103.heap, _, tx1, (1 : Int32), rs1, (0 : Int32), cP1, col1, X103, rfl, Z105, N103, O104, K106, ⟨_, _, _, _, _, _, _, _, _, HX115⟩, ⟨(if_pos hc111).symm, (if_pos hc111).symm, (if_pos hc111).symm, hcp1⟩, go112⟩
    · obtain ⟨cq116, kq116, q116a, q116b, q116c⟩ := isOf hZ rfl (pj_EH HX107)
      obtain ⟨_, _, ⟨T116, L116, k116, n116⟩, -, X116, ⟨Lc116, hQ116, l116, y116, z116⟩, st116⟩ := X103.virtualBack hx (y := mN_15) (z := mN_15) hown (mvT hZ (own_w hw 188 rfl)) (mvT hZ (own_w hw 189 rfl)) (notFace_of_selects (args := #[]) (mvT hZ (own_w hw 191 rfl))) (mvT hZ (own_w hw 191 rfl)) (mvT hZ (own_w hw 190 rfl)) (by decide) (backOf (W := 0) (rmSw l Z a0 hw [] aH xb (2 : Int32) (3 : Int32) aT vT aP vP aQ aK ob o1 o2 o3 o4 tx1 px1 cP1 po1 pk1 3 (1 : Int32) (2 : Int32) col1 rs1 (own_cq flc xc) flk cs fm T103.heap n0 Z105 O104 S_CS hcs S_FM hfm (show own_HB Z T103.heap aH aT vT aP vP aQ aK ob o1 o2 o3 o4 tx1 px1 cP1 po1 pk1 3 (0 : Int32) (1 : Int32) (2 : Int32) (0 : Int32) col1 (0 : Int32) (1 : Int32) rs1 from ⟨_, _, _, _, _, _, _, _, _, HX107⟩) D gN (by first | omega | decide | (simp; omega)) (by decide) (by omega) (by decide) (Or.inr rfl) (own_cq_r hxc) hj86.2 hxb (by decide) hrs1) hZ (own_w hw 192 rfl) (own_w hw 2 rfl) (by decide) (by decide)) q116a q116c (g := (mkF m 172 #[vI fl, vI ca, vI cb, vI cc, vI fl1, vI flp, vI flk, vI flc, vI fl2, vI flt, vI xa, vI xb, vI xc, vR aH, .unset, .unset, .unset, .unset] [(.int (3 : Int32)), (.int (2 : Int32)), (.int xb), (.ref aH)])) rfl (by rw [hml]; rfl) (Steps.refl _) (argsL := [(.int xb), (.int (2 : Int32)), (.int (3 : Int32))]) (rest := []) (lenOf pd_21 rfl) rfl (by show 2 * 0 + _ ≤ _; exact Nat.le_of_eq rfl) (hb hby at_172) (fun _ _ => ⟨rfl, rfl, (by decide : 12 + 0 ≤ room_1.cells), (by decide : 135 + 0 ≤ room_1.slots)⟩)
      dsimp only [Pt.U, Pt.locs, Pt.cells, Pt.slots] at X116 l116 y116 z116 st116 hQ116
      subst l116 y116 z116
      obtain ⟨rfl, N116q, Kq116, Hq116⟩ := hQ116
      have N116 := Fr.app N103 N116q
      have O117 := O104.keep Kq116 gN
      have Z118 := Nat.le_trans Z105 Kq116.1
      have K119 := K106.trans Kq116 (fun _ q => Or.inl q)
      obtain ⟨kTq116, kPq116, kQq116, kKq116, nTq116, mTq116, mPq116, rrq116, llq116, HXq116⟩ := Hq116
      have go120 : Goes p e below s₁ (entryFrame m #[(.int fl), (.int ca), (.int cb), (.int cc)] maxLocals) T116 (mkF m 175 #[vI fl, vI ca, vI cb, vI cc, vI fl1, vI flp, vI flk, vI flc, vI fl2, vI flt, vI xa, vI xb, vI xc, vR aH, .unset, .unset, .unset, .unset] []) := fun t k => by
        refine go110 t ?_
        refine XS.ifNo X103.here hx rfl (hb hby at_163) rfl (Jvm.Free.XT.i0_eq_f hc111) ?_
        refine XS.aload X103.here hx rfl (hb hby at_166) rfl rfl ?_
        refine XS.iload X103.here hx rfl (hb hby at_168) rfl ?_
        refine XS.iconst X103.here hx rfl (hb hby at_170) ?_
        refine XS.iconst X103.here hx rfl (hb hby at_171) ?_
        refine st116.trans ?_
        exact k
      exact ⟨T116, T116.heap, _, (own_lay tx1 (1 : Int32) cP1 flk (own_cq flc xc) ++ [xb]), (0 : Int32), (1 : Int32), (1 : Int32), (0 : Int32), (0 : Int32), X116, rfl, Z118, N116, O117, K119, ⟨_, _, _, _, _, _, _, _, _, HXq116⟩, ⟨(if_neg hc111).symm, (if_neg hc111).symm, (if_neg hc111).symm, ⟨_, own_ln0⟩⟩, go120⟩
  obtain ⟨kTj109, kPj109, kQj109, kKj109, nTj109, mTj109, mPj109, rrj109, llj109, HXj109⟩ := Hj109
  obtain ⟨ht2, hb2, hr2, xs2, hcp2⟩ := hj109
  have hL2 : tx2.length ≤ 4 := by rw [ht2]; split; omega; simp; omega
  obtain ⟨T121, h121, lo121, tabs3, cells3, ls3, X121, e121, Z121, N121, O121, K121, Hj121, hj121, go121j⟩ : ∃ (T' : State) (h' : Heap) (lo' : List Loc) (tabs3 : Int32) (cells3 : Int32) (ls3 : Int32), Stand p l e room_1 s m #[(.int fl), (.int ca), (.int cb), (.int cc)] below meth c T' lo' 12 135 ∧ T'.heap = h' ∧ n0 ≤ h'.size ∧ Fr n0 lo' ∧ Old Z n0 h' ∧ Keep h0 h' [aH, aT, vT, aP, vP, aQ, aK, ob, o1, o2, o3, o4] ∧ own_HB Z h' aH aT vT aP vP aQ aK ob o1 o2 o3 o4 tx2 px1 cP2 po1 pk1 6 (0 : Int32) tabs3 cells3 (0 : Int32) col2 ls3 (1 : Int32) rs2 ∧ (tabs3 = (if flt = 0 then tabs2 else tabs2 + 1)) ∧ Goes p e below s₁ (entryFrame m #[(.int fl), (.int ca), (.int cb), (.int cc)] maxLocals) T' (mkF m 185 #[vI fl, vI ca, vI cb, vI cc, vI fl1, vI flp, vI flk, vI flc, vI fl2, vI flt, vI xa, vI xb, vI xc, vR aH, .unset, .unset, .unset, .unset] []) := by
    have go122 : Goes p e below s₁ (entryFrame m #[(.int fl), (.int ca), (.int cb), (.int cc)] maxLocals) T109 (mkF m 177 #[vI fl, vI ca, vI cb, vI cc, vI fl1, vI flp, vI flk, vI flc, vI fl2, vI flt, vI xa, vI xb, vI xc, vR aH, .unset, .unset, .unset, .unset] [(.int flt)]) := fun t k => by
      refine go109j t ?_
      refine XS.iload X109.here hx rfl (hb hby at_175) rfl ?_
      exact k
    by_cases hc123 : flt = (0 : Int32)
    · have go124 : Goes p e below s₁ (entryFrame m #[(.int fl), (.int ca), (.int cb), (.int cc)] maxLocals) T109 (mkF m 185 #[vI fl, vI ca, vI cb, vI cc, vI fl1, vI flp, vI flk, vI flc, vI fl2, vI flt, vI xa, vI xb, vI xc, vR aH, .unset, .unset, .unset, .unset] []) := fun t k => by
        refine go122 t ?_
        refine XS.ifYes X109.here hx rfl (pc0 := 177) (pc' := 185) rfl (hb hby at_177) rfl (Jvm.Free.XT.i0_eq_t hc123) (by decide) (by decide) ?_
        exact k
      exact ⟨T109, h109, _, tabs2, (2 : Int32), ls2, X109, e109, Z109, N109, O109, K109, ⟨_, _, _, _, _, _, _, _, _, HXj109⟩, (if_pos hc123).symm, go124⟩
    · obtain ⟨cq125, kq125, q125a, q125b, q125c⟩ := isOf hZ e109 (pj_EH HXj109)
      obtain ⟨_, _, ⟨T125, L125, k125, n125⟩, -, X125, ⟨Lc125, hQ125, l125, y125, z125⟩, st125⟩ := X109.virtualBack hx (y := mN_6) (z := mN_6) hown (mvT hZ (own_w hw 108 rfl)) (mvT hZ (own_w hw 109 rfl)) (notFace_of_selects (args := #[]) (mvT hZ (own_w hw 111 rfl))) (mvT hZ (own_w hw 111 rfl)) (mvT hZ (own_w hw 110 rfl)) (by decide) (backOf (W := 0) (rmHsc2 l Z a0 hw [] aH  aT vT aP vP aQ aK ob o1 o2 o3 o4 tx2 px1 cP2 po1 pk1 6 (0 : Int32) tabs2 (0 : Int32) col2 ls2 (1 : Int32) rs2  cs fm h109 n0 Z109 O109 S_CS hcs S_FM hfm (show own_HB Z h109 aH aT vT aP vP aQ aK ob o1 o2 o3 o4 tx2 px1 cP2 po1 pk1 6 (0 : Int32) tabs2 (2 : Int32) (0 : Int32) col2 ls2 (1 : Int32) rs2 from ⟨_, _, _, _, _, _, _, _, _, HXj109⟩) D gN (by first | omega | decide | (simp; omega)) (by decide) ) hZ (own_w hw 112 rfl) (own_w hw 2 rfl) (by decide) (by decide)) q125a q125c (g := (mkF m 182 #[vI fl, vI ca, vI cb, vI cc, vI fl1, vI flp, vI flk, vI flc, vI fl2, vI flt, vI xa, vI xb, vI xc, vR aH, .unset, .unset, .unset, .unset] [(.ref aH)])) rfl (by rw [hml]; rfl) (Steps.refl _) (argsL := []) (rest := []) (lenOf pd_14 rfl) rfl (by show 2 * 0 + _ ≤ _; exact Nat.le_of_eq rfl) (hb hby at_182) (fun _ _ => ⟨rfl, e109, (by decide : 12 + 0 ≤ room_1.cells), (by decide : 135 + 0 ≤ room_1.slots)⟩)
      dsimp only [Pt.U, Pt.locs, Pt.cells, Pt.slots] at X125 l125 y125 z125 st125 hQ125
      subst l125 y125 z125
      obtain ⟨rfl, N125q, Kq125, Hq125⟩ := hQ125
      have N125 := Fr.app N109 N125q
      have O126 := O109.keep Kq125 gN
      have Z127 := Nat.le_trans Z109 Kq125.1
      have K128 := K109.trans Kq125 (fun _ q => Or.inl q)
      obtain ⟨kTq125, kPq125, kQq125, kKq125, nTq125, mTq125, mPq125, rrq125, llq125, HXq125⟩ := Hq125
      have go129 : Goes p e below s₁ (entryFrame m #[(.int fl), (.int ca), (.int cb), (.int cc)] maxLocals) T125 (mkF m 185 #[vI fl, vI ca, vI cb, vI cc, vI fl1, vI flp, vI flk, vI flc, vI fl2, vI flt, vI xa, vI xb, vI xc, vR aH, .unset, .unset, .unset, .unset] []) := fun t k => by
        refine go122 t ?_
        refine XS.ifNo X109.here hx rfl (hb hby at_177) rfl (Jvm.Free.XT.i0_eq_f hc123) ?_
        refine XS.aload X109.here hx rfl (hb hby at_180) rfl rfl ?_
        refine st125.trans ?_
        exact k
      exact ⟨T125, T125.heap, _, (tabs2 + (1 : Int32)), (3 : Int32), (0 : Int32), X125, rfl, Z127, N125, O126, K128, ⟨_, _, _, _, _, _, _, _, _, HXq125⟩, (if_neg hc123).symm, go129⟩
  obtain ⟨kTj121, kPj121, kQj121, kKj121, nTj121, mTj121, mPj121, rrj121, llj121, HXj121⟩ := Hj121
  have hrs2 : rs2 = 0 ∨ rs2 = 1 := by rw [hr2]; split; exact hrs1; exact Or.inr rfl
  have htb3 : tabs3 = 0 ∨ tabs3 = 1 ∨ tabs3 = 2 := by rw [hj121, hb2]; split <;> split <;> simp
  obtain ⟨T130, h130, lo130, tx4, par4, brk4, rs4, X130, e130, Z130, N130, O130, K130, Hj130, hj130, go130j⟩ : ∃ (T' : State) (h' : Heap) (lo' : List Loc) (tx4 : List Int32) (par4 : Int32) (brk4 : Int32) (rs4 : Int32), Stand p l e room_1 s m #[(.int fl), (.int ca), (.int cb), (.int cc)] below meth c T' lo' 12 135 ∧ T'.heap = h' ∧ n0 ≤ h'.size ∧ Fr n0 lo' ∧ Old Z n0 h' ∧ Keep h0 h' [aH, aT, vT, aP, vP, aQ, aK, ob, o1, o2, o3, o4] ∧ own_HB Z h' aH aT vT aP vP aQ aK ob o1 o2 o3 o4 tx4 px1 (0 : Int32) po1 pk1 7 brk4 (0 : Int32) cells3 par4 (0 : Int32) (0 : Int32) (0 : Int32) rs4 ∧ (tx4 = own_end rs2 tabs3 tx2) ∧ Goes p e below s₁ (entryFrame m #[(.int fl), (.int ca), (.int cb), (.int cc)] maxLocals) T' (mkF m 191 #[vI fl, vI ca, vI cb, vI cc, vI fl1, vI flp, vI flk, vI flc, vI fl2, vI flt, vI xa, vI xb, vI xc, vR aH, .unset, .unset, .unset, .unset] []) := by
    have go131 : Goes p e below s₁ (entryFrame m #[(.int fl), (.int ca), (.int cb), (.int cc)] maxLocals) T121 (mkF m 188 #[vI fl, vI ca, vI cb, vI cc, vI fl1, vI flp, vI flk, vI flc, vI fl2, vI flt, vI xa, vI xb, vI xc, vR aH, .unset, .unset, .unset, .unset] [(.int (3 : Int32)), (.ref aH)]) := fun t k => by
      refine go121j t ?_
      refine XS.aload X121.here hx rfl (hb hby at_185) rfl rfl ?_
      refine XS.iconst X121.here hx rfl (hb hby at_187) ?_
      exact k
    rcases (own_hc hrs2 htb3) with hr | ⟨hr, ht⟩ | ⟨hr, ht⟩ | ⟨hr, ht⟩
    · have HX132 := (by have q := HXj121; rw [hr] at q; exact q : own_HX Z h121 aH aT vT aP vP aQ aK ob o1 o2 o3 o4 kTj121 kPj121 kQj121 kKj121 nTj121 mTj121 mPj121 rrj121 llj121 tx2 px1 cP2 po1 pk1 6 (0 : Int32) tabs3 cells3 (0 : Int32) col2 ls3 (1 : Int32) (0 : Int32))
      obtain ⟨cq133, kq133, q133a, q133b, q133c⟩ := isOf hZ e121 (pj_EH HX132)
      obtain ⟨_, _, ⟨T133, L133, k133, n133⟩, -, X133, ⟨Lc133, hQ133, l133, y133, z133⟩, st133⟩ := X121.virtualBack hx (y := mN_2) (z := mN_2) hown (mvT hZ (own_w hw 113 rfl)) (mvT hZ (own_w hw 114 rfl)) (notFace_of_selects (args := #[]) (mvT hZ (own_w hw 116 rfl))) (mvT hZ (own_w hw 116 rfl)) (mvT hZ (own_w hw 115 rfl)) (by decide) (backOf (W := 0) (rmE l Z a0 hw [] aH (3 : Int32) aT vT aP vP aQ aK ob o1 o2 o3 o4 tx2 px1 cP2 po1 pk1 6 (0 : Int32) tabs3 cells3 (0 : Int32) col2 ls3 xs2 cs fm h121 n0 Z121 O121 S_CS hcs S_FM hfm (show own_HB Z h121 aH aT vT aP vP aQ aK ob o1 o2 o3 o4 tx2 px1 cP2 po1 pk1 6 (0 : Int32) tabs3 cells3 (0 : Int32) col2 ls3 (1 : Int32) (0 : Int32) from ⟨_, _, _, _, _, _, _, _, _, HX132⟩) D gN (by first | omega | decide | (simp; omega)) (by decide) (by omega) (by decide) hcp2) hZ (own_w hw 117 rfl) (own_w hw 2 rfl) (by decide) (by decide)) q133a q133c (g := (mkF m 188 #[vI fl, vI ca, vI cb, vI cc, vI fl1, vI flp, vI flk, vI flc, vI fl2, vI flt, vI xa, vI xb, vI xc, vR aH, .unset, .unset, .unset, .unset] [(.int (3 : Int32)), (.ref aH)])) rfl (by rw [hml]; rfl) (Steps.refl _) (argsL := [(.int (3 : Int32))]) (rest := []) (lenOf pd_0 rfl) rfl (by show 2 * 0 + _ ≤ _; exact Nat.le_of_eq rfl) (hb hby at_188) (fun _ _ => ⟨rfl, e121, (by decide : 12 + 0 ≤ room_1.cells), (by decide : 135 + 0 ≤ room_1.slots)⟩)
      dsimp only [Pt.U, Pt.locs, Pt.cells, Pt.slots] at X133 l133 y133 z133 st133 hQ133
      subst l133 y133 z133
      obtain ⟨rfl, N133q, Kq133, par133, brk133, Hq133⟩ := hQ133
      have N133 := Fr.app N121 N133q
      have O134 := O121.keep Kq133 gN
      have Z135 := Nat.le_trans Z121 Kq133.1
      have K136 := K121.trans Kq133 (fun _ q => Or.inl q)
      obtain ⟨kTq133, kPq133, kQq133, kKq133, nTq133, mTq133, mPq133, rrq133, llq133, HXq133⟩ := Hq133
      have go137 : Goes p e below s₁ (entryFrame m #[(.int fl), (.int ca), (.int cb), (.int cc)] maxLocals) T133 (mkF m 191 #[vI fl, vI ca, vI cb, vI cc, vI fl1, vI flp, vI flk, vI flc, vI fl2, vI flt, vI xa, vI xb, vI xc, vR aH, .unset, .unset, .unset, .unset] []) := fun t k => by
        refine go131 t ?_
        refine st133.trans ?_
        exact k
      have HX138 := hx_up HXq133
      exact ⟨T133, T133.heap, _, tx2, par133, brk133, (0 : Int32), X133, rfl, Z135, N133, O134, K136, ⟨_, _, _, _, _, _, _, _, _, HX138⟩, by rw [hr]; rfl, go137⟩
    · have HX139 := (by have q := HXj121; rw [hr, ht] at q; exact q : own_HX Z h121 aH aT vT aP vP aQ aK ob o1 o2 o3 o4 kTj121 kPj121 kQj121 kKj121 nTj121 mTj121 mPj121 rrj121 llj121 tx2 px1 cP2 po1 pk1 6 (0 : Int32) (0 : Int32) cells3 (0 : Int32) col2 ls3 (1 : Int32) (1 : Int32))
      obtain ⟨cq140, kq140, q140a, q140b, q140c⟩ := isOf hZ e121 (pj_EH HX139)
      obtain ⟨_, _, ⟨T140, L140, k140, n140⟩, -, X140, ⟨Lc140, hQ140, l140, y140, z140⟩, st140⟩ := X121.virtualBack hx (y := mN_2) (z := mN_2) hown (mvT hZ (own_w hw 113 rfl)) (mvT hZ (own_w hw 114 rfl)) (notFace_of_selects (args := #[]) (mvT hZ (own_w hw 116 rfl))) (mvT hZ (own_w hw 116 rfl)) (mvT hZ (own_w hw 115 rfl)) (by decide) (backOf (W := 0) (rmE0 l Z a0 hw [] aH (3 : Int32) aT vT aP vP aQ aK ob o1 o2 o3 o4 tx2 px1 cP2 po1 pk1 6 (0 : Int32) cells3 (0 : Int32) col2 ls3 xs2 cs fm h121 n0 Z121 O121 S_CS hcs S_FM hfm (show own_HB Z h121 aH aT vT aP vP aQ aK ob o1 o2 o3 o4 tx2 px1 cP2 po1 pk1 6 (0 : Int32) (0 : Int32) cells3 (0 : Int32) col2 ls3 (1 : Int32) (1 : Int32) from ⟨_, _, _, _, _, _, _, _, _, HX139⟩) D gN (by first | omega | decide | (simp; omega)) (by decide) (by omega) (by decide) hcp2) hZ (own_w hw 117 rfl) (own_w hw 2 rfl) (by decide) (by decide)) q140a q140c (g := (mkF m 188 #[vI fl, vI ca, vI cb, vI cc, vI fl1, vI flp, vI flk, vI flc, vI fl2, vI flt, vI xa, vI xb, vI xc, vR aH, .unset, .unset, .unset, .unset] [(.int (3 : Int32)), (.ref aH)])) rfl (by rw [hml]; rfl) (Steps.refl _) (argsL := [(.int (3 : Int32))]) (rest := []) (lenOf pd_0 rfl) rfl (by show 2 * 0 + _ ≤ _; exact Nat.le_of_eq rfl) (hb hby at_188) (fun _ _ => ⟨rfl, e121, (by decide : 12 + 0 ≤ room_1.cells), (by decide : 135 + 0 ≤ room_1.slots)⟩)
      dsimp only [Pt.U, Pt.locs, Pt.cells, Pt.slots] at X140 l140 y140 z140 st140 hQ140
      subst l140 y140 z140
      obtain ⟨rfl, N140q, Kq140, par140, brk140, Hq140⟩ := hQ140
      have N140 := Fr.app N121 N140q
      have O141 := O121.keep Kq140 gN
      have Z142 := Nat.le_trans Z121 Kq140.1
      have K143 := K121.trans Kq140 (fun _ q => Or.inl q)
      obtain ⟨kTq140, kPq140, kQq140, kKq140, nTq140, mTq140, mPq140, rrq140, llq140, HXq140⟩ := Hq140
      have go144 : Goes p e below s₁ (entryFrame m #[(.int fl), (.int ca), (.int cb), (.int cc)] maxLocals) T140 (mkF m 191 #[vI fl, vI ca, vI cb, vI cc, vI fl1, vI flp, vI flk, vI flc, vI fl2, vI flt, vI xa, vI xb, vI xc, vR aH, .unset, .unset, .unset, .unset] []) := fun t k => by
        refine go131 t ?_
        refine st140.trans ?_
        exact k
      have HX145 := hx_up HXq140
      exact ⟨T140, T140.heap, _, tx2, par140, brk140, (1 : Int32), X140, rfl, Z142, N140, O141, K143, ⟨_, _, _, _, _, _, _, _, _, HX145⟩, by rw [hr, ht]; rfl, go144⟩
    · have HX146 := (by have q := HXj121; rw [hr, ht] at q; exact q : own_HX Z h121 aH aT vT aP vP aQ aK ob o1 o2 o3 o4 kTj121 kPj121 kQj121 kKj121 nTj121 mTj121 mPj121 rrj121 llj121 tx2 px1 cP2 po1 pk1 6 (0 : Int32) (1 : Int32) cells3 (0 : Int32) col2 ls3 (1 : Int32) (1 : Int32))
      obtain ⟨cq147, kq147, q147a, q147b, q147c⟩ := isOf hZ e121 (pj_EH HX146)
      obtain ⟨_, _, ⟨T147, L147, k147, n147⟩, -, X147, ⟨Lc147, hQ147, l147, y147, z147⟩, st147⟩ := X121.virtualBack hx (y := mN_2) (z := mN_2) hown (mvT hZ (own_w hw 113 rfl)) (mvT hZ (own_w hw 114 rfl)) (notFace_of_selects (args := #[]) (mvT hZ (own_w hw 116 rfl))) (mvT hZ (own_w hw 116 rfl)) (mvT hZ (own_w hw 115 rfl)) (by decide) (backOf (W := 0) (rmE1 l Z a0 hw [] aH (3 : Int32) aT vT aP vP aQ aK ob o1 o2 o3 o4 tx2 px1 cP2 po1 pk1 6 (0 : Int32) cells3 (0 : Int32) col2 ls3 xs2 cs fm h121 n0 Z121 O121 S_CS hcs S_FM hfm (show own_HB Z h121 aH aT vT aP vP aQ aK ob o1 o2 o3 o4 tx2 px1 cP2 po1 pk1 6 (0 : Int32) (1 : Int32) cells3 (0 : Int32) col2 ls3 (1 : Int32) (1 : Int32) from ⟨_, _, _, _, _, _, _, _, _, HX146⟩) D gN (by first | omega | decide | (simp; omega)) (by decide) (by omega) (by decide) hcp2) hZ (own_w hw 117 rfl) (own_w hw 2 rfl) (by decide) (by decide)) q147a q147c (g := (mkF m 188 #[vI fl, vI ca, vI cb, vI cc, vI fl1, vI flp, vI flk, vI flc, vI fl2, vI flt, vI xa, vI xb, vI xc, vR aH, .unset, .unset, .unset, .unset] [(.int (3 : Int32)), (.ref aH)])) rfl (by rw [hml]; rfl) (Steps.refl _) (argsL := [(.int (3 : Int32))]) (rest := []) (lenOf pd_0 rfl) rfl (by show 2 * 0 + _ ≤ _; exact Nat.le_of_eq rfl) (hb hby at_188) (fun _ _ => ⟨rfl, e121, (by decide : 12 + 0 ≤ room_1.cells), (by decide : 135 + 0 ≤ room_1.slots)⟩)
      dsimp only [Pt.U, Pt.locs, Pt.cells, Pt.slots] at X147 l147 y147 z147 st147 hQ147
      subst l147 y147 z147
      obtain ⟨rfl, N147q, Kq147, par147, brk147, Hq147⟩ := hQ147
      have N147 := Fr.app N121 N147q
      have O148 := O121.keep Kq147 gN
      have Z149 := Nat.le_trans Z121 Kq147.1
      have K150 := K121.trans Kq147 (fun _ q => Or.inl q)
      obtain ⟨kTq147, kPq147, kQq147, kKq147, nTq147, mTq147, mPq147, rrq147, llq147, HXq147⟩ := Hq147
      have go151 : Goes p e below s₁ (entryFrame m #[(.int fl), (.int ca), (.int cb), (.int cc)] maxLocals) T147 (mkF m 191 #[vI fl, vI ca, vI cb, vI cc, vI fl1, vI flp, vI flk, vI flc, vI fl2, vI flt, vI xa, vI xb, vI xc, vR aH, .unset, .unset, .unset, .unset] []) := fun t k => by
        refine go131 t ?_
        refine st147.trans ?_
        exact k
      exact ⟨T147, T147.heap, _, (tx2 ++ [(9 : Int32)]), par147, brk147, (1 : Int32), X147, rfl, Z149, N147, O148, K150, ⟨_, _, _, _, _, _, _, _, _, HXq147⟩, by rw [hr, ht]; rfl, go151⟩
    · have HX152 := (by have q := HXj121; rw [hr, ht] at q; exact q : own_HX Z h121 aH aT vT aP vP aQ aK ob o1 o2 o3 o4 kTj121 kPj121 kQj121 kKj121 nTj121 mTj121 mPj121 rrj121 llj121 tx2 px1 cP2 po1 pk1 6 (0 : Int32) (2 : Int32) cells3 (0 : Int32) col2 ls3 (1 : Int32) (1 : Int32))
      obtain ⟨cq153, kq153, q153a, q153b, q153c⟩ := isOf hZ e121 (pj_EH HX152)
      obtain ⟨_, _, ⟨T153, L153, k153, n153⟩, -, X153, ⟨Lc153, hQ153, l153, y153, z153⟩, st153⟩ := X121.virtualBack hx (y := mN_2) (z := mN_2) hown (mvT hZ (own_w hw 113 rfl)) (mvT hZ (own_w hw 114 rfl)) (notFace_of_selects (args := #[]) (mvT hZ (own_w hw 116 rfl))) (mvT hZ (own_w hw 116 rfl)) (mvT hZ (own_w hw 115 rfl)) (by decide) (backOf (W := 0) (rmE2 l Z a0 hw [] aH (3 : Int32) aT vT aP vP aQ aK ob o1 o2 o3 o4 tx2 px1 cP2 po1 pk1 6 (0 : Int32) cells3 (0 : Int32) col2 ls3 xs2 cs fm h121 n0 Z121 O121 S_CS hcs S_FM hfm (show own_HB Z h121 aH aT vT aP vP aQ aK ob o1 o2 o3 o4 tx2 px1 cP2 po1 pk1 6 (0 : Int32) (2 : Int32) cells3 (0 : Int32) col2 ls3 (1 : Int32) (1 : Int32) from ⟨_, _, _, _, _, _, _, _, _, HX152⟩) D gN (by first | omega | decide | (simp; omega)) (by decide) (by omega) (by decide) hcp2) hZ (own_w hw 117 rfl) (own_w hw 2 rfl) (by decide) (by decide)) q153a q153c (g := (mkF m 188 #[vI fl, vI ca, vI cb, vI cc, vI fl1, vI flp, vI flk, vI flc, vI fl2, vI flt, vI xa, vI xb, vI xc, vR aH, .unset, .unset, .unset, .unset] [(.int (3 : Int32)), (.ref aH)])) rfl (by rw [hml]; rfl) (Steps.refl _) (argsL := [(.int (3 : Int32))]) (rest := []) (lenOf pd_0 rfl) rfl (by show 2 * 0 + _ ≤ _; exact Nat.le_of_eq rfl) (hb hby at_188) (fun _ _ => ⟨rfl, e121, (by decide : 12 + 0 ≤ room_1.cells), (by decide : 135 + 0 ≤ room_1.slots)⟩)
      dsimp only [Pt.U, Pt.locs, Pt.cells, Pt.slots] at X153 l153 y153 z153 st153 hQ153
      subst l153 y153 z153
      obtain ⟨rfl, N153q, Kq153, par153, brk153, Hq153⟩ := hQ153
      have N153 := Fr.app N121 N153q
      have O154 := O121.keep Kq153 gN
      have Z155 := Nat.le_trans Z121 Kq153.1
      have K156 := K121.trans Kq153 (fun _ q => Or.inl q)
      obtain ⟨kTq153, kPq153, kQq153, kKq153, nTq153, mTq153, mPq153, rrq153, llq153, HXq153⟩ := Hq153
      have go157 : Goes p e below s₁ (entryFrame m #[(.int fl), (.int ca), (.int cb), (.int cc)] maxLocals) T153 (mkF m 191 #[vI fl, vI ca, vI cb, vI cc, vI fl1, vI flp, vI flk, vI flc, vI fl2, vI flt, vI xa, vI xb, vI xc, vR aH, .unset, .unset, .unset, .unset] []) := fun t k => by
        refine go131 t ?_
        refine st153.trans ?_
        exact k
      exact ⟨T153, T153.heap, _, ((tx2 ++ [(9 : Int32)]) ++ [(9 : Int32)]), par153, brk153, (1 : Int32), X153, rfl, Z155, N153, O154, K156, ⟨_, _, _, _, _, _, _, _, _, HXq153⟩, by rw [hr, ht]; rfl, go157⟩
  obtain ⟨kTj130, kPj130, kQj130, kKj130, nTj130, mTj130, mPj130, rrj130, llj130, HXj130⟩ := Hj130
  have ex4 : tx4 = own_tabs fl1 fl2 (own_ow fl2 flt) (if fl2 = 0 then (if fl1 = 0 then [] else [xa]) else (((if fl1 = 0 then [] else [xa]) ++ [9]) ++ own_kp flp flk flc xc) ++ [xb]) := by rw [hj130, hj121, ht2, hb2, hr2, hj74.1, hj74.2, hj86.1]; exact own_all h_fl1 h_flp h_flk h_flc h_fl2 h_flt
  have hL4 : tx4.length ≤ 5 := by rw [ex4]; exact own_tabs_len h_fl2 h_flt own_l4
  obtain ⟨cq158, kq158, q158a, q158b, q158c⟩ := isOf hZ e130 (pj_EH HXj130)
  obtain ⟨_, _, ⟨T158, L158, k158, n158⟩, -, X158, ⟨Lc158, hQ158, l158, y158, z158⟩, st158⟩ := X130.virtualBack hx (y := mN_29) (z := mN_29) hown (mvT hZ (own_w hw 118 rfl)) (mvT hZ (own_w hw 119 rfl)) (notFace_of_selects (args := #[]) (mvT hZ (own_w hw 121 rfl))) (mvT hZ (own_w hw 121 rfl)) (mvT hZ (own_w hw 120 rfl)) (by decide) (backOf (W := 0) (rmFi l Z a0 hw [] aH (3 : Int32) aT vT aP vP aQ aK ob o1 o2 o3 o4 tx4 px1 (0 : Int32) po1 pk1 7 brk4 (0 : Int32) cells3 par4 (0 : Int32) (0 : Int32) (0 : Int32) rs4 cs fm h130 n0 Z130 O130 S_CS hcs S_FM hfm (show own_HB Z h130 aH aT vT aP vP aQ aK ob o1 o2 o3 o4 tx4 px1 (0 : Int32) po1 pk1 7 brk4 (0 : Int32) cells3 par4 (0 : Int32) (0 : Int32) (0 : Int32) rs4 from ⟨_, _, _, _, _, _, _, _, _, HXj130⟩) D gN (by first | omega | decide | (simp; omega)) (by decide) (by omega) (by decide)) hZ (own_w hw 122 rfl) (own_w hw 2 rfl) (by decide) (by decide)) q158a q158c (g := (mkF m 194 #[vI fl, vI ca, vI cb, vI cc, vI fl1, vI flp, vI flk, vI flc, vI fl2, vI flt, vI xa, vI xb, vI xc, vR aH, .unset, .unset, .unset, .unset] [(.int (3 : Int32)), (.ref aH)])) rfl (by rw [hml]; rfl) (Steps.refl _) (argsL := [(.int (3 : Int32))]) (rest := []) (lenOf pd_23 rfl) rfl (by show 2 * 0 + _ ≤ _; exact Nat.le_of_eq rfl) (hb hby at_194) (fun _ _ => ⟨rfl, e130, (by decide : 12 + 2 ≤ room_1.cells), (by decide : 135 + 16 ≤ room_1.slots)⟩)
  dsimp only [Pt.U, Pt.locs, Pt.cells, Pt.slots] at X158 l158 y158 z158 st158 hQ158
  subst l158 y158 z158
  obtain ⟨sa158, sb158, kb158, nz158, rfl, N158q, Kq158, gS158, leS158, gB158, leB158, lnq158, Eq158, Cq158, Fq158, Vq158⟩ := hQ158
  have N158 := Fr.app N130 N158q
  have le_sa158 := leS158
  have le_sb158 := leB158
  have gn_sa158 : n0 ≤ sa158 := Nat.le_trans Z130 le_sa158
  have sz_sa158 : h0.size ≤ sa158 := Nat.le_trans K130.1 le_sa158
  have gn_sb158 : n0 ≤ sb158 := Nat.le_trans Z130 le_sb158
  have sz_sb158 : h0.size ≤ sb158 := Nat.le_trans K130.1 le_sb158
  have O159 := O130.keep Kq158 gN
  have Z160 := Nat.le_trans Z130 Kq158.1
  have K161 := K130.trans Kq158 (fun _ q => Or.inl q)
  obtain ⟨T162, h162, k162, X162, e162, E162, A162, st162⟩ := newP X158 hx hZ (own_w hw 172 rfl) rfl (g := (mkF m 201 #[vI fl, vI ca, vI cb, vI cc, vI fl1, vI flp, vI flk, vI flc, vI fl2, vI flt, vI xa, vI xb, vI xc, vR aH, vR sa158, .unset, .unset, .unset] [(.int (6 : Int32))])) rfl (hb hby at_201) rfl (by decide) (cap := 6) (by decide) (by decide) (by decide) (by decide)
  obtain ⟨aE, g_b_aE⟩ : ∃ z, z = T158.heap.size := ⟨_, rfl⟩
  have le_aE : T158.heap.size ≤ aE := Nat.le_of_eq g_b_aE.symm
  have gn_aE : n0 ≤ aE := Nat.le_trans Z160 le_aE
  have sz_aE : h0.size ≤ aE := Nat.le_trans K161.1 le_aE
  rw [← g_b_aE] at A162 st162
  have f163 := Eq158.ext E162
  have f164 := Cq158.ext E162
  have f165 := Fq158.ext E162
  have f166 := Vq158.ext E162
  have O167 := O159.ext E162
  have Z168 := Nat.le_trans Z160 E162.1
  have K169 := K161.ext E162
  have V170 : Arv Z h162 aE k162 .char (6 : Int32) [(.int (0 : Int32)), (.int (0 : Int32)), (.int (0 : Int32)), (.int (0 : Int32)), (.int (0 : Int32)), (.int (0 : Int32))] (.int (0 : Int32)) := (Arv.new A162 (by decide)).pad (pad_rep [] (.int (0 : Int32)) 6)
  have V171 : Arv Z h162 aE k162 .char 6 (List.map Value.int []) (.int (0 : Int32)) := own_fresh 6 rfl (V170)
  have go172 : Goes p e below s₁ (entryFrame m #[(.int fl), (.int ca), (.int cb), (.int cc)] maxLocals) T162 (mkF m 208 #[vI fl, vI ca, vI cb, vI cc, vI fl1, vI flp, vI flk, vI flc, vI fl2, vI flt, vI xa, vI xb, vI xc, vR aH, vR sa158, vR aE, vI (0 : Int32), .unset] []) := fun t k => by
    refine go130j t ?_
    refine XS.aload X130.here hx rfl (hb hby at_191) rfl rfl ?_
    refine XS.iconst X130.here hx rfl (hb hby at_193) ?_
    refine st158.trans ?_
    refine XS.astore X158.here hx rfl (hb hby at_197) rfl rfl (l' := #[vI fl, vI ca, vI cb, vI cc, vI fl1, vI flp, vI flk, vI flc, vI fl2, vI flt, vI xa, vI xb, vI xc, vR aH, vR sa158, .unset, .unset, .unset]) rfl ?_
    refine XS.bipush X158.here hx rfl (hb hby at_199) ?_
    refine st162 t ?_
    show Steps p.tables e below (T162.setTop (mkF m 203 #[vI fl, vI ca, vI cb, vI cc, vI fl1, vI flp, vI flk, vI flc, vI fl2, vI flt, vI xa, vI xb, vI xc, vR aH, vR sa158, .unset, .unset, .unset] [(.ref aE)])) _
    refine XS.astore X162.here hx rfl (hb hby at_203) rfl rfl (l' := #[vI fl, vI ca, vI cb, vI cc, vI fl1, vI flp, vI flk, vI flc, vI fl2, vI flt, vI xa, vI xb, vI xc, vR aH, vR sa158, vR aE, .unset, .unset]) rfl ?_
    refine XS.iconst X162.here hx rfl (hb hby at_205) ?_
    refine XS.istore X162.here hx rfl (hb hby at_206) rfl (l' := #[vI fl, vI ca, vI cb, vI cc, vI fl1, vI flp, vI flk, vI flc, vI fl2, vI flt, vI xa, vI xb, vI xc, vR aH, vR sa158, vR aE, vI (0 : Int32), .unset]) rfl ?_
    exact k
  obtain ⟨T173, h173, lo173, ys1, ne1, X173, e173, Z173, N173, O173, fj173_0, fj173_1, fj173_2, fj173_3, V173, ln173, rg173, hj173, go173j⟩ : ∃ (T' : State) (h' : Heap) (lo' : List Loc) (ys1 : List Int32) (ne1 : Int32), Stand p l e room_1 s m #[(.int fl), (.int ca), (.int cb), (.int cc)] below meth c T' lo' 15 157 ∧ T'.heap = h' ∧ n0 ≤ h'.size ∧ Fr n0 lo' ∧ Old Z n0 h' ∧ Exa Z h' sa158 "java/lang/String" ∧ Fld Z h' sa158 "java/lang/String" "coder" "B" (.int (0 : Int32)) ∧ Fld Z h' sa158 "java/lang/String" "value" "[B" (.ref sb158) ∧ Arv Z h' sb158 kb158 .byte nz158 (own_vs (own_fin tx4)) (.int (0 : Int32)) ∧ Arv Z h' aE k162 .char 6 (ys1.map Value.int) (.int (0 : Int32)) ∧ own_ln ys1 ne1 ∧ own_rg ys1 ∧ (ys1 = (if fl1 = 0 then [] else [xa])) ∧ Goes p e below s₁ (entryFrame m #[(.int fl), (.int ca), (.int cb), (.int cc)] maxLocals) T' (mkF m 223 #[vI fl, vI ca, vI cb, vI cc, vI fl1, vI flp, vI flk, vI flc, vI fl2, vI flt, vI xa, vI xb, vI xc, vR aH, vR sa158, vR aE, vI ne1, .unset] []) := by
    have go174 : Goes p e below s₁ (entryFrame m #[(.int fl), (.int ca), (.int cb), (.int cc)] maxLocals) T162 (mkF m 210 #[vI fl, vI ca, vI cb, vI cc, vI fl1, vI flp, vI flk, vI flc, vI fl2, vI flt, vI xa, vI xb, vI xc, vR aH, vR sa158, vR aE, vI (0 : Int32), .unset] [(.int fl1)]) := fun t k => by
      refine go172 t ?_
      refine XS.iload X162.here hx rfl (hb hby at_208) rfl ?_
      exact k
    by_cases hc175 : fl1 = (0 : Int32)
    · have go176 : Goes p e below s₁ (entryFrame m #[(.int fl), (.int ca), (.int cb), (.int cc)] maxLocals) T162 (mkF m 223 #[vI fl, vI ca, vI cb, vI cc, vI fl1, vI flp, vI flk, vI flc, vI fl2, vI flt, vI xa, vI xb, vI xc, vR aH, vR sa158, vR aE, vI (0 : Int32), .unset] []) := fun t k => by
        refine go174 t ?_
        refine XS.ifYes X162.here hx rfl (pc0 := 210) (pc' := 223) rfl (hb hby at_210) rfl (Jvm.Free.XT.i0_eq_t hc175) (by decide) (by decide) ?_
        exact k
      exact ⟨T162, h162, _, [], (0 : Int32), X162, e162, Z168, N158, O167, f163, f164, f165, f166, V171, own_ln0, own_rg0, (if_pos hc175).symm, go176⟩
    · obtain ⟨cl177, Ar177, kq177, Sz177, Nn177, Hs177, Gf177⟩ := Arv.pad (vs' := (List.map Value.int []) ++ [(.int (0 : Int32))]) (V171) (own_pad _ _)
      have hin177 : ¬ ((0 : Int32) < 0 ∨ cl177.slots.size ≤ ((0 : Int32)).toNatClampNeg) := inb_of Sz177 ⟨own_ln0.nn, own_ln0.lt6 (by first | omega | decide | (simp; omega))⟩
      obtain ⟨T178, h178, X178, e178, W178, st178⟩ := stC X162 hx hZ e162 Ar177 (j := (0 : Int32)) hin177 (g := (mkF m 219 #[vI fl, vI ca, vI cb, vI cc, vI fl1, vI flp, vI flk, vI flc, vI fl2, vI flt, vI xa, vI xb, vI xc, vR aH, vR sa158, vR aE, vI (0 : Int32), .unset] [(.int xa), (.int (0 : Int32)), (.ref aE)])) rfl rfl (hb hby at_219)
      have V179 : Arv Z h178 aE k162 .char 6 (List.map Value.int [xa]) (.int (0 : Int32)) := own_cap0 (c := xa) hxa ▸ Arv.set Ar177 kq177 Sz177 Nn177 Hs177 Gf177 (fits_nar_char _) W178 _ (own_ln0.nat.trans (List.length_map _).symm) (by simp)
      have ln180 := own_ln1 xa
      have rg181 : own_rg [xa] := own_rg.push own_rg0 hxa
      have f182 := f163.wr W178
      have f183 := f164.other W178 (Or.inl (Nat.ne_of_lt (Nat.lt_of_lt_of_le Fq158.lt le_aE)))
      have f184 := f165.other W178 (Or.inl (Nat.ne_of_lt (Nat.lt_of_lt_of_le Fq158.lt le_aE)))
      have f185 := f166.other W178 (Nat.ne_of_lt (Nat.lt_of_lt_of_le Vq158.lt le_aE))
      have O186 := O167.wr W178 gn_aE
      have Z187 := Nat.le_trans Z168 (Nat.le_of_eq W178.size.symm)
      have K188 := K169.wr W178 (Or.inr sz_aE)
      have N189 := Fr.snoc X178 N158 gn_aE
      have go190 : Goes p e below s₁ (entryFrame m #[(.int fl), (.int ca), (.int cb), (.int cc)] maxLocals) T178 (mkF m 223 #[vI fl, vI ca, vI cb, vI cc, vI fl1, vI flp, vI flk, vI flc, vI fl2, vI flt, vI xa, vI xb, vI xc, vR aH, vR sa158, vR aE, vI (1 : Int32), .unset] []) := fun t k => by
        refine go174 t ?_
        refine XS.ifNo X162.here hx rfl (hb hby at_210) rfl (Jvm.Free.XT.i0_eq_f hc175) ?_
        refine XS.aload X162.here hx rfl (hb hby at_213) rfl rfl ?_
        refine XS.iload X162.here hx rfl (hb hby at_215) rfl ?_
        refine XS.iload X162.here hx rfl (hb hby at_217) rfl ?_
        refine st178 t ?_
        refine XS.iinc X178.here hx rfl (hb hby at_220) rfl (l' := #[vI fl, vI ca, vI cb, vI cc, vI fl1, vI flp, vI flk, vI flc, vI fl2, vI flt, vI xa, vI xb, vI xc, vR aH, vR sa158, vR aE, vI (1 : Int32), .unset]) rfl ?_
        exact k
      exact ⟨T178, h178, _, [xa], (1 : Int32), X178, e178, Z187, N189, O186, f182, f183, f184, f185, V179, ln180, rg181, (if_neg hc175).symm, go190⟩
  have hE1 : ys1.length ≤ 1 := by rw [hj173]; split <;> simp
  obtain ⟨T191, h191, lo191, ys4, ne4, X191, e191, Z191, N191, O191, fj191_0, fj191_1, fj191_2, fj191_3, V191, ln191, rg191, hj191, go191j⟩ : ∃ (T' : State) (h' : Heap) (lo' : List Loc) (ys4 : List Int32) (ne4 : Int32), Stand p l e room_1 s m #[(.int fl), (.int ca), (.int cb), (.int cc)] below meth c T' lo' 15 157 ∧ T'.heap = h' ∧ n0 ≤ h'.size ∧ Fr n0 lo' ∧ Old Z n0 h' ∧ Exa Z h' sa158 "java/lang/String" ∧ Fld Z h' sa158 "java/lang/String" "coder" "B" (.int (0 : Int32)) ∧ Fld Z h' sa158 "java/lang/String" "value" "[B" (.ref sb158) ∧ Arv Z h' sb158 kb158 .byte nz158 (own_vs (own_fin tx4)) (.int (0 : Int32)) ∧ Arv Z h' aE k162 .char 6 (ys4.map Value.int) (.int (0 : Int32)) ∧ own_ln ys4 ne4 ∧ own_rg ys4 ∧ (ys4 = (if fl2 = 0 then ys1 else ((ys1 ++ [9]) ++ own_kp flp flk flc xc) ++ [xb])) ∧ Goes p e below s₁ (entryFrame m #[(.int fl), (.int ca), (.int cb), (.int cc)] maxLocals) T' (mkF m 278 #[vI fl, vI ca, vI cb, vI cc, vI fl1, vI flp, vI flk, vI flc, vI fl2, vI flt, vI xa, vI xb, vI xc, vR aH, vR sa158, vR aE, vI ne4, .unset] []) := by
    have go192 : Goes p e below s₁ (entryFrame m #[(.int fl), (.int ca), (.int cb), (.int cc)] maxLocals) T173 (mkF m 225 #[vI fl, vI ca, vI cb, vI cc, vI fl1, vI flp, vI flk, vI flc, vI fl2, vI flt, vI xa, vI xb, vI xc, vR aH, vR sa158, vR aE, vI ne1, .unset] [(.int fl2)]) := fun t k => by
      refine go173j t ?_
      refine XS.iload X173.here hx rfl (hb hby at_223) rfl ?_
      exact k
    by_cases hc193 : fl2 = (0 : Int32)
    · have go194 : Goes p e below s₁ (entryFrame m #[(.int fl), (.int ca), (.int cb), (.int cc)] maxLocals) T173 (mkF m 278 #[vI fl, vI ca, vI cb, vI cc, vI fl1, vI flp, vI flk, vI flc, vI fl2, vI flt, vI xa, vI xb, vI xc, vR aH, vR sa158, vR aE, vI ne1, .unset] []) := fun t k => by
        refine go192 t ?_
        refine XS.ifYes X173.here hx rfl (pc0 := 225) (pc' := 278) rfl (hb hby at_225) rfl (Jvm.Free.XT.i0_eq_t hc193) (by decide) (by decide) ?_
        exact k
      exact ⟨T173, h173, _, ys1, ne1, X173, e173, Z173, N173, O173, fj173_0, fj173_1, fj173_2, fj173_3, V173, ln173, rg173, (if_pos hc193).symm, go194⟩
    · obtain ⟨cl195, Ar195, kq195, Sz195, Nn195, Hs195, Gf195⟩ := Arv.pad (vs' := (List.map Value.int ys1) ++ [(.int (0 : Int32))]) (V173) (own_pad _ _)
      have hin195 : ¬ (ne1 < 0 ∨ cl195.slots.size ≤ (ne1).toNatClampNeg) := inb_of Sz195 ⟨ln173.nn, ln173.lt6 (by first | omega | decide | (simp; omega))⟩
      obtain ⟨T196, h196, X196, e196, W196, st196⟩ := stC X173 hx hZ e173 Ar195 (j := ne1) hin195 (g := (mkF m 234 #[vI fl, vI ca, vI cb, vI cc, vI fl1, vI flp, vI flk, vI flc, vI fl2, vI flt, vI xa, vI xb, vI xc, vR aH, vR sa158, vR aE, vI ne1, .unset] [(.int (9 : Int32)), (.int ne1), (.ref aE)])) rfl rfl (hb hby at_234)
      have V197 : Arv Z h196 aE k162 .char 6 (List.map Value.int (ys1 ++ [(9 : Int32)])) (.int (0 : Int32)) := own_cap (xs := ys1) (c := (9 : Int32)) ⟨by decide, by decide⟩ ▸ Arv.set Ar195 kq195 Sz195 Nn195 Hs195 Gf195 (fits_nar_char _) W196 _ (ln173.nat.trans (List.length_map _).symm) (by simp)
      have ln198 := ln173.push (9 : Int32) (by first | omega | (simp; omega))
      have rg199 : own_rg (ys1 ++ [(9 : Int32)]) := own_rg.push rg173 ⟨by decide, by decide⟩
      have f200 := fj173_0.wr W196
      have f201 := fj173_1.other W196 (Or.inl (Nat.ne_of_lt (Nat.lt_of_lt_of_le Fq158.lt le_aE)))
      have f202 := fj173_2.other W196 (Or.inl (Nat.ne_of_lt (Nat.lt_of_lt_of_le Fq158.lt le_aE)))
      have f203 := fj173_3.other W196 (Nat.ne_of_lt (Nat.lt_of_lt_of_le Vq158.lt le_aE))
      have O204 := O173.wr W196 gn_aE
      have Z205 := Nat.le_trans Z173 (Nat.le_of_eq W196.size.symm)
      have N206 := Fr.snoc X196 N173 gn_aE
      have go207 : Goes p e below s₁ (entryFrame m #[(.int fl), (.int ca), (.int cb), (.int cc)] maxLocals) T196 (mkF m 238 #[vI fl, vI ca, vI cb, vI cc, vI fl1, vI flp, vI flk, vI flc, vI fl2, vI flt, vI xa, vI xb, vI xc, vR aH, vR sa158, vR aE, .val (.int (ne1 + (1 : Int32))), .unset] []) := fun t k => by
        refine go192 t ?_
        refine XS.ifNo X173.here hx rfl (hb hby at_225) rfl (Jvm.Free.XT.i0_eq_f hc193) ?_
        refine XS.aload X173.here hx rfl (hb hby at_228) rfl rfl ?_
        refine XS.iload X173.here hx rfl (hb hby at_230) rfl ?_
        refine XS.bipush X173.here hx rfl (hb hby at_232) ?_
        refine st196 t ?_
        refine XS.iinc X196.here hx rfl (hb hby at_235) rfl (l' := #[vI fl, vI ca, vI cb, vI cc, vI fl1, vI flp, vI flk, vI flc, vI fl2, vI flt, vI xa, vI xb, vI xc, vR aH, vR sa158, vR aE, .val (.int (ne1 + (1 : Int32))), .unset]) rfl ?_
        exact k
      obtain ⟨T208, h208, lo208, ys3, ne3, X208, e208, Z208, N208, O208, fj208_0, fj208_1, fj208_2, fj208_3, V208, ln208, rg208, hj208, go208j⟩ : ∃ (T' : State) (h' : Heap) (lo' : List Loc) (ys3 : List Int32) (ne3 : Int32), Stand p l e room_1 s m #[(.int fl), (.int ca), (.int cb), (.int cc)] below meth c T' lo' 15 157 ∧ T'.heap = h' ∧ n0 ≤ h'.size ∧ Fr n0 lo' ∧ Old Z n0 h' ∧ Exa Z h' sa158 "java/lang/String" ∧ Fld Z h' sa158 "java/lang/String" "coder" "B" (.int (0 : Int32)) ∧ Fld Z h' sa158 "java/lang/String" "value" "[B" (.ref sb158) ∧ Arv Z h' sb158 kb158 .byte nz158 (own_vs (own_fin tx4)) (.int (0 : Int32)) ∧ Arv Z h' aE k162 .char 6 (ys3.map Value.int) (.int (0 : Int32)) ∧ own_ln ys3 ne3 ∧ own_rg ys3 ∧ (ys3 = (ys1 ++ [9]) ++ own_kp flp flk flc xc) ∧ Goes p e below s₁ (entryFrame m #[(.int fl), (.int ca), (.int cb), (.int cc)] maxLocals) T' (mkF m 268 #[vI fl, vI ca, vI cb, vI cc, vI fl1, vI flp, vI flk, vI flc, vI fl2, vI flt, vI xa, vI xb, vI xc, vR aH, vR sa158, vR aE, vI ne3, .unset] []) := by
        have go209 : Goes p e below s₁ (entryFrame m #[(.int fl), (.int ca), (.int cb), (.int cc)] maxLocals) T196 (mkF m 240 #[vI fl, vI ca, vI cb, vI cc, vI fl1, vI flp, vI flk, vI flc, vI fl2, vI flt, vI xa, vI xb, vI xc, vR aH, vR sa158, vR aE, .val (.int (ne1 + (1 : Int32))), .unset] [(.int flp)]) := fun t k => by
          refine go207 t ?_
          refine XS.iload X196.here hx rfl (hb hby at_238) rfl ?_
          exact k
        by_cases hc210 : flp = (0 : Int32)
        · have go211 : Goes p e below s₁ (entryFrame m #[(.int fl), (.int ca), (.int cb), (.int cc)] maxLocals) T196 (mkF m 268 #[vI fl, vI ca, vI cb, vI cc, vI fl1, vI flp, vI flk, vI flc, vI fl2, vI flt, vI xa, vI xb, vI xc, vR aH, vR sa158, vR aE, .val (.int (ne1 + (1 : Int32))), .unset] []) := fun t k => by
            refine go209 t ?_
            refine XS.ifYes X196.here hx rfl (pc0 := 240) (pc' := 268) rfl (hb hby at_240) rfl (Jvm.Free.XT.i0_eq_t hc210) (by decide) (by decide) ?_
            exact k
          exact ⟨T196, h196, _, (ys1 ++ [(9 : Int32)]), (ne1 + (1 : Int32)), X196, e196, Z205, N206, O204, f200, f201, f202, f203, V197, ln198, rg199, (by simp [own_kp, hc210]), go211⟩
        · have go212 : Goes p e below s₁ (entryFrame m #[(.int fl), (.int ca), (.int cb), (.int cc)] maxLocals) T196 (mkF m 245 #[vI fl, vI ca, vI cb, vI cc, vI fl1, vI flp, vI flk, vI flc, vI fl2, vI flt, vI xa, vI xb, vI xc, vR aH, vR sa158, vR aE, .val (.int (ne1 + (1 : Int32))), .unset] [(.int flk)]) := fun t k => by
            refine go209 t ?_
            refine XS.ifNo X196.here hx rfl (hb hby at_240) rfl (Jvm.Free.XT.i0_eq_f hc210) ?_
            refine XS.iload X196.here hx rfl (hb hby at_243) rfl ?_
            exact k
          by_cases hc213 : flk = (0 : Int32)
          · have go214 : Goes p e below s₁ (entryFrame m #[(.int fl), (.int ca), (.int cb), (.int cc)] maxLocals) T196 (mkF m 268 #[vI fl, vI ca, vI cb, vI cc, vI fl1, vI flp, vI flk, vI flc, vI fl2, vI flt, vI xa, vI xb, vI xc, vR aH, vR sa158, vR aE, .val (.int (ne1 + (1 : Int32))), .unset] []) := fun t k => by
              refine go212 t ?_
              refine XS.ifYes X196.here hx rfl (pc0 := 245) (pc' := 268) rfl (hb hby at_245) rfl (Jvm.Free.XT.i0_eq_t hc213) (by decide) (by decide) ?_
              exact k
            exact ⟨T196, h196, _, (ys1 ++ [(9 : Int32)]), (ne1 + (1 : Int32)), X196, e196, Z205, N206, O204, f200, f201, f202, f203, V197, ln198, rg199, (by simp [own_kp, hc210, hc213]), go214⟩
          · have go215 : Goes p e below s₁ (entryFrame m #[(.int fl), (.int ca), (.int cb), (.int cc)] maxLocals) T196 (mkF m 252 #[vI fl, vI ca, vI cb, vI cc, vI fl1, vI flp, vI flk, vI flc, vI fl2, vI flt, vI xa, vI xb, vI xc, vR aH, vR sa158, vR aE, .val (.int (ne1 + (1 : Int32))), .unset] [(.int (ne1 + (1 : Int32))), (.ref aE)]) := fun t k => by
              refine go212 t ?_
              refine XS.ifNo X196.here hx rfl (hb hby at_245) rfl (Jvm.Free.XT.i0_eq_f hc213) ?_
              refine XS.aload X196.here hx rfl (hb hby at_248) rfl rfl ?_
              refine XS.iload X196.here hx rfl (hb hby at_250) rfl ?_
              exact k
            obtain ⟨T216, xk, X216, e216, hj216, go216j⟩ : ∃ (T' : State) (xk : Int32), Stand p l e room_1 s m #[(.int fl), (.int ca), (.int cb), (.int cc)] below meth c T' (lo173 ++ [⟨aE, (ne1).toNatClampNeg⟩]) 15 157 ∧ T'.heap = h196 ∧ (xk = own_cq flc xc) ∧ Goes p e below s₁ (entryFrame m #[(.int fl), (.int ca), (.int cb), (.int cc)] maxLocals) T' (mkF m 264 #[vI fl, vI ca, vI cb, vI cc, vI fl1, vI flp, vI flk, vI flc, vI fl2, vI flt, vI xa, vI xb, vI xc, vR aH, vR sa158, vR aE, .val (.int (ne1 + (1 : Int32))), .unset] [(.int xk), (.int (ne1 + (1 : Int32))), (.ref aE)]) := by
              have go217 : Goes p e below s₁ (entryFrame m #[(.int fl), (.int ca), (.int cb), (.int cc)] maxLocals) T196 (mkF m 254 #[vI fl, vI ca, vI cb, vI cc, vI fl1, vI flp, vI flk, vI flc, vI fl2, vI flt, vI xa, vI xb, vI xc, vR aH, vR sa158, vR aE, .val (.int (ne1 + (1 : Int32))), .unset] [(.int flc), (.int (ne1 + (1 : Int32))), (.ref aE)]) := fun t k => by
                refine go215 t ?_
                refine XS.iload X196.here hx rfl (hb hby at_252) rfl ?_
                exact k
              by_cases hc218 : flc = (0 : Int32)
              · have go219 : Goes p e below s₁ (entryFrame m #[(.int fl), (.int ca), (.int cb), (.int cc)] maxLocals) T196 (mkF m 264 #[vI fl, vI ca, vI cb, vI cc, vI fl1, vI flp, vI flk, vI flc, vI fl2, vI flt, vI xa, vI xb, vI xc, vR aH, vR sa158, vR aE, .val (.int (ne1 + (1 : Int32))), .unset] [(.int xc), (.int (ne1 + (1 : Int32))), (.ref aE)]) := fun t k => by
                  refine go217 t ?_
                  refine XS.ifYes X196.here hx rfl (pc0 := 254) (pc' := 262) rfl (hb hby at_254) rfl (Jvm.Free.XT.i0_eq_t hc218) (by decide) (by decide) ?_
                  refine XS.iload X196.here hx rfl (hb hby at_262) rfl ?_
                  exact k
                exact ⟨T196, xc, X196, e196, (by unfold own_cq; rw [if_pos hc218]), go219⟩
              · have go220 : Goes p e below s₁ (entryFrame m #[(.int fl), (.int ca), (.int cb), (.int cc)] maxLocals) T196 (mkF m 264 #[vI fl, vI ca, vI cb, vI cc, vI fl1, vI flp, vI flk, vI flc, vI fl2, vI flt, vI xa, vI xb, vI xc, vR aH, vR sa158, vR aE, .val (.int (ne1 + (1 : Int32))), .unset] [(.int (32 : Int32)), (.int (ne1 + (1 : Int32))), (.ref aE)]) := fun t k => by
                  refine go217 t ?_
                  refine XS.ifNo X196.here hx rfl (hb hby at_254) rfl (Jvm.Free.XT.i0_eq_f hc218) ?_
                  refine XS.bipush X196.here hx rfl (hb hby at_257) ?_
                  refine XS.goto X196.here hx rfl (pc0 := 259) (pc' := 264) rfl (hb hby at_259) (by decide) (by decide) ?_
                  exact k
                exact ⟨T196, (32 : Int32), X196, e196, (by unfold own_cq; rw [if_neg hc218]), go220⟩
            have go221 : Goes p e below s₁ (entryFrame m #[(.int fl), (.int ca), (.int cb), (.int cc)] maxLocals) T216 (mkF m 264 #[vI fl, vI ca, vI cb, vI cc, vI fl1, vI flp, vI flk, vI flc, vI fl2, vI flt, vI xa, vI xb, vI xc, vR aH, vR sa158, vR aE, .val (.int (ne1 + (1 : Int32))), .unset] [(.int (own_cq flc xc)), (.int (ne1 + (1 : Int32))), (.ref aE)]) := Eq.mp (congrArg (fun zz => Goes p e below s₁ (entryFrame m #[(.int fl), (.int ca), (.int cb), (.int cc)] maxLocals) T216 (mkF m 264 #[vI fl, vI ca, vI cb, vI cc, vI fl1, vI flp, vI flk, vI flc, vI fl2, vI flt, vI xa, vI xb, vI xc, vR aH, vR sa158, vR aE, .val (.int (ne1 + (1 : Int32))), .unset] [(.int zz), (.int (ne1 + (1 : Int32))), (.ref aE)])) hj216) go216j
            obtain ⟨cl222, Ar222, kq222, Sz222, Nn222, Hs222, Gf222⟩ := Arv.pad (vs' := (List.map Value.int (ys1 ++ [(9 : Int32)])) ++ [(.int (0 : Int32))]) (V197) (own_pad _ _)
            have hin222 : ¬ ((ne1 + (1 : Int32)) < 0 ∨ cl222.slots.size ≤ ((ne1 + (1 : Int32))).toNatClampNeg) := inb_of Sz222 ⟨ln198.nn, ln198.lt6 (by first | omega | decide | (simp; omega))⟩
            obtain ⟨T223, h223, X223, e223, W223, st223⟩ := stC X216 hx hZ e216 Ar222 (j := (ne1 + (1 : Int32))) hin222 (g := (mkF m 264 #[vI fl, vI ca, vI cb, vI cc, vI fl1, vI flp, vI flk, vI flc, vI fl2, vI flt, vI xa, vI xb, vI xc, vR aH, vR sa158, vR aE, .val (.int (ne1 + (1 : Int32))), .unset] [(.int (own_cq flc xc)), (.int (ne1 + (1 : Int32))), (.ref aE)])) rfl rfl (hb hby at_264)
            have V224 : Arv Z h223 aE k162 .char 6 (List.map Value.int ((ys1 ++ [(9 : Int32)]) ++ [(own_cq flc xc)])) (.int (0 : Int32)) := own_cap (xs := (ys1 ++ [(9 : Int32)])) (c := (own_cq flc xc)) (own_cq_r hxc) ▸ Arv.set Ar222 kq222 Sz222 Nn222 Hs222 Gf222 (fits_nar_char _) W223 _ (ln198.nat.trans (List.length_map _).symm) (by simp)
            have ln225 := ln198.push (own_cq flc xc) (by first | omega | (simp; omega))
            have rg226 : own_rg ((ys1 ++ [(9 : Int32)]) ++ [(own_cq flc xc)]) := own_rg.push rg199 (own_cq_r hxc)
            have f227 := f200.wr W223
            have f228 := f201.other W223 (Or.inl (Nat.ne_of_lt (Nat.lt_of_lt_of_le Fq158.lt le_aE)))
            have f229 := f202.other W223 (Or.inl (Nat.ne_of_lt (Nat.lt_of_lt_of_le Fq158.lt le_aE)))
            have f230 := f203.other W223 (Nat.ne_of_lt (Nat.lt_of_lt_of_le Vq158.lt le_aE))
            have O231 := O204.wr W223 gn_aE
            have Z232 := Nat.le_trans Z205 (Nat.le_of_eq W223.size.symm)
            have N233 := Fr.snoc X223 N206 gn_aE
            have go234 : Goes p e below s₁ (entryFrame m #[(.int fl), (.int ca), (.int cb), (.int cc)] maxLocals) T223 (mkF m 268 #[vI fl, vI ca, vI cb, vI cc, vI fl1, vI flp, vI flk, vI flc, vI fl2, vI flt, vI xa, vI xb, vI xc, vR aH, vR sa158, vR aE, .val (.int ((ne1 + (1 : Int32)) + (1 : Int32))), .unset] []) := fun t k => by
              refine go221 t ?_
              refine st223 t ?_
              refine XS.iinc X223.here hx rfl (hb hby at_265) rfl (l' := #[vI fl, vI ca, vI cb, vI cc, vI fl1, vI flp, vI flk, vI flc, vI fl2, vI flt, vI xa, vI xb, vI xc, vR aH, vR sa158, vR aE, .val (.int ((ne1 + (1 : Int32)) + (1 : Int32))), .unset]) rfl ?_
              exact k
            exact ⟨T223, h223, _, ((ys1 ++ [(9 : Int32)]) ++ [(own_cq flc xc)]), ((ne1 + (1 : Int32)) + (1 : Int32)), X223, e223, Z232, N233, O231, f227, f228, f229, f230, V224, ln225, rg226, (by simp [own_kp, hc210, hc213]), go234⟩
      have hE3 : ys3.length ≤ 3 := by rw [hj208]; unfold own_kp; split <;> simp <;> omega
      have hk3 := hj208
      obtain ⟨cl235, Ar235, kq235, Sz235, Nn235, Hs235, Gf235⟩ := Arv.pad (vs' := (List.map Value.int ys3) ++ [(.int (0 : Int32))]) (V208) (own_pad _ _)
      have hin235 : ¬ (ne3 < 0 ∨ cl235.slots.size ≤ (ne3).toNatClampNeg) := inb_of Sz235 ⟨ln208.nn, ln208.lt6 (by first | omega | decide | (simp; omega))⟩
      obtain ⟨T236, h236, X236, e236, W236, st236⟩ := stC X208 hx hZ e208 Ar235 (j := ne3) hin235 (g := (mkF m 274 #[vI fl, vI ca, vI cb, vI cc, vI fl1, vI flp, vI flk, vI flc, vI fl2, vI flt, vI xa, vI xb, vI xc, vR aH, vR sa158, vR aE, vI ne3, .unset] [(.int xb), (.int ne3), (.ref aE)])) rfl rfl (hb hby at_274)
      have V237 : Arv Z h236 aE k162 .char 6 (List.map Value.int (ys3 ++ [xb])) (.int (0 : Int32)) := own_cap (xs := ys3) (c := xb) hxb ▸ Arv.set Ar235 kq235 Sz235 Nn235 Hs235 Gf235 (fits_nar_char _) W236 _ (ln208.nat.trans (List.length_map _).symm) (by simp)
      have ln238 := ln208.push xb (by first | omega | (simp; omega))
      have rg239 : own_rg (ys3 ++ [xb]) := own_rg.push rg208 hxb
      have f240 := fj208_0.wr W236
      have f241 := fj208_1.other W236 (Or.inl (Nat.ne_of_lt (Nat.lt_of_lt_of_le Fq158.lt le_aE)))
      have f242 := fj208_2.other W236 (Or.inl (Nat.ne_of_lt (Nat.lt_of_lt_of_le Fq158.lt le_aE)))
      have f243 := fj208_3.other W236 (Nat.ne_of_lt (Nat.lt_of_lt_of_le Vq158.lt le_aE))
      have O244 := O208.wr W236 gn_aE
      have Z245 := Nat.le_trans Z208 (Nat.le_of_eq W236.size.symm)
      have N246 := Fr.snoc X236 N208 gn_aE
      have go247 : Goes p e below s₁ (entryFrame m #[(.int fl), (.int ca), (.int cb), (.int cc)] maxLocals) T236 (mkF m 278 #[vI fl, vI ca, vI cb, vI cc, vI fl1, vI flp, vI flk, vI flc, vI fl2, vI flt, vI xa, vI xb, vI xc, vR aH, vR sa158, vR aE, .val (.int (ne3 + (1 : Int32))), .unset] []) := fun t k => by
        refine go208j t ?_
        refine XS.aload X208.here hx rfl (hb hby at_268) rfl rfl ?_
        refine XS.iload X208.here hx rfl (hb hby at_270) rfl ?_
        refine XS.iload X208.here hx rfl (hb hby at_272) rfl ?_
        refine st236 t ?_
        refine XS.iinc X236.here hx rfl (hb hby at_275) rfl (l' := #[vI fl, vI ca, vI cb, vI cc, vI fl1, vI flp, vI flk, vI flc, vI fl2, vI flt, vI xa, vI xb, vI xc, vR aH, vR sa158, vR aE, .val (.int (ne3 + (1 : Int32))), .unset]) rfl ?_
        exact k
      exact ⟨T236, h236, _, (ys3 ++ [xb]), (ne3 + (1 : Int32)), X236, e236, Z245, N246, O244, f240, f241, f242, f243, V237, ln238, rg239, (by rw [if_neg hc193, hk3]), go247⟩
  have hE4 : ys4.length ≤ (if fl2 = 0 then 1 else 4) := by rw [hj191]; split; exact hE1; unfold own_kp; split <;> simp <;> omega
  have hE4' : ys4.length ≤ 4 := Nat.le_trans hE4 (by split <;> decide)
  obtain ⟨T248, w1, X248, e248, hj248, go248j⟩ : ∃ (T' : State) (w1 : Int32), Stand p l e room_1 s m #[(.int fl), (.int ca), (.int cb), (.int cc)] below meth c T' lo191 15 157 ∧ T'.heap = h191 ∧ (w1 = (if fl2 = 0 then 1 else 0)) ∧ Goes p e below s₁ (entryFrame m #[(.int fl), (.int ca), (.int cb), (.int cc)] maxLocals) T' (mkF m 288 #[vI fl, vI ca, vI cb, vI cc, vI fl1, vI flp, vI flk, vI flc, vI fl2, vI flt, vI xa, vI xb, vI xc, vR aH, vR sa158, vR aE, vI ne4, .unset] [(.int w1)]) := by
    have go249 : Goes p e below s₁ (entryFrame m #[(.int fl), (.int ca), (.int cb), (.int cc)] maxLocals) T191 (mkF m 280 #[vI fl, vI ca, vI cb, vI cc, vI fl1, vI flp, vI flk, vI flc, vI fl2, vI flt, vI xa, vI xb, vI xc, vR aH, vR sa158, vR aE, vI ne4, .unset] [(.int fl2)]) := fun t k => by
      refine go191j t ?_
      refine XS.iload X191.here hx rfl (hb hby at_278) rfl ?_
      exact k
    by_cases hc250 : fl2 = (0 : Int32)
    · have go251 : Goes p e below s₁ (entryFrame m #[(.int fl), (.int ca), (.int cb), (.int cc)] maxLocals) T191 (mkF m 288 #[vI fl, vI ca, vI cb, vI cc, vI fl1, vI flp, vI flk, vI flc, vI fl2, vI flt, vI xa, vI xb, vI xc, vR aH, vR sa158, vR aE, vI ne4, .unset] [(.int (1 : Int32))]) := fun t k => by
        refine go249 t ?_
        refine XS.ifYes X191.here hx rfl (pc0 := 280) (pc' := 287) rfl (hb hby at_280) rfl (Jvm.Free.XT.i0_eq_t hc250) (by decide) (by decide) ?_
        refine XS.iconst X191.here hx rfl (hb hby at_287) ?_
        exact k
      exact ⟨T191, (1 : Int32), X191, e191, (if_pos hc250).symm, go251⟩
    · have go252 : Goes p e below s₁ (entryFrame m #[(.int fl), (.int ca), (.int cb), (.int cc)] maxLocals) T191 (mkF m 288 #[vI fl, vI ca, vI cb, vI cc, vI fl1, vI flp, vI flk, vI flc, vI fl2, vI flt, vI xa, vI xb, vI xc, vR aH, vR sa158, vR aE, vI ne4, .unset] [(.int (0 : Int32))]) := fun t k => by
        refine go249 t ?_
        refine XS.ifNo X191.here hx rfl (hb hby at_280) rfl (Jvm.Free.XT.i0_eq_f hc250) ?_
        refine XS.iconst X191.here hx rfl (hb hby at_283) ?_
        refine XS.goto X191.here hx rfl (pc0 := 284) (pc' := 288) rfl (hb hby at_284) (by decide) (by decide) ?_
        exact k
      exact ⟨T191, (0 : Int32), X191, e191, (if_neg hc250).symm, go252⟩
  obtain ⟨T253, w2, X253, e253, hj253, go253j⟩ : ∃ (T' : State) (w2 : Int32), Stand p l e room_1 s m #[(.int fl), (.int ca), (.int cb), (.int cc)] below meth c T' lo191 15 157 ∧ T'.heap = h191 ∧ (w2 = (if flt = 0 then 0 else 1)) ∧ Goes p e below s₁ (entryFrame m #[(.int fl), (.int ca), (.int cb), (.int cc)] maxLocals) T' (mkF m 298 #[vI fl, vI ca, vI cb, vI cc, vI fl1, vI flp, vI flk, vI flc, vI fl2, vI flt, vI xa, vI xb, vI xc, vR aH, vR sa158, vR aE, vI ne4, .unset] [(.int w2), (.int w1)]) := by
    have go254 : Goes p e below s₁ (entryFrame m #[(.int fl), (.int ca), (.int cb), (.int cc)] maxLocals) T248 (mkF m 290 #[vI fl, vI ca, vI cb, vI cc, vI fl1, vI flp, vI flk, vI flc, vI fl2, vI flt, vI xa, vI xb, vI xc, vR aH, vR sa158, vR aE, vI ne4, .unset] [(.int flt), (.int w1)]) := fun t k => by
      refine go248j t ?_
      refine XS.iload X248.here hx rfl (hb hby at_288) rfl ?_
      exact k
    by_cases hc255 : flt = (0 : Int32)
    · have go256 : Goes p e below s₁ (entryFrame m #[(.int fl), (.int ca), (.int cb), (.int cc)] maxLocals) T248 (mkF m 298 #[vI fl, vI ca, vI cb, vI cc, vI fl1, vI flp, vI flk, vI flc, vI fl2, vI flt, vI xa, vI xb, vI xc, vR aH, vR sa158, vR aE, vI ne4, .unset] [(.int (0 : Int32)), (.int w1)]) := fun t k => by
        refine go254 t ?_
        refine XS.ifYes X248.here hx rfl (pc0 := 290) (pc' := 297) rfl (hb hby at_290) rfl (Jvm.Free.XT.i0_eq_t hc255) (by decide) (by decide) ?_
        refine XS.iconst X248.here hx rfl (hb hby at_297) ?_
        exact k
      exact ⟨T248, (0 : Int32), X248, e248, (if_pos hc255).symm, go256⟩
    · have go257 : Goes p e below s₁ (entryFrame m #[(.int fl), (.int ca), (.int cb), (.int cc)] maxLocals) T248 (mkF m 298 #[vI fl, vI ca, vI cb, vI cc, vI fl1, vI flp, vI flk, vI flc, vI fl2, vI flt, vI xa, vI xb, vI xc, vR aH, vR sa158, vR aE, vI ne4, .unset] [(.int (1 : Int32)), (.int w1)]) := fun t k => by
        refine go254 t ?_
        refine XS.ifNo X248.here hx rfl (hb hby at_290) rfl (Jvm.Free.XT.i0_eq_f hc255) ?_
        refine XS.iconst X248.here hx rfl (hb hby at_293) ?_
        refine XS.goto X248.here hx rfl (pc0 := 294) (pc' := 298) rfl (hb hby at_294) (by decide) (by decide) ?_
        exact k
      exact ⟨T248, (1 : Int32), X248, e248, (if_neg hc255).symm, go257⟩
  have go258 : Goes p e below s₁ (entryFrame m #[(.int fl), (.int ca), (.int cb), (.int cc)] maxLocals) T253 (mkF m 301 #[vI fl, vI ca, vI cb, vI cc, vI fl1, vI flp, vI flk, vI flc, vI fl2, vI flt, vI xa, vI xb, vI xc, vR aH, vR sa158, vR aE, vI ne4, vI (w1 + w2)] []) := fun t k => by
    refine go253j t ?_
    refine XS.iadd X253.here hx rfl (hb hby at_298) rfl ?_
    refine XS.istore X253.here hx rfl (hb hby at_299) rfl (l' := #[vI fl, vI ca, vI cb, vI cc, vI fl1, vI flp, vI flk, vI flc, vI fl2, vI flt, vI xa, vI xb, vI xc, vR aH, vR sa158, vR aE, vI ne4, vI (w1 + w2)]) rfl ?_
    exact k
  obtain ⟨ow, h_ow⟩ : ∃ z : Int32, z = (w1 + w2) := ⟨_, rfl⟩
  have go259 : Goes p e below s₁ (entryFrame m #[(.int fl), (.int ca), (.int cb), (.int cc)] maxLocals) T253 (mkF m 301 #[vI fl, vI ca, vI cb, vI cc, vI fl1, vI flp, vI flk, vI flc, vI fl2, vI flt, vI xa, vI xb, vI xc, vR aH, vR sa158, vR aE, vI ne4, vI ow] []) := by rw [h_ow]; exact go258
  have how : ow = own_ow fl2 flt := by rw [h_ow, hj248, hj253]; rfl
  obtain ⟨T260, h260, lo260, ys5, ne5, X260, e260, Z260, N260, O260, fj260_0, fj260_1, fj260_2, fj260_3, V260, ln260, rg260, hj260, go260j⟩ : ∃ (T' : State) (h' : Heap) (lo' : List Loc) (ys5 : List Int32) (ne5 : Int32), Stand p l e room_1 s m #[(.int fl), (.int ca), (.int cb), (.int cc)] below meth c T' lo' 15 157 ∧ T'.heap = h' ∧ n0 ≤ h'.size ∧ Fr n0 lo' ∧ Old Z n0 h' ∧ Exa Z h' sa158 "java/lang/String" ∧ Fld Z h' sa158 "java/lang/String" "coder" "B" (.int (0 : Int32)) ∧ Fld Z h' sa158 "java/lang/String" "value" "[B" (.ref sb158) ∧ Arv Z h' sb158 kb158 .byte nz158 (own_vs (own_fin tx4)) (.int (0 : Int32)) ∧ Arv Z h' aE k162 .char 6 (ys5.map Value.int) (.int (0 : Int32)) ∧ own_ln ys5 ne5 ∧ own_rg ys5 ∧ (ys5 = own_tabs fl1 fl2 ow ys4) ∧ Goes p e below s₁ (entryFrame m #[(.int fl), (.int ca), (.int cb), (.int cc)] maxLocals) T' (mkF m 343 #[vI fl, vI ca, vI cb, vI cc, vI fl1, vI flp, vI flk, vI flc, vI fl2, vI flt, vI xa, vI xb, vI xc, vR aH, vR sa158, vR aE, vI ne5, vI ow] []) := by
    have go261 : Goes p e below s₁ (entryFrame m #[(.int fl), (.int ca), (.int cb), (.int cc)] maxLocals) T253 (mkF m 303 #[vI fl, vI ca, vI cb, vI cc, vI fl1, vI flp, vI flk, vI flc, vI fl2, vI flt, vI xa, vI xb, vI xc, vR aH, vR sa158, vR aE, vI ne4, vI ow] [(.int fl1)]) := fun t k => by
      refine go259 t ?_
      refine XS.iload X253.here hx rfl (hb hby at_301) rfl ?_
      exact k
    by_cases hbb : fl1 = 0 ∧ fl2 = 0
    · have go262 : Goes p e below s₁ (entryFrame m #[(.int fl), (.int ca), (.int cb), (.int cc)] maxLocals) T253 (mkF m 308 #[vI fl, vI ca, vI cb, vI cc, vI fl1, vI flp, vI flk, vI flc, vI fl2, vI flt, vI xa, vI xb, vI xc, vR aH, vR sa158, vR aE, vI ne4, vI ow] [(.int fl2)]) := fun t k => by
        refine go261 t ?_
        refine XS.ifNo X253.here hx rfl (hb hby at_303) rfl (Jvm.Free.XT.i0_ne_f hbb.1) ?_
        refine XS.iload X253.here hx rfl (hb hby at_306) rfl ?_
        exact k
      have go263 : Goes p e below s₁ (entryFrame m #[(.int fl), (.int ca), (.int cb), (.int cc)] maxLocals) T253 (mkF m 343 #[vI fl, vI ca, vI cb, vI cc, vI fl1, vI flp, vI flk, vI flc, vI fl2, vI flt, vI xa, vI xb, vI xc, vR aH, vR sa158, vR aE, vI ne4, vI ow] []) := fun t k => by
        refine go262 t ?_
        refine XS.ifYes X253.here hx rfl (pc0 := 308) (pc' := 343) rfl (hb hby at_308) rfl (Jvm.Free.XT.i0_eq_t hbb.2) (by decide) (by decide) ?_
        exact k
      exact ⟨T253, h191, _, ys4, ne4, X253, e253, Z191, N191, O191, fj191_0, fj191_1, fj191_2, fj191_3, V191, ln191, rg191, (by simp [own_tabs, hbb]), go263⟩
    · obtain ⟨T264, X264, e264, hj264, go264j⟩ : ∃ (T' : State) , Stand p l e room_1 s m #[(.int fl), (.int ca), (.int cb), (.int cc)] below meth c T' lo191 15 157 ∧ T'.heap = h191 ∧ (True) ∧ Goes p e below s₁ (entryFrame m #[(.int fl), (.int ca), (.int cb), (.int cc)] maxLocals) T' (mkF m 311 #[vI fl, vI ca, vI cb, vI cc, vI fl1, vI flp, vI flk, vI flc, vI fl2, vI flt, vI xa, vI xb, vI xc, vR aH, vR sa158, vR aE, vI ne4, vI ow] []) := by
        by_cases hc265 : fl1 = (0 : Int32)
        · have go266 : Goes p e below s₁ (entryFrame m #[(.int fl), (.int ca), (.int cb), (.int cc)] maxLocals) T253 (mkF m 308 #[vI fl, vI ca, vI cb, vI cc, vI fl1, vI flp, vI flk, vI flc, vI fl2, vI flt, vI xa, vI xb, vI xc, vR aH, vR sa158, vR aE, vI ne4, vI ow] [(.int fl2)]) := fun t k => by
            refine go261 t ?_
            refine XS.ifNo X253.here hx rfl (hb hby at_303) rfl (Jvm.Free.XT.i0_ne_f hc265) ?_
            refine XS.iload X253.here hx rfl (hb hby at_306) rfl ?_
            exact k
          have go267 : Goes p e below s₁ (entryFrame m #[(.int fl), (.int ca), (.int cb), (.int cc)] maxLocals) T253 (mkF m 311 #[vI fl, vI ca, vI cb, vI cc, vI fl1, vI flp, vI flk, vI flc, vI fl2, vI flt, vI xa, vI xb, vI xc, vR aH, vR sa158, vR aE, vI ne4, vI ow] []) := fun t k => by
            refine go266 t ?_
            refine XS.ifNo X253.here hx rfl (hb hby at_308) rfl (Jvm.Free.XT.i0_eq_f (fun q => hbb ⟨hc265, q⟩)) ?_
            exact k
          exact ⟨T253, X253, e253, trivial, go267⟩
        · have go268 : Goes p e below s₁ (entryFrame m #[(.int fl), (.int ca), (.int cb), (.int cc)] maxLocals) T253 (mkF m 311 #[vI fl, vI ca, vI cb, vI cc, vI fl1, vI flp, vI flk, vI flc, vI fl2, vI flt, vI xa, vI xb, vI xc, vR aH, vR sa158, vR aE, vI ne4, vI ow] []) := fun t k => by
            refine go261 t ?_
            refine XS.ifYes X253.here hx rfl (pc0 := 303) (pc' := 311) rfl (hb hby at_303) rfl (Jvm.Free.XT.i0_ne_t hc265) (by decide) (by decide) ?_
            exact k
          exact ⟨T253, X253, e253, trivial, go268⟩
      have go269 : Goes p e below s₁ (entryFrame m #[(.int fl), (.int ca), (.int cb), (.int cc)] maxLocals) T264 (mkF m 314 #[vI fl, vI ca, vI cb, vI cc, vI fl1, vI flp, vI flk, vI flc, vI fl2, vI flt, vI xa, vI xb, vI xc, vR aH, vR sa158, vR aE, vI ne4, vI ow] [(.int (1 : Int32)), (.int ow)]) := fun t k => by
        refine go264j t ?_
        refine XS.iload X264.here hx rfl (hb hby at_311) rfl ?_
        refine XS.iconst X264.here hx rfl (hb hby at_313) ?_
        exact k
      by_cases hc270 : ow < (1 : Int32)
      · have go271 : Goes p e below s₁ (entryFrame m #[(.int fl), (.int ca), (.int cb), (.int cc)] maxLocals) T264 (mkF m 330 #[vI fl, vI ca, vI cb, vI cc, vI fl1, vI flp, vI flk, vI flc, vI fl2, vI flt, vI xa, vI xb, vI xc, vR aH, vR sa158, vR aE, vI ne4, vI ow] [(.int (2 : Int32)), (.int ow)]) := fun t k => by
          refine go269 t ?_
          refine XS.icmpYes X264.here hx rfl (pc0 := 314) (pc' := 327) rfl (hb hby at_314) rfl (Jvm.Free.XT.ii_lt_t hc270) (by decide) (by decide) ?_
          refine XS.iload X264.here hx rfl (hb hby at_327) rfl ?_
          refine XS.iconst X264.here hx rfl (hb hby at_329) ?_
          exact k
        by_cases hc272 : ow < (2 : Int32)
        · have go273 : Goes p e below s₁ (entryFrame m #[(.int fl), (.int ca), (.int cb), (.int cc)] maxLocals) T264 (mkF m 343 #[vI fl, vI ca, vI cb, vI cc, vI fl1, vI flp, vI flk, vI flc, vI fl2, vI flt, vI xa, vI xb, vI xc, vR aH, vR sa158, vR aE, vI ne4, vI ow] []) := fun t k => by
            refine go271 t ?_
            refine XS.icmpYes X264.here hx rfl (pc0 := 330) (pc' := 343) rfl (hb hby at_330) rfl (Jvm.Free.XT.ii_lt_t hc272) (by decide) (by decide) ?_
            exact k
          exact ⟨T264, h191, _, ys4, ne4, X264, e264, Z191, N191, O191, fj191_0, fj191_1, fj191_2, fj191_3, V191, ln191, rg191, (by simp [own_tabs, hbb, hc270, hc272]), go273⟩
        · obtain ⟨cl274, Ar274, kq274, Sz274, Nn274, Hs274, Gf274⟩ := Arv.pad (vs' := (List.map Value.int ys4) ++ [(.int (0 : Int32))]) (V191) (own_pad _ _)
          have hin274 : ¬ (ne4 < 0 ∨ cl274.slots.size ≤ (ne4).toNatClampNeg) := inb_of Sz274 ⟨ln191.nn, ln191.lt6 (by first | omega | decide | (simp; omega))⟩
          obtain ⟨T275, h275, X275, e275, W275, st275⟩ := stC X264 hx hZ e264 Ar274 (j := ne4) hin274 (g := (mkF m 339 #[vI fl, vI ca, vI cb, vI cc, vI fl1, vI flp, vI flk, vI flc, vI fl2, vI flt, vI xa, vI xb, vI xc, vR aH, vR sa158, vR aE, vI ne4, vI ow] [(.int (9 : Int32)), (.int ne4), (.ref aE)])) rfl rfl (hb hby at_339)
          have V276 : Arv Z h275 aE k162 .char 6 (List.map Value.int (ys4 ++ [(9 : Int32)])) (.int (0 : Int32)) := own_cap (xs := ys4) (c := (9 : Int32)) ⟨by decide, by decide⟩ ▸ Arv.set Ar274 kq274 Sz274 Nn274 Hs274 Gf274 (fits_nar_char _) W275 _ (ln191.nat.trans (List.length_map _).symm) (by simp)
          have ln277 := ln191.push (9 : Int32) (by first | omega | (simp; omega))
          have rg278 : own_rg (ys4 ++ [(9 : Int32)]) := own_rg.push rg191 ⟨by decide, by decide⟩
          have f279 := fj191_0.wr W275
          have f280 := fj191_1.other W275 (Or.inl (Nat.ne_of_lt (Nat.lt_of_lt_of_le Fq158.lt le_aE)))
          have f281 := fj191_2.other W275 (Or.inl (Nat.ne_of_lt (Nat.lt_of_lt_of_le Fq158.lt le_aE)))
          have f282 := fj191_3.other W275 (Nat.ne_of_lt (Nat.lt_of_lt_of_le Vq158.lt le_aE))
          have O283 := O191.wr W275 gn_aE
          have Z284 := Nat.le_trans Z191 (Nat.le_of_eq W275.size.symm)
          have N285 := Fr.snoc X275 N191 gn_aE
          have go286 : Goes p e below s₁ (entryFrame m #[(.int fl), (.int ca), (.int cb), (.int cc)] maxLocals) T275 (mkF m 343 #[vI fl, vI ca, vI cb, vI cc, vI fl1, vI flp, vI flk, vI flc, vI fl2, vI flt, vI xa, vI xb, vI xc, vR aH, vR sa158, vR aE, .val (.int (ne4 + (1 : Int32))), vI ow] []) := fun t k => by
            refine go271 t ?_
            refine XS.icmpNo X264.here hx rfl (hb hby at_330) rfl (Jvm.Free.XT.ii_lt_f hc272) ?_
            refine XS.aload X264.here hx rfl (hb hby at_333) rfl rfl ?_
            refine XS.iload X264.here hx rfl (hb hby at_335) rfl ?_
            refine XS.bipush X264.here hx rfl (hb hby at_337) ?_
            refine st275 t ?_
            refine XS.iinc X275.here hx rfl (hb hby at_340) rfl (l' := #[vI fl, vI ca, vI cb, vI cc, vI fl1, vI flp, vI flk, vI flc, vI fl2, vI flt, vI xa, vI xb, vI xc, vR aH, vR sa158, vR aE, .val (.int (ne4 + (1 : Int32))), vI ow]) rfl ?_
            exact k
          exact ⟨T275, h275, _, (ys4 ++ [(9 : Int32)]), (ne4 + (1 : Int32)), X275, e275, Z284, N285, O283, f279, f280, f281, f282, V276, ln277, rg278, (by simp [own_tabs, hbb, hc270, hc272]), go286⟩
      · obtain ⟨cl287, Ar287, kq287, Sz287, Nn287, Hs287, Gf287⟩ := Arv.pad (vs' := (List.map Value.int ys4) ++ [(.int (0 : Int32))]) (V191) (own_pad _ _)
        have hin287 : ¬ (ne4 < 0 ∨ cl287.slots.size ≤ (ne4).toNatClampNeg) := inb_of Sz287 ⟨ln191.nn, ln191.lt6 (by first | omega | decide | (simp; omega))⟩
        obtain ⟨T288, h288, X288, e288, W288, st288⟩ := stC X264 hx hZ e264 Ar287 (j := ne4) hin287 (g := (mkF m 323 #[vI fl, vI ca, vI cb, vI cc, vI fl1, vI flp, vI flk, vI flc, vI fl2, vI flt, vI xa, vI xb, vI xc, vR aH, vR sa158, vR aE, vI ne4, vI ow] [(.int (9 : Int32)), (.int ne4), (.ref aE)])) rfl rfl (hb hby at_323)
        have V289 : Arv Z h288 aE k162 .char 6 (List.map Value.int (ys4 ++ [(9 : Int32)])) (.int (0 : Int32)) := own_cap (xs := ys4) (c := (9 : Int32)) ⟨by decide, by decide⟩ ▸ Arv.set Ar287 kq287 Sz287 Nn287 Hs287 Gf287 (fits_nar_char _) W288 _ (ln191.nat.trans (List.length_map _).symm) (by simp)
        have ln290 := ln191.push (9 : Int32) (by first | omega | (simp; omega))
        have rg291 : own_rg (ys4 ++ [(9 : Int32)]) := own_rg.push rg191 ⟨by decide, by decide⟩
        have f292 := fj191_0.wr W288
        have f293 := fj191_1.other W288 (Or.inl (Nat.ne_of_lt (Nat.lt_of_lt_of_le Fq158.lt le_aE)))
        have f294 := fj191_2.other W288 (Or.inl (Nat.ne_of_lt (Nat.lt_of_lt_of_le Fq158.lt le_aE)))
        have f295 := fj191_3.other W288 (Nat.ne_of_lt (Nat.lt_of_lt_of_le Vq158.lt le_aE))
        have O296 := O191.wr W288 gn_aE
        have Z297 := Nat.le_trans Z191 (Nat.le_of_eq W288.size.symm)
        have N298 := Fr.snoc X288 N191 gn_aE
        have go299 : Goes p e below s₁ (entryFrame m #[(.int fl), (.int ca), (.int cb), (.int cc)] maxLocals) T288 (mkF m 330 #[vI fl, vI ca, vI cb, vI cc, vI fl1, vI flp, vI flk, vI flc, vI fl2, vI flt, vI xa, vI xb, vI xc, vR aH, vR sa158, vR aE, .val (.int (ne4 + (1 : Int32))), vI ow] [(.int (2 : Int32)), (.int ow)]) := fun t k => by
          refine go269 t ?_
          refine XS.icmpNo X264.here hx rfl (hb hby at_314) rfl (Jvm.Free.XT.ii_lt_f hc270) ?_
          refine XS.aload X264.here hx rfl (hb hby at_317) rfl rfl ?_
          refine XS.iload X264.here hx rfl (hb hby at_319) rfl ?_
          refine XS.bipush X264.here hx rfl (hb hby at_321) ?_
          refine st288 t ?_
          refine XS.iinc X288.here hx rfl (hb hby at_324) rfl (l' := #[vI fl, vI ca, vI cb, vI cc, vI fl1, vI flp, vI flk, vI flc, vI fl2, vI flt, vI xa, vI xb, vI xc, vR aH, vR sa158, vR aE, .val (.int (ne4 + (1 : Int32))), vI ow]) rfl ?_
          show Steps p.tables e below (T288.setTop (mkF m 327 #[vI fl, vI ca, vI cb, vI cc, vI fl1, vI flp, vI flk, vI flc, vI fl2, vI flt, vI xa, vI xb, vI xc, vR aH, vR sa158, vR aE, .val (.int (ne4 + (1 : Int32))), vI ow] [])) _
          refine XS.iload X288.here hx rfl (hb hby at_327) rfl ?_
          refine XS.iconst X288.here hx rfl (hb hby at_329) ?_
          exact k
        by_cases hc300 : ow < (2 : Int32)
        · have go301 : Goes p e below s₁ (entryFrame m #[(.int fl), (.int ca), (.int cb), (.int cc)] maxLocals) T288 (mkF m 343 #[vI fl, vI ca, vI cb, vI cc, vI fl1, vI flp, vI flk, vI flc, vI fl2, vI flt, vI xa, vI xb, vI xc, vR aH, vR sa158, vR aE, .val (.int (ne4 + (1 : Int32))), vI ow] []) := fun t k => by
            refine go299 t ?_
            refine XS.icmpYes X288.here hx rfl (pc0 := 330) (pc' := 343) rfl (hb hby at_330) rfl (Jvm.Free.XT.ii_lt_t hc300) (by decide) (by decide) ?_
            exact k
          exact ⟨T288, h288, _, (ys4 ++ [(9 : Int32)]), (ne4 + (1 : Int32)), X288, e288, Z297, N298, O296, f292, f293, f294, f295, V289, ln290, rg291, (by simp [own_tabs, hbb, hc270, hc300]), go301⟩
        · obtain ⟨cl302, Ar302, kq302, Sz302, Nn302, Hs302, Gf302⟩ := Arv.pad (vs' := (List.map Value.int (ys4 ++ [(9 : Int32)])) ++ [(.int (0 : Int32))]) (V289) (own_pad _ _)
          have hin302 : ¬ ((ne4 + (1 : Int32)) < 0 ∨ cl302.slots.size ≤ ((ne4 + (1 : Int32))).toNatClampNeg) := inb_of Sz302 ⟨ln290.nn, ln290.lt6 (by first | omega | decide | (simp; omega))⟩
          obtain ⟨T303, h303, X303, e303, W303, st303⟩ := stC X288 hx hZ e288 Ar302 (j := (ne4 + (1 : Int32))) hin302 (g := (mkF m 339 #[vI fl, vI ca, vI cb, vI cc, vI fl1, vI flp, vI flk, vI flc, vI fl2, vI flt, vI xa, vI xb, vI xc, vR aH, vR sa158, vR aE, .val (.int (ne4 + (1 : Int32))), vI ow] [(.int (9 : Int32)), (.int (ne4 + (1 : Int32))), (.ref aE)])) rfl rfl (hb hby at_339)
          have V304 : Arv Z h303 aE k162 .char 6 (List.map Value.int ((ys4 ++ [(9 : Int32)]) ++ [(9 : Int32)])) (.int (0 : Int32)) := own_cap (xs := (ys4 ++ [(9 : Int32)])) (c := (9 : Int32)) ⟨by decide, by decide⟩ ▸ Arv.set Ar302 kq302 Sz302 Nn302 Hs302 Gf302 (fits_nar_char _) W303 _ (ln290.nat.trans (List.length_map _).symm) (by simp)
          have ln305 := ln290.push (9 : Int32) (by first | omega | (simp; omega))
          have rg306 : own_rg ((ys4 ++ [(9 : Int32)]) ++ [(9 : Int32)]) := own_rg.push rg291 ⟨by decide, by decide⟩
          have f307 := f292.wr W303
          have f308 := f293.other W303 (Or.inl (Nat.ne_of_lt (Nat.lt_of_lt_of_le Fq158.lt le_aE)))
          have f309 := f294.other W303 (Or.inl (Nat.ne_of_lt (Nat.lt_of_lt_of_le Fq158.lt le_aE)))
          have f310 := f295.other W303 (Nat.ne_of_lt (Nat.lt_of_lt_of_le Vq158.lt le_aE))
          have O311 := O296.wr W303 gn_aE
          have Z312 := Nat.le_trans Z297 (Nat.le_of_eq W303.size.symm)
          have N313 := Fr.snoc X303 N298 gn_aE
          have go314 : Goes p e below s₁ (entryFrame m #[(.int fl), (.int ca), (.int cb), (.int cc)] maxLocals) T303 (mkF m 343 #[vI fl, vI ca, vI cb, vI cc, vI fl1, vI flp, vI flk, vI flc, vI fl2, vI flt, vI xa, vI xb, vI xc, vR aH, vR sa158, vR aE, .val (.int ((ne4 + (1 : Int32)) + (1 : Int32))), vI ow] []) := fun t k => by
            refine go299 t ?_
            refine XS.icmpNo X288.here hx rfl (hb hby at_330) rfl (Jvm.Free.XT.ii_lt_f hc300) ?_
            refine XS.aload X288.here hx rfl (hb hby at_333) rfl rfl ?_
            refine XS.iload X288.here hx rfl (hb hby at_335) rfl ?_
            refine XS.bipush X288.here hx rfl (hb hby at_337) ?_
            refine st303 t ?_
            refine XS.iinc X303.here hx rfl (hb hby at_340) rfl (l' := #[vI fl, vI ca, vI cb, vI cc, vI fl1, vI flp, vI flk, vI flc, vI fl2, vI flt, vI xa, vI xb, vI xc, vR aH, vR sa158, vR aE, .val (.int ((ne4 + (1 : Int32)) + (1 : Int32))), vI ow]) rfl ?_
            exact k
          exact ⟨T303, h303, _, ((ys4 ++ [(9 : Int32)]) ++ [(9 : Int32)]), ((ne4 + (1 : Int32)) + (1 : Int32)), X303, e303, Z312, N313, O311, f307, f308, f309, f310, V304, ln305, rg306, (by simp [own_tabs, hbb, hc270, hc300]), go314⟩
  have hE5 : ys5.length ≤ 5 := by rw [hj260, how]; exact own_tabs_len h_fl2 h_flt hE4
  obtain ⟨T315, h315, lo315, ys6, ne6, X315, e315, Z315, N315, O315, fj315_0, fj315_1, fj315_2, fj315_3, V315, ln315, rg315, hj315, go315j⟩ : ∃ (T' : State) (h' : Heap) (lo' : List Loc) (ys6 : List Int32) (ne6 : Int32), Stand p l e room_1 s m #[(.int fl), (.int ca), (.int cb), (.int cc)] below meth c T' lo' 15 157 ∧ T'.heap = h' ∧ n0 ≤ h'.size ∧ Fr n0 lo' ∧ Old Z n0 h' ∧ Exa Z h' sa158 "java/lang/String" ∧ Fld Z h' sa158 "java/lang/String" "coder" "B" (.int (0 : Int32)) ∧ Fld Z h' sa158 "java/lang/String" "value" "[B" (.ref sb158) ∧ Arv Z h' sb158 kb158 .byte nz158 (own_vs (own_fin tx4)) (.int (0 : Int32)) ∧ Arv Z h' aE k162 .char 6 (ys6.map Value.int) (.int (0 : Int32)) ∧ own_ln ys6 ne6 ∧ own_rg ys6 ∧ (ys6 = own_fin ys5) ∧ Goes p e below s₁ (entryFrame m #[(.int fl), (.int ca), (.int cb), (.int cc)] maxLocals) T' (mkF m 358 #[vI fl, vI ca, vI cb, vI cc, vI fl1, vI flp, vI flk, vI flc, vI fl2, vI flt, vI xa, vI xb, vI xc, vR aH, vR sa158, vR aE, vI ne6, vI ow] []) := by
    have go316 : Goes p e below s₁ (entryFrame m #[(.int fl), (.int ca), (.int cb), (.int cc)] maxLocals) T260 (mkF m 345 #[vI fl, vI ca, vI cb, vI cc, vI fl1, vI flp, vI flk, vI flc, vI fl2, vI flt, vI xa, vI xb, vI xc, vR aH, vR sa158, vR aE, vI ne5, vI ow] [(.int ne5)]) := fun t k => by
      refine go260j t ?_
      refine XS.iload X260.here hx rfl (hb hby at_343) rfl ?_
      exact k
    by_cases hc317 : (0 : Int32) < ne5
    · obtain ⟨cl318, Ar318, kq318, Sz318, Nn318, Hs318, Gf318⟩ := Arv.pad (vs' := (List.map Value.int ys5) ++ [(.int (0 : Int32))]) (V260) (own_pad _ _)
      have hin318 : ¬ (ne5 < 0 ∨ cl318.slots.size ≤ (ne5).toNatClampNeg) := inb_of Sz318 ⟨ln260.nn, ln260.lt6 (by first | omega | decide | (simp; omega))⟩
      obtain ⟨T319, h319, X319, e319, W319, st319⟩ := stC X260 hx hZ e260 Ar318 (j := ne5) hin318 (g := (mkF m 354 #[vI fl, vI ca, vI cb, vI cc, vI fl1, vI flp, vI flk, vI flc, vI fl2, vI flt, vI xa, vI xb, vI xc, vR aH, vR sa158, vR aE, vI ne5, vI ow] [(.int (10 : Int32)), (.int ne5), (.ref aE)])) rfl rfl (hb hby at_354)
      have V320 : Arv Z h319 aE k162 .char 6 (List.map Value.int (ys5 ++ [(10 : Int32)])) (.int (0 : Int32)) := own_cap (xs := ys5) (c := (10 : Int32)) ⟨by decide, by decide⟩ ▸ Arv.set Ar318 kq318 Sz318 Nn318 Hs318 Gf318 (fits_nar_char _) W319 _ (ln260.nat.trans (List.length_map _).symm) (by simp)
      have ln321 := ln260.push (10 : Int32) (by first | omega | (simp; omega))
      have rg322 : own_rg (ys5 ++ [(10 : Int32)]) := own_rg.push rg260 ⟨by decide, by decide⟩
      have f323 := fj260_0.wr W319
      have f324 := fj260_1.other W319 (Or.inl (Nat.ne_of_lt (Nat.lt_of_lt_of_le Fq158.lt le_aE)))
      have f325 := fj260_2.other W319 (Or.inl (Nat.ne_of_lt (Nat.lt_of_lt_of_le Fq158.lt le_aE)))
      have f326 := fj260_3.other W319 (Nat.ne_of_lt (Nat.lt_of_lt_of_le Vq158.lt le_aE))
      have O327 := O260.wr W319 gn_aE
      have Z328 := Nat.le_trans Z260 (Nat.le_of_eq W319.size.symm)
      have N329 := Fr.snoc X319 N260 gn_aE
      have go330 : Goes p e below s₁ (entryFrame m #[(.int fl), (.int ca), (.int cb), (.int cc)] maxLocals) T319 (mkF m 358 #[vI fl, vI ca, vI cb, vI cc, vI fl1, vI flp, vI flk, vI flc, vI fl2, vI flt, vI xa, vI xb, vI xc, vR aH, vR sa158, vR aE, .val (.int (ne5 + (1 : Int32))), vI ow] []) := fun t k => by
        refine go316 t ?_
        refine XS.ifNo X260.here hx rfl (hb hby at_345) rfl (Jvm.Free.XT.i0_le_f hc317) ?_
        refine XS.aload X260.here hx rfl (hb hby at_348) rfl rfl ?_
        refine XS.iload X260.here hx rfl (hb hby at_350) rfl ?_
        refine XS.bipush X260.here hx rfl (hb hby at_352) ?_
        refine st319 t ?_
        refine XS.iinc X319.here hx rfl (hb hby at_355) rfl (l' := #[vI fl, vI ca, vI cb, vI cc, vI fl1, vI flp, vI flk, vI flc, vI fl2, vI flt, vI xa, vI xb, vI xc, vR aH, vR sa158, vR aE, .val (.int (ne5 + (1 : Int32))), vI ow]) rfl ?_
        exact k
      exact ⟨T319, h319, _, (ys5 ++ [(10 : Int32)]), (ne5 + (1 : Int32)), X319, e319, Z328, N329, O327, f323, f324, f325, f326, V320, ln321, rg322, (own_fin1 ln260 hc317).symm, go330⟩
    · have go331 : Goes p e below s₁ (entryFrame m #[(.int fl), (.int ca), (.int cb), (.int cc)] maxLocals) T260 (mkF m 358 #[vI fl, vI ca, vI cb, vI cc, vI fl1, vI flp, vI flk, vI flc, vI fl2, vI flt, vI xa, vI xb, vI xc, vR aH, vR sa158, vR aE, vI ne5, vI ow] []) := fun t k => by
        refine go316 t ?_
        refine XS.ifYes X260.here hx rfl (pc0 := 345) (pc' := 358) rfl (hb hby at_345) rfl (Jvm.Free.XT.i0_le_t hc317) (by decide) (by decide) ?_
        exact k
      exact ⟨T260, h260, _, ys5, ne5, X260, e260, Z260, N260, O260, fj260_0, fj260_1, fj260_2, fj260_3, V260, ln260, rg260, (own_fin0 ln260 hc317).symm, go331⟩
  have htx : own_fin tx4 = ys6 := by rw [hj315, hj260, how, hj191, hj173, ex4]
  have hnz : nz158 = ne6 := own_ln_inj (htx ▸ lnq158) ln315
  have V332 : Arv Z h315 sb158 kb158 .byte ne6 (own_vs ys6) (.int (0 : Int32)) := by rw [← hnz, ← htx]; exact fj315_3
  obtain ⟨cq333, kq333, q333a, q333b, q333c⟩ := isOf hZ e315 fj315_0
  obtain ⟨_, _, ⟨T333, L333, k333, n333⟩, -, X333, ⟨Lc333, hQ333, l333, y333, z333⟩, st333⟩ := X315.virtualBack hx (y := mN_33) (z := mN_33) hown (mvT hZ (own_w hw 173 rfl)) (mvT hZ (own_w hw 174 rfl)) (notFace_of_selects (args := #[]) (mvT hZ (own_w hw 176 rfl))) (mvT hZ (own_w hw 176 rfl)) (mvT hZ (own_w hw 175 rfl)) (by decide) (backOf (W := 0) (rmLn l Z a0 hw [] sa158 sb158 kb158 ne6 ys6 cs h315 n0 Z315 O315 S_CS hcs fj315_0 fj315_1 fj315_2 V332) hZ (own_w hw 177 rfl) (own_w hw 23 rfl) (by decide) (by decide)) q333a q333c (g := (mkF m 360 #[vI fl, vI ca, vI cb, vI cc, vI fl1, vI flp, vI flk, vI flc, vI fl2, vI flt, vI xa, vI xb, vI xc, vR aH, vR sa158, vR aE, vI ne6, vI ow] [(.ref sa158)])) rfl (by rw [hml]; rfl) (Steps.refl _) (argsL := []) (rest := []) (lenOf pd_4 rfl) rfl (by show 2 * 0 + _ ≤ _; exact Nat.le_of_eq rfl) (hb hby at_360) (fun _ _ => ⟨rfl, e315, (by decide : 15 + 0 ≤ room_1.cells), (by decide : 157 + 0 ≤ room_1.slots)⟩)
  dsimp only [Pt.U, Pt.locs, Pt.cells, Pt.slots] at X333 l333 y333 z333 st333 hQ333
  subst l333 y333 z333
  obtain ⟨rfl, N333q, e333⟩ := hQ333
  have N333 := Fr.app N315 N333q
  obtain ⟨_, _, ⟨T334, L334, k334, n334⟩, -, X334, ⟨Lc334, hQ334, l334, y334, z334⟩, st334⟩ := Jvm.LawKit.callS X333 hx (y := mN_11) hown (mvT hZ (own_w hw 184 rfl)) (mvT hZ (own_w hw 185 rfl)) (mvT hZ (own_w hw 186 rfl)) (mvT hZ (own_w hw 187 rfl)) (by decide) (backOf (W := 0) (rmAt l Z a0 hw [] sa158 aE ne6 (0 : Int32) sb158 kb158 k162 ys6 cs fm h315 n0 Z315 O315 S_CS hcs S_FM hfm fj315_0 fj315_1 fj315_2 V332 V315 ln315 rg315 (by decide) (by decide)) hZ (own_w hw 187 rfl) (own_w hw 186 rfl) (by decide) (by decide)) (g := (mkF m 375 #[vI fl, vI ca, vI cb, vI cc, vI fl1, vI flp, vI flk, vI flc, vI fl2, vI flt, vI xa, vI xb, vI xc, vR aH, vR sa158, vR aE, vI ne6, vI ow] [(.int (0 : Int32)), (.int ne6), (.ref aE), (.ref sa158)])) rfl (by rw [hml]; rfl) (argsL := [(.ref sa158), (.ref aE), (.int ne6), (.int (0 : Int32))]) (rest := []) (lenOf pd_24 rfl) rfl (by show 2 * 0 + _ ≤ _; exact Nat.le_of_eq rfl) (hb hby at_375) (fun _ _ => ⟨rfl, e333, (by decide : 15 + 0 ≤ room_1.cells), (by decide : 157 + 0 ≤ room_1.slots)⟩)
  dsimp only [Pt.U, Pt.locs, Pt.cells, Pt.slots] at X334 l334 y334 z334 st334 hQ334
  subst l334 y334 z334
  obtain ⟨rfl, N334q, e334⟩ := hQ334
  have N334 := Fr.app N333 N334q
  obtain ⟨_, _, ⟨T335, L335, k335, n335⟩, -, X335, ⟨Lc335, hQ335, l335, y335, z335⟩, st335⟩ := Jvm.LawKit.callS X334 hx (y := mN_11) hown (mvT hZ (own_w hw 184 rfl)) (mvT hZ (own_w hw 185 rfl)) (mvT hZ (own_w hw 186 rfl)) (mvT hZ (own_w hw 187 rfl)) (by decide) (backOf (W := 0) (rmAt l Z a0 hw [] sa158 aE ne6 (1 : Int32) sb158 kb158 k162 ys6 cs fm h315 n0 Z315 O315 S_CS hcs S_FM hfm fj315_0 fj315_1 fj315_2 V332 V315 ln315 rg315 (by decide) (by decide)) hZ (own_w hw 187 rfl) (own_w hw 186 rfl) (by decide) (by decide)) (g := (mkF m 388 #[vI fl, vI ca, vI cb, vI cc, vI fl1, vI flp, vI flk, vI flc, vI fl2, vI flt, vI xa, vI xb, vI xc, vR aH, vR sa158, vR aE, vI ne6, vI ow] [(.int (1 : Int32)), (.int ne6), (.ref aE), (.ref sa158)])) rfl (by rw [hml]; rfl) (argsL := [(.ref sa158), (.ref aE), (.int ne6), (.int (1 : Int32))]) (rest := []) (lenOf pd_24 rfl) rfl (by show 2 * 0 + _ ≤ _; exact Nat.le_of_eq rfl) (hb hby at_388) (fun _ _ => ⟨rfl, e334, (by decide : 15 + 0 ≤ room_1.cells), (by decide : 157 + 0 ≤ room_1.slots)⟩)
  dsimp only [Pt.U, Pt.locs, Pt.cells, Pt.slots] at X335 l335 y335 z335 st335 hQ335
  subst l335 y335 z335
  obtain ⟨rfl, N335q, e335⟩ := hQ335
  have N335 := Fr.app N334 N335q
  obtain ⟨_, _, ⟨T336, L336, k336, n336⟩, -, X336, ⟨Lc336, hQ336, l336, y336, z336⟩, st336⟩ := Jvm.LawKit.callS X335 hx (y := mN_11) hown (mvT hZ (own_w hw 184 rfl)) (mvT hZ (own_w hw 185 rfl)) (mvT hZ (own_w hw 186 rfl)) (mvT hZ (own_w hw 187 rfl)) (by decide) (backOf (W := 0) (rmAt l Z a0 hw [] sa158 aE ne6 (2 : Int32) sb158 kb158 k162 ys6 cs fm h315 n0 Z315 O315 S_CS hcs S_FM hfm fj315_0 fj315_1 fj315_2 V332 V315 ln315 rg315 (by decide) (by decide)) hZ (own_w hw 187 rfl) (own_w hw 186 rfl) (by decide) (by decide)) (g := (mkF m 401 #[vI fl, vI ca, vI cb, vI cc, vI fl1, vI flp, vI flk, vI flc, vI fl2, vI flt, vI xa, vI xb, vI xc, vR aH, vR sa158, vR aE, vI ne6, vI ow] [(.int (2 : Int32)), (.int ne6), (.ref aE), (.ref sa158)])) rfl (by rw [hml]; rfl) (argsL := [(.ref sa158), (.ref aE), (.int ne6), (.int (2 : Int32))]) (rest := []) (lenOf pd_24 rfl) rfl (by show 2 * 0 + _ ≤ _; exact Nat.le_of_eq rfl) (hb hby at_401) (fun _ _ => ⟨rfl, e335, (by decide : 15 + 0 ≤ room_1.cells), (by decide : 157 + 0 ≤ room_1.slots)⟩)
  dsimp only [Pt.U, Pt.locs, Pt.cells, Pt.slots] at X336 l336 y336 z336 st336 hQ336
  subst l336 y336 z336
  obtain ⟨rfl, N336q, e336⟩ := hQ336
  have N336 := Fr.app N335 N336q
  obtain ⟨_, _, ⟨T337, L337, k337, n337⟩, -, X337, ⟨Lc337, hQ337, l337, y337, z337⟩, st337⟩ := Jvm.LawKit.callS X336 hx (y := mN_11) hown (mvT hZ (own_w hw 184 rfl)) (mvT hZ (own_w hw 185 rfl)) (mvT hZ (own_w hw 186 rfl)) (mvT hZ (own_w hw 187 rfl)) (by decide) (backOf (W := 0) (rmAt l Z a0 hw [] sa158 aE ne6 (3 : Int32) sb158 kb158 k162 ys6 cs fm h315 n0 Z315 O315 S_CS hcs S_FM hfm fj315_0 fj315_1 fj315_2 V332 V315 ln315 rg315 (by decide) (by decide)) hZ (own_w hw 187 rfl) (own_w hw 186 rfl) (by decide) (by decide)) (g := (mkF m 414 #[vI fl, vI ca, vI cb, vI cc, vI fl1, vI flp, vI flk, vI flc, vI fl2, vI flt, vI xa, vI xb, vI xc, vR aH, vR sa158, vR aE, vI ne6, vI ow] [(.int (3 : Int32)), (.int ne6), (.ref aE), (.ref sa158)])) rfl (by rw [hml]; rfl) (argsL := [(.ref sa158), (.ref aE), (.int ne6), (.int (3 : Int32))]) (rest := []) (lenOf pd_24 rfl) rfl (by show 2 * 0 + _ ≤ _; exact Nat.le_of_eq rfl) (hb hby at_414) (fun _ _ => ⟨rfl, e336, (by decide : 15 + 0 ≤ room_1.cells), (by decide : 157 + 0 ≤ room_1.slots)⟩)
  dsimp only [Pt.U, Pt.locs, Pt.cells, Pt.slots] at X337 l337 y337 z337 st337 hQ337
  subst l337 y337 z337
  obtain ⟨rfl, N337q, e337⟩ := hQ337
  have N337 := Fr.app N336 N337q
  obtain ⟨_, _, ⟨T338, L338, k338, n338⟩, -, X338, ⟨Lc338, hQ338, l338, y338, z338⟩, st338⟩ := Jvm.LawKit.callS X337 hx (y := mN_11) hown (mvT hZ (own_w hw 184 rfl)) (mvT hZ (own_w hw 185 rfl)) (mvT hZ (own_w hw 186 rfl)) (mvT hZ (own_w hw 187 rfl)) (by decide) (backOf (W := 0) (rmAt l Z a0 hw [] sa158 aE ne6 (4 : Int32) sb158 kb158 k162 ys6 cs fm h315 n0 Z315 O315 S_CS hcs S_FM hfm fj315_0 fj315_1 fj315_2 V332 V315 ln315 rg315 (by decide) (by decide)) hZ (own_w hw 187 rfl) (own_w hw 186 rfl) (by decide) (by decide)) (g := (mkF m 427 #[vI fl, vI ca, vI cb, vI cc, vI fl1, vI flp, vI flk, vI flc, vI fl2, vI flt, vI xa, vI xb, vI xc, vR aH, vR sa158, vR aE, vI ne6, vI ow] [(.int (4 : Int32)), (.int ne6), (.ref aE), (.ref sa158)])) rfl (by rw [hml]; rfl) (argsL := [(.ref sa158), (.ref aE), (.int ne6), (.int (4 : Int32))]) (rest := []) (lenOf pd_24 rfl) rfl (by show 2 * 0 + _ ≤ _; exact Nat.le_of_eq rfl) (hb hby at_427) (fun _ _ => ⟨rfl, e337, (by decide : 15 + 0 ≤ room_1.cells), (by decide : 157 + 0 ≤ room_1.slots)⟩)
  dsimp only [Pt.U, Pt.locs, Pt.cells, Pt.slots] at X338 l338 y338 z338 st338 hQ338
  subst l338 y338 z338
  obtain ⟨rfl, N338q, e338⟩ := hQ338
  have N338 := Fr.app N337 N338q
  obtain ⟨_, _, ⟨T339, L339, k339, n339⟩, -, X339, ⟨Lc339, hQ339, l339, y339, z339⟩, st339⟩ := Jvm.LawKit.callS X338 hx (y := mN_11) hown (mvT hZ (own_w hw 184 rfl)) (mvT hZ (own_w hw 185 rfl)) (mvT hZ (own_w hw 186 rfl)) (mvT hZ (own_w hw 187 rfl)) (by decide) (backOf (W := 0) (rmAt l Z a0 hw [] sa158 aE ne6 (5 : Int32) sb158 kb158 k162 ys6 cs fm h315 n0 Z315 O315 S_CS hcs S_FM hfm fj315_0 fj315_1 fj315_2 V332 V315 ln315 rg315 (by decide) (by decide)) hZ (own_w hw 187 rfl) (own_w hw 186 rfl) (by decide) (by decide)) (g := (mkF m 440 #[vI fl, vI ca, vI cb, vI cc, vI fl1, vI flp, vI flk, vI flc, vI fl2, vI flt, vI xa, vI xb, vI xc, vR aH, vR sa158, vR aE, vI ne6, vI ow] [(.int (5 : Int32)), (.int ne6), (.ref aE), (.ref sa158)])) rfl (by rw [hml]; rfl) (argsL := [(.ref sa158), (.ref aE), (.int ne6), (.int (5 : Int32))]) (rest := []) (lenOf pd_24 rfl) rfl (by show 2 * 0 + _ ≤ _; exact Nat.le_of_eq rfl) (hb hby at_440) (fun _ _ => ⟨rfl, e338, (by decide : 15 + 0 ≤ room_1.cells), (by decide : 157 + 0 ≤ room_1.slots)⟩)
  dsimp only [Pt.U, Pt.locs, Pt.cells, Pt.slots] at X339 l339 y339 z339 st339 hQ339
  subst l339 y339 z339
  obtain ⟨rfl, N339q, e339⟩ := hQ339
  have N339 := Fr.app N338 N339q
  have go340 : Goes p e below s₁ (entryFrame m #[(.int fl), (.int ca), (.int cb), (.int cc)] maxLocals) T339 (mkF m 451 #[vI fl, vI ca, vI cb, vI cc, vI fl1, vI flp, vI flk, vI flc, vI fl2, vI flt, vI xa, vI xb, vI xc, vR aH, vR sa158, vR aE, vI ne6, vI ow] [(.int (1 : Int32))]) := fun t k => by
    refine go315j t ?_
    refine XS.aload X315.here hx rfl (hb hby at_358) rfl rfl ?_
    refine st333.trans ?_
    refine XS.iload X333.here hx rfl (hb hby at_363) rfl ?_
    refine XS.icmpNo X333.here hx rfl (hb hby at_365) rfl (Jvm.Free.XT.ii_ne_f rfl) ?_
    refine XS.aload X333.here hx rfl (hb hby at_368) rfl rfl ?_
    refine XS.aload X333.here hx rfl (hb hby at_370) rfl rfl ?_
    show Steps p.tables e below (T333.setTop (mkF m 372 #[vI fl, vI ca, vI cb, vI cc, vI fl1, vI flp, vI flk, vI flc, vI fl2, vI flt, vI xa, vI xb, vI xc, vR aH, vR sa158, vR aE, vI ne6, vI ow] [(.ref aE), (.ref sa158)])) _
    refine XS.iload X333.here hx rfl (hb hby at_372) rfl ?_
    refine XS.iconst X333.here hx rfl (hb hby at_374) ?_
    refine st334 t ?_
    refine XS.ifNo X334.here hx rfl (hb hby at_378) rfl (Jvm.Free.XT.i0_eq_f (by decide)) ?_
    refine XS.aload X334.here hx rfl (hb hby at_381) rfl rfl ?_
    refine XS.aload X334.here hx rfl (hb hby at_383) rfl rfl ?_
    show Steps p.tables e below (T334.setTop (mkF m 385 #[vI fl, vI ca, vI cb, vI cc, vI fl1, vI flp, vI flk, vI flc, vI fl2, vI flt, vI xa, vI xb, vI xc, vR aH, vR sa158, vR aE, vI ne6, vI ow] [(.ref aE), (.ref sa158)])) _
    refine XS.iload X334.here hx rfl (hb hby at_385) rfl ?_
    refine XS.iconst X334.here hx rfl (hb hby at_387) ?_
    refine st335 t ?_
    refine XS.ifNo X335.here hx rfl (hb hby at_391) rfl (Jvm.Free.XT.i0_eq_f (by decide)) ?_
    refine XS.aload X335.here hx rfl (hb hby at_394) rfl rfl ?_
    refine XS.aload X335.here hx rfl (hb hby at_396) rfl rfl ?_
    show Steps p.tables e below (T335.setTop (mkF m 398 #[vI fl, vI ca, vI cb, vI cc, vI fl1, vI flp, vI flk, vI flc, vI fl2, vI flt, vI xa, vI xb, vI xc, vR aH, vR sa158, vR aE, vI ne6, vI ow] [(.ref aE), (.ref sa158)])) _
    refine XS.iload X335.here hx rfl (hb hby at_398) rfl ?_
    refine XS.iconst X335.here hx rfl (hb hby at_400) ?_
    refine st336 t ?_
    refine XS.ifNo X336.here hx rfl (hb hby at_404) rfl (Jvm.Free.XT.i0_eq_f (by decide)) ?_
    refine XS.aload X336.here hx rfl (hb hby at_407) rfl rfl ?_
    refine XS.aload X336.here hx rfl (hb hby at_409) rfl rfl ?_
    show Steps p.tables e below (T336.setTop (mkF m 411 #[vI fl, vI ca, vI cb, vI cc, vI fl1, vI flp, vI flk, vI flc, vI fl2, vI flt, vI xa, vI xb, vI xc, vR aH, vR sa158, vR aE, vI ne6, vI ow] [(.ref aE), (.ref sa158)])) _
    refine XS.iload X336.here hx rfl (hb hby at_411) rfl ?_
    refine XS.iconst X336.here hx rfl (hb hby at_413) ?_
    refine st337 t ?_
    refine XS.ifNo X337.here hx rfl (hb hby at_417) rfl (Jvm.Free.XT.i0_eq_f (by decide)) ?_
    refine XS.aload X337.here hx rfl (hb hby at_420) rfl rfl ?_
    refine XS.aload X337.here hx rfl (hb hby at_422) rfl rfl ?_
    show Steps p.tables e below (T337.setTop (mkF m 424 #[vI fl, vI ca, vI cb, vI cc, vI fl1, vI flp, vI flk, vI flc, vI fl2, vI flt, vI xa, vI xb, vI xc, vR aH, vR sa158, vR aE, vI ne6, vI ow] [(.ref aE), (.ref sa158)])) _
    refine XS.iload X337.here hx rfl (hb hby at_424) rfl ?_
    refine XS.iconst X337.here hx rfl (hb hby at_426) ?_
    refine st338 t ?_
    refine XS.ifNo X338.here hx rfl (hb hby at_430) rfl (Jvm.Free.XT.i0_eq_f (by decide)) ?_
    refine XS.aload X338.here hx rfl (hb hby at_433) rfl rfl ?_
    refine XS.aload X338.here hx rfl (hb hby at_435) rfl rfl ?_
    show Steps p.tables e below (T338.setTop (mkF m 437 #[vI fl, vI ca, vI cb, vI cc, vI fl1, vI flp, vI flk, vI flc, vI fl2, vI flt, vI xa, vI xb, vI xc, vR aH, vR sa158, vR aE, vI ne6, vI ow] [(.ref aE), (.ref sa158)])) _
    refine XS.iload X338.here hx rfl (hb hby at_437) rfl ?_
    refine XS.iconst X338.here hx rfl (hb hby at_439) ?_
    refine st339 t ?_
    refine XS.ifNo X339.here hx rfl (hb hby at_443) rfl (Jvm.Free.XT.i0_eq_f (by decide)) ?_
    refine XS.iconst X339.here hx rfl (hb hby at_446) ?_
    refine XS.goto X339.here hx rfl (pc0 := 447) (pc' := 451) rfl (hb hby at_447) (by decide) (by decide) ?_
    exact k
  obtain ⟨fs, hr, hrun, hended, hW, hsame⟩ := X339.leave (v := some (.int (1 : Int32))) (fun h => by rw [Bd.returns] at h; cases h)
  refine ⟨_, _, go340 _ ?_, hrun, hended, _, _, rfl, ?_, ⟨_, rfl⟩, hW, hsame.mono (by decide) (by decide)⟩
  · exact retN X339 hx (t := .boolean) Bd.returns (by simp) (hb hby at_451) hr
  · show Q0 Z _ _ _ _ _ _ _ _ _ T339.heap _
    rw [e339]
    exact ⟨rfl, N339⟩
set_option maxRecDepth 65536 in
set_option maxHeartbeats 40000000 in
theorem comes_1 {Post : Tables → Env → Array Value → State → Outcome → State → Prop} (hpost : ∀ tb e args s v u, (limb_1_1.after args s (.returned v) u = true ∧ limb_1_2.after args s (.returned v) u = true ∧ True) → FrameEnd s (.returned v) u (Jvm.fieldLocs frame_1_writes args s ++ Jvm.arrayLocs frame_1_arrays args s ++ Jvm.staticLocs frame_1_statics s) 40 384 → Post tb e args s (.returned v) u) :
    ArmFor flags0 classFile x code maxLocals ret World_1 tables_1 room_1 Calls_1 rest_1 Pre_1 Post := by
  intro l hfl _ _ p e ha hc hk s m args below hf hA hF happ hP
  obtain ⟨hcalls, hrest, hpre⟩ := hP
  obtain ⟨-, -, -, hnamed, -, -, -, hat⟩ := (Spec.applies_iff hf).mp happ
  obtain ⟨hg, hn⟩ := and_e (Cond.before_iff.mp (show (Jvm.Cond.and given_1 narrow_1).before args s = true from hpre))
  obtain ⟨hg0, hg⟩ := and_e hg
  obtain ⟨ga0, hg⟩ := and_e hg
  obtain ⟨ga1, hg⟩ := and_e hg
  obtain ⟨ga2, hg⟩ := and_e hg
  have ga3 := hg
  obtain ⟨w0, w1, w2, w3, rfl⟩ : ∃ w0 w1 w2 w3 : Value, args = #[w0, w1, w2, w3] := by
    have hs : args.size = 4 := by simpa [Cond.value, given_1] using hg0
    obtain ⟨L⟩ := args
    match L, hs with
    | [w0, w1, w2, w3], _ => exact ⟨w0, w1, w2, w3, rfl⟩
  have hw := fun d (hd : d ∈ tables_1) => atoms_spec (ws := Jvm.Cond.code x code maxLocals ret :: tables_1) hat d (List.mem_cons_of_mem _ hd)
  have hfit : Fit s := fun {y c} hc i hi => by
    obtain ⟨ha, rfl⟩ := Array.getElem?_eq_some_iff.mp hc
    have q := List.all_eq_true.mp ((Array.all_eq_true_iff_forall_mem.mp hF) _ (Array.getElem_mem ha)) i (List.mem_range.mpr hi)
    simpa [Array.getElem?_eq_getElem hi] using q
  obtain ⟨hsets, hown0⟩ := atoms_of _ (rest_1_c_eq ▸ (show rest_1_c.before _ s = true from hrest))
  have hr0 := Cond.before_iff.mp hown0
  obtain ⟨i0, ei0⟩ := is_v ga0
  obtain rfl : w0 = (.int i0) := Option.some.inj ei0
  obtain ⟨i1, ei1⟩ := is_v ga1
  obtain rfl : w1 = (.int i1) := Option.some.inj ei1
  obtain ⟨i2, ei2⟩ := is_v ga2
  obtain rfl : w2 = (.int i2) := Option.some.inj ei2
  obtain ⟨i3, ei3⟩ := is_v ga3
  obtain rfl : w3 = (.int i3) := Option.some.inj ei3
  obtain ⟨cs, S_CS, hcs⟩ := own_cs (hsets _ (List.mem_of_getElem? (i := 0) rfl)) (hsets _ (List.mem_of_getElem? (i := 1) rfl)) (hsets _ (List.mem_of_getElem? (i := 2) rfl))
  obtain ⟨fm, S_FM, hfm⟩ := own_fm (hsets _ (List.mem_of_getElem? (i := 7) rfl)) (hsets _ (List.mem_of_getElem? (i := 8) rfl))
  obtain ⟨n, o, h1, h2, h3, _, L, rfl, ⟨rfl, N⟩, hq⟩ := rm0 l s _ hw tables_1 i0 i1 i2 i3 cs fm s.heap s.heap.size (Nat.le_refl _) (Old.start s) S_CS hcs S_FM hfm p e ha hc hk s m _ below hf ((Spec.applies_iff_loose hf).mp happ).1 ⟨rfl, State.Warmed39.refl s, rfl⟩ trivial
  refine ⟨n, _, h1, h2, h3, hpost _ _ _ _ _ _ ⟨Cond.after_iff.mpr rfl, Cond.after_iff.mpr (eq_i res_at (Term.int_eval (1)) rfl), trivial⟩ ⟨hq.1, hq.2.1, (hq.2.2.sift fun y hy => Or.inr (N y hy)).mono (by decide) (by decide)⟩⟩
theorem main_1_1 : Claimed_1_1 := comes_1 fun _ _ _ _ _ _ h hF => ⟨h.1, hF⟩
theorem main_1_2 : Claimed_1_2 := comes_1 fun _ _ _ _ _ _ h hF => ⟨h.2.1, hF⟩
end Jvm.Pilot.@@N@@
namespace Jvm.Pilot.@@N@@
open Jvm Jvm.ClassFile Sem Op Lib Jvm.Free Jvm.Stand Jvm.Pilot.@@N@@.Jvm.D
/-! MADE BY PROGRAM (witnessworld.py) out of the Statement's table words and the real class files: 28 classes; the members and pool entries that the words name. The judged class is class 1, her method 1. -/
namespace start1
open Jvm.ClassFile
def u (s : String) : CpInfo := .utf8 (stringToUtf16 s)
/-- a pool by its gaps: so many unusable entries, then the entry; so many at the end -/
def gap : Nat → List CpInfo → List CpInfo
  | 0, r => r
  | n + 1, r => .unusable :: gap n r
def poolList (es : List (Nat × CpInfo)) (last : Nat) : List CpInfo := es.foldr (fun e r => gap e.1 (e.2 :: r)) (gap last [])
def pool (es : List (Nat × CpInfo)) (last : Nat) : Array CpInfo := ⟨poolList es last⟩
def fileOf (pool : Array CpInfo) (this : Nat) (attrs : Array Attribute := #[]) (ms : Array MethodInfo := #[]) (fl : Nat := 33) (sup : Nat := 0) (ifs : Array Nat := #[]) (fds : Array FieldInfo := #[]) : ClassFile where
  minorVersion := 0
  majorVersion := 65
  constantPool := pool
  accessFlags := fl
  thisClass := this
  superClass := sup
  interfaces := ifs
  fields := fds
  methods := ms
  attributes := attrs
def plain (name : String) (sup : Option ClassId) : Class where
  name := name
  kind := .ordinary
  loader := none
  accessFlags := 33
  super := sup
  interfaces := #[]
  cf := none
  fields := #[]
  methods := #[]
  instanceTypes := #[]
  staticTypes := #[]
  resolved := #[]
  callSites := []
  init := .initialized
  statics := none
  mirror := none

def pool0 : Array CpInfo := pool [(5, u "<init>"), (0, u "()V"), (1, .class_ 10), (1, u "java/lang/Object")] 113

def k0c0 : Code := { maxStack := 0, maxLocals := 1, code := object_method_1_code, exceptionTable := #[], attributes := #[] }
def k0m0 : Method := { name := "<init>", desc := "()V", sig := { parameters := [], returnType := none }, accessFlags := 1, code := some k0c0 }
/-- java/lang/Object -/
def k0 : Class := { plain "java/lang/Object" none with
  accessFlags := 33
  interfaces := #[]
  cf := some (fileOf pool0 8 #[] #[{ accessFlags := 1, nameIndex := 5, descriptorIndex := 6, attributes := #[] }] 33 0 #[] #[])
  fields := #[]
  methods := #[k0m0]
  instanceTypes := #[]
  staticTypes := #[]
  resolved := Array.replicate 124 none
  statics := none }

def pool1 : Array CpInfo := pool [(2, .class_ 4), (0, .nameAndType 5 6), (0, u "java/lang/Object"), (0, u "<init>"), (0, u "()V"), (0, .class_ 8), (0, u "com/example/whereas/whereas/model/HtmlLayout"), (0, .methodref 7 3), (0, .methodref 7 11), (0, .nameAndType 12 6), (0, u "startRow"), (0, .methodref 7 14), (0, .nameAndType 15 6), (0, u "startCell"), (0, .methodref 7 17), (0, .nameAndType 18 19), (0, u "show"), (0, u "(CII)V"), (0, .methodref 7 21), (0, .nameAndType 22 23), (0, u "space"), (0, u "(CIIZZ)V"), (0, .methodref 7 25), (0, .nameAndType 26 27), (0, u "endRow"), (0, u "(I)V"), (0, .methodref 7 29), (0, .nameAndType 30 31), (0, u "finish"), (0, u "(I)Ljava/lang/String;"), (0, .methodref 33 34), (0, .class_ 35), (0, .nameAndType 36 37), (0, u "java/lang/String"), (0, u "length"), (0, u "()I"), (0, .methodref 39 40), (0, .class_ 41), (0, .nameAndType 42 43), (0, u "com/example/whereas/whereas/model/HtmlLayoutStartCellPinLaw"), (0, u "at"), (0, u "(Ljava/lang/String;[CII)Z"), (0, .methodref 33 45), (0, .nameAndType 46 47), (0, u "charAt"), (0, u "(I)C"), (2, u "law"), (0, u "(IIII)Z")] 5

def k1m0 : Method := { name := "<init>", desc := "()V", sig := { parameters := [], returnType := none }, accessFlags := 1, code := none }
def k1c1 : Code := { maxStack := 6, maxLocals := 18, code := code, exceptionTable := #[], attributes := #[] }
def k1m1 : Method := { name := "law", desc := "(IIII)Z", sig := { parameters := [.int, .int, .int, .int], returnType := some .boolean }, accessFlags := 9, code := some k1c1 }
def k1c2 : Code := { maxStack := 3, maxLocals := 4, code := method_3_code, exceptionTable := #[], attributes := #[] }
def k1m2 : Method := { name := "at", desc := "(Ljava/lang/String;[CII)Z", sig := { parameters := [(.object "java/lang/String"), (.array .char), .int, .int], returnType := some .boolean }, accessFlags := 10, code := some k1c2 }
/-- com/example/whereas/whereas/model/HtmlLayoutStartCellPinLaw -/
def k1 : Class := { plain "com/example/whereas/whereas/model/HtmlLayoutStartCellPinLaw" (some 0) with
  accessFlags := 49
  interfaces := #[]
  cf := some (fileOf pool1 39 #[] #[{ accessFlags := 1, nameIndex := 5, descriptorIndex := 6, attributes := #[] }, { accessFlags := 9, nameIndex := 50, descriptorIndex := 51, attributes := #[] }, { accessFlags := 10, nameIndex := 42, descriptorIndex := 43, attributes := #[] }] 49 2 #[] #[])
  fields := #[]
  methods := #[k1m0, k1m1, k1m2]
  instanceTypes := #[]
  staticTypes := #[]
  resolved := Array.replicate 57 none
  statics := none }

def pool2 : Array CpInfo := pool [(1, .methodref 2 3), (0, .class_ 4), (0, .nameAndType 5 6), (0, u "java/lang/Object"), (0, u "<init>"), (0, u "()V"), (0, .class_ 8), (0, u "java/lang/StringBuilder"), (0, .methodref 7 3), (0, .fieldref 11 12), (0, .class_ 13), (0, .nameAndType 14 15), (0, u "com/example/whereas/whereas/model/HtmlLayout"), (0, u "text"), (0, u "Ljava/lang/StringBuilder;"), (0, .class_ 17), (0, u "com/example/whereas/whereas/model/Origins$Builder"), (0, .methodref 16 3), (0, .fieldref 11 20), (0, .nameAndType 21 22), (0, u "origins"), (0, u "Lcom/example/whereas/whereas/model/Origins$Builder;"), (0, .fieldref 11 24), (0, .nameAndType 25 15), (0, u "pending"), (0, .fieldref 11 27), (0, .nameAndType 28 29), (0, u "pendingOrigins"), (0, u "[I"), (0, .fieldref 11 31), (0, .nameAndType 32 33), (0, u "pendingKept"), (0, u "[Z"), (0, .methodref 11 35), (0, .nameAndType 36 37), (0, u "layOutBefore"), (0, u "(I)V"), (0, .methodref 7 39), (0, .nameAndType 40 41), (0, u "append"), (0, u "(C)Ljava/lang/StringBuilder;"), (0, .methodref 11 43), (0, .nameAndType 44 45), (0, u "shown"), (0, u "(III)V"), (5, .nameAndType 53 54), (1, u "length"), (0, u "()I"), (3, .fieldref 11 59), (0, .nameAndType 60 61), (0, u "paragraph"), (0, u "Z"), (0, .fieldref 11 63), (0, .nameAndType 64 65), (0, u "breaks"), (0, u "I"), (0, .methodref 7 51), (0, .methodref 11 68), (0, .nameAndType 40 69), (0, u "(CIII)V"), (0, .fieldref 11 71), (0, .nameAndType 72 65), (0, u "tabs"), (0, .fieldref 11 74), (0, .nameAndType 75 61), (0, u "lineShows"), (0, .methodref 7 77), (0, .nameAndType 78 79), (0, u "charAt"), (0, u "(I)C"), (0, .methodref 11 81), (0, .nameAndType 82 45), (0, u "add"), (0, .methodref 11 84), (0, .nameAndType 85 6), (0, u "clearPending"), (0, .fieldref 11 87), (0, .nameAndType 88 61), (0, u "rowShows"), (0, .fieldref 11 90), (0, .nameAndType 91 61), (0, u "inRow"), (0, .fieldref 11 93), (0, .nameAndType 94 61), (0, u "collapsing"), (9, .methodref 11 105), (0, .nameAndType 106 6), (0, u "paragraphBreak"), (0, .fieldref 11 108), (0, .nameAndType 109 65), (0, u "cells"), (0, .methodref 7 111), (0, .nameAndType 112 113), (0, u "toString"), (0, u "()Ljava/lang/String;"), (4, .methodref 16 119), (0, .nameAndType 120 121), (0, u "literal"), (0, u "(II)V"), (0, .methodref 16 123), (0, .nameAndType 124 45), (0, u "standFor"), (0, .methodref 7 126), (0, .nameAndType 127 37), (0, u "setLength"), (2, u "show"), (0, u "(CII)V"), (3, u "space"), (0, u "(CIIZZ)V"), (1, u "startRow"), (0, u "startCell"), (0, u "endRow"), (0, u "finish"), (0, u "(I)Ljava/lang/String;")] 6

def k2c0 : Code := { maxStack := 3, maxLocals := 1, code := prog_41_method_1_code, exceptionTable := #[], attributes := #[] }
def k2m0 : Method := { name := "<init>", desc := "()V", sig := { parameters := [], returnType := none }, accessFlags := 0, code := some k2c0 }
def k2c1 : Code := { maxStack := 4, maxLocals := 4, code := prog_41_method_2_code, exceptionTable := #[], attributes := #[] }
def k2m1 : Method := { name := "show", desc := "(CII)V", sig := { parameters := [.char, .int, .int], returnType := none }, accessFlags := 0, code := some k2c1 }
def k2c2 : Code := { maxStack := 5, maxLocals := 4, code := prog_41_method_5_code, exceptionTable := #[], attributes := #[] }
def k2m2 : Method := { name := "layOutBefore", desc := "(I)V", sig := { parameters := [.int], returnType := none }, accessFlags := 2, code := some k2c2 }
def k2c3 : Code := { maxStack := 4, maxLocals := 4, code := prog_41_method_6_code, exceptionTable := #[], attributes := #[] }
def k2m3 : Method := { name := "shown", desc := "(III)V", sig := { parameters := [.int, .int, .int], returnType := none }, accessFlags := 2, code := some k2c3 }
def k2c4 : Code := { maxStack := 4, maxLocals := 7, code := prog_41_method_7_code, exceptionTable := #[], attributes := #[] }
def k2m4 : Method := { name := "space", desc := "(CIIZZ)V", sig := { parameters := [.char, .int, .int, .boolean, .boolean], returnType := none }, accessFlags := 0, code := some k2c4 }
def k2c5 : Code := { maxStack := 2, maxLocals := 1, code := prog_41_method_9_code, exceptionTable := #[], attributes := #[] }
def k2m5 : Method := { name := "paragraphBreak", desc := "()V", sig := { parameters := [], returnType := none }, accessFlags := 0, code := some k2c5 }
def k2c6 : Code := { maxStack := 2, maxLocals := 1, code := prog_41_method_10_code, exceptionTable := #[], attributes := #[] }
def k2m6 : Method := { name := "startRow", desc := "()V", sig := { parameters := [], returnType := none }, accessFlags := 0, code := some k2c6 }
def k2c7 : Code := { maxStack := 3, maxLocals := 1, code := prog_41_method_11_code, exceptionTable := #[], attributes := #[] }
def k2m7 : Method := { name := "startCell", desc := "()V", sig := { parameters := [], returnType := none }, accessFlags := 0, code := some k2c7 }
def k2c8 : Code := { maxStack := 5, maxLocals := 2, code := prog_41_method_12_code, exceptionTable := #[], attributes := #[] }
def k2m8 : Method := { name := "endRow", desc := "(I)V", sig := { parameters := [.int], returnType := none }, accessFlags := 0, code := some k2c8 }
def k2c9 : Code := { maxStack := 5, maxLocals := 2, code := prog_41_method_13_code, exceptionTable := #[], attributes := #[] }
def k2m9 : Method := { name := "finish", desc := "(I)Ljava/lang/String;", sig := { parameters := [.int], returnType := some (.object "java/lang/String") }, accessFlags := 0, code := some k2c9 }
def k2c10 : Code := { maxStack := 4, maxLocals := 6, code := prog_41_method_15_code, exceptionTable := #[], attributes := #[] }
def k2m10 : Method := { name := "append", desc := "(CIII)V", sig := { parameters := [.char, .int, .int, .int], returnType := none }, accessFlags := 2, code := some k2c10 }
def k2c11 : Code := { maxStack := 4, maxLocals := 4, code := prog_41_method_16_code, exceptionTable := #[], attributes := #[] }
def k2m11 : Method := { name := "add", desc := "(III)V", sig := { parameters := [.int, .int, .int], returnType := none }, accessFlags := 2, code := some k2c11 }
def k2c12 : Code := { maxStack := 2, maxLocals := 1, code := prog_41_method_17_code, exceptionTable := #[], attributes := #[] }
def k2m12 : Method := { name := "clearPending", desc := "()V", sig := { parameters := [], returnType := none }, accessFlags := 2, code := some k2c12 }
/-- com/example/whereas/whereas/model/HtmlLayout -/
def k2 : Class := { plain "com/example/whereas/whereas/model/HtmlLayout" (some 0) with
  accessFlags := 48
  interfaces := #[]
  cf := some (fileOf pool2 11 #[] #[{ accessFlags := 0, nameIndex := 5, descriptorIndex := 6, attributes := #[] }, { accessFlags := 0, nameIndex := 130, descriptorIndex := 131, attributes := #[] }, { accessFlags := 2, nameIndex := 36, descriptorIndex := 37, attributes := #[] }, { accessFlags := 2, nameIndex := 44, descriptorIndex := 45, attributes := #[] }, { accessFlags := 0, nameIndex := 135, descriptorIndex := 136, attributes := #[] }, { accessFlags := 0, nameIndex := 106, descriptorIndex := 6, attributes := #[] }, { accessFlags := 0, nameIndex := 138, descriptorIndex := 6, attributes := #[] }, { accessFlags := 0, nameIndex := 139, descriptorIndex := 6, attributes := #[] }, { accessFlags := 0, nameIndex := 140, descriptorIndex := 37, attributes := #[] }, { accessFlags := 0, nameIndex := 141, descriptorIndex := 142, attributes := #[] }, { accessFlags := 2, nameIndex := 40, descriptorIndex := 69, attributes := #[] }, { accessFlags := 2, nameIndex := 82, descriptorIndex := 45, attributes := #[] }, { accessFlags := 2, nameIndex := 85, descriptorIndex := 6, attributes := #[] }] 48 2 #[] #[{ accessFlags := 18, nameIndex := 14, descriptorIndex := 15, attributes := #[] }, { accessFlags := 18, nameIndex := 21, descriptorIndex := 22, attributes := #[] }, { accessFlags := 2, nameIndex := 60, descriptorIndex := 61, attributes := #[] }, { accessFlags := 2, nameIndex := 64, descriptorIndex := 65, attributes := #[] }, { accessFlags := 2, nameIndex := 75, descriptorIndex := 61, attributes := #[] }, { accessFlags := 18, nameIndex := 25, descriptorIndex := 15, attributes := #[] }, { accessFlags := 2, nameIndex := 28, descriptorIndex := 29, attributes := #[] }, { accessFlags := 2, nameIndex := 32, descriptorIndex := 33, attributes := #[] }, { accessFlags := 2, nameIndex := 94, descriptorIndex := 61, attributes := #[] }, { accessFlags := 2, nameIndex := 91, descriptorIndex := 61, attributes := #[] }, { accessFlags := 2, nameIndex := 88, descriptorIndex := 61, attributes := #[] }, { accessFlags := 2, nameIndex := 109, descriptorIndex := 65, attributes := #[] }, { accessFlags := 2, nameIndex := 72, descriptorIndex := 65, attributes := #[] }])
  fields := #[{ name := "text", type := (.object "java/lang/StringBuilder"), accessFlags := 18, slot := 0, constantValue := 0 }, { name := "origins", type := (.object "com/example/whereas/whereas/model/Origins$Builder"), accessFlags := 18, slot := 1, constantValue := 0 }, { name := "paragraph", type := .boolean, accessFlags := 2, slot := 2, constantValue := 0 }, { name := "breaks", type := .int, accessFlags := 2, slot := 3, constantValue := 0 }, { name := "lineShows", type := .boolean, accessFlags := 2, slot := 4, constantValue := 0 }, { name := "pending", type := (.object "java/lang/StringBuilder"), accessFlags := 18, slot := 5, constantValue := 0 }, { name := "pendingOrigins", type := (.array .int), accessFlags := 2, slot := 6, constantValue := 0 }, { name := "pendingKept", type := (.array .boolean), accessFlags := 2, slot := 7, constantValue := 0 }, { name := "collapsing", type := .boolean, accessFlags := 2, slot := 8, constantValue := 0 }, { name := "inRow", type := .boolean, accessFlags := 2, slot := 9, constantValue := 0 }, { name := "rowShows", type := .boolean, accessFlags := 2, slot := 10, constantValue := 0 }, { name := "cells", type := .int, accessFlags := 2, slot := 11, constantValue := 0 }, { name := "tabs", type := .int, accessFlags := 2, slot := 12, constantValue := 0 }]
  methods := #[k2m0, k2m1, k2m2, k2m3, k2m4, k2m5, k2m6, k2m7, k2m8, k2m9, k2m10, k2m11, k2m12]
  instanceTypes := #[(.object "java/lang/StringBuilder"), (.object "com/example/whereas/whereas/model/Origins$Builder"), .boolean, .int, .boolean, (.object "java/lang/StringBuilder"), (.array .int), (.array .boolean), .boolean, .boolean, .boolean, .int, .int]
  staticTypes := #[]
  resolved := Array.replicate 149 none
  statics := none }

def pool3 : Array CpInfo := pool [(1, .class_ 2), (0, u "java/lang/Appendable"), (0, .class_ 4), (0, u "java/lang/Object")] 9

/-- java/lang/Appendable -/
def k3 : Class := { plain "java/lang/Appendable" (some 0) with
  accessFlags := 1537
  interfaces := #[]
  cf := some (fileOf pool3 1 #[] #[] 1537 3 #[] #[])
  fields := #[]
  methods := #[]
  instanceTypes := #[]
  staticTypes := #[]
  resolved := Array.replicate 14 none
  statics := none }

def pool4 : Array CpInfo := pool [(2, .class_ 4), (1, u "java/lang/CharSequence"), (42, .class_ 48), (0, u "java/lang/CharSequence$1CodePointIterator"), (10, .class_ 60), (0, u "java/lang/CharSequence$1CharIterator"), (5, .class_ 67), (0, u "java/lang/Object")] 63

/-- java/lang/CharSequence -/
def k4 : Class := { plain "java/lang/CharSequence" (some 0) with
  accessFlags := 1537
  interfaces := #[]
  cf := some (fileOf pool4 2 #[.nestMembers #[47, 59]] #[] 1537 66 #[] #[])
  fields := #[]
  methods := #[]
  instanceTypes := #[]
  staticTypes := #[]
  resolved := Array.replicate 131 none
  statics := none }

def pool5 : Array CpInfo := pool [(1, .class_ 2), (0, u "java/lang/String"), (0, .methodref 4 5), (0, .class_ 6), (0, .nameAndType 7 8), (0, u "java/lang/Object"), (0, u "<init>"), (0, u "()V"), (1, .class_ 12), (1, u "java/lang/AbstractStringBuilder"), (0, u "EMPTYVALUE"), (0, u "[B"), (0, .fieldref 10 16), (0, .nameAndType 17 14), (0, u "value"), (0, .fieldref 1 19), (0, .nameAndType 20 21), (0, u "COMPACT_STRINGS"), (0, u "Z"), (0, .fieldref 10 23), (0, .nameAndType 24 25), (0, u "coder"), (0, u "B"), (8, u "length"), (0, u "()I"), (9, u "append"), (2, .class_ 49), (0, u "java/lang/CharSequence"), (23, .fieldref 10 74), (0, .nameAndType 75 21), (0, u "maybeLatin1"), (3, .fieldref 10 80), (0, .nameAndType 81 82), (0, u "count"), (0, u "I"), (0, .methodref 10 84), (0, .nameAndType 85 86), (0, u "isLatin1"), (0, u "()Z"), (1, .class_ 90), (1, u "java/lang/StringLatin1"), (9, .methodref 10 101), (0, .nameAndType 102 103), (0, u "ensureCapacityInternal"), (0, u "(I)V"), (34, .methodref 139 140), (0, .class_ 141), (0, .nameAndType 142 143), (0, u "java/lang/Math"), (0, u "min"), (0, u "(II)I"), (0, .methodref 1 145), (0, .nameAndType 146 147), (0, u "checkIndex"), (0, u "(II)V"), (43, .methodref 88 192), (0, .nameAndType 193 194), (0, u "canEncode"), (0, u "(C)Z"), (97, u "(C)Ljava/lang/AbstractStringBuilder;"), (99, u "charAt"), (0, u "(I)C"), (9, u "()[B"), (40, .class_ 445), (0, u "java/lang/Appendable"), (30, u "setLength"), (75, u "getValue")] 56

def k5m0 : Method := { name := "<init>", desc := "()V", sig := { parameters := [], returnType := none }, accessFlags := 0, code := none }
def k5c1 : Code := { maxStack := 2, maxLocals := 2, code := jdk_68_method_2_code, exceptionTable := #[], attributes := #[] }
def k5m1 : Method := { name := "<init>", desc := "(I)V", sig := { parameters := [.int], returnType := none }, accessFlags := 0, code := some k5c1 }
def k5c2 : Code := { maxStack := 1, maxLocals := 1, code := jdk_68_method_6_code, exceptionTable := #[], attributes := #[] }
def k5m2 : Method := { name := "length", desc := "()I", sig := { parameters := [], returnType := some .int }, accessFlags := 1, code := some k5c2 }
def k5c3 : Code := { maxStack := 4, maxLocals := 3, code := jdk_68_method_9_code, exceptionTable := #[], attributes := #[] }
def k5m3 : Method := { name := "ensureCapacityInternal", desc := "(I)V", sig := { parameters := [.int], returnType := none }, accessFlags := 2, code := some k5c3 }
def k5c4 : Code := { maxStack := 3, maxLocals := 2, code := jdk_68_method_13_code, exceptionTable := #[], attributes := #[] }
def k5m4 : Method := { name := "setLength", desc := "(I)V", sig := { parameters := [.int], returnType := none }, accessFlags := 1, code := some k5c4 }
def k5c5 : Code := { maxStack := 3, maxLocals := 5, code := jdk_68_method_14_code, exceptionTable := #[], attributes := #[] }
def k5m5 : Method := { name := "charAt", desc := "(I)C", sig := { parameters := [.int], returnType := some .char }, accessFlags := 1, code := some k5c5 }
def k5c6 : Code := { maxStack := 5, maxLocals := 2, code := jdk_68_method_31_code, exceptionTable := #[], attributes := #[] }
def k5m6 : Method := { name := "append", desc := "(C)Ljava/lang/AbstractStringBuilder;", sig := { parameters := [.char], returnType := some (.object "java/lang/AbstractStringBuilder") }, accessFlags := 1, code := some k5c6 }
def k5c7 : Code := { maxStack := 1, maxLocals := 1, code := jdk_68_method_64_code, exceptionTable := #[], attributes := #[] }
def k5m7 : Method := { name := "getValue", desc := "()[B", sig := { parameters := [], returnType := some (.array .byte) }, accessFlags := 16, code := some k5c7 }
def k5c8 : Code := { maxStack := 1, maxLocals := 1, code := jdk_68_method_68_code, exceptionTable := #[], attributes := #[] }
def k5m8 : Method := { name := "isLatin1", desc := "()Z", sig := { parameters := [], returnType := some .boolean }, accessFlags := 16, code := some k5c8 }
/-- java/lang/AbstractStringBuilder -/
def k5 : Class := { plain "java/lang/AbstractStringBuilder" (some 0) with
  accessFlags := 1056
  interfaces := #[3, 4]
  cf := some (fileOf pool5 10 #[] #[{ accessFlags := 0, nameIndex := 7, descriptorIndex := 8, attributes := #[] }, { accessFlags := 0, nameIndex := 7, descriptorIndex := 103, attributes := #[] }, { accessFlags := 1, nameIndex := 34, descriptorIndex := 35, attributes := #[] }, { accessFlags := 2, nameIndex := 102, descriptorIndex := 103, attributes := #[] }, { accessFlags := 1, nameIndex := 476, descriptorIndex := 103, attributes := #[] }, { accessFlags := 1, nameIndex := 392, descriptorIndex := 393, attributes := #[] }, { accessFlags := 1, nameIndex := 45, descriptorIndex := 292, attributes := #[] }, { accessFlags := 16, nameIndex := 552, descriptorIndex := 403, attributes := #[] }, { accessFlags := 16, nameIndex := 85, descriptorIndex := 86, attributes := #[] }] 1056 4 #[444, 48] #[{ accessFlags := 0, nameIndex := 17, descriptorIndex := 14, attributes := #[] }, { accessFlags := 0, nameIndex := 24, descriptorIndex := 25, attributes := #[] }, { accessFlags := 0, nameIndex := 75, descriptorIndex := 21, attributes := #[] }, { accessFlags := 0, nameIndex := 81, descriptorIndex := 82, attributes := #[] }, { accessFlags := 26, nameIndex := 13, descriptorIndex := 14, attributes := #[] }])
  fields := #[{ name := "value", type := (.array .byte), accessFlags := 0, slot := 0, constantValue := 0 }, { name := "coder", type := .byte, accessFlags := 0, slot := 1, constantValue := 0 }, { name := "maybeLatin1", type := .boolean, accessFlags := 0, slot := 2, constantValue := 0 }, { name := "count", type := .int, accessFlags := 0, slot := 3, constantValue := 0 }, { name := "EMPTYVALUE", type := (.array .byte), accessFlags := 26, slot := 0, constantValue := 0 }]
  methods := #[k5m0, k5m1, k5m2, k5m3, k5m4, k5m5, k5m6, k5m7, k5m8]
  instanceTypes := #[(.array .byte), .byte, .boolean, .int]
  staticTypes := #[(.array .byte)]
  resolved := Array.replicate 609 none
  statics := none }

def pool6 : Array CpInfo := pool [(1, .class_ 2), (0, u "java/io/Serializable"), (0, .class_ 4), (0, u "java/lang/Object")] 2

/-- java/io/Serializable -/
def k6 : Class := { plain "java/io/Serializable" (some 0) with
  accessFlags := 1537
  interfaces := #[]
  cf := some (fileOf pool6 1 #[] #[] 1537 3 #[] #[])
  fields := #[]
  methods := #[]
  instanceTypes := #[]
  staticTypes := #[]
  resolved := Array.replicate 7 none
  statics := none }

def pool7 : Array CpInfo := pool [(1, .class_ 2), (0, u "java/lang/Comparable"), (0, .class_ 4), (0, u "java/lang/Object")] 7

/-- java/lang/Comparable -/
def k7 : Class := { plain "java/lang/Comparable" (some 0) with
  accessFlags := 1537
  interfaces := #[]
  cf := some (fileOf pool7 1 #[] #[] 1537 3 #[] #[])
  fields := #[]
  methods := #[]
  instanceTypes := #[]
  staticTypes := #[]
  resolved := Array.replicate 12 none
  statics := none }

def pool8 : Array CpInfo := pool [(1, .methodref 2 3), (0, .class_ 4), (0, .nameAndType 5 6), (0, u "java/lang/AbstractStringBuilder"), (0, u "<init>"), (0, u "(I)V"), (11, .class_ 20), (1, u "java/lang/String"), (3, .class_ 26), (1, u "java/lang/StringBuilder"), (0, u "append"), (22, .methodref 2 51), (0, .nameAndType 27 52), (0, u "(C)Ljava/lang/AbstractStringBuilder;"), (84, .methodref 18 138), (0, .nameAndType 5 139), (0, u "(Ljava/lang/StringBuilder;)V"), (5, u "()V"), (10, u "()I"), (129, u "(C)Ljava/lang/StringBuilder;"), (42, .methodref 2 330), (0, .nameAndType 331 332), (0, u "charAt"), (0, u "(I)C"), (0, .methodref 2 334), (0, .nameAndType 335 6), (0, u "setLength"), (7, .methodref 2 344), (0, .nameAndType 345 156), (0, u "length"), (3, .class_ 350), (0, u "java/lang/Appendable"), (0, .class_ 352), (0, u "java/io/Serializable"), (0, .class_ 354), (0, u "java/lang/Comparable"), (0, .class_ 356), (0, u "java/lang/CharSequence"), (0, u "serialVersionUID"), (0, u "J"), (40, u "toString"), (0, u "()Ljava/lang/String;")] 21

def k8c0 : Code := { maxStack := 2, maxLocals := 1, code := jdk_67_method_1_code, exceptionTable := #[], attributes := #[] }
def k8m0 : Method := { name := "<init>", desc := "()V", sig := { parameters := [], returnType := none }, accessFlags := 1, code := some k8c0 }
def k8c1 : Code := { maxStack := 2, maxLocals := 2, code := jdk_67_method_14_code, exceptionTable := #[], attributes := #[] }
def k8m1 : Method := { name := "append", desc := "(C)Ljava/lang/StringBuilder;", sig := { parameters := [.char], returnType := some (.object "java/lang/StringBuilder") }, accessFlags := 1, code := some k8c1 }
def k8c2 : Code := { maxStack := 3, maxLocals := 1, code := jdk_67_method_42_code, exceptionTable := #[], attributes := #[] }
def k8m2 : Method := { name := "toString", desc := "()Ljava/lang/String;", sig := { parameters := [], returnType := some (.object "java/lang/String") }, accessFlags := 1, code := some k8c2 }
def k8c3 : Code := { maxStack := 2, maxLocals := 2, code := jdk_67_method_88_code, exceptionTable := #[], attributes := #[] }
def k8m3 : Method := { name := "charAt", desc := "(I)C", sig := { parameters := [.int], returnType := some .char }, accessFlags := 4161, code := some k8c3 }
def k8c4 : Code := { maxStack := 2, maxLocals := 2, code := jdk_67_method_89_code, exceptionTable := #[], attributes := #[] }
def k8m4 : Method := { name := "setLength", desc := "(I)V", sig := { parameters := [.int], returnType := none }, accessFlags := 4161, code := some k8c4 }
def k8c5 : Code := { maxStack := 1, maxLocals := 1, code := jdk_67_method_93_code, exceptionTable := #[], attributes := #[] }
def k8m5 : Method := { name := "length", desc := "()I", sig := { parameters := [], returnType := some .int }, accessFlags := 4161, code := some k8c5 }
/-- java/lang/StringBuilder -/
def k8 : Class := { plain "java/lang/StringBuilder" (some 5) with
  accessFlags := 49
  interfaces := #[3, 6, 7, 4]
  cf := some (fileOf pool8 24 #[] #[{ accessFlags := 1, nameIndex := 5, descriptorIndex := 145, attributes := #[] }, { accessFlags := 1, nameIndex := 27, descriptorIndex := 286, attributes := #[] }, { accessFlags := 1, nameIndex := 399, descriptorIndex := 400, attributes := #[] }, { accessFlags := 4161, nameIndex := 331, descriptorIndex := 332, attributes := #[] }, { accessFlags := 4161, nameIndex := 335, descriptorIndex := 6, attributes := #[] }, { accessFlags := 4161, nameIndex := 345, descriptorIndex := 156, attributes := #[] }] 49 2 #[349, 351, 353, 355] #[{ accessFlags := 24, nameIndex := 357, descriptorIndex := 358, attributes := #[] }])
  fields := #[{ name := "serialVersionUID", type := .long, accessFlags := 24, slot := 0, constantValue := 0 }]
  methods := #[k8m0, k8m1, k8m2, k8m3, k8m4, k8m5]
  instanceTypes := #[(.array .byte), .byte, .boolean, .int]
  staticTypes := #[.long]
  resolved := Array.replicate 422 none
  statics := none }

def pool9 : Array CpInfo := pool [(1, .class_ 2), (0, u "java/lang/constant/Constable"), (0, .class_ 4), (0, u "java/lang/Object")] 6

/-- java/lang/constant/Constable -/
def k9 : Class := { plain "java/lang/constant/Constable" (some 0) with
  accessFlags := 1537
  interfaces := #[]
  cf := some (fileOf pool9 1 #[] #[] 1537 3 #[] #[])
  fields := #[]
  methods := #[]
  instanceTypes := #[]
  staticTypes := #[]
  resolved := Array.replicate 11 none
  statics := none }

def pool10 : Array CpInfo := pool [(1, .class_ 2), (0, u "java/lang/constant/ConstantDesc"), (0, .class_ 4), (0, u "java/lang/Object")] 32

/-- java/lang/constant/ConstantDesc -/
def k10 : Class := { plain "java/lang/constant/ConstantDesc" (some 0) with
  accessFlags := 1537
  interfaces := #[]
  cf := some (fileOf pool10 1 #[] #[] 1537 3 #[] #[])
  fields := #[]
  methods := #[]
  instanceTypes := #[]
  staticTypes := #[]
  resolved := Array.replicate 37 none
  statics := none }

def pool11 : Array CpInfo := pool [(1, .methodref 2 3), (0, .class_ 4), (0, .nameAndType 5 6), (0, u "java/lang/Object"), (0, u "<init>"), (0, u "()V"), (2, .fieldref 10 11), (0, .class_ 12), (0, .nameAndType 13 14), (0, u "java/lang/String"), (0, u "value"), (0, u "[B"), (0, .fieldref 10 16), (0, .nameAndType 17 18), (0, u "coder"), (0, u "B"), (2, u "hash"), (0, u "I"), (2, u "hashIsZero"), (0, u "Z"), (11, .fieldref 10 39), (0, .nameAndType 40 26), (0, u "COMPACT_STRINGS"), (13, .methodref 55 56), (0, .class_ 57), (0, .nameAndType 58 59), (0, u "java/util/Arrays"), (0, u "copyOfRange"), (0, u "([BII)[B"), (47, .class_ 109), (1, u "java/lang/StringLatin1"), (32, u "()Z"), (191, u "()I"), (0, .methodref 10 336), (0, .nameAndType 17 337), (0, u "()B"), (2, u "()[B"), (22, u "([BI)C"), (27, u "(II)V"), (35, u "(I)C"), (61, .methodref 10 490), (0, .nameAndType 5 491), (0, u "(Ljava/lang/AbstractStringBuilder;Ljava/lang/Void;)V"), (0, .methodref 10 493), (0, .nameAndType 494 142), (0, u "isLatin1"), (0, .methodref 107 496), (0, .nameAndType 497 363), (0, u "charAt"), (3, u "checkIndex"), (4, .nameAndType 507 334), (0, u "length"), (41, .methodref 550 506), (0, .class_ 551), (0, u "java/lang/AbstractStringBuilder"), (0, .methodref 550 553), (0, .nameAndType 554 340), (0, u "getValue"), (20, .class_ 576), (0, u "java/lang/CharSequence"), (22, u "CASE_INSENSITIVE_ORDER"), (0, u "Ljava/util/Comparator;"), (446, .methodref 550 493), (5, .fieldref 1054 1055), (0, .class_ 1056), (0, .nameAndType 1057 1058), (0, u "jdk/internal/util/Preconditions"), (0, u "SIOOBE_FORMATTER"), (0, u "Ljava/util/function/BiFunction;"), (0, .methodref 1054 1060), (0, .nameAndType 501 1061), (0, u "(IILjava/util/function/BiFunction;)I"), (39, u "serialPersistentFields"), (0, u "[Ljava/io/ObjectStreamField;"), (0, .class_ 1104), (0, u "java/lang/String$CaseInsensitiveComparator"), (1, .class_ 1107), (0, u "java/io/Serializable"), (0, .class_ 1109), (0, u "java/lang/Comparable"), (0, .class_ 1111), (0, u "java/lang/constant/Constable"), (0, .class_ 1113), (0, u "java/lang/constant/ConstantDesc"), (2, u "serialVersionUID"), (0, u "J"), (3, u "REPL"), (0, u "C"), (2, u "LATIN1"), (1, u "UTF16"), (105, u "(Ljava/lang/StringBuilder;)V")] 217

def k11m0 : Method := { name := "<init>", desc := "()V", sig := { parameters := [], returnType := none }, accessFlags := 1, code := none }
def k11c1 : Code := { maxStack := 3, maxLocals := 2, code := jdk_42_method_53_code, exceptionTable := #[], attributes := #[] }
def k11m1 : Method := { name := "<init>", desc := "(Ljava/lang/StringBuilder;)V", sig := { parameters := [(.object "java/lang/StringBuilder")], returnType := none }, accessFlags := 1, code := some k11c1 }
def k11c2 : Code := { maxStack := 2, maxLocals := 1, code := jdk_42_method_54_code, exceptionTable := #[], attributes := #[] }
def k11m2 : Method := { name := "length", desc := "()I", sig := { parameters := [], returnType := some .int }, accessFlags := 1, code := some k11c2 }
def k11c3 : Code := { maxStack := 2, maxLocals := 2, code := jdk_42_method_56_code, exceptionTable := #[], attributes := #[] }
def k11m3 : Method := { name := "charAt", desc := "(I)C", sig := { parameters := [.int], returnType := some .char }, accessFlags := 1, code := some k11c3 }
def k11c4 : Code := { maxStack := 5, maxLocals := 5, code := jdk_42_method_150_code, exceptionTable := #[], attributes := #[] }
def k11m4 : Method := { name := "<init>", desc := "(Ljava/lang/AbstractStringBuilder;Ljava/lang/Void;)V", sig := { parameters := [(.object "java/lang/AbstractStringBuilder"), (.object "java/lang/Void")], returnType := none }, accessFlags := 0, code := some k11c4 }
def k11c5 : Code := { maxStack := 1, maxLocals := 1, code := jdk_42_method_152_code, exceptionTable := #[], attributes := #[] }
def k11m5 : Method := { name := "coder", desc := "()B", sig := { parameters := [], returnType := some .byte }, accessFlags := 0, code := some k11c5 }
def k11c6 : Code := { maxStack := 1, maxLocals := 1, code := jdk_42_method_154_code, exceptionTable := #[], attributes := #[] }
def k11m6 : Method := { name := "isLatin1", desc := "()Z", sig := { parameters := [], returnType := some .boolean }, accessFlags := 0, code := some k11c6 }
def k11c7 : Code := { maxStack := 3, maxLocals := 2, code := jdk_42_method_155_code, exceptionTable := #[], attributes := #[] }
def k11m7 : Method := { name := "checkIndex", desc := "(II)V", sig := { parameters := [.int, .int], returnType := none }, accessFlags := 8, code := some k11c7 }
/-- java/lang/String -/
def k11 : Class := { plain "java/lang/String" (some 0) with
  accessFlags := 49
  interfaces := #[6, 7, 4, 9, 10]
  cf := some (fileOf pool11 10 #[.nestMembers #[1103]] #[{ accessFlags := 1, nameIndex := 5, descriptorIndex := 6, attributes := #[] }, { accessFlags := 1, nameIndex := 5, descriptorIndex := 1233, attributes := #[] }, { accessFlags := 1, nameIndex := 507, descriptorIndex := 334, attributes := #[] }, { accessFlags := 1, nameIndex := 497, descriptorIndex := 427, attributes := #[] }, { accessFlags := 0, nameIndex := 5, descriptorIndex := 491, attributes := #[] }, { accessFlags := 0, nameIndex := 17, descriptorIndex := 337, attributes := #[] }, { accessFlags := 0, nameIndex := 494, descriptorIndex := 142, attributes := #[] }, { accessFlags := 8, nameIndex := 501, descriptorIndex := 391, attributes := #[] }] 49 2 #[1106, 1108, 575, 1110, 1112] #[{ accessFlags := 18, nameIndex := 13, descriptorIndex := 14, attributes := #[] }, { accessFlags := 18, nameIndex := 17, descriptorIndex := 18, attributes := #[] }, { accessFlags := 2, nameIndex := 21, descriptorIndex := 22, attributes := #[] }, { accessFlags := 2, nameIndex := 25, descriptorIndex := 26, attributes := #[] }, { accessFlags := 26, nameIndex := 1116, descriptorIndex := 1117, attributes := #[] }, { accessFlags := 24, nameIndex := 40, descriptorIndex := 26, attributes := #[] }, { accessFlags := 26, nameIndex := 1101, descriptorIndex := 1102, attributes := #[] }, { accessFlags := 26, nameIndex := 1121, descriptorIndex := 1122, attributes := #[] }, { accessFlags := 25, nameIndex := 599, descriptorIndex := 600, attributes := #[] }, { accessFlags := 24, nameIndex := 1125, descriptorIndex := 18, attributes := #[] }, { accessFlags := 24, nameIndex := 1127, descriptorIndex := 18, attributes := #[] }])
  fields := #[{ name := "value", type := (.array .byte), accessFlags := 18, slot := 0, constantValue := 0 }, { name := "coder", type := .byte, accessFlags := 18, slot := 1, constantValue := 0 }, { name := "hash", type := .int, accessFlags := 2, slot := 2, constantValue := 0 }, { name := "hashIsZero", type := .boolean, accessFlags := 2, slot := 3, constantValue := 0 }, { name := "serialVersionUID", type := .long, accessFlags := 26, slot := 0, constantValue := 0 }, { name := "COMPACT_STRINGS", type := .boolean, accessFlags := 24, slot := 1, constantValue := 0 }, { name := "serialPersistentFields", type := (.array (.object "java/io/ObjectStreamField")), accessFlags := 26, slot := 2, constantValue := 0 }, { name := "REPL", type := .char, accessFlags := 26, slot := 3, constantValue := 0 }, { name := "CASE_INSENSITIVE_ORDER", type := (.object "java/util/Comparator"), accessFlags := 25, slot := 4, constantValue := 0 }, { name := "LATIN1", type := .byte, accessFlags := 24, slot := 5, constantValue := 0 }, { name := "UTF16", type := .byte, accessFlags := 24, slot := 6, constantValue := 0 }]
  methods := #[k11m0, k11m1, k11m2, k11m3, k11m4, k11m5, k11m6, k11m7]
  instanceTypes := #[(.array .byte), .byte, .int, .boolean]
  staticTypes := #[.long, .boolean, (.array (.object "java/io/ObjectStreamField")), .char, (.object "java/util/Comparator"), .byte, .byte]
  resolved := Array.replicate 1451 none
  statics := some 0 }

def pool12 : Array CpInfo := pool [(1, .methodref 2 3), (0, .class_ 4), (0, .nameAndType 5 6), (0, u "java/lang/Object"), (0, u "<init>"), (0, u "()V"), (0, .fieldref 8 9), (0, .class_ 10), (0, .nameAndType 11 12), (0, u "com/example/whereas/whereas/model/Origins$Builder"), (0, u "starts"), (0, u "[I"), (0, .fieldref 8 14), (0, .nameAndType 15 12), (0, u "originStarts"), (0, .fieldref 8 17), (0, .nameAndType 18 12), (0, u "originEnds"), (0, .fieldref 8 20), (0, .nameAndType 21 22), (0, u "literal"), (0, u "[Z"), (0, .fieldref 8 24), (0, .nameAndType 25 26), (0, u "runs"), (0, u "I"), (0, .methodref 8 28), (0, .nameAndType 29 30), (0, u "add"), (0, u "(IIZ)V"), (0, .fieldref 8 32), (0, .nameAndType 33 26), (0, u "length"), (0, .class_ 35), (0, u "com/example/whereas/whereas/model/Origins"), (14, u "(II)V"), (1, u "standFor"), (0, u "(III)V")] 7

def k12c0 : Code := { maxStack := 2, maxLocals := 1, code := prog_44_method_1_code, exceptionTable := #[], attributes := #[] }
def k12m0 : Method := { name := "<init>", desc := "()V", sig := { parameters := [], returnType := none }, accessFlags := 0, code := some k12c0 }
def k12c1 : Code := { maxStack := 4, maxLocals := 3, code := prog_44_method_2_code, exceptionTable := #[], attributes := #[] }
def k12m1 : Method := { name := "literal", desc := "(II)V", sig := { parameters := [.int, .int], returnType := none }, accessFlags := 0, code := some k12c1 }
def k12c2 : Code := { maxStack := 4, maxLocals := 4, code := prog_44_method_3_code, exceptionTable := #[], attributes := #[] }
def k12m2 : Method := { name := "standFor", desc := "(III)V", sig := { parameters := [.int, .int, .int], returnType := none }, accessFlags := 0, code := some k12c2 }
def k12c3 : Code := { maxStack := 3, maxLocals := 5, code := prog_44_method_5_code, exceptionTable := #[], attributes := #[] }
def k12m3 : Method := { name := "add", desc := "(IIZ)V", sig := { parameters := [.int, .int, .boolean], returnType := none }, accessFlags := 2, code := some k12c3 }
/-- com/example/whereas/whereas/model/Origins$Builder -/
def k12 : Class := { plain "com/example/whereas/whereas/model/Origins$Builder" (some 0) with
  accessFlags := 48
  interfaces := #[]
  cf := some (fileOf pool12 8 #[.nestHost 34] #[{ accessFlags := 0, nameIndex := 5, descriptorIndex := 6, attributes := #[] }, { accessFlags := 0, nameIndex := 21, descriptorIndex := 50, attributes := #[] }, { accessFlags := 0, nameIndex := 52, descriptorIndex := 53, attributes := #[] }, { accessFlags := 2, nameIndex := 29, descriptorIndex := 30, attributes := #[] }] 48 2 #[] #[{ accessFlags := 2, nameIndex := 11, descriptorIndex := 12, attributes := #[] }, { accessFlags := 2, nameIndex := 15, descriptorIndex := 12, attributes := #[] }, { accessFlags := 2, nameIndex := 18, descriptorIndex := 12, attributes := #[] }, { accessFlags := 2, nameIndex := 21, descriptorIndex := 22, attributes := #[] }, { accessFlags := 2, nameIndex := 25, descriptorIndex := 26, attributes := #[] }, { accessFlags := 2, nameIndex := 33, descriptorIndex := 26, attributes := #[] }])
  fields := #[{ name := "starts", type := (.array .int), accessFlags := 2, slot := 0, constantValue := 0 }, { name := "originStarts", type := (.array .int), accessFlags := 2, slot := 1, constantValue := 0 }, { name := "originEnds", type := (.array .int), accessFlags := 2, slot := 2, constantValue := 0 }, { name := "literal", type := (.array .boolean), accessFlags := 2, slot := 3, constantValue := 0 }, { name := "runs", type := .int, accessFlags := 2, slot := 4, constantValue := 0 }, { name := "length", type := .int, accessFlags := 2, slot := 5, constantValue := 0 }]
  methods := #[k12m0, k12m1, k12m2, k12m3]
  instanceTypes := #[(.array .int), (.array .int), (.array .int), (.array .boolean), .int, .int]
  staticTypes := #[]
  resolved := Array.replicate 61 none
  statics := none }

def pool13 : Array CpInfo := pool [(2, .class_ 4), (1, u "java/lang/Object"), (0, u "<init>"), (0, u "()V"), (7, .class_ 16), (1, u "java/util/Arrays"), (57, .class_ 76), (1, u "java/util/Arrays$NaturalOrder"), (36, .class_ 115), (1, u "java/util/Arrays$LegacyMergeSort"), (1, u "Z"), (21, u "copyOfRange"), (10, .methodref 151 152), (0, .class_ 153), (0, .nameAndType 154 155), (0, u "java/lang/System"), (0, u "arraycopy"), (0, u "(Ljava/lang/Object;ILjava/lang/Object;II)V"), (148, .methodref 305 306), (0, .class_ 307), (0, .nameAndType 308 309), (0, u "java/lang/Math"), (0, u "min"), (0, u "(II)I"), (29, .methodref 14 340), (0, .nameAndType 341 342), (0, u "copyOfRangeByte"), (0, u "([BII)[B"), (0, .methodref 14 344), (0, .nameAndType 345 346), (0, u "checkLength"), (0, u "(II)V"), (28, .class_ 376), (0, u "java/util/Arrays$ArrayList"), (68, u "$assertionsDisabled"), (269, u "MIN_ARRAY_SORT_GRAN"), (0, u "I"), (2, u "INSERTIONSORT_THRESHOLD"), (255, .class_ 976), (0, u "java/util/Arrays$ArrayItr")] 52

def k13m0 : Method := { name := "<init>", desc := "()V", sig := { parameters := [], returnType := none }, accessFlags := 2, code := none }
def k13c1 : Code := { maxStack := 4, maxLocals := 2, code := jdk_65_method_131_code, exceptionTable := #[], attributes := #[] }
def k13m1 : Method := { name := "checkLength", desc := "(II)V", sig := { parameters := [.int, .int], returnType := none }, accessFlags := 10, code := some k13c1 }
def k13c2 : Code := { maxStack := 3, maxLocals := 3, code := jdk_65_method_132_code, exceptionTable := #[], attributes := #[] }
def k13m2 : Method := { name := "copyOfRange", desc := "([BII)[B", sig := { parameters := [(.array .byte), .int, .int], returnType := some (.array .byte) }, accessFlags := 9, code := some k13c2 }
def k13c3 : Code := { maxStack := 6, maxLocals := 5, code := jdk_65_method_133_code, exceptionTable := #[], attributes := #[] }
def k13m3 : Method := { name := "copyOfRangeByte", desc := "([BII)[B", sig := { parameters := [(.array .byte), .int, .int], returnType := some (.array .byte) }, accessFlags := 10, code := some k13c3 }
/-- java/util/Arrays -/
def k13 : Class := { plain "java/util/Arrays" (some 0) with
  accessFlags := 49
  interfaces := #[]
  cf := some (fileOf pool13 14 #[.nestMembers #[975, 375, 113, 74]] #[{ accessFlags := 2, nameIndex := 5, descriptorIndex := 6, attributes := #[] }, { accessFlags := 10, nameIndex := 345, descriptorIndex := 346, attributes := #[] }, { accessFlags := 9, nameIndex := 139, descriptorIndex := 342, attributes := #[] }, { accessFlags := 10, nameIndex := 341, descriptorIndex := 342, attributes := #[] }] 49 2 #[] #[{ accessFlags := 26, nameIndex := 715, descriptorIndex := 716, attributes := #[] }, { accessFlags := 26, nameIndex := 719, descriptorIndex := 716, attributes := #[] }, { accessFlags := 4120, nameIndex := 445, descriptorIndex := 117, attributes := #[] }])
  fields := #[{ name := "MIN_ARRAY_SORT_GRAN", type := .int, accessFlags := 26, slot := 0, constantValue := 0 }, { name := "INSERTIONSORT_THRESHOLD", type := .int, accessFlags := 26, slot := 1, constantValue := 0 }, { name := "$assertionsDisabled", type := .boolean, accessFlags := 4120, slot := 2, constantValue := 0 }]
  methods := #[k13m0, k13m1, k13m2, k13m3]
  instanceTypes := #[]
  staticTypes := #[.int, .int, .boolean]
  resolved := Array.replicate 1029 none
  statics := none }

def pool14 : Array CpInfo := pool [(1, .class_ 2), (0, u "java/lang/Math"), (1, .class_ 6), (1, u "java/lang/Object"), (0, u "<init>"), (0, u "()V"), (89, .class_ 100), (1, u "java/lang/Math$RandomNumberGeneratorHolder"), (71, u "negativeZeroFloatBits"), (0, u "J"), (2, u "negativeZeroDoubleBits"), (24, u "min"), (43, u "$assertionsDisabled"), (0, u "Z"), (88, u "(II)I"), (2, u "twoToTheDoubleScaleDown"), (0, u "D"), (4, u "twoToTheDoubleScaleUp"), (9, u "E"), (3, u "PI"), (2, u "TAU"), (2, u "DEGREES_TO_RADIANS"), (0, u "RADIANS_TO_DEGREES")] 94

def k14m0 : Method := { name := "<init>", desc := "()V", sig := { parameters := [], returnType := none }, accessFlags := 2, code := none }
def k14c1 : Code := { maxStack := 2, maxLocals := 2, code := jdk_29_method_69_code, exceptionTable := #[], attributes := #[] }
def k14m1 : Method := { name := "min", desc := "(II)I", sig := { parameters := [.int, .int], returnType := some .int }, accessFlags := 9, code := some k14c1 }
/-- java/lang/Math -/
def k14 : Class := { plain "java/lang/Math" (some 0) with
  accessFlags := 49
  interfaces := #[]
  cf := some (fileOf pool14 1 #[.nestMembers #[98]] #[{ accessFlags := 2, nameIndex := 7, descriptorIndex := 8, attributes := #[] }, { accessFlags := 9, nameIndex := 201, descriptorIndex := 335, attributes := #[] }] 49 4 #[] #[{ accessFlags := 25, nameIndex := 354, descriptorIndex := 339, attributes := #[] }, { accessFlags := 25, nameIndex := 358, descriptorIndex := 339, attributes := #[] }, { accessFlags := 25, nameIndex := 361, descriptorIndex := 339, attributes := #[] }, { accessFlags := 26, nameIndex := 364, descriptorIndex := 339, attributes := #[] }, { accessFlags := 26, nameIndex := 365, descriptorIndex := 339, attributes := #[] }, { accessFlags := 26, nameIndex := 172, descriptorIndex := 173, attributes := #[] }, { accessFlags := 26, nameIndex := 176, descriptorIndex := 173, attributes := #[] }, { accessFlags := 8, nameIndex := 344, descriptorIndex := 339, attributes := #[] }, { accessFlags := 8, nameIndex := 338, descriptorIndex := 339, attributes := #[] }, { accessFlags := 4120, nameIndex := 245, descriptorIndex := 246, attributes := #[] }])
  fields := #[{ name := "E", type := .double, accessFlags := 25, slot := 0, constantValue := 0 }, { name := "PI", type := .double, accessFlags := 25, slot := 1, constantValue := 0 }, { name := "TAU", type := .double, accessFlags := 25, slot := 2, constantValue := 0 }, { name := "DEGREES_TO_RADIANS", type := .double, accessFlags := 26, slot := 3, constantValue := 0 }, { name := "RADIANS_TO_DEGREES", type := .double, accessFlags := 26, slot := 4, constantValue := 0 }, { name := "negativeZeroFloatBits", type := .long, accessFlags := 26, slot := 5, constantValue := 0 }, { name := "negativeZeroDoubleBits", type := .long, accessFlags := 26, slot := 6, constantValue := 0 }, { name := "twoToTheDoubleScaleUp", type := .double, accessFlags := 8, slot := 7, constantValue := 0 }, { name := "twoToTheDoubleScaleDown", type := .double, accessFlags := 8, slot := 8, constantValue := 0 }, { name := "$assertionsDisabled", type := .boolean, accessFlags := 4120, slot := 9, constantValue := 0 }]
  methods := #[k14m0, k14m1]
  instanceTypes := #[]
  staticTypes := #[.double, .double, .double, .double, .double, .long, .long, .double, .double, .boolean]
  resolved := Array.replicate 460 none
  statics := none }

def pool15 : Array CpInfo := pool [(2, .class_ 4), (1, u "java/lang/Object"), (0, u "<init>"), (0, u "()V"), (1, .class_ 10), (1, u "java/lang/System"), (0, u "allowSecurityManager"), (0, u "I"), (16, u "cons"), (0, u "Ljava/io/Console;"), (77, .class_ 110), (1, u "java/lang/System$CallersHolder"), (43, u "initialErrStream"), (0, u "Ljava/io/PrintStream;"), (19, u "security"), (0, u "Ljava/lang/SecurityManager;"), (31, .class_ 209), (0, u "java/lang/System$1"), (7, u "props"), (0, u "Ljava/util/Properties;"), (2, u "lineSeparator"), (0, u "Ljava/lang/String;"), (96, .class_ 321), (1, u "java/lang/System$LoggerFinder"), (5, .class_ 328), (0, u "java/lang/System$Logger"), (67, u "err"), (2, u "out"), (91, u "notSupportedJnuEncoding"), (15, u "in"), (17, u "initialIn"), (0, u "Ljava/io/InputStream;"), (35, u "bootLayer"), (0, u "Ljava/lang/ModuleLayer;"), (99, .class_ 664), (0, u "java/lang/System$2"), (9, u "NEVER"), (2, u "MAYBE"), (49, u "arraycopy"), (0, u "(Ljava/lang/Object;ILjava/lang/Object;II)V"), (72, .class_ 802), (0, u "java/lang/System$Logger$Level")] 31

def k15m0 : Method := { name := "<init>", desc := "()V", sig := { parameters := [], returnType := none }, accessFlags := 2, code := none }
def k15m1 : Method := { name := "arraycopy", desc := "(Ljava/lang/Object;ILjava/lang/Object;II)V", sig := { parameters := [(.object "java/lang/Object"), .int, (.object "java/lang/Object"), .int, .int], returnType := none }, accessFlags := 265, code := none }
/-- java/lang/System -/
def k15 : Class := { plain "java/lang/System" (some 0) with
  accessFlags := 49
  interfaces := #[]
  cf := some (fileOf pool15 8 #[.nestMembers #[319, 327, 801, 108, 663, 208]] #[{ accessFlags := 2, nameIndex := 5, descriptorIndex := 6, attributes := #[] }, { accessFlags := 265, nameIndex := 727, descriptorIndex := 728, attributes := #[] }] 49 2 #[] #[{ accessFlags := 25, nameIndex := 507, descriptorIndex := 526, attributes := #[] }, { accessFlags := 25, nameIndex := 399, descriptorIndex := 155, attributes := #[] }, { accessFlags := 25, nameIndex := 396, descriptorIndex := 155, attributes := #[] }, { accessFlags := 10, nameIndex := 525, descriptorIndex := 526, attributes := #[] }, { accessFlags := 26, nameIndex := 674, descriptorIndex := 12, attributes := #[] }, { accessFlags := 26, nameIndex := 677, descriptorIndex := 12, attributes := #[] }, { accessFlags := 10, nameIndex := 11, descriptorIndex := 12, attributes := #[] }, { accessFlags := 74, nameIndex := 175, descriptorIndex := 176, attributes := #[] }, { accessFlags := 10, nameIndex := 491, descriptorIndex := 222, attributes := #[] }, { accessFlags := 74, nameIndex := 29, descriptorIndex := 30, attributes := #[] }, { accessFlags := 74, nameIndex := 154, descriptorIndex := 155, attributes := #[] }, { accessFlags := 10, nameIndex := 217, descriptorIndex := 218, attributes := #[] }, { accessFlags := 10, nameIndex := 221, descriptorIndex := 222, attributes := #[] }, { accessFlags := 8, nameIndex := 562, descriptorIndex := 563, attributes := #[] }])
  fields := #[{ name := "in", type := (.object "java/io/InputStream"), accessFlags := 25, slot := 0, constantValue := 0 }, { name := "out", type := (.object "java/io/PrintStream"), accessFlags := 25, slot := 1, constantValue := 0 }, { name := "err", type := (.object "java/io/PrintStream"), accessFlags := 25, slot := 2, constantValue := 0 }, { name := "initialIn", type := (.object "java/io/InputStream"), accessFlags := 10, slot := 3, constantValue := 0 }, { name := "NEVER", type := .int, accessFlags := 26, slot := 4, constantValue := 0 }, { name := "MAYBE", type := .int, accessFlags := 26, slot := 5, constantValue := 0 }, { name := "allowSecurityManager", type := .int, accessFlags := 10, slot := 6, constantValue := 0 }, { name := "security", type := (.object "java/lang/SecurityManager"), accessFlags := 74, slot := 7, constantValue := 0 }, { name := "notSupportedJnuEncoding", type := (.object "java/lang/String"), accessFlags := 10, slot := 8, constantValue := 0 }, { name := "cons", type := (.object "java/io/Console"), accessFlags := 74, slot := 9, constantValue := 0 }, { name := "initialErrStream", type := (.object "java/io/PrintStream"), accessFlags := 74, slot := 10, constantValue := 0 }, { name := "props", type := (.object "java/util/Properties"), accessFlags := 10, slot := 11, constantValue := 0 }, { name := "lineSeparator", type := (.object "java/lang/String"), accessFlags := 10, slot := 12, constantValue := 0 }, { name := "bootLayer", type := (.object "java/lang/ModuleLayer"), accessFlags := 8, slot := 13, constantValue := 0 }]
  methods := #[k15m0, k15m1]
  instanceTypes := #[]
  staticTypes := #[(.object "java/io/InputStream"), (.object "java/io/PrintStream"), (.object "java/io/PrintStream"), (.object "java/io/InputStream"), .int, .int, .int, (.object "java/lang/SecurityManager"), (.object "java/lang/String"), (.object "java/io/Console"), (.object "java/io/PrintStream"), (.object "java/util/Properties"), (.object "java/lang/String"), (.object "java/lang/ModuleLayer")]
  resolved := Array.replicate 834 none
  statics := none }

def pool16 : Array CpInfo := pool [(1, .class_ 2), (0, u "java/lang/String"), (1, .class_ 6), (1, u "java/lang/Object"), (0, u "<init>"), (0, u "()V"), (0, .methodref 1 10), (0, .nameAndType 11 12), (0, u "checkIndex"), (0, u "(II)V"), (1, .class_ 16), (1, u "java/lang/StringLatin1"), (36, u "([BI)C"), (36, u "canEncode"), (14, u "(C)Z"), (15, u "$assertionsDisabled"), (0, u "Z"), (98, .class_ 223), (1, u "java/lang/StringLatin1$LinesSpliterator"), (28, u "charAt"), (137, .class_ 391), (0, u "java/lang/StringLatin1$CharsSpliterator")] 3

def k16m0 : Method := { name := "<init>", desc := "()V", sig := { parameters := [], returnType := none }, accessFlags := 0, code := none }
def k16c1 : Code := { maxStack := 2, maxLocals := 2, code := jdk_43_method_2_code, exceptionTable := #[], attributes := #[] }
def k16m1 : Method := { name := "charAt", desc := "([BI)C", sig := { parameters := [(.array .byte), .int], returnType := some .char }, accessFlags := 9, code := some k16c1 }
def k16c2 : Code := { maxStack := 2, maxLocals := 1, code := jdk_43_method_3_code, exceptionTable := #[], attributes := #[] }
def k16m2 : Method := { name := "canEncode", desc := "(C)Z", sig := { parameters := [.char], returnType := some .boolean }, accessFlags := 9, code := some k16c2 }
/-- java/lang/StringLatin1 -/
def k16 : Class := { plain "java/lang/StringLatin1" (some 0) with
  accessFlags := 48
  interfaces := #[]
  cf := some (fileOf pool16 14 #[.nestMembers #[390, 221]] #[{ accessFlags := 0, nameIndex := 7, descriptorIndex := 8, attributes := #[] }, { accessFlags := 9, nameIndex := 252, descriptorIndex := 53, attributes := #[] }, { accessFlags := 9, nameIndex := 90, descriptorIndex := 105, attributes := #[] }] 48 4 #[] #[{ accessFlags := 4120, nameIndex := 121, descriptorIndex := 122, attributes := #[] }])
  fields := #[{ name := "$assertionsDisabled", type := .boolean, accessFlags := 4120, slot := 0, constantValue := 0 }]
  methods := #[k16m0, k16m1, k16m2]
  instanceTypes := #[]
  staticTypes := #[.boolean]
  resolved := Array.replicate 395 none
  statics := none }

def pool17 : Array CpInfo := pool [(2, .class_ 4), (1, u "java/lang/Object"), (0, u "<init>"), (0, u "()V"), (17, .class_ 26), (1, u "jdk/internal/util/Preconditions"), (6, u "checkIndex"), (21, .class_ 56), (0, u "jdk/internal/util/Preconditions$4"), (57, .class_ 115), (0, u "jdk/internal/util/Preconditions$1"), (7, u "SIOOBE_FORMATTER"), (0, u "Ljava/util/function/BiFunction;"), (0, .class_ 126), (0, u "jdk/internal/util/Preconditions$2"), (3, u "AIOOBE_FORMATTER"), (0, .class_ 132), (0, u "jdk/internal/util/Preconditions$3"), (3, u "IOOBE_FORMATTER"), (41, u "(IILjava/util/function/BiFunction;)I")] 15

def k17m0 : Method := { name := "<init>", desc := "()V", sig := { parameters := [], returnType := none }, accessFlags := 1, code := none }
def k17c1 : Code := { maxStack := 3, maxLocals := 3, code := jdk_41_method_11_code, exceptionTable := #[], attributes := #[] }
def k17m1 : Method := { name := "checkIndex", desc := "(IILjava/util/function/BiFunction;)I", sig := { parameters := [.int, .int, (.object "java/util/function/BiFunction")], returnType := some .int }, accessFlags := 9, code := some k17c1 }
/-- jdk/internal/util/Preconditions -/
def k17 : Class := { plain "jdk/internal/util/Preconditions" (some 0) with
  accessFlags := 33
  interfaces := #[]
  cf := some (fileOf pool17 24 #[.nestMembers #[55, 131, 125, 114]] #[{ accessFlags := 1, nameIndex := 5, descriptorIndex := 6, attributes := #[] }, { accessFlags := 9, nameIndex := 33, descriptorIndex := 178, attributes := #[] }] 33 2 #[] #[{ accessFlags := 25, nameIndex := 123, descriptorIndex := 124, attributes := #[] }, { accessFlags := 25, nameIndex := 130, descriptorIndex := 124, attributes := #[] }, { accessFlags := 25, nameIndex := 136, descriptorIndex := 124, attributes := #[] }])
  fields := #[{ name := "SIOOBE_FORMATTER", type := (.object "java/util/function/BiFunction"), accessFlags := 25, slot := 0, constantValue := 0 }, { name := "AIOOBE_FORMATTER", type := (.object "java/util/function/BiFunction"), accessFlags := 25, slot := 1, constantValue := 0 }, { name := "IOOBE_FORMATTER", type := (.object "java/util/function/BiFunction"), accessFlags := 25, slot := 2, constantValue := 0 }]
  methods := #[k17m0, k17m1]
  instanceTypes := #[]
  staticTypes := #[(.object "java/util/function/BiFunction"), (.object "java/util/function/BiFunction"), (.object "java/util/function/BiFunction")]
  resolved := Array.replicate 194 none
  statics := some 1 }

def pool18 : Array CpInfo := pool [(9, u "<init>"), (6, .class_ 18), (1, u "java/lang/Object"), (0, u "()V"), (1, .class_ 23), (1, u "jdk/internal/util/ArraysSupport"), (0, u "LOG2_ARRAY_LONG_INDEX_SCALE"), (0, u "I"), (2, u "U"), (0, u "Ljdk/internal/misc/Unsafe;"), (8, u "BIG_ENDIAN"), (0, u "Z"), (8, u "LOG2_BYTE_BIT_SIZE"), (4, u "LOG2_ARRAY_INT_INDEX_SCALE"), (54, u "JLA"), (0, u "Ljdk/internal/access/JavaLangAccess;"), (11, u "LOG2_ARRAY_BOOLEAN_INDEX_SCALE"), (9, u "LOG2_ARRAY_BYTE_INDEX_SCALE"), (5, u "LOG2_ARRAY_CHAR_INDEX_SCALE"), (5, u "LOG2_ARRAY_SHORT_INDEX_SCALE"), (18, u "LOG2_ARRAY_FLOAT_INDEX_SCALE"), (24, u "LOG2_ARRAY_DOUBLE_INDEX_SCALE"), (89, u "T_BOOLEAN"), (2, u "T_CHAR"), (1, u "T_FLOAT"), (1, u "T_DOUBLE"), (1, u "T_BYTE"), (1, u "T_SHORT"), (1, u "T_INT"), (1, u "T_LONG"), (1, u "SOFT_MAX_ARRAY_LENGTH")] 83

def k18m0 : Method := { name := "<init>", desc := "()V", sig := { parameters := [], returnType := none }, accessFlags := 2, code := none }
/-- jdk/internal/util/ArraysSupport -/
def k18 : Class := { plain "jdk/internal/util/ArraysSupport" (some 0) with
  accessFlags := 33
  interfaces := #[]
  cf := some (fileOf pool18 21 #[] #[{ accessFlags := 2, nameIndex := 9, descriptorIndex := 19, attributes := #[] }] 33 16 #[] #[{ accessFlags := 24, nameIndex := 28, descriptorIndex := 29, attributes := #[] }, { accessFlags := 26, nameIndex := 38, descriptorIndex := 39, attributes := #[] }, { accessFlags := 25, nameIndex := 121, descriptorIndex := 25, attributes := #[] }, { accessFlags := 25, nameIndex := 131, descriptorIndex := 25, attributes := #[] }, { accessFlags := 25, nameIndex := 137, descriptorIndex := 25, attributes := #[] }, { accessFlags := 25, nameIndex := 143, descriptorIndex := 25, attributes := #[] }, { accessFlags := 25, nameIndex := 53, descriptorIndex := 25, attributes := #[] }, { accessFlags := 25, nameIndex := 24, descriptorIndex := 25, attributes := #[] }, { accessFlags := 25, nameIndex := 162, descriptorIndex := 25, attributes := #[] }, { accessFlags := 25, nameIndex := 187, descriptorIndex := 25, attributes := #[] }, { accessFlags := 26, nameIndex := 48, descriptorIndex := 25, attributes := #[] }, { accessFlags := 25, nameIndex := 277, descriptorIndex := 25, attributes := #[] }, { accessFlags := 25, nameIndex := 280, descriptorIndex := 25, attributes := #[] }, { accessFlags := 25, nameIndex := 282, descriptorIndex := 25, attributes := #[] }, { accessFlags := 25, nameIndex := 284, descriptorIndex := 25, attributes := #[] }, { accessFlags := 25, nameIndex := 286, descriptorIndex := 25, attributes := #[] }, { accessFlags := 25, nameIndex := 288, descriptorIndex := 25, attributes := #[] }, { accessFlags := 25, nameIndex := 290, descriptorIndex := 25, attributes := #[] }, { accessFlags := 25, nameIndex := 292, descriptorIndex := 25, attributes := #[] }, { accessFlags := 26, nameIndex := 108, descriptorIndex := 109, attributes := #[] }, { accessFlags := 25, nameIndex := 294, descriptorIndex := 25, attributes := #[] }])
  fields := #[{ name := "U", type := (.object "jdk/internal/misc/Unsafe"), accessFlags := 24, slot := 0, constantValue := 0 }, { name := "BIG_ENDIAN", type := .boolean, accessFlags := 26, slot := 1, constantValue := 0 }, { name := "LOG2_ARRAY_BOOLEAN_INDEX_SCALE", type := .int, accessFlags := 25, slot := 2, constantValue := 0 }, { name := "LOG2_ARRAY_BYTE_INDEX_SCALE", type := .int, accessFlags := 25, slot := 3, constantValue := 0 }, { name := "LOG2_ARRAY_CHAR_INDEX_SCALE", type := .int, accessFlags := 25, slot := 4, constantValue := 0 }, { name := "LOG2_ARRAY_SHORT_INDEX_SCALE", type := .int, accessFlags := 25, slot := 5, constantValue := 0 }, { name := "LOG2_ARRAY_INT_INDEX_SCALE", type := .int, accessFlags := 25, slot := 6, constantValue := 0 }, { name := "LOG2_ARRAY_LONG_INDEX_SCALE", type := .int, accessFlags := 25, slot := 7, constantValue := 0 }, { name := "LOG2_ARRAY_FLOAT_INDEX_SCALE", type := .int, accessFlags := 25, slot := 8, constantValue := 0 }, { name := "LOG2_ARRAY_DOUBLE_INDEX_SCALE", type := .int, accessFlags := 25, slot := 9, constantValue := 0 }, { name := "LOG2_BYTE_BIT_SIZE", type := .int, accessFlags := 26, slot := 10, constantValue := 0 }, { name := "T_BOOLEAN", type := .int, accessFlags := 25, slot := 11, constantValue := 0 }, { name := "T_CHAR", type := .int, accessFlags := 25, slot := 12, constantValue := 0 }, { name := "T_FLOAT", type := .int, accessFlags := 25, slot := 13, constantValue := 0 }, { name := "T_DOUBLE", type := .int, accessFlags := 25, slot := 14, constantValue := 0 }, { name := "T_BYTE", type := .int, accessFlags := 25, slot := 15, constantValue := 0 }, { name := "T_SHORT", type := .int, accessFlags := 25, slot := 16, constantValue := 0 }, { name := "T_INT", type := .int, accessFlags := 25, slot := 17, constantValue := 0 }, { name := "T_LONG", type := .int, accessFlags := 25, slot := 18, constantValue := 0 }, { name := "JLA", type := (.object "jdk/internal/access/JavaLangAccess"), accessFlags := 26, slot := 19, constantValue := 0 }, { name := "SOFT_MAX_ARRAY_LENGTH", type := .int, accessFlags := 25, slot := 20, constantValue := 0 }]
  methods := #[k18m0]
  instanceTypes := #[]
  staticTypes := #[(.object "jdk/internal/misc/Unsafe"), .boolean, .int, .int, .int, .int, .int, .int, .int, .int, .int, .int, .int, .int, .int, .int, .int, .int, .int, (.object "jdk/internal/access/JavaLangAccess"), .int]
  resolved := Array.replicate 378 none
  statics := none }

def pool19 : Array CpInfo := pool [(1, u "java/lang/Cloneable"), (0, .class_ 1), (0, u "java/lang/Object"), (0, .class_ 3)] 3

/-- java/lang/Cloneable -/
def k19 : Class := { plain "java/lang/Cloneable" (some 0) with
  accessFlags := 1537
  interfaces := #[]
  cf := some (fileOf pool19 2 #[] #[] 1537 4 #[] #[])
  fields := #[]
  methods := #[]
  instanceTypes := #[]
  staticTypes := #[]
  resolved := Array.replicate 8 none
  statics := none }

/-- the primitive boolean -/
def k20 : Class := { plain "boolean" none with kind := .primitive 'Z', accessFlags := 0x411 }
/-- [Z -/
def k21 : Class := { plain "[Z" (some 0) with kind := .array 20 .boolean, interfaces := #[19, 6], accessFlags := 1041 }

/-- the primitive byte -/
def k22 : Class := { plain "byte" none with kind := .primitive 'B', accessFlags := 0x411 }
/-- [B -/
def k23 : Class := { plain "[B" (some 0) with kind := .array 22 .byte, interfaces := #[19, 6], accessFlags := 1041 }

/-- the primitive char -/
def k24 : Class := { plain "char" none with kind := .primitive 'C', accessFlags := 0x411 }
/-- [C -/
def k25 : Class := { plain "[C" (some 0) with kind := .array 24 .char, interfaces := #[19, 6], accessFlags := 1041 }

/-- the primitive int -/
def k26 : Class := { plain "int" none with kind := .primitive 'I', accessFlags := 0x411 }
/-- [I -/
def k27 : Class := { plain "[I" (some 0) with kind := .array 26 .int, interfaces := #[19, 6], accessFlags := 1041 }

def heap : Heap := #[{ cls := 11, slots := #[.long 0, .int 1, .null, .int 0, .null, .int 0, .int 0], vm := .statics 11 },
  { cls := 17, slots := #[.null, .null, .null], vm := .statics 17 }]
def classes : Array Class := #[k0, k1, k2, k3, k4, k5, k6, k7, k8, k9, k10, k11, k12, k13, k14, k15, k16, k17, k18, k19, k20, k21, k22, k23, k24, k25, k26, k27]
def interned : List (Array UInt16 × Addr) := []
def slotsUsed : Nat := 10
def theMethod : MethodId := ⟨1, 1⟩
def args0 : Array Value := #[.int 63, .int 65, .int 66, .int 46]
def aboutOver (below : List Frame) : State where
  vm := { classes := classes, interned := interned.toArray }
  heap := heap
  slotsUsed := slotsUsed
  threads := #[{ frames := .invoking theMethod args0 :: below }]
def below0 : List Frame := [.native { method := ⟨0, 0⟩, args := #[] }]
def about1 : State := aboutOver below0
def p0 : Program := .bare "" "" ""
def e0 : Env := launch0.env 0 0 0
theorem w_frames : about1.frames = Frame.invoking theMethod args0 :: below0 := rfl
set_option maxRecDepth 65536 in
theorem w_args : argsFit about1.vm theMethod args0 = true := by decide +kernel
set_option maxRecDepth 65536 in
theorem w_heap : heapFits about1 = true := by decide +kernel
set_option maxRecDepth 65536 in
theorem w_runnable : about1.curStatus? = some .runnable := by decide +kernel
set_option maxRecDepth 65536 in
theorem w_alone : about1.alone = true := by decide +kernel
set_option maxRecDepth 65536 in
theorem w_named : about1.methodNamed? x = some theMethod := by decide +kernel
set_option maxRecDepth 65536 in
theorem w_hears : about1.hears theMethod below0 = true := by decide +kernel
set_option maxRecDepth 65536 in
theorem w_ripe : about1.ripe theMethod args0 below0 = true := by decide +kernel
theorem w_running : about1.status = .running := rfl
set_option maxRecDepth 65536 in
theorem w_room : about1.hasRoom e0.platform room_1 = true :=
  launch0.hasRoom_least _ room_1 (by decide +kernel) (by decide +kernel) (by decide +kernel) (by decide +kernel) (by decide +kernel) (by decide +kernel)
theorem allAtoms_all (ts : List Jvm.Cond) (a : Array Jvm.Value) (st : Jvm.State) : (allAtoms ts).before a st = ts.all (fun c => c.before a st) := by
  induction ts with
  | nil => rfl
  | cons c t ih =>
    show (Jvm.Cond.and c (allAtoms t)).before a st = _
    rw [Jvm.Cond.before_and, ih, List.all_cons]
def words1 : List Jvm.Cond := Jvm.Cond.code x code maxLocals ret :: tables_1
/-- a 'code' word, met by the world's own term for the bytes: nothing is compared byte by byte -/
theorem code_word {y : MethodName} {bytes : ByteArray} {mx : Nat} {rt : Option FieldType} {a : Array Value} {s : State} {m : MethodId} {meth : Method} {c : Code} (h1 : s.methodNamed? y = some m) (h2 : s.vm.method? m = some meth) (h3 : meth.code = some c) (h4 : c.code = bytes)
    (h5 : (c.maxLocals == mx && c.exceptionTable.isEmpty && decide (c.maxStack ≤ mostOperands) && decide (meth.sig.returnType = rt) && !meth.locks && decide (parseMethodDescriptor y.desc = some meth.sig)) = true) : (Jvm.Cond.code y bytes mx rt).before a s = true := by
  simp only [Bool.and_eq_true, beq_iff_eq, Bool.not_eq_true', decide_eq_true_eq] at h5
  obtain ⟨⟨⟨⟨⟨g1, g2⟩, g3⟩, g4⟩, g5⟩, g6⟩ := h5
  simp [Cond.before, Cond.holds, Cond.value, h1, h2, h3, h4, g1, g2, g3, g4, g5, g6]
def isCode : Jvm.Cond → Bool
  | .code _ _ _ _ => true
  | _ => false
theorem all_split {L : List Jvm.Cond} {P : Jvm.Cond → Bool} (h1 : L.all (fun c => isCode c || P c) = true) (h2 : ∀ c ∈ L.filter isCode, P c = true) : L.all P = true := by
  refine List.all_eq_true.mpr fun c hc => ?_
  have h := List.all_eq_true.mp h1 c hc
  rcases Bool.eq_false_or_eq_true (isCode c) with hi | hi
  · exact h2 c (List.mem_filter.mpr ⟨hc, hi⟩)
  · simpa [hi] using h
set_option maxRecDepth 65536 in
theorem w_c0 : (Jvm.Cond.code x code maxLocals ret).before args0 about1 = true := code_word (m := ⟨1, 1⟩) (meth := k1m1) (c := k1c1) (by decide +kernel) rfl rfl rfl (by decide +kernel)
set_option maxRecDepth 65536 in
theorem w_c1 : (Jvm.Cond.code ({ cls := "com/example/whereas/whereas/model/HtmlLayout", name := "<init>", desc := "()V" } : Jvm.MethodName) prog_41_method_1_code (1 : Nat) (Option.none : Option Jvm.ClassFile.FieldType)).before args0 about1 = true := code_word (m := ⟨2, 0⟩) (meth := k2m0) (c := k2c0) (by decide +kernel) rfl rfl rfl (by decide +kernel)
set_option maxRecDepth 65536 in
theorem w_c2 : (Jvm.Cond.code ({ cls := "java/lang/Object", name := "<init>", desc := "()V" } : Jvm.MethodName) object_method_1_code (1 : Nat) (Option.none : Option Jvm.ClassFile.FieldType)).before args0 about1 = true := code_word (m := ⟨0, 0⟩) (meth := k0m0) (c := k0c0) (by decide +kernel) rfl rfl rfl (by decide +kernel)
set_option maxRecDepth 65536 in
theorem w_c3 : (Jvm.Cond.code ({ cls := "java/lang/StringBuilder", name := "<init>", desc := "()V" } : Jvm.MethodName) jdk_67_method_1_code (1 : Nat) (Option.none : Option Jvm.ClassFile.FieldType)).before args0 about1 = true := code_word (m := ⟨8, 0⟩) (meth := k8m0) (c := k8c0) (by decide +kernel) rfl rfl rfl (by decide +kernel)
set_option maxRecDepth 65536 in
theorem w_c4 : (Jvm.Cond.code ({ cls := "java/lang/AbstractStringBuilder", name := "<init>", desc := "(I)V" } : Jvm.MethodName) jdk_68_method_2_code (2 : Nat) (Option.none : Option Jvm.ClassFile.FieldType)).before args0 about1 = true := code_word (m := ⟨5, 1⟩) (meth := k5m1) (c := k5c1) (by decide +kernel) rfl rfl rfl (by decide +kernel)
set_option maxRecDepth 65536 in
theorem w_c5 : (Jvm.Cond.code ({ cls := "com/example/whereas/whereas/model/Origins$Builder", name := "<init>", desc := "()V" } : Jvm.MethodName) prog_44_method_1_code (1 : Nat) (Option.none : Option Jvm.ClassFile.FieldType)).before args0 about1 = true := code_word (m := ⟨12, 0⟩) (meth := k12m0) (c := k12c0) (by decide +kernel) rfl rfl rfl (by decide +kernel)
set_option maxRecDepth 65536 in
theorem w_c6 : (Jvm.Cond.code ({ cls := "com/example/whereas/whereas/model/HtmlLayout", name := "startRow", desc := "()V" } : Jvm.MethodName) prog_41_method_10_code (1 : Nat) (Option.none : Option Jvm.ClassFile.FieldType)).before args0 about1 = true := code_word (m := ⟨2, 6⟩) (meth := k2m6) (c := k2c6) (by decide +kernel) rfl rfl rfl (by decide +kernel)
set_option maxRecDepth 65536 in
theorem w_c7 : (Jvm.Cond.code ({ cls := "com/example/whereas/whereas/model/HtmlLayout", name := "paragraphBreak", desc := "()V" } : Jvm.MethodName) prog_41_method_9_code (1 : Nat) (Option.none : Option Jvm.ClassFile.FieldType)).before args0 about1 = true := code_word (m := ⟨2, 5⟩) (meth := k2m5) (c := k2c5) (by decide +kernel) rfl rfl rfl (by decide +kernel)
set_option maxRecDepth 65536 in
theorem w_c8 : (Jvm.Cond.code ({ cls := "java/lang/StringBuilder", name := "length", desc := "()I" } : Jvm.MethodName) jdk_67_method_93_code (1 : Nat) (Option.some Jvm.ClassFile.FieldType.int)).before args0 about1 = true := code_word (m := ⟨8, 5⟩) (meth := k8m5) (c := k8c5) (by decide +kernel) rfl rfl rfl (by decide +kernel)
set_option maxRecDepth 65536 in
theorem w_c9 : (Jvm.Cond.code ({ cls := "java/lang/AbstractStringBuilder", name := "length", desc := "()I" } : Jvm.MethodName) jdk_68_method_6_code (1 : Nat) (Option.some Jvm.ClassFile.FieldType.int)).before args0 about1 = true := code_word (m := ⟨5, 2⟩) (meth := k5m2) (c := k5c2) (by decide +kernel) rfl rfl rfl (by decide +kernel)
set_option maxRecDepth 65536 in
theorem w_c10 : (Jvm.Cond.code ({ cls := "com/example/whereas/whereas/model/HtmlLayout", name := "clearPending", desc := "()V" } : Jvm.MethodName) prog_41_method_17_code (1 : Nat) (Option.none : Option Jvm.ClassFile.FieldType)).before args0 about1 = true := code_word (m := ⟨2, 12⟩) (meth := k2m12) (c := k2c12) (by decide +kernel) rfl rfl rfl (by decide +kernel)
set_option maxRecDepth 65536 in
theorem w_c11 : (Jvm.Cond.code ({ cls := "java/lang/StringBuilder", name := "setLength", desc := "(I)V" } : Jvm.MethodName) jdk_67_method_89_code (2 : Nat) (Option.none : Option Jvm.ClassFile.FieldType)).before args0 about1 = true := code_word (m := ⟨8, 4⟩) (meth := k8m4) (c := k8c4) (by decide +kernel) rfl rfl rfl (by decide +kernel)
set_option maxRecDepth 65536 in
theorem w_c12 : (Jvm.Cond.code ({ cls := "java/lang/AbstractStringBuilder", name := "setLength", desc := "(I)V" } : Jvm.MethodName) jdk_68_method_13_code (2 : Nat) (Option.none : Option Jvm.ClassFile.FieldType)).before args0 about1 = true := code_word (m := ⟨5, 4⟩) (meth := k5m4) (c := k5c4) (by decide +kernel) rfl rfl rfl (by decide +kernel)
set_option maxRecDepth 65536 in
theorem w_c13 : (Jvm.Cond.code ({ cls := "java/lang/AbstractStringBuilder", name := "ensureCapacityInternal", desc := "(I)V" } : Jvm.MethodName) jdk_68_method_9_code (3 : Nat) (Option.none : Option Jvm.ClassFile.FieldType)).before args0 about1 = true := code_word (m := ⟨5, 3⟩) (meth := k5m3) (c := k5c3) (by decide +kernel) rfl rfl rfl (by decide +kernel)
set_option maxRecDepth 65536 in
theorem w_c14 : (Jvm.Cond.code ({ cls := "com/example/whereas/whereas/model/HtmlLayout", name := "startCell", desc := "()V" } : Jvm.MethodName) prog_41_method_11_code (1 : Nat) (Option.none : Option Jvm.ClassFile.FieldType)).before args0 about1 = true := code_word (m := ⟨2, 7⟩) (meth := k2m7) (c := k2c7) (by decide +kernel) rfl rfl rfl (by decide +kernel)
set_option maxRecDepth 65536 in
theorem w_c15 : (Jvm.Cond.code ({ cls := "com/example/whereas/whereas/model/HtmlLayout", name := "endRow", desc := "(I)V" } : Jvm.MethodName) prog_41_method_12_code (2 : Nat) (Option.none : Option Jvm.ClassFile.FieldType)).before args0 about1 = true := code_word (m := ⟨2, 8⟩) (meth := k2m8) (c := k2c8) (by decide +kernel) rfl rfl rfl (by decide +kernel)
set_option maxRecDepth 65536 in
theorem w_c16 : (Jvm.Cond.code ({ cls := "com/example/whereas/whereas/model/HtmlLayout", name := "finish", desc := "(I)Ljava/lang/String;" } : Jvm.MethodName) prog_41_method_13_code (2 : Nat) (Option.some (Jvm.ClassFile.FieldType.object "java/lang/String"))).before args0 about1 = true := code_word (m := ⟨2, 9⟩) (meth := k2m9) (c := k2c9) (by decide +kernel) rfl rfl rfl (by decide +kernel)
set_option maxRecDepth 65536 in
theorem w_c17 : (Jvm.Cond.code ({ cls := "java/lang/StringBuilder", name := "toString", desc := "()Ljava/lang/String;" } : Jvm.MethodName) jdk_67_method_42_code (1 : Nat) (Option.some (Jvm.ClassFile.FieldType.object "java/lang/String"))).before args0 about1 = true := code_word (m := ⟨8, 2⟩) (meth := k8m2) (c := k8c2) (by decide +kernel) rfl rfl rfl (by decide +kernel)
set_option maxRecDepth 65536 in
theorem w_c18 : (Jvm.Cond.code ({ cls := "java/lang/String", name := "<init>", desc := "(Ljava/lang/StringBuilder;)V" } : Jvm.MethodName) jdk_42_method_53_code (2 : Nat) (Option.none : Option Jvm.ClassFile.FieldType)).before args0 about1 = true := code_word (m := ⟨11, 1⟩) (meth := k11m1) (c := k11c1) (by decide +kernel) rfl rfl rfl (by decide +kernel)
set_option maxRecDepth 65536 in
theorem w_c19 : (Jvm.Cond.code ({ cls := "java/lang/String", name := "<init>", desc := "(Ljava/lang/AbstractStringBuilder;Ljava/lang/Void;)V" } : Jvm.MethodName) jdk_42_method_150_code (5 : Nat) (Option.none : Option Jvm.ClassFile.FieldType)).before args0 about1 = true := code_word (m := ⟨11, 4⟩) (meth := k11m4) (c := k11c4) (by decide +kernel) rfl rfl rfl (by decide +kernel)
set_option maxRecDepth 65536 in
theorem w_c20 : (Jvm.Cond.code ({ cls := "java/lang/AbstractStringBuilder", name := "getValue", desc := "()[B" } : Jvm.MethodName) jdk_68_method_64_code (1 : Nat) (Option.some (Jvm.ClassFile.FieldType.array Jvm.ClassFile.FieldType.byte))).before args0 about1 = true := code_word (m := ⟨5, 7⟩) (meth := k5m7) (c := k5c7) (by decide +kernel) rfl rfl rfl (by decide +kernel)
set_option maxRecDepth 65536 in
theorem w_c21 : (Jvm.Cond.code ({ cls := "java/lang/AbstractStringBuilder", name := "isLatin1", desc := "()Z" } : Jvm.MethodName) jdk_68_method_68_code (1 : Nat) (Option.some Jvm.ClassFile.FieldType.boolean)).before args0 about1 = true := code_word (m := ⟨5, 8⟩) (meth := k5m8) (c := k5c8) (by decide +kernel) rfl rfl rfl (by decide +kernel)
set_option maxRecDepth 65536 in
theorem w_c22 : (Jvm.Cond.code ({ cls := "java/util/Arrays", name := "copyOfRange", desc := "([BII)[B" } : Jvm.MethodName) jdk_65_method_132_code (3 : Nat) (Option.some (Jvm.ClassFile.FieldType.array Jvm.ClassFile.FieldType.byte))).before args0 about1 = true := code_word (m := ⟨13, 2⟩) (meth := k13m2) (c := k13c2) (by decide +kernel) rfl rfl rfl (by decide +kernel)
set_option maxRecDepth 65536 in
theorem w_c23 : (Jvm.Cond.code ({ cls := "java/util/Arrays", name := "copyOfRangeByte", desc := "([BII)[B" } : Jvm.MethodName) jdk_65_method_133_code (5 : Nat) (Option.some (Jvm.ClassFile.FieldType.array Jvm.ClassFile.FieldType.byte))).before args0 about1 = true := code_word (m := ⟨13, 3⟩) (meth := k13m3) (c := k13c3) (by decide +kernel) rfl rfl rfl (by decide +kernel)
set_option maxRecDepth 65536 in
theorem w_c24 : (Jvm.Cond.code ({ cls := "java/util/Arrays", name := "checkLength", desc := "(II)V" } : Jvm.MethodName) jdk_65_method_131_code (2 : Nat) (Option.none : Option Jvm.ClassFile.FieldType)).before args0 about1 = true := code_word (m := ⟨13, 1⟩) (meth := k13m1) (c := k13c1) (by decide +kernel) rfl rfl rfl (by decide +kernel)
set_option maxRecDepth 65536 in
theorem w_c25 : (Jvm.Cond.code ({ cls := "java/lang/Math", name := "min", desc := "(II)I" } : Jvm.MethodName) jdk_29_method_69_code (2 : Nat) (Option.some Jvm.ClassFile.FieldType.int)).before args0 about1 = true := code_word (m := ⟨14, 1⟩) (meth := k14m1) (c := k14c1) (by decide +kernel) rfl rfl rfl (by decide +kernel)
set_option maxRecDepth 65536 in
theorem w_c26 : (Jvm.Cond.code ({ cls := "java/lang/String", name := "length", desc := "()I" } : Jvm.MethodName) jdk_42_method_54_code (1 : Nat) (Option.some Jvm.ClassFile.FieldType.int)).before args0 about1 = true := code_word (m := ⟨11, 2⟩) (meth := k11m2) (c := k11c2) (by decide +kernel) rfl rfl rfl (by decide +kernel)
set_option maxRecDepth 65536 in
theorem w_c27 : (Jvm.Cond.code ({ cls := "java/lang/String", name := "coder", desc := "()B" } : Jvm.MethodName) jdk_42_method_152_code (1 : Nat) (Option.some Jvm.ClassFile.FieldType.byte)).before args0 about1 = true := code_word (m := ⟨11, 5⟩) (meth := k11m5) (c := k11c5) (by decide +kernel) rfl rfl rfl (by decide +kernel)
set_option maxRecDepth 65536 in
theorem w_c28 : (Jvm.Cond.code ({ cls := "com/example/whereas/whereas/model/HtmlLayoutStartCellPinLaw", name := "at", desc := "(Ljava/lang/String;[CII)Z" } : Jvm.MethodName) method_3_code (4 : Nat) (Option.some Jvm.ClassFile.FieldType.boolean)).before args0 about1 = true := code_word (m := ⟨1, 2⟩) (meth := k1m2) (c := k1c2) (by decide +kernel) rfl rfl rfl (by decide +kernel)
set_option maxRecDepth 65536 in
theorem w_c29 : (Jvm.Cond.code ({ cls := "com/example/whereas/whereas/model/HtmlLayout", name := "show", desc := "(CII)V" } : Jvm.MethodName) prog_41_method_2_code (4 : Nat) (Option.none : Option Jvm.ClassFile.FieldType)).before args0 about1 = true := code_word (m := ⟨2, 1⟩) (meth := k2m1) (c := k2c1) (by decide +kernel) rfl rfl rfl (by decide +kernel)
set_option maxRecDepth 65536 in
theorem w_c30 : (Jvm.Cond.code ({ cls := "com/example/whereas/whereas/model/HtmlLayout", name := "layOutBefore", desc := "(I)V" } : Jvm.MethodName) prog_41_method_5_code (4 : Nat) (Option.none : Option Jvm.ClassFile.FieldType)).before args0 about1 = true := code_word (m := ⟨2, 2⟩) (meth := k2m2) (c := k2c2) (by decide +kernel) rfl rfl rfl (by decide +kernel)
set_option maxRecDepth 65536 in
theorem w_c31 : (Jvm.Cond.code ({ cls := "java/lang/StringBuilder", name := "append", desc := "(C)Ljava/lang/StringBuilder;" } : Jvm.MethodName) jdk_67_method_14_code (2 : Nat) (Option.some (Jvm.ClassFile.FieldType.object "java/lang/StringBuilder"))).before args0 about1 = true := code_word (m := ⟨8, 1⟩) (meth := k8m1) (c := k8c1) (by decide +kernel) rfl rfl rfl (by decide +kernel)
set_option maxRecDepth 65536 in
theorem w_c32 : (Jvm.Cond.code ({ cls := "java/lang/AbstractStringBuilder", name := "append", desc := "(C)Ljava/lang/AbstractStringBuilder;" } : Jvm.MethodName) jdk_68_method_31_code (2 : Nat) (Option.some (Jvm.ClassFile.FieldType.object "java/lang/AbstractStringBuilder"))).before args0 about1 = true := code_word (m := ⟨5, 6⟩) (meth := k5m6) (c := k5c6) (by decide +kernel) rfl rfl rfl (by decide +kernel)
set_option maxRecDepth 65536 in
theorem w_c33 : (Jvm.Cond.code ({ cls := "java/lang/StringLatin1", name := "canEncode", desc := "(C)Z" } : Jvm.MethodName) jdk_43_method_3_code (1 : Nat) (Option.some Jvm.ClassFile.FieldType.boolean)).before args0 about1 = true := code_word (m := ⟨16, 2⟩) (meth := k16m2) (c := k16c2) (by decide +kernel) rfl rfl rfl (by decide +kernel)
set_option maxRecDepth 65536 in
theorem w_c34 : (Jvm.Cond.code ({ cls := "com/example/whereas/whereas/model/HtmlLayout", name := "shown", desc := "(III)V" } : Jvm.MethodName) prog_41_method_6_code (4 : Nat) (Option.none : Option Jvm.ClassFile.FieldType)).before args0 about1 = true := code_word (m := ⟨2, 3⟩) (meth := k2m3) (c := k2c3) (by decide +kernel) rfl rfl rfl (by decide +kernel)
set_option maxRecDepth 65536 in
theorem w_c35 : (Jvm.Cond.code ({ cls := "com/example/whereas/whereas/model/HtmlLayout", name := "add", desc := "(III)V" } : Jvm.MethodName) prog_41_method_16_code (4 : Nat) (Option.none : Option Jvm.ClassFile.FieldType)).before args0 about1 = true := code_word (m := ⟨2, 11⟩) (meth := k2m11) (c := k2c11) (by decide +kernel) rfl rfl rfl (by decide +kernel)
set_option maxRecDepth 65536 in
theorem w_c36 : (Jvm.Cond.code ({ cls := "com/example/whereas/whereas/model/Origins$Builder", name := "literal", desc := "(II)V" } : Jvm.MethodName) prog_44_method_2_code (3 : Nat) (Option.none : Option Jvm.ClassFile.FieldType)).before args0 about1 = true := code_word (m := ⟨12, 1⟩) (meth := k12m1) (c := k12c1) (by decide +kernel) rfl rfl rfl (by decide +kernel)
set_option maxRecDepth 65536 in
theorem w_c37 : (Jvm.Cond.code ({ cls := "com/example/whereas/whereas/model/Origins$Builder", name := "add", desc := "(IIZ)V" } : Jvm.MethodName) prog_44_method_5_code (5 : Nat) (Option.none : Option Jvm.ClassFile.FieldType)).before args0 about1 = true := code_word (m := ⟨12, 3⟩) (meth := k12m3) (c := k12c3) (by decide +kernel) rfl rfl rfl (by decide +kernel)
set_option maxRecDepth 65536 in
theorem w_c38 : (Jvm.Cond.code ({ cls := "com/example/whereas/whereas/model/HtmlLayout", name := "space", desc := "(CIIZZ)V" } : Jvm.MethodName) prog_41_method_7_code (7 : Nat) (Option.none : Option Jvm.ClassFile.FieldType)).before args0 about1 = true := code_word (m := ⟨2, 4⟩) (meth := k2m4) (c := k2c4) (by decide +kernel) rfl rfl rfl (by decide +kernel)
set_option maxRecDepth 65536 in
theorem w_c39 : (Jvm.Cond.code ({ cls := "com/example/whereas/whereas/model/HtmlLayout", name := "append", desc := "(CIII)V" } : Jvm.MethodName) prog_41_method_15_code (6 : Nat) (Option.none : Option Jvm.ClassFile.FieldType)).before args0 about1 = true := code_word (m := ⟨2, 10⟩) (meth := k2m10) (c := k2c10) (by decide +kernel) rfl rfl rfl (by decide +kernel)
set_option maxRecDepth 65536 in
theorem w_c40 : (Jvm.Cond.code ({ cls := "com/example/whereas/whereas/model/Origins$Builder", name := "standFor", desc := "(III)V" } : Jvm.MethodName) prog_44_method_3_code (4 : Nat) (Option.none : Option Jvm.ClassFile.FieldType)).before args0 about1 = true := code_word (m := ⟨12, 2⟩) (meth := k12m2) (c := k12c2) (by decide +kernel) rfl rfl rfl (by decide +kernel)
set_option maxRecDepth 65536 in
theorem w_c41 : (Jvm.Cond.code ({ cls := "java/lang/String", name := "charAt", desc := "(I)C" } : Jvm.MethodName) jdk_42_method_56_code (2 : Nat) (Option.some Jvm.ClassFile.FieldType.char)).before args0 about1 = true := code_word (m := ⟨11, 3⟩) (meth := k11m3) (c := k11c3) (by decide +kernel) rfl rfl rfl (by decide +kernel)
set_option maxRecDepth 65536 in
theorem w_c42 : (Jvm.Cond.code ({ cls := "java/lang/String", name := "isLatin1", desc := "()Z" } : Jvm.MethodName) jdk_42_method_154_code (1 : Nat) (Option.some Jvm.ClassFile.FieldType.boolean)).before args0 about1 = true := code_word (m := ⟨11, 6⟩) (meth := k11m6) (c := k11c6) (by decide +kernel) rfl rfl rfl (by decide +kernel)
set_option maxRecDepth 65536 in
theorem w_c43 : (Jvm.Cond.code ({ cls := "java/lang/StringLatin1", name := "charAt", desc := "([BI)C" } : Jvm.MethodName) jdk_43_method_2_code (2 : Nat) (Option.some Jvm.ClassFile.FieldType.char)).before args0 about1 = true := code_word (m := ⟨16, 1⟩) (meth := k16m1) (c := k16c1) (by decide +kernel) rfl rfl rfl (by decide +kernel)
set_option maxRecDepth 65536 in
theorem w_c44 : (Jvm.Cond.code ({ cls := "java/lang/String", name := "checkIndex", desc := "(II)V" } : Jvm.MethodName) jdk_42_method_155_code (2 : Nat) (Option.none : Option Jvm.ClassFile.FieldType)).before args0 about1 = true := code_word (m := ⟨11, 7⟩) (meth := k11m7) (c := k11c7) (by decide +kernel) rfl rfl rfl (by decide +kernel)
set_option maxRecDepth 65536 in
theorem w_c45 : (Jvm.Cond.code ({ cls := "jdk/internal/util/Preconditions", name := "checkIndex", desc := "(IILjava/util/function/BiFunction;)I" } : Jvm.MethodName) jdk_41_method_11_code (3 : Nat) (Option.some Jvm.ClassFile.FieldType.int)).before args0 about1 = true := code_word (m := ⟨17, 1⟩) (meth := k17m1) (c := k17c1) (by decide +kernel) rfl rfl rfl (by decide +kernel)
set_option maxRecDepth 65536 in
theorem w_c46 : (Jvm.Cond.code ({ cls := "java/lang/StringBuilder", name := "charAt", desc := "(I)C" } : Jvm.MethodName) jdk_67_method_88_code (2 : Nat) (Option.some Jvm.ClassFile.FieldType.char)).before args0 about1 = true := code_word (m := ⟨8, 3⟩) (meth := k8m3) (c := k8c3) (by decide +kernel) rfl rfl rfl (by decide +kernel)
set_option maxRecDepth 65536 in
theorem w_c47 : (Jvm.Cond.code ({ cls := "java/lang/AbstractStringBuilder", name := "charAt", desc := "(I)C" } : Jvm.MethodName) jdk_68_method_14_code (5 : Nat) (Option.some Jvm.ClassFile.FieldType.char)).before args0 about1 = true := code_word (m := ⟨5, 5⟩) (meth := k5m5) (c := k5c5) (by decide +kernel) rfl rfl rfl (by decide +kernel)
def codes1 : List Jvm.Cond := [Jvm.Cond.code x code maxLocals ret, Jvm.Cond.code ({ cls := "com/example/whereas/whereas/model/HtmlLayout", name := "<init>", desc := "()V" } : Jvm.MethodName) prog_41_method_1_code (1 : Nat) (Option.none : Option Jvm.ClassFile.FieldType), Jvm.Cond.code ({ cls := "java/lang/Object", name := "<init>", desc := "()V" } : Jvm.MethodName) object_method_1_code (1 : Nat) (Option.none : Option Jvm.ClassFile.FieldType), Jvm.Cond.code ({ cls := "java/lang/StringBuilder", name := "<init>", desc := "()V" } : Jvm.MethodName) jdk_67_method_1_code (1 : Nat) (Option.none : Option Jvm.ClassFile.FieldType), Jvm.Cond.code ({ cls := "java/lang/AbstractStringBuilder", name := "<init>", desc := "(I)V" } : Jvm.MethodName) jdk_68_method_2_code (2 : Nat) (Option.none : Option Jvm.ClassFile.FieldType), Jvm.Cond.code ({ cls := "com/example/whereas/whereas/model/Origins$Builder", name := "<init>", desc := "()V" } : Jvm.MethodName) prog_44_method_1_code (1 : Nat) (Option.none : Option Jvm.ClassFile.FieldType), Jvm.Cond.code ({ cls := "com/example/whereas/whereas/model/HtmlLayout", name := "startRow", desc := "()V" } : Jvm.MethodName) prog_41_method_10_code (1 : Nat) (Option.none : Option Jvm.ClassFile.FieldType), Jvm.Cond.code ({ cls := "com/example/whereas/whereas/model/HtmlLayout", name := "paragraphBreak", desc := "()V" } : Jvm.MethodName) prog_41_method_9_code (1 : Nat) (Option.none : Option Jvm.ClassFile.FieldType), Jvm.Cond.code ({ cls := "java/lang/StringBuilder", name := "length", desc := "()I" } : Jvm.MethodName) jdk_67_method_93_code (1 : Nat) (Option.some Jvm.ClassFile.FieldType.int), Jvm.Cond.code ({ cls := "java/lang/AbstractStringBuilder", name := "length", desc := "()I" } : Jvm.MethodName) jdk_68_method_6_code (1 : Nat) (Option.some Jvm.ClassFile.FieldType.int), Jvm.Cond.code ({ cls := "com/example/whereas/whereas/model/HtmlLayout", name := "clearPending", desc := "()V" } : Jvm.MethodName) prog_41_method_17_code (1 : Nat) (Option.none : Option Jvm.ClassFile.FieldType), Jvm.Cond.code ({ cls := "java/lang/StringBuilder", name := "setLength", desc := "(I)V" } : Jvm.MethodName) jdk_67_method_89_code (2 : Nat) (Option.none : Option Jvm.ClassFile.FieldType), Jvm.Cond.code ({ cls := "java/lang/AbstractStringBuilder", name := "setLength", desc := "(I)V" } : Jvm.MethodName) jdk_68_method_13_code (2 : Nat) (Option.none : Option Jvm.ClassFile.FieldType), Jvm.Cond.code ({ cls := "java/lang/AbstractStringBuilder", name := "ensureCapacityInternal", desc := "(I)V" } : Jvm.MethodName) jdk_68_method_9_code (3 : Nat) (Option.none : Option Jvm.ClassFile.FieldType), Jvm.Cond.code ({ cls := "com/example/whereas/whereas/model/HtmlLayout", name := "startCell", desc := "()V" } : Jvm.MethodName) prog_41_method_11_code (1 : Nat) (Option.none : Option Jvm.ClassFile.FieldType), Jvm.Cond.code ({ cls := "com/example/whereas/whereas/model/HtmlLayout", name := "endRow", desc := "(I)V" } : Jvm.MethodName) prog_41_method_12_code (2 : Nat) (Option.none : Option Jvm.ClassFile.FieldType), Jvm.Cond.code ({ cls := "com/example/whereas/whereas/model/HtmlLayout", name := "finish", desc := "(I)Ljava/lang/String;" } : Jvm.MethodName) prog_41_method_13_code (2 : Nat) (Option.some (Jvm.ClassFile.FieldType.object "java/lang/String")), Jvm.Cond.code ({ cls := "java/lang/StringBuilder", name := "toString", desc := "()Ljava/lang/String;" } : Jvm.MethodName) jdk_67_method_42_code (1 : Nat) (Option.some (Jvm.ClassFile.FieldType.object "java/lang/String")), Jvm.Cond.code ({ cls := "java/lang/String", name := "<init>", desc := "(Ljava/lang/StringBuilder;)V" } : Jvm.MethodName) jdk_42_method_53_code (2 : Nat) (Option.none : Option Jvm.ClassFile.FieldType), Jvm.Cond.code ({ cls := "java/lang/String", name := "<init>", desc := "(Ljava/lang/AbstractStringBuilder;Ljava/lang/Void;)V" } : Jvm.MethodName) jdk_42_method_150_code (5 : Nat) (Option.none : Option Jvm.ClassFile.FieldType), Jvm.Cond.code ({ cls := "java/lang/AbstractStringBuilder", name := "getValue", desc := "()[B" } : Jvm.MethodName) jdk_68_method_64_code (1 : Nat) (Option.some (Jvm.ClassFile.FieldType.array Jvm.ClassFile.FieldType.byte)), Jvm.Cond.code ({ cls := "java/lang/AbstractStringBuilder", name := "isLatin1", desc := "()Z" } : Jvm.MethodName) jdk_68_method_68_code (1 : Nat) (Option.some Jvm.ClassFile.FieldType.boolean), Jvm.Cond.code ({ cls := "java/util/Arrays", name := "copyOfRange", desc := "([BII)[B" } : Jvm.MethodName) jdk_65_method_132_code (3 : Nat) (Option.some (Jvm.ClassFile.FieldType.array Jvm.ClassFile.FieldType.byte)), Jvm.Cond.code ({ cls := "java/util/Arrays", name := "copyOfRangeByte", desc := "([BII)[B" } : Jvm.MethodName) jdk_65_method_133_code (5 : Nat) (Option.some (Jvm.ClassFile.FieldType.array Jvm.ClassFile.FieldType.byte)), Jvm.Cond.code ({ cls := "java/util/Arrays", name := "checkLength", desc := "(II)V" } : Jvm.MethodName) jdk_65_method_131_code (2 : Nat) (Option.none : Option Jvm.ClassFile.FieldType), Jvm.Cond.code ({ cls := "java/lang/Math", name := "min", desc := "(II)I" } : Jvm.MethodName) jdk_29_method_69_code (2 : Nat) (Option.some Jvm.ClassFile.FieldType.int), Jvm.Cond.code ({ cls := "java/lang/String", name := "length", desc := "()I" } : Jvm.MethodName) jdk_42_method_54_code (1 : Nat) (Option.some Jvm.ClassFile.FieldType.int), Jvm.Cond.code ({ cls := "java/lang/String", name := "coder", desc := "()B" } : Jvm.MethodName) jdk_42_method_152_code (1 : Nat) (Option.some Jvm.ClassFile.FieldType.byte), Jvm.Cond.code ({ cls := "com/example/whereas/whereas/model/HtmlLayoutStartCellPinLaw", name := "at", desc := "(Ljava/lang/String;[CII)Z" } : Jvm.MethodName) method_3_code (4 : Nat) (Option.some Jvm.ClassFile.FieldType.boolean), Jvm.Cond.code ({ cls := "com/example/whereas/whereas/model/HtmlLayout", name := "show", desc := "(CII)V" } : Jvm.MethodName) prog_41_method_2_code (4 : Nat) (Option.none : Option Jvm.ClassFile.FieldType), Jvm.Cond.code ({ cls := "com/example/whereas/whereas/model/HtmlLayout", name := "layOutBefore", desc := "(I)V" } : Jvm.MethodName) prog_41_method_5_code (4 : Nat) (Option.none : Option Jvm.ClassFile.FieldType), Jvm.Cond.code ({ cls := "java/lang/StringBuilder", name := "append", desc := "(C)Ljava/lang/StringBuilder;" } : Jvm.MethodName) jdk_67_method_14_code (2 : Nat) (Option.some (Jvm.ClassFile.FieldType.object "java/lang/StringBuilder")), Jvm.Cond.code ({ cls := "java/lang/AbstractStringBuilder", name := "append", desc := "(C)Ljava/lang/AbstractStringBuilder;" } : Jvm.MethodName) jdk_68_method_31_code (2 : Nat) (Option.some (Jvm.ClassFile.FieldType.object "java/lang/AbstractStringBuilder")), Jvm.Cond.code ({ cls := "java/lang/StringLatin1", name := "canEncode", desc := "(C)Z" } : Jvm.MethodName) jdk_43_method_3_code (1 : Nat) (Option.some Jvm.ClassFile.FieldType.boolean), Jvm.Cond.code ({ cls := "com/example/whereas/whereas/model/HtmlLayout", name := "shown", desc := "(III)V" } : Jvm.MethodName) prog_41_method_6_code (4 : Nat) (Option.none : Option Jvm.ClassFile.FieldType), Jvm.Cond.code ({ cls := "com/example/whereas/whereas/model/HtmlLayout", name := "add", desc := "(III)V" } : Jvm.MethodName) prog_41_method_16_code (4 : Nat) (Option.none : Option Jvm.ClassFile.FieldType), Jvm.Cond.code ({ cls := "com/example/whereas/whereas/model/Origins$Builder", name := "literal", desc := "(II)V" } : Jvm.MethodName) prog_44_method_2_code (3 : Nat) (Option.none : Option Jvm.ClassFile.FieldType), Jvm.Cond.code ({ cls := "com/example/whereas/whereas/model/Origins$Builder", name := "add", desc := "(IIZ)V" } : Jvm.MethodName) prog_44_method_5_code (5 : Nat) (Option.none : Option Jvm.ClassFile.FieldType), Jvm.Cond.code ({ cls := "com/example/whereas/whereas/model/HtmlLayout", name := "space", desc := "(CIIZZ)V" } : Jvm.MethodName) prog_41_method_7_code (7 : Nat) (Option.none : Option Jvm.ClassFile.FieldType), Jvm.Cond.code ({ cls := "com/example/whereas/whereas/model/HtmlLayout", name := "append", desc := "(CIII)V" } : Jvm.MethodName) prog_41_method_15_code (6 : Nat) (Option.none : Option Jvm.ClassFile.FieldType), Jvm.Cond.code ({ cls := "com/example/whereas/whereas/model/Origins$Builder", name := "standFor", desc := "(III)V" } : Jvm.MethodName) prog_44_method_3_code (4 : Nat) (Option.none : Option Jvm.ClassFile.FieldType), Jvm.Cond.code ({ cls := "java/lang/String", name := "charAt", desc := "(I)C" } : Jvm.MethodName) jdk_42_method_56_code (2 : Nat) (Option.some Jvm.ClassFile.FieldType.char), Jvm.Cond.code ({ cls := "java/lang/String", name := "isLatin1", desc := "()Z" } : Jvm.MethodName) jdk_42_method_154_code (1 : Nat) (Option.some Jvm.ClassFile.FieldType.boolean), Jvm.Cond.code ({ cls := "java/lang/StringLatin1", name := "charAt", desc := "([BI)C" } : Jvm.MethodName) jdk_43_method_2_code (2 : Nat) (Option.some Jvm.ClassFile.FieldType.char), Jvm.Cond.code ({ cls := "java/lang/String", name := "checkIndex", desc := "(II)V" } : Jvm.MethodName) jdk_42_method_155_code (2 : Nat) (Option.none : Option Jvm.ClassFile.FieldType), Jvm.Cond.code ({ cls := "jdk/internal/util/Preconditions", name := "checkIndex", desc := "(IILjava/util/function/BiFunction;)I" } : Jvm.MethodName) jdk_41_method_11_code (3 : Nat) (Option.some Jvm.ClassFile.FieldType.int), Jvm.Cond.code ({ cls := "java/lang/StringBuilder", name := "charAt", desc := "(I)C" } : Jvm.MethodName) jdk_67_method_88_code (2 : Nat) (Option.some Jvm.ClassFile.FieldType.char), Jvm.Cond.code ({ cls := "java/lang/AbstractStringBuilder", name := "charAt", desc := "(I)C" } : Jvm.MethodName) jdk_68_method_14_code (5 : Nat) (Option.some Jvm.ClassFile.FieldType.char)]
set_option maxRecDepth 65536 in
theorem codes_eq : words1.filter isCode = codes1 := rfl
theorem w_codes : ∀ c ∈ words1.filter isCode, c.before args0 about1 = true := by
  rw [codes_eq]
  intro c hc
  simp only [codes1, List.mem_cons, List.not_mem_nil, or_false] at hc
  rcases hc with rfl | rfl | rfl | rfl | rfl | rfl | rfl | rfl | rfl | rfl | rfl | rfl | rfl | rfl | rfl | rfl | rfl | rfl | rfl | rfl | rfl | rfl | rfl | rfl | rfl | rfl | rfl | rfl | rfl | rfl | rfl | rfl | rfl | rfl | rfl | rfl | rfl | rfl | rfl | rfl | rfl | rfl | rfl | rfl | rfl | rfl | rfl | rfl
  · exact w_c0
  · exact w_c1
  · exact w_c2
  · exact w_c3
  · exact w_c4
  · exact w_c5
  · exact w_c6
  · exact w_c7
  · exact w_c8
  · exact w_c9
  · exact w_c10
  · exact w_c11
  · exact w_c12
  · exact w_c13
  · exact w_c14
  · exact w_c15
  · exact w_c16
  · exact w_c17
  · exact w_c18
  · exact w_c19
  · exact w_c20
  · exact w_c21
  · exact w_c22
  · exact w_c23
  · exact w_c24
  · exact w_c25
  · exact w_c26
  · exact w_c27
  · exact w_c28
  · exact w_c29
  · exact w_c30
  · exact w_c31
  · exact w_c32
  · exact w_c33
  · exact w_c34
  · exact w_c35
  · exact w_c36
  · exact w_c37
  · exact w_c38
  · exact w_c39
  · exact w_c40
  · exact w_c41
  · exact w_c42
  · exact w_c43
  · exact w_c44
  · exact w_c45
  · exact w_c46
  · exact w_c47
set_option maxRecDepth 65536 in
theorem w_t1 : (words1.take 24).all (fun c => isCode c || c.before args0 about1) = true := by decide +kernel
set_option maxRecDepth 65536 in
theorem w_t2 : ((words1.drop 24).take 24).all (fun c => isCode c || c.before args0 about1) = true := by decide +kernel
set_option maxRecDepth 65536 in
theorem w_t3 : (((words1.drop 24).drop 24).take 24).all (fun c => isCode c || c.before args0 about1) = true := by decide +kernel
set_option maxRecDepth 65536 in
theorem w_t4 : ((((words1.drop 24).drop 24).drop 24).take 24).all (fun c => isCode c || c.before args0 about1) = true := by decide +kernel
set_option maxRecDepth 65536 in
theorem w_t5 : (((((words1.drop 24).drop 24).drop 24).drop 24).take 24).all (fun c => isCode c || c.before args0 about1) = true := by decide +kernel
set_option maxRecDepth 65536 in
theorem w_t6 : ((((((words1.drop 24).drop 24).drop 24).drop 24).drop 24).take 24).all (fun c => isCode c || c.before args0 about1) = true := by decide +kernel
set_option maxRecDepth 65536 in
theorem w_t7 : (((((((words1.drop 24).drop 24).drop 24).drop 24).drop 24).drop 24).take 24).all (fun c => isCode c || c.before args0 about1) = true := by decide +kernel
set_option maxRecDepth 65536 in
theorem w_t8 : ((((((((words1.drop 24).drop 24).drop 24).drop 24).drop 24).drop 24).drop 24).take 24).all (fun c => isCode c || c.before args0 about1) = true := by decide +kernel
set_option maxRecDepth 65536 in
theorem w_t9 : (((((((((words1.drop 24).drop 24).drop 24).drop 24).drop 24).drop 24).drop 24).drop 24).take 24).all (fun c => isCode c || c.before args0 about1) = true := by decide +kernel
set_option maxRecDepth 65536 in
theorem w_t10 : ((((((((((words1.drop 24).drop 24).drop 24).drop 24).drop 24).drop 24).drop 24).drop 24).drop 24).take 24).all (fun c => isCode c || c.before args0 about1) = true := by decide +kernel
set_option maxRecDepth 65536 in
theorem w_t11 : (((((((((((words1.drop 24).drop 24).drop 24).drop 24).drop 24).drop 24).drop 24).drop 24).drop 24).drop 24).take 24).all (fun c => isCode c || c.before args0 about1) = true := by decide +kernel
set_option maxRecDepth 65536 in
theorem w_t12 : (((((((((((words1.drop 24).drop 24).drop 24).drop 24).drop 24).drop 24).drop 24).drop 24).drop 24).drop 24).drop 24).all (fun c => isCode c || c.before args0 about1) = true := by decide +kernel
theorem w_tables : (allAtoms (Jvm.Cond.code x code maxLocals ret :: tables_1)).before args0 about1 = true := by
  rw [allAtoms_all]
  show words1.all (fun c => c.before args0 about1) = true
  refine all_split ?_ w_codes
  rw [← List.take_append_drop 24 words1, List.all_append, w_t1, ← List.take_append_drop 24 (words1.drop 24), List.all_append, w_t2, ← List.take_append_drop 24 ((words1.drop 24).drop 24), List.all_append, w_t3, ← List.take_append_drop 24 (((words1.drop 24).drop 24).drop 24), List.all_append, w_t4, ← List.take_append_drop 24 ((((words1.drop 24).drop 24).drop 24).drop 24), List.all_append, w_t5, ← List.take_append_drop 24 (((((words1.drop 24).drop 24).drop 24).drop 24).drop 24), List.all_append, w_t6, ← List.take_append_drop 24 ((((((words1.drop 24).drop 24).drop 24).drop 24).drop 24).drop 24), List.all_append, w_t7, ← List.take_append_drop 24 (((((((words1.drop 24).drop 24).drop 24).drop 24).drop 24).drop 24).drop 24), List.all_append, w_t8, ← List.take_append_drop 24 ((((((((words1.drop 24).drop 24).drop 24).drop 24).drop 24).drop 24).drop 24).drop 24), List.all_append, w_t9, ← List.take_append_drop 24 (((((((((words1.drop 24).drop 24).drop 24).drop 24).drop 24).drop 24).drop 24).drop 24).drop 24), List.all_append, w_t10, ← List.take_append_drop 24 ((((((((((words1.drop 24).drop 24).drop 24).drop 24).drop 24).drop 24).drop 24).drop 24).drop 24).drop 24), List.all_append, w_t11, w_t12]
  rfl
set_option maxRecDepth 65536 in
theorem w_rest : rest_1_c.before args0 about1 = true := by decide +kernel
set_option maxRecDepth 65536 in
theorem w_case : (Jvm.Cond.and given_1 narrow_1).before args0 about1 = true := by decide +kernel
theorem w_applies : (headSpec (Jvm.Cond.code x code maxLocals ret :: tables_1) room_1).applies x e0.platform about1 = true :=
  (Spec.applies_iff w_frames).mpr ⟨w_running, w_runnable, w_alone, w_named, w_hears, w_ripe, w_room, w_tables⟩
theorem atStart : AtStart classFile x code maxLocals ret World_1 tables_1 room_1 Calls_1 rest_1 Pre_1 launch0 p0 e0 about1 theMethod args0 below0 :=
  ⟨lists_1, trivial, launch0.admits_env _ _ _, launch0.least_env, fairChoices_fair.cas, fairChoices_fair.clock, w_frames, w_args, w_heap, w_applies, trivial, w_rest, w_case⟩
end start1
theorem witness_1 : WitnessClaimed_1 := ⟨start1.p0, start1.e0, start1.about1, start1.theMethod, start1.args0, start1.below0, start1.atStart⟩
end Jvm.Pilot.@@N@@
