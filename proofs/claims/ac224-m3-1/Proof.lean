import JvmDerived
import JvmDerived.Pilot.@@N@@Statement
import JvmDerived.Pilot.@@N@@Code
set_option linter.unusedVariables false
set_option linter.unusedSimpArgs false
@@BLOCK:NumsL.lean.txt@@
namespace Jvm.RoadKit
open Sem ClassFile Op Lib Jvm.Stand Jvm.Free Jvm.LawKit
section New
variable {p : Program} {l : Launch} {e : Env} {R : Room} {s : State} {m : MethodId} {args : Array Value} {below : List Frame} {meth : Method} {c : Code} {T : State} {locs : List Loc} {cells slots : Nat}
theorem retI (X : Stand p l e R s m args below meth c T locs cells slots) (hx : p.tables.exec = Jvm.exec) {pc : Nat} {Ls : Array Slot} {z : Int32} {rest : List Value} (hret : meth.sig.returnType = some .int) (hd : decode c.code pc = .ok (.ireturn, 1)) {fs : List Frame}
    (hl : ∀ (f : JFrame) (acts : List Action), f.method = m → f.locked = none → f.entered = [] → (doReturn e (T.setTop f) acts (some (.int z))).1 = T.setFrames fs) : Steps p.tables e below (T.setTop (mkF m pc Ls (.int z :: rest))) (T.setFrames fs) := by
  have hm' : T.vm.method? m = some meth := X.method'
  have hn : narrow .int (.int z) = .int z := rfl
  show Steps p.tables e below (T.setTop { method := m, pc := pc, locals := Ls, stack := _ :: rest, locked := none }) _
  jvm_step X.here [X.here.top, hx, hd, hm', hret, hn]
  first | (intro acts; rw [hl _ acts rfl rfl rfl]) | rw [hl _ _ rfl rfl rfl]
  exact Steps.refl _
end New
end Jvm.RoadKit
namespace Jvm.Pilot.@@N@@
open Jvm Jvm.ClassFile Sem Op Lib Jvm.Free Jvm.Stand Jvm.LawKit Jvm.RoadKit Bundle Jvm.Pilot.@@N@@.Jvm.D
theorem own_fi {args : Array Value} {s : State} {t : Term} {C n d : String} {k : Int32} {x : Addr} (ht : t.eval args s none [] s = some (.ref x)) (h : (Jvm.Cond.eq (Term.field t C n d) (Term.int k)).value args s none s [] = some true) : Fld s s.heap x C n d (.int k) := by
  obtain ⟨a, b, ha, hb, hk, -⟩ := cmp_v (Or.inl h)
  have hb' : b = .int k := Option.some.inj (hb.symm.trans rfl)
  subst hb'
  cases a <;> simp [Kin, Value.isRef] at hk
  rename_i z
  have hz : z = k := by simpa [Jvm.Cond.value, ha, hb] using h
  subst hz
  exact Fld.start ((fld_at ht).symm.trans ha)
theorem own_fn {args : Array Value} {s : State} {t : Term} {C n d : String} {x : Addr} (ht : t.eval args s none [] s = some (.ref x)) (h : (Jvm.Cond.eq (Term.field t C n d) Term.null).value args s none s [] = some true) : Fld s s.heap x C n d .null := Fld.start ((fld_at ht).symm.trans (null_v h))
theorem own_fx {args : Array Value} {s : State} {t : Term} {C n d K : String} {x : Addr} (ht : t.eval args s none [] s = some (.ref x)) (h : (Jvm.Cond.exactly (Term.field t C n d) K).value args s none s [] = some true) : ∃ y, (Term.field t C n d).eval args s none [] s = some (.ref y) ∧ Fld s s.heap x C n d (.ref y) ∧ Exa s s.heap y K := by
  obtain ⟨y, hy⟩ := exa_v h
  exact ⟨y, hy, Fld.start ((fld_at ht).symm.trans hy), Exa.start hy h⟩
theorem own_sx {args : Array Value} {s : State} {C n d K : String} (hi : (Jvm.Cond.initialized C).before args s = true) (hl : (Jvm.Cond.laysStatic C n d).before args s = true) (h : (Jvm.Cond.exactly (Term.static C n d) K).value args s none s [] = some true) : ∃ x, (Term.static C n d).eval args s none [] s = some (.ref x) ∧ Sta s s.heap C n d (.ref x) ∧ Exa s s.heap x K := by
  obtain ⟨y, hy⟩ := exa_v h
  exact ⟨y, hy, Sta.start hy (Or.inr ⟨hi, hl⟩), Exa.start hy h⟩
theorem own_and31 (x : Int32) : (x &&& 2147483647).toInt = x.toInt % 2 ^ 31 := Jvm.Kit.i32_mask x 2147483647 (k := 31) (by decide) (by decide)
theorem own_pos31 (x : Int32) : 0 ≤ (x &&& 2147483647).toInt := by rw [own_and31]; omega
theorem own_rem (x m : Int32) (hm : 0 < m.toInt) : 0 ≤ ((x &&& 2147483647) % m).toInt ∧ ((x &&& 2147483647) % m).toInt < m.toInt := by
  have h1 := own_pos31 x
  rw [Int32.toInt_mod]
  have h2 : ((x &&& 2147483647).toInt).tmod m.toInt = (x &&& 2147483647).toInt % m.toInt := Int.tmod_eq_emod_of_nonneg h1
  have h3 := Int.emod_nonneg (x &&& 2147483647).toInt (show m.toInt ≠ 0 by omega)
  have h4 := Int.emod_lt_of_pos (x &&& 2147483647).toInt hm
  omega
theorem own_selp {s : State} {args : Array Value} {y : MethodName} {n : Nat} (hy : y.cls ≠ "java/lang/invoke/MethodHandle" ∧ y.cls ≠ "java/lang/invoke/VarHandle") (hins : (Jvm.Cond.instantiable y.cls n).before args s = true) (hpriv : (Jvm.Cond.privateMethod y).before args s = true) (hinst : (Jvm.Cond.instanceMethod y).before args s = true) : (Jvm.Cond.selects y.cls y y).before args s = true := by
  obtain ⟨c, k, hc, hk, -, hniab, -, -⟩ := Cond.instantiable_spec hins
  have hni : k.isInterface = false := (Bool.or_eq_false_iff.mp hniab).1
  obtain ⟨mk, methM, hnamed, hmethM, -, -⟩ := Cond.instanceMethod_spec hinst
  have hfound : s.methodFound? y.cls y.name y.desc = some mk := State.methodFound?_of_named hnamed hy
  have hcls : mk.cls = c := Option.some.inj ((findClass_of_methodNamed hnamed).symm.trans hc)
  have hsel : selectMethod {} s.vm c mk = .method mk := selectMethod_private hmethM (Cond.privateMethod_at hpriv mk methM hnamed hmethM)
  simp only [Cond.before, Cond.holds, Cond.value, hc, hfound, hnamed, hsel, hcls, hk]
  simp; exact hni
theorem own_hp {T : State} {h : Heap} {a : Addr} {c : Cell} (e : T.heap = h) (q : h[a]? = some c) : T.heap[a]? = some c := e ▸ q
theorem own_of_toInt {x : Int32} {n : Int} (h : x.toInt = n) : x = Int32.ofInt n := by rw [← h, Int32.ofInt_toInt]
theorem own_sa : ∀ d ∈ Bundle.stringAtoms, d ∈ tables_1 := by
  intro d hd
  simp only [Bundle.stringAtoms, List.mem_cons, List.not_mem_nil, or_false] at hd
  rcases hd with rfl | rfl | rfl | rfl | rfl | rfl | rfl <;> first | exact List.mem_of_getElem? (i := 3) rfl | exact List.mem_of_getElem? (i := 4) rfl | exact List.mem_of_getElem? (i := 20) rfl | exact List.mem_of_getElem? (i := 28) rfl | exact List.mem_of_getElem? (i := 30) rfl | exact List.mem_of_getElem? (i := 44) rfl | exact List.mem_of_getElem? (i := 45) rfl
theorem own_cs {args : Array Value} {s : State} (h0 : (Jvm.Cond.initializedFor "java/lang/String" "COMPACT_STRINGS" "Z").before args s = true) (h1 : (Jvm.Cond.isInt (Term.static "java/lang/String" "COMPACT_STRINGS" "Z")).before args s = true) (h2 : (Jvm.Cond.not (Jvm.Cond.eq (Term.static "java/lang/String" "COMPACT_STRINGS" "Z") (Term.int 0))).before args s = true) : ∃ cs : Int32, Sta s s.heap "java/lang/String" "COMPACT_STRINGS" "Z" (.int cs) ∧ ¬ cs = 0 := by
  obtain ⟨cs, e⟩ := is_v (Cond.before_iff.mp h1)
  have h3 := not_v (Cond.before_iff.mp h2)
  refine ⟨cs, Sta.start e (Or.inl h0), fun q => ?_⟩
  subst q
  have e2 : (Term.int 0).eval args s none [] s = some (.int 0) := rfl
  simp [Jvm.Cond.value, e, e2] at h3
theorem own_narO {C : String} {v : Value} (h : v.isRef = true) : narrow (.object C) v = v := by rcases ref_cases h with rfl | ⟨_, rfl⟩ <;> rfl
theorem own_fitO {C : String} {v : Value} (h : v.isRef = true) : fits (.object C) v = true := by rcases ref_cases h with rfl | ⟨_, rfl⟩ <;> rfl
def own_K (k : Int32) : Prop := k = 0 ∨ k = 1 ∨ k = 2 ∨ k = 3 ∨ k = 4 ∨ k = 5 ∨ k = 6
theorem own_K_of (x : Int32) : own_K ((x &&& 2147483647) % 7) := by
  obtain ⟨h1, h2⟩ := own_rem x 7 (by decide)
  have e11 : (7 : Int32).toInt = 7 := rfl
  rw [e11] at h2
  generalize hz : ((x &&& 2147483647) % 7) = z at *
  have : z.toInt = 0 ∨ z.toInt = 1 ∨ z.toInt = 2 ∨ z.toInt = 3 ∨ z.toInt = 4 ∨ z.toInt = 5 ∨ z.toInt = 6 := by omega
  unfold own_K
  rcases this with h | h | h | h | h | h | h <;> (have := own_of_toInt h; subst this; decide)
theorem own_cc (y : Int32) : ¬ (255 : Int32) < nar .char ((y &&& (255 : Int32)).toUInt32.toUInt16.toUInt32.toInt32) := by
  have h1 := i2c_mask y
  have h2 : nar .char ((y &&& (255 : Int32)).toUInt32.toUInt16.toUInt32.toInt32) = y &&& 255 := by
    rw [h1]; exact h1
  rw [h2, Int32.lt_iff_toInt_lt]
  have h3 := Jvm.Kit.i32_mask y 255 (k := 8) (by decide) (by decide)
  have h4 : (255 : Int32).toInt = 255 := rfl
  omega
theorem own_cd (y : Int32) : ¬ (255 : Int32) < ((y &&& (255 : Int32)).toUInt32.toUInt16.toUInt32.toInt32) := by
  rw [i2c_mask y, Int32.lt_iff_toInt_lt]
  have h3 := Jvm.Kit.i32_mask y 255 (k := 8) (by decide) (by decide)
  have h4 : (255 : Int32).toInt = 255 := rfl
  omega
theorem own_fin {k : Int32} {a : Addr} {q : Prop} [Decidable q] (hk : own_K k) (hq : ¬ k = 0 → (q ↔ 4 < k)) : (if (if k = 0 then Value.null else Value.ref a) = Value.null then (0 : Int32) else if q then 0 else 1) = (if k < 1 then 0 else if 4 < k then 0 else 1) := by
  unfold own_K at hk
  rcases hk with rfl | rfl | rfl | rfl | rfl | rfl | rfl
  · rfl
  all_goals
    have h := hq (by decide)
    simp [h]
    try decide
theorem d5_0 : decode jdk_52_method_21_code 0 = .ok (.iconst 0, 1) := by decide +kernel
theorem d5_1 : decode jdk_52_method_21_code 1 = .ok (.istore 5, 2) := by decide +kernel
theorem d5_3 : decode jdk_52_method_21_code 3 = .ok (.iload 5, 2) := by decide +kernel
theorem d5_5 : decode jdk_52_method_21_code 5 = .ok (.iload 4, 2) := by decide +kernel
theorem d5_7 : decode jdk_52_method_21_code 7 = .ok (.if_icmp .ge 37, 3) := by decide +kernel
theorem d5_10 : decode jdk_52_method_21_code 10 = .ok (.aload_n 0, 1) := by decide +kernel
theorem d5_11 : decode jdk_52_method_21_code 11 = .ok (.iload_n 1, 1) := by decide +kernel
theorem d5_12 : decode jdk_52_method_21_code 12 = .ok (.caload, 1) := by decide +kernel
theorem d5_13 : decode jdk_52_method_21_code 13 = .ok (.istore 6, 2) := by decide +kernel
theorem d5_15 : decode jdk_52_method_21_code 15 = .ok (.iload 6, 2) := by decide +kernel
theorem d5_17 : decode jdk_52_method_21_code 17 = .ok (.sipush 255, 3) := by decide +kernel
theorem d5_20 : decode jdk_52_method_21_code 20 = .ok (.if_icmp .le 6, 3) := by decide +kernel
theorem d5_23 : decode jdk_52_method_21_code 23 = .ok (.iload 5, 2) := by decide +kernel
theorem d5_25 : decode jdk_52_method_21_code 25 = .ok (.ireturn, 1) := by decide +kernel
theorem d5_26 : decode jdk_52_method_21_code 26 = .ok (.aload_n 2, 1) := by decide +kernel
theorem d5_27 : decode jdk_52_method_21_code 27 = .ok (.iload_n 3, 1) := by decide +kernel
theorem d5_28 : decode jdk_52_method_21_code 28 = .ok (.iload 6, 2) := by decide +kernel
theorem d5_30 : decode jdk_52_method_21_code 30 = .ok (.i2b, 1) := by decide +kernel
theorem d5_31 : decode jdk_52_method_21_code 31 = .ok (.bastore, 1) := by decide +kernel
theorem d5_32 : decode jdk_52_method_21_code 32 = .ok (.iinc 1 1, 3) := by decide +kernel
theorem d5_35 : decode jdk_52_method_21_code 35 = .ok (.iinc 3 1, 3) := by decide +kernel
theorem d5_38 : decode jdk_52_method_21_code 38 = .ok (.iinc 5 1, 3) := by decide +kernel
theorem d5_41 : decode jdk_52_method_21_code 41 = .ok (.goto (-38), 3) := by decide +kernel
theorem d5_44 : decode jdk_52_method_21_code 44 = .ok (.iload 4, 2) := by decide +kernel
theorem d5_46 : decode jdk_52_method_21_code 46 = .ok (.ireturn, 1) := by decide +kernel
theorem pn_0 : plainName "java/lang/StringUTF16" = true := by first | (simp [plainName, overriddenIn]; done) | decide +kernel
theorem ef_rmC5 (m : MethodId) (a1 : Addr) (a2 : Addr) : entryFrame m #[(.ref a1), (.int (0 : Int32)), (.ref a2), (.int (0 : Int32)), (.int (1 : Int32))] 7 = mkF m 0 #[.val (.ref a1), .val (.int (0 : Int32)), .val (.ref a2), .val (.int (0 : Int32)), .val (.int (1 : Int32)), .unset, .unset] [] := by first | (simp [entryFrame, mkF, argsToLocals, Value.category]; done) | rfl
def QC5 (Z : State) (a1 : Addr) (a2 : Addr) (k1 k2 : ClassId) (cc : Int32) (h0 : Heap) (n0 : Nat) (v : Option Value) (h : Heap) (L : List Loc) : Prop := v = some (.int 1) ∧ Fr n0 L ∧ Keep h0 h [a2] ∧ Arv Z h a2 k2 .byte 1 [(.int (nar .byte (cc.toInt8.toInt32)))] (.int (0 : Int32))
set_option maxRecDepth 65536 in
set_option maxHeartbeats 40000000 in
theorem rmC5 (l : Launch) (Z : State) (a0 : Array Value) (hw : ∀ d ∈ tables_1, d.before a0 Z = true) (ws : List Jvm.Cond) (a1 : Addr) (a2 : Addr) (k1 k2 : ClassId) (cc : Int32) (h0 : Heap) (n0 : Nat) (Z0 : n0 ≤ h0.size) (V1 : Arv Z h0 a1 k1 .char 1 [(.int cc)] (.int (0 : Int32))) (V2 : Arv Z h0 a2 k2 .byte 1 [(.int (0 : Int32))] (.int (0 : Int32))) (hc : ¬ (255 : Int32) < cc) (hne : a1 ≠ a2) (g2 : n0 ≤ a2) :
    MetFree l (⟨"java/lang/StringUTF16", "compress", "([CI[BII)I"⟩ : MethodName) (head1 (Jvm.Cond.code (⟨"java/lang/StringUTF16", "compress", "([CI[BII)I"⟩ : MethodName) jdk_52_method_21_code 7 (some .int) :: ws) ({ frames := 0, cells := 0, slots := 0, locals := 0 } : Room)) (fun a U => a = #[(.ref a1), (.int (0 : Int32)), (.ref a2), (.int (0 : Int32)), (.int (1 : Int32))] ∧ Z.Warmed39 U.vm ∧ U.heap = h0) (fun _ _ _ _ _ => True) (fun _ U o U' => ∃ v L, o = .returned v ∧ QC5 Z a1 a2 k1 k2 cc h0 n0 v U'.heap L ∧ FrameEnd U o U' L ({ frames := 0, cells := 0, slots := 0, locals := 0 } : Room).cells ({ frames := 0, cells := 0, slots := 0, locals := 0 } : Room).slots) := by
  refine MetFree.of_bodySF (plainFor_of_name pn_0) hisR ?_
  intro p e s m args below meth c s₁ Bd hml0 hP hK
  obtain ⟨rfl, hZ, hh⟩ := hP
  have hx := Bd.exec
  have hby := Bd.bytes
  have hml : c.maxLocals = 7 := hml0
  have hown : s.vm.findClass "java/lang/StringUTF16" = some m.cls := findClass_of_methodNamed Bd.named
  have hnm := (name_of_methodNamed Bd.named Bd.method).1
  have X0 : Stand p l e ({ frames := 0, cells := 0, slots := 0, locals := 0 } : Room) s m #[(.ref a1), (.int (0 : Int32)), (.ref a2), (.int (0 : Int32)), (.int (1 : Int32))] below meth c s₁ [] 0 0 := Stand.of_body Bd
  have e0 : s₁.heap = h0 := by rw [← hh, Bd.state]; rfl
  have N0 := Fr.nil n0
  have K0 := Keep.refl h0 [a2]
  have go0 : Goes p e below s₁ (entryFrame m #[(.ref a1), (.int (0 : Int32)), (.ref a2), (.int (0 : Int32)), (.int (1 : Int32))] 7) s₁ (mkF m 0 #[.val (.ref a1), .val (.int (0 : Int32)), .val (.ref a2), .val (.int (0 : Int32)), .val (.int (1 : Int32)), .unset, .unset] []) := fun t k => castTop (ef_rmC5 m a1 a2) k
  have go1 : Goes p e below s₁ (entryFrame m #[(.ref a1), (.int (0 : Int32)), (.ref a2), (.int (0 : Int32)), (.int (1 : Int32))] 7) s₁ (mkF m 7 #[.val (.ref a1), .val (.int (0 : Int32)), .val (.ref a2), .val (.int (0 : Int32)), .val (.int (1 : Int32)), .val (.int (0 : Int32)), .unset] [(.int (1 : Int32)), (.int (0 : Int32))]) := fun t k => by
    refine go0 t ?_
    refine XS.iconst X0.here hx rfl (hb hby d5_0) ?_
    show Steps p.tables e below (s₁.setTop (mkF m 1 #[.val (.ref a1), .val (.int (0 : Int32)), .val (.ref a2), .val (.int (0 : Int32)), .val (.int (1 : Int32)), .unset, .unset] [(.int (0 : Int32))])) _
    refine XS.istore X0.here hx rfl (hb hby d5_1) rfl (l' := #[.val (.ref a1), .val (.int (0 : Int32)), .val (.ref a2), .val (.int (0 : Int32)), .val (.int (1 : Int32)), .val (.int (0 : Int32)), .unset]) rfl ?_
    show Steps p.tables e below (s₁.setTop (mkF m 3 #[.val (.ref a1), .val (.int (0 : Int32)), .val (.ref a2), .val (.int (0 : Int32)), .val (.int (1 : Int32)), .val (.int (0 : Int32)), .unset] [])) _
    refine XS.iload X0.here hx rfl (hb hby d5_3) rfl ?_
    show Steps p.tables e below (s₁.setTop (mkF m 5 #[.val (.ref a1), .val (.int (0 : Int32)), .val (.ref a2), .val (.int (0 : Int32)), .val (.int (1 : Int32)), .val (.int (0 : Int32)), .unset] [(.int (0 : Int32))])) _
    refine XS.iload X0.here hx rfl (hb hby d5_5) rfl ?_
    show Steps p.tables e below (s₁.setTop (mkF m 7 #[.val (.ref a1), .val (.int (0 : Int32)), .val (.ref a2), .val (.int (0 : Int32)), .val (.int (1 : Int32)), .val (.int (0 : Int32)), .unset] [(.int (1 : Int32)), (.int (0 : Int32))])) _
    exact k
  have go2 : Goes p e below s₁ (entryFrame m #[(.ref a1), (.int (0 : Int32)), (.ref a2), (.int (0 : Int32)), (.int (1 : Int32))] 7) s₁ (mkF m 12 #[.val (.ref a1), .val (.int (0 : Int32)), .val (.ref a2), .val (.int (0 : Int32)), .val (.int (1 : Int32)), .val (.int (0 : Int32)), .unset] [(.int (0 : Int32)), (.ref a1)]) := fun t k => by
    refine go1 t ?_
    refine XS.icmpNo X0.here hx rfl (hb hby d5_7) rfl (Jvm.Free.XT.ii_ge_f (by decide)) ?_
    show Steps p.tables e below (s₁.setTop (mkF m 10 #[.val (.ref a1), .val (.int (0 : Int32)), .val (.ref a2), .val (.int (0 : Int32)), .val (.int (1 : Int32)), .val (.int (0 : Int32)), .unset] [])) _
    refine XS.aloadN X0.here hx rfl (hb hby d5_10) rfl rfl ?_
    show Steps p.tables e below (s₁.setTop (mkF m 11 #[.val (.ref a1), .val (.int (0 : Int32)), .val (.ref a2), .val (.int (0 : Int32)), .val (.int (1 : Int32)), .val (.int (0 : Int32)), .unset] [(.ref a1)])) _
    refine XS.iloadN X0.here hx rfl (hb hby d5_11) rfl ?_
    show Steps p.tables e below (s₁.setTop (mkF m 12 #[.val (.ref a1), .val (.int (0 : Int32)), .val (.ref a2), .val (.int (0 : Int32)), .val (.int (1 : Int32)), .val (.int (0 : Int32)), .unset] [(.int (0 : Int32)), (.ref a1)])) _
    exact k
  obtain ⟨cl3, Ar3, kq3, Sz3, Nn3, Hs3, Gf3⟩ := id (V1)
  have hin3 : ¬ ((0 : Int32) < 0 ∨ cl3.slots.size ≤ ((0 : Int32)).toNatClampNeg) := inb_of Sz3 ⟨by decide, by decide⟩
  have hat3 : cl3.slots[((0 : Int32)).toNatClampNeg]? = some (.int cc) := Has.at Hs3 hin3 rfl
  have go4 : Goes p e below s₁ (entryFrame m #[(.ref a1), (.int (0 : Int32)), (.ref a2), (.int (0 : Int32)), (.int (1 : Int32))] 7) s₁ (mkF m 20 #[.val (.ref a1), .val (.int (0 : Int32)), .val (.ref a2), .val (.int (0 : Int32)), .val (.int (1 : Int32)), .val (.int (0 : Int32)), .val (.int cc)] [(.int (255 : Int32)), (.int cc)]) := fun t k => by
    refine go2 t ?_
    refine X0.caload hx (j := (0 : Int32)) (v := (.int cc)) (own_hp e0 Ar3.1) (State.isArrayOf_alike hZ.alike Ar3.2.1) Ar3.2.2 hin3 hat3 (g := (mkF m 12 #[.val (.ref a1), .val (.int (0 : Int32)), .val (.ref a2), .val (.int (0 : Int32)), .val (.int (1 : Int32)), .val (.int (0 : Int32)), .unset] [(.int (0 : Int32)), (.ref a1)])) rfl rfl (hb hby d5_12) _ ?_
    show Steps p.tables e below (s₁.setTop (mkF m 13 #[.val (.ref a1), .val (.int (0 : Int32)), .val (.ref a2), .val (.int (0 : Int32)), .val (.int (1 : Int32)), .val (.int (0 : Int32)), .unset] [(.int cc)])) _
    refine XS.istore X0.here hx rfl (hb hby d5_13) rfl (l' := #[.val (.ref a1), .val (.int (0 : Int32)), .val (.ref a2), .val (.int (0 : Int32)), .val (.int (1 : Int32)), .val (.int (0 : Int32)), .val (.int cc)]) rfl ?_
    show Steps p.tables e below (s₁.setTop (mkF m 15 #[.val (.ref a1), .val (.int (0 : Int32)), .val (.ref a2), .val (.int (0 : Int32)), .val (.int (1 : Int32)), .val (.int (0 : Int32)), .val (.int cc)] [])) _
    refine XS.iload X0.here hx rfl (hb hby d5_15) rfl ?_
    show Steps p.tables e below (s₁.setTop (mkF m 17 #[.val (.ref a1), .val (.int (0 : Int32)), .val (.ref a2), .val (.int (0 : Int32)), .val (.int (1 : Int32)), .val (.int (0 : Int32)), .val (.int cc)] [(.int cc)])) _
    refine XS.sipush X0.here hx rfl (hb hby d5_17) ?_
    show Steps p.tables e below (s₁.setTop (mkF m 20 #[.val (.ref a1), .val (.int (0 : Int32)), .val (.ref a2), .val (.int (0 : Int32)), .val (.int (1 : Int32)), .val (.int (0 : Int32)), .val (.int cc)] [(.int (255 : Int32)), (.int cc)])) _
    exact k
  have go5 : Goes p e below s₁ (entryFrame m #[(.ref a1), (.int (0 : Int32)), (.ref a2), (.int (0 : Int32)), (.int (1 : Int32))] 7) s₁ (mkF m 31 #[.val (.ref a1), .val (.int (0 : Int32)), .val (.ref a2), .val (.int (0 : Int32)), .val (.int (1 : Int32)), .val (.int (0 : Int32)), .val (.int cc)] [(.int (cc.toInt8.toInt32)), (.int (0 : Int32)), (.ref a2)]) := fun t k => by
    refine go4 t ?_
    refine XS.icmpYes X0.here hx rfl (pc0 := 20) (pc' := 26) rfl (hb hby d5_20) rfl (Jvm.Free.XT.ii_le_t hc) (by decide) (by decide) ?_
    show Steps p.tables e below (s₁.setTop (mkF m 26 #[.val (.ref a1), .val (.int (0 : Int32)), .val (.ref a2), .val (.int (0 : Int32)), .val (.int (1 : Int32)), .val (.int (0 : Int32)), .val (.int cc)] [])) _
    refine XS.aloadN X0.here hx rfl (hb hby d5_26) rfl rfl ?_
    show Steps p.tables e below (s₁.setTop (mkF m 27 #[.val (.ref a1), .val (.int (0 : Int32)), .val (.ref a2), .val (.int (0 : Int32)), .val (.int (1 : Int32)), .val (.int (0 : Int32)), .val (.int cc)] [(.ref a2)])) _
    refine XS.iloadN X0.here hx rfl (hb hby d5_27) rfl ?_
    show Steps p.tables e below (s₁.setTop (mkF m 28 #[.val (.ref a1), .val (.int (0 : Int32)), .val (.ref a2), .val (.int (0 : Int32)), .val (.int (1 : Int32)), .val (.int (0 : Int32)), .val (.int cc)] [(.int (0 : Int32)), (.ref a2)])) _
    refine XS.iload X0.here hx rfl (hb hby d5_28) rfl ?_
    show Steps p.tables e below (s₁.setTop (mkF m 30 #[.val (.ref a1), .val (.int (0 : Int32)), .val (.ref a2), .val (.int (0 : Int32)), .val (.int (1 : Int32)), .val (.int (0 : Int32)), .val (.int cc)] [(.int cc), (.int (0 : Int32)), (.ref a2)])) _
    refine XS.i2b X0.here hx rfl (hb hby d5_30) rfl ?_
    show Steps p.tables e below (s₁.setTop (mkF m 31 #[.val (.ref a1), .val (.int (0 : Int32)), .val (.ref a2), .val (.int (0 : Int32)), .val (.int (1 : Int32)), .val (.int (0 : Int32)), .val (.int cc)] [(.int (cc.toInt8.toInt32)), (.int (0 : Int32)), (.ref a2)])) _
    exact k
  obtain ⟨cl6, Ar6, kq6, Sz6, Nn6, Hs6, Gf6⟩ := id (V2)
  have hin6 : ¬ ((0 : Int32) < 0 ∨ cl6.slots.size ≤ ((0 : Int32)).toNatClampNeg) := inb_of Sz6 ⟨by decide, by decide⟩
  obtain ⟨T7, h7, X7, e7, W7, st7⟩ := stB X0 hx hZ e0 Ar6 (j := (0 : Int32)) hin6 (g := (mkF m 31 #[.val (.ref a1), .val (.int (0 : Int32)), .val (.ref a2), .val (.int (0 : Int32)), .val (.int (1 : Int32)), .val (.int (0 : Int32)), .val (.int cc)] [(.int (cc.toInt8.toInt32)), (.int (0 : Int32)), (.ref a2)])) rfl rfl (hb hby d5_31)
  have V8 : Arv Z h7 a2 k2 .byte (1 : Int32) [(.int (nar .byte (cc.toInt8.toInt32)))] (.int (0 : Int32)) := Arv.set Ar6 kq6 Sz6 Nn6 Hs6 Gf6 (fits_nar_byte _) W7 0 rfl (Nat.le_of_ble_eq_true rfl)
  have f9 := V1.other W7 hne
  have Z10 := Nat.le_trans Z0 (Nat.le_of_eq W7.size.symm)
  have K11 := K0.wr W7 (Or.inl (List.mem_of_getElem? (i := 0) rfl))
  have N12 := Fr.snoc X7 N0 g2
  have go13 : Goes p e below s₁ (entryFrame m #[(.ref a1), (.int (0 : Int32)), (.ref a2), (.int (0 : Int32)), (.int (1 : Int32))] 7) T7 (mkF m 32 #[.val (.ref a1), .val (.int (0 : Int32)), .val (.ref a2), .val (.int (0 : Int32)), .val (.int (1 : Int32)), .val (.int (0 : Int32)), .val (.int cc)] []) := fun t k => go5 t (st7 t k)
  have go14 : Goes p e below s₁ (entryFrame m #[(.ref a1), (.int (0 : Int32)), (.ref a2), (.int (0 : Int32)), (.int (1 : Int32))] 7) T7 (mkF m 7 #[.val (.ref a1), .val (.int (1 : Int32)), .val (.ref a2), .val (.int (1 : Int32)), .val (.int (1 : Int32)), .val (.int (1 : Int32)), .val (.int cc)] [(.int (1 : Int32)), (.int (1 : Int32))]) := fun t k => by
    refine go13 t ?_
    refine XS.iinc X7.here hx rfl (hb hby d5_32) rfl (l' := #[.val (.ref a1), .val (.int (1 : Int32)), .val (.ref a2), .val (.int (0 : Int32)), .val (.int (1 : Int32)), .val (.int (0 : Int32)), .val (.int cc)]) rfl ?_
    show Steps p.tables e below (T7.setTop (mkF m 35 #[.val (.ref a1), .val (.int (1 : Int32)), .val (.ref a2), .val (.int (0 : Int32)), .val (.int (1 : Int32)), .val (.int (0 : Int32)), .val (.int cc)] [])) _
    refine XS.iinc X7.here hx rfl (hb hby d5_35) rfl (l' := #[.val (.ref a1), .val (.int (1 : Int32)), .val (.ref a2), .val (.int (1 : Int32)), .val (.int (1 : Int32)), .val (.int (0 : Int32)), .val (.int cc)]) rfl ?_
    show Steps p.tables e below (T7.setTop (mkF m 38 #[.val (.ref a1), .val (.int (1 : Int32)), .val (.ref a2), .val (.int (1 : Int32)), .val (.int (1 : Int32)), .val (.int (0 : Int32)), .val (.int cc)] [])) _
    refine XS.iinc X7.here hx rfl (hb hby d5_38) rfl (l' := #[.val (.ref a1), .val (.int (1 : Int32)), .val (.ref a2), .val (.int (1 : Int32)), .val (.int (1 : Int32)), .val (.int (1 : Int32)), .val (.int cc)]) rfl ?_
    show Steps p.tables e below (T7.setTop (mkF m 41 #[.val (.ref a1), .val (.int (1 : Int32)), .val (.ref a2), .val (.int (1 : Int32)), .val (.int (1 : Int32)), .val (.int (1 : Int32)), .val (.int cc)] [])) _
    refine XS.goto X7.here hx rfl (pc0 := 41) (pc' := 3) rfl (hb hby d5_41) (by decide) (by decide) ?_
    show Steps p.tables e below (T7.setTop (mkF m 3 #[.val (.ref a1), .val (.int (1 : Int32)), .val (.ref a2), .val (.int (1 : Int32)), .val (.int (1 : Int32)), .val (.int (1 : Int32)), .val (.int cc)] [])) _
    refine XS.iload X7.here hx rfl (hb hby d5_3) rfl ?_
    show Steps p.tables e below (T7.setTop (mkF m 5 #[.val (.ref a1), .val (.int (1 : Int32)), .val (.ref a2), .val (.int (1 : Int32)), .val (.int (1 : Int32)), .val (.int (1 : Int32)), .val (.int cc)] [(.int (1 : Int32))])) _
    refine XS.iload X7.here hx rfl (hb hby d5_5) rfl ?_
    show Steps p.tables e below (T7.setTop (mkF m 7 #[.val (.ref a1), .val (.int (1 : Int32)), .val (.ref a2), .val (.int (1 : Int32)), .val (.int (1 : Int32)), .val (.int (1 : Int32)), .val (.int cc)] [(.int (1 : Int32)), (.int (1 : Int32))])) _
    exact k
  have go15 : Goes p e below s₁ (entryFrame m #[(.ref a1), (.int (0 : Int32)), (.ref a2), (.int (0 : Int32)), (.int (1 : Int32))] 7) T7 (mkF m 46 #[.val (.ref a1), .val (.int (1 : Int32)), .val (.ref a2), .val (.int (1 : Int32)), .val (.int (1 : Int32)), .val (.int (1 : Int32)), .val (.int cc)] [(.int (1 : Int32))]) := fun t k => by
    refine go14 t ?_
    refine XS.icmpYes X7.here hx rfl (pc0 := 7) (pc' := 44) rfl (hb hby d5_7) rfl (Jvm.Free.XT.ii_ge_t (by decide)) (by decide) (by decide) ?_
    show Steps p.tables e below (T7.setTop (mkF m 44 #[.val (.ref a1), .val (.int (1 : Int32)), .val (.ref a2), .val (.int (1 : Int32)), .val (.int (1 : Int32)), .val (.int (1 : Int32)), .val (.int cc)] [])) _
    refine XS.iload X7.here hx rfl (hb hby d5_44) rfl ?_
    show Steps p.tables e below (T7.setTop (mkF m 46 #[.val (.ref a1), .val (.int (1 : Int32)), .val (.ref a2), .val (.int (1 : Int32)), .val (.int (1 : Int32)), .val (.int (1 : Int32)), .val (.int cc)] [(.int (1 : Int32))])) _
    exact k
  obtain ⟨fs, hr, hrun, hended, hW, hsame⟩ := X7.leave (v := some (.int (1 : Int32))) (fun h => by rw [Bd.returns] at h; cases h)
  refine ⟨_, _, go15 _ ?_, hrun, hended, _, _, rfl, ?_, ⟨_, rfl⟩, hW, hsame.mono (by decide) (by decide)⟩
  · exact retI X7 hx Bd.returns (hb hby d5_46) hr
  · show QC5 Z _ _ _ _ _ _ _ _ T7.heap _
    rw [e7]
    exact ⟨rfl, N12, K11, V8⟩
theorem pd_0 : parseMethodDescriptor "([CI[BII)I" = some ⟨[(.array .char), .int, (.array .byte), .int, .int], some .int⟩ := by decide +kernel
theorem d4_0 : decode jdk_52_method_16_code 0 = .ok (.iload_n 2, 1) := by decide +kernel
theorem d4_1 : decode jdk_52_method_16_code 1 = .ok (.newarray .byte, 2) := by decide +kernel
theorem d4_3 : decode jdk_52_method_16_code 3 = .ok (.astore_n 3, 1) := by decide +kernel
theorem d4_4 : decode jdk_52_method_16_code 4 = .ok (.aload_n 0, 1) := by decide +kernel
theorem d4_5 : decode jdk_52_method_16_code 5 = .ok (.iload_n 1, 1) := by decide +kernel
theorem d4_6 : decode jdk_52_method_16_code 6 = .ok (.aload_n 3, 1) := by decide +kernel
theorem d4_7 : decode jdk_52_method_16_code 7 = .ok (.iconst 0, 1) := by decide +kernel
theorem d4_8 : decode jdk_52_method_16_code 8 = .ok (.iload_n 2, 1) := by decide +kernel
theorem d4_9 : decode jdk_52_method_16_code 9 = .ok (.invokestatic 115, 3) := by decide +kernel
theorem d4_12 : decode jdk_52_method_16_code 12 = .ok (.istore 4, 2) := by decide +kernel
theorem d4_14 : decode jdk_52_method_16_code 14 = .ok (.iload 4, 2) := by decide +kernel
theorem d4_16 : decode jdk_52_method_16_code 16 = .ok (.iload_n 2, 1) := by decide +kernel
theorem d4_17 : decode jdk_52_method_16_code 17 = .ok (.if_icmp .eq 40, 3) := by decide +kernel
theorem d4_20 : decode jdk_52_method_16_code 20 = .ok (.aload_n 0, 1) := by decide +kernel
theorem d4_21 : decode jdk_52_method_16_code 21 = .ok (.iload_n 1, 1) := by decide +kernel
theorem d4_22 : decode jdk_52_method_16_code 22 = .ok (.iload_n 2, 1) := by decide +kernel
theorem d4_23 : decode jdk_52_method_16_code 23 = .ok (.invokestatic 119, 3) := by decide +kernel
theorem d4_26 : decode jdk_52_method_16_code 26 = .ok (.astore 5, 2) := by decide +kernel
theorem d4_28 : decode jdk_52_method_16_code 28 = .ok (.aload 5, 2) := by decide +kernel
theorem d4_30 : decode jdk_52_method_16_code 30 = .ok (.iload 4, 2) := by decide +kernel
theorem d4_32 : decode jdk_52_method_16_code 32 = .ok (.invokestatic 71, 3) := by decide +kernel
theorem d4_35 : decode jdk_52_method_16_code 35 = .ok (.sipush 255, 3) := by decide +kernel
theorem d4_38 : decode jdk_52_method_16_code 38 = .ok (.if_icmp .gt 16, 3) := by decide +kernel
theorem d4_41 : decode jdk_52_method_16_code 41 = .ok (.aload 5, 2) := by decide +kernel
theorem d4_43 : decode jdk_52_method_16_code 43 = .ok (.iconst 0, 1) := by decide +kernel
theorem d4_44 : decode jdk_52_method_16_code 44 = .ok (.aload_n 3, 1) := by decide +kernel
theorem d4_45 : decode jdk_52_method_16_code 45 = .ok (.iconst 0, 1) := by decide +kernel
theorem d4_46 : decode jdk_52_method_16_code 46 = .ok (.iload_n 2, 1) := by decide +kernel
theorem d4_47 : decode jdk_52_method_16_code 47 = .ok (.invokestatic 123, 3) := by decide +kernel
theorem d4_50 : decode jdk_52_method_16_code 50 = .ok (.iload_n 2, 1) := by decide +kernel
theorem d4_51 : decode jdk_52_method_16_code 51 = .ok (.if_icmp .eq 6, 3) := by decide +kernel
theorem d4_54 : decode jdk_52_method_16_code 54 = .ok (.aload 5, 2) := by decide +kernel
theorem d4_56 : decode jdk_52_method_16_code 56 = .ok (.areturn, 1) := by decide +kernel
theorem d4_57 : decode jdk_52_method_16_code 57 = .ok (.aload_n 3, 1) := by decide +kernel
theorem d4_58 : decode jdk_52_method_16_code 58 = .ok (.areturn, 1) := by decide +kernel
theorem ef_rmC3 (m : MethodId) (a1 : Addr) : entryFrame m #[(.ref a1), (.int (0 : Int32)), (.int (1 : Int32))] 6 = mkF m 0 #[.val (.ref a1), .val (.int (0 : Int32)), .val (.int (1 : Int32)), .unset, .unset, .unset] [] := by first | (simp [entryFrame, mkF, argsToLocals, Value.category]; done) | rfl
def QC3 (Z : State) (a1 : Addr) (k1 : ClassId) (cc : Int32) (h0 : Heap) (n0 : Nat) (v : Option Value) (h : Heap) (L : List Loc) : Prop := ∃ (b : Addr) (kb : ClassId), v = some (.ref b) ∧ Fr n0 L ∧ Keep h0 h [] ∧ n0 ≤ b ∧ h0.size ≤ b ∧ Arv Z h b kb .byte 1 [(.int (nar .byte (cc.toInt8.toInt32)))] (.int (0 : Int32))
set_option maxRecDepth 65536 in
set_option maxHeartbeats 40000000 in
theorem rmC3 (l : Launch) (Z : State) (a0 : Array Value) (hw : ∀ d ∈ tables_1, d.before a0 Z = true) (ws : List Jvm.Cond) (a1 : Addr) (k1 : ClassId) (cc : Int32) (h0 : Heap) (n0 : Nat) (Z0 : n0 ≤ h0.size) (V1 : Arv Z h0 a1 k1 .char 1 [(.int cc)] (.int (0 : Int32))) (hc : ¬ (255 : Int32) < cc) :
    MetFree l (⟨"java/lang/StringUTF16", "compress", "([CII)[B"⟩ : MethodName) (head1 (Jvm.Cond.code (⟨"java/lang/StringUTF16", "compress", "([CII)[B"⟩ : MethodName) jdk_52_method_16_code 6 (some (.array .byte)) :: ws) ({ frames := 1, cells := 1, slots := 1, locals := 18 } : Room)) (fun a U => a = #[(.ref a1), (.int (0 : Int32)), (.int (1 : Int32))] ∧ Z.Warmed39 U.vm ∧ U.heap = h0) (fun _ _ _ _ _ => True) (fun _ U o U' => ∃ v L, o = .returned v ∧ QC3 Z a1 k1 cc h0 n0 v U'.heap L ∧ FrameEnd U o U' L ({ frames := 1, cells := 1, slots := 1, locals := 18 } : Room).cells ({ frames := 1, cells := 1, slots := 1, locals := 18 } : Room).slots) := by
  refine MetFree.of_bodySF (plainFor_of_name pn_0) hisR ?_
  intro p e s m args below meth c s₁ Bd hml0 hP hK
  obtain ⟨rfl, hZ, hh⟩ := hP
  have hx := Bd.exec
  have hby := Bd.bytes
  have hml : c.maxLocals = 6 := hml0
  have hown : s.vm.findClass "java/lang/StringUTF16" = some m.cls := findClass_of_methodNamed Bd.named
  have hnm := (name_of_methodNamed Bd.named Bd.method).1
  have X0 : Stand p l e ({ frames := 1, cells := 1, slots := 1, locals := 18 } : Room) s m #[(.ref a1), (.int (0 : Int32)), (.int (1 : Int32))] below meth c s₁ [] 0 0 := Stand.of_body Bd
  have e0 : s₁.heap = h0 := by rw [← hh, Bd.state]; rfl
  have N0 := Fr.nil n0
  have K0 := Keep.refl h0 []
  have go0 : Goes p e below s₁ (entryFrame m #[(.ref a1), (.int (0 : Int32)), (.int (1 : Int32))] 6) s₁ (mkF m 0 #[.val (.ref a1), .val (.int (0 : Int32)), .val (.int (1 : Int32)), .unset, .unset, .unset] []) := fun t k => castTop (ef_rmC3 m a1) k
  have go1 : Goes p e below s₁ (entryFrame m #[(.ref a1), (.int (0 : Int32)), (.int (1 : Int32))] 6) s₁ (mkF m 1 #[.val (.ref a1), .val (.int (0 : Int32)), .val (.int (1 : Int32)), .unset, .unset, .unset] [(.int (1 : Int32))]) := fun t k => by
    refine go0 t ?_
    refine XS.iloadN X0.here hx rfl (hb hby d4_0) rfl ?_
    show Steps p.tables e below (s₁.setTop (mkF m 1 #[.val (.ref a1), .val (.int (0 : Int32)), .val (.int (1 : Int32)), .unset, .unset, .unset] [(.int (1 : Int32))])) _
    exact k
  obtain ⟨T2, h2, k2, X2, e2, E2, A2, st2⟩ := newP X0 hx hZ (hw _ (List.mem_of_getElem? (i := 20) rfl)) e0 (g := (mkF m 1 #[.val (.ref a1), .val (.int (0 : Int32)), .val (.int (1 : Int32)), .unset, .unset, .unset] [(.int (1 : Int32))])) rfl (hb hby d4_1) rfl (by decide) (cap := 1) (by decide) (by decide) (by decide) (by decide)
  obtain ⟨b2, g_b_b2⟩ : ∃ z, z = h0.size := ⟨_, rfl⟩
  have le_b2 : h0.size ≤ b2 := Nat.le_of_eq g_b_b2.symm
  have gn_b2 : n0 ≤ b2 := Nat.le_trans Z0 le_b2
  have sz_b2 : h0.size ≤ b2 := Nat.le_trans K0.1 le_b2
  rw [← g_b_b2] at A2 st2
  have f3 := V1.ext E2
  have Z4 := Nat.le_trans Z0 E2.1
  have K5 := K0.ext E2
  have V6 : Arv Z h2 b2 k2 .byte (1 : Int32) [(.int (0 : Int32))] (.int (0 : Int32)) := (Arv.new A2 (by decide)).pad (pad_rep [] (.int (0 : Int32)) 1)
  have go7 : Goes p e below s₁ (entryFrame m #[(.ref a1), (.int (0 : Int32)), (.int (1 : Int32))] 6) T2 (mkF m 3 #[.val (.ref a1), .val (.int (0 : Int32)), .val (.int (1 : Int32)), .unset, .unset, .unset] [(.ref b2)]) := fun t k => go1 t (st2 t k)
  have go8 : Goes p e below s₁ (entryFrame m #[(.ref a1), (.int (0 : Int32)), (.int (1 : Int32))] 6) T2 (mkF m 9 #[.val (.ref a1), .val (.int (0 : Int32)), .val (.int (1 : Int32)), .val (.ref b2), .unset, .unset] [(.int (1 : Int32)), (.int (0 : Int32)), (.ref b2), (.int (0 : Int32)), (.ref a1)]) := fun t k => by
    refine go7 t ?_
    refine XS.astoreN X2.here hx rfl (hb hby d4_3) rfl rfl (l' := #[.val (.ref a1), .val (.int (0 : Int32)), .val (.int (1 : Int32)), .val (.ref b2), .unset, .unset]) rfl ?_
    show Steps p.tables e below (T2.setTop (mkF m 4 #[.val (.ref a1), .val (.int (0 : Int32)), .val (.int (1 : Int32)), .val (.ref b2), .unset, .unset] [])) _
    refine XS.aloadN X2.here hx rfl (hb hby d4_4) rfl rfl ?_
    show Steps p.tables e below (T2.setTop (mkF m 5 #[.val (.ref a1), .val (.int (0 : Int32)), .val (.int (1 : Int32)), .val (.ref b2), .unset, .unset] [(.ref a1)])) _
    refine XS.iloadN X2.here hx rfl (hb hby d4_5) rfl ?_
    show Steps p.tables e below (T2.setTop (mkF m 6 #[.val (.ref a1), .val (.int (0 : Int32)), .val (.int (1 : Int32)), .val (.ref b2), .unset, .unset] [(.int (0 : Int32)), (.ref a1)])) _
    refine XS.aloadN X2.here hx rfl (hb hby d4_6) rfl rfl ?_
    show Steps p.tables e below (T2.setTop (mkF m 7 #[.val (.ref a1), .val (.int (0 : Int32)), .val (.int (1 : Int32)), .val (.ref b2), .unset, .unset] [(.ref b2), (.int (0 : Int32)), (.ref a1)])) _
    refine XS.iconst X2.here hx rfl (hb hby d4_7) ?_
    show Steps p.tables e below (T2.setTop (mkF m 8 #[.val (.ref a1), .val (.int (0 : Int32)), .val (.int (1 : Int32)), .val (.ref b2), .unset, .unset] [(.int (0 : Int32)), (.ref b2), (.int (0 : Int32)), (.ref a1)])) _
    refine XS.iloadN X2.here hx rfl (hb hby d4_8) rfl ?_
    show Steps p.tables e below (T2.setTop (mkF m 9 #[.val (.ref a1), .val (.int (0 : Int32)), .val (.int (1 : Int32)), .val (.ref b2), .unset, .unset] [(.int (1 : Int32)), (.int (0 : Int32)), (.ref b2), (.int (0 : Int32)), (.ref a1)])) _
    exact k
  obtain ⟨_, _, ⟨T9, L9, k9, n9⟩, -, X9, ⟨Lc9, hQ9, l9, y9, z9⟩, st9⟩ := Jvm.LawKit.callS X2 hx (y := (⟨"java/lang/StringUTF16", "compress", "([CI[BII)I"⟩ : MethodName)) hown (mvT hZ (hw _ (List.mem_of_getElem? (i := 21) rfl))) (mvT hZ (hw _ (List.mem_of_getElem? (i := 22) rfl))) (mvT hZ (hw _ (List.mem_of_getElem? (i := 18) rfl))) (mvT hZ (hw _ (List.mem_of_getElem? (i := 23) rfl))) (by decide) (backOf (W := 0) (rmC5 l Z a0 hw [] a1 b2 k1 k2 cc h2 n0 Z4 f3 V6 hc (Nat.ne_of_lt (Nat.lt_of_lt_of_le V1.lt le_b2)) gn_b2) hZ (hw _ (List.mem_of_getElem? (i := 23) rfl)) (hw _ (List.mem_of_getElem? (i := 18) rfl)) (by decide) (by decide)) (g := (mkF m 9 #[.val (.ref a1), .val (.int (0 : Int32)), .val (.int (1 : Int32)), .val (.ref b2), .unset, .unset] [(.int (1 : Int32)), (.int (0 : Int32)), (.ref b2), (.int (0 : Int32)), (.ref a1)])) rfl (by rw [hml]; rfl) (argsL := [(.ref a1), (.int (0 : Int32)), (.ref b2), (.int (0 : Int32)), (.int (1 : Int32))]) (rest := []) (lenOf pd_0 rfl) rfl (by show 2 * 0 + _ ≤ _; exact Nat.le_of_eq rfl) (hb hby d4_9) (fun _ _ => ⟨rfl, e2, (by decide : 1 + 0 ≤ ({ frames := 1, cells := 1, slots := 1, locals := 18 } : Room).cells), (by decide : 1 + 0 ≤ ({ frames := 1, cells := 1, slots := 1, locals := 18 } : Room).slots)⟩)
  dsimp only [Pt.U, Pt.locs, Pt.cells, Pt.slots] at X9 l9 y9 z9 st9 hQ9
  subst l9 y9 z9
  obtain ⟨rfl, N9q, Kq9, Vq9⟩ := hQ9
  have N9 := Fr.app N0 N9q
  have f10 := f3.keep Kq9 (ninS (Nat.ne_of_lt (Nat.lt_of_lt_of_le V1.lt le_b2)) nin0)
  have Z11 := Nat.le_trans Z4 Kq9.1
  have K12 := K5.trans Kq9 (allS (Or.inr sz_b2) all0)
  have go13 : Goes p e below s₁ (entryFrame m #[(.ref a1), (.int (0 : Int32)), (.int (1 : Int32))] 6) T9 (mkF m 12 #[.val (.ref a1), .val (.int (0 : Int32)), .val (.int (1 : Int32)), .val (.ref b2), .unset, .unset] [(.int (1 : Int32))]) := fun t k => go8 t (st9 t k)
  have go14 : Goes p e below s₁ (entryFrame m #[(.ref a1), (.int (0 : Int32)), (.int (1 : Int32))] 6) T9 (mkF m 17 #[.val (.ref a1), .val (.int (0 : Int32)), .val (.int (1 : Int32)), .val (.ref b2), .val (.int (1 : Int32)), .unset] [(.int (1 : Int32)), (.int (1 : Int32))]) := fun t k => by
    refine go13 t ?_
    refine XS.istore X9.here hx rfl (hb hby d4_12) rfl (l' := #[.val (.ref a1), .val (.int (0 : Int32)), .val (.int (1 : Int32)), .val (.ref b2), .val (.int (1 : Int32)), .unset]) rfl ?_
    show Steps p.tables e below (T9.setTop (mkF m 14 #[.val (.ref a1), .val (.int (0 : Int32)), .val (.int (1 : Int32)), .val (.ref b2), .val (.int (1 : Int32)), .unset] [])) _
    refine XS.iload X9.here hx rfl (hb hby d4_14) rfl ?_
    show Steps p.tables e below (T9.setTop (mkF m 16 #[.val (.ref a1), .val (.int (0 : Int32)), .val (.int (1 : Int32)), .val (.ref b2), .val (.int (1 : Int32)), .unset] [(.int (1 : Int32))])) _
    refine XS.iloadN X9.here hx rfl (hb hby d4_16) rfl ?_
    show Steps p.tables e below (T9.setTop (mkF m 17 #[.val (.ref a1), .val (.int (0 : Int32)), .val (.int (1 : Int32)), .val (.ref b2), .val (.int (1 : Int32)), .unset] [(.int (1 : Int32)), (.int (1 : Int32))])) _
    exact k
  have go15 : Goes p e below s₁ (entryFrame m #[(.ref a1), (.int (0 : Int32)), (.int (1 : Int32))] 6) T9 (mkF m 58 #[.val (.ref a1), .val (.int (0 : Int32)), .val (.int (1 : Int32)), .val (.ref b2), .val (.int (1 : Int32)), .unset] [(.ref b2)]) := fun t k => by
    refine go14 t ?_
    refine XS.icmpYes X9.here hx rfl (pc0 := 17) (pc' := 57) rfl (hb hby d4_17) rfl (Jvm.Free.XT.ii_eq_t (by decide)) (by decide) (by decide) ?_
    show Steps p.tables e below (T9.setTop (mkF m 57 #[.val (.ref a1), .val (.int (0 : Int32)), .val (.int (1 : Int32)), .val (.ref b2), .val (.int (1 : Int32)), .unset] [])) _
    refine XS.aloadN X9.here hx rfl (hb hby d4_57) rfl rfl ?_
    show Steps p.tables e below (T9.setTop (mkF m 58 #[.val (.ref a1), .val (.int (0 : Int32)), .val (.int (1 : Int32)), .val (.ref b2), .val (.int (1 : Int32)), .unset] [(.ref b2)])) _
    exact k
  obtain ⟨fs, hr, hrun, hended, hW, hsame⟩ := X9.leave (v := some (.ref b2)) (fun h => by rw [Bd.returns] at h; cases h)
  refine ⟨_, _, go15 _ ?_, hrun, hended, _, _, rfl, ?_, ⟨_, rfl⟩, hW, hsame.mono (by decide) (by decide)⟩
  · jvm_step X9.here [X9.here.top, hx, (hb hby d4_58), X9.method', Bd.returns, Value.isRef, FieldType.isReference]
    first | (intro acts; rw [hr _ acts rfl rfl rfl]) | rw [hr _ _ rfl rfl rfl]
    exact Steps.refl _
  · show QC3 Z _ _ _ _ _ _ T9.heap _
    exact ⟨b2, k2, rfl, N9, K12, gn_b2, sz_b2, Vq9⟩
theorem d6_0 : decode jdk_52_method_15_code 0 = .ok (.iload_n 1, 1) := by decide +kernel
theorem d6_1 : decode jdk_52_method_15_code 1 = .ok (.aload_n 0, 1) := by decide +kernel
theorem d6_2 : decode jdk_52_method_15_code 2 = .ok (.arraylength, 1) := by decide +kernel
theorem d6_3 : decode jdk_52_method_15_code 3 = .ok (.isub, 1) := by decide +kernel
theorem d6_4 : decode jdk_52_method_15_code 4 = .ok (.bipush 31, 2) := by decide +kernel
theorem d6_6 : decode jdk_52_method_15_code 6 = .ok (.iushr, 1) := by decide +kernel
theorem d6_7 : decode jdk_52_method_15_code 7 = .ok (.i2b, 1) := by decide +kernel
theorem d6_8 : decode jdk_52_method_15_code 8 = .ok (.ireturn, 1) := by decide +kernel
theorem ef_rmCo (m : MethodId) (a1 : Addr) : entryFrame m #[(.ref a1), (.int (1 : Int32))] 2 = mkF m 0 #[.val (.ref a1), .val (.int (1 : Int32))] [] := by first | (simp [entryFrame, mkF, argsToLocals, Value.category]; done) | rfl
def QCo (Z : State) (a1 : Addr) (k1 : ClassId) (x1 : Value) (h0 : Heap) (n0 : Nat) (v : Option Value) (h : Heap) (L : List Loc) : Prop := v = some (.int 0) ∧ Fr n0 L ∧ h = h0
set_option maxRecDepth 65536 in
set_option maxHeartbeats 40000000 in
theorem rmCo (l : Launch) (Z : State) (a0 : Array Value) (hw : ∀ d ∈ tables_1, d.before a0 Z = true) (ws : List Jvm.Cond) (a1 : Addr) (k1 : ClassId) (x1 : Value) (h0 : Heap) (n0 : Nat) (Z0 : n0 ≤ h0.size) (V1 : Arv Z h0 a1 k1 .byte 1 [x1] (.int (0 : Int32))) :
    MetFree l (⟨"java/lang/StringUTF16", "coderFromArrayLen", "([BI)B"⟩ : MethodName) (head1 (Jvm.Cond.code (⟨"java/lang/StringUTF16", "coderFromArrayLen", "([BI)B"⟩ : MethodName) jdk_52_method_15_code 2 (some .byte) :: ws) ({ frames := 0, cells := 0, slots := 0, locals := 0 } : Room)) (fun a U => a = #[(.ref a1), (.int (1 : Int32))] ∧ Z.Warmed39 U.vm ∧ U.heap = h0) (fun _ _ _ _ _ => True) (fun _ U o U' => ∃ v L, o = .returned v ∧ QCo Z a1 k1 x1 h0 n0 v U'.heap L ∧ FrameEnd U o U' L ({ frames := 0, cells := 0, slots := 0, locals := 0 } : Room).cells ({ frames := 0, cells := 0, slots := 0, locals := 0 } : Room).slots) := by
  refine MetFree.of_bodySF (plainFor_of_name pn_0) hisR ?_
  intro p e s m args below meth c s₁ Bd hml0 hP hK
  obtain ⟨rfl, hZ, hh⟩ := hP
  have hx := Bd.exec
  have hby := Bd.bytes
  have hml : c.maxLocals = 2 := hml0
  have hown : s.vm.findClass "java/lang/StringUTF16" = some m.cls := findClass_of_methodNamed Bd.named
  have hnm := (name_of_methodNamed Bd.named Bd.method).1
  have X0 : Stand p l e ({ frames := 0, cells := 0, slots := 0, locals := 0 } : Room) s m #[(.ref a1), (.int (1 : Int32))] below meth c s₁ [] 0 0 := Stand.of_body Bd
  have e0 : s₁.heap = h0 := by rw [← hh, Bd.state]; rfl
  have N0 := Fr.nil n0
  have K0 := Keep.refl h0 []
  have go0 : Goes p e below s₁ (entryFrame m #[(.ref a1), (.int (1 : Int32))] 2) s₁ (mkF m 0 #[.val (.ref a1), .val (.int (1 : Int32))] []) := fun t k => castTop (ef_rmCo m a1) k
  have go1 : Goes p e below s₁ (entryFrame m #[(.ref a1), (.int (1 : Int32))] 2) s₁ (mkF m 2 #[.val (.ref a1), .val (.int (1 : Int32))] [(.ref a1), (.int (1 : Int32))]) := fun t k => by
    refine go0 t ?_
    refine XS.iloadN X0.here hx rfl (hb hby d6_0) rfl ?_
    show Steps p.tables e below (s₁.setTop (mkF m 1 #[.val (.ref a1), .val (.int (1 : Int32))] [(.int (1 : Int32))])) _
    refine XS.aloadN X0.here hx rfl (hb hby d6_1) rfl rfl ?_
    show Steps p.tables e below (s₁.setTop (mkF m 2 #[.val (.ref a1), .val (.int (1 : Int32))] [(.ref a1), (.int (1 : Int32))])) _
    exact k
  obtain ⟨cl2, Ar2, kq2, Sz2, Nn2, Hs2, Gf2⟩ := id (V1)
  have go3 : Goes p e below s₁ (entryFrame m #[(.ref a1), (.int (1 : Int32))] 2) s₁ (mkF m 8 #[.val (.ref a1), .val (.int (1 : Int32))] [(.int (0 : Int32))]) := fun t k => by
    refine go1 t ?_
    refine X0.arraylength hx (own_hp e0 Ar2.1) (State.isArrayOf_alike hZ.alike Ar2.2.1) (g := (mkF m 2 #[.val (.ref a1), .val (.int (1 : Int32))] [(.ref a1), (.int (1 : Int32))])) rfl rfl (hb hby d6_2) _ ?_
    rw [len_of Sz2 Nn2]
    show Steps p.tables e below (s₁.setTop (mkF m 3 #[.val (.ref a1), .val (.int (1 : Int32))] [(.int (1 : Int32)), (.int (1 : Int32))])) _
    refine XS.isub X0.here hx rfl (hb hby d6_3) rfl ?_
    show Steps p.tables e below (s₁.setTop (mkF m 4 #[.val (.ref a1), .val (.int (1 : Int32))] [(.int (0 : Int32))])) _
    refine XS.bipush X0.here hx rfl (hb hby d6_4) ?_
    show Steps p.tables e below (s₁.setTop (mkF m 6 #[.val (.ref a1), .val (.int (1 : Int32))] [(.int (31 : Int32)), (.int (0 : Int32))])) _
    refine XS.iushr X0.here hx rfl (hb hby d6_6) rfl ?_
    show Steps p.tables e below (s₁.setTop (mkF m 7 #[.val (.ref a1), .val (.int (1 : Int32))] [(.int (0 : Int32))])) _
    refine XS.i2b X0.here hx rfl (hb hby d6_7) rfl ?_
    show Steps p.tables e below (s₁.setTop (mkF m 8 #[.val (.ref a1), .val (.int (1 : Int32))] [(.int (0 : Int32))])) _
    exact k
  obtain ⟨fs, hr, hrun, hended, hW, hsame⟩ := X0.leave (v := some (.int (0 : Int32))) (fun h => by rw [Bd.returns] at h; cases h)
  refine ⟨_, _, go3 _ ?_, hrun, hended, _, _, rfl, ?_, ⟨_, rfl⟩, hW, hsame.mono (by decide) (by decide)⟩
  · exact retN X0 hx (t := .byte) Bd.returns (by simp) (hb hby d6_8) hr
  · show QCo Z _ _ _ _ _ _ s₁.heap _
    rw [e0]
    exact ⟨rfl, N0, rfl⟩
theorem pd_1 : parseMethodDescriptor "([CII)[B" = some ⟨[(.array .char), .int, .int], some (.array .byte)⟩ := by decide +kernel
theorem pd_2 : parseMethodDescriptor "([BI)B" = some ⟨[(.array .byte), .int], some .byte⟩ := by decide +kernel
theorem d2_0 : decode jdk_42_method_149_code 0 = .ok (.aload_n 0, 1) := by decide +kernel
theorem d2_1 : decode jdk_42_method_149_code 1 = .ok (.invokespecial 1, 3) := by decide +kernel
theorem d2_4 : decode jdk_42_method_149_code 4 = .ok (.iload_n 3, 1) := by decide +kernel
theorem d2_5 : decode jdk_42_method_149_code 5 = .ok (.ifCond .ne 22, 3) := by decide +kernel
theorem d2_8 : decode jdk_42_method_149_code 8 = .ok (.aload_n 0, 1) := by decide +kernel
theorem d2_9 : decode jdk_42_method_149_code 9 = .ok (.ldc 7, 2) := by decide +kernel
theorem d2_11 : decode jdk_42_method_149_code 11 = .ok (.getfield 9, 3) := by decide +kernel
theorem d2_14 : decode jdk_42_method_149_code 14 = .ok (.putfield 9, 3) := by decide +kernel
theorem d2_17 : decode jdk_42_method_149_code 17 = .ok (.aload_n 0, 1) := by decide +kernel
theorem d2_18 : decode jdk_42_method_149_code 18 = .ok (.ldc 7, 2) := by decide +kernel
theorem d2_20 : decode jdk_42_method_149_code 20 = .ok (.getfield 15, 3) := by decide +kernel
theorem d2_23 : decode jdk_42_method_149_code 23 = .ok (.putfield 15, 3) := by decide +kernel
theorem d2_26 : decode jdk_42_method_149_code 26 = .ok (.return_, 1) := by decide +kernel
theorem d2_27 : decode jdk_42_method_149_code 27 = .ok (.getstatic 38, 3) := by decide +kernel
theorem d2_30 : decode jdk_42_method_149_code 30 = .ok (.ifCond .eq 28, 3) := by decide +kernel
theorem d2_33 : decode jdk_42_method_149_code 33 = .ok (.aload_n 1, 1) := by decide +kernel
theorem d2_34 : decode jdk_42_method_149_code 34 = .ok (.iload_n 2, 1) := by decide +kernel
theorem d2_35 : decode jdk_42_method_149_code 35 = .ok (.iload_n 3, 1) := by decide +kernel
theorem d2_36 : decode jdk_42_method_149_code 36 = .ok (.invokestatic 177, 3) := by decide +kernel
theorem d2_39 : decode jdk_42_method_149_code 39 = .ok (.astore 5, 2) := by decide +kernel
theorem d2_41 : decode jdk_42_method_149_code 41 = .ok (.aload_n 0, 1) := by decide +kernel
theorem d2_42 : decode jdk_42_method_149_code 42 = .ok (.aload 5, 2) := by decide +kernel
theorem d2_44 : decode jdk_42_method_149_code 44 = .ok (.iload_n 3, 1) := by decide +kernel
theorem d2_45 : decode jdk_42_method_149_code 45 = .ok (.invokestatic 47, 3) := by decide +kernel
theorem d2_48 : decode jdk_42_method_149_code 48 = .ok (.putfield 15, 3) := by decide +kernel
theorem d2_51 : decode jdk_42_method_149_code 51 = .ok (.aload_n 0, 1) := by decide +kernel
theorem d2_52 : decode jdk_42_method_149_code 52 = .ok (.aload 5, 2) := by decide +kernel
theorem d2_54 : decode jdk_42_method_149_code 54 = .ok (.putfield 9, 3) := by decide +kernel
theorem d2_57 : decode jdk_42_method_149_code 57 = .ok (.return_, 1) := by decide +kernel
theorem d2_58 : decode jdk_42_method_149_code 58 = .ok (.aload_n 0, 1) := by decide +kernel
theorem d2_59 : decode jdk_42_method_149_code 59 = .ok (.iconst 1, 1) := by decide +kernel
theorem d2_60 : decode jdk_42_method_149_code 60 = .ok (.putfield 15, 3) := by decide +kernel
theorem d2_63 : decode jdk_42_method_149_code 63 = .ok (.aload_n 0, 1) := by decide +kernel
theorem d2_64 : decode jdk_42_method_149_code 64 = .ok (.aload_n 1, 1) := by decide +kernel
theorem d2_65 : decode jdk_42_method_149_code 65 = .ok (.iload_n 2, 1) := by decide +kernel
theorem d2_66 : decode jdk_42_method_149_code 66 = .ok (.iload_n 3, 1) := by decide +kernel
theorem d2_67 : decode jdk_42_method_149_code 67 = .ok (.invokestatic 180, 3) := by decide +kernel
theorem d2_70 : decode jdk_42_method_149_code 70 = .ok (.putfield 9, 3) := by decide +kernel
theorem d2_73 : decode jdk_42_method_149_code 73 = .ok (.return_, 1) := by decide +kernel
theorem pn_1 : plainName "java/lang/String" = true := by first | (simp [plainName, overriddenIn]; done) | decide +kernel
theorem ef_rmI4 (m : MethodId) (a1 : Addr) (a2 : Addr) : entryFrame m #[(.ref a1), (.ref a2), (.int (0 : Int32)), (.int (1 : Int32)), .null] 6 = mkF m 0 #[.val (.ref a1), .val (.ref a2), .val (.int (0 : Int32)), .val (.int (1 : Int32)), .val .null, .unset] [] := by first | (simp [entryFrame, mkF, argsToLocals, Value.category]; done) | rfl
def QI4 (Z : State) (a1 : Addr) (a2 : Addr) (k2 : ClassId) (cc cs : Int32) (h0 : Heap) (n0 : Nat) (v : Option Value) (h : Heap) (L : List Loc) : Prop := v = none ∧ Fr n0 L ∧ Keep h0 h [a1] ∧ Fld Z h a1 "java/lang/String" "coder" "B" (.int (0 : Int32)) ∧ ∃ (b : Addr) (kb : ClassId), n0 ≤ b ∧ h0.size ≤ b ∧ Fld Z h a1 "java/lang/String" "value" "[B" (.ref b) ∧ Arv Z h b kb .byte 1 [(.int (nar .byte (cc.toInt8.toInt32)))] (.int (0 : Int32))
set_option maxRecDepth 65536 in
set_option maxHeartbeats 40000000 in
theorem rmI4 (l : Launch) (Z : State) (a0 : Array Value) (hw : ∀ d ∈ tables_1, d.before a0 Z = true) (ws : List Jvm.Cond) (a1 : Addr) (a2 : Addr) (k2 : ClassId) (cc cs : Int32) (h0 : Heap) (n0 : Nat) (Z0 : n0 ≤ h0.size) (O0 : Old Z n0 h0) (S_CS : Sta Z Z.heap "java/lang/String" "COMPACT_STRINGS" "Z" (.int cs)) (hcs : ¬ cs = 0) (V2 : Arv Z h0 a2 k2 .char 1 [(.int cc)] (.int (0 : Int32))) (hc : ¬ (255 : Int32) < cc) (E1 : Exa Z h0 a1 "java/lang/String") (FV : Fld Z h0 a1 "java/lang/String" "value" "[B" .null) (FC : Fld Z h0 a1 "java/lang/String" "coder" "B" (.int (0 : Int32))) (g1 : n0 ≤ a1) :
    MetFree l (⟨"java/lang/String", "<init>", "([CIILjava/lang/Void;)V"⟩ : MethodName) (head1 (Jvm.Cond.code (⟨"java/lang/String", "<init>", "([CIILjava/lang/Void;)V"⟩ : MethodName) jdk_42_method_149_code 6 none :: ws) ({ frames := 2, cells := 1, slots := 1, locals := 35 } : Room)) (fun a U => a = #[(.ref a1), (.ref a2), (.int (0 : Int32)), (.int (1 : Int32)), .null] ∧ Z.Warmed39 U.vm ∧ U.heap = h0) (fun _ _ _ _ _ => True) (fun _ U o U' => ∃ v L, o = .returned v ∧ QI4 Z a1 a2 k2 cc cs h0 n0 v U'.heap L ∧ FrameEnd U o U' L ({ frames := 2, cells := 1, slots := 1, locals := 35 } : Room).cells ({ frames := 2, cells := 1, slots := 1, locals := 35 } : Room).slots) := by
  refine MetFree.of_bodySF (plainFor_of_name pn_1) hisR ?_
  intro p e s m args below meth c s₁ Bd hml0 hP hK
  obtain ⟨rfl, hZ, hh⟩ := hP
  have hx := Bd.exec
  have hby := Bd.bytes
  have hml : c.maxLocals = 6 := hml0
  have hown : s.vm.findClass "java/lang/String" = some m.cls := findClass_of_methodNamed Bd.named
  have hnm := (name_of_methodNamed Bd.named Bd.method).1
  have X0 : Stand p l e ({ frames := 2, cells := 1, slots := 1, locals := 35 } : Room) s m #[(.ref a1), (.ref a2), (.int (0 : Int32)), (.int (1 : Int32)), .null] below meth c s₁ [] 0 0 := Stand.of_body Bd
  have e0 : s₁.heap = h0 := by rw [← hh, Bd.state]; rfl
  have N0 := Fr.nil n0
  have K0 := Keep.refl h0 [a1]
  have go0 : Goes p e below s₁ (entryFrame m #[(.ref a1), (.ref a2), (.int (0 : Int32)), (.int (1 : Int32)), .null] 6) s₁ (mkF m 0 #[.val (.ref a1), .val (.ref a2), .val (.int (0 : Int32)), .val (.int (1 : Int32)), .val .null, .unset] []) := fun t k => castTop (ef_rmI4 m a1 a2) k
  have ne12 : a1 ≠ a2 := by obtain ⟨cl, A, -⟩ := id V2; exact ne_arr E1 (hw _ (List.mem_of_getElem? (i := 3) rfl)) A
  have go1 : Goes p e below s₁ (entryFrame m #[(.ref a1), (.ref a2), (.int (0 : Int32)), (.int (1 : Int32)), .null] 6) s₁ (mkF m 1 #[.val (.ref a1), .val (.ref a2), .val (.int (0 : Int32)), .val (.int (1 : Int32)), .val .null, .unset] [(.ref a1)]) := fun t k => by
    refine go0 t ?_
    refine XS.aloadN X0.here hx rfl (hb hby d2_0) rfl rfl ?_
    show Steps p.tables e below (s₁.setTop (mkF m 1 #[.val (.ref a1), .val (.ref a2), .val (.int (0 : Int32)), .val (.int (1 : Int32)), .val .null, .unset] [(.ref a1)])) _
    exact k
  obtain ⟨T2, X2, e2, st2⟩ := initO X0 hx hZ hown (hw _ (List.mem_of_getElem? (i := 12) rfl)) (hw _ (List.mem_of_getElem? (i := 13) rfl)) (hw _ (List.mem_of_getElem? (i := 14) rfl)) e0 (g := (mkF m 1 #[.val (.ref a1), .val (.ref a2), .val (.int (0 : Int32)), .val (.int (1 : Int32)), .val .null, .unset] [(.ref a1)])) rfl (by rw [hml]; rfl) rfl (hb hby d2_1) (by decide) (W := 0) (by show 2 * 0 + _ ≤ _; exact Nat.le_of_eq rfl) (by decide)
  have go3 : Goes p e below s₁ (entryFrame m #[(.ref a1), (.ref a2), (.int (0 : Int32)), (.int (1 : Int32)), .null] 6) T2 (mkF m 4 #[.val (.ref a1), .val (.ref a2), .val (.int (0 : Int32)), .val (.int (1 : Int32)), .val .null, .unset] []) := fun t k => go1 t (st2 t k)
  have go4 : Goes p e below s₁ (entryFrame m #[(.ref a1), (.ref a2), (.int (0 : Int32)), (.int (1 : Int32)), .null] 6) T2 (mkF m 5 #[.val (.ref a1), .val (.ref a2), .val (.int (0 : Int32)), .val (.int (1 : Int32)), .val .null, .unset] [(.int (1 : Int32))]) := fun t k => by
    refine go3 t ?_
    refine XS.iloadN X2.here hx rfl (hb hby d2_4) rfl ?_
    show Steps p.tables e below (T2.setTop (mkF m 5 #[.val (.ref a1), .val (.ref a2), .val (.int (0 : Int32)), .val (.int (1 : Int32)), .val .null, .unset] [(.int (1 : Int32))])) _
    exact k
  have go5 : Goes p e below s₁ (entryFrame m #[(.ref a1), (.ref a2), (.int (0 : Int32)), (.int (1 : Int32)), .null] 6) T2 (mkF m 27 #[.val (.ref a1), .val (.ref a2), .val (.int (0 : Int32)), .val (.int (1 : Int32)), .val .null, .unset] []) := fun t k => by
    refine go4 t ?_
    refine XS.ifYes X2.here hx rfl (pc0 := 5) (pc' := 27) rfl (hb hby d2_5) rfl (Jvm.Free.XT.i0_ne_t (by decide)) (by decide) (by decide) ?_
    show Steps p.tables e below (T2.setTop (mkF m 27 #[.val (.ref a1), .val (.ref a2), .val (.int (0 : Int32)), .val (.int (1 : Int32)), .val .null, .unset] [])) _
    exact k
  obtain ⟨T6, X6, e6, st6⟩ := getS2 X2 hx hZ hown (host := "") (Or.inl (hw _ (List.mem_of_getElem? (i := 15) rfl))) Via.refl e2 (S_CS.ext O0.2) (g := (mkF m 27 #[.val (.ref a1), .val (.ref a2), .val (.int (0 : Int32)), .val (.int (1 : Int32)), .val .null, .unset] [])) rfl (hb hby d2_27)
  have go7 : Goes p e below s₁ (entryFrame m #[(.ref a1), (.ref a2), (.int (0 : Int32)), (.int (1 : Int32)), .null] 6) T6 (mkF m 30 #[.val (.ref a1), .val (.ref a2), .val (.int (0 : Int32)), .val (.int (1 : Int32)), .val .null, .unset] [(.int cs)]) := fun t k => go5 t (st6 t k)
  have go8 : Goes p e below s₁ (entryFrame m #[(.ref a1), (.ref a2), (.int (0 : Int32)), (.int (1 : Int32)), .null] 6) T6 (mkF m 36 #[.val (.ref a1), .val (.ref a2), .val (.int (0 : Int32)), .val (.int (1 : Int32)), .val .null, .unset] [(.int (1 : Int32)), (.int (0 : Int32)), (.ref a2)]) := fun t k => by
    refine go7 t ?_
    refine XS.ifNo X6.here hx rfl (hb hby d2_30) rfl (Jvm.Free.XT.i0_eq_f hcs) ?_
    show Steps p.tables e below (T6.setTop (mkF m 33 #[.val (.ref a1), .val (.ref a2), .val (.int (0 : Int32)), .val (.int (1 : Int32)), .val .null, .unset] [])) _
    refine XS.aloadN X6.here hx rfl (hb hby d2_33) rfl rfl ?_
    show Steps p.tables e below (T6.setTop (mkF m 34 #[.val (.ref a1), .val (.ref a2), .val (.int (0 : Int32)), .val (.int (1 : Int32)), .val .null, .unset] [(.ref a2)])) _
    refine XS.iloadN X6.here hx rfl (hb hby d2_34) rfl ?_
    show Steps p.tables e below (T6.setTop (mkF m 35 #[.val (.ref a1), .val (.ref a2), .val (.int (0 : Int32)), .val (.int (1 : Int32)), .val .null, .unset] [(.int (0 : Int32)), (.ref a2)])) _
    refine XS.iloadN X6.here hx rfl (hb hby d2_35) rfl ?_
    show Steps p.tables e below (T6.setTop (mkF m 36 #[.val (.ref a1), .val (.ref a2), .val (.int (0 : Int32)), .val (.int (1 : Int32)), .val .null, .unset] [(.int (1 : Int32)), (.int (0 : Int32)), (.ref a2)])) _
    exact k
  obtain ⟨_, _, ⟨T9, L9, k9, n9⟩, -, X9, ⟨Lc9, hQ9, l9, y9, z9⟩, st9⟩ := Jvm.LawKit.callS X6 hx (y := (⟨"java/lang/StringUTF16", "compress", "([CII)[B"⟩ : MethodName)) hown (mvT hZ (hw _ (List.mem_of_getElem? (i := 16) rfl))) (mvT hZ (hw _ (List.mem_of_getElem? (i := 17) rfl))) (mvT hZ (hw _ (List.mem_of_getElem? (i := 18) rfl))) (mvT hZ (hw _ (List.mem_of_getElem? (i := 19) rfl))) (by decide) (backOf (W := 0) (rmC3 l Z a0 hw [] a2 k2 cc h0 n0 Z0 V2 hc) hZ (hw _ (List.mem_of_getElem? (i := 19) rfl)) (hw _ (List.mem_of_getElem? (i := 18) rfl)) (by decide) (by decide)) (g := (mkF m 36 #[.val (.ref a1), .val (.ref a2), .val (.int (0 : Int32)), .val (.int (1 : Int32)), .val .null, .unset] [(.int (1 : Int32)), (.int (0 : Int32)), (.ref a2)])) rfl (by rw [hml]; rfl) (argsL := [(.ref a2), (.int (0 : Int32)), (.int (1 : Int32))]) (rest := []) (lenOf pd_1 rfl) rfl (by show 2 * 0 + _ ≤ _; exact Nat.le_of_eq rfl) (hb hby d2_36) (fun _ _ => ⟨rfl, e6, (by decide : 0 + 1 ≤ ({ frames := 2, cells := 1, slots := 1, locals := 35 } : Room).cells), (by decide : 0 + 1 ≤ ({ frames := 2, cells := 1, slots := 1, locals := 35 } : Room).slots)⟩)
  dsimp only [Pt.U, Pt.locs, Pt.cells, Pt.slots] at X9 l9 y9 z9 st9 hQ9
  subst l9 y9 z9
  obtain ⟨bb9, kk9, rfl, N9q, Kq9, gq9, leq9, Vq9⟩ := hQ9
  have N9 := Fr.app N0 N9q
  have le_bb9 := leq9
  have gn_bb9 : n0 ≤ bb9 := Nat.le_trans Z0 le_bb9
  have sz_bb9 : h0.size ≤ bb9 := Nat.le_trans K0.1 le_bb9
  have f10 := V2.keep Kq9 nin0
  have f11 := E1.keep Kq9
  have f12 := FV.keep Kq9 nin0
  have f13 := FC.keep Kq9 nin0
  have O14 := O0.keep Kq9 all0
  have Z15 := Nat.le_trans Z0 Kq9.1
  have K16 := K0.trans Kq9 all0
  have go17 : Goes p e below s₁ (entryFrame m #[(.ref a1), (.ref a2), (.int (0 : Int32)), (.int (1 : Int32)), .null] 6) T9 (mkF m 39 #[.val (.ref a1), .val (.ref a2), .val (.int (0 : Int32)), .val (.int (1 : Int32)), .val .null, .unset] [(.ref bb9)]) := fun t k => go8 t (st9 t k)
  have go18 : Goes p e below s₁ (entryFrame m #[(.ref a1), (.ref a2), (.int (0 : Int32)), (.int (1 : Int32)), .null] 6) T9 (mkF m 45 #[.val (.ref a1), .val (.ref a2), .val (.int (0 : Int32)), .val (.int (1 : Int32)), .val .null, .val (.ref bb9)] [(.int (1 : Int32)), (.ref bb9), (.ref a1)]) := fun t k => by
    refine go17 t ?_
    refine XS.astore X9.here hx rfl (hb hby d2_39) rfl rfl (l' := #[.val (.ref a1), .val (.ref a2), .val (.int (0 : Int32)), .val (.int (1 : Int32)), .val .null, .val (.ref bb9)]) rfl ?_
    show Steps p.tables e below (T9.setTop (mkF m 41 #[.val (.ref a1), .val (.ref a2), .val (.int (0 : Int32)), .val (.int (1 : Int32)), .val .null, .val (.ref bb9)] [])) _
    refine XS.aloadN X9.here hx rfl (hb hby d2_41) rfl rfl ?_
    show Steps p.tables e below (T9.setTop (mkF m 42 #[.val (.ref a1), .val (.ref a2), .val (.int (0 : Int32)), .val (.int (1 : Int32)), .val .null, .val (.ref bb9)] [(.ref a1)])) _
    refine XS.aload X9.here hx rfl (hb hby d2_42) rfl rfl ?_
    show Steps p.tables e below (T9.setTop (mkF m 44 #[.val (.ref a1), .val (.ref a2), .val (.int (0 : Int32)), .val (.int (1 : Int32)), .val .null, .val (.ref bb9)] [(.ref bb9), (.ref a1)])) _
    refine XS.iloadN X9.here hx rfl (hb hby d2_44) rfl ?_
    show Steps p.tables e below (T9.setTop (mkF m 45 #[.val (.ref a1), .val (.ref a2), .val (.int (0 : Int32)), .val (.int (1 : Int32)), .val .null, .val (.ref bb9)] [(.int (1 : Int32)), (.ref bb9), (.ref a1)])) _
    exact k
  obtain ⟨_, _, ⟨T19, L19, k19, n19⟩, -, X19, ⟨Lc19, hQ19, l19, y19, z19⟩, st19⟩ := Jvm.LawKit.callS X9 hx (y := (⟨"java/lang/StringUTF16", "coderFromArrayLen", "([BI)B"⟩ : MethodName)) hown (mvT hZ (hw _ (List.mem_of_getElem? (i := 24) rfl))) (mvT hZ (hw _ (List.mem_of_getElem? (i := 25) rfl))) (mvT hZ (hw _ (List.mem_of_getElem? (i := 18) rfl))) (mvT hZ (hw _ (List.mem_of_getElem? (i := 26) rfl))) (by decide) (backOf (W := 1) (rmCo l Z a0 hw [] bb9 kk9 (.int (nar .byte (cc.toInt8.toInt32))) T9.heap n0 Z15 Vq9) hZ (hw _ (List.mem_of_getElem? (i := 26) rfl)) (hw _ (List.mem_of_getElem? (i := 18) rfl)) (by decide) (by decide)) (g := (mkF m 45 #[.val (.ref a1), .val (.ref a2), .val (.int (0 : Int32)), .val (.int (1 : Int32)), .val .null, .val (.ref bb9)] [(.int (1 : Int32)), (.ref bb9), (.ref a1)])) rfl (by rw [hml]; rfl) (argsL := [(.ref bb9), (.int (1 : Int32))]) (rest := [(.ref a1)]) (lenOf pd_2 rfl) rfl (by show 2 * 0 + _ ≤ _; exact Nat.le_of_eq rfl) (hb hby d2_45) (fun _ _ => ⟨rfl, rfl, (by decide : 1 + 0 ≤ ({ frames := 2, cells := 1, slots := 1, locals := 35 } : Room).cells), (by decide : 1 + 0 ≤ ({ frames := 2, cells := 1, slots := 1, locals := 35 } : Room).slots)⟩)
  dsimp only [Pt.U, Pt.locs, Pt.cells, Pt.slots] at X19 l19 y19 z19 st19 hQ19
  subst l19 y19 z19
  obtain ⟨rfl, N19q, e19⟩ := hQ19
  have N19 := Fr.app N9 N19q
  have go20 : Goes p e below s₁ (entryFrame m #[(.ref a1), (.ref a2), (.int (0 : Int32)), (.int (1 : Int32)), .null] 6) T19 (mkF m 48 #[.val (.ref a1), .val (.ref a2), .val (.int (0 : Int32)), .val (.int (1 : Int32)), .val .null, .val (.ref bb9)] [(.int (0 : Int32)), (.ref a1)]) := fun t k => go18 t (st19 t k)
  obtain ⟨T21, h21, X21, e21, W21, st21⟩ := putFN X19 hx hZ hown (hw _ (List.mem_of_getElem? (i := 27) rfl)) Via.refl e19 f13 f11 (Or.inr ⟨(hw _ (List.mem_of_getElem? (i := 28) rfl)), rfl, hnm⟩) (hw _ (List.mem_of_getElem? (i := 3) rfl)) (ty := .byte) (v' := (.int (0 : Int32))) (by decide) rfl rfl (g := (mkF m 48 #[.val (.ref a1), .val (.ref a2), .val (.int (0 : Int32)), .val (.int (1 : Int32)), .val .null, .val (.ref bb9)] [(.int (0 : Int32)), (.ref a1)])) rfl rfl (hb hby d2_48)
  have f22 := f13.same W21
  have f23 := f10.other W21 (Ne.symm ne12)
  have f24 := f11.wr W21
  have f25 := f12.other W21 (Or.inr (slot_ne (Or.inr (hw _ (List.mem_of_getElem? (i := 30) rfl))) (Or.inr (hw _ (List.mem_of_getElem? (i := 28) rfl))) (by decide) (t := (.array .byte)) (t' := .byte) (by decide) (by decide)))
  have f26 := Vq9.other W21 (Ne.symm (Nat.ne_of_lt (Nat.lt_of_lt_of_le FC.lt le_bb9)))
  have O27 := O14.wr W21 g1
  have Z28 := Nat.le_trans Z15 (Nat.le_of_eq W21.size.symm)
  have K29 := K16.wr W21 (Or.inl (List.mem_of_getElem? (i := 0) rfl))
  have N30 := Fr.snoc X21 N19 g1
  have go31 : Goes p e below s₁ (entryFrame m #[(.ref a1), (.ref a2), (.int (0 : Int32)), (.int (1 : Int32)), .null] 6) T21 (mkF m 51 #[.val (.ref a1), .val (.ref a2), .val (.int (0 : Int32)), .val (.int (1 : Int32)), .val .null, .val (.ref bb9)] []) := fun t k => go20 t (st21 t k)
  have go32 : Goes p e below s₁ (entryFrame m #[(.ref a1), (.ref a2), (.int (0 : Int32)), (.int (1 : Int32)), .null] 6) T21 (mkF m 54 #[.val (.ref a1), .val (.ref a2), .val (.int (0 : Int32)), .val (.int (1 : Int32)), .val .null, .val (.ref bb9)] [(.ref bb9), (.ref a1)]) := fun t k => by
    refine go31 t ?_
    refine XS.aloadN X21.here hx rfl (hb hby d2_51) rfl rfl ?_
    show Steps p.tables e below (T21.setTop (mkF m 52 #[.val (.ref a1), .val (.ref a2), .val (.int (0 : Int32)), .val (.int (1 : Int32)), .val .null, .val (.ref bb9)] [(.ref a1)])) _
    refine XS.aload X21.here hx rfl (hb hby d2_52) rfl rfl ?_
    show Steps p.tables e below (T21.setTop (mkF m 54 #[.val (.ref a1), .val (.ref a2), .val (.int (0 : Int32)), .val (.int (1 : Int32)), .val .null, .val (.ref bb9)] [(.ref bb9), (.ref a1)])) _
    exact k
  obtain ⟨T33, h33, X33, e33, W33, st33⟩ := putF X21 hx hZ hown (host := "") (Or.inl (hw _ (List.mem_of_getElem? (i := 29) rfl))) Via.refl e21 f25 f24 (Or.inr ⟨(hw _ (List.mem_of_getElem? (i := 30) rfl)), rfl, hnm⟩) (hw _ (List.mem_of_getElem? (i := 3) rfl)) (ty := (.array .byte)) (by decide) rfl rfl (g := (mkF m 54 #[.val (.ref a1), .val (.ref a2), .val (.int (0 : Int32)), .val (.int (1 : Int32)), .val .null, .val (.ref bb9)] [(.ref bb9), (.ref a1)])) rfl rfl (hb hby d2_54)
  have f34 := f25.same W33
  have f35 := f23.other W33 (Ne.symm ne12)
  have f36 := f24.wr W33
  have f37 := f26.other W33 (Ne.symm (Nat.ne_of_lt (Nat.lt_of_lt_of_le FC.lt le_bb9)))
  have f38 := f22.other W33 (Or.inr (slot_ne (Or.inr (hw _ (List.mem_of_getElem? (i := 28) rfl))) (Or.inr (hw _ (List.mem_of_getElem? (i := 30) rfl))) (by decide) (t := .byte) (t' := (.array .byte)) (by decide) (by decide)))
  have O39 := O27.wr W33 g1
  have Z40 := Nat.le_trans Z28 (Nat.le_of_eq W33.size.symm)
  have K41 := K29.wr W33 (Or.inl (List.mem_of_getElem? (i := 0) rfl))
  have N42 := Fr.snoc X33 N30 g1
  have go43 : Goes p e below s₁ (entryFrame m #[(.ref a1), (.ref a2), (.int (0 : Int32)), (.int (1 : Int32)), .null] 6) T33 (mkF m 57 #[.val (.ref a1), .val (.ref a2), .val (.int (0 : Int32)), .val (.int (1 : Int32)), .val .null, .val (.ref bb9)] []) := fun t k => go32 t (st33 t k)
  obtain ⟨fs, hr, hrun, hended, hW, hsame⟩ := X33.leave (v := none) (fun _ => rfl)
  refine ⟨_, _, go43 _ ?_, hrun, hended, _, _, rfl, ?_, ⟨_, rfl⟩, hW, hsame.mono (by decide) (by decide)⟩
  · exact X33.returnOut hx Bd.returns (hb hby d2_57) hr
  · show QI4 Z _ _ _ _ _ _ _ _ T33.heap _
    rw [e33]
    exact ⟨rfl, N42, K41, f38, bb9, kk9, gn_bb9, sz_bb9, f34, f37⟩
theorem pd_3 : parseMethodDescriptor "([CIILjava/lang/Void;)V" = some ⟨[(.array .char), .int, .int, (.object "java/lang/Void")], none⟩ := by decide +kernel
theorem d1_0 : decode jdk_42_method_3_code 0 = .ok (.aload_n 0, 1) := by decide +kernel
theorem d1_1 : decode jdk_42_method_3_code 1 = .ok (.aload_n 1, 1) := by decide +kernel
theorem d1_2 : decode jdk_42_method_3_code 2 = .ok (.iconst 0, 1) := by decide +kernel
theorem d1_3 : decode jdk_42_method_3_code 3 = .ok (.aload_n 1, 1) := by decide +kernel
theorem d1_4 : decode jdk_42_method_3_code 4 = .ok (.arraylength, 1) := by decide +kernel
theorem d1_5 : decode jdk_42_method_3_code 5 = .ok (.aconst_null, 1) := by decide +kernel
theorem d1_6 : decode jdk_42_method_3_code 6 = .ok (.invokespecial 27, 3) := by decide +kernel
theorem d1_9 : decode jdk_42_method_3_code 9 = .ok (.return_, 1) := by decide +kernel
theorem ef_rmI1 (m : MethodId) (a1 : Addr) (a2 : Addr) : entryFrame m #[(.ref a1), (.ref a2)] 2 = mkF m 0 #[.val (.ref a1), .val (.ref a2)] [] := by first | (simp [entryFrame, mkF, argsToLocals, Value.category]; done) | rfl
def QI1 (Z : State) (a1 : Addr) (a2 : Addr) (k2 : ClassId) (cc cs : Int32) (h0 : Heap) (n0 : Nat) (v : Option Value) (h : Heap) (L : List Loc) : Prop := v = none ∧ Fr n0 L ∧ Keep h0 h [a1] ∧ Fld Z h a1 "java/lang/String" "coder" "B" (.int (0 : Int32)) ∧ ∃ (b : Addr) (kb : ClassId), n0 ≤ b ∧ h0.size ≤ b ∧ Fld Z h a1 "java/lang/String" "value" "[B" (.ref b) ∧ Arv Z h b kb .byte 1 [(.int (nar .byte (cc.toInt8.toInt32)))] (.int (0 : Int32))
set_option maxRecDepth 65536 in
set_option maxHeartbeats 40000000 in
theorem rmI1 (l : Launch) (Z : State) (a0 : Array Value) (hw : ∀ d ∈ tables_1, d.before a0 Z = true) (ws : List Jvm.Cond) (a1 : Addr) (a2 : Addr) (k2 : ClassId) (cc cs : Int32) (h0 : Heap) (n0 : Nat) (Z0 : n0 ≤ h0.size) (O0 : Old Z n0 h0) (S_CS : Sta Z Z.heap "java/lang/String" "COMPACT_STRINGS" "Z" (.int cs)) (hcs : ¬ cs = 0) (V2 : Arv Z h0 a2 k2 .char 1 [(.int cc)] (.int (0 : Int32))) (hc : ¬ (255 : Int32) < cc) (E1 : Exa Z h0 a1 "java/lang/String") (FV : Fld Z h0 a1 "java/lang/String" "value" "[B" .null) (FC : Fld Z h0 a1 "java/lang/String" "coder" "B" (.int (0 : Int32))) (g1 : n0 ≤ a1) :
    MetFree l (⟨"java/lang/String", "<init>", "([C)V"⟩ : MethodName) (head1 (Jvm.Cond.code (⟨"java/lang/String", "<init>", "([C)V"⟩ : MethodName) jdk_42_method_3_code 2 none :: ws) ({ frames := 3, cells := 1, slots := 1, locals := 52 } : Room)) (fun a U => a = #[(.ref a1), (.ref a2)] ∧ Z.Warmed39 U.vm ∧ U.heap = h0) (fun _ _ _ _ _ => True) (fun _ U o U' => ∃ v L, o = .returned v ∧ QI1 Z a1 a2 k2 cc cs h0 n0 v U'.heap L ∧ FrameEnd U o U' L ({ frames := 3, cells := 1, slots := 1, locals := 52 } : Room).cells ({ frames := 3, cells := 1, slots := 1, locals := 52 } : Room).slots) := by
  refine MetFree.of_bodySF (plainFor_of_name pn_1) hisR ?_
  intro p e s m args below meth c s₁ Bd hml0 hP hK
  obtain ⟨rfl, hZ, hh⟩ := hP
  have hx := Bd.exec
  have hby := Bd.bytes
  have hml : c.maxLocals = 2 := hml0
  have hown : s.vm.findClass "java/lang/String" = some m.cls := findClass_of_methodNamed Bd.named
  have hnm := (name_of_methodNamed Bd.named Bd.method).1
  have X0 : Stand p l e ({ frames := 3, cells := 1, slots := 1, locals := 52 } : Room) s m #[(.ref a1), (.ref a2)] below meth c s₁ [] 0 0 := Stand.of_body Bd
  have e0 : s₁.heap = h0 := by rw [← hh, Bd.state]; rfl
  have N0 := Fr.nil n0
  have K0 := Keep.refl h0 [a1]
  have go0 : Goes p e below s₁ (entryFrame m #[(.ref a1), (.ref a2)] 2) s₁ (mkF m 0 #[.val (.ref a1), .val (.ref a2)] []) := fun t k => castTop (ef_rmI1 m a1 a2) k
  have ne12 : a1 ≠ a2 := by obtain ⟨cl, A, -⟩ := id V2; exact ne_arr E1 (hw _ (List.mem_of_getElem? (i := 3) rfl)) A
  have go1 : Goes p e below s₁ (entryFrame m #[(.ref a1), (.ref a2)] 2) s₁ (mkF m 4 #[.val (.ref a1), .val (.ref a2)] [(.ref a2), (.int (0 : Int32)), (.ref a2), (.ref a1)]) := fun t k => by
    refine go0 t ?_
    refine XS.aloadN X0.here hx rfl (hb hby d1_0) rfl rfl ?_
    show Steps p.tables e below (s₁.setTop (mkF m 1 #[.val (.ref a1), .val (.ref a2)] [(.ref a1)])) _
    refine XS.aloadN X0.here hx rfl (hb hby d1_1) rfl rfl ?_
    show Steps p.tables e below (s₁.setTop (mkF m 2 #[.val (.ref a1), .val (.ref a2)] [(.ref a2), (.ref a1)])) _
    refine XS.iconst X0.here hx rfl (hb hby d1_2) ?_
    show Steps p.tables e below (s₁.setTop (mkF m 3 #[.val (.ref a1), .val (.ref a2)] [(.int (0 : Int32)), (.ref a2), (.ref a1)])) _
    refine XS.aloadN X0.here hx rfl (hb hby d1_3) rfl rfl ?_
    show Steps p.tables e below (s₁.setTop (mkF m 4 #[.val (.ref a1), .val (.ref a2)] [(.ref a2), (.int (0 : Int32)), (.ref a2), (.ref a1)])) _
    exact k
  obtain ⟨cl2, Ar2, kq2, Sz2, Nn2, Hs2, Gf2⟩ := id (V2)
  have go3 : Goes p e below s₁ (entryFrame m #[(.ref a1), (.ref a2)] 2) s₁ (mkF m 6 #[.val (.ref a1), .val (.ref a2)] [.null, (.int (1 : Int32)), (.int (0 : Int32)), (.ref a2), (.ref a1)]) := fun t k => by
    refine go1 t ?_
    refine X0.arraylength hx (own_hp e0 Ar2.1) (State.isArrayOf_alike hZ.alike Ar2.2.1) (g := (mkF m 4 #[.val (.ref a1), .val (.ref a2)] [(.ref a2), (.int (0 : Int32)), (.ref a2), (.ref a1)])) rfl rfl (hb hby d1_4) _ ?_
    rw [len_of Sz2 Nn2]
    show Steps p.tables e below (s₁.setTop (mkF m 5 #[.val (.ref a1), .val (.ref a2)] [(.int (1 : Int32)), (.int (0 : Int32)), (.ref a2), (.ref a1)])) _
    refine XS.aconstNull X0.here hx rfl (hb hby d1_5) ?_
    show Steps p.tables e below (s₁.setTop (mkF m 6 #[.val (.ref a1), .val (.ref a2)] [.null, (.int (1 : Int32)), (.int (0 : Int32)), (.ref a2), (.ref a1)])) _
    exact k
  obtain ⟨_, _, ⟨T4, L4, k4, n4⟩, -, X4, ⟨Lc4, hQ4, l4, y4, z4⟩, st4⟩ := X0.specialBack hx (y := (⟨"java/lang/String", "<init>", "([CIILjava/lang/Void;)V"⟩ : MethodName)) rfl hown (mvT hZ (hw _ (List.mem_of_getElem? (i := 8) rfl))) (mvT hZ (hw _ (List.mem_of_getElem? (i := 9) rfl))) (mvT hZ (hw _ (List.mem_of_getElem? (i := 11) rfl))) (by decide) (backOf (W := 0) (rmI4 l Z a0 hw [] a1 a2 k2 cc cs h0 n0 Z0 O0 S_CS hcs V2 hc E1 FV FC g1) hZ (hw _ (List.mem_of_getElem? (i := 11) rfl)) (hw _ (List.mem_of_getElem? (i := 4) rfl)) (by decide) (by decide)) (g := (mkF m 6 #[.val (.ref a1), .val (.ref a2)] [.null, (.int (1 : Int32)), (.int (0 : Int32)), (.ref a2), (.ref a1)])) rfl (by rw [hml]; rfl) (Steps.refl _) (a := a1) (argsL := [(.ref a2), (.int (0 : Int32)), (.int (1 : Int32)), .null]) (rest := []) (lenOf pd_3 rfl) rfl (by show 2 * 0 + _ ≤ _; exact Nat.le_of_eq rfl) (hb hby d1_6) (fun _ _ => ⟨rfl, e0, (by decide : 0 + 1 ≤ ({ frames := 3, cells := 1, slots := 1, locals := 52 } : Room).cells), (by decide : 0 + 1 ≤ ({ frames := 3, cells := 1, slots := 1, locals := 52 } : Room).slots)⟩)
  dsimp only [Pt.U, Pt.locs, Pt.cells, Pt.slots] at X4 l4 y4 z4 st4 hQ4
  subst l4 y4 z4
  obtain ⟨rfl, N4q, Kq4, Cq4, Rq4⟩ := hQ4
  have N4 := Fr.app N0 N4q
  have go5 : Goes p e below s₁ (entryFrame m #[(.ref a1), (.ref a2)] 2) T4 (mkF m 9 #[.val (.ref a1), .val (.ref a2)] []) := fun t k => go3 t (st4.trans k)
  obtain ⟨fs, hr, hrun, hended, hW, hsame⟩ := X4.leave (v := none) (fun _ => rfl)
  refine ⟨_, _, go5 _ ?_, hrun, hended, _, _, rfl, ?_, ⟨_, rfl⟩, hW, hsame.mono (by decide) (by decide)⟩
  · exact X4.returnOut hx Bd.returns (hb hby d1_9) hr
  · show QI1 Z _ _ _ _ _ _ _ _ T4.heap _
    exact ⟨rfl, N4, Kq4, Cq4, Rq4⟩
theorem d13_0 : decode jdk_43_method_3_code 0 = .ok (.iload_n 0, 1) := by decide +kernel
theorem d13_1 : decode jdk_43_method_3_code 1 = .ok (.sipush 255, 3) := by decide +kernel
theorem d13_4 : decode jdk_43_method_3_code 4 = .ok (.if_icmp .gt 7, 3) := by decide +kernel
theorem d13_7 : decode jdk_43_method_3_code 7 = .ok (.iconst 1, 1) := by decide +kernel
theorem d13_8 : decode jdk_43_method_3_code 8 = .ok (.goto 4, 3) := by decide +kernel
theorem d13_11 : decode jdk_43_method_3_code 11 = .ok (.iconst 0, 1) := by decide +kernel
theorem d13_12 : decode jdk_43_method_3_code 12 = .ok (.ireturn, 1) := by decide +kernel
theorem pn_2 : plainName "java/lang/StringLatin1" = true := by first | (simp [plainName, overriddenIn]; done) | decide +kernel
theorem ef_rmCa (m : MethodId) (cc : Int32) : entryFrame m #[(.int cc)] 1 = mkF m 0 #[.val (.int cc)] [] := by first | (simp [entryFrame, mkF, argsToLocals, Value.category]; done) | rfl
def QCa (Z : State) (cc : Int32) (h0 : Heap) (n0 : Nat) (v : Option Value) (h : Heap) (L : List Loc) : Prop := v = some (.int 1) ∧ Fr n0 L ∧ h = h0
set_option maxRecDepth 65536 in
set_option maxHeartbeats 40000000 in
theorem rmCa (l : Launch) (Z : State) (a0 : Array Value) (hw : ∀ d ∈ tables_1, d.before a0 Z = true) (ws : List Jvm.Cond) (cc : Int32) (h0 : Heap) (n0 : Nat) (Z0 : n0 ≤ h0.size) (hc : ¬ (255 : Int32) < cc) :
    MetFree l (⟨"java/lang/StringLatin1", "canEncode", "(C)Z"⟩ : MethodName) (head1 (Jvm.Cond.code (⟨"java/lang/StringLatin1", "canEncode", "(C)Z"⟩ : MethodName) jdk_43_method_3_code 1 (some .boolean) :: ws) ({ frames := 0, cells := 0, slots := 0, locals := 0 } : Room)) (fun a U => a = #[(.int cc)] ∧ Z.Warmed39 U.vm ∧ U.heap = h0) (fun _ _ _ _ _ => True) (fun _ U o U' => ∃ v L, o = .returned v ∧ QCa Z cc h0 n0 v U'.heap L ∧ FrameEnd U o U' L ({ frames := 0, cells := 0, slots := 0, locals := 0 } : Room).cells ({ frames := 0, cells := 0, slots := 0, locals := 0 } : Room).slots) := by
  refine MetFree.of_bodySF (plainFor_of_name pn_2) hisR ?_
  intro p e s m args below meth c s₁ Bd hml0 hP hK
  obtain ⟨rfl, hZ, hh⟩ := hP
  have hx := Bd.exec
  have hby := Bd.bytes
  have hml : c.maxLocals = 1 := hml0
  have hown : s.vm.findClass "java/lang/StringLatin1" = some m.cls := findClass_of_methodNamed Bd.named
  have hnm := (name_of_methodNamed Bd.named Bd.method).1
  have X0 : Stand p l e ({ frames := 0, cells := 0, slots := 0, locals := 0 } : Room) s m #[(.int cc)] below meth c s₁ [] 0 0 := Stand.of_body Bd
  have e0 : s₁.heap = h0 := by rw [← hh, Bd.state]; rfl
  have N0 := Fr.nil n0
  have K0 := Keep.refl h0 []
  have go0 : Goes p e below s₁ (entryFrame m #[(.int cc)] 1) s₁ (mkF m 0 #[.val (.int cc)] []) := fun t k => castTop (ef_rmCa m cc) k
  have go1 : Goes p e below s₁ (entryFrame m #[(.int cc)] 1) s₁ (mkF m 4 #[.val (.int cc)] [(.int (255 : Int32)), (.int cc)]) := fun t k => by
    refine go0 t ?_
    refine XS.iloadN X0.here hx rfl (hb hby d13_0) rfl ?_
    show Steps p.tables e below (s₁.setTop (mkF m 1 #[.val (.int cc)] [(.int cc)])) _
    refine XS.sipush X0.here hx rfl (hb hby d13_1) ?_
    show Steps p.tables e below (s₁.setTop (mkF m 4 #[.val (.int cc)] [(.int (255 : Int32)), (.int cc)])) _
    exact k
  have go2 : Goes p e below s₁ (entryFrame m #[(.int cc)] 1) s₁ (mkF m 12 #[.val (.int cc)] [(.int (1 : Int32))]) := fun t k => by
    refine go1 t ?_
    refine XS.icmpNo X0.here hx rfl (hb hby d13_4) rfl (Jvm.Free.XT.ii_gt_f hc) ?_
    show Steps p.tables e below (s₁.setTop (mkF m 7 #[.val (.int cc)] [])) _
    refine XS.iconst X0.here hx rfl (hb hby d13_7) ?_
    show Steps p.tables e below (s₁.setTop (mkF m 8 #[.val (.int cc)] [(.int (1 : Int32))])) _
    refine XS.goto X0.here hx rfl (pc0 := 8) (pc' := 12) rfl (hb hby d13_8) (by decide) (by decide) ?_
    show Steps p.tables e below (s₁.setTop (mkF m 12 #[.val (.int cc)] [(.int (1 : Int32))])) _
    exact k
  obtain ⟨fs, hr, hrun, hended, hW, hsame⟩ := X0.leave (v := some (.int (1 : Int32))) (fun h => by rw [Bd.returns] at h; cases h)
  refine ⟨_, _, go2 _ ?_, hrun, hended, _, _, rfl, ?_, ⟨_, rfl⟩, hW, hsame.mono (by decide) (by decide)⟩
  · exact retN X0 hx (t := .boolean) Bd.returns (by simp) (hb hby d13_12) hr
  · show QCa Z _ _ _ _ s₁.heap _
    rw [e0]
    exact ⟨rfl, N0, rfl⟩
theorem d14_0 : decode jdk_43_method_46_code 0 = .ok (.iconst 1, 1) := by decide +kernel
theorem d14_1 : decode jdk_43_method_46_code 1 = .ok (.newarray .byte, 2) := by decide +kernel
theorem d14_3 : decode jdk_43_method_46_code 3 = .ok (.dup, 1) := by decide +kernel
theorem d14_4 : decode jdk_43_method_46_code 4 = .ok (.iconst 0, 1) := by decide +kernel
theorem d14_5 : decode jdk_43_method_46_code 5 = .ok (.iload_n 0, 1) := by decide +kernel
theorem d14_6 : decode jdk_43_method_46_code 6 = .ok (.i2b, 1) := by decide +kernel
theorem d14_7 : decode jdk_43_method_46_code 7 = .ok (.bastore, 1) := by decide +kernel
theorem d14_8 : decode jdk_43_method_46_code 8 = .ok (.areturn, 1) := by decide +kernel
theorem ef_rmTb (m : MethodId) (cc : Int32) : entryFrame m #[(.int cc)] 1 = mkF m 0 #[.val (.int cc)] [] := by first | (simp [entryFrame, mkF, argsToLocals, Value.category]; done) | rfl
def QTb (Z : State) (cc : Int32) (h0 : Heap) (n0 : Nat) (v : Option Value) (h : Heap) (L : List Loc) : Prop := ∃ (b : Addr), v = some (.ref b) ∧ Fr n0 L ∧ Keep h0 h [] ∧ n0 ≤ b ∧ h0.size ≤ b
set_option maxRecDepth 65536 in
set_option maxHeartbeats 40000000 in
theorem rmTb (l : Launch) (Z : State) (a0 : Array Value) (hw : ∀ d ∈ tables_1, d.before a0 Z = true) (ws : List Jvm.Cond) (cc : Int32) (h0 : Heap) (n0 : Nat) (Z0 : n0 ≤ h0.size) :
    MetFree l (⟨"java/lang/StringLatin1", "toBytes", "(C)[B"⟩ : MethodName) (head1 (Jvm.Cond.code (⟨"java/lang/StringLatin1", "toBytes", "(C)[B"⟩ : MethodName) jdk_43_method_46_code 1 (some (.array .byte)) :: ws) ({ frames := 0, cells := 1, slots := 1, locals := 0 } : Room)) (fun a U => a = #[(.int cc)] ∧ Z.Warmed39 U.vm ∧ U.heap = h0) (fun _ _ _ _ _ => True) (fun _ U o U' => ∃ v L, o = .returned v ∧ QTb Z cc h0 n0 v U'.heap L ∧ FrameEnd U o U' L ({ frames := 0, cells := 1, slots := 1, locals := 0 } : Room).cells ({ frames := 0, cells := 1, slots := 1, locals := 0 } : Room).slots) := by
  refine MetFree.of_bodySF (plainFor_of_name pn_2) hisR ?_
  intro p e s m args below meth c s₁ Bd hml0 hP hK
  obtain ⟨rfl, hZ, hh⟩ := hP
  have hx := Bd.exec
  have hby := Bd.bytes
  have hml : c.maxLocals = 1 := hml0
  have hown : s.vm.findClass "java/lang/StringLatin1" = some m.cls := findClass_of_methodNamed Bd.named
  have hnm := (name_of_methodNamed Bd.named Bd.method).1
  have X0 : Stand p l e ({ frames := 0, cells := 1, slots := 1, locals := 0 } : Room) s m #[(.int cc)] below meth c s₁ [] 0 0 := Stand.of_body Bd
  have e0 : s₁.heap = h0 := by rw [← hh, Bd.state]; rfl
  have N0 := Fr.nil n0
  have K0 := Keep.refl h0 []
  have go0 : Goes p e below s₁ (entryFrame m #[(.int cc)] 1) s₁ (mkF m 0 #[.val (.int cc)] []) := fun t k => castTop (ef_rmTb m cc) k
  have go1 : Goes p e below s₁ (entryFrame m #[(.int cc)] 1) s₁ (mkF m 1 #[.val (.int cc)] [(.int (1 : Int32))]) := fun t k => by
    refine go0 t ?_
    refine XS.iconst X0.here hx rfl (hb hby d14_0) ?_
    show Steps p.tables e below (s₁.setTop (mkF m 1 #[.val (.int cc)] [(.int (1 : Int32))])) _
    exact k
  obtain ⟨T2, h2, k2, X2, e2, E2, A2, st2⟩ := newP X0 hx hZ (hw _ (List.mem_of_getElem? (i := 20) rfl)) e0 (g := (mkF m 1 #[.val (.int cc)] [(.int (1 : Int32))])) rfl (hb hby d14_1) rfl (by decide) (cap := 1) (by decide) (by decide) (by decide) (by decide)
  obtain ⟨b2, g_b_b2⟩ : ∃ z, z = h0.size := ⟨_, rfl⟩
  have le_b2 : h0.size ≤ b2 := Nat.le_of_eq g_b_b2.symm
  have gn_b2 : n0 ≤ b2 := Nat.le_trans Z0 le_b2
  have sz_b2 : h0.size ≤ b2 := Nat.le_trans K0.1 le_b2
  rw [← g_b_b2] at A2 st2
  have Z3 := Nat.le_trans Z0 E2.1
  have K4 := K0.ext E2
  have V5 : Arv Z h2 b2 k2 .byte (1 : Int32) [(.int (0 : Int32))] (.int (0 : Int32)) := (Arv.new A2 (by decide)).pad (pad_rep [] (.int (0 : Int32)) 1)
  have go6 : Goes p e below s₁ (entryFrame m #[(.int cc)] 1) T2 (mkF m 3 #[.val (.int cc)] [(.ref b2)]) := fun t k => go1 t (st2 t k)
  have go7 : Goes p e below s₁ (entryFrame m #[(.int cc)] 1) T2 (mkF m 7 #[.val (.int cc)] [(.int (cc.toInt8.toInt32)), (.int (0 : Int32)), (.ref b2), (.ref b2)]) := fun t k => by
    refine go6 t ?_
    refine XS.dup X2.here hx rfl (hb hby d14_3) rfl rfl ?_
    show Steps p.tables e below (T2.setTop (mkF m 4 #[.val (.int cc)] [(.ref b2), (.ref b2)])) _
    refine XS.iconst X2.here hx rfl (hb hby d14_4) ?_
    show Steps p.tables e below (T2.setTop (mkF m 5 #[.val (.int cc)] [(.int (0 : Int32)), (.ref b2), (.ref b2)])) _
    refine XS.iloadN X2.here hx rfl (hb hby d14_5) rfl ?_
    show Steps p.tables e below (T2.setTop (mkF m 6 #[.val (.int cc)] [(.int cc), (.int (0 : Int32)), (.ref b2), (.ref b2)])) _
    refine XS.i2b X2.here hx rfl (hb hby d14_6) rfl ?_
    show Steps p.tables e below (T2.setTop (mkF m 7 #[.val (.int cc)] [(.int (cc.toInt8.toInt32)), (.int (0 : Int32)), (.ref b2), (.ref b2)])) _
    exact k
  obtain ⟨cl8, Ar8, kq8, Sz8, Nn8, Hs8, Gf8⟩ := id (V5)
  have hin8 : ¬ ((0 : Int32) < 0 ∨ cl8.slots.size ≤ ((0 : Int32)).toNatClampNeg) := inb_of Sz8 ⟨by decide, by decide⟩
  obtain ⟨T9, h9, X9, e9, W9, st9⟩ := stB X2 hx hZ e2 Ar8 (j := (0 : Int32)) hin8 (g := (mkF m 7 #[.val (.int cc)] [(.int (cc.toInt8.toInt32)), (.int (0 : Int32)), (.ref b2), (.ref b2)])) rfl rfl (hb hby d14_7)
  have V10 : Arv Z h9 b2 k2 .byte (1 : Int32) [(.int (nar .byte (cc.toInt8.toInt32)))] (.int (0 : Int32)) := Arv.set Ar8 kq8 Sz8 Nn8 Hs8 Gf8 (fits_nar_byte _) W9 0 rfl (Nat.le_of_ble_eq_true rfl)
  have Z11 := Nat.le_trans Z3 (Nat.le_of_eq W9.size.symm)
  have K12 := K4.wr W9 (Or.inr sz_b2)
  have N13 := Fr.snoc X9 N0 gn_b2
  have go14 : Goes p e below s₁ (entryFrame m #[(.int cc)] 1) T9 (mkF m 8 #[.val (.int cc)] [(.ref b2)]) := fun t k => go7 t (st9 t k)
  obtain ⟨fs, hr, hrun, hended, hW, hsame⟩ := X9.leave (v := some (.ref b2)) (fun h => by rw [Bd.returns] at h; cases h)
  refine ⟨_, _, go14 _ ?_, hrun, hended, _, _, rfl, ?_, ⟨_, rfl⟩, hW, hsame.mono (by decide) (by decide)⟩
  · jvm_step X9.here [X9.here.top, hx, (hb hby d14_8), X9.method', Bd.returns, Value.isRef, FieldType.isReference]
    first | (intro acts; rw [hr _ acts rfl rfl rfl]) | rw [hr _ _ rfl rfl rfl]
    exact Steps.refl _
  · show QTb Z _ _ _ _ T9.heap _
    rw [e9]
    exact ⟨b2, rfl, N13, K12, gn_b2, sz_b2⟩
theorem d15_0 : decode jdk_42_method_151_code 0 = .ok (.aload_n 0, 1) := by decide +kernel
theorem d15_1 : decode jdk_42_method_151_code 1 = .ok (.invokespecial 1, 3) := by decide +kernel
theorem d15_4 : decode jdk_42_method_151_code 4 = .ok (.aload_n 0, 1) := by decide +kernel
theorem d15_5 : decode jdk_42_method_151_code 5 = .ok (.aload_n 1, 1) := by decide +kernel
theorem d15_6 : decode jdk_42_method_151_code 6 = .ok (.putfield 9, 3) := by decide +kernel
theorem d15_9 : decode jdk_42_method_151_code 9 = .ok (.aload_n 0, 1) := by decide +kernel
theorem d15_10 : decode jdk_42_method_151_code 10 = .ok (.iload_n 2, 1) := by decide +kernel
theorem d15_11 : decode jdk_42_method_151_code 11 = .ok (.putfield 15, 3) := by decide +kernel
theorem d15_14 : decode jdk_42_method_151_code 14 = .ok (.return_, 1) := by decide +kernel
theorem ef_rmIb (m : MethodId) (a1 : Addr) (a2 : Addr) : entryFrame m #[(.ref a1), (.ref a2), (.int (0 : Int32))] 3 = mkF m 0 #[.val (.ref a1), .val (.ref a2), .val (.int (0 : Int32))] [] := by first | (simp [entryFrame, mkF, argsToLocals, Value.category]; done) | rfl
def QIb (Z : State) (a1 : Addr) (a2 : Addr) (h0 : Heap) (n0 : Nat) (v : Option Value) (h : Heap) (L : List Loc) : Prop := v = none ∧ Fr n0 L ∧ Keep h0 h [a1]
set_option maxRecDepth 65536 in
set_option maxHeartbeats 40000000 in
theorem rmIb (l : Launch) (Z : State) (a0 : Array Value) (hw : ∀ d ∈ tables_1, d.before a0 Z = true) (ws : List Jvm.Cond) (a1 : Addr) (a2 : Addr) (h0 : Heap) (n0 : Nat) (Z0 : n0 ≤ h0.size) (E1 : Exa Z h0 a1 "java/lang/String") (FV : Fld Z h0 a1 "java/lang/String" "value" "[B" .null) (FC : Fld Z h0 a1 "java/lang/String" "coder" "B" (.int (0 : Int32))) (g1 : n0 ≤ a1) :
    MetFree l (⟨"java/lang/String", "<init>", "([BB)V"⟩ : MethodName) (head1 (Jvm.Cond.code (⟨"java/lang/String", "<init>", "([BB)V"⟩ : MethodName) jdk_42_method_151_code 3 none :: ws) ({ frames := 1, cells := 0, slots := 0, locals := 12 } : Room)) (fun a U => a = #[(.ref a1), (.ref a2), (.int (0 : Int32))] ∧ Z.Warmed39 U.vm ∧ U.heap = h0) (fun _ _ _ _ _ => True) (fun _ U o U' => ∃ v L, o = .returned v ∧ QIb Z a1 a2 h0 n0 v U'.heap L ∧ FrameEnd U o U' L ({ frames := 1, cells := 0, slots := 0, locals := 12 } : Room).cells ({ frames := 1, cells := 0, slots := 0, locals := 12 } : Room).slots) := by
  refine MetFree.of_bodySF (plainFor_of_name pn_1) hisR ?_
  intro p e s m args below meth c s₁ Bd hml0 hP hK
  obtain ⟨rfl, hZ, hh⟩ := hP
  have hx := Bd.exec
  have hby := Bd.bytes
  have hml : c.maxLocals = 3 := hml0
  have hown : s.vm.findClass "java/lang/String" = some m.cls := findClass_of_methodNamed Bd.named
  have hnm := (name_of_methodNamed Bd.named Bd.method).1
  have X0 : Stand p l e ({ frames := 1, cells := 0, slots := 0, locals := 12 } : Room) s m #[(.ref a1), (.ref a2), (.int (0 : Int32))] below meth c s₁ [] 0 0 := Stand.of_body Bd
  have e0 : s₁.heap = h0 := by rw [← hh, Bd.state]; rfl
  have N0 := Fr.nil n0
  have K0 := Keep.refl h0 [a1]
  have go0 : Goes p e below s₁ (entryFrame m #[(.ref a1), (.ref a2), (.int (0 : Int32))] 3) s₁ (mkF m 0 #[.val (.ref a1), .val (.ref a2), .val (.int (0 : Int32))] []) := fun t k => castTop (ef_rmIb m a1 a2) k
  have go1 : Goes p e below s₁ (entryFrame m #[(.ref a1), (.ref a2), (.int (0 : Int32))] 3) s₁ (mkF m 1 #[.val (.ref a1), .val (.ref a2), .val (.int (0 : Int32))] [(.ref a1)]) := fun t k => by
    refine go0 t ?_
    refine XS.aloadN X0.here hx rfl (hb hby d15_0) rfl rfl ?_
    show Steps p.tables e below (s₁.setTop (mkF m 1 #[.val (.ref a1), .val (.ref a2), .val (.int (0 : Int32))] [(.ref a1)])) _
    exact k
  obtain ⟨T2, X2, e2, st2⟩ := initO X0 hx hZ hown (hw _ (List.mem_of_getElem? (i := 12) rfl)) (hw _ (List.mem_of_getElem? (i := 13) rfl)) (hw _ (List.mem_of_getElem? (i := 14) rfl)) e0 (g := (mkF m 1 #[.val (.ref a1), .val (.ref a2), .val (.int (0 : Int32))] [(.ref a1)])) rfl (by rw [hml]; rfl) rfl (hb hby d15_1) (by decide) (W := 0) (by show 2 * 0 + _ ≤ _; exact Nat.le_of_eq rfl) (by decide)
  have go3 : Goes p e below s₁ (entryFrame m #[(.ref a1), (.ref a2), (.int (0 : Int32))] 3) T2 (mkF m 4 #[.val (.ref a1), .val (.ref a2), .val (.int (0 : Int32))] []) := fun t k => go1 t (st2 t k)
  have go4 : Goes p e below s₁ (entryFrame m #[(.ref a1), (.ref a2), (.int (0 : Int32))] 3) T2 (mkF m 6 #[.val (.ref a1), .val (.ref a2), .val (.int (0 : Int32))] [(.ref a2), (.ref a1)]) := fun t k => by
    refine go3 t ?_
    refine XS.aloadN X2.here hx rfl (hb hby d15_4) rfl rfl ?_
    show Steps p.tables e below (T2.setTop (mkF m 5 #[.val (.ref a1), .val (.ref a2), .val (.int (0 : Int32))] [(.ref a1)])) _
    refine XS.aloadN X2.here hx rfl (hb hby d15_5) rfl rfl ?_
    show Steps p.tables e below (T2.setTop (mkF m 6 #[.val (.ref a1), .val (.ref a2), .val (.int (0 : Int32))] [(.ref a2), (.ref a1)])) _
    exact k
  obtain ⟨T5, h5, X5, e5, W5, st5⟩ := putF X2 hx hZ hown (host := "") (Or.inl (hw _ (List.mem_of_getElem? (i := 29) rfl))) Via.refl e2 FV E1 (Or.inr ⟨(hw _ (List.mem_of_getElem? (i := 30) rfl)), rfl, hnm⟩) (hw _ (List.mem_of_getElem? (i := 3) rfl)) (ty := (.array .byte)) (by decide) rfl rfl (g := (mkF m 6 #[.val (.ref a1), .val (.ref a2), .val (.int (0 : Int32))] [(.ref a2), (.ref a1)])) rfl rfl (hb hby d15_6)
  have f6 := FV.same W5
  have f7 := E1.wr W5
  have f8 := FC.other W5 (Or.inr (slot_ne (Or.inr (hw _ (List.mem_of_getElem? (i := 28) rfl))) (Or.inr (hw _ (List.mem_of_getElem? (i := 30) rfl))) (by decide) (t := .byte) (t' := (.array .byte)) (by decide) (by decide)))
  have Z9 := Nat.le_trans Z0 (Nat.le_of_eq W5.size.symm)
  have K10 := K0.wr W5 (Or.inl (List.mem_of_getElem? (i := 0) rfl))
  have N11 := Fr.snoc X5 N0 g1
  have go12 : Goes p e below s₁ (entryFrame m #[(.ref a1), (.ref a2), (.int (0 : Int32))] 3) T5 (mkF m 9 #[.val (.ref a1), .val (.ref a2), .val (.int (0 : Int32))] []) := fun t k => go4 t (st5 t k)
  have go13 : Goes p e below s₁ (entryFrame m #[(.ref a1), (.ref a2), (.int (0 : Int32))] 3) T5 (mkF m 11 #[.val (.ref a1), .val (.ref a2), .val (.int (0 : Int32))] [(.int (0 : Int32)), (.ref a1)]) := fun t k => by
    refine go12 t ?_
    refine XS.aloadN X5.here hx rfl (hb hby d15_9) rfl rfl ?_
    show Steps p.tables e below (T5.setTop (mkF m 10 #[.val (.ref a1), .val (.ref a2), .val (.int (0 : Int32))] [(.ref a1)])) _
    refine XS.iloadN X5.here hx rfl (hb hby d15_10) rfl ?_
    show Steps p.tables e below (T5.setTop (mkF m 11 #[.val (.ref a1), .val (.ref a2), .val (.int (0 : Int32))] [(.int (0 : Int32)), (.ref a1)])) _
    exact k
  obtain ⟨T14, h14, X14, e14, W14, st14⟩ := putFN X5 hx hZ hown (hw _ (List.mem_of_getElem? (i := 27) rfl)) Via.refl e5 f8 f7 (Or.inr ⟨(hw _ (List.mem_of_getElem? (i := 28) rfl)), rfl, hnm⟩) (hw _ (List.mem_of_getElem? (i := 3) rfl)) (ty := .byte) (v' := (.int (0 : Int32))) (by decide) rfl rfl (g := (mkF m 11 #[.val (.ref a1), .val (.ref a2), .val (.int (0 : Int32))] [(.int (0 : Int32)), (.ref a1)])) rfl rfl (hb hby d15_11)
  have f15 := f8.same W14
  have f16 := f7.wr W14
  have f17 := f6.other W14 (Or.inr (slot_ne (Or.inr (hw _ (List.mem_of_getElem? (i := 30) rfl))) (Or.inr (hw _ (List.mem_of_getElem? (i := 28) rfl))) (by decide) (t := (.array .byte)) (t' := .byte) (by decide) (by decide)))
  have Z18 := Nat.le_trans Z9 (Nat.le_of_eq W14.size.symm)
  have K19 := K10.wr W14 (Or.inl (List.mem_of_getElem? (i := 0) rfl))
  have N20 := Fr.snoc X14 N11 g1
  have go21 : Goes p e below s₁ (entryFrame m #[(.ref a1), (.ref a2), (.int (0 : Int32))] 3) T14 (mkF m 14 #[.val (.ref a1), .val (.ref a2), .val (.int (0 : Int32))] []) := fun t k => go13 t (st14 t k)
  obtain ⟨fs, hr, hrun, hended, hW, hsame⟩ := X14.leave (v := none) (fun _ => rfl)
  refine ⟨_, _, go21 _ ?_, hrun, hended, _, _, rfl, ?_, ⟨_, rfl⟩, hW, hsame.mono (by decide) (by decide)⟩
  · exact X14.returnOut hx Bd.returns (hb hby d15_14) hr
  · show QIb Z _ _ _ _ _ T14.heap _
    rw [e14]
    exact ⟨rfl, N20, K19⟩
theorem pd_4 : parseMethodDescriptor "(C)Z" = some ⟨[.char], some .boolean⟩ := by decide +kernel
theorem pd_5 : parseMethodDescriptor "(C)[B" = some ⟨[.char], some (.array .byte)⟩ := by decide +kernel
theorem pd_6 : parseMethodDescriptor "([BB)V" = some ⟨[(.array .byte), .byte], none⟩ := by decide +kernel
theorem d12_0 : decode jdk_42_method_139_code 0 = .ok (.getstatic 38, 3) := by decide +kernel
theorem d12_3 : decode jdk_42_method_139_code 3 = .ok (.ifCond .eq 23, 3) := by decide +kernel
theorem d12_6 : decode jdk_42_method_139_code 6 = .ok (.iload_n 0, 1) := by decide +kernel
theorem d12_7 : decode jdk_42_method_139_code 7 = .ok (.invokestatic 1015, 3) := by decide +kernel
theorem d12_10 : decode jdk_42_method_139_code 10 = .ok (.ifCond .eq 16, 3) := by decide +kernel
theorem d12_13 : decode jdk_42_method_139_code 13 = .ok (.new 10, 3) := by decide +kernel
theorem d12_16 : decode jdk_42_method_139_code 16 = .ok (.dup, 1) := by decide +kernel
theorem d12_17 : decode jdk_42_method_139_code 17 = .ok (.iload_n 0, 1) := by decide +kernel
theorem d12_18 : decode jdk_42_method_139_code 18 = .ok (.invokestatic 1018, 3) := by decide +kernel
theorem d12_21 : decode jdk_42_method_139_code 21 = .ok (.iconst 0, 1) := by decide +kernel
theorem d12_22 : decode jdk_42_method_139_code 22 = .ok (.invokespecial 209, 3) := by decide +kernel
theorem d12_25 : decode jdk_42_method_139_code 25 = .ok (.areturn, 1) := by decide +kernel
theorem d12_26 : decode jdk_42_method_139_code 26 = .ok (.new 10, 3) := by decide +kernel
theorem d12_29 : decode jdk_42_method_139_code 29 = .ok (.dup, 1) := by decide +kernel
theorem d12_30 : decode jdk_42_method_139_code 30 = .ok (.iload_n 0, 1) := by decide +kernel
theorem d12_31 : decode jdk_42_method_139_code 31 = .ok (.invokestatic 1021, 3) := by decide +kernel
theorem d12_34 : decode jdk_42_method_139_code 34 = .ok (.iconst 1, 1) := by decide +kernel
theorem d12_35 : decode jdk_42_method_139_code 35 = .ok (.invokespecial 209, 3) := by decide +kernel
theorem d12_38 : decode jdk_42_method_139_code 38 = .ok (.areturn, 1) := by decide +kernel
theorem ef_rmVo (m : MethodId) (cc : Int32) : entryFrame m #[(.int cc)] 1 = mkF m 0 #[.val (.int cc)] [] := by first | (simp [entryFrame, mkF, argsToLocals, Value.category]; done) | rfl
def QVo (Z : State) (cc : Int32) (cs : Int32) (h0 : Heap) (n0 : Nat) (v : Option Value) (h : Heap) (L : List Loc) : Prop := ∃ (b : Addr), v = some (.ref b) ∧ Fr n0 L ∧ Keep h0 h [] ∧ n0 ≤ b ∧ h0.size ≤ b
set_option maxRecDepth 65536 in
set_option maxHeartbeats 40000000 in
theorem rmVo (l : Launch) (Z : State) (a0 : Array Value) (hw : ∀ d ∈ tables_1, d.before a0 Z = true) (ws : List Jvm.Cond) (cc : Int32) (cs : Int32) (h0 : Heap) (n0 : Nat) (Z0 : n0 ≤ h0.size) (O0 : Old Z n0 h0) (S_CS : Sta Z Z.heap "java/lang/String" "COMPACT_STRINGS" "Z" (.int cs)) (hcs : ¬ cs = 0) (hc : ¬ (255 : Int32) < cc) :
    MetFree l (⟨"java/lang/String", "valueOf", "(C)Ljava/lang/String;"⟩ : MethodName) (head1 (Jvm.Cond.code (⟨"java/lang/String", "valueOf", "(C)Ljava/lang/String;"⟩ : MethodName) jdk_42_method_139_code 1 (some (.object "java/lang/String")) :: ws) ({ frames := 2, cells := 2, slots := 5, locals := 27 } : Room)) (fun a U => a = #[(.int cc)] ∧ Z.Warmed39 U.vm ∧ U.heap = h0) (fun _ _ _ _ _ => True) (fun _ U o U' => ∃ v L, o = .returned v ∧ QVo Z cc cs h0 n0 v U'.heap L ∧ FrameEnd U o U' L ({ frames := 2, cells := 2, slots := 5, locals := 27 } : Room).cells ({ frames := 2, cells := 2, slots := 5, locals := 27 } : Room).slots) := by
  refine MetFree.of_bodySF (plainFor_of_name pn_1) hisR ?_
  intro p e s m args below meth c s₁ Bd hml0 hP hK
  obtain ⟨rfl, hZ, hh⟩ := hP
  have hx := Bd.exec
  have hby := Bd.bytes
  have hml : c.maxLocals = 1 := hml0
  have hown : s.vm.findClass "java/lang/String" = some m.cls := findClass_of_methodNamed Bd.named
  have hnm := (name_of_methodNamed Bd.named Bd.method).1
  have X0 : Stand p l e ({ frames := 2, cells := 2, slots := 5, locals := 27 } : Room) s m #[(.int cc)] below meth c s₁ [] 0 0 := Stand.of_body Bd
  have e0 : s₁.heap = h0 := by rw [← hh, Bd.state]; rfl
  have N0 := Fr.nil n0
  have K0 := Keep.refl h0 []
  have go0 : Goes p e below s₁ (entryFrame m #[(.int cc)] 1) s₁ (mkF m 0 #[.val (.int cc)] []) := fun t k => castTop (ef_rmVo m cc) k
  obtain ⟨T1, X1, e1, st1⟩ := getS2 X0 hx hZ hown (host := "") (Or.inl (hw _ (List.mem_of_getElem? (i := 15) rfl))) Via.refl e0 (S_CS.ext O0.2) (g := (mkF m 0 #[.val (.int cc)] [])) rfl (hb hby d12_0)
  have go2 : Goes p e below s₁ (entryFrame m #[(.int cc)] 1) T1 (mkF m 3 #[.val (.int cc)] [(.int cs)]) := fun t k => go0 t (st1 t k)
  have go3 : Goes p e below s₁ (entryFrame m #[(.int cc)] 1) T1 (mkF m 7 #[.val (.int cc)] [(.int cc)]) := fun t k => by
    refine go2 t ?_
    refine XS.ifNo X1.here hx rfl (hb hby d12_3) rfl (Jvm.Free.XT.i0_eq_f hcs) ?_
    show Steps p.tables e below (T1.setTop (mkF m 6 #[.val (.int cc)] [])) _
    refine XS.iloadN X1.here hx rfl (hb hby d12_6) rfl ?_
    show Steps p.tables e below (T1.setTop (mkF m 7 #[.val (.int cc)] [(.int cc)])) _
    exact k
  obtain ⟨_, _, ⟨T4, L4, k4, n4⟩, -, X4, ⟨Lc4, hQ4, l4, y4, z4⟩, st4⟩ := Jvm.LawKit.callS X1 hx (y := (⟨"java/lang/StringLatin1", "canEncode", "(C)Z"⟩ : MethodName)) hown (mvT hZ (hw _ (List.mem_of_getElem? (i := 93) rfl))) (mvT hZ (hw _ (List.mem_of_getElem? (i := 94) rfl))) (mvT hZ (hw _ (List.mem_of_getElem? (i := 95) rfl))) (mvT hZ (hw _ (List.mem_of_getElem? (i := 96) rfl))) (by decide) (backOf (W := 0) (rmCa l Z a0 hw [] cc h0 n0 Z0 hc) hZ (hw _ (List.mem_of_getElem? (i := 96) rfl)) (hw _ (List.mem_of_getElem? (i := 95) rfl)) (by decide) (by decide)) (g := (mkF m 7 #[.val (.int cc)] [(.int cc)])) rfl (by rw [hml]; rfl) (argsL := [(.int cc)]) (rest := []) (lenOf pd_4 rfl) rfl (by show 2 * 0 + _ ≤ _; exact Nat.le_of_eq rfl) (hb hby d12_7) (fun _ _ => ⟨rfl, e1, (by decide : 0 + 0 ≤ ({ frames := 2, cells := 2, slots := 5, locals := 27 } : Room).cells), (by decide : 0 + 0 ≤ ({ frames := 2, cells := 2, slots := 5, locals := 27 } : Room).slots)⟩)
  dsimp only [Pt.U, Pt.locs, Pt.cells, Pt.slots] at X4 l4 y4 z4 st4 hQ4
  subst l4 y4 z4
  obtain ⟨rfl, N4q, e4⟩ := hQ4
  have N4 := Fr.app N0 N4q
  have go5 : Goes p e below s₁ (entryFrame m #[(.int cc)] 1) T4 (mkF m 10 #[.val (.int cc)] [(.int (1 : Int32))]) := fun t k => go3 t (st4 t k)
  have go6 : Goes p e below s₁ (entryFrame m #[(.int cc)] 1) T4 (mkF m 13 #[.val (.int cc)] []) := fun t k => by
    refine go5 t ?_
    refine XS.ifNo X4.here hx rfl (hb hby d12_10) rfl (Jvm.Free.XT.i0_eq_f (by decide)) ?_
    show Steps p.tables e below (T4.setTop (mkF m 13 #[.val (.int cc)] [])) _
    exact k
  obtain ⟨T7, h7, X7, e7, E7, A7, D7, -, st7⟩ := newO X4 hx hZ hown (hw _ (List.mem_of_getElem? (i := 97) rfl)) (hw _ (List.mem_of_getElem? (i := 3) rfl)) (hw _ (List.mem_of_getElem? (i := 4) rfl)) e4 (g := (mkF m 13 #[.val (.int cc)] [])) rfl (hb hby d12_13) (by decide) (by decide)
  obtain ⟨b7, g_b_b7⟩ : ∃ z, z = h0.size := ⟨_, rfl⟩
  have le_b7 : h0.size ≤ b7 := Nat.le_of_eq g_b_b7.symm
  have gn_b7 : n0 ≤ b7 := Nat.le_trans Z0 le_b7
  have sz_b7 : h0.size ≤ b7 := Nat.le_trans K0.1 le_b7
  rw [← g_b_b7] at A7 D7 st7
  have O8 := O0.ext E7
  have Z9 := Nat.le_trans Z0 E7.1
  have K10 := K0.ext E7
  have f11 : Fld Z h7 b7 "java/lang/String" "coder" "B" (.int (0 : Int32)) := D7 (Or.inr (hw _ (List.mem_of_getElem? (i := 28) rfl))) (ty := .byte) (by decide)
  have f12 : Fld Z h7 b7 "java/lang/String" "value" "[B" .null := D7 (Or.inr (hw _ (List.mem_of_getElem? (i := 30) rfl))) (ty := (.array .byte)) (by decide)
  have go13 : Goes p e below s₁ (entryFrame m #[(.int cc)] 1) T7 (mkF m 16 #[.val (.int cc)] [(.ref b7)]) := fun t k => go6 t (st7 t k)
  have go14 : Goes p e below s₁ (entryFrame m #[(.int cc)] 1) T7 (mkF m 18 #[.val (.int cc)] [(.int cc), (.ref b7), (.ref b7)]) := fun t k => by
    refine go13 t ?_
    refine XS.dup X7.here hx rfl (hb hby d12_16) rfl rfl ?_
    show Steps p.tables e below (T7.setTop (mkF m 17 #[.val (.int cc)] [(.ref b7), (.ref b7)])) _
    refine XS.iloadN X7.here hx rfl (hb hby d12_17) rfl ?_
    show Steps p.tables e below (T7.setTop (mkF m 18 #[.val (.int cc)] [(.int cc), (.ref b7), (.ref b7)])) _
    exact k
  obtain ⟨_, _, ⟨T15, L15, k15, n15⟩, -, X15, ⟨Lc15, hQ15, l15, y15, z15⟩, st15⟩ := Jvm.LawKit.callS X7 hx (y := (⟨"java/lang/StringLatin1", "toBytes", "(C)[B"⟩ : MethodName)) hown (mvT hZ (hw _ (List.mem_of_getElem? (i := 98) rfl))) (mvT hZ (hw _ (List.mem_of_getElem? (i := 99) rfl))) (mvT hZ (hw _ (List.mem_of_getElem? (i := 95) rfl))) (mvT hZ (hw _ (List.mem_of_getElem? (i := 100) rfl))) (by decide) (backOf (W := 2) (rmTb l Z a0 hw [] cc h7 n0 Z9) hZ (hw _ (List.mem_of_getElem? (i := 100) rfl)) (hw _ (List.mem_of_getElem? (i := 95) rfl)) (by decide) (by decide)) (g := (mkF m 18 #[.val (.int cc)] [(.int cc), (.ref b7), (.ref b7)])) rfl (by rw [hml]; rfl) (argsL := [(.int cc)]) (rest := [(.ref b7), (.ref b7)]) (lenOf pd_5 rfl) rfl (by show 2 * 0 + _ ≤ _; exact Nat.le_of_eq rfl) (hb hby d12_18) (fun _ _ => ⟨rfl, e7, (by decide : 1 + 1 ≤ ({ frames := 2, cells := 2, slots := 5, locals := 27 } : Room).cells), (by decide : 4 + 1 ≤ ({ frames := 2, cells := 2, slots := 5, locals := 27 } : Room).slots)⟩)
  dsimp only [Pt.U, Pt.locs, Pt.cells, Pt.slots] at X15 l15 y15 z15 st15 hQ15
  subst l15 y15 z15
  obtain ⟨bb15, rfl, N15q, Kq15, gq15, leq15⟩ := hQ15
  have N15 := Fr.app N4 N15q
  have le_bb15 := leq15
  have gn_bb15 : n0 ≤ bb15 := Nat.le_trans Z9 le_bb15
  have sz_bb15 : h0.size ≤ bb15 := Nat.le_trans K10.1 le_bb15
  have f16 := A7.keep Kq15
  have f17 := f11.keep Kq15 nin0
  have f18 := f12.keep Kq15 nin0
  have O19 := O8.keep Kq15 all0
  have Z20 := Nat.le_trans Z9 Kq15.1
  have K21 := K10.trans Kq15 all0
  have go22 : Goes p e below s₁ (entryFrame m #[(.int cc)] 1) T15 (mkF m 21 #[.val (.int cc)] [(.ref bb15), (.ref b7), (.ref b7)]) := fun t k => go14 t (st15 t k)
  have go23 : Goes p e below s₁ (entryFrame m #[(.int cc)] 1) T15 (mkF m 22 #[.val (.int cc)] [(.int (0 : Int32)), (.ref bb15), (.ref b7), (.ref b7)]) := fun t k => by
    refine go22 t ?_
    refine XS.iconst X15.here hx rfl (hb hby d12_21) ?_
    show Steps p.tables e below (T15.setTop (mkF m 22 #[.val (.int cc)] [(.int (0 : Int32)), (.ref bb15), (.ref b7), (.ref b7)])) _
    exact k
  obtain ⟨_, _, ⟨T24, L24, k24, n24⟩, -, X24, ⟨Lc24, hQ24, l24, y24, z24⟩, st24⟩ := X15.specialBack hx (y := (⟨"java/lang/String", "<init>", "([BB)V"⟩ : MethodName)) rfl hown (mvT hZ (hw _ (List.mem_of_getElem? (i := 101) rfl))) (mvT hZ (hw _ (List.mem_of_getElem? (i := 102) rfl))) (mvT hZ (hw _ (List.mem_of_getElem? (i := 103) rfl))) (by decide) (backOf (W := 1) (rmIb l Z a0 hw [] b7 bb15 T15.heap n0 Z20 f16 f18 f17 gn_b7) hZ (hw _ (List.mem_of_getElem? (i := 103) rfl)) (hw _ (List.mem_of_getElem? (i := 4) rfl)) (by decide) (by decide)) (g := (mkF m 22 #[.val (.int cc)] [(.int (0 : Int32)), (.ref bb15), (.ref b7), (.ref b7)])) rfl (by rw [hml]; rfl) (Steps.refl _) (a := b7) (argsL := [(.ref bb15), (.int (0 : Int32))]) (rest := [(.ref b7)]) (lenOf pd_6 rfl) rfl (by show 2 * 0 + _ ≤ _; exact Nat.le_of_eq rfl) (hb hby d12_22) (fun _ _ => ⟨rfl, rfl, (by decide : 2 + 0 ≤ ({ frames := 2, cells := 2, slots := 5, locals := 27 } : Room).cells), (by decide : 5 + 0 ≤ ({ frames := 2, cells := 2, slots := 5, locals := 27 } : Room).slots)⟩)
  dsimp only [Pt.U, Pt.locs, Pt.cells, Pt.slots] at X24 l24 y24 z24 st24 hQ24
  subst l24 y24 z24
  obtain ⟨rfl, N24q, Kq24⟩ := hQ24
  have N24 := Fr.app N15 N24q
  have f25 := f16.keep Kq24
  have O26 := O19.keep Kq24 (allS gn_b7 all0)
  have Z27 := Nat.le_trans Z20 Kq24.1
  have K28 := K21.trans Kq24 (allS (Or.inr sz_b7) all0)
  have go29 : Goes p e below s₁ (entryFrame m #[(.int cc)] 1) T24 (mkF m 25 #[.val (.int cc)] [(.ref b7)]) := fun t k => go23 t (st24.trans k)
  obtain ⟨fs, hr, hrun, hended, hW, hsame⟩ := X24.leave (v := some (.ref b7)) (fun h => by rw [Bd.returns] at h; cases h)
  refine ⟨_, _, go29 _ ?_, hrun, hended, _, _, rfl, ?_, ⟨_, rfl⟩, hW, hsame.mono (by decide) (by decide)⟩
  · jvm_step X24.here [X24.here.top, hx, (hb hby d12_25), X24.method', Bd.returns, Value.isRef, FieldType.isReference]
    first | (intro acts; rw [hr _ acts rfl rfl rfl]) | rw [hr _ _ rfl rfl rfl]
    exact Steps.refl _
  · show QVo Z _ _ _ _ _ T24.heap _
    exact ⟨b7, rfl, N24, K28, gn_b7, sz_b7⟩
theorem d8_0 : decode jdk_30_method_1_code 0 = .ok (.aload_n 0, 1) := by decide +kernel
theorem d8_1 : decode jdk_30_method_1_code 1 = .ok (.invokespecial 1, 3) := by decide +kernel
theorem d8_4 : decode jdk_30_method_1_code 4 = .ok (.return_, 1) := by decide +kernel
theorem pn_3 : plainName "java/lang/Record" = true := by first | (simp [plainName, overriddenIn]; done) | decide +kernel
theorem ef_rmRe (m : MethodId) (a1 : Addr) : entryFrame m #[(.ref a1)] 1 = mkF m 0 #[.val (.ref a1)] [] := by first | (simp [entryFrame, mkF, argsToLocals, Value.category]; done) | rfl
def QRe (Z : State) (a1 : Addr) (h0 : Heap) (n0 : Nat) (v : Option Value) (h : Heap) (L : List Loc) : Prop := v = none ∧ Fr n0 L ∧ h = h0
set_option maxRecDepth 65536 in
set_option maxHeartbeats 40000000 in
theorem rmRe (l : Launch) (Z : State) (a0 : Array Value) (hw : ∀ d ∈ tables_1, d.before a0 Z = true) (ws : List Jvm.Cond) (a1 : Addr) (h0 : Heap) (n0 : Nat) (Z0 : n0 ≤ h0.size) :
    MetFree l (⟨"java/lang/Record", "<init>", "()V"⟩ : MethodName) (head1 (Jvm.Cond.code (⟨"java/lang/Record", "<init>", "()V"⟩ : MethodName) jdk_30_method_1_code 1 none :: ws) ({ frames := 1, cells := 0, slots := 0, locals := 12 } : Room)) (fun a U => a = #[(.ref a1)] ∧ Z.Warmed39 U.vm ∧ U.heap = h0) (fun _ _ _ _ _ => True) (fun _ U o U' => ∃ v L, o = .returned v ∧ QRe Z a1 h0 n0 v U'.heap L ∧ FrameEnd U o U' L ({ frames := 1, cells := 0, slots := 0, locals := 12 } : Room).cells ({ frames := 1, cells := 0, slots := 0, locals := 12 } : Room).slots) := by
  refine MetFree.of_bodySF (plainFor_of_name pn_3) hisR ?_
  intro p e s m args below meth c s₁ Bd hml0 hP hK
  obtain ⟨rfl, hZ, hh⟩ := hP
  have hx := Bd.exec
  have hby := Bd.bytes
  have hml : c.maxLocals = 1 := hml0
  have hown : s.vm.findClass "java/lang/Record" = some m.cls := findClass_of_methodNamed Bd.named
  have hnm := (name_of_methodNamed Bd.named Bd.method).1
  have X0 : Stand p l e ({ frames := 1, cells := 0, slots := 0, locals := 12 } : Room) s m #[(.ref a1)] below meth c s₁ [] 0 0 := Stand.of_body Bd
  have e0 : s₁.heap = h0 := by rw [← hh, Bd.state]; rfl
  have N0 := Fr.nil n0
  have K0 := Keep.refl h0 []
  have go0 : Goes p e below s₁ (entryFrame m #[(.ref a1)] 1) s₁ (mkF m 0 #[.val (.ref a1)] []) := fun t k => castTop (ef_rmRe m a1) k
  have go1 : Goes p e below s₁ (entryFrame m #[(.ref a1)] 1) s₁ (mkF m 1 #[.val (.ref a1)] [(.ref a1)]) := fun t k => by
    refine go0 t ?_
    refine XS.aloadN X0.here hx rfl (hb hby d8_0) rfl rfl ?_
    show Steps p.tables e below (s₁.setTop (mkF m 1 #[.val (.ref a1)] [(.ref a1)])) _
    exact k
  obtain ⟨T2, X2, e2, st2⟩ := initO X0 hx hZ hown (hw _ (List.mem_of_getElem? (i := 42) rfl)) (hw _ (List.mem_of_getElem? (i := 13) rfl)) (hw _ (List.mem_of_getElem? (i := 14) rfl)) e0 (g := (mkF m 1 #[.val (.ref a1)] [(.ref a1)])) rfl (by rw [hml]; rfl) rfl (hb hby d8_1) (by decide) (W := 0) (by show 2 * 0 + _ ≤ _; exact Nat.le_of_eq rfl) (by decide)
  have go3 : Goes p e below s₁ (entryFrame m #[(.ref a1)] 1) T2 (mkF m 4 #[.val (.ref a1)] []) := fun t k => go1 t (st2 t k)
  obtain ⟨fs, hr, hrun, hended, hW, hsame⟩ := X2.leave (v := none) (fun _ => rfl)
  refine ⟨_, _, go3 _ ?_, hrun, hended, _, _, rfl, ?_, ⟨_, rfl⟩, hW, hsame.mono (by decide) (by decide)⟩
  · exact X2.returnOut hx Bd.returns (hb hby d8_4) hr
  · show QRe Z _ _ _ _ T2.heap _
    rw [e2]
    exact ⟨rfl, N0, rfl⟩
theorem d9_0 : decode jdk_31_method_11_code 0 = .ok (.aload_n 0, 1) := by decide +kernel
theorem d9_1 : decode jdk_31_method_11_code 1 = .ok (.ifnonnull 12, 3) := by decide +kernel
theorem d9_4 : decode jdk_31_method_11_code 4 = .ok (.new 84, 3) := by decide +kernel
theorem d9_7 : decode jdk_31_method_11_code 7 = .ok (.dup, 1) := by decide +kernel
theorem d9_8 : decode jdk_31_method_11_code 8 = .ok (.aload_n 1, 1) := by decide +kernel
theorem d9_9 : decode jdk_31_method_11_code 9 = .ok (.invokespecial 87, 3) := by decide +kernel
theorem d9_12 : decode jdk_31_method_11_code 12 = .ok (.athrow, 1) := by decide +kernel
theorem d9_13 : decode jdk_31_method_11_code 13 = .ok (.aload_n 0, 1) := by decide +kernel
theorem d9_14 : decode jdk_31_method_11_code 14 = .ok (.areturn, 1) := by decide +kernel
theorem pn_4 : plainName "java/util/Objects" = true := by first | (simp [plainName, overriddenIn]; done) | decide +kernel
theorem ef_rmRn (m : MethodId) (a1 : Addr) (a2 : Addr) : entryFrame m #[(.ref a1), (.ref a2)] 2 = mkF m 0 #[.val (.ref a1), .val (.ref a2)] [] := by first | (simp [entryFrame, mkF, argsToLocals, Value.category]; done) | rfl
def QRn (Z : State) (a1 : Addr) (a2 : Addr) (h0 : Heap) (n0 : Nat) (v : Option Value) (h : Heap) (L : List Loc) : Prop := v = some (.ref a1) ∧ Fr n0 L ∧ h = h0
set_option maxRecDepth 65536 in
set_option maxHeartbeats 40000000 in
theorem rmRn (l : Launch) (Z : State) (a0 : Array Value) (hw : ∀ d ∈ tables_1, d.before a0 Z = true) (ws : List Jvm.Cond) (a1 : Addr) (a2 : Addr) (h0 : Heap) (n0 : Nat) (Z0 : n0 ≤ h0.size) :
    MetFree l (⟨"java/util/Objects", "requireNonNull", "(Ljava/lang/Object;Ljava/lang/String;)Ljava/lang/Object;"⟩ : MethodName) (head1 (Jvm.Cond.code (⟨"java/util/Objects", "requireNonNull", "(Ljava/lang/Object;Ljava/lang/String;)Ljava/lang/Object;"⟩ : MethodName) jdk_31_method_11_code 2 (some (.object "java/lang/Object")) :: ws) ({ frames := 0, cells := 0, slots := 0, locals := 0 } : Room)) (fun a U => a = #[(.ref a1), (.ref a2)] ∧ Z.Warmed39 U.vm ∧ U.heap = h0) (fun _ _ _ _ _ => True) (fun _ U o U' => ∃ v L, o = .returned v ∧ QRn Z a1 a2 h0 n0 v U'.heap L ∧ FrameEnd U o U' L ({ frames := 0, cells := 0, slots := 0, locals := 0 } : Room).cells ({ frames := 0, cells := 0, slots := 0, locals := 0 } : Room).slots) := by
  refine MetFree.of_bodySF (plainFor_of_name pn_4) hisR ?_
  intro p e s m args below meth c s₁ Bd hml0 hP hK
  obtain ⟨rfl, hZ, hh⟩ := hP
  have hx := Bd.exec
  have hby := Bd.bytes
  have hml : c.maxLocals = 2 := hml0
  have hown : s.vm.findClass "java/util/Objects" = some m.cls := findClass_of_methodNamed Bd.named
  have hnm := (name_of_methodNamed Bd.named Bd.method).1
  have X0 : Stand p l e ({ frames := 0, cells := 0, slots := 0, locals := 0 } : Room) s m #[(.ref a1), (.ref a2)] below meth c s₁ [] 0 0 := Stand.of_body Bd
  have e0 : s₁.heap = h0 := by rw [← hh, Bd.state]; rfl
  have N0 := Fr.nil n0
  have K0 := Keep.refl h0 []
  have go0 : Goes p e below s₁ (entryFrame m #[(.ref a1), (.ref a2)] 2) s₁ (mkF m 0 #[.val (.ref a1), .val (.ref a2)] []) := fun t k => castTop (ef_rmRn m a1 a2) k
  have go1 : Goes p e below s₁ (entryFrame m #[(.ref a1), (.ref a2)] 2) s₁ (mkF m 14 #[.val (.ref a1), .val (.ref a2)] [(.ref a1)]) := fun t k => by
    refine go0 t ?_
    refine XS.aloadN X0.here hx rfl (hb hby d9_0) rfl rfl ?_
    show Steps p.tables e below (s₁.setTop (mkF m 1 #[.val (.ref a1), .val (.ref a2)] [(.ref a1)])) _
    refine XS.ifnonnullYes X0.here hx rfl (pc0 := 1) (pc' := 13) rfl (hb hby d9_1) rfl (by decide) (by decide) ?_
    show Steps p.tables e below (s₁.setTop (mkF m 13 #[.val (.ref a1), .val (.ref a2)] [])) _
    refine XS.aloadN X0.here hx rfl (hb hby d9_13) rfl rfl ?_
    show Steps p.tables e below (s₁.setTop (mkF m 14 #[.val (.ref a1), .val (.ref a2)] [(.ref a1)])) _
    exact k
  obtain ⟨fs, hr, hrun, hended, hW, hsame⟩ := X0.leave (v := some (.ref a1)) (fun h => by rw [Bd.returns] at h; cases h)
  refine ⟨_, _, go1 _ ?_, hrun, hended, _, _, rfl, ?_, ⟨_, rfl⟩, hW, hsame.mono (by decide) (by decide)⟩
  · jvm_step X0.here [X0.here.top, hx, (hb hby d9_14), X0.method', Bd.returns, Value.isRef, FieldType.isReference]
    first | (intro acts; rw [hr _ acts rfl rfl rfl]) | rw [hr _ _ rfl rfl rfl]
    exact Steps.refl _
  · show QRn Z _ _ _ _ _ s₁.heap _
    rw [e0]
    exact ⟨rfl, N0, rfl⟩
theorem pd_7 : parseMethodDescriptor "()V" = some ⟨[], none⟩ := by decide +kernel
theorem pd_8 : parseMethodDescriptor "(Ljava/lang/Object;Ljava/lang/String;)Ljava/lang/Object;" = some ⟨[(.object "java/lang/Object"), (.object "java/lang/String")], some (.object "java/lang/Object")⟩ := by decide +kernel
theorem d7_0 : decode prog_69_method_1_code 0 = .ok (.aload_n 0, 1) := by decide +kernel
theorem d7_1 : decode prog_69_method_1_code 1 = .ok (.invokespecial 1, 3) := by decide +kernel
theorem d7_4 : decode prog_69_method_1_code 4 = .ok (.aload_n 1, 1) := by decide +kernel
theorem d7_5 : decode prog_69_method_1_code 5 = .ok (.ldc 7, 2) := by decide +kernel
theorem d7_7 : decode prog_69_method_1_code 7 = .ok (.invokestatic 9, 3) := by decide +kernel
theorem d7_10 : decode prog_69_method_1_code 10 = .ok (.pop, 1) := by decide +kernel
theorem d7_11 : decode prog_69_method_1_code 11 = .ok (.aload_n 3, 1) := by decide +kernel
theorem d7_12 : decode prog_69_method_1_code 12 = .ok (.ldc 15, 2) := by decide +kernel
theorem d7_14 : decode prog_69_method_1_code 14 = .ok (.invokestatic 9, 3) := by decide +kernel
theorem d7_17 : decode prog_69_method_1_code 17 = .ok (.pop, 1) := by decide +kernel
theorem d7_18 : decode prog_69_method_1_code 18 = .ok (.aload_n 0, 1) := by decide +kernel
theorem d7_19 : decode prog_69_method_1_code 19 = .ok (.aload_n 1, 1) := by decide +kernel
theorem d7_20 : decode prog_69_method_1_code 20 = .ok (.putfield 17, 3) := by decide +kernel
theorem d7_23 : decode prog_69_method_1_code 23 = .ok (.aload_n 0, 1) := by decide +kernel
theorem d7_24 : decode prog_69_method_1_code 24 = .ok (.aload_n 2, 1) := by decide +kernel
theorem d7_25 : decode prog_69_method_1_code 25 = .ok (.putfield 22, 3) := by decide +kernel
theorem d7_28 : decode prog_69_method_1_code 28 = .ok (.aload_n 0, 1) := by decide +kernel
theorem d7_29 : decode prog_69_method_1_code 29 = .ok (.aload_n 3, 1) := by decide +kernel
theorem d7_30 : decode prog_69_method_1_code 30 = .ok (.putfield 25, 3) := by decide +kernel
theorem d7_33 : decode prog_69_method_1_code 33 = .ok (.aload_n 0, 1) := by decide +kernel
theorem d7_34 : decode prog_69_method_1_code 34 = .ok (.aload 4, 2) := by decide +kernel
theorem d7_36 : decode prog_69_method_1_code 36 = .ok (.putfield 27, 3) := by decide +kernel
theorem d7_39 : decode prog_69_method_1_code 39 = .ok (.aload_n 0, 1) := by decide +kernel
theorem d7_40 : decode prog_69_method_1_code 40 = .ok (.lload 5, 2) := by decide +kernel
theorem d7_42 : decode prog_69_method_1_code 42 = .ok (.putfield 31, 3) := by decide +kernel
theorem d7_45 : decode prog_69_method_1_code 45 = .ok (.aload_n 0, 1) := by decide +kernel
theorem d7_46 : decode prog_69_method_1_code 46 = .ok (.iload 7, 2) := by decide +kernel
theorem d7_48 : decode prog_69_method_1_code 48 = .ok (.putfield 35, 3) := by decide +kernel
theorem d7_51 : decode prog_69_method_1_code 51 = .ok (.aload_n 0, 1) := by decide +kernel
theorem d7_52 : decode prog_69_method_1_code 52 = .ok (.iload 8, 2) := by decide +kernel
theorem d7_54 : decode prog_69_method_1_code 54 = .ok (.putfield 39, 3) := by decide +kernel
theorem d7_57 : decode prog_69_method_1_code 57 = .ok (.aload_n 0, 1) := by decide +kernel
theorem d7_58 : decode prog_69_method_1_code 58 = .ok (.iload 9, 2) := by decide +kernel
theorem d7_60 : decode prog_69_method_1_code 60 = .ok (.putfield 43, 3) := by decide +kernel
theorem d7_63 : decode prog_69_method_1_code 63 = .ok (.aload_n 0, 1) := by decide +kernel
theorem d7_64 : decode prog_69_method_1_code 64 = .ok (.iload 10, 2) := by decide +kernel
theorem d7_66 : decode prog_69_method_1_code 66 = .ok (.putfield 46, 3) := by decide +kernel
theorem d7_69 : decode prog_69_method_1_code 69 = .ok (.aload_n 0, 1) := by decide +kernel
theorem d7_70 : decode prog_69_method_1_code 70 = .ok (.iload 11, 2) := by decide +kernel
theorem d7_72 : decode prog_69_method_1_code 72 = .ok (.putfield 49, 3) := by decide +kernel
theorem d7_75 : decode prog_69_method_1_code 75 = .ok (.return_, 1) := by decide +kernel
theorem pn_5 : plainName "com/example/convey/convey/model/Mailbox" = true := by first | (simp [plainName, overriddenIn]; done) | decide +kernel
theorem ef_rmMb (m : MethodId) (a1 : Addr) (a2 : Addr) (pid : Value) (a4 : Addr) (rol : Value) (srt : Int64) (sub : Int32) (tot : Int32) (unr : Int32) (thr : Int32) (uth : Int32) (h_pid : pid.isRef = true) (h_rol : rol.isRef = true) : entryFrame m #[(.ref a1), (.ref a2), pid, (.ref a4), rol, (.long srt), (.int sub), (.int tot), (.int unr), (.int thr), (.int uth)] 12 = mkF m 0 #[.val (.ref a1), .val (.ref a2), .val pid, .val (.ref a4), .val rol, .val (.long srt), .second, .val (.int sub), .val (.int tot), .val (.int unr), .val (.int thr), .val (.int uth)] [] := by rcases ref_cases h_pid with rfl | ⟨_, rfl⟩ <;> rcases ref_cases h_rol with rfl | ⟨_, rfl⟩ <;> first | (simp [entryFrame, mkF, argsToLocals, Value.category]; done) | rfl
def QMb (Z : State) (a1 : Addr) (a2 : Addr) (pid : Value) (a4 : Addr) (rol : Value) (srt : Int64) (sub : Int32) (tot : Int32) (unr : Int32) (thr : Int32) (uth : Int32) (h0 : Heap) (n0 : Nat) (v : Option Value) (h : Heap) (L : List Loc) : Prop := v = none ∧ Fr n0 L ∧ Keep h0 h [a1] ∧ Exa Z h a1 "com/example/convey/convey/model/Mailbox" ∧ Fld Z h a1 "com/example/convey/convey/model/Mailbox" "role" "Lcom/example/convey/convey/model/MailboxRole;" rol
set_option maxRecDepth 65536 in
set_option maxHeartbeats 40000000 in
theorem rmMb (l : Launch) (Z : State) (a0 : Array Value) (hw : ∀ d ∈ tables_1, d.before a0 Z = true) (ws : List Jvm.Cond) (a1 : Addr) (a2 : Addr) (pid : Value) (a4 : Addr) (rol : Value) (srt : Int64) (sub : Int32) (tot : Int32) (unr : Int32) (thr : Int32) (uth : Int32) (h0 : Heap) (n0 : Nat) (Z0 : n0 ≤ h0.size) (E1 : Exa Z h0 a1 "com/example/convey/convey/model/Mailbox") (F_id : Fld Z h0 a1 "com/example/convey/convey/model/Mailbox" "id" "Ljava/lang/String;" .null) (F_parentId : Fld Z h0 a1 "com/example/convey/convey/model/Mailbox" "parentId" "Ljava/lang/String;" .null) (F_name : Fld Z h0 a1 "com/example/convey/convey/model/Mailbox" "name" "Ljava/lang/String;" .null) (F_role : Fld Z h0 a1 "com/example/convey/convey/model/Mailbox" "role" "Lcom/example/convey/convey/model/MailboxRole;" .null) (F_sortOrder : Fld Z h0 a1 "com/example/convey/convey/model/Mailbox" "sortOrder" "J" (.long (0 : Int64))) (F_subscribed : Fld Z h0 a1 "com/example/convey/convey/model/Mailbox" "subscribed" "Z" (.int (0 : Int32))) (F_totalEmails : Fld Z h0 a1 "com/example/convey/convey/model/Mailbox" "totalEmails" "I" (.int (0 : Int32))) (F_unreadEmails : Fld Z h0 a1 "com/example/convey/convey/model/Mailbox" "unreadEmails" "I" (.int (0 : Int32))) (F_totalThreads : Fld Z h0 a1 "com/example/convey/convey/model/Mailbox" "totalThreads" "I" (.int (0 : Int32))) (F_unreadThreads : Fld Z h0 a1 "com/example/convey/convey/model/Mailbox" "unreadThreads" "I" (.int (0 : Int32))) (g1 : n0 ≤ a1) (hpid : pid.isRef = true) (hrol : rol.isRef = true) :
    MetFree l (⟨"com/example/convey/convey/model/Mailbox", "<init>", "(Ljava/lang/String;Ljava/lang/String;Ljava/lang/String;Lcom/example/convey/convey/model/MailboxRole;JZIIII)V"⟩ : MethodName) (head1 (Jvm.Cond.code (⟨"com/example/convey/convey/model/Mailbox", "<init>", "(Ljava/lang/String;Ljava/lang/String;Ljava/lang/String;Lcom/example/convey/convey/model/MailboxRole;JZIIII)V"⟩ : MethodName) prog_69_method_1_code 12 none :: ws) ({ frames := 2, cells := 4, slots := 32, locals := 24 } : Room)) (fun a U => a = #[(.ref a1), (.ref a2), pid, (.ref a4), rol, (.long srt), (.int sub), (.int tot), (.int unr), (.int thr), (.int uth)] ∧ Z.Warmed39 U.vm ∧ U.heap = h0) (fun _ _ _ _ _ => True) (fun _ U o U' => ∃ v L, o = .returned v ∧ QMb Z a1 a2 pid a4 rol srt sub tot unr thr uth h0 n0 v U'.heap L ∧ ReturnedEndW U o U' L ({ frames := 2, cells := 4, slots := 32, locals := 24 } : Room).cells ({ frames := 2, cells := 4, slots := 32, locals := 24 } : Room).slots) := by
  refine MetFree.of_bodySF (plainFor_of_name pn_5) hisR ?_
  intro p e s m args below meth c s₁ Bd hml0 hP hK
  obtain ⟨rfl, hZ, hh⟩ := hP
  have hx := Bd.exec
  have hby := Bd.bytes
  have hml : c.maxLocals = 12 := hml0
  have hown : s.vm.findClass "com/example/convey/convey/model/Mailbox" = some m.cls := findClass_of_methodNamed Bd.named
  have hnm := (name_of_methodNamed Bd.named Bd.method).1
  have X0 : Stand p l e ({ frames := 2, cells := 4, slots := 32, locals := 24 } : Room) (s.setVm s.vm) m #[(.ref a1), (.ref a2), pid, (.ref a4), rol, (.long srt), (.int sub), (.int tot), (.int unr), (.int thr), (.int uth)] below meth c s₁ [] 0 0 := Stand.of_body Bd
  have e0 : s₁.heap = h0 := by rw [← hh, Bd.state]; rfl
  have N0 := Fr.nil n0
  have K0 := Keep.refl h0 [a1]
  have go0 : Goes p e below s₁ (entryFrame m #[(.ref a1), (.ref a2), pid, (.ref a4), rol, (.long srt), (.int sub), (.int tot), (.int unr), (.int thr), (.int uth)] 12) s₁ (mkF m 0 #[.val (.ref a1), .val (.ref a2), .val pid, .val (.ref a4), .val rol, .val (.long srt), .second, .val (.int sub), .val (.int tot), .val (.int unr), .val (.int thr), .val (.int uth)] []) := fun t k => castTop (ef_rmMb m a1 a2 pid a4 rol srt sub tot unr thr uth hpid hrol) k
  have hS0 : s.Since s.vm 0 := (State.WarmedH.refl s).since 0
  have hk0 : 0 ≤ h0.size := Nat.zero_le _
  have hZ : Z.Warmed39 (s.setVm s.vm).vm := hZ
  have hown : (s.setVm s.vm).vm.findClass "com/example/convey/convey/model/Mailbox" = some m.cls := hown
  have go1 : Goes p e below s₁ (entryFrame m #[(.ref a1), (.ref a2), pid, (.ref a4), rol, (.long srt), (.int sub), (.int tot), (.int unr), (.int thr), (.int uth)] 12) s₁ (mkF m 1 #[.val (.ref a1), .val (.ref a2), .val pid, .val (.ref a4), .val rol, .val (.long srt), .second, .val (.int sub), .val (.int tot), .val (.int unr), .val (.int thr), .val (.int uth)] [(.ref a1)]) := fun t k => by
    refine go0 t ?_
    refine XS.aloadN X0.here hx rfl (hb hby d7_0) rfl rfl ?_
    show Steps p.tables e below (s₁.setTop (mkF m 1 #[.val (.ref a1), .val (.ref a2), .val pid, .val (.ref a4), .val rol, .val (.long srt), .second, .val (.int sub), .val (.int tot), .val (.int unr), .val (.int thr), .val (.int uth)] [(.ref a1)])) _
    exact k
  obtain ⟨_, _, ⟨T2, L2, k2, n2⟩, -, X2, ⟨Lc2, hQ2, l2, y2, z2⟩, st2⟩ := X0.specialBack hx (y := (⟨"java/lang/Record", "<init>", "()V"⟩ : MethodName)) rfl hown (mvT hZ (hw _ (List.mem_of_getElem? (i := 37) rfl))) (mvT hZ (hw _ (List.mem_of_getElem? (i := 38) rfl))) (mvT hZ (hw _ (List.mem_of_getElem? (i := 41) rfl))) (by decide) (backOf (W := 0) (rmRe l Z a0 hw [] a1 h0 n0 Z0) hZ (hw _ (List.mem_of_getElem? (i := 41) rfl)) (hw _ (List.mem_of_getElem? (i := 40) rfl)) (by decide) (by decide)) (g := (mkF m 1 #[.val (.ref a1), .val (.ref a2), .val pid, .val (.ref a4), .val rol, .val (.long srt), .second, .val (.int sub), .val (.int tot), .val (.int unr), .val (.int thr), .val (.int uth)] [(.ref a1)])) rfl (by rw [hml]; rfl) (Steps.refl _) (a := a1) (argsL := []) (rest := []) (lenOf pd_7 rfl) rfl (by show 2 * 0 + _ ≤ _; exact Nat.le_of_eq rfl) (hb hby d7_1) (fun _ _ => ⟨rfl, e0, (by decide : 0 + 0 ≤ ({ frames := 2, cells := 4, slots := 32, locals := 24 } : Room).cells), (by decide : 0 + 0 ≤ ({ frames := 2, cells := 4, slots := 32, locals := 24 } : Room).slots)⟩)
  dsimp only [Pt.U, Pt.locs, Pt.cells, Pt.slots] at X2 l2 y2 z2 st2 hQ2
  subst l2 y2 z2
  obtain ⟨rfl, N2q, e2⟩ := hQ2
  have N2 := Fr.app N0 N2q
  have go3 : Goes p e below s₁ (entryFrame m #[(.ref a1), (.ref a2), pid, (.ref a4), rol, (.long srt), (.int sub), (.int tot), (.int unr), (.int thr), (.int uth)] 12) T2 (mkF m 4 #[.val (.ref a1), .val (.ref a2), .val pid, .val (.ref a4), .val rol, .val (.long srt), .second, .val (.int sub), .val (.int tot), .val (.int unr), .val (.int thr), .val (.int uth)] []) := fun t k => go1 t (st2.trans k)
  have go4 : Goes p e below s₁ (entryFrame m #[(.ref a1), (.ref a2), pid, (.ref a4), rol, (.long srt), (.int sub), (.int tot), (.int unr), (.int thr), (.int uth)] 12) T2 (mkF m 5 #[.val (.ref a1), .val (.ref a2), .val pid, .val (.ref a4), .val rol, .val (.long srt), .second, .val (.int sub), .val (.int tot), .val (.int unr), .val (.int thr), .val (.int uth)] [(.ref a2)]) := fun t k => by
    refine go3 t ?_
    refine XS.aloadN X2.here hx rfl (hb hby d7_4) rfl rfl ?_
    show Steps p.tables e below (T2.setTop (mkF m 5 #[.val (.ref a1), .val (.ref a2), .val pid, .val (.ref a4), .val rol, .val (.long srt), .second, .val (.int sub), .val (.int tot), .val (.int unr), .val (.int thr), .val (.int uth)] [(.ref a2)])) _
    exact k
  obtain ⟨sa5, T5, h5, k5, X5, e5, E5, hS5, hkq5, hZ, hown, st5⟩ := ldcS X2 hx hZ hown (hw _ (List.mem_of_getElem? (i := 43) rfl)) (fun d hd => hw d (own_sa d hd)) e2 hS0 hk0 (g := (mkF m 5 #[.val (.ref a1), .val (.ref a2), .val pid, .val (.ref a4), .val rol, .val (.long srt), .second, .val (.int sub), .val (.int tot), .val (.int unr), .val (.int thr), .val (.int uth)] [(.ref a2)])) rfl (hb hby d7_5) (n := 8) (by decide) (by decide) (by decide) (by decide)
  have f6 := E1.ext E5
  have f7 := F_id.ext E5
  have f8 := F_parentId.ext E5
  have f9 := F_name.ext E5
  have f10 := F_role.ext E5
  have f11 := F_sortOrder.ext E5
  have f12 := F_subscribed.ext E5
  have f13 := F_totalEmails.ext E5
  have f14 := F_unreadEmails.ext E5
  have f15 := F_totalThreads.ext E5
  have f16 := F_unreadThreads.ext E5
  have Z17 := Nat.le_trans Z0 E5.1
  have K18 := K0.ext E5
  have hk19 := Nat.le_trans hk0 E5.1
  have go20 : Goes p e below s₁ (entryFrame m #[(.ref a1), (.ref a2), pid, (.ref a4), rol, (.long srt), (.int sub), (.int tot), (.int unr), (.int thr), (.int uth)] 12) T5 (mkF m 7 #[.val (.ref a1), .val (.ref a2), .val pid, .val (.ref a4), .val rol, .val (.long srt), .second, .val (.int sub), .val (.int tot), .val (.int unr), .val (.int thr), .val (.int uth)] [(.ref sa5), (.ref a2)]) := fun t k => go4 t (st5 t k)
  obtain ⟨_, _, ⟨T21, L21, k21, n21⟩, -, X21, ⟨Lc21, hQ21, l21, y21, z21⟩, st21⟩ := Jvm.LawKit.callS X5 hx (y := (⟨"java/util/Objects", "requireNonNull", "(Ljava/lang/Object;Ljava/lang/String;)Ljava/lang/Object;"⟩ : MethodName)) hown (mvT hZ (hw _ (List.mem_of_getElem? (i := 46) rfl))) (mvT hZ (hw _ (List.mem_of_getElem? (i := 47) rfl))) (mvT hZ (hw _ (List.mem_of_getElem? (i := 48) rfl))) (mvT hZ (hw _ (List.mem_of_getElem? (i := 49) rfl))) (by decide) (backOf (W := 0) (rmRn l Z a0 hw [] a2 sa5 h5 n0 Z17) hZ (hw _ (List.mem_of_getElem? (i := 49) rfl)) (hw _ (List.mem_of_getElem? (i := 48) rfl)) (by decide) (by decide)) (g := (mkF m 7 #[.val (.ref a1), .val (.ref a2), .val pid, .val (.ref a4), .val rol, .val (.long srt), .second, .val (.int sub), .val (.int tot), .val (.int unr), .val (.int thr), .val (.int uth)] [(.ref sa5), (.ref a2)])) rfl (by rw [hml]; rfl) (argsL := [(.ref a2), (.ref sa5)]) (rest := []) (lenOf pd_8 rfl) rfl (by show 2 * 0 + _ ≤ _; exact Nat.le_of_eq rfl) (hb hby d7_7) (fun _ _ => ⟨rfl, e5, (by decide : 2 + 0 ≤ ({ frames := 2, cells := 4, slots := 32, locals := 24 } : Room).cells), (by decide : 12 + 0 ≤ ({ frames := 2, cells := 4, slots := 32, locals := 24 } : Room).slots)⟩)
  dsimp only [Pt.U, Pt.locs, Pt.cells, Pt.slots] at X21 l21 y21 z21 st21 hQ21
  subst l21 y21 z21
  obtain ⟨rfl, N21q, e21⟩ := hQ21
  have N21 := Fr.app N2 N21q
  have go22 : Goes p e below s₁ (entryFrame m #[(.ref a1), (.ref a2), pid, (.ref a4), rol, (.long srt), (.int sub), (.int tot), (.int unr), (.int thr), (.int uth)] 12) T21 (mkF m 10 #[.val (.ref a1), .val (.ref a2), .val pid, .val (.ref a4), .val rol, .val (.long srt), .second, .val (.int sub), .val (.int tot), .val (.int unr), .val (.int thr), .val (.int uth)] [(.ref a2)]) := fun t k => go20 t (st21 t k)
  have go23 : Goes p e below s₁ (entryFrame m #[(.ref a1), (.ref a2), pid, (.ref a4), rol, (.long srt), (.int sub), (.int tot), (.int unr), (.int thr), (.int uth)] 12) T21 (mkF m 12 #[.val (.ref a1), .val (.ref a2), .val pid, .val (.ref a4), .val rol, .val (.long srt), .second, .val (.int sub), .val (.int tot), .val (.int unr), .val (.int thr), .val (.int uth)] [(.ref a4)]) := fun t k => by
    refine go22 t ?_
    refine XS.pop X21.here hx rfl (hb hby d7_10) rfl rfl ?_
    show Steps p.tables e below (T21.setTop (mkF m 11 #[.val (.ref a1), .val (.ref a2), .val pid, .val (.ref a4), .val rol, .val (.long srt), .second, .val (.int sub), .val (.int tot), .val (.int unr), .val (.int thr), .val (.int uth)] [])) _
    refine XS.aloadN X21.here hx rfl (hb hby d7_11) rfl rfl ?_
    show Steps p.tables e below (T21.setTop (mkF m 12 #[.val (.ref a1), .val (.ref a2), .val pid, .val (.ref a4), .val rol, .val (.long srt), .second, .val (.int sub), .val (.int tot), .val (.int unr), .val (.int thr), .val (.int uth)] [(.ref a4)])) _
    exact k
  obtain ⟨sa24, T24, h24, k24, X24, e24, E24, hS24, hkq24, hZ, hown, st24⟩ := ldcS X21 hx hZ hown (hw _ (List.mem_of_getElem? (i := 50) rfl)) (fun d hd => hw d (own_sa d hd)) e21 hS5 hkq5 (g := (mkF m 12 #[.val (.ref a1), .val (.ref a2), .val pid, .val (.ref a4), .val rol, .val (.long srt), .second, .val (.int sub), .val (.int tot), .val (.int unr), .val (.int thr), .val (.int uth)] [(.ref a4)])) rfl (hb hby d7_12) (n := 16) (by decide) (by decide) (by decide) (by decide)
  have f25 := f6.ext E24
  have f26 := f7.ext E24
  have f27 := f8.ext E24
  have f28 := f9.ext E24
  have f29 := f10.ext E24
  have f30 := f11.ext E24
  have f31 := f12.ext E24
  have f32 := f13.ext E24
  have f33 := f14.ext E24
  have f34 := f15.ext E24
  have f35 := f16.ext E24
  have Z36 := Nat.le_trans Z17 E24.1
  have K37 := K18.ext E24
  have hk38 := Nat.le_trans hkq5 E24.1
  have go39 : Goes p e below s₁ (entryFrame m #[(.ref a1), (.ref a2), pid, (.ref a4), rol, (.long srt), (.int sub), (.int tot), (.int unr), (.int thr), (.int uth)] 12) T24 (mkF m 14 #[.val (.ref a1), .val (.ref a2), .val pid, .val (.ref a4), .val rol, .val (.long srt), .second, .val (.int sub), .val (.int tot), .val (.int unr), .val (.int thr), .val (.int uth)] [(.ref sa24), (.ref a4)]) := fun t k => go23 t (st24 t k)
  obtain ⟨_, _, ⟨T40, L40, k40, n40⟩, -, X40, ⟨Lc40, hQ40, l40, y40, z40⟩, st40⟩ := Jvm.LawKit.callS X24 hx (y := (⟨"java/util/Objects", "requireNonNull", "(Ljava/lang/Object;Ljava/lang/String;)Ljava/lang/Object;"⟩ : MethodName)) hown (mvT hZ (hw _ (List.mem_of_getElem? (i := 46) rfl))) (mvT hZ (hw _ (List.mem_of_getElem? (i := 47) rfl))) (mvT hZ (hw _ (List.mem_of_getElem? (i := 48) rfl))) (mvT hZ (hw _ (List.mem_of_getElem? (i := 49) rfl))) (by decide) (backOf (W := 0) (rmRn l Z a0 hw [] a4 sa24 h24 n0 Z36) hZ (hw _ (List.mem_of_getElem? (i := 49) rfl)) (hw _ (List.mem_of_getElem? (i := 48) rfl)) (by decide) (by decide)) (g := (mkF m 14 #[.val (.ref a1), .val (.ref a2), .val pid, .val (.ref a4), .val rol, .val (.long srt), .second, .val (.int sub), .val (.int tot), .val (.int unr), .val (.int thr), .val (.int uth)] [(.ref sa24), (.ref a4)])) rfl (by rw [hml]; rfl) (argsL := [(.ref a4), (.ref sa24)]) (rest := []) (lenOf pd_8 rfl) rfl (by show 2 * 0 + _ ≤ _; exact Nat.le_of_eq rfl) (hb hby d7_14) (fun _ _ => ⟨rfl, e24, (by decide : 4 + 0 ≤ ({ frames := 2, cells := 4, slots := 32, locals := 24 } : Room).cells), (by decide : 32 + 0 ≤ ({ frames := 2, cells := 4, slots := 32, locals := 24 } : Room).slots)⟩)
  dsimp only [Pt.U, Pt.locs, Pt.cells, Pt.slots] at X40 l40 y40 z40 st40 hQ40
  subst l40 y40 z40
  obtain ⟨rfl, N40q, e40⟩ := hQ40
  have N40 := Fr.app N21 N40q
  have go41 : Goes p e below s₁ (entryFrame m #[(.ref a1), (.ref a2), pid, (.ref a4), rol, (.long srt), (.int sub), (.int tot), (.int unr), (.int thr), (.int uth)] 12) T40 (mkF m 17 #[.val (.ref a1), .val (.ref a2), .val pid, .val (.ref a4), .val rol, .val (.long srt), .second, .val (.int sub), .val (.int tot), .val (.int unr), .val (.int thr), .val (.int uth)] [(.ref a4)]) := fun t k => go39 t (st40 t k)
  have go42 : Goes p e below s₁ (entryFrame m #[(.ref a1), (.ref a2), pid, (.ref a4), rol, (.long srt), (.int sub), (.int tot), (.int unr), (.int thr), (.int uth)] 12) T40 (mkF m 20 #[.val (.ref a1), .val (.ref a2), .val pid, .val (.ref a4), .val rol, .val (.long srt), .second, .val (.int sub), .val (.int tot), .val (.int unr), .val (.int thr), .val (.int uth)] [(.ref a2), (.ref a1)]) := fun t k => by
    refine go41 t ?_
    refine XS.pop X40.here hx rfl (hb hby d7_17) rfl rfl ?_
    show Steps p.tables e below (T40.setTop (mkF m 18 #[.val (.ref a1), .val (.ref a2), .val pid, .val (.ref a4), .val rol, .val (.long srt), .second, .val (.int sub), .val (.int tot), .val (.int unr), .val (.int thr), .val (.int uth)] [])) _
    refine XS.aloadN X40.here hx rfl (hb hby d7_18) rfl rfl ?_
    show Steps p.tables e below (T40.setTop (mkF m 19 #[.val (.ref a1), .val (.ref a2), .val pid, .val (.ref a4), .val rol, .val (.long srt), .second, .val (.int sub), .val (.int tot), .val (.int unr), .val (.int thr), .val (.int uth)] [(.ref a1)])) _
    refine XS.aloadN X40.here hx rfl (hb hby d7_19) rfl rfl ?_
    show Steps p.tables e below (T40.setTop (mkF m 20 #[.val (.ref a1), .val (.ref a2), .val pid, .val (.ref a4), .val rol, .val (.long srt), .second, .val (.int sub), .val (.int tot), .val (.int unr), .val (.int thr), .val (.int uth)] [(.ref a2), (.ref a1)])) _
    exact k
  obtain ⟨T43, h43, X43, e43, W43, st43⟩ := putF X40 hx hZ hown (host := "") (Or.inl (hw _ (List.mem_of_getElem? (i := 51) rfl))) Via.refl e40 f26 f25 (Or.inr ⟨(hw _ (List.mem_of_getElem? (i := 52) rfl)), rfl, hnm⟩) (hw _ (List.mem_of_getElem? (i := 32) rfl)) (ty := (.object "java/lang/String")) (by decide) rfl rfl (g := (mkF m 20 #[.val (.ref a1), .val (.ref a2), .val pid, .val (.ref a4), .val rol, .val (.long srt), .second, .val (.int sub), .val (.int tot), .val (.int unr), .val (.int thr), .val (.int uth)] [(.ref a2), (.ref a1)])) rfl rfl (hb hby d7_20)
  have f44 := f26.same W43
  have f45 := f25.wr W43
  have f46 := f27.other W43 (Or.inr (slot_ne (Or.inr (hw _ (List.mem_of_getElem? (i := 54) rfl))) (Or.inr (hw _ (List.mem_of_getElem? (i := 52) rfl))) (by decide) (t := (.object "java/lang/String")) (t' := (.object "java/lang/String")) (by decide) (by decide)))
  have f47 := f28.other W43 (Or.inr (slot_ne (Or.inr (hw _ (List.mem_of_getElem? (i := 56) rfl))) (Or.inr (hw _ (List.mem_of_getElem? (i := 52) rfl))) (by decide) (t := (.object "java/lang/String")) (t' := (.object "java/lang/String")) (by decide) (by decide)))
  have f48 := f29.other W43 (Or.inr (slot_ne (Or.inr (hw _ (List.mem_of_getElem? (i := 58) rfl))) (Or.inr (hw _ (List.mem_of_getElem? (i := 52) rfl))) (by decide) (t := (.object "com/example/convey/convey/model/MailboxRole")) (t' := (.object "java/lang/String")) (by decide) (by decide)))
  have f49 := f30.other W43 (Or.inr (slot_ne (Or.inr (hw _ (List.mem_of_getElem? (i := 60) rfl))) (Or.inr (hw _ (List.mem_of_getElem? (i := 52) rfl))) (by decide) (t := .long) (t' := (.object "java/lang/String")) (by decide) (by decide)))
  have f50 := f31.other W43 (Or.inr (slot_ne (Or.inr (hw _ (List.mem_of_getElem? (i := 62) rfl))) (Or.inr (hw _ (List.mem_of_getElem? (i := 52) rfl))) (by decide) (t := .boolean) (t' := (.object "java/lang/String")) (by decide) (by decide)))
  have f51 := f32.other W43 (Or.inr (slot_ne (Or.inr (hw _ (List.mem_of_getElem? (i := 64) rfl))) (Or.inr (hw _ (List.mem_of_getElem? (i := 52) rfl))) (by decide) (t := .int) (t' := (.object "java/lang/String")) (by decide) (by decide)))
  have f52 := f33.other W43 (Or.inr (slot_ne (Or.inr (hw _ (List.mem_of_getElem? (i := 66) rfl))) (Or.inr (hw _ (List.mem_of_getElem? (i := 52) rfl))) (by decide) (t := .int) (t' := (.object "java/lang/String")) (by decide) (by decide)))
  have f53 := f34.other W43 (Or.inr (slot_ne (Or.inr (hw _ (List.mem_of_getElem? (i := 68) rfl))) (Or.inr (hw _ (List.mem_of_getElem? (i := 52) rfl))) (by decide) (t := .int) (t' := (.object "java/lang/String")) (by decide) (by decide)))
  have f54 := f35.other W43 (Or.inr (slot_ne (Or.inr (hw _ (List.mem_of_getElem? (i := 70) rfl))) (Or.inr (hw _ (List.mem_of_getElem? (i := 52) rfl))) (by decide) (t := .int) (t' := (.object "java/lang/String")) (by decide) (by decide)))
  have Z55 := Nat.le_trans Z36 (Nat.le_of_eq W43.size.symm)
  have K56 := K37.wr W43 (Or.inl (List.mem_of_getElem? (i := 0) rfl))
  have hk57 := Nat.le_trans hkq24 (Nat.le_of_eq W43.size.symm)
  have N58 := Fr.snoc X43 N40 g1
  have go59 : Goes p e below s₁ (entryFrame m #[(.ref a1), (.ref a2), pid, (.ref a4), rol, (.long srt), (.int sub), (.int tot), (.int unr), (.int thr), (.int uth)] 12) T43 (mkF m 23 #[.val (.ref a1), .val (.ref a2), .val pid, .val (.ref a4), .val rol, .val (.long srt), .second, .val (.int sub), .val (.int tot), .val (.int unr), .val (.int thr), .val (.int uth)] []) := fun t k => go42 t (st43 t k)
  have go60 : Goes p e below s₁ (entryFrame m #[(.ref a1), (.ref a2), pid, (.ref a4), rol, (.long srt), (.int sub), (.int tot), (.int unr), (.int thr), (.int uth)] 12) T43 (mkF m 25 #[.val (.ref a1), .val (.ref a2), .val pid, .val (.ref a4), .val rol, .val (.long srt), .second, .val (.int sub), .val (.int tot), .val (.int unr), .val (.int thr), .val (.int uth)] [pid, (.ref a1)]) := fun t k => by
    refine go59 t ?_
    refine XS.aloadN X43.here hx rfl (hb hby d7_23) rfl rfl ?_
    show Steps p.tables e below (T43.setTop (mkF m 24 #[.val (.ref a1), .val (.ref a2), .val pid, .val (.ref a4), .val rol, .val (.long srt), .second, .val (.int sub), .val (.int tot), .val (.int unr), .val (.int thr), .val (.int uth)] [(.ref a1)])) _
    refine XS.aloadN X43.here hx rfl (hb hby d7_24) rfl hpid ?_
    show Steps p.tables e below (T43.setTop (mkF m 25 #[.val (.ref a1), .val (.ref a2), .val pid, .val (.ref a4), .val rol, .val (.long srt), .second, .val (.int sub), .val (.int tot), .val (.int unr), .val (.int thr), .val (.int uth)] [pid, (.ref a1)])) _
    exact k
  obtain ⟨T61, h61, X61, e61, W61, st61⟩ := putF X43 hx hZ hown (host := "") (Or.inl (hw _ (List.mem_of_getElem? (i := 53) rfl))) Via.refl e43 f46 f45 (Or.inr ⟨(hw _ (List.mem_of_getElem? (i := 54) rfl)), rfl, hnm⟩) (hw _ (List.mem_of_getElem? (i := 32) rfl)) (ty := (.object "java/lang/String")) (by decide) (own_narO hpid) (own_fitO hpid) (g := (mkF m 25 #[.val (.ref a1), .val (.ref a2), .val pid, .val (.ref a4), .val rol, .val (.long srt), .second, .val (.int sub), .val (.int tot), .val (.int unr), .val (.int thr), .val (.int uth)] [pid, (.ref a1)])) rfl rfl (hb hby d7_25)
  have f62 := f46.same W61
  have f63 := f45.wr W61
  have f64 := f47.other W61 (Or.inr (slot_ne (Or.inr (hw _ (List.mem_of_getElem? (i := 56) rfl))) (Or.inr (hw _ (List.mem_of_getElem? (i := 54) rfl))) (by decide) (t := (.object "java/lang/String")) (t' := (.object "java/lang/String")) (by decide) (by decide)))
  have f65 := f48.other W61 (Or.inr (slot_ne (Or.inr (hw _ (List.mem_of_getElem? (i := 58) rfl))) (Or.inr (hw _ (List.mem_of_getElem? (i := 54) rfl))) (by decide) (t := (.object "com/example/convey/convey/model/MailboxRole")) (t' := (.object "java/lang/String")) (by decide) (by decide)))
  have f66 := f49.other W61 (Or.inr (slot_ne (Or.inr (hw _ (List.mem_of_getElem? (i := 60) rfl))) (Or.inr (hw _ (List.mem_of_getElem? (i := 54) rfl))) (by decide) (t := .long) (t' := (.object "java/lang/String")) (by decide) (by decide)))
  have f67 := f50.other W61 (Or.inr (slot_ne (Or.inr (hw _ (List.mem_of_getElem? (i := 62) rfl))) (Or.inr (hw _ (List.mem_of_getElem? (i := 54) rfl))) (by decide) (t := .boolean) (t' := (.object "java/lang/String")) (by decide) (by decide)))
  have f68 := f51.other W61 (Or.inr (slot_ne (Or.inr (hw _ (List.mem_of_getElem? (i := 64) rfl))) (Or.inr (hw _ (List.mem_of_getElem? (i := 54) rfl))) (by decide) (t := .int) (t' := (.object "java/lang/String")) (by decide) (by decide)))
  have f69 := f52.other W61 (Or.inr (slot_ne (Or.inr (hw _ (List.mem_of_getElem? (i := 66) rfl))) (Or.inr (hw _ (List.mem_of_getElem? (i := 54) rfl))) (by decide) (t := .int) (t' := (.object "java/lang/String")) (by decide) (by decide)))
  have f70 := f53.other W61 (Or.inr (slot_ne (Or.inr (hw _ (List.mem_of_getElem? (i := 68) rfl))) (Or.inr (hw _ (List.mem_of_getElem? (i := 54) rfl))) (by decide) (t := .int) (t' := (.object "java/lang/String")) (by decide) (by decide)))
  have f71 := f54.other W61 (Or.inr (slot_ne (Or.inr (hw _ (List.mem_of_getElem? (i := 70) rfl))) (Or.inr (hw _ (List.mem_of_getElem? (i := 54) rfl))) (by decide) (t := .int) (t' := (.object "java/lang/String")) (by decide) (by decide)))
  have f72 := f44.other W61 (Or.inr (slot_ne (Or.inr (hw _ (List.mem_of_getElem? (i := 52) rfl))) (Or.inr (hw _ (List.mem_of_getElem? (i := 54) rfl))) (by decide) (t := (.object "java/lang/String")) (t' := (.object "java/lang/String")) (by decide) (by decide)))
  have Z73 := Nat.le_trans Z55 (Nat.le_of_eq W61.size.symm)
  have K74 := K56.wr W61 (Or.inl (List.mem_of_getElem? (i := 0) rfl))
  have hk75 := Nat.le_trans hk57 (Nat.le_of_eq W61.size.symm)
  have N76 := Fr.snoc X61 N58 g1
  have go77 : Goes p e below s₁ (entryFrame m #[(.ref a1), (.ref a2), pid, (.ref a4), rol, (.long srt), (.int sub), (.int tot), (.int unr), (.int thr), (.int uth)] 12) T61 (mkF m 28 #[.val (.ref a1), .val (.ref a2), .val pid, .val (.ref a4), .val rol, .val (.long srt), .second, .val (.int sub), .val (.int tot), .val (.int unr), .val (.int thr), .val (.int uth)] []) := fun t k => go60 t (st61 t k)
  have go78 : Goes p e below s₁ (entryFrame m #[(.ref a1), (.ref a2), pid, (.ref a4), rol, (.long srt), (.int sub), (.int tot), (.int unr), (.int thr), (.int uth)] 12) T61 (mkF m 30 #[.val (.ref a1), .val (.ref a2), .val pid, .val (.ref a4), .val rol, .val (.long srt), .second, .val (.int sub), .val (.int tot), .val (.int unr), .val (.int thr), .val (.int uth)] [(.ref a4), (.ref a1)]) := fun t k => by
    refine go77 t ?_
    refine XS.aloadN X61.here hx rfl (hb hby d7_28) rfl rfl ?_
    show Steps p.tables e below (T61.setTop (mkF m 29 #[.val (.ref a1), .val (.ref a2), .val pid, .val (.ref a4), .val rol, .val (.long srt), .second, .val (.int sub), .val (.int tot), .val (.int unr), .val (.int thr), .val (.int uth)] [(.ref a1)])) _
    refine XS.aloadN X61.here hx rfl (hb hby d7_29) rfl rfl ?_
    show Steps p.tables e below (T61.setTop (mkF m 30 #[.val (.ref a1), .val (.ref a2), .val pid, .val (.ref a4), .val rol, .val (.long srt), .second, .val (.int sub), .val (.int tot), .val (.int unr), .val (.int thr), .val (.int uth)] [(.ref a4), (.ref a1)])) _
    exact k
  obtain ⟨T79, h79, X79, e79, W79, st79⟩ := putF X61 hx hZ hown (host := "") (Or.inl (hw _ (List.mem_of_getElem? (i := 55) rfl))) Via.refl e61 f64 f63 (Or.inr ⟨(hw _ (List.mem_of_getElem? (i := 56) rfl)), rfl, hnm⟩) (hw _ (List.mem_of_getElem? (i := 32) rfl)) (ty := (.object "java/lang/String")) (by decide) rfl rfl (g := (mkF m 30 #[.val (.ref a1), .val (.ref a2), .val pid, .val (.ref a4), .val rol, .val (.long srt), .second, .val (.int sub), .val (.int tot), .val (.int unr), .val (.int thr), .val (.int uth)] [(.ref a4), (.ref a1)])) rfl rfl (hb hby d7_30)
  have f80 := f64.same W79
  have f81 := f63.wr W79
  have f82 := f65.other W79 (Or.inr (slot_ne (Or.inr (hw _ (List.mem_of_getElem? (i := 58) rfl))) (Or.inr (hw _ (List.mem_of_getElem? (i := 56) rfl))) (by decide) (t := (.object "com/example/convey/convey/model/MailboxRole")) (t' := (.object "java/lang/String")) (by decide) (by decide)))
  have f83 := f66.other W79 (Or.inr (slot_ne (Or.inr (hw _ (List.mem_of_getElem? (i := 60) rfl))) (Or.inr (hw _ (List.mem_of_getElem? (i := 56) rfl))) (by decide) (t := .long) (t' := (.object "java/lang/String")) (by decide) (by decide)))
  have f84 := f67.other W79 (Or.inr (slot_ne (Or.inr (hw _ (List.mem_of_getElem? (i := 62) rfl))) (Or.inr (hw _ (List.mem_of_getElem? (i := 56) rfl))) (by decide) (t := .boolean) (t' := (.object "java/lang/String")) (by decide) (by decide)))
  have f85 := f68.other W79 (Or.inr (slot_ne (Or.inr (hw _ (List.mem_of_getElem? (i := 64) rfl))) (Or.inr (hw _ (List.mem_of_getElem? (i := 56) rfl))) (by decide) (t := .int) (t' := (.object "java/lang/String")) (by decide) (by decide)))
  have f86 := f69.other W79 (Or.inr (slot_ne (Or.inr (hw _ (List.mem_of_getElem? (i := 66) rfl))) (Or.inr (hw _ (List.mem_of_getElem? (i := 56) rfl))) (by decide) (t := .int) (t' := (.object "java/lang/String")) (by decide) (by decide)))
  have f87 := f70.other W79 (Or.inr (slot_ne (Or.inr (hw _ (List.mem_of_getElem? (i := 68) rfl))) (Or.inr (hw _ (List.mem_of_getElem? (i := 56) rfl))) (by decide) (t := .int) (t' := (.object "java/lang/String")) (by decide) (by decide)))
  have f88 := f71.other W79 (Or.inr (slot_ne (Or.inr (hw _ (List.mem_of_getElem? (i := 70) rfl))) (Or.inr (hw _ (List.mem_of_getElem? (i := 56) rfl))) (by decide) (t := .int) (t' := (.object "java/lang/String")) (by decide) (by decide)))
  have f89 := f72.other W79 (Or.inr (slot_ne (Or.inr (hw _ (List.mem_of_getElem? (i := 52) rfl))) (Or.inr (hw _ (List.mem_of_getElem? (i := 56) rfl))) (by decide) (t := (.object "java/lang/String")) (t' := (.object "java/lang/String")) (by decide) (by decide)))
  have f90 := f62.other W79 (Or.inr (slot_ne (Or.inr (hw _ (List.mem_of_getElem? (i := 54) rfl))) (Or.inr (hw _ (List.mem_of_getElem? (i := 56) rfl))) (by decide) (t := (.object "java/lang/String")) (t' := (.object "java/lang/String")) (by decide) (by decide)))
  have Z91 := Nat.le_trans Z73 (Nat.le_of_eq W79.size.symm)
  have K92 := K74.wr W79 (Or.inl (List.mem_of_getElem? (i := 0) rfl))
  have hk93 := Nat.le_trans hk75 (Nat.le_of_eq W79.size.symm)
  have N94 := Fr.snoc X79 N76 g1
  have go95 : Goes p e below s₁ (entryFrame m #[(.ref a1), (.ref a2), pid, (.ref a4), rol, (.long srt), (.int sub), (.int tot), (.int unr), (.int thr), (.int uth)] 12) T79 (mkF m 33 #[.val (.ref a1), .val (.ref a2), .val pid, .val (.ref a4), .val rol, .val (.long srt), .second, .val (.int sub), .val (.int tot), .val (.int unr), .val (.int thr), .val (.int uth)] []) := fun t k => go78 t (st79 t k)
  have go96 : Goes p e below s₁ (entryFrame m #[(.ref a1), (.ref a2), pid, (.ref a4), rol, (.long srt), (.int sub), (.int tot), (.int unr), (.int thr), (.int uth)] 12) T79 (mkF m 36 #[.val (.ref a1), .val (.ref a2), .val pid, .val (.ref a4), .val rol, .val (.long srt), .second, .val (.int sub), .val (.int tot), .val (.int unr), .val (.int thr), .val (.int uth)] [rol, (.ref a1)]) := fun t k => by
    refine go95 t ?_
    refine XS.aloadN X79.here hx rfl (hb hby d7_33) rfl rfl ?_
    show Steps p.tables e below (T79.setTop (mkF m 34 #[.val (.ref a1), .val (.ref a2), .val pid, .val (.ref a4), .val rol, .val (.long srt), .second, .val (.int sub), .val (.int tot), .val (.int unr), .val (.int thr), .val (.int uth)] [(.ref a1)])) _
    refine XS.aload X79.here hx rfl (hb hby d7_34) rfl hrol ?_
    show Steps p.tables e below (T79.setTop (mkF m 36 #[.val (.ref a1), .val (.ref a2), .val pid, .val (.ref a4), .val rol, .val (.long srt), .second, .val (.int sub), .val (.int tot), .val (.int unr), .val (.int thr), .val (.int uth)] [rol, (.ref a1)])) _
    exact k
  obtain ⟨T97, h97, X97, e97, W97, st97⟩ := putF X79 hx hZ hown (host := "") (Or.inl (hw _ (List.mem_of_getElem? (i := 57) rfl))) Via.refl e79 f82 f81 (Or.inr ⟨(hw _ (List.mem_of_getElem? (i := 58) rfl)), rfl, hnm⟩) (hw _ (List.mem_of_getElem? (i := 32) rfl)) (ty := (.object "com/example/convey/convey/model/MailboxRole")) (by decide) (own_narO hrol) (own_fitO hrol) (g := (mkF m 36 #[.val (.ref a1), .val (.ref a2), .val pid, .val (.ref a4), .val rol, .val (.long srt), .second, .val (.int sub), .val (.int tot), .val (.int unr), .val (.int thr), .val (.int uth)] [rol, (.ref a1)])) rfl rfl (hb hby d7_36)
  have f98 := f82.same W97
  have f99 := f81.wr W97
  have f100 := f83.other W97 (Or.inr (slot_ne (Or.inr (hw _ (List.mem_of_getElem? (i := 60) rfl))) (Or.inr (hw _ (List.mem_of_getElem? (i := 58) rfl))) (by decide) (t := .long) (t' := (.object "com/example/convey/convey/model/MailboxRole")) (by decide) (by decide)))
  have f101 := f84.other W97 (Or.inr (slot_ne (Or.inr (hw _ (List.mem_of_getElem? (i := 62) rfl))) (Or.inr (hw _ (List.mem_of_getElem? (i := 58) rfl))) (by decide) (t := .boolean) (t' := (.object "com/example/convey/convey/model/MailboxRole")) (by decide) (by decide)))
  have f102 := f85.other W97 (Or.inr (slot_ne (Or.inr (hw _ (List.mem_of_getElem? (i := 64) rfl))) (Or.inr (hw _ (List.mem_of_getElem? (i := 58) rfl))) (by decide) (t := .int) (t' := (.object "com/example/convey/convey/model/MailboxRole")) (by decide) (by decide)))
  have f103 := f86.other W97 (Or.inr (slot_ne (Or.inr (hw _ (List.mem_of_getElem? (i := 66) rfl))) (Or.inr (hw _ (List.mem_of_getElem? (i := 58) rfl))) (by decide) (t := .int) (t' := (.object "com/example/convey/convey/model/MailboxRole")) (by decide) (by decide)))
  have f104 := f87.other W97 (Or.inr (slot_ne (Or.inr (hw _ (List.mem_of_getElem? (i := 68) rfl))) (Or.inr (hw _ (List.mem_of_getElem? (i := 58) rfl))) (by decide) (t := .int) (t' := (.object "com/example/convey/convey/model/MailboxRole")) (by decide) (by decide)))
  have f105 := f88.other W97 (Or.inr (slot_ne (Or.inr (hw _ (List.mem_of_getElem? (i := 70) rfl))) (Or.inr (hw _ (List.mem_of_getElem? (i := 58) rfl))) (by decide) (t := .int) (t' := (.object "com/example/convey/convey/model/MailboxRole")) (by decide) (by decide)))
  have f106 := f89.other W97 (Or.inr (slot_ne (Or.inr (hw _ (List.mem_of_getElem? (i := 52) rfl))) (Or.inr (hw _ (List.mem_of_getElem? (i := 58) rfl))) (by decide) (t := (.object "java/lang/String")) (t' := (.object "com/example/convey/convey/model/MailboxRole")) (by decide) (by decide)))
  have f107 := f90.other W97 (Or.inr (slot_ne (Or.inr (hw _ (List.mem_of_getElem? (i := 54) rfl))) (Or.inr (hw _ (List.mem_of_getElem? (i := 58) rfl))) (by decide) (t := (.object "java/lang/String")) (t' := (.object "com/example/convey/convey/model/MailboxRole")) (by decide) (by decide)))
  have f108 := f80.other W97 (Or.inr (slot_ne (Or.inr (hw _ (List.mem_of_getElem? (i := 56) rfl))) (Or.inr (hw _ (List.mem_of_getElem? (i := 58) rfl))) (by decide) (t := (.object "java/lang/String")) (t' := (.object "com/example/convey/convey/model/MailboxRole")) (by decide) (by decide)))
  have Z109 := Nat.le_trans Z91 (Nat.le_of_eq W97.size.symm)
  have K110 := K92.wr W97 (Or.inl (List.mem_of_getElem? (i := 0) rfl))
  have hk111 := Nat.le_trans hk93 (Nat.le_of_eq W97.size.symm)
  have N112 := Fr.snoc X97 N94 g1
  have go113 : Goes p e below s₁ (entryFrame m #[(.ref a1), (.ref a2), pid, (.ref a4), rol, (.long srt), (.int sub), (.int tot), (.int unr), (.int thr), (.int uth)] 12) T97 (mkF m 39 #[.val (.ref a1), .val (.ref a2), .val pid, .val (.ref a4), .val rol, .val (.long srt), .second, .val (.int sub), .val (.int tot), .val (.int unr), .val (.int thr), .val (.int uth)] []) := fun t k => go96 t (st97 t k)
  have go114 : Goes p e below s₁ (entryFrame m #[(.ref a1), (.ref a2), pid, (.ref a4), rol, (.long srt), (.int sub), (.int tot), (.int unr), (.int thr), (.int uth)] 12) T97 (mkF m 42 #[.val (.ref a1), .val (.ref a2), .val pid, .val (.ref a4), .val rol, .val (.long srt), .second, .val (.int sub), .val (.int tot), .val (.int unr), .val (.int thr), .val (.int uth)] [(.long srt), (.ref a1)]) := fun t k => by
    refine go113 t ?_
    refine XS.aloadN X97.here hx rfl (hb hby d7_39) rfl rfl ?_
    show Steps p.tables e below (T97.setTop (mkF m 40 #[.val (.ref a1), .val (.ref a2), .val pid, .val (.ref a4), .val rol, .val (.long srt), .second, .val (.int sub), .val (.int tot), .val (.int unr), .val (.int thr), .val (.int uth)] [(.ref a1)])) _
    refine XS.lload X97.here hx rfl (hb hby d7_40) rfl ?_
    show Steps p.tables e below (T97.setTop (mkF m 42 #[.val (.ref a1), .val (.ref a2), .val pid, .val (.ref a4), .val rol, .val (.long srt), .second, .val (.int sub), .val (.int tot), .val (.int unr), .val (.int thr), .val (.int uth)] [(.long srt), (.ref a1)])) _
    exact k
  obtain ⟨T115, h115, X115, e115, W115, st115⟩ := putF X97 hx hZ hown (host := "") (Or.inl (hw _ (List.mem_of_getElem? (i := 59) rfl))) Via.refl e97 f100 f99 (Or.inr ⟨(hw _ (List.mem_of_getElem? (i := 60) rfl)), rfl, hnm⟩) (hw _ (List.mem_of_getElem? (i := 32) rfl)) (ty := .long) (by decide) rfl rfl (g := (mkF m 42 #[.val (.ref a1), .val (.ref a2), .val pid, .val (.ref a4), .val rol, .val (.long srt), .second, .val (.int sub), .val (.int tot), .val (.int unr), .val (.int thr), .val (.int uth)] [(.long srt), (.ref a1)])) rfl rfl (hb hby d7_42)
  have f116 := f100.same W115
  have f117 := f99.wr W115
  have f118 := f101.other W115 (Or.inr (slot_ne (Or.inr (hw _ (List.mem_of_getElem? (i := 62) rfl))) (Or.inr (hw _ (List.mem_of_getElem? (i := 60) rfl))) (by decide) (t := .boolean) (t' := .long) (by decide) (by decide)))
  have f119 := f102.other W115 (Or.inr (slot_ne (Or.inr (hw _ (List.mem_of_getElem? (i := 64) rfl))) (Or.inr (hw _ (List.mem_of_getElem? (i := 60) rfl))) (by decide) (t := .int) (t' := .long) (by decide) (by decide)))
  have f120 := f103.other W115 (Or.inr (slot_ne (Or.inr (hw _ (List.mem_of_getElem? (i := 66) rfl))) (Or.inr (hw _ (List.mem_of_getElem? (i := 60) rfl))) (by decide) (t := .int) (t' := .long) (by decide) (by decide)))
  have f121 := f104.other W115 (Or.inr (slot_ne (Or.inr (hw _ (List.mem_of_getElem? (i := 68) rfl))) (Or.inr (hw _ (List.mem_of_getElem? (i := 60) rfl))) (by decide) (t := .int) (t' := .long) (by decide) (by decide)))
  have f122 := f105.other W115 (Or.inr (slot_ne (Or.inr (hw _ (List.mem_of_getElem? (i := 70) rfl))) (Or.inr (hw _ (List.mem_of_getElem? (i := 60) rfl))) (by decide) (t := .int) (t' := .long) (by decide) (by decide)))
  have f123 := f106.other W115 (Or.inr (slot_ne (Or.inr (hw _ (List.mem_of_getElem? (i := 52) rfl))) (Or.inr (hw _ (List.mem_of_getElem? (i := 60) rfl))) (by decide) (t := (.object "java/lang/String")) (t' := .long) (by decide) (by decide)))
  have f124 := f107.other W115 (Or.inr (slot_ne (Or.inr (hw _ (List.mem_of_getElem? (i := 54) rfl))) (Or.inr (hw _ (List.mem_of_getElem? (i := 60) rfl))) (by decide) (t := (.object "java/lang/String")) (t' := .long) (by decide) (by decide)))
  have f125 := f108.other W115 (Or.inr (slot_ne (Or.inr (hw _ (List.mem_of_getElem? (i := 56) rfl))) (Or.inr (hw _ (List.mem_of_getElem? (i := 60) rfl))) (by decide) (t := (.object "java/lang/String")) (t' := .long) (by decide) (by decide)))
  have f126 := f98.other W115 (Or.inr (slot_ne (Or.inr (hw _ (List.mem_of_getElem? (i := 58) rfl))) (Or.inr (hw _ (List.mem_of_getElem? (i := 60) rfl))) (by decide) (t := (.object "com/example/convey/convey/model/MailboxRole")) (t' := .long) (by decide) (by decide)))
  have Z127 := Nat.le_trans Z109 (Nat.le_of_eq W115.size.symm)
  have K128 := K110.wr W115 (Or.inl (List.mem_of_getElem? (i := 0) rfl))
  have hk129 := Nat.le_trans hk111 (Nat.le_of_eq W115.size.symm)
  have N130 := Fr.snoc X115 N112 g1
  have go131 : Goes p e below s₁ (entryFrame m #[(.ref a1), (.ref a2), pid, (.ref a4), rol, (.long srt), (.int sub), (.int tot), (.int unr), (.int thr), (.int uth)] 12) T115 (mkF m 45 #[.val (.ref a1), .val (.ref a2), .val pid, .val (.ref a4), .val rol, .val (.long srt), .second, .val (.int sub), .val (.int tot), .val (.int unr), .val (.int thr), .val (.int uth)] []) := fun t k => go114 t (st115 t k)
  have go132 : Goes p e below s₁ (entryFrame m #[(.ref a1), (.ref a2), pid, (.ref a4), rol, (.long srt), (.int sub), (.int tot), (.int unr), (.int thr), (.int uth)] 12) T115 (mkF m 48 #[.val (.ref a1), .val (.ref a2), .val pid, .val (.ref a4), .val rol, .val (.long srt), .second, .val (.int sub), .val (.int tot), .val (.int unr), .val (.int thr), .val (.int uth)] [(.int sub), (.ref a1)]) := fun t k => by
    refine go131 t ?_
    refine XS.aloadN X115.here hx rfl (hb hby d7_45) rfl rfl ?_
    show Steps p.tables e below (T115.setTop (mkF m 46 #[.val (.ref a1), .val (.ref a2), .val pid, .val (.ref a4), .val rol, .val (.long srt), .second, .val (.int sub), .val (.int tot), .val (.int unr), .val (.int thr), .val (.int uth)] [(.ref a1)])) _
    refine XS.iload X115.here hx rfl (hb hby d7_46) rfl ?_
    show Steps p.tables e below (T115.setTop (mkF m 48 #[.val (.ref a1), .val (.ref a2), .val pid, .val (.ref a4), .val rol, .val (.long srt), .second, .val (.int sub), .val (.int tot), .val (.int unr), .val (.int thr), .val (.int uth)] [(.int sub), (.ref a1)])) _
    exact k
  obtain ⟨T133, h133, X133, e133, W133, st133⟩ := putFN X115 hx hZ hown (hw _ (List.mem_of_getElem? (i := 61) rfl)) Via.refl e115 f118 f117 (Or.inr ⟨(hw _ (List.mem_of_getElem? (i := 62) rfl)), rfl, hnm⟩) (hw _ (List.mem_of_getElem? (i := 32) rfl)) (ty := .boolean) (v' := (.int (nar .boolean sub))) (by decide) rfl (fits_nar_bool _) (g := (mkF m 48 #[.val (.ref a1), .val (.ref a2), .val pid, .val (.ref a4), .val rol, .val (.long srt), .second, .val (.int sub), .val (.int tot), .val (.int unr), .val (.int thr), .val (.int uth)] [(.int sub), (.ref a1)])) rfl rfl (hb hby d7_48)
  have f134 := f118.same W133
  have f135 := f117.wr W133
  have f136 := f119.other W133 (Or.inr (slot_ne (Or.inr (hw _ (List.mem_of_getElem? (i := 64) rfl))) (Or.inr (hw _ (List.mem_of_getElem? (i := 62) rfl))) (by decide) (t := .int) (t' := .boolean) (by decide) (by decide)))
  have f137 := f120.other W133 (Or.inr (slot_ne (Or.inr (hw _ (List.mem_of_getElem? (i := 66) rfl))) (Or.inr (hw _ (List.mem_of_getElem? (i := 62) rfl))) (by decide) (t := .int) (t' := .boolean) (by decide) (by decide)))
  have f138 := f121.other W133 (Or.inr (slot_ne (Or.inr (hw _ (List.mem_of_getElem? (i := 68) rfl))) (Or.inr (hw _ (List.mem_of_getElem? (i := 62) rfl))) (by decide) (t := .int) (t' := .boolean) (by decide) (by decide)))
  have f139 := f122.other W133 (Or.inr (slot_ne (Or.inr (hw _ (List.mem_of_getElem? (i := 70) rfl))) (Or.inr (hw _ (List.mem_of_getElem? (i := 62) rfl))) (by decide) (t := .int) (t' := .boolean) (by decide) (by decide)))
  have f140 := f123.other W133 (Or.inr (slot_ne (Or.inr (hw _ (List.mem_of_getElem? (i := 52) rfl))) (Or.inr (hw _ (List.mem_of_getElem? (i := 62) rfl))) (by decide) (t := (.object "java/lang/String")) (t' := .boolean) (by decide) (by decide)))
  have f141 := f124.other W133 (Or.inr (slot_ne (Or.inr (hw _ (List.mem_of_getElem? (i := 54) rfl))) (Or.inr (hw _ (List.mem_of_getElem? (i := 62) rfl))) (by decide) (t := (.object "java/lang/String")) (t' := .boolean) (by decide) (by decide)))
  have f142 := f125.other W133 (Or.inr (slot_ne (Or.inr (hw _ (List.mem_of_getElem? (i := 56) rfl))) (Or.inr (hw _ (List.mem_of_getElem? (i := 62) rfl))) (by decide) (t := (.object "java/lang/String")) (t' := .boolean) (by decide) (by decide)))
  have f143 := f126.other W133 (Or.inr (slot_ne (Or.inr (hw _ (List.mem_of_getElem? (i := 58) rfl))) (Or.inr (hw _ (List.mem_of_getElem? (i := 62) rfl))) (by decide) (t := (.object "com/example/convey/convey/model/MailboxRole")) (t' := .boolean) (by decide) (by decide)))
  have f144 := f116.other W133 (Or.inr (slot_ne (Or.inr (hw _ (List.mem_of_getElem? (i := 60) rfl))) (Or.inr (hw _ (List.mem_of_getElem? (i := 62) rfl))) (by decide) (t := .long) (t' := .boolean) (by decide) (by decide)))
  have Z145 := Nat.le_trans Z127 (Nat.le_of_eq W133.size.symm)
  have K146 := K128.wr W133 (Or.inl (List.mem_of_getElem? (i := 0) rfl))
  have hk147 := Nat.le_trans hk129 (Nat.le_of_eq W133.size.symm)
  have N148 := Fr.snoc X133 N130 g1
  have go149 : Goes p e below s₁ (entryFrame m #[(.ref a1), (.ref a2), pid, (.ref a4), rol, (.long srt), (.int sub), (.int tot), (.int unr), (.int thr), (.int uth)] 12) T133 (mkF m 51 #[.val (.ref a1), .val (.ref a2), .val pid, .val (.ref a4), .val rol, .val (.long srt), .second, .val (.int sub), .val (.int tot), .val (.int unr), .val (.int thr), .val (.int uth)] []) := fun t k => go132 t (st133 t k)
  have go150 : Goes p e below s₁ (entryFrame m #[(.ref a1), (.ref a2), pid, (.ref a4), rol, (.long srt), (.int sub), (.int tot), (.int unr), (.int thr), (.int uth)] 12) T133 (mkF m 54 #[.val (.ref a1), .val (.ref a2), .val pid, .val (.ref a4), .val rol, .val (.long srt), .second, .val (.int sub), .val (.int tot), .val (.int unr), .val (.int thr), .val (.int uth)] [(.int tot), (.ref a1)]) := fun t k => by
    refine go149 t ?_
    refine XS.aloadN X133.here hx rfl (hb hby d7_51) rfl rfl ?_
    show Steps p.tables e below (T133.setTop (mkF m 52 #[.val (.ref a1), .val (.ref a2), .val pid, .val (.ref a4), .val rol, .val (.long srt), .second, .val (.int sub), .val (.int tot), .val (.int unr), .val (.int thr), .val (.int uth)] [(.ref a1)])) _
    refine XS.iload X133.here hx rfl (hb hby d7_52) rfl ?_
    show Steps p.tables e below (T133.setTop (mkF m 54 #[.val (.ref a1), .val (.ref a2), .val pid, .val (.ref a4), .val rol, .val (.long srt), .second, .val (.int sub), .val (.int tot), .val (.int unr), .val (.int thr), .val (.int uth)] [(.int tot), (.ref a1)])) _
    exact k
  obtain ⟨T151, h151, X151, e151, W151, st151⟩ := putF X133 hx hZ hown (host := "") (Or.inl (hw _ (List.mem_of_getElem? (i := 63) rfl))) Via.refl e133 f136 f135 (Or.inr ⟨(hw _ (List.mem_of_getElem? (i := 64) rfl)), rfl, hnm⟩) (hw _ (List.mem_of_getElem? (i := 32) rfl)) (ty := .int) (by decide) rfl rfl (g := (mkF m 54 #[.val (.ref a1), .val (.ref a2), .val pid, .val (.ref a4), .val rol, .val (.long srt), .second, .val (.int sub), .val (.int tot), .val (.int unr), .val (.int thr), .val (.int uth)] [(.int tot), (.ref a1)])) rfl rfl (hb hby d7_54)
  have f152 := f136.same W151
  have f153 := f135.wr W151
  have f154 := f137.other W151 (Or.inr (slot_ne (Or.inr (hw _ (List.mem_of_getElem? (i := 66) rfl))) (Or.inr (hw _ (List.mem_of_getElem? (i := 64) rfl))) (by decide) (t := .int) (t' := .int) (by decide) (by decide)))
  have f155 := f138.other W151 (Or.inr (slot_ne (Or.inr (hw _ (List.mem_of_getElem? (i := 68) rfl))) (Or.inr (hw _ (List.mem_of_getElem? (i := 64) rfl))) (by decide) (t := .int) (t' := .int) (by decide) (by decide)))
  have f156 := f139.other W151 (Or.inr (slot_ne (Or.inr (hw _ (List.mem_of_getElem? (i := 70) rfl))) (Or.inr (hw _ (List.mem_of_getElem? (i := 64) rfl))) (by decide) (t := .int) (t' := .int) (by decide) (by decide)))
  have f157 := f140.other W151 (Or.inr (slot_ne (Or.inr (hw _ (List.mem_of_getElem? (i := 52) rfl))) (Or.inr (hw _ (List.mem_of_getElem? (i := 64) rfl))) (by decide) (t := (.object "java/lang/String")) (t' := .int) (by decide) (by decide)))
  have f158 := f141.other W151 (Or.inr (slot_ne (Or.inr (hw _ (List.mem_of_getElem? (i := 54) rfl))) (Or.inr (hw _ (List.mem_of_getElem? (i := 64) rfl))) (by decide) (t := (.object "java/lang/String")) (t' := .int) (by decide) (by decide)))
  have f159 := f142.other W151 (Or.inr (slot_ne (Or.inr (hw _ (List.mem_of_getElem? (i := 56) rfl))) (Or.inr (hw _ (List.mem_of_getElem? (i := 64) rfl))) (by decide) (t := (.object "java/lang/String")) (t' := .int) (by decide) (by decide)))
  have f160 := f143.other W151 (Or.inr (slot_ne (Or.inr (hw _ (List.mem_of_getElem? (i := 58) rfl))) (Or.inr (hw _ (List.mem_of_getElem? (i := 64) rfl))) (by decide) (t := (.object "com/example/convey/convey/model/MailboxRole")) (t' := .int) (by decide) (by decide)))
  have f161 := f144.other W151 (Or.inr (slot_ne (Or.inr (hw _ (List.mem_of_getElem? (i := 60) rfl))) (Or.inr (hw _ (List.mem_of_getElem? (i := 64) rfl))) (by decide) (t := .long) (t' := .int) (by decide) (by decide)))
  have f162 := f134.other W151 (Or.inr (slot_ne (Or.inr (hw _ (List.mem_of_getElem? (i := 62) rfl))) (Or.inr (hw _ (List.mem_of_getElem? (i := 64) rfl))) (by decide) (t := .boolean) (t' := .int) (by decide) (by decide)))
  have Z163 := Nat.le_trans Z145 (Nat.le_of_eq W151.size.symm)
  have K164 := K146.wr W151 (Or.inl (List.mem_of_getElem? (i := 0) rfl))
  have hk165 := Nat.le_trans hk147 (Nat.le_of_eq W151.size.symm)
  have N166 := Fr.snoc X151 N148 g1
  have go167 : Goes p e below s₁ (entryFrame m #[(.ref a1), (.ref a2), pid, (.ref a4), rol, (.long srt), (.int sub), (.int tot), (.int unr), (.int thr), (.int uth)] 12) T151 (mkF m 57 #[.val (.ref a1), .val (.ref a2), .val pid, .val (.ref a4), .val rol, .val (.long srt), .second, .val (.int sub), .val (.int tot), .val (.int unr), .val (.int thr), .val (.int uth)] []) := fun t k => go150 t (st151 t k)
  have go168 : Goes p e below s₁ (entryFrame m #[(.ref a1), (.ref a2), pid, (.ref a4), rol, (.long srt), (.int sub), (.int tot), (.int unr), (.int thr), (.int uth)] 12) T151 (mkF m 60 #[.val (.ref a1), .val (.ref a2), .val pid, .val (.ref a4), .val rol, .val (.long srt), .second, .val (.int sub), .val (.int tot), .val (.int unr), .val (.int thr), .val (.int uth)] [(.int unr), (.ref a1)]) := fun t k => by
    refine go167 t ?_
    refine XS.aloadN X151.here hx rfl (hb hby d7_57) rfl rfl ?_
    show Steps p.tables e below (T151.setTop (mkF m 58 #[.val (.ref a1), .val (.ref a2), .val pid, .val (.ref a4), .val rol, .val (.long srt), .second, .val (.int sub), .val (.int tot), .val (.int unr), .val (.int thr), .val (.int uth)] [(.ref a1)])) _
    refine XS.iload X151.here hx rfl (hb hby d7_58) rfl ?_
    show Steps p.tables e below (T151.setTop (mkF m 60 #[.val (.ref a1), .val (.ref a2), .val pid, .val (.ref a4), .val rol, .val (.long srt), .second, .val (.int sub), .val (.int tot), .val (.int unr), .val (.int thr), .val (.int uth)] [(.int unr), (.ref a1)])) _
    exact k
  obtain ⟨T169, h169, X169, e169, W169, st169⟩ := putF X151 hx hZ hown (host := "") (Or.inl (hw _ (List.mem_of_getElem? (i := 65) rfl))) Via.refl e151 f154 f153 (Or.inr ⟨(hw _ (List.mem_of_getElem? (i := 66) rfl)), rfl, hnm⟩) (hw _ (List.mem_of_getElem? (i := 32) rfl)) (ty := .int) (by decide) rfl rfl (g := (mkF m 60 #[.val (.ref a1), .val (.ref a2), .val pid, .val (.ref a4), .val rol, .val (.long srt), .second, .val (.int sub), .val (.int tot), .val (.int unr), .val (.int thr), .val (.int uth)] [(.int unr), (.ref a1)])) rfl rfl (hb hby d7_60)
  have f170 := f154.same W169
  have f171 := f153.wr W169
  have f172 := f155.other W169 (Or.inr (slot_ne (Or.inr (hw _ (List.mem_of_getElem? (i := 68) rfl))) (Or.inr (hw _ (List.mem_of_getElem? (i := 66) rfl))) (by decide) (t := .int) (t' := .int) (by decide) (by decide)))
  have f173 := f156.other W169 (Or.inr (slot_ne (Or.inr (hw _ (List.mem_of_getElem? (i := 70) rfl))) (Or.inr (hw _ (List.mem_of_getElem? (i := 66) rfl))) (by decide) (t := .int) (t' := .int) (by decide) (by decide)))
  have f174 := f157.other W169 (Or.inr (slot_ne (Or.inr (hw _ (List.mem_of_getElem? (i := 52) rfl))) (Or.inr (hw _ (List.mem_of_getElem? (i := 66) rfl))) (by decide) (t := (.object "java/lang/String")) (t' := .int) (by decide) (by decide)))
  have f175 := f158.other W169 (Or.inr (slot_ne (Or.inr (hw _ (List.mem_of_getElem? (i := 54) rfl))) (Or.inr (hw _ (List.mem_of_getElem? (i := 66) rfl))) (by decide) (t := (.object "java/lang/String")) (t' := .int) (by decide) (by decide)))
  have f176 := f159.other W169 (Or.inr (slot_ne (Or.inr (hw _ (List.mem_of_getElem? (i := 56) rfl))) (Or.inr (hw _ (List.mem_of_getElem? (i := 66) rfl))) (by decide) (t := (.object "java/lang/String")) (t' := .int) (by decide) (by decide)))
  have f177 := f160.other W169 (Or.inr (slot_ne (Or.inr (hw _ (List.mem_of_getElem? (i := 58) rfl))) (Or.inr (hw _ (List.mem_of_getElem? (i := 66) rfl))) (by decide) (t := (.object "com/example/convey/convey/model/MailboxRole")) (t' := .int) (by decide) (by decide)))
  have f178 := f161.other W169 (Or.inr (slot_ne (Or.inr (hw _ (List.mem_of_getElem? (i := 60) rfl))) (Or.inr (hw _ (List.mem_of_getElem? (i := 66) rfl))) (by decide) (t := .long) (t' := .int) (by decide) (by decide)))
  have f179 := f162.other W169 (Or.inr (slot_ne (Or.inr (hw _ (List.mem_of_getElem? (i := 62) rfl))) (Or.inr (hw _ (List.mem_of_getElem? (i := 66) rfl))) (by decide) (t := .boolean) (t' := .int) (by decide) (by decide)))
  have f180 := f152.other W169 (Or.inr (slot_ne (Or.inr (hw _ (List.mem_of_getElem? (i := 64) rfl))) (Or.inr (hw _ (List.mem_of_getElem? (i := 66) rfl))) (by decide) (t := .int) (t' := .int) (by decide) (by decide)))
  have Z181 := Nat.le_trans Z163 (Nat.le_of_eq W169.size.symm)
  have K182 := K164.wr W169 (Or.inl (List.mem_of_getElem? (i := 0) rfl))
  have hk183 := Nat.le_trans hk165 (Nat.le_of_eq W169.size.symm)
  have N184 := Fr.snoc X169 N166 g1
  have go185 : Goes p e below s₁ (entryFrame m #[(.ref a1), (.ref a2), pid, (.ref a4), rol, (.long srt), (.int sub), (.int tot), (.int unr), (.int thr), (.int uth)] 12) T169 (mkF m 63 #[.val (.ref a1), .val (.ref a2), .val pid, .val (.ref a4), .val rol, .val (.long srt), .second, .val (.int sub), .val (.int tot), .val (.int unr), .val (.int thr), .val (.int uth)] []) := fun t k => go168 t (st169 t k)
  have go186 : Goes p e below s₁ (entryFrame m #[(.ref a1), (.ref a2), pid, (.ref a4), rol, (.long srt), (.int sub), (.int tot), (.int unr), (.int thr), (.int uth)] 12) T169 (mkF m 66 #[.val (.ref a1), .val (.ref a2), .val pid, .val (.ref a4), .val rol, .val (.long srt), .second, .val (.int sub), .val (.int tot), .val (.int unr), .val (.int thr), .val (.int uth)] [(.int thr), (.ref a1)]) := fun t k => by
    refine go185 t ?_
    refine XS.aloadN X169.here hx rfl (hb hby d7_63) rfl rfl ?_
    show Steps p.tables e below (T169.setTop (mkF m 64 #[.val (.ref a1), .val (.ref a2), .val pid, .val (.ref a4), .val rol, .val (.long srt), .second, .val (.int sub), .val (.int tot), .val (.int unr), .val (.int thr), .val (.int uth)] [(.ref a1)])) _
    refine XS.iload X169.here hx rfl (hb hby d7_64) rfl ?_
    show Steps p.tables e below (T169.setTop (mkF m 66 #[.val (.ref a1), .val (.ref a2), .val pid, .val (.ref a4), .val rol, .val (.long srt), .second, .val (.int sub), .val (.int tot), .val (.int unr), .val (.int thr), .val (.int uth)] [(.int thr), (.ref a1)])) _
    exact k
  obtain ⟨T187, h187, X187, e187, W187, st187⟩ := putF X169 hx hZ hown (host := "") (Or.inl (hw _ (List.mem_of_getElem? (i := 67) rfl))) Via.refl e169 f172 f171 (Or.inr ⟨(hw _ (List.mem_of_getElem? (i := 68) rfl)), rfl, hnm⟩) (hw _ (List.mem_of_getElem? (i := 32) rfl)) (ty := .int) (by decide) rfl rfl (g := (mkF m 66 #[.val (.ref a1), .val (.ref a2), .val pid, .val (.ref a4), .val rol, .val (.long srt), .second, .val (.int sub), .val (.int tot), .val (.int unr), .val (.int thr), .val (.int uth)] [(.int thr), (.ref a1)])) rfl rfl (hb hby d7_66)
  have f188 := f172.same W187
  have f189 := f171.wr W187
  have f190 := f173.other W187 (Or.inr (slot_ne (Or.inr (hw _ (List.mem_of_getElem? (i := 70) rfl))) (Or.inr (hw _ (List.mem_of_getElem? (i := 68) rfl))) (by decide) (t := .int) (t' := .int) (by decide) (by decide)))
  have f191 := f174.other W187 (Or.inr (slot_ne (Or.inr (hw _ (List.mem_of_getElem? (i := 52) rfl))) (Or.inr (hw _ (List.mem_of_getElem? (i := 68) rfl))) (by decide) (t := (.object "java/lang/String")) (t' := .int) (by decide) (by decide)))
  have f192 := f175.other W187 (Or.inr (slot_ne (Or.inr (hw _ (List.mem_of_getElem? (i := 54) rfl))) (Or.inr (hw _ (List.mem_of_getElem? (i := 68) rfl))) (by decide) (t := (.object "java/lang/String")) (t' := .int) (by decide) (by decide)))
  have f193 := f176.other W187 (Or.inr (slot_ne (Or.inr (hw _ (List.mem_of_getElem? (i := 56) rfl))) (Or.inr (hw _ (List.mem_of_getElem? (i := 68) rfl))) (by decide) (t := (.object "java/lang/String")) (t' := .int) (by decide) (by decide)))
  have f194 := f177.other W187 (Or.inr (slot_ne (Or.inr (hw _ (List.mem_of_getElem? (i := 58) rfl))) (Or.inr (hw _ (List.mem_of_getElem? (i := 68) rfl))) (by decide) (t := (.object "com/example/convey/convey/model/MailboxRole")) (t' := .int) (by decide) (by decide)))
  have f195 := f178.other W187 (Or.inr (slot_ne (Or.inr (hw _ (List.mem_of_getElem? (i := 60) rfl))) (Or.inr (hw _ (List.mem_of_getElem? (i := 68) rfl))) (by decide) (t := .long) (t' := .int) (by decide) (by decide)))
  have f196 := f179.other W187 (Or.inr (slot_ne (Or.inr (hw _ (List.mem_of_getElem? (i := 62) rfl))) (Or.inr (hw _ (List.mem_of_getElem? (i := 68) rfl))) (by decide) (t := .boolean) (t' := .int) (by decide) (by decide)))
  have f197 := f180.other W187 (Or.inr (slot_ne (Or.inr (hw _ (List.mem_of_getElem? (i := 64) rfl))) (Or.inr (hw _ (List.mem_of_getElem? (i := 68) rfl))) (by decide) (t := .int) (t' := .int) (by decide) (by decide)))
  have f198 := f170.other W187 (Or.inr (slot_ne (Or.inr (hw _ (List.mem_of_getElem? (i := 66) rfl))) (Or.inr (hw _ (List.mem_of_getElem? (i := 68) rfl))) (by decide) (t := .int) (t' := .int) (by decide) (by decide)))
  have Z199 := Nat.le_trans Z181 (Nat.le_of_eq W187.size.symm)
  have K200 := K182.wr W187 (Or.inl (List.mem_of_getElem? (i := 0) rfl))
  have hk201 := Nat.le_trans hk183 (Nat.le_of_eq W187.size.symm)
  have N202 := Fr.snoc X187 N184 g1
  have go203 : Goes p e below s₁ (entryFrame m #[(.ref a1), (.ref a2), pid, (.ref a4), rol, (.long srt), (.int sub), (.int tot), (.int unr), (.int thr), (.int uth)] 12) T187 (mkF m 69 #[.val (.ref a1), .val (.ref a2), .val pid, .val (.ref a4), .val rol, .val (.long srt), .second, .val (.int sub), .val (.int tot), .val (.int unr), .val (.int thr), .val (.int uth)] []) := fun t k => go186 t (st187 t k)
  have go204 : Goes p e below s₁ (entryFrame m #[(.ref a1), (.ref a2), pid, (.ref a4), rol, (.long srt), (.int sub), (.int tot), (.int unr), (.int thr), (.int uth)] 12) T187 (mkF m 72 #[.val (.ref a1), .val (.ref a2), .val pid, .val (.ref a4), .val rol, .val (.long srt), .second, .val (.int sub), .val (.int tot), .val (.int unr), .val (.int thr), .val (.int uth)] [(.int uth), (.ref a1)]) := fun t k => by
    refine go203 t ?_
    refine XS.aloadN X187.here hx rfl (hb hby d7_69) rfl rfl ?_
    show Steps p.tables e below (T187.setTop (mkF m 70 #[.val (.ref a1), .val (.ref a2), .val pid, .val (.ref a4), .val rol, .val (.long srt), .second, .val (.int sub), .val (.int tot), .val (.int unr), .val (.int thr), .val (.int uth)] [(.ref a1)])) _
    refine XS.iload X187.here hx rfl (hb hby d7_70) rfl ?_
    show Steps p.tables e below (T187.setTop (mkF m 72 #[.val (.ref a1), .val (.ref a2), .val pid, .val (.ref a4), .val rol, .val (.long srt), .second, .val (.int sub), .val (.int tot), .val (.int unr), .val (.int thr), .val (.int uth)] [(.int uth), (.ref a1)])) _
    exact k
  obtain ⟨T205, h205, X205, e205, W205, st205⟩ := putF X187 hx hZ hown (host := "") (Or.inl (hw _ (List.mem_of_getElem? (i := 69) rfl))) Via.refl e187 f190 f189 (Or.inr ⟨(hw _ (List.mem_of_getElem? (i := 70) rfl)), rfl, hnm⟩) (hw _ (List.mem_of_getElem? (i := 32) rfl)) (ty := .int) (by decide) rfl rfl (g := (mkF m 72 #[.val (.ref a1), .val (.ref a2), .val pid, .val (.ref a4), .val rol, .val (.long srt), .second, .val (.int sub), .val (.int tot), .val (.int unr), .val (.int thr), .val (.int uth)] [(.int uth), (.ref a1)])) rfl rfl (hb hby d7_72)
  have f206 := f190.same W205
  have f207 := f189.wr W205
  have f208 := f191.other W205 (Or.inr (slot_ne (Or.inr (hw _ (List.mem_of_getElem? (i := 52) rfl))) (Or.inr (hw _ (List.mem_of_getElem? (i := 70) rfl))) (by decide) (t := (.object "java/lang/String")) (t' := .int) (by decide) (by decide)))
  have f209 := f192.other W205 (Or.inr (slot_ne (Or.inr (hw _ (List.mem_of_getElem? (i := 54) rfl))) (Or.inr (hw _ (List.mem_of_getElem? (i := 70) rfl))) (by decide) (t := (.object "java/lang/String")) (t' := .int) (by decide) (by decide)))
  have f210 := f193.other W205 (Or.inr (slot_ne (Or.inr (hw _ (List.mem_of_getElem? (i := 56) rfl))) (Or.inr (hw _ (List.mem_of_getElem? (i := 70) rfl))) (by decide) (t := (.object "java/lang/String")) (t' := .int) (by decide) (by decide)))
  have f211 := f194.other W205 (Or.inr (slot_ne (Or.inr (hw _ (List.mem_of_getElem? (i := 58) rfl))) (Or.inr (hw _ (List.mem_of_getElem? (i := 70) rfl))) (by decide) (t := (.object "com/example/convey/convey/model/MailboxRole")) (t' := .int) (by decide) (by decide)))
  have f212 := f195.other W205 (Or.inr (slot_ne (Or.inr (hw _ (List.mem_of_getElem? (i := 60) rfl))) (Or.inr (hw _ (List.mem_of_getElem? (i := 70) rfl))) (by decide) (t := .long) (t' := .int) (by decide) (by decide)))
  have f213 := f196.other W205 (Or.inr (slot_ne (Or.inr (hw _ (List.mem_of_getElem? (i := 62) rfl))) (Or.inr (hw _ (List.mem_of_getElem? (i := 70) rfl))) (by decide) (t := .boolean) (t' := .int) (by decide) (by decide)))
  have f214 := f197.other W205 (Or.inr (slot_ne (Or.inr (hw _ (List.mem_of_getElem? (i := 64) rfl))) (Or.inr (hw _ (List.mem_of_getElem? (i := 70) rfl))) (by decide) (t := .int) (t' := .int) (by decide) (by decide)))
  have f215 := f198.other W205 (Or.inr (slot_ne (Or.inr (hw _ (List.mem_of_getElem? (i := 66) rfl))) (Or.inr (hw _ (List.mem_of_getElem? (i := 70) rfl))) (by decide) (t := .int) (t' := .int) (by decide) (by decide)))
  have f216 := f188.other W205 (Or.inr (slot_ne (Or.inr (hw _ (List.mem_of_getElem? (i := 68) rfl))) (Or.inr (hw _ (List.mem_of_getElem? (i := 70) rfl))) (by decide) (t := .int) (t' := .int) (by decide) (by decide)))
  have Z217 := Nat.le_trans Z199 (Nat.le_of_eq W205.size.symm)
  have K218 := K200.wr W205 (Or.inl (List.mem_of_getElem? (i := 0) rfl))
  have hk219 := Nat.le_trans hk201 (Nat.le_of_eq W205.size.symm)
  have N220 := Fr.snoc X205 N202 g1
  have go221 : Goes p e below s₁ (entryFrame m #[(.ref a1), (.ref a2), pid, (.ref a4), rol, (.long srt), (.int sub), (.int tot), (.int unr), (.int thr), (.int uth)] 12) T205 (mkF m 75 #[.val (.ref a1), .val (.ref a2), .val pid, .val (.ref a4), .val rol, .val (.long srt), .second, .val (.int sub), .val (.int tot), .val (.int unr), .val (.int thr), .val (.int uth)] []) := fun t k => go204 t (st205 t k)
  obtain ⟨fs, hr, hrun, hended, hW⟩ := X205.leaveW hS24 (by rw [e205]; exact hk219) (v := none) (fun _ => rfl)
  refine ⟨_, _, go221 _ ?_, hrun, hended, _, _, rfl, ?_, ⟨_, rfl⟩, hW.2.1, hW.2.2.1, hW.2.2.2.mono (by decide) (by decide)⟩
  · exact X205.returnOut hx Bd.returns (hb hby d7_75) hr
  · show QMb Z _ _ _ _ _ _ _ _ _ _ _ _ _ _ T205.heap _
    rw [e205]
    exact ⟨rfl, N220, K218, f207, f211⟩
theorem d11_0 : decode prog_73_method_5_code 0 = .ok (.aload_n 0, 1) := by decide +kernel
theorem d11_1 : decode prog_73_method_5_code 1 = .ok (.getfield 45, 3) := by decide +kernel
theorem d11_4 : decode prog_73_method_5_code 4 = .ok (.ifnull 7, 3) := by decide +kernel
theorem d11_7 : decode prog_73_method_5_code 7 = .ok (.iconst 1, 1) := by decide +kernel
theorem d11_8 : decode prog_73_method_5_code 8 = .ok (.goto 4, 3) := by decide +kernel
theorem d11_11 : decode prog_73_method_5_code 11 = .ok (.iconst 0, 1) := by decide +kernel
theorem d11_12 : decode prog_73_method_5_code 12 = .ok (.ireturn, 1) := by decide +kernel
theorem pn_6 : plainName "com/example/convey/convey/model/MailboxRole" = true := by first | (simp [plainName, overriddenIn]; done) | decide +kernel
theorem ef_rmRo (m : MethodId) (a1 : Addr) : entryFrame m #[(.ref a1)] 1 = mkF m 0 #[.val (.ref a1)] [] := by first | (simp [entryFrame, mkF, argsToLocals, Value.category]; done) | rfl
def QRo (Z : State) (a1 : Addr) (pv : Value) (h0 : Heap) (n0 : Nat) (v : Option Value) (h : Heap) (L : List Loc) : Prop := v = some (.int (if pv = .null then 0 else 1)) ∧ Fr n0 L ∧ h = h0
set_option maxRecDepth 65536 in
set_option maxHeartbeats 40000000 in
theorem rmRo (l : Launch) (Z : State) (a0 : Array Value) (hw : ∀ d ∈ tables_1, d.before a0 Z = true) (ws : List Jvm.Cond) (a1 : Addr) (pv : Value) (h0 : Heap) (n0 : Nat) (Z0 : n0 ≤ h0.size) (F1 : Fld Z h0 a1 "com/example/convey/convey/model/MailboxRole" "defaultMailboxName" "Ljava/lang/String;" pv) (hpv : pv.isRef = true) :
    MetFree l (⟨"com/example/convey/convey/model/MailboxRole", "madeWithAccount", "()Z"⟩ : MethodName) (head1 (Jvm.Cond.code (⟨"com/example/convey/convey/model/MailboxRole", "madeWithAccount", "()Z"⟩ : MethodName) prog_73_method_5_code 1 (some .boolean) :: ws) ({ frames := 0, cells := 0, slots := 0, locals := 0 } : Room)) (fun a U => a = #[(.ref a1)] ∧ Z.Warmed39 U.vm ∧ U.heap = h0) (fun _ _ _ _ _ => True) (fun _ U o U' => ∃ v L, o = .returned v ∧ QRo Z a1 pv h0 n0 v U'.heap L ∧ FrameEnd U o U' L ({ frames := 0, cells := 0, slots := 0, locals := 0 } : Room).cells ({ frames := 0, cells := 0, slots := 0, locals := 0 } : Room).slots) := by
  refine MetFree.of_bodySF (plainFor_of_name pn_6) hisR ?_
  intro p e s m args below meth c s₁ Bd hml0 hP hK
  obtain ⟨rfl, hZ, hh⟩ := hP
  have hx := Bd.exec
  have hby := Bd.bytes
  have hml : c.maxLocals = 1 := hml0
  have hown : s.vm.findClass "com/example/convey/convey/model/MailboxRole" = some m.cls := findClass_of_methodNamed Bd.named
  have hnm := (name_of_methodNamed Bd.named Bd.method).1
  have X0 : Stand p l e ({ frames := 0, cells := 0, slots := 0, locals := 0 } : Room) s m #[(.ref a1)] below meth c s₁ [] 0 0 := Stand.of_body Bd
  have e0 : s₁.heap = h0 := by rw [← hh, Bd.state]; rfl
  have N0 := Fr.nil n0
  have K0 := Keep.refl h0 []
  have go0 : Goes p e below s₁ (entryFrame m #[(.ref a1)] 1) s₁ (mkF m 0 #[.val (.ref a1)] []) := fun t k => castTop (ef_rmRo m a1) k
  rcases ref_cases hpv with rfl | ⟨w2, rfl⟩
  · have go1 : Goes p e below s₁ (entryFrame m #[(.ref a1)] 1) s₁ (mkF m 1 #[.val (.ref a1)] [(.ref a1)]) := fun t k => by
      refine go0 t ?_
      refine XS.aloadN X0.here hx rfl (hb hby d11_0) rfl rfl ?_
      show Steps p.tables e below (s₁.setTop (mkF m 1 #[.val (.ref a1)] [(.ref a1)])) _
      exact k
    obtain ⟨T2, X2, e2, st2⟩ := getF X0 hx hZ hown (host := "") (Or.inl (hw _ (List.mem_of_getElem? (i := 84) rfl))) Via.refl e0 F1 (g := (mkF m 1 #[.val (.ref a1)] [(.ref a1)])) rfl rfl (hb hby d11_1)
    have go3 : Goes p e below s₁ (entryFrame m #[(.ref a1)] 1) T2 (mkF m 4 #[.val (.ref a1)] [.null]) := fun t k => go1 t (st2 t k)
    have go4 : Goes p e below s₁ (entryFrame m #[(.ref a1)] 1) T2 (mkF m 12 #[.val (.ref a1)] [(.int (0 : Int32))]) := fun t k => by
      refine go3 t ?_
      refine XS.ifnullYes X2.here hx rfl (pc0 := 4) (pc' := 11) rfl (hb hby d11_4) rfl (by decide) (by decide) ?_
      show Steps p.tables e below (T2.setTop (mkF m 11 #[.val (.ref a1)] [])) _
      refine XS.iconst X2.here hx rfl (hb hby d11_11) ?_
      show Steps p.tables e below (T2.setTop (mkF m 12 #[.val (.ref a1)] [(.int (0 : Int32))])) _
      exact k
    obtain ⟨fs, hr, hrun, hended, hW, hsame⟩ := X2.leave (v := some (.int (0 : Int32))) (fun h => by rw [Bd.returns] at h; cases h)
    refine ⟨_, _, go4 _ ?_, hrun, hended, _, _, rfl, ?_, ⟨_, rfl⟩, hW, hsame.mono (by decide) (by decide)⟩
    · exact retN X2 hx (t := .boolean) Bd.returns (by simp) (hb hby d11_12) hr
    · show QRo Z _ _ _ _ _ T2.heap _
      rw [e2]
      exact ⟨by simp, N0, rfl⟩
  · have go5 : Goes p e below s₁ (entryFrame m #[(.ref a1)] 1) s₁ (mkF m 1 #[.val (.ref a1)] [(.ref a1)]) := fun t k => by
      refine go0 t ?_
      refine XS.aloadN X0.here hx rfl (hb hby d11_0) rfl rfl ?_
      show Steps p.tables e below (s₁.setTop (mkF m 1 #[.val (.ref a1)] [(.ref a1)])) _
      exact k
    obtain ⟨T6, X6, e6, st6⟩ := getF X0 hx hZ hown (host := "") (Or.inl (hw _ (List.mem_of_getElem? (i := 84) rfl))) Via.refl e0 F1 (g := (mkF m 1 #[.val (.ref a1)] [(.ref a1)])) rfl rfl (hb hby d11_1)
    have go7 : Goes p e below s₁ (entryFrame m #[(.ref a1)] 1) T6 (mkF m 4 #[.val (.ref a1)] [(.ref w2)]) := fun t k => go5 t (st6 t k)
    have go8 : Goes p e below s₁ (entryFrame m #[(.ref a1)] 1) T6 (mkF m 12 #[.val (.ref a1)] [(.int (1 : Int32))]) := fun t k => by
      refine go7 t ?_
      refine XS.ifnullNo X6.here hx rfl (hb hby d11_4) rfl ?_
      show Steps p.tables e below (T6.setTop (mkF m 7 #[.val (.ref a1)] [])) _
      refine XS.iconst X6.here hx rfl (hb hby d11_7) ?_
      show Steps p.tables e below (T6.setTop (mkF m 8 #[.val (.ref a1)] [(.int (1 : Int32))])) _
      refine XS.goto X6.here hx rfl (pc0 := 8) (pc' := 12) rfl (hb hby d11_8) (by decide) (by decide) ?_
      show Steps p.tables e below (T6.setTop (mkF m 12 #[.val (.ref a1)] [(.int (1 : Int32))])) _
      exact k
    obtain ⟨fs, hr, hrun, hended, hW, hsame⟩ := X6.leave (v := some (.int (1 : Int32))) (fun h => by rw [Bd.returns] at h; cases h)
    refine ⟨_, _, go8 _ ?_, hrun, hended, _, _, rfl, ?_, ⟨_, rfl⟩, hW, hsame.mono (by decide) (by decide)⟩
    · exact retN X6 hx (t := .boolean) Bd.returns (by simp) (hb hby d11_12) hr
    · show QRo Z _ _ _ _ _ T6.heap _
      rw [e6]
      exact ⟨by simp, N0, rfl⟩
theorem pd_9 : parseMethodDescriptor "()Z" = some ⟨[], some .boolean⟩ := by decide +kernel
theorem d10_0 : decode prog_69_method_2_code 0 = .ok (.aload_n 0, 1) := by decide +kernel
theorem d10_1 : decode prog_69_method_2_code 1 = .ok (.getfield 27, 3) := by decide +kernel
theorem d10_4 : decode prog_69_method_2_code 4 = .ok (.ifnull 17, 3) := by decide +kernel
theorem d10_7 : decode prog_69_method_2_code 7 = .ok (.aload_n 0, 1) := by decide +kernel
theorem d10_8 : decode prog_69_method_2_code 8 = .ok (.getfield 27, 3) := by decide +kernel
theorem d10_11 : decode prog_69_method_2_code 11 = .ok (.invokevirtual 52, 3) := by decide +kernel
theorem d10_14 : decode prog_69_method_2_code 14 = .ok (.ifCond .eq 7, 3) := by decide +kernel
theorem d10_17 : decode prog_69_method_2_code 17 = .ok (.iconst 1, 1) := by decide +kernel
theorem d10_18 : decode prog_69_method_2_code 18 = .ok (.goto 4, 3) := by decide +kernel
theorem d10_21 : decode prog_69_method_2_code 21 = .ok (.iconst 0, 1) := by decide +kernel
theorem d10_22 : decode prog_69_method_2_code 22 = .ok (.ireturn, 1) := by decide +kernel
theorem ef_rmMm (m : MethodId) (a1 : Addr) : entryFrame m #[(.ref a1)] 1 = mkF m 0 #[.val (.ref a1)] [] := by first | (simp [entryFrame, mkF, argsToLocals, Value.category]; done) | rfl
def QMm (Z : State) (a1 : Addr) (rol nv : Value) (h0 : Heap) (n0 : Nat) (v : Option Value) (h : Heap) (L : List Loc) : Prop := v = some (.int (if rol = .null then 0 else if nv = .null then 0 else 1)) ∧ Fr n0 L ∧ h = h0
set_option maxRecDepth 65536 in
set_option maxHeartbeats 40000000 in
theorem rmMm (l : Launch) (Z : State) (a0 : Array Value) (hw : ∀ d ∈ tables_1, d.before a0 Z = true) (ws : List Jvm.Cond) (a1 : Addr) (rol nv : Value) (h0 : Heap) (n0 : Nat) (Z0 : n0 ≤ h0.size) (F1 : Fld Z h0 a1 "com/example/convey/convey/model/Mailbox" "role" "Lcom/example/convey/convey/model/MailboxRole;" rol) (hrol : rol.isRef = true) (hnv : nv.isRef = true) (HR : ∀ r, rol = .ref r → Exa Z h0 r "com/example/convey/convey/model/MailboxRole" ∧ Fld Z h0 r "com/example/convey/convey/model/MailboxRole" "defaultMailboxName" "Ljava/lang/String;" nv) :
    MetFree l (⟨"com/example/convey/convey/model/Mailbox", "madeWithAccount", "()Z"⟩ : MethodName) (head1 (Jvm.Cond.code (⟨"com/example/convey/convey/model/Mailbox", "madeWithAccount", "()Z"⟩ : MethodName) prog_69_method_2_code 1 (some .boolean) :: ws) ({ frames := 1, cells := 0, slots := 0, locals := 12 } : Room)) (fun a U => a = #[(.ref a1)] ∧ Z.Warmed39 U.vm ∧ U.heap = h0) (fun _ _ _ _ _ => True) (fun _ U o U' => ∃ v L, o = .returned v ∧ QMm Z a1 rol nv h0 n0 v U'.heap L ∧ FrameEnd U o U' L ({ frames := 1, cells := 0, slots := 0, locals := 12 } : Room).cells ({ frames := 1, cells := 0, slots := 0, locals := 12 } : Room).slots) := by
  refine MetFree.of_bodySF (plainFor_of_name pn_5) hisR ?_
  intro p e s m args below meth c s₁ Bd hml0 hP hK
  obtain ⟨rfl, hZ, hh⟩ := hP
  have hx := Bd.exec
  have hby := Bd.bytes
  have hml : c.maxLocals = 1 := hml0
  have hown : s.vm.findClass "com/example/convey/convey/model/Mailbox" = some m.cls := findClass_of_methodNamed Bd.named
  have hnm := (name_of_methodNamed Bd.named Bd.method).1
  have X0 : Stand p l e ({ frames := 1, cells := 0, slots := 0, locals := 12 } : Room) s m #[(.ref a1)] below meth c s₁ [] 0 0 := Stand.of_body Bd
  have e0 : s₁.heap = h0 := by rw [← hh, Bd.state]; rfl
  have N0 := Fr.nil n0
  have K0 := Keep.refl h0 []
  have go0 : Goes p e below s₁ (entryFrame m #[(.ref a1)] 1) s₁ (mkF m 0 #[.val (.ref a1)] []) := fun t k => castTop (ef_rmMm m a1) k
  rcases ref_cases hrol with rfl | ⟨w2, rfl⟩
  · have go1 : Goes p e below s₁ (entryFrame m #[(.ref a1)] 1) s₁ (mkF m 1 #[.val (.ref a1)] [(.ref a1)]) := fun t k => by
      refine go0 t ?_
      refine XS.aloadN X0.here hx rfl (hb hby d10_0) rfl rfl ?_
      show Steps p.tables e below (s₁.setTop (mkF m 1 #[.val (.ref a1)] [(.ref a1)])) _
      exact k
    obtain ⟨T2, X2, e2, st2⟩ := getF X0 hx hZ hown (host := "") (Or.inl (hw _ (List.mem_of_getElem? (i := 57) rfl))) Via.refl e0 F1 (g := (mkF m 1 #[.val (.ref a1)] [(.ref a1)])) rfl rfl (hb hby d10_1)
    have go3 : Goes p e below s₁ (entryFrame m #[(.ref a1)] 1) T2 (mkF m 4 #[.val (.ref a1)] [.null]) := fun t k => go1 t (st2 t k)
    have go4 : Goes p e below s₁ (entryFrame m #[(.ref a1)] 1) T2 (mkF m 22 #[.val (.ref a1)] [(.int (0 : Int32))]) := fun t k => by
      refine go3 t ?_
      refine XS.ifnullYes X2.here hx rfl (pc0 := 4) (pc' := 21) rfl (hb hby d10_4) rfl (by decide) (by decide) ?_
      show Steps p.tables e below (T2.setTop (mkF m 21 #[.val (.ref a1)] [])) _
      refine XS.iconst X2.here hx rfl (hb hby d10_21) ?_
      show Steps p.tables e below (T2.setTop (mkF m 22 #[.val (.ref a1)] [(.int (0 : Int32))])) _
      exact k
    obtain ⟨fs, hr, hrun, hended, hW, hsame⟩ := X2.leave (v := some (.int (0 : Int32))) (fun h => by rw [Bd.returns] at h; cases h)
    refine ⟨_, _, go4 _ ?_, hrun, hended, _, _, rfl, ?_, ⟨_, rfl⟩, hW, hsame.mono (by decide) (by decide)⟩
    · exact retN X2 hx (t := .boolean) Bd.returns (by simp) (hb hby d10_22) hr
    · show QMm Z _ _ _ _ _ _ T2.heap _
      rw [e2]
      exact ⟨by simp, N0, rfl⟩
  · obtain ⟨ER, FN⟩ := HR w2 rfl
    have go5 : Goes p e below s₁ (entryFrame m #[(.ref a1)] 1) s₁ (mkF m 1 #[.val (.ref a1)] [(.ref a1)]) := fun t k => by
      refine go0 t ?_
      refine XS.aloadN X0.here hx rfl (hb hby d10_0) rfl rfl ?_
      show Steps p.tables e below (s₁.setTop (mkF m 1 #[.val (.ref a1)] [(.ref a1)])) _
      exact k
    obtain ⟨T6, X6, e6, st6⟩ := getF X0 hx hZ hown (host := "") (Or.inl (hw _ (List.mem_of_getElem? (i := 57) rfl))) Via.refl e0 F1 (g := (mkF m 1 #[.val (.ref a1)] [(.ref a1)])) rfl rfl (hb hby d10_1)
    have go7 : Goes p e below s₁ (entryFrame m #[(.ref a1)] 1) T6 (mkF m 4 #[.val (.ref a1)] [(.ref w2)]) := fun t k => go5 t (st6 t k)
    have go8 : Goes p e below s₁ (entryFrame m #[(.ref a1)] 1) T6 (mkF m 8 #[.val (.ref a1)] [(.ref a1)]) := fun t k => by
      refine go7 t ?_
      refine XS.ifnullNo X6.here hx rfl (hb hby d10_4) rfl ?_
      show Steps p.tables e below (T6.setTop (mkF m 7 #[.val (.ref a1)] [])) _
      refine XS.aloadN X6.here hx rfl (hb hby d10_7) rfl rfl ?_
      show Steps p.tables e below (T6.setTop (mkF m 8 #[.val (.ref a1)] [(.ref a1)])) _
      exact k
    obtain ⟨T9, X9, e9, st9⟩ := getF X6 hx hZ hown (host := "") (Or.inl (hw _ (List.mem_of_getElem? (i := 57) rfl))) Via.refl e6 F1 (g := (mkF m 8 #[.val (.ref a1)] [(.ref a1)])) rfl rfl (hb hby d10_8)
    have go10 : Goes p e below s₁ (entryFrame m #[(.ref a1)] 1) T9 (mkF m 11 #[.val (.ref a1)] [(.ref w2)]) := fun t k => go8 t (st9 t k)
    obtain ⟨cq11, kq11, q11a, q11b, q11c⟩ := isOf hZ e9 ER
    obtain ⟨_, _, ⟨T11, L11, k11, n11⟩, -, X11, ⟨Lc11, hQ11, l11, y11, z11⟩, st11⟩ := X9.virtualBack hx (y := (⟨"com/example/convey/convey/model/MailboxRole", "madeWithAccount", "()Z"⟩ : MethodName)) (z := (⟨"com/example/convey/convey/model/MailboxRole", "madeWithAccount", "()Z"⟩ : MethodName)) hown (mvT hZ (hw _ (List.mem_of_getElem? (i := 79) rfl))) (mvT hZ (hw _ (List.mem_of_getElem? (i := 80) rfl))) (notFace_of_selects (args := #[]) (mvT hZ (hw _ (List.mem_of_getElem? (i := 82) rfl)))) (mvT hZ (hw _ (List.mem_of_getElem? (i := 82) rfl))) (mvT hZ (hw _ (List.mem_of_getElem? (i := 81) rfl))) (by decide) (backOf (W := 0) (rmRo l Z a0 hw [] w2 nv h0 n0 Z0 FN hnv) hZ (hw _ (List.mem_of_getElem? (i := 83) rfl)) (hw _ (List.mem_of_getElem? (i := 77) rfl)) (by decide) (by decide)) q11a q11c (g := (mkF m 11 #[.val (.ref a1)] [(.ref w2)])) rfl (by rw [hml]; rfl) (Steps.refl _) (argsL := []) (rest := []) (lenOf pd_9 rfl) rfl (by show 2 * 0 + _ ≤ _; exact Nat.le_of_eq rfl) (hb hby d10_11) (fun _ _ => ⟨rfl, e9, (by decide : 0 + 0 ≤ ({ frames := 1, cells := 0, slots := 0, locals := 12 } : Room).cells), (by decide : 0 + 0 ≤ ({ frames := 1, cells := 0, slots := 0, locals := 12 } : Room).slots)⟩)
    dsimp only [Pt.U, Pt.locs, Pt.cells, Pt.slots] at X11 l11 y11 z11 st11 hQ11
    subst l11 y11 z11
    obtain ⟨rfl, N11q, e11⟩ := hQ11
    have N11 := Fr.app N0 N11q
    have go12 : Goes p e below s₁ (entryFrame m #[(.ref a1)] 1) T11 (mkF m 14 #[.val (.ref a1)] [(.int (if nv = .null then 0 else 1))]) := fun t k => go10 t (st11.trans k)
    by_cases hc13 : (if nv = .null then 0 else 1) = (0 : Int32)
    · have go14 : Goes p e below s₁ (entryFrame m #[(.ref a1)] 1) T11 (mkF m 22 #[.val (.ref a1)] [(.int (0 : Int32))]) := fun t k => by
        refine go12 t ?_
        refine XS.ifYes X11.here hx rfl (pc0 := 14) (pc' := 21) rfl (hb hby d10_14) rfl (Jvm.Free.XT.i0_eq_t hc13) (by decide) (by decide) ?_
        show Steps p.tables e below (T11.setTop (mkF m 21 #[.val (.ref a1)] [])) _
        refine XS.iconst X11.here hx rfl (hb hby d10_21) ?_
        show Steps p.tables e below (T11.setTop (mkF m 22 #[.val (.ref a1)] [(.int (0 : Int32))])) _
        exact k
      obtain ⟨fs, hr, hrun, hended, hW, hsame⟩ := X11.leave (v := some (.int (0 : Int32))) (fun h => by rw [Bd.returns] at h; cases h)
      refine ⟨_, _, go14 _ ?_, hrun, hended, _, _, rfl, ?_, ⟨_, rfl⟩, hW, hsame.mono (by decide) (by decide)⟩
      · exact retN X11 hx (t := .boolean) Bd.returns (by simp) (hb hby d10_22) hr
      · show QMm Z _ _ _ _ _ _ T11.heap _
        rw [e11]
        exact ⟨by by_cases hn : nv = .null <;> simp [hn] at hc13 ⊢, N11, rfl⟩
    · have go15 : Goes p e below s₁ (entryFrame m #[(.ref a1)] 1) T11 (mkF m 22 #[.val (.ref a1)] [(.int (1 : Int32))]) := fun t k => by
        refine go12 t ?_
        refine XS.ifNo X11.here hx rfl (hb hby d10_14) rfl (Jvm.Free.XT.i0_eq_f hc13) ?_
        show Steps p.tables e below (T11.setTop (mkF m 17 #[.val (.ref a1)] [])) _
        refine XS.iconst X11.here hx rfl (hb hby d10_17) ?_
        show Steps p.tables e below (T11.setTop (mkF m 18 #[.val (.ref a1)] [(.int (1 : Int32))])) _
        refine XS.goto X11.here hx rfl (pc0 := 18) (pc' := 22) rfl (hb hby d10_18) (by decide) (by decide) ?_
        show Steps p.tables e below (T11.setTop (mkF m 22 #[.val (.ref a1)] [(.int (1 : Int32))])) _
        exact k
      obtain ⟨fs, hr, hrun, hended, hW, hsame⟩ := X11.leave (v := some (.int (1 : Int32))) (fun h => by rw [Bd.returns] at h; cases h)
      refine ⟨_, _, go15 _ ?_, hrun, hended, _, _, rfl, ?_, ⟨_, rfl⟩, hW, hsame.mono (by decide) (by decide)⟩
      · exact retN X11 hx (t := .boolean) Bd.returns (by simp) (hb hby d10_22) hr
      · show QMm Z _ _ _ _ _ _ T11.heap _
        rw [e11]
        exact ⟨by by_cases hn : nv = .null <;> simp [hn] at hc13 ⊢, N11, rfl⟩
theorem pd_10 : parseMethodDescriptor "([C)V" = some ⟨[(.array .char)], none⟩ := by decide +kernel
theorem pd_11 : parseMethodDescriptor "(Ljava/lang/String;Ljava/lang/String;Ljava/lang/String;Lcom/example/convey/convey/model/MailboxRole;JZIIII)V" = some ⟨[(.object "java/lang/String"), (.object "java/lang/String"), (.object "java/lang/String"), (.object "com/example/convey/convey/model/MailboxRole"), .long, .boolean, .int, .int, .int, .int], none⟩ := by decide +kernel
theorem pd_12 : parseMethodDescriptor "(C)Ljava/lang/String;" = some ⟨[.char], some (.object "java/lang/String")⟩ := by decide +kernel
theorem pn_7 : plainName "com/example/convey/convey/model/MailboxMadeWithAccountPinLaw" = true := by first | (simp [plainName, overriddenIn]; done) | decide +kernel
theorem ef_rm0 (m : MethodId) (p0 : Int32) (srt : Int64) (chs : Int32) (tot : Int32) (unr : Int32) (thr : Int32) : entryFrame m #[(.int p0), (.long srt), (.int chs), (.int tot), (.int unr), (.int thr)] maxLocals = mkF m 0 #[.val (.int p0), .val (.long srt), .second, .val (.int chs), .val (.int tot), .val (.int unr), .val (.int thr), .unset, .unset, .unset, .unset, .unset, .unset, .unset, .unset, .unset, .unset] [] := by first | (simp [entryFrame, mkF, argsToLocals, Value.category, maxLocals]; done) | rfl
def Q0 (Z : State) (p0 : Int32) (srt : Int64) (chs : Int32) (tot : Int32) (unr : Int32) (thr : Int32) (cs : Int32) (xr : Int32 → Addr) (pv : Int32 → Value) (h0 : Heap) (n0 : Nat) (v : Option Value) (h : Heap) (L : List Loc) : Prop := v = some (.int 1) ∧ Fr n0 L
set_option maxRecDepth 65536 in
set_option maxHeartbeats 40000000 in
theorem rm0 (l : Launch) (Z : State) (a0 : Array Value) (hw : ∀ d ∈ tables_1, d.before a0 Z = true) (ws : List Jvm.Cond) (p0 : Int32) (srt : Int64) (chs : Int32) (tot : Int32) (unr : Int32) (thr : Int32) (cs : Int32) (xr : Int32 → Addr) (pv : Int32 → Value) (h0 : Heap) (n0 : Nat) (Z0 : n0 ≤ h0.size) (O0 : Old Z n0 h0) (S_CS : Sta Z Z.heap "java/lang/String" "COMPACT_STRINGS" "Z" (.int cs)) (hcs : ¬ cs = 0) (S_INBOX : Sta Z Z.heap "com/example/convey/convey/model/MailboxRole" "INBOX" "Lcom/example/convey/convey/model/MailboxRole;" (.ref (xr 1))) (S_DRAFTS : Sta Z Z.heap "com/example/convey/convey/model/MailboxRole" "DRAFTS" "Lcom/example/convey/convey/model/MailboxRole;" (.ref (xr 2))) (S_SENT : Sta Z Z.heap "com/example/convey/convey/model/MailboxRole" "SENT" "Lcom/example/convey/convey/model/MailboxRole;" (.ref (xr 3))) (S_TRASH : Sta Z Z.heap "com/example/convey/convey/model/MailboxRole" "TRASH" "Lcom/example/convey/convey/model/MailboxRole;" (.ref (xr 4))) (S_ARCHIVE : Sta Z Z.heap "com/example/convey/convey/model/MailboxRole" "ARCHIVE" "Lcom/example/convey/convey/model/MailboxRole;" (.ref (xr 5))) (S_JUNK : Sta Z Z.heap "com/example/convey/convey/model/MailboxRole" "JUNK" "Lcom/example/convey/convey/model/MailboxRole;" (.ref (xr 6))) (HE : ∀ k, own_K k → ¬ k = 0 → Exa Z Z.heap (xr k) "com/example/convey/convey/model/MailboxRole") (HF : ∀ k, own_K k → ¬ k = 0 → Fld Z Z.heap (xr k) "com/example/convey/convey/model/MailboxRole" "defaultMailboxName" "Ljava/lang/String;" (pv k)) (HV : ∀ k, own_K k → (pv k).isRef = true) (HQ : ∀ k, own_K k → ¬ k = 0 → (pv k = .null ↔ 4 < k)) :
    MetFree l x (head1 (Jvm.Cond.code x code maxLocals ret :: ws) room_1) (fun a U => a = #[(.int p0), (.long srt), (.int chs), (.int tot), (.int unr), (.int thr)] ∧ Z.Warmed39 U.vm ∧ U.heap = h0) (fun _ _ _ _ _ => True) (fun _ U o U' => ∃ v L, o = .returned v ∧ Q0 Z p0 srt chs tot unr thr cs xr pv h0 n0 v U'.heap L ∧ ReturnedEndW U o U' L room_1.cells room_1.slots) := by
  refine MetFree.of_bodySF (plainFor_of_name pn_7) hisR ?_
  intro p e s m args below meth c s₁ Bd hml0 hP hK
  obtain ⟨rfl, hZ, hh⟩ := hP
  have hx := Bd.exec
  have hby := Bd.bytes
  have hml : c.maxLocals = 17 := hml0
  have hown : s.vm.findClass "com/example/convey/convey/model/MailboxMadeWithAccountPinLaw" = some m.cls := findClass_of_methodNamed Bd.named
  have hnm := (name_of_methodNamed Bd.named Bd.method).1
  have X0 : Stand p l e room_1 (s.setVm s.vm) m #[(.int p0), (.long srt), (.int chs), (.int tot), (.int unr), (.int thr)] below meth c s₁ [] 0 0 := Stand.of_body Bd
  have e0 : s₁.heap = h0 := by rw [← hh, Bd.state]; rfl
  have N0 := Fr.nil n0
  have K0 := Keep.refl h0 []
  have go0 : Goes p e below s₁ (entryFrame m #[(.int p0), (.long srt), (.int chs), (.int tot), (.int unr), (.int thr)] maxLocals) s₁ (mkF m 0 #[.val (.int p0), .val (.long srt), .second, .val (.int chs), .val (.int tot), .val (.int unr), .val (.int thr), .unset, .unset, .unset, .unset, .unset, .unset, .unset, .unset, .unset, .unset] []) := fun t k => castTop (ef_rm0 m p0 srt chs tot unr thr) k
  have hS0 : s.Since s.vm 0 := (State.WarmedH.refl s).since 0
  have hk0 : 0 ≤ h0.size := Nat.zero_le _
  have hZ : Z.Warmed39 (s.setVm s.vm).vm := hZ
  have hown : (s.setVm s.vm).vm.findClass "com/example/convey/convey/model/MailboxMadeWithAccountPinLaw" = some m.cls := hown
  have go1 : Goes p e below s₁ (entryFrame m #[(.int p0), (.long srt), (.int chs), (.int tot), (.int unr), (.int thr)] maxLocals) s₁ (mkF m 12 #[.val (.int p0), .val (.long srt), .second, .val (.int chs), .val (.int tot), .val (.int unr), .val (.int thr), .val (.int ((p0 &&& (2147483647 : Int32)) % (7 : Int32))), .val .null, .unset, .unset, .unset, .unset, .unset, .unset, .unset, .unset] []) := fun t k => by
    refine go0 t ?_
    refine XS.iloadN X0.here hx rfl (hb hby at_0) rfl ?_
    show Steps p.tables e below (s₁.setTop (mkF m 1 #[.val (.int p0), .val (.long srt), .second, .val (.int chs), .val (.int tot), .val (.int unr), .val (.int thr), .unset, .unset, .unset, .unset, .unset, .unset, .unset, .unset, .unset, .unset] [(.int p0)])) _
    refine X0.ldcInt hx hown (mvT hZ (hw _ (List.mem_of_getElem? (i := 0) rfl))) (g := (mkF m 1 #[.val (.int p0), .val (.long srt), .second, .val (.int chs), .val (.int tot), .val (.int unr), .val (.int thr), .unset, .unset, .unset, .unset, .unset, .unset, .unset, .unset, .unset, .unset] [(.int p0)])) rfl (hb hby at_1) _ ?_
    show Steps p.tables e below (s₁.setTop (mkF m 3 #[.val (.int p0), .val (.long srt), .second, .val (.int chs), .val (.int tot), .val (.int unr), .val (.int thr), .unset, .unset, .unset, .unset, .unset, .unset, .unset, .unset, .unset, .unset] [(.int (2147483647 : Int32)), (.int p0)])) _
    refine XS.iand X0.here hx rfl (hb hby at_3) rfl ?_
    show Steps p.tables e below (s₁.setTop (mkF m 4 #[.val (.int p0), .val (.long srt), .second, .val (.int chs), .val (.int tot), .val (.int unr), .val (.int thr), .unset, .unset, .unset, .unset, .unset, .unset, .unset, .unset, .unset, .unset] [(.int (p0 &&& (2147483647 : Int32)))])) _
    refine XS.bipush X0.here hx rfl (hb hby at_4) ?_
    show Steps p.tables e below (s₁.setTop (mkF m 6 #[.val (.int p0), .val (.long srt), .second, .val (.int chs), .val (.int tot), .val (.int unr), .val (.int thr), .unset, .unset, .unset, .unset, .unset, .unset, .unset, .unset, .unset, .unset] [(.int (7 : Int32)), (.int (p0 &&& (2147483647 : Int32)))])) _
    refine iremM X0 hx rfl (hb hby at_6) rfl (by decide) ?_
    show Steps p.tables e below (s₁.setTop (mkF m 7 #[.val (.int p0), .val (.long srt), .second, .val (.int chs), .val (.int tot), .val (.int unr), .val (.int thr), .unset, .unset, .unset, .unset, .unset, .unset, .unset, .unset, .unset, .unset] [(.int ((p0 &&& (2147483647 : Int32)) % (7 : Int32)))])) _
    refine XS.istore X0.here hx rfl (hb hby at_7) rfl (l' := #[.val (.int p0), .val (.long srt), .second, .val (.int chs), .val (.int tot), .val (.int unr), .val (.int thr), .val (.int ((p0 &&& (2147483647 : Int32)) % (7 : Int32))), .unset, .unset, .unset, .unset, .unset, .unset, .unset, .unset, .unset]) rfl ?_
    show Steps p.tables e below (s₁.setTop (mkF m 9 #[.val (.int p0), .val (.long srt), .second, .val (.int chs), .val (.int tot), .val (.int unr), .val (.int thr), .val (.int ((p0 &&& (2147483647 : Int32)) % (7 : Int32))), .unset, .unset, .unset, .unset, .unset, .unset, .unset, .unset, .unset] [])) _
    refine XS.aconstNull X0.here hx rfl (hb hby at_9) ?_
    show Steps p.tables e below (s₁.setTop (mkF m 10 #[.val (.int p0), .val (.long srt), .second, .val (.int chs), .val (.int tot), .val (.int unr), .val (.int thr), .val (.int ((p0 &&& (2147483647 : Int32)) % (7 : Int32))), .unset, .unset, .unset, .unset, .unset, .unset, .unset, .unset, .unset] [.null])) _
    refine XS.astore X0.here hx rfl (hb hby at_10) rfl rfl (l' := #[.val (.int p0), .val (.long srt), .second, .val (.int chs), .val (.int tot), .val (.int unr), .val (.int thr), .val (.int ((p0 &&& (2147483647 : Int32)) % (7 : Int32))), .val .null, .unset, .unset, .unset, .unset, .unset, .unset, .unset, .unset]) rfl ?_
    show Steps p.tables e below (s₁.setTop (mkF m 12 #[.val (.int p0), .val (.long srt), .second, .val (.int chs), .val (.int tot), .val (.int unr), .val (.int thr), .val (.int ((p0 &&& (2147483647 : Int32)) % (7 : Int32))), .val .null, .unset, .unset, .unset, .unset, .unset, .unset, .unset, .unset] [])) _
    exact k
  obtain ⟨kx, h_kx⟩ : ∃ z : Int32, z = ((p0 &&& (2147483647 : Int32)) % (7 : Int32)) := ⟨_, rfl⟩
  have go2 : Goes p e below s₁ (entryFrame m #[(.int p0), (.long srt), (.int chs), (.int tot), (.int unr), (.int thr)] maxLocals) s₁ (mkF m 12 #[.val (.int p0), .val (.long srt), .second, .val (.int chs), .val (.int tot), .val (.int unr), .val (.int thr), .val (.int kx), .val .null, .unset, .unset, .unset, .unset, .unset, .unset, .unset, .unset] []) := by rw [h_kx]; exact go1
  have hk : own_K kx := h_kx ▸ own_K_of p0
  obtain ⟨T3, rol, X3, e3, hj3, go3j⟩ : ∃ (T' : State) (rol : Value), Stand p l e room_1 (s.setVm s.vm) m #[(.int p0), (.long srt), (.int chs), (.int tot), (.int unr), (.int thr)] below meth c T' [] 0 0 ∧ T'.heap = h0 ∧ (rol = (if kx = 0 then Value.null else Value.ref (xr kx))) ∧ Goes p e below s₁ (entryFrame m #[(.int p0), (.long srt), (.int chs), (.int tot), (.int unr), (.int thr)] maxLocals) T' (mkF m 94 #[.val (.int p0), .val (.long srt), .second, .val (.int chs), .val (.int tot), .val (.int unr), .val (.int thr), .val (.int kx), .val rol, .unset, .unset, .unset, .unset, .unset, .unset, .unset, .unset] []) := by
    have go4 : Goes p e below s₁ (entryFrame m #[(.int p0), (.long srt), (.int chs), (.int tot), (.int unr), (.int thr)] maxLocals) s₁ (mkF m 15 #[.val (.int p0), .val (.long srt), .second, .val (.int chs), .val (.int tot), .val (.int unr), .val (.int thr), .val (.int kx), .val .null, .unset, .unset, .unset, .unset, .unset, .unset, .unset, .unset] [(.int (1 : Int32)), (.int kx)]) := fun t k => by
      refine go2 t ?_
      refine XS.iload X0.here hx rfl (hb hby at_12) rfl ?_
      show Steps p.tables e below (s₁.setTop (mkF m 14 #[.val (.int p0), .val (.long srt), .second, .val (.int chs), .val (.int tot), .val (.int unr), .val (.int thr), .val (.int kx), .val .null, .unset, .unset, .unset, .unset, .unset, .unset, .unset, .unset] [(.int kx)])) _
      refine XS.iconst X0.here hx rfl (hb hby at_14) ?_
      show Steps p.tables e below (s₁.setTop (mkF m 15 #[.val (.int p0), .val (.long srt), .second, .val (.int chs), .val (.int tot), .val (.int unr), .val (.int thr), .val (.int kx), .val .null, .unset, .unset, .unset, .unset, .unset, .unset, .unset, .unset] [(.int (1 : Int32)), (.int kx)])) _
      exact k
    by_cases hc5 : kx = (1 : Int32)
    · have go6 : Goes p e below s₁ (entryFrame m #[(.int p0), (.long srt), (.int chs), (.int tot), (.int unr), (.int thr)] maxLocals) s₁ (mkF m 18 #[.val (.int p0), .val (.long srt), .second, .val (.int chs), .val (.int tot), .val (.int unr), .val (.int thr), .val (.int kx), .val .null, .unset, .unset, .unset, .unset, .unset, .unset, .unset, .unset] []) := fun t k => by
        refine go4 t ?_
        refine XS.icmpNo X0.here hx rfl (hb hby at_15) rfl (Jvm.Free.XT.ii_ne_f hc5) ?_
        show Steps p.tables e below (s₁.setTop (mkF m 18 #[.val (.int p0), .val (.long srt), .second, .val (.int chs), .val (.int tot), .val (.int unr), .val (.int thr), .val (.int kx), .val .null, .unset, .unset, .unset, .unset, .unset, .unset, .unset, .unset] [])) _
        exact k
      obtain ⟨T7, X7, e7, st7⟩ := getS2 X0 hx hZ hown (host := "") (Or.inl (hw _ (List.mem_of_getElem? (i := 104) rfl))) Via.refl e0 (S_INBOX.ext O0.2) (g := (mkF m 18 #[.val (.int p0), .val (.long srt), .second, .val (.int chs), .val (.int tot), .val (.int unr), .val (.int thr), .val (.int kx), .val .null, .unset, .unset, .unset, .unset, .unset, .unset, .unset, .unset] [])) rfl (hb hby at_18)
      have go8 : Goes p e below s₁ (entryFrame m #[(.int p0), (.long srt), (.int chs), (.int tot), (.int unr), (.int thr)] maxLocals) T7 (mkF m 21 #[.val (.int p0), .val (.long srt), .second, .val (.int chs), .val (.int tot), .val (.int unr), .val (.int thr), .val (.int kx), .val .null, .unset, .unset, .unset, .unset, .unset, .unset, .unset, .unset] [(.ref (xr 1))]) := fun t k => go6 t (st7 t k)
      have go9 : Goes p e below s₁ (entryFrame m #[(.int p0), (.long srt), (.int chs), (.int tot), (.int unr), (.int thr)] maxLocals) T7 (mkF m 94 #[.val (.int p0), .val (.long srt), .second, .val (.int chs), .val (.int tot), .val (.int unr), .val (.int thr), .val (.int kx), .val (.ref (xr 1)), .unset, .unset, .unset, .unset, .unset, .unset, .unset, .unset] []) := fun t k => by
        refine go8 t ?_
        refine XS.astore X7.here hx rfl (hb hby at_21) rfl rfl (l' := #[.val (.int p0), .val (.long srt), .second, .val (.int chs), .val (.int tot), .val (.int unr), .val (.int thr), .val (.int kx), .val (.ref (xr 1)), .unset, .unset, .unset, .unset, .unset, .unset, .unset, .unset]) rfl ?_
        show Steps p.tables e below (T7.setTop (mkF m 23 #[.val (.int p0), .val (.long srt), .second, .val (.int chs), .val (.int tot), .val (.int unr), .val (.int thr), .val (.int kx), .val (.ref (xr 1)), .unset, .unset, .unset, .unset, .unset, .unset, .unset, .unset] [])) _
        refine XS.goto X7.here hx rfl (pc0 := 23) (pc' := 94) rfl (hb hby at_23) (by decide) (by decide) ?_
        show Steps p.tables e below (T7.setTop (mkF m 94 #[.val (.int p0), .val (.long srt), .second, .val (.int chs), .val (.int tot), .val (.int unr), .val (.int thr), .val (.int kx), .val (.ref (xr 1)), .unset, .unset, .unset, .unset, .unset, .unset, .unset, .unset] [])) _
        exact k
      exact ⟨T7, (.ref (xr 1)), X7, e7, (by simp [hc5]), go9⟩
    · have go10 : Goes p e below s₁ (entryFrame m #[(.int p0), (.long srt), (.int chs), (.int tot), (.int unr), (.int thr)] maxLocals) s₁ (mkF m 29 #[.val (.int p0), .val (.long srt), .second, .val (.int chs), .val (.int tot), .val (.int unr), .val (.int thr), .val (.int kx), .val .null, .unset, .unset, .unset, .unset, .unset, .unset, .unset, .unset] [(.int (2 : Int32)), (.int kx)]) := fun t k => by
        refine go4 t ?_
        refine XS.icmpYes X0.here hx rfl (pc0 := 15) (pc' := 26) rfl (hb hby at_15) rfl (Jvm.Free.XT.ii_ne_t hc5) (by decide) (by decide) ?_
        show Steps p.tables e below (s₁.setTop (mkF m 26 #[.val (.int p0), .val (.long srt), .second, .val (.int chs), .val (.int tot), .val (.int unr), .val (.int thr), .val (.int kx), .val .null, .unset, .unset, .unset, .unset, .unset, .unset, .unset, .unset] [])) _
        refine XS.iload X0.here hx rfl (hb hby at_26) rfl ?_
        show Steps p.tables e below (s₁.setTop (mkF m 28 #[.val (.int p0), .val (.long srt), .second, .val (.int chs), .val (.int tot), .val (.int unr), .val (.int thr), .val (.int kx), .val .null, .unset, .unset, .unset, .unset, .unset, .unset, .unset, .unset] [(.int kx)])) _
        refine XS.iconst X0.here hx rfl (hb hby at_28) ?_
        show Steps p.tables e below (s₁.setTop (mkF m 29 #[.val (.int p0), .val (.long srt), .second, .val (.int chs), .val (.int tot), .val (.int unr), .val (.int thr), .val (.int kx), .val .null, .unset, .unset, .unset, .unset, .unset, .unset, .unset, .unset] [(.int (2 : Int32)), (.int kx)])) _
        exact k
      by_cases hc11 : kx = (2 : Int32)
      · have go12 : Goes p e below s₁ (entryFrame m #[(.int p0), (.long srt), (.int chs), (.int tot), (.int unr), (.int thr)] maxLocals) s₁ (mkF m 32 #[.val (.int p0), .val (.long srt), .second, .val (.int chs), .val (.int tot), .val (.int unr), .val (.int thr), .val (.int kx), .val .null, .unset, .unset, .unset, .unset, .unset, .unset, .unset, .unset] []) := fun t k => by
          refine go10 t ?_
          refine XS.icmpNo X0.here hx rfl (hb hby at_29) rfl (Jvm.Free.XT.ii_ne_f hc11) ?_
          show Steps p.tables e below (s₁.setTop (mkF m 32 #[.val (.int p0), .val (.long srt), .second, .val (.int chs), .val (.int tot), .val (.int unr), .val (.int thr), .val (.int kx), .val .null, .unset, .unset, .unset, .unset, .unset, .unset, .unset, .unset] [])) _
          exact k
        obtain ⟨T13, X13, e13, st13⟩ := getS2 X0 hx hZ hown (host := "") (Or.inl (hw _ (List.mem_of_getElem? (i := 88) rfl))) Via.refl e0 (S_DRAFTS.ext O0.2) (g := (mkF m 32 #[.val (.int p0), .val (.long srt), .second, .val (.int chs), .val (.int tot), .val (.int unr), .val (.int thr), .val (.int kx), .val .null, .unset, .unset, .unset, .unset, .unset, .unset, .unset, .unset] [])) rfl (hb hby at_32)
        have go14 : Goes p e below s₁ (entryFrame m #[(.int p0), (.long srt), (.int chs), (.int tot), (.int unr), (.int thr)] maxLocals) T13 (mkF m 35 #[.val (.int p0), .val (.long srt), .second, .val (.int chs), .val (.int tot), .val (.int unr), .val (.int thr), .val (.int kx), .val .null, .unset, .unset, .unset, .unset, .unset, .unset, .unset, .unset] [(.ref (xr 2))]) := fun t k => go12 t (st13 t k)
        have go15 : Goes p e below s₁ (entryFrame m #[(.int p0), (.long srt), (.int chs), (.int tot), (.int unr), (.int thr)] maxLocals) T13 (mkF m 94 #[.val (.int p0), .val (.long srt), .second, .val (.int chs), .val (.int tot), .val (.int unr), .val (.int thr), .val (.int kx), .val (.ref (xr 2)), .unset, .unset, .unset, .unset, .unset, .unset, .unset, .unset] []) := fun t k => by
          refine go14 t ?_
          refine XS.astore X13.here hx rfl (hb hby at_35) rfl rfl (l' := #[.val (.int p0), .val (.long srt), .second, .val (.int chs), .val (.int tot), .val (.int unr), .val (.int thr), .val (.int kx), .val (.ref (xr 2)), .unset, .unset, .unset, .unset, .unset, .unset, .unset, .unset]) rfl ?_
          show Steps p.tables e below (T13.setTop (mkF m 37 #[.val (.int p0), .val (.long srt), .second, .val (.int chs), .val (.int tot), .val (.int unr), .val (.int thr), .val (.int kx), .val (.ref (xr 2)), .unset, .unset, .unset, .unset, .unset, .unset, .unset, .unset] [])) _
          refine XS.goto X13.here hx rfl (pc0 := 37) (pc' := 94) rfl (hb hby at_37) (by decide) (by decide) ?_
          show Steps p.tables e below (T13.setTop (mkF m 94 #[.val (.int p0), .val (.long srt), .second, .val (.int chs), .val (.int tot), .val (.int unr), .val (.int thr), .val (.int kx), .val (.ref (xr 2)), .unset, .unset, .unset, .unset, .unset, .unset, .unset, .unset] [])) _
          exact k
        exact ⟨T13, (.ref (xr 2)), X13, e13, (by simp [hc11]), go15⟩
      · have go16 : Goes p e below s₁ (entryFrame m #[(.int p0), (.long srt), (.int chs), (.int tot), (.int unr), (.int thr)] maxLocals) s₁ (mkF m 43 #[.val (.int p0), .val (.long srt), .second, .val (.int chs), .val (.int tot), .val (.int unr), .val (.int thr), .val (.int kx), .val .null, .unset, .unset, .unset, .unset, .unset, .unset, .unset, .unset] [(.int (3 : Int32)), (.int kx)]) := fun t k => by
          refine go10 t ?_
          refine XS.icmpYes X0.here hx rfl (pc0 := 29) (pc' := 40) rfl (hb hby at_29) rfl (Jvm.Free.XT.ii_ne_t hc11) (by decide) (by decide) ?_
          show Steps p.tables e below (s₁.setTop (mkF m 40 #[.val (.int p0), .val (.long srt), .second, .val (.int chs), .val (.int tot), .val (.int unr), .val (.int thr), .val (.int kx), .val .null, .unset, .unset, .unset, .unset, .unset, .unset, .unset, .unset] [])) _
          refine XS.iload X0.here hx rfl (hb hby at_40) rfl ?_
          show Steps p.tables e below (s₁.setTop (mkF m 42 #[.val (.int p0), .val (.long srt), .second, .val (.int chs), .val (.int tot), .val (.int unr), .val (.int thr), .val (.int kx), .val .null, .unset, .unset, .unset, .unset, .unset, .unset, .unset, .unset] [(.int kx)])) _
          refine XS.iconst X0.here hx rfl (hb hby at_42) ?_
          show Steps p.tables e below (s₁.setTop (mkF m 43 #[.val (.int p0), .val (.long srt), .second, .val (.int chs), .val (.int tot), .val (.int unr), .val (.int thr), .val (.int kx), .val .null, .unset, .unset, .unset, .unset, .unset, .unset, .unset, .unset] [(.int (3 : Int32)), (.int kx)])) _
          exact k
        by_cases hc17 : kx = (3 : Int32)
        · have go18 : Goes p e below s₁ (entryFrame m #[(.int p0), (.long srt), (.int chs), (.int tot), (.int unr), (.int thr)] maxLocals) s₁ (mkF m 46 #[.val (.int p0), .val (.long srt), .second, .val (.int chs), .val (.int tot), .val (.int unr), .val (.int thr), .val (.int kx), .val .null, .unset, .unset, .unset, .unset, .unset, .unset, .unset, .unset] []) := fun t k => by
            refine go16 t ?_
            refine XS.icmpNo X0.here hx rfl (hb hby at_43) rfl (Jvm.Free.XT.ii_ne_f hc17) ?_
            show Steps p.tables e below (s₁.setTop (mkF m 46 #[.val (.int p0), .val (.long srt), .second, .val (.int chs), .val (.int tot), .val (.int unr), .val (.int thr), .val (.int kx), .val .null, .unset, .unset, .unset, .unset, .unset, .unset, .unset, .unset] [])) _
            exact k
          obtain ⟨T19, X19, e19, st19⟩ := getS2 X0 hx hZ hown (host := "") (Or.inl (hw _ (List.mem_of_getElem? (i := 76) rfl))) Via.refl e0 (S_SENT.ext O0.2) (g := (mkF m 46 #[.val (.int p0), .val (.long srt), .second, .val (.int chs), .val (.int tot), .val (.int unr), .val (.int thr), .val (.int kx), .val .null, .unset, .unset, .unset, .unset, .unset, .unset, .unset, .unset] [])) rfl (hb hby at_46)
          have go20 : Goes p e below s₁ (entryFrame m #[(.int p0), (.long srt), (.int chs), (.int tot), (.int unr), (.int thr)] maxLocals) T19 (mkF m 49 #[.val (.int p0), .val (.long srt), .second, .val (.int chs), .val (.int tot), .val (.int unr), .val (.int thr), .val (.int kx), .val .null, .unset, .unset, .unset, .unset, .unset, .unset, .unset, .unset] [(.ref (xr 3))]) := fun t k => go18 t (st19 t k)
          have go21 : Goes p e below s₁ (entryFrame m #[(.int p0), (.long srt), (.int chs), (.int tot), (.int unr), (.int thr)] maxLocals) T19 (mkF m 94 #[.val (.int p0), .val (.long srt), .second, .val (.int chs), .val (.int tot), .val (.int unr), .val (.int thr), .val (.int kx), .val (.ref (xr 3)), .unset, .unset, .unset, .unset, .unset, .unset, .unset, .unset] []) := fun t k => by
            refine go20 t ?_
            refine XS.astore X19.here hx rfl (hb hby at_49) rfl rfl (l' := #[.val (.int p0), .val (.long srt), .second, .val (.int chs), .val (.int tot), .val (.int unr), .val (.int thr), .val (.int kx), .val (.ref (xr 3)), .unset, .unset, .unset, .unset, .unset, .unset, .unset, .unset]) rfl ?_
            show Steps p.tables e below (T19.setTop (mkF m 51 #[.val (.int p0), .val (.long srt), .second, .val (.int chs), .val (.int tot), .val (.int unr), .val (.int thr), .val (.int kx), .val (.ref (xr 3)), .unset, .unset, .unset, .unset, .unset, .unset, .unset, .unset] [])) _
            refine XS.goto X19.here hx rfl (pc0 := 51) (pc' := 94) rfl (hb hby at_51) (by decide) (by decide) ?_
            show Steps p.tables e below (T19.setTop (mkF m 94 #[.val (.int p0), .val (.long srt), .second, .val (.int chs), .val (.int tot), .val (.int unr), .val (.int thr), .val (.int kx), .val (.ref (xr 3)), .unset, .unset, .unset, .unset, .unset, .unset, .unset, .unset] [])) _
            exact k
          exact ⟨T19, (.ref (xr 3)), X19, e19, (by simp [hc17]), go21⟩
        · have go22 : Goes p e below s₁ (entryFrame m #[(.int p0), (.long srt), (.int chs), (.int tot), (.int unr), (.int thr)] maxLocals) s₁ (mkF m 57 #[.val (.int p0), .val (.long srt), .second, .val (.int chs), .val (.int tot), .val (.int unr), .val (.int thr), .val (.int kx), .val .null, .unset, .unset, .unset, .unset, .unset, .unset, .unset, .unset] [(.int (4 : Int32)), (.int kx)]) := fun t k => by
            refine go16 t ?_
            refine XS.icmpYes X0.here hx rfl (pc0 := 43) (pc' := 54) rfl (hb hby at_43) rfl (Jvm.Free.XT.ii_ne_t hc17) (by decide) (by decide) ?_
            show Steps p.tables e below (s₁.setTop (mkF m 54 #[.val (.int p0), .val (.long srt), .second, .val (.int chs), .val (.int tot), .val (.int unr), .val (.int thr), .val (.int kx), .val .null, .unset, .unset, .unset, .unset, .unset, .unset, .unset, .unset] [])) _
            refine XS.iload X0.here hx rfl (hb hby at_54) rfl ?_
            show Steps p.tables e below (s₁.setTop (mkF m 56 #[.val (.int p0), .val (.long srt), .second, .val (.int chs), .val (.int tot), .val (.int unr), .val (.int thr), .val (.int kx), .val .null, .unset, .unset, .unset, .unset, .unset, .unset, .unset, .unset] [(.int kx)])) _
            refine XS.iconst X0.here hx rfl (hb hby at_56) ?_
            show Steps p.tables e below (s₁.setTop (mkF m 57 #[.val (.int p0), .val (.long srt), .second, .val (.int chs), .val (.int tot), .val (.int unr), .val (.int thr), .val (.int kx), .val .null, .unset, .unset, .unset, .unset, .unset, .unset, .unset, .unset] [(.int (4 : Int32)), (.int kx)])) _
            exact k
          by_cases hc23 : kx = (4 : Int32)
          · have go24 : Goes p e below s₁ (entryFrame m #[(.int p0), (.long srt), (.int chs), (.int tot), (.int unr), (.int thr)] maxLocals) s₁ (mkF m 60 #[.val (.int p0), .val (.long srt), .second, .val (.int chs), .val (.int tot), .val (.int unr), .val (.int thr), .val (.int kx), .val .null, .unset, .unset, .unset, .unset, .unset, .unset, .unset, .unset] []) := fun t k => by
              refine go22 t ?_
              refine XS.icmpNo X0.here hx rfl (hb hby at_57) rfl (Jvm.Free.XT.ii_ne_f hc23) ?_
              show Steps p.tables e below (s₁.setTop (mkF m 60 #[.val (.int p0), .val (.long srt), .second, .val (.int chs), .val (.int tot), .val (.int unr), .val (.int thr), .val (.int kx), .val .null, .unset, .unset, .unset, .unset, .unset, .unset, .unset, .unset] [])) _
              exact k
            obtain ⟨T25, X25, e25, st25⟩ := getS2 X0 hx hZ hown (host := "") (Or.inl (hw _ (List.mem_of_getElem? (i := 106) rfl))) Via.refl e0 (S_TRASH.ext O0.2) (g := (mkF m 60 #[.val (.int p0), .val (.long srt), .second, .val (.int chs), .val (.int tot), .val (.int unr), .val (.int thr), .val (.int kx), .val .null, .unset, .unset, .unset, .unset, .unset, .unset, .unset, .unset] [])) rfl (hb hby at_60)
            have go26 : Goes p e below s₁ (entryFrame m #[(.int p0), (.long srt), (.int chs), (.int tot), (.int unr), (.int thr)] maxLocals) T25 (mkF m 63 #[.val (.int p0), .val (.long srt), .second, .val (.int chs), .val (.int tot), .val (.int unr), .val (.int thr), .val (.int kx), .val .null, .unset, .unset, .unset, .unset, .unset, .unset, .unset, .unset] [(.ref (xr 4))]) := fun t k => go24 t (st25 t k)
            have go27 : Goes p e below s₁ (entryFrame m #[(.int p0), (.long srt), (.int chs), (.int tot), (.int unr), (.int thr)] maxLocals) T25 (mkF m 94 #[.val (.int p0), .val (.long srt), .second, .val (.int chs), .val (.int tot), .val (.int unr), .val (.int thr), .val (.int kx), .val (.ref (xr 4)), .unset, .unset, .unset, .unset, .unset, .unset, .unset, .unset] []) := fun t k => by
              refine go26 t ?_
              refine XS.astore X25.here hx rfl (hb hby at_63) rfl rfl (l' := #[.val (.int p0), .val (.long srt), .second, .val (.int chs), .val (.int tot), .val (.int unr), .val (.int thr), .val (.int kx), .val (.ref (xr 4)), .unset, .unset, .unset, .unset, .unset, .unset, .unset, .unset]) rfl ?_
              show Steps p.tables e below (T25.setTop (mkF m 65 #[.val (.int p0), .val (.long srt), .second, .val (.int chs), .val (.int tot), .val (.int unr), .val (.int thr), .val (.int kx), .val (.ref (xr 4)), .unset, .unset, .unset, .unset, .unset, .unset, .unset, .unset] [])) _
              refine XS.goto X25.here hx rfl (pc0 := 65) (pc' := 94) rfl (hb hby at_65) (by decide) (by decide) ?_
              show Steps p.tables e below (T25.setTop (mkF m 94 #[.val (.int p0), .val (.long srt), .second, .val (.int chs), .val (.int tot), .val (.int unr), .val (.int thr), .val (.int kx), .val (.ref (xr 4)), .unset, .unset, .unset, .unset, .unset, .unset, .unset, .unset] [])) _
              exact k
            exact ⟨T25, (.ref (xr 4)), X25, e25, (by simp [hc23]), go27⟩
          · have go28 : Goes p e below s₁ (entryFrame m #[(.int p0), (.long srt), (.int chs), (.int tot), (.int unr), (.int thr)] maxLocals) s₁ (mkF m 71 #[.val (.int p0), .val (.long srt), .second, .val (.int chs), .val (.int tot), .val (.int unr), .val (.int thr), .val (.int kx), .val .null, .unset, .unset, .unset, .unset, .unset, .unset, .unset, .unset] [(.int (5 : Int32)), (.int kx)]) := fun t k => by
              refine go22 t ?_
              refine XS.icmpYes X0.here hx rfl (pc0 := 57) (pc' := 68) rfl (hb hby at_57) rfl (Jvm.Free.XT.ii_ne_t hc23) (by decide) (by decide) ?_
              show Steps p.tables e below (s₁.setTop (mkF m 68 #[.val (.int p0), .val (.long srt), .second, .val (.int chs), .val (.int tot), .val (.int unr), .val (.int thr), .val (.int kx), .val .null, .unset, .unset, .unset, .unset, .unset, .unset, .unset, .unset] [])) _
              refine XS.iload X0.here hx rfl (hb hby at_68) rfl ?_
              show Steps p.tables e below (s₁.setTop (mkF m 70 #[.val (.int p0), .val (.long srt), .second, .val (.int chs), .val (.int tot), .val (.int unr), .val (.int thr), .val (.int kx), .val .null, .unset, .unset, .unset, .unset, .unset, .unset, .unset, .unset] [(.int kx)])) _
              refine XS.iconst X0.here hx rfl (hb hby at_70) ?_
              show Steps p.tables e below (s₁.setTop (mkF m 71 #[.val (.int p0), .val (.long srt), .second, .val (.int chs), .val (.int tot), .val (.int unr), .val (.int thr), .val (.int kx), .val .null, .unset, .unset, .unset, .unset, .unset, .unset, .unset, .unset] [(.int (5 : Int32)), (.int kx)])) _
              exact k
            by_cases hc29 : kx = (5 : Int32)
            · have go30 : Goes p e below s₁ (entryFrame m #[(.int p0), (.long srt), (.int chs), (.int tot), (.int unr), (.int thr)] maxLocals) s₁ (mkF m 74 #[.val (.int p0), .val (.long srt), .second, .val (.int chs), .val (.int tot), .val (.int unr), .val (.int thr), .val (.int kx), .val .null, .unset, .unset, .unset, .unset, .unset, .unset, .unset, .unset] []) := fun t k => by
                refine go28 t ?_
                refine XS.icmpNo X0.here hx rfl (hb hby at_71) rfl (Jvm.Free.XT.ii_ne_f hc29) ?_
                show Steps p.tables e below (s₁.setTop (mkF m 74 #[.val (.int p0), .val (.long srt), .second, .val (.int chs), .val (.int tot), .val (.int unr), .val (.int thr), .val (.int kx), .val .null, .unset, .unset, .unset, .unset, .unset, .unset, .unset, .unset] [])) _
                exact k
              obtain ⟨T31, X31, e31, st31⟩ := getS2 X0 hx hZ hown (host := "") (Or.inl (hw _ (List.mem_of_getElem? (i := 108) rfl))) Via.refl e0 (S_ARCHIVE.ext O0.2) (g := (mkF m 74 #[.val (.int p0), .val (.long srt), .second, .val (.int chs), .val (.int tot), .val (.int unr), .val (.int thr), .val (.int kx), .val .null, .unset, .unset, .unset, .unset, .unset, .unset, .unset, .unset] [])) rfl (hb hby at_74)
              have go32 : Goes p e below s₁ (entryFrame m #[(.int p0), (.long srt), (.int chs), (.int tot), (.int unr), (.int thr)] maxLocals) T31 (mkF m 77 #[.val (.int p0), .val (.long srt), .second, .val (.int chs), .val (.int tot), .val (.int unr), .val (.int thr), .val (.int kx), .val .null, .unset, .unset, .unset, .unset, .unset, .unset, .unset, .unset] [(.ref (xr 5))]) := fun t k => go30 t (st31 t k)
              have go33 : Goes p e below s₁ (entryFrame m #[(.int p0), (.long srt), (.int chs), (.int tot), (.int unr), (.int thr)] maxLocals) T31 (mkF m 94 #[.val (.int p0), .val (.long srt), .second, .val (.int chs), .val (.int tot), .val (.int unr), .val (.int thr), .val (.int kx), .val (.ref (xr 5)), .unset, .unset, .unset, .unset, .unset, .unset, .unset, .unset] []) := fun t k => by
                refine go32 t ?_
                refine XS.astore X31.here hx rfl (hb hby at_77) rfl rfl (l' := #[.val (.int p0), .val (.long srt), .second, .val (.int chs), .val (.int tot), .val (.int unr), .val (.int thr), .val (.int kx), .val (.ref (xr 5)), .unset, .unset, .unset, .unset, .unset, .unset, .unset, .unset]) rfl ?_
                show Steps p.tables e below (T31.setTop (mkF m 79 #[.val (.int p0), .val (.long srt), .second, .val (.int chs), .val (.int tot), .val (.int unr), .val (.int thr), .val (.int kx), .val (.ref (xr 5)), .unset, .unset, .unset, .unset, .unset, .unset, .unset, .unset] [])) _
                refine XS.goto X31.here hx rfl (pc0 := 79) (pc' := 94) rfl (hb hby at_79) (by decide) (by decide) ?_
                show Steps p.tables e below (T31.setTop (mkF m 94 #[.val (.int p0), .val (.long srt), .second, .val (.int chs), .val (.int tot), .val (.int unr), .val (.int thr), .val (.int kx), .val (.ref (xr 5)), .unset, .unset, .unset, .unset, .unset, .unset, .unset, .unset] [])) _
                exact k
              exact ⟨T31, (.ref (xr 5)), X31, e31, (by simp [hc29]), go33⟩
            · have go34 : Goes p e below s₁ (entryFrame m #[(.int p0), (.long srt), (.int chs), (.int tot), (.int unr), (.int thr)] maxLocals) s₁ (mkF m 86 #[.val (.int p0), .val (.long srt), .second, .val (.int chs), .val (.int tot), .val (.int unr), .val (.int thr), .val (.int kx), .val .null, .unset, .unset, .unset, .unset, .unset, .unset, .unset, .unset] [(.int (6 : Int32)), (.int kx)]) := fun t k => by
                refine go28 t ?_
                refine XS.icmpYes X0.here hx rfl (pc0 := 71) (pc' := 82) rfl (hb hby at_71) rfl (Jvm.Free.XT.ii_ne_t hc29) (by decide) (by decide) ?_
                show Steps p.tables e below (s₁.setTop (mkF m 82 #[.val (.int p0), .val (.long srt), .second, .val (.int chs), .val (.int tot), .val (.int unr), .val (.int thr), .val (.int kx), .val .null, .unset, .unset, .unset, .unset, .unset, .unset, .unset, .unset] [])) _
                refine XS.iload X0.here hx rfl (hb hby at_82) rfl ?_
                show Steps p.tables e below (s₁.setTop (mkF m 84 #[.val (.int p0), .val (.long srt), .second, .val (.int chs), .val (.int tot), .val (.int unr), .val (.int thr), .val (.int kx), .val .null, .unset, .unset, .unset, .unset, .unset, .unset, .unset, .unset] [(.int kx)])) _
                refine XS.bipush X0.here hx rfl (hb hby at_84) ?_
                show Steps p.tables e below (s₁.setTop (mkF m 86 #[.val (.int p0), .val (.long srt), .second, .val (.int chs), .val (.int tot), .val (.int unr), .val (.int thr), .val (.int kx), .val .null, .unset, .unset, .unset, .unset, .unset, .unset, .unset, .unset] [(.int (6 : Int32)), (.int kx)])) _
                exact k
              by_cases hc35 : kx = (6 : Int32)
              · have go36 : Goes p e below s₁ (entryFrame m #[(.int p0), (.long srt), (.int chs), (.int tot), (.int unr), (.int thr)] maxLocals) s₁ (mkF m 89 #[.val (.int p0), .val (.long srt), .second, .val (.int chs), .val (.int tot), .val (.int unr), .val (.int thr), .val (.int kx), .val .null, .unset, .unset, .unset, .unset, .unset, .unset, .unset, .unset] []) := fun t k => by
                  refine go34 t ?_
                  refine XS.icmpNo X0.here hx rfl (hb hby at_86) rfl (Jvm.Free.XT.ii_ne_f hc35) ?_
                  show Steps p.tables e below (s₁.setTop (mkF m 89 #[.val (.int p0), .val (.long srt), .second, .val (.int chs), .val (.int tot), .val (.int unr), .val (.int thr), .val (.int kx), .val .null, .unset, .unset, .unset, .unset, .unset, .unset, .unset, .unset] [])) _
                  exact k
                obtain ⟨T37, X37, e37, st37⟩ := getS2 X0 hx hZ hown (host := "") (Or.inl (hw _ (List.mem_of_getElem? (i := 86) rfl))) Via.refl e0 (S_JUNK.ext O0.2) (g := (mkF m 89 #[.val (.int p0), .val (.long srt), .second, .val (.int chs), .val (.int tot), .val (.int unr), .val (.int thr), .val (.int kx), .val .null, .unset, .unset, .unset, .unset, .unset, .unset, .unset, .unset] [])) rfl (hb hby at_89)
                have go38 : Goes p e below s₁ (entryFrame m #[(.int p0), (.long srt), (.int chs), (.int tot), (.int unr), (.int thr)] maxLocals) T37 (mkF m 92 #[.val (.int p0), .val (.long srt), .second, .val (.int chs), .val (.int tot), .val (.int unr), .val (.int thr), .val (.int kx), .val .null, .unset, .unset, .unset, .unset, .unset, .unset, .unset, .unset] [(.ref (xr 6))]) := fun t k => go36 t (st37 t k)
                have go39 : Goes p e below s₁ (entryFrame m #[(.int p0), (.long srt), (.int chs), (.int tot), (.int unr), (.int thr)] maxLocals) T37 (mkF m 94 #[.val (.int p0), .val (.long srt), .second, .val (.int chs), .val (.int tot), .val (.int unr), .val (.int thr), .val (.int kx), .val (.ref (xr 6)), .unset, .unset, .unset, .unset, .unset, .unset, .unset, .unset] []) := fun t k => by
                  refine go38 t ?_
                  refine XS.astore X37.here hx rfl (hb hby at_92) rfl rfl (l' := #[.val (.int p0), .val (.long srt), .second, .val (.int chs), .val (.int tot), .val (.int unr), .val (.int thr), .val (.int kx), .val (.ref (xr 6)), .unset, .unset, .unset, .unset, .unset, .unset, .unset, .unset]) rfl ?_
                  show Steps p.tables e below (T37.setTop (mkF m 94 #[.val (.int p0), .val (.long srt), .second, .val (.int chs), .val (.int tot), .val (.int unr), .val (.int thr), .val (.int kx), .val (.ref (xr 6)), .unset, .unset, .unset, .unset, .unset, .unset, .unset, .unset] [])) _
                  exact k
                exact ⟨T37, (.ref (xr 6)), X37, e37, (by simp [hc35]), go39⟩
              · have go40 : Goes p e below s₁ (entryFrame m #[(.int p0), (.long srt), (.int chs), (.int tot), (.int unr), (.int thr)] maxLocals) s₁ (mkF m 94 #[.val (.int p0), .val (.long srt), .second, .val (.int chs), .val (.int tot), .val (.int unr), .val (.int thr), .val (.int kx), .val .null, .unset, .unset, .unset, .unset, .unset, .unset, .unset, .unset] []) := fun t k => by
                  refine go34 t ?_
                  refine XS.icmpYes X0.here hx rfl (pc0 := 86) (pc' := 94) rfl (hb hby at_86) rfl (Jvm.Free.XT.ii_ne_t hc35) (by decide) (by decide) ?_
                  show Steps p.tables e below (s₁.setTop (mkF m 94 #[.val (.int p0), .val (.long srt), .second, .val (.int chs), .val (.int tot), .val (.int unr), .val (.int thr), .val (.int kx), .val .null, .unset, .unset, .unset, .unset, .unset, .unset, .unset, .unset] [])) _
                  exact k
                exact ⟨s₁, .null, X0, e0, (by have h0 : kx = 0 := (by simpa [own_K, hc5, hc11, hc17, hc23, hc29, hc35] using hk); simp [h0]), go40⟩
  have hrol : rol.isRef = true := by rw [hj3]; split <;> rfl
  have HR : ∀ r, rol = .ref r → ¬ kx = 0 ∧ r = xr kx := by
    intro r hr
    rw [hj3] at hr
    by_cases h0 : kx = 0
    · simp [h0] at hr
    · simp [h0] at hr; exact ⟨h0, hr.symm⟩
  have go41 : Goes p e below s₁ (entryFrame m #[(.int p0), (.long srt), (.int chs), (.int tot), (.int unr), (.int thr)] maxLocals) T3 (mkF m 95 #[.val (.int p0), .val (.long srt), .second, .val (.int chs), .val (.int tot), .val (.int unr), .val (.int thr), .val (.int kx), .val rol, .unset, .unset, .unset, .unset, .unset, .unset, .unset, .unset] [(.int (1 : Int32))]) := fun t k => by
    refine go3j t ?_
    refine XS.iconst X3.here hx rfl (hb hby at_94) ?_
    show Steps p.tables e below (T3.setTop (mkF m 95 #[.val (.int p0), .val (.long srt), .second, .val (.int chs), .val (.int tot), .val (.int unr), .val (.int thr), .val (.int kx), .val rol, .unset, .unset, .unset, .unset, .unset, .unset, .unset, .unset] [(.int (1 : Int32))])) _
    exact k
  obtain ⟨T42, h42, k42, X42, e42, E42, A42, st42⟩ := newP X3 hx hZ (hw _ (List.mem_of_getElem? (i := 1) rfl)) e3 (g := (mkF m 95 #[.val (.int p0), .val (.long srt), .second, .val (.int chs), .val (.int tot), .val (.int unr), .val (.int thr), .val (.int kx), .val rol, .unset, .unset, .unset, .unset, .unset, .unset, .unset, .unset] [(.int (1 : Int32))])) rfl (hb hby at_95) rfl (by decide) (cap := 1) (by decide) (by decide) (by decide) (by decide)
  obtain ⟨b42, g_b_b42⟩ : ∃ z, z = h0.size := ⟨_, rfl⟩
  have le_b42 : h0.size ≤ b42 := Nat.le_of_eq g_b_b42.symm
  have gn_b42 : n0 ≤ b42 := Nat.le_trans Z0 le_b42
  have sz_b42 : h0.size ≤ b42 := Nat.le_trans K0.1 le_b42
  rw [← g_b_b42] at A42 st42
  have O43 := O0.ext E42
  have Z44 := Nat.le_trans Z0 E42.1
  have K45 := K0.ext E42
  have hk46 := Nat.le_trans hk0 E42.1
  have V47 : Arv Z h42 b42 k42 .char (1 : Int32) [(.int (0 : Int32))] (.int (0 : Int32)) := (Arv.new A42 (by decide)).pad (pad_rep [] (.int (0 : Int32)) 1)
  have go48 : Goes p e below s₁ (entryFrame m #[(.int p0), (.long srt), (.int chs), (.int tot), (.int unr), (.int thr)] maxLocals) T42 (mkF m 97 #[.val (.int p0), .val (.long srt), .second, .val (.int chs), .val (.int tot), .val (.int unr), .val (.int thr), .val (.int kx), .val rol, .unset, .unset, .unset, .unset, .unset, .unset, .unset, .unset] [(.ref b42)]) := fun t k => go41 t (st42 t k)
  have go49 : Goes p e below s₁ (entryFrame m #[(.int p0), (.long srt), (.int chs), (.int tot), (.int unr), (.int thr)] maxLocals) T42 (mkF m 105 #[.val (.int p0), .val (.long srt), .second, .val (.int chs), .val (.int tot), .val (.int unr), .val (.int thr), .val (.int kx), .val rol, .unset, .unset, .unset, .unset, .unset, .unset, .unset, .unset] [(.int ((chs &&& (255 : Int32)).toUInt32.toUInt16.toUInt32.toInt32)), (.int (0 : Int32)), (.ref b42), (.ref b42)]) := fun t k => by
    refine go48 t ?_
    refine XS.dup X42.here hx rfl (hb hby at_97) rfl rfl ?_
    show Steps p.tables e below (T42.setTop (mkF m 98 #[.val (.int p0), .val (.long srt), .second, .val (.int chs), .val (.int tot), .val (.int unr), .val (.int thr), .val (.int kx), .val rol, .unset, .unset, .unset, .unset, .unset, .unset, .unset, .unset] [(.ref b42), (.ref b42)])) _
    refine XS.iconst X42.here hx rfl (hb hby at_98) ?_
    show Steps p.tables e below (T42.setTop (mkF m 99 #[.val (.int p0), .val (.long srt), .second, .val (.int chs), .val (.int tot), .val (.int unr), .val (.int thr), .val (.int kx), .val rol, .unset, .unset, .unset, .unset, .unset, .unset, .unset, .unset] [(.int (0 : Int32)), (.ref b42), (.ref b42)])) _
    refine XS.iloadN X42.here hx rfl (hb hby at_99) rfl ?_
    show Steps p.tables e below (T42.setTop (mkF m 100 #[.val (.int p0), .val (.long srt), .second, .val (.int chs), .val (.int tot), .val (.int unr), .val (.int thr), .val (.int kx), .val rol, .unset, .unset, .unset, .unset, .unset, .unset, .unset, .unset] [(.int chs), (.int (0 : Int32)), (.ref b42), (.ref b42)])) _
    refine XS.sipush X42.here hx rfl (hb hby at_100) ?_
    show Steps p.tables e below (T42.setTop (mkF m 103 #[.val (.int p0), .val (.long srt), .second, .val (.int chs), .val (.int tot), .val (.int unr), .val (.int thr), .val (.int kx), .val rol, .unset, .unset, .unset, .unset, .unset, .unset, .unset, .unset] [(.int (255 : Int32)), (.int chs), (.int (0 : Int32)), (.ref b42), (.ref b42)])) _
    refine XS.iand X42.here hx rfl (hb hby at_103) rfl ?_
    show Steps p.tables e below (T42.setTop (mkF m 104 #[.val (.int p0), .val (.long srt), .second, .val (.int chs), .val (.int tot), .val (.int unr), .val (.int thr), .val (.int kx), .val rol, .unset, .unset, .unset, .unset, .unset, .unset, .unset, .unset] [(.int (chs &&& (255 : Int32))), (.int (0 : Int32)), (.ref b42), (.ref b42)])) _
    refine XS.i2c X42.here hx rfl (hb hby at_104) rfl ?_
    show Steps p.tables e below (T42.setTop (mkF m 105 #[.val (.int p0), .val (.long srt), .second, .val (.int chs), .val (.int tot), .val (.int unr), .val (.int thr), .val (.int kx), .val rol, .unset, .unset, .unset, .unset, .unset, .unset, .unset, .unset] [(.int ((chs &&& (255 : Int32)).toUInt32.toUInt16.toUInt32.toInt32)), (.int (0 : Int32)), (.ref b42), (.ref b42)])) _
    exact k
  obtain ⟨cl50, Ar50, kq50, Sz50, Nn50, Hs50, Gf50⟩ := id (V47)
  have hin50 : ¬ ((0 : Int32) < 0 ∨ cl50.slots.size ≤ ((0 : Int32)).toNatClampNeg) := inb_of Sz50 ⟨by decide, by decide⟩
  obtain ⟨T51, h51, X51, e51, W51, st51⟩ := stC X42 hx hZ e42 Ar50 (j := (0 : Int32)) hin50 (g := (mkF m 105 #[.val (.int p0), .val (.long srt), .second, .val (.int chs), .val (.int tot), .val (.int unr), .val (.int thr), .val (.int kx), .val rol, .unset, .unset, .unset, .unset, .unset, .unset, .unset, .unset] [(.int ((chs &&& (255 : Int32)).toUInt32.toUInt16.toUInt32.toInt32)), (.int (0 : Int32)), (.ref b42), (.ref b42)])) rfl rfl (hb hby at_105)
  have V52 : Arv Z h51 b42 k42 .char (1 : Int32) [(.int (nar .char ((chs &&& (255 : Int32)).toUInt32.toUInt16.toUInt32.toInt32)))] (.int (0 : Int32)) := Arv.set Ar50 kq50 Sz50 Nn50 Hs50 Gf50 (fits_nar_char _) W51 0 rfl (Nat.le_of_ble_eq_true rfl)
  have O53 := O43.wr W51 gn_b42
  have Z54 := Nat.le_trans Z44 (Nat.le_of_eq W51.size.symm)
  have K55 := K45.wr W51 (Or.inr sz_b42)
  have hk56 := Nat.le_trans hk46 (Nat.le_of_eq W51.size.symm)
  have N57 := Fr.snoc X51 N0 gn_b42
  have go58 : Goes p e below s₁ (entryFrame m #[(.int p0), (.long srt), (.int chs), (.int tot), (.int unr), (.int thr)] maxLocals) T51 (mkF m 106 #[.val (.int p0), .val (.long srt), .second, .val (.int chs), .val (.int tot), .val (.int unr), .val (.int thr), .val (.int kx), .val rol, .unset, .unset, .unset, .unset, .unset, .unset, .unset, .unset] [(.ref b42)]) := fun t k => go49 t (st51 t k)
  have go59 : Goes p e below s₁ (entryFrame m #[(.int p0), (.long srt), (.int chs), (.int tot), (.int unr), (.int thr)] maxLocals) T51 (mkF m 109 #[.val (.int p0), .val (.long srt), .second, .val (.int chs), .val (.int tot), .val (.int unr), .val (.int thr), .val (.int kx), .val rol, .val (.ref b42), .unset, .unset, .unset, .unset, .unset, .unset, .unset] [(.int (1 : Int32))]) := fun t k => by
    refine go58 t ?_
    refine XS.astore X51.here hx rfl (hb hby at_106) rfl rfl (l' := #[.val (.int p0), .val (.long srt), .second, .val (.int chs), .val (.int tot), .val (.int unr), .val (.int thr), .val (.int kx), .val rol, .val (.ref b42), .unset, .unset, .unset, .unset, .unset, .unset, .unset]) rfl ?_
    show Steps p.tables e below (T51.setTop (mkF m 108 #[.val (.int p0), .val (.long srt), .second, .val (.int chs), .val (.int tot), .val (.int unr), .val (.int thr), .val (.int kx), .val rol, .val (.ref b42), .unset, .unset, .unset, .unset, .unset, .unset, .unset] [])) _
    refine XS.iconst X51.here hx rfl (hb hby at_108) ?_
    show Steps p.tables e below (T51.setTop (mkF m 109 #[.val (.int p0), .val (.long srt), .second, .val (.int chs), .val (.int tot), .val (.int unr), .val (.int thr), .val (.int kx), .val rol, .val (.ref b42), .unset, .unset, .unset, .unset, .unset, .unset, .unset] [(.int (1 : Int32))])) _
    exact k
  obtain ⟨T60, h60, k60, X60, e60, E60, A60, st60⟩ := newP X51 hx hZ (hw _ (List.mem_of_getElem? (i := 1) rfl)) e51 (g := (mkF m 109 #[.val (.int p0), .val (.long srt), .second, .val (.int chs), .val (.int tot), .val (.int unr), .val (.int thr), .val (.int kx), .val rol, .val (.ref b42), .unset, .unset, .unset, .unset, .unset, .unset, .unset] [(.int (1 : Int32))])) rfl (hb hby at_109) rfl (by decide) (cap := 1) (by decide) (by decide) (by decide) (by decide)
  obtain ⟨b60, g_b_b60⟩ : ∃ z, z = h51.size := ⟨_, rfl⟩
  have le_b60 : h51.size ≤ b60 := Nat.le_of_eq g_b_b60.symm
  have gn_b60 : n0 ≤ b60 := Nat.le_trans Z54 le_b60
  have sz_b60 : h0.size ≤ b60 := Nat.le_trans K55.1 le_b60
  rw [← g_b_b60] at A60 st60
  have f61 := V52.ext E60
  have O62 := O53.ext E60
  have Z63 := Nat.le_trans Z54 E60.1
  have K64 := K55.ext E60
  have hk65 := Nat.le_trans hk56 E60.1
  have V66 : Arv Z h60 b60 k60 .char (1 : Int32) [(.int (0 : Int32))] (.int (0 : Int32)) := (Arv.new A60 (by decide)).pad (pad_rep [] (.int (0 : Int32)) 1)
  have go67 : Goes p e below s₁ (entryFrame m #[(.int p0), (.long srt), (.int chs), (.int tot), (.int unr), (.int thr)] maxLocals) T60 (mkF m 111 #[.val (.int p0), .val (.long srt), .second, .val (.int chs), .val (.int tot), .val (.int unr), .val (.int thr), .val (.int kx), .val rol, .val (.ref b42), .unset, .unset, .unset, .unset, .unset, .unset, .unset] [(.ref b60)]) := fun t k => go59 t (st60 t k)
  have go68 : Goes p e below s₁ (entryFrame m #[(.int p0), (.long srt), (.int chs), (.int tot), (.int unr), (.int thr)] maxLocals) T60 (mkF m 122 #[.val (.int p0), .val (.long srt), .second, .val (.int chs), .val (.int tot), .val (.int unr), .val (.int thr), .val (.int kx), .val rol, .val (.ref b42), .unset, .unset, .unset, .unset, .unset, .unset, .unset] [(.int (((Jvm.Free.XT.ushr chs (8 : Int32)) &&& (255 : Int32)).toUInt32.toUInt16.toUInt32.toInt32)), (.int (0 : Int32)), (.ref b60), (.ref b60)]) := fun t k => by
    refine go67 t ?_
    refine XS.dup X60.here hx rfl (hb hby at_111) rfl rfl ?_
    show Steps p.tables e below (T60.setTop (mkF m 112 #[.val (.int p0), .val (.long srt), .second, .val (.int chs), .val (.int tot), .val (.int unr), .val (.int thr), .val (.int kx), .val rol, .val (.ref b42), .unset, .unset, .unset, .unset, .unset, .unset, .unset] [(.ref b60), (.ref b60)])) _
    refine XS.iconst X60.here hx rfl (hb hby at_112) ?_
    show Steps p.tables e below (T60.setTop (mkF m 113 #[.val (.int p0), .val (.long srt), .second, .val (.int chs), .val (.int tot), .val (.int unr), .val (.int thr), .val (.int kx), .val rol, .val (.ref b42), .unset, .unset, .unset, .unset, .unset, .unset, .unset] [(.int (0 : Int32)), (.ref b60), (.ref b60)])) _
    refine XS.iloadN X60.here hx rfl (hb hby at_113) rfl ?_
    show Steps p.tables e below (T60.setTop (mkF m 114 #[.val (.int p0), .val (.long srt), .second, .val (.int chs), .val (.int tot), .val (.int unr), .val (.int thr), .val (.int kx), .val rol, .val (.ref b42), .unset, .unset, .unset, .unset, .unset, .unset, .unset] [(.int chs), (.int (0 : Int32)), (.ref b60), (.ref b60)])) _
    refine XS.bipush X60.here hx rfl (hb hby at_114) ?_
    show Steps p.tables e below (T60.setTop (mkF m 116 #[.val (.int p0), .val (.long srt), .second, .val (.int chs), .val (.int tot), .val (.int unr), .val (.int thr), .val (.int kx), .val rol, .val (.ref b42), .unset, .unset, .unset, .unset, .unset, .unset, .unset] [(.int (8 : Int32)), (.int chs), (.int (0 : Int32)), (.ref b60), (.ref b60)])) _
    refine XS.iushr X60.here hx rfl (hb hby at_116) rfl ?_
    show Steps p.tables e below (T60.setTop (mkF m 117 #[.val (.int p0), .val (.long srt), .second, .val (.int chs), .val (.int tot), .val (.int unr), .val (.int thr), .val (.int kx), .val rol, .val (.ref b42), .unset, .unset, .unset, .unset, .unset, .unset, .unset] [(.int (Jvm.Free.XT.ushr chs (8 : Int32))), (.int (0 : Int32)), (.ref b60), (.ref b60)])) _
    refine XS.sipush X60.here hx rfl (hb hby at_117) ?_
    show Steps p.tables e below (T60.setTop (mkF m 120 #[.val (.int p0), .val (.long srt), .second, .val (.int chs), .val (.int tot), .val (.int unr), .val (.int thr), .val (.int kx), .val rol, .val (.ref b42), .unset, .unset, .unset, .unset, .unset, .unset, .unset] [(.int (255 : Int32)), (.int (Jvm.Free.XT.ushr chs (8 : Int32))), (.int (0 : Int32)), (.ref b60), (.ref b60)])) _
    refine XS.iand X60.here hx rfl (hb hby at_120) rfl ?_
    show Steps p.tables e below (T60.setTop (mkF m 121 #[.val (.int p0), .val (.long srt), .second, .val (.int chs), .val (.int tot), .val (.int unr), .val (.int thr), .val (.int kx), .val rol, .val (.ref b42), .unset, .unset, .unset, .unset, .unset, .unset, .unset] [(.int ((Jvm.Free.XT.ushr chs (8 : Int32)) &&& (255 : Int32))), (.int (0 : Int32)), (.ref b60), (.ref b60)])) _
    refine XS.i2c X60.here hx rfl (hb hby at_121) rfl ?_
    show Steps p.tables e below (T60.setTop (mkF m 122 #[.val (.int p0), .val (.long srt), .second, .val (.int chs), .val (.int tot), .val (.int unr), .val (.int thr), .val (.int kx), .val rol, .val (.ref b42), .unset, .unset, .unset, .unset, .unset, .unset, .unset] [(.int (((Jvm.Free.XT.ushr chs (8 : Int32)) &&& (255 : Int32)).toUInt32.toUInt16.toUInt32.toInt32)), (.int (0 : Int32)), (.ref b60), (.ref b60)])) _
    exact k
  obtain ⟨cl69, Ar69, kq69, Sz69, Nn69, Hs69, Gf69⟩ := id (V66)
  have hin69 : ¬ ((0 : Int32) < 0 ∨ cl69.slots.size ≤ ((0 : Int32)).toNatClampNeg) := inb_of Sz69 ⟨by decide, by decide⟩
  obtain ⟨T70, h70, X70, e70, W70, st70⟩ := stC X60 hx hZ e60 Ar69 (j := (0 : Int32)) hin69 (g := (mkF m 122 #[.val (.int p0), .val (.long srt), .second, .val (.int chs), .val (.int tot), .val (.int unr), .val (.int thr), .val (.int kx), .val rol, .val (.ref b42), .unset, .unset, .unset, .unset, .unset, .unset, .unset] [(.int (((Jvm.Free.XT.ushr chs (8 : Int32)) &&& (255 : Int32)).toUInt32.toUInt16.toUInt32.toInt32)), (.int (0 : Int32)), (.ref b60), (.ref b60)])) rfl rfl (hb hby at_122)
  have V71 : Arv Z h70 b60 k60 .char (1 : Int32) [(.int (nar .char (((Jvm.Free.XT.ushr chs (8 : Int32)) &&& (255 : Int32)).toUInt32.toUInt16.toUInt32.toInt32)))] (.int (0 : Int32)) := Arv.set Ar69 kq69 Sz69 Nn69 Hs69 Gf69 (fits_nar_char _) W70 0 rfl (Nat.le_of_ble_eq_true rfl)
  have f72 := f61.other W70 (Nat.ne_of_lt (Nat.lt_of_lt_of_le V52.lt le_b60))
  have O73 := O62.wr W70 gn_b60
  have Z74 := Nat.le_trans Z63 (Nat.le_of_eq W70.size.symm)
  have K75 := K64.wr W70 (Or.inr sz_b60)
  have hk76 := Nat.le_trans hk65 (Nat.le_of_eq W70.size.symm)
  have N77 := Fr.snoc X70 N57 gn_b60
  have go78 : Goes p e below s₁ (entryFrame m #[(.int p0), (.long srt), (.int chs), (.int tot), (.int unr), (.int thr)] maxLocals) T70 (mkF m 123 #[.val (.int p0), .val (.long srt), .second, .val (.int chs), .val (.int tot), .val (.int unr), .val (.int thr), .val (.int kx), .val rol, .val (.ref b42), .unset, .unset, .unset, .unset, .unset, .unset, .unset] [(.ref b60)]) := fun t k => go68 t (st70 t k)
  have go79 : Goes p e below s₁ (entryFrame m #[(.int p0), (.long srt), (.int chs), (.int tot), (.int unr), (.int thr)] maxLocals) T70 (mkF m 125 #[.val (.int p0), .val (.long srt), .second, .val (.int chs), .val (.int tot), .val (.int unr), .val (.int thr), .val (.int kx), .val rol, .val (.ref b42), .val (.ref b60), .unset, .unset, .unset, .unset, .unset, .unset] []) := fun t k => by
    refine go78 t ?_
    refine XS.astore X70.here hx rfl (hb hby at_123) rfl rfl (l' := #[.val (.int p0), .val (.long srt), .second, .val (.int chs), .val (.int tot), .val (.int unr), .val (.int thr), .val (.int kx), .val rol, .val (.ref b42), .val (.ref b60), .unset, .unset, .unset, .unset, .unset, .unset]) rfl ?_
    show Steps p.tables e below (T70.setTop (mkF m 125 #[.val (.int p0), .val (.long srt), .second, .val (.int chs), .val (.int tot), .val (.int unr), .val (.int thr), .val (.int kx), .val rol, .val (.ref b42), .val (.ref b60), .unset, .unset, .unset, .unset, .unset, .unset] [])) _
    exact k
  obtain ⟨T80, h80, X80, e80, E80, A80, D80, -, st80⟩ := newO X70 hx hZ hown (hw _ (List.mem_of_getElem? (i := 2) rfl)) (hw _ (List.mem_of_getElem? (i := 3) rfl)) (hw _ (List.mem_of_getElem? (i := 4) rfl)) e70 (g := (mkF m 125 #[.val (.int p0), .val (.long srt), .second, .val (.int chs), .val (.int tot), .val (.int unr), .val (.int thr), .val (.int kx), .val rol, .val (.ref b42), .val (.ref b60), .unset, .unset, .unset, .unset, .unset, .unset] [])) rfl (hb hby at_125) (by decide) (by decide)
  obtain ⟨b80, g_b_b80⟩ : ∃ z, z = h70.size := ⟨_, rfl⟩
  have le_b80 : h70.size ≤ b80 := Nat.le_of_eq g_b_b80.symm
  have gn_b80 : n0 ≤ b80 := Nat.le_trans Z74 le_b80
  have sz_b80 : h0.size ≤ b80 := Nat.le_trans K75.1 le_b80
  rw [← g_b_b80] at A80 D80 st80
  have f81 := f72.ext E80
  have f82 := V71.ext E80
  have O83 := O73.ext E80
  have Z84 := Nat.le_trans Z74 E80.1
  have K85 := K75.ext E80
  have hk86 := Nat.le_trans hk76 E80.1
  have f87 : Fld Z h80 b80 "java/lang/String" "coder" "B" (.int (0 : Int32)) := D80 (Or.inr (hw _ (List.mem_of_getElem? (i := 28) rfl))) (ty := .byte) (by decide)
  have f88 : Fld Z h80 b80 "java/lang/String" "value" "[B" .null := D80 (Or.inr (hw _ (List.mem_of_getElem? (i := 30) rfl))) (ty := (.array .byte)) (by decide)
  have go89 : Goes p e below s₁ (entryFrame m #[(.int p0), (.long srt), (.int chs), (.int tot), (.int unr), (.int thr)] maxLocals) T80 (mkF m 128 #[.val (.int p0), .val (.long srt), .second, .val (.int chs), .val (.int tot), .val (.int unr), .val (.int thr), .val (.int kx), .val rol, .val (.ref b42), .val (.ref b60), .unset, .unset, .unset, .unset, .unset, .unset] [(.ref b80)]) := fun t k => go79 t (st80 t k)
  have go90 : Goes p e below s₁ (entryFrame m #[(.int p0), (.long srt), (.int chs), (.int tot), (.int unr), (.int thr)] maxLocals) T80 (mkF m 131 #[.val (.int p0), .val (.long srt), .second, .val (.int chs), .val (.int tot), .val (.int unr), .val (.int thr), .val (.int kx), .val rol, .val (.ref b42), .val (.ref b60), .unset, .unset, .unset, .unset, .unset, .unset] [(.ref b42), (.ref b80), (.ref b80)]) := fun t k => by
    refine go89 t ?_
    refine XS.dup X80.here hx rfl (hb hby at_128) rfl rfl ?_
    show Steps p.tables e below (T80.setTop (mkF m 129 #[.val (.int p0), .val (.long srt), .second, .val (.int chs), .val (.int tot), .val (.int unr), .val (.int thr), .val (.int kx), .val rol, .val (.ref b42), .val (.ref b60), .unset, .unset, .unset, .unset, .unset, .unset] [(.ref b80), (.ref b80)])) _
    refine XS.aload X80.here hx rfl (hb hby at_129) rfl rfl ?_
    show Steps p.tables e below (T80.setTop (mkF m 131 #[.val (.int p0), .val (.long srt), .second, .val (.int chs), .val (.int tot), .val (.int unr), .val (.int thr), .val (.int kx), .val rol, .val (.ref b42), .val (.ref b60), .unset, .unset, .unset, .unset, .unset, .unset] [(.ref b42), (.ref b80), (.ref b80)])) _
    exact k
  obtain ⟨_, _, ⟨T91, L91, k91, n91⟩, -, X91, ⟨Lc91, hQ91, l91, y91, z91⟩, st91⟩ := X80.specialBack hx (y := (⟨"java/lang/String", "<init>", "([C)V"⟩ : MethodName)) rfl hown (mvT hZ (hw _ (List.mem_of_getElem? (i := 5) rfl))) (mvT hZ (hw _ (List.mem_of_getElem? (i := 6) rfl))) (mvT hZ (hw _ (List.mem_of_getElem? (i := 7) rfl))) (by decide) (backOf (W := 1) (rmI1 l Z a0 hw [] b80 b42 k42 (nar .char ((chs &&& (255 : Int32)).toUInt32.toUInt16.toUInt32.toInt32)) cs h80 n0 Z84 O83 S_CS hcs f81 (own_cc chs) A80 f88 f87 gn_b80) hZ (hw _ (List.mem_of_getElem? (i := 7) rfl)) (hw _ (List.mem_of_getElem? (i := 4) rfl)) (by decide) (by decide)) (g := (mkF m 131 #[.val (.int p0), .val (.long srt), .second, .val (.int chs), .val (.int tot), .val (.int unr), .val (.int thr), .val (.int kx), .val rol, .val (.ref b42), .val (.ref b60), .unset, .unset, .unset, .unset, .unset, .unset] [(.ref b42), (.ref b80), (.ref b80)])) rfl (by rw [hml]; rfl) (Steps.refl _) (a := b80) (argsL := [(.ref b42)]) (rest := [(.ref b80)]) (lenOf pd_10 rfl) rfl (by show 2 * 0 + _ ≤ _; exact Nat.le_of_eq rfl) (hb hby at_131) (fun _ _ => ⟨rfl, e80, (by decide : 3 + 1 ≤ room_1.cells), (by decide : 6 + 1 ≤ room_1.slots)⟩)
  dsimp only [Pt.U, Pt.locs, Pt.cells, Pt.slots] at X91 l91 y91 z91 st91 hQ91
  subst l91 y91 z91
  obtain ⟨rfl, N91q, Kq91, Cq91, Rq91⟩ := hQ91
  have N91 := Fr.app N77 N91q
  have f92 := f81.keep Kq91 (ninS (Nat.ne_of_lt (Nat.lt_of_lt_of_le f72.lt le_b80)) nin0)
  have f93 := f82.keep Kq91 (ninS (Nat.ne_of_lt (Nat.lt_of_lt_of_le V71.lt le_b80)) nin0)
  have f94 := A80.keep Kq91
  have O95 := O83.keep Kq91 (allS gn_b80 all0)
  have Z96 := Nat.le_trans Z84 Kq91.1
  have K97 := K85.trans Kq91 (allS (Or.inr sz_b80) all0)
  have hk98 := Nat.le_trans hk86 Kq91.1
  have go99 : Goes p e below s₁ (entryFrame m #[(.int p0), (.long srt), (.int chs), (.int tot), (.int unr), (.int thr)] maxLocals) T91 (mkF m 134 #[.val (.int p0), .val (.long srt), .second, .val (.int chs), .val (.int tot), .val (.int unr), .val (.int thr), .val (.int kx), .val rol, .val (.ref b42), .val (.ref b60), .unset, .unset, .unset, .unset, .unset, .unset] [(.ref b80)]) := fun t k => go90 t (st91.trans k)
  have go100 : Goes p e below s₁ (entryFrame m #[(.int p0), (.long srt), (.int chs), (.int tot), (.int unr), (.int thr)] maxLocals) T91 (mkF m 136 #[.val (.int p0), .val (.long srt), .second, .val (.int chs), .val (.int tot), .val (.int unr), .val (.int thr), .val (.int kx), .val rol, .val (.ref b42), .val (.ref b60), .val (.ref b80), .unset, .unset, .unset, .unset, .unset] []) := fun t k => by
    refine go99 t ?_
    refine XS.astore X91.here hx rfl (hb hby at_134) rfl rfl (l' := #[.val (.int p0), .val (.long srt), .second, .val (.int chs), .val (.int tot), .val (.int unr), .val (.int thr), .val (.int kx), .val rol, .val (.ref b42), .val (.ref b60), .val (.ref b80), .unset, .unset, .unset, .unset, .unset]) rfl ?_
    show Steps p.tables e below (T91.setTop (mkF m 136 #[.val (.int p0), .val (.long srt), .second, .val (.int chs), .val (.int tot), .val (.int unr), .val (.int thr), .val (.int kx), .val rol, .val (.ref b42), .val (.ref b60), .val (.ref b80), .unset, .unset, .unset, .unset, .unset] [])) _
    exact k
  obtain ⟨T101, h101, X101, e101, E101, A101, D101, -, st101⟩ := newO X91 hx hZ hown (hw _ (List.mem_of_getElem? (i := 2) rfl)) (hw _ (List.mem_of_getElem? (i := 3) rfl)) (hw _ (List.mem_of_getElem? (i := 4) rfl)) rfl (g := (mkF m 136 #[.val (.int p0), .val (.long srt), .second, .val (.int chs), .val (.int tot), .val (.int unr), .val (.int thr), .val (.int kx), .val rol, .val (.ref b42), .val (.ref b60), .val (.ref b80), .unset, .unset, .unset, .unset, .unset] [])) rfl (hb hby at_136) (by decide) (by decide)
  obtain ⟨b101, g_b_b101⟩ : ∃ z, z = T91.heap.size := ⟨_, rfl⟩
  have le_b101 : T91.heap.size ≤ b101 := Nat.le_of_eq g_b_b101.symm
  have gn_b101 : n0 ≤ b101 := Nat.le_trans Z96 le_b101
  have sz_b101 : h0.size ≤ b101 := Nat.le_trans K97.1 le_b101
  rw [← g_b_b101] at A101 D101 st101
  have f102 := f92.ext E101
  have f103 := f93.ext E101
  have f104 := f94.ext E101
  have O105 := O95.ext E101
  have Z106 := Nat.le_trans Z96 E101.1
  have K107 := K97.ext E101
  have hk108 := Nat.le_trans hk98 E101.1
  have f109 : Fld Z h101 b101 "java/lang/String" "coder" "B" (.int (0 : Int32)) := D101 (Or.inr (hw _ (List.mem_of_getElem? (i := 28) rfl))) (ty := .byte) (by decide)
  have f110 : Fld Z h101 b101 "java/lang/String" "value" "[B" .null := D101 (Or.inr (hw _ (List.mem_of_getElem? (i := 30) rfl))) (ty := (.array .byte)) (by decide)
  have go111 : Goes p e below s₁ (entryFrame m #[(.int p0), (.long srt), (.int chs), (.int tot), (.int unr), (.int thr)] maxLocals) T101 (mkF m 139 #[.val (.int p0), .val (.long srt), .second, .val (.int chs), .val (.int tot), .val (.int unr), .val (.int thr), .val (.int kx), .val rol, .val (.ref b42), .val (.ref b60), .val (.ref b80), .unset, .unset, .unset, .unset, .unset] [(.ref b101)]) := fun t k => go100 t (st101 t k)
  have go112 : Goes p e below s₁ (entryFrame m #[(.int p0), (.long srt), (.int chs), (.int tot), (.int unr), (.int thr)] maxLocals) T101 (mkF m 142 #[.val (.int p0), .val (.long srt), .second, .val (.int chs), .val (.int tot), .val (.int unr), .val (.int thr), .val (.int kx), .val rol, .val (.ref b42), .val (.ref b60), .val (.ref b80), .unset, .unset, .unset, .unset, .unset] [(.ref b60), (.ref b101), (.ref b101)]) := fun t k => by
    refine go111 t ?_
    refine XS.dup X101.here hx rfl (hb hby at_139) rfl rfl ?_
    show Steps p.tables e below (T101.setTop (mkF m 140 #[.val (.int p0), .val (.long srt), .second, .val (.int chs), .val (.int tot), .val (.int unr), .val (.int thr), .val (.int kx), .val rol, .val (.ref b42), .val (.ref b60), .val (.ref b80), .unset, .unset, .unset, .unset, .unset] [(.ref b101), (.ref b101)])) _
    refine XS.aload X101.here hx rfl (hb hby at_140) rfl rfl ?_
    show Steps p.tables e below (T101.setTop (mkF m 142 #[.val (.int p0), .val (.long srt), .second, .val (.int chs), .val (.int tot), .val (.int unr), .val (.int thr), .val (.int kx), .val rol, .val (.ref b42), .val (.ref b60), .val (.ref b80), .unset, .unset, .unset, .unset, .unset] [(.ref b60), (.ref b101), (.ref b101)])) _
    exact k
  obtain ⟨_, _, ⟨T113, L113, k113, n113⟩, -, X113, ⟨Lc113, hQ113, l113, y113, z113⟩, st113⟩ := X101.specialBack hx (y := (⟨"java/lang/String", "<init>", "([C)V"⟩ : MethodName)) rfl hown (mvT hZ (hw _ (List.mem_of_getElem? (i := 5) rfl))) (mvT hZ (hw _ (List.mem_of_getElem? (i := 6) rfl))) (mvT hZ (hw _ (List.mem_of_getElem? (i := 7) rfl))) (by decide) (backOf (W := 1) (rmI1 l Z a0 hw [] b101 b60 k60 (nar .char (((Jvm.Free.XT.ushr chs (8 : Int32)) &&& (255 : Int32)).toUInt32.toUInt16.toUInt32.toInt32)) cs h101 n0 Z106 O105 S_CS hcs f103 (own_cc (Jvm.Free.XT.ushr chs (8 : Int32))) A101 f110 f109 gn_b101) hZ (hw _ (List.mem_of_getElem? (i := 7) rfl)) (hw _ (List.mem_of_getElem? (i := 4) rfl)) (by decide) (by decide)) (g := (mkF m 142 #[.val (.int p0), .val (.long srt), .second, .val (.int chs), .val (.int tot), .val (.int unr), .val (.int thr), .val (.int kx), .val rol, .val (.ref b42), .val (.ref b60), .val (.ref b80), .unset, .unset, .unset, .unset, .unset] [(.ref b60), (.ref b101), (.ref b101)])) rfl (by rw [hml]; rfl) (Steps.refl _) (a := b101) (argsL := [(.ref b60)]) (rest := [(.ref b101)]) (lenOf pd_10 rfl) rfl (by show 2 * 0 + _ ≤ _; exact Nat.le_of_eq rfl) (hb hby at_142) (fun _ _ => ⟨rfl, e101, (by decide : 5 + 1 ≤ room_1.cells), (by decide : 11 + 1 ≤ room_1.slots)⟩)
  dsimp only [Pt.U, Pt.locs, Pt.cells, Pt.slots] at X113 l113 y113 z113 st113 hQ113
  subst l113 y113 z113
  obtain ⟨rfl, N113q, Kq113, Cq113, Rq113⟩ := hQ113
  have N113 := Fr.app N91 N113q
  have f114 := f102.keep Kq113 (ninS (Nat.ne_of_lt (Nat.lt_of_lt_of_le f92.lt le_b101)) nin0)
  have f115 := f103.keep Kq113 (ninS (Nat.ne_of_lt (Nat.lt_of_lt_of_le f93.lt le_b101)) nin0)
  have f116 := f104.keep Kq113
  have f117 := A101.keep Kq113
  have O118 := O105.keep Kq113 (allS gn_b101 all0)
  have Z119 := Nat.le_trans Z106 Kq113.1
  have K120 := K107.trans Kq113 (allS (Or.inr sz_b101) all0)
  have hk121 := Nat.le_trans hk108 Kq113.1
  have go122 : Goes p e below s₁ (entryFrame m #[(.int p0), (.long srt), (.int chs), (.int tot), (.int unr), (.int thr)] maxLocals) T113 (mkF m 145 #[.val (.int p0), .val (.long srt), .second, .val (.int chs), .val (.int tot), .val (.int unr), .val (.int thr), .val (.int kx), .val rol, .val (.ref b42), .val (.ref b60), .val (.ref b80), .unset, .unset, .unset, .unset, .unset] [(.ref b101)]) := fun t k => go112 t (st113.trans k)
  have go123 : Goes p e below s₁ (entryFrame m #[(.int p0), (.long srt), (.int chs), (.int tot), (.int unr), (.int thr)] maxLocals) T113 (mkF m 156 #[.val (.int p0), .val (.long srt), .second, .val (.int chs), .val (.int tot), .val (.int unr), .val (.int thr), .val (.int kx), .val rol, .val (.ref b42), .val (.ref b60), .val (.ref b80), .val (.ref b101), .val .null, .unset, .unset, .unset] [(.int ((Jvm.Free.XT.ushr chs (16 : Int32)) &&& (1 : Int32)))]) := fun t k => by
    refine go122 t ?_
    refine XS.astore X113.here hx rfl (hb hby at_145) rfl rfl (l' := #[.val (.int p0), .val (.long srt), .second, .val (.int chs), .val (.int tot), .val (.int unr), .val (.int thr), .val (.int kx), .val rol, .val (.ref b42), .val (.ref b60), .val (.ref b80), .val (.ref b101), .unset, .unset, .unset, .unset]) rfl ?_
    show Steps p.tables e below (T113.setTop (mkF m 147 #[.val (.int p0), .val (.long srt), .second, .val (.int chs), .val (.int tot), .val (.int unr), .val (.int thr), .val (.int kx), .val rol, .val (.ref b42), .val (.ref b60), .val (.ref b80), .val (.ref b101), .unset, .unset, .unset, .unset] [])) _
    refine XS.aconstNull X113.here hx rfl (hb hby at_147) ?_
    show Steps p.tables e below (T113.setTop (mkF m 148 #[.val (.int p0), .val (.long srt), .second, .val (.int chs), .val (.int tot), .val (.int unr), .val (.int thr), .val (.int kx), .val rol, .val (.ref b42), .val (.ref b60), .val (.ref b80), .val (.ref b101), .unset, .unset, .unset, .unset] [.null])) _
    refine XS.astore X113.here hx rfl (hb hby at_148) rfl rfl (l' := #[.val (.int p0), .val (.long srt), .second, .val (.int chs), .val (.int tot), .val (.int unr), .val (.int thr), .val (.int kx), .val rol, .val (.ref b42), .val (.ref b60), .val (.ref b80), .val (.ref b101), .val .null, .unset, .unset, .unset]) rfl ?_
    show Steps p.tables e below (T113.setTop (mkF m 150 #[.val (.int p0), .val (.long srt), .second, .val (.int chs), .val (.int tot), .val (.int unr), .val (.int thr), .val (.int kx), .val rol, .val (.ref b42), .val (.ref b60), .val (.ref b80), .val (.ref b101), .val .null, .unset, .unset, .unset] [])) _
    refine XS.iloadN X113.here hx rfl (hb hby at_150) rfl ?_
    show Steps p.tables e below (T113.setTop (mkF m 151 #[.val (.int p0), .val (.long srt), .second, .val (.int chs), .val (.int tot), .val (.int unr), .val (.int thr), .val (.int kx), .val rol, .val (.ref b42), .val (.ref b60), .val (.ref b80), .val (.ref b101), .val .null, .unset, .unset, .unset] [(.int chs)])) _
    refine XS.bipush X113.here hx rfl (hb hby at_151) ?_
    show Steps p.tables e below (T113.setTop (mkF m 153 #[.val (.int p0), .val (.long srt), .second, .val (.int chs), .val (.int tot), .val (.int unr), .val (.int thr), .val (.int kx), .val rol, .val (.ref b42), .val (.ref b60), .val (.ref b80), .val (.ref b101), .val .null, .unset, .unset, .unset] [(.int (16 : Int32)), (.int chs)])) _
    refine XS.iushr X113.here hx rfl (hb hby at_153) rfl ?_
    show Steps p.tables e below (T113.setTop (mkF m 154 #[.val (.int p0), .val (.long srt), .second, .val (.int chs), .val (.int tot), .val (.int unr), .val (.int thr), .val (.int kx), .val rol, .val (.ref b42), .val (.ref b60), .val (.ref b80), .val (.ref b101), .val .null, .unset, .unset, .unset] [(.int (Jvm.Free.XT.ushr chs (16 : Int32)))])) _
    refine XS.iconst X113.here hx rfl (hb hby at_154) ?_
    show Steps p.tables e below (T113.setTop (mkF m 155 #[.val (.int p0), .val (.long srt), .second, .val (.int chs), .val (.int tot), .val (.int unr), .val (.int thr), .val (.int kx), .val rol, .val (.ref b42), .val (.ref b60), .val (.ref b80), .val (.ref b101), .val .null, .unset, .unset, .unset] [(.int (1 : Int32)), (.int (Jvm.Free.XT.ushr chs (16 : Int32)))])) _
    refine XS.iand X113.here hx rfl (hb hby at_155) rfl ?_
    show Steps p.tables e below (T113.setTop (mkF m 156 #[.val (.int p0), .val (.long srt), .second, .val (.int chs), .val (.int tot), .val (.int unr), .val (.int thr), .val (.int kx), .val rol, .val (.ref b42), .val (.ref b60), .val (.ref b80), .val (.ref b101), .val .null, .unset, .unset, .unset] [(.int ((Jvm.Free.XT.ushr chs (16 : Int32)) &&& (1 : Int32)))])) _
    exact k
  by_cases hc124 : ((Jvm.Free.XT.ushr chs (16 : Int32)) &&& (1 : Int32)) = (0 : Int32)
  · have go125 : Goes p e below s₁ (entryFrame m #[(.int p0), (.long srt), (.int chs), (.int tot), (.int unr), (.int thr)] maxLocals) T113 (mkF m 179 #[.val (.int p0), .val (.long srt), .second, .val (.int chs), .val (.int tot), .val (.int unr), .val (.int thr), .val (.int kx), .val rol, .val (.ref b42), .val (.ref b60), .val (.ref b80), .val (.ref b101), .val .null, .unset, .unset, .unset] [(.int ((Jvm.Free.XT.ushr chs (17 : Int32)) &&& (1 : Int32)))]) := fun t k => by
      refine go123 t ?_
      refine XS.ifYes X113.here hx rfl (pc0 := 156) (pc' := 173) rfl (hb hby at_156) rfl (Jvm.Free.XT.i0_eq_t hc124) (by decide) (by decide) ?_
      show Steps p.tables e below (T113.setTop (mkF m 173 #[.val (.int p0), .val (.long srt), .second, .val (.int chs), .val (.int tot), .val (.int unr), .val (.int thr), .val (.int kx), .val rol, .val (.ref b42), .val (.ref b60), .val (.ref b80), .val (.ref b101), .val .null, .unset, .unset, .unset] [])) _
      refine XS.iloadN X113.here hx rfl (hb hby at_173) rfl ?_
      show Steps p.tables e below (T113.setTop (mkF m 174 #[.val (.int p0), .val (.long srt), .second, .val (.int chs), .val (.int tot), .val (.int unr), .val (.int thr), .val (.int kx), .val rol, .val (.ref b42), .val (.ref b60), .val (.ref b80), .val (.ref b101), .val .null, .unset, .unset, .unset] [(.int chs)])) _
      refine XS.bipush X113.here hx rfl (hb hby at_174) ?_
      show Steps p.tables e below (T113.setTop (mkF m 176 #[.val (.int p0), .val (.long srt), .second, .val (.int chs), .val (.int tot), .val (.int unr), .val (.int thr), .val (.int kx), .val rol, .val (.ref b42), .val (.ref b60), .val (.ref b80), .val (.ref b101), .val .null, .unset, .unset, .unset] [(.int (17 : Int32)), (.int chs)])) _
      refine XS.iushr X113.here hx rfl (hb hby at_176) rfl ?_
      show Steps p.tables e below (T113.setTop (mkF m 177 #[.val (.int p0), .val (.long srt), .second, .val (.int chs), .val (.int tot), .val (.int unr), .val (.int thr), .val (.int kx), .val rol, .val (.ref b42), .val (.ref b60), .val (.ref b80), .val (.ref b101), .val .null, .unset, .unset, .unset] [(.int (Jvm.Free.XT.ushr chs (17 : Int32)))])) _
      refine XS.iconst X113.here hx rfl (hb hby at_177) ?_
      show Steps p.tables e below (T113.setTop (mkF m 178 #[.val (.int p0), .val (.long srt), .second, .val (.int chs), .val (.int tot), .val (.int unr), .val (.int thr), .val (.int kx), .val rol, .val (.ref b42), .val (.ref b60), .val (.ref b80), .val (.ref b101), .val .null, .unset, .unset, .unset] [(.int (1 : Int32)), (.int (Jvm.Free.XT.ushr chs (17 : Int32)))])) _
      refine XS.iand X113.here hx rfl (hb hby at_178) rfl ?_
      show Steps p.tables e below (T113.setTop (mkF m 179 #[.val (.int p0), .val (.long srt), .second, .val (.int chs), .val (.int tot), .val (.int unr), .val (.int thr), .val (.int kx), .val rol, .val (.ref b42), .val (.ref b60), .val (.ref b80), .val (.ref b101), .val .null, .unset, .unset, .unset] [(.int ((Jvm.Free.XT.ushr chs (17 : Int32)) &&& (1 : Int32)))])) _
      exact k
    obtain ⟨T126, sub, X126, e126, hj126, go126j⟩ : ∃ (T' : State) (sub : Int32), Stand p l e room_1 (s.setVm s.vm) m #[(.int p0), (.long srt), (.int chs), (.int tot), (.int unr), (.int thr)] below meth c T' (((([] ++ [⟨b42, ((0 : Int32)).toNatClampNeg⟩]) ++ [⟨b60, ((0 : Int32)).toNatClampNeg⟩]) ++ Lc91) ++ Lc113) 6 12 ∧ T'.heap = T113.heap ∧ (True) ∧ Goes p e below s₁ (entryFrame m #[(.int p0), (.long srt), (.int chs), (.int tot), (.int unr), (.int thr)] maxLocals) T' (mkF m 187 #[.val (.int p0), .val (.long srt), .second, .val (.int chs), .val (.int tot), .val (.int unr), .val (.int thr), .val (.int kx), .val rol, .val (.ref b42), .val (.ref b60), .val (.ref b80), .val (.ref b101), .val .null, .unset, .unset, .unset] [(.int sub)]) := by
      by_cases hc127 : ((Jvm.Free.XT.ushr chs (17 : Int32)) &&& (1 : Int32)) = (0 : Int32)
      · have go128 : Goes p e below s₁ (entryFrame m #[(.int p0), (.long srt), (.int chs), (.int tot), (.int unr), (.int thr)] maxLocals) T113 (mkF m 187 #[.val (.int p0), .val (.long srt), .second, .val (.int chs), .val (.int tot), .val (.int unr), .val (.int thr), .val (.int kx), .val rol, .val (.ref b42), .val (.ref b60), .val (.ref b80), .val (.ref b101), .val .null, .unset, .unset, .unset] [(.int (0 : Int32))]) := fun t k => by
          refine go125 t ?_
          refine XS.ifYes X113.here hx rfl (pc0 := 179) (pc' := 186) rfl (hb hby at_179) rfl (Jvm.Free.XT.i0_eq_t hc127) (by decide) (by decide) ?_
          show Steps p.tables e below (T113.setTop (mkF m 186 #[.val (.int p0), .val (.long srt), .second, .val (.int chs), .val (.int tot), .val (.int unr), .val (.int thr), .val (.int kx), .val rol, .val (.ref b42), .val (.ref b60), .val (.ref b80), .val (.ref b101), .val .null, .unset, .unset, .unset] [])) _
          refine XS.iconst X113.here hx rfl (hb hby at_186) ?_
          show Steps p.tables e below (T113.setTop (mkF m 187 #[.val (.int p0), .val (.long srt), .second, .val (.int chs), .val (.int tot), .val (.int unr), .val (.int thr), .val (.int kx), .val rol, .val (.ref b42), .val (.ref b60), .val (.ref b80), .val (.ref b101), .val .null, .unset, .unset, .unset] [(.int (0 : Int32))])) _
          exact k
        exact ⟨T113, (0 : Int32), X113, rfl, trivial, go128⟩
      · have go129 : Goes p e below s₁ (entryFrame m #[(.int p0), (.long srt), (.int chs), (.int tot), (.int unr), (.int thr)] maxLocals) T113 (mkF m 187 #[.val (.int p0), .val (.long srt), .second, .val (.int chs), .val (.int tot), .val (.int unr), .val (.int thr), .val (.int kx), .val rol, .val (.ref b42), .val (.ref b60), .val (.ref b80), .val (.ref b101), .val .null, .unset, .unset, .unset] [(.int (1 : Int32))]) := fun t k => by
          refine go125 t ?_
          refine XS.ifNo X113.here hx rfl (hb hby at_179) rfl (Jvm.Free.XT.i0_eq_f hc127) ?_
          show Steps p.tables e below (T113.setTop (mkF m 182 #[.val (.int p0), .val (.long srt), .second, .val (.int chs), .val (.int tot), .val (.int unr), .val (.int thr), .val (.int kx), .val rol, .val (.ref b42), .val (.ref b60), .val (.ref b80), .val (.ref b101), .val .null, .unset, .unset, .unset] [])) _
          refine XS.iconst X113.here hx rfl (hb hby at_182) ?_
          show Steps p.tables e below (T113.setTop (mkF m 183 #[.val (.int p0), .val (.long srt), .second, .val (.int chs), .val (.int tot), .val (.int unr), .val (.int thr), .val (.int kx), .val rol, .val (.ref b42), .val (.ref b60), .val (.ref b80), .val (.ref b101), .val .null, .unset, .unset, .unset] [(.int (1 : Int32))])) _
          refine XS.goto X113.here hx rfl (pc0 := 183) (pc' := 187) rfl (hb hby at_183) (by decide) (by decide) ?_
          show Steps p.tables e below (T113.setTop (mkF m 187 #[.val (.int p0), .val (.long srt), .second, .val (.int chs), .val (.int tot), .val (.int unr), .val (.int thr), .val (.int kx), .val rol, .val (.ref b42), .val (.ref b60), .val (.ref b80), .val (.ref b101), .val .null, .unset, .unset, .unset] [(.int (1 : Int32))])) _
          exact k
        exact ⟨T113, (1 : Int32), X113, rfl, trivial, go129⟩
    have go130 : Goes p e below s₁ (entryFrame m #[(.int p0), (.long srt), (.int chs), (.int tot), (.int unr), (.int thr)] maxLocals) T126 (mkF m 189 #[.val (.int p0), .val (.long srt), .second, .val (.int chs), .val (.int tot), .val (.int unr), .val (.int thr), .val (.int kx), .val rol, .val (.ref b42), .val (.ref b60), .val (.ref b80), .val (.ref b101), .val .null, .val (.int sub), .unset, .unset] []) := fun t k => by
      refine go126j t ?_
      refine XS.istore X126.here hx rfl (hb hby at_187) rfl (l' := #[.val (.int p0), .val (.long srt), .second, .val (.int chs), .val (.int tot), .val (.int unr), .val (.int thr), .val (.int kx), .val rol, .val (.ref b42), .val (.ref b60), .val (.ref b80), .val (.ref b101), .val .null, .val (.int sub), .unset, .unset]) rfl ?_
      show Steps p.tables e below (T126.setTop (mkF m 189 #[.val (.int p0), .val (.long srt), .second, .val (.int chs), .val (.int tot), .val (.int unr), .val (.int thr), .val (.int kx), .val rol, .val (.ref b42), .val (.ref b60), .val (.ref b80), .val (.ref b101), .val .null, .val (.int sub), .unset, .unset] [])) _
      exact k
    obtain ⟨T131, h131, X131, e131, E131, A131, D131, -, st131⟩ := newO X126 hx hZ hown (hw _ (List.mem_of_getElem? (i := 31) rfl)) (hw _ (List.mem_of_getElem? (i := 32) rfl)) (hw _ (List.mem_of_getElem? (i := 33) rfl)) e126 (g := (mkF m 189 #[.val (.int p0), .val (.long srt), .second, .val (.int chs), .val (.int tot), .val (.int unr), .val (.int thr), .val (.int kx), .val rol, .val (.ref b42), .val (.ref b60), .val (.ref b80), .val (.ref b101), .val .null, .val (.int sub), .unset, .unset] [])) rfl (hb hby at_189) (by decide) (by decide)
    obtain ⟨b131, g_b_b131⟩ : ∃ z, z = T113.heap.size := ⟨_, rfl⟩
    have le_b131 : T113.heap.size ≤ b131 := Nat.le_of_eq g_b_b131.symm
    have gn_b131 : n0 ≤ b131 := Nat.le_trans Z119 le_b131
    have sz_b131 : h0.size ≤ b131 := Nat.le_trans K120.1 le_b131
    rw [← g_b_b131] at A131 D131 st131
    have f132 := f114.ext E131
    have f133 := f115.ext E131
    have f134 := f116.ext E131
    have f135 := f117.ext E131
    have O136 := O118.ext E131
    have Z137 := Nat.le_trans Z119 E131.1
    have K138 := K120.ext E131
    have hk139 := Nat.le_trans hk121 E131.1
    have f140 : Fld Z h131 b131 "com/example/convey/convey/model/Mailbox" "id" "Ljava/lang/String;" .null := D131 (Or.inr (hw _ (List.mem_of_getElem? (i := 52) rfl))) (ty := (.object "java/lang/String")) (by decide)
    have f141 : Fld Z h131 b131 "com/example/convey/convey/model/Mailbox" "parentId" "Ljava/lang/String;" .null := D131 (Or.inr (hw _ (List.mem_of_getElem? (i := 54) rfl))) (ty := (.object "java/lang/String")) (by decide)
    have f142 : Fld Z h131 b131 "com/example/convey/convey/model/Mailbox" "name" "Ljava/lang/String;" .null := D131 (Or.inr (hw _ (List.mem_of_getElem? (i := 56) rfl))) (ty := (.object "java/lang/String")) (by decide)
    have f143 : Fld Z h131 b131 "com/example/convey/convey/model/Mailbox" "role" "Lcom/example/convey/convey/model/MailboxRole;" .null := D131 (Or.inr (hw _ (List.mem_of_getElem? (i := 58) rfl))) (ty := (.object "com/example/convey/convey/model/MailboxRole")) (by decide)
    have f144 : Fld Z h131 b131 "com/example/convey/convey/model/Mailbox" "sortOrder" "J" (.long (0 : Int64)) := D131 (Or.inr (hw _ (List.mem_of_getElem? (i := 60) rfl))) (ty := .long) (by decide)
    have f145 : Fld Z h131 b131 "com/example/convey/convey/model/Mailbox" "subscribed" "Z" (.int (0 : Int32)) := D131 (Or.inr (hw _ (List.mem_of_getElem? (i := 62) rfl))) (ty := .boolean) (by decide)
    have f146 : Fld Z h131 b131 "com/example/convey/convey/model/Mailbox" "totalEmails" "I" (.int (0 : Int32)) := D131 (Or.inr (hw _ (List.mem_of_getElem? (i := 64) rfl))) (ty := .int) (by decide)
    have f147 : Fld Z h131 b131 "com/example/convey/convey/model/Mailbox" "unreadEmails" "I" (.int (0 : Int32)) := D131 (Or.inr (hw _ (List.mem_of_getElem? (i := 66) rfl))) (ty := .int) (by decide)
    have f148 : Fld Z h131 b131 "com/example/convey/convey/model/Mailbox" "totalThreads" "I" (.int (0 : Int32)) := D131 (Or.inr (hw _ (List.mem_of_getElem? (i := 68) rfl))) (ty := .int) (by decide)
    have f149 : Fld Z h131 b131 "com/example/convey/convey/model/Mailbox" "unreadThreads" "I" (.int (0 : Int32)) := D131 (Or.inr (hw _ (List.mem_of_getElem? (i := 70) rfl))) (ty := .int) (by decide)
    have go150 : Goes p e below s₁ (entryFrame m #[(.int p0), (.long srt), (.int chs), (.int tot), (.int unr), (.int thr)] maxLocals) T131 (mkF m 192 #[.val (.int p0), .val (.long srt), .second, .val (.int chs), .val (.int tot), .val (.int unr), .val (.int thr), .val (.int kx), .val rol, .val (.ref b42), .val (.ref b60), .val (.ref b80), .val (.ref b101), .val .null, .val (.int sub), .unset, .unset] [(.ref b131)]) := fun t k => go130 t (st131 t k)
    have go151 : Goes p e below s₁ (entryFrame m #[(.int p0), (.long srt), (.int chs), (.int tot), (.int unr), (.int thr)] maxLocals) T131 (mkF m 215 #[.val (.int p0), .val (.long srt), .second, .val (.int chs), .val (.int tot), .val (.int unr), .val (.int thr), .val (.int kx), .val rol, .val (.ref b42), .val (.ref b60), .val (.ref b80), .val (.ref b101), .val .null, .val (.int sub), .unset, .unset] [(.int (tot ^^^ thr)), (.int thr), (.int unr), (.int tot), (.int sub), (.long srt), rol, (.ref b101), .null, (.ref b80), (.ref b131), (.ref b131)]) := fun t k => by
      refine go150 t ?_
      refine XS.dup X131.here hx rfl (hb hby at_192) rfl rfl ?_
      show Steps p.tables e below (T131.setTop (mkF m 193 #[.val (.int p0), .val (.long srt), .second, .val (.int chs), .val (.int tot), .val (.int unr), .val (.int thr), .val (.int kx), .val rol, .val (.ref b42), .val (.ref b60), .val (.ref b80), .val (.ref b101), .val .null, .val (.int sub), .unset, .unset] [(.ref b131), (.ref b131)])) _
      refine XS.aload X131.here hx rfl (hb hby at_193) rfl rfl ?_
      show Steps p.tables e below (T131.setTop (mkF m 195 #[.val (.int p0), .val (.long srt), .second, .val (.int chs), .val (.int tot), .val (.int unr), .val (.int thr), .val (.int kx), .val rol, .val (.ref b42), .val (.ref b60), .val (.ref b80), .val (.ref b101), .val .null, .val (.int sub), .unset, .unset] [(.ref b80), (.ref b131), (.ref b131)])) _
      refine XS.aload X131.here hx rfl (hb hby at_195) rfl rfl ?_
      show Steps p.tables e below (T131.setTop (mkF m 197 #[.val (.int p0), .val (.long srt), .second, .val (.int chs), .val (.int tot), .val (.int unr), .val (.int thr), .val (.int kx), .val rol, .val (.ref b42), .val (.ref b60), .val (.ref b80), .val (.ref b101), .val .null, .val (.int sub), .unset, .unset] [.null, (.ref b80), (.ref b131), (.ref b131)])) _
      refine XS.aload X131.here hx rfl (hb hby at_197) rfl rfl ?_
      show Steps p.tables e below (T131.setTop (mkF m 199 #[.val (.int p0), .val (.long srt), .second, .val (.int chs), .val (.int tot), .val (.int unr), .val (.int thr), .val (.int kx), .val rol, .val (.ref b42), .val (.ref b60), .val (.ref b80), .val (.ref b101), .val .null, .val (.int sub), .unset, .unset] [(.ref b101), .null, (.ref b80), (.ref b131), (.ref b131)])) _
      refine XS.aload X131.here hx rfl (hb hby at_199) rfl hrol ?_
      show Steps p.tables e below (T131.setTop (mkF m 201 #[.val (.int p0), .val (.long srt), .second, .val (.int chs), .val (.int tot), .val (.int unr), .val (.int thr), .val (.int kx), .val rol, .val (.ref b42), .val (.ref b60), .val (.ref b80), .val (.ref b101), .val .null, .val (.int sub), .unset, .unset] [rol, (.ref b101), .null, (.ref b80), (.ref b131), (.ref b131)])) _
      refine XS.lloadN X131.here hx rfl (hb hby at_201) rfl ?_
      show Steps p.tables e below (T131.setTop (mkF m 202 #[.val (.int p0), .val (.long srt), .second, .val (.int chs), .val (.int tot), .val (.int unr), .val (.int thr), .val (.int kx), .val rol, .val (.ref b42), .val (.ref b60), .val (.ref b80), .val (.ref b101), .val .null, .val (.int sub), .unset, .unset] [(.long srt), rol, (.ref b101), .null, (.ref b80), (.ref b131), (.ref b131)])) _
      refine XS.iload X131.here hx rfl (hb hby at_202) rfl ?_
      show Steps p.tables e below (T131.setTop (mkF m 204 #[.val (.int p0), .val (.long srt), .second, .val (.int chs), .val (.int tot), .val (.int unr), .val (.int thr), .val (.int kx), .val rol, .val (.ref b42), .val (.ref b60), .val (.ref b80), .val (.ref b101), .val .null, .val (.int sub), .unset, .unset] [(.int sub), (.long srt), rol, (.ref b101), .null, (.ref b80), (.ref b131), (.ref b131)])) _
      refine XS.iload X131.here hx rfl (hb hby at_204) rfl ?_
      show Steps p.tables e below (T131.setTop (mkF m 206 #[.val (.int p0), .val (.long srt), .second, .val (.int chs), .val (.int tot), .val (.int unr), .val (.int thr), .val (.int kx), .val rol, .val (.ref b42), .val (.ref b60), .val (.ref b80), .val (.ref b101), .val .null, .val (.int sub), .unset, .unset] [(.int tot), (.int sub), (.long srt), rol, (.ref b101), .null, (.ref b80), (.ref b131), (.ref b131)])) _
      refine XS.iload X131.here hx rfl (hb hby at_206) rfl ?_
      show Steps p.tables e below (T131.setTop (mkF m 208 #[.val (.int p0), .val (.long srt), .second, .val (.int chs), .val (.int tot), .val (.int unr), .val (.int thr), .val (.int kx), .val rol, .val (.ref b42), .val (.ref b60), .val (.ref b80), .val (.ref b101), .val .null, .val (.int sub), .unset, .unset] [(.int unr), (.int tot), (.int sub), (.long srt), rol, (.ref b101), .null, (.ref b80), (.ref b131), (.ref b131)])) _
      refine XS.iload X131.here hx rfl (hb hby at_208) rfl ?_
      show Steps p.tables e below (T131.setTop (mkF m 210 #[.val (.int p0), .val (.long srt), .second, .val (.int chs), .val (.int tot), .val (.int unr), .val (.int thr), .val (.int kx), .val rol, .val (.ref b42), .val (.ref b60), .val (.ref b80), .val (.ref b101), .val .null, .val (.int sub), .unset, .unset] [(.int thr), (.int unr), (.int tot), (.int sub), (.long srt), rol, (.ref b101), .null, (.ref b80), (.ref b131), (.ref b131)])) _
      refine XS.iload X131.here hx rfl (hb hby at_210) rfl ?_
      show Steps p.tables e below (T131.setTop (mkF m 212 #[.val (.int p0), .val (.long srt), .second, .val (.int chs), .val (.int tot), .val (.int unr), .val (.int thr), .val (.int kx), .val rol, .val (.ref b42), .val (.ref b60), .val (.ref b80), .val (.ref b101), .val .null, .val (.int sub), .unset, .unset] [(.int tot), (.int thr), (.int unr), (.int tot), (.int sub), (.long srt), rol, (.ref b101), .null, (.ref b80), (.ref b131), (.ref b131)])) _
      refine XS.iload X131.here hx rfl (hb hby at_212) rfl ?_
      show Steps p.tables e below (T131.setTop (mkF m 214 #[.val (.int p0), .val (.long srt), .second, .val (.int chs), .val (.int tot), .val (.int unr), .val (.int thr), .val (.int kx), .val rol, .val (.ref b42), .val (.ref b60), .val (.ref b80), .val (.ref b101), .val .null, .val (.int sub), .unset, .unset] [(.int thr), (.int tot), (.int thr), (.int unr), (.int tot), (.int sub), (.long srt), rol, (.ref b101), .null, (.ref b80), (.ref b131), (.ref b131)])) _
      refine XS.ixor X131.here hx rfl (hb hby at_214) rfl ?_
      show Steps p.tables e below (T131.setTop (mkF m 215 #[.val (.int p0), .val (.long srt), .second, .val (.int chs), .val (.int tot), .val (.int unr), .val (.int thr), .val (.int kx), .val rol, .val (.ref b42), .val (.ref b60), .val (.ref b80), .val (.ref b101), .val .null, .val (.int sub), .unset, .unset] [(.int (tot ^^^ thr)), (.int thr), (.int unr), (.int tot), (.int sub), (.long srt), rol, (.ref b101), .null, (.ref b80), (.ref b131), (.ref b131)])) _
      exact k
    obtain ⟨_, _, ⟨T152, L152, k152, n152⟩, -, X152, hS152q, hg152q, ⟨Lc152, hQ152, l152, y152, z152⟩, st152⟩ := X131.specialBackS hx (y := (⟨"com/example/convey/convey/model/Mailbox", "<init>", "(Ljava/lang/String;Ljava/lang/String;Ljava/lang/String;Lcom/example/convey/convey/model/MailboxRole;JZIIII)V"⟩ : MethodName)) rfl hown (mvT hZ (hw _ (List.mem_of_getElem? (i := 34) rfl))) (mvT hZ (hw _ (List.mem_of_getElem? (i := 35) rfl))) (mvT hZ (hw _ (List.mem_of_getElem? (i := 36) rfl))) (by decide) (backOfS (W := 1) (rmMb l Z a0 hw [] b131 b80 .null b101 rol srt sub tot unr thr (tot ^^^ thr) h131 n0 Z137 A131 f140 f141 f142 f143 f144 f145 f146 f147 f148 f149 gn_b131 rfl hrol) hZ (hw _ (List.mem_of_getElem? (i := 36) rfl)) (hw _ (List.mem_of_getElem? (i := 33) rfl)) (by decide) (by decide)) (g := (mkF m 215 #[.val (.int p0), .val (.long srt), .second, .val (.int chs), .val (.int tot), .val (.int unr), .val (.int thr), .val (.int kx), .val rol, .val (.ref b42), .val (.ref b60), .val (.ref b80), .val (.ref b101), .val .null, .val (.int sub), .unset, .unset] [(.int (tot ^^^ thr)), (.int thr), (.int unr), (.int tot), (.int sub), (.long srt), rol, (.ref b101), .null, (.ref b80), (.ref b131), (.ref b131)])) rfl (by rw [hml]; rfl) (Steps.refl _) (a := b131) (argsL := [(.ref b80), .null, (.ref b101), rol, (.long srt), (.int sub), (.int tot), (.int unr), (.int thr), (.int (tot ^^^ thr))]) (rest := [(.ref b131)]) (lenOf pd_11 rfl) rfl (by show 2 * 0 + _ ≤ _; exact Nat.le_of_eq rfl) (hb hby at_215) (fun _ _ => ⟨rfl, e131, (by decide : 7 + 4 ≤ room_1.cells), (by decide : 22 + 32 ≤ room_1.slots)⟩)
    dsimp only [Pt.U, Pt.locs, Pt.cells, Pt.slots] at X152 l152 y152 z152 st152 hQ152 hS152q hg152q
    subst l152 y152 z152
    obtain ⟨X152, hS152, hZ, hown⟩ := rebS hS0 (show _ ≤ T131.heap.size by rw [e131]; exact hk139) X152 hS152q hg152q hZ hown
    obtain ⟨rfl, N152q, Kq152, Eq152, Rq152⟩ := hQ152
    have N152 := Fr.app N113 N152q
    have f153 := f132.keep Kq152 (ninS (Nat.ne_of_lt (Nat.lt_of_lt_of_le f114.lt le_b131)) nin0)
    have f154 := f133.keep Kq152 (ninS (Nat.ne_of_lt (Nat.lt_of_lt_of_le f115.lt le_b131)) nin0)
    have f155 := f134.keep Kq152
    have f156 := f135.keep Kq152
    have f157 := A131.keep Kq152
    have O158 := O136.keep Kq152 (allS gn_b131 all0)
    have Z159 := Nat.le_trans Z137 Kq152.1
    have K160 := K138.trans Kq152 (allS (Or.inr sz_b131) all0)
    have hk161 := Nat.le_trans hk139 Kq152.1
    have hk162 : T152.heap.size ≤ T152.heap.size := Nat.le_refl T152.heap.size
    have go163 : Goes p e below s₁ (entryFrame m #[(.int p0), (.long srt), (.int chs), (.int tot), (.int unr), (.int thr)] maxLocals) T152 (mkF m 218 #[.val (.int p0), .val (.long srt), .second, .val (.int chs), .val (.int tot), .val (.int unr), .val (.int thr), .val (.int kx), .val rol, .val (.ref b42), .val (.ref b60), .val (.ref b80), .val (.ref b101), .val .null, .val (.int sub), .unset, .unset] [(.ref b131)]) := fun t k => go151 t (st152.trans k)
    have go164 : Goes p e below s₁ (entryFrame m #[(.int p0), (.long srt), (.int chs), (.int tot), (.int unr), (.int thr)] maxLocals) T152 (mkF m 220 #[.val (.int p0), .val (.long srt), .second, .val (.int chs), .val (.int tot), .val (.int unr), .val (.int thr), .val (.int kx), .val rol, .val (.ref b42), .val (.ref b60), .val (.ref b80), .val (.ref b101), .val .null, .val (.int sub), .val (.ref b131), .unset] []) := fun t k => by
      refine go163 t ?_
      refine XS.astore X152.here hx rfl (hb hby at_218) rfl rfl (l' := #[.val (.int p0), .val (.long srt), .second, .val (.int chs), .val (.int tot), .val (.int unr), .val (.int thr), .val (.int kx), .val rol, .val (.ref b42), .val (.ref b60), .val (.ref b80), .val (.ref b101), .val .null, .val (.int sub), .val (.ref b131), .unset]) rfl ?_
      show Steps p.tables e below (T152.setTop (mkF m 220 #[.val (.int p0), .val (.long srt), .second, .val (.int chs), .val (.int tot), .val (.int unr), .val (.int thr), .val (.int kx), .val rol, .val (.ref b42), .val (.ref b60), .val (.ref b80), .val (.ref b101), .val .null, .val (.int sub), .val (.ref b131), .unset] [])) _
      exact k
    obtain ⟨T165, exv, X165, e165, hj165, go165j⟩ : ∃ (T' : State) (exv : Int32), Stand p l e room_1 (s.setVm T152.vm) m #[(.int p0), (.long srt), (.int chs), (.int tot), (.int unr), (.int thr)] below meth c T' ((((([] ++ [⟨b42, ((0 : Int32)).toNatClampNeg⟩]) ++ [⟨b60, ((0 : Int32)).toNatClampNeg⟩]) ++ Lc91) ++ Lc113) ++ Lc152) 11 54 ∧ T'.heap = T152.heap ∧ (exv = (if kx < 1 then 0 else if 4 < kx then 0 else 1)) ∧ Goes p e below s₁ (entryFrame m #[(.int p0), (.long srt), (.int chs), (.int tot), (.int unr), (.int thr)] maxLocals) T' (mkF m 237 #[.val (.int p0), .val (.long srt), .second, .val (.int chs), .val (.int tot), .val (.int unr), .val (.int thr), .val (.int kx), .val rol, .val (.ref b42), .val (.ref b60), .val (.ref b80), .val (.ref b101), .val .null, .val (.int sub), .val (.ref b131), .unset] [(.int exv)]) := by
      have go166 : Goes p e below s₁ (entryFrame m #[(.int p0), (.long srt), (.int chs), (.int tot), (.int unr), (.int thr)] maxLocals) T152 (mkF m 223 #[.val (.int p0), .val (.long srt), .second, .val (.int chs), .val (.int tot), .val (.int unr), .val (.int thr), .val (.int kx), .val rol, .val (.ref b42), .val (.ref b60), .val (.ref b80), .val (.ref b101), .val .null, .val (.int sub), .val (.ref b131), .unset] [(.int (1 : Int32)), (.int kx)]) := fun t k => by
        refine go164 t ?_
        refine XS.iload X152.here hx rfl (hb hby at_220) rfl ?_
        show Steps p.tables e below (T152.setTop (mkF m 222 #[.val (.int p0), .val (.long srt), .second, .val (.int chs), .val (.int tot), .val (.int unr), .val (.int thr), .val (.int kx), .val rol, .val (.ref b42), .val (.ref b60), .val (.ref b80), .val (.ref b101), .val .null, .val (.int sub), .val (.ref b131), .unset] [(.int kx)])) _
        refine XS.iconst X152.here hx rfl (hb hby at_222) ?_
        show Steps p.tables e below (T152.setTop (mkF m 223 #[.val (.int p0), .val (.long srt), .second, .val (.int chs), .val (.int tot), .val (.int unr), .val (.int thr), .val (.int kx), .val rol, .val (.ref b42), .val (.ref b60), .val (.ref b80), .val (.ref b101), .val .null, .val (.int sub), .val (.ref b131), .unset] [(.int (1 : Int32)), (.int kx)])) _
        exact k
      by_cases hc167 : kx < (1 : Int32)
      · have go168 : Goes p e below s₁ (entryFrame m #[(.int p0), (.long srt), (.int chs), (.int tot), (.int unr), (.int thr)] maxLocals) T152 (mkF m 237 #[.val (.int p0), .val (.long srt), .second, .val (.int chs), .val (.int tot), .val (.int unr), .val (.int thr), .val (.int kx), .val rol, .val (.ref b42), .val (.ref b60), .val (.ref b80), .val (.ref b101), .val .null, .val (.int sub), .val (.ref b131), .unset] [(.int (0 : Int32))]) := fun t k => by
          refine go166 t ?_
          refine XS.icmpYes X152.here hx rfl (pc0 := 223) (pc' := 236) rfl (hb hby at_223) rfl (Jvm.Free.XT.ii_lt_t hc167) (by decide) (by decide) ?_
          show Steps p.tables e below (T152.setTop (mkF m 236 #[.val (.int p0), .val (.long srt), .second, .val (.int chs), .val (.int tot), .val (.int unr), .val (.int thr), .val (.int kx), .val rol, .val (.ref b42), .val (.ref b60), .val (.ref b80), .val (.ref b101), .val .null, .val (.int sub), .val (.ref b131), .unset] [])) _
          refine XS.iconst X152.here hx rfl (hb hby at_236) ?_
          show Steps p.tables e below (T152.setTop (mkF m 237 #[.val (.int p0), .val (.long srt), .second, .val (.int chs), .val (.int tot), .val (.int unr), .val (.int thr), .val (.int kx), .val rol, .val (.ref b42), .val (.ref b60), .val (.ref b80), .val (.ref b101), .val .null, .val (.int sub), .val (.ref b131), .unset] [(.int (0 : Int32))])) _
          exact k
        exact ⟨T152, (0 : Int32), X152, rfl, (by simp [hc167]), go168⟩
      · have go169 : Goes p e below s₁ (entryFrame m #[(.int p0), (.long srt), (.int chs), (.int tot), (.int unr), (.int thr)] maxLocals) T152 (mkF m 229 #[.val (.int p0), .val (.long srt), .second, .val (.int chs), .val (.int tot), .val (.int unr), .val (.int thr), .val (.int kx), .val rol, .val (.ref b42), .val (.ref b60), .val (.ref b80), .val (.ref b101), .val .null, .val (.int sub), .val (.ref b131), .unset] [(.int (4 : Int32)), (.int kx)]) := fun t k => by
          refine go166 t ?_
          refine XS.icmpNo X152.here hx rfl (hb hby at_223) rfl (Jvm.Free.XT.ii_lt_f hc167) ?_
          show Steps p.tables e below (T152.setTop (mkF m 226 #[.val (.int p0), .val (.long srt), .second, .val (.int chs), .val (.int tot), .val (.int unr), .val (.int thr), .val (.int kx), .val rol, .val (.ref b42), .val (.ref b60), .val (.ref b80), .val (.ref b101), .val .null, .val (.int sub), .val (.ref b131), .unset] [])) _
          refine XS.iload X152.here hx rfl (hb hby at_226) rfl ?_
          show Steps p.tables e below (T152.setTop (mkF m 228 #[.val (.int p0), .val (.long srt), .second, .val (.int chs), .val (.int tot), .val (.int unr), .val (.int thr), .val (.int kx), .val rol, .val (.ref b42), .val (.ref b60), .val (.ref b80), .val (.ref b101), .val .null, .val (.int sub), .val (.ref b131), .unset] [(.int kx)])) _
          refine XS.iconst X152.here hx rfl (hb hby at_228) ?_
          show Steps p.tables e below (T152.setTop (mkF m 229 #[.val (.int p0), .val (.long srt), .second, .val (.int chs), .val (.int tot), .val (.int unr), .val (.int thr), .val (.int kx), .val rol, .val (.ref b42), .val (.ref b60), .val (.ref b80), .val (.ref b101), .val .null, .val (.int sub), .val (.ref b131), .unset] [(.int (4 : Int32)), (.int kx)])) _
          exact k
        by_cases hc170 : (4 : Int32) < kx
        · have go171 : Goes p e below s₁ (entryFrame m #[(.int p0), (.long srt), (.int chs), (.int tot), (.int unr), (.int thr)] maxLocals) T152 (mkF m 237 #[.val (.int p0), .val (.long srt), .second, .val (.int chs), .val (.int tot), .val (.int unr), .val (.int thr), .val (.int kx), .val rol, .val (.ref b42), .val (.ref b60), .val (.ref b80), .val (.ref b101), .val .null, .val (.int sub), .val (.ref b131), .unset] [(.int (0 : Int32))]) := fun t k => by
            refine go169 t ?_
            refine XS.icmpYes X152.here hx rfl (pc0 := 229) (pc' := 236) rfl (hb hby at_229) rfl (Jvm.Free.XT.ii_gt_t hc170) (by decide) (by decide) ?_
            show Steps p.tables e below (T152.setTop (mkF m 236 #[.val (.int p0), .val (.long srt), .second, .val (.int chs), .val (.int tot), .val (.int unr), .val (.int thr), .val (.int kx), .val rol, .val (.ref b42), .val (.ref b60), .val (.ref b80), .val (.ref b101), .val .null, .val (.int sub), .val (.ref b131), .unset] [])) _
            refine XS.iconst X152.here hx rfl (hb hby at_236) ?_
            show Steps p.tables e below (T152.setTop (mkF m 237 #[.val (.int p0), .val (.long srt), .second, .val (.int chs), .val (.int tot), .val (.int unr), .val (.int thr), .val (.int kx), .val rol, .val (.ref b42), .val (.ref b60), .val (.ref b80), .val (.ref b101), .val .null, .val (.int sub), .val (.ref b131), .unset] [(.int (0 : Int32))])) _
            exact k
          exact ⟨T152, (0 : Int32), X152, rfl, (by simp [hc167, hc170]), go171⟩
        · have go172 : Goes p e below s₁ (entryFrame m #[(.int p0), (.long srt), (.int chs), (.int tot), (.int unr), (.int thr)] maxLocals) T152 (mkF m 237 #[.val (.int p0), .val (.long srt), .second, .val (.int chs), .val (.int tot), .val (.int unr), .val (.int thr), .val (.int kx), .val rol, .val (.ref b42), .val (.ref b60), .val (.ref b80), .val (.ref b101), .val .null, .val (.int sub), .val (.ref b131), .unset] [(.int (1 : Int32))]) := fun t k => by
            refine go169 t ?_
            refine XS.icmpNo X152.here hx rfl (hb hby at_229) rfl (Jvm.Free.XT.ii_gt_f hc170) ?_
            show Steps p.tables e below (T152.setTop (mkF m 232 #[.val (.int p0), .val (.long srt), .second, .val (.int chs), .val (.int tot), .val (.int unr), .val (.int thr), .val (.int kx), .val rol, .val (.ref b42), .val (.ref b60), .val (.ref b80), .val (.ref b101), .val .null, .val (.int sub), .val (.ref b131), .unset] [])) _
            refine XS.iconst X152.here hx rfl (hb hby at_232) ?_
            show Steps p.tables e below (T152.setTop (mkF m 233 #[.val (.int p0), .val (.long srt), .second, .val (.int chs), .val (.int tot), .val (.int unr), .val (.int thr), .val (.int kx), .val rol, .val (.ref b42), .val (.ref b60), .val (.ref b80), .val (.ref b101), .val .null, .val (.int sub), .val (.ref b131), .unset] [(.int (1 : Int32))])) _
            refine XS.goto X152.here hx rfl (pc0 := 233) (pc' := 237) rfl (hb hby at_233) (by decide) (by decide) ?_
            show Steps p.tables e below (T152.setTop (mkF m 237 #[.val (.int p0), .val (.long srt), .second, .val (.int chs), .val (.int tot), .val (.int unr), .val (.int thr), .val (.int kx), .val rol, .val (.ref b42), .val (.ref b60), .val (.ref b80), .val (.ref b101), .val .null, .val (.int sub), .val (.ref b131), .unset] [(.int (1 : Int32))])) _
            exact k
          exact ⟨T152, (1 : Int32), X152, rfl, (by simp [hc167, hc170]), go172⟩
    have go173 : Goes p e below s₁ (entryFrame m #[(.int p0), (.long srt), (.int chs), (.int tot), (.int unr), (.int thr)] maxLocals) T165 (mkF m 241 #[.val (.int p0), .val (.long srt), .second, .val (.int chs), .val (.int tot), .val (.int unr), .val (.int thr), .val (.int kx), .val rol, .val (.ref b42), .val (.ref b60), .val (.ref b80), .val (.ref b101), .val .null, .val (.int sub), .val (.ref b131), .val (.int exv)] [(.ref b131)]) := fun t k => by
      refine go165j t ?_
      refine XS.istore X165.here hx rfl (hb hby at_237) rfl (l' := #[.val (.int p0), .val (.long srt), .second, .val (.int chs), .val (.int tot), .val (.int unr), .val (.int thr), .val (.int kx), .val rol, .val (.ref b42), .val (.ref b60), .val (.ref b80), .val (.ref b101), .val .null, .val (.int sub), .val (.ref b131), .val (.int exv)]) rfl ?_
      show Steps p.tables e below (T165.setTop (mkF m 239 #[.val (.int p0), .val (.long srt), .second, .val (.int chs), .val (.int tot), .val (.int unr), .val (.int thr), .val (.int kx), .val rol, .val (.ref b42), .val (.ref b60), .val (.ref b80), .val (.ref b101), .val .null, .val (.int sub), .val (.ref b131), .val (.int exv)] [])) _
      refine XS.aload X165.here hx rfl (hb hby at_239) rfl rfl ?_
      show Steps p.tables e below (T165.setTop (mkF m 241 #[.val (.int p0), .val (.long srt), .second, .val (.int chs), .val (.int tot), .val (.int unr), .val (.int thr), .val (.int kx), .val rol, .val (.ref b42), .val (.ref b60), .val (.ref b80), .val (.ref b101), .val .null, .val (.int sub), .val (.ref b131), .val (.int exv)] [(.ref b131)])) _
      exact k
    obtain ⟨cq174, kq174, q174a, q174b, q174c⟩ := isOf hZ e165 f157
    obtain ⟨_, _, ⟨T174, L174, k174, n174⟩, -, X174, ⟨Lc174, hQ174, l174, y174, z174⟩, st174⟩ := X165.virtualBack hx (y := (⟨"com/example/convey/convey/model/Mailbox", "madeWithAccount", "()Z"⟩ : MethodName)) (z := (⟨"com/example/convey/convey/model/Mailbox", "madeWithAccount", "()Z"⟩ : MethodName)) hown (mvT hZ (hw _ (List.mem_of_getElem? (i := 71) rfl))) (mvT hZ (hw _ (List.mem_of_getElem? (i := 72) rfl))) (notFace_of_selects (args := #[]) (mvT hZ (hw _ (List.mem_of_getElem? (i := 74) rfl)))) (mvT hZ (hw _ (List.mem_of_getElem? (i := 74) rfl))) (mvT hZ (hw _ (List.mem_of_getElem? (i := 73) rfl))) (by decide) (backOf (W := 0) (rmMm l Z a0 hw [] b131 rol (pv kx) T152.heap n0 Z159 Rq152 hrol (HV kx hk) (fun r hr => by obtain ⟨h0, rfl⟩ := HR r hr; exact ⟨(HE kx hk h0).ext O158.2, (HF kx hk h0).ext O158.2⟩)) hZ (hw _ (List.mem_of_getElem? (i := 75) rfl)) (hw _ (List.mem_of_getElem? (i := 33) rfl)) (by decide) (by decide)) q174a q174c (g := (mkF m 241 #[.val (.int p0), .val (.long srt), .second, .val (.int chs), .val (.int tot), .val (.int unr), .val (.int thr), .val (.int kx), .val rol, .val (.ref b42), .val (.ref b60), .val (.ref b80), .val (.ref b101), .val .null, .val (.int sub), .val (.ref b131), .val (.int exv)] [(.ref b131)])) rfl (by rw [hml]; rfl) (Steps.refl _) (argsL := []) (rest := []) (lenOf pd_9 rfl) rfl (by show 2 * 0 + _ ≤ _; exact Nat.le_of_eq rfl) (hb hby at_241) (fun _ _ => ⟨rfl, e165, (by decide : 11 + 0 ≤ room_1.cells), (by decide : 54 + 0 ≤ room_1.slots)⟩)
    dsimp only [Pt.U, Pt.locs, Pt.cells, Pt.slots] at X174 l174 y174 z174 st174 hQ174
    subst l174 y174 z174
    obtain ⟨rfl, N174q, e174⟩ := hQ174
    have N174 := Fr.app N152 N174q
    have go175 : Goes p e below s₁ (entryFrame m #[(.int p0), (.long srt), (.int chs), (.int tot), (.int unr), (.int thr)] maxLocals) T174 (mkF m 244 #[.val (.int p0), .val (.long srt), .second, .val (.int chs), .val (.int tot), .val (.int unr), .val (.int thr), .val (.int kx), .val rol, .val (.ref b42), .val (.ref b60), .val (.ref b80), .val (.ref b101), .val .null, .val (.int sub), .val (.ref b131), .val (.int exv)] [(.int (if rol = .null then 0 else if pv kx = .null then 0 else 1))]) := fun t k => go173 t (st174.trans k)
    have go176 : Goes p e below s₁ (entryFrame m #[(.int p0), (.long srt), (.int chs), (.int tot), (.int unr), (.int thr)] maxLocals) T174 (mkF m 246 #[.val (.int p0), .val (.long srt), .second, .val (.int chs), .val (.int tot), .val (.int unr), .val (.int thr), .val (.int kx), .val rol, .val (.ref b42), .val (.ref b60), .val (.ref b80), .val (.ref b101), .val .null, .val (.int sub), .val (.ref b131), .val (.int exv)] [(.int exv), (.int (if rol = .null then 0 else if pv kx = .null then 0 else 1))]) := fun t k => by
      refine go175 t ?_
      refine XS.iload X174.here hx rfl (hb hby at_244) rfl ?_
      show Steps p.tables e below (T174.setTop (mkF m 246 #[.val (.int p0), .val (.long srt), .second, .val (.int chs), .val (.int tot), .val (.int unr), .val (.int thr), .val (.int kx), .val rol, .val (.ref b42), .val (.ref b60), .val (.ref b80), .val (.ref b101), .val .null, .val (.int sub), .val (.ref b131), .val (.int exv)] [(.int exv), (.int (if rol = .null then 0 else if pv kx = .null then 0 else 1))])) _
      exact k
    have go177 : Goes p e below s₁ (entryFrame m #[(.int p0), (.long srt), (.int chs), (.int tot), (.int unr), (.int thr)] maxLocals) T174 (mkF m 254 #[.val (.int p0), .val (.long srt), .second, .val (.int chs), .val (.int tot), .val (.int unr), .val (.int thr), .val (.int kx), .val rol, .val (.ref b42), .val (.ref b60), .val (.ref b80), .val (.ref b101), .val .null, .val (.int sub), .val (.ref b131), .val (.int exv)] [(.int (1 : Int32))]) := fun t k => by
      refine go176 t ?_
      refine XS.icmpNo X174.here hx rfl (hb hby at_246) rfl (Jvm.Free.XT.ii_ne_f (by rw [hj165, hj3]; exact own_fin hk (HQ kx hk))) ?_
      show Steps p.tables e below (T174.setTop (mkF m 249 #[.val (.int p0), .val (.long srt), .second, .val (.int chs), .val (.int tot), .val (.int unr), .val (.int thr), .val (.int kx), .val rol, .val (.ref b42), .val (.ref b60), .val (.ref b80), .val (.ref b101), .val .null, .val (.int sub), .val (.ref b131), .val (.int exv)] [])) _
      refine XS.iconst X174.here hx rfl (hb hby at_249) ?_
      show Steps p.tables e below (T174.setTop (mkF m 250 #[.val (.int p0), .val (.long srt), .second, .val (.int chs), .val (.int tot), .val (.int unr), .val (.int thr), .val (.int kx), .val rol, .val (.ref b42), .val (.ref b60), .val (.ref b80), .val (.ref b101), .val .null, .val (.int sub), .val (.ref b131), .val (.int exv)] [(.int (1 : Int32))])) _
      refine XS.goto X174.here hx rfl (pc0 := 250) (pc' := 254) rfl (hb hby at_250) (by decide) (by decide) ?_
      show Steps p.tables e below (T174.setTop (mkF m 254 #[.val (.int p0), .val (.long srt), .second, .val (.int chs), .val (.int tot), .val (.int unr), .val (.int thr), .val (.int kx), .val rol, .val (.ref b42), .val (.ref b60), .val (.ref b80), .val (.ref b101), .val .null, .val (.int sub), .val (.ref b131), .val (.int exv)] [(.int (1 : Int32))])) _
      exact k
    obtain ⟨fs, hr, hrun, hended, hW⟩ := X174.leaveW hS152 (by rw [e174]; exact hk162) (v := some (.int (1 : Int32))) (fun h => by rw [Bd.returns] at h; cases h)
    refine ⟨_, _, go177 _ ?_, hrun, hended, _, _, rfl, ?_, ⟨_, rfl⟩, hW.2.1, hW.2.2.1, hW.2.2.2.mono (by decide) (by decide)⟩
    · exact retN X174 hx (t := .boolean) Bd.returns (by simp) (hb hby at_254) hr
    · show Q0 Z _ _ _ _ _ _ _ _ _ _ _ _ T174.heap _
      rw [e174]
      exact ⟨rfl, N174⟩
  · have go178 : Goes p e below s₁ (entryFrame m #[(.int p0), (.long srt), (.int chs), (.int tot), (.int unr), (.int thr)] maxLocals) T113 (mkF m 168 #[.val (.int p0), .val (.long srt), .second, .val (.int chs), .val (.int tot), .val (.int unr), .val (.int thr), .val (.int kx), .val rol, .val (.ref b42), .val (.ref b60), .val (.ref b80), .val (.ref b101), .val .null, .unset, .unset, .unset] [(.int (((Jvm.Free.XT.ushr chs (18 : Int32)) &&& (255 : Int32)).toUInt32.toUInt16.toUInt32.toInt32))]) := fun t k => by
      refine go123 t ?_
      refine XS.ifNo X113.here hx rfl (hb hby at_156) rfl (Jvm.Free.XT.i0_eq_f hc124) ?_
      show Steps p.tables e below (T113.setTop (mkF m 159 #[.val (.int p0), .val (.long srt), .second, .val (.int chs), .val (.int tot), .val (.int unr), .val (.int thr), .val (.int kx), .val rol, .val (.ref b42), .val (.ref b60), .val (.ref b80), .val (.ref b101), .val .null, .unset, .unset, .unset] [])) _
      refine XS.iloadN X113.here hx rfl (hb hby at_159) rfl ?_
      show Steps p.tables e below (T113.setTop (mkF m 160 #[.val (.int p0), .val (.long srt), .second, .val (.int chs), .val (.int tot), .val (.int unr), .val (.int thr), .val (.int kx), .val rol, .val (.ref b42), .val (.ref b60), .val (.ref b80), .val (.ref b101), .val .null, .unset, .unset, .unset] [(.int chs)])) _
      refine XS.bipush X113.here hx rfl (hb hby at_160) ?_
      show Steps p.tables e below (T113.setTop (mkF m 162 #[.val (.int p0), .val (.long srt), .second, .val (.int chs), .val (.int tot), .val (.int unr), .val (.int thr), .val (.int kx), .val rol, .val (.ref b42), .val (.ref b60), .val (.ref b80), .val (.ref b101), .val .null, .unset, .unset, .unset] [(.int (18 : Int32)), (.int chs)])) _
      refine XS.iushr X113.here hx rfl (hb hby at_162) rfl ?_
      show Steps p.tables e below (T113.setTop (mkF m 163 #[.val (.int p0), .val (.long srt), .second, .val (.int chs), .val (.int tot), .val (.int unr), .val (.int thr), .val (.int kx), .val rol, .val (.ref b42), .val (.ref b60), .val (.ref b80), .val (.ref b101), .val .null, .unset, .unset, .unset] [(.int (Jvm.Free.XT.ushr chs (18 : Int32)))])) _
      refine XS.sipush X113.here hx rfl (hb hby at_163) ?_
      show Steps p.tables e below (T113.setTop (mkF m 166 #[.val (.int p0), .val (.long srt), .second, .val (.int chs), .val (.int tot), .val (.int unr), .val (.int thr), .val (.int kx), .val rol, .val (.ref b42), .val (.ref b60), .val (.ref b80), .val (.ref b101), .val .null, .unset, .unset, .unset] [(.int (255 : Int32)), (.int (Jvm.Free.XT.ushr chs (18 : Int32)))])) _
      refine XS.iand X113.here hx rfl (hb hby at_166) rfl ?_
      show Steps p.tables e below (T113.setTop (mkF m 167 #[.val (.int p0), .val (.long srt), .second, .val (.int chs), .val (.int tot), .val (.int unr), .val (.int thr), .val (.int kx), .val rol, .val (.ref b42), .val (.ref b60), .val (.ref b80), .val (.ref b101), .val .null, .unset, .unset, .unset] [(.int ((Jvm.Free.XT.ushr chs (18 : Int32)) &&& (255 : Int32)))])) _
      refine XS.i2c X113.here hx rfl (hb hby at_167) rfl ?_
      show Steps p.tables e below (T113.setTop (mkF m 168 #[.val (.int p0), .val (.long srt), .second, .val (.int chs), .val (.int tot), .val (.int unr), .val (.int thr), .val (.int kx), .val rol, .val (.ref b42), .val (.ref b60), .val (.ref b80), .val (.ref b101), .val .null, .unset, .unset, .unset] [(.int (((Jvm.Free.XT.ushr chs (18 : Int32)) &&& (255 : Int32)).toUInt32.toUInt16.toUInt32.toInt32))])) _
      exact k
    obtain ⟨_, _, ⟨T179, L179, k179, n179⟩, -, X179, ⟨Lc179, hQ179, l179, y179, z179⟩, st179⟩ := Jvm.LawKit.callS X113 hx (y := (⟨"java/lang/String", "valueOf", "(C)Ljava/lang/String;"⟩ : MethodName)) hown (mvT hZ (hw _ (List.mem_of_getElem? (i := 90) rfl))) (mvT hZ (hw _ (List.mem_of_getElem? (i := 91) rfl))) (mvT hZ (hw _ (List.mem_of_getElem? (i := 4) rfl))) (mvT hZ (hw _ (List.mem_of_getElem? (i := 92) rfl))) (by decide) (backOf (W := 0) (rmVo l Z a0 hw [] (((Jvm.Free.XT.ushr chs (18 : Int32)) &&& (255 : Int32)).toUInt32.toUInt16.toUInt32.toInt32) cs T113.heap n0 Z119 O118 S_CS hcs (own_cd (Jvm.Free.XT.ushr chs (18 : Int32)))) hZ (hw _ (List.mem_of_getElem? (i := 92) rfl)) (hw _ (List.mem_of_getElem? (i := 4) rfl)) (by decide) (by decide)) (g := (mkF m 168 #[.val (.int p0), .val (.long srt), .second, .val (.int chs), .val (.int tot), .val (.int unr), .val (.int thr), .val (.int kx), .val rol, .val (.ref b42), .val (.ref b60), .val (.ref b80), .val (.ref b101), .val .null, .unset, .unset, .unset] [(.int (((Jvm.Free.XT.ushr chs (18 : Int32)) &&& (255 : Int32)).toUInt32.toUInt16.toUInt32.toInt32))])) rfl (by rw [hml]; rfl) (argsL := [(.int (((Jvm.Free.XT.ushr chs (18 : Int32)) &&& (255 : Int32)).toUInt32.toUInt16.toUInt32.toInt32))]) (rest := []) (lenOf pd_12 rfl) rfl (by show 2 * 0 + _ ≤ _; exact Nat.le_of_eq rfl) (hb hby at_168) (fun _ _ => ⟨rfl, rfl, (by decide : 6 + 2 ≤ room_1.cells), (by decide : 12 + 5 ≤ room_1.slots)⟩)
    dsimp only [Pt.U, Pt.locs, Pt.cells, Pt.slots] at X179 l179 y179 z179 st179 hQ179
    subst l179 y179 z179
    obtain ⟨bb179, rfl, N179q, Kq179, gq179, leq179⟩ := hQ179
    have N179 := Fr.app N113 N179q
    have le_bb179 := leq179
    have gn_bb179 : n0 ≤ bb179 := Nat.le_trans Z119 le_bb179
    have sz_bb179 : h0.size ≤ bb179 := Nat.le_trans K120.1 le_bb179
    have f180 := f114.keep Kq179 nin0
    have f181 := f115.keep Kq179 nin0
    have f182 := f116.keep Kq179
    have f183 := f117.keep Kq179
    have O184 := O118.keep Kq179 all0
    have Z185 := Nat.le_trans Z119 Kq179.1
    have K186 := K120.trans Kq179 all0
    have hk187 := Nat.le_trans hk121 Kq179.1
    have go188 : Goes p e below s₁ (entryFrame m #[(.int p0), (.long srt), (.int chs), (.int tot), (.int unr), (.int thr)] maxLocals) T179 (mkF m 171 #[.val (.int p0), .val (.long srt), .second, .val (.int chs), .val (.int tot), .val (.int unr), .val (.int thr), .val (.int kx), .val rol, .val (.ref b42), .val (.ref b60), .val (.ref b80), .val (.ref b101), .val .null, .unset, .unset, .unset] [(.ref bb179)]) := fun t k => go178 t (st179 t k)
    have go189 : Goes p e below s₁ (entryFrame m #[(.int p0), (.long srt), (.int chs), (.int tot), (.int unr), (.int thr)] maxLocals) T179 (mkF m 179 #[.val (.int p0), .val (.long srt), .second, .val (.int chs), .val (.int tot), .val (.int unr), .val (.int thr), .val (.int kx), .val rol, .val (.ref b42), .val (.ref b60), .val (.ref b80), .val (.ref b101), .val (.ref bb179), .unset, .unset, .unset] [(.int ((Jvm.Free.XT.ushr chs (17 : Int32)) &&& (1 : Int32)))]) := fun t k => by
      refine go188 t ?_
      refine XS.astore X179.here hx rfl (hb hby at_171) rfl rfl (l' := #[.val (.int p0), .val (.long srt), .second, .val (.int chs), .val (.int tot), .val (.int unr), .val (.int thr), .val (.int kx), .val rol, .val (.ref b42), .val (.ref b60), .val (.ref b80), .val (.ref b101), .val (.ref bb179), .unset, .unset, .unset]) rfl ?_
      show Steps p.tables e below (T179.setTop (mkF m 173 #[.val (.int p0), .val (.long srt), .second, .val (.int chs), .val (.int tot), .val (.int unr), .val (.int thr), .val (.int kx), .val rol, .val (.ref b42), .val (.ref b60), .val (.ref b80), .val (.ref b101), .val (.ref bb179), .unset, .unset, .unset] [])) _
      refine XS.iloadN X179.here hx rfl (hb hby at_173) rfl ?_
      show Steps p.tables e below (T179.setTop (mkF m 174 #[.val (.int p0), .val (.long srt), .second, .val (.int chs), .val (.int tot), .val (.int unr), .val (.int thr), .val (.int kx), .val rol, .val (.ref b42), .val (.ref b60), .val (.ref b80), .val (.ref b101), .val (.ref bb179), .unset, .unset, .unset] [(.int chs)])) _
      refine XS.bipush X179.here hx rfl (hb hby at_174) ?_
      show Steps p.tables e below (T179.setTop (mkF m 176 #[.val (.int p0), .val (.long srt), .second, .val (.int chs), .val (.int tot), .val (.int unr), .val (.int thr), .val (.int kx), .val rol, .val (.ref b42), .val (.ref b60), .val (.ref b80), .val (.ref b101), .val (.ref bb179), .unset, .unset, .unset] [(.int (17 : Int32)), (.int chs)])) _
      refine XS.iushr X179.here hx rfl (hb hby at_176) rfl ?_
      show Steps p.tables e below (T179.setTop (mkF m 177 #[.val (.int p0), .val (.long srt), .second, .val (.int chs), .val (.int tot), .val (.int unr), .val (.int thr), .val (.int kx), .val rol, .val (.ref b42), .val (.ref b60), .val (.ref b80), .val (.ref b101), .val (.ref bb179), .unset, .unset, .unset] [(.int (Jvm.Free.XT.ushr chs (17 : Int32)))])) _
      refine XS.iconst X179.here hx rfl (hb hby at_177) ?_
      show Steps p.tables e below (T179.setTop (mkF m 178 #[.val (.int p0), .val (.long srt), .second, .val (.int chs), .val (.int tot), .val (.int unr), .val (.int thr), .val (.int kx), .val rol, .val (.ref b42), .val (.ref b60), .val (.ref b80), .val (.ref b101), .val (.ref bb179), .unset, .unset, .unset] [(.int (1 : Int32)), (.int (Jvm.Free.XT.ushr chs (17 : Int32)))])) _
      refine XS.iand X179.here hx rfl (hb hby at_178) rfl ?_
      show Steps p.tables e below (T179.setTop (mkF m 179 #[.val (.int p0), .val (.long srt), .second, .val (.int chs), .val (.int tot), .val (.int unr), .val (.int thr), .val (.int kx), .val rol, .val (.ref b42), .val (.ref b60), .val (.ref b80), .val (.ref b101), .val (.ref bb179), .unset, .unset, .unset] [(.int ((Jvm.Free.XT.ushr chs (17 : Int32)) &&& (1 : Int32)))])) _
      exact k
    obtain ⟨T190, sub, X190, e190, hj190, go190j⟩ : ∃ (T' : State) (sub : Int32), Stand p l e room_1 (s.setVm s.vm) m #[(.int p0), (.long srt), (.int chs), (.int tot), (.int unr), (.int thr)] below meth c T' ((((([] ++ [⟨b42, ((0 : Int32)).toNatClampNeg⟩]) ++ [⟨b60, ((0 : Int32)).toNatClampNeg⟩]) ++ Lc91) ++ Lc113) ++ Lc179) 8 17 ∧ T'.heap = T179.heap ∧ (True) ∧ Goes p e below s₁ (entryFrame m #[(.int p0), (.long srt), (.int chs), (.int tot), (.int unr), (.int thr)] maxLocals) T' (mkF m 187 #[.val (.int p0), .val (.long srt), .second, .val (.int chs), .val (.int tot), .val (.int unr), .val (.int thr), .val (.int kx), .val rol, .val (.ref b42), .val (.ref b60), .val (.ref b80), .val (.ref b101), .val (.ref bb179), .unset, .unset, .unset] [(.int sub)]) := by
      by_cases hc191 : ((Jvm.Free.XT.ushr chs (17 : Int32)) &&& (1 : Int32)) = (0 : Int32)
      · have go192 : Goes p e below s₁ (entryFrame m #[(.int p0), (.long srt), (.int chs), (.int tot), (.int unr), (.int thr)] maxLocals) T179 (mkF m 187 #[.val (.int p0), .val (.long srt), .second, .val (.int chs), .val (.int tot), .val (.int unr), .val (.int thr), .val (.int kx), .val rol, .val (.ref b42), .val (.ref b60), .val (.ref b80), .val (.ref b101), .val (.ref bb179), .unset, .unset, .unset] [(.int (0 : Int32))]) := fun t k => by
          refine go189 t ?_
          refine XS.ifYes X179.here hx rfl (pc0 := 179) (pc' := 186) rfl (hb hby at_179) rfl (Jvm.Free.XT.i0_eq_t hc191) (by decide) (by decide) ?_
          show Steps p.tables e below (T179.setTop (mkF m 186 #[.val (.int p0), .val (.long srt), .second, .val (.int chs), .val (.int tot), .val (.int unr), .val (.int thr), .val (.int kx), .val rol, .val (.ref b42), .val (.ref b60), .val (.ref b80), .val (.ref b101), .val (.ref bb179), .unset, .unset, .unset] [])) _
          refine XS.iconst X179.here hx rfl (hb hby at_186) ?_
          show Steps p.tables e below (T179.setTop (mkF m 187 #[.val (.int p0), .val (.long srt), .second, .val (.int chs), .val (.int tot), .val (.int unr), .val (.int thr), .val (.int kx), .val rol, .val (.ref b42), .val (.ref b60), .val (.ref b80), .val (.ref b101), .val (.ref bb179), .unset, .unset, .unset] [(.int (0 : Int32))])) _
          exact k
        exact ⟨T179, (0 : Int32), X179, rfl, trivial, go192⟩
      · have go193 : Goes p e below s₁ (entryFrame m #[(.int p0), (.long srt), (.int chs), (.int tot), (.int unr), (.int thr)] maxLocals) T179 (mkF m 187 #[.val (.int p0), .val (.long srt), .second, .val (.int chs), .val (.int tot), .val (.int unr), .val (.int thr), .val (.int kx), .val rol, .val (.ref b42), .val (.ref b60), .val (.ref b80), .val (.ref b101), .val (.ref bb179), .unset, .unset, .unset] [(.int (1 : Int32))]) := fun t k => by
          refine go189 t ?_
          refine XS.ifNo X179.here hx rfl (hb hby at_179) rfl (Jvm.Free.XT.i0_eq_f hc191) ?_
          show Steps p.tables e below (T179.setTop (mkF m 182 #[.val (.int p0), .val (.long srt), .second, .val (.int chs), .val (.int tot), .val (.int unr), .val (.int thr), .val (.int kx), .val rol, .val (.ref b42), .val (.ref b60), .val (.ref b80), .val (.ref b101), .val (.ref bb179), .unset, .unset, .unset] [])) _
          refine XS.iconst X179.here hx rfl (hb hby at_182) ?_
          show Steps p.tables e below (T179.setTop (mkF m 183 #[.val (.int p0), .val (.long srt), .second, .val (.int chs), .val (.int tot), .val (.int unr), .val (.int thr), .val (.int kx), .val rol, .val (.ref b42), .val (.ref b60), .val (.ref b80), .val (.ref b101), .val (.ref bb179), .unset, .unset, .unset] [(.int (1 : Int32))])) _
          refine XS.goto X179.here hx rfl (pc0 := 183) (pc' := 187) rfl (hb hby at_183) (by decide) (by decide) ?_
          show Steps p.tables e below (T179.setTop (mkF m 187 #[.val (.int p0), .val (.long srt), .second, .val (.int chs), .val (.int tot), .val (.int unr), .val (.int thr), .val (.int kx), .val rol, .val (.ref b42), .val (.ref b60), .val (.ref b80), .val (.ref b101), .val (.ref bb179), .unset, .unset, .unset] [(.int (1 : Int32))])) _
          exact k
        exact ⟨T179, (1 : Int32), X179, rfl, trivial, go193⟩
    have go194 : Goes p e below s₁ (entryFrame m #[(.int p0), (.long srt), (.int chs), (.int tot), (.int unr), (.int thr)] maxLocals) T190 (mkF m 189 #[.val (.int p0), .val (.long srt), .second, .val (.int chs), .val (.int tot), .val (.int unr), .val (.int thr), .val (.int kx), .val rol, .val (.ref b42), .val (.ref b60), .val (.ref b80), .val (.ref b101), .val (.ref bb179), .val (.int sub), .unset, .unset] []) := fun t k => by
      refine go190j t ?_
      refine XS.istore X190.here hx rfl (hb hby at_187) rfl (l' := #[.val (.int p0), .val (.long srt), .second, .val (.int chs), .val (.int tot), .val (.int unr), .val (.int thr), .val (.int kx), .val rol, .val (.ref b42), .val (.ref b60), .val (.ref b80), .val (.ref b101), .val (.ref bb179), .val (.int sub), .unset, .unset]) rfl ?_
      show Steps p.tables e below (T190.setTop (mkF m 189 #[.val (.int p0), .val (.long srt), .second, .val (.int chs), .val (.int tot), .val (.int unr), .val (.int thr), .val (.int kx), .val rol, .val (.ref b42), .val (.ref b60), .val (.ref b80), .val (.ref b101), .val (.ref bb179), .val (.int sub), .unset, .unset] [])) _
      exact k
    obtain ⟨T195, h195, X195, e195, E195, A195, D195, -, st195⟩ := newO X190 hx hZ hown (hw _ (List.mem_of_getElem? (i := 31) rfl)) (hw _ (List.mem_of_getElem? (i := 32) rfl)) (hw _ (List.mem_of_getElem? (i := 33) rfl)) e190 (g := (mkF m 189 #[.val (.int p0), .val (.long srt), .second, .val (.int chs), .val (.int tot), .val (.int unr), .val (.int thr), .val (.int kx), .val rol, .val (.ref b42), .val (.ref b60), .val (.ref b80), .val (.ref b101), .val (.ref bb179), .val (.int sub), .unset, .unset] [])) rfl (hb hby at_189) (by decide) (by decide)
    obtain ⟨b195, g_b_b195⟩ : ∃ z, z = T179.heap.size := ⟨_, rfl⟩
    have le_b195 : T179.heap.size ≤ b195 := Nat.le_of_eq g_b_b195.symm
    have gn_b195 : n0 ≤ b195 := Nat.le_trans Z185 le_b195
    have sz_b195 : h0.size ≤ b195 := Nat.le_trans K186.1 le_b195
    rw [← g_b_b195] at A195 D195 st195
    have f196 := f180.ext E195
    have f197 := f181.ext E195
    have f198 := f182.ext E195
    have f199 := f183.ext E195
    have O200 := O184.ext E195
    have Z201 := Nat.le_trans Z185 E195.1
    have K202 := K186.ext E195
    have hk203 := Nat.le_trans hk187 E195.1
    have f204 : Fld Z h195 b195 "com/example/convey/convey/model/Mailbox" "id" "Ljava/lang/String;" .null := D195 (Or.inr (hw _ (List.mem_of_getElem? (i := 52) rfl))) (ty := (.object "java/lang/String")) (by decide)
    have f205 : Fld Z h195 b195 "com/example/convey/convey/model/Mailbox" "parentId" "Ljava/lang/String;" .null := D195 (Or.inr (hw _ (List.mem_of_getElem? (i := 54) rfl))) (ty := (.object "java/lang/String")) (by decide)
    have f206 : Fld Z h195 b195 "com/example/convey/convey/model/Mailbox" "name" "Ljava/lang/String;" .null := D195 (Or.inr (hw _ (List.mem_of_getElem? (i := 56) rfl))) (ty := (.object "java/lang/String")) (by decide)
    have f207 : Fld Z h195 b195 "com/example/convey/convey/model/Mailbox" "role" "Lcom/example/convey/convey/model/MailboxRole;" .null := D195 (Or.inr (hw _ (List.mem_of_getElem? (i := 58) rfl))) (ty := (.object "com/example/convey/convey/model/MailboxRole")) (by decide)
    have f208 : Fld Z h195 b195 "com/example/convey/convey/model/Mailbox" "sortOrder" "J" (.long (0 : Int64)) := D195 (Or.inr (hw _ (List.mem_of_getElem? (i := 60) rfl))) (ty := .long) (by decide)
    have f209 : Fld Z h195 b195 "com/example/convey/convey/model/Mailbox" "subscribed" "Z" (.int (0 : Int32)) := D195 (Or.inr (hw _ (List.mem_of_getElem? (i := 62) rfl))) (ty := .boolean) (by decide)
    have f210 : Fld Z h195 b195 "com/example/convey/convey/model/Mailbox" "totalEmails" "I" (.int (0 : Int32)) := D195 (Or.inr (hw _ (List.mem_of_getElem? (i := 64) rfl))) (ty := .int) (by decide)
    have f211 : Fld Z h195 b195 "com/example/convey/convey/model/Mailbox" "unreadEmails" "I" (.int (0 : Int32)) := D195 (Or.inr (hw _ (List.mem_of_getElem? (i := 66) rfl))) (ty := .int) (by decide)
    have f212 : Fld Z h195 b195 "com/example/convey/convey/model/Mailbox" "totalThreads" "I" (.int (0 : Int32)) := D195 (Or.inr (hw _ (List.mem_of_getElem? (i := 68) rfl))) (ty := .int) (by decide)
    have f213 : Fld Z h195 b195 "com/example/convey/convey/model/Mailbox" "unreadThreads" "I" (.int (0 : Int32)) := D195 (Or.inr (hw _ (List.mem_of_getElem? (i := 70) rfl))) (ty := .int) (by decide)
    have go214 : Goes p e below s₁ (entryFrame m #[(.int p0), (.long srt), (.int chs), (.int tot), (.int unr), (.int thr)] maxLocals) T195 (mkF m 192 #[.val (.int p0), .val (.long srt), .second, .val (.int chs), .val (.int tot), .val (.int unr), .val (.int thr), .val (.int kx), .val rol, .val (.ref b42), .val (.ref b60), .val (.ref b80), .val (.ref b101), .val (.ref bb179), .val (.int sub), .unset, .unset] [(.ref b195)]) := fun t k => go194 t (st195 t k)
    have go215 : Goes p e below s₁ (entryFrame m #[(.int p0), (.long srt), (.int chs), (.int tot), (.int unr), (.int thr)] maxLocals) T195 (mkF m 215 #[.val (.int p0), .val (.long srt), .second, .val (.int chs), .val (.int tot), .val (.int unr), .val (.int thr), .val (.int kx), .val rol, .val (.ref b42), .val (.ref b60), .val (.ref b80), .val (.ref b101), .val (.ref bb179), .val (.int sub), .unset, .unset] [(.int (tot ^^^ thr)), (.int thr), (.int unr), (.int tot), (.int sub), (.long srt), rol, (.ref b101), (.ref bb179), (.ref b80), (.ref b195), (.ref b195)]) := fun t k => by
      refine go214 t ?_
      refine XS.dup X195.here hx rfl (hb hby at_192) rfl rfl ?_
      show Steps p.tables e below (T195.setTop (mkF m 193 #[.val (.int p0), .val (.long srt), .second, .val (.int chs), .val (.int tot), .val (.int unr), .val (.int thr), .val (.int kx), .val rol, .val (.ref b42), .val (.ref b60), .val (.ref b80), .val (.ref b101), .val (.ref bb179), .val (.int sub), .unset, .unset] [(.ref b195), (.ref b195)])) _
      refine XS.aload X195.here hx rfl (hb hby at_193) rfl rfl ?_
      show Steps p.tables e below (T195.setTop (mkF m 195 #[.val (.int p0), .val (.long srt), .second, .val (.int chs), .val (.int tot), .val (.int unr), .val (.int thr), .val (.int kx), .val rol, .val (.ref b42), .val (.ref b60), .val (.ref b80), .val (.ref b101), .val (.ref bb179), .val (.int sub), .unset, .unset] [(.ref b80), (.ref b195), (.ref b195)])) _
      refine XS.aload X195.here hx rfl (hb hby at_195) rfl rfl ?_
      show Steps p.tables e below (T195.setTop (mkF m 197 #[.val (.int p0), .val (.long srt), .second, .val (.int chs), .val (.int tot), .val (.int unr), .val (.int thr), .val (.int kx), .val rol, .val (.ref b42), .val (.ref b60), .val (.ref b80), .val (.ref b101), .val (.ref bb179), .val (.int sub), .unset, .unset] [(.ref bb179), (.ref b80), (.ref b195), (.ref b195)])) _
      refine XS.aload X195.here hx rfl (hb hby at_197) rfl rfl ?_
      show Steps p.tables e below (T195.setTop (mkF m 199 #[.val (.int p0), .val (.long srt), .second, .val (.int chs), .val (.int tot), .val (.int unr), .val (.int thr), .val (.int kx), .val rol, .val (.ref b42), .val (.ref b60), .val (.ref b80), .val (.ref b101), .val (.ref bb179), .val (.int sub), .unset, .unset] [(.ref b101), (.ref bb179), (.ref b80), (.ref b195), (.ref b195)])) _
      refine XS.aload X195.here hx rfl (hb hby at_199) rfl hrol ?_
      show Steps p.tables e below (T195.setTop (mkF m 201 #[.val (.int p0), .val (.long srt), .second, .val (.int chs), .val (.int tot), .val (.int unr), .val (.int thr), .val (.int kx), .val rol, .val (.ref b42), .val (.ref b60), .val (.ref b80), .val (.ref b101), .val (.ref bb179), .val (.int sub), .unset, .unset] [rol, (.ref b101), (.ref bb179), (.ref b80), (.ref b195), (.ref b195)])) _
      refine XS.lloadN X195.here hx rfl (hb hby at_201) rfl ?_
      show Steps p.tables e below (T195.setTop (mkF m 202 #[.val (.int p0), .val (.long srt), .second, .val (.int chs), .val (.int tot), .val (.int unr), .val (.int thr), .val (.int kx), .val rol, .val (.ref b42), .val (.ref b60), .val (.ref b80), .val (.ref b101), .val (.ref bb179), .val (.int sub), .unset, .unset] [(.long srt), rol, (.ref b101), (.ref bb179), (.ref b80), (.ref b195), (.ref b195)])) _
      refine XS.iload X195.here hx rfl (hb hby at_202) rfl ?_
      show Steps p.tables e below (T195.setTop (mkF m 204 #[.val (.int p0), .val (.long srt), .second, .val (.int chs), .val (.int tot), .val (.int unr), .val (.int thr), .val (.int kx), .val rol, .val (.ref b42), .val (.ref b60), .val (.ref b80), .val (.ref b101), .val (.ref bb179), .val (.int sub), .unset, .unset] [(.int sub), (.long srt), rol, (.ref b101), (.ref bb179), (.ref b80), (.ref b195), (.ref b195)])) _
      refine XS.iload X195.here hx rfl (hb hby at_204) rfl ?_
      show Steps p.tables e below (T195.setTop (mkF m 206 #[.val (.int p0), .val (.long srt), .second, .val (.int chs), .val (.int tot), .val (.int unr), .val (.int thr), .val (.int kx), .val rol, .val (.ref b42), .val (.ref b60), .val (.ref b80), .val (.ref b101), .val (.ref bb179), .val (.int sub), .unset, .unset] [(.int tot), (.int sub), (.long srt), rol, (.ref b101), (.ref bb179), (.ref b80), (.ref b195), (.ref b195)])) _
      refine XS.iload X195.here hx rfl (hb hby at_206) rfl ?_
      show Steps p.tables e below (T195.setTop (mkF m 208 #[.val (.int p0), .val (.long srt), .second, .val (.int chs), .val (.int tot), .val (.int unr), .val (.int thr), .val (.int kx), .val rol, .val (.ref b42), .val (.ref b60), .val (.ref b80), .val (.ref b101), .val (.ref bb179), .val (.int sub), .unset, .unset] [(.int unr), (.int tot), (.int sub), (.long srt), rol, (.ref b101), (.ref bb179), (.ref b80), (.ref b195), (.ref b195)])) _
      refine XS.iload X195.here hx rfl (hb hby at_208) rfl ?_
      show Steps p.tables e below (T195.setTop (mkF m 210 #[.val (.int p0), .val (.long srt), .second, .val (.int chs), .val (.int tot), .val (.int unr), .val (.int thr), .val (.int kx), .val rol, .val (.ref b42), .val (.ref b60), .val (.ref b80), .val (.ref b101), .val (.ref bb179), .val (.int sub), .unset, .unset] [(.int thr), (.int unr), (.int tot), (.int sub), (.long srt), rol, (.ref b101), (.ref bb179), (.ref b80), (.ref b195), (.ref b195)])) _
      refine XS.iload X195.here hx rfl (hb hby at_210) rfl ?_
      show Steps p.tables e below (T195.setTop (mkF m 212 #[.val (.int p0), .val (.long srt), .second, .val (.int chs), .val (.int tot), .val (.int unr), .val (.int thr), .val (.int kx), .val rol, .val (.ref b42), .val (.ref b60), .val (.ref b80), .val (.ref b101), .val (.ref bb179), .val (.int sub), .unset, .unset] [(.int tot), (.int thr), (.int unr), (.int tot), (.int sub), (.long srt), rol, (.ref b101), (.ref bb179), (.ref b80), (.ref b195), (.ref b195)])) _
      refine XS.iload X195.here hx rfl (hb hby at_212) rfl ?_
      show Steps p.tables e below (T195.setTop (mkF m 214 #[.val (.int p0), .val (.long srt), .second, .val (.int chs), .val (.int tot), .val (.int unr), .val (.int thr), .val (.int kx), .val rol, .val (.ref b42), .val (.ref b60), .val (.ref b80), .val (.ref b101), .val (.ref bb179), .val (.int sub), .unset, .unset] [(.int thr), (.int tot), (.int thr), (.int unr), (.int tot), (.int sub), (.long srt), rol, (.ref b101), (.ref bb179), (.ref b80), (.ref b195), (.ref b195)])) _
      refine XS.ixor X195.here hx rfl (hb hby at_214) rfl ?_
      show Steps p.tables e below (T195.setTop (mkF m 215 #[.val (.int p0), .val (.long srt), .second, .val (.int chs), .val (.int tot), .val (.int unr), .val (.int thr), .val (.int kx), .val rol, .val (.ref b42), .val (.ref b60), .val (.ref b80), .val (.ref b101), .val (.ref bb179), .val (.int sub), .unset, .unset] [(.int (tot ^^^ thr)), (.int thr), (.int unr), (.int tot), (.int sub), (.long srt), rol, (.ref b101), (.ref bb179), (.ref b80), (.ref b195), (.ref b195)])) _
      exact k
    obtain ⟨_, _, ⟨T216, L216, k216, n216⟩, -, X216, hS216q, hg216q, ⟨Lc216, hQ216, l216, y216, z216⟩, st216⟩ := X195.specialBackS hx (y := (⟨"com/example/convey/convey/model/Mailbox", "<init>", "(Ljava/lang/String;Ljava/lang/String;Ljava/lang/String;Lcom/example/convey/convey/model/MailboxRole;JZIIII)V"⟩ : MethodName)) rfl hown (mvT hZ (hw _ (List.mem_of_getElem? (i := 34) rfl))) (mvT hZ (hw _ (List.mem_of_getElem? (i := 35) rfl))) (mvT hZ (hw _ (List.mem_of_getElem? (i := 36) rfl))) (by decide) (backOfS (W := 1) (rmMb l Z a0 hw [] b195 b80 (.ref bb179) b101 rol srt sub tot unr thr (tot ^^^ thr) h195 n0 Z201 A195 f204 f205 f206 f207 f208 f209 f210 f211 f212 f213 gn_b195 rfl hrol) hZ (hw _ (List.mem_of_getElem? (i := 36) rfl)) (hw _ (List.mem_of_getElem? (i := 33) rfl)) (by decide) (by decide)) (g := (mkF m 215 #[.val (.int p0), .val (.long srt), .second, .val (.int chs), .val (.int tot), .val (.int unr), .val (.int thr), .val (.int kx), .val rol, .val (.ref b42), .val (.ref b60), .val (.ref b80), .val (.ref b101), .val (.ref bb179), .val (.int sub), .unset, .unset] [(.int (tot ^^^ thr)), (.int thr), (.int unr), (.int tot), (.int sub), (.long srt), rol, (.ref b101), (.ref bb179), (.ref b80), (.ref b195), (.ref b195)])) rfl (by rw [hml]; rfl) (Steps.refl _) (a := b195) (argsL := [(.ref b80), (.ref bb179), (.ref b101), rol, (.long srt), (.int sub), (.int tot), (.int unr), (.int thr), (.int (tot ^^^ thr))]) (rest := [(.ref b195)]) (lenOf pd_11 rfl) rfl (by show 2 * 0 + _ ≤ _; exact Nat.le_of_eq rfl) (hb hby at_215) (fun _ _ => ⟨rfl, e195, (by decide : 9 + 4 ≤ room_1.cells), (by decide : 27 + 32 ≤ room_1.slots)⟩)
    dsimp only [Pt.U, Pt.locs, Pt.cells, Pt.slots] at X216 l216 y216 z216 st216 hQ216 hS216q hg216q
    subst l216 y216 z216
    obtain ⟨X216, hS216, hZ, hown⟩ := rebS hS0 (show _ ≤ T195.heap.size by rw [e195]; exact hk203) X216 hS216q hg216q hZ hown
    obtain ⟨rfl, N216q, Kq216, Eq216, Rq216⟩ := hQ216
    have N216 := Fr.app N179 N216q
    have f217 := f196.keep Kq216 (ninS (Nat.ne_of_lt (Nat.lt_of_lt_of_le f180.lt le_b195)) nin0)
    have f218 := f197.keep Kq216 (ninS (Nat.ne_of_lt (Nat.lt_of_lt_of_le f181.lt le_b195)) nin0)
    have f219 := f198.keep Kq216
    have f220 := f199.keep Kq216
    have f221 := A195.keep Kq216
    have O222 := O200.keep Kq216 (allS gn_b195 all0)
    have Z223 := Nat.le_trans Z201 Kq216.1
    have K224 := K202.trans Kq216 (allS (Or.inr sz_b195) all0)
    have hk225 := Nat.le_trans hk203 Kq216.1
    have hk226 : T216.heap.size ≤ T216.heap.size := Nat.le_refl T216.heap.size
    have go227 : Goes p e below s₁ (entryFrame m #[(.int p0), (.long srt), (.int chs), (.int tot), (.int unr), (.int thr)] maxLocals) T216 (mkF m 218 #[.val (.int p0), .val (.long srt), .second, .val (.int chs), .val (.int tot), .val (.int unr), .val (.int thr), .val (.int kx), .val rol, .val (.ref b42), .val (.ref b60), .val (.ref b80), .val (.ref b101), .val (.ref bb179), .val (.int sub), .unset, .unset] [(.ref b195)]) := fun t k => go215 t (st216.trans k)
    have go228 : Goes p e below s₁ (entryFrame m #[(.int p0), (.long srt), (.int chs), (.int tot), (.int unr), (.int thr)] maxLocals) T216 (mkF m 220 #[.val (.int p0), .val (.long srt), .second, .val (.int chs), .val (.int tot), .val (.int unr), .val (.int thr), .val (.int kx), .val rol, .val (.ref b42), .val (.ref b60), .val (.ref b80), .val (.ref b101), .val (.ref bb179), .val (.int sub), .val (.ref b195), .unset] []) := fun t k => by
      refine go227 t ?_
      refine XS.astore X216.here hx rfl (hb hby at_218) rfl rfl (l' := #[.val (.int p0), .val (.long srt), .second, .val (.int chs), .val (.int tot), .val (.int unr), .val (.int thr), .val (.int kx), .val rol, .val (.ref b42), .val (.ref b60), .val (.ref b80), .val (.ref b101), .val (.ref bb179), .val (.int sub), .val (.ref b195), .unset]) rfl ?_
      show Steps p.tables e below (T216.setTop (mkF m 220 #[.val (.int p0), .val (.long srt), .second, .val (.int chs), .val (.int tot), .val (.int unr), .val (.int thr), .val (.int kx), .val rol, .val (.ref b42), .val (.ref b60), .val (.ref b80), .val (.ref b101), .val (.ref bb179), .val (.int sub), .val (.ref b195), .unset] [])) _
      exact k
    obtain ⟨T229, exv, X229, e229, hj229, go229j⟩ : ∃ (T' : State) (exv : Int32), Stand p l e room_1 (s.setVm T216.vm) m #[(.int p0), (.long srt), (.int chs), (.int tot), (.int unr), (.int thr)] below meth c T' (((((([] ++ [⟨b42, ((0 : Int32)).toNatClampNeg⟩]) ++ [⟨b60, ((0 : Int32)).toNatClampNeg⟩]) ++ Lc91) ++ Lc113) ++ Lc179) ++ Lc216) 13 59 ∧ T'.heap = T216.heap ∧ (exv = (if kx < 1 then 0 else if 4 < kx then 0 else 1)) ∧ Goes p e below s₁ (entryFrame m #[(.int p0), (.long srt), (.int chs), (.int tot), (.int unr), (.int thr)] maxLocals) T' (mkF m 237 #[.val (.int p0), .val (.long srt), .second, .val (.int chs), .val (.int tot), .val (.int unr), .val (.int thr), .val (.int kx), .val rol, .val (.ref b42), .val (.ref b60), .val (.ref b80), .val (.ref b101), .val (.ref bb179), .val (.int sub), .val (.ref b195), .unset] [(.int exv)]) := by
      have go230 : Goes p e below s₁ (entryFrame m #[(.int p0), (.long srt), (.int chs), (.int tot), (.int unr), (.int thr)] maxLocals) T216 (mkF m 223 #[.val (.int p0), .val (.long srt), .second, .val (.int chs), .val (.int tot), .val (.int unr), .val (.int thr), .val (.int kx), .val rol, .val (.ref b42), .val (.ref b60), .val (.ref b80), .val (.ref b101), .val (.ref bb179), .val (.int sub), .val (.ref b195), .unset] [(.int (1 : Int32)), (.int kx)]) := fun t k => by
        refine go228 t ?_
        refine XS.iload X216.here hx rfl (hb hby at_220) rfl ?_
        show Steps p.tables e below (T216.setTop (mkF m 222 #[.val (.int p0), .val (.long srt), .second, .val (.int chs), .val (.int tot), .val (.int unr), .val (.int thr), .val (.int kx), .val rol, .val (.ref b42), .val (.ref b60), .val (.ref b80), .val (.ref b101), .val (.ref bb179), .val (.int sub), .val (.ref b195), .unset] [(.int kx)])) _
        refine XS.iconst X216.here hx rfl (hb hby at_222) ?_
        show Steps p.tables e below (T216.setTop (mkF m 223 #[.val (.int p0), .val (.long srt), .second, .val (.int chs), .val (.int tot), .val (.int unr), .val (.int thr), .val (.int kx), .val rol, .val (.ref b42), .val (.ref b60), .val (.ref b80), .val (.ref b101), .val (.ref bb179), .val (.int sub), .val (.ref b195), .unset] [(.int (1 : Int32)), (.int kx)])) _
        exact k
      by_cases hc231 : kx < (1 : Int32)
      · have go232 : Goes p e below s₁ (entryFrame m #[(.int p0), (.long srt), (.int chs), (.int tot), (.int unr), (.int thr)] maxLocals) T216 (mkF m 237 #[.val (.int p0), .val (.long srt), .second, .val (.int chs), .val (.int tot), .val (.int unr), .val (.int thr), .val (.int kx), .val rol, .val (.ref b42), .val (.ref b60), .val (.ref b80), .val (.ref b101), .val (.ref bb179), .val (.int sub), .val (.ref b195), .unset] [(.int (0 : Int32))]) := fun t k => by
          refine go230 t ?_
          refine XS.icmpYes X216.here hx rfl (pc0 := 223) (pc' := 236) rfl (hb hby at_223) rfl (Jvm.Free.XT.ii_lt_t hc231) (by decide) (by decide) ?_
          show Steps p.tables e below (T216.setTop (mkF m 236 #[.val (.int p0), .val (.long srt), .second, .val (.int chs), .val (.int tot), .val (.int unr), .val (.int thr), .val (.int kx), .val rol, .val (.ref b42), .val (.ref b60), .val (.ref b80), .val (.ref b101), .val (.ref bb179), .val (.int sub), .val (.ref b195), .unset] [])) _
          refine XS.iconst X216.here hx rfl (hb hby at_236) ?_
          show Steps p.tables e below (T216.setTop (mkF m 237 #[.val (.int p0), .val (.long srt), .second, .val (.int chs), .val (.int tot), .val (.int unr), .val (.int thr), .val (.int kx), .val rol, .val (.ref b42), .val (.ref b60), .val (.ref b80), .val (.ref b101), .val (.ref bb179), .val (.int sub), .val (.ref b195), .unset] [(.int (0 : Int32))])) _
          exact k
        exact ⟨T216, (0 : Int32), X216, rfl, (by simp [hc231]), go232⟩
      · have go233 : Goes p e below s₁ (entryFrame m #[(.int p0), (.long srt), (.int chs), (.int tot), (.int unr), (.int thr)] maxLocals) T216 (mkF m 229 #[.val (.int p0), .val (.long srt), .second, .val (.int chs), .val (.int tot), .val (.int unr), .val (.int thr), .val (.int kx), .val rol, .val (.ref b42), .val (.ref b60), .val (.ref b80), .val (.ref b101), .val (.ref bb179), .val (.int sub), .val (.ref b195), .unset] [(.int (4 : Int32)), (.int kx)]) := fun t k => by
          refine go230 t ?_
          refine XS.icmpNo X216.here hx rfl (hb hby at_223) rfl (Jvm.Free.XT.ii_lt_f hc231) ?_
          show Steps p.tables e below (T216.setTop (mkF m 226 #[.val (.int p0), .val (.long srt), .second, .val (.int chs), .val (.int tot), .val (.int unr), .val (.int thr), .val (.int kx), .val rol, .val (.ref b42), .val (.ref b60), .val (.ref b80), .val (.ref b101), .val (.ref bb179), .val (.int sub), .val (.ref b195), .unset] [])) _
          refine XS.iload X216.here hx rfl (hb hby at_226) rfl ?_
          show Steps p.tables e below (T216.setTop (mkF m 228 #[.val (.int p0), .val (.long srt), .second, .val (.int chs), .val (.int tot), .val (.int unr), .val (.int thr), .val (.int kx), .val rol, .val (.ref b42), .val (.ref b60), .val (.ref b80), .val (.ref b101), .val (.ref bb179), .val (.int sub), .val (.ref b195), .unset] [(.int kx)])) _
          refine XS.iconst X216.here hx rfl (hb hby at_228) ?_
          show Steps p.tables e below (T216.setTop (mkF m 229 #[.val (.int p0), .val (.long srt), .second, .val (.int chs), .val (.int tot), .val (.int unr), .val (.int thr), .val (.int kx), .val rol, .val (.ref b42), .val (.ref b60), .val (.ref b80), .val (.ref b101), .val (.ref bb179), .val (.int sub), .val (.ref b195), .unset] [(.int (4 : Int32)), (.int kx)])) _
          exact k
        by_cases hc234 : (4 : Int32) < kx
        · have go235 : Goes p e below s₁ (entryFrame m #[(.int p0), (.long srt), (.int chs), (.int tot), (.int unr), (.int thr)] maxLocals) T216 (mkF m 237 #[.val (.int p0), .val (.long srt), .second, .val (.int chs), .val (.int tot), .val (.int unr), .val (.int thr), .val (.int kx), .val rol, .val (.ref b42), .val (.ref b60), .val (.ref b80), .val (.ref b101), .val (.ref bb179), .val (.int sub), .val (.ref b195), .unset] [(.int (0 : Int32))]) := fun t k => by
            refine go233 t ?_
            refine XS.icmpYes X216.here hx rfl (pc0 := 229) (pc' := 236) rfl (hb hby at_229) rfl (Jvm.Free.XT.ii_gt_t hc234) (by decide) (by decide) ?_
            show Steps p.tables e below (T216.setTop (mkF m 236 #[.val (.int p0), .val (.long srt), .second, .val (.int chs), .val (.int tot), .val (.int unr), .val (.int thr), .val (.int kx), .val rol, .val (.ref b42), .val (.ref b60), .val (.ref b80), .val (.ref b101), .val (.ref bb179), .val (.int sub), .val (.ref b195), .unset] [])) _
            refine XS.iconst X216.here hx rfl (hb hby at_236) ?_
            show Steps p.tables e below (T216.setTop (mkF m 237 #[.val (.int p0), .val (.long srt), .second, .val (.int chs), .val (.int tot), .val (.int unr), .val (.int thr), .val (.int kx), .val rol, .val (.ref b42), .val (.ref b60), .val (.ref b80), .val (.ref b101), .val (.ref bb179), .val (.int sub), .val (.ref b195), .unset] [(.int (0 : Int32))])) _
            exact k
          exact ⟨T216, (0 : Int32), X216, rfl, (by simp [hc231, hc234]), go235⟩
        · have go236 : Goes p e below s₁ (entryFrame m #[(.int p0), (.long srt), (.int chs), (.int tot), (.int unr), (.int thr)] maxLocals) T216 (mkF m 237 #[.val (.int p0), .val (.long srt), .second, .val (.int chs), .val (.int tot), .val (.int unr), .val (.int thr), .val (.int kx), .val rol, .val (.ref b42), .val (.ref b60), .val (.ref b80), .val (.ref b101), .val (.ref bb179), .val (.int sub), .val (.ref b195), .unset] [(.int (1 : Int32))]) := fun t k => by
            refine go233 t ?_
            refine XS.icmpNo X216.here hx rfl (hb hby at_229) rfl (Jvm.Free.XT.ii_gt_f hc234) ?_
            show Steps p.tables e below (T216.setTop (mkF m 232 #[.val (.int p0), .val (.long srt), .second, .val (.int chs), .val (.int tot), .val (.int unr), .val (.int thr), .val (.int kx), .val rol, .val (.ref b42), .val (.ref b60), .val (.ref b80), .val (.ref b101), .val (.ref bb179), .val (.int sub), .val (.ref b195), .unset] [])) _
            refine XS.iconst X216.here hx rfl (hb hby at_232) ?_
            show Steps p.tables e below (T216.setTop (mkF m 233 #[.val (.int p0), .val (.long srt), .second, .val (.int chs), .val (.int tot), .val (.int unr), .val (.int thr), .val (.int kx), .val rol, .val (.ref b42), .val (.ref b60), .val (.ref b80), .val (.ref b101), .val (.ref bb179), .val (.int sub), .val (.ref b195), .unset] [(.int (1 : Int32))])) _
            refine XS.goto X216.here hx rfl (pc0 := 233) (pc' := 237) rfl (hb hby at_233) (by decide) (by decide) ?_
            show Steps p.tables e below (T216.setTop (mkF m 237 #[.val (.int p0), .val (.long srt), .second, .val (.int chs), .val (.int tot), .val (.int unr), .val (.int thr), .val (.int kx), .val rol, .val (.ref b42), .val (.ref b60), .val (.ref b80), .val (.ref b101), .val (.ref bb179), .val (.int sub), .val (.ref b195), .unset] [(.int (1 : Int32))])) _
            exact k
          exact ⟨T216, (1 : Int32), X216, rfl, (by simp [hc231, hc234]), go236⟩
    have go237 : Goes p e below s₁ (entryFrame m #[(.int p0), (.long srt), (.int chs), (.int tot), (.int unr), (.int thr)] maxLocals) T229 (mkF m 241 #[.val (.int p0), .val (.long srt), .second, .val (.int chs), .val (.int tot), .val (.int unr), .val (.int thr), .val (.int kx), .val rol, .val (.ref b42), .val (.ref b60), .val (.ref b80), .val (.ref b101), .val (.ref bb179), .val (.int sub), .val (.ref b195), .val (.int exv)] [(.ref b195)]) := fun t k => by
      refine go229j t ?_
      refine XS.istore X229.here hx rfl (hb hby at_237) rfl (l' := #[.val (.int p0), .val (.long srt), .second, .val (.int chs), .val (.int tot), .val (.int unr), .val (.int thr), .val (.int kx), .val rol, .val (.ref b42), .val (.ref b60), .val (.ref b80), .val (.ref b101), .val (.ref bb179), .val (.int sub), .val (.ref b195), .val (.int exv)]) rfl ?_
      show Steps p.tables e below (T229.setTop (mkF m 239 #[.val (.int p0), .val (.long srt), .second, .val (.int chs), .val (.int tot), .val (.int unr), .val (.int thr), .val (.int kx), .val rol, .val (.ref b42), .val (.ref b60), .val (.ref b80), .val (.ref b101), .val (.ref bb179), .val (.int sub), .val (.ref b195), .val (.int exv)] [])) _
      refine XS.aload X229.here hx rfl (hb hby at_239) rfl rfl ?_
      show Steps p.tables e below (T229.setTop (mkF m 241 #[.val (.int p0), .val (.long srt), .second, .val (.int chs), .val (.int tot), .val (.int unr), .val (.int thr), .val (.int kx), .val rol, .val (.ref b42), .val (.ref b60), .val (.ref b80), .val (.ref b101), .val (.ref bb179), .val (.int sub), .val (.ref b195), .val (.int exv)] [(.ref b195)])) _
      exact k
    obtain ⟨cq238, kq238, q238a, q238b, q238c⟩ := isOf hZ e229 f221
    obtain ⟨_, _, ⟨T238, L238, k238, n238⟩, -, X238, ⟨Lc238, hQ238, l238, y238, z238⟩, st238⟩ := X229.virtualBack hx (y := (⟨"com/example/convey/convey/model/Mailbox", "madeWithAccount", "()Z"⟩ : MethodName)) (z := (⟨"com/example/convey/convey/model/Mailbox", "madeWithAccount", "()Z"⟩ : MethodName)) hown (mvT hZ (hw _ (List.mem_of_getElem? (i := 71) rfl))) (mvT hZ (hw _ (List.mem_of_getElem? (i := 72) rfl))) (notFace_of_selects (args := #[]) (mvT hZ (hw _ (List.mem_of_getElem? (i := 74) rfl)))) (mvT hZ (hw _ (List.mem_of_getElem? (i := 74) rfl))) (mvT hZ (hw _ (List.mem_of_getElem? (i := 73) rfl))) (by decide) (backOf (W := 0) (rmMm l Z a0 hw [] b195 rol (pv kx) T216.heap n0 Z223 Rq216 hrol (HV kx hk) (fun r hr => by obtain ⟨h0, rfl⟩ := HR r hr; exact ⟨(HE kx hk h0).ext O222.2, (HF kx hk h0).ext O222.2⟩)) hZ (hw _ (List.mem_of_getElem? (i := 75) rfl)) (hw _ (List.mem_of_getElem? (i := 33) rfl)) (by decide) (by decide)) q238a q238c (g := (mkF m 241 #[.val (.int p0), .val (.long srt), .second, .val (.int chs), .val (.int tot), .val (.int unr), .val (.int thr), .val (.int kx), .val rol, .val (.ref b42), .val (.ref b60), .val (.ref b80), .val (.ref b101), .val (.ref bb179), .val (.int sub), .val (.ref b195), .val (.int exv)] [(.ref b195)])) rfl (by rw [hml]; rfl) (Steps.refl _) (argsL := []) (rest := []) (lenOf pd_9 rfl) rfl (by show 2 * 0 + _ ≤ _; exact Nat.le_of_eq rfl) (hb hby at_241) (fun _ _ => ⟨rfl, e229, (by decide : 13 + 0 ≤ room_1.cells), (by decide : 59 + 0 ≤ room_1.slots)⟩)
    dsimp only [Pt.U, Pt.locs, Pt.cells, Pt.slots] at X238 l238 y238 z238 st238 hQ238
    subst l238 y238 z238
    obtain ⟨rfl, N238q, e238⟩ := hQ238
    have N238 := Fr.app N216 N238q
    have go239 : Goes p e below s₁ (entryFrame m #[(.int p0), (.long srt), (.int chs), (.int tot), (.int unr), (.int thr)] maxLocals) T238 (mkF m 244 #[.val (.int p0), .val (.long srt), .second, .val (.int chs), .val (.int tot), .val (.int unr), .val (.int thr), .val (.int kx), .val rol, .val (.ref b42), .val (.ref b60), .val (.ref b80), .val (.ref b101), .val (.ref bb179), .val (.int sub), .val (.ref b195), .val (.int exv)] [(.int (if rol = .null then 0 else if pv kx = .null then 0 else 1))]) := fun t k => go237 t (st238.trans k)
    have go240 : Goes p e below s₁ (entryFrame m #[(.int p0), (.long srt), (.int chs), (.int tot), (.int unr), (.int thr)] maxLocals) T238 (mkF m 246 #[.val (.int p0), .val (.long srt), .second, .val (.int chs), .val (.int tot), .val (.int unr), .val (.int thr), .val (.int kx), .val rol, .val (.ref b42), .val (.ref b60), .val (.ref b80), .val (.ref b101), .val (.ref bb179), .val (.int sub), .val (.ref b195), .val (.int exv)] [(.int exv), (.int (if rol = .null then 0 else if pv kx = .null then 0 else 1))]) := fun t k => by
      refine go239 t ?_
      refine XS.iload X238.here hx rfl (hb hby at_244) rfl ?_
      show Steps p.tables e below (T238.setTop (mkF m 246 #[.val (.int p0), .val (.long srt), .second, .val (.int chs), .val (.int tot), .val (.int unr), .val (.int thr), .val (.int kx), .val rol, .val (.ref b42), .val (.ref b60), .val (.ref b80), .val (.ref b101), .val (.ref bb179), .val (.int sub), .val (.ref b195), .val (.int exv)] [(.int exv), (.int (if rol = .null then 0 else if pv kx = .null then 0 else 1))])) _
      exact k
    have go241 : Goes p e below s₁ (entryFrame m #[(.int p0), (.long srt), (.int chs), (.int tot), (.int unr), (.int thr)] maxLocals) T238 (mkF m 254 #[.val (.int p0), .val (.long srt), .second, .val (.int chs), .val (.int tot), .val (.int unr), .val (.int thr), .val (.int kx), .val rol, .val (.ref b42), .val (.ref b60), .val (.ref b80), .val (.ref b101), .val (.ref bb179), .val (.int sub), .val (.ref b195), .val (.int exv)] [(.int (1 : Int32))]) := fun t k => by
      refine go240 t ?_
      refine XS.icmpNo X238.here hx rfl (hb hby at_246) rfl (Jvm.Free.XT.ii_ne_f (by rw [hj229, hj3]; exact own_fin hk (HQ kx hk))) ?_
      show Steps p.tables e below (T238.setTop (mkF m 249 #[.val (.int p0), .val (.long srt), .second, .val (.int chs), .val (.int tot), .val (.int unr), .val (.int thr), .val (.int kx), .val rol, .val (.ref b42), .val (.ref b60), .val (.ref b80), .val (.ref b101), .val (.ref bb179), .val (.int sub), .val (.ref b195), .val (.int exv)] [])) _
      refine XS.iconst X238.here hx rfl (hb hby at_249) ?_
      show Steps p.tables e below (T238.setTop (mkF m 250 #[.val (.int p0), .val (.long srt), .second, .val (.int chs), .val (.int tot), .val (.int unr), .val (.int thr), .val (.int kx), .val rol, .val (.ref b42), .val (.ref b60), .val (.ref b80), .val (.ref b101), .val (.ref bb179), .val (.int sub), .val (.ref b195), .val (.int exv)] [(.int (1 : Int32))])) _
      refine XS.goto X238.here hx rfl (pc0 := 250) (pc' := 254) rfl (hb hby at_250) (by decide) (by decide) ?_
      show Steps p.tables e below (T238.setTop (mkF m 254 #[.val (.int p0), .val (.long srt), .second, .val (.int chs), .val (.int tot), .val (.int unr), .val (.int thr), .val (.int kx), .val rol, .val (.ref b42), .val (.ref b60), .val (.ref b80), .val (.ref b101), .val (.ref bb179), .val (.int sub), .val (.ref b195), .val (.int exv)] [(.int (1 : Int32))])) _
      exact k
    obtain ⟨fs, hr, hrun, hended, hW⟩ := X238.leaveW hS216 (by rw [e238]; exact hk226) (v := some (.int (1 : Int32))) (fun h => by rw [Bd.returns] at h; cases h)
    refine ⟨_, _, go241 _ ?_, hrun, hended, _, _, rfl, ?_, ⟨_, rfl⟩, hW.2.1, hW.2.2.1, hW.2.2.2.mono (by decide) (by decide)⟩
    · exact retN X238 hx (t := .boolean) Bd.returns (by simp) (hb hby at_254) hr
    · show Q0 Z _ _ _ _ _ _ _ _ _ _ _ _ T238.heap _
      rw [e238]
      exact ⟨rfl, N238⟩
set_option maxRecDepth 65536 in
set_option maxHeartbeats 40000000 in
theorem comes_1 {Post : Tables → Env → Array Value → State → Outcome → State → Prop} (hpost : ∀ tb e args s v u, (limb_1_1.after args s (.returned v) u = true ∧ limb_1_2.after args s (.returned v) u = true ∧ True) → ReturnedEndW s (.returned v) u (Jvm.fieldLocs frame_1_writes args s ++ Jvm.arrayLocs frame_1_arrays args s ++ Jvm.staticLocs frame_1_statics s) 32 2176 → Post tb e args s (.returned v) u) :
    ArmFor flags0 classFile x code maxLocals ret World_1 tables_1 room_1 Calls_1 rest_1 Pre_1 Post := by
  intro l hfl _ _ p e ha hc hk s m args below hf hA hF happ hP
  obtain ⟨hcalls, hrest, hpre⟩ := hP
  obtain ⟨-, -, -, hnamed, -, -, -, hat⟩ := (Spec.applies_iff hf).mp happ
  obtain ⟨hg, hn⟩ := and_e (Cond.before_iff.mp (show (Jvm.Cond.and given_1 narrow_1).before args s = true from hpre))
  obtain ⟨hg0, hg⟩ := and_e hg
  obtain ⟨ga0, hg⟩ := and_e hg
  obtain ⟨ga1, hg⟩ := and_e hg
  obtain ⟨ga2, hg⟩ := and_e hg
  obtain ⟨ga3, hg⟩ := and_e hg
  obtain ⟨ga4, hg⟩ := and_e hg
  have ga5 := hg
  obtain ⟨w0, w1, w2, w3, w4, w5, rfl⟩ : ∃ w0 w1 w2 w3 w4 w5 : Value, args = #[w0, w1, w2, w3, w4, w5] := by
    have hs : args.size = 6 := by simpa [Cond.value, given_1] using hg0
    obtain ⟨L⟩ := args
    match L, hs with
    | [w0, w1, w2, w3, w4, w5], _ => exact ⟨w0, w1, w2, w3, w4, w5, rfl⟩
  have hw := fun d (hd : d ∈ tables_1) => atoms_spec (ws := Jvm.Cond.code x code maxLocals ret :: tables_1) hat d (List.mem_cons_of_mem _ hd)
  have hfit : Fit s := fun {y c} hc i hi => by
    obtain ⟨ha, rfl⟩ := Array.getElem?_eq_some_iff.mp hc
    have q := List.all_eq_true.mp ((Array.all_eq_true_iff_forall_mem.mp hF) _ (Array.getElem_mem ha)) i (List.mem_range.mpr hi)
    simpa [Array.getElem?_eq_getElem hi] using q
  obtain ⟨hsets, hown0⟩ := atoms_of _ (rest_1_c_eq ▸ (show rest_1_c.before _ s = true from hrest))
  have hr0 := Cond.before_iff.mp hown0
  obtain ⟨i0, ei0⟩ := is_v ga0
  obtain rfl : w0 = (.int i0) := Option.some.inj ei0
  obtain ⟨i1, ei1⟩ := isL_v ga1
  obtain rfl : w1 = (.long i1) := Option.some.inj ei1
  obtain ⟨i2, ei2⟩ := is_v ga2
  obtain rfl : w2 = (.int i2) := Option.some.inj ei2
  obtain ⟨i3, ei3⟩ := is_v ga3
  obtain rfl : w3 = (.int i3) := Option.some.inj ei3
  obtain ⟨i4, ei4⟩ := is_v ga4
  obtain rfl : w4 = (.int i4) := Option.some.inj ei4
  obtain ⟨i5, ei5⟩ := is_v ga5
  obtain rfl : w5 = (.int i5) := Option.some.inj ei5
  obtain ⟨hn0, hn⟩ := and_e hn
  obtain ⟨hn1, hn⟩ := and_e hn
  obtain ⟨hn2, hn⟩ := and_e hn
  obtain ⟨hn3, hn⟩ := and_e hn
  obtain ⟨hn4, hn⟩ := and_e hn
  obtain ⟨hn5, hn⟩ := and_e hn
  obtain ⟨hn6, hn⟩ := and_e hn
  obtain ⟨hn7, hn⟩ := and_e hn
  obtain ⟨hn8, hn⟩ := and_e hn
  obtain ⟨hn9, hn⟩ := and_e hn
  obtain ⟨hn10, hn⟩ := and_e hn
  have hn11 := hn
  obtain ⟨cs, S_CS, hcs⟩ := own_cs (hsets _ (List.mem_of_getElem? (i := 0) rfl)) (hsets _ (List.mem_of_getElem? (i := 1) rfl)) (hsets _ (List.mem_of_getElem? (i := 2) rfl))
  obtain ⟨x_SENT, ev_SENT, S_SENT, E_SENT⟩ := own_sx (hw _ (List.mem_of_getElem? (i := 77) rfl)) (hw _ (List.mem_of_getElem? (i := 78) rfl)) hn0
  obtain ⟨y_SENT, -, F_SENT, -⟩ := own_fx ev_SENT hn1
  obtain ⟨x_JUNK, ev_JUNK, S_JUNK, E_JUNK⟩ := own_sx (hw _ (List.mem_of_getElem? (i := 77) rfl)) (hw _ (List.mem_of_getElem? (i := 87) rfl)) hn2
  have F_JUNK := own_fn ev_JUNK hn3
  obtain ⟨x_DRAFTS, ev_DRAFTS, S_DRAFTS, E_DRAFTS⟩ := own_sx (hw _ (List.mem_of_getElem? (i := 77) rfl)) (hw _ (List.mem_of_getElem? (i := 89) rfl)) hn4
  obtain ⟨y_DRAFTS, -, F_DRAFTS, -⟩ := own_fx ev_DRAFTS hn5
  obtain ⟨x_INBOX, ev_INBOX, S_INBOX, E_INBOX⟩ := own_sx (hw _ (List.mem_of_getElem? (i := 77) rfl)) (hw _ (List.mem_of_getElem? (i := 105) rfl)) hn6
  obtain ⟨y_INBOX, -, F_INBOX, -⟩ := own_fx ev_INBOX hn7
  obtain ⟨x_TRASH, ev_TRASH, S_TRASH, E_TRASH⟩ := own_sx (hw _ (List.mem_of_getElem? (i := 77) rfl)) (hw _ (List.mem_of_getElem? (i := 107) rfl)) hn8
  obtain ⟨y_TRASH, -, F_TRASH, -⟩ := own_fx ev_TRASH hn9
  obtain ⟨x_ARCHIVE, ev_ARCHIVE, S_ARCHIVE, E_ARCHIVE⟩ := own_sx (hw _ (List.mem_of_getElem? (i := 77) rfl)) (hw _ (List.mem_of_getElem? (i := 109) rfl)) hn10
  have F_ARCHIVE := own_fn ev_ARCHIVE hn11
  obtain ⟨n, o, h1, h2, h3, _, L, rfl, ⟨rfl, N⟩, hq⟩ := rm0 l s _ hw tables_1 i0 i1 i2 i3 i4 i5 cs (fun k : Int32 => if k = 1 then x_INBOX else if k = 2 then x_DRAFTS else if k = 3 then x_SENT else if k = 4 then x_TRASH else if k = 5 then x_ARCHIVE else x_JUNK) (fun k : Int32 => if k = 1 then Value.ref y_INBOX else if k = 2 then Value.ref y_DRAFTS else if k = 3 then Value.ref y_SENT else if k = 4 then Value.ref y_TRASH else Value.null) s.heap s.heap.size (Nat.le_refl _) (Old.start s) S_CS hcs S_INBOX S_DRAFTS S_SENT S_TRASH S_ARCHIVE S_JUNK (by intro k hk h0; unfold own_K at hk; rcases hk with rfl | rfl | rfl | rfl | rfl | rfl | rfl <;> first | exact absurd rfl h0 | assumption) (by intro k hk h0; unfold own_K at hk; rcases hk with rfl | rfl | rfl | rfl | rfl | rfl | rfl <;> first | exact absurd rfl h0 | assumption) (by intro k hk; unfold own_K at hk; rcases hk with rfl | rfl | rfl | rfl | rfl | rfl | rfl <;> rfl) (by intro k hk h0; unfold own_K at hk; rcases hk with rfl | rfl | rfl | rfl | rfl | rfl | rfl <;> first | exact absurd rfl h0 | (simp; done) | (simp; decide)) p e ha hc hk s m _ below hf ((Spec.applies_iff_loose hf).mp happ).1 ⟨rfl, State.Warmed39.refl s, rfl⟩ trivial
  refine ⟨n, _, h1, h2, h3, hpost _ _ _ _ _ _ ⟨Cond.after_iff.mpr rfl, Cond.after_iff.mpr (eq_i res_at (Term.int_eval (1)) rfl), trivial⟩ ⟨hq.1, hq.2.1, hq.2.2.1, (hq.2.2.2.sift fun y hy => Or.inr (N y hy)).mono (by decide) (by decide)⟩⟩
theorem main_1_1 : Claimed_1_1 := comes_1 fun _ _ _ _ _ _ h hF => ⟨h.1, hF⟩
theorem main_1_2 : Claimed_1_2 := comes_1 fun _ _ _ _ _ _ h hF => ⟨h.2.1, hF⟩
end Jvm.Pilot.@@N@@
namespace Jvm.Pilot.@@N@@
open Jvm Jvm.ClassFile Sem Op Lib Jvm.Free Jvm.Stand Jvm.Pilot.@@N@@.Jvm.D
/-! MADE BY PROGRAM (witnessworld.py) out of the Statement's table words and the real class files: 24 classes; the members and pool entries that the words name. The judged class is class 1, her method 1. -/
namespace start1
open Jvm.ClassFile
def u (s : String) : CpInfo := .utf8 (stringToUtf16 s)
/-- a pool by its gaps: so many unusable entries, then the entry; so many at the end -/
def gap : Nat → List CpInfo → List CpInfo
  | 0, r => r
  | n + 1, r => .unusable :: gap n r
def poolList (es : List (Nat × CpInfo)) (last : Nat) : List CpInfo := es.foldr (fun e r => gap e.1 (e.2 :: r)) (gap last [])
def pool (es : List (Nat × CpInfo)) (last : Nat) : Array CpInfo := ⟨poolList es last⟩
def fileOf (pool : Array CpInfo) (this : Nat) (attrs : Array Attribute := #[]) (ms : Array MethodInfo := #[]) (fl : Nat := 33) (sup : Nat := 0) (ifs : Array Nat := #[]) (fds : Array FieldInfo := #[]) : ClassFile where
  minorVersion := 0
  majorVersion := 65
  constantPool := pool
  accessFlags := fl
  thisClass := this
  superClass := sup
  interfaces := ifs
  fields := fds
  methods := ms
  attributes := attrs
def plain (name : String) (sup : Option ClassId) : Class where
  name := name
  kind := .ordinary
  loader := none
  accessFlags := 33
  super := sup
  interfaces := #[]
  cf := none
  fields := #[]
  methods := #[]
  instanceTypes := #[]
  staticTypes := #[]
  resolved := #[]
  callSites := []
  init := .initialized
  statics := none
  mirror := none

def pool0 : Array CpInfo := pool [(5, u "<init>"), (0, u "()V"), (1, .class_ 10), (1, u "java/lang/Object")] 113

def k0c0 : Code := { maxStack := 0, maxLocals := 1, code := object_method_1_code, exceptionTable := #[], attributes := #[] }
def k0m0 : Method := { name := "<init>", desc := "()V", sig := { parameters := [], returnType := none }, accessFlags := 1, code := some k0c0 }
/-- java/lang/Object -/
def k0 : Class := { plain "java/lang/Object" none with
  accessFlags := 33
  interfaces := #[]
  cf := some (fileOf pool0 8 #[] #[{ accessFlags := 1, nameIndex := 5, descriptorIndex := 6, attributes := #[] }] 33 0 #[] #[])
  fields := #[]
  methods := #[k0m0]
  instanceTypes := #[]
  staticTypes := #[]
  resolved := Array.replicate 124 none
  statics := none }

def pool1 : Array CpInfo := pool [(2, .class_ 4), (1, u "java/lang/Object"), (0, u "<init>"), (0, u "()V"), (0, .integer 2147483647), (0, .fieldref 9 10), (0, .class_ 11), (0, .nameAndType 12 13), (0, u "com/example/convey/convey/model/MailboxRole"), (0, u "INBOX"), (0, u "Lcom/example/convey/convey/model/MailboxRole;"), (0, .fieldref 9 15), (0, .nameAndType 16 13), (0, u "DRAFTS"), (0, .fieldref 9 18), (0, .nameAndType 19 13), (0, u "SENT"), (0, .fieldref 9 21), (0, .nameAndType 22 13), (0, u "TRASH"), (0, .fieldref 9 24), (0, .nameAndType 25 13), (0, u "ARCHIVE"), (0, .fieldref 9 27), (0, .nameAndType 28 13), (0, u "JUNK"), (0, .class_ 30), (0, u "java/lang/String"), (0, .methodref 29 32), (0, .nameAndType 5 33), (0, u "([C)V"), (0, .methodref 29 35), (0, .nameAndType 36 37), (0, u "valueOf"), (0, u "(C)Ljava/lang/String;"), (0, .class_ 39), (0, u "com/example/convey/convey/model/Mailbox"), (0, .methodref 38 41), (0, .nameAndType 5 42), (0, u "(Ljava/lang/String;Ljava/lang/String;Ljava/lang/String;Lcom/example/convey/convey/model/MailboxRole;JZIIII)V"), (0, .methodref 38 44), (0, .nameAndType 45 46), (0, u "madeWithAccount"), (0, u "()Z"), (0, .class_ 48), (0, u "com/example/convey/convey/model/MailboxMadeWithAccountPinLaw"), (2, u "law"), (0, u "(IJIIII)Z")] 5

def k1m0 : Method := { name := "<init>", desc := "()V", sig := { parameters := [], returnType := none }, accessFlags := 1, code := none }
def k1c1 : Code := { maxStack := 14, maxLocals := 17, code := code, exceptionTable := #[], attributes := #[] }
def k1m1 : Method := { name := "law", desc := "(IJIIII)Z", sig := { parameters := [.int, .long, .int, .int, .int, .int], returnType := some .boolean }, accessFlags := 9, code := some k1c1 }
/-- com/example/convey/convey/model/MailboxMadeWithAccountPinLaw -/
def k1 : Class := { plain "com/example/convey/convey/model/MailboxMadeWithAccountPinLaw" (some 0) with
  accessFlags := 49
  interfaces := #[]
  cf := some (fileOf pool1 47 #[] #[{ accessFlags := 1, nameIndex := 5, descriptorIndex := 6, attributes := #[] }, { accessFlags := 9, nameIndex := 51, descriptorIndex := 52, attributes := #[] }] 49 2 #[] #[])
  fields := #[]
  methods := #[k1m0, k1m1]
  instanceTypes := #[]
  staticTypes := #[]
  resolved := Array.replicate 58 none
  statics := none }

def pool2 : Array CpInfo := pool [(1, .class_ 2), (0, u "java/io/Serializable"), (0, .class_ 4), (0, u "java/lang/Object")] 2

/-- java/io/Serializable -/
def k2 : Class := { plain "java/io/Serializable" (some 0) with
  accessFlags := 1537
  interfaces := #[]
  cf := some (fileOf pool2 1 #[] #[] 1537 3 #[] #[])
  fields := #[]
  methods := #[]
  instanceTypes := #[]
  staticTypes := #[]
  resolved := Array.replicate 7 none
  statics := none }

def pool3 : Array CpInfo := pool [(1, .class_ 2), (0, u "java/lang/Comparable"), (0, .class_ 4), (0, u "java/lang/Object")] 7

/-- java/lang/Comparable -/
def k3 : Class := { plain "java/lang/Comparable" (some 0) with
  accessFlags := 1537
  interfaces := #[]
  cf := some (fileOf pool3 1 #[] #[] 1537 3 #[] #[])
  fields := #[]
  methods := #[]
  instanceTypes := #[]
  staticTypes := #[]
  resolved := Array.replicate 12 none
  statics := none }

def pool4 : Array CpInfo := pool [(2, .class_ 4), (1, u "java/lang/CharSequence"), (42, .class_ 48), (0, u "java/lang/CharSequence$1CodePointIterator"), (10, .class_ 60), (0, u "java/lang/CharSequence$1CharIterator"), (5, .class_ 67), (0, u "java/lang/Object")] 63

/-- java/lang/CharSequence -/
def k4 : Class := { plain "java/lang/CharSequence" (some 0) with
  accessFlags := 1537
  interfaces := #[]
  cf := some (fileOf pool4 2 #[.nestMembers #[47, 59]] #[] 1537 66 #[] #[])
  fields := #[]
  methods := #[]
  instanceTypes := #[]
  staticTypes := #[]
  resolved := Array.replicate 131 none
  statics := none }

def pool5 : Array CpInfo := pool [(1, .class_ 2), (0, u "java/lang/constant/Constable"), (0, .class_ 4), (0, u "java/lang/Object")] 6

/-- java/lang/constant/Constable -/
def k5 : Class := { plain "java/lang/constant/Constable" (some 0) with
  accessFlags := 1537
  interfaces := #[]
  cf := some (fileOf pool5 1 #[] #[] 1537 3 #[] #[])
  fields := #[]
  methods := #[]
  instanceTypes := #[]
  staticTypes := #[]
  resolved := Array.replicate 11 none
  statics := none }

def pool6 : Array CpInfo := pool [(1, .class_ 2), (0, u "java/lang/constant/ConstantDesc"), (0, .class_ 4), (0, u "java/lang/Object")] 32

/-- java/lang/constant/ConstantDesc -/
def k6 : Class := { plain "java/lang/constant/ConstantDesc" (some 0) with
  accessFlags := 1537
  interfaces := #[]
  cf := some (fileOf pool6 1 #[] #[] 1537 3 #[] #[])
  fields := #[]
  methods := #[]
  instanceTypes := #[]
  staticTypes := #[]
  resolved := Array.replicate 37 none
  statics := none }

def pool7 : Array CpInfo := pool [(1, .methodref 2 3), (0, .class_ 4), (0, .nameAndType 5 6), (0, u "java/lang/Object"), (0, u "<init>"), (0, u "()V"), (2, .fieldref 10 11), (0, .class_ 12), (0, .nameAndType 13 14), (0, u "java/lang/String"), (0, u "value"), (0, u "[B"), (0, .fieldref 10 16), (0, .nameAndType 17 18), (0, u "coder"), (0, u "B"), (2, u "hash"), (0, u "I"), (2, u "hashIsZero"), (0, u "Z"), (0, .methodref 10 28), (0, .nameAndType 5 29), (0, u "([CIILjava/lang/Void;)V"), (8, .fieldref 10 39), (0, .nameAndType 40 26), (0, u "COMPACT_STRINGS"), (1, .class_ 44), (1, u "java/lang/StringUTF16"), (0, u "compress"), (1, .methodref 42 48), (0, .nameAndType 49 50), (0, u "coderFromArrayLen"), (0, u "([BI)B"), (2, u "toBytes"), (53, .class_ 109), (1, u "java/lang/StringLatin1"), (67, .methodref 42 178), (0, .nameAndType 45 179), (0, u "([CII)[B"), (29, .methodref 10 210), (0, .nameAndType 5 211), (0, u "([BB)V"), (157, u "(C)Z"), (205, .class_ 576), (0, u "java/lang/CharSequence"), (22, u "CASE_INSENSITIVE_ORDER"), (0, u "Ljava/util/Comparator;"), (181, u "valueOf"), (0, u "(C)Ljava/lang/String;"), (226, u "([C)V"), (4, .methodref 107 1016), (0, .nameAndType 1017 369), (0, u "canEncode"), (0, .methodref 107 1019), (0, .nameAndType 53 1020), (0, u "(C)[B"), (80, u "serialPersistentFields"), (0, u "[Ljava/io/ObjectStreamField;"), (0, .class_ 1104), (0, u "java/lang/String$CaseInsensitiveComparator"), (1, .class_ 1107), (0, u "java/io/Serializable"), (0, .class_ 1109), (0, u "java/lang/Comparable"), (0, .class_ 1111), (0, u "java/lang/constant/Constable"), (0, .class_ 1113), (0, u "java/lang/constant/ConstantDesc"), (2, u "serialVersionUID"), (0, u "J"), (3, u "REPL"), (0, u "C"), (2, u "LATIN1"), (1, u "UTF16")] 323

def k7m0 : Method := { name := "<init>", desc := "()V", sig := { parameters := [], returnType := none }, accessFlags := 1, code := none }
def k7c1 : Code := { maxStack := 5, maxLocals := 2, code := jdk_42_method_3_code, exceptionTable := #[], attributes := #[] }
def k7m1 : Method := { name := "<init>", desc := "([C)V", sig := { parameters := [(.array .char)], returnType := none }, accessFlags := 1, code := some k7c1 }
def k7c2 : Code := { maxStack := 4, maxLocals := 1, code := jdk_42_method_139_code, exceptionTable := #[], attributes := #[] }
def k7m2 : Method := { name := "valueOf", desc := "(C)Ljava/lang/String;", sig := { parameters := [.char], returnType := some (.object "java/lang/String") }, accessFlags := 9, code := some k7c2 }
def k7c3 : Code := { maxStack := 4, maxLocals := 6, code := jdk_42_method_149_code, exceptionTable := #[], attributes := #[] }
def k7m3 : Method := { name := "<init>", desc := "([CIILjava/lang/Void;)V", sig := { parameters := [(.array .char), .int, .int, (.object "java/lang/Void")], returnType := none }, accessFlags := 2, code := some k7c3 }
def k7c4 : Code := { maxStack := 2, maxLocals := 3, code := jdk_42_method_151_code, exceptionTable := #[], attributes := #[] }
def k7m4 : Method := { name := "<init>", desc := "([BB)V", sig := { parameters := [(.array .byte), .byte], returnType := none }, accessFlags := 0, code := some k7c4 }
/-- java/lang/String -/
def k7 : Class := { plain "java/lang/String" (some 0) with
  accessFlags := 49
  interfaces := #[2, 3, 4, 5, 6]
  cf := some (fileOf pool7 10 #[.nestMembers #[1103]] #[{ accessFlags := 1, nameIndex := 5, descriptorIndex := 6, attributes := #[] }, { accessFlags := 1, nameIndex := 5, descriptorIndex := 1010, attributes := #[] }, { accessFlags := 9, nameIndex := 782, descriptorIndex := 783, attributes := #[] }, { accessFlags := 2, nameIndex := 5, descriptorIndex := 29, attributes := #[] }, { accessFlags := 0, nameIndex := 5, descriptorIndex := 211, attributes := #[] }] 49 2 #[1106, 1108, 575, 1110, 1112] #[{ accessFlags := 18, nameIndex := 13, descriptorIndex := 14, attributes := #[] }, { accessFlags := 18, nameIndex := 17, descriptorIndex := 18, attributes := #[] }, { accessFlags := 2, nameIndex := 21, descriptorIndex := 22, attributes := #[] }, { accessFlags := 2, nameIndex := 25, descriptorIndex := 26, attributes := #[] }, { accessFlags := 26, nameIndex := 1116, descriptorIndex := 1117, attributes := #[] }, { accessFlags := 24, nameIndex := 40, descriptorIndex := 26, attributes := #[] }, { accessFlags := 26, nameIndex := 1101, descriptorIndex := 1102, attributes := #[] }, { accessFlags := 26, nameIndex := 1121, descriptorIndex := 1122, attributes := #[] }, { accessFlags := 25, nameIndex := 599, descriptorIndex := 600, attributes := #[] }, { accessFlags := 24, nameIndex := 1125, descriptorIndex := 18, attributes := #[] }, { accessFlags := 24, nameIndex := 1127, descriptorIndex := 18, attributes := #[] }])
  fields := #[{ name := "value", type := (.array .byte), accessFlags := 18, slot := 0, constantValue := 0 }, { name := "coder", type := .byte, accessFlags := 18, slot := 1, constantValue := 0 }, { name := "hash", type := .int, accessFlags := 2, slot := 2, constantValue := 0 }, { name := "hashIsZero", type := .boolean, accessFlags := 2, slot := 3, constantValue := 0 }, { name := "serialVersionUID", type := .long, accessFlags := 26, slot := 0, constantValue := 0 }, { name := "COMPACT_STRINGS", type := .boolean, accessFlags := 24, slot := 1, constantValue := 0 }, { name := "serialPersistentFields", type := (.array (.object "java/io/ObjectStreamField")), accessFlags := 26, slot := 2, constantValue := 0 }, { name := "REPL", type := .char, accessFlags := 26, slot := 3, constantValue := 0 }, { name := "CASE_INSENSITIVE_ORDER", type := (.object "java/util/Comparator"), accessFlags := 25, slot := 4, constantValue := 0 }, { name := "LATIN1", type := .byte, accessFlags := 24, slot := 5, constantValue := 0 }, { name := "UTF16", type := .byte, accessFlags := 24, slot := 6, constantValue := 0 }]
  methods := #[k7m0, k7m1, k7m2, k7m3, k7m4]
  instanceTypes := #[(.array .byte), .byte, .int, .boolean]
  staticTypes := #[.long, .boolean, (.array (.object "java/io/ObjectStreamField")), .char, (.object "java/util/Comparator"), .byte, .byte]
  resolved := Array.replicate 1451 none
  statics := some 0 }

def pool8 : Array CpInfo := pool [(6, .class_ 8), (1, u "java/lang/Object"), (0, u "<init>"), (0, u "()V"), (1, .class_ 14), (1, u "java/lang/StringUTF16"), (31, u "$assertionsDisabled"), (0, u "Z"), (13, u "HI_BYTE_SHIFT"), (0, u "I"), (2, u "LO_BYTE_SHIFT"), (49, .methodref 12 116), (0, .nameAndType 117 118), (0, u "compress"), (0, u "([CI[BII)I"), (3, u "([CII)[B"), (138, u "coderFromArrayLen"), (0, u "([BI)B"), (106, .class_ 371), (1, u "java/lang/StringUTF16$LinesSpliterator"), (58, u "MAX_LENGTH"), (196, .class_ 628), (0, u "java/lang/StringUTF16$CodePointsSpliterator"), (0, .class_ 630), (0, u "java/lang/StringUTF16$CharsSpliterator")] 4

def k8m0 : Method := { name := "<init>", desc := "()V", sig := { parameters := [], returnType := none }, accessFlags := 0, code := none }
def k8c1 : Code := { maxStack := 2, maxLocals := 2, code := jdk_52_method_15_code, exceptionTable := #[], attributes := #[] }
def k8m1 : Method := { name := "coderFromArrayLen", desc := "([BI)B", sig := { parameters := [(.array .byte), .int], returnType := some .byte }, accessFlags := 8, code := some k8c1 }
def k8c2 : Code := { maxStack := 5, maxLocals := 6, code := jdk_52_method_16_code, exceptionTable := #[], attributes := #[] }
def k8m2 : Method := { name := "compress", desc := "([CII)[B", sig := { parameters := [(.array .char), .int, .int], returnType := some (.array .byte) }, accessFlags := 9, code := some k8c2 }
def k8c3 : Code := { maxStack := 3, maxLocals := 7, code := jdk_52_method_21_code, exceptionTable := #[], attributes := #[] }
def k8m3 : Method := { name := "compress", desc := "([CI[BII)I", sig := { parameters := [(.array .char), .int, (.array .byte), .int, .int], returnType := some .int }, accessFlags := 9, code := some k8c3 }
/-- java/lang/StringUTF16 -/
def k8 : Class := { plain "java/lang/StringUTF16" (some 0) with
  accessFlags := 48
  interfaces := #[]
  cf := some (fileOf pool8 12 #[.nestMembers #[627, 629, 369]] #[{ accessFlags := 0, nameIndex := 9, descriptorIndex := 10, attributes := #[] }, { accessFlags := 8, nameIndex := 261, descriptorIndex := 262, attributes := #[] }, { accessFlags := 9, nameIndex := 117, descriptorIndex := 122, attributes := #[] }, { accessFlags := 9, nameIndex := 117, descriptorIndex := 118, attributes := #[] }] 48 6 #[] #[{ accessFlags := 26, nameIndex := 61, descriptorIndex := 62, attributes := #[] }, { accessFlags := 26, nameIndex := 65, descriptorIndex := 62, attributes := #[] }, { accessFlags := 24, nameIndex := 430, descriptorIndex := 62, attributes := #[] }, { accessFlags := 4120, nameIndex := 46, descriptorIndex := 47, attributes := #[] }])
  fields := #[{ name := "HI_BYTE_SHIFT", type := .int, accessFlags := 26, slot := 0, constantValue := 0 }, { name := "LO_BYTE_SHIFT", type := .int, accessFlags := 26, slot := 1, constantValue := 0 }, { name := "MAX_LENGTH", type := .int, accessFlags := 24, slot := 2, constantValue := 0 }, { name := "$assertionsDisabled", type := .boolean, accessFlags := 4120, slot := 3, constantValue := 0 }]
  methods := #[k8m0, k8m1, k8m2, k8m3]
  instanceTypes := #[]
  staticTypes := #[.int, .int, .int, .boolean]
  resolved := Array.replicate 635 none
  statics := none }

def pool9 : Array CpInfo := pool [(1, .methodref 2 3), (0, .class_ 4), (0, .nameAndType 5 6), (0, u "java/lang/Object"), (0, u "<init>"), (0, u "()V"), (0, .class_ 8), (0, u "java/lang/Record")] 13

def k9c0 : Code := { maxStack := 1, maxLocals := 1, code := jdk_30_method_1_code, exceptionTable := #[], attributes := #[] }
def k9m0 : Method := { name := "<init>", desc := "()V", sig := { parameters := [], returnType := none }, accessFlags := 4, code := some k9c0 }
/-- java/lang/Record -/
def k9 : Class := { plain "java/lang/Record" (some 0) with
  accessFlags := 1057
  interfaces := #[]
  cf := some (fileOf pool9 7 #[] #[{ accessFlags := 4, nameIndex := 5, descriptorIndex := 6, attributes := #[] }] 1057 2 #[] #[])
  fields := #[]
  methods := #[k9m0]
  instanceTypes := #[]
  staticTypes := #[]
  resolved := Array.replicate 22 none
  statics := none }

def pool10 : Array CpInfo := pool [(1, .methodref 2 3), (0, .class_ 4), (0, .nameAndType 5 6), (0, u "java/lang/Record"), (0, u "<init>"), (0, u "()V"), (0, .string 8), (0, u "id"), (0, .methodref 10 11), (0, .class_ 12), (0, .nameAndType 13 14), (0, u "java/util/Objects"), (0, u "requireNonNull"), (0, u "(Ljava/lang/Object;Ljava/lang/String;)Ljava/lang/Object;"), (0, .string 16), (0, u "name"), (0, .fieldref 18 19), (0, .class_ 20), (0, .nameAndType 8 21), (0, u "com/example/convey/convey/model/Mailbox"), (0, u "Ljava/lang/String;"), (0, .fieldref 18 23), (0, .nameAndType 24 21), (0, u "parentId"), (0, .fieldref 18 26), (0, .nameAndType 16 21), (0, .fieldref 18 28), (0, .nameAndType 29 30), (0, u "role"), (0, u "Lcom/example/convey/convey/model/MailboxRole;"), (0, .fieldref 18 32), (0, .nameAndType 33 34), (0, u "sortOrder"), (0, u "J"), (0, .fieldref 18 36), (0, .nameAndType 37 38), (0, u "subscribed"), (0, u "Z"), (0, .fieldref 18 40), (0, .nameAndType 41 42), (0, u "totalEmails"), (0, u "I"), (0, .fieldref 18 44), (0, .nameAndType 45 42), (0, u "unreadEmails"), (0, .fieldref 18 47), (0, .nameAndType 48 42), (0, u "totalThreads"), (0, .fieldref 18 50), (0, .nameAndType 51 42), (0, u "unreadThreads"), (0, .methodref 53 54), (0, .class_ 55), (0, .nameAndType 56 57), (0, u "com/example/convey/convey/model/MailboxRole"), (0, u "madeWithAccount"), (0, u "()Z"), (12, u "(Ljava/lang/String;Ljava/lang/String;Ljava/lang/String;Lcom/example/convey/convey/model/MailboxRole;JZIIII)V")] 38

def k10c0 : Code := { maxStack := 3, maxLocals := 12, code := prog_69_method_1_code, exceptionTable := #[], attributes := #[] }
def k10m0 : Method := { name := "<init>", desc := "(Ljava/lang/String;Ljava/lang/String;Ljava/lang/String;Lcom/example/convey/convey/model/MailboxRole;JZIIII)V", sig := { parameters := [(.object "java/lang/String"), (.object "java/lang/String"), (.object "java/lang/String"), (.object "com/example/convey/convey/model/MailboxRole"), .long, .boolean, .int, .int, .int, .int], returnType := none }, accessFlags := 1, code := some k10c0 }
def k10c1 : Code := { maxStack := 1, maxLocals := 1, code := prog_69_method_2_code, exceptionTable := #[], attributes := #[] }
def k10m1 : Method := { name := "madeWithAccount", desc := "()Z", sig := { parameters := [], returnType := some .boolean }, accessFlags := 1, code := some k10c1 }
/-- com/example/convey/convey/model/Mailbox -/
def k10 : Class := { plain "com/example/convey/convey/model/Mailbox" (some 9) with
  accessFlags := 49
  interfaces := #[]
  cf := some (fileOf pool10 18 #[] #[{ accessFlags := 1, nameIndex := 5, descriptorIndex := 70, attributes := #[] }, { accessFlags := 1, nameIndex := 56, descriptorIndex := 57, attributes := #[] }] 49 2 #[] #[{ accessFlags := 18, nameIndex := 8, descriptorIndex := 21, attributes := #[] }, { accessFlags := 18, nameIndex := 24, descriptorIndex := 21, attributes := #[] }, { accessFlags := 18, nameIndex := 16, descriptorIndex := 21, attributes := #[] }, { accessFlags := 18, nameIndex := 29, descriptorIndex := 30, attributes := #[] }, { accessFlags := 18, nameIndex := 33, descriptorIndex := 34, attributes := #[] }, { accessFlags := 18, nameIndex := 37, descriptorIndex := 38, attributes := #[] }, { accessFlags := 18, nameIndex := 41, descriptorIndex := 42, attributes := #[] }, { accessFlags := 18, nameIndex := 45, descriptorIndex := 42, attributes := #[] }, { accessFlags := 18, nameIndex := 48, descriptorIndex := 42, attributes := #[] }, { accessFlags := 18, nameIndex := 51, descriptorIndex := 42, attributes := #[] }])
  fields := #[{ name := "id", type := (.object "java/lang/String"), accessFlags := 18, slot := 0, constantValue := 0 }, { name := "parentId", type := (.object "java/lang/String"), accessFlags := 18, slot := 1, constantValue := 0 }, { name := "name", type := (.object "java/lang/String"), accessFlags := 18, slot := 2, constantValue := 0 }, { name := "role", type := (.object "com/example/convey/convey/model/MailboxRole"), accessFlags := 18, slot := 3, constantValue := 0 }, { name := "sortOrder", type := .long, accessFlags := 18, slot := 4, constantValue := 0 }, { name := "subscribed", type := .boolean, accessFlags := 18, slot := 5, constantValue := 0 }, { name := "totalEmails", type := .int, accessFlags := 18, slot := 6, constantValue := 0 }, { name := "unreadEmails", type := .int, accessFlags := 18, slot := 7, constantValue := 0 }, { name := "totalThreads", type := .int, accessFlags := 18, slot := 8, constantValue := 0 }, { name := "unreadThreads", type := .int, accessFlags := 18, slot := 9, constantValue := 0 }]
  methods := #[k10m0, k10m1]
  instanceTypes := #[(.object "java/lang/String"), (.object "java/lang/String"), (.object "java/lang/String"), (.object "com/example/convey/convey/model/MailboxRole"), .long, .boolean, .int, .int, .int, .int]
  staticTypes := #[]
  resolved := Array.replicate 109 none
  statics := none }

def pool11 : Array CpInfo := pool [(2, .class_ 4), (1, u "java/lang/Object"), (0, u "<init>"), (0, u "()V"), (35, .class_ 44), (1, u "java/util/Objects"), (0, u "requireNonNull"), (48, u "(Ljava/lang/Object;Ljava/lang/String;)Ljava/lang/Object;")] 89

def k11m0 : Method := { name := "<init>", desc := "()V", sig := { parameters := [], returnType := none }, accessFlags := 2, code := none }
def k11c1 : Code := { maxStack := 3, maxLocals := 2, code := jdk_31_method_11_code, exceptionTable := #[], attributes := #[] }
def k11m1 : Method := { name := "requireNonNull", desc := "(Ljava/lang/Object;Ljava/lang/String;)Ljava/lang/Object;", sig := { parameters := [(.object "java/lang/Object"), (.object "java/lang/String")], returnType := some (.object "java/lang/Object") }, accessFlags := 9, code := some k11c1 }
/-- java/util/Objects -/
def k11 : Class := { plain "java/util/Objects" (some 0) with
  accessFlags := 49
  interfaces := #[]
  cf := some (fileOf pool11 42 #[] #[{ accessFlags := 2, nameIndex := 5, descriptorIndex := 6, attributes := #[] }, { accessFlags := 9, nameIndex := 45, descriptorIndex := 94, attributes := #[] }] 49 2 #[] #[])
  fields := #[]
  methods := #[k11m0, k11m1]
  instanceTypes := #[]
  staticTypes := #[]
  resolved := Array.replicate 184 none
  statics := none }

def pool12 : Array CpInfo := pool [(2, .class_ 4), (1, u "java/lang/Enum"), (0, u "name"), (0, u "Ljava/lang/String;"), (2, u "ordinal"), (0, u "I"), (1, .class_ 14), (1, u "java/lang/Object"), (4, u "hash"), (86, .class_ 108), (1, u "java/lang/Enum$EnumDesc"), (2, .class_ 112), (0, u "java/lang/constant/Constable"), (0, .class_ 114), (0, u "java/lang/Comparable"), (0, .class_ 116), (0, u "java/io/Serializable")] 87

/-- java/lang/Enum -/
def k12 : Class := { plain "java/lang/Enum" (some 0) with
  accessFlags := 1057
  interfaces := #[5, 3, 2]
  cf := some (fileOf pool12 2 #[.nestMembers #[106]] #[] 1057 12 #[111, 113, 115] #[{ accessFlags := 18, nameIndex := 5, descriptorIndex := 6, attributes := #[] }, { accessFlags := 18, nameIndex := 9, descriptorIndex := 10, attributes := #[] }, { accessFlags := 2, nameIndex := 19, descriptorIndex := 10, attributes := #[] }])
  fields := #[{ name := "name", type := (.object "java/lang/String"), accessFlags := 18, slot := 0, constantValue := 0 }, { name := "ordinal", type := .int, accessFlags := 18, slot := 1, constantValue := 0 }, { name := "hash", type := .int, accessFlags := 2, slot := 2, constantValue := 0 }]
  methods := #[]
  instanceTypes := #[(.object "java/lang/String"), .int, .int]
  staticTypes := #[]
  resolved := Array.replicate 204 none
  statics := none }

def pool13 : Array CpInfo := pool [(1, .class_ 2), (0, u "com/example/convey/convey/model/MailboxRole"), (2, u "INBOX"), (0, u "Lcom/example/convey/convey/model/MailboxRole;"), (2, u "DRAFTS"), (2, u "SENT"), (2, u "TRASH"), (2, u "ARCHIVE"), (2, u "JUNK"), (2, u "$VALUES"), (0, u "[Lcom/example/convey/convey/model/MailboxRole;"), (6, .class_ 34), (1, u "java/lang/Enum"), (8, u "jmapName"), (0, u "Ljava/lang/String;"), (0, .fieldref 1 46), (0, .nameAndType 47 44), (0, u "defaultMailboxName"), (67, u "madeWithAccount"), (0, u "()Z")] 24

def k13c0 : Code := { maxStack := 1, maxLocals := 1, code := prog_73_method_5_code, exceptionTable := #[], attributes := #[] }
def k13m0 : Method := { name := "madeWithAccount", desc := "()Z", sig := { parameters := [], returnType := some .boolean }, accessFlags := 1, code := some k13c0 }
/-- com/example/convey/convey/model/MailboxRole -/
def k13 : Class := { plain "com/example/convey/convey/model/MailboxRole" (some 12) with
  accessFlags := 16433
  interfaces := #[]
  cf := some (fileOf pool13 1 #[] #[{ accessFlags := 1, nameIndex := 115, descriptorIndex := 116, attributes := #[] }] 16433 32 #[] #[{ accessFlags := 16409, nameIndex := 5, descriptorIndex := 6, attributes := #[] }, { accessFlags := 16409, nameIndex := 9, descriptorIndex := 6, attributes := #[] }, { accessFlags := 16409, nameIndex := 12, descriptorIndex := 6, attributes := #[] }, { accessFlags := 16409, nameIndex := 15, descriptorIndex := 6, attributes := #[] }, { accessFlags := 16409, nameIndex := 18, descriptorIndex := 6, attributes := #[] }, { accessFlags := 16409, nameIndex := 21, descriptorIndex := 6, attributes := #[] }, { accessFlags := 18, nameIndex := 43, descriptorIndex := 44, attributes := #[] }, { accessFlags := 18, nameIndex := 47, descriptorIndex := 44, attributes := #[] }, { accessFlags := 4122, nameIndex := 24, descriptorIndex := 25, attributes := #[] }])
  fields := #[{ name := "INBOX", type := (.object "com/example/convey/convey/model/MailboxRole"), accessFlags := 16409, slot := 0, constantValue := 0 }, { name := "DRAFTS", type := (.object "com/example/convey/convey/model/MailboxRole"), accessFlags := 16409, slot := 1, constantValue := 0 }, { name := "SENT", type := (.object "com/example/convey/convey/model/MailboxRole"), accessFlags := 16409, slot := 2, constantValue := 0 }, { name := "TRASH", type := (.object "com/example/convey/convey/model/MailboxRole"), accessFlags := 16409, slot := 3, constantValue := 0 }, { name := "ARCHIVE", type := (.object "com/example/convey/convey/model/MailboxRole"), accessFlags := 16409, slot := 4, constantValue := 0 }, { name := "JUNK", type := (.object "com/example/convey/convey/model/MailboxRole"), accessFlags := 16409, slot := 5, constantValue := 0 }, { name := "jmapName", type := (.object "java/lang/String"), accessFlags := 18, slot := 3, constantValue := 0 }, { name := "defaultMailboxName", type := (.object "java/lang/String"), accessFlags := 18, slot := 4, constantValue := 0 }, { name := "$VALUES", type := (.array (.object "com/example/convey/convey/model/MailboxRole")), accessFlags := 4122, slot := 6, constantValue := 0 }]
  methods := #[k13m0]
  instanceTypes := #[(.object "java/lang/String"), .int, .int, (.object "java/lang/String"), (.object "java/lang/String")]
  staticTypes := #[(.object "com/example/convey/convey/model/MailboxRole"), (.object "com/example/convey/convey/model/MailboxRole"), (.object "com/example/convey/convey/model/MailboxRole"), (.object "com/example/convey/convey/model/MailboxRole"), (.object "com/example/convey/convey/model/MailboxRole"), (.object "com/example/convey/convey/model/MailboxRole"), (.array (.object "com/example/convey/convey/model/MailboxRole"))]
  resolved := Array.replicate 141 none
  statics := some 1 }

def pool14 : Array CpInfo := pool [(4, .class_ 6), (1, u "java/lang/Object"), (0, u "<init>"), (0, u "()V"), (5, .class_ 16), (1, u "java/lang/StringLatin1"), (73, u "canEncode"), (14, u "(C)Z"), (15, u "$assertionsDisabled"), (0, u "Z"), (98, .class_ 223), (1, u "java/lang/StringLatin1$LinesSpliterator"), (156, u "toBytes"), (1, u "(C)[B"), (7, .class_ 391), (0, u "java/lang/StringLatin1$CharsSpliterator")] 3

def k14m0 : Method := { name := "<init>", desc := "()V", sig := { parameters := [], returnType := none }, accessFlags := 0, code := none }
def k14c1 : Code := { maxStack := 2, maxLocals := 1, code := jdk_43_method_3_code, exceptionTable := #[], attributes := #[] }
def k14m1 : Method := { name := "canEncode", desc := "(C)Z", sig := { parameters := [.char], returnType := some .boolean }, accessFlags := 9, code := some k14c1 }
def k14c2 : Code := { maxStack := 4, maxLocals := 1, code := jdk_43_method_46_code, exceptionTable := #[], attributes := #[] }
def k14m2 : Method := { name := "toBytes", desc := "(C)[B", sig := { parameters := [.char], returnType := some (.array .byte) }, accessFlags := 9, code := some k14c2 }
/-- java/lang/StringLatin1 -/
def k14 : Class := { plain "java/lang/StringLatin1" (some 0) with
  accessFlags := 48
  interfaces := #[]
  cf := some (fileOf pool14 14 #[.nestMembers #[390, 221]] #[{ accessFlags := 0, nameIndex := 7, descriptorIndex := 8, attributes := #[] }, { accessFlags := 9, nameIndex := 90, descriptorIndex := 105, attributes := #[] }, { accessFlags := 9, nameIndex := 380, descriptorIndex := 382, attributes := #[] }] 48 4 #[] #[{ accessFlags := 4120, nameIndex := 121, descriptorIndex := 122, attributes := #[] }])
  fields := #[{ name := "$assertionsDisabled", type := .boolean, accessFlags := 4120, slot := 0, constantValue := 0 }]
  methods := #[k14m0, k14m1, k14m2]
  instanceTypes := #[]
  staticTypes := #[.boolean]
  resolved := Array.replicate 395 none
  statics := none }

def pool15 : Array CpInfo := pool [(2, .class_ 4), (1, u "java/lang/Object"), (0, u "<init>"), (0, u "()V"), (17, .class_ 26), (1, u "jdk/internal/util/Preconditions"), (28, .class_ 56), (0, u "jdk/internal/util/Preconditions$4"), (57, .class_ 115), (0, u "jdk/internal/util/Preconditions$1"), (7, u "SIOOBE_FORMATTER"), (0, u "Ljava/util/function/BiFunction;"), (0, .class_ 126), (0, u "jdk/internal/util/Preconditions$2"), (3, u "AIOOBE_FORMATTER"), (0, .class_ 132), (0, u "jdk/internal/util/Preconditions$3"), (3, u "IOOBE_FORMATTER")] 57

def k15m0 : Method := { name := "<init>", desc := "()V", sig := { parameters := [], returnType := none }, accessFlags := 1, code := none }
/-- jdk/internal/util/Preconditions -/
def k15 : Class := { plain "jdk/internal/util/Preconditions" (some 0) with
  accessFlags := 33
  interfaces := #[]
  cf := some (fileOf pool15 24 #[.nestMembers #[55, 131, 125, 114]] #[{ accessFlags := 1, nameIndex := 5, descriptorIndex := 6, attributes := #[] }] 33 2 #[] #[{ accessFlags := 25, nameIndex := 123, descriptorIndex := 124, attributes := #[] }, { accessFlags := 25, nameIndex := 130, descriptorIndex := 124, attributes := #[] }, { accessFlags := 25, nameIndex := 136, descriptorIndex := 124, attributes := #[] }])
  fields := #[{ name := "SIOOBE_FORMATTER", type := (.object "java/util/function/BiFunction"), accessFlags := 25, slot := 0, constantValue := 0 }, { name := "AIOOBE_FORMATTER", type := (.object "java/util/function/BiFunction"), accessFlags := 25, slot := 1, constantValue := 0 }, { name := "IOOBE_FORMATTER", type := (.object "java/util/function/BiFunction"), accessFlags := 25, slot := 2, constantValue := 0 }]
  methods := #[k15m0]
  instanceTypes := #[]
  staticTypes := #[(.object "java/util/function/BiFunction"), (.object "java/util/function/BiFunction"), (.object "java/util/function/BiFunction")]
  resolved := Array.replicate 194 none
  statics := some 2 }

def pool16 : Array CpInfo := pool [(9, u "<init>"), (6, .class_ 18), (1, u "java/lang/Object"), (0, u "()V"), (1, .class_ 23), (1, u "jdk/internal/util/ArraysSupport"), (0, u "LOG2_ARRAY_LONG_INDEX_SCALE"), (0, u "I"), (2, u "U"), (0, u "Ljdk/internal/misc/Unsafe;"), (8, u "BIG_ENDIAN"), (0, u "Z"), (8, u "LOG2_BYTE_BIT_SIZE"), (4, u "LOG2_ARRAY_INT_INDEX_SCALE"), (54, u "JLA"), (0, u "Ljdk/internal/access/JavaLangAccess;"), (11, u "LOG2_ARRAY_BOOLEAN_INDEX_SCALE"), (9, u "LOG2_ARRAY_BYTE_INDEX_SCALE"), (5, u "LOG2_ARRAY_CHAR_INDEX_SCALE"), (5, u "LOG2_ARRAY_SHORT_INDEX_SCALE"), (18, u "LOG2_ARRAY_FLOAT_INDEX_SCALE"), (24, u "LOG2_ARRAY_DOUBLE_INDEX_SCALE"), (89, u "T_BOOLEAN"), (2, u "T_CHAR"), (1, u "T_FLOAT"), (1, u "T_DOUBLE"), (1, u "T_BYTE"), (1, u "T_SHORT"), (1, u "T_INT"), (1, u "T_LONG"), (1, u "SOFT_MAX_ARRAY_LENGTH")] 83

def k16m0 : Method := { name := "<init>", desc := "()V", sig := { parameters := [], returnType := none }, accessFlags := 2, code := none }
/-- jdk/internal/util/ArraysSupport -/
def k16 : Class := { plain "jdk/internal/util/ArraysSupport" (some 0) with
  accessFlags := 33
  interfaces := #[]
  cf := some (fileOf pool16 21 #[] #[{ accessFlags := 2, nameIndex := 9, descriptorIndex := 19, attributes := #[] }] 33 16 #[] #[{ accessFlags := 24, nameIndex := 28, descriptorIndex := 29, attributes := #[] }, { accessFlags := 26, nameIndex := 38, descriptorIndex := 39, attributes := #[] }, { accessFlags := 25, nameIndex := 121, descriptorIndex := 25, attributes := #[] }, { accessFlags := 25, nameIndex := 131, descriptorIndex := 25, attributes := #[] }, { accessFlags := 25, nameIndex := 137, descriptorIndex := 25, attributes := #[] }, { accessFlags := 25, nameIndex := 143, descriptorIndex := 25, attributes := #[] }, { accessFlags := 25, nameIndex := 53, descriptorIndex := 25, attributes := #[] }, { accessFlags := 25, nameIndex := 24, descriptorIndex := 25, attributes := #[] }, { accessFlags := 25, nameIndex := 162, descriptorIndex := 25, attributes := #[] }, { accessFlags := 25, nameIndex := 187, descriptorIndex := 25, attributes := #[] }, { accessFlags := 26, nameIndex := 48, descriptorIndex := 25, attributes := #[] }, { accessFlags := 25, nameIndex := 277, descriptorIndex := 25, attributes := #[] }, { accessFlags := 25, nameIndex := 280, descriptorIndex := 25, attributes := #[] }, { accessFlags := 25, nameIndex := 282, descriptorIndex := 25, attributes := #[] }, { accessFlags := 25, nameIndex := 284, descriptorIndex := 25, attributes := #[] }, { accessFlags := 25, nameIndex := 286, descriptorIndex := 25, attributes := #[] }, { accessFlags := 25, nameIndex := 288, descriptorIndex := 25, attributes := #[] }, { accessFlags := 25, nameIndex := 290, descriptorIndex := 25, attributes := #[] }, { accessFlags := 25, nameIndex := 292, descriptorIndex := 25, attributes := #[] }, { accessFlags := 26, nameIndex := 108, descriptorIndex := 109, attributes := #[] }, { accessFlags := 25, nameIndex := 294, descriptorIndex := 25, attributes := #[] }])
  fields := #[{ name := "U", type := (.object "jdk/internal/misc/Unsafe"), accessFlags := 24, slot := 0, constantValue := 0 }, { name := "BIG_ENDIAN", type := .boolean, accessFlags := 26, slot := 1, constantValue := 0 }, { name := "LOG2_ARRAY_BOOLEAN_INDEX_SCALE", type := .int, accessFlags := 25, slot := 2, constantValue := 0 }, { name := "LOG2_ARRAY_BYTE_INDEX_SCALE", type := .int, accessFlags := 25, slot := 3, constantValue := 0 }, { name := "LOG2_ARRAY_CHAR_INDEX_SCALE", type := .int, accessFlags := 25, slot := 4, constantValue := 0 }, { name := "LOG2_ARRAY_SHORT_INDEX_SCALE", type := .int, accessFlags := 25, slot := 5, constantValue := 0 }, { name := "LOG2_ARRAY_INT_INDEX_SCALE", type := .int, accessFlags := 25, slot := 6, constantValue := 0 }, { name := "LOG2_ARRAY_LONG_INDEX_SCALE", type := .int, accessFlags := 25, slot := 7, constantValue := 0 }, { name := "LOG2_ARRAY_FLOAT_INDEX_SCALE", type := .int, accessFlags := 25, slot := 8, constantValue := 0 }, { name := "LOG2_ARRAY_DOUBLE_INDEX_SCALE", type := .int, accessFlags := 25, slot := 9, constantValue := 0 }, { name := "LOG2_BYTE_BIT_SIZE", type := .int, accessFlags := 26, slot := 10, constantValue := 0 }, { name := "T_BOOLEAN", type := .int, accessFlags := 25, slot := 11, constantValue := 0 }, { name := "T_CHAR", type := .int, accessFlags := 25, slot := 12, constantValue := 0 }, { name := "T_FLOAT", type := .int, accessFlags := 25, slot := 13, constantValue := 0 }, { name := "T_DOUBLE", type := .int, accessFlags := 25, slot := 14, constantValue := 0 }, { name := "T_BYTE", type := .int, accessFlags := 25, slot := 15, constantValue := 0 }, { name := "T_SHORT", type := .int, accessFlags := 25, slot := 16, constantValue := 0 }, { name := "T_INT", type := .int, accessFlags := 25, slot := 17, constantValue := 0 }, { name := "T_LONG", type := .int, accessFlags := 25, slot := 18, constantValue := 0 }, { name := "JLA", type := (.object "jdk/internal/access/JavaLangAccess"), accessFlags := 26, slot := 19, constantValue := 0 }, { name := "SOFT_MAX_ARRAY_LENGTH", type := .int, accessFlags := 25, slot := 20, constantValue := 0 }]
  methods := #[k16m0]
  instanceTypes := #[]
  staticTypes := #[(.object "jdk/internal/misc/Unsafe"), .boolean, .int, .int, .int, .int, .int, .int, .int, .int, .int, .int, .int, .int, .int, .int, .int, .int, .int, (.object "jdk/internal/access/JavaLangAccess"), .int]
  resolved := Array.replicate 378 none
  statics := none }

def pool17 : Array CpInfo := pool [(1, u "java/lang/Cloneable"), (0, .class_ 1), (0, u "java/lang/Object"), (0, .class_ 3)] 3

/-- java/lang/Cloneable -/
def k17 : Class := { plain "java/lang/Cloneable" (some 0) with
  accessFlags := 1537
  interfaces := #[]
  cf := some (fileOf pool17 2 #[] #[] 1537 4 #[] #[])
  fields := #[]
  methods := #[]
  instanceTypes := #[]
  staticTypes := #[]
  resolved := Array.replicate 8 none
  statics := none }

/-- the primitive byte -/
def k18 : Class := { plain "byte" none with kind := .primitive 'B', accessFlags := 0x411 }
/-- [B -/
def k19 : Class := { plain "[B" (some 0) with kind := .array 18 .byte, interfaces := #[17, 2], accessFlags := 1041 }

/-- the primitive char -/
def k20 : Class := { plain "char" none with kind := .primitive 'C', accessFlags := 0x411 }
/-- [C -/
def k21 : Class := { plain "[C" (some 0) with kind := .array 20 .char, interfaces := #[17, 2], accessFlags := 1041 }

/-- the primitive int -/
def k22 : Class := { plain "int" none with kind := .primitive 'I', accessFlags := 0x411 }
/-- [I -/
def k23 : Class := { plain "[I" (some 0) with kind := .array 22 .int, interfaces := #[17, 2], accessFlags := 1041 }

def heap : Heap := #[{ cls := 7, slots := #[.long 0, .int 1, .null, .int 0, .null, .int 0, .int 0], vm := .statics 7 },
  { cls := 13, slots := #[.ref 11, .ref 12, .ref 13, .ref 14, .ref 15, .ref 16, .null], vm := .statics 13 },
  { cls := 15, slots := #[.null, .null, .null], vm := .statics 15 },
  { cls := 19, slots := #[.int 65, .int 65, .int 65, .int 65, .int 65], vm := .none },
  { cls := 19, slots := #[.int 65, .int 65, .int 65, .int 65, .int 65, .int 65], vm := .none },
  { cls := 19, slots := #[.int 65, .int 65, .int 65, .int 65], vm := .none },
  { cls := 19, slots := #[.int 65, .int 65, .int 65, .int 65, .int 65], vm := .none },
  { cls := 7, slots := #[.ref 3, .int 0, .int 0, .int 0], vm := .none },
  { cls := 7, slots := #[.ref 4, .int 0, .int 0, .int 0], vm := .none },
  { cls := 7, slots := #[.ref 5, .int 0, .int 0, .int 0], vm := .none },
  { cls := 7, slots := #[.ref 6, .int 0, .int 0, .int 0], vm := .none },
  { cls := 13, slots := #[.null, .int 0, .int 0, .null, .ref 7], vm := .none },
  { cls := 13, slots := #[.null, .int 1, .int 0, .null, .ref 8], vm := .none },
  { cls := 13, slots := #[.null, .int 2, .int 0, .null, .ref 9], vm := .none },
  { cls := 13, slots := #[.null, .int 3, .int 0, .null, .ref 10], vm := .none },
  { cls := 13, slots := #[.null, .int 4, .int 0, .null, .null], vm := .none },
  { cls := 13, slots := #[.null, .int 5, .int 0, .null, .null], vm := .none }]
def classes : Array Class := #[k0, k1, k2, k3, k4, k5, k6, k7, k8, k9, k10, k11, k12, k13, k14, k15, k16, k17, k18, k19, k20, k21, k22, k23]
def interned : List (Array UInt16 × Addr) := []
def slotsUsed : Nat := 83
def theMethod : MethodId := ⟨1, 1⟩
def args0 : Array Value := #[.int 5, .long 3, .int 66, .int 1, .int 2, .int 3]
def aboutOver (below : List Frame) : State where
  vm := { classes := classes, interned := interned.toArray }
  heap := heap
  slotsUsed := slotsUsed
  threads := #[{ frames := .invoking theMethod args0 :: below }]
def below0 : List Frame := [.native { method := ⟨0, 0⟩, args := #[] }]
def about1 : State := aboutOver below0
def p0 : Program := .bare "" "" ""
def e0 : Env := launch0.env 0 0 0
theorem w_frames : about1.frames = Frame.invoking theMethod args0 :: below0 := rfl
set_option maxRecDepth 65536 in
theorem w_args : argsFit about1.vm theMethod args0 = true := by decide +kernel
set_option maxRecDepth 65536 in
theorem w_heap : heapFits about1 = true := by decide +kernel
set_option maxRecDepth 65536 in
theorem w_runnable : about1.curStatus? = some .runnable := by decide +kernel
set_option maxRecDepth 65536 in
theorem w_alone : about1.alone = true := by decide +kernel
set_option maxRecDepth 65536 in
theorem w_named : about1.methodNamed? x = some theMethod := by decide +kernel
set_option maxRecDepth 65536 in
theorem w_hears : about1.hears theMethod below0 = true := by decide +kernel
set_option maxRecDepth 65536 in
theorem w_ripe : about1.ripe theMethod args0 below0 = true := by decide +kernel
theorem w_running : about1.status = .running := rfl
set_option maxRecDepth 65536 in
theorem w_room : about1.hasRoom e0.platform room_1 = true :=
  launch0.hasRoom_least _ room_1 (by decide +kernel) (by decide +kernel) (by decide +kernel) (by decide +kernel) (by decide +kernel) (by decide +kernel)
theorem allAtoms_all (ts : List Jvm.Cond) (a : Array Jvm.Value) (st : Jvm.State) : (allAtoms ts).before a st = ts.all (fun c => c.before a st) := by
  induction ts with
  | nil => rfl
  | cons c t ih =>
    show (Jvm.Cond.and c (allAtoms t)).before a st = _
    rw [Jvm.Cond.before_and, ih, List.all_cons]
def words1 : List Jvm.Cond := Jvm.Cond.code x code maxLocals ret :: tables_1
/-- a 'code' word, met by the world's own term for the bytes: nothing is compared byte by byte -/
theorem code_word {y : MethodName} {bytes : ByteArray} {mx : Nat} {rt : Option FieldType} {a : Array Value} {s : State} {m : MethodId} {meth : Method} {c : Code} (h1 : s.methodNamed? y = some m) (h2 : s.vm.method? m = some meth) (h3 : meth.code = some c) (h4 : c.code = bytes)
    (h5 : (c.maxLocals == mx && c.exceptionTable.isEmpty && decide (c.maxStack ≤ mostOperands) && decide (meth.sig.returnType = rt) && !meth.locks && decide (parseMethodDescriptor y.desc = some meth.sig)) = true) : (Jvm.Cond.code y bytes mx rt).before a s = true := by
  simp only [Bool.and_eq_true, beq_iff_eq, Bool.not_eq_true', decide_eq_true_eq] at h5
  obtain ⟨⟨⟨⟨⟨g1, g2⟩, g3⟩, g4⟩, g5⟩, g6⟩ := h5
  simp [Cond.before, Cond.holds, Cond.value, h1, h2, h3, h4, g1, g2, g3, g4, g5, g6]
def isCode : Jvm.Cond → Bool
  | .code _ _ _ _ => true
  | _ => false
theorem all_split {L : List Jvm.Cond} {P : Jvm.Cond → Bool} (h1 : L.all (fun c => isCode c || P c) = true) (h2 : ∀ c ∈ L.filter isCode, P c = true) : L.all P = true := by
  refine List.all_eq_true.mpr fun c hc => ?_
  have h := List.all_eq_true.mp h1 c hc
  rcases Bool.eq_false_or_eq_true (isCode c) with hi | hi
  · exact h2 c (List.mem_filter.mpr ⟨hc, hi⟩)
  · simpa [hi] using h
set_option maxRecDepth 65536 in
theorem w_c0 : (Jvm.Cond.code x code maxLocals ret).before args0 about1 = true := code_word (m := ⟨1, 1⟩) (meth := k1m1) (c := k1c1) (by decide +kernel) rfl rfl rfl (by decide +kernel)
set_option maxRecDepth 65536 in
theorem w_c1 : (Jvm.Cond.code ({ cls := "java/lang/String", name := "<init>", desc := "([C)V" } : Jvm.MethodName) jdk_42_method_3_code (2 : Nat) (Option.none : Option Jvm.ClassFile.FieldType)).before args0 about1 = true := code_word (m := ⟨7, 1⟩) (meth := k7m1) (c := k7c1) (by decide +kernel) rfl rfl rfl (by decide +kernel)
set_option maxRecDepth 65536 in
theorem w_c2 : (Jvm.Cond.code ({ cls := "java/lang/String", name := "<init>", desc := "([CIILjava/lang/Void;)V" } : Jvm.MethodName) jdk_42_method_149_code (6 : Nat) (Option.none : Option Jvm.ClassFile.FieldType)).before args0 about1 = true := code_word (m := ⟨7, 3⟩) (meth := k7m3) (c := k7c3) (by decide +kernel) rfl rfl rfl (by decide +kernel)
set_option maxRecDepth 65536 in
theorem w_c3 : (Jvm.Cond.code ({ cls := "java/lang/Object", name := "<init>", desc := "()V" } : Jvm.MethodName) object_method_1_code (1 : Nat) (Option.none : Option Jvm.ClassFile.FieldType)).before args0 about1 = true := code_word (m := ⟨0, 0⟩) (meth := k0m0) (c := k0c0) (by decide +kernel) rfl rfl rfl (by decide +kernel)
set_option maxRecDepth 65536 in
theorem w_c4 : (Jvm.Cond.code ({ cls := "java/lang/StringUTF16", name := "compress", desc := "([CII)[B" } : Jvm.MethodName) jdk_52_method_16_code (6 : Nat) (Option.some (Jvm.ClassFile.FieldType.array Jvm.ClassFile.FieldType.byte))).before args0 about1 = true := code_word (m := ⟨8, 2⟩) (meth := k8m2) (c := k8c2) (by decide +kernel) rfl rfl rfl (by decide +kernel)
set_option maxRecDepth 65536 in
theorem w_c5 : (Jvm.Cond.code ({ cls := "java/lang/StringUTF16", name := "compress", desc := "([CI[BII)I" } : Jvm.MethodName) jdk_52_method_21_code (7 : Nat) (Option.some Jvm.ClassFile.FieldType.int)).before args0 about1 = true := code_word (m := ⟨8, 3⟩) (meth := k8m3) (c := k8c3) (by decide +kernel) rfl rfl rfl (by decide +kernel)
set_option maxRecDepth 65536 in
theorem w_c6 : (Jvm.Cond.code ({ cls := "java/lang/StringUTF16", name := "coderFromArrayLen", desc := "([BI)B" } : Jvm.MethodName) jdk_52_method_15_code (2 : Nat) (Option.some Jvm.ClassFile.FieldType.byte)).before args0 about1 = true := code_word (m := ⟨8, 1⟩) (meth := k8m1) (c := k8c1) (by decide +kernel) rfl rfl rfl (by decide +kernel)
set_option maxRecDepth 65536 in
theorem w_c7 : (Jvm.Cond.code ({ cls := "com/example/convey/convey/model/Mailbox", name := "<init>", desc := "(Ljava/lang/String;Ljava/lang/String;Ljava/lang/String;Lcom/example/convey/convey/model/MailboxRole;JZIIII)V" } : Jvm.MethodName) prog_69_method_1_code (12 : Nat) (Option.none : Option Jvm.ClassFile.FieldType)).before args0 about1 = true := code_word (m := ⟨10, 0⟩) (meth := k10m0) (c := k10c0) (by decide +kernel) rfl rfl rfl (by decide +kernel)
set_option maxRecDepth 65536 in
theorem w_c8 : (Jvm.Cond.code ({ cls := "java/lang/Record", name := "<init>", desc := "()V" } : Jvm.MethodName) jdk_30_method_1_code (1 : Nat) (Option.none : Option Jvm.ClassFile.FieldType)).before args0 about1 = true := code_word (m := ⟨9, 0⟩) (meth := k9m0) (c := k9c0) (by decide +kernel) rfl rfl rfl (by decide +kernel)
set_option maxRecDepth 65536 in
theorem w_c9 : (Jvm.Cond.code ({ cls := "java/util/Objects", name := "requireNonNull", desc := "(Ljava/lang/Object;Ljava/lang/String;)Ljava/lang/Object;" } : Jvm.MethodName) jdk_31_method_11_code (2 : Nat) (Option.some (Jvm.ClassFile.FieldType.object "java/lang/Object"))).before args0 about1 = true := code_word (m := ⟨11, 1⟩) (meth := k11m1) (c := k11c1) (by decide +kernel) rfl rfl rfl (by decide +kernel)
set_option maxRecDepth 65536 in
theorem w_c10 : (Jvm.Cond.code ({ cls := "com/example/convey/convey/model/Mailbox", name := "madeWithAccount", desc := "()Z" } : Jvm.MethodName) prog_69_method_2_code (1 : Nat) (Option.some Jvm.ClassFile.FieldType.boolean)).before args0 about1 = true := code_word (m := ⟨10, 1⟩) (meth := k10m1) (c := k10c1) (by decide +kernel) rfl rfl rfl (by decide +kernel)
set_option maxRecDepth 65536 in
theorem w_c11 : (Jvm.Cond.code ({ cls := "com/example/convey/convey/model/MailboxRole", name := "madeWithAccount", desc := "()Z" } : Jvm.MethodName) prog_73_method_5_code (1 : Nat) (Option.some Jvm.ClassFile.FieldType.boolean)).before args0 about1 = true := code_word (m := ⟨13, 0⟩) (meth := k13m0) (c := k13c0) (by decide +kernel) rfl rfl rfl (by decide +kernel)
set_option maxRecDepth 65536 in
theorem w_c12 : (Jvm.Cond.code ({ cls := "java/lang/String", name := "valueOf", desc := "(C)Ljava/lang/String;" } : Jvm.MethodName) jdk_42_method_139_code (1 : Nat) (Option.some (Jvm.ClassFile.FieldType.object "java/lang/String"))).before args0 about1 = true := code_word (m := ⟨7, 2⟩) (meth := k7m2) (c := k7c2) (by decide +kernel) rfl rfl rfl (by decide +kernel)
set_option maxRecDepth 65536 in
theorem w_c13 : (Jvm.Cond.code ({ cls := "java/lang/StringLatin1", name := "canEncode", desc := "(C)Z" } : Jvm.MethodName) jdk_43_method_3_code (1 : Nat) (Option.some Jvm.ClassFile.FieldType.boolean)).before args0 about1 = true := code_word (m := ⟨14, 1⟩) (meth := k14m1) (c := k14c1) (by decide +kernel) rfl rfl rfl (by decide +kernel)
set_option maxRecDepth 65536 in
theorem w_c14 : (Jvm.Cond.code ({ cls := "java/lang/StringLatin1", name := "toBytes", desc := "(C)[B" } : Jvm.MethodName) jdk_43_method_46_code (1 : Nat) (Option.some (Jvm.ClassFile.FieldType.array Jvm.ClassFile.FieldType.byte))).before args0 about1 = true := code_word (m := ⟨14, 2⟩) (meth := k14m2) (c := k14c2) (by decide +kernel) rfl rfl rfl (by decide +kernel)
set_option maxRecDepth 65536 in
theorem w_c15 : (Jvm.Cond.code ({ cls := "java/lang/String", name := "<init>", desc := "([BB)V" } : Jvm.MethodName) jdk_42_method_151_code (3 : Nat) (Option.none : Option Jvm.ClassFile.FieldType)).before args0 about1 = true := code_word (m := ⟨7, 4⟩) (meth := k7m4) (c := k7c4) (by decide +kernel) rfl rfl rfl (by decide +kernel)
def codes1 : List Jvm.Cond := [Jvm.Cond.code x code maxLocals ret, Jvm.Cond.code ({ cls := "java/lang/String", name := "<init>", desc := "([C)V" } : Jvm.MethodName) jdk_42_method_3_code (2 : Nat) (Option.none : Option Jvm.ClassFile.FieldType), Jvm.Cond.code ({ cls := "java/lang/String", name := "<init>", desc := "([CIILjava/lang/Void;)V" } : Jvm.MethodName) jdk_42_method_149_code (6 : Nat) (Option.none : Option Jvm.ClassFile.FieldType), Jvm.Cond.code ({ cls := "java/lang/Object", name := "<init>", desc := "()V" } : Jvm.MethodName) object_method_1_code (1 : Nat) (Option.none : Option Jvm.ClassFile.FieldType), Jvm.Cond.code ({ cls := "java/lang/StringUTF16", name := "compress", desc := "([CII)[B" } : Jvm.MethodName) jdk_52_method_16_code (6 : Nat) (Option.some (Jvm.ClassFile.FieldType.array Jvm.ClassFile.FieldType.byte)), Jvm.Cond.code ({ cls := "java/lang/StringUTF16", name := "compress", desc := "([CI[BII)I" } : Jvm.MethodName) jdk_52_method_21_code (7 : Nat) (Option.some Jvm.ClassFile.FieldType.int), Jvm.Cond.code ({ cls := "java/lang/StringUTF16", name := "coderFromArrayLen", desc := "([BI)B" } : Jvm.MethodName) jdk_52_method_15_code (2 : Nat) (Option.some Jvm.ClassFile.FieldType.byte), Jvm.Cond.code ({ cls := "com/example/convey/convey/model/Mailbox", name := "<init>", desc := "(Ljava/lang/String;Ljava/lang/String;Ljava/lang/String;Lcom/example/convey/convey/model/MailboxRole;JZIIII)V" } : Jvm.MethodName) prog_69_method_1_code (12 : Nat) (Option.none : Option Jvm.ClassFile.FieldType), Jvm.Cond.code ({ cls := "java/lang/Record", name := "<init>", desc := "()V" } : Jvm.MethodName) jdk_30_method_1_code (1 : Nat) (Option.none : Option Jvm.ClassFile.FieldType), Jvm.Cond.code ({ cls := "java/util/Objects", name := "requireNonNull", desc := "(Ljava/lang/Object;Ljava/lang/String;)Ljava/lang/Object;" } : Jvm.MethodName) jdk_31_method_11_code (2 : Nat) (Option.some (Jvm.ClassFile.FieldType.object "java/lang/Object")), Jvm.Cond.code ({ cls := "com/example/convey/convey/model/Mailbox", name := "madeWithAccount", desc := "()Z" } : Jvm.MethodName) prog_69_method_2_code (1 : Nat) (Option.some Jvm.ClassFile.FieldType.boolean), Jvm.Cond.code ({ cls := "com/example/convey/convey/model/MailboxRole", name := "madeWithAccount", desc := "()Z" } : Jvm.MethodName) prog_73_method_5_code (1 : Nat) (Option.some Jvm.ClassFile.FieldType.boolean), Jvm.Cond.code ({ cls := "java/lang/String", name := "valueOf", desc := "(C)Ljava/lang/String;" } : Jvm.MethodName) jdk_42_method_139_code (1 : Nat) (Option.some (Jvm.ClassFile.FieldType.object "java/lang/String")), Jvm.Cond.code ({ cls := "java/lang/StringLatin1", name := "canEncode", desc := "(C)Z" } : Jvm.MethodName) jdk_43_method_3_code (1 : Nat) (Option.some Jvm.ClassFile.FieldType.boolean), Jvm.Cond.code ({ cls := "java/lang/StringLatin1", name := "toBytes", desc := "(C)[B" } : Jvm.MethodName) jdk_43_method_46_code (1 : Nat) (Option.some (Jvm.ClassFile.FieldType.array Jvm.ClassFile.FieldType.byte)), Jvm.Cond.code ({ cls := "java/lang/String", name := "<init>", desc := "([BB)V" } : Jvm.MethodName) jdk_42_method_151_code (3 : Nat) (Option.none : Option Jvm.ClassFile.FieldType)]
set_option maxRecDepth 65536 in
theorem codes_eq : words1.filter isCode = codes1 := rfl
theorem w_codes : ∀ c ∈ words1.filter isCode, c.before args0 about1 = true := by
  rw [codes_eq]
  intro c hc
  simp only [codes1, List.mem_cons, List.not_mem_nil, or_false] at hc
  rcases hc with rfl | rfl | rfl | rfl | rfl | rfl | rfl | rfl | rfl | rfl | rfl | rfl | rfl | rfl | rfl | rfl
  · exact w_c0
  · exact w_c1
  · exact w_c2
  · exact w_c3
  · exact w_c4
  · exact w_c5
  · exact w_c6
  · exact w_c7
  · exact w_c8
  · exact w_c9
  · exact w_c10
  · exact w_c11
  · exact w_c12
  · exact w_c13
  · exact w_c14
  · exact w_c15
set_option maxRecDepth 65536 in
theorem w_t1 : (words1.take 24).all (fun c => isCode c || c.before args0 about1) = true := by decide +kernel
set_option maxRecDepth 65536 in
theorem w_t2 : ((words1.drop 24).take 24).all (fun c => isCode c || c.before args0 about1) = true := by decide +kernel
set_option maxRecDepth 65536 in
theorem w_t3 : (((words1.drop 24).drop 24).take 24).all (fun c => isCode c || c.before args0 about1) = true := by decide +kernel
set_option maxRecDepth 65536 in
theorem w_t4 : ((((words1.drop 24).drop 24).drop 24).take 24).all (fun c => isCode c || c.before args0 about1) = true := by decide +kernel
set_option maxRecDepth 65536 in
theorem w_t5 : ((((words1.drop 24).drop 24).drop 24).drop 24).all (fun c => isCode c || c.before args0 about1) = true := by decide +kernel
theorem w_tables : (allAtoms (Jvm.Cond.code x code maxLocals ret :: tables_1)).before args0 about1 = true := by
  rw [allAtoms_all]
  show words1.all (fun c => c.before args0 about1) = true
  refine all_split ?_ w_codes
  rw [← List.take_append_drop 24 words1, List.all_append, w_t1, ← List.take_append_drop 24 (words1.drop 24), List.all_append, w_t2, ← List.take_append_drop 24 ((words1.drop 24).drop 24), List.all_append, w_t3, ← List.take_append_drop 24 (((words1.drop 24).drop 24).drop 24), List.all_append, w_t4, w_t5]
  rfl
set_option maxRecDepth 65536 in
theorem w_rest : rest_1_c.before args0 about1 = true := by decide +kernel
set_option maxRecDepth 65536 in
theorem w_case : (Jvm.Cond.and given_1 narrow_1).before args0 about1 = true := by decide +kernel
theorem w_applies : (headSpec (Jvm.Cond.code x code maxLocals ret :: tables_1) room_1).applies x e0.platform about1 = true :=
  (Spec.applies_iff w_frames).mpr ⟨w_running, w_runnable, w_alone, w_named, w_hears, w_ripe, w_room, w_tables⟩
theorem atStart : AtStart classFile x code maxLocals ret World_1 tables_1 room_1 Calls_1 rest_1 Pre_1 launch0 p0 e0 about1 theMethod args0 below0 :=
  ⟨lists_1, trivial, launch0.admits_env _ _ _, launch0.least_env, fairChoices_fair.cas, fairChoices_fair.clock, w_frames, w_args, w_heap, w_applies, trivial, w_rest, w_case⟩
end start1
theorem witness_1 : WitnessClaimed_1 := ⟨start1.p0, start1.e0, start1.about1, start1.theMethod, start1.args0, start1.below0, start1.atStart⟩
end Jvm.Pilot.@@N@@
