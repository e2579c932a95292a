import JvmDerived
import JvmDerived.Pilot.@@N@@Statement
import JvmDerived.Pilot.@@N@@Code
set_option linter.unusedVariables false
set_option linter.unusedSimpArgs false
@@BLOCK:NumsL.lean.txt@@
namespace Jvm.RoadKit
open Sem ClassFile Op Lib Jvm.Stand Jvm.Free Jvm.LawKit
section New
variable {p : Program} {l : Launch} {e : Env} {R : Room} {s : State} {m : MethodId} {args : Array Value} {below : List Frame} {meth : Method} {c : Code} {T : State} {locs : List Loc} {cells slots : Nat}
theorem retI (X : Stand p l e R s m args below meth c T locs cells slots) (hx : p.tables.exec = Jvm.exec) {pc : Nat} {Ls : Array Slot} {z : Int32} {rest : List Value} (hret : meth.sig.returnType = some .int) (hd : decode c.code pc = .ok (.ireturn, 1)) {fs : List Frame}
    (hl : ∀ (f : JFrame) (acts : List Action), f.method = m → f.locked = none → f.entered = [] → (doReturn e (T.setTop f) acts (some (.int z))).1 = T.setFrames fs) : Steps p.tables e below (T.setTop (mkF m pc Ls (.int z :: rest))) (T.setFrames fs) := by
  have hm' : T.vm.method? m = some meth := X.method'
  have hn : narrow .int (.int z) = .int z := rfl
  show Steps p.tables e below (T.setTop { method := m, pc := pc, locals := Ls, stack := _ :: rest, locked := none }) _
  jvm_step X.here [X.here.top, hx, hd, hm', hret, hn]
  first | (intro acts; rw [hl _ acts rfl rfl rfl]) | rw [hl _ _ rfl rfl rfl]
  exact Steps.refl _
end New
end Jvm.RoadKit
namespace Jvm.Pilot.@@N@@
open Jvm Jvm.ClassFile Sem Op Lib Jvm.Free Jvm.Stand Jvm.LawKit Jvm.RoadKit Bundle Jvm.Pilot.@@N@@.Jvm.D
theorem own_fi {args : Array Value} {s : State} {t : Term} {C n d : String} {k : Int32} {x : Addr} (ht : t.eval args s none [] s = some (.ref x)) (h : (Jvm.Cond.eq (Term.field t C n d) (Term.int k)).value args s none s [] = some true) : Fld s s.heap x C n d (.int k) := by
  obtain ⟨a, b, ha, hb, hk, -⟩ := cmp_v (Or.inl h)
  have hb' : b = .int k := Option.some.inj (hb.symm.trans rfl)
  subst hb'
  cases a <;> simp [Kin, Value.isRef] at hk
  rename_i z
  have hz : z = k := by simpa [Jvm.Cond.value, ha, hb] using h
  subst hz
  exact Fld.start ((fld_at ht).symm.trans ha)
theorem own_fn {args : Array Value} {s : State} {t : Term} {C n d : String} {x : Addr} (ht : t.eval args s none [] s = some (.ref x)) (h : (Jvm.Cond.eq (Term.field t C n d) Term.null).value args s none s [] = some true) : Fld s s.heap x C n d .null := Fld.start ((fld_at ht).symm.trans (null_v h))
theorem own_fx {args : Array Value} {s : State} {t : Term} {C n d K : String} {x : Addr} (ht : t.eval args s none [] s = some (.ref x)) (h : (Jvm.Cond.exactly (Term.field t C n d) K).value args s none s [] = some true) : ∃ y, (Term.field t C n d).eval args s none [] s = some (.ref y) ∧ Fld s s.heap x C n d (.ref y) ∧ Exa s s.heap y K := by
  obtain ⟨y, hy⟩ := exa_v h
  exact ⟨y, hy, Fld.start ((fld_at ht).symm.trans hy), Exa.start hy h⟩
theorem own_sx {args : Array Value} {s : State} {C n d K : String} (hi : (Jvm.Cond.initialized C).before args s = true) (hl : (Jvm.Cond.laysStatic C n d).before args s = true) (h : (Jvm.Cond.exactly (Term.static C n d) K).value args s none s [] = some true) : ∃ x, (Term.static C n d).eval args s none [] s = some (.ref x) ∧ Sta s s.heap C n d (.ref x) ∧ Exa s s.heap x K := by
  obtain ⟨y, hy⟩ := exa_v h
  exact ⟨y, hy, Sta.start hy (Or.inr ⟨hi, hl⟩), Exa.start hy h⟩
theorem own_and31 (x : Int32) : (x &&& 2147483647).toInt = x.toInt % 2 ^ 31 := Jvm.Kit.i32_mask x 2147483647 (k := 31) (by decide) (by decide)
theorem own_pos31 (x : Int32) : 0 ≤ (x &&& 2147483647).toInt := by rw [own_and31]; omega
theorem own_rem (x m : Int32) (hm : 0 < m.toInt) : 0 ≤ ((x &&& 2147483647) % m).toInt ∧ ((x &&& 2147483647) % m).toInt < m.toInt := by
  have h1 := own_pos31 x
  rw [Int32.toInt_mod]
  have h2 : ((x &&& 2147483647).toInt).tmod m.toInt = (x &&& 2147483647).toInt % m.toInt := Int.tmod_eq_emod_of_nonneg h1
  have h3 := Int.emod_nonneg (x &&& 2147483647).toInt (show m.toInt ≠ 0 by omega)
  have h4 := Int.emod_lt_of_pos (x &&& 2147483647).toInt hm
  omega
theorem own_selp {s : State} {args : Array Value} {y : MethodName} {n : Nat} (hy : y.cls ≠ "java/lang/invoke/MethodHandle" ∧ y.cls ≠ "java/lang/invoke/VarHandle") (hins : (Jvm.Cond.instantiable y.cls n).before args s = true) (hpriv : (Jvm.Cond.privateMethod y).before args s = true) (hinst : (Jvm.Cond.instanceMethod y).before args s = true) : (Jvm.Cond.selects y.cls y y).before args s = true := by
  obtain ⟨c, k, hc, hk, -, hniab, -, -⟩ := Cond.instantiable_spec hins
  have hni : k.isInterface = false := (Bool.or_eq_false_iff.mp hniab).1
  obtain ⟨mk, methM, hnamed, hmethM, -, -⟩ := Cond.instanceMethod_spec hinst
  have hfound : s.methodFound? y.cls y.name y.desc = some mk := State.methodFound?_of_named hnamed hy
  have hcls : mk.cls = c := Option.some.inj ((findClass_of_methodNamed hnamed).symm.trans hc)
  have hsel : selectMethod {} s.vm c mk = .method mk := selectMethod_private hmethM (Cond.privateMethod_at hpriv mk methM hnamed hmethM)
  simp only [Cond.before, Cond.holds, Cond.value, hc, hfound, hnamed, hsel, hcls, hk]
  simp; exact hni
theorem own_hp {T : State} {h : Heap} {a : Addr} {c : Cell} (e : T.heap = h) (q : h[a]? = some c) : T.heap[a]? = some c := e ▸ q
theorem own_of_toInt {x : Int32} {n : Int} (h : x.toInt = n) : x = Int32.ofInt n := by rw [← h, Int32.ofInt_toInt]
def own_K (k : Int32) : Prop := k = 0 ∨ k = 1 ∨ k = 2 ∨ k = 3 ∨ k = 4 ∨ k = 5 ∨ k = 6 ∨ k = 7 ∨ k = 8 ∨ k = 9 ∨ k = 10
theorem d1_0 : decode method_2_code 0 = .ok (.iload_n 0, 1) := by decide +kernel
theorem d1_1 : decode method_2_code 1 = .ok (.ifCond .ne 7, 3) := by decide +kernel
theorem d1_4 : decode method_2_code 4 = .ok (.getstatic 7, 3) := by decide +kernel
theorem d1_7 : decode method_2_code 7 = .ok (.areturn, 1) := by decide +kernel
theorem d1_8 : decode method_2_code 8 = .ok (.iload_n 0, 1) := by decide +kernel
theorem d1_9 : decode method_2_code 9 = .ok (.iconst 1, 1) := by decide +kernel
theorem d1_10 : decode method_2_code 10 = .ok (.if_icmp .ne 7, 3) := by decide +kernel
theorem d1_13 : decode method_2_code 13 = .ok (.getstatic 13, 3) := by decide +kernel
theorem d1_16 : decode method_2_code 16 = .ok (.areturn, 1) := by decide +kernel
theorem d1_17 : decode method_2_code 17 = .ok (.iload_n 0, 1) := by decide +kernel
theorem d1_18 : decode method_2_code 18 = .ok (.iconst 2, 1) := by decide +kernel
theorem d1_19 : decode method_2_code 19 = .ok (.if_icmp .ne 7, 3) := by decide +kernel
theorem d1_22 : decode method_2_code 22 = .ok (.getstatic 16, 3) := by decide +kernel
theorem d1_25 : decode method_2_code 25 = .ok (.areturn, 1) := by decide +kernel
theorem d1_26 : decode method_2_code 26 = .ok (.iload_n 0, 1) := by decide +kernel
theorem d1_27 : decode method_2_code 27 = .ok (.iconst 3, 1) := by decide +kernel
theorem d1_28 : decode method_2_code 28 = .ok (.if_icmp .ne 7, 3) := by decide +kernel
theorem d1_31 : decode method_2_code 31 = .ok (.getstatic 19, 3) := by decide +kernel
theorem d1_34 : decode method_2_code 34 = .ok (.areturn, 1) := by decide +kernel
theorem d1_35 : decode method_2_code 35 = .ok (.iload_n 0, 1) := by decide +kernel
theorem d1_36 : decode method_2_code 36 = .ok (.iconst 4, 1) := by decide +kernel
theorem d1_37 : decode method_2_code 37 = .ok (.if_icmp .ne 7, 3) := by decide +kernel
theorem d1_40 : decode method_2_code 40 = .ok (.getstatic 22, 3) := by decide +kernel
theorem d1_43 : decode method_2_code 43 = .ok (.areturn, 1) := by decide +kernel
theorem d1_44 : decode method_2_code 44 = .ok (.iload_n 0, 1) := by decide +kernel
theorem d1_45 : decode method_2_code 45 = .ok (.iconst 5, 1) := by decide +kernel
theorem d1_46 : decode method_2_code 46 = .ok (.if_icmp .ne 7, 3) := by decide +kernel
theorem d1_49 : decode method_2_code 49 = .ok (.getstatic 25, 3) := by decide +kernel
theorem d1_52 : decode method_2_code 52 = .ok (.areturn, 1) := by decide +kernel
theorem d1_53 : decode method_2_code 53 = .ok (.iload_n 0, 1) := by decide +kernel
theorem d1_54 : decode method_2_code 54 = .ok (.bipush 6, 2) := by decide +kernel
theorem d1_56 : decode method_2_code 56 = .ok (.if_icmp .ne 7, 3) := by decide +kernel
theorem d1_59 : decode method_2_code 59 = .ok (.getstatic 28, 3) := by decide +kernel
theorem d1_62 : decode method_2_code 62 = .ok (.areturn, 1) := by decide +kernel
theorem d1_63 : decode method_2_code 63 = .ok (.iload_n 0, 1) := by decide +kernel
theorem d1_64 : decode method_2_code 64 = .ok (.bipush 7, 2) := by decide +kernel
theorem d1_66 : decode method_2_code 66 = .ok (.if_icmp .ne 7, 3) := by decide +kernel
theorem d1_69 : decode method_2_code 69 = .ok (.getstatic 31, 3) := by decide +kernel
theorem d1_72 : decode method_2_code 72 = .ok (.areturn, 1) := by decide +kernel
theorem d1_73 : decode method_2_code 73 = .ok (.iload_n 0, 1) := by decide +kernel
theorem d1_74 : decode method_2_code 74 = .ok (.bipush 8, 2) := by decide +kernel
theorem d1_76 : decode method_2_code 76 = .ok (.if_icmp .ne 7, 3) := by decide +kernel
theorem d1_79 : decode method_2_code 79 = .ok (.getstatic 34, 3) := by decide +kernel
theorem d1_82 : decode method_2_code 82 = .ok (.areturn, 1) := by decide +kernel
theorem d1_83 : decode method_2_code 83 = .ok (.iload_n 0, 1) := by decide +kernel
theorem d1_84 : decode method_2_code 84 = .ok (.bipush 9, 2) := by decide +kernel
theorem d1_86 : decode method_2_code 86 = .ok (.if_icmp .ne 7, 3) := by decide +kernel
theorem d1_89 : decode method_2_code 89 = .ok (.getstatic 37, 3) := by decide +kernel
theorem d1_92 : decode method_2_code 92 = .ok (.areturn, 1) := by decide +kernel
theorem d1_93 : decode method_2_code 93 = .ok (.getstatic 40, 3) := by decide +kernel
theorem d1_96 : decode method_2_code 96 = .ok (.areturn, 1) := by decide +kernel
theorem pn_0 : plainName "com/example/whereas/whereas/model/KindIsLabelPinLaw" = true := by first | (simp [plainName, overriddenIn]; done) | decide +kernel
theorem ef_rm1 (m : MethodId) (p1 : Int32) : entryFrame m #[(.int p1)] 1 = mkF m 0 #[.val (.int p1)] [] := by first | (simp [entryFrame, mkF, argsToLocals, Value.category]; done) | rfl
def Q1 (Z : State) (p1 : Int32) (r : Int32 → Addr) (h0 : Heap) (n0 : Nat) (v : Option Value) (h : Heap) (L : List Loc) : Prop := v = some (.ref (r p1)) ∧ Fr n0 L ∧ h = h0
set_option maxRecDepth 65536 in
set_option maxHeartbeats 40000000 in
theorem rm1 (l : Launch) (Z : State) (a0 : Array Value) (hw : ∀ d ∈ tables_1, d.before a0 Z = true) (ws : List Jvm.Cond) (p1 : Int32) (r : Int32 → Addr) (h0 : Heap) (n0 : Nat) (Z0 : n0 ≤ h0.size) (O0 : Old Z n0 h0) (S_ARTICLE : Sta Z Z.heap "com/example/whereas/whereas/model/Heading$Kind" "ARTICLE" "Lcom/example/whereas/whereas/model/Heading$Kind;" (.ref (r 0))) (S_SECTION : Sta Z Z.heap "com/example/whereas/whereas/model/Heading$Kind" "SECTION" "Lcom/example/whereas/whereas/model/Heading$Kind;" (.ref (r 1))) (S_PARAGRAPH : Sta Z Z.heap "com/example/whereas/whereas/model/Heading$Kind" "PARAGRAPH" "Lcom/example/whereas/whereas/model/Heading$Kind;" (.ref (r 2))) (S_RECITAL : Sta Z Z.heap "com/example/whereas/whereas/model/Heading$Kind" "RECITAL" "Lcom/example/whereas/whereas/model/Heading$Kind;" (.ref (r 3))) (S_EXHIBIT : Sta Z Z.heap "com/example/whereas/whereas/model/Heading$Kind" "EXHIBIT" "Lcom/example/whereas/whereas/model/Heading$Kind;" (.ref (r 4))) (S_SCHEDULE : Sta Z Z.heap "com/example/whereas/whereas/model/Heading$Kind" "SCHEDULE" "Lcom/example/whereas/whereas/model/Heading$Kind;" (.ref (r 5))) (S_APPENDIX : Sta Z Z.heap "com/example/whereas/whereas/model/Heading$Kind" "APPENDIX" "Lcom/example/whereas/whereas/model/Heading$Kind;" (.ref (r 6))) (S_ANNEX : Sta Z Z.heap "com/example/whereas/whereas/model/Heading$Kind" "ANNEX" "Lcom/example/whereas/whereas/model/Heading$Kind;" (.ref (r 7))) (S_ADDENDUM : Sta Z Z.heap "com/example/whereas/whereas/model/Heading$Kind" "ADDENDUM" "Lcom/example/whereas/whereas/model/Heading$Kind;" (.ref (r 8))) (S_HEADING : Sta Z Z.heap "com/example/whereas/whereas/model/Heading$Kind" "HEADING" "Lcom/example/whereas/whereas/model/Heading$Kind;" (.ref (r 9))) (S_CONTENTS : Sta Z Z.heap "com/example/whereas/whereas/model/Heading$Kind" "CONTENTS" "Lcom/example/whereas/whereas/model/Heading$Kind;" (.ref (r 10))) (hk : own_K p1) :
    MetFree l (⟨"com/example/whereas/whereas/model/KindIsLabelPinLaw", "pick", "(I)Lcom/example/whereas/whereas/model/Heading$Kind;"⟩ : MethodName) (head1 (Jvm.Cond.code (⟨"com/example/whereas/whereas/model/KindIsLabelPinLaw", "pick", "(I)Lcom/example/whereas/whereas/model/Heading$Kind;"⟩ : MethodName) method_2_code 1 (some (.object "com/example/whereas/whereas/model/Heading$Kind")) :: ws) ({ frames := 0, cells := 0, slots := 0, locals := 0 } : Room)) (fun a U => a = #[(.int p1)] ∧ Z.Warmed39 U.vm ∧ U.heap = h0) (fun _ _ _ _ _ => True) (fun _ U o U' => ∃ v L, o = .returned v ∧ Q1 Z p1 r h0 n0 v U'.heap L ∧ FrameEnd U o U' L ({ frames := 0, cells := 0, slots := 0, locals := 0 } : Room).cells ({ frames := 0, cells := 0, slots := 0, locals := 0 } : Room).slots) := by
  refine MetFree.of_bodySF (plainFor_of_name pn_0) hisR ?_
  intro p e s m args below meth c s₁ Bd hml0 hP hK
  obtain ⟨rfl, hZ, hh⟩ := hP
  have hx := Bd.exec
  have hby := Bd.bytes
  have hml : c.maxLocals = 1 := hml0
  have hown : s.vm.findClass "com/example/whereas/whereas/model/KindIsLabelPinLaw" = some m.cls := findClass_of_methodNamed Bd.named
  have hnm := (name_of_methodNamed Bd.named Bd.method).1
  have X0 : Stand p l e ({ frames := 0, cells := 0, slots := 0, locals := 0 } : Room) s m #[(.int p1)] below meth c s₁ [] 0 0 := Stand.of_body Bd
  have e0 : s₁.heap = h0 := by rw [← hh, Bd.state]; rfl
  have N0 := Fr.nil n0
  have K0 := Keep.refl h0 []
  have go0 : Goes p e below s₁ (entryFrame m #[(.int p1)] 1) s₁ (mkF m 0 #[.val (.int p1)] []) := fun t k => castTop (ef_rm1 m p1) k
  have go1 : Goes p e below s₁ (entryFrame m #[(.int p1)] 1) s₁ (mkF m 1 #[.val (.int p1)] [(.int p1)]) := fun t k => by
    refine go0 t ?_
    refine XS.iloadN X0.here hx rfl (hb hby d1_0) rfl ?_
    show Steps p.tables e below (s₁.setTop (mkF m 1 #[.val (.int p1)] [(.int p1)])) _
    exact k
  by_cases hc2 : p1 = (0 : Int32)
  · have go3 : Goes p e below s₁ (entryFrame m #[(.int p1)] 1) s₁ (mkF m 4 #[.val (.int p1)] []) := fun t k => by
      refine go1 t ?_
      refine XS.ifNo X0.here hx rfl (hb hby d1_1) rfl (Jvm.Free.XT.i0_ne_f hc2) ?_
      show Steps p.tables e below (s₁.setTop (mkF m 4 #[.val (.int p1)] [])) _
      exact k
    obtain ⟨T4, X4, e4, st4⟩ := getS2 X0 hx hZ hown (host := "") (Or.inl (hw _ (List.mem_of_getElem? (i := 5) rfl))) Via.refl e0 (S_ARTICLE.ext O0.2) (g := (mkF m 4 #[.val (.int p1)] [])) rfl (hb hby d1_4)
    have go5 : Goes p e below s₁ (entryFrame m #[(.int p1)] 1) T4 (mkF m 7 #[.val (.int p1)] [(.ref (r 0))]) := fun t k => go3 t (st4 t k)
    obtain ⟨fs, hr, hrun, hended, hW, hsame⟩ := X4.leave (v := some (.ref (r 0))) (fun h => by rw [Bd.returns] at h; cases h)
    refine ⟨_, _, go5 _ ?_, hrun, hended, _, _, rfl, ?_, ⟨_, rfl⟩, hW, hsame.mono (by decide) (by decide)⟩
    · jvm_step X4.here [X4.here.top, hx, (hb hby d1_7), X4.method', Bd.returns, Value.isRef, FieldType.isReference]
      first | (intro acts; rw [hr _ acts rfl rfl rfl]) | rw [hr _ _ rfl rfl rfl]
      exact Steps.refl _
    · show Q1 Z _ _ _ _ _ T4.heap _
      rw [e4]
      exact ⟨by rw [hc2], N0, rfl⟩
  · have go6 : Goes p e below s₁ (entryFrame m #[(.int p1)] 1) s₁ (mkF m 10 #[.val (.int p1)] [(.int (1 : Int32)), (.int p1)]) := fun t k => by
      refine go1 t ?_
      refine XS.ifYes X0.here hx rfl (pc0 := 1) (pc' := 8) rfl (hb hby d1_1) rfl (Jvm.Free.XT.i0_ne_t hc2) (by decide) (by decide) ?_
      show Steps p.tables e below (s₁.setTop (mkF m 8 #[.val (.int p1)] [])) _
      refine XS.iloadN X0.here hx rfl (hb hby d1_8) rfl ?_
      show Steps p.tables e below (s₁.setTop (mkF m 9 #[.val (.int p1)] [(.int p1)])) _
      refine XS.iconst X0.here hx rfl (hb hby d1_9) ?_
      show Steps p.tables e below (s₁.setTop (mkF m 10 #[.val (.int p1)] [(.int (1 : Int32)), (.int p1)])) _
      exact k
    by_cases hc7 : p1 = (1 : Int32)
    · have go8 : Goes p e below s₁ (entryFrame m #[(.int p1)] 1) s₁ (mkF m 13 #[.val (.int p1)] []) := fun t k => by
        refine go6 t ?_
        refine XS.icmpNo X0.here hx rfl (hb hby d1_10) rfl (Jvm.Free.XT.ii_ne_f hc7) ?_
        show Steps p.tables e below (s₁.setTop (mkF m 13 #[.val (.int p1)] [])) _
        exact k
      obtain ⟨T9, X9, e9, st9⟩ := getS2 X0 hx hZ hown (host := "") (Or.inl (hw _ (List.mem_of_getElem? (i := 28) rfl))) Via.refl e0 (S_SECTION.ext O0.2) (g := (mkF m 13 #[.val (.int p1)] [])) rfl (hb hby d1_13)
      have go10 : Goes p e below s₁ (entryFrame m #[(.int p1)] 1) T9 (mkF m 16 #[.val (.int p1)] [(.ref (r 1))]) := fun t k => go8 t (st9 t k)
      obtain ⟨fs, hr, hrun, hended, hW, hsame⟩ := X9.leave (v := some (.ref (r 1))) (fun h => by rw [Bd.returns] at h; cases h)
      refine ⟨_, _, go10 _ ?_, hrun, hended, _, _, rfl, ?_, ⟨_, rfl⟩, hW, hsame.mono (by decide) (by decide)⟩
      · jvm_step X9.here [X9.here.top, hx, (hb hby d1_16), X9.method', Bd.returns, Value.isRef, FieldType.isReference]
        first | (intro acts; rw [hr _ acts rfl rfl rfl]) | rw [hr _ _ rfl rfl rfl]
        exact Steps.refl _
      · show Q1 Z _ _ _ _ _ T9.heap _
        rw [e9]
        exact ⟨by rw [hc7], N0, rfl⟩
    · have go11 : Goes p e below s₁ (entryFrame m #[(.int p1)] 1) s₁ (mkF m 19 #[.val (.int p1)] [(.int (2 : Int32)), (.int p1)]) := fun t k => by
        refine go6 t ?_
        refine XS.icmpYes X0.here hx rfl (pc0 := 10) (pc' := 17) rfl (hb hby d1_10) rfl (Jvm.Free.XT.ii_ne_t hc7) (by decide) (by decide) ?_
        show Steps p.tables e below (s₁.setTop (mkF m 17 #[.val (.int p1)] [])) _
        refine XS.iloadN X0.here hx rfl (hb hby d1_17) rfl ?_
        show Steps p.tables e below (s₁.setTop (mkF m 18 #[.val (.int p1)] [(.int p1)])) _
        refine XS.iconst X0.here hx rfl (hb hby d1_18) ?_
        show Steps p.tables e below (s₁.setTop (mkF m 19 #[.val (.int p1)] [(.int (2 : Int32)), (.int p1)])) _
        exact k
      by_cases hc12 : p1 = (2 : Int32)
      · have go13 : Goes p e below s₁ (entryFrame m #[(.int p1)] 1) s₁ (mkF m 22 #[.val (.int p1)] []) := fun t k => by
          refine go11 t ?_
          refine XS.icmpNo X0.here hx rfl (hb hby d1_19) rfl (Jvm.Free.XT.ii_ne_f hc12) ?_
          show Steps p.tables e below (s₁.setTop (mkF m 22 #[.val (.int p1)] [])) _
          exact k
        obtain ⟨T14, X14, e14, st14⟩ := getS2 X0 hx hZ hown (host := "") (Or.inl (hw _ (List.mem_of_getElem? (i := 24) rfl))) Via.refl e0 (S_PARAGRAPH.ext O0.2) (g := (mkF m 22 #[.val (.int p1)] [])) rfl (hb hby d1_22)
        have go15 : Goes p e below s₁ (entryFrame m #[(.int p1)] 1) T14 (mkF m 25 #[.val (.int p1)] [(.ref (r 2))]) := fun t k => go13 t (st14 t k)
        obtain ⟨fs, hr, hrun, hended, hW, hsame⟩ := X14.leave (v := some (.ref (r 2))) (fun h => by rw [Bd.returns] at h; cases h)
        refine ⟨_, _, go15 _ ?_, hrun, hended, _, _, rfl, ?_, ⟨_, rfl⟩, hW, hsame.mono (by decide) (by decide)⟩
        · jvm_step X14.here [X14.here.top, hx, (hb hby d1_25), X14.method', Bd.returns, Value.isRef, FieldType.isReference]
          first | (intro acts; rw [hr _ acts rfl rfl rfl]) | rw [hr _ _ rfl rfl rfl]
          exact Steps.refl _
        · show Q1 Z _ _ _ _ _ T14.heap _
          rw [e14]
          exact ⟨by rw [hc12], N0, rfl⟩
      · have go16 : Goes p e below s₁ (entryFrame m #[(.int p1)] 1) s₁ (mkF m 28 #[.val (.int p1)] [(.int (3 : Int32)), (.int p1)]) := fun t k => by
          refine go11 t ?_
          refine XS.icmpYes X0.here hx rfl (pc0 := 19) (pc' := 26) rfl (hb hby d1_19) rfl (Jvm.Free.XT.ii_ne_t hc12) (by decide) (by decide) ?_
          show Steps p.tables e below (s₁.setTop (mkF m 26 #[.val (.int p1)] [])) _
          refine XS.iloadN X0.here hx rfl (hb hby d1_26) rfl ?_
          show Steps p.tables e below (s₁.setTop (mkF m 27 #[.val (.int p1)] [(.int p1)])) _
          refine XS.iconst X0.here hx rfl (hb hby d1_27) ?_
          show Steps p.tables e below (s₁.setTop (mkF m 28 #[.val (.int p1)] [(.int (3 : Int32)), (.int p1)])) _
          exact k
        by_cases hc17 : p1 = (3 : Int32)
        · have go18 : Goes p e below s₁ (entryFrame m #[(.int p1)] 1) s₁ (mkF m 31 #[.val (.int p1)] []) := fun t k => by
            refine go16 t ?_
            refine XS.icmpNo X0.here hx rfl (hb hby d1_28) rfl (Jvm.Free.XT.ii_ne_f hc17) ?_
            show Steps p.tables e below (s₁.setTop (mkF m 31 #[.val (.int p1)] [])) _
            exact k
          obtain ⟨T19, X19, e19, st19⟩ := getS2 X0 hx hZ hown (host := "") (Or.inl (hw _ (List.mem_of_getElem? (i := 18) rfl))) Via.refl e0 (S_RECITAL.ext O0.2) (g := (mkF m 31 #[.val (.int p1)] [])) rfl (hb hby d1_31)
          have go20 : Goes p e below s₁ (entryFrame m #[(.int p1)] 1) T19 (mkF m 34 #[.val (.int p1)] [(.ref (r 3))]) := fun t k => go18 t (st19 t k)
          obtain ⟨fs, hr, hrun, hended, hW, hsame⟩ := X19.leave (v := some (.ref (r 3))) (fun h => by rw [Bd.returns] at h; cases h)
          refine ⟨_, _, go20 _ ?_, hrun, hended, _, _, rfl, ?_, ⟨_, rfl⟩, hW, hsame.mono (by decide) (by decide)⟩
          · jvm_step X19.here [X19.here.top, hx, (hb hby d1_34), X19.method', Bd.returns, Value.isRef, FieldType.isReference]
            first | (intro acts; rw [hr _ acts rfl rfl rfl]) | rw [hr _ _ rfl rfl rfl]
            exact Steps.refl _
          · show Q1 Z _ _ _ _ _ T19.heap _
            rw [e19]
            exact ⟨by rw [hc17], N0, rfl⟩
        · have go21 : Goes p e below s₁ (entryFrame m #[(.int p1)] 1) s₁ (mkF m 37 #[.val (.int p1)] [(.int (4 : Int32)), (.int p1)]) := fun t k => by
            refine go16 t ?_
            refine XS.icmpYes X0.here hx rfl (pc0 := 28) (pc' := 35) rfl (hb hby d1_28) rfl (Jvm.Free.XT.ii_ne_t hc17) (by decide) (by decide) ?_
            show Steps p.tables e below (s₁.setTop (mkF m 35 #[.val (.int p1)] [])) _
            refine XS.iloadN X0.here hx rfl (hb hby d1_35) rfl ?_
            show Steps p.tables e below (s₁.setTop (mkF m 36 #[.val (.int p1)] [(.int p1)])) _
            refine XS.iconst X0.here hx rfl (hb hby d1_36) ?_
            show Steps p.tables e below (s₁.setTop (mkF m 37 #[.val (.int p1)] [(.int (4 : Int32)), (.int p1)])) _
            exact k
          by_cases hc22 : p1 = (4 : Int32)
          · have go23 : Goes p e below s₁ (entryFrame m #[(.int p1)] 1) s₁ (mkF m 40 #[.val (.int p1)] []) := fun t k => by
              refine go21 t ?_
              refine XS.icmpNo X0.here hx rfl (hb hby d1_37) rfl (Jvm.Free.XT.ii_ne_f hc22) ?_
              show Steps p.tables e below (s₁.setTop (mkF m 40 #[.val (.int p1)] [])) _
              exact k
            obtain ⟨T24, X24, e24, st24⟩ := getS2 X0 hx hZ hown (host := "") (Or.inl (hw _ (List.mem_of_getElem? (i := 36) rfl))) Via.refl e0 (S_EXHIBIT.ext O0.2) (g := (mkF m 40 #[.val (.int p1)] [])) rfl (hb hby d1_40)
            have go25 : Goes p e below s₁ (entryFrame m #[(.int p1)] 1) T24 (mkF m 43 #[.val (.int p1)] [(.ref (r 4))]) := fun t k => go23 t (st24 t k)
            obtain ⟨fs, hr, hrun, hended, hW, hsame⟩ := X24.leave (v := some (.ref (r 4))) (fun h => by rw [Bd.returns] at h; cases h)
            refine ⟨_, _, go25 _ ?_, hrun, hended, _, _, rfl, ?_, ⟨_, rfl⟩, hW, hsame.mono (by decide) (by decide)⟩
            · jvm_step X24.here [X24.here.top, hx, (hb hby d1_43), X24.method', Bd.returns, Value.isRef, FieldType.isReference]
              first | (intro acts; rw [hr _ acts rfl rfl rfl]) | rw [hr _ _ rfl rfl rfl]
              exact Steps.refl _
            · show Q1 Z _ _ _ _ _ T24.heap _
              rw [e24]
              exact ⟨by rw [hc22], N0, rfl⟩
          · have go26 : Goes p e below s₁ (entryFrame m #[(.int p1)] 1) s₁ (mkF m 46 #[.val (.int p1)] [(.int (5 : Int32)), (.int p1)]) := fun t k => by
              refine go21 t ?_
              refine XS.icmpYes X0.here hx rfl (pc0 := 37) (pc' := 44) rfl (hb hby d1_37) rfl (Jvm.Free.XT.ii_ne_t hc22) (by decide) (by decide) ?_
              show Steps p.tables e below (s₁.setTop (mkF m 44 #[.val (.int p1)] [])) _
              refine XS.iloadN X0.here hx rfl (hb hby d1_44) rfl ?_
              show Steps p.tables e below (s₁.setTop (mkF m 45 #[.val (.int p1)] [(.int p1)])) _
              refine XS.iconst X0.here hx rfl (hb hby d1_45) ?_
              show Steps p.tables e below (s₁.setTop (mkF m 46 #[.val (.int p1)] [(.int (5 : Int32)), (.int p1)])) _
              exact k
            by_cases hc27 : p1 = (5 : Int32)
            · have go28 : Goes p e below s₁ (entryFrame m #[(.int p1)] 1) s₁ (mkF m 49 #[.val (.int p1)] []) := fun t k => by
                refine go26 t ?_
                refine XS.icmpNo X0.here hx rfl (hb hby d1_46) rfl (Jvm.Free.XT.ii_ne_f hc27) ?_
                show Steps p.tables e below (s₁.setTop (mkF m 49 #[.val (.int p1)] [])) _
                exact k
              obtain ⟨T29, X29, e29, st29⟩ := getS2 X0 hx hZ hown (host := "") (Or.inl (hw _ (List.mem_of_getElem? (i := 32) rfl))) Via.refl e0 (S_SCHEDULE.ext O0.2) (g := (mkF m 49 #[.val (.int p1)] [])) rfl (hb hby d1_49)
              have go30 : Goes p e below s₁ (entryFrame m #[(.int p1)] 1) T29 (mkF m 52 #[.val (.int p1)] [(.ref (r 5))]) := fun t k => go28 t (st29 t k)
              obtain ⟨fs, hr, hrun, hended, hW, hsame⟩ := X29.leave (v := some (.ref (r 5))) (fun h => by rw [Bd.returns] at h; cases h)
              refine ⟨_, _, go30 _ ?_, hrun, hended, _, _, rfl, ?_, ⟨_, rfl⟩, hW, hsame.mono (by decide) (by decide)⟩
              · jvm_step X29.here [X29.here.top, hx, (hb hby d1_52), X29.method', Bd.returns, Value.isRef, FieldType.isReference]
                first | (intro acts; rw [hr _ acts rfl rfl rfl]) | rw [hr _ _ rfl rfl rfl]
                exact Steps.refl _
              · show Q1 Z _ _ _ _ _ T29.heap _
                rw [e29]
                exact ⟨by rw [hc27], N0, rfl⟩
            · have go31 : Goes p e below s₁ (entryFrame m #[(.int p1)] 1) s₁ (mkF m 56 #[.val (.int p1)] [(.int (6 : Int32)), (.int p1)]) := fun t k => by
                refine go26 t ?_
                refine XS.icmpYes X0.here hx rfl (pc0 := 46) (pc' := 53) rfl (hb hby d1_46) rfl (Jvm.Free.XT.ii_ne_t hc27) (by decide) (by decide) ?_
                show Steps p.tables e below (s₁.setTop (mkF m 53 #[.val (.int p1)] [])) _
                refine XS.iloadN X0.here hx rfl (hb hby d1_53) rfl ?_
                show Steps p.tables e below (s₁.setTop (mkF m 54 #[.val (.int p1)] [(.int p1)])) _
                refine XS.bipush X0.here hx rfl (hb hby d1_54) ?_
                show Steps p.tables e below (s₁.setTop (mkF m 56 #[.val (.int p1)] [(.int (6 : Int32)), (.int p1)])) _
                exact k
              by_cases hc32 : p1 = (6 : Int32)
              · have go33 : Goes p e below s₁ (entryFrame m #[(.int p1)] 1) s₁ (mkF m 59 #[.val (.int p1)] []) := fun t k => by
                  refine go31 t ?_
                  refine XS.icmpNo X0.here hx rfl (hb hby d1_56) rfl (Jvm.Free.XT.ii_ne_f hc32) ?_
                  show Steps p.tables e below (s₁.setTop (mkF m 59 #[.val (.int p1)] [])) _
                  exact k
                obtain ⟨T34, X34, e34, st34⟩ := getS2 X0 hx hZ hown (host := "") (Or.inl (hw _ (List.mem_of_getElem? (i := 34) rfl))) Via.refl e0 (S_APPENDIX.ext O0.2) (g := (mkF m 59 #[.val (.int p1)] [])) rfl (hb hby d1_59)
                have go35 : Goes p e below s₁ (entryFrame m #[(.int p1)] 1) T34 (mkF m 62 #[.val (.int p1)] [(.ref (r 6))]) := fun t k => go33 t (st34 t k)
                obtain ⟨fs, hr, hrun, hended, hW, hsame⟩ := X34.leave (v := some (.ref (r 6))) (fun h => by rw [Bd.returns] at h; cases h)
                refine ⟨_, _, go35 _ ?_, hrun, hended, _, _, rfl, ?_, ⟨_, rfl⟩, hW, hsame.mono (by decide) (by decide)⟩
                · jvm_step X34.here [X34.here.top, hx, (hb hby d1_62), X34.method', Bd.returns, Value.isRef, FieldType.isReference]
                  first | (intro acts; rw [hr _ acts rfl rfl rfl]) | rw [hr _ _ rfl rfl rfl]
                  exact Steps.refl _
                · show Q1 Z _ _ _ _ _ T34.heap _
                  rw [e34]
                  exact ⟨by rw [hc32], N0, rfl⟩
              · have go36 : Goes p e below s₁ (entryFrame m #[(.int p1)] 1) s₁ (mkF m 66 #[.val (.int p1)] [(.int (7 : Int32)), (.int p1)]) := fun t k => by
                  refine go31 t ?_
                  refine XS.icmpYes X0.here hx rfl (pc0 := 56) (pc' := 63) rfl (hb hby d1_56) rfl (Jvm.Free.XT.ii_ne_t hc32) (by decide) (by decide) ?_
                  show Steps p.tables e below (s₁.setTop (mkF m 63 #[.val (.int p1)] [])) _
                  refine XS.iloadN X0.here hx rfl (hb hby d1_63) rfl ?_
                  show Steps p.tables e below (s₁.setTop (mkF m 64 #[.val (.int p1)] [(.int p1)])) _
                  refine XS.bipush X0.here hx rfl (hb hby d1_64) ?_
                  show Steps p.tables e below (s₁.setTop (mkF m 66 #[.val (.int p1)] [(.int (7 : Int32)), (.int p1)])) _
                  exact k
                by_cases hc37 : p1 = (7 : Int32)
                · have go38 : Goes p e below s₁ (entryFrame m #[(.int p1)] 1) s₁ (mkF m 69 #[.val (.int p1)] []) := fun t k => by
                    refine go36 t ?_
                    refine XS.icmpNo X0.here hx rfl (hb hby d1_66) rfl (Jvm.Free.XT.ii_ne_f hc37) ?_
                    show Steps p.tables e below (s₁.setTop (mkF m 69 #[.val (.int p1)] [])) _
                    exact k
                  obtain ⟨T39, X39, e39, st39⟩ := getS2 X0 hx hZ hown (host := "") (Or.inl (hw _ (List.mem_of_getElem? (i := 20) rfl))) Via.refl e0 (S_ANNEX.ext O0.2) (g := (mkF m 69 #[.val (.int p1)] [])) rfl (hb hby d1_69)
                  have go40 : Goes p e below s₁ (entryFrame m #[(.int p1)] 1) T39 (mkF m 72 #[.val (.int p1)] [(.ref (r 7))]) := fun t k => go38 t (st39 t k)
                  obtain ⟨fs, hr, hrun, hended, hW, hsame⟩ := X39.leave (v := some (.ref (r 7))) (fun h => by rw [Bd.returns] at h; cases h)
                  refine ⟨_, _, go40 _ ?_, hrun, hended, _, _, rfl, ?_, ⟨_, rfl⟩, hW, hsame.mono (by decide) (by decide)⟩
                  · jvm_step X39.here [X39.here.top, hx, (hb hby d1_72), X39.method', Bd.returns, Value.isRef, FieldType.isReference]
                    first | (intro acts; rw [hr _ acts rfl rfl rfl]) | rw [hr _ _ rfl rfl rfl]
                    exact Steps.refl _
                  · show Q1 Z _ _ _ _ _ T39.heap _
                    rw [e39]
                    exact ⟨by rw [hc37], N0, rfl⟩
                · have go41 : Goes p e below s₁ (entryFrame m #[(.int p1)] 1) s₁ (mkF m 76 #[.val (.int p1)] [(.int (8 : Int32)), (.int p1)]) := fun t k => by
                    refine go36 t ?_
                    refine XS.icmpYes X0.here hx rfl (pc0 := 66) (pc' := 73) rfl (hb hby d1_66) rfl (Jvm.Free.XT.ii_ne_t hc37) (by decide) (by decide) ?_
                    show Steps p.tables e below (s₁.setTop (mkF m 73 #[.val (.int p1)] [])) _
                    refine XS.iloadN X0.here hx rfl (hb hby d1_73) rfl ?_
                    show Steps p.tables e below (s₁.setTop (mkF m 74 #[.val (.int p1)] [(.int p1)])) _
                    refine XS.bipush X0.here hx rfl (hb hby d1_74) ?_
                    show Steps p.tables e below (s₁.setTop (mkF m 76 #[.val (.int p1)] [(.int (8 : Int32)), (.int p1)])) _
                    exact k
                  by_cases hc42 : p1 = (8 : Int32)
                  · have go43 : Goes p e below s₁ (entryFrame m #[(.int p1)] 1) s₁ (mkF m 79 #[.val (.int p1)] []) := fun t k => by
                      refine go41 t ?_
                      refine XS.icmpNo X0.here hx rfl (hb hby d1_76) rfl (Jvm.Free.XT.ii_ne_f hc42) ?_
                      show Steps p.tables e below (s₁.setTop (mkF m 79 #[.val (.int p1)] [])) _
                      exact k
                    obtain ⟨T44, X44, e44, st44⟩ := getS2 X0 hx hZ hown (host := "") (Or.inl (hw _ (List.mem_of_getElem? (i := 22) rfl))) Via.refl e0 (S_ADDENDUM.ext O0.2) (g := (mkF m 79 #[.val (.int p1)] [])) rfl (hb hby d1_79)
                    have go45 : Goes p e below s₁ (entryFrame m #[(.int p1)] 1) T44 (mkF m 82 #[.val (.int p1)] [(.ref (r 8))]) := fun t k => go43 t (st44 t k)
                    obtain ⟨fs, hr, hrun, hended, hW, hsame⟩ := X44.leave (v := some (.ref (r 8))) (fun h => by rw [Bd.returns] at h; cases h)
                    refine ⟨_, _, go45 _ ?_, hrun, hended, _, _, rfl, ?_, ⟨_, rfl⟩, hW, hsame.mono (by decide) (by decide)⟩
                    · jvm_step X44.here [X44.here.top, hx, (hb hby d1_82), X44.method', Bd.returns, Value.isRef, FieldType.isReference]
                      first | (intro acts; rw [hr _ acts rfl rfl rfl]) | rw [hr _ _ rfl rfl rfl]
                      exact Steps.refl _
                    · show Q1 Z _ _ _ _ _ T44.heap _
                      rw [e44]
                      exact ⟨by rw [hc42], N0, rfl⟩
                  · have go46 : Goes p e below s₁ (entryFrame m #[(.int p1)] 1) s₁ (mkF m 86 #[.val (.int p1)] [(.int (9 : Int32)), (.int p1)]) := fun t k => by
                      refine go41 t ?_
                      refine XS.icmpYes X0.here hx rfl (pc0 := 76) (pc' := 83) rfl (hb hby d1_76) rfl (Jvm.Free.XT.ii_ne_t hc42) (by decide) (by decide) ?_
                      show Steps p.tables e below (s₁.setTop (mkF m 83 #[.val (.int p1)] [])) _
                      refine XS.iloadN X0.here hx rfl (hb hby d1_83) rfl ?_
                      show Steps p.tables e below (s₁.setTop (mkF m 84 #[.val (.int p1)] [(.int p1)])) _
                      refine XS.bipush X0.here hx rfl (hb hby d1_84) ?_
                      show Steps p.tables e below (s₁.setTop (mkF m 86 #[.val (.int p1)] [(.int (9 : Int32)), (.int p1)])) _
                      exact k
                    by_cases hc47 : p1 = (9 : Int32)
                    · have go48 : Goes p e below s₁ (entryFrame m #[(.int p1)] 1) s₁ (mkF m 89 #[.val (.int p1)] []) := fun t k => by
                        refine go46 t ?_
                        refine XS.icmpNo X0.here hx rfl (hb hby d1_86) rfl (Jvm.Free.XT.ii_ne_f hc47) ?_
                        show Steps p.tables e below (s₁.setTop (mkF m 89 #[.val (.int p1)] [])) _
                        exact k
                      obtain ⟨T49, X49, e49, st49⟩ := getS2 X0 hx hZ hown (host := "") (Or.inl (hw _ (List.mem_of_getElem? (i := 30) rfl))) Via.refl e0 (S_HEADING.ext O0.2) (g := (mkF m 89 #[.val (.int p1)] [])) rfl (hb hby d1_89)
                      have go50 : Goes p e below s₁ (entryFrame m #[(.int p1)] 1) T49 (mkF m 92 #[.val (.int p1)] [(.ref (r 9))]) := fun t k => go48 t (st49 t k)
                      obtain ⟨fs, hr, hrun, hended, hW, hsame⟩ := X49.leave (v := some (.ref (r 9))) (fun h => by rw [Bd.returns] at h; cases h)
                      refine ⟨_, _, go50 _ ?_, hrun, hended, _, _, rfl, ?_, ⟨_, rfl⟩, hW, hsame.mono (by decide) (by decide)⟩
                      · jvm_step X49.here [X49.here.top, hx, (hb hby d1_92), X49.method', Bd.returns, Value.isRef, FieldType.isReference]
                        first | (intro acts; rw [hr _ acts rfl rfl rfl]) | rw [hr _ _ rfl rfl rfl]
                        exact Steps.refl _
                      · show Q1 Z _ _ _ _ _ T49.heap _
                        rw [e49]
                        exact ⟨by rw [hc47], N0, rfl⟩
                    · have go51 : Goes p e below s₁ (entryFrame m #[(.int p1)] 1) s₁ (mkF m 93 #[.val (.int p1)] []) := fun t k => by
                        refine go46 t ?_
                        refine XS.icmpYes X0.here hx rfl (pc0 := 86) (pc' := 93) rfl (hb hby d1_86) rfl (Jvm.Free.XT.ii_ne_t hc47) (by decide) (by decide) ?_
                        show Steps p.tables e below (s₁.setTop (mkF m 93 #[.val (.int p1)] [])) _
                        exact k
                      obtain ⟨T52, X52, e52, st52⟩ := getS2 X0 hx hZ hown (host := "") (Or.inl (hw _ (List.mem_of_getElem? (i := 26) rfl))) Via.refl e0 (S_CONTENTS.ext O0.2) (g := (mkF m 93 #[.val (.int p1)] [])) rfl (hb hby d1_93)
                      have go53 : Goes p e below s₁ (entryFrame m #[(.int p1)] 1) T52 (mkF m 96 #[.val (.int p1)] [(.ref (r 10))]) := fun t k => go51 t (st52 t k)
                      obtain ⟨fs, hr, hrun, hended, hW, hsame⟩ := X52.leave (v := some (.ref (r 10))) (fun h => by rw [Bd.returns] at h; cases h)
                      have hten : p1 = 10 := by simpa [own_K, hc2, hc7, hc12, hc17, hc22, hc27, hc32, hc37, hc42, hc47] using hk
                      refine ⟨_, _, go53 _ ?_, hrun, hended, _, _, rfl, ?_, ⟨_, rfl⟩, hW, hsame.mono (by decide) (by decide)⟩
                      · jvm_step X52.here [X52.here.top, hx, (hb hby d1_96), X52.method', Bd.returns, Value.isRef, FieldType.isReference]
                        first | (intro acts; rw [hr _ acts rfl rfl rfl]) | rw [hr _ _ rfl rfl rfl]
                        exact Steps.refl _
                      · show Q1 Z _ _ _ _ _ T52.heap _
                        rw [e52]
                        exact ⟨by rw [hten], N0, rfl⟩
theorem d2_0 : decode prog_38_method_7_code 0 = .ok (.aload_n 0, 1) := by decide +kernel
theorem d2_1 : decode prog_38_method_7_code 1 = .ok (.getfield 56, 3) := by decide +kernel
theorem d2_4 : decode prog_38_method_7_code 4 = .ok (.ifnull 7, 3) := by decide +kernel
theorem d2_7 : decode prog_38_method_7_code 7 = .ok (.iconst 1, 1) := by decide +kernel
theorem d2_8 : decode prog_38_method_7_code 8 = .ok (.goto 4, 3) := by decide +kernel
theorem d2_11 : decode prog_38_method_7_code 11 = .ok (.iconst 0, 1) := by decide +kernel
theorem d2_12 : decode prog_38_method_7_code 12 = .ok (.ireturn, 1) := by decide +kernel
theorem pn_1 : plainName "com/example/whereas/whereas/model/Heading$Kind" = true := by first | (simp [plainName, overriddenIn]; done) | decide +kernel
theorem ef_rm2 (m : MethodId) (a1 : Addr) : entryFrame m #[(.ref a1)] 1 = mkF m 0 #[.val (.ref a1)] [] := by first | (simp [entryFrame, mkF, argsToLocals, Value.category]; done) | rfl
def Q2 (Z : State) (a1 : Addr) (pv : Value) (h0 : Heap) (n0 : Nat) (v : Option Value) (h : Heap) (L : List Loc) : Prop := v = some (.int (if pv = .null then 0 else 1)) ∧ Fr n0 L ∧ h = h0
set_option maxRecDepth 65536 in
set_option maxHeartbeats 40000000 in
theorem rm2 (l : Launch) (Z : State) (a0 : Array Value) (hw : ∀ d ∈ tables_1, d.before a0 Z = true) (ws : List Jvm.Cond) (a1 : Addr) (pv : Value) (h0 : Heap) (n0 : Nat) (Z0 : n0 ≤ h0.size) (F1 : Fld Z h0 a1 "com/example/whereas/whereas/model/Heading$Kind" "plural" "Ljava/lang/String;" pv) (hpv : pv.isRef = true) :
    MetFree l (⟨"com/example/whereas/whereas/model/Heading$Kind", "isLabel", "()Z"⟩ : MethodName) (head1 (Jvm.Cond.code (⟨"com/example/whereas/whereas/model/Heading$Kind", "isLabel", "()Z"⟩ : MethodName) prog_38_method_7_code 1 (some .boolean) :: ws) ({ frames := 0, cells := 0, slots := 0, locals := 0 } : Room)) (fun a U => a = #[(.ref a1)] ∧ Z.Warmed39 U.vm ∧ U.heap = h0) (fun _ _ _ _ _ => True) (fun _ U o U' => ∃ v L, o = .returned v ∧ Q2 Z a1 pv h0 n0 v U'.heap L ∧ FrameEnd U o U' L ({ frames := 0, cells := 0, slots := 0, locals := 0 } : Room).cells ({ frames := 0, cells := 0, slots := 0, locals := 0 } : Room).slots) := by
  refine MetFree.of_bodySF (plainFor_of_name pn_1) hisR ?_
  intro p e s m args below meth c s₁ Bd hml0 hP hK
  obtain ⟨rfl, hZ, hh⟩ := hP
  have hx := Bd.exec
  have hby := Bd.bytes
  have hml : c.maxLocals = 1 := hml0
  have hown : s.vm.findClass "com/example/whereas/whereas/model/Heading$Kind" = some m.cls := findClass_of_methodNamed Bd.named
  have hnm := (name_of_methodNamed Bd.named Bd.method).1
  have X0 : Stand p l e ({ frames := 0, cells := 0, slots := 0, locals := 0 } : Room) s m #[(.ref a1)] below meth c s₁ [] 0 0 := Stand.of_body Bd
  have e0 : s₁.heap = h0 := by rw [← hh, Bd.state]; rfl
  have N0 := Fr.nil n0
  have K0 := Keep.refl h0 []
  have go0 : Goes p e below s₁ (entryFrame m #[(.ref a1)] 1) s₁ (mkF m 0 #[.val (.ref a1)] []) := fun t k => castTop (ef_rm2 m a1) k
  rcases ref_cases hpv with rfl | ⟨w2, rfl⟩
  · have go1 : Goes p e below s₁ (entryFrame m #[(.ref a1)] 1) s₁ (mkF m 1 #[.val (.ref a1)] [(.ref a1)]) := fun t k => by
      refine go0 t ?_
      refine XS.aloadN X0.here hx rfl (hb hby d2_0) rfl rfl ?_
      show Steps p.tables e below (s₁.setTop (mkF m 1 #[.val (.ref a1)] [(.ref a1)])) _
      exact k
    obtain ⟨T2, X2, e2, st2⟩ := getF X0 hx hZ hown (host := "") (Or.inl (hw _ (List.mem_of_getElem? (i := 13) rfl))) Via.refl e0 F1 (g := (mkF m 1 #[.val (.ref a1)] [(.ref a1)])) rfl rfl (hb hby d2_1)
    have go3 : Goes p e below s₁ (entryFrame m #[(.ref a1)] 1) T2 (mkF m 4 #[.val (.ref a1)] [.null]) := fun t k => go1 t (st2 t k)
    have go4 : Goes p e below s₁ (entryFrame m #[(.ref a1)] 1) T2 (mkF m 12 #[.val (.ref a1)] [(.int (0 : Int32))]) := fun t k => by
      refine go3 t ?_
      refine XS.ifnullYes X2.here hx rfl (pc0 := 4) (pc' := 11) rfl (hb hby d2_4) rfl (by decide) (by decide) ?_
      show Steps p.tables e below (T2.setTop (mkF m 11 #[.val (.ref a1)] [])) _
      refine XS.iconst X2.here hx rfl (hb hby d2_11) ?_
      show Steps p.tables e below (T2.setTop (mkF m 12 #[.val (.ref a1)] [(.int (0 : Int32))])) _
      exact k
    obtain ⟨fs, hr, hrun, hended, hW, hsame⟩ := X2.leave (v := some (.int (0 : Int32))) (fun h => by rw [Bd.returns] at h; cases h)
    refine ⟨_, _, go4 _ ?_, hrun, hended, _, _, rfl, ?_, ⟨_, rfl⟩, hW, hsame.mono (by decide) (by decide)⟩
    · exact retN X2 hx (t := .boolean) Bd.returns (by simp) (hb hby d2_12) hr
    · show Q2 Z _ _ _ _ _ T2.heap _
      rw [e2]
      exact ⟨by simp, N0, rfl⟩
  · have go5 : Goes p e below s₁ (entryFrame m #[(.ref a1)] 1) s₁ (mkF m 1 #[.val (.ref a1)] [(.ref a1)]) := fun t k => by
      refine go0 t ?_
      refine XS.aloadN X0.here hx rfl (hb hby d2_0) rfl rfl ?_
      show Steps p.tables e below (s₁.setTop (mkF m 1 #[.val (.ref a1)] [(.ref a1)])) _
      exact k
    obtain ⟨T6, X6, e6, st6⟩ := getF X0 hx hZ hown (host := "") (Or.inl (hw _ (List.mem_of_getElem? (i := 13) rfl))) Via.refl e0 F1 (g := (mkF m 1 #[.val (.ref a1)] [(.ref a1)])) rfl rfl (hb hby d2_1)
    have go7 : Goes p e below s₁ (entryFrame m #[(.ref a1)] 1) T6 (mkF m 4 #[.val (.ref a1)] [(.ref w2)]) := fun t k => go5 t (st6 t k)
    have go8 : Goes p e below s₁ (entryFrame m #[(.ref a1)] 1) T6 (mkF m 12 #[.val (.ref a1)] [(.int (1 : Int32))]) := fun t k => by
      refine go7 t ?_
      refine XS.ifnullNo X6.here hx rfl (hb hby d2_4) rfl ?_
      show Steps p.tables e below (T6.setTop (mkF m 7 #[.val (.ref a1)] [])) _
      refine XS.iconst X6.here hx rfl (hb hby d2_7) ?_
      show Steps p.tables e below (T6.setTop (mkF m 8 #[.val (.ref a1)] [(.int (1 : Int32))])) _
      refine XS.goto X6.here hx rfl (pc0 := 8) (pc' := 12) rfl (hb hby d2_8) (by decide) (by decide) ?_
      show Steps p.tables e below (T6.setTop (mkF m 12 #[.val (.ref a1)] [(.int (1 : Int32))])) _
      exact k
    obtain ⟨fs, hr, hrun, hended, hW, hsame⟩ := X6.leave (v := some (.int (1 : Int32))) (fun h => by rw [Bd.returns] at h; cases h)
    refine ⟨_, _, go8 _ ?_, hrun, hended, _, _, rfl, ?_, ⟨_, rfl⟩, hW, hsame.mono (by decide) (by decide)⟩
    · exact retN X6 hx (t := .boolean) Bd.returns (by simp) (hb hby d2_12) hr
    · show Q2 Z _ _ _ _ _ T6.heap _
      rw [e6]
      exact ⟨by simp, N0, rfl⟩
theorem d3_0 : decode method_3_code 0 = .ok (.iload_n 0, 1) := by decide +kernel
theorem d3_1 : decode method_3_code 1 = .ok (.iconst 3, 1) := by decide +kernel
theorem d3_2 : decode method_3_code 2 = .ok (.if_icmp .ne 5, 3) := by decide +kernel
theorem d3_5 : decode method_3_code 5 = .ok (.iconst 0, 1) := by decide +kernel
theorem d3_6 : decode method_3_code 6 = .ok (.ireturn, 1) := by decide +kernel
theorem d3_7 : decode method_3_code 7 = .ok (.iload_n 0, 1) := by decide +kernel
theorem d3_8 : decode method_3_code 8 = .ok (.bipush 9, 2) := by decide +kernel
theorem d3_10 : decode method_3_code 10 = .ok (.if_icmp .ne 5, 3) := by decide +kernel
theorem d3_13 : decode method_3_code 13 = .ok (.iconst 0, 1) := by decide +kernel
theorem d3_14 : decode method_3_code 14 = .ok (.ireturn, 1) := by decide +kernel
theorem d3_15 : decode method_3_code 15 = .ok (.iload_n 0, 1) := by decide +kernel
theorem d3_16 : decode method_3_code 16 = .ok (.bipush 10, 2) := by decide +kernel
theorem d3_18 : decode method_3_code 18 = .ok (.if_icmp .ne 5, 3) := by decide +kernel
theorem d3_21 : decode method_3_code 21 = .ok (.iconst 0, 1) := by decide +kernel
theorem d3_22 : decode method_3_code 22 = .ok (.ireturn, 1) := by decide +kernel
theorem d3_23 : decode method_3_code 23 = .ok (.iconst 1, 1) := by decide +kernel
theorem d3_24 : decode method_3_code 24 = .ok (.ireturn, 1) := by decide +kernel
theorem ef_rm3 (m : MethodId) (p1 : Int32) : entryFrame m #[(.int p1)] 1 = mkF m 0 #[.val (.int p1)] [] := by first | (simp [entryFrame, mkF, argsToLocals, Value.category]; done) | rfl
def Q3 (Z : State) (p1 : Int32) (h0 : Heap) (n0 : Nat) (v : Option Value) (h : Heap) (L : List Loc) : Prop := v = some (.int (if p1 = 3 ∨ p1 = 9 ∨ p1 = 10 then 0 else 1)) ∧ Fr n0 L ∧ h = h0
set_option maxRecDepth 65536 in
set_option maxHeartbeats 40000000 in
theorem rm3 (l : Launch) (Z : State) (a0 : Array Value) (hw : ∀ d ∈ tables_1, d.before a0 Z = true) (ws : List Jvm.Cond) (p1 : Int32) (h0 : Heap) (n0 : Nat) (Z0 : n0 ≤ h0.size) :
    MetFree l (⟨"com/example/whereas/whereas/model/KindIsLabelPinLaw", "expectedLabel", "(I)Z"⟩ : MethodName) (head1 (Jvm.Cond.code (⟨"com/example/whereas/whereas/model/KindIsLabelPinLaw", "expectedLabel", "(I)Z"⟩ : MethodName) method_3_code 1 (some .boolean) :: ws) ({ frames := 0, cells := 0, slots := 0, locals := 0 } : Room)) (fun a U => a = #[(.int p1)] ∧ Z.Warmed39 U.vm ∧ U.heap = h0) (fun _ _ _ _ _ => True) (fun _ U o U' => ∃ v L, o = .returned v ∧ Q3 Z p1 h0 n0 v U'.heap L ∧ FrameEnd U o U' L ({ frames := 0, cells := 0, slots := 0, locals := 0 } : Room).cells ({ frames := 0, cells := 0, slots := 0, locals := 0 } : Room).slots) := by
  refine MetFree.of_bodySF (plainFor_of_name pn_0) hisR ?_
  intro p e s m args below meth c s₁ Bd hml0 hP hK
  obtain ⟨rfl, hZ, hh⟩ := hP
  have hx := Bd.exec
  have hby := Bd.bytes
  have hml : c.maxLocals = 1 := hml0
  have hown : s.vm.findClass "com/example/whereas/whereas/model/KindIsLabelPinLaw" = some m.cls := findClass_of_methodNamed Bd.named
  have hnm := (name_of_methodNamed Bd.named Bd.method).1
  have X0 : Stand p l e ({ frames := 0, cells := 0, slots := 0, locals := 0 } : Room) s m #[(.int p1)] below meth c s₁ [] 0 0 := Stand.of_body Bd
  have e0 : s₁.heap = h0 := by rw [← hh, Bd.state]; rfl
  have N0 := Fr.nil n0
  have K0 := Keep.refl h0 []
  have go0 : Goes p e below s₁ (entryFrame m #[(.int p1)] 1) s₁ (mkF m 0 #[.val (.int p1)] []) := fun t k => castTop (ef_rm3 m p1) k
  have go1 : Goes p e below s₁ (entryFrame m #[(.int p1)] 1) s₁ (mkF m 2 #[.val (.int p1)] [(.int (3 : Int32)), (.int p1)]) := fun t k => by
    refine go0 t ?_
    refine XS.iloadN X0.here hx rfl (hb hby d3_0) rfl ?_
    show Steps p.tables e below (s₁.setTop (mkF m 1 #[.val (.int p1)] [(.int p1)])) _
    refine XS.iconst X0.here hx rfl (hb hby d3_1) ?_
    show Steps p.tables e below (s₁.setTop (mkF m 2 #[.val (.int p1)] [(.int (3 : Int32)), (.int p1)])) _
    exact k
  by_cases hc2 : p1 = (3 : Int32)
  · have go3 : Goes p e below s₁ (entryFrame m #[(.int p1)] 1) s₁ (mkF m 6 #[.val (.int p1)] [(.int (0 : Int32))]) := fun t k => by
      refine go1 t ?_
      refine XS.icmpNo X0.here hx rfl (hb hby d3_2) rfl (Jvm.Free.XT.ii_ne_f hc2) ?_
      show Steps p.tables e below (s₁.setTop (mkF m 5 #[.val (.int p1)] [])) _
      refine XS.iconst X0.here hx rfl (hb hby d3_5) ?_
      show Steps p.tables e below (s₁.setTop (mkF m 6 #[.val (.int p1)] [(.int (0 : Int32))])) _
      exact k
    obtain ⟨fs, hr, hrun, hended, hW, hsame⟩ := X0.leave (v := some (.int (0 : Int32))) (fun h => by rw [Bd.returns] at h; cases h)
    refine ⟨_, _, go3 _ ?_, hrun, hended, _, _, rfl, ?_, ⟨_, rfl⟩, hW, hsame.mono (by decide) (by decide)⟩
    · exact retN X0 hx (t := .boolean) Bd.returns (by simp) (hb hby d3_6) hr
    · show Q3 Z _ _ _ _ s₁.heap _
      rw [e0]
      exact ⟨by simp [hc2], N0, rfl⟩
  · have go4 : Goes p e below s₁ (entryFrame m #[(.int p1)] 1) s₁ (mkF m 10 #[.val (.int p1)] [(.int (9 : Int32)), (.int p1)]) := fun t k => by
      refine go1 t ?_
      refine XS.icmpYes X0.here hx rfl (pc0 := 2) (pc' := 7) rfl (hb hby d3_2) rfl (Jvm.Free.XT.ii_ne_t hc2) (by decide) (by decide) ?_
      show Steps p.tables e below (s₁.setTop (mkF m 7 #[.val (.int p1)] [])) _
      refine XS.iloadN X0.here hx rfl (hb hby d3_7) rfl ?_
      show Steps p.tables e below (s₁.setTop (mkF m 8 #[.val (.int p1)] [(.int p1)])) _
      refine XS.bipush X0.here hx rfl (hb hby d3_8) ?_
      show Steps p.tables e below (s₁.setTop (mkF m 10 #[.val (.int p1)] [(.int (9 : Int32)), (.int p1)])) _
      exact k
    by_cases hc5 : p1 = (9 : Int32)
    · have go6 : Goes p e below s₁ (entryFrame m #[(.int p1)] 1) s₁ (mkF m 14 #[.val (.int p1)] [(.int (0 : Int32))]) := fun t k => by
        refine go4 t ?_
        refine XS.icmpNo X0.here hx rfl (hb hby d3_10) rfl (Jvm.Free.XT.ii_ne_f hc5) ?_
        show Steps p.tables e below (s₁.setTop (mkF m 13 #[.val (.int p1)] [])) _
        refine XS.iconst X0.here hx rfl (hb hby d3_13) ?_
        show Steps p.tables e below (s₁.setTop (mkF m 14 #[.val (.int p1)] [(.int (0 : Int32))])) _
        exact k
      obtain ⟨fs, hr, hrun, hended, hW, hsame⟩ := X0.leave (v := some (.int (0 : Int32))) (fun h => by rw [Bd.returns] at h; cases h)
      refine ⟨_, _, go6 _ ?_, hrun, hended, _, _, rfl, ?_, ⟨_, rfl⟩, hW, hsame.mono (by decide) (by decide)⟩
      · exact retN X0 hx (t := .boolean) Bd.returns (by simp) (hb hby d3_14) hr
      · show Q3 Z _ _ _ _ s₁.heap _
        rw [e0]
        exact ⟨by simp [hc2, hc5], N0, rfl⟩
    · have go7 : Goes p e below s₁ (entryFrame m #[(.int p1)] 1) s₁ (mkF m 18 #[.val (.int p1)] [(.int (10 : Int32)), (.int p1)]) := fun t k => by
        refine go4 t ?_
        refine XS.icmpYes X0.here hx rfl (pc0 := 10) (pc' := 15) rfl (hb hby d3_10) rfl (Jvm.Free.XT.ii_ne_t hc5) (by decide) (by decide) ?_
        show Steps p.tables e below (s₁.setTop (mkF m 15 #[.val (.int p1)] [])) _
        refine XS.iloadN X0.here hx rfl (hb hby d3_15) rfl ?_
        show Steps p.tables e below (s₁.setTop (mkF m 16 #[.val (.int p1)] [(.int p1)])) _
        refine XS.bipush X0.here hx rfl (hb hby d3_16) ?_
        show Steps p.tables e below (s₁.setTop (mkF m 18 #[.val (.int p1)] [(.int (10 : Int32)), (.int p1)])) _
        exact k
      by_cases hc8 : p1 = (10 : Int32)
      · have go9 : Goes p e below s₁ (entryFrame m #[(.int p1)] 1) s₁ (mkF m 22 #[.val (.int p1)] [(.int (0 : Int32))]) := fun t k => by
          refine go7 t ?_
          refine XS.icmpNo X0.here hx rfl (hb hby d3_18) rfl (Jvm.Free.XT.ii_ne_f hc8) ?_
          show Steps p.tables e below (s₁.setTop (mkF m 21 #[.val (.int p1)] [])) _
          refine XS.iconst X0.here hx rfl (hb hby d3_21) ?_
          show Steps p.tables e below (s₁.setTop (mkF m 22 #[.val (.int p1)] [(.int (0 : Int32))])) _
          exact k
        obtain ⟨fs, hr, hrun, hended, hW, hsame⟩ := X0.leave (v := some (.int (0 : Int32))) (fun h => by rw [Bd.returns] at h; cases h)
        refine ⟨_, _, go9 _ ?_, hrun, hended, _, _, rfl, ?_, ⟨_, rfl⟩, hW, hsame.mono (by decide) (by decide)⟩
        · exact retN X0 hx (t := .boolean) Bd.returns (by simp) (hb hby d3_22) hr
        · show Q3 Z _ _ _ _ s₁.heap _
          rw [e0]
          exact ⟨by simp [hc2, hc5, hc8], N0, rfl⟩
      · have go10 : Goes p e below s₁ (entryFrame m #[(.int p1)] 1) s₁ (mkF m 24 #[.val (.int p1)] [(.int (1 : Int32))]) := fun t k => by
          refine go7 t ?_
          refine XS.icmpYes X0.here hx rfl (pc0 := 18) (pc' := 23) rfl (hb hby d3_18) rfl (Jvm.Free.XT.ii_ne_t hc8) (by decide) (by decide) ?_
          show Steps p.tables e below (s₁.setTop (mkF m 23 #[.val (.int p1)] [])) _
          refine XS.iconst X0.here hx rfl (hb hby d3_23) ?_
          show Steps p.tables e below (s₁.setTop (mkF m 24 #[.val (.int p1)] [(.int (1 : Int32))])) _
          exact k
        obtain ⟨fs, hr, hrun, hended, hW, hsame⟩ := X0.leave (v := some (.int (1 : Int32))) (fun h => by rw [Bd.returns] at h; cases h)
        refine ⟨_, _, go10 _ ?_, hrun, hended, _, _, rfl, ?_, ⟨_, rfl⟩, hW, hsame.mono (by decide) (by decide)⟩
        · exact retN X0 hx (t := .boolean) Bd.returns (by simp) (hb hby d3_24) hr
        · show Q3 Z _ _ _ _ s₁.heap _
          rw [e0]
          exact ⟨by simp [hc2, hc5, hc8], N0, rfl⟩
theorem own_K_of (x : Int32) : own_K ((x &&& 2147483647) % 11) := by
  obtain ⟨h1, h2⟩ := own_rem x 11 (by decide)
  have e11 : (11 : Int32).toInt = 11 := rfl
  rw [e11] at h2
  generalize hz : ((x &&& 2147483647) % 11) = z at *
  have : z.toInt = 0 ∨ z.toInt = 1 ∨ z.toInt = 2 ∨ z.toInt = 3 ∨ z.toInt = 4 ∨ z.toInt = 5 ∨ z.toInt = 6 ∨ z.toInt = 7 ∨ z.toInt = 8 ∨ z.toInt = 9 ∨ z.toInt = 10 := by omega
  unfold own_K
  rcases this with h | h | h | h | h | h | h | h | h | h | h <;> (have := own_of_toInt h; subst this; decide)
theorem pd_0 : parseMethodDescriptor "(I)Lcom/example/whereas/whereas/model/Heading$Kind;" = some ⟨[.int], some (.object "com/example/whereas/whereas/model/Heading$Kind")⟩ := by decide +kernel
theorem pd_1 : parseMethodDescriptor "()Z" = some ⟨[], some .boolean⟩ := by decide +kernel
theorem pd_2 : parseMethodDescriptor "(I)Z" = some ⟨[.int], some .boolean⟩ := by decide +kernel
theorem ef_rm0 (m : MethodId) (p1 : Int32) : entryFrame m #[(.int p1)] maxLocals = mkF m 0 #[.val (.int p1), .unset, .unset] [] := by first | (simp [entryFrame, mkF, argsToLocals, Value.category, maxLocals]; done) | rfl
def Q0 (Z : State) (p1 : Int32) (r : Int32 → Addr) (pv : Int32 → Value) (h0 : Heap) (n0 : Nat) (v : Option Value) (h : Heap) (L : List Loc) : Prop := v = some (.int 1) ∧ Fr n0 L
set_option maxRecDepth 65536 in
set_option maxHeartbeats 40000000 in
theorem rm0 (l : Launch) (Z : State) (a0 : Array Value) (hw : ∀ d ∈ tables_1, d.before a0 Z = true) (ws : List Jvm.Cond) (p1 : Int32) (r : Int32 → Addr) (pv : Int32 → Value) (h0 : Heap) (n0 : Nat) (Z0 : n0 ≤ h0.size) (O0 : Old Z n0 h0) (S_ARTICLE : Sta Z Z.heap "com/example/whereas/whereas/model/Heading$Kind" "ARTICLE" "Lcom/example/whereas/whereas/model/Heading$Kind;" (.ref (r 0))) (S_SECTION : Sta Z Z.heap "com/example/whereas/whereas/model/Heading$Kind" "SECTION" "Lcom/example/whereas/whereas/model/Heading$Kind;" (.ref (r 1))) (S_PARAGRAPH : Sta Z Z.heap "com/example/whereas/whereas/model/Heading$Kind" "PARAGRAPH" "Lcom/example/whereas/whereas/model/Heading$Kind;" (.ref (r 2))) (S_RECITAL : Sta Z Z.heap "com/example/whereas/whereas/model/Heading$Kind" "RECITAL" "Lcom/example/whereas/whereas/model/Heading$Kind;" (.ref (r 3))) (S_EXHIBIT : Sta Z Z.heap "com/example/whereas/whereas/model/Heading$Kind" "EXHIBIT" "Lcom/example/whereas/whereas/model/Heading$Kind;" (.ref (r 4))) (S_SCHEDULE : Sta Z Z.heap "com/example/whereas/whereas/model/Heading$Kind" "SCHEDULE" "Lcom/example/whereas/whereas/model/Heading$Kind;" (.ref (r 5))) (S_APPENDIX : Sta Z Z.heap "com/example/whereas/whereas/model/Heading$Kind" "APPENDIX" "Lcom/example/whereas/whereas/model/Heading$Kind;" (.ref (r 6))) (S_ANNEX : Sta Z Z.heap "com/example/whereas/whereas/model/Heading$Kind" "ANNEX" "Lcom/example/whereas/whereas/model/Heading$Kind;" (.ref (r 7))) (S_ADDENDUM : Sta Z Z.heap "com/example/whereas/whereas/model/Heading$Kind" "ADDENDUM" "Lcom/example/whereas/whereas/model/Heading$Kind;" (.ref (r 8))) (S_HEADING : Sta Z Z.heap "com/example/whereas/whereas/model/Heading$Kind" "HEADING" "Lcom/example/whereas/whereas/model/Heading$Kind;" (.ref (r 9))) (S_CONTENTS : Sta Z Z.heap "com/example/whereas/whereas/model/Heading$Kind" "CONTENTS" "Lcom/example/whereas/whereas/model/Heading$Kind;" (.ref (r 10))) (HE : ∀ k, own_K k → Exa Z h0 (r k) "com/example/whereas/whereas/model/Heading$Kind") (HF : ∀ k, own_K k → Fld Z h0 (r k) "com/example/whereas/whereas/model/Heading$Kind" "plural" "Ljava/lang/String;" (pv k)) (HV : ∀ k, own_K k → (pv k).isRef = true) (HQ : ∀ k, own_K k → (pv k = .null ↔ k = 3 ∨ k = 9 ∨ k = 10)) :
    MetFree l x (head1 (Jvm.Cond.code x code maxLocals ret :: ws) room_1) (fun a U => a = #[(.int p1)] ∧ Z.Warmed39 U.vm ∧ U.heap = h0) (fun _ _ _ _ _ => True) (fun _ U o U' => ∃ v L, o = .returned v ∧ Q0 Z p1 r pv h0 n0 v U'.heap L ∧ FrameEnd U o U' L room_1.cells room_1.slots) := by
  refine MetFree.of_bodySF (plainFor_of_name pn_0) hisR ?_
  intro p e s m args below meth c s₁ Bd hml0 hP hK
  obtain ⟨rfl, hZ, hh⟩ := hP
  have hx := Bd.exec
  have hby := Bd.bytes
  have hml : c.maxLocals = 3 := hml0
  have hown : s.vm.findClass "com/example/whereas/whereas/model/KindIsLabelPinLaw" = some m.cls := findClass_of_methodNamed Bd.named
  have hnm := (name_of_methodNamed Bd.named Bd.method).1
  have X0 : Stand p l e room_1 s m #[(.int p1)] below meth c s₁ [] 0 0 := Stand.of_body Bd
  have e0 : s₁.heap = h0 := by rw [← hh, Bd.state]; rfl
  have N0 := Fr.nil n0
  have K0 := Keep.refl h0 []
  have go0 : Goes p e below s₁ (entryFrame m #[(.int p1)] maxLocals) s₁ (mkF m 0 #[.val (.int p1), .unset, .unset] []) := fun t k => castTop (ef_rm0 m p1) k
  have hk : own_K ((p1 &&& (2147483647 : Int32)) % (11 : Int32)) := own_K_of p1
  have go1 : Goes p e below s₁ (entryFrame m #[(.int p1)] maxLocals) s₁ (mkF m 9 #[.val (.int p1), .val (.int ((p1 &&& (2147483647 : Int32)) % (11 : Int32))), .unset] [(.int ((p1 &&& (2147483647 : Int32)) % (11 : Int32)))]) := fun t k => by
    refine go0 t ?_
    refine XS.iloadN X0.here hx rfl (hb hby at_0) rfl ?_
    show Steps p.tables e below (s₁.setTop (mkF m 1 #[.val (.int p1), .unset, .unset] [(.int p1)])) _
    refine X0.ldcInt hx hown (mvT hZ (hw _ (List.mem_of_getElem? (i := 0) rfl))) (g := (mkF m 1 #[.val (.int p1), .unset, .unset] [(.int p1)])) rfl (hb hby at_1) _ ?_
    show Steps p.tables e below (s₁.setTop (mkF m 3 #[.val (.int p1), .unset, .unset] [(.int (2147483647 : Int32)), (.int p1)])) _
    refine XS.iand X0.here hx rfl (hb hby at_3) rfl ?_
    show Steps p.tables e below (s₁.setTop (mkF m 4 #[.val (.int p1), .unset, .unset] [(.int (p1 &&& (2147483647 : Int32)))])) _
    refine XS.bipush X0.here hx rfl (hb hby at_4) ?_
    show Steps p.tables e below (s₁.setTop (mkF m 6 #[.val (.int p1), .unset, .unset] [(.int (11 : Int32)), (.int (p1 &&& (2147483647 : Int32)))])) _
    refine iremM X0 hx rfl (hb hby at_6) rfl (by decide) ?_
    show Steps p.tables e below (s₁.setTop (mkF m 7 #[.val (.int p1), .unset, .unset] [(.int ((p1 &&& (2147483647 : Int32)) % (11 : Int32)))])) _
    refine XS.istoreN X0.here hx rfl (hb hby at_7) rfl (l' := #[.val (.int p1), .val (.int ((p1 &&& (2147483647 : Int32)) % (11 : Int32))), .unset]) rfl ?_
    show Steps p.tables e below (s₁.setTop (mkF m 8 #[.val (.int p1), .val (.int ((p1 &&& (2147483647 : Int32)) % (11 : Int32))), .unset] [])) _
    refine XS.iloadN X0.here hx rfl (hb hby at_8) rfl ?_
    show Steps p.tables e below (s₁.setTop (mkF m 9 #[.val (.int p1), .val (.int ((p1 &&& (2147483647 : Int32)) % (11 : Int32))), .unset] [(.int ((p1 &&& (2147483647 : Int32)) % (11 : Int32)))])) _
    exact k
  obtain ⟨_, _, ⟨T2, L2, k2, n2⟩, -, X2, ⟨Lc2, hQ2, l2, y2, z2⟩, st2⟩ := Jvm.LawKit.callS X0 hx (y := (⟨"com/example/whereas/whereas/model/KindIsLabelPinLaw", "pick", "(I)Lcom/example/whereas/whereas/model/Heading$Kind;"⟩ : MethodName)) hown (mvT hZ (hw _ (List.mem_of_getElem? (i := 1) rfl))) (mvT hZ (hw _ (List.mem_of_getElem? (i := 2) rfl))) (mvT hZ (hw _ (List.mem_of_getElem? (i := 3) rfl))) (mvT hZ (hw _ (List.mem_of_getElem? (i := 4) rfl))) (by decide) (backOf (W := 0) (rm1 l Z a0 hw [] ((p1 &&& (2147483647 : Int32)) % (11 : Int32)) r h0 n0 Z0 O0 S_ARTICLE S_SECTION S_PARAGRAPH S_RECITAL S_EXHIBIT S_SCHEDULE S_APPENDIX S_ANNEX S_ADDENDUM S_HEADING S_CONTENTS hk) hZ (hw _ (List.mem_of_getElem? (i := 4) rfl)) (hw _ (List.mem_of_getElem? (i := 3) rfl)) (by decide) (by decide)) (g := (mkF m 9 #[.val (.int p1), .val (.int ((p1 &&& (2147483647 : Int32)) % (11 : Int32))), .unset] [(.int ((p1 &&& (2147483647 : Int32)) % (11 : Int32)))])) rfl (by rw [hml]; rfl) (argsL := [(.int ((p1 &&& (2147483647 : Int32)) % (11 : Int32)))]) (rest := []) (lenOf pd_0 rfl) rfl (by show 2 * 0 + _ ≤ _; exact Nat.le_of_eq rfl) (hb hby at_9) (fun _ _ => ⟨rfl, e0, (by decide : 0 + 0 ≤ room_1.cells), (by decide : 0 + 0 ≤ room_1.slots)⟩)
  dsimp only [Pt.U, Pt.locs, Pt.cells, Pt.slots] at X2 l2 y2 z2 st2 hQ2
  subst l2 y2 z2
  obtain ⟨rfl, N2q, e2⟩ := hQ2
  have N2 := Fr.app N0 N2q
  have go3 : Goes p e below s₁ (entryFrame m #[(.int p1)] maxLocals) T2 (mkF m 12 #[.val (.int p1), .val (.int ((p1 &&& (2147483647 : Int32)) % (11 : Int32))), .unset] [(.ref (r ((p1 &&& (2147483647 : Int32)) % (11 : Int32))))]) := fun t k => go1 t (st2 t k)
  have go4 : Goes p e below s₁ (entryFrame m #[(.int p1)] maxLocals) T2 (mkF m 14 #[.val (.int p1), .val (.int ((p1 &&& (2147483647 : Int32)) % (11 : Int32))), .val (.ref (r ((p1 &&& (2147483647 : Int32)) % (11 : Int32))))] [(.ref (r ((p1 &&& (2147483647 : Int32)) % (11 : Int32))))]) := fun t k => by
    refine go3 t ?_
    refine XS.astoreN X2.here hx rfl (hb hby at_12) rfl rfl (l' := #[.val (.int p1), .val (.int ((p1 &&& (2147483647 : Int32)) % (11 : Int32))), .val (.ref (r ((p1 &&& (2147483647 : Int32)) % (11 : Int32))))]) rfl ?_
    show Steps p.tables e below (T2.setTop (mkF m 13 #[.val (.int p1), .val (.int ((p1 &&& (2147483647 : Int32)) % (11 : Int32))), .val (.ref (r ((p1 &&& (2147483647 : Int32)) % (11 : Int32))))] [])) _
    refine XS.aloadN X2.here hx rfl (hb hby at_13) rfl rfl ?_
    show Steps p.tables e below (T2.setTop (mkF m 14 #[.val (.int p1), .val (.int ((p1 &&& (2147483647 : Int32)) % (11 : Int32))), .val (.ref (r ((p1 &&& (2147483647 : Int32)) % (11 : Int32))))] [(.ref (r ((p1 &&& (2147483647 : Int32)) % (11 : Int32))))])) _
    exact k
  obtain ⟨cq5, kq5, q5a, q5b, q5c⟩ := isOf hZ e2 (HE _ hk)
  obtain ⟨_, _, ⟨T5, L5, k5, n5⟩, -, X5, ⟨Lc5, hQ5, l5, y5, z5⟩, st5⟩ := X2.virtualBack hx (y := (⟨"com/example/whereas/whereas/model/Heading$Kind", "isLabel", "()Z"⟩ : MethodName)) (z := (⟨"com/example/whereas/whereas/model/Heading$Kind", "isLabel", "()Z"⟩ : MethodName)) hown (mvT hZ (hw _ (List.mem_of_getElem? (i := 8) rfl))) (mvT hZ (hw _ (List.mem_of_getElem? (i := 9) rfl))) (notFace_of_selects (args := #[]) (mvT hZ (hw _ (List.mem_of_getElem? (i := 11) rfl)))) (mvT hZ (hw _ (List.mem_of_getElem? (i := 11) rfl))) (mvT hZ (hw _ (List.mem_of_getElem? (i := 10) rfl))) (by decide) (backOf (W := 0) (rm2 l Z a0 hw [] (r ((p1 &&& (2147483647 : Int32)) % (11 : Int32))) (pv ((p1 &&& (2147483647 : Int32)) % (11 : Int32))) h0 n0 Z0 (HF _ hk) (HV _ hk)) hZ (hw _ (List.mem_of_getElem? (i := 12) rfl)) (hw _ (List.mem_of_getElem? (i := 6) rfl)) (by decide) (by decide)) q5a q5c (g := (mkF m 14 #[.val (.int p1), .val (.int ((p1 &&& (2147483647 : Int32)) % (11 : Int32))), .val (.ref (r ((p1 &&& (2147483647 : Int32)) % (11 : Int32))))] [(.ref (r ((p1 &&& (2147483647 : Int32)) % (11 : Int32))))])) rfl (by rw [hml]; rfl) (Steps.refl _) (argsL := []) (rest := []) (lenOf pd_1 rfl) rfl (by show 2 * 0 + _ ≤ _; exact Nat.le_of_eq rfl) (hb hby at_14) (fun _ _ => ⟨rfl, e2, (by decide : 0 + 0 ≤ room_1.cells), (by decide : 0 + 0 ≤ room_1.slots)⟩)
  dsimp only [Pt.U, Pt.locs, Pt.cells, Pt.slots] at X5 l5 y5 z5 st5 hQ5
  subst l5 y5 z5
  obtain ⟨rfl, N5q, e5⟩ := hQ5
  have N5 := Fr.app N2 N5q
  have go6 : Goes p e below s₁ (entryFrame m #[(.int p1)] maxLocals) T5 (mkF m 17 #[.val (.int p1), .val (.int ((p1 &&& (2147483647 : Int32)) % (11 : Int32))), .val (.ref (r ((p1 &&& (2147483647 : Int32)) % (11 : Int32))))] [(.int (if pv ((p1 &&& (2147483647 : Int32)) % (11 : Int32)) = .null then 0 else 1))]) := fun t k => go4 t (st5.trans k)
  have go7 : Goes p e below s₁ (entryFrame m #[(.int p1)] maxLocals) T5 (mkF m 18 #[.val (.int p1), .val (.int ((p1 &&& (2147483647 : Int32)) % (11 : Int32))), .val (.ref (r ((p1 &&& (2147483647 : Int32)) % (11 : Int32))))] [(.int ((p1 &&& (2147483647 : Int32)) % (11 : Int32))), (.int (if pv ((p1 &&& (2147483647 : Int32)) % (11 : Int32)) = .null then 0 else 1))]) := fun t k => by
    refine go6 t ?_
    refine XS.iloadN X5.here hx rfl (hb hby at_17) rfl ?_
    show Steps p.tables e below (T5.setTop (mkF m 18 #[.val (.int p1), .val (.int ((p1 &&& (2147483647 : Int32)) % (11 : Int32))), .val (.ref (r ((p1 &&& (2147483647 : Int32)) % (11 : Int32))))] [(.int ((p1 &&& (2147483647 : Int32)) % (11 : Int32))), (.int (if pv ((p1 &&& (2147483647 : Int32)) % (11 : Int32)) = .null then 0 else 1))])) _
    exact k
  obtain ⟨_, _, ⟨T8, L8, k8, n8⟩, -, X8, ⟨Lc8, hQ8, l8, y8, z8⟩, st8⟩ := Jvm.LawKit.callS X5 hx (y := (⟨"com/example/whereas/whereas/model/KindIsLabelPinLaw", "expectedLabel", "(I)Z"⟩ : MethodName)) hown (mvT hZ (hw _ (List.mem_of_getElem? (i := 15) rfl))) (mvT hZ (hw _ (List.mem_of_getElem? (i := 16) rfl))) (mvT hZ (hw _ (List.mem_of_getElem? (i := 3) rfl))) (mvT hZ (hw _ (List.mem_of_getElem? (i := 17) rfl))) (by decide) (backOf (W := 1) (rm3 l Z a0 hw [] ((p1 &&& (2147483647 : Int32)) % (11 : Int32)) h0 n0 Z0) hZ (hw _ (List.mem_of_getElem? (i := 17) rfl)) (hw _ (List.mem_of_getElem? (i := 3) rfl)) (by decide) (by decide)) (g := (mkF m 18 #[.val (.int p1), .val (.int ((p1 &&& (2147483647 : Int32)) % (11 : Int32))), .val (.ref (r ((p1 &&& (2147483647 : Int32)) % (11 : Int32))))] [(.int ((p1 &&& (2147483647 : Int32)) % (11 : Int32))), (.int (if pv ((p1 &&& (2147483647 : Int32)) % (11 : Int32)) = .null then 0 else 1))])) rfl (by rw [hml]; rfl) (argsL := [(.int ((p1 &&& (2147483647 : Int32)) % (11 : Int32)))]) (rest := [(.int (if pv ((p1 &&& (2147483647 : Int32)) % (11 : Int32)) = .null then 0 else 1))]) (lenOf pd_2 rfl) rfl (by show 2 * 0 + _ ≤ _; exact Nat.le_of_eq rfl) (hb hby at_18) (fun _ _ => ⟨rfl, e5, (by decide : 0 + 0 ≤ room_1.cells), (by decide : 0 + 0 ≤ room_1.slots)⟩)
  dsimp only [Pt.U, Pt.locs, Pt.cells, Pt.slots] at X8 l8 y8 z8 st8 hQ8
  subst l8 y8 z8
  obtain ⟨rfl, N8q, e8⟩ := hQ8
  have N8 := Fr.app N5 N8q
  have go9 : Goes p e below s₁ (entryFrame m #[(.int p1)] maxLocals) T8 (mkF m 21 #[.val (.int p1), .val (.int ((p1 &&& (2147483647 : Int32)) % (11 : Int32))), .val (.ref (r ((p1 &&& (2147483647 : Int32)) % (11 : Int32))))] [(.int (if ((p1 &&& (2147483647 : Int32)) % (11 : Int32)) = 3 ∨ ((p1 &&& (2147483647 : Int32)) % (11 : Int32)) = 9 ∨ ((p1 &&& (2147483647 : Int32)) % (11 : Int32)) = 10 then 0 else 1)), (.int (if pv ((p1 &&& (2147483647 : Int32)) % (11 : Int32)) = .null then 0 else 1))]) := fun t k => go7 t (st8 t k)
  have go10 : Goes p e below s₁ (entryFrame m #[(.int p1)] maxLocals) T8 (mkF m 29 #[.val (.int p1), .val (.int ((p1 &&& (2147483647 : Int32)) % (11 : Int32))), .val (.ref (r ((p1 &&& (2147483647 : Int32)) % (11 : Int32))))] [(.int (1 : Int32))]) := fun t k => by
    refine go9 t ?_
    refine XS.icmpNo X8.here hx rfl (hb hby at_21) rfl (Jvm.Free.XT.ii_ne_f (by simp [HQ _ hk])) ?_
    show Steps p.tables e below (T8.setTop (mkF m 24 #[.val (.int p1), .val (.int ((p1 &&& (2147483647 : Int32)) % (11 : Int32))), .val (.ref (r ((p1 &&& (2147483647 : Int32)) % (11 : Int32))))] [])) _
    refine XS.iconst X8.here hx rfl (hb hby at_24) ?_
    show Steps p.tables e below (T8.setTop (mkF m 25 #[.val (.int p1), .val (.int ((p1 &&& (2147483647 : Int32)) % (11 : Int32))), .val (.ref (r ((p1 &&& (2147483647 : Int32)) % (11 : Int32))))] [(.int (1 : Int32))])) _
    refine XS.goto X8.here hx rfl (pc0 := 25) (pc' := 29) rfl (hb hby at_25) (by decide) (by decide) ?_
    show Steps p.tables e below (T8.setTop (mkF m 29 #[.val (.int p1), .val (.int ((p1 &&& (2147483647 : Int32)) % (11 : Int32))), .val (.ref (r ((p1 &&& (2147483647 : Int32)) % (11 : Int32))))] [(.int (1 : Int32))])) _
    exact k
  obtain ⟨fs, hr, hrun, hended, hW, hsame⟩ := X8.leave (v := some (.int (1 : Int32))) (fun h => by rw [Bd.returns] at h; cases h)
  refine ⟨_, _, go10 _ ?_, hrun, hended, _, _, rfl, ?_, ⟨_, rfl⟩, hW, hsame.mono (by decide) (by decide)⟩
  · exact retN X8 hx (t := .boolean) Bd.returns (by simp) (hb hby at_29) hr
  · show Q0 Z _ _ _ _ _ _ T8.heap _
    rw [e8]
    exact ⟨rfl, N8⟩
set_option maxRecDepth 65536 in
set_option maxHeartbeats 40000000 in
theorem comes_1 {Post : Tables → Env → Array Value → State → Outcome → State → Prop} (hpost : ∀ tb e args s v u, (limb_1_1.after args s (.returned v) u = true ∧ limb_1_2.after args s (.returned v) u = true ∧ True) → FrameEnd s (.returned v) u (Jvm.fieldLocs frame_1_writes args s ++ Jvm.arrayLocs frame_1_arrays args s ++ Jvm.staticLocs frame_1_statics s) 0 0 → Post tb e args s (.returned v) u) :
    ArmFor flags0 classFile x code maxLocals ret World_1 tables_1 room_1 Calls_1 rest_1 Pre_1 Post := by
  intro l hfl _ _ p e ha hc hk s m args below hf hA hF happ hP
  obtain ⟨hcalls, hrest, hpre⟩ := hP
  obtain ⟨-, -, -, hnamed, -, -, -, hat⟩ := (Spec.applies_iff hf).mp happ
  obtain ⟨hg, hn⟩ := and_e (Cond.before_iff.mp (show (Jvm.Cond.and given_1 narrow_1).before args s = true from hpre))
  obtain ⟨hg0, hg⟩ := and_e hg
  have ga0 := hg
  obtain ⟨w0, rfl⟩ : ∃ w0 : Value, args = #[w0] := by
    have hs : args.size = 1 := by simpa [Cond.value, given_1] using hg0
    obtain ⟨L⟩ := args
    match L, hs with
    | [w0], _ => exact ⟨w0, rfl⟩
  have hw := fun d (hd : d ∈ tables_1) => atoms_spec (ws := Jvm.Cond.code x code maxLocals ret :: tables_1) hat d (List.mem_cons_of_mem _ hd)
  have hfit : Fit s := fun {y c} hc i hi => by
    obtain ⟨ha, rfl⟩ := Array.getElem?_eq_some_iff.mp hc
    have q := List.all_eq_true.mp ((Array.all_eq_true_iff_forall_mem.mp hF) _ (Array.getElem_mem ha)) i (List.mem_range.mpr hi)
    simpa [Array.getElem?_eq_getElem hi] using q
  obtain ⟨i0, ei0⟩ := is_v ga0
  obtain rfl : w0 = (.int i0) := Option.some.inj ei0
  obtain ⟨hn0, hn⟩ := and_e hn
  obtain ⟨hn1, hn⟩ := and_e hn
  obtain ⟨hn2, hn⟩ := and_e hn
  obtain ⟨hn3, hn⟩ := and_e hn
  obtain ⟨hn4, hn⟩ := and_e hn
  obtain ⟨hn5, hn⟩ := and_e hn
  obtain ⟨hn6, hn⟩ := and_e hn
  obtain ⟨hn7, hn⟩ := and_e hn
  obtain ⟨hn8, hn⟩ := and_e hn
  obtain ⟨hn9, hn⟩ := and_e hn
  obtain ⟨hn10, hn⟩ := and_e hn
  obtain ⟨hn11, hn⟩ := and_e hn
  obtain ⟨hn12, hn⟩ := and_e hn
  obtain ⟨hn13, hn⟩ := and_e hn
  obtain ⟨hn14, hn⟩ := and_e hn
  obtain ⟨hn15, hn⟩ := and_e hn
  obtain ⟨hn16, hn⟩ := and_e hn
  obtain ⟨hn17, hn⟩ := and_e hn
  obtain ⟨hn18, hn⟩ := and_e hn
  obtain ⟨hn19, hn⟩ := and_e hn
  obtain ⟨hn20, hn⟩ := and_e hn
  have hn21 := hn
  obtain ⟨x_ARTICLE, ev_ARTICLE, S_ARTICLE, E_ARTICLE⟩ := own_sx (hw _ (List.mem_of_getElem? (i := 6) rfl)) (hw _ (List.mem_of_getElem? (i := 7) rfl)) hn0
  obtain ⟨y_ARTICLE, -, F_ARTICLE, -⟩ := own_fx ev_ARTICLE hn1
  obtain ⟨x_RECITAL, ev_RECITAL, S_RECITAL, E_RECITAL⟩ := own_sx (hw _ (List.mem_of_getElem? (i := 6) rfl)) (hw _ (List.mem_of_getElem? (i := 19) rfl)) hn2
  have F_RECITAL := own_fn ev_RECITAL hn3
  obtain ⟨x_ANNEX, ev_ANNEX, S_ANNEX, E_ANNEX⟩ := own_sx (hw _ (List.mem_of_getElem? (i := 6) rfl)) (hw _ (List.mem_of_getElem? (i := 21) rfl)) hn4
  obtain ⟨y_ANNEX, -, F_ANNEX, -⟩ := own_fx ev_ANNEX hn5
  obtain ⟨x_ADDENDUM, ev_ADDENDUM, S_ADDENDUM, E_ADDENDUM⟩ := own_sx (hw _ (List.mem_of_getElem? (i := 6) rfl)) (hw _ (List.mem_of_getElem? (i := 23) rfl)) hn6
  obtain ⟨y_ADDENDUM, -, F_ADDENDUM, -⟩ := own_fx ev_ADDENDUM hn7
  obtain ⟨x_PARAGRAPH, ev_PARAGRAPH, S_PARAGRAPH, E_PARAGRAPH⟩ := own_sx (hw _ (List.mem_of_getElem? (i := 6) rfl)) (hw _ (List.mem_of_getElem? (i := 25) rfl)) hn8
  obtain ⟨y_PARAGRAPH, -, F_PARAGRAPH, -⟩ := own_fx ev_PARAGRAPH hn9
  obtain ⟨x_CONTENTS, ev_CONTENTS, S_CONTENTS, E_CONTENTS⟩ := own_sx (hw _ (List.mem_of_getElem? (i := 6) rfl)) (hw _ (List.mem_of_getElem? (i := 27) rfl)) hn10
  have F_CONTENTS := own_fn ev_CONTENTS hn11
  obtain ⟨x_SECTION, ev_SECTION, S_SECTION, E_SECTION⟩ := own_sx (hw _ (List.mem_of_getElem? (i := 6) rfl)) (hw _ (List.mem_of_getElem? (i := 29) rfl)) hn12
  obtain ⟨y_SECTION, -, F_SECTION, -⟩ := own_fx ev_SECTION hn13
  obtain ⟨x_HEADING, ev_HEADING, S_HEADING, E_HEADING⟩ := own_sx (hw _ (List.mem_of_getElem? (i := 6) rfl)) (hw _ (List.mem_of_getElem? (i := 31) rfl)) hn14
  have F_HEADING := own_fn ev_HEADING hn15
  obtain ⟨x_SCHEDULE, ev_SCHEDULE, S_SCHEDULE, E_SCHEDULE⟩ := own_sx (hw _ (List.mem_of_getElem? (i := 6) rfl)) (hw _ (List.mem_of_getElem? (i := 33) rfl)) hn16
  obtain ⟨y_SCHEDULE, -, F_SCHEDULE, -⟩ := own_fx ev_SCHEDULE hn17
  obtain ⟨x_APPENDIX, ev_APPENDIX, S_APPENDIX, E_APPENDIX⟩ := own_sx (hw _ (List.mem_of_getElem? (i := 6) rfl)) (hw _ (List.mem_of_getElem? (i := 35) rfl)) hn18
  obtain ⟨y_APPENDIX, -, F_APPENDIX, -⟩ := own_fx ev_APPENDIX hn19
  obtain ⟨x_EXHIBIT, ev_EXHIBIT, S_EXHIBIT, E_EXHIBIT⟩ := own_sx (hw _ (List.mem_of_getElem? (i := 6) rfl)) (hw _ (List.mem_of_getElem? (i := 37) rfl)) hn20
  obtain ⟨y_EXHIBIT, -, F_EXHIBIT, -⟩ := own_fx ev_EXHIBIT hn21
  obtain ⟨n, o, h1, h2, h3, _, L, rfl, ⟨rfl, N⟩, hq⟩ := rm0 l s _ hw tables_1 i0 (fun k : Int32 => if k = 0 then x_ARTICLE else if k = 1 then x_SECTION else if k = 2 then x_PARAGRAPH else if k = 3 then x_RECITAL else if k = 4 then x_EXHIBIT else if k = 5 then x_SCHEDULE else if k = 6 then x_APPENDIX else if k = 7 then x_ANNEX else if k = 8 then x_ADDENDUM else if k = 9 then x_HEADING else x_CONTENTS) (fun k : Int32 => if k = 0 then Value.ref y_ARTICLE else if k = 1 then Value.ref y_SECTION else if k = 2 then Value.ref y_PARAGRAPH else if k = 3 then Value.null else if k = 4 then Value.ref y_EXHIBIT else if k = 5 then Value.ref y_SCHEDULE else if k = 6 then Value.ref y_APPENDIX else if k = 7 then Value.ref y_ANNEX else if k = 8 then Value.ref y_ADDENDUM else if k = 9 then Value.null else Value.null) s.heap s.heap.size (Nat.le_refl _) (Old.start s) S_ARTICLE S_SECTION S_PARAGRAPH S_RECITAL S_EXHIBIT S_SCHEDULE S_APPENDIX S_ANNEX S_ADDENDUM S_HEADING S_CONTENTS (by intro k hk; unfold own_K at hk; rcases hk with rfl | rfl | rfl | rfl | rfl | rfl | rfl | rfl | rfl | rfl | rfl <;> assumption) (by intro k hk; unfold own_K at hk; rcases hk with rfl | rfl | rfl | rfl | rfl | rfl | rfl | rfl | rfl | rfl | rfl <;> assumption) (by intro k hk; unfold own_K at hk; rcases hk with rfl | rfl | rfl | rfl | rfl | rfl | rfl | rfl | rfl | rfl | rfl <;> rfl) (by intro k hk; unfold own_K at hk; rcases hk with rfl | rfl | rfl | rfl | rfl | rfl | rfl | rfl | rfl | rfl | rfl <;> simp) p e ha hc hk s m _ below hf ((Spec.applies_iff_loose hf).mp happ).1 ⟨rfl, State.Warmed39.refl s, rfl⟩ trivial
  refine ⟨n, _, h1, h2, h3, hpost _ _ _ _ _ _ ⟨Cond.after_iff.mpr rfl, Cond.after_iff.mpr (eq_i res_at (Term.int_eval (1)) rfl), trivial⟩ ⟨hq.1, hq.2.1, (hq.2.2.sift fun y hy => Or.inr (N y hy)).mono (by decide) (by decide)⟩⟩
theorem main_1_1 : Claimed_1_1 := comes_1 fun _ _ _ _ _ _ h hF => ⟨h.1, hF⟩
theorem main_1_2 : Claimed_1_2 := comes_1 fun _ _ _ _ _ _ h hF => ⟨h.2.1, hF⟩
end Jvm.Pilot.@@N@@
namespace Jvm.Pilot.@@N@@
open Jvm Jvm.ClassFile Sem Op Lib Jvm.Free Jvm.Stand Jvm.Pilot.@@N@@.Jvm.D
/-! MADE BY PROGRAM (witnessworld.py) out of the Statement's table words and the real class files: 15 classes; the members and pool entries that the words name. The judged class is class 1, her method 3. -/
namespace start1
open Jvm.ClassFile
def u (s : String) : CpInfo := .utf8 (stringToUtf16 s)
/-- a pool by its gaps: so many unusable entries, then the entry; so many at the end -/
def gap : Nat → List CpInfo → List CpInfo
  | 0, r => r
  | n + 1, r => .unusable :: gap n r
def poolList (es : List (Nat × CpInfo)) (last : Nat) : List CpInfo := es.foldr (fun e r => gap e.1 (e.2 :: r)) (gap last [])
def pool (es : List (Nat × CpInfo)) (last : Nat) : Array CpInfo := ⟨poolList es last⟩
def fileOf (pool : Array CpInfo) (this : Nat) (attrs : Array Attribute := #[]) (ms : Array MethodInfo := #[]) (fl : Nat := 33) (sup : Nat := 0) (ifs : Array Nat := #[]) (fds : Array FieldInfo := #[]) : ClassFile where
  minorVersion := 0
  majorVersion := 65
  constantPool := pool
  accessFlags := fl
  thisClass := this
  superClass := sup
  interfaces := ifs
  fields := fds
  methods := ms
  attributes := attrs
def plain (name : String) (sup : Option ClassId) : Class where
  name := name
  kind := .ordinary
  loader := none
  accessFlags := 33
  super := sup
  interfaces := #[]
  cf := none
  fields := #[]
  methods := #[]
  instanceTypes := #[]
  staticTypes := #[]
  resolved := #[]
  callSites := []
  init := .initialized
  statics := none
  mirror := none

def pool0 : Array CpInfo := pool [(5, u "<init>"), (0, u "()V"), (1, .class_ 10), (1, u "java/lang/Object")] 113

def k0m0 : Method := { name := "<init>", desc := "()V", sig := { parameters := [], returnType := none }, accessFlags := 1, code := none }
/-- java/lang/Object -/
def k0 : Class := { plain "java/lang/Object" none with
  accessFlags := 33
  interfaces := #[]
  cf := some (fileOf pool0 8 #[] #[{ accessFlags := 1, nameIndex := 5, descriptorIndex := 6, attributes := #[] }] 33 0 #[] #[])
  fields := #[]
  methods := #[k0m0]
  instanceTypes := #[]
  staticTypes := #[]
  resolved := Array.replicate 124 none
  statics := none }

def pool1 : Array CpInfo := pool [(2, .class_ 4), (1, u "java/lang/Object"), (0, u "<init>"), (0, u "()V"), (0, .fieldref 8 9), (0, .class_ 10), (0, .nameAndType 11 12), (0, u "com/example/whereas/whereas/model/Heading$Kind"), (0, u "ARTICLE"), (0, u "Lcom/example/whereas/whereas/model/Heading$Kind;"), (0, .fieldref 8 14), (0, .nameAndType 15 12), (0, u "SECTION"), (0, .fieldref 8 17), (0, .nameAndType 18 12), (0, u "PARAGRAPH"), (0, .fieldref 8 20), (0, .nameAndType 21 12), (0, u "RECITAL"), (0, .fieldref 8 23), (0, .nameAndType 24 12), (0, u "EXHIBIT"), (0, .fieldref 8 26), (0, .nameAndType 27 12), (0, u "SCHEDULE"), (0, .fieldref 8 29), (0, .nameAndType 30 12), (0, u "APPENDIX"), (0, .fieldref 8 32), (0, .nameAndType 33 12), (0, u "ANNEX"), (0, .fieldref 8 35), (0, .nameAndType 36 12), (0, u "ADDENDUM"), (0, .fieldref 8 38), (0, .nameAndType 39 12), (0, u "HEADING"), (0, .fieldref 8 41), (0, .nameAndType 42 12), (0, u "CONTENTS"), (0, .integer 2147483647), (0, .methodref 45 46), (0, .class_ 47), (0, .nameAndType 48 49), (0, u "com/example/whereas/whereas/model/KindIsLabelPinLaw"), (0, u "pick"), (0, u "(I)Lcom/example/whereas/whereas/model/Heading$Kind;"), (0, .methodref 8 51), (0, .nameAndType 52 53), (0, u "isLabel"), (0, u "()Z"), (0, .methodref 45 55), (0, .nameAndType 56 57), (0, u "expectedLabel"), (0, u "(I)Z"), (3, u "law")] 6

def k1m0 : Method := { name := "<init>", desc := "()V", sig := { parameters := [], returnType := none }, accessFlags := 1, code := none }
def k1c1 : Code := { maxStack := 2, maxLocals := 1, code := method_2_code, exceptionTable := #[], attributes := #[] }
def k1m1 : Method := { name := "pick", desc := "(I)Lcom/example/whereas/whereas/model/Heading$Kind;", sig := { parameters := [.int], returnType := some (.object "com/example/whereas/whereas/model/Heading$Kind") }, accessFlags := 10, code := some k1c1 }
def k1c2 : Code := { maxStack := 2, maxLocals := 1, code := method_3_code, exceptionTable := #[], attributes := #[] }
def k1m2 : Method := { name := "expectedLabel", desc := "(I)Z", sig := { parameters := [.int], returnType := some .boolean }, accessFlags := 10, code := some k1c2 }
def k1c3 : Code := { maxStack := 2, maxLocals := 3, code := code, exceptionTable := #[], attributes := #[] }
def k1m3 : Method := { name := "law", desc := "(I)Z", sig := { parameters := [.int], returnType := some .boolean }, accessFlags := 9, code := some k1c3 }
/-- com/example/whereas/whereas/model/KindIsLabelPinLaw -/
def k1 : Class := { plain "com/example/whereas/whereas/model/KindIsLabelPinLaw" (some 0) with
  accessFlags := 49
  interfaces := #[]
  cf := some (fileOf pool1 45 #[] #[{ accessFlags := 1, nameIndex := 5, descriptorIndex := 6, attributes := #[] }, { accessFlags := 10, nameIndex := 48, descriptorIndex := 49, attributes := #[] }, { accessFlags := 10, nameIndex := 56, descriptorIndex := 57, attributes := #[] }, { accessFlags := 9, nameIndex := 61, descriptorIndex := 57, attributes := #[] }] 49 2 #[] #[])
  fields := #[]
  methods := #[k1m0, k1m1, k1m2, k1m3]
  instanceTypes := #[]
  staticTypes := #[]
  resolved := Array.replicate 68 none
  statics := none }

def pool2 : Array CpInfo := pool [(1, .class_ 2), (0, u "java/lang/constant/Constable"), (0, .class_ 4), (0, u "java/lang/Object")] 6

/-- java/lang/constant/Constable -/
def k2 : Class := { plain "java/lang/constant/Constable" (some 0) with
  accessFlags := 1537
  interfaces := #[]
  cf := some (fileOf pool2 1 #[] #[] 1537 3 #[] #[])
  fields := #[]
  methods := #[]
  instanceTypes := #[]
  staticTypes := #[]
  resolved := Array.replicate 11 none
  statics := none }

def pool3 : Array CpInfo := pool [(1, .class_ 2), (0, u "java/lang/Comparable"), (0, .class_ 4), (0, u "java/lang/Object")] 7

/-- java/lang/Comparable -/
def k3 : Class := { plain "java/lang/Comparable" (some 0) with
  accessFlags := 1537
  interfaces := #[]
  cf := some (fileOf pool3 1 #[] #[] 1537 3 #[] #[])
  fields := #[]
  methods := #[]
  instanceTypes := #[]
  staticTypes := #[]
  resolved := Array.replicate 12 none
  statics := none }

def pool4 : Array CpInfo := pool [(1, .class_ 2), (0, u "java/io/Serializable"), (0, .class_ 4), (0, u "java/lang/Object")] 2

/-- java/io/Serializable -/
def k4 : Class := { plain "java/io/Serializable" (some 0) with
  accessFlags := 1537
  interfaces := #[]
  cf := some (fileOf pool4 1 #[] #[] 1537 3 #[] #[])
  fields := #[]
  methods := #[]
  instanceTypes := #[]
  staticTypes := #[]
  resolved := Array.replicate 7 none
  statics := none }

def pool5 : Array CpInfo := pool [(2, .class_ 4), (1, u "java/lang/Enum"), (0, u "name"), (0, u "Ljava/lang/String;"), (2, u "ordinal"), (0, u "I"), (1, .class_ 14), (1, u "java/lang/Object"), (4, u "hash"), (86, .class_ 108), (1, u "java/lang/Enum$EnumDesc"), (2, .class_ 112), (0, u "java/lang/constant/Constable"), (0, .class_ 114), (0, u "java/lang/Comparable"), (0, .class_ 116), (0, u "java/io/Serializable")] 87

/-- java/lang/Enum -/
def k5 : Class := { plain "java/lang/Enum" (some 0) with
  accessFlags := 1057
  interfaces := #[2, 3, 4]
  cf := some (fileOf pool5 2 #[.nestMembers #[106]] #[] 1057 12 #[111, 113, 115] #[{ accessFlags := 18, nameIndex := 5, descriptorIndex := 6, attributes := #[] }, { accessFlags := 18, nameIndex := 9, descriptorIndex := 10, attributes := #[] }, { accessFlags := 2, nameIndex := 19, descriptorIndex := 10, attributes := #[] }])
  fields := #[{ name := "name", type := (.object "java/lang/String"), accessFlags := 18, slot := 0, constantValue := 0 }, { name := "ordinal", type := .int, accessFlags := 18, slot := 1, constantValue := 0 }, { name := "hash", type := .int, accessFlags := 2, slot := 2, constantValue := 0 }]
  methods := #[]
  instanceTypes := #[(.object "java/lang/String"), .int, .int]
  staticTypes := #[]
  resolved := Array.replicate 204 none
  statics := none }

def pool6 : Array CpInfo := pool [(1, .class_ 2), (0, u "com/example/whereas/whereas/model/Heading$Kind"), (2, u "ARTICLE"), (0, u "Lcom/example/whereas/whereas/model/Heading$Kind;"), (2, u "SECTION"), (2, u "PARAGRAPH"), (2, u "RECITAL"), (2, u "EXHIBIT"), (2, u "SCHEDULE"), (2, u "APPENDIX"), (2, u "ANNEX"), (2, u "ADDENDUM"), (2, u "HEADING"), (2, u "CONTENTS"), (2, u "$VALUES"), (0, u "[Lcom/example/whereas/whereas/model/Heading$Kind;"), (6, .class_ 49), (1, u "java/lang/Enum"), (6, .fieldref 1 57), (0, .nameAndType 58 59), (0, u "plural"), (0, u "Ljava/lang/String;"), (2, u "attachment"), (0, u "Z"), (19, u "()Z"), (65, u "isLabel"), (9, .class_ 160), (0, u "com/example/whereas/whereas/model/Heading")] 16

def k6c0 : Code := { maxStack := 1, maxLocals := 1, code := prog_38_method_7_code, exceptionTable := #[], attributes := #[] }
def k6m0 : Method := { name := "isLabel", desc := "()Z", sig := { parameters := [], returnType := some .boolean }, accessFlags := 1, code := some k6c0 }
/-- com/example/whereas/whereas/model/Heading$Kind -/
def k6 : Class := { plain "com/example/whereas/whereas/model/Heading$Kind" (some 5) with
  accessFlags := 16433
  interfaces := #[]
  cf := some (fileOf pool6 1 #[.nestHost 159] #[{ accessFlags := 1, nameIndex := 149, descriptorIndex := 83, attributes := #[] }] 16433 47 #[] #[{ accessFlags := 16409, nameIndex := 5, descriptorIndex := 6, attributes := #[] }, { accessFlags := 16409, nameIndex := 9, descriptorIndex := 6, attributes := #[] }, { accessFlags := 16409, nameIndex := 12, descriptorIndex := 6, attributes := #[] }, { accessFlags := 16409, nameIndex := 15, descriptorIndex := 6, attributes := #[] }, { accessFlags := 16409, nameIndex := 18, descriptorIndex := 6, attributes := #[] }, { accessFlags := 16409, nameIndex := 21, descriptorIndex := 6, attributes := #[] }, { accessFlags := 16409, nameIndex := 24, descriptorIndex := 6, attributes := #[] }, { accessFlags := 16409, nameIndex := 27, descriptorIndex := 6, attributes := #[] }, { accessFlags := 16409, nameIndex := 30, descriptorIndex := 6, attributes := #[] }, { accessFlags := 16409, nameIndex := 33, descriptorIndex := 6, attributes := #[] }, { accessFlags := 16409, nameIndex := 36, descriptorIndex := 6, attributes := #[] }, { accessFlags := 18, nameIndex := 58, descriptorIndex := 59, attributes := #[] }, { accessFlags := 18, nameIndex := 62, descriptorIndex := 63, attributes := #[] }, { accessFlags := 4122, nameIndex := 39, descriptorIndex := 40, attributes := #[] }])
  fields := #[{ name := "ARTICLE", type := (.object "com/example/whereas/whereas/model/Heading$Kind"), accessFlags := 16409, slot := 0, constantValue := 0 }, { name := "SECTION", type := (.object "com/example/whereas/whereas/model/Heading$Kind"), accessFlags := 16409, slot := 1, constantValue := 0 }, { name := "PARAGRAPH", type := (.object "com/example/whereas/whereas/model/Heading$Kind"), accessFlags := 16409, slot := 2, constantValue := 0 }, { name := "RECITAL", type := (.object "com/example/whereas/whereas/model/Heading$Kind"), accessFlags := 16409, slot := 3, constantValue := 0 }, { name := "EXHIBIT", type := (.object "com/example/whereas/whereas/model/Heading$Kind"), accessFlags := 16409, slot := 4, constantValue := 0 }, { name := "SCHEDULE", type := (.object "com/example/whereas/whereas/model/Heading$Kind"), accessFlags := 16409, slot := 5, constantValue := 0 }, { name := "APPENDIX", type := (.object "com/example/whereas/whereas/model/Heading$Kind"), accessFlags := 16409, slot := 6, constantValue := 0 }, { name := "ANNEX", type := (.object "com/example/whereas/whereas/model/Heading$Kind"), accessFlags := 16409, slot := 7, constantValue := 0 }, { name := "ADDENDUM", type := (.object "com/example/whereas/whereas/model/Heading$Kind"), accessFlags := 16409, slot := 8, constantValue := 0 }, { name := "HEADING", type := (.object "com/example/whereas/whereas/model/Heading$Kind"), accessFlags := 16409, slot := 9, constantValue := 0 }, { name := "CONTENTS", type := (.object "com/example/whereas/whereas/model/Heading$Kind"), accessFlags := 16409, slot := 10, constantValue := 0 }, { name := "plural", type := (.object "java/lang/String"), accessFlags := 18, slot := 3, constantValue := 0 }, { name := "attachment", type := .boolean, accessFlags := 18, slot := 4, constantValue := 0 }, { name := "$VALUES", type := (.array (.object "com/example/whereas/whereas/model/Heading$Kind")), accessFlags := 4122, slot := 11, constantValue := 0 }]
  methods := #[k6m0]
  instanceTypes := #[(.object "java/lang/String"), .int, .int, (.object "java/lang/String"), .boolean]
  staticTypes := #[(.object "com/example/whereas/whereas/model/Heading$Kind"), (.object "com/example/whereas/whereas/model/Heading$Kind"), (.object "com/example/whereas/whereas/model/Heading$Kind"), (.object "com/example/whereas/whereas/model/Heading$Kind"), (.object "com/example/whereas/whereas/model/Heading$Kind"), (.object "com/example/whereas/whereas/model/Heading$Kind"), (.object "com/example/whereas/whereas/model/Heading$Kind"), (.object "com/example/whereas/whereas/model/Heading$Kind"), (.object "com/example/whereas/whereas/model/Heading$Kind"), (.object "com/example/whereas/whereas/model/Heading$Kind"), (.object "com/example/whereas/whereas/model/Heading$Kind"), (.array (.object "com/example/whereas/whereas/model/Heading$Kind"))]
  resolved := Array.replicate 177 none
  statics := some 0 }

def pool7 : Array CpInfo := pool [(2, .class_ 4), (1, u "java/lang/CharSequence"), (42, .class_ 48), (0, u "java/lang/CharSequence$1CodePointIterator"), (10, .class_ 60), (0, u "java/lang/CharSequence$1CharIterator"), (5, .class_ 67), (0, u "java/lang/Object")] 63

/-- java/lang/CharSequence -/
def k7 : Class := { plain "java/lang/CharSequence" (some 0) with
  accessFlags := 1537
  interfaces := #[]
  cf := some (fileOf pool7 2 #[.nestMembers #[47, 59]] #[] 1537 66 #[] #[])
  fields := #[]
  methods := #[]
  instanceTypes := #[]
  staticTypes := #[]
  resolved := Array.replicate 131 none
  statics := none }

def pool8 : Array CpInfo := pool [(1, .class_ 2), (0, u "java/lang/constant/ConstantDesc"), (0, .class_ 4), (0, u "java/lang/Object")] 32

/-- java/lang/constant/ConstantDesc -/
def k8 : Class := { plain "java/lang/constant/ConstantDesc" (some 0) with
  accessFlags := 1537
  interfaces := #[]
  cf := some (fileOf pool8 1 #[] #[] 1537 3 #[] #[])
  fields := #[]
  methods := #[]
  instanceTypes := #[]
  staticTypes := #[]
  resolved := Array.replicate 37 none
  statics := none }

def pool9 : Array CpInfo := pool [(2, .class_ 4), (1, u "java/lang/Object"), (0, u "<init>"), (0, u "()V"), (3, .class_ 12), (1, u "java/lang/String"), (0, u "value"), (0, u "[B"), (2, u "coder"), (0, u "B"), (2, u "hash"), (0, u "I"), (2, u "hashIsZero"), (0, u "Z"), (13, u "COMPACT_STRINGS"), (534, .class_ 576), (0, u "java/lang/CharSequence"), (22, u "CASE_INSENSITIVE_ORDER"), (0, u "Ljava/util/Comparator;"), (500, u "serialPersistentFields"), (0, u "[Ljava/io/ObjectStreamField;"), (0, .class_ 1104), (0, u "java/lang/String$CaseInsensitiveComparator"), (1, .class_ 1107), (0, u "java/io/Serializable"), (0, .class_ 1109), (0, u "java/lang/Comparable"), (0, .class_ 1111), (0, u "java/lang/constant/Constable"), (0, .class_ 1113), (0, u "java/lang/constant/ConstantDesc"), (2, u "serialVersionUID"), (0, u "J"), (3, u "REPL"), (0, u "C"), (2, u "LATIN1"), (1, u "UTF16")] 323

def k9m0 : Method := { name := "<init>", desc := "()V", sig := { parameters := [], returnType := none }, accessFlags := 1, code := none }
/-- java/lang/String -/
def k9 : Class := { plain "java/lang/String" (some 0) with
  accessFlags := 49
  interfaces := #[4, 3, 7, 2, 8]
  cf := some (fileOf pool9 10 #[.nestMembers #[1103]] #[{ accessFlags := 1, nameIndex := 5, descriptorIndex := 6, attributes := #[] }] 49 2 #[1106, 1108, 575, 1110, 1112] #[{ accessFlags := 18, nameIndex := 13, descriptorIndex := 14, attributes := #[] }, { accessFlags := 18, nameIndex := 17, descriptorIndex := 18, attributes := #[] }, { accessFlags := 2, nameIndex := 21, descriptorIndex := 22, attributes := #[] }, { accessFlags := 2, nameIndex := 25, descriptorIndex := 26, attributes := #[] }, { accessFlags := 26, nameIndex := 1116, descriptorIndex := 1117, attributes := #[] }, { accessFlags := 24, nameIndex := 40, descriptorIndex := 26, attributes := #[] }, { accessFlags := 26, nameIndex := 1101, descriptorIndex := 1102, attributes := #[] }, { accessFlags := 26, nameIndex := 1121, descriptorIndex := 1122, attributes := #[] }, { accessFlags := 25, nameIndex := 599, descriptorIndex := 600, attributes := #[] }, { accessFlags := 24, nameIndex := 1125, descriptorIndex := 18, attributes := #[] }, { accessFlags := 24, nameIndex := 1127, descriptorIndex := 18, attributes := #[] }])
  fields := #[{ name := "value", type := (.array .byte), accessFlags := 18, slot := 0, constantValue := 0 }, { name := "coder", type := .byte, accessFlags := 18, slot := 1, constantValue := 0 }, { name := "hash", type := .int, accessFlags := 2, slot := 2, constantValue := 0 }, { name := "hashIsZero", type := .boolean, accessFlags := 2, slot := 3, constantValue := 0 }, { name := "serialVersionUID", type := .long, accessFlags := 26, slot := 0, constantValue := 0 }, { name := "COMPACT_STRINGS", type := .boolean, accessFlags := 24, slot := 1, constantValue := 0 }, { name := "serialPersistentFields", type := (.array (.object "java/io/ObjectStreamField")), accessFlags := 26, slot := 2, constantValue := 0 }, { name := "REPL", type := .char, accessFlags := 26, slot := 3, constantValue := 0 }, { name := "CASE_INSENSITIVE_ORDER", type := (.object "java/util/Comparator"), accessFlags := 25, slot := 4, constantValue := 0 }, { name := "LATIN1", type := .byte, accessFlags := 24, slot := 5, constantValue := 0 }, { name := "UTF16", type := .byte, accessFlags := 24, slot := 6, constantValue := 0 }]
  methods := #[k9m0]
  instanceTypes := #[(.array .byte), .byte, .int, .boolean]
  staticTypes := #[.long, .boolean, (.array (.object "java/io/ObjectStreamField")), .char, (.object "java/util/Comparator"), .byte, .byte]
  resolved := Array.replicate 1451 none
  statics := none }

def pool10 : Array CpInfo := pool [(1, u "java/lang/Cloneable"), (0, .class_ 1), (0, u "java/lang/Object"), (0, .class_ 3)] 3

/-- java/lang/Cloneable -/
def k10 : Class := { plain "java/lang/Cloneable" (some 0) with
  accessFlags := 1537
  interfaces := #[]
  cf := some (fileOf pool10 2 #[] #[] 1537 4 #[] #[])
  fields := #[]
  methods := #[]
  instanceTypes := #[]
  staticTypes := #[]
  resolved := Array.replicate 8 none
  statics := none }

/-- the primitive byte -/
def k11 : Class := { plain "byte" none with kind := .primitive 'B', accessFlags := 0x411 }
/-- [B -/
def k12 : Class := { plain "[B" (some 0) with kind := .array 11 .byte, interfaces := #[10, 4], accessFlags := 1041 }

/-- the primitive int -/
def k13 : Class := { plain "int" none with kind := .primitive 'I', accessFlags := 0x411 }
/-- [I -/
def k14 : Class := { plain "[I" (some 0) with kind := .array 13 .int, interfaces := #[10, 4], accessFlags := 1041 }

def heap : Heap := #[{ cls := 6, slots := #[.ref 2, .ref 3, .ref 4, .ref 5, .ref 6, .ref 7, .ref 8, .ref 9, .ref 10, .ref 11, .ref 12, .null], vm := .statics 6 },
  { cls := 9, slots := #[.null, .int 0, .int 0, .int 0], vm := .none },
  { cls := 6, slots := #[.null, .int 0, .int 0, .ref 1, .int 0], vm := .none },
  { cls := 6, slots := #[.null, .int 1, .int 0, .ref 1, .int 0], vm := .none },
  { cls := 6, slots := #[.null, .int 2, .int 0, .ref 1, .int 0], vm := .none },
  { cls := 6, slots := #[.null, .int 3, .int 0, .null, .int 0], vm := .none },
  { cls := 6, slots := #[.null, .int 4, .int 0, .ref 1, .int 0], vm := .none },
  { cls := 6, slots := #[.null, .int 5, .int 0, .ref 1, .int 0], vm := .none },
  { cls := 6, slots := #[.null, .int 6, .int 0, .ref 1, .int 0], vm := .none },
  { cls := 6, slots := #[.null, .int 7, .int 0, .ref 1, .int 0], vm := .none },
  { cls := 6, slots := #[.null, .int 8, .int 0, .ref 1, .int 0], vm := .none },
  { cls := 6, slots := #[.null, .int 9, .int 0, .null, .int 0], vm := .none },
  { cls := 6, slots := #[.null, .int 10, .int 0, .null, .int 0], vm := .none }]
def classes : Array Class := #[k0, k1, k2, k3, k4, k5, k6, k7, k8, k9, k10, k11, k12, k13, k14]
def interned : List (Array UInt16 × Addr) := []
def slotsUsed : Nat := 71
def theMethod : MethodId := ⟨1, 3⟩
def args0 : Array Value := #[.int 5]
def aboutOver (below : List Frame) : State where
  vm := { classes := classes, interned := interned.toArray }
  heap := heap
  slotsUsed := slotsUsed
  threads := #[{ frames := .invoking theMethod args0 :: below }]
def below0 : List Frame := [.native { method := ⟨0, 0⟩, args := #[] }]
def about1 : State := aboutOver below0
def p0 : Program := .bare "" "" ""
def e0 : Env := launch0.env 0 0 0
theorem w_frames : about1.frames = Frame.invoking theMethod args0 :: below0 := rfl
set_option maxRecDepth 65536 in
theorem w_args : argsFit about1.vm theMethod args0 = true := by decide +kernel
set_option maxRecDepth 65536 in
theorem w_heap : heapFits about1 = true := by decide +kernel
set_option maxRecDepth 65536 in
theorem w_runnable : about1.curStatus? = some .runnable := by decide +kernel
set_option maxRecDepth 65536 in
theorem w_alone : about1.alone = true := by decide +kernel
set_option maxRecDepth 65536 in
theorem w_named : about1.methodNamed? x = some theMethod := by decide +kernel
set_option maxRecDepth 65536 in
theorem w_hears : about1.hears theMethod below0 = true := by decide +kernel
set_option maxRecDepth 65536 in
theorem w_ripe : about1.ripe theMethod args0 below0 = true := by decide +kernel
theorem w_running : about1.status = .running := rfl
set_option maxRecDepth 65536 in
theorem w_room : about1.hasRoom e0.platform room_1 = true :=
  launch0.hasRoom_least _ room_1 (by decide +kernel) (by decide +kernel) (by decide +kernel) (by decide +kernel) (by decide +kernel) (by decide +kernel)
theorem allAtoms_all (ts : List Jvm.Cond) (a : Array Jvm.Value) (st : Jvm.State) : (allAtoms ts).before a st = ts.all (fun c => c.before a st) := by
  induction ts with
  | nil => rfl
  | cons c t ih =>
    show (Jvm.Cond.and c (allAtoms t)).before a st = _
    rw [Jvm.Cond.before_and, ih, List.all_cons]
def words1 : List Jvm.Cond := Jvm.Cond.code x code maxLocals ret :: tables_1
/-- a 'code' word, met by the world's own term for the bytes: nothing is compared byte by byte -/
theorem code_word {y : MethodName} {bytes : ByteArray} {mx : Nat} {rt : Option FieldType} {a : Array Value} {s : State} {m : MethodId} {meth : Method} {c : Code} (h1 : s.methodNamed? y = some m) (h2 : s.vm.method? m = some meth) (h3 : meth.code = some c) (h4 : c.code = bytes)
    (h5 : (c.maxLocals == mx && c.exceptionTable.isEmpty && decide (c.maxStack ≤ mostOperands) && decide (meth.sig.returnType = rt) && !meth.locks && decide (parseMethodDescriptor y.desc = some meth.sig)) = true) : (Jvm.Cond.code y bytes mx rt).before a s = true := by
  simp only [Bool.and_eq_true, beq_iff_eq, Bool.not_eq_true', decide_eq_true_eq] at h5
  obtain ⟨⟨⟨⟨⟨g1, g2⟩, g3⟩, g4⟩, g5⟩, g6⟩ := h5
  simp [Cond.before, Cond.holds, Cond.value, h1, h2, h3, h4, g1, g2, g3, g4, g5, g6]
def isCode : Jvm.Cond → Bool
  | .code _ _ _ _ => true
  | _ => false
theorem all_split {L : List Jvm.Cond} {P : Jvm.Cond → Bool} (h1 : L.all (fun c => isCode c || P c) = true) (h2 : ∀ c ∈ L.filter isCode, P c = true) : L.all P = true := by
  refine List.all_eq_true.mpr fun c hc => ?_
  have h := List.all_eq_true.mp h1 c hc
  rcases Bool.eq_false_or_eq_true (isCode c) with hi | hi
  · exact h2 c (List.mem_filter.mpr ⟨hc, hi⟩)
  · simpa [hi] using h
set_option maxRecDepth 65536 in
theorem w_c0 : (Jvm.Cond.code x code maxLocals ret).before args0 about1 = true := code_word (m := ⟨1, 3⟩) (meth := k1m3) (c := k1c3) (by decide +kernel) rfl rfl rfl (by decide +kernel)
set_option maxRecDepth 65536 in
theorem w_c1 : (Jvm.Cond.code ({ cls := "com/example/whereas/whereas/model/KindIsLabelPinLaw", name := "pick", desc := "(I)Lcom/example/whereas/whereas/model/Heading$Kind;" } : Jvm.MethodName) method_2_code (1 : Nat) (Option.some (Jvm.ClassFile.FieldType.object "com/example/whereas/whereas/model/Heading$Kind"))).before args0 about1 = true := code_word (m := ⟨1, 1⟩) (meth := k1m1) (c := k1c1) (by decide +kernel) rfl rfl rfl (by decide +kernel)
set_option maxRecDepth 65536 in
theorem w_c2 : (Jvm.Cond.code ({ cls := "com/example/whereas/whereas/model/Heading$Kind", name := "isLabel", desc := "()Z" } : Jvm.MethodName) prog_38_method_7_code (1 : Nat) (Option.some Jvm.ClassFile.FieldType.boolean)).before args0 about1 = true := code_word (m := ⟨6, 0⟩) (meth := k6m0) (c := k6c0) (by decide +kernel) rfl rfl rfl (by decide +kernel)
set_option maxRecDepth 65536 in
theorem w_c3 : (Jvm.Cond.code ({ cls := "com/example/whereas/whereas/model/KindIsLabelPinLaw", name := "expectedLabel", desc := "(I)Z" } : Jvm.MethodName) method_3_code (1 : Nat) (Option.some Jvm.ClassFile.FieldType.boolean)).before args0 about1 = true := code_word (m := ⟨1, 2⟩) (meth := k1m2) (c := k1c2) (by decide +kernel) rfl rfl rfl (by decide +kernel)
def codes1 : List Jvm.Cond := [Jvm.Cond.code x code maxLocals ret, Jvm.Cond.code ({ cls := "com/example/whereas/whereas/model/KindIsLabelPinLaw", name := "pick", desc := "(I)Lcom/example/whereas/whereas/model/Heading$Kind;" } : Jvm.MethodName) method_2_code (1 : Nat) (Option.some (Jvm.ClassFile.FieldType.object "com/example/whereas/whereas/model/Heading$Kind")), Jvm.Cond.code ({ cls := "com/example/whereas/whereas/model/Heading$Kind", name := "isLabel", desc := "()Z" } : Jvm.MethodName) prog_38_method_7_code (1 : Nat) (Option.some Jvm.ClassFile.FieldType.boolean), Jvm.Cond.code ({ cls := "com/example/whereas/whereas/model/KindIsLabelPinLaw", name := "expectedLabel", desc := "(I)Z" } : Jvm.MethodName) method_3_code (1 : Nat) (Option.some Jvm.ClassFile.FieldType.boolean)]
set_option maxRecDepth 65536 in
theorem codes_eq : words1.filter isCode = codes1 := rfl
theorem w_codes : ∀ c ∈ words1.filter isCode, c.before args0 about1 = true := by
  rw [codes_eq]
  intro c hc
  simp only [codes1, List.mem_cons, List.not_mem_nil, or_false] at hc
  rcases hc with rfl | rfl | rfl | rfl
  · exact w_c0
  · exact w_c1
  · exact w_c2
  · exact w_c3
set_option maxRecDepth 65536 in
theorem w_t1 : (words1.take 24).all (fun c => isCode c || c.before args0 about1) = true := by decide +kernel
set_option maxRecDepth 65536 in
theorem w_t2 : (words1.drop 24).all (fun c => isCode c || c.before args0 about1) = true := by decide +kernel
theorem w_tables : (allAtoms (Jvm.Cond.code x code maxLocals ret :: tables_1)).before args0 about1 = true := by
  rw [allAtoms_all]
  show words1.all (fun c => c.before args0 about1) = true
  refine all_split ?_ w_codes
  rw [← List.take_append_drop 24 words1, List.all_append, w_t1, w_t2]
  rfl
set_option maxRecDepth 65536 in
theorem w_case : (Jvm.Cond.and given_1 narrow_1).before args0 about1 = true := by decide +kernel
theorem w_applies : (headSpec (Jvm.Cond.code x code maxLocals ret :: tables_1) room_1).applies x e0.platform about1 = true :=
  (Spec.applies_iff w_frames).mpr ⟨w_running, w_runnable, w_alone, w_named, w_hears, w_ripe, w_room, w_tables⟩
theorem atStart : AtStart classFile x code maxLocals ret World_1 tables_1 room_1 Calls_1 rest_1 Pre_1 launch0 p0 e0 about1 theMethod args0 below0 :=
  ⟨lists_1, trivial, launch0.admits_env _ _ _, launch0.least_env, fairChoices_fair.cas, fairChoices_fair.clock, w_frames, w_args, w_heap, w_applies, trivial, trivial, w_case⟩
end start1
theorem witness_1 : WitnessClaimed_1 := ⟨start1.p0, start1.e0, start1.about1, start1.theMethod, start1.args0, start1.below0, start1.atStart⟩
end Jvm.Pilot.@@N@@
