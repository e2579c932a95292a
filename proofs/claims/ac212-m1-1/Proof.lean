import JvmDerived
import JvmDerived.Pilot.@@N@@Statement
import JvmDerived.Pilot.@@N@@Code
set_option linter.unusedVariables false
set_option linter.unusedSimpArgs false
@@BLOCK:NumsL.lean.txt@@
namespace Jvm.RoadKit
open Sem ClassFile Op Lib Jvm.Stand Jvm.Free Jvm.LawKit
section New
variable {p : Program} {l : Launch} {e : Env} {R : Room} {s : State} {m : MethodId} {args : Array Value} {below : List Frame} {meth : Method} {c : Code} {T : State} {locs : List Loc} {cells slots : Nat}
theorem retI (X : Stand p l e R s m args below meth c T locs cells slots) (hx : p.tables.exec = Jvm.exec) {pc : Nat} {Ls : Array Slot} {z : Int32} {rest : List Value} (hret : meth.sig.returnType = some .int) (hd : decode c.code pc = .ok (.ireturn, 1)) {fs : List Frame}
    (hl : ∀ (f : JFrame) (acts : List Action), f.method = m → f.locked = none → f.entered = [] → (doReturn e (T.setTop f) acts (some (.int z))).1 = T.setFrames fs) : Steps p.tables e below (T.setTop (mkF m pc Ls (.int z :: rest))) (T.setFrames fs) := by
  have hm' : T.vm.method? m = some meth := X.method'
  have hn : narrow .int (.int z) = .int z := rfl
  show Steps p.tables e below (T.setTop { method := m, pc := pc, locals := Ls, stack := _ :: rest, locked := none }) _
  jvm_step X.here [X.here.top, hx, hd, hm', hret, hn]
  first | (intro acts; rw [hl _ acts rfl rfl rfl]) | rw [hl _ _ rfl rfl rfl]
  exact Steps.refl _
end New
end Jvm.RoadKit
namespace Jvm.Pilot.@@N@@
open Jvm Jvm.ClassFile Sem Op Lib Jvm.Free Jvm.Stand Jvm.LawKit Jvm.RoadKit Bundle Jvm.Pilot.@@N@@.Jvm.D
theorem own_fi {args : Array Value} {s : State} {t : Term} {C n d : String} {k : Int32} {x : Addr} (ht : t.eval args s none [] s = some (.ref x)) (h : (Jvm.Cond.eq (Term.field t C n d) (Term.int k)).value args s none s [] = some true) : Fld s s.heap x C n d (.int k) := by
  obtain ⟨a, b, ha, hb, hk, -⟩ := cmp_v (Or.inl h)
  have hb' : b = .int k := Option.some.inj (hb.symm.trans rfl)
  subst hb'
  cases a <;> simp [Kin, Value.isRef] at hk
  rename_i z
  have hz : z = k := by simpa [Jvm.Cond.value, ha, hb] using h
  subst hz
  exact Fld.start ((fld_at ht).symm.trans ha)
theorem own_fn {args : Array Value} {s : State} {t : Term} {C n d : String} {x : Addr} (ht : t.eval args s none [] s = some (.ref x)) (h : (Jvm.Cond.eq (Term.field t C n d) Term.null).value args s none s [] = some true) : Fld s s.heap x C n d .null := Fld.start ((fld_at ht).symm.trans (null_v h))
theorem own_fx {args : Array Value} {s : State} {t : Term} {C n d K : String} {x : Addr} (ht : t.eval args s none [] s = some (.ref x)) (h : (Jvm.Cond.exactly (Term.field t C n d) K).value args s none s [] = some true) : ∃ y, (Term.field t C n d).eval args s none [] s = some (.ref y) ∧ Fld s s.heap x C n d (.ref y) ∧ Exa s s.heap y K := by
  obtain ⟨y, hy⟩ := exa_v h
  exact ⟨y, hy, Fld.start ((fld_at ht).symm.trans hy), Exa.start hy h⟩
theorem own_sx {args : Array Value} {s : State} {C n d K : String} (hi : (Jvm.Cond.initialized C).before args s = true) (hl : (Jvm.Cond.laysStatic C n d).before args s = true) (h : (Jvm.Cond.exactly (Term.static C n d) K).value args s none s [] = some true) : ∃ x, (Term.static C n d).eval args s none [] s = some (.ref x) ∧ Sta s s.heap C n d (.ref x) ∧ Exa s s.heap x K := by
  obtain ⟨y, hy⟩ := exa_v h
  exact ⟨y, hy, Sta.start hy (Or.inr ⟨hi, hl⟩), Exa.start hy h⟩
theorem own_and31 (x : Int32) : (x &&& 2147483647).toInt = x.toInt % 2 ^ 31 := Jvm.Kit.i32_mask x 2147483647 (k := 31) (by decide) (by decide)
theorem own_pos31 (x : Int32) : 0 ≤ (x &&& 2147483647).toInt := by rw [own_and31]; omega
theorem own_rem (x m : Int32) (hm : 0 < m.toInt) : 0 ≤ ((x &&& 2147483647) % m).toInt ∧ ((x &&& 2147483647) % m).toInt < m.toInt := by
  have h1 := own_pos31 x
  rw [Int32.toInt_mod]
  have h2 : ((x &&& 2147483647).toInt).tmod m.toInt = (x &&& 2147483647).toInt % m.toInt := Int.tmod_eq_emod_of_nonneg h1
  have h3 := Int.emod_nonneg (x &&& 2147483647).toInt (show m.toInt ≠ 0 by omega)
  have h4 := Int.emod_lt_of_pos (x &&& 2147483647).toInt hm
  omega
theorem own_selp {s : State} {args : Array Value} {y : MethodName} {n : Nat} (hy : y.cls ≠ "java/lang/invoke/MethodHandle" ∧ y.cls ≠ "java/lang/invoke/VarHandle") (hins : (Jvm.Cond.instantiable y.cls n).before args s = true) (hpriv : (Jvm.Cond.privateMethod y).before args s = true) (hinst : (Jvm.Cond.instanceMethod y).before args s = true) : (Jvm.Cond.selects y.cls y y).before args s = true := by
  obtain ⟨c, k, hc, hk, -, hniab, -, -⟩ := Cond.instantiable_spec hins
  have hni : k.isInterface = false := (Bool.or_eq_false_iff.mp hniab).1
  obtain ⟨mk, methM, hnamed, hmethM, -, -⟩ := Cond.instanceMethod_spec hinst
  have hfound : s.methodFound? y.cls y.name y.desc = some mk := State.methodFound?_of_named hnamed hy
  have hcls : mk.cls = c := Option.some.inj ((findClass_of_methodNamed hnamed).symm.trans hc)
  have hsel : selectMethod {} s.vm c mk = .method mk := selectMethod_private hmethM (Cond.privateMethod_at hpriv mk methM hnamed hmethM)
  simp only [Cond.before, Cond.holds, Cond.value, hc, hfound, hnamed, hsel, hcls, hk]
  simp; exact hni
theorem own_hp {T : State} {h : Heap} {a : Addr} {c : Cell} (e : T.heap = h) (q : h[a]? = some c) : T.heap[a]? = some c := e ▸ q
theorem own_of_toInt {x : Int32} {n : Int} (h : x.toInt = n) : x = Int32.ofInt n := by rw [← h, Int32.ofInt_toInt]
theorem own_and3 (x : Int32) : x &&& 3 = 0 ∨ x &&& 3 = 1 ∨ x &&& 3 = 2 ∨ x &&& 3 = 3 := by
  have h := Jvm.Kit.i32_mask x 3 (k := 2) (by decide) (by decide)
  generalize x &&& 3 = z at *
  have : z.toInt = 0 ∨ z.toInt = 1 ∨ z.toInt = 2 ∨ z.toInt = 3 := by omega
  rcases this with h | h | h | h <;> (have := own_of_toInt h; subst this; decide)
theorem d1_0 : decode prog_15_method_5_code 0 = .ok (.aload_n 0, 1) := by decide +kernel
theorem d1_1 : decode prog_15_method_5_code 1 = .ok (.getstatic 3, 3) := by decide +kernel
theorem d1_4 : decode prog_15_method_5_code 4 = .ok (.if_acmp .ne 7, 3) := by decide +kernel
theorem d1_7 : decode prog_15_method_5_code 7 = .ok (.iconst 1, 1) := by decide +kernel
theorem d1_8 : decode prog_15_method_5_code 8 = .ok (.goto 4, 3) := by decide +kernel
theorem d1_11 : decode prog_15_method_5_code 11 = .ok (.iconst 0, 1) := by decide +kernel
theorem d1_12 : decode prog_15_method_5_code 12 = .ok (.ireturn, 1) := by decide +kernel
theorem pn_0 : plainName "com/example/lazy_lasso/lazylasso/Bool$Polymorph" = true := by first | (simp [plainName, overriddenIn]; done) | decide +kernel
theorem ef_rm1 (m : MethodId) (a1 : Addr) : entryFrame m #[(.ref a1)] 1 = mkF m 0 #[.val (.ref a1)] [] := by first | (simp [entryFrame, mkF, argsToLocals, Value.category]; done) | rfl
def Q1 (Z : State) (a1 : Addr) (w : Addr) (h0 : Heap) (n0 : Nat) (v : Option Value) (h : Heap) (L : List Loc) : Prop := v = some (.int (if a1 = w then 1 else 0)) ∧ Fr n0 L ∧ h = h0
set_option maxRecDepth 65536 in
set_option maxHeartbeats 40000000 in
theorem rm1 (l : Launch) (Z : State) (a0 : Array Value) (hw : ∀ d ∈ tables_1, d.before a0 Z = true) (ws : List Jvm.Cond) (a1 : Addr) (w : Addr) (h0 : Heap) (n0 : Nat) (Z0 : n0 ≤ h0.size) (O0 : Old Z n0 h0) (S_IF : Sta Z Z.heap "com/example/lazy_lasso/lazylasso/Bool$Polymorph" "IF" "Lcom/example/lazy_lasso/lazylasso/Bool$Polymorph;" (.ref w)) :
    MetFree l (⟨"com/example/lazy_lasso/lazylasso/Bool$Polymorph", "staysInNormalForms", "()Z"⟩ : MethodName) (head1 (Jvm.Cond.code (⟨"com/example/lazy_lasso/lazylasso/Bool$Polymorph", "staysInNormalForms", "()Z"⟩ : MethodName) prog_15_method_5_code 1 (some .boolean) :: ws) ({ frames := 0, cells := 0, slots := 0, locals := 0 } : Room)) (fun a U => a = #[(.ref a1)] ∧ Z.Warmed39 U.vm ∧ U.heap = h0) (fun _ _ _ _ _ => True) (fun _ U o U' => ∃ v L, o = .returned v ∧ Q1 Z a1 w h0 n0 v U'.heap L ∧ FrameEnd U o U' L ({ frames := 0, cells := 0, slots := 0, locals := 0 } : Room).cells ({ frames := 0, cells := 0, slots := 0, locals := 0 } : Room).slots) := by
  refine MetFree.of_bodySF (plainFor_of_name pn_0) hisR ?_
  intro p e s m args below meth c s₁ Bd hml0 hP hK
  obtain ⟨rfl, hZ, hh⟩ := hP
  have hx := Bd.exec
  have hby := Bd.bytes
  have hml : c.maxLocals = 1 := hml0
  have hown : s.vm.findClass "com/example/lazy_lasso/lazylasso/Bool$Polymorph" = some m.cls := findClass_of_methodNamed Bd.named
  have hnm := (name_of_methodNamed Bd.named Bd.method).1
  have X0 : Stand p l e ({ frames := 0, cells := 0, slots := 0, locals := 0 } : Room) s m #[(.ref a1)] below meth c s₁ [] 0 0 := Stand.of_body Bd
  have e0 : s₁.heap = h0 := by rw [← hh, Bd.state]; rfl
  have N0 := Fr.nil n0
  have K0 := Keep.refl h0 []
  have go0 : Goes p e below s₁ (entryFrame m #[(.ref a1)] 1) s₁ (mkF m 0 #[.val (.ref a1)] []) := fun t k => castTop (ef_rm1 m a1) k
  have go1 : Goes p e below s₁ (entryFrame m #[(.ref a1)] 1) s₁ (mkF m 1 #[.val (.ref a1)] [(.ref a1)]) := fun t k => by
    refine go0 t ?_
    refine XS.aloadN X0.here hx rfl (hb hby d1_0) rfl rfl ?_
    show Steps p.tables e below (s₁.setTop (mkF m 1 #[.val (.ref a1)] [(.ref a1)])) _
    exact k
  obtain ⟨T2, X2, e2, st2⟩ := getS2 X0 hx hZ hown (host := "") (Or.inl (hw _ (List.mem_of_getElem? (i := 17) rfl))) Via.refl e0 (S_IF.ext O0.2) (g := (mkF m 1 #[.val (.ref a1)] [(.ref a1)])) rfl (hb hby d1_1)
  have go3 : Goes p e below s₁ (entryFrame m #[(.ref a1)] 1) T2 (mkF m 4 #[.val (.ref a1)] [(.ref w), (.ref a1)]) := fun t k => go1 t (st2 t k)
  by_cases hc4 : a1 = w
  · have go5 : Goes p e below s₁ (entryFrame m #[(.ref a1)] 1) T2 (mkF m 12 #[.val (.ref a1)] [(.int (1 : Int32))]) := fun t k => by
      refine go3 t ?_
      refine Jvm.RoadKit.acmp (g := (mkF m 4 #[.val (.ref a1)] [(.ref w), (.ref a1)])) X2 hx rfl rfl rfl (pc0 := 4) (pc' := 7) (same := true) rfl (hb hby d1_4) rfl (decide_eq_true (congrArg Value.ref hc4)) (by decide) (by decide) ?_
      show Steps p.tables e below (T2.setTop (mkF m 7 #[.val (.ref a1)] [])) _
      refine XS.iconst X2.here hx rfl (hb hby d1_7) ?_
      show Steps p.tables e below (T2.setTop (mkF m 8 #[.val (.ref a1)] [(.int (1 : Int32))])) _
      refine XS.goto X2.here hx rfl (pc0 := 8) (pc' := 12) rfl (hb hby d1_8) (by decide) (by decide) ?_
      show Steps p.tables e below (T2.setTop (mkF m 12 #[.val (.ref a1)] [(.int (1 : Int32))])) _
      exact k
    obtain ⟨fs, hr, hrun, hended, hW, hsame⟩ := X2.leave (v := some (.int (1 : Int32))) (fun h => by rw [Bd.returns] at h; cases h)
    refine ⟨_, _, go5 _ ?_, hrun, hended, _, _, rfl, ?_, ⟨_, rfl⟩, hW, hsame.mono (by decide) (by decide)⟩
    · exact retN X2 hx (t := .boolean) Bd.returns (by simp) (hb hby d1_12) hr
    · show Q1 Z _ _ _ _ _ T2.heap _
      rw [e2]
      exact ⟨by simp [hc4], N0, rfl⟩
  · have go6 : Goes p e below s₁ (entryFrame m #[(.ref a1)] 1) T2 (mkF m 12 #[.val (.ref a1)] [(.int (0 : Int32))]) := fun t k => by
      refine go3 t ?_
      refine Jvm.RoadKit.acmp (g := (mkF m 4 #[.val (.ref a1)] [(.ref w), (.ref a1)])) X2 hx rfl rfl rfl (pc0 := 4) (pc' := 11) (same := false) rfl (hb hby d1_4) rfl (decide_eq_false fun q => hc4 (Value.ref.inj q)) (by decide) (by decide) ?_
      show Steps p.tables e below (T2.setTop (mkF m 11 #[.val (.ref a1)] [])) _
      refine XS.iconst X2.here hx rfl (hb hby d1_11) ?_
      show Steps p.tables e below (T2.setTop (mkF m 12 #[.val (.ref a1)] [(.int (0 : Int32))])) _
      exact k
    obtain ⟨fs, hr, hrun, hended, hW, hsame⟩ := X2.leave (v := some (.int (0 : Int32))) (fun h => by rw [Bd.returns] at h; cases h)
    refine ⟨_, _, go6 _ ?_, hrun, hended, _, _, rfl, ?_, ⟨_, rfl⟩, hW, hsame.mono (by decide) (by decide)⟩
    · exact retN X2 hx (t := .boolean) Bd.returns (by simp) (hb hby d1_12) hr
    · show Q1 Z _ _ _ _ _ T2.heap _
      rw [e2]
      exact ⟨by simp [hc4], N0, rfl⟩
theorem pd_0 : parseMethodDescriptor "()Z" = some ⟨[], some .boolean⟩ := by decide +kernel
theorem pn_1 : plainName "com/example/lazy_lasso/lazylasso/PolymorphStaysInNormalFormsPinLaw" = true := by first | (simp [plainName, overriddenIn]; done) | decide +kernel
theorem ef_rm0 (m : MethodId) (p1 : Int32) : entryFrame m #[(.int p1)] maxLocals = mkF m 0 #[.val (.int p1), .unset, .unset, .unset] [] := by first | (simp [entryFrame, mkF, argsToLocals, Value.category, maxLocals]; done) | rfl
def Q0 (Z : State) (p1 : Int32) (r : Int32 → Addr) (h0 : Heap) (n0 : Nat) (v : Option Value) (h : Heap) (L : List Loc) : Prop := v = some (.int 1) ∧ Fr n0 L
set_option maxRecDepth 65536 in
set_option maxHeartbeats 40000000 in
theorem rm0 (l : Launch) (Z : State) (a0 : Array Value) (hw : ∀ d ∈ tables_1, d.before a0 Z = true) (ws : List Jvm.Cond) (p1 : Int32) (r : Int32 → Addr) (h0 : Heap) (n0 : Nat) (Z0 : n0 ≤ h0.size) (O0 : Old Z n0 h0) (S_IF : Sta Z Z.heap "com/example/lazy_lasso/lazylasso/Bool$Polymorph" "IF" "Lcom/example/lazy_lasso/lazylasso/Bool$Polymorph;" (.ref (r 0))) (S_EQUAL : Sta Z Z.heap "com/example/lazy_lasso/lazylasso/Bool$Polymorph" "EQUAL" "Lcom/example/lazy_lasso/lazylasso/Bool$Polymorph;" (.ref (r 1))) (S_UNEQUAL : Sta Z Z.heap "com/example/lazy_lasso/lazylasso/Bool$Polymorph" "UNEQUAL" "Lcom/example/lazy_lasso/lazylasso/Bool$Polymorph;" (.ref (r 2))) (S_SORT_TEST : Sta Z Z.heap "com/example/lazy_lasso/lazylasso/Bool$Polymorph" "SORT_TEST" "Lcom/example/lazy_lasso/lazylasso/Bool$Polymorph;" (.ref (r 3))) (E_IF : Exa Z Z.heap (r 0) "com/example/lazy_lasso/lazylasso/Bool$Polymorph") (E_EQUAL : Exa Z Z.heap (r 1) "com/example/lazy_lasso/lazylasso/Bool$Polymorph") (E_UNEQUAL : Exa Z Z.heap (r 2) "com/example/lazy_lasso/lazylasso/Bool$Polymorph") (E_SORT_TEST : Exa Z Z.heap (r 3) "com/example/lazy_lasso/lazylasso/Bool$Polymorph") (ne1 : r 1 ≠ r 0) (ne2 : r 2 ≠ r 0) (ne3 : r 3 ≠ r 0) :
    MetFree l x (head1 (Jvm.Cond.code x code maxLocals ret :: ws) room_1) (fun a U => a = #[(.int p1)] ∧ Z.Warmed39 U.vm ∧ U.heap = h0) (fun _ _ _ _ _ => True) (fun _ U o U' => ∃ v L, o = .returned v ∧ Q0 Z p1 r h0 n0 v U'.heap L ∧ FrameEnd U o U' L room_1.cells room_1.slots) := by
  refine MetFree.of_bodySF (plainFor_of_name pn_1) hisR ?_
  intro p e s m args below meth c s₁ Bd hml0 hP hK
  obtain ⟨rfl, hZ, hh⟩ := hP
  have hx := Bd.exec
  have hby := Bd.bytes
  have hml : c.maxLocals = 4 := hml0
  have hown : s.vm.findClass "com/example/lazy_lasso/lazylasso/PolymorphStaysInNormalFormsPinLaw" = some m.cls := findClass_of_methodNamed Bd.named
  have hnm := (name_of_methodNamed Bd.named Bd.method).1
  have X0 : Stand p l e room_1 s m #[(.int p1)] below meth c s₁ [] 0 0 := Stand.of_body Bd
  have e0 : s₁.heap = h0 := by rw [← hh, Bd.state]; rfl
  have N0 := Fr.nil n0
  have K0 := Keep.refl h0 []
  have go0 : Goes p e below s₁ (entryFrame m #[(.int p1)] maxLocals) s₁ (mkF m 0 #[.val (.int p1), .unset, .unset, .unset] []) := fun t k => castTop (ef_rm0 m p1) k
  have hj : (p1 &&& (3 : Int32)) = 0 ∨ (p1 &&& (3 : Int32)) = 1 ∨ (p1 &&& (3 : Int32)) = 2 ∨ (p1 &&& (3 : Int32)) = 3 := own_and3 p1
  have EJ : Exa Z Z.heap (r (p1 &&& (3 : Int32))) "com/example/lazy_lasso/lazylasso/Bool$Polymorph" := by rcases hj with h | h | h | h <;> rw [h] <;> assumption
  have RJ : r (p1 &&& (3 : Int32)) = r 0 ↔ (p1 &&& (3 : Int32)) = 0 := by rcases hj with h | h | h | h <;> rw [h] <;> simp [ne1, ne2, ne3]
  have go1 : Goes p e below s₁ (entryFrame m #[(.int p1)] maxLocals) s₁ (mkF m 1 #[.val (.int p1), .unset, .unset, .unset] [(.int (4 : Int32))]) := fun t k => by
    refine go0 t ?_
    refine XS.iconst X0.here hx rfl (hb hby at_0) ?_
    show Steps p.tables e below (s₁.setTop (mkF m 1 #[.val (.int p1), .unset, .unset, .unset] [(.int (4 : Int32))])) _
    exact k
  obtain ⟨T2, h2, k2, X2, e2, E2, A2, Ov2, st2⟩ := newR X0 hx hZ hown (hw _ (List.mem_of_getElem? (i := 0) rfl)) (hw _ (List.mem_of_getElem? (i := 1) rfl)) e0 (g := (mkF m 1 #[.val (.int p1), .unset, .unset, .unset] [(.int (4 : Int32))])) rfl (hb hby at_1) rfl (by decide) (cap := 4) (by decide) (by decide) (by decide) (by decide)
  obtain ⟨b2, g_b_b2⟩ : ∃ z, z = h0.size := ⟨_, rfl⟩
  have le_b2 : h0.size ≤ b2 := Nat.le_of_eq g_b_b2.symm
  have gn_b2 : n0 ≤ b2 := Nat.le_trans Z0 le_b2
  have sz_b2 : h0.size ≤ b2 := Nat.le_trans K0.1 le_b2
  rw [← g_b_b2] at A2 st2
  have O3 := O0.ext E2
  have Z4 := Nat.le_trans Z0 E2.1
  have K5 := K0.ext E2
  have V6 : Arv Z h2 b2 k2 (.object "com/example/lazy_lasso/lazylasso/Bool$Polymorph") (4 : Int32) [.null, .null, .null, .null] .null := (Arv.new A2 (by decide)).pad (pad_rep [] .null 4)
  have go7 : Goes p e below s₁ (entryFrame m #[(.int p1)] maxLocals) T2 (mkF m 4 #[.val (.int p1), .unset, .unset, .unset] [(.ref b2)]) := fun t k => go1 t (st2 t k)
  have go8 : Goes p e below s₁ (entryFrame m #[(.int p1)] maxLocals) T2 (mkF m 6 #[.val (.int p1), .unset, .unset, .unset] [(.int (0 : Int32)), (.ref b2), (.ref b2)]) := fun t k => by
    refine go7 t ?_
    refine XS.dup X2.here hx rfl (hb hby at_4) rfl rfl ?_
    show Steps p.tables e below (T2.setTop (mkF m 5 #[.val (.int p1), .unset, .unset, .unset] [(.ref b2), (.ref b2)])) _
    refine XS.iconst X2.here hx rfl (hb hby at_5) ?_
    show Steps p.tables e below (T2.setTop (mkF m 6 #[.val (.int p1), .unset, .unset, .unset] [(.int (0 : Int32)), (.ref b2), (.ref b2)])) _
    exact k
  obtain ⟨T9, X9, e9, st9⟩ := getS2 X2 hx hZ hown (host := "") (Or.inl (hw _ (List.mem_of_getElem? (i := 2) rfl))) Via.refl e2 (S_IF.ext O3.2) (g := (mkF m 6 #[.val (.int p1), .unset, .unset, .unset] [(.int (0 : Int32)), (.ref b2), (.ref b2)])) rfl (hb hby at_6)
  have go10 : Goes p e below s₁ (entryFrame m #[(.int p1)] maxLocals) T9 (mkF m 9 #[.val (.int p1), .unset, .unset, .unset] [(.ref (r 0)), (.int (0 : Int32)), (.ref b2), (.ref b2)]) := fun t k => go8 t (st9 t k)
  obtain ⟨cl11, Ar11, kq11, Sz11, Nn11, Hs11, Gf11⟩ := V6
  have hin11 : ¬ ((0 : Int32) < 0 ∨ cl11.slots.size ≤ ((0 : Int32)).toNatClampNeg) := inb_of Sz11 ⟨by decide, by decide⟩
  obtain ⟨T12, h12, X12, e12, W12, st12⟩ := stR X9 hx hZ e9 Ar11 (j := (0 : Int32)) hin11 rfl (Sto.ofV Ar11 kq11 Ov2 (Ins.self (E_IF.ext O3.2))) (g := (mkF m 9 #[.val (.int p1), .unset, .unset, .unset] [(.ref (r 0)), (.int (0 : Int32)), (.ref b2), (.ref b2)])) rfl rfl (hb hby at_9)
  have V13 : Arv Z h12 b2 k2 (.object "com/example/lazy_lasso/lazylasso/Bool$Polymorph") (4 : Int32) [(.ref (r 0)), .null, .null, .null] .null := Arv.set Ar11 kq11 Sz11 Nn11 Hs11 Gf11 rfl W12 0 rfl (Nat.le_of_ble_eq_true rfl)
  have O14 := O3.wr W12 gn_b2
  have Z15 := Nat.le_trans Z4 (Nat.le_of_eq W12.size.symm)
  have K16 := K5.wr W12 (Or.inr sz_b2)
  have N17 := Fr.snoc X12 N0 gn_b2
  have go18 : Goes p e below s₁ (entryFrame m #[(.int p1)] maxLocals) T12 (mkF m 10 #[.val (.int p1), .unset, .unset, .unset] [(.ref b2)]) := fun t k => go10 t (st12 t k)
  have go19 : Goes p e below s₁ (entryFrame m #[(.int p1)] maxLocals) T12 (mkF m 12 #[.val (.int p1), .unset, .unset, .unset] [(.int (1 : Int32)), (.ref b2), (.ref b2)]) := fun t k => by
    refine go18 t ?_
    refine XS.dup X12.here hx rfl (hb hby at_10) rfl rfl ?_
    show Steps p.tables e below (T12.setTop (mkF m 11 #[.val (.int p1), .unset, .unset, .unset] [(.ref b2), (.ref b2)])) _
    refine XS.iconst X12.here hx rfl (hb hby at_11) ?_
    show Steps p.tables e below (T12.setTop (mkF m 12 #[.val (.int p1), .unset, .unset, .unset] [(.int (1 : Int32)), (.ref b2), (.ref b2)])) _
    exact k
  obtain ⟨T20, X20, e20, st20⟩ := getS2 X12 hx hZ hown (host := "") (Or.inl (hw _ (List.mem_of_getElem? (i := 6) rfl))) Via.refl e12 (S_EQUAL.ext O14.2) (g := (mkF m 12 #[.val (.int p1), .unset, .unset, .unset] [(.int (1 : Int32)), (.ref b2), (.ref b2)])) rfl (hb hby at_12)
  have go21 : Goes p e below s₁ (entryFrame m #[(.int p1)] maxLocals) T20 (mkF m 15 #[.val (.int p1), .unset, .unset, .unset] [(.ref (r 1)), (.int (1 : Int32)), (.ref b2), (.ref b2)]) := fun t k => go19 t (st20 t k)
  obtain ⟨cl22, Ar22, kq22, Sz22, Nn22, Hs22, Gf22⟩ := V13
  have hin22 : ¬ ((1 : Int32) < 0 ∨ cl22.slots.size ≤ ((1 : Int32)).toNatClampNeg) := inb_of Sz22 ⟨by decide, by decide⟩
  obtain ⟨T23, h23, X23, e23, W23, st23⟩ := stR X20 hx hZ e20 Ar22 (j := (1 : Int32)) hin22 rfl (Sto.ofV Ar22 kq22 Ov2 (Ins.self (E_EQUAL.ext O14.2))) (g := (mkF m 15 #[.val (.int p1), .unset, .unset, .unset] [(.ref (r 1)), (.int (1 : Int32)), (.ref b2), (.ref b2)])) rfl rfl (hb hby at_15)
  have V24 : Arv Z h23 b2 k2 (.object "com/example/lazy_lasso/lazylasso/Bool$Polymorph") (4 : Int32) [(.ref (r 0)), (.ref (r 1)), .null, .null] .null := Arv.set Ar22 kq22 Sz22 Nn22 Hs22 Gf22 rfl W23 1 rfl (Nat.le_of_ble_eq_true rfl)
  have O25 := O14.wr W23 gn_b2
  have Z26 := Nat.le_trans Z15 (Nat.le_of_eq W23.size.symm)
  have K27 := K16.wr W23 (Or.inr sz_b2)
  have N28 := Fr.snoc X23 N17 gn_b2
  have go29 : Goes p e below s₁ (entryFrame m #[(.int p1)] maxLocals) T23 (mkF m 16 #[.val (.int p1), .unset, .unset, .unset] [(.ref b2)]) := fun t k => go21 t (st23 t k)
  have go30 : Goes p e below s₁ (entryFrame m #[(.int p1)] maxLocals) T23 (mkF m 18 #[.val (.int p1), .unset, .unset, .unset] [(.int (2 : Int32)), (.ref b2), (.ref b2)]) := fun t k => by
    refine go29 t ?_
    refine XS.dup X23.here hx rfl (hb hby at_16) rfl rfl ?_
    show Steps p.tables e below (T23.setTop (mkF m 17 #[.val (.int p1), .unset, .unset, .unset] [(.ref b2), (.ref b2)])) _
    refine XS.iconst X23.here hx rfl (hb hby at_17) ?_
    show Steps p.tables e below (T23.setTop (mkF m 18 #[.val (.int p1), .unset, .unset, .unset] [(.int (2 : Int32)), (.ref b2), (.ref b2)])) _
    exact k
  obtain ⟨T31, X31, e31, st31⟩ := getS2 X23 hx hZ hown (host := "") (Or.inl (hw _ (List.mem_of_getElem? (i := 8) rfl))) Via.refl e23 (S_UNEQUAL.ext O25.2) (g := (mkF m 18 #[.val (.int p1), .unset, .unset, .unset] [(.int (2 : Int32)), (.ref b2), (.ref b2)])) rfl (hb hby at_18)
  have go32 : Goes p e below s₁ (entryFrame m #[(.int p1)] maxLocals) T31 (mkF m 21 #[.val (.int p1), .unset, .unset, .unset] [(.ref (r 2)), (.int (2 : Int32)), (.ref b2), (.ref b2)]) := fun t k => go30 t (st31 t k)
  obtain ⟨cl33, Ar33, kq33, Sz33, Nn33, Hs33, Gf33⟩ := V24
  have hin33 : ¬ ((2 : Int32) < 0 ∨ cl33.slots.size ≤ ((2 : Int32)).toNatClampNeg) := inb_of Sz33 ⟨by decide, by decide⟩
  obtain ⟨T34, h34, X34, e34, W34, st34⟩ := stR X31 hx hZ e31 Ar33 (j := (2 : Int32)) hin33 rfl (Sto.ofV Ar33 kq33 Ov2 (Ins.self (E_UNEQUAL.ext O25.2))) (g := (mkF m 21 #[.val (.int p1), .unset, .unset, .unset] [(.ref (r 2)), (.int (2 : Int32)), (.ref b2), (.ref b2)])) rfl rfl (hb hby at_21)
  have V35 : Arv Z h34 b2 k2 (.object "com/example/lazy_lasso/lazylasso/Bool$Polymorph") (4 : Int32) [(.ref (r 0)), (.ref (r 1)), (.ref (r 2)), .null] .null := Arv.set Ar33 kq33 Sz33 Nn33 Hs33 Gf33 rfl W34 2 rfl (Nat.le_of_ble_eq_true rfl)
  have O36 := O25.wr W34 gn_b2
  have Z37 := Nat.le_trans Z26 (Nat.le_of_eq W34.size.symm)
  have K38 := K27.wr W34 (Or.inr sz_b2)
  have N39 := Fr.snoc X34 N28 gn_b2
  have go40 : Goes p e below s₁ (entryFrame m #[(.int p1)] maxLocals) T34 (mkF m 22 #[.val (.int p1), .unset, .unset, .unset] [(.ref b2)]) := fun t k => go32 t (st34 t k)
  have go41 : Goes p e below s₁ (entryFrame m #[(.int p1)] maxLocals) T34 (mkF m 24 #[.val (.int p1), .unset, .unset, .unset] [(.int (3 : Int32)), (.ref b2), (.ref b2)]) := fun t k => by
    refine go40 t ?_
    refine XS.dup X34.here hx rfl (hb hby at_22) rfl rfl ?_
    show Steps p.tables e below (T34.setTop (mkF m 23 #[.val (.int p1), .unset, .unset, .unset] [(.ref b2), (.ref b2)])) _
    refine XS.iconst X34.here hx rfl (hb hby at_23) ?_
    show Steps p.tables e below (T34.setTop (mkF m 24 #[.val (.int p1), .unset, .unset, .unset] [(.int (3 : Int32)), (.ref b2), (.ref b2)])) _
    exact k
  obtain ⟨T42, X42, e42, st42⟩ := getS2 X34 hx hZ hown (host := "") (Or.inl (hw _ (List.mem_of_getElem? (i := 10) rfl))) Via.refl e34 (S_SORT_TEST.ext O36.2) (g := (mkF m 24 #[.val (.int p1), .unset, .unset, .unset] [(.int (3 : Int32)), (.ref b2), (.ref b2)])) rfl (hb hby at_24)
  have go43 : Goes p e below s₁ (entryFrame m #[(.int p1)] maxLocals) T42 (mkF m 27 #[.val (.int p1), .unset, .unset, .unset] [(.ref (r 3)), (.int (3 : Int32)), (.ref b2), (.ref b2)]) := fun t k => go41 t (st42 t k)
  obtain ⟨cl44, Ar44, kq44, Sz44, Nn44, Hs44, Gf44⟩ := V35
  have hin44 : ¬ ((3 : Int32) < 0 ∨ cl44.slots.size ≤ ((3 : Int32)).toNatClampNeg) := inb_of Sz44 ⟨by decide, by decide⟩
  obtain ⟨T45, h45, X45, e45, W45, st45⟩ := stR X42 hx hZ e42 Ar44 (j := (3 : Int32)) hin44 rfl (Sto.ofV Ar44 kq44 Ov2 (Ins.self (E_SORT_TEST.ext O36.2))) (g := (mkF m 27 #[.val (.int p1), .unset, .unset, .unset] [(.ref (r 3)), (.int (3 : Int32)), (.ref b2), (.ref b2)])) rfl rfl (hb hby at_27)
  have V46 : Arv Z h45 b2 k2 (.object "com/example/lazy_lasso/lazylasso/Bool$Polymorph") (4 : Int32) [(.ref (r 0)), (.ref (r 1)), (.ref (r 2)), (.ref (r 3))] .null := Arv.set Ar44 kq44 Sz44 Nn44 Hs44 Gf44 rfl W45 3 rfl (Nat.le_of_ble_eq_true rfl)
  have O47 := O36.wr W45 gn_b2
  have Z48 := Nat.le_trans Z37 (Nat.le_of_eq W45.size.symm)
  have K49 := K38.wr W45 (Or.inr sz_b2)
  have N50 := Fr.snoc X45 N39 gn_b2
  have go51 : Goes p e below s₁ (entryFrame m #[(.int p1)] maxLocals) T45 (mkF m 28 #[.val (.int p1), .unset, .unset, .unset] [(.ref b2)]) := fun t k => go43 t (st45 t k)
  have go52 : Goes p e below s₁ (entryFrame m #[(.int p1)] maxLocals) T45 (mkF m 34 #[.val (.int p1), .val (.ref b2), .val (.int (p1 &&& (3 : Int32))), .unset] [(.int (p1 &&& (3 : Int32)))]) := fun t k => by
    refine go51 t ?_
    refine XS.astoreN X45.here hx rfl (hb hby at_28) rfl rfl (l' := #[.val (.int p1), .val (.ref b2), .unset, .unset]) rfl ?_
    show Steps p.tables e below (T45.setTop (mkF m 29 #[.val (.int p1), .val (.ref b2), .unset, .unset] [])) _
    refine XS.iloadN X45.here hx rfl (hb hby at_29) rfl ?_
    show Steps p.tables e below (T45.setTop (mkF m 30 #[.val (.int p1), .val (.ref b2), .unset, .unset] [(.int p1)])) _
    refine XS.iconst X45.here hx rfl (hb hby at_30) ?_
    show Steps p.tables e below (T45.setTop (mkF m 31 #[.val (.int p1), .val (.ref b2), .unset, .unset] [(.int (3 : Int32)), (.int p1)])) _
    refine XS.iand X45.here hx rfl (hb hby at_31) rfl ?_
    show Steps p.tables e below (T45.setTop (mkF m 32 #[.val (.int p1), .val (.ref b2), .unset, .unset] [(.int (p1 &&& (3 : Int32)))])) _
    refine XS.istoreN X45.here hx rfl (hb hby at_32) rfl (l' := #[.val (.int p1), .val (.ref b2), .val (.int (p1 &&& (3 : Int32))), .unset]) rfl ?_
    show Steps p.tables e below (T45.setTop (mkF m 33 #[.val (.int p1), .val (.ref b2), .val (.int (p1 &&& (3 : Int32))), .unset] [])) _
    refine XS.iloadN X45.here hx rfl (hb hby at_33) rfl ?_
    show Steps p.tables e below (T45.setTop (mkF m 34 #[.val (.int p1), .val (.ref b2), .val (.int (p1 &&& (3 : Int32))), .unset] [(.int (p1 &&& (3 : Int32)))])) _
    exact k
  by_cases hc53 : (p1 &&& (3 : Int32)) = (0 : Int32)
  · have go54 : Goes p e below s₁ (entryFrame m #[(.int p1)] maxLocals) T45 (mkF m 46 #[.val (.int p1), .val (.ref b2), .val (.int (p1 &&& (3 : Int32))), .val (.int (1 : Int32))] [(.int (p1 &&& (3 : Int32))), (.ref b2)]) := fun t k => by
      refine go52 t ?_
      refine XS.ifNo X45.here hx rfl (hb hby at_34) rfl (Jvm.Free.XT.i0_ne_f hc53) ?_
      show Steps p.tables e below (T45.setTop (mkF m 37 #[.val (.int p1), .val (.ref b2), .val (.int (p1 &&& (3 : Int32))), .unset] [])) _
      refine XS.iconst X45.here hx rfl (hb hby at_37) ?_
      show Steps p.tables e below (T45.setTop (mkF m 38 #[.val (.int p1), .val (.ref b2), .val (.int (p1 &&& (3 : Int32))), .unset] [(.int (1 : Int32))])) _
      refine XS.istoreN X45.here hx rfl (hb hby at_38) rfl (l' := #[.val (.int p1), .val (.ref b2), .val (.int (p1 &&& (3 : Int32))), .val (.int (1 : Int32))]) rfl ?_
      show Steps p.tables e below (T45.setTop (mkF m 39 #[.val (.int p1), .val (.ref b2), .val (.int (p1 &&& (3 : Int32))), .val (.int (1 : Int32))] [])) _
      refine XS.goto X45.here hx rfl (pc0 := 39) (pc' := 44) rfl (hb hby at_39) (by decide) (by decide) ?_
      show Steps p.tables e below (T45.setTop (mkF m 44 #[.val (.int p1), .val (.ref b2), .val (.int (p1 &&& (3 : Int32))), .val (.int (1 : Int32))] [])) _
      refine XS.aloadN X45.here hx rfl (hb hby at_44) rfl rfl ?_
      show Steps p.tables e below (T45.setTop (mkF m 45 #[.val (.int p1), .val (.ref b2), .val (.int (p1 &&& (3 : Int32))), .val (.int (1 : Int32))] [(.ref b2)])) _
      refine XS.iloadN X45.here hx rfl (hb hby at_45) rfl ?_
      show Steps p.tables e below (T45.setTop (mkF m 46 #[.val (.int p1), .val (.ref b2), .val (.int (p1 &&& (3 : Int32))), .val (.int (1 : Int32))] [(.int (p1 &&& (3 : Int32))), (.ref b2)])) _
      exact k
    obtain ⟨cl55, Ar55, kq55, Sz55, Nn55, Hs55, Gf55⟩ := V46
    have hin55 : ¬ ((p1 &&& (3 : Int32)) < 0 ∨ cl55.slots.size ≤ ((p1 &&& (3 : Int32))).toNatClampNeg) := inb_of Sz55 (by rcases hj with h | h | h | h <;> rw [h] <;> decide)
    have hat55 : cl55.slots[((p1 &&& (3 : Int32))).toNatClampNeg]? = some (.ref (r (p1 &&& (3 : Int32)))) := Has.at Hs55 hin55 (by rcases hj with h | h | h | h <;> rw [h] <;> rfl)
    have go56 : Goes p e below s₁ (entryFrame m #[(.int p1)] maxLocals) T45 (mkF m 47 #[.val (.int p1), .val (.ref b2), .val (.int (p1 &&& (3 : Int32))), .val (.int (1 : Int32))] [(.ref (r (p1 &&& (3 : Int32))))]) := fun t k => by
      refine go54 t ?_
      refine X45.aaload hx (j := (p1 &&& (3 : Int32))) (v := (.ref (r (p1 &&& (3 : Int32))))) (own_hp e45 Ar55.1) (State.isArrayOf_alike hZ.alike Ar55.2.1) rfl Ar55.2.2 hin55 hat55 (g := (mkF m 46 #[.val (.int p1), .val (.ref b2), .val (.int (p1 &&& (3 : Int32))), .val (.int (1 : Int32))] [(.int (p1 &&& (3 : Int32))), (.ref b2)])) rfl rfl (hb hby at_46) _ ?_
      show Steps p.tables e below (T45.setTop (mkF m 47 #[.val (.int p1), .val (.ref b2), .val (.int (p1 &&& (3 : Int32))), .val (.int (1 : Int32))] [(.ref (r (p1 &&& (3 : Int32))))])) _
      exact k
    obtain ⟨cq57, kq57, q57a, q57b, q57c⟩ := isOf hZ e45 (EJ.ext O47.2)
    obtain ⟨_, _, ⟨T57, L57, k57, n57⟩, -, X57, ⟨Lc57, hQ57, l57, y57, z57⟩, st57⟩ := X45.virtualBack hx (y := (⟨"com/example/lazy_lasso/lazylasso/Bool$Polymorph", "staysInNormalForms", "()Z"⟩ : MethodName)) (z := (⟨"com/example/lazy_lasso/lazylasso/Bool$Polymorph", "staysInNormalForms", "()Z"⟩ : MethodName)) hown (mvT hZ (hw _ (List.mem_of_getElem? (i := 12) rfl))) (mvT hZ (hw _ (List.mem_of_getElem? (i := 13) rfl))) (notFace_of_selects (args := #[]) (mvT hZ (hw _ (List.mem_of_getElem? (i := 15) rfl)))) (mvT hZ (hw _ (List.mem_of_getElem? (i := 15) rfl))) (mvT hZ (hw _ (List.mem_of_getElem? (i := 14) rfl))) (by decide) (backOf (W := 0) (rm1 l Z a0 hw [] (r (p1 &&& (3 : Int32))) (r 0) h45 n0 Z48 O47 S_IF) hZ (hw _ (List.mem_of_getElem? (i := 16) rfl)) (hw _ (List.mem_of_getElem? (i := 3) rfl)) (by decide) (by decide)) q57a q57c (g := (mkF m 47 #[.val (.int p1), .val (.ref b2), .val (.int (p1 &&& (3 : Int32))), .val (.int (1 : Int32))] [(.ref (r (p1 &&& (3 : Int32))))])) rfl (by rw [hml]; rfl) (Steps.refl _) (argsL := []) (rest := []) (lenOf pd_0 rfl) rfl (by show 2 * 0 + _ ≤ _; exact Nat.le_of_eq rfl) (hb hby at_47) (fun _ _ => ⟨rfl, e45, (by decide : 1 + 0 ≤ room_1.cells), (by decide : 4 + 0 ≤ room_1.slots)⟩)
    dsimp only [Pt.U, Pt.locs, Pt.cells, Pt.slots] at X57 l57 y57 z57 st57 hQ57
    subst l57 y57 z57
    obtain ⟨rfl, N57q, e57⟩ := hQ57
    have N57 := Fr.app N50 N57q
    have go58 : Goes p e below s₁ (entryFrame m #[(.int p1)] maxLocals) T57 (mkF m 50 #[.val (.int p1), .val (.ref b2), .val (.int (p1 &&& (3 : Int32))), .val (.int (1 : Int32))] [(.int (if r (p1 &&& (3 : Int32)) = r 0 then 1 else 0))]) := fun t k => go56 t (st57.trans k)
    have go59 : Goes p e below s₁ (entryFrame m #[(.int p1)] maxLocals) T57 (mkF m 51 #[.val (.int p1), .val (.ref b2), .val (.int (p1 &&& (3 : Int32))), .val (.int (1 : Int32))] [(.int (1 : Int32)), (.int (if r (p1 &&& (3 : Int32)) = r 0 then 1 else 0))]) := fun t k => by
      refine go58 t ?_
      refine XS.iloadN X57.here hx rfl (hb hby at_50) rfl ?_
      show Steps p.tables e below (T57.setTop (mkF m 51 #[.val (.int p1), .val (.ref b2), .val (.int (p1 &&& (3 : Int32))), .val (.int (1 : Int32))] [(.int (1 : Int32)), (.int (if r (p1 &&& (3 : Int32)) = r 0 then 1 else 0))])) _
      exact k
    have go60 : Goes p e below s₁ (entryFrame m #[(.int p1)] maxLocals) T57 (mkF m 59 #[.val (.int p1), .val (.ref b2), .val (.int (p1 &&& (3 : Int32))), .val (.int (1 : Int32))] [(.int (1 : Int32))]) := fun t k => by
      refine go59 t ?_
      refine XS.icmpNo X57.here hx rfl (hb hby at_51) rfl (Jvm.Free.XT.ii_ne_f (by simp [RJ, hc53])) ?_
      show Steps p.tables e below (T57.setTop (mkF m 54 #[.val (.int p1), .val (.ref b2), .val (.int (p1 &&& (3 : Int32))), .val (.int (1 : Int32))] [])) _
      refine XS.iconst X57.here hx rfl (hb hby at_54) ?_
      show Steps p.tables e below (T57.setTop (mkF m 55 #[.val (.int p1), .val (.ref b2), .val (.int (p1 &&& (3 : Int32))), .val (.int (1 : Int32))] [(.int (1 : Int32))])) _
      refine XS.goto X57.here hx rfl (pc0 := 55) (pc' := 59) rfl (hb hby at_55) (by decide) (by decide) ?_
      show Steps p.tables e below (T57.setTop (mkF m 59 #[.val (.int p1), .val (.ref b2), .val (.int (p1 &&& (3 : Int32))), .val (.int (1 : Int32))] [(.int (1 : Int32))])) _
      exact k
    obtain ⟨fs, hr, hrun, hended, hW, hsame⟩ := X57.leave (v := some (.int (1 : Int32))) (fun h => by rw [Bd.returns] at h; cases h)
    refine ⟨_, _, go60 _ ?_, hrun, hended, _, _, rfl, ?_, ⟨_, rfl⟩, hW, hsame.mono (by decide) (by decide)⟩
    · exact retN X57 hx (t := .boolean) Bd.returns (by simp) (hb hby at_59) hr
    · show Q0 Z _ _ _ _ _ T57.heap _
      rw [e57]
      exact ⟨rfl, N57⟩
  · have go61 : Goes p e below s₁ (entryFrame m #[(.int p1)] maxLocals) T45 (mkF m 46 #[.val (.int p1), .val (.ref b2), .val (.int (p1 &&& (3 : Int32))), .val (.int (0 : Int32))] [(.int (p1 &&& (3 : Int32))), (.ref b2)]) := fun t k => by
      refine go52 t ?_
      refine XS.ifYes X45.here hx rfl (pc0 := 34) (pc' := 42) rfl (hb hby at_34) rfl (Jvm.Free.XT.i0_ne_t hc53) (by decide) (by decide) ?_
      show Steps p.tables e below (T45.setTop (mkF m 42 #[.val (.int p1), .val (.ref b2), .val (.int (p1 &&& (3 : Int32))), .unset] [])) _
      refine XS.iconst X45.here hx rfl (hb hby at_42) ?_
      show Steps p.tables e below (T45.setTop (mkF m 43 #[.val (.int p1), .val (.ref b2), .val (.int (p1 &&& (3 : Int32))), .unset] [(.int (0 : Int32))])) _
      refine XS.istoreN X45.here hx rfl (hb hby at_43) rfl (l' := #[.val (.int p1), .val (.ref b2), .val (.int (p1 &&& (3 : Int32))), .val (.int (0 : Int32))]) rfl ?_
      show Steps p.tables e below (T45.setTop (mkF m 44 #[.val (.int p1), .val (.ref b2), .val (.int (p1 &&& (3 : Int32))), .val (.int (0 : Int32))] [])) _
      refine XS.aloadN X45.here hx rfl (hb hby at_44) rfl rfl ?_
      show Steps p.tables e below (T45.setTop (mkF m 45 #[.val (.int p1), .val (.ref b2), .val (.int (p1 &&& (3 : Int32))), .val (.int (0 : Int32))] [(.ref b2)])) _
      refine XS.iloadN X45.here hx rfl (hb hby at_45) rfl ?_
      show Steps p.tables e below (T45.setTop (mkF m 46 #[.val (.int p1), .val (.ref b2), .val (.int (p1 &&& (3 : Int32))), .val (.int (0 : Int32))] [(.int (p1 &&& (3 : Int32))), (.ref b2)])) _
      exact k
    obtain ⟨cl62, Ar62, kq62, Sz62, Nn62, Hs62, Gf62⟩ := V46
    have hin62 : ¬ ((p1 &&& (3 : Int32)) < 0 ∨ cl62.slots.size ≤ ((p1 &&& (3 : Int32))).toNatClampNeg) := inb_of Sz62 (by rcases hj with h | h | h | h <;> rw [h] <;> decide)
    have hat62 : cl62.slots[((p1 &&& (3 : Int32))).toNatClampNeg]? = some (.ref (r (p1 &&& (3 : Int32)))) := Has.at Hs62 hin62 (by rcases hj with h | h | h | h <;> rw [h] <;> rfl)
    have go63 : Goes p e below s₁ (entryFrame m #[(.int p1)] maxLocals) T45 (mkF m 47 #[.val (.int p1), .val (.ref b2), .val (.int (p1 &&& (3 : Int32))), .val (.int (0 : Int32))] [(.ref (r (p1 &&& (3 : Int32))))]) := fun t k => by
      refine go61 t ?_
      refine X45.aaload hx (j := (p1 &&& (3 : Int32))) (v := (.ref (r (p1 &&& (3 : Int32))))) (own_hp e45 Ar62.1) (State.isArrayOf_alike hZ.alike Ar62.2.1) rfl Ar62.2.2 hin62 hat62 (g := (mkF m 46 #[.val (.int p1), .val (.ref b2), .val (.int (p1 &&& (3 : Int32))), .val (.int (0 : Int32))] [(.int (p1 &&& (3 : Int32))), (.ref b2)])) rfl rfl (hb hby at_46) _ ?_
      show Steps p.tables e below (T45.setTop (mkF m 47 #[.val (.int p1), .val (.ref b2), .val (.int (p1 &&& (3 : Int32))), .val (.int (0 : Int32))] [(.ref (r (p1 &&& (3 : Int32))))])) _
      exact k
    obtain ⟨cq64, kq64, q64a, q64b, q64c⟩ := isOf hZ e45 (EJ.ext O47.2)
    obtain ⟨_, _, ⟨T64, L64, k64, n64⟩, -, X64, ⟨Lc64, hQ64, l64, y64, z64⟩, st64⟩ := X45.virtualBack hx (y := (⟨"com/example/lazy_lasso/lazylasso/Bool$Polymorph", "staysInNormalForms", "()Z"⟩ : MethodName)) (z := (⟨"com/example/lazy_lasso/lazylasso/Bool$Polymorph", "staysInNormalForms", "()Z"⟩ : MethodName)) hown (mvT hZ (hw _ (List.mem_of_getElem? (i := 12) rfl))) (mvT hZ (hw _ (List.mem_of_getElem? (i := 13) rfl))) (notFace_of_selects (args := #[]) (mvT hZ (hw _ (List.mem_of_getElem? (i := 15) rfl)))) (mvT hZ (hw _ (List.mem_of_getElem? (i := 15) rfl))) (mvT hZ (hw _ (List.mem_of_getElem? (i := 14) rfl))) (by decide) (backOf (W := 0) (rm1 l Z a0 hw [] (r (p1 &&& (3 : Int32))) (r 0) h45 n0 Z48 O47 S_IF) hZ (hw _ (List.mem_of_getElem? (i := 16) rfl)) (hw _ (List.mem_of_getElem? (i := 3) rfl)) (by decide) (by decide)) q64a q64c (g := (mkF m 47 #[.val (.int p1), .val (.ref b2), .val (.int (p1 &&& (3 : Int32))), .val (.int (0 : Int32))] [(.ref (r (p1 &&& (3 : Int32))))])) rfl (by rw [hml]; rfl) (Steps.refl _) (argsL := []) (rest := []) (lenOf pd_0 rfl) rfl (by show 2 * 0 + _ ≤ _; exact Nat.le_of_eq rfl) (hb hby at_47) (fun _ _ => ⟨rfl, e45, (by decide : 1 + 0 ≤ room_1.cells), (by decide : 4 + 0 ≤ room_1.slots)⟩)
    dsimp only [Pt.U, Pt.locs, Pt.cells, Pt.slots] at X64 l64 y64 z64 st64 hQ64
    subst l64 y64 z64
    obtain ⟨rfl, N64q, e64⟩ := hQ64
    have N64 := Fr.app N50 N64q
    have go65 : Goes p e below s₁ (entryFrame m #[(.int p1)] maxLocals) T64 (mkF m 50 #[.val (.int p1), .val (.ref b2), .val (.int (p1 &&& (3 : Int32))), .val (.int (0 : Int32))] [(.int (if r (p1 &&& (3 : Int32)) = r 0 then 1 else 0))]) := fun t k => go63 t (st64.trans k)
    have go66 : Goes p e below s₁ (entryFrame m #[(.int p1)] maxLocals) T64 (mkF m 51 #[.val (.int p1), .val (.ref b2), .val (.int (p1 &&& (3 : Int32))), .val (.int (0 : Int32))] [(.int (0 : Int32)), (.int (if r (p1 &&& (3 : Int32)) = r 0 then 1 else 0))]) := fun t k => by
      refine go65 t ?_
      refine XS.iloadN X64.here hx rfl (hb hby at_50) rfl ?_
      show Steps p.tables e below (T64.setTop (mkF m 51 #[.val (.int p1), .val (.ref b2), .val (.int (p1 &&& (3 : Int32))), .val (.int (0 : Int32))] [(.int (0 : Int32)), (.int (if r (p1 &&& (3 : Int32)) = r 0 then 1 else 0))])) _
      exact k
    have go67 : Goes p e below s₁ (entryFrame m #[(.int p1)] maxLocals) T64 (mkF m 59 #[.val (.int p1), .val (.ref b2), .val (.int (p1 &&& (3 : Int32))), .val (.int (0 : Int32))] [(.int (1 : Int32))]) := fun t k => by
      refine go66 t ?_
      refine XS.icmpNo X64.here hx rfl (hb hby at_51) rfl (Jvm.Free.XT.ii_ne_f (by simp [RJ, hc53])) ?_
      show Steps p.tables e below (T64.setTop (mkF m 54 #[.val (.int p1), .val (.ref b2), .val (.int (p1 &&& (3 : Int32))), .val (.int (0 : Int32))] [])) _
      refine XS.iconst X64.here hx rfl (hb hby at_54) ?_
      show Steps p.tables e below (T64.setTop (mkF m 55 #[.val (.int p1), .val (.ref b2), .val (.int (p1 &&& (3 : Int32))), .val (.int (0 : Int32))] [(.int (1 : Int32))])) _
      refine XS.goto X64.here hx rfl (pc0 := 55) (pc' := 59) rfl (hb hby at_55) (by decide) (by decide) ?_
      show Steps p.tables e below (T64.setTop (mkF m 59 #[.val (.int p1), .val (.ref b2), .val (.int (p1 &&& (3 : Int32))), .val (.int (0 : Int32))] [(.int (1 : Int32))])) _
      exact k
    obtain ⟨fs, hr, hrun, hended, hW, hsame⟩ := X64.leave (v := some (.int (1 : Int32))) (fun h => by rw [Bd.returns] at h; cases h)
    refine ⟨_, _, go67 _ ?_, hrun, hended, _, _, rfl, ?_, ⟨_, rfl⟩, hW, hsame.mono (by decide) (by decide)⟩
    · exact retN X64 hx (t := .boolean) Bd.returns (by simp) (hb hby at_59) hr
    · show Q0 Z _ _ _ _ _ T64.heap _
      rw [e64]
      exact ⟨rfl, N64⟩
set_option maxRecDepth 65536 in
set_option maxHeartbeats 40000000 in
theorem comes_1 {Post : Tables → Env → Array Value → State → Outcome → State → Prop} (hpost : ∀ tb e args s v u, (limb_1_1.after args s (.returned v) u = true ∧ limb_1_2.after args s (.returned v) u = true ∧ True) → FrameEnd s (.returned v) u (Jvm.fieldLocs frame_1_writes args s ++ Jvm.arrayLocs frame_1_arrays args s ++ Jvm.staticLocs frame_1_statics s) 16 128 → Post tb e args s (.returned v) u) :
    ArmFor flags0 classFile x code maxLocals ret World_1 tables_1 room_1 Calls_1 rest_1 Pre_1 Post := by
  intro l hfl _ _ p e ha hc hk s m args below hf hA hF happ hP
  obtain ⟨hcalls, hrest, hpre⟩ := hP
  obtain ⟨-, -, -, hnamed, -, -, -, hat⟩ := (Spec.applies_iff hf).mp happ
  obtain ⟨hg, hn⟩ := and_e (Cond.before_iff.mp (show (Jvm.Cond.and given_1 narrow_1).before args s = true from hpre))
  obtain ⟨hg0, hg⟩ := and_e hg
  have ga0 := hg
  obtain ⟨w0, rfl⟩ : ∃ w0 : Value, args = #[w0] := by
    have hs : args.size = 1 := by simpa [Cond.value, given_1] using hg0
    obtain ⟨L⟩ := args
    match L, hs with
    | [w0], _ => exact ⟨w0, rfl⟩
  have hw := fun d (hd : d ∈ tables_1) => atoms_spec (ws := Jvm.Cond.code x code maxLocals ret :: tables_1) hat d (List.mem_cons_of_mem _ hd)
  have hfit : Fit s := fun {y c} hc i hi => by
    obtain ⟨ha, rfl⟩ := Array.getElem?_eq_some_iff.mp hc
    have q := List.all_eq_true.mp ((Array.all_eq_true_iff_forall_mem.mp hF) _ (Array.getElem_mem ha)) i (List.mem_range.mpr hi)
    simpa [Array.getElem?_eq_getElem hi] using q
  obtain ⟨i0, ei0⟩ := is_v ga0
  obtain rfl : w0 = (.int i0) := Option.some.inj ei0
  obtain ⟨hn0, hn⟩ := and_e hn
  obtain ⟨hn1, hn⟩ := and_e hn
  obtain ⟨hn2, hn⟩ := and_e hn
  obtain ⟨hn3, hn⟩ := and_e hn
  obtain ⟨hn4, hn⟩ := and_e hn
  obtain ⟨hn5, hn⟩ := and_e hn
  obtain ⟨hn6, hn⟩ := and_e hn
  have hn7 := hn
  obtain ⟨x_IF, ev_IF, S_IF, E_IF⟩ := own_sx (hw _ (List.mem_of_getElem? (i := 3) rfl)) (hw _ (List.mem_of_getElem? (i := 4) rfl)) hn0
  obtain ⟨x_EQUAL, ev_EQUAL, S_EQUAL, E_EQUAL⟩ := own_sx (hw _ (List.mem_of_getElem? (i := 3) rfl)) (hw _ (List.mem_of_getElem? (i := 7) rfl)) hn1
  obtain ⟨x_UNEQUAL, ev_UNEQUAL, S_UNEQUAL, E_UNEQUAL⟩ := own_sx (hw _ (List.mem_of_getElem? (i := 3) rfl)) (hw _ (List.mem_of_getElem? (i := 9) rfl)) hn2
  obtain ⟨x_SORT_TEST, ev_SORT_TEST, S_SORT_TEST, E_SORT_TEST⟩ := own_sx (hw _ (List.mem_of_getElem? (i := 3) rfl)) (hw _ (List.mem_of_getElem? (i := 11) rfl)) hn3
  have F_SORT_TEST := own_fi ev_SORT_TEST hn4
  have F_IF := own_fi ev_IF hn5
  have F_UNEQUAL := own_fi ev_UNEQUAL hn6
  have F_EQUAL := own_fi ev_EQUAL hn7
  obtain ⟨n, o, h1, h2, h3, _, L, rfl, ⟨rfl, N⟩, hq⟩ := rm0 l s _ hw tables_1 i0 (fun k : Int32 => if k = 0 then x_IF else if k = 1 then x_EQUAL else if k = 2 then x_UNEQUAL else x_SORT_TEST) s.heap s.heap.size (Nat.le_refl _) (Old.start s) S_IF S_EQUAL S_UNEQUAL S_SORT_TEST E_IF E_EQUAL E_UNEQUAL E_SORT_TEST (F_EQUAL.ne F_IF (by decide)) (F_UNEQUAL.ne F_IF (by decide)) (F_SORT_TEST.ne F_IF (by decide)) p e ha hc hk s m _ below hf ((Spec.applies_iff_loose hf).mp happ).1 ⟨rfl, State.Warmed39.refl s, rfl⟩ trivial
  refine ⟨n, _, h1, h2, h3, hpost _ _ _ _ _ _ ⟨Cond.after_iff.mpr rfl, Cond.after_iff.mpr (eq_i res_at (Term.int_eval (1)) rfl), trivial⟩ ⟨hq.1, hq.2.1, (hq.2.2.sift fun y hy => Or.inr (N y hy)).mono (by decide) (by decide)⟩⟩
theorem main_1_1 : Claimed_1_1 := comes_1 fun _ _ _ _ _ _ h hF => ⟨h.1, hF⟩
theorem main_1_2 : Claimed_1_2 := comes_1 fun _ _ _ _ _ _ h hF => ⟨h.2.1, hF⟩
end Jvm.Pilot.@@N@@
namespace Jvm.Pilot.@@N@@
open Jvm Jvm.ClassFile Sem Op Lib Jvm.Free Jvm.Stand Jvm.Pilot.@@N@@.Jvm.D
/-! MADE BY PROGRAM (witnessworld.py) out of the Statement's table words and the real class files: 13 classes; the members and pool entries that the words name. The judged class is class 1, her method 1. -/
namespace start1
open Jvm.ClassFile
def u (s : String) : CpInfo := .utf8 (stringToUtf16 s)
/-- a pool by its gaps: so many unusable entries, then the entry; so many at the end -/
def gap : Nat → List CpInfo → List CpInfo
  | 0, r => r
  | n + 1, r => .unusable :: gap n r
def poolList (es : List (Nat × CpInfo)) (last : Nat) : List CpInfo := es.foldr (fun e r => gap e.1 (e.2 :: r)) (gap last [])
def pool (es : List (Nat × CpInfo)) (last : Nat) : Array CpInfo := ⟨poolList es last⟩
def fileOf (pool : Array CpInfo) (this : Nat) (attrs : Array Attribute := #[]) (ms : Array MethodInfo := #[]) (fl : Nat := 33) (sup : Nat := 0) (ifs : Array Nat := #[]) (fds : Array FieldInfo := #[]) : ClassFile where
  minorVersion := 0
  majorVersion := 65
  constantPool := pool
  accessFlags := fl
  thisClass := this
  superClass := sup
  interfaces := ifs
  fields := fds
  methods := ms
  attributes := attrs
def plain (name : String) (sup : Option ClassId) : Class where
  name := name
  kind := .ordinary
  loader := none
  accessFlags := 33
  super := sup
  interfaces := #[]
  cf := none
  fields := #[]
  methods := #[]
  instanceTypes := #[]
  staticTypes := #[]
  resolved := #[]
  callSites := []
  init := .initialized
  statics := none
  mirror := none

def pool0 : Array CpInfo := pool [(5, u "<init>"), (0, u "()V"), (1, .class_ 10), (1, u "java/lang/Object")] 113

def k0m0 : Method := { name := "<init>", desc := "()V", sig := { parameters := [], returnType := none }, accessFlags := 1, code := none }
/-- java/lang/Object -/
def k0 : Class := { plain "java/lang/Object" none with
  accessFlags := 33
  interfaces := #[]
  cf := some (fileOf pool0 8 #[] #[{ accessFlags := 1, nameIndex := 5, descriptorIndex := 6, attributes := #[] }] 33 0 #[] #[])
  fields := #[]
  methods := #[k0m0]
  instanceTypes := #[]
  staticTypes := #[]
  resolved := Array.replicate 124 none
  statics := none }

def pool1 : Array CpInfo := pool [(2, .class_ 4), (1, u "java/lang/Object"), (0, u "<init>"), (0, u "()V"), (0, .class_ 8), (0, u "com/example/lazy_lasso/lazylasso/Bool$Polymorph"), (0, .fieldref 7 10), (0, .nameAndType 11 12), (0, u "IF"), (0, u "Lcom/example/lazy_lasso/lazylasso/Bool$Polymorph;"), (0, .fieldref 7 14), (0, .nameAndType 15 12), (0, u "EQUAL"), (0, .fieldref 7 17), (0, .nameAndType 18 12), (0, u "UNEQUAL"), (0, .fieldref 7 20), (0, .nameAndType 21 12), (0, u "SORT_TEST"), (0, .methodref 7 23), (0, .nameAndType 24 25), (0, u "staysInNormalForms"), (0, u "()Z"), (0, .class_ 27), (0, u "com/example/lazy_lasso/lazylasso/PolymorphStaysInNormalFormsPinLaw"), (2, u "law"), (0, u "(I)Z")] 9

def k1m0 : Method := { name := "<init>", desc := "()V", sig := { parameters := [], returnType := none }, accessFlags := 2, code := none }
def k1c1 : Code := { maxStack := 4, maxLocals := 4, code := code, exceptionTable := #[], attributes := #[] }
def k1m1 : Method := { name := "law", desc := "(I)Z", sig := { parameters := [.int], returnType := some .boolean }, accessFlags := 9, code := some k1c1 }
/-- com/example/lazy_lasso/lazylasso/PolymorphStaysInNormalFormsPinLaw -/
def k1 : Class := { plain "com/example/lazy_lasso/lazylasso/PolymorphStaysInNormalFormsPinLaw" (some 0) with
  accessFlags := 49
  interfaces := #[]
  cf := some (fileOf pool1 26 #[] #[{ accessFlags := 2, nameIndex := 5, descriptorIndex := 6, attributes := #[] }, { accessFlags := 9, nameIndex := 30, descriptorIndex := 31, attributes := #[] }] 49 2 #[] #[])
  fields := #[]
  methods := #[k1m0, k1m1]
  instanceTypes := #[]
  staticTypes := #[]
  resolved := Array.replicate 41 none
  statics := none }

def pool2 : Array CpInfo := pool [(1, .class_ 2), (0, u "java/lang/constant/Constable"), (0, .class_ 4), (0, u "java/lang/Object")] 6

/-- java/lang/constant/Constable -/
def k2 : Class := { plain "java/lang/constant/Constable" (some 0) with
  accessFlags := 1537
  interfaces := #[]
  cf := some (fileOf pool2 1 #[] #[] 1537 3 #[] #[])
  fields := #[]
  methods := #[]
  instanceTypes := #[]
  staticTypes := #[]
  resolved := Array.replicate 11 none
  statics := none }

def pool3 : Array CpInfo := pool [(1, .class_ 2), (0, u "java/lang/Comparable"), (0, .class_ 4), (0, u "java/lang/Object")] 7

/-- java/lang/Comparable -/
def k3 : Class := { plain "java/lang/Comparable" (some 0) with
  accessFlags := 1537
  interfaces := #[]
  cf := some (fileOf pool3 1 #[] #[] 1537 3 #[] #[])
  fields := #[]
  methods := #[]
  instanceTypes := #[]
  staticTypes := #[]
  resolved := Array.replicate 12 none
  statics := none }

def pool4 : Array CpInfo := pool [(1, .class_ 2), (0, u "java/io/Serializable"), (0, .class_ 4), (0, u "java/lang/Object")] 2

/-- java/io/Serializable -/
def k4 : Class := { plain "java/io/Serializable" (some 0) with
  accessFlags := 1537
  interfaces := #[]
  cf := some (fileOf pool4 1 #[] #[] 1537 3 #[] #[])
  fields := #[]
  methods := #[]
  instanceTypes := #[]
  staticTypes := #[]
  resolved := Array.replicate 7 none
  statics := none }

def pool5 : Array CpInfo := pool [(2, .class_ 4), (1, u "java/lang/Enum"), (0, u "name"), (0, u "Ljava/lang/String;"), (2, u "ordinal"), (0, u "I"), (1, .class_ 14), (1, u "java/lang/Object"), (4, u "hash"), (86, .class_ 108), (1, u "java/lang/Enum$EnumDesc"), (2, .class_ 112), (0, u "java/lang/constant/Constable"), (0, .class_ 114), (0, u "java/lang/Comparable"), (0, .class_ 116), (0, u "java/io/Serializable")] 87

/-- java/lang/Enum -/
def k5 : Class := { plain "java/lang/Enum" (some 0) with
  accessFlags := 1057
  interfaces := #[2, 3, 4]
  cf := some (fileOf pool5 2 #[.nestMembers #[106]] #[] 1057 12 #[111, 113, 115] #[{ accessFlags := 18, nameIndex := 5, descriptorIndex := 6, attributes := #[] }, { accessFlags := 18, nameIndex := 9, descriptorIndex := 10, attributes := #[] }, { accessFlags := 2, nameIndex := 19, descriptorIndex := 10, attributes := #[] }])
  fields := #[{ name := "name", type := (.object "java/lang/String"), accessFlags := 18, slot := 0, constantValue := 0 }, { name := "ordinal", type := .int, accessFlags := 18, slot := 1, constantValue := 0 }, { name := "hash", type := .int, accessFlags := 2, slot := 2, constantValue := 0 }]
  methods := #[]
  instanceTypes := #[(.object "java/lang/String"), .int, .int]
  staticTypes := #[]
  resolved := Array.replicate 204 none
  statics := none }

def pool6 : Array CpInfo := pool [(1, .class_ 2), (0, u "com/example/lazy_lasso/lazylasso/Bool$Polymorph"), (0, .fieldref 1 4), (0, .nameAndType 5 6), (0, u "IF"), (0, u "Lcom/example/lazy_lasso/lazylasso/Bool$Polymorph;"), (2, u "EQUAL"), (2, u "UNEQUAL"), (2, u "SORT_TEST"), (2, u "$VALUES"), (0, u "[Lcom/example/lazy_lasso/lazylasso/Bool$Polymorph;"), (6, .class_ 28), (1, u "java/lang/Enum"), (32, .class_ 63), (1, u "com/example/lazy_lasso/lazylasso/Bool"), (70, u "staysInNormalForms"), (0, u "()Z")] 8

def k6c0 : Code := { maxStack := 2, maxLocals := 1, code := prog_15_method_5_code, exceptionTable := #[], attributes := #[] }
def k6m0 : Method := { name := "staysInNormalForms", desc := "()Z", sig := { parameters := [], returnType := some .boolean }, accessFlags := 0, code := some k6c0 }
/-- com/example/lazy_lasso/lazylasso/Bool$Polymorph -/
def k6 : Class := { plain "com/example/lazy_lasso/lazylasso/Bool$Polymorph" (some 5) with
  accessFlags := 16432
  interfaces := #[]
  cf := some (fileOf pool6 1 #[.nestHost 61] #[{ accessFlags := 0, nameIndex := 134, descriptorIndex := 135, attributes := #[] }] 16432 26 #[] #[{ accessFlags := 16409, nameIndex := 5, descriptorIndex := 6, attributes := #[] }, { accessFlags := 16409, nameIndex := 9, descriptorIndex := 6, attributes := #[] }, { accessFlags := 16409, nameIndex := 12, descriptorIndex := 6, attributes := #[] }, { accessFlags := 16409, nameIndex := 15, descriptorIndex := 6, attributes := #[] }, { accessFlags := 4122, nameIndex := 18, descriptorIndex := 19, attributes := #[] }])
  fields := #[{ name := "IF", type := (.object "com/example/lazy_lasso/lazylasso/Bool$Polymorph"), accessFlags := 16409, slot := 0, constantValue := 0 }, { name := "EQUAL", type := (.object "com/example/lazy_lasso/lazylasso/Bool$Polymorph"), accessFlags := 16409, slot := 1, constantValue := 0 }, { name := "UNEQUAL", type := (.object "com/example/lazy_lasso/lazylasso/Bool$Polymorph"), accessFlags := 16409, slot := 2, constantValue := 0 }, { name := "SORT_TEST", type := (.object "com/example/lazy_lasso/lazylasso/Bool$Polymorph"), accessFlags := 16409, slot := 3, constantValue := 0 }, { name := "$VALUES", type := (.array (.object "com/example/lazy_lasso/lazylasso/Bool$Polymorph")), accessFlags := 4122, slot := 4, constantValue := 0 }]
  methods := #[k6m0]
  instanceTypes := #[(.object "java/lang/String"), .int, .int]
  staticTypes := #[(.object "com/example/lazy_lasso/lazylasso/Bool$Polymorph"), (.object "com/example/lazy_lasso/lazylasso/Bool$Polymorph"), (.object "com/example/lazy_lasso/lazylasso/Bool$Polymorph"), (.object "com/example/lazy_lasso/lazylasso/Bool$Polymorph"), (.array (.object "com/example/lazy_lasso/lazylasso/Bool$Polymorph"))]
  resolved := Array.replicate 144 none
  statics := some 0 }

def pool7 : Array CpInfo := pool [(1, u "java/lang/Cloneable"), (0, .class_ 1), (0, u "java/lang/Object"), (0, .class_ 3)] 3

/-- java/lang/Cloneable -/
def k7 : Class := { plain "java/lang/Cloneable" (some 0) with
  accessFlags := 1537
  interfaces := #[]
  cf := some (fileOf pool7 2 #[] #[] 1537 4 #[] #[])
  fields := #[]
  methods := #[]
  instanceTypes := #[]
  staticTypes := #[]
  resolved := Array.replicate 8 none
  statics := none }

/-- the primitive byte -/
def k8 : Class := { plain "byte" none with kind := .primitive 'B', accessFlags := 0x411 }
/-- [B -/
def k9 : Class := { plain "[B" (some 0) with kind := .array 8 .byte, interfaces := #[7, 4], accessFlags := 1041 }

/-- the primitive int -/
def k10 : Class := { plain "int" none with kind := .primitive 'I', accessFlags := 0x411 }
/-- [I -/
def k11 : Class := { plain "[I" (some 0) with kind := .array 10 .int, interfaces := #[7, 4], accessFlags := 1041 }

/-- [Lcom/example/lazy_lasso/lazylasso/Bool$Polymorph; -/
def k12 : Class := { plain "[Lcom/example/lazy_lasso/lazylasso/Bool$Polymorph;" (some 0) with kind := .array 6 (.object "com/example/lazy_lasso/lazylasso/Bool$Polymorph"), interfaces := #[7, 4], accessFlags := 1041 }

def heap : Heap := #[{ cls := 6, slots := #[.ref 1, .ref 2, .ref 3, .ref 4, .null], vm := .statics 6 },
  { cls := 6, slots := #[.null, .int 0, .int 0], vm := .none },
  { cls := 6, slots := #[.null, .int 1, .int 0], vm := .none },
  { cls := 6, slots := #[.null, .int 2, .int 0], vm := .none },
  { cls := 6, slots := #[.null, .int 3, .int 0], vm := .none }]
def classes : Array Class := #[k0, k1, k2, k3, k4, k5, k6, k7, k8, k9, k10, k11, k12]
def interned : List (Array UInt16 × Addr) := []
def slotsUsed : Nat := 17
def theMethod : MethodId := ⟨1, 1⟩
def args0 : Array Value := #[.int 5]
def aboutOver (below : List Frame) : State where
  vm := { classes := classes, interned := interned.toArray }
  heap := heap
  slotsUsed := slotsUsed
  threads := #[{ frames := .invoking theMethod args0 :: below }]
def below0 : List Frame := [.native { method := ⟨0, 0⟩, args := #[] }]
def about1 : State := aboutOver below0
def p0 : Program := .bare "" "" ""
def e0 : Env := launch0.env 0 0 0
theorem w_frames : about1.frames = Frame.invoking theMethod args0 :: below0 := rfl
set_option maxRecDepth 65536 in
theorem w_args : argsFit about1.vm theMethod args0 = true := by decide +kernel
set_option maxRecDepth 65536 in
theorem w_heap : heapFits about1 = true := by decide +kernel
set_option maxRecDepth 65536 in
theorem w_runnable : about1.curStatus? = some .runnable := by decide +kernel
set_option maxRecDepth 65536 in
theorem w_alone : about1.alone = true := by decide +kernel
set_option maxRecDepth 65536 in
theorem w_named : about1.methodNamed? x = some theMethod := by decide +kernel
set_option maxRecDepth 65536 in
theorem w_hears : about1.hears theMethod below0 = true := by decide +kernel
set_option maxRecDepth 65536 in
theorem w_ripe : about1.ripe theMethod args0 below0 = true := by decide +kernel
theorem w_running : about1.status = .running := rfl
set_option maxRecDepth 65536 in
theorem w_room : about1.hasRoom e0.platform room_1 = true :=
  launch0.hasRoom_least _ room_1 (by decide +kernel) (by decide +kernel) (by decide +kernel) (by decide +kernel) (by decide +kernel) (by decide +kernel)
theorem allAtoms_all (ts : List Jvm.Cond) (a : Array Jvm.Value) (st : Jvm.State) : (allAtoms ts).before a st = ts.all (fun c => c.before a st) := by
  induction ts with
  | nil => rfl
  | cons c t ih =>
    show (Jvm.Cond.and c (allAtoms t)).before a st = _
    rw [Jvm.Cond.before_and, ih, List.all_cons]
def words1 : List Jvm.Cond := Jvm.Cond.code x code maxLocals ret :: tables_1
/-- a 'code' word, met by the world's own term for the bytes: nothing is compared byte by byte -/
theorem code_word {y : MethodName} {bytes : ByteArray} {mx : Nat} {rt : Option FieldType} {a : Array Value} {s : State} {m : MethodId} {meth : Method} {c : Code} (h1 : s.methodNamed? y = some m) (h2 : s.vm.method? m = some meth) (h3 : meth.code = some c) (h4 : c.code = bytes)
    (h5 : (c.maxLocals == mx && c.exceptionTable.isEmpty && decide (c.maxStack ≤ mostOperands) && decide (meth.sig.returnType = rt) && !meth.locks && decide (parseMethodDescriptor y.desc = some meth.sig)) = true) : (Jvm.Cond.code y bytes mx rt).before a s = true := by
  simp only [Bool.and_eq_true, beq_iff_eq, Bool.not_eq_true', decide_eq_true_eq] at h5
  obtain ⟨⟨⟨⟨⟨g1, g2⟩, g3⟩, g4⟩, g5⟩, g6⟩ := h5
  simp [Cond.before, Cond.holds, Cond.value, h1, h2, h3, h4, g1, g2, g3, g4, g5, g6]
def isCode : Jvm.Cond → Bool
  | .code _ _ _ _ => true
  | _ => false
theorem all_split {L : List Jvm.Cond} {P : Jvm.Cond → Bool} (h1 : L.all (fun c => isCode c || P c) = true) (h2 : ∀ c ∈ L.filter isCode, P c = true) : L.all P = true := by
  refine List.all_eq_true.mpr fun c hc => ?_
  have h := List.all_eq_true.mp h1 c hc
  rcases Bool.eq_false_or_eq_true (isCode c) with hi | hi
  · exact h2 c (List.mem_filter.mpr ⟨hc, hi⟩)
  · simpa [hi] using h
set_option maxRecDepth 65536 in
theorem w_c0 : (Jvm.Cond.code x code maxLocals ret).before args0 about1 = true := code_word (m := ⟨1, 1⟩) (meth := k1m1) (c := k1c1) (by decide +kernel) rfl rfl rfl (by decide +kernel)
set_option maxRecDepth 65536 in
theorem w_c1 : (Jvm.Cond.code ({ cls := "com/example/lazy_lasso/lazylasso/Bool$Polymorph", name := "staysInNormalForms", desc := "()Z" } : Jvm.MethodName) prog_15_method_5_code (1 : Nat) (Option.some Jvm.ClassFile.FieldType.boolean)).before args0 about1 = true := code_word (m := ⟨6, 0⟩) (meth := k6m0) (c := k6c0) (by decide +kernel) rfl rfl rfl (by decide +kernel)
def codes1 : List Jvm.Cond := [Jvm.Cond.code x code maxLocals ret, Jvm.Cond.code ({ cls := "com/example/lazy_lasso/lazylasso/Bool$Polymorph", name := "staysInNormalForms", desc := "()Z" } : Jvm.MethodName) prog_15_method_5_code (1 : Nat) (Option.some Jvm.ClassFile.FieldType.boolean)]
set_option maxRecDepth 65536 in
theorem codes_eq : words1.filter isCode = codes1 := rfl
theorem w_codes : ∀ c ∈ words1.filter isCode, c.before args0 about1 = true := by
  rw [codes_eq]
  intro c hc
  simp only [codes1, List.mem_cons, List.not_mem_nil, or_false] at hc
  rcases hc with rfl | rfl
  · exact w_c0
  · exact w_c1
set_option maxRecDepth 65536 in
theorem w_t1 : words1.all (fun c => isCode c || c.before args0 about1) = true := by decide +kernel
theorem w_tables : (allAtoms (Jvm.Cond.code x code maxLocals ret :: tables_1)).before args0 about1 = true := by
  rw [allAtoms_all]
  show words1.all (fun c => c.before args0 about1) = true
  refine all_split ?_ w_codes
  rw [w_t1]
set_option maxRecDepth 65536 in
theorem w_case : (Jvm.Cond.and given_1 narrow_1).before args0 about1 = true := by decide +kernel
theorem w_applies : (headSpec (Jvm.Cond.code x code maxLocals ret :: tables_1) room_1).applies x e0.platform about1 = true :=
  (Spec.applies_iff w_frames).mpr ⟨w_running, w_runnable, w_alone, w_named, w_hears, w_ripe, w_room, w_tables⟩
theorem atStart : AtStart classFile x code maxLocals ret World_1 tables_1 room_1 Calls_1 rest_1 Pre_1 launch0 p0 e0 about1 theMethod args0 below0 :=
  ⟨lists_1, trivial, launch0.admits_env _ _ _, launch0.least_env, fairChoices_fair.cas, fairChoices_fair.clock, w_frames, w_args, w_heap, w_applies, trivial, trivial, w_case⟩
end start1
theorem witness_1 : WitnessClaimed_1 := ⟨start1.p0, start1.e0, start1.about1, start1.theMethod, start1.args0, start1.below0, start1.atStart⟩
end Jvm.Pilot.@@N@@
