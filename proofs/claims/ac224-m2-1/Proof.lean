import JvmDerived
import JvmDerived.Pilot.@@N@@Statement
import JvmDerived.Pilot.@@N@@Code
set_option linter.unusedVariables false
set_option linter.unusedSimpArgs false
@@BLOCK:NumsL.lean.txt@@
namespace Jvm.RoadKit
open Sem ClassFile Op Lib Jvm.Stand Jvm.Free Jvm.LawKit
section New
variable {p : Program} {l : Launch} {e : Env} {R : Room} {s : State} {m : MethodId} {args : Array Value} {below : List Frame} {meth : Method} {c : Code} {T : State} {locs : List Loc} {cells slots : Nat}
theorem retI (X : Stand p l e R s m args below meth c T locs cells slots) (hx : p.tables.exec = Jvm.exec) {pc : Nat} {Ls : Array Slot} {z : Int32} {rest : List Value} (hret : meth.sig.returnType = some .int) (hd : decode c.code pc = .ok (.ireturn, 1)) {fs : List Frame}
    (hl : ∀ (f : JFrame) (acts : List Action), f.method = m → f.locked = none → f.entered = [] → (doReturn e (T.setTop f) acts (some (.int z))).1 = T.setFrames fs) : Steps p.tables e below (T.setTop (mkF m pc Ls (.int z :: rest))) (T.setFrames fs) := by
  have hm' : T.vm.method? m = some meth := X.method'
  have hn : narrow .int (.int z) = .int z := rfl
  show Steps p.tables e below (T.setTop { method := m, pc := pc, locals := Ls, stack := _ :: rest, locked := none }) _
  jvm_step X.here [X.here.top, hx, hd, hm', hret, hn]
  first | (intro acts; rw [hl _ acts rfl rfl rfl]) | rw [hl _ _ rfl rfl rfl]
  exact Steps.refl _
end New
end Jvm.RoadKit
namespace Jvm.Pilot.@@N@@
open Jvm Jvm.ClassFile Sem Op Lib Jvm.Free Jvm.Stand Jvm.LawKit Jvm.RoadKit Bundle Jvm.Pilot.@@N@@.Jvm.D
theorem own_fi {args : Array Value} {s : State} {t : Term} {C n d : String} {k : Int32} {x : Addr} (ht : t.eval args s none [] s = some (.ref x)) (h : (Jvm.Cond.eq (Term.field t C n d) (Term.int k)).value args s none s [] = some true) : Fld s s.heap x C n d (.int k) := by
  obtain ⟨a, b, ha, hb, hk, -⟩ := cmp_v (Or.inl h)
  have hb' : b = .int k := Option.some.inj (hb.symm.trans rfl)
  subst hb'
  cases a <;> simp [Kin, Value.isRef] at hk
  rename_i z
  have hz : z = k := by simpa [Jvm.Cond.value, ha, hb] using h
  subst hz
  exact Fld.start ((fld_at ht).symm.trans ha)
theorem own_fn {args : Array Value} {s : State} {t : Term} {C n d : String} {x : Addr} (ht : t.eval args s none [] s = some (.ref x)) (h : (Jvm.Cond.eq (Term.field t C n d) Term.null).value args s none s [] = some true) : Fld s s.heap x C n d .null := Fld.start ((fld_at ht).symm.trans (null_v h))
theorem own_fx {args : Array Value} {s : State} {t : Term} {C n d K : String} {x : Addr} (ht : t.eval args s none [] s = some (.ref x)) (h : (Jvm.Cond.exactly (Term.field t C n d) K).value args s none s [] = some true) : ∃ y, (Term.field t C n d).eval args s none [] s = some (.ref y) ∧ Fld s s.heap x C n d (.ref y) ∧ Exa s s.heap y K := by
  obtain ⟨y, hy⟩ := exa_v h
  exact ⟨y, hy, Fld.start ((fld_at ht).symm.trans hy), Exa.start hy h⟩
theorem own_sx {args : Array Value} {s : State} {C n d K : String} (hi : (Jvm.Cond.initialized C).before args s = true) (hl : (Jvm.Cond.laysStatic C n d).before args s = true) (h : (Jvm.Cond.exactly (Term.static C n d) K).value args s none s [] = some true) : ∃ x, (Term.static C n d).eval args s none [] s = some (.ref x) ∧ Sta s s.heap C n d (.ref x) ∧ Exa s s.heap x K := by
  obtain ⟨y, hy⟩ := exa_v h
  exact ⟨y, hy, Sta.start hy (Or.inr ⟨hi, hl⟩), Exa.start hy h⟩
theorem own_and31 (x : Int32) : (x &&& 2147483647).toInt = x.toInt % 2 ^ 31 := Jvm.Kit.i32_mask x 2147483647 (k := 31) (by decide) (by decide)
theorem own_pos31 (x : Int32) : 0 ≤ (x &&& 2147483647).toInt := by rw [own_and31]; omega
theorem own_rem (x m : Int32) (hm : 0 < m.toInt) : 0 ≤ ((x &&& 2147483647) % m).toInt ∧ ((x &&& 2147483647) % m).toInt < m.toInt := by
  have h1 := own_pos31 x
  rw [Int32.toInt_mod]
  have h2 : ((x &&& 2147483647).toInt).tmod m.toInt = (x &&& 2147483647).toInt % m.toInt := Int.tmod_eq_emod_of_nonneg h1
  have h3 := Int.emod_nonneg (x &&& 2147483647).toInt (show m.toInt ≠ 0 by omega)
  have h4 := Int.emod_lt_of_pos (x &&& 2147483647).toInt hm
  omega
theorem own_selp {s : State} {args : Array Value} {y : MethodName} {n : Nat} (hy : y.cls ≠ "java/lang/invoke/MethodHandle" ∧ y.cls ≠ "java/lang/invoke/VarHandle") (hins : (Jvm.Cond.instantiable y.cls n).before args s = true) (hpriv : (Jvm.Cond.privateMethod y).before args s = true) (hinst : (Jvm.Cond.instanceMethod y).before args s = true) : (Jvm.Cond.selects y.cls y y).before args s = true := by
  obtain ⟨c, k, hc, hk, -, hniab, -, -⟩ := Cond.instantiable_spec hins
  have hni : k.isInterface = false := (Bool.or_eq_false_iff.mp hniab).1
  obtain ⟨mk, methM, hnamed, hmethM, -, -⟩ := Cond.instanceMethod_spec hinst
  have hfound : s.methodFound? y.cls y.name y.desc = some mk := State.methodFound?_of_named hnamed hy
  have hcls : mk.cls = c := Option.some.inj ((findClass_of_methodNamed hnamed).symm.trans hc)
  have hsel : selectMethod {} s.vm c mk = .method mk := selectMethod_private hmethM (Cond.privateMethod_at hpriv mk methM hnamed hmethM)
  simp only [Cond.before, Cond.holds, Cond.value, hc, hfound, hnamed, hsel, hcls, hk]
  simp; exact hni
theorem own_hp {T : State} {h : Heap} {a : Addr} {c : Cell} (e : T.heap = h) (q : h[a]? = some c) : T.heap[a]? = some c := e ▸ q
theorem own_of_toInt {x : Int32} {n : Int} (h : x.toInt = n) : x = Int32.ofInt n := by rw [← h, Int32.ofInt_toInt]
def own_K (k : Int32) : Prop := k = 0 ∨ k = 1 ∨ k = 2 ∨ k = 3 ∨ k = 4 ∨ k = 5
theorem own_K_of (x : Int32) : own_K ((x &&& 2147483647) % 6) := by
  obtain ⟨h1, h2⟩ := own_rem x 6 (by decide)
  have e11 : (6 : Int32).toInt = 6 := rfl
  rw [e11] at h2
  generalize hz : ((x &&& 2147483647) % 6) = z at *
  have : z.toInt = 0 ∨ z.toInt = 1 ∨ z.toInt = 2 ∨ z.toInt = 3 ∨ z.toInt = 4 ∨ z.toInt = 5 := by omega
  unfold own_K
  rcases this with h | h | h | h | h | h <;> (have := own_of_toInt h; subst this; decide)
theorem own_len {args : Array Value} {s : State} {t : Term} {b : Addr} {c : Cell} {ty : FieldType} {k : Int32} (ht : t.eval args s none [] s = some (.ref b)) (A : Arr s s.heap b c ty) (h : (Jvm.Cond.eq (Term.length t) (Term.int k)).value args s none s [] = some true) : c.slots.size.toInt32 = k := by
  obtain ⟨a, b', ha, hb, hk, -⟩ := cmp_v (Or.inl h)
  have hb' : b' = .int k := Option.some.inj (hb.symm.trans rfl)
  subst hb'
  cases a <;> simp [Kin, Value.isRef] at hk
  rename_i z
  have hz : z = k := by simpa [Jvm.Cond.value, ha, hb] using h
  subst hz
  obtain ⟨x', c', e1, e2, e3⟩ := Term.length_spec ha
  cases ht.symm.trans e1
  have hc := (State.arrayAt?_spec e2).1
  cases A.1.symm.trans hc
  first | exact (Value.int.inj e3).symm | exact (Value.int.inj e3.2).symm | exact (Value.int.inj e3.1).symm
theorem d1_0 : decode method_3_code 0 = .ok (.iload_n 0, 1) := by decide +kernel
theorem d1_1 : decode method_3_code 1 = .ok (.ifCond .ne 7, 3) := by decide +kernel
theorem d1_4 : decode method_3_code 4 = .ok (.getstatic 29, 3) := by decide +kernel
theorem d1_7 : decode method_3_code 7 = .ok (.areturn, 1) := by decide +kernel
theorem d1_8 : decode method_3_code 8 = .ok (.iload_n 0, 1) := by decide +kernel
theorem d1_9 : decode method_3_code 9 = .ok (.iconst 1, 1) := by decide +kernel
theorem d1_10 : decode method_3_code 10 = .ok (.if_icmp .ne 7, 3) := by decide +kernel
theorem d1_13 : decode method_3_code 13 = .ok (.getstatic 33, 3) := by decide +kernel
theorem d1_16 : decode method_3_code 16 = .ok (.areturn, 1) := by decide +kernel
theorem d1_17 : decode method_3_code 17 = .ok (.iload_n 0, 1) := by decide +kernel
theorem d1_18 : decode method_3_code 18 = .ok (.iconst 2, 1) := by decide +kernel
theorem d1_19 : decode method_3_code 19 = .ok (.if_icmp .ne 7, 3) := by decide +kernel
theorem d1_22 : decode method_3_code 22 = .ok (.getstatic 36, 3) := by decide +kernel
theorem d1_25 : decode method_3_code 25 = .ok (.areturn, 1) := by decide +kernel
theorem d1_26 : decode method_3_code 26 = .ok (.iload_n 0, 1) := by decide +kernel
theorem d1_27 : decode method_3_code 27 = .ok (.iconst 3, 1) := by decide +kernel
theorem d1_28 : decode method_3_code 28 = .ok (.if_icmp .ne 7, 3) := by decide +kernel
theorem d1_31 : decode method_3_code 31 = .ok (.getstatic 39, 3) := by decide +kernel
theorem d1_34 : decode method_3_code 34 = .ok (.areturn, 1) := by decide +kernel
theorem d1_35 : decode method_3_code 35 = .ok (.iload_n 0, 1) := by decide +kernel
theorem d1_36 : decode method_3_code 36 = .ok (.iconst 4, 1) := by decide +kernel
theorem d1_37 : decode method_3_code 37 = .ok (.if_icmp .ne 7, 3) := by decide +kernel
theorem d1_40 : decode method_3_code 40 = .ok (.getstatic 42, 3) := by decide +kernel
theorem d1_43 : decode method_3_code 43 = .ok (.areturn, 1) := by decide +kernel
theorem d1_44 : decode method_3_code 44 = .ok (.getstatic 45, 3) := by decide +kernel
theorem d1_47 : decode method_3_code 47 = .ok (.areturn, 1) := by decide +kernel
theorem pn_0 : plainName "com/example/convey/convey/model/MailboxRoleMadeWithAccountPinLaw" = true := by first | (simp [plainName, overriddenIn]; done) | decide +kernel
theorem ef_rm1 (m : MethodId) (p1 : Int32) : entryFrame m #[(.int p1)] 1 = mkF m 0 #[.val (.int p1)] [] := by first | (simp [entryFrame, mkF, argsToLocals, Value.category]; done) | rfl
def Q1 (Z : State) (p1 : Int32) (r : Int32 → Addr) (h0 : Heap) (n0 : Nat) (v : Option Value) (h : Heap) (L : List Loc) : Prop := v = some (.ref (r p1)) ∧ Fr n0 L ∧ h = h0
set_option maxRecDepth 65536 in
set_option maxHeartbeats 40000000 in
theorem rm1 (l : Launch) (Z : State) (a0 : Array Value) (hw : ∀ d ∈ tables_1, d.before a0 Z = true) (ws : List Jvm.Cond) (p1 : Int32) (r : Int32 → Addr) (h0 : Heap) (n0 : Nat) (Z0 : n0 ≤ h0.size) (O0 : Old Z n0 h0) (S_INBOX : Sta Z Z.heap "com/example/convey/convey/model/MailboxRole" "INBOX" "Lcom/example/convey/convey/model/MailboxRole;" (.ref (r 0))) (S_DRAFTS : Sta Z Z.heap "com/example/convey/convey/model/MailboxRole" "DRAFTS" "Lcom/example/convey/convey/model/MailboxRole;" (.ref (r 1))) (S_SENT : Sta Z Z.heap "com/example/convey/convey/model/MailboxRole" "SENT" "Lcom/example/convey/convey/model/MailboxRole;" (.ref (r 2))) (S_TRASH : Sta Z Z.heap "com/example/convey/convey/model/MailboxRole" "TRASH" "Lcom/example/convey/convey/model/MailboxRole;" (.ref (r 3))) (S_ARCHIVE : Sta Z Z.heap "com/example/convey/convey/model/MailboxRole" "ARCHIVE" "Lcom/example/convey/convey/model/MailboxRole;" (.ref (r 4))) (S_JUNK : Sta Z Z.heap "com/example/convey/convey/model/MailboxRole" "JUNK" "Lcom/example/convey/convey/model/MailboxRole;" (.ref (r 5))) (hk : own_K p1) :
    MetFree l (⟨"com/example/convey/convey/model/MailboxRoleMadeWithAccountPinLaw", "pick", "(I)Lcom/example/convey/convey/model/MailboxRole;"⟩ : MethodName) (head1 (Jvm.Cond.code (⟨"com/example/convey/convey/model/MailboxRoleMadeWithAccountPinLaw", "pick", "(I)Lcom/example/convey/convey/model/MailboxRole;"⟩ : MethodName) method_3_code 1 (some (.object "com/example/convey/convey/model/MailboxRole")) :: ws) ({ frames := 0, cells := 0, slots := 0, locals := 0 } : Room)) (fun a U => a = #[(.int p1)] ∧ Z.Warmed39 U.vm ∧ U.heap = h0) (fun _ _ _ _ _ => True) (fun _ U o U' => ∃ v L, o = .returned v ∧ Q1 Z p1 r h0 n0 v U'.heap L ∧ FrameEnd U o U' L ({ frames := 0, cells := 0, slots := 0, locals := 0 } : Room).cells ({ frames := 0, cells := 0, slots := 0, locals := 0 } : Room).slots) := by
  refine MetFree.of_bodySF (plainFor_of_name pn_0) hisR ?_
  intro p e s m args below meth c s₁ Bd hml0 hP hK
  obtain ⟨rfl, hZ, hh⟩ := hP
  have hx := Bd.exec
  have hby := Bd.bytes
  have hml : c.maxLocals = 1 := hml0
  have hown : s.vm.findClass "com/example/convey/convey/model/MailboxRoleMadeWithAccountPinLaw" = some m.cls := findClass_of_methodNamed Bd.named
  have hnm := (name_of_methodNamed Bd.named Bd.method).1
  have X0 : Stand p l e ({ frames := 0, cells := 0, slots := 0, locals := 0 } : Room) s m #[(.int p1)] below meth c s₁ [] 0 0 := Stand.of_body Bd
  have e0 : s₁.heap = h0 := by rw [← hh, Bd.state]; rfl
  have N0 := Fr.nil n0
  have K0 := Keep.refl h0 []
  have go0 : Goes p e below s₁ (entryFrame m #[(.int p1)] 1) s₁ (mkF m 0 #[.val (.int p1)] []) := fun t k => castTop (ef_rm1 m p1) k
  have go1 : Goes p e below s₁ (entryFrame m #[(.int p1)] 1) s₁ (mkF m 1 #[.val (.int p1)] [(.int p1)]) := fun t k => by
    refine go0 t ?_
    refine XS.iloadN X0.here hx rfl (hb hby d1_0) rfl ?_
    show Steps p.tables e below (s₁.setTop (mkF m 1 #[.val (.int p1)] [(.int p1)])) _
    exact k
  by_cases hc2 : p1 = (0 : Int32)
  · have go3 : Goes p e below s₁ (entryFrame m #[(.int p1)] 1) s₁ (mkF m 4 #[.val (.int p1)] []) := fun t k => by
      refine go1 t ?_
      refine XS.ifNo X0.here hx rfl (hb hby d1_1) rfl (Jvm.Free.XT.i0_ne_f hc2) ?_
      show Steps p.tables e below (s₁.setTop (mkF m 4 #[.val (.int p1)] [])) _
      exact k
    obtain ⟨T4, X4, e4, st4⟩ := getS2 X0 hx hZ hown (host := "") (Or.inl (hw _ (List.mem_of_getElem? (i := 5) rfl))) Via.refl e0 (S_INBOX.ext O0.2) (g := (mkF m 4 #[.val (.int p1)] [])) rfl (hb hby d1_4)
    have go5 : Goes p e below s₁ (entryFrame m #[(.int p1)] 1) T4 (mkF m 7 #[.val (.int p1)] [(.ref (r 0))]) := fun t k => go3 t (st4 t k)
    obtain ⟨fs, hr, hrun, hended, hW, hsame⟩ := X4.leave (v := some (.ref (r 0))) (fun h => by rw [Bd.returns] at h; cases h)
    refine ⟨_, _, go5 _ ?_, hrun, hended, _, _, rfl, ?_, ⟨_, rfl⟩, hW, hsame.mono (by decide) (by decide)⟩
    · jvm_step X4.here [X4.here.top, hx, (hb hby d1_7), X4.method', Bd.returns, Value.isRef, FieldType.isReference]
      first | (intro acts; rw [hr _ acts rfl rfl rfl]) | rw [hr _ _ rfl rfl rfl]
      exact Steps.refl _
    · show Q1 Z _ _ _ _ _ T4.heap _
      rw [e4]
      exact ⟨by rw [hc2], N0, rfl⟩
  · have go6 : Goes p e below s₁ (entryFrame m #[(.int p1)] 1) s₁ (mkF m 10 #[.val (.int p1)] [(.int (1 : Int32)), (.int p1)]) := fun t k => by
      refine go1 t ?_
      refine XS.ifYes X0.here hx rfl (pc0 := 1) (pc' := 8) rfl (hb hby d1_1) rfl (Jvm.Free.XT.i0_ne_t hc2) (by decide) (by decide) ?_
      show Steps p.tables e below (s₁.setTop (mkF m 8 #[.val (.int p1)] [])) _
      refine XS.iloadN X0.here hx rfl (hb hby d1_8) rfl ?_
      show Steps p.tables e below (s₁.setTop (mkF m 9 #[.val (.int p1)] [(.int p1)])) _
      refine XS.iconst X0.here hx rfl (hb hby d1_9) ?_
      show Steps p.tables e below (s₁.setTop (mkF m 10 #[.val (.int p1)] [(.int (1 : Int32)), (.int p1)])) _
      exact k
    by_cases hc7 : p1 = (1 : Int32)
    · have go8 : Goes p e below s₁ (entryFrame m #[(.int p1)] 1) s₁ (mkF m 13 #[.val (.int p1)] []) := fun t k => by
        refine go6 t ?_
        refine XS.icmpNo X0.here hx rfl (hb hby d1_10) rfl (Jvm.Free.XT.ii_ne_f hc7) ?_
        show Steps p.tables e below (s₁.setTop (mkF m 13 #[.val (.int p1)] [])) _
        exact k
      obtain ⟨T9, X9, e9, st9⟩ := getS2 X0 hx hZ hown (host := "") (Or.inl (hw _ (List.mem_of_getElem? (i := 32) rfl))) Via.refl e0 (S_DRAFTS.ext O0.2) (g := (mkF m 13 #[.val (.int p1)] [])) rfl (hb hby d1_13)
      have go10 : Goes p e below s₁ (entryFrame m #[(.int p1)] 1) T9 (mkF m 16 #[.val (.int p1)] [(.ref (r 1))]) := fun t k => go8 t (st9 t k)
      obtain ⟨fs, hr, hrun, hended, hW, hsame⟩ := X9.leave (v := some (.ref (r 1))) (fun h => by rw [Bd.returns] at h; cases h)
      refine ⟨_, _, go10 _ ?_, hrun, hended, _, _, rfl, ?_, ⟨_, rfl⟩, hW, hsame.mono (by decide) (by decide)⟩
      · jvm_step X9.here [X9.here.top, hx, (hb hby d1_16), X9.method', Bd.returns, Value.isRef, FieldType.isReference]
        first | (intro acts; rw [hr _ acts rfl rfl rfl]) | rw [hr _ _ rfl rfl rfl]
        exact Steps.refl _
      · show Q1 Z _ _ _ _ _ T9.heap _
        rw [e9]
        exact ⟨by rw [hc7], N0, rfl⟩
    · have go11 : Goes p e below s₁ (entryFrame m #[(.int p1)] 1) s₁ (mkF m 19 #[.val (.int p1)] [(.int (2 : Int32)), (.int p1)]) := fun t k => by
        refine go6 t ?_
        refine XS.icmpYes X0.here hx rfl (pc0 := 10) (pc' := 17) rfl (hb hby d1_10) rfl (Jvm.Free.XT.ii_ne_t hc7) (by decide) (by decide) ?_
        show Steps p.tables e below (s₁.setTop (mkF m 17 #[.val (.int p1)] [])) _
        refine XS.iloadN X0.here hx rfl (hb hby d1_17) rfl ?_
        show Steps p.tables e below (s₁.setTop (mkF m 18 #[.val (.int p1)] [(.int p1)])) _
        refine XS.iconst X0.here hx rfl (hb hby d1_18) ?_
        show Steps p.tables e below (s₁.setTop (mkF m 19 #[.val (.int p1)] [(.int (2 : Int32)), (.int p1)])) _
        exact k
      by_cases hc12 : p1 = (2 : Int32)
      · have go13 : Goes p e below s₁ (entryFrame m #[(.int p1)] 1) s₁ (mkF m 22 #[.val (.int p1)] []) := fun t k => by
          refine go11 t ?_
          refine XS.icmpNo X0.here hx rfl (hb hby d1_19) rfl (Jvm.Free.XT.ii_ne_f hc12) ?_
          show Steps p.tables e below (s₁.setTop (mkF m 22 #[.val (.int p1)] [])) _
          exact k
        obtain ⟨T14, X14, e14, st14⟩ := getS2 X0 hx hZ hown (host := "") (Or.inl (hw _ (List.mem_of_getElem? (i := 30) rfl))) Via.refl e0 (S_SENT.ext O0.2) (g := (mkF m 22 #[.val (.int p1)] [])) rfl (hb hby d1_22)
        have go15 : Goes p e below s₁ (entryFrame m #[(.int p1)] 1) T14 (mkF m 25 #[.val (.int p1)] [(.ref (r 2))]) := fun t k => go13 t (st14 t k)
        obtain ⟨fs, hr, hrun, hended, hW, hsame⟩ := X14.leave (v := some (.ref (r 2))) (fun h => by rw [Bd.returns] at h; cases h)
        refine ⟨_, _, go15 _ ?_, hrun, hended, _, _, rfl, ?_, ⟨_, rfl⟩, hW, hsame.mono (by decide) (by decide)⟩
        · jvm_step X14.here [X14.here.top, hx, (hb hby d1_25), X14.method', Bd.returns, Value.isRef, FieldType.isReference]
          first | (intro acts; rw [hr _ acts rfl rfl rfl]) | rw [hr _ _ rfl rfl rfl]
          exact Steps.refl _
        · show Q1 Z _ _ _ _ _ T14.heap _
          rw [e14]
          exact ⟨by rw [hc12], N0, rfl⟩
      · have go16 : Goes p e below s₁ (entryFrame m #[(.int p1)] 1) s₁ (mkF m 28 #[.val (.int p1)] [(.int (3 : Int32)), (.int p1)]) := fun t k => by
          refine go11 t ?_
          refine XS.icmpYes X0.here hx rfl (pc0 := 19) (pc' := 26) rfl (hb hby d1_19) rfl (Jvm.Free.XT.ii_ne_t hc12) (by decide) (by decide) ?_
          show Steps p.tables e below (s₁.setTop (mkF m 26 #[.val (.int p1)] [])) _
          refine XS.iloadN X0.here hx rfl (hb hby d1_26) rfl ?_
          show Steps p.tables e below (s₁.setTop (mkF m 27 #[.val (.int p1)] [(.int p1)])) _
          refine XS.iconst X0.here hx rfl (hb hby d1_27) ?_
          show Steps p.tables e below (s₁.setTop (mkF m 28 #[.val (.int p1)] [(.int (3 : Int32)), (.int p1)])) _
          exact k
        by_cases hc17 : p1 = (3 : Int32)
        · have go18 : Goes p e below s₁ (entryFrame m #[(.int p1)] 1) s₁ (mkF m 31 #[.val (.int p1)] []) := fun t k => by
            refine go16 t ?_
            refine XS.icmpNo X0.here hx rfl (hb hby d1_28) rfl (Jvm.Free.XT.ii_ne_f hc17) ?_
            show Steps p.tables e below (s₁.setTop (mkF m 31 #[.val (.int p1)] [])) _
            exact k
          obtain ⟨T19, X19, e19, st19⟩ := getS2 X0 hx hZ hown (host := "") (Or.inl (hw _ (List.mem_of_getElem? (i := 28) rfl))) Via.refl e0 (S_TRASH.ext O0.2) (g := (mkF m 31 #[.val (.int p1)] [])) rfl (hb hby d1_31)
          have go20 : Goes p e below s₁ (entryFrame m #[(.int p1)] 1) T19 (mkF m 34 #[.val (.int p1)] [(.ref (r 3))]) := fun t k => go18 t (st19 t k)
          obtain ⟨fs, hr, hrun, hended, hW, hsame⟩ := X19.leave (v := some (.ref (r 3))) (fun h => by rw [Bd.returns] at h; cases h)
          refine ⟨_, _, go20 _ ?_, hrun, hended, _, _, rfl, ?_, ⟨_, rfl⟩, hW, hsame.mono (by decide) (by decide)⟩
          · jvm_step X19.here [X19.here.top, hx, (hb hby d1_34), X19.method', Bd.returns, Value.isRef, FieldType.isReference]
            first | (intro acts; rw [hr _ acts rfl rfl rfl]) | rw [hr _ _ rfl rfl rfl]
            exact Steps.refl _
          · show Q1 Z _ _ _ _ _ T19.heap _
            rw [e19]
            exact ⟨by rw [hc17], N0, rfl⟩
        · have go21 : Goes p e below s₁ (entryFrame m #[(.int p1)] 1) s₁ (mkF m 37 #[.val (.int p1)] [(.int (4 : Int32)), (.int p1)]) := fun t k => by
            refine go16 t ?_
            refine XS.icmpYes X0.here hx rfl (pc0 := 28) (pc' := 35) rfl (hb hby d1_28) rfl (Jvm.Free.XT.ii_ne_t hc17) (by decide) (by decide) ?_
            show Steps p.tables e below (s₁.setTop (mkF m 35 #[.val (.int p1)] [])) _
            refine XS.iloadN X0.here hx rfl (hb hby d1_35) rfl ?_
            show Steps p.tables e below (s₁.setTop (mkF m 36 #[.val (.int p1)] [(.int p1)])) _
            refine XS.iconst X0.here hx rfl (hb hby d1_36) ?_
            show Steps p.tables e below (s₁.setTop (mkF m 37 #[.val (.int p1)] [(.int (4 : Int32)), (.int p1)])) _
            exact k
          by_cases hc22 : p1 = (4 : Int32)
          · have go23 : Goes p e below s₁ (entryFrame m #[(.int p1)] 1) s₁ (mkF m 40 #[.val (.int p1)] []) := fun t k => by
              refine go21 t ?_
              refine XS.icmpNo X0.here hx rfl (hb hby d1_37) rfl (Jvm.Free.XT.ii_ne_f hc22) ?_
              show Steps p.tables e below (s₁.setTop (mkF m 40 #[.val (.int p1)] [])) _
              exact k
            obtain ⟨T24, X24, e24, st24⟩ := getS2 X0 hx hZ hown (host := "") (Or.inl (hw _ (List.mem_of_getElem? (i := 36) rfl))) Via.refl e0 (S_ARCHIVE.ext O0.2) (g := (mkF m 40 #[.val (.int p1)] [])) rfl (hb hby d1_40)
            have go25 : Goes p e below s₁ (entryFrame m #[(.int p1)] 1) T24 (mkF m 43 #[.val (.int p1)] [(.ref (r 4))]) := fun t k => go23 t (st24 t k)
            obtain ⟨fs, hr, hrun, hended, hW, hsame⟩ := X24.leave (v := some (.ref (r 4))) (fun h => by rw [Bd.returns] at h; cases h)
            refine ⟨_, _, go25 _ ?_, hrun, hended, _, _, rfl, ?_, ⟨_, rfl⟩, hW, hsame.mono (by decide) (by decide)⟩
            · jvm_step X24.here [X24.here.top, hx, (hb hby d1_43), X24.method', Bd.returns, Value.isRef, FieldType.isReference]
              first | (intro acts; rw [hr _ acts rfl rfl rfl]) | rw [hr _ _ rfl rfl rfl]
              exact Steps.refl _
            · show Q1 Z _ _ _ _ _ T24.heap _
              rw [e24]
              exact ⟨by rw [hc22], N0, rfl⟩
          · have go26 : Goes p e below s₁ (entryFrame m #[(.int p1)] 1) s₁ (mkF m 44 #[.val (.int p1)] []) := fun t k => by
              refine go21 t ?_
              refine XS.icmpYes X0.here hx rfl (pc0 := 37) (pc' := 44) rfl (hb hby d1_37) rfl (Jvm.Free.XT.ii_ne_t hc22) (by decide) (by decide) ?_
              show Steps p.tables e below (s₁.setTop (mkF m 44 #[.val (.int p1)] [])) _
              exact k
            obtain ⟨T27, X27, e27, st27⟩ := getS2 X0 hx hZ hown (host := "") (Or.inl (hw _ (List.mem_of_getElem? (i := 34) rfl))) Via.refl e0 (S_JUNK.ext O0.2) (g := (mkF m 44 #[.val (.int p1)] [])) rfl (hb hby d1_44)
            have go28 : Goes p e below s₁ (entryFrame m #[(.int p1)] 1) T27 (mkF m 47 #[.val (.int p1)] [(.ref (r 5))]) := fun t k => go26 t (st27 t k)
            obtain ⟨fs, hr, hrun, hended, hW, hsame⟩ := X27.leave (v := some (.ref (r 5))) (fun h => by rw [Bd.returns] at h; cases h)
            have hten : p1 = 5 := by simpa [own_K, hc2, hc7, hc12, hc17, hc22] using hk
            refine ⟨_, _, go28 _ ?_, hrun, hended, _, _, rfl, ?_, ⟨_, rfl⟩, hW, hsame.mono (by decide) (by decide)⟩
            · jvm_step X27.here [X27.here.top, hx, (hb hby d1_47), X27.method', Bd.returns, Value.isRef, FieldType.isReference]
              first | (intro acts; rw [hr _ acts rfl rfl rfl]) | rw [hr _ _ rfl rfl rfl]
              exact Steps.refl _
            · show Q1 Z _ _ _ _ _ T27.heap _
              rw [e27]
              exact ⟨by rw [hten], N0, rfl⟩
theorem d2_0 : decode prog_72_method_5_code 0 = .ok (.aload_n 0, 1) := by decide +kernel
theorem d2_1 : decode prog_72_method_5_code 1 = .ok (.getfield 45, 3) := by decide +kernel
theorem d2_4 : decode prog_72_method_5_code 4 = .ok (.ifnull 7, 3) := by decide +kernel
theorem d2_7 : decode prog_72_method_5_code 7 = .ok (.iconst 1, 1) := by decide +kernel
theorem d2_8 : decode prog_72_method_5_code 8 = .ok (.goto 4, 3) := by decide +kernel
theorem d2_11 : decode prog_72_method_5_code 11 = .ok (.iconst 0, 1) := by decide +kernel
theorem d2_12 : decode prog_72_method_5_code 12 = .ok (.ireturn, 1) := by decide +kernel
theorem pn_1 : plainName "com/example/convey/convey/model/MailboxRole" = true := by first | (simp [plainName, overriddenIn]; done) | decide +kernel
theorem ef_rm2 (m : MethodId) (a1 : Addr) : entryFrame m #[(.ref a1)] 1 = mkF m 0 #[.val (.ref a1)] [] := by first | (simp [entryFrame, mkF, argsToLocals, Value.category]; done) | rfl
def Q2 (Z : State) (a1 : Addr) (pv : Value) (h0 : Heap) (n0 : Nat) (v : Option Value) (h : Heap) (L : List Loc) : Prop := v = some (.int (if pv = .null then 0 else 1)) ∧ Fr n0 L ∧ h = h0
set_option maxRecDepth 65536 in
set_option maxHeartbeats 40000000 in
theorem rm2 (l : Launch) (Z : State) (a0 : Array Value) (hw : ∀ d ∈ tables_1, d.before a0 Z = true) (ws : List Jvm.Cond) (a1 : Addr) (pv : Value) (h0 : Heap) (n0 : Nat) (Z0 : n0 ≤ h0.size) (F1 : Fld Z h0 a1 "com/example/convey/convey/model/MailboxRole" "defaultMailboxName" "Ljava/lang/String;" pv) (hpv : pv.isRef = true) :
    MetFree l (⟨"com/example/convey/convey/model/MailboxRole", "madeWithAccount", "()Z"⟩ : MethodName) (head1 (Jvm.Cond.code (⟨"com/example/convey/convey/model/MailboxRole", "madeWithAccount", "()Z"⟩ : MethodName) prog_72_method_5_code 1 (some .boolean) :: ws) ({ frames := 0, cells := 0, slots := 0, locals := 0 } : Room)) (fun a U => a = #[(.ref a1)] ∧ Z.Warmed39 U.vm ∧ U.heap = h0) (fun _ _ _ _ _ => True) (fun _ U o U' => ∃ v L, o = .returned v ∧ Q2 Z a1 pv h0 n0 v U'.heap L ∧ FrameEnd U o U' L ({ frames := 0, cells := 0, slots := 0, locals := 0 } : Room).cells ({ frames := 0, cells := 0, slots := 0, locals := 0 } : Room).slots) := by
  refine MetFree.of_bodySF (plainFor_of_name pn_1) hisR ?_
  intro p e s m args below meth c s₁ Bd hml0 hP hK
  obtain ⟨rfl, hZ, hh⟩ := hP
  have hx := Bd.exec
  have hby := Bd.bytes
  have hml : c.maxLocals = 1 := hml0
  have hown : s.vm.findClass "com/example/convey/convey/model/MailboxRole" = some m.cls := findClass_of_methodNamed Bd.named
  have hnm := (name_of_methodNamed Bd.named Bd.method).1
  have X0 : Stand p l e ({ frames := 0, cells := 0, slots := 0, locals := 0 } : Room) s m #[(.ref a1)] below meth c s₁ [] 0 0 := Stand.of_body Bd
  have e0 : s₁.heap = h0 := by rw [← hh, Bd.state]; rfl
  have N0 := Fr.nil n0
  have K0 := Keep.refl h0 []
  have go0 : Goes p e below s₁ (entryFrame m #[(.ref a1)] 1) s₁ (mkF m 0 #[.val (.ref a1)] []) := fun t k => castTop (ef_rm2 m a1) k
  rcases ref_cases hpv with rfl | ⟨w2, rfl⟩
  · have go1 : Goes p e below s₁ (entryFrame m #[(.ref a1)] 1) s₁ (mkF m 1 #[.val (.ref a1)] [(.ref a1)]) := fun t k => by
      refine go0 t ?_
      refine XS.aloadN X0.here hx rfl (hb hby d2_0) rfl rfl ?_
      show Steps p.tables e below (s₁.setTop (mkF m 1 #[.val (.ref a1)] [(.ref a1)])) _
      exact k
    obtain ⟨T2, X2, e2, st2⟩ := getF X0 hx hZ hown (host := "") (Or.inl (hw _ (List.mem_of_getElem? (i := 13) rfl))) Via.refl e0 F1 (g := (mkF m 1 #[.val (.ref a1)] [(.ref a1)])) rfl rfl (hb hby d2_1)
    have go3 : Goes p e below s₁ (entryFrame m #[(.ref a1)] 1) T2 (mkF m 4 #[.val (.ref a1)] [.null]) := fun t k => go1 t (st2 t k)
    have go4 : Goes p e below s₁ (entryFrame m #[(.ref a1)] 1) T2 (mkF m 12 #[.val (.ref a1)] [(.int (0 : Int32))]) := fun t k => by
      refine go3 t ?_
      refine XS.ifnullYes X2.here hx rfl (pc0 := 4) (pc' := 11) rfl (hb hby d2_4) rfl (by decide) (by decide) ?_
      show Steps p.tables e below (T2.setTop (mkF m 11 #[.val (.ref a1)] [])) _
      refine XS.iconst X2.here hx rfl (hb hby d2_11) ?_
      show Steps p.tables e below (T2.setTop (mkF m 12 #[.val (.ref a1)] [(.int (0 : Int32))])) _
      exact k
    obtain ⟨fs, hr, hrun, hended, hW, hsame⟩ := X2.leave (v := some (.int (0 : Int32))) (fun h => by rw [Bd.returns] at h; cases h)
    refine ⟨_, _, go4 _ ?_, hrun, hended, _, _, rfl, ?_, ⟨_, rfl⟩, hW, hsame.mono (by decide) (by decide)⟩
    · exact retN X2 hx (t := .boolean) Bd.returns (by simp) (hb hby d2_12) hr
    · show Q2 Z _ _ _ _ _ T2.heap _
      rw [e2]
      exact ⟨by simp, N0, rfl⟩
  · have go5 : Goes p e below s₁ (entryFrame m #[(.ref a1)] 1) s₁ (mkF m 1 #[.val (.ref a1)] [(.ref a1)]) := fun t k => by
      refine go0 t ?_
      refine XS.aloadN X0.here hx rfl (hb hby d2_0) rfl rfl ?_
      show Steps p.tables e below (s₁.setTop (mkF m 1 #[.val (.ref a1)] [(.ref a1)])) _
      exact k
    obtain ⟨T6, X6, e6, st6⟩ := getF X0 hx hZ hown (host := "") (Or.inl (hw _ (List.mem_of_getElem? (i := 13) rfl))) Via.refl e0 F1 (g := (mkF m 1 #[.val (.ref a1)] [(.ref a1)])) rfl rfl (hb hby d2_1)
    have go7 : Goes p e below s₁ (entryFrame m #[(.ref a1)] 1) T6 (mkF m 4 #[.val (.ref a1)] [(.ref w2)]) := fun t k => go5 t (st6 t k)
    have go8 : Goes p e below s₁ (entryFrame m #[(.ref a1)] 1) T6 (mkF m 12 #[.val (.ref a1)] [(.int (1 : Int32))]) := fun t k => by
      refine go7 t ?_
      refine XS.ifnullNo X6.here hx rfl (hb hby d2_4) rfl ?_
      show Steps p.tables e below (T6.setTop (mkF m 7 #[.val (.ref a1)] [])) _
      refine XS.iconst X6.here hx rfl (hb hby d2_7) ?_
      show Steps p.tables e below (T6.setTop (mkF m 8 #[.val (.ref a1)] [(.int (1 : Int32))])) _
      refine XS.goto X6.here hx rfl (pc0 := 8) (pc' := 12) rfl (hb hby d2_8) (by decide) (by decide) ?_
      show Steps p.tables e below (T6.setTop (mkF m 12 #[.val (.ref a1)] [(.int (1 : Int32))])) _
      exact k
    obtain ⟨fs, hr, hrun, hended, hW, hsame⟩ := X6.leave (v := some (.int (1 : Int32))) (fun h => by rw [Bd.returns] at h; cases h)
    refine ⟨_, _, go8 _ ?_, hrun, hended, _, _, rfl, ?_, ⟨_, rfl⟩, hW, hsame.mono (by decide) (by decide)⟩
    · exact retN X6 hx (t := .boolean) Bd.returns (by simp) (hb hby d2_12) hr
    · show Q2 Z _ _ _ _ _ T6.heap _
      rw [e6]
      exact ⟨by simp, N0, rfl⟩
theorem d3_0 : decode prog_72_method_6_code 0 = .ok (.aload_n 0, 1) := by decide +kernel
theorem d3_1 : decode prog_72_method_6_code 1 = .ok (.getfield 45, 3) := by decide +kernel
theorem d3_4 : decode prog_72_method_6_code 4 = .ok (.ifnonnull 20, 3) := by decide +kernel
theorem d3_7 : decode prog_72_method_6_code 7 = .ok (.new 48, 3) := by decide +kernel
theorem d3_10 : decode prog_72_method_6_code 10 = .ok (.dup, 1) := by decide +kernel
theorem d3_11 : decode prog_72_method_6_code 11 = .ok (.aload_n 0, 1) := by decide +kernel
theorem d3_12 : decode prog_72_method_6_code 12 = .ok (.invokestatic 50, 3) := by decide +kernel
theorem d3_15 : decode prog_72_method_6_code 15 = .ok (.invokedynamic 55, 5) := by decide +kernel
theorem d3_20 : decode prog_72_method_6_code 20 = .ok (.invokespecial 59, 3) := by decide +kernel
theorem d3_23 : decode prog_72_method_6_code 23 = .ok (.athrow, 1) := by decide +kernel
theorem d3_24 : decode prog_72_method_6_code 24 = .ok (.aload_n 0, 1) := by decide +kernel
theorem d3_25 : decode prog_72_method_6_code 25 = .ok (.getfield 45, 3) := by decide +kernel
theorem d3_28 : decode prog_72_method_6_code 28 = .ok (.areturn, 1) := by decide +kernel
theorem ef_rm3 (m : MethodId) (a1 : Addr) : entryFrame m #[(.ref a1)] 1 = mkF m 0 #[.val (.ref a1)] [] := by first | (simp [entryFrame, mkF, argsToLocals, Value.category]; done) | rfl
def Q3 (Z : State) (a1 : Addr) (w2 : Addr) (h0 : Heap) (n0 : Nat) (v : Option Value) (h : Heap) (L : List Loc) : Prop := v = some (.ref w2) ∧ Fr n0 L ∧ h = h0
set_option maxRecDepth 65536 in
set_option maxHeartbeats 40000000 in
theorem rm3 (l : Launch) (Z : State) (a0 : Array Value) (hw : ∀ d ∈ tables_1, d.before a0 Z = true) (ws : List Jvm.Cond) (a1 : Addr) (w2 : Addr) (h0 : Heap) (n0 : Nat) (Z0 : n0 ≤ h0.size) (F1 : Fld Z h0 a1 "com/example/convey/convey/model/MailboxRole" "defaultMailboxName" "Ljava/lang/String;" (.ref w2)) :
    MetFree l (⟨"com/example/convey/convey/model/MailboxRole", "defaultMailboxName", "()Ljava/lang/String;"⟩ : MethodName) (head1 (Jvm.Cond.code (⟨"com/example/convey/convey/model/MailboxRole", "defaultMailboxName", "()Ljava/lang/String;"⟩ : MethodName) prog_72_method_6_code 1 (some (.object "java/lang/String")) :: ws) ({ frames := 0, cells := 0, slots := 0, locals := 0 } : Room)) (fun a U => a = #[(.ref a1)] ∧ Z.Warmed39 U.vm ∧ U.heap = h0) (fun _ _ _ _ _ => True) (fun _ U o U' => ∃ v L, o = .returned v ∧ Q3 Z a1 w2 h0 n0 v U'.heap L ∧ FrameEnd U o U' L ({ frames := 0, cells := 0, slots := 0, locals := 0 } : Room).cells ({ frames := 0, cells := 0, slots := 0, locals := 0 } : Room).slots) := by
  refine MetFree.of_bodySF (plainFor_of_name pn_1) hisR ?_
  intro p e s m args below meth c s₁ Bd hml0 hP hK
  obtain ⟨rfl, hZ, hh⟩ := hP
  have hx := Bd.exec
  have hby := Bd.bytes
  have hml : c.maxLocals = 1 := hml0
  have hown : s.vm.findClass "com/example/convey/convey/model/MailboxRole" = some m.cls := findClass_of_methodNamed Bd.named
  have hnm := (name_of_methodNamed Bd.named Bd.method).1
  have X0 : Stand p l e ({ frames := 0, cells := 0, slots := 0, locals := 0 } : Room) s m #[(.ref a1)] below meth c s₁ [] 0 0 := Stand.of_body Bd
  have e0 : s₁.heap = h0 := by rw [← hh, Bd.state]; rfl
  have N0 := Fr.nil n0
  have K0 := Keep.refl h0 []
  have go0 : Goes p e below s₁ (entryFrame m #[(.ref a1)] 1) s₁ (mkF m 0 #[.val (.ref a1)] []) := fun t k => castTop (ef_rm3 m a1) k
  have go1 : Goes p e below s₁ (entryFrame m #[(.ref a1)] 1) s₁ (mkF m 1 #[.val (.ref a1)] [(.ref a1)]) := fun t k => by
    refine go0 t ?_
    refine XS.aloadN X0.here hx rfl (hb hby d3_0) rfl rfl ?_
    show Steps p.tables e below (s₁.setTop (mkF m 1 #[.val (.ref a1)] [(.ref a1)])) _
    exact k
  obtain ⟨T2, X2, e2, st2⟩ := getF X0 hx hZ hown (host := "") (Or.inl (hw _ (List.mem_of_getElem? (i := 13) rfl))) Via.refl e0 F1 (g := (mkF m 1 #[.val (.ref a1)] [(.ref a1)])) rfl rfl (hb hby d3_1)
  have go3 : Goes p e below s₁ (entryFrame m #[(.ref a1)] 1) T2 (mkF m 4 #[.val (.ref a1)] [(.ref w2)]) := fun t k => go1 t (st2 t k)
  have go4 : Goes p e below s₁ (entryFrame m #[(.ref a1)] 1) T2 (mkF m 25 #[.val (.ref a1)] [(.ref a1)]) := fun t k => by
    refine go3 t ?_
    refine XS.ifnonnullYes X2.here hx rfl (pc0 := 4) (pc' := 24) rfl (hb hby d3_4) rfl (by decide) (by decide) ?_
    show Steps p.tables e below (T2.setTop (mkF m 24 #[.val (.ref a1)] [])) _
    refine XS.aloadN X2.here hx rfl (hb hby d3_24) rfl rfl ?_
    show Steps p.tables e below (T2.setTop (mkF m 25 #[.val (.ref a1)] [(.ref a1)])) _
    exact k
  obtain ⟨T5, X5, e5, st5⟩ := getF X2 hx hZ hown (host := "") (Or.inl (hw _ (List.mem_of_getElem? (i := 13) rfl))) Via.refl e2 F1 (g := (mkF m 25 #[.val (.ref a1)] [(.ref a1)])) rfl rfl (hb hby d3_25)
  have go6 : Goes p e below s₁ (entryFrame m #[(.ref a1)] 1) T5 (mkF m 28 #[.val (.ref a1)] [(.ref w2)]) := fun t k => go4 t (st5 t k)
  obtain ⟨fs, hr, hrun, hended, hW, hsame⟩ := X5.leave (v := some (.ref w2)) (fun h => by rw [Bd.returns] at h; cases h)
  refine ⟨_, _, go6 _ ?_, hrun, hended, _, _, rfl, ?_, ⟨_, rfl⟩, hW, hsame.mono (by decide) (by decide)⟩
  · jvm_step X5.here [X5.here.top, hx, (hb hby d3_28), X5.method', Bd.returns, Value.isRef, FieldType.isReference]
    first | (intro acts; rw [hr _ acts rfl rfl rfl]) | rw [hr _ _ rfl rfl rfl]
    exact Steps.refl _
  · show Q3 Z _ _ _ _ _ T5.heap _
    rw [e5]
    exact ⟨rfl, N0, rfl⟩
theorem d4_0 : decode jdk_42_method_55_code 0 = .ok (.aload_n 0, 1) := by decide +kernel
theorem d4_1 : decode jdk_42_method_55_code 1 = .ok (.getfield 9, 3) := by decide +kernel
theorem d4_4 : decode jdk_42_method_55_code 4 = .ok (.arraylength, 1) := by decide +kernel
theorem d4_5 : decode jdk_42_method_55_code 5 = .ok (.ifCond .ne 7, 3) := by decide +kernel
theorem d4_8 : decode jdk_42_method_55_code 8 = .ok (.iconst 1, 1) := by decide +kernel
theorem d4_9 : decode jdk_42_method_55_code 9 = .ok (.goto 4, 3) := by decide +kernel
theorem d4_12 : decode jdk_42_method_55_code 12 = .ok (.iconst 0, 1) := by decide +kernel
theorem d4_13 : decode jdk_42_method_55_code 13 = .ok (.ireturn, 1) := by decide +kernel
theorem pn_2 : plainName "java/lang/String" = true := by first | (simp [plainName, overriddenIn]; done) | decide +kernel
theorem ef_rm4 (m : MethodId) (a1 : Addr) : entryFrame m #[(.ref a1)] 1 = mkF m 0 #[.val (.ref a1)] [] := by first | (simp [entryFrame, mkF, argsToLocals, Value.category]; done) | rfl
def Q4 (Z : State) (a1 : Addr) (b : Addr) (cl : Cell) (h0 : Heap) (n0 : Nat) (v : Option Value) (h : Heap) (L : List Loc) : Prop := v = some (.int 0) ∧ Fr n0 L ∧ h = h0
set_option maxRecDepth 65536 in
set_option maxHeartbeats 40000000 in
theorem rm4 (l : Launch) (Z : State) (a0 : Array Value) (hw : ∀ d ∈ tables_1, d.before a0 Z = true) (ws : List Jvm.Cond) (a1 : Addr) (b : Addr) (cl : Cell) (h0 : Heap) (n0 : Nat) (Z0 : n0 ≤ h0.size) (F1 : Fld Z h0 a1 "java/lang/String" "value" "[B" (.ref b)) (A1 : Arr Z h0 b cl .byte) (hz : ¬ cl.slots.size.toInt32 = 0) :
    MetFree l (⟨"java/lang/String", "isEmpty", "()Z"⟩ : MethodName) (head1 (Jvm.Cond.code (⟨"java/lang/String", "isEmpty", "()Z"⟩ : MethodName) jdk_42_method_55_code 1 (some .boolean) :: ws) ({ frames := 0, cells := 0, slots := 0, locals := 0 } : Room)) (fun a U => a = #[(.ref a1)] ∧ Z.Warmed39 U.vm ∧ U.heap = h0) (fun _ _ _ _ _ => True) (fun _ U o U' => ∃ v L, o = .returned v ∧ Q4 Z a1 b cl h0 n0 v U'.heap L ∧ FrameEnd U o U' L ({ frames := 0, cells := 0, slots := 0, locals := 0 } : Room).cells ({ frames := 0, cells := 0, slots := 0, locals := 0 } : Room).slots) := by
  refine MetFree.of_bodySF (plainFor_of_name pn_2) hisR ?_
  intro p e s m args below meth c s₁ Bd hml0 hP hK
  obtain ⟨rfl, hZ, hh⟩ := hP
  have hx := Bd.exec
  have hby := Bd.bytes
  have hml : c.maxLocals = 1 := hml0
  have hown : s.vm.findClass "java/lang/String" = some m.cls := findClass_of_methodNamed Bd.named
  have hnm := (name_of_methodNamed Bd.named Bd.method).1
  have X0 : Stand p l e ({ frames := 0, cells := 0, slots := 0, locals := 0 } : Room) s m #[(.ref a1)] below meth c s₁ [] 0 0 := Stand.of_body Bd
  have e0 : s₁.heap = h0 := by rw [← hh, Bd.state]; rfl
  have N0 := Fr.nil n0
  have K0 := Keep.refl h0 []
  have go0 : Goes p e below s₁ (entryFrame m #[(.ref a1)] 1) s₁ (mkF m 0 #[.val (.ref a1)] []) := fun t k => castTop (ef_rm4 m a1) k
  have go1 : Goes p e below s₁ (entryFrame m #[(.ref a1)] 1) s₁ (mkF m 1 #[.val (.ref a1)] [(.ref a1)]) := fun t k => by
    refine go0 t ?_
    refine XS.aloadN X0.here hx rfl (hb hby d4_0) rfl rfl ?_
    show Steps p.tables e below (s₁.setTop (mkF m 1 #[.val (.ref a1)] [(.ref a1)])) _
    exact k
  obtain ⟨T2, X2, e2, st2⟩ := getF X0 hx hZ hown (host := "") (Or.inl (hw _ (List.mem_of_getElem? (i := 26) rfl))) Via.refl e0 F1 (g := (mkF m 1 #[.val (.ref a1)] [(.ref a1)])) rfl rfl (hb hby d4_1)
  have go3 : Goes p e below s₁ (entryFrame m #[(.ref a1)] 1) T2 (mkF m 4 #[.val (.ref a1)] [(.ref b)]) := fun t k => go1 t (st2 t k)
  have go4 : Goes p e below s₁ (entryFrame m #[(.ref a1)] 1) T2 (mkF m 5 #[.val (.ref a1)] [(.int cl.slots.size.toInt32)]) := fun t k => by
    refine go3 t ?_
    refine X2.arraylength hx (own_hp e2 A1.1) (State.isArrayOf_alike hZ.alike A1.2.1) (g := (mkF m 4 #[.val (.ref a1)] [(.ref b)])) rfl rfl (hb hby d4_4) _ ?_
    show Steps p.tables e below (T2.setTop (mkF m 5 #[.val (.ref a1)] [(.int cl.slots.size.toInt32)])) _
    exact k
  have go5 : Goes p e below s₁ (entryFrame m #[(.ref a1)] 1) T2 (mkF m 13 #[.val (.ref a1)] [(.int (0 : Int32))]) := fun t k => by
    refine go4 t ?_
    refine XS.ifYes X2.here hx rfl (pc0 := 5) (pc' := 12) rfl (hb hby d4_5) rfl (Jvm.Free.XT.i0_ne_t hz) (by decide) (by decide) ?_
    show Steps p.tables e below (T2.setTop (mkF m 12 #[.val (.ref a1)] [])) _
    refine XS.iconst X2.here hx rfl (hb hby d4_12) ?_
    show Steps p.tables e below (T2.setTop (mkF m 13 #[.val (.ref a1)] [(.int (0 : Int32))])) _
    exact k
  obtain ⟨fs, hr, hrun, hended, hW, hsame⟩ := X2.leave (v := some (.int (0 : Int32))) (fun h => by rw [Bd.returns] at h; cases h)
  refine ⟨_, _, go5 _ ?_, hrun, hended, _, _, rfl, ?_, ⟨_, rfl⟩, hW, hsame.mono (by decide) (by decide)⟩
  · exact retN X2 hx (t := .boolean) Bd.returns (by simp) (hb hby d4_13) hr
  · show Q4 Z _ _ _ _ _ _ T2.heap _
    rw [e2]
    exact ⟨rfl, N0, rfl⟩
theorem pd_0 : parseMethodDescriptor "(I)Lcom/example/convey/convey/model/MailboxRole;" = some ⟨[.int], some (.object "com/example/convey/convey/model/MailboxRole")⟩ := by decide +kernel
theorem pd_1 : parseMethodDescriptor "()Z" = some ⟨[], some .boolean⟩ := by decide +kernel
theorem pd_2 : parseMethodDescriptor "()Ljava/lang/String;" = some ⟨[], some (.object "java/lang/String")⟩ := by decide +kernel
theorem ef_rm0 (m : MethodId) (p1 : Int32) : entryFrame m #[(.int p1)] maxLocals = mkF m 0 #[.val (.int p1), .unset, .unset, .unset, .unset, .unset] [] := by first | (simp [entryFrame, mkF, argsToLocals, Value.category, maxLocals]; done) | rfl
def Q0 (Z : State) (p1 : Int32) (r : Int32 → Addr) (pv : Int32 → Value) (u bb : Int32 → Addr) (h0 : Heap) (n0 : Nat) (v : Option Value) (h : Heap) (L : List Loc) : Prop := v = some (.int 1) ∧ Fr n0 L
set_option maxRecDepth 65536 in
set_option maxHeartbeats 40000000 in
theorem rm0 (l : Launch) (Z : State) (a0 : Array Value) (hw : ∀ d ∈ tables_1, d.before a0 Z = true) (ws : List Jvm.Cond) (p1 : Int32) (r : Int32 → Addr) (pv : Int32 → Value) (u bb : Int32 → Addr) (h0 : Heap) (n0 : Nat) (Z0 : n0 ≤ h0.size) (O0 : Old Z n0 h0) (S_INBOX : Sta Z Z.heap "com/example/convey/convey/model/MailboxRole" "INBOX" "Lcom/example/convey/convey/model/MailboxRole;" (.ref (r 0))) (S_DRAFTS : Sta Z Z.heap "com/example/convey/convey/model/MailboxRole" "DRAFTS" "Lcom/example/convey/convey/model/MailboxRole;" (.ref (r 1))) (S_SENT : Sta Z Z.heap "com/example/convey/convey/model/MailboxRole" "SENT" "Lcom/example/convey/convey/model/MailboxRole;" (.ref (r 2))) (S_TRASH : Sta Z Z.heap "com/example/convey/convey/model/MailboxRole" "TRASH" "Lcom/example/convey/convey/model/MailboxRole;" (.ref (r 3))) (S_ARCHIVE : Sta Z Z.heap "com/example/convey/convey/model/MailboxRole" "ARCHIVE" "Lcom/example/convey/convey/model/MailboxRole;" (.ref (r 4))) (S_JUNK : Sta Z Z.heap "com/example/convey/convey/model/MailboxRole" "JUNK" "Lcom/example/convey/convey/model/MailboxRole;" (.ref (r 5))) (HE : ∀ k, own_K k → Exa Z Z.heap (r k) "com/example/convey/convey/model/MailboxRole") (HF : ∀ k, own_K k → Fld Z Z.heap (r k) "com/example/convey/convey/model/MailboxRole" "defaultMailboxName" "Ljava/lang/String;" (pv k)) (HV : ∀ k, own_K k → (pv k).isRef = true) (HQ : ∀ k, own_K k → (pv k = .null ↔ ¬ k < 4)) (HU : ∀ k, own_K k → k < 4 → pv k = .ref (u k) ∧ Exa Z Z.heap (u k) "java/lang/String" ∧ Fld Z Z.heap (u k) "java/lang/String" "value" "[B" (.ref (bb k)) ∧ ∃ cl, Arr Z Z.heap (bb k) cl .byte ∧ ¬ cl.slots.size.toInt32 = 0) :
    MetFree l x (head1 (Jvm.Cond.code x code maxLocals ret :: ws) room_1) (fun a U => a = #[(.int p1)] ∧ Z.Warmed39 U.vm ∧ U.heap = h0) (fun _ _ _ _ _ => True) (fun _ U o U' => ∃ v L, o = .returned v ∧ Q0 Z p1 r pv u bb h0 n0 v U'.heap L ∧ FrameEnd U o U' L room_1.cells room_1.slots) := by
  refine MetFree.of_bodySF (plainFor_of_name pn_0) hisR ?_
  intro p e s m args below meth c s₁ Bd hml0 hP hK
  obtain ⟨rfl, hZ, hh⟩ := hP
  have hx := Bd.exec
  have hby := Bd.bytes
  have hml : c.maxLocals = 6 := hml0
  have hown : s.vm.findClass "com/example/convey/convey/model/MailboxRoleMadeWithAccountPinLaw" = some m.cls := findClass_of_methodNamed Bd.named
  have hnm := (name_of_methodNamed Bd.named Bd.method).1
  have X0 : Stand p l e room_1 s m #[(.int p1)] below meth c s₁ [] 0 0 := Stand.of_body Bd
  have e0 : s₁.heap = h0 := by rw [← hh, Bd.state]; rfl
  have N0 := Fr.nil n0
  have K0 := Keep.refl h0 []
  have go0 : Goes p e below s₁ (entryFrame m #[(.int p1)] maxLocals) s₁ (mkF m 0 #[.val (.int p1), .unset, .unset, .unset, .unset, .unset] []) := fun t k => castTop (ef_rm0 m p1) k
  have go1 : Goes p e below s₁ (entryFrame m #[(.int p1)] maxLocals) s₁ (mkF m 7 #[.val (.int p1), .unset, .unset, .unset, .unset, .unset] [(.int ((p1 &&& (2147483647 : Int32)) % (6 : Int32)))]) := fun t k => by
    refine go0 t ?_
    refine XS.iloadN X0.here hx rfl (hb hby at_0) rfl ?_
    show Steps p.tables e below (s₁.setTop (mkF m 1 #[.val (.int p1), .unset, .unset, .unset, .unset, .unset] [(.int p1)])) _
    refine X0.ldcInt hx hown (mvT hZ (hw _ (List.mem_of_getElem? (i := 0) rfl))) (g := (mkF m 1 #[.val (.int p1), .unset, .unset, .unset, .unset, .unset] [(.int p1)])) rfl (hb hby at_1) _ ?_
    show Steps p.tables e below (s₁.setTop (mkF m 3 #[.val (.int p1), .unset, .unset, .unset, .unset, .unset] [(.int (2147483647 : Int32)), (.int p1)])) _
    refine XS.iand X0.here hx rfl (hb hby at_3) rfl ?_
    show Steps p.tables e below (s₁.setTop (mkF m 4 #[.val (.int p1), .unset, .unset, .unset, .unset, .unset] [(.int (p1 &&& (2147483647 : Int32)))])) _
    refine XS.bipush X0.here hx rfl (hb hby at_4) ?_
    show Steps p.tables e below (s₁.setTop (mkF m 6 #[.val (.int p1), .unset, .unset, .unset, .unset, .unset] [(.int (6 : Int32)), (.int (p1 &&& (2147483647 : Int32)))])) _
    refine iremM X0 hx rfl (hb hby at_6) rfl (by decide) ?_
    show Steps p.tables e below (s₁.setTop (mkF m 7 #[.val (.int p1), .unset, .unset, .unset, .unset, .unset] [(.int ((p1 &&& (2147483647 : Int32)) % (6 : Int32)))])) _
    exact k
  obtain ⟨kx, h_kx⟩ : ∃ z : Int32, z = ((p1 &&& (2147483647 : Int32)) % (6 : Int32)) := ⟨_, rfl⟩
  have go2 : Goes p e below s₁ (entryFrame m #[(.int p1)] maxLocals) s₁ (mkF m 7 #[.val (.int p1), .unset, .unset, .unset, .unset, .unset] [(.int kx)]) := by rw [h_kx]; exact go1
  have hk : own_K kx := h_kx ▸ own_K_of p1
  have EJ := HE kx hk
  have go3 : Goes p e below s₁ (entryFrame m #[(.int p1)] maxLocals) s₁ (mkF m 9 #[.val (.int p1), .val (.int kx), .unset, .unset, .unset, .unset] [(.int kx)]) := fun t k => by
    refine go2 t ?_
    refine XS.istoreN X0.here hx rfl (hb hby at_7) rfl (l' := #[.val (.int p1), .val (.int kx), .unset, .unset, .unset, .unset]) rfl ?_
    show Steps p.tables e below (s₁.setTop (mkF m 8 #[.val (.int p1), .val (.int kx), .unset, .unset, .unset, .unset] [])) _
    refine XS.iloadN X0.here hx rfl (hb hby at_8) rfl ?_
    show Steps p.tables e below (s₁.setTop (mkF m 9 #[.val (.int p1), .val (.int kx), .unset, .unset, .unset, .unset] [(.int kx)])) _
    exact k
  obtain ⟨_, _, ⟨T4, L4, k4, n4⟩, -, X4, ⟨Lc4, hQ4, l4, y4, z4⟩, st4⟩ := Jvm.LawKit.callS X0 hx (y := (⟨"com/example/convey/convey/model/MailboxRoleMadeWithAccountPinLaw", "pick", "(I)Lcom/example/convey/convey/model/MailboxRole;"⟩ : MethodName)) hown (mvT hZ (hw _ (List.mem_of_getElem? (i := 1) rfl))) (mvT hZ (hw _ (List.mem_of_getElem? (i := 2) rfl))) (mvT hZ (hw _ (List.mem_of_getElem? (i := 3) rfl))) (mvT hZ (hw _ (List.mem_of_getElem? (i := 4) rfl))) (by decide) (backOf (W := 0) (rm1 l Z a0 hw [] kx r h0 n0 Z0 O0 S_INBOX S_DRAFTS S_SENT S_TRASH S_ARCHIVE S_JUNK hk) hZ (hw _ (List.mem_of_getElem? (i := 4) rfl)) (hw _ (List.mem_of_getElem? (i := 3) rfl)) (by decide) (by decide)) (g := (mkF m 9 #[.val (.int p1), .val (.int kx), .unset, .unset, .unset, .unset] [(.int kx)])) rfl (by rw [hml]; rfl) (argsL := [(.int kx)]) (rest := []) (lenOf pd_0 rfl) rfl (by show 2 * 0 + _ ≤ _; exact Nat.le_of_eq rfl) (hb hby at_9) (fun _ _ => ⟨rfl, e0, (by decide : 0 + 0 ≤ room_1.cells), (by decide : 0 + 0 ≤ room_1.slots)⟩)
  dsimp only [Pt.U, Pt.locs, Pt.cells, Pt.slots] at X4 l4 y4 z4 st4 hQ4
  subst l4 y4 z4
  obtain ⟨rfl, N4q, e4⟩ := hQ4
  have N4 := Fr.app N0 N4q
  have go5 : Goes p e below s₁ (entryFrame m #[(.int p1)] maxLocals) T4 (mkF m 12 #[.val (.int p1), .val (.int kx), .unset, .unset, .unset, .unset] [(.ref (r kx))]) := fun t k => go3 t (st4 t k)
  have go6 : Goes p e below s₁ (entryFrame m #[(.int p1)] maxLocals) T4 (mkF m 15 #[.val (.int p1), .val (.int kx), .val (.ref (r kx)), .unset, .unset, .unset] [(.int (4 : Int32)), (.int kx)]) := fun t k => by
    refine go5 t ?_
    refine XS.astoreN X4.here hx rfl (hb hby at_12) rfl rfl (l' := #[.val (.int p1), .val (.int kx), .val (.ref (r kx)), .unset, .unset, .unset]) rfl ?_
    show Steps p.tables e below (T4.setTop (mkF m 13 #[.val (.int p1), .val (.int kx), .val (.ref (r kx)), .unset, .unset, .unset] [])) _
    refine XS.iloadN X4.here hx rfl (hb hby at_13) rfl ?_
    show Steps p.tables e below (T4.setTop (mkF m 14 #[.val (.int p1), .val (.int kx), .val (.ref (r kx)), .unset, .unset, .unset] [(.int kx)])) _
    refine XS.iconst X4.here hx rfl (hb hby at_14) ?_
    show Steps p.tables e below (T4.setTop (mkF m 15 #[.val (.int p1), .val (.int kx), .val (.ref (r kx)), .unset, .unset, .unset] [(.int (4 : Int32)), (.int kx)])) _
    exact k
  by_cases hc7 : kx < (4 : Int32)
  · have go8 : Goes p e below s₁ (entryFrame m #[(.int p1)] maxLocals) T4 (mkF m 25 #[.val (.int p1), .val (.int kx), .val (.ref (r kx)), .val (.int (1 : Int32)), .unset, .unset] [(.ref (r kx))]) := fun t k => by
      refine go6 t ?_
      refine XS.icmpNo X4.here hx rfl (hb hby at_15) rfl (Jvm.Free.XT.ii_ge_f hc7) ?_
      show Steps p.tables e below (T4.setTop (mkF m 18 #[.val (.int p1), .val (.int kx), .val (.ref (r kx)), .unset, .unset, .unset] [])) _
      refine XS.iconst X4.here hx rfl (hb hby at_18) ?_
      show Steps p.tables e below (T4.setTop (mkF m 19 #[.val (.int p1), .val (.int kx), .val (.ref (r kx)), .unset, .unset, .unset] [(.int (1 : Int32))])) _
      refine XS.goto X4.here hx rfl (pc0 := 19) (pc' := 23) rfl (hb hby at_19) (by decide) (by decide) ?_
      show Steps p.tables e below (T4.setTop (mkF m 23 #[.val (.int p1), .val (.int kx), .val (.ref (r kx)), .unset, .unset, .unset] [(.int (1 : Int32))])) _
      refine XS.istoreN X4.here hx rfl (hb hby at_23) rfl (l' := #[.val (.int p1), .val (.int kx), .val (.ref (r kx)), .val (.int (1 : Int32)), .unset, .unset]) rfl ?_
      show Steps p.tables e below (T4.setTop (mkF m 24 #[.val (.int p1), .val (.int kx), .val (.ref (r kx)), .val (.int (1 : Int32)), .unset, .unset] [])) _
      refine XS.aloadN X4.here hx rfl (hb hby at_24) rfl rfl ?_
      show Steps p.tables e below (T4.setTop (mkF m 25 #[.val (.int p1), .val (.int kx), .val (.ref (r kx)), .val (.int (1 : Int32)), .unset, .unset] [(.ref (r kx))])) _
      exact k
    obtain ⟨cq9, kq9, q9a, q9b, q9c⟩ := isOf hZ e4 (EJ.ext O0.2)
    obtain ⟨_, _, ⟨T9, L9, k9, n9⟩, -, X9, ⟨Lc9, hQ9, l9, y9, z9⟩, st9⟩ := X4.virtualBack hx (y := (⟨"com/example/convey/convey/model/MailboxRole", "madeWithAccount", "()Z"⟩ : MethodName)) (z := (⟨"com/example/convey/convey/model/MailboxRole", "madeWithAccount", "()Z"⟩ : MethodName)) hown (mvT hZ (hw _ (List.mem_of_getElem? (i := 8) rfl))) (mvT hZ (hw _ (List.mem_of_getElem? (i := 9) rfl))) (notFace_of_selects (args := #[]) (mvT hZ (hw _ (List.mem_of_getElem? (i := 11) rfl)))) (mvT hZ (hw _ (List.mem_of_getElem? (i := 11) rfl))) (mvT hZ (hw _ (List.mem_of_getElem? (i := 10) rfl))) (by decide) (backOf (W := 0) (rm2 l Z a0 hw [] (r kx) (pv kx) h0 n0 Z0 ((HF kx hk).ext O0.2) (HV kx hk)) hZ (hw _ (List.mem_of_getElem? (i := 12) rfl)) (hw _ (List.mem_of_getElem? (i := 6) rfl)) (by decide) (by decide)) q9a q9c (g := (mkF m 25 #[.val (.int p1), .val (.int kx), .val (.ref (r kx)), .val (.int (1 : Int32)), .unset, .unset] [(.ref (r kx))])) rfl (by rw [hml]; rfl) (Steps.refl _) (argsL := []) (rest := []) (lenOf pd_1 rfl) rfl (by show 2 * 0 + _ ≤ _; exact Nat.le_of_eq rfl) (hb hby at_25) (fun _ _ => ⟨rfl, e4, (by decide : 0 + 0 ≤ room_1.cells), (by decide : 0 + 0 ≤ room_1.slots)⟩)
    dsimp only [Pt.U, Pt.locs, Pt.cells, Pt.slots] at X9 l9 y9 z9 st9 hQ9
    subst l9 y9 z9
    obtain ⟨rfl, N9q, e9⟩ := hQ9
    have N9 := Fr.app N4 N9q
    have go10 : Goes p e below s₁ (entryFrame m #[(.int p1)] maxLocals) T9 (mkF m 28 #[.val (.int p1), .val (.int kx), .val (.ref (r kx)), .val (.int (1 : Int32)), .unset, .unset] [(.int (if pv kx = .null then 0 else 1))]) := fun t k => go8 t (st9.trans k)
    have go11 : Goes p e below s₁ (entryFrame m #[(.int p1)] maxLocals) T9 (mkF m 33 #[.val (.int p1), .val (.int kx), .val (.ref (r kx)), .val (.int (1 : Int32)), .val (.int (if pv kx = .null then 0 else 1)), .unset] [(.int (1 : Int32)), (.int (if pv kx = .null then 0 else 1))]) := fun t k => by
      refine go10 t ?_
      refine XS.istore X9.here hx rfl (hb hby at_28) rfl (l' := #[.val (.int p1), .val (.int kx), .val (.ref (r kx)), .val (.int (1 : Int32)), .val (.int (if pv kx = .null then 0 else 1)), .unset]) rfl ?_
      show Steps p.tables e below (T9.setTop (mkF m 30 #[.val (.int p1), .val (.int kx), .val (.ref (r kx)), .val (.int (1 : Int32)), .val (.int (if pv kx = .null then 0 else 1)), .unset] [])) _
      refine XS.iload X9.here hx rfl (hb hby at_30) rfl ?_
      show Steps p.tables e below (T9.setTop (mkF m 32 #[.val (.int p1), .val (.int kx), .val (.ref (r kx)), .val (.int (1 : Int32)), .val (.int (if pv kx = .null then 0 else 1)), .unset] [(.int (if pv kx = .null then 0 else 1))])) _
      refine XS.iloadN X9.here hx rfl (hb hby at_32) rfl ?_
      show Steps p.tables e below (T9.setTop (mkF m 33 #[.val (.int p1), .val (.int kx), .val (.ref (r kx)), .val (.int (1 : Int32)), .val (.int (if pv kx = .null then 0 else 1)), .unset] [(.int (1 : Int32)), (.int (if pv kx = .null then 0 else 1))])) _
      exact k
    have go12 : Goes p e below s₁ (entryFrame m #[(.int p1)] maxLocals) T9 (mkF m 40 #[.val (.int p1), .val (.int kx), .val (.ref (r kx)), .val (.int (1 : Int32)), .val (.int (if pv kx = .null then 0 else 1)), .unset] [(.int (if pv kx = .null then 0 else 1))]) := fun t k => by
      refine go11 t ?_
      refine XS.icmpYes X9.here hx rfl (pc0 := 33) (pc' := 38) rfl (hb hby at_33) rfl (Jvm.Free.XT.ii_eq_t (by simp [HQ kx hk, hc7])) (by decide) (by decide) ?_
      show Steps p.tables e below (T9.setTop (mkF m 38 #[.val (.int p1), .val (.int kx), .val (.ref (r kx)), .val (.int (1 : Int32)), .val (.int (if pv kx = .null then 0 else 1)), .unset] [])) _
      refine XS.iload X9.here hx rfl (hb hby at_38) rfl ?_
      show Steps p.tables e below (T9.setTop (mkF m 40 #[.val (.int p1), .val (.int kx), .val (.ref (r kx)), .val (.int (1 : Int32)), .val (.int (if pv kx = .null then 0 else 1)), .unset] [(.int (if pv kx = .null then 0 else 1))])) _
      exact k
    obtain ⟨hu, HEU, HFU, cl, HAU, hnz⟩ := HU kx hk hc7
    have go13 : Goes p e below s₁ (entryFrame m #[(.int p1)] maxLocals) T9 (mkF m 44 #[.val (.int p1), .val (.int kx), .val (.ref (r kx)), .val (.int (1 : Int32)), .val (.int (if pv kx = .null then 0 else 1)), .unset] [(.ref (r kx))]) := fun t k => by
      refine go12 t ?_
      refine XS.ifNo X9.here hx rfl (hb hby at_40) rfl (Jvm.Free.XT.i0_eq_f (by simp [HQ kx hk, hc7])) ?_
      show Steps p.tables e below (T9.setTop (mkF m 43 #[.val (.int p1), .val (.int kx), .val (.ref (r kx)), .val (.int (1 : Int32)), .val (.int (if pv kx = .null then 0 else 1)), .unset] [])) _
      refine XS.aloadN X9.here hx rfl (hb hby at_43) rfl rfl ?_
      show Steps p.tables e below (T9.setTop (mkF m 44 #[.val (.int p1), .val (.int kx), .val (.ref (r kx)), .val (.int (1 : Int32)), .val (.int (if pv kx = .null then 0 else 1)), .unset] [(.ref (r kx))])) _
      exact k
    obtain ⟨cq14, kq14, q14a, q14b, q14c⟩ := isOf hZ e9 (EJ.ext O0.2)
    obtain ⟨_, _, ⟨T14, L14, k14, n14⟩, -, X14, ⟨Lc14, hQ14, l14, y14, z14⟩, st14⟩ := X9.virtualBack hx (y := (⟨"com/example/convey/convey/model/MailboxRole", "defaultMailboxName", "()Ljava/lang/String;"⟩ : MethodName)) (z := (⟨"com/example/convey/convey/model/MailboxRole", "defaultMailboxName", "()Ljava/lang/String;"⟩ : MethodName)) hown (mvT hZ (hw _ (List.mem_of_getElem? (i := 15) rfl))) (mvT hZ (hw _ (List.mem_of_getElem? (i := 16) rfl))) (notFace_of_selects (args := #[]) (mvT hZ (hw _ (List.mem_of_getElem? (i := 18) rfl)))) (mvT hZ (hw _ (List.mem_of_getElem? (i := 18) rfl))) (mvT hZ (hw _ (List.mem_of_getElem? (i := 17) rfl))) (by decide) (backOf (W := 0) (rm3 l Z a0 hw [] (r kx) (u kx) h0 n0 Z0 (hu ▸ (HF kx hk).ext O0.2)) hZ (hw _ (List.mem_of_getElem? (i := 19) rfl)) (hw _ (List.mem_of_getElem? (i := 6) rfl)) (by decide) (by decide)) q14a q14c (g := (mkF m 44 #[.val (.int p1), .val (.int kx), .val (.ref (r kx)), .val (.int (1 : Int32)), .val (.int (if pv kx = .null then 0 else 1)), .unset] [(.ref (r kx))])) rfl (by rw [hml]; rfl) (Steps.refl _) (argsL := []) (rest := []) (lenOf pd_2 rfl) rfl (by show 2 * 0 + _ ≤ _; exact Nat.le_of_eq rfl) (hb hby at_44) (fun _ _ => ⟨rfl, e9, (by decide : 0 + 0 ≤ room_1.cells), (by decide : 0 + 0 ≤ room_1.slots)⟩)
    dsimp only [Pt.U, Pt.locs, Pt.cells, Pt.slots] at X14 l14 y14 z14 st14 hQ14
    subst l14 y14 z14
    obtain ⟨rfl, N14q, e14⟩ := hQ14
    have N14 := Fr.app N9 N14q
    have go15 : Goes p e below s₁ (entryFrame m #[(.int p1)] maxLocals) T14 (mkF m 47 #[.val (.int p1), .val (.int kx), .val (.ref (r kx)), .val (.int (1 : Int32)), .val (.int (if pv kx = .null then 0 else 1)), .unset] [(.ref (u kx))]) := fun t k => go13 t (st14.trans k)
    have go16 : Goes p e below s₁ (entryFrame m #[(.int p1)] maxLocals) T14 (mkF m 56 #[.val (.int p1), .val (.int kx), .val (.ref (r kx)), .val (.int (1 : Int32)), .val (.int (if pv kx = .null then 0 else 1)), .val (.ref (u kx))] [(.ref (u kx))]) := fun t k => by
      refine go15 t ?_
      refine XS.astore X14.here hx rfl (hb hby at_47) rfl rfl (l' := #[.val (.int p1), .val (.int kx), .val (.ref (r kx)), .val (.int (1 : Int32)), .val (.int (if pv kx = .null then 0 else 1)), .val (.ref (u kx))]) rfl ?_
      show Steps p.tables e below (T14.setTop (mkF m 49 #[.val (.int p1), .val (.int kx), .val (.ref (r kx)), .val (.int (1 : Int32)), .val (.int (if pv kx = .null then 0 else 1)), .val (.ref (u kx))] [])) _
      refine XS.aload X14.here hx rfl (hb hby at_49) rfl rfl ?_
      show Steps p.tables e below (T14.setTop (mkF m 51 #[.val (.int p1), .val (.int kx), .val (.ref (r kx)), .val (.int (1 : Int32)), .val (.int (if pv kx = .null then 0 else 1)), .val (.ref (u kx))] [(.ref (u kx))])) _
      refine XS.ifnullNo X14.here hx rfl (hb hby at_51) rfl ?_
      show Steps p.tables e below (T14.setTop (mkF m 54 #[.val (.int p1), .val (.int kx), .val (.ref (r kx)), .val (.int (1 : Int32)), .val (.int (if pv kx = .null then 0 else 1)), .val (.ref (u kx))] [])) _
      refine XS.aload X14.here hx rfl (hb hby at_54) rfl rfl ?_
      show Steps p.tables e below (T14.setTop (mkF m 56 #[.val (.int p1), .val (.int kx), .val (.ref (r kx)), .val (.int (1 : Int32)), .val (.int (if pv kx = .null then 0 else 1)), .val (.ref (u kx))] [(.ref (u kx))])) _
      exact k
    obtain ⟨cq17, kq17, q17a, q17b, q17c⟩ := isOf hZ e14 (HEU.ext O0.2)
    obtain ⟨_, _, ⟨T17, L17, k17, n17⟩, -, X17, ⟨Lc17, hQ17, l17, y17, z17⟩, st17⟩ := X14.virtualBack hx (y := (⟨"java/lang/String", "isEmpty", "()Z"⟩ : MethodName)) (z := (⟨"java/lang/String", "isEmpty", "()Z"⟩ : MethodName)) hown (mvT hZ (hw _ (List.mem_of_getElem? (i := 20) rfl))) (mvT hZ (hw _ (List.mem_of_getElem? (i := 21) rfl))) (notFace_of_selects (args := #[]) (mvT hZ (hw _ (List.mem_of_getElem? (i := 23) rfl)))) (mvT hZ (hw _ (List.mem_of_getElem? (i := 23) rfl))) (mvT hZ (hw _ (List.mem_of_getElem? (i := 22) rfl))) (by decide) (backOf (W := 0) (rm4 l Z a0 hw [] (u kx) (bb kx) cl h0 n0 Z0 (HFU.ext O0.2) (HAU.ext O0.2) hnz) hZ (hw _ (List.mem_of_getElem? (i := 25) rfl)) (hw _ (List.mem_of_getElem? (i := 24) rfl)) (by decide) (by decide)) q17a q17c (g := (mkF m 56 #[.val (.int p1), .val (.int kx), .val (.ref (r kx)), .val (.int (1 : Int32)), .val (.int (if pv kx = .null then 0 else 1)), .val (.ref (u kx))] [(.ref (u kx))])) rfl (by rw [hml]; rfl) (Steps.refl _) (argsL := []) (rest := []) (lenOf pd_1 rfl) rfl (by show 2 * 0 + _ ≤ _; exact Nat.le_of_eq rfl) (hb hby at_56) (fun _ _ => ⟨rfl, e14, (by decide : 0 + 0 ≤ room_1.cells), (by decide : 0 + 0 ≤ room_1.slots)⟩)
    dsimp only [Pt.U, Pt.locs, Pt.cells, Pt.slots] at X17 l17 y17 z17 st17 hQ17
    subst l17 y17 z17
    obtain ⟨rfl, N17q, e17⟩ := hQ17
    have N17 := Fr.app N14 N17q
    have go18 : Goes p e below s₁ (entryFrame m #[(.int p1)] maxLocals) T17 (mkF m 59 #[.val (.int p1), .val (.int kx), .val (.ref (r kx)), .val (.int (1 : Int32)), .val (.int (if pv kx = .null then 0 else 1)), .val (.ref (u kx))] [(.int (0 : Int32))]) := fun t k => go16 t (st17.trans k)
    have go19 : Goes p e below s₁ (entryFrame m #[(.int p1)] maxLocals) T17 (mkF m 67 #[.val (.int p1), .val (.int kx), .val (.ref (r kx)), .val (.int (1 : Int32)), .val (.int (if pv kx = .null then 0 else 1)), .val (.ref (u kx))] [(.int (1 : Int32))]) := fun t k => by
      refine go18 t ?_
      refine XS.ifNo X17.here hx rfl (hb hby at_59) rfl (Jvm.Free.XT.i0_ne_f (by decide)) ?_
      show Steps p.tables e below (T17.setTop (mkF m 62 #[.val (.int p1), .val (.int kx), .val (.ref (r kx)), .val (.int (1 : Int32)), .val (.int (if pv kx = .null then 0 else 1)), .val (.ref (u kx))] [])) _
      refine XS.iconst X17.here hx rfl (hb hby at_62) ?_
      show Steps p.tables e below (T17.setTop (mkF m 63 #[.val (.int p1), .val (.int kx), .val (.ref (r kx)), .val (.int (1 : Int32)), .val (.int (if pv kx = .null then 0 else 1)), .val (.ref (u kx))] [(.int (1 : Int32))])) _
      refine XS.goto X17.here hx rfl (pc0 := 63) (pc' := 67) rfl (hb hby at_63) (by decide) (by decide) ?_
      show Steps p.tables e below (T17.setTop (mkF m 67 #[.val (.int p1), .val (.int kx), .val (.ref (r kx)), .val (.int (1 : Int32)), .val (.int (if pv kx = .null then 0 else 1)), .val (.ref (u kx))] [(.int (1 : Int32))])) _
      exact k
    obtain ⟨fs, hr, hrun, hended, hW, hsame⟩ := X17.leave (v := some (.int (1 : Int32))) (fun h => by rw [Bd.returns] at h; cases h)
    refine ⟨_, _, go19 _ ?_, hrun, hended, _, _, rfl, ?_, ⟨_, rfl⟩, hW, hsame.mono (by decide) (by decide)⟩
    · exact retN X17 hx (t := .boolean) Bd.returns (by simp) (hb hby at_67) hr
    · show Q0 Z _ _ _ _ _ _ _ _ T17.heap _
      rw [e17]
      exact ⟨rfl, N17⟩
  · have go20 : Goes p e below s₁ (entryFrame m #[(.int p1)] maxLocals) T4 (mkF m 25 #[.val (.int p1), .val (.int kx), .val (.ref (r kx)), .val (.int (0 : Int32)), .unset, .unset] [(.ref (r kx))]) := fun t k => by
      refine go6 t ?_
      refine XS.icmpYes X4.here hx rfl (pc0 := 15) (pc' := 22) rfl (hb hby at_15) rfl (Jvm.Free.XT.ii_ge_t hc7) (by decide) (by decide) ?_
      show Steps p.tables e below (T4.setTop (mkF m 22 #[.val (.int p1), .val (.int kx), .val (.ref (r kx)), .unset, .unset, .unset] [])) _
      refine XS.iconst X4.here hx rfl (hb hby at_22) ?_
      show Steps p.tables e below (T4.setTop (mkF m 23 #[.val (.int p1), .val (.int kx), .val (.ref (r kx)), .unset, .unset, .unset] [(.int (0 : Int32))])) _
      refine XS.istoreN X4.here hx rfl (hb hby at_23) rfl (l' := #[.val (.int p1), .val (.int kx), .val (.ref (r kx)), .val (.int (0 : Int32)), .unset, .unset]) rfl ?_
      show Steps p.tables e below (T4.setTop (mkF m 24 #[.val (.int p1), .val (.int kx), .val (.ref (r kx)), .val (.int (0 : Int32)), .unset, .unset] [])) _
      refine XS.aloadN X4.here hx rfl (hb hby at_24) rfl rfl ?_
      show Steps p.tables e below (T4.setTop (mkF m 25 #[.val (.int p1), .val (.int kx), .val (.ref (r kx)), .val (.int (0 : Int32)), .unset, .unset] [(.ref (r kx))])) _
      exact k
    obtain ⟨cq21, kq21, q21a, q21b, q21c⟩ := isOf hZ e4 (EJ.ext O0.2)
    obtain ⟨_, _, ⟨T21, L21, k21, n21⟩, -, X21, ⟨Lc21, hQ21, l21, y21, z21⟩, st21⟩ := X4.virtualBack hx (y := (⟨"com/example/convey/convey/model/MailboxRole", "madeWithAccount", "()Z"⟩ : MethodName)) (z := (⟨"com/example/convey/convey/model/MailboxRole", "madeWithAccount", "()Z"⟩ : MethodName)) hown (mvT hZ (hw _ (List.mem_of_getElem? (i := 8) rfl))) (mvT hZ (hw _ (List.mem_of_getElem? (i := 9) rfl))) (notFace_of_selects (args := #[]) (mvT hZ (hw _ (List.mem_of_getElem? (i := 11) rfl)))) (mvT hZ (hw _ (List.mem_of_getElem? (i := 11) rfl))) (mvT hZ (hw _ (List.mem_of_getElem? (i := 10) rfl))) (by decide) (backOf (W := 0) (rm2 l Z a0 hw [] (r kx) (pv kx) h0 n0 Z0 ((HF kx hk).ext O0.2) (HV kx hk)) hZ (hw _ (List.mem_of_getElem? (i := 12) rfl)) (hw _ (List.mem_of_getElem? (i := 6) rfl)) (by decide) (by decide)) q21a q21c (g := (mkF m 25 #[.val (.int p1), .val (.int kx), .val (.ref (r kx)), .val (.int (0 : Int32)), .unset, .unset] [(.ref (r kx))])) rfl (by rw [hml]; rfl) (Steps.refl _) (argsL := []) (rest := []) (lenOf pd_1 rfl) rfl (by show 2 * 0 + _ ≤ _; exact Nat.le_of_eq rfl) (hb hby at_25) (fun _ _ => ⟨rfl, e4, (by decide : 0 + 0 ≤ room_1.cells), (by decide : 0 + 0 ≤ room_1.slots)⟩)
    dsimp only [Pt.U, Pt.locs, Pt.cells, Pt.slots] at X21 l21 y21 z21 st21 hQ21
    subst l21 y21 z21
    obtain ⟨rfl, N21q, e21⟩ := hQ21
    have N21 := Fr.app N4 N21q
    have go22 : Goes p e below s₁ (entryFrame m #[(.int p1)] maxLocals) T21 (mkF m 28 #[.val (.int p1), .val (.int kx), .val (.ref (r kx)), .val (.int (0 : Int32)), .unset, .unset] [(.int (if pv kx = .null then 0 else 1))]) := fun t k => go20 t (st21.trans k)
    have go23 : Goes p e below s₁ (entryFrame m #[(.int p1)] maxLocals) T21 (mkF m 33 #[.val (.int p1), .val (.int kx), .val (.ref (r kx)), .val (.int (0 : Int32)), .val (.int (if pv kx = .null then 0 else 1)), .unset] [(.int (0 : Int32)), (.int (if pv kx = .null then 0 else 1))]) := fun t k => by
      refine go22 t ?_
      refine XS.istore X21.here hx rfl (hb hby at_28) rfl (l' := #[.val (.int p1), .val (.int kx), .val (.ref (r kx)), .val (.int (0 : Int32)), .val (.int (if pv kx = .null then 0 else 1)), .unset]) rfl ?_
      show Steps p.tables e below (T21.setTop (mkF m 30 #[.val (.int p1), .val (.int kx), .val (.ref (r kx)), .val (.int (0 : Int32)), .val (.int (if pv kx = .null then 0 else 1)), .unset] [])) _
      refine XS.iload X21.here hx rfl (hb hby at_30) rfl ?_
      show Steps p.tables e below (T21.setTop (mkF m 32 #[.val (.int p1), .val (.int kx), .val (.ref (r kx)), .val (.int (0 : Int32)), .val (.int (if pv kx = .null then 0 else 1)), .unset] [(.int (if pv kx = .null then 0 else 1))])) _
      refine XS.iloadN X21.here hx rfl (hb hby at_32) rfl ?_
      show Steps p.tables e below (T21.setTop (mkF m 33 #[.val (.int p1), .val (.int kx), .val (.ref (r kx)), .val (.int (0 : Int32)), .val (.int (if pv kx = .null then 0 else 1)), .unset] [(.int (0 : Int32)), (.int (if pv kx = .null then 0 else 1))])) _
      exact k
    have go24 : Goes p e below s₁ (entryFrame m #[(.int p1)] maxLocals) T21 (mkF m 40 #[.val (.int p1), .val (.int kx), .val (.ref (r kx)), .val (.int (0 : Int32)), .val (.int (if pv kx = .null then 0 else 1)), .unset] [(.int (if pv kx = .null then 0 else 1))]) := fun t k => by
      refine go23 t ?_
      refine XS.icmpYes X21.here hx rfl (pc0 := 33) (pc' := 38) rfl (hb hby at_33) rfl (Jvm.Free.XT.ii_eq_t (by simp [HQ kx hk, hc7])) (by decide) (by decide) ?_
      show Steps p.tables e below (T21.setTop (mkF m 38 #[.val (.int p1), .val (.int kx), .val (.ref (r kx)), .val (.int (0 : Int32)), .val (.int (if pv kx = .null then 0 else 1)), .unset] [])) _
      refine XS.iload X21.here hx rfl (hb hby at_38) rfl ?_
      show Steps p.tables e below (T21.setTop (mkF m 40 #[.val (.int p1), .val (.int kx), .val (.ref (r kx)), .val (.int (0 : Int32)), .val (.int (if pv kx = .null then 0 else 1)), .unset] [(.int (if pv kx = .null then 0 else 1))])) _
      exact k
    have go25 : Goes p e below s₁ (entryFrame m #[(.int p1)] maxLocals) T21 (mkF m 69 #[.val (.int p1), .val (.int kx), .val (.ref (r kx)), .val (.int (0 : Int32)), .val (.int (if pv kx = .null then 0 else 1)), .unset] [(.int (1 : Int32))]) := fun t k => by
      refine go24 t ?_
      refine XS.ifYes X21.here hx rfl (pc0 := 40) (pc' := 68) rfl (hb hby at_40) rfl (Jvm.Free.XT.i0_eq_t (by simp [HQ kx hk, hc7])) (by decide) (by decide) ?_
      show Steps p.tables e below (T21.setTop (mkF m 68 #[.val (.int p1), .val (.int kx), .val (.ref (r kx)), .val (.int (0 : Int32)), .val (.int (if pv kx = .null then 0 else 1)), .unset] [])) _
      refine XS.iconst X21.here hx rfl (hb hby at_68) ?_
      show Steps p.tables e below (T21.setTop (mkF m 69 #[.val (.int p1), .val (.int kx), .val (.ref (r kx)), .val (.int (0 : Int32)), .val (.int (if pv kx = .null then 0 else 1)), .unset] [(.int (1 : Int32))])) _
      exact k
    obtain ⟨fs, hr, hrun, hended, hW, hsame⟩ := X21.leave (v := some (.int (1 : Int32))) (fun h => by rw [Bd.returns] at h; cases h)
    refine ⟨_, _, go25 _ ?_, hrun, hended, _, _, rfl, ?_, ⟨_, rfl⟩, hW, hsame.mono (by decide) (by decide)⟩
    · exact retN X21 hx (t := .boolean) Bd.returns (by simp) (hb hby at_69) hr
    · show Q0 Z _ _ _ _ _ _ _ _ T21.heap _
      rw [e21]
      exact ⟨rfl, N21⟩
set_option maxRecDepth 65536 in
set_option maxHeartbeats 40000000 in
theorem comes_1 {Post : Tables → Env → Array Value → State → Outcome → State → Prop} (hpost : ∀ tb e args s v u, (limb_1_1.after args s (.returned v) u = true ∧ limb_1_2.after args s (.returned v) u = true ∧ True) → FrameEnd s (.returned v) u (Jvm.fieldLocs frame_1_writes args s ++ Jvm.arrayLocs frame_1_arrays args s ++ Jvm.staticLocs frame_1_statics s) 0 0 → Post tb e args s (.returned v) u) :
    ArmFor flags0 classFile x code maxLocals ret World_1 tables_1 room_1 Calls_1 rest_1 Pre_1 Post := by
  intro l hfl _ _ p e ha hc hk s m args below hf hA hF happ hP
  obtain ⟨hcalls, hrest, hpre⟩ := hP
  obtain ⟨-, -, -, hnamed, -, -, -, hat⟩ := (Spec.applies_iff hf).mp happ
  obtain ⟨hg, hn⟩ := and_e (Cond.before_iff.mp (show (Jvm.Cond.and given_1 narrow_1).before args s = true from hpre))
  obtain ⟨hg0, hg⟩ := and_e hg
  have ga0 := hg
  obtain ⟨w0, rfl⟩ : ∃ w0 : Value, args = #[w0] := by
    have hs : args.size = 1 := by simpa [Cond.value, given_1] using hg0
    obtain ⟨L⟩ := args
    match L, hs with
    | [w0], _ => exact ⟨w0, rfl⟩
  have hw := fun d (hd : d ∈ tables_1) => atoms_spec (ws := Jvm.Cond.code x code maxLocals ret :: tables_1) hat d (List.mem_cons_of_mem _ hd)
  have hfit : Fit s := fun {y c} hc i hi => by
    obtain ⟨ha, rfl⟩ := Array.getElem?_eq_some_iff.mp hc
    have q := List.all_eq_true.mp ((Array.all_eq_true_iff_forall_mem.mp hF) _ (Array.getElem_mem ha)) i (List.mem_range.mpr hi)
    simpa [Array.getElem?_eq_getElem hi] using q
  obtain ⟨i0, ei0⟩ := is_v ga0
  obtain rfl : w0 = (.int i0) := Option.some.inj ei0
  obtain ⟨hn0, hn⟩ := and_e hn
  obtain ⟨hn1, hn⟩ := and_e hn
  obtain ⟨hn2, hn⟩ := and_e hn
  obtain ⟨hn3, hn⟩ := and_e hn
  obtain ⟨hn4, hn⟩ := and_e hn
  obtain ⟨hn5, hn⟩ := and_e hn
  obtain ⟨hn6, hn⟩ := and_e hn
  obtain ⟨hn7, hn⟩ := and_e hn
  obtain ⟨hn8, hn⟩ := and_e hn
  obtain ⟨hn9, hn⟩ := and_e hn
  obtain ⟨hn10, hn⟩ := and_e hn
  obtain ⟨hn11, hn⟩ := and_e hn
  obtain ⟨hn12, hn⟩ := and_e hn
  obtain ⟨hn13, hn⟩ := and_e hn
  obtain ⟨hn14, hn⟩ := and_e hn
  obtain ⟨hn15, hn⟩ := and_e hn
  obtain ⟨hn16, hn⟩ := and_e hn
  obtain ⟨hn17, hn⟩ := and_e hn
  obtain ⟨hn18, hn⟩ := and_e hn
  have hn19 := hn
  obtain ⟨x_INBOX, ev_INBOX, S_INBOX, E_INBOX⟩ := own_sx (hw _ (List.mem_of_getElem? (i := 6) rfl)) (hw _ (List.mem_of_getElem? (i := 7) rfl)) hn0
  obtain ⟨y_INBOX, evy_INBOX, F_INBOX, EY_INBOX⟩ := own_fx ev_INBOX hn1
  obtain ⟨z_INBOX, evz_INBOX⟩ := arr_v hn2
  have FZ_INBOX := Fld.start ((fld_at evy_INBOX).symm.trans evz_INBOX)
  obtain ⟨cl_INBOX, A_INBOX⟩ := Arr.start evz_INBOX hn2
  have L_INBOX : ¬ cl_INBOX.slots.size.toInt32 = 0 := by rw [own_len evz_INBOX A_INBOX hn3]; decide
  obtain ⟨x_TRASH, ev_TRASH, S_TRASH, E_TRASH⟩ := own_sx (hw _ (List.mem_of_getElem? (i := 6) rfl)) (hw _ (List.mem_of_getElem? (i := 29) rfl)) hn4
  obtain ⟨y_TRASH, evy_TRASH, F_TRASH, EY_TRASH⟩ := own_fx ev_TRASH hn5
  obtain ⟨z_TRASH, evz_TRASH⟩ := arr_v hn6
  have FZ_TRASH := Fld.start ((fld_at evy_TRASH).symm.trans evz_TRASH)
  obtain ⟨cl_TRASH, A_TRASH⟩ := Arr.start evz_TRASH hn6
  have L_TRASH : ¬ cl_TRASH.slots.size.toInt32 = 0 := by rw [own_len evz_TRASH A_TRASH hn7]; decide
  obtain ⟨x_SENT, ev_SENT, S_SENT, E_SENT⟩ := own_sx (hw _ (List.mem_of_getElem? (i := 6) rfl)) (hw _ (List.mem_of_getElem? (i := 31) rfl)) hn8
  obtain ⟨y_SENT, evy_SENT, F_SENT, EY_SENT⟩ := own_fx ev_SENT hn9
  obtain ⟨z_SENT, evz_SENT⟩ := arr_v hn10
  have FZ_SENT := Fld.start ((fld_at evy_SENT).symm.trans evz_SENT)
  obtain ⟨cl_SENT, A_SENT⟩ := Arr.start evz_SENT hn10
  have L_SENT : ¬ cl_SENT.slots.size.toInt32 = 0 := by rw [own_len evz_SENT A_SENT hn11]; decide
  obtain ⟨x_DRAFTS, ev_DRAFTS, S_DRAFTS, E_DRAFTS⟩ := own_sx (hw _ (List.mem_of_getElem? (i := 6) rfl)) (hw _ (List.mem_of_getElem? (i := 33) rfl)) hn12
  obtain ⟨y_DRAFTS, evy_DRAFTS, F_DRAFTS, EY_DRAFTS⟩ := own_fx ev_DRAFTS hn13
  obtain ⟨z_DRAFTS, evz_DRAFTS⟩ := arr_v hn14
  have FZ_DRAFTS := Fld.start ((fld_at evy_DRAFTS).symm.trans evz_DRAFTS)
  obtain ⟨cl_DRAFTS, A_DRAFTS⟩ := Arr.start evz_DRAFTS hn14
  have L_DRAFTS : ¬ cl_DRAFTS.slots.size.toInt32 = 0 := by rw [own_len evz_DRAFTS A_DRAFTS hn15]; decide
  obtain ⟨x_JUNK, ev_JUNK, S_JUNK, E_JUNK⟩ := own_sx (hw _ (List.mem_of_getElem? (i := 6) rfl)) (hw _ (List.mem_of_getElem? (i := 35) rfl)) hn16
  have F_JUNK := own_fn ev_JUNK hn17
  obtain ⟨x_ARCHIVE, ev_ARCHIVE, S_ARCHIVE, E_ARCHIVE⟩ := own_sx (hw _ (List.mem_of_getElem? (i := 6) rfl)) (hw _ (List.mem_of_getElem? (i := 37) rfl)) hn18
  have F_ARCHIVE := own_fn ev_ARCHIVE hn19
  have HUU : ∀ k, own_K k → k < 4 → (fun k : Int32 => if k = 0 then Value.ref y_INBOX else if k = 1 then Value.ref y_DRAFTS else if k = 2 then Value.ref y_SENT else if k = 3 then Value.ref y_TRASH else if k = 4 then Value.null else Value.null) k = .ref ((fun k : Int32 => if k = 0 then y_INBOX else if k = 1 then y_DRAFTS else if k = 2 then y_SENT else if k = 3 then y_TRASH else if k = 4 then 0 else 0) k) ∧ Exa s s.heap ((fun k : Int32 => if k = 0 then y_INBOX else if k = 1 then y_DRAFTS else if k = 2 then y_SENT else if k = 3 then y_TRASH else if k = 4 then 0 else 0) k) "java/lang/String" ∧ Fld s s.heap ((fun k : Int32 => if k = 0 then y_INBOX else if k = 1 then y_DRAFTS else if k = 2 then y_SENT else if k = 3 then y_TRASH else if k = 4 then 0 else 0) k) "java/lang/String" "value" "[B" (.ref ((fun k : Int32 => if k = 0 then z_INBOX else if k = 1 then z_DRAFTS else if k = 2 then z_SENT else if k = 3 then z_TRASH else if k = 4 then 0 else 0) k)) ∧ ∃ cl, Arr s s.heap ((fun k : Int32 => if k = 0 then z_INBOX else if k = 1 then z_DRAFTS else if k = 2 then z_SENT else if k = 3 then z_TRASH else if k = 4 then 0 else 0) k) cl .byte ∧ ¬ cl.slots.size.toInt32 = 0 := fun k hk hlt => by
      unfold own_K at hk
      rcases hk with rfl | rfl | rfl | rfl | rfl | rfl
      · exact ⟨rfl, EY_INBOX, FZ_INBOX, cl_INBOX, A_INBOX, L_INBOX⟩
      · exact ⟨rfl, EY_DRAFTS, FZ_DRAFTS, cl_DRAFTS, A_DRAFTS, L_DRAFTS⟩
      · exact ⟨rfl, EY_SENT, FZ_SENT, cl_SENT, A_SENT, L_SENT⟩
      · exact ⟨rfl, EY_TRASH, FZ_TRASH, cl_TRASH, A_TRASH, L_TRASH⟩
      · exact absurd hlt (by decide)
      · exact absurd hlt (by decide)
  obtain ⟨n, o, h1, h2, h3, _, L, rfl, ⟨rfl, N⟩, hq⟩ := rm0 l s _ hw tables_1 i0 (fun k : Int32 => if k = 0 then x_INBOX else if k = 1 then x_DRAFTS else if k = 2 then x_SENT else if k = 3 then x_TRASH else if k = 4 then x_ARCHIVE else x_JUNK) (fun k : Int32 => if k = 0 then Value.ref y_INBOX else if k = 1 then Value.ref y_DRAFTS else if k = 2 then Value.ref y_SENT else if k = 3 then Value.ref y_TRASH else if k = 4 then Value.null else Value.null) (fun k : Int32 => if k = 0 then y_INBOX else if k = 1 then y_DRAFTS else if k = 2 then y_SENT else if k = 3 then y_TRASH else if k = 4 then 0 else 0) (fun k : Int32 => if k = 0 then z_INBOX else if k = 1 then z_DRAFTS else if k = 2 then z_SENT else if k = 3 then z_TRASH else if k = 4 then 0 else 0) s.heap s.heap.size (Nat.le_refl _) (Old.start s) S_INBOX S_DRAFTS S_SENT S_TRASH S_ARCHIVE S_JUNK (by intro k hk; unfold own_K at hk; rcases hk with rfl | rfl | rfl | rfl | rfl | rfl <;> assumption) (by intro k hk; unfold own_K at hk; rcases hk with rfl | rfl | rfl | rfl | rfl | rfl <;> assumption) (by intro k hk; unfold own_K at hk; rcases hk with rfl | rfl | rfl | rfl | rfl | rfl <;> rfl) (by intro k hk; unfold own_K at hk; rcases hk with rfl | rfl | rfl | rfl | rfl | rfl <;> simp) HUU p e ha hc hk s m _ below hf ((Spec.applies_iff_loose hf).mp happ).1 ⟨rfl, State.Warmed39.refl s, rfl⟩ trivial
  refine ⟨n, _, h1, h2, h3, hpost _ _ _ _ _ _ ⟨Cond.after_iff.mpr rfl, Cond.after_iff.mpr (eq_i res_at (Term.int_eval (1)) rfl), trivial⟩ ⟨hq.1, hq.2.1, (hq.2.2.sift fun y hy => Or.inr (N y hy)).mono (by decide) (by decide)⟩⟩
theorem main_1_1 : Claimed_1_1 := comes_1 fun _ _ _ _ _ _ h hF => ⟨h.1, hF⟩
theorem main_1_2 : Claimed_1_2 := comes_1 fun _ _ _ _ _ _ h hF => ⟨h.2.1, hF⟩
end Jvm.Pilot.@@N@@
namespace Jvm.Pilot.@@N@@
open Jvm Jvm.ClassFile Sem Op Lib Jvm.Free Jvm.Stand Jvm.Pilot.@@N@@.Jvm.D
/-! MADE BY PROGRAM (witnessworld.py) out of the Statement's table words and the real class files: 15 classes; the members and pool entries that the words name. The judged class is class 1, her method 1. -/
namespace start1
open Jvm.ClassFile
def u (s : String) : CpInfo := .utf8 (stringToUtf16 s)
/-- a pool by its gaps: so many unusable entries, then the entry; so many at the end -/
def gap : Nat → List CpInfo → List CpInfo
  | 0, r => r
  | n + 1, r => .unusable :: gap n r
def poolList (es : List (Nat × CpInfo)) (last : Nat) : List CpInfo := es.foldr (fun e r => gap e.1 (e.2 :: r)) (gap last [])
def pool (es : List (Nat × CpInfo)) (last : Nat) : Array CpInfo := ⟨poolList es last⟩
def fileOf (pool : Array CpInfo) (this : Nat) (attrs : Array Attribute := #[]) (ms : Array MethodInfo := #[]) (fl : Nat := 33) (sup : Nat := 0) (ifs : Array Nat := #[]) (fds : Array FieldInfo := #[]) : ClassFile where
  minorVersion := 0
  majorVersion := 65
  constantPool := pool
  accessFlags := fl
  thisClass := this
  superClass := sup
  interfaces := ifs
  fields := fds
  methods := ms
  attributes := attrs
def plain (name : String) (sup : Option ClassId) : Class where
  name := name
  kind := .ordinary
  loader := none
  accessFlags := 33
  super := sup
  interfaces := #[]
  cf := none
  fields := #[]
  methods := #[]
  instanceTypes := #[]
  staticTypes := #[]
  resolved := #[]
  callSites := []
  init := .initialized
  statics := none
  mirror := none

def pool0 : Array CpInfo := pool [(5, u "<init>"), (0, u "()V"), (1, .class_ 10), (1, u "java/lang/Object")] 113

def k0m0 : Method := { name := "<init>", desc := "()V", sig := { parameters := [], returnType := none }, accessFlags := 1, code := none }
/-- java/lang/Object -/
def k0 : Class := { plain "java/lang/Object" none with
  accessFlags := 33
  interfaces := #[]
  cf := some (fileOf pool0 8 #[] #[{ accessFlags := 1, nameIndex := 5, descriptorIndex := 6, attributes := #[] }] 33 0 #[] #[])
  fields := #[]
  methods := #[k0m0]
  instanceTypes := #[]
  staticTypes := #[]
  resolved := Array.replicate 124 none
  statics := none }

def pool1 : Array CpInfo := pool [(2, .class_ 4), (1, u "java/lang/Object"), (0, u "<init>"), (0, u "()V"), (0, .integer 2147483647), (0, .methodref 9 10), (0, .class_ 11), (0, .nameAndType 12 13), (0, u "com/example/convey/convey/model/MailboxRoleMadeWithAccountPinLaw"), (0, u "pick"), (0, u "(I)Lcom/example/convey/convey/model/MailboxRole;"), (0, .methodref 15 16), (0, .class_ 17), (0, .nameAndType 18 19), (0, u "com/example/convey/convey/model/MailboxRole"), (0, u "madeWithAccount"), (0, u "()Z"), (0, .methodref 15 21), (0, .nameAndType 22 23), (0, u "defaultMailboxName"), (0, u "()Ljava/lang/String;"), (0, .methodref 25 26), (0, .class_ 27), (0, .nameAndType 28 19), (0, u "java/lang/String"), (0, u "isEmpty"), (0, .fieldref 15 30), (0, .nameAndType 31 32), (0, u "INBOX"), (0, u "Lcom/example/convey/convey/model/MailboxRole;"), (0, .fieldref 15 34), (0, .nameAndType 35 32), (0, u "DRAFTS"), (0, .fieldref 15 37), (0, .nameAndType 38 32), (0, u "SENT"), (0, .fieldref 15 40), (0, .nameAndType 41 32), (0, u "TRASH"), (0, .fieldref 15 43), (0, .nameAndType 44 32), (0, u "ARCHIVE"), (0, .fieldref 15 46), (0, .nameAndType 47 32), (0, u "JUNK"), (2, u "law"), (0, u "(I)Z")] 3

def k1m0 : Method := { name := "<init>", desc := "()V", sig := { parameters := [], returnType := none }, accessFlags := 1, code := none }
def k1c1 : Code := { maxStack := 2, maxLocals := 6, code := code, exceptionTable := #[], attributes := #[] }
def k1m1 : Method := { name := "law", desc := "(I)Z", sig := { parameters := [.int], returnType := some .boolean }, accessFlags := 9, code := some k1c1 }
def k1c2 : Code := { maxStack := 2, maxLocals := 1, code := method_3_code, exceptionTable := #[], attributes := #[] }
def k1m2 : Method := { name := "pick", desc := "(I)Lcom/example/convey/convey/model/MailboxRole;", sig := { parameters := [.int], returnType := some (.object "com/example/convey/convey/model/MailboxRole") }, accessFlags := 10, code := some k1c2 }
/-- com/example/convey/convey/model/MailboxRoleMadeWithAccountPinLaw -/
def k1 : Class := { plain "com/example/convey/convey/model/MailboxRoleMadeWithAccountPinLaw" (some 0) with
  accessFlags := 49
  interfaces := #[]
  cf := some (fileOf pool1 9 #[] #[{ accessFlags := 1, nameIndex := 5, descriptorIndex := 6, attributes := #[] }, { accessFlags := 9, nameIndex := 50, descriptorIndex := 51, attributes := #[] }, { accessFlags := 10, nameIndex := 12, descriptorIndex := 13, attributes := #[] }] 49 2 #[] #[])
  fields := #[]
  methods := #[k1m0, k1m1, k1m2]
  instanceTypes := #[]
  staticTypes := #[]
  resolved := Array.replicate 55 none
  statics := none }

def pool2 : Array CpInfo := pool [(1, .class_ 2), (0, u "java/lang/constant/Constable"), (0, .class_ 4), (0, u "java/lang/Object")] 6

/-- java/lang/constant/Constable -/
def k2 : Class := { plain "java/lang/constant/Constable" (some 0) with
  accessFlags := 1537
  interfaces := #[]
  cf := some (fileOf pool2 1 #[] #[] 1537 3 #[] #[])
  fields := #[]
  methods := #[]
  instanceTypes := #[]
  staticTypes := #[]
  resolved := Array.replicate 11 none
  statics := none }

def pool3 : Array CpInfo := pool [(1, .class_ 2), (0, u "java/lang/Comparable"), (0, .class_ 4), (0, u "java/lang/Object")] 7

/-- java/lang/Comparable -/
def k3 : Class := { plain "java/lang/Comparable" (some 0) with
  accessFlags := 1537
  interfaces := #[]
  cf := some (fileOf pool3 1 #[] #[] 1537 3 #[] #[])
  fields := #[]
  methods := #[]
  instanceTypes := #[]
  staticTypes := #[]
  resolved := Array.replicate 12 none
  statics := none }

def pool4 : Array CpInfo := pool [(1, .class_ 2), (0, u "java/io/Serializable"), (0, .class_ 4), (0, u "java/lang/Object")] 2

/-- java/io/Serializable -/
def k4 : Class := { plain "java/io/Serializable" (some 0) with
  accessFlags := 1537
  interfaces := #[]
  cf := some (fileOf pool4 1 #[] #[] 1537 3 #[] #[])
  fields := #[]
  methods := #[]
  instanceTypes := #[]
  staticTypes := #[]
  resolved := Array.replicate 7 none
  statics := none }

def pool5 : Array CpInfo := pool [(2, .class_ 4), (1, u "java/lang/Enum"), (0, u "name"), (0, u "Ljava/lang/String;"), (2, u "ordinal"), (0, u "I"), (1, .class_ 14), (1, u "java/lang/Object"), (4, u "hash"), (86, .class_ 108), (1, u "java/lang/Enum$EnumDesc"), (2, .class_ 112), (0, u "java/lang/constant/Constable"), (0, .class_ 114), (0, u "java/lang/Comparable"), (0, .class_ 116), (0, u "java/io/Serializable")] 87

/-- java/lang/Enum -/
def k5 : Class := { plain "java/lang/Enum" (some 0) with
  accessFlags := 1057
  interfaces := #[2, 3, 4]
  cf := some (fileOf pool5 2 #[.nestMembers #[106]] #[] 1057 12 #[111, 113, 115] #[{ accessFlags := 18, nameIndex := 5, descriptorIndex := 6, attributes := #[] }, { accessFlags := 18, nameIndex := 9, descriptorIndex := 10, attributes := #[] }, { accessFlags := 2, nameIndex := 19, descriptorIndex := 10, attributes := #[] }])
  fields := #[{ name := "name", type := (.object "java/lang/String"), accessFlags := 18, slot := 0, constantValue := 0 }, { name := "ordinal", type := .int, accessFlags := 18, slot := 1, constantValue := 0 }, { name := "hash", type := .int, accessFlags := 2, slot := 2, constantValue := 0 }]
  methods := #[]
  instanceTypes := #[(.object "java/lang/String"), .int, .int]
  staticTypes := #[]
  resolved := Array.replicate 204 none
  statics := none }

def pool6 : Array CpInfo := pool [(1, .class_ 2), (0, u "com/example/convey/convey/model/MailboxRole"), (2, u "INBOX"), (0, u "Lcom/example/convey/convey/model/MailboxRole;"), (2, u "DRAFTS"), (2, u "SENT"), (2, u "TRASH"), (2, u "ARCHIVE"), (2, u "JUNK"), (2, u "$VALUES"), (0, u "[Lcom/example/convey/convey/model/MailboxRole;"), (6, .class_ 34), (1, u "java/lang/Enum"), (8, u "jmapName"), (0, u "Ljava/lang/String;"), (0, .fieldref 1 46), (0, .nameAndType 47 44), (0, u "defaultMailboxName"), (66, u "()Ljava/lang/String;"), (0, u "madeWithAccount"), (0, u "()Z")] 24

def k6c0 : Code := { maxStack := 1, maxLocals := 1, code := prog_72_method_5_code, exceptionTable := #[], attributes := #[] }
def k6m0 : Method := { name := "madeWithAccount", desc := "()Z", sig := { parameters := [], returnType := some .boolean }, accessFlags := 1, code := some k6c0 }
def k6c1 : Code := { maxStack := 3, maxLocals := 1, code := prog_72_method_6_code, exceptionTable := #[], attributes := #[] }
def k6m1 : Method := { name := "defaultMailboxName", desc := "()Ljava/lang/String;", sig := { parameters := [], returnType := some (.object "java/lang/String") }, accessFlags := 1, code := some k6c1 }
/-- com/example/convey/convey/model/MailboxRole -/
def k6 : Class := { plain "com/example/convey/convey/model/MailboxRole" (some 5) with
  accessFlags := 16433
  interfaces := #[]
  cf := some (fileOf pool6 1 #[] #[{ accessFlags := 1, nameIndex := 115, descriptorIndex := 116, attributes := #[] }, { accessFlags := 1, nameIndex := 47, descriptorIndex := 114, attributes := #[] }] 16433 32 #[] #[{ accessFlags := 16409, nameIndex := 5, descriptorIndex := 6, attributes := #[] }, { accessFlags := 16409, nameIndex := 9, descriptorIndex := 6, attributes := #[] }, { accessFlags := 16409, nameIndex := 12, descriptorIndex := 6, attributes := #[] }, { accessFlags := 16409, nameIndex := 15, descriptorIndex := 6, attributes := #[] }, { accessFlags := 16409, nameIndex := 18, descriptorIndex := 6, attributes := #[] }, { accessFlags := 16409, nameIndex := 21, descriptorIndex := 6, attributes := #[] }, { accessFlags := 18, nameIndex := 43, descriptorIndex := 44, attributes := #[] }, { accessFlags := 18, nameIndex := 47, descriptorIndex := 44, attributes := #[] }, { accessFlags := 4122, nameIndex := 24, descriptorIndex := 25, attributes := #[] }])
  fields := #[{ name := "INBOX", type := (.object "com/example/convey/convey/model/MailboxRole"), accessFlags := 16409, slot := 0, constantValue := 0 }, { name := "DRAFTS", type := (.object "com/example/convey/convey/model/MailboxRole"), accessFlags := 16409, slot := 1, constantValue := 0 }, { name := "SENT", type := (.object "com/example/convey/convey/model/MailboxRole"), accessFlags := 16409, slot := 2, constantValue := 0 }, { name := "TRASH", type := (.object "com/example/convey/convey/model/MailboxRole"), accessFlags := 16409, slot := 3, constantValue := 0 }, { name := "ARCHIVE", type := (.object "com/example/convey/convey/model/MailboxRole"), accessFlags := 16409, slot := 4, constantValue := 0 }, { name := "JUNK", type := (.object "com/example/convey/convey/model/MailboxRole"), accessFlags := 16409, slot := 5, constantValue := 0 }, { name := "jmapName", type := (.object "java/lang/String"), accessFlags := 18, slot := 3, constantValue := 0 }, { name := "defaultMailboxName", type := (.object "java/lang/String"), accessFlags := 18, slot := 4, constantValue := 0 }, { name := "$VALUES", type := (.array (.object "com/example/convey/convey/model/MailboxRole")), accessFlags := 4122, slot := 6, constantValue := 0 }]
  methods := #[k6m0, k6m1]
  instanceTypes := #[(.object "java/lang/String"), .int, .int, (.object "java/lang/String"), (.object "java/lang/String")]
  staticTypes := #[(.object "com/example/convey/convey/model/MailboxRole"), (.object "com/example/convey/convey/model/MailboxRole"), (.object "com/example/convey/convey/model/MailboxRole"), (.object "com/example/convey/convey/model/MailboxRole"), (.object "com/example/convey/convey/model/MailboxRole"), (.object "com/example/convey/convey/model/MailboxRole"), (.array (.object "com/example/convey/convey/model/MailboxRole"))]
  resolved := Array.replicate 141 none
  statics := some 0 }

def pool7 : Array CpInfo := pool [(2, .class_ 4), (1, u "java/lang/CharSequence"), (42, .class_ 48), (0, u "java/lang/CharSequence$1CodePointIterator"), (10, .class_ 60), (0, u "java/lang/CharSequence$1CharIterator"), (5, .class_ 67), (0, u "java/lang/Object")] 63

/-- java/lang/CharSequence -/
def k7 : Class := { plain "java/lang/CharSequence" (some 0) with
  accessFlags := 1537
  interfaces := #[]
  cf := some (fileOf pool7 2 #[.nestMembers #[47, 59]] #[] 1537 66 #[] #[])
  fields := #[]
  methods := #[]
  instanceTypes := #[]
  staticTypes := #[]
  resolved := Array.replicate 131 none
  statics := none }

def pool8 : Array CpInfo := pool [(1, .class_ 2), (0, u "java/lang/constant/ConstantDesc"), (0, .class_ 4), (0, u "java/lang/Object")] 32

/-- java/lang/constant/ConstantDesc -/
def k8 : Class := { plain "java/lang/constant/ConstantDesc" (some 0) with
  accessFlags := 1537
  interfaces := #[]
  cf := some (fileOf pool8 1 #[] #[] 1537 3 #[] #[])
  fields := #[]
  methods := #[]
  instanceTypes := #[]
  staticTypes := #[]
  resolved := Array.replicate 37 none
  statics := none }

def pool9 : Array CpInfo := pool [(2, .class_ 4), (1, u "java/lang/Object"), (0, u "<init>"), (0, u "()V"), (2, .fieldref 10 11), (0, .class_ 12), (0, .nameAndType 13 14), (0, u "java/lang/String"), (0, u "value"), (0, u "[B"), (2, u "coder"), (0, u "B"), (2, u "hash"), (0, u "I"), (2, u "hashIsZero"), (0, u "Z"), (13, u "COMPACT_STRINGS"), (101, u "()Z"), (432, .class_ 576), (0, u "java/lang/CharSequence"), (22, u "CASE_INSENSITIVE_ORDER"), (0, u "Ljava/util/Comparator;"), (91, u "isEmpty"), (408, u "serialPersistentFields"), (0, u "[Ljava/io/ObjectStreamField;"), (0, .class_ 1104), (0, u "java/lang/String$CaseInsensitiveComparator"), (1, .class_ 1107), (0, u "java/io/Serializable"), (0, .class_ 1109), (0, u "java/lang/Comparable"), (0, .class_ 1111), (0, u "java/lang/constant/Constable"), (0, .class_ 1113), (0, u "java/lang/constant/ConstantDesc"), (2, u "serialVersionUID"), (0, u "J"), (3, u "REPL"), (0, u "C"), (2, u "LATIN1"), (1, u "UTF16")] 323

def k9m0 : Method := { name := "<init>", desc := "()V", sig := { parameters := [], returnType := none }, accessFlags := 1, code := none }
def k9c1 : Code := { maxStack := 1, maxLocals := 1, code := jdk_42_method_55_code, exceptionTable := #[], attributes := #[] }
def k9m1 : Method := { name := "isEmpty", desc := "()Z", sig := { parameters := [], returnType := some .boolean }, accessFlags := 1, code := some k9c1 }
/-- java/lang/String -/
def k9 : Class := { plain "java/lang/String" (some 0) with
  accessFlags := 49
  interfaces := #[4, 3, 7, 2, 8]
  cf := some (fileOf pool9 10 #[.nestMembers #[1103]] #[{ accessFlags := 1, nameIndex := 5, descriptorIndex := 6, attributes := #[] }, { accessFlags := 1, nameIndex := 692, descriptorIndex := 142, attributes := #[] }] 49 2 #[1106, 1108, 575, 1110, 1112] #[{ accessFlags := 18, nameIndex := 13, descriptorIndex := 14, attributes := #[] }, { accessFlags := 18, nameIndex := 17, descriptorIndex := 18, attributes := #[] }, { accessFlags := 2, nameIndex := 21, descriptorIndex := 22, attributes := #[] }, { accessFlags := 2, nameIndex := 25, descriptorIndex := 26, attributes := #[] }, { accessFlags := 26, nameIndex := 1116, descriptorIndex := 1117, attributes := #[] }, { accessFlags := 24, nameIndex := 40, descriptorIndex := 26, attributes := #[] }, { accessFlags := 26, nameIndex := 1101, descriptorIndex := 1102, attributes := #[] }, { accessFlags := 26, nameIndex := 1121, descriptorIndex := 1122, attributes := #[] }, { accessFlags := 25, nameIndex := 599, descriptorIndex := 600, attributes := #[] }, { accessFlags := 24, nameIndex := 1125, descriptorIndex := 18, attributes := #[] }, { accessFlags := 24, nameIndex := 1127, descriptorIndex := 18, attributes := #[] }])
  fields := #[{ name := "value", type := (.array .byte), accessFlags := 18, slot := 0, constantValue := 0 }, { name := "coder", type := .byte, accessFlags := 18, slot := 1, constantValue := 0 }, { name := "hash", type := .int, accessFlags := 2, slot := 2, constantValue := 0 }, { name := "hashIsZero", type := .boolean, accessFlags := 2, slot := 3, constantValue := 0 }, { name := "serialVersionUID", type := .long, accessFlags := 26, slot := 0, constantValue := 0 }, { name := "COMPACT_STRINGS", type := .boolean, accessFlags := 24, slot := 1, constantValue := 0 }, { name := "serialPersistentFields", type := (.array (.object "java/io/ObjectStreamField")), accessFlags := 26, slot := 2, constantValue := 0 }, { name := "REPL", type := .char, accessFlags := 26, slot := 3, constantValue := 0 }, { name := "CASE_INSENSITIVE_ORDER", type := (.object "java/util/Comparator"), accessFlags := 25, slot := 4, constantValue := 0 }, { name := "LATIN1", type := .byte, accessFlags := 24, slot := 5, constantValue := 0 }, { name := "UTF16", type := .byte, accessFlags := 24, slot := 6, constantValue := 0 }]
  methods := #[k9m0, k9m1]
  instanceTypes := #[(.array .byte), .byte, .int, .boolean]
  staticTypes := #[.long, .boolean, (.array (.object "java/io/ObjectStreamField")), .char, (.object "java/util/Comparator"), .byte, .byte]
  resolved := Array.replicate 1451 none
  statics := none }

def pool10 : Array CpInfo := pool [(1, u "java/lang/Cloneable"), (0, .class_ 1), (0, u "java/lang/Object"), (0, .class_ 3)] 3

/-- java/lang/Cloneable -/
def k10 : Class := { plain "java/lang/Cloneable" (some 0) with
  accessFlags := 1537
  interfaces := #[]
  cf := some (fileOf pool10 2 #[] #[] 1537 4 #[] #[])
  fields := #[]
  methods := #[]
  instanceTypes := #[]
  staticTypes := #[]
  resolved := Array.replicate 8 none
  statics := none }

/-- the primitive byte -/
def k11 : Class := { plain "byte" none with kind := .primitive 'B', accessFlags := 0x411 }
/-- [B -/
def k12 : Class := { plain "[B" (some 0) with kind := .array 11 .byte, interfaces := #[10, 4], accessFlags := 1041 }

/-- the primitive int -/
def k13 : Class := { plain "int" none with kind := .primitive 'I', accessFlags := 0x411 }
/-- [I -/
def k14 : Class := { plain "[I" (some 0) with kind := .array 13 .int, interfaces := #[10, 4], accessFlags := 1041 }

def heap : Heap := #[{ cls := 6, slots := #[.ref 9, .ref 10, .ref 11, .ref 12, .ref 13, .ref 14, .null], vm := .statics 6 },
  { cls := 12, slots := #[.int 65, .int 65, .int 65, .int 65, .int 65], vm := .none },
  { cls := 12, slots := #[.int 65, .int 65, .int 65, .int 65, .int 65, .int 65], vm := .none },
  { cls := 12, slots := #[.int 65, .int 65, .int 65, .int 65], vm := .none },
  { cls := 12, slots := #[.int 65, .int 65, .int 65, .int 65, .int 65], vm := .none },
  { cls := 9, slots := #[.ref 1, .int 0, .int 0, .int 0], vm := .none },
  { cls := 9, slots := #[.ref 2, .int 0, .int 0, .int 0], vm := .none },
  { cls := 9, slots := #[.ref 3, .int 0, .int 0, .int 0], vm := .none },
  { cls := 9, slots := #[.ref 4, .int 0, .int 0, .int 0], vm := .none },
  { cls := 6, slots := #[.null, .int 0, .int 0, .null, .ref 5], vm := .none },
  { cls := 6, slots := #[.null, .int 1, .int 0, .null, .ref 6], vm := .none },
  { cls := 6, slots := #[.null, .int 2, .int 0, .null, .ref 7], vm := .none },
  { cls := 6, slots := #[.null, .int 3, .int 0, .null, .ref 8], vm := .none },
  { cls := 6, slots := #[.null, .int 4, .int 0, .null, .null], vm := .none },
  { cls := 6, slots := #[.null, .int 5, .int 0, .null, .null], vm := .none }]
def classes : Array Class := #[k0, k1, k2, k3, k4, k5, k6, k7, k8, k9, k10, k11, k12, k13, k14]
def interned : List (Array UInt16 × Addr) := []
def slotsUsed : Nat := 73
def theMethod : MethodId := ⟨1, 1⟩
def args0 : Array Value := #[.int 5]
def aboutOver (below : List Frame) : State where
  vm := { classes := classes, interned := interned.toArray }
  heap := heap
  slotsUsed := slotsUsed
  threads := #[{ frames := .invoking theMethod args0 :: below }]
def below0 : List Frame := [.native { method := ⟨0, 0⟩, args := #[] }]
def about1 : State := aboutOver below0
def p0 : Program := .bare "" "" ""
def e0 : Env := launch0.env 0 0 0
theorem w_frames : about1.frames = Frame.invoking theMethod args0 :: below0 := rfl
set_option maxRecDepth 65536 in
theorem w_args : argsFit about1.vm theMethod args0 = true := by decide +kernel
set_option maxRecDepth 65536 in
theorem w_heap : heapFits about1 = true := by decide +kernel
set_option maxRecDepth 65536 in
theorem w_runnable : about1.curStatus? = some .runnable := by decide +kernel
set_option maxRecDepth 65536 in
theorem w_alone : about1.alone = true := by decide +kernel
set_option maxRecDepth 65536 in
theorem w_named : about1.methodNamed? x = some theMethod := by decide +kernel
set_option maxRecDepth 65536 in
theorem w_hears : about1.hears theMethod below0 = true := by decide +kernel
set_option maxRecDepth 65536 in
theorem w_ripe : about1.ripe theMethod args0 below0 = true := by decide +kernel
theorem w_running : about1.status = .running := rfl
set_option maxRecDepth 65536 in
theorem w_room : about1.hasRoom e0.platform room_1 = true :=
  launch0.hasRoom_least _ room_1 (by decide +kernel) (by decide +kernel) (by decide +kernel) (by decide +kernel) (by decide +kernel) (by decide +kernel)
theorem allAtoms_all (ts : List Jvm.Cond) (a : Array Jvm.Value) (st : Jvm.State) : (allAtoms ts).before a st = ts.all (fun c => c.before a st) := by
  induction ts with
  | nil => rfl
  | cons c t ih =>
    show (Jvm.Cond.and c (allAtoms t)).before a st = _
    rw [Jvm.Cond.before_and, ih, List.all_cons]
def words1 : List Jvm.Cond := Jvm.Cond.code x code maxLocals ret :: tables_1
/-- a 'code' word, met by the world's own term for the bytes: nothing is compared byte by byte -/
theorem code_word {y : MethodName} {bytes : ByteArray} {mx : Nat} {rt : Option FieldType} {a : Array Value} {s : State} {m : MethodId} {meth : Method} {c : Code} (h1 : s.methodNamed? y = some m) (h2 : s.vm.method? m = some meth) (h3 : meth.code = some c) (h4 : c.code = bytes)
    (h5 : (c.maxLocals == mx && c.exceptionTable.isEmpty && decide (c.maxStack ≤ mostOperands) && decide (meth.sig.returnType = rt) && !meth.locks && decide (parseMethodDescriptor y.desc = some meth.sig)) = true) : (Jvm.Cond.code y bytes mx rt).before a s = true := by
  simp only [Bool.and_eq_true, beq_iff_eq, Bool.not_eq_true', decide_eq_true_eq] at h5
  obtain ⟨⟨⟨⟨⟨g1, g2⟩, g3⟩, g4⟩, g5⟩, g6⟩ := h5
  simp [Cond.before, Cond.holds, Cond.value, h1, h2, h3, h4, g1, g2, g3, g4, g5, g6]
def isCode : Jvm.Cond → Bool
  | .code _ _ _ _ => true
  | _ => false
theorem all_split {L : List Jvm.Cond} {P : Jvm.Cond → Bool} (h1 : L.all (fun c => isCode c || P c) = true) (h2 : ∀ c ∈ L.filter isCode, P c = true) : L.all P = true := by
  refine List.all_eq_true.mpr fun c hc => ?_
  have h := List.all_eq_true.mp h1 c hc
  rcases Bool.eq_false_or_eq_true (isCode c) with hi | hi
  · exact h2 c (List.mem_filter.mpr ⟨hc, hi⟩)
  · simpa [hi] using h
set_option maxRecDepth 65536 in
theorem w_c0 : (Jvm.Cond.code x code maxLocals ret).before args0 about1 = true := code_word (m := ⟨1, 1⟩) (meth := k1m1) (c := k1c1) (by decide +kernel) rfl rfl rfl (by decide +kernel)
set_option maxRecDepth 65536 in
theorem w_c1 : (Jvm.Cond.code ({ cls := "com/example/convey/convey/model/MailboxRoleMadeWithAccountPinLaw", name := "pick", desc := "(I)Lcom/example/convey/convey/model/MailboxRole;" } : Jvm.MethodName) method_3_code (1 : Nat) (Option.some (Jvm.ClassFile.FieldType.object "com/example/convey/convey/model/MailboxRole"))).before args0 about1 = true := code_word (m := ⟨1, 2⟩) (meth := k1m2) (c := k1c2) (by decide +kernel) rfl rfl rfl (by decide +kernel)
set_option maxRecDepth 65536 in
theorem w_c2 : (Jvm.Cond.code ({ cls := "com/example/convey/convey/model/MailboxRole", name := "madeWithAccount", desc := "()Z" } : Jvm.MethodName) prog_72_method_5_code (1 : Nat) (Option.some Jvm.ClassFile.FieldType.boolean)).before args0 about1 = true := code_word (m := ⟨6, 0⟩) (meth := k6m0) (c := k6c0) (by decide +kernel) rfl rfl rfl (by decide +kernel)
set_option maxRecDepth 65536 in
theorem w_c3 : (Jvm.Cond.code ({ cls := "com/example/convey/convey/model/MailboxRole", name := "defaultMailboxName", desc := "()Ljava/lang/String;" } : Jvm.MethodName) prog_72_method_6_code (1 : Nat) (Option.some (Jvm.ClassFile.FieldType.object "java/lang/String"))).before args0 about1 = true := code_word (m := ⟨6, 1⟩) (meth := k6m1) (c := k6c1) (by decide +kernel) rfl rfl rfl (by decide +kernel)
set_option maxRecDepth 65536 in
theorem w_c4 : (Jvm.Cond.code ({ cls := "java/lang/String", name := "isEmpty", desc := "()Z" } : Jvm.MethodName) jdk_42_method_55_code (1 : Nat) (Option.some Jvm.ClassFile.FieldType.boolean)).before args0 about1 = true := code_word (m := ⟨9, 1⟩) (meth := k9m1) (c := k9c1) (by decide +kernel) rfl rfl rfl (by decide +kernel)
def codes1 : List Jvm.Cond := [Jvm.Cond.code x code maxLocals ret, Jvm.Cond.code ({ cls := "com/example/convey/convey/model/MailboxRoleMadeWithAccountPinLaw", name := "pick", desc := "(I)Lcom/example/convey/convey/model/MailboxRole;" } : Jvm.MethodName) method_3_code (1 : Nat) (Option.some (Jvm.ClassFile.FieldType.object "com/example/convey/convey/model/MailboxRole")), Jvm.Cond.code ({ cls := "com/example/convey/convey/model/MailboxRole", name := "madeWithAccount", desc := "()Z" } : Jvm.MethodName) prog_72_method_5_code (1 : Nat) (Option.some Jvm.ClassFile.FieldType.boolean), Jvm.Cond.code ({ cls := "com/example/convey/convey/model/MailboxRole", name := "defaultMailboxName", desc := "()Ljava/lang/String;" } : Jvm.MethodName) prog_72_method_6_code (1 : Nat) (Option.some (Jvm.ClassFile.FieldType.object "java/lang/String")), Jvm.Cond.code ({ cls := "java/lang/String", name := "isEmpty", desc := "()Z" } : Jvm.MethodName) jdk_42_method_55_code (1 : Nat) (Option.some Jvm.ClassFile.FieldType.boolean)]
set_option maxRecDepth 65536 in
theorem codes_eq : words1.filter isCode = codes1 := rfl
theorem w_codes : ∀ c ∈ words1.filter isCode, c.before args0 about1 = true := by
  rw [codes_eq]
  intro c hc
  simp only [codes1, List.mem_cons, List.not_mem_nil, or_false] at hc
  rcases hc with rfl | rfl | rfl | rfl | rfl
  · exact w_c0
  · exact w_c1
  · exact w_c2
  · exact w_c3
  · exact w_c4
set_option maxRecDepth 65536 in
theorem w_t1 : (words1.take 24).all (fun c => isCode c || c.before args0 about1) = true := by decide +kernel
set_option maxRecDepth 65536 in
theorem w_t2 : (words1.drop 24).all (fun c => isCode c || c.before args0 about1) = true := by decide +kernel
theorem w_tables : (allAtoms (Jvm.Cond.code x code maxLocals ret :: tables_1)).before args0 about1 = true := by
  rw [allAtoms_all]
  show words1.all (fun c => c.before args0 about1) = true
  refine all_split ?_ w_codes
  rw [← List.take_append_drop 24 words1, List.all_append, w_t1, w_t2]
  rfl
set_option maxRecDepth 65536 in
theorem w_case : (Jvm.Cond.and given_1 narrow_1).before args0 about1 = true := by decide +kernel
theorem w_applies : (headSpec (Jvm.Cond.code x code maxLocals ret :: tables_1) room_1).applies x e0.platform about1 = true :=
  (Spec.applies_iff w_frames).mpr ⟨w_running, w_runnable, w_alone, w_named, w_hears, w_ripe, w_room, w_tables⟩
theorem atStart : AtStart classFile x code maxLocals ret World_1 tables_1 room_1 Calls_1 rest_1 Pre_1 launch0 p0 e0 about1 theMethod args0 below0 :=
  ⟨lists_1, trivial, launch0.admits_env _ _ _, launch0.least_env, fairChoices_fair.cas, fairChoices_fair.clock, w_frames, w_args, w_heap, w_applies, trivial, trivial, w_case⟩
end start1
theorem witness_1 : WitnessClaimed_1 := ⟨start1.p0, start1.e0, start1.about1, start1.theMethod, start1.args0, start1.below0, start1.atStart⟩
end Jvm.Pilot.@@N@@
