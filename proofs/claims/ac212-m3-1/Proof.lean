import JvmDerived
import JvmDerived.Pilot.@@N@@Statement
import JvmDerived.Pilot.@@N@@Code
set_option linter.unusedVariables false
set_option linter.unusedSimpArgs false
@@BLOCK:NumsL.lean.txt@@
namespace Jvm.RoadKit
open Sem ClassFile Op Lib Jvm.Stand Jvm.Free Jvm.LawKit
section New
variable {p : Program} {l : Launch} {e : Env} {R : Room} {s : State} {m : MethodId} {args : Array Value} {below : List Frame} {meth : Method} {c : Code} {T : State} {locs : List Loc} {cells slots : Nat}
theorem retI (X : Stand p l e R s m args below meth c T locs cells slots) (hx : p.tables.exec = Jvm.exec) {pc : Nat} {Ls : Array Slot} {z : Int32} {rest : List Value} (hret : meth.sig.returnType = some .int) (hd : decode c.code pc = .ok (.ireturn, 1)) {fs : List Frame}
    (hl : ∀ (f : JFrame) (acts : List Action), f.method = m → f.locked = none → f.entered = [] → (doReturn e (T.setTop f) acts (some (.int z))).1 = T.setFrames fs) : Steps p.tables e below (T.setTop (mkF m pc Ls (.int z :: rest))) (T.setFrames fs) := by
  have hm' : T.vm.method? m = some meth := X.method'
  have hn : narrow .int (.int z) = .int z := rfl
  show Steps p.tables e below (T.setTop { method := m, pc := pc, locals := Ls, stack := _ :: rest, locked := none }) _
  jvm_step X.here [X.here.top, hx, hd, hm', hret, hn]
  first | (intro acts; rw [hl _ acts rfl rfl rfl]) | rw [hl _ _ rfl rfl rfl]
  exact Steps.refl _
end New
end Jvm.RoadKit
namespace Jvm.Pilot.@@N@@
open Jvm Jvm.ClassFile Sem Op Lib Jvm.Free Jvm.Stand Jvm.LawKit Jvm.RoadKit Bundle Jvm.Pilot.@@N@@.Jvm.D
theorem own_fi {args : Array Value} {s : State} {t : Term} {C n d : String} {k : Int32} {x : Addr} (ht : t.eval args s none [] s = some (.ref x)) (h : (Jvm.Cond.eq (Term.field t C n d) (Term.int k)).value args s none s [] = some true) : Fld s s.heap x C n d (.int k) := by
  obtain ⟨a, b, ha, hb, hk, -⟩ := cmp_v (Or.inl h)
  have hb' : b = .int k := Option.some.inj (hb.symm.trans rfl)
  subst hb'
  cases a <;> simp [Kin, Value.isRef] at hk
  rename_i z
  have hz : z = k := by simpa [Jvm.Cond.value, ha, hb] using h
  subst hz
  exact Fld.start ((fld_at ht).symm.trans ha)
theorem own_fn {args : Array Value} {s : State} {t : Term} {C n d : String} {x : Addr} (ht : t.eval args s none [] s = some (.ref x)) (h : (Jvm.Cond.eq (Term.field t C n d) Term.null).value args s none s [] = some true) : Fld s s.heap x C n d .null := Fld.start ((fld_at ht).symm.trans (null_v h))
theorem own_fx {args : Array Value} {s : State} {t : Term} {C n d K : String} {x : Addr} (ht : t.eval args s none [] s = some (.ref x)) (h : (Jvm.Cond.exactly (Term.field t C n d) K).value args s none s [] = some true) : ∃ y, (Term.field t C n d).eval args s none [] s = some (.ref y) ∧ Fld s s.heap x C n d (.ref y) ∧ Exa s s.heap y K := by
  obtain ⟨y, hy⟩ := exa_v h
  exact ⟨y, hy, Fld.start ((fld_at ht).symm.trans hy), Exa.start hy h⟩
theorem own_sx {args : Array Value} {s : State} {C n d K : String} (hi : (Jvm.Cond.initialized C).before args s = true) (hl : (Jvm.Cond.laysStatic C n d).before args s = true) (h : (Jvm.Cond.exactly (Term.static C n d) K).value args s none s [] = some true) : ∃ x, (Term.static C n d).eval args s none [] s = some (.ref x) ∧ Sta s s.heap C n d (.ref x) ∧ Exa s s.heap x K := by
  obtain ⟨y, hy⟩ := exa_v h
  exact ⟨y, hy, Sta.start hy (Or.inr ⟨hi, hl⟩), Exa.start hy h⟩
theorem own_and31 (x : Int32) : (x &&& 2147483647).toInt = x.toInt % 2 ^ 31 := Jvm.Kit.i32_mask x 2147483647 (k := 31) (by decide) (by decide)
theorem own_pos31 (x : Int32) : 0 ≤ (x &&& 2147483647).toInt := by rw [own_and31]; omega
theorem own_rem (x m : Int32) (hm : 0 < m.toInt) : 0 ≤ ((x &&& 2147483647) % m).toInt ∧ ((x &&& 2147483647) % m).toInt < m.toInt := by
  have h1 := own_pos31 x
  rw [Int32.toInt_mod]
  have h2 : ((x &&& 2147483647).toInt).tmod m.toInt = (x &&& 2147483647).toInt % m.toInt := Int.tmod_eq_emod_of_nonneg h1
  have h3 := Int.emod_nonneg (x &&& 2147483647).toInt (show m.toInt ≠ 0 by omega)
  have h4 := Int.emod_lt_of_pos (x &&& 2147483647).toInt hm
  omega
theorem own_selp {s : State} {args : Array Value} {y : MethodName} {n : Nat} (hy : y.cls ≠ "java/lang/invoke/MethodHandle" ∧ y.cls ≠ "java/lang/invoke/VarHandle") (hins : (Jvm.Cond.instantiable y.cls n).before args s = true) (hpriv : (Jvm.Cond.privateMethod y).before args s = true) (hinst : (Jvm.Cond.instanceMethod y).before args s = true) : (Jvm.Cond.selects y.cls y y).before args s = true := by
  obtain ⟨c, k, hc, hk, -, hniab, -, -⟩ := Cond.instantiable_spec hins
  have hni : k.isInterface = false := (Bool.or_eq_false_iff.mp hniab).1
  obtain ⟨mk, methM, hnamed, hmethM, -, -⟩ := Cond.instanceMethod_spec hinst
  have hfound : s.methodFound? y.cls y.name y.desc = some mk := State.methodFound?_of_named hnamed hy
  have hcls : mk.cls = c := Option.some.inj ((findClass_of_methodNamed hnamed).symm.trans hc)
  have hsel : selectMethod {} s.vm c mk = .method mk := selectMethod_private hmethM (Cond.privateMethod_at hpriv mk methM hnamed hmethM)
  simp only [Cond.before, Cond.holds, Cond.value, hc, hfound, hnamed, hsel, hcls, hk]
  simp; exact hni
theorem own_hp {T : State} {h : Heap} {a : Addr} {c : Cell} (e : T.heap = h) (q : h[a]? = some c) : T.heap[a]? = some c := e ▸ q
theorem own_of_toInt {x : Int32} {n : Int} (h : x.toInt = n) : x = Int32.ofInt n := by rw [← h, Int32.ofInt_toInt]
theorem own_sa : ∀ d ∈ Bundle.stringAtoms, d ∈ tables_1 := by
  intro d hd
  simp only [Bundle.stringAtoms, List.mem_cons, List.not_mem_nil, or_false] at hd
  rcases hd with rfl | rfl | rfl | rfl | rfl | rfl | rfl <;> first | exact List.mem_of_getElem? (i := 8) rfl | exact List.mem_of_getElem? (i := 9) rfl | exact List.mem_of_getElem? (i := 10) rfl | exact List.mem_of_getElem? (i := 11) rfl | exact List.mem_of_getElem? (i := 12) rfl | exact List.mem_of_getElem? (i := 13) rfl | exact List.mem_of_getElem? (i := 14) rfl
theorem own_cs {args : Array Value} {s : State} (h0 : (Jvm.Cond.initializedFor "java/lang/String" "COMPACT_STRINGS" "Z").before args s = true) (h1 : (Jvm.Cond.isInt (Term.static "java/lang/String" "COMPACT_STRINGS" "Z")).before args s = true) (h2 : (Jvm.Cond.not (Jvm.Cond.eq (Term.static "java/lang/String" "COMPACT_STRINGS" "Z") (Term.int 0))).before args s = true) : ∃ cs : Int32, Sta s s.heap "java/lang/String" "COMPACT_STRINGS" "Z" (.int cs) ∧ ¬ cs = 0 := by
  obtain ⟨cs, e⟩ := is_v (Cond.before_iff.mp h1)
  have h3 := not_v (Cond.before_iff.mp h2)
  refine ⟨cs, Sta.start e (Or.inl h0), fun q => ?_⟩
  subst q
  have e2 : (Term.int 0).eval args s none [] s = some (.int 0) := rfl
  simp [Jvm.Cond.value, e, e2] at h3
theorem own_narO {C : String} {v : Value} (h : v.isRef = true) : narrow (.object C) v = v := by rcases ref_cases h with rfl | ⟨_, rfl⟩ <;> rfl
theorem own_fitO {C : String} {v : Value} (h : v.isRef = true) : fits (.object C) v = true := by rcases ref_cases h with rfl | ⟨_, rfl⟩ <;> rfl
def own_ix (b : Int32) : Int32 := if (40 : Int32) = b then 0 else if (41 : Int32) = b then 1 else if (91 : Int32) = b then 2 else if (93 : Int32) = b then 3 else if (123 : Int32) = b then 4 else if (125 : Int32) = b then 5 else if (44 : Int32) = b then 6 else -1
def own_io (c : Int32) : Int32 := if c < 0 then -1 else if 255 < c then -1 else own_ix c.toInt8.toInt32
def own_is (c : Int32) : Int32 := if own_io c < 0 then 0 else 1
def own_ex (c : Int32) : Int32 := if c = (40 : Int32) then 1 else if c = (41 : Int32) then 1 else if c = (91 : Int32) then 1 else if c = (93 : Int32) then 1 else if c = (123 : Int32) then 1 else if c = (125 : Int32) then 1 else if c = (44 : Int32) then 1 else 0
theorem own_chr (x : Int32) : 0 ≤ (x.toUInt32.toUInt16.toUInt32.toInt32).toInt ∧ (x.toUInt32.toUInt16.toUInt32.toInt32).toInt < 65536 := by
  have e3 : (x.toUInt32.toUInt16.toUInt32.toInt32).toInt = ((x.toBitVec.setWidth 16).setWidth 32).toInt := rfl
  rw [e3, BitVec.toInt_eq_toNat_cond]
  simp only [BitVec.toNat_setWidth]
  have := Nat.mod_lt x.toBitVec.toNat (show 0 < 2 ^ 16 by decide)
  split <;> omega
theorem own_b {c : Int32} (h0 : ¬ c < 0) (h1 : ¬ 255 < c) (k : Int32) (hk : 0 ≤ k.toInt ∧ k.toInt < 128) : k = c.toInt8.toInt32 ↔ c = k := by
  rw [Int32.lt_iff_toInt_lt] at h0 h1
  have z0 : (0 : Int32).toInt = 0 := rfl
  have z1 : (255 : Int32).toInt = 255 := rfl
  have e : (c.toInt8.toInt32).toInt = c.toInt.bmod 256 := by rw [Int8.toInt_toInt32]; exact Int32.toInt_toInt8 c
  constructor
  · intro q
    apply Int32.toInt_inj.mp
    have q2 := congrArg Int32.toInt q
    rw [e] at q2
    by_cases hb : c.toInt < 128
    · rw [Int.bmod_eq_of_le (by omega) (by omega)] at q2; exact q2.symm
    · exfalso
      have : c.toInt.bmod 256 = c.toInt - 256 := by
        unfold Int.bmod; dsimp only
        have : c.toInt % ((256 : Nat) : Int) = c.toInt := by omega
        rw [this]; split <;> omega
      omega
  · intro q
    apply Int32.toInt_inj.mp
    rw [e, q, Int.bmod_eq_of_le (by omega) (by omega)]
theorem own_core {c : Int32} (h : 0 ≤ c.toInt ∧ c.toInt < 65536) : own_is c = own_ex c := by
  have h0 : ¬ c < 0 := by rw [Int32.lt_iff_toInt_lt]; have : (0 : Int32).toInt = 0 := rfl; omega
  unfold own_is own_io
  rw [if_neg h0]
  by_cases h1 : 255 < c
  · rw [if_pos h1, if_pos (by decide)]
    have z1 : (255 : Int32).toInt = 255 := rfl
    rw [Int32.lt_iff_toInt_lt] at h1
    have ne : ∀ k : Int32, k.toInt < 128 → ¬ c = k := fun k hk q => by rw [q] at h1; omega
    unfold own_ex
    rw [if_neg (ne 40 (by decide)), if_neg (ne 41 (by decide)), if_neg (ne 91 (by decide)), if_neg (ne 93 (by decide)), if_neg (ne 123 (by decide)), if_neg (ne 125 (by decide)), if_neg (ne 44 (by decide))]
  · rw [if_neg h1]
    unfold own_ix own_ex
    by_cases d0 : c = 40
    · subst d0; decide
    by_cases d1 : c = 41
    · subst d1; decide
    by_cases d2 : c = 91
    · subst d2; decide
    by_cases d3 : c = 93
    · subst d3; decide
    by_cases d4 : c = 123
    · subst d4; decide
    by_cases d5 : c = 125
    · subst d5; decide
    by_cases d6 : c = 44
    · subst d6; decide
    rw [if_neg (fun q => d0 ((own_b h0 h1 40 (by decide)).mp q)), if_neg (fun q => d1 ((own_b h0 h1 41 (by decide)).mp q)), if_neg (fun q => d2 ((own_b h0 h1 91 (by decide)).mp q)), if_neg (fun q => d3 ((own_b h0 h1 93 (by decide)).mp q)), if_neg (fun q => d4 ((own_b h0 h1 123 (by decide)).mp q)), if_neg (fun q => d5 ((own_b h0 h1 125 (by decide)).mp q)), if_neg (fun q => d6 ((own_b h0 h1 44 (by decide)).mp q)), if_neg d0, if_neg d1, if_neg d2, if_neg d3, if_neg d4, if_neg d5, if_neg d6]
    decide
theorem d9_0 : decode jdk_29_method_65_code 0 = .ok (.iload_n 0, 1) := by decide +kernel
theorem d9_1 : decode jdk_29_method_65_code 1 = .ok (.iload_n 1, 1) := by decide +kernel
theorem d9_2 : decode jdk_29_method_65_code 2 = .ok (.if_icmp .lt 7, 3) := by decide +kernel
theorem d9_5 : decode jdk_29_method_65_code 5 = .ok (.iload_n 0, 1) := by decide +kernel
theorem d9_6 : decode jdk_29_method_65_code 6 = .ok (.goto 4, 3) := by decide +kernel
theorem d9_9 : decode jdk_29_method_65_code 9 = .ok (.iload_n 1, 1) := by decide +kernel
theorem d9_10 : decode jdk_29_method_65_code 10 = .ok (.ireturn, 1) := by decide +kernel
theorem ef_rmMx (m : MethodId)  : entryFrame m #[(.int (0 : Int32)), (.int (0 : Int32))] 2 = mkF m 0 #[.val (.int (0 : Int32)), .val (.int (0 : Int32))] [] := by first | (simp [entryFrame, mkF, argsToLocals, Value.category]; done) | rfl
def QMx (Z : State)  (h0 : Heap) (n0 : Nat) (v : Option Value) (h : Heap) (L : List Loc) : Prop := v = some (.int 0) ∧ Fr n0 L ∧ h = h0
set_option maxRecDepth 65536 in
set_option maxHeartbeats 40000000 in
theorem rmMx (l : Launch) (Z : State) (a0 : Array Value) (hw : ∀ d ∈ tables_1, d.before a0 Z = true) (ws : List Jvm.Cond)  (h0 : Heap) (n0 : Nat) (Z0 : n0 ≤ h0.size) :
    MetFree l (⟨"java/lang/Math", "max", "(II)I"⟩ : MethodName) (head1 (Jvm.Cond.code (⟨"java/lang/Math", "max", "(II)I"⟩ : MethodName) jdk_29_method_65_code 2 (some .int) :: ws) ({ frames := 0, cells := 0, slots := 0, locals := 0 } : Room)) (fun a U => a = #[(.int (0 : Int32)), (.int (0 : Int32))] ∧ Z.Warmed39 U.vm ∧ U.heap = h0) (fun _ _ _ _ _ => True) (fun _ U o U' => ∃ v L, o = .returned v ∧ QMx Z  h0 n0 v U'.heap L ∧ FrameEnd U o U' L ({ frames := 0, cells := 0, slots := 0, locals := 0 } : Room).cells ({ frames := 0, cells := 0, slots := 0, locals := 0 } : Room).slots) := by
  refine MetFree.of_bodySF (Jvm.Free.JP.mathPlain rfl (by decide +kernel)) hisR ?_
  intro p e s m args below meth c s₁ Bd hml0 hP hK
  obtain ⟨rfl, hZ, hh⟩ := hP
  have hx := Bd.exec
  have hby := Bd.bytes
  have hml : c.maxLocals = 2 := hml0
  have hown : s.vm.findClass "java/lang/Math" = some m.cls := findClass_of_methodNamed Bd.named
  have hnm := (name_of_methodNamed Bd.named Bd.method).1
  have X0 : Stand p l e ({ frames := 0, cells := 0, slots := 0, locals := 0 } : Room) s m #[(.int (0 : Int32)), (.int (0 : Int32))] below meth c s₁ [] 0 0 := Stand.of_body Bd
  have e0 : s₁.heap = h0 := by rw [← hh, Bd.state]; rfl
  have N0 := Fr.nil n0
  have K0 := Keep.refl h0 []
  have go0 : Goes p e below s₁ (entryFrame m #[(.int (0 : Int32)), (.int (0 : Int32))] 2) s₁ (mkF m 0 #[.val (.int (0 : Int32)), .val (.int (0 : Int32))] []) := fun t k => castTop (ef_rmMx m ) k
  have go1 : Goes p e below s₁ (entryFrame m #[(.int (0 : Int32)), (.int (0 : Int32))] 2) s₁ (mkF m 2 #[.val (.int (0 : Int32)), .val (.int (0 : Int32))] [(.int (0 : Int32)), (.int (0 : Int32))]) := fun t k => by
    refine go0 t ?_
    refine XS.iloadN X0.here hx rfl (hb hby d9_0) rfl ?_
    show Steps p.tables e below (s₁.setTop (mkF m 1 #[.val (.int (0 : Int32)), .val (.int (0 : Int32))] [(.int (0 : Int32))])) _
    refine XS.iloadN X0.here hx rfl (hb hby d9_1) rfl ?_
    show Steps p.tables e below (s₁.setTop (mkF m 2 #[.val (.int (0 : Int32)), .val (.int (0 : Int32))] [(.int (0 : Int32)), (.int (0 : Int32))])) _
    exact k
  have go2 : Goes p e below s₁ (entryFrame m #[(.int (0 : Int32)), (.int (0 : Int32))] 2) s₁ (mkF m 10 #[.val (.int (0 : Int32)), .val (.int (0 : Int32))] [(.int (0 : Int32))]) := fun t k => by
    refine go1 t ?_
    refine XS.icmpNo X0.here hx rfl (hb hby d9_2) rfl (Jvm.Free.XT.ii_lt_f (by decide)) ?_
    show Steps p.tables e below (s₁.setTop (mkF m 5 #[.val (.int (0 : Int32)), .val (.int (0 : Int32))] [])) _
    refine XS.iloadN X0.here hx rfl (hb hby d9_5) rfl ?_
    show Steps p.tables e below (s₁.setTop (mkF m 6 #[.val (.int (0 : Int32)), .val (.int (0 : Int32))] [(.int (0 : Int32))])) _
    refine XS.goto X0.here hx rfl (pc0 := 6) (pc' := 10) rfl (hb hby d9_6) (by decide) (by decide) ?_
    show Steps p.tables e below (s₁.setTop (mkF m 10 #[.val (.int (0 : Int32)), .val (.int (0 : Int32))] [(.int (0 : Int32))])) _
    exact k
  obtain ⟨fs, hr, hrun, hended, hW, hsame⟩ := X0.leave (v := some (.int (0 : Int32))) (fun h => by rw [Bd.returns] at h; cases h)
  refine ⟨_, _, go2 _ ?_, hrun, hended, _, _, rfl, ?_, ⟨_, rfl⟩, hW, hsame.mono (by decide) (by decide)⟩
  · exact retI X0 hx Bd.returns (hb hby d9_10) hr
  · show QMx Z _ _ _ s₁.heap _
    rw [e0]
    exact ⟨rfl, N0, rfl⟩
theorem d10_0 : decode jdk_29_method_69_code 0 = .ok (.iload_n 0, 1) := by decide +kernel
theorem d10_1 : decode jdk_29_method_69_code 1 = .ok (.iload_n 1, 1) := by decide +kernel
theorem d10_2 : decode jdk_29_method_69_code 2 = .ok (.if_icmp .gt 7, 3) := by decide +kernel
theorem d10_5 : decode jdk_29_method_69_code 5 = .ok (.iload_n 0, 1) := by decide +kernel
theorem d10_6 : decode jdk_29_method_69_code 6 = .ok (.goto 4, 3) := by decide +kernel
theorem d10_9 : decode jdk_29_method_69_code 9 = .ok (.iload_n 1, 1) := by decide +kernel
theorem d10_10 : decode jdk_29_method_69_code 10 = .ok (.ireturn, 1) := by decide +kernel
theorem ef_rmMi (m : MethodId)  : entryFrame m #[(.int (7 : Int32)), (.int (7 : Int32))] 2 = mkF m 0 #[.val (.int (7 : Int32)), .val (.int (7 : Int32))] [] := by first | (simp [entryFrame, mkF, argsToLocals, Value.category]; done) | rfl
def QMi (Z : State)  (h0 : Heap) (n0 : Nat) (v : Option Value) (h : Heap) (L : List Loc) : Prop := v = some (.int 7) ∧ Fr n0 L ∧ h = h0
set_option maxRecDepth 65536 in
set_option maxHeartbeats 40000000 in
theorem rmMi (l : Launch) (Z : State) (a0 : Array Value) (hw : ∀ d ∈ tables_1, d.before a0 Z = true) (ws : List Jvm.Cond)  (h0 : Heap) (n0 : Nat) (Z0 : n0 ≤ h0.size) :
    MetFree l (⟨"java/lang/Math", "min", "(II)I"⟩ : MethodName) (head1 (Jvm.Cond.code (⟨"java/lang/Math", "min", "(II)I"⟩ : MethodName) jdk_29_method_69_code 2 (some .int) :: ws) ({ frames := 0, cells := 0, slots := 0, locals := 0 } : Room)) (fun a U => a = #[(.int (7 : Int32)), (.int (7 : Int32))] ∧ Z.Warmed39 U.vm ∧ U.heap = h0) (fun _ _ _ _ _ => True) (fun _ U o U' => ∃ v L, o = .returned v ∧ QMi Z  h0 n0 v U'.heap L ∧ FrameEnd U o U' L ({ frames := 0, cells := 0, slots := 0, locals := 0 } : Room).cells ({ frames := 0, cells := 0, slots := 0, locals := 0 } : Room).slots) := by
  refine MetFree.of_bodySF (Jvm.Free.JP.mathPlain rfl (by decide +kernel)) hisR ?_
  intro p e s m args below meth c s₁ Bd hml0 hP hK
  obtain ⟨rfl, hZ, hh⟩ := hP
  have hx := Bd.exec
  have hby := Bd.bytes
  have hml : c.maxLocals = 2 := hml0
  have hown : s.vm.findClass "java/lang/Math" = some m.cls := findClass_of_methodNamed Bd.named
  have hnm := (name_of_methodNamed Bd.named Bd.method).1
  have X0 : Stand p l e ({ frames := 0, cells := 0, slots := 0, locals := 0 } : Room) s m #[(.int (7 : Int32)), (.int (7 : Int32))] below meth c s₁ [] 0 0 := Stand.of_body Bd
  have e0 : s₁.heap = h0 := by rw [← hh, Bd.state]; rfl
  have N0 := Fr.nil n0
  have K0 := Keep.refl h0 []
  have go0 : Goes p e below s₁ (entryFrame m #[(.int (7 : Int32)), (.int (7 : Int32))] 2) s₁ (mkF m 0 #[.val (.int (7 : Int32)), .val (.int (7 : Int32))] []) := fun t k => castTop (ef_rmMi m ) k
  have go1 : Goes p e below s₁ (entryFrame m #[(.int (7 : Int32)), (.int (7 : Int32))] 2) s₁ (mkF m 2 #[.val (.int (7 : Int32)), .val (.int (7 : Int32))] [(.int (7 : Int32)), (.int (7 : Int32))]) := fun t k => by
    refine go0 t ?_
    refine XS.iloadN X0.here hx rfl (hb hby d10_0) rfl ?_
    show Steps p.tables e below (s₁.setTop (mkF m 1 #[.val (.int (7 : Int32)), .val (.int (7 : Int32))] [(.int (7 : Int32))])) _
    refine XS.iloadN X0.here hx rfl (hb hby d10_1) rfl ?_
    show Steps p.tables e below (s₁.setTop (mkF m 2 #[.val (.int (7 : Int32)), .val (.int (7 : Int32))] [(.int (7 : Int32)), (.int (7 : Int32))])) _
    exact k
  have go2 : Goes p e below s₁ (entryFrame m #[(.int (7 : Int32)), (.int (7 : Int32))] 2) s₁ (mkF m 10 #[.val (.int (7 : Int32)), .val (.int (7 : Int32))] [(.int (7 : Int32))]) := fun t k => by
    refine go1 t ?_
    refine XS.icmpNo X0.here hx rfl (hb hby d10_2) rfl (Jvm.Free.XT.ii_gt_f (by decide)) ?_
    show Steps p.tables e below (s₁.setTop (mkF m 5 #[.val (.int (7 : Int32)), .val (.int (7 : Int32))] [])) _
    refine XS.iloadN X0.here hx rfl (hb hby d10_5) rfl ?_
    show Steps p.tables e below (s₁.setTop (mkF m 6 #[.val (.int (7 : Int32)), .val (.int (7 : Int32))] [(.int (7 : Int32))])) _
    refine XS.goto X0.here hx rfl (pc0 := 6) (pc' := 10) rfl (hb hby d10_6) (by decide) (by decide) ?_
    show Steps p.tables e below (s₁.setTop (mkF m 10 #[.val (.int (7 : Int32)), .val (.int (7 : Int32))] [(.int (7 : Int32))])) _
    exact k
  obtain ⟨fs, hr, hrun, hended, hW, hsame⟩ := X0.leave (v := some (.int (7 : Int32))) (fun h => by rw [Bd.returns] at h; cases h)
  refine ⟨_, _, go2 _ ?_, hrun, hended, _, _, rfl, ?_, ⟨_, rfl⟩, hW, hsame.mono (by decide) (by decide)⟩
  · exact retI X0 hx Bd.returns (hb hby d10_10) hr
  · show QMi Z _ _ _ s₁.heap _
    rw [e0]
    exact ⟨rfl, N0, rfl⟩
theorem d8_0 : decode jdk_43_method_4_code 0 = .ok (.iload_n 0, 1) := by decide +kernel
theorem d8_1 : decode jdk_43_method_4_code 1 = .ok (.ifCond .lt 14, 3) := by decide +kernel
theorem d8_4 : decode jdk_43_method_4_code 4 = .ok (.iload_n 0, 1) := by decide +kernel
theorem d8_5 : decode jdk_43_method_4_code 5 = .ok (.sipush 255, 3) := by decide +kernel
theorem d8_8 : decode jdk_43_method_4_code 8 = .ok (.if_icmp .gt 7, 3) := by decide +kernel
theorem d8_11 : decode jdk_43_method_4_code 11 = .ok (.iconst 1, 1) := by decide +kernel
theorem d8_12 : decode jdk_43_method_4_code 12 = .ok (.goto 4, 3) := by decide +kernel
theorem d8_15 : decode jdk_43_method_4_code 15 = .ok (.iconst 0, 1) := by decide +kernel
theorem d8_16 : decode jdk_43_method_4_code 16 = .ok (.ireturn, 1) := by decide +kernel
theorem pn_0 : plainName "java/lang/StringLatin1" = true := by first | (simp [plainName, overriddenIn]; done) | decide +kernel
theorem ef_rmCa (m : MethodId) (cc : Int32) : entryFrame m #[(.int cc)] 1 = mkF m 0 #[.val (.int cc)] [] := by first | (simp [entryFrame, mkF, argsToLocals, Value.category]; done) | rfl
def QCa (Z : State) (cc : Int32) (h0 : Heap) (n0 : Nat) (v : Option Value) (h : Heap) (L : List Loc) : Prop := v = some (.int (if cc < 0 then 0 else if 255 < cc then 0 else 1)) ∧ Fr n0 L ∧ h = h0
set_option maxRecDepth 65536 in
set_option maxHeartbeats 40000000 in
theorem rmCa (l : Launch) (Z : State) (a0 : Array Value) (hw : ∀ d ∈ tables_1, d.before a0 Z = true) (ws : List Jvm.Cond) (cc : Int32) (h0 : Heap) (n0 : Nat) (Z0 : n0 ≤ h0.size) :
    MetFree l (⟨"java/lang/StringLatin1", "canEncode", "(I)Z"⟩ : MethodName) (head1 (Jvm.Cond.code (⟨"java/lang/StringLatin1", "canEncode", "(I)Z"⟩ : MethodName) jdk_43_method_4_code 1 (some .boolean) :: ws) ({ frames := 0, cells := 0, slots := 0, locals := 0 } : Room)) (fun a U => a = #[(.int cc)] ∧ Z.Warmed39 U.vm ∧ U.heap = h0) (fun _ _ _ _ _ => True) (fun _ U o U' => ∃ v L, o = .returned v ∧ QCa Z cc h0 n0 v U'.heap L ∧ FrameEnd U o U' L ({ frames := 0, cells := 0, slots := 0, locals := 0 } : Room).cells ({ frames := 0, cells := 0, slots := 0, locals := 0 } : Room).slots) := by
  refine MetFree.of_bodySF (plainFor_of_name pn_0) hisR ?_
  intro p e s m args below meth c s₁ Bd hml0 hP hK
  obtain ⟨rfl, hZ, hh⟩ := hP
  have hx := Bd.exec
  have hby := Bd.bytes
  have hml : c.maxLocals = 1 := hml0
  have hown : s.vm.findClass "java/lang/StringLatin1" = some m.cls := findClass_of_methodNamed Bd.named
  have hnm := (name_of_methodNamed Bd.named Bd.method).1
  have X0 : Stand p l e ({ frames := 0, cells := 0, slots := 0, locals := 0 } : Room) s m #[(.int cc)] below meth c s₁ [] 0 0 := Stand.of_body Bd
  have e0 : s₁.heap = h0 := by rw [← hh, Bd.state]; rfl
  have N0 := Fr.nil n0
  have K0 := Keep.refl h0 []
  have go0 : Goes p e below s₁ (entryFrame m #[(.int cc)] 1) s₁ (mkF m 0 #[.val (.int cc)] []) := fun t k => castTop (ef_rmCa m cc) k
  have go1 : Goes p e below s₁ (entryFrame m #[(.int cc)] 1) s₁ (mkF m 1 #[.val (.int cc)] [(.int cc)]) := fun t k => by
    refine go0 t ?_
    refine XS.iloadN X0.here hx rfl (hb hby d8_0) rfl ?_
    show Steps p.tables e below (s₁.setTop (mkF m 1 #[.val (.int cc)] [(.int cc)])) _
    exact k
  by_cases hc2 : cc < (0 : Int32)
  · have go3 : Goes p e below s₁ (entryFrame m #[(.int cc)] 1) s₁ (mkF m 16 #[.val (.int cc)] [(.int (0 : Int32))]) := fun t k => by
      refine go1 t ?_
      refine XS.ifYes X0.here hx rfl (pc0 := 1) (pc' := 15) rfl (hb hby d8_1) rfl (Jvm.Free.XT.i0_lt_t hc2) (by decide) (by decide) ?_
      show Steps p.tables e below (s₁.setTop (mkF m 15 #[.val (.int cc)] [])) _
      refine XS.iconst X0.here hx rfl (hb hby d8_15) ?_
      show Steps p.tables e below (s₁.setTop (mkF m 16 #[.val (.int cc)] [(.int (0 : Int32))])) _
      exact k
    obtain ⟨fs, hr, hrun, hended, hW, hsame⟩ := X0.leave (v := some (.int (0 : Int32))) (fun h => by rw [Bd.returns] at h; cases h)
    refine ⟨_, _, go3 _ ?_, hrun, hended, _, _, rfl, ?_, ⟨_, rfl⟩, hW, hsame.mono (by decide) (by decide)⟩
    · exact retN X0 hx (t := .boolean) Bd.returns (by simp) (hb hby d8_16) hr
    · show QCa Z _ _ _ _ s₁.heap _
      rw [e0]
      exact ⟨by simp [hc2], N0, rfl⟩
  · have go4 : Goes p e below s₁ (entryFrame m #[(.int cc)] 1) s₁ (mkF m 8 #[.val (.int cc)] [(.int (255 : Int32)), (.int cc)]) := fun t k => by
      refine go1 t ?_
      refine XS.ifNo X0.here hx rfl (hb hby d8_1) rfl (Jvm.Free.XT.i0_lt_f hc2) ?_
      show Steps p.tables e below (s₁.setTop (mkF m 4 #[.val (.int cc)] [])) _
      refine XS.iloadN X0.here hx rfl (hb hby d8_4) rfl ?_
      show Steps p.tables e below (s₁.setTop (mkF m 5 #[.val (.int cc)] [(.int cc)])) _
      refine XS.sipush X0.here hx rfl (hb hby d8_5) ?_
      show Steps p.tables e below (s₁.setTop (mkF m 8 #[.val (.int cc)] [(.int (255 : Int32)), (.int cc)])) _
      exact k
    by_cases hc5 : (255 : Int32) < cc
    · have go6 : Goes p e below s₁ (entryFrame m #[(.int cc)] 1) s₁ (mkF m 16 #[.val (.int cc)] [(.int (0 : Int32))]) := fun t k => by
        refine go4 t ?_
        refine XS.icmpYes X0.here hx rfl (pc0 := 8) (pc' := 15) rfl (hb hby d8_8) rfl (Jvm.Free.XT.ii_gt_t hc5) (by decide) (by decide) ?_
        show Steps p.tables e below (s₁.setTop (mkF m 15 #[.val (.int cc)] [])) _
        refine XS.iconst X0.here hx rfl (hb hby d8_15) ?_
        show Steps p.tables e below (s₁.setTop (mkF m 16 #[.val (.int cc)] [(.int (0 : Int32))])) _
        exact k
      obtain ⟨fs, hr, hrun, hended, hW, hsame⟩ := X0.leave (v := some (.int (0 : Int32))) (fun h => by rw [Bd.returns] at h; cases h)
      refine ⟨_, _, go6 _ ?_, hrun, hended, _, _, rfl, ?_, ⟨_, rfl⟩, hW, hsame.mono (by decide) (by decide)⟩
      · exact retN X0 hx (t := .boolean) Bd.returns (by simp) (hb hby d8_16) hr
      · show QCa Z _ _ _ _ s₁.heap _
        rw [e0]
        exact ⟨by simp [hc2, hc5], N0, rfl⟩
    · have go7 : Goes p e below s₁ (entryFrame m #[(.int cc)] 1) s₁ (mkF m 16 #[.val (.int cc)] [(.int (1 : Int32))]) := fun t k => by
        refine go4 t ?_
        refine XS.icmpNo X0.here hx rfl (hb hby d8_8) rfl (Jvm.Free.XT.ii_gt_f hc5) ?_
        show Steps p.tables e below (s₁.setTop (mkF m 11 #[.val (.int cc)] [])) _
        refine XS.iconst X0.here hx rfl (hb hby d8_11) ?_
        show Steps p.tables e below (s₁.setTop (mkF m 12 #[.val (.int cc)] [(.int (1 : Int32))])) _
        refine XS.goto X0.here hx rfl (pc0 := 12) (pc' := 16) rfl (hb hby d8_12) (by decide) (by decide) ?_
        show Steps p.tables e below (s₁.setTop (mkF m 16 #[.val (.int cc)] [(.int (1 : Int32))])) _
        exact k
      obtain ⟨fs, hr, hrun, hended, hW, hsame⟩ := X0.leave (v := some (.int (1 : Int32))) (fun h => by rw [Bd.returns] at h; cases h)
      refine ⟨_, _, go7 _ ?_, hrun, hended, _, _, rfl, ?_, ⟨_, rfl⟩, hW, hsame.mono (by decide) (by decide)⟩
      · exact retN X0 hx (t := .boolean) Bd.returns (by simp) (hb hby d8_16) hr
      · show QCa Z _ _ _ _ s₁.heap _
        rw [e0]
        exact ⟨by simp [hc2, hc5], N0, rfl⟩
theorem d11_0 : decode jdk_43_method_23_code 0 = .ok (.iload_n 1, 1) := by decide +kernel
theorem d11_1 : decode jdk_43_method_23_code 1 = .ok (.i2b, 1) := by decide +kernel
theorem d11_2 : decode jdk_43_method_23_code 2 = .ok (.istore 4, 2) := by decide +kernel
theorem d11_4 : decode jdk_43_method_23_code 4 = .ok (.iload_n 2, 1) := by decide +kernel
theorem d11_5 : decode jdk_43_method_23_code 5 = .ok (.istore 5, 2) := by decide +kernel
theorem d11_7 : decode jdk_43_method_23_code 7 = .ok (.iload 5, 2) := by decide +kernel
theorem d11_9 : decode jdk_43_method_23_code 9 = .ok (.iload_n 3, 1) := by decide +kernel
theorem d11_10 : decode jdk_43_method_23_code 10 = .ok (.if_icmp .ge 21, 3) := by decide +kernel
theorem d11_13 : decode jdk_43_method_23_code 13 = .ok (.aload_n 0, 1) := by decide +kernel
theorem d11_14 : decode jdk_43_method_23_code 14 = .ok (.iload 5, 2) := by decide +kernel
theorem d11_16 : decode jdk_43_method_23_code 16 = .ok (.baload, 1) := by decide +kernel
theorem d11_17 : decode jdk_43_method_23_code 17 = .ok (.iload 4, 2) := by decide +kernel
theorem d11_19 : decode jdk_43_method_23_code 19 = .ok (.if_icmp .ne 6, 3) := by decide +kernel
theorem d11_22 : decode jdk_43_method_23_code 22 = .ok (.iload 5, 2) := by decide +kernel
theorem d11_24 : decode jdk_43_method_23_code 24 = .ok (.ireturn, 1) := by decide +kernel
theorem d11_25 : decode jdk_43_method_23_code 25 = .ok (.iinc 5 1, 3) := by decide +kernel
theorem d11_28 : decode jdk_43_method_23_code 28 = .ok (.goto (-21), 3) := by decide +kernel
theorem d11_31 : decode jdk_43_method_23_code 31 = .ok (.iconst (-1), 1) := by decide +kernel
theorem d11_32 : decode jdk_43_method_23_code 32 = .ok (.ireturn, 1) := by decide +kernel
theorem ef_rmIc (m : MethodId) (a1 : Addr) (cc : Int32) : entryFrame m #[(.ref a1), (.int cc), (.int (0 : Int32)), (.int (7 : Int32))] 6 = mkF m 0 #[.val (.ref a1), .val (.int cc), .val (.int (0 : Int32)), .val (.int (7 : Int32)), .unset, .unset] [] := by first | (simp [entryFrame, mkF, argsToLocals, Value.category]; done) | rfl
def QIc (Z : State) (a1 : Addr) (cc : Int32) (k1 : ClassId) (h0 : Heap) (n0 : Nat) (v : Option Value) (h : Heap) (L : List Loc) : Prop := v = some (.int (own_ix cc.toInt8.toInt32)) ∧ Fr n0 L ∧ h = h0
set_option maxRecDepth 65536 in
set_option maxHeartbeats 40000000 in
theorem rmIc (l : Launch) (Z : State) (a0 : Array Value) (hw : ∀ d ∈ tables_1, d.before a0 Z = true) (ws : List Jvm.Cond) (a1 : Addr) (cc : Int32) (k1 : ClassId) (h0 : Heap) (n0 : Nat) (Z0 : n0 ≤ h0.size) (V1 : Arv Z h0 a1 k1 .byte 7 [(.int (40 : Int32)), (.int (41 : Int32)), (.int (91 : Int32)), (.int (93 : Int32)), (.int (123 : Int32)), (.int (125 : Int32)), (.int (44 : Int32))] (.int (0 : Int32))) :
    MetFree l (⟨"java/lang/StringLatin1", "indexOfChar", "([BIII)I"⟩ : MethodName) (head1 (Jvm.Cond.code (⟨"java/lang/StringLatin1", "indexOfChar", "([BIII)I"⟩ : MethodName) jdk_43_method_23_code 6 (some .int) :: ws) ({ frames := 0, cells := 0, slots := 0, locals := 0 } : Room)) (fun a U => a = #[(.ref a1), (.int cc), (.int (0 : Int32)), (.int (7 : Int32))] ∧ Z.Warmed39 U.vm ∧ U.heap = h0) (fun _ _ _ _ _ => True) (fun _ U o U' => ∃ v L, o = .returned v ∧ QIc Z a1 cc k1 h0 n0 v U'.heap L ∧ FrameEnd U o U' L ({ frames := 0, cells := 0, slots := 0, locals := 0 } : Room).cells ({ frames := 0, cells := 0, slots := 0, locals := 0 } : Room).slots) := by
  refine MetFree.of_bodySF (plainFor_of_name pn_0) hisR ?_
  intro p e s m args below meth c s₁ Bd hml0 hP hK
  obtain ⟨rfl, hZ, hh⟩ := hP
  have hx := Bd.exec
  have hby := Bd.bytes
  have hml : c.maxLocals = 6 := hml0
  have hown : s.vm.findClass "java/lang/StringLatin1" = some m.cls := findClass_of_methodNamed Bd.named
  have hnm := (name_of_methodNamed Bd.named Bd.method).1
  have X0 : Stand p l e ({ frames := 0, cells := 0, slots := 0, locals := 0 } : Room) s m #[(.ref a1), (.int cc), (.int (0 : Int32)), (.int (7 : Int32))] below meth c s₁ [] 0 0 := Stand.of_body Bd
  have e0 : s₁.heap = h0 := by rw [← hh, Bd.state]; rfl
  have N0 := Fr.nil n0
  have K0 := Keep.refl h0 []
  have go0 : Goes p e below s₁ (entryFrame m #[(.ref a1), (.int cc), (.int (0 : Int32)), (.int (7 : Int32))] 6) s₁ (mkF m 0 #[.val (.ref a1), .val (.int cc), .val (.int (0 : Int32)), .val (.int (7 : Int32)), .unset, .unset] []) := fun t k => castTop (ef_rmIc m a1 cc) k
  have go1 : Goes p e below s₁ (entryFrame m #[(.ref a1), (.int cc), (.int (0 : Int32)), (.int (7 : Int32))] 6) s₁ (mkF m 10 #[.val (.ref a1), .val (.int cc), .val (.int (0 : Int32)), .val (.int (7 : Int32)), .val (.int (cc.toInt8.toInt32)), .val (.int (0 : Int32))] [(.int (7 : Int32)), (.int (0 : Int32))]) := fun t k => by
    refine go0 t ?_
    refine XS.iloadN X0.here hx rfl (hb hby d11_0) rfl ?_
    show Steps p.tables e below (s₁.setTop (mkF m 1 #[.val (.ref a1), .val (.int cc), .val (.int (0 : Int32)), .val (.int (7 : Int32)), .unset, .unset] [(.int cc)])) _
    refine XS.i2b X0.here hx rfl (hb hby d11_1) rfl ?_
    show Steps p.tables e below (s₁.setTop (mkF m 2 #[.val (.ref a1), .val (.int cc), .val (.int (0 : Int32)), .val (.int (7 : Int32)), .unset, .unset] [(.int (cc.toInt8.toInt32))])) _
    refine XS.istore X0.here hx rfl (hb hby d11_2) rfl (l' := #[.val (.ref a1), .val (.int cc), .val (.int (0 : Int32)), .val (.int (7 : Int32)), .val (.int (cc.toInt8.toInt32)), .unset]) rfl ?_
    show Steps p.tables e below (s₁.setTop (mkF m 4 #[.val (.ref a1), .val (.int cc), .val (.int (0 : Int32)), .val (.int (7 : Int32)), .val (.int (cc.toInt8.toInt32)), .unset] [])) _
    refine XS.iloadN X0.here hx rfl (hb hby d11_4) rfl ?_
    show Steps p.tables e below (s₁.setTop (mkF m 5 #[.val (.ref a1), .val (.int cc), .val (.int (0 : Int32)), .val (.int (7 : Int32)), .val (.int (cc.toInt8.toInt32)), .unset] [(.int (0 : Int32))])) _
    refine XS.istore X0.here hx rfl (hb hby d11_5) rfl (l' := #[.val (.ref a1), .val (.int cc), .val (.int (0 : Int32)), .val (.int (7 : Int32)), .val (.int (cc.toInt8.toInt32)), .val (.int (0 : Int32))]) rfl ?_
    show Steps p.tables e below (s₁.setTop (mkF m 7 #[.val (.ref a1), .val (.int cc), .val (.int (0 : Int32)), .val (.int (7 : Int32)), .val (.int (cc.toInt8.toInt32)), .val (.int (0 : Int32))] [])) _
    refine XS.iload X0.here hx rfl (hb hby d11_7) rfl ?_
    show Steps p.tables e below (s₁.setTop (mkF m 9 #[.val (.ref a1), .val (.int cc), .val (.int (0 : Int32)), .val (.int (7 : Int32)), .val (.int (cc.toInt8.toInt32)), .val (.int (0 : Int32))] [(.int (0 : Int32))])) _
    refine XS.iloadN X0.here hx rfl (hb hby d11_9) rfl ?_
    show Steps p.tables e below (s₁.setTop (mkF m 10 #[.val (.ref a1), .val (.int cc), .val (.int (0 : Int32)), .val (.int (7 : Int32)), .val (.int (cc.toInt8.toInt32)), .val (.int (0 : Int32))] [(.int (7 : Int32)), (.int (0 : Int32))])) _
    exact k
  have go2 : Goes p e below s₁ (entryFrame m #[(.ref a1), (.int cc), (.int (0 : Int32)), (.int (7 : Int32))] 6) s₁ (mkF m 16 #[.val (.ref a1), .val (.int cc), .val (.int (0 : Int32)), .val (.int (7 : Int32)), .val (.int (cc.toInt8.toInt32)), .val (.int (0 : Int32))] [(.int (0 : Int32)), (.ref a1)]) := fun t k => by
    refine go1 t ?_
    refine XS.icmpNo X0.here hx rfl (hb hby d11_10) rfl (Jvm.Free.XT.ii_ge_f (by decide)) ?_
    show Steps p.tables e below (s₁.setTop (mkF m 13 #[.val (.ref a1), .val (.int cc), .val (.int (0 : Int32)), .val (.int (7 : Int32)), .val (.int (cc.toInt8.toInt32)), .val (.int (0 : Int32))] [])) _
    refine XS.aloadN X0.here hx rfl (hb hby d11_13) rfl rfl ?_
    show Steps p.tables e below (s₁.setTop (mkF m 14 #[.val (.ref a1), .val (.int cc), .val (.int (0 : Int32)), .val (.int (7 : Int32)), .val (.int (cc.toInt8.toInt32)), .val (.int (0 : Int32))] [(.ref a1)])) _
    refine XS.iload X0.here hx rfl (hb hby d11_14) rfl ?_
    show Steps p.tables e below (s₁.setTop (mkF m 16 #[.val (.ref a1), .val (.int cc), .val (.int (0 : Int32)), .val (.int (7 : Int32)), .val (.int (cc.toInt8.toInt32)), .val (.int (0 : Int32))] [(.int (0 : Int32)), (.ref a1)])) _
    exact k
  obtain ⟨cl3, Ar3, kq3, Sz3, Nn3, Hs3, Gf3⟩ := id (V1)
  have hin3 : ¬ ((0 : Int32) < 0 ∨ cl3.slots.size ≤ ((0 : Int32)).toNatClampNeg) := inb_of Sz3 ⟨by decide, by decide⟩
  have hat3 : cl3.slots[((0 : Int32)).toNatClampNeg]? = some (.int (40 : Int32)) := Has.at Hs3 hin3 rfl
  have go4 : Goes p e below s₁ (entryFrame m #[(.ref a1), (.int cc), (.int (0 : Int32)), (.int (7 : Int32))] 6) s₁ (mkF m 19 #[.val (.ref a1), .val (.int cc), .val (.int (0 : Int32)), .val (.int (7 : Int32)), .val (.int (cc.toInt8.toInt32)), .val (.int (0 : Int32))] [(.int (cc.toInt8.toInt32)), (.int (40 : Int32))]) := fun t k => by
    refine go2 t ?_
    refine X0.baloadBytes hx (j := (0 : Int32)) (v := (.int (40 : Int32))) (own_hp e0 Ar3.1) (State.isArrayOf_alike hZ.alike Ar3.2.1) Ar3.2.2 hin3 hat3 (g := (mkF m 16 #[.val (.ref a1), .val (.int cc), .val (.int (0 : Int32)), .val (.int (7 : Int32)), .val (.int (cc.toInt8.toInt32)), .val (.int (0 : Int32))] [(.int (0 : Int32)), (.ref a1)])) rfl rfl (hb hby d11_16) _ ?_
    show Steps p.tables e below (s₁.setTop (mkF m 17 #[.val (.ref a1), .val (.int cc), .val (.int (0 : Int32)), .val (.int (7 : Int32)), .val (.int (cc.toInt8.toInt32)), .val (.int (0 : Int32))] [(.int (40 : Int32))])) _
    refine XS.iload X0.here hx rfl (hb hby d11_17) rfl ?_
    show Steps p.tables e below (s₁.setTop (mkF m 19 #[.val (.ref a1), .val (.int cc), .val (.int (0 : Int32)), .val (.int (7 : Int32)), .val (.int (cc.toInt8.toInt32)), .val (.int (0 : Int32))] [(.int (cc.toInt8.toInt32)), (.int (40 : Int32))])) _
    exact k
  by_cases hc5 : (40 : Int32) = (cc.toInt8.toInt32)
  · have go6 : Goes p e below s₁ (entryFrame m #[(.ref a1), (.int cc), (.int (0 : Int32)), (.int (7 : Int32))] 6) s₁ (mkF m 24 #[.val (.ref a1), .val (.int cc), .val (.int (0 : Int32)), .val (.int (7 : Int32)), .val (.int (cc.toInt8.toInt32)), .val (.int (0 : Int32))] [(.int (0 : Int32))]) := fun t k => by
      refine go4 t ?_
      refine XS.icmpNo X0.here hx rfl (hb hby d11_19) rfl (Jvm.Free.XT.ii_ne_f hc5) ?_
      show Steps p.tables e below (s₁.setTop (mkF m 22 #[.val (.ref a1), .val (.int cc), .val (.int (0 : Int32)), .val (.int (7 : Int32)), .val (.int (cc.toInt8.toInt32)), .val (.int (0 : Int32))] [])) _
      refine XS.iload X0.here hx rfl (hb hby d11_22) rfl ?_
      show Steps p.tables e below (s₁.setTop (mkF m 24 #[.val (.ref a1), .val (.int cc), .val (.int (0 : Int32)), .val (.int (7 : Int32)), .val (.int (cc.toInt8.toInt32)), .val (.int (0 : Int32))] [(.int (0 : Int32))])) _
      exact k
    obtain ⟨fs, hr, hrun, hended, hW, hsame⟩ := X0.leave (v := some (.int (0 : Int32))) (fun h => by rw [Bd.returns] at h; cases h)
    refine ⟨_, _, go6 _ ?_, hrun, hended, _, _, rfl, ?_, ⟨_, rfl⟩, hW, hsame.mono (by decide) (by decide)⟩
    · exact retI X0 hx Bd.returns (hb hby d11_24) hr
    · show QIc Z _ _ _ _ _ _ s₁.heap _
      rw [e0]
      exact ⟨by simp only [own_ix, hc5, if_true, if_false, ↓reduceIte], N0, rfl⟩
  · have go7 : Goes p e below s₁ (entryFrame m #[(.ref a1), (.int cc), (.int (0 : Int32)), (.int (7 : Int32))] 6) s₁ (mkF m 10 #[.val (.ref a1), .val (.int cc), .val (.int (0 : Int32)), .val (.int (7 : Int32)), .val (.int (cc.toInt8.toInt32)), .val (.int (1 : Int32))] [(.int (7 : Int32)), (.int (1 : Int32))]) := fun t k => by
      refine go4 t ?_
      refine XS.icmpYes X0.here hx rfl (pc0 := 19) (pc' := 25) rfl (hb hby d11_19) rfl (Jvm.Free.XT.ii_ne_t hc5) (by decide) (by decide) ?_
      show Steps p.tables e below (s₁.setTop (mkF m 25 #[.val (.ref a1), .val (.int cc), .val (.int (0 : Int32)), .val (.int (7 : Int32)), .val (.int (cc.toInt8.toInt32)), .val (.int (0 : Int32))] [])) _
      refine XS.iinc X0.here hx rfl (hb hby d11_25) rfl (l' := #[.val (.ref a1), .val (.int cc), .val (.int (0 : Int32)), .val (.int (7 : Int32)), .val (.int (cc.toInt8.toInt32)), .val (.int (1 : Int32))]) rfl ?_
      show Steps p.tables e below (s₁.setTop (mkF m 28 #[.val (.ref a1), .val (.int cc), .val (.int (0 : Int32)), .val (.int (7 : Int32)), .val (.int (cc.toInt8.toInt32)), .val (.int (1 : Int32))] [])) _
      refine XS.goto X0.here hx rfl (pc0 := 28) (pc' := 7) rfl (hb hby d11_28) (by decide) (by decide) ?_
      show Steps p.tables e below (s₁.setTop (mkF m 7 #[.val (.ref a1), .val (.int cc), .val (.int (0 : Int32)), .val (.int (7 : Int32)), .val (.int (cc.toInt8.toInt32)), .val (.int (1 : Int32))] [])) _
      refine XS.iload X0.here hx rfl (hb hby d11_7) rfl ?_
      show Steps p.tables e below (s₁.setTop (mkF m 9 #[.val (.ref a1), .val (.int cc), .val (.int (0 : Int32)), .val (.int (7 : Int32)), .val (.int (cc.toInt8.toInt32)), .val (.int (1 : Int32))] [(.int (1 : Int32))])) _
      refine XS.iloadN X0.here hx rfl (hb hby d11_9) rfl ?_
      show Steps p.tables e below (s₁.setTop (mkF m 10 #[.val (.ref a1), .val (.int cc), .val (.int (0 : Int32)), .val (.int (7 : Int32)), .val (.int (cc.toInt8.toInt32)), .val (.int (1 : Int32))] [(.int (7 : Int32)), (.int (1 : Int32))])) _
      exact k
    have go8 : Goes p e below s₁ (entryFrame m #[(.ref a1), (.int cc), (.int (0 : Int32)), (.int (7 : Int32))] 6) s₁ (mkF m 16 #[.val (.ref a1), .val (.int cc), .val (.int (0 : Int32)), .val (.int (7 : Int32)), .val (.int (cc.toInt8.toInt32)), .val (.int (1 : Int32))] [(.int (1 : Int32)), (.ref a1)]) := fun t k => by
      refine go7 t ?_
      refine XS.icmpNo X0.here hx rfl (hb hby d11_10) rfl (Jvm.Free.XT.ii_ge_f (by decide)) ?_
      show Steps p.tables e below (s₁.setTop (mkF m 13 #[.val (.ref a1), .val (.int cc), .val (.int (0 : Int32)), .val (.int (7 : Int32)), .val (.int (cc.toInt8.toInt32)), .val (.int (1 : Int32))] [])) _
      refine XS.aloadN X0.here hx rfl (hb hby d11_13) rfl rfl ?_
      show Steps p.tables e below (s₁.setTop (mkF m 14 #[.val (.ref a1), .val (.int cc), .val (.int (0 : Int32)), .val (.int (7 : Int32)), .val (.int (cc.toInt8.toInt32)), .val (.int (1 : Int32))] [(.ref a1)])) _
      refine XS.iload X0.here hx rfl (hb hby d11_14) rfl ?_
      show Steps p.tables e below (s₁.setTop (mkF m 16 #[.val (.ref a1), .val (.int cc), .val (.int (0 : Int32)), .val (.int (7 : Int32)), .val (.int (cc.toInt8.toInt32)), .val (.int (1 : Int32))] [(.int (1 : Int32)), (.ref a1)])) _
      exact k
    obtain ⟨cl9, Ar9, kq9, Sz9, Nn9, Hs9, Gf9⟩ := id (V1)
    have hin9 : ¬ ((1 : Int32) < 0 ∨ cl9.slots.size ≤ ((1 : Int32)).toNatClampNeg) := inb_of Sz9 ⟨by decide, by decide⟩
    have hat9 : cl9.slots[((1 : Int32)).toNatClampNeg]? = some (.int (41 : Int32)) := Has.at Hs9 hin9 rfl
    have go10 : Goes p e below s₁ (entryFrame m #[(.ref a1), (.int cc), (.int (0 : Int32)), (.int (7 : Int32))] 6) s₁ (mkF m 19 #[.val (.ref a1), .val (.int cc), .val (.int (0 : Int32)), .val (.int (7 : Int32)), .val (.int (cc.toInt8.toInt32)), .val (.int (1 : Int32))] [(.int (cc.toInt8.toInt32)), (.int (41 : Int32))]) := fun t k => by
      refine go8 t ?_
      refine X0.baloadBytes hx (j := (1 : Int32)) (v := (.int (41 : Int32))) (own_hp e0 Ar9.1) (State.isArrayOf_alike hZ.alike Ar9.2.1) Ar9.2.2 hin9 hat9 (g := (mkF m 16 #[.val (.ref a1), .val (.int cc), .val (.int (0 : Int32)), .val (.int (7 : Int32)), .val (.int (cc.toInt8.toInt32)), .val (.int (1 : Int32))] [(.int (1 : Int32)), (.ref a1)])) rfl rfl (hb hby d11_16) _ ?_
      show Steps p.tables e below (s₁.setTop (mkF m 17 #[.val (.ref a1), .val (.int cc), .val (.int (0 : Int32)), .val (.int (7 : Int32)), .val (.int (cc.toInt8.toInt32)), .val (.int (1 : Int32))] [(.int (41 : Int32))])) _
      refine XS.iload X0.here hx rfl (hb hby d11_17) rfl ?_
      show Steps p.tables e below (s₁.setTop (mkF m 19 #[.val (.ref a1), .val (.int cc), .val (.int (0 : Int32)), .val (.int (7 : Int32)), .val (.int (cc.toInt8.toInt32)), .val (.int (1 : Int32))] [(.int (cc.toInt8.toInt32)), (.int (41 : Int32))])) _
      exact k
    by_cases hc11 : (41 : Int32) = (cc.toInt8.toInt32)
    · have go12 : Goes p e below s₁ (entryFrame m #[(.ref a1), (.int cc), (.int (0 : Int32)), (.int (7 : Int32))] 6) s₁ (mkF m 24 #[.val (.ref a1), .val (.int cc), .val (.int (0 : Int32)), .val (.int (7 : Int32)), .val (.int (cc.toInt8.toInt32)), .val (.int (1 : Int32))] [(.int (1 : Int32))]) := fun t k => by
        refine go10 t ?_
        refine XS.icmpNo X0.here hx rfl (hb hby d11_19) rfl (Jvm.Free.XT.ii_ne_f hc11) ?_
        show Steps p.tables e below (s₁.setTop (mkF m 22 #[.val (.ref a1), .val (.int cc), .val (.int (0 : Int32)), .val (.int (7 : Int32)), .val (.int (cc.toInt8.toInt32)), .val (.int (1 : Int32))] [])) _
        refine XS.iload X0.here hx rfl (hb hby d11_22) rfl ?_
        show Steps p.tables e below (s₁.setTop (mkF m 24 #[.val (.ref a1), .val (.int cc), .val (.int (0 : Int32)), .val (.int (7 : Int32)), .val (.int (cc.toInt8.toInt32)), .val (.int (1 : Int32))] [(.int (1 : Int32))])) _
        exact k
      obtain ⟨fs, hr, hrun, hended, hW, hsame⟩ := X0.leave (v := some (.int (1 : Int32))) (fun h => by rw [Bd.returns] at h; cases h)
      refine ⟨_, _, go12 _ ?_, hrun, hended, _, _, rfl, ?_, ⟨_, rfl⟩, hW, hsame.mono (by decide) (by decide)⟩
      · exact retI X0 hx Bd.returns (hb hby d11_24) hr
      · show QIc Z _ _ _ _ _ _ s₁.heap _
        rw [e0]
        exact ⟨by simp only [own_ix, hc5, hc11, if_true, if_false, ↓reduceIte], N0, rfl⟩
    · have go13 : Goes p e below s₁ (entryFrame m #[(.ref a1), (.int cc), (.int (0 : Int32)), (.int (7 : Int32))] 6) s₁ (mkF m 10 #[.val (.ref a1), .val (.int cc), .val (.int (0 : Int32)), .val (.int (7 : Int32)), .val (.int (cc.toInt8.toInt32)), .val (.int (2 : Int32))] [(.int (7 : Int32)), (.int (2 : Int32))]) := fun t k => by
        refine go10 t ?_
        refine XS.icmpYes X0.here hx rfl (pc0 := 19) (pc' := 25) rfl (hb hby d11_19) rfl (Jvm.Free.XT.ii_ne_t hc11) (by decide) (by decide) ?_
        show Steps p.tables e below (s₁.setTop (mkF m 25 #[.val (.ref a1), .val (.int cc), .val (.int (0 : Int32)), .val (.int (7 : Int32)), .val (.int (cc.toInt8.toInt32)), .val (.int (1 : Int32))] [])) _
        refine XS.iinc X0.here hx rfl (hb hby d11_25) rfl (l' := #[.val (.ref a1), .val (.int cc), .val (.int (0 : Int32)), .val (.int (7 : Int32)), .val (.int (cc.toInt8.toInt32)), .val (.int (2 : Int32))]) rfl ?_
        show Steps p.tables e below (s₁.setTop (mkF m 28 #[.val (.ref a1), .val (.int cc), .val (.int (0 : Int32)), .val (.int (7 : Int32)), .val (.int (cc.toInt8.toInt32)), .val (.int (2 : Int32))] [])) _
        refine XS.goto X0.here hx rfl (pc0 := 28) (pc' := 7) rfl (hb hby d11_28) (by decide) (by decide) ?_
        show Steps p.tables e below (s₁.setTop (mkF m 7 #[.val (.ref a1), .val (.int cc), .val (.int (0 : Int32)), .val (.int (7 : Int32)), .val (.int (cc.toInt8.toInt32)), .val (.int (2 : Int32))] [])) _
        refine XS.iload X0.here hx rfl (hb hby d11_7) rfl ?_
        show Steps p.tables e below (s₁.setTop (mkF m 9 #[.val (.ref a1), .val (.int cc), .val (.int (0 : Int32)), .val (.int (7 : Int32)), .val (.int (cc.toInt8.toInt32)), .val (.int (2 : Int32))] [(.int (2 : Int32))])) _
        refine XS.iloadN X0.here hx rfl (hb hby d11_9) rfl ?_
        show Steps p.tables e below (s₁.setTop (mkF m 10 #[.val (.ref a1), .val (.int cc), .val (.int (0 : Int32)), .val (.int (7 : Int32)), .val (.int (cc.toInt8.toInt32)), .val (.int (2 : Int32))] [(.int (7 : Int32)), (.int (2 : Int32))])) _
        exact k
      have go14 : Goes p e below s₁ (entryFrame m #[(.ref a1), (.int cc), (.int (0 : Int32)), (.int (7 : Int32))] 6) s₁ (mkF m 16 #[.val (.ref a1), .val (.int cc), .val (.int (0 : Int32)), .val (.int (7 : Int32)), .val (.int (cc.toInt8.toInt32)), .val (.int (2 : Int32))] [(.int (2 : Int32)), (.ref a1)]) := fun t k => by
        refine go13 t ?_
        refine XS.icmpNo X0.here hx rfl (hb hby d11_10) rfl (Jvm.Free.XT.ii_ge_f (by decide)) ?_
        show Steps p.tables e below (s₁.setTop (mkF m 13 #[.val (.ref a1), .val (.int cc), .val (.int (0 : Int32)), .val (.int (7 : Int32)), .val (.int (cc.toInt8.toInt32)), .val (.int (2 : Int32))] [])) _
        refine XS.aloadN X0.here hx rfl (hb hby d11_13) rfl rfl ?_
        show Steps p.tables e below (s₁.setTop (mkF m 14 #[.val (.ref a1), .val (.int cc), .val (.int (0 : Int32)), .val (.int (7 : Int32)), .val (.int (cc.toInt8.toInt32)), .val (.int (2 : Int32))] [(.ref a1)])) _
        refine XS.iload X0.here hx rfl (hb hby d11_14) rfl ?_
        show Steps p.tables e below (s₁.setTop (mkF m 16 #[.val (.ref a1), .val (.int cc), .val (.int (0 : Int32)), .val (.int (7 : Int32)), .val (.int (cc.toInt8.toInt32)), .val (.int (2 : Int32))] [(.int (2 : Int32)), (.ref a1)])) _
        exact k
      obtain ⟨cl15, Ar15, kq15, Sz15, Nn15, Hs15, Gf15⟩ := id (V1)
      have hin15 : ¬ ((2 : Int32) < 0 ∨ cl15.slots.size ≤ ((2 : Int32)).toNatClampNeg) := inb_of Sz15 ⟨by decide, by decide⟩
      have hat15 : cl15.slots[((2 : Int32)).toNatClampNeg]? = some (.int (91 : Int32)) := Has.at Hs15 hin15 rfl
      have go16 : Goes p e below s₁ (entryFrame m #[(.ref a1), (.int cc), (.int (0 : Int32)), (.int (7 : Int32))] 6) s₁ (mkF m 19 #[.val (.ref a1), .val (.int cc), .val (.int (0 : Int32)), .val (.int (7 : Int32)), .val (.int (cc.toInt8.toInt32)), .val (.int (2 : Int32))] [(.int (cc.toInt8.toInt32)), (.int (91 : Int32))]) := fun t k => by
        refine go14 t ?_
        refine X0.baloadBytes hx (j := (2 : Int32)) (v := (.int (91 : Int32))) (own_hp e0 Ar15.1) (State.isArrayOf_alike hZ.alike Ar15.2.1) Ar15.2.2 hin15 hat15 (g := (mkF m 16 #[.val (.ref a1), .val (.int cc), .val (.int (0 : Int32)), .val (.int (7 : Int32)), .val (.int (cc.toInt8.toInt32)), .val (.int (2 : Int32))] [(.int (2 : Int32)), (.ref a1)])) rfl rfl (hb hby d11_16) _ ?_
        show Steps p.tables e below (s₁.setTop (mkF m 17 #[.val (.ref a1), .val (.int cc), .val (.int (0 : Int32)), .val (.int (7 : Int32)), .val (.int (cc.toInt8.toInt32)), .val (.int (2 : Int32))] [(.int (91 : Int32))])) _
        refine XS.iload X0.here hx rfl (hb hby d11_17) rfl ?_
        show Steps p.tables e below (s₁.setTop (mkF m 19 #[.val (.ref a1), .val (.int cc), .val (.int (0 : Int32)), .val (.int (7 : Int32)), .val (.int (cc.toInt8.toInt32)), .val (.int (2 : Int32))] [(.int (cc.toInt8.toInt32)), (.int (91 : Int32))])) _
        exact k
      by_cases hc17 : (91 : Int32) = (cc.toInt8.toInt32)
      · have go18 : Goes p e below s₁ (entryFrame m #[(.ref a1), (.int cc), (.int (0 : Int32)), (.int (7 : Int32))] 6) s₁ (mkF m 24 #[.val (.ref a1), .val (.int cc), .val (.int (0 : Int32)), .val (.int (7 : Int32)), .val (.int (cc.toInt8.toInt32)), .val (.int (2 : Int32))] [(.int (2 : Int32))]) := fun t k => by
          refine go16 t ?_
          refine XS.icmpNo X0.here hx rfl (hb hby d11_19) rfl (Jvm.Free.XT.ii_ne_f hc17) ?_
          show Steps p.tables e below (s₁.setTop (mkF m 22 #[.val (.ref a1), .val (.int cc), .val (.int (0 : Int32)), .val (.int (7 : Int32)), .val (.int (cc.toInt8.toInt32)), .val (.int (2 : Int32))] [])) _
          refine XS.iload X0.here hx rfl (hb hby d11_22) rfl ?_
          show Steps p.tables e below (s₁.setTop (mkF m 24 #[.val (.ref a1), .val (.int cc), .val (.int (0 : Int32)), .val (.int (7 : Int32)), .val (.int (cc.toInt8.toInt32)), .val (.int (2 : Int32))] [(.int (2 : Int32))])) _
          exact k
        obtain ⟨fs, hr, hrun, hended, hW, hsame⟩ := X0.leave (v := some (.int (2 : Int32))) (fun h => by rw [Bd.returns] at h; cases h)
        refine ⟨_, _, go18 _ ?_, hrun, hended, _, _, rfl, ?_, ⟨_, rfl⟩, hW, hsame.mono (by decide) (by decide)⟩
        · exact retI X0 hx Bd.returns (hb hby d11_24) hr
        · show QIc Z _ _ _ _ _ _ s₁.heap _
          rw [e0]
          exact ⟨by simp only [own_ix, hc5, hc11, hc17, if_true, if_false, ↓reduceIte], N0, rfl⟩
      · have go19 : Goes p e below s₁ (entryFrame m #[(.ref a1), (.int cc), (.int (0 : Int32)), (.int (7 : Int32))] 6) s₁ (mkF m 10 #[.val (.ref a1), .val (.int cc), .val (.int (0 : Int32)), .val (.int (7 : Int32)), .val (.int (cc.toInt8.toInt32)), .val (.int (3 : Int32))] [(.int (7 : Int32)), (.int (3 : Int32))]) := fun t k => by
          refine go16 t ?_
          refine XS.icmpYes X0.here hx rfl (pc0 := 19) (pc' := 25) rfl (hb hby d11_19) rfl (Jvm.Free.XT.ii_ne_t hc17) (by decide) (by decide) ?_
          show Steps p.tables e below (s₁.setTop (mkF m 25 #[.val (.ref a1), .val (.int cc), .val (.int (0 : Int32)), .val (.int (7 : Int32)), .val (.int (cc.toInt8.toInt32)), .val (.int (2 : Int32))] [])) _
          refine XS.iinc X0.here hx rfl (hb hby d11_25) rfl (l' := #[.val (.ref a1), .val (.int cc), .val (.int (0 : Int32)), .val (.int (7 : Int32)), .val (.int (cc.toInt8.toInt32)), .val (.int (3 : Int32))]) rfl ?_
          show Steps p.tables e below (s₁.setTop (mkF m 28 #[.val (.ref a1), .val (.int cc), .val (.int (0 : Int32)), .val (.int (7 : Int32)), .val (.int (cc.toInt8.toInt32)), .val (.int (3 : Int32))] [])) _
          refine XS.goto X0.here hx rfl (pc0 := 28) (pc' := 7) rfl (hb hby d11_28) (by decide) (by decide) ?_
          show Steps p.tables e below (s₁.setTop (mkF m 7 #[.val (.ref a1), .val (.int cc), .val (.int (0 : Int32)), .val (.int (7 : Int32)), .val (.int (cc.toInt8.toInt32)), .val (.int (3 : Int32))] [])) _
          refine XS.iload X0.here hx rfl (hb hby d11_7) rfl ?_
          show Steps p.tables e below (s₁.setTop (mkF m 9 #[.val (.ref a1), .val (.int cc), .val (.int (0 : Int32)), .val (.int (7 : Int32)), .val (.int (cc.toInt8.toInt32)), .val (.int (3 : Int32))] [(.int (3 : Int32))])) _
          refine XS.iloadN X0.here hx rfl (hb hby d11_9) rfl ?_
          show Steps p.tables e below (s₁.setTop (mkF m 10 #[.val (.ref a1), .val (.int cc), .val (.int (0 : Int32)), .val (.int (7 : Int32)), .val (.int (cc.toInt8.toInt32)), .val (.int (3 : Int32))] [(.int (7 : Int32)), (.int (3 : Int32))])) _
          exact k
        have go20 : Goes p e below s₁ (entryFrame m #[(.ref a1), (.int cc), (.int (0 : Int32)), (.int (7 : Int32))] 6) s₁ (mkF m 16 #[.val (.ref a1), .val (.int cc), .val (.int (0 : Int32)), .val (.int (7 : Int32)), .val (.int (cc.toInt8.toInt32)), .val (.int (3 : Int32))] [(.int (3 : Int32)), (.ref a1)]) := fun t k => by
          refine go19 t ?_
          refine XS.icmpNo X0.here hx rfl (hb hby d11_10) rfl (Jvm.Free.XT.ii_ge_f (by decide)) ?_
          show Steps p.tables e below (s₁.setTop (mkF m 13 #[.val (.ref a1), .val (.int cc), .val (.int (0 : Int32)), .val (.int (7 : Int32)), .val (.int (cc.toInt8.toInt32)), .val (.int (3 : Int32))] [])) _
          refine XS.aloadN X0.here hx rfl (hb hby d11_13) rfl rfl ?_
          show Steps p.tables e below (s₁.setTop (mkF m 14 #[.val (.ref a1), .val (.int cc), .val (.int (0 : Int32)), .val (.int (7 : Int32)), .val (.int (cc.toInt8.toInt32)), .val (.int (3 : Int32))] [(.ref a1)])) _
          refine XS.iload X0.here hx rfl (hb hby d11_14) rfl ?_
          show Steps p.tables e below (s₁.setTop (mkF m 16 #[.val (.ref a1), .val (.int cc), .val (.int (0 : Int32)), .val (.int (7 : Int32)), .val (.int (cc.toInt8.toInt32)), .val (.int (3 : Int32))] [(.int (3 : Int32)), (.ref a1)])) _
          exact k
        obtain ⟨cl21, Ar21, kq21, Sz21, Nn21, Hs21, Gf21⟩ := id (V1)
        have hin21 : ¬ ((3 : Int32) < 0 ∨ cl21.slots.size ≤ ((3 : Int32)).toNatClampNeg) := inb_of Sz21 ⟨by decide, by decide⟩
        have hat21 : cl21.slots[((3 : Int32)).toNatClampNeg]? = some (.int (93 : Int32)) := Has.at Hs21 hin21 rfl
        have go22 : Goes p e below s₁ (entryFrame m #[(.ref a1), (.int cc), (.int (0 : Int32)), (.int (7 : Int32))] 6) s₁ (mkF m 19 #[.val (.ref a1), .val (.int cc), .val (.int (0 : Int32)), .val (.int (7 : Int32)), .val (.int (cc.toInt8.toInt32)), .val (.int (3 : Int32))] [(.int (cc.toInt8.toInt32)), (.int (93 : Int32))]) := fun t k => by
          refine go20 t ?_
          refine X0.baloadBytes hx (j := (3 : Int32)) (v := (.int (93 : Int32))) (own_hp e0 Ar21.1) (State.isArrayOf_alike hZ.alike Ar21.2.1) Ar21.2.2 hin21 hat21 (g := (mkF m 16 #[.val (.ref a1), .val (.int cc), .val (.int (0 : Int32)), .val (.int (7 : Int32)), .val (.int (cc.toInt8.toInt32)), .val (.int (3 : Int32))] [(.int (3 : Int32)), (.ref a1)])) rfl rfl (hb hby d11_16) _ ?_
          show Steps p.tables e below (s₁.setTop (mkF m 17 #[.val (.ref a1), .val (.int cc), .val (.int (0 : Int32)), .val (.int (7 : Int32)), .val (.int (cc.toInt8.toInt32)), .val (.int (3 : Int32))] [(.int (93 : Int32))])) _
          refine XS.iload X0.here hx rfl (hb hby d11_17) rfl ?_
          show Steps p.tables e below (s₁.setTop (mkF m 19 #[.val (.ref a1), .val (.int cc), .val (.int (0 : Int32)), .val (.int (7 : Int32)), .val (.int (cc.toInt8.toInt32)), .val (.int (3 : Int32))] [(.int (cc.toInt8.toInt32)), (.int (93 : Int32))])) _
          exact k
        by_cases hc23 : (93 : Int32) = (cc.toInt8.toInt32)
        · have go24 : Goes p e below s₁ (entryFrame m #[(.ref a1), (.int cc), (.int (0 : Int32)), (.int (7 : Int32))] 6) s₁ (mkF m 24 #[.val (.ref a1), .val (.int cc), .val (.int (0 : Int32)), .val (.int (7 : Int32)), .val (.int (cc.toInt8.toInt32)), .val (.int (3 : Int32))] [(.int (3 : Int32))]) := fun t k => by
            refine go22 t ?_
            refine XS.icmpNo X0.here hx rfl (hb hby d11_19) rfl (Jvm.Free.XT.ii_ne_f hc23) ?_
            show Steps p.tables e below (s₁.setTop (mkF m 22 #[.val (.ref a1), .val (.int cc), .val (.int (0 : Int32)), .val (.int (7 : Int32)), .val (.int (cc.toInt8.toInt32)), .val (.int (3 : Int32))] [])) _
            refine XS.iload X0.here hx rfl (hb hby d11_22) rfl ?_
            show Steps p.tables e below (s₁.setTop (mkF m 24 #[.val (.ref a1), .val (.int cc), .val (.int (0 : Int32)), .val (.int (7 : Int32)), .val (.int (cc.toInt8.toInt32)), .val (.int (3 : Int32))] [(.int (3 : Int32))])) _
            exact k
          obtain ⟨fs, hr, hrun, hended, hW, hsame⟩ := X0.leave (v := some (.int (3 : Int32))) (fun h => by rw [Bd.returns] at h; cases h)
          refine ⟨_, _, go24 _ ?_, hrun, hended, _, _, rfl, ?_, ⟨_, rfl⟩, hW, hsame.mono (by decide) (by decide)⟩
          · exact retI X0 hx Bd.returns (hb hby d11_24) hr
          · show QIc Z _ _ _ _ _ _ s₁.heap _
            rw [e0]
            exact ⟨by simp only [own_ix, hc5, hc11, hc17, hc23, if_true, if_false, ↓reduceIte], N0, rfl⟩
        · have go25 : Goes p e below s₁ (entryFrame m #[(.ref a1), (.int cc), (.int (0 : Int32)), (.int (7 : Int32))] 6) s₁ (mkF m 10 #[.val (.ref a1), .val (.int cc), .val (.int (0 : Int32)), .val (.int (7 : Int32)), .val (.int (cc.toInt8.toInt32)), .val (.int (4 : Int32))] [(.int (7 : Int32)), (.int (4 : Int32))]) := fun t k => by
            refine go22 t ?_
            refine XS.icmpYes X0.here hx rfl (pc0 := 19) (pc' := 25) rfl (hb hby d11_19) rfl (Jvm.Free.XT.ii_ne_t hc23) (by decide) (by decide) ?_
            show Steps p.tables e below (s₁.setTop (mkF m 25 #[.val (.ref a1), .val (.int cc), .val (.int (0 : Int32)), .val (.int (7 : Int32)), .val (.int (cc.toInt8.toInt32)), .val (.int (3 : Int32))] [])) _
            refine XS.iinc X0.here hx rfl (hb hby d11_25) rfl (l' := #[.val (.ref a1), .val (.int cc), .val (.int (0 : Int32)), .val (.int (7 : Int32)), .val (.int (cc.toInt8.toInt32)), .val (.int (4 : Int32))]) rfl ?_
            show Steps p.tables e below (s₁.setTop (mkF m 28 #[.val (.ref a1), .val (.int cc), .val (.int (0 : Int32)), .val (.int (7 : Int32)), .val (.int (cc.toInt8.toInt32)), .val (.int (4 : Int32))] [])) _
            refine XS.goto X0.here hx rfl (pc0 := 28) (pc' := 7) rfl (hb hby d11_28) (by decide) (by decide) ?_
            show Steps p.tables e below (s₁.setTop (mkF m 7 #[.val (.ref a1), .val (.int cc), .val (.int (0 : Int32)), .val (.int (7 : Int32)), .val (.int (cc.toInt8.toInt32)), .val (.int (4 : Int32))] [])) _
            refine XS.iload X0.here hx rfl (hb hby d11_7) rfl ?_
            show Steps p.tables e below (s₁.setTop (mkF m 9 #[.val (.ref a1), .val (.int cc), .val (.int (0 : Int32)), .val (.int (7 : Int32)), .val (.int (cc.toInt8.toInt32)), .val (.int (4 : Int32))] [(.int (4 : Int32))])) _
            refine XS.iloadN X0.here hx rfl (hb hby d11_9) rfl ?_
            show Steps p.tables e below (s₁.setTop (mkF m 10 #[.val (.ref a1), .val (.int cc), .val (.int (0 : Int32)), .val (.int (7 : Int32)), .val (.int (cc.toInt8.toInt32)), .val (.int (4 : Int32))] [(.int (7 : Int32)), (.int (4 : Int32))])) _
            exact k
          have go26 : Goes p e below s₁ (entryFrame m #[(.ref a1), (.int cc), (.int (0 : Int32)), (.int (7 : Int32))] 6) s₁ (mkF m 16 #[.val (.ref a1), .val (.int cc), .val (.int (0 : Int32)), .val (.int (7 : Int32)), .val (.int (cc.toInt8.toInt32)), .val (.int (4 : Int32))] [(.int (4 : Int32)), (.ref a1)]) := fun t k => by
            refine go25 t ?_
            refine XS.icmpNo X0.here hx rfl (hb hby d11_10) rfl (Jvm.Free.XT.ii_ge_f (by decide)) ?_
            show Steps p.tables e below (s₁.setTop (mkF m 13 #[.val (.ref a1), .val (.int cc), .val (.int (0 : Int32)), .val (.int (7 : Int32)), .val (.int (cc.toInt8.toInt32)), .val (.int (4 : Int32))] [])) _
            refine XS.aloadN X0.here hx rfl (hb hby d11_13) rfl rfl ?_
            show Steps p.tables e below (s₁.setTop (mkF m 14 #[.val (.ref a1), .val (.int cc), .val (.int (0 : Int32)), .val (.int (7 : Int32)), .val (.int (cc.toInt8.toInt32)), .val (.int (4 : Int32))] [(.ref a1)])) _
            refine XS.iload X0.here hx rfl (hb hby d11_14) rfl ?_
            show Steps p.tables e below (s₁.setTop (mkF m 16 #[.val (.ref a1), .val (.int cc), .val (.int (0 : Int32)), .val (.int (7 : Int32)), .val (.int (cc.toInt8.toInt32)), .val (.int (4 : Int32))] [(.int (4 : Int32)), (.ref a1)])) _
            exact k
          obtain ⟨cl27, Ar27, kq27, Sz27, Nn27, Hs27, Gf27⟩ := id (V1)
          have hin27 : ¬ ((4 : Int32) < 0 ∨ cl27.slots.size ≤ ((4 : Int32)).toNatClampNeg) := inb_of Sz27 ⟨by decide, by decide⟩
          have hat27 : cl27.slots[((4 : Int32)).toNatClampNeg]? = some (.int (123 : Int32)) := Has.at Hs27 hin27 rfl
          have go28 : Goes p e below s₁ (entryFrame m #[(.ref a1), (.int cc), (.int (0 : Int32)), (.int (7 : Int32))] 6) s₁ (mkF m 19 #[.val (.ref a1), .val (.int cc), .val (.int (0 : Int32)), .val (.int (7 : Int32)), .val (.int (cc.toInt8.toInt32)), .val (.int (4 : Int32))] [(.int (cc.toInt8.toInt32)), (.int (123 : Int32))]) := fun t k => by
            refine go26 t ?_
            refine X0.baloadBytes hx (j := (4 : Int32)) (v := (.int (123 : Int32))) (own_hp e0 Ar27.1) (State.isArrayOf_alike hZ.alike Ar27.2.1) Ar27.2.2 hin27 hat27 (g := (mkF m 16 #[.val (.ref a1), .val (.int cc), .val (.int (0 : Int32)), .val (.int (7 : Int32)), .val (.int (cc.toInt8.toInt32)), .val (.int (4 : Int32))] [(.int (4 : Int32)), (.ref a1)])) rfl rfl (hb hby d11_16) _ ?_
            show Steps p.tables e below (s₁.setTop (mkF m 17 #[.val (.ref a1), .val (.int cc), .val (.int (0 : Int32)), .val (.int (7 : Int32)), .val (.int (cc.toInt8.toInt32)), .val (.int (4 : Int32))] [(.int (123 : Int32))])) _
            refine XS.iload X0.here hx rfl (hb hby d11_17) rfl ?_
            show Steps p.tables e below (s₁.setTop (mkF m 19 #[.val (.ref a1), .val (.int cc), .val (.int (0 : Int32)), .val (.int (7 : Int32)), .val (.int (cc.toInt8.toInt32)), .val (.int (4 : Int32))] [(.int (cc.toInt8.toInt32)), (.int (123 : Int32))])) _
            exact k
          by_cases hc29 : (123 : Int32) = (cc.toInt8.toInt32)
          · have go30 : Goes p e below s₁ (entryFrame m #[(.ref a1), (.int cc), (.int (0 : Int32)), (.int (7 : Int32))] 6) s₁ (mkF m 24 #[.val (.ref a1), .val (.int cc), .val (.int (0 : Int32)), .val (.int (7 : Int32)), .val (.int (cc.toInt8.toInt32)), .val (.int (4 : Int32))] [(.int (4 : Int32))]) := fun t k => by
              refine go28 t ?_
              refine XS.icmpNo X0.here hx rfl (hb hby d11_19) rfl (Jvm.Free.XT.ii_ne_f hc29) ?_
              show Steps p.tables e below (s₁.setTop (mkF m 22 #[.val (.ref a1), .val (.int cc), .val (.int (0 : Int32)), .val (.int (7 : Int32)), .val (.int (cc.toInt8.toInt32)), .val (.int (4 : Int32))] [])) _
              refine XS.iload X0.here hx rfl (hb hby d11_22) rfl ?_
              show Steps p.tables e below (s₁.setTop (mkF m 24 #[.val (.ref a1), .val (.int cc), .val (.int (0 : Int32)), .val (.int (7 : Int32)), .val (.int (cc.toInt8.toInt32)), .val (.int (4 : Int32))] [(.int (4 : Int32))])) _
              exact k
            obtain ⟨fs, hr, hrun, hended, hW, hsame⟩ := X0.leave (v := some (.int (4 : Int32))) (fun h => by rw [Bd.returns] at h; cases h)
            refine ⟨_, _, go30 _ ?_, hrun, hended, _, _, rfl, ?_, ⟨_, rfl⟩, hW, hsame.mono (by decide) (by decide)⟩
            · exact retI X0 hx Bd.returns (hb hby d11_24) hr
            · show QIc Z _ _ _ _ _ _ s₁.heap _
              rw [e0]
              exact ⟨by simp only [own_ix, hc5, hc11, hc17, hc23, hc29, if_true, if_false, ↓reduceIte], N0, rfl⟩
          · have go31 : Goes p e below s₁ (entryFrame m #[(.ref a1), (.int cc), (.int (0 : Int32)), (.int (7 : Int32))] 6) s₁ (mkF m 10 #[.val (.ref a1), .val (.int cc), .val (.int (0 : Int32)), .val (.int (7 : Int32)), .val (.int (cc.toInt8.toInt32)), .val (.int (5 : Int32))] [(.int (7 : Int32)), (.int (5 : Int32))]) := fun t k => by
              refine go28 t ?_
              refine XS.icmpYes X0.here hx rfl (pc0 := 19) (pc' := 25) rfl (hb hby d11_19) rfl (Jvm.Free.XT.ii_ne_t hc29) (by decide) (by decide) ?_
              show Steps p.tables e below (s₁.setTop (mkF m 25 #[.val (.ref a1), .val (.int cc), .val (.int (0 : Int32)), .val (.int (7 : Int32)), .val (.int (cc.toInt8.toInt32)), .val (.int (4 : Int32))] [])) _
              refine XS.iinc X0.here hx rfl (hb hby d11_25) rfl (l' := #[.val (.ref a1), .val (.int cc), .val (.int (0 : Int32)), .val (.int (7 : Int32)), .val (.int (cc.toInt8.toInt32)), .val (.int (5 : Int32))]) rfl ?_
              show Steps p.tables e below (s₁.setTop (mkF m 28 #[.val (.ref a1), .val (.int cc), .val (.int (0 : Int32)), .val (.int (7 : Int32)), .val (.int (cc.toInt8.toInt32)), .val (.int (5 : Int32))] [])) _
              refine XS.goto X0.here hx rfl (pc0 := 28) (pc' := 7) rfl (hb hby d11_28) (by decide) (by decide) ?_
              show Steps p.tables e below (s₁.setTop (mkF m 7 #[.val (.ref a1), .val (.int cc), .val (.int (0 : Int32)), .val (.int (7 : Int32)), .val (.int (cc.toInt8.toInt32)), .val (.int (5 : Int32))] [])) _
              refine XS.iload X0.here hx rfl (hb hby d11_7) rfl ?_
              show Steps p.tables e below (s₁.setTop (mkF m 9 #[.val (.ref a1), .val (.int cc), .val (.int (0 : Int32)), .val (.int (7 : Int32)), .val (.int (cc.toInt8.toInt32)), .val (.int (5 : Int32))] [(.int (5 : Int32))])) _
              refine XS.iloadN X0.here hx rfl (hb hby d11_9) rfl ?_
              show Steps p.tables e below (s₁.setTop (mkF m 10 #[.val (.ref a1), .val (.int cc), .val (.int (0 : Int32)), .val (.int (7 : Int32)), .val (.int (cc.toInt8.toInt32)), .val (.int (5 : Int32))] [(.int (7 : Int32)), (.int (5 : Int32))])) _
              exact k
            have go32 : Goes p e below s₁ (entryFrame m #[(.ref a1), (.int cc), (.int (0 : Int32)), (.int (7 : Int32))] 6) s₁ (mkF m 16 #[.val (.ref a1), .val (.int cc), .val (.int (0 : Int32)), .val (.int (7 : Int32)), .val (.int (cc.toInt8.toInt32)), .val (.int (5 : Int32))] [(.int (5 : Int32)), (.ref a1)]) := fun t k => by
              refine go31 t ?_
              refine XS.icmpNo X0.here hx rfl (hb hby d11_10) rfl (Jvm.Free.XT.ii_ge_f (by decide)) ?_
              show Steps p.tables e below (s₁.setTop (mkF m 13 #[.val (.ref a1), .val (.int cc), .val (.int (0 : Int32)), .val (.int (7 : Int32)), .val (.int (cc.toInt8.toInt32)), .val (.int (5 : Int32))] [])) _
              refine XS.aloadN X0.here hx rfl (hb hby d11_13) rfl rfl ?_
              show Steps p.tables e below (s₁.setTop (mkF m 14 #[.val (.ref a1), .val (.int cc), .val (.int (0 : Int32)), .val (.int (7 : Int32)), .val (.int (cc.toInt8.toInt32)), .val (.int (5 : Int32))] [(.ref a1)])) _
              refine XS.iload X0.here hx rfl (hb hby d11_14) rfl ?_
              show Steps p.tables e below (s₁.setTop (mkF m 16 #[.val (.ref a1), .val (.int cc), .val (.int (0 : Int32)), .val (.int (7 : Int32)), .val (.int (cc.toInt8.toInt32)), .val (.int (5 : Int32))] [(.int (5 : Int32)), (.ref a1)])) _
              exact k
            obtain ⟨cl33, Ar33, kq33, Sz33, Nn33, Hs33, Gf33⟩ := id (V1)
            have hin33 : ¬ ((5 : Int32) < 0 ∨ cl33.slots.size ≤ ((5 : Int32)).toNatClampNeg) := inb_of Sz33 ⟨by decide, by decide⟩
            have hat33 : cl33.slots[((5 : Int32)).toNatClampNeg]? = some (.int (125 : Int32)) := Has.at Hs33 hin33 rfl
            have go34 : Goes p e below s₁ (entryFrame m #[(.ref a1), (.int cc), (.int (0 : Int32)), (.int (7 : Int32))] 6) s₁ (mkF m 19 #[.val (.ref a1), .val (.int cc), .val (.int (0 : Int32)), .val (.int (7 : Int32)), .val (.int (cc.toInt8.toInt32)), .val (.int (5 : Int32))] [(.int (cc.toInt8.toInt32)), (.int (125 : Int32))]) := fun t k => by
              refine go32 t ?_
              refine X0.baloadBytes hx (j := (5 : Int32)) (v := (.int (125 : Int32))) (own_hp e0 Ar33.1) (State.isArrayOf_alike hZ.alike Ar33.2.1) Ar33.2.2 hin33 hat33 (g := (mkF m 16 #[.val (.ref a1), .val (.int cc), .val (.int (0 : Int32)), .val (.int (7 : Int32)), .val (.int (cc.toInt8.toInt32)), .val (.int (5 : Int32))] [(.int (5 : Int32)), (.ref a1)])) rfl rfl (hb hby d11_16) _ ?_
              show Steps p.tables e below (s₁.setTop (mkF m 17 #[.val (.ref a1), .val (.int cc), .val (.int (0 : Int32)), .val (.int (7 : Int32)), .val (.int (cc.toInt8.toInt32)), .val (.int (5 : Int32))] [(.int (125 : Int32))])) _
              refine XS.iload X0.here hx rfl (hb hby d11_17) rfl ?_
              show Steps p.tables e below (s₁.setTop (mkF m 19 #[.val (.ref a1), .val (.int cc), .val (.int (0 : Int32)), .val (.int (7 : Int32)), .val (.int (cc.toInt8.toInt32)), .val (.int (5 : Int32))] [(.int (cc.toInt8.toInt32)), (.int (125 : Int32))])) _
              exact k
            by_cases hc35 : (125 : Int32) = (cc.toInt8.toInt32)
            · have go36 : Goes p e below s₁ (entryFrame m #[(.ref a1), (.int cc), (.int (0 : Int32)), (.int (7 : Int32))] 6) s₁ (mkF m 24 #[.val (.ref a1), .val (.int cc), .val (.int (0 : Int32)), .val (.int (7 : Int32)), .val (.int (cc.toInt8.toInt32)), .val (.int (5 : Int32))] [(.int (5 : Int32))]) := fun t k => by
                refine go34 t ?_
                refine XS.icmpNo X0.here hx rfl (hb hby d11_19) rfl (Jvm.Free.XT.ii_ne_f hc35) ?_
                show Steps p.tables e below (s₁.setTop (mkF m 22 #[.val (.ref a1), .val (.int cc), .val (.int (0 : Int32)), .val (.int (7 : Int32)), .val (.int (cc.toInt8.toInt32)), .val (.int (5 : Int32))] [])) _
                refine XS.iload X0.here hx rfl (hb hby d11_22) rfl ?_
                show Steps p.tables e below (s₁.setTop (mkF m 24 #[.val (.ref a1), .val (.int cc), .val (.int (0 : Int32)), .val (.int (7 : Int32)), .val (.int (cc.toInt8.toInt32)), .val (.int (5 : Int32))] [(.int (5 : Int32))])) _
                exact k
              obtain ⟨fs, hr, hrun, hended, hW, hsame⟩ := X0.leave (v := some (.int (5 : Int32))) (fun h => by rw [Bd.returns] at h; cases h)
              refine ⟨_, _, go36 _ ?_, hrun, hended, _, _, rfl, ?_, ⟨_, rfl⟩, hW, hsame.mono (by decide) (by decide)⟩
              · exact retI X0 hx Bd.returns (hb hby d11_24) hr
              · show QIc Z _ _ _ _ _ _ s₁.heap _
                rw [e0]
                exact ⟨by simp only [own_ix, hc5, hc11, hc17, hc23, hc29, hc35, if_true, if_false, ↓reduceIte], N0, rfl⟩
            · have go37 : Goes p e below s₁ (entryFrame m #[(.ref a1), (.int cc), (.int (0 : Int32)), (.int (7 : Int32))] 6) s₁ (mkF m 10 #[.val (.ref a1), .val (.int cc), .val (.int (0 : Int32)), .val (.int (7 : Int32)), .val (.int (cc.toInt8.toInt32)), .val (.int (6 : Int32))] [(.int (7 : Int32)), (.int (6 : Int32))]) := fun t k => by
                refine go34 t ?_
                refine XS.icmpYes X0.here hx rfl (pc0 := 19) (pc' := 25) rfl (hb hby d11_19) rfl (Jvm.Free.XT.ii_ne_t hc35) (by decide) (by decide) ?_
                show Steps p.tables e below (s₁.setTop (mkF m 25 #[.val (.ref a1), .val (.int cc), .val (.int (0 : Int32)), .val (.int (7 : Int32)), .val (.int (cc.toInt8.toInt32)), .val (.int (5 : Int32))] [])) _
                refine XS.iinc X0.here hx rfl (hb hby d11_25) rfl (l' := #[.val (.ref a1), .val (.int cc), .val (.int (0 : Int32)), .val (.int (7 : Int32)), .val (.int (cc.toInt8.toInt32)), .val (.int (6 : Int32))]) rfl ?_
                show Steps p.tables e below (s₁.setTop (mkF m 28 #[.val (.ref a1), .val (.int cc), .val (.int (0 : Int32)), .val (.int (7 : Int32)), .val (.int (cc.toInt8.toInt32)), .val (.int (6 : Int32))] [])) _
                refine XS.goto X0.here hx rfl (pc0 := 28) (pc' := 7) rfl (hb hby d11_28) (by decide) (by decide) ?_
                show Steps p.tables e below (s₁.setTop (mkF m 7 #[.val (.ref a1), .val (.int cc), .val (.int (0 : Int32)), .val (.int (7 : Int32)), .val (.int (cc.toInt8.toInt32)), .val (.int (6 : Int32))] [])) _
                refine XS.iload X0.here hx rfl (hb hby d11_7) rfl ?_
                show Steps p.tables e below (s₁.setTop (mkF m 9 #[.val (.ref a1), .val (.int cc), .val (.int (0 : Int32)), .val (.int (7 : Int32)), .val (.int (cc.toInt8.toInt32)), .val (.int (6 : Int32))] [(.int (6 : Int32))])) _
                refine XS.iloadN X0.here hx rfl (hb hby d11_9) rfl ?_
                show Steps p.tables e below (s₁.setTop (mkF m 10 #[.val (.ref a1), .val (.int cc), .val (.int (0 : Int32)), .val (.int (7 : Int32)), .val (.int (cc.toInt8.toInt32)), .val (.int (6 : Int32))] [(.int (7 : Int32)), (.int (6 : Int32))])) _
                exact k
              have go38 : Goes p e below s₁ (entryFrame m #[(.ref a1), (.int cc), (.int (0 : Int32)), (.int (7 : Int32))] 6) s₁ (mkF m 16 #[.val (.ref a1), .val (.int cc), .val (.int (0 : Int32)), .val (.int (7 : Int32)), .val (.int (cc.toInt8.toInt32)), .val (.int (6 : Int32))] [(.int (6 : Int32)), (.ref a1)]) := fun t k => by
                refine go37 t ?_
                refine XS.icmpNo X0.here hx rfl (hb hby d11_10) rfl (Jvm.Free.XT.ii_ge_f (by decide)) ?_
                show Steps p.tables e below (s₁.setTop (mkF m 13 #[.val (.ref a1), .val (.int cc), .val (.int (0 : Int32)), .val (.int (7 : Int32)), .val (.int (cc.toInt8.toInt32)), .val (.int (6 : Int32))] [])) _
                refine XS.aloadN X0.here hx rfl (hb hby d11_13) rfl rfl ?_
                show Steps p.tables e below (s₁.setTop (mkF m 14 #[.val (.ref a1), .val (.int cc), .val (.int (0 : Int32)), .val (.int (7 : Int32)), .val (.int (cc.toInt8.toInt32)), .val (.int (6 : Int32))] [(.ref a1)])) _
                refine XS.iload X0.here hx rfl (hb hby d11_14) rfl ?_
                show Steps p.tables e below (s₁.setTop (mkF m 16 #[.val (.ref a1), .val (.int cc), .val (.int (0 : Int32)), .val (.int (7 : Int32)), .val (.int (cc.toInt8.toInt32)), .val (.int (6 : Int32))] [(.int (6 : Int32)), (.ref a1)])) _
                exact k
              obtain ⟨cl39, Ar39, kq39, Sz39, Nn39, Hs39, Gf39⟩ := id (V1)
              have hin39 : ¬ ((6 : Int32) < 0 ∨ cl39.slots.size ≤ ((6 : Int32)).toNatClampNeg) := inb_of Sz39 ⟨by decide, by decide⟩
              have hat39 : cl39.slots[((6 : Int32)).toNatClampNeg]? = some (.int (44 : Int32)) := Has.at Hs39 hin39 rfl
              have go40 : Goes p e below s₁ (entryFrame m #[(.ref a1), (.int cc), (.int (0 : Int32)), (.int (7 : Int32))] 6) s₁ (mkF m 19 #[.val (.ref a1), .val (.int cc), .val (.int (0 : Int32)), .val (.int (7 : Int32)), .val (.int (cc.toInt8.toInt32)), .val (.int (6 : Int32))] [(.int (cc.toInt8.toInt32)), (.int (44 : Int32))]) := fun t k => by
                refine go38 t ?_
                refine X0.baloadBytes hx (j := (6 : Int32)) (v := (.int (44 : Int32))) (own_hp e0 Ar39.1) (State.isArrayOf_alike hZ.alike Ar39.2.1) Ar39.2.2 hin39 hat39 (g := (mkF m 16 #[.val (.ref a1), .val (.int cc), .val (.int (0 : Int32)), .val (.int (7 : Int32)), .val (.int (cc.toInt8.toInt32)), .val (.int (6 : Int32))] [(.int (6 : Int32)), (.ref a1)])) rfl rfl (hb hby d11_16) _ ?_
                show Steps p.tables e below (s₁.setTop (mkF m 17 #[.val (.ref a1), .val (.int cc), .val (.int (0 : Int32)), .val (.int (7 : Int32)), .val (.int (cc.toInt8.toInt32)), .val (.int (6 : Int32))] [(.int (44 : Int32))])) _
                refine XS.iload X0.here hx rfl (hb hby d11_17) rfl ?_
                show Steps p.tables e below (s₁.setTop (mkF m 19 #[.val (.ref a1), .val (.int cc), .val (.int (0 : Int32)), .val (.int (7 : Int32)), .val (.int (cc.toInt8.toInt32)), .val (.int (6 : Int32))] [(.int (cc.toInt8.toInt32)), (.int (44 : Int32))])) _
                exact k
              by_cases hc41 : (44 : Int32) = (cc.toInt8.toInt32)
              · have go42 : Goes p e below s₁ (entryFrame m #[(.ref a1), (.int cc), (.int (0 : Int32)), (.int (7 : Int32))] 6) s₁ (mkF m 24 #[.val (.ref a1), .val (.int cc), .val (.int (0 : Int32)), .val (.int (7 : Int32)), .val (.int (cc.toInt8.toInt32)), .val (.int (6 : Int32))] [(.int (6 : Int32))]) := fun t k => by
                  refine go40 t ?_
                  refine XS.icmpNo X0.here hx rfl (hb hby d11_19) rfl (Jvm.Free.XT.ii_ne_f hc41) ?_
                  show Steps p.tables e below (s₁.setTop (mkF m 22 #[.val (.ref a1), .val (.int cc), .val (.int (0 : Int32)), .val (.int (7 : Int32)), .val (.int (cc.toInt8.toInt32)), .val (.int (6 : Int32))] [])) _
                  refine XS.iload X0.here hx rfl (hb hby d11_22) rfl ?_
                  show Steps p.tables e below (s₁.setTop (mkF m 24 #[.val (.ref a1), .val (.int cc), .val (.int (0 : Int32)), .val (.int (7 : Int32)), .val (.int (cc.toInt8.toInt32)), .val (.int (6 : Int32))] [(.int (6 : Int32))])) _
                  exact k
                obtain ⟨fs, hr, hrun, hended, hW, hsame⟩ := X0.leave (v := some (.int (6 : Int32))) (fun h => by rw [Bd.returns] at h; cases h)
                refine ⟨_, _, go42 _ ?_, hrun, hended, _, _, rfl, ?_, ⟨_, rfl⟩, hW, hsame.mono (by decide) (by decide)⟩
                · exact retI X0 hx Bd.returns (hb hby d11_24) hr
                · show QIc Z _ _ _ _ _ _ s₁.heap _
                  rw [e0]
                  exact ⟨by simp only [own_ix, hc5, hc11, hc17, hc23, hc29, hc35, hc41, if_true, if_false, ↓reduceIte], N0, rfl⟩
              · have go43 : Goes p e below s₁ (entryFrame m #[(.ref a1), (.int cc), (.int (0 : Int32)), (.int (7 : Int32))] 6) s₁ (mkF m 10 #[.val (.ref a1), .val (.int cc), .val (.int (0 : Int32)), .val (.int (7 : Int32)), .val (.int (cc.toInt8.toInt32)), .val (.int (7 : Int32))] [(.int (7 : Int32)), (.int (7 : Int32))]) := fun t k => by
                  refine go40 t ?_
                  refine XS.icmpYes X0.here hx rfl (pc0 := 19) (pc' := 25) rfl (hb hby d11_19) rfl (Jvm.Free.XT.ii_ne_t hc41) (by decide) (by decide) ?_
                  show Steps p.tables e below (s₁.setTop (mkF m 25 #[.val (.ref a1), .val (.int cc), .val (.int (0 : Int32)), .val (.int (7 : Int32)), .val (.int (cc.toInt8.toInt32)), .val (.int (6 : Int32))] [])) _
                  refine XS.iinc X0.here hx rfl (hb hby d11_25) rfl (l' := #[.val (.ref a1), .val (.int cc), .val (.int (0 : Int32)), .val (.int (7 : Int32)), .val (.int (cc.toInt8.toInt32)), .val (.int (7 : Int32))]) rfl ?_
                  show Steps p.tables e below (s₁.setTop (mkF m 28 #[.val (.ref a1), .val (.int cc), .val (.int (0 : Int32)), .val (.int (7 : Int32)), .val (.int (cc.toInt8.toInt32)), .val (.int (7 : Int32))] [])) _
                  refine XS.goto X0.here hx rfl (pc0 := 28) (pc' := 7) rfl (hb hby d11_28) (by decide) (by decide) ?_
                  show Steps p.tables e below (s₁.setTop (mkF m 7 #[.val (.ref a1), .val (.int cc), .val (.int (0 : Int32)), .val (.int (7 : Int32)), .val (.int (cc.toInt8.toInt32)), .val (.int (7 : Int32))] [])) _
                  refine XS.iload X0.here hx rfl (hb hby d11_7) rfl ?_
                  show Steps p.tables e below (s₁.setTop (mkF m 9 #[.val (.ref a1), .val (.int cc), .val (.int (0 : Int32)), .val (.int (7 : Int32)), .val (.int (cc.toInt8.toInt32)), .val (.int (7 : Int32))] [(.int (7 : Int32))])) _
                  refine XS.iloadN X0.here hx rfl (hb hby d11_9) rfl ?_
                  show Steps p.tables e below (s₁.setTop (mkF m 10 #[.val (.ref a1), .val (.int cc), .val (.int (0 : Int32)), .val (.int (7 : Int32)), .val (.int (cc.toInt8.toInt32)), .val (.int (7 : Int32))] [(.int (7 : Int32)), (.int (7 : Int32))])) _
                  exact k
                have go44 : Goes p e below s₁ (entryFrame m #[(.ref a1), (.int cc), (.int (0 : Int32)), (.int (7 : Int32))] 6) s₁ (mkF m 32 #[.val (.ref a1), .val (.int cc), .val (.int (0 : Int32)), .val (.int (7 : Int32)), .val (.int (cc.toInt8.toInt32)), .val (.int (7 : Int32))] [(.int (-1 : Int32))]) := fun t k => by
                  refine go43 t ?_
                  refine XS.icmpYes X0.here hx rfl (pc0 := 10) (pc' := 31) rfl (hb hby d11_10) rfl (Jvm.Free.XT.ii_ge_t (by decide)) (by decide) (by decide) ?_
                  show Steps p.tables e below (s₁.setTop (mkF m 31 #[.val (.ref a1), .val (.int cc), .val (.int (0 : Int32)), .val (.int (7 : Int32)), .val (.int (cc.toInt8.toInt32)), .val (.int (7 : Int32))] [])) _
                  refine XS.iconst X0.here hx rfl (hb hby d11_31) ?_
                  show Steps p.tables e below (s₁.setTop (mkF m 32 #[.val (.ref a1), .val (.int cc), .val (.int (0 : Int32)), .val (.int (7 : Int32)), .val (.int (cc.toInt8.toInt32)), .val (.int (7 : Int32))] [(.int (-1 : Int32))])) _
                  exact k
                obtain ⟨fs, hr, hrun, hended, hW, hsame⟩ := X0.leave (v := some (.int (-1 : Int32))) (fun h => by rw [Bd.returns] at h; cases h)
                refine ⟨_, _, go44 _ ?_, hrun, hended, _, _, rfl, ?_, ⟨_, rfl⟩, hW, hsame.mono (by decide) (by decide)⟩
                · exact retI X0 hx Bd.returns (hb hby d11_32) hr
                · show QIc Z _ _ _ _ _ _ s₁.heap _
                  rw [e0]
                  exact ⟨by simp only [own_ix, hc5, hc11, hc17, hc23, hc29, hc35, hc41, if_true, if_false, ↓reduceIte], N0, rfl⟩
theorem own_io0 {c : Int32} (h : (if c < 0 then (0 : Int32) else if 255 < c then 0 else 1) = 0) : own_io c = -1 := by
  unfold own_io; split
  · rfl
  · split
    · rfl
    · rename_i a b; rw [if_neg a, if_neg b] at h; exact absurd h (by decide)
theorem own_io1 {c : Int32} (h : ¬ (if c < 0 then (0 : Int32) else if 255 < c then 0 else 1) = 0) : own_io c = own_ix c.toInt8.toInt32 := by
  unfold own_io; split
  · rename_i a; rw [if_pos a] at h; exact absurd rfl h
  · split
    · rename_i a b; rw [if_neg a, if_pos b] at h; exact absurd rfl h
    · rfl
theorem pd_0 : parseMethodDescriptor "(I)Z" = some ⟨[.int], some .boolean⟩ := by decide +kernel
theorem pd_1 : parseMethodDescriptor "(II)I" = some ⟨[.int, .int], some .int⟩ := by decide +kernel
theorem pd_2 : parseMethodDescriptor "([BIII)I" = some ⟨[(.array .byte), .int, .int, .int], some .int⟩ := by decide +kernel
theorem d7_0 : decode jdk_43_method_22_code 0 = .ok (.iload_n 1, 1) := by decide +kernel
theorem d7_1 : decode jdk_43_method_22_code 1 = .ok (.invokestatic 88, 3) := by decide +kernel
theorem d7_4 : decode jdk_43_method_22_code 4 = .ok (.ifCond .ne 5, 3) := by decide +kernel
theorem d7_7 : decode jdk_43_method_22_code 7 = .ok (.iconst (-1), 1) := by decide +kernel
theorem d7_8 : decode jdk_43_method_22_code 8 = .ok (.ireturn, 1) := by decide +kernel
theorem d7_9 : decode jdk_43_method_22_code 9 = .ok (.iload_n 2, 1) := by decide +kernel
theorem d7_10 : decode jdk_43_method_22_code 10 = .ok (.iconst 0, 1) := by decide +kernel
theorem d7_11 : decode jdk_43_method_22_code 11 = .ok (.invokestatic 92, 3) := by decide +kernel
theorem d7_14 : decode jdk_43_method_22_code 14 = .ok (.istore_n 2, 1) := by decide +kernel
theorem d7_15 : decode jdk_43_method_22_code 15 = .ok (.iload_n 3, 1) := by decide +kernel
theorem d7_16 : decode jdk_43_method_22_code 16 = .ok (.aload_n 0, 1) := by decide +kernel
theorem d7_17 : decode jdk_43_method_22_code 17 = .ok (.arraylength, 1) := by decide +kernel
theorem d7_18 : decode jdk_43_method_22_code 18 = .ok (.invokestatic 38, 3) := by decide +kernel
theorem d7_21 : decode jdk_43_method_22_code 21 = .ok (.istore_n 3, 1) := by decide +kernel
theorem d7_22 : decode jdk_43_method_22_code 22 = .ok (.iload_n 2, 1) := by decide +kernel
theorem d7_23 : decode jdk_43_method_22_code 23 = .ok (.iload_n 3, 1) := by decide +kernel
theorem d7_24 : decode jdk_43_method_22_code 24 = .ok (.if_icmp .lt 5, 3) := by decide +kernel
theorem d7_27 : decode jdk_43_method_22_code 27 = .ok (.iconst (-1), 1) := by decide +kernel
theorem d7_28 : decode jdk_43_method_22_code 28 = .ok (.ireturn, 1) := by decide +kernel
theorem d7_29 : decode jdk_43_method_22_code 29 = .ok (.aload_n 0, 1) := by decide +kernel
theorem d7_30 : decode jdk_43_method_22_code 30 = .ok (.iload_n 1, 1) := by decide +kernel
theorem d7_31 : decode jdk_43_method_22_code 31 = .ok (.iload_n 2, 1) := by decide +kernel
theorem d7_32 : decode jdk_43_method_22_code 32 = .ok (.iload_n 3, 1) := by decide +kernel
theorem d7_33 : decode jdk_43_method_22_code 33 = .ok (.invokestatic 95, 3) := by decide +kernel
theorem d7_36 : decode jdk_43_method_22_code 36 = .ok (.ireturn, 1) := by decide +kernel
theorem ef_rmIo (m : MethodId) (a1 : Addr) (cc : Int32) : entryFrame m #[(.ref a1), (.int cc), (.int (0 : Int32)), (.int (7 : Int32))] 4 = mkF m 0 #[.val (.ref a1), .val (.int cc), .val (.int (0 : Int32)), .val (.int (7 : Int32))] [] := by first | (simp [entryFrame, mkF, argsToLocals, Value.category]; done) | rfl
def QIo (Z : State) (a1 : Addr) (cc : Int32) (k1 : ClassId) (h0 : Heap) (n0 : Nat) (v : Option Value) (h : Heap) (L : List Loc) : Prop := v = some (.int (own_io cc)) ∧ Fr n0 L ∧ h = h0
set_option maxRecDepth 65536 in
set_option maxHeartbeats 40000000 in
theorem rmIo (l : Launch) (Z : State) (a0 : Array Value) (hw : ∀ d ∈ tables_1, d.before a0 Z = true) (ws : List Jvm.Cond) (a1 : Addr) (cc : Int32) (k1 : ClassId) (h0 : Heap) (n0 : Nat) (Z0 : n0 ≤ h0.size) (V1 : Arv Z h0 a1 k1 .byte 7 [(.int (40 : Int32)), (.int (41 : Int32)), (.int (91 : Int32)), (.int (93 : Int32)), (.int (123 : Int32)), (.int (125 : Int32)), (.int (44 : Int32))] (.int (0 : Int32))) :
    MetFree l (⟨"java/lang/StringLatin1", "indexOf", "([BIII)I"⟩ : MethodName) (head1 (Jvm.Cond.code (⟨"java/lang/StringLatin1", "indexOf", "([BIII)I"⟩ : MethodName) jdk_43_method_22_code 4 (some .int) :: ws) ({ frames := 1, cells := 0, slots := 0, locals := 17 } : Room)) (fun a U => a = #[(.ref a1), (.int cc), (.int (0 : Int32)), (.int (7 : Int32))] ∧ Z.Warmed39 U.vm ∧ U.heap = h0) (fun _ _ _ _ _ => True) (fun _ U o U' => ∃ v L, o = .returned v ∧ QIo Z a1 cc k1 h0 n0 v U'.heap L ∧ FrameEnd U o U' L ({ frames := 1, cells := 0, slots := 0, locals := 17 } : Room).cells ({ frames := 1, cells := 0, slots := 0, locals := 17 } : Room).slots) := by
  refine MetFree.of_bodySF (plainFor_of_name pn_0) hisR ?_
  intro p e s m args below meth c s₁ Bd hml0 hP hK
  obtain ⟨rfl, hZ, hh⟩ := hP
  have hx := Bd.exec
  have hby := Bd.bytes
  have hml : c.maxLocals = 4 := hml0
  have hown : s.vm.findClass "java/lang/StringLatin1" = some m.cls := findClass_of_methodNamed Bd.named
  have hnm := (name_of_methodNamed Bd.named Bd.method).1
  have X0 : Stand p l e ({ frames := 1, cells := 0, slots := 0, locals := 17 } : Room) s m #[(.ref a1), (.int cc), (.int (0 : Int32)), (.int (7 : Int32))] below meth c s₁ [] 0 0 := Stand.of_body Bd
  have e0 : s₁.heap = h0 := by rw [← hh, Bd.state]; rfl
  have N0 := Fr.nil n0
  have K0 := Keep.refl h0 []
  have go0 : Goes p e below s₁ (entryFrame m #[(.ref a1), (.int cc), (.int (0 : Int32)), (.int (7 : Int32))] 4) s₁ (mkF m 0 #[.val (.ref a1), .val (.int cc), .val (.int (0 : Int32)), .val (.int (7 : Int32))] []) := fun t k => castTop (ef_rmIo m a1 cc) k
  have go1 : Goes p e below s₁ (entryFrame m #[(.ref a1), (.int cc), (.int (0 : Int32)), (.int (7 : Int32))] 4) s₁ (mkF m 1 #[.val (.ref a1), .val (.int cc), .val (.int (0 : Int32)), .val (.int (7 : Int32))] [(.int cc)]) := fun t k => by
    refine go0 t ?_
    refine XS.iloadN X0.here hx rfl (hb hby d7_0) rfl ?_
    show Steps p.tables e below (s₁.setTop (mkF m 1 #[.val (.ref a1), .val (.int cc), .val (.int (0 : Int32)), .val (.int (7 : Int32))] [(.int cc)])) _
    exact k
  obtain ⟨_, _, ⟨T2, L2, k2, n2⟩, -, X2, ⟨Lc2, hQ2, l2, y2, z2⟩, st2⟩ := Jvm.LawKit.callS X0 hx (y := (⟨"java/lang/StringLatin1", "canEncode", "(I)Z"⟩ : MethodName)) hown (mvT hZ (hw _ (List.mem_of_getElem? (i := 47) rfl))) (mvT hZ (hw _ (List.mem_of_getElem? (i := 48) rfl))) (mvT hZ (hw _ (List.mem_of_getElem? (i := 45) rfl))) (mvT hZ (hw _ (List.mem_of_getElem? (i := 49) rfl))) (by decide) (backOf (W := 0) (rmCa l Z a0 hw [] cc h0 n0 Z0) hZ (hw _ (List.mem_of_getElem? (i := 49) rfl)) (hw _ (List.mem_of_getElem? (i := 45) rfl)) (by decide) (by decide)) (g := (mkF m 1 #[.val (.ref a1), .val (.int cc), .val (.int (0 : Int32)), .val (.int (7 : Int32))] [(.int cc)])) rfl (by rw [hml]; rfl) (argsL := [(.int cc)]) (rest := []) (lenOf pd_0 rfl) rfl (by show 2 * 0 + _ ≤ _; exact Nat.le_of_eq rfl) (hb hby d7_1) (fun _ _ => ⟨rfl, e0, (by decide : 0 + 0 ≤ ({ frames := 1, cells := 0, slots := 0, locals := 17 } : Room).cells), (by decide : 0 + 0 ≤ ({ frames := 1, cells := 0, slots := 0, locals := 17 } : Room).slots)⟩)
  dsimp only [Pt.U, Pt.locs, Pt.cells, Pt.slots] at X2 l2 y2 z2 st2 hQ2
  subst l2 y2 z2
  obtain ⟨rfl, N2q, e2⟩ := hQ2
  have N2 := Fr.app N0 N2q
  have go3 : Goes p e below s₁ (entryFrame m #[(.ref a1), (.int cc), (.int (0 : Int32)), (.int (7 : Int32))] 4) T2 (mkF m 4 #[.val (.ref a1), .val (.int cc), .val (.int (0 : Int32)), .val (.int (7 : Int32))] [(.int (if cc < 0 then 0 else if 255 < cc then 0 else 1))]) := fun t k => go1 t (st2 t k)
  by_cases hc4 : (if cc < 0 then 0 else if 255 < cc then 0 else 1) = (0 : Int32)
  · have go5 : Goes p e below s₁ (entryFrame m #[(.ref a1), (.int cc), (.int (0 : Int32)), (.int (7 : Int32))] 4) T2 (mkF m 8 #[.val (.ref a1), .val (.int cc), .val (.int (0 : Int32)), .val (.int (7 : Int32))] [(.int (-1 : Int32))]) := fun t k => by
      refine go3 t ?_
      refine XS.ifNo X2.here hx rfl (hb hby d7_4) rfl (Jvm.Free.XT.i0_ne_f hc4) ?_
      show Steps p.tables e below (T2.setTop (mkF m 7 #[.val (.ref a1), .val (.int cc), .val (.int (0 : Int32)), .val (.int (7 : Int32))] [])) _
      refine XS.iconst X2.here hx rfl (hb hby d7_7) ?_
      show Steps p.tables e below (T2.setTop (mkF m 8 #[.val (.ref a1), .val (.int cc), .val (.int (0 : Int32)), .val (.int (7 : Int32))] [(.int (-1 : Int32))])) _
      exact k
    obtain ⟨fs, hr, hrun, hended, hW, hsame⟩ := X2.leave (v := some (.int (-1 : Int32))) (fun h => by rw [Bd.returns] at h; cases h)
    refine ⟨_, _, go5 _ ?_, hrun, hended, _, _, rfl, ?_, ⟨_, rfl⟩, hW, hsame.mono (by decide) (by decide)⟩
    · exact retI X2 hx Bd.returns (hb hby d7_8) hr
    · show QIo Z _ _ _ _ _ _ T2.heap _
      rw [e2]
      exact ⟨by rw [own_io0 hc4], N2, rfl⟩
  · have go6 : Goes p e below s₁ (entryFrame m #[(.ref a1), (.int cc), (.int (0 : Int32)), (.int (7 : Int32))] 4) T2 (mkF m 11 #[.val (.ref a1), .val (.int cc), .val (.int (0 : Int32)), .val (.int (7 : Int32))] [(.int (0 : Int32)), (.int (0 : Int32))]) := fun t k => by
      refine go3 t ?_
      refine XS.ifYes X2.here hx rfl (pc0 := 4) (pc' := 9) rfl (hb hby d7_4) rfl (Jvm.Free.XT.i0_ne_t hc4) (by decide) (by decide) ?_
      show Steps p.tables e below (T2.setTop (mkF m 9 #[.val (.ref a1), .val (.int cc), .val (.int (0 : Int32)), .val (.int (7 : Int32))] [])) _
      refine XS.iloadN X2.here hx rfl (hb hby d7_9) rfl ?_
      show Steps p.tables e below (T2.setTop (mkF m 10 #[.val (.ref a1), .val (.int cc), .val (.int (0 : Int32)), .val (.int (7 : Int32))] [(.int (0 : Int32))])) _
      refine XS.iconst X2.here hx rfl (hb hby d7_10) ?_
      show Steps p.tables e below (T2.setTop (mkF m 11 #[.val (.ref a1), .val (.int cc), .val (.int (0 : Int32)), .val (.int (7 : Int32))] [(.int (0 : Int32)), (.int (0 : Int32))])) _
      exact k
    obtain ⟨_, _, ⟨T7, L7, k7, n7⟩, -, X7, ⟨Lc7, hQ7, l7, y7, z7⟩, st7⟩ := Jvm.LawKit.callS X2 hx (y := (⟨"java/lang/Math", "max", "(II)I"⟩ : MethodName)) hown (mvT hZ (hw _ (List.mem_of_getElem? (i := 50) rfl))) (mvT hZ (hw _ (List.mem_of_getElem? (i := 51) rfl))) (mvT hZ (hw _ (List.mem_of_getElem? (i := 52) rfl))) (mvT hZ (hw _ (List.mem_of_getElem? (i := 53) rfl))) (by decide) (backOf (W := 0) (rmMx l Z a0 hw [] h0 n0 Z0) hZ (hw _ (List.mem_of_getElem? (i := 53) rfl)) (hw _ (List.mem_of_getElem? (i := 52) rfl)) (by decide) (by decide)) (g := (mkF m 11 #[.val (.ref a1), .val (.int cc), .val (.int (0 : Int32)), .val (.int (7 : Int32))] [(.int (0 : Int32)), (.int (0 : Int32))])) rfl (by rw [hml]; rfl) (argsL := [(.int (0 : Int32)), (.int (0 : Int32))]) (rest := []) (lenOf pd_1 rfl) rfl (by show 2 * 0 + _ ≤ _; exact Nat.le_of_eq rfl) (hb hby d7_11) (fun _ _ => ⟨rfl, e2, (by decide : 0 + 0 ≤ ({ frames := 1, cells := 0, slots := 0, locals := 17 } : Room).cells), (by decide : 0 + 0 ≤ ({ frames := 1, cells := 0, slots := 0, locals := 17 } : Room).slots)⟩)
    dsimp only [Pt.U, Pt.locs, Pt.cells, Pt.slots] at X7 l7 y7 z7 st7 hQ7
    subst l7 y7 z7
    obtain ⟨rfl, N7q, e7⟩ := hQ7
    have N7 := Fr.app N2 N7q
    have go8 : Goes p e below s₁ (entryFrame m #[(.ref a1), (.int cc), (.int (0 : Int32)), (.int (7 : Int32))] 4) T7 (mkF m 14 #[.val (.ref a1), .val (.int cc), .val (.int (0 : Int32)), .val (.int (7 : Int32))] [(.int (0 : Int32))]) := fun t k => go6 t (st7 t k)
    have go9 : Goes p e below s₁ (entryFrame m #[(.ref a1), (.int cc), (.int (0 : Int32)), (.int (7 : Int32))] 4) T7 (mkF m 17 #[.val (.ref a1), .val (.int cc), .val (.int (0 : Int32)), .val (.int (7 : Int32))] [(.ref a1), (.int (7 : Int32))]) := fun t k => by
      refine go8 t ?_
      refine XS.istoreN X7.here hx rfl (hb hby d7_14) rfl (l' := #[.val (.ref a1), .val (.int cc), .val (.int (0 : Int32)), .val (.int (7 : Int32))]) rfl ?_
      show Steps p.tables e below (T7.setTop (mkF m 15 #[.val (.ref a1), .val (.int cc), .val (.int (0 : Int32)), .val (.int (7 : Int32))] [])) _
      refine XS.iloadN X7.here hx rfl (hb hby d7_15) rfl ?_
      show Steps p.tables e below (T7.setTop (mkF m 16 #[.val (.ref a1), .val (.int cc), .val (.int (0 : Int32)), .val (.int (7 : Int32))] [(.int (7 : Int32))])) _
      refine XS.aloadN X7.here hx rfl (hb hby d7_16) rfl rfl ?_
      show Steps p.tables e below (T7.setTop (mkF m 17 #[.val (.ref a1), .val (.int cc), .val (.int (0 : Int32)), .val (.int (7 : Int32))] [(.ref a1), (.int (7 : Int32))])) _
      exact k
    obtain ⟨cl10, Ar10, kq10, Sz10, Nn10, Hs10, Gf10⟩ := id (V1)
    have go11 : Goes p e below s₁ (entryFrame m #[(.ref a1), (.int cc), (.int (0 : Int32)), (.int (7 : Int32))] 4) T7 (mkF m 18 #[.val (.ref a1), .val (.int cc), .val (.int (0 : Int32)), .val (.int (7 : Int32))] [(.int (7 : Int32)), (.int (7 : Int32))]) := fun t k => by
      refine go9 t ?_
      refine X7.arraylength hx (own_hp e7 Ar10.1) (State.isArrayOf_alike hZ.alike Ar10.2.1) (g := (mkF m 17 #[.val (.ref a1), .val (.int cc), .val (.int (0 : Int32)), .val (.int (7 : Int32))] [(.ref a1), (.int (7 : Int32))])) rfl rfl (hb hby d7_17) _ ?_
      rw [len_of Sz10 Nn10]
      show Steps p.tables e below (T7.setTop (mkF m 18 #[.val (.ref a1), .val (.int cc), .val (.int (0 : Int32)), .val (.int (7 : Int32))] [(.int (7 : Int32)), (.int (7 : Int32))])) _
      exact k
    obtain ⟨_, _, ⟨T12, L12, k12, n12⟩, -, X12, ⟨Lc12, hQ12, l12, y12, z12⟩, st12⟩ := Jvm.LawKit.callS X7 hx (y := (⟨"java/lang/Math", "min", "(II)I"⟩ : MethodName)) hown (mvT hZ (hw _ (List.mem_of_getElem? (i := 54) rfl))) (mvT hZ (hw _ (List.mem_of_getElem? (i := 55) rfl))) (mvT hZ (hw _ (List.mem_of_getElem? (i := 52) rfl))) (mvT hZ (hw _ (List.mem_of_getElem? (i := 56) rfl))) (by decide) (backOf (W := 0) (rmMi l Z a0 hw [] h0 n0 Z0) hZ (hw _ (List.mem_of_getElem? (i := 56) rfl)) (hw _ (List.mem_of_getElem? (i := 52) rfl)) (by decide) (by decide)) (g := (mkF m 18 #[.val (.ref a1), .val (.int cc), .val (.int (0 : Int32)), .val (.int (7 : Int32))] [(.int (7 : Int32)), (.int (7 : Int32))])) rfl (by rw [hml]; rfl) (argsL := [(.int (7 : Int32)), (.int (7 : Int32))]) (rest := []) (lenOf pd_1 rfl) rfl (by show 2 * 0 + _ ≤ _; exact Nat.le_of_eq rfl) (hb hby d7_18) (fun _ _ => ⟨rfl, e7, (by decide : 0 + 0 ≤ ({ frames := 1, cells := 0, slots := 0, locals := 17 } : Room).cells), (by decide : 0 + 0 ≤ ({ frames := 1, cells := 0, slots := 0, locals := 17 } : Room).slots)⟩)
    dsimp only [Pt.U, Pt.locs, Pt.cells, Pt.slots] at X12 l12 y12 z12 st12 hQ12
    subst l12 y12 z12
    obtain ⟨rfl, N12q, e12⟩ := hQ12
    have N12 := Fr.app N7 N12q
    have go13 : Goes p e below s₁ (entryFrame m #[(.ref a1), (.int cc), (.int (0 : Int32)), (.int (7 : Int32))] 4) T12 (mkF m 21 #[.val (.ref a1), .val (.int cc), .val (.int (0 : Int32)), .val (.int (7 : Int32))] [(.int (7 : Int32))]) := fun t k => go11 t (st12 t k)
    have go14 : Goes p e below s₁ (entryFrame m #[(.ref a1), (.int cc), (.int (0 : Int32)), (.int (7 : Int32))] 4) T12 (mkF m 24 #[.val (.ref a1), .val (.int cc), .val (.int (0 : Int32)), .val (.int (7 : Int32))] [(.int (7 : Int32)), (.int (0 : Int32))]) := fun t k => by
      refine go13 t ?_
      refine XS.istoreN X12.here hx rfl (hb hby d7_21) rfl (l' := #[.val (.ref a1), .val (.int cc), .val (.int (0 : Int32)), .val (.int (7 : Int32))]) rfl ?_
      show Steps p.tables e below (T12.setTop (mkF m 22 #[.val (.ref a1), .val (.int cc), .val (.int (0 : Int32)), .val (.int (7 : Int32))] [])) _
      refine XS.iloadN X12.here hx rfl (hb hby d7_22) rfl ?_
      show Steps p.tables e below (T12.setTop (mkF m 23 #[.val (.ref a1), .val (.int cc), .val (.int (0 : Int32)), .val (.int (7 : Int32))] [(.int (0 : Int32))])) _
      refine XS.iloadN X12.here hx rfl (hb hby d7_23) rfl ?_
      show Steps p.tables e below (T12.setTop (mkF m 24 #[.val (.ref a1), .val (.int cc), .val (.int (0 : Int32)), .val (.int (7 : Int32))] [(.int (7 : Int32)), (.int (0 : Int32))])) _
      exact k
    have go15 : Goes p e below s₁ (entryFrame m #[(.ref a1), (.int cc), (.int (0 : Int32)), (.int (7 : Int32))] 4) T12 (mkF m 33 #[.val (.ref a1), .val (.int cc), .val (.int (0 : Int32)), .val (.int (7 : Int32))] [(.int (7 : Int32)), (.int (0 : Int32)), (.int cc), (.ref a1)]) := fun t k => by
      refine go14 t ?_
      refine XS.icmpYes X12.here hx rfl (pc0 := 24) (pc' := 29) rfl (hb hby d7_24) rfl (Jvm.Free.XT.ii_lt_t (by decide)) (by decide) (by decide) ?_
      show Steps p.tables e below (T12.setTop (mkF m 29 #[.val (.ref a1), .val (.int cc), .val (.int (0 : Int32)), .val (.int (7 : Int32))] [])) _
      refine XS.aloadN X12.here hx rfl (hb hby d7_29) rfl rfl ?_
      show Steps p.tables e below (T12.setTop (mkF m 30 #[.val (.ref a1), .val (.int cc), .val (.int (0 : Int32)), .val (.int (7 : Int32))] [(.ref a1)])) _
      refine XS.iloadN X12.here hx rfl (hb hby d7_30) rfl ?_
      show Steps p.tables e below (T12.setTop (mkF m 31 #[.val (.ref a1), .val (.int cc), .val (.int (0 : Int32)), .val (.int (7 : Int32))] [(.int cc), (.ref a1)])) _
      refine XS.iloadN X12.here hx rfl (hb hby d7_31) rfl ?_
      show Steps p.tables e below (T12.setTop (mkF m 32 #[.val (.ref a1), .val (.int cc), .val (.int (0 : Int32)), .val (.int (7 : Int32))] [(.int (0 : Int32)), (.int cc), (.ref a1)])) _
      refine XS.iloadN X12.here hx rfl (hb hby d7_32) rfl ?_
      show Steps p.tables e below (T12.setTop (mkF m 33 #[.val (.ref a1), .val (.int cc), .val (.int (0 : Int32)), .val (.int (7 : Int32))] [(.int (7 : Int32)), (.int (0 : Int32)), (.int cc), (.ref a1)])) _
      exact k
    obtain ⟨_, _, ⟨T16, L16, k16, n16⟩, -, X16, ⟨Lc16, hQ16, l16, y16, z16⟩, st16⟩ := Jvm.LawKit.callS X12 hx (y := (⟨"java/lang/StringLatin1", "indexOfChar", "([BIII)I"⟩ : MethodName)) hown (mvT hZ (hw _ (List.mem_of_getElem? (i := 57) rfl))) (mvT hZ (hw _ (List.mem_of_getElem? (i := 58) rfl))) (mvT hZ (hw _ (List.mem_of_getElem? (i := 45) rfl))) (mvT hZ (hw _ (List.mem_of_getElem? (i := 59) rfl))) (by decide) (backOf (W := 0) (rmIc l Z a0 hw [] a1 cc k1 h0 n0 Z0 V1) hZ (hw _ (List.mem_of_getElem? (i := 59) rfl)) (hw _ (List.mem_of_getElem? (i := 45) rfl)) (by decide) (by decide)) (g := (mkF m 33 #[.val (.ref a1), .val (.int cc), .val (.int (0 : Int32)), .val (.int (7 : Int32))] [(.int (7 : Int32)), (.int (0 : Int32)), (.int cc), (.ref a1)])) rfl (by rw [hml]; rfl) (argsL := [(.ref a1), (.int cc), (.int (0 : Int32)), (.int (7 : Int32))]) (rest := []) (lenOf pd_2 rfl) rfl (by show 2 * 0 + _ ≤ _; exact Nat.le_of_eq rfl) (hb hby d7_33) (fun _ _ => ⟨rfl, e12, (by decide : 0 + 0 ≤ ({ frames := 1, cells := 0, slots := 0, locals := 17 } : Room).cells), (by decide : 0 + 0 ≤ ({ frames := 1, cells := 0, slots := 0, locals := 17 } : Room).slots)⟩)
    dsimp only [Pt.U, Pt.locs, Pt.cells, Pt.slots] at X16 l16 y16 z16 st16 hQ16
    subst l16 y16 z16
    obtain ⟨rfl, N16q, e16⟩ := hQ16
    have N16 := Fr.app N12 N16q
    have go17 : Goes p e below s₁ (entryFrame m #[(.ref a1), (.int cc), (.int (0 : Int32)), (.int (7 : Int32))] 4) T16 (mkF m 36 #[.val (.ref a1), .val (.int cc), .val (.int (0 : Int32)), .val (.int (7 : Int32))] [(.int (own_ix cc.toInt8.toInt32))]) := fun t k => go15 t (st16 t k)
    obtain ⟨fs, hr, hrun, hended, hW, hsame⟩ := X16.leave (v := some (.int (own_ix cc.toInt8.toInt32))) (fun h => by rw [Bd.returns] at h; cases h)
    refine ⟨_, _, go17 _ ?_, hrun, hended, _, _, rfl, ?_, ⟨_, rfl⟩, hW, hsame.mono (by decide) (by decide)⟩
    · exact retI X16 hx Bd.returns (hb hby d7_36) hr
    · show QIo Z _ _ _ _ _ _ T16.heap _
      rw [e16]
      exact ⟨by rw [own_io1 hc4], N16, rfl⟩
theorem d6_0 : decode jdk_42_method_152_code 0 = .ok (.getstatic 38, 3) := by decide +kernel
theorem d6_3 : decode jdk_42_method_152_code 3 = .ok (.ifCond .eq 10, 3) := by decide +kernel
theorem d6_6 : decode jdk_42_method_152_code 6 = .ok (.aload_n 0, 1) := by decide +kernel
theorem d6_7 : decode jdk_42_method_152_code 7 = .ok (.getfield 15, 3) := by decide +kernel
theorem d6_10 : decode jdk_42_method_152_code 10 = .ok (.goto 4, 3) := by decide +kernel
theorem d6_13 : decode jdk_42_method_152_code 13 = .ok (.iconst 1, 1) := by decide +kernel
theorem d6_14 : decode jdk_42_method_152_code 14 = .ok (.ireturn, 1) := by decide +kernel
theorem pn_1 : plainName "java/lang/String" = true := by first | (simp [plainName, overriddenIn]; done) | decide +kernel
theorem ef_rmCo (m : MethodId) (a1 : Addr) : entryFrame m #[(.ref a1)] 1 = mkF m 0 #[.val (.ref a1)] [] := by first | (simp [entryFrame, mkF, argsToLocals, Value.category]; done) | rfl
def QCo (Z : State) (a1 : Addr) (cs : Int32) (h0 : Heap) (n0 : Nat) (v : Option Value) (h : Heap) (L : List Loc) : Prop := v = some (.int 0) ∧ Fr n0 L ∧ h = h0
set_option maxRecDepth 65536 in
set_option maxHeartbeats 40000000 in
theorem rmCo (l : Launch) (Z : State) (a0 : Array Value) (hw : ∀ d ∈ tables_1, d.before a0 Z = true) (ws : List Jvm.Cond) (a1 : Addr) (cs : Int32) (h0 : Heap) (n0 : Nat) (Z0 : n0 ≤ h0.size) (O0 : Old Z n0 h0) (S_CS : Sta Z Z.heap "java/lang/String" "COMPACT_STRINGS" "Z" (.int cs)) (hcs : ¬ cs = 0) (E1 : Exa Z h0 a1 "java/lang/String") (FC : Fld Z h0 a1 "java/lang/String" "coder" "B" (.int (0 : Int32))) :
    MetFree l (⟨"java/lang/String", "coder", "()B"⟩ : MethodName) (head1 (Jvm.Cond.code (⟨"java/lang/String", "coder", "()B"⟩ : MethodName) jdk_42_method_152_code 1 (some .byte) :: ws) ({ frames := 0, cells := 0, slots := 0, locals := 0 } : Room)) (fun a U => a = #[(.ref a1)] ∧ Z.Warmed39 U.vm ∧ U.heap = h0) (fun _ _ _ _ _ => True) (fun _ U o U' => ∃ v L, o = .returned v ∧ QCo Z a1 cs h0 n0 v U'.heap L ∧ FrameEnd U o U' L ({ frames := 0, cells := 0, slots := 0, locals := 0 } : Room).cells ({ frames := 0, cells := 0, slots := 0, locals := 0 } : Room).slots) := by
  refine MetFree.of_bodySF (plainFor_of_name pn_1) hisR ?_
  intro p e s m args below meth c s₁ Bd hml0 hP hK
  obtain ⟨rfl, hZ, hh⟩ := hP
  have hx := Bd.exec
  have hby := Bd.bytes
  have hml : c.maxLocals = 1 := hml0
  have hown : s.vm.findClass "java/lang/String" = some m.cls := findClass_of_methodNamed Bd.named
  have hnm := (name_of_methodNamed Bd.named Bd.method).1
  have X0 : Stand p l e ({ frames := 0, cells := 0, slots := 0, locals := 0 } : Room) s m #[(.ref a1)] below meth c s₁ [] 0 0 := Stand.of_body Bd
  have e0 : s₁.heap = h0 := by rw [← hh, Bd.state]; rfl
  have N0 := Fr.nil n0
  have K0 := Keep.refl h0 []
  have go0 : Goes p e below s₁ (entryFrame m #[(.ref a1)] 1) s₁ (mkF m 0 #[.val (.ref a1)] []) := fun t k => castTop (ef_rmCo m a1) k
  obtain ⟨T1, X1, e1, st1⟩ := getS2 X0 hx hZ hown (host := "") (Or.inl (hw _ (List.mem_of_getElem? (i := 30) rfl))) Via.refl e0 (S_CS.ext O0.2) (g := (mkF m 0 #[.val (.ref a1)] [])) rfl (hb hby d6_0)
  have go2 : Goes p e below s₁ (entryFrame m #[(.ref a1)] 1) T1 (mkF m 3 #[.val (.ref a1)] [(.int cs)]) := fun t k => go0 t (st1 t k)
  have go3 : Goes p e below s₁ (entryFrame m #[(.ref a1)] 1) T1 (mkF m 7 #[.val (.ref a1)] [(.ref a1)]) := fun t k => by
    refine go2 t ?_
    refine XS.ifNo X1.here hx rfl (hb hby d6_3) rfl (Jvm.Free.XT.i0_eq_f hcs) ?_
    show Steps p.tables e below (T1.setTop (mkF m 6 #[.val (.ref a1)] [])) _
    refine XS.aloadN X1.here hx rfl (hb hby d6_6) rfl rfl ?_
    show Steps p.tables e below (T1.setTop (mkF m 7 #[.val (.ref a1)] [(.ref a1)])) _
    exact k
  obtain ⟨T4, X4, e4, st4⟩ := getF X1 hx hZ hown (host := "") (Or.inl (hw _ (List.mem_of_getElem? (i := 31) rfl))) Via.refl e1 FC (g := (mkF m 7 #[.val (.ref a1)] [(.ref a1)])) rfl rfl (hb hby d6_7)
  have go5 : Goes p e below s₁ (entryFrame m #[(.ref a1)] 1) T4 (mkF m 10 #[.val (.ref a1)] [(.int (0 : Int32))]) := fun t k => go3 t (st4 t k)
  have go6 : Goes p e below s₁ (entryFrame m #[(.ref a1)] 1) T4 (mkF m 14 #[.val (.ref a1)] [(.int (0 : Int32))]) := fun t k => by
    refine go5 t ?_
    refine XS.goto X4.here hx rfl (pc0 := 10) (pc' := 14) rfl (hb hby d6_10) (by decide) (by decide) ?_
    show Steps p.tables e below (T4.setTop (mkF m 14 #[.val (.ref a1)] [(.int (0 : Int32))])) _
    exact k
  obtain ⟨fs, hr, hrun, hended, hW, hsame⟩ := X4.leave (v := some (.int (0 : Int32))) (fun h => by rw [Bd.returns] at h; cases h)
  refine ⟨_, _, go6 _ ?_, hrun, hended, _, _, rfl, ?_, ⟨_, rfl⟩, hW, hsame.mono (by decide) (by decide)⟩
  · exact retN X4 hx (t := .byte) Bd.returns (by simp) (hb hby d6_14) hr
  · show QCo Z _ _ _ _ _ T4.heap _
    rw [e4]
    exact ⟨rfl, N0, rfl⟩
theorem d4_0 : decode jdk_42_method_154_code 0 = .ok (.getstatic 38, 3) := by decide +kernel
theorem d4_3 : decode jdk_42_method_154_code 3 = .ok (.ifCond .eq 14, 3) := by decide +kernel
theorem d4_6 : decode jdk_42_method_154_code 6 = .ok (.aload_n 0, 1) := by decide +kernel
theorem d4_7 : decode jdk_42_method_154_code 7 = .ok (.getfield 15, 3) := by decide +kernel
theorem d4_10 : decode jdk_42_method_154_code 10 = .ok (.ifCond .ne 7, 3) := by decide +kernel
theorem d4_13 : decode jdk_42_method_154_code 13 = .ok (.iconst 1, 1) := by decide +kernel
theorem d4_14 : decode jdk_42_method_154_code 14 = .ok (.goto 4, 3) := by decide +kernel
theorem d4_17 : decode jdk_42_method_154_code 17 = .ok (.iconst 0, 1) := by decide +kernel
theorem d4_18 : decode jdk_42_method_154_code 18 = .ok (.ireturn, 1) := by decide +kernel
theorem ef_rmL1 (m : MethodId) (a1 : Addr) : entryFrame m #[(.ref a1)] 1 = mkF m 0 #[.val (.ref a1)] [] := by first | (simp [entryFrame, mkF, argsToLocals, Value.category]; done) | rfl
def QL1 (Z : State) (a1 : Addr) (cs : Int32) (h0 : Heap) (n0 : Nat) (v : Option Value) (h : Heap) (L : List Loc) : Prop := v = some (.int 1) ∧ Fr n0 L ∧ h = h0
set_option maxRecDepth 65536 in
set_option maxHeartbeats 40000000 in
theorem rmL1 (l : Launch) (Z : State) (a0 : Array Value) (hw : ∀ d ∈ tables_1, d.before a0 Z = true) (ws : List Jvm.Cond) (a1 : Addr) (cs : Int32) (h0 : Heap) (n0 : Nat) (Z0 : n0 ≤ h0.size) (O0 : Old Z n0 h0) (S_CS : Sta Z Z.heap "java/lang/String" "COMPACT_STRINGS" "Z" (.int cs)) (hcs : ¬ cs = 0) (E1 : Exa Z h0 a1 "java/lang/String") (FC : Fld Z h0 a1 "java/lang/String" "coder" "B" (.int (0 : Int32))) :
    MetFree l (⟨"java/lang/String", "isLatin1", "()Z"⟩ : MethodName) (head1 (Jvm.Cond.code (⟨"java/lang/String", "isLatin1", "()Z"⟩ : MethodName) jdk_42_method_154_code 1 (some .boolean) :: ws) ({ frames := 0, cells := 0, slots := 0, locals := 0 } : Room)) (fun a U => a = #[(.ref a1)] ∧ Z.Warmed39 U.vm ∧ U.heap = h0) (fun _ _ _ _ _ => True) (fun _ U o U' => ∃ v L, o = .returned v ∧ QL1 Z a1 cs h0 n0 v U'.heap L ∧ FrameEnd U o U' L ({ frames := 0, cells := 0, slots := 0, locals := 0 } : Room).cells ({ frames := 0, cells := 0, slots := 0, locals := 0 } : Room).slots) := by
  refine MetFree.of_bodySF (plainFor_of_name pn_1) hisR ?_
  intro p e s m args below meth c s₁ Bd hml0 hP hK
  obtain ⟨rfl, hZ, hh⟩ := hP
  have hx := Bd.exec
  have hby := Bd.bytes
  have hml : c.maxLocals = 1 := hml0
  have hown : s.vm.findClass "java/lang/String" = some m.cls := findClass_of_methodNamed Bd.named
  have hnm := (name_of_methodNamed Bd.named Bd.method).1
  have X0 : Stand p l e ({ frames := 0, cells := 0, slots := 0, locals := 0 } : Room) s m #[(.ref a1)] below meth c s₁ [] 0 0 := Stand.of_body Bd
  have e0 : s₁.heap = h0 := by rw [← hh, Bd.state]; rfl
  have N0 := Fr.nil n0
  have K0 := Keep.refl h0 []
  have go0 : Goes p e below s₁ (entryFrame m #[(.ref a1)] 1) s₁ (mkF m 0 #[.val (.ref a1)] []) := fun t k => castTop (ef_rmL1 m a1) k
  obtain ⟨T1, X1, e1, st1⟩ := getS2 X0 hx hZ hown (host := "") (Or.inl (hw _ (List.mem_of_getElem? (i := 30) rfl))) Via.refl e0 (S_CS.ext O0.2) (g := (mkF m 0 #[.val (.ref a1)] [])) rfl (hb hby d4_0)
  have go2 : Goes p e below s₁ (entryFrame m #[(.ref a1)] 1) T1 (mkF m 3 #[.val (.ref a1)] [(.int cs)]) := fun t k => go0 t (st1 t k)
  have go3 : Goes p e below s₁ (entryFrame m #[(.ref a1)] 1) T1 (mkF m 7 #[.val (.ref a1)] [(.ref a1)]) := fun t k => by
    refine go2 t ?_
    refine XS.ifNo X1.here hx rfl (hb hby d4_3) rfl (Jvm.Free.XT.i0_eq_f hcs) ?_
    show Steps p.tables e below (T1.setTop (mkF m 6 #[.val (.ref a1)] [])) _
    refine XS.aloadN X1.here hx rfl (hb hby d4_6) rfl rfl ?_
    show Steps p.tables e below (T1.setTop (mkF m 7 #[.val (.ref a1)] [(.ref a1)])) _
    exact k
  obtain ⟨T4, X4, e4, st4⟩ := getF X1 hx hZ hown (host := "") (Or.inl (hw _ (List.mem_of_getElem? (i := 31) rfl))) Via.refl e1 FC (g := (mkF m 7 #[.val (.ref a1)] [(.ref a1)])) rfl rfl (hb hby d4_7)
  have go5 : Goes p e below s₁ (entryFrame m #[(.ref a1)] 1) T4 (mkF m 10 #[.val (.ref a1)] [(.int (0 : Int32))]) := fun t k => go3 t (st4 t k)
  have go6 : Goes p e below s₁ (entryFrame m #[(.ref a1)] 1) T4 (mkF m 18 #[.val (.ref a1)] [(.int (1 : Int32))]) := fun t k => by
    refine go5 t ?_
    refine XS.ifNo X4.here hx rfl (hb hby d4_10) rfl (Jvm.Free.XT.i0_ne_f (by decide)) ?_
    show Steps p.tables e below (T4.setTop (mkF m 13 #[.val (.ref a1)] [])) _
    refine XS.iconst X4.here hx rfl (hb hby d4_13) ?_
    show Steps p.tables e below (T4.setTop (mkF m 14 #[.val (.ref a1)] [(.int (1 : Int32))])) _
    refine XS.goto X4.here hx rfl (pc0 := 14) (pc' := 18) rfl (hb hby d4_14) (by decide) (by decide) ?_
    show Steps p.tables e below (T4.setTop (mkF m 18 #[.val (.ref a1)] [(.int (1 : Int32))])) _
    exact k
  obtain ⟨fs, hr, hrun, hended, hW, hsame⟩ := X4.leave (v := some (.int (1 : Int32))) (fun h => by rw [Bd.returns] at h; cases h)
  refine ⟨_, _, go6 _ ?_, hrun, hended, _, _, rfl, ?_, ⟨_, rfl⟩, hW, hsame.mono (by decide) (by decide)⟩
  · exact retN X4 hx (t := .boolean) Bd.returns (by simp) (hb hby d4_18) hr
  · show QL1 Z _ _ _ _ _ T4.heap _
    rw [e4]
    exact ⟨rfl, N0, rfl⟩
theorem pd_3 : parseMethodDescriptor "()B" = some ⟨[], some .byte⟩ := by decide +kernel
theorem d5_0 : decode jdk_42_method_54_code 0 = .ok (.aload_n 0, 1) := by decide +kernel
theorem d5_1 : decode jdk_42_method_54_code 1 = .ok (.getfield 9, 3) := by decide +kernel
theorem d5_4 : decode jdk_42_method_54_code 4 = .ok (.arraylength, 1) := by decide +kernel
theorem d5_5 : decode jdk_42_method_54_code 5 = .ok (.aload_n 0, 1) := by decide +kernel
theorem d5_6 : decode jdk_42_method_54_code 6 = .ok (.invokevirtual 335, 3) := by decide +kernel
theorem d5_9 : decode jdk_42_method_54_code 9 = .ok (.ishr, 1) := by decide +kernel
theorem d5_10 : decode jdk_42_method_54_code 10 = .ok (.ireturn, 1) := by decide +kernel
theorem ef_rmLe (m : MethodId) (a1 : Addr) : entryFrame m #[(.ref a1)] 1 = mkF m 0 #[.val (.ref a1)] [] := by first | (simp [entryFrame, mkF, argsToLocals, Value.category]; done) | rfl
def QLe (Z : State) (a1 : Addr) (b1 : Addr) (k1 : ClassId) (cs : Int32) (h0 : Heap) (n0 : Nat) (v : Option Value) (h : Heap) (L : List Loc) : Prop := v = some (.int 7) ∧ Fr n0 L ∧ h = h0
set_option maxRecDepth 65536 in
set_option maxHeartbeats 40000000 in
theorem rmLe (l : Launch) (Z : State) (a0 : Array Value) (hw : ∀ d ∈ tables_1, d.before a0 Z = true) (ws : List Jvm.Cond) (a1 : Addr) (b1 : Addr) (k1 : ClassId) (cs : Int32) (h0 : Heap) (n0 : Nat) (Z0 : n0 ≤ h0.size) (O0 : Old Z n0 h0) (S_CS : Sta Z Z.heap "java/lang/String" "COMPACT_STRINGS" "Z" (.int cs)) (hcs : ¬ cs = 0) (E1 : Exa Z h0 a1 "java/lang/String") (FC : Fld Z h0 a1 "java/lang/String" "coder" "B" (.int (0 : Int32))) (FV : Fld Z h0 a1 "java/lang/String" "value" "[B" (.ref b1)) (V1 : Arv Z h0 b1 k1 .byte 7 [(.int (40 : Int32)), (.int (41 : Int32)), (.int (91 : Int32)), (.int (93 : Int32)), (.int (123 : Int32)), (.int (125 : Int32)), (.int (44 : Int32))] (.int (0 : Int32))) :
    MetFree l (⟨"java/lang/String", "length", "()I"⟩ : MethodName) (head1 (Jvm.Cond.code (⟨"java/lang/String", "length", "()I"⟩ : MethodName) jdk_42_method_54_code 1 (some .int) :: ws) ({ frames := 1, cells := 0, slots := 0, locals := 13 } : Room)) (fun a U => a = #[(.ref a1)] ∧ Z.Warmed39 U.vm ∧ U.heap = h0) (fun _ _ _ _ _ => True) (fun _ U o U' => ∃ v L, o = .returned v ∧ QLe Z a1 b1 k1 cs h0 n0 v U'.heap L ∧ FrameEnd U o U' L ({ frames := 1, cells := 0, slots := 0, locals := 13 } : Room).cells ({ frames := 1, cells := 0, slots := 0, locals := 13 } : Room).slots) := by
  refine MetFree.of_bodySF (plainFor_of_name pn_1) hisR ?_
  intro p e s m args below meth c s₁ Bd hml0 hP hK
  obtain ⟨rfl, hZ, hh⟩ := hP
  have hx := Bd.exec
  have hby := Bd.bytes
  have hml : c.maxLocals = 1 := hml0
  have hown : s.vm.findClass "java/lang/String" = some m.cls := findClass_of_methodNamed Bd.named
  have hnm := (name_of_methodNamed Bd.named Bd.method).1
  have X0 : Stand p l e ({ frames := 1, cells := 0, slots := 0, locals := 13 } : Room) s m #[(.ref a1)] below meth c s₁ [] 0 0 := Stand.of_body Bd
  have e0 : s₁.heap = h0 := by rw [← hh, Bd.state]; rfl
  have N0 := Fr.nil n0
  have K0 := Keep.refl h0 []
  have go0 : Goes p e below s₁ (entryFrame m #[(.ref a1)] 1) s₁ (mkF m 0 #[.val (.ref a1)] []) := fun t k => castTop (ef_rmLe m a1) k
  have go1 : Goes p e below s₁ (entryFrame m #[(.ref a1)] 1) s₁ (mkF m 1 #[.val (.ref a1)] [(.ref a1)]) := fun t k => by
    refine go0 t ?_
    refine XS.aloadN X0.here hx rfl (hb hby d5_0) rfl rfl ?_
    show Steps p.tables e below (s₁.setTop (mkF m 1 #[.val (.ref a1)] [(.ref a1)])) _
    exact k
  obtain ⟨T2, X2, e2, st2⟩ := getF X0 hx hZ hown (host := "") (Or.inl (hw _ (List.mem_of_getElem? (i := 32) rfl))) Via.refl e0 FV (g := (mkF m 1 #[.val (.ref a1)] [(.ref a1)])) rfl rfl (hb hby d5_1)
  have go3 : Goes p e below s₁ (entryFrame m #[(.ref a1)] 1) T2 (mkF m 4 #[.val (.ref a1)] [(.ref b1)]) := fun t k => go1 t (st2 t k)
  obtain ⟨cl4, Ar4, kq4, Sz4, Nn4, Hs4, Gf4⟩ := id (V1)
  have go5 : Goes p e below s₁ (entryFrame m #[(.ref a1)] 1) T2 (mkF m 6 #[.val (.ref a1)] [(.ref a1), (.int (7 : Int32))]) := fun t k => by
    refine go3 t ?_
    refine X2.arraylength hx (own_hp e2 Ar4.1) (State.isArrayOf_alike hZ.alike Ar4.2.1) (g := (mkF m 4 #[.val (.ref a1)] [(.ref b1)])) rfl rfl (hb hby d5_4) _ ?_
    rw [len_of Sz4 Nn4]
    show Steps p.tables e below (T2.setTop (mkF m 5 #[.val (.ref a1)] [(.int (7 : Int32))])) _
    refine XS.aloadN X2.here hx rfl (hb hby d5_5) rfl rfl ?_
    show Steps p.tables e below (T2.setTop (mkF m 6 #[.val (.ref a1)] [(.ref a1), (.int (7 : Int32))])) _
    exact k
  obtain ⟨cq6, kq6, q6a, q6b, q6c⟩ := isOf hZ e2 E1
  obtain ⟨_, _, ⟨T6, L6, k6, n6⟩, -, X6, ⟨Lc6, hQ6, l6, y6, z6⟩, st6⟩ := X2.virtualBack hx (y := (⟨"java/lang/String", "coder", "()B"⟩ : MethodName)) (z := (⟨"java/lang/String", "coder", "()B"⟩ : MethodName)) hown (mvT hZ (hw _ (List.mem_of_getElem? (i := 38) rfl))) (mvT hZ (hw _ (List.mem_of_getElem? (i := 39) rfl))) (notFace_of_selects (args := #[]) (mvT hZ (hw _ (List.mem_of_getElem? (i := 41) rfl)))) (mvT hZ (hw _ (List.mem_of_getElem? (i := 41) rfl))) (mvT hZ (hw _ (List.mem_of_getElem? (i := 40) rfl))) (by decide) (backOf (W := 1) (rmCo l Z a0 hw [] a1 cs h0 n0 Z0 O0 S_CS hcs E1 FC) hZ (hw _ (List.mem_of_getElem? (i := 42) rfl)) (hw _ (List.mem_of_getElem? (i := 8) rfl)) (by decide) (by decide)) q6a q6c (g := (mkF m 6 #[.val (.ref a1)] [(.ref a1), (.int (7 : Int32))])) rfl (by rw [hml]; rfl) (Steps.refl _) (argsL := []) (rest := [(.int (7 : Int32))]) (lenOf pd_3 rfl) rfl (by show 2 * 0 + _ ≤ _; exact Nat.le_of_eq rfl) (hb hby d5_6) (fun _ _ => ⟨rfl, e2, (by decide : 0 + 0 ≤ ({ frames := 1, cells := 0, slots := 0, locals := 13 } : Room).cells), (by decide : 0 + 0 ≤ ({ frames := 1, cells := 0, slots := 0, locals := 13 } : Room).slots)⟩)
  dsimp only [Pt.U, Pt.locs, Pt.cells, Pt.slots] at X6 l6 y6 z6 st6 hQ6
  subst l6 y6 z6
  obtain ⟨rfl, N6q, e6⟩ := hQ6
  have N6 := Fr.app N0 N6q
  have go7 : Goes p e below s₁ (entryFrame m #[(.ref a1)] 1) T6 (mkF m 9 #[.val (.ref a1)] [(.int (0 : Int32)), (.int (7 : Int32))]) := fun t k => go5 t (st6.trans k)
  have go8 : Goes p e below s₁ (entryFrame m #[(.ref a1)] 1) T6 (mkF m 10 #[.val (.ref a1)] [(.int (7 : Int32))]) := fun t k => by
    refine go7 t ?_
    refine XS.ishr X6.here hx rfl (hb hby d5_9) rfl ?_
    show Steps p.tables e below (T6.setTop (mkF m 10 #[.val (.ref a1)] [(.int (7 : Int32))])) _
    exact k
  obtain ⟨fs, hr, hrun, hended, hW, hsame⟩ := X6.leave (v := some (.int (7 : Int32))) (fun h => by rw [Bd.returns] at h; cases h)
  refine ⟨_, _, go8 _ ?_, hrun, hended, _, _, rfl, ?_, ⟨_, rfl⟩, hW, hsame.mono (by decide) (by decide)⟩
  · exact retI X6 hx Bd.returns (hb hby d5_10) hr
  · show QLe Z _ _ _ _ _ _ _ T6.heap _
    rw [e6]
    exact ⟨rfl, N6, rfl⟩
theorem pd_4 : parseMethodDescriptor "()Z" = some ⟨[], some .boolean⟩ := by decide +kernel
theorem pd_5 : parseMethodDescriptor "()I" = some ⟨[], some .int⟩ := by decide +kernel
theorem d3_0 : decode jdk_42_method_80_code 0 = .ok (.aload_n 0, 1) := by decide +kernel
theorem d3_1 : decode jdk_42_method_80_code 1 = .ok (.invokevirtual 492, 3) := by decide +kernel
theorem d3_4 : decode jdk_42_method_80_code 4 = .ok (.ifCond .eq 19, 3) := by decide +kernel
theorem d3_7 : decode jdk_42_method_80_code 7 = .ok (.aload_n 0, 1) := by decide +kernel
theorem d3_8 : decode jdk_42_method_80_code 8 = .ok (.getfield 9, 3) := by decide +kernel
theorem d3_11 : decode jdk_42_method_80_code 11 = .ok (.iload_n 1, 1) := by decide +kernel
theorem d3_12 : decode jdk_42_method_80_code 12 = .ok (.iload_n 2, 1) := by decide +kernel
theorem d3_13 : decode jdk_42_method_80_code 13 = .ok (.aload_n 0, 1) := by decide +kernel
theorem d3_14 : decode jdk_42_method_80_code 14 = .ok (.invokevirtual 505, 3) := by decide +kernel
theorem d3_17 : decode jdk_42_method_80_code 17 = .ok (.invokestatic 637, 3) := by decide +kernel
theorem d3_20 : decode jdk_42_method_80_code 20 = .ok (.goto 16, 3) := by decide +kernel
theorem d3_23 : decode jdk_42_method_80_code 23 = .ok (.aload_n 0, 1) := by decide +kernel
theorem d3_24 : decode jdk_42_method_80_code 24 = .ok (.getfield 9, 3) := by decide +kernel
theorem d3_27 : decode jdk_42_method_80_code 27 = .ok (.iload_n 1, 1) := by decide +kernel
theorem d3_28 : decode jdk_42_method_80_code 28 = .ok (.iload_n 2, 1) := by decide +kernel
theorem d3_29 : decode jdk_42_method_80_code 29 = .ok (.aload_n 0, 1) := by decide +kernel
theorem d3_30 : decode jdk_42_method_80_code 30 = .ok (.invokevirtual 505, 3) := by decide +kernel
theorem d3_33 : decode jdk_42_method_80_code 33 = .ok (.invokestatic 640, 3) := by decide +kernel
theorem d3_36 : decode jdk_42_method_80_code 36 = .ok (.ireturn, 1) := by decide +kernel
theorem ef_rmI2 (m : MethodId) (a1 : Addr) (cc : Int32) : entryFrame m #[(.ref a1), (.int cc), (.int (0 : Int32))] 3 = mkF m 0 #[.val (.ref a1), .val (.int cc), .val (.int (0 : Int32))] [] := by first | (simp [entryFrame, mkF, argsToLocals, Value.category]; done) | rfl
def QI2 (Z : State) (a1 : Addr) (cc : Int32) (b1 : Addr) (k1 : ClassId) (cs : Int32) (h0 : Heap) (n0 : Nat) (v : Option Value) (h : Heap) (L : List Loc) : Prop := v = some (.int (own_io cc)) ∧ Fr n0 L ∧ h = h0
set_option maxRecDepth 65536 in
set_option maxHeartbeats 40000000 in
theorem rmI2 (l : Launch) (Z : State) (a0 : Array Value) (hw : ∀ d ∈ tables_1, d.before a0 Z = true) (ws : List Jvm.Cond) (a1 : Addr) (cc : Int32) (b1 : Addr) (k1 : ClassId) (cs : Int32) (h0 : Heap) (n0 : Nat) (Z0 : n0 ≤ h0.size) (O0 : Old Z n0 h0) (S_CS : Sta Z Z.heap "java/lang/String" "COMPACT_STRINGS" "Z" (.int cs)) (hcs : ¬ cs = 0) (E1 : Exa Z h0 a1 "java/lang/String") (FC : Fld Z h0 a1 "java/lang/String" "coder" "B" (.int (0 : Int32))) (FV : Fld Z h0 a1 "java/lang/String" "value" "[B" (.ref b1)) (V1 : Arv Z h0 b1 k1 .byte 7 [(.int (40 : Int32)), (.int (41 : Int32)), (.int (91 : Int32)), (.int (93 : Int32)), (.int (123 : Int32)), (.int (125 : Int32)), (.int (44 : Int32))] (.int (0 : Int32))) :
    MetFree l (⟨"java/lang/String", "indexOf", "(II)I"⟩ : MethodName) (head1 (Jvm.Cond.code (⟨"java/lang/String", "indexOf", "(II)I"⟩ : MethodName) jdk_42_method_80_code 3 (some .int) :: ws) ({ frames := 2, cells := 0, slots := 0, locals := 32 } : Room)) (fun a U => a = #[(.ref a1), (.int cc), (.int (0 : Int32))] ∧ Z.Warmed39 U.vm ∧ U.heap = h0) (fun _ _ _ _ _ => True) (fun _ U o U' => ∃ v L, o = .returned v ∧ QI2 Z a1 cc b1 k1 cs h0 n0 v U'.heap L ∧ FrameEnd U o U' L ({ frames := 2, cells := 0, slots := 0, locals := 32 } : Room).cells ({ frames := 2, cells := 0, slots := 0, locals := 32 } : Room).slots) := by
  refine MetFree.of_bodySF (plainFor_of_name pn_1) hisR ?_
  intro p e s m args below meth c s₁ Bd hml0 hP hK
  obtain ⟨rfl, hZ, hh⟩ := hP
  have hx := Bd.exec
  have hby := Bd.bytes
  have hml : c.maxLocals = 3 := hml0
  have hown : s.vm.findClass "java/lang/String" = some m.cls := findClass_of_methodNamed Bd.named
  have hnm := (name_of_methodNamed Bd.named Bd.method).1
  have X0 : Stand p l e ({ frames := 2, cells := 0, slots := 0, locals := 32 } : Room) s m #[(.ref a1), (.int cc), (.int (0 : Int32))] below meth c s₁ [] 0 0 := Stand.of_body Bd
  have e0 : s₁.heap = h0 := by rw [← hh, Bd.state]; rfl
  have N0 := Fr.nil n0
  have K0 := Keep.refl h0 []
  have go0 : Goes p e below s₁ (entryFrame m #[(.ref a1), (.int cc), (.int (0 : Int32))] 3) s₁ (mkF m 0 #[.val (.ref a1), .val (.int cc), .val (.int (0 : Int32))] []) := fun t k => castTop (ef_rmI2 m a1 cc) k
  have go1 : Goes p e below s₁ (entryFrame m #[(.ref a1), (.int cc), (.int (0 : Int32))] 3) s₁ (mkF m 1 #[.val (.ref a1), .val (.int cc), .val (.int (0 : Int32))] [(.ref a1)]) := fun t k => by
    refine go0 t ?_
    refine XS.aloadN X0.here hx rfl (hb hby d3_0) rfl rfl ?_
    show Steps p.tables e below (s₁.setTop (mkF m 1 #[.val (.ref a1), .val (.int cc), .val (.int (0 : Int32))] [(.ref a1)])) _
    exact k
  obtain ⟨cq2, kq2, q2a, q2b, q2c⟩ := isOf hZ e0 E1
  obtain ⟨_, _, ⟨T2, L2, k2, n2⟩, -, X2, ⟨Lc2, hQ2, l2, y2, z2⟩, st2⟩ := X0.virtualBack hx (y := (⟨"java/lang/String", "isLatin1", "()Z"⟩ : MethodName)) (z := (⟨"java/lang/String", "isLatin1", "()Z"⟩ : MethodName)) hown (mvT hZ (hw _ (List.mem_of_getElem? (i := 25) rfl))) (mvT hZ (hw _ (List.mem_of_getElem? (i := 26) rfl))) (notFace_of_selects (args := #[]) (mvT hZ (hw _ (List.mem_of_getElem? (i := 28) rfl)))) (mvT hZ (hw _ (List.mem_of_getElem? (i := 28) rfl))) (mvT hZ (hw _ (List.mem_of_getElem? (i := 27) rfl))) (by decide) (backOf (W := 0) (rmL1 l Z a0 hw [] a1 cs h0 n0 Z0 O0 S_CS hcs E1 FC) hZ (hw _ (List.mem_of_getElem? (i := 29) rfl)) (hw _ (List.mem_of_getElem? (i := 8) rfl)) (by decide) (by decide)) q2a q2c (g := (mkF m 1 #[.val (.ref a1), .val (.int cc), .val (.int (0 : Int32))] [(.ref a1)])) rfl (by rw [hml]; rfl) (Steps.refl _) (argsL := []) (rest := []) (lenOf pd_4 rfl) rfl (by show 2 * 0 + _ ≤ _; exact Nat.le_of_eq rfl) (hb hby d3_1) (fun _ _ => ⟨rfl, e0, (by decide : 0 + 0 ≤ ({ frames := 2, cells := 0, slots := 0, locals := 32 } : Room).cells), (by decide : 0 + 0 ≤ ({ frames := 2, cells := 0, slots := 0, locals := 32 } : Room).slots)⟩)
  dsimp only [Pt.U, Pt.locs, Pt.cells, Pt.slots] at X2 l2 y2 z2 st2 hQ2
  subst l2 y2 z2
  obtain ⟨rfl, N2q, e2⟩ := hQ2
  have N2 := Fr.app N0 N2q
  have go3 : Goes p e below s₁ (entryFrame m #[(.ref a1), (.int cc), (.int (0 : Int32))] 3) T2 (mkF m 4 #[.val (.ref a1), .val (.int cc), .val (.int (0 : Int32))] [(.int (1 : Int32))]) := fun t k => go1 t (st2.trans k)
  have go4 : Goes p e below s₁ (entryFrame m #[(.ref a1), (.int cc), (.int (0 : Int32))] 3) T2 (mkF m 8 #[.val (.ref a1), .val (.int cc), .val (.int (0 : Int32))] [(.ref a1)]) := fun t k => by
    refine go3 t ?_
    refine XS.ifNo X2.here hx rfl (hb hby d3_4) rfl (Jvm.Free.XT.i0_eq_f (by decide)) ?_
    show Steps p.tables e below (T2.setTop (mkF m 7 #[.val (.ref a1), .val (.int cc), .val (.int (0 : Int32))] [])) _
    refine XS.aloadN X2.here hx rfl (hb hby d3_7) rfl rfl ?_
    show Steps p.tables e below (T2.setTop (mkF m 8 #[.val (.ref a1), .val (.int cc), .val (.int (0 : Int32))] [(.ref a1)])) _
    exact k
  obtain ⟨T5, X5, e5, st5⟩ := getF X2 hx hZ hown (host := "") (Or.inl (hw _ (List.mem_of_getElem? (i := 32) rfl))) Via.refl e2 FV (g := (mkF m 8 #[.val (.ref a1), .val (.int cc), .val (.int (0 : Int32))] [(.ref a1)])) rfl rfl (hb hby d3_8)
  have go6 : Goes p e below s₁ (entryFrame m #[(.ref a1), (.int cc), (.int (0 : Int32))] 3) T5 (mkF m 11 #[.val (.ref a1), .val (.int cc), .val (.int (0 : Int32))] [(.ref b1)]) := fun t k => go4 t (st5 t k)
  have go7 : Goes p e below s₁ (entryFrame m #[(.ref a1), (.int cc), (.int (0 : Int32))] 3) T5 (mkF m 14 #[.val (.ref a1), .val (.int cc), .val (.int (0 : Int32))] [(.ref a1), (.int (0 : Int32)), (.int cc), (.ref b1)]) := fun t k => by
    refine go6 t ?_
    refine XS.iloadN X5.here hx rfl (hb hby d3_11) rfl ?_
    show Steps p.tables e below (T5.setTop (mkF m 12 #[.val (.ref a1), .val (.int cc), .val (.int (0 : Int32))] [(.int cc), (.ref b1)])) _
    refine XS.iloadN X5.here hx rfl (hb hby d3_12) rfl ?_
    show Steps p.tables e below (T5.setTop (mkF m 13 #[.val (.ref a1), .val (.int cc), .val (.int (0 : Int32))] [(.int (0 : Int32)), (.int cc), (.ref b1)])) _
    refine XS.aloadN X5.here hx rfl (hb hby d3_13) rfl rfl ?_
    show Steps p.tables e below (T5.setTop (mkF m 14 #[.val (.ref a1), .val (.int cc), .val (.int (0 : Int32))] [(.ref a1), (.int (0 : Int32)), (.int cc), (.ref b1)])) _
    exact k
  obtain ⟨cq8, kq8, q8a, q8b, q8c⟩ := isOf hZ e5 E1
  obtain ⟨_, _, ⟨T8, L8, k8, n8⟩, -, X8, ⟨Lc8, hQ8, l8, y8, z8⟩, st8⟩ := X5.virtualBack hx (y := (⟨"java/lang/String", "length", "()I"⟩ : MethodName)) (z := (⟨"java/lang/String", "length", "()I"⟩ : MethodName)) hown (mvT hZ (hw _ (List.mem_of_getElem? (i := 33) rfl))) (mvT hZ (hw _ (List.mem_of_getElem? (i := 34) rfl))) (notFace_of_selects (args := #[]) (mvT hZ (hw _ (List.mem_of_getElem? (i := 36) rfl)))) (mvT hZ (hw _ (List.mem_of_getElem? (i := 36) rfl))) (mvT hZ (hw _ (List.mem_of_getElem? (i := 35) rfl))) (by decide) (backOf (W := 3) (rmLe l Z a0 hw [] a1 b1 k1 cs h0 n0 Z0 O0 S_CS hcs E1 FC FV V1) hZ (hw _ (List.mem_of_getElem? (i := 37) rfl)) (hw _ (List.mem_of_getElem? (i := 8) rfl)) (by decide) (by decide)) q8a q8c (g := (mkF m 14 #[.val (.ref a1), .val (.int cc), .val (.int (0 : Int32))] [(.ref a1), (.int (0 : Int32)), (.int cc), (.ref b1)])) rfl (by rw [hml]; rfl) (Steps.refl _) (argsL := []) (rest := [(.int (0 : Int32)), (.int cc), (.ref b1)]) (lenOf pd_5 rfl) rfl (by show 2 * 0 + _ ≤ _; exact Nat.le_of_eq rfl) (hb hby d3_14) (fun _ _ => ⟨rfl, e5, (by decide : 0 + 0 ≤ ({ frames := 2, cells := 0, slots := 0, locals := 32 } : Room).cells), (by decide : 0 + 0 ≤ ({ frames := 2, cells := 0, slots := 0, locals := 32 } : Room).slots)⟩)
  dsimp only [Pt.U, Pt.locs, Pt.cells, Pt.slots] at X8 l8 y8 z8 st8 hQ8
  subst l8 y8 z8
  obtain ⟨rfl, N8q, e8⟩ := hQ8
  have N8 := Fr.app N2 N8q
  have go9 : Goes p e below s₁ (entryFrame m #[(.ref a1), (.int cc), (.int (0 : Int32))] 3) T8 (mkF m 17 #[.val (.ref a1), .val (.int cc), .val (.int (0 : Int32))] [(.int (7 : Int32)), (.int (0 : Int32)), (.int cc), (.ref b1)]) := fun t k => go7 t (st8.trans k)
  obtain ⟨_, _, ⟨T10, L10, k10, n10⟩, -, X10, ⟨Lc10, hQ10, l10, y10, z10⟩, st10⟩ := Jvm.LawKit.callS X8 hx (y := (⟨"java/lang/StringLatin1", "indexOf", "([BIII)I"⟩ : MethodName)) hown (mvT hZ (hw _ (List.mem_of_getElem? (i := 43) rfl))) (mvT hZ (hw _ (List.mem_of_getElem? (i := 44) rfl))) (mvT hZ (hw _ (List.mem_of_getElem? (i := 45) rfl))) (mvT hZ (hw _ (List.mem_of_getElem? (i := 46) rfl))) (by decide) (backOf (W := 0) (rmIo l Z a0 hw [] b1 cc k1 h0 n0 Z0 V1) hZ (hw _ (List.mem_of_getElem? (i := 46) rfl)) (hw _ (List.mem_of_getElem? (i := 45) rfl)) (by decide) (by decide)) (g := (mkF m 17 #[.val (.ref a1), .val (.int cc), .val (.int (0 : Int32))] [(.int (7 : Int32)), (.int (0 : Int32)), (.int cc), (.ref b1)])) rfl (by rw [hml]; rfl) (argsL := [(.ref b1), (.int cc), (.int (0 : Int32)), (.int (7 : Int32))]) (rest := []) (lenOf pd_2 rfl) rfl (by show 2 * 0 + _ ≤ _; exact Nat.le_of_eq rfl) (hb hby d3_17) (fun _ _ => ⟨rfl, e8, (by decide : 0 + 0 ≤ ({ frames := 2, cells := 0, slots := 0, locals := 32 } : Room).cells), (by decide : 0 + 0 ≤ ({ frames := 2, cells := 0, slots := 0, locals := 32 } : Room).slots)⟩)
  dsimp only [Pt.U, Pt.locs, Pt.cells, Pt.slots] at X10 l10 y10 z10 st10 hQ10
  subst l10 y10 z10
  obtain ⟨rfl, N10q, e10⟩ := hQ10
  have N10 := Fr.app N8 N10q
  have go11 : Goes p e below s₁ (entryFrame m #[(.ref a1), (.int cc), (.int (0 : Int32))] 3) T10 (mkF m 20 #[.val (.ref a1), .val (.int cc), .val (.int (0 : Int32))] [(.int (own_io cc))]) := fun t k => go9 t (st10 t k)
  have go12 : Goes p e below s₁ (entryFrame m #[(.ref a1), (.int cc), (.int (0 : Int32))] 3) T10 (mkF m 36 #[.val (.ref a1), .val (.int cc), .val (.int (0 : Int32))] [(.int (own_io cc))]) := fun t k => by
    refine go11 t ?_
    refine XS.goto X10.here hx rfl (pc0 := 20) (pc' := 36) rfl (hb hby d3_20) (by decide) (by decide) ?_
    show Steps p.tables e below (T10.setTop (mkF m 36 #[.val (.ref a1), .val (.int cc), .val (.int (0 : Int32))] [(.int (own_io cc))])) _
    exact k
  obtain ⟨fs, hr, hrun, hended, hW, hsame⟩ := X10.leave (v := some (.int (own_io cc))) (fun h => by rw [Bd.returns] at h; cases h)
  refine ⟨_, _, go12 _ ?_, hrun, hended, _, _, rfl, ?_, ⟨_, rfl⟩, hW, hsame.mono (by decide) (by decide)⟩
  · exact retI X10 hx Bd.returns (hb hby d3_36) hr
  · show QI2 Z _ _ _ _ _ _ _ _ T10.heap _
    rw [e10]
    exact ⟨rfl, N10, rfl⟩
theorem d2_0 : decode jdk_42_method_79_code 0 = .ok (.aload_n 0, 1) := by decide +kernel
theorem d2_1 : decode jdk_42_method_79_code 1 = .ok (.iload_n 1, 1) := by decide +kernel
theorem d2_2 : decode jdk_42_method_79_code 2 = .ok (.iconst 0, 1) := by decide +kernel
theorem d2_3 : decode jdk_42_method_79_code 3 = .ok (.invokevirtual 633, 3) := by decide +kernel
theorem d2_6 : decode jdk_42_method_79_code 6 = .ok (.ireturn, 1) := by decide +kernel
theorem ef_rmI1 (m : MethodId) (a1 : Addr) (cc : Int32) : entryFrame m #[(.ref a1), (.int cc)] 2 = mkF m 0 #[.val (.ref a1), .val (.int cc)] [] := by first | (simp [entryFrame, mkF, argsToLocals, Value.category]; done) | rfl
def QI1 (Z : State) (a1 : Addr) (cc : Int32) (b1 : Addr) (k1 : ClassId) (cs : Int32) (h0 : Heap) (n0 : Nat) (v : Option Value) (h : Heap) (L : List Loc) : Prop := v = some (.int (own_io cc)) ∧ Fr n0 L ∧ h = h0
set_option maxRecDepth 65536 in
set_option maxHeartbeats 40000000 in
theorem rmI1 (l : Launch) (Z : State) (a0 : Array Value) (hw : ∀ d ∈ tables_1, d.before a0 Z = true) (ws : List Jvm.Cond) (a1 : Addr) (cc : Int32) (b1 : Addr) (k1 : ClassId) (cs : Int32) (h0 : Heap) (n0 : Nat) (Z0 : n0 ≤ h0.size) (O0 : Old Z n0 h0) (S_CS : Sta Z Z.heap "java/lang/String" "COMPACT_STRINGS" "Z" (.int cs)) (hcs : ¬ cs = 0) (E1 : Exa Z h0 a1 "java/lang/String") (FC : Fld Z h0 a1 "java/lang/String" "coder" "B" (.int (0 : Int32))) (FV : Fld Z h0 a1 "java/lang/String" "value" "[B" (.ref b1)) (V1 : Arv Z h0 b1 k1 .byte 7 [(.int (40 : Int32)), (.int (41 : Int32)), (.int (91 : Int32)), (.int (93 : Int32)), (.int (123 : Int32)), (.int (125 : Int32)), (.int (44 : Int32))] (.int (0 : Int32))) :
    MetFree l (⟨"java/lang/String", "indexOf", "(I)I"⟩ : MethodName) (head1 (Jvm.Cond.code (⟨"java/lang/String", "indexOf", "(I)I"⟩ : MethodName) jdk_42_method_79_code 2 (some .int) :: ws) ({ frames := 3, cells := 0, slots := 0, locals := 46 } : Room)) (fun a U => a = #[(.ref a1), (.int cc)] ∧ Z.Warmed39 U.vm ∧ U.heap = h0) (fun _ _ _ _ _ => True) (fun _ U o U' => ∃ v L, o = .returned v ∧ QI1 Z a1 cc b1 k1 cs h0 n0 v U'.heap L ∧ FrameEnd U o U' L ({ frames := 3, cells := 0, slots := 0, locals := 46 } : Room).cells ({ frames := 3, cells := 0, slots := 0, locals := 46 } : Room).slots) := by
  refine MetFree.of_bodySF (plainFor_of_name pn_1) hisR ?_
  intro p e s m args below meth c s₁ Bd hml0 hP hK
  obtain ⟨rfl, hZ, hh⟩ := hP
  have hx := Bd.exec
  have hby := Bd.bytes
  have hml : c.maxLocals = 2 := hml0
  have hown : s.vm.findClass "java/lang/String" = some m.cls := findClass_of_methodNamed Bd.named
  have hnm := (name_of_methodNamed Bd.named Bd.method).1
  have X0 : Stand p l e ({ frames := 3, cells := 0, slots := 0, locals := 46 } : Room) s m #[(.ref a1), (.int cc)] below meth c s₁ [] 0 0 := Stand.of_body Bd
  have e0 : s₁.heap = h0 := by rw [← hh, Bd.state]; rfl
  have N0 := Fr.nil n0
  have K0 := Keep.refl h0 []
  have go0 : Goes p e below s₁ (entryFrame m #[(.ref a1), (.int cc)] 2) s₁ (mkF m 0 #[.val (.ref a1), .val (.int cc)] []) := fun t k => castTop (ef_rmI1 m a1 cc) k
  have go1 : Goes p e below s₁ (entryFrame m #[(.ref a1), (.int cc)] 2) s₁ (mkF m 3 #[.val (.ref a1), .val (.int cc)] [(.int (0 : Int32)), (.int cc), (.ref a1)]) := fun t k => by
    refine go0 t ?_
    refine XS.aloadN X0.here hx rfl (hb hby d2_0) rfl rfl ?_
    show Steps p.tables e below (s₁.setTop (mkF m 1 #[.val (.ref a1), .val (.int cc)] [(.ref a1)])) _
    refine XS.iloadN X0.here hx rfl (hb hby d2_1) rfl ?_
    show Steps p.tables e below (s₁.setTop (mkF m 2 #[.val (.ref a1), .val (.int cc)] [(.int cc), (.ref a1)])) _
    refine XS.iconst X0.here hx rfl (hb hby d2_2) ?_
    show Steps p.tables e below (s₁.setTop (mkF m 3 #[.val (.ref a1), .val (.int cc)] [(.int (0 : Int32)), (.int cc), (.ref a1)])) _
    exact k
  obtain ⟨cq2, kq2, q2a, q2b, q2c⟩ := isOf hZ e0 E1
  obtain ⟨_, _, ⟨T2, L2, k2, n2⟩, -, X2, ⟨Lc2, hQ2, l2, y2, z2⟩, st2⟩ := X0.virtualBack hx (y := (⟨"java/lang/String", "indexOf", "(II)I"⟩ : MethodName)) (z := (⟨"java/lang/String", "indexOf", "(II)I"⟩ : MethodName)) hown (mvT hZ (hw _ (List.mem_of_getElem? (i := 20) rfl))) (mvT hZ (hw _ (List.mem_of_getElem? (i := 21) rfl))) (notFace_of_selects (args := #[]) (mvT hZ (hw _ (List.mem_of_getElem? (i := 23) rfl)))) (mvT hZ (hw _ (List.mem_of_getElem? (i := 23) rfl))) (mvT hZ (hw _ (List.mem_of_getElem? (i := 22) rfl))) (by decide) (backOf (W := 0) (rmI2 l Z a0 hw [] a1 cc b1 k1 cs h0 n0 Z0 O0 S_CS hcs E1 FC FV V1) hZ (hw _ (List.mem_of_getElem? (i := 24) rfl)) (hw _ (List.mem_of_getElem? (i := 8) rfl)) (by decide) (by decide)) q2a q2c (g := (mkF m 3 #[.val (.ref a1), .val (.int cc)] [(.int (0 : Int32)), (.int cc), (.ref a1)])) rfl (by rw [hml]; rfl) (Steps.refl _) (argsL := [(.int cc), (.int (0 : Int32))]) (rest := []) (lenOf pd_1 rfl) rfl (by show 2 * 0 + _ ≤ _; exact Nat.le_of_eq rfl) (hb hby d2_3) (fun _ _ => ⟨rfl, e0, (by decide : 0 + 0 ≤ ({ frames := 3, cells := 0, slots := 0, locals := 46 } : Room).cells), (by decide : 0 + 0 ≤ ({ frames := 3, cells := 0, slots := 0, locals := 46 } : Room).slots)⟩)
  dsimp only [Pt.U, Pt.locs, Pt.cells, Pt.slots] at X2 l2 y2 z2 st2 hQ2
  subst l2 y2 z2
  obtain ⟨rfl, N2q, e2⟩ := hQ2
  have N2 := Fr.app N0 N2q
  have go3 : Goes p e below s₁ (entryFrame m #[(.ref a1), (.int cc)] 2) T2 (mkF m 6 #[.val (.ref a1), .val (.int cc)] [(.int (own_io cc))]) := fun t k => go1 t (st2.trans k)
  obtain ⟨fs, hr, hrun, hended, hW, hsame⟩ := X2.leave (v := some (.int (own_io cc))) (fun h => by rw [Bd.returns] at h; cases h)
  refine ⟨_, _, go3 _ ?_, hrun, hended, _, _, rfl, ?_, ⟨_, rfl⟩, hW, hsame.mono (by decide) (by decide)⟩
  · exact retI X2 hx Bd.returns (hb hby d2_6) hr
  · show QI1 Z _ _ _ _ _ _ _ _ T2.heap _
    rw [e2]
    exact ⟨rfl, N2, rfl⟩
theorem pd_6 : parseMethodDescriptor "(I)I" = some ⟨[.int], some .int⟩ := by decide +kernel
theorem d1_0 : decode prog_46_method_10_code 0 = .ok (.ldc 107, 2) := by decide +kernel
theorem d1_2 : decode prog_46_method_10_code 2 = .ok (.iload_n 0, 1) := by decide +kernel
theorem d1_3 : decode prog_46_method_10_code 3 = .ok (.invokevirtual 104, 3) := by decide +kernel
theorem d1_6 : decode prog_46_method_10_code 6 = .ok (.ifCond .lt 7, 3) := by decide +kernel
theorem d1_9 : decode prog_46_method_10_code 9 = .ok (.iconst 1, 1) := by decide +kernel
theorem d1_10 : decode prog_46_method_10_code 10 = .ok (.goto 4, 3) := by decide +kernel
theorem d1_13 : decode prog_46_method_10_code 13 = .ok (.iconst 0, 1) := by decide +kernel
theorem d1_14 : decode prog_46_method_10_code 14 = .ok (.ireturn, 1) := by decide +kernel
theorem pn_2 : plainName "com/example/lazy_lasso/lazylasso/Lexer" = true := by first | (simp [plainName, overriddenIn]; done) | decide +kernel
theorem ef_rmSp (m : MethodId) (cc : Int32) : entryFrame m #[(.int cc)] 1 = mkF m 0 #[.val (.int cc)] [] := by first | (simp [entryFrame, mkF, argsToLocals, Value.category]; done) | rfl
def QSp (Z : State) (cc : Int32) (cs : Int32) (h0 : Heap) (n0 : Nat) (v : Option Value) (h : Heap) (L : List Loc) : Prop := v = some (.int (own_is cc)) ∧ Fr n0 L ∧ Keep h0 h []
set_option maxRecDepth 65536 in
set_option maxHeartbeats 40000000 in
theorem rmSp (l : Launch) (Z : State) (a0 : Array Value) (hw : ∀ d ∈ tables_1, d.before a0 Z = true) (ws : List Jvm.Cond) (cc : Int32) (cs : Int32) (h0 : Heap) (n0 : Nat) (Z0 : n0 ≤ h0.size) (hEL : EW Z a0 consts_1) (O0 : Old Z n0 h0) (S_CS : Sta Z Z.heap "java/lang/String" "COMPACT_STRINGS" "Z" (.int cs)) (hcs : ¬ cs = 0) :
    MetFree l (⟨"com/example/lazy_lasso/lazylasso/Lexer", "isSpecial", "(C)Z"⟩ : MethodName) (head1 (Jvm.Cond.code (⟨"com/example/lazy_lasso/lazylasso/Lexer", "isSpecial", "(C)Z"⟩ : MethodName) prog_46_method_10_code 1 (some .boolean) :: ws) ({ frames := 4, cells := 2, slots := 32, locals := 59 } : Room)) (fun a U => a = #[(.int cc)] ∧ Z.Warmed39 U.vm ∧ U.heap = h0 ∧ CHv Z consts_1 U.vm h0) (fun _ _ _ _ _ => True) (fun _ U o U' => ∃ v L, o = .returned v ∧ QSp Z cc cs h0 n0 v U'.heap L ∧ CHr Z consts_1 U.vm U.heap U'.vm U'.heap ∧ ReturnedEndW U o U' L ({ frames := 4, cells := 2, slots := 32, locals := 59 } : Room).cells ({ frames := 4, cells := 2, slots := 32, locals := 59 } : Room).slots) := by
  refine MetFree.of_bodySF (plainFor_of_name pn_2) hisR ?_
  intro p e s m args below meth c s₁ Bd hml0 hP hK
  obtain ⟨rfl, hZ, hh, hC0⟩ := hP
  have hx := Bd.exec
  have hby := Bd.bytes
  have hml : c.maxLocals = 1 := hml0
  have hown : s.vm.findClass "com/example/lazy_lasso/lazylasso/Lexer" = some m.cls := findClass_of_methodNamed Bd.named
  have hnm := (name_of_methodNamed Bd.named Bd.method).1
  have X0 : Stand p l e ({ frames := 4, cells := 2, slots := 32, locals := 59 } : Room) (s.setVm s.vm) m #[(.int cc)] below meth c s₁ [] 0 0 := Stand.of_body Bd
  have e0 : s₁.heap = h0 := by rw [← hh, Bd.state]; rfl
  have N0 := Fr.nil n0
  have K0 := Keep.refl h0 []
  have go0 : Goes p e below s₁ (entryFrame m #[(.int cc)] 1) s₁ (mkF m 0 #[.val (.int cc)] []) := fun t k => castTop (ef_rmSp m cc) k
  have C0 : CHr Z consts_1 s.vm h0 s.vm h0 := CHr.refl hC0
  have hS0 : s.Since s.vm 0 := (State.WarmedH.refl s).since 0
  have hk0 : 0 ≤ h0.size := Nat.zero_le _
  have hZ : Z.Warmed39 (s.setVm s.vm).vm := hZ
  have hown : (s.setVm s.vm).vm.findClass "com/example/lazy_lasso/lazylasso/Lexer" = some m.cls := hown
  obtain ⟨sa1, T1, h1, k1, sb1, kb1, X1, e1, E1, hS1, hkq1, hZ, hown, Ea1, Fc1, Fv1, Vb1, ltA1, ltB1, Cl1, -, Sf1, st1⟩ := ldcCH X0 hx hZ hown (hw _ (List.mem_of_getElem? (i := 7) rfl)) (fun d hd => hw d (own_sa d hd)) e0 hS0 hk0 hEL (List.mem_of_getElem? (i := 0) rfl) C0.1 (vs := [(.int (40 : Int32)), (.int (41 : Int32)), (.int (91 : Int32)), (.int (93 : Int32)), (.int (123 : Int32)), (.int (125 : Int32)), (.int (44 : Int32))]) (z := (7 : Int32)) ⟨by decide, rfl⟩ (by decide) rfl (g := (mkF m 0 #[.val (.int cc)] [])) rfl (hb hby d1_0) (n := 28) (by decide) (by decide) (by decide) (by decide)
  have C2 := C0.trans (CHr.ext E1 C0.1)
  have O3 := O0.ext E1
  have Z4 := Nat.le_trans Z0 E1.1
  have K5 := K0.ext E1
  have hk6 := Nat.le_trans hk0 E1.1
  have C7 := C0.trans Cl1
  have go8 : Goes p e below s₁ (entryFrame m #[(.int cc)] 1) T1 (mkF m 2 #[.val (.int cc)] [(.ref sa1)]) := fun t k => go0 t (st1 t k)
  have go9 : Goes p e below s₁ (entryFrame m #[(.int cc)] 1) T1 (mkF m 3 #[.val (.int cc)] [(.int cc), (.ref sa1)]) := fun t k => by
    refine go8 t ?_
    refine XS.iloadN X1.here hx rfl (hb hby d1_2) rfl ?_
    show Steps p.tables e below (T1.setTop (mkF m 3 #[.val (.int cc)] [(.int cc), (.ref sa1)])) _
    exact k
  obtain ⟨cq10, kq10, q10a, q10b, q10c⟩ := isOf hZ e1 Ea1
  obtain ⟨_, _, ⟨T10, L10, k10, n10⟩, -, X10, ⟨Lc10, hQ10, l10, y10, z10⟩, st10⟩ := X1.virtualBack hx (y := (⟨"java/lang/String", "indexOf", "(I)I"⟩ : MethodName)) (z := (⟨"java/lang/String", "indexOf", "(I)I"⟩ : MethodName)) hown (mvT hZ (hw _ (List.mem_of_getElem? (i := 15) rfl))) (mvT hZ (hw _ (List.mem_of_getElem? (i := 16) rfl))) (notFace_of_selects (args := #[]) (mvT hZ (hw _ (List.mem_of_getElem? (i := 18) rfl)))) (mvT hZ (hw _ (List.mem_of_getElem? (i := 18) rfl))) (mvT hZ (hw _ (List.mem_of_getElem? (i := 17) rfl))) (by decide) (backOf (W := 0) (rmI1 l Z a0 hw [] sa1 cc sb1 kb1 cs h1 n0 Z4 O3 S_CS hcs Ea1 Fc1 Fv1 Vb1) hZ (hw _ (List.mem_of_getElem? (i := 19) rfl)) (hw _ (List.mem_of_getElem? (i := 8) rfl)) (by decide) (by decide)) q10a q10c (g := (mkF m 3 #[.val (.int cc)] [(.int cc), (.ref sa1)])) rfl (by rw [hml]; rfl) (Steps.refl _) (argsL := [(.int cc)]) (rest := []) (lenOf pd_6 rfl) rfl (by show 2 * 0 + _ ≤ _; exact Nat.le_of_eq rfl) (hb hby d1_3) (fun _ _ => ⟨rfl, e1, (by decide : 2 + 0 ≤ ({ frames := 4, cells := 2, slots := 32, locals := 59 } : Room).cells), (by decide : 32 + 0 ≤ ({ frames := 4, cells := 2, slots := 32, locals := 59 } : Room).slots)⟩)
  dsimp only [Pt.U, Pt.locs, Pt.cells, Pt.slots] at X10 l10 y10 z10 st10 hQ10
  subst l10 y10 z10
  obtain ⟨rfl, N10q, e10⟩ := hQ10
  have N10 := Fr.app N0 N10q
  have go11 : Goes p e below s₁ (entryFrame m #[(.int cc)] 1) T10 (mkF m 6 #[.val (.int cc)] [(.int (own_io cc))]) := fun t k => go9 t (st10.trans k)
  by_cases hc12 : (own_io cc) < (0 : Int32)
  · have go13 : Goes p e below s₁ (entryFrame m #[(.int cc)] 1) T10 (mkF m 14 #[.val (.int cc)] [(.int (0 : Int32))]) := fun t k => by
      refine go11 t ?_
      refine XS.ifYes X10.here hx rfl (pc0 := 6) (pc' := 13) rfl (hb hby d1_6) rfl (Jvm.Free.XT.i0_lt_t hc12) (by decide) (by decide) ?_
      show Steps p.tables e below (T10.setTop (mkF m 13 #[.val (.int cc)] [])) _
      refine XS.iconst X10.here hx rfl (hb hby d1_13) ?_
      show Steps p.tables e below (T10.setTop (mkF m 14 #[.val (.int cc)] [(.int (0 : Int32))])) _
      exact k
    obtain ⟨fs, hr, hrun, hended, hW⟩ := X10.leaveW hS1 (by rw [e10]; exact hkq1) (v := some (.int (0 : Int32))) (fun h => by rw [Bd.returns] at h; cases h)
    refine ⟨_, _, go13 _ ?_, hrun, hended, _, _, rfl, ?_, (by rw [hh]; show CHr Z consts_1 s.vm h0 T10.vm T10.heap; rw [e10]; exact C7.trans (CHv.at X10 hZ hEL C7.1)), ⟨_, rfl⟩, hW.2.1, hW.2.2.1, hW.2.2.2.mono (by decide) (by decide)⟩
    · exact retN X10 hx (t := .boolean) Bd.returns (by simp) (hb hby d1_14) hr
    · show QSp Z _ _ _ _ _ T10.heap _
      rw [e10]
      exact ⟨by simp [own_is, hc12], N10, K5⟩
  · have go14 : Goes p e below s₁ (entryFrame m #[(.int cc)] 1) T10 (mkF m 14 #[.val (.int cc)] [(.int (1 : Int32))]) := fun t k => by
      refine go11 t ?_
      refine XS.ifNo X10.here hx rfl (hb hby d1_6) rfl (Jvm.Free.XT.i0_lt_f hc12) ?_
      show Steps p.tables e below (T10.setTop (mkF m 9 #[.val (.int cc)] [])) _
      refine XS.iconst X10.here hx rfl (hb hby d1_9) ?_
      show Steps p.tables e below (T10.setTop (mkF m 10 #[.val (.int cc)] [(.int (1 : Int32))])) _
      refine XS.goto X10.here hx rfl (pc0 := 10) (pc' := 14) rfl (hb hby d1_10) (by decide) (by decide) ?_
      show Steps p.tables e below (T10.setTop (mkF m 14 #[.val (.int cc)] [(.int (1 : Int32))])) _
      exact k
    obtain ⟨fs, hr, hrun, hended, hW⟩ := X10.leaveW hS1 (by rw [e10]; exact hkq1) (v := some (.int (1 : Int32))) (fun h => by rw [Bd.returns] at h; cases h)
    refine ⟨_, _, go14 _ ?_, hrun, hended, _, _, rfl, ?_, (by rw [hh]; show CHr Z consts_1 s.vm h0 T10.vm T10.heap; rw [e10]; exact C7.trans (CHv.at X10 hZ hEL C7.1)), ⟨_, rfl⟩, hW.2.1, hW.2.2.1, hW.2.2.2.mono (by decide) (by decide)⟩
    · exact retN X10 hx (t := .boolean) Bd.returns (by simp) (hb hby d1_14) hr
    · show QSp Z _ _ _ _ _ T10.heap _
      rw [e10]
      exact ⟨by simp [own_is, hc12], N10, K5⟩
theorem own_tab (x : Int32) : ∃ c : Int32, ([(.int (40 : Int32)), (.int (41 : Int32)), (.int (91 : Int32)), (.int (93 : Int32)), (.int (123 : Int32)), (.int (125 : Int32)), (.int (44 : Int32)), (.int (60 : Int32)), (.int (62 : Int32)), (.int (32 : Int32)), (.int (46 : Int32)), (.int (59 : Int32)), (.int (10 : Int32)), (.int (0 : Int32)), (.int (65535 : Int32)), (.int (45 : Int32))] : List Value).getD (((x &&& (2147483647 : Int32)) % (16 : Int32))).toNatClampNeg (.int (0 : Int32)) = .int c ∧ 0 ≤ c.toInt ∧ c.toInt < 65536 := by
  obtain ⟨h1, h2⟩ := own_rem x 16 (by decide)
  have e11 : (16 : Int32).toInt = 16 := rfl
  rw [e11] at h2
  generalize ((x &&& (2147483647 : Int32)) % (16 : Int32)) = z at *
  have : z.toInt = 0 ∨ z.toInt = 1 ∨ z.toInt = 2 ∨ z.toInt = 3 ∨ z.toInt = 4 ∨ z.toInt = 5 ∨ z.toInt = 6 ∨ z.toInt = 7 ∨ z.toInt = 8 ∨ z.toInt = 9 ∨ z.toInt = 10 ∨ z.toInt = 11 ∨ z.toInt = 12 ∨ z.toInt = 13 ∨ z.toInt = 14 ∨ z.toInt = 15 := by omega
  rcases this with h | h | h | h | h | h | h | h | h | h | h | h | h | h | h | h <;> (have := own_of_toInt h; subst this; exact ⟨_, rfl, by decide, by decide⟩)
theorem pd_7 : parseMethodDescriptor "(C)Z" = some ⟨[.char], some .boolean⟩ := by decide +kernel
theorem pn_3 : plainName "com/example/lazy_lasso/lazylasso/LexerIsSpecialPinLaw" = true := by first | (simp [plainName, overriddenIn]; done) | decide +kernel
theorem ef_rm0 (m : MethodId) (p1 : Int32) (p2 : Int32) : entryFrame m #[(.int p1), (.int p2)] maxLocals = mkF m 0 #[.val (.int p1), .val (.int p2), .unset, .unset, .unset] [] := by first | (simp [entryFrame, mkF, argsToLocals, Value.category, maxLocals]; done) | rfl
def Q0 (Z : State) (p1 : Int32) (p2 : Int32) (cs : Int32) (h0 : Heap) (n0 : Nat) (v : Option Value) (h : Heap) (L : List Loc) : Prop := v = some (.int 1) ∧ Fr n0 L
set_option maxRecDepth 65536 in
set_option maxHeartbeats 40000000 in
theorem rm0 (l : Launch) (Z : State) (a0 : Array Value) (hw : ∀ d ∈ tables_1, d.before a0 Z = true) (ws : List Jvm.Cond) (p1 : Int32) (p2 : Int32) (cs : Int32) (h0 : Heap) (n0 : Nat) (Z0 : n0 ≤ h0.size) (hEL : EW Z a0 consts_1) (O0 : Old Z n0 h0) (S_CS : Sta Z Z.heap "java/lang/String" "COMPACT_STRINGS" "Z" (.int cs)) (hcs : ¬ cs = 0) :
    MetFree l x (head1 (Jvm.Cond.code x code maxLocals ret :: ws) room_1) (fun a U => a = #[(.int p1), (.int p2)] ∧ Z.Warmed39 U.vm ∧ U.heap = h0 ∧ CHv Z consts_1 U.vm h0) (fun _ _ _ _ _ => True) (fun _ U o U' => ∃ v L, o = .returned v ∧ Q0 Z p1 p2 cs h0 n0 v U'.heap L ∧ CHr Z consts_1 U.vm U.heap U'.vm U'.heap ∧ ReturnedEndW U o U' L room_1.cells room_1.slots) := by
  refine MetFree.of_bodySF (plainFor_of_name pn_3) hisR ?_
  intro p e s m args below meth c s₁ Bd hml0 hP hK
  obtain ⟨rfl, hZ, hh, hC0⟩ := hP
  have hx := Bd.exec
  have hby := Bd.bytes
  have hml : c.maxLocals = 5 := hml0
  have hown : s.vm.findClass "com/example/lazy_lasso/lazylasso/LexerIsSpecialPinLaw" = some m.cls := findClass_of_methodNamed Bd.named
  have hnm := (name_of_methodNamed Bd.named Bd.method).1
  have X0 : Stand p l e room_1 (s.setVm s.vm) m #[(.int p1), (.int p2)] below meth c s₁ [] 0 0 := Stand.of_body Bd
  have e0 : s₁.heap = h0 := by rw [← hh, Bd.state]; rfl
  have N0 := Fr.nil n0
  have K0 := Keep.refl h0 []
  have go0 : Goes p e below s₁ (entryFrame m #[(.int p1), (.int p2)] maxLocals) s₁ (mkF m 0 #[.val (.int p1), .val (.int p2), .unset, .unset, .unset] []) := fun t k => castTop (ef_rm0 m p1 p2) k
  have C0 : CHr Z consts_1 s.vm h0 s.vm h0 := CHr.refl hC0
  have hS0 : s.Since s.vm 0 := (State.WarmedH.refl s).since 0
  have hk0 : 0 ≤ h0.size := Nat.zero_le _
  have hZ : Z.Warmed39 (s.setVm s.vm).vm := hZ
  have hown : (s.setVm s.vm).vm.findClass "com/example/lazy_lasso/lazylasso/LexerIsSpecialPinLaw" = some m.cls := hown
  have go1 : Goes p e below s₁ (entryFrame m #[(.int p1), (.int p2)] maxLocals) s₁ (mkF m 2 #[.val (.int p1), .val (.int p2), .unset, .unset, .unset] [(.int (16 : Int32))]) := fun t k => by
    refine go0 t ?_
    refine XS.bipush X0.here hx rfl (hb hby at_0) ?_
    show Steps p.tables e below (s₁.setTop (mkF m 2 #[.val (.int p1), .val (.int p2), .unset, .unset, .unset] [(.int (16 : Int32))])) _
    exact k
  obtain ⟨T2, h2, k2, X2, e2, E2, A2, st2⟩ := newP X0 hx hZ (hw _ (List.mem_of_getElem? (i := 0) rfl)) e0 (g := (mkF m 2 #[.val (.int p1), .val (.int p2), .unset, .unset, .unset] [(.int (16 : Int32))])) rfl (hb hby at_2) rfl (by decide) (cap := 16) (by decide) (by decide) (by decide) (by decide)
  obtain ⟨b2, g_b_b2⟩ : ∃ z, z = h0.size := ⟨_, rfl⟩
  have le_b2 : h0.size ≤ b2 := Nat.le_of_eq g_b_b2.symm
  have gn_b2 : n0 ≤ b2 := Nat.le_trans Z0 le_b2
  have sz_b2 : h0.size ≤ b2 := Nat.le_trans K0.1 le_b2
  rw [← g_b_b2] at A2 st2
  have C3 := C0.trans (CHr.ext E2 C0.1)
  have O4 := O0.ext E2
  have Z5 := Nat.le_trans Z0 E2.1
  have K6 := K0.ext E2
  have hk7 := Nat.le_trans hk0 E2.1
  have V8 : Arv Z h2 b2 k2 .char (16 : Int32) [(.int (0 : Int32)), (.int (0 : Int32)), (.int (0 : Int32)), (.int (0 : Int32)), (.int (0 : Int32)), (.int (0 : Int32)), (.int (0 : Int32)), (.int (0 : Int32)), (.int (0 : Int32)), (.int (0 : Int32)), (.int (0 : Int32)), (.int (0 : Int32)), (.int (0 : Int32)), (.int (0 : Int32)), (.int (0 : Int32)), (.int (0 : Int32))] (.int (0 : Int32)) := (Arv.new A2 (by decide)).pad (pad_rep [] (.int (0 : Int32)) 16)
  have go9 : Goes p e below s₁ (entryFrame m #[(.int p1), (.int p2)] maxLocals) T2 (mkF m 4 #[.val (.int p1), .val (.int p2), .unset, .unset, .unset] [(.ref b2)]) := fun t k => go1 t (st2 t k)
  have go10 : Goes p e below s₁ (entryFrame m #[(.int p1), (.int p2)] maxLocals) T2 (mkF m 8 #[.val (.int p1), .val (.int p2), .unset, .unset, .unset] [(.int (40 : Int32)), (.int (0 : Int32)), (.ref b2), (.ref b2)]) := fun t k => by
    refine go9 t ?_
    refine XS.dup X2.here hx rfl (hb hby at_4) rfl rfl ?_
    show Steps p.tables e below (T2.setTop (mkF m 5 #[.val (.int p1), .val (.int p2), .unset, .unset, .unset] [(.ref b2), (.ref b2)])) _
    refine XS.iconst X2.here hx rfl (hb hby at_5) ?_
    show Steps p.tables e below (T2.setTop (mkF m 6 #[.val (.int p1), .val (.int p2), .unset, .unset, .unset] [(.int (0 : Int32)), (.ref b2), (.ref b2)])) _
    refine XS.bipush X2.here hx rfl (hb hby at_6) ?_
    show Steps p.tables e below (T2.setTop (mkF m 8 #[.val (.int p1), .val (.int p2), .unset, .unset, .unset] [(.int (40 : Int32)), (.int (0 : Int32)), (.ref b2), (.ref b2)])) _
    exact k
  obtain ⟨cl11, Ar11, kq11, Sz11, Nn11, Hs11, Gf11⟩ := id (V8)
  have hin11 : ¬ ((0 : Int32) < 0 ∨ cl11.slots.size ≤ ((0 : Int32)).toNatClampNeg) := inb_of Sz11 ⟨by decide, by decide⟩
  obtain ⟨T12, h12, X12, e12, W12, st12⟩ := stC X2 hx hZ e2 Ar11 (j := (0 : Int32)) hin11 (g := (mkF m 8 #[.val (.int p1), .val (.int p2), .unset, .unset, .unset] [(.int (40 : Int32)), (.int (0 : Int32)), (.ref b2), (.ref b2)])) rfl rfl (hb hby at_8)
  have V13 : Arv Z h12 b2 k2 .char (16 : Int32) [(.int (40 : Int32)), (.int (0 : Int32)), (.int (0 : Int32)), (.int (0 : Int32)), (.int (0 : Int32)), (.int (0 : Int32)), (.int (0 : Int32)), (.int (0 : Int32)), (.int (0 : Int32)), (.int (0 : Int32)), (.int (0 : Int32)), (.int (0 : Int32)), (.int (0 : Int32)), (.int (0 : Int32)), (.int (0 : Int32)), (.int (0 : Int32))] (.int (0 : Int32)) := Arv.set Ar11 kq11 Sz11 Nn11 Hs11 Gf11 rfl W12 0 rfl (Nat.le_of_ble_eq_true rfl)
  have sf14 : Safe Z consts_1 s.vm h2 b2 := by obtain ⟨clz, Arz, -⟩ := id (V8); exact Safe.arr hZ.alike Arz (by decide)
  have C15 := C3.trans (CHr.wr W12 sf14 C3.1)
  have O16 := O4.wr W12 gn_b2
  have Z17 := Nat.le_trans Z5 (Nat.le_of_eq W12.size.symm)
  have K18 := K6.wr W12 (Or.inr sz_b2)
  have hk19 := Nat.le_trans hk7 (Nat.le_of_eq W12.size.symm)
  have N20 := Fr.snoc X12 N0 gn_b2
  have go21 : Goes p e below s₁ (entryFrame m #[(.int p1), (.int p2)] maxLocals) T12 (mkF m 9 #[.val (.int p1), .val (.int p2), .unset, .unset, .unset] [(.ref b2)]) := fun t k => go10 t (st12 t k)
  have go22 : Goes p e below s₁ (entryFrame m #[(.int p1), (.int p2)] maxLocals) T12 (mkF m 13 #[.val (.int p1), .val (.int p2), .unset, .unset, .unset] [(.int (41 : Int32)), (.int (1 : Int32)), (.ref b2), (.ref b2)]) := fun t k => by
    refine go21 t ?_
    refine XS.dup X12.here hx rfl (hb hby at_9) rfl rfl ?_
    show Steps p.tables e below (T12.setTop (mkF m 10 #[.val (.int p1), .val (.int p2), .unset, .unset, .unset] [(.ref b2), (.ref b2)])) _
    refine XS.iconst X12.here hx rfl (hb hby at_10) ?_
    show Steps p.tables e below (T12.setTop (mkF m 11 #[.val (.int p1), .val (.int p2), .unset, .unset, .unset] [(.int (1 : Int32)), (.ref b2), (.ref b2)])) _
    refine XS.bipush X12.here hx rfl (hb hby at_11) ?_
    show Steps p.tables e below (T12.setTop (mkF m 13 #[.val (.int p1), .val (.int p2), .unset, .unset, .unset] [(.int (41 : Int32)), (.int (1 : Int32)), (.ref b2), (.ref b2)])) _
    exact k
  obtain ⟨cl23, Ar23, kq23, Sz23, Nn23, Hs23, Gf23⟩ := id (V13)
  have hin23 : ¬ ((1 : Int32) < 0 ∨ cl23.slots.size ≤ ((1 : Int32)).toNatClampNeg) := inb_of Sz23 ⟨by decide, by decide⟩
  obtain ⟨T24, h24, X24, e24, W24, st24⟩ := stC X12 hx hZ e12 Ar23 (j := (1 : Int32)) hin23 (g := (mkF m 13 #[.val (.int p1), .val (.int p2), .unset, .unset, .unset] [(.int (41 : Int32)), (.int (1 : Int32)), (.ref b2), (.ref b2)])) rfl rfl (hb hby at_13)
  have V25 : Arv Z h24 b2 k2 .char (16 : Int32) [(.int (40 : Int32)), (.int (41 : Int32)), (.int (0 : Int32)), (.int (0 : Int32)), (.int (0 : Int32)), (.int (0 : Int32)), (.int (0 : Int32)), (.int (0 : Int32)), (.int (0 : Int32)), (.int (0 : Int32)), (.int (0 : Int32)), (.int (0 : Int32)), (.int (0 : Int32)), (.int (0 : Int32)), (.int (0 : Int32)), (.int (0 : Int32))] (.int (0 : Int32)) := Arv.set Ar23 kq23 Sz23 Nn23 Hs23 Gf23 rfl W24 1 rfl (Nat.le_of_ble_eq_true rfl)
  have sf26 : Safe Z consts_1 s.vm h12 b2 := by obtain ⟨clz, Arz, -⟩ := id (V13); exact Safe.arr hZ.alike Arz (by decide)
  have C27 := C15.trans (CHr.wr W24 sf26 C15.1)
  have O28 := O16.wr W24 gn_b2
  have Z29 := Nat.le_trans Z17 (Nat.le_of_eq W24.size.symm)
  have K30 := K18.wr W24 (Or.inr sz_b2)
  have hk31 := Nat.le_trans hk19 (Nat.le_of_eq W24.size.symm)
  have N32 := Fr.snoc X24 N20 gn_b2
  have go33 : Goes p e below s₁ (entryFrame m #[(.int p1), (.int p2)] maxLocals) T24 (mkF m 14 #[.val (.int p1), .val (.int p2), .unset, .unset, .unset] [(.ref b2)]) := fun t k => go22 t (st24 t k)
  have go34 : Goes p e below s₁ (entryFrame m #[(.int p1), (.int p2)] maxLocals) T24 (mkF m 18 #[.val (.int p1), .val (.int p2), .unset, .unset, .unset] [(.int (91 : Int32)), (.int (2 : Int32)), (.ref b2), (.ref b2)]) := fun t k => by
    refine go33 t ?_
    refine XS.dup X24.here hx rfl (hb hby at_14) rfl rfl ?_
    show Steps p.tables e below (T24.setTop (mkF m 15 #[.val (.int p1), .val (.int p2), .unset, .unset, .unset] [(.ref b2), (.ref b2)])) _
    refine XS.iconst X24.here hx rfl (hb hby at_15) ?_
    show Steps p.tables e below (T24.setTop (mkF m 16 #[.val (.int p1), .val (.int p2), .unset, .unset, .unset] [(.int (2 : Int32)), (.ref b2), (.ref b2)])) _
    refine XS.bipush X24.here hx rfl (hb hby at_16) ?_
    show Steps p.tables e below (T24.setTop (mkF m 18 #[.val (.int p1), .val (.int p2), .unset, .unset, .unset] [(.int (91 : Int32)), (.int (2 : Int32)), (.ref b2), (.ref b2)])) _
    exact k
  obtain ⟨cl35, Ar35, kq35, Sz35, Nn35, Hs35, Gf35⟩ := id (V25)
  have hin35 : ¬ ((2 : Int32) < 0 ∨ cl35.slots.size ≤ ((2 : Int32)).toNatClampNeg) := inb_of Sz35 ⟨by decide, by decide⟩
  obtain ⟨T36, h36, X36, e36, W36, st36⟩ := stC X24 hx hZ e24 Ar35 (j := (2 : Int32)) hin35 (g := (mkF m 18 #[.val (.int p1), .val (.int p2), .unset, .unset, .unset] [(.int (91 : Int32)), (.int (2 : Int32)), (.ref b2), (.ref b2)])) rfl rfl (hb hby at_18)
  have V37 : Arv Z h36 b2 k2 .char (16 : Int32) [(.int (40 : Int32)), (.int (41 : Int32)), (.int (91 : Int32)), (.int (0 : Int32)), (.int (0 : Int32)), (.int (0 : Int32)), (.int (0 : Int32)), (.int (0 : Int32)), (.int (0 : Int32)), (.int (0 : Int32)), (.int (0 : Int32)), (.int (0 : Int32)), (.int (0 : Int32)), (.int (0 : Int32)), (.int (0 : Int32)), (.int (0 : Int32))] (.int (0 : Int32)) := Arv.set Ar35 kq35 Sz35 Nn35 Hs35 Gf35 rfl W36 2 rfl (Nat.le_of_ble_eq_true rfl)
  have sf38 : Safe Z consts_1 s.vm h24 b2 := by obtain ⟨clz, Arz, -⟩ := id (V25); exact Safe.arr hZ.alike Arz (by decide)
  have C39 := C27.trans (CHr.wr W36 sf38 C27.1)
  have O40 := O28.wr W36 gn_b2
  have Z41 := Nat.le_trans Z29 (Nat.le_of_eq W36.size.symm)
  have K42 := K30.wr W36 (Or.inr sz_b2)
  have hk43 := Nat.le_trans hk31 (Nat.le_of_eq W36.size.symm)
  have N44 := Fr.snoc X36 N32 gn_b2
  have go45 : Goes p e below s₁ (entryFrame m #[(.int p1), (.int p2)] maxLocals) T36 (mkF m 19 #[.val (.int p1), .val (.int p2), .unset, .unset, .unset] [(.ref b2)]) := fun t k => go34 t (st36 t k)
  have go46 : Goes p e below s₁ (entryFrame m #[(.int p1), (.int p2)] maxLocals) T36 (mkF m 23 #[.val (.int p1), .val (.int p2), .unset, .unset, .unset] [(.int (93 : Int32)), (.int (3 : Int32)), (.ref b2), (.ref b2)]) := fun t k => by
    refine go45 t ?_
    refine XS.dup X36.here hx rfl (hb hby at_19) rfl rfl ?_
    show Steps p.tables e below (T36.setTop (mkF m 20 #[.val (.int p1), .val (.int p2), .unset, .unset, .unset] [(.ref b2), (.ref b2)])) _
    refine XS.iconst X36.here hx rfl (hb hby at_20) ?_
    show Steps p.tables e below (T36.setTop (mkF m 21 #[.val (.int p1), .val (.int p2), .unset, .unset, .unset] [(.int (3 : Int32)), (.ref b2), (.ref b2)])) _
    refine XS.bipush X36.here hx rfl (hb hby at_21) ?_
    show Steps p.tables e below (T36.setTop (mkF m 23 #[.val (.int p1), .val (.int p2), .unset, .unset, .unset] [(.int (93 : Int32)), (.int (3 : Int32)), (.ref b2), (.ref b2)])) _
    exact k
  obtain ⟨cl47, Ar47, kq47, Sz47, Nn47, Hs47, Gf47⟩ := id (V37)
  have hin47 : ¬ ((3 : Int32) < 0 ∨ cl47.slots.size ≤ ((3 : Int32)).toNatClampNeg) := inb_of Sz47 ⟨by decide, by decide⟩
  obtain ⟨T48, h48, X48, e48, W48, st48⟩ := stC X36 hx hZ e36 Ar47 (j := (3 : Int32)) hin47 (g := (mkF m 23 #[.val (.int p1), .val (.int p2), .unset, .unset, .unset] [(.int (93 : Int32)), (.int (3 : Int32)), (.ref b2), (.ref b2)])) rfl rfl (hb hby at_23)
  have V49 : Arv Z h48 b2 k2 .char (16 : Int32) [(.int (40 : Int32)), (.int (41 : Int32)), (.int (91 : Int32)), (.int (93 : Int32)), (.int (0 : Int32)), (.int (0 : Int32)), (.int (0 : Int32)), (.int (0 : Int32)), (.int (0 : Int32)), (.int (0 : Int32)), (.int (0 : Int32)), (.int (0 : Int32)), (.int (0 : Int32)), (.int (0 : Int32)), (.int (0 : Int32)), (.int (0 : Int32))] (.int (0 : Int32)) := Arv.set Ar47 kq47 Sz47 Nn47 Hs47 Gf47 rfl W48 3 rfl (Nat.le_of_ble_eq_true rfl)
  have sf50 : Safe Z consts_1 s.vm h36 b2 := by obtain ⟨clz, Arz, -⟩ := id (V37); exact Safe.arr hZ.alike Arz (by decide)
  have C51 := C39.trans (CHr.wr W48 sf50 C39.1)
  have O52 := O40.wr W48 gn_b2
  have Z53 := Nat.le_trans Z41 (Nat.le_of_eq W48.size.symm)
  have K54 := K42.wr W48 (Or.inr sz_b2)
  have hk55 := Nat.le_trans hk43 (Nat.le_of_eq W48.size.symm)
  have N56 := Fr.snoc X48 N44 gn_b2
  have go57 : Goes p e below s₁ (entryFrame m #[(.int p1), (.int p2)] maxLocals) T48 (mkF m 24 #[.val (.int p1), .val (.int p2), .unset, .unset, .unset] [(.ref b2)]) := fun t k => go46 t (st48 t k)
  have go58 : Goes p e below s₁ (entryFrame m #[(.int p1), (.int p2)] maxLocals) T48 (mkF m 28 #[.val (.int p1), .val (.int p2), .unset, .unset, .unset] [(.int (123 : Int32)), (.int (4 : Int32)), (.ref b2), (.ref b2)]) := fun t k => by
    refine go57 t ?_
    refine XS.dup X48.here hx rfl (hb hby at_24) rfl rfl ?_
    show Steps p.tables e below (T48.setTop (mkF m 25 #[.val (.int p1), .val (.int p2), .unset, .unset, .unset] [(.ref b2), (.ref b2)])) _
    refine XS.iconst X48.here hx rfl (hb hby at_25) ?_
    show Steps p.tables e below (T48.setTop (mkF m 26 #[.val (.int p1), .val (.int p2), .unset, .unset, .unset] [(.int (4 : Int32)), (.ref b2), (.ref b2)])) _
    refine XS.bipush X48.here hx rfl (hb hby at_26) ?_
    show Steps p.tables e below (T48.setTop (mkF m 28 #[.val (.int p1), .val (.int p2), .unset, .unset, .unset] [(.int (123 : Int32)), (.int (4 : Int32)), (.ref b2), (.ref b2)])) _
    exact k
  obtain ⟨cl59, Ar59, kq59, Sz59, Nn59, Hs59, Gf59⟩ := id (V49)
  have hin59 : ¬ ((4 : Int32) < 0 ∨ cl59.slots.size ≤ ((4 : Int32)).toNatClampNeg) := inb_of Sz59 ⟨by decide, by decide⟩
  obtain ⟨T60, h60, X60, e60, W60, st60⟩ := stC X48 hx hZ e48 Ar59 (j := (4 : Int32)) hin59 (g := (mkF m 28 #[.val (.int p1), .val (.int p2), .unset, .unset, .unset] [(.int (123 : Int32)), (.int (4 : Int32)), (.ref b2), (.ref b2)])) rfl rfl (hb hby at_28)
  have V61 : Arv Z h60 b2 k2 .char (16 : Int32) [(.int (40 : Int32)), (.int (41 : Int32)), (.int (91 : Int32)), (.int (93 : Int32)), (.int (123 : Int32)), (.int (0 : Int32)), (.int (0 : Int32)), (.int (0 : Int32)), (.int (0 : Int32)), (.int (0 : Int32)), (.int (0 : Int32)), (.int (0 : Int32)), (.int (0 : Int32)), (.int (0 : Int32)), (.int (0 : Int32)), (.int (0 : Int32))] (.int (0 : Int32)) := Arv.set Ar59 kq59 Sz59 Nn59 Hs59 Gf59 rfl W60 4 rfl (Nat.le_of_ble_eq_true rfl)
  have sf62 : Safe Z consts_1 s.vm h48 b2 := by obtain ⟨clz, Arz, -⟩ := id (V49); exact Safe.arr hZ.alike Arz (by decide)
  have C63 := C51.trans (CHr.wr W60 sf62 C51.1)
  have O64 := O52.wr W60 gn_b2
  have Z65 := Nat.le_trans Z53 (Nat.le_of_eq W60.size.symm)
  have K66 := K54.wr W60 (Or.inr sz_b2)
  have hk67 := Nat.le_trans hk55 (Nat.le_of_eq W60.size.symm)
  have N68 := Fr.snoc X60 N56 gn_b2
  have go69 : Goes p e below s₁ (entryFrame m #[(.int p1), (.int p2)] maxLocals) T60 (mkF m 29 #[.val (.int p1), .val (.int p2), .unset, .unset, .unset] [(.ref b2)]) := fun t k => go58 t (st60 t k)
  have go70 : Goes p e below s₁ (entryFrame m #[(.int p1), (.int p2)] maxLocals) T60 (mkF m 33 #[.val (.int p1), .val (.int p2), .unset, .unset, .unset] [(.int (125 : Int32)), (.int (5 : Int32)), (.ref b2), (.ref b2)]) := fun t k => by
    refine go69 t ?_
    refine XS.dup X60.here hx rfl (hb hby at_29) rfl rfl ?_
    show Steps p.tables e below (T60.setTop (mkF m 30 #[.val (.int p1), .val (.int p2), .unset, .unset, .unset] [(.ref b2), (.ref b2)])) _
    refine XS.iconst X60.here hx rfl (hb hby at_30) ?_
    show Steps p.tables e below (T60.setTop (mkF m 31 #[.val (.int p1), .val (.int p2), .unset, .unset, .unset] [(.int (5 : Int32)), (.ref b2), (.ref b2)])) _
    refine XS.bipush X60.here hx rfl (hb hby at_31) ?_
    show Steps p.tables e below (T60.setTop (mkF m 33 #[.val (.int p1), .val (.int p2), .unset, .unset, .unset] [(.int (125 : Int32)), (.int (5 : Int32)), (.ref b2), (.ref b2)])) _
    exact k
  obtain ⟨cl71, Ar71, kq71, Sz71, Nn71, Hs71, Gf71⟩ := id (V61)
  have hin71 : ¬ ((5 : Int32) < 0 ∨ cl71.slots.size ≤ ((5 : Int32)).toNatClampNeg) := inb_of Sz71 ⟨by decide, by decide⟩
  obtain ⟨T72, h72, X72, e72, W72, st72⟩ := stC X60 hx hZ e60 Ar71 (j := (5 : Int32)) hin71 (g := (mkF m 33 #[.val (.int p1), .val (.int p2), .unset, .unset, .unset] [(.int (125 : Int32)), (.int (5 : Int32)), (.ref b2), (.ref b2)])) rfl rfl (hb hby at_33)
  have V73 : Arv Z h72 b2 k2 .char (16 : Int32) [(.int (40 : Int32)), (.int (41 : Int32)), (.int (91 : Int32)), (.int (93 : Int32)), (.int (123 : Int32)), (.int (125 : Int32)), (.int (0 : Int32)), (.int (0 : Int32)), (.int (0 : Int32)), (.int (0 : Int32)), (.int (0 : Int32)), (.int (0 : Int32)), (.int (0 : Int32)), (.int (0 : Int32)), (.int (0 : Int32)), (.int (0 : Int32))] (.int (0 : Int32)) := Arv.set Ar71 kq71 Sz71 Nn71 Hs71 Gf71 rfl W72 5 rfl (Nat.le_of_ble_eq_true rfl)
  have sf74 : Safe Z consts_1 s.vm h60 b2 := by obtain ⟨clz, Arz, -⟩ := id (V61); exact Safe.arr hZ.alike Arz (by decide)
  have C75 := C63.trans (CHr.wr W72 sf74 C63.1)
  have O76 := O64.wr W72 gn_b2
  have Z77 := Nat.le_trans Z65 (Nat.le_of_eq W72.size.symm)
  have K78 := K66.wr W72 (Or.inr sz_b2)
  have hk79 := Nat.le_trans hk67 (Nat.le_of_eq W72.size.symm)
  have N80 := Fr.snoc X72 N68 gn_b2
  have go81 : Goes p e below s₁ (entryFrame m #[(.int p1), (.int p2)] maxLocals) T72 (mkF m 34 #[.val (.int p1), .val (.int p2), .unset, .unset, .unset] [(.ref b2)]) := fun t k => go70 t (st72 t k)
  have go82 : Goes p e below s₁ (entryFrame m #[(.int p1), (.int p2)] maxLocals) T72 (mkF m 39 #[.val (.int p1), .val (.int p2), .unset, .unset, .unset] [(.int (44 : Int32)), (.int (6 : Int32)), (.ref b2), (.ref b2)]) := fun t k => by
    refine go81 t ?_
    refine XS.dup X72.here hx rfl (hb hby at_34) rfl rfl ?_
    show Steps p.tables e below (T72.setTop (mkF m 35 #[.val (.int p1), .val (.int p2), .unset, .unset, .unset] [(.ref b2), (.ref b2)])) _
    refine XS.bipush X72.here hx rfl (hb hby at_35) ?_
    show Steps p.tables e below (T72.setTop (mkF m 37 #[.val (.int p1), .val (.int p2), .unset, .unset, .unset] [(.int (6 : Int32)), (.ref b2), (.ref b2)])) _
    refine XS.bipush X72.here hx rfl (hb hby at_37) ?_
    show Steps p.tables e below (T72.setTop (mkF m 39 #[.val (.int p1), .val (.int p2), .unset, .unset, .unset] [(.int (44 : Int32)), (.int (6 : Int32)), (.ref b2), (.ref b2)])) _
    exact k
  obtain ⟨cl83, Ar83, kq83, Sz83, Nn83, Hs83, Gf83⟩ := id (V73)
  have hin83 : ¬ ((6 : Int32) < 0 ∨ cl83.slots.size ≤ ((6 : Int32)).toNatClampNeg) := inb_of Sz83 ⟨by decide, by decide⟩
  obtain ⟨T84, h84, X84, e84, W84, st84⟩ := stC X72 hx hZ e72 Ar83 (j := (6 : Int32)) hin83 (g := (mkF m 39 #[.val (.int p1), .val (.int p2), .unset, .unset, .unset] [(.int (44 : Int32)), (.int (6 : Int32)), (.ref b2), (.ref b2)])) rfl rfl (hb hby at_39)
  have V85 : Arv Z h84 b2 k2 .char (16 : Int32) [(.int (40 : Int32)), (.int (41 : Int32)), (.int (91 : Int32)), (.int (93 : Int32)), (.int (123 : Int32)), (.int (125 : Int32)), (.int (44 : Int32)), (.int (0 : Int32)), (.int (0 : Int32)), (.int (0 : Int32)), (.int (0 : Int32)), (.int (0 : Int32)), (.int (0 : Int32)), (.int (0 : Int32)), (.int (0 : Int32)), (.int (0 : Int32))] (.int (0 : Int32)) := Arv.set Ar83 kq83 Sz83 Nn83 Hs83 Gf83 rfl W84 6 rfl (Nat.le_of_ble_eq_true rfl)
  have sf86 : Safe Z consts_1 s.vm h72 b2 := by obtain ⟨clz, Arz, -⟩ := id (V73); exact Safe.arr hZ.alike Arz (by decide)
  have C87 := C75.trans (CHr.wr W84 sf86 C75.1)
  have O88 := O76.wr W84 gn_b2
  have Z89 := Nat.le_trans Z77 (Nat.le_of_eq W84.size.symm)
  have K90 := K78.wr W84 (Or.inr sz_b2)
  have hk91 := Nat.le_trans hk79 (Nat.le_of_eq W84.size.symm)
  have N92 := Fr.snoc X84 N80 gn_b2
  have go93 : Goes p e below s₁ (entryFrame m #[(.int p1), (.int p2)] maxLocals) T84 (mkF m 40 #[.val (.int p1), .val (.int p2), .unset, .unset, .unset] [(.ref b2)]) := fun t k => go82 t (st84 t k)
  have go94 : Goes p e below s₁ (entryFrame m #[(.int p1), (.int p2)] maxLocals) T84 (mkF m 45 #[.val (.int p1), .val (.int p2), .unset, .unset, .unset] [(.int (60 : Int32)), (.int (7 : Int32)), (.ref b2), (.ref b2)]) := fun t k => by
    refine go93 t ?_
    refine XS.dup X84.here hx rfl (hb hby at_40) rfl rfl ?_
    show Steps p.tables e below (T84.setTop (mkF m 41 #[.val (.int p1), .val (.int p2), .unset, .unset, .unset] [(.ref b2), (.ref b2)])) _
    refine XS.bipush X84.here hx rfl (hb hby at_41) ?_
    show Steps p.tables e below (T84.setTop (mkF m 43 #[.val (.int p1), .val (.int p2), .unset, .unset, .unset] [(.int (7 : Int32)), (.ref b2), (.ref b2)])) _
    refine XS.bipush X84.here hx rfl (hb hby at_43) ?_
    show Steps p.tables e below (T84.setTop (mkF m 45 #[.val (.int p1), .val (.int p2), .unset, .unset, .unset] [(.int (60 : Int32)), (.int (7 : Int32)), (.ref b2), (.ref b2)])) _
    exact k
  obtain ⟨cl95, Ar95, kq95, Sz95, Nn95, Hs95, Gf95⟩ := id (V85)
  have hin95 : ¬ ((7 : Int32) < 0 ∨ cl95.slots.size ≤ ((7 : Int32)).toNatClampNeg) := inb_of Sz95 ⟨by decide, by decide⟩
  obtain ⟨T96, h96, X96, e96, W96, st96⟩ := stC X84 hx hZ e84 Ar95 (j := (7 : Int32)) hin95 (g := (mkF m 45 #[.val (.int p1), .val (.int p2), .unset, .unset, .unset] [(.int (60 : Int32)), (.int (7 : Int32)), (.ref b2), (.ref b2)])) rfl rfl (hb hby at_45)
  have V97 : Arv Z h96 b2 k2 .char (16 : Int32) [(.int (40 : Int32)), (.int (41 : Int32)), (.int (91 : Int32)), (.int (93 : Int32)), (.int (123 : Int32)), (.int (125 : Int32)), (.int (44 : Int32)), (.int (60 : Int32)), (.int (0 : Int32)), (.int (0 : Int32)), (.int (0 : Int32)), (.int (0 : Int32)), (.int (0 : Int32)), (.int (0 : Int32)), (.int (0 : Int32)), (.int (0 : Int32))] (.int (0 : Int32)) := Arv.set Ar95 kq95 Sz95 Nn95 Hs95 Gf95 rfl W96 7 rfl (Nat.le_of_ble_eq_true rfl)
  have sf98 : Safe Z consts_1 s.vm h84 b2 := by obtain ⟨clz, Arz, -⟩ := id (V85); exact Safe.arr hZ.alike Arz (by decide)
  have C99 := C87.trans (CHr.wr W96 sf98 C87.1)
  have O100 := O88.wr W96 gn_b2
  have Z101 := Nat.le_trans Z89 (Nat.le_of_eq W96.size.symm)
  have K102 := K90.wr W96 (Or.inr sz_b2)
  have hk103 := Nat.le_trans hk91 (Nat.le_of_eq W96.size.symm)
  have N104 := Fr.snoc X96 N92 gn_b2
  have go105 : Goes p e below s₁ (entryFrame m #[(.int p1), (.int p2)] maxLocals) T96 (mkF m 46 #[.val (.int p1), .val (.int p2), .unset, .unset, .unset] [(.ref b2)]) := fun t k => go94 t (st96 t k)
  have go106 : Goes p e below s₁ (entryFrame m #[(.int p1), (.int p2)] maxLocals) T96 (mkF m 51 #[.val (.int p1), .val (.int p2), .unset, .unset, .unset] [(.int (62 : Int32)), (.int (8 : Int32)), (.ref b2), (.ref b2)]) := fun t k => by
    refine go105 t ?_
    refine XS.dup X96.here hx rfl (hb hby at_46) rfl rfl ?_
    show Steps p.tables e below (T96.setTop (mkF m 47 #[.val (.int p1), .val (.int p2), .unset, .unset, .unset] [(.ref b2), (.ref b2)])) _
    refine XS.bipush X96.here hx rfl (hb hby at_47) ?_
    show Steps p.tables e below (T96.setTop (mkF m 49 #[.val (.int p1), .val (.int p2), .unset, .unset, .unset] [(.int (8 : Int32)), (.ref b2), (.ref b2)])) _
    refine XS.bipush X96.here hx rfl (hb hby at_49) ?_
    show Steps p.tables e below (T96.setTop (mkF m 51 #[.val (.int p1), .val (.int p2), .unset, .unset, .unset] [(.int (62 : Int32)), (.int (8 : Int32)), (.ref b2), (.ref b2)])) _
    exact k
  obtain ⟨cl107, Ar107, kq107, Sz107, Nn107, Hs107, Gf107⟩ := id (V97)
  have hin107 : ¬ ((8 : Int32) < 0 ∨ cl107.slots.size ≤ ((8 : Int32)).toNatClampNeg) := inb_of Sz107 ⟨by decide, by decide⟩
  obtain ⟨T108, h108, X108, e108, W108, st108⟩ := stC X96 hx hZ e96 Ar107 (j := (8 : Int32)) hin107 (g := (mkF m 51 #[.val (.int p1), .val (.int p2), .unset, .unset, .unset] [(.int (62 : Int32)), (.int (8 : Int32)), (.ref b2), (.ref b2)])) rfl rfl (hb hby at_51)
  have V109 : Arv Z h108 b2 k2 .char (16 : Int32) [(.int (40 : Int32)), (.int (41 : Int32)), (.int (91 : Int32)), (.int (93 : Int32)), (.int (123 : Int32)), (.int (125 : Int32)), (.int (44 : Int32)), (.int (60 : Int32)), (.int (62 : Int32)), (.int (0 : Int32)), (.int (0 : Int32)), (.int (0 : Int32)), (.int (0 : Int32)), (.int (0 : Int32)), (.int (0 : Int32)), (.int (0 : Int32))] (.int (0 : Int32)) := Arv.set Ar107 kq107 Sz107 Nn107 Hs107 Gf107 rfl W108 8 rfl (Nat.le_of_ble_eq_true rfl)
  have sf110 : Safe Z consts_1 s.vm h96 b2 := by obtain ⟨clz, Arz, -⟩ := id (V97); exact Safe.arr hZ.alike Arz (by decide)
  have C111 := C99.trans (CHr.wr W108 sf110 C99.1)
  have O112 := O100.wr W108 gn_b2
  have Z113 := Nat.le_trans Z101 (Nat.le_of_eq W108.size.symm)
  have K114 := K102.wr W108 (Or.inr sz_b2)
  have hk115 := Nat.le_trans hk103 (Nat.le_of_eq W108.size.symm)
  have N116 := Fr.snoc X108 N104 gn_b2
  have go117 : Goes p e below s₁ (entryFrame m #[(.int p1), (.int p2)] maxLocals) T108 (mkF m 52 #[.val (.int p1), .val (.int p2), .unset, .unset, .unset] [(.ref b2)]) := fun t k => go106 t (st108 t k)
  have go118 : Goes p e below s₁ (entryFrame m #[(.int p1), (.int p2)] maxLocals) T108 (mkF m 57 #[.val (.int p1), .val (.int p2), .unset, .unset, .unset] [(.int (32 : Int32)), (.int (9 : Int32)), (.ref b2), (.ref b2)]) := fun t k => by
    refine go117 t ?_
    refine XS.dup X108.here hx rfl (hb hby at_52) rfl rfl ?_
    show Steps p.tables e below (T108.setTop (mkF m 53 #[.val (.int p1), .val (.int p2), .unset, .unset, .unset] [(.ref b2), (.ref b2)])) _
    refine XS.bipush X108.here hx rfl (hb hby at_53) ?_
    show Steps p.tables e below (T108.setTop (mkF m 55 #[.val (.int p1), .val (.int p2), .unset, .unset, .unset] [(.int (9 : Int32)), (.ref b2), (.ref b2)])) _
    refine XS.bipush X108.here hx rfl (hb hby at_55) ?_
    show Steps p.tables e below (T108.setTop (mkF m 57 #[.val (.int p1), .val (.int p2), .unset, .unset, .unset] [(.int (32 : Int32)), (.int (9 : Int32)), (.ref b2), (.ref b2)])) _
    exact k
  obtain ⟨cl119, Ar119, kq119, Sz119, Nn119, Hs119, Gf119⟩ := id (V109)
  have hin119 : ¬ ((9 : Int32) < 0 ∨ cl119.slots.size ≤ ((9 : Int32)).toNatClampNeg) := inb_of Sz119 ⟨by decide, by decide⟩
  obtain ⟨T120, h120, X120, e120, W120, st120⟩ := stC X108 hx hZ e108 Ar119 (j := (9 : Int32)) hin119 (g := (mkF m 57 #[.val (.int p1), .val (.int p2), .unset, .unset, .unset] [(.int (32 : Int32)), (.int (9 : Int32)), (.ref b2), (.ref b2)])) rfl rfl (hb hby at_57)
  have V121 : Arv Z h120 b2 k2 .char (16 : Int32) [(.int (40 : Int32)), (.int (41 : Int32)), (.int (91 : Int32)), (.int (93 : Int32)), (.int (123 : Int32)), (.int (125 : Int32)), (.int (44 : Int32)), (.int (60 : Int32)), (.int (62 : Int32)), (.int (32 : Int32)), (.int (0 : Int32)), (.int (0 : Int32)), (.int (0 : Int32)), (.int (0 : Int32)), (.int (0 : Int32)), (.int (0 : Int32))] (.int (0 : Int32)) := Arv.set Ar119 kq119 Sz119 Nn119 Hs119 Gf119 rfl W120 9 rfl (Nat.le_of_ble_eq_true rfl)
  have sf122 : Safe Z consts_1 s.vm h108 b2 := by obtain ⟨clz, Arz, -⟩ := id (V109); exact Safe.arr hZ.alike Arz (by decide)
  have C123 := C111.trans (CHr.wr W120 sf122 C111.1)
  have O124 := O112.wr W120 gn_b2
  have Z125 := Nat.le_trans Z113 (Nat.le_of_eq W120.size.symm)
  have K126 := K114.wr W120 (Or.inr sz_b2)
  have hk127 := Nat.le_trans hk115 (Nat.le_of_eq W120.size.symm)
  have N128 := Fr.snoc X120 N116 gn_b2
  have go129 : Goes p e below s₁ (entryFrame m #[(.int p1), (.int p2)] maxLocals) T120 (mkF m 58 #[.val (.int p1), .val (.int p2), .unset, .unset, .unset] [(.ref b2)]) := fun t k => go118 t (st120 t k)
  have go130 : Goes p e below s₁ (entryFrame m #[(.int p1), (.int p2)] maxLocals) T120 (mkF m 63 #[.val (.int p1), .val (.int p2), .unset, .unset, .unset] [(.int (46 : Int32)), (.int (10 : Int32)), (.ref b2), (.ref b2)]) := fun t k => by
    refine go129 t ?_
    refine XS.dup X120.here hx rfl (hb hby at_58) rfl rfl ?_
    show Steps p.tables e below (T120.setTop (mkF m 59 #[.val (.int p1), .val (.int p2), .unset, .unset, .unset] [(.ref b2), (.ref b2)])) _
    refine XS.bipush X120.here hx rfl (hb hby at_59) ?_
    show Steps p.tables e below (T120.setTop (mkF m 61 #[.val (.int p1), .val (.int p2), .unset, .unset, .unset] [(.int (10 : Int32)), (.ref b2), (.ref b2)])) _
    refine XS.bipush X120.here hx rfl (hb hby at_61) ?_
    show Steps p.tables e below (T120.setTop (mkF m 63 #[.val (.int p1), .val (.int p2), .unset, .unset, .unset] [(.int (46 : Int32)), (.int (10 : Int32)), (.ref b2), (.ref b2)])) _
    exact k
  obtain ⟨cl131, Ar131, kq131, Sz131, Nn131, Hs131, Gf131⟩ := id (V121)
  have hin131 : ¬ ((10 : Int32) < 0 ∨ cl131.slots.size ≤ ((10 : Int32)).toNatClampNeg) := inb_of Sz131 ⟨by decide, by decide⟩
  obtain ⟨T132, h132, X132, e132, W132, st132⟩ := stC X120 hx hZ e120 Ar131 (j := (10 : Int32)) hin131 (g := (mkF m 63 #[.val (.int p1), .val (.int p2), .unset, .unset, .unset] [(.int (46 : Int32)), (.int (10 : Int32)), (.ref b2), (.ref b2)])) rfl rfl (hb hby at_63)
  have V133 : Arv Z h132 b2 k2 .char (16 : Int32) [(.int (40 : Int32)), (.int (41 : Int32)), (.int (91 : Int32)), (.int (93 : Int32)), (.int (123 : Int32)), (.int (125 : Int32)), (.int (44 : Int32)), (.int (60 : Int32)), (.int (62 : Int32)), (.int (32 : Int32)), (.int (46 : Int32)), (.int (0 : Int32)), (.int (0 : Int32)), (.int (0 : Int32)), (.int (0 : Int32)), (.int (0 : Int32))] (.int (0 : Int32)) := Arv.set Ar131 kq131 Sz131 Nn131 Hs131 Gf131 rfl W132 10 rfl (Nat.le_of_ble_eq_true rfl)
  have sf134 : Safe Z consts_1 s.vm h120 b2 := by obtain ⟨clz, Arz, -⟩ := id (V121); exact Safe.arr hZ.alike Arz (by decide)
  have C135 := C123.trans (CHr.wr W132 sf134 C123.1)
  have O136 := O124.wr W132 gn_b2
  have Z137 := Nat.le_trans Z125 (Nat.le_of_eq W132.size.symm)
  have K138 := K126.wr W132 (Or.inr sz_b2)
  have hk139 := Nat.le_trans hk127 (Nat.le_of_eq W132.size.symm)
  have N140 := Fr.snoc X132 N128 gn_b2
  have go141 : Goes p e below s₁ (entryFrame m #[(.int p1), (.int p2)] maxLocals) T132 (mkF m 64 #[.val (.int p1), .val (.int p2), .unset, .unset, .unset] [(.ref b2)]) := fun t k => go130 t (st132 t k)
  have go142 : Goes p e below s₁ (entryFrame m #[(.int p1), (.int p2)] maxLocals) T132 (mkF m 69 #[.val (.int p1), .val (.int p2), .unset, .unset, .unset] [(.int (59 : Int32)), (.int (11 : Int32)), (.ref b2), (.ref b2)]) := fun t k => by
    refine go141 t ?_
    refine XS.dup X132.here hx rfl (hb hby at_64) rfl rfl ?_
    show Steps p.tables e below (T132.setTop (mkF m 65 #[.val (.int p1), .val (.int p2), .unset, .unset, .unset] [(.ref b2), (.ref b2)])) _
    refine XS.bipush X132.here hx rfl (hb hby at_65) ?_
    show Steps p.tables e below (T132.setTop (mkF m 67 #[.val (.int p1), .val (.int p2), .unset, .unset, .unset] [(.int (11 : Int32)), (.ref b2), (.ref b2)])) _
    refine XS.bipush X132.here hx rfl (hb hby at_67) ?_
    show Steps p.tables e below (T132.setTop (mkF m 69 #[.val (.int p1), .val (.int p2), .unset, .unset, .unset] [(.int (59 : Int32)), (.int (11 : Int32)), (.ref b2), (.ref b2)])) _
    exact k
  obtain ⟨cl143, Ar143, kq143, Sz143, Nn143, Hs143, Gf143⟩ := id (V133)
  have hin143 : ¬ ((11 : Int32) < 0 ∨ cl143.slots.size ≤ ((11 : Int32)).toNatClampNeg) := inb_of Sz143 ⟨by decide, by decide⟩
  obtain ⟨T144, h144, X144, e144, W144, st144⟩ := stC X132 hx hZ e132 Ar143 (j := (11 : Int32)) hin143 (g := (mkF m 69 #[.val (.int p1), .val (.int p2), .unset, .unset, .unset] [(.int (59 : Int32)), (.int (11 : Int32)), (.ref b2), (.ref b2)])) rfl rfl (hb hby at_69)
  have V145 : Arv Z h144 b2 k2 .char (16 : Int32) [(.int (40 : Int32)), (.int (41 : Int32)), (.int (91 : Int32)), (.int (93 : Int32)), (.int (123 : Int32)), (.int (125 : Int32)), (.int (44 : Int32)), (.int (60 : Int32)), (.int (62 : Int32)), (.int (32 : Int32)), (.int (46 : Int32)), (.int (59 : Int32)), (.int (0 : Int32)), (.int (0 : Int32)), (.int (0 : Int32)), (.int (0 : Int32))] (.int (0 : Int32)) := Arv.set Ar143 kq143 Sz143 Nn143 Hs143 Gf143 rfl W144 11 rfl (Nat.le_of_ble_eq_true rfl)
  have sf146 : Safe Z consts_1 s.vm h132 b2 := by obtain ⟨clz, Arz, -⟩ := id (V133); exact Safe.arr hZ.alike Arz (by decide)
  have C147 := C135.trans (CHr.wr W144 sf146 C135.1)
  have O148 := O136.wr W144 gn_b2
  have Z149 := Nat.le_trans Z137 (Nat.le_of_eq W144.size.symm)
  have K150 := K138.wr W144 (Or.inr sz_b2)
  have hk151 := Nat.le_trans hk139 (Nat.le_of_eq W144.size.symm)
  have N152 := Fr.snoc X144 N140 gn_b2
  have go153 : Goes p e below s₁ (entryFrame m #[(.int p1), (.int p2)] maxLocals) T144 (mkF m 70 #[.val (.int p1), .val (.int p2), .unset, .unset, .unset] [(.ref b2)]) := fun t k => go142 t (st144 t k)
  have go154 : Goes p e below s₁ (entryFrame m #[(.int p1), (.int p2)] maxLocals) T144 (mkF m 75 #[.val (.int p1), .val (.int p2), .unset, .unset, .unset] [(.int (10 : Int32)), (.int (12 : Int32)), (.ref b2), (.ref b2)]) := fun t k => by
    refine go153 t ?_
    refine XS.dup X144.here hx rfl (hb hby at_70) rfl rfl ?_
    show Steps p.tables e below (T144.setTop (mkF m 71 #[.val (.int p1), .val (.int p2), .unset, .unset, .unset] [(.ref b2), (.ref b2)])) _
    refine XS.bipush X144.here hx rfl (hb hby at_71) ?_
    show Steps p.tables e below (T144.setTop (mkF m 73 #[.val (.int p1), .val (.int p2), .unset, .unset, .unset] [(.int (12 : Int32)), (.ref b2), (.ref b2)])) _
    refine XS.bipush X144.here hx rfl (hb hby at_73) ?_
    show Steps p.tables e below (T144.setTop (mkF m 75 #[.val (.int p1), .val (.int p2), .unset, .unset, .unset] [(.int (10 : Int32)), (.int (12 : Int32)), (.ref b2), (.ref b2)])) _
    exact k
  obtain ⟨cl155, Ar155, kq155, Sz155, Nn155, Hs155, Gf155⟩ := id (V145)
  have hin155 : ¬ ((12 : Int32) < 0 ∨ cl155.slots.size ≤ ((12 : Int32)).toNatClampNeg) := inb_of Sz155 ⟨by decide, by decide⟩
  obtain ⟨T156, h156, X156, e156, W156, st156⟩ := stC X144 hx hZ e144 Ar155 (j := (12 : Int32)) hin155 (g := (mkF m 75 #[.val (.int p1), .val (.int p2), .unset, .unset, .unset] [(.int (10 : Int32)), (.int (12 : Int32)), (.ref b2), (.ref b2)])) rfl rfl (hb hby at_75)
  have V157 : Arv Z h156 b2 k2 .char (16 : Int32) [(.int (40 : Int32)), (.int (41 : Int32)), (.int (91 : Int32)), (.int (93 : Int32)), (.int (123 : Int32)), (.int (125 : Int32)), (.int (44 : Int32)), (.int (60 : Int32)), (.int (62 : Int32)), (.int (32 : Int32)), (.int (46 : Int32)), (.int (59 : Int32)), (.int (10 : Int32)), (.int (0 : Int32)), (.int (0 : Int32)), (.int (0 : Int32))] (.int (0 : Int32)) := Arv.set Ar155 kq155 Sz155 Nn155 Hs155 Gf155 rfl W156 12 rfl (Nat.le_of_ble_eq_true rfl)
  have sf158 : Safe Z consts_1 s.vm h144 b2 := by obtain ⟨clz, Arz, -⟩ := id (V145); exact Safe.arr hZ.alike Arz (by decide)
  have C159 := C147.trans (CHr.wr W156 sf158 C147.1)
  have O160 := O148.wr W156 gn_b2
  have Z161 := Nat.le_trans Z149 (Nat.le_of_eq W156.size.symm)
  have K162 := K150.wr W156 (Or.inr sz_b2)
  have hk163 := Nat.le_trans hk151 (Nat.le_of_eq W156.size.symm)
  have N164 := Fr.snoc X156 N152 gn_b2
  have go165 : Goes p e below s₁ (entryFrame m #[(.int p1), (.int p2)] maxLocals) T156 (mkF m 76 #[.val (.int p1), .val (.int p2), .unset, .unset, .unset] [(.ref b2)]) := fun t k => go154 t (st156 t k)
  have go166 : Goes p e below s₁ (entryFrame m #[(.int p1), (.int p2)] maxLocals) T156 (mkF m 80 #[.val (.int p1), .val (.int p2), .unset, .unset, .unset] [(.int (0 : Int32)), (.int (13 : Int32)), (.ref b2), (.ref b2)]) := fun t k => by
    refine go165 t ?_
    refine XS.dup X156.here hx rfl (hb hby at_76) rfl rfl ?_
    show Steps p.tables e below (T156.setTop (mkF m 77 #[.val (.int p1), .val (.int p2), .unset, .unset, .unset] [(.ref b2), (.ref b2)])) _
    refine XS.bipush X156.here hx rfl (hb hby at_77) ?_
    show Steps p.tables e below (T156.setTop (mkF m 79 #[.val (.int p1), .val (.int p2), .unset, .unset, .unset] [(.int (13 : Int32)), (.ref b2), (.ref b2)])) _
    refine XS.iconst X156.here hx rfl (hb hby at_79) ?_
    show Steps p.tables e below (T156.setTop (mkF m 80 #[.val (.int p1), .val (.int p2), .unset, .unset, .unset] [(.int (0 : Int32)), (.int (13 : Int32)), (.ref b2), (.ref b2)])) _
    exact k
  obtain ⟨cl167, Ar167, kq167, Sz167, Nn167, Hs167, Gf167⟩ := id (V157)
  have hin167 : ¬ ((13 : Int32) < 0 ∨ cl167.slots.size ≤ ((13 : Int32)).toNatClampNeg) := inb_of Sz167 ⟨by decide, by decide⟩
  obtain ⟨T168, h168, X168, e168, W168, st168⟩ := stC X156 hx hZ e156 Ar167 (j := (13 : Int32)) hin167 (g := (mkF m 80 #[.val (.int p1), .val (.int p2), .unset, .unset, .unset] [(.int (0 : Int32)), (.int (13 : Int32)), (.ref b2), (.ref b2)])) rfl rfl (hb hby at_80)
  have V169 : Arv Z h168 b2 k2 .char (16 : Int32) [(.int (40 : Int32)), (.int (41 : Int32)), (.int (91 : Int32)), (.int (93 : Int32)), (.int (123 : Int32)), (.int (125 : Int32)), (.int (44 : Int32)), (.int (60 : Int32)), (.int (62 : Int32)), (.int (32 : Int32)), (.int (46 : Int32)), (.int (59 : Int32)), (.int (10 : Int32)), (.int (0 : Int32)), (.int (0 : Int32)), (.int (0 : Int32))] (.int (0 : Int32)) := Arv.set Ar167 kq167 Sz167 Nn167 Hs167 Gf167 rfl W168 13 rfl (Nat.le_of_ble_eq_true rfl)
  have sf170 : Safe Z consts_1 s.vm h156 b2 := by obtain ⟨clz, Arz, -⟩ := id (V157); exact Safe.arr hZ.alike Arz (by decide)
  have C171 := C159.trans (CHr.wr W168 sf170 C159.1)
  have O172 := O160.wr W168 gn_b2
  have Z173 := Nat.le_trans Z161 (Nat.le_of_eq W168.size.symm)
  have K174 := K162.wr W168 (Or.inr sz_b2)
  have hk175 := Nat.le_trans hk163 (Nat.le_of_eq W168.size.symm)
  have N176 := Fr.snoc X168 N164 gn_b2
  have go177 : Goes p e below s₁ (entryFrame m #[(.int p1), (.int p2)] maxLocals) T168 (mkF m 81 #[.val (.int p1), .val (.int p2), .unset, .unset, .unset] [(.ref b2)]) := fun t k => go166 t (st168 t k)
  have go178 : Goes p e below s₁ (entryFrame m #[(.int p1), (.int p2)] maxLocals) T168 (mkF m 86 #[.val (.int p1), .val (.int p2), .unset, .unset, .unset] [(.int (65535 : Int32)), (.int (14 : Int32)), (.ref b2), (.ref b2)]) := fun t k => by
    refine go177 t ?_
    refine XS.dup X168.here hx rfl (hb hby at_81) rfl rfl ?_
    show Steps p.tables e below (T168.setTop (mkF m 82 #[.val (.int p1), .val (.int p2), .unset, .unset, .unset] [(.ref b2), (.ref b2)])) _
    refine XS.bipush X168.here hx rfl (hb hby at_82) ?_
    show Steps p.tables e below (T168.setTop (mkF m 84 #[.val (.int p1), .val (.int p2), .unset, .unset, .unset] [(.int (14 : Int32)), (.ref b2), (.ref b2)])) _
    refine X168.ldcInt hx hown (mvT hZ (hw _ (List.mem_of_getElem? (i := 1) rfl))) (g := (mkF m 84 #[.val (.int p1), .val (.int p2), .unset, .unset, .unset] [(.int (14 : Int32)), (.ref b2), (.ref b2)])) rfl (hb hby at_84) _ ?_
    show Steps p.tables e below (T168.setTop (mkF m 86 #[.val (.int p1), .val (.int p2), .unset, .unset, .unset] [(.int (65535 : Int32)), (.int (14 : Int32)), (.ref b2), (.ref b2)])) _
    exact k
  obtain ⟨cl179, Ar179, kq179, Sz179, Nn179, Hs179, Gf179⟩ := id (V169)
  have hin179 : ¬ ((14 : Int32) < 0 ∨ cl179.slots.size ≤ ((14 : Int32)).toNatClampNeg) := inb_of Sz179 ⟨by decide, by decide⟩
  obtain ⟨T180, h180, X180, e180, W180, st180⟩ := stC X168 hx hZ e168 Ar179 (j := (14 : Int32)) hin179 (g := (mkF m 86 #[.val (.int p1), .val (.int p2), .unset, .unset, .unset] [(.int (65535 : Int32)), (.int (14 : Int32)), (.ref b2), (.ref b2)])) rfl rfl (hb hby at_86)
  have V181 : Arv Z h180 b2 k2 .char (16 : Int32) [(.int (40 : Int32)), (.int (41 : Int32)), (.int (91 : Int32)), (.int (93 : Int32)), (.int (123 : Int32)), (.int (125 : Int32)), (.int (44 : Int32)), (.int (60 : Int32)), (.int (62 : Int32)), (.int (32 : Int32)), (.int (46 : Int32)), (.int (59 : Int32)), (.int (10 : Int32)), (.int (0 : Int32)), (.int (65535 : Int32)), (.int (0 : Int32))] (.int (0 : Int32)) := Arv.set Ar179 kq179 Sz179 Nn179 Hs179 Gf179 rfl W180 14 rfl (Nat.le_of_ble_eq_true rfl)
  have sf182 : Safe Z consts_1 s.vm h168 b2 := by obtain ⟨clz, Arz, -⟩ := id (V169); exact Safe.arr hZ.alike Arz (by decide)
  have C183 := C171.trans (CHr.wr W180 sf182 C171.1)
  have O184 := O172.wr W180 gn_b2
  have Z185 := Nat.le_trans Z173 (Nat.le_of_eq W180.size.symm)
  have K186 := K174.wr W180 (Or.inr sz_b2)
  have hk187 := Nat.le_trans hk175 (Nat.le_of_eq W180.size.symm)
  have N188 := Fr.snoc X180 N176 gn_b2
  have go189 : Goes p e below s₁ (entryFrame m #[(.int p1), (.int p2)] maxLocals) T180 (mkF m 87 #[.val (.int p1), .val (.int p2), .unset, .unset, .unset] [(.ref b2)]) := fun t k => go178 t (st180 t k)
  have go190 : Goes p e below s₁ (entryFrame m #[(.int p1), (.int p2)] maxLocals) T180 (mkF m 92 #[.val (.int p1), .val (.int p2), .unset, .unset, .unset] [(.int (45 : Int32)), (.int (15 : Int32)), (.ref b2), (.ref b2)]) := fun t k => by
    refine go189 t ?_
    refine XS.dup X180.here hx rfl (hb hby at_87) rfl rfl ?_
    show Steps p.tables e below (T180.setTop (mkF m 88 #[.val (.int p1), .val (.int p2), .unset, .unset, .unset] [(.ref b2), (.ref b2)])) _
    refine XS.bipush X180.here hx rfl (hb hby at_88) ?_
    show Steps p.tables e below (T180.setTop (mkF m 90 #[.val (.int p1), .val (.int p2), .unset, .unset, .unset] [(.int (15 : Int32)), (.ref b2), (.ref b2)])) _
    refine XS.bipush X180.here hx rfl (hb hby at_90) ?_
    show Steps p.tables e below (T180.setTop (mkF m 92 #[.val (.int p1), .val (.int p2), .unset, .unset, .unset] [(.int (45 : Int32)), (.int (15 : Int32)), (.ref b2), (.ref b2)])) _
    exact k
  obtain ⟨cl191, Ar191, kq191, Sz191, Nn191, Hs191, Gf191⟩ := id (V181)
  have hin191 : ¬ ((15 : Int32) < 0 ∨ cl191.slots.size ≤ ((15 : Int32)).toNatClampNeg) := inb_of Sz191 ⟨by decide, by decide⟩
  obtain ⟨T192, h192, X192, e192, W192, st192⟩ := stC X180 hx hZ e180 Ar191 (j := (15 : Int32)) hin191 (g := (mkF m 92 #[.val (.int p1), .val (.int p2), .unset, .unset, .unset] [(.int (45 : Int32)), (.int (15 : Int32)), (.ref b2), (.ref b2)])) rfl rfl (hb hby at_92)
  have V193 : Arv Z h192 b2 k2 .char (16 : Int32) [(.int (40 : Int32)), (.int (41 : Int32)), (.int (91 : Int32)), (.int (93 : Int32)), (.int (123 : Int32)), (.int (125 : Int32)), (.int (44 : Int32)), (.int (60 : Int32)), (.int (62 : Int32)), (.int (32 : Int32)), (.int (46 : Int32)), (.int (59 : Int32)), (.int (10 : Int32)), (.int (0 : Int32)), (.int (65535 : Int32)), (.int (45 : Int32))] (.int (0 : Int32)) := Arv.set Ar191 kq191 Sz191 Nn191 Hs191 Gf191 rfl W192 15 rfl (Nat.le_of_ble_eq_true rfl)
  have sf194 : Safe Z consts_1 s.vm h180 b2 := by obtain ⟨clz, Arz, -⟩ := id (V181); exact Safe.arr hZ.alike Arz (by decide)
  have C195 := C183.trans (CHr.wr W192 sf194 C183.1)
  have O196 := O184.wr W192 gn_b2
  have Z197 := Nat.le_trans Z185 (Nat.le_of_eq W192.size.symm)
  have K198 := K186.wr W192 (Or.inr sz_b2)
  have hk199 := Nat.le_trans hk187 (Nat.le_of_eq W192.size.symm)
  have N200 := Fr.snoc X192 N188 gn_b2
  have go201 : Goes p e below s₁ (entryFrame m #[(.int p1), (.int p2)] maxLocals) T192 (mkF m 93 #[.val (.int p1), .val (.int p2), .unset, .unset, .unset] [(.ref b2)]) := fun t k => go190 t (st192 t k)
  have go202 : Goes p e below s₁ (entryFrame m #[(.int p1), (.int p2)] maxLocals) T192 (mkF m 97 #[.val (.int p1), .val (.int p2), .val (.ref b2), .unset, .unset] [(.int (p2 &&& (1 : Int32)))]) := fun t k => by
    refine go201 t ?_
    refine XS.astoreN X192.here hx rfl (hb hby at_93) rfl rfl (l' := #[.val (.int p1), .val (.int p2), .val (.ref b2), .unset, .unset]) rfl ?_
    show Steps p.tables e below (T192.setTop (mkF m 94 #[.val (.int p1), .val (.int p2), .val (.ref b2), .unset, .unset] [])) _
    refine XS.iloadN X192.here hx rfl (hb hby at_94) rfl ?_
    show Steps p.tables e below (T192.setTop (mkF m 95 #[.val (.int p1), .val (.int p2), .val (.ref b2), .unset, .unset] [(.int p2)])) _
    refine XS.iconst X192.here hx rfl (hb hby at_95) ?_
    show Steps p.tables e below (T192.setTop (mkF m 96 #[.val (.int p1), .val (.int p2), .val (.ref b2), .unset, .unset] [(.int (1 : Int32)), (.int p2)])) _
    refine XS.iand X192.here hx rfl (hb hby at_96) rfl ?_
    show Steps p.tables e below (T192.setTop (mkF m 97 #[.val (.int p1), .val (.int p2), .val (.ref b2), .unset, .unset] [(.int (p2 &&& (1 : Int32)))])) _
    exact k
  obtain ⟨T203, cc, X203, e203, hj203, go203j⟩ : ∃ (T' : State) (cc : Int32), Stand p l e room_1 (s.setVm s.vm) m #[(.int p1), (.int p2)] below meth c T' (((((((((((((((([] ++ [⟨b2, ((0 : Int32)).toNatClampNeg⟩]) ++ [⟨b2, ((1 : Int32)).toNatClampNeg⟩]) ++ [⟨b2, ((2 : Int32)).toNatClampNeg⟩]) ++ [⟨b2, ((3 : Int32)).toNatClampNeg⟩]) ++ [⟨b2, ((4 : Int32)).toNatClampNeg⟩]) ++ [⟨b2, ((5 : Int32)).toNatClampNeg⟩]) ++ [⟨b2, ((6 : Int32)).toNatClampNeg⟩]) ++ [⟨b2, ((7 : Int32)).toNatClampNeg⟩]) ++ [⟨b2, ((8 : Int32)).toNatClampNeg⟩]) ++ [⟨b2, ((9 : Int32)).toNatClampNeg⟩]) ++ [⟨b2, ((10 : Int32)).toNatClampNeg⟩]) ++ [⟨b2, ((11 : Int32)).toNatClampNeg⟩]) ++ [⟨b2, ((12 : Int32)).toNatClampNeg⟩]) ++ [⟨b2, ((13 : Int32)).toNatClampNeg⟩]) ++ [⟨b2, ((14 : Int32)).toNatClampNeg⟩]) ++ [⟨b2, ((15 : Int32)).toNatClampNeg⟩]) 1 16 ∧ T'.heap = h192 ∧ (0 ≤ cc.toInt ∧ cc.toInt < 65536) ∧ Goes p e below s₁ (entryFrame m #[(.int p1), (.int p2)] maxLocals) T' (mkF m 116 #[.val (.int p1), .val (.int p2), .val (.ref b2), .val (.int cc), .unset] []) := by
    by_cases hc204 : (p2 &&& (1 : Int32)) = (0 : Int32)
    · have go205 : Goes p e below s₁ (entryFrame m #[(.int p1), (.int p2)] maxLocals) T192 (mkF m 116 #[.val (.int p1), .val (.int p2), .val (.ref b2), .val (.int (p1.toUInt32.toUInt16.toUInt32.toInt32)), .unset] []) := fun t k => by
        refine go202 t ?_
        refine XS.ifYes X192.here hx rfl (pc0 := 97) (pc' := 113) rfl (hb hby at_97) rfl (Jvm.Free.XT.i0_eq_t hc204) (by decide) (by decide) ?_
        show Steps p.tables e below (T192.setTop (mkF m 113 #[.val (.int p1), .val (.int p2), .val (.ref b2), .unset, .unset] [])) _
        refine XS.iloadN X192.here hx rfl (hb hby at_113) rfl ?_
        show Steps p.tables e below (T192.setTop (mkF m 114 #[.val (.int p1), .val (.int p2), .val (.ref b2), .unset, .unset] [(.int p1)])) _
        refine XS.i2c X192.here hx rfl (hb hby at_114) rfl ?_
        show Steps p.tables e below (T192.setTop (mkF m 115 #[.val (.int p1), .val (.int p2), .val (.ref b2), .unset, .unset] [(.int (p1.toUInt32.toUInt16.toUInt32.toInt32))])) _
        refine XS.istoreN X192.here hx rfl (hb hby at_115) rfl (l' := #[.val (.int p1), .val (.int p2), .val (.ref b2), .val (.int (p1.toUInt32.toUInt16.toUInt32.toInt32)), .unset]) rfl ?_
        show Steps p.tables e below (T192.setTop (mkF m 116 #[.val (.int p1), .val (.int p2), .val (.ref b2), .val (.int (p1.toUInt32.toUInt16.toUInt32.toInt32)), .unset] [])) _
        exact k
      exact ⟨T192, (p1.toUInt32.toUInt16.toUInt32.toInt32), X192, e192, own_chr _, go205⟩
    · have go206 : Goes p e below s₁ (entryFrame m #[(.int p1), (.int p2)] maxLocals) T192 (mkF m 108 #[.val (.int p1), .val (.int p2), .val (.ref b2), .unset, .unset] [(.int ((p1 &&& (2147483647 : Int32)) % (16 : Int32))), (.ref b2)]) := fun t k => by
        refine go202 t ?_
        refine XS.ifNo X192.here hx rfl (hb hby at_97) rfl (Jvm.Free.XT.i0_eq_f hc204) ?_
        show Steps p.tables e below (T192.setTop (mkF m 100 #[.val (.int p1), .val (.int p2), .val (.ref b2), .unset, .unset] [])) _
        refine XS.aloadN X192.here hx rfl (hb hby at_100) rfl rfl ?_
        show Steps p.tables e below (T192.setTop (mkF m 101 #[.val (.int p1), .val (.int p2), .val (.ref b2), .unset, .unset] [(.ref b2)])) _
        refine XS.iloadN X192.here hx rfl (hb hby at_101) rfl ?_
        show Steps p.tables e below (T192.setTop (mkF m 102 #[.val (.int p1), .val (.int p2), .val (.ref b2), .unset, .unset] [(.int p1), (.ref b2)])) _
        refine X192.ldcInt hx hown (mvT hZ (hw _ (List.mem_of_getElem? (i := 2) rfl))) (g := (mkF m 102 #[.val (.int p1), .val (.int p2), .val (.ref b2), .unset, .unset] [(.int p1), (.ref b2)])) rfl (hb hby at_102) _ ?_
        show Steps p.tables e below (T192.setTop (mkF m 104 #[.val (.int p1), .val (.int p2), .val (.ref b2), .unset, .unset] [(.int (2147483647 : Int32)), (.int p1), (.ref b2)])) _
        refine XS.iand X192.here hx rfl (hb hby at_104) rfl ?_
        show Steps p.tables e below (T192.setTop (mkF m 105 #[.val (.int p1), .val (.int p2), .val (.ref b2), .unset, .unset] [(.int (p1 &&& (2147483647 : Int32))), (.ref b2)])) _
        refine XS.bipush X192.here hx rfl (hb hby at_105) ?_
        show Steps p.tables e below (T192.setTop (mkF m 107 #[.val (.int p1), .val (.int p2), .val (.ref b2), .unset, .unset] [(.int (16 : Int32)), (.int (p1 &&& (2147483647 : Int32))), (.ref b2)])) _
        refine iremM X192 hx rfl (hb hby at_107) rfl (by decide) ?_
        show Steps p.tables e below (T192.setTop (mkF m 108 #[.val (.int p1), .val (.int p2), .val (.ref b2), .unset, .unset] [(.int ((p1 &&& (2147483647 : Int32)) % (16 : Int32))), (.ref b2)])) _
        exact k
      obtain ⟨ct, hct, hr⟩ := own_tab p1
      obtain ⟨hj1, hj2⟩ := own_rem p1 16 (by decide)
      have e16 : (16 : Int32).toInt = 16 := rfl
      obtain ⟨cl207, Ar207, kq207, Sz207, Nn207, Hs207, Gf207⟩ := id (V193)
      have hin207 : ¬ (((p1 &&& (2147483647 : Int32)) % (16 : Int32)) < 0 ∨ cl207.slots.size ≤ (((p1 &&& (2147483647 : Int32)) % (16 : Int32))).toNatClampNeg) := inb_of Sz207 ⟨by rw [Int32.lt_iff_toInt_lt]; have : (0 : Int32).toInt = 0 := rfl; omega, by rw [Int32.lt_iff_toInt_lt]; omega⟩
      have hat207 : cl207.slots[(((p1 &&& (2147483647 : Int32)) % (16 : Int32))).toNatClampNeg]? = some (.int ct) := Has.at Hs207 hin207 hct
      have go208 : Goes p e below s₁ (entryFrame m #[(.int p1), (.int p2)] maxLocals) T192 (mkF m 116 #[.val (.int p1), .val (.int p2), .val (.ref b2), .val (.int ct), .unset] []) := fun t k => by
        refine go206 t ?_
        refine X192.caload hx (j := ((p1 &&& (2147483647 : Int32)) % (16 : Int32))) (v := (.int ct)) (own_hp e192 Ar207.1) (State.isArrayOf_alike hZ.alike Ar207.2.1) Ar207.2.2 hin207 hat207 (g := (mkF m 108 #[.val (.int p1), .val (.int p2), .val (.ref b2), .unset, .unset] [(.int ((p1 &&& (2147483647 : Int32)) % (16 : Int32))), (.ref b2)])) rfl rfl (hb hby at_108) _ ?_
        show Steps p.tables e below (T192.setTop (mkF m 109 #[.val (.int p1), .val (.int p2), .val (.ref b2), .unset, .unset] [(.int ct)])) _
        refine XS.istoreN X192.here hx rfl (hb hby at_109) rfl (l' := #[.val (.int p1), .val (.int p2), .val (.ref b2), .val (.int ct), .unset]) rfl ?_
        show Steps p.tables e below (T192.setTop (mkF m 110 #[.val (.int p1), .val (.int p2), .val (.ref b2), .val (.int ct), .unset] [])) _
        refine XS.goto X192.here hx rfl (pc0 := 110) (pc' := 116) rfl (hb hby at_110) (by decide) (by decide) ?_
        show Steps p.tables e below (T192.setTop (mkF m 116 #[.val (.int p1), .val (.int p2), .val (.ref b2), .val (.int ct), .unset] [])) _
        exact k
      exact ⟨T192, ct, X192, e192, hr, go208⟩
  have go209 : Goes p e below s₁ (entryFrame m #[(.int p1), (.int p2)] maxLocals) T203 (mkF m 119 #[.val (.int p1), .val (.int p2), .val (.ref b2), .val (.int cc), .unset] [(.int (40 : Int32)), (.int cc)]) := fun t k => by
    refine go203j t ?_
    refine XS.iloadN X203.here hx rfl (hb hby at_116) rfl ?_
    show Steps p.tables e below (T203.setTop (mkF m 117 #[.val (.int p1), .val (.int p2), .val (.ref b2), .val (.int cc), .unset] [(.int cc)])) _
    refine XS.bipush X203.here hx rfl (hb hby at_117) ?_
    show Steps p.tables e below (T203.setTop (mkF m 119 #[.val (.int p1), .val (.int p2), .val (.ref b2), .val (.int cc), .unset] [(.int (40 : Int32)), (.int cc)])) _
    exact k
  obtain ⟨T210, exv, X210, e210, hj210, go210j⟩ : ∃ (T' : State) (exv : Int32), Stand p l e room_1 (s.setVm s.vm) m #[(.int p1), (.int p2)] below meth c T' (((((((((((((((([] ++ [⟨b2, ((0 : Int32)).toNatClampNeg⟩]) ++ [⟨b2, ((1 : Int32)).toNatClampNeg⟩]) ++ [⟨b2, ((2 : Int32)).toNatClampNeg⟩]) ++ [⟨b2, ((3 : Int32)).toNatClampNeg⟩]) ++ [⟨b2, ((4 : Int32)).toNatClampNeg⟩]) ++ [⟨b2, ((5 : Int32)).toNatClampNeg⟩]) ++ [⟨b2, ((6 : Int32)).toNatClampNeg⟩]) ++ [⟨b2, ((7 : Int32)).toNatClampNeg⟩]) ++ [⟨b2, ((8 : Int32)).toNatClampNeg⟩]) ++ [⟨b2, ((9 : Int32)).toNatClampNeg⟩]) ++ [⟨b2, ((10 : Int32)).toNatClampNeg⟩]) ++ [⟨b2, ((11 : Int32)).toNatClampNeg⟩]) ++ [⟨b2, ((12 : Int32)).toNatClampNeg⟩]) ++ [⟨b2, ((13 : Int32)).toNatClampNeg⟩]) ++ [⟨b2, ((14 : Int32)).toNatClampNeg⟩]) ++ [⟨b2, ((15 : Int32)).toNatClampNeg⟩]) 1 16 ∧ T'.heap = h192 ∧ (exv = own_ex cc) ∧ Goes p e below s₁ (entryFrame m #[(.int p1), (.int p2)] maxLocals) T' (mkF m 163 #[.val (.int p1), .val (.int p2), .val (.ref b2), .val (.int cc), .unset] [(.int exv)]) := by
    by_cases hc211 : cc = (40 : Int32)
    · have go212 : Goes p e below s₁ (entryFrame m #[(.int p1), (.int p2)] maxLocals) T203 (mkF m 163 #[.val (.int p1), .val (.int p2), .val (.ref b2), .val (.int cc), .unset] [(.int (1 : Int32))]) := fun t k => by
        refine go209 t ?_
        refine XS.icmpYes X203.here hx rfl (pc0 := 119) (pc' := 158) rfl (hb hby at_119) rfl (Jvm.Free.XT.ii_eq_t hc211) (by decide) (by decide) ?_
        show Steps p.tables e below (T203.setTop (mkF m 158 #[.val (.int p1), .val (.int p2), .val (.ref b2), .val (.int cc), .unset] [])) _
        refine XS.iconst X203.here hx rfl (hb hby at_158) ?_
        show Steps p.tables e below (T203.setTop (mkF m 159 #[.val (.int p1), .val (.int p2), .val (.ref b2), .val (.int cc), .unset] [(.int (1 : Int32))])) _
        refine XS.goto X203.here hx rfl (pc0 := 159) (pc' := 163) rfl (hb hby at_159) (by decide) (by decide) ?_
        show Steps p.tables e below (T203.setTop (mkF m 163 #[.val (.int p1), .val (.int p2), .val (.ref b2), .val (.int cc), .unset] [(.int (1 : Int32))])) _
        exact k
      exact ⟨T203, (1 : Int32), X203, e203, (by simp [own_ex, hc211]), go212⟩
    · have go213 : Goes p e below s₁ (entryFrame m #[(.int p1), (.int p2)] maxLocals) T203 (mkF m 125 #[.val (.int p1), .val (.int p2), .val (.ref b2), .val (.int cc), .unset] [(.int (41 : Int32)), (.int cc)]) := fun t k => by
        refine go209 t ?_
        refine XS.icmpNo X203.here hx rfl (hb hby at_119) rfl (Jvm.Free.XT.ii_eq_f hc211) ?_
        show Steps p.tables e below (T203.setTop (mkF m 122 #[.val (.int p1), .val (.int p2), .val (.ref b2), .val (.int cc), .unset] [])) _
        refine XS.iloadN X203.here hx rfl (hb hby at_122) rfl ?_
        show Steps p.tables e below (T203.setTop (mkF m 123 #[.val (.int p1), .val (.int p2), .val (.ref b2), .val (.int cc), .unset] [(.int cc)])) _
        refine XS.bipush X203.here hx rfl (hb hby at_123) ?_
        show Steps p.tables e below (T203.setTop (mkF m 125 #[.val (.int p1), .val (.int p2), .val (.ref b2), .val (.int cc), .unset] [(.int (41 : Int32)), (.int cc)])) _
        exact k
      by_cases hc214 : cc = (41 : Int32)
      · have go215 : Goes p e below s₁ (entryFrame m #[(.int p1), (.int p2)] maxLocals) T203 (mkF m 163 #[.val (.int p1), .val (.int p2), .val (.ref b2), .val (.int cc), .unset] [(.int (1 : Int32))]) := fun t k => by
          refine go213 t ?_
          refine XS.icmpYes X203.here hx rfl (pc0 := 125) (pc' := 158) rfl (hb hby at_125) rfl (Jvm.Free.XT.ii_eq_t hc214) (by decide) (by decide) ?_
          show Steps p.tables e below (T203.setTop (mkF m 158 #[.val (.int p1), .val (.int p2), .val (.ref b2), .val (.int cc), .unset] [])) _
          refine XS.iconst X203.here hx rfl (hb hby at_158) ?_
          show Steps p.tables e below (T203.setTop (mkF m 159 #[.val (.int p1), .val (.int p2), .val (.ref b2), .val (.int cc), .unset] [(.int (1 : Int32))])) _
          refine XS.goto X203.here hx rfl (pc0 := 159) (pc' := 163) rfl (hb hby at_159) (by decide) (by decide) ?_
          show Steps p.tables e below (T203.setTop (mkF m 163 #[.val (.int p1), .val (.int p2), .val (.ref b2), .val (.int cc), .unset] [(.int (1 : Int32))])) _
          exact k
        exact ⟨T203, (1 : Int32), X203, e203, (by simp [own_ex, hc211, hc214]), go215⟩
      · have go216 : Goes p e below s₁ (entryFrame m #[(.int p1), (.int p2)] maxLocals) T203 (mkF m 131 #[.val (.int p1), .val (.int p2), .val (.ref b2), .val (.int cc), .unset] [(.int (91 : Int32)), (.int cc)]) := fun t k => by
          refine go213 t ?_
          refine XS.icmpNo X203.here hx rfl (hb hby at_125) rfl (Jvm.Free.XT.ii_eq_f hc214) ?_
          show Steps p.tables e below (T203.setTop (mkF m 128 #[.val (.int p1), .val (.int p2), .val (.ref b2), .val (.int cc), .unset] [])) _
          refine XS.iloadN X203.here hx rfl (hb hby at_128) rfl ?_
          show Steps p.tables e below (T203.setTop (mkF m 129 #[.val (.int p1), .val (.int p2), .val (.ref b2), .val (.int cc), .unset] [(.int cc)])) _
          refine XS.bipush X203.here hx rfl (hb hby at_129) ?_
          show Steps p.tables e below (T203.setTop (mkF m 131 #[.val (.int p1), .val (.int p2), .val (.ref b2), .val (.int cc), .unset] [(.int (91 : Int32)), (.int cc)])) _
          exact k
        by_cases hc217 : cc = (91 : Int32)
        · have go218 : Goes p e below s₁ (entryFrame m #[(.int p1), (.int p2)] maxLocals) T203 (mkF m 163 #[.val (.int p1), .val (.int p2), .val (.ref b2), .val (.int cc), .unset] [(.int (1 : Int32))]) := fun t k => by
            refine go216 t ?_
            refine XS.icmpYes X203.here hx rfl (pc0 := 131) (pc' := 158) rfl (hb hby at_131) rfl (Jvm.Free.XT.ii_eq_t hc217) (by decide) (by decide) ?_
            show Steps p.tables e below (T203.setTop (mkF m 158 #[.val (.int p1), .val (.int p2), .val (.ref b2), .val (.int cc), .unset] [])) _
            refine XS.iconst X203.here hx rfl (hb hby at_158) ?_
            show Steps p.tables e below (T203.setTop (mkF m 159 #[.val (.int p1), .val (.int p2), .val (.ref b2), .val (.int cc), .unset] [(.int (1 : Int32))])) _
            refine XS.goto X203.here hx rfl (pc0 := 159) (pc' := 163) rfl (hb hby at_159) (by decide) (by decide) ?_
            show Steps p.tables e below (T203.setTop (mkF m 163 #[.val (.int p1), .val (.int p2), .val (.ref b2), .val (.int cc), .unset] [(.int (1 : Int32))])) _
            exact k
          exact ⟨T203, (1 : Int32), X203, e203, (by simp [own_ex, hc211, hc214, hc217]), go218⟩
        · have go219 : Goes p e below s₁ (entryFrame m #[(.int p1), (.int p2)] maxLocals) T203 (mkF m 137 #[.val (.int p1), .val (.int p2), .val (.ref b2), .val (.int cc), .unset] [(.int (93 : Int32)), (.int cc)]) := fun t k => by
            refine go216 t ?_
            refine XS.icmpNo X203.here hx rfl (hb hby at_131) rfl (Jvm.Free.XT.ii_eq_f hc217) ?_
            show Steps p.tables e below (T203.setTop (mkF m 134 #[.val (.int p1), .val (.int p2), .val (.ref b2), .val (.int cc), .unset] [])) _
            refine XS.iloadN X203.here hx rfl (hb hby at_134) rfl ?_
            show Steps p.tables e below (T203.setTop (mkF m 135 #[.val (.int p1), .val (.int p2), .val (.ref b2), .val (.int cc), .unset] [(.int cc)])) _
            refine XS.bipush X203.here hx rfl (hb hby at_135) ?_
            show Steps p.tables e below (T203.setTop (mkF m 137 #[.val (.int p1), .val (.int p2), .val (.ref b2), .val (.int cc), .unset] [(.int (93 : Int32)), (.int cc)])) _
            exact k
          by_cases hc220 : cc = (93 : Int32)
          · have go221 : Goes p e below s₁ (entryFrame m #[(.int p1), (.int p2)] maxLocals) T203 (mkF m 163 #[.val (.int p1), .val (.int p2), .val (.ref b2), .val (.int cc), .unset] [(.int (1 : Int32))]) := fun t k => by
              refine go219 t ?_
              refine XS.icmpYes X203.here hx rfl (pc0 := 137) (pc' := 158) rfl (hb hby at_137) rfl (Jvm.Free.XT.ii_eq_t hc220) (by decide) (by decide) ?_
              show Steps p.tables e below (T203.setTop (mkF m 158 #[.val (.int p1), .val (.int p2), .val (.ref b2), .val (.int cc), .unset] [])) _
              refine XS.iconst X203.here hx rfl (hb hby at_158) ?_
              show Steps p.tables e below (T203.setTop (mkF m 159 #[.val (.int p1), .val (.int p2), .val (.ref b2), .val (.int cc), .unset] [(.int (1 : Int32))])) _
              refine XS.goto X203.here hx rfl (pc0 := 159) (pc' := 163) rfl (hb hby at_159) (by decide) (by decide) ?_
              show Steps p.tables e below (T203.setTop (mkF m 163 #[.val (.int p1), .val (.int p2), .val (.ref b2), .val (.int cc), .unset] [(.int (1 : Int32))])) _
              exact k
            exact ⟨T203, (1 : Int32), X203, e203, (by simp [own_ex, hc211, hc214, hc217, hc220]), go221⟩
          · have go222 : Goes p e below s₁ (entryFrame m #[(.int p1), (.int p2)] maxLocals) T203 (mkF m 143 #[.val (.int p1), .val (.int p2), .val (.ref b2), .val (.int cc), .unset] [(.int (123 : Int32)), (.int cc)]) := fun t k => by
              refine go219 t ?_
              refine XS.icmpNo X203.here hx rfl (hb hby at_137) rfl (Jvm.Free.XT.ii_eq_f hc220) ?_
              show Steps p.tables e below (T203.setTop (mkF m 140 #[.val (.int p1), .val (.int p2), .val (.ref b2), .val (.int cc), .unset] [])) _
              refine XS.iloadN X203.here hx rfl (hb hby at_140) rfl ?_
              show Steps p.tables e below (T203.setTop (mkF m 141 #[.val (.int p1), .val (.int p2), .val (.ref b2), .val (.int cc), .unset] [(.int cc)])) _
              refine XS.bipush X203.here hx rfl (hb hby at_141) ?_
              show Steps p.tables e below (T203.setTop (mkF m 143 #[.val (.int p1), .val (.int p2), .val (.ref b2), .val (.int cc), .unset] [(.int (123 : Int32)), (.int cc)])) _
              exact k
            by_cases hc223 : cc = (123 : Int32)
            · have go224 : Goes p e below s₁ (entryFrame m #[(.int p1), (.int p2)] maxLocals) T203 (mkF m 163 #[.val (.int p1), .val (.int p2), .val (.ref b2), .val (.int cc), .unset] [(.int (1 : Int32))]) := fun t k => by
                refine go222 t ?_
                refine XS.icmpYes X203.here hx rfl (pc0 := 143) (pc' := 158) rfl (hb hby at_143) rfl (Jvm.Free.XT.ii_eq_t hc223) (by decide) (by decide) ?_
                show Steps p.tables e below (T203.setTop (mkF m 158 #[.val (.int p1), .val (.int p2), .val (.ref b2), .val (.int cc), .unset] [])) _
                refine XS.iconst X203.here hx rfl (hb hby at_158) ?_
                show Steps p.tables e below (T203.setTop (mkF m 159 #[.val (.int p1), .val (.int p2), .val (.ref b2), .val (.int cc), .unset] [(.int (1 : Int32))])) _
                refine XS.goto X203.here hx rfl (pc0 := 159) (pc' := 163) rfl (hb hby at_159) (by decide) (by decide) ?_
                show Steps p.tables e below (T203.setTop (mkF m 163 #[.val (.int p1), .val (.int p2), .val (.ref b2), .val (.int cc), .unset] [(.int (1 : Int32))])) _
                exact k
              exact ⟨T203, (1 : Int32), X203, e203, (by simp [own_ex, hc211, hc214, hc217, hc220, hc223]), go224⟩
            · have go225 : Goes p e below s₁ (entryFrame m #[(.int p1), (.int p2)] maxLocals) T203 (mkF m 149 #[.val (.int p1), .val (.int p2), .val (.ref b2), .val (.int cc), .unset] [(.int (125 : Int32)), (.int cc)]) := fun t k => by
                refine go222 t ?_
                refine XS.icmpNo X203.here hx rfl (hb hby at_143) rfl (Jvm.Free.XT.ii_eq_f hc223) ?_
                show Steps p.tables e below (T203.setTop (mkF m 146 #[.val (.int p1), .val (.int p2), .val (.ref b2), .val (.int cc), .unset] [])) _
                refine XS.iloadN X203.here hx rfl (hb hby at_146) rfl ?_
                show Steps p.tables e below (T203.setTop (mkF m 147 #[.val (.int p1), .val (.int p2), .val (.ref b2), .val (.int cc), .unset] [(.int cc)])) _
                refine XS.bipush X203.here hx rfl (hb hby at_147) ?_
                show Steps p.tables e below (T203.setTop (mkF m 149 #[.val (.int p1), .val (.int p2), .val (.ref b2), .val (.int cc), .unset] [(.int (125 : Int32)), (.int cc)])) _
                exact k
              by_cases hc226 : cc = (125 : Int32)
              · have go227 : Goes p e below s₁ (entryFrame m #[(.int p1), (.int p2)] maxLocals) T203 (mkF m 163 #[.val (.int p1), .val (.int p2), .val (.ref b2), .val (.int cc), .unset] [(.int (1 : Int32))]) := fun t k => by
                  refine go225 t ?_
                  refine XS.icmpYes X203.here hx rfl (pc0 := 149) (pc' := 158) rfl (hb hby at_149) rfl (Jvm.Free.XT.ii_eq_t hc226) (by decide) (by decide) ?_
                  show Steps p.tables e below (T203.setTop (mkF m 158 #[.val (.int p1), .val (.int p2), .val (.ref b2), .val (.int cc), .unset] [])) _
                  refine XS.iconst X203.here hx rfl (hb hby at_158) ?_
                  show Steps p.tables e below (T203.setTop (mkF m 159 #[.val (.int p1), .val (.int p2), .val (.ref b2), .val (.int cc), .unset] [(.int (1 : Int32))])) _
                  refine XS.goto X203.here hx rfl (pc0 := 159) (pc' := 163) rfl (hb hby at_159) (by decide) (by decide) ?_
                  show Steps p.tables e below (T203.setTop (mkF m 163 #[.val (.int p1), .val (.int p2), .val (.ref b2), .val (.int cc), .unset] [(.int (1 : Int32))])) _
                  exact k
                exact ⟨T203, (1 : Int32), X203, e203, (by simp [own_ex, hc211, hc214, hc217, hc220, hc223, hc226]), go227⟩
              · have go228 : Goes p e below s₁ (entryFrame m #[(.int p1), (.int p2)] maxLocals) T203 (mkF m 155 #[.val (.int p1), .val (.int p2), .val (.ref b2), .val (.int cc), .unset] [(.int (44 : Int32)), (.int cc)]) := fun t k => by
                  refine go225 t ?_
                  refine XS.icmpNo X203.here hx rfl (hb hby at_149) rfl (Jvm.Free.XT.ii_eq_f hc226) ?_
                  show Steps p.tables e below (T203.setTop (mkF m 152 #[.val (.int p1), .val (.int p2), .val (.ref b2), .val (.int cc), .unset] [])) _
                  refine XS.iloadN X203.here hx rfl (hb hby at_152) rfl ?_
                  show Steps p.tables e below (T203.setTop (mkF m 153 #[.val (.int p1), .val (.int p2), .val (.ref b2), .val (.int cc), .unset] [(.int cc)])) _
                  refine XS.bipush X203.here hx rfl (hb hby at_153) ?_
                  show Steps p.tables e below (T203.setTop (mkF m 155 #[.val (.int p1), .val (.int p2), .val (.ref b2), .val (.int cc), .unset] [(.int (44 : Int32)), (.int cc)])) _
                  exact k
                by_cases hc229 : cc = (44 : Int32)
                · have go230 : Goes p e below s₁ (entryFrame m #[(.int p1), (.int p2)] maxLocals) T203 (mkF m 163 #[.val (.int p1), .val (.int p2), .val (.ref b2), .val (.int cc), .unset] [(.int (1 : Int32))]) := fun t k => by
                    refine go228 t ?_
                    refine XS.icmpNo X203.here hx rfl (hb hby at_155) rfl (Jvm.Free.XT.ii_ne_f hc229) ?_
                    show Steps p.tables e below (T203.setTop (mkF m 158 #[.val (.int p1), .val (.int p2), .val (.ref b2), .val (.int cc), .unset] [])) _
                    refine XS.iconst X203.here hx rfl (hb hby at_158) ?_
                    show Steps p.tables e below (T203.setTop (mkF m 159 #[.val (.int p1), .val (.int p2), .val (.ref b2), .val (.int cc), .unset] [(.int (1 : Int32))])) _
                    refine XS.goto X203.here hx rfl (pc0 := 159) (pc' := 163) rfl (hb hby at_159) (by decide) (by decide) ?_
                    show Steps p.tables e below (T203.setTop (mkF m 163 #[.val (.int p1), .val (.int p2), .val (.ref b2), .val (.int cc), .unset] [(.int (1 : Int32))])) _
                    exact k
                  exact ⟨T203, (1 : Int32), X203, e203, (by simp [own_ex, hc211, hc214, hc217, hc220, hc223, hc226, hc229]), go230⟩
                · have go231 : Goes p e below s₁ (entryFrame m #[(.int p1), (.int p2)] maxLocals) T203 (mkF m 163 #[.val (.int p1), .val (.int p2), .val (.ref b2), .val (.int cc), .unset] [(.int (0 : Int32))]) := fun t k => by
                    refine go228 t ?_
                    refine XS.icmpYes X203.here hx rfl (pc0 := 155) (pc' := 162) rfl (hb hby at_155) rfl (Jvm.Free.XT.ii_ne_t hc229) (by decide) (by decide) ?_
                    show Steps p.tables e below (T203.setTop (mkF m 162 #[.val (.int p1), .val (.int p2), .val (.ref b2), .val (.int cc), .unset] [])) _
                    refine XS.iconst X203.here hx rfl (hb hby at_162) ?_
                    show Steps p.tables e below (T203.setTop (mkF m 163 #[.val (.int p1), .val (.int p2), .val (.ref b2), .val (.int cc), .unset] [(.int (0 : Int32))])) _
                    exact k
                  exact ⟨T203, (0 : Int32), X203, e203, (by simp [own_ex, hc211, hc214, hc217, hc220, hc223, hc226, hc229]), go231⟩
  have go232 : Goes p e below s₁ (entryFrame m #[(.int p1), (.int p2)] maxLocals) T210 (mkF m 166 #[.val (.int p1), .val (.int p2), .val (.ref b2), .val (.int cc), .val (.int exv)] [(.int cc)]) := fun t k => by
    refine go210j t ?_
    refine XS.istore X210.here hx rfl (hb hby at_163) rfl (l' := #[.val (.int p1), .val (.int p2), .val (.ref b2), .val (.int cc), .val (.int exv)]) rfl ?_
    show Steps p.tables e below (T210.setTop (mkF m 165 #[.val (.int p1), .val (.int p2), .val (.ref b2), .val (.int cc), .val (.int exv)] [])) _
    refine XS.iloadN X210.here hx rfl (hb hby at_165) rfl ?_
    show Steps p.tables e below (T210.setTop (mkF m 166 #[.val (.int p1), .val (.int p2), .val (.ref b2), .val (.int cc), .val (.int exv)] [(.int cc)])) _
    exact k
  obtain ⟨_, _, ⟨T233, L233, k233, n233⟩, -, X233, hS233q, hg233q, ⟨Lc233, hQ233, l233, y233, z233, Cq233⟩, st233⟩ := Jvm.RoadKit.callSS X210 hx (y := (⟨"com/example/lazy_lasso/lazylasso/Lexer", "isSpecial", "(C)Z"⟩ : MethodName)) hown (mvT hZ (hw _ (List.mem_of_getElem? (i := 3) rfl))) (mvT hZ (hw _ (List.mem_of_getElem? (i := 4) rfl))) (mvT hZ (hw _ (List.mem_of_getElem? (i := 5) rfl))) (mvT hZ (hw _ (List.mem_of_getElem? (i := 6) rfl))) (by decide) (backOfSH (s := s) (W := 0) (rmSp l Z a0 hw [] cc cs h192 n0 Z197 hEL O196 S_CS hcs) hZ (hw _ (List.mem_of_getElem? (i := 6) rfl)) (hw _ (List.mem_of_getElem? (i := 5) rfl)) (by decide) (by decide) hEL C195.1) (g := (mkF m 166 #[.val (.int p1), .val (.int p2), .val (.ref b2), .val (.int cc), .val (.int exv)] [(.int cc)])) rfl (by rw [hml]; rfl) (argsL := [(.int cc)]) (rest := []) (lenOf pd_7 rfl) rfl (by show 2 * 0 + _ ≤ _; exact Nat.le_of_eq rfl) (hb hby at_166) (fun _ _ => ⟨rfl, e210, (by decide : 1 + 2 ≤ room_1.cells), (by decide : 16 + 32 ≤ room_1.slots)⟩)
  dsimp only [Pt.U, Pt.locs, Pt.cells, Pt.slots] at X233 l233 y233 z233 st233 hQ233 hS233q hg233q Cq233
  subst l233 y233 z233
  obtain ⟨X233, hS233, hZ, hown⟩ := rebS hS0 (show _ ≤ T210.heap.size by rw [e210]; exact hk199) X233 hS233q hg233q hZ hown
  obtain ⟨rfl, N233q, Kq233⟩ := hQ233
  have N233 := Fr.app N200 N233q
  have C234 := C195.trans Cq233
  have f235 := V193.keep Kq233 nin0
  have O236 := O196.keep Kq233 all0
  have Z237 := Nat.le_trans Z197 Kq233.1
  have K238 := K198.trans Kq233 all0
  have hk239 := Nat.le_trans hk199 Kq233.1
  have hk240 : T233.heap.size ≤ T233.heap.size := Nat.le_refl T233.heap.size
  have go241 : Goes p e below s₁ (entryFrame m #[(.int p1), (.int p2)] maxLocals) T233 (mkF m 169 #[.val (.int p1), .val (.int p2), .val (.ref b2), .val (.int cc), .val (.int exv)] [(.int (own_is cc))]) := fun t k => go232 t (st233.trans k)
  have go242 : Goes p e below s₁ (entryFrame m #[(.int p1), (.int p2)] maxLocals) T233 (mkF m 171 #[.val (.int p1), .val (.int p2), .val (.ref b2), .val (.int cc), .val (.int exv)] [(.int exv), (.int (own_is cc))]) := fun t k => by
    refine go241 t ?_
    refine XS.iload X233.here hx rfl (hb hby at_169) rfl ?_
    show Steps p.tables e below (T233.setTop (mkF m 171 #[.val (.int p1), .val (.int p2), .val (.ref b2), .val (.int cc), .val (.int exv)] [(.int exv), (.int (own_is cc))])) _
    exact k
  have go243 : Goes p e below s₁ (entryFrame m #[(.int p1), (.int p2)] maxLocals) T233 (mkF m 179 #[.val (.int p1), .val (.int p2), .val (.ref b2), .val (.int cc), .val (.int exv)] [(.int (1 : Int32))]) := fun t k => by
    refine go242 t ?_
    refine XS.icmpNo X233.here hx rfl (hb hby at_171) rfl (Jvm.Free.XT.ii_ne_f ((own_core hj203).trans hj210.symm)) ?_
    show Steps p.tables e below (T233.setTop (mkF m 174 #[.val (.int p1), .val (.int p2), .val (.ref b2), .val (.int cc), .val (.int exv)] [])) _
    refine XS.iconst X233.here hx rfl (hb hby at_174) ?_
    show Steps p.tables e below (T233.setTop (mkF m 175 #[.val (.int p1), .val (.int p2), .val (.ref b2), .val (.int cc), .val (.int exv)] [(.int (1 : Int32))])) _
    refine XS.goto X233.here hx rfl (pc0 := 175) (pc' := 179) rfl (hb hby at_175) (by decide) (by decide) ?_
    show Steps p.tables e below (T233.setTop (mkF m 179 #[.val (.int p1), .val (.int p2), .val (.ref b2), .val (.int cc), .val (.int exv)] [(.int (1 : Int32))])) _
    exact k
  obtain ⟨fs, hr, hrun, hended, hW⟩ := X233.leaveW hS233 (by show _; exact hk240) (v := some (.int (1 : Int32))) (fun h => by rw [Bd.returns] at h; cases h)
  refine ⟨_, _, go243 _ ?_, hrun, hended, _, _, rfl, ?_, (by rw [hh]; show CHr Z consts_1 s.vm h0 T233.vm T233.heap; exact C234.trans (CHv.at X233 hZ hEL C234.1)), ⟨_, rfl⟩, hW.2.1, hW.2.2.1, hW.2.2.2.mono (by decide) (by decide)⟩
  · exact retN X233 hx (t := .boolean) Bd.returns (by simp) (hb hby at_179) hr
  · show Q0 Z _ _ _ _ _ _ T233.heap _
    exact ⟨rfl, N233⟩
set_option maxRecDepth 65536 in
set_option maxHeartbeats 40000000 in
theorem comes_1 {Post : Tables → Env → Array Value → State → Outcome → State → Prop} (hpost : ∀ tb e args s v u, (limb_1_1.after args s (.returned v) u = true ∧ limb_1_2.after args s (.returned v) u = true ∧ True) → ReturnedEndW s (.returned v) u (Jvm.fieldLocs frame_1_writes args s ++ Jvm.arrayLocs frame_1_arrays args s ++ Jvm.staticLocs frame_1_statics s) 16 1152 → Post tb e args s (.returned v) u) :
    ArmFor flags0 classFile x code maxLocals ret World_1 tables_1 room_1 Calls_1 rest_1 Pre_1 Post := by
  intro l hfl _ _ p e ha hc hk s m args below hf hA hF happ hP
  obtain ⟨hcalls, hrest, hpre⟩ := hP
  obtain ⟨-, -, -, hnamed, -, -, -, hat⟩ := (Spec.applies_iff hf).mp happ
  obtain ⟨hg, hn⟩ := and_e (Cond.before_iff.mp (show (Jvm.Cond.and given_1 narrow_1).before args s = true from hpre))
  obtain ⟨hg0, hg⟩ := and_e hg
  obtain ⟨ga0, hg⟩ := and_e hg
  have ga1 := hg
  obtain ⟨w0, w1, rfl⟩ : ∃ w0 w1 : Value, args = #[w0, w1] := by
    have hs : args.size = 2 := by simpa [Cond.value, given_1] using hg0
    obtain ⟨L⟩ := args
    match L, hs with
    | [w0, w1], _ => exact ⟨w0, w1, rfl⟩
  have hw := fun d (hd : d ∈ tables_1) => atoms_spec (ws := Jvm.Cond.code x code maxLocals ret :: tables_1) hat d (List.mem_cons_of_mem _ hd)
  have hfit : Fit s := fun {y c} hc i hi => by
    obtain ⟨ha, rfl⟩ := Array.getElem?_eq_some_iff.mp hc
    have q := List.all_eq_true.mp ((Array.all_eq_true_iff_forall_mem.mp hF) _ (Array.getElem_mem ha)) i (List.mem_range.mpr hi)
    simpa [Array.getElem?_eq_getElem hi] using q
  obtain ⟨hsets, hown0⟩ := atoms_of _ (rest_1_c_eq ▸ (show rest_1_c.before _ s = true from hrest))
  have hr0 := Cond.before_iff.mp hown0
  obtain ⟨i0, ei0⟩ := is_v ga0
  obtain rfl : w0 = (.int i0) := Option.some.inj ei0
  obtain ⟨i1, ei1⟩ := is_v ga1
  obtain rfl : w1 = (.int i1) := Option.some.inj ei1
  obtain ⟨cs, S_CS, hcs⟩ := own_cs (hsets _ (List.mem_of_getElem? (i := 0) rfl)) (hsets _ (List.mem_of_getElem? (i := 1) rfl)) (hsets _ (List.mem_of_getElem? (i := 2) rfl))
  have hEL : EW s _ consts_1 := EW.cons (hw _ (List.mem_of_getElem? (i := 7) rfl)) (by decide) EW.nil
  have hCH : CHv s consts_1 s.vm s.heap := CHv.start hEL (fun p hp => hcalls.1 p hp) (hsets _ (List.mem_of_getElem? (i := 2) rfl)) (hw _ (own_sa _ (by simp [Bundle.stringAtoms]))) (hw _ (own_sa _ (by simp [Bundle.stringAtoms, Bundle.sN])))
  obtain ⟨n, o, h1, h2, h3, _, L, rfl, ⟨rfl, N⟩, -, hq⟩ := rm0 l s _ hw tables_1 i0 i1 cs s.heap s.heap.size (Nat.le_refl _) hEL (Old.start s) S_CS hcs p e ha hc hk s m _ below hf ((Spec.applies_iff_loose hf).mp happ).1 ⟨rfl, State.Warmed39.refl s, rfl, hCH⟩ trivial
  refine ⟨n, _, h1, h2, h3, hpost _ _ _ _ _ _ ⟨Cond.after_iff.mpr rfl, Cond.after_iff.mpr (eq_i res_at (Term.int_eval (1)) rfl), trivial⟩ ⟨hq.1, hq.2.1, hq.2.2.1, (hq.2.2.2.sift fun y hy => Or.inr (N y hy)).mono (by decide) (by decide)⟩⟩
theorem main_1_1 : Claimed_1_1 := comes_1 fun _ _ _ _ _ _ h hF => ⟨h.1, hF⟩
theorem main_1_2 : Claimed_1_2 := comes_1 fun _ _ _ _ _ _ h hF => ⟨h.2.1, hF⟩
end Jvm.Pilot.@@N@@
namespace Jvm.Pilot.@@N@@
open Jvm Jvm.ClassFile Sem Op Lib Jvm.Free Jvm.Stand Jvm.Pilot.@@N@@.Jvm.D
/-! MADE BY PROGRAM (witnessworld.py) out of the Statement's table words and the real class files: 20 classes; the members and pool entries that the words name. The judged class is class 1, her method 1. -/
namespace start1
open Jvm.ClassFile
def u (s : String) : CpInfo := .utf8 (stringToUtf16 s)
/-- a pool by its gaps: so many unusable entries, then the entry; so many at the end -/
def gap : Nat → List CpInfo → List CpInfo
  | 0, r => r
  | n + 1, r => .unusable :: gap n r
def poolList (es : List (Nat × CpInfo)) (last : Nat) : List CpInfo := es.foldr (fun e r => gap e.1 (e.2 :: r)) (gap last [])
def pool (es : List (Nat × CpInfo)) (last : Nat) : Array CpInfo := ⟨poolList es last⟩
def fileOf (pool : Array CpInfo) (this : Nat) (attrs : Array Attribute := #[]) (ms : Array MethodInfo := #[]) (fl : Nat := 33) (sup : Nat := 0) (ifs : Array Nat := #[]) (fds : Array FieldInfo := #[]) : ClassFile where
  minorVersion := 0
  majorVersion := 65
  constantPool := pool
  accessFlags := fl
  thisClass := this
  superClass := sup
  interfaces := ifs
  fields := fds
  methods := ms
  attributes := attrs
def plain (name : String) (sup : Option ClassId) : Class where
  name := name
  kind := .ordinary
  loader := none
  accessFlags := 33
  super := sup
  interfaces := #[]
  cf := none
  fields := #[]
  methods := #[]
  instanceTypes := #[]
  staticTypes := #[]
  resolved := #[]
  callSites := []
  init := .initialized
  statics := none
  mirror := none

def pool0 : Array CpInfo := pool [(5, u "<init>"), (0, u "()V"), (1, .class_ 10), (1, u "java/lang/Object")] 113

def k0m0 : Method := { name := "<init>", desc := "()V", sig := { parameters := [], returnType := none }, accessFlags := 1, code := none }
/-- java/lang/Object -/
def k0 : Class := { plain "java/lang/Object" none with
  accessFlags := 33
  interfaces := #[]
  cf := some (fileOf pool0 8 #[] #[{ accessFlags := 1, nameIndex := 5, descriptorIndex := 6, attributes := #[] }] 33 0 #[] #[])
  fields := #[]
  methods := #[k0m0]
  instanceTypes := #[]
  staticTypes := #[]
  resolved := Array.replicate 124 none
  statics := none }

def pool1 : Array CpInfo := pool [(2, .class_ 4), (1, u "java/lang/Object"), (0, u "<init>"), (0, u "()V"), (0, .integer 65535), (0, .integer 2147483647), (0, .methodref 10 11), (0, .class_ 12), (0, .nameAndType 13 14), (0, u "com/example/lazy_lasso/lazylasso/Lexer"), (0, u "isSpecial"), (0, u "(C)Z"), (0, .class_ 16), (0, u "com/example/lazy_lasso/lazylasso/LexerIsSpecialPinLaw"), (2, u "law"), (0, u "(II)Z")] 5

def k1m0 : Method := { name := "<init>", desc := "()V", sig := { parameters := [], returnType := none }, accessFlags := 1, code := none }
def k1c1 : Code := { maxStack := 4, maxLocals := 5, code := code, exceptionTable := #[], attributes := #[] }
def k1m1 : Method := { name := "law", desc := "(II)Z", sig := { parameters := [.int, .int], returnType := some .boolean }, accessFlags := 9, code := some k1c1 }
/-- com/example/lazy_lasso/lazylasso/LexerIsSpecialPinLaw -/
def k1 : Class := { plain "com/example/lazy_lasso/lazylasso/LexerIsSpecialPinLaw" (some 0) with
  accessFlags := 49
  interfaces := #[]
  cf := some (fileOf pool1 15 #[] #[{ accessFlags := 1, nameIndex := 5, descriptorIndex := 6, attributes := #[] }, { accessFlags := 9, nameIndex := 19, descriptorIndex := 20, attributes := #[] }] 49 2 #[] #[])
  fields := #[]
  methods := #[k1m0, k1m1]
  instanceTypes := #[]
  staticTypes := #[]
  resolved := Array.replicate 26 none
  statics := none }

def pool2 : Array CpInfo := pool [(2, .class_ 4), (1, u "java/lang/Object"), (3, .class_ 10), (1, u "com/example/lazy_lasso/lazylasso/Lexer"), (0, u "line"), (0, u "I"), (1, u "text"), (6, .class_ 22), (0, u "java/lang/String"), (2, u "Ljava/lang/String;"), (5, u "position"), (16, u "isSpecial"), (0, u "(C)Z"), (41, u "indexOf"), (12, .methodref 21 105), (0, .nameAndType 91 106), (0, u "(I)I"), (0, .string 108), (0, u "()[]{},"), (4, u "BLANKS"), (1, u "SPECIALS"), (0, u "OPENERS"), (0, u "CLOSERS")] 30

def k2c0 : Code := { maxStack := 2, maxLocals := 1, code := prog_46_method_10_code, exceptionTable := #[], attributes := #[] }
def k2m0 : Method := { name := "isSpecial", desc := "(C)Z", sig := { parameters := [.char], returnType := some .boolean }, accessFlags := 8, code := some k2c0 }
/-- com/example/lazy_lasso/lazylasso/Lexer -/
def k2 : Class := { plain "com/example/lazy_lasso/lazylasso/Lexer" (some 0) with
  accessFlags := 49
  interfaces := #[]
  cf := some (fileOf pool2 8 #[] #[{ accessFlags := 8, nameIndex := 48, descriptorIndex := 49, attributes := #[] }] 49 2 #[] #[{ accessFlags := 26, nameIndex := 113, descriptorIndex := 25, attributes := #[] }, { accessFlags := 26, nameIndex := 115, descriptorIndex := 25, attributes := #[] }, { accessFlags := 26, nameIndex := 116, descriptorIndex := 25, attributes := #[] }, { accessFlags := 26, nameIndex := 117, descriptorIndex := 25, attributes := #[] }, { accessFlags := 18, nameIndex := 14, descriptorIndex := 25, attributes := #[] }, { accessFlags := 2, nameIndex := 31, descriptorIndex := 12, attributes := #[] }, { accessFlags := 2, nameIndex := 11, descriptorIndex := 12, attributes := #[] }])
  fields := #[{ name := "BLANKS", type := (.object "java/lang/String"), accessFlags := 26, slot := 0, constantValue := 0 }, { name := "SPECIALS", type := (.object "java/lang/String"), accessFlags := 26, slot := 1, constantValue := 0 }, { name := "OPENERS", type := (.object "java/lang/String"), accessFlags := 26, slot := 2, constantValue := 0 }, { name := "CLOSERS", type := (.object "java/lang/String"), accessFlags := 26, slot := 3, constantValue := 0 }, { name := "text", type := (.object "java/lang/String"), accessFlags := 18, slot := 0, constantValue := 0 }, { name := "position", type := .int, accessFlags := 2, slot := 1, constantValue := 0 }, { name := "line", type := .int, accessFlags := 2, slot := 2, constantValue := 0 }]
  methods := #[k2m0]
  instanceTypes := #[(.object "java/lang/String"), .int, .int]
  staticTypes := #[(.object "java/lang/String"), (.object "java/lang/String"), (.object "java/lang/String"), (.object "java/lang/String")]
  resolved := Array.replicate 148 none
  statics := none }

def pool3 : Array CpInfo := pool [(1, .class_ 2), (0, u "java/io/Serializable"), (0, .class_ 4), (0, u "java/lang/Object")] 2

/-- java/io/Serializable -/
def k3 : Class := { plain "java/io/Serializable" (some 0) with
  accessFlags := 1537
  interfaces := #[]
  cf := some (fileOf pool3 1 #[] #[] 1537 3 #[] #[])
  fields := #[]
  methods := #[]
  instanceTypes := #[]
  staticTypes := #[]
  resolved := Array.replicate 7 none
  statics := none }

def pool4 : Array CpInfo := pool [(1, .class_ 2), (0, u "java/lang/Comparable"), (0, .class_ 4), (0, u "java/lang/Object")] 7

/-- java/lang/Comparable -/
def k4 : Class := { plain "java/lang/Comparable" (some 0) with
  accessFlags := 1537
  interfaces := #[]
  cf := some (fileOf pool4 1 #[] #[] 1537 3 #[] #[])
  fields := #[]
  methods := #[]
  instanceTypes := #[]
  staticTypes := #[]
  resolved := Array.replicate 12 none
  statics := none }

def pool5 : Array CpInfo := pool [(2, .class_ 4), (1, u "java/lang/CharSequence"), (42, .class_ 48), (0, u "java/lang/CharSequence$1CodePointIterator"), (10, .class_ 60), (0, u "java/lang/CharSequence$1CharIterator"), (5, .class_ 67), (0, u "java/lang/Object")] 63

/-- java/lang/CharSequence -/
def k5 : Class := { plain "java/lang/CharSequence" (some 0) with
  accessFlags := 1537
  interfaces := #[]
  cf := some (fileOf pool5 2 #[.nestMembers #[47, 59]] #[] 1537 66 #[] #[])
  fields := #[]
  methods := #[]
  instanceTypes := #[]
  staticTypes := #[]
  resolved := Array.replicate 131 none
  statics := none }

def pool6 : Array CpInfo := pool [(1, .class_ 2), (0, u "java/lang/constant/Constable"), (0, .class_ 4), (0, u "java/lang/Object")] 6

/-- java/lang/constant/Constable -/
def k6 : Class := { plain "java/lang/constant/Constable" (some 0) with
  accessFlags := 1537
  interfaces := #[]
  cf := some (fileOf pool6 1 #[] #[] 1537 3 #[] #[])
  fields := #[]
  methods := #[]
  instanceTypes := #[]
  staticTypes := #[]
  resolved := Array.replicate 11 none
  statics := none }

def pool7 : Array CpInfo := pool [(1, .class_ 2), (0, u "java/lang/constant/ConstantDesc"), (0, .class_ 4), (0, u "java/lang/Object")] 32

/-- java/lang/constant/ConstantDesc -/
def k7 : Class := { plain "java/lang/constant/ConstantDesc" (some 0) with
  accessFlags := 1537
  interfaces := #[]
  cf := some (fileOf pool7 1 #[] #[] 1537 3 #[] #[])
  fields := #[]
  methods := #[]
  instanceTypes := #[]
  staticTypes := #[]
  resolved := Array.replicate 37 none
  statics := none }

def pool8 : Array CpInfo := pool [(2, .class_ 4), (1, u "java/lang/Object"), (0, u "<init>"), (0, u "()V"), (2, .fieldref 10 11), (0, .class_ 12), (0, .nameAndType 13 14), (0, u "java/lang/String"), (0, u "value"), (0, u "[B"), (0, .fieldref 10 16), (0, .nameAndType 17 18), (0, u "coder"), (0, u "B"), (2, u "hash"), (0, u "I"), (2, u "hashIsZero"), (0, u "Z"), (11, .fieldref 10 39), (0, .nameAndType 40 26), (0, u "COMPACT_STRINGS"), (66, .class_ 109), (1, u "java/lang/StringLatin1"), (32, u "()Z"), (191, u "()I"), (0, .methodref 10 336), (0, .nameAndType 17 337), (0, u "()B"), (154, .methodref 10 493), (0, .nameAndType 494 142), (0, u "isLatin1"), (10, .methodref 10 506), (0, .nameAndType 507 334), (0, u "length"), (67, .class_ 576), (0, u "java/lang/CharSequence"), (22, u "CASE_INSENSITIVE_ORDER"), (0, u "Ljava/util/Comparator;"), (32, .methodref 10 634), (0, .nameAndType 635 636), (0, u "indexOf"), (0, u "(II)I"), (0, .methodref 107 638), (0, .nameAndType 635 639), (0, u "([BIII)I"), (125, u "(I)I"), (335, u "serialPersistentFields"), (0, u "[Ljava/io/ObjectStreamField;"), (0, .class_ 1104), (0, u "java/lang/String$CaseInsensitiveComparator"), (1, .class_ 1107), (0, u "java/io/Serializable"), (0, .class_ 1109), (0, u "java/lang/Comparable"), (0, .class_ 1111), (0, u "java/lang/constant/Constable"), (0, .class_ 1113), (0, u "java/lang/constant/ConstantDesc"), (2, u "serialVersionUID"), (0, u "J"), (3, u "REPL"), (0, u "C"), (2, u "LATIN1"), (1, u "UTF16")] 323

def k8m0 : Method := { name := "<init>", desc := "()V", sig := { parameters := [], returnType := none }, accessFlags := 1, code := none }
def k8c1 : Code := { maxStack := 2, maxLocals := 1, code := jdk_42_method_54_code, exceptionTable := #[], attributes := #[] }
def k8m1 : Method := { name := "length", desc := "()I", sig := { parameters := [], returnType := some .int }, accessFlags := 1, code := some k8c1 }
def k8c2 : Code := { maxStack := 3, maxLocals := 2, code := jdk_42_method_79_code, exceptionTable := #[], attributes := #[] }
def k8m2 : Method := { name := "indexOf", desc := "(I)I", sig := { parameters := [.int], returnType := some .int }, accessFlags := 1, code := some k8c2 }
def k8c3 : Code := { maxStack := 4, maxLocals := 3, code := jdk_42_method_80_code, exceptionTable := #[], attributes := #[] }
def k8m3 : Method := { name := "indexOf", desc := "(II)I", sig := { parameters := [.int, .int], returnType := some .int }, accessFlags := 1, code := some k8c3 }
def k8c4 : Code := { maxStack := 1, maxLocals := 1, code := jdk_42_method_152_code, exceptionTable := #[], attributes := #[] }
def k8m4 : Method := { name := "coder", desc := "()B", sig := { parameters := [], returnType := some .byte }, accessFlags := 0, code := some k8c4 }
def k8c5 : Code := { maxStack := 1, maxLocals := 1, code := jdk_42_method_154_code, exceptionTable := #[], attributes := #[] }
def k8m5 : Method := { name := "isLatin1", desc := "()Z", sig := { parameters := [], returnType := some .boolean }, accessFlags := 0, code := some k8c5 }
/-- java/lang/String -/
def k8 : Class := { plain "java/lang/String" (some 0) with
  accessFlags := 49
  interfaces := #[3, 4, 5, 6, 7]
  cf := some (fileOf pool8 10 #[.nestMembers #[1103]] #[{ accessFlags := 1, nameIndex := 5, descriptorIndex := 6, attributes := #[] }, { accessFlags := 1, nameIndex := 507, descriptorIndex := 334, attributes := #[] }, { accessFlags := 1, nameIndex := 635, descriptorIndex := 765, attributes := #[] }, { accessFlags := 1, nameIndex := 635, descriptorIndex := 636, attributes := #[] }, { accessFlags := 0, nameIndex := 17, descriptorIndex := 337, attributes := #[] }, { accessFlags := 0, nameIndex := 494, descriptorIndex := 142, attributes := #[] }] 49 2 #[1106, 1108, 575, 1110, 1112] #[{ accessFlags := 18, nameIndex := 13, descriptorIndex := 14, attributes := #[] }, { accessFlags := 18, nameIndex := 17, descriptorIndex := 18, attributes := #[] }, { accessFlags := 2, nameIndex := 21, descriptorIndex := 22, attributes := #[] }, { accessFlags := 2, nameIndex := 25, descriptorIndex := 26, attributes := #[] }, { accessFlags := 26, nameIndex := 1116, descriptorIndex := 1117, attributes := #[] }, { accessFlags := 24, nameIndex := 40, descriptorIndex := 26, attributes := #[] }, { accessFlags := 26, nameIndex := 1101, descriptorIndex := 1102, attributes := #[] }, { accessFlags := 26, nameIndex := 1121, descriptorIndex := 1122, attributes := #[] }, { accessFlags := 25, nameIndex := 599, descriptorIndex := 600, attributes := #[] }, { accessFlags := 24, nameIndex := 1125, descriptorIndex := 18, attributes := #[] }, { accessFlags := 24, nameIndex := 1127, descriptorIndex := 18, attributes := #[] }])
  fields := #[{ name := "value", type := (.array .byte), accessFlags := 18, slot := 0, constantValue := 0 }, { name := "coder", type := .byte, accessFlags := 18, slot := 1, constantValue := 0 }, { name := "hash", type := .int, accessFlags := 2, slot := 2, constantValue := 0 }, { name := "hashIsZero", type := .boolean, accessFlags := 2, slot := 3, constantValue := 0 }, { name := "serialVersionUID", type := .long, accessFlags := 26, slot := 0, constantValue := 0 }, { name := "COMPACT_STRINGS", type := .boolean, accessFlags := 24, slot := 1, constantValue := 0 }, { name := "serialPersistentFields", type := (.array (.object "java/io/ObjectStreamField")), accessFlags := 26, slot := 2, constantValue := 0 }, { name := "REPL", type := .char, accessFlags := 26, slot := 3, constantValue := 0 }, { name := "CASE_INSENSITIVE_ORDER", type := (.object "java/util/Comparator"), accessFlags := 25, slot := 4, constantValue := 0 }, { name := "LATIN1", type := .byte, accessFlags := 24, slot := 5, constantValue := 0 }, { name := "UTF16", type := .byte, accessFlags := 24, slot := 6, constantValue := 0 }]
  methods := #[k8m0, k8m1, k8m2, k8m3, k8m4, k8m5]
  instanceTypes := #[(.array .byte), .byte, .int, .boolean]
  staticTypes := #[.long, .boolean, (.array (.object "java/io/ObjectStreamField")), .char, (.object "java/util/Comparator"), .byte, .byte]
  resolved := Array.replicate 1451 none
  statics := some 0 }

def pool9 : Array CpInfo := pool [(4, .class_ 6), (1, u "java/lang/Object"), (0, u "<init>"), (0, u "()V"), (5, .class_ 16), (1, u "java/lang/StringLatin1"), (21, .methodref 39 40), (0, .class_ 41), (0, .nameAndType 42 43), (0, u "java/lang/Math"), (0, u "min"), (0, u "(II)I"), (44, .methodref 14 89), (0, .nameAndType 90 91), (0, u "canEncode"), (0, u "(I)Z"), (0, .methodref 39 93), (0, .nameAndType 94 43), (0, u "max"), (0, .methodref 14 96), (0, .nameAndType 97 98), (0, u "indexOfChar"), (0, u "([BIII)I"), (2, u "indexOf"), (19, u "$assertionsDisabled"), (0, u "Z"), (98, .class_ 223), (1, u "java/lang/StringLatin1$LinesSpliterator"), (166, .class_ 391), (0, u "java/lang/StringLatin1$CharsSpliterator")] 3

def k9m0 : Method := { name := "<init>", desc := "()V", sig := { parameters := [], returnType := none }, accessFlags := 0, code := none }
def k9c1 : Code := { maxStack := 2, maxLocals := 1, code := jdk_43_method_4_code, exceptionTable := #[], attributes := #[] }
def k9m1 : Method := { name := "canEncode", desc := "(I)Z", sig := { parameters := [.int], returnType := some .boolean }, accessFlags := 9, code := some k9c1 }
def k9c2 : Code := { maxStack := 4, maxLocals := 4, code := jdk_43_method_22_code, exceptionTable := #[], attributes := #[] }
def k9m2 : Method := { name := "indexOf", desc := "([BIII)I", sig := { parameters := [(.array .byte), .int, .int, .int], returnType := some .int }, accessFlags := 9, code := some k9c2 }
def k9c3 : Code := { maxStack := 2, maxLocals := 6, code := jdk_43_method_23_code, exceptionTable := #[], attributes := #[] }
def k9m3 : Method := { name := "indexOfChar", desc := "([BIII)I", sig := { parameters := [(.array .byte), .int, .int, .int], returnType := some .int }, accessFlags := 10, code := some k9c3 }
/-- java/lang/StringLatin1 -/
def k9 : Class := { plain "java/lang/StringLatin1" (some 0) with
  accessFlags := 48
  interfaces := #[]
  cf := some (fileOf pool9 14 #[.nestMembers #[390, 221]] #[{ accessFlags := 0, nameIndex := 7, descriptorIndex := 8, attributes := #[] }, { accessFlags := 9, nameIndex := 90, descriptorIndex := 91, attributes := #[] }, { accessFlags := 9, nameIndex := 101, descriptorIndex := 98, attributes := #[] }, { accessFlags := 10, nameIndex := 97, descriptorIndex := 98, attributes := #[] }] 48 4 #[] #[{ accessFlags := 4120, nameIndex := 121, descriptorIndex := 122, attributes := #[] }])
  fields := #[{ name := "$assertionsDisabled", type := .boolean, accessFlags := 4120, slot := 0, constantValue := 0 }]
  methods := #[k9m0, k9m1, k9m2, k9m3]
  instanceTypes := #[]
  staticTypes := #[.boolean]
  resolved := Array.replicate 395 none
  statics := none }

def pool10 : Array CpInfo := pool [(1, .class_ 2), (0, u "java/lang/Math"), (1, .class_ 6), (1, u "java/lang/Object"), (0, u "<init>"), (0, u "()V"), (89, .class_ 100), (1, u "java/lang/Math$RandomNumberGeneratorHolder"), (71, u "negativeZeroFloatBits"), (0, u "J"), (2, u "negativeZeroDoubleBits"), (21, u "max"), (2, u "min"), (43, u "$assertionsDisabled"), (0, u "Z"), (88, u "(II)I"), (2, u "twoToTheDoubleScaleDown"), (0, u "D"), (4, u "twoToTheDoubleScaleUp"), (9, u "E"), (3, u "PI"), (2, u "TAU"), (2, u "DEGREES_TO_RADIANS"), (0, u "RADIANS_TO_DEGREES")] 94

def k10m0 : Method := { name := "<init>", desc := "()V", sig := { parameters := [], returnType := none }, accessFlags := 2, code := none }
def k10c1 : Code := { maxStack := 2, maxLocals := 2, code := jdk_29_method_65_code, exceptionTable := #[], attributes := #[] }
def k10m1 : Method := { name := "max", desc := "(II)I", sig := { parameters := [.int, .int], returnType := some .int }, accessFlags := 9, code := some k10c1 }
def k10c2 : Code := { maxStack := 2, maxLocals := 2, code := jdk_29_method_69_code, exceptionTable := #[], attributes := #[] }
def k10m2 : Method := { name := "min", desc := "(II)I", sig := { parameters := [.int, .int], returnType := some .int }, accessFlags := 9, code := some k10c2 }
/-- java/lang/Math -/
def k10 : Class := { plain "java/lang/Math" (some 0) with
  accessFlags := 49
  interfaces := #[]
  cf := some (fileOf pool10 1 #[.nestMembers #[98]] #[{ accessFlags := 2, nameIndex := 7, descriptorIndex := 8, attributes := #[] }, { accessFlags := 9, nameIndex := 198, descriptorIndex := 335, attributes := #[] }, { accessFlags := 9, nameIndex := 201, descriptorIndex := 335, attributes := #[] }] 49 4 #[] #[{ accessFlags := 25, nameIndex := 354, descriptorIndex := 339, attributes := #[] }, { accessFlags := 25, nameIndex := 358, descriptorIndex := 339, attributes := #[] }, { accessFlags := 25, nameIndex := 361, descriptorIndex := 339, attributes := #[] }, { accessFlags := 26, nameIndex := 364, descriptorIndex := 339, attributes := #[] }, { accessFlags := 26, nameIndex := 365, descriptorIndex := 339, attributes := #[] }, { accessFlags := 26, nameIndex := 172, descriptorIndex := 173, attributes := #[] }, { accessFlags := 26, nameIndex := 176, descriptorIndex := 173, attributes := #[] }, { accessFlags := 8, nameIndex := 344, descriptorIndex := 339, attributes := #[] }, { accessFlags := 8, nameIndex := 338, descriptorIndex := 339, attributes := #[] }, { accessFlags := 4120, nameIndex := 245, descriptorIndex := 246, attributes := #[] }])
  fields := #[{ name := "E", type := .double, accessFlags := 25, slot := 0, constantValue := 0 }, { name := "PI", type := .double, accessFlags := 25, slot := 1, constantValue := 0 }, { name := "TAU", type := .double, accessFlags := 25, slot := 2, constantValue := 0 }, { name := "DEGREES_TO_RADIANS", type := .double, accessFlags := 26, slot := 3, constantValue := 0 }, { name := "RADIANS_TO_DEGREES", type := .double, accessFlags := 26, slot := 4, constantValue := 0 }, { name := "negativeZeroFloatBits", type := .long, accessFlags := 26, slot := 5, constantValue := 0 }, { name := "negativeZeroDoubleBits", type := .long, accessFlags := 26, slot := 6, constantValue := 0 }, { name := "twoToTheDoubleScaleUp", type := .double, accessFlags := 8, slot := 7, constantValue := 0 }, { name := "twoToTheDoubleScaleDown", type := .double, accessFlags := 8, slot := 8, constantValue := 0 }, { name := "$assertionsDisabled", type := .boolean, accessFlags := 4120, slot := 9, constantValue := 0 }]
  methods := #[k10m0, k10m1, k10m2]
  instanceTypes := #[]
  staticTypes := #[.double, .double, .double, .double, .double, .long, .long, .double, .double, .boolean]
  resolved := Array.replicate 460 none
  statics := none }

def pool11 : Array CpInfo := pool [(2, .class_ 4), (1, u "java/lang/Object"), (0, u "<init>"), (0, u "()V"), (17, .class_ 26), (1, u "jdk/internal/util/Preconditions"), (28, .class_ 56), (0, u "jdk/internal/util/Preconditions$4"), (57, .class_ 115), (0, u "jdk/internal/util/Preconditions$1"), (7, u "SIOOBE_FORMATTER"), (0, u "Ljava/util/function/BiFunction;"), (0, .class_ 126), (0, u "jdk/internal/util/Preconditions$2"), (3, u "AIOOBE_FORMATTER"), (0, .class_ 132), (0, u "jdk/internal/util/Preconditions$3"), (3, u "IOOBE_FORMATTER")] 57

def k11m0 : Method := { name := "<init>", desc := "()V", sig := { parameters := [], returnType := none }, accessFlags := 1, code := none }
/-- jdk/internal/util/Preconditions -/
def k11 : Class := { plain "jdk/internal/util/Preconditions" (some 0) with
  accessFlags := 33
  interfaces := #[]
  cf := some (fileOf pool11 24 #[.nestMembers #[55, 131, 125, 114]] #[{ accessFlags := 1, nameIndex := 5, descriptorIndex := 6, attributes := #[] }] 33 2 #[] #[{ accessFlags := 25, nameIndex := 123, descriptorIndex := 124, attributes := #[] }, { accessFlags := 25, nameIndex := 130, descriptorIndex := 124, attributes := #[] }, { accessFlags := 25, nameIndex := 136, descriptorIndex := 124, attributes := #[] }])
  fields := #[{ name := "SIOOBE_FORMATTER", type := (.object "java/util/function/BiFunction"), accessFlags := 25, slot := 0, constantValue := 0 }, { name := "AIOOBE_FORMATTER", type := (.object "java/util/function/BiFunction"), accessFlags := 25, slot := 1, constantValue := 0 }, { name := "IOOBE_FORMATTER", type := (.object "java/util/function/BiFunction"), accessFlags := 25, slot := 2, constantValue := 0 }]
  methods := #[k11m0]
  instanceTypes := #[]
  staticTypes := #[(.object "java/util/function/BiFunction"), (.object "java/util/function/BiFunction"), (.object "java/util/function/BiFunction")]
  resolved := Array.replicate 194 none
  statics := some 1 }

def pool12 : Array CpInfo := pool [(9, u "<init>"), (6, .class_ 18), (1, u "java/lang/Object"), (0, u "()V"), (1, .class_ 23), (1, u "jdk/internal/util/ArraysSupport"), (0, u "LOG2_ARRAY_LONG_INDEX_SCALE"), (0, u "I"), (2, u "U"), (0, u "Ljdk/internal/misc/Unsafe;"), (8, u "BIG_ENDIAN"), (0, u "Z"), (8, u "LOG2_BYTE_BIT_SIZE"), (4, u "LOG2_ARRAY_INT_INDEX_SCALE"), (54, u "JLA"), (0, u "Ljdk/internal/access/JavaLangAccess;"), (11, u "LOG2_ARRAY_BOOLEAN_INDEX_SCALE"), (9, u "LOG2_ARRAY_BYTE_INDEX_SCALE"), (5, u "LOG2_ARRAY_CHAR_INDEX_SCALE"), (5, u "LOG2_ARRAY_SHORT_INDEX_SCALE"), (18, u "LOG2_ARRAY_FLOAT_INDEX_SCALE"), (24, u "LOG2_ARRAY_DOUBLE_INDEX_SCALE"), (89, u "T_BOOLEAN"), (2, u "T_CHAR"), (1, u "T_FLOAT"), (1, u "T_DOUBLE"), (1, u "T_BYTE"), (1, u "T_SHORT"), (1, u "T_INT"), (1, u "T_LONG"), (1, u "SOFT_MAX_ARRAY_LENGTH")] 83

def k12m0 : Method := { name := "<init>", desc := "()V", sig := { parameters := [], returnType := none }, accessFlags := 2, code := none }
/-- jdk/internal/util/ArraysSupport -/
def k12 : Class := { plain "jdk/internal/util/ArraysSupport" (some 0) with
  accessFlags := 33
  interfaces := #[]
  cf := some (fileOf pool12 21 #[] #[{ accessFlags := 2, nameIndex := 9, descriptorIndex := 19, attributes := #[] }] 33 16 #[] #[{ accessFlags := 24, nameIndex := 28, descriptorIndex := 29, attributes := #[] }, { accessFlags := 26, nameIndex := 38, descriptorIndex := 39, attributes := #[] }, { accessFlags := 25, nameIndex := 121, descriptorIndex := 25, attributes := #[] }, { accessFlags := 25, nameIndex := 131, descriptorIndex := 25, attributes := #[] }, { accessFlags := 25, nameIndex := 137, descriptorIndex := 25, attributes := #[] }, { accessFlags := 25, nameIndex := 143, descriptorIndex := 25, attributes := #[] }, { accessFlags := 25, nameIndex := 53, descriptorIndex := 25, attributes := #[] }, { accessFlags := 25, nameIndex := 24, descriptorIndex := 25, attributes := #[] }, { accessFlags := 25, nameIndex := 162, descriptorIndex := 25, attributes := #[] }, { accessFlags := 25, nameIndex := 187, descriptorIndex := 25, attributes := #[] }, { accessFlags := 26, nameIndex := 48, descriptorIndex := 25, attributes := #[] }, { accessFlags := 25, nameIndex := 277, descriptorIndex := 25, attributes := #[] }, { accessFlags := 25, nameIndex := 280, descriptorIndex := 25, attributes := #[] }, { accessFlags := 25, nameIndex := 282, descriptorIndex := 25, attributes := #[] }, { accessFlags := 25, nameIndex := 284, descriptorIndex := 25, attributes := #[] }, { accessFlags := 25, nameIndex := 286, descriptorIndex := 25, attributes := #[] }, { accessFlags := 25, nameIndex := 288, descriptorIndex := 25, attributes := #[] }, { accessFlags := 25, nameIndex := 290, descriptorIndex := 25, attributes := #[] }, { accessFlags := 25, nameIndex := 292, descriptorIndex := 25, attributes := #[] }, { accessFlags := 26, nameIndex := 108, descriptorIndex := 109, attributes := #[] }, { accessFlags := 25, nameIndex := 294, descriptorIndex := 25, attributes := #[] }])
  fields := #[{ name := "U", type := (.object "jdk/internal/misc/Unsafe"), accessFlags := 24, slot := 0, constantValue := 0 }, { name := "BIG_ENDIAN", type := .boolean, accessFlags := 26, slot := 1, constantValue := 0 }, { name := "LOG2_ARRAY_BOOLEAN_INDEX_SCALE", type := .int, accessFlags := 25, slot := 2, constantValue := 0 }, { name := "LOG2_ARRAY_BYTE_INDEX_SCALE", type := .int, accessFlags := 25, slot := 3, constantValue := 0 }, { name := "LOG2_ARRAY_CHAR_INDEX_SCALE", type := .int, accessFlags := 25, slot := 4, constantValue := 0 }, { name := "LOG2_ARRAY_SHORT_INDEX_SCALE", type := .int, accessFlags := 25, slot := 5, constantValue := 0 }, { name := "LOG2_ARRAY_INT_INDEX_SCALE", type := .int, accessFlags := 25, slot := 6, constantValue := 0 }, { name := "LOG2_ARRAY_LONG_INDEX_SCALE", type := .int, accessFlags := 25, slot := 7, constantValue := 0 }, { name := "LOG2_ARRAY_FLOAT_INDEX_SCALE", type := .int, accessFlags := 25, slot := 8, constantValue := 0 }, { name := "LOG2_ARRAY_DOUBLE_INDEX_SCALE", type := .int, accessFlags := 25, slot := 9, constantValue := 0 }, { name := "LOG2_BYTE_BIT_SIZE", type := .int, accessFlags := 26, slot := 10, constantValue := 0 }, { name := "T_BOOLEAN", type := .int, accessFlags := 25, slot := 11, constantValue := 0 }, { name := "T_CHAR", type := .int, accessFlags := 25, slot := 12, constantValue := 0 }, { name := "T_FLOAT", type := .int, accessFlags := 25, slot := 13, constantValue := 0 }, { name := "T_DOUBLE", type := .int, accessFlags := 25, slot := 14, constantValue := 0 }, { name := "T_BYTE", type := .int, accessFlags := 25, slot := 15, constantValue := 0 }, { name := "T_SHORT", type := .int, accessFlags := 25, slot := 16, constantValue := 0 }, { name := "T_INT", type := .int, accessFlags := 25, slot := 17, constantValue := 0 }, { name := "T_LONG", type := .int, accessFlags := 25, slot := 18, constantValue := 0 }, { name := "JLA", type := (.object "jdk/internal/access/JavaLangAccess"), accessFlags := 26, slot := 19, constantValue := 0 }, { name := "SOFT_MAX_ARRAY_LENGTH", type := .int, accessFlags := 25, slot := 20, constantValue := 0 }]
  methods := #[k12m0]
  instanceTypes := #[]
  staticTypes := #[(.object "jdk/internal/misc/Unsafe"), .boolean, .int, .int, .int, .int, .int, .int, .int, .int, .int, .int, .int, .int, .int, .int, .int, .int, .int, (.object "jdk/internal/access/JavaLangAccess"), .int]
  resolved := Array.replicate 378 none
  statics := none }

def pool13 : Array CpInfo := pool [(1, u "java/lang/Cloneable"), (0, .class_ 1), (0, u "java/lang/Object"), (0, .class_ 3)] 3

/-- java/lang/Cloneable -/
def k13 : Class := { plain "java/lang/Cloneable" (some 0) with
  accessFlags := 1537
  interfaces := #[]
  cf := some (fileOf pool13 2 #[] #[] 1537 4 #[] #[])
  fields := #[]
  methods := #[]
  instanceTypes := #[]
  staticTypes := #[]
  resolved := Array.replicate 8 none
  statics := none }

/-- the primitive byte -/
def k14 : Class := { plain "byte" none with kind := .primitive 'B', accessFlags := 0x411 }
/-- [B -/
def k15 : Class := { plain "[B" (some 0) with kind := .array 14 .byte, interfaces := #[13, 3], accessFlags := 1041 }

/-- the primitive char -/
def k16 : Class := { plain "char" none with kind := .primitive 'C', accessFlags := 0x411 }
/-- [C -/
def k17 : Class := { plain "[C" (some 0) with kind := .array 16 .char, interfaces := #[13, 3], accessFlags := 1041 }

/-- the primitive int -/
def k18 : Class := { plain "int" none with kind := .primitive 'I', accessFlags := 0x411 }
/-- [I -/
def k19 : Class := { plain "[I" (some 0) with kind := .array 18 .int, interfaces := #[13, 3], accessFlags := 1041 }

def heap : Heap := #[{ cls := 8, slots := #[.long 0, .int 1, .null, .int 0, .null, .int 0, .int 0], vm := .statics 8 },
  { cls := 11, slots := #[.null, .null, .null], vm := .statics 11 }]
def classes : Array Class := #[k0, k1, k2, k3, k4, k5, k6, k7, k8, k9, k10, k11, k12, k13, k14, k15, k16, k17, k18, k19]
def interned : List (Array UInt16 × Addr) := []
def slotsUsed : Nat := 10
def theMethod : MethodId := ⟨1, 1⟩
def args0 : Array Value := #[.int 5, .int 3]
def aboutOver (below : List Frame) : State where
  vm := { classes := classes, interned := interned.toArray }
  heap := heap
  slotsUsed := slotsUsed
  threads := #[{ frames := .invoking theMethod args0 :: below }]
def below0 : List Frame := [.native { method := ⟨0, 0⟩, args := #[] }]
def about1 : State := aboutOver below0
def p0 : Program := .bare "" "" ""
def e0 : Env := launch0.env 0 0 0
theorem w_frames : about1.frames = Frame.invoking theMethod args0 :: below0 := rfl
set_option maxRecDepth 65536 in
theorem w_args : argsFit about1.vm theMethod args0 = true := by decide +kernel
set_option maxRecDepth 65536 in
theorem w_heap : heapFits about1 = true := by decide +kernel
set_option maxRecDepth 65536 in
theorem w_runnable : about1.curStatus? = some .runnable := by decide +kernel
set_option maxRecDepth 65536 in
theorem w_alone : about1.alone = true := by decide +kernel
set_option maxRecDepth 65536 in
theorem w_named : about1.methodNamed? x = some theMethod := by decide +kernel
set_option maxRecDepth 65536 in
theorem w_hears : about1.hears theMethod below0 = true := by decide +kernel
set_option maxRecDepth 65536 in
theorem w_ripe : about1.ripe theMethod args0 below0 = true := by decide +kernel
theorem w_running : about1.status = .running := rfl
set_option maxRecDepth 65536 in
theorem w_room : about1.hasRoom e0.platform room_1 = true :=
  launch0.hasRoom_least _ room_1 (by decide +kernel) (by decide +kernel) (by decide +kernel) (by decide +kernel) (by decide +kernel) (by decide +kernel)
theorem allAtoms_all (ts : List Jvm.Cond) (a : Array Jvm.Value) (st : Jvm.State) : (allAtoms ts).before a st = ts.all (fun c => c.before a st) := by
  induction ts with
  | nil => rfl
  | cons c t ih =>
    show (Jvm.Cond.and c (allAtoms t)).before a st = _
    rw [Jvm.Cond.before_and, ih, List.all_cons]
def words1 : List Jvm.Cond := Jvm.Cond.code x code maxLocals ret :: tables_1
/-- a 'code' word, met by the world's own term for the bytes: nothing is compared byte by byte -/
theorem code_word {y : MethodName} {bytes : ByteArray} {mx : Nat} {rt : Option FieldType} {a : Array Value} {s : State} {m : MethodId} {meth : Method} {c : Code} (h1 : s.methodNamed? y = some m) (h2 : s.vm.method? m = some meth) (h3 : meth.code = some c) (h4 : c.code = bytes)
    (h5 : (c.maxLocals == mx && c.exceptionTable.isEmpty && decide (c.maxStack ≤ mostOperands) && decide (meth.sig.returnType = rt) && !meth.locks && decide (parseMethodDescriptor y.desc = some meth.sig)) = true) : (Jvm.Cond.code y bytes mx rt).before a s = true := by
  simp only [Bool.and_eq_true, beq_iff_eq, Bool.not_eq_true', decide_eq_true_eq] at h5
  obtain ⟨⟨⟨⟨⟨g1, g2⟩, g3⟩, g4⟩, g5⟩, g6⟩ := h5
  simp [Cond.before, Cond.holds, Cond.value, h1, h2, h3, h4, g1, g2, g3, g4, g5, g6]
def isCode : Jvm.Cond → Bool
  | .code _ _ _ _ => true
  | _ => false
theorem all_split {L : List Jvm.Cond} {P : Jvm.Cond → Bool} (h1 : L.all (fun c => isCode c || P c) = true) (h2 : ∀ c ∈ L.filter isCode, P c = true) : L.all P = true := by
  refine List.all_eq_true.mpr fun c hc => ?_
  have h := List.all_eq_true.mp h1 c hc
  rcases Bool.eq_false_or_eq_true (isCode c) with hi | hi
  · exact h2 c (List.mem_filter.mpr ⟨hc, hi⟩)
  · simpa [hi] using h
set_option maxRecDepth 65536 in
theorem w_c0 : (Jvm.Cond.code x code maxLocals ret).before args0 about1 = true := code_word (m := ⟨1, 1⟩) (meth := k1m1) (c := k1c1) (by decide +kernel) rfl rfl rfl (by decide +kernel)
set_option maxRecDepth 65536 in
theorem w_c1 : (Jvm.Cond.code ({ cls := "com/example/lazy_lasso/lazylasso/Lexer", name := "isSpecial", desc := "(C)Z" } : Jvm.MethodName) prog_46_method_10_code (1 : Nat) (Option.some Jvm.ClassFile.FieldType.boolean)).before args0 about1 = true := code_word (m := ⟨2, 0⟩) (meth := k2m0) (c := k2c0) (by decide +kernel) rfl rfl rfl (by decide +kernel)
set_option maxRecDepth 65536 in
theorem w_c2 : (Jvm.Cond.code ({ cls := "java/lang/String", name := "indexOf", desc := "(I)I" } : Jvm.MethodName) jdk_42_method_79_code (2 : Nat) (Option.some Jvm.ClassFile.FieldType.int)).before args0 about1 = true := code_word (m := ⟨8, 2⟩) (meth := k8m2) (c := k8c2) (by decide +kernel) rfl rfl rfl (by decide +kernel)
set_option maxRecDepth 65536 in
theorem w_c3 : (Jvm.Cond.code ({ cls := "java/lang/String", name := "indexOf", desc := "(II)I" } : Jvm.MethodName) jdk_42_method_80_code (3 : Nat) (Option.some Jvm.ClassFile.FieldType.int)).before args0 about1 = true := code_word (m := ⟨8, 3⟩) (meth := k8m3) (c := k8c3) (by decide +kernel) rfl rfl rfl (by decide +kernel)
set_option maxRecDepth 65536 in
theorem w_c4 : (Jvm.Cond.code ({ cls := "java/lang/String", name := "isLatin1", desc := "()Z" } : Jvm.MethodName) jdk_42_method_154_code (1 : Nat) (Option.some Jvm.ClassFile.FieldType.boolean)).before args0 about1 = true := code_word (m := ⟨8, 5⟩) (meth := k8m5) (c := k8c5) (by decide +kernel) rfl rfl rfl (by decide +kernel)
set_option maxRecDepth 65536 in
theorem w_c5 : (Jvm.Cond.code ({ cls := "java/lang/String", name := "length", desc := "()I" } : Jvm.MethodName) jdk_42_method_54_code (1 : Nat) (Option.some Jvm.ClassFile.FieldType.int)).before args0 about1 = true := code_word (m := ⟨8, 1⟩) (meth := k8m1) (c := k8c1) (by decide +kernel) rfl rfl rfl (by decide +kernel)
set_option maxRecDepth 65536 in
theorem w_c6 : (Jvm.Cond.code ({ cls := "java/lang/String", name := "coder", desc := "()B" } : Jvm.MethodName) jdk_42_method_152_code (1 : Nat) (Option.some Jvm.ClassFile.FieldType.byte)).before args0 about1 = true := code_word (m := ⟨8, 4⟩) (meth := k8m4) (c := k8c4) (by decide +kernel) rfl rfl rfl (by decide +kernel)
set_option maxRecDepth 65536 in
theorem w_c7 : (Jvm.Cond.code ({ cls := "java/lang/StringLatin1", name := "indexOf", desc := "([BIII)I" } : Jvm.MethodName) jdk_43_method_22_code (4 : Nat) (Option.some Jvm.ClassFile.FieldType.int)).before args0 about1 = true := code_word (m := ⟨9, 2⟩) (meth := k9m2) (c := k9c2) (by decide +kernel) rfl rfl rfl (by decide +kernel)
set_option maxRecDepth 65536 in
theorem w_c8 : (Jvm.Cond.code ({ cls := "java/lang/StringLatin1", name := "canEncode", desc := "(I)Z" } : Jvm.MethodName) jdk_43_method_4_code (1 : Nat) (Option.some Jvm.ClassFile.FieldType.boolean)).before args0 about1 = true := code_word (m := ⟨9, 1⟩) (meth := k9m1) (c := k9c1) (by decide +kernel) rfl rfl rfl (by decide +kernel)
set_option maxRecDepth 65536 in
theorem w_c9 : (Jvm.Cond.code ({ cls := "java/lang/Math", name := "max", desc := "(II)I" } : Jvm.MethodName) jdk_29_method_65_code (2 : Nat) (Option.some Jvm.ClassFile.FieldType.int)).before args0 about1 = true := code_word (m := ⟨10, 1⟩) (meth := k10m1) (c := k10c1) (by decide +kernel) rfl rfl rfl (by decide +kernel)
set_option maxRecDepth 65536 in
theorem w_c10 : (Jvm.Cond.code ({ cls := "java/lang/Math", name := "min", desc := "(II)I" } : Jvm.MethodName) jdk_29_method_69_code (2 : Nat) (Option.some Jvm.ClassFile.FieldType.int)).before args0 about1 = true := code_word (m := ⟨10, 2⟩) (meth := k10m2) (c := k10c2) (by decide +kernel) rfl rfl rfl (by decide +kernel)
set_option maxRecDepth 65536 in
theorem w_c11 : (Jvm.Cond.code ({ cls := "java/lang/StringLatin1", name := "indexOfChar", desc := "([BIII)I" } : Jvm.MethodName) jdk_43_method_23_code (6 : Nat) (Option.some Jvm.ClassFile.FieldType.int)).before args0 about1 = true := code_word (m := ⟨9, 3⟩) (meth := k9m3) (c := k9c3) (by decide +kernel) rfl rfl rfl (by decide +kernel)
def codes1 : List Jvm.Cond := [Jvm.Cond.code x code maxLocals ret, Jvm.Cond.code ({ cls := "com/example/lazy_lasso/lazylasso/Lexer", name := "isSpecial", desc := "(C)Z" } : Jvm.MethodName) prog_46_method_10_code (1 : Nat) (Option.some Jvm.ClassFile.FieldType.boolean), Jvm.Cond.code ({ cls := "java/lang/String", name := "indexOf", desc := "(I)I" } : Jvm.MethodName) jdk_42_method_79_code (2 : Nat) (Option.some Jvm.ClassFile.FieldType.int), Jvm.Cond.code ({ cls := "java/lang/String", name := "indexOf", desc := "(II)I" } : Jvm.MethodName) jdk_42_method_80_code (3 : Nat) (Option.some Jvm.ClassFile.FieldType.int), Jvm.Cond.code ({ cls := "java/lang/String", name := "isLatin1", desc := "()Z" } : Jvm.MethodName) jdk_42_method_154_code (1 : Nat) (Option.some Jvm.ClassFile.FieldType.boolean), Jvm.Cond.code ({ cls := "java/lang/String", name := "length", desc := "()I" } : Jvm.MethodName) jdk_42_method_54_code (1 : Nat) (Option.some Jvm.ClassFile.FieldType.int), Jvm.Cond.code ({ cls := "java/lang/String", name := "coder", desc := "()B" } : Jvm.MethodName) jdk_42_method_152_code (1 : Nat) (Option.some Jvm.ClassFile.FieldType.byte), Jvm.Cond.code ({ cls := "java/lang/StringLatin1", name := "indexOf", desc := "([BIII)I" } : Jvm.MethodName) jdk_43_method_22_code (4 : Nat) (Option.some Jvm.ClassFile.FieldType.int), Jvm.Cond.code ({ cls := "java/lang/StringLatin1", name := "canEncode", desc := "(I)Z" } : Jvm.MethodName) jdk_43_method_4_code (1 : Nat) (Option.some Jvm.ClassFile.FieldType.boolean), Jvm.Cond.code ({ cls := "java/lang/Math", name := "max", desc := "(II)I" } : Jvm.MethodName) jdk_29_method_65_code (2 : Nat) (Option.some Jvm.ClassFile.FieldType.int), Jvm.Cond.code ({ cls := "java/lang/Math", name := "min", desc := "(II)I" } : Jvm.MethodName) jdk_29_method_69_code (2 : Nat) (Option.some Jvm.ClassFile.FieldType.int), Jvm.Cond.code ({ cls := "java/lang/StringLatin1", name := "indexOfChar", desc := "([BIII)I" } : Jvm.MethodName) jdk_43_method_23_code (6 : Nat) (Option.some Jvm.ClassFile.FieldType.int)]
set_option maxRecDepth 65536 in
theorem codes_eq : words1.filter isCode = codes1 := rfl
theorem w_codes : ∀ c ∈ words1.filter isCode, c.before args0 about1 = true := by
  rw [codes_eq]
  intro c hc
  simp only [codes1, List.mem_cons, List.not_mem_nil, or_false] at hc
  rcases hc with rfl | rfl | rfl | rfl | rfl | rfl | rfl | rfl | rfl | rfl | rfl | rfl
  · exact w_c0
  · exact w_c1
  · exact w_c2
  · exact w_c3
  · exact w_c4
  · exact w_c5
  · exact w_c6
  · exact w_c7
  · exact w_c8
  · exact w_c9
  · exact w_c10
  · exact w_c11
set_option maxRecDepth 65536 in
theorem w_t1 : (words1.take 24).all (fun c => isCode c || c.before args0 about1) = true := by decide +kernel
set_option maxRecDepth 65536 in
theorem w_t2 : ((words1.drop 24).take 24).all (fun c => isCode c || c.before args0 about1) = true := by decide +kernel
set_option maxRecDepth 65536 in
theorem w_t3 : ((words1.drop 24).drop 24).all (fun c => isCode c || c.before args0 about1) = true := by decide +kernel
theorem w_tables : (allAtoms (Jvm.Cond.code x code maxLocals ret :: tables_1)).before args0 about1 = true := by
  rw [allAtoms_all]
  show words1.all (fun c => c.before args0 about1) = true
  refine all_split ?_ w_codes
  rw [← List.take_append_drop 24 words1, List.all_append, w_t1, ← List.take_append_drop 24 (words1.drop 24), List.all_append, w_t2, w_t3]
  rfl
set_option maxRecDepth 65536 in
theorem w_rest : rest_1_c.before args0 about1 = true := by decide +kernel
set_option maxRecDepth 65536 in
theorem w_case : (Jvm.Cond.and given_1 narrow_1).before args0 about1 = true := by decide +kernel
set_option maxRecDepth 65536 in
theorem w_consts : constsHeld consts_1 about1 := Jvm.Lit.constsHeldB_iff.mp (by decide +kernel)
theorem w_applies : (headSpec (Jvm.Cond.code x code maxLocals ret :: tables_1) room_1).applies x e0.platform about1 = true :=
  (Spec.applies_iff w_frames).mpr ⟨w_running, w_runnable, w_alone, w_named, w_hears, w_ripe, w_room, w_tables⟩
theorem atStart : AtStart classFile x code maxLocals ret World_1 tables_1 room_1 Calls_1 rest_1 Pre_1 launch0 p0 e0 about1 theMethod args0 below0 :=
  ⟨lists_1, trivial, launch0.admits_env _ _ _, launch0.least_env, fairChoices_fair.cas, fairChoices_fair.clock, w_frames, w_args, w_heap, w_applies, ⟨w_consts, trivial⟩, w_rest, w_case⟩
end start1
theorem witness_1 : WitnessClaimed_1 := ⟨start1.p0, start1.e0, start1.about1, start1.theMethod, start1.args0, start1.below0, start1.atStart⟩
end Jvm.Pilot.@@N@@
