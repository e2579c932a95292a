import JvmDerived
import JvmDerived.Pilot.@@N@@Statement
import JvmDerived.Pilot.@@N@@Code
set_option linter.unusedVariables false
set_option linter.unusedSimpArgs false
@@BLOCK:NumsL.lean.txt@@
namespace Jvm.RoadKit
open Sem ClassFile Op Lib Jvm.Stand Jvm.Free Jvm.LawKit
section New
variable {p : Program} {l : Launch} {e : Env} {R : Room} {s : State} {m : MethodId} {args : Array Value} {below : List Frame} {meth : Method} {c : Code} {T : State} {locs : List Loc} {cells slots : Nat}
theorem retI (X : Stand p l e R s m args below meth c T locs cells slots) (hx : p.tables.exec = Jvm.exec) {pc : Nat} {Ls : Array Slot} {z : Int32} {rest : List Value} (hret : meth.sig.returnType = some .int) (hd : decode c.code pc = .ok (.ireturn, 1)) {fs : List Frame}
    (hl : ∀ (f : JFrame) (acts : List Action), f.method = m → f.locked = none → f.entered = [] → (doReturn e (T.setTop f) acts (some (.int z))).1 = T.setFrames fs) : Steps p.tables e below (T.setTop (mkF m pc Ls (.int z :: rest))) (T.setFrames fs) := by
  have hm' : T.vm.method? m = some meth := X.method'
  have hn : narrow .int (.int z) = .int z := rfl
  show Steps p.tables e below (T.setTop { method := m, pc := pc, locals := Ls, stack := _ :: rest, locked := none }) _
  jvm_step X.here [X.here.top, hx, hd, hm', hret, hn]
  first | (intro acts; rw [hl _ acts rfl rfl rfl]) | rw [hl _ _ rfl rfl rfl]
  exact Steps.refl _
end New
end Jvm.RoadKit
namespace Jvm.Pilot.@@N@@
open Jvm Jvm.ClassFile Sem Op Lib Jvm.Free Jvm.Stand Jvm.LawKit Jvm.RoadKit Bundle Jvm.Pilot.@@N@@.Jvm.D
theorem own_fi {args : Array Value} {s : State} {t : Term} {C n d : String} {k : Int32} {x : Addr} (ht : t.eval args s none [] s = some (.ref x)) (h : (Jvm.Cond.eq (Term.field t C n d) (Term.int k)).value args s none s [] = some true) : Fld s s.heap x C n d (.int k) := by
  obtain ⟨a, b, ha, hb, hk, -⟩ := cmp_v (Or.inl h)
  have hb' : b = .int k := Option.some.inj (hb.symm.trans rfl)
  subst hb'
  cases a <;> simp [Kin, Value.isRef] at hk
  rename_i z
  have hz : z = k := by simpa [Jvm.Cond.value, ha, hb] using h
  subst hz
  exact Fld.start ((fld_at ht).symm.trans ha)
theorem own_fn {args : Array Value} {s : State} {t : Term} {C n d : String} {x : Addr} (ht : t.eval args s none [] s = some (.ref x)) (h : (Jvm.Cond.eq (Term.field t C n d) Term.null).value args s none s [] = some true) : Fld s s.heap x C n d .null := Fld.start ((fld_at ht).symm.trans (null_v h))
theorem own_fx {args : Array Value} {s : State} {t : Term} {C n d K : String} {x : Addr} (ht : t.eval args s none [] s = some (.ref x)) (h : (Jvm.Cond.exactly (Term.field t C n d) K).value args s none s [] = some true) : ∃ y, (Term.field t C n d).eval args s none [] s = some (.ref y) ∧ Fld s s.heap x C n d (.ref y) ∧ Exa s s.heap y K := by
  obtain ⟨y, hy⟩ := exa_v h
  exact ⟨y, hy, Fld.start ((fld_at ht).symm.trans hy), Exa.start hy h⟩
theorem own_sx {args : Array Value} {s : State} {C n d K : String} (hi : (Jvm.Cond.initialized C).before args s = true) (hl : (Jvm.Cond.laysStatic C n d).before args s = true) (h : (Jvm.Cond.exactly (Term.static C n d) K).value args s none s [] = some true) : ∃ x, (Term.static C n d).eval args s none [] s = some (.ref x) ∧ Sta s s.heap C n d (.ref x) ∧ Exa s s.heap x K := by
  obtain ⟨y, hy⟩ := exa_v h
  exact ⟨y, hy, Sta.start hy (Or.inr ⟨hi, hl⟩), Exa.start hy h⟩
theorem own_and31 (x : Int32) : (x &&& 2147483647).toInt = x.toInt % 2 ^ 31 := Jvm.Kit.i32_mask x 2147483647 (k := 31) (by decide) (by decide)
theorem own_pos31 (x : Int32) : 0 ≤ (x &&& 2147483647).toInt := by rw [own_and31]; omega
theorem own_rem (x m : Int32) (hm : 0 < m.toInt) : 0 ≤ ((x &&& 2147483647) % m).toInt ∧ ((x &&& 2147483647) % m).toInt < m.toInt := by
  have h1 := own_pos31 x
  rw [Int32.toInt_mod]
  have h2 : ((x &&& 2147483647).toInt).tmod m.toInt = (x &&& 2147483647).toInt % m.toInt := Int.tmod_eq_emod_of_nonneg h1
  have h3 := Int.emod_nonneg (x &&& 2147483647).toInt (show m.toInt ≠ 0 by omega)
  have h4 := Int.emod_lt_of_pos (x &&& 2147483647).toInt hm
  omega
theorem own_selp {s : State} {args : Array Value} {y : MethodName} {n : Nat} (hy : y.cls ≠ "java/lang/invoke/MethodHandle" ∧ y.cls ≠ "java/lang/invoke/VarHandle") (hins : (Jvm.Cond.instantiable y.cls n).before args s = true) (hpriv : (Jvm.Cond.privateMethod y).before args s = true) (hinst : (Jvm.Cond.instanceMethod y).before args s = true) : (Jvm.Cond.selects y.cls y y).before args s = true := by
  obtain ⟨c, k, hc, hk, -, hniab, -, -⟩ := Cond.instantiable_spec hins
  have hni : k.isInterface = false := (Bool.or_eq_false_iff.mp hniab).1
  obtain ⟨mk, methM, hnamed, hmethM, -, -⟩ := Cond.instanceMethod_spec hinst
  have hfound : s.methodFound? y.cls y.name y.desc = some mk := State.methodFound?_of_named hnamed hy
  have hcls : mk.cls = c := Option.some.inj ((findClass_of_methodNamed hnamed).symm.trans hc)
  have hsel : selectMethod {} s.vm c mk = .method mk := selectMethod_private hmethM (Cond.privateMethod_at hpriv mk methM hnamed hmethM)
  simp only [Cond.before, Cond.holds, Cond.value, hc, hfound, hnamed, hsel, hcls, hk]
  simp; exact hni
theorem own_hp {T : State} {h : Heap} {a : Addr} {c : Cell} (e : T.heap = h) (q : h[a]? = some c) : T.heap[a]? = some c := e ▸ q
theorem own_of_toInt {x : Int32} {n : Int} (h : x.toInt = n) : x = Int32.ofInt n := by rw [← h, Int32.ofInt_toInt]
def own_K (k : Int32) : Prop := k = 0 ∨ k = 1 ∨ k = 2 ∨ k = 3 ∨ k = 4 ∨ k = 5 ∨ k = 6 ∨ k = 7 ∨ k = 8 ∨ k = 9 ∨ k = 10 ∨ k = 11 ∨ k = 12 ∨ k = 13 ∨ k = 14 ∨ k = 15 ∨ k = 16 ∨ k = 17 ∨ k = 18 ∨ k = 19 ∨ k = 20 ∨ k = 21 ∨ k = 22 ∨ k = 23 ∨ k = 24 ∨ k = 25 ∨ k = 26 ∨ k = 27 ∨ k = 28 ∨ k = 29 ∨ k = 30 ∨ k = 31 ∨ k = 32 ∨ k = 33 ∨ k = 34
theorem own_K_of (x : Int32) : own_K ((x &&& 2147483647) % 35) := by
  obtain ⟨h1, h2⟩ := own_rem x 35 (by decide)
  have e11 : (35 : Int32).toInt = 35 := rfl
  rw [e11] at h2
  generalize hz : ((x &&& 2147483647) % 35) = z at *
  have : z.toInt = 0 ∨ z.toInt = 1 ∨ z.toInt = 2 ∨ z.toInt = 3 ∨ z.toInt = 4 ∨ z.toInt = 5 ∨ z.toInt = 6 ∨ z.toInt = 7 ∨ z.toInt = 8 ∨ z.toInt = 9 ∨ z.toInt = 10 ∨ z.toInt = 11 ∨ z.toInt = 12 ∨ z.toInt = 13 ∨ z.toInt = 14 ∨ z.toInt = 15 ∨ z.toInt = 16 ∨ z.toInt = 17 ∨ z.toInt = 18 ∨ z.toInt = 19 ∨ z.toInt = 20 ∨ z.toInt = 21 ∨ z.toInt = 22 ∨ z.toInt = 23 ∨ z.toInt = 24 ∨ z.toInt = 25 ∨ z.toInt = 26 ∨ z.toInt = 27 ∨ z.toInt = 28 ∨ z.toInt = 29 ∨ z.toInt = 30 ∨ z.toInt = 31 ∨ z.toInt = 32 ∨ z.toInt = 33 ∨ z.toInt = 34 := by omega
  unfold own_K
  rcases this with h | h | h | h | h | h | h | h | h | h | h | h | h | h | h | h | h | h | h | h | h | h | h | h | h | h | h | h | h | h | h | h | h | h | h <;> (have := own_of_toInt h; subst this; decide)
def own_vs (r : Int32 → Addr) : List Value := [(.ref (r 0)), (.ref (r 1)), (.ref (r 2)), (.ref (r 3)), (.ref (r 4)), (.ref (r 5)), (.ref (r 6)), (.ref (r 7)), (.ref (r 8)), (.ref (r 9)), (.ref (r 10)), (.ref (r 11)), (.ref (r 12)), (.ref (r 13)), (.ref (r 14)), (.ref (r 15)), (.ref (r 16)), (.ref (r 17)), (.ref (r 18)), (.ref (r 19)), (.ref (r 20)), (.ref (r 21)), (.ref (r 22)), (.ref (r 23)), (.ref (r 24)), (.ref (r 25)), (.ref (r 26)), (.ref (r 27)), (.ref (r 28)), (.ref (r 29)), (.ref (r 30)), (.ref (r 31)), (.ref (r 32)), (.ref (r 33)), (.ref (r 34))]
theorem d1_0 : decode method_2_code 0 = .ok (.bipush 35, 2) := by decide +kernel
theorem d1_2 : decode method_2_code 2 = .ok (.anewarray 7, 3) := by decide +kernel
theorem d1_5 : decode method_2_code 5 = .ok (.dup, 1) := by decide +kernel
theorem d1_6 : decode method_2_code 6 = .ok (.iconst 0, 1) := by decide +kernel
theorem d1_7 : decode method_2_code 7 = .ok (.getstatic 9, 3) := by decide +kernel
theorem d1_10 : decode method_2_code 10 = .ok (.aastore, 1) := by decide +kernel
theorem d1_11 : decode method_2_code 11 = .ok (.dup, 1) := by decide +kernel
theorem d1_12 : decode method_2_code 12 = .ok (.iconst 1, 1) := by decide +kernel
theorem d1_13 : decode method_2_code 13 = .ok (.getstatic 13, 3) := by decide +kernel
theorem d1_16 : decode method_2_code 16 = .ok (.aastore, 1) := by decide +kernel
theorem d1_17 : decode method_2_code 17 = .ok (.dup, 1) := by decide +kernel
theorem d1_18 : decode method_2_code 18 = .ok (.iconst 2, 1) := by decide +kernel
theorem d1_19 : decode method_2_code 19 = .ok (.getstatic 16, 3) := by decide +kernel
theorem d1_22 : decode method_2_code 22 = .ok (.aastore, 1) := by decide +kernel
theorem d1_23 : decode method_2_code 23 = .ok (.dup, 1) := by decide +kernel
theorem d1_24 : decode method_2_code 24 = .ok (.iconst 3, 1) := by decide +kernel
theorem d1_25 : decode method_2_code 25 = .ok (.getstatic 19, 3) := by decide +kernel
theorem d1_28 : decode method_2_code 28 = .ok (.aastore, 1) := by decide +kernel
theorem d1_29 : decode method_2_code 29 = .ok (.dup, 1) := by decide +kernel
theorem d1_30 : decode method_2_code 30 = .ok (.iconst 4, 1) := by decide +kernel
theorem d1_31 : decode method_2_code 31 = .ok (.getstatic 22, 3) := by decide +kernel
theorem d1_34 : decode method_2_code 34 = .ok (.aastore, 1) := by decide +kernel
theorem d1_35 : decode method_2_code 35 = .ok (.dup, 1) := by decide +kernel
theorem d1_36 : decode method_2_code 36 = .ok (.iconst 5, 1) := by decide +kernel
theorem d1_37 : decode method_2_code 37 = .ok (.getstatic 25, 3) := by decide +kernel
theorem d1_40 : decode method_2_code 40 = .ok (.aastore, 1) := by decide +kernel
theorem d1_41 : decode method_2_code 41 = .ok (.dup, 1) := by decide +kernel
theorem d1_42 : decode method_2_code 42 = .ok (.bipush 6, 2) := by decide +kernel
theorem d1_44 : decode method_2_code 44 = .ok (.getstatic 28, 3) := by decide +kernel
theorem d1_47 : decode method_2_code 47 = .ok (.aastore, 1) := by decide +kernel
theorem d1_48 : decode method_2_code 48 = .ok (.dup, 1) := by decide +kernel
theorem d1_49 : decode method_2_code 49 = .ok (.bipush 7, 2) := by decide +kernel
theorem d1_51 : decode method_2_code 51 = .ok (.getstatic 31, 3) := by decide +kernel
theorem d1_54 : decode method_2_code 54 = .ok (.aastore, 1) := by decide +kernel
theorem d1_55 : decode method_2_code 55 = .ok (.dup, 1) := by decide +kernel
theorem d1_56 : decode method_2_code 56 = .ok (.bipush 8, 2) := by decide +kernel
theorem d1_58 : decode method_2_code 58 = .ok (.getstatic 34, 3) := by decide +kernel
theorem d1_61 : decode method_2_code 61 = .ok (.aastore, 1) := by decide +kernel
theorem d1_62 : decode method_2_code 62 = .ok (.dup, 1) := by decide +kernel
theorem d1_63 : decode method_2_code 63 = .ok (.bipush 9, 2) := by decide +kernel
theorem d1_65 : decode method_2_code 65 = .ok (.getstatic 37, 3) := by decide +kernel
theorem d1_68 : decode method_2_code 68 = .ok (.aastore, 1) := by decide +kernel
theorem d1_69 : decode method_2_code 69 = .ok (.dup, 1) := by decide +kernel
theorem d1_70 : decode method_2_code 70 = .ok (.bipush 10, 2) := by decide +kernel
theorem d1_72 : decode method_2_code 72 = .ok (.getstatic 40, 3) := by decide +kernel
theorem d1_75 : decode method_2_code 75 = .ok (.aastore, 1) := by decide +kernel
theorem d1_76 : decode method_2_code 76 = .ok (.dup, 1) := by decide +kernel
theorem d1_77 : decode method_2_code 77 = .ok (.bipush 11, 2) := by decide +kernel
theorem d1_79 : decode method_2_code 79 = .ok (.getstatic 43, 3) := by decide +kernel
theorem d1_82 : decode method_2_code 82 = .ok (.aastore, 1) := by decide +kernel
theorem d1_83 : decode method_2_code 83 = .ok (.dup, 1) := by decide +kernel
theorem d1_84 : decode method_2_code 84 = .ok (.bipush 12, 2) := by decide +kernel
theorem d1_86 : decode method_2_code 86 = .ok (.getstatic 46, 3) := by decide +kernel
theorem d1_89 : decode method_2_code 89 = .ok (.aastore, 1) := by decide +kernel
theorem d1_90 : decode method_2_code 90 = .ok (.dup, 1) := by decide +kernel
theorem d1_91 : decode method_2_code 91 = .ok (.bipush 13, 2) := by decide +kernel
theorem d1_93 : decode method_2_code 93 = .ok (.getstatic 49, 3) := by decide +kernel
theorem d1_96 : decode method_2_code 96 = .ok (.aastore, 1) := by decide +kernel
theorem d1_97 : decode method_2_code 97 = .ok (.dup, 1) := by decide +kernel
theorem d1_98 : decode method_2_code 98 = .ok (.bipush 14, 2) := by decide +kernel
theorem d1_100 : decode method_2_code 100 = .ok (.getstatic 52, 3) := by decide +kernel
theorem d1_103 : decode method_2_code 103 = .ok (.aastore, 1) := by decide +kernel
theorem d1_104 : decode method_2_code 104 = .ok (.dup, 1) := by decide +kernel
theorem d1_105 : decode method_2_code 105 = .ok (.bipush 15, 2) := by decide +kernel
theorem d1_107 : decode method_2_code 107 = .ok (.getstatic 55, 3) := by decide +kernel
theorem d1_110 : decode method_2_code 110 = .ok (.aastore, 1) := by decide +kernel
theorem d1_111 : decode method_2_code 111 = .ok (.dup, 1) := by decide +kernel
theorem d1_112 : decode method_2_code 112 = .ok (.bipush 16, 2) := by decide +kernel
theorem d1_114 : decode method_2_code 114 = .ok (.getstatic 58, 3) := by decide +kernel
theorem d1_117 : decode method_2_code 117 = .ok (.aastore, 1) := by decide +kernel
theorem d1_118 : decode method_2_code 118 = .ok (.dup, 1) := by decide +kernel
theorem d1_119 : decode method_2_code 119 = .ok (.bipush 17, 2) := by decide +kernel
theorem d1_121 : decode method_2_code 121 = .ok (.getstatic 61, 3) := by decide +kernel
theorem d1_124 : decode method_2_code 124 = .ok (.aastore, 1) := by decide +kernel
theorem d1_125 : decode method_2_code 125 = .ok (.dup, 1) := by decide +kernel
theorem d1_126 : decode method_2_code 126 = .ok (.bipush 18, 2) := by decide +kernel
theorem d1_128 : decode method_2_code 128 = .ok (.getstatic 64, 3) := by decide +kernel
theorem d1_131 : decode method_2_code 131 = .ok (.aastore, 1) := by decide +kernel
theorem d1_132 : decode method_2_code 132 = .ok (.dup, 1) := by decide +kernel
theorem d1_133 : decode method_2_code 133 = .ok (.bipush 19, 2) := by decide +kernel
theorem d1_135 : decode method_2_code 135 = .ok (.getstatic 67, 3) := by decide +kernel
theorem d1_138 : decode method_2_code 138 = .ok (.aastore, 1) := by decide +kernel
theorem d1_139 : decode method_2_code 139 = .ok (.dup, 1) := by decide +kernel
theorem d1_140 : decode method_2_code 140 = .ok (.bipush 20, 2) := by decide +kernel
theorem d1_142 : decode method_2_code 142 = .ok (.getstatic 70, 3) := by decide +kernel
theorem d1_145 : decode method_2_code 145 = .ok (.aastore, 1) := by decide +kernel
theorem d1_146 : decode method_2_code 146 = .ok (.dup, 1) := by decide +kernel
theorem d1_147 : decode method_2_code 147 = .ok (.bipush 21, 2) := by decide +kernel
theorem d1_149 : decode method_2_code 149 = .ok (.getstatic 73, 3) := by decide +kernel
theorem d1_152 : decode method_2_code 152 = .ok (.aastore, 1) := by decide +kernel
theorem d1_153 : decode method_2_code 153 = .ok (.dup, 1) := by decide +kernel
theorem d1_154 : decode method_2_code 154 = .ok (.bipush 22, 2) := by decide +kernel
theorem d1_156 : decode method_2_code 156 = .ok (.getstatic 76, 3) := by decide +kernel
theorem d1_159 : decode method_2_code 159 = .ok (.aastore, 1) := by decide +kernel
theorem d1_160 : decode method_2_code 160 = .ok (.dup, 1) := by decide +kernel
theorem d1_161 : decode method_2_code 161 = .ok (.bipush 23, 2) := by decide +kernel
theorem d1_163 : decode method_2_code 163 = .ok (.getstatic 79, 3) := by decide +kernel
theorem d1_166 : decode method_2_code 166 = .ok (.aastore, 1) := by decide +kernel
theorem d1_167 : decode method_2_code 167 = .ok (.dup, 1) := by decide +kernel
theorem d1_168 : decode method_2_code 168 = .ok (.bipush 24, 2) := by decide +kernel
theorem d1_170 : decode method_2_code 170 = .ok (.getstatic 82, 3) := by decide +kernel
theorem d1_173 : decode method_2_code 173 = .ok (.aastore, 1) := by decide +kernel
theorem d1_174 : decode method_2_code 174 = .ok (.dup, 1) := by decide +kernel
theorem d1_175 : decode method_2_code 175 = .ok (.bipush 25, 2) := by decide +kernel
theorem d1_177 : decode method_2_code 177 = .ok (.getstatic 85, 3) := by decide +kernel
theorem d1_180 : decode method_2_code 180 = .ok (.aastore, 1) := by decide +kernel
theorem d1_181 : decode method_2_code 181 = .ok (.dup, 1) := by decide +kernel
theorem d1_182 : decode method_2_code 182 = .ok (.bipush 26, 2) := by decide +kernel
theorem d1_184 : decode method_2_code 184 = .ok (.getstatic 88, 3) := by decide +kernel
theorem d1_187 : decode method_2_code 187 = .ok (.aastore, 1) := by decide +kernel
theorem d1_188 : decode method_2_code 188 = .ok (.dup, 1) := by decide +kernel
theorem d1_189 : decode method_2_code 189 = .ok (.bipush 27, 2) := by decide +kernel
theorem d1_191 : decode method_2_code 191 = .ok (.getstatic 91, 3) := by decide +kernel
theorem d1_194 : decode method_2_code 194 = .ok (.aastore, 1) := by decide +kernel
theorem d1_195 : decode method_2_code 195 = .ok (.dup, 1) := by decide +kernel
theorem d1_196 : decode method_2_code 196 = .ok (.bipush 28, 2) := by decide +kernel
theorem d1_198 : decode method_2_code 198 = .ok (.getstatic 94, 3) := by decide +kernel
theorem d1_201 : decode method_2_code 201 = .ok (.aastore, 1) := by decide +kernel
theorem d1_202 : decode method_2_code 202 = .ok (.dup, 1) := by decide +kernel
theorem d1_203 : decode method_2_code 203 = .ok (.bipush 29, 2) := by decide +kernel
theorem d1_205 : decode method_2_code 205 = .ok (.getstatic 97, 3) := by decide +kernel
theorem d1_208 : decode method_2_code 208 = .ok (.aastore, 1) := by decide +kernel
theorem d1_209 : decode method_2_code 209 = .ok (.dup, 1) := by decide +kernel
theorem d1_210 : decode method_2_code 210 = .ok (.bipush 30, 2) := by decide +kernel
theorem d1_212 : decode method_2_code 212 = .ok (.getstatic 100, 3) := by decide +kernel
theorem d1_215 : decode method_2_code 215 = .ok (.aastore, 1) := by decide +kernel
theorem d1_216 : decode method_2_code 216 = .ok (.dup, 1) := by decide +kernel
theorem d1_217 : decode method_2_code 217 = .ok (.bipush 31, 2) := by decide +kernel
theorem d1_219 : decode method_2_code 219 = .ok (.getstatic 103, 3) := by decide +kernel
theorem d1_222 : decode method_2_code 222 = .ok (.aastore, 1) := by decide +kernel
theorem d1_223 : decode method_2_code 223 = .ok (.dup, 1) := by decide +kernel
theorem d1_224 : decode method_2_code 224 = .ok (.bipush 32, 2) := by decide +kernel
theorem d1_226 : decode method_2_code 226 = .ok (.getstatic 106, 3) := by decide +kernel
theorem d1_229 : decode method_2_code 229 = .ok (.aastore, 1) := by decide +kernel
theorem d1_230 : decode method_2_code 230 = .ok (.dup, 1) := by decide +kernel
theorem d1_231 : decode method_2_code 231 = .ok (.bipush 33, 2) := by decide +kernel
theorem d1_233 : decode method_2_code 233 = .ok (.getstatic 109, 3) := by decide +kernel
theorem d1_236 : decode method_2_code 236 = .ok (.aastore, 1) := by decide +kernel
theorem d1_237 : decode method_2_code 237 = .ok (.dup, 1) := by decide +kernel
theorem d1_238 : decode method_2_code 238 = .ok (.bipush 34, 2) := by decide +kernel
theorem d1_240 : decode method_2_code 240 = .ok (.getstatic 112, 3) := by decide +kernel
theorem d1_243 : decode method_2_code 243 = .ok (.aastore, 1) := by decide +kernel
theorem d1_244 : decode method_2_code 244 = .ok (.areturn, 1) := by decide +kernel
theorem pn_0 : plainName "com/example/guarantee/guarantee/model/OperatorIsPastPinLaw" = true := by first | (simp [plainName, overriddenIn]; done) | decide +kernel
theorem ef_rm1 (m : MethodId)  : entryFrame m #[] 0 = mkF m 0 #[] [] := by first | (simp [entryFrame, mkF, argsToLocals, Value.category]; done) | rfl
def Q1 (Z : State) (r : Int32 → Addr) (h0 : Heap) (n0 : Nat) (v : Option Value) (h : Heap) (L : List Loc) : Prop := ∃ (b : Addr) (k : ClassId), v = some (.ref b) ∧ Fr n0 L ∧ Keep h0 h [] ∧ n0 ≤ b ∧ Arv Z h b k (.object "com/example/guarantee/guarantee/model/Expression$Operator") 35 (own_vs r) .null
set_option maxRecDepth 65536 in
set_option maxHeartbeats 40000000 in
theorem rm1 (l : Launch) (Z : State) (a0 : Array Value) (hw : ∀ d ∈ tables_1, d.before a0 Z = true) (ws : List Jvm.Cond) (r : Int32 → Addr) (h0 : Heap) (n0 : Nat) (Z0 : n0 ≤ h0.size) (O0 : Old Z n0 h0) (S_TRUE : Sta Z Z.heap "com/example/guarantee/guarantee/model/Expression$Operator" "TRUE" "Lcom/example/guarantee/guarantee/model/Expression$Operator;" (.ref (r 0))) (S_FALSE : Sta Z Z.heap "com/example/guarantee/guarantee/model/Expression$Operator" "FALSE" "Lcom/example/guarantee/guarantee/model/Expression$Operator;" (.ref (r 1))) (S_INTEGER : Sta Z Z.heap "com/example/guarantee/guarantee/model/Expression$Operator" "INTEGER" "Lcom/example/guarantee/guarantee/model/Expression$Operator;" (.ref (r 2))) (S_NAME : Sta Z Z.heap "com/example/guarantee/guarantee/model/Expression$Operator" "NAME" "Lcom/example/guarantee/guarantee/model/Expression$Operator;" (.ref (r 3))) (S_VARIABLE : Sta Z Z.heap "com/example/guarantee/guarantee/model/Expression$Operator" "VARIABLE" "Lcom/example/guarantee/guarantee/model/Expression$Operator;" (.ref (r 4))) (S_LITERAL : Sta Z Z.heap "com/example/guarantee/guarantee/model/Expression$Operator" "LITERAL" "Lcom/example/guarantee/guarantee/model/Expression$Operator;" (.ref (r 5))) (S_DEFINE : Sta Z Z.heap "com/example/guarantee/guarantee/model/Expression$Operator" "DEFINE" "Lcom/example/guarantee/guarantee/model/Expression$Operator;" (.ref (r 6))) (S_INSTANCE : Sta Z Z.heap "com/example/guarantee/guarantee/model/Expression$Operator" "INSTANCE" "Lcom/example/guarantee/guarantee/model/Expression$Operator;" (.ref (r 7))) (S_PREDICATE : Sta Z Z.heap "com/example/guarantee/guarantee/model/Expression$Operator" "PREDICATE" "Lcom/example/guarantee/guarantee/model/Expression$Operator;" (.ref (r 8))) (S_ELEMENT : Sta Z Z.heap "com/example/guarantee/guarantee/model/Expression$Operator" "ELEMENT" "Lcom/example/guarantee/guarantee/model/Expression$Operator;" (.ref (r 9))) (S_PROPERTY : Sta Z Z.heap "com/example/guarantee/guarantee/model/Expression$Operator" "PROPERTY" "Lcom/example/guarantee/guarantee/model/Expression$Operator;" (.ref (r 10))) (S_FORALL : Sta Z Z.heap "com/example/guarantee/guarantee/model/Expression$Operator" "FORALL" "Lcom/example/guarantee/guarantee/model/Expression$Operator;" (.ref (r 11))) (S_EXISTS : Sta Z Z.heap "com/example/guarantee/guarantee/model/Expression$Operator" "EXISTS" "Lcom/example/guarantee/guarantee/model/Expression$Operator;" (.ref (r 12))) (S_NOT : Sta Z Z.heap "com/example/guarantee/guarantee/model/Expression$Operator" "NOT" "Lcom/example/guarantee/guarantee/model/Expression$Operator;" (.ref (r 13))) (S_NEGATE : Sta Z Z.heap "com/example/guarantee/guarantee/model/Expression$Operator" "NEGATE" "Lcom/example/guarantee/guarantee/model/Expression$Operator;" (.ref (r 14))) (S_NEXT : Sta Z Z.heap "com/example/guarantee/guarantee/model/Expression$Operator" "NEXT" "Lcom/example/guarantee/guarantee/model/Expression$Operator;" (.ref (r 15))) (S_PREV : Sta Z Z.heap "com/example/guarantee/guarantee/model/Expression$Operator" "PREV" "Lcom/example/guarantee/guarantee/model/Expression$Operator;" (.ref (r 16))) (S_ONCE : Sta Z Z.heap "com/example/guarantee/guarantee/model/Expression$Operator" "ONCE" "Lcom/example/guarantee/guarantee/model/Expression$Operator;" (.ref (r 17))) (S_HISTORICALLY : Sta Z Z.heap "com/example/guarantee/guarantee/model/Expression$Operator" "HISTORICALLY" "Lcom/example/guarantee/guarantee/model/Expression$Operator;" (.ref (r 18))) (S_TIMES : Sta Z Z.heap "com/example/guarantee/guarantee/model/Expression$Operator" "TIMES" "Lcom/example/guarantee/guarantee/model/Expression$Operator;" (.ref (r 19))) (S_DIVIDE : Sta Z Z.heap "com/example/guarantee/guarantee/model/Expression$Operator" "DIVIDE" "Lcom/example/guarantee/guarantee/model/Expression$Operator;" (.ref (r 20))) (S_MODULO : Sta Z Z.heap "com/example/guarantee/guarantee/model/Expression$Operator" "MODULO" "Lcom/example/guarantee/guarantee/model/Expression$Operator;" (.ref (r 21))) (S_PLUS : Sta Z Z.heap "com/example/guarantee/guarantee/model/Expression$Operator" "PLUS" "Lcom/example/guarantee/guarantee/model/Expression$Operator;" (.ref (r 22))) (S_MINUS : Sta Z Z.heap "com/example/guarantee/guarantee/model/Expression$Operator" "MINUS" "Lcom/example/guarantee/guarantee/model/Expression$Operator;" (.ref (r 23))) (S_EQUALS : Sta Z Z.heap "com/example/guarantee/guarantee/model/Expression$Operator" "EQUALS" "Lcom/example/guarantee/guarantee/model/Expression$Operator;" (.ref (r 24))) (S_NOT_EQUALS : Sta Z Z.heap "com/example/guarantee/guarantee/model/Expression$Operator" "NOT_EQUALS" "Lcom/example/guarantee/guarantee/model/Expression$Operator;" (.ref (r 25))) (S_LESS : Sta Z Z.heap "com/example/guarantee/guarantee/model/Expression$Operator" "LESS" "Lcom/example/guarantee/guarantee/model/Expression$Operator;" (.ref (r 26))) (S_LESS_EQUAL : Sta Z Z.heap "com/example/guarantee/guarantee/model/Expression$Operator" "LESS_EQUAL" "Lcom/example/guarantee/guarantee/model/Expression$Operator;" (.ref (r 27))) (S_GREATER : Sta Z Z.heap "com/example/guarantee/guarantee/model/Expression$Operator" "GREATER" "Lcom/example/guarantee/guarantee/model/Expression$Operator;" (.ref (r 28))) (S_GREATER_EQUAL : Sta Z Z.heap "com/example/guarantee/guarantee/model/Expression$Operator" "GREATER_EQUAL" "Lcom/example/guarantee/guarantee/model/Expression$Operator;" (.ref (r 29))) (S_SINCE : Sta Z Z.heap "com/example/guarantee/guarantee/model/Expression$Operator" "SINCE" "Lcom/example/guarantee/guarantee/model/Expression$Operator;" (.ref (r 30))) (S_AND : Sta Z Z.heap "com/example/guarantee/guarantee/model/Expression$Operator" "AND" "Lcom/example/guarantee/guarantee/model/Expression$Operator;" (.ref (r 31))) (S_OR : Sta Z Z.heap "com/example/guarantee/guarantee/model/Expression$Operator" "OR" "Lcom/example/guarantee/guarantee/model/Expression$Operator;" (.ref (r 32))) (S_IFF : Sta Z Z.heap "com/example/guarantee/guarantee/model/Expression$Operator" "IFF" "Lcom/example/guarantee/guarantee/model/Expression$Operator;" (.ref (r 33))) (S_IMPLIES : Sta Z Z.heap "com/example/guarantee/guarantee/model/Expression$Operator" "IMPLIES" "Lcom/example/guarantee/guarantee/model/Expression$Operator;" (.ref (r 34))) (HE : ∀ k, own_K k → Exa Z Z.heap (r k) "com/example/guarantee/guarantee/model/Expression$Operator") :
    MetFree l (⟨"com/example/guarantee/guarantee/model/OperatorIsPastPinLaw", "all", "()[Lcom/example/guarantee/guarantee/model/Expression$Operator;"⟩ : MethodName) (head1 (Jvm.Cond.code (⟨"com/example/guarantee/guarantee/model/OperatorIsPastPinLaw", "all", "()[Lcom/example/guarantee/guarantee/model/Expression$Operator;"⟩ : MethodName) method_2_code 0 (some (.array (.object "com/example/guarantee/guarantee/model/Expression$Operator"))) :: ws) ({ frames := 0, cells := 1, slots := 35, locals := 0 } : Room)) (fun a U => a = #[] ∧ Z.Warmed39 U.vm ∧ U.heap = h0) (fun _ _ _ _ _ => True) (fun _ U o U' => ∃ v L, o = .returned v ∧ Q1 Z r h0 n0 v U'.heap L ∧ FrameEnd U o U' L ({ frames := 0, cells := 1, slots := 35, locals := 0 } : Room).cells ({ frames := 0, cells := 1, slots := 35, locals := 0 } : Room).slots) := by
  refine MetFree.of_bodySF (plainFor_of_name pn_0) hisR ?_
  intro p e s m args below meth c s₁ Bd hml0 hP hK
  obtain ⟨rfl, hZ, hh⟩ := hP
  have hx := Bd.exec
  have hby := Bd.bytes
  have hml : c.maxLocals = 0 := hml0
  have hown : s.vm.findClass "com/example/guarantee/guarantee/model/OperatorIsPastPinLaw" = some m.cls := findClass_of_methodNamed Bd.named
  have hnm := (name_of_methodNamed Bd.named Bd.method).1
  have X0 : Stand p l e ({ frames := 0, cells := 1, slots := 35, locals := 0 } : Room) s m #[] below meth c s₁ [] 0 0 := Stand.of_body Bd
  have e0 : s₁.heap = h0 := by rw [← hh, Bd.state]; rfl
  have N0 := Fr.nil n0
  have K0 := Keep.refl h0 []
  have go0 : Goes p e below s₁ (entryFrame m #[] 0) s₁ (mkF m 0 #[] []) := fun t k => castTop (ef_rm1 m ) k
  have go1 : Goes p e below s₁ (entryFrame m #[] 0) s₁ (mkF m 2 #[] [(.int (35 : Int32))]) := fun t k => by
    refine go0 t ?_
    refine XS.bipush X0.here hx rfl (hb hby d1_0) ?_
    show Steps p.tables e below (s₁.setTop (mkF m 2 #[] [(.int (35 : Int32))])) _
    exact k
  obtain ⟨T2, h2, k2, X2, e2, E2, A2, Ov2, st2⟩ := newR X0 hx hZ hown (hw _ (List.mem_of_getElem? (i := 4) rfl)) (hw _ (List.mem_of_getElem? (i := 5) rfl)) e0 (g := (mkF m 2 #[] [(.int (35 : Int32))])) rfl (hb hby d1_2) rfl (by decide) (cap := 35) (by decide) (by decide) (by decide) (by decide)
  obtain ⟨b2, g_b_b2⟩ : ∃ z, z = h0.size := ⟨_, rfl⟩
  have le_b2 : h0.size ≤ b2 := Nat.le_of_eq g_b_b2.symm
  have gn_b2 : n0 ≤ b2 := Nat.le_trans Z0 le_b2
  have sz_b2 : h0.size ≤ b2 := Nat.le_trans K0.1 le_b2
  rw [← g_b_b2] at A2 st2
  have O3 := O0.ext E2
  have Z4 := Nat.le_trans Z0 E2.1
  have K5 := K0.ext E2
  have V6 : Arv Z h2 b2 k2 (.object "com/example/guarantee/guarantee/model/Expression$Operator") (35 : Int32) [.null, .null, .null, .null, .null, .null, .null, .null, .null, .null, .null, .null, .null, .null, .null, .null, .null, .null, .null, .null, .null, .null, .null, .null, .null, .null, .null, .null, .null, .null, .null, .null, .null, .null, .null] .null := (Arv.new A2 (by decide)).pad (pad_rep [] .null 35)
  have go7 : Goes p e below s₁ (entryFrame m #[] 0) T2 (mkF m 5 #[] [(.ref b2)]) := fun t k => go1 t (st2 t k)
  have go8 : Goes p e below s₁ (entryFrame m #[] 0) T2 (mkF m 7 #[] [(.int (0 : Int32)), (.ref b2), (.ref b2)]) := fun t k => by
    refine go7 t ?_
    refine XS.dup X2.here hx rfl (hb hby d1_5) rfl rfl ?_
    show Steps p.tables e below (T2.setTop (mkF m 6 #[] [(.ref b2), (.ref b2)])) _
    refine XS.iconst X2.here hx rfl (hb hby d1_6) ?_
    show Steps p.tables e below (T2.setTop (mkF m 7 #[] [(.int (0 : Int32)), (.ref b2), (.ref b2)])) _
    exact k
  obtain ⟨T9, X9, e9, st9⟩ := getS2 X2 hx hZ hown (host := "") (Or.inl (hw _ (List.mem_of_getElem? (i := 6) rfl))) Via.refl e2 (S_TRUE.ext O3.2) (g := (mkF m 7 #[] [(.int (0 : Int32)), (.ref b2), (.ref b2)])) rfl (hb hby d1_7)
  have go10 : Goes p e below s₁ (entryFrame m #[] 0) T9 (mkF m 10 #[] [(.ref (r 0)), (.int (0 : Int32)), (.ref b2), (.ref b2)]) := fun t k => go8 t (st9 t k)
  obtain ⟨cl11, Ar11, kq11, Sz11, Nn11, Hs11, Gf11⟩ := V6
  have hin11 : ¬ ((0 : Int32) < 0 ∨ cl11.slots.size ≤ ((0 : Int32)).toNatClampNeg) := inb_of Sz11 ⟨by decide, by decide⟩
  obtain ⟨T12, h12, X12, e12, W12, st12⟩ := stR X9 hx hZ e9 Ar11 (j := (0 : Int32)) hin11 rfl (Sto.ofV Ar11 kq11 Ov2 (Ins.self ((HE 0 (by unfold own_K; decide)).ext O3.2))) (g := (mkF m 10 #[] [(.ref (r 0)), (.int (0 : Int32)), (.ref b2), (.ref b2)])) rfl rfl (hb hby d1_10)
  have V13 : Arv Z h12 b2 k2 (.object "com/example/guarantee/guarantee/model/Expression$Operator") (35 : Int32) [(.ref (r 0)), .null, .null, .null, .null, .null, .null, .null, .null, .null, .null, .null, .null, .null, .null, .null, .null, .null, .null, .null, .null, .null, .null, .null, .null, .null, .null, .null, .null, .null, .null, .null, .null, .null, .null] .null := Arv.set Ar11 kq11 Sz11 Nn11 Hs11 Gf11 rfl W12 0 rfl (Nat.le_of_ble_eq_true rfl)
  have O14 := O3.wr W12 gn_b2
  have Z15 := Nat.le_trans Z4 (Nat.le_of_eq W12.size.symm)
  have K16 := K5.wr W12 (Or.inr sz_b2)
  have N17 := Fr.snoc X12 N0 gn_b2
  have go18 : Goes p e below s₁ (entryFrame m #[] 0) T12 (mkF m 11 #[] [(.ref b2)]) := fun t k => go10 t (st12 t k)
  have go19 : Goes p e below s₁ (entryFrame m #[] 0) T12 (mkF m 13 #[] [(.int (1 : Int32)), (.ref b2), (.ref b2)]) := fun t k => by
    refine go18 t ?_
    refine XS.dup X12.here hx rfl (hb hby d1_11) rfl rfl ?_
    show Steps p.tables e below (T12.setTop (mkF m 12 #[] [(.ref b2), (.ref b2)])) _
    refine XS.iconst X12.here hx rfl (hb hby d1_12) ?_
    show Steps p.tables e below (T12.setTop (mkF m 13 #[] [(.int (1 : Int32)), (.ref b2), (.ref b2)])) _
    exact k
  obtain ⟨T20, X20, e20, st20⟩ := getS2 X12 hx hZ hown (host := "") (Or.inl (hw _ (List.mem_of_getElem? (i := 10) rfl))) Via.refl e12 (S_FALSE.ext O14.2) (g := (mkF m 13 #[] [(.int (1 : Int32)), (.ref b2), (.ref b2)])) rfl (hb hby d1_13)
  have go21 : Goes p e below s₁ (entryFrame m #[] 0) T20 (mkF m 16 #[] [(.ref (r 1)), (.int (1 : Int32)), (.ref b2), (.ref b2)]) := fun t k => go19 t (st20 t k)
  obtain ⟨cl22, Ar22, kq22, Sz22, Nn22, Hs22, Gf22⟩ := V13
  have hin22 : ¬ ((1 : Int32) < 0 ∨ cl22.slots.size ≤ ((1 : Int32)).toNatClampNeg) := inb_of Sz22 ⟨by decide, by decide⟩
  obtain ⟨T23, h23, X23, e23, W23, st23⟩ := stR X20 hx hZ e20 Ar22 (j := (1 : Int32)) hin22 rfl (Sto.ofV Ar22 kq22 Ov2 (Ins.self ((HE 1 (by unfold own_K; decide)).ext O14.2))) (g := (mkF m 16 #[] [(.ref (r 1)), (.int (1 : Int32)), (.ref b2), (.ref b2)])) rfl rfl (hb hby d1_16)
  have V24 : Arv Z h23 b2 k2 (.object "com/example/guarantee/guarantee/model/Expression$Operator") (35 : Int32) [(.ref (r 0)), (.ref (r 1)), .null, .null, .null, .null, .null, .null, .null, .null, .null, .null, .null, .null, .null, .null, .null, .null, .null, .null, .null, .null, .null, .null, .null, .null, .null, .null, .null, .null, .null, .null, .null, .null, .null] .null := Arv.set Ar22 kq22 Sz22 Nn22 Hs22 Gf22 rfl W23 1 rfl (Nat.le_of_ble_eq_true rfl)
  have O25 := O14.wr W23 gn_b2
  have Z26 := Nat.le_trans Z15 (Nat.le_of_eq W23.size.symm)
  have K27 := K16.wr W23 (Or.inr sz_b2)
  have N28 := Fr.snoc X23 N17 gn_b2
  have go29 : Goes p e below s₁ (entryFrame m #[] 0) T23 (mkF m 17 #[] [(.ref b2)]) := fun t k => go21 t (st23 t k)
  have go30 : Goes p e below s₁ (entryFrame m #[] 0) T23 (mkF m 19 #[] [(.int (2 : Int32)), (.ref b2), (.ref b2)]) := fun t k => by
    refine go29 t ?_
    refine XS.dup X23.here hx rfl (hb hby d1_17) rfl rfl ?_
    show Steps p.tables e below (T23.setTop (mkF m 18 #[] [(.ref b2), (.ref b2)])) _
    refine XS.iconst X23.here hx rfl (hb hby d1_18) ?_
    show Steps p.tables e below (T23.setTop (mkF m 19 #[] [(.int (2 : Int32)), (.ref b2), (.ref b2)])) _
    exact k
  obtain ⟨T31, X31, e31, st31⟩ := getS2 X23 hx hZ hown (host := "") (Or.inl (hw _ (List.mem_of_getElem? (i := 12) rfl))) Via.refl e23 (S_INTEGER.ext O25.2) (g := (mkF m 19 #[] [(.int (2 : Int32)), (.ref b2), (.ref b2)])) rfl (hb hby d1_19)
  have go32 : Goes p e below s₁ (entryFrame m #[] 0) T31 (mkF m 22 #[] [(.ref (r 2)), (.int (2 : Int32)), (.ref b2), (.ref b2)]) := fun t k => go30 t (st31 t k)
  obtain ⟨cl33, Ar33, kq33, Sz33, Nn33, Hs33, Gf33⟩ := V24
  have hin33 : ¬ ((2 : Int32) < 0 ∨ cl33.slots.size ≤ ((2 : Int32)).toNatClampNeg) := inb_of Sz33 ⟨by decide, by decide⟩
  obtain ⟨T34, h34, X34, e34, W34, st34⟩ := stR X31 hx hZ e31 Ar33 (j := (2 : Int32)) hin33 rfl (Sto.ofV Ar33 kq33 Ov2 (Ins.self ((HE 2 (by unfold own_K; decide)).ext O25.2))) (g := (mkF m 22 #[] [(.ref (r 2)), (.int (2 : Int32)), (.ref b2), (.ref b2)])) rfl rfl (hb hby d1_22)
  have V35 : Arv Z h34 b2 k2 (.object "com/example/guarantee/guarantee/model/Expression$Operator") (35 : Int32) [(.ref (r 0)), (.ref (r 1)), (.ref (r 2)), .null, .null, .null, .null, .null, .null, .null, .null, .null, .null, .null, .null, .null, .null, .null, .null, .null, .null, .null, .null, .null, .null, .null, .null, .null, .null, .null, .null, .null, .null, .null, .null] .null := Arv.set Ar33 kq33 Sz33 Nn33 Hs33 Gf33 rfl W34 2 rfl (Nat.le_of_ble_eq_true rfl)
  have O36 := O25.wr W34 gn_b2
  have Z37 := Nat.le_trans Z26 (Nat.le_of_eq W34.size.symm)
  have K38 := K27.wr W34 (Or.inr sz_b2)
  have N39 := Fr.snoc X34 N28 gn_b2
  have go40 : Goes p e below s₁ (entryFrame m #[] 0) T34 (mkF m 23 #[] [(.ref b2)]) := fun t k => go32 t (st34 t k)
  have go41 : Goes p e below s₁ (entryFrame m #[] 0) T34 (mkF m 25 #[] [(.int (3 : Int32)), (.ref b2), (.ref b2)]) := fun t k => by
    refine go40 t ?_
    refine XS.dup X34.here hx rfl (hb hby d1_23) rfl rfl ?_
    show Steps p.tables e below (T34.setTop (mkF m 24 #[] [(.ref b2), (.ref b2)])) _
    refine XS.iconst X34.here hx rfl (hb hby d1_24) ?_
    show Steps p.tables e below (T34.setTop (mkF m 25 #[] [(.int (3 : Int32)), (.ref b2), (.ref b2)])) _
    exact k
  obtain ⟨T42, X42, e42, st42⟩ := getS2 X34 hx hZ hown (host := "") (Or.inl (hw _ (List.mem_of_getElem? (i := 14) rfl))) Via.refl e34 (S_NAME.ext O36.2) (g := (mkF m 25 #[] [(.int (3 : Int32)), (.ref b2), (.ref b2)])) rfl (hb hby d1_25)
  have go43 : Goes p e below s₁ (entryFrame m #[] 0) T42 (mkF m 28 #[] [(.ref (r 3)), (.int (3 : Int32)), (.ref b2), (.ref b2)]) := fun t k => go41 t (st42 t k)
  obtain ⟨cl44, Ar44, kq44, Sz44, Nn44, Hs44, Gf44⟩ := V35
  have hin44 : ¬ ((3 : Int32) < 0 ∨ cl44.slots.size ≤ ((3 : Int32)).toNatClampNeg) := inb_of Sz44 ⟨by decide, by decide⟩
  obtain ⟨T45, h45, X45, e45, W45, st45⟩ := stR X42 hx hZ e42 Ar44 (j := (3 : Int32)) hin44 rfl (Sto.ofV Ar44 kq44 Ov2 (Ins.self ((HE 3 (by unfold own_K; decide)).ext O36.2))) (g := (mkF m 28 #[] [(.ref (r 3)), (.int (3 : Int32)), (.ref b2), (.ref b2)])) rfl rfl (hb hby d1_28)
  have V46 : Arv Z h45 b2 k2 (.object "com/example/guarantee/guarantee/model/Expression$Operator") (35 : Int32) [(.ref (r 0)), (.ref (r 1)), (.ref (r 2)), (.ref (r 3)), .null, .null, .null, .null, .null, .null, .null, .null, .null, .null, .null, .null, .null, .null, .null, .null, .null, .null, .null, .null, .null, .null, .null, .null, .null, .null, .null, .null, .null, .null, .null] .null := Arv.set Ar44 kq44 Sz44 Nn44 Hs44 Gf44 rfl W45 3 rfl (Nat.le_of_ble_eq_true rfl)
  have O47 := O36.wr W45 gn_b2
  have Z48 := Nat.le_trans Z37 (Nat.le_of_eq W45.size.symm)
  have K49 := K38.wr W45 (Or.inr sz_b2)
  have N50 := Fr.snoc X45 N39 gn_b2
  have go51 : Goes p e below s₁ (entryFrame m #[] 0) T45 (mkF m 29 #[] [(.ref b2)]) := fun t k => go43 t (st45 t k)
  have go52 : Goes p e below s₁ (entryFrame m #[] 0) T45 (mkF m 31 #[] [(.int (4 : Int32)), (.ref b2), (.ref b2)]) := fun t k => by
    refine go51 t ?_
    refine XS.dup X45.here hx rfl (hb hby d1_29) rfl rfl ?_
    show Steps p.tables e below (T45.setTop (mkF m 30 #[] [(.ref b2), (.ref b2)])) _
    refine XS.iconst X45.here hx rfl (hb hby d1_30) ?_
    show Steps p.tables e below (T45.setTop (mkF m 31 #[] [(.int (4 : Int32)), (.ref b2), (.ref b2)])) _
    exact k
  obtain ⟨T53, X53, e53, st53⟩ := getS2 X45 hx hZ hown (host := "") (Or.inl (hw _ (List.mem_of_getElem? (i := 16) rfl))) Via.refl e45 (S_VARIABLE.ext O47.2) (g := (mkF m 31 #[] [(.int (4 : Int32)), (.ref b2), (.ref b2)])) rfl (hb hby d1_31)
  have go54 : Goes p e below s₁ (entryFrame m #[] 0) T53 (mkF m 34 #[] [(.ref (r 4)), (.int (4 : Int32)), (.ref b2), (.ref b2)]) := fun t k => go52 t (st53 t k)
  obtain ⟨cl55, Ar55, kq55, Sz55, Nn55, Hs55, Gf55⟩ := V46
  have hin55 : ¬ ((4 : Int32) < 0 ∨ cl55.slots.size ≤ ((4 : Int32)).toNatClampNeg) := inb_of Sz55 ⟨by decide, by decide⟩
  obtain ⟨T56, h56, X56, e56, W56, st56⟩ := stR X53 hx hZ e53 Ar55 (j := (4 : Int32)) hin55 rfl (Sto.ofV Ar55 kq55 Ov2 (Ins.self ((HE 4 (by unfold own_K; decide)).ext O47.2))) (g := (mkF m 34 #[] [(.ref (r 4)), (.int (4 : Int32)), (.ref b2), (.ref b2)])) rfl rfl (hb hby d1_34)
  have V57 : Arv Z h56 b2 k2 (.object "com/example/guarantee/guarantee/model/Expression$Operator") (35 : Int32) [(.ref (r 0)), (.ref (r 1)), (.ref (r 2)), (.ref (r 3)), (.ref (r 4)), .null, .null, .null, .null, .null, .null, .null, .null, .null, .null, .null, .null, .null, .null, .null, .null, .null, .null, .null, .null, .null, .null, .null, .null, .null, .null, .null, .null, .null, .null] .null := Arv.set Ar55 kq55 Sz55 Nn55 Hs55 Gf55 rfl W56 4 rfl (Nat.le_of_ble_eq_true rfl)
  have O58 := O47.wr W56 gn_b2
  have Z59 := Nat.le_trans Z48 (Nat.le_of_eq W56.size.symm)
  have K60 := K49.wr W56 (Or.inr sz_b2)
  have N61 := Fr.snoc X56 N50 gn_b2
  have go62 : Goes p e below s₁ (entryFrame m #[] 0) T56 (mkF m 35 #[] [(.ref b2)]) := fun t k => go54 t (st56 t k)
  have go63 : Goes p e below s₁ (entryFrame m #[] 0) T56 (mkF m 37 #[] [(.int (5 : Int32)), (.ref b2), (.ref b2)]) := fun t k => by
    refine go62 t ?_
    refine XS.dup X56.here hx rfl (hb hby d1_35) rfl rfl ?_
    show Steps p.tables e below (T56.setTop (mkF m 36 #[] [(.ref b2), (.ref b2)])) _
    refine XS.iconst X56.here hx rfl (hb hby d1_36) ?_
    show Steps p.tables e below (T56.setTop (mkF m 37 #[] [(.int (5 : Int32)), (.ref b2), (.ref b2)])) _
    exact k
  obtain ⟨T64, X64, e64, st64⟩ := getS2 X56 hx hZ hown (host := "") (Or.inl (hw _ (List.mem_of_getElem? (i := 18) rfl))) Via.refl e56 (S_LITERAL.ext O58.2) (g := (mkF m 37 #[] [(.int (5 : Int32)), (.ref b2), (.ref b2)])) rfl (hb hby d1_37)
  have go65 : Goes p e below s₁ (entryFrame m #[] 0) T64 (mkF m 40 #[] [(.ref (r 5)), (.int (5 : Int32)), (.ref b2), (.ref b2)]) := fun t k => go63 t (st64 t k)
  obtain ⟨cl66, Ar66, kq66, Sz66, Nn66, Hs66, Gf66⟩ := V57
  have hin66 : ¬ ((5 : Int32) < 0 ∨ cl66.slots.size ≤ ((5 : Int32)).toNatClampNeg) := inb_of Sz66 ⟨by decide, by decide⟩
  obtain ⟨T67, h67, X67, e67, W67, st67⟩ := stR X64 hx hZ e64 Ar66 (j := (5 : Int32)) hin66 rfl (Sto.ofV Ar66 kq66 Ov2 (Ins.self ((HE 5 (by unfold own_K; decide)).ext O58.2))) (g := (mkF m 40 #[] [(.ref (r 5)), (.int (5 : Int32)), (.ref b2), (.ref b2)])) rfl rfl (hb hby d1_40)
  have V68 : Arv Z h67 b2 k2 (.object "com/example/guarantee/guarantee/model/Expression$Operator") (35 : Int32) [(.ref (r 0)), (.ref (r 1)), (.ref (r 2)), (.ref (r 3)), (.ref (r 4)), (.ref (r 5)), .null, .null, .null, .null, .null, .null, .null, .null, .null, .null, .null, .null, .null, .null, .null, .null, .null, .null, .null, .null, .null, .null, .null, .null, .null, .null, .null, .null, .null] .null := Arv.set Ar66 kq66 Sz66 Nn66 Hs66 Gf66 rfl W67 5 rfl (Nat.le_of_ble_eq_true rfl)
  have O69 := O58.wr W67 gn_b2
  have Z70 := Nat.le_trans Z59 (Nat.le_of_eq W67.size.symm)
  have K71 := K60.wr W67 (Or.inr sz_b2)
  have N72 := Fr.snoc X67 N61 gn_b2
  have go73 : Goes p e below s₁ (entryFrame m #[] 0) T67 (mkF m 41 #[] [(.ref b2)]) := fun t k => go65 t (st67 t k)
  have go74 : Goes p e below s₁ (entryFrame m #[] 0) T67 (mkF m 44 #[] [(.int (6 : Int32)), (.ref b2), (.ref b2)]) := fun t k => by
    refine go73 t ?_
    refine XS.dup X67.here hx rfl (hb hby d1_41) rfl rfl ?_
    show Steps p.tables e below (T67.setTop (mkF m 42 #[] [(.ref b2), (.ref b2)])) _
    refine XS.bipush X67.here hx rfl (hb hby d1_42) ?_
    show Steps p.tables e below (T67.setTop (mkF m 44 #[] [(.int (6 : Int32)), (.ref b2), (.ref b2)])) _
    exact k
  obtain ⟨T75, X75, e75, st75⟩ := getS2 X67 hx hZ hown (host := "") (Or.inl (hw _ (List.mem_of_getElem? (i := 20) rfl))) Via.refl e67 (S_DEFINE.ext O69.2) (g := (mkF m 44 #[] [(.int (6 : Int32)), (.ref b2), (.ref b2)])) rfl (hb hby d1_44)
  have go76 : Goes p e below s₁ (entryFrame m #[] 0) T75 (mkF m 47 #[] [(.ref (r 6)), (.int (6 : Int32)), (.ref b2), (.ref b2)]) := fun t k => go74 t (st75 t k)
  obtain ⟨cl77, Ar77, kq77, Sz77, Nn77, Hs77, Gf77⟩ := V68
  have hin77 : ¬ ((6 : Int32) < 0 ∨ cl77.slots.size ≤ ((6 : Int32)).toNatClampNeg) := inb_of Sz77 ⟨by decide, by decide⟩
  obtain ⟨T78, h78, X78, e78, W78, st78⟩ := stR X75 hx hZ e75 Ar77 (j := (6 : Int32)) hin77 rfl (Sto.ofV Ar77 kq77 Ov2 (Ins.self ((HE 6 (by unfold own_K; decide)).ext O69.2))) (g := (mkF m 47 #[] [(.ref (r 6)), (.int (6 : Int32)), (.ref b2), (.ref b2)])) rfl rfl (hb hby d1_47)
  have V79 : Arv Z h78 b2 k2 (.object "com/example/guarantee/guarantee/model/Expression$Operator") (35 : Int32) [(.ref (r 0)), (.ref (r 1)), (.ref (r 2)), (.ref (r 3)), (.ref (r 4)), (.ref (r 5)), (.ref (r 6)), .null, .null, .null, .null, .null, .null, .null, .null, .null, .null, .null, .null, .null, .null, .null, .null, .null, .null, .null, .null, .null, .null, .null, .null, .null, .null, .null, .null] .null := Arv.set Ar77 kq77 Sz77 Nn77 Hs77 Gf77 rfl W78 6 rfl (Nat.le_of_ble_eq_true rfl)
  have O80 := O69.wr W78 gn_b2
  have Z81 := Nat.le_trans Z70 (Nat.le_of_eq W78.size.symm)
  have K82 := K71.wr W78 (Or.inr sz_b2)
  have N83 := Fr.snoc X78 N72 gn_b2
  have go84 : Goes p e below s₁ (entryFrame m #[] 0) T78 (mkF m 48 #[] [(.ref b2)]) := fun t k => go76 t (st78 t k)
  have go85 : Goes p e below s₁ (entryFrame m #[] 0) T78 (mkF m 51 #[] [(.int (7 : Int32)), (.ref b2), (.ref b2)]) := fun t k => by
    refine go84 t ?_
    refine XS.dup X78.here hx rfl (hb hby d1_48) rfl rfl ?_
    show Steps p.tables e below (T78.setTop (mkF m 49 #[] [(.ref b2), (.ref b2)])) _
    refine XS.bipush X78.here hx rfl (hb hby d1_49) ?_
    show Steps p.tables e below (T78.setTop (mkF m 51 #[] [(.int (7 : Int32)), (.ref b2), (.ref b2)])) _
    exact k
  obtain ⟨T86, X86, e86, st86⟩ := getS2 X78 hx hZ hown (host := "") (Or.inl (hw _ (List.mem_of_getElem? (i := 22) rfl))) Via.refl e78 (S_INSTANCE.ext O80.2) (g := (mkF m 51 #[] [(.int (7 : Int32)), (.ref b2), (.ref b2)])) rfl (hb hby d1_51)
  have go87 : Goes p e below s₁ (entryFrame m #[] 0) T86 (mkF m 54 #[] [(.ref (r 7)), (.int (7 : Int32)), (.ref b2), (.ref b2)]) := fun t k => go85 t (st86 t k)
  obtain ⟨cl88, Ar88, kq88, Sz88, Nn88, Hs88, Gf88⟩ := V79
  have hin88 : ¬ ((7 : Int32) < 0 ∨ cl88.slots.size ≤ ((7 : Int32)).toNatClampNeg) := inb_of Sz88 ⟨by decide, by decide⟩
  obtain ⟨T89, h89, X89, e89, W89, st89⟩ := stR X86 hx hZ e86 Ar88 (j := (7 : Int32)) hin88 rfl (Sto.ofV Ar88 kq88 Ov2 (Ins.self ((HE 7 (by unfold own_K; decide)).ext O80.2))) (g := (mkF m 54 #[] [(.ref (r 7)), (.int (7 : Int32)), (.ref b2), (.ref b2)])) rfl rfl (hb hby d1_54)
  have V90 : Arv Z h89 b2 k2 (.object "com/example/guarantee/guarantee/model/Expression$Operator") (35 : Int32) [(.ref (r 0)), (.ref (r 1)), (.ref (r 2)), (.ref (r 3)), (.ref (r 4)), (.ref (r 5)), (.ref (r 6)), (.ref (r 7)), .null, .null, .null, .null, .null, .null, .null, .null, .null, .null, .null, .null, .null, .null, .null, .null, .null, .null, .null, .null, .null, .null, .null, .null, .null, .null, .null] .null := Arv.set Ar88 kq88 Sz88 Nn88 Hs88 Gf88 rfl W89 7 rfl (Nat.le_of_ble_eq_true rfl)
  have O91 := O80.wr W89 gn_b2
  have Z92 := Nat.le_trans Z81 (Nat.le_of_eq W89.size.symm)
  have K93 := K82.wr W89 (Or.inr sz_b2)
  have N94 := Fr.snoc X89 N83 gn_b2
  have go95 : Goes p e below s₁ (entryFrame m #[] 0) T89 (mkF m 55 #[] [(.ref b2)]) := fun t k => go87 t (st89 t k)
  have go96 : Goes p e below s₁ (entryFrame m #[] 0) T89 (mkF m 58 #[] [(.int (8 : Int32)), (.ref b2), (.ref b2)]) := fun t k => by
    refine go95 t ?_
    refine XS.dup X89.here hx rfl (hb hby d1_55) rfl rfl ?_
    show Steps p.tables e below (T89.setTop (mkF m 56 #[] [(.ref b2), (.ref b2)])) _
    refine XS.bipush X89.here hx rfl (hb hby d1_56) ?_
    show Steps p.tables e below (T89.setTop (mkF m 58 #[] [(.int (8 : Int32)), (.ref b2), (.ref b2)])) _
    exact k
  obtain ⟨T97, X97, e97, st97⟩ := getS2 X89 hx hZ hown (host := "") (Or.inl (hw _ (List.mem_of_getElem? (i := 24) rfl))) Via.refl e89 (S_PREDICATE.ext O91.2) (g := (mkF m 58 #[] [(.int (8 : Int32)), (.ref b2), (.ref b2)])) rfl (hb hby d1_58)
  have go98 : Goes p e below s₁ (entryFrame m #[] 0) T97 (mkF m 61 #[] [(.ref (r 8)), (.int (8 : Int32)), (.ref b2), (.ref b2)]) := fun t k => go96 t (st97 t k)
  obtain ⟨cl99, Ar99, kq99, Sz99, Nn99, Hs99, Gf99⟩ := V90
  have hin99 : ¬ ((8 : Int32) < 0 ∨ cl99.slots.size ≤ ((8 : Int32)).toNatClampNeg) := inb_of Sz99 ⟨by decide, by decide⟩
  obtain ⟨T100, h100, X100, e100, W100, st100⟩ := stR X97 hx hZ e97 Ar99 (j := (8 : Int32)) hin99 rfl (Sto.ofV Ar99 kq99 Ov2 (Ins.self ((HE 8 (by unfold own_K; decide)).ext O91.2))) (g := (mkF m 61 #[] [(.ref (r 8)), (.int (8 : Int32)), (.ref b2), (.ref b2)])) rfl rfl (hb hby d1_61)
  have V101 : Arv Z h100 b2 k2 (.object "com/example/guarantee/guarantee/model/Expression$Operator") (35 : Int32) [(.ref (r 0)), (.ref (r 1)), (.ref (r 2)), (.ref (r 3)), (.ref (r 4)), (.ref (r 5)), (.ref (r 6)), (.ref (r 7)), (.ref (r 8)), .null, .null, .null, .null, .null, .null, .null, .null, .null, .null, .null, .null, .null, .null, .null, .null, .null, .null, .null, .null, .null, .null, .null, .null, .null, .null] .null := Arv.set Ar99 kq99 Sz99 Nn99 Hs99 Gf99 rfl W100 8 rfl (Nat.le_of_ble_eq_true rfl)
  have O102 := O91.wr W100 gn_b2
  have Z103 := Nat.le_trans Z92 (Nat.le_of_eq W100.size.symm)
  have K104 := K93.wr W100 (Or.inr sz_b2)
  have N105 := Fr.snoc X100 N94 gn_b2
  have go106 : Goes p e below s₁ (entryFrame m #[] 0) T100 (mkF m 62 #[] [(.ref b2)]) := fun t k => go98 t (st100 t k)
  have go107 : Goes p e below s₁ (entryFrame m #[] 0) T100 (mkF m 65 #[] [(.int (9 : Int32)), (.ref b2), (.ref b2)]) := fun t k => by
    refine go106 t ?_
    refine XS.dup X100.here hx rfl (hb hby d1_62) rfl rfl ?_
    show Steps p.tables e below (T100.setTop (mkF m 63 #[] [(.ref b2), (.ref b2)])) _
    refine XS.bipush X100.here hx rfl (hb hby d1_63) ?_
    show Steps p.tables e below (T100.setTop (mkF m 65 #[] [(.int (9 : Int32)), (.ref b2), (.ref b2)])) _
    exact k
  obtain ⟨T108, X108, e108, st108⟩ := getS2 X100 hx hZ hown (host := "") (Or.inl (hw _ (List.mem_of_getElem? (i := 26) rfl))) Via.refl e100 (S_ELEMENT.ext O102.2) (g := (mkF m 65 #[] [(.int (9 : Int32)), (.ref b2), (.ref b2)])) rfl (hb hby d1_65)
  have go109 : Goes p e below s₁ (entryFrame m #[] 0) T108 (mkF m 68 #[] [(.ref (r 9)), (.int (9 : Int32)), (.ref b2), (.ref b2)]) := fun t k => go107 t (st108 t k)
  obtain ⟨cl110, Ar110, kq110, Sz110, Nn110, Hs110, Gf110⟩ := V101
  have hin110 : ¬ ((9 : Int32) < 0 ∨ cl110.slots.size ≤ ((9 : Int32)).toNatClampNeg) := inb_of Sz110 ⟨by decide, by decide⟩
  obtain ⟨T111, h111, X111, e111, W111, st111⟩ := stR X108 hx hZ e108 Ar110 (j := (9 : Int32)) hin110 rfl (Sto.ofV Ar110 kq110 Ov2 (Ins.self ((HE 9 (by unfold own_K; decide)).ext O102.2))) (g := (mkF m 68 #[] [(.ref (r 9)), (.int (9 : Int32)), (.ref b2), (.ref b2)])) rfl rfl (hb hby d1_68)
  have V112 : Arv Z h111 b2 k2 (.object "com/example/guarantee/guarantee/model/Expression$Operator") (35 : Int32) [(.ref (r 0)), (.ref (r 1)), (.ref (r 2)), (.ref (r 3)), (.ref (r 4)), (.ref (r 5)), (.ref (r 6)), (.ref (r 7)), (.ref (r 8)), (.ref (r 9)), .null, .null, .null, .null, .null, .null, .null, .null, .null, .null, .null, .null, .null, .null, .null, .null, .null, .null, .null, .null, .null, .null, .null, .null, .null] .null := Arv.set Ar110 kq110 Sz110 Nn110 Hs110 Gf110 rfl W111 9 rfl (Nat.le_of_ble_eq_true rfl)
  have O113 := O102.wr W111 gn_b2
  have Z114 := Nat.le_trans Z103 (Nat.le_of_eq W111.size.symm)
  have K115 := K104.wr W111 (Or.inr sz_b2)
  have N116 := Fr.snoc X111 N105 gn_b2
  have go117 : Goes p e below s₁ (entryFrame m #[] 0) T111 (mkF m 69 #[] [(.ref b2)]) := fun t k => go109 t (st111 t k)
  have go118 : Goes p e below s₁ (entryFrame m #[] 0) T111 (mkF m 72 #[] [(.int (10 : Int32)), (.ref b2), (.ref b2)]) := fun t k => by
    refine go117 t ?_
    refine XS.dup X111.here hx rfl (hb hby d1_69) rfl rfl ?_
    show Steps p.tables e below (T111.setTop (mkF m 70 #[] [(.ref b2), (.ref b2)])) _
    refine XS.bipush X111.here hx rfl (hb hby d1_70) ?_
    show Steps p.tables e below (T111.setTop (mkF m 72 #[] [(.int (10 : Int32)), (.ref b2), (.ref b2)])) _
    exact k
  obtain ⟨T119, X119, e119, st119⟩ := getS2 X111 hx hZ hown (host := "") (Or.inl (hw _ (List.mem_of_getElem? (i := 28) rfl))) Via.refl e111 (S_PROPERTY.ext O113.2) (g := (mkF m 72 #[] [(.int (10 : Int32)), (.ref b2), (.ref b2)])) rfl (hb hby d1_72)
  have go120 : Goes p e below s₁ (entryFrame m #[] 0) T119 (mkF m 75 #[] [(.ref (r 10)), (.int (10 : Int32)), (.ref b2), (.ref b2)]) := fun t k => go118 t (st119 t k)
  obtain ⟨cl121, Ar121, kq121, Sz121, Nn121, Hs121, Gf121⟩ := V112
  have hin121 : ¬ ((10 : Int32) < 0 ∨ cl121.slots.size ≤ ((10 : Int32)).toNatClampNeg) := inb_of Sz121 ⟨by decide, by decide⟩
  obtain ⟨T122, h122, X122, e122, W122, st122⟩ := stR X119 hx hZ e119 Ar121 (j := (10 : Int32)) hin121 rfl (Sto.ofV Ar121 kq121 Ov2 (Ins.self ((HE 10 (by unfold own_K; decide)).ext O113.2))) (g := (mkF m 75 #[] [(.ref (r 10)), (.int (10 : Int32)), (.ref b2), (.ref b2)])) rfl rfl (hb hby d1_75)
  have V123 : Arv Z h122 b2 k2 (.object "com/example/guarantee/guarantee/model/Expression$Operator") (35 : Int32) [(.ref (r 0)), (.ref (r 1)), (.ref (r 2)), (.ref (r 3)), (.ref (r 4)), (.ref (r 5)), (.ref (r 6)), (.ref (r 7)), (.ref (r 8)), (.ref (r 9)), (.ref (r 10)), .null, .null, .null, .null, .null, .null, .null, .null, .null, .null, .null, .null, .null, .null, .null, .null, .null, .null, .null, .null, .null, .null, .null, .null] .null := Arv.set Ar121 kq121 Sz121 Nn121 Hs121 Gf121 rfl W122 10 rfl (Nat.le_of_ble_eq_true rfl)
  have O124 := O113.wr W122 gn_b2
  have Z125 := Nat.le_trans Z114 (Nat.le_of_eq W122.size.symm)
  have K126 := K115.wr W122 (Or.inr sz_b2)
  have N127 := Fr.snoc X122 N116 gn_b2
  have go128 : Goes p e below s₁ (entryFrame m #[] 0) T122 (mkF m 76 #[] [(.ref b2)]) := fun t k => go120 t (st122 t k)
  have go129 : Goes p e below s₁ (entryFrame m #[] 0) T122 (mkF m 79 #[] [(.int (11 : Int32)), (.ref b2), (.ref b2)]) := fun t k => by
    refine go128 t ?_
    refine XS.dup X122.here hx rfl (hb hby d1_76) rfl rfl ?_
    show Steps p.tables e below (T122.setTop (mkF m 77 #[] [(.ref b2), (.ref b2)])) _
    refine XS.bipush X122.here hx rfl (hb hby d1_77) ?_
    show Steps p.tables e below (T122.setTop (mkF m 79 #[] [(.int (11 : Int32)), (.ref b2), (.ref b2)])) _
    exact k
  obtain ⟨T130, X130, e130, st130⟩ := getS2 X122 hx hZ hown (host := "") (Or.inl (hw _ (List.mem_of_getElem? (i := 30) rfl))) Via.refl e122 (S_FORALL.ext O124.2) (g := (mkF m 79 #[] [(.int (11 : Int32)), (.ref b2), (.ref b2)])) rfl (hb hby d1_79)
  have go131 : Goes p e below s₁ (entryFrame m #[] 0) T130 (mkF m 82 #[] [(.ref (r 11)), (.int (11 : Int32)), (.ref b2), (.ref b2)]) := fun t k => go129 t (st130 t k)
  obtain ⟨cl132, Ar132, kq132, Sz132, Nn132, Hs132, Gf132⟩ := V123
  have hin132 : ¬ ((11 : Int32) < 0 ∨ cl132.slots.size ≤ ((11 : Int32)).toNatClampNeg) := inb_of Sz132 ⟨by decide, by decide⟩
  obtain ⟨T133, h133, X133, e133, W133, st133⟩ := stR X130 hx hZ e130 Ar132 (j := (11 : Int32)) hin132 rfl (Sto.ofV Ar132 kq132 Ov2 (Ins.self ((HE 11 (by unfold own_K; decide)).ext O124.2))) (g := (mkF m 82 #[] [(.ref (r 11)), (.int (11 : Int32)), (.ref b2), (.ref b2)])) rfl rfl (hb hby d1_82)
  have V134 : Arv Z h133 b2 k2 (.object "com/example/guarantee/guarantee/model/Expression$Operator") (35 : Int32) [(.ref (r 0)), (.ref (r 1)), (.ref (r 2)), (.ref (r 3)), (.ref (r 4)), (.ref (r 5)), (.ref (r 6)), (.ref (r 7)), (.ref (r 8)), (.ref (r 9)), (.ref (r 10)), (.ref (r 11)), .null, .null, .null, .null, .null, .null, .null, .null, .null, .null, .null, .null, .null, .null, .null, .null, .null, .null, .null, .null, .null, .null, .null] .null := Arv.set Ar132 kq132 Sz132 Nn132 Hs132 Gf132 rfl W133 11 rfl (Nat.le_of_ble_eq_true rfl)
  have O135 := O124.wr W133 gn_b2
  have Z136 := Nat.le_trans Z125 (Nat.le_of_eq W133.size.symm)
  have K137 := K126.wr W133 (Or.inr sz_b2)
  have N138 := Fr.snoc X133 N127 gn_b2
  have go139 : Goes p e below s₁ (entryFrame m #[] 0) T133 (mkF m 83 #[] [(.ref b2)]) := fun t k => go131 t (st133 t k)
  have go140 : Goes p e below s₁ (entryFrame m #[] 0) T133 (mkF m 86 #[] [(.int (12 : Int32)), (.ref b2), (.ref b2)]) := fun t k => by
    refine go139 t ?_
    refine XS.dup X133.here hx rfl (hb hby d1_83) rfl rfl ?_
    show Steps p.tables e below (T133.setTop (mkF m 84 #[] [(.ref b2), (.ref b2)])) _
    refine XS.bipush X133.here hx rfl (hb hby d1_84) ?_
    show Steps p.tables e below (T133.setTop (mkF m 86 #[] [(.int (12 : Int32)), (.ref b2), (.ref b2)])) _
    exact k
  obtain ⟨T141, X141, e141, st141⟩ := getS2 X133 hx hZ hown (host := "") (Or.inl (hw _ (List.mem_of_getElem? (i := 32) rfl))) Via.refl e133 (S_EXISTS.ext O135.2) (g := (mkF m 86 #[] [(.int (12 : Int32)), (.ref b2), (.ref b2)])) rfl (hb hby d1_86)
  have go142 : Goes p e below s₁ (entryFrame m #[] 0) T141 (mkF m 89 #[] [(.ref (r 12)), (.int (12 : Int32)), (.ref b2), (.ref b2)]) := fun t k => go140 t (st141 t k)
  obtain ⟨cl143, Ar143, kq143, Sz143, Nn143, Hs143, Gf143⟩ := V134
  have hin143 : ¬ ((12 : Int32) < 0 ∨ cl143.slots.size ≤ ((12 : Int32)).toNatClampNeg) := inb_of Sz143 ⟨by decide, by decide⟩
  obtain ⟨T144, h144, X144, e144, W144, st144⟩ := stR X141 hx hZ e141 Ar143 (j := (12 : Int32)) hin143 rfl (Sto.ofV Ar143 kq143 Ov2 (Ins.self ((HE 12 (by unfold own_K; decide)).ext O135.2))) (g := (mkF m 89 #[] [(.ref (r 12)), (.int (12 : Int32)), (.ref b2), (.ref b2)])) rfl rfl (hb hby d1_89)
  have V145 : Arv Z h144 b2 k2 (.object "com/example/guarantee/guarantee/model/Expression$Operator") (35 : Int32) [(.ref (r 0)), (.ref (r 1)), (.ref (r 2)), (.ref (r 3)), (.ref (r 4)), (.ref (r 5)), (.ref (r 6)), (.ref (r 7)), (.ref (r 8)), (.ref (r 9)), (.ref (r 10)), (.ref (r 11)), (.ref (r 12)), .null, .null, .null, .null, .null, .null, .null, .null, .null, .null, .null, .null, .null, .null, .null, .null, .null, .null, .null, .null, .null, .null] .null := Arv.set Ar143 kq143 Sz143 Nn143 Hs143 Gf143 rfl W144 12 rfl (Nat.le_of_ble_eq_true rfl)
  have O146 := O135.wr W144 gn_b2
  have Z147 := Nat.le_trans Z136 (Nat.le_of_eq W144.size.symm)
  have K148 := K137.wr W144 (Or.inr sz_b2)
  have N149 := Fr.snoc X144 N138 gn_b2
  have go150 : Goes p e below s₁ (entryFrame m #[] 0) T144 (mkF m 90 #[] [(.ref b2)]) := fun t k => go142 t (st144 t k)
  have go151 : Goes p e below s₁ (entryFrame m #[] 0) T144 (mkF m 93 #[] [(.int (13 : Int32)), (.ref b2), (.ref b2)]) := fun t k => by
    refine go150 t ?_
    refine XS.dup X144.here hx rfl (hb hby d1_90) rfl rfl ?_
    show Steps p.tables e below (T144.setTop (mkF m 91 #[] [(.ref b2), (.ref b2)])) _
    refine XS.bipush X144.here hx rfl (hb hby d1_91) ?_
    show Steps p.tables e below (T144.setTop (mkF m 93 #[] [(.int (13 : Int32)), (.ref b2), (.ref b2)])) _
    exact k
  obtain ⟨T152, X152, e152, st152⟩ := getS2 X144 hx hZ hown (host := "") (Or.inl (hw _ (List.mem_of_getElem? (i := 34) rfl))) Via.refl e144 (S_NOT.ext O146.2) (g := (mkF m 93 #[] [(.int (13 : Int32)), (.ref b2), (.ref b2)])) rfl (hb hby d1_93)
  have go153 : Goes p e below s₁ (entryFrame m #[] 0) T152 (mkF m 96 #[] [(.ref (r 13)), (.int (13 : Int32)), (.ref b2), (.ref b2)]) := fun t k => go151 t (st152 t k)
  obtain ⟨cl154, Ar154, kq154, Sz154, Nn154, Hs154, Gf154⟩ := V145
  have hin154 : ¬ ((13 : Int32) < 0 ∨ cl154.slots.size ≤ ((13 : Int32)).toNatClampNeg) := inb_of Sz154 ⟨by decide, by decide⟩
  obtain ⟨T155, h155, X155, e155, W155, st155⟩ := stR X152 hx hZ e152 Ar154 (j := (13 : Int32)) hin154 rfl (Sto.ofV Ar154 kq154 Ov2 (Ins.self ((HE 13 (by unfold own_K; decide)).ext O146.2))) (g := (mkF m 96 #[] [(.ref (r 13)), (.int (13 : Int32)), (.ref b2), (.ref b2)])) rfl rfl (hb hby d1_96)
  have V156 : Arv Z h155 b2 k2 (.object "com/example/guarantee/guarantee/model/Expression$Operator") (35 : Int32) [(.ref (r 0)), (.ref (r 1)), (.ref (r 2)), (.ref (r 3)), (.ref (r 4)), (.ref (r 5)), (.ref (r 6)), (.ref (r 7)), (.ref (r 8)), (.ref (r 9)), (.ref (r 10)), (.ref (r 11)), (.ref (r 12)), (.ref (r 13)), .null, .null, .null, .null, .null, .null, .null, .null, .null, .null, .null, .null, .null, .null, .null, .null, .null, .null, .null, .null, .null] .null := Arv.set Ar154 kq154 Sz154 Nn154 Hs154 Gf154 rfl W155 13 rfl (Nat.le_of_ble_eq_true rfl)
  have O157 := O146.wr W155 gn_b2
  have Z158 := Nat.le_trans Z147 (Nat.le_of_eq W155.size.symm)
  have K159 := K148.wr W155 (Or.inr sz_b2)
  have N160 := Fr.snoc X155 N149 gn_b2
  have go161 : Goes p e below s₁ (entryFrame m #[] 0) T155 (mkF m 97 #[] [(.ref b2)]) := fun t k => go153 t (st155 t k)
  have go162 : Goes p e below s₁ (entryFrame m #[] 0) T155 (mkF m 100 #[] [(.int (14 : Int32)), (.ref b2), (.ref b2)]) := fun t k => by
    refine go161 t ?_
    refine XS.dup X155.here hx rfl (hb hby d1_97) rfl rfl ?_
    show Steps p.tables e below (T155.setTop (mkF m 98 #[] [(.ref b2), (.ref b2)])) _
    refine XS.bipush X155.here hx rfl (hb hby d1_98) ?_
    show Steps p.tables e below (T155.setTop (mkF m 100 #[] [(.int (14 : Int32)), (.ref b2), (.ref b2)])) _
    exact k
  obtain ⟨T163, X163, e163, st163⟩ := getS2 X155 hx hZ hown (host := "") (Or.inl (hw _ (List.mem_of_getElem? (i := 36) rfl))) Via.refl e155 (S_NEGATE.ext O157.2) (g := (mkF m 100 #[] [(.int (14 : Int32)), (.ref b2), (.ref b2)])) rfl (hb hby d1_100)
  have go164 : Goes p e below s₁ (entryFrame m #[] 0) T163 (mkF m 103 #[] [(.ref (r 14)), (.int (14 : Int32)), (.ref b2), (.ref b2)]) := fun t k => go162 t (st163 t k)
  obtain ⟨cl165, Ar165, kq165, Sz165, Nn165, Hs165, Gf165⟩ := V156
  have hin165 : ¬ ((14 : Int32) < 0 ∨ cl165.slots.size ≤ ((14 : Int32)).toNatClampNeg) := inb_of Sz165 ⟨by decide, by decide⟩
  obtain ⟨T166, h166, X166, e166, W166, st166⟩ := stR X163 hx hZ e163 Ar165 (j := (14 : Int32)) hin165 rfl (Sto.ofV Ar165 kq165 Ov2 (Ins.self ((HE 14 (by unfold own_K; decide)).ext O157.2))) (g := (mkF m 103 #[] [(.ref (r 14)), (.int (14 : Int32)), (.ref b2), (.ref b2)])) rfl rfl (hb hby d1_103)
  have V167 : Arv Z h166 b2 k2 (.object "com/example/guarantee/guarantee/model/Expression$Operator") (35 : Int32) [(.ref (r 0)), (.ref (r 1)), (.ref (r 2)), (.ref (r 3)), (.ref (r 4)), (.ref (r 5)), (.ref (r 6)), (.ref (r 7)), (.ref (r 8)), (.ref (r 9)), (.ref (r 10)), (.ref (r 11)), (.ref (r 12)), (.ref (r 13)), (.ref (r 14)), .null, .null, .null, .null, .null, .null, .null, .null, .null, .null, .null, .null, .null, .null, .null, .null, .null, .null, .null, .null] .null := Arv.set Ar165 kq165 Sz165 Nn165 Hs165 Gf165 rfl W166 14 rfl (Nat.le_of_ble_eq_true rfl)
  have O168 := O157.wr W166 gn_b2
  have Z169 := Nat.le_trans Z158 (Nat.le_of_eq W166.size.symm)
  have K170 := K159.wr W166 (Or.inr sz_b2)
  have N171 := Fr.snoc X166 N160 gn_b2
  have go172 : Goes p e below s₁ (entryFrame m #[] 0) T166 (mkF m 104 #[] [(.ref b2)]) := fun t k => go164 t (st166 t k)
  have go173 : Goes p e below s₁ (entryFrame m #[] 0) T166 (mkF m 107 #[] [(.int (15 : Int32)), (.ref b2), (.ref b2)]) := fun t k => by
    refine go172 t ?_
    refine XS.dup X166.here hx rfl (hb hby d1_104) rfl rfl ?_
    show Steps p.tables e below (T166.setTop (mkF m 105 #[] [(.ref b2), (.ref b2)])) _
    refine XS.bipush X166.here hx rfl (hb hby d1_105) ?_
    show Steps p.tables e below (T166.setTop (mkF m 107 #[] [(.int (15 : Int32)), (.ref b2), (.ref b2)])) _
    exact k
  obtain ⟨T174, X174, e174, st174⟩ := getS2 X166 hx hZ hown (host := "") (Or.inl (hw _ (List.mem_of_getElem? (i := 38) rfl))) Via.refl e166 (S_NEXT.ext O168.2) (g := (mkF m 107 #[] [(.int (15 : Int32)), (.ref b2), (.ref b2)])) rfl (hb hby d1_107)
  have go175 : Goes p e below s₁ (entryFrame m #[] 0) T174 (mkF m 110 #[] [(.ref (r 15)), (.int (15 : Int32)), (.ref b2), (.ref b2)]) := fun t k => go173 t (st174 t k)
  obtain ⟨cl176, Ar176, kq176, Sz176, Nn176, Hs176, Gf176⟩ := V167
  have hin176 : ¬ ((15 : Int32) < 0 ∨ cl176.slots.size ≤ ((15 : Int32)).toNatClampNeg) := inb_of Sz176 ⟨by decide, by decide⟩
  obtain ⟨T177, h177, X177, e177, W177, st177⟩ := stR X174 hx hZ e174 Ar176 (j := (15 : Int32)) hin176 rfl (Sto.ofV Ar176 kq176 Ov2 (Ins.self ((HE 15 (by unfold own_K; decide)).ext O168.2))) (g := (mkF m 110 #[] [(.ref (r 15)), (.int (15 : Int32)), (.ref b2), (.ref b2)])) rfl rfl (hb hby d1_110)
  have V178 : Arv Z h177 b2 k2 (.object "com/example/guarantee/guarantee/model/Expression$Operator") (35 : Int32) [(.ref (r 0)), (.ref (r 1)), (.ref (r 2)), (.ref (r 3)), (.ref (r 4)), (.ref (r 5)), (.ref (r 6)), (.ref (r 7)), (.ref (r 8)), (.ref (r 9)), (.ref (r 10)), (.ref (r 11)), (.ref (r 12)), (.ref (r 13)), (.ref (r 14)), (.ref (r 15)), .null, .null, .null, .null, .null, .null, .null, .null, .null, .null, .null, .null, .null, .null, .null, .null, .null, .null, .null] .null := Arv.set Ar176 kq176 Sz176 Nn176 Hs176 Gf176 rfl W177 15 rfl (Nat.le_of_ble_eq_true rfl)
  have O179 := O168.wr W177 gn_b2
  have Z180 := Nat.le_trans Z169 (Nat.le_of_eq W177.size.symm)
  have K181 := K170.wr W177 (Or.inr sz_b2)
  have N182 := Fr.snoc X177 N171 gn_b2
  have go183 : Goes p e below s₁ (entryFrame m #[] 0) T177 (mkF m 111 #[] [(.ref b2)]) := fun t k => go175 t (st177 t k)
  have go184 : Goes p e below s₁ (entryFrame m #[] 0) T177 (mkF m 114 #[] [(.int (16 : Int32)), (.ref b2), (.ref b2)]) := fun t k => by
    refine go183 t ?_
    refine XS.dup X177.here hx rfl (hb hby d1_111) rfl rfl ?_
    show Steps p.tables e below (T177.setTop (mkF m 112 #[] [(.ref b2), (.ref b2)])) _
    refine XS.bipush X177.here hx rfl (hb hby d1_112) ?_
    show Steps p.tables e below (T177.setTop (mkF m 114 #[] [(.int (16 : Int32)), (.ref b2), (.ref b2)])) _
    exact k
  obtain ⟨T185, X185, e185, st185⟩ := getS2 X177 hx hZ hown (host := "") (Or.inl (hw _ (List.mem_of_getElem? (i := 40) rfl))) Via.refl e177 (S_PREV.ext O179.2) (g := (mkF m 114 #[] [(.int (16 : Int32)), (.ref b2), (.ref b2)])) rfl (hb hby d1_114)
  have go186 : Goes p e below s₁ (entryFrame m #[] 0) T185 (mkF m 117 #[] [(.ref (r 16)), (.int (16 : Int32)), (.ref b2), (.ref b2)]) := fun t k => go184 t (st185 t k)
  obtain ⟨cl187, Ar187, kq187, Sz187, Nn187, Hs187, Gf187⟩ := V178
  have hin187 : ¬ ((16 : Int32) < 0 ∨ cl187.slots.size ≤ ((16 : Int32)).toNatClampNeg) := inb_of Sz187 ⟨by decide, by decide⟩
  obtain ⟨T188, h188, X188, e188, W188, st188⟩ := stR X185 hx hZ e185 Ar187 (j := (16 : Int32)) hin187 rfl (Sto.ofV Ar187 kq187 Ov2 (Ins.self ((HE 16 (by unfold own_K; decide)).ext O179.2))) (g := (mkF m 117 #[] [(.ref (r 16)), (.int (16 : Int32)), (.ref b2), (.ref b2)])) rfl rfl (hb hby d1_117)
  have V189 : Arv Z h188 b2 k2 (.object "com/example/guarantee/guarantee/model/Expression$Operator") (35 : Int32) [(.ref (r 0)), (.ref (r 1)), (.ref (r 2)), (.ref (r 3)), (.ref (r 4)), (.ref (r 5)), (.ref (r 6)), (.ref (r 7)), (.ref (r 8)), (.ref (r 9)), (.ref (r 10)), (.ref (r 11)), (.ref (r 12)), (.ref (r 13)), (.ref (r 14)), (.ref (r 15)), (.ref (r 16)), .null, .null, .null, .null, .null, .null, .null, .null, .null, .null, .null, .null, .null, .null, .null, .null, .null, .null] .null := Arv.set Ar187 kq187 Sz187 Nn187 Hs187 Gf187 rfl W188 16 rfl (Nat.le_of_ble_eq_true rfl)
  have O190 := O179.wr W188 gn_b2
  have Z191 := Nat.le_trans Z180 (Nat.le_of_eq W188.size.symm)
  have K192 := K181.wr W188 (Or.inr sz_b2)
  have N193 := Fr.snoc X188 N182 gn_b2
  have go194 : Goes p e below s₁ (entryFrame m #[] 0) T188 (mkF m 118 #[] [(.ref b2)]) := fun t k => go186 t (st188 t k)
  have go195 : Goes p e below s₁ (entryFrame m #[] 0) T188 (mkF m 121 #[] [(.int (17 : Int32)), (.ref b2), (.ref b2)]) := fun t k => by
    refine go194 t ?_
    refine XS.dup X188.here hx rfl (hb hby d1_118) rfl rfl ?_
    show Steps p.tables e below (T188.setTop (mkF m 119 #[] [(.ref b2), (.ref b2)])) _
    refine XS.bipush X188.here hx rfl (hb hby d1_119) ?_
    show Steps p.tables e below (T188.setTop (mkF m 121 #[] [(.int (17 : Int32)), (.ref b2), (.ref b2)])) _
    exact k
  obtain ⟨T196, X196, e196, st196⟩ := getS2 X188 hx hZ hown (host := "") (Or.inl (hw _ (List.mem_of_getElem? (i := 42) rfl))) Via.refl e188 (S_ONCE.ext O190.2) (g := (mkF m 121 #[] [(.int (17 : Int32)), (.ref b2), (.ref b2)])) rfl (hb hby d1_121)
  have go197 : Goes p e below s₁ (entryFrame m #[] 0) T196 (mkF m 124 #[] [(.ref (r 17)), (.int (17 : Int32)), (.ref b2), (.ref b2)]) := fun t k => go195 t (st196 t k)
  obtain ⟨cl198, Ar198, kq198, Sz198, Nn198, Hs198, Gf198⟩ := V189
  have hin198 : ¬ ((17 : Int32) < 0 ∨ cl198.slots.size ≤ ((17 : Int32)).toNatClampNeg) := inb_of Sz198 ⟨by decide, by decide⟩
  obtain ⟨T199, h199, X199, e199, W199, st199⟩ := stR X196 hx hZ e196 Ar198 (j := (17 : Int32)) hin198 rfl (Sto.ofV Ar198 kq198 Ov2 (Ins.self ((HE 17 (by unfold own_K; decide)).ext O190.2))) (g := (mkF m 124 #[] [(.ref (r 17)), (.int (17 : Int32)), (.ref b2), (.ref b2)])) rfl rfl (hb hby d1_124)
  have V200 : Arv Z h199 b2 k2 (.object "com/example/guarantee/guarantee/model/Expression$Operator") (35 : Int32) [(.ref (r 0)), (.ref (r 1)), (.ref (r 2)), (.ref (r 3)), (.ref (r 4)), (.ref (r 5)), (.ref (r 6)), (.ref (r 7)), (.ref (r 8)), (.ref (r 9)), (.ref (r 10)), (.ref (r 11)), (.ref (r 12)), (.ref (r 13)), (.ref (r 14)), (.ref (r 15)), (.ref (r 16)), (.ref (r 17)), .null, .null, .null, .null, .null, .null, .null, .null, .null, .null, .null, .null, .null, .null, .null, .null, .null] .null := Arv.set Ar198 kq198 Sz198 Nn198 Hs198 Gf198 rfl W199 17 rfl (Nat.le_of_ble_eq_true rfl)
  have O201 := O190.wr W199 gn_b2
  have Z202 := Nat.le_trans Z191 (Nat.le_of_eq W199.size.symm)
  have K203 := K192.wr W199 (Or.inr sz_b2)
  have N204 := Fr.snoc X199 N193 gn_b2
  have go205 : Goes p e below s₁ (entryFrame m #[] 0) T199 (mkF m 125 #[] [(.ref b2)]) := fun t k => go197 t (st199 t k)
  have go206 : Goes p e below s₁ (entryFrame m #[] 0) T199 (mkF m 128 #[] [(.int (18 : Int32)), (.ref b2), (.ref b2)]) := fun t k => by
    refine go205 t ?_
    refine XS.dup X199.here hx rfl (hb hby d1_125) rfl rfl ?_
    show Steps p.tables e below (T199.setTop (mkF m 126 #[] [(.ref b2), (.ref b2)])) _
    refine XS.bipush X199.here hx rfl (hb hby d1_126) ?_
    show Steps p.tables e below (T199.setTop (mkF m 128 #[] [(.int (18 : Int32)), (.ref b2), (.ref b2)])) _
    exact k
  obtain ⟨T207, X207, e207, st207⟩ := getS2 X199 hx hZ hown (host := "") (Or.inl (hw _ (List.mem_of_getElem? (i := 44) rfl))) Via.refl e199 (S_HISTORICALLY.ext O201.2) (g := (mkF m 128 #[] [(.int (18 : Int32)), (.ref b2), (.ref b2)])) rfl (hb hby d1_128)
  have go208 : Goes p e below s₁ (entryFrame m #[] 0) T207 (mkF m 131 #[] [(.ref (r 18)), (.int (18 : Int32)), (.ref b2), (.ref b2)]) := fun t k => go206 t (st207 t k)
  obtain ⟨cl209, Ar209, kq209, Sz209, Nn209, Hs209, Gf209⟩ := V200
  have hin209 : ¬ ((18 : Int32) < 0 ∨ cl209.slots.size ≤ ((18 : Int32)).toNatClampNeg) := inb_of Sz209 ⟨by decide, by decide⟩
  obtain ⟨T210, h210, X210, e210, W210, st210⟩ := stR X207 hx hZ e207 Ar209 (j := (18 : Int32)) hin209 rfl (Sto.ofV Ar209 kq209 Ov2 (Ins.self ((HE 18 (by unfold own_K; decide)).ext O201.2))) (g := (mkF m 131 #[] [(.ref (r 18)), (.int (18 : Int32)), (.ref b2), (.ref b2)])) rfl rfl (hb hby d1_131)
  have V211 : Arv Z h210 b2 k2 (.object "com/example/guarantee/guarantee/model/Expression$Operator") (35 : Int32) [(.ref (r 0)), (.ref (r 1)), (.ref (r 2)), (.ref (r 3)), (.ref (r 4)), (.ref (r 5)), (.ref (r 6)), (.ref (r 7)), (.ref (r 8)), (.ref (r 9)), (.ref (r 10)), (.ref (r 11)), (.ref (r 12)), (.ref (r 13)), (.ref (r 14)), (.ref (r 15)), (.ref (r 16)), (.ref (r 17)), (.ref (r 18)), .null, .null, .null, .null, .null, .null, .null, .null, .null, .null, .null, .null, .null, .null, .null, .null] .null := Arv.set Ar209 kq209 Sz209 Nn209 Hs209 Gf209 rfl W210 18 rfl (Nat.le_of_ble_eq_true rfl)
  have O212 := O201.wr W210 gn_b2
  have Z213 := Nat.le_trans Z202 (Nat.le_of_eq W210.size.symm)
  have K214 := K203.wr W210 (Or.inr sz_b2)
  have N215 := Fr.snoc X210 N204 gn_b2
  have go216 : Goes p e below s₁ (entryFrame m #[] 0) T210 (mkF m 132 #[] [(.ref b2)]) := fun t k => go208 t (st210 t k)
  have go217 : Goes p e below s₁ (entryFrame m #[] 0) T210 (mkF m 135 #[] [(.int (19 : Int32)), (.ref b2), (.ref b2)]) := fun t k => by
    refine go216 t ?_
    refine XS.dup X210.here hx rfl (hb hby d1_132) rfl rfl ?_
    show Steps p.tables e below (T210.setTop (mkF m 133 #[] [(.ref b2), (.ref b2)])) _
    refine XS.bipush X210.here hx rfl (hb hby d1_133) ?_
    show Steps p.tables e below (T210.setTop (mkF m 135 #[] [(.int (19 : Int32)), (.ref b2), (.ref b2)])) _
    exact k
  obtain ⟨T218, X218, e218, st218⟩ := getS2 X210 hx hZ hown (host := "") (Or.inl (hw _ (List.mem_of_getElem? (i := 46) rfl))) Via.refl e210 (S_TIMES.ext O212.2) (g := (mkF m 135 #[] [(.int (19 : Int32)), (.ref b2), (.ref b2)])) rfl (hb hby d1_135)
  have go219 : Goes p e below s₁ (entryFrame m #[] 0) T218 (mkF m 138 #[] [(.ref (r 19)), (.int (19 : Int32)), (.ref b2), (.ref b2)]) := fun t k => go217 t (st218 t k)
  obtain ⟨cl220, Ar220, kq220, Sz220, Nn220, Hs220, Gf220⟩ := V211
  have hin220 : ¬ ((19 : Int32) < 0 ∨ cl220.slots.size ≤ ((19 : Int32)).toNatClampNeg) := inb_of Sz220 ⟨by decide, by decide⟩
  obtain ⟨T221, h221, X221, e221, W221, st221⟩ := stR X218 hx hZ e218 Ar220 (j := (19 : Int32)) hin220 rfl (Sto.ofV Ar220 kq220 Ov2 (Ins.self ((HE 19 (by unfold own_K; decide)).ext O212.2))) (g := (mkF m 138 #[] [(.ref (r 19)), (.int (19 : Int32)), (.ref b2), (.ref b2)])) rfl rfl (hb hby d1_138)
  have V222 : Arv Z h221 b2 k2 (.object "com/example/guarantee/guarantee/model/Expression$Operator") (35 : Int32) [(.ref (r 0)), (.ref (r 1)), (.ref (r 2)), (.ref (r 3)), (.ref (r 4)), (.ref (r 5)), (.ref (r 6)), (.ref (r 7)), (.ref (r 8)), (.ref (r 9)), (.ref (r 10)), (.ref (r 11)), (.ref (r 12)), (.ref (r 13)), (.ref (r 14)), (.ref (r 15)), (.ref (r 16)), (.ref (r 17)), (.ref (r 18)), (.ref (r 19)), .null, .null, .null, .null, .null, .null, .null, .null, .null, .null, .null, .null, .null, .null, .null] .null := Arv.set Ar220 kq220 Sz220 Nn220 Hs220 Gf220 rfl W221 19 rfl (Nat.le_of_ble_eq_true rfl)
  have O223 := O212.wr W221 gn_b2
  have Z224 := Nat.le_trans Z213 (Nat.le_of_eq W221.size.symm)
  have K225 := K214.wr W221 (Or.inr sz_b2)
  have N226 := Fr.snoc X221 N215 gn_b2
  have go227 : Goes p e below s₁ (entryFrame m #[] 0) T221 (mkF m 139 #[] [(.ref b2)]) := fun t k => go219 t (st221 t k)
  have go228 : Goes p e below s₁ (entryFrame m #[] 0) T221 (mkF m 142 #[] [(.int (20 : Int32)), (.ref b2), (.ref b2)]) := fun t k => by
    refine go227 t ?_
    refine XS.dup X221.here hx rfl (hb hby d1_139) rfl rfl ?_
    show Steps p.tables e below (T221.setTop (mkF m 140 #[] [(.ref b2), (.ref b2)])) _
    refine XS.bipush X221.here hx rfl (hb hby d1_140) ?_
    show Steps p.tables e below (T221.setTop (mkF m 142 #[] [(.int (20 : Int32)), (.ref b2), (.ref b2)])) _
    exact k
  obtain ⟨T229, X229, e229, st229⟩ := getS2 X221 hx hZ hown (host := "") (Or.inl (hw _ (List.mem_of_getElem? (i := 48) rfl))) Via.refl e221 (S_DIVIDE.ext O223.2) (g := (mkF m 142 #[] [(.int (20 : Int32)), (.ref b2), (.ref b2)])) rfl (hb hby d1_142)
  have go230 : Goes p e below s₁ (entryFrame m #[] 0) T229 (mkF m 145 #[] [(.ref (r 20)), (.int (20 : Int32)), (.ref b2), (.ref b2)]) := fun t k => go228 t (st229 t k)
  obtain ⟨cl231, Ar231, kq231, Sz231, Nn231, Hs231, Gf231⟩ := V222
  have hin231 : ¬ ((20 : Int32) < 0 ∨ cl231.slots.size ≤ ((20 : Int32)).toNatClampNeg) := inb_of Sz231 ⟨by decide, by decide⟩
  obtain ⟨T232, h232, X232, e232, W232, st232⟩ := stR X229 hx hZ e229 Ar231 (j := (20 : Int32)) hin231 rfl (Sto.ofV Ar231 kq231 Ov2 (Ins.self ((HE 20 (by unfold own_K; decide)).ext O223.2))) (g := (mkF m 145 #[] [(.ref (r 20)), (.int (20 : Int32)), (.ref b2), (.ref b2)])) rfl rfl (hb hby d1_145)
  have V233 : Arv Z h232 b2 k2 (.object "com/example/guarantee/guarantee/model/Expression$Operator") (35 : Int32) [(.ref (r 0)), (.ref (r 1)), (.ref (r 2)), (.ref (r 3)), (.ref (r 4)), (.ref (r 5)), (.ref (r 6)), (.ref (r 7)), (.ref (r 8)), (.ref (r 9)), (.ref (r 10)), (.ref (r 11)), (.ref (r 12)), (.ref (r 13)), (.ref (r 14)), (.ref (r 15)), (.ref (r 16)), (.ref (r 17)), (.ref (r 18)), (.ref (r 19)), (.ref (r 20)), .null, .null, .null, .null, .null, .null, .null, .null, .null, .null, .null, .null, .null, .null] .null := Arv.set Ar231 kq231 Sz231 Nn231 Hs231 Gf231 rfl W232 20 rfl (Nat.le_of_ble_eq_true rfl)
  have O234 := O223.wr W232 gn_b2
  have Z235 := Nat.le_trans Z224 (Nat.le_of_eq W232.size.symm)
  have K236 := K225.wr W232 (Or.inr sz_b2)
  have N237 := Fr.snoc X232 N226 gn_b2
  have go238 : Goes p e below s₁ (entryFrame m #[] 0) T232 (mkF m 146 #[] [(.ref b2)]) := fun t k => go230 t (st232 t k)
  have go239 : Goes p e below s₁ (entryFrame m #[] 0) T232 (mkF m 149 #[] [(.int (21 : Int32)), (.ref b2), (.ref b2)]) := fun t k => by
    refine go238 t ?_
    refine XS.dup X232.here hx rfl (hb hby d1_146) rfl rfl ?_
    show Steps p.tables e below (T232.setTop (mkF m 147 #[] [(.ref b2), (.ref b2)])) _
    refine XS.bipush X232.here hx rfl (hb hby d1_147) ?_
    show Steps p.tables e below (T232.setTop (mkF m 149 #[] [(.int (21 : Int32)), (.ref b2), (.ref b2)])) _
    exact k
  obtain ⟨T240, X240, e240, st240⟩ := getS2 X232 hx hZ hown (host := "") (Or.inl (hw _ (List.mem_of_getElem? (i := 50) rfl))) Via.refl e232 (S_MODULO.ext O234.2) (g := (mkF m 149 #[] [(.int (21 : Int32)), (.ref b2), (.ref b2)])) rfl (hb hby d1_149)
  have go241 : Goes p e below s₁ (entryFrame m #[] 0) T240 (mkF m 152 #[] [(.ref (r 21)), (.int (21 : Int32)), (.ref b2), (.ref b2)]) := fun t k => go239 t (st240 t k)
  obtain ⟨cl242, Ar242, kq242, Sz242, Nn242, Hs242, Gf242⟩ := V233
  have hin242 : ¬ ((21 : Int32) < 0 ∨ cl242.slots.size ≤ ((21 : Int32)).toNatClampNeg) := inb_of Sz242 ⟨by decide, by decide⟩
  obtain ⟨T243, h243, X243, e243, W243, st243⟩ := stR X240 hx hZ e240 Ar242 (j := (21 : Int32)) hin242 rfl (Sto.ofV Ar242 kq242 Ov2 (Ins.self ((HE 21 (by unfold own_K; decide)).ext O234.2))) (g := (mkF m 152 #[] [(.ref (r 21)), (.int (21 : Int32)), (.ref b2), (.ref b2)])) rfl rfl (hb hby d1_152)
  have V244 : Arv Z h243 b2 k2 (.object "com/example/guarantee/guarantee/model/Expression$Operator") (35 : Int32) [(.ref (r 0)), (.ref (r 1)), (.ref (r 2)), (.ref (r 3)), (.ref (r 4)), (.ref (r 5)), (.ref (r 6)), (.ref (r 7)), (.ref (r 8)), (.ref (r 9)), (.ref (r 10)), (.ref (r 11)), (.ref (r 12)), (.ref (r 13)), (.ref (r 14)), (.ref (r 15)), (.ref (r 16)), (.ref (r 17)), (.ref (r 18)), (.ref (r 19)), (.ref (r 20)), (.ref (r 21)), .null, .null, .null, .null, .null, .null, .null, .null, .null, .null, .null, .null, .null] .null := Arv.set Ar242 kq242 Sz242 Nn242 Hs242 Gf242 rfl W243 21 rfl (Nat.le_of_ble_eq_true rfl)
  have O245 := O234.wr W243 gn_b2
  have Z246 := Nat.le_trans Z235 (Nat.le_of_eq W243.size.symm)
  have K247 := K236.wr W243 (Or.inr sz_b2)
  have N248 := Fr.snoc X243 N237 gn_b2
  have go249 : Goes p e below s₁ (entryFrame m #[] 0) T243 (mkF m 153 #[] [(.ref b2)]) := fun t k => go241 t (st243 t k)
  have go250 : Goes p e below s₁ (entryFrame m #[] 0) T243 (mkF m 156 #[] [(.int (22 : Int32)), (.ref b2), (.ref b2)]) := fun t k => by
    refine go249 t ?_
    refine XS.dup X243.here hx rfl (hb hby d1_153) rfl rfl ?_
    show Steps p.tables e below (T243.setTop (mkF m 154 #[] [(.ref b2), (.ref b2)])) _
    refine XS.bipush X243.here hx rfl (hb hby d1_154) ?_
    show Steps p.tables e below (T243.setTop (mkF m 156 #[] [(.int (22 : Int32)), (.ref b2), (.ref b2)])) _
    exact k
  obtain ⟨T251, X251, e251, st251⟩ := getS2 X243 hx hZ hown (host := "") (Or.inl (hw _ (List.mem_of_getElem? (i := 52) rfl))) Via.refl e243 (S_PLUS.ext O245.2) (g := (mkF m 156 #[] [(.int (22 : Int32)), (.ref b2), (.ref b2)])) rfl (hb hby d1_156)
  have go252 : Goes p e below s₁ (entryFrame m #[] 0) T251 (mkF m 159 #[] [(.ref (r 22)), (.int (22 : Int32)), (.ref b2), (.ref b2)]) := fun t k => go250 t (st251 t k)
  obtain ⟨cl253, Ar253, kq253, Sz253, Nn253, Hs253, Gf253⟩ := V244
  have hin253 : ¬ ((22 : Int32) < 0 ∨ cl253.slots.size ≤ ((22 : Int32)).toNatClampNeg) := inb_of Sz253 ⟨by decide, by decide⟩
  obtain ⟨T254, h254, X254, e254, W254, st254⟩ := stR X251 hx hZ e251 Ar253 (j := (22 : Int32)) hin253 rfl (Sto.ofV Ar253 kq253 Ov2 (Ins.self ((HE 22 (by unfold own_K; decide)).ext O245.2))) (g := (mkF m 159 #[] [(.ref (r 22)), (.int (22 : Int32)), (.ref b2), (.ref b2)])) rfl rfl (hb hby d1_159)
  have V255 : Arv Z h254 b2 k2 (.object "com/example/guarantee/guarantee/model/Expression$Operator") (35 : Int32) [(.ref (r 0)), (.ref (r 1)), (.ref (r 2)), (.ref (r 3)), (.ref (r 4)), (.ref (r 5)), (.ref (r 6)), (.ref (r 7)), (.ref (r 8)), (.ref (r 9)), (.ref (r 10)), (.ref (r 11)), (.ref (r 12)), (.ref (r 13)), (.ref (r 14)), (.ref (r 15)), (.ref (r 16)), (.ref (r 17)), (.ref (r 18)), (.ref (r 19)), (.ref (r 20)), (.ref (r 21)), (.ref (r 22)), .null, .null, .null, .null, .null, .null, .null, .null, .null, .null, .null, .null] .null := Arv.set Ar253 kq253 Sz253 Nn253 Hs253 Gf253 rfl W254 22 rfl (Nat.le_of_ble_eq_true rfl)
  have O256 := O245.wr W254 gn_b2
  have Z257 := Nat.le_trans Z246 (Nat.le_of_eq W254.size.symm)
  have K258 := K247.wr W254 (Or.inr sz_b2)
  have N259 := Fr.snoc X254 N248 gn_b2
  have go260 : Goes p e below s₁ (entryFrame m #[] 0) T254 (mkF m 160 #[] [(.ref b2)]) := fun t k => go252 t (st254 t k)
  have go261 : Goes p e below s₁ (entryFrame m #[] 0) T254 (mkF m 163 #[] [(.int (23 : Int32)), (.ref b2), (.ref b2)]) := fun t k => by
    refine go260 t ?_
    refine XS.dup X254.here hx rfl (hb hby d1_160) rfl rfl ?_
    show Steps p.tables e below (T254.setTop (mkF m 161 #[] [(.ref b2), (.ref b2)])) _
    refine XS.bipush X254.here hx rfl (hb hby d1_161) ?_
    show Steps p.tables e below (T254.setTop (mkF m 163 #[] [(.int (23 : Int32)), (.ref b2), (.ref b2)])) _
    exact k
  obtain ⟨T262, X262, e262, st262⟩ := getS2 X254 hx hZ hown (host := "") (Or.inl (hw _ (List.mem_of_getElem? (i := 54) rfl))) Via.refl e254 (S_MINUS.ext O256.2) (g := (mkF m 163 #[] [(.int (23 : Int32)), (.ref b2), (.ref b2)])) rfl (hb hby d1_163)
  have go263 : Goes p e below s₁ (entryFrame m #[] 0) T262 (mkF m 166 #[] [(.ref (r 23)), (.int (23 : Int32)), (.ref b2), (.ref b2)]) := fun t k => go261 t (st262 t k)
  obtain ⟨cl264, Ar264, kq264, Sz264, Nn264, Hs264, Gf264⟩ := V255
  have hin264 : ¬ ((23 : Int32) < 0 ∨ cl264.slots.size ≤ ((23 : Int32)).toNatClampNeg) := inb_of Sz264 ⟨by decide, by decide⟩
  obtain ⟨T265, h265, X265, e265, W265, st265⟩ := stR X262 hx hZ e262 Ar264 (j := (23 : Int32)) hin264 rfl (Sto.ofV Ar264 kq264 Ov2 (Ins.self ((HE 23 (by unfold own_K; decide)).ext O256.2))) (g := (mkF m 166 #[] [(.ref (r 23)), (.int (23 : Int32)), (.ref b2), (.ref b2)])) rfl rfl (hb hby d1_166)
  have V266 : Arv Z h265 b2 k2 (.object "com/example/guarantee/guarantee/model/Expression$Operator") (35 : Int32) [(.ref (r 0)), (.ref (r 1)), (.ref (r 2)), (.ref (r 3)), (.ref (r 4)), (.ref (r 5)), (.ref (r 6)), (.ref (r 7)), (.ref (r 8)), (.ref (r 9)), (.ref (r 10)), (.ref (r 11)), (.ref (r 12)), (.ref (r 13)), (.ref (r 14)), (.ref (r 15)), (.ref (r 16)), (.ref (r 17)), (.ref (r 18)), (.ref (r 19)), (.ref (r 20)), (.ref (r 21)), (.ref (r 22)), (.ref (r 23)), .null, .null, .null, .null, .null, .null, .null, .null, .null, .null, .null] .null := Arv.set Ar264 kq264 Sz264 Nn264 Hs264 Gf264 rfl W265 23 rfl (Nat.le_of_ble_eq_true rfl)
  have O267 := O256.wr W265 gn_b2
  have Z268 := Nat.le_trans Z257 (Nat.le_of_eq W265.size.symm)
  have K269 := K258.wr W265 (Or.inr sz_b2)
  have N270 := Fr.snoc X265 N259 gn_b2
  have go271 : Goes p e below s₁ (entryFrame m #[] 0) T265 (mkF m 167 #[] [(.ref b2)]) := fun t k => go263 t (st265 t k)
  have go272 : Goes p e below s₁ (entryFrame m #[] 0) T265 (mkF m 170 #[] [(.int (24 : Int32)), (.ref b2), (.ref b2)]) := fun t k => by
    refine go271 t ?_
    refine XS.dup X265.here hx rfl (hb hby d1_167) rfl rfl ?_
    show Steps p.tables e below (T265.setTop (mkF m 168 #[] [(.ref b2), (.ref b2)])) _
    refine XS.bipush X265.here hx rfl (hb hby d1_168) ?_
    show Steps p.tables e below (T265.setTop (mkF m 170 #[] [(.int (24 : Int32)), (.ref b2), (.ref b2)])) _
    exact k
  obtain ⟨T273, X273, e273, st273⟩ := getS2 X265 hx hZ hown (host := "") (Or.inl (hw _ (List.mem_of_getElem? (i := 56) rfl))) Via.refl e265 (S_EQUALS.ext O267.2) (g := (mkF m 170 #[] [(.int (24 : Int32)), (.ref b2), (.ref b2)])) rfl (hb hby d1_170)
  have go274 : Goes p e below s₁ (entryFrame m #[] 0) T273 (mkF m 173 #[] [(.ref (r 24)), (.int (24 : Int32)), (.ref b2), (.ref b2)]) := fun t k => go272 t (st273 t k)
  obtain ⟨cl275, Ar275, kq275, Sz275, Nn275, Hs275, Gf275⟩ := V266
  have hin275 : ¬ ((24 : Int32) < 0 ∨ cl275.slots.size ≤ ((24 : Int32)).toNatClampNeg) := inb_of Sz275 ⟨by decide, by decide⟩
  obtain ⟨T276, h276, X276, e276, W276, st276⟩ := stR X273 hx hZ e273 Ar275 (j := (24 : Int32)) hin275 rfl (Sto.ofV Ar275 kq275 Ov2 (Ins.self ((HE 24 (by unfold own_K; decide)).ext O267.2))) (g := (mkF m 173 #[] [(.ref (r 24)), (.int (24 : Int32)), (.ref b2), (.ref b2)])) rfl rfl (hb hby d1_173)
  have V277 : Arv Z h276 b2 k2 (.object "com/example/guarantee/guarantee/model/Expression$Operator") (35 : Int32) [(.ref (r 0)), (.ref (r 1)), (.ref (r 2)), (.ref (r 3)), (.ref (r 4)), (.ref (r 5)), (.ref (r 6)), (.ref (r 7)), (.ref (r 8)), (.ref (r 9)), (.ref (r 10)), (.ref (r 11)), (.ref (r 12)), (.ref (r 13)), (.ref (r 14)), (.ref (r 15)), (.ref (r 16)), (.ref (r 17)), (.ref (r 18)), (.ref (r 19)), (.ref (r 20)), (.ref (r 21)), (.ref (r 22)), (.ref (r 23)), (.ref (r 24)), .null, .null, .null, .null, .null, .null, .null, .null, .null, .null] .null := Arv.set Ar275 kq275 Sz275 Nn275 Hs275 Gf275 rfl W276 24 rfl (Nat.le_of_ble_eq_true rfl)
  have O278 := O267.wr W276 gn_b2
  have Z279 := Nat.le_trans Z268 (Nat.le_of_eq W276.size.symm)
  have K280 := K269.wr W276 (Or.inr sz_b2)
  have N281 := Fr.snoc X276 N270 gn_b2
  have go282 : Goes p e below s₁ (entryFrame m #[] 0) T276 (mkF m 174 #[] [(.ref b2)]) := fun t k => go274 t (st276 t k)
  have go283 : Goes p e below s₁ (entryFrame m #[] 0) T276 (mkF m 177 #[] [(.int (25 : Int32)), (.ref b2), (.ref b2)]) := fun t k => by
    refine go282 t ?_
    refine XS.dup X276.here hx rfl (hb hby d1_174) rfl rfl ?_
    show Steps p.tables e below (T276.setTop (mkF m 175 #[] [(.ref b2), (.ref b2)])) _
    refine XS.bipush X276.here hx rfl (hb hby d1_175) ?_
    show Steps p.tables e below (T276.setTop (mkF m 177 #[] [(.int (25 : Int32)), (.ref b2), (.ref b2)])) _
    exact k
  obtain ⟨T284, X284, e284, st284⟩ := getS2 X276 hx hZ hown (host := "") (Or.inl (hw _ (List.mem_of_getElem? (i := 58) rfl))) Via.refl e276 (S_NOT_EQUALS.ext O278.2) (g := (mkF m 177 #[] [(.int (25 : Int32)), (.ref b2), (.ref b2)])) rfl (hb hby d1_177)
  have go285 : Goes p e below s₁ (entryFrame m #[] 0) T284 (mkF m 180 #[] [(.ref (r 25)), (.int (25 : Int32)), (.ref b2), (.ref b2)]) := fun t k => go283 t (st284 t k)
  obtain ⟨cl286, Ar286, kq286, Sz286, Nn286, Hs286, Gf286⟩ := V277
  have hin286 : ¬ ((25 : Int32) < 0 ∨ cl286.slots.size ≤ ((25 : Int32)).toNatClampNeg) := inb_of Sz286 ⟨by decide, by decide⟩
  obtain ⟨T287, h287, X287, e287, W287, st287⟩ := stR X284 hx hZ e284 Ar286 (j := (25 : Int32)) hin286 rfl (Sto.ofV Ar286 kq286 Ov2 (Ins.self ((HE 25 (by unfold own_K; decide)).ext O278.2))) (g := (mkF m 180 #[] [(.ref (r 25)), (.int (25 : Int32)), (.ref b2), (.ref b2)])) rfl rfl (hb hby d1_180)
  have V288 : Arv Z h287 b2 k2 (.object "com/example/guarantee/guarantee/model/Expression$Operator") (35 : Int32) [(.ref (r 0)), (.ref (r 1)), (.ref (r 2)), (.ref (r 3)), (.ref (r 4)), (.ref (r 5)), (.ref (r 6)), (.ref (r 7)), (.ref (r 8)), (.ref (r 9)), (.ref (r 10)), (.ref (r 11)), (.ref (r 12)), (.ref (r 13)), (.ref (r 14)), (.ref (r 15)), (.ref (r 16)), (.ref (r 17)), (.ref (r 18)), (.ref (r 19)), (.ref (r 20)), (.ref (r 21)), (.ref (r 22)), (.ref (r 23)), (.ref (r 24)), (.ref (r 25)), .null, .null, .null, .null, .null, .null, .null, .null, .null] .null := Arv.set Ar286 kq286 Sz286 Nn286 Hs286 Gf286 rfl W287 25 rfl (Nat.le_of_ble_eq_true rfl)
  have O289 := O278.wr W287 gn_b2
  have Z290 := Nat.le_trans Z279 (Nat.le_of_eq W287.size.symm)
  have K291 := K280.wr W287 (Or.inr sz_b2)
  have N292 := Fr.snoc X287 N281 gn_b2
  have go293 : Goes p e below s₁ (entryFrame m #[] 0) T287 (mkF m 181 #[] [(.ref b2)]) := fun t k => go285 t (st287 t k)
  have go294 : Goes p e below s₁ (entryFrame m #[] 0) T287 (mkF m 184 #[] [(.int (26 : Int32)), (.ref b2), (.ref b2)]) := fun t k => by
    refine go293 t ?_
    refine XS.dup X287.here hx rfl (hb hby d1_181) rfl rfl ?_
    show Steps p.tables e below (T287.setTop (mkF m 182 #[] [(.ref b2), (.ref b2)])) _
    refine XS.bipush X287.here hx rfl (hb hby d1_182) ?_
    show Steps p.tables e below (T287.setTop (mkF m 184 #[] [(.int (26 : Int32)), (.ref b2), (.ref b2)])) _
    exact k
  obtain ⟨T295, X295, e295, st295⟩ := getS2 X287 hx hZ hown (host := "") (Or.inl (hw _ (List.mem_of_getElem? (i := 60) rfl))) Via.refl e287 (S_LESS.ext O289.2) (g := (mkF m 184 #[] [(.int (26 : Int32)), (.ref b2), (.ref b2)])) rfl (hb hby d1_184)
  have go296 : Goes p e below s₁ (entryFrame m #[] 0) T295 (mkF m 187 #[] [(.ref (r 26)), (.int (26 : Int32)), (.ref b2), (.ref b2)]) := fun t k => go294 t (st295 t k)
  obtain ⟨cl297, Ar297, kq297, Sz297, Nn297, Hs297, Gf297⟩ := V288
  have hin297 : ¬ ((26 : Int32) < 0 ∨ cl297.slots.size ≤ ((26 : Int32)).toNatClampNeg) := inb_of Sz297 ⟨by decide, by decide⟩
  obtain ⟨T298, h298, X298, e298, W298, st298⟩ := stR X295 hx hZ e295 Ar297 (j := (26 : Int32)) hin297 rfl (Sto.ofV Ar297 kq297 Ov2 (Ins.self ((HE 26 (by unfold own_K; decide)).ext O289.2))) (g := (mkF m 187 #[] [(.ref (r 26)), (.int (26 : Int32)), (.ref b2), (.ref b2)])) rfl rfl (hb hby d1_187)
  have V299 : Arv Z h298 b2 k2 (.object "com/example/guarantee/guarantee/model/Expression$Operator") (35 : Int32) [(.ref (r 0)), (.ref (r 1)), (.ref (r 2)), (.ref (r 3)), (.ref (r 4)), (.ref (r 5)), (.ref (r 6)), (.ref (r 7)), (.ref (r 8)), (.ref (r 9)), (.ref (r 10)), (.ref (r 11)), (.ref (r 12)), (.ref (r 13)), (.ref (r 14)), (.ref (r 15)), (.ref (r 16)), (.ref (r 17)), (.ref (r 18)), (.ref (r 19)), (.ref (r 20)), (.ref (r 21)), (.ref (r 22)), (.ref (r 23)), (.ref (r 24)), (.ref (r 25)), (.ref (r 26)), .null, .null, .null, .null, .null, .null, .null, .null] .null := Arv.set Ar297 kq297 Sz297 Nn297 Hs297 Gf297 rfl W298 26 rfl (Nat.le_of_ble_eq_true rfl)
  have O300 := O289.wr W298 gn_b2
  have Z301 := Nat.le_trans Z290 (Nat.le_of_eq W298.size.symm)
  have K302 := K291.wr W298 (Or.inr sz_b2)
  have N303 := Fr.snoc X298 N292 gn_b2
  have go304 : Goes p e below s₁ (entryFrame m #[] 0) T298 (mkF m 188 #[] [(.ref b2)]) := fun t k => go296 t (st298 t k)
  have go305 : Goes p e below s₁ (entryFrame m #[] 0) T298 (mkF m 191 #[] [(.int (27 : Int32)), (.ref b2), (.ref b2)]) := fun t k => by
    refine go304 t ?_
    refine XS.dup X298.here hx rfl (hb hby d1_188) rfl rfl ?_
    show Steps p.tables e below (T298.setTop (mkF m 189 #[] [(.ref b2), (.ref b2)])) _
    refine XS.bipush X298.here hx rfl (hb hby d1_189) ?_
    show Steps p.tables e below (T298.setTop (mkF m 191 #[] [(.int (27 : Int32)), (.ref b2), (.ref b2)])) _
    exact k
  obtain ⟨T306, X306, e306, st306⟩ := getS2 X298 hx hZ hown (host := "") (Or.inl (hw _ (List.mem_of_getElem? (i := 62) rfl))) Via.refl e298 (S_LESS_EQUAL.ext O300.2) (g := (mkF m 191 #[] [(.int (27 : Int32)), (.ref b2), (.ref b2)])) rfl (hb hby d1_191)
  have go307 : Goes p e below s₁ (entryFrame m #[] 0) T306 (mkF m 194 #[] [(.ref (r 27)), (.int (27 : Int32)), (.ref b2), (.ref b2)]) := fun t k => go305 t (st306 t k)
  obtain ⟨cl308, Ar308, kq308, Sz308, Nn308, Hs308, Gf308⟩ := V299
  have hin308 : ¬ ((27 : Int32) < 0 ∨ cl308.slots.size ≤ ((27 : Int32)).toNatClampNeg) := inb_of Sz308 ⟨by decide, by decide⟩
  obtain ⟨T309, h309, X309, e309, W309, st309⟩ := stR X306 hx hZ e306 Ar308 (j := (27 : Int32)) hin308 rfl (Sto.ofV Ar308 kq308 Ov2 (Ins.self ((HE 27 (by unfold own_K; decide)).ext O300.2))) (g := (mkF m 194 #[] [(.ref (r 27)), (.int (27 : Int32)), (.ref b2), (.ref b2)])) rfl rfl (hb hby d1_194)
  have V310 : Arv Z h309 b2 k2 (.object "com/example/guarantee/guarantee/model/Expression$Operator") (35 : Int32) [(.ref (r 0)), (.ref (r 1)), (.ref (r 2)), (.ref (r 3)), (.ref (r 4)), (.ref (r 5)), (.ref (r 6)), (.ref (r 7)), (.ref (r 8)), (.ref (r 9)), (.ref (r 10)), (.ref (r 11)), (.ref (r 12)), (.ref (r 13)), (.ref (r 14)), (.ref (r 15)), (.ref (r 16)), (.ref (r 17)), (.ref (r 18)), (.ref (r 19)), (.ref (r 20)), (.ref (r 21)), (.ref (r 22)), (.ref (r 23)), (.ref (r 24)), (.ref (r 25)), (.ref (r 26)), (.ref (r 27)), .null, .null, .null, .null, .null, .null, .null] .null := Arv.set Ar308 kq308 Sz308 Nn308 Hs308 Gf308 rfl W309 27 rfl (Nat.le_of_ble_eq_true rfl)
  have O311 := O300.wr W309 gn_b2
  have Z312 := Nat.le_trans Z301 (Nat.le_of_eq W309.size.symm)
  have K313 := K302.wr W309 (Or.inr sz_b2)
  have N314 := Fr.snoc X309 N303 gn_b2
  have go315 : Goes p e below s₁ (entryFrame m #[] 0) T309 (mkF m 195 #[] [(.ref b2)]) := fun t k => go307 t (st309 t k)
  have go316 : Goes p e below s₁ (entryFrame m #[] 0) T309 (mkF m 198 #[] [(.int (28 : Int32)), (.ref b2), (.ref b2)]) := fun t k => by
    refine go315 t ?_
    refine XS.dup X309.here hx rfl (hb hby d1_195) rfl rfl ?_
    show Steps p.tables e below (T309.setTop (mkF m 196 #[] [(.ref b2), (.ref b2)])) _
    refine XS.bipush X309.here hx rfl (hb hby d1_196) ?_
    show Steps p.tables e below (T309.setTop (mkF m 198 #[] [(.int (28 : Int32)), (.ref b2), (.ref b2)])) _
    exact k
  obtain ⟨T317, X317, e317, st317⟩ := getS2 X309 hx hZ hown (host := "") (Or.inl (hw _ (List.mem_of_getElem? (i := 64) rfl))) Via.refl e309 (S_GREATER.ext O311.2) (g := (mkF m 198 #[] [(.int (28 : Int32)), (.ref b2), (.ref b2)])) rfl (hb hby d1_198)
  have go318 : Goes p e below s₁ (entryFrame m #[] 0) T317 (mkF m 201 #[] [(.ref (r 28)), (.int (28 : Int32)), (.ref b2), (.ref b2)]) := fun t k => go316 t (st317 t k)
  obtain ⟨cl319, Ar319, kq319, Sz319, Nn319, Hs319, Gf319⟩ := V310
  have hin319 : ¬ ((28 : Int32) < 0 ∨ cl319.slots.size ≤ ((28 : Int32)).toNatClampNeg) := inb_of Sz319 ⟨by decide, by decide⟩
  obtain ⟨T320, h320, X320, e320, W320, st320⟩ := stR X317 hx hZ e317 Ar319 (j := (28 : Int32)) hin319 rfl (Sto.ofV Ar319 kq319 Ov2 (Ins.self ((HE 28 (by unfold own_K; decide)).ext O311.2))) (g := (mkF m 201 #[] [(.ref (r 28)), (.int (28 : Int32)), (.ref b2), (.ref b2)])) rfl rfl (hb hby d1_201)
  have V321 : Arv Z h320 b2 k2 (.object "com/example/guarantee/guarantee/model/Expression$Operator") (35 : Int32) [(.ref (r 0)), (.ref (r 1)), (.ref (r 2)), (.ref (r 3)), (.ref (r 4)), (.ref (r 5)), (.ref (r 6)), (.ref (r 7)), (.ref (r 8)), (.ref (r 9)), (.ref (r 10)), (.ref (r 11)), (.ref (r 12)), (.ref (r 13)), (.ref (r 14)), (.ref (r 15)), (.ref (r 16)), (.ref (r 17)), (.ref (r 18)), (.ref (r 19)), (.ref (r 20)), (.ref (r 21)), (.ref (r 22)), (.ref (r 23)), (.ref (r 24)), (.ref (r 25)), (.ref (r 26)), (.ref (r 27)), (.ref (r 28)), .null, .null, .null, .null, .null, .null] .null := Arv.set Ar319 kq319 Sz319 Nn319 Hs319 Gf319 rfl W320 28 rfl (Nat.le_of_ble_eq_true rfl)
  have O322 := O311.wr W320 gn_b2
  have Z323 := Nat.le_trans Z312 (Nat.le_of_eq W320.size.symm)
  have K324 := K313.wr W320 (Or.inr sz_b2)
  have N325 := Fr.snoc X320 N314 gn_b2
  have go326 : Goes p e below s₁ (entryFrame m #[] 0) T320 (mkF m 202 #[] [(.ref b2)]) := fun t k => go318 t (st320 t k)
  have go327 : Goes p e below s₁ (entryFrame m #[] 0) T320 (mkF m 205 #[] [(.int (29 : Int32)), (.ref b2), (.ref b2)]) := fun t k => by
    refine go326 t ?_
    refine XS.dup X320.here hx rfl (hb hby d1_202) rfl rfl ?_
    show Steps p.tables e below (T320.setTop (mkF m 203 #[] [(.ref b2), (.ref b2)])) _
    refine XS.bipush X320.here hx rfl (hb hby d1_203) ?_
    show Steps p.tables e below (T320.setTop (mkF m 205 #[] [(.int (29 : Int32)), (.ref b2), (.ref b2)])) _
    exact k
  obtain ⟨T328, X328, e328, st328⟩ := getS2 X320 hx hZ hown (host := "") (Or.inl (hw _ (List.mem_of_getElem? (i := 66) rfl))) Via.refl e320 (S_GREATER_EQUAL.ext O322.2) (g := (mkF m 205 #[] [(.int (29 : Int32)), (.ref b2), (.ref b2)])) rfl (hb hby d1_205)
  have go329 : Goes p e below s₁ (entryFrame m #[] 0) T328 (mkF m 208 #[] [(.ref (r 29)), (.int (29 : Int32)), (.ref b2), (.ref b2)]) := fun t k => go327 t (st328 t k)
  obtain ⟨cl330, Ar330, kq330, Sz330, Nn330, Hs330, Gf330⟩ := V321
  have hin330 : ¬ ((29 : Int32) < 0 ∨ cl330.slots.size ≤ ((29 : Int32)).toNatClampNeg) := inb_of Sz330 ⟨by decide, by decide⟩
  obtain ⟨T331, h331, X331, e331, W331, st331⟩ := stR X328 hx hZ e328 Ar330 (j := (29 : Int32)) hin330 rfl (Sto.ofV Ar330 kq330 Ov2 (Ins.self ((HE 29 (by unfold own_K; decide)).ext O322.2))) (g := (mkF m 208 #[] [(.ref (r 29)), (.int (29 : Int32)), (.ref b2), (.ref b2)])) rfl rfl (hb hby d1_208)
  have V332 : Arv Z h331 b2 k2 (.object "com/example/guarantee/guarantee/model/Expression$Operator") (35 : Int32) [(.ref (r 0)), (.ref (r 1)), (.ref (r 2)), (.ref (r 3)), (.ref (r 4)), (.ref (r 5)), (.ref (r 6)), (.ref (r 7)), (.ref (r 8)), (.ref (r 9)), (.ref (r 10)), (.ref (r 11)), (.ref (r 12)), (.ref (r 13)), (.ref (r 14)), (.ref (r 15)), (.ref (r 16)), (.ref (r 17)), (.ref (r 18)), (.ref (r 19)), (.ref (r 20)), (.ref (r 21)), (.ref (r 22)), (.ref (r 23)), (.ref (r 24)), (.ref (r 25)), (.ref (r 26)), (.ref (r 27)), (.ref (r 28)), (.ref (r 29)), .null, .null, .null, .null, .null] .null := Arv.set Ar330 kq330 Sz330 Nn330 Hs330 Gf330 rfl W331 29 rfl (Nat.le_of_ble_eq_true rfl)
  have O333 := O322.wr W331 gn_b2
  have Z334 := Nat.le_trans Z323 (Nat.le_of_eq W331.size.symm)
  have K335 := K324.wr W331 (Or.inr sz_b2)
  have N336 := Fr.snoc X331 N325 gn_b2
  have go337 : Goes p e below s₁ (entryFrame m #[] 0) T331 (mkF m 209 #[] [(.ref b2)]) := fun t k => go329 t (st331 t k)
  have go338 : Goes p e below s₁ (entryFrame m #[] 0) T331 (mkF m 212 #[] [(.int (30 : Int32)), (.ref b2), (.ref b2)]) := fun t k => by
    refine go337 t ?_
    refine XS.dup X331.here hx rfl (hb hby d1_209) rfl rfl ?_
    show Steps p.tables e below (T331.setTop (mkF m 210 #[] [(.ref b2), (.ref b2)])) _
    refine XS.bipush X331.here hx rfl (hb hby d1_210) ?_
    show Steps p.tables e below (T331.setTop (mkF m 212 #[] [(.int (30 : Int32)), (.ref b2), (.ref b2)])) _
    exact k
  obtain ⟨T339, X339, e339, st339⟩ := getS2 X331 hx hZ hown (host := "") (Or.inl (hw _ (List.mem_of_getElem? (i := 68) rfl))) Via.refl e331 (S_SINCE.ext O333.2) (g := (mkF m 212 #[] [(.int (30 : Int32)), (.ref b2), (.ref b2)])) rfl (hb hby d1_212)
  have go340 : Goes p e below s₁ (entryFrame m #[] 0) T339 (mkF m 215 #[] [(.ref (r 30)), (.int (30 : Int32)), (.ref b2), (.ref b2)]) := fun t k => go338 t (st339 t k)
  obtain ⟨cl341, Ar341, kq341, Sz341, Nn341, Hs341, Gf341⟩ := V332
  have hin341 : ¬ ((30 : Int32) < 0 ∨ cl341.slots.size ≤ ((30 : Int32)).toNatClampNeg) := inb_of Sz341 ⟨by decide, by decide⟩
  obtain ⟨T342, h342, X342, e342, W342, st342⟩ := stR X339 hx hZ e339 Ar341 (j := (30 : Int32)) hin341 rfl (Sto.ofV Ar341 kq341 Ov2 (Ins.self ((HE 30 (by unfold own_K; decide)).ext O333.2))) (g := (mkF m 215 #[] [(.ref (r 30)), (.int (30 : Int32)), (.ref b2), (.ref b2)])) rfl rfl (hb hby d1_215)
  have V343 : Arv Z h342 b2 k2 (.object "com/example/guarantee/guarantee/model/Expression$Operator") (35 : Int32) [(.ref (r 0)), (.ref (r 1)), (.ref (r 2)), (.ref (r 3)), (.ref (r 4)), (.ref (r 5)), (.ref (r 6)), (.ref (r 7)), (.ref (r 8)), (.ref (r 9)), (.ref (r 10)), (.ref (r 11)), (.ref (r 12)), (.ref (r 13)), (.ref (r 14)), (.ref (r 15)), (.ref (r 16)), (.ref (r 17)), (.ref (r 18)), (.ref (r 19)), (.ref (r 20)), (.ref (r 21)), (.ref (r 22)), (.ref (r 23)), (.ref (r 24)), (.ref (r 25)), (.ref (r 26)), (.ref (r 27)), (.ref (r 28)), (.ref (r 29)), (.ref (r 30)), .null, .null, .null, .null] .null := Arv.set Ar341 kq341 Sz341 Nn341 Hs341 Gf341 rfl W342 30 rfl (Nat.le_of_ble_eq_true rfl)
  have O344 := O333.wr W342 gn_b2
  have Z345 := Nat.le_trans Z334 (Nat.le_of_eq W342.size.symm)
  have K346 := K335.wr W342 (Or.inr sz_b2)
  have N347 := Fr.snoc X342 N336 gn_b2
  have go348 : Goes p e below s₁ (entryFrame m #[] 0) T342 (mkF m 216 #[] [(.ref b2)]) := fun t k => go340 t (st342 t k)
  have go349 : Goes p e below s₁ (entryFrame m #[] 0) T342 (mkF m 219 #[] [(.int (31 : Int32)), (.ref b2), (.ref b2)]) := fun t k => by
    refine go348 t ?_
    refine XS.dup X342.here hx rfl (hb hby d1_216) rfl rfl ?_
    show Steps p.tables e below (T342.setTop (mkF m 217 #[] [(.ref b2), (.ref b2)])) _
    refine XS.bipush X342.here hx rfl (hb hby d1_217) ?_
    show Steps p.tables e below (T342.setTop (mkF m 219 #[] [(.int (31 : Int32)), (.ref b2), (.ref b2)])) _
    exact k
  obtain ⟨T350, X350, e350, st350⟩ := getS2 X342 hx hZ hown (host := "") (Or.inl (hw _ (List.mem_of_getElem? (i := 70) rfl))) Via.refl e342 (S_AND.ext O344.2) (g := (mkF m 219 #[] [(.int (31 : Int32)), (.ref b2), (.ref b2)])) rfl (hb hby d1_219)
  have go351 : Goes p e below s₁ (entryFrame m #[] 0) T350 (mkF m 222 #[] [(.ref (r 31)), (.int (31 : Int32)), (.ref b2), (.ref b2)]) := fun t k => go349 t (st350 t k)
  obtain ⟨cl352, Ar352, kq352, Sz352, Nn352, Hs352, Gf352⟩ := V343
  have hin352 : ¬ ((31 : Int32) < 0 ∨ cl352.slots.size ≤ ((31 : Int32)).toNatClampNeg) := inb_of Sz352 ⟨by decide, by decide⟩
  obtain ⟨T353, h353, X353, e353, W353, st353⟩ := stR X350 hx hZ e350 Ar352 (j := (31 : Int32)) hin352 rfl (Sto.ofV Ar352 kq352 Ov2 (Ins.self ((HE 31 (by unfold own_K; decide)).ext O344.2))) (g := (mkF m 222 #[] [(.ref (r 31)), (.int (31 : Int32)), (.ref b2), (.ref b2)])) rfl rfl (hb hby d1_222)
  have V354 : Arv Z h353 b2 k2 (.object "com/example/guarantee/guarantee/model/Expression$Operator") (35 : Int32) [(.ref (r 0)), (.ref (r 1)), (.ref (r 2)), (.ref (r 3)), (.ref (r 4)), (.ref (r 5)), (.ref (r 6)), (.ref (r 7)), (.ref (r 8)), (.ref (r 9)), (.ref (r 10)), (.ref (r 11)), (.ref (r 12)), (.ref (r 13)), (.ref (r 14)), (.ref (r 15)), (.ref (r 16)), (.ref (r 17)), (.ref (r 18)), (.ref (r 19)), (.ref (r 20)), (.ref (r 21)), (.ref (r 22)), (.ref (r 23)), (.ref (r 24)), (.ref (r 25)), (.ref (r 26)), (.ref (r 27)), (.ref (r 28)), (.ref (r 29)), (.ref (r 30)), (.ref (r 31)), .null, .null, .null] .null := Arv.set Ar352 kq352 Sz352 Nn352 Hs352 Gf352 rfl W353 31 rfl (Nat.le_of_ble_eq_true rfl)
  have O355 := O344.wr W353 gn_b2
  have Z356 := Nat.le_trans Z345 (Nat.le_of_eq W353.size.symm)
  have K357 := K346.wr W353 (Or.inr sz_b2)
  have N358 := Fr.snoc X353 N347 gn_b2
  have go359 : Goes p e below s₁ (entryFrame m #[] 0) T353 (mkF m 223 #[] [(.ref b2)]) := fun t k => go351 t (st353 t k)
  have go360 : Goes p e below s₁ (entryFrame m #[] 0) T353 (mkF m 226 #[] [(.int (32 : Int32)), (.ref b2), (.ref b2)]) := fun t k => by
    refine go359 t ?_
    refine XS.dup X353.here hx rfl (hb hby d1_223) rfl rfl ?_
    show Steps p.tables e below (T353.setTop (mkF m 224 #[] [(.ref b2), (.ref b2)])) _
    refine XS.bipush X353.here hx rfl (hb hby d1_224) ?_
    show Steps p.tables e below (T353.setTop (mkF m 226 #[] [(.int (32 : Int32)), (.ref b2), (.ref b2)])) _
    exact k
  obtain ⟨T361, X361, e361, st361⟩ := getS2 X353 hx hZ hown (host := "") (Or.inl (hw _ (List.mem_of_getElem? (i := 72) rfl))) Via.refl e353 (S_OR.ext O355.2) (g := (mkF m 226 #[] [(.int (32 : Int32)), (.ref b2), (.ref b2)])) rfl (hb hby d1_226)
  have go362 : Goes p e below s₁ (entryFrame m #[] 0) T361 (mkF m 229 #[] [(.ref (r 32)), (.int (32 : Int32)), (.ref b2), (.ref b2)]) := fun t k => go360 t (st361 t k)
  obtain ⟨cl363, Ar363, kq363, Sz363, Nn363, Hs363, Gf363⟩ := V354
  have hin363 : ¬ ((32 : Int32) < 0 ∨ cl363.slots.size ≤ ((32 : Int32)).toNatClampNeg) := inb_of Sz363 ⟨by decide, by decide⟩
  obtain ⟨T364, h364, X364, e364, W364, st364⟩ := stR X361 hx hZ e361 Ar363 (j := (32 : Int32)) hin363 rfl (Sto.ofV Ar363 kq363 Ov2 (Ins.self ((HE 32 (by unfold own_K; decide)).ext O355.2))) (g := (mkF m 229 #[] [(.ref (r 32)), (.int (32 : Int32)), (.ref b2), (.ref b2)])) rfl rfl (hb hby d1_229)
  have V365 : Arv Z h364 b2 k2 (.object "com/example/guarantee/guarantee/model/Expression$Operator") (35 : Int32) [(.ref (r 0)), (.ref (r 1)), (.ref (r 2)), (.ref (r 3)), (.ref (r 4)), (.ref (r 5)), (.ref (r 6)), (.ref (r 7)), (.ref (r 8)), (.ref (r 9)), (.ref (r 10)), (.ref (r 11)), (.ref (r 12)), (.ref (r 13)), (.ref (r 14)), (.ref (r 15)), (.ref (r 16)), (.ref (r 17)), (.ref (r 18)), (.ref (r 19)), (.ref (r 20)), (.ref (r 21)), (.ref (r 22)), (.ref (r 23)), (.ref (r 24)), (.ref (r 25)), (.ref (r 26)), (.ref (r 27)), (.ref (r 28)), (.ref (r 29)), (.ref (r 30)), (.ref (r 31)), (.ref (r 32)), .null, .null] .null := Arv.set Ar363 kq363 Sz363 Nn363 Hs363 Gf363 rfl W364 32 rfl (Nat.le_of_ble_eq_true rfl)
  have O366 := O355.wr W364 gn_b2
  have Z367 := Nat.le_trans Z356 (Nat.le_of_eq W364.size.symm)
  have K368 := K357.wr W364 (Or.inr sz_b2)
  have N369 := Fr.snoc X364 N358 gn_b2
  have go370 : Goes p e below s₁ (entryFrame m #[] 0) T364 (mkF m 230 #[] [(.ref b2)]) := fun t k => go362 t (st364 t k)
  have go371 : Goes p e below s₁ (entryFrame m #[] 0) T364 (mkF m 233 #[] [(.int (33 : Int32)), (.ref b2), (.ref b2)]) := fun t k => by
    refine go370 t ?_
    refine XS.dup X364.here hx rfl (hb hby d1_230) rfl rfl ?_
    show Steps p.tables e below (T364.setTop (mkF m 231 #[] [(.ref b2), (.ref b2)])) _
    refine XS.bipush X364.here hx rfl (hb hby d1_231) ?_
    show Steps p.tables e below (T364.setTop (mkF m 233 #[] [(.int (33 : Int32)), (.ref b2), (.ref b2)])) _
    exact k
  obtain ⟨T372, X372, e372, st372⟩ := getS2 X364 hx hZ hown (host := "") (Or.inl (hw _ (List.mem_of_getElem? (i := 74) rfl))) Via.refl e364 (S_IFF.ext O366.2) (g := (mkF m 233 #[] [(.int (33 : Int32)), (.ref b2), (.ref b2)])) rfl (hb hby d1_233)
  have go373 : Goes p e below s₁ (entryFrame m #[] 0) T372 (mkF m 236 #[] [(.ref (r 33)), (.int (33 : Int32)), (.ref b2), (.ref b2)]) := fun t k => go371 t (st372 t k)
  obtain ⟨cl374, Ar374, kq374, Sz374, Nn374, Hs374, Gf374⟩ := V365
  have hin374 : ¬ ((33 : Int32) < 0 ∨ cl374.slots.size ≤ ((33 : Int32)).toNatClampNeg) := inb_of Sz374 ⟨by decide, by decide⟩
  obtain ⟨T375, h375, X375, e375, W375, st375⟩ := stR X372 hx hZ e372 Ar374 (j := (33 : Int32)) hin374 rfl (Sto.ofV Ar374 kq374 Ov2 (Ins.self ((HE 33 (by unfold own_K; decide)).ext O366.2))) (g := (mkF m 236 #[] [(.ref (r 33)), (.int (33 : Int32)), (.ref b2), (.ref b2)])) rfl rfl (hb hby d1_236)
  have V376 : Arv Z h375 b2 k2 (.object "com/example/guarantee/guarantee/model/Expression$Operator") (35 : Int32) [(.ref (r 0)), (.ref (r 1)), (.ref (r 2)), (.ref (r 3)), (.ref (r 4)), (.ref (r 5)), (.ref (r 6)), (.ref (r 7)), (.ref (r 8)), (.ref (r 9)), (.ref (r 10)), (.ref (r 11)), (.ref (r 12)), (.ref (r 13)), (.ref (r 14)), (.ref (r 15)), (.ref (r 16)), (.ref (r 17)), (.ref (r 18)), (.ref (r 19)), (.ref (r 20)), (.ref (r 21)), (.ref (r 22)), (.ref (r 23)), (.ref (r 24)), (.ref (r 25)), (.ref (r 26)), (.ref (r 27)), (.ref (r 28)), (.ref (r 29)), (.ref (r 30)), (.ref (r 31)), (.ref (r 32)), (.ref (r 33)), .null] .null := Arv.set Ar374 kq374 Sz374 Nn374 Hs374 Gf374 rfl W375 33 rfl (Nat.le_of_ble_eq_true rfl)
  have O377 := O366.wr W375 gn_b2
  have Z378 := Nat.le_trans Z367 (Nat.le_of_eq W375.size.symm)
  have K379 := K368.wr W375 (Or.inr sz_b2)
  have N380 := Fr.snoc X375 N369 gn_b2
  have go381 : Goes p e below s₁ (entryFrame m #[] 0) T375 (mkF m 237 #[] [(.ref b2)]) := fun t k => go373 t (st375 t k)
  have go382 : Goes p e below s₁ (entryFrame m #[] 0) T375 (mkF m 240 #[] [(.int (34 : Int32)), (.ref b2), (.ref b2)]) := fun t k => by
    refine go381 t ?_
    refine XS.dup X375.here hx rfl (hb hby d1_237) rfl rfl ?_
    show Steps p.tables e below (T375.setTop (mkF m 238 #[] [(.ref b2), (.ref b2)])) _
    refine XS.bipush X375.here hx rfl (hb hby d1_238) ?_
    show Steps p.tables e below (T375.setTop (mkF m 240 #[] [(.int (34 : Int32)), (.ref b2), (.ref b2)])) _
    exact k
  obtain ⟨T383, X383, e383, st383⟩ := getS2 X375 hx hZ hown (host := "") (Or.inl (hw _ (List.mem_of_getElem? (i := 76) rfl))) Via.refl e375 (S_IMPLIES.ext O377.2) (g := (mkF m 240 #[] [(.int (34 : Int32)), (.ref b2), (.ref b2)])) rfl (hb hby d1_240)
  have go384 : Goes p e below s₁ (entryFrame m #[] 0) T383 (mkF m 243 #[] [(.ref (r 34)), (.int (34 : Int32)), (.ref b2), (.ref b2)]) := fun t k => go382 t (st383 t k)
  obtain ⟨cl385, Ar385, kq385, Sz385, Nn385, Hs385, Gf385⟩ := V376
  have hin385 : ¬ ((34 : Int32) < 0 ∨ cl385.slots.size ≤ ((34 : Int32)).toNatClampNeg) := inb_of Sz385 ⟨by decide, by decide⟩
  obtain ⟨T386, h386, X386, e386, W386, st386⟩ := stR X383 hx hZ e383 Ar385 (j := (34 : Int32)) hin385 rfl (Sto.ofV Ar385 kq385 Ov2 (Ins.self ((HE 34 (by unfold own_K; decide)).ext O377.2))) (g := (mkF m 243 #[] [(.ref (r 34)), (.int (34 : Int32)), (.ref b2), (.ref b2)])) rfl rfl (hb hby d1_243)
  have V387 : Arv Z h386 b2 k2 (.object "com/example/guarantee/guarantee/model/Expression$Operator") (35 : Int32) [(.ref (r 0)), (.ref (r 1)), (.ref (r 2)), (.ref (r 3)), (.ref (r 4)), (.ref (r 5)), (.ref (r 6)), (.ref (r 7)), (.ref (r 8)), (.ref (r 9)), (.ref (r 10)), (.ref (r 11)), (.ref (r 12)), (.ref (r 13)), (.ref (r 14)), (.ref (r 15)), (.ref (r 16)), (.ref (r 17)), (.ref (r 18)), (.ref (r 19)), (.ref (r 20)), (.ref (r 21)), (.ref (r 22)), (.ref (r 23)), (.ref (r 24)), (.ref (r 25)), (.ref (r 26)), (.ref (r 27)), (.ref (r 28)), (.ref (r 29)), (.ref (r 30)), (.ref (r 31)), (.ref (r 32)), (.ref (r 33)), (.ref (r 34))] .null := Arv.set Ar385 kq385 Sz385 Nn385 Hs385 Gf385 rfl W386 34 rfl (Nat.le_of_ble_eq_true rfl)
  have O388 := O377.wr W386 gn_b2
  have Z389 := Nat.le_trans Z378 (Nat.le_of_eq W386.size.symm)
  have K390 := K379.wr W386 (Or.inr sz_b2)
  have N391 := Fr.snoc X386 N380 gn_b2
  have go392 : Goes p e below s₁ (entryFrame m #[] 0) T386 (mkF m 244 #[] [(.ref b2)]) := fun t k => go384 t (st386 t k)
  obtain ⟨fs, hr, hrun, hended, hW, hsame⟩ := X386.leave (v := some (.ref b2)) (fun h => by rw [Bd.returns] at h; cases h)
  refine ⟨_, _, go392 _ ?_, hrun, hended, _, _, rfl, ?_, ⟨_, rfl⟩, hW, hsame.mono (by decide) (by decide)⟩
  · jvm_step X386.here [X386.here.top, hx, (hb hby d1_244), X386.method', Bd.returns, Value.isRef, FieldType.isReference]
    first | (intro acts; rw [hr _ acts rfl rfl rfl]) | rw [hr _ _ rfl rfl rfl]
    exact Steps.refl _
  · show Q1 Z _ _ _ _ T386.heap _
    rw [e386]
    exact ⟨b2, k2, rfl, N391, K390, gn_b2, V387⟩
theorem d2_0 : decode prog_14_method_6_code 0 = .ok (.aload_n 0, 1) := by decide +kernel
theorem d2_1 : decode prog_14_method_6_code 1 = .ok (.getstatic 52, 3) := by decide +kernel
theorem d2_4 : decode prog_14_method_6_code 4 = .ok (.if_acmp .eq 24, 3) := by decide +kernel
theorem d2_7 : decode prog_14_method_6_code 7 = .ok (.aload_n 0, 1) := by decide +kernel
theorem d2_8 : decode prog_14_method_6_code 8 = .ok (.getstatic 55, 3) := by decide +kernel
theorem d2_11 : decode prog_14_method_6_code 11 = .ok (.if_acmp .eq 17, 3) := by decide +kernel
theorem d2_14 : decode prog_14_method_6_code 14 = .ok (.aload_n 0, 1) := by decide +kernel
theorem d2_15 : decode prog_14_method_6_code 15 = .ok (.getstatic 58, 3) := by decide +kernel
theorem d2_18 : decode prog_14_method_6_code 18 = .ok (.if_acmp .eq 10, 3) := by decide +kernel
theorem d2_21 : decode prog_14_method_6_code 21 = .ok (.aload_n 0, 1) := by decide +kernel
theorem d2_22 : decode prog_14_method_6_code 22 = .ok (.getstatic 94, 3) := by decide +kernel
theorem d2_25 : decode prog_14_method_6_code 25 = .ok (.if_acmp .ne 7, 3) := by decide +kernel
theorem d2_28 : decode prog_14_method_6_code 28 = .ok (.iconst 1, 1) := by decide +kernel
theorem d2_29 : decode prog_14_method_6_code 29 = .ok (.goto 4, 3) := by decide +kernel
theorem d2_32 : decode prog_14_method_6_code 32 = .ok (.iconst 0, 1) := by decide +kernel
theorem d2_33 : decode prog_14_method_6_code 33 = .ok (.ireturn, 1) := by decide +kernel
theorem pn_1 : plainName "com/example/guarantee/guarantee/model/Expression$Operator" = true := by first | (simp [plainName, overriddenIn]; done) | decide +kernel
theorem ef_rm2 (m : MethodId) (a1 : Addr) : entryFrame m #[(.ref a1)] 1 = mkF m 0 #[.val (.ref a1)] [] := by first | (simp [entryFrame, mkF, argsToLocals, Value.category]; done) | rfl
def Q2 (Z : State) (a1 : Addr) (w0 w1 w2 w3 : Addr) (h0 : Heap) (n0 : Nat) (v : Option Value) (h : Heap) (L : List Loc) : Prop := v = some (.int (if a1 = w0 ∨ a1 = w1 ∨ a1 = w2 ∨ a1 = w3 then 1 else 0)) ∧ Fr n0 L ∧ h = h0
set_option maxRecDepth 65536 in
set_option maxHeartbeats 40000000 in
theorem rm2 (l : Launch) (Z : State) (a0 : Array Value) (hw : ∀ d ∈ tables_1, d.before a0 Z = true) (ws : List Jvm.Cond) (a1 : Addr) (w0 w1 w2 w3 : Addr) (h0 : Heap) (n0 : Nat) (Z0 : n0 ≤ h0.size) (O0 : Old Z n0 h0) (S_PREV : Sta Z Z.heap "com/example/guarantee/guarantee/model/Expression$Operator" "PREV" "Lcom/example/guarantee/guarantee/model/Expression$Operator;" (.ref w0)) (S_ONCE : Sta Z Z.heap "com/example/guarantee/guarantee/model/Expression$Operator" "ONCE" "Lcom/example/guarantee/guarantee/model/Expression$Operator;" (.ref w1)) (S_HISTORICALLY : Sta Z Z.heap "com/example/guarantee/guarantee/model/Expression$Operator" "HISTORICALLY" "Lcom/example/guarantee/guarantee/model/Expression$Operator;" (.ref w2)) (S_SINCE : Sta Z Z.heap "com/example/guarantee/guarantee/model/Expression$Operator" "SINCE" "Lcom/example/guarantee/guarantee/model/Expression$Operator;" (.ref w3)) :
    MetFree l (⟨"com/example/guarantee/guarantee/model/Expression$Operator", "isPast", "()Z"⟩ : MethodName) (head1 (Jvm.Cond.code (⟨"com/example/guarantee/guarantee/model/Expression$Operator", "isPast", "()Z"⟩ : MethodName) prog_14_method_6_code 1 (some .boolean) :: ws) ({ frames := 0, cells := 0, slots := 0, locals := 0 } : Room)) (fun a U => a = #[(.ref a1)] ∧ Z.Warmed39 U.vm ∧ U.heap = h0) (fun _ _ _ _ _ => True) (fun _ U o U' => ∃ v L, o = .returned v ∧ Q2 Z a1 w0 w1 w2 w3 h0 n0 v U'.heap L ∧ FrameEnd U o U' L ({ frames := 0, cells := 0, slots := 0, locals := 0 } : Room).cells ({ frames := 0, cells := 0, slots := 0, locals := 0 } : Room).slots) := by
  refine MetFree.of_bodySF (plainFor_of_name pn_1) hisR ?_
  intro p e s m args below meth c s₁ Bd hml0 hP hK
  obtain ⟨rfl, hZ, hh⟩ := hP
  have hx := Bd.exec
  have hby := Bd.bytes
  have hml : c.maxLocals = 1 := hml0
  have hown : s.vm.findClass "com/example/guarantee/guarantee/model/Expression$Operator" = some m.cls := findClass_of_methodNamed Bd.named
  have hnm := (name_of_methodNamed Bd.named Bd.method).1
  have X0 : Stand p l e ({ frames := 0, cells := 0, slots := 0, locals := 0 } : Room) s m #[(.ref a1)] below meth c s₁ [] 0 0 := Stand.of_body Bd
  have e0 : s₁.heap = h0 := by rw [← hh, Bd.state]; rfl
  have N0 := Fr.nil n0
  have K0 := Keep.refl h0 []
  have go0 : Goes p e below s₁ (entryFrame m #[(.ref a1)] 1) s₁ (mkF m 0 #[.val (.ref a1)] []) := fun t k => castTop (ef_rm2 m a1) k
  have go1 : Goes p e below s₁ (entryFrame m #[(.ref a1)] 1) s₁ (mkF m 1 #[.val (.ref a1)] [(.ref a1)]) := fun t k => by
    refine go0 t ?_
    refine XS.aloadN X0.here hx rfl (hb hby d2_0) rfl rfl ?_
    show Steps p.tables e below (s₁.setTop (mkF m 1 #[.val (.ref a1)] [(.ref a1)])) _
    exact k
  obtain ⟨T2, X2, e2, st2⟩ := getS2 X0 hx hZ hown (host := "") (Or.inl (hw _ (List.mem_of_getElem? (i := 84) rfl))) Via.refl e0 (S_PREV.ext O0.2) (g := (mkF m 1 #[.val (.ref a1)] [(.ref a1)])) rfl (hb hby d2_1)
  have go3 : Goes p e below s₁ (entryFrame m #[(.ref a1)] 1) T2 (mkF m 4 #[.val (.ref a1)] [(.ref w0), (.ref a1)]) := fun t k => go1 t (st2 t k)
  by_cases hc4 : a1 = w0
  · have go5 : Goes p e below s₁ (entryFrame m #[(.ref a1)] 1) T2 (mkF m 33 #[.val (.ref a1)] [(.int (1 : Int32))]) := fun t k => by
      refine go3 t ?_
      refine Jvm.RoadKit.acmp (g := (mkF m 4 #[.val (.ref a1)] [(.ref w0), (.ref a1)])) X2 hx rfl rfl rfl (pc0 := 4) (pc' := 28) (same := true) rfl (hb hby d2_4) rfl (decide_eq_true (congrArg Value.ref hc4)) (by decide) (by decide) ?_
      show Steps p.tables e below (T2.setTop (mkF m 28 #[.val (.ref a1)] [])) _
      refine XS.iconst X2.here hx rfl (hb hby d2_28) ?_
      show Steps p.tables e below (T2.setTop (mkF m 29 #[.val (.ref a1)] [(.int (1 : Int32))])) _
      refine XS.goto X2.here hx rfl (pc0 := 29) (pc' := 33) rfl (hb hby d2_29) (by decide) (by decide) ?_
      show Steps p.tables e below (T2.setTop (mkF m 33 #[.val (.ref a1)] [(.int (1 : Int32))])) _
      exact k
    obtain ⟨fs, hr, hrun, hended, hW, hsame⟩ := X2.leave (v := some (.int (1 : Int32))) (fun h => by rw [Bd.returns] at h; cases h)
    refine ⟨_, _, go5 _ ?_, hrun, hended, _, _, rfl, ?_, ⟨_, rfl⟩, hW, hsame.mono (by decide) (by decide)⟩
    · exact retN X2 hx (t := .boolean) Bd.returns (by simp) (hb hby d2_33) hr
    · show Q2 Z _ _ _ _ _ _ _ _ T2.heap _
      rw [e2]
      exact ⟨by simp [hc4], N0, rfl⟩
  · have go6 : Goes p e below s₁ (entryFrame m #[(.ref a1)] 1) T2 (mkF m 8 #[.val (.ref a1)] [(.ref a1)]) := fun t k => by
      refine go3 t ?_
      refine Jvm.RoadKit.acmp (g := (mkF m 4 #[.val (.ref a1)] [(.ref w0), (.ref a1)])) X2 hx rfl rfl rfl (pc0 := 4) (pc' := 7) (same := false) rfl (hb hby d2_4) rfl (decide_eq_false fun q => hc4 (Value.ref.inj q)) (by decide) (by decide) ?_
      show Steps p.tables e below (T2.setTop (mkF m 7 #[.val (.ref a1)] [])) _
      refine XS.aloadN X2.here hx rfl (hb hby d2_7) rfl rfl ?_
      show Steps p.tables e below (T2.setTop (mkF m 8 #[.val (.ref a1)] [(.ref a1)])) _
      exact k
    obtain ⟨T7, X7, e7, st7⟩ := getS2 X2 hx hZ hown (host := "") (Or.inl (hw _ (List.mem_of_getElem? (i := 85) rfl))) Via.refl e2 (S_ONCE.ext O0.2) (g := (mkF m 8 #[.val (.ref a1)] [(.ref a1)])) rfl (hb hby d2_8)
    have go8 : Goes p e below s₁ (entryFrame m #[(.ref a1)] 1) T7 (mkF m 11 #[.val (.ref a1)] [(.ref w1), (.ref a1)]) := fun t k => go6 t (st7 t k)
    by_cases hc9 : a1 = w1
    · have go10 : Goes p e below s₁ (entryFrame m #[(.ref a1)] 1) T7 (mkF m 33 #[.val (.ref a1)] [(.int (1 : Int32))]) := fun t k => by
        refine go8 t ?_
        refine Jvm.RoadKit.acmp (g := (mkF m 11 #[.val (.ref a1)] [(.ref w1), (.ref a1)])) X7 hx rfl rfl rfl (pc0 := 11) (pc' := 28) (same := true) rfl (hb hby d2_11) rfl (decide_eq_true (congrArg Value.ref hc9)) (by decide) (by decide) ?_
        show Steps p.tables e below (T7.setTop (mkF m 28 #[.val (.ref a1)] [])) _
        refine XS.iconst X7.here hx rfl (hb hby d2_28) ?_
        show Steps p.tables e below (T7.setTop (mkF m 29 #[.val (.ref a1)] [(.int (1 : Int32))])) _
        refine XS.goto X7.here hx rfl (pc0 := 29) (pc' := 33) rfl (hb hby d2_29) (by decide) (by decide) ?_
        show Steps p.tables e below (T7.setTop (mkF m 33 #[.val (.ref a1)] [(.int (1 : Int32))])) _
        exact k
      obtain ⟨fs, hr, hrun, hended, hW, hsame⟩ := X7.leave (v := some (.int (1 : Int32))) (fun h => by rw [Bd.returns] at h; cases h)
      refine ⟨_, _, go10 _ ?_, hrun, hended, _, _, rfl, ?_, ⟨_, rfl⟩, hW, hsame.mono (by decide) (by decide)⟩
      · exact retN X7 hx (t := .boolean) Bd.returns (by simp) (hb hby d2_33) hr
      · show Q2 Z _ _ _ _ _ _ _ _ T7.heap _
        rw [e7]
        exact ⟨by simp [hc4, hc9], N0, rfl⟩
    · have go11 : Goes p e below s₁ (entryFrame m #[(.ref a1)] 1) T7 (mkF m 15 #[.val (.ref a1)] [(.ref a1)]) := fun t k => by
        refine go8 t ?_
        refine Jvm.RoadKit.acmp (g := (mkF m 11 #[.val (.ref a1)] [(.ref w1), (.ref a1)])) X7 hx rfl rfl rfl (pc0 := 11) (pc' := 14) (same := false) rfl (hb hby d2_11) rfl (decide_eq_false fun q => hc9 (Value.ref.inj q)) (by decide) (by decide) ?_
        show Steps p.tables e below (T7.setTop (mkF m 14 #[.val (.ref a1)] [])) _
        refine XS.aloadN X7.here hx rfl (hb hby d2_14) rfl rfl ?_
        show Steps p.tables e below (T7.setTop (mkF m 15 #[.val (.ref a1)] [(.ref a1)])) _
        exact k
      obtain ⟨T12, X12, e12, st12⟩ := getS2 X7 hx hZ hown (host := "") (Or.inl (hw _ (List.mem_of_getElem? (i := 86) rfl))) Via.refl e7 (S_HISTORICALLY.ext O0.2) (g := (mkF m 15 #[.val (.ref a1)] [(.ref a1)])) rfl (hb hby d2_15)
      have go13 : Goes p e below s₁ (entryFrame m #[(.ref a1)] 1) T12 (mkF m 18 #[.val (.ref a1)] [(.ref w2), (.ref a1)]) := fun t k => go11 t (st12 t k)
      by_cases hc14 : a1 = w2
      · have go15 : Goes p e below s₁ (entryFrame m #[(.ref a1)] 1) T12 (mkF m 33 #[.val (.ref a1)] [(.int (1 : Int32))]) := fun t k => by
          refine go13 t ?_
          refine Jvm.RoadKit.acmp (g := (mkF m 18 #[.val (.ref a1)] [(.ref w2), (.ref a1)])) X12 hx rfl rfl rfl (pc0 := 18) (pc' := 28) (same := true) rfl (hb hby d2_18) rfl (decide_eq_true (congrArg Value.ref hc14)) (by decide) (by decide) ?_
          show Steps p.tables e below (T12.setTop (mkF m 28 #[.val (.ref a1)] [])) _
          refine XS.iconst X12.here hx rfl (hb hby d2_28) ?_
          show Steps p.tables e below (T12.setTop (mkF m 29 #[.val (.ref a1)] [(.int (1 : Int32))])) _
          refine XS.goto X12.here hx rfl (pc0 := 29) (pc' := 33) rfl (hb hby d2_29) (by decide) (by decide) ?_
          show Steps p.tables e below (T12.setTop (mkF m 33 #[.val (.ref a1)] [(.int (1 : Int32))])) _
          exact k
        obtain ⟨fs, hr, hrun, hended, hW, hsame⟩ := X12.leave (v := some (.int (1 : Int32))) (fun h => by rw [Bd.returns] at h; cases h)
        refine ⟨_, _, go15 _ ?_, hrun, hended, _, _, rfl, ?_, ⟨_, rfl⟩, hW, hsame.mono (by decide) (by decide)⟩
        · exact retN X12 hx (t := .boolean) Bd.returns (by simp) (hb hby d2_33) hr
        · show Q2 Z _ _ _ _ _ _ _ _ T12.heap _
          rw [e12]
          exact ⟨by simp [hc4, hc9, hc14], N0, rfl⟩
      · have go16 : Goes p e below s₁ (entryFrame m #[(.ref a1)] 1) T12 (mkF m 22 #[.val (.ref a1)] [(.ref a1)]) := fun t k => by
          refine go13 t ?_
          refine Jvm.RoadKit.acmp (g := (mkF m 18 #[.val (.ref a1)] [(.ref w2), (.ref a1)])) X12 hx rfl rfl rfl (pc0 := 18) (pc' := 21) (same := false) rfl (hb hby d2_18) rfl (decide_eq_false fun q => hc14 (Value.ref.inj q)) (by decide) (by decide) ?_
          show Steps p.tables e below (T12.setTop (mkF m 21 #[.val (.ref a1)] [])) _
          refine XS.aloadN X12.here hx rfl (hb hby d2_21) rfl rfl ?_
          show Steps p.tables e below (T12.setTop (mkF m 22 #[.val (.ref a1)] [(.ref a1)])) _
          exact k
        obtain ⟨T17, X17, e17, st17⟩ := getS2 X12 hx hZ hown (host := "") (Or.inl (hw _ (List.mem_of_getElem? (i := 87) rfl))) Via.refl e12 (S_SINCE.ext O0.2) (g := (mkF m 22 #[.val (.ref a1)] [(.ref a1)])) rfl (hb hby d2_22)
        have go18 : Goes p e below s₁ (entryFrame m #[(.ref a1)] 1) T17 (mkF m 25 #[.val (.ref a1)] [(.ref w3), (.ref a1)]) := fun t k => go16 t (st17 t k)
        by_cases hc19 : a1 = w3
        · have go20 : Goes p e below s₁ (entryFrame m #[(.ref a1)] 1) T17 (mkF m 33 #[.val (.ref a1)] [(.int (1 : Int32))]) := fun t k => by
            refine go18 t ?_
            refine Jvm.RoadKit.acmp (g := (mkF m 25 #[.val (.ref a1)] [(.ref w3), (.ref a1)])) X17 hx rfl rfl rfl (pc0 := 25) (pc' := 28) (same := true) rfl (hb hby d2_25) rfl (decide_eq_true (congrArg Value.ref hc19)) (by decide) (by decide) ?_
            show Steps p.tables e below (T17.setTop (mkF m 28 #[.val (.ref a1)] [])) _
            refine XS.iconst X17.here hx rfl (hb hby d2_28) ?_
            show Steps p.tables e below (T17.setTop (mkF m 29 #[.val (.ref a1)] [(.int (1 : Int32))])) _
            refine XS.goto X17.here hx rfl (pc0 := 29) (pc' := 33) rfl (hb hby d2_29) (by decide) (by decide) ?_
            show Steps p.tables e below (T17.setTop (mkF m 33 #[.val (.ref a1)] [(.int (1 : Int32))])) _
            exact k
          obtain ⟨fs, hr, hrun, hended, hW, hsame⟩ := X17.leave (v := some (.int (1 : Int32))) (fun h => by rw [Bd.returns] at h; cases h)
          refine ⟨_, _, go20 _ ?_, hrun, hended, _, _, rfl, ?_, ⟨_, rfl⟩, hW, hsame.mono (by decide) (by decide)⟩
          · exact retN X17 hx (t := .boolean) Bd.returns (by simp) (hb hby d2_33) hr
          · show Q2 Z _ _ _ _ _ _ _ _ T17.heap _
            rw [e17]
            exact ⟨by simp [hc4, hc9, hc14, hc19], N0, rfl⟩
        · have go21 : Goes p e below s₁ (entryFrame m #[(.ref a1)] 1) T17 (mkF m 33 #[.val (.ref a1)] [(.int (0 : Int32))]) := fun t k => by
            refine go18 t ?_
            refine Jvm.RoadKit.acmp (g := (mkF m 25 #[.val (.ref a1)] [(.ref w3), (.ref a1)])) X17 hx rfl rfl rfl (pc0 := 25) (pc' := 32) (same := false) rfl (hb hby d2_25) rfl (decide_eq_false fun q => hc19 (Value.ref.inj q)) (by decide) (by decide) ?_
            show Steps p.tables e below (T17.setTop (mkF m 32 #[.val (.ref a1)] [])) _
            refine XS.iconst X17.here hx rfl (hb hby d2_32) ?_
            show Steps p.tables e below (T17.setTop (mkF m 33 #[.val (.ref a1)] [(.int (0 : Int32))])) _
            exact k
          obtain ⟨fs, hr, hrun, hended, hW, hsame⟩ := X17.leave (v := some (.int (0 : Int32))) (fun h => by rw [Bd.returns] at h; cases h)
          refine ⟨_, _, go21 _ ?_, hrun, hended, _, _, rfl, ?_, ⟨_, rfl⟩, hW, hsame.mono (by decide) (by decide)⟩
          · exact retN X17 hx (t := .boolean) Bd.returns (by simp) (hb hby d2_33) hr
          · show Q2 Z _ _ _ _ _ _ _ _ T17.heap _
            rw [e17]
            exact ⟨by simp [hc4, hc9, hc14, hc19], N0, rfl⟩
theorem pd_0 : parseMethodDescriptor "()[Lcom/example/guarantee/guarantee/model/Expression$Operator;" = some ⟨[], some (.array (.object "com/example/guarantee/guarantee/model/Expression$Operator"))⟩ := by decide +kernel
theorem pd_1 : parseMethodDescriptor "()Z" = some ⟨[], some .boolean⟩ := by decide +kernel
theorem ef_rm0 (m : MethodId) (p1 : Int32) : entryFrame m #[(.int p1)] maxLocals = mkF m 0 #[.val (.int p1), .unset, .unset, .unset, .unset] [] := by first | (simp [entryFrame, mkF, argsToLocals, Value.category, maxLocals]; done) | rfl
def Q0 (Z : State) (p1 : Int32) (r : Int32 → Addr) (h0 : Heap) (n0 : Nat) (v : Option Value) (h : Heap) (L : List Loc) : Prop := v = some (.int 1) ∧ Fr n0 L
set_option maxRecDepth 65536 in
set_option maxHeartbeats 40000000 in
theorem rm0 (l : Launch) (Z : State) (a0 : Array Value) (hw : ∀ d ∈ tables_1, d.before a0 Z = true) (ws : List Jvm.Cond) (p1 : Int32) (r : Int32 → Addr) (h0 : Heap) (n0 : Nat) (Z0 : n0 ≤ h0.size) (O0 : Old Z n0 h0) (S_TRUE : Sta Z Z.heap "com/example/guarantee/guarantee/model/Expression$Operator" "TRUE" "Lcom/example/guarantee/guarantee/model/Expression$Operator;" (.ref (r 0))) (S_FALSE : Sta Z Z.heap "com/example/guarantee/guarantee/model/Expression$Operator" "FALSE" "Lcom/example/guarantee/guarantee/model/Expression$Operator;" (.ref (r 1))) (S_INTEGER : Sta Z Z.heap "com/example/guarantee/guarantee/model/Expression$Operator" "INTEGER" "Lcom/example/guarantee/guarantee/model/Expression$Operator;" (.ref (r 2))) (S_NAME : Sta Z Z.heap "com/example/guarantee/guarantee/model/Expression$Operator" "NAME" "Lcom/example/guarantee/guarantee/model/Expression$Operator;" (.ref (r 3))) (S_VARIABLE : Sta Z Z.heap "com/example/guarantee/guarantee/model/Expression$Operator" "VARIABLE" "Lcom/example/guarantee/guarantee/model/Expression$Operator;" (.ref (r 4))) (S_LITERAL : Sta Z Z.heap "com/example/guarantee/guarantee/model/Expression$Operator" "LITERAL" "Lcom/example/guarantee/guarantee/model/Expression$Operator;" (.ref (r 5))) (S_DEFINE : Sta Z Z.heap "com/example/guarantee/guarantee/model/Expression$Operator" "DEFINE" "Lcom/example/guarantee/guarantee/model/Expression$Operator;" (.ref (r 6))) (S_INSTANCE : Sta Z Z.heap "com/example/guarantee/guarantee/model/Expression$Operator" "INSTANCE" "Lcom/example/guarantee/guarantee/model/Expression$Operator;" (.ref (r 7))) (S_PREDICATE : Sta Z Z.heap "com/example/guarantee/guarantee/model/Expression$Operator" "PREDICATE" "Lcom/example/guarantee/guarantee/model/Expression$Operator;" (.ref (r 8))) (S_ELEMENT : Sta Z Z.heap "com/example/guarantee/guarantee/model/Expression$Operator" "ELEMENT" "Lcom/example/guarantee/guarantee/model/Expression$Operator;" (.ref (r 9))) (S_PROPERTY : Sta Z Z.heap "com/example/guarantee/guarantee/model/Expression$Operator" "PROPERTY" "Lcom/example/guarantee/guarantee/model/Expression$Operator;" (.ref (r 10))) (S_FORALL : Sta Z Z.heap "com/example/guarantee/guarantee/model/Expression$Operator" "FORALL" "Lcom/example/guarantee/guarantee/model/Expression$Operator;" (.ref (r 11))) (S_EXISTS : Sta Z Z.heap "com/example/guarantee/guarantee/model/Expression$Operator" "EXISTS" "Lcom/example/guarantee/guarantee/model/Expression$Operator;" (.ref (r 12))) (S_NOT : Sta Z Z.heap "com/example/guarantee/guarantee/model/Expression$Operator" "NOT" "Lcom/example/guarantee/guarantee/model/Expression$Operator;" (.ref (r 13))) (S_NEGATE : Sta Z Z.heap "com/example/guarantee/guarantee/model/Expression$Operator" "NEGATE" "Lcom/example/guarantee/guarantee/model/Expression$Operator;" (.ref (r 14))) (S_NEXT : Sta Z Z.heap "com/example/guarantee/guarantee/model/Expression$Operator" "NEXT" "Lcom/example/guarantee/guarantee/model/Expression$Operator;" (.ref (r 15))) (S_PREV : Sta Z Z.heap "com/example/guarantee/guarantee/model/Expression$Operator" "PREV" "Lcom/example/guarantee/guarantee/model/Expression$Operator;" (.ref (r 16))) (S_ONCE : Sta Z Z.heap "com/example/guarantee/guarantee/model/Expression$Operator" "ONCE" "Lcom/example/guarantee/guarantee/model/Expression$Operator;" (.ref (r 17))) (S_HISTORICALLY : Sta Z Z.heap "com/example/guarantee/guarantee/model/Expression$Operator" "HISTORICALLY" "Lcom/example/guarantee/guarantee/model/Expression$Operator;" (.ref (r 18))) (S_TIMES : Sta Z Z.heap "com/example/guarantee/guarantee/model/Expression$Operator" "TIMES" "Lcom/example/guarantee/guarantee/model/Expression$Operator;" (.ref (r 19))) (S_DIVIDE : Sta Z Z.heap "com/example/guarantee/guarantee/model/Expression$Operator" "DIVIDE" "Lcom/example/guarantee/guarantee/model/Expression$Operator;" (.ref (r 20))) (S_MODULO : Sta Z Z.heap "com/example/guarantee/guarantee/model/Expression$Operator" "MODULO" "Lcom/example/guarantee/guarantee/model/Expression$Operator;" (.ref (r 21))) (S_PLUS : Sta Z Z.heap "com/example/guarantee/guarantee/model/Expression$Operator" "PLUS" "Lcom/example/guarantee/guarantee/model/Expression$Operator;" (.ref (r 22))) (S_MINUS : Sta Z Z.heap "com/example/guarantee/guarantee/model/Expression$Operator" "MINUS" "Lcom/example/guarantee/guarantee/model/Expression$Operator;" (.ref (r 23))) (S_EQUALS : Sta Z Z.heap "com/example/guarantee/guarantee/model/Expression$Operator" "EQUALS" "Lcom/example/guarantee/guarantee/model/Expression$Operator;" (.ref (r 24))) (S_NOT_EQUALS : Sta Z Z.heap "com/example/guarantee/guarantee/model/Expression$Operator" "NOT_EQUALS" "Lcom/example/guarantee/guarantee/model/Expression$Operator;" (.ref (r 25))) (S_LESS : Sta Z Z.heap "com/example/guarantee/guarantee/model/Expression$Operator" "LESS" "Lcom/example/guarantee/guarantee/model/Expression$Operator;" (.ref (r 26))) (S_LESS_EQUAL : Sta Z Z.heap "com/example/guarantee/guarantee/model/Expression$Operator" "LESS_EQUAL" "Lcom/example/guarantee/guarantee/model/Expression$Operator;" (.ref (r 27))) (S_GREATER : Sta Z Z.heap "com/example/guarantee/guarantee/model/Expression$Operator" "GREATER" "Lcom/example/guarantee/guarantee/model/Expression$Operator;" (.ref (r 28))) (S_GREATER_EQUAL : Sta Z Z.heap "com/example/guarantee/guarantee/model/Expression$Operator" "GREATER_EQUAL" "Lcom/example/guarantee/guarantee/model/Expression$Operator;" (.ref (r 29))) (S_SINCE : Sta Z Z.heap "com/example/guarantee/guarantee/model/Expression$Operator" "SINCE" "Lcom/example/guarantee/guarantee/model/Expression$Operator;" (.ref (r 30))) (S_AND : Sta Z Z.heap "com/example/guarantee/guarantee/model/Expression$Operator" "AND" "Lcom/example/guarantee/guarantee/model/Expression$Operator;" (.ref (r 31))) (S_OR : Sta Z Z.heap "com/example/guarantee/guarantee/model/Expression$Operator" "OR" "Lcom/example/guarantee/guarantee/model/Expression$Operator;" (.ref (r 32))) (S_IFF : Sta Z Z.heap "com/example/guarantee/guarantee/model/Expression$Operator" "IFF" "Lcom/example/guarantee/guarantee/model/Expression$Operator;" (.ref (r 33))) (S_IMPLIES : Sta Z Z.heap "com/example/guarantee/guarantee/model/Expression$Operator" "IMPLIES" "Lcom/example/guarantee/guarantee/model/Expression$Operator;" (.ref (r 34))) (HE : ∀ k, own_K k → Exa Z Z.heap (r k) "com/example/guarantee/guarantee/model/Expression$Operator") (HF : ∀ k, own_K k → Fld Z Z.heap (r k) "java/lang/Enum" "ordinal" "I" (.int k)) :
    MetFree l x (head1 (Jvm.Cond.code x code maxLocals ret :: ws) room_1) (fun a U => a = #[(.int p1)] ∧ Z.Warmed39 U.vm ∧ U.heap = h0) (fun _ _ _ _ _ => True) (fun _ U o U' => ∃ v L, o = .returned v ∧ Q0 Z p1 r h0 n0 v U'.heap L ∧ FrameEnd U o U' L room_1.cells room_1.slots) := by
  refine MetFree.of_bodySF (plainFor_of_name pn_0) hisR ?_
  intro p e s m args below meth c s₁ Bd hml0 hP hK
  obtain ⟨rfl, hZ, hh⟩ := hP
  have hx := Bd.exec
  have hby := Bd.bytes
  have hml : c.maxLocals = 5 := hml0
  have hown : s.vm.findClass "com/example/guarantee/guarantee/model/OperatorIsPastPinLaw" = some m.cls := findClass_of_methodNamed Bd.named
  have hnm := (name_of_methodNamed Bd.named Bd.method).1
  have X0 : Stand p l e room_1 s m #[(.int p1)] below meth c s₁ [] 0 0 := Stand.of_body Bd
  have e0 : s₁.heap = h0 := by rw [← hh, Bd.state]; rfl
  have N0 := Fr.nil n0
  have K0 := Keep.refl h0 []
  have go0 : Goes p e below s₁ (entryFrame m #[(.int p1)] maxLocals) s₁ (mkF m 0 #[.val (.int p1), .unset, .unset, .unset, .unset] []) := fun t k => castTop (ef_rm0 m p1) k
  obtain ⟨_, _, ⟨T1, L1, k1, n1⟩, -, X1, ⟨Lc1, hQ1, l1, y1, z1⟩, st1⟩ := Jvm.LawKit.callS X0 hx (y := (⟨"com/example/guarantee/guarantee/model/OperatorIsPastPinLaw", "all", "()[Lcom/example/guarantee/guarantee/model/Expression$Operator;"⟩ : MethodName)) hown (mvT hZ (hw _ (List.mem_of_getElem? (i := 0) rfl))) (mvT hZ (hw _ (List.mem_of_getElem? (i := 1) rfl))) (mvT hZ (hw _ (List.mem_of_getElem? (i := 2) rfl))) (mvT hZ (hw _ (List.mem_of_getElem? (i := 3) rfl))) (by decide) (backOf (W := 0) (rm1 l Z a0 hw [] r h0 n0 Z0 O0 S_TRUE S_FALSE S_INTEGER S_NAME S_VARIABLE S_LITERAL S_DEFINE S_INSTANCE S_PREDICATE S_ELEMENT S_PROPERTY S_FORALL S_EXISTS S_NOT S_NEGATE S_NEXT S_PREV S_ONCE S_HISTORICALLY S_TIMES S_DIVIDE S_MODULO S_PLUS S_MINUS S_EQUALS S_NOT_EQUALS S_LESS S_LESS_EQUAL S_GREATER S_GREATER_EQUAL S_SINCE S_AND S_OR S_IFF S_IMPLIES HE) hZ (hw _ (List.mem_of_getElem? (i := 3) rfl)) (hw _ (List.mem_of_getElem? (i := 2) rfl)) (by decide) (by decide)) (g := (mkF m 0 #[.val (.int p1), .unset, .unset, .unset, .unset] [])) rfl (by rw [hml]; rfl) (argsL := []) (rest := []) (lenOf pd_0 rfl) rfl (by show 2 * 0 + _ ≤ _; exact Nat.le_of_eq rfl) (hb hby at_0) (fun _ _ => ⟨rfl, e0, (by decide : 0 + 1 ≤ room_1.cells), (by decide : 0 + 35 ≤ room_1.slots)⟩)
  dsimp only [Pt.U, Pt.locs, Pt.cells, Pt.slots] at X1 l1 y1 z1 st1 hQ1
  subst l1 y1 z1
  obtain ⟨bb1, kk1, rfl, N1q, Kq1, gn1, V1⟩ := hQ1
  have N1 := Fr.app N0 N1q
  have O2 := O0.keep Kq1 all0
  have Z3 := Nat.le_trans Z0 Kq1.1
  have K4 := K0.trans Kq1 all0
  have go5 : Goes p e below s₁ (entryFrame m #[(.int p1)] maxLocals) T1 (mkF m 3 #[.val (.int p1), .unset, .unset, .unset, .unset] [(.ref bb1)]) := fun t k => go0 t (st1 t k)
  have go6 : Goes p e below s₁ (entryFrame m #[(.int p1)] maxLocals) T1 (mkF m 11 #[.val (.int p1), .val (.ref bb1), .unset, .unset, .unset] [(.int ((p1 &&& (2147483647 : Int32)) % (35 : Int32)))]) := fun t k => by
    refine go5 t ?_
    refine XS.astoreN X1.here hx rfl (hb hby at_3) rfl rfl (l' := #[.val (.int p1), .val (.ref bb1), .unset, .unset, .unset]) rfl ?_
    show Steps p.tables e below (T1.setTop (mkF m 4 #[.val (.int p1), .val (.ref bb1), .unset, .unset, .unset] [])) _
    refine XS.iloadN X1.here hx rfl (hb hby at_4) rfl ?_
    show Steps p.tables e below (T1.setTop (mkF m 5 #[.val (.int p1), .val (.ref bb1), .unset, .unset, .unset] [(.int p1)])) _
    refine X1.ldcInt hx hown (mvT hZ (hw _ (List.mem_of_getElem? (i := 78) rfl))) (g := (mkF m 5 #[.val (.int p1), .val (.ref bb1), .unset, .unset, .unset] [(.int p1)])) rfl (hb hby at_5) _ ?_
    show Steps p.tables e below (T1.setTop (mkF m 7 #[.val (.int p1), .val (.ref bb1), .unset, .unset, .unset] [(.int (2147483647 : Int32)), (.int p1)])) _
    refine XS.iand X1.here hx rfl (hb hby at_7) rfl ?_
    show Steps p.tables e below (T1.setTop (mkF m 8 #[.val (.int p1), .val (.ref bb1), .unset, .unset, .unset] [(.int (p1 &&& (2147483647 : Int32)))])) _
    refine XS.bipush X1.here hx rfl (hb hby at_8) ?_
    show Steps p.tables e below (T1.setTop (mkF m 10 #[.val (.int p1), .val (.ref bb1), .unset, .unset, .unset] [(.int (35 : Int32)), (.int (p1 &&& (2147483647 : Int32)))])) _
    refine iremM X1 hx rfl (hb hby at_10) rfl (by decide) ?_
    show Steps p.tables e below (T1.setTop (mkF m 11 #[.val (.int p1), .val (.ref bb1), .unset, .unset, .unset] [(.int ((p1 &&& (2147483647 : Int32)) % (35 : Int32)))])) _
    exact k
  obtain ⟨kx, h_kx⟩ : ∃ z : Int32, z = ((p1 &&& (2147483647 : Int32)) % (35 : Int32)) := ⟨_, rfl⟩
  have go7 : Goes p e below s₁ (entryFrame m #[(.int p1)] maxLocals) T1 (mkF m 11 #[.val (.int p1), .val (.ref bb1), .unset, .unset, .unset] [(.int kx)]) := by rw [h_kx]; exact go6
  have hk : own_K kx := h_kx ▸ own_K_of p1
  have EJ := HE kx hk
  have RJ : ∀ i, own_K i → (r kx = r i ↔ kx = i) := fun i hi => ⟨fun q => Classical.byContradiction fun hne => (HF kx hk).ne (HF i hi) (fun h => hne (Value.int.inj h)) q, fun q => by rw [q]⟩
  have go8 : Goes p e below s₁ (entryFrame m #[(.int p1)] maxLocals) T1 (mkF m 14 #[.val (.int p1), .val (.ref bb1), .val (.int kx), .unset, .unset] [(.int kx), (.ref bb1)]) := fun t k => by
    refine go7 t ?_
    refine XS.istoreN X1.here hx rfl (hb hby at_11) rfl (l' := #[.val (.int p1), .val (.ref bb1), .val (.int kx), .unset, .unset]) rfl ?_
    show Steps p.tables e below (T1.setTop (mkF m 12 #[.val (.int p1), .val (.ref bb1), .val (.int kx), .unset, .unset] [])) _
    refine XS.aloadN X1.here hx rfl (hb hby at_12) rfl rfl ?_
    show Steps p.tables e below (T1.setTop (mkF m 13 #[.val (.int p1), .val (.ref bb1), .val (.int kx), .unset, .unset] [(.ref bb1)])) _
    refine XS.iloadN X1.here hx rfl (hb hby at_13) rfl ?_
    show Steps p.tables e below (T1.setTop (mkF m 14 #[.val (.int p1), .val (.ref bb1), .val (.int kx), .unset, .unset] [(.int kx), (.ref bb1)])) _
    exact k
  obtain ⟨cl9, Ar9, kq9, Sz9, Nn9, Hs9, Gf9⟩ := V1
  have hin9 : ¬ (kx < 0 ∨ cl9.slots.size ≤ (kx).toNatClampNeg) := inb_of Sz9 (by unfold own_K at hk; rcases hk with h | h | h | h | h | h | h | h | h | h | h | h | h | h | h | h | h | h | h | h | h | h | h | h | h | h | h | h | h | h | h | h | h | h | h <;> rw [h] <;> decide)
  have hat9 : cl9.slots[(kx).toNatClampNeg]? = some (.ref (r kx)) := Has.at Hs9 hin9 (by unfold own_K at hk; rcases hk with h | h | h | h | h | h | h | h | h | h | h | h | h | h | h | h | h | h | h | h | h | h | h | h | h | h | h | h | h | h | h | h | h | h | h <;> rw [h] <;> rfl)
  have go10 : Goes p e below s₁ (entryFrame m #[(.int p1)] maxLocals) T1 (mkF m 19 #[.val (.int p1), .val (.ref bb1), .val (.int kx), .val (.ref (r kx)), .unset] [(.int (16 : Int32)), (.int kx)]) := fun t k => by
    refine go8 t ?_
    refine X1.aaload hx (j := kx) (v := (.ref (r kx))) (own_hp rfl Ar9.1) (State.isArrayOf_alike hZ.alike Ar9.2.1) rfl Ar9.2.2 hin9 hat9 (g := (mkF m 14 #[.val (.int p1), .val (.ref bb1), .val (.int kx), .unset, .unset] [(.int kx), (.ref bb1)])) rfl rfl (hb hby at_14) _ ?_
    show Steps p.tables e below (T1.setTop (mkF m 15 #[.val (.int p1), .val (.ref bb1), .val (.int kx), .unset, .unset] [(.ref (r kx))])) _
    refine XS.astoreN X1.here hx rfl (hb hby at_15) rfl rfl (l' := #[.val (.int p1), .val (.ref bb1), .val (.int kx), .val (.ref (r kx)), .unset]) rfl ?_
    show Steps p.tables e below (T1.setTop (mkF m 16 #[.val (.int p1), .val (.ref bb1), .val (.int kx), .val (.ref (r kx)), .unset] [])) _
    refine XS.iloadN X1.here hx rfl (hb hby at_16) rfl ?_
    show Steps p.tables e below (T1.setTop (mkF m 17 #[.val (.int p1), .val (.ref bb1), .val (.int kx), .val (.ref (r kx)), .unset] [(.int kx)])) _
    refine XS.bipush X1.here hx rfl (hb hby at_17) ?_
    show Steps p.tables e below (T1.setTop (mkF m 19 #[.val (.int p1), .val (.ref bb1), .val (.int kx), .val (.ref (r kx)), .unset] [(.int (16 : Int32)), (.int kx)])) _
    exact k
  by_cases hc11 : kx = (16 : Int32)
  · have go12 : Goes p e below s₁ (entryFrame m #[(.int p1)] maxLocals) T1 (mkF m 48 #[.val (.int p1), .val (.ref bb1), .val (.int kx), .val (.ref (r kx)), .val (.int (1 : Int32))] [(.ref (r kx))]) := fun t k => by
      refine go10 t ?_
      refine XS.icmpYes X1.here hx rfl (pc0 := 19) (pc' := 40) rfl (hb hby at_19) rfl (Jvm.Free.XT.ii_eq_t hc11) (by decide) (by decide) ?_
      show Steps p.tables e below (T1.setTop (mkF m 40 #[.val (.int p1), .val (.ref bb1), .val (.int kx), .val (.ref (r kx)), .unset] [])) _
      refine XS.iconst X1.here hx rfl (hb hby at_40) ?_
      show Steps p.tables e below (T1.setTop (mkF m 41 #[.val (.int p1), .val (.ref bb1), .val (.int kx), .val (.ref (r kx)), .unset] [(.int (1 : Int32))])) _
      refine XS.goto X1.here hx rfl (pc0 := 41) (pc' := 45) rfl (hb hby at_41) (by decide) (by decide) ?_
      show Steps p.tables e below (T1.setTop (mkF m 45 #[.val (.int p1), .val (.ref bb1), .val (.int kx), .val (.ref (r kx)), .unset] [(.int (1 : Int32))])) _
      refine XS.istore X1.here hx rfl (hb hby at_45) rfl (l' := #[.val (.int p1), .val (.ref bb1), .val (.int kx), .val (.ref (r kx)), .val (.int (1 : Int32))]) rfl ?_
      show Steps p.tables e below (T1.setTop (mkF m 47 #[.val (.int p1), .val (.ref bb1), .val (.int kx), .val (.ref (r kx)), .val (.int (1 : Int32))] [])) _
      refine XS.aloadN X1.here hx rfl (hb hby at_47) rfl rfl ?_
      show Steps p.tables e below (T1.setTop (mkF m 48 #[.val (.int p1), .val (.ref bb1), .val (.int kx), .val (.ref (r kx)), .val (.int (1 : Int32))] [(.ref (r kx))])) _
      exact k
    obtain ⟨cq13, kq13, q13a, q13b, q13c⟩ := isOf hZ rfl (EJ.ext O2.2)
    obtain ⟨_, _, ⟨T13, L13, k13, n13⟩, -, X13, ⟨Lc13, hQ13, l13, y13, z13⟩, st13⟩ := X1.virtualBack hx (y := (⟨"com/example/guarantee/guarantee/model/Expression$Operator", "isPast", "()Z"⟩ : MethodName)) (z := (⟨"com/example/guarantee/guarantee/model/Expression$Operator", "isPast", "()Z"⟩ : MethodName)) hown (mvT hZ (hw _ (List.mem_of_getElem? (i := 79) rfl))) (mvT hZ (hw _ (List.mem_of_getElem? (i := 80) rfl))) (notFace_of_selects (args := #[]) (mvT hZ (hw _ (List.mem_of_getElem? (i := 82) rfl)))) (mvT hZ (hw _ (List.mem_of_getElem? (i := 82) rfl))) (mvT hZ (hw _ (List.mem_of_getElem? (i := 81) rfl))) (by decide) (backOf (W := 0) (rm2 l Z a0 hw [] (r kx) (r 16) (r 17) (r 18) (r 30) T1.heap n0 Z3 O2 S_PREV S_ONCE S_HISTORICALLY S_SINCE) hZ (hw _ (List.mem_of_getElem? (i := 83) rfl)) (hw _ (List.mem_of_getElem? (i := 7) rfl)) (by decide) (by decide)) q13a q13c (g := (mkF m 48 #[.val (.int p1), .val (.ref bb1), .val (.int kx), .val (.ref (r kx)), .val (.int (1 : Int32))] [(.ref (r kx))])) rfl (by rw [hml]; rfl) (Steps.refl _) (argsL := []) (rest := []) (lenOf pd_1 rfl) rfl (by show 2 * 0 + _ ≤ _; exact Nat.le_of_eq rfl) (hb hby at_48) (fun _ _ => ⟨rfl, rfl, (by decide : 1 + 0 ≤ room_1.cells), (by decide : 35 + 0 ≤ room_1.slots)⟩)
    dsimp only [Pt.U, Pt.locs, Pt.cells, Pt.slots] at X13 l13 y13 z13 st13 hQ13
    subst l13 y13 z13
    obtain ⟨rfl, N13q, e13⟩ := hQ13
    have N13 := Fr.app N1 N13q
    have go14 : Goes p e below s₁ (entryFrame m #[(.int p1)] maxLocals) T13 (mkF m 51 #[.val (.int p1), .val (.ref bb1), .val (.int kx), .val (.ref (r kx)), .val (.int (1 : Int32))] [(.int (if r kx = r 16 ∨ r kx = r 17 ∨ r kx = r 18 ∨ r kx = r 30 then 1 else 0))]) := fun t k => go12 t (st13.trans k)
    have go15 : Goes p e below s₁ (entryFrame m #[(.int p1)] maxLocals) T13 (mkF m 53 #[.val (.int p1), .val (.ref bb1), .val (.int kx), .val (.ref (r kx)), .val (.int (1 : Int32))] [(.int (1 : Int32)), (.int (if r kx = r 16 ∨ r kx = r 17 ∨ r kx = r 18 ∨ r kx = r 30 then 1 else 0))]) := fun t k => by
      refine go14 t ?_
      refine XS.iload X13.here hx rfl (hb hby at_51) rfl ?_
      show Steps p.tables e below (T13.setTop (mkF m 53 #[.val (.int p1), .val (.ref bb1), .val (.int kx), .val (.ref (r kx)), .val (.int (1 : Int32))] [(.int (1 : Int32)), (.int (if r kx = r 16 ∨ r kx = r 17 ∨ r kx = r 18 ∨ r kx = r 30 then 1 else 0))])) _
      exact k
    have go16 : Goes p e below s₁ (entryFrame m #[(.int p1)] maxLocals) T13 (mkF m 61 #[.val (.int p1), .val (.ref bb1), .val (.int kx), .val (.ref (r kx)), .val (.int (1 : Int32))] [(.int (1 : Int32))]) := fun t k => by
      refine go15 t ?_
      refine XS.icmpNo X13.here hx rfl (hb hby at_53) rfl (Jvm.Free.XT.ii_ne_f (by simp [RJ 16 (by unfold own_K; decide), RJ 17 (by unfold own_K; decide), RJ 18 (by unfold own_K; decide), RJ 30 (by unfold own_K; decide), hc11])) ?_
      show Steps p.tables e below (T13.setTop (mkF m 56 #[.val (.int p1), .val (.ref bb1), .val (.int kx), .val (.ref (r kx)), .val (.int (1 : Int32))] [])) _
      refine XS.iconst X13.here hx rfl (hb hby at_56) ?_
      show Steps p.tables e below (T13.setTop (mkF m 57 #[.val (.int p1), .val (.ref bb1), .val (.int kx), .val (.ref (r kx)), .val (.int (1 : Int32))] [(.int (1 : Int32))])) _
      refine XS.goto X13.here hx rfl (pc0 := 57) (pc' := 61) rfl (hb hby at_57) (by decide) (by decide) ?_
      show Steps p.tables e below (T13.setTop (mkF m 61 #[.val (.int p1), .val (.ref bb1), .val (.int kx), .val (.ref (r kx)), .val (.int (1 : Int32))] [(.int (1 : Int32))])) _
      exact k
    obtain ⟨fs, hr, hrun, hended, hW, hsame⟩ := X13.leave (v := some (.int (1 : Int32))) (fun h => by rw [Bd.returns] at h; cases h)
    refine ⟨_, _, go16 _ ?_, hrun, hended, _, _, rfl, ?_, ⟨_, rfl⟩, hW, hsame.mono (by decide) (by decide)⟩
    · exact retN X13 hx (t := .boolean) Bd.returns (by simp) (hb hby at_61) hr
    · show Q0 Z _ _ _ _ _ T13.heap _
      rw [e13]
      exact ⟨rfl, N13⟩
  · have go17 : Goes p e below s₁ (entryFrame m #[(.int p1)] maxLocals) T1 (mkF m 25 #[.val (.int p1), .val (.ref bb1), .val (.int kx), .val (.ref (r kx)), .unset] [(.int (17 : Int32)), (.int kx)]) := fun t k => by
      refine go10 t ?_
      refine XS.icmpNo X1.here hx rfl (hb hby at_19) rfl (Jvm.Free.XT.ii_eq_f hc11) ?_
      show Steps p.tables e below (T1.setTop (mkF m 22 #[.val (.int p1), .val (.ref bb1), .val (.int kx), .val (.ref (r kx)), .unset] [])) _
      refine XS.iloadN X1.here hx rfl (hb hby at_22) rfl ?_
      show Steps p.tables e below (T1.setTop (mkF m 23 #[.val (.int p1), .val (.ref bb1), .val (.int kx), .val (.ref (r kx)), .unset] [(.int kx)])) _
      refine XS.bipush X1.here hx rfl (hb hby at_23) ?_
      show Steps p.tables e below (T1.setTop (mkF m 25 #[.val (.int p1), .val (.ref bb1), .val (.int kx), .val (.ref (r kx)), .unset] [(.int (17 : Int32)), (.int kx)])) _
      exact k
    by_cases hc18 : kx = (17 : Int32)
    · have go19 : Goes p e below s₁ (entryFrame m #[(.int p1)] maxLocals) T1 (mkF m 48 #[.val (.int p1), .val (.ref bb1), .val (.int kx), .val (.ref (r kx)), .val (.int (1 : Int32))] [(.ref (r kx))]) := fun t k => by
        refine go17 t ?_
        refine XS.icmpYes X1.here hx rfl (pc0 := 25) (pc' := 40) rfl (hb hby at_25) rfl (Jvm.Free.XT.ii_eq_t hc18) (by decide) (by decide) ?_
        show Steps p.tables e below (T1.setTop (mkF m 40 #[.val (.int p1), .val (.ref bb1), .val (.int kx), .val (.ref (r kx)), .unset] [])) _
        refine XS.iconst X1.here hx rfl (hb hby at_40) ?_
        show Steps p.tables e below (T1.setTop (mkF m 41 #[.val (.int p1), .val (.ref bb1), .val (.int kx), .val (.ref (r kx)), .unset] [(.int (1 : Int32))])) _
        refine XS.goto X1.here hx rfl (pc0 := 41) (pc' := 45) rfl (hb hby at_41) (by decide) (by decide) ?_
        show Steps p.tables e below (T1.setTop (mkF m 45 #[.val (.int p1), .val (.ref bb1), .val (.int kx), .val (.ref (r kx)), .unset] [(.int (1 : Int32))])) _
        refine XS.istore X1.here hx rfl (hb hby at_45) rfl (l' := #[.val (.int p1), .val (.ref bb1), .val (.int kx), .val (.ref (r kx)), .val (.int (1 : Int32))]) rfl ?_
        show Steps p.tables e below (T1.setTop (mkF m 47 #[.val (.int p1), .val (.ref bb1), .val (.int kx), .val (.ref (r kx)), .val (.int (1 : Int32))] [])) _
        refine XS.aloadN X1.here hx rfl (hb hby at_47) rfl rfl ?_
        show Steps p.tables e below (T1.setTop (mkF m 48 #[.val (.int p1), .val (.ref bb1), .val (.int kx), .val (.ref (r kx)), .val (.int (1 : Int32))] [(.ref (r kx))])) _
        exact k
      obtain ⟨cq20, kq20, q20a, q20b, q20c⟩ := isOf hZ rfl (EJ.ext O2.2)
      obtain ⟨_, _, ⟨T20, L20, k20, n20⟩, -, X20, ⟨Lc20, hQ20, l20, y20, z20⟩, st20⟩ := X1.virtualBack hx (y := (⟨"com/example/guarantee/guarantee/model/Expression$Operator", "isPast", "()Z"⟩ : MethodName)) (z := (⟨"com/example/guarantee/guarantee/model/Expression$Operator", "isPast", "()Z"⟩ : MethodName)) hown (mvT hZ (hw _ (List.mem_of_getElem? (i := 79) rfl))) (mvT hZ (hw _ (List.mem_of_getElem? (i := 80) rfl))) (notFace_of_selects (args := #[]) (mvT hZ (hw _ (List.mem_of_getElem? (i := 82) rfl)))) (mvT hZ (hw _ (List.mem_of_getElem? (i := 82) rfl))) (mvT hZ (hw _ (List.mem_of_getElem? (i := 81) rfl))) (by decide) (backOf (W := 0) (rm2 l Z a0 hw [] (r kx) (r 16) (r 17) (r 18) (r 30) T1.heap n0 Z3 O2 S_PREV S_ONCE S_HISTORICALLY S_SINCE) hZ (hw _ (List.mem_of_getElem? (i := 83) rfl)) (hw _ (List.mem_of_getElem? (i := 7) rfl)) (by decide) (by decide)) q20a q20c (g := (mkF m 48 #[.val (.int p1), .val (.ref bb1), .val (.int kx), .val (.ref (r kx)), .val (.int (1 : Int32))] [(.ref (r kx))])) rfl (by rw [hml]; rfl) (Steps.refl _) (argsL := []) (rest := []) (lenOf pd_1 rfl) rfl (by show 2 * 0 + _ ≤ _; exact Nat.le_of_eq rfl) (hb hby at_48) (fun _ _ => ⟨rfl, rfl, (by decide : 1 + 0 ≤ room_1.cells), (by decide : 35 + 0 ≤ room_1.slots)⟩)
      dsimp only [Pt.U, Pt.locs, Pt.cells, Pt.slots] at X20 l20 y20 z20 st20 hQ20
      subst l20 y20 z20
      obtain ⟨rfl, N20q, e20⟩ := hQ20
      have N20 := Fr.app N1 N20q
      have go21 : Goes p e below s₁ (entryFrame m #[(.int p1)] maxLocals) T20 (mkF m 51 #[.val (.int p1), .val (.ref bb1), .val (.int kx), .val (.ref (r kx)), .val (.int (1 : Int32))] [(.int (if r kx = r 16 ∨ r kx = r 17 ∨ r kx = r 18 ∨ r kx = r 30 then 1 else 0))]) := fun t k => go19 t (st20.trans k)
      have go22 : Goes p e below s₁ (entryFrame m #[(.int p1)] maxLocals) T20 (mkF m 53 #[.val (.int p1), .val (.ref bb1), .val (.int kx), .val (.ref (r kx)), .val (.int (1 : Int32))] [(.int (1 : Int32)), (.int (if r kx = r 16 ∨ r kx = r 17 ∨ r kx = r 18 ∨ r kx = r 30 then 1 else 0))]) := fun t k => by
        refine go21 t ?_
        refine XS.iload X20.here hx rfl (hb hby at_51) rfl ?_
        show Steps p.tables e below (T20.setTop (mkF m 53 #[.val (.int p1), .val (.ref bb1), .val (.int kx), .val (.ref (r kx)), .val (.int (1 : Int32))] [(.int (1 : Int32)), (.int (if r kx = r 16 ∨ r kx = r 17 ∨ r kx = r 18 ∨ r kx = r 30 then 1 else 0))])) _
        exact k
      have go23 : Goes p e below s₁ (entryFrame m #[(.int p1)] maxLocals) T20 (mkF m 61 #[.val (.int p1), .val (.ref bb1), .val (.int kx), .val (.ref (r kx)), .val (.int (1 : Int32))] [(.int (1 : Int32))]) := fun t k => by
        refine go22 t ?_
        refine XS.icmpNo X20.here hx rfl (hb hby at_53) rfl (Jvm.Free.XT.ii_ne_f (by simp [RJ 16 (by unfold own_K; decide), RJ 17 (by unfold own_K; decide), RJ 18 (by unfold own_K; decide), RJ 30 (by unfold own_K; decide), hc11, hc18])) ?_
        show Steps p.tables e below (T20.setTop (mkF m 56 #[.val (.int p1), .val (.ref bb1), .val (.int kx), .val (.ref (r kx)), .val (.int (1 : Int32))] [])) _
        refine XS.iconst X20.here hx rfl (hb hby at_56) ?_
        show Steps p.tables e below (T20.setTop (mkF m 57 #[.val (.int p1), .val (.ref bb1), .val (.int kx), .val (.ref (r kx)), .val (.int (1 : Int32))] [(.int (1 : Int32))])) _
        refine XS.goto X20.here hx rfl (pc0 := 57) (pc' := 61) rfl (hb hby at_57) (by decide) (by decide) ?_
        show Steps p.tables e below (T20.setTop (mkF m 61 #[.val (.int p1), .val (.ref bb1), .val (.int kx), .val (.ref (r kx)), .val (.int (1 : Int32))] [(.int (1 : Int32))])) _
        exact k
      obtain ⟨fs, hr, hrun, hended, hW, hsame⟩ := X20.leave (v := some (.int (1 : Int32))) (fun h => by rw [Bd.returns] at h; cases h)
      refine ⟨_, _, go23 _ ?_, hrun, hended, _, _, rfl, ?_, ⟨_, rfl⟩, hW, hsame.mono (by decide) (by decide)⟩
      · exact retN X20 hx (t := .boolean) Bd.returns (by simp) (hb hby at_61) hr
      · show Q0 Z _ _ _ _ _ T20.heap _
        rw [e20]
        exact ⟨rfl, N20⟩
    · have go24 : Goes p e below s₁ (entryFrame m #[(.int p1)] maxLocals) T1 (mkF m 31 #[.val (.int p1), .val (.ref bb1), .val (.int kx), .val (.ref (r kx)), .unset] [(.int (18 : Int32)), (.int kx)]) := fun t k => by
        refine go17 t ?_
        refine XS.icmpNo X1.here hx rfl (hb hby at_25) rfl (Jvm.Free.XT.ii_eq_f hc18) ?_
        show Steps p.tables e below (T1.setTop (mkF m 28 #[.val (.int p1), .val (.ref bb1), .val (.int kx), .val (.ref (r kx)), .unset] [])) _
        refine XS.iloadN X1.here hx rfl (hb hby at_28) rfl ?_
        show Steps p.tables e below (T1.setTop (mkF m 29 #[.val (.int p1), .val (.ref bb1), .val (.int kx), .val (.ref (r kx)), .unset] [(.int kx)])) _
        refine XS.bipush X1.here hx rfl (hb hby at_29) ?_
        show Steps p.tables e below (T1.setTop (mkF m 31 #[.val (.int p1), .val (.ref bb1), .val (.int kx), .val (.ref (r kx)), .unset] [(.int (18 : Int32)), (.int kx)])) _
        exact k
      by_cases hc25 : kx = (18 : Int32)
      · have go26 : Goes p e below s₁ (entryFrame m #[(.int p1)] maxLocals) T1 (mkF m 48 #[.val (.int p1), .val (.ref bb1), .val (.int kx), .val (.ref (r kx)), .val (.int (1 : Int32))] [(.ref (r kx))]) := fun t k => by
          refine go24 t ?_
          refine XS.icmpYes X1.here hx rfl (pc0 := 31) (pc' := 40) rfl (hb hby at_31) rfl (Jvm.Free.XT.ii_eq_t hc25) (by decide) (by decide) ?_
          show Steps p.tables e below (T1.setTop (mkF m 40 #[.val (.int p1), .val (.ref bb1), .val (.int kx), .val (.ref (r kx)), .unset] [])) _
          refine XS.iconst X1.here hx rfl (hb hby at_40) ?_
          show Steps p.tables e below (T1.setTop (mkF m 41 #[.val (.int p1), .val (.ref bb1), .val (.int kx), .val (.ref (r kx)), .unset] [(.int (1 : Int32))])) _
          refine XS.goto X1.here hx rfl (pc0 := 41) (pc' := 45) rfl (hb hby at_41) (by decide) (by decide) ?_
          show Steps p.tables e below (T1.setTop (mkF m 45 #[.val (.int p1), .val (.ref bb1), .val (.int kx), .val (.ref (r kx)), .unset] [(.int (1 : Int32))])) _
          refine XS.istore X1.here hx rfl (hb hby at_45) rfl (l' := #[.val (.int p1), .val (.ref bb1), .val (.int kx), .val (.ref (r kx)), .val (.int (1 : Int32))]) rfl ?_
          show Steps p.tables e below (T1.setTop (mkF m 47 #[.val (.int p1), .val (.ref bb1), .val (.int kx), .val (.ref (r kx)), .val (.int (1 : Int32))] [])) _
          refine XS.aloadN X1.here hx rfl (hb hby at_47) rfl rfl ?_
          show Steps p.tables e below (T1.setTop (mkF m 48 #[.val (.int p1), .val (.ref bb1), .val (.int kx), .val (.ref (r kx)), .val (.int (1 : Int32))] [(.ref (r kx))])) _
          exact k
        obtain ⟨cq27, kq27, q27a, q27b, q27c⟩ := isOf hZ rfl (EJ.ext O2.2)
        obtain ⟨_, _, ⟨T27, L27, k27, n27⟩, -, X27, ⟨Lc27, hQ27, l27, y27, z27⟩, st27⟩ := X1.virtualBack hx (y := (⟨"com/example/guarantee/guarantee/model/Expression$Operator", "isPast", "()Z"⟩ : MethodName)) (z := (⟨"com/example/guarantee/guarantee/model/Expression$Operator", "isPast", "()Z"⟩ : MethodName)) hown (mvT hZ (hw _ (List.mem_of_getElem? (i := 79) rfl))) (mvT hZ (hw _ (List.mem_of_getElem? (i := 80) rfl))) (notFace_of_selects (args := #[]) (mvT hZ (hw _ (List.mem_of_getElem? (i := 82) rfl)))) (mvT hZ (hw _ (List.mem_of_getElem? (i := 82) rfl))) (mvT hZ (hw _ (List.mem_of_getElem? (i := 81) rfl))) (by decide) (backOf (W := 0) (rm2 l Z a0 hw [] (r kx) (r 16) (r 17) (r 18) (r 30) T1.heap n0 Z3 O2 S_PREV S_ONCE S_HISTORICALLY S_SINCE) hZ (hw _ (List.mem_of_getElem? (i := 83) rfl)) (hw _ (List.mem_of_getElem? (i := 7) rfl)) (by decide) (by decide)) q27a q27c (g := (mkF m 48 #[.val (.int p1), .val (.ref bb1), .val (.int kx), .val (.ref (r kx)), .val (.int (1 : Int32))] [(.ref (r kx))])) rfl (by rw [hml]; rfl) (Steps.refl _) (argsL := []) (rest := []) (lenOf pd_1 rfl) rfl (by show 2 * 0 + _ ≤ _; exact Nat.le_of_eq rfl) (hb hby at_48) (fun _ _ => ⟨rfl, rfl, (by decide : 1 + 0 ≤ room_1.cells), (by decide : 35 + 0 ≤ room_1.slots)⟩)
        dsimp only [Pt.U, Pt.locs, Pt.cells, Pt.slots] at X27 l27 y27 z27 st27 hQ27
        subst l27 y27 z27
        obtain ⟨rfl, N27q, e27⟩ := hQ27
        have N27 := Fr.app N1 N27q
        have go28 : Goes p e below s₁ (entryFrame m #[(.int p1)] maxLocals) T27 (mkF m 51 #[.val (.int p1), .val (.ref bb1), .val (.int kx), .val (.ref (r kx)), .val (.int (1 : Int32))] [(.int (if r kx = r 16 ∨ r kx = r 17 ∨ r kx = r 18 ∨ r kx = r 30 then 1 else 0))]) := fun t k => go26 t (st27.trans k)
        have go29 : Goes p e below s₁ (entryFrame m #[(.int p1)] maxLocals) T27 (mkF m 53 #[.val (.int p1), .val (.ref bb1), .val (.int kx), .val (.ref (r kx)), .val (.int (1 : Int32))] [(.int (1 : Int32)), (.int (if r kx = r 16 ∨ r kx = r 17 ∨ r kx = r 18 ∨ r kx = r 30 then 1 else 0))]) := fun t k => by
          refine go28 t ?_
          refine XS.iload X27.here hx rfl (hb hby at_51) rfl ?_
          show Steps p.tables e below (T27.setTop (mkF m 53 #[.val (.int p1), .val (.ref bb1), .val (.int kx), .val (.ref (r kx)), .val (.int (1 : Int32))] [(.int (1 : Int32)), (.int (if r kx = r 16 ∨ r kx = r 17 ∨ r kx = r 18 ∨ r kx = r 30 then 1 else 0))])) _
          exact k
        have go30 : Goes p e below s₁ (entryFrame m #[(.int p1)] maxLocals) T27 (mkF m 61 #[.val (.int p1), .val (.ref bb1), .val (.int kx), .val (.ref (r kx)), .val (.int (1 : Int32))] [(.int (1 : Int32))]) := fun t k => by
          refine go29 t ?_
          refine XS.icmpNo X27.here hx rfl (hb hby at_53) rfl (Jvm.Free.XT.ii_ne_f (by simp [RJ 16 (by unfold own_K; decide), RJ 17 (by unfold own_K; decide), RJ 18 (by unfold own_K; decide), RJ 30 (by unfold own_K; decide), hc11, hc18, hc25])) ?_
          show Steps p.tables e below (T27.setTop (mkF m 56 #[.val (.int p1), .val (.ref bb1), .val (.int kx), .val (.ref (r kx)), .val (.int (1 : Int32))] [])) _
          refine XS.iconst X27.here hx rfl (hb hby at_56) ?_
          show Steps p.tables e below (T27.setTop (mkF m 57 #[.val (.int p1), .val (.ref bb1), .val (.int kx), .val (.ref (r kx)), .val (.int (1 : Int32))] [(.int (1 : Int32))])) _
          refine XS.goto X27.here hx rfl (pc0 := 57) (pc' := 61) rfl (hb hby at_57) (by decide) (by decide) ?_
          show Steps p.tables e below (T27.setTop (mkF m 61 #[.val (.int p1), .val (.ref bb1), .val (.int kx), .val (.ref (r kx)), .val (.int (1 : Int32))] [(.int (1 : Int32))])) _
          exact k
        obtain ⟨fs, hr, hrun, hended, hW, hsame⟩ := X27.leave (v := some (.int (1 : Int32))) (fun h => by rw [Bd.returns] at h; cases h)
        refine ⟨_, _, go30 _ ?_, hrun, hended, _, _, rfl, ?_, ⟨_, rfl⟩, hW, hsame.mono (by decide) (by decide)⟩
        · exact retN X27 hx (t := .boolean) Bd.returns (by simp) (hb hby at_61) hr
        · show Q0 Z _ _ _ _ _ T27.heap _
          rw [e27]
          exact ⟨rfl, N27⟩
      · have go31 : Goes p e below s₁ (entryFrame m #[(.int p1)] maxLocals) T1 (mkF m 37 #[.val (.int p1), .val (.ref bb1), .val (.int kx), .val (.ref (r kx)), .unset] [(.int (30 : Int32)), (.int kx)]) := fun t k => by
          refine go24 t ?_
          refine XS.icmpNo X1.here hx rfl (hb hby at_31) rfl (Jvm.Free.XT.ii_eq_f hc25) ?_
          show Steps p.tables e below (T1.setTop (mkF m 34 #[.val (.int p1), .val (.ref bb1), .val (.int kx), .val (.ref (r kx)), .unset] [])) _
          refine XS.iloadN X1.here hx rfl (hb hby at_34) rfl ?_
          show Steps p.tables e below (T1.setTop (mkF m 35 #[.val (.int p1), .val (.ref bb1), .val (.int kx), .val (.ref (r kx)), .unset] [(.int kx)])) _
          refine XS.bipush X1.here hx rfl (hb hby at_35) ?_
          show Steps p.tables e below (T1.setTop (mkF m 37 #[.val (.int p1), .val (.ref bb1), .val (.int kx), .val (.ref (r kx)), .unset] [(.int (30 : Int32)), (.int kx)])) _
          exact k
        by_cases hc32 : kx = (30 : Int32)
        · have go33 : Goes p e below s₁ (entryFrame m #[(.int p1)] maxLocals) T1 (mkF m 48 #[.val (.int p1), .val (.ref bb1), .val (.int kx), .val (.ref (r kx)), .val (.int (1 : Int32))] [(.ref (r kx))]) := fun t k => by
            refine go31 t ?_
            refine XS.icmpNo X1.here hx rfl (hb hby at_37) rfl (Jvm.Free.XT.ii_ne_f hc32) ?_
            show Steps p.tables e below (T1.setTop (mkF m 40 #[.val (.int p1), .val (.ref bb1), .val (.int kx), .val (.ref (r kx)), .unset] [])) _
            refine XS.iconst X1.here hx rfl (hb hby at_40) ?_
            show Steps p.tables e below (T1.setTop (mkF m 41 #[.val (.int p1), .val (.ref bb1), .val (.int kx), .val (.ref (r kx)), .unset] [(.int (1 : Int32))])) _
            refine XS.goto X1.here hx rfl (pc0 := 41) (pc' := 45) rfl (hb hby at_41) (by decide) (by decide) ?_
            show Steps p.tables e below (T1.setTop (mkF m 45 #[.val (.int p1), .val (.ref bb1), .val (.int kx), .val (.ref (r kx)), .unset] [(.int (1 : Int32))])) _
            refine XS.istore X1.here hx rfl (hb hby at_45) rfl (l' := #[.val (.int p1), .val (.ref bb1), .val (.int kx), .val (.ref (r kx)), .val (.int (1 : Int32))]) rfl ?_
            show Steps p.tables e below (T1.setTop (mkF m 47 #[.val (.int p1), .val (.ref bb1), .val (.int kx), .val (.ref (r kx)), .val (.int (1 : Int32))] [])) _
            refine XS.aloadN X1.here hx rfl (hb hby at_47) rfl rfl ?_
            show Steps p.tables e below (T1.setTop (mkF m 48 #[.val (.int p1), .val (.ref bb1), .val (.int kx), .val (.ref (r kx)), .val (.int (1 : Int32))] [(.ref (r kx))])) _
            exact k
          obtain ⟨cq34, kq34, q34a, q34b, q34c⟩ := isOf hZ rfl (EJ.ext O2.2)
          obtain ⟨_, _, ⟨T34, L34, k34, n34⟩, -, X34, ⟨Lc34, hQ34, l34, y34, z34⟩, st34⟩ := X1.virtualBack hx (y := (⟨"com/example/guarantee/guarantee/model/Expression$Operator", "isPast", "()Z"⟩ : MethodName)) (z := (⟨"com/example/guarantee/guarantee/model/Expression$Operator", "isPast", "()Z"⟩ : MethodName)) hown (mvT hZ (hw _ (List.mem_of_getElem? (i := 79) rfl))) (mvT hZ (hw _ (List.mem_of_getElem? (i := 80) rfl))) (notFace_of_selects (args := #[]) (mvT hZ (hw _ (List.mem_of_getElem? (i := 82) rfl)))) (mvT hZ (hw _ (List.mem_of_getElem? (i := 82) rfl))) (mvT hZ (hw _ (List.mem_of_getElem? (i := 81) rfl))) (by decide) (backOf (W := 0) (rm2 l Z a0 hw [] (r kx) (r 16) (r 17) (r 18) (r 30) T1.heap n0 Z3 O2 S_PREV S_ONCE S_HISTORICALLY S_SINCE) hZ (hw _ (List.mem_of_getElem? (i := 83) rfl)) (hw _ (List.mem_of_getElem? (i := 7) rfl)) (by decide) (by decide)) q34a q34c (g := (mkF m 48 #[.val (.int p1), .val (.ref bb1), .val (.int kx), .val (.ref (r kx)), .val (.int (1 : Int32))] [(.ref (r kx))])) rfl (by rw [hml]; rfl) (Steps.refl _) (argsL := []) (rest := []) (lenOf pd_1 rfl) rfl (by show 2 * 0 + _ ≤ _; exact Nat.le_of_eq rfl) (hb hby at_48) (fun _ _ => ⟨rfl, rfl, (by decide : 1 + 0 ≤ room_1.cells), (by decide : 35 + 0 ≤ room_1.slots)⟩)
          dsimp only [Pt.U, Pt.locs, Pt.cells, Pt.slots] at X34 l34 y34 z34 st34 hQ34
          subst l34 y34 z34
          obtain ⟨rfl, N34q, e34⟩ := hQ34
          have N34 := Fr.app N1 N34q
          have go35 : Goes p e below s₁ (entryFrame m #[(.int p1)] maxLocals) T34 (mkF m 51 #[.val (.int p1), .val (.ref bb1), .val (.int kx), .val (.ref (r kx)), .val (.int (1 : Int32))] [(.int (if r kx = r 16 ∨ r kx = r 17 ∨ r kx = r 18 ∨ r kx = r 30 then 1 else 0))]) := fun t k => go33 t (st34.trans k)
          have go36 : Goes p e below s₁ (entryFrame m #[(.int p1)] maxLocals) T34 (mkF m 53 #[.val (.int p1), .val (.ref bb1), .val (.int kx), .val (.ref (r kx)), .val (.int (1 : Int32))] [(.int (1 : Int32)), (.int (if r kx = r 16 ∨ r kx = r 17 ∨ r kx = r 18 ∨ r kx = r 30 then 1 else 0))]) := fun t k => by
            refine go35 t ?_
            refine XS.iload X34.here hx rfl (hb hby at_51) rfl ?_
            show Steps p.tables e below (T34.setTop (mkF m 53 #[.val (.int p1), .val (.ref bb1), .val (.int kx), .val (.ref (r kx)), .val (.int (1 : Int32))] [(.int (1 : Int32)), (.int (if r kx = r 16 ∨ r kx = r 17 ∨ r kx = r 18 ∨ r kx = r 30 then 1 else 0))])) _
            exact k
          have go37 : Goes p e below s₁ (entryFrame m #[(.int p1)] maxLocals) T34 (mkF m 61 #[.val (.int p1), .val (.ref bb1), .val (.int kx), .val (.ref (r kx)), .val (.int (1 : Int32))] [(.int (1 : Int32))]) := fun t k => by
            refine go36 t ?_
            refine XS.icmpNo X34.here hx rfl (hb hby at_53) rfl (Jvm.Free.XT.ii_ne_f (by simp [RJ 16 (by unfold own_K; decide), RJ 17 (by unfold own_K; decide), RJ 18 (by unfold own_K; decide), RJ 30 (by unfold own_K; decide), hc11, hc18, hc25, hc32])) ?_
            show Steps p.tables e below (T34.setTop (mkF m 56 #[.val (.int p1), .val (.ref bb1), .val (.int kx), .val (.ref (r kx)), .val (.int (1 : Int32))] [])) _
            refine XS.iconst X34.here hx rfl (hb hby at_56) ?_
            show Steps p.tables e below (T34.setTop (mkF m 57 #[.val (.int p1), .val (.ref bb1), .val (.int kx), .val (.ref (r kx)), .val (.int (1 : Int32))] [(.int (1 : Int32))])) _
            refine XS.goto X34.here hx rfl (pc0 := 57) (pc' := 61) rfl (hb hby at_57) (by decide) (by decide) ?_
            show Steps p.tables e below (T34.setTop (mkF m 61 #[.val (.int p1), .val (.ref bb1), .val (.int kx), .val (.ref (r kx)), .val (.int (1 : Int32))] [(.int (1 : Int32))])) _
            exact k
          obtain ⟨fs, hr, hrun, hended, hW, hsame⟩ := X34.leave (v := some (.int (1 : Int32))) (fun h => by rw [Bd.returns] at h; cases h)
          refine ⟨_, _, go37 _ ?_, hrun, hended, _, _, rfl, ?_, ⟨_, rfl⟩, hW, hsame.mono (by decide) (by decide)⟩
          · exact retN X34 hx (t := .boolean) Bd.returns (by simp) (hb hby at_61) hr
          · show Q0 Z _ _ _ _ _ T34.heap _
            rw [e34]
            exact ⟨rfl, N34⟩
        · have go38 : Goes p e below s₁ (entryFrame m #[(.int p1)] maxLocals) T1 (mkF m 48 #[.val (.int p1), .val (.ref bb1), .val (.int kx), .val (.ref (r kx)), .val (.int (0 : Int32))] [(.ref (r kx))]) := fun t k => by
            refine go31 t ?_
            refine XS.icmpYes X1.here hx rfl (pc0 := 37) (pc' := 44) rfl (hb hby at_37) rfl (Jvm.Free.XT.ii_ne_t hc32) (by decide) (by decide) ?_
            show Steps p.tables e below (T1.setTop (mkF m 44 #[.val (.int p1), .val (.ref bb1), .val (.int kx), .val (.ref (r kx)), .unset] [])) _
            refine XS.iconst X1.here hx rfl (hb hby at_44) ?_
            show Steps p.tables e below (T1.setTop (mkF m 45 #[.val (.int p1), .val (.ref bb1), .val (.int kx), .val (.ref (r kx)), .unset] [(.int (0 : Int32))])) _
            refine XS.istore X1.here hx rfl (hb hby at_45) rfl (l' := #[.val (.int p1), .val (.ref bb1), .val (.int kx), .val (.ref (r kx)), .val (.int (0 : Int32))]) rfl ?_
            show Steps p.tables e below (T1.setTop (mkF m 47 #[.val (.int p1), .val (.ref bb1), .val (.int kx), .val (.ref (r kx)), .val (.int (0 : Int32))] [])) _
            refine XS.aloadN X1.here hx rfl (hb hby at_47) rfl rfl ?_
            show Steps p.tables e below (T1.setTop (mkF m 48 #[.val (.int p1), .val (.ref bb1), .val (.int kx), .val (.ref (r kx)), .val (.int (0 : Int32))] [(.ref (r kx))])) _
            exact k
          obtain ⟨cq39, kq39, q39a, q39b, q39c⟩ := isOf hZ rfl (EJ.ext O2.2)
          obtain ⟨_, _, ⟨T39, L39, k39, n39⟩, -, X39, ⟨Lc39, hQ39, l39, y39, z39⟩, st39⟩ := X1.virtualBack hx (y := (⟨"com/example/guarantee/guarantee/model/Expression$Operator", "isPast", "()Z"⟩ : MethodName)) (z := (⟨"com/example/guarantee/guarantee/model/Expression$Operator", "isPast", "()Z"⟩ : MethodName)) hown (mvT hZ (hw _ (List.mem_of_getElem? (i := 79) rfl))) (mvT hZ (hw _ (List.mem_of_getElem? (i := 80) rfl))) (notFace_of_selects (args := #[]) (mvT hZ (hw _ (List.mem_of_getElem? (i := 82) rfl)))) (mvT hZ (hw _ (List.mem_of_getElem? (i := 82) rfl))) (mvT hZ (hw _ (List.mem_of_getElem? (i := 81) rfl))) (by decide) (backOf (W := 0) (rm2 l Z a0 hw [] (r kx) (r 16) (r 17) (r 18) (r 30) T1.heap n0 Z3 O2 S_PREV S_ONCE S_HISTORICALLY S_SINCE) hZ (hw _ (List.mem_of_getElem? (i := 83) rfl)) (hw _ (List.mem_of_getElem? (i := 7) rfl)) (by decide) (by decide)) q39a q39c (g := (mkF m 48 #[.val (.int p1), .val (.ref bb1), .val (.int kx), .val (.ref (r kx)), .val (.int (0 : Int32))] [(.ref (r kx))])) rfl (by rw [hml]; rfl) (Steps.refl _) (argsL := []) (rest := []) (lenOf pd_1 rfl) rfl (by show 2 * 0 + _ ≤ _; exact Nat.le_of_eq rfl) (hb hby at_48) (fun _ _ => ⟨rfl, rfl, (by decide : 1 + 0 ≤ room_1.cells), (by decide : 35 + 0 ≤ room_1.slots)⟩)
          dsimp only [Pt.U, Pt.locs, Pt.cells, Pt.slots] at X39 l39 y39 z39 st39 hQ39
          subst l39 y39 z39
          obtain ⟨rfl, N39q, e39⟩ := hQ39
          have N39 := Fr.app N1 N39q
          have go40 : Goes p e below s₁ (entryFrame m #[(.int p1)] maxLocals) T39 (mkF m 51 #[.val (.int p1), .val (.ref bb1), .val (.int kx), .val (.ref (r kx)), .val (.int (0 : Int32))] [(.int (if r kx = r 16 ∨ r kx = r 17 ∨ r kx = r 18 ∨ r kx = r 30 then 1 else 0))]) := fun t k => go38 t (st39.trans k)
          have go41 : Goes p e below s₁ (entryFrame m #[(.int p1)] maxLocals) T39 (mkF m 53 #[.val (.int p1), .val (.ref bb1), .val (.int kx), .val (.ref (r kx)), .val (.int (0 : Int32))] [(.int (0 : Int32)), (.int (if r kx = r 16 ∨ r kx = r 17 ∨ r kx = r 18 ∨ r kx = r 30 then 1 else 0))]) := fun t k => by
            refine go40 t ?_
            refine XS.iload X39.here hx rfl (hb hby at_51) rfl ?_
            show Steps p.tables e below (T39.setTop (mkF m 53 #[.val (.int p1), .val (.ref bb1), .val (.int kx), .val (.ref (r kx)), .val (.int (0 : Int32))] [(.int (0 : Int32)), (.int (if r kx = r 16 ∨ r kx = r 17 ∨ r kx = r 18 ∨ r kx = r 30 then 1 else 0))])) _
            exact k
          have go42 : Goes p e below s₁ (entryFrame m #[(.int p1)] maxLocals) T39 (mkF m 61 #[.val (.int p1), .val (.ref bb1), .val (.int kx), .val (.ref (r kx)), .val (.int (0 : Int32))] [(.int (1 : Int32))]) := fun t k => by
            refine go41 t ?_
            refine XS.icmpNo X39.here hx rfl (hb hby at_53) rfl (Jvm.Free.XT.ii_ne_f (by simp [RJ 16 (by unfold own_K; decide), RJ 17 (by unfold own_K; decide), RJ 18 (by unfold own_K; decide), RJ 30 (by unfold own_K; decide), hc11, hc18, hc25, hc32])) ?_
            show Steps p.tables e below (T39.setTop (mkF m 56 #[.val (.int p1), .val (.ref bb1), .val (.int kx), .val (.ref (r kx)), .val (.int (0 : Int32))] [])) _
            refine XS.iconst X39.here hx rfl (hb hby at_56) ?_
            show Steps p.tables e below (T39.setTop (mkF m 57 #[.val (.int p1), .val (.ref bb1), .val (.int kx), .val (.ref (r kx)), .val (.int (0 : Int32))] [(.int (1 : Int32))])) _
            refine XS.goto X39.here hx rfl (pc0 := 57) (pc' := 61) rfl (hb hby at_57) (by decide) (by decide) ?_
            show Steps p.tables e below (T39.setTop (mkF m 61 #[.val (.int p1), .val (.ref bb1), .val (.int kx), .val (.ref (r kx)), .val (.int (0 : Int32))] [(.int (1 : Int32))])) _
            exact k
          obtain ⟨fs, hr, hrun, hended, hW, hsame⟩ := X39.leave (v := some (.int (1 : Int32))) (fun h => by rw [Bd.returns] at h; cases h)
          refine ⟨_, _, go42 _ ?_, hrun, hended, _, _, rfl, ?_, ⟨_, rfl⟩, hW, hsame.mono (by decide) (by decide)⟩
          · exact retN X39 hx (t := .boolean) Bd.returns (by simp) (hb hby at_61) hr
          · show Q0 Z _ _ _ _ _ T39.heap _
            rw [e39]
            exact ⟨rfl, N39⟩
set_option maxRecDepth 65536 in
set_option maxHeartbeats 40000000 in
theorem comes_1 {Post : Tables → Env → Array Value → State → Outcome → State → Prop} (hpost : ∀ tb e args s v u, (limb_1_1.after args s (.returned v) u = true ∧ limb_1_2.after args s (.returned v) u = true ∧ True) → FrameEnd s (.returned v) u (Jvm.fieldLocs frame_1_writes args s ++ Jvm.arrayLocs frame_1_arrays args s ++ Jvm.staticLocs frame_1_statics s) 16 192 → Post tb e args s (.returned v) u) :
    ArmFor flags0 classFile x code maxLocals ret World_1 tables_1 room_1 Calls_1 rest_1 Pre_1 Post := by
  intro l hfl _ _ p e ha hc hk s m args below hf hA hF happ hP
  obtain ⟨hcalls, hrest, hpre⟩ := hP
  obtain ⟨-, -, -, hnamed, -, -, -, hat⟩ := (Spec.applies_iff hf).mp happ
  obtain ⟨hg, hn⟩ := and_e (Cond.before_iff.mp (show (Jvm.Cond.and given_1 narrow_1).before args s = true from hpre))
  obtain ⟨hg0, hg⟩ := and_e hg
  have ga0 := hg
  obtain ⟨w0, rfl⟩ : ∃ w0 : Value, args = #[w0] := by
    have hs : args.size = 1 := by simpa [Cond.value, given_1] using hg0
    obtain ⟨L⟩ := args
    match L, hs with
    | [w0], _ => exact ⟨w0, rfl⟩
  have hw := fun d (hd : d ∈ tables_1) => atoms_spec (ws := Jvm.Cond.code x code maxLocals ret :: tables_1) hat d (List.mem_cons_of_mem _ hd)
  have hfit : Fit s := fun {y c} hc i hi => by
    obtain ⟨ha, rfl⟩ := Array.getElem?_eq_some_iff.mp hc
    have q := List.all_eq_true.mp ((Array.all_eq_true_iff_forall_mem.mp hF) _ (Array.getElem_mem ha)) i (List.mem_range.mpr hi)
    simpa [Array.getElem?_eq_getElem hi] using q
  obtain ⟨i0, ei0⟩ := is_v ga0
  obtain rfl : w0 = (.int i0) := Option.some.inj ei0
  obtain ⟨hn0, hn⟩ := and_e hn
  obtain ⟨hn1, hn⟩ := and_e hn
  obtain ⟨hn2, hn⟩ := and_e hn
  obtain ⟨hn3, hn⟩ := and_e hn
  obtain ⟨hn4, hn⟩ := and_e hn
  obtain ⟨hn5, hn⟩ := and_e hn
  obtain ⟨hn6, hn⟩ := and_e hn
  obtain ⟨hn7, hn⟩ := and_e hn
  obtain ⟨hn8, hn⟩ := and_e hn
  obtain ⟨hn9, hn⟩ := and_e hn
  obtain ⟨hn10, hn⟩ := and_e hn
  obtain ⟨hn11, hn⟩ := and_e hn
  obtain ⟨hn12, hn⟩ := and_e hn
  obtain ⟨hn13, hn⟩ := and_e hn
  obtain ⟨hn14, hn⟩ := and_e hn
  obtain ⟨hn15, hn⟩ := and_e hn
  obtain ⟨hn16, hn⟩ := and_e hn
  obtain ⟨hn17, hn⟩ := and_e hn
  obtain ⟨hn18, hn⟩ := and_e hn
  obtain ⟨hn19, hn⟩ := and_e hn
  obtain ⟨hn20, hn⟩ := and_e hn
  obtain ⟨hn21, hn⟩ := and_e hn
  obtain ⟨hn22, hn⟩ := and_e hn
  obtain ⟨hn23, hn⟩ := and_e hn
  obtain ⟨hn24, hn⟩ := and_e hn
  obtain ⟨hn25, hn⟩ := and_e hn
  obtain ⟨hn26, hn⟩ := and_e hn
  obtain ⟨hn27, hn⟩ := and_e hn
  obtain ⟨hn28, hn⟩ := and_e hn
  obtain ⟨hn29, hn⟩ := and_e hn
  obtain ⟨hn30, hn⟩ := and_e hn
  obtain ⟨hn31, hn⟩ := and_e hn
  obtain ⟨hn32, hn⟩ := and_e hn
  obtain ⟨hn33, hn⟩ := and_e hn
  obtain ⟨hn34, hn⟩ := and_e hn
  obtain ⟨hn35, hn⟩ := and_e hn
  obtain ⟨hn36, hn⟩ := and_e hn
  obtain ⟨hn37, hn⟩ := and_e hn
  obtain ⟨hn38, hn⟩ := and_e hn
  obtain ⟨hn39, hn⟩ := and_e hn
  obtain ⟨hn40, hn⟩ := and_e hn
  obtain ⟨hn41, hn⟩ := and_e hn
  obtain ⟨hn42, hn⟩ := and_e hn
  obtain ⟨hn43, hn⟩ := and_e hn
  obtain ⟨hn44, hn⟩ := and_e hn
  obtain ⟨hn45, hn⟩ := and_e hn
  obtain ⟨hn46, hn⟩ := and_e hn
  obtain ⟨hn47, hn⟩ := and_e hn
  obtain ⟨hn48, hn⟩ := and_e hn
  obtain ⟨hn49, hn⟩ := and_e hn
  obtain ⟨hn50, hn⟩ := and_e hn
  obtain ⟨hn51, hn⟩ := and_e hn
  obtain ⟨hn52, hn⟩ := and_e hn
  obtain ⟨hn53, hn⟩ := and_e hn
  obtain ⟨hn54, hn⟩ := and_e hn
  obtain ⟨hn55, hn⟩ := and_e hn
  obtain ⟨hn56, hn⟩ := and_e hn
  obtain ⟨hn57, hn⟩ := and_e hn
  obtain ⟨hn58, hn⟩ := and_e hn
  obtain ⟨hn59, hn⟩ := and_e hn
  obtain ⟨hn60, hn⟩ := and_e hn
  obtain ⟨hn61, hn⟩ := and_e hn
  obtain ⟨hn62, hn⟩ := and_e hn
  obtain ⟨hn63, hn⟩ := and_e hn
  obtain ⟨hn64, hn⟩ := and_e hn
  obtain ⟨hn65, hn⟩ := and_e hn
  obtain ⟨hn66, hn⟩ := and_e hn
  obtain ⟨hn67, hn⟩ := and_e hn
  obtain ⟨hn68, hn⟩ := and_e hn
  have hn69 := hn
  obtain ⟨x_TRUE, ev_TRUE, S_TRUE, E_TRUE⟩ := own_sx (hw _ (List.mem_of_getElem? (i := 7) rfl)) (hw _ (List.mem_of_getElem? (i := 8) rfl)) hn0
  obtain ⟨x_FALSE, ev_FALSE, S_FALSE, E_FALSE⟩ := own_sx (hw _ (List.mem_of_getElem? (i := 7) rfl)) (hw _ (List.mem_of_getElem? (i := 11) rfl)) hn1
  obtain ⟨x_INTEGER, ev_INTEGER, S_INTEGER, E_INTEGER⟩ := own_sx (hw _ (List.mem_of_getElem? (i := 7) rfl)) (hw _ (List.mem_of_getElem? (i := 13) rfl)) hn2
  obtain ⟨x_NAME, ev_NAME, S_NAME, E_NAME⟩ := own_sx (hw _ (List.mem_of_getElem? (i := 7) rfl)) (hw _ (List.mem_of_getElem? (i := 15) rfl)) hn3
  obtain ⟨x_VARIABLE, ev_VARIABLE, S_VARIABLE, E_VARIABLE⟩ := own_sx (hw _ (List.mem_of_getElem? (i := 7) rfl)) (hw _ (List.mem_of_getElem? (i := 17) rfl)) hn4
  obtain ⟨x_LITERAL, ev_LITERAL, S_LITERAL, E_LITERAL⟩ := own_sx (hw _ (List.mem_of_getElem? (i := 7) rfl)) (hw _ (List.mem_of_getElem? (i := 19) rfl)) hn5
  obtain ⟨x_DEFINE, ev_DEFINE, S_DEFINE, E_DEFINE⟩ := own_sx (hw _ (List.mem_of_getElem? (i := 7) rfl)) (hw _ (List.mem_of_getElem? (i := 21) rfl)) hn6
  obtain ⟨x_INSTANCE, ev_INSTANCE, S_INSTANCE, E_INSTANCE⟩ := own_sx (hw _ (List.mem_of_getElem? (i := 7) rfl)) (hw _ (List.mem_of_getElem? (i := 23) rfl)) hn7
  obtain ⟨x_PREDICATE, ev_PREDICATE, S_PREDICATE, E_PREDICATE⟩ := own_sx (hw _ (List.mem_of_getElem? (i := 7) rfl)) (hw _ (List.mem_of_getElem? (i := 25) rfl)) hn8
  obtain ⟨x_ELEMENT, ev_ELEMENT, S_ELEMENT, E_ELEMENT⟩ := own_sx (hw _ (List.mem_of_getElem? (i := 7) rfl)) (hw _ (List.mem_of_getElem? (i := 27) rfl)) hn9
  obtain ⟨x_PROPERTY, ev_PROPERTY, S_PROPERTY, E_PROPERTY⟩ := own_sx (hw _ (List.mem_of_getElem? (i := 7) rfl)) (hw _ (List.mem_of_getElem? (i := 29) rfl)) hn10
  obtain ⟨x_FORALL, ev_FORALL, S_FORALL, E_FORALL⟩ := own_sx (hw _ (List.mem_of_getElem? (i := 7) rfl)) (hw _ (List.mem_of_getElem? (i := 31) rfl)) hn11
  obtain ⟨x_EXISTS, ev_EXISTS, S_EXISTS, E_EXISTS⟩ := own_sx (hw _ (List.mem_of_getElem? (i := 7) rfl)) (hw _ (List.mem_of_getElem? (i := 33) rfl)) hn12
  obtain ⟨x_NOT, ev_NOT, S_NOT, E_NOT⟩ := own_sx (hw _ (List.mem_of_getElem? (i := 7) rfl)) (hw _ (List.mem_of_getElem? (i := 35) rfl)) hn13
  obtain ⟨x_NEGATE, ev_NEGATE, S_NEGATE, E_NEGATE⟩ := own_sx (hw _ (List.mem_of_getElem? (i := 7) rfl)) (hw _ (List.mem_of_getElem? (i := 37) rfl)) hn14
  obtain ⟨x_NEXT, ev_NEXT, S_NEXT, E_NEXT⟩ := own_sx (hw _ (List.mem_of_getElem? (i := 7) rfl)) (hw _ (List.mem_of_getElem? (i := 39) rfl)) hn15
  obtain ⟨x_PREV, ev_PREV, S_PREV, E_PREV⟩ := own_sx (hw _ (List.mem_of_getElem? (i := 7) rfl)) (hw _ (List.mem_of_getElem? (i := 41) rfl)) hn16
  obtain ⟨x_ONCE, ev_ONCE, S_ONCE, E_ONCE⟩ := own_sx (hw _ (List.mem_of_getElem? (i := 7) rfl)) (hw _ (List.mem_of_getElem? (i := 43) rfl)) hn17
  obtain ⟨x_HISTORICALLY, ev_HISTORICALLY, S_HISTORICALLY, E_HISTORICALLY⟩ := own_sx (hw _ (List.mem_of_getElem? (i := 7) rfl)) (hw _ (List.mem_of_getElem? (i := 45) rfl)) hn18
  obtain ⟨x_TIMES, ev_TIMES, S_TIMES, E_TIMES⟩ := own_sx (hw _ (List.mem_of_getElem? (i := 7) rfl)) (hw _ (List.mem_of_getElem? (i := 47) rfl)) hn19
  obtain ⟨x_DIVIDE, ev_DIVIDE, S_DIVIDE, E_DIVIDE⟩ := own_sx (hw _ (List.mem_of_getElem? (i := 7) rfl)) (hw _ (List.mem_of_getElem? (i := 49) rfl)) hn20
  obtain ⟨x_MODULO, ev_MODULO, S_MODULO, E_MODULO⟩ := own_sx (hw _ (List.mem_of_getElem? (i := 7) rfl)) (hw _ (List.mem_of_getElem? (i := 51) rfl)) hn21
  obtain ⟨x_PLUS, ev_PLUS, S_PLUS, E_PLUS⟩ := own_sx (hw _ (List.mem_of_getElem? (i := 7) rfl)) (hw _ (List.mem_of_getElem? (i := 53) rfl)) hn22
  obtain ⟨x_MINUS, ev_MINUS, S_MINUS, E_MINUS⟩ := own_sx (hw _ (List.mem_of_getElem? (i := 7) rfl)) (hw _ (List.mem_of_getElem? (i := 55) rfl)) hn23
  obtain ⟨x_EQUALS, ev_EQUALS, S_EQUALS, E_EQUALS⟩ := own_sx (hw _ (List.mem_of_getElem? (i := 7) rfl)) (hw _ (List.mem_of_getElem? (i := 57) rfl)) hn24
  obtain ⟨x_NOT_EQUALS, ev_NOT_EQUALS, S_NOT_EQUALS, E_NOT_EQUALS⟩ := own_sx (hw _ (List.mem_of_getElem? (i := 7) rfl)) (hw _ (List.mem_of_getElem? (i := 59) rfl)) hn25
  obtain ⟨x_LESS, ev_LESS, S_LESS, E_LESS⟩ := own_sx (hw _ (List.mem_of_getElem? (i := 7) rfl)) (hw _ (List.mem_of_getElem? (i := 61) rfl)) hn26
  obtain ⟨x_LESS_EQUAL, ev_LESS_EQUAL, S_LESS_EQUAL, E_LESS_EQUAL⟩ := own_sx (hw _ (List.mem_of_getElem? (i := 7) rfl)) (hw _ (List.mem_of_getElem? (i := 63) rfl)) hn27
  obtain ⟨x_GREATER, ev_GREATER, S_GREATER, E_GREATER⟩ := own_sx (hw _ (List.mem_of_getElem? (i := 7) rfl)) (hw _ (List.mem_of_getElem? (i := 65) rfl)) hn28
  obtain ⟨x_GREATER_EQUAL, ev_GREATER_EQUAL, S_GREATER_EQUAL, E_GREATER_EQUAL⟩ := own_sx (hw _ (List.mem_of_getElem? (i := 7) rfl)) (hw _ (List.mem_of_getElem? (i := 67) rfl)) hn29
  obtain ⟨x_SINCE, ev_SINCE, S_SINCE, E_SINCE⟩ := own_sx (hw _ (List.mem_of_getElem? (i := 7) rfl)) (hw _ (List.mem_of_getElem? (i := 69) rfl)) hn30
  obtain ⟨x_AND, ev_AND, S_AND, E_AND⟩ := own_sx (hw _ (List.mem_of_getElem? (i := 7) rfl)) (hw _ (List.mem_of_getElem? (i := 71) rfl)) hn31
  obtain ⟨x_OR, ev_OR, S_OR, E_OR⟩ := own_sx (hw _ (List.mem_of_getElem? (i := 7) rfl)) (hw _ (List.mem_of_getElem? (i := 73) rfl)) hn32
  obtain ⟨x_IFF, ev_IFF, S_IFF, E_IFF⟩ := own_sx (hw _ (List.mem_of_getElem? (i := 7) rfl)) (hw _ (List.mem_of_getElem? (i := 75) rfl)) hn33
  obtain ⟨x_IMPLIES, ev_IMPLIES, S_IMPLIES, E_IMPLIES⟩ := own_sx (hw _ (List.mem_of_getElem? (i := 7) rfl)) (hw _ (List.mem_of_getElem? (i := 77) rfl)) hn34
  have F_TRUE := own_fi ev_TRUE hn35
  have F_PREV := own_fi ev_PREV hn36
  have F_ONCE := own_fi ev_ONCE hn37
  have F_HISTORICALLY := own_fi ev_HISTORICALLY hn38
  have F_SINCE := own_fi ev_SINCE hn39
  have F_NAME := own_fi ev_NAME hn40
  have F_LITERAL := own_fi ev_LITERAL hn41
  have F_NOT := own_fi ev_NOT hn42
  have F_DEFINE := own_fi ev_DEFINE hn43
  have F_VARIABLE := own_fi ev_VARIABLE hn44
  have F_INSTANCE := own_fi ev_INSTANCE hn45
  have F_INTEGER := own_fi ev_INTEGER hn46
  have F_FORALL := own_fi ev_FORALL hn47
  have F_PROPERTY := own_fi ev_PROPERTY hn48
  have F_PREDICATE := own_fi ev_PREDICATE hn49
  have F_FALSE := own_fi ev_FALSE hn50
  have F_NEGATE := own_fi ev_NEGATE hn51
  have F_NEXT := own_fi ev_NEXT hn52
  have F_AND := own_fi ev_AND hn53
  have F_TIMES := own_fi ev_TIMES hn54
  have F_LESS_EQUAL := own_fi ev_LESS_EQUAL hn55
  have F_PLUS := own_fi ev_PLUS hn56
  have F_DIVIDE := own_fi ev_DIVIDE hn57
  have F_ELEMENT := own_fi ev_ELEMENT hn58
  have F_GREATER_EQUAL := own_fi ev_GREATER_EQUAL hn59
  have F_EXISTS := own_fi ev_EXISTS hn60
  have F_IFF := own_fi ev_IFF hn61
  have F_MINUS := own_fi ev_MINUS hn62
  have F_EQUALS := own_fi ev_EQUALS hn63
  have F_MODULO := own_fi ev_MODULO hn64
  have F_NOT_EQUALS := own_fi ev_NOT_EQUALS hn65
  have F_IMPLIES := own_fi ev_IMPLIES hn66
  have F_LESS := own_fi ev_LESS hn67
  have F_GREATER := own_fi ev_GREATER hn68
  have F_OR := own_fi ev_OR hn69
  obtain ⟨n, o, h1, h2, h3, _, L, rfl, ⟨rfl, N⟩, hq⟩ := rm0 l s _ hw tables_1 i0 (fun k : Int32 => if k = 0 then x_TRUE else if k = 1 then x_FALSE else if k = 2 then x_INTEGER else if k = 3 then x_NAME else if k = 4 then x_VARIABLE else if k = 5 then x_LITERAL else if k = 6 then x_DEFINE else if k = 7 then x_INSTANCE else if k = 8 then x_PREDICATE else if k = 9 then x_ELEMENT else if k = 10 then x_PROPERTY else if k = 11 then x_FORALL else if k = 12 then x_EXISTS else if k = 13 then x_NOT else if k = 14 then x_NEGATE else if k = 15 then x_NEXT else if k = 16 then x_PREV else if k = 17 then x_ONCE else if k = 18 then x_HISTORICALLY else if k = 19 then x_TIMES else if k = 20 then x_DIVIDE else if k = 21 then x_MODULO else if k = 22 then x_PLUS else if k = 23 then x_MINUS else if k = 24 then x_EQUALS else if k = 25 then x_NOT_EQUALS else if k = 26 then x_LESS else if k = 27 then x_LESS_EQUAL else if k = 28 then x_GREATER else if k = 29 then x_GREATER_EQUAL else if k = 30 then x_SINCE else if k = 31 then x_AND else if k = 32 then x_OR else if k = 33 then x_IFF else x_IMPLIES) s.heap s.heap.size (Nat.le_refl _) (Old.start s) S_TRUE S_FALSE S_INTEGER S_NAME S_VARIABLE S_LITERAL S_DEFINE S_INSTANCE S_PREDICATE S_ELEMENT S_PROPERTY S_FORALL S_EXISTS S_NOT S_NEGATE S_NEXT S_PREV S_ONCE S_HISTORICALLY S_TIMES S_DIVIDE S_MODULO S_PLUS S_MINUS S_EQUALS S_NOT_EQUALS S_LESS S_LESS_EQUAL S_GREATER S_GREATER_EQUAL S_SINCE S_AND S_OR S_IFF S_IMPLIES (by intro k hk; unfold own_K at hk; rcases hk with rfl | rfl | rfl | rfl | rfl | rfl | rfl | rfl | rfl | rfl | rfl | rfl | rfl | rfl | rfl | rfl | rfl | rfl | rfl | rfl | rfl | rfl | rfl | rfl | rfl | rfl | rfl | rfl | rfl | rfl | rfl | rfl | rfl | rfl | rfl <;> assumption) (by intro k hk; unfold own_K at hk; rcases hk with rfl | rfl | rfl | rfl | rfl | rfl | rfl | rfl | rfl | rfl | rfl | rfl | rfl | rfl | rfl | rfl | rfl | rfl | rfl | rfl | rfl | rfl | rfl | rfl | rfl | rfl | rfl | rfl | rfl | rfl | rfl | rfl | rfl | rfl | rfl <;> assumption) p e ha hc hk s m _ below hf ((Spec.applies_iff_loose hf).mp happ).1 ⟨rfl, State.Warmed39.refl s, rfl⟩ trivial
  refine ⟨n, _, h1, h2, h3, hpost _ _ _ _ _ _ ⟨Cond.after_iff.mpr rfl, Cond.after_iff.mpr (eq_i res_at (Term.int_eval (1)) rfl), trivial⟩ ⟨hq.1, hq.2.1, (hq.2.2.sift fun y hy => Or.inr (N y hy)).mono (by decide) (by decide)⟩⟩
theorem main_1_1 : Claimed_1_1 := comes_1 fun _ _ _ _ _ _ h hF => ⟨h.1, hF⟩
theorem main_1_2 : Claimed_1_2 := comes_1 fun _ _ _ _ _ _ h hF => ⟨h.2.1, hF⟩
end Jvm.Pilot.@@N@@
namespace Jvm.Pilot.@@N@@
open Jvm Jvm.ClassFile Sem Op Lib Jvm.Free Jvm.Stand Jvm.Pilot.@@N@@.Jvm.D
/-! MADE BY PROGRAM (witnessworld.py) out of the Statement's table words and the real class files: 13 classes; the members and pool entries that the words name. The judged class is class 1, her method 2. -/
namespace start1
open Jvm.ClassFile
def u (s : String) : CpInfo := .utf8 (stringToUtf16 s)
/-- a pool by its gaps: so many unusable entries, then the entry; so many at the end -/
def gap : Nat → List CpInfo → List CpInfo
  | 0, r => r
  | n + 1, r => .unusable :: gap n r
def poolList (es : List (Nat × CpInfo)) (last : Nat) : List CpInfo := es.foldr (fun e r => gap e.1 (e.2 :: r)) (gap last [])
def pool (es : List (Nat × CpInfo)) (last : Nat) : Array CpInfo := ⟨poolList es last⟩
def fileOf (pool : Array CpInfo) (this : Nat) (attrs : Array Attribute := #[]) (ms : Array MethodInfo := #[]) (fl : Nat := 33) (sup : Nat := 0) (ifs : Array Nat := #[]) (fds : Array FieldInfo := #[]) : ClassFile where
  minorVersion := 0
  majorVersion := 65
  constantPool := pool
  accessFlags := fl
  thisClass := this
  superClass := sup
  interfaces := ifs
  fields := fds
  methods := ms
  attributes := attrs
def plain (name : String) (sup : Option ClassId) : Class where
  name := name
  kind := .ordinary
  loader := none
  accessFlags := 33
  super := sup
  interfaces := #[]
  cf := none
  fields := #[]
  methods := #[]
  instanceTypes := #[]
  staticTypes := #[]
  resolved := #[]
  callSites := []
  init := .initialized
  statics := none
  mirror := none

def pool0 : Array CpInfo := pool [(5, u "<init>"), (0, u "()V"), (1, .class_ 10), (1, u "java/lang/Object")] 113

def k0m0 : Method := { name := "<init>", desc := "()V", sig := { parameters := [], returnType := none }, accessFlags := 1, code := none }
/-- java/lang/Object -/
def k0 : Class := { plain "java/lang/Object" none with
  accessFlags := 33
  interfaces := #[]
  cf := some (fileOf pool0 8 #[] #[{ accessFlags := 1, nameIndex := 5, descriptorIndex := 6, attributes := #[] }] 33 0 #[] #[])
  fields := #[]
  methods := #[k0m0]
  instanceTypes := #[]
  staticTypes := #[]
  resolved := Array.replicate 124 none
  statics := none }

def pool1 : Array CpInfo := pool [(2, .class_ 4), (1, u "java/lang/Object"), (0, u "<init>"), (0, u "()V"), (0, .class_ 8), (0, u "com/example/guarantee/guarantee/model/Expression$Operator"), (0, .fieldref 7 10), (0, .nameAndType 11 12), (0, u "TRUE"), (0, u "Lcom/example/guarantee/guarantee/model/Expression$Operator;"), (0, .fieldref 7 14), (0, .nameAndType 15 12), (0, u "FALSE"), (0, .fieldref 7 17), (0, .nameAndType 18 12), (0, u "INTEGER"), (0, .fieldref 7 20), (0, .nameAndType 21 12), (0, u "NAME"), (0, .fieldref 7 23), (0, .nameAndType 24 12), (0, u "VARIABLE"), (0, .fieldref 7 26), (0, .nameAndType 27 12), (0, u "LITERAL"), (0, .fieldref 7 29), (0, .nameAndType 30 12), (0, u "DEFINE"), (0, .fieldref 7 32), (0, .nameAndType 33 12), (0, u "INSTANCE"), (0, .fieldref 7 35), (0, .nameAndType 36 12), (0, u "PREDICATE"), (0, .fieldref 7 38), (0, .nameAndType 39 12), (0, u "ELEMENT"), (0, .fieldref 7 41), (0, .nameAndType 42 12), (0, u "PROPERTY"), (0, .fieldref 7 44), (0, .nameAndType 45 12), (0, u "FORALL"), (0, .fieldref 7 47), (0, .nameAndType 48 12), (0, u "EXISTS"), (0, .fieldref 7 50), (0, .nameAndType 51 12), (0, u "NOT"), (0, .fieldref 7 53), (0, .nameAndType 54 12), (0, u "NEGATE"), (0, .fieldref 7 56), (0, .nameAndType 57 12), (0, u "NEXT"), (0, .fieldref 7 59), (0, .nameAndType 60 12), (0, u "PREV"), (0, .fieldref 7 62), (0, .nameAndType 63 12), (0, u "ONCE"), (0, .fieldref 7 65), (0, .nameAndType 66 12), (0, u "HISTORICALLY"), (0, .fieldref 7 68), (0, .nameAndType 69 12), (0, u "TIMES"), (0, .fieldref 7 71), (0, .nameAndType 72 12), (0, u "DIVIDE"), (0, .fieldref 7 74), (0, .nameAndType 75 12), (0, u "MODULO"), (0, .fieldref 7 77), (0, .nameAndType 78 12), (0, u "PLUS"), (0, .fieldref 7 80), (0, .nameAndType 81 12), (0, u "MINUS"), (0, .fieldref 7 83), (0, .nameAndType 84 12), (0, u "EQUALS"), (0, .fieldref 7 86), (0, .nameAndType 87 12), (0, u "NOT_EQUALS"), (0, .fieldref 7 89), (0, .nameAndType 90 12), (0, u "LESS"), (0, .fieldref 7 92), (0, .nameAndType 93 12), (0, u "LESS_EQUAL"), (0, .fieldref 7 95), (0, .nameAndType 96 12), (0, u "GREATER"), (0, .fieldref 7 98), (0, .nameAndType 99 12), (0, u "GREATER_EQUAL"), (0, .fieldref 7 101), (0, .nameAndType 102 12), (0, u "SINCE"), (0, .fieldref 7 104), (0, .nameAndType 105 12), (0, u "AND"), (0, .fieldref 7 107), (0, .nameAndType 108 12), (0, u "OR"), (0, .fieldref 7 110), (0, .nameAndType 111 12), (0, u "IFF"), (0, .fieldref 7 113), (0, .nameAndType 114 12), (0, u "IMPLIES"), (0, .methodref 116 117), (0, .class_ 118), (0, .nameAndType 119 120), (0, u "com/example/guarantee/guarantee/model/OperatorIsPastPinLaw"), (0, u "all"), (0, u "()[Lcom/example/guarantee/guarantee/model/Expression$Operator;"), (0, .integer 2147483647), (0, .methodref 7 123), (0, .nameAndType 124 125), (0, u "isPast"), (0, u "()Z"), (2, u "law"), (0, u "(I)Z")] 9

def k1m0 : Method := { name := "<init>", desc := "()V", sig := { parameters := [], returnType := none }, accessFlags := 1, code := none }
def k1c1 : Code := { maxStack := 4, maxLocals := 0, code := method_2_code, exceptionTable := #[], attributes := #[] }
def k1m1 : Method := { name := "all", desc := "()[Lcom/example/guarantee/guarantee/model/Expression$Operator;", sig := { parameters := [], returnType := some (.array (.object "com/example/guarantee/guarantee/model/Expression$Operator")) }, accessFlags := 10, code := some k1c1 }
def k1c2 : Code := { maxStack := 2, maxLocals := 5, code := code, exceptionTable := #[], attributes := #[] }
def k1m2 : Method := { name := "law", desc := "(I)Z", sig := { parameters := [.int], returnType := some .boolean }, accessFlags := 9, code := some k1c2 }
/-- com/example/guarantee/guarantee/model/OperatorIsPastPinLaw -/
def k1 : Class := { plain "com/example/guarantee/guarantee/model/OperatorIsPastPinLaw" (some 0) with
  accessFlags := 49
  interfaces := #[]
  cf := some (fileOf pool1 116 #[] #[{ accessFlags := 1, nameIndex := 5, descriptorIndex := 6, attributes := #[] }, { accessFlags := 10, nameIndex := 119, descriptorIndex := 120, attributes := #[] }, { accessFlags := 9, nameIndex := 128, descriptorIndex := 129, attributes := #[] }] 49 2 #[] #[])
  fields := #[]
  methods := #[k1m0, k1m1, k1m2]
  instanceTypes := #[]
  staticTypes := #[]
  resolved := Array.replicate 139 none
  statics := none }

def pool2 : Array CpInfo := pool [(1, .class_ 2), (0, u "java/lang/constant/Constable"), (0, .class_ 4), (0, u "java/lang/Object")] 6

/-- java/lang/constant/Constable -/
def k2 : Class := { plain "java/lang/constant/Constable" (some 0) with
  accessFlags := 1537
  interfaces := #[]
  cf := some (fileOf pool2 1 #[] #[] 1537 3 #[] #[])
  fields := #[]
  methods := #[]
  instanceTypes := #[]
  staticTypes := #[]
  resolved := Array.replicate 11 none
  statics := none }

def pool3 : Array CpInfo := pool [(1, .class_ 2), (0, u "java/lang/Comparable"), (0, .class_ 4), (0, u "java/lang/Object")] 7

/-- java/lang/Comparable -/
def k3 : Class := { plain "java/lang/Comparable" (some 0) with
  accessFlags := 1537
  interfaces := #[]
  cf := some (fileOf pool3 1 #[] #[] 1537 3 #[] #[])
  fields := #[]
  methods := #[]
  instanceTypes := #[]
  staticTypes := #[]
  resolved := Array.replicate 12 none
  statics := none }

def pool4 : Array CpInfo := pool [(1, .class_ 2), (0, u "java/io/Serializable"), (0, .class_ 4), (0, u "java/lang/Object")] 2

/-- java/io/Serializable -/
def k4 : Class := { plain "java/io/Serializable" (some 0) with
  accessFlags := 1537
  interfaces := #[]
  cf := some (fileOf pool4 1 #[] #[] 1537 3 #[] #[])
  fields := #[]
  methods := #[]
  instanceTypes := #[]
  staticTypes := #[]
  resolved := Array.replicate 7 none
  statics := none }

def pool5 : Array CpInfo := pool [(2, .class_ 4), (1, u "java/lang/Enum"), (0, u "name"), (0, u "Ljava/lang/String;"), (2, u "ordinal"), (0, u "I"), (1, .class_ 14), (1, u "java/lang/Object"), (4, u "hash"), (86, .class_ 108), (1, u "java/lang/Enum$EnumDesc"), (2, .class_ 112), (0, u "java/lang/constant/Constable"), (0, .class_ 114), (0, u "java/lang/Comparable"), (0, .class_ 116), (0, u "java/io/Serializable")] 87

/-- java/lang/Enum -/
def k5 : Class := { plain "java/lang/Enum" (some 0) with
  accessFlags := 1057
  interfaces := #[2, 3, 4]
  cf := some (fileOf pool5 2 #[.nestMembers #[106]] #[] 1057 12 #[111, 113, 115] #[{ accessFlags := 18, nameIndex := 5, descriptorIndex := 6, attributes := #[] }, { accessFlags := 18, nameIndex := 9, descriptorIndex := 10, attributes := #[] }, { accessFlags := 2, nameIndex := 19, descriptorIndex := 10, attributes := #[] }])
  fields := #[{ name := "name", type := (.object "java/lang/String"), accessFlags := 18, slot := 0, constantValue := 0 }, { name := "ordinal", type := .int, accessFlags := 18, slot := 1, constantValue := 0 }, { name := "hash", type := .int, accessFlags := 2, slot := 2, constantValue := 0 }]
  methods := #[]
  instanceTypes := #[(.object "java/lang/String"), .int, .int]
  staticTypes := #[]
  resolved := Array.replicate 204 none
  statics := none }

def pool6 : Array CpInfo := pool [(1, .class_ 2), (0, u "com/example/guarantee/guarantee/model/Expression$Operator"), (2, u "TRUE"), (0, u "Lcom/example/guarantee/guarantee/model/Expression$Operator;"), (2, u "FALSE"), (2, u "INTEGER"), (2, u "NAME"), (2, u "VARIABLE"), (2, u "LITERAL"), (2, u "DEFINE"), (2, u "INSTANCE"), (2, u "PREDICATE"), (2, u "ELEMENT"), (2, u "PROPERTY"), (2, u "FORALL"), (2, u "EXISTS"), (2, u "NOT"), (2, u "NEGATE"), (2, u "NEXT"), (0, .fieldref 1 53), (0, .nameAndType 54 6), (0, u "PREV"), (0, .fieldref 1 56), (0, .nameAndType 57 6), (0, u "ONCE"), (0, .fieldref 1 59), (0, .nameAndType 60 6), (0, u "HISTORICALLY"), (2, u "TIMES"), (2, u "DIVIDE"), (2, u "MODULO"), (2, u "PLUS"), (2, u "MINUS"), (2, u "EQUALS"), (2, u "NOT_EQUALS"), (2, u "LESS"), (2, u "LESS_EQUAL"), (2, u "GREATER"), (2, u "GREATER_EQUAL"), (0, .fieldref 1 95), (0, .nameAndType 96 6), (0, u "SINCE"), (2, u "AND"), (2, u "OR"), (2, u "IFF"), (2, u "IMPLIES"), (2, u "$VALUES"), (0, u "[Lcom/example/guarantee/guarantee/model/Expression$Operator;"), (6, .class_ 121), (1, u "java/lang/Enum"), (13, u "symbol"), (0, u "Ljava/lang/String;"), (2, u "arity"), (0, u "I"), (82, u "isPast"), (0, u "()Z"), (6, .class_ 232), (0, u "com/example/guarantee/guarantee/model/Expression")] 2

def k6c0 : Code := { maxStack := 2, maxLocals := 1, code := prog_14_method_6_code, exceptionTable := #[], attributes := #[] }
def k6m0 : Method := { name := "isPast", desc := "()Z", sig := { parameters := [], returnType := some .boolean }, accessFlags := 1, code := some k6c0 }
/-- com/example/guarantee/guarantee/model/Expression$Operator -/
def k6 : Class := { plain "com/example/guarantee/guarantee/model/Expression$Operator" (some 5) with
  accessFlags := 16433
  interfaces := #[]
  cf := some (fileOf pool6 1 #[.nestHost 231] #[{ accessFlags := 1, nameIndex := 223, descriptorIndex := 224, attributes := #[] }] 16433 119 #[] #[{ accessFlags := 16409, nameIndex := 5, descriptorIndex := 6, attributes := #[] }, { accessFlags := 16409, nameIndex := 9, descriptorIndex := 6, attributes := #[] }, { accessFlags := 16409, nameIndex := 12, descriptorIndex := 6, attributes := #[] }, { accessFlags := 16409, nameIndex := 15, descriptorIndex := 6, attributes := #[] }, { accessFlags := 16409, nameIndex := 18, descriptorIndex := 6, attributes := #[] }, { accessFlags := 16409, nameIndex := 21, descriptorIndex := 6, attributes := #[] }, { accessFlags := 16409, nameIndex := 24, descriptorIndex := 6, attributes := #[] }, { accessFlags := 16409, nameIndex := 27, descriptorIndex := 6, attributes := #[] }, { accessFlags := 16409, nameIndex := 30, descriptorIndex := 6, attributes := #[] }, { accessFlags := 16409, nameIndex := 33, descriptorIndex := 6, attributes := #[] }, { accessFlags := 16409, nameIndex := 36, descriptorIndex := 6, attributes := #[] }, { accessFlags := 16409, nameIndex := 39, descriptorIndex := 6, attributes := #[] }, { accessFlags := 16409, nameIndex := 42, descriptorIndex := 6, attributes := #[] }, { accessFlags := 16409, nameIndex := 45, descriptorIndex := 6, attributes := #[] }, { accessFlags := 16409, nameIndex := 48, descriptorIndex := 6, attributes := #[] }, { accessFlags := 16409, nameIndex := 51, descriptorIndex := 6, attributes := #[] }, { accessFlags := 16409, nameIndex := 54, descriptorIndex := 6, attributes := #[] }, { accessFlags := 16409, nameIndex := 57, descriptorIndex := 6, attributes := #[] }, { accessFlags := 16409, nameIndex := 60, descriptorIndex := 6, attributes := #[] }, { accessFlags := 16409, nameIndex := 63, descriptorIndex := 6, attributes := #[] }, { accessFlags := 16409, nameIndex := 66, descriptorIndex := 6, attributes := #[] }, { accessFlags := 16409, nameIndex := 69, descriptorIndex := 6, attributes := #[] }, { accessFlags := 16409, nameIndex := 72, descriptorIndex := 6, attributes := #[] }, { accessFlags := 16409, nameIndex := 75, descriptorIndex := 6, attributes := #[] }, { accessFlags := 16409, nameIndex := 78, descriptorIndex := 6, attributes := #[] }, { accessFlags := 16409, nameIndex := 81, descriptorIndex := 6, attributes := #[] }, { accessFlags := 16409, nameIndex := 84, descriptorIndex := 6, attributes := #[] }, { accessFlags := 16409, nameIndex := 87, descriptorIndex := 6, attributes := #[] }, { accessFlags := 16409, nameIndex := 90, descriptorIndex := 6, attributes := #[] }, { accessFlags := 16409, nameIndex := 93, descriptorIndex := 6, attributes := #[] }, { accessFlags := 16409, nameIndex := 96, descriptorIndex := 6, attributes := #[] }, { accessFlags := 16409, nameIndex := 99, descriptorIndex := 6, attributes := #[] }, { accessFlags := 16409, nameIndex := 102, descriptorIndex := 6, attributes := #[] }, { accessFlags := 16409, nameIndex := 105, descriptorIndex := 6, attributes := #[] }, { accessFlags := 16409, nameIndex := 108, descriptorIndex := 6, attributes := #[] }, { accessFlags := 18, nameIndex := 135, descriptorIndex := 136, attributes := #[] }, { accessFlags := 18, nameIndex := 139, descriptorIndex := 140, attributes := #[] }, { accessFlags := 4122, nameIndex := 111, descriptorIndex := 112, attributes := #[] }])
  fields := #[{ name := "TRUE", type := (.object "com/example/guarantee/guarantee/model/Expression$Operator"), accessFlags := 16409, slot := 0, constantValue := 0 }, { name := "FALSE", type := (.object "com/example/guarantee/guarantee/model/Expression$Operator"), accessFlags := 16409, slot := 1, constantValue := 0 }, { name := "INTEGER", type := (.object "com/example/guarantee/guarantee/model/Expression$Operator"), accessFlags := 16409, slot := 2, constantValue := 0 }, { name := "NAME", type := (.object "com/example/guarantee/guarantee/model/Expression$Operator"), accessFlags := 16409, slot := 3, constantValue := 0 }, { name := "VARIABLE", type := (.object "com/example/guarantee/guarantee/model/Expression$Operator"), accessFlags := 16409, slot := 4, constantValue := 0 }, { name := "LITERAL", type := (.object "com/example/guarantee/guarantee/model/Expression$Operator"), accessFlags := 16409, slot := 5, constantValue := 0 }, { name := "DEFINE", type := (.object "com/example/guarantee/guarantee/model/Expression$Operator"), accessFlags := 16409, slot := 6, constantValue := 0 }, { name := "INSTANCE", type := (.object "com/example/guarantee/guarantee/model/Expression$Operator"), accessFlags := 16409, slot := 7, constantValue := 0 }, { name := "PREDICATE", type := (.object "com/example/guarantee/guarantee/model/Expression$Operator"), accessFlags := 16409, slot := 8, constantValue := 0 }, { name := "ELEMENT", type := (.object "com/example/guarantee/guarantee/model/Expression$Operator"), accessFlags := 16409, slot := 9, constantValue := 0 }, { name := "PROPERTY", type := (.object "com/example/guarantee/guarantee/model/Expression$Operator"), accessFlags := 16409, slot := 10, constantValue := 0 }, { name := "FORALL", type := (.object "com/example/guarantee/guarantee/model/Expression$Operator"), accessFlags := 16409, slot := 11, constantValue := 0 }, { name := "EXISTS", type := (.object "com/example/guarantee/guarantee/model/Expression$Operator"), accessFlags := 16409, slot := 12, constantValue := 0 }, { name := "NOT", type := (.object "com/example/guarantee/guarantee/model/Expression$Operator"), accessFlags := 16409, slot := 13, constantValue := 0 }, { name := "NEGATE", type := (.object "com/example/guarantee/guarantee/model/Expression$Operator"), accessFlags := 16409, slot := 14, constantValue := 0 }, { name := "NEXT", type := (.object "com/example/guarantee/guarantee/model/Expression$Operator"), accessFlags := 16409, slot := 15, constantValue := 0 }, { name := "PREV", type := (.object "com/example/guarantee/guarantee/model/Expression$Operator"), accessFlags := 16409, slot := 16, constantValue := 0 }, { name := "ONCE", type := (.object "com/example/guarantee/guarantee/model/Expression$Operator"), accessFlags := 16409, slot := 17, constantValue := 0 }, { name := "HISTORICALLY", type := (.object "com/example/guarantee/guarantee/model/Expression$Operator"), accessFlags := 16409, slot := 18, constantValue := 0 }, { name := "TIMES", type := (.object "com/example/guarantee/guarantee/model/Expression$Operator"), accessFlags := 16409, slot := 19, constantValue := 0 }, { name := "DIVIDE", type := (.object "com/example/guarantee/guarantee/model/Expression$Operator"), accessFlags := 16409, slot := 20, constantValue := 0 }, { name := "MODULO", type := (.object "com/example/guarantee/guarantee/model/Expression$Operator"), accessFlags := 16409, slot := 21, constantValue := 0 }, { name := "PLUS", type := (.object "com/example/guarantee/guarantee/model/Expression$Operator"), accessFlags := 16409, slot := 22, constantValue := 0 }, { name := "MINUS", type := (.object "com/example/guarantee/guarantee/model/Expression$Operator"), accessFlags := 16409, slot := 23, constantValue := 0 }, { name := "EQUALS", type := (.object "com/example/guarantee/guarantee/model/Expression$Operator"), accessFlags := 16409, slot := 24, constantValue := 0 }, { name := "NOT_EQUALS", type := (.object "com/example/guarantee/guarantee/model/Expression$Operator"), accessFlags := 16409, slot := 25, constantValue := 0 }, { name := "LESS", type := (.object "com/example/guarantee/guarantee/model/Expression$Operator"), accessFlags := 16409, slot := 26, constantValue := 0 }, { name := "LESS_EQUAL", type := (.object "com/example/guarantee/guarantee/model/Expression$Operator"), accessFlags := 16409, slot := 27, constantValue := 0 }, { name := "GREATER", type := (.object "com/example/guarantee/guarantee/model/Expression$Operator"), accessFlags := 16409, slot := 28, constantValue := 0 }, { name := "GREATER_EQUAL", type := (.object "com/example/guarantee/guarantee/model/Expression$Operator"), accessFlags := 16409, slot := 29, constantValue := 0 }, { name := "SINCE", type := (.object "com/example/guarantee/guarantee/model/Expression$Operator"), accessFlags := 16409, slot := 30, constantValue := 0 }, { name := "AND", type := (.object "com/example/guarantee/guarantee/model/Expression$Operator"), accessFlags := 16409, slot := 31, constantValue := 0 }, { name := "OR", type := (.object "com/example/guarantee/guarantee/model/Expression$Operator"), accessFlags := 16409, slot := 32, constantValue := 0 }, { name := "IFF", type := (.object "com/example/guarantee/guarantee/model/Expression$Operator"), accessFlags := 16409, slot := 33, constantValue := 0 }, { name := "IMPLIES", type := (.object "com/example/guarantee/guarantee/model/Expression$Operator"), accessFlags := 16409, slot := 34, constantValue := 0 }, { name := "symbol", type := (.object "java/lang/String"), accessFlags := 18, slot := 3, constantValue := 0 }, { name := "arity", type := .int, accessFlags := 18, slot := 4, constantValue := 0 }, { name := "$VALUES", type := (.array (.object "com/example/guarantee/guarantee/model/Expression$Operator")), accessFlags := 4122, slot := 35, constantValue := 0 }]
  methods := #[k6m0]
  instanceTypes := #[(.object "java/lang/String"), .int, .int, (.object "java/lang/String"), .int]
  staticTypes := #[(.object "com/example/guarantee/guarantee/model/Expression$Operator"), (.object "com/example/guarantee/guarantee/model/Expression$Operator"), (.object "com/example/guarantee/guarantee/model/Expression$Operator"), (.object "com/example/guarantee/guarantee/model/Expression$Operator"), (.object "com/example/guarantee/guarantee/model/Expression$Operator"), (.object "com/example/guarantee/guarantee/model/Expression$Operator"), (.object "com/example/guarantee/guarantee/model/Expression$Operator"), (.object "com/example/guarantee/guarantee/model/Expression$Operator"), (.object "com/example/guarantee/guarantee/model/Expression$Operator"), (.object "com/example/guarantee/guarantee/model/Expression$Operator"), (.object "com/example/guarantee/guarantee/model/Expression$Operator"), (.object "com/example/guarantee/guarantee/model/Expression$Operator"), (.object "com/example/guarantee/guarantee/model/Expression$Operator"), (.object "com/example/guarantee/guarantee/model/Expression$Operator"), (.object "com/example/guarantee/guarantee/model/Expression$Operator"), (.object "com/example/guarantee/guarantee/model/Expression$Operator"), (.object "com/example/guarantee/guarantee/model/Expression$Operator"), (.object "com/example/guarantee/guarantee/model/Expression$Operator"), (.object "com/example/guarantee/guarantee/model/Expression$Operator"), (.object "com/example/guarantee/guarantee/model/Expression$Operator"), (.object "com/example/guarantee/guarantee/model/Expression$Operator"), (.object "com/example/guarantee/guarantee/model/Expression$Operator"), (.object "com/example/guarantee/guarantee/model/Expression$Operator"), (.object "com/example/guarantee/guarantee/model/Expression$Operator"), (.object "com/example/guarantee/guarantee/model/Expression$Operator"), (.object "com/example/guarantee/guarantee/model/Expression$Operator"), (.object "com/example/guarantee/guarantee/model/Expression$Operator"), (.object "com/example/guarantee/guarantee/model/Expression$Operator"), (.object "com/example/guarantee/guarantee/model/Expression$Operator"), (.object "com/example/guarantee/guarantee/model/Expression$Operator"), (.object "com/example/guarantee/guarantee/model/Expression$Operator"), (.object "com/example/guarantee/guarantee/model/Expression$Operator"), (.object "com/example/guarantee/guarantee/model/Expression$Operator"), (.object "com/example/guarantee/guarantee/model/Expression$Operator"), (.object "com/example/guarantee/guarantee/model/Expression$Operator"), (.array (.object "com/example/guarantee/guarantee/model/Expression$Operator"))]
  resolved := Array.replicate 235 none
  statics := some 0 }

def pool7 : Array CpInfo := pool [(1, u "java/lang/Cloneable"), (0, .class_ 1), (0, u "java/lang/Object"), (0, .class_ 3)] 3

/-- java/lang/Cloneable -/
def k7 : Class := { plain "java/lang/Cloneable" (some 0) with
  accessFlags := 1537
  interfaces := #[]
  cf := some (fileOf pool7 2 #[] #[] 1537 4 #[] #[])
  fields := #[]
  methods := #[]
  instanceTypes := #[]
  staticTypes := #[]
  resolved := Array.replicate 8 none
  statics := none }

/-- the primitive byte -/
def k8 : Class := { plain "byte" none with kind := .primitive 'B', accessFlags := 0x411 }
/-- [B -/
def k9 : Class := { plain "[B" (some 0) with kind := .array 8 .byte, interfaces := #[7, 4], accessFlags := 1041 }

/-- the primitive int -/
def k10 : Class := { plain "int" none with kind := .primitive 'I', accessFlags := 0x411 }
/-- [I -/
def k11 : Class := { plain "[I" (some 0) with kind := .array 10 .int, interfaces := #[7, 4], accessFlags := 1041 }

/-- [Lcom/example/guarantee/guarantee/model/Expression$Operator; -/
def k12 : Class := { plain "[Lcom/example/guarantee/guarantee/model/Expression$Operator;" (some 0) with kind := .array 6 (.object "com/example/guarantee/guarantee/model/Expression$Operator"), interfaces := #[7, 4], accessFlags := 1041 }

def heap : Heap := #[{ cls := 6, slots := #[.ref 1, .ref 2, .ref 3, .ref 4, .ref 5, .ref 6, .ref 7, .ref 8, .ref 9, .ref 10, .ref 11, .ref 12, .ref 13, .ref 14, .ref 15, .ref 16, .ref 17, .ref 18, .ref 19, .ref 20, .ref 21, .ref 22, .ref 23, .ref 24, .ref 25, .ref 26, .ref 27, .ref 28, .ref 29, .ref 30, .ref 31, .ref 32, .ref 33, .ref 34, .ref 35, .null], vm := .statics 6 },
  { cls := 6, slots := #[.null, .int 0, .int 0, .null, .int 0], vm := .none },
  { cls := 6, slots := #[.null, .int 1, .int 0, .null, .int 0], vm := .none },
  { cls := 6, slots := #[.null, .int 2, .int 0, .null, .int 0], vm := .none },
  { cls := 6, slots := #[.null, .int 3, .int 0, .null, .int 0], vm := .none },
  { cls := 6, slots := #[.null, .int 4, .int 0, .null, .int 0], vm := .none },
  { cls := 6, slots := #[.null, .int 5, .int 0, .null, .int 0], vm := .none },
  { cls := 6, slots := #[.null, .int 6, .int 0, .null, .int 0], vm := .none },
  { cls := 6, slots := #[.null, .int 7, .int 0, .null, .int 0], vm := .none },
  { cls := 6, slots := #[.null, .int 8, .int 0, .null, .int 0], vm := .none },
  { cls := 6, slots := #[.null, .int 9, .int 0, .null, .int 0], vm := .none },
  { cls := 6, slots := #[.null, .int 10, .int 0, .null, .int 0], vm := .none },
  { cls := 6, slots := #[.null, .int 11, .int 0, .null, .int 0], vm := .none },
  { cls := 6, slots := #[.null, .int 12, .int 0, .null, .int 0], vm := .none },
  { cls := 6, slots := #[.null, .int 13, .int 0, .null, .int 0], vm := .none },
  { cls := 6, slots := #[.null, .int 14, .int 0, .null, .int 0], vm := .none },
  { cls := 6, slots := #[.null, .int 15, .int 0, .null, .int 0], vm := .none },
  { cls := 6, slots := #[.null, .int 16, .int 0, .null, .int 0], vm := .none },
  { cls := 6, slots := #[.null, .int 17, .int 0, .null, .int 0], vm := .none },
  { cls := 6, slots := #[.null, .int 18, .int 0, .null, .int 0], vm := .none },
  { cls := 6, slots := #[.null, .int 19, .int 0, .null, .int 0], vm := .none },
  { cls := 6, slots := #[.null, .int 20, .int 0, .null, .int 0], vm := .none },
  { cls := 6, slots := #[.null, .int 21, .int 0, .null, .int 0], vm := .none },
  { cls := 6, slots := #[.null, .int 22, .int 0, .null, .int 0], vm := .none },
  { cls := 6, slots := #[.null, .int 23, .int 0, .null, .int 0], vm := .none },
  { cls := 6, slots := #[.null, .int 24, .int 0, .null, .int 0], vm := .none },
  { cls := 6, slots := #[.null, .int 25, .int 0, .null, .int 0], vm := .none },
  { cls := 6, slots := #[.null, .int 26, .int 0, .null, .int 0], vm := .none },
  { cls := 6, slots := #[.null, .int 27, .int 0, .null, .int 0], vm := .none },
  { cls := 6, slots := #[.null, .int 28, .int 0, .null, .int 0], vm := .none },
  { cls := 6, slots := #[.null, .int 29, .int 0, .null, .int 0], vm := .none },
  { cls := 6, slots := #[.null, .int 30, .int 0, .null, .int 0], vm := .none },
  { cls := 6, slots := #[.null, .int 31, .int 0, .null, .int 0], vm := .none },
  { cls := 6, slots := #[.null, .int 32, .int 0, .null, .int 0], vm := .none },
  { cls := 6, slots := #[.null, .int 33, .int 0, .null, .int 0], vm := .none },
  { cls := 6, slots := #[.null, .int 34, .int 0, .null, .int 0], vm := .none }]
def classes : Array Class := #[k0, k1, k2, k3, k4, k5, k6, k7, k8, k9, k10, k11, k12]
def interned : List (Array UInt16 × Addr) := []
def slotsUsed : Nat := 211
def theMethod : MethodId := ⟨1, 2⟩
def args0 : Array Value := #[.int 5]
def aboutOver (below : List Frame) : State where
  vm := { classes := classes, interned := interned.toArray }
  heap := heap
  slotsUsed := slotsUsed
  threads := #[{ frames := .invoking theMethod args0 :: below }]
def below0 : List Frame := [.native { method := ⟨0, 0⟩, args := #[] }]
def about1 : State := aboutOver below0
def p0 : Program := .bare "" "" ""
def e0 : Env := launch0.env 0 0 0
theorem w_frames : about1.frames = Frame.invoking theMethod args0 :: below0 := rfl
set_option maxRecDepth 65536 in
theorem w_args : argsFit about1.vm theMethod args0 = true := by decide +kernel
set_option maxRecDepth 65536 in
theorem w_heap : heapFits about1 = true := by decide +kernel
set_option maxRecDepth 65536 in
theorem w_runnable : about1.curStatus? = some .runnable := by decide +kernel
set_option maxRecDepth 65536 in
theorem w_alone : about1.alone = true := by decide +kernel
set_option maxRecDepth 65536 in
theorem w_named : about1.methodNamed? x = some theMethod := by decide +kernel
set_option maxRecDepth 65536 in
theorem w_hears : about1.hears theMethod below0 = true := by decide +kernel
set_option maxRecDepth 65536 in
theorem w_ripe : about1.ripe theMethod args0 below0 = true := by decide +kernel
theorem w_running : about1.status = .running := rfl
set_option maxRecDepth 65536 in
theorem w_room : about1.hasRoom e0.platform room_1 = true :=
  launch0.hasRoom_least _ room_1 (by decide +kernel) (by decide +kernel) (by decide +kernel) (by decide +kernel) (by decide +kernel) (by decide +kernel)
theorem allAtoms_all (ts : List Jvm.Cond) (a : Array Jvm.Value) (st : Jvm.State) : (allAtoms ts).before a st = ts.all (fun c => c.before a st) := by
  induction ts with
  | nil => rfl
  | cons c t ih =>
    show (Jvm.Cond.and c (allAtoms t)).before a st = _
    rw [Jvm.Cond.before_and, ih, List.all_cons]
def words1 : List Jvm.Cond := Jvm.Cond.code x code maxLocals ret :: tables_1
/-- a 'code' word, met by the world's own term for the bytes: nothing is compared byte by byte -/
theorem code_word {y : MethodName} {bytes : ByteArray} {mx : Nat} {rt : Option FieldType} {a : Array Value} {s : State} {m : MethodId} {meth : Method} {c : Code} (h1 : s.methodNamed? y = some m) (h2 : s.vm.method? m = some meth) (h3 : meth.code = some c) (h4 : c.code = bytes)
    (h5 : (c.maxLocals == mx && c.exceptionTable.isEmpty && decide (c.maxStack ≤ mostOperands) && decide (meth.sig.returnType = rt) && !meth.locks && decide (parseMethodDescriptor y.desc = some meth.sig)) = true) : (Jvm.Cond.code y bytes mx rt).before a s = true := by
  simp only [Bool.and_eq_true, beq_iff_eq, Bool.not_eq_true', decide_eq_true_eq] at h5
  obtain ⟨⟨⟨⟨⟨g1, g2⟩, g3⟩, g4⟩, g5⟩, g6⟩ := h5
  simp [Cond.before, Cond.holds, Cond.value, h1, h2, h3, h4, g1, g2, g3, g4, g5, g6]
def isCode : Jvm.Cond → Bool
  | .code _ _ _ _ => true
  | _ => false
theorem all_split {L : List Jvm.Cond} {P : Jvm.Cond → Bool} (h1 : L.all (fun c => isCode c || P c) = true) (h2 : ∀ c ∈ L.filter isCode, P c = true) : L.all P = true := by
  refine List.all_eq_true.mpr fun c hc => ?_
  have h := List.all_eq_true.mp h1 c hc
  rcases Bool.eq_false_or_eq_true (isCode c) with hi | hi
  · exact h2 c (List.mem_filter.mpr ⟨hc, hi⟩)
  · simpa [hi] using h
set_option maxRecDepth 65536 in
theorem w_c0 : (Jvm.Cond.code x code maxLocals ret).before args0 about1 = true := code_word (m := ⟨1, 2⟩) (meth := k1m2) (c := k1c2) (by decide +kernel) rfl rfl rfl (by decide +kernel)
set_option maxRecDepth 65536 in
theorem w_c1 : (Jvm.Cond.code ({ cls := "com/example/guarantee/guarantee/model/OperatorIsPastPinLaw", name := "all", desc := "()[Lcom/example/guarantee/guarantee/model/Expression$Operator;" } : Jvm.MethodName) method_2_code (0 : Nat) (Option.some (Jvm.ClassFile.FieldType.array (Jvm.ClassFile.FieldType.object "com/example/guarantee/guarantee/model/Expression$Operator")))).before args0 about1 = true := code_word (m := ⟨1, 1⟩) (meth := k1m1) (c := k1c1) (by decide +kernel) rfl rfl rfl (by decide +kernel)
set_option maxRecDepth 65536 in
theorem w_c2 : (Jvm.Cond.code ({ cls := "com/example/guarantee/guarantee/model/Expression$Operator", name := "isPast", desc := "()Z" } : Jvm.MethodName) prog_14_method_6_code (1 : Nat) (Option.some Jvm.ClassFile.FieldType.boolean)).before args0 about1 = true := code_word (m := ⟨6, 0⟩) (meth := k6m0) (c := k6c0) (by decide +kernel) rfl rfl rfl (by decide +kernel)
def codes1 : List Jvm.Cond := [Jvm.Cond.code x code maxLocals ret, Jvm.Cond.code ({ cls := "com/example/guarantee/guarantee/model/OperatorIsPastPinLaw", name := "all", desc := "()[Lcom/example/guarantee/guarantee/model/Expression$Operator;" } : Jvm.MethodName) method_2_code (0 : Nat) (Option.some (Jvm.ClassFile.FieldType.array (Jvm.ClassFile.FieldType.object "com/example/guarantee/guarantee/model/Expression$Operator"))), Jvm.Cond.code ({ cls := "com/example/guarantee/guarantee/model/Expression$Operator", name := "isPast", desc := "()Z" } : Jvm.MethodName) prog_14_method_6_code (1 : Nat) (Option.some Jvm.ClassFile.FieldType.boolean)]
set_option maxRecDepth 65536 in
theorem codes_eq : words1.filter isCode = codes1 := rfl
theorem w_codes : ∀ c ∈ words1.filter isCode, c.before args0 about1 = true := by
  rw [codes_eq]
  intro c hc
  simp only [codes1, List.mem_cons, List.not_mem_nil, or_false] at hc
  rcases hc with rfl | rfl | rfl
  · exact w_c0
  · exact w_c1
  · exact w_c2
set_option maxRecDepth 65536 in
theorem w_t1 : (words1.take 24).all (fun c => isCode c || c.before args0 about1) = true := by decide +kernel
set_option maxRecDepth 65536 in
theorem w_t2 : ((words1.drop 24).take 24).all (fun c => isCode c || c.before args0 about1) = true := by decide +kernel
set_option maxRecDepth 65536 in
theorem w_t3 : (((words1.drop 24).drop 24).take 24).all (fun c => isCode c || c.before args0 about1) = true := by decide +kernel
set_option maxRecDepth 65536 in
theorem w_t4 : (((words1.drop 24).drop 24).drop 24).all (fun c => isCode c || c.before args0 about1) = true := by decide +kernel
theorem w_tables : (allAtoms (Jvm.Cond.code x code maxLocals ret :: tables_1)).before args0 about1 = true := by
  rw [allAtoms_all]
  show words1.all (fun c => c.before args0 about1) = true
  refine all_split ?_ w_codes
  rw [← List.take_append_drop 24 words1, List.all_append, w_t1, ← List.take_append_drop 24 (words1.drop 24), List.all_append, w_t2, ← List.take_append_drop 24 ((words1.drop 24).drop 24), List.all_append, w_t3, w_t4]
  rfl
set_option maxRecDepth 65536 in
theorem w_case : (Jvm.Cond.and given_1 narrow_1).before args0 about1 = true := by decide +kernel
theorem w_applies : (headSpec (Jvm.Cond.code x code maxLocals ret :: tables_1) room_1).applies x e0.platform about1 = true :=
  (Spec.applies_iff w_frames).mpr ⟨w_running, w_runnable, w_alone, w_named, w_hears, w_ripe, w_room, w_tables⟩
theorem atStart : AtStart classFile x code maxLocals ret World_1 tables_1 room_1 Calls_1 rest_1 Pre_1 launch0 p0 e0 about1 theMethod args0 below0 :=
  ⟨lists_1, trivial, launch0.admits_env _ _ _, launch0.least_env, fairChoices_fair.cas, fairChoices_fair.clock, w_frames, w_args, w_heap, w_applies, trivial, trivial, w_case⟩
end start1
theorem witness_1 : WitnessClaimed_1 := ⟨start1.p0, start1.e0, start1.about1, start1.theMethod, start1.args0, start1.below0, start1.atStart⟩
end Jvm.Pilot.@@N@@
