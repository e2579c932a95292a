import JvmDerived
import JvmDerived.Pilot.@@N@@Statement
import JvmDerived.Pilot.@@N@@Code
set_option linter.unusedVariables false
set_option linter.unusedSimpArgs false
@@BLOCK:NumsL.lean.txt@@
namespace Jvm.RoadKit
open Sem ClassFile Op Lib Jvm.Stand Jvm.Free Jvm.LawKit
section New
variable {p : Program} {l : Launch} {e : Env} {R : Room} {s : State} {m : MethodId} {args : Array Value} {below : List Frame} {meth : Method} {c : Code} {T : State} {locs : List Loc} {cells slots : Nat}
theorem retI (X : Stand p l e R s m args below meth c T locs cells slots) (hx : p.tables.exec = Jvm.exec) {pc : Nat} {Ls : Array Slot} {z : Int32} {rest : List Value} (hret : meth.sig.returnType = some .int) (hd : decode c.code pc = .ok (.ireturn, 1)) {fs : List Frame}
    (hl : ∀ (f : JFrame) (acts : List Action), f.method = m → f.locked = none → f.entered = [] → (doReturn e (T.setTop f) acts (some (.int z))).1 = T.setFrames fs) : Steps p.tables e below (T.setTop (mkF m pc Ls (.int z :: rest))) (T.setFrames fs) := by
  have hm' : T.vm.method? m = some meth := X.method'
  have hn : narrow .int (.int z) = .int z := rfl
  show Steps p.tables e below (T.setTop { method := m, pc := pc, locals := Ls, stack := _ :: rest, locked := none }) _
  jvm_step X.here [X.here.top, hx, hd, hm', hret, hn]
  first | (intro acts; rw [hl _ acts rfl rfl rfl]) | rw [hl _ _ rfl rfl rfl]
  exact Steps.refl _
end New
end Jvm.RoadKit
namespace Jvm.Pilot.@@N@@
open Jvm Jvm.ClassFile Sem Op Lib Jvm.Free Jvm.Stand Jvm.LawKit Jvm.RoadKit Bundle Jvm.Pilot.@@N@@.Jvm.D
theorem own_fi {args : Array Value} {s : State} {t : Term} {C n d : String} {k : Int32} {x : Addr} (ht : t.eval args s none [] s = some (.ref x)) (h : (Jvm.Cond.eq (Term.field t C n d) (Term.int k)).value args s none s [] = some true) : Fld s s.heap x C n d (.int k) := by
  obtain ⟨a, b, ha, hb, hk, -⟩ := cmp_v (Or.inl h)
  have hb' : b = .int k := Option.some.inj (hb.symm.trans rfl)
  subst hb'
  cases a <;> simp [Kin, Value.isRef] at hk
  rename_i z
  have hz : z = k := by simpa [Jvm.Cond.value, ha, hb] using h
  subst hz
  exact Fld.start ((fld_at ht).symm.trans ha)
theorem own_fn {args : Array Value} {s : State} {t : Term} {C n d : String} {x : Addr} (ht : t.eval args s none [] s = some (.ref x)) (h : (Jvm.Cond.eq (Term.field t C n d) Term.null).value args s none s [] = some true) : Fld s s.heap x C n d .null := Fld.start ((fld_at ht).symm.trans (null_v h))
theorem own_fx {args : Array Value} {s : State} {t : Term} {C n d K : String} {x : Addr} (ht : t.eval args s none [] s = some (.ref x)) (h : (Jvm.Cond.exactly (Term.field t C n d) K).value args s none s [] = some true) : ∃ y, (Term.field t C n d).eval args s none [] s = some (.ref y) ∧ Fld s s.heap x C n d (.ref y) ∧ Exa s s.heap y K := by
  obtain ⟨y, hy⟩ := exa_v h
  exact ⟨y, hy, Fld.start ((fld_at ht).symm.trans hy), Exa.start hy h⟩
theorem own_sx {args : Array Value} {s : State} {C n d K : String} (hi : (Jvm.Cond.initialized C).before args s = true) (hl : (Jvm.Cond.laysStatic C n d).before args s = true) (h : (Jvm.Cond.exactly (Term.static C n d) K).value args s none s [] = some true) : ∃ x, (Term.static C n d).eval args s none [] s = some (.ref x) ∧ Sta s s.heap C n d (.ref x) ∧ Exa s s.heap x K := by
  obtain ⟨y, hy⟩ := exa_v h
  exact ⟨y, hy, Sta.start hy (Or.inr ⟨hi, hl⟩), Exa.start hy h⟩
theorem own_and31 (x : Int32) : (x &&& 2147483647).toInt = x.toInt % 2 ^ 31 := Jvm.Kit.i32_mask x 2147483647 (k := 31) (by decide) (by decide)
theorem own_pos31 (x : Int32) : 0 ≤ (x &&& 2147483647).toInt := by rw [own_and31]; omega
theorem own_rem (x m : Int32) (hm : 0 < m.toInt) : 0 ≤ ((x &&& 2147483647) % m).toInt ∧ ((x &&& 2147483647) % m).toInt < m.toInt := by
  have h1 := own_pos31 x
  rw [Int32.toInt_mod]
  have h2 : ((x &&& 2147483647).toInt).tmod m.toInt = (x &&& 2147483647).toInt % m.toInt := Int.tmod_eq_emod_of_nonneg h1
  have h3 := Int.emod_nonneg (x &&& 2147483647).toInt (show m.toInt ≠ 0 by omega)
  have h4 := Int.emod_lt_of_pos (x &&& 2147483647).toInt hm
  omega
theorem own_selp {s : State} {args : Array Value} {y : MethodName} {n : Nat} (hy : y.cls ≠ "java/lang/invoke/MethodHandle" ∧ y.cls ≠ "java/lang/invoke/VarHandle") (hins : (Jvm.Cond.instantiable y.cls n).before args s = true) (hpriv : (Jvm.Cond.privateMethod y).before args s = true) (hinst : (Jvm.Cond.instanceMethod y).before args s = true) : (Jvm.Cond.selects y.cls y y).before args s = true := by
  obtain ⟨c, k, hc, hk, -, hniab, -, -⟩ := Cond.instantiable_spec hins
  have hni : k.isInterface = false := (Bool.or_eq_false_iff.mp hniab).1
  obtain ⟨mk, methM, hnamed, hmethM, -, -⟩ := Cond.instanceMethod_spec hinst
  have hfound : s.methodFound? y.cls y.name y.desc = some mk := State.methodFound?_of_named hnamed hy
  have hcls : mk.cls = c := Option.some.inj ((findClass_of_methodNamed hnamed).symm.trans hc)
  have hsel : selectMethod {} s.vm c mk = .method mk := selectMethod_private hmethM (Cond.privateMethod_at hpriv mk methM hnamed hmethM)
  simp only [Cond.before, Cond.holds, Cond.value, hc, hfound, hnamed, hsel, hcls, hk]
  simp; exact hni
theorem own_hp {T : State} {h : Heap} {a : Addr} {c : Cell} (e : T.heap = h) (q : h[a]? = some c) : T.heap[a]? = some c := e ▸ q
theorem own_of_toInt {x : Int32} {n : Int} (h : x.toInt = n) : x = Int32.ofInt n := by rw [← h, Int32.ofInt_toInt]
def own_R (j : Int32) : Prop := j = 0 ∨ j = 1 ∨ j = 2
theorem own_R0 : own_R 0 := Or.inl rfl
theorem own_R1 : own_R 1 := Or.inr (Or.inl rfl)
theorem own_R2 : own_R 2 := Or.inr (Or.inr rfl)
def own_u {α : Type} (f : Int32 → α) (j : Int32) (v : α) : Int32 → α := fun x => if x = j then v else f x
theorem own_us {α : Type} {f : Int32 → α} {j : Int32} {v : α} : own_u f j v j = v := if_pos rfl
theorem own_un {α : Type} {f : Int32 → α} {i j : Int32} {v : α} (h : ¬ i = j) : own_u f j v i = f i := if_neg h
def own_l (f : Int32 → Int32) : List Value := [.int (f 0), .int (f 1), .int (f 2)]
def own_d (f : Int32 → UInt64) : List Value := [.double (f 0), .double (f 1), .double (f 2)]
theorem own_inb {j : Int32} (h : own_R j) : ¬ j < 0 ∧ j < 3 := by rcases h with rfl | rfl | rfl <;> decide
theorem own_l_at {f : Int32 → Int32} {j : Int32} (h : own_R j) : (own_l f).getD j.toNatClampNeg (.int (0 : Int32)) = .int (f j) := by rcases h with rfl | rfl | rfl <;> rfl
theorem own_d_at {f : Int32 → UInt64} {j : Int32} (h : own_R j) : (own_d f).getD j.toNatClampNeg (.double (0 : UInt64)) = .double (f j) := by rcases h with rfl | rfl | rfl <;> rfl
theorem own_l_len {f : Int32 → Int32} {j : Int32} (h : own_R j) : j.toNatClampNeg < (own_l f).length := by rcases h with rfl | rfl | rfl <;> exact Nat.le_of_ble_eq_true rfl
theorem own_d_len {f : Int32 → UInt64} {j : Int32} (h : own_R j) : j.toNatClampNeg < (own_d f).length := by rcases h with rfl | rfl | rfl <;> exact Nat.le_of_ble_eq_true rfl
theorem own_l_set {f : Int32 → Int32} {j v : Int32} (h : own_R j) : (own_l f).set j.toNatClampNeg (.int v) = own_l (own_u f j v) := by rcases h with rfl | rfl | rfl <;> rfl
theorem own_d_set {f : Int32 → UInt64} {j : Int32} {v : UInt64} (h : own_R j) : (own_d f).set j.toNatClampNeg (.double v) = own_d (own_u f j v) := by rcases h with rfl | rfl | rfl <;> rfl
def own_less (kf : Int32 → UInt64) (x y : Int32) : Int32 := if cmpValue (FP.dcmp (kf x) (kf y)) .g < 0 then 1 else if ¬ cmpValue (FP.dcmp (kf x) (kf y)) .l = 0 then 0 else if x < y then 1 else 0
abbrev own_P : Type := (Int32 → Int32) × (Int32 → Int32)
def own_mv (s : own_P) (it ix : Int32) : own_P := (own_u s.1 ix it, own_u s.2 it ix)
def own_up (kf : Int32 → UInt64) (s : own_P) (i : Int32) : own_P := if i = 0 ∨ own_less kf (s.1 i) (s.1 0) = 0 then own_mv s (s.1 i) i else own_mv (own_mv s (s.1 0) i) (s.1 i) 0
def own_ch (kf : Int32 → UInt64) (s : own_P) (n : Int32) : Int32 := if n = 3 ∧ ¬ own_less kf (s.1 2) (s.1 1) = 0 then 2 else 1
def own_dn (kf : Int32 → UInt64) (s : own_P) (i n : Int32) : own_P := if i = 0 ∧ ¬ n = 1 ∧ ¬ own_less kf (s.1 (own_ch kf s n)) (s.1 0) = 0 then own_mv (own_mv s (s.1 (own_ch kf s n)) 0) (s.1 0) (own_ch kf s n) else own_mv s (s.1 i) i
def own_sift (kf : Int32 → UInt64) (s : own_P) (u n : Int32) : own_P := own_dn kf (own_up kf s (s.2 u)) ((own_up kf s (s.2 u)).2 u) n
def own_putA (kf : Int32 → UInt64) (s : own_P) (u n : Int32) : own_P := own_sift kf (own_u s.1 n u, own_u s.2 u n) u (n + 1)
def own_rmv (kf : Int32 → UInt64) (s : own_P) (u i n : Int32) : own_P := if i = n - 1 then (s.1, own_u s.2 u (-1)) else own_sift kf (own_u s.1 i (s.1 (n - 1)), own_u (own_u s.2 u (-1)) (s.1 (n - 1)) i) (s.1 (n - 1)) (n - 1)
theorem d10_0 : decode prog_17_method_10_code 0 = .ok (.aload_n 0, 1) := by decide +kernel
theorem d10_1 : decode prog_17_method_10_code 1 = .ok (.getfield 7, 3) := by decide +kernel
theorem d10_4 : decode prog_17_method_10_code 4 = .ok (.iload_n 1, 1) := by decide +kernel
theorem d10_5 : decode prog_17_method_10_code 5 = .ok (.daload, 1) := by decide +kernel
theorem d10_6 : decode prog_17_method_10_code 6 = .ok (.aload_n 0, 1) := by decide +kernel
theorem d10_7 : decode prog_17_method_10_code 7 = .ok (.getfield 7, 3) := by decide +kernel
theorem d10_10 : decode prog_17_method_10_code 10 = .ok (.iload_n 2, 1) := by decide +kernel
theorem d10_11 : decode prog_17_method_10_code 11 = .ok (.daload, 1) := by decide +kernel
theorem d10_12 : decode prog_17_method_10_code 12 = .ok (.dcmp .g, 1) := by decide +kernel
theorem d10_13 : decode prog_17_method_10_code 13 = .ok (.ifCond .lt 24, 3) := by decide +kernel
theorem d10_16 : decode prog_17_method_10_code 16 = .ok (.aload_n 0, 1) := by decide +kernel
theorem d10_17 : decode prog_17_method_10_code 17 = .ok (.getfield 7, 3) := by decide +kernel
theorem d10_20 : decode prog_17_method_10_code 20 = .ok (.iload_n 1, 1) := by decide +kernel
theorem d10_21 : decode prog_17_method_10_code 21 = .ok (.daload, 1) := by decide +kernel
theorem d10_22 : decode prog_17_method_10_code 22 = .ok (.aload_n 0, 1) := by decide +kernel
theorem d10_23 : decode prog_17_method_10_code 23 = .ok (.getfield 7, 3) := by decide +kernel
theorem d10_26 : decode prog_17_method_10_code 26 = .ok (.iload_n 2, 1) := by decide +kernel
theorem d10_27 : decode prog_17_method_10_code 27 = .ok (.daload, 1) := by decide +kernel
theorem d10_28 : decode prog_17_method_10_code 28 = .ok (.dcmp .l, 1) := by decide +kernel
theorem d10_29 : decode prog_17_method_10_code 29 = .ok (.ifCond .ne 12, 3) := by decide +kernel
theorem d10_32 : decode prog_17_method_10_code 32 = .ok (.iload_n 1, 1) := by decide +kernel
theorem d10_33 : decode prog_17_method_10_code 33 = .ok (.iload_n 2, 1) := by decide +kernel
theorem d10_34 : decode prog_17_method_10_code 34 = .ok (.if_icmp .ge 7, 3) := by decide +kernel
theorem d10_37 : decode prog_17_method_10_code 37 = .ok (.iconst 1, 1) := by decide +kernel
theorem d10_38 : decode prog_17_method_10_code 38 = .ok (.goto 4, 3) := by decide +kernel
theorem d10_41 : decode prog_17_method_10_code 41 = .ok (.iconst 0, 1) := by decide +kernel
theorem d10_42 : decode prog_17_method_10_code 42 = .ok (.ireturn, 1) := by decide +kernel
theorem pn_0 : plainName "com/example/covermesh/covermesh/algorithms/IndexedMinHeap" = true := by first | (simp [plainName, overriddenIn]; done) | decide +kernel
theorem ef_rmLe (m : MethodId) (a1 : Addr) (x : Int32) (y : Int32) : entryFrame m #[(.ref a1), (.int x), (.int y)] 3 = mkF m 0 #[.val (.ref a1), .val (.int x), .val (.int y)] [] := by first | (simp [entryFrame, mkF, argsToLocals, Value.category]; done) | rfl
def QLe (Z : State) (a1 : Addr) (x : Int32) (y : Int32) (aK : Addr) (kk : ClassId) (kf : Int32 → UInt64) (h0 : Heap) (n0 : Nat) (v : Option Value) (h : Heap) (L : List Loc) : Prop := v = some (.int (own_less kf x y)) ∧ Fr n0 L ∧ h = h0
set_option maxRecDepth 65536 in
set_option maxHeartbeats 40000000 in
theorem rmLe (l : Launch) (Z : State) (a0 : Array Value) (hw : ∀ d ∈ tables_1, d.before a0 Z = true) (ws : List Jvm.Cond) (a1 : Addr) (x : Int32) (y : Int32) (aK : Addr) (kk : ClassId) (kf : Int32 → UInt64) (h0 : Heap) (n0 : Nat) (Z0 : n0 ≤ h0.size) (FK : Fld Z h0 a1 "com/example/covermesh/covermesh/algorithms/IndexedMinHeap" "keys" "[D" (.ref aK)) (VK : Arv Z h0 aK kk .double 3 (own_d kf) (.double (0 : UInt64))) (Rx : own_R x) (Ry : own_R y) :
    MetFree l (⟨"com/example/covermesh/covermesh/algorithms/IndexedMinHeap", "less", "(II)Z"⟩ : MethodName) (head1 (Jvm.Cond.code (⟨"com/example/covermesh/covermesh/algorithms/IndexedMinHeap", "less", "(II)Z"⟩ : MethodName) prog_17_method_10_code 3 (some .boolean) :: ws) ({ frames := 0, cells := 0, slots := 0, locals := 0 } : Room)) (fun a U => a = #[(.ref a1), (.int x), (.int y)] ∧ Z.Warmed39 U.vm ∧ U.heap = h0) (fun _ _ _ _ _ => True) (fun _ U o U' => ∃ v L, o = .returned v ∧ QLe Z a1 x y aK kk kf h0 n0 v U'.heap L ∧ FrameEnd U o U' L ({ frames := 0, cells := 0, slots := 0, locals := 0 } : Room).cells ({ frames := 0, cells := 0, slots := 0, locals := 0 } : Room).slots) := by
  refine MetFree.of_bodySF (plainFor_of_name pn_0) hisR ?_
  intro p e s m args below meth c s₁ Bd hml0 hP hK
  obtain ⟨rfl, hZ, hh⟩ := hP
  have hx := Bd.exec
  have hby := Bd.bytes
  have hml : c.maxLocals = 3 := hml0
  have hown : s.vm.findClass "com/example/covermesh/covermesh/algorithms/IndexedMinHeap" = some m.cls := findClass_of_methodNamed Bd.named
  have hnm := (name_of_methodNamed Bd.named Bd.method).1
  have X0 : Stand p l e ({ frames := 0, cells := 0, slots := 0, locals := 0 } : Room) s m #[(.ref a1), (.int x), (.int y)] below meth c s₁ [] 0 0 := Stand.of_body Bd
  have e0 : s₁.heap = h0 := by rw [← hh, Bd.state]; rfl
  have N0 := Fr.nil n0
  have K0 := Keep.refl h0 []
  have go0 : Goes p e below s₁ (entryFrame m #[(.ref a1), (.int x), (.int y)] 3) s₁ (mkF m 0 #[.val (.ref a1), .val (.int x), .val (.int y)] []) := fun t k => castTop (ef_rmLe m a1 x y) k
  have go1 : Goes p e below s₁ (entryFrame m #[(.ref a1), (.int x), (.int y)] 3) s₁ (mkF m 1 #[.val (.ref a1), .val (.int x), .val (.int y)] [(.ref a1)]) := fun t k => by
    refine go0 t ?_
    refine XS.aloadN X0.here hx rfl (hb hby d10_0) rfl rfl ?_
    show Steps p.tables e below (s₁.setTop (mkF m 1 #[.val (.ref a1), .val (.int x), .val (.int y)] [(.ref a1)])) _
    exact k
  obtain ⟨T2, X2, e2, st2⟩ := getF X0 hx hZ hown (host := "") (Or.inl (hw _ (List.mem_of_getElem? (i := 10) rfl))) Via.refl e0 FK (g := (mkF m 1 #[.val (.ref a1), .val (.int x), .val (.int y)] [(.ref a1)])) rfl rfl (hb hby d10_1)
  have go3 : Goes p e below s₁ (entryFrame m #[(.ref a1), (.int x), (.int y)] 3) T2 (mkF m 4 #[.val (.ref a1), .val (.int x), .val (.int y)] [(.ref aK)]) := fun t k => go1 t (st2 t k)
  have go4 : Goes p e below s₁ (entryFrame m #[(.ref a1), (.int x), (.int y)] 3) T2 (mkF m 5 #[.val (.ref a1), .val (.int x), .val (.int y)] [(.int x), (.ref aK)]) := fun t k => by
    refine go3 t ?_
    refine XS.iloadN X2.here hx rfl (hb hby d10_4) rfl ?_
    show Steps p.tables e below (T2.setTop (mkF m 5 #[.val (.ref a1), .val (.int x), .val (.int y)] [(.int x), (.ref aK)])) _
    exact k
  obtain ⟨cl5, Ar5, kq5, Sz5, Nn5, Hs5, Gf5⟩ := id (VK)
  have hin5 : ¬ (x < 0 ∨ cl5.slots.size ≤ (x).toNatClampNeg) := inb_of Sz5 (own_inb Rx)
  have hat5 : cl5.slots[(x).toNatClampNeg]? = some (.double (kf x)) := Has.at Hs5 hin5 (own_d_at Rx)
  have go6 : Goes p e below s₁ (entryFrame m #[(.ref a1), (.int x), (.int y)] 3) T2 (mkF m 7 #[.val (.ref a1), .val (.int x), .val (.int y)] [(.ref a1), (.double (kf x))]) := fun t k => by
    refine go4 t ?_
    refine X2.daload hx (j := x) (v := (.double (kf x))) (own_hp e2 Ar5.1) (State.isArrayOf_alike hZ.alike Ar5.2.1) Ar5.2.2 hin5 hat5 (g := (mkF m 5 #[.val (.ref a1), .val (.int x), .val (.int y)] [(.int x), (.ref aK)])) rfl rfl (hb hby d10_5) _ ?_
    show Steps p.tables e below (T2.setTop (mkF m 6 #[.val (.ref a1), .val (.int x), .val (.int y)] [(.double (kf x))])) _
    refine XS.aloadN X2.here hx rfl (hb hby d10_6) rfl rfl ?_
    show Steps p.tables e below (T2.setTop (mkF m 7 #[.val (.ref a1), .val (.int x), .val (.int y)] [(.ref a1), (.double (kf x))])) _
    exact k
  obtain ⟨T7, X7, e7, st7⟩ := getF X2 hx hZ hown (host := "") (Or.inl (hw _ (List.mem_of_getElem? (i := 10) rfl))) Via.refl e2 FK (g := (mkF m 7 #[.val (.ref a1), .val (.int x), .val (.int y)] [(.ref a1), (.double (kf x))])) rfl rfl (hb hby d10_7)
  have go8 : Goes p e below s₁ (entryFrame m #[(.ref a1), (.int x), (.int y)] 3) T7 (mkF m 10 #[.val (.ref a1), .val (.int x), .val (.int y)] [(.ref aK), (.double (kf x))]) := fun t k => go6 t (st7 t k)
  have go9 : Goes p e below s₁ (entryFrame m #[(.ref a1), (.int x), (.int y)] 3) T7 (mkF m 11 #[.val (.ref a1), .val (.int x), .val (.int y)] [(.int y), (.ref aK), (.double (kf x))]) := fun t k => by
    refine go8 t ?_
    refine XS.iloadN X7.here hx rfl (hb hby d10_10) rfl ?_
    show Steps p.tables e below (T7.setTop (mkF m 11 #[.val (.ref a1), .val (.int x), .val (.int y)] [(.int y), (.ref aK), (.double (kf x))])) _
    exact k
  obtain ⟨cl10, Ar10, kq10, Sz10, Nn10, Hs10, Gf10⟩ := id (VK)
  have hin10 : ¬ (y < 0 ∨ cl10.slots.size ≤ (y).toNatClampNeg) := inb_of Sz10 (own_inb Ry)
  have hat10 : cl10.slots[(y).toNatClampNeg]? = some (.double (kf y)) := Has.at Hs10 hin10 (own_d_at Ry)
  have go11 : Goes p e below s₁ (entryFrame m #[(.ref a1), (.int x), (.int y)] 3) T7 (mkF m 13 #[.val (.ref a1), .val (.int x), .val (.int y)] [(.int (cmpValue (FP.dcmp (kf x) (kf y)) .g))]) := fun t k => by
    refine go9 t ?_
    refine X7.daload hx (j := y) (v := (.double (kf y))) (own_hp e7 Ar10.1) (State.isArrayOf_alike hZ.alike Ar10.2.1) Ar10.2.2 hin10 hat10 (g := (mkF m 11 #[.val (.ref a1), .val (.int x), .val (.int y)] [(.int y), (.ref aK), (.double (kf x))])) rfl rfl (hb hby d10_11) _ ?_
    show Steps p.tables e below (T7.setTop (mkF m 12 #[.val (.ref a1), .val (.int x), .val (.int y)] [(.double (kf y)), (.double (kf x))])) _
    refine XS.dcmpS X7.here hx rfl (hb hby d10_12) rfl rfl ?_
    show Steps p.tables e below (T7.setTop (mkF m 13 #[.val (.ref a1), .val (.int x), .val (.int y)] [(.int (cmpValue (FP.dcmp (kf x) (kf y)) .g))])) _
    exact k
  by_cases hc12 : (cmpValue (FP.dcmp (kf x) (kf y)) .g) < (0 : Int32)
  · have go13 : Goes p e below s₁ (entryFrame m #[(.ref a1), (.int x), (.int y)] 3) T7 (mkF m 42 #[.val (.ref a1), .val (.int x), .val (.int y)] [(.int (1 : Int32))]) := fun t k => by
      refine go11 t ?_
      refine XS.ifYes X7.here hx rfl (pc0 := 13) (pc' := 37) rfl (hb hby d10_13) rfl (Jvm.Free.XT.i0_lt_t hc12) (by decide) (by decide) ?_
      show Steps p.tables e below (T7.setTop (mkF m 37 #[.val (.ref a1), .val (.int x), .val (.int y)] [])) _
      refine XS.iconst X7.here hx rfl (hb hby d10_37) ?_
      show Steps p.tables e below (T7.setTop (mkF m 38 #[.val (.ref a1), .val (.int x), .val (.int y)] [(.int (1 : Int32))])) _
      refine XS.goto X7.here hx rfl (pc0 := 38) (pc' := 42) rfl (hb hby d10_38) (by decide) (by decide) ?_
      show Steps p.tables e below (T7.setTop (mkF m 42 #[.val (.ref a1), .val (.int x), .val (.int y)] [(.int (1 : Int32))])) _
      exact k
    obtain ⟨fs, hr, hrun, hended, hW, hsame⟩ := X7.leave (v := some (.int (1 : Int32))) (fun h => by rw [Bd.returns] at h; cases h)
    refine ⟨_, _, go13 _ ?_, hrun, hended, _, _, rfl, ?_, ⟨_, rfl⟩, hW, hsame.mono (by decide) (by decide)⟩
    · exact retN X7 hx (t := .boolean) Bd.returns (by simp) (hb hby d10_42) hr
    · show QLe Z _ _ _ _ _ _ _ _ _ T7.heap _
      rw [e7]
      exact ⟨by simp [own_less, hc12], N0, rfl⟩
  · have go14 : Goes p e below s₁ (entryFrame m #[(.ref a1), (.int x), (.int y)] 3) T7 (mkF m 17 #[.val (.ref a1), .val (.int x), .val (.int y)] [(.ref a1)]) := fun t k => by
      refine go11 t ?_
      refine XS.ifNo X7.here hx rfl (hb hby d10_13) rfl (Jvm.Free.XT.i0_lt_f hc12) ?_
      show Steps p.tables e below (T7.setTop (mkF m 16 #[.val (.ref a1), .val (.int x), .val (.int y)] [])) _
      refine XS.aloadN X7.here hx rfl (hb hby d10_16) rfl rfl ?_
      show Steps p.tables e below (T7.setTop (mkF m 17 #[.val (.ref a1), .val (.int x), .val (.int y)] [(.ref a1)])) _
      exact k
    obtain ⟨T15, X15, e15, st15⟩ := getF X7 hx hZ hown (host := "") (Or.inl (hw _ (List.mem_of_getElem? (i := 10) rfl))) Via.refl e7 FK (g := (mkF m 17 #[.val (.ref a1), .val (.int x), .val (.int y)] [(.ref a1)])) rfl rfl (hb hby d10_17)
    have go16 : Goes p e below s₁ (entryFrame m #[(.ref a1), (.int x), (.int y)] 3) T15 (mkF m 20 #[.val (.ref a1), .val (.int x), .val (.int y)] [(.ref aK)]) := fun t k => go14 t (st15 t k)
    have go17 : Goes p e below s₁ (entryFrame m #[(.ref a1), (.int x), (.int y)] 3) T15 (mkF m 21 #[.val (.ref a1), .val (.int x), .val (.int y)] [(.int x), (.ref aK)]) := fun t k => by
      refine go16 t ?_
      refine XS.iloadN X15.here hx rfl (hb hby d10_20) rfl ?_
      show Steps p.tables e below (T15.setTop (mkF m 21 #[.val (.ref a1), .val (.int x), .val (.int y)] [(.int x), (.ref aK)])) _
      exact k
    obtain ⟨cl18, Ar18, kq18, Sz18, Nn18, Hs18, Gf18⟩ := id (VK)
    have hin18 : ¬ (x < 0 ∨ cl18.slots.size ≤ (x).toNatClampNeg) := inb_of Sz18 (own_inb Rx)
    have hat18 : cl18.slots[(x).toNatClampNeg]? = some (.double (kf x)) := Has.at Hs18 hin18 (own_d_at Rx)
    have go19 : Goes p e below s₁ (entryFrame m #[(.ref a1), (.int x), (.int y)] 3) T15 (mkF m 23 #[.val (.ref a1), .val (.int x), .val (.int y)] [(.ref a1), (.double (kf x))]) := fun t k => by
      refine go17 t ?_
      refine X15.daload hx (j := x) (v := (.double (kf x))) (own_hp e15 Ar18.1) (State.isArrayOf_alike hZ.alike Ar18.2.1) Ar18.2.2 hin18 hat18 (g := (mkF m 21 #[.val (.ref a1), .val (.int x), .val (.int y)] [(.int x), (.ref aK)])) rfl rfl (hb hby d10_21) _ ?_
      show Steps p.tables e below (T15.setTop (mkF m 22 #[.val (.ref a1), .val (.int x), .val (.int y)] [(.double (kf x))])) _
      refine XS.aloadN X15.here hx rfl (hb hby d10_22) rfl rfl ?_
      show Steps p.tables e below (T15.setTop (mkF m 23 #[.val (.ref a1), .val (.int x), .val (.int y)] [(.ref a1), (.double (kf x))])) _
      exact k
    obtain ⟨T20, X20, e20, st20⟩ := getF X15 hx hZ hown (host := "") (Or.inl (hw _ (List.mem_of_getElem? (i := 10) rfl))) Via.refl e15 FK (g := (mkF m 23 #[.val (.ref a1), .val (.int x), .val (.int y)] [(.ref a1), (.double (kf x))])) rfl rfl (hb hby d10_23)
    have go21 : Goes p e below s₁ (entryFrame m #[(.ref a1), (.int x), (.int y)] 3) T20 (mkF m 26 #[.val (.ref a1), .val (.int x), .val (.int y)] [(.ref aK), (.double (kf x))]) := fun t k => go19 t (st20 t k)
    have go22 : Goes p e below s₁ (entryFrame m #[(.ref a1), (.int x), (.int y)] 3) T20 (mkF m 27 #[.val (.ref a1), .val (.int x), .val (.int y)] [(.int y), (.ref aK), (.double (kf x))]) := fun t k => by
      refine go21 t ?_
      refine XS.iloadN X20.here hx rfl (hb hby d10_26) rfl ?_
      show Steps p.tables e below (T20.setTop (mkF m 27 #[.val (.ref a1), .val (.int x), .val (.int y)] [(.int y), (.ref aK), (.double (kf x))])) _
      exact k
    obtain ⟨cl23, Ar23, kq23, Sz23, Nn23, Hs23, Gf23⟩ := id (VK)
    have hin23 : ¬ (y < 0 ∨ cl23.slots.size ≤ (y).toNatClampNeg) := inb_of Sz23 (own_inb Ry)
    have hat23 : cl23.slots[(y).toNatClampNeg]? = some (.double (kf y)) := Has.at Hs23 hin23 (own_d_at Ry)
    have go24 : Goes p e below s₁ (entryFrame m #[(.ref a1), (.int x), (.int y)] 3) T20 (mkF m 29 #[.val (.ref a1), .val (.int x), .val (.int y)] [(.int (cmpValue (FP.dcmp (kf x) (kf y)) .l))]) := fun t k => by
      refine go22 t ?_
      refine X20.daload hx (j := y) (v := (.double (kf y))) (own_hp e20 Ar23.1) (State.isArrayOf_alike hZ.alike Ar23.2.1) Ar23.2.2 hin23 hat23 (g := (mkF m 27 #[.val (.ref a1), .val (.int x), .val (.int y)] [(.int y), (.ref aK), (.double (kf x))])) rfl rfl (hb hby d10_27) _ ?_
      show Steps p.tables e below (T20.setTop (mkF m 28 #[.val (.ref a1), .val (.int x), .val (.int y)] [(.double (kf y)), (.double (kf x))])) _
      refine XS.dcmpS X20.here hx rfl (hb hby d10_28) rfl rfl ?_
      show Steps p.tables e below (T20.setTop (mkF m 29 #[.val (.ref a1), .val (.int x), .val (.int y)] [(.int (cmpValue (FP.dcmp (kf x) (kf y)) .l))])) _
      exact k
    by_cases hc25 : (cmpValue (FP.dcmp (kf x) (kf y)) .l) = (0 : Int32)
    · have go26 : Goes p e below s₁ (entryFrame m #[(.ref a1), (.int x), (.int y)] 3) T20 (mkF m 34 #[.val (.ref a1), .val (.int x), .val (.int y)] [(.int y), (.int x)]) := fun t k => by
        refine go24 t ?_
        refine XS.ifNo X20.here hx rfl (hb hby d10_29) rfl (Jvm.Free.XT.i0_ne_f hc25) ?_
        show Steps p.tables e below (T20.setTop (mkF m 32 #[.val (.ref a1), .val (.int x), .val (.int y)] [])) _
        refine XS.iloadN X20.here hx rfl (hb hby d10_32) rfl ?_
        show Steps p.tables e below (T20.setTop (mkF m 33 #[.val (.ref a1), .val (.int x), .val (.int y)] [(.int x)])) _
        refine XS.iloadN X20.here hx rfl (hb hby d10_33) rfl ?_
        show Steps p.tables e below (T20.setTop (mkF m 34 #[.val (.ref a1), .val (.int x), .val (.int y)] [(.int y), (.int x)])) _
        exact k
      by_cases hc27 : x < y
      · have go28 : Goes p e below s₁ (entryFrame m #[(.ref a1), (.int x), (.int y)] 3) T20 (mkF m 42 #[.val (.ref a1), .val (.int x), .val (.int y)] [(.int (1 : Int32))]) := fun t k => by
          refine go26 t ?_
          refine XS.icmpNo X20.here hx rfl (hb hby d10_34) rfl (Jvm.Free.XT.ii_ge_f hc27) ?_
          show Steps p.tables e below (T20.setTop (mkF m 37 #[.val (.ref a1), .val (.int x), .val (.int y)] [])) _
          refine XS.iconst X20.here hx rfl (hb hby d10_37) ?_
          show Steps p.tables e below (T20.setTop (mkF m 38 #[.val (.ref a1), .val (.int x), .val (.int y)] [(.int (1 : Int32))])) _
          refine XS.goto X20.here hx rfl (pc0 := 38) (pc' := 42) rfl (hb hby d10_38) (by decide) (by decide) ?_
          show Steps p.tables e below (T20.setTop (mkF m 42 #[.val (.ref a1), .val (.int x), .val (.int y)] [(.int (1 : Int32))])) _
          exact k
        obtain ⟨fs, hr, hrun, hended, hW, hsame⟩ := X20.leave (v := some (.int (1 : Int32))) (fun h => by rw [Bd.returns] at h; cases h)
        refine ⟨_, _, go28 _ ?_, hrun, hended, _, _, rfl, ?_, ⟨_, rfl⟩, hW, hsame.mono (by decide) (by decide)⟩
        · exact retN X20 hx (t := .boolean) Bd.returns (by simp) (hb hby d10_42) hr
        · show QLe Z _ _ _ _ _ _ _ _ _ T20.heap _
          rw [e20]
          exact ⟨by simp [own_less, hc12, hc25, hc27], N0, rfl⟩
      · have go29 : Goes p e below s₁ (entryFrame m #[(.ref a1), (.int x), (.int y)] 3) T20 (mkF m 42 #[.val (.ref a1), .val (.int x), .val (.int y)] [(.int (0 : Int32))]) := fun t k => by
          refine go26 t ?_
          refine XS.icmpYes X20.here hx rfl (pc0 := 34) (pc' := 41) rfl (hb hby d10_34) rfl (Jvm.Free.XT.ii_ge_t hc27) (by decide) (by decide) ?_
          show Steps p.tables e below (T20.setTop (mkF m 41 #[.val (.ref a1), .val (.int x), .val (.int y)] [])) _
          refine XS.iconst X20.here hx rfl (hb hby d10_41) ?_
          show Steps p.tables e below (T20.setTop (mkF m 42 #[.val (.ref a1), .val (.int x), .val (.int y)] [(.int (0 : Int32))])) _
          exact k
        obtain ⟨fs, hr, hrun, hended, hW, hsame⟩ := X20.leave (v := some (.int (0 : Int32))) (fun h => by rw [Bd.returns] at h; cases h)
        refine ⟨_, _, go29 _ ?_, hrun, hended, _, _, rfl, ?_, ⟨_, rfl⟩, hW, hsame.mono (by decide) (by decide)⟩
        · exact retN X20 hx (t := .boolean) Bd.returns (by simp) (hb hby d10_42) hr
        · show QLe Z _ _ _ _ _ _ _ _ _ T20.heap _
          rw [e20]
          exact ⟨by simp [own_less, hc12, hc25, hc27], N0, rfl⟩
    · have go30 : Goes p e below s₁ (entryFrame m #[(.ref a1), (.int x), (.int y)] 3) T20 (mkF m 42 #[.val (.ref a1), .val (.int x), .val (.int y)] [(.int (0 : Int32))]) := fun t k => by
        refine go24 t ?_
        refine XS.ifYes X20.here hx rfl (pc0 := 29) (pc' := 41) rfl (hb hby d10_29) rfl (Jvm.Free.XT.i0_ne_t hc25) (by decide) (by decide) ?_
        show Steps p.tables e below (T20.setTop (mkF m 41 #[.val (.ref a1), .val (.int x), .val (.int y)] [])) _
        refine XS.iconst X20.here hx rfl (hb hby d10_41) ?_
        show Steps p.tables e below (T20.setTop (mkF m 42 #[.val (.ref a1), .val (.int x), .val (.int y)] [(.int (0 : Int32))])) _
        exact k
      obtain ⟨fs, hr, hrun, hended, hW, hsame⟩ := X20.leave (v := some (.int (0 : Int32))) (fun h => by rw [Bd.returns] at h; cases h)
      refine ⟨_, _, go30 _ ?_, hrun, hended, _, _, rfl, ?_, ⟨_, rfl⟩, hW, hsame.mono (by decide) (by decide)⟩
      · exact retN X20 hx (t := .boolean) Bd.returns (by simp) (hb hby d10_42) hr
      · show QLe Z _ _ _ _ _ _ _ _ _ T20.heap _
        rw [e20]
        exact ⟨by simp [own_less, hc12, hc25], N0, rfl⟩
theorem d8_0 : decode prog_17_method_9_code 0 = .ok (.aload_n 0, 1) := by decide +kernel
theorem d8_1 : decode prog_17_method_9_code 1 = .ok (.getfield 13, 3) := by decide +kernel
theorem d8_4 : decode prog_17_method_9_code 4 = .ok (.iload_n 2, 1) := by decide +kernel
theorem d8_5 : decode prog_17_method_9_code 5 = .ok (.iload_n 1, 1) := by decide +kernel
theorem d8_6 : decode prog_17_method_9_code 6 = .ok (.iastore, 1) := by decide +kernel
theorem d8_7 : decode prog_17_method_9_code 7 = .ok (.aload_n 0, 1) := by decide +kernel
theorem d8_8 : decode prog_17_method_9_code 8 = .ok (.getfield 17, 3) := by decide +kernel
theorem d8_11 : decode prog_17_method_9_code 11 = .ok (.iload_n 1, 1) := by decide +kernel
theorem d8_12 : decode prog_17_method_9_code 12 = .ok (.iload_n 2, 1) := by decide +kernel
theorem d8_13 : decode prog_17_method_9_code 13 = .ok (.iastore, 1) := by decide +kernel
theorem d8_14 : decode prog_17_method_9_code 14 = .ok (.return_, 1) := by decide +kernel
theorem ef_rmMv (m : MethodId) (a1 : Addr) (it : Int32) (ix : Int32) : entryFrame m #[(.ref a1), (.int it), (.int ix)] 3 = mkF m 0 #[.val (.ref a1), .val (.int it), .val (.int ix)] [] := by first | (simp [entryFrame, mkF, argsToLocals, Value.category]; done) | rfl
def QMv (Z : State) (a1 : Addr) (it : Int32) (ix : Int32) (aI aP : Addr) (ki kp : ClassId) (σ : own_P) (h0 : Heap) (n0 : Nat) (v : Option Value) (h : Heap) (L : List Loc) : Prop := v = none ∧ Fr n0 L ∧ Keep h0 h [aI, aP] ∧ Arv Z h aI ki .int 3 (own_l (own_mv σ it ix).1) (.int (0 : Int32)) ∧ Arv Z h aP kp .int 3 (own_l (own_mv σ it ix).2) (.int (0 : Int32))
set_option maxRecDepth 65536 in
set_option maxHeartbeats 40000000 in
theorem rmMv (l : Launch) (Z : State) (a0 : Array Value) (hw : ∀ d ∈ tables_1, d.before a0 Z = true) (ws : List Jvm.Cond) (a1 : Addr) (it : Int32) (ix : Int32) (aI aP : Addr) (ki kp : ClassId) (σ : own_P) (h0 : Heap) (n0 : Nat) (Z0 : n0 ≤ h0.size) (FI : Fld Z h0 a1 "com/example/covermesh/covermesh/algorithms/IndexedMinHeap" "items" "[I" (.ref aI)) (FP : Fld Z h0 a1 "com/example/covermesh/covermesh/algorithms/IndexedMinHeap" "positions" "[I" (.ref aP)) (VI : Arv Z h0 aI ki .int 3 (own_l σ.1) (.int (0 : Int32))) (VP : Arv Z h0 aP kp .int 3 (own_l σ.2) (.int (0 : Int32))) (nIP : aI ≠ aP) (gI : n0 ≤ aI) (gP : n0 ≤ aP) (Rt : own_R it) (Rx : own_R ix) (nAI : a1 ≠ aI) (nAP : a1 ≠ aP) :
    MetFree l (⟨"com/example/covermesh/covermesh/algorithms/IndexedMinHeap", "move", "(II)V"⟩ : MethodName) (head1 (Jvm.Cond.code (⟨"com/example/covermesh/covermesh/algorithms/IndexedMinHeap", "move", "(II)V"⟩ : MethodName) prog_17_method_9_code 3 none :: ws) ({ frames := 0, cells := 0, slots := 0, locals := 0 } : Room)) (fun a U => a = #[(.ref a1), (.int it), (.int ix)] ∧ Z.Warmed39 U.vm ∧ U.heap = h0) (fun _ _ _ _ _ => True) (fun _ U o U' => ∃ v L, o = .returned v ∧ QMv Z a1 it ix aI aP ki kp σ h0 n0 v U'.heap L ∧ FrameEnd U o U' L ({ frames := 0, cells := 0, slots := 0, locals := 0 } : Room).cells ({ frames := 0, cells := 0, slots := 0, locals := 0 } : Room).slots) := by
  refine MetFree.of_bodySF (plainFor_of_name pn_0) hisR ?_
  intro p e s m args below meth c s₁ Bd hml0 hP hK
  obtain ⟨rfl, hZ, hh⟩ := hP
  have hx := Bd.exec
  have hby := Bd.bytes
  have hml : c.maxLocals = 3 := hml0
  have hown : s.vm.findClass "com/example/covermesh/covermesh/algorithms/IndexedMinHeap" = some m.cls := findClass_of_methodNamed Bd.named
  have hnm := (name_of_methodNamed Bd.named Bd.method).1
  have X0 : Stand p l e ({ frames := 0, cells := 0, slots := 0, locals := 0 } : Room) s m #[(.ref a1), (.int it), (.int ix)] below meth c s₁ [] 0 0 := Stand.of_body Bd
  have e0 : s₁.heap = h0 := by rw [← hh, Bd.state]; rfl
  have N0 := Fr.nil n0
  have K0 := Keep.refl h0 [aI, aP]
  have go0 : Goes p e below s₁ (entryFrame m #[(.ref a1), (.int it), (.int ix)] 3) s₁ (mkF m 0 #[.val (.ref a1), .val (.int it), .val (.int ix)] []) := fun t k => castTop (ef_rmMv m a1 it ix) k
  have go1 : Goes p e below s₁ (entryFrame m #[(.ref a1), (.int it), (.int ix)] 3) s₁ (mkF m 1 #[.val (.ref a1), .val (.int it), .val (.int ix)] [(.ref a1)]) := fun t k => by
    refine go0 t ?_
    refine XS.aloadN X0.here hx rfl (hb hby d8_0) rfl rfl ?_
    show Steps p.tables e below (s₁.setTop (mkF m 1 #[.val (.ref a1), .val (.int it), .val (.int ix)] [(.ref a1)])) _
    exact k
  obtain ⟨T2, X2, e2, st2⟩ := getF X0 hx hZ hown (host := "") (Or.inl (hw _ (List.mem_of_getElem? (i := 13) rfl))) Via.refl e0 FI (g := (mkF m 1 #[.val (.ref a1), .val (.int it), .val (.int ix)] [(.ref a1)])) rfl rfl (hb hby d8_1)
  have go3 : Goes p e below s₁ (entryFrame m #[(.ref a1), (.int it), (.int ix)] 3) T2 (mkF m 4 #[.val (.ref a1), .val (.int it), .val (.int ix)] [(.ref aI)]) := fun t k => go1 t (st2 t k)
  have go4 : Goes p e below s₁ (entryFrame m #[(.ref a1), (.int it), (.int ix)] 3) T2 (mkF m 6 #[.val (.ref a1), .val (.int it), .val (.int ix)] [(.int it), (.int ix), (.ref aI)]) := fun t k => by
    refine go3 t ?_
    refine XS.iloadN X2.here hx rfl (hb hby d8_4) rfl ?_
    show Steps p.tables e below (T2.setTop (mkF m 5 #[.val (.ref a1), .val (.int it), .val (.int ix)] [(.int ix), (.ref aI)])) _
    refine XS.iloadN X2.here hx rfl (hb hby d8_5) rfl ?_
    show Steps p.tables e below (T2.setTop (mkF m 6 #[.val (.ref a1), .val (.int it), .val (.int ix)] [(.int it), (.int ix), (.ref aI)])) _
    exact k
  obtain ⟨cl5, Ar5, kq5, Sz5, Nn5, Hs5, Gf5⟩ := id (VI)
  have hin5 : ¬ (ix < 0 ∨ cl5.slots.size ≤ (ix).toNatClampNeg) := inb_of Sz5 (own_inb Rx)
  obtain ⟨T6, h6, X6, e6, W6, st6⟩ := stI X2 hx hZ e2 Ar5 (j := ix) hin5 (g := (mkF m 6 #[.val (.ref a1), .val (.int it), .val (.int ix)] [(.int it), (.int ix), (.ref aI)])) rfl rfl (hb hby d8_6)
  have V7 : Arv Z h6 aI ki .int 3 (own_l (own_u σ.1 ix it)) (.int (0 : Int32)) := by rw [← own_l_set Rx]; exact Arv.set Ar5 kq5 Sz5 Nn5 Hs5 Gf5 rfl W6 _ rfl (own_l_len Rx)
  have f8 := FI.other W6 (Or.inl nAI)
  have f9 := FP.other W6 (Or.inl nAI)
  have f10 := VP.other W6 (Ne.symm nIP)
  have Z11 := Nat.le_trans Z0 (Nat.le_of_eq W6.size.symm)
  have K12 := K0.wr W6 (Or.inl (List.mem_of_getElem? (i := 0) rfl))
  have N13 := Fr.snoc X6 N0 gI
  have go14 : Goes p e below s₁ (entryFrame m #[(.ref a1), (.int it), (.int ix)] 3) T6 (mkF m 7 #[.val (.ref a1), .val (.int it), .val (.int ix)] []) := fun t k => go4 t (st6 t k)
  have go15 : Goes p e below s₁ (entryFrame m #[(.ref a1), (.int it), (.int ix)] 3) T6 (mkF m 8 #[.val (.ref a1), .val (.int it), .val (.int ix)] [(.ref a1)]) := fun t k => by
    refine go14 t ?_
    refine XS.aloadN X6.here hx rfl (hb hby d8_7) rfl rfl ?_
    show Steps p.tables e below (T6.setTop (mkF m 8 #[.val (.ref a1), .val (.int it), .val (.int ix)] [(.ref a1)])) _
    exact k
  obtain ⟨T16, X16, e16, st16⟩ := getF X6 hx hZ hown (host := "") (Or.inl (hw _ (List.mem_of_getElem? (i := 15) rfl))) Via.refl e6 f9 (g := (mkF m 8 #[.val (.ref a1), .val (.int it), .val (.int ix)] [(.ref a1)])) rfl rfl (hb hby d8_8)
  have go17 : Goes p e below s₁ (entryFrame m #[(.ref a1), (.int it), (.int ix)] 3) T16 (mkF m 11 #[.val (.ref a1), .val (.int it), .val (.int ix)] [(.ref aP)]) := fun t k => go15 t (st16 t k)
  have go18 : Goes p e below s₁ (entryFrame m #[(.ref a1), (.int it), (.int ix)] 3) T16 (mkF m 13 #[.val (.ref a1), .val (.int it), .val (.int ix)] [(.int ix), (.int it), (.ref aP)]) := fun t k => by
    refine go17 t ?_
    refine XS.iloadN X16.here hx rfl (hb hby d8_11) rfl ?_
    show Steps p.tables e below (T16.setTop (mkF m 12 #[.val (.ref a1), .val (.int it), .val (.int ix)] [(.int it), (.ref aP)])) _
    refine XS.iloadN X16.here hx rfl (hb hby d8_12) rfl ?_
    show Steps p.tables e below (T16.setTop (mkF m 13 #[.val (.ref a1), .val (.int it), .val (.int ix)] [(.int ix), (.int it), (.ref aP)])) _
    exact k
  obtain ⟨cl19, Ar19, kq19, Sz19, Nn19, Hs19, Gf19⟩ := id (f10)
  have hin19 : ¬ (it < 0 ∨ cl19.slots.size ≤ (it).toNatClampNeg) := inb_of Sz19 (own_inb Rt)
  obtain ⟨T20, h20, X20, e20, W20, st20⟩ := stI X16 hx hZ e16 Ar19 (j := it) hin19 (g := (mkF m 13 #[.val (.ref a1), .val (.int it), .val (.int ix)] [(.int ix), (.int it), (.ref aP)])) rfl rfl (hb hby d8_13)
  have V21 : Arv Z h20 aP kp .int 3 (own_l (own_u σ.2 it ix)) (.int (0 : Int32)) := by rw [← own_l_set Rt]; exact Arv.set Ar19 kq19 Sz19 Nn19 Hs19 Gf19 rfl W20 _ rfl (own_l_len Rt)
  have f22 := f8.other W20 (Or.inl nAP)
  have f23 := f9.other W20 (Or.inl nAP)
  have f24 := V7.other W20 nIP
  have Z25 := Nat.le_trans Z11 (Nat.le_of_eq W20.size.symm)
  have K26 := K12.wr W20 (Or.inl (List.mem_of_getElem? (i := 1) rfl))
  have N27 := Fr.snoc X20 N13 gP
  have go28 : Goes p e below s₁ (entryFrame m #[(.ref a1), (.int it), (.int ix)] 3) T20 (mkF m 14 #[.val (.ref a1), .val (.int it), .val (.int ix)] []) := fun t k => go18 t (st20 t k)
  obtain ⟨fs, hr, hrun, hended, hW, hsame⟩ := X20.leave (v := none) (fun _ => rfl)
  refine ⟨_, _, go28 _ ?_, hrun, hended, _, _, rfl, ?_, ⟨_, rfl⟩, hW, hsame.mono (by decide) (by decide)⟩
  · exact X20.returnOut hx Bd.returns (hb hby d8_14) hr
  · show QMv Z _ _ _ _ _ _ _ _ _ _ _ T20.heap _
    rw [e20]
    exact ⟨rfl, N27, K26, f24, V21⟩
theorem pd_0 : parseMethodDescriptor "(II)V" = some ⟨[.int, .int], none⟩ := by decide +kernel
theorem d7_0 : decode prog_17_method_7_code 0 = .ok (.aload_n 0, 1) := by decide +kernel
theorem d7_1 : decode prog_17_method_7_code 1 = .ok (.getfield 13, 3) := by decide +kernel
theorem d7_4 : decode prog_17_method_7_code 4 = .ok (.iload_n 1, 1) := by decide +kernel
theorem d7_5 : decode prog_17_method_7_code 5 = .ok (.iaload, 1) := by decide +kernel
theorem d7_6 : decode prog_17_method_7_code 6 = .ok (.istore_n 2, 1) := by decide +kernel
theorem d7_7 : decode prog_17_method_7_code 7 = .ok (.iload_n 1, 1) := by decide +kernel
theorem d7_8 : decode prog_17_method_7_code 8 = .ok (.ifCond .le 43, 3) := by decide +kernel
theorem d7_11 : decode prog_17_method_7_code 11 = .ok (.aload_n 0, 1) := by decide +kernel
theorem d7_12 : decode prog_17_method_7_code 12 = .ok (.iload_n 2, 1) := by decide +kernel
theorem d7_13 : decode prog_17_method_7_code 13 = .ok (.aload_n 0, 1) := by decide +kernel
theorem d7_14 : decode prog_17_method_7_code 14 = .ok (.getfield 13, 3) := by decide +kernel
theorem d7_17 : decode prog_17_method_7_code 17 = .ok (.iload_n 1, 1) := by decide +kernel
theorem d7_18 : decode prog_17_method_7_code 18 = .ok (.iconst 1, 1) := by decide +kernel
theorem d7_19 : decode prog_17_method_7_code 19 = .ok (.isub, 1) := by decide +kernel
theorem d7_20 : decode prog_17_method_7_code 20 = .ok (.iconst 2, 1) := by decide +kernel
theorem d7_21 : decode prog_17_method_7_code 21 = .ok (.idiv, 1) := by decide +kernel
theorem d7_22 : decode prog_17_method_7_code 22 = .ok (.iaload, 1) := by decide +kernel
theorem d7_23 : decode prog_17_method_7_code 23 = .ok (.invokevirtual 40, 3) := by decide +kernel
theorem d7_26 : decode prog_17_method_7_code 26 = .ok (.ifCond .eq 25, 3) := by decide +kernel
theorem d7_29 : decode prog_17_method_7_code 29 = .ok (.iload_n 1, 1) := by decide +kernel
theorem d7_30 : decode prog_17_method_7_code 30 = .ok (.iconst 1, 1) := by decide +kernel
theorem d7_31 : decode prog_17_method_7_code 31 = .ok (.isub, 1) := by decide +kernel
theorem d7_32 : decode prog_17_method_7_code 32 = .ok (.iconst 2, 1) := by decide +kernel
theorem d7_33 : decode prog_17_method_7_code 33 = .ok (.idiv, 1) := by decide +kernel
theorem d7_34 : decode prog_17_method_7_code 34 = .ok (.istore_n 3, 1) := by decide +kernel
theorem d7_35 : decode prog_17_method_7_code 35 = .ok (.aload_n 0, 1) := by decide +kernel
theorem d7_36 : decode prog_17_method_7_code 36 = .ok (.aload_n 0, 1) := by decide +kernel
theorem d7_37 : decode prog_17_method_7_code 37 = .ok (.getfield 13, 3) := by decide +kernel
theorem d7_40 : decode prog_17_method_7_code 40 = .ok (.iload_n 3, 1) := by decide +kernel
theorem d7_41 : decode prog_17_method_7_code 41 = .ok (.iaload, 1) := by decide +kernel
theorem d7_42 : decode prog_17_method_7_code 42 = .ok (.iload_n 1, 1) := by decide +kernel
theorem d7_43 : decode prog_17_method_7_code 43 = .ok (.invokevirtual 44, 3) := by decide +kernel
theorem d7_46 : decode prog_17_method_7_code 46 = .ok (.iload_n 3, 1) := by decide +kernel
theorem d7_47 : decode prog_17_method_7_code 47 = .ok (.istore_n 1, 1) := by decide +kernel
theorem d7_48 : decode prog_17_method_7_code 48 = .ok (.goto (-41), 3) := by decide +kernel
theorem d7_51 : decode prog_17_method_7_code 51 = .ok (.aload_n 0, 1) := by decide +kernel
theorem d7_52 : decode prog_17_method_7_code 52 = .ok (.iload_n 2, 1) := by decide +kernel
theorem d7_53 : decode prog_17_method_7_code 53 = .ok (.iload_n 1, 1) := by decide +kernel
theorem d7_54 : decode prog_17_method_7_code 54 = .ok (.invokevirtual 44, 3) := by decide +kernel
theorem d7_57 : decode prog_17_method_7_code 57 = .ok (.return_, 1) := by decide +kernel
theorem ef_rmU0 (m : MethodId) (a1 : Addr) : entryFrame m #[(.ref a1), (.int (0 : Int32))] 4 = mkF m 0 #[.val (.ref a1), .val (.int (0 : Int32)), .unset, .unset] [] := by first | (simp [entryFrame, mkF, argsToLocals, Value.category]; done) | rfl
def QU0 (Z : State) (a1 : Addr) (aK aI aP : Addr) (kk ki kp : ClassId) (kf : Int32 → UInt64) (σ : own_P) (sz : Int32) (h0 : Heap) (n0 : Nat) (v : Option Value) (h : Heap) (L : List Loc) : Prop := v = none ∧ Fr n0 L ∧ Keep h0 h [aI, aP] ∧ Arv Z h aI ki .int 3 (own_l (own_up kf σ (0 : Int32)).1) (.int (0 : Int32)) ∧ Arv Z h aP kp .int 3 (own_l (own_up kf σ (0 : Int32)).2) (.int (0 : Int32))
set_option maxRecDepth 65536 in
set_option maxHeartbeats 40000000 in
theorem rmU0 (l : Launch) (Z : State) (a0 : Array Value) (hw : ∀ d ∈ tables_1, d.before a0 Z = true) (ws : List Jvm.Cond) (a1 : Addr) (aK aI aP : Addr) (kk ki kp : ClassId) (kf : Int32 → UInt64) (σ : own_P) (sz : Int32) (h0 : Heap) (n0 : Nat) (Z0 : n0 ≤ h0.size) (E1 : Exa Z h0 a1 "com/example/covermesh/covermesh/algorithms/IndexedMinHeap") (FK : Fld Z h0 a1 "com/example/covermesh/covermesh/algorithms/IndexedMinHeap" "keys" "[D" (.ref aK)) (FI : Fld Z h0 a1 "com/example/covermesh/covermesh/algorithms/IndexedMinHeap" "items" "[I" (.ref aI)) (FP : Fld Z h0 a1 "com/example/covermesh/covermesh/algorithms/IndexedMinHeap" "positions" "[I" (.ref aP)) (FS : Fld Z h0 a1 "com/example/covermesh/covermesh/algorithms/IndexedMinHeap" "size" "I" (.int sz)) (VK : Arv Z h0 aK kk .double 3 (own_d kf) (.double (0 : UInt64))) (VI : Arv Z h0 aI ki .int 3 (own_l σ.1) (.int (0 : Int32))) (VP : Arv Z h0 aP kp .int 3 (own_l σ.2) (.int (0 : Int32))) (nKI : aK ≠ aI) (nKP : aK ≠ aP) (nIP : aI ≠ aP) (nAK : a1 ≠ aK) (nAI : a1 ≠ aI) (nAP : a1 ≠ aP) (gA : n0 ≤ a1) (gK : n0 ≤ aK) (gI : n0 ≤ aI) (gP : n0 ≤ aP) (Ri : own_R (σ.1 (0 : Int32))) :
    MetFree l (⟨"com/example/covermesh/covermesh/algorithms/IndexedMinHeap", "siftUp", "(I)V"⟩ : MethodName) (head1 (Jvm.Cond.code (⟨"com/example/covermesh/covermesh/algorithms/IndexedMinHeap", "siftUp", "(I)V"⟩ : MethodName) prog_17_method_7_code 4 none :: ws) ({ frames := 1, cells := 0, slots := 0, locals := 14 } : Room)) (fun a U => a = #[(.ref a1), (.int (0 : Int32))] ∧ Z.Warmed39 U.vm ∧ U.heap = h0) (fun _ _ _ _ _ => True) (fun _ U o U' => ∃ v L, o = .returned v ∧ QU0 Z a1 aK aI aP kk ki kp kf σ sz h0 n0 v U'.heap L ∧ FrameEnd U o U' L ({ frames := 1, cells := 0, slots := 0, locals := 14 } : Room).cells ({ frames := 1, cells := 0, slots := 0, locals := 14 } : Room).slots) := by
  refine MetFree.of_bodySF (plainFor_of_name pn_0) hisR ?_
  intro p e s m args below meth c s₁ Bd hml0 hP hK
  obtain ⟨rfl, hZ, hh⟩ := hP
  have hx := Bd.exec
  have hby := Bd.bytes
  have hml : c.maxLocals = 4 := hml0
  have hown : s.vm.findClass "com/example/covermesh/covermesh/algorithms/IndexedMinHeap" = some m.cls := findClass_of_methodNamed Bd.named
  have hnm := (name_of_methodNamed Bd.named Bd.method).1
  have X0 : Stand p l e ({ frames := 1, cells := 0, slots := 0, locals := 14 } : Room) s m #[(.ref a1), (.int (0 : Int32))] below meth c s₁ [] 0 0 := Stand.of_body Bd
  have e0 : s₁.heap = h0 := by rw [← hh, Bd.state]; rfl
  have N0 := Fr.nil n0
  have K0 := Keep.refl h0 [aI, aP]
  have go0 : Goes p e below s₁ (entryFrame m #[(.ref a1), (.int (0 : Int32))] 4) s₁ (mkF m 0 #[.val (.ref a1), .val (.int (0 : Int32)), .unset, .unset] []) := fun t k => castTop (ef_rmU0 m a1) k
  have go1 : Goes p e below s₁ (entryFrame m #[(.ref a1), (.int (0 : Int32))] 4) s₁ (mkF m 1 #[.val (.ref a1), .val (.int (0 : Int32)), .unset, .unset] [(.ref a1)]) := fun t k => by
    refine go0 t ?_
    refine XS.aloadN X0.here hx rfl (hb hby d7_0) rfl rfl ?_
    show Steps p.tables e below (s₁.setTop (mkF m 1 #[.val (.ref a1), .val (.int (0 : Int32)), .unset, .unset] [(.ref a1)])) _
    exact k
  obtain ⟨T2, X2, e2, st2⟩ := getF X0 hx hZ hown (host := "") (Or.inl (hw _ (List.mem_of_getElem? (i := 13) rfl))) Via.refl e0 FI (g := (mkF m 1 #[.val (.ref a1), .val (.int (0 : Int32)), .unset, .unset] [(.ref a1)])) rfl rfl (hb hby d7_1)
  have go3 : Goes p e below s₁ (entryFrame m #[(.ref a1), (.int (0 : Int32))] 4) T2 (mkF m 4 #[.val (.ref a1), .val (.int (0 : Int32)), .unset, .unset] [(.ref aI)]) := fun t k => go1 t (st2 t k)
  have go4 : Goes p e below s₁ (entryFrame m #[(.ref a1), (.int (0 : Int32))] 4) T2 (mkF m 5 #[.val (.ref a1), .val (.int (0 : Int32)), .unset, .unset] [(.int (0 : Int32)), (.ref aI)]) := fun t k => by
    refine go3 t ?_
    refine XS.iloadN X2.here hx rfl (hb hby d7_4) rfl ?_
    show Steps p.tables e below (T2.setTop (mkF m 5 #[.val (.ref a1), .val (.int (0 : Int32)), .unset, .unset] [(.int (0 : Int32)), (.ref aI)])) _
    exact k
  obtain ⟨cl5, Ar5, kq5, Sz5, Nn5, Hs5, Gf5⟩ := id (VI)
  have hin5 : ¬ ((0 : Int32) < 0 ∨ cl5.slots.size ≤ ((0 : Int32)).toNatClampNeg) := inb_of Sz5 (own_inb own_R0)
  have hat5 : cl5.slots[((0 : Int32)).toNatClampNeg]? = some (.int (σ.1 (0 : Int32))) := Has.at Hs5 hin5 (own_l_at own_R0)
  have go6 : Goes p e below s₁ (entryFrame m #[(.ref a1), (.int (0 : Int32))] 4) T2 (mkF m 8 #[.val (.ref a1), .val (.int (0 : Int32)), .val (.int (σ.1 (0 : Int32))), .unset] [(.int (0 : Int32))]) := fun t k => by
    refine go4 t ?_
    refine X2.iaload hx (j := (0 : Int32)) (v := (.int (σ.1 (0 : Int32)))) (own_hp e2 Ar5.1) (State.isArrayOf_alike hZ.alike Ar5.2.1) Ar5.2.2 hin5 hat5 (g := (mkF m 5 #[.val (.ref a1), .val (.int (0 : Int32)), .unset, .unset] [(.int (0 : Int32)), (.ref aI)])) rfl rfl (hb hby d7_5) _ ?_
    show Steps p.tables e below (T2.setTop (mkF m 6 #[.val (.ref a1), .val (.int (0 : Int32)), .unset, .unset] [(.int (σ.1 (0 : Int32)))])) _
    refine XS.istoreN X2.here hx rfl (hb hby d7_6) rfl (l' := #[.val (.ref a1), .val (.int (0 : Int32)), .val (.int (σ.1 (0 : Int32))), .unset]) rfl ?_
    show Steps p.tables e below (T2.setTop (mkF m 7 #[.val (.ref a1), .val (.int (0 : Int32)), .val (.int (σ.1 (0 : Int32))), .unset] [])) _
    refine XS.iloadN X2.here hx rfl (hb hby d7_7) rfl ?_
    show Steps p.tables e below (T2.setTop (mkF m 8 #[.val (.ref a1), .val (.int (0 : Int32)), .val (.int (σ.1 (0 : Int32))), .unset] [(.int (0 : Int32))])) _
    exact k
  have go7 : Goes p e below s₁ (entryFrame m #[(.ref a1), (.int (0 : Int32))] 4) T2 (mkF m 54 #[.val (.ref a1), .val (.int (0 : Int32)), .val (.int (σ.1 (0 : Int32))), .unset] [(.int (0 : Int32)), (.int (σ.1 (0 : Int32))), (.ref a1)]) := fun t k => by
    refine go6 t ?_
    refine XS.ifYes X2.here hx rfl (pc0 := 8) (pc' := 51) rfl (hb hby d7_8) rfl (Jvm.Free.XT.i0_le_t (by decide)) (by decide) (by decide) ?_
    show Steps p.tables e below (T2.setTop (mkF m 51 #[.val (.ref a1), .val (.int (0 : Int32)), .val (.int (σ.1 (0 : Int32))), .unset] [])) _
    refine XS.aloadN X2.here hx rfl (hb hby d7_51) rfl rfl ?_
    show Steps p.tables e below (T2.setTop (mkF m 52 #[.val (.ref a1), .val (.int (0 : Int32)), .val (.int (σ.1 (0 : Int32))), .unset] [(.ref a1)])) _
    refine XS.iloadN X2.here hx rfl (hb hby d7_52) rfl ?_
    show Steps p.tables e below (T2.setTop (mkF m 53 #[.val (.ref a1), .val (.int (0 : Int32)), .val (.int (σ.1 (0 : Int32))), .unset] [(.int (σ.1 (0 : Int32))), (.ref a1)])) _
    refine XS.iloadN X2.here hx rfl (hb hby d7_53) rfl ?_
    show Steps p.tables e below (T2.setTop (mkF m 54 #[.val (.ref a1), .val (.int (0 : Int32)), .val (.int (σ.1 (0 : Int32))), .unset] [(.int (0 : Int32)), (.int (σ.1 (0 : Int32))), (.ref a1)])) _
    exact k
  obtain ⟨cq8, q8a, q8b⟩ := E1.cell
  obtain ⟨_, _, ⟨T8, L8, k8, n8⟩, -, X8, ⟨Lc8, hQ8, l8, y8, z8⟩, st8⟩ := X2.privateBack hx (y := (⟨"com/example/covermesh/covermesh/algorithms/IndexedMinHeap", "move", "(II)V"⟩ : MethodName)) hown (mvT hZ (hw _ (List.mem_of_getElem? (i := 41) rfl))) (mvT hZ (hw _ (List.mem_of_getElem? (i := 42) rfl))) (own_selp (y := (⟨"com/example/covermesh/covermesh/algorithms/IndexedMinHeap", "move", "(II)V"⟩ : MethodName)) (by decide) (mvT hZ (hw _ (List.mem_of_getElem? (i := 1) rfl))) (mvP hZ (hw _ (List.mem_of_getElem? (i := 43) rfl))) (mvT hZ (hw _ (List.mem_of_getElem? (i := 42) rfl)))) (Cond.privateMethod_at (mvP hZ (hw _ (List.mem_of_getElem? (i := 43) rfl)) (args := #[]))) (mvT hZ (hw _ (List.mem_of_getElem? (i := 44) rfl))) (by decide) (backOf (W := 0) (rmMv l Z a0 hw [] a1 (σ.1 (0 : Int32)) (0 : Int32) aI aP ki kp σ h0 n0 Z0 FI FP VI VP nIP gI gP Ri own_R0 nAI nAP) hZ (hw _ (List.mem_of_getElem? (i := 44) rfl)) (hw _ (List.mem_of_getElem? (i := 2) rfl)) (by decide) (by decide)) (g := (mkF m 54 #[.val (.ref a1), .val (.int (0 : Int32)), .val (.int (σ.1 (0 : Int32))), .unset] [(.int (0 : Int32)), (.int (σ.1 (0 : Int32))), (.ref a1)])) rfl (by rw [hml]; rfl) (Steps.refl _) (a := a1) (by rw [e2]; exact q8a) q8b (argsL := [(.int (σ.1 (0 : Int32))), (.int (0 : Int32))]) (rest := []) (lenOf pd_0 rfl) rfl (by show 2 * 0 + _ ≤ _; exact Nat.le_of_eq rfl) (hb hby d7_54) (fun _ _ => ⟨rfl, e2, (by decide : 0 + 0 ≤ ({ frames := 1, cells := 0, slots := 0, locals := 14 } : Room).cells), (by decide : 0 + 0 ≤ ({ frames := 1, cells := 0, slots := 0, locals := 14 } : Room).slots)⟩)
  dsimp only [Pt.U, Pt.locs, Pt.cells, Pt.slots] at X8 l8 y8 z8 st8 hQ8
  subst l8 y8 z8
  obtain ⟨rfl, N8q, Kq8, VIq8, VPq8⟩ := hQ8
  have N8 := Fr.app N0 N8q
  have f9 := E1.keep Kq8
  have f10 := FK.keep Kq8 (ninS nAI (ninS nAP nin0))
  have f11 := FI.keep Kq8 (ninS nAI (ninS nAP nin0))
  have f12 := FP.keep Kq8 (ninS nAI (ninS nAP nin0))
  have f13 := FS.keep Kq8 (ninS nAI (ninS nAP nin0))
  have f14 := VK.keep Kq8 (ninS nKI (ninS nKP nin0))
  have Z15 := Nat.le_trans Z0 Kq8.1
  have K16 := K0.trans Kq8 (allS (Or.inl (List.mem_of_getElem? (i := 0) rfl)) (allS (Or.inl (List.mem_of_getElem? (i := 1) rfl)) all0))
  have go17 : Goes p e below s₁ (entryFrame m #[(.ref a1), (.int (0 : Int32))] 4) T8 (mkF m 57 #[.val (.ref a1), .val (.int (0 : Int32)), .val (.int (σ.1 (0 : Int32))), .unset] []) := fun t k => go7 t (st8.trans k)
  obtain ⟨fs, hr, hrun, hended, hW, hsame⟩ := X8.leave (v := none) (fun _ => rfl)
  have hup : own_up kf σ (0 : Int32) = (own_mv σ (σ.1 (0 : Int32)) (0 : Int32)) := if_pos (Or.inl rfl)
  refine ⟨_, _, go17 _ ?_, hrun, hended, _, _, rfl, ?_, ⟨_, rfl⟩, hW, hsame.mono (by decide) (by decide)⟩
  · exact X8.returnOut hx Bd.returns (hb hby d7_57) hr
  · show QU0 Z _ _ _ _ _ _ _ _ _ _ _ _ _ T8.heap _
    exact ⟨rfl, N8, K16, by rw [hup]; exact VIq8, by rw [hup]; exact VPq8⟩
theorem pd_1 : parseMethodDescriptor "(II)Z" = some ⟨[.int, .int], some .boolean⟩ := by decide +kernel
theorem ef_rmU1 (m : MethodId) (a1 : Addr) : entryFrame m #[(.ref a1), (.int (1 : Int32))] 4 = mkF m 0 #[.val (.ref a1), .val (.int (1 : Int32)), .unset, .unset] [] := by first | (simp [entryFrame, mkF, argsToLocals, Value.category]; done) | rfl
def QU1 (Z : State) (a1 : Addr) (aK aI aP : Addr) (kk ki kp : ClassId) (kf : Int32 → UInt64) (σ : own_P) (sz : Int32) (h0 : Heap) (n0 : Nat) (v : Option Value) (h : Heap) (L : List Loc) : Prop := v = none ∧ Fr n0 L ∧ Keep h0 h [aI, aP] ∧ Arv Z h aI ki .int 3 (own_l (own_up kf σ (1 : Int32)).1) (.int (0 : Int32)) ∧ Arv Z h aP kp .int 3 (own_l (own_up kf σ (1 : Int32)).2) (.int (0 : Int32))
set_option maxRecDepth 65536 in
set_option maxHeartbeats 40000000 in
theorem rmU1 (l : Launch) (Z : State) (a0 : Array Value) (hw : ∀ d ∈ tables_1, d.before a0 Z = true) (ws : List Jvm.Cond) (a1 : Addr) (aK aI aP : Addr) (kk ki kp : ClassId) (kf : Int32 → UInt64) (σ : own_P) (sz : Int32) (h0 : Heap) (n0 : Nat) (Z0 : n0 ≤ h0.size) (E1 : Exa Z h0 a1 "com/example/covermesh/covermesh/algorithms/IndexedMinHeap") (FK : Fld Z h0 a1 "com/example/covermesh/covermesh/algorithms/IndexedMinHeap" "keys" "[D" (.ref aK)) (FI : Fld Z h0 a1 "com/example/covermesh/covermesh/algorithms/IndexedMinHeap" "items" "[I" (.ref aI)) (FP : Fld Z h0 a1 "com/example/covermesh/covermesh/algorithms/IndexedMinHeap" "positions" "[I" (.ref aP)) (FS : Fld Z h0 a1 "com/example/covermesh/covermesh/algorithms/IndexedMinHeap" "size" "I" (.int sz)) (VK : Arv Z h0 aK kk .double 3 (own_d kf) (.double (0 : UInt64))) (VI : Arv Z h0 aI ki .int 3 (own_l σ.1) (.int (0 : Int32))) (VP : Arv Z h0 aP kp .int 3 (own_l σ.2) (.int (0 : Int32))) (nKI : aK ≠ aI) (nKP : aK ≠ aP) (nIP : aI ≠ aP) (nAK : a1 ≠ aK) (nAI : a1 ≠ aI) (nAP : a1 ≠ aP) (gA : n0 ≤ a1) (gK : n0 ≤ aK) (gI : n0 ≤ aI) (gP : n0 ≤ aP) (Ri : own_R (σ.1 (1 : Int32))) (R0 : own_R (σ.1 (0 : Int32))) :
    MetFree l (⟨"com/example/covermesh/covermesh/algorithms/IndexedMinHeap", "siftUp", "(I)V"⟩ : MethodName) (head1 (Jvm.Cond.code (⟨"com/example/covermesh/covermesh/algorithms/IndexedMinHeap", "siftUp", "(I)V"⟩ : MethodName) prog_17_method_7_code 4 none :: ws) ({ frames := 1, cells := 0, slots := 0, locals := 14 } : Room)) (fun a U => a = #[(.ref a1), (.int (1 : Int32))] ∧ Z.Warmed39 U.vm ∧ U.heap = h0) (fun _ _ _ _ _ => True) (fun _ U o U' => ∃ v L, o = .returned v ∧ QU1 Z a1 aK aI aP kk ki kp kf σ sz h0 n0 v U'.heap L ∧ FrameEnd U o U' L ({ frames := 1, cells := 0, slots := 0, locals := 14 } : Room).cells ({ frames := 1, cells := 0, slots := 0, locals := 14 } : Room).slots) := by
  refine MetFree.of_bodySF (plainFor_of_name pn_0) hisR ?_
  intro p e s m args below meth c s₁ Bd hml0 hP hK
  obtain ⟨rfl, hZ, hh⟩ := hP
  have hx := Bd.exec
  have hby := Bd.bytes
  have hml : c.maxLocals = 4 := hml0
  have hown : s.vm.findClass "com/example/covermesh/covermesh/algorithms/IndexedMinHeap" = some m.cls := findClass_of_methodNamed Bd.named
  have hnm := (name_of_methodNamed Bd.named Bd.method).1
  have X0 : Stand p l e ({ frames := 1, cells := 0, slots := 0, locals := 14 } : Room) s m #[(.ref a1), (.int (1 : Int32))] below meth c s₁ [] 0 0 := Stand.of_body Bd
  have e0 : s₁.heap = h0 := by rw [← hh, Bd.state]; rfl
  have N0 := Fr.nil n0
  have K0 := Keep.refl h0 [aI, aP]
  have go0 : Goes p e below s₁ (entryFrame m #[(.ref a1), (.int (1 : Int32))] 4) s₁ (mkF m 0 #[.val (.ref a1), .val (.int (1 : Int32)), .unset, .unset] []) := fun t k => castTop (ef_rmU1 m a1) k
  have go1 : Goes p e below s₁ (entryFrame m #[(.ref a1), (.int (1 : Int32))] 4) s₁ (mkF m 1 #[.val (.ref a1), .val (.int (1 : Int32)), .unset, .unset] [(.ref a1)]) := fun t k => by
    refine go0 t ?_
    refine XS.aloadN X0.here hx rfl (hb hby d7_0) rfl rfl ?_
    show Steps p.tables e below (s₁.setTop (mkF m 1 #[.val (.ref a1), .val (.int (1 : Int32)), .unset, .unset] [(.ref a1)])) _
    exact k
  obtain ⟨T2, X2, e2, st2⟩ := getF X0 hx hZ hown (host := "") (Or.inl (hw _ (List.mem_of_getElem? (i := 13) rfl))) Via.refl e0 FI (g := (mkF m 1 #[.val (.ref a1), .val (.int (1 : Int32)), .unset, .unset] [(.ref a1)])) rfl rfl (hb hby d7_1)
  have go3 : Goes p e below s₁ (entryFrame m #[(.ref a1), (.int (1 : Int32))] 4) T2 (mkF m 4 #[.val (.ref a1), .val (.int (1 : Int32)), .unset, .unset] [(.ref aI)]) := fun t k => go1 t (st2 t k)
  have go4 : Goes p e below s₁ (entryFrame m #[(.ref a1), (.int (1 : Int32))] 4) T2 (mkF m 5 #[.val (.ref a1), .val (.int (1 : Int32)), .unset, .unset] [(.int (1 : Int32)), (.ref aI)]) := fun t k => by
    refine go3 t ?_
    refine XS.iloadN X2.here hx rfl (hb hby d7_4) rfl ?_
    show Steps p.tables e below (T2.setTop (mkF m 5 #[.val (.ref a1), .val (.int (1 : Int32)), .unset, .unset] [(.int (1 : Int32)), (.ref aI)])) _
    exact k
  obtain ⟨cl5, Ar5, kq5, Sz5, Nn5, Hs5, Gf5⟩ := id (VI)
  have hin5 : ¬ ((1 : Int32) < 0 ∨ cl5.slots.size ≤ ((1 : Int32)).toNatClampNeg) := inb_of Sz5 (own_inb own_R1)
  have hat5 : cl5.slots[((1 : Int32)).toNatClampNeg]? = some (.int (σ.1 (1 : Int32))) := Has.at Hs5 hin5 (own_l_at own_R1)
  have go6 : Goes p e below s₁ (entryFrame m #[(.ref a1), (.int (1 : Int32))] 4) T2 (mkF m 8 #[.val (.ref a1), .val (.int (1 : Int32)), .val (.int (σ.1 (1 : Int32))), .unset] [(.int (1 : Int32))]) := fun t k => by
    refine go4 t ?_
    refine X2.iaload hx (j := (1 : Int32)) (v := (.int (σ.1 (1 : Int32)))) (own_hp e2 Ar5.1) (State.isArrayOf_alike hZ.alike Ar5.2.1) Ar5.2.2 hin5 hat5 (g := (mkF m 5 #[.val (.ref a1), .val (.int (1 : Int32)), .unset, .unset] [(.int (1 : Int32)), (.ref aI)])) rfl rfl (hb hby d7_5) _ ?_
    show Steps p.tables e below (T2.setTop (mkF m 6 #[.val (.ref a1), .val (.int (1 : Int32)), .unset, .unset] [(.int (σ.1 (1 : Int32)))])) _
    refine XS.istoreN X2.here hx rfl (hb hby d7_6) rfl (l' := #[.val (.ref a1), .val (.int (1 : Int32)), .val (.int (σ.1 (1 : Int32))), .unset]) rfl ?_
    show Steps p.tables e below (T2.setTop (mkF m 7 #[.val (.ref a1), .val (.int (1 : Int32)), .val (.int (σ.1 (1 : Int32))), .unset] [])) _
    refine XS.iloadN X2.here hx rfl (hb hby d7_7) rfl ?_
    show Steps p.tables e below (T2.setTop (mkF m 8 #[.val (.ref a1), .val (.int (1 : Int32)), .val (.int (σ.1 (1 : Int32))), .unset] [(.int (1 : Int32))])) _
    exact k
  have go7 : Goes p e below s₁ (entryFrame m #[(.ref a1), (.int (1 : Int32))] 4) T2 (mkF m 14 #[.val (.ref a1), .val (.int (1 : Int32)), .val (.int (σ.1 (1 : Int32))), .unset] [(.ref a1), (.int (σ.1 (1 : Int32))), (.ref a1)]) := fun t k => by
    refine go6 t ?_
    refine XS.ifNo X2.here hx rfl (hb hby d7_8) rfl (Jvm.Free.XT.i0_le_f (by decide)) ?_
    show Steps p.tables e below (T2.setTop (mkF m 11 #[.val (.ref a1), .val (.int (1 : Int32)), .val (.int (σ.1 (1 : Int32))), .unset] [])) _
    refine XS.aloadN X2.here hx rfl (hb hby d7_11) rfl rfl ?_
    show Steps p.tables e below (T2.setTop (mkF m 12 #[.val (.ref a1), .val (.int (1 : Int32)), .val (.int (σ.1 (1 : Int32))), .unset] [(.ref a1)])) _
    refine XS.iloadN X2.here hx rfl (hb hby d7_12) rfl ?_
    show Steps p.tables e below (T2.setTop (mkF m 13 #[.val (.ref a1), .val (.int (1 : Int32)), .val (.int (σ.1 (1 : Int32))), .unset] [(.int (σ.1 (1 : Int32))), (.ref a1)])) _
    refine XS.aloadN X2.here hx rfl (hb hby d7_13) rfl rfl ?_
    show Steps p.tables e below (T2.setTop (mkF m 14 #[.val (.ref a1), .val (.int (1 : Int32)), .val (.int (σ.1 (1 : Int32))), .unset] [(.ref a1), (.int (σ.1 (1 : Int32))), (.ref a1)])) _
    exact k
  obtain ⟨T8, X8, e8, st8⟩ := getF X2 hx hZ hown (host := "") (Or.inl (hw _ (List.mem_of_getElem? (i := 13) rfl))) Via.refl e2 FI (g := (mkF m 14 #[.val (.ref a1), .val (.int (1 : Int32)), .val (.int (σ.1 (1 : Int32))), .unset] [(.ref a1), (.int (σ.1 (1 : Int32))), (.ref a1)])) rfl rfl (hb hby d7_14)
  have go9 : Goes p e below s₁ (entryFrame m #[(.ref a1), (.int (1 : Int32))] 4) T8 (mkF m 17 #[.val (.ref a1), .val (.int (1 : Int32)), .val (.int (σ.1 (1 : Int32))), .unset] [(.ref aI), (.int (σ.1 (1 : Int32))), (.ref a1)]) := fun t k => go7 t (st8 t k)
  have go10 : Goes p e below s₁ (entryFrame m #[(.ref a1), (.int (1 : Int32))] 4) T8 (mkF m 22 #[.val (.ref a1), .val (.int (1 : Int32)), .val (.int (σ.1 (1 : Int32))), .unset] [(.int (0 : Int32)), (.ref aI), (.int (σ.1 (1 : Int32))), (.ref a1)]) := fun t k => by
    refine go9 t ?_
    refine XS.iloadN X8.here hx rfl (hb hby d7_17) rfl ?_
    show Steps p.tables e below (T8.setTop (mkF m 18 #[.val (.ref a1), .val (.int (1 : Int32)), .val (.int (σ.1 (1 : Int32))), .unset] [(.int (1 : Int32)), (.ref aI), (.int (σ.1 (1 : Int32))), (.ref a1)])) _
    refine XS.iconst X8.here hx rfl (hb hby d7_18) ?_
    show Steps p.tables e below (T8.setTop (mkF m 19 #[.val (.ref a1), .val (.int (1 : Int32)), .val (.int (σ.1 (1 : Int32))), .unset] [(.int (1 : Int32)), (.int (1 : Int32)), (.ref aI), (.int (σ.1 (1 : Int32))), (.ref a1)])) _
    refine XS.isub X8.here hx rfl (hb hby d7_19) rfl ?_
    show Steps p.tables e below (T8.setTop (mkF m 20 #[.val (.ref a1), .val (.int (1 : Int32)), .val (.int (σ.1 (1 : Int32))), .unset] [(.int (0 : Int32)), (.ref aI), (.int (σ.1 (1 : Int32))), (.ref a1)])) _
    refine XS.iconst X8.here hx rfl (hb hby d7_20) ?_
    show Steps p.tables e below (T8.setTop (mkF m 21 #[.val (.ref a1), .val (.int (1 : Int32)), .val (.int (σ.1 (1 : Int32))), .unset] [(.int (2 : Int32)), (.int (0 : Int32)), (.ref aI), (.int (σ.1 (1 : Int32))), (.ref a1)])) _
    refine XS.idiv X8.here hx rfl (hb hby d7_21) rfl (by decide) ?_
    show Steps p.tables e below (T8.setTop (mkF m 22 #[.val (.ref a1), .val (.int (1 : Int32)), .val (.int (σ.1 (1 : Int32))), .unset] [(.int (0 : Int32)), (.ref aI), (.int (σ.1 (1 : Int32))), (.ref a1)])) _
    exact k
  obtain ⟨cl11, Ar11, kq11, Sz11, Nn11, Hs11, Gf11⟩ := id (VI)
  have hin11 : ¬ ((0 : Int32) < 0 ∨ cl11.slots.size ≤ ((0 : Int32)).toNatClampNeg) := inb_of Sz11 (own_inb own_R0)
  have hat11 : cl11.slots[((0 : Int32)).toNatClampNeg]? = some (.int (σ.1 (0 : Int32))) := Has.at Hs11 hin11 (own_l_at own_R0)
  have go12 : Goes p e below s₁ (entryFrame m #[(.ref a1), (.int (1 : Int32))] 4) T8 (mkF m 23 #[.val (.ref a1), .val (.int (1 : Int32)), .val (.int (σ.1 (1 : Int32))), .unset] [(.int (σ.1 (0 : Int32))), (.int (σ.1 (1 : Int32))), (.ref a1)]) := fun t k => by
    refine go10 t ?_
    refine X8.iaload hx (j := (0 : Int32)) (v := (.int (σ.1 (0 : Int32)))) (own_hp e8 Ar11.1) (State.isArrayOf_alike hZ.alike Ar11.2.1) Ar11.2.2 hin11 hat11 (g := (mkF m 22 #[.val (.ref a1), .val (.int (1 : Int32)), .val (.int (σ.1 (1 : Int32))), .unset] [(.int (0 : Int32)), (.ref aI), (.int (σ.1 (1 : Int32))), (.ref a1)])) rfl rfl (hb hby d7_22) _ ?_
    show Steps p.tables e below (T8.setTop (mkF m 23 #[.val (.ref a1), .val (.int (1 : Int32)), .val (.int (σ.1 (1 : Int32))), .unset] [(.int (σ.1 (0 : Int32))), (.int (σ.1 (1 : Int32))), (.ref a1)])) _
    exact k
  obtain ⟨cq13, q13a, q13b⟩ := E1.cell
  obtain ⟨_, _, ⟨T13, L13, k13, n13⟩, -, X13, ⟨Lc13, hQ13, l13, y13, z13⟩, st13⟩ := X8.privateBack hx (y := (⟨"com/example/covermesh/covermesh/algorithms/IndexedMinHeap", "less", "(II)Z"⟩ : MethodName)) hown (mvT hZ (hw _ (List.mem_of_getElem? (i := 49) rfl))) (mvT hZ (hw _ (List.mem_of_getElem? (i := 50) rfl))) (own_selp (y := (⟨"com/example/covermesh/covermesh/algorithms/IndexedMinHeap", "less", "(II)Z"⟩ : MethodName)) (by decide) (mvT hZ (hw _ (List.mem_of_getElem? (i := 1) rfl))) (mvP hZ (hw _ (List.mem_of_getElem? (i := 51) rfl))) (mvT hZ (hw _ (List.mem_of_getElem? (i := 50) rfl)))) (Cond.privateMethod_at (mvP hZ (hw _ (List.mem_of_getElem? (i := 51) rfl)) (args := #[]))) (mvT hZ (hw _ (List.mem_of_getElem? (i := 52) rfl))) (by decide) (backOf (W := 0) (rmLe l Z a0 hw [] a1 (σ.1 (1 : Int32)) (σ.1 (0 : Int32)) aK kk kf h0 n0 Z0 FK VK Ri R0) hZ (hw _ (List.mem_of_getElem? (i := 52) rfl)) (hw _ (List.mem_of_getElem? (i := 2) rfl)) (by decide) (by decide)) (g := (mkF m 23 #[.val (.ref a1), .val (.int (1 : Int32)), .val (.int (σ.1 (1 : Int32))), .unset] [(.int (σ.1 (0 : Int32))), (.int (σ.1 (1 : Int32))), (.ref a1)])) rfl (by rw [hml]; rfl) (Steps.refl _) (a := a1) (by rw [e8]; exact q13a) q13b (argsL := [(.int (σ.1 (1 : Int32))), (.int (σ.1 (0 : Int32)))]) (rest := []) (lenOf pd_1 rfl) rfl (by show 2 * 0 + _ ≤ _; exact Nat.le_of_eq rfl) (hb hby d7_23) (fun _ _ => ⟨rfl, e8, (by decide : 0 + 0 ≤ ({ frames := 1, cells := 0, slots := 0, locals := 14 } : Room).cells), (by decide : 0 + 0 ≤ ({ frames := 1, cells := 0, slots := 0, locals := 14 } : Room).slots)⟩)
  dsimp only [Pt.U, Pt.locs, Pt.cells, Pt.slots] at X13 l13 y13 z13 st13 hQ13
  subst l13 y13 z13
  obtain ⟨rfl, N13q, e13⟩ := hQ13
  have N13 := Fr.app N0 N13q
  have go14 : Goes p e below s₁ (entryFrame m #[(.ref a1), (.int (1 : Int32))] 4) T13 (mkF m 26 #[.val (.ref a1), .val (.int (1 : Int32)), .val (.int (σ.1 (1 : Int32))), .unset] [(.int (own_less kf (σ.1 (1 : Int32)) (σ.1 (0 : Int32))))]) := fun t k => go12 t (st13.trans k)
  by_cases hc15 : (own_less kf (σ.1 (1 : Int32)) (σ.1 (0 : Int32))) = (0 : Int32)
  · have go16 : Goes p e below s₁ (entryFrame m #[(.ref a1), (.int (1 : Int32))] 4) T13 (mkF m 54 #[.val (.ref a1), .val (.int (1 : Int32)), .val (.int (σ.1 (1 : Int32))), .unset] [(.int (1 : Int32)), (.int (σ.1 (1 : Int32))), (.ref a1)]) := fun t k => by
      refine go14 t ?_
      refine XS.ifYes X13.here hx rfl (pc0 := 26) (pc' := 51) rfl (hb hby d7_26) rfl (Jvm.Free.XT.i0_eq_t hc15) (by decide) (by decide) ?_
      show Steps p.tables e below (T13.setTop (mkF m 51 #[.val (.ref a1), .val (.int (1 : Int32)), .val (.int (σ.1 (1 : Int32))), .unset] [])) _
      refine XS.aloadN X13.here hx rfl (hb hby d7_51) rfl rfl ?_
      show Steps p.tables e below (T13.setTop (mkF m 52 #[.val (.ref a1), .val (.int (1 : Int32)), .val (.int (σ.1 (1 : Int32))), .unset] [(.ref a1)])) _
      refine XS.iloadN X13.here hx rfl (hb hby d7_52) rfl ?_
      show Steps p.tables e below (T13.setTop (mkF m 53 #[.val (.ref a1), .val (.int (1 : Int32)), .val (.int (σ.1 (1 : Int32))), .unset] [(.int (σ.1 (1 : Int32))), (.ref a1)])) _
      refine XS.iloadN X13.here hx rfl (hb hby d7_53) rfl ?_
      show Steps p.tables e below (T13.setTop (mkF m 54 #[.val (.ref a1), .val (.int (1 : Int32)), .val (.int (σ.1 (1 : Int32))), .unset] [(.int (1 : Int32)), (.int (σ.1 (1 : Int32))), (.ref a1)])) _
      exact k
    obtain ⟨cq17, q17a, q17b⟩ := E1.cell
    obtain ⟨_, _, ⟨T17, L17, k17, n17⟩, -, X17, ⟨Lc17, hQ17, l17, y17, z17⟩, st17⟩ := X13.privateBack hx (y := (⟨"com/example/covermesh/covermesh/algorithms/IndexedMinHeap", "move", "(II)V"⟩ : MethodName)) hown (mvT hZ (hw _ (List.mem_of_getElem? (i := 41) rfl))) (mvT hZ (hw _ (List.mem_of_getElem? (i := 42) rfl))) (own_selp (y := (⟨"com/example/covermesh/covermesh/algorithms/IndexedMinHeap", "move", "(II)V"⟩ : MethodName)) (by decide) (mvT hZ (hw _ (List.mem_of_getElem? (i := 1) rfl))) (mvP hZ (hw _ (List.mem_of_getElem? (i := 43) rfl))) (mvT hZ (hw _ (List.mem_of_getElem? (i := 42) rfl)))) (Cond.privateMethod_at (mvP hZ (hw _ (List.mem_of_getElem? (i := 43) rfl)) (args := #[]))) (mvT hZ (hw _ (List.mem_of_getElem? (i := 44) rfl))) (by decide) (backOf (W := 0) (rmMv l Z a0 hw [] a1 (σ.1 (1 : Int32)) (1 : Int32) aI aP ki kp σ h0 n0 Z0 FI FP VI VP nIP gI gP Ri own_R1 nAI nAP) hZ (hw _ (List.mem_of_getElem? (i := 44) rfl)) (hw _ (List.mem_of_getElem? (i := 2) rfl)) (by decide) (by decide)) (g := (mkF m 54 #[.val (.ref a1), .val (.int (1 : Int32)), .val (.int (σ.1 (1 : Int32))), .unset] [(.int (1 : Int32)), (.int (σ.1 (1 : Int32))), (.ref a1)])) rfl (by rw [hml]; rfl) (Steps.refl _) (a := a1) (by rw [e13]; exact q17a) q17b (argsL := [(.int (σ.1 (1 : Int32))), (.int (1 : Int32))]) (rest := []) (lenOf pd_0 rfl) rfl (by show 2 * 0 + _ ≤ _; exact Nat.le_of_eq rfl) (hb hby d7_54) (fun _ _ => ⟨rfl, e13, (by decide : 0 + 0 ≤ ({ frames := 1, cells := 0, slots := 0, locals := 14 } : Room).cells), (by decide : 0 + 0 ≤ ({ frames := 1, cells := 0, slots := 0, locals := 14 } : Room).slots)⟩)
    dsimp only [Pt.U, Pt.locs, Pt.cells, Pt.slots] at X17 l17 y17 z17 st17 hQ17
    subst l17 y17 z17
    obtain ⟨rfl, N17q, Kq17, VIq17, VPq17⟩ := hQ17
    have N17 := Fr.app N13 N17q
    have f18 := E1.keep Kq17
    have f19 := FK.keep Kq17 (ninS nAI (ninS nAP nin0))
    have f20 := FI.keep Kq17 (ninS nAI (ninS nAP nin0))
    have f21 := FP.keep Kq17 (ninS nAI (ninS nAP nin0))
    have f22 := FS.keep Kq17 (ninS nAI (ninS nAP nin0))
    have f23 := VK.keep Kq17 (ninS nKI (ninS nKP nin0))
    have Z24 := Nat.le_trans Z0 Kq17.1
    have K25 := K0.trans Kq17 (allS (Or.inl (List.mem_of_getElem? (i := 0) rfl)) (allS (Or.inl (List.mem_of_getElem? (i := 1) rfl)) all0))
    have go26 : Goes p e below s₁ (entryFrame m #[(.ref a1), (.int (1 : Int32))] 4) T17 (mkF m 57 #[.val (.ref a1), .val (.int (1 : Int32)), .val (.int (σ.1 (1 : Int32))), .unset] []) := fun t k => go16 t (st17.trans k)
    obtain ⟨fs, hr, hrun, hended, hW, hsame⟩ := X17.leave (v := none) (fun _ => rfl)
    have hup : own_up kf σ (1 : Int32) = (own_mv σ (σ.1 (1 : Int32)) (1 : Int32)) := if_pos (Or.inr hc15)
    refine ⟨_, _, go26 _ ?_, hrun, hended, _, _, rfl, ?_, ⟨_, rfl⟩, hW, hsame.mono (by decide) (by decide)⟩
    · exact X17.returnOut hx Bd.returns (hb hby d7_57) hr
    · show QU1 Z _ _ _ _ _ _ _ _ _ _ _ _ _ T17.heap _
      exact ⟨rfl, N17, K25, by rw [hup]; exact VIq17, by rw [hup]; exact VPq17⟩
  · have go27 : Goes p e below s₁ (entryFrame m #[(.ref a1), (.int (1 : Int32))] 4) T13 (mkF m 37 #[.val (.ref a1), .val (.int (1 : Int32)), .val (.int (σ.1 (1 : Int32))), .val (.int (0 : Int32))] [(.ref a1), (.ref a1)]) := fun t k => by
      refine go14 t ?_
      refine XS.ifNo X13.here hx rfl (hb hby d7_26) rfl (Jvm.Free.XT.i0_eq_f hc15) ?_
      show Steps p.tables e below (T13.setTop (mkF m 29 #[.val (.ref a1), .val (.int (1 : Int32)), .val (.int (σ.1 (1 : Int32))), .unset] [])) _
      refine XS.iloadN X13.here hx rfl (hb hby d7_29) rfl ?_
      show Steps p.tables e below (T13.setTop (mkF m 30 #[.val (.ref a1), .val (.int (1 : Int32)), .val (.int (σ.1 (1 : Int32))), .unset] [(.int (1 : Int32))])) _
      refine XS.iconst X13.here hx rfl (hb hby d7_30) ?_
      show Steps p.tables e below (T13.setTop (mkF m 31 #[.val (.ref a1), .val (.int (1 : Int32)), .val (.int (σ.1 (1 : Int32))), .unset] [(.int (1 : Int32)), (.int (1 : Int32))])) _
      refine XS.isub X13.here hx rfl (hb hby d7_31) rfl ?_
      show Steps p.tables e below (T13.setTop (mkF m 32 #[.val (.ref a1), .val (.int (1 : Int32)), .val (.int (σ.1 (1 : Int32))), .unset] [(.int (0 : Int32))])) _
      refine XS.iconst X13.here hx rfl (hb hby d7_32) ?_
      show Steps p.tables e below (T13.setTop (mkF m 33 #[.val (.ref a1), .val (.int (1 : Int32)), .val (.int (σ.1 (1 : Int32))), .unset] [(.int (2 : Int32)), (.int (0 : Int32))])) _
      refine XS.idiv X13.here hx rfl (hb hby d7_33) rfl (by decide) ?_
      show Steps p.tables e below (T13.setTop (mkF m 34 #[.val (.ref a1), .val (.int (1 : Int32)), .val (.int (σ.1 (1 : Int32))), .unset] [(.int (0 : Int32))])) _
      refine XS.istoreN X13.here hx rfl (hb hby d7_34) rfl (l' := #[.val (.ref a1), .val (.int (1 : Int32)), .val (.int (σ.1 (1 : Int32))), .val (.int (0 : Int32))]) rfl ?_
      show Steps p.tables e below (T13.setTop (mkF m 35 #[.val (.ref a1), .val (.int (1 : Int32)), .val (.int (σ.1 (1 : Int32))), .val (.int (0 : Int32))] [])) _
      refine XS.aloadN X13.here hx rfl (hb hby d7_35) rfl rfl ?_
      show Steps p.tables e below (T13.setTop (mkF m 36 #[.val (.ref a1), .val (.int (1 : Int32)), .val (.int (σ.1 (1 : Int32))), .val (.int (0 : Int32))] [(.ref a1)])) _
      refine XS.aloadN X13.here hx rfl (hb hby d7_36) rfl rfl ?_
      show Steps p.tables e below (T13.setTop (mkF m 37 #[.val (.ref a1), .val (.int (1 : Int32)), .val (.int (σ.1 (1 : Int32))), .val (.int (0 : Int32))] [(.ref a1), (.ref a1)])) _
      exact k
    obtain ⟨T28, X28, e28, st28⟩ := getF X13 hx hZ hown (host := "") (Or.inl (hw _ (List.mem_of_getElem? (i := 13) rfl))) Via.refl e13 FI (g := (mkF m 37 #[.val (.ref a1), .val (.int (1 : Int32)), .val (.int (σ.1 (1 : Int32))), .val (.int (0 : Int32))] [(.ref a1), (.ref a1)])) rfl rfl (hb hby d7_37)
    have go29 : Goes p e below s₁ (entryFrame m #[(.ref a1), (.int (1 : Int32))] 4) T28 (mkF m 40 #[.val (.ref a1), .val (.int (1 : Int32)), .val (.int (σ.1 (1 : Int32))), .val (.int (0 : Int32))] [(.ref aI), (.ref a1)]) := fun t k => go27 t (st28 t k)
    have go30 : Goes p e below s₁ (entryFrame m #[(.ref a1), (.int (1 : Int32))] 4) T28 (mkF m 41 #[.val (.ref a1), .val (.int (1 : Int32)), .val (.int (σ.1 (1 : Int32))), .val (.int (0 : Int32))] [(.int (0 : Int32)), (.ref aI), (.ref a1)]) := fun t k => by
      refine go29 t ?_
      refine XS.iloadN X28.here hx rfl (hb hby d7_40) rfl ?_
      show Steps p.tables e below (T28.setTop (mkF m 41 #[.val (.ref a1), .val (.int (1 : Int32)), .val (.int (σ.1 (1 : Int32))), .val (.int (0 : Int32))] [(.int (0 : Int32)), (.ref aI), (.ref a1)])) _
      exact k
    obtain ⟨cl31, Ar31, kq31, Sz31, Nn31, Hs31, Gf31⟩ := id (VI)
    have hin31 : ¬ ((0 : Int32) < 0 ∨ cl31.slots.size ≤ ((0 : Int32)).toNatClampNeg) := inb_of Sz31 (own_inb own_R0)
    have hat31 : cl31.slots[((0 : Int32)).toNatClampNeg]? = some (.int (σ.1 (0 : Int32))) := Has.at Hs31 hin31 (own_l_at own_R0)
    have go32 : Goes p e below s₁ (entryFrame m #[(.ref a1), (.int (1 : Int32))] 4) T28 (mkF m 43 #[.val (.ref a1), .val (.int (1 : Int32)), .val (.int (σ.1 (1 : Int32))), .val (.int (0 : Int32))] [(.int (1 : Int32)), (.int (σ.1 (0 : Int32))), (.ref a1)]) := fun t k => by
      refine go30 t ?_
      refine X28.iaload hx (j := (0 : Int32)) (v := (.int (σ.1 (0 : Int32)))) (own_hp e28 Ar31.1) (State.isArrayOf_alike hZ.alike Ar31.2.1) Ar31.2.2 hin31 hat31 (g := (mkF m 41 #[.val (.ref a1), .val (.int (1 : Int32)), .val (.int (σ.1 (1 : Int32))), .val (.int (0 : Int32))] [(.int (0 : Int32)), (.ref aI), (.ref a1)])) rfl rfl (hb hby d7_41) _ ?_
      show Steps p.tables e below (T28.setTop (mkF m 42 #[.val (.ref a1), .val (.int (1 : Int32)), .val (.int (σ.1 (1 : Int32))), .val (.int (0 : Int32))] [(.int (σ.1 (0 : Int32))), (.ref a1)])) _
      refine XS.iloadN X28.here hx rfl (hb hby d7_42) rfl ?_
      show Steps p.tables e below (T28.setTop (mkF m 43 #[.val (.ref a1), .val (.int (1 : Int32)), .val (.int (σ.1 (1 : Int32))), .val (.int (0 : Int32))] [(.int (1 : Int32)), (.int (σ.1 (0 : Int32))), (.ref a1)])) _
      exact k
    obtain ⟨cq33, q33a, q33b⟩ := E1.cell
    obtain ⟨_, _, ⟨T33, L33, k33, n33⟩, -, X33, ⟨Lc33, hQ33, l33, y33, z33⟩, st33⟩ := X28.privateBack hx (y := (⟨"com/example/covermesh/covermesh/algorithms/IndexedMinHeap", "move", "(II)V"⟩ : MethodName)) hown (mvT hZ (hw _ (List.mem_of_getElem? (i := 41) rfl))) (mvT hZ (hw _ (List.mem_of_getElem? (i := 42) rfl))) (own_selp (y := (⟨"com/example/covermesh/covermesh/algorithms/IndexedMinHeap", "move", "(II)V"⟩ : MethodName)) (by decide) (mvT hZ (hw _ (List.mem_of_getElem? (i := 1) rfl))) (mvP hZ (hw _ (List.mem_of_getElem? (i := 43) rfl))) (mvT hZ (hw _ (List.mem_of_getElem? (i := 42) rfl)))) (Cond.privateMethod_at (mvP hZ (hw _ (List.mem_of_getElem? (i := 43) rfl)) (args := #[]))) (mvT hZ (hw _ (List.mem_of_getElem? (i := 44) rfl))) (by decide) (backOf (W := 0) (rmMv l Z a0 hw [] a1 (σ.1 (0 : Int32)) (1 : Int32) aI aP ki kp σ h0 n0 Z0 FI FP VI VP nIP gI gP R0 own_R1 nAI nAP) hZ (hw _ (List.mem_of_getElem? (i := 44) rfl)) (hw _ (List.mem_of_getElem? (i := 2) rfl)) (by decide) (by decide)) (g := (mkF m 43 #[.val (.ref a1), .val (.int (1 : Int32)), .val (.int (σ.1 (1 : Int32))), .val (.int (0 : Int32))] [(.int (1 : Int32)), (.int (σ.1 (0 : Int32))), (.ref a1)])) rfl (by rw [hml]; rfl) (Steps.refl _) (a := a1) (by rw [e28]; exact q33a) q33b (argsL := [(.int (σ.1 (0 : Int32))), (.int (1 : Int32))]) (rest := []) (lenOf pd_0 rfl) rfl (by show 2 * 0 + _ ≤ _; exact Nat.le_of_eq rfl) (hb hby d7_43) (fun _ _ => ⟨rfl, e28, (by decide : 0 + 0 ≤ ({ frames := 1, cells := 0, slots := 0, locals := 14 } : Room).cells), (by decide : 0 + 0 ≤ ({ frames := 1, cells := 0, slots := 0, locals := 14 } : Room).slots)⟩)
    dsimp only [Pt.U, Pt.locs, Pt.cells, Pt.slots] at X33 l33 y33 z33 st33 hQ33
    subst l33 y33 z33
    obtain ⟨rfl, N33q, Kq33, VIq33, VPq33⟩ := hQ33
    have N33 := Fr.app N13 N33q
    have f34 := E1.keep Kq33
    have f35 := FK.keep Kq33 (ninS nAI (ninS nAP nin0))
    have f36 := FI.keep Kq33 (ninS nAI (ninS nAP nin0))
    have f37 := FP.keep Kq33 (ninS nAI (ninS nAP nin0))
    have f38 := FS.keep Kq33 (ninS nAI (ninS nAP nin0))
    have f39 := VK.keep Kq33 (ninS nKI (ninS nKP nin0))
    have Z40 := Nat.le_trans Z0 Kq33.1
    have K41 := K0.trans Kq33 (allS (Or.inl (List.mem_of_getElem? (i := 0) rfl)) (allS (Or.inl (List.mem_of_getElem? (i := 1) rfl)) all0))
    have go42 : Goes p e below s₁ (entryFrame m #[(.ref a1), (.int (1 : Int32))] 4) T33 (mkF m 46 #[.val (.ref a1), .val (.int (1 : Int32)), .val (.int (σ.1 (1 : Int32))), .val (.int (0 : Int32))] []) := fun t k => go32 t (st33.trans k)
    have go43 : Goes p e below s₁ (entryFrame m #[(.ref a1), (.int (1 : Int32))] 4) T33 (mkF m 8 #[.val (.ref a1), .val (.int (0 : Int32)), .val (.int (σ.1 (1 : Int32))), .val (.int (0 : Int32))] [(.int (0 : Int32))]) := fun t k => by
      refine go42 t ?_
      refine XS.iloadN X33.here hx rfl (hb hby d7_46) rfl ?_
      show Steps p.tables e below (T33.setTop (mkF m 47 #[.val (.ref a1), .val (.int (1 : Int32)), .val (.int (σ.1 (1 : Int32))), .val (.int (0 : Int32))] [(.int (0 : Int32))])) _
      refine XS.istoreN X33.here hx rfl (hb hby d7_47) rfl (l' := #[.val (.ref a1), .val (.int (0 : Int32)), .val (.int (σ.1 (1 : Int32))), .val (.int (0 : Int32))]) rfl ?_
      show Steps p.tables e below (T33.setTop (mkF m 48 #[.val (.ref a1), .val (.int (0 : Int32)), .val (.int (σ.1 (1 : Int32))), .val (.int (0 : Int32))] [])) _
      refine XS.goto X33.here hx rfl (pc0 := 48) (pc' := 7) rfl (hb hby d7_48) (by decide) (by decide) ?_
      show Steps p.tables e below (T33.setTop (mkF m 7 #[.val (.ref a1), .val (.int (0 : Int32)), .val (.int (σ.1 (1 : Int32))), .val (.int (0 : Int32))] [])) _
      refine XS.iloadN X33.here hx rfl (hb hby d7_7) rfl ?_
      show Steps p.tables e below (T33.setTop (mkF m 8 #[.val (.ref a1), .val (.int (0 : Int32)), .val (.int (σ.1 (1 : Int32))), .val (.int (0 : Int32))] [(.int (0 : Int32))])) _
      exact k
    have go44 : Goes p e below s₁ (entryFrame m #[(.ref a1), (.int (1 : Int32))] 4) T33 (mkF m 54 #[.val (.ref a1), .val (.int (0 : Int32)), .val (.int (σ.1 (1 : Int32))), .val (.int (0 : Int32))] [(.int (0 : Int32)), (.int (σ.1 (1 : Int32))), (.ref a1)]) := fun t k => by
      refine go43 t ?_
      refine XS.ifYes X33.here hx rfl (pc0 := 8) (pc' := 51) rfl (hb hby d7_8) rfl (Jvm.Free.XT.i0_le_t (by decide)) (by decide) (by decide) ?_
      show Steps p.tables e below (T33.setTop (mkF m 51 #[.val (.ref a1), .val (.int (0 : Int32)), .val (.int (σ.1 (1 : Int32))), .val (.int (0 : Int32))] [])) _
      refine XS.aloadN X33.here hx rfl (hb hby d7_51) rfl rfl ?_
      show Steps p.tables e below (T33.setTop (mkF m 52 #[.val (.ref a1), .val (.int (0 : Int32)), .val (.int (σ.1 (1 : Int32))), .val (.int (0 : Int32))] [(.ref a1)])) _
      refine XS.iloadN X33.here hx rfl (hb hby d7_52) rfl ?_
      show Steps p.tables e below (T33.setTop (mkF m 53 #[.val (.ref a1), .val (.int (0 : Int32)), .val (.int (σ.1 (1 : Int32))), .val (.int (0 : Int32))] [(.int (σ.1 (1 : Int32))), (.ref a1)])) _
      refine XS.iloadN X33.here hx rfl (hb hby d7_53) rfl ?_
      show Steps p.tables e below (T33.setTop (mkF m 54 #[.val (.ref a1), .val (.int (0 : Int32)), .val (.int (σ.1 (1 : Int32))), .val (.int (0 : Int32))] [(.int (0 : Int32)), (.int (σ.1 (1 : Int32))), (.ref a1)])) _
      exact k
    obtain ⟨cq45, q45a, q45b⟩ := f34.cell
    obtain ⟨_, _, ⟨T45, L45, k45, n45⟩, -, X45, ⟨Lc45, hQ45, l45, y45, z45⟩, st45⟩ := X33.privateBack hx (y := (⟨"com/example/covermesh/covermesh/algorithms/IndexedMinHeap", "move", "(II)V"⟩ : MethodName)) hown (mvT hZ (hw _ (List.mem_of_getElem? (i := 41) rfl))) (mvT hZ (hw _ (List.mem_of_getElem? (i := 42) rfl))) (own_selp (y := (⟨"com/example/covermesh/covermesh/algorithms/IndexedMinHeap", "move", "(II)V"⟩ : MethodName)) (by decide) (mvT hZ (hw _ (List.mem_of_getElem? (i := 1) rfl))) (mvP hZ (hw _ (List.mem_of_getElem? (i := 43) rfl))) (mvT hZ (hw _ (List.mem_of_getElem? (i := 42) rfl)))) (Cond.privateMethod_at (mvP hZ (hw _ (List.mem_of_getElem? (i := 43) rfl)) (args := #[]))) (mvT hZ (hw _ (List.mem_of_getElem? (i := 44) rfl))) (by decide) (backOf (W := 0) (rmMv l Z a0 hw [] a1 (σ.1 (1 : Int32)) (0 : Int32) aI aP ki kp (own_mv σ (σ.1 (0 : Int32)) (1 : Int32)) T33.heap n0 Z40 f36 f37 VIq33 VPq33 nIP gI gP Ri own_R0 nAI nAP) hZ (hw _ (List.mem_of_getElem? (i := 44) rfl)) (hw _ (List.mem_of_getElem? (i := 2) rfl)) (by decide) (by decide)) (g := (mkF m 54 #[.val (.ref a1), .val (.int (0 : Int32)), .val (.int (σ.1 (1 : Int32))), .val (.int (0 : Int32))] [(.int (0 : Int32)), (.int (σ.1 (1 : Int32))), (.ref a1)])) rfl (by rw [hml]; rfl) (Steps.refl _) (a := a1) q45a q45b (argsL := [(.int (σ.1 (1 : Int32))), (.int (0 : Int32))]) (rest := []) (lenOf pd_0 rfl) rfl (by show 2 * 0 + _ ≤ _; exact Nat.le_of_eq rfl) (hb hby d7_54) (fun _ _ => ⟨rfl, rfl, (by decide : 0 + 0 ≤ ({ frames := 1, cells := 0, slots := 0, locals := 14 } : Room).cells), (by decide : 0 + 0 ≤ ({ frames := 1, cells := 0, slots := 0, locals := 14 } : Room).slots)⟩)
    dsimp only [Pt.U, Pt.locs, Pt.cells, Pt.slots] at X45 l45 y45 z45 st45 hQ45
    subst l45 y45 z45
    obtain ⟨rfl, N45q, Kq45, VIq45, VPq45⟩ := hQ45
    have N45 := Fr.app N33 N45q
    have f46 := f34.keep Kq45
    have f47 := f35.keep Kq45 (ninS nAI (ninS nAP nin0))
    have f48 := f36.keep Kq45 (ninS nAI (ninS nAP nin0))
    have f49 := f37.keep Kq45 (ninS nAI (ninS nAP nin0))
    have f50 := f38.keep Kq45 (ninS nAI (ninS nAP nin0))
    have f51 := f39.keep Kq45 (ninS nKI (ninS nKP nin0))
    have Z52 := Nat.le_trans Z40 Kq45.1
    have K53 := K41.trans Kq45 (allS (Or.inl (List.mem_of_getElem? (i := 0) rfl)) (allS (Or.inl (List.mem_of_getElem? (i := 1) rfl)) all0))
    have go54 : Goes p e below s₁ (entryFrame m #[(.ref a1), (.int (1 : Int32))] 4) T45 (mkF m 57 #[.val (.ref a1), .val (.int (0 : Int32)), .val (.int (σ.1 (1 : Int32))), .val (.int (0 : Int32))] []) := fun t k => go44 t (st45.trans k)
    obtain ⟨fs, hr, hrun, hended, hW, hsame⟩ := X45.leave (v := none) (fun _ => rfl)
    have hup : own_up kf σ (1 : Int32) = (own_mv (own_mv σ (σ.1 (0 : Int32)) (1 : Int32)) (σ.1 (1 : Int32)) (0 : Int32)) := if_neg (fun h => h.elim (by decide) hc15)
    refine ⟨_, _, go54 _ ?_, hrun, hended, _, _, rfl, ?_, ⟨_, rfl⟩, hW, hsame.mono (by decide) (by decide)⟩
    · exact X45.returnOut hx Bd.returns (hb hby d7_57) hr
    · show QU1 Z _ _ _ _ _ _ _ _ _ _ _ _ _ T45.heap _
      exact ⟨rfl, N45, K53, by rw [hup]; exact VIq45, by rw [hup]; exact VPq45⟩
theorem ef_rmU2 (m : MethodId) (a1 : Addr) : entryFrame m #[(.ref a1), (.int (2 : Int32))] 4 = mkF m 0 #[.val (.ref a1), .val (.int (2 : Int32)), .unset, .unset] [] := by first | (simp [entryFrame, mkF, argsToLocals, Value.category]; done) | rfl
def QU2 (Z : State) (a1 : Addr) (aK aI aP : Addr) (kk ki kp : ClassId) (kf : Int32 → UInt64) (σ : own_P) (sz : Int32) (h0 : Heap) (n0 : Nat) (v : Option Value) (h : Heap) (L : List Loc) : Prop := v = none ∧ Fr n0 L ∧ Keep h0 h [aI, aP] ∧ Arv Z h aI ki .int 3 (own_l (own_up kf σ (2 : Int32)).1) (.int (0 : Int32)) ∧ Arv Z h aP kp .int 3 (own_l (own_up kf σ (2 : Int32)).2) (.int (0 : Int32))
set_option maxRecDepth 65536 in
set_option maxHeartbeats 40000000 in
theorem rmU2 (l : Launch) (Z : State) (a0 : Array Value) (hw : ∀ d ∈ tables_1, d.before a0 Z = true) (ws : List Jvm.Cond) (a1 : Addr) (aK aI aP : Addr) (kk ki kp : ClassId) (kf : Int32 → UInt64) (σ : own_P) (sz : Int32) (h0 : Heap) (n0 : Nat) (Z0 : n0 ≤ h0.size) (E1 : Exa Z h0 a1 "com/example/covermesh/covermesh/algorithms/IndexedMinHeap") (FK : Fld Z h0 a1 "com/example/covermesh/covermesh/algorithms/IndexedMinHeap" "keys" "[D" (.ref aK)) (FI : Fld Z h0 a1 "com/example/covermesh/covermesh/algorithms/IndexedMinHeap" "items" "[I" (.ref aI)) (FP : Fld Z h0 a1 "com/example/covermesh/covermesh/algorithms/IndexedMinHeap" "positions" "[I" (.ref aP)) (FS : Fld Z h0 a1 "com/example/covermesh/covermesh/algorithms/IndexedMinHeap" "size" "I" (.int sz)) (VK : Arv Z h0 aK kk .double 3 (own_d kf) (.double (0 : UInt64))) (VI : Arv Z h0 aI ki .int 3 (own_l σ.1) (.int (0 : Int32))) (VP : Arv Z h0 aP kp .int 3 (own_l σ.2) (.int (0 : Int32))) (nKI : aK ≠ aI) (nKP : aK ≠ aP) (nIP : aI ≠ aP) (nAK : a1 ≠ aK) (nAI : a1 ≠ aI) (nAP : a1 ≠ aP) (gA : n0 ≤ a1) (gK : n0 ≤ aK) (gI : n0 ≤ aI) (gP : n0 ≤ aP) (Ri : own_R (σ.1 (2 : Int32))) (R0 : own_R (σ.1 (0 : Int32))) :
    MetFree l (⟨"com/example/covermesh/covermesh/algorithms/IndexedMinHeap", "siftUp", "(I)V"⟩ : MethodName) (head1 (Jvm.Cond.code (⟨"com/example/covermesh/covermesh/algorithms/IndexedMinHeap", "siftUp", "(I)V"⟩ : MethodName) prog_17_method_7_code 4 none :: ws) ({ frames := 1, cells := 0, slots := 0, locals := 14 } : Room)) (fun a U => a = #[(.ref a1), (.int (2 : Int32))] ∧ Z.Warmed39 U.vm ∧ U.heap = h0) (fun _ _ _ _ _ => True) (fun _ U o U' => ∃ v L, o = .returned v ∧ QU2 Z a1 aK aI aP kk ki kp kf σ sz h0 n0 v U'.heap L ∧ FrameEnd U o U' L ({ frames := 1, cells := 0, slots := 0, locals := 14 } : Room).cells ({ frames := 1, cells := 0, slots := 0, locals := 14 } : Room).slots) := by
  refine MetFree.of_bodySF (plainFor_of_name pn_0) hisR ?_
  intro p e s m args below meth c s₁ Bd hml0 hP hK
  obtain ⟨rfl, hZ, hh⟩ := hP
  have hx := Bd.exec
  have hby := Bd.bytes
  have hml : c.maxLocals = 4 := hml0
  have hown : s.vm.findClass "com/example/covermesh/covermesh/algorithms/IndexedMinHeap" = some m.cls := findClass_of_methodNamed Bd.named
  have hnm := (name_of_methodNamed Bd.named Bd.method).1
  have X0 : Stand p l e ({ frames := 1, cells := 0, slots := 0, locals := 14 } : Room) s m #[(.ref a1), (.int (2 : Int32))] below meth c s₁ [] 0 0 := Stand.of_body Bd
  have e0 : s₁.heap = h0 := by rw [← hh, Bd.state]; rfl
  have N0 := Fr.nil n0
  have K0 := Keep.refl h0 [aI, aP]
  have go0 : Goes p e below s₁ (entryFrame m #[(.ref a1), (.int (2 : Int32))] 4) s₁ (mkF m 0 #[.val (.ref a1), .val (.int (2 : Int32)), .unset, .unset] []) := fun t k => castTop (ef_rmU2 m a1) k
  have go1 : Goes p e below s₁ (entryFrame m #[(.ref a1), (.int (2 : Int32))] 4) s₁ (mkF m 1 #[.val (.ref a1), .val (.int (2 : Int32)), .unset, .unset] [(.ref a1)]) := fun t k => by
    refine go0 t ?_
    refine XS.aloadN X0.here hx rfl (hb hby d7_0) rfl rfl ?_
    show Steps p.tables e below (s₁.setTop (mkF m 1 #[.val (.ref a1), .val (.int (2 : Int32)), .unset, .unset] [(.ref a1)])) _
    exact k
  obtain ⟨T2, X2, e2, st2⟩ := getF X0 hx hZ hown (host := "") (Or.inl (hw _ (List.mem_of_getElem? (i := 13) rfl))) Via.refl e0 FI (g := (mkF m 1 #[.val (.ref a1), .val (.int (2 : Int32)), .unset, .unset] [(.ref a1)])) rfl rfl (hb hby d7_1)
  have go3 : Goes p e below s₁ (entryFrame m #[(.ref a1), (.int (2 : Int32))] 4) T2 (mkF m 4 #[.val (.ref a1), .val (.int (2 : Int32)), .unset, .unset] [(.ref aI)]) := fun t k => go1 t (st2 t k)
  have go4 : Goes p e below s₁ (entryFrame m #[(.ref a1), (.int (2 : Int32))] 4) T2 (mkF m 5 #[.val (.ref a1), .val (.int (2 : Int32)), .unset, .unset] [(.int (2 : Int32)), (.ref aI)]) := fun t k => by
    refine go3 t ?_
    refine XS.iloadN X2.here hx rfl (hb hby d7_4) rfl ?_
    show Steps p.tables e below (T2.setTop (mkF m 5 #[.val (.ref a1), .val (.int (2 : Int32)), .unset, .unset] [(.int (2 : Int32)), (.ref aI)])) _
    exact k
  obtain ⟨cl5, Ar5, kq5, Sz5, Nn5, Hs5, Gf5⟩ := id (VI)
  have hin5 : ¬ ((2 : Int32) < 0 ∨ cl5.slots.size ≤ ((2 : Int32)).toNatClampNeg) := inb_of Sz5 (own_inb own_R2)
  have hat5 : cl5.slots[((2 : Int32)).toNatClampNeg]? = some (.int (σ.1 (2 : Int32))) := Has.at Hs5 hin5 (own_l_at own_R2)
  have go6 : Goes p e below s₁ (entryFrame m #[(.ref a1), (.int (2 : Int32))] 4) T2 (mkF m 8 #[.val (.ref a1), .val (.int (2 : Int32)), .val (.int (σ.1 (2 : Int32))), .unset] [(.int (2 : Int32))]) := fun t k => by
    refine go4 t ?_
    refine X2.iaload hx (j := (2 : Int32)) (v := (.int (σ.1 (2 : Int32)))) (own_hp e2 Ar5.1) (State.isArrayOf_alike hZ.alike Ar5.2.1) Ar5.2.2 hin5 hat5 (g := (mkF m 5 #[.val (.ref a1), .val (.int (2 : Int32)), .unset, .unset] [(.int (2 : Int32)), (.ref aI)])) rfl rfl (hb hby d7_5) _ ?_
    show Steps p.tables e below (T2.setTop (mkF m 6 #[.val (.ref a1), .val (.int (2 : Int32)), .unset, .unset] [(.int (σ.1 (2 : Int32)))])) _
    refine XS.istoreN X2.here hx rfl (hb hby d7_6) rfl (l' := #[.val (.ref a1), .val (.int (2 : Int32)), .val (.int (σ.1 (2 : Int32))), .unset]) rfl ?_
    show Steps p.tables e below (T2.setTop (mkF m 7 #[.val (.ref a1), .val (.int (2 : Int32)), .val (.int (σ.1 (2 : Int32))), .unset] [])) _
    refine XS.iloadN X2.here hx rfl (hb hby d7_7) rfl ?_
    show Steps p.tables e below (T2.setTop (mkF m 8 #[.val (.ref a1), .val (.int (2 : Int32)), .val (.int (σ.1 (2 : Int32))), .unset] [(.int (2 : Int32))])) _
    exact k
  have go7 : Goes p e below s₁ (entryFrame m #[(.ref a1), (.int (2 : Int32))] 4) T2 (mkF m 14 #[.val (.ref a1), .val (.int (2 : Int32)), .val (.int (σ.1 (2 : Int32))), .unset] [(.ref a1), (.int (σ.1 (2 : Int32))), (.ref a1)]) := fun t k => by
    refine go6 t ?_
    refine XS.ifNo X2.here hx rfl (hb hby d7_8) rfl (Jvm.Free.XT.i0_le_f (by decide)) ?_
    show Steps p.tables e below (T2.setTop (mkF m 11 #[.val (.ref a1), .val (.int (2 : Int32)), .val (.int (σ.1 (2 : Int32))), .unset] [])) _
    refine XS.aloadN X2.here hx rfl (hb hby d7_11) rfl rfl ?_
    show Steps p.tables e below (T2.setTop (mkF m 12 #[.val (.ref a1), .val (.int (2 : Int32)), .val (.int (σ.1 (2 : Int32))), .unset] [(.ref a1)])) _
    refine XS.iloadN X2.here hx rfl (hb hby d7_12) rfl ?_
    show Steps p.tables e below (T2.setTop (mkF m 13 #[.val (.ref a1), .val (.int (2 : Int32)), .val (.int (σ.1 (2 : Int32))), .unset] [(.int (σ.1 (2 : Int32))), (.ref a1)])) _
    refine XS.aloadN X2.here hx rfl (hb hby d7_13) rfl rfl ?_
    show Steps p.tables e below (T2.setTop (mkF m 14 #[.val (.ref a1), .val (.int (2 : Int32)), .val (.int (σ.1 (2 : Int32))), .unset] [(.ref a1), (.int (σ.1 (2 : Int32))), (.ref a1)])) _
    exact k
  obtain ⟨T8, X8, e8, st8⟩ := getF X2 hx hZ hown (host := "") (Or.inl (hw _ (List.mem_of_getElem? (i := 13) rfl))) Via.refl e2 FI (g := (mkF m 14 #[.val (.ref a1), .val (.int (2 : Int32)), .val (.int (σ.1 (2 : Int32))), .unset] [(.ref a1), (.int (σ.1 (2 : Int32))), (.ref a1)])) rfl rfl (hb hby d7_14)
  have go9 : Goes p e below s₁ (entryFrame m #[(.ref a1), (.int (2 : Int32))] 4) T8 (mkF m 17 #[.val (.ref a1), .val (.int (2 : Int32)), .val (.int (σ.1 (2 : Int32))), .unset] [(.ref aI), (.int (σ.1 (2 : Int32))), (.ref a1)]) := fun t k => go7 t (st8 t k)
  have go10 : Goes p e below s₁ (entryFrame m #[(.ref a1), (.int (2 : Int32))] 4) T8 (mkF m 22 #[.val (.ref a1), .val (.int (2 : Int32)), .val (.int (σ.1 (2 : Int32))), .unset] [(.int (0 : Int32)), (.ref aI), (.int (σ.1 (2 : Int32))), (.ref a1)]) := fun t k => by
    refine go9 t ?_
    refine XS.iloadN X8.here hx rfl (hb hby d7_17) rfl ?_
    show Steps p.tables e below (T8.setTop (mkF m 18 #[.val (.ref a1), .val (.int (2 : Int32)), .val (.int (σ.1 (2 : Int32))), .unset] [(.int (2 : Int32)), (.ref aI), (.int (σ.1 (2 : Int32))), (.ref a1)])) _
    refine XS.iconst X8.here hx rfl (hb hby d7_18) ?_
    show Steps p.tables e below (T8.setTop (mkF m 19 #[.val (.ref a1), .val (.int (2 : Int32)), .val (.int (σ.1 (2 : Int32))), .unset] [(.int (1 : Int32)), (.int (2 : Int32)), (.ref aI), (.int (σ.1 (2 : Int32))), (.ref a1)])) _
    refine XS.isub X8.here hx rfl (hb hby d7_19) rfl ?_
    show Steps p.tables e below (T8.setTop (mkF m 20 #[.val (.ref a1), .val (.int (2 : Int32)), .val (.int (σ.1 (2 : Int32))), .unset] [(.int (1 : Int32)), (.ref aI), (.int (σ.1 (2 : Int32))), (.ref a1)])) _
    refine XS.iconst X8.here hx rfl (hb hby d7_20) ?_
    show Steps p.tables e below (T8.setTop (mkF m 21 #[.val (.ref a1), .val (.int (2 : Int32)), .val (.int (σ.1 (2 : Int32))), .unset] [(.int (2 : Int32)), (.int (1 : Int32)), (.ref aI), (.int (σ.1 (2 : Int32))), (.ref a1)])) _
    refine XS.idiv X8.here hx rfl (hb hby d7_21) rfl (by decide) ?_
    show Steps p.tables e below (T8.setTop (mkF m 22 #[.val (.ref a1), .val (.int (2 : Int32)), .val (.int (σ.1 (2 : Int32))), .unset] [(.int (0 : Int32)), (.ref aI), (.int (σ.1 (2 : Int32))), (.ref a1)])) _
    exact k
  obtain ⟨cl11, Ar11, kq11, Sz11, Nn11, Hs11, Gf11⟩ := id (VI)
  have hin11 : ¬ ((0 : Int32) < 0 ∨ cl11.slots.size ≤ ((0 : Int32)).toNatClampNeg) := inb_of Sz11 (own_inb own_R0)
  have hat11 : cl11.slots[((0 : Int32)).toNatClampNeg]? = some (.int (σ.1 (0 : Int32))) := Has.at Hs11 hin11 (own_l_at own_R0)
  have go12 : Goes p e below s₁ (entryFrame m #[(.ref a1), (.int (2 : Int32))] 4) T8 (mkF m 23 #[.val (.ref a1), .val (.int (2 : Int32)), .val (.int (σ.1 (2 : Int32))), .unset] [(.int (σ.1 (0 : Int32))), (.int (σ.1 (2 : Int32))), (.ref a1)]) := fun t k => by
    refine go10 t ?_
    refine X8.iaload hx (j := (0 : Int32)) (v := (.int (σ.1 (0 : Int32)))) (own_hp e8 Ar11.1) (State.isArrayOf_alike hZ.alike Ar11.2.1) Ar11.2.2 hin11 hat11 (g := (mkF m 22 #[.val (.ref a1), .val (.int (2 : Int32)), .val (.int (σ.1 (2 : Int32))), .unset] [(.int (0 : Int32)), (.ref aI), (.int (σ.1 (2 : Int32))), (.ref a1)])) rfl rfl (hb hby d7_22) _ ?_
    show Steps p.tables e below (T8.setTop (mkF m 23 #[.val (.ref a1), .val (.int (2 : Int32)), .val (.int (σ.1 (2 : Int32))), .unset] [(.int (σ.1 (0 : Int32))), (.int (σ.1 (2 : Int32))), (.ref a1)])) _
    exact k
  obtain ⟨cq13, q13a, q13b⟩ := E1.cell
  obtain ⟨_, _, ⟨T13, L13, k13, n13⟩, -, X13, ⟨Lc13, hQ13, l13, y13, z13⟩, st13⟩ := X8.privateBack hx (y := (⟨"com/example/covermesh/covermesh/algorithms/IndexedMinHeap", "less", "(II)Z"⟩ : MethodName)) hown (mvT hZ (hw _ (List.mem_of_getElem? (i := 49) rfl))) (mvT hZ (hw _ (List.mem_of_getElem? (i := 50) rfl))) (own_selp (y := (⟨"com/example/covermesh/covermesh/algorithms/IndexedMinHeap", "less", "(II)Z"⟩ : MethodName)) (by decide) (mvT hZ (hw _ (List.mem_of_getElem? (i := 1) rfl))) (mvP hZ (hw _ (List.mem_of_getElem? (i := 51) rfl))) (mvT hZ (hw _ (List.mem_of_getElem? (i := 50) rfl)))) (Cond.privateMethod_at (mvP hZ (hw _ (List.mem_of_getElem? (i := 51) rfl)) (args := #[]))) (mvT hZ (hw _ (List.mem_of_getElem? (i := 52) rfl))) (by decide) (backOf (W := 0) (rmLe l Z a0 hw [] a1 (σ.1 (2 : Int32)) (σ.1 (0 : Int32)) aK kk kf h0 n0 Z0 FK VK Ri R0) hZ (hw _ (List.mem_of_getElem? (i := 52) rfl)) (hw _ (List.mem_of_getElem? (i := 2) rfl)) (by decide) (by decide)) (g := (mkF m 23 #[.val (.ref a1), .val (.int (2 : Int32)), .val (.int (σ.1 (2 : Int32))), .unset] [(.int (σ.1 (0 : Int32))), (.int (σ.1 (2 : Int32))), (.ref a1)])) rfl (by rw [hml]; rfl) (Steps.refl _) (a := a1) (by rw [e8]; exact q13a) q13b (argsL := [(.int (σ.1 (2 : Int32))), (.int (σ.1 (0 : Int32)))]) (rest := []) (lenOf pd_1 rfl) rfl (by show 2 * 0 + _ ≤ _; exact Nat.le_of_eq rfl) (hb hby d7_23) (fun _ _ => ⟨rfl, e8, (by decide : 0 + 0 ≤ ({ frames := 1, cells := 0, slots := 0, locals := 14 } : Room).cells), (by decide : 0 + 0 ≤ ({ frames := 1, cells := 0, slots := 0, locals := 14 } : Room).slots)⟩)
  dsimp only [Pt.U, Pt.locs, Pt.cells, Pt.slots] at X13 l13 y13 z13 st13 hQ13
  subst l13 y13 z13
  obtain ⟨rfl, N13q, e13⟩ := hQ13
  have N13 := Fr.app N0 N13q
  have go14 : Goes p e below s₁ (entryFrame m #[(.ref a1), (.int (2 : Int32))] 4) T13 (mkF m 26 #[.val (.ref a1), .val (.int (2 : Int32)), .val (.int (σ.1 (2 : Int32))), .unset] [(.int (own_less kf (σ.1 (2 : Int32)) (σ.1 (0 : Int32))))]) := fun t k => go12 t (st13.trans k)
  by_cases hc15 : (own_less kf (σ.1 (2 : Int32)) (σ.1 (0 : Int32))) = (0 : Int32)
  · have go16 : Goes p e below s₁ (entryFrame m #[(.ref a1), (.int (2 : Int32))] 4) T13 (mkF m 54 #[.val (.ref a1), .val (.int (2 : Int32)), .val (.int (σ.1 (2 : Int32))), .unset] [(.int (2 : Int32)), (.int (σ.1 (2 : Int32))), (.ref a1)]) := fun t k => by
      refine go14 t ?_
      refine XS.ifYes X13.here hx rfl (pc0 := 26) (pc' := 51) rfl (hb hby d7_26) rfl (Jvm.Free.XT.i0_eq_t hc15) (by decide) (by decide) ?_
      show Steps p.tables e below (T13.setTop (mkF m 51 #[.val (.ref a1), .val (.int (2 : Int32)), .val (.int (σ.1 (2 : Int32))), .unset] [])) _
      refine XS.aloadN X13.here hx rfl (hb hby d7_51) rfl rfl ?_
      show Steps p.tables e below (T13.setTop (mkF m 52 #[.val (.ref a1), .val (.int (2 : Int32)), .val (.int (σ.1 (2 : Int32))), .unset] [(.ref a1)])) _
      refine XS.iloadN X13.here hx rfl (hb hby d7_52) rfl ?_
      show Steps p.tables e below (T13.setTop (mkF m 53 #[.val (.ref a1), .val (.int (2 : Int32)), .val (.int (σ.1 (2 : Int32))), .unset] [(.int (σ.1 (2 : Int32))), (.ref a1)])) _
      refine XS.iloadN X13.here hx rfl (hb hby d7_53) rfl ?_
      show Steps p.tables e below (T13.setTop (mkF m 54 #[.val (.ref a1), .val (.int (2 : Int32)), .val (.int (σ.1 (2 : Int32))), .unset] [(.int (2 : Int32)), (.int (σ.1 (2 : Int32))), (.ref a1)])) _
      exact k
    obtain ⟨cq17, q17a, q17b⟩ := E1.cell
    obtain ⟨_, _, ⟨T17, L17, k17, n17⟩, -, X17, ⟨Lc17, hQ17, l17, y17, z17⟩, st17⟩ := X13.privateBack hx (y := (⟨"com/example/covermesh/covermesh/algorithms/IndexedMinHeap", "move", "(II)V"⟩ : MethodName)) hown (mvT hZ (hw _ (List.mem_of_getElem? (i := 41) rfl))) (mvT hZ (hw _ (List.mem_of_getElem? (i := 42) rfl))) (own_selp (y := (⟨"com/example/covermesh/covermesh/algorithms/IndexedMinHeap", "move", "(II)V"⟩ : MethodName)) (by decide) (mvT hZ (hw _ (List.mem_of_getElem? (i := 1) rfl))) (mvP hZ (hw _ (List.mem_of_getElem? (i := 43) rfl))) (mvT hZ (hw _ (List.mem_of_getElem? (i := 42) rfl)))) (Cond.privateMethod_at (mvP hZ (hw _ (List.mem_of_getElem? (i := 43) rfl)) (args := #[]))) (mvT hZ (hw _ (List.mem_of_getElem? (i := 44) rfl))) (by decide) (backOf (W := 0) (rmMv l Z a0 hw [] a1 (σ.1 (2 : Int32)) (2 : Int32) aI aP ki kp σ h0 n0 Z0 FI FP VI VP nIP gI gP Ri own_R2 nAI nAP) hZ (hw _ (List.mem_of_getElem? (i := 44) rfl)) (hw _ (List.mem_of_getElem? (i := 2) rfl)) (by decide) (by decide)) (g := (mkF m 54 #[.val (.ref a1), .val (.int (2 : Int32)), .val (.int (σ.1 (2 : Int32))), .unset] [(.int (2 : Int32)), (.int (σ.1 (2 : Int32))), (.ref a1)])) rfl (by rw [hml]; rfl) (Steps.refl _) (a := a1) (by rw [e13]; exact q17a) q17b (argsL := [(.int (σ.1 (2 : Int32))), (.int (2 : Int32))]) (rest := []) (lenOf pd_0 rfl) rfl (by show 2 * 0 + _ ≤ _; exact Nat.le_of_eq rfl) (hb hby d7_54) (fun _ _ => ⟨rfl, e13, (by decide : 0 + 0 ≤ ({ frames := 1, cells := 0, slots := 0, locals := 14 } : Room).cells), (by decide : 0 + 0 ≤ ({ frames := 1, cells := 0, slots := 0, locals := 14 } : Room).slots)⟩)
    dsimp only [Pt.U, Pt.locs, Pt.cells, Pt.slots] at X17 l17 y17 z17 st17 hQ17
    subst l17 y17 z17
    obtain ⟨rfl, N17q, Kq17, VIq17, VPq17⟩ := hQ17
    have N17 := Fr.app N13 N17q
    have f18 := E1.keep Kq17
    have f19 := FK.keep Kq17 (ninS nAI (ninS nAP nin0))
    have f20 := FI.keep Kq17 (ninS nAI (ninS nAP nin0))
    have f21 := FP.keep Kq17 (ninS nAI (ninS nAP nin0))
    have f22 := FS.keep Kq17 (ninS nAI (ninS nAP nin0))
    have f23 := VK.keep Kq17 (ninS nKI (ninS nKP nin0))
    have Z24 := Nat.le_trans Z0 Kq17.1
    have K25 := K0.trans Kq17 (allS (Or.inl (List.mem_of_getElem? (i := 0) rfl)) (allS (Or.inl (List.mem_of_getElem? (i := 1) rfl)) all0))
    have go26 : Goes p e below s₁ (entryFrame m #[(.ref a1), (.int (2 : Int32))] 4) T17 (mkF m 57 #[.val (.ref a1), .val (.int (2 : Int32)), .val (.int (σ.1 (2 : Int32))), .unset] []) := fun t k => go16 t (st17.trans k)
    obtain ⟨fs, hr, hrun, hended, hW, hsame⟩ := X17.leave (v := none) (fun _ => rfl)
    have hup : own_up kf σ (2 : Int32) = (own_mv σ (σ.1 (2 : Int32)) (2 : Int32)) := if_pos (Or.inr hc15)
    refine ⟨_, _, go26 _ ?_, hrun, hended, _, _, rfl, ?_, ⟨_, rfl⟩, hW, hsame.mono (by decide) (by decide)⟩
    · exact X17.returnOut hx Bd.returns (hb hby d7_57) hr
    · show QU2 Z _ _ _ _ _ _ _ _ _ _ _ _ _ T17.heap _
      exact ⟨rfl, N17, K25, by rw [hup]; exact VIq17, by rw [hup]; exact VPq17⟩
  · have go27 : Goes p e below s₁ (entryFrame m #[(.ref a1), (.int (2 : Int32))] 4) T13 (mkF m 37 #[.val (.ref a1), .val (.int (2 : Int32)), .val (.int (σ.1 (2 : Int32))), .val (.int (0 : Int32))] [(.ref a1), (.ref a1)]) := fun t k => by
      refine go14 t ?_
      refine XS.ifNo X13.here hx rfl (hb hby d7_26) rfl (Jvm.Free.XT.i0_eq_f hc15) ?_
      show Steps p.tables e below (T13.setTop (mkF m 29 #[.val (.ref a1), .val (.int (2 : Int32)), .val (.int (σ.1 (2 : Int32))), .unset] [])) _
      refine XS.iloadN X13.here hx rfl (hb hby d7_29) rfl ?_
      show Steps p.tables e below (T13.setTop (mkF m 30 #[.val (.ref a1), .val (.int (2 : Int32)), .val (.int (σ.1 (2 : Int32))), .unset] [(.int (2 : Int32))])) _
      refine XS.iconst X13.here hx rfl (hb hby d7_30) ?_
      show Steps p.tables e below (T13.setTop (mkF m 31 #[.val (.ref a1), .val (.int (2 : Int32)), .val (.int (σ.1 (2 : Int32))), .unset] [(.int (1 : Int32)), (.int (2 : Int32))])) _
      refine XS.isub X13.here hx rfl (hb hby d7_31) rfl ?_
      show Steps p.tables e below (T13.setTop (mkF m 32 #[.val (.ref a1), .val (.int (2 : Int32)), .val (.int (σ.1 (2 : Int32))), .unset] [(.int (1 : Int32))])) _
      refine XS.iconst X13.here hx rfl (hb hby d7_32) ?_
      show Steps p.tables e below (T13.setTop (mkF m 33 #[.val (.ref a1), .val (.int (2 : Int32)), .val (.int (σ.1 (2 : Int32))), .unset] [(.int (2 : Int32)), (.int (1 : Int32))])) _
      refine XS.idiv X13.here hx rfl (hb hby d7_33) rfl (by decide) ?_
      show Steps p.tables e below (T13.setTop (mkF m 34 #[.val (.ref a1), .val (.int (2 : Int32)), .val (.int (σ.1 (2 : Int32))), .unset] [(.int (0 : Int32))])) _
      refine XS.istoreN X13.here hx rfl (hb hby d7_34) rfl (l' := #[.val (.ref a1), .val (.int (2 : Int32)), .val (.int (σ.1 (2 : Int32))), .val (.int (0 : Int32))]) rfl ?_
      show Steps p.tables e below (T13.setTop (mkF m 35 #[.val (.ref a1), .val (.int (2 : Int32)), .val (.int (σ.1 (2 : Int32))), .val (.int (0 : Int32))] [])) _
      refine XS.aloadN X13.here hx rfl (hb hby d7_35) rfl rfl ?_
      show Steps p.tables e below (T13.setTop (mkF m 36 #[.val (.ref a1), .val (.int (2 : Int32)), .val (.int (σ.1 (2 : Int32))), .val (.int (0 : Int32))] [(.ref a1)])) _
      refine XS.aloadN X13.here hx rfl (hb hby d7_36) rfl rfl ?_
      show Steps p.tables e below (T13.setTop (mkF m 37 #[.val (.ref a1), .val (.int (2 : Int32)), .val (.int (σ.1 (2 : Int32))), .val (.int (0 : Int32))] [(.ref a1), (.ref a1)])) _
      exact k
    obtain ⟨T28, X28, e28, st28⟩ := getF X13 hx hZ hown (host := "") (Or.inl (hw _ (List.mem_of_getElem? (i := 13) rfl))) Via.refl e13 FI (g := (mkF m 37 #[.val (.ref a1), .val (.int (2 : Int32)), .val (.int (σ.1 (2 : Int32))), .val (.int (0 : Int32))] [(.ref a1), (.ref a1)])) rfl rfl (hb hby d7_37)
    have go29 : Goes p e below s₁ (entryFrame m #[(.ref a1), (.int (2 : Int32))] 4) T28 (mkF m 40 #[.val (.ref a1), .val (.int (2 : Int32)), .val (.int (σ.1 (2 : Int32))), .val (.int (0 : Int32))] [(.ref aI), (.ref a1)]) := fun t k => go27 t (st28 t k)
    have go30 : Goes p e below s₁ (entryFrame m #[(.ref a1), (.int (2 : Int32))] 4) T28 (mkF m 41 #[.val (.ref a1), .val (.int (2 : Int32)), .val (.int (σ.1 (2 : Int32))), .val (.int (0 : Int32))] [(.int (0 : Int32)), (.ref aI), (.ref a1)]) := fun t k => by
      refine go29 t ?_
      refine XS.iloadN X28.here hx rfl (hb hby d7_40) rfl ?_
      show Steps p.tables e below (T28.setTop (mkF m 41 #[.val (.ref a1), .val (.int (2 : Int32)), .val (.int (σ.1 (2 : Int32))), .val (.int (0 : Int32))] [(.int (0 : Int32)), (.ref aI), (.ref a1)])) _
      exact k
    obtain ⟨cl31, Ar31, kq31, Sz31, Nn31, Hs31, Gf31⟩ := id (VI)
    have hin31 : ¬ ((0 : Int32) < 0 ∨ cl31.slots.size ≤ ((0 : Int32)).toNatClampNeg) := inb_of Sz31 (own_inb own_R0)
    have hat31 : cl31.slots[((0 : Int32)).toNatClampNeg]? = some (.int (σ.1 (0 : Int32))) := Has.at Hs31 hin31 (own_l_at own_R0)
    have go32 : Goes p e below s₁ (entryFrame m #[(.ref a1), (.int (2 : Int32))] 4) T28 (mkF m 43 #[.val (.ref a1), .val (.int (2 : Int32)), .val (.int (σ.1 (2 : Int32))), .val (.int (0 : Int32))] [(.int (2 : Int32)), (.int (σ.1 (0 : Int32))), (.ref a1)]) := fun t k => by
      refine go30 t ?_
      refine X28.iaload hx (j := (0 : Int32)) (v := (.int (σ.1 (0 : Int32)))) (own_hp e28 Ar31.1) (State.isArrayOf_alike hZ.alike Ar31.2.1) Ar31.2.2 hin31 hat31 (g := (mkF m 41 #[.val (.ref a1), .val (.int (2 : Int32)), .val (.int (σ.1 (2 : Int32))), .val (.int (0 : Int32))] [(.int (0 : Int32)), (.ref aI), (.ref a1)])) rfl rfl (hb hby d7_41) _ ?_
      show Steps p.tables e below (T28.setTop (mkF m 42 #[.val (.ref a1), .val (.int (2 : Int32)), .val (.int (σ.1 (2 : Int32))), .val (.int (0 : Int32))] [(.int (σ.1 (0 : Int32))), (.ref a1)])) _
      refine XS.iloadN X28.here hx rfl (hb hby d7_42) rfl ?_
      show Steps p.tables e below (T28.setTop (mkF m 43 #[.val (.ref a1), .val (.int (2 : Int32)), .val (.int (σ.1 (2 : Int32))), .val (.int (0 : Int32))] [(.int (2 : Int32)), (.int (σ.1 (0 : Int32))), (.ref a1)])) _
      exact k
    obtain ⟨cq33, q33a, q33b⟩ := E1.cell
    obtain ⟨_, _, ⟨T33, L33, k33, n33⟩, -, X33, ⟨Lc33, hQ33, l33, y33, z33⟩, st33⟩ := X28.privateBack hx (y := (⟨"com/example/covermesh/covermesh/algorithms/IndexedMinHeap", "move", "(II)V"⟩ : MethodName)) hown (mvT hZ (hw _ (List.mem_of_getElem? (i := 41) rfl))) (mvT hZ (hw _ (List.mem_of_getElem? (i := 42) rfl))) (own_selp (y := (⟨"com/example/covermesh/covermesh/algorithms/IndexedMinHeap", "move", "(II)V"⟩ : MethodName)) (by decide) (mvT hZ (hw _ (List.mem_of_getElem? (i := 1) rfl))) (mvP hZ (hw _ (List.mem_of_getElem? (i := 43) rfl))) (mvT hZ (hw _ (List.mem_of_getElem? (i := 42) rfl)))) (Cond.privateMethod_at (mvP hZ (hw _ (List.mem_of_getElem? (i := 43) rfl)) (args := #[]))) (mvT hZ (hw _ (List.mem_of_getElem? (i := 44) rfl))) (by decide) (backOf (W := 0) (rmMv l Z a0 hw [] a1 (σ.1 (0 : Int32)) (2 : Int32) aI aP ki kp σ h0 n0 Z0 FI FP VI VP nIP gI gP R0 own_R2 nAI nAP) hZ (hw _ (List.mem_of_getElem? (i := 44) rfl)) (hw _ (List.mem_of_getElem? (i := 2) rfl)) (by decide) (by decide)) (g := (mkF m 43 #[.val (.ref a1), .val (.int (2 : Int32)), .val (.int (σ.1 (2 : Int32))), .val (.int (0 : Int32))] [(.int (2 : Int32)), (.int (σ.1 (0 : Int32))), (.ref a1)])) rfl (by rw [hml]; rfl) (Steps.refl _) (a := a1) (by rw [e28]; exact q33a) q33b (argsL := [(.int (σ.1 (0 : Int32))), (.int (2 : Int32))]) (rest := []) (lenOf pd_0 rfl) rfl (by show 2 * 0 + _ ≤ _; exact Nat.le_of_eq rfl) (hb hby d7_43) (fun _ _ => ⟨rfl, e28, (by decide : 0 + 0 ≤ ({ frames := 1, cells := 0, slots := 0, locals := 14 } : Room).cells), (by decide : 0 + 0 ≤ ({ frames := 1, cells := 0, slots := 0, locals := 14 } : Room).slots)⟩)
    dsimp only [Pt.U, Pt.locs, Pt.cells, Pt.slots] at X33 l33 y33 z33 st33 hQ33
    subst l33 y33 z33
    obtain ⟨rfl, N33q, Kq33, VIq33, VPq33⟩ := hQ33
    have N33 := Fr.app N13 N33q
    have f34 := E1.keep Kq33
    have f35 := FK.keep Kq33 (ninS nAI (ninS nAP nin0))
    have f36 := FI.keep Kq33 (ninS nAI (ninS nAP nin0))
    have f37 := FP.keep Kq33 (ninS nAI (ninS nAP nin0))
    have f38 := FS.keep Kq33 (ninS nAI (ninS nAP nin0))
    have f39 := VK.keep Kq33 (ninS nKI (ninS nKP nin0))
    have Z40 := Nat.le_trans Z0 Kq33.1
    have K41 := K0.trans Kq33 (allS (Or.inl (List.mem_of_getElem? (i := 0) rfl)) (allS (Or.inl (List.mem_of_getElem? (i := 1) rfl)) all0))
    have go42 : Goes p e below s₁ (entryFrame m #[(.ref a1), (.int (2 : Int32))] 4) T33 (mkF m 46 #[.val (.ref a1), .val (.int (2 : Int32)), .val (.int (σ.1 (2 : Int32))), .val (.int (0 : Int32))] []) := fun t k => go32 t (st33.trans k)
    have go43 : Goes p e below s₁ (entryFrame m #[(.ref a1), (.int (2 : Int32))] 4) T33 (mkF m 8 #[.val (.ref a1), .val (.int (0 : Int32)), .val (.int (σ.1 (2 : Int32))), .val (.int (0 : Int32))] [(.int (0 : Int32))]) := fun t k => by
      refine go42 t ?_
      refine XS.iloadN X33.here hx rfl (hb hby d7_46) rfl ?_
      show Steps p.tables e below (T33.setTop (mkF m 47 #[.val (.ref a1), .val (.int (2 : Int32)), .val (.int (σ.1 (2 : Int32))), .val (.int (0 : Int32))] [(.int (0 : Int32))])) _
      refine XS.istoreN X33.here hx rfl (hb hby d7_47) rfl (l' := #[.val (.ref a1), .val (.int (0 : Int32)), .val (.int (σ.1 (2 : Int32))), .val (.int (0 : Int32))]) rfl ?_
      show Steps p.tables e below (T33.setTop (mkF m 48 #[.val (.ref a1), .val (.int (0 : Int32)), .val (.int (σ.1 (2 : Int32))), .val (.int (0 : Int32))] [])) _
      refine XS.goto X33.here hx rfl (pc0 := 48) (pc' := 7) rfl (hb hby d7_48) (by decide) (by decide) ?_
      show Steps p.tables e below (T33.setTop (mkF m 7 #[.val (.ref a1), .val (.int (0 : Int32)), .val (.int (σ.1 (2 : Int32))), .val (.int (0 : Int32))] [])) _
      refine XS.iloadN X33.here hx rfl (hb hby d7_7) rfl ?_
      show Steps p.tables e below (T33.setTop (mkF m 8 #[.val (.ref a1), .val (.int (0 : Int32)), .val (.int (σ.1 (2 : Int32))), .val (.int (0 : Int32))] [(.int (0 : Int32))])) _
      exact k
    have go44 : Goes p e below s₁ (entryFrame m #[(.ref a1), (.int (2 : Int32))] 4) T33 (mkF m 54 #[.val (.ref a1), .val (.int (0 : Int32)), .val (.int (σ.1 (2 : Int32))), .val (.int (0 : Int32))] [(.int (0 : Int32)), (.int (σ.1 (2 : Int32))), (.ref a1)]) := fun t k => by
      refine go43 t ?_
      refine XS.ifYes X33.here hx rfl (pc0 := 8) (pc' := 51) rfl (hb hby d7_8) rfl (Jvm.Free.XT.i0_le_t (by decide)) (by decide) (by decide) ?_
      show Steps p.tables e below (T33.setTop (mkF m 51 #[.val (.ref a1), .val (.int (0 : Int32)), .val (.int (σ.1 (2 : Int32))), .val (.int (0 : Int32))] [])) _
      refine XS.aloadN X33.here hx rfl (hb hby d7_51) rfl rfl ?_
      show Steps p.tables e below (T33.setTop (mkF m 52 #[.val (.ref a1), .val (.int (0 : Int32)), .val (.int (σ.1 (2 : Int32))), .val (.int (0 : Int32))] [(.ref a1)])) _
      refine XS.iloadN X33.here hx rfl (hb hby d7_52) rfl ?_
      show Steps p.tables e below (T33.setTop (mkF m 53 #[.val (.ref a1), .val (.int (0 : Int32)), .val (.int (σ.1 (2 : Int32))), .val (.int (0 : Int32))] [(.int (σ.1 (2 : Int32))), (.ref a1)])) _
      refine XS.iloadN X33.here hx rfl (hb hby d7_53) rfl ?_
      show Steps p.tables e below (T33.setTop (mkF m 54 #[.val (.ref a1), .val (.int (0 : Int32)), .val (.int (σ.1 (2 : Int32))), .val (.int (0 : Int32))] [(.int (0 : Int32)), (.int (σ.1 (2 : Int32))), (.ref a1)])) _
      exact k
    obtain ⟨cq45, q45a, q45b⟩ := f34.cell
    obtain ⟨_, _, ⟨T45, L45, k45, n45⟩, -, X45, ⟨Lc45, hQ45, l45, y45, z45⟩, st45⟩ := X33.privateBack hx (y := (⟨"com/example/covermesh/covermesh/algorithms/IndexedMinHeap", "move", "(II)V"⟩ : MethodName)) hown (mvT hZ (hw _ (List.mem_of_getElem? (i := 41) rfl))) (mvT hZ (hw _ (List.mem_of_getElem? (i := 42) rfl))) (own_selp (y := (⟨"com/example/covermesh/covermesh/algorithms/IndexedMinHeap", "move", "(II)V"⟩ : MethodName)) (by decide) (mvT hZ (hw _ (List.mem_of_getElem? (i := 1) rfl))) (mvP hZ (hw _ (List.mem_of_getElem? (i := 43) rfl))) (mvT hZ (hw _ (List.mem_of_getElem? (i := 42) rfl)))) (Cond.privateMethod_at (mvP hZ (hw _ (List.mem_of_getElem? (i := 43) rfl)) (args := #[]))) (mvT hZ (hw _ (List.mem_of_getElem? (i := 44) rfl))) (by decide) (backOf (W := 0) (rmMv l Z a0 hw [] a1 (σ.1 (2 : Int32)) (0 : Int32) aI aP ki kp (own_mv σ (σ.1 (0 : Int32)) (2 : Int32)) T33.heap n0 Z40 f36 f37 VIq33 VPq33 nIP gI gP Ri own_R0 nAI nAP) hZ (hw _ (List.mem_of_getElem? (i := 44) rfl)) (hw _ (List.mem_of_getElem? (i := 2) rfl)) (by decide) (by decide)) (g := (mkF m 54 #[.val (.ref a1), .val (.int (0 : Int32)), .val (.int (σ.1 (2 : Int32))), .val (.int (0 : Int32))] [(.int (0 : Int32)), (.int (σ.1 (2 : Int32))), (.ref a1)])) rfl (by rw [hml]; rfl) (Steps.refl _) (a := a1) q45a q45b (argsL := [(.int (σ.1 (2 : Int32))), (.int (0 : Int32))]) (rest := []) (lenOf pd_0 rfl) rfl (by show 2 * 0 + _ ≤ _; exact Nat.le_of_eq rfl) (hb hby d7_54) (fun _ _ => ⟨rfl, rfl, (by decide : 0 + 0 ≤ ({ frames := 1, cells := 0, slots := 0, locals := 14 } : Room).cells), (by decide : 0 + 0 ≤ ({ frames := 1, cells := 0, slots := 0, locals := 14 } : Room).slots)⟩)
    dsimp only [Pt.U, Pt.locs, Pt.cells, Pt.slots] at X45 l45 y45 z45 st45 hQ45
    subst l45 y45 z45
    obtain ⟨rfl, N45q, Kq45, VIq45, VPq45⟩ := hQ45
    have N45 := Fr.app N33 N45q
    have f46 := f34.keep Kq45
    have f47 := f35.keep Kq45 (ninS nAI (ninS nAP nin0))
    have f48 := f36.keep Kq45 (ninS nAI (ninS nAP nin0))
    have f49 := f37.keep Kq45 (ninS nAI (ninS nAP nin0))
    have f50 := f38.keep Kq45 (ninS nAI (ninS nAP nin0))
    have f51 := f39.keep Kq45 (ninS nKI (ninS nKP nin0))
    have Z52 := Nat.le_trans Z40 Kq45.1
    have K53 := K41.trans Kq45 (allS (Or.inl (List.mem_of_getElem? (i := 0) rfl)) (allS (Or.inl (List.mem_of_getElem? (i := 1) rfl)) all0))
    have go54 : Goes p e below s₁ (entryFrame m #[(.ref a1), (.int (2 : Int32))] 4) T45 (mkF m 57 #[.val (.ref a1), .val (.int (0 : Int32)), .val (.int (σ.1 (2 : Int32))), .val (.int (0 : Int32))] []) := fun t k => go44 t (st45.trans k)
    obtain ⟨fs, hr, hrun, hended, hW, hsame⟩ := X45.leave (v := none) (fun _ => rfl)
    have hup : own_up kf σ (2 : Int32) = (own_mv (own_mv σ (σ.1 (0 : Int32)) (2 : Int32)) (σ.1 (2 : Int32)) (0 : Int32)) := if_neg (fun h => h.elim (by decide) hc15)
    refine ⟨_, _, go54 _ ?_, hrun, hended, _, _, rfl, ?_, ⟨_, rfl⟩, hW, hsame.mono (by decide) (by decide)⟩
    · exact X45.returnOut hx Bd.returns (hb hby d7_57) hr
    · show QU2 Z _ _ _ _ _ _ _ _ _ _ _ _ _ T45.heap _
      exact ⟨rfl, N45, K53, by rw [hup]; exact VIq45, by rw [hup]; exact VPq45⟩
theorem d9_0 : decode prog_17_method_8_code 0 = .ok (.aload_n 0, 1) := by decide +kernel
theorem d9_1 : decode prog_17_method_8_code 1 = .ok (.getfield 13, 3) := by decide +kernel
theorem d9_4 : decode prog_17_method_8_code 4 = .ok (.iload_n 1, 1) := by decide +kernel
theorem d9_5 : decode prog_17_method_8_code 5 = .ok (.iaload, 1) := by decide +kernel
theorem d9_6 : decode prog_17_method_8_code 6 = .ok (.istore_n 2, 1) := by decide +kernel
theorem d9_7 : decode prog_17_method_8_code 7 = .ok (.iconst 2, 1) := by decide +kernel
theorem d9_8 : decode prog_17_method_8_code 8 = .ok (.iload_n 1, 1) := by decide +kernel
theorem d9_9 : decode prog_17_method_8_code 9 = .ok (.imul, 1) := by decide +kernel
theorem d9_10 : decode prog_17_method_8_code 10 = .ok (.iconst 1, 1) := by decide +kernel
theorem d9_11 : decode prog_17_method_8_code 11 = .ok (.iadd, 1) := by decide +kernel
theorem d9_12 : decode prog_17_method_8_code 12 = .ok (.istore_n 3, 1) := by decide +kernel
theorem d9_13 : decode prog_17_method_8_code 13 = .ok (.iload_n 3, 1) := by decide +kernel
theorem d9_14 : decode prog_17_method_8_code 14 = .ok (.aload_n 0, 1) := by decide +kernel
theorem d9_15 : decode prog_17_method_8_code 15 = .ok (.getfield 26, 3) := by decide +kernel
theorem d9_18 : decode prog_17_method_8_code 18 = .ok (.if_icmp .ge 76, 3) := by decide +kernel
theorem d9_21 : decode prog_17_method_8_code 21 = .ok (.iload_n 3, 1) := by decide +kernel
theorem d9_22 : decode prog_17_method_8_code 22 = .ok (.iconst 1, 1) := by decide +kernel
theorem d9_23 : decode prog_17_method_8_code 23 = .ok (.iadd, 1) := by decide +kernel
theorem d9_24 : decode prog_17_method_8_code 24 = .ok (.aload_n 0, 1) := by decide +kernel
theorem d9_25 : decode prog_17_method_8_code 25 = .ok (.getfield 26, 3) := by decide +kernel
theorem d9_28 : decode prog_17_method_8_code 28 = .ok (.if_icmp .ge 27, 3) := by decide +kernel
theorem d9_31 : decode prog_17_method_8_code 31 = .ok (.aload_n 0, 1) := by decide +kernel
theorem d9_32 : decode prog_17_method_8_code 32 = .ok (.aload_n 0, 1) := by decide +kernel
theorem d9_33 : decode prog_17_method_8_code 33 = .ok (.getfield 13, 3) := by decide +kernel
theorem d9_36 : decode prog_17_method_8_code 36 = .ok (.iload_n 3, 1) := by decide +kernel
theorem d9_37 : decode prog_17_method_8_code 37 = .ok (.iconst 1, 1) := by decide +kernel
theorem d9_38 : decode prog_17_method_8_code 38 = .ok (.iadd, 1) := by decide +kernel
theorem d9_39 : decode prog_17_method_8_code 39 = .ok (.iaload, 1) := by decide +kernel
theorem d9_40 : decode prog_17_method_8_code 40 = .ok (.aload_n 0, 1) := by decide +kernel
theorem d9_41 : decode prog_17_method_8_code 41 = .ok (.getfield 13, 3) := by decide +kernel
theorem d9_44 : decode prog_17_method_8_code 44 = .ok (.iload_n 3, 1) := by decide +kernel
theorem d9_45 : decode prog_17_method_8_code 45 = .ok (.iaload, 1) := by decide +kernel
theorem d9_46 : decode prog_17_method_8_code 46 = .ok (.invokevirtual 40, 3) := by decide +kernel
theorem d9_49 : decode prog_17_method_8_code 49 = .ok (.ifCond .eq 6, 3) := by decide +kernel
theorem d9_52 : decode prog_17_method_8_code 52 = .ok (.iinc 3 1, 3) := by decide +kernel
theorem d9_55 : decode prog_17_method_8_code 55 = .ok (.aload_n 0, 1) := by decide +kernel
theorem d9_56 : decode prog_17_method_8_code 56 = .ok (.aload_n 0, 1) := by decide +kernel
theorem d9_57 : decode prog_17_method_8_code 57 = .ok (.getfield 13, 3) := by decide +kernel
theorem d9_60 : decode prog_17_method_8_code 60 = .ok (.iload_n 3, 1) := by decide +kernel
theorem d9_61 : decode prog_17_method_8_code 61 = .ok (.iaload, 1) := by decide +kernel
theorem d9_62 : decode prog_17_method_8_code 62 = .ok (.iload_n 2, 1) := by decide +kernel
theorem d9_63 : decode prog_17_method_8_code 63 = .ok (.invokevirtual 40, 3) := by decide +kernel
theorem d9_66 : decode prog_17_method_8_code 66 = .ok (.ifCond .ne 6, 3) := by decide +kernel
theorem d9_69 : decode prog_17_method_8_code 69 = .ok (.goto 25, 3) := by decide +kernel
theorem d9_72 : decode prog_17_method_8_code 72 = .ok (.aload_n 0, 1) := by decide +kernel
theorem d9_73 : decode prog_17_method_8_code 73 = .ok (.aload_n 0, 1) := by decide +kernel
theorem d9_74 : decode prog_17_method_8_code 74 = .ok (.getfield 13, 3) := by decide +kernel
theorem d9_77 : decode prog_17_method_8_code 77 = .ok (.iload_n 3, 1) := by decide +kernel
theorem d9_78 : decode prog_17_method_8_code 78 = .ok (.iaload, 1) := by decide +kernel
theorem d9_79 : decode prog_17_method_8_code 79 = .ok (.iload_n 1, 1) := by decide +kernel
theorem d9_80 : decode prog_17_method_8_code 80 = .ok (.invokevirtual 44, 3) := by decide +kernel
theorem d9_83 : decode prog_17_method_8_code 83 = .ok (.iload_n 3, 1) := by decide +kernel
theorem d9_84 : decode prog_17_method_8_code 84 = .ok (.istore_n 1, 1) := by decide +kernel
theorem d9_85 : decode prog_17_method_8_code 85 = .ok (.iconst 2, 1) := by decide +kernel
theorem d9_86 : decode prog_17_method_8_code 86 = .ok (.iload_n 1, 1) := by decide +kernel
theorem d9_87 : decode prog_17_method_8_code 87 = .ok (.imul, 1) := by decide +kernel
theorem d9_88 : decode prog_17_method_8_code 88 = .ok (.iconst 1, 1) := by decide +kernel
theorem d9_89 : decode prog_17_method_8_code 89 = .ok (.iadd, 1) := by decide +kernel
theorem d9_90 : decode prog_17_method_8_code 90 = .ok (.istore_n 3, 1) := by decide +kernel
theorem d9_91 : decode prog_17_method_8_code 91 = .ok (.goto (-78), 3) := by decide +kernel
theorem d9_94 : decode prog_17_method_8_code 94 = .ok (.aload_n 0, 1) := by decide +kernel
theorem d9_95 : decode prog_17_method_8_code 95 = .ok (.iload_n 2, 1) := by decide +kernel
theorem d9_96 : decode prog_17_method_8_code 96 = .ok (.iload_n 1, 1) := by decide +kernel
theorem d9_97 : decode prog_17_method_8_code 97 = .ok (.invokevirtual 44, 3) := by decide +kernel
theorem d9_100 : decode prog_17_method_8_code 100 = .ok (.return_, 1) := by decide +kernel
theorem ef_rmD01 (m : MethodId) (a1 : Addr) : entryFrame m #[(.ref a1), (.int (0 : Int32))] 4 = mkF m 0 #[.val (.ref a1), .val (.int (0 : Int32)), .unset, .unset] [] := by first | (simp [entryFrame, mkF, argsToLocals, Value.category]; done) | rfl
def QD01 (Z : State) (a1 : Addr) (aK aI aP : Addr) (kk ki kp : ClassId) (kf : Int32 → UInt64) (σ : own_P) (h0 : Heap) (n0 : Nat) (v : Option Value) (h : Heap) (L : List Loc) : Prop := v = none ∧ Fr n0 L ∧ Keep h0 h [aI, aP] ∧ Arv Z h aI ki .int 3 (own_l (own_dn kf σ (0 : Int32) (1 : Int32)).1) (.int (0 : Int32)) ∧ Arv Z h aP kp .int 3 (own_l (own_dn kf σ (0 : Int32) (1 : Int32)).2) (.int (0 : Int32))
set_option maxRecDepth 65536 in
set_option maxHeartbeats 40000000 in
theorem rmD01 (l : Launch) (Z : State) (a0 : Array Value) (hw : ∀ d ∈ tables_1, d.before a0 Z = true) (ws : List Jvm.Cond) (a1 : Addr) (aK aI aP : Addr) (kk ki kp : ClassId) (kf : Int32 → UInt64) (σ : own_P) (h0 : Heap) (n0 : Nat) (Z0 : n0 ≤ h0.size) (E1 : Exa Z h0 a1 "com/example/covermesh/covermesh/algorithms/IndexedMinHeap") (FK : Fld Z h0 a1 "com/example/covermesh/covermesh/algorithms/IndexedMinHeap" "keys" "[D" (.ref aK)) (FI : Fld Z h0 a1 "com/example/covermesh/covermesh/algorithms/IndexedMinHeap" "items" "[I" (.ref aI)) (FP : Fld Z h0 a1 "com/example/covermesh/covermesh/algorithms/IndexedMinHeap" "positions" "[I" (.ref aP)) (FS : Fld Z h0 a1 "com/example/covermesh/covermesh/algorithms/IndexedMinHeap" "size" "I" (.int (1 : Int32))) (VK : Arv Z h0 aK kk .double 3 (own_d kf) (.double (0 : UInt64))) (VI : Arv Z h0 aI ki .int 3 (own_l σ.1) (.int (0 : Int32))) (VP : Arv Z h0 aP kp .int 3 (own_l σ.2) (.int (0 : Int32))) (nKI : aK ≠ aI) (nKP : aK ≠ aP) (nIP : aI ≠ aP) (nAK : a1 ≠ aK) (nAI : a1 ≠ aI) (nAP : a1 ≠ aP) (gA : n0 ≤ a1) (gK : n0 ≤ aK) (gI : n0 ≤ aI) (gP : n0 ≤ aP) (R0 : own_R (σ.1 (0 : Int32))) :
    MetFree l (⟨"com/example/covermesh/covermesh/algorithms/IndexedMinHeap", "siftDown", "(I)V"⟩ : MethodName) (head1 (Jvm.Cond.code (⟨"com/example/covermesh/covermesh/algorithms/IndexedMinHeap", "siftDown", "(I)V"⟩ : MethodName) prog_17_method_8_code 4 none :: ws) ({ frames := 1, cells := 0, slots := 0, locals := 14 } : Room)) (fun a U => a = #[(.ref a1), (.int (0 : Int32))] ∧ Z.Warmed39 U.vm ∧ U.heap = h0) (fun _ _ _ _ _ => True) (fun _ U o U' => ∃ v L, o = .returned v ∧ QD01 Z a1 aK aI aP kk ki kp kf σ h0 n0 v U'.heap L ∧ FrameEnd U o U' L ({ frames := 1, cells := 0, slots := 0, locals := 14 } : Room).cells ({ frames := 1, cells := 0, slots := 0, locals := 14 } : Room).slots) := by
  refine MetFree.of_bodySF (plainFor_of_name pn_0) hisR ?_
  intro p e s m args below meth c s₁ Bd hml0 hP hK
  obtain ⟨rfl, hZ, hh⟩ := hP
  have hx := Bd.exec
  have hby := Bd.bytes
  have hml : c.maxLocals = 4 := hml0
  have hown : s.vm.findClass "com/example/covermesh/covermesh/algorithms/IndexedMinHeap" = some m.cls := findClass_of_methodNamed Bd.named
  have hnm := (name_of_methodNamed Bd.named Bd.method).1
  have X0 : Stand p l e ({ frames := 1, cells := 0, slots := 0, locals := 14 } : Room) s m #[(.ref a1), (.int (0 : Int32))] below meth c s₁ [] 0 0 := Stand.of_body Bd
  have e0 : s₁.heap = h0 := by rw [← hh, Bd.state]; rfl
  have N0 := Fr.nil n0
  have K0 := Keep.refl h0 [aI, aP]
  have go0 : Goes p e below s₁ (entryFrame m #[(.ref a1), (.int (0 : Int32))] 4) s₁ (mkF m 0 #[.val (.ref a1), .val (.int (0 : Int32)), .unset, .unset] []) := fun t k => castTop (ef_rmD01 m a1) k
  have go1 : Goes p e below s₁ (entryFrame m #[(.ref a1), (.int (0 : Int32))] 4) s₁ (mkF m 1 #[.val (.ref a1), .val (.int (0 : Int32)), .unset, .unset] [(.ref a1)]) := fun t k => by
    refine go0 t ?_
    refine XS.aloadN X0.here hx rfl (hb hby d9_0) rfl rfl ?_
    show Steps p.tables e below (s₁.setTop (mkF m 1 #[.val (.ref a1), .val (.int (0 : Int32)), .unset, .unset] [(.ref a1)])) _
    exact k
  obtain ⟨T2, X2, e2, st2⟩ := getF X0 hx hZ hown (host := "") (Or.inl (hw _ (List.mem_of_getElem? (i := 13) rfl))) Via.refl e0 FI (g := (mkF m 1 #[.val (.ref a1), .val (.int (0 : Int32)), .unset, .unset] [(.ref a1)])) rfl rfl (hb hby d9_1)
  have go3 : Goes p e below s₁ (entryFrame m #[(.ref a1), (.int (0 : Int32))] 4) T2 (mkF m 4 #[.val (.ref a1), .val (.int (0 : Int32)), .unset, .unset] [(.ref aI)]) := fun t k => go1 t (st2 t k)
  have go4 : Goes p e below s₁ (entryFrame m #[(.ref a1), (.int (0 : Int32))] 4) T2 (mkF m 5 #[.val (.ref a1), .val (.int (0 : Int32)), .unset, .unset] [(.int (0 : Int32)), (.ref aI)]) := fun t k => by
    refine go3 t ?_
    refine XS.iloadN X2.here hx rfl (hb hby d9_4) rfl ?_
    show Steps p.tables e below (T2.setTop (mkF m 5 #[.val (.ref a1), .val (.int (0 : Int32)), .unset, .unset] [(.int (0 : Int32)), (.ref aI)])) _
    exact k
  obtain ⟨cl5, Ar5, kq5, Sz5, Nn5, Hs5, Gf5⟩ := id (VI)
  have hin5 : ¬ ((0 : Int32) < 0 ∨ cl5.slots.size ≤ ((0 : Int32)).toNatClampNeg) := inb_of Sz5 (own_inb own_R0)
  have hat5 : cl5.slots[((0 : Int32)).toNatClampNeg]? = some (.int (σ.1 (0 : Int32))) := Has.at Hs5 hin5 (own_l_at own_R0)
  have go6 : Goes p e below s₁ (entryFrame m #[(.ref a1), (.int (0 : Int32))] 4) T2 (mkF m 15 #[.val (.ref a1), .val (.int (0 : Int32)), .val (.int (σ.1 (0 : Int32))), .val (.int (1 : Int32))] [(.ref a1), (.int (1 : Int32))]) := fun t k => by
    refine go4 t ?_
    refine X2.iaload hx (j := (0 : Int32)) (v := (.int (σ.1 (0 : Int32)))) (own_hp e2 Ar5.1) (State.isArrayOf_alike hZ.alike Ar5.2.1) Ar5.2.2 hin5 hat5 (g := (mkF m 5 #[.val (.ref a1), .val (.int (0 : Int32)), .unset, .unset] [(.int (0 : Int32)), (.ref aI)])) rfl rfl (hb hby d9_5) _ ?_
    show Steps p.tables e below (T2.setTop (mkF m 6 #[.val (.ref a1), .val (.int (0 : Int32)), .unset, .unset] [(.int (σ.1 (0 : Int32)))])) _
    refine XS.istoreN X2.here hx rfl (hb hby d9_6) rfl (l' := #[.val (.ref a1), .val (.int (0 : Int32)), .val (.int (σ.1 (0 : Int32))), .unset]) rfl ?_
    show Steps p.tables e below (T2.setTop (mkF m 7 #[.val (.ref a1), .val (.int (0 : Int32)), .val (.int (σ.1 (0 : Int32))), .unset] [])) _
    refine XS.iconst X2.here hx rfl (hb hby d9_7) ?_
    show Steps p.tables e below (T2.setTop (mkF m 8 #[.val (.ref a1), .val (.int (0 : Int32)), .val (.int (σ.1 (0 : Int32))), .unset] [(.int (2 : Int32))])) _
    refine XS.iloadN X2.here hx rfl (hb hby d9_8) rfl ?_
    show Steps p.tables e below (T2.setTop (mkF m 9 #[.val (.ref a1), .val (.int (0 : Int32)), .val (.int (σ.1 (0 : Int32))), .unset] [(.int (0 : Int32)), (.int (2 : Int32))])) _
    refine XS.imul X2.here hx rfl (hb hby d9_9) rfl ?_
    show Steps p.tables e below (T2.setTop (mkF m 10 #[.val (.ref a1), .val (.int (0 : Int32)), .val (.int (σ.1 (0 : Int32))), .unset] [(.int (0 : Int32))])) _
    refine XS.iconst X2.here hx rfl (hb hby d9_10) ?_
    show Steps p.tables e below (T2.setTop (mkF m 11 #[.val (.ref a1), .val (.int (0 : Int32)), .val (.int (σ.1 (0 : Int32))), .unset] [(.int (1 : Int32)), (.int (0 : Int32))])) _
    refine XS.iadd X2.here hx rfl (hb hby d9_11) rfl ?_
    show Steps p.tables e below (T2.setTop (mkF m 12 #[.val (.ref a1), .val (.int (0 : Int32)), .val (.int (σ.1 (0 : Int32))), .unset] [(.int (1 : Int32))])) _
    refine XS.istoreN X2.here hx rfl (hb hby d9_12) rfl (l' := #[.val (.ref a1), .val (.int (0 : Int32)), .val (.int (σ.1 (0 : Int32))), .val (.int (1 : Int32))]) rfl ?_
    show Steps p.tables e below (T2.setTop (mkF m 13 #[.val (.ref a1), .val (.int (0 : Int32)), .val (.int (σ.1 (0 : Int32))), .val (.int (1 : Int32))] [])) _
    refine XS.iloadN X2.here hx rfl (hb hby d9_13) rfl ?_
    show Steps p.tables e below (T2.setTop (mkF m 14 #[.val (.ref a1), .val (.int (0 : Int32)), .val (.int (σ.1 (0 : Int32))), .val (.int (1 : Int32))] [(.int (1 : Int32))])) _
    refine XS.aloadN X2.here hx rfl (hb hby d9_14) rfl rfl ?_
    show Steps p.tables e below (T2.setTop (mkF m 15 #[.val (.ref a1), .val (.int (0 : Int32)), .val (.int (σ.1 (0 : Int32))), .val (.int (1 : Int32))] [(.ref a1), (.int (1 : Int32))])) _
    exact k
  obtain ⟨T7, X7, e7, st7⟩ := getF X2 hx hZ hown (host := "") (Or.inl (hw _ (List.mem_of_getElem? (i := 26) rfl))) Via.refl e2 FS (g := (mkF m 15 #[.val (.ref a1), .val (.int (0 : Int32)), .val (.int (σ.1 (0 : Int32))), .val (.int (1 : Int32))] [(.ref a1), (.int (1 : Int32))])) rfl rfl (hb hby d9_15)
  have go8 : Goes p e below s₁ (entryFrame m #[(.ref a1), (.int (0 : Int32))] 4) T7 (mkF m 18 #[.val (.ref a1), .val (.int (0 : Int32)), .val (.int (σ.1 (0 : Int32))), .val (.int (1 : Int32))] [(.int (1 : Int32)), (.int (1 : Int32))]) := fun t k => go6 t (st7 t k)
  have go9 : Goes p e below s₁ (entryFrame m #[(.ref a1), (.int (0 : Int32))] 4) T7 (mkF m 97 #[.val (.ref a1), .val (.int (0 : Int32)), .val (.int (σ.1 (0 : Int32))), .val (.int (1 : Int32))] [(.int (0 : Int32)), (.int (σ.1 (0 : Int32))), (.ref a1)]) := fun t k => by
    refine go8 t ?_
    refine XS.icmpYes X7.here hx rfl (pc0 := 18) (pc' := 94) rfl (hb hby d9_18) rfl (Jvm.Free.XT.ii_ge_t (by decide)) (by decide) (by decide) ?_
    show Steps p.tables e below (T7.setTop (mkF m 94 #[.val (.ref a1), .val (.int (0 : Int32)), .val (.int (σ.1 (0 : Int32))), .val (.int (1 : Int32))] [])) _
    refine XS.aloadN X7.here hx rfl (hb hby d9_94) rfl rfl ?_
    show Steps p.tables e below (T7.setTop (mkF m 95 #[.val (.ref a1), .val (.int (0 : Int32)), .val (.int (σ.1 (0 : Int32))), .val (.int (1 : Int32))] [(.ref a1)])) _
    refine XS.iloadN X7.here hx rfl (hb hby d9_95) rfl ?_
    show Steps p.tables e below (T7.setTop (mkF m 96 #[.val (.ref a1), .val (.int (0 : Int32)), .val (.int (σ.1 (0 : Int32))), .val (.int (1 : Int32))] [(.int (σ.1 (0 : Int32))), (.ref a1)])) _
    refine XS.iloadN X7.here hx rfl (hb hby d9_96) rfl ?_
    show Steps p.tables e below (T7.setTop (mkF m 97 #[.val (.ref a1), .val (.int (0 : Int32)), .val (.int (σ.1 (0 : Int32))), .val (.int (1 : Int32))] [(.int (0 : Int32)), (.int (σ.1 (0 : Int32))), (.ref a1)])) _
    exact k
  obtain ⟨cq10, q10a, q10b⟩ := E1.cell
  obtain ⟨_, _, ⟨T10, L10, k10, n10⟩, -, X10, ⟨Lc10, hQ10, l10, y10, z10⟩, st10⟩ := X7.privateBack hx (y := (⟨"com/example/covermesh/covermesh/algorithms/IndexedMinHeap", "move", "(II)V"⟩ : MethodName)) hown (mvT hZ (hw _ (List.mem_of_getElem? (i := 41) rfl))) (mvT hZ (hw _ (List.mem_of_getElem? (i := 42) rfl))) (own_selp (y := (⟨"com/example/covermesh/covermesh/algorithms/IndexedMinHeap", "move", "(II)V"⟩ : MethodName)) (by decide) (mvT hZ (hw _ (List.mem_of_getElem? (i := 1) rfl))) (mvP hZ (hw _ (List.mem_of_getElem? (i := 43) rfl))) (mvT hZ (hw _ (List.mem_of_getElem? (i := 42) rfl)))) (Cond.privateMethod_at (mvP hZ (hw _ (List.mem_of_getElem? (i := 43) rfl)) (args := #[]))) (mvT hZ (hw _ (List.mem_of_getElem? (i := 44) rfl))) (by decide) (backOf (W := 0) (rmMv l Z a0 hw [] a1 (σ.1 (0 : Int32)) (0 : Int32) aI aP ki kp σ h0 n0 Z0 FI FP VI VP nIP gI gP R0 own_R0 nAI nAP) hZ (hw _ (List.mem_of_getElem? (i := 44) rfl)) (hw _ (List.mem_of_getElem? (i := 2) rfl)) (by decide) (by decide)) (g := (mkF m 97 #[.val (.ref a1), .val (.int (0 : Int32)), .val (.int (σ.1 (0 : Int32))), .val (.int (1 : Int32))] [(.int (0 : Int32)), (.int (σ.1 (0 : Int32))), (.ref a1)])) rfl (by rw [hml]; rfl) (Steps.refl _) (a := a1) (by rw [e7]; exact q10a) q10b (argsL := [(.int (σ.1 (0 : Int32))), (.int (0 : Int32))]) (rest := []) (lenOf pd_0 rfl) rfl (by show 2 * 0 + _ ≤ _; exact Nat.le_of_eq rfl) (hb hby d9_97) (fun _ _ => ⟨rfl, e7, (by decide : 0 + 0 ≤ ({ frames := 1, cells := 0, slots := 0, locals := 14 } : Room).cells), (by decide : 0 + 0 ≤ ({ frames := 1, cells := 0, slots := 0, locals := 14 } : Room).slots)⟩)
  dsimp only [Pt.U, Pt.locs, Pt.cells, Pt.slots] at X10 l10 y10 z10 st10 hQ10
  subst l10 y10 z10
  obtain ⟨rfl, N10q, Kq10, VIq10, VPq10⟩ := hQ10
  have N10 := Fr.app N0 N10q
  have f11 := E1.keep Kq10
  have f12 := FK.keep Kq10 (ninS nAI (ninS nAP nin0))
  have f13 := FI.keep Kq10 (ninS nAI (ninS nAP nin0))
  have f14 := FP.keep Kq10 (ninS nAI (ninS nAP nin0))
  have f15 := FS.keep Kq10 (ninS nAI (ninS nAP nin0))
  have f16 := VK.keep Kq10 (ninS nKI (ninS nKP nin0))
  have Z17 := Nat.le_trans Z0 Kq10.1
  have K18 := K0.trans Kq10 (allS (Or.inl (List.mem_of_getElem? (i := 0) rfl)) (allS (Or.inl (List.mem_of_getElem? (i := 1) rfl)) all0))
  have go19 : Goes p e below s₁ (entryFrame m #[(.ref a1), (.int (0 : Int32))] 4) T10 (mkF m 100 #[.val (.ref a1), .val (.int (0 : Int32)), .val (.int (σ.1 (0 : Int32))), .val (.int (1 : Int32))] []) := fun t k => go9 t (st10.trans k)
  obtain ⟨fs, hr, hrun, hended, hW, hsame⟩ := X10.leave (v := none) (fun _ => rfl)
  have hdn : own_dn kf σ (0 : Int32) (1 : Int32) = (own_mv σ (σ.1 (0 : Int32)) (0 : Int32)) := by simp [own_dn, own_ch]
  refine ⟨_, _, go19 _ ?_, hrun, hended, _, _, rfl, ?_, ⟨_, rfl⟩, hW, hsame.mono (by decide) (by decide)⟩
  · exact X10.returnOut hx Bd.returns (hb hby d9_100) hr
  · show QD01 Z _ _ _ _ _ _ _ _ _ _ _ _ T10.heap _
    exact ⟨rfl, N10, K18, by rw [hdn]; exact VIq10, by rw [hdn]; exact VPq10⟩
theorem ef_rmD02 (m : MethodId) (a1 : Addr) : entryFrame m #[(.ref a1), (.int (0 : Int32))] 4 = mkF m 0 #[.val (.ref a1), .val (.int (0 : Int32)), .unset, .unset] [] := by first | (simp [entryFrame, mkF, argsToLocals, Value.category]; done) | rfl
def QD02 (Z : State) (a1 : Addr) (aK aI aP : Addr) (kk ki kp : ClassId) (kf : Int32 → UInt64) (σ : own_P) (h0 : Heap) (n0 : Nat) (v : Option Value) (h : Heap) (L : List Loc) : Prop := v = none ∧ Fr n0 L ∧ Keep h0 h [aI, aP] ∧ Arv Z h aI ki .int 3 (own_l (own_dn kf σ (0 : Int32) (2 : Int32)).1) (.int (0 : Int32)) ∧ Arv Z h aP kp .int 3 (own_l (own_dn kf σ (0 : Int32) (2 : Int32)).2) (.int (0 : Int32))
set_option maxRecDepth 65536 in
set_option maxHeartbeats 40000000 in
theorem rmD02 (l : Launch) (Z : State) (a0 : Array Value) (hw : ∀ d ∈ tables_1, d.before a0 Z = true) (ws : List Jvm.Cond) (a1 : Addr) (aK aI aP : Addr) (kk ki kp : ClassId) (kf : Int32 → UInt64) (σ : own_P) (h0 : Heap) (n0 : Nat) (Z0 : n0 ≤ h0.size) (E1 : Exa Z h0 a1 "com/example/covermesh/covermesh/algorithms/IndexedMinHeap") (FK : Fld Z h0 a1 "com/example/covermesh/covermesh/algorithms/IndexedMinHeap" "keys" "[D" (.ref aK)) (FI : Fld Z h0 a1 "com/example/covermesh/covermesh/algorithms/IndexedMinHeap" "items" "[I" (.ref aI)) (FP : Fld Z h0 a1 "com/example/covermesh/covermesh/algorithms/IndexedMinHeap" "positions" "[I" (.ref aP)) (FS : Fld Z h0 a1 "com/example/covermesh/covermesh/algorithms/IndexedMinHeap" "size" "I" (.int (2 : Int32))) (VK : Arv Z h0 aK kk .double 3 (own_d kf) (.double (0 : UInt64))) (VI : Arv Z h0 aI ki .int 3 (own_l σ.1) (.int (0 : Int32))) (VP : Arv Z h0 aP kp .int 3 (own_l σ.2) (.int (0 : Int32))) (nKI : aK ≠ aI) (nKP : aK ≠ aP) (nIP : aI ≠ aP) (nAK : a1 ≠ aK) (nAI : a1 ≠ aI) (nAP : a1 ≠ aP) (gA : n0 ≤ a1) (gK : n0 ≤ aK) (gI : n0 ≤ aI) (gP : n0 ≤ aP) (R0 : own_R (σ.1 (0 : Int32))) (R1 : own_R (σ.1 (1 : Int32))) :
    MetFree l (⟨"com/example/covermesh/covermesh/algorithms/IndexedMinHeap", "siftDown", "(I)V"⟩ : MethodName) (head1 (Jvm.Cond.code (⟨"com/example/covermesh/covermesh/algorithms/IndexedMinHeap", "siftDown", "(I)V"⟩ : MethodName) prog_17_method_8_code 4 none :: ws) ({ frames := 1, cells := 0, slots := 0, locals := 14 } : Room)) (fun a U => a = #[(.ref a1), (.int (0 : Int32))] ∧ Z.Warmed39 U.vm ∧ U.heap = h0) (fun _ _ _ _ _ => True) (fun _ U o U' => ∃ v L, o = .returned v ∧ QD02 Z a1 aK aI aP kk ki kp kf σ h0 n0 v U'.heap L ∧ FrameEnd U o U' L ({ frames := 1, cells := 0, slots := 0, locals := 14 } : Room).cells ({ frames := 1, cells := 0, slots := 0, locals := 14 } : Room).slots) := by
  refine MetFree.of_bodySF (plainFor_of_name pn_0) hisR ?_
  intro p e s m args below meth c s₁ Bd hml0 hP hK
  obtain ⟨rfl, hZ, hh⟩ := hP
  have hx := Bd.exec
  have hby := Bd.bytes
  have hml : c.maxLocals = 4 := hml0
  have hown : s.vm.findClass "com/example/covermesh/covermesh/algorithms/IndexedMinHeap" = some m.cls := findClass_of_methodNamed Bd.named
  have hnm := (name_of_methodNamed Bd.named Bd.method).1
  have X0 : Stand p l e ({ frames := 1, cells := 0, slots := 0, locals := 14 } : Room) s m #[(.ref a1), (.int (0 : Int32))] below meth c s₁ [] 0 0 := Stand.of_body Bd
  have e0 : s₁.heap = h0 := by rw [← hh, Bd.state]; rfl
  have N0 := Fr.nil n0
  have K0 := Keep.refl h0 [aI, aP]
  have go0 : Goes p e below s₁ (entryFrame m #[(.ref a1), (.int (0 : Int32))] 4) s₁ (mkF m 0 #[.val (.ref a1), .val (.int (0 : Int32)), .unset, .unset] []) := fun t k => castTop (ef_rmD02 m a1) k
  have go1 : Goes p e below s₁ (entryFrame m #[(.ref a1), (.int (0 : Int32))] 4) s₁ (mkF m 1 #[.val (.ref a1), .val (.int (0 : Int32)), .unset, .unset] [(.ref a1)]) := fun t k => by
    refine go0 t ?_
    refine XS.aloadN X0.here hx rfl (hb hby d9_0) rfl rfl ?_
    show Steps p.tables e below (s₁.setTop (mkF m 1 #[.val (.ref a1), .val (.int (0 : Int32)), .unset, .unset] [(.ref a1)])) _
    exact k
  obtain ⟨T2, X2, e2, st2⟩ := getF X0 hx hZ hown (host := "") (Or.inl (hw _ (List.mem_of_getElem? (i := 13) rfl))) Via.refl e0 FI (g := (mkF m 1 #[.val (.ref a1), .val (.int (0 : Int32)), .unset, .unset] [(.ref a1)])) rfl rfl (hb hby d9_1)
  have go3 : Goes p e below s₁ (entryFrame m #[(.ref a1), (.int (0 : Int32))] 4) T2 (mkF m 4 #[.val (.ref a1), .val (.int (0 : Int32)), .unset, .unset] [(.ref aI)]) := fun t k => go1 t (st2 t k)
  have go4 : Goes p e below s₁ (entryFrame m #[(.ref a1), (.int (0 : Int32))] 4) T2 (mkF m 5 #[.val (.ref a1), .val (.int (0 : Int32)), .unset, .unset] [(.int (0 : Int32)), (.ref aI)]) := fun t k => by
    refine go3 t ?_
    refine XS.iloadN X2.here hx rfl (hb hby d9_4) rfl ?_
    show Steps p.tables e below (T2.setTop (mkF m 5 #[.val (.ref a1), .val (.int (0 : Int32)), .unset, .unset] [(.int (0 : Int32)), (.ref aI)])) _
    exact k
  obtain ⟨cl5, Ar5, kq5, Sz5, Nn5, Hs5, Gf5⟩ := id (VI)
  have hin5 : ¬ ((0 : Int32) < 0 ∨ cl5.slots.size ≤ ((0 : Int32)).toNatClampNeg) := inb_of Sz5 (own_inb own_R0)
  have hat5 : cl5.slots[((0 : Int32)).toNatClampNeg]? = some (.int (σ.1 (0 : Int32))) := Has.at Hs5 hin5 (own_l_at own_R0)
  have go6 : Goes p e below s₁ (entryFrame m #[(.ref a1), (.int (0 : Int32))] 4) T2 (mkF m 15 #[.val (.ref a1), .val (.int (0 : Int32)), .val (.int (σ.1 (0 : Int32))), .val (.int (1 : Int32))] [(.ref a1), (.int (1 : Int32))]) := fun t k => by
    refine go4 t ?_
    refine X2.iaload hx (j := (0 : Int32)) (v := (.int (σ.1 (0 : Int32)))) (own_hp e2 Ar5.1) (State.isArrayOf_alike hZ.alike Ar5.2.1) Ar5.2.2 hin5 hat5 (g := (mkF m 5 #[.val (.ref a1), .val (.int (0 : Int32)), .unset, .unset] [(.int (0 : Int32)), (.ref aI)])) rfl rfl (hb hby d9_5) _ ?_
    show Steps p.tables e below (T2.setTop (mkF m 6 #[.val (.ref a1), .val (.int (0 : Int32)), .unset, .unset] [(.int (σ.1 (0 : Int32)))])) _
    refine XS.istoreN X2.here hx rfl (hb hby d9_6) rfl (l' := #[.val (.ref a1), .val (.int (0 : Int32)), .val (.int (σ.1 (0 : Int32))), .unset]) rfl ?_
    show Steps p.tables e below (T2.setTop (mkF m 7 #[.val (.ref a1), .val (.int (0 : Int32)), .val (.int (σ.1 (0 : Int32))), .unset] [])) _
    refine XS.iconst X2.here hx rfl (hb hby d9_7) ?_
    show Steps p.tables e below (T2.setTop (mkF m 8 #[.val (.ref a1), .val (.int (0 : Int32)), .val (.int (σ.1 (0 : Int32))), .unset] [(.int (2 : Int32))])) _
    refine XS.iloadN X2.here hx rfl (hb hby d9_8) rfl ?_
    show Steps p.tables e below (T2.setTop (mkF m 9 #[.val (.ref a1), .val (.int (0 : Int32)), .val (.int (σ.1 (0 : Int32))), .unset] [(.int (0 : Int32)), (.int (2 : Int32))])) _
    refine XS.imul X2.here hx rfl (hb hby d9_9) rfl ?_
    show Steps p.tables e below (T2.setTop (mkF m 10 #[.val (.ref a1), .val (.int (0 : Int32)), .val (.int (σ.1 (0 : Int32))), .unset] [(.int (0 : Int32))])) _
    refine XS.iconst X2.here hx rfl (hb hby d9_10) ?_
    show Steps p.tables e below (T2.setTop (mkF m 11 #[.val (.ref a1), .val (.int (0 : Int32)), .val (.int (σ.1 (0 : Int32))), .unset] [(.int (1 : Int32)), (.int (0 : Int32))])) _
    refine XS.iadd X2.here hx rfl (hb hby d9_11) rfl ?_
    show Steps p.tables e below (T2.setTop (mkF m 12 #[.val (.ref a1), .val (.int (0 : Int32)), .val (.int (σ.1 (0 : Int32))), .unset] [(.int (1 : Int32))])) _
    refine XS.istoreN X2.here hx rfl (hb hby d9_12) rfl (l' := #[.val (.ref a1), .val (.int (0 : Int32)), .val (.int (σ.1 (0 : Int32))), .val (.int (1 : Int32))]) rfl ?_
    show Steps p.tables e below (T2.setTop (mkF m 13 #[.val (.ref a1), .val (.int (0 : Int32)), .val (.int (σ.1 (0 : Int32))), .val (.int (1 : Int32))] [])) _
    refine XS.iloadN X2.here hx rfl (hb hby d9_13) rfl ?_
    show Steps p.tables e below (T2.setTop (mkF m 14 #[.val (.ref a1), .val (.int (0 : Int32)), .val (.int (σ.1 (0 : Int32))), .val (.int (1 : Int32))] [(.int (1 : Int32))])) _
    refine XS.aloadN X2.here hx rfl (hb hby d9_14) rfl rfl ?_
    show Steps p.tables e below (T2.setTop (mkF m 15 #[.val (.ref a1), .val (.int (0 : Int32)), .val (.int (σ.1 (0 : Int32))), .val (.int (1 : Int32))] [(.ref a1), (.int (1 : Int32))])) _
    exact k
  obtain ⟨T7, X7, e7, st7⟩ := getF X2 hx hZ hown (host := "") (Or.inl (hw _ (List.mem_of_getElem? (i := 26) rfl))) Via.refl e2 FS (g := (mkF m 15 #[.val (.ref a1), .val (.int (0 : Int32)), .val (.int (σ.1 (0 : Int32))), .val (.int (1 : Int32))] [(.ref a1), (.int (1 : Int32))])) rfl rfl (hb hby d9_15)
  have go8 : Goes p e below s₁ (entryFrame m #[(.ref a1), (.int (0 : Int32))] 4) T7 (mkF m 18 #[.val (.ref a1), .val (.int (0 : Int32)), .val (.int (σ.1 (0 : Int32))), .val (.int (1 : Int32))] [(.int (2 : Int32)), (.int (1 : Int32))]) := fun t k => go6 t (st7 t k)
  have go9 : Goes p e below s₁ (entryFrame m #[(.ref a1), (.int (0 : Int32))] 4) T7 (mkF m 25 #[.val (.ref a1), .val (.int (0 : Int32)), .val (.int (σ.1 (0 : Int32))), .val (.int (1 : Int32))] [(.ref a1), (.int (2 : Int32))]) := fun t k => by
    refine go8 t ?_
    refine XS.icmpNo X7.here hx rfl (hb hby d9_18) rfl (Jvm.Free.XT.ii_ge_f (by decide)) ?_
    show Steps p.tables e below (T7.setTop (mkF m 21 #[.val (.ref a1), .val (.int (0 : Int32)), .val (.int (σ.1 (0 : Int32))), .val (.int (1 : Int32))] [])) _
    refine XS.iloadN X7.here hx rfl (hb hby d9_21) rfl ?_
    show Steps p.tables e below (T7.setTop (mkF m 22 #[.val (.ref a1), .val (.int (0 : Int32)), .val (.int (σ.1 (0 : Int32))), .val (.int (1 : Int32))] [(.int (1 : Int32))])) _
    refine XS.iconst X7.here hx rfl (hb hby d9_22) ?_
    show Steps p.tables e below (T7.setTop (mkF m 23 #[.val (.ref a1), .val (.int (0 : Int32)), .val (.int (σ.1 (0 : Int32))), .val (.int (1 : Int32))] [(.int (1 : Int32)), (.int (1 : Int32))])) _
    refine XS.iadd X7.here hx rfl (hb hby d9_23) rfl ?_
    show Steps p.tables e below (T7.setTop (mkF m 24 #[.val (.ref a1), .val (.int (0 : Int32)), .val (.int (σ.1 (0 : Int32))), .val (.int (1 : Int32))] [(.int (2 : Int32))])) _
    refine XS.aloadN X7.here hx rfl (hb hby d9_24) rfl rfl ?_
    show Steps p.tables e below (T7.setTop (mkF m 25 #[.val (.ref a1), .val (.int (0 : Int32)), .val (.int (σ.1 (0 : Int32))), .val (.int (1 : Int32))] [(.ref a1), (.int (2 : Int32))])) _
    exact k
  obtain ⟨T10, X10, e10, st10⟩ := getF X7 hx hZ hown (host := "") (Or.inl (hw _ (List.mem_of_getElem? (i := 26) rfl))) Via.refl e7 FS (g := (mkF m 25 #[.val (.ref a1), .val (.int (0 : Int32)), .val (.int (σ.1 (0 : Int32))), .val (.int (1 : Int32))] [(.ref a1), (.int (2 : Int32))])) rfl rfl (hb hby d9_25)
  have go11 : Goes p e below s₁ (entryFrame m #[(.ref a1), (.int (0 : Int32))] 4) T10 (mkF m 28 #[.val (.ref a1), .val (.int (0 : Int32)), .val (.int (σ.1 (0 : Int32))), .val (.int (1 : Int32))] [(.int (2 : Int32)), (.int (2 : Int32))]) := fun t k => go9 t (st10 t k)
  have go12 : Goes p e below s₁ (entryFrame m #[(.ref a1), (.int (0 : Int32))] 4) T10 (mkF m 57 #[.val (.ref a1), .val (.int (0 : Int32)), .val (.int (σ.1 (0 : Int32))), .val (.int (1 : Int32))] [(.ref a1), (.ref a1)]) := fun t k => by
    refine go11 t ?_
    refine XS.icmpYes X10.here hx rfl (pc0 := 28) (pc' := 55) rfl (hb hby d9_28) rfl (Jvm.Free.XT.ii_ge_t (by decide)) (by decide) (by decide) ?_
    show Steps p.tables e below (T10.setTop (mkF m 55 #[.val (.ref a1), .val (.int (0 : Int32)), .val (.int (σ.1 (0 : Int32))), .val (.int (1 : Int32))] [])) _
    refine XS.aloadN X10.here hx rfl (hb hby d9_55) rfl rfl ?_
    show Steps p.tables e below (T10.setTop (mkF m 56 #[.val (.ref a1), .val (.int (0 : Int32)), .val (.int (σ.1 (0 : Int32))), .val (.int (1 : Int32))] [(.ref a1)])) _
    refine XS.aloadN X10.here hx rfl (hb hby d9_56) rfl rfl ?_
    show Steps p.tables e below (T10.setTop (mkF m 57 #[.val (.ref a1), .val (.int (0 : Int32)), .val (.int (σ.1 (0 : Int32))), .val (.int (1 : Int32))] [(.ref a1), (.ref a1)])) _
    exact k
  obtain ⟨T13, X13, e13, st13⟩ := getF X10 hx hZ hown (host := "") (Or.inl (hw _ (List.mem_of_getElem? (i := 13) rfl))) Via.refl e10 FI (g := (mkF m 57 #[.val (.ref a1), .val (.int (0 : Int32)), .val (.int (σ.1 (0 : Int32))), .val (.int (1 : Int32))] [(.ref a1), (.ref a1)])) rfl rfl (hb hby d9_57)
  have go14 : Goes p e below s₁ (entryFrame m #[(.ref a1), (.int (0 : Int32))] 4) T13 (mkF m 60 #[.val (.ref a1), .val (.int (0 : Int32)), .val (.int (σ.1 (0 : Int32))), .val (.int (1 : Int32))] [(.ref aI), (.ref a1)]) := fun t k => go12 t (st13 t k)
  have go15 : Goes p e below s₁ (entryFrame m #[(.ref a1), (.int (0 : Int32))] 4) T13 (mkF m 61 #[.val (.ref a1), .val (.int (0 : Int32)), .val (.int (σ.1 (0 : Int32))), .val (.int (1 : Int32))] [(.int (1 : Int32)), (.ref aI), (.ref a1)]) := fun t k => by
    refine go14 t ?_
    refine XS.iloadN X13.here hx rfl (hb hby d9_60) rfl ?_
    show Steps p.tables e below (T13.setTop (mkF m 61 #[.val (.ref a1), .val (.int (0 : Int32)), .val (.int (σ.1 (0 : Int32))), .val (.int (1 : Int32))] [(.int (1 : Int32)), (.ref aI), (.ref a1)])) _
    exact k
  obtain ⟨cl16, Ar16, kq16, Sz16, Nn16, Hs16, Gf16⟩ := id (VI)
  have hin16 : ¬ ((1 : Int32) < 0 ∨ cl16.slots.size ≤ ((1 : Int32)).toNatClampNeg) := inb_of Sz16 (own_inb own_R1)
  have hat16 : cl16.slots[((1 : Int32)).toNatClampNeg]? = some (.int (σ.1 (1 : Int32))) := Has.at Hs16 hin16 (own_l_at own_R1)
  have go17 : Goes p e below s₁ (entryFrame m #[(.ref a1), (.int (0 : Int32))] 4) T13 (mkF m 63 #[.val (.ref a1), .val (.int (0 : Int32)), .val (.int (σ.1 (0 : Int32))), .val (.int (1 : Int32))] [(.int (σ.1 (0 : Int32))), (.int (σ.1 (1 : Int32))), (.ref a1)]) := fun t k => by
    refine go15 t ?_
    refine X13.iaload hx (j := (1 : Int32)) (v := (.int (σ.1 (1 : Int32)))) (own_hp e13 Ar16.1) (State.isArrayOf_alike hZ.alike Ar16.2.1) Ar16.2.2 hin16 hat16 (g := (mkF m 61 #[.val (.ref a1), .val (.int (0 : Int32)), .val (.int (σ.1 (0 : Int32))), .val (.int (1 : Int32))] [(.int (1 : Int32)), (.ref aI), (.ref a1)])) rfl rfl (hb hby d9_61) _ ?_
    show Steps p.tables e below (T13.setTop (mkF m 62 #[.val (.ref a1), .val (.int (0 : Int32)), .val (.int (σ.1 (0 : Int32))), .val (.int (1 : Int32))] [(.int (σ.1 (1 : Int32))), (.ref a1)])) _
    refine XS.iloadN X13.here hx rfl (hb hby d9_62) rfl ?_
    show Steps p.tables e below (T13.setTop (mkF m 63 #[.val (.ref a1), .val (.int (0 : Int32)), .val (.int (σ.1 (0 : Int32))), .val (.int (1 : Int32))] [(.int (σ.1 (0 : Int32))), (.int (σ.1 (1 : Int32))), (.ref a1)])) _
    exact k
  obtain ⟨cq18, q18a, q18b⟩ := E1.cell
  obtain ⟨_, _, ⟨T18, L18, k18, n18⟩, -, X18, ⟨Lc18, hQ18, l18, y18, z18⟩, st18⟩ := X13.privateBack hx (y := (⟨"com/example/covermesh/covermesh/algorithms/IndexedMinHeap", "less", "(II)Z"⟩ : MethodName)) hown (mvT hZ (hw _ (List.mem_of_getElem? (i := 49) rfl))) (mvT hZ (hw _ (List.mem_of_getElem? (i := 50) rfl))) (own_selp (y := (⟨"com/example/covermesh/covermesh/algorithms/IndexedMinHeap", "less", "(II)Z"⟩ : MethodName)) (by decide) (mvT hZ (hw _ (List.mem_of_getElem? (i := 1) rfl))) (mvP hZ (hw _ (List.mem_of_getElem? (i := 51) rfl))) (mvT hZ (hw _ (List.mem_of_getElem? (i := 50) rfl)))) (Cond.privateMethod_at (mvP hZ (hw _ (List.mem_of_getElem? (i := 51) rfl)) (args := #[]))) (mvT hZ (hw _ (List.mem_of_getElem? (i := 52) rfl))) (by decide) (backOf (W := 0) (rmLe l Z a0 hw [] a1 (σ.1 (1 : Int32)) (σ.1 (0 : Int32)) aK kk kf h0 n0 Z0 FK VK R1 R0) hZ (hw _ (List.mem_of_getElem? (i := 52) rfl)) (hw _ (List.mem_of_getElem? (i := 2) rfl)) (by decide) (by decide)) (g := (mkF m 63 #[.val (.ref a1), .val (.int (0 : Int32)), .val (.int (σ.1 (0 : Int32))), .val (.int (1 : Int32))] [(.int (σ.1 (0 : Int32))), (.int (σ.1 (1 : Int32))), (.ref a1)])) rfl (by rw [hml]; rfl) (Steps.refl _) (a := a1) (by rw [e13]; exact q18a) q18b (argsL := [(.int (σ.1 (1 : Int32))), (.int (σ.1 (0 : Int32)))]) (rest := []) (lenOf pd_1 rfl) rfl (by show 2 * 0 + _ ≤ _; exact Nat.le_of_eq rfl) (hb hby d9_63) (fun _ _ => ⟨rfl, e13, (by decide : 0 + 0 ≤ ({ frames := 1, cells := 0, slots := 0, locals := 14 } : Room).cells), (by decide : 0 + 0 ≤ ({ frames := 1, cells := 0, slots := 0, locals := 14 } : Room).slots)⟩)
  dsimp only [Pt.U, Pt.locs, Pt.cells, Pt.slots] at X18 l18 y18 z18 st18 hQ18
  subst l18 y18 z18
  obtain ⟨rfl, N18q, e18⟩ := hQ18
  have N18 := Fr.app N0 N18q
  have go19 : Goes p e below s₁ (entryFrame m #[(.ref a1), (.int (0 : Int32))] 4) T18 (mkF m 66 #[.val (.ref a1), .val (.int (0 : Int32)), .val (.int (σ.1 (0 : Int32))), .val (.int (1 : Int32))] [(.int (own_less kf (σ.1 (1 : Int32)) (σ.1 (0 : Int32))))]) := fun t k => go17 t (st18.trans k)
  by_cases hc20 : (own_less kf (σ.1 (1 : Int32)) (σ.1 (0 : Int32))) = (0 : Int32)
  · have go21 : Goes p e below s₁ (entryFrame m #[(.ref a1), (.int (0 : Int32))] 4) T18 (mkF m 97 #[.val (.ref a1), .val (.int (0 : Int32)), .val (.int (σ.1 (0 : Int32))), .val (.int (1 : Int32))] [(.int (0 : Int32)), (.int (σ.1 (0 : Int32))), (.ref a1)]) := fun t k => by
      refine go19 t ?_
      refine XS.ifNo X18.here hx rfl (hb hby d9_66) rfl (Jvm.Free.XT.i0_ne_f hc20) ?_
      show Steps p.tables e below (T18.setTop (mkF m 69 #[.val (.ref a1), .val (.int (0 : Int32)), .val (.int (σ.1 (0 : Int32))), .val (.int (1 : Int32))] [])) _
      refine XS.goto X18.here hx rfl (pc0 := 69) (pc' := 94) rfl (hb hby d9_69) (by decide) (by decide) ?_
      show Steps p.tables e below (T18.setTop (mkF m 94 #[.val (.ref a1), .val (.int (0 : Int32)), .val (.int (σ.1 (0 : Int32))), .val (.int (1 : Int32))] [])) _
      refine XS.aloadN X18.here hx rfl (hb hby d9_94) rfl rfl ?_
      show Steps p.tables e below (T18.setTop (mkF m 95 #[.val (.ref a1), .val (.int (0 : Int32)), .val (.int (σ.1 (0 : Int32))), .val (.int (1 : Int32))] [(.ref a1)])) _
      refine XS.iloadN X18.here hx rfl (hb hby d9_95) rfl ?_
      show Steps p.tables e below (T18.setTop (mkF m 96 #[.val (.ref a1), .val (.int (0 : Int32)), .val (.int (σ.1 (0 : Int32))), .val (.int (1 : Int32))] [(.int (σ.1 (0 : Int32))), (.ref a1)])) _
      refine XS.iloadN X18.here hx rfl (hb hby d9_96) rfl ?_
      show Steps p.tables e below (T18.setTop (mkF m 97 #[.val (.ref a1), .val (.int (0 : Int32)), .val (.int (σ.1 (0 : Int32))), .val (.int (1 : Int32))] [(.int (0 : Int32)), (.int (σ.1 (0 : Int32))), (.ref a1)])) _
      exact k
    obtain ⟨cq22, q22a, q22b⟩ := E1.cell
    obtain ⟨_, _, ⟨T22, L22, k22, n22⟩, -, X22, ⟨Lc22, hQ22, l22, y22, z22⟩, st22⟩ := X18.privateBack hx (y := (⟨"com/example/covermesh/covermesh/algorithms/IndexedMinHeap", "move", "(II)V"⟩ : MethodName)) hown (mvT hZ (hw _ (List.mem_of_getElem? (i := 41) rfl))) (mvT hZ (hw _ (List.mem_of_getElem? (i := 42) rfl))) (own_selp (y := (⟨"com/example/covermesh/covermesh/algorithms/IndexedMinHeap", "move", "(II)V"⟩ : MethodName)) (by decide) (mvT hZ (hw _ (List.mem_of_getElem? (i := 1) rfl))) (mvP hZ (hw _ (List.mem_of_getElem? (i := 43) rfl))) (mvT hZ (hw _ (List.mem_of_getElem? (i := 42) rfl)))) (Cond.privateMethod_at (mvP hZ (hw _ (List.mem_of_getElem? (i := 43) rfl)) (args := #[]))) (mvT hZ (hw _ (List.mem_of_getElem? (i := 44) rfl))) (by decide) (backOf (W := 0) (rmMv l Z a0 hw [] a1 (σ.1 (0 : Int32)) (0 : Int32) aI aP ki kp σ h0 n0 Z0 FI FP VI VP nIP gI gP R0 own_R0 nAI nAP) hZ (hw _ (List.mem_of_getElem? (i := 44) rfl)) (hw _ (List.mem_of_getElem? (i := 2) rfl)) (by decide) (by decide)) (g := (mkF m 97 #[.val (.ref a1), .val (.int (0 : Int32)), .val (.int (σ.1 (0 : Int32))), .val (.int (1 : Int32))] [(.int (0 : Int32)), (.int (σ.1 (0 : Int32))), (.ref a1)])) rfl (by rw [hml]; rfl) (Steps.refl _) (a := a1) (by rw [e18]; exact q22a) q22b (argsL := [(.int (σ.1 (0 : Int32))), (.int (0 : Int32))]) (rest := []) (lenOf pd_0 rfl) rfl (by show 2 * 0 + _ ≤ _; exact Nat.le_of_eq rfl) (hb hby d9_97) (fun _ _ => ⟨rfl, e18, (by decide : 0 + 0 ≤ ({ frames := 1, cells := 0, slots := 0, locals := 14 } : Room).cells), (by decide : 0 + 0 ≤ ({ frames := 1, cells := 0, slots := 0, locals := 14 } : Room).slots)⟩)
    dsimp only [Pt.U, Pt.locs, Pt.cells, Pt.slots] at X22 l22 y22 z22 st22 hQ22
    subst l22 y22 z22
    obtain ⟨rfl, N22q, Kq22, VIq22, VPq22⟩ := hQ22
    have N22 := Fr.app N18 N22q
    have f23 := E1.keep Kq22
    have f24 := FK.keep Kq22 (ninS nAI (ninS nAP nin0))
    have f25 := FI.keep Kq22 (ninS nAI (ninS nAP nin0))
    have f26 := FP.keep Kq22 (ninS nAI (ninS nAP nin0))
    have f27 := FS.keep Kq22 (ninS nAI (ninS nAP nin0))
    have f28 := VK.keep Kq22 (ninS nKI (ninS nKP nin0))
    have Z29 := Nat.le_trans Z0 Kq22.1
    have K30 := K0.trans Kq22 (allS (Or.inl (List.mem_of_getElem? (i := 0) rfl)) (allS (Or.inl (List.mem_of_getElem? (i := 1) rfl)) all0))
    have go31 : Goes p e below s₁ (entryFrame m #[(.ref a1), (.int (0 : Int32))] 4) T22 (mkF m 100 #[.val (.ref a1), .val (.int (0 : Int32)), .val (.int (σ.1 (0 : Int32))), .val (.int (1 : Int32))] []) := fun t k => go21 t (st22.trans k)
    obtain ⟨fs, hr, hrun, hended, hW, hsame⟩ := X22.leave (v := none) (fun _ => rfl)
    have hdn : own_dn kf σ (0 : Int32) (2 : Int32) = (own_mv σ (σ.1 (0 : Int32)) (0 : Int32)) := by simp [own_dn, own_ch, hc20]
    refine ⟨_, _, go31 _ ?_, hrun, hended, _, _, rfl, ?_, ⟨_, rfl⟩, hW, hsame.mono (by decide) (by decide)⟩
    · exact X22.returnOut hx Bd.returns (hb hby d9_100) hr
    · show QD02 Z _ _ _ _ _ _ _ _ _ _ _ _ T22.heap _
      exact ⟨rfl, N22, K30, by rw [hdn]; exact VIq22, by rw [hdn]; exact VPq22⟩
  · have go32 : Goes p e below s₁ (entryFrame m #[(.ref a1), (.int (0 : Int32))] 4) T18 (mkF m 74 #[.val (.ref a1), .val (.int (0 : Int32)), .val (.int (σ.1 (0 : Int32))), .val (.int (1 : Int32))] [(.ref a1), (.ref a1)]) := fun t k => by
      refine go19 t ?_
      refine XS.ifYes X18.here hx rfl (pc0 := 66) (pc' := 72) rfl (hb hby d9_66) rfl (Jvm.Free.XT.i0_ne_t hc20) (by decide) (by decide) ?_
      show Steps p.tables e below (T18.setTop (mkF m 72 #[.val (.ref a1), .val (.int (0 : Int32)), .val (.int (σ.1 (0 : Int32))), .val (.int (1 : Int32))] [])) _
      refine XS.aloadN X18.here hx rfl (hb hby d9_72) rfl rfl ?_
      show Steps p.tables e below (T18.setTop (mkF m 73 #[.val (.ref a1), .val (.int (0 : Int32)), .val (.int (σ.1 (0 : Int32))), .val (.int (1 : Int32))] [(.ref a1)])) _
      refine XS.aloadN X18.here hx rfl (hb hby d9_73) rfl rfl ?_
      show Steps p.tables e below (T18.setTop (mkF m 74 #[.val (.ref a1), .val (.int (0 : Int32)), .val (.int (σ.1 (0 : Int32))), .val (.int (1 : Int32))] [(.ref a1), (.ref a1)])) _
      exact k
    obtain ⟨T33, X33, e33, st33⟩ := getF X18 hx hZ hown (host := "") (Or.inl (hw _ (List.mem_of_getElem? (i := 13) rfl))) Via.refl e18 FI (g := (mkF m 74 #[.val (.ref a1), .val (.int (0 : Int32)), .val (.int (σ.1 (0 : Int32))), .val (.int (1 : Int32))] [(.ref a1), (.ref a1)])) rfl rfl (hb hby d9_74)
    have go34 : Goes p e below s₁ (entryFrame m #[(.ref a1), (.int (0 : Int32))] 4) T33 (mkF m 77 #[.val (.ref a1), .val (.int (0 : Int32)), .val (.int (σ.1 (0 : Int32))), .val (.int (1 : Int32))] [(.ref aI), (.ref a1)]) := fun t k => go32 t (st33 t k)
    have go35 : Goes p e below s₁ (entryFrame m #[(.ref a1), (.int (0 : Int32))] 4) T33 (mkF m 78 #[.val (.ref a1), .val (.int (0 : Int32)), .val (.int (σ.1 (0 : Int32))), .val (.int (1 : Int32))] [(.int (1 : Int32)), (.ref aI), (.ref a1)]) := fun t k => by
      refine go34 t ?_
      refine XS.iloadN X33.here hx rfl (hb hby d9_77) rfl ?_
      show Steps p.tables e below (T33.setTop (mkF m 78 #[.val (.ref a1), .val (.int (0 : Int32)), .val (.int (σ.1 (0 : Int32))), .val (.int (1 : Int32))] [(.int (1 : Int32)), (.ref aI), (.ref a1)])) _
      exact k
    obtain ⟨cl36, Ar36, kq36, Sz36, Nn36, Hs36, Gf36⟩ := id (VI)
    have hin36 : ¬ ((1 : Int32) < 0 ∨ cl36.slots.size ≤ ((1 : Int32)).toNatClampNeg) := inb_of Sz36 (own_inb own_R1)
    have hat36 : cl36.slots[((1 : Int32)).toNatClampNeg]? = some (.int (σ.1 (1 : Int32))) := Has.at Hs36 hin36 (own_l_at own_R1)
    have go37 : Goes p e below s₁ (entryFrame m #[(.ref a1), (.int (0 : Int32))] 4) T33 (mkF m 80 #[.val (.ref a1), .val (.int (0 : Int32)), .val (.int (σ.1 (0 : Int32))), .val (.int (1 : Int32))] [(.int (0 : Int32)), (.int (σ.1 (1 : Int32))), (.ref a1)]) := fun t k => by
      refine go35 t ?_
      refine X33.iaload hx (j := (1 : Int32)) (v := (.int (σ.1 (1 : Int32)))) (own_hp e33 Ar36.1) (State.isArrayOf_alike hZ.alike Ar36.2.1) Ar36.2.2 hin36 hat36 (g := (mkF m 78 #[.val (.ref a1), .val (.int (0 : Int32)), .val (.int (σ.1 (0 : Int32))), .val (.int (1 : Int32))] [(.int (1 : Int32)), (.ref aI), (.ref a1)])) rfl rfl (hb hby d9_78) _ ?_
      show Steps p.tables e below (T33.setTop (mkF m 79 #[.val (.ref a1), .val (.int (0 : Int32)), .val (.int (σ.1 (0 : Int32))), .val (.int (1 : Int32))] [(.int (σ.1 (1 : Int32))), (.ref a1)])) _
      refine XS.iloadN X33.here hx rfl (hb hby d9_79) rfl ?_
      show Steps p.tables e below (T33.setTop (mkF m 80 #[.val (.ref a1), .val (.int (0 : Int32)), .val (.int (σ.1 (0 : Int32))), .val (.int (1 : Int32))] [(.int (0 : Int32)), (.int (σ.1 (1 : Int32))), (.ref a1)])) _
      exact k
    obtain ⟨cq38, q38a, q38b⟩ := E1.cell
    obtain ⟨_, _, ⟨T38, L38, k38, n38⟩, -, X38, ⟨Lc38, hQ38, l38, y38, z38⟩, st38⟩ := X33.privateBack hx (y := (⟨"com/example/covermesh/covermesh/algorithms/IndexedMinHeap", "move", "(II)V"⟩ : MethodName)) hown (mvT hZ (hw _ (List.mem_of_getElem? (i := 41) rfl))) (mvT hZ (hw _ (List.mem_of_getElem? (i := 42) rfl))) (own_selp (y := (⟨"com/example/covermesh/covermesh/algorithms/IndexedMinHeap", "move", "(II)V"⟩ : MethodName)) (by decide) (mvT hZ (hw _ (List.mem_of_getElem? (i := 1) rfl))) (mvP hZ (hw _ (List.mem_of_getElem? (i := 43) rfl))) (mvT hZ (hw _ (List.mem_of_getElem? (i := 42) rfl)))) (Cond.privateMethod_at (mvP hZ (hw _ (List.mem_of_getElem? (i := 43) rfl)) (args := #[]))) (mvT hZ (hw _ (List.mem_of_getElem? (i := 44) rfl))) (by decide) (backOf (W := 0) (rmMv l Z a0 hw [] a1 (σ.1 (1 : Int32)) (0 : Int32) aI aP ki kp σ h0 n0 Z0 FI FP VI VP nIP gI gP R1 own_R0 nAI nAP) hZ (hw _ (List.mem_of_getElem? (i := 44) rfl)) (hw _ (List.mem_of_getElem? (i := 2) rfl)) (by decide) (by decide)) (g := (mkF m 80 #[.val (.ref a1), .val (.int (0 : Int32)), .val (.int (σ.1 (0 : Int32))), .val (.int (1 : Int32))] [(.int (0 : Int32)), (.int (σ.1 (1 : Int32))), (.ref a1)])) rfl (by rw [hml]; rfl) (Steps.refl _) (a := a1) (by rw [e33]; exact q38a) q38b (argsL := [(.int (σ.1 (1 : Int32))), (.int (0 : Int32))]) (rest := []) (lenOf pd_0 rfl) rfl (by show 2 * 0 + _ ≤ _; exact Nat.le_of_eq rfl) (hb hby d9_80) (fun _ _ => ⟨rfl, e33, (by decide : 0 + 0 ≤ ({ frames := 1, cells := 0, slots := 0, locals := 14 } : Room).cells), (by decide : 0 + 0 ≤ ({ frames := 1, cells := 0, slots := 0, locals := 14 } : Room).slots)⟩)
    dsimp only [Pt.U, Pt.locs, Pt.cells, Pt.slots] at X38 l38 y38 z38 st38 hQ38
    subst l38 y38 z38
    obtain ⟨rfl, N38q, Kq38, VIq38, VPq38⟩ := hQ38
    have N38 := Fr.app N18 N38q
    have f39 := E1.keep Kq38
    have f40 := FK.keep Kq38 (ninS nAI (ninS nAP nin0))
    have f41 := FI.keep Kq38 (ninS nAI (ninS nAP nin0))
    have f42 := FP.keep Kq38 (ninS nAI (ninS nAP nin0))
    have f43 := FS.keep Kq38 (ninS nAI (ninS nAP nin0))
    have f44 := VK.keep Kq38 (ninS nKI (ninS nKP nin0))
    have Z45 := Nat.le_trans Z0 Kq38.1
    have K46 := K0.trans Kq38 (allS (Or.inl (List.mem_of_getElem? (i := 0) rfl)) (allS (Or.inl (List.mem_of_getElem? (i := 1) rfl)) all0))
    have go47 : Goes p e below s₁ (entryFrame m #[(.ref a1), (.int (0 : Int32))] 4) T38 (mkF m 83 #[.val (.ref a1), .val (.int (0 : Int32)), .val (.int (σ.1 (0 : Int32))), .val (.int (1 : Int32))] []) := fun t k => go37 t (st38.trans k)
    have go48 : Goes p e below s₁ (entryFrame m #[(.ref a1), (.int (0 : Int32))] 4) T38 (mkF m 15 #[.val (.ref a1), .val (.int (1 : Int32)), .val (.int (σ.1 (0 : Int32))), .val (.int (3 : Int32))] [(.ref a1), (.int (3 : Int32))]) := fun t k => by
      refine go47 t ?_
      refine XS.iloadN X38.here hx rfl (hb hby d9_83) rfl ?_
      show Steps p.tables e below (T38.setTop (mkF m 84 #[.val (.ref a1), .val (.int (0 : Int32)), .val (.int (σ.1 (0 : Int32))), .val (.int (1 : Int32))] [(.int (1 : Int32))])) _
      refine XS.istoreN X38.here hx rfl (hb hby d9_84) rfl (l' := #[.val (.ref a1), .val (.int (1 : Int32)), .val (.int (σ.1 (0 : Int32))), .val (.int (1 : Int32))]) rfl ?_
      show Steps p.tables e below (T38.setTop (mkF m 85 #[.val (.ref a1), .val (.int (1 : Int32)), .val (.int (σ.1 (0 : Int32))), .val (.int (1 : Int32))] [])) _
      refine XS.iconst X38.here hx rfl (hb hby d9_85) ?_
      show Steps p.tables e below (T38.setTop (mkF m 86 #[.val (.ref a1), .val (.int (1 : Int32)), .val (.int (σ.1 (0 : Int32))), .val (.int (1 : Int32))] [(.int (2 : Int32))])) _
      refine XS.iloadN X38.here hx rfl (hb hby d9_86) rfl ?_
      show Steps p.tables e below (T38.setTop (mkF m 87 #[.val (.ref a1), .val (.int (1 : Int32)), .val (.int (σ.1 (0 : Int32))), .val (.int (1 : Int32))] [(.int (1 : Int32)), (.int (2 : Int32))])) _
      refine XS.imul X38.here hx rfl (hb hby d9_87) rfl ?_
      show Steps p.tables e below (T38.setTop (mkF m 88 #[.val (.ref a1), .val (.int (1 : Int32)), .val (.int (σ.1 (0 : Int32))), .val (.int (1 : Int32))] [(.int (2 : Int32))])) _
      refine XS.iconst X38.here hx rfl (hb hby d9_88) ?_
      show Steps p.tables e below (T38.setTop (mkF m 89 #[.val (.ref a1), .val (.int (1 : Int32)), .val (.int (σ.1 (0 : Int32))), .val (.int (1 : Int32))] [(.int (1 : Int32)), (.int (2 : Int32))])) _
      refine XS.iadd X38.here hx rfl (hb hby d9_89) rfl ?_
      show Steps p.tables e below (T38.setTop (mkF m 90 #[.val (.ref a1), .val (.int (1 : Int32)), .val (.int (σ.1 (0 : Int32))), .val (.int (1 : Int32))] [(.int (3 : Int32))])) _
      refine XS.istoreN X38.here hx rfl (hb hby d9_90) rfl (l' := #[.val (.ref a1), .val (.int (1 : Int32)), .val (.int (σ.1 (0 : Int32))), .val (.int (3 : Int32))]) rfl ?_
      show Steps p.tables e below (T38.setTop (mkF m 91 #[.val (.ref a1), .val (.int (1 : Int32)), .val (.int (σ.1 (0 : Int32))), .val (.int (3 : Int32))] [])) _
      refine XS.goto X38.here hx rfl (pc0 := 91) (pc' := 13) rfl (hb hby d9_91) (by decide) (by decide) ?_
      show Steps p.tables e below (T38.setTop (mkF m 13 #[.val (.ref a1), .val (.int (1 : Int32)), .val (.int (σ.1 (0 : Int32))), .val (.int (3 : Int32))] [])) _
      refine XS.iloadN X38.here hx rfl (hb hby d9_13) rfl ?_
      show Steps p.tables e below (T38.setTop (mkF m 14 #[.val (.ref a1), .val (.int (1 : Int32)), .val (.int (σ.1 (0 : Int32))), .val (.int (3 : Int32))] [(.int (3 : Int32))])) _
      refine XS.aloadN X38.here hx rfl (hb hby d9_14) rfl rfl ?_
      show Steps p.tables e below (T38.setTop (mkF m 15 #[.val (.ref a1), .val (.int (1 : Int32)), .val (.int (σ.1 (0 : Int32))), .val (.int (3 : Int32))] [(.ref a1), (.int (3 : Int32))])) _
      exact k
    obtain ⟨T49, X49, e49, st49⟩ := getF X38 hx hZ hown (host := "") (Or.inl (hw _ (List.mem_of_getElem? (i := 26) rfl))) Via.refl rfl f43 (g := (mkF m 15 #[.val (.ref a1), .val (.int (1 : Int32)), .val (.int (σ.1 (0 : Int32))), .val (.int (3 : Int32))] [(.ref a1), (.int (3 : Int32))])) rfl rfl (hb hby d9_15)
    have go50 : Goes p e below s₁ (entryFrame m #[(.ref a1), (.int (0 : Int32))] 4) T49 (mkF m 18 #[.val (.ref a1), .val (.int (1 : Int32)), .val (.int (σ.1 (0 : Int32))), .val (.int (3 : Int32))] [(.int (2 : Int32)), (.int (3 : Int32))]) := fun t k => go48 t (st49 t k)
    have go51 : Goes p e below s₁ (entryFrame m #[(.ref a1), (.int (0 : Int32))] 4) T49 (mkF m 97 #[.val (.ref a1), .val (.int (1 : Int32)), .val (.int (σ.1 (0 : Int32))), .val (.int (3 : Int32))] [(.int (1 : Int32)), (.int (σ.1 (0 : Int32))), (.ref a1)]) := fun t k => by
      refine go50 t ?_
      refine XS.icmpYes X49.here hx rfl (pc0 := 18) (pc' := 94) rfl (hb hby d9_18) rfl (Jvm.Free.XT.ii_ge_t (by decide)) (by decide) (by decide) ?_
      show Steps p.tables e below (T49.setTop (mkF m 94 #[.val (.ref a1), .val (.int (1 : Int32)), .val (.int (σ.1 (0 : Int32))), .val (.int (3 : Int32))] [])) _
      refine XS.aloadN X49.here hx rfl (hb hby d9_94) rfl rfl ?_
      show Steps p.tables e below (T49.setTop (mkF m 95 #[.val (.ref a1), .val (.int (1 : Int32)), .val (.int (σ.1 (0 : Int32))), .val (.int (3 : Int32))] [(.ref a1)])) _
      refine XS.iloadN X49.here hx rfl (hb hby d9_95) rfl ?_
      show Steps p.tables e below (T49.setTop (mkF m 96 #[.val (.ref a1), .val (.int (1 : Int32)), .val (.int (σ.1 (0 : Int32))), .val (.int (3 : Int32))] [(.int (σ.1 (0 : Int32))), (.ref a1)])) _
      refine XS.iloadN X49.here hx rfl (hb hby d9_96) rfl ?_
      show Steps p.tables e below (T49.setTop (mkF m 97 #[.val (.ref a1), .val (.int (1 : Int32)), .val (.int (σ.1 (0 : Int32))), .val (.int (3 : Int32))] [(.int (1 : Int32)), (.int (σ.1 (0 : Int32))), (.ref a1)])) _
      exact k
    obtain ⟨cq52, q52a, q52b⟩ := f39.cell
    obtain ⟨_, _, ⟨T52, L52, k52, n52⟩, -, X52, ⟨Lc52, hQ52, l52, y52, z52⟩, st52⟩ := X49.privateBack hx (y := (⟨"com/example/covermesh/covermesh/algorithms/IndexedMinHeap", "move", "(II)V"⟩ : MethodName)) hown (mvT hZ (hw _ (List.mem_of_getElem? (i := 41) rfl))) (mvT hZ (hw _ (List.mem_of_getElem? (i := 42) rfl))) (own_selp (y := (⟨"com/example/covermesh/covermesh/algorithms/IndexedMinHeap", "move", "(II)V"⟩ : MethodName)) (by decide) (mvT hZ (hw _ (List.mem_of_getElem? (i := 1) rfl))) (mvP hZ (hw _ (List.mem_of_getElem? (i := 43) rfl))) (mvT hZ (hw _ (List.mem_of_getElem? (i := 42) rfl)))) (Cond.privateMethod_at (mvP hZ (hw _ (List.mem_of_getElem? (i := 43) rfl)) (args := #[]))) (mvT hZ (hw _ (List.mem_of_getElem? (i := 44) rfl))) (by decide) (backOf (W := 0) (rmMv l Z a0 hw [] a1 (σ.1 (0 : Int32)) (1 : Int32) aI aP ki kp (own_mv σ (σ.1 (1 : Int32)) (0 : Int32)) T38.heap n0 Z45 f41 f42 VIq38 VPq38 nIP gI gP R0 own_R1 nAI nAP) hZ (hw _ (List.mem_of_getElem? (i := 44) rfl)) (hw _ (List.mem_of_getElem? (i := 2) rfl)) (by decide) (by decide)) (g := (mkF m 97 #[.val (.ref a1), .val (.int (1 : Int32)), .val (.int (σ.1 (0 : Int32))), .val (.int (3 : Int32))] [(.int (1 : Int32)), (.int (σ.1 (0 : Int32))), (.ref a1)])) rfl (by rw [hml]; rfl) (Steps.refl _) (a := a1) (by rw [e49]; exact q52a) q52b (argsL := [(.int (σ.1 (0 : Int32))), (.int (1 : Int32))]) (rest := []) (lenOf pd_0 rfl) rfl (by show 2 * 0 + _ ≤ _; exact Nat.le_of_eq rfl) (hb hby d9_97) (fun _ _ => ⟨rfl, e49, (by decide : 0 + 0 ≤ ({ frames := 1, cells := 0, slots := 0, locals := 14 } : Room).cells), (by decide : 0 + 0 ≤ ({ frames := 1, cells := 0, slots := 0, locals := 14 } : Room).slots)⟩)
    dsimp only [Pt.U, Pt.locs, Pt.cells, Pt.slots] at X52 l52 y52 z52 st52 hQ52
    subst l52 y52 z52
    obtain ⟨rfl, N52q, Kq52, VIq52, VPq52⟩ := hQ52
    have N52 := Fr.app N38 N52q
    have f53 := f39.keep Kq52
    have f54 := f40.keep Kq52 (ninS nAI (ninS nAP nin0))
    have f55 := f41.keep Kq52 (ninS nAI (ninS nAP nin0))
    have f56 := f42.keep Kq52 (ninS nAI (ninS nAP nin0))
    have f57 := f43.keep Kq52 (ninS nAI (ninS nAP nin0))
    have f58 := f44.keep Kq52 (ninS nKI (ninS nKP nin0))
    have Z59 := Nat.le_trans Z45 Kq52.1
    have K60 := K46.trans Kq52 (allS (Or.inl (List.mem_of_getElem? (i := 0) rfl)) (allS (Or.inl (List.mem_of_getElem? (i := 1) rfl)) all0))
    have go61 : Goes p e below s₁ (entryFrame m #[(.ref a1), (.int (0 : Int32))] 4) T52 (mkF m 100 #[.val (.ref a1), .val (.int (1 : Int32)), .val (.int (σ.1 (0 : Int32))), .val (.int (3 : Int32))] []) := fun t k => go51 t (st52.trans k)
    obtain ⟨fs, hr, hrun, hended, hW, hsame⟩ := X52.leave (v := none) (fun _ => rfl)
    have hdn : own_dn kf σ (0 : Int32) (2 : Int32) = (own_mv (own_mv σ (σ.1 (1 : Int32)) (0 : Int32)) (σ.1 (0 : Int32)) (1 : Int32)) := by simp [own_dn, own_ch, hc20]
    refine ⟨_, _, go61 _ ?_, hrun, hended, _, _, rfl, ?_, ⟨_, rfl⟩, hW, hsame.mono (by decide) (by decide)⟩
    · exact X52.returnOut hx Bd.returns (hb hby d9_100) hr
    · show QD02 Z _ _ _ _ _ _ _ _ _ _ _ _ T52.heap _
      exact ⟨rfl, N52, K60, by rw [hdn]; exact VIq52, by rw [hdn]; exact VPq52⟩
theorem ef_rmD03 (m : MethodId) (a1 : Addr) : entryFrame m #[(.ref a1), (.int (0 : Int32))] 4 = mkF m 0 #[.val (.ref a1), .val (.int (0 : Int32)), .unset, .unset] [] := by first | (simp [entryFrame, mkF, argsToLocals, Value.category]; done) | rfl
def QD03 (Z : State) (a1 : Addr) (aK aI aP : Addr) (kk ki kp : ClassId) (kf : Int32 → UInt64) (σ : own_P) (h0 : Heap) (n0 : Nat) (v : Option Value) (h : Heap) (L : List Loc) : Prop := v = none ∧ Fr n0 L ∧ Keep h0 h [aI, aP] ∧ Arv Z h aI ki .int 3 (own_l (own_dn kf σ (0 : Int32) (3 : Int32)).1) (.int (0 : Int32)) ∧ Arv Z h aP kp .int 3 (own_l (own_dn kf σ (0 : Int32) (3 : Int32)).2) (.int (0 : Int32))
set_option maxRecDepth 65536 in
set_option maxHeartbeats 40000000 in
theorem rmD03 (l : Launch) (Z : State) (a0 : Array Value) (hw : ∀ d ∈ tables_1, d.before a0 Z = true) (ws : List Jvm.Cond) (a1 : Addr) (aK aI aP : Addr) (kk ki kp : ClassId) (kf : Int32 → UInt64) (σ : own_P) (h0 : Heap) (n0 : Nat) (Z0 : n0 ≤ h0.size) (E1 : Exa Z h0 a1 "com/example/covermesh/covermesh/algorithms/IndexedMinHeap") (FK : Fld Z h0 a1 "com/example/covermesh/covermesh/algorithms/IndexedMinHeap" "keys" "[D" (.ref aK)) (FI : Fld Z h0 a1 "com/example/covermesh/covermesh/algorithms/IndexedMinHeap" "items" "[I" (.ref aI)) (FP : Fld Z h0 a1 "com/example/covermesh/covermesh/algorithms/IndexedMinHeap" "positions" "[I" (.ref aP)) (FS : Fld Z h0 a1 "com/example/covermesh/covermesh/algorithms/IndexedMinHeap" "size" "I" (.int (3 : Int32))) (VK : Arv Z h0 aK kk .double 3 (own_d kf) (.double (0 : UInt64))) (VI : Arv Z h0 aI ki .int 3 (own_l σ.1) (.int (0 : Int32))) (VP : Arv Z h0 aP kp .int 3 (own_l σ.2) (.int (0 : Int32))) (nKI : aK ≠ aI) (nKP : aK ≠ aP) (nIP : aI ≠ aP) (nAK : a1 ≠ aK) (nAI : a1 ≠ aI) (nAP : a1 ≠ aP) (gA : n0 ≤ a1) (gK : n0 ≤ aK) (gI : n0 ≤ aI) (gP : n0 ≤ aP) (R0 : own_R (σ.1 (0 : Int32))) (R1 : own_R (σ.1 (1 : Int32))) (R2 : own_R (σ.1 (2 : Int32))) :
    MetFree l (⟨"com/example/covermesh/covermesh/algorithms/IndexedMinHeap", "siftDown", "(I)V"⟩ : MethodName) (head1 (Jvm.Cond.code (⟨"com/example/covermesh/covermesh/algorithms/IndexedMinHeap", "siftDown", "(I)V"⟩ : MethodName) prog_17_method_8_code 4 none :: ws) ({ frames := 1, cells := 0, slots := 0, locals := 14 } : Room)) (fun a U => a = #[(.ref a1), (.int (0 : Int32))] ∧ Z.Warmed39 U.vm ∧ U.heap = h0) (fun _ _ _ _ _ => True) (fun _ U o U' => ∃ v L, o = .returned v ∧ QD03 Z a1 aK aI aP kk ki kp kf σ h0 n0 v U'.heap L ∧ FrameEnd U o U' L ({ frames := 1, cells := 0, slots := 0, locals := 14 } : Room).cells ({ frames := 1, cells := 0, slots := 0, locals := 14 } : Room).slots) := by
  refine MetFree.of_bodySF (plainFor_of_name pn_0) hisR ?_
  intro p e s m args below meth c s₁ Bd hml0 hP hK
  obtain ⟨rfl, hZ, hh⟩ := hP
  have hx := Bd.exec
  have hby := Bd.bytes
  have hml : c.maxLocals = 4 := hml0
  have hown : s.vm.findClass "com/example/covermesh/covermesh/algorithms/IndexedMinHeap" = some m.cls := findClass_of_methodNamed Bd.named
  have hnm := (name_of_methodNamed Bd.named Bd.method).1
  have X0 : Stand p l e ({ frames := 1, cells := 0, slots := 0, locals := 14 } : Room) s m #[(.ref a1), (.int (0 : Int32))] below meth c s₁ [] 0 0 := Stand.of_body Bd
  have e0 : s₁.heap = h0 := by rw [← hh, Bd.state]; rfl
  have N0 := Fr.nil n0
  have K0 := Keep.refl h0 [aI, aP]
  have go0 : Goes p e below s₁ (entryFrame m #[(.ref a1), (.int (0 : Int32))] 4) s₁ (mkF m 0 #[.val (.ref a1), .val (.int (0 : Int32)), .unset, .unset] []) := fun t k => castTop (ef_rmD03 m a1) k
  have go1 : Goes p e below s₁ (entryFrame m #[(.ref a1), (.int (0 : Int32))] 4) s₁ (mkF m 1 #[.val (.ref a1), .val (.int (0 : Int32)), .unset, .unset] [(.ref a1)]) := fun t k => by
    refine go0 t ?_
    refine XS.aloadN X0.here hx rfl (hb hby d9_0) rfl rfl ?_
    show Steps p.tables e below (s₁.setTop (mkF m 1 #[.val (.ref a1), .val (.int (0 : Int32)), .unset, .unset] [(.ref a1)])) _
    exact k
  obtain ⟨T2, X2, e2, st2⟩ := getF X0 hx hZ hown (host := "") (Or.inl (hw _ (List.mem_of_getElem? (i := 13) rfl))) Via.refl e0 FI (g := (mkF m 1 #[.val (.ref a1), .val (.int (0 : Int32)), .unset, .unset] [(.ref a1)])) rfl rfl (hb hby d9_1)
  have go3 : Goes p e below s₁ (entryFrame m #[(.ref a1), (.int (0 : Int32))] 4) T2 (mkF m 4 #[.val (.ref a1), .val (.int (0 : Int32)), .unset, .unset] [(.ref aI)]) := fun t k => go1 t (st2 t k)
  have go4 : Goes p e below s₁ (entryFrame m #[(.ref a1), (.int (0 : Int32))] 4) T2 (mkF m 5 #[.val (.ref a1), .val (.int (0 : Int32)), .unset, .unset] [(.int (0 : Int32)), (.ref aI)]) := fun t k => by
    refine go3 t ?_
    refine XS.iloadN X2.here hx rfl (hb hby d9_4) rfl ?_
    show Steps p.tables e below (T2.setTop (mkF m 5 #[.val (.ref a1), .val (.int (0 : Int32)), .unset, .unset] [(.int (0 : Int32)), (.ref aI)])) _
    exact k
  obtain ⟨cl5, Ar5, kq5, Sz5, Nn5, Hs5, Gf5⟩ := id (VI)
  have hin5 : ¬ ((0 : Int32) < 0 ∨ cl5.slots.size ≤ ((0 : Int32)).toNatClampNeg) := inb_of Sz5 (own_inb own_R0)
  have hat5 : cl5.slots[((0 : Int32)).toNatClampNeg]? = some (.int (σ.1 (0 : Int32))) := Has.at Hs5 hin5 (own_l_at own_R0)
  have go6 : Goes p e below s₁ (entryFrame m #[(.ref a1), (.int (0 : Int32))] 4) T2 (mkF m 15 #[.val (.ref a1), .val (.int (0 : Int32)), .val (.int (σ.1 (0 : Int32))), .val (.int (1 : Int32))] [(.ref a1), (.int (1 : Int32))]) := fun t k => by
    refine go4 t ?_
    refine X2.iaload hx (j := (0 : Int32)) (v := (.int (σ.1 (0 : Int32)))) (own_hp e2 Ar5.1) (State.isArrayOf_alike hZ.alike Ar5.2.1) Ar5.2.2 hin5 hat5 (g := (mkF m 5 #[.val (.ref a1), .val (.int (0 : Int32)), .unset, .unset] [(.int (0 : Int32)), (.ref aI)])) rfl rfl (hb hby d9_5) _ ?_
    show Steps p.tables e below (T2.setTop (mkF m 6 #[.val (.ref a1), .val (.int (0 : Int32)), .unset, .unset] [(.int (σ.1 (0 : Int32)))])) _
    refine XS.istoreN X2.here hx rfl (hb hby d9_6) rfl (l' := #[.val (.ref a1), .val (.int (0 : Int32)), .val (.int (σ.1 (0 : Int32))), .unset]) rfl ?_
    show Steps p.tables e below (T2.setTop (mkF m 7 #[.val (.ref a1), .val (.int (0 : Int32)), .val (.int (σ.1 (0 : Int32))), .unset] [])) _
    refine XS.iconst X2.here hx rfl (hb hby d9_7) ?_
    show Steps p.tables e below (T2.setTop (mkF m 8 #[.val (.ref a1), .val (.int (0 : Int32)), .val (.int (σ.1 (0 : Int32))), .unset] [(.int (2 : Int32))])) _
    refine XS.iloadN X2.here hx rfl (hb hby d9_8) rfl ?_
    show Steps p.tables e below (T2.setTop (mkF m 9 #[.val (.ref a1), .val (.int (0 : Int32)), .val (.int (σ.1 (0 : Int32))), .unset] [(.int (0 : Int32)), (.int (2 : Int32))])) _
    refine XS.imul X2.here hx rfl (hb hby d9_9) rfl ?_
    show Steps p.tables e below (T2.setTop (mkF m 10 #[.val (.ref a1), .val (.int (0 : Int32)), .val (.int (σ.1 (0 : Int32))), .unset] [(.int (0 : Int32))])) _
    refine XS.iconst X2.here hx rfl (hb hby d9_10) ?_
    show Steps p.tables e below (T2.setTop (mkF m 11 #[.val (.ref a1), .val (.int (0 : Int32)), .val (.int (σ.1 (0 : Int32))), .unset] [(.int (1 : Int32)), (.int (0 : Int32))])) _
    refine XS.iadd X2.here hx rfl (hb hby d9_11) rfl ?_
    show Steps p.tables e below (T2.setTop (mkF m 12 #[.val (.ref a1), .val (.int (0 : Int32)), .val (.int (σ.1 (0 : Int32))), .unset] [(.int (1 : Int32))])) _
    refine XS.istoreN X2.here hx rfl (hb hby d9_12) rfl (l' := #[.val (.ref a1), .val (.int (0 : Int32)), .val (.int (σ.1 (0 : Int32))), .val (.int (1 : Int32))]) rfl ?_
    show Steps p.tables e below (T2.setTop (mkF m 13 #[.val (.ref a1), .val (.int (0 : Int32)), .val (.int (σ.1 (0 : Int32))), .val (.int (1 : Int32))] [])) _
    refine XS.iloadN X2.here hx rfl (hb hby d9_13) rfl ?_
    show Steps p.tables e below (T2.setTop (mkF m 14 #[.val (.ref a1), .val (.int (0 : Int32)), .val (.int (σ.1 (0 : Int32))), .val (.int (1 : Int32))] [(.int (1 : Int32))])) _
    refine XS.aloadN X2.here hx rfl (hb hby d9_14) rfl rfl ?_
    show Steps p.tables e below (T2.setTop (mkF m 15 #[.val (.ref a1), .val (.int (0 : Int32)), .val (.int (σ.1 (0 : Int32))), .val (.int (1 : Int32))] [(.ref a1), (.int (1 : Int32))])) _
    exact k
  obtain ⟨T7, X7, e7, st7⟩ := getF X2 hx hZ hown (host := "") (Or.inl (hw _ (List.mem_of_getElem? (i := 26) rfl))) Via.refl e2 FS (g := (mkF m 15 #[.val (.ref a1), .val (.int (0 : Int32)), .val (.int (σ.1 (0 : Int32))), .val (.int (1 : Int32))] [(.ref a1), (.int (1 : Int32))])) rfl rfl (hb hby d9_15)
  have go8 : Goes p e below s₁ (entryFrame m #[(.ref a1), (.int (0 : Int32))] 4) T7 (mkF m 18 #[.val (.ref a1), .val (.int (0 : Int32)), .val (.int (σ.1 (0 : Int32))), .val (.int (1 : Int32))] [(.int (3 : Int32)), (.int (1 : Int32))]) := fun t k => go6 t (st7 t k)
  have go9 : Goes p e below s₁ (entryFrame m #[(.ref a1), (.int (0 : Int32))] 4) T7 (mkF m 25 #[.val (.ref a1), .val (.int (0 : Int32)), .val (.int (σ.1 (0 : Int32))), .val (.int (1 : Int32))] [(.ref a1), (.int (2 : Int32))]) := fun t k => by
    refine go8 t ?_
    refine XS.icmpNo X7.here hx rfl (hb hby d9_18) rfl (Jvm.Free.XT.ii_ge_f (by decide)) ?_
    show Steps p.tables e below (T7.setTop (mkF m 21 #[.val (.ref a1), .val (.int (0 : Int32)), .val (.int (σ.1 (0 : Int32))), .val (.int (1 : Int32))] [])) _
    refine XS.iloadN X7.here hx rfl (hb hby d9_21) rfl ?_
    show Steps p.tables e below (T7.setTop (mkF m 22 #[.val (.ref a1), .val (.int (0 : Int32)), .val (.int (σ.1 (0 : Int32))), .val (.int (1 : Int32))] [(.int (1 : Int32))])) _
    refine XS.iconst X7.here hx rfl (hb hby d9_22) ?_
    show Steps p.tables e below (T7.setTop (mkF m 23 #[.val (.ref a1), .val (.int (0 : Int32)), .val (.int (σ.1 (0 : Int32))), .val (.int (1 : Int32))] [(.int (1 : Int32)), (.int (1 : Int32))])) _
    refine XS.iadd X7.here hx rfl (hb hby d9_23) rfl ?_
    show Steps p.tables e below (T7.setTop (mkF m 24 #[.val (.ref a1), .val (.int (0 : Int32)), .val (.int (σ.1 (0 : Int32))), .val (.int (1 : Int32))] [(.int (2 : Int32))])) _
    refine XS.aloadN X7.here hx rfl (hb hby d9_24) rfl rfl ?_
    show Steps p.tables e below (T7.setTop (mkF m 25 #[.val (.ref a1), .val (.int (0 : Int32)), .val (.int (σ.1 (0 : Int32))), .val (.int (1 : Int32))] [(.ref a1), (.int (2 : Int32))])) _
    exact k
  obtain ⟨T10, X10, e10, st10⟩ := getF X7 hx hZ hown (host := "") (Or.inl (hw _ (List.mem_of_getElem? (i := 26) rfl))) Via.refl e7 FS (g := (mkF m 25 #[.val (.ref a1), .val (.int (0 : Int32)), .val (.int (σ.1 (0 : Int32))), .val (.int (1 : Int32))] [(.ref a1), (.int (2 : Int32))])) rfl rfl (hb hby d9_25)
  have go11 : Goes p e below s₁ (entryFrame m #[(.ref a1), (.int (0 : Int32))] 4) T10 (mkF m 28 #[.val (.ref a1), .val (.int (0 : Int32)), .val (.int (σ.1 (0 : Int32))), .val (.int (1 : Int32))] [(.int (3 : Int32)), (.int (2 : Int32))]) := fun t k => go9 t (st10 t k)
  have go12 : Goes p e below s₁ (entryFrame m #[(.ref a1), (.int (0 : Int32))] 4) T10 (mkF m 33 #[.val (.ref a1), .val (.int (0 : Int32)), .val (.int (σ.1 (0 : Int32))), .val (.int (1 : Int32))] [(.ref a1), (.ref a1)]) := fun t k => by
    refine go11 t ?_
    refine XS.icmpNo X10.here hx rfl (hb hby d9_28) rfl (Jvm.Free.XT.ii_ge_f (by decide)) ?_
    show Steps p.tables e below (T10.setTop (mkF m 31 #[.val (.ref a1), .val (.int (0 : Int32)), .val (.int (σ.1 (0 : Int32))), .val (.int (1 : Int32))] [])) _
    refine XS.aloadN X10.here hx rfl (hb hby d9_31) rfl rfl ?_
    show Steps p.tables e below (T10.setTop (mkF m 32 #[.val (.ref a1), .val (.int (0 : Int32)), .val (.int (σ.1 (0 : Int32))), .val (.int (1 : Int32))] [(.ref a1)])) _
    refine XS.aloadN X10.here hx rfl (hb hby d9_32) rfl rfl ?_
    show Steps p.tables e below (T10.setTop (mkF m 33 #[.val (.ref a1), .val (.int (0 : Int32)), .val (.int (σ.1 (0 : Int32))), .val (.int (1 : Int32))] [(.ref a1), (.ref a1)])) _
    exact k
  obtain ⟨T13, X13, e13, st13⟩ := getF X10 hx hZ hown (host := "") (Or.inl (hw _ (List.mem_of_getElem? (i := 13) rfl))) Via.refl e10 FI (g := (mkF m 33 #[.val (.ref a1), .val (.int (0 : Int32)), .val (.int (σ.1 (0 : Int32))), .val (.int (1 : Int32))] [(.ref a1), (.ref a1)])) rfl rfl (hb hby d9_33)
  have go14 : Goes p e below s₁ (entryFrame m #[(.ref a1), (.int (0 : Int32))] 4) T13 (mkF m 36 #[.val (.ref a1), .val (.int (0 : Int32)), .val (.int (σ.1 (0 : Int32))), .val (.int (1 : Int32))] [(.ref aI), (.ref a1)]) := fun t k => go12 t (st13 t k)
  have go15 : Goes p e below s₁ (entryFrame m #[(.ref a1), (.int (0 : Int32))] 4) T13 (mkF m 39 #[.val (.ref a1), .val (.int (0 : Int32)), .val (.int (σ.1 (0 : Int32))), .val (.int (1 : Int32))] [(.int (2 : Int32)), (.ref aI), (.ref a1)]) := fun t k => by
    refine go14 t ?_
    refine XS.iloadN X13.here hx rfl (hb hby d9_36) rfl ?_
    show Steps p.tables e below (T13.setTop (mkF m 37 #[.val (.ref a1), .val (.int (0 : Int32)), .val (.int (σ.1 (0 : Int32))), .val (.int (1 : Int32))] [(.int (1 : Int32)), (.ref aI), (.ref a1)])) _
    refine XS.iconst X13.here hx rfl (hb hby d9_37) ?_
    show Steps p.tables e below (T13.setTop (mkF m 38 #[.val (.ref a1), .val (.int (0 : Int32)), .val (.int (σ.1 (0 : Int32))), .val (.int (1 : Int32))] [(.int (1 : Int32)), (.int (1 : Int32)), (.ref aI), (.ref a1)])) _
    refine XS.iadd X13.here hx rfl (hb hby d9_38) rfl ?_
    show Steps p.tables e below (T13.setTop (mkF m 39 #[.val (.ref a1), .val (.int (0 : Int32)), .val (.int (σ.1 (0 : Int32))), .val (.int (1 : Int32))] [(.int (2 : Int32)), (.ref aI), (.ref a1)])) _
    exact k
  obtain ⟨cl16, Ar16, kq16, Sz16, Nn16, Hs16, Gf16⟩ := id (VI)
  have hin16 : ¬ ((2 : Int32) < 0 ∨ cl16.slots.size ≤ ((2 : Int32)).toNatClampNeg) := inb_of Sz16 (own_inb own_R2)
  have hat16 : cl16.slots[((2 : Int32)).toNatClampNeg]? = some (.int (σ.1 (2 : Int32))) := Has.at Hs16 hin16 (own_l_at own_R2)
  have go17 : Goes p e below s₁ (entryFrame m #[(.ref a1), (.int (0 : Int32))] 4) T13 (mkF m 41 #[.val (.ref a1), .val (.int (0 : Int32)), .val (.int (σ.1 (0 : Int32))), .val (.int (1 : Int32))] [(.ref a1), (.int (σ.1 (2 : Int32))), (.ref a1)]) := fun t k => by
    refine go15 t ?_
    refine X13.iaload hx (j := (2 : Int32)) (v := (.int (σ.1 (2 : Int32)))) (own_hp e13 Ar16.1) (State.isArrayOf_alike hZ.alike Ar16.2.1) Ar16.2.2 hin16 hat16 (g := (mkF m 39 #[.val (.ref a1), .val (.int (0 : Int32)), .val (.int (σ.1 (0 : Int32))), .val (.int (1 : Int32))] [(.int (2 : Int32)), (.ref aI), (.ref a1)])) rfl rfl (hb hby d9_39) _ ?_
    show Steps p.tables e below (T13.setTop (mkF m 40 #[.val (.ref a1), .val (.int (0 : Int32)), .val (.int (σ.1 (0 : Int32))), .val (.int (1 : Int32))] [(.int (σ.1 (2 : Int32))), (.ref a1)])) _
    refine XS.aloadN X13.here hx rfl (hb hby d9_40) rfl rfl ?_
    show Steps p.tables e below (T13.setTop (mkF m 41 #[.val (.ref a1), .val (.int (0 : Int32)), .val (.int (σ.1 (0 : Int32))), .val (.int (1 : Int32))] [(.ref a1), (.int (σ.1 (2 : Int32))), (.ref a1)])) _
    exact k
  obtain ⟨T18, X18, e18, st18⟩ := getF X13 hx hZ hown (host := "") (Or.inl (hw _ (List.mem_of_getElem? (i := 13) rfl))) Via.refl e13 FI (g := (mkF m 41 #[.val (.ref a1), .val (.int (0 : Int32)), .val (.int (σ.1 (0 : Int32))), .val (.int (1 : Int32))] [(.ref a1), (.int (σ.1 (2 : Int32))), (.ref a1)])) rfl rfl (hb hby d9_41)
  have go19 : Goes p e below s₁ (entryFrame m #[(.ref a1), (.int (0 : Int32))] 4) T18 (mkF m 44 #[.val (.ref a1), .val (.int (0 : Int32)), .val (.int (σ.1 (0 : Int32))), .val (.int (1 : Int32))] [(.ref aI), (.int (σ.1 (2 : Int32))), (.ref a1)]) := fun t k => go17 t (st18 t k)
  have go20 : Goes p e below s₁ (entryFrame m #[(.ref a1), (.int (0 : Int32))] 4) T18 (mkF m 45 #[.val (.ref a1), .val (.int (0 : Int32)), .val (.int (σ.1 (0 : Int32))), .val (.int (1 : Int32))] [(.int (1 : Int32)), (.ref aI), (.int (σ.1 (2 : Int32))), (.ref a1)]) := fun t k => by
    refine go19 t ?_
    refine XS.iloadN X18.here hx rfl (hb hby d9_44) rfl ?_
    show Steps p.tables e below (T18.setTop (mkF m 45 #[.val (.ref a1), .val (.int (0 : Int32)), .val (.int (σ.1 (0 : Int32))), .val (.int (1 : Int32))] [(.int (1 : Int32)), (.ref aI), (.int (σ.1 (2 : Int32))), (.ref a1)])) _
    exact k
  obtain ⟨cl21, Ar21, kq21, Sz21, Nn21, Hs21, Gf21⟩ := id (VI)
  have hin21 : ¬ ((1 : Int32) < 0 ∨ cl21.slots.size ≤ ((1 : Int32)).toNatClampNeg) := inb_of Sz21 (own_inb own_R1)
  have hat21 : cl21.slots[((1 : Int32)).toNatClampNeg]? = some (.int (σ.1 (1 : Int32))) := Has.at Hs21 hin21 (own_l_at own_R1)
  have go22 : Goes p e below s₁ (entryFrame m #[(.ref a1), (.int (0 : Int32))] 4) T18 (mkF m 46 #[.val (.ref a1), .val (.int (0 : Int32)), .val (.int (σ.1 (0 : Int32))), .val (.int (1 : Int32))] [(.int (σ.1 (1 : Int32))), (.int (σ.1 (2 : Int32))), (.ref a1)]) := fun t k => by
    refine go20 t ?_
    refine X18.iaload hx (j := (1 : Int32)) (v := (.int (σ.1 (1 : Int32)))) (own_hp e18 Ar21.1) (State.isArrayOf_alike hZ.alike Ar21.2.1) Ar21.2.2 hin21 hat21 (g := (mkF m 45 #[.val (.ref a1), .val (.int (0 : Int32)), .val (.int (σ.1 (0 : Int32))), .val (.int (1 : Int32))] [(.int (1 : Int32)), (.ref aI), (.int (σ.1 (2 : Int32))), (.ref a1)])) rfl rfl (hb hby d9_45) _ ?_
    show Steps p.tables e below (T18.setTop (mkF m 46 #[.val (.ref a1), .val (.int (0 : Int32)), .val (.int (σ.1 (0 : Int32))), .val (.int (1 : Int32))] [(.int (σ.1 (1 : Int32))), (.int (σ.1 (2 : Int32))), (.ref a1)])) _
    exact k
  obtain ⟨cq23, q23a, q23b⟩ := E1.cell
  obtain ⟨_, _, ⟨T23, L23, k23, n23⟩, -, X23, ⟨Lc23, hQ23, l23, y23, z23⟩, st23⟩ := X18.privateBack hx (y := (⟨"com/example/covermesh/covermesh/algorithms/IndexedMinHeap", "less", "(II)Z"⟩ : MethodName)) hown (mvT hZ (hw _ (List.mem_of_getElem? (i := 49) rfl))) (mvT hZ (hw _ (List.mem_of_getElem? (i := 50) rfl))) (own_selp (y := (⟨"com/example/covermesh/covermesh/algorithms/IndexedMinHeap", "less", "(II)Z"⟩ : MethodName)) (by decide) (mvT hZ (hw _ (List.mem_of_getElem? (i := 1) rfl))) (mvP hZ (hw _ (List.mem_of_getElem? (i := 51) rfl))) (mvT hZ (hw _ (List.mem_of_getElem? (i := 50) rfl)))) (Cond.privateMethod_at (mvP hZ (hw _ (List.mem_of_getElem? (i := 51) rfl)) (args := #[]))) (mvT hZ (hw _ (List.mem_of_getElem? (i := 52) rfl))) (by decide) (backOf (W := 0) (rmLe l Z a0 hw [] a1 (σ.1 (2 : Int32)) (σ.1 (1 : Int32)) aK kk kf h0 n0 Z0 FK VK R2 R1) hZ (hw _ (List.mem_of_getElem? (i := 52) rfl)) (hw _ (List.mem_of_getElem? (i := 2) rfl)) (by decide) (by decide)) (g := (mkF m 46 #[.val (.ref a1), .val (.int (0 : Int32)), .val (.int (σ.1 (0 : Int32))), .val (.int (1 : Int32))] [(.int (σ.1 (1 : Int32))), (.int (σ.1 (2 : Int32))), (.ref a1)])) rfl (by rw [hml]; rfl) (Steps.refl _) (a := a1) (by rw [e18]; exact q23a) q23b (argsL := [(.int (σ.1 (2 : Int32))), (.int (σ.1 (1 : Int32)))]) (rest := []) (lenOf pd_1 rfl) rfl (by show 2 * 0 + _ ≤ _; exact Nat.le_of_eq rfl) (hb hby d9_46) (fun _ _ => ⟨rfl, e18, (by decide : 0 + 0 ≤ ({ frames := 1, cells := 0, slots := 0, locals := 14 } : Room).cells), (by decide : 0 + 0 ≤ ({ frames := 1, cells := 0, slots := 0, locals := 14 } : Room).slots)⟩)
  dsimp only [Pt.U, Pt.locs, Pt.cells, Pt.slots] at X23 l23 y23 z23 st23 hQ23
  subst l23 y23 z23
  obtain ⟨rfl, N23q, e23⟩ := hQ23
  have N23 := Fr.app N0 N23q
  have go24 : Goes p e below s₁ (entryFrame m #[(.ref a1), (.int (0 : Int32))] 4) T23 (mkF m 49 #[.val (.ref a1), .val (.int (0 : Int32)), .val (.int (σ.1 (0 : Int32))), .val (.int (1 : Int32))] [(.int (own_less kf (σ.1 (2 : Int32)) (σ.1 (1 : Int32))))]) := fun t k => go22 t (st23.trans k)
  by_cases hc25 : (own_less kf (σ.1 (2 : Int32)) (σ.1 (1 : Int32))) = (0 : Int32)
  · have go26 : Goes p e below s₁ (entryFrame m #[(.ref a1), (.int (0 : Int32))] 4) T23 (mkF m 57 #[.val (.ref a1), .val (.int (0 : Int32)), .val (.int (σ.1 (0 : Int32))), .val (.int (1 : Int32))] [(.ref a1), (.ref a1)]) := fun t k => by
      refine go24 t ?_
      refine XS.ifYes X23.here hx rfl (pc0 := 49) (pc' := 55) rfl (hb hby d9_49) rfl (Jvm.Free.XT.i0_eq_t hc25) (by decide) (by decide) ?_
      show Steps p.tables e below (T23.setTop (mkF m 55 #[.val (.ref a1), .val (.int (0 : Int32)), .val (.int (σ.1 (0 : Int32))), .val (.int (1 : Int32))] [])) _
      refine XS.aloadN X23.here hx rfl (hb hby d9_55) rfl rfl ?_
      show Steps p.tables e below (T23.setTop (mkF m 56 #[.val (.ref a1), .val (.int (0 : Int32)), .val (.int (σ.1 (0 : Int32))), .val (.int (1 : Int32))] [(.ref a1)])) _
      refine XS.aloadN X23.here hx rfl (hb hby d9_56) rfl rfl ?_
      show Steps p.tables e below (T23.setTop (mkF m 57 #[.val (.ref a1), .val (.int (0 : Int32)), .val (.int (σ.1 (0 : Int32))), .val (.int (1 : Int32))] [(.ref a1), (.ref a1)])) _
      exact k
    obtain ⟨T27, X27, e27, st27⟩ := getF X23 hx hZ hown (host := "") (Or.inl (hw _ (List.mem_of_getElem? (i := 13) rfl))) Via.refl e23 FI (g := (mkF m 57 #[.val (.ref a1), .val (.int (0 : Int32)), .val (.int (σ.1 (0 : Int32))), .val (.int (1 : Int32))] [(.ref a1), (.ref a1)])) rfl rfl (hb hby d9_57)
    have go28 : Goes p e below s₁ (entryFrame m #[(.ref a1), (.int (0 : Int32))] 4) T27 (mkF m 60 #[.val (.ref a1), .val (.int (0 : Int32)), .val (.int (σ.1 (0 : Int32))), .val (.int (1 : Int32))] [(.ref aI), (.ref a1)]) := fun t k => go26 t (st27 t k)
    have go29 : Goes p e below s₁ (entryFrame m #[(.ref a1), (.int (0 : Int32))] 4) T27 (mkF m 61 #[.val (.ref a1), .val (.int (0 : Int32)), .val (.int (σ.1 (0 : Int32))), .val (.int (1 : Int32))] [(.int (1 : Int32)), (.ref aI), (.ref a1)]) := fun t k => by
      refine go28 t ?_
      refine XS.iloadN X27.here hx rfl (hb hby d9_60) rfl ?_
      show Steps p.tables e below (T27.setTop (mkF m 61 #[.val (.ref a1), .val (.int (0 : Int32)), .val (.int (σ.1 (0 : Int32))), .val (.int (1 : Int32))] [(.int (1 : Int32)), (.ref aI), (.ref a1)])) _
      exact k
    obtain ⟨cl30, Ar30, kq30, Sz30, Nn30, Hs30, Gf30⟩ := id (VI)
    have hin30 : ¬ ((1 : Int32) < 0 ∨ cl30.slots.size ≤ ((1 : Int32)).toNatClampNeg) := inb_of Sz30 (own_inb own_R1)
    have hat30 : cl30.slots[((1 : Int32)).toNatClampNeg]? = some (.int (σ.1 (1 : Int32))) := Has.at Hs30 hin30 (own_l_at own_R1)
    have go31 : Goes p e below s₁ (entryFrame m #[(.ref a1), (.int (0 : Int32))] 4) T27 (mkF m 63 #[.val (.ref a1), .val (.int (0 : Int32)), .val (.int (σ.1 (0 : Int32))), .val (.int (1 : Int32))] [(.int (σ.1 (0 : Int32))), (.int (σ.1 (1 : Int32))), (.ref a1)]) := fun t k => by
      refine go29 t ?_
      refine X27.iaload hx (j := (1 : Int32)) (v := (.int (σ.1 (1 : Int32)))) (own_hp e27 Ar30.1) (State.isArrayOf_alike hZ.alike Ar30.2.1) Ar30.2.2 hin30 hat30 (g := (mkF m 61 #[.val (.ref a1), .val (.int (0 : Int32)), .val (.int (σ.1 (0 : Int32))), .val (.int (1 : Int32))] [(.int (1 : Int32)), (.ref aI), (.ref a1)])) rfl rfl (hb hby d9_61) _ ?_
      show Steps p.tables e below (T27.setTop (mkF m 62 #[.val (.ref a1), .val (.int (0 : Int32)), .val (.int (σ.1 (0 : Int32))), .val (.int (1 : Int32))] [(.int (σ.1 (1 : Int32))), (.ref a1)])) _
      refine XS.iloadN X27.here hx rfl (hb hby d9_62) rfl ?_
      show Steps p.tables e below (T27.setTop (mkF m 63 #[.val (.ref a1), .val (.int (0 : Int32)), .val (.int (σ.1 (0 : Int32))), .val (.int (1 : Int32))] [(.int (σ.1 (0 : Int32))), (.int (σ.1 (1 : Int32))), (.ref a1)])) _
      exact k
    obtain ⟨cq32, q32a, q32b⟩ := E1.cell
    obtain ⟨_, _, ⟨T32, L32, k32, n32⟩, -, X32, ⟨Lc32, hQ32, l32, y32, z32⟩, st32⟩ := X27.privateBack hx (y := (⟨"com/example/covermesh/covermesh/algorithms/IndexedMinHeap", "less", "(II)Z"⟩ : MethodName)) hown (mvT hZ (hw _ (List.mem_of_getElem? (i := 49) rfl))) (mvT hZ (hw _ (List.mem_of_getElem? (i := 50) rfl))) (own_selp (y := (⟨"com/example/covermesh/covermesh/algorithms/IndexedMinHeap", "less", "(II)Z"⟩ : MethodName)) (by decide) (mvT hZ (hw _ (List.mem_of_getElem? (i := 1) rfl))) (mvP hZ (hw _ (List.mem_of_getElem? (i := 51) rfl))) (mvT hZ (hw _ (List.mem_of_getElem? (i := 50) rfl)))) (Cond.privateMethod_at (mvP hZ (hw _ (List.mem_of_getElem? (i := 51) rfl)) (args := #[]))) (mvT hZ (hw _ (List.mem_of_getElem? (i := 52) rfl))) (by decide) (backOf (W := 0) (rmLe l Z a0 hw [] a1 (σ.1 (1 : Int32)) (σ.1 (0 : Int32)) aK kk kf h0 n0 Z0 FK VK R1 R0) hZ (hw _ (List.mem_of_getElem? (i := 52) rfl)) (hw _ (List.mem_of_getElem? (i := 2) rfl)) (by decide) (by decide)) (g := (mkF m 63 #[.val (.ref a1), .val (.int (0 : Int32)), .val (.int (σ.1 (0 : Int32))), .val (.int (1 : Int32))] [(.int (σ.1 (0 : Int32))), (.int (σ.1 (1 : Int32))), (.ref a1)])) rfl (by rw [hml]; rfl) (Steps.refl _) (a := a1) (by rw [e27]; exact q32a) q32b (argsL := [(.int (σ.1 (1 : Int32))), (.int (σ.1 (0 : Int32)))]) (rest := []) (lenOf pd_1 rfl) rfl (by show 2 * 0 + _ ≤ _; exact Nat.le_of_eq rfl) (hb hby d9_63) (fun _ _ => ⟨rfl, e27, (by decide : 0 + 0 ≤ ({ frames := 1, cells := 0, slots := 0, locals := 14 } : Room).cells), (by decide : 0 + 0 ≤ ({ frames := 1, cells := 0, slots := 0, locals := 14 } : Room).slots)⟩)
    dsimp only [Pt.U, Pt.locs, Pt.cells, Pt.slots] at X32 l32 y32 z32 st32 hQ32
    subst l32 y32 z32
    obtain ⟨rfl, N32q, e32⟩ := hQ32
    have N32 := Fr.app N23 N32q
    have go33 : Goes p e below s₁ (entryFrame m #[(.ref a1), (.int (0 : Int32))] 4) T32 (mkF m 66 #[.val (.ref a1), .val (.int (0 : Int32)), .val (.int (σ.1 (0 : Int32))), .val (.int (1 : Int32))] [(.int (own_less kf (σ.1 (1 : Int32)) (σ.1 (0 : Int32))))]) := fun t k => go31 t (st32.trans k)
    by_cases hc34 : (own_less kf (σ.1 (1 : Int32)) (σ.1 (0 : Int32))) = (0 : Int32)
    · have go35 : Goes p e below s₁ (entryFrame m #[(.ref a1), (.int (0 : Int32))] 4) T32 (mkF m 97 #[.val (.ref a1), .val (.int (0 : Int32)), .val (.int (σ.1 (0 : Int32))), .val (.int (1 : Int32))] [(.int (0 : Int32)), (.int (σ.1 (0 : Int32))), (.ref a1)]) := fun t k => by
        refine go33 t ?_
        refine XS.ifNo X32.here hx rfl (hb hby d9_66) rfl (Jvm.Free.XT.i0_ne_f hc34) ?_
        show Steps p.tables e below (T32.setTop (mkF m 69 #[.val (.ref a1), .val (.int (0 : Int32)), .val (.int (σ.1 (0 : Int32))), .val (.int (1 : Int32))] [])) _
        refine XS.goto X32.here hx rfl (pc0 := 69) (pc' := 94) rfl (hb hby d9_69) (by decide) (by decide) ?_
        show Steps p.tables e below (T32.setTop (mkF m 94 #[.val (.ref a1), .val (.int (0 : Int32)), .val (.int (σ.1 (0 : Int32))), .val (.int (1 : Int32))] [])) _
        refine XS.aloadN X32.here hx rfl (hb hby d9_94) rfl rfl ?_
        show Steps p.tables e below (T32.setTop (mkF m 95 #[.val (.ref a1), .val (.int (0 : Int32)), .val (.int (σ.1 (0 : Int32))), .val (.int (1 : Int32))] [(.ref a1)])) _
        refine XS.iloadN X32.here hx rfl (hb hby d9_95) rfl ?_
        show Steps p.tables e below (T32.setTop (mkF m 96 #[.val (.ref a1), .val (.int (0 : Int32)), .val (.int (σ.1 (0 : Int32))), .val (.int (1 : Int32))] [(.int (σ.1 (0 : Int32))), (.ref a1)])) _
        refine XS.iloadN X32.here hx rfl (hb hby d9_96) rfl ?_
        show Steps p.tables e below (T32.setTop (mkF m 97 #[.val (.ref a1), .val (.int (0 : Int32)), .val (.int (σ.1 (0 : Int32))), .val (.int (1 : Int32))] [(.int (0 : Int32)), (.int (σ.1 (0 : Int32))), (.ref a1)])) _
        exact k
      obtain ⟨cq36, q36a, q36b⟩ := E1.cell
      obtain ⟨_, _, ⟨T36, L36, k36, n36⟩, -, X36, ⟨Lc36, hQ36, l36, y36, z36⟩, st36⟩ := X32.privateBack hx (y := (⟨"com/example/covermesh/covermesh/algorithms/IndexedMinHeap", "move", "(II)V"⟩ : MethodName)) hown (mvT hZ (hw _ (List.mem_of_getElem? (i := 41) rfl))) (mvT hZ (hw _ (List.mem_of_getElem? (i := 42) rfl))) (own_selp (y := (⟨"com/example/covermesh/covermesh/algorithms/IndexedMinHeap", "move", "(II)V"⟩ : MethodName)) (by decide) (mvT hZ (hw _ (List.mem_of_getElem? (i := 1) rfl))) (mvP hZ (hw _ (List.mem_of_getElem? (i := 43) rfl))) (mvT hZ (hw _ (List.mem_of_getElem? (i := 42) rfl)))) (Cond.privateMethod_at (mvP hZ (hw _ (List.mem_of_getElem? (i := 43) rfl)) (args := #[]))) (mvT hZ (hw _ (List.mem_of_getElem? (i := 44) rfl))) (by decide) (backOf (W := 0) (rmMv l Z a0 hw [] a1 (σ.1 (0 : Int32)) (0 : Int32) aI aP ki kp σ h0 n0 Z0 FI FP VI VP nIP gI gP R0 own_R0 nAI nAP) hZ (hw _ (List.mem_of_getElem? (i := 44) rfl)) (hw _ (List.mem_of_getElem? (i := 2) rfl)) (by decide) (by decide)) (g := (mkF m 97 #[.val (.ref a1), .val (.int (0 : Int32)), .val (.int (σ.1 (0 : Int32))), .val (.int (1 : Int32))] [(.int (0 : Int32)), (.int (σ.1 (0 : Int32))), (.ref a1)])) rfl (by rw [hml]; rfl) (Steps.refl _) (a := a1) (by rw [e32]; exact q36a) q36b (argsL := [(.int (σ.1 (0 : Int32))), (.int (0 : Int32))]) (rest := []) (lenOf pd_0 rfl) rfl (by show 2 * 0 + _ ≤ _; exact Nat.le_of_eq rfl) (hb hby d9_97) (fun _ _ => ⟨rfl, e32, (by decide : 0 + 0 ≤ ({ frames := 1, cells := 0, slots := 0, locals := 14 } : Room).cells), (by decide : 0 + 0 ≤ ({ frames := 1, cells := 0, slots := 0, locals := 14 } : Room).slots)⟩)
      dsimp only [Pt.U, Pt.locs, Pt.cells, Pt.slots] at X36 l36 y36 z36 st36 hQ36
      subst l36 y36 z36
      obtain ⟨rfl, N36q, Kq36, VIq36, VPq36⟩ := hQ36
      have N36 := Fr.app N32 N36q
      have f37 := E1.keep Kq36
      have f38 := FK.keep Kq36 (ninS nAI (ninS nAP nin0))
      have f39 := FI.keep Kq36 (ninS nAI (ninS nAP nin0))
      have f40 := FP.keep Kq36 (ninS nAI (ninS nAP nin0))
      have f41 := FS.keep Kq36 (ninS nAI (ninS nAP nin0))
      have f42 := VK.keep Kq36 (ninS nKI (ninS nKP nin0))
      have Z43 := Nat.le_trans Z0 Kq36.1
      have K44 := K0.trans Kq36 (allS (Or.inl (List.mem_of_getElem? (i := 0) rfl)) (allS (Or.inl (List.mem_of_getElem? (i := 1) rfl)) all0))
      have go45 : Goes p e below s₁ (entryFrame m #[(.ref a1), (.int (0 : Int32))] 4) T36 (mkF m 100 #[.val (.ref a1), .val (.int (0 : Int32)), .val (.int (σ.1 (0 : Int32))), .val (.int (1 : Int32))] []) := fun t k => go35 t (st36.trans k)
      obtain ⟨fs, hr, hrun, hended, hW, hsame⟩ := X36.leave (v := none) (fun _ => rfl)
      have hdn : own_dn kf σ (0 : Int32) (3 : Int32) = (own_mv σ (σ.1 (0 : Int32)) (0 : Int32)) := by simp [own_dn, own_ch, hc25, hc34]
      refine ⟨_, _, go45 _ ?_, hrun, hended, _, _, rfl, ?_, ⟨_, rfl⟩, hW, hsame.mono (by decide) (by decide)⟩
      · exact X36.returnOut hx Bd.returns (hb hby d9_100) hr
      · show QD03 Z _ _ _ _ _ _ _ _ _ _ _ _ T36.heap _
        exact ⟨rfl, N36, K44, by rw [hdn]; exact VIq36, by rw [hdn]; exact VPq36⟩
    · have go46 : Goes p e below s₁ (entryFrame m #[(.ref a1), (.int (0 : Int32))] 4) T32 (mkF m 74 #[.val (.ref a1), .val (.int (0 : Int32)), .val (.int (σ.1 (0 : Int32))), .val (.int (1 : Int32))] [(.ref a1), (.ref a1)]) := fun t k => by
        refine go33 t ?_
        refine XS.ifYes X32.here hx rfl (pc0 := 66) (pc' := 72) rfl (hb hby d9_66) rfl (Jvm.Free.XT.i0_ne_t hc34) (by decide) (by decide) ?_
        show Steps p.tables e below (T32.setTop (mkF m 72 #[.val (.ref a1), .val (.int (0 : Int32)), .val (.int (σ.1 (0 : Int32))), .val (.int (1 : Int32))] [])) _
        refine XS.aloadN X32.here hx rfl (hb hby d9_72) rfl rfl ?_
        show Steps p.tables e below (T32.setTop (mkF m 73 #[.val (.ref a1), .val (.int (0 : Int32)), .val (.int (σ.1 (0 : Int32))), .val (.int (1 : Int32))] [(.ref a1)])) _
        refine XS.aloadN X32.here hx rfl (hb hby d9_73) rfl rfl ?_
        show Steps p.tables e below (T32.setTop (mkF m 74 #[.val (.ref a1), .val (.int (0 : Int32)), .val (.int (σ.1 (0 : Int32))), .val (.int (1 : Int32))] [(.ref a1), (.ref a1)])) _
        exact k
      obtain ⟨T47, X47, e47, st47⟩ := getF X32 hx hZ hown (host := "") (Or.inl (hw _ (List.mem_of_getElem? (i := 13) rfl))) Via.refl e32 FI (g := (mkF m 74 #[.val (.ref a1), .val (.int (0 : Int32)), .val (.int (σ.1 (0 : Int32))), .val (.int (1 : Int32))] [(.ref a1), (.ref a1)])) rfl rfl (hb hby d9_74)
      have go48 : Goes p e below s₁ (entryFrame m #[(.ref a1), (.int (0 : Int32))] 4) T47 (mkF m 77 #[.val (.ref a1), .val (.int (0 : Int32)), .val (.int (σ.1 (0 : Int32))), .val (.int (1 : Int32))] [(.ref aI), (.ref a1)]) := fun t k => go46 t (st47 t k)
      have go49 : Goes p e below s₁ (entryFrame m #[(.ref a1), (.int (0 : Int32))] 4) T47 (mkF m 78 #[.val (.ref a1), .val (.int (0 : Int32)), .val (.int (σ.1 (0 : Int32))), .val (.int (1 : Int32))] [(.int (1 : Int32)), (.ref aI), (.ref a1)]) := fun t k => by
        refine go48 t ?_
        refine XS.iloadN X47.here hx rfl (hb hby d9_77) rfl ?_
        show Steps p.tables e below (T47.setTop (mkF m 78 #[.val (.ref a1), .val (.int (0 : Int32)), .val (.int (σ.1 (0 : Int32))), .val (.int (1 : Int32))] [(.int (1 : Int32)), (.ref aI), (.ref a1)])) _
        exact k
      obtain ⟨cl50, Ar50, kq50, Sz50, Nn50, Hs50, Gf50⟩ := id (VI)
      have hin50 : ¬ ((1 : Int32) < 0 ∨ cl50.slots.size ≤ ((1 : Int32)).toNatClampNeg) := inb_of Sz50 (own_inb own_R1)
      have hat50 : cl50.slots[((1 : Int32)).toNatClampNeg]? = some (.int (σ.1 (1 : Int32))) := Has.at Hs50 hin50 (own_l_at own_R1)
      have go51 : Goes p e below s₁ (entryFrame m #[(.ref a1), (.int (0 : Int32))] 4) T47 (mkF m 80 #[.val (.ref a1), .val (.int (0 : Int32)), .val (.int (σ.1 (0 : Int32))), .val (.int (1 : Int32))] [(.int (0 : Int32)), (.int (σ.1 (1 : Int32))), (.ref a1)]) := fun t k => by
        refine go49 t ?_
        refine X47.iaload hx (j := (1 : Int32)) (v := (.int (σ.1 (1 : Int32)))) (own_hp e47 Ar50.1) (State.isArrayOf_alike hZ.alike Ar50.2.1) Ar50.2.2 hin50 hat50 (g := (mkF m 78 #[.val (.ref a1), .val (.int (0 : Int32)), .val (.int (σ.1 (0 : Int32))), .val (.int (1 : Int32))] [(.int (1 : Int32)), (.ref aI), (.ref a1)])) rfl rfl (hb hby d9_78) _ ?_
        show Steps p.tables e below (T47.setTop (mkF m 79 #[.val (.ref a1), .val (.int (0 : Int32)), .val (.int (σ.1 (0 : Int32))), .val (.int (1 : Int32))] [(.int (σ.1 (1 : Int32))), (.ref a1)])) _
        refine XS.iloadN X47.here hx rfl (hb hby d9_79) rfl ?_
        show Steps p.tables e below (T47.setTop (mkF m 80 #[.val (.ref a1), .val (.int (0 : Int32)), .val (.int (σ.1 (0 : Int32))), .val (.int (1 : Int32))] [(.int (0 : Int32)), (.int (σ.1 (1 : Int32))), (.ref a1)])) _
        exact k
      obtain ⟨cq52, q52a, q52b⟩ := E1.cell
      obtain ⟨_, _, ⟨T52, L52, k52, n52⟩, -, X52, ⟨Lc52, hQ52, l52, y52, z52⟩, st52⟩ := X47.privateBack hx (y := (⟨"com/example/covermesh/covermesh/algorithms/IndexedMinHeap", "move", "(II)V"⟩ : MethodName)) hown (mvT hZ (hw _ (List.mem_of_getElem? (i := 41) rfl))) (mvT hZ (hw _ (List.mem_of_getElem? (i := 42) rfl))) (own_selp (y := (⟨"com/example/covermesh/covermesh/algorithms/IndexedMinHeap", "move", "(II)V"⟩ : MethodName)) (by decide) (mvT hZ (hw _ (List.mem_of_getElem? (i := 1) rfl))) (mvP hZ (hw _ (List.mem_of_getElem? (i := 43) rfl))) (mvT hZ (hw _ (List.mem_of_getElem? (i := 42) rfl)))) (Cond.privateMethod_at (mvP hZ (hw _ (List.mem_of_getElem? (i := 43) rfl)) (args := #[]))) (mvT hZ (hw _ (List.mem_of_getElem? (i := 44) rfl))) (by decide) (backOf (W := 0) (rmMv l Z a0 hw [] a1 (σ.1 (1 : Int32)) (0 : Int32) aI aP ki kp σ h0 n0 Z0 FI FP VI VP nIP gI gP R1 own_R0 nAI nAP) hZ (hw _ (List.mem_of_getElem? (i := 44) rfl)) (hw _ (List.mem_of_getElem? (i := 2) rfl)) (by decide) (by decide)) (g := (mkF m 80 #[.val (.ref a1), .val (.int (0 : Int32)), .val (.int (σ.1 (0 : Int32))), .val (.int (1 : Int32))] [(.int (0 : Int32)), (.int (σ.1 (1 : Int32))), (.ref a1)])) rfl (by rw [hml]; rfl) (Steps.refl _) (a := a1) (by rw [e47]; exact q52a) q52b (argsL := [(.int (σ.1 (1 : Int32))), (.int (0 : Int32))]) (rest := []) (lenOf pd_0 rfl) rfl (by show 2 * 0 + _ ≤ _; exact Nat.le_of_eq rfl) (hb hby d9_80) (fun _ _ => ⟨rfl, e47, (by decide : 0 + 0 ≤ ({ frames := 1, cells := 0, slots := 0, locals := 14 } : Room).cells), (by decide : 0 + 0 ≤ ({ frames := 1, cells := 0, slots := 0, locals := 14 } : Room).slots)⟩)
      dsimp only [Pt.U, Pt.locs, Pt.cells, Pt.slots] at X52 l52 y52 z52 st52 hQ52
      subst l52 y52 z52
      obtain ⟨rfl, N52q, Kq52, VIq52, VPq52⟩ := hQ52
      have N52 := Fr.app N32 N52q
      have f53 := E1.keep Kq52
      have f54 := FK.keep Kq52 (ninS nAI (ninS nAP nin0))
      have f55 := FI.keep Kq52 (ninS nAI (ninS nAP nin0))
      have f56 := FP.keep Kq52 (ninS nAI (ninS nAP nin0))
      have f57 := FS.keep Kq52 (ninS nAI (ninS nAP nin0))
      have f58 := VK.keep Kq52 (ninS nKI (ninS nKP nin0))
      have Z59 := Nat.le_trans Z0 Kq52.1
      have K60 := K0.trans Kq52 (allS (Or.inl (List.mem_of_getElem? (i := 0) rfl)) (allS (Or.inl (List.mem_of_getElem? (i := 1) rfl)) all0))
      have go61 : Goes p e below s₁ (entryFrame m #[(.ref a1), (.int (0 : Int32))] 4) T52 (mkF m 83 #[.val (.ref a1), .val (.int (0 : Int32)), .val (.int (σ.1 (0 : Int32))), .val (.int (1 : Int32))] []) := fun t k => go51 t (st52.trans k)
      have go62 : Goes p e below s₁ (entryFrame m #[(.ref a1), (.int (0 : Int32))] 4) T52 (mkF m 15 #[.val (.ref a1), .val (.int (1 : Int32)), .val (.int (σ.1 (0 : Int32))), .val (.int (3 : Int32))] [(.ref a1), (.int (3 : Int32))]) := fun t k => by
        refine go61 t ?_
        refine XS.iloadN X52.here hx rfl (hb hby d9_83) rfl ?_
        show Steps p.tables e below (T52.setTop (mkF m 84 #[.val (.ref a1), .val (.int (0 : Int32)), .val (.int (σ.1 (0 : Int32))), .val (.int (1 : Int32))] [(.int (1 : Int32))])) _
        refine XS.istoreN X52.here hx rfl (hb hby d9_84) rfl (l' := #[.val (.ref a1), .val (.int (1 : Int32)), .val (.int (σ.1 (0 : Int32))), .val (.int (1 : Int32))]) rfl ?_
        show Steps p.tables e below (T52.setTop (mkF m 85 #[.val (.ref a1), .val (.int (1 : Int32)), .val (.int (σ.1 (0 : Int32))), .val (.int (1 : Int32))] [])) _
        refine XS.iconst X52.here hx rfl (hb hby d9_85) ?_
        show Steps p.tables e below (T52.setTop (mkF m 86 #[.val (.ref a1), .val (.int (1 : Int32)), .val (.int (σ.1 (0 : Int32))), .val (.int (1 : Int32))] [(.int (2 : Int32))])) _
        refine XS.iloadN X52.here hx rfl (hb hby d9_86) rfl ?_
        show Steps p.tables e below (T52.setTop (mkF m 87 #[.val (.ref a1), .val (.int (1 : Int32)), .val (.int (σ.1 (0 : Int32))), .val (.int (1 : Int32))] [(.int (1 : Int32)), (.int (2 : Int32))])) _
        refine XS.imul X52.here hx rfl (hb hby d9_87) rfl ?_
        show Steps p.tables e below (T52.setTop (mkF m 88 #[.val (.ref a1), .val (.int (1 : Int32)), .val (.int (σ.1 (0 : Int32))), .val (.int (1 : Int32))] [(.int (2 : Int32))])) _
        refine XS.iconst X52.here hx rfl (hb hby d9_88) ?_
        show Steps p.tables e below (T52.setTop (mkF m 89 #[.val (.ref a1), .val (.int (1 : Int32)), .val (.int (σ.1 (0 : Int32))), .val (.int (1 : Int32))] [(.int (1 : Int32)), (.int (2 : Int32))])) _
        refine XS.iadd X52.here hx rfl (hb hby d9_89) rfl ?_
        show Steps p.tables e below (T52.setTop (mkF m 90 #[.val (.ref a1), .val (.int (1 : Int32)), .val (.int (σ.1 (0 : Int32))), .val (.int (1 : Int32))] [(.int (3 : Int32))])) _
        refine XS.istoreN X52.here hx rfl (hb hby d9_90) rfl (l' := #[.val (.ref a1), .val (.int (1 : Int32)), .val (.int (σ.1 (0 : Int32))), .val (.int (3 : Int32))]) rfl ?_
        show Steps p.tables e below (T52.setTop (mkF m 91 #[.val (.ref a1), .val (.int (1 : Int32)), .val (.int (σ.1 (0 : Int32))), .val (.int (3 : Int32))] [])) _
        refine XS.goto X52.here hx rfl (pc0 := 91) (pc' := 13) rfl (hb hby d9_91) (by decide) (by decide) ?_
        show Steps p.tables e below (T52.setTop (mkF m 13 #[.val (.ref a1), .val (.int (1 : Int32)), .val (.int (σ.1 (0 : Int32))), .val (.int (3 : Int32))] [])) _
        refine XS.iloadN X52.here hx rfl (hb hby d9_13) rfl ?_
        show Steps p.tables e below (T52.setTop (mkF m 14 #[.val (.ref a1), .val (.int (1 : Int32)), .val (.int (σ.1 (0 : Int32))), .val (.int (3 : Int32))] [(.int (3 : Int32))])) _
        refine XS.aloadN X52.here hx rfl (hb hby d9_14) rfl rfl ?_
        show Steps p.tables e below (T52.setTop (mkF m 15 #[.val (.ref a1), .val (.int (1 : Int32)), .val (.int (σ.1 (0 : Int32))), .val (.int (3 : Int32))] [(.ref a1), (.int (3 : Int32))])) _
        exact k
      obtain ⟨T63, X63, e63, st63⟩ := getF X52 hx hZ hown (host := "") (Or.inl (hw _ (List.mem_of_getElem? (i := 26) rfl))) Via.refl rfl f57 (g := (mkF m 15 #[.val (.ref a1), .val (.int (1 : Int32)), .val (.int (σ.1 (0 : Int32))), .val (.int (3 : Int32))] [(.ref a1), (.int (3 : Int32))])) rfl rfl (hb hby d9_15)
      have go64 : Goes p e below s₁ (entryFrame m #[(.ref a1), (.int (0 : Int32))] 4) T63 (mkF m 18 #[.val (.ref a1), .val (.int (1 : Int32)), .val (.int (σ.1 (0 : Int32))), .val (.int (3 : Int32))] [(.int (3 : Int32)), (.int (3 : Int32))]) := fun t k => go62 t (st63 t k)
      have go65 : Goes p e below s₁ (entryFrame m #[(.ref a1), (.int (0 : Int32))] 4) T63 (mkF m 97 #[.val (.ref a1), .val (.int (1 : Int32)), .val (.int (σ.1 (0 : Int32))), .val (.int (3 : Int32))] [(.int (1 : Int32)), (.int (σ.1 (0 : Int32))), (.ref a1)]) := fun t k => by
        refine go64 t ?_
        refine XS.icmpYes X63.here hx rfl (pc0 := 18) (pc' := 94) rfl (hb hby d9_18) rfl (Jvm.Free.XT.ii_ge_t (by decide)) (by decide) (by decide) ?_
        show Steps p.tables e below (T63.setTop (mkF m 94 #[.val (.ref a1), .val (.int (1 : Int32)), .val (.int (σ.1 (0 : Int32))), .val (.int (3 : Int32))] [])) _
        refine XS.aloadN X63.here hx rfl (hb hby d9_94) rfl rfl ?_
        show Steps p.tables e below (T63.setTop (mkF m 95 #[.val (.ref a1), .val (.int (1 : Int32)), .val (.int (σ.1 (0 : Int32))), .val (.int (3 : Int32))] [(.ref a1)])) _
        refine XS.iloadN X63.here hx rfl (hb hby d9_95) rfl ?_
        show Steps p.tables e below (T63.setTop (mkF m 96 #[.val (.ref a1), .val (.int (1 : Int32)), .val (.int (σ.1 (0 : Int32))), .val (.int (3 : Int32))] [(.int (σ.1 (0 : Int32))), (.ref a1)])) _
        refine XS.iloadN X63.here hx rfl (hb hby d9_96) rfl ?_
        show Steps p.tables e below (T63.setTop (mkF m 97 #[.val (.ref a1), .val (.int (1 : Int32)), .val (.int (σ.1 (0 : Int32))), .val (.int (3 : Int32))] [(.int (1 : Int32)), (.int (σ.1 (0 : Int32))), (.ref a1)])) _
        exact k
      obtain ⟨cq66, q66a, q66b⟩ := f53.cell
      obtain ⟨_, _, ⟨T66, L66, k66, n66⟩, -, X66, ⟨Lc66, hQ66, l66, y66, z66⟩, st66⟩ := X63.privateBack hx (y := (⟨"com/example/covermesh/covermesh/algorithms/IndexedMinHeap", "move", "(II)V"⟩ : MethodName)) hown (mvT hZ (hw _ (List.mem_of_getElem? (i := 41) rfl))) (mvT hZ (hw _ (List.mem_of_getElem? (i := 42) rfl))) (own_selp (y := (⟨"com/example/covermesh/covermesh/algorithms/IndexedMinHeap", "move", "(II)V"⟩ : MethodName)) (by decide) (mvT hZ (hw _ (List.mem_of_getElem? (i := 1) rfl))) (mvP hZ (hw _ (List.mem_of_getElem? (i := 43) rfl))) (mvT hZ (hw _ (List.mem_of_getElem? (i := 42) rfl)))) (Cond.privateMethod_at (mvP hZ (hw _ (List.mem_of_getElem? (i := 43) rfl)) (args := #[]))) (mvT hZ (hw _ (List.mem_of_getElem? (i := 44) rfl))) (by decide) (backOf (W := 0) (rmMv l Z a0 hw [] a1 (σ.1 (0 : Int32)) (1 : Int32) aI aP ki kp (own_mv σ (σ.1 (1 : Int32)) (0 : Int32)) T52.heap n0 Z59 f55 f56 VIq52 VPq52 nIP gI gP R0 own_R1 nAI nAP) hZ (hw _ (List.mem_of_getElem? (i := 44) rfl)) (hw _ (List.mem_of_getElem? (i := 2) rfl)) (by decide) (by decide)) (g := (mkF m 97 #[.val (.ref a1), .val (.int (1 : Int32)), .val (.int (σ.1 (0 : Int32))), .val (.int (3 : Int32))] [(.int (1 : Int32)), (.int (σ.1 (0 : Int32))), (.ref a1)])) rfl (by rw [hml]; rfl) (Steps.refl _) (a := a1) (by rw [e63]; exact q66a) q66b (argsL := [(.int (σ.1 (0 : Int32))), (.int (1 : Int32))]) (rest := []) (lenOf pd_0 rfl) rfl (by show 2 * 0 + _ ≤ _; exact Nat.le_of_eq rfl) (hb hby d9_97) (fun _ _ => ⟨rfl, e63, (by decide : 0 + 0 ≤ ({ frames := 1, cells := 0, slots := 0, locals := 14 } : Room).cells), (by decide : 0 + 0 ≤ ({ frames := 1, cells := 0, slots := 0, locals := 14 } : Room).slots)⟩)
      dsimp only [Pt.U, Pt.locs, Pt.cells, Pt.slots] at X66 l66 y66 z66 st66 hQ66
      subst l66 y66 z66
      obtain ⟨rfl, N66q, Kq66, VIq66, VPq66⟩ := hQ66
      have N66 := Fr.app N52 N66q
      have f67 := f53.keep Kq66
      have f68 := f54.keep Kq66 (ninS nAI (ninS nAP nin0))
      have f69 := f55.keep Kq66 (ninS nAI (ninS nAP nin0))
      have f70 := f56.keep Kq66 (ninS nAI (ninS nAP nin0))
      have f71 := f57.keep Kq66 (ninS nAI (ninS nAP nin0))
      have f72 := f58.keep Kq66 (ninS nKI (ninS nKP nin0))
      have Z73 := Nat.le_trans Z59 Kq66.1
      have K74 := K60.trans Kq66 (allS (Or.inl (List.mem_of_getElem? (i := 0) rfl)) (allS (Or.inl (List.mem_of_getElem? (i := 1) rfl)) all0))
      have go75 : Goes p e below s₁ (entryFrame m #[(.ref a1), (.int (0 : Int32))] 4) T66 (mkF m 100 #[.val (.ref a1), .val (.int (1 : Int32)), .val (.int (σ.1 (0 : Int32))), .val (.int (3 : Int32))] []) := fun t k => go65 t (st66.trans k)
      obtain ⟨fs, hr, hrun, hended, hW, hsame⟩ := X66.leave (v := none) (fun _ => rfl)
      have hdn : own_dn kf σ (0 : Int32) (3 : Int32) = (own_mv (own_mv σ (σ.1 (1 : Int32)) (0 : Int32)) (σ.1 (0 : Int32)) (1 : Int32)) := by simp [own_dn, own_ch, hc25, hc34]
      refine ⟨_, _, go75 _ ?_, hrun, hended, _, _, rfl, ?_, ⟨_, rfl⟩, hW, hsame.mono (by decide) (by decide)⟩
      · exact X66.returnOut hx Bd.returns (hb hby d9_100) hr
      · show QD03 Z _ _ _ _ _ _ _ _ _ _ _ _ T66.heap _
        exact ⟨rfl, N66, K74, by rw [hdn]; exact VIq66, by rw [hdn]; exact VPq66⟩
  · have go76 : Goes p e below s₁ (entryFrame m #[(.ref a1), (.int (0 : Int32))] 4) T23 (mkF m 57 #[.val (.ref a1), .val (.int (0 : Int32)), .val (.int (σ.1 (0 : Int32))), .val (.int (2 : Int32))] [(.ref a1), (.ref a1)]) := fun t k => by
      refine go24 t ?_
      refine XS.ifNo X23.here hx rfl (hb hby d9_49) rfl (Jvm.Free.XT.i0_eq_f hc25) ?_
      show Steps p.tables e below (T23.setTop (mkF m 52 #[.val (.ref a1), .val (.int (0 : Int32)), .val (.int (σ.1 (0 : Int32))), .val (.int (1 : Int32))] [])) _
      refine XS.iinc X23.here hx rfl (hb hby d9_52) rfl (l' := #[.val (.ref a1), .val (.int (0 : Int32)), .val (.int (σ.1 (0 : Int32))), .val (.int (2 : Int32))]) rfl ?_
      show Steps p.tables e below (T23.setTop (mkF m 55 #[.val (.ref a1), .val (.int (0 : Int32)), .val (.int (σ.1 (0 : Int32))), .val (.int (2 : Int32))] [])) _
      refine XS.aloadN X23.here hx rfl (hb hby d9_55) rfl rfl ?_
      show Steps p.tables e below (T23.setTop (mkF m 56 #[.val (.ref a1), .val (.int (0 : Int32)), .val (.int (σ.1 (0 : Int32))), .val (.int (2 : Int32))] [(.ref a1)])) _
      refine XS.aloadN X23.here hx rfl (hb hby d9_56) rfl rfl ?_
      show Steps p.tables e below (T23.setTop (mkF m 57 #[.val (.ref a1), .val (.int (0 : Int32)), .val (.int (σ.1 (0 : Int32))), .val (.int (2 : Int32))] [(.ref a1), (.ref a1)])) _
      exact k
    obtain ⟨T77, X77, e77, st77⟩ := getF X23 hx hZ hown (host := "") (Or.inl (hw _ (List.mem_of_getElem? (i := 13) rfl))) Via.refl e23 FI (g := (mkF m 57 #[.val (.ref a1), .val (.int (0 : Int32)), .val (.int (σ.1 (0 : Int32))), .val (.int (2 : Int32))] [(.ref a1), (.ref a1)])) rfl rfl (hb hby d9_57)
    have go78 : Goes p e below s₁ (entryFrame m #[(.ref a1), (.int (0 : Int32))] 4) T77 (mkF m 60 #[.val (.ref a1), .val (.int (0 : Int32)), .val (.int (σ.1 (0 : Int32))), .val (.int (2 : Int32))] [(.ref aI), (.ref a1)]) := fun t k => go76 t (st77 t k)
    have go79 : Goes p e below s₁ (entryFrame m #[(.ref a1), (.int (0 : Int32))] 4) T77 (mkF m 61 #[.val (.ref a1), .val (.int (0 : Int32)), .val (.int (σ.1 (0 : Int32))), .val (.int (2 : Int32))] [(.int (2 : Int32)), (.ref aI), (.ref a1)]) := fun t k => by
      refine go78 t ?_
      refine XS.iloadN X77.here hx rfl (hb hby d9_60) rfl ?_
      show Steps p.tables e below (T77.setTop (mkF m 61 #[.val (.ref a1), .val (.int (0 : Int32)), .val (.int (σ.1 (0 : Int32))), .val (.int (2 : Int32))] [(.int (2 : Int32)), (.ref aI), (.ref a1)])) _
      exact k
    obtain ⟨cl80, Ar80, kq80, Sz80, Nn80, Hs80, Gf80⟩ := id (VI)
    have hin80 : ¬ ((2 : Int32) < 0 ∨ cl80.slots.size ≤ ((2 : Int32)).toNatClampNeg) := inb_of Sz80 (own_inb own_R2)
    have hat80 : cl80.slots[((2 : Int32)).toNatClampNeg]? = some (.int (σ.1 (2 : Int32))) := Has.at Hs80 hin80 (own_l_at own_R2)
    have go81 : Goes p e below s₁ (entryFrame m #[(.ref a1), (.int (0 : Int32))] 4) T77 (mkF m 63 #[.val (.ref a1), .val (.int (0 : Int32)), .val (.int (σ.1 (0 : Int32))), .val (.int (2 : Int32))] [(.int (σ.1 (0 : Int32))), (.int (σ.1 (2 : Int32))), (.ref a1)]) := fun t k => by
      refine go79 t ?_
      refine X77.iaload hx (j := (2 : Int32)) (v := (.int (σ.1 (2 : Int32)))) (own_hp e77 Ar80.1) (State.isArrayOf_alike hZ.alike Ar80.2.1) Ar80.2.2 hin80 hat80 (g := (mkF m 61 #[.val (.ref a1), .val (.int (0 : Int32)), .val (.int (σ.1 (0 : Int32))), .val (.int (2 : Int32))] [(.int (2 : Int32)), (.ref aI), (.ref a1)])) rfl rfl (hb hby d9_61) _ ?_
      show Steps p.tables e below (T77.setTop (mkF m 62 #[.val (.ref a1), .val (.int (0 : Int32)), .val (.int (σ.1 (0 : Int32))), .val (.int (2 : Int32))] [(.int (σ.1 (2 : Int32))), (.ref a1)])) _
      refine XS.iloadN X77.here hx rfl (hb hby d9_62) rfl ?_
      show Steps p.tables e below (T77.setTop (mkF m 63 #[.val (.ref a1), .val (.int (0 : Int32)), .val (.int (σ.1 (0 : Int32))), .val (.int (2 : Int32))] [(.int (σ.1 (0 : Int32))), (.int (σ.1 (2 : Int32))), (.ref a1)])) _
      exact k
    obtain ⟨cq82, q82a, q82b⟩ := E1.cell
    obtain ⟨_, _, ⟨T82, L82, k82, n82⟩, -, X82, ⟨Lc82, hQ82, l82, y82, z82⟩, st82⟩ := X77.privateBack hx (y := (⟨"com/example/covermesh/covermesh/algorithms/IndexedMinHeap", "less", "(II)Z"⟩ : MethodName)) hown (mvT hZ (hw _ (List.mem_of_getElem? (i := 49) rfl))) (mvT hZ (hw _ (List.mem_of_getElem? (i := 50) rfl))) (own_selp (y := (⟨"com/example/covermesh/covermesh/algorithms/IndexedMinHeap", "less", "(II)Z"⟩ : MethodName)) (by decide) (mvT hZ (hw _ (List.mem_of_getElem? (i := 1) rfl))) (mvP hZ (hw _ (List.mem_of_getElem? (i := 51) rfl))) (mvT hZ (hw _ (List.mem_of_getElem? (i := 50) rfl)))) (Cond.privateMethod_at (mvP hZ (hw _ (List.mem_of_getElem? (i := 51) rfl)) (args := #[]))) (mvT hZ (hw _ (List.mem_of_getElem? (i := 52) rfl))) (by decide) (backOf (W := 0) (rmLe l Z a0 hw [] a1 (σ.1 (2 : Int32)) (σ.1 (0 : Int32)) aK kk kf h0 n0 Z0 FK VK R2 R0) hZ (hw _ (List.mem_of_getElem? (i := 52) rfl)) (hw _ (List.mem_of_getElem? (i := 2) rfl)) (by decide) (by decide)) (g := (mkF m 63 #[.val (.ref a1), .val (.int (0 : Int32)), .val (.int (σ.1 (0 : Int32))), .val (.int (2 : Int32))] [(.int (σ.1 (0 : Int32))), (.int (σ.1 (2 : Int32))), (.ref a1)])) rfl (by rw [hml]; rfl) (Steps.refl _) (a := a1) (by rw [e77]; exact q82a) q82b (argsL := [(.int (σ.1 (2 : Int32))), (.int (σ.1 (0 : Int32)))]) (rest := []) (lenOf pd_1 rfl) rfl (by show 2 * 0 + _ ≤ _; exact Nat.le_of_eq rfl) (hb hby d9_63) (fun _ _ => ⟨rfl, e77, (by decide : 0 + 0 ≤ ({ frames := 1, cells := 0, slots := 0, locals := 14 } : Room).cells), (by decide : 0 + 0 ≤ ({ frames := 1, cells := 0, slots := 0, locals := 14 } : Room).slots)⟩)
    dsimp only [Pt.U, Pt.locs, Pt.cells, Pt.slots] at X82 l82 y82 z82 st82 hQ82
    subst l82 y82 z82
    obtain ⟨rfl, N82q, e82⟩ := hQ82
    have N82 := Fr.app N23 N82q
    have go83 : Goes p e below s₁ (entryFrame m #[(.ref a1), (.int (0 : Int32))] 4) T82 (mkF m 66 #[.val (.ref a1), .val (.int (0 : Int32)), .val (.int (σ.1 (0 : Int32))), .val (.int (2 : Int32))] [(.int (own_less kf (σ.1 (2 : Int32)) (σ.1 (0 : Int32))))]) := fun t k => go81 t (st82.trans k)
    by_cases hc84 : (own_less kf (σ.1 (2 : Int32)) (σ.1 (0 : Int32))) = (0 : Int32)
    · have go85 : Goes p e below s₁ (entryFrame m #[(.ref a1), (.int (0 : Int32))] 4) T82 (mkF m 97 #[.val (.ref a1), .val (.int (0 : Int32)), .val (.int (σ.1 (0 : Int32))), .val (.int (2 : Int32))] [(.int (0 : Int32)), (.int (σ.1 (0 : Int32))), (.ref a1)]) := fun t k => by
        refine go83 t ?_
        refine XS.ifNo X82.here hx rfl (hb hby d9_66) rfl (Jvm.Free.XT.i0_ne_f hc84) ?_
        show Steps p.tables e below (T82.setTop (mkF m 69 #[.val (.ref a1), .val (.int (0 : Int32)), .val (.int (σ.1 (0 : Int32))), .val (.int (2 : Int32))] [])) _
        refine XS.goto X82.here hx rfl (pc0 := 69) (pc' := 94) rfl (hb hby d9_69) (by decide) (by decide) ?_
        show Steps p.tables e below (T82.setTop (mkF m 94 #[.val (.ref a1), .val (.int (0 : Int32)), .val (.int (σ.1 (0 : Int32))), .val (.int (2 : Int32))] [])) _
        refine XS.aloadN X82.here hx rfl (hb hby d9_94) rfl rfl ?_
        show Steps p.tables e below (T82.setTop (mkF m 95 #[.val (.ref a1), .val (.int (0 : Int32)), .val (.int (σ.1 (0 : Int32))), .val (.int (2 : Int32))] [(.ref a1)])) _
        refine XS.iloadN X82.here hx rfl (hb hby d9_95) rfl ?_
        show Steps p.tables e below (T82.setTop (mkF m 96 #[.val (.ref a1), .val (.int (0 : Int32)), .val (.int (σ.1 (0 : Int32))), .val (.int (2 : Int32))] [(.int (σ.1 (0 : Int32))), (.ref a1)])) _
        refine XS.iloadN X82.here hx rfl (hb hby d9_96) rfl ?_
        show Steps p.tables e below (T82.setTop (mkF m 97 #[.val (.ref a1), .val (.int (0 : Int32)), .val (.int (σ.1 (0 : Int32))), .val (.int (2 : Int32))] [(.int (0 : Int32)), (.int (σ.1 (0 : Int32))), (.ref a1)])) _
        exact k
      obtain ⟨cq86, q86a, q86b⟩ := E1.cell
      obtain ⟨_, _, ⟨T86, L86, k86, n86⟩, -, X86, ⟨Lc86, hQ86, l86, y86, z86⟩, st86⟩ := X82.privateBack hx (y := (⟨"com/example/covermesh/covermesh/algorithms/IndexedMinHeap", "move", "(II)V"⟩ : MethodName)) hown (mvT hZ (hw _ (List.mem_of_getElem? (i := 41) rfl))) (mvT hZ (hw _ (List.mem_of_getElem? (i := 42) rfl))) (own_selp (y := (⟨"com/example/covermesh/covermesh/algorithms/IndexedMinHeap", "move", "(II)V"⟩ : MethodName)) (by decide) (mvT hZ (hw _ (List.mem_of_getElem? (i := 1) rfl))) (mvP hZ (hw _ (List.mem_of_getElem? (i := 43) rfl))) (mvT hZ (hw _ (List.mem_of_getElem? (i := 42) rfl)))) (Cond.privateMethod_at (mvP hZ (hw _ (List.mem_of_getElem? (i := 43) rfl)) (args := #[]))) (mvT hZ (hw _ (List.mem_of_getElem? (i := 44) rfl))) (by decide) (backOf (W := 0) (rmMv l Z a0 hw [] a1 (σ.1 (0 : Int32)) (0 : Int32) aI aP ki kp σ h0 n0 Z0 FI FP VI VP nIP gI gP R0 own_R0 nAI nAP) hZ (hw _ (List.mem_of_getElem? (i := 44) rfl)) (hw _ (List.mem_of_getElem? (i := 2) rfl)) (by decide) (by decide)) (g := (mkF m 97 #[.val (.ref a1), .val (.int (0 : Int32)), .val (.int (σ.1 (0 : Int32))), .val (.int (2 : Int32))] [(.int (0 : Int32)), (.int (σ.1 (0 : Int32))), (.ref a1)])) rfl (by rw [hml]; rfl) (Steps.refl _) (a := a1) (by rw [e82]; exact q86a) q86b (argsL := [(.int (σ.1 (0 : Int32))), (.int (0 : Int32))]) (rest := []) (lenOf pd_0 rfl) rfl (by show 2 * 0 + _ ≤ _; exact Nat.le_of_eq rfl) (hb hby d9_97) (fun _ _ => ⟨rfl, e82, (by decide : 0 + 0 ≤ ({ frames := 1, cells := 0, slots := 0, locals := 14 } : Room).cells), (by decide : 0 + 0 ≤ ({ frames := 1, cells := 0, slots := 0, locals := 14 } : Room).slots)⟩)
      dsimp only [Pt.U, Pt.locs, Pt.cells, Pt.slots] at X86 l86 y86 z86 st86 hQ86
      subst l86 y86 z86
      obtain ⟨rfl, N86q, Kq86, VIq86, VPq86⟩ := hQ86
      have N86 := Fr.app N82 N86q
      have f87 := E1.keep Kq86
      have f88 := FK.keep Kq86 (ninS nAI (ninS nAP nin0))
      have f89 := FI.keep Kq86 (ninS nAI (ninS nAP nin0))
      have f90 := FP.keep Kq86 (ninS nAI (ninS nAP nin0))
      have f91 := FS.keep Kq86 (ninS nAI (ninS nAP nin0))
      have f92 := VK.keep Kq86 (ninS nKI (ninS nKP nin0))
      have Z93 := Nat.le_trans Z0 Kq86.1
      have K94 := K0.trans Kq86 (allS (Or.inl (List.mem_of_getElem? (i := 0) rfl)) (allS (Or.inl (List.mem_of_getElem? (i := 1) rfl)) all0))
      have go95 : Goes p e below s₁ (entryFrame m #[(.ref a1), (.int (0 : Int32))] 4) T86 (mkF m 100 #[.val (.ref a1), .val (.int (0 : Int32)), .val (.int (σ.1 (0 : Int32))), .val (.int (2 : Int32))] []) := fun t k => go85 t (st86.trans k)
      obtain ⟨fs, hr, hrun, hended, hW, hsame⟩ := X86.leave (v := none) (fun _ => rfl)
      have hdn : own_dn kf σ (0 : Int32) (3 : Int32) = (own_mv σ (σ.1 (0 : Int32)) (0 : Int32)) := by simp [own_dn, own_ch, hc25, hc84]
      refine ⟨_, _, go95 _ ?_, hrun, hended, _, _, rfl, ?_, ⟨_, rfl⟩, hW, hsame.mono (by decide) (by decide)⟩
      · exact X86.returnOut hx Bd.returns (hb hby d9_100) hr
      · show QD03 Z _ _ _ _ _ _ _ _ _ _ _ _ T86.heap _
        exact ⟨rfl, N86, K94, by rw [hdn]; exact VIq86, by rw [hdn]; exact VPq86⟩
    · have go96 : Goes p e below s₁ (entryFrame m #[(.ref a1), (.int (0 : Int32))] 4) T82 (mkF m 74 #[.val (.ref a1), .val (.int (0 : Int32)), .val (.int (σ.1 (0 : Int32))), .val (.int (2 : Int32))] [(.ref a1), (.ref a1)]) := fun t k => by
        refine go83 t ?_
        refine XS.ifYes X82.here hx rfl (pc0 := 66) (pc' := 72) rfl (hb hby d9_66) rfl (Jvm.Free.XT.i0_ne_t hc84) (by decide) (by decide) ?_
        show Steps p.tables e below (T82.setTop (mkF m 72 #[.val (.ref a1), .val (.int (0 : Int32)), .val (.int (σ.1 (0 : Int32))), .val (.int (2 : Int32))] [])) _
        refine XS.aloadN X82.here hx rfl (hb hby d9_72) rfl rfl ?_
        show Steps p.tables e below (T82.setTop (mkF m 73 #[.val (.ref a1), .val (.int (0 : Int32)), .val (.int (σ.1 (0 : Int32))), .val (.int (2 : Int32))] [(.ref a1)])) _
        refine XS.aloadN X82.here hx rfl (hb hby d9_73) rfl rfl ?_
        show Steps p.tables e below (T82.setTop (mkF m 74 #[.val (.ref a1), .val (.int (0 : Int32)), .val (.int (σ.1 (0 : Int32))), .val (.int (2 : Int32))] [(.ref a1), (.ref a1)])) _
        exact k
      obtain ⟨T97, X97, e97, st97⟩ := getF X82 hx hZ hown (host := "") (Or.inl (hw _ (List.mem_of_getElem? (i := 13) rfl))) Via.refl e82 FI (g := (mkF m 74 #[.val (.ref a1), .val (.int (0 : Int32)), .val (.int (σ.1 (0 : Int32))), .val (.int (2 : Int32))] [(.ref a1), (.ref a1)])) rfl rfl (hb hby d9_74)
      have go98 : Goes p e below s₁ (entryFrame m #[(.ref a1), (.int (0 : Int32))] 4) T97 (mkF m 77 #[.val (.ref a1), .val (.int (0 : Int32)), .val (.int (σ.1 (0 : Int32))), .val (.int (2 : Int32))] [(.ref aI), (.ref a1)]) := fun t k => go96 t (st97 t k)
      have go99 : Goes p e below s₁ (entryFrame m #[(.ref a1), (.int (0 : Int32))] 4) T97 (mkF m 78 #[.val (.ref a1), .val (.int (0 : Int32)), .val (.int (σ.1 (0 : Int32))), .val (.int (2 : Int32))] [(.int (2 : Int32)), (.ref aI), (.ref a1)]) := fun t k => by
        refine go98 t ?_
        refine XS.iloadN X97.here hx rfl (hb hby d9_77) rfl ?_
        show Steps p.tables e below (T97.setTop (mkF m 78 #[.val (.ref a1), .val (.int (0 : Int32)), .val (.int (σ.1 (0 : Int32))), .val (.int (2 : Int32))] [(.int (2 : Int32)), (.ref aI), (.ref a1)])) _
        exact k
      obtain ⟨cl100, Ar100, kq100, Sz100, Nn100, Hs100, Gf100⟩ := id (VI)
      have hin100 : ¬ ((2 : Int32) < 0 ∨ cl100.slots.size ≤ ((2 : Int32)).toNatClampNeg) := inb_of Sz100 (own_inb own_R2)
      have hat100 : cl100.slots[((2 : Int32)).toNatClampNeg]? = some (.int (σ.1 (2 : Int32))) := Has.at Hs100 hin100 (own_l_at own_R2)
      have go101 : Goes p e below s₁ (entryFrame m #[(.ref a1), (.int (0 : Int32))] 4) T97 (mkF m 80 #[.val (.ref a1), .val (.int (0 : Int32)), .val (.int (σ.1 (0 : Int32))), .val (.int (2 : Int32))] [(.int (0 : Int32)), (.int (σ.1 (2 : Int32))), (.ref a1)]) := fun t k => by
        refine go99 t ?_
        refine X97.iaload hx (j := (2 : Int32)) (v := (.int (σ.1 (2 : Int32)))) (own_hp e97 Ar100.1) (State.isArrayOf_alike hZ.alike Ar100.2.1) Ar100.2.2 hin100 hat100 (g := (mkF m 78 #[.val (.ref a1), .val (.int (0 : Int32)), .val (.int (σ.1 (0 : Int32))), .val (.int (2 : Int32))] [(.int (2 : Int32)), (.ref aI), (.ref a1)])) rfl rfl (hb hby d9_78) _ ?_
        show Steps p.tables e below (T97.setTop (mkF m 79 #[.val (.ref a1), .val (.int (0 : Int32)), .val (.int (σ.1 (0 : Int32))), .val (.int (2 : Int32))] [(.int (σ.1 (2 : Int32))), (.ref a1)])) _
        refine XS.iloadN X97.here hx rfl (hb hby d9_79) rfl ?_
        show Steps p.tables e below (T97.setTop (mkF m 80 #[.val (.ref a1), .val (.int (0 : Int32)), .val (.int (σ.1 (0 : Int32))), .val (.int (2 : Int32))] [(.int (0 : Int32)), (.int (σ.1 (2 : Int32))), (.ref a1)])) _
        exact k
      obtain ⟨cq102, q102a, q102b⟩ := E1.cell
      obtain ⟨_, _, ⟨T102, L102, k102, n102⟩, -, X102, ⟨Lc102, hQ102, l102, y102, z102⟩, st102⟩ := X97.privateBack hx (y := (⟨"com/example/covermesh/covermesh/algorithms/IndexedMinHeap", "move", "(II)V"⟩ : MethodName)) hown (mvT hZ (hw _ (List.mem_of_getElem? (i := 41) rfl))) (mvT hZ (hw _ (List.mem_of_getElem? (i := 42) rfl))) (own_selp (y := (⟨"com/example/covermesh/covermesh/algorithms/IndexedMinHeap", "move", "(II)V"⟩ : MethodName)) (by decide) (mvT hZ (hw _ (List.mem_of_getElem? (i := 1) rfl))) (mvP hZ (hw _ (List.mem_of_getElem? (i := 43) rfl))) (mvT hZ (hw _ (List.mem_of_getElem? (i := 42) rfl)))) (Cond.privateMethod_at (mvP hZ (hw _ (List.mem_of_getElem? (i := 43) rfl)) (args := #[]))) (mvT hZ (hw _ (List.mem_of_getElem? (i := 44) rfl))) (by decide) (backOf (W := 0) (rmMv l Z a0 hw [] a1 (σ.1 (2 : Int32)) (0 : Int32) aI aP ki kp σ h0 n0 Z0 FI FP VI VP nIP gI gP R2 own_R0 nAI nAP) hZ (hw _ (List.mem_of_getElem? (i := 44) rfl)) (hw _ (List.mem_of_getElem? (i := 2) rfl)) (by decide) (by decide)) (g := (mkF m 80 #[.val (.ref a1), .val (.int (0 : Int32)), .val (.int (σ.1 (0 : Int32))), .val (.int (2 : Int32))] [(.int (0 : Int32)), (.int (σ.1 (2 : Int32))), (.ref a1)])) rfl (by rw [hml]; rfl) (Steps.refl _) (a := a1) (by rw [e97]; exact q102a) q102b (argsL := [(.int (σ.1 (2 : Int32))), (.int (0 : Int32))]) (rest := []) (lenOf pd_0 rfl) rfl (by show 2 * 0 + _ ≤ _; exact Nat.le_of_eq rfl) (hb hby d9_80) (fun _ _ => ⟨rfl, e97, (by decide : 0 + 0 ≤ ({ frames := 1, cells := 0, slots := 0, locals := 14 } : Room).cells), (by decide : 0 + 0 ≤ ({ frames := 1, cells := 0, slots := 0, locals := 14 } : Room).slots)⟩)
      dsimp only [Pt.U, Pt.locs, Pt.cells, Pt.slots] at X102 l102 y102 z102 st102 hQ102
      subst l102 y102 z102
      obtain ⟨rfl, N102q, Kq102, VIq102, VPq102⟩ := hQ102
      have N102 := Fr.app N82 N102q
      have f103 := E1.keep Kq102
      have f104 := FK.keep Kq102 (ninS nAI (ninS nAP nin0))
      have f105 := FI.keep Kq102 (ninS nAI (ninS nAP nin0))
      have f106 := FP.keep Kq102 (ninS nAI (ninS nAP nin0))
      have f107 := FS.keep Kq102 (ninS nAI (ninS nAP nin0))
      have f108 := VK.keep Kq102 (ninS nKI (ninS nKP nin0))
      have Z109 := Nat.le_trans Z0 Kq102.1
      have K110 := K0.trans Kq102 (allS (Or.inl (List.mem_of_getElem? (i := 0) rfl)) (allS (Or.inl (List.mem_of_getElem? (i := 1) rfl)) all0))
      have go111 : Goes p e below s₁ (entryFrame m #[(.ref a1), (.int (0 : Int32))] 4) T102 (mkF m 83 #[.val (.ref a1), .val (.int (0 : Int32)), .val (.int (σ.1 (0 : Int32))), .val (.int (2 : Int32))] []) := fun t k => go101 t (st102.trans k)
      have go112 : Goes p e below s₁ (entryFrame m #[(.ref a1), (.int (0 : Int32))] 4) T102 (mkF m 15 #[.val (.ref a1), .val (.int (2 : Int32)), .val (.int (σ.1 (0 : Int32))), .val (.int (5 : Int32))] [(.ref a1), (.int (5 : Int32))]) := fun t k => by
        refine go111 t ?_
        refine XS.iloadN X102.here hx rfl (hb hby d9_83) rfl ?_
        show Steps p.tables e below (T102.setTop (mkF m 84 #[.val (.ref a1), .val (.int (0 : Int32)), .val (.int (σ.1 (0 : Int32))), .val (.int (2 : Int32))] [(.int (2 : Int32))])) _
        refine XS.istoreN X102.here hx rfl (hb hby d9_84) rfl (l' := #[.val (.ref a1), .val (.int (2 : Int32)), .val (.int (σ.1 (0 : Int32))), .val (.int (2 : Int32))]) rfl ?_
        show Steps p.tables e below (T102.setTop (mkF m 85 #[.val (.ref a1), .val (.int (2 : Int32)), .val (.int (σ.1 (0 : Int32))), .val (.int (2 : Int32))] [])) _
        refine XS.iconst X102.here hx rfl (hb hby d9_85) ?_
        show Steps p.tables e below (T102.setTop (mkF m 86 #[.val (.ref a1), .val (.int (2 : Int32)), .val (.int (σ.1 (0 : Int32))), .val (.int (2 : Int32))] [(.int (2 : Int32))])) _
        refine XS.iloadN X102.here hx rfl (hb hby d9_86) rfl ?_
        show Steps p.tables e below (T102.setTop (mkF m 87 #[.val (.ref a1), .val (.int (2 : Int32)), .val (.int (σ.1 (0 : Int32))), .val (.int (2 : Int32))] [(.int (2 : Int32)), (.int (2 : Int32))])) _
        refine XS.imul X102.here hx rfl (hb hby d9_87) rfl ?_
        show Steps p.tables e below (T102.setTop (mkF m 88 #[.val (.ref a1), .val (.int (2 : Int32)), .val (.int (σ.1 (0 : Int32))), .val (.int (2 : Int32))] [(.int (4 : Int32))])) _
        refine XS.iconst X102.here hx rfl (hb hby d9_88) ?_
        show Steps p.tables e below (T102.setTop (mkF m 89 #[.val (.ref a1), .val (.int (2 : Int32)), .val (.int (σ.1 (0 : Int32))), .val (.int (2 : Int32))] [(.int (1 : Int32)), (.int (4 : Int32))])) _
        refine XS.iadd X102.here hx rfl (hb hby d9_89) rfl ?_
        show Steps p.tables e below (T102.setTop (mkF m 90 #[.val (.ref a1), .val (.int (2 : Int32)), .val (.int (σ.1 (0 : Int32))), .val (.int (2 : Int32))] [(.int (5 : Int32))])) _
        refine XS.istoreN X102.here hx rfl (hb hby d9_90) rfl (l' := #[.val (.ref a1), .val (.int (2 : Int32)), .val (.int (σ.1 (0 : Int32))), .val (.int (5 : Int32))]) rfl ?_
        show Steps p.tables e below (T102.setTop (mkF m 91 #[.val (.ref a1), .val (.int (2 : Int32)), .val (.int (σ.1 (0 : Int32))), .val (.int (5 : Int32))] [])) _
        refine XS.goto X102.here hx rfl (pc0 := 91) (pc' := 13) rfl (hb hby d9_91) (by decide) (by decide) ?_
        show Steps p.tables e below (T102.setTop (mkF m 13 #[.val (.ref a1), .val (.int (2 : Int32)), .val (.int (σ.1 (0 : Int32))), .val (.int (5 : Int32))] [])) _
        refine XS.iloadN X102.here hx rfl (hb hby d9_13) rfl ?_
        show Steps p.tables e below (T102.setTop (mkF m 14 #[.val (.ref a1), .val (.int (2 : Int32)), .val (.int (σ.1 (0 : Int32))), .val (.int (5 : Int32))] [(.int (5 : Int32))])) _
        refine XS.aloadN X102.here hx rfl (hb hby d9_14) rfl rfl ?_
        show Steps p.tables e below (T102.setTop (mkF m 15 #[.val (.ref a1), .val (.int (2 : Int32)), .val (.int (σ.1 (0 : Int32))), .val (.int (5 : Int32))] [(.ref a1), (.int (5 : Int32))])) _
        exact k
      obtain ⟨T113, X113, e113, st113⟩ := getF X102 hx hZ hown (host := "") (Or.inl (hw _ (List.mem_of_getElem? (i := 26) rfl))) Via.refl rfl f107 (g := (mkF m 15 #[.val (.ref a1), .val (.int (2 : Int32)), .val (.int (σ.1 (0 : Int32))), .val (.int (5 : Int32))] [(.ref a1), (.int (5 : Int32))])) rfl rfl (hb hby d9_15)
      have go114 : Goes p e below s₁ (entryFrame m #[(.ref a1), (.int (0 : Int32))] 4) T113 (mkF m 18 #[.val (.ref a1), .val (.int (2 : Int32)), .val (.int (σ.1 (0 : Int32))), .val (.int (5 : Int32))] [(.int (3 : Int32)), (.int (5 : Int32))]) := fun t k => go112 t (st113 t k)
      have go115 : Goes p e below s₁ (entryFrame m #[(.ref a1), (.int (0 : Int32))] 4) T113 (mkF m 97 #[.val (.ref a1), .val (.int (2 : Int32)), .val (.int (σ.1 (0 : Int32))), .val (.int (5 : Int32))] [(.int (2 : Int32)), (.int (σ.1 (0 : Int32))), (.ref a1)]) := fun t k => by
        refine go114 t ?_
        refine XS.icmpYes X113.here hx rfl (pc0 := 18) (pc' := 94) rfl (hb hby d9_18) rfl (Jvm.Free.XT.ii_ge_t (by decide)) (by decide) (by decide) ?_
        show Steps p.tables e below (T113.setTop (mkF m 94 #[.val (.ref a1), .val (.int (2 : Int32)), .val (.int (σ.1 (0 : Int32))), .val (.int (5 : Int32))] [])) _
        refine XS.aloadN X113.here hx rfl (hb hby d9_94) rfl rfl ?_
        show Steps p.tables e below (T113.setTop (mkF m 95 #[.val (.ref a1), .val (.int (2 : Int32)), .val (.int (σ.1 (0 : Int32))), .val (.int (5 : Int32))] [(.ref a1)])) _
        refine XS.iloadN X113.here hx rfl (hb hby d9_95) rfl ?_
        show Steps p.tables e below (T113.setTop (mkF m 96 #[.val (.ref a1), .val (.int (2 : Int32)), .val (.int (σ.1 (0 : Int32))), .val (.int (5 : Int32))] [(.int (σ.1 (0 : Int32))), (.ref a1)])) _
        refine XS.iloadN X113.here hx rfl (hb hby d9_96) rfl ?_
        show Steps p.tables e below (T113.setTop (mkF m 97 #[.val (.ref a1), .val (.int (2 : Int32)), .val (.int (σ.1 (0 : Int32))), .val (.int (5 : Int32))] [(.int (2 : Int32)), (.int (σ.1 (0 : Int32))), (.ref a1)])) _
        exact k
      obtain ⟨cq116, q116a, q116b⟩ := f103.cell
      obtain ⟨_, _, ⟨T116, L116, k116, n116⟩, -, X116, ⟨Lc116, hQ116, l116, y116, z116⟩, st116⟩ := X113.privateBack hx (y := (⟨"com/example/covermesh/covermesh/algorithms/IndexedMinHeap", "move", "(II)V"⟩ : MethodName)) hown (mvT hZ (hw _ (List.mem_of_getElem? (i := 41) rfl))) (mvT hZ (hw _ (List.mem_of_getElem? (i := 42) rfl))) (own_selp (y := (⟨"com/example/covermesh/covermesh/algorithms/IndexedMinHeap", "move", "(II)V"⟩ : MethodName)) (by decide) (mvT hZ (hw _ (List.mem_of_getElem? (i := 1) rfl))) (mvP hZ (hw _ (List.mem_of_getElem? (i := 43) rfl))) (mvT hZ (hw _ (List.mem_of_getElem? (i := 42) rfl)))) (Cond.privateMethod_at (mvP hZ (hw _ (List.mem_of_getElem? (i := 43) rfl)) (args := #[]))) (mvT hZ (hw _ (List.mem_of_getElem? (i := 44) rfl))) (by decide) (backOf (W := 0) (rmMv l Z a0 hw [] a1 (σ.1 (0 : Int32)) (2 : Int32) aI aP ki kp (own_mv σ (σ.1 (2 : Int32)) (0 : Int32)) T102.heap n0 Z109 f105 f106 VIq102 VPq102 nIP gI gP R0 own_R2 nAI nAP) hZ (hw _ (List.mem_of_getElem? (i := 44) rfl)) (hw _ (List.mem_of_getElem? (i := 2) rfl)) (by decide) (by decide)) (g := (mkF m 97 #[.val (.ref a1), .val (.int (2 : Int32)), .val (.int (σ.1 (0 : Int32))), .val (.int (5 : Int32))] [(.int (2 : Int32)), (.int (σ.1 (0 : Int32))), (.ref a1)])) rfl (by rw [hml]; rfl) (Steps.refl _) (a := a1) (by rw [e113]; exact q116a) q116b (argsL := [(.int (σ.1 (0 : Int32))), (.int (2 : Int32))]) (rest := []) (lenOf pd_0 rfl) rfl (by show 2 * 0 + _ ≤ _; exact Nat.le_of_eq rfl) (hb hby d9_97) (fun _ _ => ⟨rfl, e113, (by decide : 0 + 0 ≤ ({ frames := 1, cells := 0, slots := 0, locals := 14 } : Room).cells), (by decide : 0 + 0 ≤ ({ frames := 1, cells := 0, slots := 0, locals := 14 } : Room).slots)⟩)
      dsimp only [Pt.U, Pt.locs, Pt.cells, Pt.slots] at X116 l116 y116 z116 st116 hQ116
      subst l116 y116 z116
      obtain ⟨rfl, N116q, Kq116, VIq116, VPq116⟩ := hQ116
      have N116 := Fr.app N102 N116q
      have f117 := f103.keep Kq116
      have f118 := f104.keep Kq116 (ninS nAI (ninS nAP nin0))
      have f119 := f105.keep Kq116 (ninS nAI (ninS nAP nin0))
      have f120 := f106.keep Kq116 (ninS nAI (ninS nAP nin0))
      have f121 := f107.keep Kq116 (ninS nAI (ninS nAP nin0))
      have f122 := f108.keep Kq116 (ninS nKI (ninS nKP nin0))
      have Z123 := Nat.le_trans Z109 Kq116.1
      have K124 := K110.trans Kq116 (allS (Or.inl (List.mem_of_getElem? (i := 0) rfl)) (allS (Or.inl (List.mem_of_getElem? (i := 1) rfl)) all0))
      have go125 : Goes p e below s₁ (entryFrame m #[(.ref a1), (.int (0 : Int32))] 4) T116 (mkF m 100 #[.val (.ref a1), .val (.int (2 : Int32)), .val (.int (σ.1 (0 : Int32))), .val (.int (5 : Int32))] []) := fun t k => go115 t (st116.trans k)
      obtain ⟨fs, hr, hrun, hended, hW, hsame⟩ := X116.leave (v := none) (fun _ => rfl)
      have hdn : own_dn kf σ (0 : Int32) (3 : Int32) = (own_mv (own_mv σ (σ.1 (2 : Int32)) (0 : Int32)) (σ.1 (0 : Int32)) (2 : Int32)) := by simp [own_dn, own_ch, hc25, hc84]
      refine ⟨_, _, go125 _ ?_, hrun, hended, _, _, rfl, ?_, ⟨_, rfl⟩, hW, hsame.mono (by decide) (by decide)⟩
      · exact X116.returnOut hx Bd.returns (hb hby d9_100) hr
      · show QD03 Z _ _ _ _ _ _ _ _ _ _ _ _ T116.heap _
        exact ⟨rfl, N116, K124, by rw [hdn]; exact VIq116, by rw [hdn]; exact VPq116⟩
theorem ef_rmD12 (m : MethodId) (a1 : Addr) : entryFrame m #[(.ref a1), (.int (1 : Int32))] 4 = mkF m 0 #[.val (.ref a1), .val (.int (1 : Int32)), .unset, .unset] [] := by first | (simp [entryFrame, mkF, argsToLocals, Value.category]; done) | rfl
def QD12 (Z : State) (a1 : Addr) (aK aI aP : Addr) (kk ki kp : ClassId) (kf : Int32 → UInt64) (σ : own_P) (h0 : Heap) (n0 : Nat) (v : Option Value) (h : Heap) (L : List Loc) : Prop := v = none ∧ Fr n0 L ∧ Keep h0 h [aI, aP] ∧ Arv Z h aI ki .int 3 (own_l (own_dn kf σ (1 : Int32) (2 : Int32)).1) (.int (0 : Int32)) ∧ Arv Z h aP kp .int 3 (own_l (own_dn kf σ (1 : Int32) (2 : Int32)).2) (.int (0 : Int32))
set_option maxRecDepth 65536 in
set_option maxHeartbeats 40000000 in
theorem rmD12 (l : Launch) (Z : State) (a0 : Array Value) (hw : ∀ d ∈ tables_1, d.before a0 Z = true) (ws : List Jvm.Cond) (a1 : Addr) (aK aI aP : Addr) (kk ki kp : ClassId) (kf : Int32 → UInt64) (σ : own_P) (h0 : Heap) (n0 : Nat) (Z0 : n0 ≤ h0.size) (E1 : Exa Z h0 a1 "com/example/covermesh/covermesh/algorithms/IndexedMinHeap") (FK : Fld Z h0 a1 "com/example/covermesh/covermesh/algorithms/IndexedMinHeap" "keys" "[D" (.ref aK)) (FI : Fld Z h0 a1 "com/example/covermesh/covermesh/algorithms/IndexedMinHeap" "items" "[I" (.ref aI)) (FP : Fld Z h0 a1 "com/example/covermesh/covermesh/algorithms/IndexedMinHeap" "positions" "[I" (.ref aP)) (FS : Fld Z h0 a1 "com/example/covermesh/covermesh/algorithms/IndexedMinHeap" "size" "I" (.int (2 : Int32))) (VK : Arv Z h0 aK kk .double 3 (own_d kf) (.double (0 : UInt64))) (VI : Arv Z h0 aI ki .int 3 (own_l σ.1) (.int (0 : Int32))) (VP : Arv Z h0 aP kp .int 3 (own_l σ.2) (.int (0 : Int32))) (nKI : aK ≠ aI) (nKP : aK ≠ aP) (nIP : aI ≠ aP) (nAK : a1 ≠ aK) (nAI : a1 ≠ aI) (nAP : a1 ≠ aP) (gA : n0 ≤ a1) (gK : n0 ≤ aK) (gI : n0 ≤ aI) (gP : n0 ≤ aP) (R1 : own_R (σ.1 (1 : Int32))) :
    MetFree l (⟨"com/example/covermesh/covermesh/algorithms/IndexedMinHeap", "siftDown", "(I)V"⟩ : MethodName) (head1 (Jvm.Cond.code (⟨"com/example/covermesh/covermesh/algorithms/IndexedMinHeap", "siftDown", "(I)V"⟩ : MethodName) prog_17_method_8_code 4 none :: ws) ({ frames := 1, cells := 0, slots := 0, locals := 14 } : Room)) (fun a U => a = #[(.ref a1), (.int (1 : Int32))] ∧ Z.Warmed39 U.vm ∧ U.heap = h0) (fun _ _ _ _ _ => True) (fun _ U o U' => ∃ v L, o = .returned v ∧ QD12 Z a1 aK aI aP kk ki kp kf σ h0 n0 v U'.heap L ∧ FrameEnd U o U' L ({ frames := 1, cells := 0, slots := 0, locals := 14 } : Room).cells ({ frames := 1, cells := 0, slots := 0, locals := 14 } : Room).slots) := by
  refine MetFree.of_bodySF (plainFor_of_name pn_0) hisR ?_
  intro p e s m args below meth c s₁ Bd hml0 hP hK
  obtain ⟨rfl, hZ, hh⟩ := hP
  have hx := Bd.exec
  have hby := Bd.bytes
  have hml : c.maxLocals = 4 := hml0
  have hown : s.vm.findClass "com/example/covermesh/covermesh/algorithms/IndexedMinHeap" = some m.cls := findClass_of_methodNamed Bd.named
  have hnm := (name_of_methodNamed Bd.named Bd.method).1
  have X0 : Stand p l e ({ frames := 1, cells := 0, slots := 0, locals := 14 } : Room) s m #[(.ref a1), (.int (1 : Int32))] below meth c s₁ [] 0 0 := Stand.of_body Bd
  have e0 : s₁.heap = h0 := by rw [← hh, Bd.state]; rfl
  have N0 := Fr.nil n0
  have K0 := Keep.refl h0 [aI, aP]
  have go0 : Goes p e below s₁ (entryFrame m #[(.ref a1), (.int (1 : Int32))] 4) s₁ (mkF m 0 #[.val (.ref a1), .val (.int (1 : Int32)), .unset, .unset] []) := fun t k => castTop (ef_rmD12 m a1) k
  have go1 : Goes p e below s₁ (entryFrame m #[(.ref a1), (.int (1 : Int32))] 4) s₁ (mkF m 1 #[.val (.ref a1), .val (.int (1 : Int32)), .unset, .unset] [(.ref a1)]) := fun t k => by
    refine go0 t ?_
    refine XS.aloadN X0.here hx rfl (hb hby d9_0) rfl rfl ?_
    show Steps p.tables e below (s₁.setTop (mkF m 1 #[.val (.ref a1), .val (.int (1 : Int32)), .unset, .unset] [(.ref a1)])) _
    exact k
  obtain ⟨T2, X2, e2, st2⟩ := getF X0 hx hZ hown (host := "") (Or.inl (hw _ (List.mem_of_getElem? (i := 13) rfl))) Via.refl e0 FI (g := (mkF m 1 #[.val (.ref a1), .val (.int (1 : Int32)), .unset, .unset] [(.ref a1)])) rfl rfl (hb hby d9_1)
  have go3 : Goes p e below s₁ (entryFrame m #[(.ref a1), (.int (1 : Int32))] 4) T2 (mkF m 4 #[.val (.ref a1), .val (.int (1 : Int32)), .unset, .unset] [(.ref aI)]) := fun t k => go1 t (st2 t k)
  have go4 : Goes p e below s₁ (entryFrame m #[(.ref a1), (.int (1 : Int32))] 4) T2 (mkF m 5 #[.val (.ref a1), .val (.int (1 : Int32)), .unset, .unset] [(.int (1 : Int32)), (.ref aI)]) := fun t k => by
    refine go3 t ?_
    refine XS.iloadN X2.here hx rfl (hb hby d9_4) rfl ?_
    show Steps p.tables e below (T2.setTop (mkF m 5 #[.val (.ref a1), .val (.int (1 : Int32)), .unset, .unset] [(.int (1 : Int32)), (.ref aI)])) _
    exact k
  obtain ⟨cl5, Ar5, kq5, Sz5, Nn5, Hs5, Gf5⟩ := id (VI)
  have hin5 : ¬ ((1 : Int32) < 0 ∨ cl5.slots.size ≤ ((1 : Int32)).toNatClampNeg) := inb_of Sz5 (own_inb own_R1)
  have hat5 : cl5.slots[((1 : Int32)).toNatClampNeg]? = some (.int (σ.1 (1 : Int32))) := Has.at Hs5 hin5 (own_l_at own_R1)
  have go6 : Goes p e below s₁ (entryFrame m #[(.ref a1), (.int (1 : Int32))] 4) T2 (mkF m 15 #[.val (.ref a1), .val (.int (1 : Int32)), .val (.int (σ.1 (1 : Int32))), .val (.int (3 : Int32))] [(.ref a1), (.int (3 : Int32))]) := fun t k => by
    refine go4 t ?_
    refine X2.iaload hx (j := (1 : Int32)) (v := (.int (σ.1 (1 : Int32)))) (own_hp e2 Ar5.1) (State.isArrayOf_alike hZ.alike Ar5.2.1) Ar5.2.2 hin5 hat5 (g := (mkF m 5 #[.val (.ref a1), .val (.int (1 : Int32)), .unset, .unset] [(.int (1 : Int32)), (.ref aI)])) rfl rfl (hb hby d9_5) _ ?_
    show Steps p.tables e below (T2.setTop (mkF m 6 #[.val (.ref a1), .val (.int (1 : Int32)), .unset, .unset] [(.int (σ.1 (1 : Int32)))])) _
    refine XS.istoreN X2.here hx rfl (hb hby d9_6) rfl (l' := #[.val (.ref a1), .val (.int (1 : Int32)), .val (.int (σ.1 (1 : Int32))), .unset]) rfl ?_
    show Steps p.tables e below (T2.setTop (mkF m 7 #[.val (.ref a1), .val (.int (1 : Int32)), .val (.int (σ.1 (1 : Int32))), .unset] [])) _
    refine XS.iconst X2.here hx rfl (hb hby d9_7) ?_
    show Steps p.tables e below (T2.setTop (mkF m 8 #[.val (.ref a1), .val (.int (1 : Int32)), .val (.int (σ.1 (1 : Int32))), .unset] [(.int (2 : Int32))])) _
    refine XS.iloadN X2.here hx rfl (hb hby d9_8) rfl ?_
    show Steps p.tables e below (T2.setTop (mkF m 9 #[.val (.ref a1), .val (.int (1 : Int32)), .val (.int (σ.1 (1 : Int32))), .unset] [(.int (1 : Int32)), (.int (2 : Int32))])) _
    refine XS.imul X2.here hx rfl (hb hby d9_9) rfl ?_
    show Steps p.tables e below (T2.setTop (mkF m 10 #[.val (.ref a1), .val (.int (1 : Int32)), .val (.int (σ.1 (1 : Int32))), .unset] [(.int (2 : Int32))])) _
    refine XS.iconst X2.here hx rfl (hb hby d9_10) ?_
    show Steps p.tables e below (T2.setTop (mkF m 11 #[.val (.ref a1), .val (.int (1 : Int32)), .val (.int (σ.1 (1 : Int32))), .unset] [(.int (1 : Int32)), (.int (2 : Int32))])) _
    refine XS.iadd X2.here hx rfl (hb hby d9_11) rfl ?_
    show Steps p.tables e below (T2.setTop (mkF m 12 #[.val (.ref a1), .val (.int (1 : Int32)), .val (.int (σ.1 (1 : Int32))), .unset] [(.int (3 : Int32))])) _
    refine XS.istoreN X2.here hx rfl (hb hby d9_12) rfl (l' := #[.val (.ref a1), .val (.int (1 : Int32)), .val (.int (σ.1 (1 : Int32))), .val (.int (3 : Int32))]) rfl ?_
    show Steps p.tables e below (T2.setTop (mkF m 13 #[.val (.ref a1), .val (.int (1 : Int32)), .val (.int (σ.1 (1 : Int32))), .val (.int (3 : Int32))] [])) _
    refine XS.iloadN X2.here hx rfl (hb hby d9_13) rfl ?_
    show Steps p.tables e below (T2.setTop (mkF m 14 #[.val (.ref a1), .val (.int (1 : Int32)), .val (.int (σ.1 (1 : Int32))), .val (.int (3 : Int32))] [(.int (3 : Int32))])) _
    refine XS.aloadN X2.here hx rfl (hb hby d9_14) rfl rfl ?_
    show Steps p.tables e below (T2.setTop (mkF m 15 #[.val (.ref a1), .val (.int (1 : Int32)), .val (.int (σ.1 (1 : Int32))), .val (.int (3 : Int32))] [(.ref a1), (.int (3 : Int32))])) _
    exact k
  obtain ⟨T7, X7, e7, st7⟩ := getF X2 hx hZ hown (host := "") (Or.inl (hw _ (List.mem_of_getElem? (i := 26) rfl))) Via.refl e2 FS (g := (mkF m 15 #[.val (.ref a1), .val (.int (1 : Int32)), .val (.int (σ.1 (1 : Int32))), .val (.int (3 : Int32))] [(.ref a1), (.int (3 : Int32))])) rfl rfl (hb hby d9_15)
  have go8 : Goes p e below s₁ (entryFrame m #[(.ref a1), (.int (1 : Int32))] 4) T7 (mkF m 18 #[.val (.ref a1), .val (.int (1 : Int32)), .val (.int (σ.1 (1 : Int32))), .val (.int (3 : Int32))] [(.int (2 : Int32)), (.int (3 : Int32))]) := fun t k => go6 t (st7 t k)
  have go9 : Goes p e below s₁ (entryFrame m #[(.ref a1), (.int (1 : Int32))] 4) T7 (mkF m 97 #[.val (.ref a1), .val (.int (1 : Int32)), .val (.int (σ.1 (1 : Int32))), .val (.int (3 : Int32))] [(.int (1 : Int32)), (.int (σ.1 (1 : Int32))), (.ref a1)]) := fun t k => by
    refine go8 t ?_
    refine XS.icmpYes X7.here hx rfl (pc0 := 18) (pc' := 94) rfl (hb hby d9_18) rfl (Jvm.Free.XT.ii_ge_t (by decide)) (by decide) (by decide) ?_
    show Steps p.tables e below (T7.setTop (mkF m 94 #[.val (.ref a1), .val (.int (1 : Int32)), .val (.int (σ.1 (1 : Int32))), .val (.int (3 : Int32))] [])) _
    refine XS.aloadN X7.here hx rfl (hb hby d9_94) rfl rfl ?_
    show Steps p.tables e below (T7.setTop (mkF m 95 #[.val (.ref a1), .val (.int (1 : Int32)), .val (.int (σ.1 (1 : Int32))), .val (.int (3 : Int32))] [(.ref a1)])) _
    refine XS.iloadN X7.here hx rfl (hb hby d9_95) rfl ?_
    show Steps p.tables e below (T7.setTop (mkF m 96 #[.val (.ref a1), .val (.int (1 : Int32)), .val (.int (σ.1 (1 : Int32))), .val (.int (3 : Int32))] [(.int (σ.1 (1 : Int32))), (.ref a1)])) _
    refine XS.iloadN X7.here hx rfl (hb hby d9_96) rfl ?_
    show Steps p.tables e below (T7.setTop (mkF m 97 #[.val (.ref a1), .val (.int (1 : Int32)), .val (.int (σ.1 (1 : Int32))), .val (.int (3 : Int32))] [(.int (1 : Int32)), (.int (σ.1 (1 : Int32))), (.ref a1)])) _
    exact k
  obtain ⟨cq10, q10a, q10b⟩ := E1.cell
  obtain ⟨_, _, ⟨T10, L10, k10, n10⟩, -, X10, ⟨Lc10, hQ10, l10, y10, z10⟩, st10⟩ := X7.privateBack hx (y := (⟨"com/example/covermesh/covermesh/algorithms/IndexedMinHeap", "move", "(II)V"⟩ : MethodName)) hown (mvT hZ (hw _ (List.mem_of_getElem? (i := 41) rfl))) (mvT hZ (hw _ (List.mem_of_getElem? (i := 42) rfl))) (own_selp (y := (⟨"com/example/covermesh/covermesh/algorithms/IndexedMinHeap", "move", "(II)V"⟩ : MethodName)) (by decide) (mvT hZ (hw _ (List.mem_of_getElem? (i := 1) rfl))) (mvP hZ (hw _ (List.mem_of_getElem? (i := 43) rfl))) (mvT hZ (hw _ (List.mem_of_getElem? (i := 42) rfl)))) (Cond.privateMethod_at (mvP hZ (hw _ (List.mem_of_getElem? (i := 43) rfl)) (args := #[]))) (mvT hZ (hw _ (List.mem_of_getElem? (i := 44) rfl))) (by decide) (backOf (W := 0) (rmMv l Z a0 hw [] a1 (σ.1 (1 : Int32)) (1 : Int32) aI aP ki kp σ h0 n0 Z0 FI FP VI VP nIP gI gP R1 own_R1 nAI nAP) hZ (hw _ (List.mem_of_getElem? (i := 44) rfl)) (hw _ (List.mem_of_getElem? (i := 2) rfl)) (by decide) (by decide)) (g := (mkF m 97 #[.val (.ref a1), .val (.int (1 : Int32)), .val (.int (σ.1 (1 : Int32))), .val (.int (3 : Int32))] [(.int (1 : Int32)), (.int (σ.1 (1 : Int32))), (.ref a1)])) rfl (by rw [hml]; rfl) (Steps.refl _) (a := a1) (by rw [e7]; exact q10a) q10b (argsL := [(.int (σ.1 (1 : Int32))), (.int (1 : Int32))]) (rest := []) (lenOf pd_0 rfl) rfl (by show 2 * 0 + _ ≤ _; exact Nat.le_of_eq rfl) (hb hby d9_97) (fun _ _ => ⟨rfl, e7, (by decide : 0 + 0 ≤ ({ frames := 1, cells := 0, slots := 0, locals := 14 } : Room).cells), (by decide : 0 + 0 ≤ ({ frames := 1, cells := 0, slots := 0, locals := 14 } : Room).slots)⟩)
  dsimp only [Pt.U, Pt.locs, Pt.cells, Pt.slots] at X10 l10 y10 z10 st10 hQ10
  subst l10 y10 z10
  obtain ⟨rfl, N10q, Kq10, VIq10, VPq10⟩ := hQ10
  have N10 := Fr.app N0 N10q
  have f11 := E1.keep Kq10
  have f12 := FK.keep Kq10 (ninS nAI (ninS nAP nin0))
  have f13 := FI.keep Kq10 (ninS nAI (ninS nAP nin0))
  have f14 := FP.keep Kq10 (ninS nAI (ninS nAP nin0))
  have f15 := FS.keep Kq10 (ninS nAI (ninS nAP nin0))
  have f16 := VK.keep Kq10 (ninS nKI (ninS nKP nin0))
  have Z17 := Nat.le_trans Z0 Kq10.1
  have K18 := K0.trans Kq10 (allS (Or.inl (List.mem_of_getElem? (i := 0) rfl)) (allS (Or.inl (List.mem_of_getElem? (i := 1) rfl)) all0))
  have go19 : Goes p e below s₁ (entryFrame m #[(.ref a1), (.int (1 : Int32))] 4) T10 (mkF m 100 #[.val (.ref a1), .val (.int (1 : Int32)), .val (.int (σ.1 (1 : Int32))), .val (.int (3 : Int32))] []) := fun t k => go9 t (st10.trans k)
  obtain ⟨fs, hr, hrun, hended, hW, hsame⟩ := X10.leave (v := none) (fun _ => rfl)
  have hdn : own_dn kf σ (1 : Int32) (2 : Int32) = (own_mv σ (σ.1 (1 : Int32)) (1 : Int32)) := by simp [own_dn, own_ch]
  refine ⟨_, _, go19 _ ?_, hrun, hended, _, _, rfl, ?_, ⟨_, rfl⟩, hW, hsame.mono (by decide) (by decide)⟩
  · exact X10.returnOut hx Bd.returns (hb hby d9_100) hr
  · show QD12 Z _ _ _ _ _ _ _ _ _ _ _ _ T10.heap _
    exact ⟨rfl, N10, K18, by rw [hdn]; exact VIq10, by rw [hdn]; exact VPq10⟩
theorem ef_rmD13 (m : MethodId) (a1 : Addr) : entryFrame m #[(.ref a1), (.int (1 : Int32))] 4 = mkF m 0 #[.val (.ref a1), .val (.int (1 : Int32)), .unset, .unset] [] := by first | (simp [entryFrame, mkF, argsToLocals, Value.category]; done) | rfl
def QD13 (Z : State) (a1 : Addr) (aK aI aP : Addr) (kk ki kp : ClassId) (kf : Int32 → UInt64) (σ : own_P) (h0 : Heap) (n0 : Nat) (v : Option Value) (h : Heap) (L : List Loc) : Prop := v = none ∧ Fr n0 L ∧ Keep h0 h [aI, aP] ∧ Arv Z h aI ki .int 3 (own_l (own_dn kf σ (1 : Int32) (3 : Int32)).1) (.int (0 : Int32)) ∧ Arv Z h aP kp .int 3 (own_l (own_dn kf σ (1 : Int32) (3 : Int32)).2) (.int (0 : Int32))
set_option maxRecDepth 65536 in
set_option maxHeartbeats 40000000 in
theorem rmD13 (l : Launch) (Z : State) (a0 : Array Value) (hw : ∀ d ∈ tables_1, d.before a0 Z = true) (ws : List Jvm.Cond) (a1 : Addr) (aK aI aP : Addr) (kk ki kp : ClassId) (kf : Int32 → UInt64) (σ : own_P) (h0 : Heap) (n0 : Nat) (Z0 : n0 ≤ h0.size) (E1 : Exa Z h0 a1 "com/example/covermesh/covermesh/algorithms/IndexedMinHeap") (FK : Fld Z h0 a1 "com/example/covermesh/covermesh/algorithms/IndexedMinHeap" "keys" "[D" (.ref aK)) (FI : Fld Z h0 a1 "com/example/covermesh/covermesh/algorithms/IndexedMinHeap" "items" "[I" (.ref aI)) (FP : Fld Z h0 a1 "com/example/covermesh/covermesh/algorithms/IndexedMinHeap" "positions" "[I" (.ref aP)) (FS : Fld Z h0 a1 "com/example/covermesh/covermesh/algorithms/IndexedMinHeap" "size" "I" (.int (3 : Int32))) (VK : Arv Z h0 aK kk .double 3 (own_d kf) (.double (0 : UInt64))) (VI : Arv Z h0 aI ki .int 3 (own_l σ.1) (.int (0 : Int32))) (VP : Arv Z h0 aP kp .int 3 (own_l σ.2) (.int (0 : Int32))) (nKI : aK ≠ aI) (nKP : aK ≠ aP) (nIP : aI ≠ aP) (nAK : a1 ≠ aK) (nAI : a1 ≠ aI) (nAP : a1 ≠ aP) (gA : n0 ≤ a1) (gK : n0 ≤ aK) (gI : n0 ≤ aI) (gP : n0 ≤ aP) (R1 : own_R (σ.1 (1 : Int32))) :
    MetFree l (⟨"com/example/covermesh/covermesh/algorithms/IndexedMinHeap", "siftDown", "(I)V"⟩ : MethodName) (head1 (Jvm.Cond.code (⟨"com/example/covermesh/covermesh/algorithms/IndexedMinHeap", "siftDown", "(I)V"⟩ : MethodName) prog_17_method_8_code 4 none :: ws) ({ frames := 1, cells := 0, slots := 0, locals := 14 } : Room)) (fun a U => a = #[(.ref a1), (.int (1 : Int32))] ∧ Z.Warmed39 U.vm ∧ U.heap = h0) (fun _ _ _ _ _ => True) (fun _ U o U' => ∃ v L, o = .returned v ∧ QD13 Z a1 aK aI aP kk ki kp kf σ h0 n0 v U'.heap L ∧ FrameEnd U o U' L ({ frames := 1, cells := 0, slots := 0, locals := 14 } : Room).cells ({ frames := 1, cells := 0, slots := 0, locals := 14 } : Room).slots) := by
  refine MetFree.of_bodySF (plainFor_of_name pn_0) hisR ?_
  intro p e s m args below meth c s₁ Bd hml0 hP hK
  obtain ⟨rfl, hZ, hh⟩ := hP
  have hx := Bd.exec
  have hby := Bd.bytes
  have hml : c.maxLocals = 4 := hml0
  have hown : s.vm.findClass "com/example/covermesh/covermesh/algorithms/IndexedMinHeap" = some m.cls := findClass_of_methodNamed Bd.named
  have hnm := (name_of_methodNamed Bd.named Bd.method).1
  have X0 : Stand p l e ({ frames := 1, cells := 0, slots := 0, locals := 14 } : Room) s m #[(.ref a1), (.int (1 : Int32))] below meth c s₁ [] 0 0 := Stand.of_body Bd
  have e0 : s₁.heap = h0 := by rw [← hh, Bd.state]; rfl
  have N0 := Fr.nil n0
  have K0 := Keep.refl h0 [aI, aP]
  have go0 : Goes p e below s₁ (entryFrame m #[(.ref a1), (.int (1 : Int32))] 4) s₁ (mkF m 0 #[.val (.ref a1), .val (.int (1 : Int32)), .unset, .unset] []) := fun t k => castTop (ef_rmD13 m a1) k
  have go1 : Goes p e below s₁ (entryFrame m #[(.ref a1), (.int (1 : Int32))] 4) s₁ (mkF m 1 #[.val (.ref a1), .val (.int (1 : Int32)), .unset, .unset] [(.ref a1)]) := fun t k => by
    refine go0 t ?_
    refine XS.aloadN X0.here hx rfl (hb hby d9_0) rfl rfl ?_
    show Steps p.tables e below (s₁.setTop (mkF m 1 #[.val (.ref a1), .val (.int (1 : Int32)), .unset, .unset] [(.ref a1)])) _
    exact k
  obtain ⟨T2, X2, e2, st2⟩ := getF X0 hx hZ hown (host := "") (Or.inl (hw _ (List.mem_of_getElem? (i := 13) rfl))) Via.refl e0 FI (g := (mkF m 1 #[.val (.ref a1), .val (.int (1 : Int32)), .unset, .unset] [(.ref a1)])) rfl rfl (hb hby d9_1)
  have go3 : Goes p e below s₁ (entryFrame m #[(.ref a1), (.int (1 : Int32))] 4) T2 (mkF m 4 #[.val (.ref a1), .val (.int (1 : Int32)), .unset, .unset] [(.ref aI)]) := fun t k => go1 t (st2 t k)
  have go4 : Goes p e below s₁ (entryFrame m #[(.ref a1), (.int (1 : Int32))] 4) T2 (mkF m 5 #[.val (.ref a1), .val (.int (1 : Int32)), .unset, .unset] [(.int (1 : Int32)), (.ref aI)]) := fun t k => by
    refine go3 t ?_
    refine XS.iloadN X2.here hx rfl (hb hby d9_4) rfl ?_
    show Steps p.tables e below (T2.setTop (mkF m 5 #[.val (.ref a1), .val (.int (1 : Int32)), .unset, .unset] [(.int (1 : Int32)), (.ref aI)])) _
    exact k
  obtain ⟨cl5, Ar5, kq5, Sz5, Nn5, Hs5, Gf5⟩ := id (VI)
  have hin5 : ¬ ((1 : Int32) < 0 ∨ cl5.slots.size ≤ ((1 : Int32)).toNatClampNeg) := inb_of Sz5 (own_inb own_R1)
  have hat5 : cl5.slots[((1 : Int32)).toNatClampNeg]? = some (.int (σ.1 (1 : Int32))) := Has.at Hs5 hin5 (own_l_at own_R1)
  have go6 : Goes p e below s₁ (entryFrame m #[(.ref a1), (.int (1 : Int32))] 4) T2 (mkF m 15 #[.val (.ref a1), .val (.int (1 : Int32)), .val (.int (σ.1 (1 : Int32))), .val (.int (3 : Int32))] [(.ref a1), (.int (3 : Int32))]) := fun t k => by
    refine go4 t ?_
    refine X2.iaload hx (j := (1 : Int32)) (v := (.int (σ.1 (1 : Int32)))) (own_hp e2 Ar5.1) (State.isArrayOf_alike hZ.alike Ar5.2.1) Ar5.2.2 hin5 hat5 (g := (mkF m 5 #[.val (.ref a1), .val (.int (1 : Int32)), .unset, .unset] [(.int (1 : Int32)), (.ref aI)])) rfl rfl (hb hby d9_5) _ ?_
    show Steps p.tables e below (T2.setTop (mkF m 6 #[.val (.ref a1), .val (.int (1 : Int32)), .unset, .unset] [(.int (σ.1 (1 : Int32)))])) _
    refine XS.istoreN X2.here hx rfl (hb hby d9_6) rfl (l' := #[.val (.ref a1), .val (.int (1 : Int32)), .val (.int (σ.1 (1 : Int32))), .unset]) rfl ?_
    show Steps p.tables e below (T2.setTop (mkF m 7 #[.val (.ref a1), .val (.int (1 : Int32)), .val (.int (σ.1 (1 : Int32))), .unset] [])) _
    refine XS.iconst X2.here hx rfl (hb hby d9_7) ?_
    show Steps p.tables e below (T2.setTop (mkF m 8 #[.val (.ref a1), .val (.int (1 : Int32)), .val (.int (σ.1 (1 : Int32))), .unset] [(.int (2 : Int32))])) _
    refine XS.iloadN X2.here hx rfl (hb hby d9_8) rfl ?_
    show Steps p.tables e below (T2.setTop (mkF m 9 #[.val (.ref a1), .val (.int (1 : Int32)), .val (.int (σ.1 (1 : Int32))), .unset] [(.int (1 : Int32)), (.int (2 : Int32))])) _
    refine XS.imul X2.here hx rfl (hb hby d9_9) rfl ?_
    show Steps p.tables e below (T2.setTop (mkF m 10 #[.val (.ref a1), .val (.int (1 : Int32)), .val (.int (σ.1 (1 : Int32))), .unset] [(.int (2 : Int32))])) _
    refine XS.iconst X2.here hx rfl (hb hby d9_10) ?_
    show Steps p.tables e below (T2.setTop (mkF m 11 #[.val (.ref a1), .val (.int (1 : Int32)), .val (.int (σ.1 (1 : Int32))), .unset] [(.int (1 : Int32)), (.int (2 : Int32))])) _
    refine XS.iadd X2.here hx rfl (hb hby d9_11) rfl ?_
    show Steps p.tables e below (T2.setTop (mkF m 12 #[.val (.ref a1), .val (.int (1 : Int32)), .val (.int (σ.1 (1 : Int32))), .unset] [(.int (3 : Int32))])) _
    refine XS.istoreN X2.here hx rfl (hb hby d9_12) rfl (l' := #[.val (.ref a1), .val (.int (1 : Int32)), .val (.int (σ.1 (1 : Int32))), .val (.int (3 : Int32))]) rfl ?_
    show Steps p.tables e below (T2.setTop (mkF m 13 #[.val (.ref a1), .val (.int (1 : Int32)), .val (.int (σ.1 (1 : Int32))), .val (.int (3 : Int32))] [])) _
    refine XS.iloadN X2.here hx rfl (hb hby d9_13) rfl ?_
    show Steps p.tables e below (T2.setTop (mkF m 14 #[.val (.ref a1), .val (.int (1 : Int32)), .val (.int (σ.1 (1 : Int32))), .val (.int (3 : Int32))] [(.int (3 : Int32))])) _
    refine XS.aloadN X2.here hx rfl (hb hby d9_14) rfl rfl ?_
    show Steps p.tables e below (T2.setTop (mkF m 15 #[.val (.ref a1), .val (.int (1 : Int32)), .val (.int (σ.1 (1 : Int32))), .val (.int (3 : Int32))] [(.ref a1), (.int (3 : Int32))])) _
    exact k
  obtain ⟨T7, X7, e7, st7⟩ := getF X2 hx hZ hown (host := "") (Or.inl (hw _ (List.mem_of_getElem? (i := 26) rfl))) Via.refl e2 FS (g := (mkF m 15 #[.val (.ref a1), .val (.int (1 : Int32)), .val (.int (σ.1 (1 : Int32))), .val (.int (3 : Int32))] [(.ref a1), (.int (3 : Int32))])) rfl rfl (hb hby d9_15)
  have go8 : Goes p e below s₁ (entryFrame m #[(.ref a1), (.int (1 : Int32))] 4) T7 (mkF m 18 #[.val (.ref a1), .val (.int (1 : Int32)), .val (.int (σ.1 (1 : Int32))), .val (.int (3 : Int32))] [(.int (3 : Int32)), (.int (3 : Int32))]) := fun t k => go6 t (st7 t k)
  have go9 : Goes p e below s₁ (entryFrame m #[(.ref a1), (.int (1 : Int32))] 4) T7 (mkF m 97 #[.val (.ref a1), .val (.int (1 : Int32)), .val (.int (σ.1 (1 : Int32))), .val (.int (3 : Int32))] [(.int (1 : Int32)), (.int (σ.1 (1 : Int32))), (.ref a1)]) := fun t k => by
    refine go8 t ?_
    refine XS.icmpYes X7.here hx rfl (pc0 := 18) (pc' := 94) rfl (hb hby d9_18) rfl (Jvm.Free.XT.ii_ge_t (by decide)) (by decide) (by decide) ?_
    show Steps p.tables e below (T7.setTop (mkF m 94 #[.val (.ref a1), .val (.int (1 : Int32)), .val (.int (σ.1 (1 : Int32))), .val (.int (3 : Int32))] [])) _
    refine XS.aloadN X7.here hx rfl (hb hby d9_94) rfl rfl ?_
    show Steps p.tables e below (T7.setTop (mkF m 95 #[.val (.ref a1), .val (.int (1 : Int32)), .val (.int (σ.1 (1 : Int32))), .val (.int (3 : Int32))] [(.ref a1)])) _
    refine XS.iloadN X7.here hx rfl (hb hby d9_95) rfl ?_
    show Steps p.tables e below (T7.setTop (mkF m 96 #[.val (.ref a1), .val (.int (1 : Int32)), .val (.int (σ.1 (1 : Int32))), .val (.int (3 : Int32))] [(.int (σ.1 (1 : Int32))), (.ref a1)])) _
    refine XS.iloadN X7.here hx rfl (hb hby d9_96) rfl ?_
    show Steps p.tables e below (T7.setTop (mkF m 97 #[.val (.ref a1), .val (.int (1 : Int32)), .val (.int (σ.1 (1 : Int32))), .val (.int (3 : Int32))] [(.int (1 : Int32)), (.int (σ.1 (1 : Int32))), (.ref a1)])) _
    exact k
  obtain ⟨cq10, q10a, q10b⟩ := E1.cell
  obtain ⟨_, _, ⟨T10, L10, k10, n10⟩, -, X10, ⟨Lc10, hQ10, l10, y10, z10⟩, st10⟩ := X7.privateBack hx (y := (⟨"com/example/covermesh/covermesh/algorithms/IndexedMinHeap", "move", "(II)V"⟩ : MethodName)) hown (mvT hZ (hw _ (List.mem_of_getElem? (i := 41) rfl))) (mvT hZ (hw _ (List.mem_of_getElem? (i := 42) rfl))) (own_selp (y := (⟨"com/example/covermesh/covermesh/algorithms/IndexedMinHeap", "move", "(II)V"⟩ : MethodName)) (by decide) (mvT hZ (hw _ (List.mem_of_getElem? (i := 1) rfl))) (mvP hZ (hw _ (List.mem_of_getElem? (i := 43) rfl))) (mvT hZ (hw _ (List.mem_of_getElem? (i := 42) rfl)))) (Cond.privateMethod_at (mvP hZ (hw _ (List.mem_of_getElem? (i := 43) rfl)) (args := #[]))) (mvT hZ (hw _ (List.mem_of_getElem? (i := 44) rfl))) (by decide) (backOf (W := 0) (rmMv l Z a0 hw [] a1 (σ.1 (1 : Int32)) (1 : Int32) aI aP ki kp σ h0 n0 Z0 FI FP VI VP nIP gI gP R1 own_R1 nAI nAP) hZ (hw _ (List.mem_of_getElem? (i := 44) rfl)) (hw _ (List.mem_of_getElem? (i := 2) rfl)) (by decide) (by decide)) (g := (mkF m 97 #[.val (.ref a1), .val (.int (1 : Int32)), .val (.int (σ.1 (1 : Int32))), .val (.int (3 : Int32))] [(.int (1 : Int32)), (.int (σ.1 (1 : Int32))), (.ref a1)])) rfl (by rw [hml]; rfl) (Steps.refl _) (a := a1) (by rw [e7]; exact q10a) q10b (argsL := [(.int (σ.1 (1 : Int32))), (.int (1 : Int32))]) (rest := []) (lenOf pd_0 rfl) rfl (by show 2 * 0 + _ ≤ _; exact Nat.le_of_eq rfl) (hb hby d9_97) (fun _ _ => ⟨rfl, e7, (by decide : 0 + 0 ≤ ({ frames := 1, cells := 0, slots := 0, locals := 14 } : Room).cells), (by decide : 0 + 0 ≤ ({ frames := 1, cells := 0, slots := 0, locals := 14 } : Room).slots)⟩)
  dsimp only [Pt.U, Pt.locs, Pt.cells, Pt.slots] at X10 l10 y10 z10 st10 hQ10
  subst l10 y10 z10
  obtain ⟨rfl, N10q, Kq10, VIq10, VPq10⟩ := hQ10
  have N10 := Fr.app N0 N10q
  have f11 := E1.keep Kq10
  have f12 := FK.keep Kq10 (ninS nAI (ninS nAP nin0))
  have f13 := FI.keep Kq10 (ninS nAI (ninS nAP nin0))
  have f14 := FP.keep Kq10 (ninS nAI (ninS nAP nin0))
  have f15 := FS.keep Kq10 (ninS nAI (ninS nAP nin0))
  have f16 := VK.keep Kq10 (ninS nKI (ninS nKP nin0))
  have Z17 := Nat.le_trans Z0 Kq10.1
  have K18 := K0.trans Kq10 (allS (Or.inl (List.mem_of_getElem? (i := 0) rfl)) (allS (Or.inl (List.mem_of_getElem? (i := 1) rfl)) all0))
  have go19 : Goes p e below s₁ (entryFrame m #[(.ref a1), (.int (1 : Int32))] 4) T10 (mkF m 100 #[.val (.ref a1), .val (.int (1 : Int32)), .val (.int (σ.1 (1 : Int32))), .val (.int (3 : Int32))] []) := fun t k => go9 t (st10.trans k)
  obtain ⟨fs, hr, hrun, hended, hW, hsame⟩ := X10.leave (v := none) (fun _ => rfl)
  have hdn : own_dn kf σ (1 : Int32) (3 : Int32) = (own_mv σ (σ.1 (1 : Int32)) (1 : Int32)) := by simp [own_dn, own_ch]
  refine ⟨_, _, go19 _ ?_, hrun, hended, _, _, rfl, ?_, ⟨_, rfl⟩, hW, hsame.mono (by decide) (by decide)⟩
  · exact X10.returnOut hx Bd.returns (hb hby d9_100) hr
  · show QD13 Z _ _ _ _ _ _ _ _ _ _ _ _ T10.heap _
    exact ⟨rfl, N10, K18, by rw [hdn]; exact VIq10, by rw [hdn]; exact VPq10⟩
theorem ef_rmD23 (m : MethodId) (a1 : Addr) : entryFrame m #[(.ref a1), (.int (2 : Int32))] 4 = mkF m 0 #[.val (.ref a1), .val (.int (2 : Int32)), .unset, .unset] [] := by first | (simp [entryFrame, mkF, argsToLocals, Value.category]; done) | rfl
def QD23 (Z : State) (a1 : Addr) (aK aI aP : Addr) (kk ki kp : ClassId) (kf : Int32 → UInt64) (σ : own_P) (h0 : Heap) (n0 : Nat) (v : Option Value) (h : Heap) (L : List Loc) : Prop := v = none ∧ Fr n0 L ∧ Keep h0 h [aI, aP] ∧ Arv Z h aI ki .int 3 (own_l (own_dn kf σ (2 : Int32) (3 : Int32)).1) (.int (0 : Int32)) ∧ Arv Z h aP kp .int 3 (own_l (own_dn kf σ (2 : Int32) (3 : Int32)).2) (.int (0 : Int32))
set_option maxRecDepth 65536 in
set_option maxHeartbeats 40000000 in
theorem rmD23 (l : Launch) (Z : State) (a0 : Array Value) (hw : ∀ d ∈ tables_1, d.before a0 Z = true) (ws : List Jvm.Cond) (a1 : Addr) (aK aI aP : Addr) (kk ki kp : ClassId) (kf : Int32 → UInt64) (σ : own_P) (h0 : Heap) (n0 : Nat) (Z0 : n0 ≤ h0.size) (E1 : Exa Z h0 a1 "com/example/covermesh/covermesh/algorithms/IndexedMinHeap") (FK : Fld Z h0 a1 "com/example/covermesh/covermesh/algorithms/IndexedMinHeap" "keys" "[D" (.ref aK)) (FI : Fld Z h0 a1 "com/example/covermesh/covermesh/algorithms/IndexedMinHeap" "items" "[I" (.ref aI)) (FP : Fld Z h0 a1 "com/example/covermesh/covermesh/algorithms/IndexedMinHeap" "positions" "[I" (.ref aP)) (FS : Fld Z h0 a1 "com/example/covermesh/covermesh/algorithms/IndexedMinHeap" "size" "I" (.int (3 : Int32))) (VK : Arv Z h0 aK kk .double 3 (own_d kf) (.double (0 : UInt64))) (VI : Arv Z h0 aI ki .int 3 (own_l σ.1) (.int (0 : Int32))) (VP : Arv Z h0 aP kp .int 3 (own_l σ.2) (.int (0 : Int32))) (nKI : aK ≠ aI) (nKP : aK ≠ aP) (nIP : aI ≠ aP) (nAK : a1 ≠ aK) (nAI : a1 ≠ aI) (nAP : a1 ≠ aP) (gA : n0 ≤ a1) (gK : n0 ≤ aK) (gI : n0 ≤ aI) (gP : n0 ≤ aP) (R2 : own_R (σ.1 (2 : Int32))) :
    MetFree l (⟨"com/example/covermesh/covermesh/algorithms/IndexedMinHeap", "siftDown", "(I)V"⟩ : MethodName) (head1 (Jvm.Cond.code (⟨"com/example/covermesh/covermesh/algorithms/IndexedMinHeap", "siftDown", "(I)V"⟩ : MethodName) prog_17_method_8_code 4 none :: ws) ({ frames := 1, cells := 0, slots := 0, locals := 14 } : Room)) (fun a U => a = #[(.ref a1), (.int (2 : Int32))] ∧ Z.Warmed39 U.vm ∧ U.heap = h0) (fun _ _ _ _ _ => True) (fun _ U o U' => ∃ v L, o = .returned v ∧ QD23 Z a1 aK aI aP kk ki kp kf σ h0 n0 v U'.heap L ∧ FrameEnd U o U' L ({ frames := 1, cells := 0, slots := 0, locals := 14 } : Room).cells ({ frames := 1, cells := 0, slots := 0, locals := 14 } : Room).slots) := by
  refine MetFree.of_bodySF (plainFor_of_name pn_0) hisR ?_
  intro p e s m args below meth c s₁ Bd hml0 hP hK
  obtain ⟨rfl, hZ, hh⟩ := hP
  have hx := Bd.exec
  have hby := Bd.bytes
  have hml : c.maxLocals = 4 := hml0
  have hown : s.vm.findClass "com/example/covermesh/covermesh/algorithms/IndexedMinHeap" = some m.cls := findClass_of_methodNamed Bd.named
  have hnm := (name_of_methodNamed Bd.named Bd.method).1
  have X0 : Stand p l e ({ frames := 1, cells := 0, slots := 0, locals := 14 } : Room) s m #[(.ref a1), (.int (2 : Int32))] below meth c s₁ [] 0 0 := Stand.of_body Bd
  have e0 : s₁.heap = h0 := by rw [← hh, Bd.state]; rfl
  have N0 := Fr.nil n0
  have K0 := Keep.refl h0 [aI, aP]
  have go0 : Goes p e below s₁ (entryFrame m #[(.ref a1), (.int (2 : Int32))] 4) s₁ (mkF m 0 #[.val (.ref a1), .val (.int (2 : Int32)), .unset, .unset] []) := fun t k => castTop (ef_rmD23 m a1) k
  have go1 : Goes p e below s₁ (entryFrame m #[(.ref a1), (.int (2 : Int32))] 4) s₁ (mkF m 1 #[.val (.ref a1), .val (.int (2 : Int32)), .unset, .unset] [(.ref a1)]) := fun t k => by
    refine go0 t ?_
    refine XS.aloadN X0.here hx rfl (hb hby d9_0) rfl rfl ?_
    show Steps p.tables e below (s₁.setTop (mkF m 1 #[.val (.ref a1), .val (.int (2 : Int32)), .unset, .unset] [(.ref a1)])) _
    exact k
  obtain ⟨T2, X2, e2, st2⟩ := getF X0 hx hZ hown (host := "") (Or.inl (hw _ (List.mem_of_getElem? (i := 13) rfl))) Via.refl e0 FI (g := (mkF m 1 #[.val (.ref a1), .val (.int (2 : Int32)), .unset, .unset] [(.ref a1)])) rfl rfl (hb hby d9_1)
  have go3 : Goes p e below s₁ (entryFrame m #[(.ref a1), (.int (2 : Int32))] 4) T2 (mkF m 4 #[.val (.ref a1), .val (.int (2 : Int32)), .unset, .unset] [(.ref aI)]) := fun t k => go1 t (st2 t k)
  have go4 : Goes p e below s₁ (entryFrame m #[(.ref a1), (.int (2 : Int32))] 4) T2 (mkF m 5 #[.val (.ref a1), .val (.int (2 : Int32)), .unset, .unset] [(.int (2 : Int32)), (.ref aI)]) := fun t k => by
    refine go3 t ?_
    refine XS.iloadN X2.here hx rfl (hb hby d9_4) rfl ?_
    show Steps p.tables e below (T2.setTop (mkF m 5 #[.val (.ref a1), .val (.int (2 : Int32)), .unset, .unset] [(.int (2 : Int32)), (.ref aI)])) _
    exact k
  obtain ⟨cl5, Ar5, kq5, Sz5, Nn5, Hs5, Gf5⟩ := id (VI)
  have hin5 : ¬ ((2 : Int32) < 0 ∨ cl5.slots.size ≤ ((2 : Int32)).toNatClampNeg) := inb_of Sz5 (own_inb own_R2)
  have hat5 : cl5.slots[((2 : Int32)).toNatClampNeg]? = some (.int (σ.1 (2 : Int32))) := Has.at Hs5 hin5 (own_l_at own_R2)
  have go6 : Goes p e below s₁ (entryFrame m #[(.ref a1), (.int (2 : Int32))] 4) T2 (mkF m 15 #[.val (.ref a1), .val (.int (2 : Int32)), .val (.int (σ.1 (2 : Int32))), .val (.int (5 : Int32))] [(.ref a1), (.int (5 : Int32))]) := fun t k => by
    refine go4 t ?_
    refine X2.iaload hx (j := (2 : Int32)) (v := (.int (σ.1 (2 : Int32)))) (own_hp e2 Ar5.1) (State.isArrayOf_alike hZ.alike Ar5.2.1) Ar5.2.2 hin5 hat5 (g := (mkF m 5 #[.val (.ref a1), .val (.int (2 : Int32)), .unset, .unset] [(.int (2 : Int32)), (.ref aI)])) rfl rfl (hb hby d9_5) _ ?_
    show Steps p.tables e below (T2.setTop (mkF m 6 #[.val (.ref a1), .val (.int (2 : Int32)), .unset, .unset] [(.int (σ.1 (2 : Int32)))])) _
    refine XS.istoreN X2.here hx rfl (hb hby d9_6) rfl (l' := #[.val (.ref a1), .val (.int (2 : Int32)), .val (.int (σ.1 (2 : Int32))), .unset]) rfl ?_
    show Steps p.tables e below (T2.setTop (mkF m 7 #[.val (.ref a1), .val (.int (2 : Int32)), .val (.int (σ.1 (2 : Int32))), .unset] [])) _
    refine XS.iconst X2.here hx rfl (hb hby d9_7) ?_
    show Steps p.tables e below (T2.setTop (mkF m 8 #[.val (.ref a1), .val (.int (2 : Int32)), .val (.int (σ.1 (2 : Int32))), .unset] [(.int (2 : Int32))])) _
    refine XS.iloadN X2.here hx rfl (hb hby d9_8) rfl ?_
    show Steps p.tables e below (T2.setTop (mkF m 9 #[.val (.ref a1), .val (.int (2 : Int32)), .val (.int (σ.1 (2 : Int32))), .unset] [(.int (2 : Int32)), (.int (2 : Int32))])) _
    refine XS.imul X2.here hx rfl (hb hby d9_9) rfl ?_
    show Steps p.tables e below (T2.setTop (mkF m 10 #[.val (.ref a1), .val (.int (2 : Int32)), .val (.int (σ.1 (2 : Int32))), .unset] [(.int (4 : Int32))])) _
    refine XS.iconst X2.here hx rfl (hb hby d9_10) ?_
    show Steps p.tables e below (T2.setTop (mkF m 11 #[.val (.ref a1), .val (.int (2 : Int32)), .val (.int (σ.1 (2 : Int32))), .unset] [(.int (1 : Int32)), (.int (4 : Int32))])) _
    refine XS.iadd X2.here hx rfl (hb hby d9_11) rfl ?_
    show Steps p.tables e below (T2.setTop (mkF m 12 #[.val (.ref a1), .val (.int (2 : Int32)), .val (.int (σ.1 (2 : Int32))), .unset] [(.int (5 : Int32))])) _
    refine XS.istoreN X2.here hx rfl (hb hby d9_12) rfl (l' := #[.val (.ref a1), .val (.int (2 : Int32)), .val (.int (σ.1 (2 : Int32))), .val (.int (5 : Int32))]) rfl ?_
    show Steps p.tables e below (T2.setTop (mkF m 13 #[.val (.ref a1), .val (.int (2 : Int32)), .val (.int (σ.1 (2 : Int32))), .val (.int (5 : Int32))] [])) _
    refine XS.iloadN X2.here hx rfl (hb hby d9_13) rfl ?_
    show Steps p.tables e below (T2.setTop (mkF m 14 #[.val (.ref a1), .val (.int (2 : Int32)), .val (.int (σ.1 (2 : Int32))), .val (.int (5 : Int32))] [(.int (5 : Int32))])) _
    refine XS.aloadN X2.here hx rfl (hb hby d9_14) rfl rfl ?_
    show Steps p.tables e below (T2.setTop (mkF m 15 #[.val (.ref a1), .val (.int (2 : Int32)), .val (.int (σ.1 (2 : Int32))), .val (.int (5 : Int32))] [(.ref a1), (.int (5 : Int32))])) _
    exact k
  obtain ⟨T7, X7, e7, st7⟩ := getF X2 hx hZ hown (host := "") (Or.inl (hw _ (List.mem_of_getElem? (i := 26) rfl))) Via.refl e2 FS (g := (mkF m 15 #[.val (.ref a1), .val (.int (2 : Int32)), .val (.int (σ.1 (2 : Int32))), .val (.int (5 : Int32))] [(.ref a1), (.int (5 : Int32))])) rfl rfl (hb hby d9_15)
  have go8 : Goes p e below s₁ (entryFrame m #[(.ref a1), (.int (2 : Int32))] 4) T7 (mkF m 18 #[.val (.ref a1), .val (.int (2 : Int32)), .val (.int (σ.1 (2 : Int32))), .val (.int (5 : Int32))] [(.int (3 : Int32)), (.int (5 : Int32))]) := fun t k => go6 t (st7 t k)
  have go9 : Goes p e below s₁ (entryFrame m #[(.ref a1), (.int (2 : Int32))] 4) T7 (mkF m 97 #[.val (.ref a1), .val (.int (2 : Int32)), .val (.int (σ.1 (2 : Int32))), .val (.int (5 : Int32))] [(.int (2 : Int32)), (.int (σ.1 (2 : Int32))), (.ref a1)]) := fun t k => by
    refine go8 t ?_
    refine XS.icmpYes X7.here hx rfl (pc0 := 18) (pc' := 94) rfl (hb hby d9_18) rfl (Jvm.Free.XT.ii_ge_t (by decide)) (by decide) (by decide) ?_
    show Steps p.tables e below (T7.setTop (mkF m 94 #[.val (.ref a1), .val (.int (2 : Int32)), .val (.int (σ.1 (2 : Int32))), .val (.int (5 : Int32))] [])) _
    refine XS.aloadN X7.here hx rfl (hb hby d9_94) rfl rfl ?_
    show Steps p.tables e below (T7.setTop (mkF m 95 #[.val (.ref a1), .val (.int (2 : Int32)), .val (.int (σ.1 (2 : Int32))), .val (.int (5 : Int32))] [(.ref a1)])) _
    refine XS.iloadN X7.here hx rfl (hb hby d9_95) rfl ?_
    show Steps p.tables e below (T7.setTop (mkF m 96 #[.val (.ref a1), .val (.int (2 : Int32)), .val (.int (σ.1 (2 : Int32))), .val (.int (5 : Int32))] [(.int (σ.1 (2 : Int32))), (.ref a1)])) _
    refine XS.iloadN X7.here hx rfl (hb hby d9_96) rfl ?_
    show Steps p.tables e below (T7.setTop (mkF m 97 #[.val (.ref a1), .val (.int (2 : Int32)), .val (.int (σ.1 (2 : Int32))), .val (.int (5 : Int32))] [(.int (2 : Int32)), (.int (σ.1 (2 : Int32))), (.ref a1)])) _
    exact k
  obtain ⟨cq10, q10a, q10b⟩ := E1.cell
  obtain ⟨_, _, ⟨T10, L10, k10, n10⟩, -, X10, ⟨Lc10, hQ10, l10, y10, z10⟩, st10⟩ := X7.privateBack hx (y := (⟨"com/example/covermesh/covermesh/algorithms/IndexedMinHeap", "move", "(II)V"⟩ : MethodName)) hown (mvT hZ (hw _ (List.mem_of_getElem? (i := 41) rfl))) (mvT hZ (hw _ (List.mem_of_getElem? (i := 42) rfl))) (own_selp (y := (⟨"com/example/covermesh/covermesh/algorithms/IndexedMinHeap", "move", "(II)V"⟩ : MethodName)) (by decide) (mvT hZ (hw _ (List.mem_of_getElem? (i := 1) rfl))) (mvP hZ (hw _ (List.mem_of_getElem? (i := 43) rfl))) (mvT hZ (hw _ (List.mem_of_getElem? (i := 42) rfl)))) (Cond.privateMethod_at (mvP hZ (hw _ (List.mem_of_getElem? (i := 43) rfl)) (args := #[]))) (mvT hZ (hw _ (List.mem_of_getElem? (i := 44) rfl))) (by decide) (backOf (W := 0) (rmMv l Z a0 hw [] a1 (σ.1 (2 : Int32)) (2 : Int32) aI aP ki kp σ h0 n0 Z0 FI FP VI VP nIP gI gP R2 own_R2 nAI nAP) hZ (hw _ (List.mem_of_getElem? (i := 44) rfl)) (hw _ (List.mem_of_getElem? (i := 2) rfl)) (by decide) (by decide)) (g := (mkF m 97 #[.val (.ref a1), .val (.int (2 : Int32)), .val (.int (σ.1 (2 : Int32))), .val (.int (5 : Int32))] [(.int (2 : Int32)), (.int (σ.1 (2 : Int32))), (.ref a1)])) rfl (by rw [hml]; rfl) (Steps.refl _) (a := a1) (by rw [e7]; exact q10a) q10b (argsL := [(.int (σ.1 (2 : Int32))), (.int (2 : Int32))]) (rest := []) (lenOf pd_0 rfl) rfl (by show 2 * 0 + _ ≤ _; exact Nat.le_of_eq rfl) (hb hby d9_97) (fun _ _ => ⟨rfl, e7, (by decide : 0 + 0 ≤ ({ frames := 1, cells := 0, slots := 0, locals := 14 } : Room).cells), (by decide : 0 + 0 ≤ ({ frames := 1, cells := 0, slots := 0, locals := 14 } : Room).slots)⟩)
  dsimp only [Pt.U, Pt.locs, Pt.cells, Pt.slots] at X10 l10 y10 z10 st10 hQ10
  subst l10 y10 z10
  obtain ⟨rfl, N10q, Kq10, VIq10, VPq10⟩ := hQ10
  have N10 := Fr.app N0 N10q
  have f11 := E1.keep Kq10
  have f12 := FK.keep Kq10 (ninS nAI (ninS nAP nin0))
  have f13 := FI.keep Kq10 (ninS nAI (ninS nAP nin0))
  have f14 := FP.keep Kq10 (ninS nAI (ninS nAP nin0))
  have f15 := FS.keep Kq10 (ninS nAI (ninS nAP nin0))
  have f16 := VK.keep Kq10 (ninS nKI (ninS nKP nin0))
  have Z17 := Nat.le_trans Z0 Kq10.1
  have K18 := K0.trans Kq10 (allS (Or.inl (List.mem_of_getElem? (i := 0) rfl)) (allS (Or.inl (List.mem_of_getElem? (i := 1) rfl)) all0))
  have go19 : Goes p e below s₁ (entryFrame m #[(.ref a1), (.int (2 : Int32))] 4) T10 (mkF m 100 #[.val (.ref a1), .val (.int (2 : Int32)), .val (.int (σ.1 (2 : Int32))), .val (.int (5 : Int32))] []) := fun t k => go9 t (st10.trans k)
  obtain ⟨fs, hr, hrun, hended, hW, hsame⟩ := X10.leave (v := none) (fun _ => rfl)
  have hdn : own_dn kf σ (2 : Int32) (3 : Int32) = (own_mv σ (σ.1 (2 : Int32)) (2 : Int32)) := by simp [own_dn, own_ch]
  refine ⟨_, _, go19 _ ?_, hrun, hended, _, _, rfl, ?_, ⟨_, rfl⟩, hW, hsame.mono (by decide) (by decide)⟩
  · exact X10.returnOut hx Bd.returns (hb hby d9_100) hr
  · show QD23 Z _ _ _ _ _ _ _ _ _ _ _ _ T10.heap _
    exact ⟨rfl, N10, K18, by rw [hdn]; exact VIq10, by rw [hdn]; exact VPq10⟩
theorem own_mv_R {s : own_P} {it ix j : Int32} (h1 : own_R it) (h2 : own_R (s.1 j)) : own_R ((own_mv s it ix).1 j) := by
  unfold own_mv own_u; dsimp only; split <;> assumption
theorem own_up_R {kf : Int32 → UInt64} {s : own_P} {i j : Int32} (hi : own_R (s.1 i)) (h0 : own_R (s.1 0)) (hj : own_R (s.1 j)) : own_R ((own_up kf s i).1 j) := by
  unfold own_up; split
  · exact own_mv_R hi hj
  · exact own_mv_R hi (own_mv_R h0 hj)
theorem own_up_pos {kf : Int32 → UInt64} {s : own_P} {i u : Int32} (h1 : s.1 i = u) : (own_up kf s i).2 u = i ∨ (own_up kf s i).2 u = 0 := by
  unfold own_up; split
  · left; unfold own_mv; dsimp only; rw [h1]; exact own_us
  · right; unfold own_mv; dsimp only; rw [h1]; exact own_us
theorem own_u_R {f : Int32 → Int32} {i j v : Int32} (h1 : own_R v) (h2 : ¬ j = i → own_R (f j)) : own_R (own_u f i v j) := by
  unfold own_u; split
  · exact h1
  · exact h2 (by assumption)
theorem pd_2 : parseMethodDescriptor "(I)V" = some ⟨[.int], none⟩ := by decide +kernel
theorem d6_0 : decode prog_17_method_4_code 0 = .ok (.aload_n 0, 1) := by decide +kernel
theorem d6_1 : decode prog_17_method_4_code 1 = .ok (.getfield 17, 3) := by decide +kernel
theorem d6_4 : decode prog_17_method_4_code 4 = .ok (.iload_n 1, 1) := by decide +kernel
theorem d6_5 : decode prog_17_method_4_code 5 = .ok (.iaload, 1) := by decide +kernel
theorem d6_6 : decode prog_17_method_4_code 6 = .ok (.ifCond .ge 30, 3) := by decide +kernel
theorem d6_9 : decode prog_17_method_4_code 9 = .ok (.aload_n 0, 1) := by decide +kernel
theorem d6_10 : decode prog_17_method_4_code 10 = .ok (.getfield 13, 3) := by decide +kernel
theorem d6_13 : decode prog_17_method_4_code 13 = .ok (.aload_n 0, 1) := by decide +kernel
theorem d6_14 : decode prog_17_method_4_code 14 = .ok (.getfield 26, 3) := by decide +kernel
theorem d6_17 : decode prog_17_method_4_code 17 = .ok (.iload_n 1, 1) := by decide +kernel
theorem d6_18 : decode prog_17_method_4_code 18 = .ok (.iastore, 1) := by decide +kernel
theorem d6_19 : decode prog_17_method_4_code 19 = .ok (.aload_n 0, 1) := by decide +kernel
theorem d6_20 : decode prog_17_method_4_code 20 = .ok (.getfield 17, 3) := by decide +kernel
theorem d6_23 : decode prog_17_method_4_code 23 = .ok (.iload_n 1, 1) := by decide +kernel
theorem d6_24 : decode prog_17_method_4_code 24 = .ok (.aload_n 0, 1) := by decide +kernel
theorem d6_25 : decode prog_17_method_4_code 25 = .ok (.dup, 1) := by decide +kernel
theorem d6_26 : decode prog_17_method_4_code 26 = .ok (.getfield 26, 3) := by decide +kernel
theorem d6_29 : decode prog_17_method_4_code 29 = .ok (.dup_x1, 1) := by decide +kernel
theorem d6_30 : decode prog_17_method_4_code 30 = .ok (.iconst 1, 1) := by decide +kernel
theorem d6_31 : decode prog_17_method_4_code 31 = .ok (.iadd, 1) := by decide +kernel
theorem d6_32 : decode prog_17_method_4_code 32 = .ok (.putfield 26, 3) := by decide +kernel
theorem d6_35 : decode prog_17_method_4_code 35 = .ok (.iastore, 1) := by decide +kernel
theorem d6_36 : decode prog_17_method_4_code 36 = .ok (.aload_n 0, 1) := by decide +kernel
theorem d6_37 : decode prog_17_method_4_code 37 = .ok (.getfield 7, 3) := by decide +kernel
theorem d6_40 : decode prog_17_method_4_code 40 = .ok (.iload_n 1, 1) := by decide +kernel
theorem d6_41 : decode prog_17_method_4_code 41 = .ok (.dload_n 2, 1) := by decide +kernel
theorem d6_42 : decode prog_17_method_4_code 42 = .ok (.dastore, 1) := by decide +kernel
theorem d6_43 : decode prog_17_method_4_code 43 = .ok (.aload_n 0, 1) := by decide +kernel
theorem d6_44 : decode prog_17_method_4_code 44 = .ok (.aload_n 0, 1) := by decide +kernel
theorem d6_45 : decode prog_17_method_4_code 45 = .ok (.getfield 17, 3) := by decide +kernel
theorem d6_48 : decode prog_17_method_4_code 48 = .ok (.iload_n 1, 1) := by decide +kernel
theorem d6_49 : decode prog_17_method_4_code 49 = .ok (.iaload, 1) := by decide +kernel
theorem d6_50 : decode prog_17_method_4_code 50 = .ok (.invokevirtual 30, 3) := by decide +kernel
theorem d6_53 : decode prog_17_method_4_code 53 = .ok (.aload_n 0, 1) := by decide +kernel
theorem d6_54 : decode prog_17_method_4_code 54 = .ok (.aload_n 0, 1) := by decide +kernel
theorem d6_55 : decode prog_17_method_4_code 55 = .ok (.getfield 17, 3) := by decide +kernel
theorem d6_58 : decode prog_17_method_4_code 58 = .ok (.iload_n 1, 1) := by decide +kernel
theorem d6_59 : decode prog_17_method_4_code 59 = .ok (.iaload, 1) := by decide +kernel
theorem d6_60 : decode prog_17_method_4_code 60 = .ok (.invokevirtual 34, 3) := by decide +kernel
theorem d6_63 : decode prog_17_method_4_code 63 = .ok (.return_, 1) := by decide +kernel
theorem ef_rmPA0 (m : MethodId) (a1 : Addr) (u : Int32) (key : UInt64) : entryFrame m #[(.ref a1), (.int u), (.double key)] 4 = mkF m 0 #[.val (.ref a1), .val (.int u), .val (.double key), .second] [] := by first | (simp [entryFrame, mkF, argsToLocals, Value.category]; done) | rfl
def QPA0 (Z : State) (a1 : Addr) (u : Int32) (key : UInt64) (aK aI aP : Addr) (kk ki kp : ClassId) (kf : Int32 → UInt64) (σ : own_P) (h0 : Heap) (n0 : Nat) (v : Option Value) (h : Heap) (L : List Loc) : Prop := v = none ∧ Fr n0 L ∧ Keep h0 h [a1, aK, aI, aP] ∧ Exa Z h a1 "com/example/covermesh/covermesh/algorithms/IndexedMinHeap" ∧ Fld Z h a1 "com/example/covermesh/covermesh/algorithms/IndexedMinHeap" "keys" "[D" (.ref aK) ∧ Fld Z h a1 "com/example/covermesh/covermesh/algorithms/IndexedMinHeap" "items" "[I" (.ref aI) ∧ Fld Z h a1 "com/example/covermesh/covermesh/algorithms/IndexedMinHeap" "positions" "[I" (.ref aP) ∧ Fld Z h a1 "com/example/covermesh/covermesh/algorithms/IndexedMinHeap" "size" "I" (.int (1 : Int32)) ∧ Arv Z h aK kk .double 3 (own_d (own_u kf u key)) (.double (0 : UInt64)) ∧ Arv Z h aI ki .int 3 (own_l (own_putA (own_u kf u key) σ u (0 : Int32)).1) (.int (0 : Int32)) ∧ Arv Z h aP kp .int 3 (own_l (own_putA (own_u kf u key) σ u (0 : Int32)).2) (.int (0 : Int32))
set_option maxRecDepth 65536 in
set_option maxHeartbeats 40000000 in
theorem rmPA0 (l : Launch) (Z : State) (a0 : Array Value) (hw : ∀ d ∈ tables_1, d.before a0 Z = true) (ws : List Jvm.Cond) (a1 : Addr) (u : Int32) (key : UInt64) (aK aI aP : Addr) (kk ki kp : ClassId) (kf : Int32 → UInt64) (σ : own_P) (h0 : Heap) (n0 : Nat) (Z0 : n0 ≤ h0.size) (E1 : Exa Z h0 a1 "com/example/covermesh/covermesh/algorithms/IndexedMinHeap") (FK : Fld Z h0 a1 "com/example/covermesh/covermesh/algorithms/IndexedMinHeap" "keys" "[D" (.ref aK)) (FI : Fld Z h0 a1 "com/example/covermesh/covermesh/algorithms/IndexedMinHeap" "items" "[I" (.ref aI)) (FP : Fld Z h0 a1 "com/example/covermesh/covermesh/algorithms/IndexedMinHeap" "positions" "[I" (.ref aP)) (FS : Fld Z h0 a1 "com/example/covermesh/covermesh/algorithms/IndexedMinHeap" "size" "I" (.int (0 : Int32))) (VK : Arv Z h0 aK kk .double 3 (own_d kf) (.double (0 : UInt64))) (VI : Arv Z h0 aI ki .int 3 (own_l σ.1) (.int (0 : Int32))) (VP : Arv Z h0 aP kp .int 3 (own_l σ.2) (.int (0 : Int32))) (nKI : aK ≠ aI) (nKP : aK ≠ aP) (nIP : aI ≠ aP) (nAK : a1 ≠ aK) (nAI : a1 ≠ aI) (nAP : a1 ≠ aP) (gA : n0 ≤ a1) (gK : n0 ≤ aK) (gI : n0 ≤ aI) (gP : n0 ≤ aP) (Ru : own_R u) (hgu : σ.2 u < 0) :
    MetFree l (⟨"com/example/covermesh/covermesh/algorithms/IndexedMinHeap", "put", "(ID)V"⟩ : MethodName) (head1 (Jvm.Cond.code (⟨"com/example/covermesh/covermesh/algorithms/IndexedMinHeap", "put", "(ID)V"⟩ : MethodName) prog_17_method_4_code 4 none :: ws) ({ frames := 2, cells := 0, slots := 0, locals := 29 } : Room)) (fun a U => a = #[(.ref a1), (.int u), (.double key)] ∧ Z.Warmed39 U.vm ∧ U.heap = h0) (fun _ _ _ _ _ => True) (fun _ U o U' => ∃ v L, o = .returned v ∧ QPA0 Z a1 u key aK aI aP kk ki kp kf σ h0 n0 v U'.heap L ∧ FrameEnd U o U' L ({ frames := 2, cells := 0, slots := 0, locals := 29 } : Room).cells ({ frames := 2, cells := 0, slots := 0, locals := 29 } : Room).slots) := by
  refine MetFree.of_bodySF (plainFor_of_name pn_0) hisR ?_
  intro p e s m args below meth c s₁ Bd hml0 hP hK
  obtain ⟨rfl, hZ, hh⟩ := hP
  have hx := Bd.exec
  have hby := Bd.bytes
  have hml : c.maxLocals = 4 := hml0
  have hown : s.vm.findClass "com/example/covermesh/covermesh/algorithms/IndexedMinHeap" = some m.cls := findClass_of_methodNamed Bd.named
  have hnm := (name_of_methodNamed Bd.named Bd.method).1
  have X0 : Stand p l e ({ frames := 2, cells := 0, slots := 0, locals := 29 } : Room) s m #[(.ref a1), (.int u), (.double key)] below meth c s₁ [] 0 0 := Stand.of_body Bd
  have e0 : s₁.heap = h0 := by rw [← hh, Bd.state]; rfl
  have N0 := Fr.nil n0
  have K0 := Keep.refl h0 [a1, aK, aI, aP]
  have go0 : Goes p e below s₁ (entryFrame m #[(.ref a1), (.int u), (.double key)] 4) s₁ (mkF m 0 #[.val (.ref a1), .val (.int u), .val (.double key), .second] []) := fun t k => castTop (ef_rmPA0 m a1 u key) k
  have go1 : Goes p e below s₁ (entryFrame m #[(.ref a1), (.int u), (.double key)] 4) s₁ (mkF m 1 #[.val (.ref a1), .val (.int u), .val (.double key), .second] [(.ref a1)]) := fun t k => by
    refine go0 t ?_
    refine XS.aloadN X0.here hx rfl (hb hby d6_0) rfl rfl ?_
    show Steps p.tables e below (s₁.setTop (mkF m 1 #[.val (.ref a1), .val (.int u), .val (.double key), .second] [(.ref a1)])) _
    exact k
  obtain ⟨T2, X2, e2, st2⟩ := getF X0 hx hZ hown (host := "") (Or.inl (hw _ (List.mem_of_getElem? (i := 15) rfl))) Via.refl e0 FP (g := (mkF m 1 #[.val (.ref a1), .val (.int u), .val (.double key), .second] [(.ref a1)])) rfl rfl (hb hby d6_1)
  have go3 : Goes p e below s₁ (entryFrame m #[(.ref a1), (.int u), (.double key)] 4) T2 (mkF m 4 #[.val (.ref a1), .val (.int u), .val (.double key), .second] [(.ref aP)]) := fun t k => go1 t (st2 t k)
  have go4 : Goes p e below s₁ (entryFrame m #[(.ref a1), (.int u), (.double key)] 4) T2 (mkF m 5 #[.val (.ref a1), .val (.int u), .val (.double key), .second] [(.int u), (.ref aP)]) := fun t k => by
    refine go3 t ?_
    refine XS.iloadN X2.here hx rfl (hb hby d6_4) rfl ?_
    show Steps p.tables e below (T2.setTop (mkF m 5 #[.val (.ref a1), .val (.int u), .val (.double key), .second] [(.int u), (.ref aP)])) _
    exact k
  obtain ⟨cl5, Ar5, kq5, Sz5, Nn5, Hs5, Gf5⟩ := id (VP)
  have hin5 : ¬ (u < 0 ∨ cl5.slots.size ≤ (u).toNatClampNeg) := inb_of Sz5 (own_inb Ru)
  have hat5 : cl5.slots[(u).toNatClampNeg]? = some (.int (σ.2 u)) := Has.at Hs5 hin5 (own_l_at Ru)
  have go6 : Goes p e below s₁ (entryFrame m #[(.ref a1), (.int u), (.double key)] 4) T2 (mkF m 6 #[.val (.ref a1), .val (.int u), .val (.double key), .second] [(.int (σ.2 u))]) := fun t k => by
    refine go4 t ?_
    refine X2.iaload hx (j := u) (v := (.int (σ.2 u))) (own_hp e2 Ar5.1) (State.isArrayOf_alike hZ.alike Ar5.2.1) Ar5.2.2 hin5 hat5 (g := (mkF m 5 #[.val (.ref a1), .val (.int u), .val (.double key), .second] [(.int u), (.ref aP)])) rfl rfl (hb hby d6_5) _ ?_
    show Steps p.tables e below (T2.setTop (mkF m 6 #[.val (.ref a1), .val (.int u), .val (.double key), .second] [(.int (σ.2 u))])) _
    exact k
  have go7 : Goes p e below s₁ (entryFrame m #[(.ref a1), (.int u), (.double key)] 4) T2 (mkF m 10 #[.val (.ref a1), .val (.int u), .val (.double key), .second] [(.ref a1)]) := fun t k => by
    refine go6 t ?_
    refine XS.ifNo X2.here hx rfl (hb hby d6_6) rfl (Jvm.Free.XT.i0_ge_f hgu) ?_
    show Steps p.tables e below (T2.setTop (mkF m 9 #[.val (.ref a1), .val (.int u), .val (.double key), .second] [])) _
    refine XS.aloadN X2.here hx rfl (hb hby d6_9) rfl rfl ?_
    show Steps p.tables e below (T2.setTop (mkF m 10 #[.val (.ref a1), .val (.int u), .val (.double key), .second] [(.ref a1)])) _
    exact k
  obtain ⟨T8, X8, e8, st8⟩ := getF X2 hx hZ hown (host := "") (Or.inl (hw _ (List.mem_of_getElem? (i := 13) rfl))) Via.refl e2 FI (g := (mkF m 10 #[.val (.ref a1), .val (.int u), .val (.double key), .second] [(.ref a1)])) rfl rfl (hb hby d6_10)
  have go9 : Goes p e below s₁ (entryFrame m #[(.ref a1), (.int u), (.double key)] 4) T8 (mkF m 13 #[.val (.ref a1), .val (.int u), .val (.double key), .second] [(.ref aI)]) := fun t k => go7 t (st8 t k)
  have go10 : Goes p e below s₁ (entryFrame m #[(.ref a1), (.int u), (.double key)] 4) T8 (mkF m 14 #[.val (.ref a1), .val (.int u), .val (.double key), .second] [(.ref a1), (.ref aI)]) := fun t k => by
    refine go9 t ?_
    refine XS.aloadN X8.here hx rfl (hb hby d6_13) rfl rfl ?_
    show Steps p.tables e below (T8.setTop (mkF m 14 #[.val (.ref a1), .val (.int u), .val (.double key), .second] [(.ref a1), (.ref aI)])) _
    exact k
  obtain ⟨T11, X11, e11, st11⟩ := getF X8 hx hZ hown (host := "") (Or.inl (hw _ (List.mem_of_getElem? (i := 26) rfl))) Via.refl e8 FS (g := (mkF m 14 #[.val (.ref a1), .val (.int u), .val (.double key), .second] [(.ref a1), (.ref aI)])) rfl rfl (hb hby d6_14)
  have go12 : Goes p e below s₁ (entryFrame m #[(.ref a1), (.int u), (.double key)] 4) T11 (mkF m 17 #[.val (.ref a1), .val (.int u), .val (.double key), .second] [(.int (0 : Int32)), (.ref aI)]) := fun t k => go10 t (st11 t k)
  have go13 : Goes p e below s₁ (entryFrame m #[(.ref a1), (.int u), (.double key)] 4) T11 (mkF m 18 #[.val (.ref a1), .val (.int u), .val (.double key), .second] [(.int u), (.int (0 : Int32)), (.ref aI)]) := fun t k => by
    refine go12 t ?_
    refine XS.iloadN X11.here hx rfl (hb hby d6_17) rfl ?_
    show Steps p.tables e below (T11.setTop (mkF m 18 #[.val (.ref a1), .val (.int u), .val (.double key), .second] [(.int u), (.int (0 : Int32)), (.ref aI)])) _
    exact k
  obtain ⟨cl14, Ar14, kq14, Sz14, Nn14, Hs14, Gf14⟩ := id (VI)
  have hin14 : ¬ ((0 : Int32) < 0 ∨ cl14.slots.size ≤ ((0 : Int32)).toNatClampNeg) := inb_of Sz14 (own_inb own_R0)
  obtain ⟨T15, h15, X15, e15, W15, st15⟩ := stI X11 hx hZ e11 Ar14 (j := (0 : Int32)) hin14 (g := (mkF m 18 #[.val (.ref a1), .val (.int u), .val (.double key), .second] [(.int u), (.int (0 : Int32)), (.ref aI)])) rfl rfl (hb hby d6_18)
  have V16 : Arv Z h15 aI ki .int 3 (own_l (own_u σ.1 (0 : Int32) u)) (.int (0 : Int32)) := by rw [← own_l_set own_R0]; exact Arv.set Ar14 kq14 Sz14 Nn14 Hs14 Gf14 rfl W15 _ rfl (own_l_len own_R0)
  have f17 := E1.wr W15
  have f18 := FK.other W15 (Or.inl nAI)
  have f19 := FI.other W15 (Or.inl nAI)
  have f20 := FP.other W15 (Or.inl nAI)
  have f21 := FS.other W15 (Or.inl nAI)
  have f22 := VK.other W15 nKI
  have f23 := VP.other W15 (Ne.symm nIP)
  have Z24 := Nat.le_trans Z0 (Nat.le_of_eq W15.size.symm)
  have K25 := K0.wr W15 (Or.inl (List.mem_of_getElem? (i := 2) rfl))
  have N26 := Fr.snoc X15 N0 gI
  have go27 : Goes p e below s₁ (entryFrame m #[(.ref a1), (.int u), (.double key)] 4) T15 (mkF m 19 #[.val (.ref a1), .val (.int u), .val (.double key), .second] []) := fun t k => go13 t (st15 t k)
  have go28 : Goes p e below s₁ (entryFrame m #[(.ref a1), (.int u), (.double key)] 4) T15 (mkF m 20 #[.val (.ref a1), .val (.int u), .val (.double key), .second] [(.ref a1)]) := fun t k => by
    refine go27 t ?_
    refine XS.aloadN X15.here hx rfl (hb hby d6_19) rfl rfl ?_
    show Steps p.tables e below (T15.setTop (mkF m 20 #[.val (.ref a1), .val (.int u), .val (.double key), .second] [(.ref a1)])) _
    exact k
  obtain ⟨T29, X29, e29, st29⟩ := getF X15 hx hZ hown (host := "") (Or.inl (hw _ (List.mem_of_getElem? (i := 15) rfl))) Via.refl e15 f20 (g := (mkF m 20 #[.val (.ref a1), .val (.int u), .val (.double key), .second] [(.ref a1)])) rfl rfl (hb hby d6_20)
  have go30 : Goes p e below s₁ (entryFrame m #[(.ref a1), (.int u), (.double key)] 4) T29 (mkF m 23 #[.val (.ref a1), .val (.int u), .val (.double key), .second] [(.ref aP)]) := fun t k => go28 t (st29 t k)
  have go31 : Goes p e below s₁ (entryFrame m #[(.ref a1), (.int u), (.double key)] 4) T29 (mkF m 26 #[.val (.ref a1), .val (.int u), .val (.double key), .second] [(.ref a1), (.ref a1), (.int u), (.ref aP)]) := fun t k => by
    refine go30 t ?_
    refine XS.iloadN X29.here hx rfl (hb hby d6_23) rfl ?_
    show Steps p.tables e below (T29.setTop (mkF m 24 #[.val (.ref a1), .val (.int u), .val (.double key), .second] [(.int u), (.ref aP)])) _
    refine XS.aloadN X29.here hx rfl (hb hby d6_24) rfl rfl ?_
    show Steps p.tables e below (T29.setTop (mkF m 25 #[.val (.ref a1), .val (.int u), .val (.double key), .second] [(.ref a1), (.int u), (.ref aP)])) _
    refine XS.dup X29.here hx rfl (hb hby d6_25) rfl rfl ?_
    show Steps p.tables e below (T29.setTop (mkF m 26 #[.val (.ref a1), .val (.int u), .val (.double key), .second] [(.ref a1), (.ref a1), (.int u), (.ref aP)])) _
    exact k
  obtain ⟨T32, X32, e32, st32⟩ := getF X29 hx hZ hown (host := "") (Or.inl (hw _ (List.mem_of_getElem? (i := 26) rfl))) Via.refl e29 f21 (g := (mkF m 26 #[.val (.ref a1), .val (.int u), .val (.double key), .second] [(.ref a1), (.ref a1), (.int u), (.ref aP)])) rfl rfl (hb hby d6_26)
  have go33 : Goes p e below s₁ (entryFrame m #[(.ref a1), (.int u), (.double key)] 4) T32 (mkF m 29 #[.val (.ref a1), .val (.int u), .val (.double key), .second] [(.int (0 : Int32)), (.ref a1), (.int u), (.ref aP)]) := fun t k => go31 t (st32 t k)
  have go34 : Goes p e below s₁ (entryFrame m #[(.ref a1), (.int u), (.double key)] 4) T32 (mkF m 32 #[.val (.ref a1), .val (.int u), .val (.double key), .second] [(.int (1 : Int32)), (.ref a1), (.int (0 : Int32)), (.int u), (.ref aP)]) := fun t k => by
    refine go33 t ?_
    refine XS.dupX1 X32.here hx rfl (hb hby d6_29) rfl rfl rfl ?_
    show Steps p.tables e below (T32.setTop (mkF m 30 #[.val (.ref a1), .val (.int u), .val (.double key), .second] [(.int (0 : Int32)), (.ref a1), (.int (0 : Int32)), (.int u), (.ref aP)])) _
    refine XS.iconst X32.here hx rfl (hb hby d6_30) ?_
    show Steps p.tables e below (T32.setTop (mkF m 31 #[.val (.ref a1), .val (.int u), .val (.double key), .second] [(.int (1 : Int32)), (.int (0 : Int32)), (.ref a1), (.int (0 : Int32)), (.int u), (.ref aP)])) _
    refine XS.iadd X32.here hx rfl (hb hby d6_31) rfl ?_
    show Steps p.tables e below (T32.setTop (mkF m 32 #[.val (.ref a1), .val (.int u), .val (.double key), .second] [(.int (1 : Int32)), (.ref a1), (.int (0 : Int32)), (.int u), (.ref aP)])) _
    exact k
  obtain ⟨T35, h35, X35, e35, W35, st35⟩ := putF X32 hx hZ hown (host := "") (Or.inl (hw _ (List.mem_of_getElem? (i := 26) rfl))) Via.refl e32 f21 f17 (Or.inl (hw _ (List.mem_of_getElem? (i := 27) rfl))) (hw _ (List.mem_of_getElem? (i := 1) rfl)) (ty := .int) (by decide) rfl rfl (g := (mkF m 32 #[.val (.ref a1), .val (.int u), .val (.double key), .second] [(.int (1 : Int32)), (.ref a1), (.int (0 : Int32)), (.int u), (.ref aP)])) rfl rfl (hb hby d6_32)
  have f36 := f21.same W35
  have f37 := f17.wr W35
  have f38 := f18.other W35 (Or.inr (slot_ne (Or.inr (hw _ (List.mem_of_getElem? (i := 11) rfl))) (Or.inl (hw _ (List.mem_of_getElem? (i := 27) rfl))) (by decide) (t := (.array .double)) (t' := .int) (by decide) (by decide)))
  have f39 := f19.other W35 (Or.inr (slot_ne (Or.inr (hw _ (List.mem_of_getElem? (i := 14) rfl))) (Or.inl (hw _ (List.mem_of_getElem? (i := 27) rfl))) (by decide) (t := (.array .int)) (t' := .int) (by decide) (by decide)))
  have f40 := f20.other W35 (Or.inr (slot_ne (Or.inr (hw _ (List.mem_of_getElem? (i := 16) rfl))) (Or.inl (hw _ (List.mem_of_getElem? (i := 27) rfl))) (by decide) (t := (.array .int)) (t' := .int) (by decide) (by decide)))
  have f41 := f22.other W35 (Ne.symm nAK)
  have f42 := f23.other W35 (Ne.symm nAP)
  have f43 := V16.other W35 (Ne.symm nAI)
  have Z44 := Nat.le_trans Z24 (Nat.le_of_eq W35.size.symm)
  have K45 := K25.wr W35 (Or.inl (List.mem_of_getElem? (i := 0) rfl))
  have N46 := Fr.snoc X35 N26 gA
  have go47 : Goes p e below s₁ (entryFrame m #[(.ref a1), (.int u), (.double key)] 4) T35 (mkF m 35 #[.val (.ref a1), .val (.int u), .val (.double key), .second] [(.int (0 : Int32)), (.int u), (.ref aP)]) := fun t k => go34 t (st35 t k)
  obtain ⟨cl48, Ar48, kq48, Sz48, Nn48, Hs48, Gf48⟩ := id (f42)
  have hin48 : ¬ (u < 0 ∨ cl48.slots.size ≤ (u).toNatClampNeg) := inb_of Sz48 (own_inb Ru)
  obtain ⟨T49, h49, X49, e49, W49, st49⟩ := stI X35 hx hZ e35 Ar48 (j := u) hin48 (g := (mkF m 35 #[.val (.ref a1), .val (.int u), .val (.double key), .second] [(.int (0 : Int32)), (.int u), (.ref aP)])) rfl rfl (hb hby d6_35)
  have V50 : Arv Z h49 aP kp .int 3 (own_l (own_u σ.2 u (0 : Int32))) (.int (0 : Int32)) := by rw [← own_l_set Ru]; exact Arv.set Ar48 kq48 Sz48 Nn48 Hs48 Gf48 rfl W49 _ rfl (own_l_len Ru)
  have f51 := f37.wr W49
  have f52 := f38.other W49 (Or.inl nAP)
  have f53 := f39.other W49 (Or.inl nAP)
  have f54 := f40.other W49 (Or.inl nAP)
  have f55 := f41.other W49 nKP
  have f56 := f43.other W49 nIP
  have f57 := f36.other W49 (Or.inl nAP)
  have Z58 := Nat.le_trans Z44 (Nat.le_of_eq W49.size.symm)
  have K59 := K45.wr W49 (Or.inl (List.mem_of_getElem? (i := 3) rfl))
  have N60 := Fr.snoc X49 N46 gP
  have go61 : Goes p e below s₁ (entryFrame m #[(.ref a1), (.int u), (.double key)] 4) T49 (mkF m 36 #[.val (.ref a1), .val (.int u), .val (.double key), .second] []) := fun t k => go47 t (st49 t k)
  have go62 : Goes p e below s₁ (entryFrame m #[(.ref a1), (.int u), (.double key)] 4) T49 (mkF m 37 #[.val (.ref a1), .val (.int u), .val (.double key), .second] [(.ref a1)]) := fun t k => by
    refine go61 t ?_
    refine XS.aloadN X49.here hx rfl (hb hby d6_36) rfl rfl ?_
    show Steps p.tables e below (T49.setTop (mkF m 37 #[.val (.ref a1), .val (.int u), .val (.double key), .second] [(.ref a1)])) _
    exact k
  obtain ⟨T63, X63, e63, st63⟩ := getF X49 hx hZ hown (host := "") (Or.inl (hw _ (List.mem_of_getElem? (i := 10) rfl))) Via.refl e49 f52 (g := (mkF m 37 #[.val (.ref a1), .val (.int u), .val (.double key), .second] [(.ref a1)])) rfl rfl (hb hby d6_37)
  have go64 : Goes p e below s₁ (entryFrame m #[(.ref a1), (.int u), (.double key)] 4) T63 (mkF m 40 #[.val (.ref a1), .val (.int u), .val (.double key), .second] [(.ref aK)]) := fun t k => go62 t (st63 t k)
  have go65 : Goes p e below s₁ (entryFrame m #[(.ref a1), (.int u), (.double key)] 4) T63 (mkF m 42 #[.val (.ref a1), .val (.int u), .val (.double key), .second] [(.double key), (.int u), (.ref aK)]) := fun t k => by
    refine go64 t ?_
    refine XS.iloadN X63.here hx rfl (hb hby d6_40) rfl ?_
    show Steps p.tables e below (T63.setTop (mkF m 41 #[.val (.ref a1), .val (.int u), .val (.double key), .second] [(.int u), (.ref aK)])) _
    refine Jvm.Free.XS.dloadN X63.here hx rfl (hb hby d6_41) rfl ?_
    show Steps p.tables e below (T63.setTop (mkF m 42 #[.val (.ref a1), .val (.int u), .val (.double key), .second] [(.double key), (.int u), (.ref aK)])) _
    exact k
  obtain ⟨cl66, Ar66, kq66, Sz66, Nn66, Hs66, Gf66⟩ := id (f55)
  have hin66 : ¬ (u < 0 ∨ cl66.slots.size ≤ (u).toNatClampNeg) := inb_of Sz66 (own_inb Ru)
  obtain ⟨T67, h67, X67, e67, W67, st67⟩ := stD X63 hx hZ e63 Ar66 (j := u) hin66 (g := (mkF m 42 #[.val (.ref a1), .val (.int u), .val (.double key), .second] [(.double key), (.int u), (.ref aK)])) rfl rfl (hb hby d6_42)
  have V68 : Arv Z h67 aK kk .double 3 (own_d (own_u kf u key)) (.double (0 : UInt64)) := by rw [← own_d_set Ru]; exact Arv.set Ar66 kq66 Sz66 Nn66 Hs66 Gf66 rfl W67 _ rfl (own_d_len Ru)
  have f69 := f51.wr W67
  have f70 := f52.other W67 (Or.inl nAK)
  have f71 := f53.other W67 (Or.inl nAK)
  have f72 := f54.other W67 (Or.inl nAK)
  have f73 := f56.other W67 (Ne.symm nKI)
  have f74 := f57.other W67 (Or.inl nAK)
  have f75 := V50.other W67 (Ne.symm nKP)
  have Z76 := Nat.le_trans Z58 (Nat.le_of_eq W67.size.symm)
  have K77 := K59.wr W67 (Or.inl (List.mem_of_getElem? (i := 1) rfl))
  have N78 := Fr.snoc X67 N60 gK
  have go79 : Goes p e below s₁ (entryFrame m #[(.ref a1), (.int u), (.double key)] 4) T67 (mkF m 43 #[.val (.ref a1), .val (.int u), .val (.double key), .second] []) := fun t k => go65 t (st67 t k)
  have go80 : Goes p e below s₁ (entryFrame m #[(.ref a1), (.int u), (.double key)] 4) T67 (mkF m 45 #[.val (.ref a1), .val (.int u), .val (.double key), .second] [(.ref a1), (.ref a1)]) := fun t k => by
    refine go79 t ?_
    refine XS.aloadN X67.here hx rfl (hb hby d6_43) rfl rfl ?_
    show Steps p.tables e below (T67.setTop (mkF m 44 #[.val (.ref a1), .val (.int u), .val (.double key), .second] [(.ref a1)])) _
    refine XS.aloadN X67.here hx rfl (hb hby d6_44) rfl rfl ?_
    show Steps p.tables e below (T67.setTop (mkF m 45 #[.val (.ref a1), .val (.int u), .val (.double key), .second] [(.ref a1), (.ref a1)])) _
    exact k
  obtain ⟨T81, X81, e81, st81⟩ := getF X67 hx hZ hown (host := "") (Or.inl (hw _ (List.mem_of_getElem? (i := 15) rfl))) Via.refl e67 f72 (g := (mkF m 45 #[.val (.ref a1), .val (.int u), .val (.double key), .second] [(.ref a1), (.ref a1)])) rfl rfl (hb hby d6_45)
  have go82 : Goes p e below s₁ (entryFrame m #[(.ref a1), (.int u), (.double key)] 4) T81 (mkF m 48 #[.val (.ref a1), .val (.int u), .val (.double key), .second] [(.ref aP), (.ref a1)]) := fun t k => go80 t (st81 t k)
  have go83 : Goes p e below s₁ (entryFrame m #[(.ref a1), (.int u), (.double key)] 4) T81 (mkF m 49 #[.val (.ref a1), .val (.int u), .val (.double key), .second] [(.int u), (.ref aP), (.ref a1)]) := fun t k => by
    refine go82 t ?_
    refine XS.iloadN X81.here hx rfl (hb hby d6_48) rfl ?_
    show Steps p.tables e below (T81.setTop (mkF m 49 #[.val (.ref a1), .val (.int u), .val (.double key), .second] [(.int u), (.ref aP), (.ref a1)])) _
    exact k
  obtain ⟨cl84, Ar84, kq84, Sz84, Nn84, Hs84, Gf84⟩ := id (f75)
  have hin84 : ¬ (u < 0 ∨ cl84.slots.size ≤ (u).toNatClampNeg) := inb_of Sz84 (own_inb Ru)
  have hat84 : cl84.slots[(u).toNatClampNeg]? = some (.int (0 : Int32)) := Has.at Hs84 hin84 ((own_l_at Ru).trans (congrArg _ own_us))
  have go85 : Goes p e below s₁ (entryFrame m #[(.ref a1), (.int u), (.double key)] 4) T81 (mkF m 50 #[.val (.ref a1), .val (.int u), .val (.double key), .second] [(.int (0 : Int32)), (.ref a1)]) := fun t k => by
    refine go83 t ?_
    refine X81.iaload hx (j := u) (v := (.int (0 : Int32))) (own_hp e81 Ar84.1) (State.isArrayOf_alike hZ.alike Ar84.2.1) Ar84.2.2 hin84 hat84 (g := (mkF m 49 #[.val (.ref a1), .val (.int u), .val (.double key), .second] [(.int u), (.ref aP), (.ref a1)])) rfl rfl (hb hby d6_49) _ ?_
    show Steps p.tables e below (T81.setTop (mkF m 50 #[.val (.ref a1), .val (.int u), .val (.double key), .second] [(.int (0 : Int32)), (.ref a1)])) _
    exact k
  obtain ⟨cq86, q86a, q86b⟩ := f69.cell
  obtain ⟨_, _, ⟨T86, L86, k86, n86⟩, -, X86, ⟨Lc86, hQ86, l86, y86, z86⟩, st86⟩ := X81.privateBack hx (y := (⟨"com/example/covermesh/covermesh/algorithms/IndexedMinHeap", "siftUp", "(I)V"⟩ : MethodName)) hown (mvT hZ (hw _ (List.mem_of_getElem? (i := 37) rfl))) (mvT hZ (hw _ (List.mem_of_getElem? (i := 38) rfl))) (own_selp (y := (⟨"com/example/covermesh/covermesh/algorithms/IndexedMinHeap", "siftUp", "(I)V"⟩ : MethodName)) (by decide) (mvT hZ (hw _ (List.mem_of_getElem? (i := 1) rfl))) (mvP hZ (hw _ (List.mem_of_getElem? (i := 39) rfl))) (mvT hZ (hw _ (List.mem_of_getElem? (i := 38) rfl)))) (Cond.privateMethod_at (mvP hZ (hw _ (List.mem_of_getElem? (i := 39) rfl)) (args := #[]))) (mvT hZ (hw _ (List.mem_of_getElem? (i := 40) rfl))) (by decide) (backOf (W := 0) (rmU0 l Z a0 hw [] a1 aK aI aP kk ki kp (own_u kf u key) ((own_u σ.1 (0 : Int32) u), (own_u σ.2 u (0 : Int32))) (1 : Int32) h67 n0 Z76 f69 f70 f71 f72 f74 V68 f73 f75 nKI nKP nIP nAK nAI nAP gA gK gI gP (show own_R (own_u σ.1 (0 : Int32) u (0 : Int32)) from own_u_R Ru (fun h => absurd rfl h))) hZ (hw _ (List.mem_of_getElem? (i := 40) rfl)) (hw _ (List.mem_of_getElem? (i := 2) rfl)) (by decide) (by decide)) (g := (mkF m 50 #[.val (.ref a1), .val (.int u), .val (.double key), .second] [(.int (0 : Int32)), (.ref a1)])) rfl (by rw [hml]; rfl) (Steps.refl _) (a := a1) (by rw [e81]; exact q86a) q86b (argsL := [(.int (0 : Int32))]) (rest := []) (lenOf pd_2 rfl) rfl (by show 2 * 0 + _ ≤ _; exact Nat.le_of_eq rfl) (hb hby d6_50) (fun _ _ => ⟨rfl, e81, (by decide : 0 + 0 ≤ ({ frames := 2, cells := 0, slots := 0, locals := 29 } : Room).cells), (by decide : 0 + 0 ≤ ({ frames := 2, cells := 0, slots := 0, locals := 29 } : Room).slots)⟩)
  dsimp only [Pt.U, Pt.locs, Pt.cells, Pt.slots] at X86 l86 y86 z86 st86 hQ86
  subst l86 y86 z86
  obtain ⟨rfl, N86q, Kq86, VIq86, VPq86⟩ := hQ86
  have N86 := Fr.app N78 N86q
  have f87 := f69.keep Kq86
  have f88 := f70.keep Kq86 (ninS nAI (ninS nAP nin0))
  have f89 := f71.keep Kq86 (ninS nAI (ninS nAP nin0))
  have f90 := f72.keep Kq86 (ninS nAI (ninS nAP nin0))
  have f91 := f74.keep Kq86 (ninS nAI (ninS nAP nin0))
  have f92 := V68.keep Kq86 (ninS nKI (ninS nKP nin0))
  have Z93 := Nat.le_trans Z76 Kq86.1
  have K94 := K77.trans Kq86 (allS (Or.inl (List.mem_of_getElem? (i := 2) rfl)) (allS (Or.inl (List.mem_of_getElem? (i := 3) rfl)) all0))
  obtain ⟨τ86, hτ86⟩ : ∃ z, z = own_up (own_u kf u key) ((own_u σ.1 (0 : Int32) u), (own_u σ.2 u (0 : Int32))) (0 : Int32) := ⟨_, rfl⟩
  rw [← hτ86] at VIq86 VPq86
  have go95 : Goes p e below s₁ (entryFrame m #[(.ref a1), (.int u), (.double key)] 4) T86 (mkF m 53 #[.val (.ref a1), .val (.int u), .val (.double key), .second] []) := fun t k => go85 t (st86.trans k)
  have go96 : Goes p e below s₁ (entryFrame m #[(.ref a1), (.int u), (.double key)] 4) T86 (mkF m 55 #[.val (.ref a1), .val (.int u), .val (.double key), .second] [(.ref a1), (.ref a1)]) := fun t k => by
    refine go95 t ?_
    refine XS.aloadN X86.here hx rfl (hb hby d6_53) rfl rfl ?_
    show Steps p.tables e below (T86.setTop (mkF m 54 #[.val (.ref a1), .val (.int u), .val (.double key), .second] [(.ref a1)])) _
    refine XS.aloadN X86.here hx rfl (hb hby d6_54) rfl rfl ?_
    show Steps p.tables e below (T86.setTop (mkF m 55 #[.val (.ref a1), .val (.int u), .val (.double key), .second] [(.ref a1), (.ref a1)])) _
    exact k
  obtain ⟨T97, X97, e97, st97⟩ := getF X86 hx hZ hown (host := "") (Or.inl (hw _ (List.mem_of_getElem? (i := 15) rfl))) Via.refl rfl f90 (g := (mkF m 55 #[.val (.ref a1), .val (.int u), .val (.double key), .second] [(.ref a1), (.ref a1)])) rfl rfl (hb hby d6_55)
  have go98 : Goes p e below s₁ (entryFrame m #[(.ref a1), (.int u), (.double key)] 4) T97 (mkF m 58 #[.val (.ref a1), .val (.int u), .val (.double key), .second] [(.ref aP), (.ref a1)]) := fun t k => go96 t (st97 t k)
  have go99 : Goes p e below s₁ (entryFrame m #[(.ref a1), (.int u), (.double key)] 4) T97 (mkF m 59 #[.val (.ref a1), .val (.int u), .val (.double key), .second] [(.int u), (.ref aP), (.ref a1)]) := fun t k => by
    refine go98 t ?_
    refine XS.iloadN X97.here hx rfl (hb hby d6_58) rfl ?_
    show Steps p.tables e below (T97.setTop (mkF m 59 #[.val (.ref a1), .val (.int u), .val (.double key), .second] [(.int u), (.ref aP), (.ref a1)])) _
    exact k
  obtain ⟨cl100, Ar100, kq100, Sz100, Nn100, Hs100, Gf100⟩ := id (VPq86)
  have hin100 : ¬ (u < 0 ∨ cl100.slots.size ≤ (u).toNatClampNeg) := inb_of Sz100 (own_inb Ru)
  have hat100 : cl100.slots[(u).toNatClampNeg]? = some (.int (τ86.2 u)) := Has.at Hs100 hin100 (own_l_at Ru)
  have go101 : Goes p e below s₁ (entryFrame m #[(.ref a1), (.int u), (.double key)] 4) T97 (mkF m 60 #[.val (.ref a1), .val (.int u), .val (.double key), .second] [(.int (τ86.2 u)), (.ref a1)]) := fun t k => by
    refine go99 t ?_
    refine X97.iaload hx (j := u) (v := (.int (τ86.2 u))) (own_hp e97 Ar100.1) (State.isArrayOf_alike hZ.alike Ar100.2.1) Ar100.2.2 hin100 hat100 (g := (mkF m 59 #[.val (.ref a1), .val (.int u), .val (.double key), .second] [(.int u), (.ref aP), (.ref a1)])) rfl rfl (hb hby d6_59) _ ?_
    show Steps p.tables e below (T97.setTop (mkF m 60 #[.val (.ref a1), .val (.int u), .val (.double key), .second] [(.int (τ86.2 u)), (.ref a1)])) _
    exact k
  have hpos : τ86.2 u = (0 : Int32) ∨ τ86.2 u = 0 := by rw [hτ86]; exact own_up_pos (show own_u σ.1 (0 : Int32) u (0 : Int32) = u from own_us)
  have hR0 : ∀ j : Int32, j < (1 : Int32) ∧ ¬ j < 0 → own_R (own_u σ.1 (0 : Int32) u j) := by
    intro j hj
    refine own_u_R Ru (fun hne => ?_)
    have : False := by
      have h1 := hj.1; have h2 := hj.2; rw [Int32.lt_iff_toInt_lt] at h1 h2
      have h3 : ((1 : Int32)).toInt = 1 := rfl
      have h4 : (0 : Int32).toInt = 0 := rfl
      have h5 : ¬ j.toInt = 0 := fun q => hne (own_of_toInt q)
      omega
    exact this.elim
  have hR102 : ∀ j : Int32, j < (1 : Int32) ∧ ¬ j < 0 → own_R (τ86.1 j) := fun j hj => by rw [hτ86]; exact own_up_R (hR0 (0 : Int32) (by decide)) (hR0 (0 : Int32) (by decide)) (hR0 j hj)
  have hp := hpos.elim id id
  have go103 : Goes p e below s₁ (entryFrame m #[(.ref a1), (.int u), (.double key)] 4) T97 (mkF m 60 #[.val (.ref a1), .val (.int u), .val (.double key), .second] [(.int (0 : Int32)), (.ref a1)]) := Eq.mp (congrArg (fun zz => Goes p e below s₁ (entryFrame m #[(.ref a1), (.int u), (.double key)] 4) T97 (mkF m 60 #[.val (.ref a1), .val (.int u), .val (.double key), .second] [(.int zz), (.ref a1)])) hp) go101
  obtain ⟨cq104, q104a, q104b⟩ := f87.cell
  obtain ⟨_, _, ⟨T104, L104, k104, n104⟩, -, X104, ⟨Lc104, hQ104, l104, y104, z104⟩, st104⟩ := X97.privateBack hx (y := (⟨"com/example/covermesh/covermesh/algorithms/IndexedMinHeap", "siftDown", "(I)V"⟩ : MethodName)) hown (mvT hZ (hw _ (List.mem_of_getElem? (i := 45) rfl))) (mvT hZ (hw _ (List.mem_of_getElem? (i := 46) rfl))) (own_selp (y := (⟨"com/example/covermesh/covermesh/algorithms/IndexedMinHeap", "siftDown", "(I)V"⟩ : MethodName)) (by decide) (mvT hZ (hw _ (List.mem_of_getElem? (i := 1) rfl))) (mvP hZ (hw _ (List.mem_of_getElem? (i := 47) rfl))) (mvT hZ (hw _ (List.mem_of_getElem? (i := 46) rfl)))) (Cond.privateMethod_at (mvP hZ (hw _ (List.mem_of_getElem? (i := 47) rfl)) (args := #[]))) (mvT hZ (hw _ (List.mem_of_getElem? (i := 48) rfl))) (by decide) (backOf (W := 0) (rmD01 l Z a0 hw [] a1 aK aI aP kk ki kp (own_u kf u key) τ86 T86.heap n0 Z93 f87 f88 f89 f90 f91 f92 VIq86 VPq86 nKI nKP nIP nAK nAI nAP gA gK gI gP (hR102 (0 : Int32) (by decide))) hZ (hw _ (List.mem_of_getElem? (i := 48) rfl)) (hw _ (List.mem_of_getElem? (i := 2) rfl)) (by decide) (by decide)) (g := (mkF m 60 #[.val (.ref a1), .val (.int u), .val (.double key), .second] [(.int (0 : Int32)), (.ref a1)])) rfl (by rw [hml]; rfl) (Steps.refl _) (a := a1) (by rw [e97]; exact q104a) q104b (argsL := [(.int (0 : Int32))]) (rest := []) (lenOf pd_2 rfl) rfl (by show 2 * 0 + _ ≤ _; exact Nat.le_of_eq rfl) (hb hby d6_60) (fun _ _ => ⟨rfl, e97, (by decide : 0 + 0 ≤ ({ frames := 2, cells := 0, slots := 0, locals := 29 } : Room).cells), (by decide : 0 + 0 ≤ ({ frames := 2, cells := 0, slots := 0, locals := 29 } : Room).slots)⟩)
  dsimp only [Pt.U, Pt.locs, Pt.cells, Pt.slots] at X104 l104 y104 z104 st104 hQ104
  subst l104 y104 z104
  obtain ⟨rfl, N104q, Kq104, VIq104, VPq104⟩ := hQ104
  have N104 := Fr.app N86 N104q
  have f105 := f87.keep Kq104
  have f106 := f88.keep Kq104 (ninS nAI (ninS nAP nin0))
  have f107 := f89.keep Kq104 (ninS nAI (ninS nAP nin0))
  have f108 := f90.keep Kq104 (ninS nAI (ninS nAP nin0))
  have f109 := f91.keep Kq104 (ninS nAI (ninS nAP nin0))
  have f110 := f92.keep Kq104 (ninS nKI (ninS nKP nin0))
  have Z111 := Nat.le_trans Z93 Kq104.1
  have K112 := K94.trans Kq104 (allS (Or.inl (List.mem_of_getElem? (i := 2) rfl)) (allS (Or.inl (List.mem_of_getElem? (i := 3) rfl)) all0))
  have go113 : Goes p e below s₁ (entryFrame m #[(.ref a1), (.int u), (.double key)] 4) T104 (mkF m 63 #[.val (.ref a1), .val (.int u), .val (.double key), .second] []) := fun t k => go103 t (st104.trans k)
  obtain ⟨fs, hr, hrun, hended, hW, hsame⟩ := X104.leave (v := none) (fun _ => rfl)
  have hput : own_putA (own_u kf u key) σ u (0 : Int32) = own_dn (own_u kf u key) τ86 (0 : Int32) (1 : Int32) := by
    show own_dn (own_u kf u key) (own_up (own_u kf u key) (own_u σ.1 (0 : Int32) u, own_u σ.2 u (0 : Int32)) (own_u σ.2 u (0 : Int32) u)) ((own_up (own_u kf u key) (own_u σ.1 (0 : Int32) u, own_u σ.2 u (0 : Int32)) (own_u σ.2 u (0 : Int32) u)).2 u) ((0 : Int32) + 1) = _
    rw [own_us, ← hτ86, hp]; rfl
  refine ⟨_, _, go113 _ ?_, hrun, hended, _, _, rfl, ?_, ⟨_, rfl⟩, hW, hsame.mono (by decide) (by decide)⟩
  · exact X104.returnOut hx Bd.returns (hb hby d6_63) hr
  · show QPA0 Z _ _ _ _ _ _ _ _ _ _ _ _ _ _ T104.heap _
    exact ⟨rfl, N104, K112, f105, f106, f107, f108, f109, f110, by rw [hput]; exact VIq104, by rw [hput]; exact VPq104⟩
theorem ef_rmPA1 (m : MethodId) (a1 : Addr) (u : Int32) (key : UInt64) : entryFrame m #[(.ref a1), (.int u), (.double key)] 4 = mkF m 0 #[.val (.ref a1), .val (.int u), .val (.double key), .second] [] := by first | (simp [entryFrame, mkF, argsToLocals, Value.category]; done) | rfl
def QPA1 (Z : State) (a1 : Addr) (u : Int32) (key : UInt64) (aK aI aP : Addr) (kk ki kp : ClassId) (kf : Int32 → UInt64) (σ : own_P) (h0 : Heap) (n0 : Nat) (v : Option Value) (h : Heap) (L : List Loc) : Prop := v = none ∧ Fr n0 L ∧ Keep h0 h [a1, aK, aI, aP] ∧ Exa Z h a1 "com/example/covermesh/covermesh/algorithms/IndexedMinHeap" ∧ Fld Z h a1 "com/example/covermesh/covermesh/algorithms/IndexedMinHeap" "keys" "[D" (.ref aK) ∧ Fld Z h a1 "com/example/covermesh/covermesh/algorithms/IndexedMinHeap" "items" "[I" (.ref aI) ∧ Fld Z h a1 "com/example/covermesh/covermesh/algorithms/IndexedMinHeap" "positions" "[I" (.ref aP) ∧ Fld Z h a1 "com/example/covermesh/covermesh/algorithms/IndexedMinHeap" "size" "I" (.int (2 : Int32)) ∧ Arv Z h aK kk .double 3 (own_d (own_u kf u key)) (.double (0 : UInt64)) ∧ Arv Z h aI ki .int 3 (own_l (own_putA (own_u kf u key) σ u (1 : Int32)).1) (.int (0 : Int32)) ∧ Arv Z h aP kp .int 3 (own_l (own_putA (own_u kf u key) σ u (1 : Int32)).2) (.int (0 : Int32))
set_option maxRecDepth 65536 in
set_option maxHeartbeats 40000000 in
theorem rmPA1 (l : Launch) (Z : State) (a0 : Array Value) (hw : ∀ d ∈ tables_1, d.before a0 Z = true) (ws : List Jvm.Cond) (a1 : Addr) (u : Int32) (key : UInt64) (aK aI aP : Addr) (kk ki kp : ClassId) (kf : Int32 → UInt64) (σ : own_P) (h0 : Heap) (n0 : Nat) (Z0 : n0 ≤ h0.size) (E1 : Exa Z h0 a1 "com/example/covermesh/covermesh/algorithms/IndexedMinHeap") (FK : Fld Z h0 a1 "com/example/covermesh/covermesh/algorithms/IndexedMinHeap" "keys" "[D" (.ref aK)) (FI : Fld Z h0 a1 "com/example/covermesh/covermesh/algorithms/IndexedMinHeap" "items" "[I" (.ref aI)) (FP : Fld Z h0 a1 "com/example/covermesh/covermesh/algorithms/IndexedMinHeap" "positions" "[I" (.ref aP)) (FS : Fld Z h0 a1 "com/example/covermesh/covermesh/algorithms/IndexedMinHeap" "size" "I" (.int (1 : Int32))) (VK : Arv Z h0 aK kk .double 3 (own_d kf) (.double (0 : UInt64))) (VI : Arv Z h0 aI ki .int 3 (own_l σ.1) (.int (0 : Int32))) (VP : Arv Z h0 aP kp .int 3 (own_l σ.2) (.int (0 : Int32))) (nKI : aK ≠ aI) (nKP : aK ≠ aP) (nIP : aI ≠ aP) (nAK : a1 ≠ aK) (nAI : a1 ≠ aI) (nAP : a1 ≠ aP) (gA : n0 ≤ a1) (gK : n0 ≤ aK) (gI : n0 ≤ aI) (gP : n0 ≤ aP) (Ru : own_R u) (hgu : σ.2 u < 0) (R0 : own_R (σ.1 (0 : Int32))) :
    MetFree l (⟨"com/example/covermesh/covermesh/algorithms/IndexedMinHeap", "put", "(ID)V"⟩ : MethodName) (head1 (Jvm.Cond.code (⟨"com/example/covermesh/covermesh/algorithms/IndexedMinHeap", "put", "(ID)V"⟩ : MethodName) prog_17_method_4_code 4 none :: ws) ({ frames := 2, cells := 0, slots := 0, locals := 29 } : Room)) (fun a U => a = #[(.ref a1), (.int u), (.double key)] ∧ Z.Warmed39 U.vm ∧ U.heap = h0) (fun _ _ _ _ _ => True) (fun _ U o U' => ∃ v L, o = .returned v ∧ QPA1 Z a1 u key aK aI aP kk ki kp kf σ h0 n0 v U'.heap L ∧ FrameEnd U o U' L ({ frames := 2, cells := 0, slots := 0, locals := 29 } : Room).cells ({ frames := 2, cells := 0, slots := 0, locals := 29 } : Room).slots) := by
  refine MetFree.of_bodySF (plainFor_of_name pn_0) hisR ?_
  intro p e s m args below meth c s₁ Bd hml0 hP hK
  obtain ⟨rfl, hZ, hh⟩ := hP
  have hx := Bd.exec
  have hby := Bd.bytes
  have hml : c.maxLocals = 4 := hml0
  have hown : s.vm.findClass "com/example/covermesh/covermesh/algorithms/IndexedMinHeap" = some m.cls := findClass_of_methodNamed Bd.named
  have hnm := (name_of_methodNamed Bd.named Bd.method).1
  have X0 : Stand p l e ({ frames := 2, cells := 0, slots := 0, locals := 29 } : Room) s m #[(.ref a1), (.int u), (.double key)] below meth c s₁ [] 0 0 := Stand.of_body Bd
  have e0 : s₁.heap = h0 := by rw [← hh, Bd.state]; rfl
  have N0 := Fr.nil n0
  have K0 := Keep.refl h0 [a1, aK, aI, aP]
  have go0 : Goes p e below s₁ (entryFrame m #[(.ref a1), (.int u), (.double key)] 4) s₁ (mkF m 0 #[.val (.ref a1), .val (.int u), .val (.double key), .second] []) := fun t k => castTop (ef_rmPA1 m a1 u key) k
  have go1 : Goes p e below s₁ (entryFrame m #[(.ref a1), (.int u), (.double key)] 4) s₁ (mkF m 1 #[.val (.ref a1), .val (.int u), .val (.double key), .second] [(.ref a1)]) := fun t k => by
    refine go0 t ?_
    refine XS.aloadN X0.here hx rfl (hb hby d6_0) rfl rfl ?_
    show Steps p.tables e below (s₁.setTop (mkF m 1 #[.val (.ref a1), .val (.int u), .val (.double key), .second] [(.ref a1)])) _
    exact k
  obtain ⟨T2, X2, e2, st2⟩ := getF X0 hx hZ hown (host := "") (Or.inl (hw _ (List.mem_of_getElem? (i := 15) rfl))) Via.refl e0 FP (g := (mkF m 1 #[.val (.ref a1), .val (.int u), .val (.double key), .second] [(.ref a1)])) rfl rfl (hb hby d6_1)
  have go3 : Goes p e below s₁ (entryFrame m #[(.ref a1), (.int u), (.double key)] 4) T2 (mkF m 4 #[.val (.ref a1), .val (.int u), .val (.double key), .second] [(.ref aP)]) := fun t k => go1 t (st2 t k)
  have go4 : Goes p e below s₁ (entryFrame m #[(.ref a1), (.int u), (.double key)] 4) T2 (mkF m 5 #[.val (.ref a1), .val (.int u), .val (.double key), .second] [(.int u), (.ref aP)]) := fun t k => by
    refine go3 t ?_
    refine XS.iloadN X2.here hx rfl (hb hby d6_4) rfl ?_
    show Steps p.tables e below (T2.setTop (mkF m 5 #[.val (.ref a1), .val (.int u), .val (.double key), .second] [(.int u), (.ref aP)])) _
    exact k
  obtain ⟨cl5, Ar5, kq5, Sz5, Nn5, Hs5, Gf5⟩ := id (VP)
  have hin5 : ¬ (u < 0 ∨ cl5.slots.size ≤ (u).toNatClampNeg) := inb_of Sz5 (own_inb Ru)
  have hat5 : cl5.slots[(u).toNatClampNeg]? = some (.int (σ.2 u)) := Has.at Hs5 hin5 (own_l_at Ru)
  have go6 : Goes p e below s₁ (entryFrame m #[(.ref a1), (.int u), (.double key)] 4) T2 (mkF m 6 #[.val (.ref a1), .val (.int u), .val (.double key), .second] [(.int (σ.2 u))]) := fun t k => by
    refine go4 t ?_
    refine X2.iaload hx (j := u) (v := (.int (σ.2 u))) (own_hp e2 Ar5.1) (State.isArrayOf_alike hZ.alike Ar5.2.1) Ar5.2.2 hin5 hat5 (g := (mkF m 5 #[.val (.ref a1), .val (.int u), .val (.double key), .second] [(.int u), (.ref aP)])) rfl rfl (hb hby d6_5) _ ?_
    show Steps p.tables e below (T2.setTop (mkF m 6 #[.val (.ref a1), .val (.int u), .val (.double key), .second] [(.int (σ.2 u))])) _
    exact k
  have go7 : Goes p e below s₁ (entryFrame m #[(.ref a1), (.int u), (.double key)] 4) T2 (mkF m 10 #[.val (.ref a1), .val (.int u), .val (.double key), .second] [(.ref a1)]) := fun t k => by
    refine go6 t ?_
    refine XS.ifNo X2.here hx rfl (hb hby d6_6) rfl (Jvm.Free.XT.i0_ge_f hgu) ?_
    show Steps p.tables e below (T2.setTop (mkF m 9 #[.val (.ref a1), .val (.int u), .val (.double key), .second] [])) _
    refine XS.aloadN X2.here hx rfl (hb hby d6_9) rfl rfl ?_
    show Steps p.tables e below (T2.setTop (mkF m 10 #[.val (.ref a1), .val (.int u), .val (.double key), .second] [(.ref a1)])) _
    exact k
  obtain ⟨T8, X8, e8, st8⟩ := getF X2 hx hZ hown (host := "") (Or.inl (hw _ (List.mem_of_getElem? (i := 13) rfl))) Via.refl e2 FI (g := (mkF m 10 #[.val (.ref a1), .val (.int u), .val (.double key), .second] [(.ref a1)])) rfl rfl (hb hby d6_10)
  have go9 : Goes p e below s₁ (entryFrame m #[(.ref a1), (.int u), (.double key)] 4) T8 (mkF m 13 #[.val (.ref a1), .val (.int u), .val (.double key), .second] [(.ref aI)]) := fun t k => go7 t (st8 t k)
  have go10 : Goes p e below s₁ (entryFrame m #[(.ref a1), (.int u), (.double key)] 4) T8 (mkF m 14 #[.val (.ref a1), .val (.int u), .val (.double key), .second] [(.ref a1), (.ref aI)]) := fun t k => by
    refine go9 t ?_
    refine XS.aloadN X8.here hx rfl (hb hby d6_13) rfl rfl ?_
    show Steps p.tables e below (T8.setTop (mkF m 14 #[.val (.ref a1), .val (.int u), .val (.double key), .second] [(.ref a1), (.ref aI)])) _
    exact k
  obtain ⟨T11, X11, e11, st11⟩ := getF X8 hx hZ hown (host := "") (Or.inl (hw _ (List.mem_of_getElem? (i := 26) rfl))) Via.refl e8 FS (g := (mkF m 14 #[.val (.ref a1), .val (.int u), .val (.double key), .second] [(.ref a1), (.ref aI)])) rfl rfl (hb hby d6_14)
  have go12 : Goes p e below s₁ (entryFrame m #[(.ref a1), (.int u), (.double key)] 4) T11 (mkF m 17 #[.val (.ref a1), .val (.int u), .val (.double key), .second] [(.int (1 : Int32)), (.ref aI)]) := fun t k => go10 t (st11 t k)
  have go13 : Goes p e below s₁ (entryFrame m #[(.ref a1), (.int u), (.double key)] 4) T11 (mkF m 18 #[.val (.ref a1), .val (.int u), .val (.double key), .second] [(.int u), (.int (1 : Int32)), (.ref aI)]) := fun t k => by
    refine go12 t ?_
    refine XS.iloadN X11.here hx rfl (hb hby d6_17) rfl ?_
    show Steps p.tables e below (T11.setTop (mkF m 18 #[.val (.ref a1), .val (.int u), .val (.double key), .second] [(.int u), (.int (1 : Int32)), (.ref aI)])) _
    exact k
  obtain ⟨cl14, Ar14, kq14, Sz14, Nn14, Hs14, Gf14⟩ := id (VI)
  have hin14 : ¬ ((1 : Int32) < 0 ∨ cl14.slots.size ≤ ((1 : Int32)).toNatClampNeg) := inb_of Sz14 (own_inb own_R1)
  obtain ⟨T15, h15, X15, e15, W15, st15⟩ := stI X11 hx hZ e11 Ar14 (j := (1 : Int32)) hin14 (g := (mkF m 18 #[.val (.ref a1), .val (.int u), .val (.double key), .second] [(.int u), (.int (1 : Int32)), (.ref aI)])) rfl rfl (hb hby d6_18)
  have V16 : Arv Z h15 aI ki .int 3 (own_l (own_u σ.1 (1 : Int32) u)) (.int (0 : Int32)) := by rw [← own_l_set own_R1]; exact Arv.set Ar14 kq14 Sz14 Nn14 Hs14 Gf14 rfl W15 _ rfl (own_l_len own_R1)
  have f17 := E1.wr W15
  have f18 := FK.other W15 (Or.inl nAI)
  have f19 := FI.other W15 (Or.inl nAI)
  have f20 := FP.other W15 (Or.inl nAI)
  have f21 := FS.other W15 (Or.inl nAI)
  have f22 := VK.other W15 nKI
  have f23 := VP.other W15 (Ne.symm nIP)
  have Z24 := Nat.le_trans Z0 (Nat.le_of_eq W15.size.symm)
  have K25 := K0.wr W15 (Or.inl (List.mem_of_getElem? (i := 2) rfl))
  have N26 := Fr.snoc X15 N0 gI
  have go27 : Goes p e below s₁ (entryFrame m #[(.ref a1), (.int u), (.double key)] 4) T15 (mkF m 19 #[.val (.ref a1), .val (.int u), .val (.double key), .second] []) := fun t k => go13 t (st15 t k)
  have go28 : Goes p e below s₁ (entryFrame m #[(.ref a1), (.int u), (.double key)] 4) T15 (mkF m 20 #[.val (.ref a1), .val (.int u), .val (.double key), .second] [(.ref a1)]) := fun t k => by
    refine go27 t ?_
    refine XS.aloadN X15.here hx rfl (hb hby d6_19) rfl rfl ?_
    show Steps p.tables e below (T15.setTop (mkF m 20 #[.val (.ref a1), .val (.int u), .val (.double key), .second] [(.ref a1)])) _
    exact k
  obtain ⟨T29, X29, e29, st29⟩ := getF X15 hx hZ hown (host := "") (Or.inl (hw _ (List.mem_of_getElem? (i := 15) rfl))) Via.refl e15 f20 (g := (mkF m 20 #[.val (.ref a1), .val (.int u), .val (.double key), .second] [(.ref a1)])) rfl rfl (hb hby d6_20)
  have go30 : Goes p e below s₁ (entryFrame m #[(.ref a1), (.int u), (.double key)] 4) T29 (mkF m 23 #[.val (.ref a1), .val (.int u), .val (.double key), .second] [(.ref aP)]) := fun t k => go28 t (st29 t k)
  have go31 : Goes p e below s₁ (entryFrame m #[(.ref a1), (.int u), (.double key)] 4) T29 (mkF m 26 #[.val (.ref a1), .val (.int u), .val (.double key), .second] [(.ref a1), (.ref a1), (.int u), (.ref aP)]) := fun t k => by
    refine go30 t ?_
    refine XS.iloadN X29.here hx rfl (hb hby d6_23) rfl ?_
    show Steps p.tables e below (T29.setTop (mkF m 24 #[.val (.ref a1), .val (.int u), .val (.double key), .second] [(.int u), (.ref aP)])) _
    refine XS.aloadN X29.here hx rfl (hb hby d6_24) rfl rfl ?_
    show Steps p.tables e below (T29.setTop (mkF m 25 #[.val (.ref a1), .val (.int u), .val (.double key), .second] [(.ref a1), (.int u), (.ref aP)])) _
    refine XS.dup X29.here hx rfl (hb hby d6_25) rfl rfl ?_
    show Steps p.tables e below (T29.setTop (mkF m 26 #[.val (.ref a1), .val (.int u), .val (.double key), .second] [(.ref a1), (.ref a1), (.int u), (.ref aP)])) _
    exact k
  obtain ⟨T32, X32, e32, st32⟩ := getF X29 hx hZ hown (host := "") (Or.inl (hw _ (List.mem_of_getElem? (i := 26) rfl))) Via.refl e29 f21 (g := (mkF m 26 #[.val (.ref a1), .val (.int u), .val (.double key), .second] [(.ref a1), (.ref a1), (.int u), (.ref aP)])) rfl rfl (hb hby d6_26)
  have go33 : Goes p e below s₁ (entryFrame m #[(.ref a1), (.int u), (.double key)] 4) T32 (mkF m 29 #[.val (.ref a1), .val (.int u), .val (.double key), .second] [(.int (1 : Int32)), (.ref a1), (.int u), (.ref aP)]) := fun t k => go31 t (st32 t k)
  have go34 : Goes p e below s₁ (entryFrame m #[(.ref a1), (.int u), (.double key)] 4) T32 (mkF m 32 #[.val (.ref a1), .val (.int u), .val (.double key), .second] [(.int (2 : Int32)), (.ref a1), (.int (1 : Int32)), (.int u), (.ref aP)]) := fun t k => by
    refine go33 t ?_
    refine XS.dupX1 X32.here hx rfl (hb hby d6_29) rfl rfl rfl ?_
    show Steps p.tables e below (T32.setTop (mkF m 30 #[.val (.ref a1), .val (.int u), .val (.double key), .second] [(.int (1 : Int32)), (.ref a1), (.int (1 : Int32)), (.int u), (.ref aP)])) _
    refine XS.iconst X32.here hx rfl (hb hby d6_30) ?_
    show Steps p.tables e below (T32.setTop (mkF m 31 #[.val (.ref a1), .val (.int u), .val (.double key), .second] [(.int (1 : Int32)), (.int (1 : Int32)), (.ref a1), (.int (1 : Int32)), (.int u), (.ref aP)])) _
    refine XS.iadd X32.here hx rfl (hb hby d6_31) rfl ?_
    show Steps p.tables e below (T32.setTop (mkF m 32 #[.val (.ref a1), .val (.int u), .val (.double key), .second] [(.int (2 : Int32)), (.ref a1), (.int (1 : Int32)), (.int u), (.ref aP)])) _
    exact k
  obtain ⟨T35, h35, X35, e35, W35, st35⟩ := putF X32 hx hZ hown (host := "") (Or.inl (hw _ (List.mem_of_getElem? (i := 26) rfl))) Via.refl e32 f21 f17 (Or.inl (hw _ (List.mem_of_getElem? (i := 27) rfl))) (hw _ (List.mem_of_getElem? (i := 1) rfl)) (ty := .int) (by decide) rfl rfl (g := (mkF m 32 #[.val (.ref a1), .val (.int u), .val (.double key), .second] [(.int (2 : Int32)), (.ref a1), (.int (1 : Int32)), (.int u), (.ref aP)])) rfl rfl (hb hby d6_32)
  have f36 := f21.same W35
  have f37 := f17.wr W35
  have f38 := f18.other W35 (Or.inr (slot_ne (Or.inr (hw _ (List.mem_of_getElem? (i := 11) rfl))) (Or.inl (hw _ (List.mem_of_getElem? (i := 27) rfl))) (by decide) (t := (.array .double)) (t' := .int) (by decide) (by decide)))
  have f39 := f19.other W35 (Or.inr (slot_ne (Or.inr (hw _ (List.mem_of_getElem? (i := 14) rfl))) (Or.inl (hw _ (List.mem_of_getElem? (i := 27) rfl))) (by decide) (t := (.array .int)) (t' := .int) (by decide) (by decide)))
  have f40 := f20.other W35 (Or.inr (slot_ne (Or.inr (hw _ (List.mem_of_getElem? (i := 16) rfl))) (Or.inl (hw _ (List.mem_of_getElem? (i := 27) rfl))) (by decide) (t := (.array .int)) (t' := .int) (by decide) (by decide)))
  have f41 := f22.other W35 (Ne.symm nAK)
  have f42 := f23.other W35 (Ne.symm nAP)
  have f43 := V16.other W35 (Ne.symm nAI)
  have Z44 := Nat.le_trans Z24 (Nat.le_of_eq W35.size.symm)
  have K45 := K25.wr W35 (Or.inl (List.mem_of_getElem? (i := 0) rfl))
  have N46 := Fr.snoc X35 N26 gA
  have go47 : Goes p e below s₁ (entryFrame m #[(.ref a1), (.int u), (.double key)] 4) T35 (mkF m 35 #[.val (.ref a1), .val (.int u), .val (.double key), .second] [(.int (1 : Int32)), (.int u), (.ref aP)]) := fun t k => go34 t (st35 t k)
  obtain ⟨cl48, Ar48, kq48, Sz48, Nn48, Hs48, Gf48⟩ := id (f42)
  have hin48 : ¬ (u < 0 ∨ cl48.slots.size ≤ (u).toNatClampNeg) := inb_of Sz48 (own_inb Ru)
  obtain ⟨T49, h49, X49, e49, W49, st49⟩ := stI X35 hx hZ e35 Ar48 (j := u) hin48 (g := (mkF m 35 #[.val (.ref a1), .val (.int u), .val (.double key), .second] [(.int (1 : Int32)), (.int u), (.ref aP)])) rfl rfl (hb hby d6_35)
  have V50 : Arv Z h49 aP kp .int 3 (own_l (own_u σ.2 u (1 : Int32))) (.int (0 : Int32)) := by rw [← own_l_set Ru]; exact Arv.set Ar48 kq48 Sz48 Nn48 Hs48 Gf48 rfl W49 _ rfl (own_l_len Ru)
  have f51 := f37.wr W49
  have f52 := f38.other W49 (Or.inl nAP)
  have f53 := f39.other W49 (Or.inl nAP)
  have f54 := f40.other W49 (Or.inl nAP)
  have f55 := f41.other W49 nKP
  have f56 := f43.other W49 nIP
  have f57 := f36.other W49 (Or.inl nAP)
  have Z58 := Nat.le_trans Z44 (Nat.le_of_eq W49.size.symm)
  have K59 := K45.wr W49 (Or.inl (List.mem_of_getElem? (i := 3) rfl))
  have N60 := Fr.snoc X49 N46 gP
  have go61 : Goes p e below s₁ (entryFrame m #[(.ref a1), (.int u), (.double key)] 4) T49 (mkF m 36 #[.val (.ref a1), .val (.int u), .val (.double key), .second] []) := fun t k => go47 t (st49 t k)
  have go62 : Goes p e below s₁ (entryFrame m #[(.ref a1), (.int u), (.double key)] 4) T49 (mkF m 37 #[.val (.ref a1), .val (.int u), .val (.double key), .second] [(.ref a1)]) := fun t k => by
    refine go61 t ?_
    refine XS.aloadN X49.here hx rfl (hb hby d6_36) rfl rfl ?_
    show Steps p.tables e below (T49.setTop (mkF m 37 #[.val (.ref a1), .val (.int u), .val (.double key), .second] [(.ref a1)])) _
    exact k
  obtain ⟨T63, X63, e63, st63⟩ := getF X49 hx hZ hown (host := "") (Or.inl (hw _ (List.mem_of_getElem? (i := 10) rfl))) Via.refl e49 f52 (g := (mkF m 37 #[.val (.ref a1), .val (.int u), .val (.double key), .second] [(.ref a1)])) rfl rfl (hb hby d6_37)
  have go64 : Goes p e below s₁ (entryFrame m #[(.ref a1), (.int u), (.double key)] 4) T63 (mkF m 40 #[.val (.ref a1), .val (.int u), .val (.double key), .second] [(.ref aK)]) := fun t k => go62 t (st63 t k)
  have go65 : Goes p e below s₁ (entryFrame m #[(.ref a1), (.int u), (.double key)] 4) T63 (mkF m 42 #[.val (.ref a1), .val (.int u), .val (.double key), .second] [(.double key), (.int u), (.ref aK)]) := fun t k => by
    refine go64 t ?_
    refine XS.iloadN X63.here hx rfl (hb hby d6_40) rfl ?_
    show Steps p.tables e below (T63.setTop (mkF m 41 #[.val (.ref a1), .val (.int u), .val (.double key), .second] [(.int u), (.ref aK)])) _
    refine Jvm.Free.XS.dloadN X63.here hx rfl (hb hby d6_41) rfl ?_
    show Steps p.tables e below (T63.setTop (mkF m 42 #[.val (.ref a1), .val (.int u), .val (.double key), .second] [(.double key), (.int u), (.ref aK)])) _
    exact k
  obtain ⟨cl66, Ar66, kq66, Sz66, Nn66, Hs66, Gf66⟩ := id (f55)
  have hin66 : ¬ (u < 0 ∨ cl66.slots.size ≤ (u).toNatClampNeg) := inb_of Sz66 (own_inb Ru)
  obtain ⟨T67, h67, X67, e67, W67, st67⟩ := stD X63 hx hZ e63 Ar66 (j := u) hin66 (g := (mkF m 42 #[.val (.ref a1), .val (.int u), .val (.double key), .second] [(.double key), (.int u), (.ref aK)])) rfl rfl (hb hby d6_42)
  have V68 : Arv Z h67 aK kk .double 3 (own_d (own_u kf u key)) (.double (0 : UInt64)) := by rw [← own_d_set Ru]; exact Arv.set Ar66 kq66 Sz66 Nn66 Hs66 Gf66 rfl W67 _ rfl (own_d_len Ru)
  have f69 := f51.wr W67
  have f70 := f52.other W67 (Or.inl nAK)
  have f71 := f53.other W67 (Or.inl nAK)
  have f72 := f54.other W67 (Or.inl nAK)
  have f73 := f56.other W67 (Ne.symm nKI)
  have f74 := f57.other W67 (Or.inl nAK)
  have f75 := V50.other W67 (Ne.symm nKP)
  have Z76 := Nat.le_trans Z58 (Nat.le_of_eq W67.size.symm)
  have K77 := K59.wr W67 (Or.inl (List.mem_of_getElem? (i := 1) rfl))
  have N78 := Fr.snoc X67 N60 gK
  have go79 : Goes p e below s₁ (entryFrame m #[(.ref a1), (.int u), (.double key)] 4) T67 (mkF m 43 #[.val (.ref a1), .val (.int u), .val (.double key), .second] []) := fun t k => go65 t (st67 t k)
  have go80 : Goes p e below s₁ (entryFrame m #[(.ref a1), (.int u), (.double key)] 4) T67 (mkF m 45 #[.val (.ref a1), .val (.int u), .val (.double key), .second] [(.ref a1), (.ref a1)]) := fun t k => by
    refine go79 t ?_
    refine XS.aloadN X67.here hx rfl (hb hby d6_43) rfl rfl ?_
    show Steps p.tables e below (T67.setTop (mkF m 44 #[.val (.ref a1), .val (.int u), .val (.double key), .second] [(.ref a1)])) _
    refine XS.aloadN X67.here hx rfl (hb hby d6_44) rfl rfl ?_
    show Steps p.tables e below (T67.setTop (mkF m 45 #[.val (.ref a1), .val (.int u), .val (.double key), .second] [(.ref a1), (.ref a1)])) _
    exact k
  obtain ⟨T81, X81, e81, st81⟩ := getF X67 hx hZ hown (host := "") (Or.inl (hw _ (List.mem_of_getElem? (i := 15) rfl))) Via.refl e67 f72 (g := (mkF m 45 #[.val (.ref a1), .val (.int u), .val (.double key), .second] [(.ref a1), (.ref a1)])) rfl rfl (hb hby d6_45)
  have go82 : Goes p e below s₁ (entryFrame m #[(.ref a1), (.int u), (.double key)] 4) T81 (mkF m 48 #[.val (.ref a1), .val (.int u), .val (.double key), .second] [(.ref aP), (.ref a1)]) := fun t k => go80 t (st81 t k)
  have go83 : Goes p e below s₁ (entryFrame m #[(.ref a1), (.int u), (.double key)] 4) T81 (mkF m 49 #[.val (.ref a1), .val (.int u), .val (.double key), .second] [(.int u), (.ref aP), (.ref a1)]) := fun t k => by
    refine go82 t ?_
    refine XS.iloadN X81.here hx rfl (hb hby d6_48) rfl ?_
    show Steps p.tables e below (T81.setTop (mkF m 49 #[.val (.ref a1), .val (.int u), .val (.double key), .second] [(.int u), (.ref aP), (.ref a1)])) _
    exact k
  obtain ⟨cl84, Ar84, kq84, Sz84, Nn84, Hs84, Gf84⟩ := id (f75)
  have hin84 : ¬ (u < 0 ∨ cl84.slots.size ≤ (u).toNatClampNeg) := inb_of Sz84 (own_inb Ru)
  have hat84 : cl84.slots[(u).toNatClampNeg]? = some (.int (1 : Int32)) := Has.at Hs84 hin84 ((own_l_at Ru).trans (congrArg _ own_us))
  have go85 : Goes p e below s₁ (entryFrame m #[(.ref a1), (.int u), (.double key)] 4) T81 (mkF m 50 #[.val (.ref a1), .val (.int u), .val (.double key), .second] [(.int (1 : Int32)), (.ref a1)]) := fun t k => by
    refine go83 t ?_
    refine X81.iaload hx (j := u) (v := (.int (1 : Int32))) (own_hp e81 Ar84.1) (State.isArrayOf_alike hZ.alike Ar84.2.1) Ar84.2.2 hin84 hat84 (g := (mkF m 49 #[.val (.ref a1), .val (.int u), .val (.double key), .second] [(.int u), (.ref aP), (.ref a1)])) rfl rfl (hb hby d6_49) _ ?_
    show Steps p.tables e below (T81.setTop (mkF m 50 #[.val (.ref a1), .val (.int u), .val (.double key), .second] [(.int (1 : Int32)), (.ref a1)])) _
    exact k
  obtain ⟨cq86, q86a, q86b⟩ := f69.cell
  obtain ⟨_, _, ⟨T86, L86, k86, n86⟩, -, X86, ⟨Lc86, hQ86, l86, y86, z86⟩, st86⟩ := X81.privateBack hx (y := (⟨"com/example/covermesh/covermesh/algorithms/IndexedMinHeap", "siftUp", "(I)V"⟩ : MethodName)) hown (mvT hZ (hw _ (List.mem_of_getElem? (i := 37) rfl))) (mvT hZ (hw _ (List.mem_of_getElem? (i := 38) rfl))) (own_selp (y := (⟨"com/example/covermesh/covermesh/algorithms/IndexedMinHeap", "siftUp", "(I)V"⟩ : MethodName)) (by decide) (mvT hZ (hw _ (List.mem_of_getElem? (i := 1) rfl))) (mvP hZ (hw _ (List.mem_of_getElem? (i := 39) rfl))) (mvT hZ (hw _ (List.mem_of_getElem? (i := 38) rfl)))) (Cond.privateMethod_at (mvP hZ (hw _ (List.mem_of_getElem? (i := 39) rfl)) (args := #[]))) (mvT hZ (hw _ (List.mem_of_getElem? (i := 40) rfl))) (by decide) (backOf (W := 0) (rmU1 l Z a0 hw [] a1 aK aI aP kk ki kp (own_u kf u key) ((own_u σ.1 (1 : Int32) u), (own_u σ.2 u (1 : Int32))) (2 : Int32) h67 n0 Z76 f69 f70 f71 f72 f74 V68 f73 f75 nKI nKP nIP nAK nAI nAP gA gK gI gP (show own_R (own_u σ.1 (1 : Int32) u (1 : Int32)) from own_u_R Ru (fun h => absurd rfl h)) (show own_R (own_u σ.1 (1 : Int32) u (0 : Int32)) from own_u_R Ru (fun _ => R0))) hZ (hw _ (List.mem_of_getElem? (i := 40) rfl)) (hw _ (List.mem_of_getElem? (i := 2) rfl)) (by decide) (by decide)) (g := (mkF m 50 #[.val (.ref a1), .val (.int u), .val (.double key), .second] [(.int (1 : Int32)), (.ref a1)])) rfl (by rw [hml]; rfl) (Steps.refl _) (a := a1) (by rw [e81]; exact q86a) q86b (argsL := [(.int (1 : Int32))]) (rest := []) (lenOf pd_2 rfl) rfl (by show 2 * 0 + _ ≤ _; exact Nat.le_of_eq rfl) (hb hby d6_50) (fun _ _ => ⟨rfl, e81, (by decide : 0 + 0 ≤ ({ frames := 2, cells := 0, slots := 0, locals := 29 } : Room).cells), (by decide : 0 + 0 ≤ ({ frames := 2, cells := 0, slots := 0, locals := 29 } : Room).slots)⟩)
  dsimp only [Pt.U, Pt.locs, Pt.cells, Pt.slots] at X86 l86 y86 z86 st86 hQ86
  subst l86 y86 z86
  obtain ⟨rfl, N86q, Kq86, VIq86, VPq86⟩ := hQ86
  have N86 := Fr.app N78 N86q
  have f87 := f69.keep Kq86
  have f88 := f70.keep Kq86 (ninS nAI (ninS nAP nin0))
  have f89 := f71.keep Kq86 (ninS nAI (ninS nAP nin0))
  have f90 := f72.keep Kq86 (ninS nAI (ninS nAP nin0))
  have f91 := f74.keep Kq86 (ninS nAI (ninS nAP nin0))
  have f92 := V68.keep Kq86 (ninS nKI (ninS nKP nin0))
  have Z93 := Nat.le_trans Z76 Kq86.1
  have K94 := K77.trans Kq86 (allS (Or.inl (List.mem_of_getElem? (i := 2) rfl)) (allS (Or.inl (List.mem_of_getElem? (i := 3) rfl)) all0))
  obtain ⟨τ86, hτ86⟩ : ∃ z, z = own_up (own_u kf u key) ((own_u σ.1 (1 : Int32) u), (own_u σ.2 u (1 : Int32))) (1 : Int32) := ⟨_, rfl⟩
  rw [← hτ86] at VIq86 VPq86
  have go95 : Goes p e below s₁ (entryFrame m #[(.ref a1), (.int u), (.double key)] 4) T86 (mkF m 53 #[.val (.ref a1), .val (.int u), .val (.double key), .second] []) := fun t k => go85 t (st86.trans k)
  have go96 : Goes p e below s₁ (entryFrame m #[(.ref a1), (.int u), (.double key)] 4) T86 (mkF m 55 #[.val (.ref a1), .val (.int u), .val (.double key), .second] [(.ref a1), (.ref a1)]) := fun t k => by
    refine go95 t ?_
    refine XS.aloadN X86.here hx rfl (hb hby d6_53) rfl rfl ?_
    show Steps p.tables e below (T86.setTop (mkF m 54 #[.val (.ref a1), .val (.int u), .val (.double key), .second] [(.ref a1)])) _
    refine XS.aloadN X86.here hx rfl (hb hby d6_54) rfl rfl ?_
    show Steps p.tables e below (T86.setTop (mkF m 55 #[.val (.ref a1), .val (.int u), .val (.double key), .second] [(.ref a1), (.ref a1)])) _
    exact k
  obtain ⟨T97, X97, e97, st97⟩ := getF X86 hx hZ hown (host := "") (Or.inl (hw _ (List.mem_of_getElem? (i := 15) rfl))) Via.refl rfl f90 (g := (mkF m 55 #[.val (.ref a1), .val (.int u), .val (.double key), .second] [(.ref a1), (.ref a1)])) rfl rfl (hb hby d6_55)
  have go98 : Goes p e below s₁ (entryFrame m #[(.ref a1), (.int u), (.double key)] 4) T97 (mkF m 58 #[.val (.ref a1), .val (.int u), .val (.double key), .second] [(.ref aP), (.ref a1)]) := fun t k => go96 t (st97 t k)
  have go99 : Goes p e below s₁ (entryFrame m #[(.ref a1), (.int u), (.double key)] 4) T97 (mkF m 59 #[.val (.ref a1), .val (.int u), .val (.double key), .second] [(.int u), (.ref aP), (.ref a1)]) := fun t k => by
    refine go98 t ?_
    refine XS.iloadN X97.here hx rfl (hb hby d6_58) rfl ?_
    show Steps p.tables e below (T97.setTop (mkF m 59 #[.val (.ref a1), .val (.int u), .val (.double key), .second] [(.int u), (.ref aP), (.ref a1)])) _
    exact k
  obtain ⟨cl100, Ar100, kq100, Sz100, Nn100, Hs100, Gf100⟩ := id (VPq86)
  have hin100 : ¬ (u < 0 ∨ cl100.slots.size ≤ (u).toNatClampNeg) := inb_of Sz100 (own_inb Ru)
  have hat100 : cl100.slots[(u).toNatClampNeg]? = some (.int (τ86.2 u)) := Has.at Hs100 hin100 (own_l_at Ru)
  have go101 : Goes p e below s₁ (entryFrame m #[(.ref a1), (.int u), (.double key)] 4) T97 (mkF m 60 #[.val (.ref a1), .val (.int u), .val (.double key), .second] [(.int (τ86.2 u)), (.ref a1)]) := fun t k => by
    refine go99 t ?_
    refine X97.iaload hx (j := u) (v := (.int (τ86.2 u))) (own_hp e97 Ar100.1) (State.isArrayOf_alike hZ.alike Ar100.2.1) Ar100.2.2 hin100 hat100 (g := (mkF m 59 #[.val (.ref a1), .val (.int u), .val (.double key), .second] [(.int u), (.ref aP), (.ref a1)])) rfl rfl (hb hby d6_59) _ ?_
    show Steps p.tables e below (T97.setTop (mkF m 60 #[.val (.ref a1), .val (.int u), .val (.double key), .second] [(.int (τ86.2 u)), (.ref a1)])) _
    exact k
  have hpos : τ86.2 u = (1 : Int32) ∨ τ86.2 u = 0 := by rw [hτ86]; exact own_up_pos (show own_u σ.1 (1 : Int32) u (1 : Int32) = u from own_us)
  have hR0 : ∀ j : Int32, j < (2 : Int32) ∧ ¬ j < 0 → own_R (own_u σ.1 (1 : Int32) u j) := by
    intro j hj
    refine own_u_R Ru (fun hne => ?_)
    have : j = 0 := by
      have h1 := hj.1; have h2 := hj.2; rw [Int32.lt_iff_toInt_lt] at h1 h2
      have h3 : ((2 : Int32)).toInt = 2 := rfl
      have h4 : (0 : Int32).toInt = 0 := rfl
      have h5 : ¬ j.toInt = 1 := fun q => hne (own_of_toInt q)
      have h6 : j.toInt = 0 := by omega
      rcases h6 with h6
      · exact (own_of_toInt h6)
    rcases this with rfl
    · exact R0
  have hR102 : ∀ j : Int32, j < (2 : Int32) ∧ ¬ j < 0 → own_R (τ86.1 j) := fun j hj => by rw [hτ86]; exact own_up_R (hR0 (1 : Int32) (by decide)) (hR0 (0 : Int32) (by decide)) (hR0 j hj)
  rcases hpos with hp | hp
  · have go103 : Goes p e below s₁ (entryFrame m #[(.ref a1), (.int u), (.double key)] 4) T97 (mkF m 60 #[.val (.ref a1), .val (.int u), .val (.double key), .second] [(.int (1 : Int32)), (.ref a1)]) := Eq.mp (congrArg (fun zz => Goes p e below s₁ (entryFrame m #[(.ref a1), (.int u), (.double key)] 4) T97 (mkF m 60 #[.val (.ref a1), .val (.int u), .val (.double key), .second] [(.int zz), (.ref a1)])) hp) go101
    obtain ⟨cq104, q104a, q104b⟩ := f87.cell
    obtain ⟨_, _, ⟨T104, L104, k104, n104⟩, -, X104, ⟨Lc104, hQ104, l104, y104, z104⟩, st104⟩ := X97.privateBack hx (y := (⟨"com/example/covermesh/covermesh/algorithms/IndexedMinHeap", "siftDown", "(I)V"⟩ : MethodName)) hown (mvT hZ (hw _ (List.mem_of_getElem? (i := 45) rfl))) (mvT hZ (hw _ (List.mem_of_getElem? (i := 46) rfl))) (own_selp (y := (⟨"com/example/covermesh/covermesh/algorithms/IndexedMinHeap", "siftDown", "(I)V"⟩ : MethodName)) (by decide) (mvT hZ (hw _ (List.mem_of_getElem? (i := 1) rfl))) (mvP hZ (hw _ (List.mem_of_getElem? (i := 47) rfl))) (mvT hZ (hw _ (List.mem_of_getElem? (i := 46) rfl)))) (Cond.privateMethod_at (mvP hZ (hw _ (List.mem_of_getElem? (i := 47) rfl)) (args := #[]))) (mvT hZ (hw _ (List.mem_of_getElem? (i := 48) rfl))) (by decide) (backOf (W := 0) (rmD12 l Z a0 hw [] a1 aK aI aP kk ki kp (own_u kf u key) τ86 T86.heap n0 Z93 f87 f88 f89 f90 f91 f92 VIq86 VPq86 nKI nKP nIP nAK nAI nAP gA gK gI gP (hR102 (1 : Int32) (by decide))) hZ (hw _ (List.mem_of_getElem? (i := 48) rfl)) (hw _ (List.mem_of_getElem? (i := 2) rfl)) (by decide) (by decide)) (g := (mkF m 60 #[.val (.ref a1), .val (.int u), .val (.double key), .second] [(.int (1 : Int32)), (.ref a1)])) rfl (by rw [hml]; rfl) (Steps.refl _) (a := a1) (by rw [e97]; exact q104a) q104b (argsL := [(.int (1 : Int32))]) (rest := []) (lenOf pd_2 rfl) rfl (by show 2 * 0 + _ ≤ _; exact Nat.le_of_eq rfl) (hb hby d6_60) (fun _ _ => ⟨rfl, e97, (by decide : 0 + 0 ≤ ({ frames := 2, cells := 0, slots := 0, locals := 29 } : Room).cells), (by decide : 0 + 0 ≤ ({ frames := 2, cells := 0, slots := 0, locals := 29 } : Room).slots)⟩)
    dsimp only [Pt.U, Pt.locs, Pt.cells, Pt.slots] at X104 l104 y104 z104 st104 hQ104
    subst l104 y104 z104
    obtain ⟨rfl, N104q, Kq104, VIq104, VPq104⟩ := hQ104
    have N104 := Fr.app N86 N104q
    have f105 := f87.keep Kq104
    have f106 := f88.keep Kq104 (ninS nAI (ninS nAP nin0))
    have f107 := f89.keep Kq104 (ninS nAI (ninS nAP nin0))
    have f108 := f90.keep Kq104 (ninS nAI (ninS nAP nin0))
    have f109 := f91.keep Kq104 (ninS nAI (ninS nAP nin0))
    have f110 := f92.keep Kq104 (ninS nKI (ninS nKP nin0))
    have Z111 := Nat.le_trans Z93 Kq104.1
    have K112 := K94.trans Kq104 (allS (Or.inl (List.mem_of_getElem? (i := 2) rfl)) (allS (Or.inl (List.mem_of_getElem? (i := 3) rfl)) all0))
    have go113 : Goes p e below s₁ (entryFrame m #[(.ref a1), (.int u), (.double key)] 4) T104 (mkF m 63 #[.val (.ref a1), .val (.int u), .val (.double key), .second] []) := fun t k => go103 t (st104.trans k)
    obtain ⟨fs, hr, hrun, hended, hW, hsame⟩ := X104.leave (v := none) (fun _ => rfl)
    have hput : own_putA (own_u kf u key) σ u (1 : Int32) = own_dn (own_u kf u key) τ86 (1 : Int32) (2 : Int32) := by
      show own_dn (own_u kf u key) (own_up (own_u kf u key) (own_u σ.1 (1 : Int32) u, own_u σ.2 u (1 : Int32)) (own_u σ.2 u (1 : Int32) u)) ((own_up (own_u kf u key) (own_u σ.1 (1 : Int32) u, own_u σ.2 u (1 : Int32)) (own_u σ.2 u (1 : Int32) u)).2 u) ((1 : Int32) + 1) = _
      rw [own_us, ← hτ86, hp]; rfl
    refine ⟨_, _, go113 _ ?_, hrun, hended, _, _, rfl, ?_, ⟨_, rfl⟩, hW, hsame.mono (by decide) (by decide)⟩
    · exact X104.returnOut hx Bd.returns (hb hby d6_63) hr
    · show QPA1 Z _ _ _ _ _ _ _ _ _ _ _ _ _ _ T104.heap _
      exact ⟨rfl, N104, K112, f105, f106, f107, f108, f109, f110, by rw [hput]; exact VIq104, by rw [hput]; exact VPq104⟩
  · have go114 : Goes p e below s₁ (entryFrame m #[(.ref a1), (.int u), (.double key)] 4) T97 (mkF m 60 #[.val (.ref a1), .val (.int u), .val (.double key), .second] [(.int (0 : Int32)), (.ref a1)]) := Eq.mp (congrArg (fun zz => Goes p e below s₁ (entryFrame m #[(.ref a1), (.int u), (.double key)] 4) T97 (mkF m 60 #[.val (.ref a1), .val (.int u), .val (.double key), .second] [(.int zz), (.ref a1)])) hp) go101
    obtain ⟨cq115, q115a, q115b⟩ := f87.cell
    obtain ⟨_, _, ⟨T115, L115, k115, n115⟩, -, X115, ⟨Lc115, hQ115, l115, y115, z115⟩, st115⟩ := X97.privateBack hx (y := (⟨"com/example/covermesh/covermesh/algorithms/IndexedMinHeap", "siftDown", "(I)V"⟩ : MethodName)) hown (mvT hZ (hw _ (List.mem_of_getElem? (i := 45) rfl))) (mvT hZ (hw _ (List.mem_of_getElem? (i := 46) rfl))) (own_selp (y := (⟨"com/example/covermesh/covermesh/algorithms/IndexedMinHeap", "siftDown", "(I)V"⟩ : MethodName)) (by decide) (mvT hZ (hw _ (List.mem_of_getElem? (i := 1) rfl))) (mvP hZ (hw _ (List.mem_of_getElem? (i := 47) rfl))) (mvT hZ (hw _ (List.mem_of_getElem? (i := 46) rfl)))) (Cond.privateMethod_at (mvP hZ (hw _ (List.mem_of_getElem? (i := 47) rfl)) (args := #[]))) (mvT hZ (hw _ (List.mem_of_getElem? (i := 48) rfl))) (by decide) (backOf (W := 0) (rmD02 l Z a0 hw [] a1 aK aI aP kk ki kp (own_u kf u key) τ86 T86.heap n0 Z93 f87 f88 f89 f90 f91 f92 VIq86 VPq86 nKI nKP nIP nAK nAI nAP gA gK gI gP (hR102 (0 : Int32) (by decide)) (hR102 (1 : Int32) (by decide))) hZ (hw _ (List.mem_of_getElem? (i := 48) rfl)) (hw _ (List.mem_of_getElem? (i := 2) rfl)) (by decide) (by decide)) (g := (mkF m 60 #[.val (.ref a1), .val (.int u), .val (.double key), .second] [(.int (0 : Int32)), (.ref a1)])) rfl (by rw [hml]; rfl) (Steps.refl _) (a := a1) (by rw [e97]; exact q115a) q115b (argsL := [(.int (0 : Int32))]) (rest := []) (lenOf pd_2 rfl) rfl (by show 2 * 0 + _ ≤ _; exact Nat.le_of_eq rfl) (hb hby d6_60) (fun _ _ => ⟨rfl, e97, (by decide : 0 + 0 ≤ ({ frames := 2, cells := 0, slots := 0, locals := 29 } : Room).cells), (by decide : 0 + 0 ≤ ({ frames := 2, cells := 0, slots := 0, locals := 29 } : Room).slots)⟩)
    dsimp only [Pt.U, Pt.locs, Pt.cells, Pt.slots] at X115 l115 y115 z115 st115 hQ115
    subst l115 y115 z115
    obtain ⟨rfl, N115q, Kq115, VIq115, VPq115⟩ := hQ115
    have N115 := Fr.app N86 N115q
    have f116 := f87.keep Kq115
    have f117 := f88.keep Kq115 (ninS nAI (ninS nAP nin0))
    have f118 := f89.keep Kq115 (ninS nAI (ninS nAP nin0))
    have f119 := f90.keep Kq115 (ninS nAI (ninS nAP nin0))
    have f120 := f91.keep Kq115 (ninS nAI (ninS nAP nin0))
    have f121 := f92.keep Kq115 (ninS nKI (ninS nKP nin0))
    have Z122 := Nat.le_trans Z93 Kq115.1
    have K123 := K94.trans Kq115 (allS (Or.inl (List.mem_of_getElem? (i := 2) rfl)) (allS (Or.inl (List.mem_of_getElem? (i := 3) rfl)) all0))
    have go124 : Goes p e below s₁ (entryFrame m #[(.ref a1), (.int u), (.double key)] 4) T115 (mkF m 63 #[.val (.ref a1), .val (.int u), .val (.double key), .second] []) := fun t k => go114 t (st115.trans k)
    obtain ⟨fs, hr, hrun, hended, hW, hsame⟩ := X115.leave (v := none) (fun _ => rfl)
    have hput : own_putA (own_u kf u key) σ u (1 : Int32) = own_dn (own_u kf u key) τ86 (0 : Int32) (2 : Int32) := by
      show own_dn (own_u kf u key) (own_up (own_u kf u key) (own_u σ.1 (1 : Int32) u, own_u σ.2 u (1 : Int32)) (own_u σ.2 u (1 : Int32) u)) ((own_up (own_u kf u key) (own_u σ.1 (1 : Int32) u, own_u σ.2 u (1 : Int32)) (own_u σ.2 u (1 : Int32) u)).2 u) ((1 : Int32) + 1) = _
      rw [own_us, ← hτ86, hp]; rfl
    refine ⟨_, _, go124 _ ?_, hrun, hended, _, _, rfl, ?_, ⟨_, rfl⟩, hW, hsame.mono (by decide) (by decide)⟩
    · exact X115.returnOut hx Bd.returns (hb hby d6_63) hr
    · show QPA1 Z _ _ _ _ _ _ _ _ _ _ _ _ _ _ T115.heap _
      exact ⟨rfl, N115, K123, f116, f117, f118, f119, f120, f121, by rw [hput]; exact VIq115, by rw [hput]; exact VPq115⟩
theorem ef_rmPA2 (m : MethodId) (a1 : Addr) (u : Int32) (key : UInt64) : entryFrame m #[(.ref a1), (.int u), (.double key)] 4 = mkF m 0 #[.val (.ref a1), .val (.int u), .val (.double key), .second] [] := by first | (simp [entryFrame, mkF, argsToLocals, Value.category]; done) | rfl
def QPA2 (Z : State) (a1 : Addr) (u : Int32) (key : UInt64) (aK aI aP : Addr) (kk ki kp : ClassId) (kf : Int32 → UInt64) (σ : own_P) (h0 : Heap) (n0 : Nat) (v : Option Value) (h : Heap) (L : List Loc) : Prop := v = none ∧ Fr n0 L ∧ Keep h0 h [a1, aK, aI, aP] ∧ Exa Z h a1 "com/example/covermesh/covermesh/algorithms/IndexedMinHeap" ∧ Fld Z h a1 "com/example/covermesh/covermesh/algorithms/IndexedMinHeap" "keys" "[D" (.ref aK) ∧ Fld Z h a1 "com/example/covermesh/covermesh/algorithms/IndexedMinHeap" "items" "[I" (.ref aI) ∧ Fld Z h a1 "com/example/covermesh/covermesh/algorithms/IndexedMinHeap" "positions" "[I" (.ref aP) ∧ Fld Z h a1 "com/example/covermesh/covermesh/algorithms/IndexedMinHeap" "size" "I" (.int (3 : Int32)) ∧ Arv Z h aK kk .double 3 (own_d (own_u kf u key)) (.double (0 : UInt64)) ∧ Arv Z h aI ki .int 3 (own_l (own_putA (own_u kf u key) σ u (2 : Int32)).1) (.int (0 : Int32)) ∧ Arv Z h aP kp .int 3 (own_l (own_putA (own_u kf u key) σ u (2 : Int32)).2) (.int (0 : Int32))
set_option maxRecDepth 65536 in
set_option maxHeartbeats 40000000 in
theorem rmPA2 (l : Launch) (Z : State) (a0 : Array Value) (hw : ∀ d ∈ tables_1, d.before a0 Z = true) (ws : List Jvm.Cond) (a1 : Addr) (u : Int32) (key : UInt64) (aK aI aP : Addr) (kk ki kp : ClassId) (kf : Int32 → UInt64) (σ : own_P) (h0 : Heap) (n0 : Nat) (Z0 : n0 ≤ h0.size) (E1 : Exa Z h0 a1 "com/example/covermesh/covermesh/algorithms/IndexedMinHeap") (FK : Fld Z h0 a1 "com/example/covermesh/covermesh/algorithms/IndexedMinHeap" "keys" "[D" (.ref aK)) (FI : Fld Z h0 a1 "com/example/covermesh/covermesh/algorithms/IndexedMinHeap" "items" "[I" (.ref aI)) (FP : Fld Z h0 a1 "com/example/covermesh/covermesh/algorithms/IndexedMinHeap" "positions" "[I" (.ref aP)) (FS : Fld Z h0 a1 "com/example/covermesh/covermesh/algorithms/IndexedMinHeap" "size" "I" (.int (2 : Int32))) (VK : Arv Z h0 aK kk .double 3 (own_d kf) (.double (0 : UInt64))) (VI : Arv Z h0 aI ki .int 3 (own_l σ.1) (.int (0 : Int32))) (VP : Arv Z h0 aP kp .int 3 (own_l σ.2) (.int (0 : Int32))) (nKI : aK ≠ aI) (nKP : aK ≠ aP) (nIP : aI ≠ aP) (nAK : a1 ≠ aK) (nAI : a1 ≠ aI) (nAP : a1 ≠ aP) (gA : n0 ≤ a1) (gK : n0 ≤ aK) (gI : n0 ≤ aI) (gP : n0 ≤ aP) (Ru : own_R u) (hgu : σ.2 u < 0) (R0 : own_R (σ.1 (0 : Int32))) (R1 : own_R (σ.1 (1 : Int32))) :
    MetFree l (⟨"com/example/covermesh/covermesh/algorithms/IndexedMinHeap", "put", "(ID)V"⟩ : MethodName) (head1 (Jvm.Cond.code (⟨"com/example/covermesh/covermesh/algorithms/IndexedMinHeap", "put", "(ID)V"⟩ : MethodName) prog_17_method_4_code 4 none :: ws) ({ frames := 2, cells := 0, slots := 0, locals := 29 } : Room)) (fun a U => a = #[(.ref a1), (.int u), (.double key)] ∧ Z.Warmed39 U.vm ∧ U.heap = h0) (fun _ _ _ _ _ => True) (fun _ U o U' => ∃ v L, o = .returned v ∧ QPA2 Z a1 u key aK aI aP kk ki kp kf σ h0 n0 v U'.heap L ∧ FrameEnd U o U' L ({ frames := 2, cells := 0, slots := 0, locals := 29 } : Room).cells ({ frames := 2, cells := 0, slots := 0, locals := 29 } : Room).slots) := by
  refine MetFree.of_bodySF (plainFor_of_name pn_0) hisR ?_
  intro p e s m args below meth c s₁ Bd hml0 hP hK
  obtain ⟨rfl, hZ, hh⟩ := hP
  have hx := Bd.exec
  have hby := Bd.bytes
  have hml : c.maxLocals = 4 := hml0
  have hown : s.vm.findClass "com/example/covermesh/covermesh/algorithms/IndexedMinHeap" = some m.cls := findClass_of_methodNamed Bd.named
  have hnm := (name_of_methodNamed Bd.named Bd.method).1
  have X0 : Stand p l e ({ frames := 2, cells := 0, slots := 0, locals := 29 } : Room) s m #[(.ref a1), (.int u), (.double key)] below meth c s₁ [] 0 0 := Stand.of_body Bd
  have e0 : s₁.heap = h0 := by rw [← hh, Bd.state]; rfl
  have N0 := Fr.nil n0
  have K0 := Keep.refl h0 [a1, aK, aI, aP]
  have go0 : Goes p e below s₁ (entryFrame m #[(.ref a1), (.int u), (.double key)] 4) s₁ (mkF m 0 #[.val (.ref a1), .val (.int u), .val (.double key), .second] []) := fun t k => castTop (ef_rmPA2 m a1 u key) k
  have go1 : Goes p e below s₁ (entryFrame m #[(.ref a1), (.int u), (.double key)] 4) s₁ (mkF m 1 #[.val (.ref a1), .val (.int u), .val (.double key), .second] [(.ref a1)]) := fun t k => by
    refine go0 t ?_
    refine XS.aloadN X0.here hx rfl (hb hby d6_0) rfl rfl ?_
    show Steps p.tables e below (s₁.setTop (mkF m 1 #[.val (.ref a1), .val (.int u), .val (.double key), .second] [(.ref a1)])) _
    exact k
  obtain ⟨T2, X2, e2, st2⟩ := getF X0 hx hZ hown (host := "") (Or.inl (hw _ (List.mem_of_getElem? (i := 15) rfl))) Via.refl e0 FP (g := (mkF m 1 #[.val (.ref a1), .val (.int u), .val (.double key), .second] [(.ref a1)])) rfl rfl (hb hby d6_1)
  have go3 : Goes p e below s₁ (entryFrame m #[(.ref a1), (.int u), (.double key)] 4) T2 (mkF m 4 #[.val (.ref a1), .val (.int u), .val (.double key), .second] [(.ref aP)]) := fun t k => go1 t (st2 t k)
  have go4 : Goes p e below s₁ (entryFrame m #[(.ref a1), (.int u), (.double key)] 4) T2 (mkF m 5 #[.val (.ref a1), .val (.int u), .val (.double key), .second] [(.int u), (.ref aP)]) := fun t k => by
    refine go3 t ?_
    refine XS.iloadN X2.here hx rfl (hb hby d6_4) rfl ?_
    show Steps p.tables e below (T2.setTop (mkF m 5 #[.val (.ref a1), .val (.int u), .val (.double key), .second] [(.int u), (.ref aP)])) _
    exact k
  obtain ⟨cl5, Ar5, kq5, Sz5, Nn5, Hs5, Gf5⟩ := id (VP)
  have hin5 : ¬ (u < 0 ∨ cl5.slots.size ≤ (u).toNatClampNeg) := inb_of Sz5 (own_inb Ru)
  have hat5 : cl5.slots[(u).toNatClampNeg]? = some (.int (σ.2 u)) := Has.at Hs5 hin5 (own_l_at Ru)
  have go6 : Goes p e below s₁ (entryFrame m #[(.ref a1), (.int u), (.double key)] 4) T2 (mkF m 6 #[.val (.ref a1), .val (.int u), .val (.double key), .second] [(.int (σ.2 u))]) := fun t k => by
    refine go4 t ?_
    refine X2.iaload hx (j := u) (v := (.int (σ.2 u))) (own_hp e2 Ar5.1) (State.isArrayOf_alike hZ.alike Ar5.2.1) Ar5.2.2 hin5 hat5 (g := (mkF m 5 #[.val (.ref a1), .val (.int u), .val (.double key), .second] [(.int u), (.ref aP)])) rfl rfl (hb hby d6_5) _ ?_
    show Steps p.tables e below (T2.setTop (mkF m 6 #[.val (.ref a1), .val (.int u), .val (.double key), .second] [(.int (σ.2 u))])) _
    exact k
  have go7 : Goes p e below s₁ (entryFrame m #[(.ref a1), (.int u), (.double key)] 4) T2 (mkF m 10 #[.val (.ref a1), .val (.int u), .val (.double key), .second] [(.ref a1)]) := fun t k => by
    refine go6 t ?_
    refine XS.ifNo X2.here hx rfl (hb hby d6_6) rfl (Jvm.Free.XT.i0_ge_f hgu) ?_
    show Steps p.tables e below (T2.setTop (mkF m 9 #[.val (.ref a1), .val (.int u), .val (.double key), .second] [])) _
    refine XS.aloadN X2.here hx rfl (hb hby d6_9) rfl rfl ?_
    show Steps p.tables e below (T2.setTop (mkF m 10 #[.val (.ref a1), .val (.int u), .val (.double key), .second] [(.ref a1)])) _
    exact k
  obtain ⟨T8, X8, e8, st8⟩ := getF X2 hx hZ hown (host := "") (Or.inl (hw _ (List.mem_of_getElem? (i := 13) rfl))) Via.refl e2 FI (g := (mkF m 10 #[.val (.ref a1), .val (.int u), .val (.double key), .second] [(.ref a1)])) rfl rfl (hb hby d6_10)
  have go9 : Goes p e below s₁ (entryFrame m #[(.ref a1), (.int u), (.double key)] 4) T8 (mkF m 13 #[.val (.ref a1), .val (.int u), .val (.double key), .second] [(.ref aI)]) := fun t k => go7 t (st8 t k)
  have go10 : Goes p e below s₁ (entryFrame m #[(.ref a1), (.int u), (.double key)] 4) T8 (mkF m 14 #[.val (.ref a1), .val (.int u), .val (.double key), .second] [(.ref a1), (.ref aI)]) := fun t k => by
    refine go9 t ?_
    refine XS.aloadN X8.here hx rfl (hb hby d6_13) rfl rfl ?_
    show Steps p.tables e below (T8.setTop (mkF m 14 #[.val (.ref a1), .val (.int u), .val (.double key), .second] [(.ref a1), (.ref aI)])) _
    exact k
  obtain ⟨T11, X11, e11, st11⟩ := getF X8 hx hZ hown (host := "") (Or.inl (hw _ (List.mem_of_getElem? (i := 26) rfl))) Via.refl e8 FS (g := (mkF m 14 #[.val (.ref a1), .val (.int u), .val (.double key), .second] [(.ref a1), (.ref aI)])) rfl rfl (hb hby d6_14)
  have go12 : Goes p e below s₁ (entryFrame m #[(.ref a1), (.int u), (.double key)] 4) T11 (mkF m 17 #[.val (.ref a1), .val (.int u), .val (.double key), .second] [(.int (2 : Int32)), (.ref aI)]) := fun t k => go10 t (st11 t k)
  have go13 : Goes p e below s₁ (entryFrame m #[(.ref a1), (.int u), (.double key)] 4) T11 (mkF m 18 #[.val (.ref a1), .val (.int u), .val (.double key), .second] [(.int u), (.int (2 : Int32)), (.ref aI)]) := fun t k => by
    refine go12 t ?_
    refine XS.iloadN X11.here hx rfl (hb hby d6_17) rfl ?_
    show Steps p.tables e below (T11.setTop (mkF m 18 #[.val (.ref a1), .val (.int u), .val (.double key), .second] [(.int u), (.int (2 : Int32)), (.ref aI)])) _
    exact k
  obtain ⟨cl14, Ar14, kq14, Sz14, Nn14, Hs14, Gf14⟩ := id (VI)
  have hin14 : ¬ ((2 : Int32) < 0 ∨ cl14.slots.size ≤ ((2 : Int32)).toNatClampNeg) := inb_of Sz14 (own_inb own_R2)
  obtain ⟨T15, h15, X15, e15, W15, st15⟩ := stI X11 hx hZ e11 Ar14 (j := (2 : Int32)) hin14 (g := (mkF m 18 #[.val (.ref a1), .val (.int u), .val (.double key), .second] [(.int u), (.int (2 : Int32)), (.ref aI)])) rfl rfl (hb hby d6_18)
  have V16 : Arv Z h15 aI ki .int 3 (own_l (own_u σ.1 (2 : Int32) u)) (.int (0 : Int32)) := by rw [← own_l_set own_R2]; exact Arv.set Ar14 kq14 Sz14 Nn14 Hs14 Gf14 rfl W15 _ rfl (own_l_len own_R2)
  have f17 := E1.wr W15
  have f18 := FK.other W15 (Or.inl nAI)
  have f19 := FI.other W15 (Or.inl nAI)
  have f20 := FP.other W15 (Or.inl nAI)
  have f21 := FS.other W15 (Or.inl nAI)
  have f22 := VK.other W15 nKI
  have f23 := VP.other W15 (Ne.symm nIP)
  have Z24 := Nat.le_trans Z0 (Nat.le_of_eq W15.size.symm)
  have K25 := K0.wr W15 (Or.inl (List.mem_of_getElem? (i := 2) rfl))
  have N26 := Fr.snoc X15 N0 gI
  have go27 : Goes p e below s₁ (entryFrame m #[(.ref a1), (.int u), (.double key)] 4) T15 (mkF m 19 #[.val (.ref a1), .val (.int u), .val (.double key), .second] []) := fun t k => go13 t (st15 t k)
  have go28 : Goes p e below s₁ (entryFrame m #[(.ref a1), (.int u), (.double key)] 4) T15 (mkF m 20 #[.val (.ref a1), .val (.int u), .val (.double key), .second] [(.ref a1)]) := fun t k => by
    refine go27 t ?_
    refine XS.aloadN X15.here hx rfl (hb hby d6_19) rfl rfl ?_
    show Steps p.tables e below (T15.setTop (mkF m 20 #[.val (.ref a1), .val (.int u), .val (.double key), .second] [(.ref a1)])) _
    exact k
  obtain ⟨T29, X29, e29, st29⟩ := getF X15 hx hZ hown (host := "") (Or.inl (hw _ (List.mem_of_getElem? (i := 15) rfl))) Via.refl e15 f20 (g := (mkF m 20 #[.val (.ref a1), .val (.int u), .val (.double key), .second] [(.ref a1)])) rfl rfl (hb hby d6_20)
  have go30 : Goes p e below s₁ (entryFrame m #[(.ref a1), (.int u), (.double key)] 4) T29 (mkF m 23 #[.val (.ref a1), .val (.int u), .val (.double key), .second] [(.ref aP)]) := fun t k => go28 t (st29 t k)
  have go31 : Goes p e below s₁ (entryFrame m #[(.ref a1), (.int u), (.double key)] 4) T29 (mkF m 26 #[.val (.ref a1), .val (.int u), .val (.double key), .second] [(.ref a1), (.ref a1), (.int u), (.ref aP)]) := fun t k => by
    refine go30 t ?_
    refine XS.iloadN X29.here hx rfl (hb hby d6_23) rfl ?_
    show Steps p.tables e below (T29.setTop (mkF m 24 #[.val (.ref a1), .val (.int u), .val (.double key), .second] [(.int u), (.ref aP)])) _
    refine XS.aloadN X29.here hx rfl (hb hby d6_24) rfl rfl ?_
    show Steps p.tables e below (T29.setTop (mkF m 25 #[.val (.ref a1), .val (.int u), .val (.double key), .second] [(.ref a1), (.int u), (.ref aP)])) _
    refine XS.dup X29.here hx rfl (hb hby d6_25) rfl rfl ?_
    show Steps p.tables e below (T29.setTop (mkF m 26 #[.val (.ref a1), .val (.int u), .val (.double key), .second] [(.ref a1), (.ref a1), (.int u), (.ref aP)])) _
    exact k
  obtain ⟨T32, X32, e32, st32⟩ := getF X29 hx hZ hown (host := "") (Or.inl (hw _ (List.mem_of_getElem? (i := 26) rfl))) Via.refl e29 f21 (g := (mkF m 26 #[.val (.ref a1), .val (.int u), .val (.double key), .second] [(.ref a1), (.ref a1), (.int u), (.ref aP)])) rfl rfl (hb hby d6_26)
  have go33 : Goes p e below s₁ (entryFrame m #[(.ref a1), (.int u), (.double key)] 4) T32 (mkF m 29 #[.val (.ref a1), .val (.int u), .val (.double key), .second] [(.int (2 : Int32)), (.ref a1), (.int u), (.ref aP)]) := fun t k => go31 t (st32 t k)
  have go34 : Goes p e below s₁ (entryFrame m #[(.ref a1), (.int u), (.double key)] 4) T32 (mkF m 32 #[.val (.ref a1), .val (.int u), .val (.double key), .second] [(.int (3 : Int32)), (.ref a1), (.int (2 : Int32)), (.int u), (.ref aP)]) := fun t k => by
    refine go33 t ?_
    refine XS.dupX1 X32.here hx rfl (hb hby d6_29) rfl rfl rfl ?_
    show Steps p.tables e below (T32.setTop (mkF m 30 #[.val (.ref a1), .val (.int u), .val (.double key), .second] [(.int (2 : Int32)), (.ref a1), (.int (2 : Int32)), (.int u), (.ref aP)])) _
    refine XS.iconst X32.here hx rfl (hb hby d6_30) ?_
    show Steps p.tables e below (T32.setTop (mkF m 31 #[.val (.ref a1), .val (.int u), .val (.double key), .second] [(.int (1 : Int32)), (.int (2 : Int32)), (.ref a1), (.int (2 : Int32)), (.int u), (.ref aP)])) _
    refine XS.iadd X32.here hx rfl (hb hby d6_31) rfl ?_
    show Steps p.tables e below (T32.setTop (mkF m 32 #[.val (.ref a1), .val (.int u), .val (.double key), .second] [(.int (3 : Int32)), (.ref a1), (.int (2 : Int32)), (.int u), (.ref aP)])) _
    exact k
  obtain ⟨T35, h35, X35, e35, W35, st35⟩ := putF X32 hx hZ hown (host := "") (Or.inl (hw _ (List.mem_of_getElem? (i := 26) rfl))) Via.refl e32 f21 f17 (Or.inl (hw _ (List.mem_of_getElem? (i := 27) rfl))) (hw _ (List.mem_of_getElem? (i := 1) rfl)) (ty := .int) (by decide) rfl rfl (g := (mkF m 32 #[.val (.ref a1), .val (.int u), .val (.double key), .second] [(.int (3 : Int32)), (.ref a1), (.int (2 : Int32)), (.int u), (.ref aP)])) rfl rfl (hb hby d6_32)
  have f36 := f21.same W35
  have f37 := f17.wr W35
  have f38 := f18.other W35 (Or.inr (slot_ne (Or.inr (hw _ (List.mem_of_getElem? (i := 11) rfl))) (Or.inl (hw _ (List.mem_of_getElem? (i := 27) rfl))) (by decide) (t := (.array .double)) (t' := .int) (by decide) (by decide)))
  have f39 := f19.other W35 (Or.inr (slot_ne (Or.inr (hw _ (List.mem_of_getElem? (i := 14) rfl))) (Or.inl (hw _ (List.mem_of_getElem? (i := 27) rfl))) (by decide) (t := (.array .int)) (t' := .int) (by decide) (by decide)))
  have f40 := f20.other W35 (Or.inr (slot_ne (Or.inr (hw _ (List.mem_of_getElem? (i := 16) rfl))) (Or.inl (hw _ (List.mem_of_getElem? (i := 27) rfl))) (by decide) (t := (.array .int)) (t' := .int) (by decide) (by decide)))
  have f41 := f22.other W35 (Ne.symm nAK)
  have f42 := f23.other W35 (Ne.symm nAP)
  have f43 := V16.other W35 (Ne.symm nAI)
  have Z44 := Nat.le_trans Z24 (Nat.le_of_eq W35.size.symm)
  have K45 := K25.wr W35 (Or.inl (List.mem_of_getElem? (i := 0) rfl))
  have N46 := Fr.snoc X35 N26 gA
  have go47 : Goes p e below s₁ (entryFrame m #[(.ref a1), (.int u), (.double key)] 4) T35 (mkF m 35 #[.val (.ref a1), .val (.int u), .val (.double key), .second] [(.int (2 : Int32)), (.int u), (.ref aP)]) := fun t k => go34 t (st35 t k)
  obtain ⟨cl48, Ar48, kq48, Sz48, Nn48, Hs48, Gf48⟩ := id (f42)
  have hin48 : ¬ (u < 0 ∨ cl48.slots.size ≤ (u).toNatClampNeg) := inb_of Sz48 (own_inb Ru)
  obtain ⟨T49, h49, X49, e49, W49, st49⟩ := stI X35 hx hZ e35 Ar48 (j := u) hin48 (g := (mkF m 35 #[.val (.ref a1), .val (.int u), .val (.double key), .second] [(.int (2 : Int32)), (.int u), (.ref aP)])) rfl rfl (hb hby d6_35)
  have V50 : Arv Z h49 aP kp .int 3 (own_l (own_u σ.2 u (2 : Int32))) (.int (0 : Int32)) := by rw [← own_l_set Ru]; exact Arv.set Ar48 kq48 Sz48 Nn48 Hs48 Gf48 rfl W49 _ rfl (own_l_len Ru)
  have f51 := f37.wr W49
  have f52 := f38.other W49 (Or.inl nAP)
  have f53 := f39.other W49 (Or.inl nAP)
  have f54 := f40.other W49 (Or.inl nAP)
  have f55 := f41.other W49 nKP
  have f56 := f43.other W49 nIP
  have f57 := f36.other W49 (Or.inl nAP)
  have Z58 := Nat.le_trans Z44 (Nat.le_of_eq W49.size.symm)
  have K59 := K45.wr W49 (Or.inl (List.mem_of_getElem? (i := 3) rfl))
  have N60 := Fr.snoc X49 N46 gP
  have go61 : Goes p e below s₁ (entryFrame m #[(.ref a1), (.int u), (.double key)] 4) T49 (mkF m 36 #[.val (.ref a1), .val (.int u), .val (.double key), .second] []) := fun t k => go47 t (st49 t k)
  have go62 : Goes p e below s₁ (entryFrame m #[(.ref a1), (.int u), (.double key)] 4) T49 (mkF m 37 #[.val (.ref a1), .val (.int u), .val (.double key), .second] [(.ref a1)]) := fun t k => by
    refine go61 t ?_
    refine XS.aloadN X49.here hx rfl (hb hby d6_36) rfl rfl ?_
    show Steps p.tables e below (T49.setTop (mkF m 37 #[.val (.ref a1), .val (.int u), .val (.double key), .second] [(.ref a1)])) _
    exact k
  obtain ⟨T63, X63, e63, st63⟩ := getF X49 hx hZ hown (host := "") (Or.inl (hw _ (List.mem_of_getElem? (i := 10) rfl))) Via.refl e49 f52 (g := (mkF m 37 #[.val (.ref a1), .val (.int u), .val (.double key), .second] [(.ref a1)])) rfl rfl (hb hby d6_37)
  have go64 : Goes p e below s₁ (entryFrame m #[(.ref a1), (.int u), (.double key)] 4) T63 (mkF m 40 #[.val (.ref a1), .val (.int u), .val (.double key), .second] [(.ref aK)]) := fun t k => go62 t (st63 t k)
  have go65 : Goes p e below s₁ (entryFrame m #[(.ref a1), (.int u), (.double key)] 4) T63 (mkF m 42 #[.val (.ref a1), .val (.int u), .val (.double key), .second] [(.double key), (.int u), (.ref aK)]) := fun t k => by
    refine go64 t ?_
    refine XS.iloadN X63.here hx rfl (hb hby d6_40) rfl ?_
    show Steps p.tables e below (T63.setTop (mkF m 41 #[.val (.ref a1), .val (.int u), .val (.double key), .second] [(.int u), (.ref aK)])) _
    refine Jvm.Free.XS.dloadN X63.here hx rfl (hb hby d6_41) rfl ?_
    show Steps p.tables e below (T63.setTop (mkF m 42 #[.val (.ref a1), .val (.int u), .val (.double key), .second] [(.double key), (.int u), (.ref aK)])) _
    exact k
  obtain ⟨cl66, Ar66, kq66, Sz66, Nn66, Hs66, Gf66⟩ := id (f55)
  have hin66 : ¬ (u < 0 ∨ cl66.slots.size ≤ (u).toNatClampNeg) := inb_of Sz66 (own_inb Ru)
  obtain ⟨T67, h67, X67, e67, W67, st67⟩ := stD X63 hx hZ e63 Ar66 (j := u) hin66 (g := (mkF m 42 #[.val (.ref a1), .val (.int u), .val (.double key), .second] [(.double key), (.int u), (.ref aK)])) rfl rfl (hb hby d6_42)
  have V68 : Arv Z h67 aK kk .double 3 (own_d (own_u kf u key)) (.double (0 : UInt64)) := by rw [← own_d_set Ru]; exact Arv.set Ar66 kq66 Sz66 Nn66 Hs66 Gf66 rfl W67 _ rfl (own_d_len Ru)
  have f69 := f51.wr W67
  have f70 := f52.other W67 (Or.inl nAK)
  have f71 := f53.other W67 (Or.inl nAK)
  have f72 := f54.other W67 (Or.inl nAK)
  have f73 := f56.other W67 (Ne.symm nKI)
  have f74 := f57.other W67 (Or.inl nAK)
  have f75 := V50.other W67 (Ne.symm nKP)
  have Z76 := Nat.le_trans Z58 (Nat.le_of_eq W67.size.symm)
  have K77 := K59.wr W67 (Or.inl (List.mem_of_getElem? (i := 1) rfl))
  have N78 := Fr.snoc X67 N60 gK
  have go79 : Goes p e below s₁ (entryFrame m #[(.ref a1), (.int u), (.double key)] 4) T67 (mkF m 43 #[.val (.ref a1), .val (.int u), .val (.double key), .second] []) := fun t k => go65 t (st67 t k)
  have go80 : Goes p e below s₁ (entryFrame m #[(.ref a1), (.int u), (.double key)] 4) T67 (mkF m 45 #[.val (.ref a1), .val (.int u), .val (.double key), .second] [(.ref a1), (.ref a1)]) := fun t k => by
    refine go79 t ?_
    refine XS.aloadN X67.here hx rfl (hb hby d6_43) rfl rfl ?_
    show Steps p.tables e below (T67.setTop (mkF m 44 #[.val (.ref a1), .val (.int u), .val (.double key), .second] [(.ref a1)])) _
    refine XS.aloadN X67.here hx rfl (hb hby d6_44) rfl rfl ?_
    show Steps p.tables e below (T67.setTop (mkF m 45 #[.val (.ref a1), .val (.int u), .val (.double key), .second] [(.ref a1), (.ref a1)])) _
    exact k
  obtain ⟨T81, X81, e81, st81⟩ := getF X67 hx hZ hown (host := "") (Or.inl (hw _ (List.mem_of_getElem? (i := 15) rfl))) Via.refl e67 f72 (g := (mkF m 45 #[.val (.ref a1), .val (.int u), .val (.double key), .second] [(.ref a1), (.ref a1)])) rfl rfl (hb hby d6_45)
  have go82 : Goes p e below s₁ (entryFrame m #[(.ref a1), (.int u), (.double key)] 4) T81 (mkF m 48 #[.val (.ref a1), .val (.int u), .val (.double key), .second] [(.ref aP), (.ref a1)]) := fun t k => go80 t (st81 t k)
  have go83 : Goes p e below s₁ (entryFrame m #[(.ref a1), (.int u), (.double key)] 4) T81 (mkF m 49 #[.val (.ref a1), .val (.int u), .val (.double key), .second] [(.int u), (.ref aP), (.ref a1)]) := fun t k => by
    refine go82 t ?_
    refine XS.iloadN X81.here hx rfl (hb hby d6_48) rfl ?_
    show Steps p.tables e below (T81.setTop (mkF m 49 #[.val (.ref a1), .val (.int u), .val (.double key), .second] [(.int u), (.ref aP), (.ref a1)])) _
    exact k
  obtain ⟨cl84, Ar84, kq84, Sz84, Nn84, Hs84, Gf84⟩ := id (f75)
  have hin84 : ¬ (u < 0 ∨ cl84.slots.size ≤ (u).toNatClampNeg) := inb_of Sz84 (own_inb Ru)
  have hat84 : cl84.slots[(u).toNatClampNeg]? = some (.int (2 : Int32)) := Has.at Hs84 hin84 ((own_l_at Ru).trans (congrArg _ own_us))
  have go85 : Goes p e below s₁ (entryFrame m #[(.ref a1), (.int u), (.double key)] 4) T81 (mkF m 50 #[.val (.ref a1), .val (.int u), .val (.double key), .second] [(.int (2 : Int32)), (.ref a1)]) := fun t k => by
    refine go83 t ?_
    refine X81.iaload hx (j := u) (v := (.int (2 : Int32))) (own_hp e81 Ar84.1) (State.isArrayOf_alike hZ.alike Ar84.2.1) Ar84.2.2 hin84 hat84 (g := (mkF m 49 #[.val (.ref a1), .val (.int u), .val (.double key), .second] [(.int u), (.ref aP), (.ref a1)])) rfl rfl (hb hby d6_49) _ ?_
    show Steps p.tables e below (T81.setTop (mkF m 50 #[.val (.ref a1), .val (.int u), .val (.double key), .second] [(.int (2 : Int32)), (.ref a1)])) _
    exact k
  obtain ⟨cq86, q86a, q86b⟩ := f69.cell
  obtain ⟨_, _, ⟨T86, L86, k86, n86⟩, -, X86, ⟨Lc86, hQ86, l86, y86, z86⟩, st86⟩ := X81.privateBack hx (y := (⟨"com/example/covermesh/covermesh/algorithms/IndexedMinHeap", "siftUp", "(I)V"⟩ : MethodName)) hown (mvT hZ (hw _ (List.mem_of_getElem? (i := 37) rfl))) (mvT hZ (hw _ (List.mem_of_getElem? (i := 38) rfl))) (own_selp (y := (⟨"com/example/covermesh/covermesh/algorithms/IndexedMinHeap", "siftUp", "(I)V"⟩ : MethodName)) (by decide) (mvT hZ (hw _ (List.mem_of_getElem? (i := 1) rfl))) (mvP hZ (hw _ (List.mem_of_getElem? (i := 39) rfl))) (mvT hZ (hw _ (List.mem_of_getElem? (i := 38) rfl)))) (Cond.privateMethod_at (mvP hZ (hw _ (List.mem_of_getElem? (i := 39) rfl)) (args := #[]))) (mvT hZ (hw _ (List.mem_of_getElem? (i := 40) rfl))) (by decide) (backOf (W := 0) (rmU2 l Z a0 hw [] a1 aK aI aP kk ki kp (own_u kf u key) ((own_u σ.1 (2 : Int32) u), (own_u σ.2 u (2 : Int32))) (3 : Int32) h67 n0 Z76 f69 f70 f71 f72 f74 V68 f73 f75 nKI nKP nIP nAK nAI nAP gA gK gI gP (show own_R (own_u σ.1 (2 : Int32) u (2 : Int32)) from own_u_R Ru (fun h => absurd rfl h)) (show own_R (own_u σ.1 (2 : Int32) u (0 : Int32)) from own_u_R Ru (fun _ => R0))) hZ (hw _ (List.mem_of_getElem? (i := 40) rfl)) (hw _ (List.mem_of_getElem? (i := 2) rfl)) (by decide) (by decide)) (g := (mkF m 50 #[.val (.ref a1), .val (.int u), .val (.double key), .second] [(.int (2 : Int32)), (.ref a1)])) rfl (by rw [hml]; rfl) (Steps.refl _) (a := a1) (by rw [e81]; exact q86a) q86b (argsL := [(.int (2 : Int32))]) (rest := []) (lenOf pd_2 rfl) rfl (by show 2 * 0 + _ ≤ _; exact Nat.le_of_eq rfl) (hb hby d6_50) (fun _ _ => ⟨rfl, e81, (by decide : 0 + 0 ≤ ({ frames := 2, cells := 0, slots := 0, locals := 29 } : Room).cells), (by decide : 0 + 0 ≤ ({ frames := 2, cells := 0, slots := 0, locals := 29 } : Room).slots)⟩)
  dsimp only [Pt.U, Pt.locs, Pt.cells, Pt.slots] at X86 l86 y86 z86 st86 hQ86
  subst l86 y86 z86
  obtain ⟨rfl, N86q, Kq86, VIq86, VPq86⟩ := hQ86
  have N86 := Fr.app N78 N86q
  have f87 := f69.keep Kq86
  have f88 := f70.keep Kq86 (ninS nAI (ninS nAP nin0))
  have f89 := f71.keep Kq86 (ninS nAI (ninS nAP nin0))
  have f90 := f72.keep Kq86 (ninS nAI (ninS nAP nin0))
  have f91 := f74.keep Kq86 (ninS nAI (ninS nAP nin0))
  have f92 := V68.keep Kq86 (ninS nKI (ninS nKP nin0))
  have Z93 := Nat.le_trans Z76 Kq86.1
  have K94 := K77.trans Kq86 (allS (Or.inl (List.mem_of_getElem? (i := 2) rfl)) (allS (Or.inl (List.mem_of_getElem? (i := 3) rfl)) all0))
  obtain ⟨τ86, hτ86⟩ : ∃ z, z = own_up (own_u kf u key) ((own_u σ.1 (2 : Int32) u), (own_u σ.2 u (2 : Int32))) (2 : Int32) := ⟨_, rfl⟩
  rw [← hτ86] at VIq86 VPq86
  have go95 : Goes p e below s₁ (entryFrame m #[(.ref a1), (.int u), (.double key)] 4) T86 (mkF m 53 #[.val (.ref a1), .val (.int u), .val (.double key), .second] []) := fun t k => go85 t (st86.trans k)
  have go96 : Goes p e below s₁ (entryFrame m #[(.ref a1), (.int u), (.double key)] 4) T86 (mkF m 55 #[.val (.ref a1), .val (.int u), .val (.double key), .second] [(.ref a1), (.ref a1)]) := fun t k => by
    refine go95 t ?_
    refine XS.aloadN X86.here hx rfl (hb hby d6_53) rfl rfl ?_
    show Steps p.tables e below (T86.setTop (mkF m 54 #[.val (.ref a1), .val (.int u), .val (.double key), .second] [(.ref a1)])) _
    refine XS.aloadN X86.here hx rfl (hb hby d6_54) rfl rfl ?_
    show Steps p.tables e below (T86.setTop (mkF m 55 #[.val (.ref a1), .val (.int u), .val (.double key), .second] [(.ref a1), (.ref a1)])) _
    exact k
  obtain ⟨T97, X97, e97, st97⟩ := getF X86 hx hZ hown (host := "") (Or.inl (hw _ (List.mem_of_getElem? (i := 15) rfl))) Via.refl rfl f90 (g := (mkF m 55 #[.val (.ref a1), .val (.int u), .val (.double key), .second] [(.ref a1), (.ref a1)])) rfl rfl (hb hby d6_55)
  have go98 : Goes p e below s₁ (entryFrame m #[(.ref a1), (.int u), (.double key)] 4) T97 (mkF m 58 #[.val (.ref a1), .val (.int u), .val (.double key), .second] [(.ref aP), (.ref a1)]) := fun t k => go96 t (st97 t k)
  have go99 : Goes p e below s₁ (entryFrame m #[(.ref a1), (.int u), (.double key)] 4) T97 (mkF m 59 #[.val (.ref a1), .val (.int u), .val (.double key), .second] [(.int u), (.ref aP), (.ref a1)]) := fun t k => by
    refine go98 t ?_
    refine XS.iloadN X97.here hx rfl (hb hby d6_58) rfl ?_
    show Steps p.tables e below (T97.setTop (mkF m 59 #[.val (.ref a1), .val (.int u), .val (.double key), .second] [(.int u), (.ref aP), (.ref a1)])) _
    exact k
  obtain ⟨cl100, Ar100, kq100, Sz100, Nn100, Hs100, Gf100⟩ := id (VPq86)
  have hin100 : ¬ (u < 0 ∨ cl100.slots.size ≤ (u).toNatClampNeg) := inb_of Sz100 (own_inb Ru)
  have hat100 : cl100.slots[(u).toNatClampNeg]? = some (.int (τ86.2 u)) := Has.at Hs100 hin100 (own_l_at Ru)
  have go101 : Goes p e below s₁ (entryFrame m #[(.ref a1), (.int u), (.double key)] 4) T97 (mkF m 60 #[.val (.ref a1), .val (.int u), .val (.double key), .second] [(.int (τ86.2 u)), (.ref a1)]) := fun t k => by
    refine go99 t ?_
    refine X97.iaload hx (j := u) (v := (.int (τ86.2 u))) (own_hp e97 Ar100.1) (State.isArrayOf_alike hZ.alike Ar100.2.1) Ar100.2.2 hin100 hat100 (g := (mkF m 59 #[.val (.ref a1), .val (.int u), .val (.double key), .second] [(.int u), (.ref aP), (.ref a1)])) rfl rfl (hb hby d6_59) _ ?_
    show Steps p.tables e below (T97.setTop (mkF m 60 #[.val (.ref a1), .val (.int u), .val (.double key), .second] [(.int (τ86.2 u)), (.ref a1)])) _
    exact k
  have hpos : τ86.2 u = (2 : Int32) ∨ τ86.2 u = 0 := by rw [hτ86]; exact own_up_pos (show own_u σ.1 (2 : Int32) u (2 : Int32) = u from own_us)
  have hR0 : ∀ j : Int32, j < (3 : Int32) ∧ ¬ j < 0 → own_R (own_u σ.1 (2 : Int32) u j) := by
    intro j hj
    refine own_u_R Ru (fun hne => ?_)
    have : j = 0 ∨ j = 1 := by
      have h1 := hj.1; have h2 := hj.2; rw [Int32.lt_iff_toInt_lt] at h1 h2
      have h3 : ((3 : Int32)).toInt = 3 := rfl
      have h4 : (0 : Int32).toInt = 0 := rfl
      have h5 : ¬ j.toInt = 2 := fun q => hne (own_of_toInt q)
      have h6 : j.toInt = 0 ∨ j.toInt = 1 := by omega
      rcases h6 with h6 | h6
      · exact Or.inl (own_of_toInt h6)
      · exact Or.inr ((own_of_toInt h6))
    rcases this with rfl | rfl
    · exact R0
    · exact R1
  have hR102 : ∀ j : Int32, j < (3 : Int32) ∧ ¬ j < 0 → own_R (τ86.1 j) := fun j hj => by rw [hτ86]; exact own_up_R (hR0 (2 : Int32) (by decide)) (hR0 (0 : Int32) (by decide)) (hR0 j hj)
  rcases hpos with hp | hp
  · have go103 : Goes p e below s₁ (entryFrame m #[(.ref a1), (.int u), (.double key)] 4) T97 (mkF m 60 #[.val (.ref a1), .val (.int u), .val (.double key), .second] [(.int (2 : Int32)), (.ref a1)]) := Eq.mp (congrArg (fun zz => Goes p e below s₁ (entryFrame m #[(.ref a1), (.int u), (.double key)] 4) T97 (mkF m 60 #[.val (.ref a1), .val (.int u), .val (.double key), .second] [(.int zz), (.ref a1)])) hp) go101
    obtain ⟨cq104, q104a, q104b⟩ := f87.cell
    obtain ⟨_, _, ⟨T104, L104, k104, n104⟩, -, X104, ⟨Lc104, hQ104, l104, y104, z104⟩, st104⟩ := X97.privateBack hx (y := (⟨"com/example/covermesh/covermesh/algorithms/IndexedMinHeap", "siftDown", "(I)V"⟩ : MethodName)) hown (mvT hZ (hw _ (List.mem_of_getElem? (i := 45) rfl))) (mvT hZ (hw _ (List.mem_of_getElem? (i := 46) rfl))) (own_selp (y := (⟨"com/example/covermesh/covermesh/algorithms/IndexedMinHeap", "siftDown", "(I)V"⟩ : MethodName)) (by decide) (mvT hZ (hw _ (List.mem_of_getElem? (i := 1) rfl))) (mvP hZ (hw _ (List.mem_of_getElem? (i := 47) rfl))) (mvT hZ (hw _ (List.mem_of_getElem? (i := 46) rfl)))) (Cond.privateMethod_at (mvP hZ (hw _ (List.mem_of_getElem? (i := 47) rfl)) (args := #[]))) (mvT hZ (hw _ (List.mem_of_getElem? (i := 48) rfl))) (by decide) (backOf (W := 0) (rmD23 l Z a0 hw [] a1 aK aI aP kk ki kp (own_u kf u key) τ86 T86.heap n0 Z93 f87 f88 f89 f90 f91 f92 VIq86 VPq86 nKI nKP nIP nAK nAI nAP gA gK gI gP (hR102 (2 : Int32) (by decide))) hZ (hw _ (List.mem_of_getElem? (i := 48) rfl)) (hw _ (List.mem_of_getElem? (i := 2) rfl)) (by decide) (by decide)) (g := (mkF m 60 #[.val (.ref a1), .val (.int u), .val (.double key), .second] [(.int (2 : Int32)), (.ref a1)])) rfl (by rw [hml]; rfl) (Steps.refl _) (a := a1) (by rw [e97]; exact q104a) q104b (argsL := [(.int (2 : Int32))]) (rest := []) (lenOf pd_2 rfl) rfl (by show 2 * 0 + _ ≤ _; exact Nat.le_of_eq rfl) (hb hby d6_60) (fun _ _ => ⟨rfl, e97, (by decide : 0 + 0 ≤ ({ frames := 2, cells := 0, slots := 0, locals := 29 } : Room).cells), (by decide : 0 + 0 ≤ ({ frames := 2, cells := 0, slots := 0, locals := 29 } : Room).slots)⟩)
    dsimp only [Pt.U, Pt.locs, Pt.cells, Pt.slots] at X104 l104 y104 z104 st104 hQ104
    subst l104 y104 z104
    obtain ⟨rfl, N104q, Kq104, VIq104, VPq104⟩ := hQ104
    have N104 := Fr.app N86 N104q
    have f105 := f87.keep Kq104
    have f106 := f88.keep Kq104 (ninS nAI (ninS nAP nin0))
    have f107 := f89.keep Kq104 (ninS nAI (ninS nAP nin0))
    have f108 := f90.keep Kq104 (ninS nAI (ninS nAP nin0))
    have f109 := f91.keep Kq104 (ninS nAI (ninS nAP nin0))
    have f110 := f92.keep Kq104 (ninS nKI (ninS nKP nin0))
    have Z111 := Nat.le_trans Z93 Kq104.1
    have K112 := K94.trans Kq104 (allS (Or.inl (List.mem_of_getElem? (i := 2) rfl)) (allS (Or.inl (List.mem_of_getElem? (i := 3) rfl)) all0))
    have go113 : Goes p e below s₁ (entryFrame m #[(.ref a1), (.int u), (.double key)] 4) T104 (mkF m 63 #[.val (.ref a1), .val (.int u), .val (.double key), .second] []) := fun t k => go103 t (st104.trans k)
    obtain ⟨fs, hr, hrun, hended, hW, hsame⟩ := X104.leave (v := none) (fun _ => rfl)
    have hput : own_putA (own_u kf u key) σ u (2 : Int32) = own_dn (own_u kf u key) τ86 (2 : Int32) (3 : Int32) := by
      show own_dn (own_u kf u key) (own_up (own_u kf u key) (own_u σ.1 (2 : Int32) u, own_u σ.2 u (2 : Int32)) (own_u σ.2 u (2 : Int32) u)) ((own_up (own_u kf u key) (own_u σ.1 (2 : Int32) u, own_u σ.2 u (2 : Int32)) (own_u σ.2 u (2 : Int32) u)).2 u) ((2 : Int32) + 1) = _
      rw [own_us, ← hτ86, hp]; rfl
    refine ⟨_, _, go113 _ ?_, hrun, hended, _, _, rfl, ?_, ⟨_, rfl⟩, hW, hsame.mono (by decide) (by decide)⟩
    · exact X104.returnOut hx Bd.returns (hb hby d6_63) hr
    · show QPA2 Z _ _ _ _ _ _ _ _ _ _ _ _ _ _ T104.heap _
      exact ⟨rfl, N104, K112, f105, f106, f107, f108, f109, f110, by rw [hput]; exact VIq104, by rw [hput]; exact VPq104⟩
  · have go114 : Goes p e below s₁ (entryFrame m #[(.ref a1), (.int u), (.double key)] 4) T97 (mkF m 60 #[.val (.ref a1), .val (.int u), .val (.double key), .second] [(.int (0 : Int32)), (.ref a1)]) := Eq.mp (congrArg (fun zz => Goes p e below s₁ (entryFrame m #[(.ref a1), (.int u), (.double key)] 4) T97 (mkF m 60 #[.val (.ref a1), .val (.int u), .val (.double key), .second] [(.int zz), (.ref a1)])) hp) go101
    obtain ⟨cq115, q115a, q115b⟩ := f87.cell
    obtain ⟨_, _, ⟨T115, L115, k115, n115⟩, -, X115, ⟨Lc115, hQ115, l115, y115, z115⟩, st115⟩ := X97.privateBack hx (y := (⟨"com/example/covermesh/covermesh/algorithms/IndexedMinHeap", "siftDown", "(I)V"⟩ : MethodName)) hown (mvT hZ (hw _ (List.mem_of_getElem? (i := 45) rfl))) (mvT hZ (hw _ (List.mem_of_getElem? (i := 46) rfl))) (own_selp (y := (⟨"com/example/covermesh/covermesh/algorithms/IndexedMinHeap", "siftDown", "(I)V"⟩ : MethodName)) (by decide) (mvT hZ (hw _ (List.mem_of_getElem? (i := 1) rfl))) (mvP hZ (hw _ (List.mem_of_getElem? (i := 47) rfl))) (mvT hZ (hw _ (List.mem_of_getElem? (i := 46) rfl)))) (Cond.privateMethod_at (mvP hZ (hw _ (List.mem_of_getElem? (i := 47) rfl)) (args := #[]))) (mvT hZ (hw _ (List.mem_of_getElem? (i := 48) rfl))) (by decide) (backOf (W := 0) (rmD03 l Z a0 hw [] a1 aK aI aP kk ki kp (own_u kf u key) τ86 T86.heap n0 Z93 f87 f88 f89 f90 f91 f92 VIq86 VPq86 nKI nKP nIP nAK nAI nAP gA gK gI gP (hR102 (0 : Int32) (by decide)) (hR102 (1 : Int32) (by decide)) (hR102 (2 : Int32) (by decide))) hZ (hw _ (List.mem_of_getElem? (i := 48) rfl)) (hw _ (List.mem_of_getElem? (i := 2) rfl)) (by decide) (by decide)) (g := (mkF m 60 #[.val (.ref a1), .val (.int u), .val (.double key), .second] [(.int (0 : Int32)), (.ref a1)])) rfl (by rw [hml]; rfl) (Steps.refl _) (a := a1) (by rw [e97]; exact q115a) q115b (argsL := [(.int (0 : Int32))]) (rest := []) (lenOf pd_2 rfl) rfl (by show 2 * 0 + _ ≤ _; exact Nat.le_of_eq rfl) (hb hby d6_60) (fun _ _ => ⟨rfl, e97, (by decide : 0 + 0 ≤ ({ frames := 2, cells := 0, slots := 0, locals := 29 } : Room).cells), (by decide : 0 + 0 ≤ ({ frames := 2, cells := 0, slots := 0, locals := 29 } : Room).slots)⟩)
    dsimp only [Pt.U, Pt.locs, Pt.cells, Pt.slots] at X115 l115 y115 z115 st115 hQ115
    subst l115 y115 z115
    obtain ⟨rfl, N115q, Kq115, VIq115, VPq115⟩ := hQ115
    have N115 := Fr.app N86 N115q
    have f116 := f87.keep Kq115
    have f117 := f88.keep Kq115 (ninS nAI (ninS nAP nin0))
    have f118 := f89.keep Kq115 (ninS nAI (ninS nAP nin0))
    have f119 := f90.keep Kq115 (ninS nAI (ninS nAP nin0))
    have f120 := f91.keep Kq115 (ninS nAI (ninS nAP nin0))
    have f121 := f92.keep Kq115 (ninS nKI (ninS nKP nin0))
    have Z122 := Nat.le_trans Z93 Kq115.1
    have K123 := K94.trans Kq115 (allS (Or.inl (List.mem_of_getElem? (i := 2) rfl)) (allS (Or.inl (List.mem_of_getElem? (i := 3) rfl)) all0))
    have go124 : Goes p e below s₁ (entryFrame m #[(.ref a1), (.int u), (.double key)] 4) T115 (mkF m 63 #[.val (.ref a1), .val (.int u), .val (.double key), .second] []) := fun t k => go114 t (st115.trans k)
    obtain ⟨fs, hr, hrun, hended, hW, hsame⟩ := X115.leave (v := none) (fun _ => rfl)
    have hput : own_putA (own_u kf u key) σ u (2 : Int32) = own_dn (own_u kf u key) τ86 (0 : Int32) (3 : Int32) := by
      show own_dn (own_u kf u key) (own_up (own_u kf u key) (own_u σ.1 (2 : Int32) u, own_u σ.2 u (2 : Int32)) (own_u σ.2 u (2 : Int32) u)) ((own_up (own_u kf u key) (own_u σ.1 (2 : Int32) u, own_u σ.2 u (2 : Int32)) (own_u σ.2 u (2 : Int32) u)).2 u) ((2 : Int32) + 1) = _
      rw [own_us, ← hτ86, hp]; rfl
    refine ⟨_, _, go124 _ ?_, hrun, hended, _, _, rfl, ?_, ⟨_, rfl⟩, hW, hsame.mono (by decide) (by decide)⟩
    · exact X115.returnOut hx Bd.returns (hb hby d6_63) hr
    · show QPA2 Z _ _ _ _ _ _ _ _ _ _ _ _ _ _ T115.heap _
      exact ⟨rfl, N115, K123, f116, f117, f118, f119, f120, f121, by rw [hput]; exact VIq115, by rw [hput]; exact VPq115⟩
theorem d11_0 : decode prog_17_method_6_code 0 = .ok (.aload_n 0, 1) := by decide +kernel
theorem d11_1 : decode prog_17_method_6_code 1 = .ok (.getfield 17, 3) := by decide +kernel
theorem d11_4 : decode prog_17_method_6_code 4 = .ok (.iload_n 1, 1) := by decide +kernel
theorem d11_5 : decode prog_17_method_6_code 5 = .ok (.iaload, 1) := by decide +kernel
theorem d11_6 : decode prog_17_method_6_code 6 = .ok (.istore_n 2, 1) := by decide +kernel
theorem d11_7 : decode prog_17_method_6_code 7 = .ok (.aload_n 0, 1) := by decide +kernel
theorem d11_8 : decode prog_17_method_6_code 8 = .ok (.getfield 17, 3) := by decide +kernel
theorem d11_11 : decode prog_17_method_6_code 11 = .ok (.iload_n 1, 1) := by decide +kernel
theorem d11_12 : decode prog_17_method_6_code 12 = .ok (.iconst (-1), 1) := by decide +kernel
theorem d11_13 : decode prog_17_method_6_code 13 = .ok (.iastore, 1) := by decide +kernel
theorem d11_14 : decode prog_17_method_6_code 14 = .ok (.aload_n 0, 1) := by decide +kernel
theorem d11_15 : decode prog_17_method_6_code 15 = .ok (.dup, 1) := by decide +kernel
theorem d11_16 : decode prog_17_method_6_code 16 = .ok (.getfield 26, 3) := by decide +kernel
theorem d11_19 : decode prog_17_method_6_code 19 = .ok (.iconst 1, 1) := by decide +kernel
theorem d11_20 : decode prog_17_method_6_code 20 = .ok (.isub, 1) := by decide +kernel
theorem d11_21 : decode prog_17_method_6_code 21 = .ok (.putfield 26, 3) := by decide +kernel
theorem d11_24 : decode prog_17_method_6_code 24 = .ok (.iload_n 2, 1) := by decide +kernel
theorem d11_25 : decode prog_17_method_6_code 25 = .ok (.aload_n 0, 1) := by decide +kernel
theorem d11_26 : decode prog_17_method_6_code 26 = .ok (.getfield 26, 3) := by decide +kernel
theorem d11_29 : decode prog_17_method_6_code 29 = .ok (.if_icmp .ge 42, 3) := by decide +kernel
theorem d11_32 : decode prog_17_method_6_code 32 = .ok (.aload_n 0, 1) := by decide +kernel
theorem d11_33 : decode prog_17_method_6_code 33 = .ok (.getfield 13, 3) := by decide +kernel
theorem d11_36 : decode prog_17_method_6_code 36 = .ok (.aload_n 0, 1) := by decide +kernel
theorem d11_37 : decode prog_17_method_6_code 37 = .ok (.getfield 26, 3) := by decide +kernel
theorem d11_40 : decode prog_17_method_6_code 40 = .ok (.iaload, 1) := by decide +kernel
theorem d11_41 : decode prog_17_method_6_code 41 = .ok (.istore_n 3, 1) := by decide +kernel
theorem d11_42 : decode prog_17_method_6_code 42 = .ok (.aload_n 0, 1) := by decide +kernel
theorem d11_43 : decode prog_17_method_6_code 43 = .ok (.getfield 13, 3) := by decide +kernel
theorem d11_46 : decode prog_17_method_6_code 46 = .ok (.iload_n 2, 1) := by decide +kernel
theorem d11_47 : decode prog_17_method_6_code 47 = .ok (.iload_n 3, 1) := by decide +kernel
theorem d11_48 : decode prog_17_method_6_code 48 = .ok (.iastore, 1) := by decide +kernel
theorem d11_49 : decode prog_17_method_6_code 49 = .ok (.aload_n 0, 1) := by decide +kernel
theorem d11_50 : decode prog_17_method_6_code 50 = .ok (.getfield 17, 3) := by decide +kernel
theorem d11_53 : decode prog_17_method_6_code 53 = .ok (.iload_n 3, 1) := by decide +kernel
theorem d11_54 : decode prog_17_method_6_code 54 = .ok (.iload_n 2, 1) := by decide +kernel
theorem d11_55 : decode prog_17_method_6_code 55 = .ok (.iastore, 1) := by decide +kernel
theorem d11_56 : decode prog_17_method_6_code 56 = .ok (.aload_n 0, 1) := by decide +kernel
theorem d11_57 : decode prog_17_method_6_code 57 = .ok (.iload_n 2, 1) := by decide +kernel
theorem d11_58 : decode prog_17_method_6_code 58 = .ok (.invokevirtual 30, 3) := by decide +kernel
theorem d11_61 : decode prog_17_method_6_code 61 = .ok (.aload_n 0, 1) := by decide +kernel
theorem d11_62 : decode prog_17_method_6_code 62 = .ok (.aload_n 0, 1) := by decide +kernel
theorem d11_63 : decode prog_17_method_6_code 63 = .ok (.getfield 17, 3) := by decide +kernel
theorem d11_66 : decode prog_17_method_6_code 66 = .ok (.iload_n 3, 1) := by decide +kernel
theorem d11_67 : decode prog_17_method_6_code 67 = .ok (.iaload, 1) := by decide +kernel
theorem d11_68 : decode prog_17_method_6_code 68 = .ok (.invokevirtual 34, 3) := by decide +kernel
theorem d11_71 : decode prog_17_method_6_code 71 = .ok (.return_, 1) := by decide +kernel
theorem ef_rmRm01 (m : MethodId) (a1 : Addr) (u : Int32) : entryFrame m #[(.ref a1), (.int u)] 4 = mkF m 0 #[.val (.ref a1), .val (.int u), .unset, .unset] [] := by first | (simp [entryFrame, mkF, argsToLocals, Value.category]; done) | rfl
def QRm01 (Z : State) (a1 : Addr) (u : Int32) (aK aI aP : Addr) (kk ki kp : ClassId) (kf : Int32 → UInt64) (σ : own_P) (h0 : Heap) (n0 : Nat) (v : Option Value) (h : Heap) (L : List Loc) : Prop := v = none ∧ Fr n0 L ∧ Keep h0 h [a1, aK, aI, aP] ∧ Exa Z h a1 "com/example/covermesh/covermesh/algorithms/IndexedMinHeap" ∧ Fld Z h a1 "com/example/covermesh/covermesh/algorithms/IndexedMinHeap" "keys" "[D" (.ref aK) ∧ Fld Z h a1 "com/example/covermesh/covermesh/algorithms/IndexedMinHeap" "items" "[I" (.ref aI) ∧ Fld Z h a1 "com/example/covermesh/covermesh/algorithms/IndexedMinHeap" "positions" "[I" (.ref aP) ∧ Fld Z h a1 "com/example/covermesh/covermesh/algorithms/IndexedMinHeap" "size" "I" (.int (0 : Int32)) ∧ Arv Z h aK kk .double 3 (own_d kf) (.double (0 : UInt64)) ∧ Arv Z h aI ki .int 3 (own_l (own_rmv kf σ u (0 : Int32) (1 : Int32)).1) (.int (0 : Int32)) ∧ Arv Z h aP kp .int 3 (own_l (own_rmv kf σ u (0 : Int32) (1 : Int32)).2) (.int (0 : Int32))
set_option maxRecDepth 65536 in
set_option maxHeartbeats 40000000 in
theorem rmRm01 (l : Launch) (Z : State) (a0 : Array Value) (hw : ∀ d ∈ tables_1, d.before a0 Z = true) (ws : List Jvm.Cond) (a1 : Addr) (u : Int32) (aK aI aP : Addr) (kk ki kp : ClassId) (kf : Int32 → UInt64) (σ : own_P) (h0 : Heap) (n0 : Nat) (Z0 : n0 ≤ h0.size) (E1 : Exa Z h0 a1 "com/example/covermesh/covermesh/algorithms/IndexedMinHeap") (FK : Fld Z h0 a1 "com/example/covermesh/covermesh/algorithms/IndexedMinHeap" "keys" "[D" (.ref aK)) (FI : Fld Z h0 a1 "com/example/covermesh/covermesh/algorithms/IndexedMinHeap" "items" "[I" (.ref aI)) (FP : Fld Z h0 a1 "com/example/covermesh/covermesh/algorithms/IndexedMinHeap" "positions" "[I" (.ref aP)) (FS : Fld Z h0 a1 "com/example/covermesh/covermesh/algorithms/IndexedMinHeap" "size" "I" (.int (1 : Int32))) (VK : Arv Z h0 aK kk .double 3 (own_d kf) (.double (0 : UInt64))) (VI : Arv Z h0 aI ki .int 3 (own_l σ.1) (.int (0 : Int32))) (VP : Arv Z h0 aP kp .int 3 (own_l σ.2) (.int (0 : Int32))) (nKI : aK ≠ aI) (nKP : aK ≠ aP) (nIP : aI ≠ aP) (nAK : a1 ≠ aK) (nAI : a1 ≠ aI) (nAP : a1 ≠ aP) (gA : n0 ≤ a1) (gK : n0 ≤ aK) (gI : n0 ≤ aI) (gP : n0 ≤ aP) (Ru : own_R u) (hgu : σ.2 u = (0 : Int32)) :
    MetFree l (⟨"com/example/covermesh/covermesh/algorithms/IndexedMinHeap", "remove", "(I)V"⟩ : MethodName) (head1 (Jvm.Cond.code (⟨"com/example/covermesh/covermesh/algorithms/IndexedMinHeap", "remove", "(I)V"⟩ : MethodName) prog_17_method_6_code 4 none :: ws) ({ frames := 2, cells := 0, slots := 0, locals := 29 } : Room)) (fun a U => a = #[(.ref a1), (.int u)] ∧ Z.Warmed39 U.vm ∧ U.heap = h0) (fun _ _ _ _ _ => True) (fun _ U o U' => ∃ v L, o = .returned v ∧ QRm01 Z a1 u aK aI aP kk ki kp kf σ h0 n0 v U'.heap L ∧ FrameEnd U o U' L ({ frames := 2, cells := 0, slots := 0, locals := 29 } : Room).cells ({ frames := 2, cells := 0, slots := 0, locals := 29 } : Room).slots) := by
  refine MetFree.of_bodySF (plainFor_of_name pn_0) hisR ?_
  intro p e s m args below meth c s₁ Bd hml0 hP hK
  obtain ⟨rfl, hZ, hh⟩ := hP
  have hx := Bd.exec
  have hby := Bd.bytes
  have hml : c.maxLocals = 4 := hml0
  have hown : s.vm.findClass "com/example/covermesh/covermesh/algorithms/IndexedMinHeap" = some m.cls := findClass_of_methodNamed Bd.named
  have hnm := (name_of_methodNamed Bd.named Bd.method).1
  have X0 : Stand p l e ({ frames := 2, cells := 0, slots := 0, locals := 29 } : Room) s m #[(.ref a1), (.int u)] below meth c s₁ [] 0 0 := Stand.of_body Bd
  have e0 : s₁.heap = h0 := by rw [← hh, Bd.state]; rfl
  have N0 := Fr.nil n0
  have K0 := Keep.refl h0 [a1, aK, aI, aP]
  have go0 : Goes p e below s₁ (entryFrame m #[(.ref a1), (.int u)] 4) s₁ (mkF m 0 #[.val (.ref a1), .val (.int u), .unset, .unset] []) := fun t k => castTop (ef_rmRm01 m a1 u) k
  have go1 : Goes p e below s₁ (entryFrame m #[(.ref a1), (.int u)] 4) s₁ (mkF m 1 #[.val (.ref a1), .val (.int u), .unset, .unset] [(.ref a1)]) := fun t k => by
    refine go0 t ?_
    refine XS.aloadN X0.here hx rfl (hb hby d11_0) rfl rfl ?_
    show Steps p.tables e below (s₁.setTop (mkF m 1 #[.val (.ref a1), .val (.int u), .unset, .unset] [(.ref a1)])) _
    exact k
  obtain ⟨T2, X2, e2, st2⟩ := getF X0 hx hZ hown (host := "") (Or.inl (hw _ (List.mem_of_getElem? (i := 15) rfl))) Via.refl e0 FP (g := (mkF m 1 #[.val (.ref a1), .val (.int u), .unset, .unset] [(.ref a1)])) rfl rfl (hb hby d11_1)
  have go3 : Goes p e below s₁ (entryFrame m #[(.ref a1), (.int u)] 4) T2 (mkF m 4 #[.val (.ref a1), .val (.int u), .unset, .unset] [(.ref aP)]) := fun t k => go1 t (st2 t k)
  have go4 : Goes p e below s₁ (entryFrame m #[(.ref a1), (.int u)] 4) T2 (mkF m 5 #[.val (.ref a1), .val (.int u), .unset, .unset] [(.int u), (.ref aP)]) := fun t k => by
    refine go3 t ?_
    refine XS.iloadN X2.here hx rfl (hb hby d11_4) rfl ?_
    show Steps p.tables e below (T2.setTop (mkF m 5 #[.val (.ref a1), .val (.int u), .unset, .unset] [(.int u), (.ref aP)])) _
    exact k
  obtain ⟨cl5, Ar5, kq5, Sz5, Nn5, Hs5, Gf5⟩ := id (VP)
  have hin5 : ¬ (u < 0 ∨ cl5.slots.size ≤ (u).toNatClampNeg) := inb_of Sz5 (own_inb Ru)
  have hat5 : cl5.slots[(u).toNatClampNeg]? = some (.int (σ.2 u)) := Has.at Hs5 hin5 (own_l_at Ru)
  have go6 : Goes p e below s₁ (entryFrame m #[(.ref a1), (.int u)] 4) T2 (mkF m 6 #[.val (.ref a1), .val (.int u), .unset, .unset] [(.int (σ.2 u))]) := fun t k => by
    refine go4 t ?_
    refine X2.iaload hx (j := u) (v := (.int (σ.2 u))) (own_hp e2 Ar5.1) (State.isArrayOf_alike hZ.alike Ar5.2.1) Ar5.2.2 hin5 hat5 (g := (mkF m 5 #[.val (.ref a1), .val (.int u), .unset, .unset] [(.int u), (.ref aP)])) rfl rfl (hb hby d11_5) _ ?_
    show Steps p.tables e below (T2.setTop (mkF m 6 #[.val (.ref a1), .val (.int u), .unset, .unset] [(.int (σ.2 u))])) _
    exact k
  have go7 : Goes p e below s₁ (entryFrame m #[(.ref a1), (.int u)] 4) T2 (mkF m 6 #[.val (.ref a1), .val (.int u), .unset, .unset] [(.int (0 : Int32))]) := Eq.mp (congrArg (fun zz => Goes p e below s₁ (entryFrame m #[(.ref a1), (.int u)] 4) T2 (mkF m 6 #[.val (.ref a1), .val (.int u), .unset, .unset] [(.int zz)])) hgu) go6
  have go8 : Goes p e below s₁ (entryFrame m #[(.ref a1), (.int u)] 4) T2 (mkF m 8 #[.val (.ref a1), .val (.int u), .val (.int (0 : Int32)), .unset] [(.ref a1)]) := fun t k => by
    refine go7 t ?_
    refine XS.istoreN X2.here hx rfl (hb hby d11_6) rfl (l' := #[.val (.ref a1), .val (.int u), .val (.int (0 : Int32)), .unset]) rfl ?_
    show Steps p.tables e below (T2.setTop (mkF m 7 #[.val (.ref a1), .val (.int u), .val (.int (0 : Int32)), .unset] [])) _
    refine XS.aloadN X2.here hx rfl (hb hby d11_7) rfl rfl ?_
    show Steps p.tables e below (T2.setTop (mkF m 8 #[.val (.ref a1), .val (.int u), .val (.int (0 : Int32)), .unset] [(.ref a1)])) _
    exact k
  obtain ⟨T9, X9, e9, st9⟩ := getF X2 hx hZ hown (host := "") (Or.inl (hw _ (List.mem_of_getElem? (i := 15) rfl))) Via.refl e2 FP (g := (mkF m 8 #[.val (.ref a1), .val (.int u), .val (.int (0 : Int32)), .unset] [(.ref a1)])) rfl rfl (hb hby d11_8)
  have go10 : Goes p e below s₁ (entryFrame m #[(.ref a1), (.int u)] 4) T9 (mkF m 11 #[.val (.ref a1), .val (.int u), .val (.int (0 : Int32)), .unset] [(.ref aP)]) := fun t k => go8 t (st9 t k)
  have go11 : Goes p e below s₁ (entryFrame m #[(.ref a1), (.int u)] 4) T9 (mkF m 13 #[.val (.ref a1), .val (.int u), .val (.int (0 : Int32)), .unset] [(.int (-1 : Int32)), (.int u), (.ref aP)]) := fun t k => by
    refine go10 t ?_
    refine XS.iloadN X9.here hx rfl (hb hby d11_11) rfl ?_
    show Steps p.tables e below (T9.setTop (mkF m 12 #[.val (.ref a1), .val (.int u), .val (.int (0 : Int32)), .unset] [(.int u), (.ref aP)])) _
    refine XS.iconst X9.here hx rfl (hb hby d11_12) ?_
    show Steps p.tables e below (T9.setTop (mkF m 13 #[.val (.ref a1), .val (.int u), .val (.int (0 : Int32)), .unset] [(.int (-1 : Int32)), (.int u), (.ref aP)])) _
    exact k
  obtain ⟨cl12, Ar12, kq12, Sz12, Nn12, Hs12, Gf12⟩ := id (VP)
  have hin12 : ¬ (u < 0 ∨ cl12.slots.size ≤ (u).toNatClampNeg) := inb_of Sz12 (own_inb Ru)
  obtain ⟨T13, h13, X13, e13, W13, st13⟩ := stI X9 hx hZ e9 Ar12 (j := u) hin12 (g := (mkF m 13 #[.val (.ref a1), .val (.int u), .val (.int (0 : Int32)), .unset] [(.int (-1 : Int32)), (.int u), (.ref aP)])) rfl rfl (hb hby d11_13)
  have V14 : Arv Z h13 aP kp .int 3 (own_l (own_u σ.2 u (-1 : Int32))) (.int (0 : Int32)) := by rw [← own_l_set Ru]; exact Arv.set Ar12 kq12 Sz12 Nn12 Hs12 Gf12 rfl W13 _ rfl (own_l_len Ru)
  have f15 := E1.wr W13
  have f16 := FK.other W13 (Or.inl nAP)
  have f17 := FI.other W13 (Or.inl nAP)
  have f18 := FP.other W13 (Or.inl nAP)
  have f19 := FS.other W13 (Or.inl nAP)
  have f20 := VK.other W13 nKP
  have f21 := VI.other W13 nIP
  have Z22 := Nat.le_trans Z0 (Nat.le_of_eq W13.size.symm)
  have K23 := K0.wr W13 (Or.inl (List.mem_of_getElem? (i := 3) rfl))
  have N24 := Fr.snoc X13 N0 gP
  have go25 : Goes p e below s₁ (entryFrame m #[(.ref a1), (.int u)] 4) T13 (mkF m 14 #[.val (.ref a1), .val (.int u), .val (.int (0 : Int32)), .unset] []) := fun t k => go11 t (st13 t k)
  have go26 : Goes p e below s₁ (entryFrame m #[(.ref a1), (.int u)] 4) T13 (mkF m 16 #[.val (.ref a1), .val (.int u), .val (.int (0 : Int32)), .unset] [(.ref a1), (.ref a1)]) := fun t k => by
    refine go25 t ?_
    refine XS.aloadN X13.here hx rfl (hb hby d11_14) rfl rfl ?_
    show Steps p.tables e below (T13.setTop (mkF m 15 #[.val (.ref a1), .val (.int u), .val (.int (0 : Int32)), .unset] [(.ref a1)])) _
    refine XS.dup X13.here hx rfl (hb hby d11_15) rfl rfl ?_
    show Steps p.tables e below (T13.setTop (mkF m 16 #[.val (.ref a1), .val (.int u), .val (.int (0 : Int32)), .unset] [(.ref a1), (.ref a1)])) _
    exact k
  obtain ⟨T27, X27, e27, st27⟩ := getF X13 hx hZ hown (host := "") (Or.inl (hw _ (List.mem_of_getElem? (i := 26) rfl))) Via.refl e13 f19 (g := (mkF m 16 #[.val (.ref a1), .val (.int u), .val (.int (0 : Int32)), .unset] [(.ref a1), (.ref a1)])) rfl rfl (hb hby d11_16)
  have go28 : Goes p e below s₁ (entryFrame m #[(.ref a1), (.int u)] 4) T27 (mkF m 19 #[.val (.ref a1), .val (.int u), .val (.int (0 : Int32)), .unset] [(.int (1 : Int32)), (.ref a1)]) := fun t k => go26 t (st27 t k)
  have go29 : Goes p e below s₁ (entryFrame m #[(.ref a1), (.int u)] 4) T27 (mkF m 21 #[.val (.ref a1), .val (.int u), .val (.int (0 : Int32)), .unset] [(.int (0 : Int32)), (.ref a1)]) := fun t k => by
    refine go28 t ?_
    refine XS.iconst X27.here hx rfl (hb hby d11_19) ?_
    show Steps p.tables e below (T27.setTop (mkF m 20 #[.val (.ref a1), .val (.int u), .val (.int (0 : Int32)), .unset] [(.int (1 : Int32)), (.int (1 : Int32)), (.ref a1)])) _
    refine XS.isub X27.here hx rfl (hb hby d11_20) rfl ?_
    show Steps p.tables e below (T27.setTop (mkF m 21 #[.val (.ref a1), .val (.int u), .val (.int (0 : Int32)), .unset] [(.int (0 : Int32)), (.ref a1)])) _
    exact k
  obtain ⟨T30, h30, X30, e30, W30, st30⟩ := putF X27 hx hZ hown (host := "") (Or.inl (hw _ (List.mem_of_getElem? (i := 26) rfl))) Via.refl e27 f19 f15 (Or.inl (hw _ (List.mem_of_getElem? (i := 27) rfl))) (hw _ (List.mem_of_getElem? (i := 1) rfl)) (ty := .int) (by decide) rfl rfl (g := (mkF m 21 #[.val (.ref a1), .val (.int u), .val (.int (0 : Int32)), .unset] [(.int (0 : Int32)), (.ref a1)])) rfl rfl (hb hby d11_21)
  have f31 := f19.same W30
  have f32 := f15.wr W30
  have f33 := f16.other W30 (Or.inr (slot_ne (Or.inr (hw _ (List.mem_of_getElem? (i := 11) rfl))) (Or.inl (hw _ (List.mem_of_getElem? (i := 27) rfl))) (by decide) (t := (.array .double)) (t' := .int) (by decide) (by decide)))
  have f34 := f17.other W30 (Or.inr (slot_ne (Or.inr (hw _ (List.mem_of_getElem? (i := 14) rfl))) (Or.inl (hw _ (List.mem_of_getElem? (i := 27) rfl))) (by decide) (t := (.array .int)) (t' := .int) (by decide) (by decide)))
  have f35 := f18.other W30 (Or.inr (slot_ne (Or.inr (hw _ (List.mem_of_getElem? (i := 16) rfl))) (Or.inl (hw _ (List.mem_of_getElem? (i := 27) rfl))) (by decide) (t := (.array .int)) (t' := .int) (by decide) (by decide)))
  have f36 := f20.other W30 (Ne.symm nAK)
  have f37 := f21.other W30 (Ne.symm nAI)
  have f38 := V14.other W30 (Ne.symm nAP)
  have Z39 := Nat.le_trans Z22 (Nat.le_of_eq W30.size.symm)
  have K40 := K23.wr W30 (Or.inl (List.mem_of_getElem? (i := 0) rfl))
  have N41 := Fr.snoc X30 N24 gA
  have go42 : Goes p e below s₁ (entryFrame m #[(.ref a1), (.int u)] 4) T30 (mkF m 24 #[.val (.ref a1), .val (.int u), .val (.int (0 : Int32)), .unset] []) := fun t k => go29 t (st30 t k)
  have go43 : Goes p e below s₁ (entryFrame m #[(.ref a1), (.int u)] 4) T30 (mkF m 26 #[.val (.ref a1), .val (.int u), .val (.int (0 : Int32)), .unset] [(.ref a1), (.int (0 : Int32))]) := fun t k => by
    refine go42 t ?_
    refine XS.iloadN X30.here hx rfl (hb hby d11_24) rfl ?_
    show Steps p.tables e below (T30.setTop (mkF m 25 #[.val (.ref a1), .val (.int u), .val (.int (0 : Int32)), .unset] [(.int (0 : Int32))])) _
    refine XS.aloadN X30.here hx rfl (hb hby d11_25) rfl rfl ?_
    show Steps p.tables e below (T30.setTop (mkF m 26 #[.val (.ref a1), .val (.int u), .val (.int (0 : Int32)), .unset] [(.ref a1), (.int (0 : Int32))])) _
    exact k
  obtain ⟨T44, X44, e44, st44⟩ := getF X30 hx hZ hown (host := "") (Or.inl (hw _ (List.mem_of_getElem? (i := 26) rfl))) Via.refl e30 f31 (g := (mkF m 26 #[.val (.ref a1), .val (.int u), .val (.int (0 : Int32)), .unset] [(.ref a1), (.int (0 : Int32))])) rfl rfl (hb hby d11_26)
  have go45 : Goes p e below s₁ (entryFrame m #[(.ref a1), (.int u)] 4) T44 (mkF m 29 #[.val (.ref a1), .val (.int u), .val (.int (0 : Int32)), .unset] [(.int (0 : Int32)), (.int (0 : Int32))]) := fun t k => go43 t (st44 t k)
  have go46 : Goes p e below s₁ (entryFrame m #[(.ref a1), (.int u)] 4) T44 (mkF m 71 #[.val (.ref a1), .val (.int u), .val (.int (0 : Int32)), .unset] []) := fun t k => by
    refine go45 t ?_
    refine XS.icmpYes X44.here hx rfl (pc0 := 29) (pc' := 71) rfl (hb hby d11_29) rfl (Jvm.Free.XT.ii_ge_t (by decide)) (by decide) (by decide) ?_
    show Steps p.tables e below (T44.setTop (mkF m 71 #[.val (.ref a1), .val (.int u), .val (.int (0 : Int32)), .unset] [])) _
    exact k
  obtain ⟨fs, hr, hrun, hended, hW, hsame⟩ := X44.leave (v := none) (fun _ => rfl)
  have hrm : own_rmv kf σ u (0 : Int32) (1 : Int32) = (σ.1, (own_u σ.2 u (-1 : Int32))) := if_pos rfl
  refine ⟨_, _, go46 _ ?_, hrun, hended, _, _, rfl, ?_, ⟨_, rfl⟩, hW, hsame.mono (by decide) (by decide)⟩
  · exact X44.returnOut hx Bd.returns (hb hby d11_71) hr
  · show QRm01 Z _ _ _ _ _ _ _ _ _ _ _ _ _ T44.heap _
    rw [e44]
    exact ⟨rfl, N41, K40, f32, f33, f34, f35, f31, f36, by rw [hrm]; exact f37, by rw [hrm]; exact f38⟩
theorem ef_rmRm02 (m : MethodId) (a1 : Addr) (u : Int32) : entryFrame m #[(.ref a1), (.int u)] 4 = mkF m 0 #[.val (.ref a1), .val (.int u), .unset, .unset] [] := by first | (simp [entryFrame, mkF, argsToLocals, Value.category]; done) | rfl
def QRm02 (Z : State) (a1 : Addr) (u : Int32) (aK aI aP : Addr) (kk ki kp : ClassId) (kf : Int32 → UInt64) (σ : own_P) (h0 : Heap) (n0 : Nat) (v : Option Value) (h : Heap) (L : List Loc) : Prop := v = none ∧ Fr n0 L ∧ Keep h0 h [a1, aK, aI, aP] ∧ Exa Z h a1 "com/example/covermesh/covermesh/algorithms/IndexedMinHeap" ∧ Fld Z h a1 "com/example/covermesh/covermesh/algorithms/IndexedMinHeap" "keys" "[D" (.ref aK) ∧ Fld Z h a1 "com/example/covermesh/covermesh/algorithms/IndexedMinHeap" "items" "[I" (.ref aI) ∧ Fld Z h a1 "com/example/covermesh/covermesh/algorithms/IndexedMinHeap" "positions" "[I" (.ref aP) ∧ Fld Z h a1 "com/example/covermesh/covermesh/algorithms/IndexedMinHeap" "size" "I" (.int (1 : Int32)) ∧ Arv Z h aK kk .double 3 (own_d kf) (.double (0 : UInt64)) ∧ Arv Z h aI ki .int 3 (own_l (own_rmv kf σ u (0 : Int32) (2 : Int32)).1) (.int (0 : Int32)) ∧ Arv Z h aP kp .int 3 (own_l (own_rmv kf σ u (0 : Int32) (2 : Int32)).2) (.int (0 : Int32))
set_option maxRecDepth 65536 in
set_option maxHeartbeats 40000000 in
theorem rmRm02 (l : Launch) (Z : State) (a0 : Array Value) (hw : ∀ d ∈ tables_1, d.before a0 Z = true) (ws : List Jvm.Cond) (a1 : Addr) (u : Int32) (aK aI aP : Addr) (kk ki kp : ClassId) (kf : Int32 → UInt64) (σ : own_P) (h0 : Heap) (n0 : Nat) (Z0 : n0 ≤ h0.size) (E1 : Exa Z h0 a1 "com/example/covermesh/covermesh/algorithms/IndexedMinHeap") (FK : Fld Z h0 a1 "com/example/covermesh/covermesh/algorithms/IndexedMinHeap" "keys" "[D" (.ref aK)) (FI : Fld Z h0 a1 "com/example/covermesh/covermesh/algorithms/IndexedMinHeap" "items" "[I" (.ref aI)) (FP : Fld Z h0 a1 "com/example/covermesh/covermesh/algorithms/IndexedMinHeap" "positions" "[I" (.ref aP)) (FS : Fld Z h0 a1 "com/example/covermesh/covermesh/algorithms/IndexedMinHeap" "size" "I" (.int (2 : Int32))) (VK : Arv Z h0 aK kk .double 3 (own_d kf) (.double (0 : UInt64))) (VI : Arv Z h0 aI ki .int 3 (own_l σ.1) (.int (0 : Int32))) (VP : Arv Z h0 aP kp .int 3 (own_l σ.2) (.int (0 : Int32))) (nKI : aK ≠ aI) (nKP : aK ≠ aP) (nIP : aI ≠ aP) (nAK : a1 ≠ aK) (nAI : a1 ≠ aI) (nAP : a1 ≠ aP) (gA : n0 ≤ a1) (gK : n0 ≤ aK) (gI : n0 ≤ aI) (gP : n0 ≤ aP) (Ru : own_R u) (hgu : σ.2 u = (0 : Int32)) (R0 : own_R (σ.1 (0 : Int32))) (R1 : own_R (σ.1 (1 : Int32))) :
    MetFree l (⟨"com/example/covermesh/covermesh/algorithms/IndexedMinHeap", "remove", "(I)V"⟩ : MethodName) (head1 (Jvm.Cond.code (⟨"com/example/covermesh/covermesh/algorithms/IndexedMinHeap", "remove", "(I)V"⟩ : MethodName) prog_17_method_6_code 4 none :: ws) ({ frames := 2, cells := 0, slots := 0, locals := 29 } : Room)) (fun a U => a = #[(.ref a1), (.int u)] ∧ Z.Warmed39 U.vm ∧ U.heap = h0) (fun _ _ _ _ _ => True) (fun _ U o U' => ∃ v L, o = .returned v ∧ QRm02 Z a1 u aK aI aP kk ki kp kf σ h0 n0 v U'.heap L ∧ FrameEnd U o U' L ({ frames := 2, cells := 0, slots := 0, locals := 29 } : Room).cells ({ frames := 2, cells := 0, slots := 0, locals := 29 } : Room).slots) := by
  refine MetFree.of_bodySF (plainFor_of_name pn_0) hisR ?_
  intro p e s m args below meth c s₁ Bd hml0 hP hK
  obtain ⟨rfl, hZ, hh⟩ := hP
  have hx := Bd.exec
  have hby := Bd.bytes
  have hml : c.maxLocals = 4 := hml0
  have hown : s.vm.findClass "com/example/covermesh/covermesh/algorithms/IndexedMinHeap" = some m.cls := findClass_of_methodNamed Bd.named
  have hnm := (name_of_methodNamed Bd.named Bd.method).1
  have X0 : Stand p l e ({ frames := 2, cells := 0, slots := 0, locals := 29 } : Room) s m #[(.ref a1), (.int u)] below meth c s₁ [] 0 0 := Stand.of_body Bd
  have e0 : s₁.heap = h0 := by rw [← hh, Bd.state]; rfl
  have N0 := Fr.nil n0
  have K0 := Keep.refl h0 [a1, aK, aI, aP]
  have go0 : Goes p e below s₁ (entryFrame m #[(.ref a1), (.int u)] 4) s₁ (mkF m 0 #[.val (.ref a1), .val (.int u), .unset, .unset] []) := fun t k => castTop (ef_rmRm02 m a1 u) k
  have go1 : Goes p e below s₁ (entryFrame m #[(.ref a1), (.int u)] 4) s₁ (mkF m 1 #[.val (.ref a1), .val (.int u), .unset, .unset] [(.ref a1)]) := fun t k => by
    refine go0 t ?_
    refine XS.aloadN X0.here hx rfl (hb hby d11_0) rfl rfl ?_
    show Steps p.tables e below (s₁.setTop (mkF m 1 #[.val (.ref a1), .val (.int u), .unset, .unset] [(.ref a1)])) _
    exact k
  obtain ⟨T2, X2, e2, st2⟩ := getF X0 hx hZ hown (host := "") (Or.inl (hw _ (List.mem_of_getElem? (i := 15) rfl))) Via.refl e0 FP (g := (mkF m 1 #[.val (.ref a1), .val (.int u), .unset, .unset] [(.ref a1)])) rfl rfl (hb hby d11_1)
  have go3 : Goes p e below s₁ (entryFrame m #[(.ref a1), (.int u)] 4) T2 (mkF m 4 #[.val (.ref a1), .val (.int u), .unset, .unset] [(.ref aP)]) := fun t k => go1 t (st2 t k)
  have go4 : Goes p e below s₁ (entryFrame m #[(.ref a1), (.int u)] 4) T2 (mkF m 5 #[.val (.ref a1), .val (.int u), .unset, .unset] [(.int u), (.ref aP)]) := fun t k => by
    refine go3 t ?_
    refine XS.iloadN X2.here hx rfl (hb hby d11_4) rfl ?_
    show Steps p.tables e below (T2.setTop (mkF m 5 #[.val (.ref a1), .val (.int u), .unset, .unset] [(.int u), (.ref aP)])) _
    exact k
  obtain ⟨cl5, Ar5, kq5, Sz5, Nn5, Hs5, Gf5⟩ := id (VP)
  have hin5 : ¬ (u < 0 ∨ cl5.slots.size ≤ (u).toNatClampNeg) := inb_of Sz5 (own_inb Ru)
  have hat5 : cl5.slots[(u).toNatClampNeg]? = some (.int (σ.2 u)) := Has.at Hs5 hin5 (own_l_at Ru)
  have go6 : Goes p e below s₁ (entryFrame m #[(.ref a1), (.int u)] 4) T2 (mkF m 6 #[.val (.ref a1), .val (.int u), .unset, .unset] [(.int (σ.2 u))]) := fun t k => by
    refine go4 t ?_
    refine X2.iaload hx (j := u) (v := (.int (σ.2 u))) (own_hp e2 Ar5.1) (State.isArrayOf_alike hZ.alike Ar5.2.1) Ar5.2.2 hin5 hat5 (g := (mkF m 5 #[.val (.ref a1), .val (.int u), .unset, .unset] [(.int u), (.ref aP)])) rfl rfl (hb hby d11_5) _ ?_
    show Steps p.tables e below (T2.setTop (mkF m 6 #[.val (.ref a1), .val (.int u), .unset, .unset] [(.int (σ.2 u))])) _
    exact k
  have go7 : Goes p e below s₁ (entryFrame m #[(.ref a1), (.int u)] 4) T2 (mkF m 6 #[.val (.ref a1), .val (.int u), .unset, .unset] [(.int (0 : Int32))]) := Eq.mp (congrArg (fun zz => Goes p e below s₁ (entryFrame m #[(.ref a1), (.int u)] 4) T2 (mkF m 6 #[.val (.ref a1), .val (.int u), .unset, .unset] [(.int zz)])) hgu) go6
  have go8 : Goes p e below s₁ (entryFrame m #[(.ref a1), (.int u)] 4) T2 (mkF m 8 #[.val (.ref a1), .val (.int u), .val (.int (0 : Int32)), .unset] [(.ref a1)]) := fun t k => by
    refine go7 t ?_
    refine XS.istoreN X2.here hx rfl (hb hby d11_6) rfl (l' := #[.val (.ref a1), .val (.int u), .val (.int (0 : Int32)), .unset]) rfl ?_
    show Steps p.tables e below (T2.setTop (mkF m 7 #[.val (.ref a1), .val (.int u), .val (.int (0 : Int32)), .unset] [])) _
    refine XS.aloadN X2.here hx rfl (hb hby d11_7) rfl rfl ?_
    show Steps p.tables e below (T2.setTop (mkF m 8 #[.val (.ref a1), .val (.int u), .val (.int (0 : Int32)), .unset] [(.ref a1)])) _
    exact k
  obtain ⟨T9, X9, e9, st9⟩ := getF X2 hx hZ hown (host := "") (Or.inl (hw _ (List.mem_of_getElem? (i := 15) rfl))) Via.refl e2 FP (g := (mkF m 8 #[.val (.ref a1), .val (.int u), .val (.int (0 : Int32)), .unset] [(.ref a1)])) rfl rfl (hb hby d11_8)
  have go10 : Goes p e below s₁ (entryFrame m #[(.ref a1), (.int u)] 4) T9 (mkF m 11 #[.val (.ref a1), .val (.int u), .val (.int (0 : Int32)), .unset] [(.ref aP)]) := fun t k => go8 t (st9 t k)
  have go11 : Goes p e below s₁ (entryFrame m #[(.ref a1), (.int u)] 4) T9 (mkF m 13 #[.val (.ref a1), .val (.int u), .val (.int (0 : Int32)), .unset] [(.int (-1 : Int32)), (.int u), (.ref aP)]) := fun t k => by
    refine go10 t ?_
    refine XS.iloadN X9.here hx rfl (hb hby d11_11) rfl ?_
    show Steps p.tables e below (T9.setTop (mkF m 12 #[.val (.ref a1), .val (.int u), .val (.int (0 : Int32)), .unset] [(.int u), (.ref aP)])) _
    refine XS.iconst X9.here hx rfl (hb hby d11_12) ?_
    show Steps p.tables e below (T9.setTop (mkF m 13 #[.val (.ref a1), .val (.int u), .val (.int (0 : Int32)), .unset] [(.int (-1 : Int32)), (.int u), (.ref aP)])) _
    exact k
  obtain ⟨cl12, Ar12, kq12, Sz12, Nn12, Hs12, Gf12⟩ := id (VP)
  have hin12 : ¬ (u < 0 ∨ cl12.slots.size ≤ (u).toNatClampNeg) := inb_of Sz12 (own_inb Ru)
  obtain ⟨T13, h13, X13, e13, W13, st13⟩ := stI X9 hx hZ e9 Ar12 (j := u) hin12 (g := (mkF m 13 #[.val (.ref a1), .val (.int u), .val (.int (0 : Int32)), .unset] [(.int (-1 : Int32)), (.int u), (.ref aP)])) rfl rfl (hb hby d11_13)
  have V14 : Arv Z h13 aP kp .int 3 (own_l (own_u σ.2 u (-1 : Int32))) (.int (0 : Int32)) := by rw [← own_l_set Ru]; exact Arv.set Ar12 kq12 Sz12 Nn12 Hs12 Gf12 rfl W13 _ rfl (own_l_len Ru)
  have f15 := E1.wr W13
  have f16 := FK.other W13 (Or.inl nAP)
  have f17 := FI.other W13 (Or.inl nAP)
  have f18 := FP.other W13 (Or.inl nAP)
  have f19 := FS.other W13 (Or.inl nAP)
  have f20 := VK.other W13 nKP
  have f21 := VI.other W13 nIP
  have Z22 := Nat.le_trans Z0 (Nat.le_of_eq W13.size.symm)
  have K23 := K0.wr W13 (Or.inl (List.mem_of_getElem? (i := 3) rfl))
  have N24 := Fr.snoc X13 N0 gP
  have go25 : Goes p e below s₁ (entryFrame m #[(.ref a1), (.int u)] 4) T13 (mkF m 14 #[.val (.ref a1), .val (.int u), .val (.int (0 : Int32)), .unset] []) := fun t k => go11 t (st13 t k)
  have go26 : Goes p e below s₁ (entryFrame m #[(.ref a1), (.int u)] 4) T13 (mkF m 16 #[.val (.ref a1), .val (.int u), .val (.int (0 : Int32)), .unset] [(.ref a1), (.ref a1)]) := fun t k => by
    refine go25 t ?_
    refine XS.aloadN X13.here hx rfl (hb hby d11_14) rfl rfl ?_
    show Steps p.tables e below (T13.setTop (mkF m 15 #[.val (.ref a1), .val (.int u), .val (.int (0 : Int32)), .unset] [(.ref a1)])) _
    refine XS.dup X13.here hx rfl (hb hby d11_15) rfl rfl ?_
    show Steps p.tables e below (T13.setTop (mkF m 16 #[.val (.ref a1), .val (.int u), .val (.int (0 : Int32)), .unset] [(.ref a1), (.ref a1)])) _
    exact k
  obtain ⟨T27, X27, e27, st27⟩ := getF X13 hx hZ hown (host := "") (Or.inl (hw _ (List.mem_of_getElem? (i := 26) rfl))) Via.refl e13 f19 (g := (mkF m 16 #[.val (.ref a1), .val (.int u), .val (.int (0 : Int32)), .unset] [(.ref a1), (.ref a1)])) rfl rfl (hb hby d11_16)
  have go28 : Goes p e below s₁ (entryFrame m #[(.ref a1), (.int u)] 4) T27 (mkF m 19 #[.val (.ref a1), .val (.int u), .val (.int (0 : Int32)), .unset] [(.int (2 : Int32)), (.ref a1)]) := fun t k => go26 t (st27 t k)
  have go29 : Goes p e below s₁ (entryFrame m #[(.ref a1), (.int u)] 4) T27 (mkF m 21 #[.val (.ref a1), .val (.int u), .val (.int (0 : Int32)), .unset] [(.int (1 : Int32)), (.ref a1)]) := fun t k => by
    refine go28 t ?_
    refine XS.iconst X27.here hx rfl (hb hby d11_19) ?_
    show Steps p.tables e below (T27.setTop (mkF m 20 #[.val (.ref a1), .val (.int u), .val (.int (0 : Int32)), .unset] [(.int (1 : Int32)), (.int (2 : Int32)), (.ref a1)])) _
    refine XS.isub X27.here hx rfl (hb hby d11_20) rfl ?_
    show Steps p.tables e below (T27.setTop (mkF m 21 #[.val (.ref a1), .val (.int u), .val (.int (0 : Int32)), .unset] [(.int (1 : Int32)), (.ref a1)])) _
    exact k
  obtain ⟨T30, h30, X30, e30, W30, st30⟩ := putF X27 hx hZ hown (host := "") (Or.inl (hw _ (List.mem_of_getElem? (i := 26) rfl))) Via.refl e27 f19 f15 (Or.inl (hw _ (List.mem_of_getElem? (i := 27) rfl))) (hw _ (List.mem_of_getElem? (i := 1) rfl)) (ty := .int) (by decide) rfl rfl (g := (mkF m 21 #[.val (.ref a1), .val (.int u), .val (.int (0 : Int32)), .unset] [(.int (1 : Int32)), (.ref a1)])) rfl rfl (hb hby d11_21)
  have f31 := f19.same W30
  have f32 := f15.wr W30
  have f33 := f16.other W30 (Or.inr (slot_ne (Or.inr (hw _ (List.mem_of_getElem? (i := 11) rfl))) (Or.inl (hw _ (List.mem_of_getElem? (i := 27) rfl))) (by decide) (t := (.array .double)) (t' := .int) (by decide) (by decide)))
  have f34 := f17.other W30 (Or.inr (slot_ne (Or.inr (hw _ (List.mem_of_getElem? (i := 14) rfl))) (Or.inl (hw _ (List.mem_of_getElem? (i := 27) rfl))) (by decide) (t := (.array .int)) (t' := .int) (by decide) (by decide)))
  have f35 := f18.other W30 (Or.inr (slot_ne (Or.inr (hw _ (List.mem_of_getElem? (i := 16) rfl))) (Or.inl (hw _ (List.mem_of_getElem? (i := 27) rfl))) (by decide) (t := (.array .int)) (t' := .int) (by decide) (by decide)))
  have f36 := f20.other W30 (Ne.symm nAK)
  have f37 := f21.other W30 (Ne.symm nAI)
  have f38 := V14.other W30 (Ne.symm nAP)
  have Z39 := Nat.le_trans Z22 (Nat.le_of_eq W30.size.symm)
  have K40 := K23.wr W30 (Or.inl (List.mem_of_getElem? (i := 0) rfl))
  have N41 := Fr.snoc X30 N24 gA
  have go42 : Goes p e below s₁ (entryFrame m #[(.ref a1), (.int u)] 4) T30 (mkF m 24 #[.val (.ref a1), .val (.int u), .val (.int (0 : Int32)), .unset] []) := fun t k => go29 t (st30 t k)
  have go43 : Goes p e below s₁ (entryFrame m #[(.ref a1), (.int u)] 4) T30 (mkF m 26 #[.val (.ref a1), .val (.int u), .val (.int (0 : Int32)), .unset] [(.ref a1), (.int (0 : Int32))]) := fun t k => by
    refine go42 t ?_
    refine XS.iloadN X30.here hx rfl (hb hby d11_24) rfl ?_
    show Steps p.tables e below (T30.setTop (mkF m 25 #[.val (.ref a1), .val (.int u), .val (.int (0 : Int32)), .unset] [(.int (0 : Int32))])) _
    refine XS.aloadN X30.here hx rfl (hb hby d11_25) rfl rfl ?_
    show Steps p.tables e below (T30.setTop (mkF m 26 #[.val (.ref a1), .val (.int u), .val (.int (0 : Int32)), .unset] [(.ref a1), (.int (0 : Int32))])) _
    exact k
  obtain ⟨T44, X44, e44, st44⟩ := getF X30 hx hZ hown (host := "") (Or.inl (hw _ (List.mem_of_getElem? (i := 26) rfl))) Via.refl e30 f31 (g := (mkF m 26 #[.val (.ref a1), .val (.int u), .val (.int (0 : Int32)), .unset] [(.ref a1), (.int (0 : Int32))])) rfl rfl (hb hby d11_26)
  have go45 : Goes p e below s₁ (entryFrame m #[(.ref a1), (.int u)] 4) T44 (mkF m 29 #[.val (.ref a1), .val (.int u), .val (.int (0 : Int32)), .unset] [(.int (1 : Int32)), (.int (0 : Int32))]) := fun t k => go43 t (st44 t k)
  have go46 : Goes p e below s₁ (entryFrame m #[(.ref a1), (.int u)] 4) T44 (mkF m 33 #[.val (.ref a1), .val (.int u), .val (.int (0 : Int32)), .unset] [(.ref a1)]) := fun t k => by
    refine go45 t ?_
    refine XS.icmpNo X44.here hx rfl (hb hby d11_29) rfl (Jvm.Free.XT.ii_ge_f (by decide)) ?_
    show Steps p.tables e below (T44.setTop (mkF m 32 #[.val (.ref a1), .val (.int u), .val (.int (0 : Int32)), .unset] [])) _
    refine XS.aloadN X44.here hx rfl (hb hby d11_32) rfl rfl ?_
    show Steps p.tables e below (T44.setTop (mkF m 33 #[.val (.ref a1), .val (.int u), .val (.int (0 : Int32)), .unset] [(.ref a1)])) _
    exact k
  obtain ⟨T47, X47, e47, st47⟩ := getF X44 hx hZ hown (host := "") (Or.inl (hw _ (List.mem_of_getElem? (i := 13) rfl))) Via.refl e44 f34 (g := (mkF m 33 #[.val (.ref a1), .val (.int u), .val (.int (0 : Int32)), .unset] [(.ref a1)])) rfl rfl (hb hby d11_33)
  have go48 : Goes p e below s₁ (entryFrame m #[(.ref a1), (.int u)] 4) T47 (mkF m 36 #[.val (.ref a1), .val (.int u), .val (.int (0 : Int32)), .unset] [(.ref aI)]) := fun t k => go46 t (st47 t k)
  have go49 : Goes p e below s₁ (entryFrame m #[(.ref a1), (.int u)] 4) T47 (mkF m 37 #[.val (.ref a1), .val (.int u), .val (.int (0 : Int32)), .unset] [(.ref a1), (.ref aI)]) := fun t k => by
    refine go48 t ?_
    refine XS.aloadN X47.here hx rfl (hb hby d11_36) rfl rfl ?_
    show Steps p.tables e below (T47.setTop (mkF m 37 #[.val (.ref a1), .val (.int u), .val (.int (0 : Int32)), .unset] [(.ref a1), (.ref aI)])) _
    exact k
  obtain ⟨T50, X50, e50, st50⟩ := getF X47 hx hZ hown (host := "") (Or.inl (hw _ (List.mem_of_getElem? (i := 26) rfl))) Via.refl e47 f31 (g := (mkF m 37 #[.val (.ref a1), .val (.int u), .val (.int (0 : Int32)), .unset] [(.ref a1), (.ref aI)])) rfl rfl (hb hby d11_37)
  have go51 : Goes p e below s₁ (entryFrame m #[(.ref a1), (.int u)] 4) T50 (mkF m 40 #[.val (.ref a1), .val (.int u), .val (.int (0 : Int32)), .unset] [(.int (1 : Int32)), (.ref aI)]) := fun t k => go49 t (st50 t k)
  obtain ⟨cl52, Ar52, kq52, Sz52, Nn52, Hs52, Gf52⟩ := id (f37)
  have hin52 : ¬ ((1 : Int32) < 0 ∨ cl52.slots.size ≤ ((1 : Int32)).toNatClampNeg) := inb_of Sz52 (own_inb own_R1)
  have hat52 : cl52.slots[((1 : Int32)).toNatClampNeg]? = some (.int (σ.1 (1 : Int32))) := Has.at Hs52 hin52 (own_l_at own_R1)
  have go53 : Goes p e below s₁ (entryFrame m #[(.ref a1), (.int u)] 4) T50 (mkF m 43 #[.val (.ref a1), .val (.int u), .val (.int (0 : Int32)), .val (.int (σ.1 (1 : Int32)))] [(.ref a1)]) := fun t k => by
    refine go51 t ?_
    refine X50.iaload hx (j := (1 : Int32)) (v := (.int (σ.1 (1 : Int32)))) (own_hp e50 Ar52.1) (State.isArrayOf_alike hZ.alike Ar52.2.1) Ar52.2.2 hin52 hat52 (g := (mkF m 40 #[.val (.ref a1), .val (.int u), .val (.int (0 : Int32)), .unset] [(.int (1 : Int32)), (.ref aI)])) rfl rfl (hb hby d11_40) _ ?_
    show Steps p.tables e below (T50.setTop (mkF m 41 #[.val (.ref a1), .val (.int u), .val (.int (0 : Int32)), .unset] [(.int (σ.1 (1 : Int32)))])) _
    refine XS.istoreN X50.here hx rfl (hb hby d11_41) rfl (l' := #[.val (.ref a1), .val (.int u), .val (.int (0 : Int32)), .val (.int (σ.1 (1 : Int32)))]) rfl ?_
    show Steps p.tables e below (T50.setTop (mkF m 42 #[.val (.ref a1), .val (.int u), .val (.int (0 : Int32)), .val (.int (σ.1 (1 : Int32)))] [])) _
    refine XS.aloadN X50.here hx rfl (hb hby d11_42) rfl rfl ?_
    show Steps p.tables e below (T50.setTop (mkF m 43 #[.val (.ref a1), .val (.int u), .val (.int (0 : Int32)), .val (.int (σ.1 (1 : Int32)))] [(.ref a1)])) _
    exact k
  obtain ⟨T54, X54, e54, st54⟩ := getF X50 hx hZ hown (host := "") (Or.inl (hw _ (List.mem_of_getElem? (i := 13) rfl))) Via.refl e50 f34 (g := (mkF m 43 #[.val (.ref a1), .val (.int u), .val (.int (0 : Int32)), .val (.int (σ.1 (1 : Int32)))] [(.ref a1)])) rfl rfl (hb hby d11_43)
  have go55 : Goes p e below s₁ (entryFrame m #[(.ref a1), (.int u)] 4) T54 (mkF m 46 #[.val (.ref a1), .val (.int u), .val (.int (0 : Int32)), .val (.int (σ.1 (1 : Int32)))] [(.ref aI)]) := fun t k => go53 t (st54 t k)
  have go56 : Goes p e below s₁ (entryFrame m #[(.ref a1), (.int u)] 4) T54 (mkF m 48 #[.val (.ref a1), .val (.int u), .val (.int (0 : Int32)), .val (.int (σ.1 (1 : Int32)))] [(.int (σ.1 (1 : Int32))), (.int (0 : Int32)), (.ref aI)]) := fun t k => by
    refine go55 t ?_
    refine XS.iloadN X54.here hx rfl (hb hby d11_46) rfl ?_
    show Steps p.tables e below (T54.setTop (mkF m 47 #[.val (.ref a1), .val (.int u), .val (.int (0 : Int32)), .val (.int (σ.1 (1 : Int32)))] [(.int (0 : Int32)), (.ref aI)])) _
    refine XS.iloadN X54.here hx rfl (hb hby d11_47) rfl ?_
    show Steps p.tables e below (T54.setTop (mkF m 48 #[.val (.ref a1), .val (.int u), .val (.int (0 : Int32)), .val (.int (σ.1 (1 : Int32)))] [(.int (σ.1 (1 : Int32))), (.int (0 : Int32)), (.ref aI)])) _
    exact k
  obtain ⟨cl57, Ar57, kq57, Sz57, Nn57, Hs57, Gf57⟩ := id (f37)
  have hin57 : ¬ ((0 : Int32) < 0 ∨ cl57.slots.size ≤ ((0 : Int32)).toNatClampNeg) := inb_of Sz57 (own_inb own_R0)
  obtain ⟨T58, h58, X58, e58, W58, st58⟩ := stI X54 hx hZ e54 Ar57 (j := (0 : Int32)) hin57 (g := (mkF m 48 #[.val (.ref a1), .val (.int u), .val (.int (0 : Int32)), .val (.int (σ.1 (1 : Int32)))] [(.int (σ.1 (1 : Int32))), (.int (0 : Int32)), (.ref aI)])) rfl rfl (hb hby d11_48)
  have V59 : Arv Z h58 aI ki .int 3 (own_l (own_u σ.1 (0 : Int32) (σ.1 (1 : Int32)))) (.int (0 : Int32)) := by rw [← own_l_set own_R0]; exact Arv.set Ar57 kq57 Sz57 Nn57 Hs57 Gf57 rfl W58 _ rfl (own_l_len own_R0)
  have f60 := f32.wr W58
  have f61 := f33.other W58 (Or.inl nAI)
  have f62 := f34.other W58 (Or.inl nAI)
  have f63 := f35.other W58 (Or.inl nAI)
  have f64 := f36.other W58 nKI
  have f65 := f38.other W58 (Ne.symm nIP)
  have f66 := f31.other W58 (Or.inl nAI)
  have Z67 := Nat.le_trans Z39 (Nat.le_of_eq W58.size.symm)
  have K68 := K40.wr W58 (Or.inl (List.mem_of_getElem? (i := 2) rfl))
  have N69 := Fr.snoc X58 N41 gI
  have go70 : Goes p e below s₁ (entryFrame m #[(.ref a1), (.int u)] 4) T58 (mkF m 49 #[.val (.ref a1), .val (.int u), .val (.int (0 : Int32)), .val (.int (σ.1 (1 : Int32)))] []) := fun t k => go56 t (st58 t k)
  have go71 : Goes p e below s₁ (entryFrame m #[(.ref a1), (.int u)] 4) T58 (mkF m 50 #[.val (.ref a1), .val (.int u), .val (.int (0 : Int32)), .val (.int (σ.1 (1 : Int32)))] [(.ref a1)]) := fun t k => by
    refine go70 t ?_
    refine XS.aloadN X58.here hx rfl (hb hby d11_49) rfl rfl ?_
    show Steps p.tables e below (T58.setTop (mkF m 50 #[.val (.ref a1), .val (.int u), .val (.int (0 : Int32)), .val (.int (σ.1 (1 : Int32)))] [(.ref a1)])) _
    exact k
  obtain ⟨T72, X72, e72, st72⟩ := getF X58 hx hZ hown (host := "") (Or.inl (hw _ (List.mem_of_getElem? (i := 15) rfl))) Via.refl e58 f63 (g := (mkF m 50 #[.val (.ref a1), .val (.int u), .val (.int (0 : Int32)), .val (.int (σ.1 (1 : Int32)))] [(.ref a1)])) rfl rfl (hb hby d11_50)
  have go73 : Goes p e below s₁ (entryFrame m #[(.ref a1), (.int u)] 4) T72 (mkF m 53 #[.val (.ref a1), .val (.int u), .val (.int (0 : Int32)), .val (.int (σ.1 (1 : Int32)))] [(.ref aP)]) := fun t k => go71 t (st72 t k)
  have go74 : Goes p e below s₁ (entryFrame m #[(.ref a1), (.int u)] 4) T72 (mkF m 55 #[.val (.ref a1), .val (.int u), .val (.int (0 : Int32)), .val (.int (σ.1 (1 : Int32)))] [(.int (0 : Int32)), (.int (σ.1 (1 : Int32))), (.ref aP)]) := fun t k => by
    refine go73 t ?_
    refine XS.iloadN X72.here hx rfl (hb hby d11_53) rfl ?_
    show Steps p.tables e below (T72.setTop (mkF m 54 #[.val (.ref a1), .val (.int u), .val (.int (0 : Int32)), .val (.int (σ.1 (1 : Int32)))] [(.int (σ.1 (1 : Int32))), (.ref aP)])) _
    refine XS.iloadN X72.here hx rfl (hb hby d11_54) rfl ?_
    show Steps p.tables e below (T72.setTop (mkF m 55 #[.val (.ref a1), .val (.int u), .val (.int (0 : Int32)), .val (.int (σ.1 (1 : Int32)))] [(.int (0 : Int32)), (.int (σ.1 (1 : Int32))), (.ref aP)])) _
    exact k
  obtain ⟨cl75, Ar75, kq75, Sz75, Nn75, Hs75, Gf75⟩ := id (f65)
  have hin75 : ¬ ((σ.1 (1 : Int32)) < 0 ∨ cl75.slots.size ≤ ((σ.1 (1 : Int32))).toNatClampNeg) := inb_of Sz75 (own_inb R1)
  obtain ⟨T76, h76, X76, e76, W76, st76⟩ := stI X72 hx hZ e72 Ar75 (j := (σ.1 (1 : Int32))) hin75 (g := (mkF m 55 #[.val (.ref a1), .val (.int u), .val (.int (0 : Int32)), .val (.int (σ.1 (1 : Int32)))] [(.int (0 : Int32)), (.int (σ.1 (1 : Int32))), (.ref aP)])) rfl rfl (hb hby d11_55)
  have V77 : Arv Z h76 aP kp .int 3 (own_l (own_u (own_u σ.2 u (-1 : Int32)) (σ.1 (1 : Int32)) (0 : Int32))) (.int (0 : Int32)) := by rw [← own_l_set R1]; exact Arv.set Ar75 kq75 Sz75 Nn75 Hs75 Gf75 rfl W76 _ rfl (own_l_len R1)
  have f78 := f60.wr W76
  have f79 := f61.other W76 (Or.inl nAP)
  have f80 := f62.other W76 (Or.inl nAP)
  have f81 := f63.other W76 (Or.inl nAP)
  have f82 := f64.other W76 nKP
  have f83 := f66.other W76 (Or.inl nAP)
  have f84 := V59.other W76 nIP
  have Z85 := Nat.le_trans Z67 (Nat.le_of_eq W76.size.symm)
  have K86 := K68.wr W76 (Or.inl (List.mem_of_getElem? (i := 3) rfl))
  have N87 := Fr.snoc X76 N69 gP
  have go88 : Goes p e below s₁ (entryFrame m #[(.ref a1), (.int u)] 4) T76 (mkF m 56 #[.val (.ref a1), .val (.int u), .val (.int (0 : Int32)), .val (.int (σ.1 (1 : Int32)))] []) := fun t k => go74 t (st76 t k)
  have go89 : Goes p e below s₁ (entryFrame m #[(.ref a1), (.int u)] 4) T76 (mkF m 58 #[.val (.ref a1), .val (.int u), .val (.int (0 : Int32)), .val (.int (σ.1 (1 : Int32)))] [(.int (0 : Int32)), (.ref a1)]) := fun t k => by
    refine go88 t ?_
    refine XS.aloadN X76.here hx rfl (hb hby d11_56) rfl rfl ?_
    show Steps p.tables e below (T76.setTop (mkF m 57 #[.val (.ref a1), .val (.int u), .val (.int (0 : Int32)), .val (.int (σ.1 (1 : Int32)))] [(.ref a1)])) _
    refine XS.iloadN X76.here hx rfl (hb hby d11_57) rfl ?_
    show Steps p.tables e below (T76.setTop (mkF m 58 #[.val (.ref a1), .val (.int u), .val (.int (0 : Int32)), .val (.int (σ.1 (1 : Int32)))] [(.int (0 : Int32)), (.ref a1)])) _
    exact k
  obtain ⟨cq90, q90a, q90b⟩ := f78.cell
  obtain ⟨_, _, ⟨T90, L90, k90, n90⟩, -, X90, ⟨Lc90, hQ90, l90, y90, z90⟩, st90⟩ := X76.privateBack hx (y := (⟨"com/example/covermesh/covermesh/algorithms/IndexedMinHeap", "siftUp", "(I)V"⟩ : MethodName)) hown (mvT hZ (hw _ (List.mem_of_getElem? (i := 37) rfl))) (mvT hZ (hw _ (List.mem_of_getElem? (i := 38) rfl))) (own_selp (y := (⟨"com/example/covermesh/covermesh/algorithms/IndexedMinHeap", "siftUp", "(I)V"⟩ : MethodName)) (by decide) (mvT hZ (hw _ (List.mem_of_getElem? (i := 1) rfl))) (mvP hZ (hw _ (List.mem_of_getElem? (i := 39) rfl))) (mvT hZ (hw _ (List.mem_of_getElem? (i := 38) rfl)))) (Cond.privateMethod_at (mvP hZ (hw _ (List.mem_of_getElem? (i := 39) rfl)) (args := #[]))) (mvT hZ (hw _ (List.mem_of_getElem? (i := 40) rfl))) (by decide) (backOf (W := 0) (rmU0 l Z a0 hw [] a1 aK aI aP kk ki kp kf ((own_u σ.1 (0 : Int32) (σ.1 (1 : Int32))), (own_u (own_u σ.2 u (-1 : Int32)) (σ.1 (1 : Int32)) (0 : Int32))) (1 : Int32) h76 n0 Z85 f78 f79 f80 f81 f83 f82 f84 V77 nKI nKP nIP nAK nAI nAP gA gK gI gP (show own_R (own_u σ.1 (0 : Int32) (σ.1 (1 : Int32)) (0 : Int32)) from own_u_R R1 (fun h => absurd rfl h))) hZ (hw _ (List.mem_of_getElem? (i := 40) rfl)) (hw _ (List.mem_of_getElem? (i := 2) rfl)) (by decide) (by decide)) (g := (mkF m 58 #[.val (.ref a1), .val (.int u), .val (.int (0 : Int32)), .val (.int (σ.1 (1 : Int32)))] [(.int (0 : Int32)), (.ref a1)])) rfl (by rw [hml]; rfl) (Steps.refl _) (a := a1) (by rw [e76]; exact q90a) q90b (argsL := [(.int (0 : Int32))]) (rest := []) (lenOf pd_2 rfl) rfl (by show 2 * 0 + _ ≤ _; exact Nat.le_of_eq rfl) (hb hby d11_58) (fun _ _ => ⟨rfl, e76, (by decide : 0 + 0 ≤ ({ frames := 2, cells := 0, slots := 0, locals := 29 } : Room).cells), (by decide : 0 + 0 ≤ ({ frames := 2, cells := 0, slots := 0, locals := 29 } : Room).slots)⟩)
  dsimp only [Pt.U, Pt.locs, Pt.cells, Pt.slots] at X90 l90 y90 z90 st90 hQ90
  subst l90 y90 z90
  obtain ⟨rfl, N90q, Kq90, VIq90, VPq90⟩ := hQ90
  have N90 := Fr.app N87 N90q
  have f91 := f78.keep Kq90
  have f92 := f79.keep Kq90 (ninS nAI (ninS nAP nin0))
  have f93 := f80.keep Kq90 (ninS nAI (ninS nAP nin0))
  have f94 := f81.keep Kq90 (ninS nAI (ninS nAP nin0))
  have f95 := f82.keep Kq90 (ninS nKI (ninS nKP nin0))
  have f96 := f83.keep Kq90 (ninS nAI (ninS nAP nin0))
  have Z97 := Nat.le_trans Z85 Kq90.1
  have K98 := K86.trans Kq90 (allS (Or.inl (List.mem_of_getElem? (i := 2) rfl)) (allS (Or.inl (List.mem_of_getElem? (i := 3) rfl)) all0))
  obtain ⟨τ90, hτ90⟩ : ∃ z, z = own_up kf ((own_u σ.1 (0 : Int32) (σ.1 (1 : Int32))), (own_u (own_u σ.2 u (-1 : Int32)) (σ.1 (1 : Int32)) (0 : Int32))) (0 : Int32) := ⟨_, rfl⟩
  rw [← hτ90] at VIq90 VPq90
  have go99 : Goes p e below s₁ (entryFrame m #[(.ref a1), (.int u)] 4) T90 (mkF m 61 #[.val (.ref a1), .val (.int u), .val (.int (0 : Int32)), .val (.int (σ.1 (1 : Int32)))] []) := fun t k => go89 t (st90.trans k)
  have go100 : Goes p e below s₁ (entryFrame m #[(.ref a1), (.int u)] 4) T90 (mkF m 63 #[.val (.ref a1), .val (.int u), .val (.int (0 : Int32)), .val (.int (σ.1 (1 : Int32)))] [(.ref a1), (.ref a1)]) := fun t k => by
    refine go99 t ?_
    refine XS.aloadN X90.here hx rfl (hb hby d11_61) rfl rfl ?_
    show Steps p.tables e below (T90.setTop (mkF m 62 #[.val (.ref a1), .val (.int u), .val (.int (0 : Int32)), .val (.int (σ.1 (1 : Int32)))] [(.ref a1)])) _
    refine XS.aloadN X90.here hx rfl (hb hby d11_62) rfl rfl ?_
    show Steps p.tables e below (T90.setTop (mkF m 63 #[.val (.ref a1), .val (.int u), .val (.int (0 : Int32)), .val (.int (σ.1 (1 : Int32)))] [(.ref a1), (.ref a1)])) _
    exact k
  obtain ⟨T101, X101, e101, st101⟩ := getF X90 hx hZ hown (host := "") (Or.inl (hw _ (List.mem_of_getElem? (i := 15) rfl))) Via.refl rfl f94 (g := (mkF m 63 #[.val (.ref a1), .val (.int u), .val (.int (0 : Int32)), .val (.int (σ.1 (1 : Int32)))] [(.ref a1), (.ref a1)])) rfl rfl (hb hby d11_63)
  have go102 : Goes p e below s₁ (entryFrame m #[(.ref a1), (.int u)] 4) T101 (mkF m 66 #[.val (.ref a1), .val (.int u), .val (.int (0 : Int32)), .val (.int (σ.1 (1 : Int32)))] [(.ref aP), (.ref a1)]) := fun t k => go100 t (st101 t k)
  have go103 : Goes p e below s₁ (entryFrame m #[(.ref a1), (.int u)] 4) T101 (mkF m 67 #[.val (.ref a1), .val (.int u), .val (.int (0 : Int32)), .val (.int (σ.1 (1 : Int32)))] [(.int (σ.1 (1 : Int32))), (.ref aP), (.ref a1)]) := fun t k => by
    refine go102 t ?_
    refine XS.iloadN X101.here hx rfl (hb hby d11_66) rfl ?_
    show Steps p.tables e below (T101.setTop (mkF m 67 #[.val (.ref a1), .val (.int u), .val (.int (0 : Int32)), .val (.int (σ.1 (1 : Int32)))] [(.int (σ.1 (1 : Int32))), (.ref aP), (.ref a1)])) _
    exact k
  obtain ⟨cl104, Ar104, kq104, Sz104, Nn104, Hs104, Gf104⟩ := id (VPq90)
  have hin104 : ¬ ((σ.1 (1 : Int32)) < 0 ∨ cl104.slots.size ≤ ((σ.1 (1 : Int32))).toNatClampNeg) := inb_of Sz104 (own_inb R1)
  have hat104 : cl104.slots[((σ.1 (1 : Int32))).toNatClampNeg]? = some (.int (τ90.2 (σ.1 (1 : Int32)))) := Has.at Hs104 hin104 (own_l_at R1)
  have go105 : Goes p e below s₁ (entryFrame m #[(.ref a1), (.int u)] 4) T101 (mkF m 68 #[.val (.ref a1), .val (.int u), .val (.int (0 : Int32)), .val (.int (σ.1 (1 : Int32)))] [(.int (τ90.2 (σ.1 (1 : Int32)))), (.ref a1)]) := fun t k => by
    refine go103 t ?_
    refine X101.iaload hx (j := (σ.1 (1 : Int32))) (v := (.int (τ90.2 (σ.1 (1 : Int32))))) (own_hp e101 Ar104.1) (State.isArrayOf_alike hZ.alike Ar104.2.1) Ar104.2.2 hin104 hat104 (g := (mkF m 67 #[.val (.ref a1), .val (.int u), .val (.int (0 : Int32)), .val (.int (σ.1 (1 : Int32)))] [(.int (σ.1 (1 : Int32))), (.ref aP), (.ref a1)])) rfl rfl (hb hby d11_67) _ ?_
    show Steps p.tables e below (T101.setTop (mkF m 68 #[.val (.ref a1), .val (.int u), .val (.int (0 : Int32)), .val (.int (σ.1 (1 : Int32)))] [(.int (τ90.2 (σ.1 (1 : Int32)))), (.ref a1)])) _
    exact k
  have hpos : τ90.2 (σ.1 (1 : Int32)) = (0 : Int32) ∨ τ90.2 (σ.1 (1 : Int32)) = 0 := by rw [hτ90]; exact own_up_pos (show own_u σ.1 (0 : Int32) (σ.1 (1 : Int32)) (0 : Int32) = (σ.1 (1 : Int32)) from own_us)
  have hR0 : ∀ j : Int32, j < (1 : Int32) ∧ ¬ j < 0 → own_R (own_u σ.1 (0 : Int32) (σ.1 (1 : Int32)) j) := by
    intro j hj
    refine own_u_R R1 (fun _ => ?_)
    have h6 : j.toInt = 0 := by
      have h1 := hj.1; have h2 := hj.2; rw [Int32.lt_iff_toInt_lt] at h1 h2
      have h3 : ((1 : Int32)).toInt = 1 := rfl
      have h4 : (0 : Int32).toInt = 0 := rfl
      omega
    rcases h6 with h6
    · rw [own_of_toInt h6]; exact R0
  have hR106 : ∀ j : Int32, j < (1 : Int32) ∧ ¬ j < 0 → own_R (τ90.1 j) := fun j hj => by rw [hτ90]; exact own_up_R (hR0 (0 : Int32) (by decide)) (hR0 (0 : Int32) (by decide)) (hR0 j hj)
  have hp := hpos.elim id id
  have go107 : Goes p e below s₁ (entryFrame m #[(.ref a1), (.int u)] 4) T101 (mkF m 68 #[.val (.ref a1), .val (.int u), .val (.int (0 : Int32)), .val (.int (σ.1 (1 : Int32)))] [(.int (0 : Int32)), (.ref a1)]) := Eq.mp (congrArg (fun zz => Goes p e below s₁ (entryFrame m #[(.ref a1), (.int u)] 4) T101 (mkF m 68 #[.val (.ref a1), .val (.int u), .val (.int (0 : Int32)), .val (.int (σ.1 (1 : Int32)))] [(.int zz), (.ref a1)])) hp) go105
  obtain ⟨cq108, q108a, q108b⟩ := f91.cell
  obtain ⟨_, _, ⟨T108, L108, k108, n108⟩, -, X108, ⟨Lc108, hQ108, l108, y108, z108⟩, st108⟩ := X101.privateBack hx (y := (⟨"com/example/covermesh/covermesh/algorithms/IndexedMinHeap", "siftDown", "(I)V"⟩ : MethodName)) hown (mvT hZ (hw _ (List.mem_of_getElem? (i := 45) rfl))) (mvT hZ (hw _ (List.mem_of_getElem? (i := 46) rfl))) (own_selp (y := (⟨"com/example/covermesh/covermesh/algorithms/IndexedMinHeap", "siftDown", "(I)V"⟩ : MethodName)) (by decide) (mvT hZ (hw _ (List.mem_of_getElem? (i := 1) rfl))) (mvP hZ (hw _ (List.mem_of_getElem? (i := 47) rfl))) (mvT hZ (hw _ (List.mem_of_getElem? (i := 46) rfl)))) (Cond.privateMethod_at (mvP hZ (hw _ (List.mem_of_getElem? (i := 47) rfl)) (args := #[]))) (mvT hZ (hw _ (List.mem_of_getElem? (i := 48) rfl))) (by decide) (backOf (W := 0) (rmD01 l Z a0 hw [] a1 aK aI aP kk ki kp kf τ90 T90.heap n0 Z97 f91 f92 f93 f94 f96 f95 VIq90 VPq90 nKI nKP nIP nAK nAI nAP gA gK gI gP (hR106 (0 : Int32) (by decide))) hZ (hw _ (List.mem_of_getElem? (i := 48) rfl)) (hw _ (List.mem_of_getElem? (i := 2) rfl)) (by decide) (by decide)) (g := (mkF m 68 #[.val (.ref a1), .val (.int u), .val (.int (0 : Int32)), .val (.int (σ.1 (1 : Int32)))] [(.int (0 : Int32)), (.ref a1)])) rfl (by rw [hml]; rfl) (Steps.refl _) (a := a1) (by rw [e101]; exact q108a) q108b (argsL := [(.int (0 : Int32))]) (rest := []) (lenOf pd_2 rfl) rfl (by show 2 * 0 + _ ≤ _; exact Nat.le_of_eq rfl) (hb hby d11_68) (fun _ _ => ⟨rfl, e101, (by decide : 0 + 0 ≤ ({ frames := 2, cells := 0, slots := 0, locals := 29 } : Room).cells), (by decide : 0 + 0 ≤ ({ frames := 2, cells := 0, slots := 0, locals := 29 } : Room).slots)⟩)
  dsimp only [Pt.U, Pt.locs, Pt.cells, Pt.slots] at X108 l108 y108 z108 st108 hQ108
  subst l108 y108 z108
  obtain ⟨rfl, N108q, Kq108, VIq108, VPq108⟩ := hQ108
  have N108 := Fr.app N90 N108q
  have f109 := f91.keep Kq108
  have f110 := f92.keep Kq108 (ninS nAI (ninS nAP nin0))
  have f111 := f93.keep Kq108 (ninS nAI (ninS nAP nin0))
  have f112 := f94.keep Kq108 (ninS nAI (ninS nAP nin0))
  have f113 := f95.keep Kq108 (ninS nKI (ninS nKP nin0))
  have f114 := f96.keep Kq108 (ninS nAI (ninS nAP nin0))
  have Z115 := Nat.le_trans Z97 Kq108.1
  have K116 := K98.trans Kq108 (allS (Or.inl (List.mem_of_getElem? (i := 2) rfl)) (allS (Or.inl (List.mem_of_getElem? (i := 3) rfl)) all0))
  have go117 : Goes p e below s₁ (entryFrame m #[(.ref a1), (.int u)] 4) T108 (mkF m 71 #[.val (.ref a1), .val (.int u), .val (.int (0 : Int32)), .val (.int (σ.1 (1 : Int32)))] []) := fun t k => go107 t (st108.trans k)
  obtain ⟨fs, hr, hrun, hended, hW, hsame⟩ := X108.leave (v := none) (fun _ => rfl)
  have hrm : own_rmv kf σ u (0 : Int32) (2 : Int32) = own_dn kf τ90 (0 : Int32) (1 : Int32) := by
    refine (if_neg (by decide)).trans ?_
    show own_dn kf (own_up kf (own_u σ.1 (0 : Int32) (σ.1 (1 : Int32)), own_u (own_u σ.2 u (-1 : Int32)) (σ.1 (1 : Int32)) (0 : Int32)) (own_u (own_u σ.2 u (-1 : Int32)) (σ.1 (1 : Int32)) (0 : Int32) (σ.1 (1 : Int32)))) ((own_up kf (own_u σ.1 (0 : Int32) (σ.1 (1 : Int32)), own_u (own_u σ.2 u (-1 : Int32)) (σ.1 (1 : Int32)) (0 : Int32)) (own_u (own_u σ.2 u (-1 : Int32)) (σ.1 (1 : Int32)) (0 : Int32) (σ.1 (1 : Int32)))).2 (σ.1 (1 : Int32))) (1 : Int32) = _
    rw [own_us, ← hτ90, hp]
  refine ⟨_, _, go117 _ ?_, hrun, hended, _, _, rfl, ?_, ⟨_, rfl⟩, hW, hsame.mono (by decide) (by decide)⟩
  · exact X108.returnOut hx Bd.returns (hb hby d11_71) hr
  · show QRm02 Z _ _ _ _ _ _ _ _ _ _ _ _ _ T108.heap _
    exact ⟨rfl, N108, K116, f109, f110, f111, f112, f114, f113, by rw [hrm]; exact VIq108, by rw [hrm]; exact VPq108⟩
theorem ef_rmRm12 (m : MethodId) (a1 : Addr) (u : Int32) : entryFrame m #[(.ref a1), (.int u)] 4 = mkF m 0 #[.val (.ref a1), .val (.int u), .unset, .unset] [] := by first | (simp [entryFrame, mkF, argsToLocals, Value.category]; done) | rfl
def QRm12 (Z : State) (a1 : Addr) (u : Int32) (aK aI aP : Addr) (kk ki kp : ClassId) (kf : Int32 → UInt64) (σ : own_P) (h0 : Heap) (n0 : Nat) (v : Option Value) (h : Heap) (L : List Loc) : Prop := v = none ∧ Fr n0 L ∧ Keep h0 h [a1, aK, aI, aP] ∧ Exa Z h a1 "com/example/covermesh/covermesh/algorithms/IndexedMinHeap" ∧ Fld Z h a1 "com/example/covermesh/covermesh/algorithms/IndexedMinHeap" "keys" "[D" (.ref aK) ∧ Fld Z h a1 "com/example/covermesh/covermesh/algorithms/IndexedMinHeap" "items" "[I" (.ref aI) ∧ Fld Z h a1 "com/example/covermesh/covermesh/algorithms/IndexedMinHeap" "positions" "[I" (.ref aP) ∧ Fld Z h a1 "com/example/covermesh/covermesh/algorithms/IndexedMinHeap" "size" "I" (.int (1 : Int32)) ∧ Arv Z h aK kk .double 3 (own_d kf) (.double (0 : UInt64)) ∧ Arv Z h aI ki .int 3 (own_l (own_rmv kf σ u (1 : Int32) (2 : Int32)).1) (.int (0 : Int32)) ∧ Arv Z h aP kp .int 3 (own_l (own_rmv kf σ u (1 : Int32) (2 : Int32)).2) (.int (0 : Int32))
set_option maxRecDepth 65536 in
set_option maxHeartbeats 40000000 in
theorem rmRm12 (l : Launch) (Z : State) (a0 : Array Value) (hw : ∀ d ∈ tables_1, d.before a0 Z = true) (ws : List Jvm.Cond) (a1 : Addr) (u : Int32) (aK aI aP : Addr) (kk ki kp : ClassId) (kf : Int32 → UInt64) (σ : own_P) (h0 : Heap) (n0 : Nat) (Z0 : n0 ≤ h0.size) (E1 : Exa Z h0 a1 "com/example/covermesh/covermesh/algorithms/IndexedMinHeap") (FK : Fld Z h0 a1 "com/example/covermesh/covermesh/algorithms/IndexedMinHeap" "keys" "[D" (.ref aK)) (FI : Fld Z h0 a1 "com/example/covermesh/covermesh/algorithms/IndexedMinHeap" "items" "[I" (.ref aI)) (FP : Fld Z h0 a1 "com/example/covermesh/covermesh/algorithms/IndexedMinHeap" "positions" "[I" (.ref aP)) (FS : Fld Z h0 a1 "com/example/covermesh/covermesh/algorithms/IndexedMinHeap" "size" "I" (.int (2 : Int32))) (VK : Arv Z h0 aK kk .double 3 (own_d kf) (.double (0 : UInt64))) (VI : Arv Z h0 aI ki .int 3 (own_l σ.1) (.int (0 : Int32))) (VP : Arv Z h0 aP kp .int 3 (own_l σ.2) (.int (0 : Int32))) (nKI : aK ≠ aI) (nKP : aK ≠ aP) (nIP : aI ≠ aP) (nAK : a1 ≠ aK) (nAI : a1 ≠ aI) (nAP : a1 ≠ aP) (gA : n0 ≤ a1) (gK : n0 ≤ aK) (gI : n0 ≤ aI) (gP : n0 ≤ aP) (Ru : own_R u) (hgu : σ.2 u = (1 : Int32)) :
    MetFree l (⟨"com/example/covermesh/covermesh/algorithms/IndexedMinHeap", "remove", "(I)V"⟩ : MethodName) (head1 (Jvm.Cond.code (⟨"com/example/covermesh/covermesh/algorithms/IndexedMinHeap", "remove", "(I)V"⟩ : MethodName) prog_17_method_6_code 4 none :: ws) ({ frames := 2, cells := 0, slots := 0, locals := 29 } : Room)) (fun a U => a = #[(.ref a1), (.int u)] ∧ Z.Warmed39 U.vm ∧ U.heap = h0) (fun _ _ _ _ _ => True) (fun _ U o U' => ∃ v L, o = .returned v ∧ QRm12 Z a1 u aK aI aP kk ki kp kf σ h0 n0 v U'.heap L ∧ FrameEnd U o U' L ({ frames := 2, cells := 0, slots := 0, locals := 29 } : Room).cells ({ frames := 2, cells := 0, slots := 0, locals := 29 } : Room).slots) := by
  refine MetFree.of_bodySF (plainFor_of_name pn_0) hisR ?_
  intro p e s m args below meth c s₁ Bd hml0 hP hK
  obtain ⟨rfl, hZ, hh⟩ := hP
  have hx := Bd.exec
  have hby := Bd.bytes
  have hml : c.maxLocals = 4 := hml0
  have hown : s.vm.findClass "com/example/covermesh/covermesh/algorithms/IndexedMinHeap" = some m.cls := findClass_of_methodNamed Bd.named
  have hnm := (name_of_methodNamed Bd.named Bd.method).1
  have X0 : Stand p l e ({ frames := 2, cells := 0, slots := 0, locals := 29 } : Room) s m #[(.ref a1), (.int u)] below meth c s₁ [] 0 0 := Stand.of_body Bd
  have e0 : s₁.heap = h0 := by rw [← hh, Bd.state]; rfl
  have N0 := Fr.nil n0
  have K0 := Keep.refl h0 [a1, aK, aI, aP]
  have go0 : Goes p e below s₁ (entryFrame m #[(.ref a1), (.int u)] 4) s₁ (mkF m 0 #[.val (.ref a1), .val (.int u), .unset, .unset] []) := fun t k => castTop (ef_rmRm12 m a1 u) k
  have go1 : Goes p e below s₁ (entryFrame m #[(.ref a1), (.int u)] 4) s₁ (mkF m 1 #[.val (.ref a1), .val (.int u), .unset, .unset] [(.ref a1)]) := fun t k => by
    refine go0 t ?_
    refine XS.aloadN X0.here hx rfl (hb hby d11_0) rfl rfl ?_
    show Steps p.tables e below (s₁.setTop (mkF m 1 #[.val (.ref a1), .val (.int u), .unset, .unset] [(.ref a1)])) _
    exact k
  obtain ⟨T2, X2, e2, st2⟩ := getF X0 hx hZ hown (host := "") (Or.inl (hw _ (List.mem_of_getElem? (i := 15) rfl))) Via.refl e0 FP (g := (mkF m 1 #[.val (.ref a1), .val (.int u), .unset, .unset] [(.ref a1)])) rfl rfl (hb hby d11_1)
  have go3 : Goes p e below s₁ (entryFrame m #[(.ref a1), (.int u)] 4) T2 (mkF m 4 #[.val (.ref a1), .val (.int u), .unset, .unset] [(.ref aP)]) := fun t k => go1 t (st2 t k)
  have go4 : Goes p e below s₁ (entryFrame m #[(.ref a1), (.int u)] 4) T2 (mkF m 5 #[.val (.ref a1), .val (.int u), .unset, .unset] [(.int u), (.ref aP)]) := fun t k => by
    refine go3 t ?_
    refine XS.iloadN X2.here hx rfl (hb hby d11_4) rfl ?_
    show Steps p.tables e below (T2.setTop (mkF m 5 #[.val (.ref a1), .val (.int u), .unset, .unset] [(.int u), (.ref aP)])) _
    exact k
  obtain ⟨cl5, Ar5, kq5, Sz5, Nn5, Hs5, Gf5⟩ := id (VP)
  have hin5 : ¬ (u < 0 ∨ cl5.slots.size ≤ (u).toNatClampNeg) := inb_of Sz5 (own_inb Ru)
  have hat5 : cl5.slots[(u).toNatClampNeg]? = some (.int (σ.2 u)) := Has.at Hs5 hin5 (own_l_at Ru)
  have go6 : Goes p e below s₁ (entryFrame m #[(.ref a1), (.int u)] 4) T2 (mkF m 6 #[.val (.ref a1), .val (.int u), .unset, .unset] [(.int (σ.2 u))]) := fun t k => by
    refine go4 t ?_
    refine X2.iaload hx (j := u) (v := (.int (σ.2 u))) (own_hp e2 Ar5.1) (State.isArrayOf_alike hZ.alike Ar5.2.1) Ar5.2.2 hin5 hat5 (g := (mkF m 5 #[.val (.ref a1), .val (.int u), .unset, .unset] [(.int u), (.ref aP)])) rfl rfl (hb hby d11_5) _ ?_
    show Steps p.tables e below (T2.setTop (mkF m 6 #[.val (.ref a1), .val (.int u), .unset, .unset] [(.int (σ.2 u))])) _
    exact k
  have go7 : Goes p e below s₁ (entryFrame m #[(.ref a1), (.int u)] 4) T2 (mkF m 6 #[.val (.ref a1), .val (.int u), .unset, .unset] [(.int (1 : Int32))]) := Eq.mp (congrArg (fun zz => Goes p e below s₁ (entryFrame m #[(.ref a1), (.int u)] 4) T2 (mkF m 6 #[.val (.ref a1), .val (.int u), .unset, .unset] [(.int zz)])) hgu) go6
  have go8 : Goes p e below s₁ (entryFrame m #[(.ref a1), (.int u)] 4) T2 (mkF m 8 #[.val (.ref a1), .val (.int u), .val (.int (1 : Int32)), .unset] [(.ref a1)]) := fun t k => by
    refine go7 t ?_
    refine XS.istoreN X2.here hx rfl (hb hby d11_6) rfl (l' := #[.val (.ref a1), .val (.int u), .val (.int (1 : Int32)), .unset]) rfl ?_
    show Steps p.tables e below (T2.setTop (mkF m 7 #[.val (.ref a1), .val (.int u), .val (.int (1 : Int32)), .unset] [])) _
    refine XS.aloadN X2.here hx rfl (hb hby d11_7) rfl rfl ?_
    show Steps p.tables e below (T2.setTop (mkF m 8 #[.val (.ref a1), .val (.int u), .val (.int (1 : Int32)), .unset] [(.ref a1)])) _
    exact k
  obtain ⟨T9, X9, e9, st9⟩ := getF X2 hx hZ hown (host := "") (Or.inl (hw _ (List.mem_of_getElem? (i := 15) rfl))) Via.refl e2 FP (g := (mkF m 8 #[.val (.ref a1), .val (.int u), .val (.int (1 : Int32)), .unset] [(.ref a1)])) rfl rfl (hb hby d11_8)
  have go10 : Goes p e below s₁ (entryFrame m #[(.ref a1), (.int u)] 4) T9 (mkF m 11 #[.val (.ref a1), .val (.int u), .val (.int (1 : Int32)), .unset] [(.ref aP)]) := fun t k => go8 t (st9 t k)
  have go11 : Goes p e below s₁ (entryFrame m #[(.ref a1), (.int u)] 4) T9 (mkF m 13 #[.val (.ref a1), .val (.int u), .val (.int (1 : Int32)), .unset] [(.int (-1 : Int32)), (.int u), (.ref aP)]) := fun t k => by
    refine go10 t ?_
    refine XS.iloadN X9.here hx rfl (hb hby d11_11) rfl ?_
    show Steps p.tables e below (T9.setTop (mkF m 12 #[.val (.ref a1), .val (.int u), .val (.int (1 : Int32)), .unset] [(.int u), (.ref aP)])) _
    refine XS.iconst X9.here hx rfl (hb hby d11_12) ?_
    show Steps p.tables e below (T9.setTop (mkF m 13 #[.val (.ref a1), .val (.int u), .val (.int (1 : Int32)), .unset] [(.int (-1 : Int32)), (.int u), (.ref aP)])) _
    exact k
  obtain ⟨cl12, Ar12, kq12, Sz12, Nn12, Hs12, Gf12⟩ := id (VP)
  have hin12 : ¬ (u < 0 ∨ cl12.slots.size ≤ (u).toNatClampNeg) := inb_of Sz12 (own_inb Ru)
  obtain ⟨T13, h13, X13, e13, W13, st13⟩ := stI X9 hx hZ e9 Ar12 (j := u) hin12 (g := (mkF m 13 #[.val (.ref a1), .val (.int u), .val (.int (1 : Int32)), .unset] [(.int (-1 : Int32)), (.int u), (.ref aP)])) rfl rfl (hb hby d11_13)
  have V14 : Arv Z h13 aP kp .int 3 (own_l (own_u σ.2 u (-1 : Int32))) (.int (0 : Int32)) := by rw [← own_l_set Ru]; exact Arv.set Ar12 kq12 Sz12 Nn12 Hs12 Gf12 rfl W13 _ rfl (own_l_len Ru)
  have f15 := E1.wr W13
  have f16 := FK.other W13 (Or.inl nAP)
  have f17 := FI.other W13 (Or.inl nAP)
  have f18 := FP.other W13 (Or.inl nAP)
  have f19 := FS.other W13 (Or.inl nAP)
  have f20 := VK.other W13 nKP
  have f21 := VI.other W13 nIP
  have Z22 := Nat.le_trans Z0 (Nat.le_of_eq W13.size.symm)
  have K23 := K0.wr W13 (Or.inl (List.mem_of_getElem? (i := 3) rfl))
  have N24 := Fr.snoc X13 N0 gP
  have go25 : Goes p e below s₁ (entryFrame m #[(.ref a1), (.int u)] 4) T13 (mkF m 14 #[.val (.ref a1), .val (.int u), .val (.int (1 : Int32)), .unset] []) := fun t k => go11 t (st13 t k)
  have go26 : Goes p e below s₁ (entryFrame m #[(.ref a1), (.int u)] 4) T13 (mkF m 16 #[.val (.ref a1), .val (.int u), .val (.int (1 : Int32)), .unset] [(.ref a1), (.ref a1)]) := fun t k => by
    refine go25 t ?_
    refine XS.aloadN X13.here hx rfl (hb hby d11_14) rfl rfl ?_
    show Steps p.tables e below (T13.setTop (mkF m 15 #[.val (.ref a1), .val (.int u), .val (.int (1 : Int32)), .unset] [(.ref a1)])) _
    refine XS.dup X13.here hx rfl (hb hby d11_15) rfl rfl ?_
    show Steps p.tables e below (T13.setTop (mkF m 16 #[.val (.ref a1), .val (.int u), .val (.int (1 : Int32)), .unset] [(.ref a1), (.ref a1)])) _
    exact k
  obtain ⟨T27, X27, e27, st27⟩ := getF X13 hx hZ hown (host := "") (Or.inl (hw _ (List.mem_of_getElem? (i := 26) rfl))) Via.refl e13 f19 (g := (mkF m 16 #[.val (.ref a1), .val (.int u), .val (.int (1 : Int32)), .unset] [(.ref a1), (.ref a1)])) rfl rfl (hb hby d11_16)
  have go28 : Goes p e below s₁ (entryFrame m #[(.ref a1), (.int u)] 4) T27 (mkF m 19 #[.val (.ref a1), .val (.int u), .val (.int (1 : Int32)), .unset] [(.int (2 : Int32)), (.ref a1)]) := fun t k => go26 t (st27 t k)
  have go29 : Goes p e below s₁ (entryFrame m #[(.ref a1), (.int u)] 4) T27 (mkF m 21 #[.val (.ref a1), .val (.int u), .val (.int (1 : Int32)), .unset] [(.int (1 : Int32)), (.ref a1)]) := fun t k => by
    refine go28 t ?_
    refine XS.iconst X27.here hx rfl (hb hby d11_19) ?_
    show Steps p.tables e below (T27.setTop (mkF m 20 #[.val (.ref a1), .val (.int u), .val (.int (1 : Int32)), .unset] [(.int (1 : Int32)), (.int (2 : Int32)), (.ref a1)])) _
    refine XS.isub X27.here hx rfl (hb hby d11_20) rfl ?_
    show Steps p.tables e below (T27.setTop (mkF m 21 #[.val (.ref a1), .val (.int u), .val (.int (1 : Int32)), .unset] [(.int (1 : Int32)), (.ref a1)])) _
    exact k
  obtain ⟨T30, h30, X30, e30, W30, st30⟩ := putF X27 hx hZ hown (host := "") (Or.inl (hw _ (List.mem_of_getElem? (i := 26) rfl))) Via.refl e27 f19 f15 (Or.inl (hw _ (List.mem_of_getElem? (i := 27) rfl))) (hw _ (List.mem_of_getElem? (i := 1) rfl)) (ty := .int) (by decide) rfl rfl (g := (mkF m 21 #[.val (.ref a1), .val (.int u), .val (.int (1 : Int32)), .unset] [(.int (1 : Int32)), (.ref a1)])) rfl rfl (hb hby d11_21)
  have f31 := f19.same W30
  have f32 := f15.wr W30
  have f33 := f16.other W30 (Or.inr (slot_ne (Or.inr (hw _ (List.mem_of_getElem? (i := 11) rfl))) (Or.inl (hw _ (List.mem_of_getElem? (i := 27) rfl))) (by decide) (t := (.array .double)) (t' := .int) (by decide) (by decide)))
  have f34 := f17.other W30 (Or.inr (slot_ne (Or.inr (hw _ (List.mem_of_getElem? (i := 14) rfl))) (Or.inl (hw _ (List.mem_of_getElem? (i := 27) rfl))) (by decide) (t := (.array .int)) (t' := .int) (by decide) (by decide)))
  have f35 := f18.other W30 (Or.inr (slot_ne (Or.inr (hw _ (List.mem_of_getElem? (i := 16) rfl))) (Or.inl (hw _ (List.mem_of_getElem? (i := 27) rfl))) (by decide) (t := (.array .int)) (t' := .int) (by decide) (by decide)))
  have f36 := f20.other W30 (Ne.symm nAK)
  have f37 := f21.other W30 (Ne.symm nAI)
  have f38 := V14.other W30 (Ne.symm nAP)
  have Z39 := Nat.le_trans Z22 (Nat.le_of_eq W30.size.symm)
  have K40 := K23.wr W30 (Or.inl (List.mem_of_getElem? (i := 0) rfl))
  have N41 := Fr.snoc X30 N24 gA
  have go42 : Goes p e below s₁ (entryFrame m #[(.ref a1), (.int u)] 4) T30 (mkF m 24 #[.val (.ref a1), .val (.int u), .val (.int (1 : Int32)), .unset] []) := fun t k => go29 t (st30 t k)
  have go43 : Goes p e below s₁ (entryFrame m #[(.ref a1), (.int u)] 4) T30 (mkF m 26 #[.val (.ref a1), .val (.int u), .val (.int (1 : Int32)), .unset] [(.ref a1), (.int (1 : Int32))]) := fun t k => by
    refine go42 t ?_
    refine XS.iloadN X30.here hx rfl (hb hby d11_24) rfl ?_
    show Steps p.tables e below (T30.setTop (mkF m 25 #[.val (.ref a1), .val (.int u), .val (.int (1 : Int32)), .unset] [(.int (1 : Int32))])) _
    refine XS.aloadN X30.here hx rfl (hb hby d11_25) rfl rfl ?_
    show Steps p.tables e below (T30.setTop (mkF m 26 #[.val (.ref a1), .val (.int u), .val (.int (1 : Int32)), .unset] [(.ref a1), (.int (1 : Int32))])) _
    exact k
  obtain ⟨T44, X44, e44, st44⟩ := getF X30 hx hZ hown (host := "") (Or.inl (hw _ (List.mem_of_getElem? (i := 26) rfl))) Via.refl e30 f31 (g := (mkF m 26 #[.val (.ref a1), .val (.int u), .val (.int (1 : Int32)), .unset] [(.ref a1), (.int (1 : Int32))])) rfl rfl (hb hby d11_26)
  have go45 : Goes p e below s₁ (entryFrame m #[(.ref a1), (.int u)] 4) T44 (mkF m 29 #[.val (.ref a1), .val (.int u), .val (.int (1 : Int32)), .unset] [(.int (1 : Int32)), (.int (1 : Int32))]) := fun t k => go43 t (st44 t k)
  have go46 : Goes p e below s₁ (entryFrame m #[(.ref a1), (.int u)] 4) T44 (mkF m 71 #[.val (.ref a1), .val (.int u), .val (.int (1 : Int32)), .unset] []) := fun t k => by
    refine go45 t ?_
    refine XS.icmpYes X44.here hx rfl (pc0 := 29) (pc' := 71) rfl (hb hby d11_29) rfl (Jvm.Free.XT.ii_ge_t (by decide)) (by decide) (by decide) ?_
    show Steps p.tables e below (T44.setTop (mkF m 71 #[.val (.ref a1), .val (.int u), .val (.int (1 : Int32)), .unset] [])) _
    exact k
  obtain ⟨fs, hr, hrun, hended, hW, hsame⟩ := X44.leave (v := none) (fun _ => rfl)
  have hrm : own_rmv kf σ u (1 : Int32) (2 : Int32) = (σ.1, (own_u σ.2 u (-1 : Int32))) := if_pos rfl
  refine ⟨_, _, go46 _ ?_, hrun, hended, _, _, rfl, ?_, ⟨_, rfl⟩, hW, hsame.mono (by decide) (by decide)⟩
  · exact X44.returnOut hx Bd.returns (hb hby d11_71) hr
  · show QRm12 Z _ _ _ _ _ _ _ _ _ _ _ _ _ T44.heap _
    rw [e44]
    exact ⟨rfl, N41, K40, f32, f33, f34, f35, f31, f36, by rw [hrm]; exact f37, by rw [hrm]; exact f38⟩
theorem ef_rmRm03 (m : MethodId) (a1 : Addr) (u : Int32) : entryFrame m #[(.ref a1), (.int u)] 4 = mkF m 0 #[.val (.ref a1), .val (.int u), .unset, .unset] [] := by first | (simp [entryFrame, mkF, argsToLocals, Value.category]; done) | rfl
def QRm03 (Z : State) (a1 : Addr) (u : Int32) (aK aI aP : Addr) (kk ki kp : ClassId) (kf : Int32 → UInt64) (σ : own_P) (h0 : Heap) (n0 : Nat) (v : Option Value) (h : Heap) (L : List Loc) : Prop := v = none ∧ Fr n0 L ∧ Keep h0 h [a1, aK, aI, aP] ∧ Exa Z h a1 "com/example/covermesh/covermesh/algorithms/IndexedMinHeap" ∧ Fld Z h a1 "com/example/covermesh/covermesh/algorithms/IndexedMinHeap" "keys" "[D" (.ref aK) ∧ Fld Z h a1 "com/example/covermesh/covermesh/algorithms/IndexedMinHeap" "items" "[I" (.ref aI) ∧ Fld Z h a1 "com/example/covermesh/covermesh/algorithms/IndexedMinHeap" "positions" "[I" (.ref aP) ∧ Fld Z h a1 "com/example/covermesh/covermesh/algorithms/IndexedMinHeap" "size" "I" (.int (2 : Int32)) ∧ Arv Z h aK kk .double 3 (own_d kf) (.double (0 : UInt64)) ∧ Arv Z h aI ki .int 3 (own_l (own_rmv kf σ u (0 : Int32) (3 : Int32)).1) (.int (0 : Int32)) ∧ Arv Z h aP kp .int 3 (own_l (own_rmv kf σ u (0 : Int32) (3 : Int32)).2) (.int (0 : Int32))
set_option maxRecDepth 65536 in
set_option maxHeartbeats 40000000 in
theorem rmRm03 (l : Launch) (Z : State) (a0 : Array Value) (hw : ∀ d ∈ tables_1, d.before a0 Z = true) (ws : List Jvm.Cond) (a1 : Addr) (u : Int32) (aK aI aP : Addr) (kk ki kp : ClassId) (kf : Int32 → UInt64) (σ : own_P) (h0 : Heap) (n0 : Nat) (Z0 : n0 ≤ h0.size) (E1 : Exa Z h0 a1 "com/example/covermesh/covermesh/algorithms/IndexedMinHeap") (FK : Fld Z h0 a1 "com/example/covermesh/covermesh/algorithms/IndexedMinHeap" "keys" "[D" (.ref aK)) (FI : Fld Z h0 a1 "com/example/covermesh/covermesh/algorithms/IndexedMinHeap" "items" "[I" (.ref aI)) (FP : Fld Z h0 a1 "com/example/covermesh/covermesh/algorithms/IndexedMinHeap" "positions" "[I" (.ref aP)) (FS : Fld Z h0 a1 "com/example/covermesh/covermesh/algorithms/IndexedMinHeap" "size" "I" (.int (3 : Int32))) (VK : Arv Z h0 aK kk .double 3 (own_d kf) (.double (0 : UInt64))) (VI : Arv Z h0 aI ki .int 3 (own_l σ.1) (.int (0 : Int32))) (VP : Arv Z h0 aP kp .int 3 (own_l σ.2) (.int (0 : Int32))) (nKI : aK ≠ aI) (nKP : aK ≠ aP) (nIP : aI ≠ aP) (nAK : a1 ≠ aK) (nAI : a1 ≠ aI) (nAP : a1 ≠ aP) (gA : n0 ≤ a1) (gK : n0 ≤ aK) (gI : n0 ≤ aI) (gP : n0 ≤ aP) (Ru : own_R u) (hgu : σ.2 u = (0 : Int32)) (R0 : own_R (σ.1 (0 : Int32))) (R1 : own_R (σ.1 (1 : Int32))) (R2 : own_R (σ.1 (2 : Int32))) :
    MetFree l (⟨"com/example/covermesh/covermesh/algorithms/IndexedMinHeap", "remove", "(I)V"⟩ : MethodName) (head1 (Jvm.Cond.code (⟨"com/example/covermesh/covermesh/algorithms/IndexedMinHeap", "remove", "(I)V"⟩ : MethodName) prog_17_method_6_code 4 none :: ws) ({ frames := 2, cells := 0, slots := 0, locals := 29 } : Room)) (fun a U => a = #[(.ref a1), (.int u)] ∧ Z.Warmed39 U.vm ∧ U.heap = h0) (fun _ _ _ _ _ => True) (fun _ U o U' => ∃ v L, o = .returned v ∧ QRm03 Z a1 u aK aI aP kk ki kp kf σ h0 n0 v U'.heap L ∧ FrameEnd U o U' L ({ frames := 2, cells := 0, slots := 0, locals := 29 } : Room).cells ({ frames := 2, cells := 0, slots := 0, locals := 29 } : Room).slots) := by
  refine MetFree.of_bodySF (plainFor_of_name pn_0) hisR ?_
  intro p e s m args below meth c s₁ Bd hml0 hP hK
  obtain ⟨rfl, hZ, hh⟩ := hP
  have hx := Bd.exec
  have hby := Bd.bytes
  have hml : c.maxLocals = 4 := hml0
  have hown : s.vm.findClass "com/example/covermesh/covermesh/algorithms/IndexedMinHeap" = some m.cls := findClass_of_methodNamed Bd.named
  have hnm := (name_of_methodNamed Bd.named Bd.method).1
  have X0 : Stand p l e ({ frames := 2, cells := 0, slots := 0, locals := 29 } : Room) s m #[(.ref a1), (.int u)] below meth c s₁ [] 0 0 := Stand.of_body Bd
  have e0 : s₁.heap = h0 := by rw [← hh, Bd.state]; rfl
  have N0 := Fr.nil n0
  have K0 := Keep.refl h0 [a1, aK, aI, aP]
  have go0 : Goes p e below s₁ (entryFrame m #[(.ref a1), (.int u)] 4) s₁ (mkF m 0 #[.val (.ref a1), .val (.int u), .unset, .unset] []) := fun t k => castTop (ef_rmRm03 m a1 u) k
  have go1 : Goes p e below s₁ (entryFrame m #[(.ref a1), (.int u)] 4) s₁ (mkF m 1 #[.val (.ref a1), .val (.int u), .unset, .unset] [(.ref a1)]) := fun t k => by
    refine go0 t ?_
    refine XS.aloadN X0.here hx rfl (hb hby d11_0) rfl rfl ?_
    show Steps p.tables e below (s₁.setTop (mkF m 1 #[.val (.ref a1), .val (.int u), .unset, .unset] [(.ref a1)])) _
    exact k
  obtain ⟨T2, X2, e2, st2⟩ := getF X0 hx hZ hown (host := "") (Or.inl (hw _ (List.mem_of_getElem? (i := 15) rfl))) Via.refl e0 FP (g := (mkF m 1 #[.val (.ref a1), .val (.int u), .unset, .unset] [(.ref a1)])) rfl rfl (hb hby d11_1)
  have go3 : Goes p e below s₁ (entryFrame m #[(.ref a1), (.int u)] 4) T2 (mkF m 4 #[.val (.ref a1), .val (.int u), .unset, .unset] [(.ref aP)]) := fun t k => go1 t (st2 t k)
  have go4 : Goes p e below s₁ (entryFrame m #[(.ref a1), (.int u)] 4) T2 (mkF m 5 #[.val (.ref a1), .val (.int u), .unset, .unset] [(.int u), (.ref aP)]) := fun t k => by
    refine go3 t ?_
    refine XS.iloadN X2.here hx rfl (hb hby d11_4) rfl ?_
    show Steps p.tables e below (T2.setTop (mkF m 5 #[.val (.ref a1), .val (.int u), .unset, .unset] [(.int u), (.ref aP)])) _
    exact k
  obtain ⟨cl5, Ar5, kq5, Sz5, Nn5, Hs5, Gf5⟩ := id (VP)
  have hin5 : ¬ (u < 0 ∨ cl5.slots.size ≤ (u).toNatClampNeg) := inb_of Sz5 (own_inb Ru)
  have hat5 : cl5.slots[(u).toNatClampNeg]? = some (.int (σ.2 u)) := Has.at Hs5 hin5 (own_l_at Ru)
  have go6 : Goes p e below s₁ (entryFrame m #[(.ref a1), (.int u)] 4) T2 (mkF m 6 #[.val (.ref a1), .val (.int u), .unset, .unset] [(.int (σ.2 u))]) := fun t k => by
    refine go4 t ?_
    refine X2.iaload hx (j := u) (v := (.int (σ.2 u))) (own_hp e2 Ar5.1) (State.isArrayOf_alike hZ.alike Ar5.2.1) Ar5.2.2 hin5 hat5 (g := (mkF m 5 #[.val (.ref a1), .val (.int u), .unset, .unset] [(.int u), (.ref aP)])) rfl rfl (hb hby d11_5) _ ?_
    show Steps p.tables e below (T2.setTop (mkF m 6 #[.val (.ref a1), .val (.int u), .unset, .unset] [(.int (σ.2 u))])) _
    exact k
  have go7 : Goes p e below s₁ (entryFrame m #[(.ref a1), (.int u)] 4) T2 (mkF m 6 #[.val (.ref a1), .val (.int u), .unset, .unset] [(.int (0 : Int32))]) := Eq.mp (congrArg (fun zz => Goes p e below s₁ (entryFrame m #[(.ref a1), (.int u)] 4) T2 (mkF m 6 #[.val (.ref a1), .val (.int u), .unset, .unset] [(.int zz)])) hgu) go6
  have go8 : Goes p e below s₁ (entryFrame m #[(.ref a1), (.int u)] 4) T2 (mkF m 8 #[.val (.ref a1), .val (.int u), .val (.int (0 : Int32)), .unset] [(.ref a1)]) := fun t k => by
    refine go7 t ?_
    refine XS.istoreN X2.here hx rfl (hb hby d11_6) rfl (l' := #[.val (.ref a1), .val (.int u), .val (.int (0 : Int32)), .unset]) rfl ?_
    show Steps p.tables e below (T2.setTop (mkF m 7 #[.val (.ref a1), .val (.int u), .val (.int (0 : Int32)), .unset] [])) _
    refine XS.aloadN X2.here hx rfl (hb hby d11_7) rfl rfl ?_
    show Steps p.tables e below (T2.setTop (mkF m 8 #[.val (.ref a1), .val (.int u), .val (.int (0 : Int32)), .unset] [(.ref a1)])) _
    exact k
  obtain ⟨T9, X9, e9, st9⟩ := getF X2 hx hZ hown (host := "") (Or.inl (hw _ (List.mem_of_getElem? (i := 15) rfl))) Via.refl e2 FP (g := (mkF m 8 #[.val (.ref a1), .val (.int u), .val (.int (0 : Int32)), .unset] [(.ref a1)])) rfl rfl (hb hby d11_8)
  have go10 : Goes p e below s₁ (entryFrame m #[(.ref a1), (.int u)] 4) T9 (mkF m 11 #[.val (.ref a1), .val (.int u), .val (.int (0 : Int32)), .unset] [(.ref aP)]) := fun t k => go8 t (st9 t k)
  have go11 : Goes p e below s₁ (entryFrame m #[(.ref a1), (.int u)] 4) T9 (mkF m 13 #[.val (.ref a1), .val (.int u), .val (.int (0 : Int32)), .unset] [(.int (-1 : Int32)), (.int u), (.ref aP)]) := fun t k => by
    refine go10 t ?_
    refine XS.iloadN X9.here hx rfl (hb hby d11_11) rfl ?_
    show Steps p.tables e below (T9.setTop (mkF m 12 #[.val (.ref a1), .val (.int u), .val (.int (0 : Int32)), .unset] [(.int u), (.ref aP)])) _
    refine XS.iconst X9.here hx rfl (hb hby d11_12) ?_
    show Steps p.tables e below (T9.setTop (mkF m 13 #[.val (.ref a1), .val (.int u), .val (.int (0 : Int32)), .unset] [(.int (-1 : Int32)), (.int u), (.ref aP)])) _
    exact k
  obtain ⟨cl12, Ar12, kq12, Sz12, Nn12, Hs12, Gf12⟩ := id (VP)
  have hin12 : ¬ (u < 0 ∨ cl12.slots.size ≤ (u).toNatClampNeg) := inb_of Sz12 (own_inb Ru)
  obtain ⟨T13, h13, X13, e13, W13, st13⟩ := stI X9 hx hZ e9 Ar12 (j := u) hin12 (g := (mkF m 13 #[.val (.ref a1), .val (.int u), .val (.int (0 : Int32)), .unset] [(.int (-1 : Int32)), (.int u), (.ref aP)])) rfl rfl (hb hby d11_13)
  have V14 : Arv Z h13 aP kp .int 3 (own_l (own_u σ.2 u (-1 : Int32))) (.int (0 : Int32)) := by rw [← own_l_set Ru]; exact Arv.set Ar12 kq12 Sz12 Nn12 Hs12 Gf12 rfl W13 _ rfl (own_l_len Ru)
  have f15 := E1.wr W13
  have f16 := FK.other W13 (Or.inl nAP)
  have f17 := FI.other W13 (Or.inl nAP)
  have f18 := FP.other W13 (Or.inl nAP)
  have f19 := FS.other W13 (Or.inl nAP)
  have f20 := VK.other W13 nKP
  have f21 := VI.other W13 nIP
  have Z22 := Nat.le_trans Z0 (Nat.le_of_eq W13.size.symm)
  have K23 := K0.wr W13 (Or.inl (List.mem_of_getElem? (i := 3) rfl))
  have N24 := Fr.snoc X13 N0 gP
  have go25 : Goes p e below s₁ (entryFrame m #[(.ref a1), (.int u)] 4) T13 (mkF m 14 #[.val (.ref a1), .val (.int u), .val (.int (0 : Int32)), .unset] []) := fun t k => go11 t (st13 t k)
  have go26 : Goes p e below s₁ (entryFrame m #[(.ref a1), (.int u)] 4) T13 (mkF m 16 #[.val (.ref a1), .val (.int u), .val (.int (0 : Int32)), .unset] [(.ref a1), (.ref a1)]) := fun t k => by
    refine go25 t ?_
    refine XS.aloadN X13.here hx rfl (hb hby d11_14) rfl rfl ?_
    show Steps p.tables e below (T13.setTop (mkF m 15 #[.val (.ref a1), .val (.int u), .val (.int (0 : Int32)), .unset] [(.ref a1)])) _
    refine XS.dup X13.here hx rfl (hb hby d11_15) rfl rfl ?_
    show Steps p.tables e below (T13.setTop (mkF m 16 #[.val (.ref a1), .val (.int u), .val (.int (0 : Int32)), .unset] [(.ref a1), (.ref a1)])) _
    exact k
  obtain ⟨T27, X27, e27, st27⟩ := getF X13 hx hZ hown (host := "") (Or.inl (hw _ (List.mem_of_getElem? (i := 26) rfl))) Via.refl e13 f19 (g := (mkF m 16 #[.val (.ref a1), .val (.int u), .val (.int (0 : Int32)), .unset] [(.ref a1), (.ref a1)])) rfl rfl (hb hby d11_16)
  have go28 : Goes p e below s₁ (entryFrame m #[(.ref a1), (.int u)] 4) T27 (mkF m 19 #[.val (.ref a1), .val (.int u), .val (.int (0 : Int32)), .unset] [(.int (3 : Int32)), (.ref a1)]) := fun t k => go26 t (st27 t k)
  have go29 : Goes p e below s₁ (entryFrame m #[(.ref a1), (.int u)] 4) T27 (mkF m 21 #[.val (.ref a1), .val (.int u), .val (.int (0 : Int32)), .unset] [(.int (2 : Int32)), (.ref a1)]) := fun t k => by
    refine go28 t ?_
    refine XS.iconst X27.here hx rfl (hb hby d11_19) ?_
    show Steps p.tables e below (T27.setTop (mkF m 20 #[.val (.ref a1), .val (.int u), .val (.int (0 : Int32)), .unset] [(.int (1 : Int32)), (.int (3 : Int32)), (.ref a1)])) _
    refine XS.isub X27.here hx rfl (hb hby d11_20) rfl ?_
    show Steps p.tables e below (T27.setTop (mkF m 21 #[.val (.ref a1), .val (.int u), .val (.int (0 : Int32)), .unset] [(.int (2 : Int32)), (.ref a1)])) _
    exact k
  obtain ⟨T30, h30, X30, e30, W30, st30⟩ := putF X27 hx hZ hown (host := "") (Or.inl (hw _ (List.mem_of_getElem? (i := 26) rfl))) Via.refl e27 f19 f15 (Or.inl (hw _ (List.mem_of_getElem? (i := 27) rfl))) (hw _ (List.mem_of_getElem? (i := 1) rfl)) (ty := .int) (by decide) rfl rfl (g := (mkF m 21 #[.val (.ref a1), .val (.int u), .val (.int (0 : Int32)), .unset] [(.int (2 : Int32)), (.ref a1)])) rfl rfl (hb hby d11_21)
  have f31 := f19.same W30
  have f32 := f15.wr W30
  have f33 := f16.other W30 (Or.inr (slot_ne (Or.inr (hw _ (List.mem_of_getElem? (i := 11) rfl))) (Or.inl (hw _ (List.mem_of_getElem? (i := 27) rfl))) (by decide) (t := (.array .double)) (t' := .int) (by decide) (by decide)))
  have f34 := f17.other W30 (Or.inr (slot_ne (Or.inr (hw _ (List.mem_of_getElem? (i := 14) rfl))) (Or.inl (hw _ (List.mem_of_getElem? (i := 27) rfl))) (by decide) (t := (.array .int)) (t' := .int) (by decide) (by decide)))
  have f35 := f18.other W30 (Or.inr (slot_ne (Or.inr (hw _ (List.mem_of_getElem? (i := 16) rfl))) (Or.inl (hw _ (List.mem_of_getElem? (i := 27) rfl))) (by decide) (t := (.array .int)) (t' := .int) (by decide) (by decide)))
  have f36 := f20.other W30 (Ne.symm nAK)
  have f37 := f21.other W30 (Ne.symm nAI)
  have f38 := V14.other W30 (Ne.symm nAP)
  have Z39 := Nat.le_trans Z22 (Nat.le_of_eq W30.size.symm)
  have K40 := K23.wr W30 (Or.inl (List.mem_of_getElem? (i := 0) rfl))
  have N41 := Fr.snoc X30 N24 gA
  have go42 : Goes p e below s₁ (entryFrame m #[(.ref a1), (.int u)] 4) T30 (mkF m 24 #[.val (.ref a1), .val (.int u), .val (.int (0 : Int32)), .unset] []) := fun t k => go29 t (st30 t k)
  have go43 : Goes p e below s₁ (entryFrame m #[(.ref a1), (.int u)] 4) T30 (mkF m 26 #[.val (.ref a1), .val (.int u), .val (.int (0 : Int32)), .unset] [(.ref a1), (.int (0 : Int32))]) := fun t k => by
    refine go42 t ?_
    refine XS.iloadN X30.here hx rfl (hb hby d11_24) rfl ?_
    show Steps p.tables e below (T30.setTop (mkF m 25 #[.val (.ref a1), .val (.int u), .val (.int (0 : Int32)), .unset] [(.int (0 : Int32))])) _
    refine XS.aloadN X30.here hx rfl (hb hby d11_25) rfl rfl ?_
    show Steps p.tables e below (T30.setTop (mkF m 26 #[.val (.ref a1), .val (.int u), .val (.int (0 : Int32)), .unset] [(.ref a1), (.int (0 : Int32))])) _
    exact k
  obtain ⟨T44, X44, e44, st44⟩ := getF X30 hx hZ hown (host := "") (Or.inl (hw _ (List.mem_of_getElem? (i := 26) rfl))) Via.refl e30 f31 (g := (mkF m 26 #[.val (.ref a1), .val (.int u), .val (.int (0 : Int32)), .unset] [(.ref a1), (.int (0 : Int32))])) rfl rfl (hb hby d11_26)
  have go45 : Goes p e below s₁ (entryFrame m #[(.ref a1), (.int u)] 4) T44 (mkF m 29 #[.val (.ref a1), .val (.int u), .val (.int (0 : Int32)), .unset] [(.int (2 : Int32)), (.int (0 : Int32))]) := fun t k => go43 t (st44 t k)
  have go46 : Goes p e below s₁ (entryFrame m #[(.ref a1), (.int u)] 4) T44 (mkF m 33 #[.val (.ref a1), .val (.int u), .val (.int (0 : Int32)), .unset] [(.ref a1)]) := fun t k => by
    refine go45 t ?_
    refine XS.icmpNo X44.here hx rfl (hb hby d11_29) rfl (Jvm.Free.XT.ii_ge_f (by decide)) ?_
    show Steps p.tables e below (T44.setTop (mkF m 32 #[.val (.ref a1), .val (.int u), .val (.int (0 : Int32)), .unset] [])) _
    refine XS.aloadN X44.here hx rfl (hb hby d11_32) rfl rfl ?_
    show Steps p.tables e below (T44.setTop (mkF m 33 #[.val (.ref a1), .val (.int u), .val (.int (0 : Int32)), .unset] [(.ref a1)])) _
    exact k
  obtain ⟨T47, X47, e47, st47⟩ := getF X44 hx hZ hown (host := "") (Or.inl (hw _ (List.mem_of_getElem? (i := 13) rfl))) Via.refl e44 f34 (g := (mkF m 33 #[.val (.ref a1), .val (.int u), .val (.int (0 : Int32)), .unset] [(.ref a1)])) rfl rfl (hb hby d11_33)
  have go48 : Goes p e below s₁ (entryFrame m #[(.ref a1), (.int u)] 4) T47 (mkF m 36 #[.val (.ref a1), .val (.int u), .val (.int (0 : Int32)), .unset] [(.ref aI)]) := fun t k => go46 t (st47 t k)
  have go49 : Goes p e below s₁ (entryFrame m #[(.ref a1), (.int u)] 4) T47 (mkF m 37 #[.val (.ref a1), .val (.int u), .val (.int (0 : Int32)), .unset] [(.ref a1), (.ref aI)]) := fun t k => by
    refine go48 t ?_
    refine XS.aloadN X47.here hx rfl (hb hby d11_36) rfl rfl ?_
    show Steps p.tables e below (T47.setTop (mkF m 37 #[.val (.ref a1), .val (.int u), .val (.int (0 : Int32)), .unset] [(.ref a1), (.ref aI)])) _
    exact k
  obtain ⟨T50, X50, e50, st50⟩ := getF X47 hx hZ hown (host := "") (Or.inl (hw _ (List.mem_of_getElem? (i := 26) rfl))) Via.refl e47 f31 (g := (mkF m 37 #[.val (.ref a1), .val (.int u), .val (.int (0 : Int32)), .unset] [(.ref a1), (.ref aI)])) rfl rfl (hb hby d11_37)
  have go51 : Goes p e below s₁ (entryFrame m #[(.ref a1), (.int u)] 4) T50 (mkF m 40 #[.val (.ref a1), .val (.int u), .val (.int (0 : Int32)), .unset] [(.int (2 : Int32)), (.ref aI)]) := fun t k => go49 t (st50 t k)
  obtain ⟨cl52, Ar52, kq52, Sz52, Nn52, Hs52, Gf52⟩ := id (f37)
  have hin52 : ¬ ((2 : Int32) < 0 ∨ cl52.slots.size ≤ ((2 : Int32)).toNatClampNeg) := inb_of Sz52 (own_inb own_R2)
  have hat52 : cl52.slots[((2 : Int32)).toNatClampNeg]? = some (.int (σ.1 (2 : Int32))) := Has.at Hs52 hin52 (own_l_at own_R2)
  have go53 : Goes p e below s₁ (entryFrame m #[(.ref a1), (.int u)] 4) T50 (mkF m 43 #[.val (.ref a1), .val (.int u), .val (.int (0 : Int32)), .val (.int (σ.1 (2 : Int32)))] [(.ref a1)]) := fun t k => by
    refine go51 t ?_
    refine X50.iaload hx (j := (2 : Int32)) (v := (.int (σ.1 (2 : Int32)))) (own_hp e50 Ar52.1) (State.isArrayOf_alike hZ.alike Ar52.2.1) Ar52.2.2 hin52 hat52 (g := (mkF m 40 #[.val (.ref a1), .val (.int u), .val (.int (0 : Int32)), .unset] [(.int (2 : Int32)), (.ref aI)])) rfl rfl (hb hby d11_40) _ ?_
    show Steps p.tables e below (T50.setTop (mkF m 41 #[.val (.ref a1), .val (.int u), .val (.int (0 : Int32)), .unset] [(.int (σ.1 (2 : Int32)))])) _
    refine XS.istoreN X50.here hx rfl (hb hby d11_41) rfl (l' := #[.val (.ref a1), .val (.int u), .val (.int (0 : Int32)), .val (.int (σ.1 (2 : Int32)))]) rfl ?_
    show Steps p.tables e below (T50.setTop (mkF m 42 #[.val (.ref a1), .val (.int u), .val (.int (0 : Int32)), .val (.int (σ.1 (2 : Int32)))] [])) _
    refine XS.aloadN X50.here hx rfl (hb hby d11_42) rfl rfl ?_
    show Steps p.tables e below (T50.setTop (mkF m 43 #[.val (.ref a1), .val (.int u), .val (.int (0 : Int32)), .val (.int (σ.1 (2 : Int32)))] [(.ref a1)])) _
    exact k
  obtain ⟨T54, X54, e54, st54⟩ := getF X50 hx hZ hown (host := "") (Or.inl (hw _ (List.mem_of_getElem? (i := 13) rfl))) Via.refl e50 f34 (g := (mkF m 43 #[.val (.ref a1), .val (.int u), .val (.int (0 : Int32)), .val (.int (σ.1 (2 : Int32)))] [(.ref a1)])) rfl rfl (hb hby d11_43)
  have go55 : Goes p e below s₁ (entryFrame m #[(.ref a1), (.int u)] 4) T54 (mkF m 46 #[.val (.ref a1), .val (.int u), .val (.int (0 : Int32)), .val (.int (σ.1 (2 : Int32)))] [(.ref aI)]) := fun t k => go53 t (st54 t k)
  have go56 : Goes p e below s₁ (entryFrame m #[(.ref a1), (.int u)] 4) T54 (mkF m 48 #[.val (.ref a1), .val (.int u), .val (.int (0 : Int32)), .val (.int (σ.1 (2 : Int32)))] [(.int (σ.1 (2 : Int32))), (.int (0 : Int32)), (.ref aI)]) := fun t k => by
    refine go55 t ?_
    refine XS.iloadN X54.here hx rfl (hb hby d11_46) rfl ?_
    show Steps p.tables e below (T54.setTop (mkF m 47 #[.val (.ref a1), .val (.int u), .val (.int (0 : Int32)), .val (.int (σ.1 (2 : Int32)))] [(.int (0 : Int32)), (.ref aI)])) _
    refine XS.iloadN X54.here hx rfl (hb hby d11_47) rfl ?_
    show Steps p.tables e below (T54.setTop (mkF m 48 #[.val (.ref a1), .val (.int u), .val (.int (0 : Int32)), .val (.int (σ.1 (2 : Int32)))] [(.int (σ.1 (2 : Int32))), (.int (0 : Int32)), (.ref aI)])) _
    exact k
  obtain ⟨cl57, Ar57, kq57, Sz57, Nn57, Hs57, Gf57⟩ := id (f37)
  have hin57 : ¬ ((0 : Int32) < 0 ∨ cl57.slots.size ≤ ((0 : Int32)).toNatClampNeg) := inb_of Sz57 (own_inb own_R0)
  obtain ⟨T58, h58, X58, e58, W58, st58⟩ := stI X54 hx hZ e54 Ar57 (j := (0 : Int32)) hin57 (g := (mkF m 48 #[.val (.ref a1), .val (.int u), .val (.int (0 : Int32)), .val (.int (σ.1 (2 : Int32)))] [(.int (σ.1 (2 : Int32))), (.int (0 : Int32)), (.ref aI)])) rfl rfl (hb hby d11_48)
  have V59 : Arv Z h58 aI ki .int 3 (own_l (own_u σ.1 (0 : Int32) (σ.1 (2 : Int32)))) (.int (0 : Int32)) := by rw [← own_l_set own_R0]; exact Arv.set Ar57 kq57 Sz57 Nn57 Hs57 Gf57 rfl W58 _ rfl (own_l_len own_R0)
  have f60 := f32.wr W58
  have f61 := f33.other W58 (Or.inl nAI)
  have f62 := f34.other W58 (Or.inl nAI)
  have f63 := f35.other W58 (Or.inl nAI)
  have f64 := f36.other W58 nKI
  have f65 := f38.other W58 (Ne.symm nIP)
  have f66 := f31.other W58 (Or.inl nAI)
  have Z67 := Nat.le_trans Z39 (Nat.le_of_eq W58.size.symm)
  have K68 := K40.wr W58 (Or.inl (List.mem_of_getElem? (i := 2) rfl))
  have N69 := Fr.snoc X58 N41 gI
  have go70 : Goes p e below s₁ (entryFrame m #[(.ref a1), (.int u)] 4) T58 (mkF m 49 #[.val (.ref a1), .val (.int u), .val (.int (0 : Int32)), .val (.int (σ.1 (2 : Int32)))] []) := fun t k => go56 t (st58 t k)
  have go71 : Goes p e below s₁ (entryFrame m #[(.ref a1), (.int u)] 4) T58 (mkF m 50 #[.val (.ref a1), .val (.int u), .val (.int (0 : Int32)), .val (.int (σ.1 (2 : Int32)))] [(.ref a1)]) := fun t k => by
    refine go70 t ?_
    refine XS.aloadN X58.here hx rfl (hb hby d11_49) rfl rfl ?_
    show Steps p.tables e below (T58.setTop (mkF m 50 #[.val (.ref a1), .val (.int u), .val (.int (0 : Int32)), .val (.int (σ.1 (2 : Int32)))] [(.ref a1)])) _
    exact k
  obtain ⟨T72, X72, e72, st72⟩ := getF X58 hx hZ hown (host := "") (Or.inl (hw _ (List.mem_of_getElem? (i := 15) rfl))) Via.refl e58 f63 (g := (mkF m 50 #[.val (.ref a1), .val (.int u), .val (.int (0 : Int32)), .val (.int (σ.1 (2 : Int32)))] [(.ref a1)])) rfl rfl (hb hby d11_50)
  have go73 : Goes p e below s₁ (entryFrame m #[(.ref a1), (.int u)] 4) T72 (mkF m 53 #[.val (.ref a1), .val (.int u), .val (.int (0 : Int32)), .val (.int (σ.1 (2 : Int32)))] [(.ref aP)]) := fun t k => go71 t (st72 t k)
  have go74 : Goes p e below s₁ (entryFrame m #[(.ref a1), (.int u)] 4) T72 (mkF m 55 #[.val (.ref a1), .val (.int u), .val (.int (0 : Int32)), .val (.int (σ.1 (2 : Int32)))] [(.int (0 : Int32)), (.int (σ.1 (2 : Int32))), (.ref aP)]) := fun t k => by
    refine go73 t ?_
    refine XS.iloadN X72.here hx rfl (hb hby d11_53) rfl ?_
    show Steps p.tables e below (T72.setTop (mkF m 54 #[.val (.ref a1), .val (.int u), .val (.int (0 : Int32)), .val (.int (σ.1 (2 : Int32)))] [(.int (σ.1 (2 : Int32))), (.ref aP)])) _
    refine XS.iloadN X72.here hx rfl (hb hby d11_54) rfl ?_
    show Steps p.tables e below (T72.setTop (mkF m 55 #[.val (.ref a1), .val (.int u), .val (.int (0 : Int32)), .val (.int (σ.1 (2 : Int32)))] [(.int (0 : Int32)), (.int (σ.1 (2 : Int32))), (.ref aP)])) _
    exact k
  obtain ⟨cl75, Ar75, kq75, Sz75, Nn75, Hs75, Gf75⟩ := id (f65)
  have hin75 : ¬ ((σ.1 (2 : Int32)) < 0 ∨ cl75.slots.size ≤ ((σ.1 (2 : Int32))).toNatClampNeg) := inb_of Sz75 (own_inb R2)
  obtain ⟨T76, h76, X76, e76, W76, st76⟩ := stI X72 hx hZ e72 Ar75 (j := (σ.1 (2 : Int32))) hin75 (g := (mkF m 55 #[.val (.ref a1), .val (.int u), .val (.int (0 : Int32)), .val (.int (σ.1 (2 : Int32)))] [(.int (0 : Int32)), (.int (σ.1 (2 : Int32))), (.ref aP)])) rfl rfl (hb hby d11_55)
  have V77 : Arv Z h76 aP kp .int 3 (own_l (own_u (own_u σ.2 u (-1 : Int32)) (σ.1 (2 : Int32)) (0 : Int32))) (.int (0 : Int32)) := by rw [← own_l_set R2]; exact Arv.set Ar75 kq75 Sz75 Nn75 Hs75 Gf75 rfl W76 _ rfl (own_l_len R2)
  have f78 := f60.wr W76
  have f79 := f61.other W76 (Or.inl nAP)
  have f80 := f62.other W76 (Or.inl nAP)
  have f81 := f63.other W76 (Or.inl nAP)
  have f82 := f64.other W76 nKP
  have f83 := f66.other W76 (Or.inl nAP)
  have f84 := V59.other W76 nIP
  have Z85 := Nat.le_trans Z67 (Nat.le_of_eq W76.size.symm)
  have K86 := K68.wr W76 (Or.inl (List.mem_of_getElem? (i := 3) rfl))
  have N87 := Fr.snoc X76 N69 gP
  have go88 : Goes p e below s₁ (entryFrame m #[(.ref a1), (.int u)] 4) T76 (mkF m 56 #[.val (.ref a1), .val (.int u), .val (.int (0 : Int32)), .val (.int (σ.1 (2 : Int32)))] []) := fun t k => go74 t (st76 t k)
  have go89 : Goes p e below s₁ (entryFrame m #[(.ref a1), (.int u)] 4) T76 (mkF m 58 #[.val (.ref a1), .val (.int u), .val (.int (0 : Int32)), .val (.int (σ.1 (2 : Int32)))] [(.int (0 : Int32)), (.ref a1)]) := fun t k => by
    refine go88 t ?_
    refine XS.aloadN X76.here hx rfl (hb hby d11_56) rfl rfl ?_
    show Steps p.tables e below (T76.setTop (mkF m 57 #[.val (.ref a1), .val (.int u), .val (.int (0 : Int32)), .val (.int (σ.1 (2 : Int32)))] [(.ref a1)])) _
    refine XS.iloadN X76.here hx rfl (hb hby d11_57) rfl ?_
    show Steps p.tables e below (T76.setTop (mkF m 58 #[.val (.ref a1), .val (.int u), .val (.int (0 : Int32)), .val (.int (σ.1 (2 : Int32)))] [(.int (0 : Int32)), (.ref a1)])) _
    exact k
  obtain ⟨cq90, q90a, q90b⟩ := f78.cell
  obtain ⟨_, _, ⟨T90, L90, k90, n90⟩, -, X90, ⟨Lc90, hQ90, l90, y90, z90⟩, st90⟩ := X76.privateBack hx (y := (⟨"com/example/covermesh/covermesh/algorithms/IndexedMinHeap", "siftUp", "(I)V"⟩ : MethodName)) hown (mvT hZ (hw _ (List.mem_of_getElem? (i := 37) rfl))) (mvT hZ (hw _ (List.mem_of_getElem? (i := 38) rfl))) (own_selp (y := (⟨"com/example/covermesh/covermesh/algorithms/IndexedMinHeap", "siftUp", "(I)V"⟩ : MethodName)) (by decide) (mvT hZ (hw _ (List.mem_of_getElem? (i := 1) rfl))) (mvP hZ (hw _ (List.mem_of_getElem? (i := 39) rfl))) (mvT hZ (hw _ (List.mem_of_getElem? (i := 38) rfl)))) (Cond.privateMethod_at (mvP hZ (hw _ (List.mem_of_getElem? (i := 39) rfl)) (args := #[]))) (mvT hZ (hw _ (List.mem_of_getElem? (i := 40) rfl))) (by decide) (backOf (W := 0) (rmU0 l Z a0 hw [] a1 aK aI aP kk ki kp kf ((own_u σ.1 (0 : Int32) (σ.1 (2 : Int32))), (own_u (own_u σ.2 u (-1 : Int32)) (σ.1 (2 : Int32)) (0 : Int32))) (2 : Int32) h76 n0 Z85 f78 f79 f80 f81 f83 f82 f84 V77 nKI nKP nIP nAK nAI nAP gA gK gI gP (show own_R (own_u σ.1 (0 : Int32) (σ.1 (2 : Int32)) (0 : Int32)) from own_u_R R2 (fun h => absurd rfl h))) hZ (hw _ (List.mem_of_getElem? (i := 40) rfl)) (hw _ (List.mem_of_getElem? (i := 2) rfl)) (by decide) (by decide)) (g := (mkF m 58 #[.val (.ref a1), .val (.int u), .val (.int (0 : Int32)), .val (.int (σ.1 (2 : Int32)))] [(.int (0 : Int32)), (.ref a1)])) rfl (by rw [hml]; rfl) (Steps.refl _) (a := a1) (by rw [e76]; exact q90a) q90b (argsL := [(.int (0 : Int32))]) (rest := []) (lenOf pd_2 rfl) rfl (by show 2 * 0 + _ ≤ _; exact Nat.le_of_eq rfl) (hb hby d11_58) (fun _ _ => ⟨rfl, e76, (by decide : 0 + 0 ≤ ({ frames := 2, cells := 0, slots := 0, locals := 29 } : Room).cells), (by decide : 0 + 0 ≤ ({ frames := 2, cells := 0, slots := 0, locals := 29 } : Room).slots)⟩)
  dsimp only [Pt.U, Pt.locs, Pt.cells, Pt.slots] at X90 l90 y90 z90 st90 hQ90
  subst l90 y90 z90
  obtain ⟨rfl, N90q, Kq90, VIq90, VPq90⟩ := hQ90
  have N90 := Fr.app N87 N90q
  have f91 := f78.keep Kq90
  have f92 := f79.keep Kq90 (ninS nAI (ninS nAP nin0))
  have f93 := f80.keep Kq90 (ninS nAI (ninS nAP nin0))
  have f94 := f81.keep Kq90 (ninS nAI (ninS nAP nin0))
  have f95 := f82.keep Kq90 (ninS nKI (ninS nKP nin0))
  have f96 := f83.keep Kq90 (ninS nAI (ninS nAP nin0))
  have Z97 := Nat.le_trans Z85 Kq90.1
  have K98 := K86.trans Kq90 (allS (Or.inl (List.mem_of_getElem? (i := 2) rfl)) (allS (Or.inl (List.mem_of_getElem? (i := 3) rfl)) all0))
  obtain ⟨τ90, hτ90⟩ : ∃ z, z = own_up kf ((own_u σ.1 (0 : Int32) (σ.1 (2 : Int32))), (own_u (own_u σ.2 u (-1 : Int32)) (σ.1 (2 : Int32)) (0 : Int32))) (0 : Int32) := ⟨_, rfl⟩
  rw [← hτ90] at VIq90 VPq90
  have go99 : Goes p e below s₁ (entryFrame m #[(.ref a1), (.int u)] 4) T90 (mkF m 61 #[.val (.ref a1), .val (.int u), .val (.int (0 : Int32)), .val (.int (σ.1 (2 : Int32)))] []) := fun t k => go89 t (st90.trans k)
  have go100 : Goes p e below s₁ (entryFrame m #[(.ref a1), (.int u)] 4) T90 (mkF m 63 #[.val (.ref a1), .val (.int u), .val (.int (0 : Int32)), .val (.int (σ.1 (2 : Int32)))] [(.ref a1), (.ref a1)]) := fun t k => by
    refine go99 t ?_
    refine XS.aloadN X90.here hx rfl (hb hby d11_61) rfl rfl ?_
    show Steps p.tables e below (T90.setTop (mkF m 62 #[.val (.ref a1), .val (.int u), .val (.int (0 : Int32)), .val (.int (σ.1 (2 : Int32)))] [(.ref a1)])) _
    refine XS.aloadN X90.here hx rfl (hb hby d11_62) rfl rfl ?_
    show Steps p.tables e below (T90.setTop (mkF m 63 #[.val (.ref a1), .val (.int u), .val (.int (0 : Int32)), .val (.int (σ.1 (2 : Int32)))] [(.ref a1), (.ref a1)])) _
    exact k
  obtain ⟨T101, X101, e101, st101⟩ := getF X90 hx hZ hown (host := "") (Or.inl (hw _ (List.mem_of_getElem? (i := 15) rfl))) Via.refl rfl f94 (g := (mkF m 63 #[.val (.ref a1), .val (.int u), .val (.int (0 : Int32)), .val (.int (σ.1 (2 : Int32)))] [(.ref a1), (.ref a1)])) rfl rfl (hb hby d11_63)
  have go102 : Goes p e below s₁ (entryFrame m #[(.ref a1), (.int u)] 4) T101 (mkF m 66 #[.val (.ref a1), .val (.int u), .val (.int (0 : Int32)), .val (.int (σ.1 (2 : Int32)))] [(.ref aP), (.ref a1)]) := fun t k => go100 t (st101 t k)
  have go103 : Goes p e below s₁ (entryFrame m #[(.ref a1), (.int u)] 4) T101 (mkF m 67 #[.val (.ref a1), .val (.int u), .val (.int (0 : Int32)), .val (.int (σ.1 (2 : Int32)))] [(.int (σ.1 (2 : Int32))), (.ref aP), (.ref a1)]) := fun t k => by
    refine go102 t ?_
    refine XS.iloadN X101.here hx rfl (hb hby d11_66) rfl ?_
    show Steps p.tables e below (T101.setTop (mkF m 67 #[.val (.ref a1), .val (.int u), .val (.int (0 : Int32)), .val (.int (σ.1 (2 : Int32)))] [(.int (σ.1 (2 : Int32))), (.ref aP), (.ref a1)])) _
    exact k
  obtain ⟨cl104, Ar104, kq104, Sz104, Nn104, Hs104, Gf104⟩ := id (VPq90)
  have hin104 : ¬ ((σ.1 (2 : Int32)) < 0 ∨ cl104.slots.size ≤ ((σ.1 (2 : Int32))).toNatClampNeg) := inb_of Sz104 (own_inb R2)
  have hat104 : cl104.slots[((σ.1 (2 : Int32))).toNatClampNeg]? = some (.int (τ90.2 (σ.1 (2 : Int32)))) := Has.at Hs104 hin104 (own_l_at R2)
  have go105 : Goes p e below s₁ (entryFrame m #[(.ref a1), (.int u)] 4) T101 (mkF m 68 #[.val (.ref a1), .val (.int u), .val (.int (0 : Int32)), .val (.int (σ.1 (2 : Int32)))] [(.int (τ90.2 (σ.1 (2 : Int32)))), (.ref a1)]) := fun t k => by
    refine go103 t ?_
    refine X101.iaload hx (j := (σ.1 (2 : Int32))) (v := (.int (τ90.2 (σ.1 (2 : Int32))))) (own_hp e101 Ar104.1) (State.isArrayOf_alike hZ.alike Ar104.2.1) Ar104.2.2 hin104 hat104 (g := (mkF m 67 #[.val (.ref a1), .val (.int u), .val (.int (0 : Int32)), .val (.int (σ.1 (2 : Int32)))] [(.int (σ.1 (2 : Int32))), (.ref aP), (.ref a1)])) rfl rfl (hb hby d11_67) _ ?_
    show Steps p.tables e below (T101.setTop (mkF m 68 #[.val (.ref a1), .val (.int u), .val (.int (0 : Int32)), .val (.int (σ.1 (2 : Int32)))] [(.int (τ90.2 (σ.1 (2 : Int32)))), (.ref a1)])) _
    exact k
  have hpos : τ90.2 (σ.1 (2 : Int32)) = (0 : Int32) ∨ τ90.2 (σ.1 (2 : Int32)) = 0 := by rw [hτ90]; exact own_up_pos (show own_u σ.1 (0 : Int32) (σ.1 (2 : Int32)) (0 : Int32) = (σ.1 (2 : Int32)) from own_us)
  have hR0 : ∀ j : Int32, j < (2 : Int32) ∧ ¬ j < 0 → own_R (own_u σ.1 (0 : Int32) (σ.1 (2 : Int32)) j) := by
    intro j hj
    refine own_u_R R2 (fun _ => ?_)
    have h6 : j.toInt = 0 ∨ j.toInt = 1 := by
      have h1 := hj.1; have h2 := hj.2; rw [Int32.lt_iff_toInt_lt] at h1 h2
      have h3 : ((2 : Int32)).toInt = 2 := rfl
      have h4 : (0 : Int32).toInt = 0 := rfl
      omega
    rcases h6 with h6 | h6
    · rw [own_of_toInt h6]; exact R0
    · rw [own_of_toInt h6]; exact R1
  have hR106 : ∀ j : Int32, j < (2 : Int32) ∧ ¬ j < 0 → own_R (τ90.1 j) := fun j hj => by rw [hτ90]; exact own_up_R (hR0 (0 : Int32) (by decide)) (hR0 (0 : Int32) (by decide)) (hR0 j hj)
  have hp := hpos.elim id id
  have go107 : Goes p e below s₁ (entryFrame m #[(.ref a1), (.int u)] 4) T101 (mkF m 68 #[.val (.ref a1), .val (.int u), .val (.int (0 : Int32)), .val (.int (σ.1 (2 : Int32)))] [(.int (0 : Int32)), (.ref a1)]) := Eq.mp (congrArg (fun zz => Goes p e below s₁ (entryFrame m #[(.ref a1), (.int u)] 4) T101 (mkF m 68 #[.val (.ref a1), .val (.int u), .val (.int (0 : Int32)), .val (.int (σ.1 (2 : Int32)))] [(.int zz), (.ref a1)])) hp) go105
  obtain ⟨cq108, q108a, q108b⟩ := f91.cell
  obtain ⟨_, _, ⟨T108, L108, k108, n108⟩, -, X108, ⟨Lc108, hQ108, l108, y108, z108⟩, st108⟩ := X101.privateBack hx (y := (⟨"com/example/covermesh/covermesh/algorithms/IndexedMinHeap", "siftDown", "(I)V"⟩ : MethodName)) hown (mvT hZ (hw _ (List.mem_of_getElem? (i := 45) rfl))) (mvT hZ (hw _ (List.mem_of_getElem? (i := 46) rfl))) (own_selp (y := (⟨"com/example/covermesh/covermesh/algorithms/IndexedMinHeap", "siftDown", "(I)V"⟩ : MethodName)) (by decide) (mvT hZ (hw _ (List.mem_of_getElem? (i := 1) rfl))) (mvP hZ (hw _ (List.mem_of_getElem? (i := 47) rfl))) (mvT hZ (hw _ (List.mem_of_getElem? (i := 46) rfl)))) (Cond.privateMethod_at (mvP hZ (hw _ (List.mem_of_getElem? (i := 47) rfl)) (args := #[]))) (mvT hZ (hw _ (List.mem_of_getElem? (i := 48) rfl))) (by decide) (backOf (W := 0) (rmD02 l Z a0 hw [] a1 aK aI aP kk ki kp kf τ90 T90.heap n0 Z97 f91 f92 f93 f94 f96 f95 VIq90 VPq90 nKI nKP nIP nAK nAI nAP gA gK gI gP (hR106 (0 : Int32) (by decide)) (hR106 (1 : Int32) (by decide))) hZ (hw _ (List.mem_of_getElem? (i := 48) rfl)) (hw _ (List.mem_of_getElem? (i := 2) rfl)) (by decide) (by decide)) (g := (mkF m 68 #[.val (.ref a1), .val (.int u), .val (.int (0 : Int32)), .val (.int (σ.1 (2 : Int32)))] [(.int (0 : Int32)), (.ref a1)])) rfl (by rw [hml]; rfl) (Steps.refl _) (a := a1) (by rw [e101]; exact q108a) q108b (argsL := [(.int (0 : Int32))]) (rest := []) (lenOf pd_2 rfl) rfl (by show 2 * 0 + _ ≤ _; exact Nat.le_of_eq rfl) (hb hby d11_68) (fun _ _ => ⟨rfl, e101, (by decide : 0 + 0 ≤ ({ frames := 2, cells := 0, slots := 0, locals := 29 } : Room).cells), (by decide : 0 + 0 ≤ ({ frames := 2, cells := 0, slots := 0, locals := 29 } : Room).slots)⟩)
  dsimp only [Pt.U, Pt.locs, Pt.cells, Pt.slots] at X108 l108 y108 z108 st108 hQ108
  subst l108 y108 z108
  obtain ⟨rfl, N108q, Kq108, VIq108, VPq108⟩ := hQ108
  have N108 := Fr.app N90 N108q
  have f109 := f91.keep Kq108
  have f110 := f92.keep Kq108 (ninS nAI (ninS nAP nin0))
  have f111 := f93.keep Kq108 (ninS nAI (ninS nAP nin0))
  have f112 := f94.keep Kq108 (ninS nAI (ninS nAP nin0))
  have f113 := f95.keep Kq108 (ninS nKI (ninS nKP nin0))
  have f114 := f96.keep Kq108 (ninS nAI (ninS nAP nin0))
  have Z115 := Nat.le_trans Z97 Kq108.1
  have K116 := K98.trans Kq108 (allS (Or.inl (List.mem_of_getElem? (i := 2) rfl)) (allS (Or.inl (List.mem_of_getElem? (i := 3) rfl)) all0))
  have go117 : Goes p e below s₁ (entryFrame m #[(.ref a1), (.int u)] 4) T108 (mkF m 71 #[.val (.ref a1), .val (.int u), .val (.int (0 : Int32)), .val (.int (σ.1 (2 : Int32)))] []) := fun t k => go107 t (st108.trans k)
  obtain ⟨fs, hr, hrun, hended, hW, hsame⟩ := X108.leave (v := none) (fun _ => rfl)
  have hrm : own_rmv kf σ u (0 : Int32) (3 : Int32) = own_dn kf τ90 (0 : Int32) (2 : Int32) := by
    refine (if_neg (by decide)).trans ?_
    show own_dn kf (own_up kf (own_u σ.1 (0 : Int32) (σ.1 (2 : Int32)), own_u (own_u σ.2 u (-1 : Int32)) (σ.1 (2 : Int32)) (0 : Int32)) (own_u (own_u σ.2 u (-1 : Int32)) (σ.1 (2 : Int32)) (0 : Int32) (σ.1 (2 : Int32)))) ((own_up kf (own_u σ.1 (0 : Int32) (σ.1 (2 : Int32)), own_u (own_u σ.2 u (-1 : Int32)) (σ.1 (2 : Int32)) (0 : Int32)) (own_u (own_u σ.2 u (-1 : Int32)) (σ.1 (2 : Int32)) (0 : Int32) (σ.1 (2 : Int32)))).2 (σ.1 (2 : Int32))) (2 : Int32) = _
    rw [own_us, ← hτ90, hp]
  refine ⟨_, _, go117 _ ?_, hrun, hended, _, _, rfl, ?_, ⟨_, rfl⟩, hW, hsame.mono (by decide) (by decide)⟩
  · exact X108.returnOut hx Bd.returns (hb hby d11_71) hr
  · show QRm03 Z _ _ _ _ _ _ _ _ _ _ _ _ _ T108.heap _
    exact ⟨rfl, N108, K116, f109, f110, f111, f112, f114, f113, by rw [hrm]; exact VIq108, by rw [hrm]; exact VPq108⟩
theorem ef_rmRm13 (m : MethodId) (a1 : Addr) (u : Int32) : entryFrame m #[(.ref a1), (.int u)] 4 = mkF m 0 #[.val (.ref a1), .val (.int u), .unset, .unset] [] := by first | (simp [entryFrame, mkF, argsToLocals, Value.category]; done) | rfl
def QRm13 (Z : State) (a1 : Addr) (u : Int32) (aK aI aP : Addr) (kk ki kp : ClassId) (kf : Int32 → UInt64) (σ : own_P) (h0 : Heap) (n0 : Nat) (v : Option Value) (h : Heap) (L : List Loc) : Prop := v = none ∧ Fr n0 L ∧ Keep h0 h [a1, aK, aI, aP] ∧ Exa Z h a1 "com/example/covermesh/covermesh/algorithms/IndexedMinHeap" ∧ Fld Z h a1 "com/example/covermesh/covermesh/algorithms/IndexedMinHeap" "keys" "[D" (.ref aK) ∧ Fld Z h a1 "com/example/covermesh/covermesh/algorithms/IndexedMinHeap" "items" "[I" (.ref aI) ∧ Fld Z h a1 "com/example/covermesh/covermesh/algorithms/IndexedMinHeap" "positions" "[I" (.ref aP) ∧ Fld Z h a1 "com/example/covermesh/covermesh/algorithms/IndexedMinHeap" "size" "I" (.int (2 : Int32)) ∧ Arv Z h aK kk .double 3 (own_d kf) (.double (0 : UInt64)) ∧ Arv Z h aI ki .int 3 (own_l (own_rmv kf σ u (1 : Int32) (3 : Int32)).1) (.int (0 : Int32)) ∧ Arv Z h aP kp .int 3 (own_l (own_rmv kf σ u (1 : Int32) (3 : Int32)).2) (.int (0 : Int32))
set_option maxRecDepth 65536 in
set_option maxHeartbeats 40000000 in
theorem rmRm13 (l : Launch) (Z : State) (a0 : Array Value) (hw : ∀ d ∈ tables_1, d.before a0 Z = true) (ws : List Jvm.Cond) (a1 : Addr) (u : Int32) (aK aI aP : Addr) (kk ki kp : ClassId) (kf : Int32 → UInt64) (σ : own_P) (h0 : Heap) (n0 : Nat) (Z0 : n0 ≤ h0.size) (E1 : Exa Z h0 a1 "com/example/covermesh/covermesh/algorithms/IndexedMinHeap") (FK : Fld Z h0 a1 "com/example/covermesh/covermesh/algorithms/IndexedMinHeap" "keys" "[D" (.ref aK)) (FI : Fld Z h0 a1 "com/example/covermesh/covermesh/algorithms/IndexedMinHeap" "items" "[I" (.ref aI)) (FP : Fld Z h0 a1 "com/example/covermesh/covermesh/algorithms/IndexedMinHeap" "positions" "[I" (.ref aP)) (FS : Fld Z h0 a1 "com/example/covermesh/covermesh/algorithms/IndexedMinHeap" "size" "I" (.int (3 : Int32))) (VK : Arv Z h0 aK kk .double 3 (own_d kf) (.double (0 : UInt64))) (VI : Arv Z h0 aI ki .int 3 (own_l σ.1) (.int (0 : Int32))) (VP : Arv Z h0 aP kp .int 3 (own_l σ.2) (.int (0 : Int32))) (nKI : aK ≠ aI) (nKP : aK ≠ aP) (nIP : aI ≠ aP) (nAK : a1 ≠ aK) (nAI : a1 ≠ aI) (nAP : a1 ≠ aP) (gA : n0 ≤ a1) (gK : n0 ≤ aK) (gI : n0 ≤ aI) (gP : n0 ≤ aP) (Ru : own_R u) (hgu : σ.2 u = (1 : Int32)) (R0 : own_R (σ.1 (0 : Int32))) (R1 : own_R (σ.1 (1 : Int32))) (R2 : own_R (σ.1 (2 : Int32))) :
    MetFree l (⟨"com/example/covermesh/covermesh/algorithms/IndexedMinHeap", "remove", "(I)V"⟩ : MethodName) (head1 (Jvm.Cond.code (⟨"com/example/covermesh/covermesh/algorithms/IndexedMinHeap", "remove", "(I)V"⟩ : MethodName) prog_17_method_6_code 4 none :: ws) ({ frames := 2, cells := 0, slots := 0, locals := 29 } : Room)) (fun a U => a = #[(.ref a1), (.int u)] ∧ Z.Warmed39 U.vm ∧ U.heap = h0) (fun _ _ _ _ _ => True) (fun _ U o U' => ∃ v L, o = .returned v ∧ QRm13 Z a1 u aK aI aP kk ki kp kf σ h0 n0 v U'.heap L ∧ FrameEnd U o U' L ({ frames := 2, cells := 0, slots := 0, locals := 29 } : Room).cells ({ frames := 2, cells := 0, slots := 0, locals := 29 } : Room).slots) := by
  refine MetFree.of_bodySF (plainFor_of_name pn_0) hisR ?_
  intro p e s m args below meth c s₁ Bd hml0 hP hK
  obtain ⟨rfl, hZ, hh⟩ := hP
  have hx := Bd.exec
  have hby := Bd.bytes
  have hml : c.maxLocals = 4 := hml0
  have hown : s.vm.findClass "com/example/covermesh/covermesh/algorithms/IndexedMinHeap" = some m.cls := findClass_of_methodNamed Bd.named
  have hnm := (name_of_methodNamed Bd.named Bd.method).1
  have X0 : Stand p l e ({ frames := 2, cells := 0, slots := 0, locals := 29 } : Room) s m #[(.ref a1), (.int u)] below meth c s₁ [] 0 0 := Stand.of_body Bd
  have e0 : s₁.heap = h0 := by rw [← hh, Bd.state]; rfl
  have N0 := Fr.nil n0
  have K0 := Keep.refl h0 [a1, aK, aI, aP]
  have go0 : Goes p e below s₁ (entryFrame m #[(.ref a1), (.int u)] 4) s₁ (mkF m 0 #[.val (.ref a1), .val (.int u), .unset, .unset] []) := fun t k => castTop (ef_rmRm13 m a1 u) k
  have go1 : Goes p e below s₁ (entryFrame m #[(.ref a1), (.int u)] 4) s₁ (mkF m 1 #[.val (.ref a1), .val (.int u), .unset, .unset] [(.ref a1)]) := fun t k => by
    refine go0 t ?_
    refine XS.aloadN X0.here hx rfl (hb hby d11_0) rfl rfl ?_
    show Steps p.tables e below (s₁.setTop (mkF m 1 #[.val (.ref a1), .val (.int u), .unset, .unset] [(.ref a1)])) _
    exact k
  obtain ⟨T2, X2, e2, st2⟩ := getF X0 hx hZ hown (host := "") (Or.inl (hw _ (List.mem_of_getElem? (i := 15) rfl))) Via.refl e0 FP (g := (mkF m 1 #[.val (.ref a1), .val (.int u), .unset, .unset] [(.ref a1)])) rfl rfl (hb hby d11_1)
  have go3 : Goes p e below s₁ (entryFrame m #[(.ref a1), (.int u)] 4) T2 (mkF m 4 #[.val (.ref a1), .val (.int u), .unset, .unset] [(.ref aP)]) := fun t k => go1 t (st2 t k)
  have go4 : Goes p e below s₁ (entryFrame m #[(.ref a1), (.int u)] 4) T2 (mkF m 5 #[.val (.ref a1), .val (.int u), .unset, .unset] [(.int u), (.ref aP)]) := fun t k => by
    refine go3 t ?_
    refine XS.iloadN X2.here hx rfl (hb hby d11_4) rfl ?_
    show Steps p.tables e below (T2.setTop (mkF m 5 #[.val (.ref a1), .val (.int u), .unset, .unset] [(.int u), (.ref aP)])) _
    exact k
  obtain ⟨cl5, Ar5, kq5, Sz5, Nn5, Hs5, Gf5⟩ := id (VP)
  have hin5 : ¬ (u < 0 ∨ cl5.slots.size ≤ (u).toNatClampNeg) := inb_of Sz5 (own_inb Ru)
  have hat5 : cl5.slots[(u).toNatClampNeg]? = some (.int (σ.2 u)) := Has.at Hs5 hin5 (own_l_at Ru)
  have go6 : Goes p e below s₁ (entryFrame m #[(.ref a1), (.int u)] 4) T2 (mkF m 6 #[.val (.ref a1), .val (.int u), .unset, .unset] [(.int (σ.2 u))]) := fun t k => by
    refine go4 t ?_
    refine X2.iaload hx (j := u) (v := (.int (σ.2 u))) (own_hp e2 Ar5.1) (State.isArrayOf_alike hZ.alike Ar5.2.1) Ar5.2.2 hin5 hat5 (g := (mkF m 5 #[.val (.ref a1), .val (.int u), .unset, .unset] [(.int u), (.ref aP)])) rfl rfl (hb hby d11_5) _ ?_
    show Steps p.tables e below (T2.setTop (mkF m 6 #[.val (.ref a1), .val (.int u), .unset, .unset] [(.int (σ.2 u))])) _
    exact k
  have go7 : Goes p e below s₁ (entryFrame m #[(.ref a1), (.int u)] 4) T2 (mkF m 6 #[.val (.ref a1), .val (.int u), .unset, .unset] [(.int (1 : Int32))]) := Eq.mp (congrArg (fun zz => Goes p e below s₁ (entryFrame m #[(.ref a1), (.int u)] 4) T2 (mkF m 6 #[.val (.ref a1), .val (.int u), .unset, .unset] [(.int zz)])) hgu) go6
  have go8 : Goes p e below s₁ (entryFrame m #[(.ref a1), (.int u)] 4) T2 (mkF m 8 #[.val (.ref a1), .val (.int u), .val (.int (1 : Int32)), .unset] [(.ref a1)]) := fun t k => by
    refine go7 t ?_
    refine XS.istoreN X2.here hx rfl (hb hby d11_6) rfl (l' := #[.val (.ref a1), .val (.int u), .val (.int (1 : Int32)), .unset]) rfl ?_
    show Steps p.tables e below (T2.setTop (mkF m 7 #[.val (.ref a1), .val (.int u), .val (.int (1 : Int32)), .unset] [])) _
    refine XS.aloadN X2.here hx rfl (hb hby d11_7) rfl rfl ?_
    show Steps p.tables e below (T2.setTop (mkF m 8 #[.val (.ref a1), .val (.int u), .val (.int (1 : Int32)), .unset] [(.ref a1)])) _
    exact k
  obtain ⟨T9, X9, e9, st9⟩ := getF X2 hx hZ hown (host := "") (Or.inl (hw _ (List.mem_of_getElem? (i := 15) rfl))) Via.refl e2 FP (g := (mkF m 8 #[.val (.ref a1), .val (.int u), .val (.int (1 : Int32)), .unset] [(.ref a1)])) rfl rfl (hb hby d11_8)
  have go10 : Goes p e below s₁ (entryFrame m #[(.ref a1), (.int u)] 4) T9 (mkF m 11 #[.val (.ref a1), .val (.int u), .val (.int (1 : Int32)), .unset] [(.ref aP)]) := fun t k => go8 t (st9 t k)
  have go11 : Goes p e below s₁ (entryFrame m #[(.ref a1), (.int u)] 4) T9 (mkF m 13 #[.val (.ref a1), .val (.int u), .val (.int (1 : Int32)), .unset] [(.int (-1 : Int32)), (.int u), (.ref aP)]) := fun t k => by
    refine go10 t ?_
    refine XS.iloadN X9.here hx rfl (hb hby d11_11) rfl ?_
    show Steps p.tables e below (T9.setTop (mkF m 12 #[.val (.ref a1), .val (.int u), .val (.int (1 : Int32)), .unset] [(.int u), (.ref aP)])) _
    refine XS.iconst X9.here hx rfl (hb hby d11_12) ?_
    show Steps p.tables e below (T9.setTop (mkF m 13 #[.val (.ref a1), .val (.int u), .val (.int (1 : Int32)), .unset] [(.int (-1 : Int32)), (.int u), (.ref aP)])) _
    exact k
  obtain ⟨cl12, Ar12, kq12, Sz12, Nn12, Hs12, Gf12⟩ := id (VP)
  have hin12 : ¬ (u < 0 ∨ cl12.slots.size ≤ (u).toNatClampNeg) := inb_of Sz12 (own_inb Ru)
  obtain ⟨T13, h13, X13, e13, W13, st13⟩ := stI X9 hx hZ e9 Ar12 (j := u) hin12 (g := (mkF m 13 #[.val (.ref a1), .val (.int u), .val (.int (1 : Int32)), .unset] [(.int (-1 : Int32)), (.int u), (.ref aP)])) rfl rfl (hb hby d11_13)
  have V14 : Arv Z h13 aP kp .int 3 (own_l (own_u σ.2 u (-1 : Int32))) (.int (0 : Int32)) := by rw [← own_l_set Ru]; exact Arv.set Ar12 kq12 Sz12 Nn12 Hs12 Gf12 rfl W13 _ rfl (own_l_len Ru)
  have f15 := E1.wr W13
  have f16 := FK.other W13 (Or.inl nAP)
  have f17 := FI.other W13 (Or.inl nAP)
  have f18 := FP.other W13 (Or.inl nAP)
  have f19 := FS.other W13 (Or.inl nAP)
  have f20 := VK.other W13 nKP
  have f21 := VI.other W13 nIP
  have Z22 := Nat.le_trans Z0 (Nat.le_of_eq W13.size.symm)
  have K23 := K0.wr W13 (Or.inl (List.mem_of_getElem? (i := 3) rfl))
  have N24 := Fr.snoc X13 N0 gP
  have go25 : Goes p e below s₁ (entryFrame m #[(.ref a1), (.int u)] 4) T13 (mkF m 14 #[.val (.ref a1), .val (.int u), .val (.int (1 : Int32)), .unset] []) := fun t k => go11 t (st13 t k)
  have go26 : Goes p e below s₁ (entryFrame m #[(.ref a1), (.int u)] 4) T13 (mkF m 16 #[.val (.ref a1), .val (.int u), .val (.int (1 : Int32)), .unset] [(.ref a1), (.ref a1)]) := fun t k => by
    refine go25 t ?_
    refine XS.aloadN X13.here hx rfl (hb hby d11_14) rfl rfl ?_
    show Steps p.tables e below (T13.setTop (mkF m 15 #[.val (.ref a1), .val (.int u), .val (.int (1 : Int32)), .unset] [(.ref a1)])) _
    refine XS.dup X13.here hx rfl (hb hby d11_15) rfl rfl ?_
    show Steps p.tables e below (T13.setTop (mkF m 16 #[.val (.ref a1), .val (.int u), .val (.int (1 : Int32)), .unset] [(.ref a1), (.ref a1)])) _
    exact k
  obtain ⟨T27, X27, e27, st27⟩ := getF X13 hx hZ hown (host := "") (Or.inl (hw _ (List.mem_of_getElem? (i := 26) rfl))) Via.refl e13 f19 (g := (mkF m 16 #[.val (.ref a1), .val (.int u), .val (.int (1 : Int32)), .unset] [(.ref a1), (.ref a1)])) rfl rfl (hb hby d11_16)
  have go28 : Goes p e below s₁ (entryFrame m #[(.ref a1), (.int u)] 4) T27 (mkF m 19 #[.val (.ref a1), .val (.int u), .val (.int (1 : Int32)), .unset] [(.int (3 : Int32)), (.ref a1)]) := fun t k => go26 t (st27 t k)
  have go29 : Goes p e below s₁ (entryFrame m #[(.ref a1), (.int u)] 4) T27 (mkF m 21 #[.val (.ref a1), .val (.int u), .val (.int (1 : Int32)), .unset] [(.int (2 : Int32)), (.ref a1)]) := fun t k => by
    refine go28 t ?_
    refine XS.iconst X27.here hx rfl (hb hby d11_19) ?_
    show Steps p.tables e below (T27.setTop (mkF m 20 #[.val (.ref a1), .val (.int u), .val (.int (1 : Int32)), .unset] [(.int (1 : Int32)), (.int (3 : Int32)), (.ref a1)])) _
    refine XS.isub X27.here hx rfl (hb hby d11_20) rfl ?_
    show Steps p.tables e below (T27.setTop (mkF m 21 #[.val (.ref a1), .val (.int u), .val (.int (1 : Int32)), .unset] [(.int (2 : Int32)), (.ref a1)])) _
    exact k
  obtain ⟨T30, h30, X30, e30, W30, st30⟩ := putF X27 hx hZ hown (host := "") (Or.inl (hw _ (List.mem_of_getElem? (i := 26) rfl))) Via.refl e27 f19 f15 (Or.inl (hw _ (List.mem_of_getElem? (i := 27) rfl))) (hw _ (List.mem_of_getElem? (i := 1) rfl)) (ty := .int) (by decide) rfl rfl (g := (mkF m 21 #[.val (.ref a1), .val (.int u), .val (.int (1 : Int32)), .unset] [(.int (2 : Int32)), (.ref a1)])) rfl rfl (hb hby d11_21)
  have f31 := f19.same W30
  have f32 := f15.wr W30
  have f33 := f16.other W30 (Or.inr (slot_ne (Or.inr (hw _ (List.mem_of_getElem? (i := 11) rfl))) (Or.inl (hw _ (List.mem_of_getElem? (i := 27) rfl))) (by decide) (t := (.array .double)) (t' := .int) (by decide) (by decide)))
  have f34 := f17.other W30 (Or.inr (slot_ne (Or.inr (hw _ (List.mem_of_getElem? (i := 14) rfl))) (Or.inl (hw _ (List.mem_of_getElem? (i := 27) rfl))) (by decide) (t := (.array .int)) (t' := .int) (by decide) (by decide)))
  have f35 := f18.other W30 (Or.inr (slot_ne (Or.inr (hw _ (List.mem_of_getElem? (i := 16) rfl))) (Or.inl (hw _ (List.mem_of_getElem? (i := 27) rfl))) (by decide) (t := (.array .int)) (t' := .int) (by decide) (by decide)))
  have f36 := f20.other W30 (Ne.symm nAK)
  have f37 := f21.other W30 (Ne.symm nAI)
  have f38 := V14.other W30 (Ne.symm nAP)
  have Z39 := Nat.le_trans Z22 (Nat.le_of_eq W30.size.symm)
  have K40 := K23.wr W30 (Or.inl (List.mem_of_getElem? (i := 0) rfl))
  have N41 := Fr.snoc X30 N24 gA
  have go42 : Goes p e below s₁ (entryFrame m #[(.ref a1), (.int u)] 4) T30 (mkF m 24 #[.val (.ref a1), .val (.int u), .val (.int (1 : Int32)), .unset] []) := fun t k => go29 t (st30 t k)
  have go43 : Goes p e below s₁ (entryFrame m #[(.ref a1), (.int u)] 4) T30 (mkF m 26 #[.val (.ref a1), .val (.int u), .val (.int (1 : Int32)), .unset] [(.ref a1), (.int (1 : Int32))]) := fun t k => by
    refine go42 t ?_
    refine XS.iloadN X30.here hx rfl (hb hby d11_24) rfl ?_
    show Steps p.tables e below (T30.setTop (mkF m 25 #[.val (.ref a1), .val (.int u), .val (.int (1 : Int32)), .unset] [(.int (1 : Int32))])) _
    refine XS.aloadN X30.here hx rfl (hb hby d11_25) rfl rfl ?_
    show Steps p.tables e below (T30.setTop (mkF m 26 #[.val (.ref a1), .val (.int u), .val (.int (1 : Int32)), .unset] [(.ref a1), (.int (1 : Int32))])) _
    exact k
  obtain ⟨T44, X44, e44, st44⟩ := getF X30 hx hZ hown (host := "") (Or.inl (hw _ (List.mem_of_getElem? (i := 26) rfl))) Via.refl e30 f31 (g := (mkF m 26 #[.val (.ref a1), .val (.int u), .val (.int (1 : Int32)), .unset] [(.ref a1), (.int (1 : Int32))])) rfl rfl (hb hby d11_26)
  have go45 : Goes p e below s₁ (entryFrame m #[(.ref a1), (.int u)] 4) T44 (mkF m 29 #[.val (.ref a1), .val (.int u), .val (.int (1 : Int32)), .unset] [(.int (2 : Int32)), (.int (1 : Int32))]) := fun t k => go43 t (st44 t k)
  have go46 : Goes p e below s₁ (entryFrame m #[(.ref a1), (.int u)] 4) T44 (mkF m 33 #[.val (.ref a1), .val (.int u), .val (.int (1 : Int32)), .unset] [(.ref a1)]) := fun t k => by
    refine go45 t ?_
    refine XS.icmpNo X44.here hx rfl (hb hby d11_29) rfl (Jvm.Free.XT.ii_ge_f (by decide)) ?_
    show Steps p.tables e below (T44.setTop (mkF m 32 #[.val (.ref a1), .val (.int u), .val (.int (1 : Int32)), .unset] [])) _
    refine XS.aloadN X44.here hx rfl (hb hby d11_32) rfl rfl ?_
    show Steps p.tables e below (T44.setTop (mkF m 33 #[.val (.ref a1), .val (.int u), .val (.int (1 : Int32)), .unset] [(.ref a1)])) _
    exact k
  obtain ⟨T47, X47, e47, st47⟩ := getF X44 hx hZ hown (host := "") (Or.inl (hw _ (List.mem_of_getElem? (i := 13) rfl))) Via.refl e44 f34 (g := (mkF m 33 #[.val (.ref a1), .val (.int u), .val (.int (1 : Int32)), .unset] [(.ref a1)])) rfl rfl (hb hby d11_33)
  have go48 : Goes p e below s₁ (entryFrame m #[(.ref a1), (.int u)] 4) T47 (mkF m 36 #[.val (.ref a1), .val (.int u), .val (.int (1 : Int32)), .unset] [(.ref aI)]) := fun t k => go46 t (st47 t k)
  have go49 : Goes p e below s₁ (entryFrame m #[(.ref a1), (.int u)] 4) T47 (mkF m 37 #[.val (.ref a1), .val (.int u), .val (.int (1 : Int32)), .unset] [(.ref a1), (.ref aI)]) := fun t k => by
    refine go48 t ?_
    refine XS.aloadN X47.here hx rfl (hb hby d11_36) rfl rfl ?_
    show Steps p.tables e below (T47.setTop (mkF m 37 #[.val (.ref a1), .val (.int u), .val (.int (1 : Int32)), .unset] [(.ref a1), (.ref aI)])) _
    exact k
  obtain ⟨T50, X50, e50, st50⟩ := getF X47 hx hZ hown (host := "") (Or.inl (hw _ (List.mem_of_getElem? (i := 26) rfl))) Via.refl e47 f31 (g := (mkF m 37 #[.val (.ref a1), .val (.int u), .val (.int (1 : Int32)), .unset] [(.ref a1), (.ref aI)])) rfl rfl (hb hby d11_37)
  have go51 : Goes p e below s₁ (entryFrame m #[(.ref a1), (.int u)] 4) T50 (mkF m 40 #[.val (.ref a1), .val (.int u), .val (.int (1 : Int32)), .unset] [(.int (2 : Int32)), (.ref aI)]) := fun t k => go49 t (st50 t k)
  obtain ⟨cl52, Ar52, kq52, Sz52, Nn52, Hs52, Gf52⟩ := id (f37)
  have hin52 : ¬ ((2 : Int32) < 0 ∨ cl52.slots.size ≤ ((2 : Int32)).toNatClampNeg) := inb_of Sz52 (own_inb own_R2)
  have hat52 : cl52.slots[((2 : Int32)).toNatClampNeg]? = some (.int (σ.1 (2 : Int32))) := Has.at Hs52 hin52 (own_l_at own_R2)
  have go53 : Goes p e below s₁ (entryFrame m #[(.ref a1), (.int u)] 4) T50 (mkF m 43 #[.val (.ref a1), .val (.int u), .val (.int (1 : Int32)), .val (.int (σ.1 (2 : Int32)))] [(.ref a1)]) := fun t k => by
    refine go51 t ?_
    refine X50.iaload hx (j := (2 : Int32)) (v := (.int (σ.1 (2 : Int32)))) (own_hp e50 Ar52.1) (State.isArrayOf_alike hZ.alike Ar52.2.1) Ar52.2.2 hin52 hat52 (g := (mkF m 40 #[.val (.ref a1), .val (.int u), .val (.int (1 : Int32)), .unset] [(.int (2 : Int32)), (.ref aI)])) rfl rfl (hb hby d11_40) _ ?_
    show Steps p.tables e below (T50.setTop (mkF m 41 #[.val (.ref a1), .val (.int u), .val (.int (1 : Int32)), .unset] [(.int (σ.1 (2 : Int32)))])) _
    refine XS.istoreN X50.here hx rfl (hb hby d11_41) rfl (l' := #[.val (.ref a1), .val (.int u), .val (.int (1 : Int32)), .val (.int (σ.1 (2 : Int32)))]) rfl ?_
    show Steps p.tables e below (T50.setTop (mkF m 42 #[.val (.ref a1), .val (.int u), .val (.int (1 : Int32)), .val (.int (σ.1 (2 : Int32)))] [])) _
    refine XS.aloadN X50.here hx rfl (hb hby d11_42) rfl rfl ?_
    show Steps p.tables e below (T50.setTop (mkF m 43 #[.val (.ref a1), .val (.int u), .val (.int (1 : Int32)), .val (.int (σ.1 (2 : Int32)))] [(.ref a1)])) _
    exact k
  obtain ⟨T54, X54, e54, st54⟩ := getF X50 hx hZ hown (host := "") (Or.inl (hw _ (List.mem_of_getElem? (i := 13) rfl))) Via.refl e50 f34 (g := (mkF m 43 #[.val (.ref a1), .val (.int u), .val (.int (1 : Int32)), .val (.int (σ.1 (2 : Int32)))] [(.ref a1)])) rfl rfl (hb hby d11_43)
  have go55 : Goes p e below s₁ (entryFrame m #[(.ref a1), (.int u)] 4) T54 (mkF m 46 #[.val (.ref a1), .val (.int u), .val (.int (1 : Int32)), .val (.int (σ.1 (2 : Int32)))] [(.ref aI)]) := fun t k => go53 t (st54 t k)
  have go56 : Goes p e below s₁ (entryFrame m #[(.ref a1), (.int u)] 4) T54 (mkF m 48 #[.val (.ref a1), .val (.int u), .val (.int (1 : Int32)), .val (.int (σ.1 (2 : Int32)))] [(.int (σ.1 (2 : Int32))), (.int (1 : Int32)), (.ref aI)]) := fun t k => by
    refine go55 t ?_
    refine XS.iloadN X54.here hx rfl (hb hby d11_46) rfl ?_
    show Steps p.tables e below (T54.setTop (mkF m 47 #[.val (.ref a1), .val (.int u), .val (.int (1 : Int32)), .val (.int (σ.1 (2 : Int32)))] [(.int (1 : Int32)), (.ref aI)])) _
    refine XS.iloadN X54.here hx rfl (hb hby d11_47) rfl ?_
    show Steps p.tables e below (T54.setTop (mkF m 48 #[.val (.ref a1), .val (.int u), .val (.int (1 : Int32)), .val (.int (σ.1 (2 : Int32)))] [(.int (σ.1 (2 : Int32))), (.int (1 : Int32)), (.ref aI)])) _
    exact k
  obtain ⟨cl57, Ar57, kq57, Sz57, Nn57, Hs57, Gf57⟩ := id (f37)
  have hin57 : ¬ ((1 : Int32) < 0 ∨ cl57.slots.size ≤ ((1 : Int32)).toNatClampNeg) := inb_of Sz57 (own_inb own_R1)
  obtain ⟨T58, h58, X58, e58, W58, st58⟩ := stI X54 hx hZ e54 Ar57 (j := (1 : Int32)) hin57 (g := (mkF m 48 #[.val (.ref a1), .val (.int u), .val (.int (1 : Int32)), .val (.int (σ.1 (2 : Int32)))] [(.int (σ.1 (2 : Int32))), (.int (1 : Int32)), (.ref aI)])) rfl rfl (hb hby d11_48)
  have V59 : Arv Z h58 aI ki .int 3 (own_l (own_u σ.1 (1 : Int32) (σ.1 (2 : Int32)))) (.int (0 : Int32)) := by rw [← own_l_set own_R1]; exact Arv.set Ar57 kq57 Sz57 Nn57 Hs57 Gf57 rfl W58 _ rfl (own_l_len own_R1)
  have f60 := f32.wr W58
  have f61 := f33.other W58 (Or.inl nAI)
  have f62 := f34.other W58 (Or.inl nAI)
  have f63 := f35.other W58 (Or.inl nAI)
  have f64 := f36.other W58 nKI
  have f65 := f38.other W58 (Ne.symm nIP)
  have f66 := f31.other W58 (Or.inl nAI)
  have Z67 := Nat.le_trans Z39 (Nat.le_of_eq W58.size.symm)
  have K68 := K40.wr W58 (Or.inl (List.mem_of_getElem? (i := 2) rfl))
  have N69 := Fr.snoc X58 N41 gI
  have go70 : Goes p e below s₁ (entryFrame m #[(.ref a1), (.int u)] 4) T58 (mkF m 49 #[.val (.ref a1), .val (.int u), .val (.int (1 : Int32)), .val (.int (σ.1 (2 : Int32)))] []) := fun t k => go56 t (st58 t k)
  have go71 : Goes p e below s₁ (entryFrame m #[(.ref a1), (.int u)] 4) T58 (mkF m 50 #[.val (.ref a1), .val (.int u), .val (.int (1 : Int32)), .val (.int (σ.1 (2 : Int32)))] [(.ref a1)]) := fun t k => by
    refine go70 t ?_
    refine XS.aloadN X58.here hx rfl (hb hby d11_49) rfl rfl ?_
    show Steps p.tables e below (T58.setTop (mkF m 50 #[.val (.ref a1), .val (.int u), .val (.int (1 : Int32)), .val (.int (σ.1 (2 : Int32)))] [(.ref a1)])) _
    exact k
  obtain ⟨T72, X72, e72, st72⟩ := getF X58 hx hZ hown (host := "") (Or.inl (hw _ (List.mem_of_getElem? (i := 15) rfl))) Via.refl e58 f63 (g := (mkF m 50 #[.val (.ref a1), .val (.int u), .val (.int (1 : Int32)), .val (.int (σ.1 (2 : Int32)))] [(.ref a1)])) rfl rfl (hb hby d11_50)
  have go73 : Goes p e below s₁ (entryFrame m #[(.ref a1), (.int u)] 4) T72 (mkF m 53 #[.val (.ref a1), .val (.int u), .val (.int (1 : Int32)), .val (.int (σ.1 (2 : Int32)))] [(.ref aP)]) := fun t k => go71 t (st72 t k)
  have go74 : Goes p e below s₁ (entryFrame m #[(.ref a1), (.int u)] 4) T72 (mkF m 55 #[.val (.ref a1), .val (.int u), .val (.int (1 : Int32)), .val (.int (σ.1 (2 : Int32)))] [(.int (1 : Int32)), (.int (σ.1 (2 : Int32))), (.ref aP)]) := fun t k => by
    refine go73 t ?_
    refine XS.iloadN X72.here hx rfl (hb hby d11_53) rfl ?_
    show Steps p.tables e below (T72.setTop (mkF m 54 #[.val (.ref a1), .val (.int u), .val (.int (1 : Int32)), .val (.int (σ.1 (2 : Int32)))] [(.int (σ.1 (2 : Int32))), (.ref aP)])) _
    refine XS.iloadN X72.here hx rfl (hb hby d11_54) rfl ?_
    show Steps p.tables e below (T72.setTop (mkF m 55 #[.val (.ref a1), .val (.int u), .val (.int (1 : Int32)), .val (.int (σ.1 (2 : Int32)))] [(.int (1 : Int32)), (.int (σ.1 (2 : Int32))), (.ref aP)])) _
    exact k
  obtain ⟨cl75, Ar75, kq75, Sz75, Nn75, Hs75, Gf75⟩ := id (f65)
  have hin75 : ¬ ((σ.1 (2 : Int32)) < 0 ∨ cl75.slots.size ≤ ((σ.1 (2 : Int32))).toNatClampNeg) := inb_of Sz75 (own_inb R2)
  obtain ⟨T76, h76, X76, e76, W76, st76⟩ := stI X72 hx hZ e72 Ar75 (j := (σ.1 (2 : Int32))) hin75 (g := (mkF m 55 #[.val (.ref a1), .val (.int u), .val (.int (1 : Int32)), .val (.int (σ.1 (2 : Int32)))] [(.int (1 : Int32)), (.int (σ.1 (2 : Int32))), (.ref aP)])) rfl rfl (hb hby d11_55)
  have V77 : Arv Z h76 aP kp .int 3 (own_l (own_u (own_u σ.2 u (-1 : Int32)) (σ.1 (2 : Int32)) (1 : Int32))) (.int (0 : Int32)) := by rw [← own_l_set R2]; exact Arv.set Ar75 kq75 Sz75 Nn75 Hs75 Gf75 rfl W76 _ rfl (own_l_len R2)
  have f78 := f60.wr W76
  have f79 := f61.other W76 (Or.inl nAP)
  have f80 := f62.other W76 (Or.inl nAP)
  have f81 := f63.other W76 (Or.inl nAP)
  have f82 := f64.other W76 nKP
  have f83 := f66.other W76 (Or.inl nAP)
  have f84 := V59.other W76 nIP
  have Z85 := Nat.le_trans Z67 (Nat.le_of_eq W76.size.symm)
  have K86 := K68.wr W76 (Or.inl (List.mem_of_getElem? (i := 3) rfl))
  have N87 := Fr.snoc X76 N69 gP
  have go88 : Goes p e below s₁ (entryFrame m #[(.ref a1), (.int u)] 4) T76 (mkF m 56 #[.val (.ref a1), .val (.int u), .val (.int (1 : Int32)), .val (.int (σ.1 (2 : Int32)))] []) := fun t k => go74 t (st76 t k)
  have go89 : Goes p e below s₁ (entryFrame m #[(.ref a1), (.int u)] 4) T76 (mkF m 58 #[.val (.ref a1), .val (.int u), .val (.int (1 : Int32)), .val (.int (σ.1 (2 : Int32)))] [(.int (1 : Int32)), (.ref a1)]) := fun t k => by
    refine go88 t ?_
    refine XS.aloadN X76.here hx rfl (hb hby d11_56) rfl rfl ?_
    show Steps p.tables e below (T76.setTop (mkF m 57 #[.val (.ref a1), .val (.int u), .val (.int (1 : Int32)), .val (.int (σ.1 (2 : Int32)))] [(.ref a1)])) _
    refine XS.iloadN X76.here hx rfl (hb hby d11_57) rfl ?_
    show Steps p.tables e below (T76.setTop (mkF m 58 #[.val (.ref a1), .val (.int u), .val (.int (1 : Int32)), .val (.int (σ.1 (2 : Int32)))] [(.int (1 : Int32)), (.ref a1)])) _
    exact k
  obtain ⟨cq90, q90a, q90b⟩ := f78.cell
  obtain ⟨_, _, ⟨T90, L90, k90, n90⟩, -, X90, ⟨Lc90, hQ90, l90, y90, z90⟩, st90⟩ := X76.privateBack hx (y := (⟨"com/example/covermesh/covermesh/algorithms/IndexedMinHeap", "siftUp", "(I)V"⟩ : MethodName)) hown (mvT hZ (hw _ (List.mem_of_getElem? (i := 37) rfl))) (mvT hZ (hw _ (List.mem_of_getElem? (i := 38) rfl))) (own_selp (y := (⟨"com/example/covermesh/covermesh/algorithms/IndexedMinHeap", "siftUp", "(I)V"⟩ : MethodName)) (by decide) (mvT hZ (hw _ (List.mem_of_getElem? (i := 1) rfl))) (mvP hZ (hw _ (List.mem_of_getElem? (i := 39) rfl))) (mvT hZ (hw _ (List.mem_of_getElem? (i := 38) rfl)))) (Cond.privateMethod_at (mvP hZ (hw _ (List.mem_of_getElem? (i := 39) rfl)) (args := #[]))) (mvT hZ (hw _ (List.mem_of_getElem? (i := 40) rfl))) (by decide) (backOf (W := 0) (rmU1 l Z a0 hw [] a1 aK aI aP kk ki kp kf ((own_u σ.1 (1 : Int32) (σ.1 (2 : Int32))), (own_u (own_u σ.2 u (-1 : Int32)) (σ.1 (2 : Int32)) (1 : Int32))) (2 : Int32) h76 n0 Z85 f78 f79 f80 f81 f83 f82 f84 V77 nKI nKP nIP nAK nAI nAP gA gK gI gP (show own_R (own_u σ.1 (1 : Int32) (σ.1 (2 : Int32)) (1 : Int32)) from own_u_R R2 (fun h => absurd rfl h)) (show own_R (own_u σ.1 (1 : Int32) (σ.1 (2 : Int32)) (0 : Int32)) from own_u_R R2 (fun _ => R0))) hZ (hw _ (List.mem_of_getElem? (i := 40) rfl)) (hw _ (List.mem_of_getElem? (i := 2) rfl)) (by decide) (by decide)) (g := (mkF m 58 #[.val (.ref a1), .val (.int u), .val (.int (1 : Int32)), .val (.int (σ.1 (2 : Int32)))] [(.int (1 : Int32)), (.ref a1)])) rfl (by rw [hml]; rfl) (Steps.refl _) (a := a1) (by rw [e76]; exact q90a) q90b (argsL := [(.int (1 : Int32))]) (rest := []) (lenOf pd_2 rfl) rfl (by show 2 * 0 + _ ≤ _; exact Nat.le_of_eq rfl) (hb hby d11_58) (fun _ _ => ⟨rfl, e76, (by decide : 0 + 0 ≤ ({ frames := 2, cells := 0, slots := 0, locals := 29 } : Room).cells), (by decide : 0 + 0 ≤ ({ frames := 2, cells := 0, slots := 0, locals := 29 } : Room).slots)⟩)
  dsimp only [Pt.U, Pt.locs, Pt.cells, Pt.slots] at X90 l90 y90 z90 st90 hQ90
  subst l90 y90 z90
  obtain ⟨rfl, N90q, Kq90, VIq90, VPq90⟩ := hQ90
  have N90 := Fr.app N87 N90q
  have f91 := f78.keep Kq90
  have f92 := f79.keep Kq90 (ninS nAI (ninS nAP nin0))
  have f93 := f80.keep Kq90 (ninS nAI (ninS nAP nin0))
  have f94 := f81.keep Kq90 (ninS nAI (ninS nAP nin0))
  have f95 := f82.keep Kq90 (ninS nKI (ninS nKP nin0))
  have f96 := f83.keep Kq90 (ninS nAI (ninS nAP nin0))
  have Z97 := Nat.le_trans Z85 Kq90.1
  have K98 := K86.trans Kq90 (allS (Or.inl (List.mem_of_getElem? (i := 2) rfl)) (allS (Or.inl (List.mem_of_getElem? (i := 3) rfl)) all0))
  obtain ⟨τ90, hτ90⟩ : ∃ z, z = own_up kf ((own_u σ.1 (1 : Int32) (σ.1 (2 : Int32))), (own_u (own_u σ.2 u (-1 : Int32)) (σ.1 (2 : Int32)) (1 : Int32))) (1 : Int32) := ⟨_, rfl⟩
  rw [← hτ90] at VIq90 VPq90
  have go99 : Goes p e below s₁ (entryFrame m #[(.ref a1), (.int u)] 4) T90 (mkF m 61 #[.val (.ref a1), .val (.int u), .val (.int (1 : Int32)), .val (.int (σ.1 (2 : Int32)))] []) := fun t k => go89 t (st90.trans k)
  have go100 : Goes p e below s₁ (entryFrame m #[(.ref a1), (.int u)] 4) T90 (mkF m 63 #[.val (.ref a1), .val (.int u), .val (.int (1 : Int32)), .val (.int (σ.1 (2 : Int32)))] [(.ref a1), (.ref a1)]) := fun t k => by
    refine go99 t ?_
    refine XS.aloadN X90.here hx rfl (hb hby d11_61) rfl rfl ?_
    show Steps p.tables e below (T90.setTop (mkF m 62 #[.val (.ref a1), .val (.int u), .val (.int (1 : Int32)), .val (.int (σ.1 (2 : Int32)))] [(.ref a1)])) _
    refine XS.aloadN X90.here hx rfl (hb hby d11_62) rfl rfl ?_
    show Steps p.tables e below (T90.setTop (mkF m 63 #[.val (.ref a1), .val (.int u), .val (.int (1 : Int32)), .val (.int (σ.1 (2 : Int32)))] [(.ref a1), (.ref a1)])) _
    exact k
  obtain ⟨T101, X101, e101, st101⟩ := getF X90 hx hZ hown (host := "") (Or.inl (hw _ (List.mem_of_getElem? (i := 15) rfl))) Via.refl rfl f94 (g := (mkF m 63 #[.val (.ref a1), .val (.int u), .val (.int (1 : Int32)), .val (.int (σ.1 (2 : Int32)))] [(.ref a1), (.ref a1)])) rfl rfl (hb hby d11_63)
  have go102 : Goes p e below s₁ (entryFrame m #[(.ref a1), (.int u)] 4) T101 (mkF m 66 #[.val (.ref a1), .val (.int u), .val (.int (1 : Int32)), .val (.int (σ.1 (2 : Int32)))] [(.ref aP), (.ref a1)]) := fun t k => go100 t (st101 t k)
  have go103 : Goes p e below s₁ (entryFrame m #[(.ref a1), (.int u)] 4) T101 (mkF m 67 #[.val (.ref a1), .val (.int u), .val (.int (1 : Int32)), .val (.int (σ.1 (2 : Int32)))] [(.int (σ.1 (2 : Int32))), (.ref aP), (.ref a1)]) := fun t k => by
    refine go102 t ?_
    refine XS.iloadN X101.here hx rfl (hb hby d11_66) rfl ?_
    show Steps p.tables e below (T101.setTop (mkF m 67 #[.val (.ref a1), .val (.int u), .val (.int (1 : Int32)), .val (.int (σ.1 (2 : Int32)))] [(.int (σ.1 (2 : Int32))), (.ref aP), (.ref a1)])) _
    exact k
  obtain ⟨cl104, Ar104, kq104, Sz104, Nn104, Hs104, Gf104⟩ := id (VPq90)
  have hin104 : ¬ ((σ.1 (2 : Int32)) < 0 ∨ cl104.slots.size ≤ ((σ.1 (2 : Int32))).toNatClampNeg) := inb_of Sz104 (own_inb R2)
  have hat104 : cl104.slots[((σ.1 (2 : Int32))).toNatClampNeg]? = some (.int (τ90.2 (σ.1 (2 : Int32)))) := Has.at Hs104 hin104 (own_l_at R2)
  have go105 : Goes p e below s₁ (entryFrame m #[(.ref a1), (.int u)] 4) T101 (mkF m 68 #[.val (.ref a1), .val (.int u), .val (.int (1 : Int32)), .val (.int (σ.1 (2 : Int32)))] [(.int (τ90.2 (σ.1 (2 : Int32)))), (.ref a1)]) := fun t k => by
    refine go103 t ?_
    refine X101.iaload hx (j := (σ.1 (2 : Int32))) (v := (.int (τ90.2 (σ.1 (2 : Int32))))) (own_hp e101 Ar104.1) (State.isArrayOf_alike hZ.alike Ar104.2.1) Ar104.2.2 hin104 hat104 (g := (mkF m 67 #[.val (.ref a1), .val (.int u), .val (.int (1 : Int32)), .val (.int (σ.1 (2 : Int32)))] [(.int (σ.1 (2 : Int32))), (.ref aP), (.ref a1)])) rfl rfl (hb hby d11_67) _ ?_
    show Steps p.tables e below (T101.setTop (mkF m 68 #[.val (.ref a1), .val (.int u), .val (.int (1 : Int32)), .val (.int (σ.1 (2 : Int32)))] [(.int (τ90.2 (σ.1 (2 : Int32)))), (.ref a1)])) _
    exact k
  have hpos : τ90.2 (σ.1 (2 : Int32)) = (1 : Int32) ∨ τ90.2 (σ.1 (2 : Int32)) = 0 := by rw [hτ90]; exact own_up_pos (show own_u σ.1 (1 : Int32) (σ.1 (2 : Int32)) (1 : Int32) = (σ.1 (2 : Int32)) from own_us)
  have hR0 : ∀ j : Int32, j < (2 : Int32) ∧ ¬ j < 0 → own_R (own_u σ.1 (1 : Int32) (σ.1 (2 : Int32)) j) := by
    intro j hj
    refine own_u_R R2 (fun _ => ?_)
    have h6 : j.toInt = 0 ∨ j.toInt = 1 := by
      have h1 := hj.1; have h2 := hj.2; rw [Int32.lt_iff_toInt_lt] at h1 h2
      have h3 : ((2 : Int32)).toInt = 2 := rfl
      have h4 : (0 : Int32).toInt = 0 := rfl
      omega
    rcases h6 with h6 | h6
    · rw [own_of_toInt h6]; exact R0
    · rw [own_of_toInt h6]; exact R1
  have hR106 : ∀ j : Int32, j < (2 : Int32) ∧ ¬ j < 0 → own_R (τ90.1 j) := fun j hj => by rw [hτ90]; exact own_up_R (hR0 (1 : Int32) (by decide)) (hR0 (0 : Int32) (by decide)) (hR0 j hj)
  rcases hpos with hp | hp
  · have go107 : Goes p e below s₁ (entryFrame m #[(.ref a1), (.int u)] 4) T101 (mkF m 68 #[.val (.ref a1), .val (.int u), .val (.int (1 : Int32)), .val (.int (σ.1 (2 : Int32)))] [(.int (1 : Int32)), (.ref a1)]) := Eq.mp (congrArg (fun zz => Goes p e below s₁ (entryFrame m #[(.ref a1), (.int u)] 4) T101 (mkF m 68 #[.val (.ref a1), .val (.int u), .val (.int (1 : Int32)), .val (.int (σ.1 (2 : Int32)))] [(.int zz), (.ref a1)])) hp) go105
    obtain ⟨cq108, q108a, q108b⟩ := f91.cell
    obtain ⟨_, _, ⟨T108, L108, k108, n108⟩, -, X108, ⟨Lc108, hQ108, l108, y108, z108⟩, st108⟩ := X101.privateBack hx (y := (⟨"com/example/covermesh/covermesh/algorithms/IndexedMinHeap", "siftDown", "(I)V"⟩ : MethodName)) hown (mvT hZ (hw _ (List.mem_of_getElem? (i := 45) rfl))) (mvT hZ (hw _ (List.mem_of_getElem? (i := 46) rfl))) (own_selp (y := (⟨"com/example/covermesh/covermesh/algorithms/IndexedMinHeap", "siftDown", "(I)V"⟩ : MethodName)) (by decide) (mvT hZ (hw _ (List.mem_of_getElem? (i := 1) rfl))) (mvP hZ (hw _ (List.mem_of_getElem? (i := 47) rfl))) (mvT hZ (hw _ (List.mem_of_getElem? (i := 46) rfl)))) (Cond.privateMethod_at (mvP hZ (hw _ (List.mem_of_getElem? (i := 47) rfl)) (args := #[]))) (mvT hZ (hw _ (List.mem_of_getElem? (i := 48) rfl))) (by decide) (backOf (W := 0) (rmD12 l Z a0 hw [] a1 aK aI aP kk ki kp kf τ90 T90.heap n0 Z97 f91 f92 f93 f94 f96 f95 VIq90 VPq90 nKI nKP nIP nAK nAI nAP gA gK gI gP (hR106 (1 : Int32) (by decide))) hZ (hw _ (List.mem_of_getElem? (i := 48) rfl)) (hw _ (List.mem_of_getElem? (i := 2) rfl)) (by decide) (by decide)) (g := (mkF m 68 #[.val (.ref a1), .val (.int u), .val (.int (1 : Int32)), .val (.int (σ.1 (2 : Int32)))] [(.int (1 : Int32)), (.ref a1)])) rfl (by rw [hml]; rfl) (Steps.refl _) (a := a1) (by rw [e101]; exact q108a) q108b (argsL := [(.int (1 : Int32))]) (rest := []) (lenOf pd_2 rfl) rfl (by show 2 * 0 + _ ≤ _; exact Nat.le_of_eq rfl) (hb hby d11_68) (fun _ _ => ⟨rfl, e101, (by decide : 0 + 0 ≤ ({ frames := 2, cells := 0, slots := 0, locals := 29 } : Room).cells), (by decide : 0 + 0 ≤ ({ frames := 2, cells := 0, slots := 0, locals := 29 } : Room).slots)⟩)
    dsimp only [Pt.U, Pt.locs, Pt.cells, Pt.slots] at X108 l108 y108 z108 st108 hQ108
    subst l108 y108 z108
    obtain ⟨rfl, N108q, Kq108, VIq108, VPq108⟩ := hQ108
    have N108 := Fr.app N90 N108q
    have f109 := f91.keep Kq108
    have f110 := f92.keep Kq108 (ninS nAI (ninS nAP nin0))
    have f111 := f93.keep Kq108 (ninS nAI (ninS nAP nin0))
    have f112 := f94.keep Kq108 (ninS nAI (ninS nAP nin0))
    have f113 := f95.keep Kq108 (ninS nKI (ninS nKP nin0))
    have f114 := f96.keep Kq108 (ninS nAI (ninS nAP nin0))
    have Z115 := Nat.le_trans Z97 Kq108.1
    have K116 := K98.trans Kq108 (allS (Or.inl (List.mem_of_getElem? (i := 2) rfl)) (allS (Or.inl (List.mem_of_getElem? (i := 3) rfl)) all0))
    have go117 : Goes p e below s₁ (entryFrame m #[(.ref a1), (.int u)] 4) T108 (mkF m 71 #[.val (.ref a1), .val (.int u), .val (.int (1 : Int32)), .val (.int (σ.1 (2 : Int32)))] []) := fun t k => go107 t (st108.trans k)
    obtain ⟨fs, hr, hrun, hended, hW, hsame⟩ := X108.leave (v := none) (fun _ => rfl)
    have hrm : own_rmv kf σ u (1 : Int32) (3 : Int32) = own_dn kf τ90 (1 : Int32) (2 : Int32) := by
      refine (if_neg (by decide)).trans ?_
      show own_dn kf (own_up kf (own_u σ.1 (1 : Int32) (σ.1 (2 : Int32)), own_u (own_u σ.2 u (-1 : Int32)) (σ.1 (2 : Int32)) (1 : Int32)) (own_u (own_u σ.2 u (-1 : Int32)) (σ.1 (2 : Int32)) (1 : Int32) (σ.1 (2 : Int32)))) ((own_up kf (own_u σ.1 (1 : Int32) (σ.1 (2 : Int32)), own_u (own_u σ.2 u (-1 : Int32)) (σ.1 (2 : Int32)) (1 : Int32)) (own_u (own_u σ.2 u (-1 : Int32)) (σ.1 (2 : Int32)) (1 : Int32) (σ.1 (2 : Int32)))).2 (σ.1 (2 : Int32))) (2 : Int32) = _
      rw [own_us, ← hτ90, hp]
    refine ⟨_, _, go117 _ ?_, hrun, hended, _, _, rfl, ?_, ⟨_, rfl⟩, hW, hsame.mono (by decide) (by decide)⟩
    · exact X108.returnOut hx Bd.returns (hb hby d11_71) hr
    · show QRm13 Z _ _ _ _ _ _ _ _ _ _ _ _ _ T108.heap _
      exact ⟨rfl, N108, K116, f109, f110, f111, f112, f114, f113, by rw [hrm]; exact VIq108, by rw [hrm]; exact VPq108⟩
  · have go118 : Goes p e below s₁ (entryFrame m #[(.ref a1), (.int u)] 4) T101 (mkF m 68 #[.val (.ref a1), .val (.int u), .val (.int (1 : Int32)), .val (.int (σ.1 (2 : Int32)))] [(.int (0 : Int32)), (.ref a1)]) := Eq.mp (congrArg (fun zz => Goes p e below s₁ (entryFrame m #[(.ref a1), (.int u)] 4) T101 (mkF m 68 #[.val (.ref a1), .val (.int u), .val (.int (1 : Int32)), .val (.int (σ.1 (2 : Int32)))] [(.int zz), (.ref a1)])) hp) go105
    obtain ⟨cq119, q119a, q119b⟩ := f91.cell
    obtain ⟨_, _, ⟨T119, L119, k119, n119⟩, -, X119, ⟨Lc119, hQ119, l119, y119, z119⟩, st119⟩ := X101.privateBack hx (y := (⟨"com/example/covermesh/covermesh/algorithms/IndexedMinHeap", "siftDown", "(I)V"⟩ : MethodName)) hown (mvT hZ (hw _ (List.mem_of_getElem? (i := 45) rfl))) (mvT hZ (hw _ (List.mem_of_getElem? (i := 46) rfl))) (own_selp (y := (⟨"com/example/covermesh/covermesh/algorithms/IndexedMinHeap", "siftDown", "(I)V"⟩ : MethodName)) (by decide) (mvT hZ (hw _ (List.mem_of_getElem? (i := 1) rfl))) (mvP hZ (hw _ (List.mem_of_getElem? (i := 47) rfl))) (mvT hZ (hw _ (List.mem_of_getElem? (i := 46) rfl)))) (Cond.privateMethod_at (mvP hZ (hw _ (List.mem_of_getElem? (i := 47) rfl)) (args := #[]))) (mvT hZ (hw _ (List.mem_of_getElem? (i := 48) rfl))) (by decide) (backOf (W := 0) (rmD02 l Z a0 hw [] a1 aK aI aP kk ki kp kf τ90 T90.heap n0 Z97 f91 f92 f93 f94 f96 f95 VIq90 VPq90 nKI nKP nIP nAK nAI nAP gA gK gI gP (hR106 (0 : Int32) (by decide)) (hR106 (1 : Int32) (by decide))) hZ (hw _ (List.mem_of_getElem? (i := 48) rfl)) (hw _ (List.mem_of_getElem? (i := 2) rfl)) (by decide) (by decide)) (g := (mkF m 68 #[.val (.ref a1), .val (.int u), .val (.int (1 : Int32)), .val (.int (σ.1 (2 : Int32)))] [(.int (0 : Int32)), (.ref a1)])) rfl (by rw [hml]; rfl) (Steps.refl _) (a := a1) (by rw [e101]; exact q119a) q119b (argsL := [(.int (0 : Int32))]) (rest := []) (lenOf pd_2 rfl) rfl (by show 2 * 0 + _ ≤ _; exact Nat.le_of_eq rfl) (hb hby d11_68) (fun _ _ => ⟨rfl, e101, (by decide : 0 + 0 ≤ ({ frames := 2, cells := 0, slots := 0, locals := 29 } : Room).cells), (by decide : 0 + 0 ≤ ({ frames := 2, cells := 0, slots := 0, locals := 29 } : Room).slots)⟩)
    dsimp only [Pt.U, Pt.locs, Pt.cells, Pt.slots] at X119 l119 y119 z119 st119 hQ119
    subst l119 y119 z119
    obtain ⟨rfl, N119q, Kq119, VIq119, VPq119⟩ := hQ119
    have N119 := Fr.app N90 N119q
    have f120 := f91.keep Kq119
    have f121 := f92.keep Kq119 (ninS nAI (ninS nAP nin0))
    have f122 := f93.keep Kq119 (ninS nAI (ninS nAP nin0))
    have f123 := f94.keep Kq119 (ninS nAI (ninS nAP nin0))
    have f124 := f95.keep Kq119 (ninS nKI (ninS nKP nin0))
    have f125 := f96.keep Kq119 (ninS nAI (ninS nAP nin0))
    have Z126 := Nat.le_trans Z97 Kq119.1
    have K127 := K98.trans Kq119 (allS (Or.inl (List.mem_of_getElem? (i := 2) rfl)) (allS (Or.inl (List.mem_of_getElem? (i := 3) rfl)) all0))
    have go128 : Goes p e below s₁ (entryFrame m #[(.ref a1), (.int u)] 4) T119 (mkF m 71 #[.val (.ref a1), .val (.int u), .val (.int (1 : Int32)), .val (.int (σ.1 (2 : Int32)))] []) := fun t k => go118 t (st119.trans k)
    obtain ⟨fs, hr, hrun, hended, hW, hsame⟩ := X119.leave (v := none) (fun _ => rfl)
    have hrm : own_rmv kf σ u (1 : Int32) (3 : Int32) = own_dn kf τ90 (0 : Int32) (2 : Int32) := by
      refine (if_neg (by decide)).trans ?_
      show own_dn kf (own_up kf (own_u σ.1 (1 : Int32) (σ.1 (2 : Int32)), own_u (own_u σ.2 u (-1 : Int32)) (σ.1 (2 : Int32)) (1 : Int32)) (own_u (own_u σ.2 u (-1 : Int32)) (σ.1 (2 : Int32)) (1 : Int32) (σ.1 (2 : Int32)))) ((own_up kf (own_u σ.1 (1 : Int32) (σ.1 (2 : Int32)), own_u (own_u σ.2 u (-1 : Int32)) (σ.1 (2 : Int32)) (1 : Int32)) (own_u (own_u σ.2 u (-1 : Int32)) (σ.1 (2 : Int32)) (1 : Int32) (σ.1 (2 : Int32)))).2 (σ.1 (2 : Int32))) (2 : Int32) = _
      rw [own_us, ← hτ90, hp]
    refine ⟨_, _, go128 _ ?_, hrun, hended, _, _, rfl, ?_, ⟨_, rfl⟩, hW, hsame.mono (by decide) (by decide)⟩
    · exact X119.returnOut hx Bd.returns (hb hby d11_71) hr
    · show QRm13 Z _ _ _ _ _ _ _ _ _ _ _ _ _ T119.heap _
      exact ⟨rfl, N119, K127, f120, f121, f122, f123, f125, f124, by rw [hrm]; exact VIq119, by rw [hrm]; exact VPq119⟩
theorem ef_rmRm23 (m : MethodId) (a1 : Addr) (u : Int32) : entryFrame m #[(.ref a1), (.int u)] 4 = mkF m 0 #[.val (.ref a1), .val (.int u), .unset, .unset] [] := by first | (simp [entryFrame, mkF, argsToLocals, Value.category]; done) | rfl
def QRm23 (Z : State) (a1 : Addr) (u : Int32) (aK aI aP : Addr) (kk ki kp : ClassId) (kf : Int32 → UInt64) (σ : own_P) (h0 : Heap) (n0 : Nat) (v : Option Value) (h : Heap) (L : List Loc) : Prop := v = none ∧ Fr n0 L ∧ Keep h0 h [a1, aK, aI, aP] ∧ Exa Z h a1 "com/example/covermesh/covermesh/algorithms/IndexedMinHeap" ∧ Fld Z h a1 "com/example/covermesh/covermesh/algorithms/IndexedMinHeap" "keys" "[D" (.ref aK) ∧ Fld Z h a1 "com/example/covermesh/covermesh/algorithms/IndexedMinHeap" "items" "[I" (.ref aI) ∧ Fld Z h a1 "com/example/covermesh/covermesh/algorithms/IndexedMinHeap" "positions" "[I" (.ref aP) ∧ Fld Z h a1 "com/example/covermesh/covermesh/algorithms/IndexedMinHeap" "size" "I" (.int (2 : Int32)) ∧ Arv Z h aK kk .double 3 (own_d kf) (.double (0 : UInt64)) ∧ Arv Z h aI ki .int 3 (own_l (own_rmv kf σ u (2 : Int32) (3 : Int32)).1) (.int (0 : Int32)) ∧ Arv Z h aP kp .int 3 (own_l (own_rmv kf σ u (2 : Int32) (3 : Int32)).2) (.int (0 : Int32))
set_option maxRecDepth 65536 in
set_option maxHeartbeats 40000000 in
theorem rmRm23 (l : Launch) (Z : State) (a0 : Array Value) (hw : ∀ d ∈ tables_1, d.before a0 Z = true) (ws : List Jvm.Cond) (a1 : Addr) (u : Int32) (aK aI aP : Addr) (kk ki kp : ClassId) (kf : Int32 → UInt64) (σ : own_P) (h0 : Heap) (n0 : Nat) (Z0 : n0 ≤ h0.size) (E1 : Exa Z h0 a1 "com/example/covermesh/covermesh/algorithms/IndexedMinHeap") (FK : Fld Z h0 a1 "com/example/covermesh/covermesh/algorithms/IndexedMinHeap" "keys" "[D" (.ref aK)) (FI : Fld Z h0 a1 "com/example/covermesh/covermesh/algorithms/IndexedMinHeap" "items" "[I" (.ref aI)) (FP : Fld Z h0 a1 "com/example/covermesh/covermesh/algorithms/IndexedMinHeap" "positions" "[I" (.ref aP)) (FS : Fld Z h0 a1 "com/example/covermesh/covermesh/algorithms/IndexedMinHeap" "size" "I" (.int (3 : Int32))) (VK : Arv Z h0 aK kk .double 3 (own_d kf) (.double (0 : UInt64))) (VI : Arv Z h0 aI ki .int 3 (own_l σ.1) (.int (0 : Int32))) (VP : Arv Z h0 aP kp .int 3 (own_l σ.2) (.int (0 : Int32))) (nKI : aK ≠ aI) (nKP : aK ≠ aP) (nIP : aI ≠ aP) (nAK : a1 ≠ aK) (nAI : a1 ≠ aI) (nAP : a1 ≠ aP) (gA : n0 ≤ a1) (gK : n0 ≤ aK) (gI : n0 ≤ aI) (gP : n0 ≤ aP) (Ru : own_R u) (hgu : σ.2 u = (2 : Int32)) :
    MetFree l (⟨"com/example/covermesh/covermesh/algorithms/IndexedMinHeap", "remove", "(I)V"⟩ : MethodName) (head1 (Jvm.Cond.code (⟨"com/example/covermesh/covermesh/algorithms/IndexedMinHeap", "remove", "(I)V"⟩ : MethodName) prog_17_method_6_code 4 none :: ws) ({ frames := 2, cells := 0, slots := 0, locals := 29 } : Room)) (fun a U => a = #[(.ref a1), (.int u)] ∧ Z.Warmed39 U.vm ∧ U.heap = h0) (fun _ _ _ _ _ => True) (fun _ U o U' => ∃ v L, o = .returned v ∧ QRm23 Z a1 u aK aI aP kk ki kp kf σ h0 n0 v U'.heap L ∧ FrameEnd U o U' L ({ frames := 2, cells := 0, slots := 0, locals := 29 } : Room).cells ({ frames := 2, cells := 0, slots := 0, locals := 29 } : Room).slots) := by
  refine MetFree.of_bodySF (plainFor_of_name pn_0) hisR ?_
  intro p e s m args below meth c s₁ Bd hml0 hP hK
  obtain ⟨rfl, hZ, hh⟩ := hP
  have hx := Bd.exec
  have hby := Bd.bytes
  have hml : c.maxLocals = 4 := hml0
  have hown : s.vm.findClass "com/example/covermesh/covermesh/algorithms/IndexedMinHeap" = some m.cls := findClass_of_methodNamed Bd.named
  have hnm := (name_of_methodNamed Bd.named Bd.method).1
  have X0 : Stand p l e ({ frames := 2, cells := 0, slots := 0, locals := 29 } : Room) s m #[(.ref a1), (.int u)] below meth c s₁ [] 0 0 := Stand.of_body Bd
  have e0 : s₁.heap = h0 := by rw [← hh, Bd.state]; rfl
  have N0 := Fr.nil n0
  have K0 := Keep.refl h0 [a1, aK, aI, aP]
  have go0 : Goes p e below s₁ (entryFrame m #[(.ref a1), (.int u)] 4) s₁ (mkF m 0 #[.val (.ref a1), .val (.int u), .unset, .unset] []) := fun t k => castTop (ef_rmRm23 m a1 u) k
  have go1 : Goes p e below s₁ (entryFrame m #[(.ref a1), (.int u)] 4) s₁ (mkF m 1 #[.val (.ref a1), .val (.int u), .unset, .unset] [(.ref a1)]) := fun t k => by
    refine go0 t ?_
    refine XS.aloadN X0.here hx rfl (hb hby d11_0) rfl rfl ?_
    show Steps p.tables e below (s₁.setTop (mkF m 1 #[.val (.ref a1), .val (.int u), .unset, .unset] [(.ref a1)])) _
    exact k
  obtain ⟨T2, X2, e2, st2⟩ := getF X0 hx hZ hown (host := "") (Or.inl (hw _ (List.mem_of_getElem? (i := 15) rfl))) Via.refl e0 FP (g := (mkF m 1 #[.val (.ref a1), .val (.int u), .unset, .unset] [(.ref a1)])) rfl rfl (hb hby d11_1)
  have go3 : Goes p e below s₁ (entryFrame m #[(.ref a1), (.int u)] 4) T2 (mkF m 4 #[.val (.ref a1), .val (.int u), .unset, .unset] [(.ref aP)]) := fun t k => go1 t (st2 t k)
  have go4 : Goes p e below s₁ (entryFrame m #[(.ref a1), (.int u)] 4) T2 (mkF m 5 #[.val (.ref a1), .val (.int u), .unset, .unset] [(.int u), (.ref aP)]) := fun t k => by
    refine go3 t ?_
    refine XS.iloadN X2.here hx rfl (hb hby d11_4) rfl ?_
    show Steps p.tables e below (T2.setTop (mkF m 5 #[.val (.ref a1), .val (.int u), .unset, .unset] [(.int u), (.ref aP)])) _
    exact k
  obtain ⟨cl5, Ar5, kq5, Sz5, Nn5, Hs5, Gf5⟩ := id (VP)
  have hin5 : ¬ (u < 0 ∨ cl5.slots.size ≤ (u).toNatClampNeg) := inb_of Sz5 (own_inb Ru)
  have hat5 : cl5.slots[(u).toNatClampNeg]? = some (.int (σ.2 u)) := Has.at Hs5 hin5 (own_l_at Ru)
  have go6 : Goes p e below s₁ (entryFrame m #[(.ref a1), (.int u)] 4) T2 (mkF m 6 #[.val (.ref a1), .val (.int u), .unset, .unset] [(.int (σ.2 u))]) := fun t k => by
    refine go4 t ?_
    refine X2.iaload hx (j := u) (v := (.int (σ.2 u))) (own_hp e2 Ar5.1) (State.isArrayOf_alike hZ.alike Ar5.2.1) Ar5.2.2 hin5 hat5 (g := (mkF m 5 #[.val (.ref a1), .val (.int u), .unset, .unset] [(.int u), (.ref aP)])) rfl rfl (hb hby d11_5) _ ?_
    show Steps p.tables e below (T2.setTop (mkF m 6 #[.val (.ref a1), .val (.int u), .unset, .unset] [(.int (σ.2 u))])) _
    exact k
  have go7 : Goes p e below s₁ (entryFrame m #[(.ref a1), (.int u)] 4) T2 (mkF m 6 #[.val (.ref a1), .val (.int u), .unset, .unset] [(.int (2 : Int32))]) := Eq.mp (congrArg (fun zz => Goes p e below s₁ (entryFrame m #[(.ref a1), (.int u)] 4) T2 (mkF m 6 #[.val (.ref a1), .val (.int u), .unset, .unset] [(.int zz)])) hgu) go6
  have go8 : Goes p e below s₁ (entryFrame m #[(.ref a1), (.int u)] 4) T2 (mkF m 8 #[.val (.ref a1), .val (.int u), .val (.int (2 : Int32)), .unset] [(.ref a1)]) := fun t k => by
    refine go7 t ?_
    refine XS.istoreN X2.here hx rfl (hb hby d11_6) rfl (l' := #[.val (.ref a1), .val (.int u), .val (.int (2 : Int32)), .unset]) rfl ?_
    show Steps p.tables e below (T2.setTop (mkF m 7 #[.val (.ref a1), .val (.int u), .val (.int (2 : Int32)), .unset] [])) _
    refine XS.aloadN X2.here hx rfl (hb hby d11_7) rfl rfl ?_
    show Steps p.tables e below (T2.setTop (mkF m 8 #[.val (.ref a1), .val (.int u), .val (.int (2 : Int32)), .unset] [(.ref a1)])) _
    exact k
  obtain ⟨T9, X9, e9, st9⟩ := getF X2 hx hZ hown (host := "") (Or.inl (hw _ (List.mem_of_getElem? (i := 15) rfl))) Via.refl e2 FP (g := (mkF m 8 #[.val (.ref a1), .val (.int u), .val (.int (2 : Int32)), .unset] [(.ref a1)])) rfl rfl (hb hby d11_8)
  have go10 : Goes p e below s₁ (entryFrame m #[(.ref a1), (.int u)] 4) T9 (mkF m 11 #[.val (.ref a1), .val (.int u), .val (.int (2 : Int32)), .unset] [(.ref aP)]) := fun t k => go8 t (st9 t k)
  have go11 : Goes p e below s₁ (entryFrame m #[(.ref a1), (.int u)] 4) T9 (mkF m 13 #[.val (.ref a1), .val (.int u), .val (.int (2 : Int32)), .unset] [(.int (-1 : Int32)), (.int u), (.ref aP)]) := fun t k => by
    refine go10 t ?_
    refine XS.iloadN X9.here hx rfl (hb hby d11_11) rfl ?_
    show Steps p.tables e below (T9.setTop (mkF m 12 #[.val (.ref a1), .val (.int u), .val (.int (2 : Int32)), .unset] [(.int u), (.ref aP)])) _
    refine XS.iconst X9.here hx rfl (hb hby d11_12) ?_
    show Steps p.tables e below (T9.setTop (mkF m 13 #[.val (.ref a1), .val (.int u), .val (.int (2 : Int32)), .unset] [(.int (-1 : Int32)), (.int u), (.ref aP)])) _
    exact k
  obtain ⟨cl12, Ar12, kq12, Sz12, Nn12, Hs12, Gf12⟩ := id (VP)
  have hin12 : ¬ (u < 0 ∨ cl12.slots.size ≤ (u).toNatClampNeg) := inb_of Sz12 (own_inb Ru)
  obtain ⟨T13, h13, X13, e13, W13, st13⟩ := stI X9 hx hZ e9 Ar12 (j := u) hin12 (g := (mkF m 13 #[.val (.ref a1), .val (.int u), .val (.int (2 : Int32)), .unset] [(.int (-1 : Int32)), (.int u), (.ref aP)])) rfl rfl (hb hby d11_13)
  have V14 : Arv Z h13 aP kp .int 3 (own_l (own_u σ.2 u (-1 : Int32))) (.int (0 : Int32)) := by rw [← own_l_set Ru]; exact Arv.set Ar12 kq12 Sz12 Nn12 Hs12 Gf12 rfl W13 _ rfl (own_l_len Ru)
  have f15 := E1.wr W13
  have f16 := FK.other W13 (Or.inl nAP)
  have f17 := FI.other W13 (Or.inl nAP)
  have f18 := FP.other W13 (Or.inl nAP)
  have f19 := FS.other W13 (Or.inl nAP)
  have f20 := VK.other W13 nKP
  have f21 := VI.other W13 nIP
  have Z22 := Nat.le_trans Z0 (Nat.le_of_eq W13.size.symm)
  have K23 := K0.wr W13 (Or.inl (List.mem_of_getElem? (i := 3) rfl))
  have N24 := Fr.snoc X13 N0 gP
  have go25 : Goes p e below s₁ (entryFrame m #[(.ref a1), (.int u)] 4) T13 (mkF m 14 #[.val (.ref a1), .val (.int u), .val (.int (2 : Int32)), .unset] []) := fun t k => go11 t (st13 t k)
  have go26 : Goes p e below s₁ (entryFrame m #[(.ref a1), (.int u)] 4) T13 (mkF m 16 #[.val (.ref a1), .val (.int u), .val (.int (2 : Int32)), .unset] [(.ref a1), (.ref a1)]) := fun t k => by
    refine go25 t ?_
    refine XS.aloadN X13.here hx rfl (hb hby d11_14) rfl rfl ?_
    show Steps p.tables e below (T13.setTop (mkF m 15 #[.val (.ref a1), .val (.int u), .val (.int (2 : Int32)), .unset] [(.ref a1)])) _
    refine XS.dup X13.here hx rfl (hb hby d11_15) rfl rfl ?_
    show Steps p.tables e below (T13.setTop (mkF m 16 #[.val (.ref a1), .val (.int u), .val (.int (2 : Int32)), .unset] [(.ref a1), (.ref a1)])) _
    exact k
  obtain ⟨T27, X27, e27, st27⟩ := getF X13 hx hZ hown (host := "") (Or.inl (hw _ (List.mem_of_getElem? (i := 26) rfl))) Via.refl e13 f19 (g := (mkF m 16 #[.val (.ref a1), .val (.int u), .val (.int (2 : Int32)), .unset] [(.ref a1), (.ref a1)])) rfl rfl (hb hby d11_16)
  have go28 : Goes p e below s₁ (entryFrame m #[(.ref a1), (.int u)] 4) T27 (mkF m 19 #[.val (.ref a1), .val (.int u), .val (.int (2 : Int32)), .unset] [(.int (3 : Int32)), (.ref a1)]) := fun t k => go26 t (st27 t k)
  have go29 : Goes p e below s₁ (entryFrame m #[(.ref a1), (.int u)] 4) T27 (mkF m 21 #[.val (.ref a1), .val (.int u), .val (.int (2 : Int32)), .unset] [(.int (2 : Int32)), (.ref a1)]) := fun t k => by
    refine go28 t ?_
    refine XS.iconst X27.here hx rfl (hb hby d11_19) ?_
    show Steps p.tables e below (T27.setTop (mkF m 20 #[.val (.ref a1), .val (.int u), .val (.int (2 : Int32)), .unset] [(.int (1 : Int32)), (.int (3 : Int32)), (.ref a1)])) _
    refine XS.isub X27.here hx rfl (hb hby d11_20) rfl ?_
    show Steps p.tables e below (T27.setTop (mkF m 21 #[.val (.ref a1), .val (.int u), .val (.int (2 : Int32)), .unset] [(.int (2 : Int32)), (.ref a1)])) _
    exact k
  obtain ⟨T30, h30, X30, e30, W30, st30⟩ := putF X27 hx hZ hown (host := "") (Or.inl (hw _ (List.mem_of_getElem? (i := 26) rfl))) Via.refl e27 f19 f15 (Or.inl (hw _ (List.mem_of_getElem? (i := 27) rfl))) (hw _ (List.mem_of_getElem? (i := 1) rfl)) (ty := .int) (by decide) rfl rfl (g := (mkF m 21 #[.val (.ref a1), .val (.int u), .val (.int (2 : Int32)), .unset] [(.int (2 : Int32)), (.ref a1)])) rfl rfl (hb hby d11_21)
  have f31 := f19.same W30
  have f32 := f15.wr W30
  have f33 := f16.other W30 (Or.inr (slot_ne (Or.inr (hw _ (List.mem_of_getElem? (i := 11) rfl))) (Or.inl (hw _ (List.mem_of_getElem? (i := 27) rfl))) (by decide) (t := (.array .double)) (t' := .int) (by decide) (by decide)))
  have f34 := f17.other W30 (Or.inr (slot_ne (Or.inr (hw _ (List.mem_of_getElem? (i := 14) rfl))) (Or.inl (hw _ (List.mem_of_getElem? (i := 27) rfl))) (by decide) (t := (.array .int)) (t' := .int) (by decide) (by decide)))
  have f35 := f18.other W30 (Or.inr (slot_ne (Or.inr (hw _ (List.mem_of_getElem? (i := 16) rfl))) (Or.inl (hw _ (List.mem_of_getElem? (i := 27) rfl))) (by decide) (t := (.array .int)) (t' := .int) (by decide) (by decide)))
  have f36 := f20.other W30 (Ne.symm nAK)
  have f37 := f21.other W30 (Ne.symm nAI)
  have f38 := V14.other W30 (Ne.symm nAP)
  have Z39 := Nat.le_trans Z22 (Nat.le_of_eq W30.size.symm)
  have K40 := K23.wr W30 (Or.inl (List.mem_of_getElem? (i := 0) rfl))
  have N41 := Fr.snoc X30 N24 gA
  have go42 : Goes p e below s₁ (entryFrame m #[(.ref a1), (.int u)] 4) T30 (mkF m 24 #[.val (.ref a1), .val (.int u), .val (.int (2 : Int32)), .unset] []) := fun t k => go29 t (st30 t k)
  have go43 : Goes p e below s₁ (entryFrame m #[(.ref a1), (.int u)] 4) T30 (mkF m 26 #[.val (.ref a1), .val (.int u), .val (.int (2 : Int32)), .unset] [(.ref a1), (.int (2 : Int32))]) := fun t k => by
    refine go42 t ?_
    refine XS.iloadN X30.here hx rfl (hb hby d11_24) rfl ?_
    show Steps p.tables e below (T30.setTop (mkF m 25 #[.val (.ref a1), .val (.int u), .val (.int (2 : Int32)), .unset] [(.int (2 : Int32))])) _
    refine XS.aloadN X30.here hx rfl (hb hby d11_25) rfl rfl ?_
    show Steps p.tables e below (T30.setTop (mkF m 26 #[.val (.ref a1), .val (.int u), .val (.int (2 : Int32)), .unset] [(.ref a1), (.int (2 : Int32))])) _
    exact k
  obtain ⟨T44, X44, e44, st44⟩ := getF X30 hx hZ hown (host := "") (Or.inl (hw _ (List.mem_of_getElem? (i := 26) rfl))) Via.refl e30 f31 (g := (mkF m 26 #[.val (.ref a1), .val (.int u), .val (.int (2 : Int32)), .unset] [(.ref a1), (.int (2 : Int32))])) rfl rfl (hb hby d11_26)
  have go45 : Goes p e below s₁ (entryFrame m #[(.ref a1), (.int u)] 4) T44 (mkF m 29 #[.val (.ref a1), .val (.int u), .val (.int (2 : Int32)), .unset] [(.int (2 : Int32)), (.int (2 : Int32))]) := fun t k => go43 t (st44 t k)
  have go46 : Goes p e below s₁ (entryFrame m #[(.ref a1), (.int u)] 4) T44 (mkF m 71 #[.val (.ref a1), .val (.int u), .val (.int (2 : Int32)), .unset] []) := fun t k => by
    refine go45 t ?_
    refine XS.icmpYes X44.here hx rfl (pc0 := 29) (pc' := 71) rfl (hb hby d11_29) rfl (Jvm.Free.XT.ii_ge_t (by decide)) (by decide) (by decide) ?_
    show Steps p.tables e below (T44.setTop (mkF m 71 #[.val (.ref a1), .val (.int u), .val (.int (2 : Int32)), .unset] [])) _
    exact k
  obtain ⟨fs, hr, hrun, hended, hW, hsame⟩ := X44.leave (v := none) (fun _ => rfl)
  have hrm : own_rmv kf σ u (2 : Int32) (3 : Int32) = (σ.1, (own_u σ.2 u (-1 : Int32))) := if_pos rfl
  refine ⟨_, _, go46 _ ?_, hrun, hended, _, _, rfl, ?_, ⟨_, rfl⟩, hW, hsame.mono (by decide) (by decide)⟩
  · exact X44.returnOut hx Bd.returns (hb hby d11_71) hr
  · show QRm23 Z _ _ _ _ _ _ _ _ _ _ _ _ _ T44.heap _
    rw [e44]
    exact ⟨rfl, N41, K40, f32, f33, f34, f35, f31, f36, by rw [hrm]; exact f37, by rw [hrm]; exact f38⟩
abbrev own_G (σ : own_P) (n : Int32) (S : Int32 → Prop) : Prop := (∀ j, ¬ j < 0 → j < n → own_R (σ.1 j) ∧ S (σ.1 j) ∧ σ.2 (σ.1 j) = j) ∧ (∀ u, own_R u → S u → ¬ σ.2 u < 0 ∧ σ.2 u < n ∧ σ.1 (σ.2 u) = u) ∧ (∀ u, own_R u → ¬ S u → σ.2 u < 0)
theorem own_G.a {σ : own_P} {n : Int32} {S : Int32 → Prop} (G : own_G σ n S) : ∀ j, ¬ j < 0 → j < n → own_R (σ.1 j) ∧ S (σ.1 j) ∧ σ.2 (σ.1 j) = j := And.left G
theorem own_G.b {σ : own_P} {n : Int32} {S : Int32 → Prop} (G : own_G σ n S) : ∀ u, own_R u → S u → ¬ σ.2 u < 0 ∧ σ.2 u < n ∧ σ.1 (σ.2 u) = u := And.left (And.right G)
theorem own_G.c {σ : own_P} {n : Int32} {S : Int32 → Prop} (G : own_G σ n S) : ∀ u, own_R u → ¬ S u → σ.2 u < 0 := And.right (And.right G)
theorem own_ue {α : Type} {f : Int32 → α} {i j : Int32} {v : α} (h : i = j) : own_u f j v i = v := if_pos h
theorem own_G.swap {σ : own_P} {n : Int32} {S : Int32 → Prop} (G : own_G σ n S) {i j : Int32} (hi : ¬ i < 0 ∧ i < n) (hj : ¬ j < 0 ∧ j < n) : own_G (own_mv (own_mv σ (σ.1 j) i) (σ.1 i) j) n S := by
  have Ai := G.a i hi.1 hi.2
  have Aj := G.a j hj.1 hj.2
  refine ⟨fun k h1 h2 => ?_, fun u hu hS => ?_, fun u hu hS => ?_⟩
  · have Ak := G.a k h1 h2
    dsimp only [own_mv]
    by_cases c1 : k = j
    · subst c1; rw [own_ue rfl, own_ue rfl]; exact ⟨Ai.1, Ai.2.1, rfl⟩
    · rw [own_un c1]
      by_cases c2 : k = i
      · subst c2
        have c3 : ¬ σ.1 j = σ.1 k := fun h => c1 (by rw [← Ai.2.2, ← h, Aj.2.2])
        rw [own_ue rfl, own_un c3, own_ue rfl]; exact ⟨Aj.1, Aj.2.1, rfl⟩
      · have c3 : ¬ σ.1 k = σ.1 i := fun h => c2 (by rw [← Ak.2.2, h, Ai.2.2])
        have c4 : ¬ σ.1 k = σ.1 j := fun h => c1 (by rw [← Ak.2.2, h, Aj.2.2])
        rw [own_un c2, own_un c3, own_un c4]; exact Ak
  · have B := G.b u hu hS
    dsimp only [own_mv]
    by_cases c1 : u = σ.1 i
    · rw [own_ue c1, own_ue rfl]; exact ⟨hj.1, hj.2, c1.symm⟩
    · rw [own_un c1]
      by_cases c2 : u = σ.1 j
      · have c3 : ¬ i = j := fun h => c1 (by rw [h]; exact c2)
        rw [own_ue c2, own_un c3, own_ue rfl]; exact ⟨hi.1, hi.2, c2.symm⟩
      · have c3 : ¬ σ.2 u = j := fun h => c2 (by rw [← h]; exact B.2.2.symm)
        have c4 : ¬ σ.2 u = i := fun h => c1 (by rw [← h]; exact B.2.2.symm)
        rw [own_un c2, own_un c3, own_un c4]; exact B
  · have C := G.c u hu hS
    dsimp only [own_mv]
    have c1 : ¬ u = σ.1 i := fun h => hS (by rw [h]; exact Ai.2.1)
    have c2 : ¬ u = σ.1 j := fun h => hS (by rw [h]; exact Aj.2.1)
    rw [own_un c1, own_un c2]; exact C
theorem own_G.stay {σ : own_P} {n : Int32} {S : Int32 → Prop} (G : own_G σ n S) {i : Int32} (hi : ¬ i < 0 ∧ i < n) : own_mv σ (σ.1 i) i = σ := by
  have Ai := G.a i hi.1 hi.2
  apply Prod.ext
  · funext k; dsimp only [own_mv]; by_cases c : k = i
    · rw [own_ue c, c]
    · rw [own_un c]
  · funext k; dsimp only [own_mv]; by_cases c : k = σ.1 i
    · rw [own_ue c, c, Ai.2.2]
    · rw [own_un c]
theorem own_G.up {σ : own_P} {n : Int32} {S : Int32 → Prop} (G : own_G σ n S) (kf : Int32 → UInt64) {i : Int32} (hi : ¬ i < 0 ∧ i < n) (h0 : (0 : Int32) < n) : own_G (own_up kf σ i) n S := by
  unfold own_up; split
  · rw [G.stay hi]; exact G
  · exact G.swap hi ⟨by decide, h0⟩
theorem own_ch_lt {kf : Int32 → UInt64} {σ : own_P} {n : Int32} (hn : n = 2 ∨ n = 3) : ¬ own_ch kf σ n < 0 ∧ own_ch kf σ n < n := by
  rcases hn with rfl | rfl
  · have : own_ch kf σ 2 = 1 := if_neg (fun h => absurd h.1 (by decide))
    rw [this]; decide
  · unfold own_ch; split <;> decide
theorem own_G.dn {σ : own_P} {n : Int32} {S : Int32 → Prop} (G : own_G σ n S) (kf : Int32 → UInt64) {i : Int32} (hi : ¬ i < 0 ∧ i < n) (hn : n = 1 ∨ n = 2 ∨ n = 3) : own_G (own_dn kf σ i n) n S := by
  unfold own_dn; split
  · rename_i c
    have hn' : n = 2 ∨ n = 3 := hn.resolve_left c.2.1
    have e0 : (0 : Int32) < n := by rcases hn' with rfl | rfl <;> decide
    exact G.swap ⟨by decide, e0⟩ (own_ch_lt hn')
  · rw [G.stay hi]; exact G
theorem own_G.sift {σ : own_P} {n : Int32} {S : Int32 → Prop} (G : own_G σ n S) (kf : Int32 → UInt64) {u : Int32} (hu : own_R u) (hS : S u) (hn : n = 1 ∨ n = 2 ∨ n = 3) : own_G (own_sift kf σ u n) n S := by
  have e0 : (0 : Int32) < n := by rcases hn with rfl | rfl | rfl <;> decide
  have B := G.b u hu hS
  have G' := G.up kf ⟨B.1, B.2.1⟩ e0
  have B' := G'.b u hu hS
  exact G'.dn kf ⟨B'.1, B'.2.1⟩ hn
theorem own_lt_succ {n j : Int32} (hn : n = 0 ∨ n = 1 ∨ n = 2) (h : j < n + 1) : j = n ∨ j < n := by
  by_cases c : j = n
  · exact Or.inl c
  · right
    rw [Int32.lt_iff_toInt_lt] at h ⊢
    have c' : ¬ j.toInt = n.toInt := fun q => c (Int32.toInt_inj.mp q)
    have : (n + 1).toInt = n.toInt + 1 := by rcases hn with rfl | rfl | rfl <;> rfl
    omega
theorem own_lt_of {n j : Int32} (hn : n = 0 ∨ n = 1 ∨ n = 2) (h : j < n) : j < n + 1 := by
  rw [Int32.lt_iff_toInt_lt] at h ⊢
  have : (n + 1).toInt = n.toInt + 1 := by rcases hn with rfl | rfl | rfl <;> rfl
  omega
theorem own_irr (j : Int32) : ¬ j < j := by rw [Int32.lt_iff_toInt_lt]; omega
def own_add (S : Int32 → Prop) (u : Int32) : Int32 → Prop := fun x => x = u ∨ S x
def own_del (S : Int32 → Prop) (u : Int32) : Int32 → Prop := fun x => ¬ x = u ∧ S x
theorem own_G.base {σ : own_P} {n : Int32} {S : Int32 → Prop} (G : own_G σ n S) {u : Int32} (hu : own_R u) (hS : ¬ S u) (hn : n = 0 ∨ n = 1 ∨ n = 2) : own_G (own_u σ.1 n u, own_u σ.2 u n) (n + 1) (own_add S u) := by
  have n0 : ¬ n < 0 := by rcases hn with rfl | rfl | rfl <;> decide
  have n1 : n < n + 1 := by rcases hn with rfl | rfl | rfl <;> decide
  refine ⟨fun j h1 h2 => ?_, fun x hx hSx => ?_, fun x hx hSx => ?_⟩
  · dsimp only
    by_cases c : j = n
    · subst c; rw [own_ue rfl, own_ue rfl]; exact ⟨hu, Or.inl rfl, rfl⟩
    · have A := G.a j h1 ((own_lt_succ hn h2).resolve_left c)
      have c2 : ¬ σ.1 j = u := fun h => hS (by rw [← h]; exact A.2.1)
      rw [own_un c, own_un c2]; exact ⟨A.1, Or.inr A.2.1, A.2.2⟩
  · dsimp only
    by_cases c : x = u
    · subst c; rw [own_ue rfl, own_ue rfl]; exact ⟨n0, n1, rfl⟩
    · have B := G.b x hx (hSx.resolve_left c)
      have c2 : ¬ σ.2 x = n := fun h => own_irr n (by have := B.2.1; rw [h] at this; exact this)
      rw [own_un c, own_un c2]; exact ⟨B.1, own_lt_of hn B.2.1, B.2.2⟩
  · dsimp only
    have c : ¬ x = u := fun h => hSx (Or.inl h)
    rw [own_un c]; exact G.c x hx (fun h => hSx (Or.inr h))
theorem own_G.putA {σ : own_P} {n : Int32} {S : Int32 → Prop} (G : own_G σ n S) (kf : Int32 → UInt64) {u : Int32} (hu : own_R u) (hS : ¬ S u) (hn : n = 0 ∨ n = 1 ∨ n = 2) : own_G (own_putA kf σ u n) (n + 1) (own_add S u) :=
  (G.base hu hS hn).sift kf hu (Or.inl rfl) (by rcases hn with rfl | rfl | rfl <;> decide)
theorem own_lt_last {n i : Int32} (hn : n = 1 ∨ n = 2 ∨ n = 3) (h : i < n) : i = n - 1 ∨ i < n - 1 := by
  by_cases c : i = n - 1
  · exact Or.inl c
  · right
    rw [Int32.lt_iff_toInt_lt] at h ⊢
    have c' : ¬ i.toInt = (n - 1).toInt := fun q => c (Int32.toInt_inj.mp q)
    have : (n - 1).toInt = n.toInt - 1 := by rcases hn with rfl | rfl | rfl <;> rfl
    omega
theorem own_lt_pre {n i : Int32} (hn : n = 1 ∨ n = 2 ∨ n = 3) (h : i < n - 1) : i < n := by
  rw [Int32.lt_iff_toInt_lt] at h ⊢
  have : (n - 1).toInt = n.toInt - 1 := by rcases hn with rfl | rfl | rfl <;> rfl
  omega
theorem own_G.rmv {σ : own_P} {n : Int32} {S : Int32 → Prop} (G : own_G σ n S) (kf : Int32 → UInt64) {u : Int32} (hu : own_R u) (hS : S u) (hn : n = 1 ∨ n = 2 ∨ n = 3) : own_G (own_rmv kf σ u (σ.2 u) n) (n - 1) (own_del S u) := by
  have B := G.b u hu hS
  have l0 : ¬ n - 1 < 0 := by rcases hn with rfl | rfl | rfl <;> decide
  have l1 : n - 1 < n := by rcases hn with rfl | rfl | rfl <;> decide
  have A := G.a (n - 1) l0 l1
  unfold own_rmv; split
  · rename_i c
    refine ⟨fun j h1 h2 => ?_, fun x hx hSx => ?_, fun x hx hSx => ?_⟩
    · have Aj := G.a j h1 (own_lt_pre hn h2)
      have c1 : ¬ σ.1 j = u := fun h => own_irr j (by have := h2; rw [← c, ← h, Aj.2.2] at this; exact this)
      dsimp only; rw [own_un c1]; exact ⟨Aj.1, ⟨c1, Aj.2.1⟩, Aj.2.2⟩
    · have Bx := G.b x hx hSx.2
      dsimp only; rw [own_un hSx.1]
      refine ⟨Bx.1, (own_lt_last hn Bx.2.1).resolve_left (fun h => hSx.1 ?_), Bx.2.2⟩
      rw [← Bx.2.2, h, ← c, B.2.2]
    · dsimp only
      by_cases c1 : x = u
      · rw [own_ue c1]; decide
      · rw [own_un c1]; exact G.c x hx (fun h => hSx ⟨c1, h⟩)
  · rename_i c
    have ne : ¬ σ.1 (n - 1) = u := fun h => c (by rw [← h, A.2.2])
    have hn' : n - 1 = 1 ∨ n - 1 = 2 ∨ n - 1 = 3 := by
      rcases hn with rfl | rfl | rfl
      · exfalso
        have h1 := B.1; have h2 := B.2.1
        have c' : ¬ (σ.2 u).toInt = 0 := fun q => c (Int32.toInt_inj.mp q)
        rw [Int32.lt_iff_toInt_lt] at h1 h2
        have z1 : (1 : Int32).toInt = 1 := rfl
        have z2 : (0 : Int32).toInt = 0 := rfl
        omega
      · exact Or.inl rfl
      · exact Or.inr (Or.inl rfl)
    have i1 : σ.2 u < n - 1 := (own_lt_last hn B.2.1).resolve_left c
    refine own_G.sift ?_ kf A.1 ⟨ne, A.2.1⟩ hn'
    refine ⟨fun j h1 h2 => ?_, fun x hx hSx => ?_, fun x hx hSx => ?_⟩
    · dsimp only
      by_cases c1 : j = σ.2 u
      · rw [own_ue c1, own_ue rfl]; exact ⟨A.1, ⟨ne, A.2.1⟩, c1.symm⟩
      · have Aj := G.a j h1 (own_lt_pre hn h2)
        have c2 : ¬ σ.1 j = σ.1 (n - 1) := fun h => own_irr j (by have := h2; rw [← A.2.2, ← h, Aj.2.2] at this; exact this)
        have c3 : ¬ σ.1 j = u := fun h => c1 (by rw [← h, Aj.2.2])
        rw [own_un c1, own_un c2, own_un c3]; exact ⟨Aj.1, ⟨c3, Aj.2.1⟩, Aj.2.2⟩
    · have Bx := G.b x hx hSx.2
      dsimp only
      by_cases c1 : x = σ.1 (n - 1)
      · rw [own_ue c1, own_ue rfl]; exact ⟨B.1, i1, c1.symm⟩
      · have c2 : ¬ σ.2 x = σ.2 u := fun h => hSx.1 (by rw [← Bx.2.2, h, B.2.2])
        rw [own_un c1, own_un hSx.1, own_un c2]
        exact ⟨Bx.1, (own_lt_last hn Bx.2.1).resolve_left (fun h => c1 (by rw [← h, Bx.2.2])), Bx.2.2⟩
    · dsimp only
      have c1 : ¬ x = σ.1 (n - 1) := fun h => hSx (by rw [h]; exact ⟨ne, A.2.1⟩)
      rw [own_un c1]
      by_cases c2 : x = u
      · rw [own_ue c2]; decide
      · rw [own_un c2]; exact G.c x hx (fun h => hSx ⟨c2, h⟩)
theorem own_G.congr {σ : own_P} {n n' : Int32} {S S' : Int32 → Prop} (G : own_G σ n S) (hn : n = n') (h : ∀ u, own_R u → (S u ↔ S' u)) : own_G σ n' S' := by
  subst hn
  refine ⟨fun j h1 h2 => ?_, fun u hu hS => G.b u hu ((h u hu).mpr hS), fun u hu hS => G.c u hu (fun q => hS ((h u hu).mp q))⟩
  have A := G.a j h1 h2; exact ⟨A.1, (h _ A.1).mp A.2.1, A.2.2⟩
def own_S (a b c : Int32) : Int32 → Prop := fun u => (u = 0 ∧ a = 1) ∨ (u = 1 ∧ b = 1) ∨ (u = 2 ∧ c = 1)
theorem own_S_add0 {b c : Int32} : ∀ u, own_R u → (own_add (own_S 0 b c) 0 u ↔ own_S 1 b c u) := by rintro u (rfl | rfl | rfl) <;> simp [own_add, own_S]
theorem own_S_add1 {a c : Int32} : ∀ u, own_R u → (own_add (own_S a 0 c) 1 u ↔ own_S a 1 c u) := by rintro u (rfl | rfl | rfl) <;> simp [own_add, own_S]
theorem own_S_add2 {a b : Int32} : ∀ u, own_R u → (own_add (own_S a b 0) 2 u ↔ own_S a b 1 u) := by rintro u (rfl | rfl | rfl) <;> simp [own_add, own_S]
theorem own_S_del0 {b c : Int32} : ∀ u, own_R u → (own_del (own_S 1 b c) 0 u ↔ own_S 0 b c u) := by rintro u (rfl | rfl | rfl) <;> simp [own_del, own_S]
theorem own_S_del1 {a c : Int32} : ∀ u, own_R u → (own_del (own_S a 1 c) 1 u ↔ own_S a 0 c u) := by rintro u (rfl | rfl | rfl) <;> simp [own_del, own_S]
theorem own_S_del2 {a b : Int32} : ∀ u, own_R u → (own_del (own_S a b 1) 2 u ↔ own_S a b 0 u) := by rintro u (rfl | rfl | rfl) <;> simp [own_del, own_S]
theorem own_G_new : own_G (fun _ => 0, fun _ => -1) 0 (own_S 0 0 0) := by
  refine ⟨fun j h1 h2 => absurd h2 h1, fun u _ h => ?_, fun u _ _ => (by decide : (-1 : Int32) < 0)⟩
  exact absurd h (by simp [own_S])
def own_e (n : Int32) : Int32 := if n = 0 then 1 else 0
def QPut (Z : State) (a1 : Addr) (u : Int32) (key : UInt64) (aK aI aP : Addr) (kk ki kp : ClassId) (kf : Int32 → UInt64) (σ : own_P) (n : Int32) (S : Int32 → Prop) (h0 : Heap) (n0 : Nat) (v : Option Value) (h : Heap) (L : List Loc) : Prop := v = none ∧ Fr n0 L ∧ Keep h0 h [a1, aK, aI, aP] ∧ Exa Z h a1 "com/example/covermesh/covermesh/algorithms/IndexedMinHeap" ∧ Fld Z h a1 "com/example/covermesh/covermesh/algorithms/IndexedMinHeap" "keys" "[D" (.ref aK) ∧ Fld Z h a1 "com/example/covermesh/covermesh/algorithms/IndexedMinHeap" "items" "[I" (.ref aI) ∧ Fld Z h a1 "com/example/covermesh/covermesh/algorithms/IndexedMinHeap" "positions" "[I" (.ref aP) ∧ Fld Z h a1 "com/example/covermesh/covermesh/algorithms/IndexedMinHeap" "size" "I" (.int (n + 1)) ∧ Arv Z h aK kk .double 3 (own_d (own_u kf u key)) (.double (0 : UInt64)) ∧ Arv Z h aI ki .int 3 (own_l (own_putA (own_u kf u key) σ u n).1) (.int (0 : Int32)) ∧ Arv Z h aP kp .int 3 (own_l (own_putA (own_u kf u key) σ u n).2) (.int (0 : Int32))
theorem rmPut (l : Launch) (Z : State) (a0 : Array Value) (hw : ∀ d ∈ tables_1, d.before a0 Z = true) (ws : List Jvm.Cond) (a1 : Addr) (u : Int32) (key : UInt64) (aK aI aP : Addr) (kk ki kp : ClassId) (kf : Int32 → UInt64) (σ : own_P) (n : Int32) (S : Int32 → Prop) (h0 : Heap) (n0 : Nat) (Z0 : n0 ≤ h0.size) (E1 : Exa Z h0 a1 "com/example/covermesh/covermesh/algorithms/IndexedMinHeap") (FK : Fld Z h0 a1 "com/example/covermesh/covermesh/algorithms/IndexedMinHeap" "keys" "[D" (.ref aK)) (FI : Fld Z h0 a1 "com/example/covermesh/covermesh/algorithms/IndexedMinHeap" "items" "[I" (.ref aI)) (FP : Fld Z h0 a1 "com/example/covermesh/covermesh/algorithms/IndexedMinHeap" "positions" "[I" (.ref aP)) (FS : Fld Z h0 a1 "com/example/covermesh/covermesh/algorithms/IndexedMinHeap" "size" "I" (.int n)) (VK : Arv Z h0 aK kk .double 3 (own_d kf) (.double (0 : UInt64))) (VI : Arv Z h0 aI ki .int 3 (own_l σ.1) (.int (0 : Int32))) (VP : Arv Z h0 aP kp .int 3 (own_l σ.2) (.int (0 : Int32))) (nKI : aK ≠ aI) (nKP : aK ≠ aP) (nIP : aI ≠ aP) (nAK : a1 ≠ aK) (nAI : a1 ≠ aI) (nAP : a1 ≠ aP) (gA : n0 ≤ a1) (gK : n0 ≤ aK) (gI : n0 ≤ aI) (gP : n0 ≤ aP) (Ru : own_R u) (G : own_G σ n S) (hS : ¬ S u) (hn : n = 0 ∨ n = 1 ∨ n = 2) :
    MetFree l (⟨"com/example/covermesh/covermesh/algorithms/IndexedMinHeap", "put", "(ID)V"⟩ : MethodName) (head1 (Jvm.Cond.code (⟨"com/example/covermesh/covermesh/algorithms/IndexedMinHeap", "put", "(ID)V"⟩ : MethodName) prog_17_method_4_code 4 none :: ws) ({ frames := 2, cells := 0, slots := 0, locals := 29 } : Room)) (fun a U => a = #[(.ref a1), (.int u), (.double key)] ∧ Z.Warmed39 U.vm ∧ U.heap = h0) (fun _ _ _ _ _ => True) (fun _ U o U' => ∃ v L, o = .returned v ∧ QPut Z a1 u key aK aI aP kk ki kp kf σ n S h0 n0 v U'.heap L ∧ FrameEnd U o U' L ({ frames := 2, cells := 0, slots := 0, locals := 29 } : Room).cells ({ frames := 2, cells := 0, slots := 0, locals := 29 } : Room).slots) := by
  have hg : ∀ j, ¬ j < 0 → j < n → own_R (σ.1 j) := fun j h1 h2 => (G.a j h1 h2).1
  have hgu := G.c u Ru hS
  rcases hn with rfl | rfl | rfl
  · exact rmPA0 l Z a0 hw ws a1 u key aK aI aP kk ki kp kf σ h0 n0 Z0 E1 FK FI FP FS VK VI VP nKI nKP nIP nAK nAI nAP gA gK gI gP Ru hgu
  · exact rmPA1 l Z a0 hw ws a1 u key aK aI aP kk ki kp kf σ h0 n0 Z0 E1 FK FI FP FS VK VI VP nKI nKP nIP nAK nAI nAP gA gK gI gP Ru hgu (hg (0 : Int32) (by decide) (by decide))
  · exact rmPA2 l Z a0 hw ws a1 u key aK aI aP kk ki kp kf σ h0 n0 Z0 E1 FK FI FP FS VK VI VP nKI nKP nIP nAK nAI nAP gA gK gI gP Ru hgu (hg (0 : Int32) (by decide) (by decide)) (hg (1 : Int32) (by decide) (by decide))
def QRem (Z : State) (a1 : Addr) (u : Int32) (aK aI aP : Addr) (kk ki kp : ClassId) (kf : Int32 → UInt64) (σ : own_P) (n : Int32) (S : Int32 → Prop) (h0 : Heap) (n0 : Nat) (v : Option Value) (h : Heap) (L : List Loc) : Prop := v = none ∧ Fr n0 L ∧ Keep h0 h [a1, aK, aI, aP] ∧ Exa Z h a1 "com/example/covermesh/covermesh/algorithms/IndexedMinHeap" ∧ Fld Z h a1 "com/example/covermesh/covermesh/algorithms/IndexedMinHeap" "keys" "[D" (.ref aK) ∧ Fld Z h a1 "com/example/covermesh/covermesh/algorithms/IndexedMinHeap" "items" "[I" (.ref aI) ∧ Fld Z h a1 "com/example/covermesh/covermesh/algorithms/IndexedMinHeap" "positions" "[I" (.ref aP) ∧ Fld Z h a1 "com/example/covermesh/covermesh/algorithms/IndexedMinHeap" "size" "I" (.int (n - 1)) ∧ Arv Z h aK kk .double 3 (own_d kf) (.double (0 : UInt64)) ∧ Arv Z h aI ki .int 3 (own_l (own_rmv kf σ u (σ.2 u) n).1) (.int (0 : Int32)) ∧ Arv Z h aP kp .int 3 (own_l (own_rmv kf σ u (σ.2 u) n).2) (.int (0 : Int32))
theorem rmRem (l : Launch) (Z : State) (a0 : Array Value) (hw : ∀ d ∈ tables_1, d.before a0 Z = true) (ws : List Jvm.Cond) (a1 : Addr) (u : Int32) (aK aI aP : Addr) (kk ki kp : ClassId) (kf : Int32 → UInt64) (σ : own_P) (n : Int32) (S : Int32 → Prop) (h0 : Heap) (n0 : Nat) (Z0 : n0 ≤ h0.size) (E1 : Exa Z h0 a1 "com/example/covermesh/covermesh/algorithms/IndexedMinHeap") (FK : Fld Z h0 a1 "com/example/covermesh/covermesh/algorithms/IndexedMinHeap" "keys" "[D" (.ref aK)) (FI : Fld Z h0 a1 "com/example/covermesh/covermesh/algorithms/IndexedMinHeap" "items" "[I" (.ref aI)) (FP : Fld Z h0 a1 "com/example/covermesh/covermesh/algorithms/IndexedMinHeap" "positions" "[I" (.ref aP)) (FS : Fld Z h0 a1 "com/example/covermesh/covermesh/algorithms/IndexedMinHeap" "size" "I" (.int n)) (VK : Arv Z h0 aK kk .double 3 (own_d kf) (.double (0 : UInt64))) (VI : Arv Z h0 aI ki .int 3 (own_l σ.1) (.int (0 : Int32))) (VP : Arv Z h0 aP kp .int 3 (own_l σ.2) (.int (0 : Int32))) (nKI : aK ≠ aI) (nKP : aK ≠ aP) (nIP : aI ≠ aP) (nAK : a1 ≠ aK) (nAI : a1 ≠ aI) (nAP : a1 ≠ aP) (gA : n0 ≤ a1) (gK : n0 ≤ aK) (gI : n0 ≤ aI) (gP : n0 ≤ aP) (Ru : own_R u) (G : own_G σ n S) (hS : S u) (hn : n = 1 ∨ n = 2 ∨ n = 3) :
    MetFree l (⟨"com/example/covermesh/covermesh/algorithms/IndexedMinHeap", "remove", "(I)V"⟩ : MethodName) (head1 (Jvm.Cond.code (⟨"com/example/covermesh/covermesh/algorithms/IndexedMinHeap", "remove", "(I)V"⟩ : MethodName) prog_17_method_6_code 4 none :: ws) ({ frames := 2, cells := 0, slots := 0, locals := 29 } : Room)) (fun a U => a = #[(.ref a1), (.int u)] ∧ Z.Warmed39 U.vm ∧ U.heap = h0) (fun _ _ _ _ _ => True) (fun _ U o U' => ∃ v L, o = .returned v ∧ QRem Z a1 u aK aI aP kk ki kp kf σ n S h0 n0 v U'.heap L ∧ FrameEnd U o U' L ({ frames := 2, cells := 0, slots := 0, locals := 29 } : Room).cells ({ frames := 2, cells := 0, slots := 0, locals := 29 } : Room).slots) := by
  have hg : ∀ j, ¬ j < 0 → j < n → own_R (σ.1 j) := fun j h1 h2 => (G.a j h1 h2).1
  obtain ⟨b1, b2, -⟩ := G.b u Ru hS
  obtain ⟨i, hi⟩ : ∃ i, i = σ.2 u := ⟨_, rfl⟩
  unfold QRem
  rw [← hi] at b1 b2 ⊢
  rcases hn with rfl | rfl | rfl
  · have hk : i = 0 := by
      rw [Int32.lt_iff_toInt_lt] at b1 b2
      have z1 : ((1 : Int32)).toInt = 1 := rfl
      have z2 : (0 : Int32).toInt = 0 := rfl
      exact own_of_toInt (show i.toInt = 0 by omega)
    rcases hk with rfl
    · exact rmRm01 l Z a0 hw ws a1 u aK aI aP kk ki kp kf σ h0 n0 Z0 E1 FK FI FP FS VK VI VP nKI nKP nIP nAK nAI nAP gA gK gI gP Ru hi.symm
  · have hk : i = 0 ∨ i = 1 := by
      rw [Int32.lt_iff_toInt_lt] at b1 b2
      have z1 : ((2 : Int32)).toInt = 2 := rfl
      have z2 : (0 : Int32).toInt = 0 := rfl
      have h6 : i.toInt = 0 ∨ i.toInt = 1 := by omega
      rcases h6 with h6 | h6
      · exact Or.inl (own_of_toInt h6)
      · exact Or.inr ((own_of_toInt h6))
    rcases hk with rfl | rfl
    · exact rmRm02 l Z a0 hw ws a1 u aK aI aP kk ki kp kf σ h0 n0 Z0 E1 FK FI FP FS VK VI VP nKI nKP nIP nAK nAI nAP gA gK gI gP Ru hi.symm (hg (0 : Int32) (by decide) (by decide)) (hg (1 : Int32) (by decide) (by decide))
    · exact rmRm12 l Z a0 hw ws a1 u aK aI aP kk ki kp kf σ h0 n0 Z0 E1 FK FI FP FS VK VI VP nKI nKP nIP nAK nAI nAP gA gK gI gP Ru hi.symm
  · have hk : i = 0 ∨ i = 1 ∨ i = 2 := by
      rw [Int32.lt_iff_toInt_lt] at b1 b2
      have z1 : ((3 : Int32)).toInt = 3 := rfl
      have z2 : (0 : Int32).toInt = 0 := rfl
      have h6 : i.toInt = 0 ∨ i.toInt = 1 ∨ i.toInt = 2 := by omega
      rcases h6 with h6 | h6 | h6
      · exact Or.inl (own_of_toInt h6)
      · exact Or.inr (Or.inl (own_of_toInt h6))
      · exact Or.inr (Or.inr ((own_of_toInt h6)))
    rcases hk with rfl | rfl | rfl
    · exact rmRm03 l Z a0 hw ws a1 u aK aI aP kk ki kp kf σ h0 n0 Z0 E1 FK FI FP FS VK VI VP nKI nKP nIP nAK nAI nAP gA gK gI gP Ru hi.symm (hg (0 : Int32) (by decide) (by decide)) (hg (1 : Int32) (by decide) (by decide)) (hg (2 : Int32) (by decide) (by decide))
    · exact rmRm13 l Z a0 hw ws a1 u aK aI aP kk ki kp kf σ h0 n0 Z0 E1 FK FI FP FS VK VI VP nKI nKP nIP nAK nAI nAP gA gK gI gP Ru hi.symm (hg (0 : Int32) (by decide) (by decide)) (hg (1 : Int32) (by decide) (by decide)) (hg (2 : Int32) (by decide) (by decide))
    · exact rmRm23 l Z a0 hw ws a1 u aK aI aP kk ki kp kf σ h0 n0 Z0 E1 FK FI FP FS VK VI VP nKI nKP nIP nAK nAI nAP gA gK gI gP Ru hi.symm
theorem d3_0 : decode jdk_65_method_103_code 0 = .ok (.iconst 0, 1) := by decide +kernel
theorem d3_1 : decode jdk_65_method_103_code 1 = .ok (.istore_n 2, 1) := by decide +kernel
theorem d3_2 : decode jdk_65_method_103_code 2 = .ok (.aload_n 0, 1) := by decide +kernel
theorem d3_3 : decode jdk_65_method_103_code 3 = .ok (.arraylength, 1) := by decide +kernel
theorem d3_4 : decode jdk_65_method_103_code 4 = .ok (.istore_n 3, 1) := by decide +kernel
theorem d3_5 : decode jdk_65_method_103_code 5 = .ok (.iload_n 2, 1) := by decide +kernel
theorem d3_6 : decode jdk_65_method_103_code 6 = .ok (.iload_n 3, 1) := by decide +kernel
theorem d3_7 : decode jdk_65_method_103_code 7 = .ok (.if_icmp .ge 13, 3) := by decide +kernel
theorem d3_10 : decode jdk_65_method_103_code 10 = .ok (.aload_n 0, 1) := by decide +kernel
theorem d3_11 : decode jdk_65_method_103_code 11 = .ok (.iload_n 2, 1) := by decide +kernel
theorem d3_12 : decode jdk_65_method_103_code 12 = .ok (.iload_n 1, 1) := by decide +kernel
theorem d3_13 : decode jdk_65_method_103_code 13 = .ok (.iastore, 1) := by decide +kernel
theorem d3_14 : decode jdk_65_method_103_code 14 = .ok (.iinc 2 1, 3) := by decide +kernel
theorem d3_17 : decode jdk_65_method_103_code 17 = .ok (.goto (-12), 3) := by decide +kernel
theorem d3_20 : decode jdk_65_method_103_code 20 = .ok (.return_, 1) := by decide +kernel
theorem pn_1 : plainName "java/util/Arrays" = true := by first | (simp [plainName, overriddenIn]; done) | decide +kernel
theorem ef_rmF (m : MethodId) (a1 : Addr) (x : Int32) : entryFrame m #[(.ref a1), (.int x)] 4 = mkF m 0 #[.val (.ref a1), .val (.int x), .unset, .unset] [] := by first | (simp [entryFrame, mkF, argsToLocals, Value.category]; done) | rfl
def QF (Z : State) (a1 : Addr) (x : Int32) (kp : ClassId) (f : Int32 → Int32) (h0 : Heap) (n0 : Nat) (v : Option Value) (h : Heap) (L : List Loc) : Prop := v = none ∧ Fr n0 L ∧ Keep h0 h [a1] ∧ Arv Z h a1 kp .int 3 (own_l (fun _ => x)) (.int (0 : Int32))
set_option maxRecDepth 65536 in
set_option maxHeartbeats 40000000 in
theorem rmF (l : Launch) (Z : State) (a0 : Array Value) (hw : ∀ d ∈ tables_1, d.before a0 Z = true) (ws : List Jvm.Cond) (a1 : Addr) (x : Int32) (kp : ClassId) (f : Int32 → Int32) (h0 : Heap) (n0 : Nat) (Z0 : n0 ≤ h0.size) (VP : Arv Z h0 a1 kp .int 3 (own_l f) (.int (0 : Int32))) (g1 : n0 ≤ a1) :
    MetFree l (⟨"java/util/Arrays", "fill", "([II)V"⟩ : MethodName) (head1 (Jvm.Cond.code (⟨"java/util/Arrays", "fill", "([II)V"⟩ : MethodName) jdk_65_method_103_code 4 none :: ws) ({ frames := 0, cells := 0, slots := 0, locals := 0 } : Room)) (fun a U => a = #[(.ref a1), (.int x)] ∧ Z.Warmed39 U.vm ∧ U.heap = h0) (fun _ _ _ _ _ => True) (fun _ U o U' => ∃ v L, o = .returned v ∧ QF Z a1 x kp f h0 n0 v U'.heap L ∧ FrameEnd U o U' L ({ frames := 0, cells := 0, slots := 0, locals := 0 } : Room).cells ({ frames := 0, cells := 0, slots := 0, locals := 0 } : Room).slots) := by
  refine MetFree.of_bodySF (plainFor_of_name pn_1) hisR ?_
  intro p e s m args below meth c s₁ Bd hml0 hP hK
  obtain ⟨rfl, hZ, hh⟩ := hP
  have hx := Bd.exec
  have hby := Bd.bytes
  have hml : c.maxLocals = 4 := hml0
  have hown : s.vm.findClass "java/util/Arrays" = some m.cls := findClass_of_methodNamed Bd.named
  have hnm := (name_of_methodNamed Bd.named Bd.method).1
  have X0 : Stand p l e ({ frames := 0, cells := 0, slots := 0, locals := 0 } : Room) s m #[(.ref a1), (.int x)] below meth c s₁ [] 0 0 := Stand.of_body Bd
  have e0 : s₁.heap = h0 := by rw [← hh, Bd.state]; rfl
  have N0 := Fr.nil n0
  have K0 := Keep.refl h0 [a1]
  have go0 : Goes p e below s₁ (entryFrame m #[(.ref a1), (.int x)] 4) s₁ (mkF m 0 #[.val (.ref a1), .val (.int x), .unset, .unset] []) := fun t k => castTop (ef_rmF m a1 x) k
  have go1 : Goes p e below s₁ (entryFrame m #[(.ref a1), (.int x)] 4) s₁ (mkF m 3 #[.val (.ref a1), .val (.int x), .val (.int (0 : Int32)), .unset] [(.ref a1)]) := fun t k => by
    refine go0 t ?_
    refine XS.iconst X0.here hx rfl (hb hby d3_0) ?_
    show Steps p.tables e below (s₁.setTop (mkF m 1 #[.val (.ref a1), .val (.int x), .unset, .unset] [(.int (0 : Int32))])) _
    refine XS.istoreN X0.here hx rfl (hb hby d3_1) rfl (l' := #[.val (.ref a1), .val (.int x), .val (.int (0 : Int32)), .unset]) rfl ?_
    show Steps p.tables e below (s₁.setTop (mkF m 2 #[.val (.ref a1), .val (.int x), .val (.int (0 : Int32)), .unset] [])) _
    refine XS.aloadN X0.here hx rfl (hb hby d3_2) rfl rfl ?_
    show Steps p.tables e below (s₁.setTop (mkF m 3 #[.val (.ref a1), .val (.int x), .val (.int (0 : Int32)), .unset] [(.ref a1)])) _
    exact k
  obtain ⟨cl2, Ar2, kq2, Sz2, Nn2, Hs2, Gf2⟩ := id (VP)
  have go3 : Goes p e below s₁ (entryFrame m #[(.ref a1), (.int x)] 4) s₁ (mkF m 7 #[.val (.ref a1), .val (.int x), .val (.int (0 : Int32)), .val (.int (3 : Int32))] [(.int (3 : Int32)), (.int (0 : Int32))]) := fun t k => by
    refine go1 t ?_
    refine X0.arraylength hx (own_hp e0 Ar2.1) (State.isArrayOf_alike hZ.alike Ar2.2.1) (g := (mkF m 3 #[.val (.ref a1), .val (.int x), .val (.int (0 : Int32)), .unset] [(.ref a1)])) rfl rfl (hb hby d3_3) _ ?_
    rw [len_of Sz2 Nn2]
    show Steps p.tables e below (s₁.setTop (mkF m 4 #[.val (.ref a1), .val (.int x), .val (.int (0 : Int32)), .unset] [(.int (3 : Int32))])) _
    refine XS.istoreN X0.here hx rfl (hb hby d3_4) rfl (l' := #[.val (.ref a1), .val (.int x), .val (.int (0 : Int32)), .val (.int (3 : Int32))]) rfl ?_
    show Steps p.tables e below (s₁.setTop (mkF m 5 #[.val (.ref a1), .val (.int x), .val (.int (0 : Int32)), .val (.int (3 : Int32))] [])) _
    refine XS.iloadN X0.here hx rfl (hb hby d3_5) rfl ?_
    show Steps p.tables e below (s₁.setTop (mkF m 6 #[.val (.ref a1), .val (.int x), .val (.int (0 : Int32)), .val (.int (3 : Int32))] [(.int (0 : Int32))])) _
    refine XS.iloadN X0.here hx rfl (hb hby d3_6) rfl ?_
    show Steps p.tables e below (s₁.setTop (mkF m 7 #[.val (.ref a1), .val (.int x), .val (.int (0 : Int32)), .val (.int (3 : Int32))] [(.int (3 : Int32)), (.int (0 : Int32))])) _
    exact k
  have go4 : Goes p e below s₁ (entryFrame m #[(.ref a1), (.int x)] 4) s₁ (mkF m 13 #[.val (.ref a1), .val (.int x), .val (.int (0 : Int32)), .val (.int (3 : Int32))] [(.int x), (.int (0 : Int32)), (.ref a1)]) := fun t k => by
    refine go3 t ?_
    refine XS.icmpNo X0.here hx rfl (hb hby d3_7) rfl (Jvm.Free.XT.ii_ge_f (by decide)) ?_
    show Steps p.tables e below (s₁.setTop (mkF m 10 #[.val (.ref a1), .val (.int x), .val (.int (0 : Int32)), .val (.int (3 : Int32))] [])) _
    refine XS.aloadN X0.here hx rfl (hb hby d3_10) rfl rfl ?_
    show Steps p.tables e below (s₁.setTop (mkF m 11 #[.val (.ref a1), .val (.int x), .val (.int (0 : Int32)), .val (.int (3 : Int32))] [(.ref a1)])) _
    refine XS.iloadN X0.here hx rfl (hb hby d3_11) rfl ?_
    show Steps p.tables e below (s₁.setTop (mkF m 12 #[.val (.ref a1), .val (.int x), .val (.int (0 : Int32)), .val (.int (3 : Int32))] [(.int (0 : Int32)), (.ref a1)])) _
    refine XS.iloadN X0.here hx rfl (hb hby d3_12) rfl ?_
    show Steps p.tables e below (s₁.setTop (mkF m 13 #[.val (.ref a1), .val (.int x), .val (.int (0 : Int32)), .val (.int (3 : Int32))] [(.int x), (.int (0 : Int32)), (.ref a1)])) _
    exact k
  obtain ⟨cl5, Ar5, kq5, Sz5, Nn5, Hs5, Gf5⟩ := id (VP)
  have hin5 : ¬ ((0 : Int32) < 0 ∨ cl5.slots.size ≤ ((0 : Int32)).toNatClampNeg) := inb_of Sz5 (own_inb own_R0)
  obtain ⟨T6, h6, X6, e6, W6, st6⟩ := stI X0 hx hZ e0 Ar5 (j := (0 : Int32)) hin5 (g := (mkF m 13 #[.val (.ref a1), .val (.int x), .val (.int (0 : Int32)), .val (.int (3 : Int32))] [(.int x), (.int (0 : Int32)), (.ref a1)])) rfl rfl (hb hby d3_13)
  have V7 : Arv Z h6 a1 kp .int (3 : Int32) (own_l (own_u f (0 : Int32) x)) (.int (0 : Int32)) := by rw [← own_l_set own_R0]; exact Arv.set Ar5 kq5 Sz5 Nn5 Hs5 Gf5 rfl W6 _ rfl (own_l_len own_R0)
  have Z8 := Nat.le_trans Z0 (Nat.le_of_eq W6.size.symm)
  have K9 := K0.wr W6 (Or.inl (List.mem_of_getElem? (i := 0) rfl))
  have N10 := Fr.snoc X6 N0 g1
  have go11 : Goes p e below s₁ (entryFrame m #[(.ref a1), (.int x)] 4) T6 (mkF m 14 #[.val (.ref a1), .val (.int x), .val (.int (0 : Int32)), .val (.int (3 : Int32))] []) := fun t k => go4 t (st6 t k)
  have go12 : Goes p e below s₁ (entryFrame m #[(.ref a1), (.int x)] 4) T6 (mkF m 7 #[.val (.ref a1), .val (.int x), .val (.int (1 : Int32)), .val (.int (3 : Int32))] [(.int (3 : Int32)), (.int (1 : Int32))]) := fun t k => by
    refine go11 t ?_
    refine XS.iinc X6.here hx rfl (hb hby d3_14) rfl (l' := #[.val (.ref a1), .val (.int x), .val (.int (1 : Int32)), .val (.int (3 : Int32))]) rfl ?_
    show Steps p.tables e below (T6.setTop (mkF m 17 #[.val (.ref a1), .val (.int x), .val (.int (1 : Int32)), .val (.int (3 : Int32))] [])) _
    refine XS.goto X6.here hx rfl (pc0 := 17) (pc' := 5) rfl (hb hby d3_17) (by decide) (by decide) ?_
    show Steps p.tables e below (T6.setTop (mkF m 5 #[.val (.ref a1), .val (.int x), .val (.int (1 : Int32)), .val (.int (3 : Int32))] [])) _
    refine XS.iloadN X6.here hx rfl (hb hby d3_5) rfl ?_
    show Steps p.tables e below (T6.setTop (mkF m 6 #[.val (.ref a1), .val (.int x), .val (.int (1 : Int32)), .val (.int (3 : Int32))] [(.int (1 : Int32))])) _
    refine XS.iloadN X6.here hx rfl (hb hby d3_6) rfl ?_
    show Steps p.tables e below (T6.setTop (mkF m 7 #[.val (.ref a1), .val (.int x), .val (.int (1 : Int32)), .val (.int (3 : Int32))] [(.int (3 : Int32)), (.int (1 : Int32))])) _
    exact k
  have go13 : Goes p e below s₁ (entryFrame m #[(.ref a1), (.int x)] 4) T6 (mkF m 13 #[.val (.ref a1), .val (.int x), .val (.int (1 : Int32)), .val (.int (3 : Int32))] [(.int x), (.int (1 : Int32)), (.ref a1)]) := fun t k => by
    refine go12 t ?_
    refine XS.icmpNo X6.here hx rfl (hb hby d3_7) rfl (Jvm.Free.XT.ii_ge_f (by decide)) ?_
    show Steps p.tables e below (T6.setTop (mkF m 10 #[.val (.ref a1), .val (.int x), .val (.int (1 : Int32)), .val (.int (3 : Int32))] [])) _
    refine XS.aloadN X6.here hx rfl (hb hby d3_10) rfl rfl ?_
    show Steps p.tables e below (T6.setTop (mkF m 11 #[.val (.ref a1), .val (.int x), .val (.int (1 : Int32)), .val (.int (3 : Int32))] [(.ref a1)])) _
    refine XS.iloadN X6.here hx rfl (hb hby d3_11) rfl ?_
    show Steps p.tables e below (T6.setTop (mkF m 12 #[.val (.ref a1), .val (.int x), .val (.int (1 : Int32)), .val (.int (3 : Int32))] [(.int (1 : Int32)), (.ref a1)])) _
    refine XS.iloadN X6.here hx rfl (hb hby d3_12) rfl ?_
    show Steps p.tables e below (T6.setTop (mkF m 13 #[.val (.ref a1), .val (.int x), .val (.int (1 : Int32)), .val (.int (3 : Int32))] [(.int x), (.int (1 : Int32)), (.ref a1)])) _
    exact k
  obtain ⟨cl14, Ar14, kq14, Sz14, Nn14, Hs14, Gf14⟩ := id (V7)
  have hin14 : ¬ ((1 : Int32) < 0 ∨ cl14.slots.size ≤ ((1 : Int32)).toNatClampNeg) := inb_of Sz14 (own_inb own_R1)
  obtain ⟨T15, h15, X15, e15, W15, st15⟩ := stI X6 hx hZ e6 Ar14 (j := (1 : Int32)) hin14 (g := (mkF m 13 #[.val (.ref a1), .val (.int x), .val (.int (1 : Int32)), .val (.int (3 : Int32))] [(.int x), (.int (1 : Int32)), (.ref a1)])) rfl rfl (hb hby d3_13)
  have V16 : Arv Z h15 a1 kp .int (3 : Int32) (own_l (own_u (own_u f (0 : Int32) x) (1 : Int32) x)) (.int (0 : Int32)) := by rw [← own_l_set own_R1]; exact Arv.set Ar14 kq14 Sz14 Nn14 Hs14 Gf14 rfl W15 _ rfl (own_l_len own_R1)
  have Z17 := Nat.le_trans Z8 (Nat.le_of_eq W15.size.symm)
  have K18 := K9.wr W15 (Or.inl (List.mem_of_getElem? (i := 0) rfl))
  have N19 := Fr.snoc X15 N10 g1
  have go20 : Goes p e below s₁ (entryFrame m #[(.ref a1), (.int x)] 4) T15 (mkF m 14 #[.val (.ref a1), .val (.int x), .val (.int (1 : Int32)), .val (.int (3 : Int32))] []) := fun t k => go13 t (st15 t k)
  have go21 : Goes p e below s₁ (entryFrame m #[(.ref a1), (.int x)] 4) T15 (mkF m 7 #[.val (.ref a1), .val (.int x), .val (.int (2 : Int32)), .val (.int (3 : Int32))] [(.int (3 : Int32)), (.int (2 : Int32))]) := fun t k => by
    refine go20 t ?_
    refine XS.iinc X15.here hx rfl (hb hby d3_14) rfl (l' := #[.val (.ref a1), .val (.int x), .val (.int (2 : Int32)), .val (.int (3 : Int32))]) rfl ?_
    show Steps p.tables e below (T15.setTop (mkF m 17 #[.val (.ref a1), .val (.int x), .val (.int (2 : Int32)), .val (.int (3 : Int32))] [])) _
    refine XS.goto X15.here hx rfl (pc0 := 17) (pc' := 5) rfl (hb hby d3_17) (by decide) (by decide) ?_
    show Steps p.tables e below (T15.setTop (mkF m 5 #[.val (.ref a1), .val (.int x), .val (.int (2 : Int32)), .val (.int (3 : Int32))] [])) _
    refine XS.iloadN X15.here hx rfl (hb hby d3_5) rfl ?_
    show Steps p.tables e below (T15.setTop (mkF m 6 #[.val (.ref a1), .val (.int x), .val (.int (2 : Int32)), .val (.int (3 : Int32))] [(.int (2 : Int32))])) _
    refine XS.iloadN X15.here hx rfl (hb hby d3_6) rfl ?_
    show Steps p.tables e below (T15.setTop (mkF m 7 #[.val (.ref a1), .val (.int x), .val (.int (2 : Int32)), .val (.int (3 : Int32))] [(.int (3 : Int32)), (.int (2 : Int32))])) _
    exact k
  have go22 : Goes p e below s₁ (entryFrame m #[(.ref a1), (.int x)] 4) T15 (mkF m 13 #[.val (.ref a1), .val (.int x), .val (.int (2 : Int32)), .val (.int (3 : Int32))] [(.int x), (.int (2 : Int32)), (.ref a1)]) := fun t k => by
    refine go21 t ?_
    refine XS.icmpNo X15.here hx rfl (hb hby d3_7) rfl (Jvm.Free.XT.ii_ge_f (by decide)) ?_
    show Steps p.tables e below (T15.setTop (mkF m 10 #[.val (.ref a1), .val (.int x), .val (.int (2 : Int32)), .val (.int (3 : Int32))] [])) _
    refine XS.aloadN X15.here hx rfl (hb hby d3_10) rfl rfl ?_
    show Steps p.tables e below (T15.setTop (mkF m 11 #[.val (.ref a1), .val (.int x), .val (.int (2 : Int32)), .val (.int (3 : Int32))] [(.ref a1)])) _
    refine XS.iloadN X15.here hx rfl (hb hby d3_11) rfl ?_
    show Steps p.tables e below (T15.setTop (mkF m 12 #[.val (.ref a1), .val (.int x), .val (.int (2 : Int32)), .val (.int (3 : Int32))] [(.int (2 : Int32)), (.ref a1)])) _
    refine XS.iloadN X15.here hx rfl (hb hby d3_12) rfl ?_
    show Steps p.tables e below (T15.setTop (mkF m 13 #[.val (.ref a1), .val (.int x), .val (.int (2 : Int32)), .val (.int (3 : Int32))] [(.int x), (.int (2 : Int32)), (.ref a1)])) _
    exact k
  obtain ⟨cl23, Ar23, kq23, Sz23, Nn23, Hs23, Gf23⟩ := id (V16)
  have hin23 : ¬ ((2 : Int32) < 0 ∨ cl23.slots.size ≤ ((2 : Int32)).toNatClampNeg) := inb_of Sz23 (own_inb own_R2)
  obtain ⟨T24, h24, X24, e24, W24, st24⟩ := stI X15 hx hZ e15 Ar23 (j := (2 : Int32)) hin23 (g := (mkF m 13 #[.val (.ref a1), .val (.int x), .val (.int (2 : Int32)), .val (.int (3 : Int32))] [(.int x), (.int (2 : Int32)), (.ref a1)])) rfl rfl (hb hby d3_13)
  have V25 : Arv Z h24 a1 kp .int (3 : Int32) (own_l (own_u (own_u (own_u f (0 : Int32) x) (1 : Int32) x) (2 : Int32) x)) (.int (0 : Int32)) := by rw [← own_l_set own_R2]; exact Arv.set Ar23 kq23 Sz23 Nn23 Hs23 Gf23 rfl W24 _ rfl (own_l_len own_R2)
  have Z26 := Nat.le_trans Z17 (Nat.le_of_eq W24.size.symm)
  have K27 := K18.wr W24 (Or.inl (List.mem_of_getElem? (i := 0) rfl))
  have N28 := Fr.snoc X24 N19 g1
  have go29 : Goes p e below s₁ (entryFrame m #[(.ref a1), (.int x)] 4) T24 (mkF m 14 #[.val (.ref a1), .val (.int x), .val (.int (2 : Int32)), .val (.int (3 : Int32))] []) := fun t k => go22 t (st24 t k)
  have go30 : Goes p e below s₁ (entryFrame m #[(.ref a1), (.int x)] 4) T24 (mkF m 7 #[.val (.ref a1), .val (.int x), .val (.int (3 : Int32)), .val (.int (3 : Int32))] [(.int (3 : Int32)), (.int (3 : Int32))]) := fun t k => by
    refine go29 t ?_
    refine XS.iinc X24.here hx rfl (hb hby d3_14) rfl (l' := #[.val (.ref a1), .val (.int x), .val (.int (3 : Int32)), .val (.int (3 : Int32))]) rfl ?_
    show Steps p.tables e below (T24.setTop (mkF m 17 #[.val (.ref a1), .val (.int x), .val (.int (3 : Int32)), .val (.int (3 : Int32))] [])) _
    refine XS.goto X24.here hx rfl (pc0 := 17) (pc' := 5) rfl (hb hby d3_17) (by decide) (by decide) ?_
    show Steps p.tables e below (T24.setTop (mkF m 5 #[.val (.ref a1), .val (.int x), .val (.int (3 : Int32)), .val (.int (3 : Int32))] [])) _
    refine XS.iloadN X24.here hx rfl (hb hby d3_5) rfl ?_
    show Steps p.tables e below (T24.setTop (mkF m 6 #[.val (.ref a1), .val (.int x), .val (.int (3 : Int32)), .val (.int (3 : Int32))] [(.int (3 : Int32))])) _
    refine XS.iloadN X24.here hx rfl (hb hby d3_6) rfl ?_
    show Steps p.tables e below (T24.setTop (mkF m 7 #[.val (.ref a1), .val (.int x), .val (.int (3 : Int32)), .val (.int (3 : Int32))] [(.int (3 : Int32)), (.int (3 : Int32))])) _
    exact k
  have go31 : Goes p e below s₁ (entryFrame m #[(.ref a1), (.int x)] 4) T24 (mkF m 20 #[.val (.ref a1), .val (.int x), .val (.int (3 : Int32)), .val (.int (3 : Int32))] []) := fun t k => by
    refine go30 t ?_
    refine XS.icmpYes X24.here hx rfl (pc0 := 7) (pc' := 20) rfl (hb hby d3_7) rfl (Jvm.Free.XT.ii_ge_t (by decide)) (by decide) (by decide) ?_
    show Steps p.tables e below (T24.setTop (mkF m 20 #[.val (.ref a1), .val (.int x), .val (.int (3 : Int32)), .val (.int (3 : Int32))] [])) _
    exact k
  obtain ⟨fs, hr, hrun, hended, hW, hsame⟩ := X24.leave (v := none) (fun _ => rfl)
  refine ⟨_, _, go31 _ ?_, hrun, hended, _, _, rfl, ?_, ⟨_, rfl⟩, hW, hsame.mono (by decide) (by decide)⟩
  · exact X24.returnOut hx Bd.returns (hb hby d3_20) hr
  · show QF Z _ _ _ _ _ _ _ T24.heap _
    rw [e24]
    exact ⟨rfl, N28, K27, V25⟩
theorem pd_3 : parseMethodDescriptor "([II)V" = some ⟨[(.array .int), .int], none⟩ := by decide +kernel
theorem d1_0 : decode prog_17_method_1_code 0 = .ok (.aload_n 0, 1) := by decide +kernel
theorem d1_1 : decode prog_17_method_1_code 1 = .ok (.invokespecial 1, 3) := by decide +kernel
theorem d1_4 : decode prog_17_method_1_code 4 = .ok (.aload_n 0, 1) := by decide +kernel
theorem d1_5 : decode prog_17_method_1_code 5 = .ok (.iload_n 1, 1) := by decide +kernel
theorem d1_6 : decode prog_17_method_1_code 6 = .ok (.newarray .double, 2) := by decide +kernel
theorem d1_8 : decode prog_17_method_1_code 8 = .ok (.putfield 7, 3) := by decide +kernel
theorem d1_11 : decode prog_17_method_1_code 11 = .ok (.aload_n 0, 1) := by decide +kernel
theorem d1_12 : decode prog_17_method_1_code 12 = .ok (.iload_n 1, 1) := by decide +kernel
theorem d1_13 : decode prog_17_method_1_code 13 = .ok (.newarray .int, 2) := by decide +kernel
theorem d1_15 : decode prog_17_method_1_code 15 = .ok (.putfield 13, 3) := by decide +kernel
theorem d1_18 : decode prog_17_method_1_code 18 = .ok (.aload_n 0, 1) := by decide +kernel
theorem d1_19 : decode prog_17_method_1_code 19 = .ok (.iload_n 1, 1) := by decide +kernel
theorem d1_20 : decode prog_17_method_1_code 20 = .ok (.newarray .int, 2) := by decide +kernel
theorem d1_22 : decode prog_17_method_1_code 22 = .ok (.putfield 17, 3) := by decide +kernel
theorem d1_25 : decode prog_17_method_1_code 25 = .ok (.aload_n 0, 1) := by decide +kernel
theorem d1_26 : decode prog_17_method_1_code 26 = .ok (.getfield 17, 3) := by decide +kernel
theorem d1_29 : decode prog_17_method_1_code 29 = .ok (.iconst (-1), 1) := by decide +kernel
theorem d1_30 : decode prog_17_method_1_code 30 = .ok (.invokestatic 20, 3) := by decide +kernel
theorem d1_33 : decode prog_17_method_1_code 33 = .ok (.return_, 1) := by decide +kernel
theorem ef_rmN (m : MethodId) (a1 : Addr) : entryFrame m #[(.ref a1), (.int (3 : Int32))] 2 = mkF m 0 #[.val (.ref a1), .val (.int (3 : Int32))] [] := by first | (simp [entryFrame, mkF, argsToLocals, Value.category]; done) | rfl
def QN (Z : State) (a1 : Addr) (h0 : Heap) (n0 : Nat) (v : Option Value) (h : Heap) (L : List Loc) : Prop := v = none ∧ Fr n0 L ∧ Keep h0 h [a1] ∧ ∃ (aK aI aP : Addr) (kk ki kp : ClassId), h0.size ≤ aK ∧ h0.size ≤ aI ∧ h0.size ≤ aP ∧ aK ≠ aI ∧ aK ≠ aP ∧ aI ≠ aP ∧ Exa Z h a1 "com/example/covermesh/covermesh/algorithms/IndexedMinHeap" ∧ Fld Z h a1 "com/example/covermesh/covermesh/algorithms/IndexedMinHeap" "keys" "[D" (.ref aK) ∧ Fld Z h a1 "com/example/covermesh/covermesh/algorithms/IndexedMinHeap" "items" "[I" (.ref aI) ∧ Fld Z h a1 "com/example/covermesh/covermesh/algorithms/IndexedMinHeap" "positions" "[I" (.ref aP) ∧ Fld Z h a1 "com/example/covermesh/covermesh/algorithms/IndexedMinHeap" "size" "I" (.int (0 : Int32)) ∧ Arv Z h aK kk .double 3 (own_d (fun _ => 0)) (.double (0 : UInt64)) ∧ Arv Z h aI ki .int 3 (own_l (fun _ => 0)) (.int (0 : Int32)) ∧ Arv Z h aP kp .int 3 (own_l (fun _ => -1)) (.int (0 : Int32))
set_option maxRecDepth 65536 in
set_option maxHeartbeats 40000000 in
theorem rmN (l : Launch) (Z : State) (a0 : Array Value) (hw : ∀ d ∈ tables_1, d.before a0 Z = true) (ws : List Jvm.Cond) (a1 : Addr) (h0 : Heap) (n0 : Nat) (Z0 : n0 ≤ h0.size) (E1 : Exa Z h0 a1 "com/example/covermesh/covermesh/algorithms/IndexedMinHeap") (FK : Fld Z h0 a1 "com/example/covermesh/covermesh/algorithms/IndexedMinHeap" "keys" "[D" .null) (FI : Fld Z h0 a1 "com/example/covermesh/covermesh/algorithms/IndexedMinHeap" "items" "[I" .null) (FP : Fld Z h0 a1 "com/example/covermesh/covermesh/algorithms/IndexedMinHeap" "positions" "[I" .null) (FS : Fld Z h0 a1 "com/example/covermesh/covermesh/algorithms/IndexedMinHeap" "size" "I" (.int (0 : Int32))) (gA : n0 ≤ a1) :
    MetFree l (⟨"com/example/covermesh/covermesh/algorithms/IndexedMinHeap", "<init>", "(I)V"⟩ : MethodName) (head1 (Jvm.Cond.code (⟨"com/example/covermesh/covermesh/algorithms/IndexedMinHeap", "<init>", "(I)V"⟩ : MethodName) prog_17_method_1_code 2 none :: ws) ({ frames := 1, cells := 3, slots := 9, locals := 15 } : Room)) (fun a U => a = #[(.ref a1), (.int (3 : Int32))] ∧ Z.Warmed39 U.vm ∧ U.heap = h0) (fun _ _ _ _ _ => True) (fun _ U o U' => ∃ v L, o = .returned v ∧ QN Z a1 h0 n0 v U'.heap L ∧ FrameEnd U o U' L ({ frames := 1, cells := 3, slots := 9, locals := 15 } : Room).cells ({ frames := 1, cells := 3, slots := 9, locals := 15 } : Room).slots) := by
  refine MetFree.of_bodySF (plainFor_of_name pn_0) hisR ?_
  intro p e s m args below meth c s₁ Bd hml0 hP hK
  obtain ⟨rfl, hZ, hh⟩ := hP
  have hx := Bd.exec
  have hby := Bd.bytes
  have hml : c.maxLocals = 2 := hml0
  have hown : s.vm.findClass "com/example/covermesh/covermesh/algorithms/IndexedMinHeap" = some m.cls := findClass_of_methodNamed Bd.named
  have hnm := (name_of_methodNamed Bd.named Bd.method).1
  have X0 : Stand p l e ({ frames := 1, cells := 3, slots := 9, locals := 15 } : Room) s m #[(.ref a1), (.int (3 : Int32))] below meth c s₁ [] 0 0 := Stand.of_body Bd
  have e0 : s₁.heap = h0 := by rw [← hh, Bd.state]; rfl
  have N0 := Fr.nil n0
  have K0 := Keep.refl h0 [a1]
  have go0 : Goes p e below s₁ (entryFrame m #[(.ref a1), (.int (3 : Int32))] 2) s₁ (mkF m 0 #[.val (.ref a1), .val (.int (3 : Int32))] []) := fun t k => castTop (ef_rmN m a1) k
  have go1 : Goes p e below s₁ (entryFrame m #[(.ref a1), (.int (3 : Int32))] 2) s₁ (mkF m 1 #[.val (.ref a1), .val (.int (3 : Int32))] [(.ref a1)]) := fun t k => by
    refine go0 t ?_
    refine XS.aloadN X0.here hx rfl (hb hby d1_0) rfl rfl ?_
    show Steps p.tables e below (s₁.setTop (mkF m 1 #[.val (.ref a1), .val (.int (3 : Int32))] [(.ref a1)])) _
    exact k
  obtain ⟨T2, X2, e2, st2⟩ := initO X0 hx hZ hown (hw _ (List.mem_of_getElem? (i := 6) rfl)) (hw _ (List.mem_of_getElem? (i := 7) rfl)) (hw _ (List.mem_of_getElem? (i := 8) rfl)) e0 (g := (mkF m 1 #[.val (.ref a1), .val (.int (3 : Int32))] [(.ref a1)])) rfl (by rw [hml]; rfl) rfl (hb hby d1_1) (by decide) (W := 0) (by show 2 * 0 + _ ≤ _; exact Nat.le_of_eq rfl) (by decide)
  have go3 : Goes p e below s₁ (entryFrame m #[(.ref a1), (.int (3 : Int32))] 2) T2 (mkF m 4 #[.val (.ref a1), .val (.int (3 : Int32))] []) := fun t k => go1 t (st2 t k)
  have go4 : Goes p e below s₁ (entryFrame m #[(.ref a1), (.int (3 : Int32))] 2) T2 (mkF m 6 #[.val (.ref a1), .val (.int (3 : Int32))] [(.int (3 : Int32)), (.ref a1)]) := fun t k => by
    refine go3 t ?_
    refine XS.aloadN X2.here hx rfl (hb hby d1_4) rfl rfl ?_
    show Steps p.tables e below (T2.setTop (mkF m 5 #[.val (.ref a1), .val (.int (3 : Int32))] [(.ref a1)])) _
    refine XS.iloadN X2.here hx rfl (hb hby d1_5) rfl ?_
    show Steps p.tables e below (T2.setTop (mkF m 6 #[.val (.ref a1), .val (.int (3 : Int32))] [(.int (3 : Int32)), (.ref a1)])) _
    exact k
  obtain ⟨T5, h5, k5, X5, e5, E5, A5, st5⟩ := newP X2 hx hZ (hw _ (List.mem_of_getElem? (i := 9) rfl)) e2 (g := (mkF m 6 #[.val (.ref a1), .val (.int (3 : Int32))] [(.int (3 : Int32)), (.ref a1)])) rfl (hb hby d1_6) rfl (by decide) (cap := 3) (by decide) (by decide) (by decide) (by decide)
  obtain ⟨b5, g_b_b5⟩ : ∃ z, z = h0.size := ⟨_, rfl⟩
  have le_b5 : h0.size ≤ b5 := Nat.le_of_eq g_b_b5.symm
  have gn_b5 : n0 ≤ b5 := Nat.le_trans Z0 le_b5
  have sz_b5 : h0.size ≤ b5 := Nat.le_trans K0.1 le_b5
  rw [← g_b_b5] at A5 st5
  have f6 := E1.ext E5
  have f7 := FK.ext E5
  have f8 := FI.ext E5
  have f9 := FP.ext E5
  have f10 := FS.ext E5
  have Z11 := Nat.le_trans Z0 E5.1
  have K12 := K0.ext E5
  have V13 : Arv Z h5 b5 k5 .double (3 : Int32) [(.double (0 : UInt64)), (.double (0 : UInt64)), (.double (0 : UInt64))] (.double (0 : UInt64)) := (Arv.new A5 (by decide)).pad (pad_rep [] (.double (0 : UInt64)) 3)
  have go14 : Goes p e below s₁ (entryFrame m #[(.ref a1), (.int (3 : Int32))] 2) T5 (mkF m 8 #[.val (.ref a1), .val (.int (3 : Int32))] [(.ref b5), (.ref a1)]) := fun t k => go4 t (st5 t k)
  obtain ⟨T15, h15, X15, e15, W15, st15⟩ := putF X5 hx hZ hown (host := "") (Or.inl (hw _ (List.mem_of_getElem? (i := 10) rfl))) Via.refl e5 f7 f6 (Or.inr ⟨(hw _ (List.mem_of_getElem? (i := 11) rfl)), rfl, hnm⟩) (hw _ (List.mem_of_getElem? (i := 1) rfl)) (ty := (.array .double)) (by decide) rfl rfl (g := (mkF m 8 #[.val (.ref a1), .val (.int (3 : Int32))] [(.ref b5), (.ref a1)])) rfl rfl (hb hby d1_8)
  have f16 := f7.same W15
  have f17 := f6.wr W15
  have f18 := f8.other W15 (Or.inr (slot_ne (Or.inr (hw _ (List.mem_of_getElem? (i := 14) rfl))) (Or.inr (hw _ (List.mem_of_getElem? (i := 11) rfl))) (by decide) (t := (.array .int)) (t' := (.array .double)) (by decide) (by decide)))
  have f19 := f9.other W15 (Or.inr (slot_ne (Or.inr (hw _ (List.mem_of_getElem? (i := 16) rfl))) (Or.inr (hw _ (List.mem_of_getElem? (i := 11) rfl))) (by decide) (t := (.array .int)) (t' := (.array .double)) (by decide) (by decide)))
  have f20 := f10.other W15 (Or.inr (slot_ne (Or.inl (hw _ (List.mem_of_getElem? (i := 27) rfl))) (Or.inr (hw _ (List.mem_of_getElem? (i := 11) rfl))) (by decide) (t := .int) (t' := (.array .double)) (by decide) (by decide)))
  have f21 := V13.other W15 (Ne.symm (Nat.ne_of_lt (Nat.lt_of_lt_of_le FS.lt le_b5)))
  have Z22 := Nat.le_trans Z11 (Nat.le_of_eq W15.size.symm)
  have K23 := K12.wr W15 (Or.inl (List.mem_of_getElem? (i := 0) rfl))
  have N24 := Fr.snoc X15 N0 gA
  have go25 : Goes p e below s₁ (entryFrame m #[(.ref a1), (.int (3 : Int32))] 2) T15 (mkF m 11 #[.val (.ref a1), .val (.int (3 : Int32))] []) := fun t k => go14 t (st15 t k)
  have go26 : Goes p e below s₁ (entryFrame m #[(.ref a1), (.int (3 : Int32))] 2) T15 (mkF m 13 #[.val (.ref a1), .val (.int (3 : Int32))] [(.int (3 : Int32)), (.ref a1)]) := fun t k => by
    refine go25 t ?_
    refine XS.aloadN X15.here hx rfl (hb hby d1_11) rfl rfl ?_
    show Steps p.tables e below (T15.setTop (mkF m 12 #[.val (.ref a1), .val (.int (3 : Int32))] [(.ref a1)])) _
    refine XS.iloadN X15.here hx rfl (hb hby d1_12) rfl ?_
    show Steps p.tables e below (T15.setTop (mkF m 13 #[.val (.ref a1), .val (.int (3 : Int32))] [(.int (3 : Int32)), (.ref a1)])) _
    exact k
  obtain ⟨T27, h27, k27, X27, e27, E27, A27, st27⟩ := newP X15 hx hZ (hw _ (List.mem_of_getElem? (i := 12) rfl)) e15 (g := (mkF m 13 #[.val (.ref a1), .val (.int (3 : Int32))] [(.int (3 : Int32)), (.ref a1)])) rfl (hb hby d1_13) rfl (by decide) (cap := 3) (by decide) (by decide) (by decide) (by decide)
  obtain ⟨b27, g_b_b27⟩ : ∃ z, z = h15.size := ⟨_, rfl⟩
  have le_b27 : h15.size ≤ b27 := Nat.le_of_eq g_b_b27.symm
  have gn_b27 : n0 ≤ b27 := Nat.le_trans Z22 le_b27
  have sz_b27 : h0.size ≤ b27 := Nat.le_trans K23.1 le_b27
  rw [← g_b_b27] at A27 st27
  have f28 := f17.ext E27
  have f29 := f18.ext E27
  have f30 := f19.ext E27
  have f31 := f20.ext E27
  have f32 := f21.ext E27
  have f33 := f16.ext E27
  have Z34 := Nat.le_trans Z22 E27.1
  have K35 := K23.ext E27
  have V36 : Arv Z h27 b27 k27 .int (3 : Int32) [(.int (0 : Int32)), (.int (0 : Int32)), (.int (0 : Int32))] (.int (0 : Int32)) := (Arv.new A27 (by decide)).pad (pad_rep [] (.int (0 : Int32)) 3)
  have go37 : Goes p e below s₁ (entryFrame m #[(.ref a1), (.int (3 : Int32))] 2) T27 (mkF m 15 #[.val (.ref a1), .val (.int (3 : Int32))] [(.ref b27), (.ref a1)]) := fun t k => go26 t (st27 t k)
  obtain ⟨T38, h38, X38, e38, W38, st38⟩ := putF X27 hx hZ hown (host := "") (Or.inl (hw _ (List.mem_of_getElem? (i := 13) rfl))) Via.refl e27 f29 f28 (Or.inr ⟨(hw _ (List.mem_of_getElem? (i := 14) rfl)), rfl, hnm⟩) (hw _ (List.mem_of_getElem? (i := 1) rfl)) (ty := (.array .int)) (by decide) rfl rfl (g := (mkF m 15 #[.val (.ref a1), .val (.int (3 : Int32))] [(.ref b27), (.ref a1)])) rfl rfl (hb hby d1_15)
  have f39 := f29.same W38
  have f40 := f28.wr W38
  have f41 := f30.other W38 (Or.inr (slot_ne (Or.inr (hw _ (List.mem_of_getElem? (i := 16) rfl))) (Or.inr (hw _ (List.mem_of_getElem? (i := 14) rfl))) (by decide) (t := (.array .int)) (t' := (.array .int)) (by decide) (by decide)))
  have f42 := f31.other W38 (Or.inr (slot_ne (Or.inl (hw _ (List.mem_of_getElem? (i := 27) rfl))) (Or.inr (hw _ (List.mem_of_getElem? (i := 14) rfl))) (by decide) (t := .int) (t' := (.array .int)) (by decide) (by decide)))
  have f43 := f32.other W38 (Ne.symm (Nat.ne_of_lt (Nat.lt_of_lt_of_le FS.lt le_b5)))
  have f44 := f33.other W38 (Or.inr (slot_ne (Or.inr (hw _ (List.mem_of_getElem? (i := 11) rfl))) (Or.inr (hw _ (List.mem_of_getElem? (i := 14) rfl))) (by decide) (t := (.array .double)) (t' := (.array .int)) (by decide) (by decide)))
  have f45 := V36.other W38 (Ne.symm (Nat.ne_of_lt (Nat.lt_of_lt_of_le f16.lt le_b27)))
  have Z46 := Nat.le_trans Z34 (Nat.le_of_eq W38.size.symm)
  have K47 := K35.wr W38 (Or.inl (List.mem_of_getElem? (i := 0) rfl))
  have N48 := Fr.snoc X38 N24 gA
  have go49 : Goes p e below s₁ (entryFrame m #[(.ref a1), (.int (3 : Int32))] 2) T38 (mkF m 18 #[.val (.ref a1), .val (.int (3 : Int32))] []) := fun t k => go37 t (st38 t k)
  have go50 : Goes p e below s₁ (entryFrame m #[(.ref a1), (.int (3 : Int32))] 2) T38 (mkF m 20 #[.val (.ref a1), .val (.int (3 : Int32))] [(.int (3 : Int32)), (.ref a1)]) := fun t k => by
    refine go49 t ?_
    refine XS.aloadN X38.here hx rfl (hb hby d1_18) rfl rfl ?_
    show Steps p.tables e below (T38.setTop (mkF m 19 #[.val (.ref a1), .val (.int (3 : Int32))] [(.ref a1)])) _
    refine XS.iloadN X38.here hx rfl (hb hby d1_19) rfl ?_
    show Steps p.tables e below (T38.setTop (mkF m 20 #[.val (.ref a1), .val (.int (3 : Int32))] [(.int (3 : Int32)), (.ref a1)])) _
    exact k
  obtain ⟨T51, h51, k51, X51, e51, E51, A51, st51⟩ := newP X38 hx hZ (hw _ (List.mem_of_getElem? (i := 12) rfl)) e38 (g := (mkF m 20 #[.val (.ref a1), .val (.int (3 : Int32))] [(.int (3 : Int32)), (.ref a1)])) rfl (hb hby d1_20) rfl (by decide) (cap := 3) (by decide) (by decide) (by decide) (by decide)
  obtain ⟨b51, g_b_b51⟩ : ∃ z, z = h38.size := ⟨_, rfl⟩
  have le_b51 : h38.size ≤ b51 := Nat.le_of_eq g_b_b51.symm
  have gn_b51 : n0 ≤ b51 := Nat.le_trans Z46 le_b51
  have sz_b51 : h0.size ≤ b51 := Nat.le_trans K47.1 le_b51
  rw [← g_b_b51] at A51 st51
  have f52 := f40.ext E51
  have f53 := f41.ext E51
  have f54 := f42.ext E51
  have f55 := f43.ext E51
  have f56 := f44.ext E51
  have f57 := f45.ext E51
  have f58 := f39.ext E51
  have Z59 := Nat.le_trans Z46 E51.1
  have K60 := K47.ext E51
  have V61 : Arv Z h51 b51 k51 .int (3 : Int32) [(.int (0 : Int32)), (.int (0 : Int32)), (.int (0 : Int32))] (.int (0 : Int32)) := (Arv.new A51 (by decide)).pad (pad_rep [] (.int (0 : Int32)) 3)
  have go62 : Goes p e below s₁ (entryFrame m #[(.ref a1), (.int (3 : Int32))] 2) T51 (mkF m 22 #[.val (.ref a1), .val (.int (3 : Int32))] [(.ref b51), (.ref a1)]) := fun t k => go50 t (st51 t k)
  obtain ⟨T63, h63, X63, e63, W63, st63⟩ := putF X51 hx hZ hown (host := "") (Or.inl (hw _ (List.mem_of_getElem? (i := 15) rfl))) Via.refl e51 f53 f52 (Or.inr ⟨(hw _ (List.mem_of_getElem? (i := 16) rfl)), rfl, hnm⟩) (hw _ (List.mem_of_getElem? (i := 1) rfl)) (ty := (.array .int)) (by decide) rfl rfl (g := (mkF m 22 #[.val (.ref a1), .val (.int (3 : Int32))] [(.ref b51), (.ref a1)])) rfl rfl (hb hby d1_22)
  have f64 := f53.same W63
  have f65 := f52.wr W63
  have f66 := f54.other W63 (Or.inr (slot_ne (Or.inl (hw _ (List.mem_of_getElem? (i := 27) rfl))) (Or.inr (hw _ (List.mem_of_getElem? (i := 16) rfl))) (by decide) (t := .int) (t' := (.array .int)) (by decide) (by decide)))
  have f67 := f55.other W63 (Ne.symm (Nat.ne_of_lt (Nat.lt_of_lt_of_le FS.lt le_b5)))
  have f68 := f56.other W63 (Or.inr (slot_ne (Or.inr (hw _ (List.mem_of_getElem? (i := 11) rfl))) (Or.inr (hw _ (List.mem_of_getElem? (i := 16) rfl))) (by decide) (t := (.array .double)) (t' := (.array .int)) (by decide) (by decide)))
  have f69 := f57.other W63 (Ne.symm (Nat.ne_of_lt (Nat.lt_of_lt_of_le f16.lt le_b27)))
  have f70 := f58.other W63 (Or.inr (slot_ne (Or.inr (hw _ (List.mem_of_getElem? (i := 14) rfl))) (Or.inr (hw _ (List.mem_of_getElem? (i := 16) rfl))) (by decide) (t := (.array .int)) (t' := (.array .int)) (by decide) (by decide)))
  have f71 := V61.other W63 (Ne.symm (Nat.ne_of_lt (Nat.lt_of_lt_of_le f39.lt le_b51)))
  have Z72 := Nat.le_trans Z59 (Nat.le_of_eq W63.size.symm)
  have K73 := K60.wr W63 (Or.inl (List.mem_of_getElem? (i := 0) rfl))
  have N74 := Fr.snoc X63 N48 gA
  have go75 : Goes p e below s₁ (entryFrame m #[(.ref a1), (.int (3 : Int32))] 2) T63 (mkF m 25 #[.val (.ref a1), .val (.int (3 : Int32))] []) := fun t k => go62 t (st63 t k)
  have go76 : Goes p e below s₁ (entryFrame m #[(.ref a1), (.int (3 : Int32))] 2) T63 (mkF m 26 #[.val (.ref a1), .val (.int (3 : Int32))] [(.ref a1)]) := fun t k => by
    refine go75 t ?_
    refine XS.aloadN X63.here hx rfl (hb hby d1_25) rfl rfl ?_
    show Steps p.tables e below (T63.setTop (mkF m 26 #[.val (.ref a1), .val (.int (3 : Int32))] [(.ref a1)])) _
    exact k
  obtain ⟨T77, X77, e77, st77⟩ := getF X63 hx hZ hown (host := "") (Or.inl (hw _ (List.mem_of_getElem? (i := 15) rfl))) Via.refl e63 f64 (g := (mkF m 26 #[.val (.ref a1), .val (.int (3 : Int32))] [(.ref a1)])) rfl rfl (hb hby d1_26)
  have go78 : Goes p e below s₁ (entryFrame m #[(.ref a1), (.int (3 : Int32))] 2) T77 (mkF m 29 #[.val (.ref a1), .val (.int (3 : Int32))] [(.ref b51)]) := fun t k => go76 t (st77 t k)
  have go79 : Goes p e below s₁ (entryFrame m #[(.ref a1), (.int (3 : Int32))] 2) T77 (mkF m 30 #[.val (.ref a1), .val (.int (3 : Int32))] [(.int (-1 : Int32)), (.ref b51)]) := fun t k => by
    refine go78 t ?_
    refine XS.iconst X77.here hx rfl (hb hby d1_29) ?_
    show Steps p.tables e below (T77.setTop (mkF m 30 #[.val (.ref a1), .val (.int (3 : Int32))] [(.int (-1 : Int32)), (.ref b51)])) _
    exact k
  obtain ⟨_, _, ⟨T80, L80, k80, n80⟩, -, X80, ⟨Lc80, hQ80, l80, y80, z80⟩, st80⟩ := Jvm.LawKit.callS X77 hx (y := (⟨"java/util/Arrays", "fill", "([II)V"⟩ : MethodName)) hown (mvT hZ (hw _ (List.mem_of_getElem? (i := 17) rfl))) (mvT hZ (hw _ (List.mem_of_getElem? (i := 18) rfl))) (mvT hZ (hw _ (List.mem_of_getElem? (i := 19) rfl))) (mvT hZ (hw _ (List.mem_of_getElem? (i := 20) rfl))) (by decide) (backOf (W := 0) (rmF l Z a0 hw [] b51 (-1 : Int32) k51 (fun _ => 0) h63 n0 Z72 f71 gn_b51) hZ (hw _ (List.mem_of_getElem? (i := 20) rfl)) (hw _ (List.mem_of_getElem? (i := 19) rfl)) (by decide) (by decide)) (g := (mkF m 30 #[.val (.ref a1), .val (.int (3 : Int32))] [(.int (-1 : Int32)), (.ref b51)])) rfl (by rw [hml]; rfl) (argsL := [(.ref b51), (.int (-1 : Int32))]) (rest := []) (lenOf pd_3 rfl) rfl (by show 2 * 0 + _ ≤ _; exact Nat.le_of_eq rfl) (hb hby d1_30) (fun _ _ => ⟨rfl, e77, (by decide : 3 + 0 ≤ ({ frames := 1, cells := 3, slots := 9, locals := 15 } : Room).cells), (by decide : 9 + 0 ≤ ({ frames := 1, cells := 3, slots := 9, locals := 15 } : Room).slots)⟩)
  dsimp only [Pt.U, Pt.locs, Pt.cells, Pt.slots] at X80 l80 y80 z80 st80 hQ80
  subst l80 y80 z80
  obtain ⟨rfl, N80q, Kq80, Vq80⟩ := hQ80
  have N80 := Fr.app N74 N80q
  have f81 := f65.keep Kq80
  have f82 := f66.keep Kq80 (ninS (Nat.ne_of_lt (Nat.lt_of_lt_of_le f39.lt le_b51)) nin0)
  have f83 := f67.keep Kq80 (ninS (Nat.ne_of_lt (Nat.lt_of_lt_of_le f43.lt le_b51)) nin0)
  have f84 := f68.keep Kq80 (ninS (Nat.ne_of_lt (Nat.lt_of_lt_of_le f39.lt le_b51)) nin0)
  have f85 := f69.keep Kq80 (ninS (Nat.ne_of_lt (Nat.lt_of_lt_of_le f45.lt le_b51)) nin0)
  have f86 := f70.keep Kq80 (ninS (Nat.ne_of_lt (Nat.lt_of_lt_of_le f39.lt le_b51)) nin0)
  have f87 := f64.keep Kq80 (ninS (Nat.ne_of_lt (Nat.lt_of_lt_of_le f39.lt le_b51)) nin0)
  have Z88 := Nat.le_trans Z72 Kq80.1
  have K89 := K73.trans Kq80 (allS (Or.inr sz_b51) all0)
  have go90 : Goes p e below s₁ (entryFrame m #[(.ref a1), (.int (3 : Int32))] 2) T80 (mkF m 33 #[.val (.ref a1), .val (.int (3 : Int32))] []) := fun t k => go79 t (st80 t k)
  obtain ⟨fs, hr, hrun, hended, hW, hsame⟩ := X80.leave (v := none) (fun _ => rfl)
  refine ⟨_, _, go90 _ ?_, hrun, hended, _, _, rfl, ?_, ⟨_, rfl⟩, hW, hsame.mono (by decide) (by decide)⟩
  · exact X80.returnOut hx Bd.returns (hb hby d1_33) hr
  · show QN Z _ _ _ _ T80.heap _
    exact ⟨rfl, N80, K89, b5, b27, b51, _, _, _, sz_b5, sz_b27, sz_b51, (Nat.ne_of_lt (Nat.lt_of_lt_of_le f21.lt le_b27)), (Nat.ne_of_lt (Nat.lt_of_lt_of_le f43.lt le_b51)), (Nat.ne_of_lt (Nat.lt_of_lt_of_le f45.lt le_b51)), f81, f84, f86, f87, f82, f83, f85, Vq80⟩
theorem d4_0 : decode prog_17_method_2_code 0 = .ok (.aload_n 0, 1) := by decide +kernel
theorem d4_1 : decode prog_17_method_2_code 1 = .ok (.getfield 26, 3) := by decide +kernel
theorem d4_4 : decode prog_17_method_2_code 4 = .ok (.ifCond .ne 7, 3) := by decide +kernel
theorem d4_7 : decode prog_17_method_2_code 7 = .ok (.iconst 1, 1) := by decide +kernel
theorem d4_8 : decode prog_17_method_2_code 8 = .ok (.goto 4, 3) := by decide +kernel
theorem d4_11 : decode prog_17_method_2_code 11 = .ok (.iconst 0, 1) := by decide +kernel
theorem d4_12 : decode prog_17_method_2_code 12 = .ok (.ireturn, 1) := by decide +kernel
theorem ef_rmE (m : MethodId) (a1 : Addr) : entryFrame m #[(.ref a1)] 1 = mkF m 0 #[.val (.ref a1)] [] := by first | (simp [entryFrame, mkF, argsToLocals, Value.category]; done) | rfl
def QE (Z : State) (a1 : Addr) (n : Int32) (h0 : Heap) (n0 : Nat) (v : Option Value) (h : Heap) (L : List Loc) : Prop := v = some (.int (own_e n)) ∧ Fr n0 L ∧ h = h0
set_option maxRecDepth 65536 in
set_option maxHeartbeats 40000000 in
theorem rmE (l : Launch) (Z : State) (a0 : Array Value) (hw : ∀ d ∈ tables_1, d.before a0 Z = true) (ws : List Jvm.Cond) (a1 : Addr) (n : Int32) (h0 : Heap) (n0 : Nat) (Z0 : n0 ≤ h0.size) (FS : Fld Z h0 a1 "com/example/covermesh/covermesh/algorithms/IndexedMinHeap" "size" "I" (.int n)) :
    MetFree l (⟨"com/example/covermesh/covermesh/algorithms/IndexedMinHeap", "isEmpty", "()Z"⟩ : MethodName) (head1 (Jvm.Cond.code (⟨"com/example/covermesh/covermesh/algorithms/IndexedMinHeap", "isEmpty", "()Z"⟩ : MethodName) prog_17_method_2_code 1 (some .boolean) :: ws) ({ frames := 0, cells := 0, slots := 0, locals := 0 } : Room)) (fun a U => a = #[(.ref a1)] ∧ Z.Warmed39 U.vm ∧ U.heap = h0) (fun _ _ _ _ _ => True) (fun _ U o U' => ∃ v L, o = .returned v ∧ QE Z a1 n h0 n0 v U'.heap L ∧ FrameEnd U o U' L ({ frames := 0, cells := 0, slots := 0, locals := 0 } : Room).cells ({ frames := 0, cells := 0, slots := 0, locals := 0 } : Room).slots) := by
  refine MetFree.of_bodySF (plainFor_of_name pn_0) hisR ?_
  intro p e s m args below meth c s₁ Bd hml0 hP hK
  obtain ⟨rfl, hZ, hh⟩ := hP
  have hx := Bd.exec
  have hby := Bd.bytes
  have hml : c.maxLocals = 1 := hml0
  have hown : s.vm.findClass "com/example/covermesh/covermesh/algorithms/IndexedMinHeap" = some m.cls := findClass_of_methodNamed Bd.named
  have hnm := (name_of_methodNamed Bd.named Bd.method).1
  have X0 : Stand p l e ({ frames := 0, cells := 0, slots := 0, locals := 0 } : Room) s m #[(.ref a1)] below meth c s₁ [] 0 0 := Stand.of_body Bd
  have e0 : s₁.heap = h0 := by rw [← hh, Bd.state]; rfl
  have N0 := Fr.nil n0
  have K0 := Keep.refl h0 []
  have go0 : Goes p e below s₁ (entryFrame m #[(.ref a1)] 1) s₁ (mkF m 0 #[.val (.ref a1)] []) := fun t k => castTop (ef_rmE m a1) k
  have go1 : Goes p e below s₁ (entryFrame m #[(.ref a1)] 1) s₁ (mkF m 1 #[.val (.ref a1)] [(.ref a1)]) := fun t k => by
    refine go0 t ?_
    refine XS.aloadN X0.here hx rfl (hb hby d4_0) rfl rfl ?_
    show Steps p.tables e below (s₁.setTop (mkF m 1 #[.val (.ref a1)] [(.ref a1)])) _
    exact k
  obtain ⟨T2, X2, e2, st2⟩ := getF X0 hx hZ hown (host := "") (Or.inl (hw _ (List.mem_of_getElem? (i := 26) rfl))) Via.refl e0 FS (g := (mkF m 1 #[.val (.ref a1)] [(.ref a1)])) rfl rfl (hb hby d4_1)
  have go3 : Goes p e below s₁ (entryFrame m #[(.ref a1)] 1) T2 (mkF m 4 #[.val (.ref a1)] [(.int n)]) := fun t k => go1 t (st2 t k)
  by_cases hc4 : n = (0 : Int32)
  · have go5 : Goes p e below s₁ (entryFrame m #[(.ref a1)] 1) T2 (mkF m 12 #[.val (.ref a1)] [(.int (1 : Int32))]) := fun t k => by
      refine go3 t ?_
      refine XS.ifNo X2.here hx rfl (hb hby d4_4) rfl (Jvm.Free.XT.i0_ne_f hc4) ?_
      show Steps p.tables e below (T2.setTop (mkF m 7 #[.val (.ref a1)] [])) _
      refine XS.iconst X2.here hx rfl (hb hby d4_7) ?_
      show Steps p.tables e below (T2.setTop (mkF m 8 #[.val (.ref a1)] [(.int (1 : Int32))])) _
      refine XS.goto X2.here hx rfl (pc0 := 8) (pc' := 12) rfl (hb hby d4_8) (by decide) (by decide) ?_
      show Steps p.tables e below (T2.setTop (mkF m 12 #[.val (.ref a1)] [(.int (1 : Int32))])) _
      exact k
    obtain ⟨fs, hr, hrun, hended, hW, hsame⟩ := X2.leave (v := some (.int (1 : Int32))) (fun h => by rw [Bd.returns] at h; cases h)
    refine ⟨_, _, go5 _ ?_, hrun, hended, _, _, rfl, ?_, ⟨_, rfl⟩, hW, hsame.mono (by decide) (by decide)⟩
    · exact retN X2 hx (t := .boolean) Bd.returns (by simp) (hb hby d4_12) hr
    · show QE Z _ _ _ _ _ T2.heap _
      rw [e2]
      exact ⟨by simp [own_e, hc4], N0, rfl⟩
  · have go6 : Goes p e below s₁ (entryFrame m #[(.ref a1)] 1) T2 (mkF m 12 #[.val (.ref a1)] [(.int (0 : Int32))]) := fun t k => by
      refine go3 t ?_
      refine XS.ifYes X2.here hx rfl (pc0 := 4) (pc' := 11) rfl (hb hby d4_4) rfl (Jvm.Free.XT.i0_ne_t hc4) (by decide) (by decide) ?_
      show Steps p.tables e below (T2.setTop (mkF m 11 #[.val (.ref a1)] [])) _
      refine XS.iconst X2.here hx rfl (hb hby d4_11) ?_
      show Steps p.tables e below (T2.setTop (mkF m 12 #[.val (.ref a1)] [(.int (0 : Int32))])) _
      exact k
    obtain ⟨fs, hr, hrun, hended, hW, hsame⟩ := X2.leave (v := some (.int (0 : Int32))) (fun h => by rw [Bd.returns] at h; cases h)
    refine ⟨_, _, go6 _ ?_, hrun, hended, _, _, rfl, ?_, ⟨_, rfl⟩, hW, hsame.mono (by decide) (by decide)⟩
    · exact retN X2 hx (t := .boolean) Bd.returns (by simp) (hb hby d4_12) hr
    · show QE Z _ _ _ _ _ T2.heap _
      rw [e2]
      exact ⟨by simp [own_e, hc4], N0, rfl⟩
theorem d5_0 : decode method_2_code 0 = .ok (.iload_n 0, 1) := by decide +kernel
theorem d5_1 : decode method_2_code 1 = .ok (.ifCond .eq 7, 3) := by decide +kernel
theorem d5_4 : decode method_2_code 4 = .ok (.iconst 1, 1) := by decide +kernel
theorem d5_5 : decode method_2_code 5 = .ok (.goto 4, 3) := by decide +kernel
theorem d5_8 : decode method_2_code 8 = .ok (.iconst 0, 1) := by decide +kernel
theorem d5_9 : decode method_2_code 9 = .ok (.ireturn, 1) := by decide +kernel
theorem pn_2 : plainName "com/example/covermesh/covermesh/algorithms/IndexedMinHeapIsEmptyPinLaw" = true := by first | (simp [plainName, overriddenIn]; done) | decide +kernel
theorem ef_rmO (m : MethodId) (x : Int32) : entryFrame m #[(.int x)] 1 = mkF m 0 #[.val (.int x)] [] := by first | (simp [entryFrame, mkF, argsToLocals, Value.category]; done) | rfl
def QO (Z : State) (x : Int32) (h0 : Heap) (n0 : Nat) (v : Option Value) (h : Heap) (L : List Loc) : Prop := v = some (.int x) ∧ Fr n0 L ∧ h = h0
set_option maxRecDepth 65536 in
set_option maxHeartbeats 40000000 in
theorem rmO (l : Launch) (Z : State) (a0 : Array Value) (hw : ∀ d ∈ tables_1, d.before a0 Z = true) (ws : List Jvm.Cond) (x : Int32) (h0 : Heap) (n0 : Nat) (Z0 : n0 ≤ h0.size) (hx01 : x = 0 ∨ x = 1) :
    MetFree l (⟨"com/example/covermesh/covermesh/algorithms/IndexedMinHeapIsEmptyPinLaw", "one", "(Z)I"⟩ : MethodName) (head1 (Jvm.Cond.code (⟨"com/example/covermesh/covermesh/algorithms/IndexedMinHeapIsEmptyPinLaw", "one", "(Z)I"⟩ : MethodName) method_2_code 1 (some .int) :: ws) ({ frames := 0, cells := 0, slots := 0, locals := 0 } : Room)) (fun a U => a = #[(.int x)] ∧ Z.Warmed39 U.vm ∧ U.heap = h0) (fun _ _ _ _ _ => True) (fun _ U o U' => ∃ v L, o = .returned v ∧ QO Z x h0 n0 v U'.heap L ∧ FrameEnd U o U' L ({ frames := 0, cells := 0, slots := 0, locals := 0 } : Room).cells ({ frames := 0, cells := 0, slots := 0, locals := 0 } : Room).slots) := by
  refine MetFree.of_bodySF (plainFor_of_name pn_2) hisR ?_
  intro p e s m args below meth c s₁ Bd hml0 hP hK
  obtain ⟨rfl, hZ, hh⟩ := hP
  have hx := Bd.exec
  have hby := Bd.bytes
  have hml : c.maxLocals = 1 := hml0
  have hown : s.vm.findClass "com/example/covermesh/covermesh/algorithms/IndexedMinHeapIsEmptyPinLaw" = some m.cls := findClass_of_methodNamed Bd.named
  have hnm := (name_of_methodNamed Bd.named Bd.method).1
  have X0 : Stand p l e ({ frames := 0, cells := 0, slots := 0, locals := 0 } : Room) s m #[(.int x)] below meth c s₁ [] 0 0 := Stand.of_body Bd
  have e0 : s₁.heap = h0 := by rw [← hh, Bd.state]; rfl
  have N0 := Fr.nil n0
  have K0 := Keep.refl h0 []
  have go0 : Goes p e below s₁ (entryFrame m #[(.int x)] 1) s₁ (mkF m 0 #[.val (.int x)] []) := fun t k => castTop (ef_rmO m x) k
  have go1 : Goes p e below s₁ (entryFrame m #[(.int x)] 1) s₁ (mkF m 1 #[.val (.int x)] [(.int x)]) := fun t k => by
    refine go0 t ?_
    refine XS.iloadN X0.here hx rfl (hb hby d5_0) rfl ?_
    show Steps p.tables e below (s₁.setTop (mkF m 1 #[.val (.int x)] [(.int x)])) _
    exact k
  by_cases hc2 : x = (0 : Int32)
  · have go3 : Goes p e below s₁ (entryFrame m #[(.int x)] 1) s₁ (mkF m 9 #[.val (.int x)] [(.int (0 : Int32))]) := fun t k => by
      refine go1 t ?_
      refine XS.ifYes X0.here hx rfl (pc0 := 1) (pc' := 8) rfl (hb hby d5_1) rfl (Jvm.Free.XT.i0_eq_t hc2) (by decide) (by decide) ?_
      show Steps p.tables e below (s₁.setTop (mkF m 8 #[.val (.int x)] [])) _
      refine XS.iconst X0.here hx rfl (hb hby d5_8) ?_
      show Steps p.tables e below (s₁.setTop (mkF m 9 #[.val (.int x)] [(.int (0 : Int32))])) _
      exact k
    obtain ⟨fs, hr, hrun, hended, hW, hsame⟩ := X0.leave (v := some (.int (0 : Int32))) (fun h => by rw [Bd.returns] at h; cases h)
    refine ⟨_, _, go3 _ ?_, hrun, hended, _, _, rfl, ?_, ⟨_, rfl⟩, hW, hsame.mono (by decide) (by decide)⟩
    · exact retI X0 hx Bd.returns (hb hby d5_9) hr
    · show QO Z _ _ _ _ s₁.heap _
      rw [e0]
      exact ⟨by rw [hc2], N0, rfl⟩
  · have go4 : Goes p e below s₁ (entryFrame m #[(.int x)] 1) s₁ (mkF m 9 #[.val (.int x)] [(.int (1 : Int32))]) := fun t k => by
      refine go1 t ?_
      refine XS.ifNo X0.here hx rfl (hb hby d5_1) rfl (Jvm.Free.XT.i0_eq_f hc2) ?_
      show Steps p.tables e below (s₁.setTop (mkF m 4 #[.val (.int x)] [])) _
      refine XS.iconst X0.here hx rfl (hb hby d5_4) ?_
      show Steps p.tables e below (s₁.setTop (mkF m 5 #[.val (.int x)] [(.int (1 : Int32))])) _
      refine XS.goto X0.here hx rfl (pc0 := 5) (pc' := 9) rfl (hb hby d5_5) (by decide) (by decide) ?_
      show Steps p.tables e below (s₁.setTop (mkF m 9 #[.val (.int x)] [(.int (1 : Int32))])) _
      exact k
    obtain ⟨fs, hr, hrun, hended, hW, hsame⟩ := X0.leave (v := some (.int (1 : Int32))) (fun h => by rw [Bd.returns] at h; cases h)
    refine ⟨_, _, go4 _ ?_, hrun, hended, _, _, rfl, ?_, ⟨_, rfl⟩, hW, hsame.mono (by decide) (by decide)⟩
    · exact retI X0 hx Bd.returns (hb hby d5_9) hr
    · show QO Z _ _ _ _ s₁.heap _
      rw [e0]
      exact ⟨by rw [hx01.resolve_left hc2], N0, rfl⟩
theorem own_rng1 {qa n : Int32} (h1 : qa = 0 ∨ qa = 1) (hn : n = qa) : n = 0 ∨ n = 1 ∨ n = 2 := by
  rcases h1 with rfl | rfl <;> subst hn <;> decide
theorem own_rng2 {qa qb n : Int32} (h1 : qa = 0 ∨ qa = 1) (h2 : qb = 0 ∨ qb = 1) (hn : n = qa + qb) : n = 0 ∨ n = 1 ∨ n = 2 := by
  rcases h1 with rfl | rfl <;> rcases h2 with rfl | rfl <;> subst hn <;> decide
theorem own_rng3 {qa qb qc n : Int32} (h1 : qa = 0 ∨ qa = 1) (h2 : qb = 0 ∨ qb = 1) (h3 : qc = 0 ∨ qc = 1) (h : qa = 1) (hn : n = qa + qb + qc) : n = 1 ∨ n = 2 ∨ n = 3 := by
  subst h; rcases h2 with rfl | rfl <;> rcases h3 with rfl | rfl <;> subst hn <;> decide
theorem own_rng4 {qa qb qc ra n : Int32} (h1 : qa = 0 ∨ qa = 1) (h2 : qb = 0 ∨ qb = 1) (h3 : qc = 0 ∨ qc = 1) (h4 : ra = 0 ∨ (ra = 1 ∧ qa = 1)) (h : qb = 1) (hn : n = qa + qb + qc - ra) : n = 1 ∨ n = 2 ∨ n = 3 := by
  subst h; rcases h4 with rfl | ⟨rfl, rfl⟩
  · rcases h1 with rfl | rfl <;> rcases h3 with rfl | rfl <;> subst hn <;> decide
  · rcases h3 with rfl | rfl <;> subst hn <;> decide
theorem own_rng5 {qa qb qc ra rb n : Int32} (h1 : qa = 0 ∨ qa = 1) (h2 : qb = 0 ∨ qb = 1) (h3 : qc = 0 ∨ qc = 1) (h4 : ra = 0 ∨ (ra = 1 ∧ qa = 1)) (h5 : rb = 0 ∨ (rb = 1 ∧ qb = 1)) (h : qc = 1) (hn : n = qa + qb + qc - ra - rb) : n = 1 ∨ n = 2 ∨ n = 3 := by
  subst h; rcases h4 with rfl | ⟨rfl, rfl⟩ <;> rcases h5 with rfl | ⟨rfl, rfl⟩
  · rcases h1 with rfl | rfl <;> rcases h2 with rfl | rfl <;> subst hn <;> decide
  · rcases h1 with rfl | rfl <;> subst hn <;> decide
  · rcases h2 with rfl | rfl <;> subst hn <;> decide
  · subst hn; decide
theorem pd_4 : parseMethodDescriptor "()Z" = some ⟨[], some .boolean⟩ := by decide +kernel
theorem pd_5 : parseMethodDescriptor "(ID)V" = some ⟨[.int, .double], none⟩ := by decide +kernel
theorem pd_6 : parseMethodDescriptor "(Z)I" = some ⟨[.boolean], some .int⟩ := by decide +kernel
theorem ef_rm0 (m : MethodId) (fl : Int32) (ka : Int32) (kb : Int32) (kc : Int32) : entryFrame m #[(.int fl), (.int ka), (.int kb), (.int kc)] maxLocals = mkF m 0 #[.val (.int fl), .val (.int ka), .val (.int kb), .val (.int kc), .unset, .unset, .unset, .unset, .unset, .unset, .unset, .unset, .unset, .unset, .unset, .unset] [] := by first | (simp [entryFrame, mkF, argsToLocals, Value.category, maxLocals]; done) | rfl
def Q0 (Z : State) (fl : Int32) (ka : Int32) (kb : Int32) (kc : Int32) (h0 : Heap) (n0 : Nat) (v : Option Value) (h : Heap) (L : List Loc) : Prop := v = some (.int 1) ∧ Fr n0 L
set_option maxRecDepth 65536 in
set_option maxHeartbeats 40000000 in
theorem rm0 (l : Launch) (Z : State) (a0 : Array Value) (hw : ∀ d ∈ tables_1, d.before a0 Z = true) (ws : List Jvm.Cond) (fl : Int32) (ka : Int32) (kb : Int32) (kc : Int32) (h0 : Heap) (n0 : Nat) (Z0 : n0 ≤ h0.size) :
    MetFree l x (head1 (Jvm.Cond.code x code maxLocals ret :: ws) room_1) (fun a U => a = #[(.int fl), (.int ka), (.int kb), (.int kc)] ∧ Z.Warmed39 U.vm ∧ U.heap = h0) (fun _ _ _ _ _ => True) (fun _ U o U' => ∃ v L, o = .returned v ∧ Q0 Z fl ka kb kc h0 n0 v U'.heap L ∧ FrameEnd U o U' L room_1.cells room_1.slots) := by
  refine MetFree.of_bodySF (plainFor_of_name pn_2) hisR ?_
  intro p e s m args below meth c s₁ Bd hml0 hP hK
  obtain ⟨rfl, hZ, hh⟩ := hP
  have hx := Bd.exec
  have hby := Bd.bytes
  have hml : c.maxLocals = 16 := hml0
  have hown : s.vm.findClass "com/example/covermesh/covermesh/algorithms/IndexedMinHeapIsEmptyPinLaw" = some m.cls := findClass_of_methodNamed Bd.named
  have hnm := (name_of_methodNamed Bd.named Bd.method).1
  have X0 : Stand p l e room_1 s m #[(.int fl), (.int ka), (.int kb), (.int kc)] below meth c s₁ [] 0 0 := Stand.of_body Bd
  have e0 : s₁.heap = h0 := by rw [← hh, Bd.state]; rfl
  have N0 := Fr.nil n0
  have K0 := Keep.refl h0 []
  have go0 : Goes p e below s₁ (entryFrame m #[(.int fl), (.int ka), (.int kb), (.int kc)] maxLocals) s₁ (mkF m 0 #[.val (.int fl), .val (.int ka), .val (.int kb), .val (.int kc), .unset, .unset, .unset, .unset, .unset, .unset, .unset, .unset, .unset, .unset, .unset, .unset] []) := fun t k => castTop (ef_rm0 m fl ka kb kc) k
  obtain ⟨T1, h1, X1, e1, E1, A1, D1, -, st1⟩ := newO X0 hx hZ hown (hw _ (List.mem_of_getElem? (i := 0) rfl)) (hw _ (List.mem_of_getElem? (i := 1) rfl)) (hw _ (List.mem_of_getElem? (i := 2) rfl)) e0 (g := (mkF m 0 #[.val (.int fl), .val (.int ka), .val (.int kb), .val (.int kc), .unset, .unset, .unset, .unset, .unset, .unset, .unset, .unset, .unset, .unset, .unset, .unset] [])) rfl (hb hby at_0) (by decide) (by decide)
  obtain ⟨b1, g_b_b1⟩ : ∃ z, z = h0.size := ⟨_, rfl⟩
  have le_b1 : h0.size ≤ b1 := Nat.le_of_eq g_b_b1.symm
  have gn_b1 : n0 ≤ b1 := Nat.le_trans Z0 le_b1
  have sz_b1 : h0.size ≤ b1 := Nat.le_trans K0.1 le_b1
  rw [← g_b_b1] at A1 D1 st1
  have Z2 := Nat.le_trans Z0 E1.1
  have K3 := K0.ext E1
  have f4 : Fld Z h1 b1 "com/example/covermesh/covermesh/algorithms/IndexedMinHeap" "keys" "[D" .null := D1 (Or.inr (hw _ (List.mem_of_getElem? (i := 11) rfl))) (ty := (.array .double)) (by decide)
  have f5 : Fld Z h1 b1 "com/example/covermesh/covermesh/algorithms/IndexedMinHeap" "items" "[I" .null := D1 (Or.inr (hw _ (List.mem_of_getElem? (i := 14) rfl))) (ty := (.array .int)) (by decide)
  have f6 : Fld Z h1 b1 "com/example/covermesh/covermesh/algorithms/IndexedMinHeap" "positions" "[I" .null := D1 (Or.inr (hw _ (List.mem_of_getElem? (i := 16) rfl))) (ty := (.array .int)) (by decide)
  have f7 : Fld Z h1 b1 "com/example/covermesh/covermesh/algorithms/IndexedMinHeap" "size" "I" (.int (0 : Int32)) := D1 (Or.inl (hw _ (List.mem_of_getElem? (i := 27) rfl))) (ty := .int) (by decide)
  have go8 : Goes p e below s₁ (entryFrame m #[(.int fl), (.int ka), (.int kb), (.int kc)] maxLocals) T1 (mkF m 3 #[.val (.int fl), .val (.int ka), .val (.int kb), .val (.int kc), .unset, .unset, .unset, .unset, .unset, .unset, .unset, .unset, .unset, .unset, .unset, .unset] [(.ref b1)]) := fun t k => go0 t (st1 t k)
  have go9 : Goes p e below s₁ (entryFrame m #[(.int fl), (.int ka), (.int kb), (.int kc)] maxLocals) T1 (mkF m 5 #[.val (.int fl), .val (.int ka), .val (.int kb), .val (.int kc), .unset, .unset, .unset, .unset, .unset, .unset, .unset, .unset, .unset, .unset, .unset, .unset] [(.int (3 : Int32)), (.ref b1), (.ref b1)]) := fun t k => by
    refine go8 t ?_
    refine XS.dup X1.here hx rfl (hb hby at_3) rfl rfl ?_
    show Steps p.tables e below (T1.setTop (mkF m 4 #[.val (.int fl), .val (.int ka), .val (.int kb), .val (.int kc), .unset, .unset, .unset, .unset, .unset, .unset, .unset, .unset, .unset, .unset, .unset, .unset] [(.ref b1), (.ref b1)])) _
    refine XS.iconst X1.here hx rfl (hb hby at_4) ?_
    show Steps p.tables e below (T1.setTop (mkF m 5 #[.val (.int fl), .val (.int ka), .val (.int kb), .val (.int kc), .unset, .unset, .unset, .unset, .unset, .unset, .unset, .unset, .unset, .unset, .unset, .unset] [(.int (3 : Int32)), (.ref b1), (.ref b1)])) _
    exact k
  obtain ⟨_, _, ⟨T10, L10, k10, n10⟩, -, X10, ⟨Lc10, hQ10, l10, y10, z10⟩, st10⟩ := X1.specialBack hx (y := (⟨"com/example/covermesh/covermesh/algorithms/IndexedMinHeap", "<init>", "(I)V"⟩ : MethodName)) rfl hown (mvT hZ (hw _ (List.mem_of_getElem? (i := 3) rfl))) (mvT hZ (hw _ (List.mem_of_getElem? (i := 4) rfl))) (mvT hZ (hw _ (List.mem_of_getElem? (i := 5) rfl))) (by decide) (backOf (W := 1) (rmN l Z a0 hw [] b1 h1 n0 Z2 A1 f4 f5 f6 f7 gn_b1) hZ (hw _ (List.mem_of_getElem? (i := 5) rfl)) (hw _ (List.mem_of_getElem? (i := 2) rfl)) (by decide) (by decide)) (g := (mkF m 5 #[.val (.int fl), .val (.int ka), .val (.int kb), .val (.int kc), .unset, .unset, .unset, .unset, .unset, .unset, .unset, .unset, .unset, .unset, .unset, .unset] [(.int (3 : Int32)), (.ref b1), (.ref b1)])) rfl (by rw [hml]; rfl) (Steps.refl _) (a := b1) (argsL := [(.int (3 : Int32))]) (rest := [(.ref b1)]) (lenOf pd_2 rfl) rfl (by show 2 * 0 + _ ≤ _; exact Nat.le_of_eq rfl) (hb hby at_5) (fun _ _ => ⟨rfl, e1, (by decide : 1 + 3 ≤ room_1.cells), (by decide : 4 + 9 ≤ room_1.slots)⟩)
  dsimp only [Pt.U, Pt.locs, Pt.cells, Pt.slots] at X10 l10 y10 z10 st10 hQ10
  subst l10 y10 z10
  obtain ⟨rfl, N10q, Kq10, Vq10⟩ := hQ10
  have N10 := Fr.app N0 N10q
  obtain ⟨aK, aI, aP, kk, ki, kp, le_aK, le_aI, le_aP, nKI, nKP, nIP, E1, FKo, FIo, FPo, FSo, VK, VI, VP⟩ := Vq10
  have gn_aK : n0 ≤ aK := Nat.le_trans Z2 le_aK
  have sz_aK : h0.size ≤ aK := Nat.le_trans K3.1 le_aK
  have gn_aI : n0 ≤ aI := Nat.le_trans Z2 le_aI
  have sz_aI : h0.size ≤ aI := Nat.le_trans K3.1 le_aI
  have gn_aP : n0 ≤ aP := Nat.le_trans Z2 le_aP
  have sz_aP : h0.size ≤ aP := Nat.le_trans K3.1 le_aP
  have nAK : b1 ≠ aK := (Nat.ne_of_lt (Nat.lt_of_lt_of_le f7.lt le_aK))
  have nAI : b1 ≠ aI := (Nat.ne_of_lt (Nat.lt_of_lt_of_le f7.lt le_aI))
  have nAP : b1 ≠ aP := (Nat.ne_of_lt (Nat.lt_of_lt_of_le f7.lt le_aP))
  have gA : n0 ≤ b1 := gn_b1
  have gK := gn_aK
  have gI := gn_aI
  have gP := gn_aP
  have f11 := A1.keep Kq10
  have Z12 := Nat.le_trans Z2 Kq10.1
  have K13 := K3.trans Kq10 (allS (Or.inr sz_b1) all0)
  have go14 : Goes p e below s₁ (entryFrame m #[(.int fl), (.int ka), (.int kb), (.int kc)] maxLocals) T10 (mkF m 8 #[.val (.int fl), .val (.int ka), .val (.int kb), .val (.int kc), .unset, .unset, .unset, .unset, .unset, .unset, .unset, .unset, .unset, .unset, .unset, .unset] [(.ref b1)]) := fun t k => go9 t (st10.trans k)
  have go15 : Goes p e below s₁ (entryFrame m #[(.int fl), (.int ka), (.int kb), (.int kc)] maxLocals) T10 (mkF m 13 #[.val (.int fl), .val (.int ka), .val (.int kb), .val (.int kc), .val (.ref b1), .unset, .unset, .unset, .unset, .unset, .unset, .unset, .unset, .unset, .unset, .unset] [(.int (fl &&& (1 : Int32)))]) := fun t k => by
    refine go14 t ?_
    refine XS.astore X10.here hx rfl (hb hby at_8) rfl rfl (l' := #[.val (.int fl), .val (.int ka), .val (.int kb), .val (.int kc), .val (.ref b1), .unset, .unset, .unset, .unset, .unset, .unset, .unset, .unset, .unset, .unset, .unset]) rfl ?_
    show Steps p.tables e below (T10.setTop (mkF m 10 #[.val (.int fl), .val (.int ka), .val (.int kb), .val (.int kc), .val (.ref b1), .unset, .unset, .unset, .unset, .unset, .unset, .unset, .unset, .unset, .unset, .unset] [])) _
    refine XS.iloadN X10.here hx rfl (hb hby at_10) rfl ?_
    show Steps p.tables e below (T10.setTop (mkF m 11 #[.val (.int fl), .val (.int ka), .val (.int kb), .val (.int kc), .val (.ref b1), .unset, .unset, .unset, .unset, .unset, .unset, .unset, .unset, .unset, .unset, .unset] [(.int fl)])) _
    refine XS.iconst X10.here hx rfl (hb hby at_11) ?_
    show Steps p.tables e below (T10.setTop (mkF m 12 #[.val (.int fl), .val (.int ka), .val (.int kb), .val (.int kc), .val (.ref b1), .unset, .unset, .unset, .unset, .unset, .unset, .unset, .unset, .unset, .unset, .unset] [(.int (1 : Int32)), (.int fl)])) _
    refine XS.iand X10.here hx rfl (hb hby at_12) rfl ?_
    show Steps p.tables e below (T10.setTop (mkF m 13 #[.val (.int fl), .val (.int ka), .val (.int kb), .val (.int kc), .val (.ref b1), .unset, .unset, .unset, .unset, .unset, .unset, .unset, .unset, .unset, .unset, .unset] [(.int (fl &&& (1 : Int32)))])) _
    exact k
  obtain ⟨T16, qa, X16, e16, hj16, go16j⟩ : ∃ (T' : State) (qa : Int32), Stand p l e room_1 s m #[(.int fl), (.int ka), (.int kb), (.int kc)] below meth c T' L10 4 13 ∧ T'.heap = T10.heap ∧ (qa = 0 ∨ qa = 1) ∧ Goes p e below s₁ (entryFrame m #[(.int fl), (.int ka), (.int kb), (.int kc)] maxLocals) T' (mkF m 21 #[.val (.int fl), .val (.int ka), .val (.int kb), .val (.int kc), .val (.ref b1), .unset, .unset, .unset, .unset, .unset, .unset, .unset, .unset, .unset, .unset, .unset] [(.int qa)]) := by
    by_cases hc17 : (fl &&& (1 : Int32)) = (0 : Int32)
    · have go18 : Goes p e below s₁ (entryFrame m #[(.int fl), (.int ka), (.int kb), (.int kc)] maxLocals) T10 (mkF m 21 #[.val (.int fl), .val (.int ka), .val (.int kb), .val (.int kc), .val (.ref b1), .unset, .unset, .unset, .unset, .unset, .unset, .unset, .unset, .unset, .unset, .unset] [(.int (0 : Int32))]) := fun t k => by
        refine go15 t ?_
        refine XS.ifYes X10.here hx rfl (pc0 := 13) (pc' := 20) rfl (hb hby at_13) rfl (Jvm.Free.XT.i0_eq_t hc17) (by decide) (by decide) ?_
        show Steps p.tables e below (T10.setTop (mkF m 20 #[.val (.int fl), .val (.int ka), .val (.int kb), .val (.int kc), .val (.ref b1), .unset, .unset, .unset, .unset, .unset, .unset, .unset, .unset, .unset, .unset, .unset] [])) _
        refine XS.iconst X10.here hx rfl (hb hby at_20) ?_
        show Steps p.tables e below (T10.setTop (mkF m 21 #[.val (.int fl), .val (.int ka), .val (.int kb), .val (.int kc), .val (.ref b1), .unset, .unset, .unset, .unset, .unset, .unset, .unset, .unset, .unset, .unset, .unset] [(.int (0 : Int32))])) _
        exact k
      exact ⟨T10, (0 : Int32), X10, rfl, (Or.inl rfl), go18⟩
    · have go19 : Goes p e below s₁ (entryFrame m #[(.int fl), (.int ka), (.int kb), (.int kc)] maxLocals) T10 (mkF m 21 #[.val (.int fl), .val (.int ka), .val (.int kb), .val (.int kc), .val (.ref b1), .unset, .unset, .unset, .unset, .unset, .unset, .unset, .unset, .unset, .unset, .unset] [(.int (1 : Int32))]) := fun t k => by
        refine go15 t ?_
        refine XS.ifNo X10.here hx rfl (hb hby at_13) rfl (Jvm.Free.XT.i0_eq_f hc17) ?_
        show Steps p.tables e below (T10.setTop (mkF m 16 #[.val (.int fl), .val (.int ka), .val (.int kb), .val (.int kc), .val (.ref b1), .unset, .unset, .unset, .unset, .unset, .unset, .unset, .unset, .unset, .unset, .unset] [])) _
        refine XS.iconst X10.here hx rfl (hb hby at_16) ?_
        show Steps p.tables e below (T10.setTop (mkF m 17 #[.val (.int fl), .val (.int ka), .val (.int kb), .val (.int kc), .val (.ref b1), .unset, .unset, .unset, .unset, .unset, .unset, .unset, .unset, .unset, .unset, .unset] [(.int (1 : Int32))])) _
        refine XS.goto X10.here hx rfl (pc0 := 17) (pc' := 21) rfl (hb hby at_17) (by decide) (by decide) ?_
        show Steps p.tables e below (T10.setTop (mkF m 21 #[.val (.int fl), .val (.int ka), .val (.int kb), .val (.int kc), .val (.ref b1), .unset, .unset, .unset, .unset, .unset, .unset, .unset, .unset, .unset, .unset, .unset] [(.int (1 : Int32))])) _
        exact k
      exact ⟨T10, (1 : Int32), X10, rfl, (Or.inr rfl), go19⟩
  have go20 : Goes p e below s₁ (entryFrame m #[(.int fl), (.int ka), (.int kb), (.int kc)] maxLocals) T16 (mkF m 26 #[.val (.int fl), .val (.int ka), .val (.int kb), .val (.int kc), .val (.ref b1), .val (.int qa), .unset, .unset, .unset, .unset, .unset, .unset, .unset, .unset, .unset, .unset] [(.int (fl &&& (2 : Int32)))]) := fun t k => by
    refine go16j t ?_
    refine XS.istore X16.here hx rfl (hb hby at_21) rfl (l' := #[.val (.int fl), .val (.int ka), .val (.int kb), .val (.int kc), .val (.ref b1), .val (.int qa), .unset, .unset, .unset, .unset, .unset, .unset, .unset, .unset, .unset, .unset]) rfl ?_
    show Steps p.tables e below (T16.setTop (mkF m 23 #[.val (.int fl), .val (.int ka), .val (.int kb), .val (.int kc), .val (.ref b1), .val (.int qa), .unset, .unset, .unset, .unset, .unset, .unset, .unset, .unset, .unset, .unset] [])) _
    refine XS.iloadN X16.here hx rfl (hb hby at_23) rfl ?_
    show Steps p.tables e below (T16.setTop (mkF m 24 #[.val (.int fl), .val (.int ka), .val (.int kb), .val (.int kc), .val (.ref b1), .val (.int qa), .unset, .unset, .unset, .unset, .unset, .unset, .unset, .unset, .unset, .unset] [(.int fl)])) _
    refine XS.iconst X16.here hx rfl (hb hby at_24) ?_
    show Steps p.tables e below (T16.setTop (mkF m 25 #[.val (.int fl), .val (.int ka), .val (.int kb), .val (.int kc), .val (.ref b1), .val (.int qa), .unset, .unset, .unset, .unset, .unset, .unset, .unset, .unset, .unset, .unset] [(.int (2 : Int32)), (.int fl)])) _
    refine XS.iand X16.here hx rfl (hb hby at_25) rfl ?_
    show Steps p.tables e below (T16.setTop (mkF m 26 #[.val (.int fl), .val (.int ka), .val (.int kb), .val (.int kc), .val (.ref b1), .val (.int qa), .unset, .unset, .unset, .unset, .unset, .unset, .unset, .unset, .unset, .unset] [(.int (fl &&& (2 : Int32)))])) _
    exact k
  obtain ⟨T21, qb, X21, e21, hj21, go21j⟩ : ∃ (T' : State) (qb : Int32), Stand p l e room_1 s m #[(.int fl), (.int ka), (.int kb), (.int kc)] below meth c T' L10 4 13 ∧ T'.heap = T10.heap ∧ (qb = 0 ∨ qb = 1) ∧ Goes p e below s₁ (entryFrame m #[(.int fl), (.int ka), (.int kb), (.int kc)] maxLocals) T' (mkF m 34 #[.val (.int fl), .val (.int ka), .val (.int kb), .val (.int kc), .val (.ref b1), .val (.int qa), .unset, .unset, .unset, .unset, .unset, .unset, .unset, .unset, .unset, .unset] [(.int qb)]) := by
    by_cases hc22 : (fl &&& (2 : Int32)) = (0 : Int32)
    · have go23 : Goes p e below s₁ (entryFrame m #[(.int fl), (.int ka), (.int kb), (.int kc)] maxLocals) T16 (mkF m 34 #[.val (.int fl), .val (.int ka), .val (.int kb), .val (.int kc), .val (.ref b1), .val (.int qa), .unset, .unset, .unset, .unset, .unset, .unset, .unset, .unset, .unset, .unset] [(.int (0 : Int32))]) := fun t k => by
        refine go20 t ?_
        refine XS.ifYes X16.here hx rfl (pc0 := 26) (pc' := 33) rfl (hb hby at_26) rfl (Jvm.Free.XT.i0_eq_t hc22) (by decide) (by decide) ?_
        show Steps p.tables e below (T16.setTop (mkF m 33 #[.val (.int fl), .val (.int ka), .val (.int kb), .val (.int kc), .val (.ref b1), .val (.int qa), .unset, .unset, .unset, .unset, .unset, .unset, .unset, .unset, .unset, .unset] [])) _
        refine XS.iconst X16.here hx rfl (hb hby at_33) ?_
        show Steps p.tables e below (T16.setTop (mkF m 34 #[.val (.int fl), .val (.int ka), .val (.int kb), .val (.int kc), .val (.ref b1), .val (.int qa), .unset, .unset, .unset, .unset, .unset, .unset, .unset, .unset, .unset, .unset] [(.int (0 : Int32))])) _
        exact k
      exact ⟨T16, (0 : Int32), X16, e16, (Or.inl rfl), go23⟩
    · have go24 : Goes p e below s₁ (entryFrame m #[(.int fl), (.int ka), (.int kb), (.int kc)] maxLocals) T16 (mkF m 34 #[.val (.int fl), .val (.int ka), .val (.int kb), .val (.int kc), .val (.ref b1), .val (.int qa), .unset, .unset, .unset, .unset, .unset, .unset, .unset, .unset, .unset, .unset] [(.int (1 : Int32))]) := fun t k => by
        refine go20 t ?_
        refine XS.ifNo X16.here hx rfl (hb hby at_26) rfl (Jvm.Free.XT.i0_eq_f hc22) ?_
        show Steps p.tables e below (T16.setTop (mkF m 29 #[.val (.int fl), .val (.int ka), .val (.int kb), .val (.int kc), .val (.ref b1), .val (.int qa), .unset, .unset, .unset, .unset, .unset, .unset, .unset, .unset, .unset, .unset] [])) _
        refine XS.iconst X16.here hx rfl (hb hby at_29) ?_
        show Steps p.tables e below (T16.setTop (mkF m 30 #[.val (.int fl), .val (.int ka), .val (.int kb), .val (.int kc), .val (.ref b1), .val (.int qa), .unset, .unset, .unset, .unset, .unset, .unset, .unset, .unset, .unset, .unset] [(.int (1 : Int32))])) _
        refine XS.goto X16.here hx rfl (pc0 := 30) (pc' := 34) rfl (hb hby at_30) (by decide) (by decide) ?_
        show Steps p.tables e below (T16.setTop (mkF m 34 #[.val (.int fl), .val (.int ka), .val (.int kb), .val (.int kc), .val (.ref b1), .val (.int qa), .unset, .unset, .unset, .unset, .unset, .unset, .unset, .unset, .unset, .unset] [(.int (1 : Int32))])) _
        exact k
      exact ⟨T16, (1 : Int32), X16, e16, (Or.inr rfl), go24⟩
  have go25 : Goes p e below s₁ (entryFrame m #[(.int fl), (.int ka), (.int kb), (.int kc)] maxLocals) T21 (mkF m 39 #[.val (.int fl), .val (.int ka), .val (.int kb), .val (.int kc), .val (.ref b1), .val (.int qa), .val (.int qb), .unset, .unset, .unset, .unset, .unset, .unset, .unset, .unset, .unset] [(.int (fl &&& (4 : Int32)))]) := fun t k => by
    refine go21j t ?_
    refine XS.istore X21.here hx rfl (hb hby at_34) rfl (l' := #[.val (.int fl), .val (.int ka), .val (.int kb), .val (.int kc), .val (.ref b1), .val (.int qa), .val (.int qb), .unset, .unset, .unset, .unset, .unset, .unset, .unset, .unset, .unset]) rfl ?_
    show Steps p.tables e below (T21.setTop (mkF m 36 #[.val (.int fl), .val (.int ka), .val (.int kb), .val (.int kc), .val (.ref b1), .val (.int qa), .val (.int qb), .unset, .unset, .unset, .unset, .unset, .unset, .unset, .unset, .unset] [])) _
    refine XS.iloadN X21.here hx rfl (hb hby at_36) rfl ?_
    show Steps p.tables e below (T21.setTop (mkF m 37 #[.val (.int fl), .val (.int ka), .val (.int kb), .val (.int kc), .val (.ref b1), .val (.int qa), .val (.int qb), .unset, .unset, .unset, .unset, .unset, .unset, .unset, .unset, .unset] [(.int fl)])) _
    refine XS.iconst X21.here hx rfl (hb hby at_37) ?_
    show Steps p.tables e below (T21.setTop (mkF m 38 #[.val (.int fl), .val (.int ka), .val (.int kb), .val (.int kc), .val (.ref b1), .val (.int qa), .val (.int qb), .unset, .unset, .unset, .unset, .unset, .unset, .unset, .unset, .unset] [(.int (4 : Int32)), (.int fl)])) _
    refine XS.iand X21.here hx rfl (hb hby at_38) rfl ?_
    show Steps p.tables e below (T21.setTop (mkF m 39 #[.val (.int fl), .val (.int ka), .val (.int kb), .val (.int kc), .val (.ref b1), .val (.int qa), .val (.int qb), .unset, .unset, .unset, .unset, .unset, .unset, .unset, .unset, .unset] [(.int (fl &&& (4 : Int32)))])) _
    exact k
  obtain ⟨T26, qc, X26, e26, hj26, go26j⟩ : ∃ (T' : State) (qc : Int32), Stand p l e room_1 s m #[(.int fl), (.int ka), (.int kb), (.int kc)] below meth c T' L10 4 13 ∧ T'.heap = T10.heap ∧ (qc = 0 ∨ qc = 1) ∧ Goes p e below s₁ (entryFrame m #[(.int fl), (.int ka), (.int kb), (.int kc)] maxLocals) T' (mkF m 47 #[.val (.int fl), .val (.int ka), .val (.int kb), .val (.int kc), .val (.ref b1), .val (.int qa), .val (.int qb), .unset, .unset, .unset, .unset, .unset, .unset, .unset, .unset, .unset] [(.int qc)]) := by
    by_cases hc27 : (fl &&& (4 : Int32)) = (0 : Int32)
    · have go28 : Goes p e below s₁ (entryFrame m #[(.int fl), (.int ka), (.int kb), (.int kc)] maxLocals) T21 (mkF m 47 #[.val (.int fl), .val (.int ka), .val (.int kb), .val (.int kc), .val (.ref b1), .val (.int qa), .val (.int qb), .unset, .unset, .unset, .unset, .unset, .unset, .unset, .unset, .unset] [(.int (0 : Int32))]) := fun t k => by
        refine go25 t ?_
        refine XS.ifYes X21.here hx rfl (pc0 := 39) (pc' := 46) rfl (hb hby at_39) rfl (Jvm.Free.XT.i0_eq_t hc27) (by decide) (by decide) ?_
        show Steps p.tables e below (T21.setTop (mkF m 46 #[.val (.int fl), .val (.int ka), .val (.int kb), .val (.int kc), .val (.ref b1), .val (.int qa), .val (.int qb), .unset, .unset, .unset, .unset, .unset, .unset, .unset, .unset, .unset] [])) _
        refine XS.iconst X21.here hx rfl (hb hby at_46) ?_
        show Steps p.tables e below (T21.setTop (mkF m 47 #[.val (.int fl), .val (.int ka), .val (.int kb), .val (.int kc), .val (.ref b1), .val (.int qa), .val (.int qb), .unset, .unset, .unset, .unset, .unset, .unset, .unset, .unset, .unset] [(.int (0 : Int32))])) _
        exact k
      exact ⟨T21, (0 : Int32), X21, e21, (Or.inl rfl), go28⟩
    · have go29 : Goes p e below s₁ (entryFrame m #[(.int fl), (.int ka), (.int kb), (.int kc)] maxLocals) T21 (mkF m 47 #[.val (.int fl), .val (.int ka), .val (.int kb), .val (.int kc), .val (.ref b1), .val (.int qa), .val (.int qb), .unset, .unset, .unset, .unset, .unset, .unset, .unset, .unset, .unset] [(.int (1 : Int32))]) := fun t k => by
        refine go25 t ?_
        refine XS.ifNo X21.here hx rfl (hb hby at_39) rfl (Jvm.Free.XT.i0_eq_f hc27) ?_
        show Steps p.tables e below (T21.setTop (mkF m 42 #[.val (.int fl), .val (.int ka), .val (.int kb), .val (.int kc), .val (.ref b1), .val (.int qa), .val (.int qb), .unset, .unset, .unset, .unset, .unset, .unset, .unset, .unset, .unset] [])) _
        refine XS.iconst X21.here hx rfl (hb hby at_42) ?_
        show Steps p.tables e below (T21.setTop (mkF m 43 #[.val (.int fl), .val (.int ka), .val (.int kb), .val (.int kc), .val (.ref b1), .val (.int qa), .val (.int qb), .unset, .unset, .unset, .unset, .unset, .unset, .unset, .unset, .unset] [(.int (1 : Int32))])) _
        refine XS.goto X21.here hx rfl (pc0 := 43) (pc' := 47) rfl (hb hby at_43) (by decide) (by decide) ?_
        show Steps p.tables e below (T21.setTop (mkF m 47 #[.val (.int fl), .val (.int ka), .val (.int kb), .val (.int kc), .val (.ref b1), .val (.int qa), .val (.int qb), .unset, .unset, .unset, .unset, .unset, .unset, .unset, .unset, .unset] [(.int (1 : Int32))])) _
        exact k
      exact ⟨T21, (1 : Int32), X21, e21, (Or.inr rfl), go29⟩
  have go30 : Goes p e below s₁ (entryFrame m #[(.int fl), (.int ka), (.int kb), (.int kc)] maxLocals) T26 (mkF m 51 #[.val (.int fl), .val (.int ka), .val (.int kb), .val (.int kc), .val (.ref b1), .val (.int qa), .val (.int qb), .val (.int qc), .unset, .unset, .unset, .unset, .unset, .unset, .unset, .unset] [(.int qa)]) := fun t k => by
    refine go26j t ?_
    refine XS.istore X26.here hx rfl (hb hby at_47) rfl (l' := #[.val (.int fl), .val (.int ka), .val (.int kb), .val (.int kc), .val (.ref b1), .val (.int qa), .val (.int qb), .val (.int qc), .unset, .unset, .unset, .unset, .unset, .unset, .unset, .unset]) rfl ?_
    show Steps p.tables e below (T26.setTop (mkF m 49 #[.val (.int fl), .val (.int ka), .val (.int kb), .val (.int kc), .val (.ref b1), .val (.int qa), .val (.int qb), .val (.int qc), .unset, .unset, .unset, .unset, .unset, .unset, .unset, .unset] [])) _
    refine XS.iload X26.here hx rfl (hb hby at_49) rfl ?_
    show Steps p.tables e below (T26.setTop (mkF m 51 #[.val (.int fl), .val (.int ka), .val (.int kb), .val (.int kc), .val (.ref b1), .val (.int qa), .val (.int qb), .val (.int qc), .unset, .unset, .unset, .unset, .unset, .unset, .unset, .unset] [(.int qa)])) _
    exact k
  obtain ⟨T31, ra, X31, e31, hj31, go31j⟩ : ∃ (T' : State) (ra : Int32), Stand p l e room_1 s m #[(.int fl), (.int ka), (.int kb), (.int kc)] below meth c T' L10 4 13 ∧ T'.heap = T10.heap ∧ (ra = 0 ∨ (ra = 1 ∧ qa = 1)) ∧ Goes p e below s₁ (entryFrame m #[(.int fl), (.int ka), (.int kb), (.int kc)] maxLocals) T' (mkF m 66 #[.val (.int fl), .val (.int ka), .val (.int kb), .val (.int kc), .val (.ref b1), .val (.int qa), .val (.int qb), .val (.int qc), .unset, .unset, .unset, .unset, .unset, .unset, .unset, .unset] [(.int ra)]) := by
    by_cases hc32 : qa = (0 : Int32)
    · have go33 : Goes p e below s₁ (entryFrame m #[(.int fl), (.int ka), (.int kb), (.int kc)] maxLocals) T26 (mkF m 66 #[.val (.int fl), .val (.int ka), .val (.int kb), .val (.int kc), .val (.ref b1), .val (.int qa), .val (.int qb), .val (.int qc), .unset, .unset, .unset, .unset, .unset, .unset, .unset, .unset] [(.int (0 : Int32))]) := fun t k => by
        refine go30 t ?_
        refine XS.ifYes X26.here hx rfl (pc0 := 51) (pc' := 65) rfl (hb hby at_51) rfl (Jvm.Free.XT.i0_eq_t hc32) (by decide) (by decide) ?_
        show Steps p.tables e below (T26.setTop (mkF m 65 #[.val (.int fl), .val (.int ka), .val (.int kb), .val (.int kc), .val (.ref b1), .val (.int qa), .val (.int qb), .val (.int qc), .unset, .unset, .unset, .unset, .unset, .unset, .unset, .unset] [])) _
        refine XS.iconst X26.here hx rfl (hb hby at_65) ?_
        show Steps p.tables e below (T26.setTop (mkF m 66 #[.val (.int fl), .val (.int ka), .val (.int kb), .val (.int kc), .val (.ref b1), .val (.int qa), .val (.int qb), .val (.int qc), .unset, .unset, .unset, .unset, .unset, .unset, .unset, .unset] [(.int (0 : Int32))])) _
        exact k
      exact ⟨T26, (0 : Int32), X26, e26, (Or.inl rfl), go33⟩
    · have go34 : Goes p e below s₁ (entryFrame m #[(.int fl), (.int ka), (.int kb), (.int kc)] maxLocals) T26 (mkF m 58 #[.val (.int fl), .val (.int ka), .val (.int kb), .val (.int kc), .val (.ref b1), .val (.int qa), .val (.int qb), .val (.int qc), .unset, .unset, .unset, .unset, .unset, .unset, .unset, .unset] [(.int (fl &&& (8 : Int32)))]) := fun t k => by
        refine go30 t ?_
        refine XS.ifNo X26.here hx rfl (hb hby at_51) rfl (Jvm.Free.XT.i0_eq_f hc32) ?_
        show Steps p.tables e below (T26.setTop (mkF m 54 #[.val (.int fl), .val (.int ka), .val (.int kb), .val (.int kc), .val (.ref b1), .val (.int qa), .val (.int qb), .val (.int qc), .unset, .unset, .unset, .unset, .unset, .unset, .unset, .unset] [])) _
        refine XS.iloadN X26.here hx rfl (hb hby at_54) rfl ?_
        show Steps p.tables e below (T26.setTop (mkF m 55 #[.val (.int fl), .val (.int ka), .val (.int kb), .val (.int kc), .val (.ref b1), .val (.int qa), .val (.int qb), .val (.int qc), .unset, .unset, .unset, .unset, .unset, .unset, .unset, .unset] [(.int fl)])) _
        refine XS.bipush X26.here hx rfl (hb hby at_55) ?_
        show Steps p.tables e below (T26.setTop (mkF m 57 #[.val (.int fl), .val (.int ka), .val (.int kb), .val (.int kc), .val (.ref b1), .val (.int qa), .val (.int qb), .val (.int qc), .unset, .unset, .unset, .unset, .unset, .unset, .unset, .unset] [(.int (8 : Int32)), (.int fl)])) _
        refine XS.iand X26.here hx rfl (hb hby at_57) rfl ?_
        show Steps p.tables e below (T26.setTop (mkF m 58 #[.val (.int fl), .val (.int ka), .val (.int kb), .val (.int kc), .val (.ref b1), .val (.int qa), .val (.int qb), .val (.int qc), .unset, .unset, .unset, .unset, .unset, .unset, .unset, .unset] [(.int (fl &&& (8 : Int32)))])) _
        exact k
      by_cases hc35 : (fl &&& (8 : Int32)) = (0 : Int32)
      · have go36 : Goes p e below s₁ (entryFrame m #[(.int fl), (.int ka), (.int kb), (.int kc)] maxLocals) T26 (mkF m 66 #[.val (.int fl), .val (.int ka), .val (.int kb), .val (.int kc), .val (.ref b1), .val (.int qa), .val (.int qb), .val (.int qc), .unset, .unset, .unset, .unset, .unset, .unset, .unset, .unset] [(.int (0 : Int32))]) := fun t k => by
          refine go34 t ?_
          refine XS.ifYes X26.here hx rfl (pc0 := 58) (pc' := 65) rfl (hb hby at_58) rfl (Jvm.Free.XT.i0_eq_t hc35) (by decide) (by decide) ?_
          show Steps p.tables e below (T26.setTop (mkF m 65 #[.val (.int fl), .val (.int ka), .val (.int kb), .val (.int kc), .val (.ref b1), .val (.int qa), .val (.int qb), .val (.int qc), .unset, .unset, .unset, .unset, .unset, .unset, .unset, .unset] [])) _
          refine XS.iconst X26.here hx rfl (hb hby at_65) ?_
          show Steps p.tables e below (T26.setTop (mkF m 66 #[.val (.int fl), .val (.int ka), .val (.int kb), .val (.int kc), .val (.ref b1), .val (.int qa), .val (.int qb), .val (.int qc), .unset, .unset, .unset, .unset, .unset, .unset, .unset, .unset] [(.int (0 : Int32))])) _
          exact k
        exact ⟨T26, (0 : Int32), X26, e26, (Or.inl rfl), go36⟩
      · have go37 : Goes p e below s₁ (entryFrame m #[(.int fl), (.int ka), (.int kb), (.int kc)] maxLocals) T26 (mkF m 66 #[.val (.int fl), .val (.int ka), .val (.int kb), .val (.int kc), .val (.ref b1), .val (.int qa), .val (.int qb), .val (.int qc), .unset, .unset, .unset, .unset, .unset, .unset, .unset, .unset] [(.int (1 : Int32))]) := fun t k => by
          refine go34 t ?_
          refine XS.ifNo X26.here hx rfl (hb hby at_58) rfl (Jvm.Free.XT.i0_eq_f hc35) ?_
          show Steps p.tables e below (T26.setTop (mkF m 61 #[.val (.int fl), .val (.int ka), .val (.int kb), .val (.int kc), .val (.ref b1), .val (.int qa), .val (.int qb), .val (.int qc), .unset, .unset, .unset, .unset, .unset, .unset, .unset, .unset] [])) _
          refine XS.iconst X26.here hx rfl (hb hby at_61) ?_
          show Steps p.tables e below (T26.setTop (mkF m 62 #[.val (.int fl), .val (.int ka), .val (.int kb), .val (.int kc), .val (.ref b1), .val (.int qa), .val (.int qb), .val (.int qc), .unset, .unset, .unset, .unset, .unset, .unset, .unset, .unset] [(.int (1 : Int32))])) _
          refine XS.goto X26.here hx rfl (pc0 := 62) (pc' := 66) rfl (hb hby at_62) (by decide) (by decide) ?_
          show Steps p.tables e below (T26.setTop (mkF m 66 #[.val (.int fl), .val (.int ka), .val (.int kb), .val (.int kc), .val (.ref b1), .val (.int qa), .val (.int qb), .val (.int qc), .unset, .unset, .unset, .unset, .unset, .unset, .unset, .unset] [(.int (1 : Int32))])) _
          exact k
        exact ⟨T26, (1 : Int32), X26, e26, (Or.inr ⟨rfl, hj16.resolve_left hc32⟩), go37⟩
  have go38 : Goes p e below s₁ (entryFrame m #[(.int fl), (.int ka), (.int kb), (.int kc)] maxLocals) T31 (mkF m 70 #[.val (.int fl), .val (.int ka), .val (.int kb), .val (.int kc), .val (.ref b1), .val (.int qa), .val (.int qb), .val (.int qc), .val (.int ra), .unset, .unset, .unset, .unset, .unset, .unset, .unset] [(.int qb)]) := fun t k => by
    refine go31j t ?_
    refine XS.istore X31.here hx rfl (hb hby at_66) rfl (l' := #[.val (.int fl), .val (.int ka), .val (.int kb), .val (.int kc), .val (.ref b1), .val (.int qa), .val (.int qb), .val (.int qc), .val (.int ra), .unset, .unset, .unset, .unset, .unset, .unset, .unset]) rfl ?_
    show Steps p.tables e below (T31.setTop (mkF m 68 #[.val (.int fl), .val (.int ka), .val (.int kb), .val (.int kc), .val (.ref b1), .val (.int qa), .val (.int qb), .val (.int qc), .val (.int ra), .unset, .unset, .unset, .unset, .unset, .unset, .unset] [])) _
    refine XS.iload X31.here hx rfl (hb hby at_68) rfl ?_
    show Steps p.tables e below (T31.setTop (mkF m 70 #[.val (.int fl), .val (.int ka), .val (.int kb), .val (.int kc), .val (.ref b1), .val (.int qa), .val (.int qb), .val (.int qc), .val (.int ra), .unset, .unset, .unset, .unset, .unset, .unset, .unset] [(.int qb)])) _
    exact k
  obtain ⟨T39, rb, X39, e39, hj39, go39j⟩ : ∃ (T' : State) (rb : Int32), Stand p l e room_1 s m #[(.int fl), (.int ka), (.int kb), (.int kc)] below meth c T' L10 4 13 ∧ T'.heap = T10.heap ∧ (rb = 0 ∨ (rb = 1 ∧ qb = 1)) ∧ Goes p e below s₁ (entryFrame m #[(.int fl), (.int ka), (.int kb), (.int kc)] maxLocals) T' (mkF m 85 #[.val (.int fl), .val (.int ka), .val (.int kb), .val (.int kc), .val (.ref b1), .val (.int qa), .val (.int qb), .val (.int qc), .val (.int ra), .unset, .unset, .unset, .unset, .unset, .unset, .unset] [(.int rb)]) := by
    by_cases hc40 : qb = (0 : Int32)
    · have go41 : Goes p e below s₁ (entryFrame m #[(.int fl), (.int ka), (.int kb), (.int kc)] maxLocals) T31 (mkF m 85 #[.val (.int fl), .val (.int ka), .val (.int kb), .val (.int kc), .val (.ref b1), .val (.int qa), .val (.int qb), .val (.int qc), .val (.int ra), .unset, .unset, .unset, .unset, .unset, .unset, .unset] [(.int (0 : Int32))]) := fun t k => by
        refine go38 t ?_
        refine XS.ifYes X31.here hx rfl (pc0 := 70) (pc' := 84) rfl (hb hby at_70) rfl (Jvm.Free.XT.i0_eq_t hc40) (by decide) (by decide) ?_
        show Steps p.tables e below (T31.setTop (mkF m 84 #[.val (.int fl), .val (.int ka), .val (.int kb), .val (.int kc), .val (.ref b1), .val (.int qa), .val (.int qb), .val (.int qc), .val (.int ra), .unset, .unset, .unset, .unset, .unset, .unset, .unset] [])) _
        refine XS.iconst X31.here hx rfl (hb hby at_84) ?_
        show Steps p.tables e below (T31.setTop (mkF m 85 #[.val (.int fl), .val (.int ka), .val (.int kb), .val (.int kc), .val (.ref b1), .val (.int qa), .val (.int qb), .val (.int qc), .val (.int ra), .unset, .unset, .unset, .unset, .unset, .unset, .unset] [(.int (0 : Int32))])) _
        exact k
      exact ⟨T31, (0 : Int32), X31, e31, (Or.inl rfl), go41⟩
    · have go42 : Goes p e below s₁ (entryFrame m #[(.int fl), (.int ka), (.int kb), (.int kc)] maxLocals) T31 (mkF m 77 #[.val (.int fl), .val (.int ka), .val (.int kb), .val (.int kc), .val (.ref b1), .val (.int qa), .val (.int qb), .val (.int qc), .val (.int ra), .unset, .unset, .unset, .unset, .unset, .unset, .unset] [(.int (fl &&& (16 : Int32)))]) := fun t k => by
        refine go38 t ?_
        refine XS.ifNo X31.here hx rfl (hb hby at_70) rfl (Jvm.Free.XT.i0_eq_f hc40) ?_
        show Steps p.tables e below (T31.setTop (mkF m 73 #[.val (.int fl), .val (.int ka), .val (.int kb), .val (.int kc), .val (.ref b1), .val (.int qa), .val (.int qb), .val (.int qc), .val (.int ra), .unset, .unset, .unset, .unset, .unset, .unset, .unset] [])) _
        refine XS.iloadN X31.here hx rfl (hb hby at_73) rfl ?_
        show Steps p.tables e below (T31.setTop (mkF m 74 #[.val (.int fl), .val (.int ka), .val (.int kb), .val (.int kc), .val (.ref b1), .val (.int qa), .val (.int qb), .val (.int qc), .val (.int ra), .unset, .unset, .unset, .unset, .unset, .unset, .unset] [(.int fl)])) _
        refine XS.bipush X31.here hx rfl (hb hby at_74) ?_
        show Steps p.tables e below (T31.setTop (mkF m 76 #[.val (.int fl), .val (.int ka), .val (.int kb), .val (.int kc), .val (.ref b1), .val (.int qa), .val (.int qb), .val (.int qc), .val (.int ra), .unset, .unset, .unset, .unset, .unset, .unset, .unset] [(.int (16 : Int32)), (.int fl)])) _
        refine XS.iand X31.here hx rfl (hb hby at_76) rfl ?_
        show Steps p.tables e below (T31.setTop (mkF m 77 #[.val (.int fl), .val (.int ka), .val (.int kb), .val (.int kc), .val (.ref b1), .val (.int qa), .val (.int qb), .val (.int qc), .val (.int ra), .unset, .unset, .unset, .unset, .unset, .unset, .unset] [(.int (fl &&& (16 : Int32)))])) _
        exact k
      by_cases hc43 : (fl &&& (16 : Int32)) = (0 : Int32)
      · have go44 : Goes p e below s₁ (entryFrame m #[(.int fl), (.int ka), (.int kb), (.int kc)] maxLocals) T31 (mkF m 85 #[.val (.int fl), .val (.int ka), .val (.int kb), .val (.int kc), .val (.ref b1), .val (.int qa), .val (.int qb), .val (.int qc), .val (.int ra), .unset, .unset, .unset, .unset, .unset, .unset, .unset] [(.int (0 : Int32))]) := fun t k => by
          refine go42 t ?_
          refine XS.ifYes X31.here hx rfl (pc0 := 77) (pc' := 84) rfl (hb hby at_77) rfl (Jvm.Free.XT.i0_eq_t hc43) (by decide) (by decide) ?_
          show Steps p.tables e below (T31.setTop (mkF m 84 #[.val (.int fl), .val (.int ka), .val (.int kb), .val (.int kc), .val (.ref b1), .val (.int qa), .val (.int qb), .val (.int qc), .val (.int ra), .unset, .unset, .unset, .unset, .unset, .unset, .unset] [])) _
          refine XS.iconst X31.here hx rfl (hb hby at_84) ?_
          show Steps p.tables e below (T31.setTop (mkF m 85 #[.val (.int fl), .val (.int ka), .val (.int kb), .val (.int kc), .val (.ref b1), .val (.int qa), .val (.int qb), .val (.int qc), .val (.int ra), .unset, .unset, .unset, .unset, .unset, .unset, .unset] [(.int (0 : Int32))])) _
          exact k
        exact ⟨T31, (0 : Int32), X31, e31, (Or.inl rfl), go44⟩
      · have go45 : Goes p e below s₁ (entryFrame m #[(.int fl), (.int ka), (.int kb), (.int kc)] maxLocals) T31 (mkF m 85 #[.val (.int fl), .val (.int ka), .val (.int kb), .val (.int kc), .val (.ref b1), .val (.int qa), .val (.int qb), .val (.int qc), .val (.int ra), .unset, .unset, .unset, .unset, .unset, .unset, .unset] [(.int (1 : Int32))]) := fun t k => by
          refine go42 t ?_
          refine XS.ifNo X31.here hx rfl (hb hby at_77) rfl (Jvm.Free.XT.i0_eq_f hc43) ?_
          show Steps p.tables e below (T31.setTop (mkF m 80 #[.val (.int fl), .val (.int ka), .val (.int kb), .val (.int kc), .val (.ref b1), .val (.int qa), .val (.int qb), .val (.int qc), .val (.int ra), .unset, .unset, .unset, .unset, .unset, .unset, .unset] [])) _
          refine XS.iconst X31.here hx rfl (hb hby at_80) ?_
          show Steps p.tables e below (T31.setTop (mkF m 81 #[.val (.int fl), .val (.int ka), .val (.int kb), .val (.int kc), .val (.ref b1), .val (.int qa), .val (.int qb), .val (.int qc), .val (.int ra), .unset, .unset, .unset, .unset, .unset, .unset, .unset] [(.int (1 : Int32))])) _
          refine XS.goto X31.here hx rfl (pc0 := 81) (pc' := 85) rfl (hb hby at_81) (by decide) (by decide) ?_
          show Steps p.tables e below (T31.setTop (mkF m 85 #[.val (.int fl), .val (.int ka), .val (.int kb), .val (.int kc), .val (.ref b1), .val (.int qa), .val (.int qb), .val (.int qc), .val (.int ra), .unset, .unset, .unset, .unset, .unset, .unset, .unset] [(.int (1 : Int32))])) _
          exact k
        exact ⟨T31, (1 : Int32), X31, e31, (Or.inr ⟨rfl, hj21.resolve_left hc40⟩), go45⟩
  have go46 : Goes p e below s₁ (entryFrame m #[(.int fl), (.int ka), (.int kb), (.int kc)] maxLocals) T39 (mkF m 89 #[.val (.int fl), .val (.int ka), .val (.int kb), .val (.int kc), .val (.ref b1), .val (.int qa), .val (.int qb), .val (.int qc), .val (.int ra), .val (.int rb), .unset, .unset, .unset, .unset, .unset, .unset] [(.int qc)]) := fun t k => by
    refine go39j t ?_
    refine XS.istore X39.here hx rfl (hb hby at_85) rfl (l' := #[.val (.int fl), .val (.int ka), .val (.int kb), .val (.int kc), .val (.ref b1), .val (.int qa), .val (.int qb), .val (.int qc), .val (.int ra), .val (.int rb), .unset, .unset, .unset, .unset, .unset, .unset]) rfl ?_
    show Steps p.tables e below (T39.setTop (mkF m 87 #[.val (.int fl), .val (.int ka), .val (.int kb), .val (.int kc), .val (.ref b1), .val (.int qa), .val (.int qb), .val (.int qc), .val (.int ra), .val (.int rb), .unset, .unset, .unset, .unset, .unset, .unset] [])) _
    refine XS.iload X39.here hx rfl (hb hby at_87) rfl ?_
    show Steps p.tables e below (T39.setTop (mkF m 89 #[.val (.int fl), .val (.int ka), .val (.int kb), .val (.int kc), .val (.ref b1), .val (.int qa), .val (.int qb), .val (.int qc), .val (.int ra), .val (.int rb), .unset, .unset, .unset, .unset, .unset, .unset] [(.int qc)])) _
    exact k
  obtain ⟨T47, rc, X47, e47, hj47, go47j⟩ : ∃ (T' : State) (rc : Int32), Stand p l e room_1 s m #[(.int fl), (.int ka), (.int kb), (.int kc)] below meth c T' L10 4 13 ∧ T'.heap = T10.heap ∧ (rc = 0 ∨ (rc = 1 ∧ qc = 1)) ∧ Goes p e below s₁ (entryFrame m #[(.int fl), (.int ka), (.int kb), (.int kc)] maxLocals) T' (mkF m 104 #[.val (.int fl), .val (.int ka), .val (.int kb), .val (.int kc), .val (.ref b1), .val (.int qa), .val (.int qb), .val (.int qc), .val (.int ra), .val (.int rb), .unset, .unset, .unset, .unset, .unset, .unset] [(.int rc)]) := by
    by_cases hc48 : qc = (0 : Int32)
    · have go49 : Goes p e below s₁ (entryFrame m #[(.int fl), (.int ka), (.int kb), (.int kc)] maxLocals) T39 (mkF m 104 #[.val (.int fl), .val (.int ka), .val (.int kb), .val (.int kc), .val (.ref b1), .val (.int qa), .val (.int qb), .val (.int qc), .val (.int ra), .val (.int rb), .unset, .unset, .unset, .unset, .unset, .unset] [(.int (0 : Int32))]) := fun t k => by
        refine go46 t ?_
        refine XS.ifYes X39.here hx rfl (pc0 := 89) (pc' := 103) rfl (hb hby at_89) rfl (Jvm.Free.XT.i0_eq_t hc48) (by decide) (by decide) ?_
        show Steps p.tables e below (T39.setTop (mkF m 103 #[.val (.int fl), .val (.int ka), .val (.int kb), .val (.int kc), .val (.ref b1), .val (.int qa), .val (.int qb), .val (.int qc), .val (.int ra), .val (.int rb), .unset, .unset, .unset, .unset, .unset, .unset] [])) _
        refine XS.iconst X39.here hx rfl (hb hby at_103) ?_
        show Steps p.tables e below (T39.setTop (mkF m 104 #[.val (.int fl), .val (.int ka), .val (.int kb), .val (.int kc), .val (.ref b1), .val (.int qa), .val (.int qb), .val (.int qc), .val (.int ra), .val (.int rb), .unset, .unset, .unset, .unset, .unset, .unset] [(.int (0 : Int32))])) _
        exact k
      exact ⟨T39, (0 : Int32), X39, e39, (Or.inl rfl), go49⟩
    · have go50 : Goes p e below s₁ (entryFrame m #[(.int fl), (.int ka), (.int kb), (.int kc)] maxLocals) T39 (mkF m 96 #[.val (.int fl), .val (.int ka), .val (.int kb), .val (.int kc), .val (.ref b1), .val (.int qa), .val (.int qb), .val (.int qc), .val (.int ra), .val (.int rb), .unset, .unset, .unset, .unset, .unset, .unset] [(.int (fl &&& (32 : Int32)))]) := fun t k => by
        refine go46 t ?_
        refine XS.ifNo X39.here hx rfl (hb hby at_89) rfl (Jvm.Free.XT.i0_eq_f hc48) ?_
        show Steps p.tables e below (T39.setTop (mkF m 92 #[.val (.int fl), .val (.int ka), .val (.int kb), .val (.int kc), .val (.ref b1), .val (.int qa), .val (.int qb), .val (.int qc), .val (.int ra), .val (.int rb), .unset, .unset, .unset, .unset, .unset, .unset] [])) _
        refine XS.iloadN X39.here hx rfl (hb hby at_92) rfl ?_
        show Steps p.tables e below (T39.setTop (mkF m 93 #[.val (.int fl), .val (.int ka), .val (.int kb), .val (.int kc), .val (.ref b1), .val (.int qa), .val (.int qb), .val (.int qc), .val (.int ra), .val (.int rb), .unset, .unset, .unset, .unset, .unset, .unset] [(.int fl)])) _
        refine XS.bipush X39.here hx rfl (hb hby at_93) ?_
        show Steps p.tables e below (T39.setTop (mkF m 95 #[.val (.int fl), .val (.int ka), .val (.int kb), .val (.int kc), .val (.ref b1), .val (.int qa), .val (.int qb), .val (.int qc), .val (.int ra), .val (.int rb), .unset, .unset, .unset, .unset, .unset, .unset] [(.int (32 : Int32)), (.int fl)])) _
        refine XS.iand X39.here hx rfl (hb hby at_95) rfl ?_
        show Steps p.tables e below (T39.setTop (mkF m 96 #[.val (.int fl), .val (.int ka), .val (.int kb), .val (.int kc), .val (.ref b1), .val (.int qa), .val (.int qb), .val (.int qc), .val (.int ra), .val (.int rb), .unset, .unset, .unset, .unset, .unset, .unset] [(.int (fl &&& (32 : Int32)))])) _
        exact k
      by_cases hc51 : (fl &&& (32 : Int32)) = (0 : Int32)
      · have go52 : Goes p e below s₁ (entryFrame m #[(.int fl), (.int ka), (.int kb), (.int kc)] maxLocals) T39 (mkF m 104 #[.val (.int fl), .val (.int ka), .val (.int kb), .val (.int kc), .val (.ref b1), .val (.int qa), .val (.int qb), .val (.int qc), .val (.int ra), .val (.int rb), .unset, .unset, .unset, .unset, .unset, .unset] [(.int (0 : Int32))]) := fun t k => by
          refine go50 t ?_
          refine XS.ifYes X39.here hx rfl (pc0 := 96) (pc' := 103) rfl (hb hby at_96) rfl (Jvm.Free.XT.i0_eq_t hc51) (by decide) (by decide) ?_
          show Steps p.tables e below (T39.setTop (mkF m 103 #[.val (.int fl), .val (.int ka), .val (.int kb), .val (.int kc), .val (.ref b1), .val (.int qa), .val (.int qb), .val (.int qc), .val (.int ra), .val (.int rb), .unset, .unset, .unset, .unset, .unset, .unset] [])) _
          refine XS.iconst X39.here hx rfl (hb hby at_103) ?_
          show Steps p.tables e below (T39.setTop (mkF m 104 #[.val (.int fl), .val (.int ka), .val (.int kb), .val (.int kc), .val (.ref b1), .val (.int qa), .val (.int qb), .val (.int qc), .val (.int ra), .val (.int rb), .unset, .unset, .unset, .unset, .unset, .unset] [(.int (0 : Int32))])) _
          exact k
        exact ⟨T39, (0 : Int32), X39, e39, (Or.inl rfl), go52⟩
      · have go53 : Goes p e below s₁ (entryFrame m #[(.int fl), (.int ka), (.int kb), (.int kc)] maxLocals) T39 (mkF m 104 #[.val (.int fl), .val (.int ka), .val (.int kb), .val (.int kc), .val (.ref b1), .val (.int qa), .val (.int qb), .val (.int qc), .val (.int ra), .val (.int rb), .unset, .unset, .unset, .unset, .unset, .unset] [(.int (1 : Int32))]) := fun t k => by
          refine go50 t ?_
          refine XS.ifNo X39.here hx rfl (hb hby at_96) rfl (Jvm.Free.XT.i0_eq_f hc51) ?_
          show Steps p.tables e below (T39.setTop (mkF m 99 #[.val (.int fl), .val (.int ka), .val (.int kb), .val (.int kc), .val (.ref b1), .val (.int qa), .val (.int qb), .val (.int qc), .val (.int ra), .val (.int rb), .unset, .unset, .unset, .unset, .unset, .unset] [])) _
          refine XS.iconst X39.here hx rfl (hb hby at_99) ?_
          show Steps p.tables e below (T39.setTop (mkF m 100 #[.val (.int fl), .val (.int ka), .val (.int kb), .val (.int kc), .val (.ref b1), .val (.int qa), .val (.int qb), .val (.int qc), .val (.int ra), .val (.int rb), .unset, .unset, .unset, .unset, .unset, .unset] [(.int (1 : Int32))])) _
          refine XS.goto X39.here hx rfl (pc0 := 100) (pc' := 104) rfl (hb hby at_100) (by decide) (by decide) ?_
          show Steps p.tables e below (T39.setTop (mkF m 104 #[.val (.int fl), .val (.int ka), .val (.int kb), .val (.int kc), .val (.ref b1), .val (.int qa), .val (.int qb), .val (.int qc), .val (.int ra), .val (.int rb), .unset, .unset, .unset, .unset, .unset, .unset] [(.int (1 : Int32))])) _
          exact k
        exact ⟨T39, (1 : Int32), X39, e39, (Or.inr ⟨rfl, hj26.resolve_left hc48⟩), go53⟩
  have go54 : Goes p e below s₁ (entryFrame m #[(.int fl), (.int ka), (.int kb), (.int kc)] maxLocals) T47 (mkF m 108 #[.val (.int fl), .val (.int ka), .val (.int kb), .val (.int kc), .val (.ref b1), .val (.int qa), .val (.int qb), .val (.int qc), .val (.int ra), .val (.int rb), .val (.int rc), .unset, .unset, .unset, .unset, .unset] [(.ref b1)]) := fun t k => by
    refine go47j t ?_
    refine XS.istore X47.here hx rfl (hb hby at_104) rfl (l' := #[.val (.int fl), .val (.int ka), .val (.int kb), .val (.int kc), .val (.ref b1), .val (.int qa), .val (.int qb), .val (.int qc), .val (.int ra), .val (.int rb), .val (.int rc), .unset, .unset, .unset, .unset, .unset]) rfl ?_
    show Steps p.tables e below (T47.setTop (mkF m 106 #[.val (.int fl), .val (.int ka), .val (.int kb), .val (.int kc), .val (.ref b1), .val (.int qa), .val (.int qb), .val (.int qc), .val (.int ra), .val (.int rb), .val (.int rc), .unset, .unset, .unset, .unset, .unset] [])) _
    refine XS.aload X47.here hx rfl (hb hby at_106) rfl rfl ?_
    show Steps p.tables e below (T47.setTop (mkF m 108 #[.val (.int fl), .val (.int ka), .val (.int kb), .val (.int kc), .val (.ref b1), .val (.int qa), .val (.int qb), .val (.int qc), .val (.int ra), .val (.int rb), .val (.int rc), .unset, .unset, .unset, .unset, .unset] [(.ref b1)])) _
    exact k
  obtain ⟨cq55, kq55, q55a, q55b, q55c⟩ := isOf hZ e47 E1
  obtain ⟨_, _, ⟨T55, L55, k55, n55⟩, -, X55, ⟨Lc55, hQ55, l55, y55, z55⟩, st55⟩ := X47.virtualBack hx (y := (⟨"com/example/covermesh/covermesh/algorithms/IndexedMinHeap", "isEmpty", "()Z"⟩ : MethodName)) (z := (⟨"com/example/covermesh/covermesh/algorithms/IndexedMinHeap", "isEmpty", "()Z"⟩ : MethodName)) hown (mvT hZ (hw _ (List.mem_of_getElem? (i := 21) rfl))) (mvT hZ (hw _ (List.mem_of_getElem? (i := 22) rfl))) (notFace_of_selects (args := #[]) (mvT hZ (hw _ (List.mem_of_getElem? (i := 24) rfl)))) (mvT hZ (hw _ (List.mem_of_getElem? (i := 24) rfl))) (mvT hZ (hw _ (List.mem_of_getElem? (i := 23) rfl))) (by decide) (backOf (W := 0) (rmE l Z a0 hw [] b1 (0 : Int32) T10.heap n0 Z12 FSo) hZ (hw _ (List.mem_of_getElem? (i := 25) rfl)) (hw _ (List.mem_of_getElem? (i := 2) rfl)) (by decide) (by decide)) q55a q55c (g := (mkF m 108 #[.val (.int fl), .val (.int ka), .val (.int kb), .val (.int kc), .val (.ref b1), .val (.int qa), .val (.int qb), .val (.int qc), .val (.int ra), .val (.int rb), .val (.int rc), .unset, .unset, .unset, .unset, .unset] [(.ref b1)])) rfl (by rw [hml]; rfl) (Steps.refl _) (argsL := []) (rest := []) (lenOf pd_4 rfl) rfl (by show 2 * 0 + _ ≤ _; exact Nat.le_of_eq rfl) (hb hby at_108) (fun _ _ => ⟨rfl, e47, (by decide : 4 + 0 ≤ room_1.cells), (by decide : 13 + 0 ≤ room_1.slots)⟩)
  dsimp only [Pt.U, Pt.locs, Pt.cells, Pt.slots] at X55 l55 y55 z55 st55 hQ55
  subst l55 y55 z55
  obtain ⟨rfl, N55q, e55⟩ := hQ55
  have N55 := Fr.app N10 N55q
  have go56 : Goes p e below s₁ (entryFrame m #[(.int fl), (.int ka), (.int kb), (.int kc)] maxLocals) T55 (mkF m 111 #[.val (.int fl), .val (.int ka), .val (.int kb), .val (.int kc), .val (.ref b1), .val (.int qa), .val (.int qb), .val (.int qc), .val (.int ra), .val (.int rb), .val (.int rc), .unset, .unset, .unset, .unset, .unset] [(.int (own_e (0 : Int32)))]) := fun t k => go54 t (st55.trans k)
  have go57 : Goes p e below s₁ (entryFrame m #[(.int fl), (.int ka), (.int kb), (.int kc)] maxLocals) T55 (mkF m 111 #[.val (.int fl), .val (.int ka), .val (.int kb), .val (.int kc), .val (.ref b1), .val (.int qa), .val (.int qb), .val (.int qc), .val (.int ra), .val (.int rb), .val (.int rc), .unset, .unset, .unset, .unset, .unset] [(.int (1 : Int32))]) := Eq.mp (congrArg (fun zz => Goes p e below s₁ (entryFrame m #[(.int fl), (.int ka), (.int kb), (.int kc)] maxLocals) T55 (mkF m 111 #[.val (.int fl), .val (.int ka), .val (.int kb), .val (.int kc), .val (.ref b1), .val (.int qa), .val (.int qb), .val (.int qc), .val (.int ra), .val (.int rb), .val (.int rc), .unset, .unset, .unset, .unset, .unset] [(.int zz)])) (if_pos rfl : own_e 0 = 1)) go56
  have go58 : Goes p e below s₁ (entryFrame m #[(.int fl), (.int ka), (.int kb), (.int kc)] maxLocals) T55 (mkF m 115 #[.val (.int fl), .val (.int ka), .val (.int kb), .val (.int kc), .val (.ref b1), .val (.int qa), .val (.int qb), .val (.int qc), .val (.int ra), .val (.int rb), .val (.int rc), .val (.int (1 : Int32)), .unset, .unset, .unset, .unset] [(.int qa)]) := fun t k => by
    refine go57 t ?_
    refine XS.istore X55.here hx rfl (hb hby at_111) rfl (l' := #[.val (.int fl), .val (.int ka), .val (.int kb), .val (.int kc), .val (.ref b1), .val (.int qa), .val (.int qb), .val (.int qc), .val (.int ra), .val (.int rb), .val (.int rc), .val (.int (1 : Int32)), .unset, .unset, .unset, .unset]) rfl ?_
    show Steps p.tables e below (T55.setTop (mkF m 113 #[.val (.int fl), .val (.int ka), .val (.int kb), .val (.int kc), .val (.ref b1), .val (.int qa), .val (.int qb), .val (.int qc), .val (.int ra), .val (.int rb), .val (.int rc), .val (.int (1 : Int32)), .unset, .unset, .unset, .unset] [])) _
    refine XS.iload X55.here hx rfl (hb hby at_113) rfl ?_
    show Steps p.tables e below (T55.setTop (mkF m 115 #[.val (.int fl), .val (.int ka), .val (.int kb), .val (.int kc), .val (.ref b1), .val (.int qa), .val (.int qb), .val (.int qc), .val (.int ra), .val (.int rb), .val (.int rc), .val (.int (1 : Int32)), .unset, .unset, .unset, .unset] [(.int qa)])) _
    exact k
  obtain ⟨T59, h59, lo59, kfp0, sgp0, nzp0, X59, e59, Z59, N59, fj59_0, fj59_1, fj59_2, fj59_3, fj59_4, fj59_5, fj59_6, fj59_7, hj59, go59j⟩ : ∃ (T' : State) (h' : Heap) (lo' : List Loc) (kfp0 : Int32 → UInt64) (sgp0 : own_P) (nzp0 : Int32), Stand p l e room_1 s m #[(.int fl), (.int ka), (.int kb), (.int kc)] below meth c T' lo' 4 13 ∧ T'.heap = h' ∧ n0 ≤ h'.size ∧ Fr n0 lo' ∧ (Exa Z h' b1 "com/example/covermesh/covermesh/algorithms/IndexedMinHeap") ∧ (Fld Z h' b1 "com/example/covermesh/covermesh/algorithms/IndexedMinHeap" "keys" "[D" (.ref aK)) ∧ (Fld Z h' b1 "com/example/covermesh/covermesh/algorithms/IndexedMinHeap" "items" "[I" (.ref aI)) ∧ (Fld Z h' b1 "com/example/covermesh/covermesh/algorithms/IndexedMinHeap" "positions" "[I" (.ref aP)) ∧ (Fld Z h' b1 "com/example/covermesh/covermesh/algorithms/IndexedMinHeap" "size" "I" (.int nzp0)) ∧ (Arv Z h' aK kk .double 3 (own_d kfp0) (.double (0 : UInt64))) ∧ (Arv Z h' aI ki .int 3 (own_l sgp0.1) (.int (0 : Int32))) ∧ (Arv Z h' aP kp .int 3 (own_l sgp0.2) (.int (0 : Int32))) ∧ (own_G sgp0 nzp0 (own_S qa 0 0) ∧ nzp0 = qa) ∧ Goes p e below s₁ (entryFrame m #[(.int fl), (.int ka), (.int kb), (.int kc)] maxLocals) T' (mkF m 126 #[.val (.int fl), .val (.int ka), .val (.int kb), .val (.int kc), .val (.ref b1), .val (.int qa), .val (.int qb), .val (.int qc), .val (.int ra), .val (.int rb), .val (.int rc), .val (.int (1 : Int32)), .unset, .unset, .unset, .unset] []) := by
    by_cases hc60 : qa = (0 : Int32)
    · have go61 : Goes p e below s₁ (entryFrame m #[(.int fl), (.int ka), (.int kb), (.int kc)] maxLocals) T55 (mkF m 126 #[.val (.int fl), .val (.int ka), .val (.int kb), .val (.int kc), .val (.ref b1), .val (.int qa), .val (.int qb), .val (.int qc), .val (.int ra), .val (.int rb), .val (.int rc), .val (.int (1 : Int32)), .unset, .unset, .unset, .unset] []) := fun t k => by
        refine go58 t ?_
        refine XS.ifYes X55.here hx rfl (pc0 := 115) (pc' := 126) rfl (hb hby at_115) rfl (Jvm.Free.XT.i0_eq_t hc60) (by decide) (by decide) ?_
        show Steps p.tables e below (T55.setTop (mkF m 126 #[.val (.int fl), .val (.int ka), .val (.int kb), .val (.int kc), .val (.ref b1), .val (.int qa), .val (.int qb), .val (.int qc), .val (.int ra), .val (.int rb), .val (.int rc), .val (.int (1 : Int32)), .unset, .unset, .unset, .unset] [])) _
        exact k
      exact ⟨T55, T10.heap, (L10 ++ Lc55), (fun _ => 0), ((fun _ => 0), (fun _ => -1)), (0 : Int32), X55, e55, Z12, N55, E1, FKo, FIo, FPo, FSo, VK, VI, VP, ⟨by rw [hc60]; exact own_G_new, hc60.symm⟩, go61⟩
    · have go62 : Goes p e below s₁ (entryFrame m #[(.int fl), (.int ka), (.int kb), (.int kc)] maxLocals) T55 (mkF m 123 #[.val (.int fl), .val (.int ka), .val (.int kb), .val (.int kc), .val (.ref b1), .val (.int qa), .val (.int qb), .val (.int qc), .val (.int ra), .val (.int rb), .val (.int rc), .val (.int (1 : Int32)), .unset, .unset, .unset, .unset] [(.double (FP.i2d ka)), (.int (0 : Int32)), (.ref b1)]) := fun t k => by
        refine go58 t ?_
        refine XS.ifNo X55.here hx rfl (hb hby at_115) rfl (Jvm.Free.XT.i0_eq_f hc60) ?_
        show Steps p.tables e below (T55.setTop (mkF m 118 #[.val (.int fl), .val (.int ka), .val (.int kb), .val (.int kc), .val (.ref b1), .val (.int qa), .val (.int qb), .val (.int qc), .val (.int ra), .val (.int rb), .val (.int rc), .val (.int (1 : Int32)), .unset, .unset, .unset, .unset] [])) _
        refine XS.aload X55.here hx rfl (hb hby at_118) rfl rfl ?_
        show Steps p.tables e below (T55.setTop (mkF m 120 #[.val (.int fl), .val (.int ka), .val (.int kb), .val (.int kc), .val (.ref b1), .val (.int qa), .val (.int qb), .val (.int qc), .val (.int ra), .val (.int rb), .val (.int rc), .val (.int (1 : Int32)), .unset, .unset, .unset, .unset] [(.ref b1)])) _
        refine XS.iconst X55.here hx rfl (hb hby at_120) ?_
        show Steps p.tables e below (T55.setTop (mkF m 121 #[.val (.int fl), .val (.int ka), .val (.int kb), .val (.int kc), .val (.ref b1), .val (.int qa), .val (.int qb), .val (.int qc), .val (.int ra), .val (.int rb), .val (.int rc), .val (.int (1 : Int32)), .unset, .unset, .unset, .unset] [(.int (0 : Int32)), (.ref b1)])) _
        refine XS.iloadN X55.here hx rfl (hb hby at_121) rfl ?_
        show Steps p.tables e below (T55.setTop (mkF m 122 #[.val (.int fl), .val (.int ka), .val (.int kb), .val (.int kc), .val (.ref b1), .val (.int qa), .val (.int qb), .val (.int qc), .val (.int ra), .val (.int rb), .val (.int rc), .val (.int (1 : Int32)), .unset, .unset, .unset, .unset] [(.int ka), (.int (0 : Int32)), (.ref b1)])) _
        refine XS.i2dS X55.here hx rfl (hb hby at_122) rfl rfl ?_
        show Steps p.tables e below (T55.setTop (mkF m 123 #[.val (.int fl), .val (.int ka), .val (.int kb), .val (.int kc), .val (.ref b1), .val (.int qa), .val (.int qb), .val (.int qc), .val (.int ra), .val (.int rb), .val (.int rc), .val (.int (1 : Int32)), .unset, .unset, .unset, .unset] [(.double (FP.i2d ka)), (.int (0 : Int32)), (.ref b1)])) _
        exact k
      obtain ⟨cq63, kq63, q63a, q63b, q63c⟩ := isOf hZ e55 E1
      obtain ⟨_, _, ⟨T63, L63, k63, n63⟩, -, X63, ⟨Lc63, hQ63, l63, y63, z63⟩, st63⟩ := X55.virtualBack hx (y := (⟨"com/example/covermesh/covermesh/algorithms/IndexedMinHeap", "put", "(ID)V"⟩ : MethodName)) (z := (⟨"com/example/covermesh/covermesh/algorithms/IndexedMinHeap", "put", "(ID)V"⟩ : MethodName)) hown (mvT hZ (hw _ (List.mem_of_getElem? (i := 32) rfl))) (mvT hZ (hw _ (List.mem_of_getElem? (i := 33) rfl))) (notFace_of_selects (args := #[]) (mvT hZ (hw _ (List.mem_of_getElem? (i := 35) rfl)))) (mvT hZ (hw _ (List.mem_of_getElem? (i := 35) rfl))) (mvT hZ (hw _ (List.mem_of_getElem? (i := 34) rfl))) (by decide) (backOf (W := 0) (rmPut l Z a0 hw [] b1 (0 : Int32) (FP.i2d ka) aK aI aP kk ki kp (fun _ => 0) ((fun _ => 0), (fun _ => -1)) (0 : Int32) (own_S 0 0 0) T10.heap n0 Z12 E1 FKo FIo FPo FSo VK VI VP nKI nKP nIP nAK nAI nAP gA gK gI gP own_R0 own_G_new (by simp [own_S]) (Or.inl rfl)) hZ (hw _ (List.mem_of_getElem? (i := 36) rfl)) (hw _ (List.mem_of_getElem? (i := 2) rfl)) (by decide) (by decide)) q63a q63c (g := (mkF m 123 #[.val (.int fl), .val (.int ka), .val (.int kb), .val (.int kc), .val (.ref b1), .val (.int qa), .val (.int qb), .val (.int qc), .val (.int ra), .val (.int rb), .val (.int rc), .val (.int (1 : Int32)), .unset, .unset, .unset, .unset] [(.double (FP.i2d ka)), (.int (0 : Int32)), (.ref b1)])) rfl (by rw [hml]; rfl) (Steps.refl _) (argsL := [(.int (0 : Int32)), (.double (FP.i2d ka))]) (rest := []) (lenOf pd_5 rfl) rfl (by show 2 * 0 + _ ≤ _; exact Nat.le_of_eq rfl) (hb hby at_123) (fun _ _ => ⟨rfl, e55, (by decide : 4 + 0 ≤ room_1.cells), (by decide : 13 + 0 ≤ room_1.slots)⟩)
      dsimp only [Pt.U, Pt.locs, Pt.cells, Pt.slots] at X63 l63 y63 z63 st63 hQ63
      subst l63 y63 z63
      obtain ⟨rfl, N63q, Kq63, E1q63, FKq63, FIq63, FPq63, FSq63, VKq63, VIq63, VPq63⟩ := hQ63
      have N63 := Fr.app N55 N63q
      have f64 := E1.keep Kq63
      have Z65 := Nat.le_trans Z12 Kq63.1
      have K66 := K13.trans Kq63 (allS (Or.inr sz_b1) (allS (Or.inr sz_aK) (allS (Or.inr sz_aI) (allS (Or.inr sz_aP) all0))))
      have go67 : Goes p e below s₁ (entryFrame m #[(.int fl), (.int ka), (.int kb), (.int kc)] maxLocals) T63 (mkF m 126 #[.val (.int fl), .val (.int ka), .val (.int kb), .val (.int kc), .val (.ref b1), .val (.int qa), .val (.int qb), .val (.int qc), .val (.int ra), .val (.int rb), .val (.int rc), .val (.int (1 : Int32)), .unset, .unset, .unset, .unset] []) := fun t k => go62 t (st63.trans k)
      exact ⟨T63, T63.heap, ((L10 ++ Lc55) ++ Lc63), (own_u (fun _ => 0) (0 : Int32) (FP.i2d ka)), (own_putA (own_u (fun _ => 0) (0 : Int32) (FP.i2d ka)) ((fun _ => 0), (fun _ => -1)) (0 : Int32) (0 : Int32)), ((0 : Int32) + 1), X63, rfl, Z65, N63, f64, FKq63, FIq63, FPq63, FSq63, VKq63, VIq63, VPq63, ⟨(own_G_new.putA (own_u (fun _ => 0) (0 : Int32) (FP.i2d ka)) own_R0 (by simp [own_S]) (Or.inl rfl)).congr rfl (by rw [(hj16.resolve_left hc60)]; exact own_S_add0), by rw [(hj16.resolve_left hc60), show (0 : Int32) + 1 = 1 from rfl]⟩, go67⟩
  have go68 : Goes p e below s₁ (entryFrame m #[(.int fl), (.int ka), (.int kb), (.int kc)] maxLocals) T59 (mkF m 128 #[.val (.int fl), .val (.int ka), .val (.int kb), .val (.int kc), .val (.ref b1), .val (.int qa), .val (.int qb), .val (.int qc), .val (.int ra), .val (.int rb), .val (.int rc), .val (.int (1 : Int32)), .unset, .unset, .unset, .unset] [(.int qb)]) := fun t k => by
    refine go59j t ?_
    refine XS.iload X59.here hx rfl (hb hby at_126) rfl ?_
    show Steps p.tables e below (T59.setTop (mkF m 128 #[.val (.int fl), .val (.int ka), .val (.int kb), .val (.int kc), .val (.ref b1), .val (.int qa), .val (.int qb), .val (.int qc), .val (.int ra), .val (.int rb), .val (.int rc), .val (.int (1 : Int32)), .unset, .unset, .unset, .unset] [(.int qb)])) _
    exact k
  obtain ⟨T69, h69, lo69, kfp1, sgp1, nzp1, X69, e69, Z69, N69, fj69_0, fj69_1, fj69_2, fj69_3, fj69_4, fj69_5, fj69_6, fj69_7, hj69, go69j⟩ : ∃ (T' : State) (h' : Heap) (lo' : List Loc) (kfp1 : Int32 → UInt64) (sgp1 : own_P) (nzp1 : Int32), Stand p l e room_1 s m #[(.int fl), (.int ka), (.int kb), (.int kc)] below meth c T' lo' 4 13 ∧ T'.heap = h' ∧ n0 ≤ h'.size ∧ Fr n0 lo' ∧ (Exa Z h' b1 "com/example/covermesh/covermesh/algorithms/IndexedMinHeap") ∧ (Fld Z h' b1 "com/example/covermesh/covermesh/algorithms/IndexedMinHeap" "keys" "[D" (.ref aK)) ∧ (Fld Z h' b1 "com/example/covermesh/covermesh/algorithms/IndexedMinHeap" "items" "[I" (.ref aI)) ∧ (Fld Z h' b1 "com/example/covermesh/covermesh/algorithms/IndexedMinHeap" "positions" "[I" (.ref aP)) ∧ (Fld Z h' b1 "com/example/covermesh/covermesh/algorithms/IndexedMinHeap" "size" "I" (.int nzp1)) ∧ (Arv Z h' aK kk .double 3 (own_d kfp1) (.double (0 : UInt64))) ∧ (Arv Z h' aI ki .int 3 (own_l sgp1.1) (.int (0 : Int32))) ∧ (Arv Z h' aP kp .int 3 (own_l sgp1.2) (.int (0 : Int32))) ∧ (own_G sgp1 nzp1 (own_S qa qb 0) ∧ nzp1 = qa + qb) ∧ Goes p e below s₁ (entryFrame m #[(.int fl), (.int ka), (.int kb), (.int kc)] maxLocals) T' (mkF m 139 #[.val (.int fl), .val (.int ka), .val (.int kb), .val (.int kc), .val (.ref b1), .val (.int qa), .val (.int qb), .val (.int qc), .val (.int ra), .val (.int rb), .val (.int rc), .val (.int (1 : Int32)), .unset, .unset, .unset, .unset] []) := by
    by_cases hc70 : qb = (0 : Int32)
    · have go71 : Goes p e below s₁ (entryFrame m #[(.int fl), (.int ka), (.int kb), (.int kc)] maxLocals) T59 (mkF m 139 #[.val (.int fl), .val (.int ka), .val (.int kb), .val (.int kc), .val (.ref b1), .val (.int qa), .val (.int qb), .val (.int qc), .val (.int ra), .val (.int rb), .val (.int rc), .val (.int (1 : Int32)), .unset, .unset, .unset, .unset] []) := fun t k => by
        refine go68 t ?_
        refine XS.ifYes X59.here hx rfl (pc0 := 128) (pc' := 139) rfl (hb hby at_128) rfl (Jvm.Free.XT.i0_eq_t hc70) (by decide) (by decide) ?_
        show Steps p.tables e below (T59.setTop (mkF m 139 #[.val (.int fl), .val (.int ka), .val (.int kb), .val (.int kc), .val (.ref b1), .val (.int qa), .val (.int qb), .val (.int qc), .val (.int ra), .val (.int rb), .val (.int rc), .val (.int (1 : Int32)), .unset, .unset, .unset, .unset] [])) _
        exact k
      exact ⟨T59, h59, lo59, kfp0, sgp0, nzp0, X59, e59, Z59, N59, fj59_0, fj59_1, fj59_2, fj59_3, fj59_4, fj59_5, fj59_6, fj59_7, ⟨by rw [hc70]; exact hj59.1, by rw [hc70, hj59.2]; simp⟩, go71⟩
    · have go72 : Goes p e below s₁ (entryFrame m #[(.int fl), (.int ka), (.int kb), (.int kc)] maxLocals) T59 (mkF m 136 #[.val (.int fl), .val (.int ka), .val (.int kb), .val (.int kc), .val (.ref b1), .val (.int qa), .val (.int qb), .val (.int qc), .val (.int ra), .val (.int rb), .val (.int rc), .val (.int (1 : Int32)), .unset, .unset, .unset, .unset] [(.double (FP.i2d kb)), (.int (1 : Int32)), (.ref b1)]) := fun t k => by
        refine go68 t ?_
        refine XS.ifNo X59.here hx rfl (hb hby at_128) rfl (Jvm.Free.XT.i0_eq_f hc70) ?_
        show Steps p.tables e below (T59.setTop (mkF m 131 #[.val (.int fl), .val (.int ka), .val (.int kb), .val (.int kc), .val (.ref b1), .val (.int qa), .val (.int qb), .val (.int qc), .val (.int ra), .val (.int rb), .val (.int rc), .val (.int (1 : Int32)), .unset, .unset, .unset, .unset] [])) _
        refine XS.aload X59.here hx rfl (hb hby at_131) rfl rfl ?_
        show Steps p.tables e below (T59.setTop (mkF m 133 #[.val (.int fl), .val (.int ka), .val (.int kb), .val (.int kc), .val (.ref b1), .val (.int qa), .val (.int qb), .val (.int qc), .val (.int ra), .val (.int rb), .val (.int rc), .val (.int (1 : Int32)), .unset, .unset, .unset, .unset] [(.ref b1)])) _
        refine XS.iconst X59.here hx rfl (hb hby at_133) ?_
        show Steps p.tables e below (T59.setTop (mkF m 134 #[.val (.int fl), .val (.int ka), .val (.int kb), .val (.int kc), .val (.ref b1), .val (.int qa), .val (.int qb), .val (.int qc), .val (.int ra), .val (.int rb), .val (.int rc), .val (.int (1 : Int32)), .unset, .unset, .unset, .unset] [(.int (1 : Int32)), (.ref b1)])) _
        refine XS.iloadN X59.here hx rfl (hb hby at_134) rfl ?_
        show Steps p.tables e below (T59.setTop (mkF m 135 #[.val (.int fl), .val (.int ka), .val (.int kb), .val (.int kc), .val (.ref b1), .val (.int qa), .val (.int qb), .val (.int qc), .val (.int ra), .val (.int rb), .val (.int rc), .val (.int (1 : Int32)), .unset, .unset, .unset, .unset] [(.int kb), (.int (1 : Int32)), (.ref b1)])) _
        refine XS.i2dS X59.here hx rfl (hb hby at_135) rfl rfl ?_
        show Steps p.tables e below (T59.setTop (mkF m 136 #[.val (.int fl), .val (.int ka), .val (.int kb), .val (.int kc), .val (.ref b1), .val (.int qa), .val (.int qb), .val (.int qc), .val (.int ra), .val (.int rb), .val (.int rc), .val (.int (1 : Int32)), .unset, .unset, .unset, .unset] [(.double (FP.i2d kb)), (.int (1 : Int32)), (.ref b1)])) _
        exact k
      obtain ⟨cq73, kq73, q73a, q73b, q73c⟩ := isOf hZ e59 fj59_0
      obtain ⟨_, _, ⟨T73, L73, k73, n73⟩, -, X73, ⟨Lc73, hQ73, l73, y73, z73⟩, st73⟩ := X59.virtualBack hx (y := (⟨"com/example/covermesh/covermesh/algorithms/IndexedMinHeap", "put", "(ID)V"⟩ : MethodName)) (z := (⟨"com/example/covermesh/covermesh/algorithms/IndexedMinHeap", "put", "(ID)V"⟩ : MethodName)) hown (mvT hZ (hw _ (List.mem_of_getElem? (i := 32) rfl))) (mvT hZ (hw _ (List.mem_of_getElem? (i := 33) rfl))) (notFace_of_selects (args := #[]) (mvT hZ (hw _ (List.mem_of_getElem? (i := 35) rfl)))) (mvT hZ (hw _ (List.mem_of_getElem? (i := 35) rfl))) (mvT hZ (hw _ (List.mem_of_getElem? (i := 34) rfl))) (by decide) (backOf (W := 0) (rmPut l Z a0 hw [] b1 (1 : Int32) (FP.i2d kb) aK aI aP kk ki kp kfp0 sgp0 nzp0 (own_S qa 0 0) h59 n0 Z59 fj59_0 fj59_1 fj59_2 fj59_3 fj59_4 fj59_5 fj59_6 fj59_7 nKI nKP nIP nAK nAI nAP gA gK gI gP own_R1 hj59.1 (by simp [own_S]) (own_rng1 hj16 hj59.2)) hZ (hw _ (List.mem_of_getElem? (i := 36) rfl)) (hw _ (List.mem_of_getElem? (i := 2) rfl)) (by decide) (by decide)) q73a q73c (g := (mkF m 136 #[.val (.int fl), .val (.int ka), .val (.int kb), .val (.int kc), .val (.ref b1), .val (.int qa), .val (.int qb), .val (.int qc), .val (.int ra), .val (.int rb), .val (.int rc), .val (.int (1 : Int32)), .unset, .unset, .unset, .unset] [(.double (FP.i2d kb)), (.int (1 : Int32)), (.ref b1)])) rfl (by rw [hml]; rfl) (Steps.refl _) (argsL := [(.int (1 : Int32)), (.double (FP.i2d kb))]) (rest := []) (lenOf pd_5 rfl) rfl (by show 2 * 0 + _ ≤ _; exact Nat.le_of_eq rfl) (hb hby at_136) (fun _ _ => ⟨rfl, e59, (by decide : 4 + 0 ≤ room_1.cells), (by decide : 13 + 0 ≤ room_1.slots)⟩)
      dsimp only [Pt.U, Pt.locs, Pt.cells, Pt.slots] at X73 l73 y73 z73 st73 hQ73
      subst l73 y73 z73
      obtain ⟨rfl, N73q, Kq73, E1q73, FKq73, FIq73, FPq73, FSq73, VKq73, VIq73, VPq73⟩ := hQ73
      have N73 := Fr.app N59 N73q
      have f74 := fj59_0.keep Kq73
      have Z75 := Nat.le_trans Z59 Kq73.1
      have go76 : Goes p e below s₁ (entryFrame m #[(.int fl), (.int ka), (.int kb), (.int kc)] maxLocals) T73 (mkF m 139 #[.val (.int fl), .val (.int ka), .val (.int kb), .val (.int kc), .val (.ref b1), .val (.int qa), .val (.int qb), .val (.int qc), .val (.int ra), .val (.int rb), .val (.int rc), .val (.int (1 : Int32)), .unset, .unset, .unset, .unset] []) := fun t k => go72 t (st73.trans k)
      exact ⟨T73, T73.heap, (lo59 ++ Lc73), (own_u kfp0 (1 : Int32) (FP.i2d kb)), (own_putA (own_u kfp0 (1 : Int32) (FP.i2d kb)) sgp0 (1 : Int32) nzp0), (nzp0 + 1), X73, rfl, Z75, N73, f74, FKq73, FIq73, FPq73, FSq73, VKq73, VIq73, VPq73, ⟨(hj59.1.putA (own_u kfp0 (1 : Int32) (FP.i2d kb)) own_R1 (by simp [own_S]) (own_rng1 hj16 hj59.2)).congr rfl (by rw [(hj21.resolve_left hc70)]; exact own_S_add1), by rw [(hj21.resolve_left hc70), hj59.2]⟩, go76⟩
  have go77 : Goes p e below s₁ (entryFrame m #[(.int fl), (.int ka), (.int kb), (.int kc)] maxLocals) T69 (mkF m 141 #[.val (.int fl), .val (.int ka), .val (.int kb), .val (.int kc), .val (.ref b1), .val (.int qa), .val (.int qb), .val (.int qc), .val (.int ra), .val (.int rb), .val (.int rc), .val (.int (1 : Int32)), .unset, .unset, .unset, .unset] [(.int qc)]) := fun t k => by
    refine go69j t ?_
    refine XS.iload X69.here hx rfl (hb hby at_139) rfl ?_
    show Steps p.tables e below (T69.setTop (mkF m 141 #[.val (.int fl), .val (.int ka), .val (.int kb), .val (.int kc), .val (.ref b1), .val (.int qa), .val (.int qb), .val (.int qc), .val (.int ra), .val (.int rb), .val (.int rc), .val (.int (1 : Int32)), .unset, .unset, .unset, .unset] [(.int qc)])) _
    exact k
  obtain ⟨T78, h78, lo78, kfp2, sgp2, nzp2, X78, e78, Z78, N78, fj78_0, fj78_1, fj78_2, fj78_3, fj78_4, fj78_5, fj78_6, fj78_7, hj78, go78j⟩ : ∃ (T' : State) (h' : Heap) (lo' : List Loc) (kfp2 : Int32 → UInt64) (sgp2 : own_P) (nzp2 : Int32), Stand p l e room_1 s m #[(.int fl), (.int ka), (.int kb), (.int kc)] below meth c T' lo' 4 13 ∧ T'.heap = h' ∧ n0 ≤ h'.size ∧ Fr n0 lo' ∧ (Exa Z h' b1 "com/example/covermesh/covermesh/algorithms/IndexedMinHeap") ∧ (Fld Z h' b1 "com/example/covermesh/covermesh/algorithms/IndexedMinHeap" "keys" "[D" (.ref aK)) ∧ (Fld Z h' b1 "com/example/covermesh/covermesh/algorithms/IndexedMinHeap" "items" "[I" (.ref aI)) ∧ (Fld Z h' b1 "com/example/covermesh/covermesh/algorithms/IndexedMinHeap" "positions" "[I" (.ref aP)) ∧ (Fld Z h' b1 "com/example/covermesh/covermesh/algorithms/IndexedMinHeap" "size" "I" (.int nzp2)) ∧ (Arv Z h' aK kk .double 3 (own_d kfp2) (.double (0 : UInt64))) ∧ (Arv Z h' aI ki .int 3 (own_l sgp2.1) (.int (0 : Int32))) ∧ (Arv Z h' aP kp .int 3 (own_l sgp2.2) (.int (0 : Int32))) ∧ (own_G sgp2 nzp2 (own_S qa qb qc) ∧ nzp2 = qa + qb + qc) ∧ Goes p e below s₁ (entryFrame m #[(.int fl), (.int ka), (.int kb), (.int kc)] maxLocals) T' (mkF m 152 #[.val (.int fl), .val (.int ka), .val (.int kb), .val (.int kc), .val (.ref b1), .val (.int qa), .val (.int qb), .val (.int qc), .val (.int ra), .val (.int rb), .val (.int rc), .val (.int (1 : Int32)), .unset, .unset, .unset, .unset] []) := by
    by_cases hc79 : qc = (0 : Int32)
    · have go80 : Goes p e below s₁ (entryFrame m #[(.int fl), (.int ka), (.int kb), (.int kc)] maxLocals) T69 (mkF m 152 #[.val (.int fl), .val (.int ka), .val (.int kb), .val (.int kc), .val (.ref b1), .val (.int qa), .val (.int qb), .val (.int qc), .val (.int ra), .val (.int rb), .val (.int rc), .val (.int (1 : Int32)), .unset, .unset, .unset, .unset] []) := fun t k => by
        refine go77 t ?_
        refine XS.ifYes X69.here hx rfl (pc0 := 141) (pc' := 152) rfl (hb hby at_141) rfl (Jvm.Free.XT.i0_eq_t hc79) (by decide) (by decide) ?_
        show Steps p.tables e below (T69.setTop (mkF m 152 #[.val (.int fl), .val (.int ka), .val (.int kb), .val (.int kc), .val (.ref b1), .val (.int qa), .val (.int qb), .val (.int qc), .val (.int ra), .val (.int rb), .val (.int rc), .val (.int (1 : Int32)), .unset, .unset, .unset, .unset] [])) _
        exact k
      exact ⟨T69, h69, lo69, kfp1, sgp1, nzp1, X69, e69, Z69, N69, fj69_0, fj69_1, fj69_2, fj69_3, fj69_4, fj69_5, fj69_6, fj69_7, ⟨by rw [hc79]; exact hj69.1, by rw [hc79, hj69.2]; simp⟩, go80⟩
    · have go81 : Goes p e below s₁ (entryFrame m #[(.int fl), (.int ka), (.int kb), (.int kc)] maxLocals) T69 (mkF m 149 #[.val (.int fl), .val (.int ka), .val (.int kb), .val (.int kc), .val (.ref b1), .val (.int qa), .val (.int qb), .val (.int qc), .val (.int ra), .val (.int rb), .val (.int rc), .val (.int (1 : Int32)), .unset, .unset, .unset, .unset] [(.double (FP.i2d kc)), (.int (2 : Int32)), (.ref b1)]) := fun t k => by
        refine go77 t ?_
        refine XS.ifNo X69.here hx rfl (hb hby at_141) rfl (Jvm.Free.XT.i0_eq_f hc79) ?_
        show Steps p.tables e below (T69.setTop (mkF m 144 #[.val (.int fl), .val (.int ka), .val (.int kb), .val (.int kc), .val (.ref b1), .val (.int qa), .val (.int qb), .val (.int qc), .val (.int ra), .val (.int rb), .val (.int rc), .val (.int (1 : Int32)), .unset, .unset, .unset, .unset] [])) _
        refine XS.aload X69.here hx rfl (hb hby at_144) rfl rfl ?_
        show Steps p.tables e below (T69.setTop (mkF m 146 #[.val (.int fl), .val (.int ka), .val (.int kb), .val (.int kc), .val (.ref b1), .val (.int qa), .val (.int qb), .val (.int qc), .val (.int ra), .val (.int rb), .val (.int rc), .val (.int (1 : Int32)), .unset, .unset, .unset, .unset] [(.ref b1)])) _
        refine XS.iconst X69.here hx rfl (hb hby at_146) ?_
        show Steps p.tables e below (T69.setTop (mkF m 147 #[.val (.int fl), .val (.int ka), .val (.int kb), .val (.int kc), .val (.ref b1), .val (.int qa), .val (.int qb), .val (.int qc), .val (.int ra), .val (.int rb), .val (.int rc), .val (.int (1 : Int32)), .unset, .unset, .unset, .unset] [(.int (2 : Int32)), (.ref b1)])) _
        refine XS.iloadN X69.here hx rfl (hb hby at_147) rfl ?_
        show Steps p.tables e below (T69.setTop (mkF m 148 #[.val (.int fl), .val (.int ka), .val (.int kb), .val (.int kc), .val (.ref b1), .val (.int qa), .val (.int qb), .val (.int qc), .val (.int ra), .val (.int rb), .val (.int rc), .val (.int (1 : Int32)), .unset, .unset, .unset, .unset] [(.int kc), (.int (2 : Int32)), (.ref b1)])) _
        refine XS.i2dS X69.here hx rfl (hb hby at_148) rfl rfl ?_
        show Steps p.tables e below (T69.setTop (mkF m 149 #[.val (.int fl), .val (.int ka), .val (.int kb), .val (.int kc), .val (.ref b1), .val (.int qa), .val (.int qb), .val (.int qc), .val (.int ra), .val (.int rb), .val (.int rc), .val (.int (1 : Int32)), .unset, .unset, .unset, .unset] [(.double (FP.i2d kc)), (.int (2 : Int32)), (.ref b1)])) _
        exact k
      obtain ⟨cq82, kq82, q82a, q82b, q82c⟩ := isOf hZ e69 fj69_0
      obtain ⟨_, _, ⟨T82, L82, k82, n82⟩, -, X82, ⟨Lc82, hQ82, l82, y82, z82⟩, st82⟩ := X69.virtualBack hx (y := (⟨"com/example/covermesh/covermesh/algorithms/IndexedMinHeap", "put", "(ID)V"⟩ : MethodName)) (z := (⟨"com/example/covermesh/covermesh/algorithms/IndexedMinHeap", "put", "(ID)V"⟩ : MethodName)) hown (mvT hZ (hw _ (List.mem_of_getElem? (i := 32) rfl))) (mvT hZ (hw _ (List.mem_of_getElem? (i := 33) rfl))) (notFace_of_selects (args := #[]) (mvT hZ (hw _ (List.mem_of_getElem? (i := 35) rfl)))) (mvT hZ (hw _ (List.mem_of_getElem? (i := 35) rfl))) (mvT hZ (hw _ (List.mem_of_getElem? (i := 34) rfl))) (by decide) (backOf (W := 0) (rmPut l Z a0 hw [] b1 (2 : Int32) (FP.i2d kc) aK aI aP kk ki kp kfp1 sgp1 nzp1 (own_S qa qb 0) h69 n0 Z69 fj69_0 fj69_1 fj69_2 fj69_3 fj69_4 fj69_5 fj69_6 fj69_7 nKI nKP nIP nAK nAI nAP gA gK gI gP own_R2 hj69.1 (by simp [own_S]) (own_rng2 hj16 hj21 hj69.2)) hZ (hw _ (List.mem_of_getElem? (i := 36) rfl)) (hw _ (List.mem_of_getElem? (i := 2) rfl)) (by decide) (by decide)) q82a q82c (g := (mkF m 149 #[.val (.int fl), .val (.int ka), .val (.int kb), .val (.int kc), .val (.ref b1), .val (.int qa), .val (.int qb), .val (.int qc), .val (.int ra), .val (.int rb), .val (.int rc), .val (.int (1 : Int32)), .unset, .unset, .unset, .unset] [(.double (FP.i2d kc)), (.int (2 : Int32)), (.ref b1)])) rfl (by rw [hml]; rfl) (Steps.refl _) (argsL := [(.int (2 : Int32)), (.double (FP.i2d kc))]) (rest := []) (lenOf pd_5 rfl) rfl (by show 2 * 0 + _ ≤ _; exact Nat.le_of_eq rfl) (hb hby at_149) (fun _ _ => ⟨rfl, e69, (by decide : 4 + 0 ≤ room_1.cells), (by decide : 13 + 0 ≤ room_1.slots)⟩)
      dsimp only [Pt.U, Pt.locs, Pt.cells, Pt.slots] at X82 l82 y82 z82 st82 hQ82
      subst l82 y82 z82
      obtain ⟨rfl, N82q, Kq82, E1q82, FKq82, FIq82, FPq82, FSq82, VKq82, VIq82, VPq82⟩ := hQ82
      have N82 := Fr.app N69 N82q
      have f83 := fj69_0.keep Kq82
      have Z84 := Nat.le_trans Z69 Kq82.1
      have go85 : Goes p e below s₁ (entryFrame m #[(.int fl), (.int ka), (.int kb), (.int kc)] maxLocals) T82 (mkF m 152 #[.val (.int fl), .val (.int ka), .val (.int kb), .val (.int kc), .val (.ref b1), .val (.int qa), .val (.int qb), .val (.int qc), .val (.int ra), .val (.int rb), .val (.int rc), .val (.int (1 : Int32)), .unset, .unset, .unset, .unset] []) := fun t k => go81 t (st82.trans k)
      exact ⟨T82, T82.heap, (lo69 ++ Lc82), (own_u kfp1 (2 : Int32) (FP.i2d kc)), (own_putA (own_u kfp1 (2 : Int32) (FP.i2d kc)) sgp1 (2 : Int32) nzp1), (nzp1 + 1), X82, rfl, Z84, N82, f83, FKq82, FIq82, FPq82, FSq82, VKq82, VIq82, VPq82, ⟨(hj69.1.putA (own_u kfp1 (2 : Int32) (FP.i2d kc)) own_R2 (by simp [own_S]) (own_rng2 hj16 hj21 hj69.2)).congr rfl (by rw [(hj26.resolve_left hc79)]; exact own_S_add2), by rw [(hj26.resolve_left hc79), hj69.2]⟩, go85⟩
  have go86 : Goes p e below s₁ (entryFrame m #[(.int fl), (.int ka), (.int kb), (.int kc)] maxLocals) T78 (mkF m 154 #[.val (.int fl), .val (.int ka), .val (.int kb), .val (.int kc), .val (.ref b1), .val (.int qa), .val (.int qb), .val (.int qc), .val (.int ra), .val (.int rb), .val (.int rc), .val (.int (1 : Int32)), .unset, .unset, .unset, .unset] [(.int qa)]) := fun t k => by
    refine go78j t ?_
    refine XS.iload X78.here hx rfl (hb hby at_152) rfl ?_
    show Steps p.tables e below (T78.setTop (mkF m 154 #[.val (.int fl), .val (.int ka), .val (.int kb), .val (.int kc), .val (.ref b1), .val (.int qa), .val (.int qb), .val (.int qc), .val (.int ra), .val (.int rb), .val (.int rc), .val (.int (1 : Int32)), .unset, .unset, .unset, .unset] [(.int qa)])) _
    exact k
  obtain ⟨_, _, ⟨T87, L87, k87, n87⟩, -, X87, ⟨Lc87, hQ87, l87, y87, z87⟩, st87⟩ := Jvm.LawKit.callS X78 hx (y := (⟨"com/example/covermesh/covermesh/algorithms/IndexedMinHeapIsEmptyPinLaw", "one", "(Z)I"⟩ : MethodName)) hown (mvT hZ (hw _ (List.mem_of_getElem? (i := 28) rfl))) (mvT hZ (hw _ (List.mem_of_getElem? (i := 29) rfl))) (mvT hZ (hw _ (List.mem_of_getElem? (i := 30) rfl))) (mvT hZ (hw _ (List.mem_of_getElem? (i := 31) rfl))) (by decide) (backOf (W := 0) (rmO l Z a0 hw [] qa h78 n0 Z78 hj16) hZ (hw _ (List.mem_of_getElem? (i := 31) rfl)) (hw _ (List.mem_of_getElem? (i := 30) rfl)) (by decide) (by decide)) (g := (mkF m 154 #[.val (.int fl), .val (.int ka), .val (.int kb), .val (.int kc), .val (.ref b1), .val (.int qa), .val (.int qb), .val (.int qc), .val (.int ra), .val (.int rb), .val (.int rc), .val (.int (1 : Int32)), .unset, .unset, .unset, .unset] [(.int qa)])) rfl (by rw [hml]; rfl) (argsL := [(.int qa)]) (rest := []) (lenOf pd_6 rfl) rfl (by show 2 * 0 + _ ≤ _; exact Nat.le_of_eq rfl) (hb hby at_154) (fun _ _ => ⟨rfl, e78, (by decide : 4 + 0 ≤ room_1.cells), (by decide : 13 + 0 ≤ room_1.slots)⟩)
  dsimp only [Pt.U, Pt.locs, Pt.cells, Pt.slots] at X87 l87 y87 z87 st87 hQ87
  subst l87 y87 z87
  obtain ⟨rfl, N87q, e87⟩ := hQ87
  have N87 := Fr.app N78 N87q
  have go88 : Goes p e below s₁ (entryFrame m #[(.int fl), (.int ka), (.int kb), (.int kc)] maxLocals) T87 (mkF m 157 #[.val (.int fl), .val (.int ka), .val (.int kb), .val (.int kc), .val (.ref b1), .val (.int qa), .val (.int qb), .val (.int qc), .val (.int ra), .val (.int rb), .val (.int rc), .val (.int (1 : Int32)), .unset, .unset, .unset, .unset] [(.int qa)]) := fun t k => go86 t (st87 t k)
  have go89 : Goes p e below s₁ (entryFrame m #[(.int fl), (.int ka), (.int kb), (.int kc)] maxLocals) T87 (mkF m 159 #[.val (.int fl), .val (.int ka), .val (.int kb), .val (.int kc), .val (.ref b1), .val (.int qa), .val (.int qb), .val (.int qc), .val (.int ra), .val (.int rb), .val (.int rc), .val (.int (1 : Int32)), .unset, .unset, .unset, .unset] [(.int qb), (.int qa)]) := fun t k => by
    refine go88 t ?_
    refine XS.iload X87.here hx rfl (hb hby at_157) rfl ?_
    show Steps p.tables e below (T87.setTop (mkF m 159 #[.val (.int fl), .val (.int ka), .val (.int kb), .val (.int kc), .val (.ref b1), .val (.int qa), .val (.int qb), .val (.int qc), .val (.int ra), .val (.int rb), .val (.int rc), .val (.int (1 : Int32)), .unset, .unset, .unset, .unset] [(.int qb), (.int qa)])) _
    exact k
  obtain ⟨_, _, ⟨T90, L90, k90, n90⟩, -, X90, ⟨Lc90, hQ90, l90, y90, z90⟩, st90⟩ := Jvm.LawKit.callS X87 hx (y := (⟨"com/example/covermesh/covermesh/algorithms/IndexedMinHeapIsEmptyPinLaw", "one", "(Z)I"⟩ : MethodName)) hown (mvT hZ (hw _ (List.mem_of_getElem? (i := 28) rfl))) (mvT hZ (hw _ (List.mem_of_getElem? (i := 29) rfl))) (mvT hZ (hw _ (List.mem_of_getElem? (i := 30) rfl))) (mvT hZ (hw _ (List.mem_of_getElem? (i := 31) rfl))) (by decide) (backOf (W := 1) (rmO l Z a0 hw [] qb h78 n0 Z78 hj21) hZ (hw _ (List.mem_of_getElem? (i := 31) rfl)) (hw _ (List.mem_of_getElem? (i := 30) rfl)) (by decide) (by decide)) (g := (mkF m 159 #[.val (.int fl), .val (.int ka), .val (.int kb), .val (.int kc), .val (.ref b1), .val (.int qa), .val (.int qb), .val (.int qc), .val (.int ra), .val (.int rb), .val (.int rc), .val (.int (1 : Int32)), .unset, .unset, .unset, .unset] [(.int qb), (.int qa)])) rfl (by rw [hml]; rfl) (argsL := [(.int qb)]) (rest := [(.int qa)]) (lenOf pd_6 rfl) rfl (by show 2 * 0 + _ ≤ _; exact Nat.le_of_eq rfl) (hb hby at_159) (fun _ _ => ⟨rfl, e87, (by decide : 4 + 0 ≤ room_1.cells), (by decide : 13 + 0 ≤ room_1.slots)⟩)
  dsimp only [Pt.U, Pt.locs, Pt.cells, Pt.slots] at X90 l90 y90 z90 st90 hQ90
  subst l90 y90 z90
  obtain ⟨rfl, N90q, e90⟩ := hQ90
  have N90 := Fr.app N87 N90q
  have go91 : Goes p e below s₁ (entryFrame m #[(.int fl), (.int ka), (.int kb), (.int kc)] maxLocals) T90 (mkF m 162 #[.val (.int fl), .val (.int ka), .val (.int kb), .val (.int kc), .val (.ref b1), .val (.int qa), .val (.int qb), .val (.int qc), .val (.int ra), .val (.int rb), .val (.int rc), .val (.int (1 : Int32)), .unset, .unset, .unset, .unset] [(.int qb), (.int qa)]) := fun t k => go89 t (st90 t k)
  have go92 : Goes p e below s₁ (entryFrame m #[(.int fl), (.int ka), (.int kb), (.int kc)] maxLocals) T90 (mkF m 165 #[.val (.int fl), .val (.int ka), .val (.int kb), .val (.int kc), .val (.ref b1), .val (.int qa), .val (.int qb), .val (.int qc), .val (.int ra), .val (.int rb), .val (.int rc), .val (.int (1 : Int32)), .unset, .unset, .unset, .unset] [(.int qc), (.int (qa + qb))]) := fun t k => by
    refine go91 t ?_
    refine XS.iadd X90.here hx rfl (hb hby at_162) rfl ?_
    show Steps p.tables e below (T90.setTop (mkF m 163 #[.val (.int fl), .val (.int ka), .val (.int kb), .val (.int kc), .val (.ref b1), .val (.int qa), .val (.int qb), .val (.int qc), .val (.int ra), .val (.int rb), .val (.int rc), .val (.int (1 : Int32)), .unset, .unset, .unset, .unset] [(.int (qa + qb))])) _
    refine XS.iload X90.here hx rfl (hb hby at_163) rfl ?_
    show Steps p.tables e below (T90.setTop (mkF m 165 #[.val (.int fl), .val (.int ka), .val (.int kb), .val (.int kc), .val (.ref b1), .val (.int qa), .val (.int qb), .val (.int qc), .val (.int ra), .val (.int rb), .val (.int rc), .val (.int (1 : Int32)), .unset, .unset, .unset, .unset] [(.int qc), (.int (qa + qb))])) _
    exact k
  obtain ⟨_, _, ⟨T93, L93, k93, n93⟩, -, X93, ⟨Lc93, hQ93, l93, y93, z93⟩, st93⟩ := Jvm.LawKit.callS X90 hx (y := (⟨"com/example/covermesh/covermesh/algorithms/IndexedMinHeapIsEmptyPinLaw", "one", "(Z)I"⟩ : MethodName)) hown (mvT hZ (hw _ (List.mem_of_getElem? (i := 28) rfl))) (mvT hZ (hw _ (List.mem_of_getElem? (i := 29) rfl))) (mvT hZ (hw _ (List.mem_of_getElem? (i := 30) rfl))) (mvT hZ (hw _ (List.mem_of_getElem? (i := 31) rfl))) (by decide) (backOf (W := 1) (rmO l Z a0 hw [] qc h78 n0 Z78 hj26) hZ (hw _ (List.mem_of_getElem? (i := 31) rfl)) (hw _ (List.mem_of_getElem? (i := 30) rfl)) (by decide) (by decide)) (g := (mkF m 165 #[.val (.int fl), .val (.int ka), .val (.int kb), .val (.int kc), .val (.ref b1), .val (.int qa), .val (.int qb), .val (.int qc), .val (.int ra), .val (.int rb), .val (.int rc), .val (.int (1 : Int32)), .unset, .unset, .unset, .unset] [(.int qc), (.int (qa + qb))])) rfl (by rw [hml]; rfl) (argsL := [(.int qc)]) (rest := [(.int (qa + qb))]) (lenOf pd_6 rfl) rfl (by show 2 * 0 + _ ≤ _; exact Nat.le_of_eq rfl) (hb hby at_165) (fun _ _ => ⟨rfl, e90, (by decide : 4 + 0 ≤ room_1.cells), (by decide : 13 + 0 ≤ room_1.slots)⟩)
  dsimp only [Pt.U, Pt.locs, Pt.cells, Pt.slots] at X93 l93 y93 z93 st93 hQ93
  subst l93 y93 z93
  obtain ⟨rfl, N93q, e93⟩ := hQ93
  have N93 := Fr.app N90 N93q
  have go94 : Goes p e below s₁ (entryFrame m #[(.int fl), (.int ka), (.int kb), (.int kc)] maxLocals) T93 (mkF m 168 #[.val (.int fl), .val (.int ka), .val (.int kb), .val (.int kc), .val (.ref b1), .val (.int qa), .val (.int qb), .val (.int qc), .val (.int ra), .val (.int rb), .val (.int rc), .val (.int (1 : Int32)), .unset, .unset, .unset, .unset] [(.int qc), (.int (qa + qb))]) := fun t k => go92 t (st93 t k)
  have go95 : Goes p e below s₁ (entryFrame m #[(.int fl), (.int ka), (.int kb), (.int kc)] maxLocals) T93 (mkF m 173 #[.val (.int fl), .val (.int ka), .val (.int kb), .val (.int kc), .val (.ref b1), .val (.int qa), .val (.int qb), .val (.int qc), .val (.int ra), .val (.int rb), .val (.int rc), .val (.int (1 : Int32)), .val (.int ((qa + qb) + qc)), .unset, .unset, .unset] [(.ref b1)]) := fun t k => by
    refine go94 t ?_
    refine XS.iadd X93.here hx rfl (hb hby at_168) rfl ?_
    show Steps p.tables e below (T93.setTop (mkF m 169 #[.val (.int fl), .val (.int ka), .val (.int kb), .val (.int kc), .val (.ref b1), .val (.int qa), .val (.int qb), .val (.int qc), .val (.int ra), .val (.int rb), .val (.int rc), .val (.int (1 : Int32)), .unset, .unset, .unset, .unset] [(.int ((qa + qb) + qc))])) _
    refine XS.istore X93.here hx rfl (hb hby at_169) rfl (l' := #[.val (.int fl), .val (.int ka), .val (.int kb), .val (.int kc), .val (.ref b1), .val (.int qa), .val (.int qb), .val (.int qc), .val (.int ra), .val (.int rb), .val (.int rc), .val (.int (1 : Int32)), .val (.int ((qa + qb) + qc)), .unset, .unset, .unset]) rfl ?_
    show Steps p.tables e below (T93.setTop (mkF m 171 #[.val (.int fl), .val (.int ka), .val (.int kb), .val (.int kc), .val (.ref b1), .val (.int qa), .val (.int qb), .val (.int qc), .val (.int ra), .val (.int rb), .val (.int rc), .val (.int (1 : Int32)), .val (.int ((qa + qb) + qc)), .unset, .unset, .unset] [])) _
    refine XS.aload X93.here hx rfl (hb hby at_171) rfl rfl ?_
    show Steps p.tables e below (T93.setTop (mkF m 173 #[.val (.int fl), .val (.int ka), .val (.int kb), .val (.int kc), .val (.ref b1), .val (.int qa), .val (.int qb), .val (.int qc), .val (.int ra), .val (.int rb), .val (.int rc), .val (.int (1 : Int32)), .val (.int ((qa + qb) + qc)), .unset, .unset, .unset] [(.ref b1)])) _
    exact k
  obtain ⟨cq96, kq96, q96a, q96b, q96c⟩ := isOf hZ e93 fj78_0
  obtain ⟨_, _, ⟨T96, L96, k96, n96⟩, -, X96, ⟨Lc96, hQ96, l96, y96, z96⟩, st96⟩ := X93.virtualBack hx (y := (⟨"com/example/covermesh/covermesh/algorithms/IndexedMinHeap", "isEmpty", "()Z"⟩ : MethodName)) (z := (⟨"com/example/covermesh/covermesh/algorithms/IndexedMinHeap", "isEmpty", "()Z"⟩ : MethodName)) hown (mvT hZ (hw _ (List.mem_of_getElem? (i := 21) rfl))) (mvT hZ (hw _ (List.mem_of_getElem? (i := 22) rfl))) (notFace_of_selects (args := #[]) (mvT hZ (hw _ (List.mem_of_getElem? (i := 24) rfl)))) (mvT hZ (hw _ (List.mem_of_getElem? (i := 24) rfl))) (mvT hZ (hw _ (List.mem_of_getElem? (i := 23) rfl))) (by decide) (backOf (W := 0) (rmE l Z a0 hw [] b1 nzp2 h78 n0 Z78 fj78_4) hZ (hw _ (List.mem_of_getElem? (i := 25) rfl)) (hw _ (List.mem_of_getElem? (i := 2) rfl)) (by decide) (by decide)) q96a q96c (g := (mkF m 173 #[.val (.int fl), .val (.int ka), .val (.int kb), .val (.int kc), .val (.ref b1), .val (.int qa), .val (.int qb), .val (.int qc), .val (.int ra), .val (.int rb), .val (.int rc), .val (.int (1 : Int32)), .val (.int ((qa + qb) + qc)), .unset, .unset, .unset] [(.ref b1)])) rfl (by rw [hml]; rfl) (Steps.refl _) (argsL := []) (rest := []) (lenOf pd_4 rfl) rfl (by show 2 * 0 + _ ≤ _; exact Nat.le_of_eq rfl) (hb hby at_173) (fun _ _ => ⟨rfl, e93, (by decide : 4 + 0 ≤ room_1.cells), (by decide : 13 + 0 ≤ room_1.slots)⟩)
  dsimp only [Pt.U, Pt.locs, Pt.cells, Pt.slots] at X96 l96 y96 z96 st96 hQ96
  subst l96 y96 z96
  obtain ⟨rfl, N96q, e96⟩ := hQ96
  have N96 := Fr.app N93 N96q
  have go97 : Goes p e below s₁ (entryFrame m #[(.int fl), (.int ka), (.int kb), (.int kc)] maxLocals) T96 (mkF m 176 #[.val (.int fl), .val (.int ka), .val (.int kb), .val (.int kc), .val (.ref b1), .val (.int qa), .val (.int qb), .val (.int qc), .val (.int ra), .val (.int rb), .val (.int rc), .val (.int (1 : Int32)), .val (.int ((qa + qb) + qc)), .unset, .unset, .unset] [(.int (own_e nzp2))]) := fun t k => go95 t (st96.trans k)
  have go98 : Goes p e below s₁ (entryFrame m #[(.int fl), (.int ka), (.int kb), (.int kc)] maxLocals) T96 (mkF m 180 #[.val (.int fl), .val (.int ka), .val (.int kb), .val (.int kc), .val (.ref b1), .val (.int qa), .val (.int qb), .val (.int qc), .val (.int ra), .val (.int rb), .val (.int rc), .val (.int (1 : Int32)), .val (.int ((qa + qb) + qc)), .val (.int (own_e nzp2)), .unset, .unset] [(.int (1 : Int32))]) := fun t k => by
    refine go97 t ?_
    refine XS.istore X96.here hx rfl (hb hby at_176) rfl (l' := #[.val (.int fl), .val (.int ka), .val (.int kb), .val (.int kc), .val (.ref b1), .val (.int qa), .val (.int qb), .val (.int qc), .val (.int ra), .val (.int rb), .val (.int rc), .val (.int (1 : Int32)), .val (.int ((qa + qb) + qc)), .val (.int (own_e nzp2)), .unset, .unset]) rfl ?_
    show Steps p.tables e below (T96.setTop (mkF m 178 #[.val (.int fl), .val (.int ka), .val (.int kb), .val (.int kc), .val (.ref b1), .val (.int qa), .val (.int qb), .val (.int qc), .val (.int ra), .val (.int rb), .val (.int rc), .val (.int (1 : Int32)), .val (.int ((qa + qb) + qc)), .val (.int (own_e nzp2)), .unset, .unset] [])) _
    refine XS.iload X96.here hx rfl (hb hby at_178) rfl ?_
    show Steps p.tables e below (T96.setTop (mkF m 180 #[.val (.int fl), .val (.int ka), .val (.int kb), .val (.int kc), .val (.ref b1), .val (.int qa), .val (.int qb), .val (.int qc), .val (.int ra), .val (.int rb), .val (.int rc), .val (.int (1 : Int32)), .val (.int ((qa + qb) + qc)), .val (.int (own_e nzp2)), .unset, .unset] [(.int (1 : Int32))])) _
    exact k
  have go99 : Goes p e below s₁ (entryFrame m #[(.int fl), (.int ka), (.int kb), (.int kc)] maxLocals) T96 (mkF m 187 #[.val (.int fl), .val (.int ka), .val (.int kb), .val (.int kc), .val (.ref b1), .val (.int qa), .val (.int qb), .val (.int qc), .val (.int ra), .val (.int rb), .val (.int rc), .val (.int (1 : Int32)), .val (.int ((qa + qb) + qc)), .val (.int (own_e nzp2)), .unset, .unset] [(.int ((qa + qb) + qc)), (.int (own_e nzp2))]) := fun t k => by
    refine go98 t ?_
    refine XS.ifNo X96.here hx rfl (hb hby at_180) rfl (Jvm.Free.XT.i0_eq_f (by decide)) ?_
    show Steps p.tables e below (T96.setTop (mkF m 183 #[.val (.int fl), .val (.int ka), .val (.int kb), .val (.int kc), .val (.ref b1), .val (.int qa), .val (.int qb), .val (.int qc), .val (.int ra), .val (.int rb), .val (.int rc), .val (.int (1 : Int32)), .val (.int ((qa + qb) + qc)), .val (.int (own_e nzp2)), .unset, .unset] [])) _
    refine XS.iload X96.here hx rfl (hb hby at_183) rfl ?_
    show Steps p.tables e below (T96.setTop (mkF m 185 #[.val (.int fl), .val (.int ka), .val (.int kb), .val (.int kc), .val (.ref b1), .val (.int qa), .val (.int qb), .val (.int qc), .val (.int ra), .val (.int rb), .val (.int rc), .val (.int (1 : Int32)), .val (.int ((qa + qb) + qc)), .val (.int (own_e nzp2)), .unset, .unset] [(.int (own_e nzp2))])) _
    refine XS.iload X96.here hx rfl (hb hby at_185) rfl ?_
    show Steps p.tables e below (T96.setTop (mkF m 187 #[.val (.int fl), .val (.int ka), .val (.int kb), .val (.int kc), .val (.ref b1), .val (.int qa), .val (.int qb), .val (.int qc), .val (.int ra), .val (.int rb), .val (.int rc), .val (.int (1 : Int32)), .val (.int ((qa + qb) + qc)), .val (.int (own_e nzp2)), .unset, .unset] [(.int ((qa + qb) + qc)), (.int (own_e nzp2))])) _
    exact k
  obtain ⟨T100, ok187, X100, e100, hj100, go100j⟩ : ∃ (T' : State) (ok187 : Int32), Stand p l e room_1 s m #[(.int fl), (.int ka), (.int kb), (.int kc)] below meth c T' ((((lo78 ++ Lc87) ++ Lc90) ++ Lc93) ++ Lc96) 4 13 ∧ T'.heap = h78 ∧ (ok187 = (1 : Int32)) ∧ Goes p e below s₁ (entryFrame m #[(.int fl), (.int ka), (.int kb), (.int kc)] maxLocals) T' (mkF m 203 #[.val (.int fl), .val (.int ka), .val (.int kb), .val (.int kc), .val (.ref b1), .val (.int qa), .val (.int qb), .val (.int qc), .val (.int ra), .val (.int rb), .val (.int rc), .val (.int (1 : Int32)), .val (.int ((qa + qb) + qc)), .val (.int (own_e nzp2)), .unset, .unset] [(.int ok187)]) := by
    by_cases hc101 : ((qa + qb) + qc) = (0 : Int32)
    · have go102 : Goes p e below s₁ (entryFrame m #[(.int fl), (.int ka), (.int kb), (.int kc)] maxLocals) T96 (mkF m 195 #[.val (.int fl), .val (.int ka), .val (.int kb), .val (.int kc), .val (.ref b1), .val (.int qa), .val (.int qb), .val (.int qc), .val (.int ra), .val (.int rb), .val (.int rc), .val (.int (1 : Int32)), .val (.int ((qa + qb) + qc)), .val (.int (own_e nzp2)), .unset, .unset] [(.int (1 : Int32)), (.int (own_e nzp2))]) := fun t k => by
        refine go99 t ?_
        refine XS.ifNo X96.here hx rfl (hb hby at_187) rfl (Jvm.Free.XT.i0_ne_f hc101) ?_
        show Steps p.tables e below (T96.setTop (mkF m 190 #[.val (.int fl), .val (.int ka), .val (.int kb), .val (.int kc), .val (.ref b1), .val (.int qa), .val (.int qb), .val (.int qc), .val (.int ra), .val (.int rb), .val (.int rc), .val (.int (1 : Int32)), .val (.int ((qa + qb) + qc)), .val (.int (own_e nzp2)), .unset, .unset] [(.int (own_e nzp2))])) _
        refine XS.iconst X96.here hx rfl (hb hby at_190) ?_
        show Steps p.tables e below (T96.setTop (mkF m 191 #[.val (.int fl), .val (.int ka), .val (.int kb), .val (.int kc), .val (.ref b1), .val (.int qa), .val (.int qb), .val (.int qc), .val (.int ra), .val (.int rb), .val (.int rc), .val (.int (1 : Int32)), .val (.int ((qa + qb) + qc)), .val (.int (own_e nzp2)), .unset, .unset] [(.int (1 : Int32)), (.int (own_e nzp2))])) _
        refine XS.goto X96.here hx rfl (pc0 := 191) (pc' := 195) rfl (hb hby at_191) (by decide) (by decide) ?_
        show Steps p.tables e below (T96.setTop (mkF m 195 #[.val (.int fl), .val (.int ka), .val (.int kb), .val (.int kc), .val (.ref b1), .val (.int qa), .val (.int qb), .val (.int qc), .val (.int ra), .val (.int rb), .val (.int rc), .val (.int (1 : Int32)), .val (.int ((qa + qb) + qc)), .val (.int (own_e nzp2)), .unset, .unset] [(.int (1 : Int32)), (.int (own_e nzp2))])) _
        exact k
      have go103 : Goes p e below s₁ (entryFrame m #[(.int fl), (.int ka), (.int kb), (.int kc)] maxLocals) T96 (mkF m 203 #[.val (.int fl), .val (.int ka), .val (.int kb), .val (.int kc), .val (.ref b1), .val (.int qa), .val (.int qb), .val (.int qc), .val (.int ra), .val (.int rb), .val (.int rc), .val (.int (1 : Int32)), .val (.int ((qa + qb) + qc)), .val (.int (own_e nzp2)), .unset, .unset] [(.int (1 : Int32))]) := fun t k => by
        refine go102 t ?_
        refine XS.icmpNo X96.here hx rfl (hb hby at_195) rfl (Jvm.Free.XT.ii_ne_f (by rw [hj78.2]; exact if_pos hc101)) ?_
        show Steps p.tables e below (T96.setTop (mkF m 198 #[.val (.int fl), .val (.int ka), .val (.int kb), .val (.int kc), .val (.ref b1), .val (.int qa), .val (.int qb), .val (.int qc), .val (.int ra), .val (.int rb), .val (.int rc), .val (.int (1 : Int32)), .val (.int ((qa + qb) + qc)), .val (.int (own_e nzp2)), .unset, .unset] [])) _
        refine XS.iconst X96.here hx rfl (hb hby at_198) ?_
        show Steps p.tables e below (T96.setTop (mkF m 199 #[.val (.int fl), .val (.int ka), .val (.int kb), .val (.int kc), .val (.ref b1), .val (.int qa), .val (.int qb), .val (.int qc), .val (.int ra), .val (.int rb), .val (.int rc), .val (.int (1 : Int32)), .val (.int ((qa + qb) + qc)), .val (.int (own_e nzp2)), .unset, .unset] [(.int (1 : Int32))])) _
        refine XS.goto X96.here hx rfl (pc0 := 199) (pc' := 203) rfl (hb hby at_199) (by decide) (by decide) ?_
        show Steps p.tables e below (T96.setTop (mkF m 203 #[.val (.int fl), .val (.int ka), .val (.int kb), .val (.int kc), .val (.ref b1), .val (.int qa), .val (.int qb), .val (.int qc), .val (.int ra), .val (.int rb), .val (.int rc), .val (.int (1 : Int32)), .val (.int ((qa + qb) + qc)), .val (.int (own_e nzp2)), .unset, .unset] [(.int (1 : Int32))])) _
        exact k
      exact ⟨T96, (1 : Int32), X96, e96, rfl, go103⟩
    · have go104 : Goes p e below s₁ (entryFrame m #[(.int fl), (.int ka), (.int kb), (.int kc)] maxLocals) T96 (mkF m 195 #[.val (.int fl), .val (.int ka), .val (.int kb), .val (.int kc), .val (.ref b1), .val (.int qa), .val (.int qb), .val (.int qc), .val (.int ra), .val (.int rb), .val (.int rc), .val (.int (1 : Int32)), .val (.int ((qa + qb) + qc)), .val (.int (own_e nzp2)), .unset, .unset] [(.int (0 : Int32)), (.int (own_e nzp2))]) := fun t k => by
        refine go99 t ?_
        refine XS.ifYes X96.here hx rfl (pc0 := 187) (pc' := 194) rfl (hb hby at_187) rfl (Jvm.Free.XT.i0_ne_t hc101) (by decide) (by decide) ?_
        show Steps p.tables e below (T96.setTop (mkF m 194 #[.val (.int fl), .val (.int ka), .val (.int kb), .val (.int kc), .val (.ref b1), .val (.int qa), .val (.int qb), .val (.int qc), .val (.int ra), .val (.int rb), .val (.int rc), .val (.int (1 : Int32)), .val (.int ((qa + qb) + qc)), .val (.int (own_e nzp2)), .unset, .unset] [(.int (own_e nzp2))])) _
        refine XS.iconst X96.here hx rfl (hb hby at_194) ?_
        show Steps p.tables e below (T96.setTop (mkF m 195 #[.val (.int fl), .val (.int ka), .val (.int kb), .val (.int kc), .val (.ref b1), .val (.int qa), .val (.int qb), .val (.int qc), .val (.int ra), .val (.int rb), .val (.int rc), .val (.int (1 : Int32)), .val (.int ((qa + qb) + qc)), .val (.int (own_e nzp2)), .unset, .unset] [(.int (0 : Int32)), (.int (own_e nzp2))])) _
        exact k
      have go105 : Goes p e below s₁ (entryFrame m #[(.int fl), (.int ka), (.int kb), (.int kc)] maxLocals) T96 (mkF m 203 #[.val (.int fl), .val (.int ka), .val (.int kb), .val (.int kc), .val (.ref b1), .val (.int qa), .val (.int qb), .val (.int qc), .val (.int ra), .val (.int rb), .val (.int rc), .val (.int (1 : Int32)), .val (.int ((qa + qb) + qc)), .val (.int (own_e nzp2)), .unset, .unset] [(.int (1 : Int32))]) := fun t k => by
        refine go104 t ?_
        refine XS.icmpNo X96.here hx rfl (hb hby at_195) rfl (Jvm.Free.XT.ii_ne_f (by rw [hj78.2]; exact if_neg hc101)) ?_
        show Steps p.tables e below (T96.setTop (mkF m 198 #[.val (.int fl), .val (.int ka), .val (.int kb), .val (.int kc), .val (.ref b1), .val (.int qa), .val (.int qb), .val (.int qc), .val (.int ra), .val (.int rb), .val (.int rc), .val (.int (1 : Int32)), .val (.int ((qa + qb) + qc)), .val (.int (own_e nzp2)), .unset, .unset] [])) _
        refine XS.iconst X96.here hx rfl (hb hby at_198) ?_
        show Steps p.tables e below (T96.setTop (mkF m 199 #[.val (.int fl), .val (.int ka), .val (.int kb), .val (.int kc), .val (.ref b1), .val (.int qa), .val (.int qb), .val (.int qc), .val (.int ra), .val (.int rb), .val (.int rc), .val (.int (1 : Int32)), .val (.int ((qa + qb) + qc)), .val (.int (own_e nzp2)), .unset, .unset] [(.int (1 : Int32))])) _
        refine XS.goto X96.here hx rfl (pc0 := 199) (pc' := 203) rfl (hb hby at_199) (by decide) (by decide) ?_
        show Steps p.tables e below (T96.setTop (mkF m 203 #[.val (.int fl), .val (.int ka), .val (.int kb), .val (.int kc), .val (.ref b1), .val (.int qa), .val (.int qb), .val (.int qc), .val (.int ra), .val (.int rb), .val (.int rc), .val (.int (1 : Int32)), .val (.int ((qa + qb) + qc)), .val (.int (own_e nzp2)), .unset, .unset] [(.int (1 : Int32))])) _
        exact k
      exact ⟨T96, (1 : Int32), X96, e96, rfl, go105⟩
  have go106 : Goes p e below s₁ (entryFrame m #[(.int fl), (.int ka), (.int kb), (.int kc)] maxLocals) T100 (mkF m 203 #[.val (.int fl), .val (.int ka), .val (.int kb), .val (.int kc), .val (.ref b1), .val (.int qa), .val (.int qb), .val (.int qc), .val (.int ra), .val (.int rb), .val (.int rc), .val (.int (1 : Int32)), .val (.int ((qa + qb) + qc)), .val (.int (own_e nzp2)), .unset, .unset] [(.int (1 : Int32))]) := Eq.mp (congrArg (fun zz => Goes p e below s₁ (entryFrame m #[(.int fl), (.int ka), (.int kb), (.int kc)] maxLocals) T100 (mkF m 203 #[.val (.int fl), .val (.int ka), .val (.int kb), .val (.int kc), .val (.ref b1), .val (.int qa), .val (.int qb), .val (.int qc), .val (.int ra), .val (.int rb), .val (.int rc), .val (.int (1 : Int32)), .val (.int ((qa + qb) + qc)), .val (.int (own_e nzp2)), .unset, .unset] [(.int zz)])) hj100) go100j
  have go107 : Goes p e below s₁ (entryFrame m #[(.int fl), (.int ka), (.int kb), (.int kc)] maxLocals) T100 (mkF m 207 #[.val (.int fl), .val (.int ka), .val (.int kb), .val (.int kc), .val (.ref b1), .val (.int qa), .val (.int qb), .val (.int qc), .val (.int ra), .val (.int rb), .val (.int rc), .val (.int (1 : Int32)), .val (.int ((qa + qb) + qc)), .val (.int (own_e nzp2)), .unset, .unset] [(.int ra)]) := fun t k => by
    refine go106 t ?_
    refine XS.istore X100.here hx rfl (hb hby at_203) rfl (l' := #[.val (.int fl), .val (.int ka), .val (.int kb), .val (.int kc), .val (.ref b1), .val (.int qa), .val (.int qb), .val (.int qc), .val (.int ra), .val (.int rb), .val (.int rc), .val (.int (1 : Int32)), .val (.int ((qa + qb) + qc)), .val (.int (own_e nzp2)), .unset, .unset]) rfl ?_
    show Steps p.tables e below (T100.setTop (mkF m 205 #[.val (.int fl), .val (.int ka), .val (.int kb), .val (.int kc), .val (.ref b1), .val (.int qa), .val (.int qb), .val (.int qc), .val (.int ra), .val (.int rb), .val (.int rc), .val (.int (1 : Int32)), .val (.int ((qa + qb) + qc)), .val (.int (own_e nzp2)), .unset, .unset] [])) _
    refine XS.iload X100.here hx rfl (hb hby at_205) rfl ?_
    show Steps p.tables e below (T100.setTop (mkF m 207 #[.val (.int fl), .val (.int ka), .val (.int kb), .val (.int kc), .val (.ref b1), .val (.int qa), .val (.int qb), .val (.int qc), .val (.int ra), .val (.int rb), .val (.int rc), .val (.int (1 : Int32)), .val (.int ((qa + qb) + qc)), .val (.int (own_e nzp2)), .unset, .unset] [(.int ra)])) _
    exact k
  obtain ⟨T108, h108, lo108, kfd0, sgd0, nzd0, X108, e108, Z108, N108, fj108_0, fj108_1, fj108_2, fj108_3, fj108_4, fj108_5, fj108_6, fj108_7, hj108, go108j⟩ : ∃ (T' : State) (h' : Heap) (lo' : List Loc) (kfd0 : Int32 → UInt64) (sgd0 : own_P) (nzd0 : Int32), Stand p l e room_1 s m #[(.int fl), (.int ka), (.int kb), (.int kc)] below meth c T' lo' 4 13 ∧ T'.heap = h' ∧ n0 ≤ h'.size ∧ Fr n0 lo' ∧ (Exa Z h' b1 "com/example/covermesh/covermesh/algorithms/IndexedMinHeap") ∧ (Fld Z h' b1 "com/example/covermesh/covermesh/algorithms/IndexedMinHeap" "keys" "[D" (.ref aK)) ∧ (Fld Z h' b1 "com/example/covermesh/covermesh/algorithms/IndexedMinHeap" "items" "[I" (.ref aI)) ∧ (Fld Z h' b1 "com/example/covermesh/covermesh/algorithms/IndexedMinHeap" "positions" "[I" (.ref aP)) ∧ (Fld Z h' b1 "com/example/covermesh/covermesh/algorithms/IndexedMinHeap" "size" "I" (.int nzd0)) ∧ (Arv Z h' aK kk .double 3 (own_d kfd0) (.double (0 : UInt64))) ∧ (Arv Z h' aI ki .int 3 (own_l sgd0.1) (.int (0 : Int32))) ∧ (Arv Z h' aP kp .int 3 (own_l sgd0.2) (.int (0 : Int32))) ∧ (own_G sgd0 nzd0 (own_S (qa - ra) qb qc) ∧ nzd0 = qa + qb + qc - ra) ∧ Goes p e below s₁ (entryFrame m #[(.int fl), (.int ka), (.int kb), (.int kc)] maxLocals) T' (mkF m 216 #[.val (.int fl), .val (.int ka), .val (.int kb), .val (.int kc), .val (.ref b1), .val (.int qa), .val (.int qb), .val (.int qc), .val (.int ra), .val (.int rb), .val (.int rc), .val (.int (1 : Int32)), .val (.int ((qa + qb) + qc)), .val (.int (own_e nzp2)), .unset, .unset] []) := by
    by_cases hc109 : ra = (0 : Int32)
    · have go110 : Goes p e below s₁ (entryFrame m #[(.int fl), (.int ka), (.int kb), (.int kc)] maxLocals) T100 (mkF m 216 #[.val (.int fl), .val (.int ka), .val (.int kb), .val (.int kc), .val (.ref b1), .val (.int qa), .val (.int qb), .val (.int qc), .val (.int ra), .val (.int rb), .val (.int rc), .val (.int (1 : Int32)), .val (.int ((qa + qb) + qc)), .val (.int (own_e nzp2)), .unset, .unset] []) := fun t k => by
        refine go107 t ?_
        refine XS.ifYes X100.here hx rfl (pc0 := 207) (pc' := 216) rfl (hb hby at_207) rfl (Jvm.Free.XT.i0_eq_t hc109) (by decide) (by decide) ?_
        show Steps p.tables e below (T100.setTop (mkF m 216 #[.val (.int fl), .val (.int ka), .val (.int kb), .val (.int kc), .val (.ref b1), .val (.int qa), .val (.int qb), .val (.int qc), .val (.int ra), .val (.int rb), .val (.int rc), .val (.int (1 : Int32)), .val (.int ((qa + qb) + qc)), .val (.int (own_e nzp2)), .unset, .unset] [])) _
        exact k
      exact ⟨T100, h78, ((((lo78 ++ Lc87) ++ Lc90) ++ Lc93) ++ Lc96), kfp2, sgp2, nzp2, X100, e100, Z78, N96, fj78_0, fj78_1, fj78_2, fj78_3, fj78_4, fj78_5, fj78_6, fj78_7, ⟨by rw [hc109]; simpa using hj78.1, by rw [hj78.2, hc109]; simp⟩, go110⟩
    · have go111 : Goes p e below s₁ (entryFrame m #[(.int fl), (.int ka), (.int kb), (.int kc)] maxLocals) T100 (mkF m 213 #[.val (.int fl), .val (.int ka), .val (.int kb), .val (.int kc), .val (.ref b1), .val (.int qa), .val (.int qb), .val (.int qc), .val (.int ra), .val (.int rb), .val (.int rc), .val (.int (1 : Int32)), .val (.int ((qa + qb) + qc)), .val (.int (own_e nzp2)), .unset, .unset] [(.int (0 : Int32)), (.ref b1)]) := fun t k => by
        refine go107 t ?_
        refine XS.ifNo X100.here hx rfl (hb hby at_207) rfl (Jvm.Free.XT.i0_eq_f hc109) ?_
        show Steps p.tables e below (T100.setTop (mkF m 210 #[.val (.int fl), .val (.int ka), .val (.int kb), .val (.int kc), .val (.ref b1), .val (.int qa), .val (.int qb), .val (.int qc), .val (.int ra), .val (.int rb), .val (.int rc), .val (.int (1 : Int32)), .val (.int ((qa + qb) + qc)), .val (.int (own_e nzp2)), .unset, .unset] [])) _
        refine XS.aload X100.here hx rfl (hb hby at_210) rfl rfl ?_
        show Steps p.tables e below (T100.setTop (mkF m 212 #[.val (.int fl), .val (.int ka), .val (.int kb), .val (.int kc), .val (.ref b1), .val (.int qa), .val (.int qb), .val (.int qc), .val (.int ra), .val (.int rb), .val (.int rc), .val (.int (1 : Int32)), .val (.int ((qa + qb) + qc)), .val (.int (own_e nzp2)), .unset, .unset] [(.ref b1)])) _
        refine XS.iconst X100.here hx rfl (hb hby at_212) ?_
        show Steps p.tables e below (T100.setTop (mkF m 213 #[.val (.int fl), .val (.int ka), .val (.int kb), .val (.int kc), .val (.ref b1), .val (.int qa), .val (.int qb), .val (.int qc), .val (.int ra), .val (.int rb), .val (.int rc), .val (.int (1 : Int32)), .val (.int ((qa + qb) + qc)), .val (.int (own_e nzp2)), .unset, .unset] [(.int (0 : Int32)), (.ref b1)])) _
        exact k
      obtain ⟨cq112, kq112, q112a, q112b, q112c⟩ := isOf hZ e100 fj78_0
      obtain ⟨_, _, ⟨T112, L112, k112, n112⟩, -, X112, ⟨Lc112, hQ112, l112, y112, z112⟩, st112⟩ := X100.virtualBack hx (y := (⟨"com/example/covermesh/covermesh/algorithms/IndexedMinHeap", "remove", "(I)V"⟩ : MethodName)) (z := (⟨"com/example/covermesh/covermesh/algorithms/IndexedMinHeap", "remove", "(I)V"⟩ : MethodName)) hown (mvT hZ (hw _ (List.mem_of_getElem? (i := 53) rfl))) (mvT hZ (hw _ (List.mem_of_getElem? (i := 54) rfl))) (notFace_of_selects (args := #[]) (mvT hZ (hw _ (List.mem_of_getElem? (i := 56) rfl)))) (mvT hZ (hw _ (List.mem_of_getElem? (i := 56) rfl))) (mvT hZ (hw _ (List.mem_of_getElem? (i := 55) rfl))) (by decide) (backOf (W := 0) (rmRem l Z a0 hw [] b1 (0 : Int32) aK aI aP kk ki kp kfp2 sgp2 nzp2 (own_S qa qb qc) h78 n0 Z78 fj78_0 fj78_1 fj78_2 fj78_3 fj78_4 fj78_5 fj78_6 fj78_7 nKI nKP nIP nAK nAI nAP gA gK gI gP own_R0 hj78.1 (by rw [(hj31.resolve_left hc109).2]; simp [own_S]) (own_rng3 hj16 hj21 hj26 (hj31.resolve_left hc109).2 hj78.2)) hZ (hw _ (List.mem_of_getElem? (i := 57) rfl)) (hw _ (List.mem_of_getElem? (i := 2) rfl)) (by decide) (by decide)) q112a q112c (g := (mkF m 213 #[.val (.int fl), .val (.int ka), .val (.int kb), .val (.int kc), .val (.ref b1), .val (.int qa), .val (.int qb), .val (.int qc), .val (.int ra), .val (.int rb), .val (.int rc), .val (.int (1 : Int32)), .val (.int ((qa + qb) + qc)), .val (.int (own_e nzp2)), .unset, .unset] [(.int (0 : Int32)), (.ref b1)])) rfl (by rw [hml]; rfl) (Steps.refl _) (argsL := [(.int (0 : Int32))]) (rest := []) (lenOf pd_2 rfl) rfl (by show 2 * 0 + _ ≤ _; exact Nat.le_of_eq rfl) (hb hby at_213) (fun _ _ => ⟨rfl, e100, (by decide : 4 + 0 ≤ room_1.cells), (by decide : 13 + 0 ≤ room_1.slots)⟩)
      dsimp only [Pt.U, Pt.locs, Pt.cells, Pt.slots] at X112 l112 y112 z112 st112 hQ112
      subst l112 y112 z112
      obtain ⟨rfl, N112q, Kq112, E1q112, FKq112, FIq112, FPq112, FSq112, VKq112, VIq112, VPq112⟩ := hQ112
      have N112 := Fr.app N96 N112q
      have f113 := fj78_0.keep Kq112
      have Z114 := Nat.le_trans Z78 Kq112.1
      have go115 : Goes p e below s₁ (entryFrame m #[(.int fl), (.int ka), (.int kb), (.int kc)] maxLocals) T112 (mkF m 216 #[.val (.int fl), .val (.int ka), .val (.int kb), .val (.int kc), .val (.ref b1), .val (.int qa), .val (.int qb), .val (.int qc), .val (.int ra), .val (.int rb), .val (.int rc), .val (.int (1 : Int32)), .val (.int ((qa + qb) + qc)), .val (.int (own_e nzp2)), .unset, .unset] []) := fun t k => go111 t (st112.trans k)
      exact ⟨T112, T112.heap, (((((lo78 ++ Lc87) ++ Lc90) ++ Lc93) ++ Lc96) ++ Lc112), kfp2, (own_rmv kfp2 sgp2 (0 : Int32) (sgp2.2 (0 : Int32)) nzp2), (nzp2 - 1), X112, rfl, Z114, N112, f113, FKq112, FIq112, FPq112, FSq112, VKq112, VIq112, VPq112, ⟨(hj78.1.rmv kfp2 own_R0 (by rw [(hj31.resolve_left hc109).2]; simp [own_S]) (own_rng3 hj16 hj21 hj26 (hj31.resolve_left hc109).2 hj78.2)).congr rfl (by rw [(hj31.resolve_left hc109).1, (hj31.resolve_left hc109).2]; exact own_S_del0), by rw [hj78.2, (hj31.resolve_left hc109).1]⟩, go115⟩
  have go116 : Goes p e below s₁ (entryFrame m #[(.int fl), (.int ka), (.int kb), (.int kc)] maxLocals) T108 (mkF m 218 #[.val (.int fl), .val (.int ka), .val (.int kb), .val (.int kc), .val (.ref b1), .val (.int qa), .val (.int qb), .val (.int qc), .val (.int ra), .val (.int rb), .val (.int rc), .val (.int (1 : Int32)), .val (.int ((qa + qb) + qc)), .val (.int (own_e nzp2)), .unset, .unset] [(.int rb)]) := fun t k => by
    refine go108j t ?_
    refine XS.iload X108.here hx rfl (hb hby at_216) rfl ?_
    show Steps p.tables e below (T108.setTop (mkF m 218 #[.val (.int fl), .val (.int ka), .val (.int kb), .val (.int kc), .val (.ref b1), .val (.int qa), .val (.int qb), .val (.int qc), .val (.int ra), .val (.int rb), .val (.int rc), .val (.int (1 : Int32)), .val (.int ((qa + qb) + qc)), .val (.int (own_e nzp2)), .unset, .unset] [(.int rb)])) _
    exact k
  obtain ⟨T117, h117, lo117, kfd1, sgd1, nzd1, X117, e117, Z117, N117, fj117_0, fj117_1, fj117_2, fj117_3, fj117_4, fj117_5, fj117_6, fj117_7, hj117, go117j⟩ : ∃ (T' : State) (h' : Heap) (lo' : List Loc) (kfd1 : Int32 → UInt64) (sgd1 : own_P) (nzd1 : Int32), Stand p l e room_1 s m #[(.int fl), (.int ka), (.int kb), (.int kc)] below meth c T' lo' 4 13 ∧ T'.heap = h' ∧ n0 ≤ h'.size ∧ Fr n0 lo' ∧ (Exa Z h' b1 "com/example/covermesh/covermesh/algorithms/IndexedMinHeap") ∧ (Fld Z h' b1 "com/example/covermesh/covermesh/algorithms/IndexedMinHeap" "keys" "[D" (.ref aK)) ∧ (Fld Z h' b1 "com/example/covermesh/covermesh/algorithms/IndexedMinHeap" "items" "[I" (.ref aI)) ∧ (Fld Z h' b1 "com/example/covermesh/covermesh/algorithms/IndexedMinHeap" "positions" "[I" (.ref aP)) ∧ (Fld Z h' b1 "com/example/covermesh/covermesh/algorithms/IndexedMinHeap" "size" "I" (.int nzd1)) ∧ (Arv Z h' aK kk .double 3 (own_d kfd1) (.double (0 : UInt64))) ∧ (Arv Z h' aI ki .int 3 (own_l sgd1.1) (.int (0 : Int32))) ∧ (Arv Z h' aP kp .int 3 (own_l sgd1.2) (.int (0 : Int32))) ∧ (own_G sgd1 nzd1 (own_S (qa - ra) (qb - rb) qc) ∧ nzd1 = qa + qb + qc - ra - rb) ∧ Goes p e below s₁ (entryFrame m #[(.int fl), (.int ka), (.int kb), (.int kc)] maxLocals) T' (mkF m 227 #[.val (.int fl), .val (.int ka), .val (.int kb), .val (.int kc), .val (.ref b1), .val (.int qa), .val (.int qb), .val (.int qc), .val (.int ra), .val (.int rb), .val (.int rc), .val (.int (1 : Int32)), .val (.int ((qa + qb) + qc)), .val (.int (own_e nzp2)), .unset, .unset] []) := by
    by_cases hc118 : rb = (0 : Int32)
    · have go119 : Goes p e below s₁ (entryFrame m #[(.int fl), (.int ka), (.int kb), (.int kc)] maxLocals) T108 (mkF m 227 #[.val (.int fl), .val (.int ka), .val (.int kb), .val (.int kc), .val (.ref b1), .val (.int qa), .val (.int qb), .val (.int qc), .val (.int ra), .val (.int rb), .val (.int rc), .val (.int (1 : Int32)), .val (.int ((qa + qb) + qc)), .val (.int (own_e nzp2)), .unset, .unset] []) := fun t k => by
        refine go116 t ?_
        refine XS.ifYes X108.here hx rfl (pc0 := 218) (pc' := 227) rfl (hb hby at_218) rfl (Jvm.Free.XT.i0_eq_t hc118) (by decide) (by decide) ?_
        show Steps p.tables e below (T108.setTop (mkF m 227 #[.val (.int fl), .val (.int ka), .val (.int kb), .val (.int kc), .val (.ref b1), .val (.int qa), .val (.int qb), .val (.int qc), .val (.int ra), .val (.int rb), .val (.int rc), .val (.int (1 : Int32)), .val (.int ((qa + qb) + qc)), .val (.int (own_e nzp2)), .unset, .unset] [])) _
        exact k
      exact ⟨T108, h108, lo108, kfd0, sgd0, nzd0, X108, e108, Z108, N108, fj108_0, fj108_1, fj108_2, fj108_3, fj108_4, fj108_5, fj108_6, fj108_7, ⟨by rw [hc118]; simpa using hj108.1, by rw [hj108.2, hc118]; simp⟩, go119⟩
    · have go120 : Goes p e below s₁ (entryFrame m #[(.int fl), (.int ka), (.int kb), (.int kc)] maxLocals) T108 (mkF m 224 #[.val (.int fl), .val (.int ka), .val (.int kb), .val (.int kc), .val (.ref b1), .val (.int qa), .val (.int qb), .val (.int qc), .val (.int ra), .val (.int rb), .val (.int rc), .val (.int (1 : Int32)), .val (.int ((qa + qb) + qc)), .val (.int (own_e nzp2)), .unset, .unset] [(.int (1 : Int32)), (.ref b1)]) := fun t k => by
        refine go116 t ?_
        refine XS.ifNo X108.here hx rfl (hb hby at_218) rfl (Jvm.Free.XT.i0_eq_f hc118) ?_
        show Steps p.tables e below (T108.setTop (mkF m 221 #[.val (.int fl), .val (.int ka), .val (.int kb), .val (.int kc), .val (.ref b1), .val (.int qa), .val (.int qb), .val (.int qc), .val (.int ra), .val (.int rb), .val (.int rc), .val (.int (1 : Int32)), .val (.int ((qa + qb) + qc)), .val (.int (own_e nzp2)), .unset, .unset] [])) _
        refine XS.aload X108.here hx rfl (hb hby at_221) rfl rfl ?_
        show Steps p.tables e below (T108.setTop (mkF m 223 #[.val (.int fl), .val (.int ka), .val (.int kb), .val (.int kc), .val (.ref b1), .val (.int qa), .val (.int qb), .val (.int qc), .val (.int ra), .val (.int rb), .val (.int rc), .val (.int (1 : Int32)), .val (.int ((qa + qb) + qc)), .val (.int (own_e nzp2)), .unset, .unset] [(.ref b1)])) _
        refine XS.iconst X108.here hx rfl (hb hby at_223) ?_
        show Steps p.tables e below (T108.setTop (mkF m 224 #[.val (.int fl), .val (.int ka), .val (.int kb), .val (.int kc), .val (.ref b1), .val (.int qa), .val (.int qb), .val (.int qc), .val (.int ra), .val (.int rb), .val (.int rc), .val (.int (1 : Int32)), .val (.int ((qa + qb) + qc)), .val (.int (own_e nzp2)), .unset, .unset] [(.int (1 : Int32)), (.ref b1)])) _
        exact k
      obtain ⟨cq121, kq121, q121a, q121b, q121c⟩ := isOf hZ e108 fj108_0
      obtain ⟨_, _, ⟨T121, L121, k121, n121⟩, -, X121, ⟨Lc121, hQ121, l121, y121, z121⟩, st121⟩ := X108.virtualBack hx (y := (⟨"com/example/covermesh/covermesh/algorithms/IndexedMinHeap", "remove", "(I)V"⟩ : MethodName)) (z := (⟨"com/example/covermesh/covermesh/algorithms/IndexedMinHeap", "remove", "(I)V"⟩ : MethodName)) hown (mvT hZ (hw _ (List.mem_of_getElem? (i := 53) rfl))) (mvT hZ (hw _ (List.mem_of_getElem? (i := 54) rfl))) (notFace_of_selects (args := #[]) (mvT hZ (hw _ (List.mem_of_getElem? (i := 56) rfl)))) (mvT hZ (hw _ (List.mem_of_getElem? (i := 56) rfl))) (mvT hZ (hw _ (List.mem_of_getElem? (i := 55) rfl))) (by decide) (backOf (W := 0) (rmRem l Z a0 hw [] b1 (1 : Int32) aK aI aP kk ki kp kfd0 sgd0 nzd0 (own_S (qa - ra) qb qc) h108 n0 Z108 fj108_0 fj108_1 fj108_2 fj108_3 fj108_4 fj108_5 fj108_6 fj108_7 nKI nKP nIP nAK nAI nAP gA gK gI gP own_R1 hj108.1 (by rw [(hj39.resolve_left hc118).2]; simp [own_S]) (own_rng4 hj16 hj21 hj26 hj31 (hj39.resolve_left hc118).2 hj108.2)) hZ (hw _ (List.mem_of_getElem? (i := 57) rfl)) (hw _ (List.mem_of_getElem? (i := 2) rfl)) (by decide) (by decide)) q121a q121c (g := (mkF m 224 #[.val (.int fl), .val (.int ka), .val (.int kb), .val (.int kc), .val (.ref b1), .val (.int qa), .val (.int qb), .val (.int qc), .val (.int ra), .val (.int rb), .val (.int rc), .val (.int (1 : Int32)), .val (.int ((qa + qb) + qc)), .val (.int (own_e nzp2)), .unset, .unset] [(.int (1 : Int32)), (.ref b1)])) rfl (by rw [hml]; rfl) (Steps.refl _) (argsL := [(.int (1 : Int32))]) (rest := []) (lenOf pd_2 rfl) rfl (by show 2 * 0 + _ ≤ _; exact Nat.le_of_eq rfl) (hb hby at_224) (fun _ _ => ⟨rfl, e108, (by decide : 4 + 0 ≤ room_1.cells), (by decide : 13 + 0 ≤ room_1.slots)⟩)
      dsimp only [Pt.U, Pt.locs, Pt.cells, Pt.slots] at X121 l121 y121 z121 st121 hQ121
      subst l121 y121 z121
      obtain ⟨rfl, N121q, Kq121, E1q121, FKq121, FIq121, FPq121, FSq121, VKq121, VIq121, VPq121⟩ := hQ121
      have N121 := Fr.app N108 N121q
      have f122 := fj108_0.keep Kq121
      have Z123 := Nat.le_trans Z108 Kq121.1
      have go124 : Goes p e below s₁ (entryFrame m #[(.int fl), (.int ka), (.int kb), (.int kc)] maxLocals) T121 (mkF m 227 #[.val (.int fl), .val (.int ka), .val (.int kb), .val (.int kc), .val (.ref b1), .val (.int qa), .val (.int qb), .val (.int qc), .val (.int ra), .val (.int rb), .val (.int rc), .val (.int (1 : Int32)), .val (.int ((qa + qb) + qc)), .val (.int (own_e nzp2)), .unset, .unset] []) := fun t k => go120 t (st121.trans k)
      exact ⟨T121, T121.heap, (lo108 ++ Lc121), kfd0, (own_rmv kfd0 sgd0 (1 : Int32) (sgd0.2 (1 : Int32)) nzd0), (nzd0 - 1), X121, rfl, Z123, N121, f122, FKq121, FIq121, FPq121, FSq121, VKq121, VIq121, VPq121, ⟨(hj108.1.rmv kfd0 own_R1 (by rw [(hj39.resolve_left hc118).2]; simp [own_S]) (own_rng4 hj16 hj21 hj26 hj31 (hj39.resolve_left hc118).2 hj108.2)).congr rfl (by rw [(hj39.resolve_left hc118).1, (hj39.resolve_left hc118).2]; exact own_S_del1), by rw [hj108.2, (hj39.resolve_left hc118).1]⟩, go124⟩
  have go125 : Goes p e below s₁ (entryFrame m #[(.int fl), (.int ka), (.int kb), (.int kc)] maxLocals) T117 (mkF m 229 #[.val (.int fl), .val (.int ka), .val (.int kb), .val (.int kc), .val (.ref b1), .val (.int qa), .val (.int qb), .val (.int qc), .val (.int ra), .val (.int rb), .val (.int rc), .val (.int (1 : Int32)), .val (.int ((qa + qb) + qc)), .val (.int (own_e nzp2)), .unset, .unset] [(.int rc)]) := fun t k => by
    refine go117j t ?_
    refine XS.iload X117.here hx rfl (hb hby at_227) rfl ?_
    show Steps p.tables e below (T117.setTop (mkF m 229 #[.val (.int fl), .val (.int ka), .val (.int kb), .val (.int kc), .val (.ref b1), .val (.int qa), .val (.int qb), .val (.int qc), .val (.int ra), .val (.int rb), .val (.int rc), .val (.int (1 : Int32)), .val (.int ((qa + qb) + qc)), .val (.int (own_e nzp2)), .unset, .unset] [(.int rc)])) _
    exact k
  obtain ⟨T126, h126, lo126, kfd2, sgd2, nzd2, X126, e126, Z126, N126, fj126_0, fj126_1, fj126_2, fj126_3, fj126_4, fj126_5, fj126_6, fj126_7, hj126, go126j⟩ : ∃ (T' : State) (h' : Heap) (lo' : List Loc) (kfd2 : Int32 → UInt64) (sgd2 : own_P) (nzd2 : Int32), Stand p l e room_1 s m #[(.int fl), (.int ka), (.int kb), (.int kc)] below meth c T' lo' 4 13 ∧ T'.heap = h' ∧ n0 ≤ h'.size ∧ Fr n0 lo' ∧ (Exa Z h' b1 "com/example/covermesh/covermesh/algorithms/IndexedMinHeap") ∧ (Fld Z h' b1 "com/example/covermesh/covermesh/algorithms/IndexedMinHeap" "keys" "[D" (.ref aK)) ∧ (Fld Z h' b1 "com/example/covermesh/covermesh/algorithms/IndexedMinHeap" "items" "[I" (.ref aI)) ∧ (Fld Z h' b1 "com/example/covermesh/covermesh/algorithms/IndexedMinHeap" "positions" "[I" (.ref aP)) ∧ (Fld Z h' b1 "com/example/covermesh/covermesh/algorithms/IndexedMinHeap" "size" "I" (.int nzd2)) ∧ (Arv Z h' aK kk .double 3 (own_d kfd2) (.double (0 : UInt64))) ∧ (Arv Z h' aI ki .int 3 (own_l sgd2.1) (.int (0 : Int32))) ∧ (Arv Z h' aP kp .int 3 (own_l sgd2.2) (.int (0 : Int32))) ∧ (own_G sgd2 nzd2 (own_S (qa - ra) (qb - rb) (qc - rc)) ∧ nzd2 = qa + qb + qc - ra - rb - rc) ∧ Goes p e below s₁ (entryFrame m #[(.int fl), (.int ka), (.int kb), (.int kc)] maxLocals) T' (mkF m 238 #[.val (.int fl), .val (.int ka), .val (.int kb), .val (.int kc), .val (.ref b1), .val (.int qa), .val (.int qb), .val (.int qc), .val (.int ra), .val (.int rb), .val (.int rc), .val (.int (1 : Int32)), .val (.int ((qa + qb) + qc)), .val (.int (own_e nzp2)), .unset, .unset] []) := by
    by_cases hc127 : rc = (0 : Int32)
    · have go128 : Goes p e below s₁ (entryFrame m #[(.int fl), (.int ka), (.int kb), (.int kc)] maxLocals) T117 (mkF m 238 #[.val (.int fl), .val (.int ka), .val (.int kb), .val (.int kc), .val (.ref b1), .val (.int qa), .val (.int qb), .val (.int qc), .val (.int ra), .val (.int rb), .val (.int rc), .val (.int (1 : Int32)), .val (.int ((qa + qb) + qc)), .val (.int (own_e nzp2)), .unset, .unset] []) := fun t k => by
        refine go125 t ?_
        refine XS.ifYes X117.here hx rfl (pc0 := 229) (pc' := 238) rfl (hb hby at_229) rfl (Jvm.Free.XT.i0_eq_t hc127) (by decide) (by decide) ?_
        show Steps p.tables e below (T117.setTop (mkF m 238 #[.val (.int fl), .val (.int ka), .val (.int kb), .val (.int kc), .val (.ref b1), .val (.int qa), .val (.int qb), .val (.int qc), .val (.int ra), .val (.int rb), .val (.int rc), .val (.int (1 : Int32)), .val (.int ((qa + qb) + qc)), .val (.int (own_e nzp2)), .unset, .unset] [])) _
        exact k
      exact ⟨T117, h117, lo117, kfd1, sgd1, nzd1, X117, e117, Z117, N117, fj117_0, fj117_1, fj117_2, fj117_3, fj117_4, fj117_5, fj117_6, fj117_7, ⟨by rw [hc127]; simpa using hj117.1, by rw [hj117.2, hc127]; simp⟩, go128⟩
    · have go129 : Goes p e below s₁ (entryFrame m #[(.int fl), (.int ka), (.int kb), (.int kc)] maxLocals) T117 (mkF m 235 #[.val (.int fl), .val (.int ka), .val (.int kb), .val (.int kc), .val (.ref b1), .val (.int qa), .val (.int qb), .val (.int qc), .val (.int ra), .val (.int rb), .val (.int rc), .val (.int (1 : Int32)), .val (.int ((qa + qb) + qc)), .val (.int (own_e nzp2)), .unset, .unset] [(.int (2 : Int32)), (.ref b1)]) := fun t k => by
        refine go125 t ?_
        refine XS.ifNo X117.here hx rfl (hb hby at_229) rfl (Jvm.Free.XT.i0_eq_f hc127) ?_
        show Steps p.tables e below (T117.setTop (mkF m 232 #[.val (.int fl), .val (.int ka), .val (.int kb), .val (.int kc), .val (.ref b1), .val (.int qa), .val (.int qb), .val (.int qc), .val (.int ra), .val (.int rb), .val (.int rc), .val (.int (1 : Int32)), .val (.int ((qa + qb) + qc)), .val (.int (own_e nzp2)), .unset, .unset] [])) _
        refine XS.aload X117.here hx rfl (hb hby at_232) rfl rfl ?_
        show Steps p.tables e below (T117.setTop (mkF m 234 #[.val (.int fl), .val (.int ka), .val (.int kb), .val (.int kc), .val (.ref b1), .val (.int qa), .val (.int qb), .val (.int qc), .val (.int ra), .val (.int rb), .val (.int rc), .val (.int (1 : Int32)), .val (.int ((qa + qb) + qc)), .val (.int (own_e nzp2)), .unset, .unset] [(.ref b1)])) _
        refine XS.iconst X117.here hx rfl (hb hby at_234) ?_
        show Steps p.tables e below (T117.setTop (mkF m 235 #[.val (.int fl), .val (.int ka), .val (.int kb), .val (.int kc), .val (.ref b1), .val (.int qa), .val (.int qb), .val (.int qc), .val (.int ra), .val (.int rb), .val (.int rc), .val (.int (1 : Int32)), .val (.int ((qa + qb) + qc)), .val (.int (own_e nzp2)), .unset, .unset] [(.int (2 : Int32)), (.ref b1)])) _
        exact k
      obtain ⟨cq130, kq130, q130a, q130b, q130c⟩ := isOf hZ e117 fj117_0
      obtain ⟨_, _, ⟨T130, L130, k130, n130⟩, -, X130, ⟨Lc130, hQ130, l130, y130, z130⟩, st130⟩ := X117.virtualBack hx (y := (⟨"com/example/covermesh/covermesh/algorithms/IndexedMinHeap", "remove", "(I)V"⟩ : MethodName)) (z := (⟨"com/example/covermesh/covermesh/algorithms/IndexedMinHeap", "remove", "(I)V"⟩ : MethodName)) hown (mvT hZ (hw _ (List.mem_of_getElem? (i := 53) rfl))) (mvT hZ (hw _ (List.mem_of_getElem? (i := 54) rfl))) (notFace_of_selects (args := #[]) (mvT hZ (hw _ (List.mem_of_getElem? (i := 56) rfl)))) (mvT hZ (hw _ (List.mem_of_getElem? (i := 56) rfl))) (mvT hZ (hw _ (List.mem_of_getElem? (i := 55) rfl))) (by decide) (backOf (W := 0) (rmRem l Z a0 hw [] b1 (2 : Int32) aK aI aP kk ki kp kfd1 sgd1 nzd1 (own_S (qa - ra) (qb - rb) qc) h117 n0 Z117 fj117_0 fj117_1 fj117_2 fj117_3 fj117_4 fj117_5 fj117_6 fj117_7 nKI nKP nIP nAK nAI nAP gA gK gI gP own_R2 hj117.1 (by rw [(hj47.resolve_left hc127).2]; simp [own_S]) (own_rng5 hj16 hj21 hj26 hj31 hj39 (hj47.resolve_left hc127).2 hj117.2)) hZ (hw _ (List.mem_of_getElem? (i := 57) rfl)) (hw _ (List.mem_of_getElem? (i := 2) rfl)) (by decide) (by decide)) q130a q130c (g := (mkF m 235 #[.val (.int fl), .val (.int ka), .val (.int kb), .val (.int kc), .val (.ref b1), .val (.int qa), .val (.int qb), .val (.int qc), .val (.int ra), .val (.int rb), .val (.int rc), .val (.int (1 : Int32)), .val (.int ((qa + qb) + qc)), .val (.int (own_e nzp2)), .unset, .unset] [(.int (2 : Int32)), (.ref b1)])) rfl (by rw [hml]; rfl) (Steps.refl _) (argsL := [(.int (2 : Int32))]) (rest := []) (lenOf pd_2 rfl) rfl (by show 2 * 0 + _ ≤ _; exact Nat.le_of_eq rfl) (hb hby at_235) (fun _ _ => ⟨rfl, e117, (by decide : 4 + 0 ≤ room_1.cells), (by decide : 13 + 0 ≤ room_1.slots)⟩)
      dsimp only [Pt.U, Pt.locs, Pt.cells, Pt.slots] at X130 l130 y130 z130 st130 hQ130
      subst l130 y130 z130
      obtain ⟨rfl, N130q, Kq130, E1q130, FKq130, FIq130, FPq130, FSq130, VKq130, VIq130, VPq130⟩ := hQ130
      have N130 := Fr.app N117 N130q
      have f131 := fj117_0.keep Kq130
      have Z132 := Nat.le_trans Z117 Kq130.1
      have go133 : Goes p e below s₁ (entryFrame m #[(.int fl), (.int ka), (.int kb), (.int kc)] maxLocals) T130 (mkF m 238 #[.val (.int fl), .val (.int ka), .val (.int kb), .val (.int kc), .val (.ref b1), .val (.int qa), .val (.int qb), .val (.int qc), .val (.int ra), .val (.int rb), .val (.int rc), .val (.int (1 : Int32)), .val (.int ((qa + qb) + qc)), .val (.int (own_e nzp2)), .unset, .unset] []) := fun t k => go129 t (st130.trans k)
      exact ⟨T130, T130.heap, (lo117 ++ Lc130), kfd1, (own_rmv kfd1 sgd1 (2 : Int32) (sgd1.2 (2 : Int32)) nzd1), (nzd1 - 1), X130, rfl, Z132, N130, f131, FKq130, FIq130, FPq130, FSq130, VKq130, VIq130, VPq130, ⟨(hj117.1.rmv kfd1 own_R2 (by rw [(hj47.resolve_left hc127).2]; simp [own_S]) (own_rng5 hj16 hj21 hj26 hj31 hj39 (hj47.resolve_left hc127).2 hj117.2)).congr rfl (by rw [(hj47.resolve_left hc127).1, (hj47.resolve_left hc127).2]; exact own_S_del2), by rw [hj117.2, (hj47.resolve_left hc127).1]⟩, go133⟩
  have go134 : Goes p e below s₁ (entryFrame m #[(.int fl), (.int ka), (.int kb), (.int kc)] maxLocals) T126 (mkF m 242 #[.val (.int fl), .val (.int ka), .val (.int kb), .val (.int kc), .val (.ref b1), .val (.int qa), .val (.int qb), .val (.int qc), .val (.int ra), .val (.int rb), .val (.int rc), .val (.int (1 : Int32)), .val (.int ((qa + qb) + qc)), .val (.int (own_e nzp2)), .unset, .unset] [(.int ra), (.int ((qa + qb) + qc))]) := fun t k => by
    refine go126j t ?_
    refine XS.iload X126.here hx rfl (hb hby at_238) rfl ?_
    show Steps p.tables e below (T126.setTop (mkF m 240 #[.val (.int fl), .val (.int ka), .val (.int kb), .val (.int kc), .val (.ref b1), .val (.int qa), .val (.int qb), .val (.int qc), .val (.int ra), .val (.int rb), .val (.int rc), .val (.int (1 : Int32)), .val (.int ((qa + qb) + qc)), .val (.int (own_e nzp2)), .unset, .unset] [(.int ((qa + qb) + qc))])) _
    refine XS.iload X126.here hx rfl (hb hby at_240) rfl ?_
    show Steps p.tables e below (T126.setTop (mkF m 242 #[.val (.int fl), .val (.int ka), .val (.int kb), .val (.int kc), .val (.ref b1), .val (.int qa), .val (.int qb), .val (.int qc), .val (.int ra), .val (.int rb), .val (.int rc), .val (.int (1 : Int32)), .val (.int ((qa + qb) + qc)), .val (.int (own_e nzp2)), .unset, .unset] [(.int ra), (.int ((qa + qb) + qc))])) _
    exact k
  obtain ⟨_, _, ⟨T135, L135, k135, n135⟩, -, X135, ⟨Lc135, hQ135, l135, y135, z135⟩, st135⟩ := Jvm.LawKit.callS X126 hx (y := (⟨"com/example/covermesh/covermesh/algorithms/IndexedMinHeapIsEmptyPinLaw", "one", "(Z)I"⟩ : MethodName)) hown (mvT hZ (hw _ (List.mem_of_getElem? (i := 28) rfl))) (mvT hZ (hw _ (List.mem_of_getElem? (i := 29) rfl))) (mvT hZ (hw _ (List.mem_of_getElem? (i := 30) rfl))) (mvT hZ (hw _ (List.mem_of_getElem? (i := 31) rfl))) (by decide) (backOf (W := 1) (rmO l Z a0 hw [] ra h126 n0 Z126 (hj31.imp id And.left)) hZ (hw _ (List.mem_of_getElem? (i := 31) rfl)) (hw _ (List.mem_of_getElem? (i := 30) rfl)) (by decide) (by decide)) (g := (mkF m 242 #[.val (.int fl), .val (.int ka), .val (.int kb), .val (.int kc), .val (.ref b1), .val (.int qa), .val (.int qb), .val (.int qc), .val (.int ra), .val (.int rb), .val (.int rc), .val (.int (1 : Int32)), .val (.int ((qa + qb) + qc)), .val (.int (own_e nzp2)), .unset, .unset] [(.int ra), (.int ((qa + qb) + qc))])) rfl (by rw [hml]; rfl) (argsL := [(.int ra)]) (rest := [(.int ((qa + qb) + qc))]) (lenOf pd_6 rfl) rfl (by show 2 * 0 + _ ≤ _; exact Nat.le_of_eq rfl) (hb hby at_242) (fun _ _ => ⟨rfl, e126, (by decide : 4 + 0 ≤ room_1.cells), (by decide : 13 + 0 ≤ room_1.slots)⟩)
  dsimp only [Pt.U, Pt.locs, Pt.cells, Pt.slots] at X135 l135 y135 z135 st135 hQ135
  subst l135 y135 z135
  obtain ⟨rfl, N135q, e135⟩ := hQ135
  have N135 := Fr.app N126 N135q
  have go136 : Goes p e below s₁ (entryFrame m #[(.int fl), (.int ka), (.int kb), (.int kc)] maxLocals) T135 (mkF m 245 #[.val (.int fl), .val (.int ka), .val (.int kb), .val (.int kc), .val (.ref b1), .val (.int qa), .val (.int qb), .val (.int qc), .val (.int ra), .val (.int rb), .val (.int rc), .val (.int (1 : Int32)), .val (.int ((qa + qb) + qc)), .val (.int (own_e nzp2)), .unset, .unset] [(.int ra), (.int ((qa + qb) + qc))]) := fun t k => go134 t (st135 t k)
  have go137 : Goes p e below s₁ (entryFrame m #[(.int fl), (.int ka), (.int kb), (.int kc)] maxLocals) T135 (mkF m 248 #[.val (.int fl), .val (.int ka), .val (.int kb), .val (.int kc), .val (.ref b1), .val (.int qa), .val (.int qb), .val (.int qc), .val (.int ra), .val (.int rb), .val (.int rc), .val (.int (1 : Int32)), .val (.int ((qa + qb) + qc)), .val (.int (own_e nzp2)), .unset, .unset] [(.int rb), (.int (((qa + qb) + qc) - ra))]) := fun t k => by
    refine go136 t ?_
    refine XS.isub X135.here hx rfl (hb hby at_245) rfl ?_
    show Steps p.tables e below (T135.setTop (mkF m 246 #[.val (.int fl), .val (.int ka), .val (.int kb), .val (.int kc), .val (.ref b1), .val (.int qa), .val (.int qb), .val (.int qc), .val (.int ra), .val (.int rb), .val (.int rc), .val (.int (1 : Int32)), .val (.int ((qa + qb) + qc)), .val (.int (own_e nzp2)), .unset, .unset] [(.int (((qa + qb) + qc) - ra))])) _
    refine XS.iload X135.here hx rfl (hb hby at_246) rfl ?_
    show Steps p.tables e below (T135.setTop (mkF m 248 #[.val (.int fl), .val (.int ka), .val (.int kb), .val (.int kc), .val (.ref b1), .val (.int qa), .val (.int qb), .val (.int qc), .val (.int ra), .val (.int rb), .val (.int rc), .val (.int (1 : Int32)), .val (.int ((qa + qb) + qc)), .val (.int (own_e nzp2)), .unset, .unset] [(.int rb), (.int (((qa + qb) + qc) - ra))])) _
    exact k
  obtain ⟨_, _, ⟨T138, L138, k138, n138⟩, -, X138, ⟨Lc138, hQ138, l138, y138, z138⟩, st138⟩ := Jvm.LawKit.callS X135 hx (y := (⟨"com/example/covermesh/covermesh/algorithms/IndexedMinHeapIsEmptyPinLaw", "one", "(Z)I"⟩ : MethodName)) hown (mvT hZ (hw _ (List.mem_of_getElem? (i := 28) rfl))) (mvT hZ (hw _ (List.mem_of_getElem? (i := 29) rfl))) (mvT hZ (hw _ (List.mem_of_getElem? (i := 30) rfl))) (mvT hZ (hw _ (List.mem_of_getElem? (i := 31) rfl))) (by decide) (backOf (W := 1) (rmO l Z a0 hw [] rb h126 n0 Z126 (hj39.imp id And.left)) hZ (hw _ (List.mem_of_getElem? (i := 31) rfl)) (hw _ (List.mem_of_getElem? (i := 30) rfl)) (by decide) (by decide)) (g := (mkF m 248 #[.val (.int fl), .val (.int ka), .val (.int kb), .val (.int kc), .val (.ref b1), .val (.int qa), .val (.int qb), .val (.int qc), .val (.int ra), .val (.int rb), .val (.int rc), .val (.int (1 : Int32)), .val (.int ((qa + qb) + qc)), .val (.int (own_e nzp2)), .unset, .unset] [(.int rb), (.int (((qa + qb) + qc) - ra))])) rfl (by rw [hml]; rfl) (argsL := [(.int rb)]) (rest := [(.int (((qa + qb) + qc) - ra))]) (lenOf pd_6 rfl) rfl (by show 2 * 0 + _ ≤ _; exact Nat.le_of_eq rfl) (hb hby at_248) (fun _ _ => ⟨rfl, e135, (by decide : 4 + 0 ≤ room_1.cells), (by decide : 13 + 0 ≤ room_1.slots)⟩)
  dsimp only [Pt.U, Pt.locs, Pt.cells, Pt.slots] at X138 l138 y138 z138 st138 hQ138
  subst l138 y138 z138
  obtain ⟨rfl, N138q, e138⟩ := hQ138
  have N138 := Fr.app N135 N138q
  have go139 : Goes p e below s₁ (entryFrame m #[(.int fl), (.int ka), (.int kb), (.int kc)] maxLocals) T138 (mkF m 251 #[.val (.int fl), .val (.int ka), .val (.int kb), .val (.int kc), .val (.ref b1), .val (.int qa), .val (.int qb), .val (.int qc), .val (.int ra), .val (.int rb), .val (.int rc), .val (.int (1 : Int32)), .val (.int ((qa + qb) + qc)), .val (.int (own_e nzp2)), .unset, .unset] [(.int rb), (.int (((qa + qb) + qc) - ra))]) := fun t k => go137 t (st138 t k)
  have go140 : Goes p e below s₁ (entryFrame m #[(.int fl), (.int ka), (.int kb), (.int kc)] maxLocals) T138 (mkF m 254 #[.val (.int fl), .val (.int ka), .val (.int kb), .val (.int kc), .val (.ref b1), .val (.int qa), .val (.int qb), .val (.int qc), .val (.int ra), .val (.int rb), .val (.int rc), .val (.int (1 : Int32)), .val (.int ((qa + qb) + qc)), .val (.int (own_e nzp2)), .unset, .unset] [(.int rc), (.int ((((qa + qb) + qc) - ra) - rb))]) := fun t k => by
    refine go139 t ?_
    refine XS.isub X138.here hx rfl (hb hby at_251) rfl ?_
    show Steps p.tables e below (T138.setTop (mkF m 252 #[.val (.int fl), .val (.int ka), .val (.int kb), .val (.int kc), .val (.ref b1), .val (.int qa), .val (.int qb), .val (.int qc), .val (.int ra), .val (.int rb), .val (.int rc), .val (.int (1 : Int32)), .val (.int ((qa + qb) + qc)), .val (.int (own_e nzp2)), .unset, .unset] [(.int ((((qa + qb) + qc) - ra) - rb))])) _
    refine XS.iload X138.here hx rfl (hb hby at_252) rfl ?_
    show Steps p.tables e below (T138.setTop (mkF m 254 #[.val (.int fl), .val (.int ka), .val (.int kb), .val (.int kc), .val (.ref b1), .val (.int qa), .val (.int qb), .val (.int qc), .val (.int ra), .val (.int rb), .val (.int rc), .val (.int (1 : Int32)), .val (.int ((qa + qb) + qc)), .val (.int (own_e nzp2)), .unset, .unset] [(.int rc), (.int ((((qa + qb) + qc) - ra) - rb))])) _
    exact k
  obtain ⟨_, _, ⟨T141, L141, k141, n141⟩, -, X141, ⟨Lc141, hQ141, l141, y141, z141⟩, st141⟩ := Jvm.LawKit.callS X138 hx (y := (⟨"com/example/covermesh/covermesh/algorithms/IndexedMinHeapIsEmptyPinLaw", "one", "(Z)I"⟩ : MethodName)) hown (mvT hZ (hw _ (List.mem_of_getElem? (i := 28) rfl))) (mvT hZ (hw _ (List.mem_of_getElem? (i := 29) rfl))) (mvT hZ (hw _ (List.mem_of_getElem? (i := 30) rfl))) (mvT hZ (hw _ (List.mem_of_getElem? (i := 31) rfl))) (by decide) (backOf (W := 1) (rmO l Z a0 hw [] rc h126 n0 Z126 (hj47.imp id And.left)) hZ (hw _ (List.mem_of_getElem? (i := 31) rfl)) (hw _ (List.mem_of_getElem? (i := 30) rfl)) (by decide) (by decide)) (g := (mkF m 254 #[.val (.int fl), .val (.int ka), .val (.int kb), .val (.int kc), .val (.ref b1), .val (.int qa), .val (.int qb), .val (.int qc), .val (.int ra), .val (.int rb), .val (.int rc), .val (.int (1 : Int32)), .val (.int ((qa + qb) + qc)), .val (.int (own_e nzp2)), .unset, .unset] [(.int rc), (.int ((((qa + qb) + qc) - ra) - rb))])) rfl (by rw [hml]; rfl) (argsL := [(.int rc)]) (rest := [(.int ((((qa + qb) + qc) - ra) - rb))]) (lenOf pd_6 rfl) rfl (by show 2 * 0 + _ ≤ _; exact Nat.le_of_eq rfl) (hb hby at_254) (fun _ _ => ⟨rfl, e138, (by decide : 4 + 0 ≤ room_1.cells), (by decide : 13 + 0 ≤ room_1.slots)⟩)
  dsimp only [Pt.U, Pt.locs, Pt.cells, Pt.slots] at X141 l141 y141 z141 st141 hQ141
  subst l141 y141 z141
  obtain ⟨rfl, N141q, e141⟩ := hQ141
  have N141 := Fr.app N138 N141q
  have go142 : Goes p e below s₁ (entryFrame m #[(.int fl), (.int ka), (.int kb), (.int kc)] maxLocals) T141 (mkF m 257 #[.val (.int fl), .val (.int ka), .val (.int kb), .val (.int kc), .val (.ref b1), .val (.int qa), .val (.int qb), .val (.int qc), .val (.int ra), .val (.int rb), .val (.int rc), .val (.int (1 : Int32)), .val (.int ((qa + qb) + qc)), .val (.int (own_e nzp2)), .unset, .unset] [(.int rc), (.int ((((qa + qb) + qc) - ra) - rb))]) := fun t k => go140 t (st141 t k)
  have go143 : Goes p e below s₁ (entryFrame m #[(.int fl), (.int ka), (.int kb), (.int kc)] maxLocals) T141 (mkF m 262 #[.val (.int fl), .val (.int ka), .val (.int kb), .val (.int kc), .val (.ref b1), .val (.int qa), .val (.int qb), .val (.int qc), .val (.int ra), .val (.int rb), .val (.int rc), .val (.int (1 : Int32)), .val (.int ((qa + qb) + qc)), .val (.int (own_e nzp2)), .val (.int (((((qa + qb) + qc) - ra) - rb) - rc)), .unset] [(.ref b1)]) := fun t k => by
    refine go142 t ?_
    refine XS.isub X141.here hx rfl (hb hby at_257) rfl ?_
    show Steps p.tables e below (T141.setTop (mkF m 258 #[.val (.int fl), .val (.int ka), .val (.int kb), .val (.int kc), .val (.ref b1), .val (.int qa), .val (.int qb), .val (.int qc), .val (.int ra), .val (.int rb), .val (.int rc), .val (.int (1 : Int32)), .val (.int ((qa + qb) + qc)), .val (.int (own_e nzp2)), .unset, .unset] [(.int (((((qa + qb) + qc) - ra) - rb) - rc))])) _
    refine XS.istore X141.here hx rfl (hb hby at_258) rfl (l' := #[.val (.int fl), .val (.int ka), .val (.int kb), .val (.int kc), .val (.ref b1), .val (.int qa), .val (.int qb), .val (.int qc), .val (.int ra), .val (.int rb), .val (.int rc), .val (.int (1 : Int32)), .val (.int ((qa + qb) + qc)), .val (.int (own_e nzp2)), .val (.int (((((qa + qb) + qc) - ra) - rb) - rc)), .unset]) rfl ?_
    show Steps p.tables e below (T141.setTop (mkF m 260 #[.val (.int fl), .val (.int ka), .val (.int kb), .val (.int kc), .val (.ref b1), .val (.int qa), .val (.int qb), .val (.int qc), .val (.int ra), .val (.int rb), .val (.int rc), .val (.int (1 : Int32)), .val (.int ((qa + qb) + qc)), .val (.int (own_e nzp2)), .val (.int (((((qa + qb) + qc) - ra) - rb) - rc)), .unset] [])) _
    refine XS.aload X141.here hx rfl (hb hby at_260) rfl rfl ?_
    show Steps p.tables e below (T141.setTop (mkF m 262 #[.val (.int fl), .val (.int ka), .val (.int kb), .val (.int kc), .val (.ref b1), .val (.int qa), .val (.int qb), .val (.int qc), .val (.int ra), .val (.int rb), .val (.int rc), .val (.int (1 : Int32)), .val (.int ((qa + qb) + qc)), .val (.int (own_e nzp2)), .val (.int (((((qa + qb) + qc) - ra) - rb) - rc)), .unset] [(.ref b1)])) _
    exact k
  obtain ⟨cq144, kq144, q144a, q144b, q144c⟩ := isOf hZ e141 fj126_0
  obtain ⟨_, _, ⟨T144, L144, k144, n144⟩, -, X144, ⟨Lc144, hQ144, l144, y144, z144⟩, st144⟩ := X141.virtualBack hx (y := (⟨"com/example/covermesh/covermesh/algorithms/IndexedMinHeap", "isEmpty", "()Z"⟩ : MethodName)) (z := (⟨"com/example/covermesh/covermesh/algorithms/IndexedMinHeap", "isEmpty", "()Z"⟩ : MethodName)) hown (mvT hZ (hw _ (List.mem_of_getElem? (i := 21) rfl))) (mvT hZ (hw _ (List.mem_of_getElem? (i := 22) rfl))) (notFace_of_selects (args := #[]) (mvT hZ (hw _ (List.mem_of_getElem? (i := 24) rfl)))) (mvT hZ (hw _ (List.mem_of_getElem? (i := 24) rfl))) (mvT hZ (hw _ (List.mem_of_getElem? (i := 23) rfl))) (by decide) (backOf (W := 0) (rmE l Z a0 hw [] b1 nzd2 h126 n0 Z126 fj126_4) hZ (hw _ (List.mem_of_getElem? (i := 25) rfl)) (hw _ (List.mem_of_getElem? (i := 2) rfl)) (by decide) (by decide)) q144a q144c (g := (mkF m 262 #[.val (.int fl), .val (.int ka), .val (.int kb), .val (.int kc), .val (.ref b1), .val (.int qa), .val (.int qb), .val (.int qc), .val (.int ra), .val (.int rb), .val (.int rc), .val (.int (1 : Int32)), .val (.int ((qa + qb) + qc)), .val (.int (own_e nzp2)), .val (.int (((((qa + qb) + qc) - ra) - rb) - rc)), .unset] [(.ref b1)])) rfl (by rw [hml]; rfl) (Steps.refl _) (argsL := []) (rest := []) (lenOf pd_4 rfl) rfl (by show 2 * 0 + _ ≤ _; exact Nat.le_of_eq rfl) (hb hby at_262) (fun _ _ => ⟨rfl, e141, (by decide : 4 + 0 ≤ room_1.cells), (by decide : 13 + 0 ≤ room_1.slots)⟩)
  dsimp only [Pt.U, Pt.locs, Pt.cells, Pt.slots] at X144 l144 y144 z144 st144 hQ144
  subst l144 y144 z144
  obtain ⟨rfl, N144q, e144⟩ := hQ144
  have N144 := Fr.app N141 N144q
  have go145 : Goes p e below s₁ (entryFrame m #[(.int fl), (.int ka), (.int kb), (.int kc)] maxLocals) T144 (mkF m 265 #[.val (.int fl), .val (.int ka), .val (.int kb), .val (.int kc), .val (.ref b1), .val (.int qa), .val (.int qb), .val (.int qc), .val (.int ra), .val (.int rb), .val (.int rc), .val (.int (1 : Int32)), .val (.int ((qa + qb) + qc)), .val (.int (own_e nzp2)), .val (.int (((((qa + qb) + qc) - ra) - rb) - rc)), .unset] [(.int (own_e nzd2))]) := fun t k => go143 t (st144.trans k)
  have go146 : Goes p e below s₁ (entryFrame m #[(.int fl), (.int ka), (.int kb), (.int kc)] maxLocals) T144 (mkF m 269 #[.val (.int fl), .val (.int ka), .val (.int kb), .val (.int kc), .val (.ref b1), .val (.int qa), .val (.int qb), .val (.int qc), .val (.int ra), .val (.int rb), .val (.int rc), .val (.int (1 : Int32)), .val (.int ((qa + qb) + qc)), .val (.int (own_e nzp2)), .val (.int (((((qa + qb) + qc) - ra) - rb) - rc)), .val (.int (own_e nzd2))] [(.int (1 : Int32))]) := fun t k => by
    refine go145 t ?_
    refine XS.istore X144.here hx rfl (hb hby at_265) rfl (l' := #[.val (.int fl), .val (.int ka), .val (.int kb), .val (.int kc), .val (.ref b1), .val (.int qa), .val (.int qb), .val (.int qc), .val (.int ra), .val (.int rb), .val (.int rc), .val (.int (1 : Int32)), .val (.int ((qa + qb) + qc)), .val (.int (own_e nzp2)), .val (.int (((((qa + qb) + qc) - ra) - rb) - rc)), .val (.int (own_e nzd2))]) rfl ?_
    show Steps p.tables e below (T144.setTop (mkF m 267 #[.val (.int fl), .val (.int ka), .val (.int kb), .val (.int kc), .val (.ref b1), .val (.int qa), .val (.int qb), .val (.int qc), .val (.int ra), .val (.int rb), .val (.int rc), .val (.int (1 : Int32)), .val (.int ((qa + qb) + qc)), .val (.int (own_e nzp2)), .val (.int (((((qa + qb) + qc) - ra) - rb) - rc)), .val (.int (own_e nzd2))] [])) _
    refine XS.iload X144.here hx rfl (hb hby at_267) rfl ?_
    show Steps p.tables e below (T144.setTop (mkF m 269 #[.val (.int fl), .val (.int ka), .val (.int kb), .val (.int kc), .val (.ref b1), .val (.int qa), .val (.int qb), .val (.int qc), .val (.int ra), .val (.int rb), .val (.int rc), .val (.int (1 : Int32)), .val (.int ((qa + qb) + qc)), .val (.int (own_e nzp2)), .val (.int (((((qa + qb) + qc) - ra) - rb) - rc)), .val (.int (own_e nzd2))] [(.int (1 : Int32))])) _
    exact k
  have go147 : Goes p e below s₁ (entryFrame m #[(.int fl), (.int ka), (.int kb), (.int kc)] maxLocals) T144 (mkF m 276 #[.val (.int fl), .val (.int ka), .val (.int kb), .val (.int kc), .val (.ref b1), .val (.int qa), .val (.int qb), .val (.int qc), .val (.int ra), .val (.int rb), .val (.int rc), .val (.int (1 : Int32)), .val (.int ((qa + qb) + qc)), .val (.int (own_e nzp2)), .val (.int (((((qa + qb) + qc) - ra) - rb) - rc)), .val (.int (own_e nzd2))] [(.int (((((qa + qb) + qc) - ra) - rb) - rc)), (.int (own_e nzd2))]) := fun t k => by
    refine go146 t ?_
    refine XS.ifNo X144.here hx rfl (hb hby at_269) rfl (Jvm.Free.XT.i0_eq_f (by decide)) ?_
    show Steps p.tables e below (T144.setTop (mkF m 272 #[.val (.int fl), .val (.int ka), .val (.int kb), .val (.int kc), .val (.ref b1), .val (.int qa), .val (.int qb), .val (.int qc), .val (.int ra), .val (.int rb), .val (.int rc), .val (.int (1 : Int32)), .val (.int ((qa + qb) + qc)), .val (.int (own_e nzp2)), .val (.int (((((qa + qb) + qc) - ra) - rb) - rc)), .val (.int (own_e nzd2))] [])) _
    refine XS.iload X144.here hx rfl (hb hby at_272) rfl ?_
    show Steps p.tables e below (T144.setTop (mkF m 274 #[.val (.int fl), .val (.int ka), .val (.int kb), .val (.int kc), .val (.ref b1), .val (.int qa), .val (.int qb), .val (.int qc), .val (.int ra), .val (.int rb), .val (.int rc), .val (.int (1 : Int32)), .val (.int ((qa + qb) + qc)), .val (.int (own_e nzp2)), .val (.int (((((qa + qb) + qc) - ra) - rb) - rc)), .val (.int (own_e nzd2))] [(.int (own_e nzd2))])) _
    refine XS.iload X144.here hx rfl (hb hby at_274) rfl ?_
    show Steps p.tables e below (T144.setTop (mkF m 276 #[.val (.int fl), .val (.int ka), .val (.int kb), .val (.int kc), .val (.ref b1), .val (.int qa), .val (.int qb), .val (.int qc), .val (.int ra), .val (.int rb), .val (.int rc), .val (.int (1 : Int32)), .val (.int ((qa + qb) + qc)), .val (.int (own_e nzp2)), .val (.int (((((qa + qb) + qc) - ra) - rb) - rc)), .val (.int (own_e nzd2))] [(.int (((((qa + qb) + qc) - ra) - rb) - rc)), (.int (own_e nzd2))])) _
    exact k
  obtain ⟨T148, ok276, X148, e148, hj148, go148j⟩ : ∃ (T' : State) (ok276 : Int32), Stand p l e room_1 s m #[(.int fl), (.int ka), (.int kb), (.int kc)] below meth c T' ((((lo126 ++ Lc135) ++ Lc138) ++ Lc141) ++ Lc144) 4 13 ∧ T'.heap = h126 ∧ (ok276 = (1 : Int32)) ∧ Goes p e below s₁ (entryFrame m #[(.int fl), (.int ka), (.int kb), (.int kc)] maxLocals) T' (mkF m 292 #[.val (.int fl), .val (.int ka), .val (.int kb), .val (.int kc), .val (.ref b1), .val (.int qa), .val (.int qb), .val (.int qc), .val (.int ra), .val (.int rb), .val (.int rc), .val (.int (1 : Int32)), .val (.int ((qa + qb) + qc)), .val (.int (own_e nzp2)), .val (.int (((((qa + qb) + qc) - ra) - rb) - rc)), .val (.int (own_e nzd2))] [(.int ok276)]) := by
    by_cases hc149 : (((((qa + qb) + qc) - ra) - rb) - rc) = (0 : Int32)
    · have go150 : Goes p e below s₁ (entryFrame m #[(.int fl), (.int ka), (.int kb), (.int kc)] maxLocals) T144 (mkF m 284 #[.val (.int fl), .val (.int ka), .val (.int kb), .val (.int kc), .val (.ref b1), .val (.int qa), .val (.int qb), .val (.int qc), .val (.int ra), .val (.int rb), .val (.int rc), .val (.int (1 : Int32)), .val (.int ((qa + qb) + qc)), .val (.int (own_e nzp2)), .val (.int (((((qa + qb) + qc) - ra) - rb) - rc)), .val (.int (own_e nzd2))] [(.int (1 : Int32)), (.int (own_e nzd2))]) := fun t k => by
        refine go147 t ?_
        refine XS.ifNo X144.here hx rfl (hb hby at_276) rfl (Jvm.Free.XT.i0_ne_f hc149) ?_
        show Steps p.tables e below (T144.setTop (mkF m 279 #[.val (.int fl), .val (.int ka), .val (.int kb), .val (.int kc), .val (.ref b1), .val (.int qa), .val (.int qb), .val (.int qc), .val (.int ra), .val (.int rb), .val (.int rc), .val (.int (1 : Int32)), .val (.int ((qa + qb) + qc)), .val (.int (own_e nzp2)), .val (.int (((((qa + qb) + qc) - ra) - rb) - rc)), .val (.int (own_e nzd2))] [(.int (own_e nzd2))])) _
        refine XS.iconst X144.here hx rfl (hb hby at_279) ?_
        show Steps p.tables e below (T144.setTop (mkF m 280 #[.val (.int fl), .val (.int ka), .val (.int kb), .val (.int kc), .val (.ref b1), .val (.int qa), .val (.int qb), .val (.int qc), .val (.int ra), .val (.int rb), .val (.int rc), .val (.int (1 : Int32)), .val (.int ((qa + qb) + qc)), .val (.int (own_e nzp2)), .val (.int (((((qa + qb) + qc) - ra) - rb) - rc)), .val (.int (own_e nzd2))] [(.int (1 : Int32)), (.int (own_e nzd2))])) _
        refine XS.goto X144.here hx rfl (pc0 := 280) (pc' := 284) rfl (hb hby at_280) (by decide) (by decide) ?_
        show Steps p.tables e below (T144.setTop (mkF m 284 #[.val (.int fl), .val (.int ka), .val (.int kb), .val (.int kc), .val (.ref b1), .val (.int qa), .val (.int qb), .val (.int qc), .val (.int ra), .val (.int rb), .val (.int rc), .val (.int (1 : Int32)), .val (.int ((qa + qb) + qc)), .val (.int (own_e nzp2)), .val (.int (((((qa + qb) + qc) - ra) - rb) - rc)), .val (.int (own_e nzd2))] [(.int (1 : Int32)), (.int (own_e nzd2))])) _
        exact k
      have go151 : Goes p e below s₁ (entryFrame m #[(.int fl), (.int ka), (.int kb), (.int kc)] maxLocals) T144 (mkF m 292 #[.val (.int fl), .val (.int ka), .val (.int kb), .val (.int kc), .val (.ref b1), .val (.int qa), .val (.int qb), .val (.int qc), .val (.int ra), .val (.int rb), .val (.int rc), .val (.int (1 : Int32)), .val (.int ((qa + qb) + qc)), .val (.int (own_e nzp2)), .val (.int (((((qa + qb) + qc) - ra) - rb) - rc)), .val (.int (own_e nzd2))] [(.int (1 : Int32))]) := fun t k => by
        refine go150 t ?_
        refine XS.icmpNo X144.here hx rfl (hb hby at_284) rfl (Jvm.Free.XT.ii_ne_f (by rw [hj126.2]; exact if_pos hc149)) ?_
        show Steps p.tables e below (T144.setTop (mkF m 287 #[.val (.int fl), .val (.int ka), .val (.int kb), .val (.int kc), .val (.ref b1), .val (.int qa), .val (.int qb), .val (.int qc), .val (.int ra), .val (.int rb), .val (.int rc), .val (.int (1 : Int32)), .val (.int ((qa + qb) + qc)), .val (.int (own_e nzp2)), .val (.int (((((qa + qb) + qc) - ra) - rb) - rc)), .val (.int (own_e nzd2))] [])) _
        refine XS.iconst X144.here hx rfl (hb hby at_287) ?_
        show Steps p.tables e below (T144.setTop (mkF m 288 #[.val (.int fl), .val (.int ka), .val (.int kb), .val (.int kc), .val (.ref b1), .val (.int qa), .val (.int qb), .val (.int qc), .val (.int ra), .val (.int rb), .val (.int rc), .val (.int (1 : Int32)), .val (.int ((qa + qb) + qc)), .val (.int (own_e nzp2)), .val (.int (((((qa + qb) + qc) - ra) - rb) - rc)), .val (.int (own_e nzd2))] [(.int (1 : Int32))])) _
        refine XS.goto X144.here hx rfl (pc0 := 288) (pc' := 292) rfl (hb hby at_288) (by decide) (by decide) ?_
        show Steps p.tables e below (T144.setTop (mkF m 292 #[.val (.int fl), .val (.int ka), .val (.int kb), .val (.int kc), .val (.ref b1), .val (.int qa), .val (.int qb), .val (.int qc), .val (.int ra), .val (.int rb), .val (.int rc), .val (.int (1 : Int32)), .val (.int ((qa + qb) + qc)), .val (.int (own_e nzp2)), .val (.int (((((qa + qb) + qc) - ra) - rb) - rc)), .val (.int (own_e nzd2))] [(.int (1 : Int32))])) _
        exact k
      exact ⟨T144, (1 : Int32), X144, e144, rfl, go151⟩
    · have go152 : Goes p e below s₁ (entryFrame m #[(.int fl), (.int ka), (.int kb), (.int kc)] maxLocals) T144 (mkF m 284 #[.val (.int fl), .val (.int ka), .val (.int kb), .val (.int kc), .val (.ref b1), .val (.int qa), .val (.int qb), .val (.int qc), .val (.int ra), .val (.int rb), .val (.int rc), .val (.int (1 : Int32)), .val (.int ((qa + qb) + qc)), .val (.int (own_e nzp2)), .val (.int (((((qa + qb) + qc) - ra) - rb) - rc)), .val (.int (own_e nzd2))] [(.int (0 : Int32)), (.int (own_e nzd2))]) := fun t k => by
        refine go147 t ?_
        refine XS.ifYes X144.here hx rfl (pc0 := 276) (pc' := 283) rfl (hb hby at_276) rfl (Jvm.Free.XT.i0_ne_t hc149) (by decide) (by decide) ?_
        show Steps p.tables e below (T144.setTop (mkF m 283 #[.val (.int fl), .val (.int ka), .val (.int kb), .val (.int kc), .val (.ref b1), .val (.int qa), .val (.int qb), .val (.int qc), .val (.int ra), .val (.int rb), .val (.int rc), .val (.int (1 : Int32)), .val (.int ((qa + qb) + qc)), .val (.int (own_e nzp2)), .val (.int (((((qa + qb) + qc) - ra) - rb) - rc)), .val (.int (own_e nzd2))] [(.int (own_e nzd2))])) _
        refine XS.iconst X144.here hx rfl (hb hby at_283) ?_
        show Steps p.tables e below (T144.setTop (mkF m 284 #[.val (.int fl), .val (.int ka), .val (.int kb), .val (.int kc), .val (.ref b1), .val (.int qa), .val (.int qb), .val (.int qc), .val (.int ra), .val (.int rb), .val (.int rc), .val (.int (1 : Int32)), .val (.int ((qa + qb) + qc)), .val (.int (own_e nzp2)), .val (.int (((((qa + qb) + qc) - ra) - rb) - rc)), .val (.int (own_e nzd2))] [(.int (0 : Int32)), (.int (own_e nzd2))])) _
        exact k
      have go153 : Goes p e below s₁ (entryFrame m #[(.int fl), (.int ka), (.int kb), (.int kc)] maxLocals) T144 (mkF m 292 #[.val (.int fl), .val (.int ka), .val (.int kb), .val (.int kc), .val (.ref b1), .val (.int qa), .val (.int qb), .val (.int qc), .val (.int ra), .val (.int rb), .val (.int rc), .val (.int (1 : Int32)), .val (.int ((qa + qb) + qc)), .val (.int (own_e nzp2)), .val (.int (((((qa + qb) + qc) - ra) - rb) - rc)), .val (.int (own_e nzd2))] [(.int (1 : Int32))]) := fun t k => by
        refine go152 t ?_
        refine XS.icmpNo X144.here hx rfl (hb hby at_284) rfl (Jvm.Free.XT.ii_ne_f (by rw [hj126.2]; exact if_neg hc149)) ?_
        show Steps p.tables e below (T144.setTop (mkF m 287 #[.val (.int fl), .val (.int ka), .val (.int kb), .val (.int kc), .val (.ref b1), .val (.int qa), .val (.int qb), .val (.int qc), .val (.int ra), .val (.int rb), .val (.int rc), .val (.int (1 : Int32)), .val (.int ((qa + qb) + qc)), .val (.int (own_e nzp2)), .val (.int (((((qa + qb) + qc) - ra) - rb) - rc)), .val (.int (own_e nzd2))] [])) _
        refine XS.iconst X144.here hx rfl (hb hby at_287) ?_
        show Steps p.tables e below (T144.setTop (mkF m 288 #[.val (.int fl), .val (.int ka), .val (.int kb), .val (.int kc), .val (.ref b1), .val (.int qa), .val (.int qb), .val (.int qc), .val (.int ra), .val (.int rb), .val (.int rc), .val (.int (1 : Int32)), .val (.int ((qa + qb) + qc)), .val (.int (own_e nzp2)), .val (.int (((((qa + qb) + qc) - ra) - rb) - rc)), .val (.int (own_e nzd2))] [(.int (1 : Int32))])) _
        refine XS.goto X144.here hx rfl (pc0 := 288) (pc' := 292) rfl (hb hby at_288) (by decide) (by decide) ?_
        show Steps p.tables e below (T144.setTop (mkF m 292 #[.val (.int fl), .val (.int ka), .val (.int kb), .val (.int kc), .val (.ref b1), .val (.int qa), .val (.int qb), .val (.int qc), .val (.int ra), .val (.int rb), .val (.int rc), .val (.int (1 : Int32)), .val (.int ((qa + qb) + qc)), .val (.int (own_e nzp2)), .val (.int (((((qa + qb) + qc) - ra) - rb) - rc)), .val (.int (own_e nzd2))] [(.int (1 : Int32))])) _
        exact k
      exact ⟨T144, (1 : Int32), X144, e144, rfl, go153⟩
  have go154 : Goes p e below s₁ (entryFrame m #[(.int fl), (.int ka), (.int kb), (.int kc)] maxLocals) T148 (mkF m 292 #[.val (.int fl), .val (.int ka), .val (.int kb), .val (.int kc), .val (.ref b1), .val (.int qa), .val (.int qb), .val (.int qc), .val (.int ra), .val (.int rb), .val (.int rc), .val (.int (1 : Int32)), .val (.int ((qa + qb) + qc)), .val (.int (own_e nzp2)), .val (.int (((((qa + qb) + qc) - ra) - rb) - rc)), .val (.int (own_e nzd2))] [(.int (1 : Int32))]) := Eq.mp (congrArg (fun zz => Goes p e below s₁ (entryFrame m #[(.int fl), (.int ka), (.int kb), (.int kc)] maxLocals) T148 (mkF m 292 #[.val (.int fl), .val (.int ka), .val (.int kb), .val (.int kc), .val (.ref b1), .val (.int qa), .val (.int qb), .val (.int qc), .val (.int ra), .val (.int rb), .val (.int rc), .val (.int (1 : Int32)), .val (.int ((qa + qb) + qc)), .val (.int (own_e nzp2)), .val (.int (((((qa + qb) + qc) - ra) - rb) - rc)), .val (.int (own_e nzd2))] [(.int zz)])) hj148) go148j
  have go155 : Goes p e below s₁ (entryFrame m #[(.int fl), (.int ka), (.int kb), (.int kc)] maxLocals) T148 (mkF m 296 #[.val (.int fl), .val (.int ka), .val (.int kb), .val (.int kc), .val (.ref b1), .val (.int qa), .val (.int qb), .val (.int qc), .val (.int ra), .val (.int rb), .val (.int rc), .val (.int (1 : Int32)), .val (.int ((qa + qb) + qc)), .val (.int (own_e nzp2)), .val (.int (((((qa + qb) + qc) - ra) - rb) - rc)), .val (.int (own_e nzd2))] [(.int (1 : Int32))]) := fun t k => by
    refine go154 t ?_
    refine XS.istore X148.here hx rfl (hb hby at_292) rfl (l' := #[.val (.int fl), .val (.int ka), .val (.int kb), .val (.int kc), .val (.ref b1), .val (.int qa), .val (.int qb), .val (.int qc), .val (.int ra), .val (.int rb), .val (.int rc), .val (.int (1 : Int32)), .val (.int ((qa + qb) + qc)), .val (.int (own_e nzp2)), .val (.int (((((qa + qb) + qc) - ra) - rb) - rc)), .val (.int (own_e nzd2))]) rfl ?_
    show Steps p.tables e below (T148.setTop (mkF m 294 #[.val (.int fl), .val (.int ka), .val (.int kb), .val (.int kc), .val (.ref b1), .val (.int qa), .val (.int qb), .val (.int qc), .val (.int ra), .val (.int rb), .val (.int rc), .val (.int (1 : Int32)), .val (.int ((qa + qb) + qc)), .val (.int (own_e nzp2)), .val (.int (((((qa + qb) + qc) - ra) - rb) - rc)), .val (.int (own_e nzd2))] [])) _
    refine XS.iload X148.here hx rfl (hb hby at_294) rfl ?_
    show Steps p.tables e below (T148.setTop (mkF m 296 #[.val (.int fl), .val (.int ka), .val (.int kb), .val (.int kc), .val (.ref b1), .val (.int qa), .val (.int qb), .val (.int qc), .val (.int ra), .val (.int rb), .val (.int rc), .val (.int (1 : Int32)), .val (.int ((qa + qb) + qc)), .val (.int (own_e nzp2)), .val (.int (((((qa + qb) + qc) - ra) - rb) - rc)), .val (.int (own_e nzd2))] [(.int (1 : Int32))])) _
    exact k
  obtain ⟨fs, hr, hrun, hended, hW, hsame⟩ := X148.leave (v := some (.int (1 : Int32))) (fun h => by rw [Bd.returns] at h; cases h)
  refine ⟨_, _, go155 _ ?_, hrun, hended, _, _, rfl, ?_, ⟨_, rfl⟩, hW, hsame.mono (by decide) (by decide)⟩
  · exact retN X148 hx (t := .boolean) Bd.returns (by simp) (hb hby at_296) hr
  · show Q0 Z _ _ _ _ _ _ _ T148.heap _
    rw [e148]
    exact ⟨rfl, N144⟩
set_option maxRecDepth 65536 in
set_option maxHeartbeats 40000000 in
theorem comes_1 {Post : Tables → Env → Array Value → State → Outcome → State → Prop} (hpost : ∀ tb e args s v u, (limb_1_1.after args s (.returned v) u = true ∧ limb_1_2.after args s (.returned v) u = true ∧ True) → FrameEnd s (.returned v) u (Jvm.fieldLocs frame_1_writes args s ++ Jvm.arrayLocs frame_1_arrays args s ++ Jvm.staticLocs frame_1_statics s) 16 128 → Post tb e args s (.returned v) u) :
    ArmFor flags0 classFile x code maxLocals ret World_1 tables_1 room_1 Calls_1 rest_1 Pre_1 Post := by
  intro l hfl _ _ p e ha hc hk s m args below hf hA hF happ hP
  obtain ⟨hcalls, hrest, hpre⟩ := hP
  obtain ⟨-, -, -, hnamed, -, -, -, hat⟩ := (Spec.applies_iff hf).mp happ
  obtain ⟨hg, hn⟩ := and_e (Cond.before_iff.mp (show (Jvm.Cond.and given_1 narrow_1).before args s = true from hpre))
  obtain ⟨hg0, hg⟩ := and_e hg
  obtain ⟨ga0, hg⟩ := and_e hg
  obtain ⟨ga1, hg⟩ := and_e hg
  obtain ⟨ga2, hg⟩ := and_e hg
  have ga3 := hg
  obtain ⟨w0, w1, w2, w3, rfl⟩ : ∃ w0 w1 w2 w3 : Value, args = #[w0, w1, w2, w3] := by
    have hs : args.size = 4 := by simpa [Cond.value, given_1] using hg0
    obtain ⟨L⟩ := args
    match L, hs with
    | [w0, w1, w2, w3], _ => exact ⟨w0, w1, w2, w3, rfl⟩
  have hw := fun d (hd : d ∈ tables_1) => atoms_spec (ws := Jvm.Cond.code x code maxLocals ret :: tables_1) hat d (List.mem_cons_of_mem _ hd)
  have hfit : Fit s := fun {y c} hc i hi => by
    obtain ⟨ha, rfl⟩ := Array.getElem?_eq_some_iff.mp hc
    have q := List.all_eq_true.mp ((Array.all_eq_true_iff_forall_mem.mp hF) _ (Array.getElem_mem ha)) i (List.mem_range.mpr hi)
    simpa [Array.getElem?_eq_getElem hi] using q
  obtain ⟨i0, ei0⟩ := is_v ga0
  obtain rfl : w0 = (.int i0) := Option.some.inj ei0
  obtain ⟨i1, ei1⟩ := is_v ga1
  obtain rfl : w1 = (.int i1) := Option.some.inj ei1
  obtain ⟨i2, ei2⟩ := is_v ga2
  obtain rfl : w2 = (.int i2) := Option.some.inj ei2
  obtain ⟨i3, ei3⟩ := is_v ga3
  obtain rfl : w3 = (.int i3) := Option.some.inj ei3
  obtain ⟨n, o, h1, h2, h3, _, L, rfl, ⟨rfl, N⟩, hq⟩ := rm0 l s _ hw tables_1 i0 i1 i2 i3 s.heap s.heap.size (Nat.le_refl _) p e ha hc hk s m _ below hf ((Spec.applies_iff_loose hf).mp happ).1 ⟨rfl, State.Warmed39.refl s, rfl⟩ trivial
  refine ⟨n, _, h1, h2, h3, hpost _ _ _ _ _ _ ⟨Cond.after_iff.mpr rfl, Cond.after_iff.mpr (eq_i res_at (Term.int_eval (1)) rfl), trivial⟩ ⟨hq.1, hq.2.1, (hq.2.2.sift fun y hy => Or.inr (N y hy)).mono (by decide) (by decide)⟩⟩
theorem main_1_1 : Claimed_1_1 := comes_1 fun _ _ _ _ _ _ h hF => ⟨h.1, hF⟩
theorem main_1_2 : Claimed_1_2 := comes_1 fun _ _ _ _ _ _ h hF => ⟨h.2.1, hF⟩
end Jvm.Pilot.@@N@@
namespace Jvm.Pilot.@@N@@
open Jvm Jvm.ClassFile Sem Op Lib Jvm.Free Jvm.Stand Jvm.Pilot.@@N@@.Jvm.D
/-! MADE BY PROGRAM (witnessworld.py) out of the Statement's table words and the real class files: 10 classes; the members and pool entries that the words name. The judged class is class 1, her method 2. -/
namespace start1
open Jvm.ClassFile
def u (s : String) : CpInfo := .utf8 (stringToUtf16 s)
/-- a pool by its gaps: so many unusable entries, then the entry; so many at the end -/
def gap : Nat → List CpInfo → List CpInfo
  | 0, r => r
  | n + 1, r => .unusable :: gap n r
def poolList (es : List (Nat × CpInfo)) (last : Nat) : List CpInfo := es.foldr (fun e r => gap e.1 (e.2 :: r)) (gap last [])
def pool (es : List (Nat × CpInfo)) (last : Nat) : Array CpInfo := ⟨poolList es last⟩
def fileOf (pool : Array CpInfo) (this : Nat) (attrs : Array Attribute := #[]) (ms : Array MethodInfo := #[]) (fl : Nat := 33) (sup : Nat := 0) (ifs : Array Nat := #[]) (fds : Array FieldInfo := #[]) : ClassFile where
  minorVersion := 0
  majorVersion := 65
  constantPool := pool
  accessFlags := fl
  thisClass := this
  superClass := sup
  interfaces := ifs
  fields := fds
  methods := ms
  attributes := attrs
def plain (name : String) (sup : Option ClassId) : Class where
  name := name
  kind := .ordinary
  loader := none
  accessFlags := 33
  super := sup
  interfaces := #[]
  cf := none
  fields := #[]
  methods := #[]
  instanceTypes := #[]
  staticTypes := #[]
  resolved := #[]
  callSites := []
  init := .initialized
  statics := none
  mirror := none

def pool0 : Array CpInfo := pool [(5, u "<init>"), (0, u "()V"), (1, .class_ 10), (1, u "java/lang/Object")] 113

def k0c0 : Code := { maxStack := 0, maxLocals := 1, code := object_method_1_code, exceptionTable := #[], attributes := #[] }
def k0m0 : Method := { name := "<init>", desc := "()V", sig := { parameters := [], returnType := none }, accessFlags := 1, code := some k0c0 }
/-- java/lang/Object -/
def k0 : Class := { plain "java/lang/Object" none with
  accessFlags := 33
  interfaces := #[]
  cf := some (fileOf pool0 8 #[] #[{ accessFlags := 1, nameIndex := 5, descriptorIndex := 6, attributes := #[] }] 33 0 #[] #[])
  fields := #[]
  methods := #[k0m0]
  instanceTypes := #[]
  staticTypes := #[]
  resolved := Array.replicate 124 none
  statics := none }

def pool1 : Array CpInfo := pool [(2, .class_ 4), (1, u "java/lang/Object"), (0, u "<init>"), (0, u "()V"), (0, .class_ 8), (0, u "com/example/covermesh/covermesh/algorithms/IndexedMinHeap"), (0, .methodref 7 10), (0, .nameAndType 5 11), (0, u "(I)V"), (0, .methodref 7 13), (0, .nameAndType 14 15), (0, u "isEmpty"), (0, u "()Z"), (0, .methodref 7 17), (0, .nameAndType 18 19), (0, u "put"), (0, u "(ID)V"), (0, .methodref 21 22), (0, .class_ 23), (0, .nameAndType 24 25), (0, u "com/example/covermesh/covermesh/algorithms/IndexedMinHeapIsEmptyPinLaw"), (0, u "one"), (0, u "(Z)I"), (0, .methodref 7 27), (0, .nameAndType 28 11), (0, u "remove"), (3, u "law"), (0, u "(IIII)Z")] 2

def k1m0 : Method := { name := "<init>", desc := "()V", sig := { parameters := [], returnType := none }, accessFlags := 1, code := none }
def k1c1 : Code := { maxStack := 1, maxLocals := 1, code := method_2_code, exceptionTable := #[], attributes := #[] }
def k1m1 : Method := { name := "one", desc := "(Z)I", sig := { parameters := [.boolean], returnType := some .int }, accessFlags := 10, code := some k1c1 }
def k1c2 : Code := { maxStack := 4, maxLocals := 16, code := code, exceptionTable := #[], attributes := #[] }
def k1m2 : Method := { name := "law", desc := "(IIII)Z", sig := { parameters := [.int, .int, .int, .int], returnType := some .boolean }, accessFlags := 9, code := some k1c2 }
/-- com/example/covermesh/covermesh/algorithms/IndexedMinHeapIsEmptyPinLaw -/
def k1 : Class := { plain "com/example/covermesh/covermesh/algorithms/IndexedMinHeapIsEmptyPinLaw" (some 0) with
  accessFlags := 49
  interfaces := #[]
  cf := some (fileOf pool1 21 #[] #[{ accessFlags := 1, nameIndex := 5, descriptorIndex := 6, attributes := #[] }, { accessFlags := 10, nameIndex := 24, descriptorIndex := 25, attributes := #[] }, { accessFlags := 9, nameIndex := 32, descriptorIndex := 33, attributes := #[] }] 49 2 #[] #[])
  fields := #[]
  methods := #[k1m0, k1m1, k1m2]
  instanceTypes := #[]
  staticTypes := #[]
  resolved := Array.replicate 36 none
  statics := none }

def pool2 : Array CpInfo := pool [(1, .methodref 2 3), (0, .class_ 4), (0, .nameAndType 5 6), (0, u "java/lang/Object"), (0, u "<init>"), (0, u "()V"), (0, .fieldref 8 9), (0, .class_ 10), (0, .nameAndType 11 12), (0, u "com/example/covermesh/covermesh/algorithms/IndexedMinHeap"), (0, u "keys"), (0, u "[D"), (0, .fieldref 8 14), (0, .nameAndType 15 16), (0, u "items"), (0, u "[I"), (0, .fieldref 8 18), (0, .nameAndType 19 16), (0, u "positions"), (0, .methodref 21 22), (0, .class_ 23), (0, .nameAndType 24 25), (0, u "java/util/Arrays"), (0, u "fill"), (0, u "([II)V"), (0, .fieldref 8 27), (0, .nameAndType 28 29), (0, u "size"), (0, u "I"), (0, .methodref 8 31), (0, .nameAndType 32 33), (0, u "siftUp"), (0, u "(I)V"), (0, .methodref 8 35), (0, .nameAndType 36 33), (0, u "siftDown"), (2, u "remove"), (0, .methodref 8 41), (0, .nameAndType 42 43), (0, u "less"), (0, u "(II)Z"), (0, .methodref 8 45), (0, .nameAndType 46 47), (0, u "move"), (0, u "(II)V"), (2, u "isEmpty"), (0, u "()Z"), (3, u "put"), (0, u "(ID)V")] 4

def k2c0 : Code := { maxStack := 2, maxLocals := 2, code := prog_17_method_1_code, exceptionTable := #[], attributes := #[] }
def k2m0 : Method := { name := "<init>", desc := "(I)V", sig := { parameters := [.int], returnType := none }, accessFlags := 0, code := some k2c0 }
def k2c1 : Code := { maxStack := 1, maxLocals := 1, code := prog_17_method_2_code, exceptionTable := #[], attributes := #[] }
def k2m1 : Method := { name := "isEmpty", desc := "()Z", sig := { parameters := [], returnType := some .boolean }, accessFlags := 0, code := some k2c1 }
def k2c2 : Code := { maxStack := 6, maxLocals := 4, code := prog_17_method_4_code, exceptionTable := #[], attributes := #[] }
def k2m2 : Method := { name := "put", desc := "(ID)V", sig := { parameters := [.int, .double], returnType := none }, accessFlags := 0, code := some k2c2 }
def k2c3 : Code := { maxStack := 3, maxLocals := 4, code := prog_17_method_6_code, exceptionTable := #[], attributes := #[] }
def k2m3 : Method := { name := "remove", desc := "(I)V", sig := { parameters := [.int], returnType := none }, accessFlags := 0, code := some k2c3 }
def k2c4 : Code := { maxStack := 5, maxLocals := 4, code := prog_17_method_7_code, exceptionTable := #[], attributes := #[] }
def k2m4 : Method := { name := "siftUp", desc := "(I)V", sig := { parameters := [.int], returnType := none }, accessFlags := 2, code := some k2c4 }
def k2c5 : Code := { maxStack := 4, maxLocals := 4, code := prog_17_method_8_code, exceptionTable := #[], attributes := #[] }
def k2m5 : Method := { name := "siftDown", desc := "(I)V", sig := { parameters := [.int], returnType := none }, accessFlags := 2, code := some k2c5 }
def k2c6 : Code := { maxStack := 3, maxLocals := 3, code := prog_17_method_9_code, exceptionTable := #[], attributes := #[] }
def k2m6 : Method := { name := "move", desc := "(II)V", sig := { parameters := [.int, .int], returnType := none }, accessFlags := 2, code := some k2c6 }
def k2c7 : Code := { maxStack := 4, maxLocals := 3, code := prog_17_method_10_code, exceptionTable := #[], attributes := #[] }
def k2m7 : Method := { name := "less", desc := "(II)Z", sig := { parameters := [.int, .int], returnType := some .boolean }, accessFlags := 2, code := some k2c7 }
/-- com/example/covermesh/covermesh/algorithms/IndexedMinHeap -/
def k2 : Class := { plain "com/example/covermesh/covermesh/algorithms/IndexedMinHeap" (some 0) with
  accessFlags := 48
  interfaces := #[]
  cf := some (fileOf pool2 8 #[] #[{ accessFlags := 0, nameIndex := 5, descriptorIndex := 33, attributes := #[] }, { accessFlags := 0, nameIndex := 50, descriptorIndex := 51, attributes := #[] }, { accessFlags := 0, nameIndex := 55, descriptorIndex := 56, attributes := #[] }, { accessFlags := 0, nameIndex := 39, descriptorIndex := 33, attributes := #[] }, { accessFlags := 2, nameIndex := 32, descriptorIndex := 33, attributes := #[] }, { accessFlags := 2, nameIndex := 36, descriptorIndex := 33, attributes := #[] }, { accessFlags := 2, nameIndex := 46, descriptorIndex := 47, attributes := #[] }, { accessFlags := 2, nameIndex := 42, descriptorIndex := 43, attributes := #[] }] 48 2 #[] #[{ accessFlags := 18, nameIndex := 11, descriptorIndex := 12, attributes := #[] }, { accessFlags := 18, nameIndex := 15, descriptorIndex := 16, attributes := #[] }, { accessFlags := 18, nameIndex := 19, descriptorIndex := 16, attributes := #[] }, { accessFlags := 2, nameIndex := 28, descriptorIndex := 29, attributes := #[] }])
  fields := #[{ name := "keys", type := (.array .double), accessFlags := 18, slot := 0, constantValue := 0 }, { name := "items", type := (.array .int), accessFlags := 18, slot := 1, constantValue := 0 }, { name := "positions", type := (.array .int), accessFlags := 18, slot := 2, constantValue := 0 }, { name := "size", type := .int, accessFlags := 2, slot := 3, constantValue := 0 }]
  methods := #[k2m0, k2m1, k2m2, k2m3, k2m4, k2m5, k2m6, k2m7]
  instanceTypes := #[(.array .double), (.array .int), (.array .int), .int]
  staticTypes := #[]
  resolved := Array.replicate 61 none
  statics := none }

def pool3 : Array CpInfo := pool [(2, .class_ 4), (1, u "java/lang/Object"), (0, u "<init>"), (0, u "()V"), (7, .class_ 16), (1, u "java/util/Arrays"), (57, .class_ 76), (1, u "java/util/Arrays$NaturalOrder"), (36, .class_ 115), (1, u "java/util/Arrays$LegacyMergeSort"), (1, u "Z"), (257, .class_ 376), (0, u "java/util/Arrays$ArrayList"), (68, u "$assertionsDisabled"), (269, u "MIN_ARRAY_SORT_GRAN"), (0, u "I"), (2, u "INSERTIONSORT_THRESHOLD"), (120, u "fill"), (4, u "([II)V"), (129, .class_ 976), (0, u "java/util/Arrays$ArrayItr")] 52

def k3m0 : Method := { name := "<init>", desc := "()V", sig := { parameters := [], returnType := none }, accessFlags := 2, code := none }
def k3c1 : Code := { maxStack := 3, maxLocals := 4, code := jdk_65_method_103_code, exceptionTable := #[], attributes := #[] }
def k3m1 : Method := { name := "fill", desc := "([II)V", sig := { parameters := [(.array .int), .int], returnType := none }, accessFlags := 9, code := some k3c1 }
/-- java/util/Arrays -/
def k3 : Class := { plain "java/util/Arrays" (some 0) with
  accessFlags := 49
  interfaces := #[]
  cf := some (fileOf pool3 14 #[.nestMembers #[975, 375, 113, 74]] #[{ accessFlags := 2, nameIndex := 5, descriptorIndex := 6, attributes := #[] }, { accessFlags := 9, nameIndex := 840, descriptorIndex := 845, attributes := #[] }] 49 2 #[] #[{ accessFlags := 26, nameIndex := 715, descriptorIndex := 716, attributes := #[] }, { accessFlags := 26, nameIndex := 719, descriptorIndex := 716, attributes := #[] }, { accessFlags := 4120, nameIndex := 445, descriptorIndex := 117, attributes := #[] }])
  fields := #[{ name := "MIN_ARRAY_SORT_GRAN", type := .int, accessFlags := 26, slot := 0, constantValue := 0 }, { name := "INSERTIONSORT_THRESHOLD", type := .int, accessFlags := 26, slot := 1, constantValue := 0 }, { name := "$assertionsDisabled", type := .boolean, accessFlags := 4120, slot := 2, constantValue := 0 }]
  methods := #[k3m0, k3m1]
  instanceTypes := #[]
  staticTypes := #[.int, .int, .boolean]
  resolved := Array.replicate 1029 none
  statics := none }

def pool4 : Array CpInfo := pool [(1, u "java/lang/Cloneable"), (0, .class_ 1), (0, u "java/lang/Object"), (0, .class_ 3)] 3

/-- java/lang/Cloneable -/
def k4 : Class := { plain "java/lang/Cloneable" (some 0) with
  accessFlags := 1537
  interfaces := #[]
  cf := some (fileOf pool4 2 #[] #[] 1537 4 #[] #[])
  fields := #[]
  methods := #[]
  instanceTypes := #[]
  staticTypes := #[]
  resolved := Array.replicate 8 none
  statics := none }

def pool5 : Array CpInfo := pool [(1, u "java/io/Serializable"), (0, .class_ 1), (0, u "java/lang/Object"), (0, .class_ 3)] 3

/-- java/io/Serializable -/
def k5 : Class := { plain "java/io/Serializable" (some 0) with
  accessFlags := 1537
  interfaces := #[]
  cf := some (fileOf pool5 2 #[] #[] 1537 4 #[] #[])
  fields := #[]
  methods := #[]
  instanceTypes := #[]
  staticTypes := #[]
  resolved := Array.replicate 8 none
  statics := none }

/-- the primitive byte -/
def k6 : Class := { plain "byte" none with kind := .primitive 'B', accessFlags := 0x411 }
/-- [B -/
def k7 : Class := { plain "[B" (some 0) with kind := .array 6 .byte, interfaces := #[4, 5], accessFlags := 1041 }

/-- the primitive int -/
def k8 : Class := { plain "int" none with kind := .primitive 'I', accessFlags := 0x411 }
/-- [I -/
def k9 : Class := { plain "[I" (some 0) with kind := .array 8 .int, interfaces := #[4, 5], accessFlags := 1041 }

def heap : Heap := #[]
def k10 : Class := { plain "double" none with kind := .primitive 'D', accessFlags := 0x411 }
def k11 : Class := { plain "[D" (some 0) with kind := .array 10 .double, interfaces := #[4, 5], accessFlags := 1041 }
def classes : Array Class := #[k0, k1, k2, k3, k4, k5, k6, k7, k8, k9, k10, k11]
def interned : List (Array UInt16 × Addr) := []
def slotsUsed : Nat := 0
def theMethod : MethodId := ⟨1, 2⟩
def args0 : Array Value := #[.int 63, .int 5, .int 3, .int 9]
def aboutOver (below : List Frame) : State where
  vm := { classes := classes, interned := interned.toArray }
  heap := heap
  slotsUsed := slotsUsed
  threads := #[{ frames := .invoking theMethod args0 :: below }]
def below0 : List Frame := [.native { method := ⟨0, 0⟩, args := #[] }]
def about1 : State := aboutOver below0
def p0 : Program := .bare "" "" ""
def e0 : Env := launch0.env 0 0 0
theorem w_frames : about1.frames = Frame.invoking theMethod args0 :: below0 := rfl
set_option maxRecDepth 65536 in
theorem w_args : argsFit about1.vm theMethod args0 = true := by decide +kernel
set_option maxRecDepth 65536 in
theorem w_heap : heapFits about1 = true := by decide +kernel
set_option maxRecDepth 65536 in
theorem w_runnable : about1.curStatus? = some .runnable := by decide +kernel
set_option maxRecDepth 65536 in
theorem w_alone : about1.alone = true := by decide +kernel
set_option maxRecDepth 65536 in
theorem w_named : about1.methodNamed? x = some theMethod := by decide +kernel
set_option maxRecDepth 65536 in
theorem w_hears : about1.hears theMethod below0 = true := by decide +kernel
set_option maxRecDepth 65536 in
theorem w_ripe : about1.ripe theMethod args0 below0 = true := by decide +kernel
theorem w_running : about1.status = .running := rfl
set_option maxRecDepth 65536 in
theorem w_room : about1.hasRoom e0.platform room_1 = true :=
  launch0.hasRoom_least _ room_1 (by decide +kernel) (by decide +kernel) (by decide +kernel) (by decide +kernel) (by decide +kernel) (by decide +kernel)
theorem allAtoms_all (ts : List Jvm.Cond) (a : Array Jvm.Value) (st : Jvm.State) : (allAtoms ts).before a st = ts.all (fun c => c.before a st) := by
  induction ts with
  | nil => rfl
  | cons c t ih =>
    show (Jvm.Cond.and c (allAtoms t)).before a st = _
    rw [Jvm.Cond.before_and, ih, List.all_cons]
def words1 : List Jvm.Cond := Jvm.Cond.code x code maxLocals ret :: tables_1
/-- a 'code' word, met by the world's own term for the bytes: nothing is compared byte by byte -/
theorem code_word {y : MethodName} {bytes : ByteArray} {mx : Nat} {rt : Option FieldType} {a : Array Value} {s : State} {m : MethodId} {meth : Method} {c : Code} (h1 : s.methodNamed? y = some m) (h2 : s.vm.method? m = some meth) (h3 : meth.code = some c) (h4 : c.code = bytes)
    (h5 : (c.maxLocals == mx && c.exceptionTable.isEmpty && decide (c.maxStack ≤ mostOperands) && decide (meth.sig.returnType = rt) && !meth.locks && decide (parseMethodDescriptor y.desc = some meth.sig)) = true) : (Jvm.Cond.code y bytes mx rt).before a s = true := by
  simp only [Bool.and_eq_true, beq_iff_eq, Bool.not_eq_true', decide_eq_true_eq] at h5
  obtain ⟨⟨⟨⟨⟨g1, g2⟩, g3⟩, g4⟩, g5⟩, g6⟩ := h5
  simp [Cond.before, Cond.holds, Cond.value, h1, h2, h3, h4, g1, g2, g3, g4, g5, g6]
def isCode : Jvm.Cond → Bool
  | .code _ _ _ _ => true
  | _ => false
theorem all_split {L : List Jvm.Cond} {P : Jvm.Cond → Bool} (h1 : L.all (fun c => isCode c || P c) = true) (h2 : ∀ c ∈ L.filter isCode, P c = true) : L.all P = true := by
  refine List.all_eq_true.mpr fun c hc => ?_
  have h := List.all_eq_true.mp h1 c hc
  rcases Bool.eq_false_or_eq_true (isCode c) with hi | hi
  · exact h2 c (List.mem_filter.mpr ⟨hc, hi⟩)
  · simpa [hi] using h
set_option maxRecDepth 65536 in
theorem w_c0 : (Jvm.Cond.code x code maxLocals ret).before args0 about1 = true := code_word (m := ⟨1, 2⟩) (meth := k1m2) (c := k1c2) (by decide +kernel) rfl rfl rfl (by decide +kernel)
set_option maxRecDepth 65536 in
theorem w_c1 : (Jvm.Cond.code ({ cls := "com/example/covermesh/covermesh/algorithms/IndexedMinHeap", name := "<init>", desc := "(I)V" } : Jvm.MethodName) prog_17_method_1_code (2 : Nat) (Option.none : Option Jvm.ClassFile.FieldType)).before args0 about1 = true := code_word (m := ⟨2, 0⟩) (meth := k2m0) (c := k2c0) (by decide +kernel) rfl rfl rfl (by decide +kernel)
set_option maxRecDepth 65536 in
theorem w_c2 : (Jvm.Cond.code ({ cls := "java/lang/Object", name := "<init>", desc := "()V" } : Jvm.MethodName) object_method_1_code (1 : Nat) (Option.none : Option Jvm.ClassFile.FieldType)).before args0 about1 = true := code_word (m := ⟨0, 0⟩) (meth := k0m0) (c := k0c0) (by decide +kernel) rfl rfl rfl (by decide +kernel)
set_option maxRecDepth 65536 in
theorem w_c3 : (Jvm.Cond.code ({ cls := "java/util/Arrays", name := "fill", desc := "([II)V" } : Jvm.MethodName) jdk_65_method_103_code (4 : Nat) (Option.none : Option Jvm.ClassFile.FieldType)).before args0 about1 = true := code_word (m := ⟨3, 1⟩) (meth := k3m1) (c := k3c1) (by decide +kernel) rfl rfl rfl (by decide +kernel)
set_option maxRecDepth 65536 in
theorem w_c4 : (Jvm.Cond.code ({ cls := "com/example/covermesh/covermesh/algorithms/IndexedMinHeap", name := "isEmpty", desc := "()Z" } : Jvm.MethodName) prog_17_method_2_code (1 : Nat) (Option.some Jvm.ClassFile.FieldType.boolean)).before args0 about1 = true := code_word (m := ⟨2, 1⟩) (meth := k2m1) (c := k2c1) (by decide +kernel) rfl rfl rfl (by decide +kernel)
set_option maxRecDepth 65536 in
theorem w_c5 : (Jvm.Cond.code ({ cls := "com/example/covermesh/covermesh/algorithms/IndexedMinHeapIsEmptyPinLaw", name := "one", desc := "(Z)I" } : Jvm.MethodName) method_2_code (1 : Nat) (Option.some Jvm.ClassFile.FieldType.int)).before args0 about1 = true := code_word (m := ⟨1, 1⟩) (meth := k1m1) (c := k1c1) (by decide +kernel) rfl rfl rfl (by decide +kernel)
set_option maxRecDepth 65536 in
theorem w_c6 : (Jvm.Cond.code ({ cls := "com/example/covermesh/covermesh/algorithms/IndexedMinHeap", name := "put", desc := "(ID)V" } : Jvm.MethodName) prog_17_method_4_code (4 : Nat) (Option.none : Option Jvm.ClassFile.FieldType)).before args0 about1 = true := code_word (m := ⟨2, 2⟩) (meth := k2m2) (c := k2c2) (by decide +kernel) rfl rfl rfl (by decide +kernel)
set_option maxRecDepth 65536 in
theorem w_c7 : (Jvm.Cond.code ({ cls := "com/example/covermesh/covermesh/algorithms/IndexedMinHeap", name := "siftUp", desc := "(I)V" } : Jvm.MethodName) prog_17_method_7_code (4 : Nat) (Option.none : Option Jvm.ClassFile.FieldType)).before args0 about1 = true := code_word (m := ⟨2, 4⟩) (meth := k2m4) (c := k2c4) (by decide +kernel) rfl rfl rfl (by decide +kernel)
set_option maxRecDepth 65536 in
theorem w_c8 : (Jvm.Cond.code ({ cls := "com/example/covermesh/covermesh/algorithms/IndexedMinHeap", name := "move", desc := "(II)V" } : Jvm.MethodName) prog_17_method_9_code (3 : Nat) (Option.none : Option Jvm.ClassFile.FieldType)).before args0 about1 = true := code_word (m := ⟨2, 6⟩) (meth := k2m6) (c := k2c6) (by decide +kernel) rfl rfl rfl (by decide +kernel)
set_option maxRecDepth 65536 in
theorem w_c9 : (Jvm.Cond.code ({ cls := "com/example/covermesh/covermesh/algorithms/IndexedMinHeap", name := "siftDown", desc := "(I)V" } : Jvm.MethodName) prog_17_method_8_code (4 : Nat) (Option.none : Option Jvm.ClassFile.FieldType)).before args0 about1 = true := code_word (m := ⟨2, 5⟩) (meth := k2m5) (c := k2c5) (by decide +kernel) rfl rfl rfl (by decide +kernel)
set_option maxRecDepth 65536 in
theorem w_c10 : (Jvm.Cond.code ({ cls := "com/example/covermesh/covermesh/algorithms/IndexedMinHeap", name := "less", desc := "(II)Z" } : Jvm.MethodName) prog_17_method_10_code (3 : Nat) (Option.some Jvm.ClassFile.FieldType.boolean)).before args0 about1 = true := code_word (m := ⟨2, 7⟩) (meth := k2m7) (c := k2c7) (by decide +kernel) rfl rfl rfl (by decide +kernel)
set_option maxRecDepth 65536 in
theorem w_c11 : (Jvm.Cond.code ({ cls := "com/example/covermesh/covermesh/algorithms/IndexedMinHeap", name := "remove", desc := "(I)V" } : Jvm.MethodName) prog_17_method_6_code (4 : Nat) (Option.none : Option Jvm.ClassFile.FieldType)).before args0 about1 = true := code_word (m := ⟨2, 3⟩) (meth := k2m3) (c := k2c3) (by decide +kernel) rfl rfl rfl (by decide +kernel)
def codes1 : List Jvm.Cond := [Jvm.Cond.code x code maxLocals ret, Jvm.Cond.code ({ cls := "com/example/covermesh/covermesh/algorithms/IndexedMinHeap", name := "<init>", desc := "(I)V" } : Jvm.MethodName) prog_17_method_1_code (2 : Nat) (Option.none : Option Jvm.ClassFile.FieldType), Jvm.Cond.code ({ cls := "java/lang/Object", name := "<init>", desc := "()V" } : Jvm.MethodName) object_method_1_code (1 : Nat) (Option.none : Option Jvm.ClassFile.FieldType), Jvm.Cond.code ({ cls := "java/util/Arrays", name := "fill", desc := "([II)V" } : Jvm.MethodName) jdk_65_method_103_code (4 : Nat) (Option.none : Option Jvm.ClassFile.FieldType), Jvm.Cond.code ({ cls := "com/example/covermesh/covermesh/algorithms/IndexedMinHeap", name := "isEmpty", desc := "()Z" } : Jvm.MethodName) prog_17_method_2_code (1 : Nat) (Option.some Jvm.ClassFile.FieldType.boolean), Jvm.Cond.code ({ cls := "com/example/covermesh/covermesh/algorithms/IndexedMinHeapIsEmptyPinLaw", name := "one", desc := "(Z)I" } : Jvm.MethodName) method_2_code (1 : Nat) (Option.some Jvm.ClassFile.FieldType.int), Jvm.Cond.code ({ cls := "com/example/covermesh/covermesh/algorithms/IndexedMinHeap", name := "put", desc := "(ID)V" } : Jvm.MethodName) prog_17_method_4_code (4 : Nat) (Option.none : Option Jvm.ClassFile.FieldType), Jvm.Cond.code ({ cls := "com/example/covermesh/covermesh/algorithms/IndexedMinHeap", name := "siftUp", desc := "(I)V" } : Jvm.MethodName) prog_17_method_7_code (4 : Nat) (Option.none : Option Jvm.ClassFile.FieldType), Jvm.Cond.code ({ cls := "com/example/covermesh/covermesh/algorithms/IndexedMinHeap", name := "move", desc := "(II)V" } : Jvm.MethodName) prog_17_method_9_code (3 : Nat) (Option.none : Option Jvm.ClassFile.FieldType), Jvm.Cond.code ({ cls := "com/example/covermesh/covermesh/algorithms/IndexedMinHeap", name := "siftDown", desc := "(I)V" } : Jvm.MethodName) prog_17_method_8_code (4 : Nat) (Option.none : Option Jvm.ClassFile.FieldType), Jvm.Cond.code ({ cls := "com/example/covermesh/covermesh/algorithms/IndexedMinHeap", name := "less", desc := "(II)Z" } : Jvm.MethodName) prog_17_method_10_code (3 : Nat) (Option.some Jvm.ClassFile.FieldType.boolean), Jvm.Cond.code ({ cls := "com/example/covermesh/covermesh/algorithms/IndexedMinHeap", name := "remove", desc := "(I)V" } : Jvm.MethodName) prog_17_method_6_code (4 : Nat) (Option.none : Option Jvm.ClassFile.FieldType)]
set_option maxRecDepth 65536 in
theorem codes_eq : words1.filter isCode = codes1 := rfl
theorem w_codes : ∀ c ∈ words1.filter isCode, c.before args0 about1 = true := by
  rw [codes_eq]
  intro c hc
  simp only [codes1, List.mem_cons, List.not_mem_nil, or_false] at hc
  rcases hc with rfl | rfl | rfl | rfl | rfl | rfl | rfl | rfl | rfl | rfl | rfl | rfl
  · exact w_c0
  · exact w_c1
  · exact w_c2
  · exact w_c3
  · exact w_c4
  · exact w_c5
  · exact w_c6
  · exact w_c7
  · exact w_c8
  · exact w_c9
  · exact w_c10
  · exact w_c11
set_option maxRecDepth 65536 in
theorem w_t1 : (words1.take 24).all (fun c => isCode c || c.before args0 about1) = true := by decide +kernel
set_option maxRecDepth 65536 in
theorem w_t2 : ((words1.drop 24).take 24).all (fun c => isCode c || c.before args0 about1) = true := by decide +kernel
set_option maxRecDepth 65536 in
theorem w_t3 : ((words1.drop 24).drop 24).all (fun c => isCode c || c.before args0 about1) = true := by decide +kernel
theorem w_tables : (allAtoms (Jvm.Cond.code x code maxLocals ret :: tables_1)).before args0 about1 = true := by
  rw [allAtoms_all]
  show words1.all (fun c => c.before args0 about1) = true
  refine all_split ?_ w_codes
  rw [← List.take_append_drop 24 words1, List.all_append, w_t1, ← List.take_append_drop 24 (words1.drop 24), List.all_append, w_t2, w_t3]
  rfl
set_option maxRecDepth 65536 in
theorem w_case : (Jvm.Cond.and given_1 narrow_1).before args0 about1 = true := by decide +kernel
theorem w_applies : (headSpec (Jvm.Cond.code x code maxLocals ret :: tables_1) room_1).applies x e0.platform about1 = true :=
  (Spec.applies_iff w_frames).mpr ⟨w_running, w_runnable, w_alone, w_named, w_hears, w_ripe, w_room, w_tables⟩
theorem atStart : AtStart classFile x code maxLocals ret World_1 tables_1 room_1 Calls_1 rest_1 Pre_1 launch0 p0 e0 about1 theMethod args0 below0 :=
  ⟨lists_1, trivial, launch0.admits_env _ _ _, launch0.least_env, fairChoices_fair.cas, fairChoices_fair.clock, w_frames, w_args, w_heap, w_applies, trivial, trivial, w_case⟩
end start1
theorem witness_1 : WitnessClaimed_1 := ⟨start1.p0, start1.e0, start1.about1, start1.theMethod, start1.args0, start1.below0, start1.atStart⟩
end Jvm.Pilot.@@N@@
