import JvmDerived
import JvmDerived.Pilot.@@N@@Statement
import JvmDerived.Pilot.@@N@@Code
set_option linter.unusedVariables false
set_option linter.unusedSimpArgs false
@@BLOCK:NumsL.lean.txt@@
namespace Jvm.RoadKit
open Sem ClassFile Op Lib Jvm.Stand Jvm.Free Jvm.LawKit
section New
variable {p : Program} {l : Launch} {e : Env} {R : Room} {s : State} {m : MethodId} {args : Array Value} {below : List Frame} {meth : Method} {c : Code} {T : State} {locs : List Loc} {cells slots : Nat}
theorem retI (X : Stand p l e R s m args below meth c T locs cells slots) (hx : p.tables.exec = Jvm.exec) {pc : Nat} {Ls : Array Slot} {z : Int32} {rest : List Value} (hret : meth.sig.returnType = some .int) (hd : decode c.code pc = .ok (.ireturn, 1)) {fs : List Frame}
    (hl : ∀ (f : JFrame) (acts : List Action), f.method = m → f.locked = none → f.entered = [] → (doReturn e (T.setTop f) acts (some (.int z))).1 = T.setFrames fs) : Steps p.tables e below (T.setTop (mkF m pc Ls (.int z :: rest))) (T.setFrames fs) := by
  have hm' : T.vm.method? m = some meth := X.method'
  have hn : narrow .int (.int z) = .int z := rfl
  show Steps p.tables e below (T.setTop { method := m, pc := pc, locals := Ls, stack := _ :: rest, locked := none }) _
  jvm_step X.here [X.here.top, hx, hd, hm', hret, hn]
  first | (intro acts; rw [hl _ acts rfl rfl rfl]) | rw [hl _ _ rfl rfl rfl]
  exact Steps.refl _
end New
end Jvm.RoadKit
namespace Jvm.Pilot.@@N@@
open Jvm Jvm.ClassFile Sem Op Lib Jvm.Free Jvm.Stand Jvm.LawKit Jvm.RoadKit Bundle Jvm.Pilot.@@N@@.Jvm.D
theorem own_wd {Z : State} {a0 : Array Value} (hw : ∀ d ∈ tables_1, d.before a0 Z = true) (i : Nat) {d : Jvm.Cond} (h : tables_1[i]? = some d) : d.before a0 Z = true := hw _ (List.mem_of_getElem? h)
abbrev rO_0 : Room := { frames := 0, cells := 0, slots := 0, locals := 0 }
abbrev rO_1 : Room := { frames := 1, cells := 0, slots := 0, locals := 14 }
abbrev rO_2 : Room := { frames := 1, cells := 3, slots := 9, locals := 15 }
abbrev rO_3 : Room := { frames := 2, cells := 0, slots := 0, locals := 29 }
abbrev mN_0 : MethodName := ⟨"com/example/covermesh/covermesh/algorithms/IndexedMinHeap", "siftDown", "(I)V"⟩
abbrev mN_1 : MethodName := ⟨"com/example/covermesh/covermesh/algorithms/IndexedMinHeap", "move", "(II)V"⟩
abbrev mN_2 : MethodName := ⟨"com/example/covermesh/covermesh/algorithms/IndexedMinHeap", "put", "(ID)V"⟩
abbrev mN_3 : MethodName := ⟨"com/example/covermesh/covermesh/algorithms/IndexedMinHeap", "siftUp", "(I)V"⟩
abbrev mN_4 : MethodName := ⟨"com/example/covermesh/covermesh/algorithms/IndexedMinHeap", "remove", "(I)V"⟩
abbrev mN_5 : MethodName := ⟨"com/example/covermesh/covermesh/algorithms/IndexedMinHeap", "less", "(II)Z"⟩
abbrev mN_6 : MethodName := ⟨"java/lang/Math", "min", "(JJ)J"⟩
abbrev mN_7 : MethodName := ⟨"com/example/covermesh/covermesh/algorithms/IndexedMinHeap", "minKey", "()D"⟩
theorem own_fi {args : Array Value} {s : State} {t : Term} {C n d : String} {k : Int32} {x : Addr} (ht : t.eval args s none [] s = some (.ref x)) (h : (Jvm.Cond.eq (Term.field t C n d) (Term.int k)).value args s none s [] = some true) : Fld s s.heap x C n d (.int k) := by
  obtain ⟨a, b, ha, hb, hk, -⟩ := cmp_v (Or.inl h)
  have hb' : b = .int k := Option.some.inj (hb.symm.trans rfl)
  subst hb'
  cases a <;> simp [Kin, Value.isRef] at hk
  rename_i z
  have hz : z = k := by simpa [Jvm.Cond.value, ha, hb] using h
  subst hz
  exact Fld.start ((fld_at ht).symm.trans ha)
theorem own_fn {args : Array Value} {s : State} {t : Term} {C n d : String} {x : Addr} (ht : t.eval args s none [] s = some (.ref x)) (h : (Jvm.Cond.eq (Term.field t C n d) Term.null).value args s none s [] = some true) : Fld s s.heap x C n d .null := Fld.start ((fld_at ht).symm.trans (null_v h))
theorem own_fx {args : Array Value} {s : State} {t : Term} {C n d K : String} {x : Addr} (ht : t.eval args s none [] s = some (.ref x)) (h : (Jvm.Cond.exactly (Term.field t C n d) K).value args s none s [] = some true) : ∃ y, (Term.field t C n d).eval args s none [] s = some (.ref y) ∧ Fld s s.heap x C n d (.ref y) ∧ Exa s s.heap y K := by
  obtain ⟨y, hy⟩ := exa_v h
  exact ⟨y, hy, Fld.start ((fld_at ht).symm.trans hy), Exa.start hy h⟩
theorem own_sx {args : Array Value} {s : State} {C n d K : String} (hi : (Jvm.Cond.initialized C).before args s = true) (hl : (Jvm.Cond.laysStatic C n d).before args s = true) (h : (Jvm.Cond.exactly (Term.static C n d) K).value args s none s [] = some true) : ∃ x, (Term.static C n d).eval args s none [] s = some (.ref x) ∧ Sta s s.heap C n d (.ref x) ∧ Exa s s.heap x K := by
  obtain ⟨y, hy⟩ := exa_v h
  exact ⟨y, hy, Sta.start hy (Or.inr ⟨hi, hl⟩), Exa.start hy h⟩
theorem own_and31 (x : Int32) : (x &&& 2147483647).toInt = x.toInt % 2 ^ 31 := Jvm.Kit.i32_mask x 2147483647 (k := 31) (by decide) (by decide)
theorem own_pos31 (x : Int32) : 0 ≤ (x &&& 2147483647).toInt := by rw [own_and31]; omega
theorem own_rem (x m : Int32) (hm : 0 < m.toInt) : 0 ≤ ((x &&& 2147483647) % m).toInt ∧ ((x &&& 2147483647) % m).toInt < m.toInt := by
  have h1 := own_pos31 x
  rw [Int32.toInt_mod]
  have h2 : ((x &&& 2147483647).toInt).tmod m.toInt = (x &&& 2147483647).toInt % m.toInt := Int.tmod_eq_emod_of_nonneg h1
  have h3 := Int.emod_nonneg (x &&& 2147483647).toInt (show m.toInt ≠ 0 by omega)
  have h4 := Int.emod_lt_of_pos (x &&& 2147483647).toInt hm
  omega
theorem own_selp {s : State} {args : Array Value} {y : MethodName} {n : Nat} (hy : y.cls ≠ "java/lang/invoke/MethodHandle" ∧ y.cls ≠ "java/lang/invoke/VarHandle") (hins : (Jvm.Cond.instantiable y.cls n).before args s = true) (hpriv : (Jvm.Cond.privateMethod y).before args s = true) (hinst : (Jvm.Cond.instanceMethod y).before args s = true) : (Jvm.Cond.selects y.cls y y).before args s = true := by
  obtain ⟨c, k, hc, hk, -, hniab, -, -⟩ := Cond.instantiable_spec hins
  have hni : k.isInterface = false := (Bool.or_eq_false_iff.mp hniab).1
  obtain ⟨mk, methM, hnamed, hmethM, -, -⟩ := Cond.instanceMethod_spec hinst
  have hfound : s.methodFound? y.cls y.name y.desc = some mk := State.methodFound?_of_named hnamed hy
  have hcls : mk.cls = c := Option.some.inj ((findClass_of_methodNamed hnamed).symm.trans hc)
  have hsel : selectMethod {} s.vm c mk = .method mk := selectMethod_private hmethM (Cond.privateMethod_at hpriv mk methM hnamed hmethM)
  simp only [Cond.before, Cond.holds, Cond.value, hc, hfound, hnamed, hsel, hcls, hk]
  simp; exact hni
theorem own_hp {T : State} {h : Heap} {a : Addr} {c : Cell} (e : T.heap = h) (q : h[a]? = some c) : T.heap[a]? = some c := e ▸ q
theorem own_of_toInt {x : Int32} {n : Int} (h : x.toInt = n) : x = Int32.ofInt n := by rw [← h, Int32.ofInt_toInt]
def own_R (j : Int32) : Prop := j = 0 ∨ j = 1 ∨ j = 2
theorem own_R0 : own_R 0 := Or.inl rfl
theorem own_R1 : own_R 1 := Or.inr (Or.inl rfl)
theorem own_R2 : own_R 2 := Or.inr (Or.inr rfl)
def own_u {α : Type} (f : Int32 → α) (j : Int32) (v : α) : Int32 → α := fun x => if x = j then v else f x
theorem own_us {α : Type} {f : Int32 → α} {j : Int32} {v : α} : own_u f j v j = v := if_pos rfl
theorem own_un {α : Type} {f : Int32 → α} {i j : Int32} {v : α} (h : ¬ i = j) : own_u f j v i = f i := if_neg h
def own_l (f : Int32 → Int32) : List Value := [.int (f 0), .int (f 1), .int (f 2)]
def own_d (f : Int32 → UInt64) : List Value := [.double (f 0), .double (f 1), .double (f 2)]
theorem own_inb {j : Int32} (h : own_R j) : ¬ j < 0 ∧ j < 3 := by rcases h with rfl | rfl | rfl <;> decide
theorem own_l_at {f : Int32 → Int32} {j : Int32} (h : own_R j) : (own_l f).getD j.toNatClampNeg (.int (0 : Int32)) = .int (f j) := by rcases h with rfl | rfl | rfl <;> rfl
theorem own_d_at {f : Int32 → UInt64} {j : Int32} (h : own_R j) : (own_d f).getD j.toNatClampNeg (.double (0 : UInt64)) = .double (f j) := by rcases h with rfl | rfl | rfl <;> rfl
theorem own_l_len {f : Int32 → Int32} {j : Int32} (h : own_R j) : j.toNatClampNeg < (own_l f).length := by rcases h with rfl | rfl | rfl <;> exact Nat.le_of_ble_eq_true rfl
theorem own_d_len {f : Int32 → UInt64} {j : Int32} (h : own_R j) : j.toNatClampNeg < (own_d f).length := by rcases h with rfl | rfl | rfl <;> exact Nat.le_of_ble_eq_true rfl
theorem own_l_set {f : Int32 → Int32} {j v : Int32} (h : own_R j) : (own_l f).set j.toNatClampNeg (.int v) = own_l (own_u f j v) := by rcases h with rfl | rfl | rfl <;> rfl
theorem own_d_set {f : Int32 → UInt64} {j : Int32} {v : UInt64} (h : own_R j) : (own_d f).set j.toNatClampNeg (.double v) = own_d (own_u f j v) := by rcases h with rfl | rfl | rfl <;> rfl
def own_less (kf : Int32 → UInt64) (x y : Int32) : Int32 := if cmpValue (FP.dcmp (kf x) (kf y)) .g < 0 then 1 else if ¬ cmpValue (FP.dcmp (kf x) (kf y)) .l = 0 then 0 else if x < y then 1 else 0
abbrev own_P : Type := (Int32 → Int32) × (Int32 → Int32)
def own_mv (s : own_P) (it ix : Int32) : own_P := (own_u s.1 ix it, own_u s.2 it ix)
def own_up (kf : Int32 → UInt64) (s : own_P) (i : Int32) : own_P := if i = 0 ∨ own_less kf (s.1 i) (s.1 0) = 0 then own_mv s (s.1 i) i else own_mv (own_mv s (s.1 0) i) (s.1 i) 0
def own_ch (kf : Int32 → UInt64) (s : own_P) (n : Int32) : Int32 := if n = 3 ∧ ¬ own_less kf (s.1 2) (s.1 1) = 0 then 2 else 1
def own_dn (kf : Int32 → UInt64) (s : own_P) (i n : Int32) : own_P := if i = 0 ∧ ¬ n = 1 ∧ ¬ own_less kf (s.1 (own_ch kf s n)) (s.1 0) = 0 then own_mv (own_mv s (s.1 (own_ch kf s n)) 0) (s.1 0) (own_ch kf s n) else own_mv s (s.1 i) i
def own_sift (kf : Int32 → UInt64) (s : own_P) (u n : Int32) : own_P := own_dn kf (own_up kf s (s.2 u)) ((own_up kf s (s.2 u)).2 u) n
def own_putA (kf : Int32 → UInt64) (s : own_P) (u n : Int32) : own_P := own_sift kf (own_u s.1 n u, own_u s.2 u n) u (n + 1)
def own_rmv (kf : Int32 → UInt64) (s : own_P) (u i n : Int32) : own_P := if i = n - 1 then (s.1, own_u s.2 u (-1)) else own_sift kf (own_u s.1 i (s.1 (n - 1)), own_u (own_u s.2 u (-1)) (s.1 (n - 1)) i) (s.1 (n - 1)) (n - 1)
theorem d10_0 : decode prog_17_method_10_code 0 = .ok (.aload_n 0, 1) := by decide +kernel
theorem d10_1 : decode prog_17_method_10_code 1 = .ok (.getfield 7, 3) := by decide +kernel
theorem d10_4 : decode prog_17_method_10_code 4 = .ok (.iload_n 1, 1) := by decide +kernel
theorem d10_5 : decode prog_17_method_10_code 5 = .ok (.daload, 1) := by decide +kernel
theorem d10_6 : decode prog_17_method_10_code 6 = .ok (.aload_n 0, 1) := by decide +kernel
theorem d10_7 : decode prog_17_method_10_code 7 = .ok (.getfield 7, 3) := by decide +kernel
theorem d10_10 : decode prog_17_method_10_code 10 = .ok (.iload_n 2, 1) := by decide +kernel
theorem d10_11 : decode prog_17_method_10_code 11 = .ok (.daload, 1) := by decide +kernel
theorem d10_12 : decode prog_17_method_10_code 12 = .ok (.dcmp .g, 1) := by decide +kernel
theorem d10_13 : decode prog_17_method_10_code 13 = .ok (.ifCond .lt 24, 3) := by decide +kernel
theorem d10_16 : decode prog_17_method_10_code 16 = .ok (.aload_n 0, 1) := by decide +kernel
theorem d10_17 : decode prog_17_method_10_code 17 = .ok (.getfield 7, 3) := by decide +kernel
theorem d10_20 : decode prog_17_method_10_code 20 = .ok (.iload_n 1, 1) := by decide +kernel
theorem d10_21 : decode prog_17_method_10_code 21 = .ok (.daload, 1) := by decide +kernel
theorem d10_22 : decode prog_17_method_10_code 22 = .ok (.aload_n 0, 1) := by decide +kernel
theorem d10_23 : decode prog_17_method_10_code 23 = .ok (.getfield 7, 3) := by decide +kernel
theorem d10_26 : decode prog_17_method_10_code 26 = .ok (.iload_n 2, 1) := by decide +kernel
theorem d10_27 : decode prog_17_method_10_code 27 = .ok (.daload, 1) := by decide +kernel
theorem d10_28 : decode prog_17_method_10_code 28 = .ok (.dcmp .l, 1) := by decide +kernel
theorem d10_29 : decode prog_17_method_10_code 29 = .ok (.ifCond .ne 12, 3) := by decide +kernel
theorem d10_32 : decode prog_17_method_10_code 32 = .ok (.iload_n 1, 1) := by decide +kernel
theorem d10_33 : decode prog_17_method_10_code 33 = .ok (.iload_n 2, 1) := by decide +kernel
theorem d10_34 : decode prog_17_method_10_code 34 = .ok (.if_icmp .ge 7, 3) := by decide +kernel
theorem d10_37 : decode prog_17_method_10_code 37 = .ok (.iconst 1, 1) := by decide +kernel
theorem d10_38 : decode prog_17_method_10_code 38 = .ok (.goto 4, 3) := by decide +kernel
theorem d10_41 : decode prog_17_method_10_code 41 = .ok (.iconst 0, 1) := by decide +kernel
theorem d10_42 : decode prog_17_method_10_code 42 = .ok (.ireturn, 1) := by decide +kernel
theorem pn_0 : plainName "com/example/covermesh/covermesh/algorithms/IndexedMinHeap" = true := by first | (simp [plainName, overriddenIn]; done) | decide +kernel
theorem ef_rmLe (m : MethodId) (a1 : Addr) (x : Int32) (y : Int32) : entryFrame m #[(.ref a1), (.int x), (.int y)] 3 = mkF m 0 #[.val (.ref a1), .val (.int x), .val (.int y)] [] := by first | (simp [entryFrame, mkF, argsToLocals, Value.category]; done) | rfl
def QLe (Z : State) (a1 : Addr) (x : Int32) (y : Int32) (aK : Addr) (kk : ClassId) (kf : Int32 → UInt64) (h0 : Heap) (n0 : Nat) (v : Option Value) (h : Heap) (L : List Loc) : Prop := v = some (.int (own_less kf x y)) ∧ Fr n0 L ∧ h = h0
set_option maxRecDepth 65536 in
set_option maxHeartbeats 40000000 in
theorem rmLe (l : Launch) (Z : State) (a0 : Array Value) (hw : ∀ d ∈ tables_1, d.before a0 Z = true) (ws : List Jvm.Cond) (a1 : Addr) (x : Int32) (y : Int32) (aK : Addr) (kk : ClassId) (kf : Int32 → UInt64) (h0 : Heap) (n0 : Nat) (Z0 : n0 ≤ h0.size) (FK : Fld Z h0 a1 "com/example/covermesh/covermesh/algorithms/IndexedMinHeap" "keys" "[D" (.ref aK)) (VK : Arv Z h0 aK kk .double 3 (own_d kf) (.double (0 : UInt64))) (Rx : own_R x) (Ry : own_R y) :
    MetFree l mN_5 (head1 (Jvm.Cond.code mN_5 prog_17_method_10_code 3 (some .boolean) :: ws) rO_0) (fun a U => a = #[(.ref a1), (.int x), (.int y)] ∧ Z.Warmed39 U.vm ∧ U.heap = h0) (fun _ _ _ _ _ => True) (fun _ U o U' => ∃ v L, o = .returned v ∧ QLe Z a1 x y aK kk kf h0 n0 v U'.heap L ∧ FrameEnd U o U' L rO_0.cells rO_0.slots) := by
  refine MetFree.of_bodySF (plainFor_of_name pn_0) hisR ?_
  intro p e s m args below meth c s₁ Bd hml0 hP hK
  obtain ⟨rfl, hZ, hh⟩ := hP
  have hx := Bd.exec
  have hby := Bd.bytes
  have hml : c.maxLocals = 3 := hml0
  have hown : s.vm.findClass "com/example/covermesh/covermesh/algorithms/IndexedMinHeap" = some m.cls := findClass_of_methodNamed Bd.named
  have hnm := (name_of_methodNamed Bd.named Bd.method).1
  have X0 : Stand p l e rO_0 s m #[(.ref a1), (.int x), (.int y)] below meth c s₁ [] 0 0 := Stand.of_body Bd
  have e0 : s₁.heap = h0 := by rw [← hh, Bd.state]; rfl
  have N0 := Fr.nil n0
  have K0 := Keep.refl h0 []
  have go0 : Goes p e below s₁ (entryFrame m #[(.ref a1), (.int x), (.int y)] 3) s₁ (mkF m 0 #[.val (.ref a1), .val (.int x), .val (.int y)] []) := fun t k => castTop (ef_rmLe m a1 x y) k
  have go1 : Goes p e below s₁ (entryFrame m #[(.ref a1), (.int x), (.int y)] 3) s₁ (mkF m 1 #[.val (.ref a1), .val (.int x), .val (.int y)] [(.ref a1)]) := fun t k => by
    refine go0 t ?_
    refine XS.aloadN X0.here hx rfl (hb hby d10_0) rfl rfl ?_
    exact k
  obtain ⟨T2, X2, e2, st2⟩ := getF X0 hx hZ hown (host := "") (Or.inl (own_wd hw 10 rfl)) Via.refl e0 FK (g := (mkF m 1 #[.val (.ref a1), .val (.int x), .val (.int y)] [(.ref a1)])) rfl rfl (hb hby d10_1)
  have go3 : Goes p e below s₁ (entryFrame m #[(.ref a1), (.int x), (.int y)] 3) T2 (mkF m 4 #[.val (.ref a1), .val (.int x), .val (.int y)] [(.ref aK)]) := fun t k => go1 t (st2 t k)
  have go4 : Goes p e below s₁ (entryFrame m #[(.ref a1), (.int x), (.int y)] 3) T2 (mkF m 5 #[.val (.ref a1), .val (.int x), .val (.int y)] [(.int x), (.ref aK)]) := fun t k => by
    refine go3 t ?_
    refine XS.iloadN X2.here hx rfl (hb hby d10_4) rfl ?_
    exact k
  obtain ⟨cl5, Ar5, kq5, Sz5, Nn5, Hs5, Gf5⟩ := id (VK)
  have hin5 : ¬ (x < 0 ∨ cl5.slots.size ≤ (x).toNatClampNeg) := inb_of Sz5 (own_inb Rx)
  have hat5 : cl5.slots[(x).toNatClampNeg]? = some (.double (kf x)) := Has.at Hs5 hin5 (own_d_at Rx)
  have go6 : Goes p e below s₁ (entryFrame m #[(.ref a1), (.int x), (.int y)] 3) T2 (mkF m 7 #[.val (.ref a1), .val (.int x), .val (.int y)] [(.ref a1), (.double (kf x))]) := fun t k => by
    refine go4 t ?_
    refine X2.daload hx (j := x) (v := (.double (kf x))) (own_hp e2 Ar5.1) (State.isArrayOf_alike hZ.alike Ar5.2.1) Ar5.2.2 hin5 hat5 (g := (mkF m 5 #[.val (.ref a1), .val (.int x), .val (.int y)] [(.int x), (.ref aK)])) rfl rfl (hb hby d10_5) _ ?_
    refine XS.aloadN X2.here hx rfl (hb hby d10_6) rfl rfl ?_
    exact k
  obtain ⟨T7, X7, e7, st7⟩ := getF X2 hx hZ hown (host := "") (Or.inl (own_wd hw 10 rfl)) Via.refl e2 FK (g := (mkF m 7 #[.val (.ref a1), .val (.int x), .val (.int y)] [(.ref a1), (.double (kf x))])) rfl rfl (hb hby d10_7)
  have go8 : Goes p e below s₁ (entryFrame m #[(.ref a1), (.int x), (.int y)] 3) T7 (mkF m 10 #[.val (.ref a1), .val (.int x), .val (.int y)] [(.ref aK), (.double (kf x))]) := fun t k => go6 t (st7 t k)
  have go9 : Goes p e below s₁ (entryFrame m #[(.ref a1), (.int x), (.int y)] 3) T7 (mkF m 11 #[.val (.ref a1), .val (.int x), .val (.int y)] [(.int y), (.ref aK), (.double (kf x))]) := fun t k => by
    refine go8 t ?_
    refine XS.iloadN X7.here hx rfl (hb hby d10_10) rfl ?_
    exact k
  obtain ⟨cl10, Ar10, kq10, Sz10, Nn10, Hs10, Gf10⟩ := id (VK)
  have hin10 : ¬ (y < 0 ∨ cl10.slots.size ≤ (y).toNatClampNeg) := inb_of Sz10 (own_inb Ry)
  have hat10 : cl10.slots[(y).toNatClampNeg]? = some (.double (kf y)) := Has.at Hs10 hin10 (own_d_at Ry)
  have go11 : Goes p e below s₁ (entryFrame m #[(.ref a1), (.int x), (.int y)] 3) T7 (mkF m 13 #[.val (.ref a1), .val (.int x), .val (.int y)] [(.int (cmpValue (FP.dcmp (kf x) (kf y)) .g))]) := fun t k => by
    refine go9 t ?_
    refine X7.daload hx (j := y) (v := (.double (kf y))) (own_hp e7 Ar10.1) (State.isArrayOf_alike hZ.alike Ar10.2.1) Ar10.2.2 hin10 hat10 (g := (mkF m 11 #[.val (.ref a1), .val (.int x), .val (.int y)] [(.int y), (.ref aK), (.double (kf x))])) rfl rfl (hb hby d10_11) _ ?_
    refine XS.dcmpS X7.here hx rfl (hb hby d10_12) rfl rfl ?_
    exact k
  by_cases hc12 : (cmpValue (FP.dcmp (kf x) (kf y)) .g) < (0 : Int32)
  · have go13 : Goes p e below s₁ (entryFrame m #[(.ref a1), (.int x), (.int y)] 3) T7 (mkF m 42 #[.val (.ref a1), .val (.int x), .val (.int y)] [(.int (1 : Int32))]) := fun t k => by
      refine go11 t ?_
      refine XS.ifYes X7.here hx rfl (pc0 := 13) (pc' := 37) rfl (hb hby d10_13) rfl (Jvm.Free.XT.i0_lt_t hc12) (by decide) (by decide) ?_
      refine XS.iconst X7.here hx rfl (hb hby d10_37) ?_
      refine XS.goto X7.here hx rfl (pc0 := 38) (pc' := 42) rfl (hb hby d10_38) (by decide) (by decide) ?_
      exact k
    obtain ⟨fs, hr, hrun, hended, hW, hsame⟩ := X7.leave (v := some (.int (1 : Int32))) (fun h => by rw [Bd.returns] at h; cases h)
    refine ⟨_, _, go13 _ ?_, hrun, hended, _, _, rfl, ?_, ⟨_, rfl⟩, hW, hsame.mono (by decide) (by decide)⟩
    · exact retN X7 hx (t := .boolean) Bd.returns (by simp) (hb hby d10_42) hr
    · show QLe Z _ _ _ _ _ _ _ _ _ T7.heap _
      rw [e7]
      exact ⟨by simp [own_less, hc12], N0, rfl⟩
  · have go14 : Goes p e below s₁ (entryFrame m #[(.ref a1), (.int x), (.int y)] 3) T7 (mkF m 17 #[.val (.ref a1), .val (.int x), .val (.int y)] [(.ref a1)]) := fun t k => by
      refine go11 t ?_
      refine XS.ifNo X7.here hx rfl (hb hby d10_13) rfl (Jvm.Free.XT.i0_lt_f hc12) ?_
      refine XS.aloadN X7.here hx rfl (hb hby d10_16) rfl rfl ?_
      exact k
    obtain ⟨T15, X15, e15, st15⟩ := getF X7 hx hZ hown (host := "") (Or.inl (own_wd hw 10 rfl)) Via.refl e7 FK (g := (mkF m 17 #[.val (.ref a1), .val (.int x), .val (.int y)] [(.ref a1)])) rfl rfl (hb hby d10_17)
    have go16 : Goes p e below s₁ (entryFrame m #[(.ref a1), (.int x), (.int y)] 3) T15 (mkF m 20 #[.val (.ref a1), .val (.int x), .val (.int y)] [(.ref aK)]) := fun t k => go14 t (st15 t k)
    have go17 : Goes p e below s₁ (entryFrame m #[(.ref a1), (.int x), (.int y)] 3) T15 (mkF m 21 #[.val (.ref a1), .val (.int x), .val (.int y)] [(.int x), (.ref aK)]) := fun t k => by
      refine go16 t ?_
      refine XS.iloadN X15.here hx rfl (hb hby d10_20) rfl ?_
      exact k
    obtain ⟨cl18, Ar18, kq18, Sz18, Nn18, Hs18, Gf18⟩ := id (VK)
    have hin18 : ¬ (x < 0 ∨ cl18.slots.size ≤ (x).toNatClampNeg) := inb_of Sz18 (own_inb Rx)
    have hat18 : cl18.slots[(x).toNatClampNeg]? = some (.double (kf x)) := Has.at Hs18 hin18 (own_d_at Rx)
    have go19 : Goes p e below s₁ (entryFrame m #[(.ref a1), (.int x), (.int y)] 3) T15 (mkF m 23 #[.val (.ref a1), .val (.int x), .val (.int y)] [(.ref a1), (.double (kf x))]) := fun t k => by
      refine go17 t ?_
      refine X15.daload hx (j := x) (v := (.double (kf x))) (own_hp e15 Ar18.1) (State.isArrayOf_alike hZ.alike Ar18.2.1) Ar18.2.2 hin18 hat18 (g := (mkF m 21 #[.val (.ref a1), .val (.int x), .val (.int y)] [(.int x), (.ref aK)])) rfl rfl (hb hby d10_21) _ ?_
      refine XS.aloadN X15.here hx rfl (hb hby d10_22) rfl rfl ?_
      exact k
    obtain ⟨T20, X20, e20, st20⟩ := getF X15 hx hZ hown (host := "") (Or.inl (own_wd hw 10 rfl)) Via.refl e15 FK (g := (mkF m 23 #[.val (.ref a1), .val (.int x), .val (.int y)] [(.ref a1), (.double (kf x))])) rfl rfl (hb hby d10_23)
    have go21 : Goes p e below s₁ (entryFrame m #[(.ref a1), (.int x), (.int y)] 3) T20 (mkF m 26 #[.val (.ref a1), .val (.int x), .val (.int y)] [(.ref aK), (.double (kf x))]) := fun t k => go19 t (st20 t k)
    have go22 : Goes p e below s₁ (entryFrame m #[(.ref a1), (.int x), (.int y)] 3) T20 (mkF m 27 #[.val (.ref a1), .val (.int x), .val (.int y)] [(.int y), (.ref aK), (.double (kf x))]) := fun t k => by
      refine go21 t ?_
      refine XS.iloadN X20.here hx rfl (hb hby d10_26) rfl ?_
      exact k
    obtain ⟨cl23, Ar23, kq23, Sz23, Nn23, Hs23, Gf23⟩ := id (VK)
    have hin23 : ¬ (y < 0 ∨ cl23.slots.size ≤ (y).toNatClampNeg) := inb_of Sz23 (own_inb Ry)
    have hat23 : cl23.slots[(y).toNatClampNeg]? = some (.double (kf y)) := Has.at Hs23 hin23 (own_d_at Ry)
    have go24 : Goes p e below s₁ (entryFrame m #[(.ref a1), (.int x), (.int y)] 3) T20 (mkF m 29 #[.val (.ref a1), .val (.int x), .val (.int y)] [(.int (cmpValue (FP.dcmp (kf x) (kf y)) .l))]) := fun t k => by
      refine go22 t ?_
      refine X20.daload hx (j := y) (v := (.double (kf y))) (own_hp e20 Ar23.1) (State.isArrayOf_alike hZ.alike Ar23.2.1) Ar23.2.2 hin23 hat23 (g := (mkF m 27 #[.val (.ref a1), .val (.int x), .val (.int y)] [(.int y), (.ref aK), (.double (kf x))])) rfl rfl (hb hby d10_27) _ ?_
      refine XS.dcmpS X20.here hx rfl (hb hby d10_28) rfl rfl ?_
      exact k
    by_cases hc25 : (cmpValue (FP.dcmp (kf x) (kf y)) .l) = (0 : Int32)
    · have go26 : Goes p e below s₁ (entryFrame m #[(.ref a1), (.int x), (.int y)] 3) T20 (mkF m 34 #[.val (.ref a1), .val (.int x), .val (.int y)] [(.int y), (.int x)]) := fun t k => by
        refine go24 t ?_
        refine XS.ifNo X20.here hx rfl (hb hby d10_29) rfl (Jvm.Free.XT.i0_ne_f hc25) ?_
        refine XS.iloadN X20.here hx rfl (hb hby d10_32) rfl ?_
        refine XS.iloadN X20.here hx rfl (hb hby d10_33) rfl ?_
        exact k
      by_cases hc27 : x < y
      · have go28 : Goes p e below s₁ (entryFrame m #[(.ref a1), (.int x), (.int y)] 3) T20 (mkF m 42 #[.val (.ref a1), .val (.int x), .val (.int y)] [(.int (1 : Int32))]) := fun t k => by
          refine go26 t ?_
          refine XS.icmpNo X20.here hx rfl (hb hby d10_34) rfl (Jvm.Free.XT.ii_ge_f hc27) ?_
          refine XS.iconst X20.here hx rfl (hb hby d10_37) ?_
          refine XS.goto X20.here hx rfl (pc0 := 38) (pc' := 42) rfl (hb hby d10_38) (by decide) (by decide) ?_
          exact k
        obtain ⟨fs, hr, hrun, hended, hW, hsame⟩ := X20.leave (v := some (.int (1 : Int32))) (fun h => by rw [Bd.returns] at h; cases h)
        refine ⟨_, _, go28 _ ?_, hrun, hended, _, _, rfl, ?_, ⟨_, rfl⟩, hW, hsame.mono (by decide) (by decide)⟩
        · exact retN X20 hx (t := .boolean) Bd.returns (by simp) (hb hby d10_42) hr
        · show QLe Z _ _ _ _ _ _ _ _ _ T20.heap _
          rw [e20]
          exact ⟨by simp [own_less, hc12, hc25, hc27], N0, rfl⟩
      · have go29 : Goes p e below s₁ (entryFrame m #[(.ref a1), (.int x), (.int y)] 3) T20 (mkF m 42 #[.val (.ref a1), .val (.int x), .val (.int y)] [(.int (0 : Int32))]) := fun t k => by
          refine go26 t ?_
          refine XS.icmpYes X20.here hx rfl (pc0 := 34) (pc' := 41) rfl (hb hby d10_34) rfl (Jvm.Free.XT.ii_ge_t hc27) (by decide) (by decide) ?_
          refine XS.iconst X20.here hx rfl (hb hby d10_41) ?_
          exact k
        obtain ⟨fs, hr, hrun, hended, hW, hsame⟩ := X20.leave (v := some (.int (0 : Int32))) (fun h => by rw [Bd.returns] at h; cases h)
        refine ⟨_, _, go29 _ ?_, hrun, hended, _, _, rfl, ?_, ⟨_, rfl⟩, hW, hsame.mono (by decide) (by decide)⟩
        · exact retN X20 hx (t := .boolean) Bd.returns (by simp) (hb hby d10_42) hr
        · show QLe Z _ _ _ _ _ _ _ _ _ T20.heap _
          rw [e20]
          exact ⟨by simp [own_less, hc12, hc25, hc27], N0, rfl⟩
    · have go30 : Goes p e below s₁ (entryFrame m #[(.ref a1), (.int x), (.int y)] 3) T20 (mkF m 42 #[.val (.ref a1), .val (.int x), .val (.int y)] [(.int (0 : Int32))]) := fun t k => by
        refine go24 t ?_
        refine XS.ifYes X20.here hx rfl (pc0 := 29) (pc' := 41) rfl (hb hby d10_29) rfl (Jvm.Free.XT.i0_ne_t hc25) (by decide) (by decide) ?_
        refine XS.iconst X20.here hx rfl (hb hby d10_41) ?_
        exact k
      obtain ⟨fs, hr, hrun, hended, hW, hsame⟩ := X20.leave (v := some (.int (0 : Int32))) (fun h => by rw [Bd.returns] at h; cases h)
      refine ⟨_, _, go30 _ ?_, hrun, hended, _, _, rfl, ?_, ⟨_, rfl⟩, hW, hsame.mono (by decide) (by decide)⟩
      · exact retN X20 hx (t := .boolean) Bd.returns (by simp) (hb hby d10_42) hr
      · show QLe Z _ _ _ _ _ _ _ _ _ T20.heap _
        rw [e20]
        exact ⟨by simp [own_less, hc12, hc25], N0, rfl⟩
theorem d6_0 : decode prog_17_method_9_code 0 = .ok (.aload_n 0, 1) := by decide +kernel
theorem d6_1 : decode prog_17_method_9_code 1 = .ok (.getfield 13, 3) := by decide +kernel
theorem d6_4 : decode prog_17_method_9_code 4 = .ok (.iload_n 2, 1) := by decide +kernel
theorem d6_5 : decode prog_17_method_9_code 5 = .ok (.iload_n 1, 1) := by decide +kernel
theorem d6_6 : decode prog_17_method_9_code 6 = .ok (.iastore, 1) := by decide +kernel
theorem d6_7 : decode prog_17_method_9_code 7 = .ok (.aload_n 0, 1) := by decide +kernel
theorem d6_8 : decode prog_17_method_9_code 8 = .ok (.getfield 17, 3) := by decide +kernel
theorem d6_11 : decode prog_17_method_9_code 11 = .ok (.iload_n 1, 1) := by decide +kernel
theorem d6_12 : decode prog_17_method_9_code 12 = .ok (.iload_n 2, 1) := by decide +kernel
theorem d6_13 : decode prog_17_method_9_code 13 = .ok (.iastore, 1) := by decide +kernel
theorem d6_14 : decode prog_17_method_9_code 14 = .ok (.return_, 1) := by decide +kernel
theorem ef_rmMv (m : MethodId) (a1 : Addr) (it : Int32) (ix : Int32) : entryFrame m #[(.ref a1), (.int it), (.int ix)] 3 = mkF m 0 #[.val (.ref a1), .val (.int it), .val (.int ix)] [] := by first | (simp [entryFrame, mkF, argsToLocals, Value.category]; done) | rfl
def QMv (Z : State) (a1 : Addr) (it : Int32) (ix : Int32) (aI aP : Addr) (ki kp : ClassId) (σ : own_P) (h0 : Heap) (n0 : Nat) (v : Option Value) (h : Heap) (L : List Loc) : Prop := v = none ∧ Fr n0 L ∧ Keep h0 h [aI, aP] ∧ Arv Z h aI ki .int 3 (own_l (own_mv σ it ix).1) (.int (0 : Int32)) ∧ Arv Z h aP kp .int 3 (own_l (own_mv σ it ix).2) (.int (0 : Int32))
set_option maxRecDepth 65536 in
set_option maxHeartbeats 40000000 in
theorem rmMv (l : Launch) (Z : State) (a0 : Array Value) (hw : ∀ d ∈ tables_1, d.before a0 Z = true) (ws : List Jvm.Cond) (a1 : Addr) (it : Int32) (ix : Int32) (aI aP : Addr) (ki kp : ClassId) (σ : own_P) (h0 : Heap) (n0 : Nat) (Z0 : n0 ≤ h0.size) (FI : Fld Z h0 a1 "com/example/covermesh/covermesh/algorithms/IndexedMinHeap" "items" "[I" (.ref aI)) (FP : Fld Z h0 a1 "com/example/covermesh/covermesh/algorithms/IndexedMinHeap" "positions" "[I" (.ref aP)) (VI : Arv Z h0 aI ki .int 3 (own_l σ.1) (.int (0 : Int32))) (VP : Arv Z h0 aP kp .int 3 (own_l σ.2) (.int (0 : Int32))) (nIP : aI ≠ aP) (gI : n0 ≤ aI) (gP : n0 ≤ aP) (Rt : own_R it) (Rx : own_R ix) (nAI : a1 ≠ aI) (nAP : a1 ≠ aP) :
    MetFree l mN_1 (head1 (Jvm.Cond.code mN_1 prog_17_method_9_code 3 none :: ws) rO_0) (fun a U => a = #[(.ref a1), (.int it), (.int ix)] ∧ Z.Warmed39 U.vm ∧ U.heap = h0) (fun _ _ _ _ _ => True) (fun _ U o U' => ∃ v L, o = .returned v ∧ QMv Z a1 it ix aI aP ki kp σ h0 n0 v U'.heap L ∧ FrameEnd U o U' L rO_0.cells rO_0.slots) := by
  refine MetFree.of_bodySF (plainFor_of_name pn_0) hisR ?_
  intro p e s m args below meth c s₁ Bd hml0 hP hK
  obtain ⟨rfl, hZ, hh⟩ := hP
  have hx := Bd.exec
  have hby := Bd.bytes
  have hml : c.maxLocals = 3 := hml0
  have hown : s.vm.findClass "com/example/covermesh/covermesh/algorithms/IndexedMinHeap" = some m.cls := findClass_of_methodNamed Bd.named
  have hnm := (name_of_methodNamed Bd.named Bd.method).1
  have X0 : Stand p l e rO_0 s m #[(.ref a1), (.int it), (.int ix)] below meth c s₁ [] 0 0 := Stand.of_body Bd
  have e0 : s₁.heap = h0 := by rw [← hh, Bd.state]; rfl
  have N0 := Fr.nil n0
  have K0 := Keep.refl h0 [aI, aP]
  have go0 : Goes p e below s₁ (entryFrame m #[(.ref a1), (.int it), (.int ix)] 3) s₁ (mkF m 0 #[.val (.ref a1), .val (.int it), .val (.int ix)] []) := fun t k => castTop (ef_rmMv m a1 it ix) k
  have go1 : Goes p e below s₁ (entryFrame m #[(.ref a1), (.int it), (.int ix)] 3) s₁ (mkF m 1 #[.val (.ref a1), .val (.int it), .val (.int ix)] [(.ref a1)]) := fun t k => by
    refine go0 t ?_
    refine XS.aloadN X0.here hx rfl (hb hby d6_0) rfl rfl ?_
    exact k
  obtain ⟨T2, X2, e2, st2⟩ := getF X0 hx hZ hown (host := "") (Or.inl (own_wd hw 13 rfl)) Via.refl e0 FI (g := (mkF m 1 #[.val (.ref a1), .val (.int it), .val (.int ix)] [(.ref a1)])) rfl rfl (hb hby d6_1)
  have go3 : Goes p e below s₁ (entryFrame m #[(.ref a1), (.int it), (.int ix)] 3) T2 (mkF m 4 #[.val (.ref a1), .val (.int it), .val (.int ix)] [(.ref aI)]) := fun t k => go1 t (st2 t k)
  have go4 : Goes p e below s₁ (entryFrame m #[(.ref a1), (.int it), (.int ix)] 3) T2 (mkF m 6 #[.val (.ref a1), .val (.int it), .val (.int ix)] [(.int it), (.int ix), (.ref aI)]) := fun t k => by
    refine go3 t ?_
    refine XS.iloadN X2.here hx rfl (hb hby d6_4) rfl ?_
    refine XS.iloadN X2.here hx rfl (hb hby d6_5) rfl ?_
    exact k
  obtain ⟨cl5, Ar5, kq5, Sz5, Nn5, Hs5, Gf5⟩ := id (VI)
  have hin5 : ¬ (ix < 0 ∨ cl5.slots.size ≤ (ix).toNatClampNeg) := inb_of Sz5 (own_inb Rx)
  obtain ⟨T6, h6, X6, e6, W6, st6⟩ := stI X2 hx hZ e2 Ar5 (j := ix) hin5 (g := (mkF m 6 #[.val (.ref a1), .val (.int it), .val (.int ix)] [(.int it), (.int ix), (.ref aI)])) rfl rfl (hb hby d6_6)
  have V7 : Arv Z h6 aI ki .int 3 (own_l (own_u σ.1 ix it)) (.int (0 : Int32)) := by rw [← own_l_set Rx]; exact Arv.set Ar5 kq5 Sz5 Nn5 Hs5 Gf5 rfl W6 _ rfl (own_l_len Rx)
  have f8 := FI.other W6 (Or.inl nAI)
  have f9 := FP.other W6 (Or.inl nAI)
  have f10 := VP.other W6 (Ne.symm nIP)
  have Z11 := Nat.le_trans Z0 (Nat.le_of_eq W6.size.symm)
  have K12 := K0.wr W6 (Or.inl (List.mem_of_getElem? (i := 0) rfl))
  have N13 := Fr.snoc X6 N0 gI
  have go14 : Goes p e below s₁ (entryFrame m #[(.ref a1), (.int it), (.int ix)] 3) T6 (mkF m 7 #[.val (.ref a1), .val (.int it), .val (.int ix)] []) := fun t k => go4 t (st6 t k)
  have go15 : Goes p e below s₁ (entryFrame m #[(.ref a1), (.int it), (.int ix)] 3) T6 (mkF m 8 #[.val (.ref a1), .val (.int it), .val (.int ix)] [(.ref a1)]) := fun t k => by
    refine go14 t ?_
    refine XS.aloadN X6.here hx rfl (hb hby d6_7) rfl rfl ?_
    exact k
  obtain ⟨T16, X16, e16, st16⟩ := getF X6 hx hZ hown (host := "") (Or.inl (own_wd hw 15 rfl)) Via.refl e6 f9 (g := (mkF m 8 #[.val (.ref a1), .val (.int it), .val (.int ix)] [(.ref a1)])) rfl rfl (hb hby d6_8)
  have go17 : Goes p e below s₁ (entryFrame m #[(.ref a1), (.int it), (.int ix)] 3) T16 (mkF m 11 #[.val (.ref a1), .val (.int it), .val (.int ix)] [(.ref aP)]) := fun t k => go15 t (st16 t k)
  have go18 : Goes p e below s₁ (entryFrame m #[(.ref a1), (.int it), (.int ix)] 3) T16 (mkF m 13 #[.val (.ref a1), .val (.int it), .val (.int ix)] [(.int ix), (.int it), (.ref aP)]) := fun t k => by
    refine go17 t ?_
    refine XS.iloadN X16.here hx rfl (hb hby d6_11) rfl ?_
    refine XS.iloadN X16.here hx rfl (hb hby d6_12) rfl ?_
    exact k
  obtain ⟨cl19, Ar19, kq19, Sz19, Nn19, Hs19, Gf19⟩ := id (f10)
  have hin19 : ¬ (it < 0 ∨ cl19.slots.size ≤ (it).toNatClampNeg) := inb_of Sz19 (own_inb Rt)
  obtain ⟨T20, h20, X20, e20, W20, st20⟩ := stI X16 hx hZ e16 Ar19 (j := it) hin19 (g := (mkF m 13 #[.val (.ref a1), .val (.int it), .val (.int ix)] [(.int ix), (.int it), (.ref aP)])) rfl rfl (hb hby d6_13)
  have V21 : Arv Z h20 aP kp .int 3 (own_l (own_u σ.2 it ix)) (.int (0 : Int32)) := by rw [← own_l_set Rt]; exact Arv.set Ar19 kq19 Sz19 Nn19 Hs19 Gf19 rfl W20 _ rfl (own_l_len Rt)
  have f22 := f8.other W20 (Or.inl nAP)
  have f23 := f9.other W20 (Or.inl nAP)
  have f24 := V7.other W20 nIP
  have Z25 := Nat.le_trans Z11 (Nat.le_of_eq W20.size.symm)
  have K26 := K12.wr W20 (Or.inl (List.mem_of_getElem? (i := 1) rfl))
  have N27 := Fr.snoc X20 N13 gP
  have go28 : Goes p e below s₁ (entryFrame m #[(.ref a1), (.int it), (.int ix)] 3) T20 (mkF m 14 #[.val (.ref a1), .val (.int it), .val (.int ix)] []) := fun t k => go18 t (st20 t k)
  obtain ⟨fs, hr, hrun, hended, hW, hsame⟩ := X20.leave (v := none) (fun _ => rfl)
  refine ⟨_, _, go28 _ ?_, hrun, hended, _, _, rfl, ?_, ⟨_, rfl⟩, hW, hsame.mono (by decide) (by decide)⟩
  · exact X20.returnOut hx Bd.returns (hb hby d6_14) hr
  · show QMv Z _ _ _ _ _ _ _ _ _ _ _ T20.heap _
    rw [e20]
    exact ⟨rfl, N27, K26, f24, V21⟩
theorem pd_0 : parseMethodDescriptor "(II)V" = some ⟨[.int, .int], none⟩ := by decide +kernel
theorem d5_0 : decode prog_17_method_7_code 0 = .ok (.aload_n 0, 1) := by decide +kernel
theorem d5_1 : decode prog_17_method_7_code 1 = .ok (.getfield 13, 3) := by decide +kernel
theorem d5_4 : decode prog_17_method_7_code 4 = .ok (.iload_n 1, 1) := by decide +kernel
theorem d5_5 : decode prog_17_method_7_code 5 = .ok (.iaload, 1) := by decide +kernel
theorem d5_6 : decode prog_17_method_7_code 6 = .ok (.istore_n 2, 1) := by decide +kernel
theorem d5_7 : decode prog_17_method_7_code 7 = .ok (.iload_n 1, 1) := by decide +kernel
theorem d5_8 : decode prog_17_method_7_code 8 = .ok (.ifCond .le 43, 3) := by decide +kernel
theorem d5_11 : decode prog_17_method_7_code 11 = .ok (.aload_n 0, 1) := by decide +kernel
theorem d5_12 : decode prog_17_method_7_code 12 = .ok (.iload_n 2, 1) := by decide +kernel
theorem d5_13 : decode prog_17_method_7_code 13 = .ok (.aload_n 0, 1) := by decide +kernel
theorem d5_14 : decode prog_17_method_7_code 14 = .ok (.getfield 13, 3) := by decide +kernel
theorem d5_17 : decode prog_17_method_7_code 17 = .ok (.iload_n 1, 1) := by decide +kernel
theorem d5_18 : decode prog_17_method_7_code 18 = .ok (.iconst 1, 1) := by decide +kernel
theorem d5_19 : decode prog_17_method_7_code 19 = .ok (.isub, 1) := by decide +kernel
theorem d5_20 : decode prog_17_method_7_code 20 = .ok (.iconst 2, 1) := by decide +kernel
theorem d5_21 : decode prog_17_method_7_code 21 = .ok (.idiv, 1) := by decide +kernel
theorem d5_22 : decode prog_17_method_7_code 22 = .ok (.iaload, 1) := by decide +kernel
theorem d5_23 : decode prog_17_method_7_code 23 = .ok (.invokevirtual 40, 3) := by decide +kernel
theorem d5_26 : decode prog_17_method_7_code 26 = .ok (.ifCond .eq 25, 3) := by decide +kernel
theorem d5_29 : decode prog_17_method_7_code 29 = .ok (.iload_n 1, 1) := by decide +kernel
theorem d5_30 : decode prog_17_method_7_code 30 = .ok (.iconst 1, 1) := by decide +kernel
theorem d5_31 : decode prog_17_method_7_code 31 = .ok (.isub, 1) := by decide +kernel
theorem d5_32 : decode prog_17_method_7_code 32 = .ok (.iconst 2, 1) := by decide +kernel
theorem d5_33 : decode prog_17_method_7_code 33 = .ok (.idiv, 1) := by decide +kernel
theorem d5_34 : decode prog_17_method_7_code 34 = .ok (.istore_n 3, 1) := by decide +kernel
theorem d5_35 : decode prog_17_method_7_code 35 = .ok (.aload_n 0, 1) := by decide +kernel
theorem d5_36 : decode prog_17_method_7_code 36 = .ok (.aload_n 0, 1) := by decide +kernel
theorem d5_37 : decode prog_17_method_7_code 37 = .ok (.getfield 13, 3) := by decide +kernel
theorem d5_40 : decode prog_17_method_7_code 40 = .ok (.iload_n 3, 1) := by decide +kernel
theorem d5_41 : decode prog_17_method_7_code 41 = .ok (.iaload, 1) := by decide +kernel
theorem d5_42 : decode prog_17_method_7_code 42 = .ok (.iload_n 1, 1) := by decide +kernel
theorem d5_43 : decode prog_17_method_7_code 43 = .ok (.invokevirtual 44, 3) := by decide +kernel
theorem d5_46 : decode prog_17_method_7_code 46 = .ok (.iload_n 3, 1) := by decide +kernel
theorem d5_47 : decode prog_17_method_7_code 47 = .ok (.istore_n 1, 1) := by decide +kernel
theorem d5_48 : decode prog_17_method_7_code 48 = .ok (.goto (-41), 3) := by decide +kernel
theorem d5_51 : decode prog_17_method_7_code 51 = .ok (.aload_n 0, 1) := by decide +kernel
theorem d5_52 : decode prog_17_method_7_code 52 = .ok (.iload_n 2, 1) := by decide +kernel
theorem d5_53 : decode prog_17_method_7_code 53 = .ok (.iload_n 1, 1) := by decide +kernel
theorem d5_54 : decode prog_17_method_7_code 54 = .ok (.invokevirtual 44, 3) := by decide +kernel
theorem d5_57 : decode prog_17_method_7_code 57 = .ok (.return_, 1) := by decide +kernel
theorem ef_rmU0 (m : MethodId) (a1 : Addr) : entryFrame m #[(.ref a1), (.int (0 : Int32))] 4 = mkF m 0 #[.val (.ref a1), .val (.int (0 : Int32)), .unset, .unset] [] := by first | (simp [entryFrame, mkF, argsToLocals, Value.category]; done) | rfl
def QU0 (Z : State) (a1 : Addr) (aK aI aP : Addr) (kk ki kp : ClassId) (kf : Int32 → UInt64) (σ : own_P) (sz : Int32) (h0 : Heap) (n0 : Nat) (v : Option Value) (h : Heap) (L : List Loc) : Prop := v = none ∧ Fr n0 L ∧ Keep h0 h [aI, aP] ∧ Arv Z h aI ki .int 3 (own_l (own_up kf σ (0 : Int32)).1) (.int (0 : Int32)) ∧ Arv Z h aP kp .int 3 (own_l (own_up kf σ (0 : Int32)).2) (.int (0 : Int32))
set_option maxRecDepth 65536 in
set_option maxHeartbeats 40000000 in
theorem rmU0 (l : Launch) (Z : State) (a0 : Array Value) (hw : ∀ d ∈ tables_1, d.before a0 Z = true) (ws : List Jvm.Cond) (a1 : Addr) (aK aI aP : Addr) (kk ki kp : ClassId) (kf : Int32 → UInt64) (σ : own_P) (sz : Int32) (h0 : Heap) (n0 : Nat) (Z0 : n0 ≤ h0.size) (E1 : Exa Z h0 a1 "com/example/covermesh/covermesh/algorithms/IndexedMinHeap") (FK : Fld Z h0 a1 "com/example/covermesh/covermesh/algorithms/IndexedMinHeap" "keys" "[D" (.ref aK)) (FI : Fld Z h0 a1 "com/example/covermesh/covermesh/algorithms/IndexedMinHeap" "items" "[I" (.ref aI)) (FP : Fld Z h0 a1 "com/example/covermesh/covermesh/algorithms/IndexedMinHeap" "positions" "[I" (.ref aP)) (FS : Fld Z h0 a1 "com/example/covermesh/covermesh/algorithms/IndexedMinHeap" "size" "I" (.int sz)) (VK : Arv Z h0 aK kk .double 3 (own_d kf) (.double (0 : UInt64))) (VI : Arv Z h0 aI ki .int 3 (own_l σ.1) (.int (0 : Int32))) (VP : Arv Z h0 aP kp .int 3 (own_l σ.2) (.int (0 : Int32))) (nKI : aK ≠ aI) (nKP : aK ≠ aP) (nIP : aI ≠ aP) (nAK : a1 ≠ aK) (nAI : a1 ≠ aI) (nAP : a1 ≠ aP) (gA : n0 ≤ a1) (gK : n0 ≤ aK) (gI : n0 ≤ aI) (gP : n0 ≤ aP) (Ri : own_R (σ.1 (0 : Int32))) :
    MetFree l mN_3 (head1 (Jvm.Cond.code mN_3 prog_17_method_7_code 4 none :: ws) rO_1) (fun a U => a = #[(.ref a1), (.int (0 : Int32))] ∧ Z.Warmed39 U.vm ∧ U.heap = h0) (fun _ _ _ _ _ => True) (fun _ U o U' => ∃ v L, o = .returned v ∧ QU0 Z a1 aK aI aP kk ki kp kf σ sz h0 n0 v U'.heap L ∧ FrameEnd U o U' L rO_1.cells rO_1.slots) := by
  refine MetFree.of_bodySF (plainFor_of_name pn_0) hisR ?_
  intro p e s m args below meth c s₁ Bd hml0 hP hK
  obtain ⟨rfl, hZ, hh⟩ := hP
  have hx := Bd.exec
  have hby := Bd.bytes
  have hml : c.maxLocals = 4 := hml0
  have hown : s.vm.findClass "com/example/covermesh/covermesh/algorithms/IndexedMinHeap" = some m.cls := findClass_of_methodNamed Bd.named
  have hnm := (name_of_methodNamed Bd.named Bd.method).1
  have X0 : Stand p l e rO_1 s m #[(.ref a1), (.int (0 : Int32))] below meth c s₁ [] 0 0 := Stand.of_body Bd
  have e0 : s₁.heap = h0 := by rw [← hh, Bd.state]; rfl
  have N0 := Fr.nil n0
  have K0 := Keep.refl h0 [aI, aP]
  have go0 : Goes p e below s₁ (entryFrame m #[(.ref a1), (.int (0 : Int32))] 4) s₁ (mkF m 0 #[.val (.ref a1), .val (.int (0 : Int32)), .unset, .unset] []) := fun t k => castTop (ef_rmU0 m a1) k
  have go1 : Goes p e below s₁ (entryFrame m #[(.ref a1), (.int (0 : Int32))] 4) s₁ (mkF m 1 #[.val (.ref a1), .val (.int (0 : Int32)), .unset, .unset] [(.ref a1)]) := fun t k => by
    refine go0 t ?_
    refine XS.aloadN X0.here hx rfl (hb hby d5_0) rfl rfl ?_
    exact k
  obtain ⟨T2, X2, e2, st2⟩ := getF X0 hx hZ hown (host := "") (Or.inl (own_wd hw 13 rfl)) Via.refl e0 FI (g := (mkF m 1 #[.val (.ref a1), .val (.int (0 : Int32)), .unset, .unset] [(.ref a1)])) rfl rfl (hb hby d5_1)
  have go3 : Goes p e below s₁ (entryFrame m #[(.ref a1), (.int (0 : Int32))] 4) T2 (mkF m 4 #[.val (.ref a1), .val (.int (0 : Int32)), .unset, .unset] [(.ref aI)]) := fun t k => go1 t (st2 t k)
  have go4 : Goes p e below s₁ (entryFrame m #[(.ref a1), (.int (0 : Int32))] 4) T2 (mkF m 5 #[.val (.ref a1), .val (.int (0 : Int32)), .unset, .unset] [(.int (0 : Int32)), (.ref aI)]) := fun t k => by
    refine go3 t ?_
    refine XS.iloadN X2.here hx rfl (hb hby d5_4) rfl ?_
    exact k
  obtain ⟨cl5, Ar5, kq5, Sz5, Nn5, Hs5, Gf5⟩ := id (VI)
  have hin5 : ¬ ((0 : Int32) < 0 ∨ cl5.slots.size ≤ ((0 : Int32)).toNatClampNeg) := inb_of Sz5 (own_inb own_R0)
  have hat5 : cl5.slots[((0 : Int32)).toNatClampNeg]? = some (.int (σ.1 (0 : Int32))) := Has.at Hs5 hin5 (own_l_at own_R0)
  have go6 : Goes p e below s₁ (entryFrame m #[(.ref a1), (.int (0 : Int32))] 4) T2 (mkF m 8 #[.val (.ref a1), .val (.int (0 : Int32)), .val (.int (σ.1 (0 : Int32))), .unset] [(.int (0 : Int32))]) := fun t k => by
    refine go4 t ?_
    refine X2.iaload hx (j := (0 : Int32)) (v := (.int (σ.1 (0 : Int32)))) (own_hp e2 Ar5.1) (State.isArrayOf_alike hZ.alike Ar5.2.1) Ar5.2.2 hin5 hat5 (g := (mkF m 5 #[.val (.ref a1), .val (.int (0 : Int32)), .unset, .unset] [(.int (0 : Int32)), (.ref aI)])) rfl rfl (hb hby d5_5) _ ?_
    refine XS.istoreN X2.here hx rfl (hb hby d5_6) rfl (l' := #[.val (.ref a1), .val (.int (0 : Int32)), .val (.int (σ.1 (0 : Int32))), .unset]) rfl ?_
    refine XS.iloadN X2.here hx rfl (hb hby d5_7) rfl ?_
    exact k
  have go7 : Goes p e below s₁ (entryFrame m #[(.ref a1), (.int (0 : Int32))] 4) T2 (mkF m 54 #[.val (.ref a1), .val (.int (0 : Int32)), .val (.int (σ.1 (0 : Int32))), .unset] [(.int (0 : Int32)), (.int (σ.1 (0 : Int32))), (.ref a1)]) := fun t k => by
    refine go6 t ?_
    refine XS.ifYes X2.here hx rfl (pc0 := 8) (pc' := 51) rfl (hb hby d5_8) rfl (Jvm.Free.XT.i0_le_t (by decide)) (by decide) (by decide) ?_
    refine XS.aloadN X2.here hx rfl (hb hby d5_51) rfl rfl ?_
    refine XS.iloadN X2.here hx rfl (hb hby d5_52) rfl ?_
    refine XS.iloadN X2.here hx rfl (hb hby d5_53) rfl ?_
    exact k
  obtain ⟨cq8, q8a, q8b⟩ := E1.cell
  obtain ⟨_, _, ⟨T8, L8, k8, n8⟩, -, X8, ⟨Lc8, hQ8, l8, y8, z8⟩, st8⟩ := X2.privateBack hx (y := mN_1) hown (mvT hZ (own_wd hw 33 rfl)) (mvT hZ (own_wd hw 34 rfl)) (own_selp (y := mN_1) (by decide) (mvT hZ (own_wd hw 1 rfl)) (mvP hZ (own_wd hw 35 rfl)) (mvT hZ (own_wd hw 34 rfl))) (Cond.privateMethod_at (mvP hZ (own_wd hw 35 rfl) (args := #[]))) (mvT hZ (own_wd hw 36 rfl)) (by decide) (backOf (W := 0) (rmMv l Z a0 hw [] a1 (σ.1 (0 : Int32)) (0 : Int32) aI aP ki kp σ h0 n0 Z0 FI FP VI VP nIP gI gP Ri own_R0 nAI nAP) hZ (own_wd hw 36 rfl) (own_wd hw 2 rfl) (by decide) (by decide)) (g := (mkF m 54 #[.val (.ref a1), .val (.int (0 : Int32)), .val (.int (σ.1 (0 : Int32))), .unset] [(.int (0 : Int32)), (.int (σ.1 (0 : Int32))), (.ref a1)])) rfl (by rw [hml]; rfl) (Steps.refl _) (a := a1) (by rw [e2]; exact q8a) q8b (argsL := [(.int (σ.1 (0 : Int32))), (.int (0 : Int32))]) (rest := []) (lenOf pd_0 rfl) rfl (by show 2 * 0 + _ ≤ _; exact Nat.le_of_eq rfl) (hb hby d5_54) (fun _ _ => ⟨rfl, e2, (by decide : 0 + 0 ≤ rO_1.cells), (by decide : 0 + 0 ≤ rO_1.slots)⟩)
  dsimp only [Pt.U, Pt.locs, Pt.cells, Pt.slots] at X8 l8 y8 z8 st8 hQ8
  subst l8 y8 z8
  obtain ⟨rfl, N8q, Kq8, VIq8, VPq8⟩ := hQ8
  have N8 := Fr.app N0 N8q
  have f9 := E1.keep Kq8
  have f10 := FK.keep Kq8 (ninS nAI (ninS nAP nin0))
  have f11 := FI.keep Kq8 (ninS nAI (ninS nAP nin0))
  have f12 := FP.keep Kq8 (ninS nAI (ninS nAP nin0))
  have f13 := FS.keep Kq8 (ninS nAI (ninS nAP nin0))
  have f14 := VK.keep Kq8 (ninS nKI (ninS nKP nin0))
  have Z15 := Nat.le_trans Z0 Kq8.1
  have K16 := K0.trans Kq8 (allS (Or.inl (List.mem_of_getElem? (i := 0) rfl)) (allS (Or.inl (List.mem_of_getElem? (i := 1) rfl)) all0))
  have go17 : Goes p e below s₁ (entryFrame m #[(.ref a1), (.int (0 : Int32))] 4) T8 (mkF m 57 #[.val (.ref a1), .val (.int (0 : Int32)), .val (.int (σ.1 (0 : Int32))), .unset] []) := fun t k => go7 t (st8.trans k)
  obtain ⟨fs, hr, hrun, hended, hW, hsame⟩ := X8.leave (v := none) (fun _ => rfl)
  have hup : own_up kf σ (0 : Int32) = (own_mv σ (σ.1 (0 : Int32)) (0 : Int32)) := if_pos (Or.inl rfl)
  refine ⟨_, _, go17 _ ?_, hrun, hended, _, _, rfl, ?_, ⟨_, rfl⟩, hW, hsame.mono (by decide) (by decide)⟩
  · exact X8.returnOut hx Bd.returns (hb hby d5_57) hr
  · show QU0 Z _ _ _ _ _ _ _ _ _ _ _ _ _ T8.heap _
    exact ⟨rfl, N8, K16, by rw [hup]; exact VIq8, by rw [hup]; exact VPq8⟩
theorem pd_1 : parseMethodDescriptor "(II)Z" = some ⟨[.int, .int], some .boolean⟩ := by decide +kernel
theorem ef_rmU1 (m : MethodId) (a1 : Addr) : entryFrame m #[(.ref a1), (.int (1 : Int32))] 4 = mkF m 0 #[.val (.ref a1), .val (.int (1 : Int32)), .unset, .unset] [] := by first | (simp [entryFrame, mkF, argsToLocals, Value.category]; done) | rfl
def QU1 (Z : State) (a1 : Addr) (aK aI aP : Addr) (kk ki kp : ClassId) (kf : Int32 → UInt64) (σ : own_P) (sz : Int32) (h0 : Heap) (n0 : Nat) (v : Option Value) (h : Heap) (L : List Loc) : Prop := v = none ∧ Fr n0 L ∧ Keep h0 h [aI, aP] ∧ Arv Z h aI ki .int 3 (own_l (own_up kf σ (1 : Int32)).1) (.int (0 : Int32)) ∧ Arv Z h aP kp .int 3 (own_l (own_up kf σ (1 : Int32)).2) (.int (0 : Int32))
set_option maxRecDepth 65536 in
set_option maxHeartbeats 40000000 in
theorem rmU1 (l : Launch) (Z : State) (a0 : Array Value) (hw : ∀ d ∈ tables_1, d.before a0 Z = true) (ws : List Jvm.Cond) (a1 : Addr) (aK aI aP : Addr) (kk ki kp : ClassId) (kf : Int32 → UInt64) (σ : own_P) (sz : Int32) (h0 : Heap) (n0 : Nat) (Z0 : n0 ≤ h0.size) (E1 : Exa Z h0 a1 "com/example/covermesh/covermesh/algorithms/IndexedMinHeap") (FK : Fld Z h0 a1 "com/example/covermesh/covermesh/algorithms/IndexedMinHeap" "keys" "[D" (.ref aK)) (FI : Fld Z h0 a1 "com/example/covermesh/covermesh/algorithms/IndexedMinHeap" "items" "[I" (.ref aI)) (FP : Fld Z h0 a1 "com/example/covermesh/covermesh/algorithms/IndexedMinHeap" "positions" "[I" (.ref aP)) (FS : Fld Z h0 a1 "com/example/covermesh/covermesh/algorithms/IndexedMinHeap" "size" "I" (.int sz)) (VK : Arv Z h0 aK kk .double 3 (own_d kf) (.double (0 : UInt64))) (VI : Arv Z h0 aI ki .int 3 (own_l σ.1) (.int (0 : Int32))) (VP : Arv Z h0 aP kp .int 3 (own_l σ.2) (.int (0 : Int32))) (nKI : aK ≠ aI) (nKP : aK ≠ aP) (nIP : aI ≠ aP) (nAK : a1 ≠ aK) (nAI : a1 ≠ aI) (nAP : a1 ≠ aP) (gA : n0 ≤ a1) (gK : n0 ≤ aK) (gI : n0 ≤ aI) (gP : n0 ≤ aP) (Ri : own_R (σ.1 (1 : Int32))) (R0 : own_R (σ.1 (0 : Int32))) :
    MetFree l mN_3 (head1 (Jvm.Cond.code mN_3 prog_17_method_7_code 4 none :: ws) rO_1) (fun a U => a = #[(.ref a1), (.int (1 : Int32))] ∧ Z.Warmed39 U.vm ∧ U.heap = h0) (fun _ _ _ _ _ => True) (fun _ U o U' => ∃ v L, o = .returned v ∧ QU1 Z a1 aK aI aP kk ki kp kf σ sz h0 n0 v U'.heap L ∧ FrameEnd U o U' L rO_1.cells rO_1.slots) := by
  refine MetFree.of_bodySF (plainFor_of_name pn_0) hisR ?_
  intro p e s m args below meth c s₁ Bd hml0 hP hK
  obtain ⟨rfl, hZ, hh⟩ := hP
  have hx := Bd.exec
  have hby := Bd.bytes
  have hml : c.maxLocals = 4 := hml0
  have hown : s.vm.findClass "com/example/covermesh/covermesh/algorithms/IndexedMinHeap" = some m.cls := findClass_of_methodNamed Bd.named
  have hnm := (name_of_methodNamed Bd.named Bd.method).1
  have X0 : Stand p l e rO_1 s m #[(.ref a1), (.int (1 : Int32))] below meth c s₁ [] 0 0 := Stand.of_body Bd
  have e0 : s₁.heap = h0 := by rw [← hh, Bd.state]; rfl
  have N0 := Fr.nil n0
  have K0 := Keep.refl h0 [aI, aP]
  have go0 : Goes p e below s₁ (entryFrame m #[(.ref a1), (.int (1 : Int32))] 4) s₁ (mkF m 0 #[.val (.ref a1), .val (.int (1 : Int32)), .unset, .unset] []) := fun t k => castTop (ef_rmU1 m a1) k
  have go1 : Goes p e below s₁ (entryFrame m #[(.ref a1), (.int (1 : Int32))] 4) s₁ (mkF m 1 #[.val (.ref a1), .val (.int (1 : Int32)), .unset, .unset] [(.ref a1)]) := fun t k => by
    refine go0 t ?_
    refine XS.aloadN X0.here hx rfl (hb hby d5_0) rfl rfl ?_
    exact k
  obtain ⟨T2, X2, e2, st2⟩ := getF X0 hx hZ hown (host := "") (Or.inl (own_wd hw 13 rfl)) Via.refl e0 FI (g := (mkF m 1 #[.val (.ref a1), .val (.int (1 : Int32)), .unset, .unset] [(.ref a1)])) rfl rfl (hb hby d5_1)
  have go3 : Goes p e below s₁ (entryFrame m #[(.ref a1), (.int (1 : Int32))] 4) T2 (mkF m 4 #[.val (.ref a1), .val (.int (1 : Int32)), .unset, .unset] [(.ref aI)]) := fun t k => go1 t (st2 t k)
  have go4 : Goes p e below s₁ (entryFrame m #[(.ref a1), (.int (1 : Int32))] 4) T2 (mkF m 5 #[.val (.ref a1), .val (.int (1 : Int32)), .unset, .unset] [(.int (1 : Int32)), (.ref aI)]) := fun t k => by
    refine go3 t ?_
    refine XS.iloadN X2.here hx rfl (hb hby d5_4) rfl ?_
    exact k
  obtain ⟨cl5, Ar5, kq5, Sz5, Nn5, Hs5, Gf5⟩ := id (VI)
  have hin5 : ¬ ((1 : Int32) < 0 ∨ cl5.slots.size ≤ ((1 : Int32)).toNatClampNeg) := inb_of Sz5 (own_inb own_R1)
  have hat5 : cl5.slots[((1 : Int32)).toNatClampNeg]? = some (.int (σ.1 (1 : Int32))) := Has.at Hs5 hin5 (own_l_at own_R1)
  have go6 : Goes p e below s₁ (entryFrame m #[(.ref a1), (.int (1 : Int32))] 4) T2 (mkF m 8 #[.val (.ref a1), .val (.int (1 : Int32)), .val (.int (σ.1 (1 : Int32))), .unset] [(.int (1 : Int32))]) := fun t k => by
    refine go4 t ?_
    refine X2.iaload hx (j := (1 : Int32)) (v := (.int (σ.1 (1 : Int32)))) (own_hp e2 Ar5.1) (State.isArrayOf_alike hZ.alike Ar5.2.1) Ar5.2.2 hin5 hat5 (g := (mkF m 5 #[.val (.ref a1), .val (.int (1 : Int32)), .unset, .unset] [(.int (1 : Int32)), (.ref aI)])) rfl rfl (hb hby d5_5) _ ?_
    refine XS.istoreN X2.here hx rfl (hb hby d5_6) rfl (l' := #[.val (.ref a1), .val (.int (1 : Int32)), .val (.int (σ.1 (1 : Int32))), .unset]) rfl ?_
    refine XS.iloadN X2.here hx rfl (hb hby d5_7) rfl ?_
    exact k
  have go7 : Goes p e below s₁ (entryFrame m #[(.ref a1), (.int (1 : Int32))] 4) T2 (mkF m 14 #[.val (.ref a1), .val (.int (1 : Int32)), .val (.int (σ.1 (1 : Int32))), .unset] [(.ref a1), (.int (σ.1 (1 : Int32))), (.ref a1)]) := fun t k => by
    refine go6 t ?_
    refine XS.ifNo X2.here hx rfl (hb hby d5_8) rfl (Jvm.Free.XT.i0_le_f (by decide)) ?_
    refine XS.aloadN X2.here hx rfl (hb hby d5_11) rfl rfl ?_
    refine XS.iloadN X2.here hx rfl (hb hby d5_12) rfl ?_
    refine XS.aloadN X2.here hx rfl (hb hby d5_13) rfl rfl ?_
    exact k
  obtain ⟨T8, X8, e8, st8⟩ := getF X2 hx hZ hown (host := "") (Or.inl (own_wd hw 13 rfl)) Via.refl e2 FI (g := (mkF m 14 #[.val (.ref a1), .val (.int (1 : Int32)), .val (.int (σ.1 (1 : Int32))), .unset] [(.ref a1), (.int (σ.1 (1 : Int32))), (.ref a1)])) rfl rfl (hb hby d5_14)
  have go9 : Goes p e below s₁ (entryFrame m #[(.ref a1), (.int (1 : Int32))] 4) T8 (mkF m 17 #[.val (.ref a1), .val (.int (1 : Int32)), .val (.int (σ.1 (1 : Int32))), .unset] [(.ref aI), (.int (σ.1 (1 : Int32))), (.ref a1)]) := fun t k => go7 t (st8 t k)
  have go10 : Goes p e below s₁ (entryFrame m #[(.ref a1), (.int (1 : Int32))] 4) T8 (mkF m 22 #[.val (.ref a1), .val (.int (1 : Int32)), .val (.int (σ.1 (1 : Int32))), .unset] [(.int (0 : Int32)), (.ref aI), (.int (σ.1 (1 : Int32))), (.ref a1)]) := fun t k => by
    refine go9 t ?_
    refine XS.iloadN X8.here hx rfl (hb hby d5_17) rfl ?_
    refine XS.iconst X8.here hx rfl (hb hby d5_18) ?_
    refine XS.isub X8.here hx rfl (hb hby d5_19) rfl ?_
    refine XS.iconst X8.here hx rfl (hb hby d5_20) ?_
    refine XS.idiv X8.here hx rfl (hb hby d5_21) rfl (by decide) ?_
    exact k
  obtain ⟨cl11, Ar11, kq11, Sz11, Nn11, Hs11, Gf11⟩ := id (VI)
  have hin11 : ¬ ((0 : Int32) < 0 ∨ cl11.slots.size ≤ ((0 : Int32)).toNatClampNeg) := inb_of Sz11 (own_inb own_R0)
  have hat11 : cl11.slots[((0 : Int32)).toNatClampNeg]? = some (.int (σ.1 (0 : Int32))) := Has.at Hs11 hin11 (own_l_at own_R0)
  have go12 : Goes p e below s₁ (entryFrame m #[(.ref a1), (.int (1 : Int32))] 4) T8 (mkF m 23 #[.val (.ref a1), .val (.int (1 : Int32)), .val (.int (σ.1 (1 : Int32))), .unset] [(.int (σ.1 (0 : Int32))), (.int (σ.1 (1 : Int32))), (.ref a1)]) := fun t k => by
    refine go10 t ?_
    refine X8.iaload hx (j := (0 : Int32)) (v := (.int (σ.1 (0 : Int32)))) (own_hp e8 Ar11.1) (State.isArrayOf_alike hZ.alike Ar11.2.1) Ar11.2.2 hin11 hat11 (g := (mkF m 22 #[.val (.ref a1), .val (.int (1 : Int32)), .val (.int (σ.1 (1 : Int32))), .unset] [(.int (0 : Int32)), (.ref aI), (.int (σ.1 (1 : Int32))), (.ref a1)])) rfl rfl (hb hby d5_22) _ ?_
    exact k
  obtain ⟨cq13, q13a, q13b⟩ := E1.cell
  obtain ⟨_, _, ⟨T13, L13, k13, n13⟩, -, X13, ⟨Lc13, hQ13, l13, y13, z13⟩, st13⟩ := X8.privateBack hx (y := mN_5) hown (mvT hZ (own_wd hw 51 rfl)) (mvT hZ (own_wd hw 52 rfl)) (own_selp (y := mN_5) (by decide) (mvT hZ (own_wd hw 1 rfl)) (mvP hZ (own_wd hw 53 rfl)) (mvT hZ (own_wd hw 52 rfl))) (Cond.privateMethod_at (mvP hZ (own_wd hw 53 rfl) (args := #[]))) (mvT hZ (own_wd hw 54 rfl)) (by decide) (backOf (W := 0) (rmLe l Z a0 hw [] a1 (σ.1 (1 : Int32)) (σ.1 (0 : Int32)) aK kk kf h0 n0 Z0 FK VK Ri R0) hZ (own_wd hw 54 rfl) (own_wd hw 2 rfl) (by decide) (by decide)) (g := (mkF m 23 #[.val (.ref a1), .val (.int (1 : Int32)), .val (.int (σ.1 (1 : Int32))), .unset] [(.int (σ.1 (0 : Int32))), (.int (σ.1 (1 : Int32))), (.ref a1)])) rfl (by rw [hml]; rfl) (Steps.refl _) (a := a1) (by rw [e8]; exact q13a) q13b (argsL := [(.int (σ.1 (1 : Int32))), (.int (σ.1 (0 : Int32)))]) (rest := []) (lenOf pd_1 rfl) rfl (by show 2 * 0 + _ ≤ _; exact Nat.le_of_eq rfl) (hb hby d5_23) (fun _ _ => ⟨rfl, e8, (by decide : 0 + 0 ≤ rO_1.cells), (by decide : 0 + 0 ≤ rO_1.slots)⟩)
  dsimp only [Pt.U, Pt.locs, Pt.cells, Pt.slots] at X13 l13 y13 z13 st13 hQ13
  subst l13 y13 z13
  obtain ⟨rfl, N13q, e13⟩ := hQ13
  have N13 := Fr.app N0 N13q
  have go14 : Goes p e below s₁ (entryFrame m #[(.ref a1), (.int (1 : Int32))] 4) T13 (mkF m 26 #[.val (.ref a1), .val (.int (1 : Int32)), .val (.int (σ.1 (1 : Int32))), .unset] [(.int (own_less kf (σ.1 (1 : Int32)) (σ.1 (0 : Int32))))]) := fun t k => go12 t (st13.trans k)
  by_cases hc15 : (own_less kf (σ.1 (1 : Int32)) (σ.1 (0 : Int32))) = (0 : Int32)
  · have go16 : Goes p e below s₁ (entryFrame m #[(.ref a1), (.int (1 : Int32))] 4) T13 (mkF m 54 #[.val (.ref a1), .val (.int (1 : Int32)), .val (.int (σ.1 (1 : Int32))), .unset] [(.int (1 : Int32)), (.int (σ.1 (1 : Int32))), (.ref a1)]) := fun t k => by
      refine go14 t ?_
      refine XS.ifYes X13.here hx rfl (pc0 := 26) (pc' := 51) rfl (hb hby d5_26) rfl (Jvm.Free.XT.i0_eq_t hc15) (by decide) (by decide) ?_
      refine XS.aloadN X13.here hx rfl (hb hby d5_51) rfl rfl ?_
      refine XS.iloadN X13.here hx rfl (hb hby d5_52) rfl ?_
      refine XS.iloadN X13.here hx rfl (hb hby d5_53) rfl ?_
      exact k
    obtain ⟨cq17, q17a, q17b⟩ := E1.cell
    obtain ⟨_, _, ⟨T17, L17, k17, n17⟩, -, X17, ⟨Lc17, hQ17, l17, y17, z17⟩, st17⟩ := X13.privateBack hx (y := mN_1) hown (mvT hZ (own_wd hw 33 rfl)) (mvT hZ (own_wd hw 34 rfl)) (own_selp (y := mN_1) (by decide) (mvT hZ (own_wd hw 1 rfl)) (mvP hZ (own_wd hw 35 rfl)) (mvT hZ (own_wd hw 34 rfl))) (Cond.privateMethod_at (mvP hZ (own_wd hw 35 rfl) (args := #[]))) (mvT hZ (own_wd hw 36 rfl)) (by decide) (backOf (W := 0) (rmMv l Z a0 hw [] a1 (σ.1 (1 : Int32)) (1 : Int32) aI aP ki kp σ h0 n0 Z0 FI FP VI VP nIP gI gP Ri own_R1 nAI nAP) hZ (own_wd hw 36 rfl) (own_wd hw 2 rfl) (by decide) (by decide)) (g := (mkF m 54 #[.val (.ref a1), .val (.int (1 : Int32)), .val (.int (σ.1 (1 : Int32))), .unset] [(.int (1 : Int32)), (.int (σ.1 (1 : Int32))), (.ref a1)])) rfl (by rw [hml]; rfl) (Steps.refl _) (a := a1) (by rw [e13]; exact q17a) q17b (argsL := [(.int (σ.1 (1 : Int32))), (.int (1 : Int32))]) (rest := []) (lenOf pd_0 rfl) rfl (by show 2 * 0 + _ ≤ _; exact Nat.le_of_eq rfl) (hb hby d5_54) (fun _ _ => ⟨rfl, e13, (by decide : 0 + 0 ≤ rO_1.cells), (by decide : 0 + 0 ≤ rO_1.slots)⟩)
    dsimp only [Pt.U, Pt.locs, Pt.cells, Pt.slots] at X17 l17 y17 z17 st17 hQ17
    subst l17 y17 z17
    obtain ⟨rfl, N17q, Kq17, VIq17, VPq17⟩ := hQ17
    have N17 := Fr.app N13 N17q
    have f18 := E1.keep Kq17
    have f19 := FK.keep Kq17 (ninS nAI (ninS nAP nin0))
    have f20 := FI.keep Kq17 (ninS nAI (ninS nAP nin0))
    have f21 := FP.keep Kq17 (ninS nAI (ninS nAP nin0))
    have f22 := FS.keep Kq17 (ninS nAI (ninS nAP nin0))
    have f23 := VK.keep Kq17 (ninS nKI (ninS nKP nin0))
    have Z24 := Nat.le_trans Z0 Kq17.1
    have K25 := K0.trans Kq17 (allS (Or.inl (List.mem_of_getElem? (i := 0) rfl)) (allS (Or.inl (List.mem_of_getElem? (i := 1) rfl)) all0))
    have go26 : Goes p e below s₁ (entryFrame m #[(.ref a1), (.int (1 : Int32))] 4) T17 (mkF m 57 #[.val (.ref a1), .val (.int (1 : Int32)), .val (.int (σ.1 (1 : Int32))), .unset] []) := fun t k => go16 t (st17.trans k)
    obtain ⟨fs, hr, hrun, hended, hW, hsame⟩ := X17.leave (v := none) (fun _ => rfl)
    have hup : own_up kf σ (1 : Int32) = (own_mv σ (σ.1 (1 : Int32)) (1 : Int32)) := if_pos (Or.inr hc15)
    refine ⟨_, _, go26 _ ?_, hrun, hended, _, _, rfl, ?_, ⟨_, rfl⟩, hW, hsame.mono (by decide) (by decide)⟩
    · exact X17.returnOut hx Bd.returns (hb hby d5_57) hr
    · show QU1 Z _ _ _ _ _ _ _ _ _ _ _ _ _ T17.heap _
      exact ⟨rfl, N17, K25, by rw [hup]; exact VIq17, by rw [hup]; exact VPq17⟩
  · have go27 : Goes p e below s₁ (entryFrame m #[(.ref a1), (.int (1 : Int32))] 4) T13 (mkF m 37 #[.val (.ref a1), .val (.int (1 : Int32)), .val (.int (σ.1 (1 : Int32))), .val (.int (0 : Int32))] [(.ref a1), (.ref a1)]) := fun t k => by
      refine go14 t ?_
      refine XS.ifNo X13.here hx rfl (hb hby d5_26) rfl (Jvm.Free.XT.i0_eq_f hc15) ?_
      refine XS.iloadN X13.here hx rfl (hb hby d5_29) rfl ?_
      refine XS.iconst X13.here hx rfl (hb hby d5_30) ?_
      refine XS.isub X13.here hx rfl (hb hby d5_31) rfl ?_
      refine XS.iconst X13.here hx rfl (hb hby d5_32) ?_
      refine XS.idiv X13.here hx rfl (hb hby d5_33) rfl (by decide) ?_
      show Steps p.tables e below (T13.setTop (mkF m 34 #[.val (.ref a1), .val (.int (1 : Int32)), .val (.int (σ.1 (1 : Int32))), .unset] [(.int (0 : Int32))])) _
      refine XS.istoreN X13.here hx rfl (hb hby d5_34) rfl (l' := #[.val (.ref a1), .val (.int (1 : Int32)), .val (.int (σ.1 (1 : Int32))), .val (.int (0 : Int32))]) rfl ?_
      refine XS.aloadN X13.here hx rfl (hb hby d5_35) rfl rfl ?_
      refine XS.aloadN X13.here hx rfl (hb hby d5_36) rfl rfl ?_
      exact k
    obtain ⟨T28, X28, e28, st28⟩ := getF X13 hx hZ hown (host := "") (Or.inl (own_wd hw 13 rfl)) Via.refl e13 FI (g := (mkF m 37 #[.val (.ref a1), .val (.int (1 : Int32)), .val (.int (σ.1 (1 : Int32))), .val (.int (0 : Int32))] [(.ref a1), (.ref a1)])) rfl rfl (hb hby d5_37)
    have go29 : Goes p e below s₁ (entryFrame m #[(.ref a1), (.int (1 : Int32))] 4) T28 (mkF m 40 #[.val (.ref a1), .val (.int (1 : Int32)), .val (.int (σ.1 (1 : Int32))), .val (.int (0 : Int32))] [(.ref aI), (.ref a1)]) := fun t k => go27 t (st28 t k)
    have go30 : Goes p e below s₁ (entryFrame m #[(.ref a1), (.int (1 : Int32))] 4) T28 (mkF m 41 #[.val (.ref a1), .val (.int (1 : Int32)), .val (.int (σ.1 (1 : Int32))), .val (.int (0 : Int32))] [(.int (0 : Int32)), (.ref aI), (.ref a1)]) := fun t k => by
      refine go29 t ?_
      refine XS.iloadN X28.here hx rfl (hb hby d5_40) rfl ?_
      exact k
    obtain ⟨cl31, Ar31, kq31, Sz31, Nn31, Hs31, Gf31⟩ := id (VI)
    have hin31 : ¬ ((0 : Int32) < 0 ∨ cl31.slots.size ≤ ((0 : Int32)).toNatClampNeg) := inb_of Sz31 (own_inb own_R0)
    have hat31 : cl31.slots[((0 : Int32)).toNatClampNeg]? = some (.int (σ.1 (0 : Int32))) := Has.at Hs31 hin31 (own_l_at own_R0)
    have go32 : Goes p e below s₁ (entryFrame m #[(.ref a1), (.int (1 : Int32))] 4) T28 (mkF m 43 #[.val (.ref a1), .val (.int (1 : Int32)), .val (.int (σ.1 (1 : Int32))), .val (.int (0 : Int32))] [(.int (1 : Int32)), (.int (σ.1 (0 : Int32))), (.ref a1)]) := fun t k => by
      refine go30 t ?_
      refine X28.iaload hx (j := (0 : Int32)) (v := (.int (σ.1 (0 : Int32)))) (own_hp e28 Ar31.1) (State.isArrayOf_alike hZ.alike Ar31.2.1) Ar31.2.2 hin31 hat31 (g := (mkF m 41 #[.val (.ref a1), .val (.int (1 : Int32)), .val (.int (σ.1 (1 : Int32))), .val (.int (0 : Int32))] [(.int (0 : Int32)), (.ref aI), (.ref a1)])) rfl rfl (hb hby d5_41) _ ?_
      refine XS.iloadN X28.here hx rfl (hb hby d5_42) rfl ?_
      exact k
    obtain ⟨cq33, q33a, q33b⟩ := E1.cell
    obtain ⟨_, _, ⟨T33, L33, k33, n33⟩, -, X33, ⟨Lc33, hQ33, l33, y33, z33⟩, st33⟩ := X28.privateBack hx (y := mN_1) hown (mvT hZ (own_wd hw 33 rfl)) (mvT hZ (own_wd hw 34 rfl)) (own_selp (y := mN_1) (by decide) (mvT hZ (own_wd hw 1 rfl)) (mvP hZ (own_wd hw 35 rfl)) (mvT hZ (own_wd hw 34 rfl))) (Cond.privateMethod_at (mvP hZ (own_wd hw 35 rfl) (args := #[]))) (mvT hZ (own_wd hw 36 rfl)) (by decide) (backOf (W := 0) (rmMv l Z a0 hw [] a1 (σ.1 (0 : Int32)) (1 : Int32) aI aP ki kp σ h0 n0 Z0 FI FP VI VP nIP gI gP R0 own_R1 nAI nAP) hZ (own_wd hw 36 rfl) (own_wd hw 2 rfl) (by decide) (by decide)) (g := (mkF m 43 #[.val (.ref a1), .val (.int (1 : Int32)), .val (.int (σ.1 (1 : Int32))), .val (.int (0 : Int32))] [(.int (1 : Int32)), (.int (σ.1 (0 : Int32))), (.ref a1)])) rfl (by rw [hml]; rfl) (Steps.refl _) (a := a1) (by rw [e28]; exact q33a) q33b (argsL := [(.int (σ.1 (0 : Int32))), (.int (1 : Int32))]) (rest := []) (lenOf pd_0 rfl) rfl (by show 2 * 0 + _ ≤ _; exact Nat.le_of_eq rfl) (hb hby d5_43) (fun _ _ => ⟨rfl, e28, (by decide : 0 + 0 ≤ rO_1.cells), (by decide : 0 + 0 ≤ rO_1.slots)⟩)
    dsimp only [Pt.U, Pt.locs, Pt.cells, Pt.slots] at X33 l33 y33 z33 st33 hQ33
    subst l33 y33 z33
    obtain ⟨rfl, N33q, Kq33, VIq33, VPq33⟩ := hQ33
    have N33 := Fr.app N13 N33q
    have f34 := E1.keep Kq33
    have f35 := FK.keep Kq33 (ninS nAI (ninS nAP nin0))
    have f36 := FI.keep Kq33 (ninS nAI (ninS nAP nin0))
    have f37 := FP.keep Kq33 (ninS nAI (ninS nAP nin0))
    have f38 := FS.keep Kq33 (ninS nAI (ninS nAP nin0))
    have f39 := VK.keep Kq33 (ninS nKI (ninS nKP nin0))
    have Z40 := Nat.le_trans Z0 Kq33.1
    have K41 := K0.trans Kq33 (allS (Or.inl (List.mem_of_getElem? (i := 0) rfl)) (allS (Or.inl (List.mem_of_getElem? (i := 1) rfl)) all0))
    have go42 : Goes p e below s₁ (entryFrame m #[(.ref a1), (.int (1 : Int32))] 4) T33 (mkF m 46 #[.val (.ref a1), .val (.int (1 : Int32)), .val (.int (σ.1 (1 : Int32))), .val (.int (0 : Int32))] []) := fun t k => go32 t (st33.trans k)
    have go43 : Goes p e below s₁ (entryFrame m #[(.ref a1), (.int (1 : Int32))] 4) T33 (mkF m 8 #[.val (.ref a1), .val (.int (0 : Int32)), .val (.int (σ.1 (1 : Int32))), .val (.int (0 : Int32))] [(.int (0 : Int32))]) := fun t k => by
      refine go42 t ?_
      refine XS.iloadN X33.here hx rfl (hb hby d5_46) rfl ?_
      refine XS.istoreN X33.here hx rfl (hb hby d5_47) rfl (l' := #[.val (.ref a1), .val (.int (0 : Int32)), .val (.int (σ.1 (1 : Int32))), .val (.int (0 : Int32))]) rfl ?_
      refine XS.goto X33.here hx rfl (pc0 := 48) (pc' := 7) rfl (hb hby d5_48) (by decide) (by decide) ?_
      refine XS.iloadN X33.here hx rfl (hb hby d5_7) rfl ?_
      exact k
    have go44 : Goes p e below s₁ (entryFrame m #[(.ref a1), (.int (1 : Int32))] 4) T33 (mkF m 54 #[.val (.ref a1), .val (.int (0 : Int32)), .val (.int (σ.1 (1 : Int32))), .val (.int (0 : Int32))] [(.int (0 : Int32)), (.int (σ.1 (1 : Int32))), (.ref a1)]) := fun t k => by
      refine go43 t ?_
      refine XS.ifYes X33.here hx rfl (pc0 := 8) (pc' := 51) rfl (hb hby d5_8) rfl (Jvm.Free.XT.i0_le_t (by decide)) (by decide) (by decide) ?_
      refine XS.aloadN X33.here hx rfl (hb hby d5_51) rfl rfl ?_
      refine XS.iloadN X33.here hx rfl (hb hby d5_52) rfl ?_
      refine XS.iloadN X33.here hx rfl (hb hby d5_53) rfl ?_
      exact k
    obtain ⟨cq45, q45a, q45b⟩ := f34.cell
    obtain ⟨_, _, ⟨T45, L45, k45, n45⟩, -, X45, ⟨Lc45, hQ45, l45, y45, z45⟩, st45⟩ := X33.privateBack hx (y := mN_1) hown (mvT hZ (own_wd hw 33 rfl)) (mvT hZ (own_wd hw 34 rfl)) (own_selp (y := mN_1) (by decide) (mvT hZ (own_wd hw 1 rfl)) (mvP hZ (own_wd hw 35 rfl)) (mvT hZ (own_wd hw 34 rfl))) (Cond.privateMethod_at (mvP hZ (own_wd hw 35 rfl) (args := #[]))) (mvT hZ (own_wd hw 36 rfl)) (by decide) (backOf (W := 0) (rmMv l Z a0 hw [] a1 (σ.1 (1 : Int32)) (0 : Int32) aI aP ki kp (own_mv σ (σ.1 (0 : Int32)) (1 : Int32)) T33.heap n0 Z40 f36 f37 VIq33 VPq33 nIP gI gP Ri own_R0 nAI nAP) hZ (own_wd hw 36 rfl) (own_wd hw 2 rfl) (by decide) (by decide)) (g := (mkF m 54 #[.val (.ref a1), .val (.int (0 : Int32)), .val (.int (σ.1 (1 : Int32))), .val (.int (0 : Int32))] [(.int (0 : Int32)), (.int (σ.1 (1 : Int32))), (.ref a1)])) rfl (by rw [hml]; rfl) (Steps.refl _) (a := a1) q45a q45b (argsL := [(.int (σ.1 (1 : Int32))), (.int (0 : Int32))]) (rest := []) (lenOf pd_0 rfl) rfl (by show 2 * 0 + _ ≤ _; exact Nat.le_of_eq rfl) (hb hby d5_54) (fun _ _ => ⟨rfl, rfl, (by decide : 0 + 0 ≤ rO_1.cells), (by decide : 0 + 0 ≤ rO_1.slots)⟩)
    dsimp only [Pt.U, Pt.locs, Pt.cells, Pt.slots] at X45 l45 y45 z45 st45 hQ45
    subst l45 y45 z45
    obtain ⟨rfl, N45q, Kq45, VIq45, VPq45⟩ := hQ45
    have N45 := Fr.app N33 N45q
    have f46 := f34.keep Kq45
    have f47 := f35.keep Kq45 (ninS nAI (ninS nAP nin0))
    have f48 := f36.keep Kq45 (ninS nAI (ninS nAP nin0))
    have f49 := f37.keep Kq45 (ninS nAI (ninS nAP nin0))
    have f50 := f38.keep Kq45 (ninS nAI (ninS nAP nin0))
    have f51 := f39.keep Kq45 (ninS nKI (ninS nKP nin0))
    have Z52 := Nat.le_trans Z40 Kq45.1
    have K53 := K41.trans Kq45 (allS (Or.inl (List.mem_of_getElem? (i := 0) rfl)) (allS (Or.inl (List.mem_of_getElem? (i := 1) rfl)) all0))
    have go54 : Goes p e below s₁ (entryFrame m #[(.ref a1), (.int (1 : Int32))] 4) T45 (mkF m 57 #[.val (.ref a1), .val (.int (0 : Int32)), .val (.int (σ.1 (1 : Int32))), .val (.int (0 : Int32))] []) := fun t k => go44 t (st45.trans k)
    obtain ⟨fs, hr, hrun, hended, hW, hsame⟩ := X45.leave (v := none) (fun _ => rfl)
    have hup : own_up kf σ (1 : Int32) = (own_mv (own_mv σ (σ.1 (0 : Int32)) (1 : Int32)) (σ.1 (1 : Int32)) (0 : Int32)) := if_neg (fun h => h.elim (by decide) hc15)
    refine ⟨_, _, go54 _ ?_, hrun, hended, _, _, rfl, ?_, ⟨_, rfl⟩, hW, hsame.mono (by decide) (by decide)⟩
    · exact X45.returnOut hx Bd.returns (hb hby d5_57) hr
    · show QU1 Z _ _ _ _ _ _ _ _ _ _ _ _ _ T45.heap _
      exact ⟨rfl, N45, K53, by rw [hup]; exact VIq45, by rw [hup]; exact VPq45⟩
theorem ef_rmU2 (m : MethodId) (a1 : Addr) : entryFrame m #[(.ref a1), (.int (2 : Int32))] 4 = mkF m 0 #[.val (.ref a1), .val (.int (2 : Int32)), .unset, .unset] [] := by first | (simp [entryFrame, mkF, argsToLocals, Value.category]; done) | rfl
def QU2 (Z : State) (a1 : Addr) (aK aI aP : Addr) (kk ki kp : ClassId) (kf : Int32 → UInt64) (σ : own_P) (sz : Int32) (h0 : Heap) (n0 : Nat) (v : Option Value) (h : Heap) (L : List Loc) : Prop := v = none ∧ Fr n0 L ∧ Keep h0 h [aI, aP] ∧ Arv Z h aI ki .int 3 (own_l (own_up kf σ (2 : Int32)).1) (.int (0 : Int32)) ∧ Arv Z h aP kp .int 3 (own_l (own_up kf σ (2 : Int32)).2) (.int (0 : Int32))
set_option maxRecDepth 65536 in
set_option maxHeartbeats 40000000 in
theorem rmU2 (l : Launch) (Z : State) (a0 : Array Value) (hw : ∀ d ∈ tables_1, d.before a0 Z = true) (ws : List Jvm.Cond) (a1 : Addr) (aK aI aP : Addr) (kk ki kp : ClassId) (kf : Int32 → UInt64) (σ : own_P) (sz : Int32) (h0 : Heap) (n0 : Nat) (Z0 : n0 ≤ h0.size) (E1 : Exa Z h0 a1 "com/example/covermesh/covermesh/algorithms/IndexedMinHeap") (FK : Fld Z h0 a1 "com/example/covermesh/covermesh/algorithms/IndexedMinHeap" "keys" "[D" (.ref aK)) (FI : Fld Z h0 a1 "com/example/covermesh/covermesh/algorithms/IndexedMinHeap" "items" "[I" (.ref aI)) (FP : Fld Z h0 a1 "com/example/covermesh/covermesh/algorithms/IndexedMinHeap" "positions" "[I" (.ref aP)) (FS : Fld Z h0 a1 "com/example/covermesh/covermesh/algorithms/IndexedMinHeap" "size" "I" (.int sz)) (VK : Arv Z h0 aK kk .double 3 (own_d kf) (.double (0 : UInt64))) (VI : Arv Z h0 aI ki .int 3 (own_l σ.1) (.int (0 : Int32))) (VP : Arv Z h0 aP kp .int 3 (own_l σ.2) (.int (0 : Int32))) (nKI : aK ≠ aI) (nKP : aK ≠ aP) (nIP : aI ≠ aP) (nAK : a1 ≠ aK) (nAI : a1 ≠ aI) (nAP : a1 ≠ aP) (gA : n0 ≤ a1) (gK : n0 ≤ aK) (gI : n0 ≤ aI) (gP : n0 ≤ aP) (Ri : own_R (σ.1 (2 : Int32))) (R0 : own_R (σ.1 (0 : Int32))) :
    MetFree l mN_3 (head1 (Jvm.Cond.code mN_3 prog_17_method_7_code 4 none :: ws) rO_1) (fun a U => a = #[(.ref a1), (.int (2 : Int32))] ∧ Z.Warmed39 U.vm ∧ U.heap = h0) (fun _ _ _ _ _ => True) (fun _ U o U' => ∃ v L, o = .returned v ∧ QU2 Z a1 aK aI aP kk ki kp kf σ sz h0 n0 v U'.heap L ∧ FrameEnd U o U' L rO_1.cells rO_1.slots) := by
  refine MetFree.of_bodySF (plainFor_of_name pn_0) hisR ?_
  intro p e s m args below meth c s₁ Bd hml0 hP hK
  obtain ⟨rfl, hZ, hh⟩ := hP
  have hx := Bd.exec
  have hby := Bd.bytes
  have hml : c.maxLocals = 4 := hml0
  have hown : s.vm.findClass "com/example/covermesh/covermesh/algorithms/IndexedMinHeap" = some m.cls := findClass_of_methodNamed Bd.named
  have hnm := (name_of_methodNamed Bd.named Bd.method).1
  have X0 : Stand p l e rO_1 s m #[(.ref a1), (.int (2 : Int32))] below meth c s₁ [] 0 0 := Stand.of_body Bd
  have e0 : s₁.heap = h0 := by rw [← hh, Bd.state]; rfl
  have N0 := Fr.nil n0
  have K0 := Keep.refl h0 [aI, aP]
  have go0 : Goes p e below s₁ (entryFrame m #[(.ref a1), (.int (2 : Int32))] 4) s₁ (mkF m 0 #[.val (.ref a1), .val (.int (2 : Int32)), .unset, .unset] []) := fun t k => castTop (ef_rmU2 m a1) k
  have go1 : Goes p e below s₁ (entryFrame m #[(.ref a1), (.int (2 : Int32))] 4) s₁ (mkF m 1 #[.val (.ref a1), .val (.int (2 : Int32)), .unset, .unset] [(.ref a1)]) := fun t k => by
    refine go0 t ?_
    refine XS.aloadN X0.here hx rfl (hb hby d5_0) rfl rfl ?_
    exact k
  obtain ⟨T2, X2, e2, st2⟩ := getF X0 hx hZ hown (host := "") (Or.inl (own_wd hw 13 rfl)) Via.refl e0 FI (g := (mkF m 1 #[.val (.ref a1), .val (.int (2 : Int32)), .unset, .unset] [(.ref a1)])) rfl rfl (hb hby d5_1)
  have go3 : Goes p e below s₁ (entryFrame m #[(.ref a1), (.int (2 : Int32))] 4) T2 (mkF m 4 #[.val (.ref a1), .val (.int (2 : Int32)), .unset, .unset] [(.ref aI)]) := fun t k => go1 t (st2 t k)
  have go4 : Goes p e below s₁ (entryFrame m #[(.ref a1), (.int (2 : Int32))] 4) T2 (mkF m 5 #[.val (.ref a1), .val (.int (2 : Int32)), .unset, .unset] [(.int (2 : Int32)), (.ref aI)]) := fun t k => by
    refine go3 t ?_
    refine XS.iloadN X2.here hx rfl (hb hby d5_4) rfl ?_
    exact k
  obtain ⟨cl5, Ar5, kq5, Sz5, Nn5, Hs5, Gf5⟩ := id (VI)
  have hin5 : ¬ ((2 : Int32) < 0 ∨ cl5.slots.size ≤ ((2 : Int32)).toNatClampNeg) := inb_of Sz5 (own_inb own_R2)
  have hat5 : cl5.slots[((2 : Int32)).toNatClampNeg]? = some (.int (σ.1 (2 : Int32))) := Has.at Hs5 hin5 (own_l_at own_R2)
  have go6 : Goes p e below s₁ (entryFrame m #[(.ref a1), (.int (2 : Int32))] 4) T2 (mkF m 8 #[.val (.ref a1), .val (.int (2 : Int32)), .val (.int (σ.1 (2 : Int32))), .unset] [(.int (2 : Int32))]) := fun t k => by
    refine go4 t ?_
    refine X2.iaload hx (j := (2 : Int32)) (v := (.int (σ.1 (2 : Int32)))) (own_hp e2 Ar5.1) (State.isArrayOf_alike hZ.alike Ar5.2.1) Ar5.2.2 hin5 hat5 (g := (mkF m 5 #[.val (.ref a1), .val (.int (2 : Int32)), .unset, .unset] [(.int (2 : Int32)), (.ref aI)])) rfl rfl (hb hby d5_5) _ ?_
    refine XS.istoreN X2.here hx rfl (hb hby d5_6) rfl (l' := #[.val (.ref a1), .val (.int (2 : Int32)), .val (.int (σ.1 (2 : Int32))), .unset]) rfl ?_
    refine XS.iloadN X2.here hx rfl (hb hby d5_7) rfl ?_
    exact k
  have go7 : Goes p e below s₁ (entryFrame m #[(.ref a1), (.int (2 : Int32))] 4) T2 (mkF m 14 #[.val (.ref a1), .val (.int (2 : Int32)), .val (.int (σ.1 (2 : Int32))), .unset] [(.ref a1), (.int (σ.1 (2 : Int32))), (.ref a1)]) := fun t k => by
    refine go6 t ?_
    refine XS.ifNo X2.here hx rfl (hb hby d5_8) rfl (Jvm.Free.XT.i0_le_f (by decide)) ?_
    refine XS.aloadN X2.here hx rfl (hb hby d5_11) rfl rfl ?_
    refine XS.iloadN X2.here hx rfl (hb hby d5_12) rfl ?_
    refine XS.aloadN X2.here hx rfl (hb hby d5_13) rfl rfl ?_
    exact k
  obtain ⟨T8, X8, e8, st8⟩ := getF X2 hx hZ hown (host := "") (Or.inl (own_wd hw 13 rfl)) Via.refl e2 FI (g := (mkF m 14 #[.val (.ref a1), .val (.int (2 : Int32)), .val (.int (σ.1 (2 : Int32))), .unset] [(.ref a1), (.int (σ.1 (2 : Int32))), (.ref a1)])) rfl rfl (hb hby d5_14)
  have go9 : Goes p e below s₁ (entryFrame m #[(.ref a1), (.int (2 : Int32))] 4) T8 (mkF m 17 #[.val (.ref a1), .val (.int (2 : Int32)), .val (.int (σ.1 (2 : Int32))), .unset] [(.ref aI), (.int (σ.1 (2 : Int32))), (.ref a1)]) := fun t k => go7 t (st8 t k)
  have go10 : Goes p e below s₁ (entryFrame m #[(.ref a1), (.int (2 : Int32))] 4) T8 (mkF m 22 #[.val (.ref a1), .val (.int (2 : Int32)), .val (.int (σ.1 (2 : Int32))), .unset] [(.int (0 : Int32)), (.ref aI), (.int (σ.1 (2 : Int32))), (.ref a1)]) := fun t k => by
    refine go9 t ?_
    refine XS.iloadN X8.here hx rfl (hb hby d5_17) rfl ?_
    refine XS.iconst X8.here hx rfl (hb hby d5_18) ?_
    refine XS.isub X8.here hx rfl (hb hby d5_19) rfl ?_
    refine XS.iconst X8.here hx rfl (hb hby d5_20) ?_
    refine XS.idiv X8.here hx rfl (hb hby d5_21) rfl (by decide) ?_
    exact k
  obtain ⟨cl11, Ar11, kq11, Sz11, Nn11, Hs11, Gf11⟩ := id (VI)
  have hin11 : ¬ ((0 : Int32) < 0 ∨ cl11.slots.size ≤ ((0 : Int32)).toNatClampNeg) := inb_of Sz11 (own_inb own_R0)
  have hat11 : cl11.slots[((0 : Int32)).toNatClampNeg]? = some (.int (σ.1 (0 : Int32))) := Has.at Hs11 hin11 (own_l_at own_R0)
  have go12 : Goes p e below s₁ (entryFrame m #[(.ref a1), (.int (2 : Int32))] 4) T8 (mkF m 23 #[.val (.ref a1), .val (.int (2 : Int32)), .val (.int (σ.1 (2 : Int32))), .unset] [(.int (σ.1 (0 : Int32))), (.int (σ.1 (2 : Int32))), (.ref a1)]) := fun t k => by
    refine go10 t ?_
    refine X8.iaload hx (j := (0 : Int32)) (v := (.int (σ.1 (0 : Int32)))) (own_hp e8 Ar11.1) (State.isArrayOf_alike hZ.alike Ar11.2.1) Ar11.2.2 hin11 hat11 (g := (mkF m 22 #[.val (.ref a1), .val (.int (2 : Int32)), .val (.int (σ.1 (2 : Int32))), .unset] [(.int (0 : Int32)), (.ref aI), (.int (σ.1 (2 : Int32))), (.ref a1)])) rfl rfl (hb hby d5_22) _ ?_
    exact k
  obtain ⟨cq13, q13a, q13b⟩ := E1.cell
  obtain ⟨_, _, ⟨T13, L13, k13, n13⟩, -, X13, ⟨Lc13, hQ13, l13, y13, z13⟩, st13⟩ := X8.privateBack hx (y := mN_5) hown (mvT hZ (own_wd hw 51 rfl)) (mvT hZ (own_wd hw 52 rfl)) (own_selp (y := mN_5) (by decide) (mvT hZ (own_wd hw 1 rfl)) (mvP hZ (own_wd hw 53 rfl)) (mvT hZ (own_wd hw 52 rfl))) (Cond.privateMethod_at (mvP hZ (own_wd hw 53 rfl) (args := #[]))) (mvT hZ (own_wd hw 54 rfl)) (by decide) (backOf (W := 0) (rmLe l Z a0 hw [] a1 (σ.1 (2 : Int32)) (σ.1 (0 : Int32)) aK kk kf h0 n0 Z0 FK VK Ri R0) hZ (own_wd hw 54 rfl) (own_wd hw 2 rfl) (by decide) (by decide)) (g := (mkF m 23 #[.val (.ref a1), .val (.int (2 : Int32)), .val (.int (σ.1 (2 : Int32))), .unset] [(.int (σ.1 (0 : Int32))), (.int (σ.1 (2 : Int32))), (.ref a1)])) rfl (by rw [hml]; rfl) (Steps.refl _) (a := a1) (by rw [e8]; exact q13a) q13b (argsL := [(.int (σ.1 (2 : Int32))), (.int (σ.1 (0 : Int32)))]) (rest := []) (lenOf pd_1 rfl) rfl (by show 2 * 0 + _ ≤ _; exact Nat.le_of_eq rfl) (hb hby d5_23) (fun _ _ => ⟨rfl, e8, (by decide : 0 + 0 ≤ rO_1.cells), (by decide : 0 + 0 ≤ rO_1.slots)⟩)
  dsimp only [Pt.U, Pt.locs, Pt.cells, Pt.slots] at X13 l13 y13 z13 st13 hQ13
  subst l13 y13 z13
  obtain ⟨rfl, N13q, e13⟩ := hQ13
  have N13 := Fr.app N0 N13q
  have go14 : Goes p e below s₁ (entryFrame m #[(.ref a1), (.int (2 : Int32))] 4) T13 (mkF m 26 #[.val (.ref a1), .val (.int (2 : Int32)), .val (.int (σ.1 (2 : Int32))), .unset] [(.int (own_less kf (σ.1 (2 : Int32)) (σ.1 (0 : Int32))))]) := fun t k => go12 t (st13.trans k)
  by_cases hc15 : (own_less kf (σ.1 (2 : Int32)) (σ.1 (0 : Int32))) = (0 : Int32)
  · have go16 : Goes p e below s₁ (entryFrame m #[(.ref a1), (.int (2 : Int32))] 4) T13 (mkF m 54 #[.val (.ref a1), .val (.int (2 : Int32)), .val (.int (σ.1 (2 : Int32))), .unset] [(.int (2 : Int32)), (.int (σ.1 (2 : Int32))), (.ref a1)]) := fun t k => by
      refine go14 t ?_
      refine XS.ifYes X13.here hx rfl (pc0 := 26) (pc' := 51) rfl (hb hby d5_26) rfl (Jvm.Free.XT.i0_eq_t hc15) (by decide) (by decide) ?_
      refine XS.aloadN X13.here hx rfl (hb hby d5_51) rfl rfl ?_
      refine XS.iloadN X13.here hx rfl (hb hby d5_52) rfl ?_
      refine XS.iloadN X13.here hx rfl (hb hby d5_53) rfl ?_
      exact k
    obtain ⟨cq17, q17a, q17b⟩ := E1.cell
    obtain ⟨_, _, ⟨T17, L17, k17, n17⟩, -, X17, ⟨Lc17, hQ17, l17, y17, z17⟩, st17⟩ := X13.privateBack hx (y := mN_1) hown (mvT hZ (own_wd hw 33 rfl)) (mvT hZ (own_wd hw 34 rfl)) (own_selp (y := mN_1) (by decide) (mvT hZ (own_wd hw 1 rfl)) (mvP hZ (own_wd hw 35 rfl)) (mvT hZ (own_wd hw 34 rfl))) (Cond.privateMethod_at (mvP hZ (own_wd hw 35 rfl) (args := #[]))) (mvT hZ (own_wd hw 36 rfl)) (by decide) (backOf (W := 0) (rmMv l Z a0 hw [] a1 (σ.1 (2 : Int32)) (2 : Int32) aI aP ki kp σ h0 n0 Z0 FI FP VI VP nIP gI gP Ri own_R2 nAI nAP) hZ (own_wd hw 36 rfl) (own_wd hw 2 rfl) (by decide) (by decide)) (g := (mkF m 54 #[.val (.ref a1), .val (.int (2 : Int32)), .val (.int (σ.1 (2 : Int32))), .unset] [(.int (2 : Int32)), (.int (σ.1 (2 : Int32))), (.ref a1)])) rfl (by rw [hml]; rfl) (Steps.refl _) (a := a1) (by rw [e13]; exact q17a) q17b (argsL := [(.int (σ.1 (2 : Int32))), (.int (2 : Int32))]) (rest := []) (lenOf pd_0 rfl) rfl (by show 2 * 0 + _ ≤ _; exact Nat.le_of_eq rfl) (hb hby d5_54) (fun _ _ => ⟨rfl, e13, (by decide : 0 + 0 ≤ rO_1.cells), (by decide : 0 + 0 ≤ rO_1.slots)⟩)
    dsimp only [Pt.U, Pt.locs, Pt.cells, Pt.slots] at X17 l17 y17 z17 st17 hQ17
    subst l17 y17 z17
    obtain ⟨rfl, N17q, Kq17, VIq17, VPq17⟩ := hQ17
    have N17 := Fr.app N13 N17q
    have f18 := E1.keep Kq17
    have f19 := FK.keep Kq17 (ninS nAI (ninS nAP nin0))
    have f20 := FI.keep Kq17 (ninS nAI (ninS nAP nin0))
    have f21 := FP.keep Kq17 (ninS nAI (ninS nAP nin0))
    have f22 := FS.keep Kq17 (ninS nAI (ninS nAP nin0))
    have f23 := VK.keep Kq17 (ninS nKI (ninS nKP nin0))
    have Z24 := Nat.le_trans Z0 Kq17.1
    have K25 := K0.trans Kq17 (allS (Or.inl (List.mem_of_getElem? (i := 0) rfl)) (allS (Or.inl (List.mem_of_getElem? (i := 1) rfl)) all0))
    have go26 : Goes p e below s₁ (entryFrame m #[(.ref a1), (.int (2 : Int32))] 4) T17 (mkF m 57 #[.val (.ref a1), .val (.int (2 : Int32)), .val (.int (σ.1 (2 : Int32))), .unset] []) := fun t k => go16 t (st17.trans k)
    obtain ⟨fs, hr, hrun, hended, hW, hsame⟩ := X17.leave (v := none) (fun _ => rfl)
    have hup : own_up kf σ (2 : Int32) = (own_mv σ (σ.1 (2 : Int32)) (2 : Int32)) := if_pos (Or.inr hc15)
    refine ⟨_, _, go26 _ ?_, hrun, hended, _, _, rfl, ?_, ⟨_, rfl⟩, hW, hsame.mono (by decide) (by decide)⟩
    · exact X17.returnOut hx Bd.returns (hb hby d5_57) hr
    · show QU2 Z _ _ _ _ _ _ _ _ _ _ _ _ _ T17.heap _
      exact ⟨rfl, N17, K25, by rw [hup]; exact VIq17, by rw [hup]; exact VPq17⟩
  · have go27 : Goes p e below s₁ (entryFrame m #[(.ref a1), (.int (2 : Int32))] 4) T13 (mkF m 37 #[.val (.ref a1), .val (.int (2 : Int32)), .val (.int (σ.1 (2 : Int32))), .val (.int (0 : Int32))] [(.ref a1), (.ref a1)]) := fun t k => by
      refine go14 t ?_
      refine XS.ifNo X13.here hx rfl (hb hby d5_26) rfl (Jvm.Free.XT.i0_eq_f hc15) ?_
      refine XS.iloadN X13.here hx rfl (hb hby d5_29) rfl ?_
      refine XS.iconst X13.here hx rfl (hb hby d5_30) ?_
      refine XS.isub X13.here hx rfl (hb hby d5_31) rfl ?_
      refine XS.iconst X13.here hx rfl (hb hby d5_32) ?_
      refine XS.idiv X13.here hx rfl (hb hby d5_33) rfl (by decide) ?_
      show Steps p.tables e below (T13.setTop (mkF m 34 #[.val (.ref a1), .val (.int (2 : Int32)), .val (.int (σ.1 (2 : Int32))), .unset] [(.int (0 : Int32))])) _
      refine XS.istoreN X13.here hx rfl (hb hby d5_34) rfl (l' := #[.val (.ref a1), .val (.int (2 : Int32)), .val (.int (σ.1 (2 : Int32))), .val (.int (0 : Int32))]) rfl ?_
      refine XS.aloadN X13.here hx rfl (hb hby d5_35) rfl rfl ?_
      refine XS.aloadN X13.here hx rfl (hb hby d5_36) rfl rfl ?_
      exact k
    obtain ⟨T28, X28, e28, st28⟩ := getF X13 hx hZ hown (host := "") (Or.inl (own_wd hw 13 rfl)) Via.refl e13 FI (g := (mkF m 37 #[.val (.ref a1), .val (.int (2 : Int32)), .val (.int (σ.1 (2 : Int32))), .val (.int (0 : Int32))] [(.ref a1), (.ref a1)])) rfl rfl (hb hby d5_37)
    have go29 : Goes p e below s₁ (entryFrame m #[(.ref a1), (.int (2 : Int32))] 4) T28 (mkF m 40 #[.val (.ref a1), .val (.int (2 : Int32)), .val (.int (σ.1 (2 : Int32))), .val (.int (0 : Int32))] [(.ref aI), (.ref a1)]) := fun t k => go27 t (st28 t k)
    have go30 : Goes p e below s₁ (entryFrame m #[(.ref a1), (.int (2 : Int32))] 4) T28 (mkF m 41 #[.val (.ref a1), .val (.int (2 : Int32)), .val (.int (σ.1 (2 : Int32))), .val (.int (0 : Int32))] [(.int (0 : Int32)), (.ref aI), (.ref a1)]) := fun t k => by
      refine go29 t ?_
      refine XS.iloadN X28.here hx rfl (hb hby d5_40) rfl ?_
      exact k
    obtain ⟨cl31, Ar31, kq31, Sz31, Nn31, Hs31, Gf31⟩ := id (VI)
    have hin31 : ¬ ((0 : Int32) < 0 ∨ cl31.slots.size ≤ ((0 : Int32)).toNatClampNeg) := inb_of Sz31 (own_inb own_R0)
    have hat31 : cl31.slots[((0 : Int32)).toNatClampNeg]? = some (.int (σ.1 (0 : Int32))) := Has.at Hs31 hin31 (own_l_at own_R0)
    have go32 : Goes p e below s₁ (entryFrame m #[(.ref a1), (.int (2 : Int32))] 4) T28 (mkF m 43 #[.val (.ref a1), .val (.int (2 : Int32)), .val (.int (σ.1 (2 : Int32))), .val (.int (0 : Int32))] [(.int (2 : Int32)), (.int (σ.1 (0 : Int32))), (.ref a1)]) := fun t k => by
      refine go30 t ?_
      refine X28.iaload hx (j := (0 : Int32)) (v := (.int (σ.1 (0 : Int32)))) (own_hp e28 Ar31.1) (State.isArrayOf_alike hZ.alike Ar31.2.1) Ar31.2.2 hin31 hat31 (g := (mkF m 41 #[.val (.ref a1), .val (.int (2 : Int32)), .val (.int (σ.1 (2 : Int32))), .val (.int (0 : Int32))] [(.int (0 : Int32)), (.ref aI), (.ref a1)])) rfl rfl (hb hby d5_41) _ ?_
      refine XS.iloadN X28.here hx rfl (hb hby d5_42) rfl ?_
      exact k
    obtain ⟨cq33, q33a, q33b⟩ := E1.cell
    obtain ⟨_, _, ⟨T33, L33, k33, n33⟩, -, X33, ⟨Lc33, hQ33, l33, y33, z33⟩, st33⟩ := X28.privateBack hx (y := mN_1) hown (mvT hZ (own_wd hw 33 rfl)) (mvT hZ (own_wd hw 34 rfl)) (own_selp (y := mN_1) (by decide) (mvT hZ (own_wd hw 1 rfl)) (mvP hZ (own_wd hw 35 rfl)) (mvT hZ (own_wd hw 34 rfl))) (Cond.privateMethod_at (mvP hZ (own_wd hw 35 rfl) (args := #[]))) (mvT hZ (own_wd hw 36 rfl)) (by decide) (backOf (W := 0) (rmMv l Z a0 hw [] a1 (σ.1 (0 : Int32)) (2 : Int32) aI aP ki kp σ h0 n0 Z0 FI FP VI VP nIP gI gP R0 own_R2 nAI nAP) hZ (own_wd hw 36 rfl) (own_wd hw 2 rfl) (by decide) (by decide)) (g := (mkF m 43 #[.val (.ref a1), .val (.int (2 : Int32)), .val (.int (σ.1 (2 : Int32))), .val (.int (0 : Int32))] [(.int (2 : Int32)), (.int (σ.1 (0 : Int32))), (.ref a1)])) rfl (by rw [hml]; rfl) (Steps.refl _) (a := a1) (by rw [e28]; exact q33a) q33b (argsL := [(.int (σ.1 (0 : Int32))), (.int (2 : Int32))]) (rest := []) (lenOf pd_0 rfl) rfl (by show 2 * 0 + _ ≤ _; exact Nat.le_of_eq rfl) (hb hby d5_43) (fun _ _ => ⟨rfl, e28, (by decide : 0 + 0 ≤ rO_1.cells), (by decide : 0 + 0 ≤ rO_1.slots)⟩)
    dsimp only [Pt.U, Pt.locs, Pt.cells, Pt.slots] at X33 l33 y33 z33 st33 hQ33
    subst l33 y33 z33
    obtain ⟨rfl, N33q, Kq33, VIq33, VPq33⟩ := hQ33
    have N33 := Fr.app N13 N33q
    have f34 := E1.keep Kq33
    have f35 := FK.keep Kq33 (ninS nAI (ninS nAP nin0))
    have f36 := FI.keep Kq33 (ninS nAI (ninS nAP nin0))
    have f37 := FP.keep Kq33 (ninS nAI (ninS nAP nin0))
    have f38 := FS.keep Kq33 (ninS nAI (ninS nAP nin0))
    have f39 := VK.keep Kq33 (ninS nKI (ninS nKP nin0))
    have Z40 := Nat.le_trans Z0 Kq33.1
    have K41 := K0.trans Kq33 (allS (Or.inl (List.mem_of_getElem? (i := 0) rfl)) (allS (Or.inl (List.mem_of_getElem? (i := 1) rfl)) all0))
    have go42 : Goes p e below s₁ (entryFrame m #[(.ref a1), (.int (2 : Int32))] 4) T33 (mkF m 46 #[.val (.ref a1), .val (.int (2 : Int32)), .val (.int (σ.1 (2 : Int32))), .val (.int (0 : Int32))] []) := fun t k => go32 t (st33.trans k)
    have go43 : Goes p e below s₁ (entryFrame m #[(.ref a1), (.int (2 : Int32))] 4) T33 (mkF m 8 #[.val (.ref a1), .val (.int (0 : Int32)), .val (.int (σ.1 (2 : Int32))), .val (.int (0 : Int32))] [(.int (0 : Int32))]) := fun t k => by
      refine go42 t ?_
      refine XS.iloadN X33.here hx rfl (hb hby d5_46) rfl ?_
      refine XS.istoreN X33.here hx rfl (hb hby d5_47) rfl (l' := #[.val (.ref a1), .val (.int (0 : Int32)), .val (.int (σ.1 (2 : Int32))), .val (.int (0 : Int32))]) rfl ?_
      refine XS.goto X33.here hx rfl (pc0 := 48) (pc' := 7) rfl (hb hby d5_48) (by decide) (by decide) ?_
      refine XS.iloadN X33.here hx rfl (hb hby d5_7) rfl ?_
      exact k
    have go44 : Goes p e below s₁ (entryFrame m #[(.ref a1), (.int (2 : Int32))] 4) T33 (mkF m 54 #[.val (.ref a1), .val (.int (0 : Int32)), .val (.int (σ.1 (2 : Int32))), .val (.int (0 : Int32))] [(.int (0 : Int32)), (.int (σ.1 (2 : Int32))), (.ref a1)]) := fun t k => by
      refine go43 t ?_
      refine XS.ifYes X33.here hx rfl (pc0 := 8) (pc' := 51) rfl (hb hby d5_8) rfl (Jvm.Free.XT.i0_le_t (by decide)) (by decide) (by decide) ?_
      refine XS.aloadN X33.here hx rfl (hb hby d5_51) rfl rfl ?_
      refine XS.iloadN X33.here hx rfl (hb hby d5_52) rfl ?_
      refine XS.iloadN X33.here hx rfl (hb hby d5_53) rfl ?_
      exact k
    obtain ⟨cq45, q45a, q45b⟩ := f34.cell
    obtain ⟨_, _, ⟨T45, L45, k45, n45⟩, -, X45, ⟨Lc45, hQ45, l45, y45, z45⟩, st45⟩ := X33.privateBack hx (y := mN_1) hown (mvT hZ (own_wd hw 33 rfl)) (mvT hZ (own_wd hw 34 rfl)) (own_selp (y := mN_1) (by decide) (mvT hZ (own_wd hw 1 rfl)) (mvP hZ (own_wd hw 35 rfl)) (mvT hZ (own_wd hw 34 rfl))) (Cond.privateMethod_at (mvP hZ (own_wd hw 35 rfl) (args := #[]))) (mvT hZ (own_wd hw 36 rfl)) (by decide) (backOf (W := 0) (rmMv l Z a0 hw [] a1 (σ.1 (2 : Int32)) (0 : Int32) aI aP ki kp (own_mv σ (σ.1 (0 : Int32)) (2 : Int32)) T33.heap n0 Z40 f36 f37 VIq33 VPq33 nIP gI gP Ri own_R0 nAI nAP) hZ (own_wd hw 36 rfl) (own_wd hw 2 rfl) (by decide) (by decide)) (g := (mkF m 54 #[.val (.ref a1), .val (.int (0 : Int32)), .val (.int (σ.1 (2 : Int32))), .val (.int (0 : Int32))] [(.int (0 : Int32)), (.int (σ.1 (2 : Int32))), (.ref a1)])) rfl (by rw [hml]; rfl) (Steps.refl _) (a := a1) q45a q45b (argsL := [(.int (σ.1 (2 : Int32))), (.int (0 : Int32))]) (rest := []) (lenOf pd_0 rfl) rfl (by show 2 * 0 + _ ≤ _; exact Nat.le_of_eq rfl) (hb hby d5_54) (fun _ _ => ⟨rfl, rfl, (by decide : 0 + 0 ≤ rO_1.cells), (by decide : 0 + 0 ≤ rO_1.slots)⟩)
    dsimp only [Pt.U, Pt.locs, Pt.cells, Pt.slots] at X45 l45 y45 z45 st45 hQ45
    subst l45 y45 z45
    obtain ⟨rfl, N45q, Kq45, VIq45, VPq45⟩ := hQ45
    have N45 := Fr.app N33 N45q
    have f46 := f34.keep Kq45
    have f47 := f35.keep Kq45 (ninS nAI (ninS nAP nin0))
    have f48 := f36.keep Kq45 (ninS nAI (ninS nAP nin0))
    have f49 := f37.keep Kq45 (ninS nAI (ninS nAP nin0))
    have f50 := f38.keep Kq45 (ninS nAI (ninS nAP nin0))
    have f51 := f39.keep Kq45 (ninS nKI (ninS nKP nin0))
    have Z52 := Nat.le_trans Z40 Kq45.1
    have K53 := K41.trans Kq45 (allS (Or.inl (List.mem_of_getElem? (i := 0) rfl)) (allS (Or.inl (List.mem_of_getElem? (i := 1) rfl)) all0))
    have go54 : Goes p e below s₁ (entryFrame m #[(.ref a1), (.int (2 : Int32))] 4) T45 (mkF m 57 #[.val (.ref a1), .val (.int (0 : Int32)), .val (.int (σ.1 (2 : Int32))), .val (.int (0 : Int32))] []) := fun t k => go44 t (st45.trans k)
    obtain ⟨fs, hr, hrun, hended, hW, hsame⟩ := X45.leave (v := none) (fun _ => rfl)
    have hup : own_up kf σ (2 : Int32) = (own_mv (own_mv σ (σ.1 (0 : Int32)) (2 : Int32)) (σ.1 (2 : Int32)) (0 : Int32)) := if_neg (fun h => h.elim (by decide) hc15)
    refine ⟨_, _, go54 _ ?_, hrun, hended, _, _, rfl, ?_, ⟨_, rfl⟩, hW, hsame.mono (by decide) (by decide)⟩
    · exact X45.returnOut hx Bd.returns (hb hby d5_57) hr
    · show QU2 Z _ _ _ _ _ _ _ _ _ _ _ _ _ T45.heap _
      exact ⟨rfl, N45, K53, by rw [hup]; exact VIq45, by rw [hup]; exact VPq45⟩
theorem d7_0 : decode prog_17_method_8_code 0 = .ok (.aload_n 0, 1) := by decide +kernel
theorem d7_1 : decode prog_17_method_8_code 1 = .ok (.getfield 13, 3) := by decide +kernel
theorem d7_4 : decode prog_17_method_8_code 4 = .ok (.iload_n 1, 1) := by decide +kernel
theorem d7_5 : decode prog_17_method_8_code 5 = .ok (.iaload, 1) := by decide +kernel
theorem d7_6 : decode prog_17_method_8_code 6 = .ok (.istore_n 2, 1) := by decide +kernel
theorem d7_7 : decode prog_17_method_8_code 7 = .ok (.iconst 2, 1) := by decide +kernel
theorem d7_8 : decode prog_17_method_8_code 8 = .ok (.iload_n 1, 1) := by decide +kernel
theorem d7_9 : decode prog_17_method_8_code 9 = .ok (.imul, 1) := by decide +kernel
theorem d7_10 : decode prog_17_method_8_code 10 = .ok (.iconst 1, 1) := by decide +kernel
theorem d7_11 : decode prog_17_method_8_code 11 = .ok (.iadd, 1) := by decide +kernel
theorem d7_12 : decode prog_17_method_8_code 12 = .ok (.istore_n 3, 1) := by decide +kernel
theorem d7_13 : decode prog_17_method_8_code 13 = .ok (.iload_n 3, 1) := by decide +kernel
theorem d7_14 : decode prog_17_method_8_code 14 = .ok (.aload_n 0, 1) := by decide +kernel
theorem d7_15 : decode prog_17_method_8_code 15 = .ok (.getfield 26, 3) := by decide +kernel
theorem d7_18 : decode prog_17_method_8_code 18 = .ok (.if_icmp .ge 76, 3) := by decide +kernel
theorem d7_21 : decode prog_17_method_8_code 21 = .ok (.iload_n 3, 1) := by decide +kernel
theorem d7_22 : decode prog_17_method_8_code 22 = .ok (.iconst 1, 1) := by decide +kernel
theorem d7_23 : decode prog_17_method_8_code 23 = .ok (.iadd, 1) := by decide +kernel
theorem d7_24 : decode prog_17_method_8_code 24 = .ok (.aload_n 0, 1) := by decide +kernel
theorem d7_25 : decode prog_17_method_8_code 25 = .ok (.getfield 26, 3) := by decide +kernel
theorem d7_28 : decode prog_17_method_8_code 28 = .ok (.if_icmp .ge 27, 3) := by decide +kernel
theorem d7_31 : decode prog_17_method_8_code 31 = .ok (.aload_n 0, 1) := by decide +kernel
theorem d7_32 : decode prog_17_method_8_code 32 = .ok (.aload_n 0, 1) := by decide +kernel
theorem d7_33 : decode prog_17_method_8_code 33 = .ok (.getfield 13, 3) := by decide +kernel
theorem d7_36 : decode prog_17_method_8_code 36 = .ok (.iload_n 3, 1) := by decide +kernel
theorem d7_37 : decode prog_17_method_8_code 37 = .ok (.iconst 1, 1) := by decide +kernel
theorem d7_38 : decode prog_17_method_8_code 38 = .ok (.iadd, 1) := by decide +kernel
theorem d7_39 : decode prog_17_method_8_code 39 = .ok (.iaload, 1) := by decide +kernel
theorem d7_40 : decode prog_17_method_8_code 40 = .ok (.aload_n 0, 1) := by decide +kernel
theorem d7_41 : decode prog_17_method_8_code 41 = .ok (.getfield 13, 3) := by decide +kernel
theorem d7_44 : decode prog_17_method_8_code 44 = .ok (.iload_n 3, 1) := by decide +kernel
theorem d7_45 : decode prog_17_method_8_code 45 = .ok (.iaload, 1) := by decide +kernel
theorem d7_46 : decode prog_17_method_8_code 46 = .ok (.invokevirtual 40, 3) := by decide +kernel
theorem d7_49 : decode prog_17_method_8_code 49 = .ok (.ifCond .eq 6, 3) := by decide +kernel
theorem d7_52 : decode prog_17_method_8_code 52 = .ok (.iinc 3 1, 3) := by decide +kernel
theorem d7_55 : decode prog_17_method_8_code 55 = .ok (.aload_n 0, 1) := by decide +kernel
theorem d7_56 : decode prog_17_method_8_code 56 = .ok (.aload_n 0, 1) := by decide +kernel
theorem d7_57 : decode prog_17_method_8_code 57 = .ok (.getfield 13, 3) := by decide +kernel
theorem d7_60 : decode prog_17_method_8_code 60 = .ok (.iload_n 3, 1) := by decide +kernel
theorem d7_61 : decode prog_17_method_8_code 61 = .ok (.iaload, 1) := by decide +kernel
theorem d7_62 : decode prog_17_method_8_code 62 = .ok (.iload_n 2, 1) := by decide +kernel
theorem d7_63 : decode prog_17_method_8_code 63 = .ok (.invokevirtual 40, 3) := by decide +kernel
theorem d7_66 : decode prog_17_method_8_code 66 = .ok (.ifCond .ne 6, 3) := by decide +kernel
theorem d7_69 : decode prog_17_method_8_code 69 = .ok (.goto 25, 3) := by decide +kernel
theorem d7_72 : decode prog_17_method_8_code 72 = .ok (.aload_n 0, 1) := by decide +kernel
theorem d7_73 : decode prog_17_method_8_code 73 = .ok (.aload_n 0, 1) := by decide +kernel
theorem d7_74 : decode prog_17_method_8_code 74 = .ok (.getfield 13, 3) := by decide +kernel
theorem d7_77 : decode prog_17_method_8_code 77 = .ok (.iload_n 3, 1) := by decide +kernel
theorem d7_78 : decode prog_17_method_8_code 78 = .ok (.iaload, 1) := by decide +kernel
theorem d7_79 : decode prog_17_method_8_code 79 = .ok (.iload_n 1, 1) := by decide +kernel
theorem d7_80 : decode prog_17_method_8_code 80 = .ok (.invokevirtual 44, 3) := by decide +kernel
theorem d7_83 : decode prog_17_method_8_code 83 = .ok (.iload_n 3, 1) := by decide +kernel
theorem d7_84 : decode prog_17_method_8_code 84 = .ok (.istore_n 1, 1) := by decide +kernel
theorem d7_85 : decode prog_17_method_8_code 85 = .ok (.iconst 2, 1) := by decide +kernel
theorem d7_86 : decode prog_17_method_8_code 86 = .ok (.iload_n 1, 1) := by decide +kernel
theorem d7_87 : decode prog_17_method_8_code 87 = .ok (.imul, 1) := by decide +kernel
theorem d7_88 : decode prog_17_method_8_code 88 = .ok (.iconst 1, 1) := by decide +kernel
theorem d7_89 : decode prog_17_method_8_code 89 = .ok (.iadd, 1) := by decide +kernel
theorem d7_90 : decode prog_17_method_8_code 90 = .ok (.istore_n 3, 1) := by decide +kernel
theorem d7_91 : decode prog_17_method_8_code 91 = .ok (.goto (-78), 3) := by decide +kernel
theorem d7_94 : decode prog_17_method_8_code 94 = .ok (.aload_n 0, 1) := by decide +kernel
theorem d7_95 : decode prog_17_method_8_code 95 = .ok (.iload_n 2, 1) := by decide +kernel
theorem d7_96 : decode prog_17_method_8_code 96 = .ok (.iload_n 1, 1) := by decide +kernel
theorem d7_97 : decode prog_17_method_8_code 97 = .ok (.invokevirtual 44, 3) := by decide +kernel
theorem d7_100 : decode prog_17_method_8_code 100 = .ok (.return_, 1) := by decide +kernel
theorem ef_rmD01 (m : MethodId) (a1 : Addr) : entryFrame m #[(.ref a1), (.int (0 : Int32))] 4 = mkF m 0 #[.val (.ref a1), .val (.int (0 : Int32)), .unset, .unset] [] := by first | (simp [entryFrame, mkF, argsToLocals, Value.category]; done) | rfl
def QD01 (Z : State) (a1 : Addr) (aK aI aP : Addr) (kk ki kp : ClassId) (kf : Int32 → UInt64) (σ : own_P) (h0 : Heap) (n0 : Nat) (v : Option Value) (h : Heap) (L : List Loc) : Prop := v = none ∧ Fr n0 L ∧ Keep h0 h [aI, aP] ∧ Arv Z h aI ki .int 3 (own_l (own_dn kf σ (0 : Int32) (1 : Int32)).1) (.int (0 : Int32)) ∧ Arv Z h aP kp .int 3 (own_l (own_dn kf σ (0 : Int32) (1 : Int32)).2) (.int (0 : Int32))
set_option maxRecDepth 65536 in
set_option maxHeartbeats 40000000 in
theorem rmD01 (l : Launch) (Z : State) (a0 : Array Value) (hw : ∀ d ∈ tables_1, d.before a0 Z = true) (ws : List Jvm.Cond) (a1 : Addr) (aK aI aP : Addr) (kk ki kp : ClassId) (kf : Int32 → UInt64) (σ : own_P) (h0 : Heap) (n0 : Nat) (Z0 : n0 ≤ h0.size) (E1 : Exa Z h0 a1 "com/example/covermesh/covermesh/algorithms/IndexedMinHeap") (FK : Fld Z h0 a1 "com/example/covermesh/covermesh/algorithms/IndexedMinHeap" "keys" "[D" (.ref aK)) (FI : Fld Z h0 a1 "com/example/covermesh/covermesh/algorithms/IndexedMinHeap" "items" "[I" (.ref aI)) (FP : Fld Z h0 a1 "com/example/covermesh/covermesh/algorithms/IndexedMinHeap" "positions" "[I" (.ref aP)) (FS : Fld Z h0 a1 "com/example/covermesh/covermesh/algorithms/IndexedMinHeap" "size" "I" (.int (1 : Int32))) (VK : Arv Z h0 aK kk .double 3 (own_d kf) (.double (0 : UInt64))) (VI : Arv Z h0 aI ki .int 3 (own_l σ.1) (.int (0 : Int32))) (VP : Arv Z h0 aP kp .int 3 (own_l σ.2) (.int (0 : Int32))) (nKI : aK ≠ aI) (nKP : aK ≠ aP) (nIP : aI ≠ aP) (nAK : a1 ≠ aK) (nAI : a1 ≠ aI) (nAP : a1 ≠ aP) (gA : n0 ≤ a1) (gK : n0 ≤ aK) (gI : n0 ≤ aI) (gP : n0 ≤ aP) (R0 : own_R (σ.1 (0 : Int32))) :
    MetFree l mN_0 (head1 (Jvm.Cond.code mN_0 prog_17_method_8_code 4 none :: ws) rO_1) (fun a U => a = #[(.ref a1), (.int (0 : Int32))] ∧ Z.Warmed39 U.vm ∧ U.heap = h0) (fun _ _ _ _ _ => True) (fun _ U o U' => ∃ v L, o = .returned v ∧ QD01 Z a1 aK aI aP kk ki kp kf σ h0 n0 v U'.heap L ∧ FrameEnd U o U' L rO_1.cells rO_1.slots) := by
  refine MetFree.of_bodySF (plainFor_of_name pn_0) hisR ?_
  intro p e s m args below meth c s₁ Bd hml0 hP hK
  obtain ⟨rfl, hZ, hh⟩ := hP
  have hx := Bd.exec
  have hby := Bd.bytes
  have hml : c.maxLocals = 4 := hml0
  have hown : s.vm.findClass "com/example/covermesh/covermesh/algorithms/IndexedMinHeap" = some m.cls := findClass_of_methodNamed Bd.named
  have hnm := (name_of_methodNamed Bd.named Bd.method).1
  have X0 : Stand p l e rO_1 s m #[(.ref a1), (.int (0 : Int32))] below meth c s₁ [] 0 0 := Stand.of_body Bd
  have e0 : s₁.heap = h0 := by rw [← hh, Bd.state]; rfl
  have N0 := Fr.nil n0
  have K0 := Keep.refl h0 [aI, aP]
  have go0 : Goes p e below s₁ (entryFrame m #[(.ref a1), (.int (0 : Int32))] 4) s₁ (mkF m 0 #[.val (.ref a1), .val (.int (0 : Int32)), .unset, .unset] []) := fun t k => castTop (ef_rmD01 m a1) k
  have go1 : Goes p e below s₁ (entryFrame m #[(.ref a1), (.int (0 : Int32))] 4) s₁ (mkF m 1 #[.val (.ref a1), .val (.int (0 : Int32)), .unset, .unset] [(.ref a1)]) := fun t k => by
    refine go0 t ?_
    refine XS.aloadN X0.here hx rfl (hb hby d7_0) rfl rfl ?_
    exact k
  obtain ⟨T2, X2, e2, st2⟩ := getF X0 hx hZ hown (host := "") (Or.inl (own_wd hw 13 rfl)) Via.refl e0 FI (g := (mkF m 1 #[.val (.ref a1), .val (.int (0 : Int32)), .unset, .unset] [(.ref a1)])) rfl rfl (hb hby d7_1)
  have go3 : Goes p e below s₁ (entryFrame m #[(.ref a1), (.int (0 : Int32))] 4) T2 (mkF m 4 #[.val (.ref a1), .val (.int (0 : Int32)), .unset, .unset] [(.ref aI)]) := fun t k => go1 t (st2 t k)
  have go4 : Goes p e below s₁ (entryFrame m #[(.ref a1), (.int (0 : Int32))] 4) T2 (mkF m 5 #[.val (.ref a1), .val (.int (0 : Int32)), .unset, .unset] [(.int (0 : Int32)), (.ref aI)]) := fun t k => by
    refine go3 t ?_
    refine XS.iloadN X2.here hx rfl (hb hby d7_4) rfl ?_
    exact k
  obtain ⟨cl5, Ar5, kq5, Sz5, Nn5, Hs5, Gf5⟩ := id (VI)
  have hin5 : ¬ ((0 : Int32) < 0 ∨ cl5.slots.size ≤ ((0 : Int32)).toNatClampNeg) := inb_of Sz5 (own_inb own_R0)
  have hat5 : cl5.slots[((0 : Int32)).toNatClampNeg]? = some (.int (σ.1 (0 : Int32))) := Has.at Hs5 hin5 (own_l_at own_R0)
  have go6 : Goes p e below s₁ (entryFrame m #[(.ref a1), (.int (0 : Int32))] 4) T2 (mkF m 15 #[.val (.ref a1), .val (.int (0 : Int32)), .val (.int (σ.1 (0 : Int32))), .val (.int (1 : Int32))] [(.ref a1), (.int (1 : Int32))]) := fun t k => by
    refine go4 t ?_
    refine X2.iaload hx (j := (0 : Int32)) (v := (.int (σ.1 (0 : Int32)))) (own_hp e2 Ar5.1) (State.isArrayOf_alike hZ.alike Ar5.2.1) Ar5.2.2 hin5 hat5 (g := (mkF m 5 #[.val (.ref a1), .val (.int (0 : Int32)), .unset, .unset] [(.int (0 : Int32)), (.ref aI)])) rfl rfl (hb hby d7_5) _ ?_
    refine XS.istoreN X2.here hx rfl (hb hby d7_6) rfl (l' := #[.val (.ref a1), .val (.int (0 : Int32)), .val (.int (σ.1 (0 : Int32))), .unset]) rfl ?_
    refine XS.iconst X2.here hx rfl (hb hby d7_7) ?_
    refine XS.iloadN X2.here hx rfl (hb hby d7_8) rfl ?_
    refine XS.imul X2.here hx rfl (hb hby d7_9) rfl ?_
    refine XS.iconst X2.here hx rfl (hb hby d7_10) ?_
    show Steps p.tables e below (T2.setTop (mkF m 11 #[.val (.ref a1), .val (.int (0 : Int32)), .val (.int (σ.1 (0 : Int32))), .unset] [(.int (1 : Int32)), (.int (0 : Int32))])) _
    refine XS.iadd X2.here hx rfl (hb hby d7_11) rfl ?_
    refine XS.istoreN X2.here hx rfl (hb hby d7_12) rfl (l' := #[.val (.ref a1), .val (.int (0 : Int32)), .val (.int (σ.1 (0 : Int32))), .val (.int (1 : Int32))]) rfl ?_
    refine XS.iloadN X2.here hx rfl (hb hby d7_13) rfl ?_
    refine XS.aloadN X2.here hx rfl (hb hby d7_14) rfl rfl ?_
    exact k
  obtain ⟨T7, X7, e7, st7⟩ := getF X2 hx hZ hown (host := "") (Or.inl (own_wd hw 27 rfl)) Via.refl e2 FS (g := (mkF m 15 #[.val (.ref a1), .val (.int (0 : Int32)), .val (.int (σ.1 (0 : Int32))), .val (.int (1 : Int32))] [(.ref a1), (.int (1 : Int32))])) rfl rfl (hb hby d7_15)
  have go8 : Goes p e below s₁ (entryFrame m #[(.ref a1), (.int (0 : Int32))] 4) T7 (mkF m 18 #[.val (.ref a1), .val (.int (0 : Int32)), .val (.int (σ.1 (0 : Int32))), .val (.int (1 : Int32))] [(.int (1 : Int32)), (.int (1 : Int32))]) := fun t k => go6 t (st7 t k)
  have go9 : Goes p e below s₁ (entryFrame m #[(.ref a1), (.int (0 : Int32))] 4) T7 (mkF m 97 #[.val (.ref a1), .val (.int (0 : Int32)), .val (.int (σ.1 (0 : Int32))), .val (.int (1 : Int32))] [(.int (0 : Int32)), (.int (σ.1 (0 : Int32))), (.ref a1)]) := fun t k => by
    refine go8 t ?_
    refine XS.icmpYes X7.here hx rfl (pc0 := 18) (pc' := 94) rfl (hb hby d7_18) rfl (Jvm.Free.XT.ii_ge_t (by decide)) (by decide) (by decide) ?_
    refine XS.aloadN X7.here hx rfl (hb hby d7_94) rfl rfl ?_
    refine XS.iloadN X7.here hx rfl (hb hby d7_95) rfl ?_
    refine XS.iloadN X7.here hx rfl (hb hby d7_96) rfl ?_
    exact k
  obtain ⟨cq10, q10a, q10b⟩ := E1.cell
  obtain ⟨_, _, ⟨T10, L10, k10, n10⟩, -, X10, ⟨Lc10, hQ10, l10, y10, z10⟩, st10⟩ := X7.privateBack hx (y := mN_1) hown (mvT hZ (own_wd hw 33 rfl)) (mvT hZ (own_wd hw 34 rfl)) (own_selp (y := mN_1) (by decide) (mvT hZ (own_wd hw 1 rfl)) (mvP hZ (own_wd hw 35 rfl)) (mvT hZ (own_wd hw 34 rfl))) (Cond.privateMethod_at (mvP hZ (own_wd hw 35 rfl) (args := #[]))) (mvT hZ (own_wd hw 36 rfl)) (by decide) (backOf (W := 0) (rmMv l Z a0 hw [] a1 (σ.1 (0 : Int32)) (0 : Int32) aI aP ki kp σ h0 n0 Z0 FI FP VI VP nIP gI gP R0 own_R0 nAI nAP) hZ (own_wd hw 36 rfl) (own_wd hw 2 rfl) (by decide) (by decide)) (g := (mkF m 97 #[.val (.ref a1), .val (.int (0 : Int32)), .val (.int (σ.1 (0 : Int32))), .val (.int (1 : Int32))] [(.int (0 : Int32)), (.int (σ.1 (0 : Int32))), (.ref a1)])) rfl (by rw [hml]; rfl) (Steps.refl _) (a := a1) (by rw [e7]; exact q10a) q10b (argsL := [(.int (σ.1 (0 : Int32))), (.int (0 : Int32))]) (rest := []) (lenOf pd_0 rfl) rfl (by show 2 * 0 + _ ≤ _; exact Nat.le_of_eq rfl) (hb hby d7_97) (fun _ _ => ⟨rfl, e7, (by decide : 0 + 0 ≤ rO_1.cells), (by decide : 0 + 0 ≤ rO_1.slots)⟩)
  dsimp only [Pt.U, Pt.locs, Pt.cells, Pt.slots] at X10 l10 y10 z10 st10 hQ10
  subst l10 y10 z10
  obtain ⟨rfl, N10q, Kq10, VIq10, VPq10⟩ := hQ10
  have N10 := Fr.app N0 N10q
  have f11 := E1.keep Kq10
  have f12 := FK.keep Kq10 (ninS nAI (ninS nAP nin0))
  have f13 := FI.keep Kq10 (ninS nAI (ninS nAP nin0))
  have f14 := FP.keep Kq10 (ninS nAI (ninS nAP nin0))
  have f15 := FS.keep Kq10 (ninS nAI (ninS nAP nin0))
  have f16 := VK.keep Kq10 (ninS nKI (ninS nKP nin0))
  have Z17 := Nat.le_trans Z0 Kq10.1
  have K18 := K0.trans Kq10 (allS (Or.inl (List.mem_of_getElem? (i := 0) rfl)) (allS (Or.inl (List.mem_of_getElem? (i := 1) rfl)) all0))
  have go19 : Goes p e below s₁ (entryFrame m #[(.ref a1), (.int (0 : Int32))] 4) T10 (mkF m 100 #[.val (.ref a1), .val (.int (0 : Int32)), .val (.int (σ.1 (0 : Int32))), .val (.int (1 : Int32))] []) := fun t k => go9 t (st10.trans k)
  obtain ⟨fs, hr, hrun, hended, hW, hsame⟩ := X10.leave (v := none) (fun _ => rfl)
  have hdn : own_dn kf σ (0 : Int32) (1 : Int32) = (own_mv σ (σ.1 (0 : Int32)) (0 : Int32)) := by simp [own_dn, own_ch]
  refine ⟨_, _, go19 _ ?_, hrun, hended, _, _, rfl, ?_, ⟨_, rfl⟩, hW, hsame.mono (by decide) (by decide)⟩
  · exact X10.returnOut hx Bd.returns (hb hby d7_100) hr
  · show QD01 Z _ _ _ _ _ _ _ _ _ _ _ _ T10.heap _
    exact ⟨rfl, N10, K18, by rw [hdn]; exact VIq10, by rw [hdn]; exact VPq10⟩
theorem ef_rmD02 (m : MethodId) (a1 : Addr) : entryFrame m #[(.ref a1), (.int (0 : Int32))] 4 = mkF m 0 #[.val (.ref a1), .val (.int (0 : Int32)), .unset, .unset] [] := by first | (simp [entryFrame, mkF, argsToLocals, Value.category]; done) | rfl
def QD02 (Z : State) (a1 : Addr) (aK aI aP : Addr) (kk ki kp : ClassId) (kf : Int32 → UInt64) (σ : own_P) (h0 : Heap) (n0 : Nat) (v : Option Value) (h : Heap) (L : List Loc) : Prop := v = none ∧ Fr n0 L ∧ Keep h0 h [aI, aP] ∧ Arv Z h aI ki .int 3 (own_l (own_dn kf σ (0 : Int32) (2 : Int32)).1) (.int (0 : Int32)) ∧ Arv Z h aP kp .int 3 (own_l (own_dn kf σ (0 : Int32) (2 : Int32)).2) (.int (0 : Int32))
set_option maxRecDepth 65536 in
set_option maxHeartbeats 40000000 in
theorem rmD02 (l : Launch) (Z : State) (a0 : Array Value) (hw : ∀ d ∈ tables_1, d.before a0 Z = true) (ws : List Jvm.Cond) (a1 : Addr) (aK aI aP : Addr) (kk ki kp : ClassId) (kf : Int32 → UInt64) (σ : own_P) (h0 : Heap) (n0 : Nat) (Z0 : n0 ≤ h0.size) (E1 : Exa Z h0 a1 "com/example/covermesh/covermesh/algorithms/IndexedMinHeap") (FK : Fld Z h0 a1 "com/example/covermesh/covermesh/algorithms/IndexedMinHeap" "keys" "[D" (.ref aK)) (FI : Fld Z h0 a1 "com/example/covermesh/covermesh/algorithms/IndexedMinHeap" "items" "[I" (.ref aI)) (FP : Fld Z h0 a1 "com/example/covermesh/covermesh/algorithms/IndexedMinHeap" "positions" "[I" (.ref aP)) (FS : Fld Z h0 a1 "com/example/covermesh/covermesh/algorithms/IndexedMinHeap" "size" "I" (.int (2 : Int32))) (VK : Arv Z h0 aK kk .double 3 (own_d kf) (.double (0 : UInt64))) (VI : Arv Z h0 aI ki .int 3 (own_l σ.1) (.int (0 : Int32))) (VP : Arv Z h0 aP kp .int 3 (own_l σ.2) (.int (0 : Int32))) (nKI : aK ≠ aI) (nKP : aK ≠ aP) (nIP : aI ≠ aP) (nAK : a1 ≠ aK) (nAI : a1 ≠ aI) (nAP : a1 ≠ aP) (gA : n0 ≤ a1) (gK : n0 ≤ aK) (gI : n0 ≤ aI) (gP : n0 ≤ aP) (R0 : own_R (σ.1 (0 : Int32))) (R1 : own_R (σ.1 (1 : Int32))) :
    MetFree l mN_0 (head1 (Jvm.Cond.code mN_0 prog_17_method_8_code 4 none :: ws) rO_1) (fun a U => a = #[(.ref a1), (.int (0 : Int32))] ∧ Z.Warmed39 U.vm ∧ U.heap = h0) (fun _ _ _ _ _ => True) (fun _ U o U' => ∃ v L, o = .returned v ∧ QD02 Z a1 aK aI aP kk ki kp kf σ h0 n0 v U'.heap L ∧ FrameEnd U o U' L rO_1.cells rO_1.slots) := by
  refine MetFree.of_bodySF (plainFor_of_name pn_0) hisR ?_
  intro p e s m args below meth c s₁ Bd hml0 hP hK
  obtain ⟨rfl, hZ, hh⟩ := hP
  have hx := Bd.exec
  have hby := Bd.bytes
  have hml : c.maxLocals = 4 := hml0
  have hown : s.vm.findClass "com/example/covermesh/covermesh/algorithms/IndexedMinHeap" = some m.cls := findClass_of_methodNamed Bd.named
  have hnm := (name_of_methodNamed Bd.named Bd.method).1
  have X0 : Stand p l e rO_1 s m #[(.ref a1), (.int (0 : Int32))] below meth c s₁ [] 0 0 := Stand.of_body Bd
  have e0 : s₁.heap = h0 := by rw [← hh, Bd.state]; rfl
  have N0 := Fr.nil n0
  have K0 := Keep.refl h0 [aI, aP]
  have go0 : Goes p e below s₁ (entryFrame m #[(.ref a1), (.int (0 : Int32))] 4) s₁ (mkF m 0 #[.val (.ref a1), .val (.int (0 : Int32)), .unset, .unset] []) := fun t k => castTop (ef_rmD02 m a1) k
  have go1 : Goes p e below s₁ (entryFrame m #[(.ref a1), (.int (0 : Int32))] 4) s₁ (mkF m 1 #[.val (.ref a1), .val (.int (0 : Int32)), .unset, .unset] [(.ref a1)]) := fun t k => by
    refine go0 t ?_
    refine XS.aloadN X0.here hx rfl (hb hby d7_0) rfl rfl ?_
    exact k
  obtain ⟨T2, X2, e2, st2⟩ := getF X0 hx hZ hown (host := "") (Or.inl (own_wd hw 13 rfl)) Via.refl e0 FI (g := (mkF m 1 #[.val (.ref a1), .val (.int (0 : Int32)), .unset, .unset] [(.ref a1)])) rfl rfl (hb hby d7_1)
  have go3 : Goes p e below s₁ (entryFrame m #[(.ref a1), (.int (0 : Int32))] 4) T2 (mkF m 4 #[.val (.ref a1), .val (.int (0 : Int32)), .unset, .unset] [(.ref aI)]) := fun t k => go1 t (st2 t k)
  have go4 : Goes p e below s₁ (entryFrame m #[(.ref a1), (.int (0 : Int32))] 4) T2 (mkF m 5 #[.val (.ref a1), .val (.int (0 : Int32)), .unset, .unset] [(.int (0 : Int32)), (.ref aI)]) := fun t k => by
    refine go3 t ?_
    refine XS.iloadN X2.here hx rfl (hb hby d7_4) rfl ?_
    exact k
  obtain ⟨cl5, Ar5, kq5, Sz5, Nn5, Hs5, Gf5⟩ := id (VI)
  have hin5 : ¬ ((0 : Int32) < 0 ∨ cl5.slots.size ≤ ((0 : Int32)).toNatClampNeg) := inb_of Sz5 (own_inb own_R0)
  have hat5 : cl5.slots[((0 : Int32)).toNatClampNeg]? = some (.int (σ.1 (0 : Int32))) := Has.at Hs5 hin5 (own_l_at own_R0)
  have go6 : Goes p e below s₁ (entryFrame m #[(.ref a1), (.int (0 : Int32))] 4) T2 (mkF m 15 #[.val (.ref a1), .val (.int (0 : Int32)), .val (.int (σ.1 (0 : Int32))), .val (.int (1 : Int32))] [(.ref a1), (.int (1 : Int32))]) := fun t k => by
    refine go4 t ?_
    refine X2.iaload hx (j := (0 : Int32)) (v := (.int (σ.1 (0 : Int32)))) (own_hp e2 Ar5.1) (State.isArrayOf_alike hZ.alike Ar5.2.1) Ar5.2.2 hin5 hat5 (g := (mkF m 5 #[.val (.ref a1), .val (.int (0 : Int32)), .unset, .unset] [(.int (0 : Int32)), (.ref aI)])) rfl rfl (hb hby d7_5) _ ?_
    refine XS.istoreN X2.here hx rfl (hb hby d7_6) rfl (l' := #[.val (.ref a1), .val (.int (0 : Int32)), .val (.int (σ.1 (0 : Int32))), .unset]) rfl ?_
    refine XS.iconst X2.here hx rfl (hb hby d7_7) ?_
    refine XS.iloadN X2.here hx rfl (hb hby d7_8) rfl ?_
    refine XS.imul X2.here hx rfl (hb hby d7_9) rfl ?_
    refine XS.iconst X2.here hx rfl (hb hby d7_10) ?_
    show Steps p.tables e below (T2.setTop (mkF m 11 #[.val (.ref a1), .val (.int (0 : Int32)), .val (.int (σ.1 (0 : Int32))), .unset] [(.int (1 : Int32)), (.int (0 : Int32))])) _
    refine XS.iadd X2.here hx rfl (hb hby d7_11) rfl ?_
    refine XS.istoreN X2.here hx rfl (hb hby d7_12) rfl (l' := #[.val (.ref a1), .val (.int (0 : Int32)), .val (.int (σ.1 (0 : Int32))), .val (.int (1 : Int32))]) rfl ?_
    refine XS.iloadN X2.here hx rfl (hb hby d7_13) rfl ?_
    refine XS.aloadN X2.here hx rfl (hb hby d7_14) rfl rfl ?_
    exact k
  obtain ⟨T7, X7, e7, st7⟩ := getF X2 hx hZ hown (host := "") (Or.inl (own_wd hw 27 rfl)) Via.refl e2 FS (g := (mkF m 15 #[.val (.ref a1), .val (.int (0 : Int32)), .val (.int (σ.1 (0 : Int32))), .val (.int (1 : Int32))] [(.ref a1), (.int (1 : Int32))])) rfl rfl (hb hby d7_15)
  have go8 : Goes p e below s₁ (entryFrame m #[(.ref a1), (.int (0 : Int32))] 4) T7 (mkF m 18 #[.val (.ref a1), .val (.int (0 : Int32)), .val (.int (σ.1 (0 : Int32))), .val (.int (1 : Int32))] [(.int (2 : Int32)), (.int (1 : Int32))]) := fun t k => go6 t (st7 t k)
  have go9 : Goes p e below s₁ (entryFrame m #[(.ref a1), (.int (0 : Int32))] 4) T7 (mkF m 25 #[.val (.ref a1), .val (.int (0 : Int32)), .val (.int (σ.1 (0 : Int32))), .val (.int (1 : Int32))] [(.ref a1), (.int (2 : Int32))]) := fun t k => by
    refine go8 t ?_
    refine XS.icmpNo X7.here hx rfl (hb hby d7_18) rfl (Jvm.Free.XT.ii_ge_f (by decide)) ?_
    refine XS.iloadN X7.here hx rfl (hb hby d7_21) rfl ?_
    refine XS.iconst X7.here hx rfl (hb hby d7_22) ?_
    refine XS.iadd X7.here hx rfl (hb hby d7_23) rfl ?_
    refine XS.aloadN X7.here hx rfl (hb hby d7_24) rfl rfl ?_
    exact k
  obtain ⟨T10, X10, e10, st10⟩ := getF X7 hx hZ hown (host := "") (Or.inl (own_wd hw 27 rfl)) Via.refl e7 FS (g := (mkF m 25 #[.val (.ref a1), .val (.int (0 : Int32)), .val (.int (σ.1 (0 : Int32))), .val (.int (1 : Int32))] [(.ref a1), (.int (2 : Int32))])) rfl rfl (hb hby d7_25)
  have go11 : Goes p e below s₁ (entryFrame m #[(.ref a1), (.int (0 : Int32))] 4) T10 (mkF m 28 #[.val (.ref a1), .val (.int (0 : Int32)), .val (.int (σ.1 (0 : Int32))), .val (.int (1 : Int32))] [(.int (2 : Int32)), (.int (2 : Int32))]) := fun t k => go9 t (st10 t k)
  have go12 : Goes p e below s₁ (entryFrame m #[(.ref a1), (.int (0 : Int32))] 4) T10 (mkF m 57 #[.val (.ref a1), .val (.int (0 : Int32)), .val (.int (σ.1 (0 : Int32))), .val (.int (1 : Int32))] [(.ref a1), (.ref a1)]) := fun t k => by
    refine go11 t ?_
    refine XS.icmpYes X10.here hx rfl (pc0 := 28) (pc' := 55) rfl (hb hby d7_28) rfl (Jvm.Free.XT.ii_ge_t (by decide)) (by decide) (by decide) ?_
    refine XS.aloadN X10.here hx rfl (hb hby d7_55) rfl rfl ?_
    refine XS.aloadN X10.here hx rfl (hb hby d7_56) rfl rfl ?_
    exact k
  obtain ⟨T13, X13, e13, st13⟩ := getF X10 hx hZ hown (host := "") (Or.inl (own_wd hw 13 rfl)) Via.refl e10 FI (g := (mkF m 57 #[.val (.ref a1), .val (.int (0 : Int32)), .val (.int (σ.1 (0 : Int32))), .val (.int (1 : Int32))] [(.ref a1), (.ref a1)])) rfl rfl (hb hby d7_57)
  have go14 : Goes p e below s₁ (entryFrame m #[(.ref a1), (.int (0 : Int32))] 4) T13 (mkF m 60 #[.val (.ref a1), .val (.int (0 : Int32)), .val (.int (σ.1 (0 : Int32))), .val (.int (1 : Int32))] [(.ref aI), (.ref a1)]) := fun t k => go12 t (st13 t k)
  have go15 : Goes p e below s₁ (entryFrame m #[(.ref a1), (.int (0 : Int32))] 4) T13 (mkF m 61 #[.val (.ref a1), .val (.int (0 : Int32)), .val (.int (σ.1 (0 : Int32))), .val (.int (1 : Int32))] [(.int (1 : Int32)), (.ref aI), (.ref a1)]) := fun t k => by
    refine go14 t ?_
    refine XS.iloadN X13.here hx rfl (hb hby d7_60) rfl ?_
    exact k
  obtain ⟨cl16, Ar16, kq16, Sz16, Nn16, Hs16, Gf16⟩ := id (VI)
  have hin16 : ¬ ((1 : Int32) < 0 ∨ cl16.slots.size ≤ ((1 : Int32)).toNatClampNeg) := inb_of Sz16 (own_inb own_R1)
  have hat16 : cl16.slots[((1 : Int32)).toNatClampNeg]? = some (.int (σ.1 (1 : Int32))) := Has.at Hs16 hin16 (own_l_at own_R1)
  have go17 : Goes p e below s₁ (entryFrame m #[(.ref a1), (.int (0 : Int32))] 4) T13 (mkF m 63 #[.val (.ref a1), .val (.int (0 : Int32)), .val (.int (σ.1 (0 : Int32))), .val (.int (1 : Int32))] [(.int (σ.1 (0 : Int32))), (.int (σ.1 (1 : Int32))), (.ref a1)]) := fun t k => by
    refine go15 t ?_
    refine X13.iaload hx (j := (1 : Int32)) (v := (.int (σ.1 (1 : Int32)))) (own_hp e13 Ar16.1) (State.isArrayOf_alike hZ.alike Ar16.2.1) Ar16.2.2 hin16 hat16 (g := (mkF m 61 #[.val (.ref a1), .val (.int (0 : Int32)), .val (.int (σ.1 (0 : Int32))), .val (.int (1 : Int32))] [(.int (1 : Int32)), (.ref aI), (.ref a1)])) rfl rfl (hb hby d7_61) _ ?_
    refine XS.iloadN X13.here hx rfl (hb hby d7_62) rfl ?_
    exact k
  obtain ⟨cq18, q18a, q18b⟩ := E1.cell
  obtain ⟨_, _, ⟨T18, L18, k18, n18⟩, -, X18, ⟨Lc18, hQ18, l18, y18, z18⟩, st18⟩ := X13.privateBack hx (y := mN_5) hown (mvT hZ (own_wd hw 51 rfl)) (mvT hZ (own_wd hw 52 rfl)) (own_selp (y := mN_5) (by decide) (mvT hZ (own_wd hw 1 rfl)) (mvP hZ (own_wd hw 53 rfl)) (mvT hZ (own_wd hw 52 rfl))) (Cond.privateMethod_at (mvP hZ (own_wd hw 53 rfl) (args := #[]))) (mvT hZ (own_wd hw 54 rfl)) (by decide) (backOf (W := 0) (rmLe l Z a0 hw [] a1 (σ.1 (1 : Int32)) (σ.1 (0 : Int32)) aK kk kf h0 n0 Z0 FK VK R1 R0) hZ (own_wd hw 54 rfl) (own_wd hw 2 rfl) (by decide) (by decide)) (g := (mkF m 63 #[.val (.ref a1), .val (.int (0 : Int32)), .val (.int (σ.1 (0 : Int32))), .val (.int (1 : Int32))] [(.int (σ.1 (0 : Int32))), (.int (σ.1 (1 : Int32))), (.ref a1)])) rfl (by rw [hml]; rfl) (Steps.refl _) (a := a1) (by rw [e13]; exact q18a) q18b (argsL := [(.int (σ.1 (1 : Int32))), (.int (σ.1 (0 : Int32)))]) (rest := []) (lenOf pd_1 rfl) rfl (by show 2 * 0 + _ ≤ _; exact Nat.le_of_eq rfl) (hb hby d7_63) (fun _ _ => ⟨rfl, e13, (by decide : 0 + 0 ≤ rO_1.cells), (by decide : 0 + 0 ≤ rO_1.slots)⟩)
  dsimp only [Pt.U, Pt.locs, Pt.cells, Pt.slots] at X18 l18 y18 z18 st18 hQ18
  subst l18 y18 z18
  obtain ⟨rfl, N18q, e18⟩ := hQ18
  have N18 := Fr.app N0 N18q
  have go19 : Goes p e below s₁ (entryFrame m #[(.ref a1), (.int (0 : Int32))] 4) T18 (mkF m 66 #[.val (.ref a1), .val (.int (0 : Int32)), .val (.int (σ.1 (0 : Int32))), .val (.int (1 : Int32))] [(.int (own_less kf (σ.1 (1 : Int32)) (σ.1 (0 : Int32))))]) := fun t k => go17 t (st18.trans k)
  by_cases hc20 : (own_less kf (σ.1 (1 : Int32)) (σ.1 (0 : Int32))) = (0 : Int32)
  · have go21 : Goes p e below s₁ (entryFrame m #[(.ref a1), (.int (0 : Int32))] 4) T18 (mkF m 97 #[.val (.ref a1), .val (.int (0 : Int32)), .val (.int (σ.1 (0 : Int32))), .val (.int (1 : Int32))] [(.int (0 : Int32)), (.int (σ.1 (0 : Int32))), (.ref a1)]) := fun t k => by
      refine go19 t ?_
      refine XS.ifNo X18.here hx rfl (hb hby d7_66) rfl (Jvm.Free.XT.i0_ne_f hc20) ?_
      refine XS.goto X18.here hx rfl (pc0 := 69) (pc' := 94) rfl (hb hby d7_69) (by decide) (by decide) ?_
      refine XS.aloadN X18.here hx rfl (hb hby d7_94) rfl rfl ?_
      refine XS.iloadN X18.here hx rfl (hb hby d7_95) rfl ?_
      refine XS.iloadN X18.here hx rfl (hb hby d7_96) rfl ?_
      exact k
    obtain ⟨cq22, q22a, q22b⟩ := E1.cell
    obtain ⟨_, _, ⟨T22, L22, k22, n22⟩, -, X22, ⟨Lc22, hQ22, l22, y22, z22⟩, st22⟩ := X18.privateBack hx (y := mN_1) hown (mvT hZ (own_wd hw 33 rfl)) (mvT hZ (own_wd hw 34 rfl)) (own_selp (y := mN_1) (by decide) (mvT hZ (own_wd hw 1 rfl)) (mvP hZ (own_wd hw 35 rfl)) (mvT hZ (own_wd hw 34 rfl))) (Cond.privateMethod_at (mvP hZ (own_wd hw 35 rfl) (args := #[]))) (mvT hZ (own_wd hw 36 rfl)) (by decide) (backOf (W := 0) (rmMv l Z a0 hw [] a1 (σ.1 (0 : Int32)) (0 : Int32) aI aP ki kp σ h0 n0 Z0 FI FP VI VP nIP gI gP R0 own_R0 nAI nAP) hZ (own_wd hw 36 rfl) (own_wd hw 2 rfl) (by decide) (by decide)) (g := (mkF m 97 #[.val (.ref a1), .val (.int (0 : Int32)), .val (.int (σ.1 (0 : Int32))), .val (.int (1 : Int32))] [(.int (0 : Int32)), (.int (σ.1 (0 : Int32))), (.ref a1)])) rfl (by rw [hml]; rfl) (Steps.refl _) (a := a1) (by rw [e18]; exact q22a) q22b (argsL := [(.int (σ.1 (0 : Int32))), (.int (0 : Int32))]) (rest := []) (lenOf pd_0 rfl) rfl (by show 2 * 0 + _ ≤ _; exact Nat.le_of_eq rfl) (hb hby d7_97) (fun _ _ => ⟨rfl, e18, (by decide : 0 + 0 ≤ rO_1.cells), (by decide : 0 + 0 ≤ rO_1.slots)⟩)
    dsimp only [Pt.U, Pt.locs, Pt.cells, Pt.slots] at X22 l22 y22 z22 st22 hQ22
    subst l22 y22 z22
    obtain ⟨rfl, N22q, Kq22, VIq22, VPq22⟩ := hQ22
    have N22 := Fr.app N18 N22q
    have f23 := E1.keep Kq22
    have f24 := FK.keep Kq22 (ninS nAI (ninS nAP nin0))
    have f25 := FI.keep Kq22 (ninS nAI (ninS nAP nin0))
    have f26 := FP.keep Kq22 (ninS nAI (ninS nAP nin0))
    have f27 := FS.keep Kq22 (ninS nAI (ninS nAP nin0))
    have f28 := VK.keep Kq22 (ninS nKI (ninS nKP nin0))
    have Z29 := Nat.le_trans Z0 Kq22.1
    have K30 := K0.trans Kq22 (allS (Or.inl (List.mem_of_getElem? (i := 0) rfl)) (allS (Or.inl (List.mem_of_getElem? (i := 1) rfl)) all0))
    have go31 : Goes p e below s₁ (entryFrame m #[(.ref a1), (.int (0 : Int32))] 4) T22 (mkF m 100 #[.val (.ref a1), .val (.int (0 : Int32)), .val (.int (σ.1 (0 : Int32))), .val (.int (1 : Int32))] []) := fun t k => go21 t (st22.trans k)
    obtain ⟨fs, hr, hrun, hended, hW, hsame⟩ := X22.leave (v := none) (fun _ => rfl)
    have hdn : own_dn kf σ (0 : Int32) (2 : Int32) = (own_mv σ (σ.1 (0 : Int32)) (0 : Int32)) := by simp [own_dn, own_ch, hc20]
    refine ⟨_, _, go31 _ ?_, hrun, hended, _, _, rfl, ?_, ⟨_, rfl⟩, hW, hsame.mono (by decide) (by decide)⟩
    · exact X22.returnOut hx Bd.returns (hb hby d7_100) hr
    · show QD02 Z _ _ _ _ _ _ _ _ _ _ _ _ T22.heap _
      exact ⟨rfl, N22, K30, by rw [hdn]; exact VIq22, by rw [hdn]; exact VPq22⟩
  · have go32 : Goes p e below s₁ (entryFrame m #[(.ref a1), (.int (0 : Int32))] 4) T18 (mkF m 74 #[.val (.ref a1), .val (.int (0 : Int32)), .val (.int (σ.1 (0 : Int32))), .val (.int (1 : Int32))] [(.ref a1), (.ref a1)]) := fun t k => by
      refine go19 t ?_
      refine XS.ifYes X18.here hx rfl (pc0 := 66) (pc' := 72) rfl (hb hby d7_66) rfl (Jvm.Free.XT.i0_ne_t hc20) (by decide) (by decide) ?_
      refine XS.aloadN X18.here hx rfl (hb hby d7_72) rfl rfl ?_
      refine XS.aloadN X18.here hx rfl (hb hby d7_73) rfl rfl ?_
      exact k
    obtain ⟨T33, X33, e33, st33⟩ := getF X18 hx hZ hown (host := "") (Or.inl (own_wd hw 13 rfl)) Via.refl e18 FI (g := (mkF m 74 #[.val (.ref a1), .val (.int (0 : Int32)), .val (.int (σ.1 (0 : Int32))), .val (.int (1 : Int32))] [(.ref a1), (.ref a1)])) rfl rfl (hb hby d7_74)
    have go34 : Goes p e below s₁ (entryFrame m #[(.ref a1), (.int (0 : Int32))] 4) T33 (mkF m 77 #[.val (.ref a1), .val (.int (0 : Int32)), .val (.int (σ.1 (0 : Int32))), .val (.int (1 : Int32))] [(.ref aI), (.ref a1)]) := fun t k => go32 t (st33 t k)
    have go35 : Goes p e below s₁ (entryFrame m #[(.ref a1), (.int (0 : Int32))] 4) T33 (mkF m 78 #[.val (.ref a1), .val (.int (0 : Int32)), .val (.int (σ.1 (0 : Int32))), .val (.int (1 : Int32))] [(.int (1 : Int32)), (.ref aI), (.ref a1)]) := fun t k => by
      refine go34 t ?_
      refine XS.iloadN X33.here hx rfl (hb hby d7_77) rfl ?_
      exact k
    obtain ⟨cl36, Ar36, kq36, Sz36, Nn36, Hs36, Gf36⟩ := id (VI)
    have hin36 : ¬ ((1 : Int32) < 0 ∨ cl36.slots.size ≤ ((1 : Int32)).toNatClampNeg) := inb_of Sz36 (own_inb own_R1)
    have hat36 : cl36.slots[((1 : Int32)).toNatClampNeg]? = some (.int (σ.1 (1 : Int32))) := Has.at Hs36 hin36 (own_l_at own_R1)
    have go37 : Goes p e below s₁ (entryFrame m #[(.ref a1), (.int (0 : Int32))] 4) T33 (mkF m 80 #[.val (.ref a1), .val (.int (0 : Int32)), .val (.int (σ.1 (0 : Int32))), .val (.int (1 : Int32))] [(.int (0 : Int32)), (.int (σ.1 (1 : Int32))), (.ref a1)]) := fun t k => by
      refine go35 t ?_
      refine X33.iaload hx (j := (1 : Int32)) (v := (.int (σ.1 (1 : Int32)))) (own_hp e33 Ar36.1) (State.isArrayOf_alike hZ.alike Ar36.2.1) Ar36.2.2 hin36 hat36 (g := (mkF m 78 #[.val (.ref a1), .val (.int (0 : Int32)), .val (.int (σ.1 (0 : Int32))), .val (.int (1 : Int32))] [(.int (1 : Int32)), (.ref aI), (.ref a1)])) rfl rfl (hb hby d7_78) _ ?_
      refine XS.iloadN X33.here hx rfl (hb hby d7_79) rfl ?_
      exact k
    obtain ⟨cq38, q38a, q38b⟩ := E1.cell
    obtain ⟨_, _, ⟨T38, L38, k38, n38⟩, -, X38, ⟨Lc38, hQ38, l38, y38, z38⟩, st38⟩ := X33.privateBack hx (y := mN_1) hown (mvT hZ (own_wd hw 33 rfl)) (mvT hZ (own_wd hw 34 rfl)) (own_selp (y := mN_1) (by decide) (mvT hZ (own_wd hw 1 rfl)) (mvP hZ (own_wd hw 35 rfl)) (mvT hZ (own_wd hw 34 rfl))) (Cond.privateMethod_at (mvP hZ (own_wd hw 35 rfl) (args := #[]))) (mvT hZ (own_wd hw 36 rfl)) (by decide) (backOf (W := 0) (rmMv l Z a0 hw [] a1 (σ.1 (1 : Int32)) (0 : Int32) aI aP ki kp σ h0 n0 Z0 FI FP VI VP nIP gI gP R1 own_R0 nAI nAP) hZ (own_wd hw 36 rfl) (own_wd hw 2 rfl) (by decide) (by decide)) (g := (mkF m 80 #[.val (.ref a1), .val (.int (0 : Int32)), .val (.int (σ.1 (0 : Int32))), .val (.int (1 : Int32))] [(.int (0 : Int32)), (.int (σ.1 (1 : Int32))), (.ref a1)])) rfl (by rw [hml]; rfl) (Steps.refl _) (a := a1) (by rw [e33]; exact q38a) q38b (argsL := [(.int (σ.1 (1 : Int32))), (.int (0 : Int32))]) (rest := []) (lenOf pd_0 rfl) rfl (by show 2 * 0 + _ ≤ _; exact Nat.le_of_eq rfl) (hb hby d7_80) (fun _ _ => ⟨rfl, e33, (by decide : 0 + 0 ≤ rO_1.cells), (by decide : 0 + 0 ≤ rO_1.slots)⟩)
    dsimp only [Pt.U, Pt.locs, Pt.cells, Pt.slots] at X38 l38 y38 z38 st38 hQ38
    subst l38 y38 z38
    obtain ⟨rfl, N38q, Kq38, VIq38, VPq38⟩ := hQ38
    have N38 := Fr.app N18 N38q
    have f39 := E1.keep Kq38
    have f40 := FK.keep Kq38 (ninS nAI (ninS nAP nin0))
    have f41 := FI.keep Kq38 (ninS nAI (ninS nAP nin0))
    have f42 := FP.keep Kq38 (ninS nAI (ninS nAP nin0))
    have f43 := FS.keep Kq38 (ninS nAI (ninS nAP nin0))
    have f44 := VK.keep Kq38 (ninS nKI (ninS nKP nin0))
    have Z45 := Nat.le_trans Z0 Kq38.1
    have K46 := K0.trans Kq38 (allS (Or.inl (List.mem_of_getElem? (i := 0) rfl)) (allS (Or.inl (List.mem_of_getElem? (i := 1) rfl)) all0))
    have go47 : Goes p e below s₁ (entryFrame m #[(.ref a1), (.int (0 : Int32))] 4) T38 (mkF m 83 #[.val (.ref a1), .val (.int (0 : Int32)), .val (.int (σ.1 (0 : Int32))), .val (.int (1 : Int32))] []) := fun t k => go37 t (st38.trans k)
    have go48 : Goes p e below s₁ (entryFrame m #[(.ref a1), (.int (0 : Int32))] 4) T38 (mkF m 15 #[.val (.ref a1), .val (.int (1 : Int32)), .val (.int (σ.1 (0 : Int32))), .val (.int (3 : Int32))] [(.ref a1), (.int (3 : Int32))]) := fun t k => by
      refine go47 t ?_
      refine XS.iloadN X38.here hx rfl (hb hby d7_83) rfl ?_
      refine XS.istoreN X38.here hx rfl (hb hby d7_84) rfl (l' := #[.val (.ref a1), .val (.int (1 : Int32)), .val (.int (σ.1 (0 : Int32))), .val (.int (1 : Int32))]) rfl ?_
      refine XS.iconst X38.here hx rfl (hb hby d7_85) ?_
      refine XS.iloadN X38.here hx rfl (hb hby d7_86) rfl ?_
      refine XS.imul X38.here hx rfl (hb hby d7_87) rfl ?_
      refine XS.iconst X38.here hx rfl (hb hby d7_88) ?_
      show Steps p.tables e below (T38.setTop (mkF m 89 #[.val (.ref a1), .val (.int (1 : Int32)), .val (.int (σ.1 (0 : Int32))), .val (.int (1 : Int32))] [(.int (1 : Int32)), (.int (2 : Int32))])) _
      refine XS.iadd X38.here hx rfl (hb hby d7_89) rfl ?_
      refine XS.istoreN X38.here hx rfl (hb hby d7_90) rfl (l' := #[.val (.ref a1), .val (.int (1 : Int32)), .val (.int (σ.1 (0 : Int32))), .val (.int (3 : Int32))]) rfl ?_
      refine XS.goto X38.here hx rfl (pc0 := 91) (pc' := 13) rfl (hb hby d7_91) (by decide) (by decide) ?_
      refine XS.iloadN X38.here hx rfl (hb hby d7_13) rfl ?_
      refine XS.aloadN X38.here hx rfl (hb hby d7_14) rfl rfl ?_
      exact k
    obtain ⟨T49, X49, e49, st49⟩ := getF X38 hx hZ hown (host := "") (Or.inl (own_wd hw 27 rfl)) Via.refl rfl f43 (g := (mkF m 15 #[.val (.ref a1), .val (.int (1 : Int32)), .val (.int (σ.1 (0 : Int32))), .val (.int (3 : Int32))] [(.ref a1), (.int (3 : Int32))])) rfl rfl (hb hby d7_15)
    have go50 : Goes p e below s₁ (entryFrame m #[(.ref a1), (.int (0 : Int32))] 4) T49 (mkF m 18 #[.val (.ref a1), .val (.int (1 : Int32)), .val (.int (σ.1 (0 : Int32))), .val (.int (3 : Int32))] [(.int (2 : Int32)), (.int (3 : Int32))]) := fun t k => go48 t (st49 t k)
    have go51 : Goes p e below s₁ (entryFrame m #[(.ref a1), (.int (0 : Int32))] 4) T49 (mkF m 97 #[.val (.ref a1), .val (.int (1 : Int32)), .val (.int (σ.1 (0 : Int32))), .val (.int (3 : Int32))] [(.int (1 : Int32)), (.int (σ.1 (0 : Int32))), (.ref a1)]) := fun t k => by
      refine go50 t ?_
      refine XS.icmpYes X49.here hx rfl (pc0 := 18) (pc' := 94) rfl (hb hby d7_18) rfl (Jvm.Free.XT.ii_ge_t (by decide)) (by decide) (by decide) ?_
      refine XS.aloadN X49.here hx rfl (hb hby d7_94) rfl rfl ?_
      refine XS.iloadN X49.here hx rfl (hb hby d7_95) rfl ?_
      refine XS.iloadN X49.here hx rfl (hb hby d7_96) rfl ?_
      exact k
    obtain ⟨cq52, q52a, q52b⟩ := f39.cell
    obtain ⟨_, _, ⟨T52, L52, k52, n52⟩, -, X52, ⟨Lc52, hQ52, l52, y52, z52⟩, st52⟩ := X49.privateBack hx (y := mN_1) hown (mvT hZ (own_wd hw 33 rfl)) (mvT hZ (own_wd hw 34 rfl)) (own_selp (y := mN_1) (by decide) (mvT hZ (own_wd hw 1 rfl)) (mvP hZ (own_wd hw 35 rfl)) (mvT hZ (own_wd hw 34 rfl))) (Cond.privateMethod_at (mvP hZ (own_wd hw 35 rfl) (args := #[]))) (mvT hZ (own_wd hw 36 rfl)) (by decide) (backOf (W := 0) (rmMv l Z a0 hw [] a1 (σ.1 (0 : Int32)) (1 : Int32) aI aP ki kp (own_mv σ (σ.1 (1 : Int32)) (0 : Int32)) T38.heap n0 Z45 f41 f42 VIq38 VPq38 nIP gI gP R0 own_R1 nAI nAP) hZ (own_wd hw 36 rfl) (own_wd hw 2 rfl) (by decide) (by decide)) (g := (mkF m 97 #[.val (.ref a1), .val (.int (1 : Int32)), .val (.int (σ.1 (0 : Int32))), .val (.int (3 : Int32))] [(.int (1 : Int32)), (.int (σ.1 (0 : Int32))), (.ref a1)])) rfl (by rw [hml]; rfl) (Steps.refl _) (a := a1) (by rw [e49]; exact q52a) q52b (argsL := [(.int (σ.1 (0 : Int32))), (.int (1 : Int32))]) (rest := []) (lenOf pd_0 rfl) rfl (by show 2 * 0 + _ ≤ _; exact Nat.le_of_eq rfl) (hb hby d7_97) (fun _ _ => ⟨rfl, e49, (by decide : 0 + 0 ≤ rO_1.cells), (by decide : 0 + 0 ≤ rO_1.slots)⟩)
    dsimp only [Pt.U, Pt.locs, Pt.cells, Pt.slots] at X52 l52 y52 z52 st52 hQ52
    subst l52 y52 z52
    obtain ⟨rfl, N52q, Kq52, VIq52, VPq52⟩ := hQ52
    have N52 := Fr.app N38 N52q
    have f53 := f39.keep Kq52
    have f54 := f40.keep Kq52 (ninS nAI (ninS nAP nin0))
    have f55 := f41.keep Kq52 (ninS nAI (ninS nAP nin0))
    have f56 := f42.keep Kq52 (ninS nAI (ninS nAP nin0))
    have f57 := f43.keep Kq52 (ninS nAI (ninS nAP nin0))
    have f58 := f44.keep Kq52 (ninS nKI (ninS nKP nin0))
    have Z59 := Nat.le_trans Z45 Kq52.1
    have K60 := K46.trans Kq52 (allS (Or.inl (List.mem_of_getElem? (i := 0) rfl)) (allS (Or.inl (List.mem_of_getElem? (i := 1) rfl)) all0))
    have go61 : Goes p e below s₁ (entryFrame m #[(.ref a1), (.int (0 : Int32))] 4) T52 (mkF m 100 #[.val (.ref a1), .val (.int (1 : Int32)), .val (.int (σ.1 (0 : Int32))), .val (.int (3 : Int32))] []) := fun t k => go51 t (st52.trans k)
    obtain ⟨fs, hr, hrun, hended, hW, hsame⟩ := X52.leave (v := none) (fun _ => rfl)
    have hdn : own_dn kf σ (0 : Int32) (2 : Int32) = (own_mv (own_mv σ (σ.1 (1 : Int32)) (0 : Int32)) (σ.1 (0 : Int32)) (1 : Int32)) := by simp [own_dn, own_ch, hc20]
    refine ⟨_, _, go61 _ ?_, hrun, hended, _, _, rfl, ?_, ⟨_, rfl⟩, hW, hsame.mono (by decide) (by decide)⟩
    · exact X52.returnOut hx Bd.returns (hb hby d7_100) hr
    · show QD02 Z _ _ _ _ _ _ _ _ _ _ _ _ T52.heap _
      exact ⟨rfl, N52, K60, by rw [hdn]; exact VIq52, by rw [hdn]; exact VPq52⟩
theorem ef_rmD03 (m : MethodId) (a1 : Addr) : entryFrame m #[(.ref a1), (.int (0 : Int32))] 4 = mkF m 0 #[.val (.ref a1), .val (.int (0 : Int32)), .unset, .unset] [] := by first | (simp [entryFrame, mkF, argsToLocals, Value.category]; done) | rfl
def QD03 (Z : State) (a1 : Addr) (aK aI aP : Addr) (kk ki kp : ClassId) (kf : Int32 → UInt64) (σ : own_P) (h0 : Heap) (n0 : Nat) (v : Option Value) (h : Heap) (L : List Loc) : Prop := v = none ∧ Fr n0 L ∧ Keep h0 h [aI, aP] ∧ Arv Z h aI ki .int 3 (own_l (own_dn kf σ (0 : Int32) (3 : Int32)).1) (.int (0 : Int32)) ∧ Arv Z h aP kp .int 3 (own_l (own_dn kf σ (0 : Int32) (3 : Int32)).2) (.int (0 : Int32))
set_option maxRecDepth 65536 in
set_option maxHeartbeats 40000000 in
theorem rmD03 (l : Launch) (Z : State) (a0 : Array Value) (hw : ∀ d ∈ tables_1, d.before a0 Z = true) (ws : List Jvm.Cond) (a1 : Addr) (aK aI aP : Addr) (kk ki kp : ClassId) (kf : Int32 → UInt64) (σ : own_P) (h0 : Heap) (n0 : Nat) (Z0 : n0 ≤ h0.size) (E1 : Exa Z h0 a1 "com/example/covermesh/covermesh/algorithms/IndexedMinHeap") (FK : Fld Z h0 a1 "com/example/covermesh/covermesh/algorithms/IndexedMinHeap" "keys" "[D" (.ref aK)) (FI : Fld Z h0 a1 "com/example/covermesh/covermesh/algorithms/IndexedMinHeap" "items" "[I" (.ref aI)) (FP : Fld Z h0 a1 "com/example/covermesh/covermesh/algorithms/IndexedMinHeap" "positions" "[I" (.ref aP)) (FS : Fld Z h0 a1 "com/example/covermesh/covermesh/algorithms/IndexedMinHeap" "size" "I" (.int (3 : Int32))) (VK : Arv Z h0 aK kk .double 3 (own_d kf) (.double (0 : UInt64))) (VI : Arv Z h0 aI ki .int 3 (own_l σ.1) (.int (0 : Int32))) (VP : Arv Z h0 aP kp .int 3 (own_l σ.2) (.int (0 : Int32))) (nKI : aK ≠ aI) (nKP : aK ≠ aP) (nIP : aI ≠ aP) (nAK : a1 ≠ aK) (nAI : a1 ≠ aI) (nAP : a1 ≠ aP) (gA : n0 ≤ a1) (gK : n0 ≤ aK) (gI : n0 ≤ aI) (gP : n0 ≤ aP) (R0 : own_R (σ.1 (0 : Int32))) (R1 : own_R (σ.1 (1 : Int32))) (R2 : own_R (σ.1 (2 : Int32))) :
    MetFree l mN_0 (head1 (Jvm.Cond.code mN_0 prog_17_method_8_code 4 none :: ws) rO_1) (fun a U => a = #[(.ref a1), (.int (0 : Int32))] ∧ Z.Warmed39 U.vm ∧ U.heap = h0) (fun _ _ _ _ _ => True) (fun _ U o U' => ∃ v L, o = .returned v ∧ QD03 Z a1 aK aI aP kk ki kp kf σ h0 n0 v U'.heap L ∧ FrameEnd U o U' L rO_1.cells rO_1.slots) := by
  refine MetFree.of_bodySF (plainFor_of_name pn_0) hisR ?_
  intro p e s m args below meth c s₁ Bd hml0 hP hK
  obtain ⟨rfl, hZ, hh⟩ := hP
  have hx := Bd.exec
  have hby := Bd.bytes
  have hml : c.maxLocals = 4 := hml0
  have hown : s.vm.findClass "com/example/covermesh/covermesh/algorithms/IndexedMinHeap" = some m.cls := findClass_of_methodNamed Bd.named
  have hnm := (name_of_methodNamed Bd.named Bd.method).1
  have X0 : Stand p l e rO_1 s m #[(.ref a1), (.int (0 : Int32))] below meth c s₁ [] 0 0 := Stand.of_body Bd
  have e0 : s₁.heap = h0 := by rw [← hh, Bd.state]; rfl
  have N0 := Fr.nil n0
  have K0 := Keep.refl h0 [aI, aP]
  have go0 : Goes p e below s₁ (entryFrame m #[(.ref a1), (.int (0 : Int32))] 4) s₁ (mkF m 0 #[.val (.ref a1), .val (.int (0 : Int32)), .unset, .unset] []) := fun t k => castTop (ef_rmD03 m a1) k
  have go1 : Goes p e below s₁ (entryFrame m #[(.ref a1), (.int (0 : Int32))] 4) s₁ (mkF m 1 #[.val (.ref a1), .val (.int (0 : Int32)), .unset, .unset] [(.ref a1)]) := fun t k => by
    refine go0 t ?_
    refine XS.aloadN X0.here hx rfl (hb hby d7_0) rfl rfl ?_
    exact k
  obtain ⟨T2, X2, e2, st2⟩ := getF X0 hx hZ hown (host := "") (Or.inl (own_wd hw 13 rfl)) Via.refl e0 FI (g := (mkF m 1 #[.val (.ref a1), .val (.int (0 : Int32)), .unset, .unset] [(.ref a1)])) rfl rfl (hb hby d7_1)
  have go3 : Goes p e below s₁ (entryFrame m #[(.ref a1), (.int (0 : Int32))] 4) T2 (mkF m 4 #[.val (.ref a1), .val (.int (0 : Int32)), .unset, .unset] [(.ref aI)]) := fun t k => go1 t (st2 t k)
  have go4 : Goes p e below s₁ (entryFrame m #[(.ref a1), (.int (0 : Int32))] 4) T2 (mkF m 5 #[.val (.ref a1), .val (.int (0 : Int32)), .unset, .unset] [(.int (0 : Int32)), (.ref aI)]) := fun t k => by
    refine go3 t ?_
    refine XS.iloadN X2.here hx rfl (hb hby d7_4) rfl ?_
    exact k
  obtain ⟨cl5, Ar5, kq5, Sz5, Nn5, Hs5, Gf5⟩ := id (VI)
  have hin5 : ¬ ((0 : Int32) < 0 ∨ cl5.slots.size ≤ ((0 : Int32)).toNatClampNeg) := inb_of Sz5 (own_inb own_R0)
  have hat5 : cl5.slots[((0 : Int32)).toNatClampNeg]? = some (.int (σ.1 (0 : Int32))) := Has.at Hs5 hin5 (own_l_at own_R0)
  have go6 : Goes p e below s₁ (entryFrame m #[(.ref a1), (.int (0 : Int32))] 4) T2 (mkF m 15 #[.val (.ref a1), .val (.int (0 : Int32)), .val (.int (σ.1 (0 : Int32))), .val (.int (1 : Int32))] [(.ref a1), (.int (1 : Int32))]) := fun t k => by
    refine go4 t ?_
    refine X2.iaload hx (j := (0 : Int32)) (v := (.int (σ.1 (0 : Int32)))) (own_hp e2 Ar5.1) (State.isArrayOf_alike hZ.alike Ar5.2.1) Ar5.2.2 hin5 hat5 (g := (mkF m 5 #[.val (.ref a1), .val (.int (0 : Int32)), .unset, .unset] [(.int (0 : Int32)), (.ref aI)])) rfl rfl (hb hby d7_5) _ ?_
    refine XS.istoreN X2.here hx rfl (hb hby d7_6) rfl (l' := #[.val (.ref a1), .val (.int (0 : Int32)), .val (.int (σ.1 (0 : Int32))), .unset]) rfl ?_
    refine XS.iconst X2.here hx rfl (hb hby d7_7) ?_
    refine XS.iloadN X2.here hx rfl (hb hby d7_8) rfl ?_
    refine XS.imul X2.here hx rfl (hb hby d7_9) rfl ?_
    refine XS.iconst X2.here hx rfl (hb hby d7_10) ?_
    show Steps p.tables e below (T2.setTop (mkF m 11 #[.val (.ref a1), .val (.int (0 : Int32)), .val (.int (σ.1 (0 : Int32))), .unset] [(.int (1 : Int32)), (.int (0 : Int32))])) _
    refine XS.iadd X2.here hx rfl (hb hby d7_11) rfl ?_
    refine XS.istoreN X2.here hx rfl (hb hby d7_12) rfl (l' := #[.val (.ref a1), .val (.int (0 : Int32)), .val (.int (σ.1 (0 : Int32))), .val (.int (1 : Int32))]) rfl ?_
    refine XS.iloadN X2.here hx rfl (hb hby d7_13) rfl ?_
    refine XS.aloadN X2.here hx rfl (hb hby d7_14) rfl rfl ?_
    exact k
  obtain ⟨T7, X7, e7, st7⟩ := getF X2 hx hZ hown (host := "") (Or.inl (own_wd hw 27 rfl)) Via.refl e2 FS (g := (mkF m 15 #[.val (.ref a1), .val (.int (0 : Int32)), .val (.int (σ.1 (0 : Int32))), .val (.int (1 : Int32))] [(.ref a1), (.int (1 : Int32))])) rfl rfl (hb hby d7_15)
  have go8 : Goes p e below s₁ (entryFrame m #[(.ref a1), (.int (0 : Int32))] 4) T7 (mkF m 18 #[.val (.ref a1), .val (.int (0 : Int32)), .val (.int (σ.1 (0 : Int32))), .val (.int (1 : Int32))] [(.int (3 : Int32)), (.int (1 : Int32))]) := fun t k => go6 t (st7 t k)
  have go9 : Goes p e below s₁ (entryFrame m #[(.ref a1), (.int (0 : Int32))] 4) T7 (mkF m 25 #[.val (.ref a1), .val (.int (0 : Int32)), .val (.int (σ.1 (0 : Int32))), .val (.int (1 : Int32))] [(.ref a1), (.int (2 : Int32))]) := fun t k => by
    refine go8 t ?_
    refine XS.icmpNo X7.here hx rfl (hb hby d7_18) rfl (Jvm.Free.XT.ii_ge_f (by decide)) ?_
    refine XS.iloadN X7.here hx rfl (hb hby d7_21) rfl ?_
    refine XS.iconst X7.here hx rfl (hb hby d7_22) ?_
    refine XS.iadd X7.here hx rfl (hb hby d7_23) rfl ?_
    refine XS.aloadN X7.here hx rfl (hb hby d7_24) rfl rfl ?_
    exact k
  obtain ⟨T10, X10, e10, st10⟩ := getF X7 hx hZ hown (host := "") (Or.inl (own_wd hw 27 rfl)) Via.refl e7 FS (g := (mkF m 25 #[.val (.ref a1), .val (.int (0 : Int32)), .val (.int (σ.1 (0 : Int32))), .val (.int (1 : Int32))] [(.ref a1), (.int (2 : Int32))])) rfl rfl (hb hby d7_25)
  have go11 : Goes p e below s₁ (entryFrame m #[(.ref a1), (.int (0 : Int32))] 4) T10 (mkF m 28 #[.val (.ref a1), .val (.int (0 : Int32)), .val (.int (σ.1 (0 : Int32))), .val (.int (1 : Int32))] [(.int (3 : Int32)), (.int (2 : Int32))]) := fun t k => go9 t (st10 t k)
  have go12 : Goes p e below s₁ (entryFrame m #[(.ref a1), (.int (0 : Int32))] 4) T10 (mkF m 33 #[.val (.ref a1), .val (.int (0 : Int32)), .val (.int (σ.1 (0 : Int32))), .val (.int (1 : Int32))] [(.ref a1), (.ref a1)]) := fun t k => by
    refine go11 t ?_
    refine XS.icmpNo X10.here hx rfl (hb hby d7_28) rfl (Jvm.Free.XT.ii_ge_f (by decide)) ?_
    refine XS.aloadN X10.here hx rfl (hb hby d7_31) rfl rfl ?_
    refine XS.aloadN X10.here hx rfl (hb hby d7_32) rfl rfl ?_
    exact k
  obtain ⟨T13, X13, e13, st13⟩ := getF X10 hx hZ hown (host := "") (Or.inl (own_wd hw 13 rfl)) Via.refl e10 FI (g := (mkF m 33 #[.val (.ref a1), .val (.int (0 : Int32)), .val (.int (σ.1 (0 : Int32))), .val (.int (1 : Int32))] [(.ref a1), (.ref a1)])) rfl rfl (hb hby d7_33)
  have go14 : Goes p e below s₁ (entryFrame m #[(.ref a1), (.int (0 : Int32))] 4) T13 (mkF m 36 #[.val (.ref a1), .val (.int (0 : Int32)), .val (.int (σ.1 (0 : Int32))), .val (.int (1 : Int32))] [(.ref aI), (.ref a1)]) := fun t k => go12 t (st13 t k)
  have go15 : Goes p e below s₁ (entryFrame m #[(.ref a1), (.int (0 : Int32))] 4) T13 (mkF m 39 #[.val (.ref a1), .val (.int (0 : Int32)), .val (.int (σ.1 (0 : Int32))), .val (.int (1 : Int32))] [(.int (2 : Int32)), (.ref aI), (.ref a1)]) := fun t k => by
    refine go14 t ?_
    refine XS.iloadN X13.here hx rfl (hb hby d7_36) rfl ?_
    refine XS.iconst X13.here hx rfl (hb hby d7_37) ?_
    refine XS.iadd X13.here hx rfl (hb hby d7_38) rfl ?_
    exact k
  obtain ⟨cl16, Ar16, kq16, Sz16, Nn16, Hs16, Gf16⟩ := id (VI)
  have hin16 : ¬ ((2 : Int32) < 0 ∨ cl16.slots.size ≤ ((2 : Int32)).toNatClampNeg) := inb_of Sz16 (own_inb own_R2)
  have hat16 : cl16.slots[((2 : Int32)).toNatClampNeg]? = some (.int (σ.1 (2 : Int32))) := Has.at Hs16 hin16 (own_l_at own_R2)
  have go17 : Goes p e below s₁ (entryFrame m #[(.ref a1), (.int (0 : Int32))] 4) T13 (mkF m 41 #[.val (.ref a1), .val (.int (0 : Int32)), .val (.int (σ.1 (0 : Int32))), .val (.int (1 : Int32))] [(.ref a1), (.int (σ.1 (2 : Int32))), (.ref a1)]) := fun t k => by
    refine go15 t ?_
    refine X13.iaload hx (j := (2 : Int32)) (v := (.int (σ.1 (2 : Int32)))) (own_hp e13 Ar16.1) (State.isArrayOf_alike hZ.alike Ar16.2.1) Ar16.2.2 hin16 hat16 (g := (mkF m 39 #[.val (.ref a1), .val (.int (0 : Int32)), .val (.int (σ.1 (0 : Int32))), .val (.int (1 : Int32))] [(.int (2 : Int32)), (.ref aI), (.ref a1)])) rfl rfl (hb hby d7_39) _ ?_
    refine XS.aloadN X13.here hx rfl (hb hby d7_40) rfl rfl ?_
    exact k
  obtain ⟨T18, X18, e18, st18⟩ := getF X13 hx hZ hown (host := "") (Or.inl (own_wd hw 13 rfl)) Via.refl e13 FI (g := (mkF m 41 #[.val (.ref a1), .val (.int (0 : Int32)), .val (.int (σ.1 (0 : Int32))), .val (.int (1 : Int32))] [(.ref a1), (.int (σ.1 (2 : Int32))), (.ref a1)])) rfl rfl (hb hby d7_41)
  have go19 : Goes p e below s₁ (entryFrame m #[(.ref a1), (.int (0 : Int32))] 4) T18 (mkF m 44 #[.val (.ref a1), .val (.int (0 : Int32)), .val (.int (σ.1 (0 : Int32))), .val (.int (1 : Int32))] [(.ref aI), (.int (σ.1 (2 : Int32))), (.ref a1)]) := fun t k => go17 t (st18 t k)
  have go20 : Goes p e below s₁ (entryFrame m #[(.ref a1), (.int (0 : Int32))] 4) T18 (mkF m 45 #[.val (.ref a1), .val (.int (0 : Int32)), .val (.int (σ.1 (0 : Int32))), .val (.int (1 : Int32))] [(.int (1 : Int32)), (.ref aI), (.int (σ.1 (2 : Int32))), (.ref a1)]) := fun t k => by
    refine go19 t ?_
    refine XS.iloadN X18.here hx rfl (hb hby d7_44) rfl ?_
    exact k
  obtain ⟨cl21, Ar21, kq21, Sz21, Nn21, Hs21, Gf21⟩ := id (VI)
  have hin21 : ¬ ((1 : Int32) < 0 ∨ cl21.slots.size ≤ ((1 : Int32)).toNatClampNeg) := inb_of Sz21 (own_inb own_R1)
  have hat21 : cl21.slots[((1 : Int32)).toNatClampNeg]? = some (.int (σ.1 (1 : Int32))) := Has.at Hs21 hin21 (own_l_at own_R1)
  have go22 : Goes p e below s₁ (entryFrame m #[(.ref a1), (.int (0 : Int32))] 4) T18 (mkF m 46 #[.val (.ref a1), .val (.int (0 : Int32)), .val (.int (σ.1 (0 : Int32))), .val (.int (1 : Int32))] [(.int (σ.1 (1 : Int32))), (.int (σ.1 (2 : Int32))), (.ref a1)]) := fun t k => by
    refine go20 t ?_
    refine X18.iaload hx (j := (1 : Int32)) (v := (.int (σ.1 (1 : Int32)))) (own_hp e18 Ar21.1) (State.isArrayOf_alike hZ.alike Ar21.2.1) Ar21.2.2 hin21 hat21 (g := (mkF m 45 #[.val (.ref a1), .val (.int (0 : Int32)), .val (.int (σ.1 (0 : Int32))), .val (.int (1 : Int32))] [(.int (1 : Int32)), (.ref aI), (.int (σ.1 (2 : Int32))), (.ref a1)])) rfl rfl (hb hby d7_45) _ ?_
    exact k
  obtain ⟨cq23, q23a, q23b⟩ := E1.cell
  obtain ⟨_, _, ⟨T23, L23, k23, n23⟩, -, X23, ⟨Lc23, hQ23, l23, y23, z23⟩, st23⟩ := X18.privateBack hx (y := mN_5) hown (mvT hZ (own_wd hw 51 rfl)) (mvT hZ (own_wd hw 52 rfl)) (own_selp (y := mN_5) (by decide) (mvT hZ (own_wd hw 1 rfl)) (mvP hZ (own_wd hw 53 rfl)) (mvT hZ (own_wd hw 52 rfl))) (Cond.privateMethod_at (mvP hZ (own_wd hw 53 rfl) (args := #[]))) (mvT hZ (own_wd hw 54 rfl)) (by decide) (backOf (W := 0) (rmLe l Z a0 hw [] a1 (σ.1 (2 : Int32)) (σ.1 (1 : Int32)) aK kk kf h0 n0 Z0 FK VK R2 R1) hZ (own_wd hw 54 rfl) (own_wd hw 2 rfl) (by decide) (by decide)) (g := (mkF m 46 #[.val (.ref a1), .val (.int (0 : Int32)), .val (.int (σ.1 (0 : Int32))), .val (.int (1 : Int32))] [(.int (σ.1 (1 : Int32))), (.int (σ.1 (2 : Int32))), (.ref a1)])) rfl (by rw [hml]; rfl) (Steps.refl _) (a := a1) (by rw [e18]; exact q23a) q23b (argsL := [(.int (σ.1 (2 : Int32))), (.int (σ.1 (1 : Int32)))]) (rest := []) (lenOf pd_1 rfl) rfl (by show 2 * 0 + _ ≤ _; exact Nat.le_of_eq rfl) (hb hby d7_46) (fun _ _ => ⟨rfl, e18, (by decide : 0 + 0 ≤ rO_1.cells), (by decide : 0 + 0 ≤ rO_1.slots)⟩)
  dsimp only [Pt.U, Pt.locs, Pt.cells, Pt.slots] at X23 l23 y23 z23 st23 hQ23
  subst l23 y23 z23
  obtain ⟨rfl, N23q, e23⟩ := hQ23
  have N23 := Fr.app N0 N23q
  have go24 : Goes p e below s₁ (entryFrame m #[(.ref a1), (.int (0 : Int32))] 4) T23 (mkF m 49 #[.val (.ref a1), .val (.int (0 : Int32)), .val (.int (σ.1 (0 : Int32))), .val (.int (1 : Int32))] [(.int (own_less kf (σ.1 (2 : Int32)) (σ.1 (1 : Int32))))]) := fun t k => go22 t (st23.trans k)
  by_cases hc25 : (own_less kf (σ.1 (2 : Int32)) (σ.1 (1 : Int32))) = (0 : Int32)
  · have go26 : Goes p e below s₁ (entryFrame m #[(.ref a1), (.int (0 : Int32))] 4) T23 (mkF m 57 #[.val (.ref a1), .val (.int (0 : Int32)), .val (.int (σ.1 (0 : Int32))), .val (.int (1 : Int32))] [(.ref a1), (.ref a1)]) := fun t k => by
      refine go24 t ?_
      refine XS.ifYes X23.here hx rfl (pc0 := 49) (pc' := 55) rfl (hb hby d7_49) rfl (Jvm.Free.XT.i0_eq_t hc25) (by decide) (by decide) ?_
      refine XS.aloadN X23.here hx rfl (hb hby d7_55) rfl rfl ?_
      refine XS.aloadN X23.here hx rfl (hb hby d7_56) rfl rfl ?_
      exact k
    obtain ⟨T27, X27, e27, st27⟩ := getF X23 hx hZ hown (host := "") (Or.inl (own_wd hw 13 rfl)) Via.refl e23 FI (g := (mkF m 57 #[.val (.ref a1), .val (.int (0 : Int32)), .val (.int (σ.1 (0 : Int32))), .val (.int (1 : Int32))] [(.ref a1), (.ref a1)])) rfl rfl (hb hby d7_57)
    have go28 : Goes p e below s₁ (entryFrame m #[(.ref a1), (.int (0 : Int32))] 4) T27 (mkF m 60 #[.val (.ref a1), .val (.int (0 : Int32)), .val (.int (σ.1 (0 : Int32))), .val (.int (1 : Int32))] [(.ref aI), (.ref a1)]) := fun t k => go26 t (st27 t k)
    have go29 : Goes p e below s₁ (entryFrame m #[(.ref a1), (.int (0 : Int32))] 4) T27 (mkF m 61 #[.val (.ref a1), .val (.int (0 : Int32)), .val (.int (σ.1 (0 : Int32))), .val (.int (1 : Int32))] [(.int (1 : Int32)), (.ref aI), (.ref a1)]) := fun t k => by
      refine go28 t ?_
      refine XS.iloadN X27.here hx rfl (hb hby d7_60) rfl ?_
      exact k
    obtain ⟨cl30, Ar30, kq30, Sz30, Nn30, Hs30, Gf30⟩ := id (VI)
    have hin30 : ¬ ((1 : Int32) < 0 ∨ cl30.slots.size ≤ ((1 : Int32)).toNatClampNeg) := inb_of Sz30 (own_inb own_R1)
    have hat30 : cl30.slots[((1 : Int32)).toNatClampNeg]? = some (.int (σ.1 (1 : Int32))) := Has.at Hs30 hin30 (own_l_at own_R1)
    have go31 : Goes p e below s₁ (entryFrame m #[(.ref a1), (.int (0 : Int32))] 4) T27 (mkF m 63 #[.val (.ref a1), .val (.int (0 : Int32)), .val (.int (σ.1 (0 : Int32))), .val (.int (1 : Int32))] [(.int (σ.1 (0 : Int32))), (.int (σ.1 (1 : Int32))), (.ref a1)]) := fun t k => by
      refine go29 t ?_
      refine X27.iaload hx (j := (1 : Int32)) (v := (.int (σ.1 (1 : Int32)))) (own_hp e27 Ar30.1) (State.isArrayOf_alike hZ.alike Ar30.2.1) Ar30.2.2 hin30 hat30 (g := (mkF m 61 #[.val (.ref a1), .val (.int (0 : Int32)), .val (.int (σ.1 (0 : Int32))), .val (.int (1 : Int32))] [(.int (1 : Int32)), (.ref aI), (.ref a1)])) rfl rfl (hb hby d7_61) _ ?_
      refine XS.iloadN X27.here hx rfl (hb hby d7_62) rfl ?_
      exact k
    obtain ⟨cq32, q32a, q32b⟩ := E1.cell
    obtain ⟨_, _, ⟨T32, L32, k32, n32⟩, -, X32, ⟨Lc32, hQ32, l32, y32, z32⟩, st32⟩ := X27.privateBack hx (y := mN_5) hown (mvT hZ (own_wd hw 51 rfl)) (mvT hZ (own_wd hw 52 rfl)) (own_selp (y := mN_5) (by decide) (mvT hZ (own_wd hw 1 rfl)) (mvP hZ (own_wd hw 53 rfl)) (mvT hZ (own_wd hw 52 rfl))) (Cond.privateMethod_at (mvP hZ (own_wd hw 53 rfl) (args := #[]))) (mvT hZ (own_wd hw 54 rfl)) (by decide) (backOf (W := 0) (rmLe l Z a0 hw [] a1 (σ.1 (1 : Int32)) (σ.1 (0 : Int32)) aK kk kf h0 n0 Z0 FK VK R1 R0) hZ (own_wd hw 54 rfl) (own_wd hw 2 rfl) (by decide) (by decide)) (g := (mkF m 63 #[.val (.ref a1), .val (.int (0 : Int32)), .val (.int (σ.1 (0 : Int32))), .val (.int (1 : Int32))] [(.int (σ.1 (0 : Int32))), (.int (σ.1 (1 : Int32))), (.ref a1)])) rfl (by rw [hml]; rfl) (Steps.refl _) (a := a1) (by rw [e27]; exact q32a) q32b (argsL := [(.int (σ.1 (1 : Int32))), (.int (σ.1 (0 : Int32)))]) (rest := []) (lenOf pd_1 rfl) rfl (by show 2 * 0 + _ ≤ _; exact Nat.le_of_eq rfl) (hb hby d7_63) (fun _ _ => ⟨rfl, e27, (by decide : 0 + 0 ≤ rO_1.cells), (by decide : 0 + 0 ≤ rO_1.slots)⟩)
    dsimp only [Pt.U, Pt.locs, Pt.cells, Pt.slots] at X32 l32 y32 z32 st32 hQ32
    subst l32 y32 z32
    obtain ⟨rfl, N32q, e32⟩ := hQ32
    have N32 := Fr.app N23 N32q
    have go33 : Goes p e below s₁ (entryFrame m #[(.ref a1), (.int (0 : Int32))] 4) T32 (mkF m 66 #[.val (.ref a1), .val (.int (0 : Int32)), .val (.int (σ.1 (0 : Int32))), .val (.int (1 : Int32))] [(.int (own_less kf (σ.1 (1 : Int32)) (σ.1 (0 : Int32))))]) := fun t k => go31 t (st32.trans k)
    by_cases hc34 : (own_less kf (σ.1 (1 : Int32)) (σ.1 (0 : Int32))) = (0 : Int32)
    · have go35 : Goes p e below s₁ (entryFrame m #[(.ref a1), (.int (0 : Int32))] 4) T32 (mkF m 97 #[.val (.ref a1), .val (.int (0 : Int32)), .val (.int (σ.1 (0 : Int32))), .val (.int (1 : Int32))] [(.int (0 : Int32)), (.int (σ.1 (0 : Int32))), (.ref a1)]) := fun t k => by
        refine go33 t ?_
        refine XS.ifNo X32.here hx rfl (hb hby d7_66) rfl (Jvm.Free.XT.i0_ne_f hc34) ?_
        refine XS.goto X32.here hx rfl (pc0 := 69) (pc' := 94) rfl (hb hby d7_69) (by decide) (by decide) ?_
        refine XS.aloadN X32.here hx rfl (hb hby d7_94) rfl rfl ?_
        refine XS.iloadN X32.here hx rfl (hb hby d7_95) rfl ?_
        refine XS.iloadN X32.here hx rfl (hb hby d7_96) rfl ?_
        exact k
      obtain ⟨cq36, q36a, q36b⟩ := E1.cell
      obtain ⟨_, _, ⟨T36, L36, k36, n36⟩, -, X36, ⟨Lc36, hQ36, l36, y36, z36⟩, st36⟩ := X32.privateBack hx (y := mN_1) hown (mvT hZ (own_wd hw 33 rfl)) (mvT hZ (own_wd hw 34 rfl)) (own_selp (y := mN_1) (by decide) (mvT hZ (own_wd hw 1 rfl)) (mvP hZ (own_wd hw 35 rfl)) (mvT hZ (own_wd hw 34 rfl))) (Cond.privateMethod_at (mvP hZ (own_wd hw 35 rfl) (args := #[]))) (mvT hZ (own_wd hw 36 rfl)) (by decide) (backOf (W := 0) (rmMv l Z a0 hw [] a1 (σ.1 (0 : Int32)) (0 : Int32) aI aP ki kp σ h0 n0 Z0 FI FP VI VP nIP gI gP R0 own_R0 nAI nAP) hZ (own_wd hw 36 rfl) (own_wd hw 2 rfl) (by decide) (by decide)) (g := (mkF m 97 #[.val (.ref a1), .val (.int (0 : Int32)), .val (.int (σ.1 (0 : Int32))), .val (.int (1 : Int32))] [(.int (0 : Int32)), (.int (σ.1 (0 : Int32))), (.ref a1)])) rfl (by rw [hml]; rfl) (Steps.refl _) (a := a1) (by rw [e32]; exact q36a) q36b (argsL := [(.int (σ.1 (0 : Int32))), (.int (0 : Int32))]) (rest := []) (lenOf pd_0 rfl) rfl (by show 2 * 0 + _ ≤ _; exact Nat.le_of_eq rfl) (hb hby d7_97) (fun _ _ => ⟨rfl, e32, (by decide : 0 + 0 ≤ rO_1.cells), (by decide : 0 + 0 ≤ rO_1.slots)⟩)
      dsimp only [Pt.U, Pt.locs, Pt.cells, Pt.slots] at X36 l36 y36 z36 st36 hQ36
      subst l36 y36 z36
      obtain ⟨rfl, N36q, Kq36, VIq36, VPq36⟩ := hQ36
      have N36 := Fr.app N32 N36q
      have f37 := E1.keep Kq36
      have f38 := FK.keep Kq36 (ninS nAI (ninS nAP nin0))
      have f39 := FI.keep Kq36 (ninS nAI (ninS nAP nin0))
      have f40 := FP.keep Kq36 (ninS nAI (ninS nAP nin0))
      have f41 := FS.keep Kq36 (ninS nAI (ninS nAP nin0))
      have f42 := VK.keep Kq36 (ninS nKI (ninS nKP nin0))
      have Z43 := Nat.le_trans Z0 Kq36.1
      have K44 := K0.trans Kq36 (allS (Or.inl (List.mem_of_getElem? (i := 0) rfl)) (allS (Or.inl (List.mem_of_getElem? (i := 1) rfl)) all0))
      have go45 : Goes p e below s₁ (entryFrame m #[(.ref a1), (.int (0 : Int32))] 4) T36 (mkF m 100 #[.val (.ref a1), .val (.int (0 : Int32)), .val (.int (σ.1 (0 : Int32))), .val (.int (1 : Int32))] []) := fun t k => go35 t (st36.trans k)
      obtain ⟨fs, hr, hrun, hended, hW, hsame⟩ := X36.leave (v := none) (fun _ => rfl)
      have hdn : own_dn kf σ (0 : Int32) (3 : Int32) = (own_mv σ (σ.1 (0 : Int32)) (0 : Int32)) := by simp [own_dn, own_ch, hc25, hc34]
      refine ⟨_, _, go45 _ ?_, hrun, hended, _, _, rfl, ?_, ⟨_, rfl⟩, hW, hsame.mono (by decide) (by decide)⟩
      · exact X36.returnOut hx Bd.returns (hb hby d7_100) hr
      · show QD03 Z _ _ _ _ _ _ _ _ _ _ _ _ T36.heap _
        exact ⟨rfl, N36, K44, by rw [hdn]; exact VIq36, by rw [hdn]; exact VPq36⟩
    · have go46 : Goes p e below s₁ (entryFrame m #[(.ref a1), (.int (0 : Int32))] 4) T32 (mkF m 74 #[.val (.ref a1), .val (.int (0 : Int32)), .val (.int (σ.1 (0 : Int32))), .val (.int (1 : Int32))] [(.ref a1), (.ref a1)]) := fun t k => by
        refine go33 t ?_
        refine XS.ifYes X32.here hx rfl (pc0 := 66) (pc' := 72) rfl (hb hby d7_66) rfl (Jvm.Free.XT.i0_ne_t hc34) (by decide) (by decide) ?_
        refine XS.aloadN X32.here hx rfl (hb hby d7_72) rfl rfl ?_
        refine XS.aloadN X32.here hx rfl (hb hby d7_73) rfl rfl ?_
        exact k
      obtain ⟨T47, X47, e47, st47⟩ := getF X32 hx hZ hown (host := "") (Or.inl (own_wd hw 13 rfl)) Via.refl e32 FI (g := (mkF m 74 #[.val (.ref a1), .val (.int (0 : Int32)), .val (.int (σ.1 (0 : Int32))), .val (.int (1 : Int32))] [(.ref a1), (.ref a1)])) rfl rfl (hb hby d7_74)
      have go48 : Goes p e below s₁ (entryFrame m #[(.ref a1), (.int (0 : Int32))] 4) T47 (mkF m 77 #[.val (.ref a1), .val (.int (0 : Int32)), .val (.int (σ.1 (0 : Int32))), .val (.int (1 : Int32))] [(.ref aI), (.ref a1)]) := fun t k => go46 t (st47 t k)
      have go49 : Goes p e below s₁ (entryFrame m #[(.ref a1), (.int (0 : Int32))] 4) T47 (mkF m 78 #[.val (.ref a1), .val (.int (0 : Int32)), .val (.int (σ.1 (0 : Int32))), .val (.int (1 : Int32))] [(.int (1 : Int32)), (.ref aI), (.ref a1)]) := fun t k => by
        refine go48 t ?_
        refine XS.iloadN X47.here hx rfl (hb hby d7_77) rfl ?_
        exact k
      obtain ⟨cl50, Ar50, kq50, Sz50, Nn50, Hs50, Gf50⟩ := id (VI)
      have hin50 : ¬ ((1 : Int32) < 0 ∨ cl50.slots.size ≤ ((1 : Int32)).toNatClampNeg) := inb_of Sz50 (own_inb own_R1)
      have hat50 : cl50.slots[((1 : Int32)).toNatClampNeg]? = some (.int (σ.1 (1 : Int32))) := Has.at Hs50 hin50 (own_l_at own_R1)
      have go51 : Goes p e below s₁ (entryFrame m #[(.ref a1), (.int (0 : Int32))] 4) T47 (mkF m 80 #[.val (.ref a1), .val (.int (0 : Int32)), .val (.int (σ.1 (0 : Int32))), .val (.int (1 : Int32))] [(.int (0 : Int32)), (.int (σ.1 (1 : Int32))), (.ref a1)]) := fun t k => by
        refine go49 t ?_
        refine X47.iaload hx (j := (1 : Int32)) (v := (.int (σ.1 (1 : Int32)))) (own_hp e47 Ar50.1) (State.isArrayOf_alike hZ.alike Ar50.2.1) Ar50.2.2 hin50 hat50 (g := (mkF m 78 #[.val (.ref a1), .val (.int (0 : Int32)), .val (.int (σ.1 (0 : Int32))), .val (.int (1 : Int32))] [(.int (1 : Int32)), (.ref aI), (.ref a1)])) rfl rfl (hb hby d7_78) _ ?_
        refine XS.iloadN X47.here hx rfl (hb hby d7_79) rfl ?_
        exact k
      obtain ⟨cq52, q52a, q52b⟩ := E1.cell
      obtain ⟨_, _, ⟨T52, L52, k52, n52⟩, -, X52, ⟨Lc52, hQ52, l52, y52, z52⟩, st52⟩ := X47.privateBack hx (y := mN_1) hown (mvT hZ (own_wd hw 33 rfl)) (mvT hZ (own_wd hw 34 rfl)) (own_selp (y := mN_1) (by decide) (mvT hZ (own_wd hw 1 rfl)) (mvP hZ (own_wd hw 35 rfl)) (mvT hZ (own_wd hw 34 rfl))) (Cond.privateMethod_at (mvP hZ (own_wd hw 35 rfl) (args := #[]))) (mvT hZ (own_wd hw 36 rfl)) (by decide) (backOf (W := 0) (rmMv l Z a0 hw [] a1 (σ.1 (1 : Int32)) (0 : Int32) aI aP ki kp σ h0 n0 Z0 FI FP VI VP nIP gI gP R1 own_R0 nAI nAP) hZ (own_wd hw 36 rfl) (own_wd hw 2 rfl) (by decide) (by decide)) (g := (mkF m 80 #[.val (.ref a1), .val (.int (0 : Int32)), .val (.int (σ.1 (0 : Int32))), .val (.int (1 : Int32))] [(.int (0 : Int32)), (.int (σ.1 (1 : Int32))), (.ref a1)])) rfl (by rw [hml]; rfl) (Steps.refl _) (a := a1) (by rw [e47]; exact q52a) q52b (argsL := [(.int (σ.1 (1 : Int32))), (.int (0 : Int32))]) (rest := []) (lenOf pd_0 rfl) rfl (by show 2 * 0 + _ ≤ _; exact Nat.le_of_eq rfl) (hb hby d7_80) (fun _ _ => ⟨rfl, e47, (by decide : 0 + 0 ≤ rO_1.cells), (by decide : 0 + 0 ≤ rO_1.slots)⟩)
      dsimp only [Pt.U, Pt.locs, Pt.cells, Pt.slots] at X52 l52 y52 z52 st52 hQ52
      subst l52 y52 z52
      obtain ⟨rfl, N52q, Kq52, VIq52, VPq52⟩ := hQ52
      have N52 := Fr.app N32 N52q
      have f53 := E1.keep Kq52
      have f54 := FK.keep Kq52 (ninS nAI (ninS nAP nin0))
      have f55 := FI.keep Kq52 (ninS nAI (ninS nAP nin0))
      have f56 := FP.keep Kq52 (ninS nAI (ninS nAP nin0))
      have f57 := FS.keep Kq52 (ninS nAI (ninS nAP nin0))
      have f58 := VK.keep Kq52 (ninS nKI (ninS nKP nin0))
      have Z59 := Nat.le_trans Z0 Kq52.1
      have K60 := K0.trans Kq52 (allS (Or.inl (List.mem_of_getElem? (i := 0) rfl)) (allS (Or.inl (List.mem_of_getElem? (i := 1) rfl)) all0))
      have go61 : Goes p e below s₁ (entryFrame m #[(.ref a1), (.int (0 : Int32))] 4) T52 (mkF m 83 #[.val (.ref a1), .val (.int (0 : Int32)), .val (.int (σ.1 (0 : Int32))), .val (.int (1 : Int32))] []) := fun t k => go51 t (st52.trans k)
      have go62 : Goes p e below s₁ (entryFrame m #[(.ref a1), (.int (0 : Int32))] 4) T52 (mkF m 15 #[.val (.ref a1), .val (.int (1 : Int32)), .val (.int (σ.1 (0 : Int32))), .val (.int (3 : Int32))] [(.ref a1), (.int (3 : Int32))]) := fun t k => by
        refine go61 t ?_
        refine XS.iloadN X52.here hx rfl (hb hby d7_83) rfl ?_
        refine XS.istoreN X52.here hx rfl (hb hby d7_84) rfl (l' := #[.val (.ref a1), .val (.int (1 : Int32)), .val (.int (σ.1 (0 : Int32))), .val (.int (1 : Int32))]) rfl ?_
        refine XS.iconst X52.here hx rfl (hb hby d7_85) ?_
        refine XS.iloadN X52.here hx rfl (hb hby d7_86) rfl ?_
        refine XS.imul X52.here hx rfl (hb hby d7_87) rfl ?_
        refine XS.iconst X52.here hx rfl (hb hby d7_88) ?_
        show Steps p.tables e below (T52.setTop (mkF m 89 #[.val (.ref a1), .val (.int (1 : Int32)), .val (.int (σ.1 (0 : Int32))), .val (.int (1 : Int32))] [(.int (1 : Int32)), (.int (2 : Int32))])) _
        refine XS.iadd X52.here hx rfl (hb hby d7_89) rfl ?_
        refine XS.istoreN X52.here hx rfl (hb hby d7_90) rfl (l' := #[.val (.ref a1), .val (.int (1 : Int32)), .val (.int (σ.1 (0 : Int32))), .val (.int (3 : Int32))]) rfl ?_
        refine XS.goto X52.here hx rfl (pc0 := 91) (pc' := 13) rfl (hb hby d7_91) (by decide) (by decide) ?_
        refine XS.iloadN X52.here hx rfl (hb hby d7_13) rfl ?_
        refine XS.aloadN X52.here hx rfl (hb hby d7_14) rfl rfl ?_
        exact k
      obtain ⟨T63, X63, e63, st63⟩ := getF X52 hx hZ hown (host := "") (Or.inl (own_wd hw 27 rfl)) Via.refl rfl f57 (g := (mkF m 15 #[.val (.ref a1), .val (.int (1 : Int32)), .val (.int (σ.1 (0 : Int32))), .val (.int (3 : Int32))] [(.ref a1), (.int (3 : Int32))])) rfl rfl (hb hby d7_15)
      have go64 : Goes p e below s₁ (entryFrame m #[(.ref a1), (.int (0 : Int32))] 4) T63 (mkF m 18 #[.val (.ref a1), .val (.int (1 : Int32)), .val (.int (σ.1 (0 : Int32))), .val (.int (3 : Int32))] [(.int (3 : Int32)), (.int (3 : Int32))]) := fun t k => go62 t (st63 t k)
      have go65 : Goes p e below s₁ (entryFrame m #[(.ref a1), (.int (0 : Int32))] 4) T63 (mkF m 97 #[.val (.ref a1), .val (.int (1 : Int32)), .val (.int (σ.1 (0 : Int32))), .val (.int (3 : Int32))] [(.int (1 : Int32)), (.int (σ.1 (0 : Int32))), (.ref a1)]) := fun t k => by
        refine go64 t ?_
        refine XS.icmpYes X63.here hx rfl (pc0 := 18) (pc' := 94) rfl (hb hby d7_18) rfl (Jvm.Free.XT.ii_ge_t (by decide)) (by decide) (by decide) ?_
        refine XS.aloadN X63.here hx rfl (hb hby d7_94) rfl rfl ?_
        refine XS.iloadN X63.here hx rfl (hb hby d7_95) rfl ?_
        refine XS.iloadN X63.here hx rfl (hb hby d7_96) rfl ?_
        exact k
      obtain ⟨cq66, q66a, q66b⟩ := f53.cell
      obtain ⟨_, _, ⟨T66, L66, k66, n66⟩, -, X66, ⟨Lc66, hQ66, l66, y66, z66⟩, st66⟩ := X63.privateBack hx (y := mN_1) hown (mvT hZ (own_wd hw 33 rfl)) (mvT hZ (own_wd hw 34 rfl)) (own_selp (y := mN_1) (by decide) (mvT hZ (own_wd hw 1 rfl)) (mvP hZ (own_wd hw 35 rfl)) (mvT hZ (own_wd hw 34 rfl))) (Cond.privateMethod_at (mvP hZ (own_wd hw 35 rfl) (args := #[]))) (mvT hZ (own_wd hw 36 rfl)) (by decide) (backOf (W := 0) (rmMv l Z a0 hw [] a1 (σ.1 (0 : Int32)) (1 : Int32) aI aP ki kp (own_mv σ (σ.1 (1 : Int32)) (0 : Int32)) T52.heap n0 Z59 f55 f56 VIq52 VPq52 nIP gI gP R0 own_R1 nAI nAP) hZ (own_wd hw 36 rfl) (own_wd hw 2 rfl) (by decide) (by decide)) (g := (mkF m 97 #[.val (.ref a1), .val (.int (1 : Int32)), .val (.int (σ.1 (0 : Int32))), .val (.int (3 : Int32))] [(.int (1 : Int32)), (.int (σ.1 (0 : Int32))), (.ref a1)])) rfl (by rw [hml]; rfl) (Steps.refl _) (a := a1) (by rw [e63]; exact q66a) q66b (argsL := [(.int (σ.1 (0 : Int32))), (.int (1 : Int32))]) (rest := []) (lenOf pd_0 rfl) rfl (by show 2 * 0 + _ ≤ _; exact Nat.le_of_eq rfl) (hb hby d7_97) (fun _ _ => ⟨rfl, e63, (by decide : 0 + 0 ≤ rO_1.cells), (by decide : 0 + 0 ≤ rO_1.slots)⟩)
      dsimp only [Pt.U, Pt.locs, Pt.cells, Pt.slots] at X66 l66 y66 z66 st66 hQ66
      subst l66 y66 z66
      obtain ⟨rfl, N66q, Kq66, VIq66, VPq66⟩ := hQ66
      have N66 := Fr.app N52 N66q
      have f67 := f53.keep Kq66
      have f68 := f54.keep Kq66 (ninS nAI (ninS nAP nin0))
      have f69 := f55.keep Kq66 (ninS nAI (ninS nAP nin0))
      have f70 := f56.keep Kq66 (ninS nAI (ninS nAP nin0))
      have f71 := f57.keep Kq66 (ninS nAI (ninS nAP nin0))
      have f72 := f58.keep Kq66 (ninS nKI (ninS nKP nin0))
      have Z73 := Nat.le_trans Z59 Kq66.1
      have K74 := K60.trans Kq66 (allS (Or.inl (List.mem_of_getElem? (i := 0) rfl)) (allS (Or.inl (List.mem_of_getElem? (i := 1) rfl)) all0))
      have go75 : Goes p e below s₁ (entryFrame m #[(.ref a1), (.int (0 : Int32))] 4) T66 (mkF m 100 #[.val (.ref a1), .val (.int (1 : Int32)), .val (.int (σ.1 (0 : Int32))), .val (.int (3 : Int32))] []) := fun t k => go65 t (st66.trans k)
      obtain ⟨fs, hr, hrun, hended, hW, hsame⟩ := X66.leave (v := none) (fun _ => rfl)
      have hdn : own_dn kf σ (0 : Int32) (3 : Int32) = (own_mv (own_mv σ (σ.1 (1 : Int32)) (0 : Int32)) (σ.1 (0 : Int32)) (1 : Int32)) := by simp [own_dn, own_ch, hc25, hc34]
      refine ⟨_, _, go75 _ ?_, hrun, hended, _, _, rfl, ?_, ⟨_, rfl⟩, hW, hsame.mono (by decide) (by decide)⟩
      · exact X66.returnOut hx Bd.returns (hb hby d7_100) hr
      · show QD03 Z _ _ _ _ _ _ _ _ _ _ _ _ T66.heap _
        exact ⟨rfl, N66, K74, by rw [hdn]; exact VIq66, by rw [hdn]; exact VPq66⟩
  · have go76 : Goes p e below s₁ (entryFrame m #[(.ref a1), (.int (0 : Int32))] 4) T23 (mkF m 57 #[.val (.ref a1), .val (.int (0 : Int32)), .val (.int (σ.1 (0 : Int32))), .val (.int (2 : Int32))] [(.ref a1), (.ref a1)]) := fun t k => by
      refine go24 t ?_
      refine XS.ifNo X23.here hx rfl (hb hby d7_49) rfl (Jvm.Free.XT.i0_eq_f hc25) ?_
      refine XS.iinc X23.here hx rfl (hb hby d7_52) rfl (l' := #[.val (.ref a1), .val (.int (0 : Int32)), .val (.int (σ.1 (0 : Int32))), .val (.int (2 : Int32))]) rfl ?_
      refine XS.aloadN X23.here hx rfl (hb hby d7_55) rfl rfl ?_
      refine XS.aloadN X23.here hx rfl (hb hby d7_56) rfl rfl ?_
      exact k
    obtain ⟨T77, X77, e77, st77⟩ := getF X23 hx hZ hown (host := "") (Or.inl (own_wd hw 13 rfl)) Via.refl e23 FI (g := (mkF m 57 #[.val (.ref a1), .val (.int (0 : Int32)), .val (.int (σ.1 (0 : Int32))), .val (.int (2 : Int32))] [(.ref a1), (.ref a1)])) rfl rfl (hb hby d7_57)
    have go78 : Goes p e below s₁ (entryFrame m #[(.ref a1), (.int (0 : Int32))] 4) T77 (mkF m 60 #[.val (.ref a1), .val (.int (0 : Int32)), .val (.int (σ.1 (0 : Int32))), .val (.int (2 : Int32))] [(.ref aI), (.ref a1)]) := fun t k => go76 t (st77 t k)
    have go79 : Goes p e below s₁ (entryFrame m #[(.ref a1), (.int (0 : Int32))] 4) T77 (mkF m 61 #[.val (.ref a1), .val (.int (0 : Int32)), .val (.int (σ.1 (0 : Int32))), .val (.int (2 : Int32))] [(.int (2 : Int32)), (.ref aI), (.ref a1)]) := fun t k => by
      refine go78 t ?_
      refine XS.iloadN X77.here hx rfl (hb hby d7_60) rfl ?_
      exact k
    obtain ⟨cl80, Ar80, kq80, Sz80, Nn80, Hs80, Gf80⟩ := id (VI)
    have hin80 : ¬ ((2 : Int32) < 0 ∨ cl80.slots.size ≤ ((2 : Int32)).toNatClampNeg) := inb_of Sz80 (own_inb own_R2)
    have hat80 : cl80.slots[((2 : Int32)).toNatClampNeg]? = some (.int (σ.1 (2 : Int32))) := Has.at Hs80 hin80 (own_l_at own_R2)
    have go81 : Goes p e below s₁ (entryFrame m #[(.ref a1), (.int (0 : Int32))] 4) T77 (mkF m 63 #[.val (.ref a1), .val (.int (0 : Int32)), .val (.int (σ.1 (0 : Int32))), .val (.int (2 : Int32))] [(.int (σ.1 (0 : Int32))), (.int (σ.1 (2 : Int32))), (.ref a1)]) := fun t k => by
      refine go79 t ?_
      refine X77.iaload hx (j := (2 : Int32)) (v := (.int (σ.1 (2 : Int32)))) (own_hp e77 Ar80.1) (State.isArrayOf_alike hZ.alike Ar80.2.1) Ar80.2.2 hin80 hat80 (g := (mkF m 61 #[.val (.ref a1), .val (.int (0 : Int32)), .val (.int (σ.1 (0 : Int32))), .val (.int (2 : Int32))] [(.int (2 : Int32)), (.ref aI), (.ref a1)])) rfl rfl (hb hby d7_61) _ ?_
      refine XS.iloadN X77.here hx rfl (hb hby d7_62) rfl ?_
      exact k
    obtain ⟨cq82, q82a, q82b⟩ := E1.cell
    obtain ⟨_, _, ⟨T82, L82, k82, n82⟩, -, X82, ⟨Lc82, hQ82, l82, y82, z82⟩, st82⟩ := X77.privateBack hx (y := mN_5) hown (mvT hZ (own_wd hw 51 rfl)) (mvT hZ (own_wd hw 52 rfl)) (own_selp (y := mN_5) (by decide) (mvT hZ (own_wd hw 1 rfl)) (mvP hZ (own_wd hw 53 rfl)) (mvT hZ (own_wd hw 52 rfl))) (Cond.privateMethod_at (mvP hZ (own_wd hw 53 rfl) (args := #[]))) (mvT hZ (own_wd hw 54 rfl)) (by decide) (backOf (W := 0) (rmLe l Z a0 hw [] a1 (σ.1 (2 : Int32)) (σ.1 (0 : Int32)) aK kk kf h0 n0 Z0 FK VK R2 R0) hZ (own_wd hw 54 rfl) (own_wd hw 2 rfl) (by decide) (by decide)) (g := (mkF m 63 #[.val (.ref a1), .val (.int (0 : Int32)), .val (.int (σ.1 (0 : Int32))), .val (.int (2 : Int32))] [(.int (σ.1 (0 : Int32))), (.int (σ.1 (2 : Int32))), (.ref a1)])) rfl (by rw [hml]; rfl) (Steps.refl _) (a := a1) (by rw [e77]; exact q82a) q82b (argsL := [(.int (σ.1 (2 : Int32))), (.int (σ.1 (0 : Int32)))]) (rest := []) (lenOf pd_1 rfl) rfl (by show 2 * 0 + _ ≤ _; exact Nat.le_of_eq rfl) (hb hby d7_63) (fun _ _ => ⟨rfl, e77, (by decide : 0 + 0 ≤ rO_1.cells), (by decide : 0 + 0 ≤ rO_1.slots)⟩)
    dsimp only [Pt.U, Pt.locs, Pt.cells, Pt.slots] at X82 l82 y82 z82 st82 hQ82
    subst l82 y82 z82
    obtain ⟨rfl, N82q, e82⟩ := hQ82
    have N82 := Fr.app N23 N82q
    have go83 : Goes p e below s₁ (entryFrame m #[(.ref a1), (.int (0 : Int32))] 4) T82 (mkF m 66 #[.val (.ref a1), .val (.int (0 : Int32)), .val (.int (σ.1 (0 : Int32))), .val (.int (2 : Int32))] [(.int (own_less kf (σ.1 (2 : Int32)) (σ.1 (0 : Int32))))]) := fun t k => go81 t (st82.trans k)
    by_cases hc84 : (own_less kf (σ.1 (2 : Int32)) (σ.1 (0 : Int32))) = (0 : Int32)
    · have go85 : Goes p e below s₁ (entryFrame m #[(.ref a1), (.int (0 : Int32))] 4) T82 (mkF m 97 #[.val (.ref a1), .val (.int (0 : Int32)), .val (.int (σ.1 (0 : Int32))), .val (.int (2 : Int32))] [(.int (0 : Int32)), (.int (σ.1 (0 : Int32))), (.ref a1)]) := fun t k => by
        refine go83 t ?_
        refine XS.ifNo X82.here hx rfl (hb hby d7_66) rfl (Jvm.Free.XT.i0_ne_f hc84) ?_
        refine XS.goto X82.here hx rfl (pc0 := 69) (pc' := 94) rfl (hb hby d7_69) (by decide) (by decide) ?_
        refine XS.aloadN X82.here hx rfl (hb hby d7_94) rfl rfl ?_
        refine XS.iloadN X82.here hx rfl (hb hby d7_95) rfl ?_
        refine XS.iloadN X82.here hx rfl (hb hby d7_96) rfl ?_
        exact k
      obtain ⟨cq86, q86a, q86b⟩ := E1.cell
      obtain ⟨_, _, ⟨T86, L86, k86, n86⟩, -, X86, ⟨Lc86, hQ86, l86, y86, z86⟩, st86⟩ := X82.privateBack hx (y := mN_1) hown (mvT hZ (own_wd hw 33 rfl)) (mvT hZ (own_wd hw 34 rfl)) (own_selp (y := mN_1) (by decide) (mvT hZ (own_wd hw 1 rfl)) (mvP hZ (own_wd hw 35 rfl)) (mvT hZ (own_wd hw 34 rfl))) (Cond.privateMethod_at (mvP hZ (own_wd hw 35 rfl) (args := #[]))) (mvT hZ (own_wd hw 36 rfl)) (by decide) (backOf (W := 0) (rmMv l Z a0 hw [] a1 (σ.1 (0 : Int32)) (0 : Int32) aI aP ki kp σ h0 n0 Z0 FI FP VI VP nIP gI gP R0 own_R0 nAI nAP) hZ (own_wd hw 36 rfl) (own_wd hw 2 rfl) (by decide) (by decide)) (g := (mkF m 97 #[.val (.ref a1), .val (.int (0 : Int32)), .val (.int (σ.1 (0 : Int32))), .val (.int (2 : Int32))] [(.int (0 : Int32)), (.int (σ.1 (0 : Int32))), (.ref a1)])) rfl (by rw [hml]; rfl) (Steps.refl _) (a := a1) (by rw [e82]; exact q86a) q86b (argsL := [(.int (σ.1 (0 : Int32))), (.int (0 : Int32))]) (rest := []) (lenOf pd_0 rfl) rfl (by show 2 * 0 + _ ≤ _; exact Nat.le_of_eq rfl) (hb hby d7_97) (fun _ _ => ⟨rfl, e82, (by decide : 0 + 0 ≤ rO_1.cells), (by decide : 0 + 0 ≤ rO_1.slots)⟩)
      dsimp only [Pt.U, Pt.locs, Pt.cells, Pt.slots] at X86 l86 y86 z86 st86 hQ86
      subst l86 y86 z86
      obtain ⟨rfl, N86q, Kq86, VIq86, VPq86⟩ := hQ86
      have N86 := Fr.app N82 N86q
      have f87 := E1.keep Kq86
      have f88 := FK.keep Kq86 (ninS nAI (ninS nAP nin0))
      have f89 := FI.keep Kq86 (ninS nAI (ninS nAP nin0))
      have f90 := FP.keep Kq86 (ninS nAI (ninS nAP nin0))
      have f91 := FS.keep Kq86 (ninS nAI (ninS nAP nin0))
      have f92 := VK.keep Kq86 (ninS nKI (ninS nKP nin0))
      have Z93 := Nat.le_trans Z0 Kq86.1
      have K94 := K0.trans Kq86 (allS (Or.inl (List.mem_of_getElem? (i := 0) rfl)) (allS (Or.inl (List.mem_of_getElem? (i := 1) rfl)) all0))
      have go95 : Goes p e below s₁ (entryFrame m #[(.ref a1), (.int (0 : Int32))] 4) T86 (mkF m 100 #[.val (.ref a1), .val (.int (0 : Int32)), .val (.int (σ.1 (0 : Int32))), .val (.int (2 : Int32))] []) := fun t k => go85 t (st86.trans k)
      obtain ⟨fs, hr, hrun, hended, hW, hsame⟩ := X86.leave (v := none) (fun _ => rfl)
      have hdn : own_dn kf σ (0 : Int32) (3 : Int32) = (own_mv σ (σ.1 (0 : Int32)) (0 : Int32)) := by simp [own_dn, own_ch, hc25, hc84]
      refine ⟨_, _, go95 _ ?_, hrun, hended, _, _, rfl, ?_, ⟨_, rfl⟩, hW, hsame.mono (by decide) (by decide)⟩
      · exact X86.returnOut hx Bd.returns (hb hby d7_100) hr
      · show QD03 Z _ _ _ _ _ _ _ _ _ _ _ _ T86.heap _
        exact ⟨rfl, N86, K94, by rw [hdn]; exact VIq86, by rw [hdn]; exact VPq86⟩
    · have go96 : Goes p e below s₁ (entryFrame m #[(.ref a1), (.int (0 : Int32))] 4) T82 (mkF m 74 #[.val (.ref a1), .val (.int (0 : Int32)), .val (.int (σ.1 (0 : Int32))), .val (.int (2 : Int32))] [(.ref a1), (.ref a1)]) := fun t k => by
        refine go83 t ?_
        refine XS.ifYes X82.here hx rfl (pc0 := 66) (pc' := 72) rfl (hb hby d7_66) rfl (Jvm.Free.XT.i0_ne_t hc84) (by decide) (by decide) ?_
        refine XS.aloadN X82.here hx rfl (hb hby d7_72) rfl rfl ?_
        refine XS.aloadN X82.here hx rfl (hb hby d7_73) rfl rfl ?_
        exact k
      obtain ⟨T97, X97, e97, st97⟩ := getF X82 hx hZ hown (host := "") (Or.inl (own_wd hw 13 rfl)) Via.refl e82 FI (g := (mkF m 74 #[.val (.ref a1), .val (.int (0 : Int32)), .val (.int (σ.1 (0 : Int32))), .val (.int (2 : Int32))] [(.ref a1), (.ref a1)])) rfl rfl (hb hby d7_74)
      have go98 : Goes p e below s₁ (entryFrame m #[(.ref a1), (.int (0 : Int32))] 4) T97 (mkF m 77 #[.val (.ref a1), .val (.int (0 : Int32)), .val (.int (σ.1 (0 : Int32))), .val (.int (2 : Int32))] [(.ref aI), (.ref a1)]) := fun t k => go96 t (st97 t k)
      have go99 : Goes p e below s₁ (entryFrame m #[(.ref a1), (.int (0 : Int32))] 4) T97 (mkF m 78 #[.val (.ref a1), .val (.int (0 : Int32)), .val (.int (σ.1 (0 : Int32))), .val (.int (2 : Int32))] [(.int (2 : Int32)), (.ref aI), (.ref a1)]) := fun t k => by
        refine go98 t ?_
        refine XS.iloadN X97.here hx rfl (hb hby d7_77) rfl ?_
        exact k
      obtain ⟨cl100, Ar100, kq100, Sz100, Nn100, Hs100, Gf100⟩ := id (VI)
      have hin100 : ¬ ((2 : Int32) < 0 ∨ cl100.slots.size ≤ ((2 : Int32)).toNatClampNeg) := inb_of Sz100 (own_inb own_R2)
      have hat100 : cl100.slots[((2 : Int32)).toNatClampNeg]? = some (.int (σ.1 (2 : Int32))) := Has.at Hs100 hin100 (own_l_at own_R2)
      have go101 : Goes p e below s₁ (entryFrame m #[(.ref a1), (.int (0 : Int32))] 4) T97 (mkF m 80 #[.val (.ref a1), .val (.int (0 : Int32)), .val (.int (σ.1 (0 : Int32))), .val (.int (2 : Int32))] [(.int (0 : Int32)), (.int (σ.1 (2 : Int32))), (.ref a1)]) := fun t k => by
        refine go99 t ?_
        refine X97.iaload hx (j := (2 : Int32)) (v := (.int (σ.1 (2 : Int32)))) (own_hp e97 Ar100.1) (State.isArrayOf_alike hZ.alike Ar100.2.1) Ar100.2.2 hin100 hat100 (g := (mkF m 78 #[.val (.ref a1), .val (.int (0 : Int32)), .val (.int (σ.1 (0 : Int32))), .val (.int (2 : Int32))] [(.int (2 : Int32)), (.ref aI), (.ref a1)])) rfl rfl (hb hby d7_78) _ ?_
        refine XS.iloadN X97.here hx rfl (hb hby d7_79) rfl ?_
        exact k
      obtain ⟨cq102, q102a, q102b⟩ := E1.cell
      obtain ⟨_, _, ⟨T102, L102, k102, n102⟩, -, X102, ⟨Lc102, hQ102, l102, y102, z102⟩, st102⟩ := X97.privateBack hx (y := mN_1) hown (mvT hZ (own_wd hw 33 rfl)) (mvT hZ (own_wd hw 34 rfl)) (own_selp (y := mN_1) (by decide) (mvT hZ (own_wd hw 1 rfl)) (mvP hZ (own_wd hw 35 rfl)) (mvT hZ (own_wd hw 34 rfl))) (Cond.privateMethod_at (mvP hZ (own_wd hw 35 rfl) (args := #[]))) (mvT hZ (own_wd hw 36 rfl)) (by decide) (backOf (W := 0) (rmMv l Z a0 hw [] a1 (σ.1 (2 : Int32)) (0 : Int32) aI aP ki kp σ h0 n0 Z0 FI FP VI VP nIP gI gP R2 own_R0 nAI nAP) hZ (own_wd hw 36 rfl) (own_wd hw 2 rfl) (by decide) (by decide)) (g := (mkF m 80 #[.val (.ref a1), .val (.int (0 : Int32)), .val (.int (σ.1 (0 : Int32))), .val (.int (2 : Int32))] [(.int (0 : Int32)), (.int (σ.1 (2 : Int32))), (.ref a1)])) rfl (by rw [hml]; rfl) (Steps.refl _) (a := a1) (by rw [e97]; exact q102a) q102b (argsL := [(.int (σ.1 (2 : Int32))), (.int (0 : Int32))]) (rest := []) (lenOf pd_0 rfl) rfl (by show 2 * 0 + _ ≤ _; exact Nat.le_of_eq rfl) (hb hby d7_80) (fun _ _ => ⟨rfl, e97, (by decide : 0 + 0 ≤ rO_1.cells), (by decide : 0 + 0 ≤ rO_1.slots)⟩)
      dsimp only [Pt.U, Pt.locs, Pt.cells, Pt.slots] at X102 l102 y102 z102 st102 hQ102
      subst l102 y102 z102
      obtain ⟨rfl, N102q, Kq102, VIq102, VPq102⟩ := hQ102
      have N102 := Fr.app N82 N102q
      have f103 := E1.keep Kq102
      have f104 := FK.keep Kq102 (ninS nAI (ninS nAP nin0))
      have f105 := FI.keep Kq102 (ninS nAI (ninS nAP nin0))
      have f106 := FP.keep Kq102 (ninS nAI (ninS nAP nin0))
      have f107 := FS.keep Kq102 (ninS nAI (ninS nAP nin0))
      have f108 := VK.keep Kq102 (ninS nKI (ninS nKP nin0))
      have Z109 := Nat.le_trans Z0 Kq102.1
      have K110 := K0.trans Kq102 (allS (Or.inl (List.mem_of_getElem? (i := 0) rfl)) (allS (Or.inl (List.mem_of_getElem? (i := 1) rfl)) all0))
      have go111 : Goes p e below s₁ (entryFrame m #[(.ref a1), (.int (0 : Int32))] 4) T102 (mkF m 83 #[.val (.ref a1), .val (.int (0 : Int32)), .val (.int (σ.1 (0 : Int32))), .val (.int (2 : Int32))] []) := fun t k => go101 t (st102.trans k)
      have go112 : Goes p e below s₁ (entryFrame m #[(.ref a1), (.int (0 : Int32))] 4) T102 (mkF m 15 #[.val (.ref a1), .val (.int (2 : Int32)), .val (.int (σ.1 (0 : Int32))), .val (.int (5 : Int32))] [(.ref a1), (.int (5 : Int32))]) := fun t k => by
        refine go111 t ?_
        refine XS.iloadN X102.here hx rfl (hb hby d7_83) rfl ?_
        refine XS.istoreN X102.here hx rfl (hb hby d7_84) rfl (l' := #[.val (.ref a1), .val (.int (2 : Int32)), .val (.int (σ.1 (0 : Int32))), .val (.int (2 : Int32))]) rfl ?_
        refine XS.iconst X102.here hx rfl (hb hby d7_85) ?_
        refine XS.iloadN X102.here hx rfl (hb hby d7_86) rfl ?_
        refine XS.imul X102.here hx rfl (hb hby d7_87) rfl ?_
        refine XS.iconst X102.here hx rfl (hb hby d7_88) ?_
        show Steps p.tables e below (T102.setTop (mkF m 89 #[.val (.ref a1), .val (.int (2 : Int32)), .val (.int (σ.1 (0 : Int32))), .val (.int (2 : Int32))] [(.int (1 : Int32)), (.int (4 : Int32))])) _
        refine XS.iadd X102.here hx rfl (hb hby d7_89) rfl ?_
        refine XS.istoreN X102.here hx rfl (hb hby d7_90) rfl (l' := #[.val (.ref a1), .val (.int (2 : Int32)), .val (.int (σ.1 (0 : Int32))), .val (.int (5 : Int32))]) rfl ?_
        refine XS.goto X102.here hx rfl (pc0 := 91) (pc' := 13) rfl (hb hby d7_91) (by decide) (by decide) ?_
        refine XS.iloadN X102.here hx rfl (hb hby d7_13) rfl ?_
        refine XS.aloadN X102.here hx rfl (hb hby d7_14) rfl rfl ?_
        exact k
      obtain ⟨T113, X113, e113, st113⟩ := getF X102 hx hZ hown (host := "") (Or.inl (own_wd hw 27 rfl)) Via.refl rfl f107 (g := (mkF m 15 #[.val (.ref a1), .val (.int (2 : Int32)), .val (.int (σ.1 (0 : Int32))), .val (.int (5 : Int32))] [(.ref a1), (.int (5 : Int32))])) rfl rfl (hb hby d7_15)
      have go114 : Goes p e below s₁ (entryFrame m #[(.ref a1), (.int (0 : Int32))] 4) T113 (mkF m 18 #[.val (.ref a1), .val (.int (2 : Int32)), .val (.int (σ.1 (0 : Int32))), .val (.int (5 : Int32))] [(.int (3 : Int32)), (.int (5 : Int32))]) := fun t k => go112 t (st113 t k)
      have go115 : Goes p e below s₁ (entryFrame m #[(.ref a1), (.int (0 : Int32))] 4) T113 (mkF m 97 #[.val (.ref a1), .val (.int (2 : Int32)), .val (.int (σ.1 (0 : Int32))), .val (.int (5 : Int32))] [(.int (2 : Int32)), (.int (σ.1 (0 : Int32))), (.ref a1)]) := fun t k => by
        refine go114 t ?_
        refine XS.icmpYes X113.here hx rfl (pc0 := 18) (pc' := 94) rfl (hb hby d7_18) rfl (Jvm.Free.XT.ii_ge_t (by decide)) (by decide) (by decide) ?_
        refine XS.aloadN X113.here hx rfl (hb hby d7_94) rfl rfl ?_
        refine XS.iloadN X113.here hx rfl (hb hby d7_95) rfl ?_
        refine XS.iloadN X113.here hx rfl (hb hby d7_96) rfl ?_
        exact k
      obtain ⟨cq116, q116a, q116b⟩ := f103.cell
      obtain ⟨_, _, ⟨T116, L116, k116, n116⟩, -, X116, ⟨Lc116, hQ116, l116, y116, z116⟩, st116⟩ := X113.privateBack hx (y := mN_1) hown (mvT hZ (own_wd hw 33 rfl)) (mvT hZ (own_wd hw 34 rfl)) (own_selp (y := mN_1) (by decide) (mvT hZ (own_wd hw 1 rfl)) (mvP hZ (own_wd hw 35 rfl)) (mvT hZ (own_wd hw 34 rfl))) (Cond.privateMethod_at (mvP hZ (own_wd hw 35 rfl) (args := #[]))) (mvT hZ (own_wd hw 36 rfl)) (by decide) (backOf (W := 0) (rmMv l Z a0 hw [] a1 (σ.1 (0 : Int32)) (2 : Int32) aI aP ki kp (own_mv σ (σ.1 (2 : Int32)) (0 : Int32)) T102.heap n0 Z109 f105 f106 VIq102 VPq102 nIP gI gP R0 own_R2 nAI nAP) hZ (own_wd hw 36 rfl) (own_wd hw 2 rfl) (by decide) (by decide)) (g := (mkF m 97 #[.val (.ref a1), .val (.int (2 : Int32)), .val (.int (σ.1 (0 : Int32))), .val (.int (5 : Int32))] [(.int (2 : Int32)), (.int (σ.1 (0 : Int32))), (.ref a1)])) rfl (by rw [hml]; rfl) (Steps.refl _) (a := a1) (by rw [e113]; exact q116a) q116b (argsL := [(.int (σ.1 (0 : Int32))), (.int (2 : Int32))]) (rest := []) (lenOf pd_0 rfl) rfl (by show 2 * 0 + _ ≤ _; exact Nat.le_of_eq rfl) (hb hby d7_97) (fun _ _ => ⟨rfl, e113, (by decide : 0 + 0 ≤ rO_1.cells), (by decide : 0 + 0 ≤ rO_1.slots)⟩)
      dsimp only [Pt.U, Pt.locs, Pt.cells, Pt.slots] at X116 l116 y116 z116 st116 hQ116
      subst l116 y116 z116
      obtain ⟨rfl, N116q, Kq116, VIq116, VPq116⟩ := hQ116
      have N116 := Fr.app N102 N116q
      have f117 := f103.keep Kq116
      have f118 := f104.keep Kq116 (ninS nAI (ninS nAP nin0))
      have f119 := f105.keep Kq116 (ninS nAI (ninS nAP nin0))
      have f120 := f106.keep Kq116 (ninS nAI (ninS nAP nin0))
      have f121 := f107.keep Kq116 (ninS nAI (ninS nAP nin0))
      have f122 := f108.keep Kq116 (ninS nKI (ninS nKP nin0))
      have Z123 := Nat.le_trans Z109 Kq116.1
      have K124 := K110.trans Kq116 (allS (Or.inl (List.mem_of_getElem? (i := 0) rfl)) (allS (Or.inl (List.mem_of_getElem? (i := 1) rfl)) all0))
      have go125 : Goes p e below s₁ (entryFrame m #[(.ref a1), (.int (0 : Int32))] 4) T116 (mkF m 100 #[.val (.ref a1), .val (.int (2 : Int32)), .val (.int (σ.1 (0 : Int32))), .val (.int (5 : Int32))] []) := fun t k => go115 t (st116.trans k)
      obtain ⟨fs, hr, hrun, hended, hW, hsame⟩ := X116.leave (v := none) (fun _ => rfl)
      have hdn : own_dn kf σ (0 : Int32) (3 : Int32) = (own_mv (own_mv σ (σ.1 (2 : Int32)) (0 : Int32)) (σ.1 (0 : Int32)) (2 : Int32)) := by simp [own_dn, own_ch, hc25, hc84]
      refine ⟨_, _, go125 _ ?_, hrun, hended, _, _, rfl, ?_, ⟨_, rfl⟩, hW, hsame.mono (by decide) (by decide)⟩
      · exact X116.returnOut hx Bd.returns (hb hby d7_100) hr
      · show QD03 Z _ _ _ _ _ _ _ _ _ _ _ _ T116.heap _
        exact ⟨rfl, N116, K124, by rw [hdn]; exact VIq116, by rw [hdn]; exact VPq116⟩
theorem ef_rmD12 (m : MethodId) (a1 : Addr) : entryFrame m #[(.ref a1), (.int (1 : Int32))] 4 = mkF m 0 #[.val (.ref a1), .val (.int (1 : Int32)), .unset, .unset] [] := by first | (simp [entryFrame, mkF, argsToLocals, Value.category]; done) | rfl
def QD12 (Z : State) (a1 : Addr) (aK aI aP : Addr) (kk ki kp : ClassId) (kf : Int32 → UInt64) (σ : own_P) (h0 : Heap) (n0 : Nat) (v : Option Value) (h : Heap) (L : List Loc) : Prop := v = none ∧ Fr n0 L ∧ Keep h0 h [aI, aP] ∧ Arv Z h aI ki .int 3 (own_l (own_dn kf σ (1 : Int32) (2 : Int32)).1) (.int (0 : Int32)) ∧ Arv Z h aP kp .int 3 (own_l (own_dn kf σ (1 : Int32) (2 : Int32)).2) (.int (0 : Int32))
set_option maxRecDepth 65536 in
set_option maxHeartbeats 40000000 in
theorem rmD12 (l : Launch) (Z : State) (a0 : Array Value) (hw : ∀ d ∈ tables_1, d.before a0 Z = true) (ws : List Jvm.Cond) (a1 : Addr) (aK aI aP : Addr) (kk ki kp : ClassId) (kf : Int32 → UInt64) (σ : own_P) (h0 : Heap) (n0 : Nat) (Z0 : n0 ≤ h0.size) (E1 : Exa Z h0 a1 "com/example/covermesh/covermesh/algorithms/IndexedMinHeap") (FK : Fld Z h0 a1 "com/example/covermesh/covermesh/algorithms/IndexedMinHeap" "keys" "[D" (.ref aK)) (FI : Fld Z h0 a1 "com/example/covermesh/covermesh/algorithms/IndexedMinHeap" "items" "[I" (.ref aI)) (FP : Fld Z h0 a1 "com/example/covermesh/covermesh/algorithms/IndexedMinHeap" "positions" "[I" (.ref aP)) (FS : Fld Z h0 a1 "com/example/covermesh/covermesh/algorithms/IndexedMinHeap" "size" "I" (.int (2 : Int32))) (VK : Arv Z h0 aK kk .double 3 (own_d kf) (.double (0 : UInt64))) (VI : Arv Z h0 aI ki .int 3 (own_l σ.1) (.int (0 : Int32))) (VP : Arv Z h0 aP kp .int 3 (own_l σ.2) (.int (0 : Int32))) (nKI : aK ≠ aI) (nKP : aK ≠ aP) (nIP : aI ≠ aP) (nAK : a1 ≠ aK) (nAI : a1 ≠ aI) (nAP : a1 ≠ aP) (gA : n0 ≤ a1) (gK : n0 ≤ aK) (gI : n0 ≤ aI) (gP : n0 ≤ aP) (R1 : own_R (σ.1 (1 : Int32))) :
    MetFree l mN_0 (head1 (Jvm.Cond.code mN_0 prog_17_method_8_code 4 none :: ws) rO_1) (fun a U => a = #[(.ref a1), (.int (1 : Int32))] ∧ Z.Warmed39 U.vm ∧ U.heap = h0) (fun _ _ _ _ _ => True) (fun _ U o U' => ∃ v L, o = .returned v ∧ QD12 Z a1 aK aI aP kk ki kp kf σ h0 n0 v U'.heap L ∧ FrameEnd U o U' L rO_1.cells rO_1.slots) := by
  refine MetFree.of_bodySF (plainFor_of_name pn_0) hisR ?_
  intro p e s m args below meth c s₁ Bd hml0 hP hK
  obtain ⟨rfl, hZ, hh⟩ := hP
  have hx := Bd.exec
  have hby := Bd.bytes
  have hml : c.maxLocals = 4 := hml0
  have hown : s.vm.findClass "com/example/covermesh/covermesh/algorithms/IndexedMinHeap" = some m.cls := findClass_of_methodNamed Bd.named
  have hnm := (name_of_methodNamed Bd.named Bd.method).1
  have X0 : Stand p l e rO_1 s m #[(.ref a1), (.int (1 : Int32))] below meth c s₁ [] 0 0 := Stand.of_body Bd
  have e0 : s₁.heap = h0 := by rw [← hh, Bd.state]; rfl
  have N0 := Fr.nil n0
  have K0 := Keep.refl h0 [aI, aP]
  have go0 : Goes p e below s₁ (entryFrame m #[(.ref a1), (.int (1 : Int32))] 4) s₁ (mkF m 0 #[.val (.ref a1), .val (.int (1 : Int32)), .unset, .unset] []) := fun t k => castTop (ef_rmD12 m a1) k
  have go1 : Goes p e below s₁ (entryFrame m #[(.ref a1), (.int (1 : Int32))] 4) s₁ (mkF m 1 #[.val (.ref a1), .val (.int (1 : Int32)), .unset, .unset] [(.ref a1)]) := fun t k => by
    refine go0 t ?_
    refine XS.aloadN X0.here hx rfl (hb hby d7_0) rfl rfl ?_
    exact k
  obtain ⟨T2, X2, e2, st2⟩ := getF X0 hx hZ hown (host := "") (Or.inl (own_wd hw 13 rfl)) Via.refl e0 FI (g := (mkF m 1 #[.val (.ref a1), .val (.int (1 : Int32)), .unset, .unset] [(.ref a1)])) rfl rfl (hb hby d7_1)
  have go3 : Goes p e below s₁ (entryFrame m #[(.ref a1), (.int (1 : Int32))] 4) T2 (mkF m 4 #[.val (.ref a1), .val (.int (1 : Int32)), .unset, .unset] [(.ref aI)]) := fun t k => go1 t (st2 t k)
  have go4 : Goes p e below s₁ (entryFrame m #[(.ref a1), (.int (1 : Int32))] 4) T2 (mkF m 5 #[.val (.ref a1), .val (.int (1 : Int32)), .unset, .unset] [(.int (1 : Int32)), (.ref aI)]) := fun t k => by
    refine go3 t ?_
    refine XS.iloadN X2.here hx rfl (hb hby d7_4) rfl ?_
    exact k
  obtain ⟨cl5, Ar5, kq5, Sz5, Nn5, Hs5, Gf5⟩ := id (VI)
  have hin5 : ¬ ((1 : Int32) < 0 ∨ cl5.slots.size ≤ ((1 : Int32)).toNatClampNeg) := inb_of Sz5 (own_inb own_R1)
  have hat5 : cl5.slots[((1 : Int32)).toNatClampNeg]? = some (.int (σ.1 (1 : Int32))) := Has.at Hs5 hin5 (own_l_at own_R1)
  have go6 : Goes p e below s₁ (entryFrame m #[(.ref a1), (.int (1 : Int32))] 4) T2 (mkF m 15 #[.val (.ref a1), .val (.int (1 : Int32)), .val (.int (σ.1 (1 : Int32))), .val (.int (3 : Int32))] [(.ref a1), (.int (3 : Int32))]) := fun t k => by
    refine go4 t ?_
    refine X2.iaload hx (j := (1 : Int32)) (v := (.int (σ.1 (1 : Int32)))) (own_hp e2 Ar5.1) (State.isArrayOf_alike hZ.alike Ar5.2.1) Ar5.2.2 hin5 hat5 (g := (mkF m 5 #[.val (.ref a1), .val (.int (1 : Int32)), .unset, .unset] [(.int (1 : Int32)), (.ref aI)])) rfl rfl (hb hby d7_5) _ ?_
    refine XS.istoreN X2.here hx rfl (hb hby d7_6) rfl (l' := #[.val (.ref a1), .val (.int (1 : Int32)), .val (.int (σ.1 (1 : Int32))), .unset]) rfl ?_
    refine XS.iconst X2.here hx rfl (hb hby d7_7) ?_
    refine XS.iloadN X2.here hx rfl (hb hby d7_8) rfl ?_
    refine XS.imul X2.here hx rfl (hb hby d7_9) rfl ?_
    refine XS.iconst X2.here hx rfl (hb hby d7_10) ?_
    show Steps p.tables e below (T2.setTop (mkF m 11 #[.val (.ref a1), .val (.int (1 : Int32)), .val (.int (σ.1 (1 : Int32))), .unset] [(.int (1 : Int32)), (.int (2 : Int32))])) _
    refine XS.iadd X2.here hx rfl (hb hby d7_11) rfl ?_
    refine XS.istoreN X2.here hx rfl (hb hby d7_12) rfl (l' := #[.val (.ref a1), .val (.int (1 : Int32)), .val (.int (σ.1 (1 : Int32))), .val (.int (3 : Int32))]) rfl ?_
    refine XS.iloadN X2.here hx rfl (hb hby d7_13) rfl ?_
    refine XS.aloadN X2.here hx rfl (hb hby d7_14) rfl rfl ?_
    exact k
  obtain ⟨T7, X7, e7, st7⟩ := getF X2 hx hZ hown (host := "") (Or.inl (own_wd hw 27 rfl)) Via.refl e2 FS (g := (mkF m 15 #[.val (.ref a1), .val (.int (1 : Int32)), .val (.int (σ.1 (1 : Int32))), .val (.int (3 : Int32))] [(.ref a1), (.int (3 : Int32))])) rfl rfl (hb hby d7_15)
  have go8 : Goes p e below s₁ (entryFrame m #[(.ref a1), (.int (1 : Int32))] 4) T7 (mkF m 18 #[.val (.ref a1), .val (.int (1 : Int32)), .val (.int (σ.1 (1 : Int32))), .val (.int (3 : Int32))] [(.int (2 : Int32)), (.int (3 : Int32))]) := fun t k => go6 t (st7 t k)
  have go9 : Goes p e below s₁ (entryFrame m #[(.ref a1), (.int (1 : Int32))] 4) T7 (mkF m 97 #[.val (.ref a1), .val (.int (1 : Int32)), .val (.int (σ.1 (1 : Int32))), .val (.int (3 : Int32))] [(.int (1 : Int32)), (.int (σ.1 (1 : Int32))), (.ref a1)]) := fun t k => by
    refine go8 t ?_
    refine XS.icmpYes X7.here hx rfl (pc0 := 18) (pc' := 94) rfl (hb hby d7_18) rfl (Jvm.Free.XT.ii_ge_t (by decide)) (by decide) (by decide) ?_
    refine XS.aloadN X7.here hx rfl (hb hby d7_94) rfl rfl ?_
    refine XS.iloadN X7.here hx rfl (hb hby d7_95) rfl ?_
    refine XS.iloadN X7.here hx rfl (hb hby d7_96) rfl ?_
    exact k
  obtain ⟨cq10, q10a, q10b⟩ := E1.cell
  obtain ⟨_, _, ⟨T10, L10, k10, n10⟩, -, X10, ⟨Lc10, hQ10, l10, y10, z10⟩, st10⟩ := X7.privateBack hx (y := mN_1) hown (mvT hZ (own_wd hw 33 rfl)) (mvT hZ (own_wd hw 34 rfl)) (own_selp (y := mN_1) (by decide) (mvT hZ (own_wd hw 1 rfl)) (mvP hZ (own_wd hw 35 rfl)) (mvT hZ (own_wd hw 34 rfl))) (Cond.privateMethod_at (mvP hZ (own_wd hw 35 rfl) (args := #[]))) (mvT hZ (own_wd hw 36 rfl)) (by decide) (backOf (W := 0) (rmMv l Z a0 hw [] a1 (σ.1 (1 : Int32)) (1 : Int32) aI aP ki kp σ h0 n0 Z0 FI FP VI VP nIP gI gP R1 own_R1 nAI nAP) hZ (own_wd hw 36 rfl) (own_wd hw 2 rfl) (by decide) (by decide)) (g := (mkF m 97 #[.val (.ref a1), .val (.int (1 : Int32)), .val (.int (σ.1 (1 : Int32))), .val (.int (3 : Int32))] [(.int (1 : Int32)), (.int (σ.1 (1 : Int32))), (.ref a1)])) rfl (by rw [hml]; rfl) (Steps.refl _) (a := a1) (by rw [e7]; exact q10a) q10b (argsL := [(.int (σ.1 (1 : Int32))), (.int (1 : Int32))]) (rest := []) (lenOf pd_0 rfl) rfl (by show 2 * 0 + _ ≤ _; exact Nat.le_of_eq rfl) (hb hby d7_97) (fun _ _ => ⟨rfl, e7, (by decide : 0 + 0 ≤ rO_1.cells), (by decide : 0 + 0 ≤ rO_1.slots)⟩)
  dsimp only [Pt.U, Pt.locs, Pt.cells, Pt.slots] at X10 l10 y10 z10 st10 hQ10
  subst l10 y10 z10
  obtain ⟨rfl, N10q, Kq10, VIq10, VPq10⟩ := hQ10
  have N10 := Fr.app N0 N10q
  have f11 := E1.keep Kq10
  have f12 := FK.keep Kq10 (ninS nAI (ninS nAP nin0))
  have f13 := FI.keep Kq10 (ninS nAI (ninS nAP nin0))
  have f14 := FP.keep Kq10 (ninS nAI (ninS nAP nin0))
  have f15 := FS.keep Kq10 (ninS nAI (ninS nAP nin0))
  have f16 := VK.keep Kq10 (ninS nKI (ninS nKP nin0))
  have Z17 := Nat.le_trans Z0 Kq10.1
  have K18 := K0.trans Kq10 (allS (Or.inl (List.mem_of_getElem? (i := 0) rfl)) (allS (Or.inl (List.mem_of_getElem? (i := 1) rfl)) all0))
  have go19 : Goes p e below s₁ (entryFrame m #[(.ref a1), (.int (1 : Int32))] 4) T10 (mkF m 100 #[.val (.ref a1), .val (.int (1 : Int32)), .val (.int (σ.1 (1 : Int32))), .val (.int (3 : Int32))] []) := fun t k => go9 t (st10.trans k)
  obtain ⟨fs, hr, hrun, hended, hW, hsame⟩ := X10.leave (v := none) (fun _ => rfl)
  have hdn : own_dn kf σ (1 : Int32) (2 : Int32) = (own_mv σ (σ.1 (1 : Int32)) (1 : Int32)) := by simp [own_dn, own_ch]
  refine ⟨_, _, go19 _ ?_, hrun, hended, _, _, rfl, ?_, ⟨_, rfl⟩, hW, hsame.mono (by decide) (by decide)⟩
  · exact X10.returnOut hx Bd.returns (hb hby d7_100) hr
  · show QD12 Z _ _ _ _ _ _ _ _ _ _ _ _ T10.heap _
    exact ⟨rfl, N10, K18, by rw [hdn]; exact VIq10, by rw [hdn]; exact VPq10⟩
theorem ef_rmD13 (m : MethodId) (a1 : Addr) : entryFrame m #[(.ref a1), (.int (1 : Int32))] 4 = mkF m 0 #[.val (.ref a1), .val (.int (1 : Int32)), .unset, .unset] [] := by first | (simp [entryFrame, mkF, argsToLocals, Value.category]; done) | rfl
def QD13 (Z : State) (a1 : Addr) (aK aI aP : Addr) (kk ki kp : ClassId) (kf : Int32 → UInt64) (σ : own_P) (h0 : Heap) (n0 : Nat) (v : Option Value) (h : Heap) (L : List Loc) : Prop := v = none ∧ Fr n0 L ∧ Keep h0 h [aI, aP] ∧ Arv Z h aI ki .int 3 (own_l (own_dn kf σ (1 : Int32) (3 : Int32)).1) (.int (0 : Int32)) ∧ Arv Z h aP kp .int 3 (own_l (own_dn kf σ (1 : Int32) (3 : Int32)).2) (.int (0 : Int32))
set_option maxRecDepth 65536 in
set_option maxHeartbeats 40000000 in
theorem rmD13 (l : Launch) (Z : State) (a0 : Array Value) (hw : ∀ d ∈ tables_1, d.before a0 Z = true) (ws : List Jvm.Cond) (a1 : Addr) (aK aI aP : Addr) (kk ki kp : ClassId) (kf : Int32 → UInt64) (σ : own_P) (h0 : Heap) (n0 : Nat) (Z0 : n0 ≤ h0.size) (E1 : Exa Z h0 a1 "com/example/covermesh/covermesh/algorithms/IndexedMinHeap") (FK : Fld Z h0 a1 "com/example/covermesh/covermesh/algorithms/IndexedMinHeap" "keys" "[D" (.ref aK)) (FI : Fld Z h0 a1 "com/example/covermesh/covermesh/algorithms/IndexedMinHeap" "items" "[I" (.ref aI)) (FP : Fld Z h0 a1 "com/example/covermesh/covermesh/algorithms/IndexedMinHeap" "positions" "[I" (.ref aP)) (FS : Fld Z h0 a1 "com/example/covermesh/covermesh/algorithms/IndexedMinHeap" "size" "I" (.int (3 : Int32))) (VK : Arv Z h0 aK kk .double 3 (own_d kf) (.double (0 : UInt64))) (VI : Arv Z h0 aI ki .int 3 (own_l σ.1) (.int (0 : Int32))) (VP : Arv Z h0 aP kp .int 3 (own_l σ.2) (.int (0 : Int32))) (nKI : aK ≠ aI) (nKP : aK ≠ aP) (nIP : aI ≠ aP) (nAK : a1 ≠ aK) (nAI : a1 ≠ aI) (nAP : a1 ≠ aP) (gA : n0 ≤ a1) (gK : n0 ≤ aK) (gI : n0 ≤ aI) (gP : n0 ≤ aP) (R1 : own_R (σ.1 (1 : Int32))) :
    MetFree l mN_0 (head1 (Jvm.Cond.code mN_0 prog_17_method_8_code 4 none :: ws) rO_1) (fun a U => a = #[(.ref a1), (.int (1 : Int32))] ∧ Z.Warmed39 U.vm ∧ U.heap = h0) (fun _ _ _ _ _ => True) (fun _ U o U' => ∃ v L, o = .returned v ∧ QD13 Z a1 aK aI aP kk ki kp kf σ h0 n0 v U'.heap L ∧ FrameEnd U o U' L rO_1.cells rO_1.slots) := by
  refine MetFree.of_bodySF (plainFor_of_name pn_0) hisR ?_
  intro p e s m args below meth c s₁ Bd hml0 hP hK
  obtain ⟨rfl, hZ, hh⟩ := hP
  have hx := Bd.exec
  have hby := Bd.bytes
  have hml : c.maxLocals = 4 := hml0
  have hown : s.vm.findClass "com/example/covermesh/covermesh/algorithms/IndexedMinHeap" = some m.cls := findClass_of_methodNamed Bd.named
  have hnm := (name_of_methodNamed Bd.named Bd.method).1
  have X0 : Stand p l e rO_1 s m #[(.ref a1), (.int (1 : Int32))] below meth c s₁ [] 0 0 := Stand.of_body Bd
  have e0 : s₁.heap = h0 := by rw [← hh, Bd.state]; rfl
  have N0 := Fr.nil n0
  have K0 := Keep.refl h0 [aI, aP]
  have go0 : Goes p e below s₁ (entryFrame m #[(.ref a1), (.int (1 : Int32))] 4) s₁ (mkF m 0 #[.val (.ref a1), .val (.int (1 : Int32)), .unset, .unset] []) := fun t k => castTop (ef_rmD13 m a1) k
  have go1 : Goes p e below s₁ (entryFrame m #[(.ref a1), (.int (1 : Int32))] 4) s₁ (mkF m 1 #[.val (.ref a1), .val (.int (1 : Int32)), .unset, .unset] [(.ref a1)]) := fun t k => by
    refine go0 t ?_
    refine XS.aloadN X0.here hx rfl (hb hby d7_0) rfl rfl ?_
    exact k
  obtain ⟨T2, X2, e2, st2⟩ := getF X0 hx hZ hown (host := "") (Or.inl (own_wd hw 13 rfl)) Via.refl e0 FI (g := (mkF m 1 #[.val (.ref a1), .val (.int (1 : Int32)), .unset, .unset] [(.ref a1)])) rfl rfl (hb hby d7_1)
  have go3 : Goes p e below s₁ (entryFrame m #[(.ref a1), (.int (1 : Int32))] 4) T2 (mkF m 4 #[.val (.ref a1), .val (.int (1 : Int32)), .unset, .unset] [(.ref aI)]) := fun t k => go1 t (st2 t k)
  have go4 : Goes p e below s₁ (entryFrame m #[(.ref a1), (.int (1 : Int32))] 4) T2 (mkF m 5 #[.val (.ref a1), .val (.int (1 : Int32)), .unset, .unset] [(.int (1 : Int32)), (.ref aI)]) := fun t k => by
    refine go3 t ?_
    refine XS.iloadN X2.here hx rfl (hb hby d7_4) rfl ?_
    exact k
  obtain ⟨cl5, Ar5, kq5, Sz5, Nn5, Hs5, Gf5⟩ := id (VI)
  have hin5 : ¬ ((1 : Int32) < 0 ∨ cl5.slots.size ≤ ((1 : Int32)).toNatClampNeg) := inb_of Sz5 (own_inb own_R1)
  have hat5 : cl5.slots[((1 : Int32)).toNatClampNeg]? = some (.int (σ.1 (1 : Int32))) := Has.at Hs5 hin5 (own_l_at own_R1)
  have go6 : Goes p e below s₁ (entryFrame m #[(.ref a1), (.int (1 : Int32))] 4) T2 (mkF m 15 #[.val (.ref a1), .val (.int (1 : Int32)), .val (.int (σ.1 (1 : Int32))), .val (.int (3 : Int32))] [(.ref a1), (.int (3 : Int32))]) := fun t k => by
    refine go4 t ?_
    refine X2.iaload hx (j := (1 : Int32)) (v := (.int (σ.1 (1 : Int32)))) (own_hp e2 Ar5.1) (State.isArrayOf_alike hZ.alike Ar5.2.1) Ar5.2.2 hin5 hat5 (g := (mkF m 5 #[.val (.ref a1), .val (.int (1 : Int32)), .unset, .unset] [(.int (1 : Int32)), (.ref aI)])) rfl rfl (hb hby d7_5) _ ?_
    refine XS.istoreN X2.here hx rfl (hb hby d7_6) rfl (l' := #[.val (.ref a1), .val (.int (1 : Int32)), .val (.int (σ.1 (1 : Int32))), .unset]) rfl ?_
    refine XS.iconst X2.here hx rfl (hb hby d7_7) ?_
    refine XS.iloadN X2.here hx rfl (hb hby d7_8) rfl ?_
    refine XS.imul X2.here hx rfl (hb hby d7_9) rfl ?_
    refine XS.iconst X2.here hx rfl (hb hby d7_10) ?_
    show Steps p.tables e below (T2.setTop (mkF m 11 #[.val (.ref a1), .val (.int (1 : Int32)), .val (.int (σ.1 (1 : Int32))), .unset] [(.int (1 : Int32)), (.int (2 : Int32))])) _
    refine XS.iadd X2.here hx rfl (hb hby d7_11) rfl ?_
    refine XS.istoreN X2.here hx rfl (hb hby d7_12) rfl (l' := #[.val (.ref a1), .val (.int (1 : Int32)), .val (.int (σ.1 (1 : Int32))), .val (.int (3 : Int32))]) rfl ?_
    refine XS.iloadN X2.here hx rfl (hb hby d7_13) rfl ?_
    refine XS.aloadN X2.here hx rfl (hb hby d7_14) rfl rfl ?_
    exact k
  obtain ⟨T7, X7, e7, st7⟩ := getF X2 hx hZ hown (host := "") (Or.inl (own_wd hw 27 rfl)) Via.refl e2 FS (g := (mkF m 15 #[.val (.ref a1), .val (.int (1 : Int32)), .val (.int (σ.1 (1 : Int32))), .val (.int (3 : Int32))] [(.ref a1), (.int (3 : Int32))])) rfl rfl (hb hby d7_15)
  have go8 : Goes p e below s₁ (entryFrame m #[(.ref a1), (.int (1 : Int32))] 4) T7 (mkF m 18 #[.val (.ref a1), .val (.int (1 : Int32)), .val (.int (σ.1 (1 : Int32))), .val (.int (3 : Int32))] [(.int (3 : Int32)), (.int (3 : Int32))]) := fun t k => go6 t (st7 t k)
  have go9 : Goes p e below s₁ (entryFrame m #[(.ref a1), (.int (1 : Int32))] 4) T7 (mkF m 97 #[.val (.ref a1), .val (.int (1 : Int32)), .val (.int (σ.1 (1 : Int32))), .val (.int (3 : Int32))] [(.int (1 : Int32)), (.int (σ.1 (1 : Int32))), (.ref a1)]) := fun t k => by
    refine go8 t ?_
    refine XS.icmpYes X7.here hx rfl (pc0 := 18) (pc' := 94) rfl (hb hby d7_18) rfl (Jvm.Free.XT.ii_ge_t (by decide)) (by decide) (by decide) ?_
    refine XS.aloadN X7.here hx rfl (hb hby d7_94) rfl rfl ?_
    refine XS.iloadN X7.here hx rfl (hb hby d7_95) rfl ?_
    refine XS.iloadN X7.here hx rfl (hb hby d7_96) rfl ?_
    exact k
  obtain ⟨cq10, q10a, q10b⟩ := E1.cell
  obtain ⟨_, _, ⟨T10, L10, k10, n10⟩, -, X10, ⟨Lc10, hQ10, l10, y10, z10⟩, st10⟩ := X7.privateBack hx (y := mN_1) hown (mvT hZ (own_wd hw 33 rfl)) (mvT hZ (own_wd hw 34 rfl)) (own_selp (y := mN_1) (by decide) (mvT hZ (own_wd hw 1 rfl)) (mvP hZ (own_wd hw 35 rfl)) (mvT hZ (own_wd hw 34 rfl))) (Cond.privateMethod_at (mvP hZ (own_wd hw 35 rfl) (args := #[]))) (mvT hZ (own_wd hw 36 rfl)) (by decide) (backOf (W := 0) (rmMv l Z a0 hw [] a1 (σ.1 (1 : Int32)) (1 : Int32) aI aP ki kp σ h0 n0 Z0 FI FP VI VP nIP gI gP R1 own_R1 nAI nAP) hZ (own_wd hw 36 rfl) (own_wd hw 2 rfl) (by decide) (by decide)) (g := (mkF m 97 #[.val (.ref a1), .val (.int (1 : Int32)), .val (.int (σ.1 (1 : Int32))), .val (.int (3 : Int32))] [(.int (1 : Int32)), (.int (σ.1 (1 : Int32))), (.ref a1)])) rfl (by rw [hml]; rfl) (Steps.refl _) (a := a1) (by rw [e7]; exact q10a) q10b (argsL := [(.int (σ.1 (1 : Int32))), (.int (1 : Int32))]) (rest := []) (lenOf pd_0 rfl) rfl (by show 2 * 0 + _ ≤ _; exact Nat.le_of_eq rfl) (hb hby d7_97) (fun _ _ => ⟨rfl, e7, (by decide : 0 + 0 ≤ rO_1.cells), (by decide : 0 + 0 ≤ rO_1.slots)⟩)
  dsimp only [Pt.U, Pt.locs, Pt.cells, Pt.slots] at X10 l10 y10 z10 st10 hQ10
  subst l10 y10 z10
  obtain ⟨rfl, N10q, Kq10, VIq10, VPq10⟩ := hQ10
  have N10 := Fr.app N0 N10q
  have f11 := E1.keep Kq10
  have f12 := FK.keep Kq10 (ninS nAI (ninS nAP nin0))
  have f13 := FI.keep Kq10 (ninS nAI (ninS nAP nin0))
  have f14 := FP.keep Kq10 (ninS nAI (ninS nAP nin0))
  have f15 := FS.keep Kq10 (ninS nAI (ninS nAP nin0))
  have f16 := VK.keep Kq10 (ninS nKI (ninS nKP nin0))
  have Z17 := Nat.le_trans Z0 Kq10.1
  have K18 := K0.trans Kq10 (allS (Or.inl (List.mem_of_getElem? (i := 0) rfl)) (allS (Or.inl (List.mem_of_getElem? (i := 1) rfl)) all0))
  have go19 : Goes p e below s₁ (entryFrame m #[(.ref a1), (.int (1 : Int32))] 4) T10 (mkF m 100 #[.val (.ref a1), .val (.int (1 : Int32)), .val (.int (σ.1 (1 : Int32))), .val (.int (3 : Int32))] []) := fun t k => go9 t (st10.trans k)
  obtain ⟨fs, hr, hrun, hended, hW, hsame⟩ := X10.leave (v := none) (fun _ => rfl)
  have hdn : own_dn kf σ (1 : Int32) (3 : Int32) = (own_mv σ (σ.1 (1 : Int32)) (1 : Int32)) := by simp [own_dn, own_ch]
  refine ⟨_, _, go19 _ ?_, hrun, hended, _, _, rfl, ?_, ⟨_, rfl⟩, hW, hsame.mono (by decide) (by decide)⟩
  · exact X10.returnOut hx Bd.returns (hb hby d7_100) hr
  · show QD13 Z _ _ _ _ _ _ _ _ _ _ _ _ T10.heap _
    exact ⟨rfl, N10, K18, by rw [hdn]; exact VIq10, by rw [hdn]; exact VPq10⟩
theorem ef_rmD23 (m : MethodId) (a1 : Addr) : entryFrame m #[(.ref a1), (.int (2 : Int32))] 4 = mkF m 0 #[.val (.ref a1), .val (.int (2 : Int32)), .unset, .unset] [] := by first | (simp [entryFrame, mkF, argsToLocals, Value.category]; done) | rfl
def QD23 (Z : State) (a1 : Addr) (aK aI aP : Addr) (kk ki kp : ClassId) (kf : Int32 → UInt64) (σ : own_P) (h0 : Heap) (n0 : Nat) (v : Option Value) (h : Heap) (L : List Loc) : Prop := v = none ∧ Fr n0 L ∧ Keep h0 h [aI, aP] ∧ Arv Z h aI ki .int 3 (own_l (own_dn kf σ (2 : Int32) (3 : Int32)).1) (.int (0 : Int32)) ∧ Arv Z h aP kp .int 3 (own_l (own_dn kf σ (2 : Int32) (3 : Int32)).2) (.int (0 : Int32))
set_option maxRecDepth 65536 in
set_option maxHeartbeats 40000000 in
theorem rmD23 (l : Launch) (Z : State) (a0 : Array Value) (hw : ∀ d ∈ tables_1, d.before a0 Z = true) (ws : List Jvm.Cond) (a1 : Addr) (aK aI aP : Addr) (kk ki kp : ClassId) (kf : Int32 → UInt64) (σ : own_P) (h0 : Heap) (n0 : Nat) (Z0 : n0 ≤ h0.size) (E1 : Exa Z h0 a1 "com/example/covermesh/covermesh/algorithms/IndexedMinHeap") (FK : Fld Z h0 a1 "com/example/covermesh/covermesh/algorithms/IndexedMinHeap" "keys" "[D" (.ref aK)) (FI : Fld Z h0 a1 "com/example/covermesh/covermesh/algorithms/IndexedMinHeap" "items" "[I" (.ref aI)) (FP : Fld Z h0 a1 "com/example/covermesh/covermesh/algorithms/IndexedMinHeap" "positions" "[I" (.ref aP)) (FS : Fld Z h0 a1 "com/example/covermesh/covermesh/algorithms/IndexedMinHeap" "size" "I" (.int (3 : Int32))) (VK : Arv Z h0 aK kk .double 3 (own_d kf) (.double (0 : UInt64))) (VI : Arv Z h0 aI ki .int 3 (own_l σ.1) (.int (0 : Int32))) (VP : Arv Z h0 aP kp .int 3 (own_l σ.2) (.int (0 : Int32))) (nKI : aK ≠ aI) (nKP : aK ≠ aP) (nIP : aI ≠ aP) (nAK : a1 ≠ aK) (nAI : a1 ≠ aI) (nAP : a1 ≠ aP) (gA : n0 ≤ a1) (gK : n0 ≤ aK) (gI : n0 ≤ aI) (gP : n0 ≤ aP) (R2 : own_R (σ.1 (2 : Int32))) :
    MetFree l mN_0 (head1 (Jvm.Cond.code mN_0 prog_17_method_8_code 4 none :: ws) rO_1) (fun a U => a = #[(.ref a1), (.int (2 : Int32))] ∧ Z.Warmed39 U.vm ∧ U.heap = h0) (fun _ _ _ _ _ => True) (fun _ U o U' => ∃ v L, o = .returned v ∧ QD23 Z a1 aK aI aP kk ki kp kf σ h0 n0 v U'.heap L ∧ FrameEnd U o U' L rO_1.cells rO_1.slots) := by
  refine MetFree.of_bodySF (plainFor_of_name pn_0) hisR ?_
  intro p e s m args below meth c s₁ Bd hml0 hP hK
  obtain ⟨rfl, hZ, hh⟩ := hP
  have hx := Bd.exec
  have hby := Bd.bytes
  have hml : c.maxLocals = 4 := hml0
  have hown : s.vm.findClass "com/example/covermesh/covermesh/algorithms/IndexedMinHeap" = some m.cls := findClass_of_methodNamed Bd.named
  have hnm := (name_of_methodNamed Bd.named Bd.method).1
  have X0 : Stand p l e rO_1 s m #[(.ref a1), (.int (2 : Int32))] below meth c s₁ [] 0 0 := Stand.of_body Bd
  have e0 : s₁.heap = h0 := by rw [← hh, Bd.state]; rfl
  have N0 := Fr.nil n0
  have K0 := Keep.refl h0 [aI, aP]
  have go0 : Goes p e below s₁ (entryFrame m #[(.ref a1), (.int (2 : Int32))] 4) s₁ (mkF m 0 #[.val (.ref a1), .val (.int (2 : Int32)), .unset, .unset] []) := fun t k => castTop (ef_rmD23 m a1) k
  have go1 : Goes p e below s₁ (entryFrame m #[(.ref a1), (.int (2 : Int32))] 4) s₁ (mkF m 1 #[.val (.ref a1), .val (.int (2 : Int32)), .unset, .unset] [(.ref a1)]) := fun t k => by
    refine go0 t ?_
    refine XS.aloadN X0.here hx rfl (hb hby d7_0) rfl rfl ?_
    exact k
  obtain ⟨T2, X2, e2, st2⟩ := getF X0 hx hZ hown (host := "") (Or.inl (own_wd hw 13 rfl)) Via.refl e0 FI (g := (mkF m 1 #[.val (.ref a1), .val (.int (2 : Int32)), .unset, .unset] [(.ref a1)])) rfl rfl (hb hby d7_1)
  have go3 : Goes p e below s₁ (entryFrame m #[(.ref a1), (.int (2 : Int32))] 4) T2 (mkF m 4 #[.val (.ref a1), .val (.int (2 : Int32)), .unset, .unset] [(.ref aI)]) := fun t k => go1 t (st2 t k)
  have go4 : Goes p e below s₁ (entryFrame m #[(.ref a1), (.int (2 : Int32))] 4) T2 (mkF m 5 #[.val (.ref a1), .val (.int (2 : Int32)), .unset, .unset] [(.int (2 : Int32)), (.ref aI)]) := fun t k => by
    refine go3 t ?_
    refine XS.iloadN X2.here hx rfl (hb hby d7_4) rfl ?_
    exact k
  obtain ⟨cl5, Ar5, kq5, Sz5, Nn5, Hs5, Gf5⟩ := id (VI)
  have hin5 : ¬ ((2 : Int32) < 0 ∨ cl5.slots.size ≤ ((2 : Int32)).toNatClampNeg) := inb_of Sz5 (own_inb own_R2)
  have hat5 : cl5.slots[((2 : Int32)).toNatClampNeg]? = some (.int (σ.1 (2 : Int32))) := Has.at Hs5 hin5 (own_l_at own_R2)
  have go6 : Goes p e below s₁ (entryFrame m #[(.ref a1), (.int (2 : Int32))] 4) T2 (mkF m 15 #[.val (.ref a1), .val (.int (2 : Int32)), .val (.int (σ.1 (2 : Int32))), .val (.int (5 : Int32))] [(.ref a1), (.int (5 : Int32))]) := fun t k => by
    refine go4 t ?_
    refine X2.iaload hx (j := (2 : Int32)) (v := (.int (σ.1 (2 : Int32)))) (own_hp e2 Ar5.1) (State.isArrayOf_alike hZ.alike Ar5.2.1) Ar5.2.2 hin5 hat5 (g := (mkF m 5 #[.val (.ref a1), .val (.int (2 : Int32)), .unset, .unset] [(.int (2 : Int32)), (.ref aI)])) rfl rfl (hb hby d7_5) _ ?_
    refine XS.istoreN X2.here hx rfl (hb hby d7_6) rfl (l' := #[.val (.ref a1), .val (.int (2 : Int32)), .val (.int (σ.1 (2 : Int32))), .unset]) rfl ?_
    refine XS.iconst X2.here hx rfl (hb hby d7_7) ?_
    refine XS.iloadN X2.here hx rfl (hb hby d7_8) rfl ?_
    refine XS.imul X2.here hx rfl (hb hby d7_9) rfl ?_
    refine XS.iconst X2.here hx rfl (hb hby d7_10) ?_
    show Steps p.tables e below (T2.setTop (mkF m 11 #[.val (.ref a1), .val (.int (2 : Int32)), .val (.int (σ.1 (2 : Int32))), .unset] [(.int (1 : Int32)), (.int (4 : Int32))])) _
    refine XS.iadd X2.here hx rfl (hb hby d7_11) rfl ?_
    refine XS.istoreN X2.here hx rfl (hb hby d7_12) rfl (l' := #[.val (.ref a1), .val (.int (2 : Int32)), .val (.int (σ.1 (2 : Int32))), .val (.int (5 : Int32))]) rfl ?_
    refine XS.iloadN X2.here hx rfl (hb hby d7_13) rfl ?_
    refine XS.aloadN X2.here hx rfl (hb hby d7_14) rfl rfl ?_
    exact k
  obtain ⟨T7, X7, e7, st7⟩ := getF X2 hx hZ hown (host := "") (Or.inl (own_wd hw 27 rfl)) Via.refl e2 FS (g := (mkF m 15 #[.val (.ref a1), .val (.int (2 : Int32)), .val (.int (σ.1 (2 : Int32))), .val (.int (5 : Int32))] [(.ref a1), (.int (5 : Int32))])) rfl rfl (hb hby d7_15)
  have go8 : Goes p e below s₁ (entryFrame m #[(.ref a1), (.int (2 : Int32))] 4) T7 (mkF m 18 #[.val (.ref a1), .val (.int (2 : Int32)), .val (.int (σ.1 (2 : Int32))), .val (.int (5 : Int32))] [(.int (3 : Int32)), (.int (5 : Int32))]) := fun t k => go6 t (st7 t k)
  have go9 : Goes p e below s₁ (entryFrame m #[(.ref a1), (.int (2 : Int32))] 4) T7 (mkF m 97 #[.val (.ref a1), .val (.int (2 : Int32)), .val (.int (σ.1 (2 : Int32))), .val (.int (5 : Int32))] [(.int (2 : Int32)), (.int (σ.1 (2 : Int32))), (.ref a1)]) := fun t k => by
    refine go8 t ?_
    refine XS.icmpYes X7.here hx rfl (pc0 := 18) (pc' := 94) rfl (hb hby d7_18) rfl (Jvm.Free.XT.ii_ge_t (by decide)) (by decide) (by decide) ?_
    refine XS.aloadN X7.here hx rfl (hb hby d7_94) rfl rfl ?_
    refine XS.iloadN X7.here hx rfl (hb hby d7_95) rfl ?_
    refine XS.iloadN X7.here hx rfl (hb hby d7_96) rfl ?_
    exact k
  obtain ⟨cq10, q10a, q10b⟩ := E1.cell
  obtain ⟨_, _, ⟨T10, L10, k10, n10⟩, -, X10, ⟨Lc10, hQ10, l10, y10, z10⟩, st10⟩ := X7.privateBack hx (y := mN_1) hown (mvT hZ (own_wd hw 33 rfl)) (mvT hZ (own_wd hw 34 rfl)) (own_selp (y := mN_1) (by decide) (mvT hZ (own_wd hw 1 rfl)) (mvP hZ (own_wd hw 35 rfl)) (mvT hZ (own_wd hw 34 rfl))) (Cond.privateMethod_at (mvP hZ (own_wd hw 35 rfl) (args := #[]))) (mvT hZ (own_wd hw 36 rfl)) (by decide) (backOf (W := 0) (rmMv l Z a0 hw [] a1 (σ.1 (2 : Int32)) (2 : Int32) aI aP ki kp σ h0 n0 Z0 FI FP VI VP nIP gI gP R2 own_R2 nAI nAP) hZ (own_wd hw 36 rfl) (own_wd hw 2 rfl) (by decide) (by decide)) (g := (mkF m 97 #[.val (.ref a1), .val (.int (2 : Int32)), .val (.int (σ.1 (2 : Int32))), .val (.int (5 : Int32))] [(.int (2 : Int32)), (.int (σ.1 (2 : Int32))), (.ref a1)])) rfl (by rw [hml]; rfl) (Steps.refl _) (a := a1) (by rw [e7]; exact q10a) q10b (argsL := [(.int (σ.1 (2 : Int32))), (.int (2 : Int32))]) (rest := []) (lenOf pd_0 rfl) rfl (by show 2 * 0 + _ ≤ _; exact Nat.le_of_eq rfl) (hb hby d7_97) (fun _ _ => ⟨rfl, e7, (by decide : 0 + 0 ≤ rO_1.cells), (by decide : 0 + 0 ≤ rO_1.slots)⟩)
  dsimp only [Pt.U, Pt.locs, Pt.cells, Pt.slots] at X10 l10 y10 z10 st10 hQ10
  subst l10 y10 z10
  obtain ⟨rfl, N10q, Kq10, VIq10, VPq10⟩ := hQ10
  have N10 := Fr.app N0 N10q
  have f11 := E1.keep Kq10
  have f12 := FK.keep Kq10 (ninS nAI (ninS nAP nin0))
  have f13 := FI.keep Kq10 (ninS nAI (ninS nAP nin0))
  have f14 := FP.keep Kq10 (ninS nAI (ninS nAP nin0))
  have f15 := FS.keep Kq10 (ninS nAI (ninS nAP nin0))
  have f16 := VK.keep Kq10 (ninS nKI (ninS nKP nin0))
  have Z17 := Nat.le_trans Z0 Kq10.1
  have K18 := K0.trans Kq10 (allS (Or.inl (List.mem_of_getElem? (i := 0) rfl)) (allS (Or.inl (List.mem_of_getElem? (i := 1) rfl)) all0))
  have go19 : Goes p e below s₁ (entryFrame m #[(.ref a1), (.int (2 : Int32))] 4) T10 (mkF m 100 #[.val (.ref a1), .val (.int (2 : Int32)), .val (.int (σ.1 (2 : Int32))), .val (.int (5 : Int32))] []) := fun t k => go9 t (st10.trans k)
  obtain ⟨fs, hr, hrun, hended, hW, hsame⟩ := X10.leave (v := none) (fun _ => rfl)
  have hdn : own_dn kf σ (2 : Int32) (3 : Int32) = (own_mv σ (σ.1 (2 : Int32)) (2 : Int32)) := by simp [own_dn, own_ch]
  refine ⟨_, _, go19 _ ?_, hrun, hended, _, _, rfl, ?_, ⟨_, rfl⟩, hW, hsame.mono (by decide) (by decide)⟩
  · exact X10.returnOut hx Bd.returns (hb hby d7_100) hr
  · show QD23 Z _ _ _ _ _ _ _ _ _ _ _ _ T10.heap _
    exact ⟨rfl, N10, K18, by rw [hdn]; exact VIq10, by rw [hdn]; exact VPq10⟩
theorem own_mv_R {s : own_P} {it ix j : Int32} (h1 : own_R it) (h2 : own_R (s.1 j)) : own_R ((own_mv s it ix).1 j) := by
  unfold own_mv own_u; dsimp only; split <;> assumption
theorem own_up_R {kf : Int32 → UInt64} {s : own_P} {i j : Int32} (hi : own_R (s.1 i)) (h0 : own_R (s.1 0)) (hj : own_R (s.1 j)) : own_R ((own_up kf s i).1 j) := by
  unfold own_up; split
  · exact own_mv_R hi hj
  · exact own_mv_R hi (own_mv_R h0 hj)
theorem own_up_pos {kf : Int32 → UInt64} {s : own_P} {i u : Int32} (h1 : s.1 i = u) : (own_up kf s i).2 u = i ∨ (own_up kf s i).2 u = 0 := by
  unfold own_up; split
  · left; unfold own_mv; dsimp only; rw [h1]; exact own_us
  · right; unfold own_mv; dsimp only; rw [h1]; exact own_us
theorem own_u_R {f : Int32 → Int32} {i j v : Int32} (h1 : own_R v) (h2 : ¬ j = i → own_R (f j)) : own_R (own_u f i v j) := by
  unfold own_u; split
  · exact h1
  · exact h2 (by assumption)
theorem pd_2 : parseMethodDescriptor "(I)V" = some ⟨[.int], none⟩ := by decide +kernel
theorem d4_0 : decode prog_17_method_4_code 0 = .ok (.aload_n 0, 1) := by decide +kernel
theorem d4_1 : decode prog_17_method_4_code 1 = .ok (.getfield 17, 3) := by decide +kernel
theorem d4_4 : decode prog_17_method_4_code 4 = .ok (.iload_n 1, 1) := by decide +kernel
theorem d4_5 : decode prog_17_method_4_code 5 = .ok (.iaload, 1) := by decide +kernel
theorem d4_6 : decode prog_17_method_4_code 6 = .ok (.ifCond .ge 30, 3) := by decide +kernel
theorem d4_9 : decode prog_17_method_4_code 9 = .ok (.aload_n 0, 1) := by decide +kernel
theorem d4_10 : decode prog_17_method_4_code 10 = .ok (.getfield 13, 3) := by decide +kernel
theorem d4_13 : decode prog_17_method_4_code 13 = .ok (.aload_n 0, 1) := by decide +kernel
theorem d4_14 : decode prog_17_method_4_code 14 = .ok (.getfield 26, 3) := by decide +kernel
theorem d4_17 : decode prog_17_method_4_code 17 = .ok (.iload_n 1, 1) := by decide +kernel
theorem d4_18 : decode prog_17_method_4_code 18 = .ok (.iastore, 1) := by decide +kernel
theorem d4_19 : decode prog_17_method_4_code 19 = .ok (.aload_n 0, 1) := by decide +kernel
theorem d4_20 : decode prog_17_method_4_code 20 = .ok (.getfield 17, 3) := by decide +kernel
theorem d4_23 : decode prog_17_method_4_code 23 = .ok (.iload_n 1, 1) := by decide +kernel
theorem d4_24 : decode prog_17_method_4_code 24 = .ok (.aload_n 0, 1) := by decide +kernel
theorem d4_25 : decode prog_17_method_4_code 25 = .ok (.dup, 1) := by decide +kernel
theorem d4_26 : decode prog_17_method_4_code 26 = .ok (.getfield 26, 3) := by decide +kernel
theorem d4_29 : decode prog_17_method_4_code 29 = .ok (.dup_x1, 1) := by decide +kernel
theorem d4_30 : decode prog_17_method_4_code 30 = .ok (.iconst 1, 1) := by decide +kernel
theorem d4_31 : decode prog_17_method_4_code 31 = .ok (.iadd, 1) := by decide +kernel
theorem d4_32 : decode prog_17_method_4_code 32 = .ok (.putfield 26, 3) := by decide +kernel
theorem d4_35 : decode prog_17_method_4_code 35 = .ok (.iastore, 1) := by decide +kernel
theorem d4_36 : decode prog_17_method_4_code 36 = .ok (.aload_n 0, 1) := by decide +kernel
theorem d4_37 : decode prog_17_method_4_code 37 = .ok (.getfield 7, 3) := by decide +kernel
theorem d4_40 : decode prog_17_method_4_code 40 = .ok (.iload_n 1, 1) := by decide +kernel
theorem d4_41 : decode prog_17_method_4_code 41 = .ok (.dload_n 2, 1) := by decide +kernel
theorem d4_42 : decode prog_17_method_4_code 42 = .ok (.dastore, 1) := by decide +kernel
theorem d4_43 : decode prog_17_method_4_code 43 = .ok (.aload_n 0, 1) := by decide +kernel
theorem d4_44 : decode prog_17_method_4_code 44 = .ok (.aload_n 0, 1) := by decide +kernel
theorem d4_45 : decode prog_17_method_4_code 45 = .ok (.getfield 17, 3) := by decide +kernel
theorem d4_48 : decode prog_17_method_4_code 48 = .ok (.iload_n 1, 1) := by decide +kernel
theorem d4_49 : decode prog_17_method_4_code 49 = .ok (.iaload, 1) := by decide +kernel
theorem d4_50 : decode prog_17_method_4_code 50 = .ok (.invokevirtual 30, 3) := by decide +kernel
theorem d4_53 : decode prog_17_method_4_code 53 = .ok (.aload_n 0, 1) := by decide +kernel
theorem d4_54 : decode prog_17_method_4_code 54 = .ok (.aload_n 0, 1) := by decide +kernel
theorem d4_55 : decode prog_17_method_4_code 55 = .ok (.getfield 17, 3) := by decide +kernel
theorem d4_58 : decode prog_17_method_4_code 58 = .ok (.iload_n 1, 1) := by decide +kernel
theorem d4_59 : decode prog_17_method_4_code 59 = .ok (.iaload, 1) := by decide +kernel
theorem d4_60 : decode prog_17_method_4_code 60 = .ok (.invokevirtual 34, 3) := by decide +kernel
theorem d4_63 : decode prog_17_method_4_code 63 = .ok (.return_, 1) := by decide +kernel
theorem ef_rmPA0 (m : MethodId) (a1 : Addr) (u : Int32) (key : UInt64) : entryFrame m #[(.ref a1), (.int u), (.double key)] 4 = mkF m 0 #[.val (.ref a1), .val (.int u), .val (.double key), .second] [] := by first | (simp [entryFrame, mkF, argsToLocals, Value.category]; done) | rfl
def QPA0 (Z : State) (a1 : Addr) (u : Int32) (key : UInt64) (aK aI aP : Addr) (kk ki kp : ClassId) (kf : Int32 → UInt64) (σ : own_P) (h0 : Heap) (n0 : Nat) (v : Option Value) (h : Heap) (L : List Loc) : Prop := v = none ∧ Fr n0 L ∧ Keep h0 h [a1, aK, aI, aP] ∧ Exa Z h a1 "com/example/covermesh/covermesh/algorithms/IndexedMinHeap" ∧ Fld Z h a1 "com/example/covermesh/covermesh/algorithms/IndexedMinHeap" "keys" "[D" (.ref aK) ∧ Fld Z h a1 "com/example/covermesh/covermesh/algorithms/IndexedMinHeap" "items" "[I" (.ref aI) ∧ Fld Z h a1 "com/example/covermesh/covermesh/algorithms/IndexedMinHeap" "positions" "[I" (.ref aP) ∧ Fld Z h a1 "com/example/covermesh/covermesh/algorithms/IndexedMinHeap" "size" "I" (.int (1 : Int32)) ∧ Arv Z h aK kk .double 3 (own_d (own_u kf u key)) (.double (0 : UInt64)) ∧ Arv Z h aI ki .int 3 (own_l (own_putA (own_u kf u key) σ u (0 : Int32)).1) (.int (0 : Int32)) ∧ Arv Z h aP kp .int 3 (own_l (own_putA (own_u kf u key) σ u (0 : Int32)).2) (.int (0 : Int32))
set_option maxRecDepth 65536 in
set_option maxHeartbeats 40000000 in
theorem rmPA0 (l : Launch) (Z : State) (a0 : Array Value) (hw : ∀ d ∈ tables_1, d.before a0 Z = true) (ws : List Jvm.Cond) (a1 : Addr) (u : Int32) (key : UInt64) (aK aI aP : Addr) (kk ki kp : ClassId) (kf : Int32 → UInt64) (σ : own_P) (h0 : Heap) (n0 : Nat) (Z0 : n0 ≤ h0.size) (E1 : Exa Z h0 a1 "com/example/covermesh/covermesh/algorithms/IndexedMinHeap") (FK : Fld Z h0 a1 "com/example/covermesh/covermesh/algorithms/IndexedMinHeap" "keys" "[D" (.ref aK)) (FI : Fld Z h0 a1 "com/example/covermesh/covermesh/algorithms/IndexedMinHeap" "items" "[I" (.ref aI)) (FP : Fld Z h0 a1 "com/example/covermesh/covermesh/algorithms/IndexedMinHeap" "positions" "[I" (.ref aP)) (FS : Fld Z h0 a1 "com/example/covermesh/covermesh/algorithms/IndexedMinHeap" "size" "I" (.int (0 : Int32))) (VK : Arv Z h0 aK kk .double 3 (own_d kf) (.double (0 : UInt64))) (VI : Arv Z h0 aI ki .int 3 (own_l σ.1) (.int (0 : Int32))) (VP : Arv Z h0 aP kp .int 3 (own_l σ.2) (.int (0 : Int32))) (nKI : aK ≠ aI) (nKP : aK ≠ aP) (nIP : aI ≠ aP) (nAK : a1 ≠ aK) (nAI : a1 ≠ aI) (nAP : a1 ≠ aP) (gA : n0 ≤ a1) (gK : n0 ≤ aK) (gI : n0 ≤ aI) (gP : n0 ≤ aP) (Ru : own_R u) (hgu : σ.2 u < 0) :
    MetFree l mN_2 (head1 (Jvm.Cond.code mN_2 prog_17_method_4_code 4 none :: ws) rO_3) (fun a U => a = #[(.ref a1), (.int u), (.double key)] ∧ Z.Warmed39 U.vm ∧ U.heap = h0) (fun _ _ _ _ _ => True) (fun _ U o U' => ∃ v L, o = .returned v ∧ QPA0 Z a1 u key aK aI aP kk ki kp kf σ h0 n0 v U'.heap L ∧ FrameEnd U o U' L rO_3.cells rO_3.slots) := by
  refine MetFree.of_bodySF (plainFor_of_name pn_0) hisR ?_
  intro p e s m args below meth c s₁ Bd hml0 hP hK
  obtain ⟨rfl, hZ, hh⟩ := hP
  have hx := Bd.exec
  have hby := Bd.bytes
  have hml : c.maxLocals = 4 := hml0
  have hown : s.vm.findClass "com/example/covermesh/covermesh/algorithms/IndexedMinHeap" = some m.cls := findClass_of_methodNamed Bd.named
  have hnm := (name_of_methodNamed Bd.named Bd.method).1
  have X0 : Stand p l e rO_3 s m #[(.ref a1), (.int u), (.double key)] below meth c s₁ [] 0 0 := Stand.of_body Bd
  have e0 : s₁.heap = h0 := by rw [← hh, Bd.state]; rfl
  have N0 := Fr.nil n0
  have K0 := Keep.refl h0 [a1, aK, aI, aP]
  have go0 : Goes p e below s₁ (entryFrame m #[(.ref a1), (.int u), (.double key)] 4) s₁ (mkF m 0 #[.val (.ref a1), .val (.int u), .val (.double key), .second] []) := fun t k => castTop (ef_rmPA0 m a1 u key) k
  have go1 : Goes p e below s₁ (entryFrame m #[(.ref a1), (.int u), (.double key)] 4) s₁ (mkF m 1 #[.val (.ref a1), .val (.int u), .val (.double key), .second] [(.ref a1)]) := fun t k => by
    refine go0 t ?_
    refine XS.aloadN X0.here hx rfl (hb hby d4_0) rfl rfl ?_
    exact k
  obtain ⟨T2, X2, e2, st2⟩ := getF X0 hx hZ hown (host := "") (Or.inl (own_wd hw 15 rfl)) Via.refl e0 FP (g := (mkF m 1 #[.val (.ref a1), .val (.int u), .val (.double key), .second] [(.ref a1)])) rfl rfl (hb hby d4_1)
  have go3 : Goes p e below s₁ (entryFrame m #[(.ref a1), (.int u), (.double key)] 4) T2 (mkF m 4 #[.val (.ref a1), .val (.int u), .val (.double key), .second] [(.ref aP)]) := fun t k => go1 t (st2 t k)
  have go4 : Goes p e below s₁ (entryFrame m #[(.ref a1), (.int u), (.double key)] 4) T2 (mkF m 5 #[.val (.ref a1), .val (.int u), .val (.double key), .second] [(.int u), (.ref aP)]) := fun t k => by
    refine go3 t ?_
    refine XS.iloadN X2.here hx rfl (hb hby d4_4) rfl ?_
    exact k
  obtain ⟨cl5, Ar5, kq5, Sz5, Nn5, Hs5, Gf5⟩ := id (VP)
  have hin5 : ¬ (u < 0 ∨ cl5.slots.size ≤ (u).toNatClampNeg) := inb_of Sz5 (own_inb Ru)
  have hat5 : cl5.slots[(u).toNatClampNeg]? = some (.int (σ.2 u)) := Has.at Hs5 hin5 (own_l_at Ru)
  have go6 : Goes p e below s₁ (entryFrame m #[(.ref a1), (.int u), (.double key)] 4) T2 (mkF m 6 #[.val (.ref a1), .val (.int u), .val (.double key), .second] [(.int (σ.2 u))]) := fun t k => by
    refine go4 t ?_
    refine X2.iaload hx (j := u) (v := (.int (σ.2 u))) (own_hp e2 Ar5.1) (State.isArrayOf_alike hZ.alike Ar5.2.1) Ar5.2.2 hin5 hat5 (g := (mkF m 5 #[.val (.ref a1), .val (.int u), .val (.double key), .second] [(.int u), (.ref aP)])) rfl rfl (hb hby d4_5) _ ?_
    exact k
  have go7 : Goes p e below s₁ (entryFrame m #[(.ref a1), (.int u), (.double key)] 4) T2 (mkF m 10 #[.val (.ref a1), .val (.int u), .val (.double key), .second] [(.ref a1)]) := fun t k => by
    refine go6 t ?_
    refine XS.ifNo X2.here hx rfl (hb hby d4_6) rfl (Jvm.Free.XT.i0_ge_f hgu) ?_
    refine XS.aloadN X2.here hx rfl (hb hby d4_9) rfl rfl ?_
    exact k
  obtain ⟨T8, X8, e8, st8⟩ := getF X2 hx hZ hown (host := "") (Or.inl (own_wd hw 13 rfl)) Via.refl e2 FI (g := (mkF m 10 #[.val (.ref a1), .val (.int u), .val (.double key), .second] [(.ref a1)])) rfl rfl (hb hby d4_10)
  have go9 : Goes p e below s₁ (entryFrame m #[(.ref a1), (.int u), (.double key)] 4) T8 (mkF m 13 #[.val (.ref a1), .val (.int u), .val (.double key), .second] [(.ref aI)]) := fun t k => go7 t (st8 t k)
  have go10 : Goes p e below s₁ (entryFrame m #[(.ref a1), (.int u), (.double key)] 4) T8 (mkF m 14 #[.val (.ref a1), .val (.int u), .val (.double key), .second] [(.ref a1), (.ref aI)]) := fun t k => by
    refine go9 t ?_
    refine XS.aloadN X8.here hx rfl (hb hby d4_13) rfl rfl ?_
    exact k
  obtain ⟨T11, X11, e11, st11⟩ := getF X8 hx hZ hown (host := "") (Or.inl (own_wd hw 27 rfl)) Via.refl e8 FS (g := (mkF m 14 #[.val (.ref a1), .val (.int u), .val (.double key), .second] [(.ref a1), (.ref aI)])) rfl rfl (hb hby d4_14)
  have go12 : Goes p e below s₁ (entryFrame m #[(.ref a1), (.int u), (.double key)] 4) T11 (mkF m 17 #[.val (.ref a1), .val (.int u), .val (.double key), .second] [(.int (0 : Int32)), (.ref aI)]) := fun t k => go10 t (st11 t k)
  have go13 : Goes p e below s₁ (entryFrame m #[(.ref a1), (.int u), (.double key)] 4) T11 (mkF m 18 #[.val (.ref a1), .val (.int u), .val (.double key), .second] [(.int u), (.int (0 : Int32)), (.ref aI)]) := fun t k => by
    refine go12 t ?_
    refine XS.iloadN X11.here hx rfl (hb hby d4_17) rfl ?_
    exact k
  obtain ⟨cl14, Ar14, kq14, Sz14, Nn14, Hs14, Gf14⟩ := id (VI)
  have hin14 : ¬ ((0 : Int32) < 0 ∨ cl14.slots.size ≤ ((0 : Int32)).toNatClampNeg) := inb_of Sz14 (own_inb own_R0)
  obtain ⟨T15, h15, X15, e15, W15, st15⟩ := stI X11 hx hZ e11 Ar14 (j := (0 : Int32)) hin14 (g := (mkF m 18 #[.val (.ref a1), .val (.int u), .val (.double key), .second] [(.int u), (.int (0 : Int32)), (.ref aI)])) rfl rfl (hb hby d4_18)
  have V16 : Arv Z h15 aI ki .int 3 (own_l (own_u σ.1 (0 : Int32) u)) (.int (0 : Int32)) := by rw [← own_l_set own_R0]; exact Arv.set Ar14 kq14 Sz14 Nn14 Hs14 Gf14 rfl W15 _ rfl (own_l_len own_R0)
  have f17 := E1.wr W15
  have f18 := FK.other W15 (Or.inl nAI)
  have f19 := FI.other W15 (Or.inl nAI)
  have f20 := FP.other W15 (Or.inl nAI)
  have f21 := FS.other W15 (Or.inl nAI)
  have f22 := VK.other W15 nKI
  have f23 := VP.other W15 (Ne.symm nIP)
  have Z24 := Nat.le_trans Z0 (Nat.le_of_eq W15.size.symm)
  have K25 := K0.wr W15 (Or.inl (List.mem_of_getElem? (i := 2) rfl))
  have N26 := Fr.snoc X15 N0 gI
  have go27 : Goes p e below s₁ (entryFrame m #[(.ref a1), (.int u), (.double key)] 4) T15 (mkF m 19 #[.val (.ref a1), .val (.int u), .val (.double key), .second] []) := fun t k => go13 t (st15 t k)
  have go28 : Goes p e below s₁ (entryFrame m #[(.ref a1), (.int u), (.double key)] 4) T15 (mkF m 20 #[.val (.ref a1), .val (.int u), .val (.double key), .second] [(.ref a1)]) := fun t k => by
    refine go27 t ?_
    refine XS.aloadN X15.here hx rfl (hb hby d4_19) rfl rfl ?_
    exact k
  obtain ⟨T29, X29, e29, st29⟩ := getF X15 hx hZ hown (host := "") (Or.inl (own_wd hw 15 rfl)) Via.refl e15 f20 (g := (mkF m 20 #[.val (.ref a1), .val (.int u), .val (.double key), .second] [(.ref a1)])) rfl rfl (hb hby d4_20)
  have go30 : Goes p e below s₁ (entryFrame m #[(.ref a1), (.int u), (.double key)] 4) T29 (mkF m 23 #[.val (.ref a1), .val (.int u), .val (.double key), .second] [(.ref aP)]) := fun t k => go28 t (st29 t k)
  have go31 : Goes p e below s₁ (entryFrame m #[(.ref a1), (.int u), (.double key)] 4) T29 (mkF m 26 #[.val (.ref a1), .val (.int u), .val (.double key), .second] [(.ref a1), (.ref a1), (.int u), (.ref aP)]) := fun t k => by
    refine go30 t ?_
    refine XS.iloadN X29.here hx rfl (hb hby d4_23) rfl ?_
    refine XS.aloadN X29.here hx rfl (hb hby d4_24) rfl rfl ?_
    refine XS.dup X29.here hx rfl (hb hby d4_25) rfl rfl ?_
    exact k
  obtain ⟨T32, X32, e32, st32⟩ := getF X29 hx hZ hown (host := "") (Or.inl (own_wd hw 27 rfl)) Via.refl e29 f21 (g := (mkF m 26 #[.val (.ref a1), .val (.int u), .val (.double key), .second] [(.ref a1), (.ref a1), (.int u), (.ref aP)])) rfl rfl (hb hby d4_26)
  have go33 : Goes p e below s₁ (entryFrame m #[(.ref a1), (.int u), (.double key)] 4) T32 (mkF m 29 #[.val (.ref a1), .val (.int u), .val (.double key), .second] [(.int (0 : Int32)), (.ref a1), (.int u), (.ref aP)]) := fun t k => go31 t (st32 t k)
  have go34 : Goes p e below s₁ (entryFrame m #[(.ref a1), (.int u), (.double key)] 4) T32 (mkF m 32 #[.val (.ref a1), .val (.int u), .val (.double key), .second] [(.int (1 : Int32)), (.ref a1), (.int (0 : Int32)), (.int u), (.ref aP)]) := fun t k => by
    refine go33 t ?_
    refine XS.dupX1 X32.here hx rfl (hb hby d4_29) rfl rfl rfl ?_
    refine XS.iconst X32.here hx rfl (hb hby d4_30) ?_
    refine XS.iadd X32.here hx rfl (hb hby d4_31) rfl ?_
    exact k
  obtain ⟨T35, h35, X35, e35, W35, st35⟩ := putF X32 hx hZ hown (host := "") (Or.inl (own_wd hw 27 rfl)) Via.refl e32 f21 f17 (Or.inl (own_wd hw 28 rfl)) (own_wd hw 1 rfl) (ty := .int) (by decide) rfl rfl (g := (mkF m 32 #[.val (.ref a1), .val (.int u), .val (.double key), .second] [(.int (1 : Int32)), (.ref a1), (.int (0 : Int32)), (.int u), (.ref aP)])) rfl rfl (hb hby d4_32)
  have f36 := f21.same W35
  have f37 := f17.wr W35
  have f38 := f18.other W35 (Or.inr (slot_ne (Or.inr (own_wd hw 11 rfl)) (Or.inl (own_wd hw 28 rfl)) (by decide) (t := (.array .double)) (t' := .int) (by decide) (by decide)))
  have f39 := f19.other W35 (Or.inr (slot_ne (Or.inr (own_wd hw 14 rfl)) (Or.inl (own_wd hw 28 rfl)) (by decide) (t := (.array .int)) (t' := .int) (by decide) (by decide)))
  have f40 := f20.other W35 (Or.inr (slot_ne (Or.inr (own_wd hw 16 rfl)) (Or.inl (own_wd hw 28 rfl)) (by decide) (t := (.array .int)) (t' := .int) (by decide) (by decide)))
  have f41 := f22.other W35 (Ne.symm nAK)
  have f42 := f23.other W35 (Ne.symm nAP)
  have f43 := V16.other W35 (Ne.symm nAI)
  have Z44 := Nat.le_trans Z24 (Nat.le_of_eq W35.size.symm)
  have K45 := K25.wr W35 (Or.inl (List.mem_of_getElem? (i := 0) rfl))
  have N46 := Fr.snoc X35 N26 gA
  have go47 : Goes p e below s₁ (entryFrame m #[(.ref a1), (.int u), (.double key)] 4) T35 (mkF m 35 #[.val (.ref a1), .val (.int u), .val (.double key), .second] [(.int (0 : Int32)), (.int u), (.ref aP)]) := fun t k => go34 t (st35 t k)
  obtain ⟨cl48, Ar48, kq48, Sz48, Nn48, Hs48, Gf48⟩ := id (f42)
  have hin48 : ¬ (u < 0 ∨ cl48.slots.size ≤ (u).toNatClampNeg) := inb_of Sz48 (own_inb Ru)
  obtain ⟨T49, h49, X49, e49, W49, st49⟩ := stI X35 hx hZ e35 Ar48 (j := u) hin48 (g := (mkF m 35 #[.val (.ref a1), .val (.int u), .val (.double key), .second] [(.int (0 : Int32)), (.int u), (.ref aP)])) rfl rfl (hb hby d4_35)
  have V50 : Arv Z h49 aP kp .int 3 (own_l (own_u σ.2 u (0 : Int32))) (.int (0 : Int32)) := by rw [← own_l_set Ru]; exact Arv.set Ar48 kq48 Sz48 Nn48 Hs48 Gf48 rfl W49 _ rfl (own_l_len Ru)
  have f51 := f37.wr W49
  have f52 := f38.other W49 (Or.inl nAP)
  have f53 := f39.other W49 (Or.inl nAP)
  have f54 := f40.other W49 (Or.inl nAP)
  have f55 := f41.other W49 nKP
  have f56 := f43.other W49 nIP
  have f57 := f36.other W49 (Or.inl nAP)
  have Z58 := Nat.le_trans Z44 (Nat.le_of_eq W49.size.symm)
  have K59 := K45.wr W49 (Or.inl (List.mem_of_getElem? (i := 3) rfl))
  have N60 := Fr.snoc X49 N46 gP
  have go61 : Goes p e below s₁ (entryFrame m #[(.ref a1), (.int u), (.double key)] 4) T49 (mkF m 36 #[.val (.ref a1), .val (.int u), .val (.double key), .second] []) := fun t k => go47 t (st49 t k)
  have go62 : Goes p e below s₁ (entryFrame m #[(.ref a1), (.int u), (.double key)] 4) T49 (mkF m 37 #[.val (.ref a1), .val (.int u), .val (.double key), .second] [(.ref a1)]) := fun t k => by
    refine go61 t ?_
    refine XS.aloadN X49.here hx rfl (hb hby d4_36) rfl rfl ?_
    exact k
  obtain ⟨T63, X63, e63, st63⟩ := getF X49 hx hZ hown (host := "") (Or.inl (own_wd hw 10 rfl)) Via.refl e49 f52 (g := (mkF m 37 #[.val (.ref a1), .val (.int u), .val (.double key), .second] [(.ref a1)])) rfl rfl (hb hby d4_37)
  have go64 : Goes p e below s₁ (entryFrame m #[(.ref a1), (.int u), (.double key)] 4) T63 (mkF m 40 #[.val (.ref a1), .val (.int u), .val (.double key), .second] [(.ref aK)]) := fun t k => go62 t (st63 t k)
  have go65 : Goes p e below s₁ (entryFrame m #[(.ref a1), (.int u), (.double key)] 4) T63 (mkF m 42 #[.val (.ref a1), .val (.int u), .val (.double key), .second] [(.double key), (.int u), (.ref aK)]) := fun t k => by
    refine go64 t ?_
    refine XS.iloadN X63.here hx rfl (hb hby d4_40) rfl ?_
    refine Jvm.Free.XS.dloadN X63.here hx rfl (hb hby d4_41) rfl ?_
    exact k
  obtain ⟨cl66, Ar66, kq66, Sz66, Nn66, Hs66, Gf66⟩ := id (f55)
  have hin66 : ¬ (u < 0 ∨ cl66.slots.size ≤ (u).toNatClampNeg) := inb_of Sz66 (own_inb Ru)
  obtain ⟨T67, h67, X67, e67, W67, st67⟩ := stD X63 hx hZ e63 Ar66 (j := u) hin66 (g := (mkF m 42 #[.val (.ref a1), .val (.int u), .val (.double key), .second] [(.double key), (.int u), (.ref aK)])) rfl rfl (hb hby d4_42)
  have V68 : Arv Z h67 aK kk .double 3 (own_d (own_u kf u key)) (.double (0 : UInt64)) := by rw [← own_d_set Ru]; exact Arv.set Ar66 kq66 Sz66 Nn66 Hs66 Gf66 rfl W67 _ rfl (own_d_len Ru)
  have f69 := f51.wr W67
  have f70 := f52.other W67 (Or.inl nAK)
  have f71 := f53.other W67 (Or.inl nAK)
  have f72 := f54.other W67 (Or.inl nAK)
  have f73 := f56.other W67 (Ne.symm nKI)
  have f74 := f57.other W67 (Or.inl nAK)
  have f75 := V50.other W67 (Ne.symm nKP)
  have Z76 := Nat.le_trans Z58 (Nat.le_of_eq W67.size.symm)
  have K77 := K59.wr W67 (Or.inl (List.mem_of_getElem? (i := 1) rfl))
  have N78 := Fr.snoc X67 N60 gK
  have go79 : Goes p e below s₁ (entryFrame m #[(.ref a1), (.int u), (.double key)] 4) T67 (mkF m 43 #[.val (.ref a1), .val (.int u), .val (.double key), .second] []) := fun t k => go65 t (st67 t k)
  have go80 : Goes p e below s₁ (entryFrame m #[(.ref a1), (.int u), (.double key)] 4) T67 (mkF m 45 #[.val (.ref a1), .val (.int u), .val (.double key), .second] [(.ref a1), (.ref a1)]) := fun t k => by
    refine go79 t ?_
    refine XS.aloadN X67.here hx rfl (hb hby d4_43) rfl rfl ?_
    refine XS.aloadN X67.here hx rfl (hb hby d4_44) rfl rfl ?_
    exact k
  obtain ⟨T81, X81, e81, st81⟩ := getF X67 hx hZ hown (host := "") (Or.inl (own_wd hw 15 rfl)) Via.refl e67 f72 (g := (mkF m 45 #[.val (.ref a1), .val (.int u), .val (.double key), .second] [(.ref a1), (.ref a1)])) rfl rfl (hb hby d4_45)
  have go82 : Goes p e below s₁ (entryFrame m #[(.ref a1), (.int u), (.double key)] 4) T81 (mkF m 48 #[.val (.ref a1), .val (.int u), .val (.double key), .second] [(.ref aP), (.ref a1)]) := fun t k => go80 t (st81 t k)
  have go83 : Goes p e below s₁ (entryFrame m #[(.ref a1), (.int u), (.double key)] 4) T81 (mkF m 49 #[.val (.ref a1), .val (.int u), .val (.double key), .second] [(.int u), (.ref aP), (.ref a1)]) := fun t k => by
    refine go82 t ?_
    refine XS.iloadN X81.here hx rfl (hb hby d4_48) rfl ?_
    exact k
  obtain ⟨cl84, Ar84, kq84, Sz84, Nn84, Hs84, Gf84⟩ := id (f75)
  have hin84 : ¬ (u < 0 ∨ cl84.slots.size ≤ (u).toNatClampNeg) := inb_of Sz84 (own_inb Ru)
  have hat84 : cl84.slots[(u).toNatClampNeg]? = some (.int (0 : Int32)) := Has.at Hs84 hin84 ((own_l_at Ru).trans (congrArg _ own_us))
  have go85 : Goes p e below s₁ (entryFrame m #[(.ref a1), (.int u), (.double key)] 4) T81 (mkF m 50 #[.val (.ref a1), .val (.int u), .val (.double key), .second] [(.int (0 : Int32)), (.ref a1)]) := fun t k => by
    refine go83 t ?_
    refine X81.iaload hx (j := u) (v := (.int (0 : Int32))) (own_hp e81 Ar84.1) (State.isArrayOf_alike hZ.alike Ar84.2.1) Ar84.2.2 hin84 hat84 (g := (mkF m 49 #[.val (.ref a1), .val (.int u), .val (.double key), .second] [(.int u), (.ref aP), (.ref a1)])) rfl rfl (hb hby d4_49) _ ?_
    exact k
  obtain ⟨cq86, q86a, q86b⟩ := f69.cell
  obtain ⟨_, _, ⟨T86, L86, k86, n86⟩, -, X86, ⟨Lc86, hQ86, l86, y86, z86⟩, st86⟩ := X81.privateBack hx (y := mN_3) hown (mvT hZ (own_wd hw 29 rfl)) (mvT hZ (own_wd hw 30 rfl)) (own_selp (y := mN_3) (by decide) (mvT hZ (own_wd hw 1 rfl)) (mvP hZ (own_wd hw 31 rfl)) (mvT hZ (own_wd hw 30 rfl))) (Cond.privateMethod_at (mvP hZ (own_wd hw 31 rfl) (args := #[]))) (mvT hZ (own_wd hw 32 rfl)) (by decide) (backOf (W := 0) (rmU0 l Z a0 hw [] a1 aK aI aP kk ki kp (own_u kf u key) ((own_u σ.1 (0 : Int32) u), (own_u σ.2 u (0 : Int32))) (1 : Int32) h67 n0 Z76 f69 f70 f71 f72 f74 V68 f73 f75 nKI nKP nIP nAK nAI nAP gA gK gI gP (show own_R (own_u σ.1 (0 : Int32) u (0 : Int32)) from own_u_R Ru (fun h => absurd rfl h))) hZ (own_wd hw 32 rfl) (own_wd hw 2 rfl) (by decide) (by decide)) (g := (mkF m 50 #[.val (.ref a1), .val (.int u), .val (.double key), .second] [(.int (0 : Int32)), (.ref a1)])) rfl (by rw [hml]; rfl) (Steps.refl _) (a := a1) (by rw [e81]; exact q86a) q86b (argsL := [(.int (0 : Int32))]) (rest := []) (lenOf pd_2 rfl) rfl (by show 2 * 0 + _ ≤ _; exact Nat.le_of_eq rfl) (hb hby d4_50) (fun _ _ => ⟨rfl, e81, (by decide : 0 + 0 ≤ rO_3.cells), (by decide : 0 + 0 ≤ rO_3.slots)⟩)
  dsimp only [Pt.U, Pt.locs, Pt.cells, Pt.slots] at X86 l86 y86 z86 st86 hQ86
  subst l86 y86 z86
  obtain ⟨rfl, N86q, Kq86, VIq86, VPq86⟩ := hQ86
  have N86 := Fr.app N78 N86q
  have f87 := f69.keep Kq86
  have f88 := f70.keep Kq86 (ninS nAI (ninS nAP nin0))
  have f89 := f71.keep Kq86 (ninS nAI (ninS nAP nin0))
  have f90 := f72.keep Kq86 (ninS nAI (ninS nAP nin0))
  have f91 := f74.keep Kq86 (ninS nAI (ninS nAP nin0))
  have f92 := V68.keep Kq86 (ninS nKI (ninS nKP nin0))
  have Z93 := Nat.le_trans Z76 Kq86.1
  have K94 := K77.trans Kq86 (allS (Or.inl (List.mem_of_getElem? (i := 2) rfl)) (allS (Or.inl (List.mem_of_getElem? (i := 3) rfl)) all0))
  obtain ⟨τ86, hτ86⟩ : ∃ z, z = own_up (own_u kf u key) ((own_u σ.1 (0 : Int32) u), (own_u σ.2 u (0 : Int32))) (0 : Int32) := ⟨_, rfl⟩
  rw [← hτ86] at VIq86 VPq86
  have go95 : Goes p e below s₁ (entryFrame m #[(.ref a1), (.int u), (.double key)] 4) T86 (mkF m 53 #[.val (.ref a1), .val (.int u), .val (.double key), .second] []) := fun t k => go85 t (st86.trans k)
  have go96 : Goes p e below s₁ (entryFrame m #[(.ref a1), (.int u), (.double key)] 4) T86 (mkF m 55 #[.val (.ref a1), .val (.int u), .val (.double key), .second] [(.ref a1), (.ref a1)]) := fun t k => by
    refine go95 t ?_
    refine XS.aloadN X86.here hx rfl (hb hby d4_53) rfl rfl ?_
    refine XS.aloadN X86.here hx rfl (hb hby d4_54) rfl rfl ?_
    exact k
  obtain ⟨T97, X97, e97, st97⟩ := getF X86 hx hZ hown (host := "") (Or.inl (own_wd hw 15 rfl)) Via.refl rfl f90 (g := (mkF m 55 #[.val (.ref a1), .val (.int u), .val (.double key), .second] [(.ref a1), (.ref a1)])) rfl rfl (hb hby d4_55)
  have go98 : Goes p e below s₁ (entryFrame m #[(.ref a1), (.int u), (.double key)] 4) T97 (mkF m 58 #[.val (.ref a1), .val (.int u), .val (.double key), .second] [(.ref aP), (.ref a1)]) := fun t k => go96 t (st97 t k)
  have go99 : Goes p e below s₁ (entryFrame m #[(.ref a1), (.int u), (.double key)] 4) T97 (mkF m 59 #[.val (.ref a1), .val (.int u), .val (.double key), .second] [(.int u), (.ref aP), (.ref a1)]) := fun t k => by
    refine go98 t ?_
    refine XS.iloadN X97.here hx rfl (hb hby d4_58) rfl ?_
    exact k
  obtain ⟨cl100, Ar100, kq100, Sz100, Nn100, Hs100, Gf100⟩ := id (VPq86)
  have hin100 : ¬ (u < 0 ∨ cl100.slots.size ≤ (u).toNatClampNeg) := inb_of Sz100 (own_inb Ru)
  have hat100 : cl100.slots[(u).toNatClampNeg]? = some (.int (τ86.2 u)) := Has.at Hs100 hin100 (own_l_at Ru)
  have go101 : Goes p e below s₁ (entryFrame m #[(.ref a1), (.int u), (.double key)] 4) T97 (mkF m 60 #[.val (.ref a1), .val (.int u), .val (.double key), .second] [(.int (τ86.2 u)), (.ref a1)]) := fun t k => by
    refine go99 t ?_
    refine X97.iaload hx (j := u) (v := (.int (τ86.2 u))) (own_hp e97 Ar100.1) (State.isArrayOf_alike hZ.alike Ar100.2.1) Ar100.2.2 hin100 hat100 (g := (mkF m 59 #[.val (.ref a1), .val (.int u), .val (.double key), .second] [(.int u), (.ref aP), (.ref a1)])) rfl rfl (hb hby d4_59) _ ?_
    exact k
  have hpos : τ86.2 u = (0 : Int32) ∨ τ86.2 u = 0 := by rw [hτ86]; exact own_up_pos (show own_u σ.1 (0 : Int32) u (0 : Int32) = u from own_us)
  have hR0 : ∀ j : Int32, j < (1 : Int32) ∧ ¬ j < 0 → own_R (own_u σ.1 (0 : Int32) u j) := by
    intro j hj
    refine own_u_R Ru (fun hne => ?_)
    have : False := by
      have h1 := hj.1; have h2 := hj.2; rw [Int32.lt_iff_toInt_lt] at h1 h2
      have h3 : ((1 : Int32)).toInt = 1 := rfl
      have h4 : (0 : Int32).toInt = 0 := rfl
      have h5 : ¬ j.toInt = 0 := fun q => hne (own_of_toInt q)
      omega
    exact this.elim
  have hR102 : ∀ j : Int32, j < (1 : Int32) ∧ ¬ j < 0 → own_R (τ86.1 j) := fun j hj => by rw [hτ86]; exact own_up_R (hR0 (0 : Int32) (by decide)) (hR0 (0 : Int32) (by decide)) (hR0 j hj)
  have hp := hpos.elim id id
  have go103 : Goes p e below s₁ (entryFrame m #[(.ref a1), (.int u), (.double key)] 4) T97 (mkF m 60 #[.val (.ref a1), .val (.int u), .val (.double key), .second] [(.int (0 : Int32)), (.ref a1)]) := Eq.mp (congrArg (fun zz => Goes p e below s₁ (entryFrame m #[(.ref a1), (.int u), (.double key)] 4) T97 (mkF m 60 #[.val (.ref a1), .val (.int u), .val (.double key), .second] [(.int zz), (.ref a1)])) hp) go101
  obtain ⟨cq104, q104a, q104b⟩ := f87.cell
  obtain ⟨_, _, ⟨T104, L104, k104, n104⟩, -, X104, ⟨Lc104, hQ104, l104, y104, z104⟩, st104⟩ := X97.privateBack hx (y := mN_0) hown (mvT hZ (own_wd hw 37 rfl)) (mvT hZ (own_wd hw 38 rfl)) (own_selp (y := mN_0) (by decide) (mvT hZ (own_wd hw 1 rfl)) (mvP hZ (own_wd hw 39 rfl)) (mvT hZ (own_wd hw 38 rfl))) (Cond.privateMethod_at (mvP hZ (own_wd hw 39 rfl) (args := #[]))) (mvT hZ (own_wd hw 40 rfl)) (by decide) (backOf (W := 0) (rmD01 l Z a0 hw [] a1 aK aI aP kk ki kp (own_u kf u key) τ86 T86.heap n0 Z93 f87 f88 f89 f90 f91 f92 VIq86 VPq86 nKI nKP nIP nAK nAI nAP gA gK gI gP (hR102 (0 : Int32) (by decide))) hZ (own_wd hw 40 rfl) (own_wd hw 2 rfl) (by decide) (by decide)) (g := (mkF m 60 #[.val (.ref a1), .val (.int u), .val (.double key), .second] [(.int (0 : Int32)), (.ref a1)])) rfl (by rw [hml]; rfl) (Steps.refl _) (a := a1) (by rw [e97]; exact q104a) q104b (argsL := [(.int (0 : Int32))]) (rest := []) (lenOf pd_2 rfl) rfl (by show 2 * 0 + _ ≤ _; exact Nat.le_of_eq rfl) (hb hby d4_60) (fun _ _ => ⟨rfl, e97, (by decide : 0 + 0 ≤ rO_3.cells), (by decide : 0 + 0 ≤ rO_3.slots)⟩)
  dsimp only [Pt.U, Pt.locs, Pt.cells, Pt.slots] at X104 l104 y104 z104 st104 hQ104
  subst l104 y104 z104
  obtain ⟨rfl, N104q, Kq104, VIq104, VPq104⟩ := hQ104
  have N104 := Fr.app N86 N104q
  have f105 := f87.keep Kq104
  have f106 := f88.keep Kq104 (ninS nAI (ninS nAP nin0))
  have f107 := f89.keep Kq104 (ninS nAI (ninS nAP nin0))
  have f108 := f90.keep Kq104 (ninS nAI (ninS nAP nin0))
  have f109 := f91.keep Kq104 (ninS nAI (ninS nAP nin0))
  have f110 := f92.keep Kq104 (ninS nKI (ninS nKP nin0))
  have Z111 := Nat.le_trans Z93 Kq104.1
  have K112 := K94.trans Kq104 (allS (Or.inl (List.mem_of_getElem? (i := 2) rfl)) (allS (Or.inl (List.mem_of_getElem? (i := 3) rfl)) all0))
  have go113 : Goes p e below s₁ (entryFrame m #[(.ref a1), (.int u), (.double key)] 4) T104 (mkF m 63 #[.val (.ref a1), .val (.int u), .val (.double key), .second] []) := fun t k => go103 t (st104.trans k)
  obtain ⟨fs, hr, hrun, hended, hW, hsame⟩ := X104.leave (v := none) (fun _ => rfl)
  have hput : own_putA (own_u kf u key) σ u (0 : Int32) = own_dn (own_u kf u key) τ86 (0 : Int32) (1 : Int32) := by
    show own_dn (own_u kf u key) (own_up (own_u kf u key) (own_u σ.1 (0 : Int32) u, own_u σ.2 u (0 : Int32)) (own_u σ.2 u (0 : Int32) u)) ((own_up (own_u kf u key) (own_u σ.1 (0 : Int32) u, own_u σ.2 u (0 : Int32)) (own_u σ.2 u (0 : Int32) u)).2 u) ((0 : Int32) + 1) = _
    rw [own_us, ← hτ86, hp]; rfl
  refine ⟨_, _, go113 _ ?_, hrun, hended, _, _, rfl, ?_, ⟨_, rfl⟩, hW, hsame.mono (by decide) (by decide)⟩
  · exact X104.returnOut hx Bd.returns (hb hby d4_63) hr
  · show QPA0 Z _ _ _ _ _ _ _ _ _ _ _ _ _ _ T104.heap _
    exact ⟨rfl, N104, K112, f105, f106, f107, f108, f109, f110, by rw [hput]; exact VIq104, by rw [hput]; exact VPq104⟩
theorem ef_rmPA1 (m : MethodId) (a1 : Addr) (u : Int32) (key : UInt64) : entryFrame m #[(.ref a1), (.int u), (.double key)] 4 = mkF m 0 #[.val (.ref a1), .val (.int u), .val (.double key), .second] [] := by first | (simp [entryFrame, mkF, argsToLocals, Value.category]; done) | rfl
def QPA1 (Z : State) (a1 : Addr) (u : Int32) (key : UInt64) (aK aI aP : Addr) (kk ki kp : ClassId) (kf : Int32 → UInt64) (σ : own_P) (h0 : Heap) (n0 : Nat) (v : Option Value) (h : Heap) (L : List Loc) : Prop := v = none ∧ Fr n0 L ∧ Keep h0 h [a1, aK, aI, aP] ∧ Exa Z h a1 "com/example/covermesh/covermesh/algorithms/IndexedMinHeap" ∧ Fld Z h a1 "com/example/covermesh/covermesh/algorithms/IndexedMinHeap" "keys" "[D" (.ref aK) ∧ Fld Z h a1 "com/example/covermesh/covermesh/algorithms/IndexedMinHeap" "items" "[I" (.ref aI) ∧ Fld Z h a1 "com/example/covermesh/covermesh/algorithms/IndexedMinHeap" "positions" "[I" (.ref aP) ∧ Fld Z h a1 "com/example/covermesh/covermesh/algorithms/IndexedMinHeap" "size" "I" (.int (2 : Int32)) ∧ Arv Z h aK kk .double 3 (own_d (own_u kf u key)) (.double (0 : UInt64)) ∧ Arv Z h aI ki .int 3 (own_l (own_putA (own_u kf u key) σ u (1 : Int32)).1) (.int (0 : Int32)) ∧ Arv Z h aP kp .int 3 (own_l (own_putA (own_u kf u key) σ u (1 : Int32)).2) (.int (0 : Int32))
set_option maxRecDepth 65536 in
set_option maxHeartbeats 40000000 in
theorem rmPA1 (l : Launch) (Z : State) (a0 : Array Value) (hw : ∀ d ∈ tables_1, d.before a0 Z = true) (ws : List Jvm.Cond) (a1 : Addr) (u : Int32) (key : UInt64) (aK aI aP : Addr) (kk ki kp : ClassId) (kf : Int32 → UInt64) (σ : own_P) (h0 : Heap) (n0 : Nat) (Z0 : n0 ≤ h0.size) (E1 : Exa Z h0 a1 "com/example/covermesh/covermesh/algorithms/IndexedMinHeap") (FK : Fld Z h0 a1 "com/example/covermesh/covermesh/algorithms/IndexedMinHeap" "keys" "[D" (.ref aK)) (FI : Fld Z h0 a1 "com/example/covermesh/covermesh/algorithms/IndexedMinHeap" "items" "[I" (.ref aI)) (FP : Fld Z h0 a1 "com/example/covermesh/covermesh/algorithms/IndexedMinHeap" "positions" "[I" (.ref aP)) (FS : Fld Z h0 a1 "com/example/covermesh/covermesh/algorithms/IndexedMinHeap" "size" "I" (.int (1 : Int32))) (VK : Arv Z h0 aK kk .double 3 (own_d kf) (.double (0 : UInt64))) (VI : Arv Z h0 aI ki .int 3 (own_l σ.1) (.int (0 : Int32))) (VP : Arv Z h0 aP kp .int 3 (own_l σ.2) (.int (0 : Int32))) (nKI : aK ≠ aI) (nKP : aK ≠ aP) (nIP : aI ≠ aP) (nAK : a1 ≠ aK) (nAI : a1 ≠ aI) (nAP : a1 ≠ aP) (gA : n0 ≤ a1) (gK : n0 ≤ aK) (gI : n0 ≤ aI) (gP : n0 ≤ aP) (Ru : own_R u) (hgu : σ.2 u < 0) (R0 : own_R (σ.1 (0 : Int32))) :
    MetFree l mN_2 (head1 (Jvm.Cond.code mN_2 prog_17_method_4_code 4 none :: ws) rO_3) (fun a U => a = #[(.ref a1), (.int u), (.double key)] ∧ Z.Warmed39 U.vm ∧ U.heap = h0) (fun _ _ _ _ _ => True) (fun _ U o U' => ∃ v L, o = .returned v ∧ QPA1 Z a1 u key aK aI aP kk ki kp kf σ h0 n0 v U'.heap L ∧ FrameEnd U o U' L rO_3.cells rO_3.slots) := by
  refine MetFree.of_bodySF (plainFor_of_name pn_0) hisR ?_
  intro p e s m args below meth c s₁ Bd hml0 hP hK
  obtain ⟨rfl, hZ, hh⟩ := hP
  have hx := Bd.exec
  have hby := Bd.bytes
  have hml : c.maxLocals = 4 := hml0
  have hown : s.vm.findClass "com/example/covermesh/covermesh/algorithms/IndexedMinHeap" = some m.cls := findClass_of_methodNamed Bd.named
  have hnm := (name_of_methodNamed Bd.named Bd.method).1
  have X0 : Stand p l e rO_3 s m #[(.ref a1), (.int u), (.double key)] below meth c s₁ [] 0 0 := Stand.of_body Bd
  have e0 : s₁.heap = h0 := by rw [← hh, Bd.state]; rfl
  have N0 := Fr.nil n0
  have K0 := Keep.refl h0 [a1, aK, aI, aP]
  have go0 : Goes p e below s₁ (entryFrame m #[(.ref a1), (.int u), (.double key)] 4) s₁ (mkF m 0 #[.val (.ref a1), .val (.int u), .val (.double key), .second] []) := fun t k => castTop (ef_rmPA1 m a1 u key) k
  have go1 : Goes p e below s₁ (entryFrame m #[(.ref a1), (.int u), (.double key)] 4) s₁ (mkF m 1 #[.val (.ref a1), .val (.int u), .val (.double key), .second] [(.ref a1)]) := fun t k => by
    refine go0 t ?_
    refine XS.aloadN X0.here hx rfl (hb hby d4_0) rfl rfl ?_
    exact k
  obtain ⟨T2, X2, e2, st2⟩ := getF X0 hx hZ hown (host := "") (Or.inl (own_wd hw 15 rfl)) Via.refl e0 FP (g := (mkF m 1 #[.val (.ref a1), .val (.int u), .val (.double key), .second] [(.ref a1)])) rfl rfl (hb hby d4_1)
  have go3 : Goes p e below s₁ (entryFrame m #[(.ref a1), (.int u), (.double key)] 4) T2 (mkF m 4 #[.val (.ref a1), .val (.int u), .val (.double key), .second] [(.ref aP)]) := fun t k => go1 t (st2 t k)
  have go4 : Goes p e below s₁ (entryFrame m #[(.ref a1), (.int u), (.double key)] 4) T2 (mkF m 5 #[.val (.ref a1), .val (.int u), .val (.double key), .second] [(.int u), (.ref aP)]) := fun t k => by
    refine go3 t ?_
    refine XS.iloadN X2.here hx rfl (hb hby d4_4) rfl ?_
    exact k
  obtain ⟨cl5, Ar5, kq5, Sz5, Nn5, Hs5, Gf5⟩ := id (VP)
  have hin5 : ¬ (u < 0 ∨ cl5.slots.size ≤ (u).toNatClampNeg) := inb_of Sz5 (own_inb Ru)
  have hat5 : cl5.slots[(u).toNatClampNeg]? = some (.int (σ.2 u)) := Has.at Hs5 hin5 (own_l_at Ru)
  have go6 : Goes p e below s₁ (entryFrame m #[(.ref a1), (.int u), (.double key)] 4) T2 (mkF m 6 #[.val (.ref a1), .val (.int u), .val (.double key), .second] [(.int (σ.2 u))]) := fun t k => by
    refine go4 t ?_
    refine X2.iaload hx (j := u) (v := (.int (σ.2 u))) (own_hp e2 Ar5.1) (State.isArrayOf_alike hZ.alike Ar5.2.1) Ar5.2.2 hin5 hat5 (g := (mkF m 5 #[.val (.ref a1), .val (.int u), .val (.double key), .second] [(.int u), (.ref aP)])) rfl rfl (hb hby d4_5) _ ?_
    exact k
  have go7 : Goes p e below s₁ (entryFrame m #[(.ref a1), (.int u), (.double key)] 4) T2 (mkF m 10 #[.val (.ref a1), .val (.int u), .val (.double key), .second] [(.ref a1)]) := fun t k => by
    refine go6 t ?_
    refine XS.ifNo X2.here hx rfl (hb hby d4_6) rfl (Jvm.Free.XT.i0_ge_f hgu) ?_
    refine XS.aloadN X2.here hx rfl (hb hby d4_9) rfl rfl ?_
    exact k
  obtain ⟨T8, X8, e8, st8⟩ := getF X2 hx hZ hown (host := "") (Or.inl (own_wd hw 13 rfl)) Via.refl e2 FI (g := (mkF m 10 #[.val (.ref a1), .val (.int u), .val (.double key), .second] [(.ref a1)])) rfl rfl (hb hby d4_10)
  have go9 : Goes p e below s₁ (entryFrame m #[(.ref a1), (.int u), (.double key)] 4) T8 (mkF m 13 #[.val (.ref a1), .val (.int u), .val (.double key), .second] [(.ref aI)]) := fun t k => go7 t (st8 t k)
  have go10 : Goes p e below s₁ (entryFrame m #[(.ref a1), (.int u), (.double key)] 4) T8 (mkF m 14 #[.val (.ref a1), .val (.int u), .val (.double key), .second] [(.ref a1), (.ref aI)]) := fun t k => by
    refine go9 t ?_
    refine XS.aloadN X8.here hx rfl (hb hby d4_13) rfl rfl ?_
    exact k
  obtain ⟨T11, X11, e11, st11⟩ := getF X8 hx hZ hown (host := "") (Or.inl (own_wd hw 27 rfl)) Via.refl e8 FS (g := (mkF m 14 #[.val (.ref a1), .val (.int u), .val (.double key), .second] [(.ref a1), (.ref aI)])) rfl rfl (hb hby d4_14)
  have go12 : Goes p e below s₁ (entryFrame m #[(.ref a1), (.int u), (.double key)] 4) T11 (mkF m 17 #[.val (.ref a1), .val (.int u), .val (.double key), .second] [(.int (1 : Int32)), (.ref aI)]) := fun t k => go10 t (st11 t k)
  have go13 : Goes p e below s₁ (entryFrame m #[(.ref a1), (.int u), (.double key)] 4) T11 (mkF m 18 #[.val (.ref a1), .val (.int u), .val (.double key), .second] [(.int u), (.int (1 : Int32)), (.ref aI)]) := fun t k => by
    refine go12 t ?_
    refine XS.iloadN X11.here hx rfl (hb hby d4_17) rfl ?_
    exact k
  obtain ⟨cl14, Ar14, kq14, Sz14, Nn14, Hs14, Gf14⟩ := id (VI)
  have hin14 : ¬ ((1 : Int32) < 0 ∨ cl14.slots.size ≤ ((1 : Int32)).toNatClampNeg) := inb_of Sz14 (own_inb own_R1)
  obtain ⟨T15, h15, X15, e15, W15, st15⟩ := stI X11 hx hZ e11 Ar14 (j := (1 : Int32)) hin14 (g := (mkF m 18 #[.val (.ref a1), .val (.int u), .val (.double key), .second] [(.int u), (.int (1 : Int32)), (.ref aI)])) rfl rfl (hb hby d4_18)
  have V16 : Arv Z h15 aI ki .int 3 (own_l (own_u σ.1 (1 : Int32) u)) (.int (0 : Int32)) := by rw [← own_l_set own_R1]; exact Arv.set Ar14 kq14 Sz14 Nn14 Hs14 Gf14 rfl W15 _ rfl (own_l_len own_R1)
  have f17 := E1.wr W15
  have f18 := FK.other W15 (Or.inl nAI)
  have f19 := FI.other W15 (Or.inl nAI)
  have f20 := FP.other W15 (Or.inl nAI)
  have f21 := FS.other W15 (Or.inl nAI)
  have f22 := VK.other W15 nKI
  have f23 := VP.other W15 (Ne.symm nIP)
  have Z24 := Nat.le_trans Z0 (Nat.le_of_eq W15.size.symm)
  have K25 := K0.wr W15 (Or.inl (List.mem_of_getElem? (i := 2) rfl))
  have N26 := Fr.snoc X15 N0 gI
  have go27 : Goes p e below s₁ (entryFrame m #[(.ref a1), (.int u), (.double key)] 4) T15 (mkF m 19 #[.val (.ref a1), .val (.int u), .val (.double key), .second] []) := fun t k => go13 t (st15 t k)
  have go28 : Goes p e below s₁ (entryFrame m #[(.ref a1), (.int u), (.double key)] 4) T15 (mkF m 20 #[.val (.ref a1), .val (.int u), .val (.double key), .second] [(.ref a1)]) := fun t k => by
    refine go27 t ?_
    refine XS.aloadN X15.here hx rfl (hb hby d4_19) rfl rfl ?_
    exact k
  obtain ⟨T29, X29, e29, st29⟩ := getF X15 hx hZ hown (host := "") (Or.inl (own_wd hw 15 rfl)) Via.refl e15 f20 (g := (mkF m 20 #[.val (.ref a1), .val (.int u), .val (.double key), .second] [(.ref a1)])) rfl rfl (hb hby d4_20)
  have go30 : Goes p e below s₁ (entryFrame m #[(.ref a1), (.int u), (.double key)] 4) T29 (mkF m 23 #[.val (.ref a1), .val (.int u), .val (.double key), .second] [(.ref aP)]) := fun t k => go28 t (st29 t k)
  have go31 : Goes p e below s₁ (entryFrame m #[(.ref a1), (.int u), (.double key)] 4) T29 (mkF m 26 #[.val (.ref a1), .val (.int u), .val (.double key), .second] [(.ref a1), (.ref a1), (.int u), (.ref aP)]) := fun t k => by
    refine go30 t ?_
    refine XS.iloadN X29.here hx rfl (hb hby d4_23) rfl ?_
    refine XS.aloadN X29.here hx rfl (hb hby d4_24) rfl rfl ?_
    refine XS.dup X29.here hx rfl (hb hby d4_25) rfl rfl ?_
    exact k
  obtain ⟨T32, X32, e32, st32⟩ := getF X29 hx hZ hown (host := "") (Or.inl (own_wd hw 27 rfl)) Via.refl e29 f21 (g := (mkF m 26 #[.val (.ref a1), .val (.int u), .val (.double key), .second] [(.ref a1), (.ref a1), (.int u), (.ref aP)])) rfl rfl (hb hby d4_26)
  have go33 : Goes p e below s₁ (entryFrame m #[(.ref a1), (.int u), (.double key)] 4) T32 (mkF m 29 #[.val (.ref a1), .val (.int u), .val (.double key), .second] [(.int (1 : Int32)), (.ref a1), (.int u), (.ref aP)]) := fun t k => go31 t (st32 t k)
  have go34 : Goes p e below s₁ (entryFrame m #[(.ref a1), (.int u), (.double key)] 4) T32 (mkF m 32 #[.val (.ref a1), .val (.int u), .val (.double key), .second] [(.int (2 : Int32)), (.ref a1), (.int (1 : Int32)), (.int u), (.ref aP)]) := fun t k => by
    refine go33 t ?_
    refine XS.dupX1 X32.here hx rfl (hb hby d4_29) rfl rfl rfl ?_
    refine XS.iconst X32.here hx rfl (hb hby d4_30) ?_
    refine XS.iadd X32.here hx rfl (hb hby d4_31) rfl ?_
    exact k
  obtain ⟨T35, h35, X35, e35, W35, st35⟩ := putF X32 hx hZ hown (host := "") (Or.inl (own_wd hw 27 rfl)) Via.refl e32 f21 f17 (Or.inl (own_wd hw 28 rfl)) (own_wd hw 1 rfl) (ty := .int) (by decide) rfl rfl (g := (mkF m 32 #[.val (.ref a1), .val (.int u), .val (.double key), .second] [(.int (2 : Int32)), (.ref a1), (.int (1 : Int32)), (.int u), (.ref aP)])) rfl rfl (hb hby d4_32)
  have f36 := f21.same W35
  have f37 := f17.wr W35
  have f38 := f18.other W35 (Or.inr (slot_ne (Or.inr (own_wd hw 11 rfl)) (Or.inl (own_wd hw 28 rfl)) (by decide) (t := (.array .double)) (t' := .int) (by decide) (by decide)))
  have f39 := f19.other W35 (Or.inr (slot_ne (Or.inr (own_wd hw 14 rfl)) (Or.inl (own_wd hw 28 rfl)) (by decide) (t := (.array .int)) (t' := .int) (by decide) (by decide)))
  have f40 := f20.other W35 (Or.inr (slot_ne (Or.inr (own_wd hw 16 rfl)) (Or.inl (own_wd hw 28 rfl)) (by decide) (t := (.array .int)) (t' := .int) (by decide) (by decide)))
  have f41 := f22.other W35 (Ne.symm nAK)
  have f42 := f23.other W35 (Ne.symm nAP)
  have f43 := V16.other W35 (Ne.symm nAI)
  have Z44 := Nat.le_trans Z24 (Nat.le_of_eq W35.size.symm)
  have K45 := K25.wr W35 (Or.inl (List.mem_of_getElem? (i := 0) rfl))
  have N46 := Fr.snoc X35 N26 gA
  have go47 : Goes p e below s₁ (entryFrame m #[(.ref a1), (.int u), (.double key)] 4) T35 (mkF m 35 #[.val (.ref a1), .val (.int u), .val (.double key), .second] [(.int (1 : Int32)), (.int u), (.ref aP)]) := fun t k => go34 t (st35 t k)
  obtain ⟨cl48, Ar48, kq48, Sz48, Nn48, Hs48, Gf48⟩ := id (f42)
  have hin48 : ¬ (u < 0 ∨ cl48.slots.size ≤ (u).toNatClampNeg) := inb_of Sz48 (own_inb Ru)
  obtain ⟨T49, h49, X49, e49, W49, st49⟩ := stI X35 hx hZ e35 Ar48 (j := u) hin48 (g := (mkF m 35 #[.val (.ref a1), .val (.int u), .val (.double key), .second] [(.int (1 : Int32)), (.int u), (.ref aP)])) rfl rfl (hb hby d4_35)
  have V50 : Arv Z h49 aP kp .int 3 (own_l (own_u σ.2 u (1 : Int32))) (.int (0 : Int32)) := by rw [← own_l_set Ru]; exact Arv.set Ar48 kq48 Sz48 Nn48 Hs48 Gf48 rfl W49 _ rfl (own_l_len Ru)
  have f51 := f37.wr W49
  have f52 := f38.other W49 (Or.inl nAP)
  have f53 := f39.other W49 (Or.inl nAP)
  have f54 := f40.other W49 (Or.inl nAP)
  have f55 := f41.other W49 nKP
  have f56 := f43.other W49 nIP
  have f57 := f36.other W49 (Or.inl nAP)
  have Z58 := Nat.le_trans Z44 (Nat.le_of_eq W49.size.symm)
  have K59 := K45.wr W49 (Or.inl (List.mem_of_getElem? (i := 3) rfl))
  have N60 := Fr.snoc X49 N46 gP
  have go61 : Goes p e below s₁ (entryFrame m #[(.ref a1), (.int u), (.double key)] 4) T49 (mkF m 36 #[.val (.ref a1), .val (.int u), .val (.double key), .second] []) := fun t k => go47 t (st49 t k)
  have go62 : Goes p e below s₁ (entryFrame m #[(.ref a1), (.int u), (.double key)] 4) T49 (mkF m 37 #[.val (.ref a1), .val (.int u), .val (.double key), .second] [(.ref a1)]) := fun t k => by
    refine go61 t ?_
    refine XS.aloadN X49.here hx rfl (hb hby d4_36) rfl rfl ?_
    exact k
  obtain ⟨T63, X63, e63, st63⟩ := getF X49 hx hZ hown (host := "") (Or.inl (own_wd hw 10 rfl)) Via.refl e49 f52 (g := (mkF m 37 #[.val (.ref a1), .val (.int u), .val (.double key), .second] [(.ref a1)])) rfl rfl (hb hby d4_37)
  have go64 : Goes p e below s₁ (entryFrame m #[(.ref a1), (.int u), (.double key)] 4) T63 (mkF m 40 #[.val (.ref a1), .val (.int u), .val (.double key), .second] [(.ref aK)]) := fun t k => go62 t (st63 t k)
  have go65 : Goes p e below s₁ (entryFrame m #[(.ref a1), (.int u), (.double key)] 4) T63 (mkF m 42 #[.val (.ref a1), .val (.int u), .val (.double key), .second] [(.double key), (.int u), (.ref aK)]) := fun t k => by
    refine go64 t ?_
    refine XS.iloadN X63.here hx rfl (hb hby d4_40) rfl ?_
    refine Jvm.Free.XS.dloadN X63.here hx rfl (hb hby d4_41) rfl ?_
    exact k
  obtain ⟨cl66, Ar66, kq66, Sz66, Nn66, Hs66, Gf66⟩ := id (f55)
  have hin66 : ¬ (u < 0 ∨ cl66.slots.size ≤ (u).toNatClampNeg) := inb_of Sz66 (own_inb Ru)
  obtain ⟨T67, h67, X67, e67, W67, st67⟩ := stD X63 hx hZ e63 Ar66 (j := u) hin66 (g := (mkF m 42 #[.val (.ref a1), .val (.int u), .val (.double key), .second] [(.double key), (.int u), (.ref aK)])) rfl rfl (hb hby d4_42)
  have V68 : Arv Z h67 aK kk .double 3 (own_d (own_u kf u key)) (.double (0 : UInt64)) := by rw [← own_d_set Ru]; exact Arv.set Ar66 kq66 Sz66 Nn66 Hs66 Gf66 rfl W67 _ rfl (own_d_len Ru)
  have f69 := f51.wr W67
  have f70 := f52.other W67 (Or.inl nAK)
  have f71 := f53.other W67 (Or.inl nAK)
  have f72 := f54.other W67 (Or.inl nAK)
  have f73 := f56.other W67 (Ne.symm nKI)
  have f74 := f57.other W67 (Or.inl nAK)
  have f75 := V50.other W67 (Ne.symm nKP)
  have Z76 := Nat.le_trans Z58 (Nat.le_of_eq W67.size.symm)
  have K77 := K59.wr W67 (Or.inl (List.mem_of_getElem? (i := 1) rfl))
  have N78 := Fr.snoc X67 N60 gK
  have go79 : Goes p e below s₁ (entryFrame m #[(.ref a1), (.int u), (.double key)] 4) T67 (mkF m 43 #[.val (.ref a1), .val (.int u), .val (.double key), .second] []) := fun t k => go65 t (st67 t k)
  have go80 : Goes p e below s₁ (entryFrame m #[(.ref a1), (.int u), (.double key)] 4) T67 (mkF m 45 #[.val (.ref a1), .val (.int u), .val (.double key), .second] [(.ref a1), (.ref a1)]) := fun t k => by
    refine go79 t ?_
    refine XS.aloadN X67.here hx rfl (hb hby d4_43) rfl rfl ?_
    refine XS.aloadN X67.here hx rfl (hb hby d4_44) rfl rfl ?_
    exact k
  obtain ⟨T81, X81, e81, st81⟩ := getF X67 hx hZ hown (host := "") (Or.inl (own_wd hw 15 rfl)) Via.refl e67 f72 (g := (mkF m 45 #[.val (.ref a1), .val (.int u), .val (.double key), .second] [(.ref a1), (.ref a1)])) rfl rfl (hb hby d4_45)
  have go82 : Goes p e below s₁ (entryFrame m #[(.ref a1), (.int u), (.double key)] 4) T81 (mkF m 48 #[.val (.ref a1), .val (.int u), .val (.double key), .second] [(.ref aP), (.ref a1)]) := fun t k => go80 t (st81 t k)
  have go83 : Goes p e below s₁ (entryFrame m #[(.ref a1), (.int u), (.double key)] 4) T81 (mkF m 49 #[.val (.ref a1), .val (.int u), .val (.double key), .second] [(.int u), (.ref aP), (.ref a1)]) := fun t k => by
    refine go82 t ?_
    refine XS.iloadN X81.here hx rfl (hb hby d4_48) rfl ?_
    exact k
  obtain ⟨cl84, Ar84, kq84, Sz84, Nn84, Hs84, Gf84⟩ := id (f75)
  have hin84 : ¬ (u < 0 ∨ cl84.slots.size ≤ (u).toNatClampNeg) := inb_of Sz84 (own_inb Ru)
  have hat84 : cl84.slots[(u).toNatClampNeg]? = some (.int (1 : Int32)) := Has.at Hs84 hin84 ((own_l_at Ru).trans (congrArg _ own_us))
  have go85 : Goes p e below s₁ (entryFrame m #[(.ref a1), (.int u), (.double key)] 4) T81 (mkF m 50 #[.val (.ref a1), .val (.int u), .val (.double key), .second] [(.int (1 : Int32)), (.ref a1)]) := fun t k => by
    refine go83 t ?_
    refine X81.iaload hx (j := u) (v := (.int (1 : Int32))) (own_hp e81 Ar84.1) (State.isArrayOf_alike hZ.alike Ar84.2.1) Ar84.2.2 hin84 hat84 (g := (mkF m 49 #[.val (.ref a1), .val (.int u), .val (.double key), .second] [(.int u), (.ref aP), (.ref a1)])) rfl rfl (hb hby d4_49) _ ?_
    exact k
  obtain ⟨cq86, q86a, q86b⟩ := f69.cell
  obtain ⟨_, _, ⟨T86, L86, k86, n86⟩, -, X86, ⟨Lc86, hQ86, l86, y86, z86⟩, st86⟩ := X81.privateBack hx (y := mN_3) hown (mvT hZ (own_wd hw 29 rfl)) (mvT hZ (own_wd hw 30 rfl)) (own_selp (y := mN_3) (by decide) (mvT hZ (own_wd hw 1 rfl)) (mvP hZ (own_wd hw 31 rfl)) (mvT hZ (own_wd hw 30 rfl))) (Cond.privateMethod_at (mvP hZ (own_wd hw 31 rfl) (args := #[]))) (mvT hZ (own_wd hw 32 rfl)) (by decide) (backOf (W := 0) (rmU1 l Z a0 hw [] a1 aK aI aP kk ki kp (own_u kf u key) ((own_u σ.1 (1 : Int32) u), (own_u σ.2 u (1 : Int32))) (2 : Int32) h67 n0 Z76 f69 f70 f71 f72 f74 V68 f73 f75 nKI nKP nIP nAK nAI nAP gA gK gI gP (show own_R (own_u σ.1 (1 : Int32) u (1 : Int32)) from own_u_R Ru (fun h => absurd rfl h)) (show own_R (own_u σ.1 (1 : Int32) u (0 : Int32)) from own_u_R Ru (fun _ => R0))) hZ (own_wd hw 32 rfl) (own_wd hw 2 rfl) (by decide) (by decide)) (g := (mkF m 50 #[.val (.ref a1), .val (.int u), .val (.double key), .second] [(.int (1 : Int32)), (.ref a1)])) rfl (by rw [hml]; rfl) (Steps.refl _) (a := a1) (by rw [e81]; exact q86a) q86b (argsL := [(.int (1 : Int32))]) (rest := []) (lenOf pd_2 rfl) rfl (by show 2 * 0 + _ ≤ _; exact Nat.le_of_eq rfl) (hb hby d4_50) (fun _ _ => ⟨rfl, e81, (by decide : 0 + 0 ≤ rO_3.cells), (by decide : 0 + 0 ≤ rO_3.slots)⟩)
  dsimp only [Pt.U, Pt.locs, Pt.cells, Pt.slots] at X86 l86 y86 z86 st86 hQ86
  subst l86 y86 z86
  obtain ⟨rfl, N86q, Kq86, VIq86, VPq86⟩ := hQ86
  have N86 := Fr.app N78 N86q
  have f87 := f69.keep Kq86
  have f88 := f70.keep Kq86 (ninS nAI (ninS nAP nin0))
  have f89 := f71.keep Kq86 (ninS nAI (ninS nAP nin0))
  have f90 := f72.keep Kq86 (ninS nAI (ninS nAP nin0))
  have f91 := f74.keep Kq86 (ninS nAI (ninS nAP nin0))
  have f92 := V68.keep Kq86 (ninS nKI (ninS nKP nin0))
  have Z93 := Nat.le_trans Z76 Kq86.1
  have K94 := K77.trans Kq86 (allS (Or.inl (List.mem_of_getElem? (i := 2) rfl)) (allS (Or.inl (List.mem_of_getElem? (i := 3) rfl)) all0))
  obtain ⟨τ86, hτ86⟩ : ∃ z, z = own_up (own_u kf u key) ((own_u σ.1 (1 : Int32) u), (own_u σ.2 u (1 : Int32))) (1 : Int32) := ⟨_, rfl⟩
  rw [← hτ86] at VIq86 VPq86
  have go95 : Goes p e below s₁ (entryFrame m #[(.ref a1), (.int u), (.double key)] 4) T86 (mkF m 53 #[.val (.ref a1), .val (.int u), .val (.double key), .second] []) := fun t k => go85 t (st86.trans k)
  have go96 : Goes p e below s₁ (entryFrame m #[(.ref a1), (.int u), (.double key)] 4) T86 (mkF m 55 #[.val (.ref a1), .val (.int u), .val (.double key), .second] [(.ref a1), (.ref a1)]) := fun t k => by
    refine go95 t ?_
    refine XS.aloadN X86.here hx rfl (hb hby d4_53) rfl rfl ?_
    refine XS.aloadN X86.here hx rfl (hb hby d4_54) rfl rfl ?_
    exact k
  obtain ⟨T97, X97, e97, st97⟩ := getF X86 hx hZ hown (host := "") (Or.inl (own_wd hw 15 rfl)) Via.refl rfl f90 (g := (mkF m 55 #[.val (.ref a1), .val (.int u), .val (.double key), .second] [(.ref a1), (.ref a1)])) rfl rfl (hb hby d4_55)
  have go98 : Goes p e below s₁ (entryFrame m #[(.ref a1), (.int u), (.double key)] 4) T97 (mkF m 58 #[.val (.ref a1), .val (.int u), .val (.double key), .second] [(.ref aP), (.ref a1)]) := fun t k => go96 t (st97 t k)
  have go99 : Goes p e below s₁ (entryFrame m #[(.ref a1), (.int u), (.double key)] 4) T97 (mkF m 59 #[.val (.ref a1), .val (.int u), .val (.double key), .second] [(.int u), (.ref aP), (.ref a1)]) := fun t k => by
    refine go98 t ?_
    refine XS.iloadN X97.here hx rfl (hb hby d4_58) rfl ?_
    exact k
  obtain ⟨cl100, Ar100, kq100, Sz100, Nn100, Hs100, Gf100⟩ := id (VPq86)
  have hin100 : ¬ (u < 0 ∨ cl100.slots.size ≤ (u).toNatClampNeg) := inb_of Sz100 (own_inb Ru)
  have hat100 : cl100.slots[(u).toNatClampNeg]? = some (.int (τ86.2 u)) := Has.at Hs100 hin100 (own_l_at Ru)
  have go101 : Goes p e below s₁ (entryFrame m #[(.ref a1), (.int u), (.double key)] 4) T97 (mkF m 60 #[.val (.ref a1), .val (.int u), .val (.double key), .second] [(.int (τ86.2 u)), (.ref a1)]) := fun t k => by
    refine go99 t ?_
    refine X97.iaload hx (j := u) (v := (.int (τ86.2 u))) (own_hp e97 Ar100.1) (State.isArrayOf_alike hZ.alike Ar100.2.1) Ar100.2.2 hin100 hat100 (g := (mkF m 59 #[.val (.ref a1), .val (.int u), .val (.double key), .second] [(.int u), (.ref aP), (.ref a1)])) rfl rfl (hb hby d4_59) _ ?_
    exact k
  have hpos : τ86.2 u = (1 : Int32) ∨ τ86.2 u = 0 := by rw [hτ86]; exact own_up_pos (show own_u σ.1 (1 : Int32) u (1 : Int32) = u from own_us)
  have hR0 : ∀ j : Int32, j < (2 : Int32) ∧ ¬ j < 0 → own_R (own_u σ.1 (1 : Int32) u j) := by
    intro j hj
    refine own_u_R Ru (fun hne => ?_)
    have : j = 0 := by
      have h1 := hj.1; have h2 := hj.2; rw [Int32.lt_iff_toInt_lt] at h1 h2
      have h3 : ((2 : Int32)).toInt = 2 := rfl
      have h4 : (0 : Int32).toInt = 0 := rfl
      have h5 : ¬ j.toInt = 1 := fun q => hne (own_of_toInt q)
      have h6 : j.toInt = 0 := by omega
      rcases h6 with h6
      · exact (own_of_toInt h6)
    rcases this with rfl
    · exact R0
  have hR102 : ∀ j : Int32, j < (2 : Int32) ∧ ¬ j < 0 → own_R (τ86.1 j) := fun j hj => by rw [hτ86]; exact own_up_R (hR0 (1 : Int32) (by decide)) (hR0 (0 : Int32) (by decide)) (hR0 j hj)
  rcases hpos with hp | hp
  · have go103 : Goes p e below s₁ (entryFrame m #[(.ref a1), (.int u), (.double key)] 4) T97 (mkF m 60 #[.val (.ref a1), .val (.int u), .val (.double key), .second] [(.int (1 : Int32)), (.ref a1)]) := Eq.mp (congrArg (fun zz => Goes p e below s₁ (entryFrame m #[(.ref a1), (.int u), (.double key)] 4) T97 (mkF m 60 #[.val (.ref a1), .val (.int u), .val (.double key), .second] [(.int zz), (.ref a1)])) hp) go101
    obtain ⟨cq104, q104a, q104b⟩ := f87.cell
    obtain ⟨_, _, ⟨T104, L104, k104, n104⟩, -, X104, ⟨Lc104, hQ104, l104, y104, z104⟩, st104⟩ := X97.privateBack hx (y := mN_0) hown (mvT hZ (own_wd hw 37 rfl)) (mvT hZ (own_wd hw 38 rfl)) (own_selp (y := mN_0) (by decide) (mvT hZ (own_wd hw 1 rfl)) (mvP hZ (own_wd hw 39 rfl)) (mvT hZ (own_wd hw 38 rfl))) (Cond.privateMethod_at (mvP hZ (own_wd hw 39 rfl) (args := #[]))) (mvT hZ (own_wd hw 40 rfl)) (by decide) (backOf (W := 0) (rmD12 l Z a0 hw [] a1 aK aI aP kk ki kp (own_u kf u key) τ86 T86.heap n0 Z93 f87 f88 f89 f90 f91 f92 VIq86 VPq86 nKI nKP nIP nAK nAI nAP gA gK gI gP (hR102 (1 : Int32) (by decide))) hZ (own_wd hw 40 rfl) (own_wd hw 2 rfl) (by decide) (by decide)) (g := (mkF m 60 #[.val (.ref a1), .val (.int u), .val (.double key), .second] [(.int (1 : Int32)), (.ref a1)])) rfl (by rw [hml]; rfl) (Steps.refl _) (a := a1) (by rw [e97]; exact q104a) q104b (argsL := [(.int (1 : Int32))]) (rest := []) (lenOf pd_2 rfl) rfl (by show 2 * 0 + _ ≤ _; exact Nat.le_of_eq rfl) (hb hby d4_60) (fun _ _ => ⟨rfl, e97, (by decide : 0 + 0 ≤ rO_3.cells), (by decide : 0 + 0 ≤ rO_3.slots)⟩)
    dsimp only [Pt.U, Pt.locs, Pt.cells, Pt.slots] at X104 l104 y104 z104 st104 hQ104
    subst l104 y104 z104
    obtain ⟨rfl, N104q, Kq104, VIq104, VPq104⟩ := hQ104
    have N104 := Fr.app N86 N104q
    have f105 := f87.keep Kq104
    have f106 := f88.keep Kq104 (ninS nAI (ninS nAP nin0))
    have f107 := f89.keep Kq104 (ninS nAI (ninS nAP nin0))
    have f108 := f90.keep Kq104 (ninS nAI (ninS nAP nin0))
    have f109 := f91.keep Kq104 (ninS nAI (ninS nAP nin0))
    have f110 := f92.keep Kq104 (ninS nKI (ninS nKP nin0))
    have Z111 := Nat.le_trans Z93 Kq104.1
    have K112 := K94.trans Kq104 (allS (Or.inl (List.mem_of_getElem? (i := 2) rfl)) (allS (Or.inl (List.mem_of_getElem? (i := 3) rfl)) all0))
    have go113 : Goes p e below s₁ (entryFrame m #[(.ref a1), (.int u), (.double key)] 4) T104 (mkF m 63 #[.val (.ref a1), .val (.int u), .val (.double key), .second] []) := fun t k => go103 t (st104.trans k)
    obtain ⟨fs, hr, hrun, hended, hW, hsame⟩ := X104.leave (v := none) (fun _ => rfl)
    have hput : own_putA (own_u kf u key) σ u (1 : Int32) = own_dn (own_u kf u key) τ86 (1 : Int32) (2 : Int32) := by
      show own_dn (own_u kf u key) (own_up (own_u kf u key) (own_u σ.1 (1 : Int32) u, own_u σ.2 u (1 : Int32)) (own_u σ.2 u (1 : Int32) u)) ((own_up (own_u kf u key) (own_u σ.1 (1 : Int32) u, own_u σ.2 u (1 : Int32)) (own_u σ.2 u (1 : Int32) u)).2 u) ((1 : Int32) + 1) = _
      rw [own_us, ← hτ86, hp]; rfl
    refine ⟨_, _, go113 _ ?_, hrun, hended, _, _, rfl, ?_, ⟨_, rfl⟩, hW, hsame.mono (by decide) (by decide)⟩
    · exact X104.returnOut hx Bd.returns (hb hby d4_63) hr
    · show QPA1 Z _ _ _ _ _ _ _ _ _ _ _ _ _ _ T104.heap _
      exact ⟨rfl, N104, K112, f105, f106, f107, f108, f109, f110, by rw [hput]; exact VIq104, by rw [hput]; exact VPq104⟩
  · have go114 : Goes p e below s₁ (entryFrame m #[(.ref a1), (.int u), (.double key)] 4) T97 (mkF m 60 #[.val (.ref a1), .val (.int u), .val (.double key), .second] [(.int (0 : Int32)), (.ref a1)]) := Eq.mp (congrArg (fun zz => Goes p e below s₁ (entryFrame m #[(.ref a1), (.int u), (.double key)] 4) T97 (mkF m 60 #[.val (.ref a1), .val (.int u), .val (.double key), .second] [(.int zz), (.ref a1)])) hp) go101
    obtain ⟨cq115, q115a, q115b⟩ := f87.cell
    obtain ⟨_, _, ⟨T115, L115, k115, n115⟩, -, X115, ⟨Lc115, hQ115, l115, y115, z115⟩, st115⟩ := X97.privateBack hx (y := mN_0) hown (mvT hZ (own_wd hw 37 rfl)) (mvT hZ (own_wd hw 38 rfl)) (own_selp (y := mN_0) (by decide) (mvT hZ (own_wd hw 1 rfl)) (mvP hZ (own_wd hw 39 rfl)) (mvT hZ (own_wd hw 38 rfl))) (Cond.privateMethod_at (mvP hZ (own_wd hw 39 rfl) (args := #[]))) (mvT hZ (own_wd hw 40 rfl)) (by decide) (backOf (W := 0) (rmD02 l Z a0 hw [] a1 aK aI aP kk ki kp (own_u kf u key) τ86 T86.heap n0 Z93 f87 f88 f89 f90 f91 f92 VIq86 VPq86 nKI nKP nIP nAK nAI nAP gA gK gI gP (hR102 (0 : Int32) (by decide)) (hR102 (1 : Int32) (by decide))) hZ (own_wd hw 40 rfl) (own_wd hw 2 rfl) (by decide) (by decide)) (g := (mkF m 60 #[.val (.ref a1), .val (.int u), .val (.double key), .second] [(.int (0 : Int32)), (.ref a1)])) rfl (by rw [hml]; rfl) (Steps.refl _) (a := a1) (by rw [e97]; exact q115a) q115b (argsL := [(.int (0 : Int32))]) (rest := []) (lenOf pd_2 rfl) rfl (by show 2 * 0 + _ ≤ _; exact Nat.le_of_eq rfl) (hb hby d4_60) (fun _ _ => ⟨rfl, e97, (by decide : 0 + 0 ≤ rO_3.cells), (by decide : 0 + 0 ≤ rO_3.slots)⟩)
    dsimp only [Pt.U, Pt.locs, Pt.cells, Pt.slots] at X115 l115 y115 z115 st115 hQ115
    subst l115 y115 z115
    obtain ⟨rfl, N115q, Kq115, VIq115, VPq115⟩ := hQ115
    have N115 := Fr.app N86 N115q
    have f116 := f87.keep Kq115
    have f117 := f88.keep Kq115 (ninS nAI (ninS nAP nin0))
    have f118 := f89.keep Kq115 (ninS nAI (ninS nAP nin0))
    have f119 := f90.keep Kq115 (ninS nAI (ninS nAP nin0))
    have f120 := f91.keep Kq115 (ninS nAI (ninS nAP nin0))
    have f121 := f92.keep Kq115 (ninS nKI (ninS nKP nin0))
    have Z122 := Nat.le_trans Z93 Kq115.1
    have K123 := K94.trans Kq115 (allS (Or.inl (List.mem_of_getElem? (i := 2) rfl)) (allS (Or.inl (List.mem_of_getElem? (i := 3) rfl)) all0))
    have go124 : Goes p e below s₁ (entryFrame m #[(.ref a1), (.int u), (.double key)] 4) T115 (mkF m 63 #[.val (.ref a1), .val (.int u), .val (.double key), .second] []) := fun t k => go114 t (st115.trans k)
    obtain ⟨fs, hr, hrun, hended, hW, hsame⟩ := X115.leave (v := none) (fun _ => rfl)
    have hput : own_putA (own_u kf u key) σ u (1 : Int32) = own_dn (own_u kf u key) τ86 (0 : Int32) (2 : Int32) := by
      show own_dn (own_u kf u key) (own_up (own_u kf u key) (own_u σ.1 (1 : Int32) u, own_u σ.2 u (1 : Int32)) (own_u σ.2 u (1 : Int32) u)) ((own_up (own_u kf u key) (own_u σ.1 (1 : Int32) u, own_u σ.2 u (1 : Int32)) (own_u σ.2 u (1 : Int32) u)).2 u) ((1 : Int32) + 1) = _
      rw [own_us, ← hτ86, hp]; rfl
    refine ⟨_, _, go124 _ ?_, hrun, hended, _, _, rfl, ?_, ⟨_, rfl⟩, hW, hsame.mono (by decide) (by decide)⟩
    · exact X115.returnOut hx Bd.returns (hb hby d4_63) hr
    · show QPA1 Z _ _ _ _ _ _ _ _ _ _ _ _ _ _ T115.heap _
      exact ⟨rfl, N115, K123, f116, f117, f118, f119, f120, f121, by rw [hput]; exact VIq115, by rw [hput]; exact VPq115⟩
theorem ef_rmPA2 (m : MethodId) (a1 : Addr) (u : Int32) (key : UInt64) : entryFrame m #[(.ref a1), (.int u), (.double key)] 4 = mkF m 0 #[.val (.ref a1), .val (.int u), .val (.double key), .second] [] := by first | (simp [entryFrame, mkF, argsToLocals, Value.category]; done) | rfl
def QPA2 (Z : State) (a1 : Addr) (u : Int32) (key : UInt64) (aK aI aP : Addr) (kk ki kp : ClassId) (kf : Int32 → UInt64) (σ : own_P) (h0 : Heap) (n0 : Nat) (v : Option Value) (h : Heap) (L : List Loc) : Prop := v = none ∧ Fr n0 L ∧ Keep h0 h [a1, aK, aI, aP] ∧ Exa Z h a1 "com/example/covermesh/covermesh/algorithms/IndexedMinHeap" ∧ Fld Z h a1 "com/example/covermesh/covermesh/algorithms/IndexedMinHeap" "keys" "[D" (.ref aK) ∧ Fld Z h a1 "com/example/covermesh/covermesh/algorithms/IndexedMinHeap" "items" "[I" (.ref aI) ∧ Fld Z h a1 "com/example/covermesh/covermesh/algorithms/IndexedMinHeap" "positions" "[I" (.ref aP) ∧ Fld Z h a1 "com/example/covermesh/covermesh/algorithms/IndexedMinHeap" "size" "I" (.int (3 : Int32)) ∧ Arv Z h aK kk .double 3 (own_d (own_u kf u key)) (.double (0 : UInt64)) ∧ Arv Z h aI ki .int 3 (own_l (own_putA (own_u kf u key) σ u (2 : Int32)).1) (.int (0 : Int32)) ∧ Arv Z h aP kp .int 3 (own_l (own_putA (own_u kf u key) σ u (2 : Int32)).2) (.int (0 : Int32))
set_option maxRecDepth 65536 in
set_option maxHeartbeats 40000000 in
theorem rmPA2 (l : Launch) (Z : State) (a0 : Array Value) (hw : ∀ d ∈ tables_1, d.before a0 Z = true) (ws : List Jvm.Cond) (a1 : Addr) (u : Int32) (key : UInt64) (aK aI aP : Addr) (kk ki kp : ClassId) (kf : Int32 → UInt64) (σ : own_P) (h0 : Heap) (n0 : Nat) (Z0 : n0 ≤ h0.size) (E1 : Exa Z h0 a1 "com/example/covermesh/covermesh/algorithms/IndexedMinHeap") (FK : Fld Z h0 a1 "com/example/covermesh/covermesh/algorithms/IndexedMinHeap" "keys" "[D" (.ref aK)) (FI : Fld Z h0 a1 "com/example/covermesh/covermesh/algorithms/IndexedMinHeap" "items" "[I" (.ref aI)) (FP : Fld Z h0 a1 "com/example/covermesh/covermesh/algorithms/IndexedMinHeap" "positions" "[I" (.ref aP)) (FS : Fld Z h0 a1 "com/example/covermesh/covermesh/algorithms/IndexedMinHeap" "size" "I" (.int (2 : Int32))) (VK : Arv Z h0 aK kk .double 3 (own_d kf) (.double (0 : UInt64))) (VI : Arv Z h0 aI ki .int 3 (own_l σ.1) (.int (0 : Int32))) (VP : Arv Z h0 aP kp .int 3 (own_l σ.2) (.int (0 : Int32))) (nKI : aK ≠ aI) (nKP : aK ≠ aP) (nIP : aI ≠ aP) (nAK : a1 ≠ aK) (nAI : a1 ≠ aI) (nAP : a1 ≠ aP) (gA : n0 ≤ a1) (gK : n0 ≤ aK) (gI : n0 ≤ aI) (gP : n0 ≤ aP) (Ru : own_R u) (hgu : σ.2 u < 0) (R0 : own_R (σ.1 (0 : Int32))) (R1 : own_R (σ.1 (1 : Int32))) :
    MetFree l mN_2 (head1 (Jvm.Cond.code mN_2 prog_17_method_4_code 4 none :: ws) rO_3) (fun a U => a = #[(.ref a1), (.int u), (.double key)] ∧ Z.Warmed39 U.vm ∧ U.heap = h0) (fun _ _ _ _ _ => True) (fun _ U o U' => ∃ v L, o = .returned v ∧ QPA2 Z a1 u key aK aI aP kk ki kp kf σ h0 n0 v U'.heap L ∧ FrameEnd U o U' L rO_3.cells rO_3.slots) := by
  refine MetFree.of_bodySF (plainFor_of_name pn_0) hisR ?_
  intro p e s m args below meth c s₁ Bd hml0 hP hK
  obtain ⟨rfl, hZ, hh⟩ := hP
  have hx := Bd.exec
  have hby := Bd.bytes
  have hml : c.maxLocals = 4 := hml0
  have hown : s.vm.findClass "com/example/covermesh/covermesh/algorithms/IndexedMinHeap" = some m.cls := findClass_of_methodNamed Bd.named
  have hnm := (name_of_methodNamed Bd.named Bd.method).1
  have X0 : Stand p l e rO_3 s m #[(.ref a1), (.int u), (.double key)] below meth c s₁ [] 0 0 := Stand.of_body Bd
  have e0 : s₁.heap = h0 := by rw [← hh, Bd.state]; rfl
  have N0 := Fr.nil n0
  have K0 := Keep.refl h0 [a1, aK, aI, aP]
  have go0 : Goes p e below s₁ (entryFrame m #[(.ref a1), (.int u), (.double key)] 4) s₁ (mkF m 0 #[.val (.ref a1), .val (.int u), .val (.double key), .second] []) := fun t k => castTop (ef_rmPA2 m a1 u key) k
  have go1 : Goes p e below s₁ (entryFrame m #[(.ref a1), (.int u), (.double key)] 4) s₁ (mkF m 1 #[.val (.ref a1), .val (.int u), .val (.double key), .second] [(.ref a1)]) := fun t k => by
    refine go0 t ?_
    refine XS.aloadN X0.here hx rfl (hb hby d4_0) rfl rfl ?_
    exact k
  obtain ⟨T2, X2, e2, st2⟩ := getF X0 hx hZ hown (host := "") (Or.inl (own_wd hw 15 rfl)) Via.refl e0 FP (g := (mkF m 1 #[.val (.ref a1), .val (.int u), .val (.double key), .second] [(.ref a1)])) rfl rfl (hb hby d4_1)
  have go3 : Goes p e below s₁ (entryFrame m #[(.ref a1), (.int u), (.double key)] 4) T2 (mkF m 4 #[.val (.ref a1), .val (.int u), .val (.double key), .second] [(.ref aP)]) := fun t k => go1 t (st2 t k)
  have go4 : Goes p e below s₁ (entryFrame m #[(.ref a1), (.int u), (.double key)] 4) T2 (mkF m 5 #[.val (.ref a1), .val (.int u), .val (.double key), .second] [(.int u), (.ref aP)]) := fun t k => by
    refine go3 t ?_
    refine XS.iloadN X2.here hx rfl (hb hby d4_4) rfl ?_
    exact k
  obtain ⟨cl5, Ar5, kq5, Sz5, Nn5, Hs5, Gf5⟩ := id (VP)
  have hin5 : ¬ (u < 0 ∨ cl5.slots.size ≤ (u).toNatClampNeg) := inb_of Sz5 (own_inb Ru)
  have hat5 : cl5.slots[(u).toNatClampNeg]? = some (.int (σ.2 u)) := Has.at Hs5 hin5 (own_l_at Ru)
  have go6 : Goes p e below s₁ (entryFrame m #[(.ref a1), (.int u), (.double key)] 4) T2 (mkF m 6 #[.val (.ref a1), .val (.int u), .val (.double key), .second] [(.int (σ.2 u))]) := fun t k => by
    refine go4 t ?_
    refine X2.iaload hx (j := u) (v := (.int (σ.2 u))) (own_hp e2 Ar5.1) (State.isArrayOf_alike hZ.alike Ar5.2.1) Ar5.2.2 hin5 hat5 (g := (mkF m 5 #[.val (.ref a1), .val (.int u), .val (.double key), .second] [(.int u), (.ref aP)])) rfl rfl (hb hby d4_5) _ ?_
    exact k
  have go7 : Goes p e below s₁ (entryFrame m #[(.ref a1), (.int u), (.double key)] 4) T2 (mkF m 10 #[.val (.ref a1), .val (.int u), .val (.double key), .second] [(.ref a1)]) := fun t k => by
    refine go6 t ?_
    refine XS.ifNo X2.here hx rfl (hb hby d4_6) rfl (Jvm.Free.XT.i0_ge_f hgu) ?_
    refine XS.aloadN X2.here hx rfl (hb hby d4_9) rfl rfl ?_
    exact k
  obtain ⟨T8, X8, e8, st8⟩ := getF X2 hx hZ hown (host := "") (Or.inl (own_wd hw 13 rfl)) Via.refl e2 FI (g := (mkF m 10 #[.val (.ref a1), .val (.int u), .val (.double key), .second] [(.ref a1)])) rfl rfl (hb hby d4_10)
  have go9 : Goes p e below s₁ (entryFrame m #[(.ref a1), (.int u), (.double key)] 4) T8 (mkF m 13 #[.val (.ref a1), .val (.int u), .val (.double key), .second] [(.ref aI)]) := fun t k => go7 t (st8 t k)
  have go10 : Goes p e below s₁ (entryFrame m #[(.ref a1), (.int u), (.double key)] 4) T8 (mkF m 14 #[.val (.ref a1), .val (.int u), .val (.double key), .second] [(.ref a1), (.ref aI)]) := fun t k => by
    refine go9 t ?_
    refine XS.aloadN X8.here hx rfl (hb hby d4_13) rfl rfl ?_
    exact k
  obtain ⟨T11, X11, e11, st11⟩ := getF X8 hx hZ hown (host := "") (Or.inl (own_wd hw 27 rfl)) Via.refl e8 FS (g := (mkF m 14 #[.val (.ref a1), .val (.int u), .val (.double key), .second] [(.ref a1), (.ref aI)])) rfl rfl (hb hby d4_14)
  have go12 : Goes p e below s₁ (entryFrame m #[(.ref a1), (.int u), (.double key)] 4) T11 (mkF m 17 #[.val (.ref a1), .val (.int u), .val (.double key), .second] [(.int (2 : Int32)), (.ref aI)]) := fun t k => go10 t (st11 t k)
  have go13 : Goes p e below s₁ (entryFrame m #[(.ref a1), (.int u), (.double key)] 4) T11 (mkF m 18 #[.val (.ref a1), .val (.int u), .val (.double key), .second] [(.int u), (.int (2 : Int32)), (.ref aI)]) := fun t k => by
    refine go12 t ?_
    refine XS.iloadN X11.here hx rfl (hb hby d4_17) rfl ?_
    exact k
  obtain ⟨cl14, Ar14, kq14, Sz14, Nn14, Hs14, Gf14⟩ := id (VI)
  have hin14 : ¬ ((2 : Int32) < 0 ∨ cl14.slots.size ≤ ((2 : Int32)).toNatClampNeg) := inb_of Sz14 (own_inb own_R2)
  obtain ⟨T15, h15, X15, e15, W15, st15⟩ := stI X11 hx hZ e11 Ar14 (j := (2 : Int32)) hin14 (g := (mkF m 18 #[.val (.ref a1), .val (.int u), .val (.double key), .second] [(.int u), (.int (2 : Int32)), (.ref aI)])) rfl rfl (hb hby d4_18)
  have V16 : Arv Z h15 aI ki .int 3 (own_l (own_u σ.1 (2 : Int32) u)) (.int (0 : Int32)) := by rw [← own_l_set own_R2]; exact Arv.set Ar14 kq14 Sz14 Nn14 Hs14 Gf14 rfl W15 _ rfl (own_l_len own_R2)
  have f17 := E1.wr W15
  have f18 := FK.other W15 (Or.inl nAI)
  have f19 := FI.other W15 (Or.inl nAI)
  have f20 := FP.other W15 (Or.inl nAI)
  have f21 := FS.other W15 (Or.inl nAI)
  have f22 := VK.other W15 nKI
  have f23 := VP.other W15 (Ne.symm nIP)
  have Z24 := Nat.le_trans Z0 (Nat.le_of_eq W15.size.symm)
  have K25 := K0.wr W15 (Or.inl (List.mem_of_getElem? (i := 2) rfl))
  have N26 := Fr.snoc X15 N0 gI
  have go27 : Goes p e below s₁ (entryFrame m #[(.ref a1), (.int u), (.double key)] 4) T15 (mkF m 19 #[.val (.ref a1), .val (.int u), .val (.double key), .second] []) := fun t k => go13 t (st15 t k)
  have go28 : Goes p e below s₁ (entryFrame m #[(.ref a1), (.int u), (.double key)] 4) T15 (mkF m 20 #[.val (.ref a1), .val (.int u), .val (.double key), .second] [(.ref a1)]) := fun t k => by
    refine go27 t ?_
    refine XS.aloadN X15.here hx rfl (hb hby d4_19) rfl rfl ?_
    exact k
  obtain ⟨T29, X29, e29, st29⟩ := getF X15 hx hZ hown (host := "") (Or.inl (own_wd hw 15 rfl)) Via.refl e15 f20 (g := (mkF m 20 #[.val (.ref a1), .val (.int u), .val (.double key), .second] [(.ref a1)])) rfl rfl (hb hby d4_20)
  have go30 : Goes p e below s₁ (entryFrame m #[(.ref a1), (.int u), (.double key)] 4) T29 (mkF m 23 #[.val (.ref a1), .val (.int u), .val (.double key), .second] [(.ref aP)]) := fun t k => go28 t (st29 t k)
  have go31 : Goes p e below s₁ (entryFrame m #[(.ref a1), (.int u), (.double key)] 4) T29 (mkF m 26 #[.val (.ref a1), .val (.int u), .val (.double key), .second] [(.ref a1), (.ref a1), (.int u), (.ref aP)]) := fun t k => by
    refine go30 t ?_
    refine XS.iloadN X29.here hx rfl (hb hby d4_23) rfl ?_
    refine XS.aloadN X29.here hx rfl (hb hby d4_24) rfl rfl ?_
    refine XS.dup X29.here hx rfl (hb hby d4_25) rfl rfl ?_
    exact k
  obtain ⟨T32, X32, e32, st32⟩ := getF X29 hx hZ hown (host := "") (Or.inl (own_wd hw 27 rfl)) Via.refl e29 f21 (g := (mkF m 26 #[.val (.ref a1), .val (.int u), .val (.double key), .second] [(.ref a1), (.ref a1), (.int u), (.ref aP)])) rfl rfl (hb hby d4_26)
  have go33 : Goes p e below s₁ (entryFrame m #[(.ref a1), (.int u), (.double key)] 4) T32 (mkF m 29 #[.val (.ref a1), .val (.int u), .val (.double key), .second] [(.int (2 : Int32)), (.ref a1), (.int u), (.ref aP)]) := fun t k => go31 t (st32 t k)
  have go34 : Goes p e below s₁ (entryFrame m #[(.ref a1), (.int u), (.double key)] 4) T32 (mkF m 32 #[.val (.ref a1), .val (.int u), .val (.double key), .second] [(.int (3 : Int32)), (.ref a1), (.int (2 : Int32)), (.int u), (.ref aP)]) := fun t k => by
    refine go33 t ?_
    refine XS.dupX1 X32.here hx rfl (hb hby d4_29) rfl rfl rfl ?_
    refine XS.iconst X32.here hx rfl (hb hby d4_30) ?_
    refine XS.iadd X32.here hx rfl (hb hby d4_31) rfl ?_
    exact k
  obtain ⟨T35, h35, X35, e35, W35, st35⟩ := putF X32 hx hZ hown (host := "") (Or.inl (own_wd hw 27 rfl)) Via.refl e32 f21 f17 (Or.inl (own_wd hw 28 rfl)) (own_wd hw 1 rfl) (ty := .int) (by decide) rfl rfl (g := (mkF m 32 #[.val (.ref a1), .val (.int u), .val (.double key), .second] [(.int (3 : Int32)), (.ref a1), (.int (2 : Int32)), (.int u), (.ref aP)])) rfl rfl (hb hby d4_32)
  have f36 := f21.same W35
  have f37 := f17.wr W35
  have f38 := f18.other W35 (Or.inr (slot_ne (Or.inr (own_wd hw 11 rfl)) (Or.inl (own_wd hw 28 rfl)) (by decide) (t := (.array .double)) (t' := .int) (by decide) (by decide)))
  have f39 := f19.other W35 (Or.inr (slot_ne (Or.inr (own_wd hw 14 rfl)) (Or.inl (own_wd hw 28 rfl)) (by decide) (t := (.array .int)) (t' := .int) (by decide) (by decide)))
  have f40 := f20.other W35 (Or.inr (slot_ne (Or.inr (own_wd hw 16 rfl)) (Or.inl (own_wd hw 28 rfl)) (by decide) (t := (.array .int)) (t' := .int) (by decide) (by decide)))
  have f41 := f22.other W35 (Ne.symm nAK)
  have f42 := f23.other W35 (Ne.symm nAP)
  have f43 := V16.other W35 (Ne.symm nAI)
  have Z44 := Nat.le_trans Z24 (Nat.le_of_eq W35.size.symm)
  have K45 := K25.wr W35 (Or.inl (List.mem_of_getElem? (i := 0) rfl))
  have N46 := Fr.snoc X35 N26 gA
  have go47 : Goes p e below s₁ (entryFrame m #[(.ref a1), (.int u), (.double key)] 4) T35 (mkF m 35 #[.val (.ref a1), .val (.int u), .val (.double key), .second] [(.int (2 : Int32)), (.int u), (.ref aP)]) := fun t k => go34 t (st35 t k)
  obtain ⟨cl48, Ar48, kq48, Sz48, Nn48, Hs48, Gf48⟩ := id (f42)
  have hin48 : ¬ (u < 0 ∨ cl48.slots.size ≤ (u).toNatClampNeg) := inb_of Sz48 (own_inb Ru)
  obtain ⟨T49, h49, X49, e49, W49, st49⟩ := stI X35 hx hZ e35 Ar48 (j := u) hin48 (g := (mkF m 35 #[.val (.ref a1), .val (.int u), .val (.double key), .second] [(.int (2 : Int32)), (.int u), (.ref aP)])) rfl rfl (hb hby d4_35)
  have V50 : Arv Z h49 aP kp .int 3 (own_l (own_u σ.2 u (2 : Int32))) (.int (0 : Int32)) := by rw [← own_l_set Ru]; exact Arv.set Ar48 kq48 Sz48 Nn48 Hs48 Gf48 rfl W49 _ rfl (own_l_len Ru)
  have f51 := f37.wr W49
  have f52 := f38.other W49 (Or.inl nAP)
  have f53 := f39.other W49 (Or.inl nAP)
  have f54 := f40.other W49 (Or.inl nAP)
  have f55 := f41.other W49 nKP
  have f56 := f43.other W49 nIP
  have f57 := f36.other W49 (Or.inl nAP)
  have Z58 := Nat.le_trans Z44 (Nat.le_of_eq W49.size.symm)
  have K59 := K45.wr W49 (Or.inl (List.mem_of_getElem? (i := 3) rfl))
  have N60 := Fr.snoc X49 N46 gP
  have go61 : Goes p e below s₁ (entryFrame m #[(.ref a1), (.int u), (.double key)] 4) T49 (mkF m 36 #[.val (.ref a1), .val (.int u), .val (.double key), .second] []) := fun t k => go47 t (st49 t k)
  have go62 : Goes p e below s₁ (entryFrame m #[(.ref a1), (.int u), (.double key)] 4) T49 (mkF m 37 #[.val (.ref a1), .val (.int u), .val (.double key), .second] [(.ref a1)]) := fun t k => by
    refine go61 t ?_
    refine XS.aloadN X49.here hx rfl (hb hby d4_36) rfl rfl ?_
    exact k
  obtain ⟨T63, X63, e63, st63⟩ := getF X49 hx hZ hown (host := "") (Or.inl (own_wd hw 10 rfl)) Via.refl e49 f52 (g := (mkF m 37 #[.val (.ref a1), .val (.int u), .val (.double key), .second] [(.ref a1)])) rfl rfl (hb hby d4_37)
  have go64 : Goes p e below s₁ (entryFrame m #[(.ref a1), (.int u), (.double key)] 4) T63 (mkF m 40 #[.val (.ref a1), .val (.int u), .val (.double key), .second] [(.ref aK)]) := fun t k => go62 t (st63 t k)
  have go65 : Goes p e below s₁ (entryFrame m #[(.ref a1), (.int u), (.double key)] 4) T63 (mkF m 42 #[.val (.ref a1), .val (.int u), .val (.double key), .second] [(.double key), (.int u), (.ref aK)]) := fun t k => by
    refine go64 t ?_
    refine XS.iloadN X63.here hx rfl (hb hby d4_40) rfl ?_
    refine Jvm.Free.XS.dloadN X63.here hx rfl (hb hby d4_41) rfl ?_
    exact k
  obtain ⟨cl66, Ar66, kq66, Sz66, Nn66, Hs66, Gf66⟩ := id (f55)
  have hin66 : ¬ (u < 0 ∨ cl66.slots.size ≤ (u).toNatClampNeg) := inb_of Sz66 (own_inb Ru)
  obtain ⟨T67, h67, X67, e67, W67, st67⟩ := stD X63 hx hZ e63 Ar66 (j := u) hin66 (g := (mkF m 42 #[.val (.ref a1), .val (.int u), .val (.double key), .second] [(.double key), (.int u), (.ref aK)])) rfl rfl (hb hby d4_42)
  have V68 : Arv Z h67 aK kk .double 3 (own_d (own_u kf u key)) (.double (0 : UInt64)) := by rw [← own_d_set Ru]; exact Arv.set Ar66 kq66 Sz66 Nn66 Hs66 Gf66 rfl W67 _ rfl (own_d_len Ru)
  have f69 := f51.wr W67
  have f70 := f52.other W67 (Or.inl nAK)
  have f71 := f53.other W67 (Or.inl nAK)
  have f72 := f54.other W67 (Or.inl nAK)
  have f73 := f56.other W67 (Ne.symm nKI)
  have f74 := f57.other W67 (Or.inl nAK)
  have f75 := V50.other W67 (Ne.symm nKP)
  have Z76 := Nat.le_trans Z58 (Nat.le_of_eq W67.size.symm)
  have K77 := K59.wr W67 (Or.inl (List.mem_of_getElem? (i := 1) rfl))
  have N78 := Fr.snoc X67 N60 gK
  have go79 : Goes p e below s₁ (entryFrame m #[(.ref a1), (.int u), (.double key)] 4) T67 (mkF m 43 #[.val (.ref a1), .val (.int u), .val (.double key), .second] []) := fun t k => go65 t (st67 t k)
  have go80 : Goes p e below s₁ (entryFrame m #[(.ref a1), (.int u), (.double key)] 4) T67 (mkF m 45 #[.val (.ref a1), .val (.int u), .val (.double key), .second] [(.ref a1), (.ref a1)]) := fun t k => by
    refine go79 t ?_
    refine XS.aloadN X67.here hx rfl (hb hby d4_43) rfl rfl ?_
    refine XS.aloadN X67.here hx rfl (hb hby d4_44) rfl rfl ?_
    exact k
  obtain ⟨T81, X81, e81, st81⟩ := getF X67 hx hZ hown (host := "") (Or.inl (own_wd hw 15 rfl)) Via.refl e67 f72 (g := (mkF m 45 #[.val (.ref a1), .val (.int u), .val (.double key), .second] [(.ref a1), (.ref a1)])) rfl rfl (hb hby d4_45)
  have go82 : Goes p e below s₁ (entryFrame m #[(.ref a1), (.int u), (.double key)] 4) T81 (mkF m 48 #[.val (.ref a1), .val (.int u), .val (.double key), .second] [(.ref aP), (.ref a1)]) := fun t k => go80 t (st81 t k)
  have go83 : Goes p e below s₁ (entryFrame m #[(.ref a1), (.int u), (.double key)] 4) T81 (mkF m 49 #[.val (.ref a1), .val (.int u), .val (.double key), .second] [(.int u), (.ref aP), (.ref a1)]) := fun t k => by
    refine go82 t ?_
    refine XS.iloadN X81.here hx rfl (hb hby d4_48) rfl ?_
    exact k
  obtain ⟨cl84, Ar84, kq84, Sz84, Nn84, Hs84, Gf84⟩ := id (f75)
  have hin84 : ¬ (u < 0 ∨ cl84.slots.size ≤ (u).toNatClampNeg) := inb_of Sz84 (own_inb Ru)
  have hat84 : cl84.slots[(u).toNatClampNeg]? = some (.int (2 : Int32)) := Has.at Hs84 hin84 ((own_l_at Ru).trans (congrArg _ own_us))
  have go85 : Goes p e below s₁ (entryFrame m #[(.ref a1), (.int u), (.double key)] 4) T81 (mkF m 50 #[.val (.ref a1), .val (.int u), .val (.double key), .second] [(.int (2 : Int32)), (.ref a1)]) := fun t k => by
    refine go83 t ?_
    refine X81.iaload hx (j := u) (v := (.int (2 : Int32))) (own_hp e81 Ar84.1) (State.isArrayOf_alike hZ.alike Ar84.2.1) Ar84.2.2 hin84 hat84 (g := (mkF m 49 #[.val (.ref a1), .val (.int u), .val (.double key), .second] [(.int u), (.ref aP), (.ref a1)])) rfl rfl (hb hby d4_49) _ ?_
    exact k
  obtain ⟨cq86, q86a, q86b⟩ := f69.cell
  obtain ⟨_, _, ⟨T86, L86, k86, n86⟩, -, X86, ⟨Lc86, hQ86, l86, y86, z86⟩, st86⟩ := X81.privateBack hx (y := mN_3) hown (mvT hZ (own_wd hw 29 rfl)) (mvT hZ (own_wd hw 30 rfl)) (own_selp (y := mN_3) (by decide) (mvT hZ (own_wd hw 1 rfl)) (mvP hZ (own_wd hw 31 rfl)) (mvT hZ (own_wd hw 30 rfl))) (Cond.privateMethod_at (mvP hZ (own_wd hw 31 rfl) (args := #[]))) (mvT hZ (own_wd hw 32 rfl)) (by decide) (backOf (W := 0) (rmU2 l Z a0 hw [] a1 aK aI aP kk ki kp (own_u kf u key) ((own_u σ.1 (2 : Int32) u), (own_u σ.2 u (2 : Int32))) (3 : Int32) h67 n0 Z76 f69 f70 f71 f72 f74 V68 f73 f75 nKI nKP nIP nAK nAI nAP gA gK gI gP (show own_R (own_u σ.1 (2 : Int32) u (2 : Int32)) from own_u_R Ru (fun h => absurd rfl h)) (show own_R (own_u σ.1 (2 : Int32) u (0 : Int32)) from own_u_R Ru (fun _ => R0))) hZ (own_wd hw 32 rfl) (own_wd hw 2 rfl) (by decide) (by decide)) (g := (mkF m 50 #[.val (.ref a1), .val (.int u), .val (.double key), .second] [(.int (2 : Int32)), (.ref a1)])) rfl (by rw [hml]; rfl) (Steps.refl _) (a := a1) (by rw [e81]; exact q86a) q86b (argsL := [(.int (2 : Int32))]) (rest := []) (lenOf pd_2 rfl) rfl (by show 2 * 0 + _ ≤ _; exact Nat.le_of_eq rfl) (hb hby d4_50) (fun _ _ => ⟨rfl, e81, (by decide : 0 + 0 ≤ rO_3.cells), (by decide : 0 + 0 ≤ rO_3.slots)⟩)
  dsimp only [Pt.U, Pt.locs, Pt.cells, Pt.slots] at X86 l86 y86 z86 st86 hQ86
  subst l86 y86 z86
  obtain ⟨rfl, N86q, Kq86, VIq86, VPq86⟩ := hQ86
  have N86 := Fr.app N78 N86q
  have f87 := f69.keep Kq86
  have f88 := f70.keep Kq86 (ninS nAI (ninS nAP nin0))
  have f89 := f71.keep Kq86 (ninS nAI (ninS nAP nin0))
  have f90 := f72.keep Kq86 (ninS nAI (ninS nAP nin0))
  have f91 := f74.keep Kq86 (ninS nAI (ninS nAP nin0))
  have f92 := V68.keep Kq86 (ninS nKI (ninS nKP nin0))
  have Z93 := Nat.le_trans Z76 Kq86.1
  have K94 := K77.trans Kq86 (allS (Or.inl (List.mem_of_getElem? (i := 2) rfl)) (allS (Or.inl (List.mem_of_getElem? (i := 3) rfl)) all0))
  obtain ⟨τ86, hτ86⟩ : ∃ z, z = own_up (own_u kf u key) ((own_u σ.1 (2 : Int32) u), (own_u σ.2 u (2 : Int32))) (2 : Int32) := ⟨_, rfl⟩
  rw [← hτ86] at VIq86 VPq86
  have go95 : Goes p e below s₁ (entryFrame m #[(.ref a1), (.int u), (.double key)] 4) T86 (mkF m 53 #[.val (.ref a1), .val (.int u), .val (.double key), .second] []) := fun t k => go85 t (st86.trans k)
  have go96 : Goes p e below s₁ (entryFrame m #[(.ref a1), (.int u), (.double key)] 4) T86 (mkF m 55 #[.val (.ref a1), .val (.int u), .val (.double key), .second] [(.ref a1), (.ref a1)]) := fun t k => by
    refine go95 t ?_
    refine XS.aloadN X86.here hx rfl (hb hby d4_53) rfl rfl ?_
    refine XS.aloadN X86.here hx rfl (hb hby d4_54) rfl rfl ?_
    exact k
  obtain ⟨T97, X97, e97, st97⟩ := getF X86 hx hZ hown (host := "") (Or.inl (own_wd hw 15 rfl)) Via.refl rfl f90 (g := (mkF m 55 #[.val (.ref a1), .val (.int u), .val (.double key), .second] [(.ref a1), (.ref a1)])) rfl rfl (hb hby d4_55)
  have go98 : Goes p e below s₁ (entryFrame m #[(.ref a1), (.int u), (.double key)] 4) T97 (mkF m 58 #[.val (.ref a1), .val (.int u), .val (.double key), .second] [(.ref aP), (.ref a1)]) := fun t k => go96 t (st97 t k)
  have go99 : Goes p e below s₁ (entryFrame m #[(.ref a1), (.int u), (.double key)] 4) T97 (mkF m 59 #[.val (.ref a1), .val (.int u), .val (.double key), .second] [(.int u), (.ref aP), (.ref a1)]) := fun t k => by
    refine go98 t ?_
    refine XS.iloadN X97.here hx rfl (hb hby d4_58) rfl ?_
    exact k
  obtain ⟨cl100, Ar100, kq100, Sz100, Nn100, Hs100, Gf100⟩ := id (VPq86)
  have hin100 : ¬ (u < 0 ∨ cl100.slots.size ≤ (u).toNatClampNeg) := inb_of Sz100 (own_inb Ru)
  have hat100 : cl100.slots[(u).toNatClampNeg]? = some (.int (τ86.2 u)) := Has.at Hs100 hin100 (own_l_at Ru)
  have go101 : Goes p e below s₁ (entryFrame m #[(.ref a1), (.int u), (.double key)] 4) T97 (mkF m 60 #[.val (.ref a1), .val (.int u), .val (.double key), .second] [(.int (τ86.2 u)), (.ref a1)]) := fun t k => by
    refine go99 t ?_
    refine X97.iaload hx (j := u) (v := (.int (τ86.2 u))) (own_hp e97 Ar100.1) (State.isArrayOf_alike hZ.alike Ar100.2.1) Ar100.2.2 hin100 hat100 (g := (mkF m 59 #[.val (.ref a1), .val (.int u), .val (.double key), .second] [(.int u), (.ref aP), (.ref a1)])) rfl rfl (hb hby d4_59) _ ?_
    exact k
  have hpos : τ86.2 u = (2 : Int32) ∨ τ86.2 u = 0 := by rw [hτ86]; exact own_up_pos (show own_u σ.1 (2 : Int32) u (2 : Int32) = u from own_us)
  have hR0 : ∀ j : Int32, j < (3 : Int32) ∧ ¬ j < 0 → own_R (own_u σ.1 (2 : Int32) u j) := by
    intro j hj
    refine own_u_R Ru (fun hne => ?_)
    have : j = 0 ∨ j = 1 := by
      have h1 := hj.1; have h2 := hj.2; rw [Int32.lt_iff_toInt_lt] at h1 h2
      have h3 : ((3 : Int32)).toInt = 3 := rfl
      have h4 : (0 : Int32).toInt = 0 := rfl
      have h5 : ¬ j.toInt = 2 := fun q => hne (own_of_toInt q)
      have h6 : j.toInt = 0 ∨ j.toInt = 1 := by omega
      rcases h6 with h6 | h6
      · exact Or.inl (own_of_toInt h6)
      · exact Or.inr ((own_of_toInt h6))
    rcases this with rfl | rfl
    · exact R0
    · exact R1
  have hR102 : ∀ j : Int32, j < (3 : Int32) ∧ ¬ j < 0 → own_R (τ86.1 j) := fun j hj => by rw [hτ86]; exact own_up_R (hR0 (2 : Int32) (by decide)) (hR0 (0 : Int32) (by decide)) (hR0 j hj)
  rcases hpos with hp | hp
  · have go103 : Goes p e below s₁ (entryFrame m #[(.ref a1), (.int u), (.double key)] 4) T97 (mkF m 60 #[.val (.ref a1), .val (.int u), .val (.double key), .second] [(.int (2 : Int32)), (.ref a1)]) := Eq.mp (congrArg (fun zz => Goes p e below s₁ (entryFrame m #[(.ref a1), (.int u), (.double key)] 4) T97 (mkF m 60 #[.val (.ref a1), .val (.int u), .val (.double key), .second] [(.int zz), (.ref a1)])) hp) go101
    obtain ⟨cq104, q104a, q104b⟩ := f87.cell
    obtain ⟨_, _, ⟨T104, L104, k104, n104⟩, -, X104, ⟨Lc104, hQ104, l104, y104, z104⟩, st104⟩ := X97.privateBack hx (y := mN_0) hown (mvT hZ (own_wd hw 37 rfl)) (mvT hZ (own_wd hw 38 rfl)) (own_selp (y := mN_0) (by decide) (mvT hZ (own_wd hw 1 rfl)) (mvP hZ (own_wd hw 39 rfl)) (mvT hZ (own_wd hw 38 rfl))) (Cond.privateMethod_at (mvP hZ (own_wd hw 39 rfl) (args := #[]))) (mvT hZ (own_wd hw 40 rfl)) (by decide) (backOf (W := 0) (rmD23 l Z a0 hw [] a1 aK aI aP kk ki kp (own_u kf u key) τ86 T86.heap n0 Z93 f87 f88 f89 f90 f91 f92 VIq86 VPq86 nKI nKP nIP nAK nAI nAP gA gK gI gP (hR102 (2 : Int32) (by decide))) hZ (own_wd hw 40 rfl) (own_wd hw 2 rfl) (by decide) (by decide)) (g := (mkF m 60 #[.val (.ref a1), .val (.int u), .val (.double key), .second] [(.int (2 : Int32)), (.ref a1)])) rfl (by rw [hml]; rfl) (Steps.refl _) (a := a1) (by rw [e97]; exact q104a) q104b (argsL := [(.int (2 : Int32))]) (rest := []) (lenOf pd_2 rfl) rfl (by show 2 * 0 + _ ≤ _; exact Nat.le_of_eq rfl) (hb hby d4_60) (fun _ _ => ⟨rfl, e97, (by decide : 0 + 0 ≤ rO_3.cells), (by decide : 0 + 0 ≤ rO_3.slots)⟩)
    dsimp only [Pt.U, Pt.locs, Pt.cells, Pt.slots] at X104 l104 y104 z104 st104 hQ104
    subst l104 y104 z104
    obtain ⟨rfl, N104q, Kq104, VIq104, VPq104⟩ := hQ104
    have N104 := Fr.app N86 N104q
    have f105 := f87.keep Kq104
    have f106 := f88.keep Kq104 (ninS nAI (ninS nAP nin0))
    have f107 := f89.keep Kq104 (ninS nAI (ninS nAP nin0))
    have f108 := f90.keep Kq104 (ninS nAI (ninS nAP nin0))
    have f109 := f91.keep Kq104 (ninS nAI (ninS nAP nin0))
    have f110 := f92.keep Kq104 (ninS nKI (ninS nKP nin0))
    have Z111 := Nat.le_trans Z93 Kq104.1
    have K112 := K94.trans Kq104 (allS (Or.inl (List.mem_of_getElem? (i := 2) rfl)) (allS (Or.inl (List.mem_of_getElem? (i := 3) rfl)) all0))
    have go113 : Goes p e below s₁ (entryFrame m #[(.ref a1), (.int u), (.double key)] 4) T104 (mkF m 63 #[.val (.ref a1), .val (.int u), .val (.double key), .second] []) := fun t k => go103 t (st104.trans k)
    obtain ⟨fs, hr, hrun, hended, hW, hsame⟩ := X104.leave (v := none) (fun _ => rfl)
    have hput : own_putA (own_u kf u key) σ u (2 : Int32) = own_dn (own_u kf u key) τ86 (2 : Int32) (3 : Int32) := by
      show own_dn (own_u kf u key) (own_up (own_u kf u key) (own_u σ.1 (2 : Int32) u, own_u σ.2 u (2 : Int32)) (own_u σ.2 u (2 : Int32) u)) ((own_up (own_u kf u key) (own_u σ.1 (2 : Int32) u, own_u σ.2 u (2 : Int32)) (own_u σ.2 u (2 : Int32) u)).2 u) ((2 : Int32) + 1) = _
      rw [own_us, ← hτ86, hp]; rfl
    refine ⟨_, _, go113 _ ?_, hrun, hended, _, _, rfl, ?_, ⟨_, rfl⟩, hW, hsame.mono (by decide) (by decide)⟩
    · exact X104.returnOut hx Bd.returns (hb hby d4_63) hr
    · show QPA2 Z _ _ _ _ _ _ _ _ _ _ _ _ _ _ T104.heap _
      exact ⟨rfl, N104, K112, f105, f106, f107, f108, f109, f110, by rw [hput]; exact VIq104, by rw [hput]; exact VPq104⟩
  · have go114 : Goes p e below s₁ (entryFrame m #[(.ref a1), (.int u), (.double key)] 4) T97 (mkF m 60 #[.val (.ref a1), .val (.int u), .val (.double key), .second] [(.int (0 : Int32)), (.ref a1)]) := Eq.mp (congrArg (fun zz => Goes p e below s₁ (entryFrame m #[(.ref a1), (.int u), (.double key)] 4) T97 (mkF m 60 #[.val (.ref a1), .val (.int u), .val (.double key), .second] [(.int zz), (.ref a1)])) hp) go101
    obtain ⟨cq115, q115a, q115b⟩ := f87.cell
    obtain ⟨_, _, ⟨T115, L115, k115, n115⟩, -, X115, ⟨Lc115, hQ115, l115, y115, z115⟩, st115⟩ := X97.privateBack hx (y := mN_0) hown (mvT hZ (own_wd hw 37 rfl)) (mvT hZ (own_wd hw 38 rfl)) (own_selp (y := mN_0) (by decide) (mvT hZ (own_wd hw 1 rfl)) (mvP hZ (own_wd hw 39 rfl)) (mvT hZ (own_wd hw 38 rfl))) (Cond.privateMethod_at (mvP hZ (own_wd hw 39 rfl) (args := #[]))) (mvT hZ (own_wd hw 40 rfl)) (by decide) (backOf (W := 0) (rmD03 l Z a0 hw [] a1 aK aI aP kk ki kp (own_u kf u key) τ86 T86.heap n0 Z93 f87 f88 f89 f90 f91 f92 VIq86 VPq86 nKI nKP nIP nAK nAI nAP gA gK gI gP (hR102 (0 : Int32) (by decide)) (hR102 (1 : Int32) (by decide)) (hR102 (2 : Int32) (by decide))) hZ (own_wd hw 40 rfl) (own_wd hw 2 rfl) (by decide) (by decide)) (g := (mkF m 60 #[.val (.ref a1), .val (.int u), .val (.double key), .second] [(.int (0 : Int32)), (.ref a1)])) rfl (by rw [hml]; rfl) (Steps.refl _) (a := a1) (by rw [e97]; exact q115a) q115b (argsL := [(.int (0 : Int32))]) (rest := []) (lenOf pd_2 rfl) rfl (by show 2 * 0 + _ ≤ _; exact Nat.le_of_eq rfl) (hb hby d4_60) (fun _ _ => ⟨rfl, e97, (by decide : 0 + 0 ≤ rO_3.cells), (by decide : 0 + 0 ≤ rO_3.slots)⟩)
    dsimp only [Pt.U, Pt.locs, Pt.cells, Pt.slots] at X115 l115 y115 z115 st115 hQ115
    subst l115 y115 z115
    obtain ⟨rfl, N115q, Kq115, VIq115, VPq115⟩ := hQ115
    have N115 := Fr.app N86 N115q
    have f116 := f87.keep Kq115
    have f117 := f88.keep Kq115 (ninS nAI (ninS nAP nin0))
    have f118 := f89.keep Kq115 (ninS nAI (ninS nAP nin0))
    have f119 := f90.keep Kq115 (ninS nAI (ninS nAP nin0))
    have f120 := f91.keep Kq115 (ninS nAI (ninS nAP nin0))
    have f121 := f92.keep Kq115 (ninS nKI (ninS nKP nin0))
    have Z122 := Nat.le_trans Z93 Kq115.1
    have K123 := K94.trans Kq115 (allS (Or.inl (List.mem_of_getElem? (i := 2) rfl)) (allS (Or.inl (List.mem_of_getElem? (i := 3) rfl)) all0))
    have go124 : Goes p e below s₁ (entryFrame m #[(.ref a1), (.int u), (.double key)] 4) T115 (mkF m 63 #[.val (.ref a1), .val (.int u), .val (.double key), .second] []) := fun t k => go114 t (st115.trans k)
    obtain ⟨fs, hr, hrun, hended, hW, hsame⟩ := X115.leave (v := none) (fun _ => rfl)
    have hput : own_putA (own_u kf u key) σ u (2 : Int32) = own_dn (own_u kf u key) τ86 (0 : Int32) (3 : Int32) := by
      show own_dn (own_u kf u key) (own_up (own_u kf u key) (own_u σ.1 (2 : Int32) u, own_u σ.2 u (2 : Int32)) (own_u σ.2 u (2 : Int32) u)) ((own_up (own_u kf u key) (own_u σ.1 (2 : Int32) u, own_u σ.2 u (2 : Int32)) (own_u σ.2 u (2 : Int32) u)).2 u) ((2 : Int32) + 1) = _
      rw [own_us, ← hτ86, hp]; rfl
    refine ⟨_, _, go124 _ ?_, hrun, hended, _, _, rfl, ?_, ⟨_, rfl⟩, hW, hsame.mono (by decide) (by decide)⟩
    · exact X115.returnOut hx Bd.returns (hb hby d4_63) hr
    · show QPA2 Z _ _ _ _ _ _ _ _ _ _ _ _ _ _ T115.heap _
      exact ⟨rfl, N115, K123, f116, f117, f118, f119, f120, f121, by rw [hput]; exact VIq115, by rw [hput]; exact VPq115⟩
theorem d11_0 : decode prog_17_method_6_code 0 = .ok (.aload_n 0, 1) := by decide +kernel
theorem d11_1 : decode prog_17_method_6_code 1 = .ok (.getfield 17, 3) := by decide +kernel
theorem d11_4 : decode prog_17_method_6_code 4 = .ok (.iload_n 1, 1) := by decide +kernel
theorem d11_5 : decode prog_17_method_6_code 5 = .ok (.iaload, 1) := by decide +kernel
theorem d11_6 : decode prog_17_method_6_code 6 = .ok (.istore_n 2, 1) := by decide +kernel
theorem d11_7 : decode prog_17_method_6_code 7 = .ok (.aload_n 0, 1) := by decide +kernel
theorem d11_8 : decode prog_17_method_6_code 8 = .ok (.getfield 17, 3) := by decide +kernel
theorem d11_11 : decode prog_17_method_6_code 11 = .ok (.iload_n 1, 1) := by decide +kernel
theorem d11_12 : decode prog_17_method_6_code 12 = .ok (.iconst (-1), 1) := by decide +kernel
theorem d11_13 : decode prog_17_method_6_code 13 = .ok (.iastore, 1) := by decide +kernel
theorem d11_14 : decode prog_17_method_6_code 14 = .ok (.aload_n 0, 1) := by decide +kernel
theorem d11_15 : decode prog_17_method_6_code 15 = .ok (.dup, 1) := by decide +kernel
theorem d11_16 : decode prog_17_method_6_code 16 = .ok (.getfield 26, 3) := by decide +kernel
theorem d11_19 : decode prog_17_method_6_code 19 = .ok (.iconst 1, 1) := by decide +kernel
theorem d11_20 : decode prog_17_method_6_code 20 = .ok (.isub, 1) := by decide +kernel
theorem d11_21 : decode prog_17_method_6_code 21 = .ok (.putfield 26, 3) := by decide +kernel
theorem d11_24 : decode prog_17_method_6_code 24 = .ok (.iload_n 2, 1) := by decide +kernel
theorem d11_25 : decode prog_17_method_6_code 25 = .ok (.aload_n 0, 1) := by decide +kernel
theorem d11_26 : decode prog_17_method_6_code 26 = .ok (.getfield 26, 3) := by decide +kernel
theorem d11_29 : decode prog_17_method_6_code 29 = .ok (.if_icmp .ge 42, 3) := by decide +kernel
theorem d11_32 : decode prog_17_method_6_code 32 = .ok (.aload_n 0, 1) := by decide +kernel
theorem d11_33 : decode prog_17_method_6_code 33 = .ok (.getfield 13, 3) := by decide +kernel
theorem d11_36 : decode prog_17_method_6_code 36 = .ok (.aload_n 0, 1) := by decide +kernel
theorem d11_37 : decode prog_17_method_6_code 37 = .ok (.getfield 26, 3) := by decide +kernel
theorem d11_40 : decode prog_17_method_6_code 40 = .ok (.iaload, 1) := by decide +kernel
theorem d11_41 : decode prog_17_method_6_code 41 = .ok (.istore_n 3, 1) := by decide +kernel
theorem d11_42 : decode prog_17_method_6_code 42 = .ok (.aload_n 0, 1) := by decide +kernel
theorem d11_43 : decode prog_17_method_6_code 43 = .ok (.getfield 13, 3) := by decide +kernel
theorem d11_46 : decode prog_17_method_6_code 46 = .ok (.iload_n 2, 1) := by decide +kernel
theorem d11_47 : decode prog_17_method_6_code 47 = .ok (.iload_n 3, 1) := by decide +kernel
theorem d11_48 : decode prog_17_method_6_code 48 = .ok (.iastore, 1) := by decide +kernel
theorem d11_49 : decode prog_17_method_6_code 49 = .ok (.aload_n 0, 1) := by decide +kernel
theorem d11_50 : decode prog_17_method_6_code 50 = .ok (.getfield 17, 3) := by decide +kernel
theorem d11_53 : decode prog_17_method_6_code 53 = .ok (.iload_n 3, 1) := by decide +kernel
theorem d11_54 : decode prog_17_method_6_code 54 = .ok (.iload_n 2, 1) := by decide +kernel
theorem d11_55 : decode prog_17_method_6_code 55 = .ok (.iastore, 1) := by decide +kernel
theorem d11_56 : decode prog_17_method_6_code 56 = .ok (.aload_n 0, 1) := by decide +kernel
theorem d11_57 : decode prog_17_method_6_code 57 = .ok (.iload_n 2, 1) := by decide +kernel
theorem d11_58 : decode prog_17_method_6_code 58 = .ok (.invokevirtual 30, 3) := by decide +kernel
theorem d11_61 : decode prog_17_method_6_code 61 = .ok (.aload_n 0, 1) := by decide +kernel
theorem d11_62 : decode prog_17_method_6_code 62 = .ok (.aload_n 0, 1) := by decide +kernel
theorem d11_63 : decode prog_17_method_6_code 63 = .ok (.getfield 17, 3) := by decide +kernel
theorem d11_66 : decode prog_17_method_6_code 66 = .ok (.iload_n 3, 1) := by decide +kernel
theorem d11_67 : decode prog_17_method_6_code 67 = .ok (.iaload, 1) := by decide +kernel
theorem d11_68 : decode prog_17_method_6_code 68 = .ok (.invokevirtual 34, 3) := by decide +kernel
theorem d11_71 : decode prog_17_method_6_code 71 = .ok (.return_, 1) := by decide +kernel
theorem ef_rmRm01 (m : MethodId) (a1 : Addr) (u : Int32) : entryFrame m #[(.ref a1), (.int u)] 4 = mkF m 0 #[.val (.ref a1), .val (.int u), .unset, .unset] [] := by first | (simp [entryFrame, mkF, argsToLocals, Value.category]; done) | rfl
def QRm01 (Z : State) (a1 : Addr) (u : Int32) (aK aI aP : Addr) (kk ki kp : ClassId) (kf : Int32 → UInt64) (σ : own_P) (h0 : Heap) (n0 : Nat) (v : Option Value) (h : Heap) (L : List Loc) : Prop := v = none ∧ Fr n0 L ∧ Keep h0 h [a1, aK, aI, aP] ∧ Exa Z h a1 "com/example/covermesh/covermesh/algorithms/IndexedMinHeap" ∧ Fld Z h a1 "com/example/covermesh/covermesh/algorithms/IndexedMinHeap" "keys" "[D" (.ref aK) ∧ Fld Z h a1 "com/example/covermesh/covermesh/algorithms/IndexedMinHeap" "items" "[I" (.ref aI) ∧ Fld Z h a1 "com/example/covermesh/covermesh/algorithms/IndexedMinHeap" "positions" "[I" (.ref aP) ∧ Fld Z h a1 "com/example/covermesh/covermesh/algorithms/IndexedMinHeap" "size" "I" (.int (0 : Int32)) ∧ Arv Z h aK kk .double 3 (own_d kf) (.double (0 : UInt64)) ∧ Arv Z h aI ki .int 3 (own_l (own_rmv kf σ u (0 : Int32) (1 : Int32)).1) (.int (0 : Int32)) ∧ Arv Z h aP kp .int 3 (own_l (own_rmv kf σ u (0 : Int32) (1 : Int32)).2) (.int (0 : Int32))
set_option maxRecDepth 65536 in
set_option maxHeartbeats 40000000 in
theorem rmRm01 (l : Launch) (Z : State) (a0 : Array Value) (hw : ∀ d ∈ tables_1, d.before a0 Z = true) (ws : List Jvm.Cond) (a1 : Addr) (u : Int32) (aK aI aP : Addr) (kk ki kp : ClassId) (kf : Int32 → UInt64) (σ : own_P) (h0 : Heap) (n0 : Nat) (Z0 : n0 ≤ h0.size) (E1 : Exa Z h0 a1 "com/example/covermesh/covermesh/algorithms/IndexedMinHeap") (FK : Fld Z h0 a1 "com/example/covermesh/covermesh/algorithms/IndexedMinHeap" "keys" "[D" (.ref aK)) (FI : Fld Z h0 a1 "com/example/covermesh/covermesh/algorithms/IndexedMinHeap" "items" "[I" (.ref aI)) (FP : Fld Z h0 a1 "com/example/covermesh/covermesh/algorithms/IndexedMinHeap" "positions" "[I" (.ref aP)) (FS : Fld Z h0 a1 "com/example/covermesh/covermesh/algorithms/IndexedMinHeap" "size" "I" (.int (1 : Int32))) (VK : Arv Z h0 aK kk .double 3 (own_d kf) (.double (0 : UInt64))) (VI : Arv Z h0 aI ki .int 3 (own_l σ.1) (.int (0 : Int32))) (VP : Arv Z h0 aP kp .int 3 (own_l σ.2) (.int (0 : Int32))) (nKI : aK ≠ aI) (nKP : aK ≠ aP) (nIP : aI ≠ aP) (nAK : a1 ≠ aK) (nAI : a1 ≠ aI) (nAP : a1 ≠ aP) (gA : n0 ≤ a1) (gK : n0 ≤ aK) (gI : n0 ≤ aI) (gP : n0 ≤ aP) (Ru : own_R u) (hgu : σ.2 u = (0 : Int32)) :
    MetFree l mN_4 (head1 (Jvm.Cond.code mN_4 prog_17_method_6_code 4 none :: ws) rO_3) (fun a U => a = #[(.ref a1), (.int u)] ∧ Z.Warmed39 U.vm ∧ U.heap = h0) (fun _ _ _ _ _ => True) (fun _ U o U' => ∃ v L, o = .returned v ∧ QRm01 Z a1 u aK aI aP kk ki kp kf σ h0 n0 v U'.heap L ∧ FrameEnd U o U' L rO_3.cells rO_3.slots) := by
  refine MetFree.of_bodySF (plainFor_of_name pn_0) hisR ?_
  intro p e s m args below meth c s₁ Bd hml0 hP hK
  obtain ⟨rfl, hZ, hh⟩ := hP
  have hx := Bd.exec
  have hby := Bd.bytes
  have hml : c.maxLocals = 4 := hml0
  have hown : s.vm.findClass "com/example/covermesh/covermesh/algorithms/IndexedMinHeap" = some m.cls := findClass_of_methodNamed Bd.named
  have hnm := (name_of_methodNamed Bd.named Bd.method).1
  have X0 : Stand p l e rO_3 s m #[(.ref a1), (.int u)] below meth c s₁ [] 0 0 := Stand.of_body Bd
  have e0 : s₁.heap = h0 := by rw [← hh, Bd.state]; rfl
  have N0 := Fr.nil n0
  have K0 := Keep.refl h0 [a1, aK, aI, aP]
  have go0 : Goes p e below s₁ (entryFrame m #[(.ref a1), (.int u)] 4) s₁ (mkF m 0 #[.val (.ref a1), .val (.int u), .unset, .unset] []) := fun t k => castTop (ef_rmRm01 m a1 u) k
  have go1 : Goes p e below s₁ (entryFrame m #[(.ref a1), (.int u)] 4) s₁ (mkF m 1 #[.val (.ref a1), .val (.int u), .unset, .unset] [(.ref a1)]) := fun t k => by
    refine go0 t ?_
    refine XS.aloadN X0.here hx rfl (hb hby d11_0) rfl rfl ?_
    exact k
  obtain ⟨T2, X2, e2, st2⟩ := getF X0 hx hZ hown (host := "") (Or.inl (own_wd hw 15 rfl)) Via.refl e0 FP (g := (mkF m 1 #[.val (.ref a1), .val (.int u), .unset, .unset] [(.ref a1)])) rfl rfl (hb hby d11_1)
  have go3 : Goes p e below s₁ (entryFrame m #[(.ref a1), (.int u)] 4) T2 (mkF m 4 #[.val (.ref a1), .val (.int u), .unset, .unset] [(.ref aP)]) := fun t k => go1 t (st2 t k)
  have go4 : Goes p e below s₁ (entryFrame m #[(.ref a1), (.int u)] 4) T2 (mkF m 5 #[.val (.ref a1), .val (.int u), .unset, .unset] [(.int u), (.ref aP)]) := fun t k => by
    refine go3 t ?_
    refine XS.iloadN X2.here hx rfl (hb hby d11_4) rfl ?_
    exact k
  obtain ⟨cl5, Ar5, kq5, Sz5, Nn5, Hs5, Gf5⟩ := id (VP)
  have hin5 : ¬ (u < 0 ∨ cl5.slots.size ≤ (u).toNatClampNeg) := inb_of Sz5 (own_inb Ru)
  have hat5 : cl5.slots[(u).toNatClampNeg]? = some (.int (σ.2 u)) := Has.at Hs5 hin5 (own_l_at Ru)
  have go6 : Goes p e below s₁ (entryFrame m #[(.ref a1), (.int u)] 4) T2 (mkF m 6 #[.val (.ref a1), .val (.int u), .unset, .unset] [(.int (σ.2 u))]) := fun t k => by
    refine go4 t ?_
    refine X2.iaload hx (j := u) (v := (.int (σ.2 u))) (own_hp e2 Ar5.1) (State.isArrayOf_alike hZ.alike Ar5.2.1) Ar5.2.2 hin5 hat5 (g := (mkF m 5 #[.val (.ref a1), .val (.int u), .unset, .unset] [(.int u), (.ref aP)])) rfl rfl (hb hby d11_5) _ ?_
    exact k
  have go7 : Goes p e below s₁ (entryFrame m #[(.ref a1), (.int u)] 4) T2 (mkF m 6 #[.val (.ref a1), .val (.int u), .unset, .unset] [(.int (0 : Int32))]) := Eq.mp (congrArg (fun zz => Goes p e below s₁ (entryFrame m #[(.ref a1), (.int u)] 4) T2 (mkF m 6 #[.val (.ref a1), .val (.int u), .unset, .unset] [(.int zz)])) hgu) go6
  have go8 : Goes p e below s₁ (entryFrame m #[(.ref a1), (.int u)] 4) T2 (mkF m 8 #[.val (.ref a1), .val (.int u), .val (.int (0 : Int32)), .unset] [(.ref a1)]) := fun t k => by
    refine go7 t ?_
    refine XS.istoreN X2.here hx rfl (hb hby d11_6) rfl (l' := #[.val (.ref a1), .val (.int u), .val (.int (0 : Int32)), .unset]) rfl ?_
    refine XS.aloadN X2.here hx rfl (hb hby d11_7) rfl rfl ?_
    exact k
  obtain ⟨T9, X9, e9, st9⟩ := getF X2 hx hZ hown (host := "") (Or.inl (own_wd hw 15 rfl)) Via.refl e2 FP (g := (mkF m 8 #[.val (.ref a1), .val (.int u), .val (.int (0 : Int32)), .unset] [(.ref a1)])) rfl rfl (hb hby d11_8)
  have go10 : Goes p e below s₁ (entryFrame m #[(.ref a1), (.int u)] 4) T9 (mkF m 11 #[.val (.ref a1), .val (.int u), .val (.int (0 : Int32)), .unset] [(.ref aP)]) := fun t k => go8 t (st9 t k)
  have go11 : Goes p e below s₁ (entryFrame m #[(.ref a1), (.int u)] 4) T9 (mkF m 13 #[.val (.ref a1), .val (.int u), .val (.int (0 : Int32)), .unset] [(.int (-1 : Int32)), (.int u), (.ref aP)]) := fun t k => by
    refine go10 t ?_
    refine XS.iloadN X9.here hx rfl (hb hby d11_11) rfl ?_
    refine XS.iconst X9.here hx rfl (hb hby d11_12) ?_
    exact k
  obtain ⟨cl12, Ar12, kq12, Sz12, Nn12, Hs12, Gf12⟩ := id (VP)
  have hin12 : ¬ (u < 0 ∨ cl12.slots.size ≤ (u).toNatClampNeg) := inb_of Sz12 (own_inb Ru)
  obtain ⟨T13, h13, X13, e13, W13, st13⟩ := stI X9 hx hZ e9 Ar12 (j := u) hin12 (g := (mkF m 13 #[.val (.ref a1), .val (.int u), .val (.int (0 : Int32)), .unset] [(.int (-1 : Int32)), (.int u), (.ref aP)])) rfl rfl (hb hby d11_13)
  have V14 : Arv Z h13 aP kp .int 3 (own_l (own_u σ.2 u (-1 : Int32))) (.int (0 : Int32)) := by rw [← own_l_set Ru]; exact Arv.set Ar12 kq12 Sz12 Nn12 Hs12 Gf12 rfl W13 _ rfl (own_l_len Ru)
  have f15 := E1.wr W13
  have f16 := FK.other W13 (Or.inl nAP)
  have f17 := FI.other W13 (Or.inl nAP)
  have f18 := FP.other W13 (Or.inl nAP)
  have f19 := FS.other W13 (Or.inl nAP)
  have f20 := VK.other W13 nKP
  have f21 := VI.other W13 nIP
  have Z22 := Nat.le_trans Z0 (Nat.le_of_eq W13.size.symm)
  have K23 := K0.wr W13 (Or.inl (List.mem_of_getElem? (i := 3) rfl))
  have N24 := Fr.snoc X13 N0 gP
  have go25 : Goes p e below s₁ (entryFrame m #[(.ref a1), (.int u)] 4) T13 (mkF m 14 #[.val (.ref a1), .val (.int u), .val (.int (0 : Int32)), .unset] []) := fun t k => go11 t (st13 t k)
  have go26 : Goes p e below s₁ (entryFrame m #[(.ref a1), (.int u)] 4) T13 (mkF m 16 #[.val (.ref a1), .val (.int u), .val (.int (0 : Int32)), .unset] [(.ref a1), (.ref a1)]) := fun t k => by
    refine go25 t ?_
    refine XS.aloadN X13.here hx rfl (hb hby d11_14) rfl rfl ?_
    refine XS.dup X13.here hx rfl (hb hby d11_15) rfl rfl ?_
    exact k
  obtain ⟨T27, X27, e27, st27⟩ := getF X13 hx hZ hown (host := "") (Or.inl (own_wd hw 27 rfl)) Via.refl e13 f19 (g := (mkF m 16 #[.val (.ref a1), .val (.int u), .val (.int (0 : Int32)), .unset] [(.ref a1), (.ref a1)])) rfl rfl (hb hby d11_16)
  have go28 : Goes p e below s₁ (entryFrame m #[(.ref a1), (.int u)] 4) T27 (mkF m 19 #[.val (.ref a1), .val (.int u), .val (.int (0 : Int32)), .unset] [(.int (1 : Int32)), (.ref a1)]) := fun t k => go26 t (st27 t k)
  have go29 : Goes p e below s₁ (entryFrame m #[(.ref a1), (.int u)] 4) T27 (mkF m 21 #[.val (.ref a1), .val (.int u), .val (.int (0 : Int32)), .unset] [(.int (0 : Int32)), (.ref a1)]) := fun t k => by
    refine go28 t ?_
    refine XS.iconst X27.here hx rfl (hb hby d11_19) ?_
    refine XS.isub X27.here hx rfl (hb hby d11_20) rfl ?_
    exact k
  obtain ⟨T30, h30, X30, e30, W30, st30⟩ := putF X27 hx hZ hown (host := "") (Or.inl (own_wd hw 27 rfl)) Via.refl e27 f19 f15 (Or.inl (own_wd hw 28 rfl)) (own_wd hw 1 rfl) (ty := .int) (by decide) rfl rfl (g := (mkF m 21 #[.val (.ref a1), .val (.int u), .val (.int (0 : Int32)), .unset] [(.int (0 : Int32)), (.ref a1)])) rfl rfl (hb hby d11_21)
  have f31 := f19.same W30
  have f32 := f15.wr W30
  have f33 := f16.other W30 (Or.inr (slot_ne (Or.inr (own_wd hw 11 rfl)) (Or.inl (own_wd hw 28 rfl)) (by decide) (t := (.array .double)) (t' := .int) (by decide) (by decide)))
  have f34 := f17.other W30 (Or.inr (slot_ne (Or.inr (own_wd hw 14 rfl)) (Or.inl (own_wd hw 28 rfl)) (by decide) (t := (.array .int)) (t' := .int) (by decide) (by decide)))
  have f35 := f18.other W30 (Or.inr (slot_ne (Or.inr (own_wd hw 16 rfl)) (Or.inl (own_wd hw 28 rfl)) (by decide) (t := (.array .int)) (t' := .int) (by decide) (by decide)))
  have f36 := f20.other W30 (Ne.symm nAK)
  have f37 := f21.other W30 (Ne.symm nAI)
  have f38 := V14.other W30 (Ne.symm nAP)
  have Z39 := Nat.le_trans Z22 (Nat.le_of_eq W30.size.symm)
  have K40 := K23.wr W30 (Or.inl (List.mem_of_getElem? (i := 0) rfl))
  have N41 := Fr.snoc X30 N24 gA
  have go42 : Goes p e below s₁ (entryFrame m #[(.ref a1), (.int u)] 4) T30 (mkF m 24 #[.val (.ref a1), .val (.int u), .val (.int (0 : Int32)), .unset] []) := fun t k => go29 t (st30 t k)
  have go43 : Goes p e below s₁ (entryFrame m #[(.ref a1), (.int u)] 4) T30 (mkF m 26 #[.val (.ref a1), .val (.int u), .val (.int (0 : Int32)), .unset] [(.ref a1), (.int (0 : Int32))]) := fun t k => by
    refine go42 t ?_
    refine XS.iloadN X30.here hx rfl (hb hby d11_24) rfl ?_
    refine XS.aloadN X30.here hx rfl (hb hby d11_25) rfl rfl ?_
    exact k
  obtain ⟨T44, X44, e44, st44⟩ := getF X30 hx hZ hown (host := "") (Or.inl (own_wd hw 27 rfl)) Via.refl e30 f31 (g := (mkF m 26 #[.val (.ref a1), .val (.int u), .val (.int (0 : Int32)), .unset] [(.ref a1), (.int (0 : Int32))])) rfl rfl (hb hby d11_26)
  have go45 : Goes p e below s₁ (entryFrame m #[(.ref a1), (.int u)] 4) T44 (mkF m 29 #[.val (.ref a1), .val (.int u), .val (.int (0 : Int32)), .unset] [(.int (0 : Int32)), (.int (0 : Int32))]) := fun t k => go43 t (st44 t k)
  have go46 : Goes p e below s₁ (entryFrame m #[(.ref a1), (.int u)] 4) T44 (mkF m 71 #[.val (.ref a1), .val (.int u), .val (.int (0 : Int32)), .unset] []) := fun t k => by
    refine go45 t ?_
    refine XS.icmpYes X44.here hx rfl (pc0 := 29) (pc' := 71) rfl (hb hby d11_29) rfl (Jvm.Free.XT.ii_ge_t (by decide)) (by decide) (by decide) ?_
    exact k
  obtain ⟨fs, hr, hrun, hended, hW, hsame⟩ := X44.leave (v := none) (fun _ => rfl)
  have hrm : own_rmv kf σ u (0 : Int32) (1 : Int32) = (σ.1, (own_u σ.2 u (-1 : Int32))) := if_pos rfl
  refine ⟨_, _, go46 _ ?_, hrun, hended, _, _, rfl, ?_, ⟨_, rfl⟩, hW, hsame.mono (by decide) (by decide)⟩
  · exact X44.returnOut hx Bd.returns (hb hby d11_71) hr
  · show QRm01 Z _ _ _ _ _ _ _ _ _ _ _ _ _ T44.heap _
    rw [e44]
    exact ⟨rfl, N41, K40, f32, f33, f34, f35, f31, f36, by rw [hrm]; exact f37, by rw [hrm]; exact f38⟩
theorem ef_rmRm02 (m : MethodId) (a1 : Addr) (u : Int32) : entryFrame m #[(.ref a1), (.int u)] 4 = mkF m 0 #[.val (.ref a1), .val (.int u), .unset, .unset] [] := by first | (simp [entryFrame, mkF, argsToLocals, Value.category]; done) | rfl
def QRm02 (Z : State) (a1 : Addr) (u : Int32) (aK aI aP : Addr) (kk ki kp : ClassId) (kf : Int32 → UInt64) (σ : own_P) (h0 : Heap) (n0 : Nat) (v : Option Value) (h : Heap) (L : List Loc) : Prop := v = none ∧ Fr n0 L ∧ Keep h0 h [a1, aK, aI, aP] ∧ Exa Z h a1 "com/example/covermesh/covermesh/algorithms/IndexedMinHeap" ∧ Fld Z h a1 "com/example/covermesh/covermesh/algorithms/IndexedMinHeap" "keys" "[D" (.ref aK) ∧ Fld Z h a1 "com/example/covermesh/covermesh/algorithms/IndexedMinHeap" "items" "[I" (.ref aI) ∧ Fld Z h a1 "com/example/covermesh/covermesh/algorithms/IndexedMinHeap" "positions" "[I" (.ref aP) ∧ Fld Z h a1 "com/example/covermesh/covermesh/algorithms/IndexedMinHeap" "size" "I" (.int (1 : Int32)) ∧ Arv Z h aK kk .double 3 (own_d kf) (.double (0 : UInt64)) ∧ Arv Z h aI ki .int 3 (own_l (own_rmv kf σ u (0 : Int32) (2 : Int32)).1) (.int (0 : Int32)) ∧ Arv Z h aP kp .int 3 (own_l (own_rmv kf σ u (0 : Int32) (2 : Int32)).2) (.int (0 : Int32))
set_option maxRecDepth 65536 in
set_option maxHeartbeats 40000000 in
theorem rmRm02 (l : Launch) (Z : State) (a0 : Array Value) (hw : ∀ d ∈ tables_1, d.before a0 Z = true) (ws : List Jvm.Cond) (a1 : Addr) (u : Int32) (aK aI aP : Addr) (kk ki kp : ClassId) (kf : Int32 → UInt64) (σ : own_P) (h0 : Heap) (n0 : Nat) (Z0 : n0 ≤ h0.size) (E1 : Exa Z h0 a1 "com/example/covermesh/covermesh/algorithms/IndexedMinHeap") (FK : Fld Z h0 a1 "com/example/covermesh/covermesh/algorithms/IndexedMinHeap" "keys" "[D" (.ref aK)) (FI : Fld Z h0 a1 "com/example/covermesh/covermesh/algorithms/IndexedMinHeap" "items" "[I" (.ref aI)) (FP : Fld Z h0 a1 "com/example/covermesh/covermesh/algorithms/IndexedMinHeap" "positions" "[I" (.ref aP)) (FS : Fld Z h0 a1 "com/example/covermesh/covermesh/algorithms/IndexedMinHeap" "size" "I" (.int (2 : Int32))) (VK : Arv Z h0 aK kk .double 3 (own_d kf) (.double (0 : UInt64))) (VI : Arv Z h0 aI ki .int 3 (own_l σ.1) (.int (0 : Int32))) (VP : Arv Z h0 aP kp .int 3 (own_l σ.2) (.int (0 : Int32))) (nKI : aK ≠ aI) (nKP : aK ≠ aP) (nIP : aI ≠ aP) (nAK : a1 ≠ aK) (nAI : a1 ≠ aI) (nAP : a1 ≠ aP) (gA : n0 ≤ a1) (gK : n0 ≤ aK) (gI : n0 ≤ aI) (gP : n0 ≤ aP) (Ru : own_R u) (hgu : σ.2 u = (0 : Int32)) (R0 : own_R (σ.1 (0 : Int32))) (R1 : own_R (σ.1 (1 : Int32))) :
    MetFree l mN_4 (head1 (Jvm.Cond.code mN_4 prog_17_method_6_code 4 none :: ws) rO_3) (fun a U => a = #[(.ref a1), (.int u)] ∧ Z.Warmed39 U.vm ∧ U.heap = h0) (fun _ _ _ _ _ => True) (fun _ U o U' => ∃ v L, o = .returned v ∧ QRm02 Z a1 u aK aI aP kk ki kp kf σ h0 n0 v U'.heap L ∧ FrameEnd U o U' L rO_3.cells rO_3.slots) := by
  refine MetFree.of_bodySF (plainFor_of_name pn_0) hisR ?_
  intro p e s m args below meth c s₁ Bd hml0 hP hK
  obtain ⟨rfl, hZ, hh⟩ := hP
  have hx := Bd.exec
  have hby := Bd.bytes
  have hml : c.maxLocals = 4 := hml0
  have hown : s.vm.findClass "com/example/covermesh/covermesh/algorithms/IndexedMinHeap" = some m.cls := findClass_of_methodNamed Bd.named
  have hnm := (name_of_methodNamed Bd.named Bd.method).1
  have X0 : Stand p l e rO_3 s m #[(.ref a1), (.int u)] below meth c s₁ [] 0 0 := Stand.of_body Bd
  have e0 : s₁.heap = h0 := by rw [← hh, Bd.state]; rfl
  have N0 := Fr.nil n0
  have K0 := Keep.refl h0 [a1, aK, aI, aP]
  have go0 : Goes p e below s₁ (entryFrame m #[(.ref a1), (.int u)] 4) s₁ (mkF m 0 #[.val (.ref a1), .val (.int u), .unset, .unset] []) := fun t k => castTop (ef_rmRm02 m a1 u) k
  have go1 : Goes p e below s₁ (entryFrame m #[(.ref a1), (.int u)] 4) s₁ (mkF m 1 #[.val (.ref a1), .val (.int u), .unset, .unset] [(.ref a1)]) := fun t k => by
    refine go0 t ?_
    refine XS.aloadN X0.here hx rfl (hb hby d11_0) rfl rfl ?_
    exact k
  obtain ⟨T2, X2, e2, st2⟩ := getF X0 hx hZ hown (host := "") (Or.inl (own_wd hw 15 rfl)) Via.refl e0 FP (g := (mkF m 1 #[.val (.ref a1), .val (.int u), .unset, .unset] [(.ref a1)])) rfl rfl (hb hby d11_1)
  have go3 : Goes p e below s₁ (entryFrame m #[(.ref a1), (.int u)] 4) T2 (mkF m 4 #[.val (.ref a1), .val (.int u), .unset, .unset] [(.ref aP)]) := fun t k => go1 t (st2 t k)
  have go4 : Goes p e below s₁ (entryFrame m #[(.ref a1), (.int u)] 4) T2 (mkF m 5 #[.val (.ref a1), .val (.int u), .unset, .unset] [(.int u), (.ref aP)]) := fun t k => by
    refine go3 t ?_
    refine XS.iloadN X2.here hx rfl (hb hby d11_4) rfl ?_
    exact k
  obtain ⟨cl5, Ar5, kq5, Sz5, Nn5, Hs5, Gf5⟩ := id (VP)
  have hin5 : ¬ (u < 0 ∨ cl5.slots.size ≤ (u).toNatClampNeg) := inb_of Sz5 (own_inb Ru)
  have hat5 : cl5.slots[(u).toNatClampNeg]? = some (.int (σ.2 u)) := Has.at Hs5 hin5 (own_l_at Ru)
  have go6 : Goes p e below s₁ (entryFrame m #[(.ref a1), (.int u)] 4) T2 (mkF m 6 #[.val (.ref a1), .val (.int u), .unset, .unset] [(.int (σ.2 u))]) := fun t k => by
    refine go4 t ?_
    refine X2.iaload hx (j := u) (v := (.int (σ.2 u))) (own_hp e2 Ar5.1) (State.isArrayOf_alike hZ.alike Ar5.2.1) Ar5.2.2 hin5 hat5 (g := (mkF m 5 #[.val (.ref a1), .val (.int u), .unset, .unset] [(.int u), (.ref aP)])) rfl rfl (hb hby d11_5) _ ?_
    exact k
  have go7 : Goes p e below s₁ (entryFrame m #[(.ref a1), (.int u)] 4) T2 (mkF m 6 #[.val (.ref a1), .val (.int u), .unset, .unset] [(.int (0 : Int32))]) := Eq.mp (congrArg (fun zz => Goes p e below s₁ (entryFrame m #[(.ref a1), (.int u)] 4) T2 (mkF m 6 #[.val (.ref a1), .val (.int u), .unset, .unset] [(.int zz)])) hgu) go6
  have go8 : Goes p e below s₁ (entryFrame m #[(.ref a1), (.int u)] 4) T2 (mkF m 8 #[.val (.ref a1), .val (.int u), .val (.int (0 : Int32)), .unset] [(.ref a1)]) := fun t k => by
    refine go7 t ?_
    refine XS.istoreN X2.here hx rfl (hb hby d11_6) rfl (l' := #[.val (.ref a1), .val (.int u), .val (.int (0 : Int32)), .unset]) rfl ?_
    refine XS.aloadN X2.here hx rfl (hb hby d11_7) rfl rfl ?_
    exact k
  obtain ⟨T9, X9, e9, st9⟩ := getF X2 hx hZ hown (host := "") (Or.inl (own_wd hw 15 rfl)) Via.refl e2 FP (g := (mkF m 8 #[.val (.ref a1), .val (.int u), .val (.int (0 : Int32)), .unset] [(.ref a1)])) rfl rfl (hb hby d11_8)
  have go10 : Goes p e below s₁ (entryFrame m #[(.ref a1), (.int u)] 4) T9 (mkF m 11 #[.val (.ref a1), .val (.int u), .val (.int (0 : Int32)), .unset] [(.ref aP)]) := fun t k => go8 t (st9 t k)
  have go11 : Goes p e below s₁ (entryFrame m #[(.ref a1), (.int u)] 4) T9 (mkF m 13 #[.val (.ref a1), .val (.int u), .val (.int (0 : Int32)), .unset] [(.int (-1 : Int32)), (.int u), (.ref aP)]) := fun t k => by
    refine go10 t ?_
    refine XS.iloadN X9.here hx rfl (hb hby d11_11) rfl ?_
    refine XS.iconst X9.here hx rfl (hb hby d11_12) ?_
    exact k
  obtain ⟨cl12, Ar12, kq12, Sz12, Nn12, Hs12, Gf12⟩ := id (VP)
  have hin12 : ¬ (u < 0 ∨ cl12.slots.size ≤ (u).toNatClampNeg) := inb_of Sz12 (own_inb Ru)
  obtain ⟨T13, h13, X13, e13, W13, st13⟩ := stI X9 hx hZ e9 Ar12 (j := u) hin12 (g := (mkF m 13 #[.val (.ref a1), .val (.int u), .val (.int (0 : Int32)), .unset] [(.int (-1 : Int32)), (.int u), (.ref aP)])) rfl rfl (hb hby d11_13)
  have V14 : Arv Z h13 aP kp .int 3 (own_l (own_u σ.2 u (-1 : Int32))) (.int (0 : Int32)) := by rw [← own_l_set Ru]; exact Arv.set Ar12 kq12 Sz12 Nn12 Hs12 Gf12 rfl W13 _ rfl (own_l_len Ru)
  have f15 := E1.wr W13
  have f16 := FK.other W13 (Or.inl nAP)
  have f17 := FI.other W13 (Or.inl nAP)
  have f18 := FP.other W13 (Or.inl nAP)
  have f19 := FS.other W13 (Or.inl nAP)
  have f20 := VK.other W13 nKP
  have f21 := VI.other W13 nIP
  have Z22 := Nat.le_trans Z0 (Nat.le_of_eq W13.size.symm)
  have K23 := K0.wr W13 (Or.inl (List.mem_of_getElem? (i := 3) rfl))
  have N24 := Fr.snoc X13 N0 gP
  have go25 : Goes p e below s₁ (entryFrame m #[(.ref a1), (.int u)] 4) T13 (mkF m 14 #[.val (.ref a1), .val (.int u), .val (.int (0 : Int32)), .unset] []) := fun t k => go11 t (st13 t k)
  have go26 : Goes p e below s₁ (entryFrame m #[(.ref a1), (.int u)] 4) T13 (mkF m 16 #[.val (.ref a1), .val (.int u), .val (.int (0 : Int32)), .unset] [(.ref a1), (.ref a1)]) := fun t k => by
    refine go25 t ?_
    refine XS.aloadN X13.here hx rfl (hb hby d11_14) rfl rfl ?_
    refine XS.dup X13.here hx rfl (hb hby d11_15) rfl rfl ?_
    exact k
  obtain ⟨T27, X27, e27, st27⟩ := getF X13 hx hZ hown (host := "") (Or.inl (own_wd hw 27 rfl)) Via.refl e13 f19 (g := (mkF m 16 #[.val (.ref a1), .val (.int u), .val (.int (0 : Int32)), .unset] [(.ref a1), (.ref a1)])) rfl rfl (hb hby d11_16)
  have go28 : Goes p e below s₁ (entryFrame m #[(.ref a1), (.int u)] 4) T27 (mkF m 19 #[.val (.ref a1), .val (.int u), .val (.int (0 : Int32)), .unset] [(.int (2 : Int32)), (.ref a1)]) := fun t k => go26 t (st27 t k)
  have go29 : Goes p e below s₁ (entryFrame m #[(.ref a1), (.int u)] 4) T27 (mkF m 21 #[.val (.ref a1), .val (.int u), .val (.int (0 : Int32)), .unset] [(.int (1 : Int32)), (.ref a1)]) := fun t k => by
    refine go28 t ?_
    refine XS.iconst X27.here hx rfl (hb hby d11_19) ?_
    refine XS.isub X27.here hx rfl (hb hby d11_20) rfl ?_
    exact k
  obtain ⟨T30, h30, X30, e30, W30, st30⟩ := putF X27 hx hZ hown (host := "") (Or.inl (own_wd hw 27 rfl)) Via.refl e27 f19 f15 (Or.inl (own_wd hw 28 rfl)) (own_wd hw 1 rfl) (ty := .int) (by decide) rfl rfl (g := (mkF m 21 #[.val (.ref a1), .val (.int u), .val (.int (0 : Int32)), .unset] [(.int (1 : Int32)), (.ref a1)])) rfl rfl (hb hby d11_21)
  have f31 := f19.same W30
  have f32 := f15.wr W30
  have f33 := f16.other W30 (Or.inr (slot_ne (Or.inr (own_wd hw 11 rfl)) (Or.inl (own_wd hw 28 rfl)) (by decide) (t := (.array .double)) (t' := .int) (by decide) (by decide)))
  have f34 := f17.other W30 (Or.inr (slot_ne (Or.inr (own_wd hw 14 rfl)) (Or.inl (own_wd hw 28 rfl)) (by decide) (t := (.array .int)) (t' := .int) (by decide) (by decide)))
  have f35 := f18.other W30 (Or.inr (slot_ne (Or.inr (own_wd hw 16 rfl)) (Or.inl (own_wd hw 28 rfl)) (by decide) (t := (.array .int)) (t' := .int) (by decide) (by decide)))
  have f36 := f20.other W30 (Ne.symm nAK)
  have f37 := f21.other W30 (Ne.symm nAI)
  have f38 := V14.other W30 (Ne.symm nAP)
  have Z39 := Nat.le_trans Z22 (Nat.le_of_eq W30.size.symm)
  have K40 := K23.wr W30 (Or.inl (List.mem_of_getElem? (i := 0) rfl))
  have N41 := Fr.snoc X30 N24 gA
  have go42 : Goes p e below s₁ (entryFrame m #[(.ref a1), (.int u)] 4) T30 (mkF m 24 #[.val (.ref a1), .val (.int u), .val (.int (0 : Int32)), .unset] []) := fun t k => go29 t (st30 t k)
  have go43 : Goes p e below s₁ (entryFrame m #[(.ref a1), (.int u)] 4) T30 (mkF m 26 #[.val (.ref a1), .val (.int u), .val (.int (0 : Int32)), .unset] [(.ref a1), (.int (0 : Int32))]) := fun t k => by
    refine go42 t ?_
    refine XS.iloadN X30.here hx rfl (hb hby d11_24) rfl ?_
    refine XS.aloadN X30.here hx rfl (hb hby d11_25) rfl rfl ?_
    exact k
  obtain ⟨T44, X44, e44, st44⟩ := getF X30 hx hZ hown (host := "") (Or.inl (own_wd hw 27 rfl)) Via.refl e30 f31 (g := (mkF m 26 #[.val (.ref a1), .val (.int u), .val (.int (0 : Int32)), .unset] [(.ref a1), (.int (0 : Int32))])) rfl rfl (hb hby d11_26)
  have go45 : Goes p e below s₁ (entryFrame m #[(.ref a1), (.int u)] 4) T44 (mkF m 29 #[.val (.ref a1), .val (.int u), .val (.int (0 : Int32)), .unset] [(.int (1 : Int32)), (.int (0 : Int32))]) := fun t k => go43 t (st44 t k)
  have go46 : Goes p e below s₁ (entryFrame m #[(.ref a1), (.int u)] 4) T44 (mkF m 33 #[.val (.ref a1), .val (.int u), .val (.int (0 : Int32)), .unset] [(.ref a1)]) := fun t k => by
    refine go45 t ?_
    refine XS.icmpNo X44.here hx rfl (hb hby d11_29) rfl (Jvm.Free.XT.ii_ge_f (by decide)) ?_
    refine XS.aloadN X44.here hx rfl (hb hby d11_32) rfl rfl ?_
    exact k
  obtain ⟨T47, X47, e47, st47⟩ := getF X44 hx hZ hown (host := "") (Or.inl (own_wd hw 13 rfl)) Via.refl e44 f34 (g := (mkF m 33 #[.val (.ref a1), .val (.int u), .val (.int (0 : Int32)), .unset] [(.ref a1)])) rfl rfl (hb hby d11_33)
  have go48 : Goes p e below s₁ (entryFrame m #[(.ref a1), (.int u)] 4) T47 (mkF m 36 #[.val (.ref a1), .val (.int u), .val (.int (0 : Int32)), .unset] [(.ref aI)]) := fun t k => go46 t (st47 t k)
  have go49 : Goes p e below s₁ (entryFrame m #[(.ref a1), (.int u)] 4) T47 (mkF m 37 #[.val (.ref a1), .val (.int u), .val (.int (0 : Int32)), .unset] [(.ref a1), (.ref aI)]) := fun t k => by
    refine go48 t ?_
    refine XS.aloadN X47.here hx rfl (hb hby d11_36) rfl rfl ?_
    exact k
  obtain ⟨T50, X50, e50, st50⟩ := getF X47 hx hZ hown (host := "") (Or.inl (own_wd hw 27 rfl)) Via.refl e47 f31 (g := (mkF m 37 #[.val (.ref a1), .val (.int u), .val (.int (0 : Int32)), .unset] [(.ref a1), (.ref aI)])) rfl rfl (hb hby d11_37)
  have go51 : Goes p e below s₁ (entryFrame m #[(.ref a1), (.int u)] 4) T50 (mkF m 40 #[.val (.ref a1), .val (.int u), .val (.int (0 : Int32)), .unset] [(.int (1 : Int32)), (.ref aI)]) := fun t k => go49 t (st50 t k)
  obtain ⟨cl52, Ar52, kq52, Sz52, Nn52, Hs52, Gf52⟩ := id (f37)
  have hin52 : ¬ ((1 : Int32) < 0 ∨ cl52.slots.size ≤ ((1 : Int32)).toNatClampNeg) := inb_of Sz52 (own_inb own_R1)
  have hat52 : cl52.slots[((1 : Int32)).toNatClampNeg]? = some (.int (σ.1 (1 : Int32))) := Has.at Hs52 hin52 (own_l_at own_R1)
  have go53 : Goes p e below s₁ (entryFrame m #[(.ref a1), (.int u)] 4) T50 (mkF m 43 #[.val (.ref a1), .val (.int u), .val (.int (0 : Int32)), .val (.int (σ.1 (1 : Int32)))] [(.ref a1)]) := fun t k => by
    refine go51 t ?_
    refine X50.iaload hx (j := (1 : Int32)) (v := (.int (σ.1 (1 : Int32)))) (own_hp e50 Ar52.1) (State.isArrayOf_alike hZ.alike Ar52.2.1) Ar52.2.2 hin52 hat52 (g := (mkF m 40 #[.val (.ref a1), .val (.int u), .val (.int (0 : Int32)), .unset] [(.int (1 : Int32)), (.ref aI)])) rfl rfl (hb hby d11_40) _ ?_
    refine XS.istoreN X50.here hx rfl (hb hby d11_41) rfl (l' := #[.val (.ref a1), .val (.int u), .val (.int (0 : Int32)), .val (.int (σ.1 (1 : Int32)))]) rfl ?_
    refine XS.aloadN X50.here hx rfl (hb hby d11_42) rfl rfl ?_
    exact k
  obtain ⟨T54, X54, e54, st54⟩ := getF X50 hx hZ hown (host := "") (Or.inl (own_wd hw 13 rfl)) Via.refl e50 f34 (g := (mkF m 43 #[.val (.ref a1), .val (.int u), .val (.int (0 : Int32)), .val (.int (σ.1 (1 : Int32)))] [(.ref a1)])) rfl rfl (hb hby d11_43)
  have go55 : Goes p e below s₁ (entryFrame m #[(.ref a1), (.int u)] 4) T54 (mkF m 46 #[.val (.ref a1), .val (.int u), .val (.int (0 : Int32)), .val (.int (σ.1 (1 : Int32)))] [(.ref aI)]) := fun t k => go53 t (st54 t k)
  have go56 : Goes p e below s₁ (entryFrame m #[(.ref a1), (.int u)] 4) T54 (mkF m 48 #[.val (.ref a1), .val (.int u), .val (.int (0 : Int32)), .val (.int (σ.1 (1 : Int32)))] [(.int (σ.1 (1 : Int32))), (.int (0 : Int32)), (.ref aI)]) := fun t k => by
    refine go55 t ?_
    refine XS.iloadN X54.here hx rfl (hb hby d11_46) rfl ?_
    refine XS.iloadN X54.here hx rfl (hb hby d11_47) rfl ?_
    exact k
  obtain ⟨cl57, Ar57, kq57, Sz57, Nn57, Hs57, Gf57⟩ := id (f37)
  have hin57 : ¬ ((0 : Int32) < 0 ∨ cl57.slots.size ≤ ((0 : Int32)).toNatClampNeg) := inb_of Sz57 (own_inb own_R0)
  obtain ⟨T58, h58, X58, e58, W58, st58⟩ := stI X54 hx hZ e54 Ar57 (j := (0 : Int32)) hin57 (g := (mkF m 48 #[.val (.ref a1), .val (.int u), .val (.int (0 : Int32)), .val (.int (σ.1 (1 : Int32)))] [(.int (σ.1 (1 : Int32))), (.int (0 : Int32)), (.ref aI)])) rfl rfl (hb hby d11_48)
  have V59 : Arv Z h58 aI ki .int 3 (own_l (own_u σ.1 (0 : Int32) (σ.1 (1 : Int32)))) (.int (0 : Int32)) := by rw [← own_l_set own_R0]; exact Arv.set Ar57 kq57 Sz57 Nn57 Hs57 Gf57 rfl W58 _ rfl (own_l_len own_R0)
  have f60 := f32.wr W58
  have f61 := f33.other W58 (Or.inl nAI)
  have f62 := f34.other W58 (Or.inl nAI)
  have f63 := f35.other W58 (Or.inl nAI)
  have f64 := f36.other W58 nKI
  have f65 := f38.other W58 (Ne.symm nIP)
  have f66 := f31.other W58 (Or.inl nAI)
  have Z67 := Nat.le_trans Z39 (Nat.le_of_eq W58.size.symm)
  have K68 := K40.wr W58 (Or.inl (List.mem_of_getElem? (i := 2) rfl))
  have N69 := Fr.snoc X58 N41 gI
  have go70 : Goes p e below s₁ (entryFrame m #[(.ref a1), (.int u)] 4) T58 (mkF m 49 #[.val (.ref a1), .val (.int u), .val (.int (0 : Int32)), .val (.int (σ.1 (1 : Int32)))] []) := fun t k => go56 t (st58 t k)
  have go71 : Goes p e below s₁ (entryFrame m #[(.ref a1), (.int u)] 4) T58 (mkF m 50 #[.val (.ref a1), .val (.int u), .val (.int (0 : Int32)), .val (.int (σ.1 (1 : Int32)))] [(.ref a1)]) := fun t k => by
    refine go70 t ?_
    refine XS.aloadN X58.here hx rfl (hb hby d11_49) rfl rfl ?_
    exact k
  obtain ⟨T72, X72, e72, st72⟩ := getF X58 hx hZ hown (host := "") (Or.inl (own_wd hw 15 rfl)) Via.refl e58 f63 (g := (mkF m 50 #[.val (.ref a1), .val (.int u), .val (.int (0 : Int32)), .val (.int (σ.1 (1 : Int32)))] [(.ref a1)])) rfl rfl (hb hby d11_50)
  have go73 : Goes p e below s₁ (entryFrame m #[(.ref a1), (.int u)] 4) T72 (mkF m 53 #[.val (.ref a1), .val (.int u), .val (.int (0 : Int32)), .val (.int (σ.1 (1 : Int32)))] [(.ref aP)]) := fun t k => go71 t (st72 t k)
  have go74 : Goes p e below s₁ (entryFrame m #[(.ref a1), (.int u)] 4) T72 (mkF m 55 #[.val (.ref a1), .val (.int u), .val (.int (0 : Int32)), .val (.int (σ.1 (1 : Int32)))] [(.int (0 : Int32)), (.int (σ.1 (1 : Int32))), (.ref aP)]) := fun t k => by
    refine go73 t ?_
    refine XS.iloadN X72.here hx rfl (hb hby d11_53) rfl ?_
    refine XS.iloadN X72.here hx rfl (hb hby d11_54) rfl ?_
    exact k
  obtain ⟨cl75, Ar75, kq75, Sz75, Nn75, Hs75, Gf75⟩ := id (f65)
  have hin75 : ¬ ((σ.1 (1 : Int32)) < 0 ∨ cl75.slots.size ≤ ((σ.1 (1 : Int32))).toNatClampNeg) := inb_of Sz75 (own_inb R1)
  obtain ⟨T76, h76, X76, e76, W76, st76⟩ := stI X72 hx hZ e72 Ar75 (j := (σ.1 (1 : Int32))) hin75 (g := (mkF m 55 #[.val (.ref a1), .val (.int u), .val (.int (0 : Int32)), .val (.int (σ.1 (1 : Int32)))] [(.int (0 : Int32)), (.int (σ.1 (1 : Int32))), (.ref aP)])) rfl rfl (hb hby d11_55)
  have V77 : Arv Z h76 aP kp .int 3 (own_l (own_u (own_u σ.2 u (-1 : Int32)) (σ.1 (1 : Int32)) (0 : Int32))) (.int (0 : Int32)) := by rw [← own_l_set R1]; exact Arv.set Ar75 kq75 Sz75 Nn75 Hs75 Gf75 rfl W76 _ rfl (own_l_len R1)
  have f78 := f60.wr W76
  have f79 := f61.other W76 (Or.inl nAP)
  have f80 := f62.other W76 (Or.inl nAP)
  have f81 := f63.other W76 (Or.inl nAP)
  have f82 := f64.other W76 nKP
  have f83 := f66.other W76 (Or.inl nAP)
  have f84 := V59.other W76 nIP
  have Z85 := Nat.le_trans Z67 (Nat.le_of_eq W76.size.symm)
  have K86 := K68.wr W76 (Or.inl (List.mem_of_getElem? (i := 3) rfl))
  have N87 := Fr.snoc X76 N69 gP
  have go88 : Goes p e below s₁ (entryFrame m #[(.ref a1), (.int u)] 4) T76 (mkF m 56 #[.val (.ref a1), .val (.int u), .val (.int (0 : Int32)), .val (.int (σ.1 (1 : Int32)))] []) := fun t k => go74 t (st76 t k)
  have go89 : Goes p e below s₁ (entryFrame m #[(.ref a1), (.int u)] 4) T76 (mkF m 58 #[.val (.ref a1), .val (.int u), .val (.int (0 : Int32)), .val (.int (σ.1 (1 : Int32)))] [(.int (0 : Int32)), (.ref a1)]) := fun t k => by
    refine go88 t ?_
    refine XS.aloadN X76.here hx rfl (hb hby d11_56) rfl rfl ?_
    refine XS.iloadN X76.here hx rfl (hb hby d11_57) rfl ?_
    exact k
  obtain ⟨cq90, q90a, q90b⟩ := f78.cell
  obtain ⟨_, _, ⟨T90, L90, k90, n90⟩, -, X90, ⟨Lc90, hQ90, l90, y90, z90⟩, st90⟩ := X76.privateBack hx (y := mN_3) hown (mvT hZ (own_wd hw 29 rfl)) (mvT hZ (own_wd hw 30 rfl)) (own_selp (y := mN_3) (by decide) (mvT hZ (own_wd hw 1 rfl)) (mvP hZ (own_wd hw 31 rfl)) (mvT hZ (own_wd hw 30 rfl))) (Cond.privateMethod_at (mvP hZ (own_wd hw 31 rfl) (args := #[]))) (mvT hZ (own_wd hw 32 rfl)) (by decide) (backOf (W := 0) (rmU0 l Z a0 hw [] a1 aK aI aP kk ki kp kf ((own_u σ.1 (0 : Int32) (σ.1 (1 : Int32))), (own_u (own_u σ.2 u (-1 : Int32)) (σ.1 (1 : Int32)) (0 : Int32))) (1 : Int32) h76 n0 Z85 f78 f79 f80 f81 f83 f82 f84 V77 nKI nKP nIP nAK nAI nAP gA gK gI gP (show own_R (own_u σ.1 (0 : Int32) (σ.1 (1 : Int32)) (0 : Int32)) from own_u_R R1 (fun h => absurd rfl h))) hZ (own_wd hw 32 rfl) (own_wd hw 2 rfl) (by decide) (by decide)) (g := (mkF m 58 #[.val (.ref a1), .val (.int u), .val (.int (0 : Int32)), .val (.int (σ.1 (1 : Int32)))] [(.int (0 : Int32)), (.ref a1)])) rfl (by rw [hml]; rfl) (Steps.refl _) (a := a1) (by rw [e76]; exact q90a) q90b (argsL := [(.int (0 : Int32))]) (rest := []) (lenOf pd_2 rfl) rfl (by show 2 * 0 + _ ≤ _; exact Nat.le_of_eq rfl) (hb hby d11_58) (fun _ _ => ⟨rfl, e76, (by decide : 0 + 0 ≤ rO_3.cells), (by decide : 0 + 0 ≤ rO_3.slots)⟩)
  dsimp only [Pt.U, Pt.locs, Pt.cells, Pt.slots] at X90 l90 y90 z90 st90 hQ90
  subst l90 y90 z90
  obtain ⟨rfl, N90q, Kq90, VIq90, VPq90⟩ := hQ90
  have N90 := Fr.app N87 N90q
  have f91 := f78.keep Kq90
  have f92 := f79.keep Kq90 (ninS nAI (ninS nAP nin0))
  have f93 := f80.keep Kq90 (ninS nAI (ninS nAP nin0))
  have f94 := f81.keep Kq90 (ninS nAI (ninS nAP nin0))
  have f95 := f82.keep Kq90 (ninS nKI (ninS nKP nin0))
  have f96 := f83.keep Kq90 (ninS nAI (ninS nAP nin0))
  have Z97 := Nat.le_trans Z85 Kq90.1
  have K98 := K86.trans Kq90 (allS (Or.inl (List.mem_of_getElem? (i := 2) rfl)) (allS (Or.inl (List.mem_of_getElem? (i := 3) rfl)) all0))
  obtain ⟨τ90, hτ90⟩ : ∃ z, z = own_up kf ((own_u σ.1 (0 : Int32) (σ.1 (1 : Int32))), (own_u (own_u σ.2 u (-1 : Int32)) (σ.1 (1 : Int32)) (0 : Int32))) (0 : Int32) := ⟨_, rfl⟩
  rw [← hτ90] at VIq90 VPq90
  have go99 : Goes p e below s₁ (entryFrame m #[(.ref a1), (.int u)] 4) T90 (mkF m 61 #[.val (.ref a1), .val (.int u), .val (.int (0 : Int32)), .val (.int (σ.1 (1 : Int32)))] []) := fun t k => go89 t (st90.trans k)
  have go100 : Goes p e below s₁ (entryFrame m #[(.ref a1), (.int u)] 4) T90 (mkF m 63 #[.val (.ref a1), .val (.int u), .val (.int (0 : Int32)), .val (.int (σ.1 (1 : Int32)))] [(.ref a1), (.ref a1)]) := fun t k => by
    refine go99 t ?_
    refine XS.aloadN X90.here hx rfl (hb hby d11_61) rfl rfl ?_
    refine XS.aloadN X90.here hx rfl (hb hby d11_62) rfl rfl ?_
    exact k
  obtain ⟨T101, X101, e101, st101⟩ := getF X90 hx hZ hown (host := "") (Or.inl (own_wd hw 15 rfl)) Via.refl rfl f94 (g := (mkF m 63 #[.val (.ref a1), .val (.int u), .val (.int (0 : Int32)), .val (.int (σ.1 (1 : Int32)))] [(.ref a1), (.ref a1)])) rfl rfl (hb hby d11_63)
  have go102 : Goes p e below s₁ (entryFrame m #[(.ref a1), (.int u)] 4) T101 (mkF m 66 #[.val (.ref a1), .val (.int u), .val (.int (0 : Int32)), .val (.int (σ.1 (1 : Int32)))] [(.ref aP), (.ref a1)]) := fun t k => go100 t (st101 t k)
  have go103 : Goes p e below s₁ (entryFrame m #[(.ref a1), (.int u)] 4) T101 (mkF m 67 #[.val (.ref a1), .val (.int u), .val (.int (0 : Int32)), .val (.int (σ.1 (1 : Int32)))] [(.int (σ.1 (1 : Int32))), (.ref aP), (.ref a1)]) := fun t k => by
    refine go102 t ?_
    refine XS.iloadN X101.here hx rfl (hb hby d11_66) rfl ?_
    exact k
  obtain ⟨cl104, Ar104, kq104, Sz104, Nn104, Hs104, Gf104⟩ := id (VPq90)
  have hin104 : ¬ ((σ.1 (1 : Int32)) < 0 ∨ cl104.slots.size ≤ ((σ.1 (1 : Int32))).toNatClampNeg) := inb_of Sz104 (own_inb R1)
  have hat104 : cl104.slots[((σ.1 (1 : Int32))).toNatClampNeg]? = some (.int (τ90.2 (σ.1 (1 : Int32)))) := Has.at Hs104 hin104 (own_l_at R1)
  have go105 : Goes p e below s₁ (entryFrame m #[(.ref a1), (.int u)] 4) T101 (mkF m 68 #[.val (.ref a1), .val (.int u), .val (.int (0 : Int32)), .val (.int (σ.1 (1 : Int32)))] [(.int (τ90.2 (σ.1 (1 : Int32)))), (.ref a1)]) := fun t k => by
    refine go103 t ?_
    refine X101.iaload hx (j := (σ.1 (1 : Int32))) (v := (.int (τ90.2 (σ.1 (1 : Int32))))) (own_hp e101 Ar104.1) (State.isArrayOf_alike hZ.alike Ar104.2.1) Ar104.2.2 hin104 hat104 (g := (mkF m 67 #[.val (.ref a1), .val (.int u), .val (.int (0 : Int32)), .val (.int (σ.1 (1 : Int32)))] [(.int (σ.1 (1 : Int32))), (.ref aP), (.ref a1)])) rfl rfl (hb hby d11_67) _ ?_
    exact k
  have hpos : τ90.2 (σ.1 (1 : Int32)) = (0 : Int32) ∨ τ90.2 (σ.1 (1 : Int32)) = 0 := by rw [hτ90]; exact own_up_pos (show own_u σ.1 (0 : Int32) (σ.1 (1 : Int32)) (0 : Int32) = (σ.1 (1 : Int32)) from own_us)
  have hR0 : ∀ j : Int32, j < (1 : Int32) ∧ ¬ j < 0 → own_R (own_u σ.1 (0 : Int32) (σ.1 (1 : Int32)) j) := by
    intro j hj
    refine own_u_R R1 (fun _ => ?_)
    have h6 : j.toInt = 0 := by
      have h1 := hj.1; have h2 := hj.2; rw [Int32.lt_iff_toInt_lt] at h1 h2
      have h3 : ((1 : Int32)).toInt = 1 := rfl
      have h4 : (0 : Int32).toInt = 0 := rfl
      omega
    rcases h6 with h6
    · rw [own_of_toInt h6]; exact R0
  have hR106 : ∀ j : Int32, j < (1 : Int32) ∧ ¬ j < 0 → own_R (τ90.1 j) := fun j hj => by rw [hτ90]; exact own_up_R (hR0 (0 : Int32) (by decide)) (hR0 (0 : Int32) (by decide)) (hR0 j hj)
  have hp := hpos.elim id id
  have go107 : Goes p e below s₁ (entryFrame m #[(.ref a1), (.int u)] 4) T101 (mkF m 68 #[.val (.ref a1), .val (.int u), .val (.int (0 : Int32)), .val (.int (σ.1 (1 : Int32)))] [(.int (0 : Int32)), (.ref a1)]) := Eq.mp (congrArg (fun zz => Goes p e below s₁ (entryFrame m #[(.ref a1), (.int u)] 4) T101 (mkF m 68 #[.val (.ref a1), .val (.int u), .val (.int (0 : Int32)), .val (.int (σ.1 (1 : Int32)))] [(.int zz), (.ref a1)])) hp) go105
  obtain ⟨cq108, q108a, q108b⟩ := f91.cell
  obtain ⟨_, _, ⟨T108, L108, k108, n108⟩, -, X108, ⟨Lc108, hQ108, l108, y108, z108⟩, st108⟩ := X101.privateBack hx (y := mN_0) hown (mvT hZ (own_wd hw 37 rfl)) (mvT hZ (own_wd hw 38 rfl)) (own_selp (y := mN_0) (by decide) (mvT hZ (own_wd hw 1 rfl)) (mvP hZ (own_wd hw 39 rfl)) (mvT hZ (own_wd hw 38 rfl))) (Cond.privateMethod_at (mvP hZ (own_wd hw 39 rfl) (args := #[]))) (mvT hZ (own_wd hw 40 rfl)) (by decide) (backOf (W := 0) (rmD01 l Z a0 hw [] a1 aK aI aP kk ki kp kf τ90 T90.heap n0 Z97 f91 f92 f93 f94 f96 f95 VIq90 VPq90 nKI nKP nIP nAK nAI nAP gA gK gI gP (hR106 (0 : Int32) (by decide))) hZ (own_wd hw 40 rfl) (own_wd hw 2 rfl) (by decide) (by decide)) (g := (mkF m 68 #[.val (.ref a1), .val (.int u), .val (.int (0 : Int32)), .val (.int (σ.1 (1 : Int32)))] [(.int (0 : Int32)), (.ref a1)])) rfl (by rw [hml]; rfl) (Steps.refl _) (a := a1) (by rw [e101]; exact q108a) q108b (argsL := [(.int (0 : Int32))]) (rest := []) (lenOf pd_2 rfl) rfl (by show 2 * 0 + _ ≤ _; exact Nat.le_of_eq rfl) (hb hby d11_68) (fun _ _ => ⟨rfl, e101, (by decide : 0 + 0 ≤ rO_3.cells), (by decide : 0 + 0 ≤ rO_3.slots)⟩)
  dsimp only [Pt.U, Pt.locs, Pt.cells, Pt.slots] at X108 l108 y108 z108 st108 hQ108
  subst l108 y108 z108
  obtain ⟨rfl, N108q, Kq108, VIq108, VPq108⟩ := hQ108
  have N108 := Fr.app N90 N108q
  have f109 := f91.keep Kq108
  have f110 := f92.keep Kq108 (ninS nAI (ninS nAP nin0))
  have f111 := f93.keep Kq108 (ninS nAI (ninS nAP nin0))
  have f112 := f94.keep Kq108 (ninS nAI (ninS nAP nin0))
  have f113 := f95.keep Kq108 (ninS nKI (ninS nKP nin0))
  have f114 := f96.keep Kq108 (ninS nAI (ninS nAP nin0))
  have Z115 := Nat.le_trans Z97 Kq108.1
  have K116 := K98.trans Kq108 (allS (Or.inl (List.mem_of_getElem? (i := 2) rfl)) (allS (Or.inl (List.mem_of_getElem? (i := 3) rfl)) all0))
  have go117 : Goes p e below s₁ (entryFrame m #[(.ref a1), (.int u)] 4) T108 (mkF m 71 #[.val (.ref a1), .val (.int u), .val (.int (0 : Int32)), .val (.int (σ.1 (1 : Int32)))] []) := fun t k => go107 t (st108.trans k)
  obtain ⟨fs, hr, hrun, hended, hW, hsame⟩ := X108.leave (v := none) (fun _ => rfl)
  have hrm : own_rmv kf σ u (0 : Int32) (2 : Int32) = own_dn kf τ90 (0 : Int32) (1 : Int32) := by
    refine (if_neg (by decide)).trans ?_
    show own_dn kf (own_up kf (own_u σ.1 (0 : Int32) (σ.1 (1 : Int32)), own_u (own_u σ.2 u (-1 : Int32)) (σ.1 (1 : Int32)) (0 : Int32)) (own_u (own_u σ.2 u (-1 : Int32)) (σ.1 (1 : Int32)) (0 : Int32) (σ.1 (1 : Int32)))) ((own_up kf (own_u σ.1 (0 : Int32) (σ.1 (1 : Int32)), own_u (own_u σ.2 u (-1 : Int32)) (σ.1 (1 : Int32)) (0 : Int32)) (own_u (own_u σ.2 u (-1 : Int32)) (σ.1 (1 : Int32)) (0 : Int32) (σ.1 (1 : Int32)))).2 (σ.1 (1 : Int32))) (1 : Int32) = _
    rw [own_us, ← hτ90, hp]
  refine ⟨_, _, go117 _ ?_, hrun, hended, _, _, rfl, ?_, ⟨_, rfl⟩, hW, hsame.mono (by decide) (by decide)⟩
  · exact X108.returnOut hx Bd.returns (hb hby d11_71) hr
  · show QRm02 Z _ _ _ _ _ _ _ _ _ _ _ _ _ T108.heap _
    exact ⟨rfl, N108, K116, f109, f110, f111, f112, f114, f113, by rw [hrm]; exact VIq108, by rw [hrm]; exact VPq108⟩
theorem ef_rmRm12 (m : MethodId) (a1 : Addr) (u : Int32) : entryFrame m #[(.ref a1), (.int u)] 4 = mkF m 0 #[.val (.ref a1), .val (.int u), .unset, .unset] [] := by first | (simp [entryFrame, mkF, argsToLocals, Value.category]; done) | rfl
def QRm12 (Z : State) (a1 : Addr) (u : Int32) (aK aI aP : Addr) (kk ki kp : ClassId) (kf : Int32 → UInt64) (σ : own_P) (h0 : Heap) (n0 : Nat) (v : Option Value) (h : Heap) (L : List Loc) : Prop := v = none ∧ Fr n0 L ∧ Keep h0 h [a1, aK, aI, aP] ∧ Exa Z h a1 "com/example/covermesh/covermesh/algorithms/IndexedMinHeap" ∧ Fld Z h a1 "com/example/covermesh/covermesh/algorithms/IndexedMinHeap" "keys" "[D" (.ref aK) ∧ Fld Z h a1 "com/example/covermesh/covermesh/algorithms/IndexedMinHeap" "items" "[I" (.ref aI) ∧ Fld Z h a1 "com/example/covermesh/covermesh/algorithms/IndexedMinHeap" "positions" "[I" (.ref aP) ∧ Fld Z h a1 "com/example/covermesh/covermesh/algorithms/IndexedMinHeap" "size" "I" (.int (1 : Int32)) ∧ Arv Z h aK kk .double 3 (own_d kf) (.double (0 : UInt64)) ∧ Arv Z h aI ki .int 3 (own_l (own_rmv kf σ u (1 : Int32) (2 : Int32)).1) (.int (0 : Int32)) ∧ Arv Z h aP kp .int 3 (own_l (own_rmv kf σ u (1 : Int32) (2 : Int32)).2) (.int (0 : Int32))
set_option maxRecDepth 65536 in
set_option maxHeartbeats 40000000 in
theorem rmRm12 (l : Launch) (Z : State) (a0 : Array Value) (hw : ∀ d ∈ tables_1, d.before a0 Z = true) (ws : List Jvm.Cond) (a1 : Addr) (u : Int32) (aK aI aP : Addr) (kk ki kp : ClassId) (kf : Int32 → UInt64) (σ : own_P) (h0 : Heap) (n0 : Nat) (Z0 : n0 ≤ h0.size) (E1 : Exa Z h0 a1 "com/example/covermesh/covermesh/algorithms/IndexedMinHeap") (FK : Fld Z h0 a1 "com/example/covermesh/covermesh/algorithms/IndexedMinHeap" "keys" "[D" (.ref aK)) (FI : Fld Z h0 a1 "com/example/covermesh/covermesh/algorithms/IndexedMinHeap" "items" "[I" (.ref aI)) (FP : Fld Z h0 a1 "com/example/covermesh/covermesh/algorithms/IndexedMinHeap" "positions" "[I" (.ref aP)) (FS : Fld Z h0 a1 "com/example/covermesh/covermesh/algorithms/IndexedMinHeap" "size" "I" (.int (2 : Int32))) (VK : Arv Z h0 aK kk .double 3 (own_d kf) (.double (0 : UInt64))) (VI : Arv Z h0 aI ki .int 3 (own_l σ.1) (.int (0 : Int32))) (VP : Arv Z h0 aP kp .int 3 (own_l σ.2) (.int (0 : Int32))) (nKI : aK ≠ aI) (nKP : aK ≠ aP) (nIP : aI ≠ aP) (nAK : a1 ≠ aK) (nAI : a1 ≠ aI) (nAP : a1 ≠ aP) (gA : n0 ≤ a1) (gK : n0 ≤ aK) (gI : n0 ≤ aI) (gP : n0 ≤ aP) (Ru : own_R u) (hgu : σ.2 u = (1 : Int32)) :
    MetFree l mN_4 (head1 (Jvm.Cond.code mN_4 prog_17_method_6_code 4 none :: ws) rO_3) (fun a U => a = #[(.ref a1), (.int u)] ∧ Z.Warmed39 U.vm ∧ U.heap = h0) (fun _ _ _ _ _ => True) (fun _ U o U' => ∃ v L, o = .returned v ∧ QRm12 Z a1 u aK aI aP kk ki kp kf σ h0 n0 v U'.heap L ∧ FrameEnd U o U' L rO_3.cells rO_3.slots) := by
  refine MetFree.of_bodySF (plainFor_of_name pn_0) hisR ?_
  intro p e s m args below meth c s₁ Bd hml0 hP hK
  obtain ⟨rfl, hZ, hh⟩ := hP
  have hx := Bd.exec
  have hby := Bd.bytes
  have hml : c.maxLocals = 4 := hml0
  have hown : s.vm.findClass "com/example/covermesh/covermesh/algorithms/IndexedMinHeap" = some m.cls := findClass_of_methodNamed Bd.named
  have hnm := (name_of_methodNamed Bd.named Bd.method).1
  have X0 : Stand p l e rO_3 s m #[(.ref a1), (.int u)] below meth c s₁ [] 0 0 := Stand.of_body Bd
  have e0 : s₁.heap = h0 := by rw [← hh, Bd.state]; rfl
  have N0 := Fr.nil n0
  have K0 := Keep.refl h0 [a1, aK, aI, aP]
  have go0 : Goes p e below s₁ (entryFrame m #[(.ref a1), (.int u)] 4) s₁ (mkF m 0 #[.val (.ref a1), .val (.int u), .unset, .unset] []) := fun t k => castTop (ef_rmRm12 m a1 u) k
  have go1 : Goes p e below s₁ (entryFrame m #[(.ref a1), (.int u)] 4) s₁ (mkF m 1 #[.val (.ref a1), .val (.int u), .unset, .unset] [(.ref a1)]) := fun t k => by
    refine go0 t ?_
    refine XS.aloadN X0.here hx rfl (hb hby d11_0) rfl rfl ?_
    exact k
  obtain ⟨T2, X2, e2, st2⟩ := getF X0 hx hZ hown (host := "") (Or.inl (own_wd hw 15 rfl)) Via.refl e0 FP (g := (mkF m 1 #[.val (.ref a1), .val (.int u), .unset, .unset] [(.ref a1)])) rfl rfl (hb hby d11_1)
  have go3 : Goes p e below s₁ (entryFrame m #[(.ref a1), (.int u)] 4) T2 (mkF m 4 #[.val (.ref a1), .val (.int u), .unset, .unset] [(.ref aP)]) := fun t k => go1 t (st2 t k)
  have go4 : Goes p e below s₁ (entryFrame m #[(.ref a1), (.int u)] 4) T2 (mkF m 5 #[.val (.ref a1), .val (.int u), .unset, .unset] [(.int u), (.ref aP)]) := fun t k => by
    refine go3 t ?_
    refine XS.iloadN X2.here hx rfl (hb hby d11_4) rfl ?_
    exact k
  obtain ⟨cl5, Ar5, kq5, Sz5, Nn5, Hs5, Gf5⟩ := id (VP)
  have hin5 : ¬ (u < 0 ∨ cl5.slots.size ≤ (u).toNatClampNeg) := inb_of Sz5 (own_inb Ru)
  have hat5 : cl5.slots[(u).toNatClampNeg]? = some (.int (σ.2 u)) := Has.at Hs5 hin5 (own_l_at Ru)
  have go6 : Goes p e below s₁ (entryFrame m #[(.ref a1), (.int u)] 4) T2 (mkF m 6 #[.val (.ref a1), .val (.int u), .unset, .unset] [(.int (σ.2 u))]) := fun t k => by
    refine go4 t ?_
    refine X2.iaload hx (j := u) (v := (.int (σ.2 u))) (own_hp e2 Ar5.1) (State.isArrayOf_alike hZ.alike Ar5.2.1) Ar5.2.2 hin5 hat5 (g := (mkF m 5 #[.val (.ref a1), .val (.int u), .unset, .unset] [(.int u), (.ref aP)])) rfl rfl (hb hby d11_5) _ ?_
    exact k
  have go7 : Goes p e below s₁ (entryFrame m #[(.ref a1), (.int u)] 4) T2 (mkF m 6 #[.val (.ref a1), .val (.int u), .unset, .unset] [(.int (1 : Int32))]) := Eq.mp (congrArg (fun zz => Goes p e below s₁ (entryFrame m #[(.ref a1), (.int u)] 4) T2 (mkF m 6 #[.val (.ref a1), .val (.int u), .unset, .unset] [(.int zz)])) hgu) go6
  have go8 : Goes p e below s₁ (entryFrame m #[(.ref a1), (.int u)] 4) T2 (mkF m 8 #[.val (.ref a1), .val (.int u), .val (.int (1 : Int32)), .unset] [(.ref a1)]) := fun t k => by
    refine go7 t ?_
    refine XS.istoreN X2.here hx rfl (hb hby d11_6) rfl (l' := #[.val (.ref a1), .val (.int u), .val (.int (1 : Int32)), .unset]) rfl ?_
    refine XS.aloadN X2.here hx rfl (hb hby d11_7) rfl rfl ?_
    exact k
  obtain ⟨T9, X9, e9, st9⟩ := getF X2 hx hZ hown (host := "") (Or.inl (own_wd hw 15 rfl)) Via.refl e2 FP (g := (mkF m 8 #[.val (.ref a1), .val (.int u), .val (.int (1 : Int32)), .unset] [(.ref a1)])) rfl rfl (hb hby d11_8)
  have go10 : Goes p e below s₁ (entryFrame m #[(.ref a1), (.int u)] 4) T9 (mkF m 11 #[.val (.ref a1), .val (.int u), .val (.int (1 : Int32)), .unset] [(.ref aP)]) := fun t k => go8 t (st9 t k)
  have go11 : Goes p e below s₁ (entryFrame m #[(.ref a1), (.int u)] 4) T9 (mkF m 13 #[.val (.ref a1), .val (.int u), .val (.int (1 : Int32)), .unset] [(.int (-1 : Int32)), (.int u), (.ref aP)]) := fun t k => by
    refine go10 t ?_
    refine XS.iloadN X9.here hx rfl (hb hby d11_11) rfl ?_
    refine XS.iconst X9.here hx rfl (hb hby d11_12) ?_
    exact k
  obtain ⟨cl12, Ar12, kq12, Sz12, Nn12, Hs12, Gf12⟩ := id (VP)
  have hin12 : ¬ (u < 0 ∨ cl12.slots.size ≤ (u).toNatClampNeg) := inb_of Sz12 (own_inb Ru)
  obtain ⟨T13, h13, X13, e13, W13, st13⟩ := stI X9 hx hZ e9 Ar12 (j := u) hin12 (g := (mkF m 13 #[.val (.ref a1), .val (.int u), .val (.int (1 : Int32)), .unset] [(.int (-1 : Int32)), (.int u), (.ref aP)])) rfl rfl (hb hby d11_13)
  have V14 : Arv Z h13 aP kp .int 3 (own_l (own_u σ.2 u (-1 : Int32))) (.int (0 : Int32)) := by rw [← own_l_set Ru]; exact Arv.set Ar12 kq12 Sz12 Nn12 Hs12 Gf12 rfl W13 _ rfl (own_l_len Ru)
  have f15 := E1.wr W13
  have f16 := FK.other W13 (Or.inl nAP)
  have f17 := FI.other W13 (Or.inl nAP)
  have f18 := FP.other W13 (Or.inl nAP)
  have f19 := FS.other W13 (Or.inl nAP)
  have f20 := VK.other W13 nKP
  have f21 := VI.other W13 nIP
  have Z22 := Nat.le_trans Z0 (Nat.le_of_eq W13.size.symm)
  have K23 := K0.wr W13 (Or.inl (List.mem_of_getElem? (i := 3) rfl))
  have N24 := Fr.snoc X13 N0 gP
  have go25 : Goes p e below s₁ (entryFrame m #[(.ref a1), (.int u)] 4) T13 (mkF m 14 #[.val (.ref a1), .val (.int u), .val (.int (1 : Int32)), .unset] []) := fun t k => go11 t (st13 t k)
  have go26 : Goes p e below s₁ (entryFrame m #[(.ref a1), (.int u)] 4) T13 (mkF m 16 #[.val (.ref a1), .val (.int u), .val (.int (1 : Int32)), .unset] [(.ref a1), (.ref a1)]) := fun t k => by
    refine go25 t ?_
    refine XS.aloadN X13.here hx rfl (hb hby d11_14) rfl rfl ?_
    refine XS.dup X13.here hx rfl (hb hby d11_15) rfl rfl ?_
    exact k
  obtain ⟨T27, X27, e27, st27⟩ := getF X13 hx hZ hown (host := "") (Or.inl (own_wd hw 27 rfl)) Via.refl e13 f19 (g := (mkF m 16 #[.val (.ref a1), .val (.int u), .val (.int (1 : Int32)), .unset] [(.ref a1), (.ref a1)])) rfl rfl (hb hby d11_16)
  have go28 : Goes p e below s₁ (entryFrame m #[(.ref a1), (.int u)] 4) T27 (mkF m 19 #[.val (.ref a1), .val (.int u), .val (.int (1 : Int32)), .unset] [(.int (2 : Int32)), (.ref a1)]) := fun t k => go26 t (st27 t k)
  have go29 : Goes p e below s₁ (entryFrame m #[(.ref a1), (.int u)] 4) T27 (mkF m 21 #[.val (.ref a1), .val (.int u), .val (.int (1 : Int32)), .unset] [(.int (1 : Int32)), (.ref a1)]) := fun t k => by
    refine go28 t ?_
    refine XS.iconst X27.here hx rfl (hb hby d11_19) ?_
    refine XS.isub X27.here hx rfl (hb hby d11_20) rfl ?_
    exact k
  obtain ⟨T30, h30, X30, e30, W30, st30⟩ := putF X27 hx hZ hown (host := "") (Or.inl (own_wd hw 27 rfl)) Via.refl e27 f19 f15 (Or.inl (own_wd hw 28 rfl)) (own_wd hw 1 rfl) (ty := .int) (by decide) rfl rfl (g := (mkF m 21 #[.val (.ref a1), .val (.int u), .val (.int (1 : Int32)), .unset] [(.int (1 : Int32)), (.ref a1)])) rfl rfl (hb hby d11_21)
  have f31 := f19.same W30
  have f32 := f15.wr W30
  have f33 := f16.other W30 (Or.inr (slot_ne (Or.inr (own_wd hw 11 rfl)) (Or.inl (own_wd hw 28 rfl)) (by decide) (t := (.array .double)) (t' := .int) (by decide) (by decide)))
  have f34 := f17.other W30 (Or.inr (slot_ne (Or.inr (own_wd hw 14 rfl)) (Or.inl (own_wd hw 28 rfl)) (by decide) (t := (.array .int)) (t' := .int) (by decide) (by decide)))
  have f35 := f18.other W30 (Or.inr (slot_ne (Or.inr (own_wd hw 16 rfl)) (Or.inl (own_wd hw 28 rfl)) (by decide) (t := (.array .int)) (t' := .int) (by decide) (by decide)))
  have f36 := f20.other W30 (Ne.symm nAK)
  have f37 := f21.other W30 (Ne.symm nAI)
  have f38 := V14.other W30 (Ne.symm nAP)
  have Z39 := Nat.le_trans Z22 (Nat.le_of_eq W30.size.symm)
  have K40 := K23.wr W30 (Or.inl (List.mem_of_getElem? (i := 0) rfl))
  have N41 := Fr.snoc X30 N24 gA
  have go42 : Goes p e below s₁ (entryFrame m #[(.ref a1), (.int u)] 4) T30 (mkF m 24 #[.val (.ref a1), .val (.int u), .val (.int (1 : Int32)), .unset] []) := fun t k => go29 t (st30 t k)
  have go43 : Goes p e below s₁ (entryFrame m #[(.ref a1), (.int u)] 4) T30 (mkF m 26 #[.val (.ref a1), .val (.int u), .val (.int (1 : Int32)), .unset] [(.ref a1), (.int (1 : Int32))]) := fun t k => by
    refine go42 t ?_
    refine XS.iloadN X30.here hx rfl (hb hby d11_24) rfl ?_
    refine XS.aloadN X30.here hx rfl (hb hby d11_25) rfl rfl ?_
    exact k
  obtain ⟨T44, X44, e44, st44⟩ := getF X30 hx hZ hown (host := "") (Or.inl (own_wd hw 27 rfl)) Via.refl e30 f31 (g := (mkF m 26 #[.val (.ref a1), .val (.int u), .val (.int (1 : Int32)), .unset] [(.ref a1), (.int (1 : Int32))])) rfl rfl (hb hby d11_26)
  have go45 : Goes p e below s₁ (entryFrame m #[(.ref a1), (.int u)] 4) T44 (mkF m 29 #[.val (.ref a1), .val (.int u), .val (.int (1 : Int32)), .unset] [(.int (1 : Int32)), (.int (1 : Int32))]) := fun t k => go43 t (st44 t k)
  have go46 : Goes p e below s₁ (entryFrame m #[(.ref a1), (.int u)] 4) T44 (mkF m 71 #[.val (.ref a1), .val (.int u), .val (.int (1 : Int32)), .unset] []) := fun t k => by
    refine go45 t ?_
    refine XS.icmpYes X44.here hx rfl (pc0 := 29) (pc' := 71) rfl (hb hby d11_29) rfl (Jvm.Free.XT.ii_ge_t (by decide)) (by decide) (by decide) ?_
    exact k
  obtain ⟨fs, hr, hrun, hended, hW, hsame⟩ := X44.leave (v := none) (fun _ => rfl)
  have hrm : own_rmv kf σ u (1 : Int32) (2 : Int32) = (σ.1, (own_u σ.2 u (-1 : Int32))) := if_pos rfl
  refine ⟨_, _, go46 _ ?_, hrun, hended, _, _, rfl, ?_, ⟨_, rfl⟩, hW, hsame.mono (by decide) (by decide)⟩
  · exact X44.returnOut hx Bd.returns (hb hby d11_71) hr
  · show QRm12 Z _ _ _ _ _ _ _ _ _ _ _ _ _ T44.heap _
    rw [e44]
    exact ⟨rfl, N41, K40, f32, f33, f34, f35, f31, f36, by rw [hrm]; exact f37, by rw [hrm]; exact f38⟩
theorem ef_rmRm03 (m : MethodId) (a1 : Addr) (u : Int32) : entryFrame m #[(.ref a1), (.int u)] 4 = mkF m 0 #[.val (.ref a1), .val (.int u), .unset, .unset] [] := by first | (simp [entryFrame, mkF, argsToLocals, Value.category]; done) | rfl
def QRm03 (Z : State) (a1 : Addr) (u : Int32) (aK aI aP : Addr) (kk ki kp : ClassId) (kf : Int32 → UInt64) (σ : own_P) (h0 : Heap) (n0 : Nat) (v : Option Value) (h : Heap) (L : List Loc) : Prop := v = none ∧ Fr n0 L ∧ Keep h0 h [a1, aK, aI, aP] ∧ Exa Z h a1 "com/example/covermesh/covermesh/algorithms/IndexedMinHeap" ∧ Fld Z h a1 "com/example/covermesh/covermesh/algorithms/IndexedMinHeap" "keys" "[D" (.ref aK) ∧ Fld Z h a1 "com/example/covermesh/covermesh/algorithms/IndexedMinHeap" "items" "[I" (.ref aI) ∧ Fld Z h a1 "com/example/covermesh/covermesh/algorithms/IndexedMinHeap" "positions" "[I" (.ref aP) ∧ Fld Z h a1 "com/example/covermesh/covermesh/algorithms/IndexedMinHeap" "size" "I" (.int (2 : Int32)) ∧ Arv Z h aK kk .double 3 (own_d kf) (.double (0 : UInt64)) ∧ Arv Z h aI ki .int 3 (own_l (own_rmv kf σ u (0 : Int32) (3 : Int32)).1) (.int (0 : Int32)) ∧ Arv Z h aP kp .int 3 (own_l (own_rmv kf σ u (0 : Int32) (3 : Int32)).2) (.int (0 : Int32))
set_option maxRecDepth 65536 in
set_option maxHeartbeats 40000000 in
theorem rmRm03 (l : Launch) (Z : State) (a0 : Array Value) (hw : ∀ d ∈ tables_1, d.before a0 Z = true) (ws : List Jvm.Cond) (a1 : Addr) (u : Int32) (aK aI aP : Addr) (kk ki kp : ClassId) (kf : Int32 → UInt64) (σ : own_P) (h0 : Heap) (n0 : Nat) (Z0 : n0 ≤ h0.size) (E1 : Exa Z h0 a1 "com/example/covermesh/covermesh/algorithms/IndexedMinHeap") (FK : Fld Z h0 a1 "com/example/covermesh/covermesh/algorithms/IndexedMinHeap" "keys" "[D" (.ref aK)) (FI : Fld Z h0 a1 "com/example/covermesh/covermesh/algorithms/IndexedMinHeap" "items" "[I" (.ref aI)) (FP : Fld Z h0 a1 "com/example/covermesh/covermesh/algorithms/IndexedMinHeap" "positions" "[I" (.ref aP)) (FS : Fld Z h0 a1 "com/example/covermesh/covermesh/algorithms/IndexedMinHeap" "size" "I" (.int (3 : Int32))) (VK : Arv Z h0 aK kk .double 3 (own_d kf) (.double (0 : UInt64))) (VI : Arv Z h0 aI ki .int 3 (own_l σ.1) (.int (0 : Int32))) (VP : Arv Z h0 aP kp .int 3 (own_l σ.2) (.int (0 : Int32))) (nKI : aK ≠ aI) (nKP : aK ≠ aP) (nIP : aI ≠ aP) (nAK : a1 ≠ aK) (nAI : a1 ≠ aI) (nAP : a1 ≠ aP) (gA : n0 ≤ a1) (gK : n0 ≤ aK) (gI : n0 ≤ aI) (gP : n0 ≤ aP) (Ru : own_R u) (hgu : σ.2 u = (0 : Int32)) (R0 : own_R (σ.1 (0 : Int32))) (R1 : own_R (σ.1 (1 : Int32))) (R2 : own_R (σ.1 (2 : Int32))) :
    MetFree l mN_4 (head1 (Jvm.Cond.code mN_4 prog_17_method_6_code 4 none :: ws) rO_3) (fun a U => a = #[(.ref a1), (.int u)] ∧ Z.Warmed39 U.vm ∧ U.heap = h0) (fun _ _ _ _ _ => True) (fun _ U o U' => ∃ v L, o = .returned v ∧ QRm03 Z a1 u aK aI aP kk ki kp kf σ h0 n0 v U'.heap L ∧ FrameEnd U o U' L rO_3.cells rO_3.slots) := by
  refine MetFree.of_bodySF (plainFor_of_name pn_0) hisR ?_
  intro p e s m args below meth c s₁ Bd hml0 hP hK
  obtain ⟨rfl, hZ, hh⟩ := hP
  have hx := Bd.exec
  have hby := Bd.bytes
  have hml : c.maxLocals = 4 := hml0
  have hown : s.vm.findClass "com/example/covermesh/covermesh/algorithms/IndexedMinHeap" = some m.cls := findClass_of_methodNamed Bd.named
  have hnm := (name_of_methodNamed Bd.named Bd.method).1
  have X0 : Stand p l e rO_3 s m #[(.ref a1), (.int u)] below meth c s₁ [] 0 0 := Stand.of_body Bd
  have e0 : s₁.heap = h0 := by rw [← hh, Bd.state]; rfl
  have N0 := Fr.nil n0
  have K0 := Keep.refl h0 [a1, aK, aI, aP]
  have go0 : Goes p e below s₁ (entryFrame m #[(.ref a1), (.int u)] 4) s₁ (mkF m 0 #[.val (.ref a1), .val (.int u), .unset, .unset] []) := fun t k => castTop (ef_rmRm03 m a1 u) k
  have go1 : Goes p e below s₁ (entryFrame m #[(.ref a1), (.int u)] 4) s₁ (mkF m 1 #[.val (.ref a1), .val (.int u), .unset, .unset] [(.ref a1)]) := fun t k => by
    refine go0 t ?_
    refine XS.aloadN X0.here hx rfl (hb hby d11_0) rfl rfl ?_
    exact k
  obtain ⟨T2, X2, e2, st2⟩ := getF X0 hx hZ hown (host := "") (Or.inl (own_wd hw 15 rfl)) Via.refl e0 FP (g := (mkF m 1 #[.val (.ref a1), .val (.int u), .unset, .unset] [(.ref a1)])) rfl rfl (hb hby d11_1)
  have go3 : Goes p e below s₁ (entryFrame m #[(.ref a1), (.int u)] 4) T2 (mkF m 4 #[.val (.ref a1), .val (.int u), .unset, .unset] [(.ref aP)]) := fun t k => go1 t (st2 t k)
  have go4 : Goes p e below s₁ (entryFrame m #[(.ref a1), (.int u)] 4) T2 (mkF m 5 #[.val (.ref a1), .val (.int u), .unset, .unset] [(.int u), (.ref aP)]) := fun t k => by
    refine go3 t ?_
    refine XS.iloadN X2.here hx rfl (hb hby d11_4) rfl ?_
    exact k
  obtain ⟨cl5, Ar5, kq5, Sz5, Nn5, Hs5, Gf5⟩ := id (VP)
  have hin5 : ¬ (u < 0 ∨ cl5.slots.size ≤ (u).toNatClampNeg) := inb_of Sz5 (own_inb Ru)
  have hat5 : cl5.slots[(u).toNatClampNeg]? = some (.int (σ.2 u)) := Has.at Hs5 hin5 (own_l_at Ru)
  have go6 : Goes p e below s₁ (entryFrame m #[(.ref a1), (.int u)] 4) T2 (mkF m 6 #[.val (.ref a1), .val (.int u), .unset, .unset] [(.int (σ.2 u))]) := fun t k => by
    refine go4 t ?_
    refine X2.iaload hx (j := u) (v := (.int (σ.2 u))) (own_hp e2 Ar5.1) (State.isArrayOf_alike hZ.alike Ar5.2.1) Ar5.2.2 hin5 hat5 (g := (mkF m 5 #[.val (.ref a1), .val (.int u), .unset, .unset] [(.int u), (.ref aP)])) rfl rfl (hb hby d11_5) _ ?_
    exact k
  have go7 : Goes p e below s₁ (entryFrame m #[(.ref a1), (.int u)] 4) T2 (mkF m 6 #[.val (.ref a1), .val (.int u), .unset, .unset] [(.int (0 : Int32))]) := Eq.mp (congrArg (fun zz => Goes p e below s₁ (entryFrame m #[(.ref a1), (.int u)] 4) T2 (mkF m 6 #[.val (.ref a1), .val (.int u), .unset, .unset] [(.int zz)])) hgu) go6
  have go8 : Goes p e below s₁ (entryFrame m #[(.ref a1), (.int u)] 4) T2 (mkF m 8 #[.val (.ref a1), .val (.int u), .val (.int (0 : Int32)), .unset] [(.ref a1)]) := fun t k => by
    refine go7 t ?_
    refine XS.istoreN X2.here hx rfl (hb hby d11_6) rfl (l' := #[.val (.ref a1), .val (.int u), .val (.int (0 : Int32)), .unset]) rfl ?_
    refine XS.aloadN X2.here hx rfl (hb hby d11_7) rfl rfl ?_
    exact k
  obtain ⟨T9, X9, e9, st9⟩ := getF X2 hx hZ hown (host := "") (Or.inl (own_wd hw 15 rfl)) Via.refl e2 FP (g := (mkF m 8 #[.val (.ref a1), .val (.int u), .val (.int (0 : Int32)), .unset] [(.ref a1)])) rfl rfl (hb hby d11_8)
  have go10 : Goes p e below s₁ (entryFrame m #[(.ref a1), (.int u)] 4) T9 (mkF m 11 #[.val (.ref a1), .val (.int u), .val (.int (0 : Int32)), .unset] [(.ref aP)]) := fun t k => go8 t (st9 t k)
  have go11 : Goes p e below s₁ (entryFrame m #[(.ref a1), (.int u)] 4) T9 (mkF m 13 #[.val (.ref a1), .val (.int u), .val (.int (0 : Int32)), .unset] [(.int (-1 : Int32)), (.int u), (.ref aP)]) := fun t k => by
    refine go10 t ?_
    refine XS.iloadN X9.here hx rfl (hb hby d11_11) rfl ?_
    refine XS.iconst X9.here hx rfl (hb hby d11_12) ?_
    exact k
  obtain ⟨cl12, Ar12, kq12, Sz12, Nn12, Hs12, Gf12⟩ := id (VP)
  have hin12 : ¬ (u < 0 ∨ cl12.slots.size ≤ (u).toNatClampNeg) := inb_of Sz12 (own_inb Ru)
  obtain ⟨T13, h13, X13, e13, W13, st13⟩ := stI X9 hx hZ e9 Ar12 (j := u) hin12 (g := (mkF m 13 #[.val (.ref a1), .val (.int u), .val (.int (0 : Int32)), .unset] [(.int (-1 : Int32)), (.int u), (.ref aP)])) rfl rfl (hb hby d11_13)
  have V14 : Arv Z h13 aP kp .int 3 (own_l (own_u σ.2 u (-1 : Int32))) (.int (0 : Int32)) := by rw [← own_l_set Ru]; exact Arv.set Ar12 kq12 Sz12 Nn12 Hs12 Gf12 rfl W13 _ rfl (own_l_len Ru)
  have f15 := E1.wr W13
  have f16 := FK.other W13 (Or.inl nAP)
  have f17 := FI.other W13 (Or.inl nAP)
  have f18 := FP.other W13 (Or.inl nAP)
  have f19 := FS.other W13 (Or.inl nAP)
  have f20 := VK.other W13 nKP
  have f21 := VI.other W13 nIP
  have Z22 := Nat.le_trans Z0 (Nat.le_of_eq W13.size.symm)
  have K23 := K0.wr W13 (Or.inl (List.mem_of_getElem? (i := 3) rfl))
  have N24 := Fr.snoc X13 N0 gP
  have go25 : Goes p e below s₁ (entryFrame m #[(.ref a1), (.int u)] 4) T13 (mkF m 14 #[.val (.ref a1), .val (.int u), .val (.int (0 : Int32)), .unset] []) := fun t k => go11 t (st13 t k)
  have go26 : Goes p e below s₁ (entryFrame m #[(.ref a1), (.int u)] 4) T13 (mkF m 16 #[.val (.ref a1), .val (.int u), .val (.int (0 : Int32)), .unset] [(.ref a1), (.ref a1)]) := fun t k => by
    refine go25 t ?_
    refine XS.aloadN X13.here hx rfl (hb hby d11_14) rfl rfl ?_
    refine XS.dup X13.here hx rfl (hb hby d11_15) rfl rfl ?_
    exact k
  obtain ⟨T27, X27, e27, st27⟩ := getF X13 hx hZ hown (host := "") (Or.inl (own_wd hw 27 rfl)) Via.refl e13 f19 (g := (mkF m 16 #[.val (.ref a1), .val (.int u), .val (.int (0 : Int32)), .unset] [(.ref a1), (.ref a1)])) rfl rfl (hb hby d11_16)
  have go28 : Goes p e below s₁ (entryFrame m #[(.ref a1), (.int u)] 4) T27 (mkF m 19 #[.val (.ref a1), .val (.int u), .val (.int (0 : Int32)), .unset] [(.int (3 : Int32)), (.ref a1)]) := fun t k => go26 t (st27 t k)
  have go29 : Goes p e below s₁ (entryFrame m #[(.ref a1), (.int u)] 4) T27 (mkF m 21 #[.val (.ref a1), .val (.int u), .val (.int (0 : Int32)), .unset] [(.int (2 : Int32)), (.ref a1)]) := fun t k => by
    refine go28 t ?_
    refine XS.iconst X27.here hx rfl (hb hby d11_19) ?_
    refine XS.isub X27.here hx rfl (hb hby d11_20) rfl ?_
    exact k
  obtain ⟨T30, h30, X30, e30, W30, st30⟩ := putF X27 hx hZ hown (host := "") (Or.inl (own_wd hw 27 rfl)) Via.refl e27 f19 f15 (Or.inl (own_wd hw 28 rfl)) (own_wd hw 1 rfl) (ty := .int) (by decide) rfl rfl (g := (mkF m 21 #[.val (.ref a1), .val (.int u), .val (.int (0 : Int32)), .unset] [(.int (2 : Int32)), (.ref a1)])) rfl rfl (hb hby d11_21)
  have f31 := f19.same W30
  have f32 := f15.wr W30
  have f33 := f16.other W30 (Or.inr (slot_ne (Or.inr (own_wd hw 11 rfl)) (Or.inl (own_wd hw 28 rfl)) (by decide) (t := (.array .double)) (t' := .int) (by decide) (by decide)))
  have f34 := f17.other W30 (Or.inr (slot_ne (Or.inr (own_wd hw 14 rfl)) (Or.inl (own_wd hw 28 rfl)) (by decide) (t := (.array .int)) (t' := .int) (by decide) (by decide)))
  have f35 := f18.other W30 (Or.inr (slot_ne (Or.inr (own_wd hw 16 rfl)) (Or.inl (own_wd hw 28 rfl)) (by decide) (t := (.array .int)) (t' := .int) (by decide) (by decide)))
  have f36 := f20.other W30 (Ne.symm nAK)
  have f37 := f21.other W30 (Ne.symm nAI)
  have f38 := V14.other W30 (Ne.symm nAP)
  have Z39 := Nat.le_trans Z22 (Nat.le_of_eq W30.size.symm)
  have K40 := K23.wr W30 (Or.inl (List.mem_of_getElem? (i := 0) rfl))
  have N41 := Fr.snoc X30 N24 gA
  have go42 : Goes p e below s₁ (entryFrame m #[(.ref a1), (.int u)] 4) T30 (mkF m 24 #[.val (.ref a1), .val (.int u), .val (.int (0 : Int32)), .unset] []) := fun t k => go29 t (st30 t k)
  have go43 : Goes p e below s₁ (entryFrame m #[(.ref a1), (.int u)] 4) T30 (mkF m 26 #[.val (.ref a1), .val (.int u), .val (.int (0 : Int32)), .unset] [(.ref a1), (.int (0 : Int32))]) := fun t k => by
    refine go42 t ?_
    refine XS.iloadN X30.here hx rfl (hb hby d11_24) rfl ?_
    refine XS.aloadN X30.here hx rfl (hb hby d11_25) rfl rfl ?_
    exact k
  obtain ⟨T44, X44, e44, st44⟩ := getF X30 hx hZ hown (host := "") (Or.inl (own_wd hw 27 rfl)) Via.refl e30 f31 (g := (mkF m 26 #[.val (.ref a1), .val (.int u), .val (.int (0 : Int32)), .unset] [(.ref a1), (.int (0 : Int32))])) rfl rfl (hb hby d11_26)
  have go45 : Goes p e below s₁ (entryFrame m #[(.ref a1), (.int u)] 4) T44 (mkF m 29 #[.val (.ref a1), .val (.int u), .val (.int (0 : Int32)), .unset] [(.int (2 : Int32)), (.int (0 : Int32))]) := fun t k => go43 t (st44 t k)
  have go46 : Goes p e below s₁ (entryFrame m #[(.ref a1), (.int u)] 4) T44 (mkF m 33 #[.val (.ref a1), .val (.int u), .val (.int (0 : Int32)), .unset] [(.ref a1)]) := fun t k => by
    refine go45 t ?_
    refine XS.icmpNo X44.here hx rfl (hb hby d11_29) rfl (Jvm.Free.XT.ii_ge_f (by decide)) ?_
    refine XS.aloadN X44.here hx rfl (hb hby d11_32) rfl rfl ?_
    exact k
  obtain ⟨T47, X47, e47, st47⟩ := getF X44 hx hZ hown (host := "") (Or.inl (own_wd hw 13 rfl)) Via.refl e44 f34 (g := (mkF m 33 #[.val (.ref a1), .val (.int u), .val (.int (0 : Int32)), .unset] [(.ref a1)])) rfl rfl (hb hby d11_33)
  have go48 : Goes p e below s₁ (entryFrame m #[(.ref a1), (.int u)] 4) T47 (mkF m 36 #[.val (.ref a1), .val (.int u), .val (.int (0 : Int32)), .unset] [(.ref aI)]) := fun t k => go46 t (st47 t k)
  have go49 : Goes p e below s₁ (entryFrame m #[(.ref a1), (.int u)] 4) T47 (mkF m 37 #[.val (.ref a1), .val (.int u), .val (.int (0 : Int32)), .unset] [(.ref a1), (.ref aI)]) := fun t k => by
    refine go48 t ?_
    refine XS.aloadN X47.here hx rfl (hb hby d11_36) rfl rfl ?_
    exact k
  obtain ⟨T50, X50, e50, st50⟩ := getF X47 hx hZ hown (host := "") (Or.inl (own_wd hw 27 rfl)) Via.refl e47 f31 (g := (mkF m 37 #[.val (.ref a1), .val (.int u), .val (.int (0 : Int32)), .unset] [(.ref a1), (.ref aI)])) rfl rfl (hb hby d11_37)
  have go51 : Goes p e below s₁ (entryFrame m #[(.ref a1), (.int u)] 4) T50 (mkF m 40 #[.val (.ref a1), .val (.int u), .val (.int (0 : Int32)), .unset] [(.int (2 : Int32)), (.ref aI)]) := fun t k => go49 t (st50 t k)
  obtain ⟨cl52, Ar52, kq52, Sz52, Nn52, Hs52, Gf52⟩ := id (f37)
  have hin52 : ¬ ((2 : Int32) < 0 ∨ cl52.slots.size ≤ ((2 : Int32)).toNatClampNeg) := inb_of Sz52 (own_inb own_R2)
  have hat52 : cl52.slots[((2 : Int32)).toNatClampNeg]? = some (.int (σ.1 (2 : Int32))) := Has.at Hs52 hin52 (own_l_at own_R2)
  have go53 : Goes p e below s₁ (entryFrame m #[(.ref a1), (.int u)] 4) T50 (mkF m 43 #[.val (.ref a1), .val (.int u), .val (.int (0 : Int32)), .val (.int (σ.1 (2 : Int32)))] [(.ref a1)]) := fun t k => by
    refine go51 t ?_
    refine X50.iaload hx (j := (2 : Int32)) (v := (.int (σ.1 (2 : Int32)))) (own_hp e50 Ar52.1) (State.isArrayOf_alike hZ.alike Ar52.2.1) Ar52.2.2 hin52 hat52 (g := (mkF m 40 #[.val (.ref a1), .val (.int u), .val (.int (0 : Int32)), .unset] [(.int (2 : Int32)), (.ref aI)])) rfl rfl (hb hby d11_40) _ ?_
    refine XS.istoreN X50.here hx rfl (hb hby d11_41) rfl (l' := #[.val (.ref a1), .val (.int u), .val (.int (0 : Int32)), .val (.int (σ.1 (2 : Int32)))]) rfl ?_
    refine XS.aloadN X50.here hx rfl (hb hby d11_42) rfl rfl ?_
    exact k
  obtain ⟨T54, X54, e54, st54⟩ := getF X50 hx hZ hown (host := "") (Or.inl (own_wd hw 13 rfl)) Via.refl e50 f34 (g := (mkF m 43 #[.val (.ref a1), .val (.int u), .val (.int (0 : Int32)), .val (.int (σ.1 (2 : Int32)))] [(.ref a1)])) rfl rfl (hb hby d11_43)
  have go55 : Goes p e below s₁ (entryFrame m #[(.ref a1), (.int u)] 4) T54 (mkF m 46 #[.val (.ref a1), .val (.int u), .val (.int (0 : Int32)), .val (.int (σ.1 (2 : Int32)))] [(.ref aI)]) := fun t k => go53 t (st54 t k)
  have go56 : Goes p e below s₁ (entryFrame m #[(.ref a1), (.int u)] 4) T54 (mkF m 48 #[.val (.ref a1), .val (.int u), .val (.int (0 : Int32)), .val (.int (σ.1 (2 : Int32)))] [(.int (σ.1 (2 : Int32))), (.int (0 : Int32)), (.ref aI)]) := fun t k => by
    refine go55 t ?_
    refine XS.iloadN X54.here hx rfl (hb hby d11_46) rfl ?_
    refine XS.iloadN X54.here hx rfl (hb hby d11_47) rfl ?_
    exact k
  obtain ⟨cl57, Ar57, kq57, Sz57, Nn57, Hs57, Gf57⟩ := id (f37)
  have hin57 : ¬ ((0 : Int32) < 0 ∨ cl57.slots.size ≤ ((0 : Int32)).toNatClampNeg) := inb_of Sz57 (own_inb own_R0)
  obtain ⟨T58, h58, X58, e58, W58, st58⟩ := stI X54 hx hZ e54 Ar57 (j := (0 : Int32)) hin57 (g := (mkF m 48 #[.val (.ref a1), .val (.int u), .val (.int (0 : Int32)), .val (.int (σ.1 (2 : Int32)))] [(.int (σ.1 (2 : Int32))), (.int (0 : Int32)), (.ref aI)])) rfl rfl (hb hby d11_48)
  have V59 : Arv Z h58 aI ki .int 3 (own_l (own_u σ.1 (0 : Int32) (σ.1 (2 : Int32)))) (.int (0 : Int32)) := by rw [← own_l_set own_R0]; exact Arv.set Ar57 kq57 Sz57 Nn57 Hs57 Gf57 rfl W58 _ rfl (own_l_len own_R0)
  have f60 := f32.wr W58
  have f61 := f33.other W58 (Or.inl nAI)
  have f62 := f34.other W58 (Or.inl nAI)
  have f63 := f35.other W58 (Or.inl nAI)
  have f64 := f36.other W58 nKI
  have f65 := f38.other W58 (Ne.symm nIP)
  have f66 := f31.other W58 (Or.inl nAI)
  have Z67 := Nat.le_trans Z39 (Nat.le_of_eq W58.size.symm)
  have K68 := K40.wr W58 (Or.inl (List.mem_of_getElem? (i := 2) rfl))
  have N69 := Fr.snoc X58 N41 gI
  have go70 : Goes p e below s₁ (entryFrame m #[(.ref a1), (.int u)] 4) T58 (mkF m 49 #[.val (.ref a1), .val (.int u), .val (.int (0 : Int32)), .val (.int (σ.1 (2 : Int32)))] []) := fun t k => go56 t (st58 t k)
  have go71 : Goes p e below s₁ (entryFrame m #[(.ref a1), (.int u)] 4) T58 (mkF m 50 #[.val (.ref a1), .val (.int u), .val (.int (0 : Int32)), .val (.int (σ.1 (2 : Int32)))] [(.ref a1)]) := fun t k => by
    refine go70 t ?_
    refine XS.aloadN X58.here hx rfl (hb hby d11_49) rfl rfl ?_
    exact k
  obtain ⟨T72, X72, e72, st72⟩ := getF X58 hx hZ hown (host := "") (Or.inl (own_wd hw 15 rfl)) Via.refl e58 f63 (g := (mkF m 50 #[.val (.ref a1), .val (.int u), .val (.int (0 : Int32)), .val (.int (σ.1 (2 : Int32)))] [(.ref a1)])) rfl rfl (hb hby d11_50)
  have go73 : Goes p e below s₁ (entryFrame m #[(.ref a1), (.int u)] 4) T72 (mkF m 53 #[.val (.ref a1), .val (.int u), .val (.int (0 : Int32)), .val (.int (σ.1 (2 : Int32)))] [(.ref aP)]) := fun t k => go71 t (st72 t k)
  have go74 : Goes p e below s₁ (entryFrame m #[(.ref a1), (.int u)] 4) T72 (mkF m 55 #[.val (.ref a1), .val (.int u), .val (.int (0 : Int32)), .val (.int (σ.1 (2 : Int32)))] [(.int (0 : Int32)), (.int (σ.1 (2 : Int32))), (.ref aP)]) := fun t k => by
    refine go73 t ?_
    refine XS.iloadN X72.here hx rfl (hb hby d11_53) rfl ?_
    refine XS.iloadN X72.here hx rfl (hb hby d11_54) rfl ?_
    exact k
  obtain ⟨cl75, Ar75, kq75, Sz75, Nn75, Hs75, Gf75⟩ := id (f65)
  have hin75 : ¬ ((σ.1 (2 : Int32)) < 0 ∨ cl75.slots.size ≤ ((σ.1 (2 : Int32))).toNatClampNeg) := inb_of Sz75 (own_inb R2)
  obtain ⟨T76, h76, X76, e76, W76, st76⟩ := stI X72 hx hZ e72 Ar75 (j := (σ.1 (2 : Int32))) hin75 (g := (mkF m 55 #[.val (.ref a1), .val (.int u), .val (.int (0 : Int32)), .val (.int (σ.1 (2 : Int32)))] [(.int (0 : Int32)), (.int (σ.1 (2 : Int32))), (.ref aP)])) rfl rfl (hb hby d11_55)
  have V77 : Arv Z h76 aP kp .int 3 (own_l (own_u (own_u σ.2 u (-1 : Int32)) (σ.1 (2 : Int32)) (0 : Int32))) (.int (0 : Int32)) := by rw [← own_l_set R2]; exact Arv.set Ar75 kq75 Sz75 Nn75 Hs75 Gf75 rfl W76 _ rfl (own_l_len R2)
  have f78 := f60.wr W76
  have f79 := f61.other W76 (Or.inl nAP)
  have f80 := f62.other W76 (Or.inl nAP)
  have f81 := f63.other W76 (Or.inl nAP)
  have f82 := f64.other W76 nKP
  have f83 := f66.other W76 (Or.inl nAP)
  have f84 := V59.other W76 nIP
  have Z85 := Nat.le_trans Z67 (Nat.le_of_eq W76.size.symm)
  have K86 := K68.wr W76 (Or.inl (List.mem_of_getElem? (i := 3) rfl))
  have N87 := Fr.snoc X76 N69 gP
  have go88 : Goes p e below s₁ (entryFrame m #[(.ref a1), (.int u)] 4) T76 (mkF m 56 #[.val (.ref a1), .val (.int u), .val (.int (0 : Int32)), .val (.int (σ.1 (2 : Int32)))] []) := fun t k => go74 t (st76 t k)
  have go89 : Goes p e below s₁ (entryFrame m #[(.ref a1), (.int u)] 4) T76 (mkF m 58 #[.val (.ref a1), .val (.int u), .val (.int (0 : Int32)), .val (.int (σ.1 (2 : Int32)))] [(.int (0 : Int32)), (.ref a1)]) := fun t k => by
    refine go88 t ?_
    refine XS.aloadN X76.here hx rfl (hb hby d11_56) rfl rfl ?_
    refine XS.iloadN X76.here hx rfl (hb hby d11_57) rfl ?_
    exact k
  obtain ⟨cq90, q90a, q90b⟩ := f78.cell
  obtain ⟨_, _, ⟨T90, L90, k90, n90⟩, -, X90, ⟨Lc90, hQ90, l90, y90, z90⟩, st90⟩ := X76.privateBack hx (y := mN_3) hown (mvT hZ (own_wd hw 29 rfl)) (mvT hZ (own_wd hw 30 rfl)) (own_selp (y := mN_3) (by decide) (mvT hZ (own_wd hw 1 rfl)) (mvP hZ (own_wd hw 31 rfl)) (mvT hZ (own_wd hw 30 rfl))) (Cond.privateMethod_at (mvP hZ (own_wd hw 31 rfl) (args := #[]))) (mvT hZ (own_wd hw 32 rfl)) (by decide) (backOf (W := 0) (rmU0 l Z a0 hw [] a1 aK aI aP kk ki kp kf ((own_u σ.1 (0 : Int32) (σ.1 (2 : Int32))), (own_u (own_u σ.2 u (-1 : Int32)) (σ.1 (2 : Int32)) (0 : Int32))) (2 : Int32) h76 n0 Z85 f78 f79 f80 f81 f83 f82 f84 V77 nKI nKP nIP nAK nAI nAP gA gK gI gP (show own_R (own_u σ.1 (0 : Int32) (σ.1 (2 : Int32)) (0 : Int32)) from own_u_R R2 (fun h => absurd rfl h))) hZ (own_wd hw 32 rfl) (own_wd hw 2 rfl) (by decide) (by decide)) (g := (mkF m 58 #[.val (.ref a1), .val (.int u), .val (.int (0 : Int32)), .val (.int (σ.1 (2 : Int32)))] [(.int (0 : Int32)), (.ref a1)])) rfl (by rw [hml]; rfl) (Steps.refl _) (a := a1) (by rw [e76]; exact q90a) q90b (argsL := [(.int (0 : Int32))]) (rest := []) (lenOf pd_2 rfl) rfl (by show 2 * 0 + _ ≤ _; exact Nat.le_of_eq rfl) (hb hby d11_58) (fun _ _ => ⟨rfl, e76, (by decide : 0 + 0 ≤ rO_3.cells), (by decide : 0 + 0 ≤ rO_3.slots)⟩)
  dsimp only [Pt.U, Pt.locs, Pt.cells, Pt.slots] at X90 l90 y90 z90 st90 hQ90
  subst l90 y90 z90
  obtain ⟨rfl, N90q, Kq90, VIq90, VPq90⟩ := hQ90
  have N90 := Fr.app N87 N90q
  have f91 := f78.keep Kq90
  have f92 := f79.keep Kq90 (ninS nAI (ninS nAP nin0))
  have f93 := f80.keep Kq90 (ninS nAI (ninS nAP nin0))
  have f94 := f81.keep Kq90 (ninS nAI (ninS nAP nin0))
  have f95 := f82.keep Kq90 (ninS nKI (ninS nKP nin0))
  have f96 := f83.keep Kq90 (ninS nAI (ninS nAP nin0))
  have Z97 := Nat.le_trans Z85 Kq90.1
  have K98 := K86.trans Kq90 (allS (Or.inl (List.mem_of_getElem? (i := 2) rfl)) (allS (Or.inl (List.mem_of_getElem? (i := 3) rfl)) all0))
  obtain ⟨τ90, hτ90⟩ : ∃ z, z = own_up kf ((own_u σ.1 (0 : Int32) (σ.1 (2 : Int32))), (own_u (own_u σ.2 u (-1 : Int32)) (σ.1 (2 : Int32)) (0 : Int32))) (0 : Int32) := ⟨_, rfl⟩
  rw [← hτ90] at VIq90 VPq90
  have go99 : Goes p e below s₁ (entryFrame m #[(.ref a1), (.int u)] 4) T90 (mkF m 61 #[.val (.ref a1), .val (.int u), .val (.int (0 : Int32)), .val (.int (σ.1 (2 : Int32)))] []) := fun t k => go89 t (st90.trans k)
  have go100 : Goes p e below s₁ (entryFrame m #[(.ref a1), (.int u)] 4) T90 (mkF m 63 #[.val (.ref a1), .val (.int u), .val (.int (0 : Int32)), .val (.int (σ.1 (2 : Int32)))] [(.ref a1), (.ref a1)]) := fun t k => by
    refine go99 t ?_
    refine XS.aloadN X90.here hx rfl (hb hby d11_61) rfl rfl ?_
    refine XS.aloadN X90.here hx rfl (hb hby d11_62) rfl rfl ?_
    exact k
  obtain ⟨T101, X101, e101, st101⟩ := getF X90 hx hZ hown (host := "") (Or.inl (own_wd hw 15 rfl)) Via.refl rfl f94 (g := (mkF m 63 #[.val (.ref a1), .val (.int u), .val (.int (0 : Int32)), .val (.int (σ.1 (2 : Int32)))] [(.ref a1), (.ref a1)])) rfl rfl (hb hby d11_63)
  have go102 : Goes p e below s₁ (entryFrame m #[(.ref a1), (.int u)] 4) T101 (mkF m 66 #[.val (.ref a1), .val (.int u), .val (.int (0 : Int32)), .val (.int (σ.1 (2 : Int32)))] [(.ref aP), (.ref a1)]) := fun t k => go100 t (st101 t k)
  have go103 : Goes p e below s₁ (entryFrame m #[(.ref a1), (.int u)] 4) T101 (mkF m 67 #[.val (.ref a1), .val (.int u), .val (.int (0 : Int32)), .val (.int (σ.1 (2 : Int32)))] [(.int (σ.1 (2 : Int32))), (.ref aP), (.ref a1)]) := fun t k => by
    refine go102 t ?_
    refine XS.iloadN X101.here hx rfl (hb hby d11_66) rfl ?_
    exact k
  obtain ⟨cl104, Ar104, kq104, Sz104, Nn104, Hs104, Gf104⟩ := id (VPq90)
  have hin104 : ¬ ((σ.1 (2 : Int32)) < 0 ∨ cl104.slots.size ≤ ((σ.1 (2 : Int32))).toNatClampNeg) := inb_of Sz104 (own_inb R2)
  have hat104 : cl104.slots[((σ.1 (2 : Int32))).toNatClampNeg]? = some (.int (τ90.2 (σ.1 (2 : Int32)))) := Has.at Hs104 hin104 (own_l_at R2)
  have go105 : Goes p e below s₁ (entryFrame m #[(.ref a1), (.int u)] 4) T101 (mkF m 68 #[.val (.ref a1), .val (.int u), .val (.int (0 : Int32)), .val (.int (σ.1 (2 : Int32)))] [(.int (τ90.2 (σ.1 (2 : Int32)))), (.ref a1)]) := fun t k => by
    refine go103 t ?_
    refine X101.iaload hx (j := (σ.1 (2 : Int32))) (v := (.int (τ90.2 (σ.1 (2 : Int32))))) (own_hp e101 Ar104.1) (State.isArrayOf_alike hZ.alike Ar104.2.1) Ar104.2.2 hin104 hat104 (g := (mkF m 67 #[.val (.ref a1), .val (.int u), .val (.int (0 : Int32)), .val (.int (σ.1 (2 : Int32)))] [(.int (σ.1 (2 : Int32))), (.ref aP), (.ref a1)])) rfl rfl (hb hby d11_67) _ ?_
    exact k
  have hpos : τ90.2 (σ.1 (2 : Int32)) = (0 : Int32) ∨ τ90.2 (σ.1 (2 : Int32)) = 0 := by rw [hτ90]; exact own_up_pos (show own_u σ.1 (0 : Int32) (σ.1 (2 : Int32)) (0 : Int32) = (σ.1 (2 : Int32)) from own_us)
  have hR0 : ∀ j : Int32, j < (2 : Int32) ∧ ¬ j < 0 → own_R (own_u σ.1 (0 : Int32) (σ.1 (2 : Int32)) j) := by
    intro j hj
    refine own_u_R R2 (fun _ => ?_)
    have h6 : j.toInt = 0 ∨ j.toInt = 1 := by
      have h1 := hj.1; have h2 := hj.2; rw [Int32.lt_iff_toInt_lt] at h1 h2
      have h3 : ((2 : Int32)).toInt = 2 := rfl
      have h4 : (0 : Int32).toInt = 0 := rfl
      omega
    rcases h6 with h6 | h6
    · rw [own_of_toInt h6]; exact R0
    · rw [own_of_toInt h6]; exact R1
  have hR106 : ∀ j : Int32, j < (2 : Int32) ∧ ¬ j < 0 → own_R (τ90.1 j) := fun j hj => by rw [hτ90]; exact own_up_R (hR0 (0 : Int32) (by decide)) (hR0 (0 : Int32) (by decide)) (hR0 j hj)
  have hp := hpos.elim id id
  have go107 : Goes p e below s₁ (entryFrame m #[(.ref a1), (.int u)] 4) T101 (mkF m 68 #[.val (.ref a1), .val (.int u), .val (.int (0 : Int32)), .val (.int (σ.1 (2 : Int32)))] [(.int (0 : Int32)), (.ref a1)]) := Eq.mp (congrArg (fun zz => Goes p e below s₁ (entryFrame m #[(.ref a1), (.int u)] 4) T101 (mkF m 68 #[.val (.ref a1), .val (.int u), .val (.int (0 : Int32)), .val (.int (σ.1 (2 : Int32)))] [(.int zz), (.ref a1)])) hp) go105
  obtain ⟨cq108, q108a, q108b⟩ := f91.cell
  obtain ⟨_, _, ⟨T108, L108, k108, n108⟩, -, X108, ⟨Lc108, hQ108, l108, y108, z108⟩, st108⟩ := X101.privateBack hx (y := mN_0) hown (mvT hZ (own_wd hw 37 rfl)) (mvT hZ (own_wd hw 38 rfl)) (own_selp (y := mN_0) (by decide) (mvT hZ (own_wd hw 1 rfl)) (mvP hZ (own_wd hw 39 rfl)) (mvT hZ (own_wd hw 38 rfl))) (Cond.privateMethod_at (mvP hZ (own_wd hw 39 rfl) (args := #[]))) (mvT hZ (own_wd hw 40 rfl)) (by decide) (backOf (W := 0) (rmD02 l Z a0 hw [] a1 aK aI aP kk ki kp kf τ90 T90.heap n0 Z97 f91 f92 f93 f94 f96 f95 VIq90 VPq90 nKI nKP nIP nAK nAI nAP gA gK gI gP (hR106 (0 : Int32) (by decide)) (hR106 (1 : Int32) (by decide))) hZ (own_wd hw 40 rfl) (own_wd hw 2 rfl) (by decide) (by decide)) (g := (mkF m 68 #[.val (.ref a1), .val (.int u), .val (.int (0 : Int32)), .val (.int (σ.1 (2 : Int32)))] [(.int (0 : Int32)), (.ref a1)])) rfl (by rw [hml]; rfl) (Steps.refl _) (a := a1) (by rw [e101]; exact q108a) q108b (argsL := [(.int (0 : Int32))]) (rest := []) (lenOf pd_2 rfl) rfl (by show 2 * 0 + _ ≤ _; exact Nat.le_of_eq rfl) (hb hby d11_68) (fun _ _ => ⟨rfl, e101, (by decide : 0 + 0 ≤ rO_3.cells), (by decide : 0 + 0 ≤ rO_3.slots)⟩)
  dsimp only [Pt.U, Pt.locs, Pt.cells, Pt.slots] at X108 l108 y108 z108 st108 hQ108
  subst l108 y108 z108
  obtain ⟨rfl, N108q, Kq108, VIq108, VPq108⟩ := hQ108
  have N108 := Fr.app N90 N108q
  have f109 := f91.keep Kq108
  have f110 := f92.keep Kq108 (ninS nAI (ninS nAP nin0))
  have f111 := f93.keep Kq108 (ninS nAI (ninS nAP nin0))
  have f112 := f94.keep Kq108 (ninS nAI (ninS nAP nin0))
  have f113 := f95.keep Kq108 (ninS nKI (ninS nKP nin0))
  have f114 := f96.keep Kq108 (ninS nAI (ninS nAP nin0))
  have Z115 := Nat.le_trans Z97 Kq108.1
  have K116 := K98.trans Kq108 (allS (Or.inl (List.mem_of_getElem? (i := 2) rfl)) (allS (Or.inl (List.mem_of_getElem? (i := 3) rfl)) all0))
  have go117 : Goes p e below s₁ (entryFrame m #[(.ref a1), (.int u)] 4) T108 (mkF m 71 #[.val (.ref a1), .val (.int u), .val (.int (0 : Int32)), .val (.int (σ.1 (2 : Int32)))] []) := fun t k => go107 t (st108.trans k)
  obtain ⟨fs, hr, hrun, hended, hW, hsame⟩ := X108.leave (v := none) (fun _ => rfl)
  have hrm : own_rmv kf σ u (0 : Int32) (3 : Int32) = own_dn kf τ90 (0 : Int32) (2 : Int32) := by
    refine (if_neg (by decide)).trans ?_
    show own_dn kf (own_up kf (own_u σ.1 (0 : Int32) (σ.1 (2 : Int32)), own_u (own_u σ.2 u (-1 : Int32)) (σ.1 (2 : Int32)) (0 : Int32)) (own_u (own_u σ.2 u (-1 : Int32)) (σ.1 (2 : Int32)) (0 : Int32) (σ.1 (2 : Int32)))) ((own_up kf (own_u σ.1 (0 : Int32) (σ.1 (2 : Int32)), own_u (own_u σ.2 u (-1 : Int32)) (σ.1 (2 : Int32)) (0 : Int32)) (own_u (own_u σ.2 u (-1 : Int32)) (σ.1 (2 : Int32)) (0 : Int32) (σ.1 (2 : Int32)))).2 (σ.1 (2 : Int32))) (2 : Int32) = _
    rw [own_us, ← hτ90, hp]
  refine ⟨_, _, go117 _ ?_, hrun, hended, _, _, rfl, ?_, ⟨_, rfl⟩, hW, hsame.mono (by decide) (by decide)⟩
  · exact X108.returnOut hx Bd.returns (hb hby d11_71) hr
  · show QRm03 Z _ _ _ _ _ _ _ _ _ _ _ _ _ T108.heap _
    exact ⟨rfl, N108, K116, f109, f110, f111, f112, f114, f113, by rw [hrm]; exact VIq108, by rw [hrm]; exact VPq108⟩
theorem ef_rmRm13 (m : MethodId) (a1 : Addr) (u : Int32) : entryFrame m #[(.ref a1), (.int u)] 4 = mkF m 0 #[.val (.ref a1), .val (.int u), .unset, .unset] [] := by first | (simp [entryFrame, mkF, argsToLocals, Value.category]; done) | rfl
def QRm13 (Z : State) (a1 : Addr) (u : Int32) (aK aI aP : Addr) (kk ki kp : ClassId) (kf : Int32 → UInt64) (σ : own_P) (h0 : Heap) (n0 : Nat) (v : Option Value) (h : Heap) (L : List Loc) : Prop := v = none ∧ Fr n0 L ∧ Keep h0 h [a1, aK, aI, aP] ∧ Exa Z h a1 "com/example/covermesh/covermesh/algorithms/IndexedMinHeap" ∧ Fld Z h a1 "com/example/covermesh/covermesh/algorithms/IndexedMinHeap" "keys" "[D" (.ref aK) ∧ Fld Z h a1 "com/example/covermesh/covermesh/algorithms/IndexedMinHeap" "items" "[I" (.ref aI) ∧ Fld Z h a1 "com/example/covermesh/covermesh/algorithms/IndexedMinHeap" "positions" "[I" (.ref aP) ∧ Fld Z h a1 "com/example/covermesh/covermesh/algorithms/IndexedMinHeap" "size" "I" (.int (2 : Int32)) ∧ Arv Z h aK kk .double 3 (own_d kf) (.double (0 : UInt64)) ∧ Arv Z h aI ki .int 3 (own_l (own_rmv kf σ u (1 : Int32) (3 : Int32)).1) (.int (0 : Int32)) ∧ Arv Z h aP kp .int 3 (own_l (own_rmv kf σ u (1 : Int32) (3 : Int32)).2) (.int (0 : Int32))
set_option maxRecDepth 65536 in
set_option maxHeartbeats 40000000 in
theorem rmRm13 (l : Launch) (Z : State) (a0 : Array Value) (hw : ∀ d ∈ tables_1, d.before a0 Z = true) (ws : List Jvm.Cond) (a1 : Addr) (u : Int32) (aK aI aP : Addr) (kk ki kp : ClassId) (kf : Int32 → UInt64) (σ : own_P) (h0 : Heap) (n0 : Nat) (Z0 : n0 ≤ h0.size) (E1 : Exa Z h0 a1 "com/example/covermesh/covermesh/algorithms/IndexedMinHeap") (FK : Fld Z h0 a1 "com/example/covermesh/covermesh/algorithms/IndexedMinHeap" "keys" "[D" (.ref aK)) (FI : Fld Z h0 a1 "com/example/covermesh/covermesh/algorithms/IndexedMinHeap" "items" "[I" (.ref aI)) (FP : Fld Z h0 a1 "com/example/covermesh/covermesh/algorithms/IndexedMinHeap" "positions" "[I" (.ref aP)) (FS : Fld Z h0 a1 "com/example/covermesh/covermesh/algorithms/IndexedMinHeap" "size" "I" (.int (3 : Int32))) (VK : Arv Z h0 aK kk .double 3 (own_d kf) (.double (0 : UInt64))) (VI : Arv Z h0 aI ki .int 3 (own_l σ.1) (.int (0 : Int32))) (VP : Arv Z h0 aP kp .int 3 (own_l σ.2) (.int (0 : Int32))) (nKI : aK ≠ aI) (nKP : aK ≠ aP) (nIP : aI ≠ aP) (nAK : a1 ≠ aK) (nAI : a1 ≠ aI) (nAP : a1 ≠ aP) (gA : n0 ≤ a1) (gK : n0 ≤ aK) (gI : n0 ≤ aI) (gP : n0 ≤ aP) (Ru : own_R u) (hgu : σ.2 u = (1 : Int32)) (R0 : own_R (σ.1 (0 : Int32))) (R1 : own_R (σ.1 (1 : Int32))) (R2 : own_R (σ.1 (2 : Int32))) :
    MetFree l mN_4 (head1 (Jvm.Cond.code mN_4 prog_17_method_6_code 4 none :: ws) rO_3) (fun a U => a = #[(.ref a1), (.int u)] ∧ Z.Warmed39 U.vm ∧ U.heap = h0) (fun _ _ _ _ _ => True) (fun _ U o U' => ∃ v L, o = .returned v ∧ QRm13 Z a1 u aK aI aP kk ki kp kf σ h0 n0 v U'.heap L ∧ FrameEnd U o U' L rO_3.cells rO_3.slots) := by
  refine MetFree.of_bodySF (plainFor_of_name pn_0) hisR ?_
  intro p e s m args below meth c s₁ Bd hml0 hP hK
  obtain ⟨rfl, hZ, hh⟩ := hP
  have hx := Bd.exec
  have hby := Bd.bytes
  have hml : c.maxLocals = 4 := hml0
  have hown : s.vm.findClass "com/example/covermesh/covermesh/algorithms/IndexedMinHeap" = some m.cls := findClass_of_methodNamed Bd.named
  have hnm := (name_of_methodNamed Bd.named Bd.method).1
  have X0 : Stand p l e rO_3 s m #[(.ref a1), (.int u)] below meth c s₁ [] 0 0 := Stand.of_body Bd
  have e0 : s₁.heap = h0 := by rw [← hh, Bd.state]; rfl
  have N0 := Fr.nil n0
  have K0 := Keep.refl h0 [a1, aK, aI, aP]
  have go0 : Goes p e below s₁ (entryFrame m #[(.ref a1), (.int u)] 4) s₁ (mkF m 0 #[.val (.ref a1), .val (.int u), .unset, .unset] []) := fun t k => castTop (ef_rmRm13 m a1 u) k
  have go1 : Goes p e below s₁ (entryFrame m #[(.ref a1), (.int u)] 4) s₁ (mkF m 1 #[.val (.ref a1), .val (.int u), .unset, .unset] [(.ref a1)]) := fun t k => by
    refine go0 t ?_
    refine XS.aloadN X0.here hx rfl (hb hby d11_0) rfl rfl ?_
    exact k
  obtain ⟨T2, X2, e2, st2⟩ := getF X0 hx hZ hown (host := "") (Or.inl (own_wd hw 15 rfl)) Via.refl e0 FP (g := (mkF m 1 #[.val (.ref a1), .val (.int u), .unset, .unset] [(.ref a1)])) rfl rfl (hb hby d11_1)
  have go3 : Goes p e below s₁ (entryFrame m #[(.ref a1), (.int u)] 4) T2 (mkF m 4 #[.val (.ref a1), .val (.int u), .unset, .unset] [(.ref aP)]) := fun t k => go1 t (st2 t k)
  have go4 : Goes p e below s₁ (entryFrame m #[(.ref a1), (.int u)] 4) T2 (mkF m 5 #[.val (.ref a1), .val (.int u), .unset, .unset] [(.int u), (.ref aP)]) := fun t k => by
    refine go3 t ?_
    refine XS.iloadN X2.here hx rfl (hb hby d11_4) rfl ?_
    exact k
  obtain ⟨cl5, Ar5, kq5, Sz5, Nn5, Hs5, Gf5⟩ := id (VP)
  have hin5 : ¬ (u < 0 ∨ cl5.slots.size ≤ (u).toNatClampNeg) := inb_of Sz5 (own_inb Ru)
  have hat5 : cl5.slots[(u).toNatClampNeg]? = some (.int (σ.2 u)) := Has.at Hs5 hin5 (own_l_at Ru)
  have go6 : Goes p e below s₁ (entryFrame m #[(.ref a1), (.int u)] 4) T2 (mkF m 6 #[.val (.ref a1), .val (.int u), .unset, .unset] [(.int (σ.2 u))]) := fun t k => by
    refine go4 t ?_
    refine X2.iaload hx (j := u) (v := (.int (σ.2 u))) (own_hp e2 Ar5.1) (State.isArrayOf_alike hZ.alike Ar5.2.1) Ar5.2.2 hin5 hat5 (g := (mkF m 5 #[.val (.ref a1), .val (.int u), .unset, .unset] [(.int u), (.ref aP)])) rfl rfl (hb hby d11_5) _ ?_
    exact k
  have go7 : Goes p e below s₁ (entryFrame m #[(.ref a1), (.int u)] 4) T2 (mkF m 6 #[.val (.ref a1), .val (.int u), .unset, .unset] [(.int (1 : Int32))]) := Eq.mp (congrArg (fun zz => Goes p e below s₁ (entryFrame m #[(.ref a1), (.int u)] 4) T2 (mkF m 6 #[.val (.ref a1), .val (.int u), .unset, .unset] [(.int zz)])) hgu) go6
  have go8 : Goes p e below s₁ (entryFrame m #[(.ref a1), (.int u)] 4) T2 (mkF m 8 #[.val (.ref a1), .val (.int u), .val (.int (1 : Int32)), .unset] [(.ref a1)]) := fun t k => by
    refine go7 t ?_
    refine XS.istoreN X2.here hx rfl (hb hby d11_6) rfl (l' := #[.val (.ref a1), .val (.int u), .val (.int (1 : Int32)), .unset]) rfl ?_
    refine XS.aloadN X2.here hx rfl (hb hby d11_7) rfl rfl ?_
    exact k
  obtain ⟨T9, X9, e9, st9⟩ := getF X2 hx hZ hown (host := "") (Or.inl (own_wd hw 15 rfl)) Via.refl e2 FP (g := (mkF m 8 #[.val (.ref a1), .val (.int u), .val (.int (1 : Int32)), .unset] [(.ref a1)])) rfl rfl (hb hby d11_8)
  have go10 : Goes p e below s₁ (entryFrame m #[(.ref a1), (.int u)] 4) T9 (mkF m 11 #[.val (.ref a1), .val (.int u), .val (.int (1 : Int32)), .unset] [(.ref aP)]) := fun t k => go8 t (st9 t k)
  have go11 : Goes p e below s₁ (entryFrame m #[(.ref a1), (.int u)] 4) T9 (mkF m 13 #[.val (.ref a1), .val (.int u), .val (.int (1 : Int32)), .unset] [(.int (-1 : Int32)), (.int u), (.ref aP)]) := fun t k => by
    refine go10 t ?_
    refine XS.iloadN X9.here hx rfl (hb hby d11_11) rfl ?_
    refine XS.iconst X9.here hx rfl (hb hby d11_12) ?_
    exact k
  obtain ⟨cl12, Ar12, kq12, Sz12, Nn12, Hs12, Gf12⟩ := id (VP)
  have hin12 : ¬ (u < 0 ∨ cl12.slots.size ≤ (u).toNatClampNeg) := inb_of Sz12 (own_inb Ru)
  obtain ⟨T13, h13, X13, e13, W13, st13⟩ := stI X9 hx hZ e9 Ar12 (j := u) hin12 (g := (mkF m 13 #[.val (.ref a1), .val (.int u), .val (.int (1 : Int32)), .unset] [(.int (-1 : Int32)), (.int u), (.ref aP)])) rfl rfl (hb hby d11_13)
  have V14 : Arv Z h13 aP kp .int 3 (own_l (own_u σ.2 u (-1 : Int32))) (.int (0 : Int32)) := by rw [← own_l_set Ru]; exact Arv.set Ar12 kq12 Sz12 Nn12 Hs12 Gf12 rfl W13 _ rfl (own_l_len Ru)
  have f15 := E1.wr W13
  have f16 := FK.other W13 (Or.inl nAP)
  have f17 := FI.other W13 (Or.inl nAP)
  have f18 := FP.other W13 (Or.inl nAP)
  have f19 := FS.other W13 (Or.inl nAP)
  have f20 := VK.other W13 nKP
  have f21 := VI.other W13 nIP
  have Z22 := Nat.le_trans Z0 (Nat.le_of_eq W13.size.symm)
  have K23 := K0.wr W13 (Or.inl (List.mem_of_getElem? (i := 3) rfl))
  have N24 := Fr.snoc X13 N0 gP
  have go25 : Goes p e below s₁ (entryFrame m #[(.ref a1), (.int u)] 4) T13 (mkF m 14 #[.val (.ref a1), .val (.int u), .val (.int (1 : Int32)), .unset] []) := fun t k => go11 t (st13 t k)
  have go26 : Goes p e below s₁ (entryFrame m #[(.ref a1), (.int u)] 4) T13 (mkF m 16 #[.val (.ref a1), .val (.int u), .val (.int (1 : Int32)), .unset] [(.ref a1), (.ref a1)]) := fun t k => by
    refine go25 t ?_
    refine XS.aloadN X13.here hx rfl (hb hby d11_14) rfl rfl ?_
    refine XS.dup X13.here hx rfl (hb hby d11_15) rfl rfl ?_
    exact k
  obtain ⟨T27, X27, e27, st27⟩ := getF X13 hx hZ hown (host := "") (Or.inl (own_wd hw 27 rfl)) Via.refl e13 f19 (g := (mkF m 16 #[.val (.ref a1), .val (.int u), .val (.int (1 : Int32)), .unset] [(.ref a1), (.ref a1)])) rfl rfl (hb hby d11_16)
  have go28 : Goes p e below s₁ (entryFrame m #[(.ref a1), (.int u)] 4) T27 (mkF m 19 #[.val (.ref a1), .val (.int u), .val (.int (1 : Int32)), .unset] [(.int (3 : Int32)), (.ref a1)]) := fun t k => go26 t (st27 t k)
  have go29 : Goes p e below s₁ (entryFrame m #[(.ref a1), (.int u)] 4) T27 (mkF m 21 #[.val (.ref a1), .val (.int u), .val (.int (1 : Int32)), .unset] [(.int (2 : Int32)), (.ref a1)]) := fun t k => by
    refine go28 t ?_
    refine XS.iconst X27.here hx rfl (hb hby d11_19) ?_
    refine XS.isub X27.here hx rfl (hb hby d11_20) rfl ?_
    exact k
  obtain ⟨T30, h30, X30, e30, W30, st30⟩ := putF X27 hx hZ hown (host := "") (Or.inl (own_wd hw 27 rfl)) Via.refl e27 f19 f15 (Or.inl (own_wd hw 28 rfl)) (own_wd hw 1 rfl) (ty := .int) (by decide) rfl rfl (g := (mkF m 21 #[.val (.ref a1), .val (.int u), .val (.int (1 : Int32)), .unset] [(.int (2 : Int32)), (.ref a1)])) rfl rfl (hb hby d11_21)
  have f31 := f19.same W30
  have f32 := f15.wr W30
  have f33 := f16.other W30 (Or.inr (slot_ne (Or.inr (own_wd hw 11 rfl)) (Or.inl (own_wd hw 28 rfl)) (by decide) (t := (.array .double)) (t' := .int) (by decide) (by decide)))
  have f34 := f17.other W30 (Or.inr (slot_ne (Or.inr (own_wd hw 14 rfl)) (Or.inl (own_wd hw 28 rfl)) (by decide) (t := (.array .int)) (t' := .int) (by decide) (by decide)))
  have f35 := f18.other W30 (Or.inr (slot_ne (Or.inr (own_wd hw 16 rfl)) (Or.inl (own_wd hw 28 rfl)) (by decide) (t := (.array .int)) (t' := .int) (by decide) (by decide)))
  have f36 := f20.other W30 (Ne.symm nAK)
  have f37 := f21.other W30 (Ne.symm nAI)
  have f38 := V14.other W30 (Ne.symm nAP)
  have Z39 := Nat.le_trans Z22 (Nat.le_of_eq W30.size.symm)
  have K40 := K23.wr W30 (Or.inl (List.mem_of_getElem? (i := 0) rfl))
  have N41 := Fr.snoc X30 N24 gA
  have go42 : Goes p e below s₁ (entryFrame m #[(.ref a1), (.int u)] 4) T30 (mkF m 24 #[.val (.ref a1), .val (.int u), .val (.int (1 : Int32)), .unset] []) := fun t k => go29 t (st30 t k)
  have go43 : Goes p e below s₁ (entryFrame m #[(.ref a1), (.int u)] 4) T30 (mkF m 26 #[.val (.ref a1), .val (.int u), .val (.int (1 : Int32)), .unset] [(.ref a1), (.int (1 : Int32))]) := fun t k => by
    refine go42 t ?_
    refine XS.iloadN X30.here hx rfl (hb hby d11_24) rfl ?_
    refine XS.aloadN X30.here hx rfl (hb hby d11_25) rfl rfl ?_
    exact k
  obtain ⟨T44, X44, e44, st44⟩ := getF X30 hx hZ hown (host := "") (Or.inl (own_wd hw 27 rfl)) Via.refl e30 f31 (g := (mkF m 26 #[.val (.ref a1), .val (.int u), .val (.int (1 : Int32)), .unset] [(.ref a1), (.int (1 : Int32))])) rfl rfl (hb hby d11_26)
  have go45 : Goes p e below s₁ (entryFrame m #[(.ref a1), (.int u)] 4) T44 (mkF m 29 #[.val (.ref a1), .val (.int u), .val (.int (1 : Int32)), .unset] [(.int (2 : Int32)), (.int (1 : Int32))]) := fun t k => go43 t (st44 t k)
  have go46 : Goes p e below s₁ (entryFrame m #[(.ref a1), (.int u)] 4) T44 (mkF m 33 #[.val (.ref a1), .val (.int u), .val (.int (1 : Int32)), .unset] [(.ref a1)]) := fun t k => by
    refine go45 t ?_
    refine XS.icmpNo X44.here hx rfl (hb hby d11_29) rfl (Jvm.Free.XT.ii_ge_f (by decide)) ?_
    refine XS.aloadN X44.here hx rfl (hb hby d11_32) rfl rfl ?_
    exact k
  obtain ⟨T47, X47, e47, st47⟩ := getF X44 hx hZ hown (host := "") (Or.inl (own_wd hw 13 rfl)) Via.refl e44 f34 (g := (mkF m 33 #[.val (.ref a1), .val (.int u), .val (.int (1 : Int32)), .unset] [(.ref a1)])) rfl rfl (hb hby d11_33)
  have go48 : Goes p e below s₁ (entryFrame m #[(.ref a1), (.int u)] 4) T47 (mkF m 36 #[.val (.ref a1), .val (.int u), .val (.int (1 : Int32)), .unset] [(.ref aI)]) := fun t k => go46 t (st47 t k)
  have go49 : Goes p e below s₁ (entryFrame m #[(.ref a1), (.int u)] 4) T47 (mkF m 37 #[.val (.ref a1), .val (.int u), .val (.int (1 : Int32)), .unset] [(.ref a1), (.ref aI)]) := fun t k => by
    refine go48 t ?_
    refine XS.aloadN X47.here hx rfl (hb hby d11_36) rfl rfl ?_
    exact k
  obtain ⟨T50, X50, e50, st50⟩ := getF X47 hx hZ hown (host := "") (Or.inl (own_wd hw 27 rfl)) Via.refl e47 f31 (g := (mkF m 37 #[.val (.ref a1), .val (.int u), .val (.int (1 : Int32)), .unset] [(.ref a1), (.ref aI)])) rfl rfl (hb hby d11_37)
  have go51 : Goes p e below s₁ (entryFrame m #[(.ref a1), (.int u)] 4) T50 (mkF m 40 #[.val (.ref a1), .val (.int u), .val (.int (1 : Int32)), .unset] [(.int (2 : Int32)), (.ref aI)]) := fun t k => go49 t (st50 t k)
  obtain ⟨cl52, Ar52, kq52, Sz52, Nn52, Hs52, Gf52⟩ := id (f37)
  have hin52 : ¬ ((2 : Int32) < 0 ∨ cl52.slots.size ≤ ((2 : Int32)).toNatClampNeg) := inb_of Sz52 (own_inb own_R2)
  have hat52 : cl52.slots[((2 : Int32)).toNatClampNeg]? = some (.int (σ.1 (2 : Int32))) := Has.at Hs52 hin52 (own_l_at own_R2)
  have go53 : Goes p e below s₁ (entryFrame m #[(.ref a1), (.int u)] 4) T50 (mkF m 43 #[.val (.ref a1), .val (.int u), .val (.int (1 : Int32)), .val (.int (σ.1 (2 : Int32)))] [(.ref a1)]) := fun t k => by
    refine go51 t ?_
    refine X50.iaload hx (j := (2 : Int32)) (v := (.int (σ.1 (2 : Int32)))) (own_hp e50 Ar52.1) (State.isArrayOf_alike hZ.alike Ar52.2.1) Ar52.2.2 hin52 hat52 (g := (mkF m 40 #[.val (.ref a1), .val (.int u), .val (.int (1 : Int32)), .unset] [(.int (2 : Int32)), (.ref aI)])) rfl rfl (hb hby d11_40) _ ?_
    refine XS.istoreN X50.here hx rfl (hb hby d11_41) rfl (l' := #[.val (.ref a1), .val (.int u), .val (.int (1 : Int32)), .val (.int (σ.1 (2 : Int32)))]) rfl ?_
    refine XS.aloadN X50.here hx rfl (hb hby d11_42) rfl rfl ?_
    exact k
  obtain ⟨T54, X54, e54, st54⟩ := getF X50 hx hZ hown (host := "") (Or.inl (own_wd hw 13 rfl)) Via.refl e50 f34 (g := (mkF m 43 #[.val (.ref a1), .val (.int u), .val (.int (1 : Int32)), .val (.int (σ.1 (2 : Int32)))] [(.ref a1)])) rfl rfl (hb hby d11_43)
  have go55 : Goes p e below s₁ (entryFrame m #[(.ref a1), (.int u)] 4) T54 (mkF m 46 #[.val (.ref a1), .val (.int u), .val (.int (1 : Int32)), .val (.int (σ.1 (2 : Int32)))] [(.ref aI)]) := fun t k => go53 t (st54 t k)
  have go56 : Goes p e below s₁ (entryFrame m #[(.ref a1), (.int u)] 4) T54 (mkF m 48 #[.val (.ref a1), .val (.int u), .val (.int (1 : Int32)), .val (.int (σ.1 (2 : Int32)))] [(.int (σ.1 (2 : Int32))), (.int (1 : Int32)), (.ref aI)]) := fun t k => by
    refine go55 t ?_
    refine XS.iloadN X54.here hx rfl (hb hby d11_46) rfl ?_
    refine XS.iloadN X54.here hx rfl (hb hby d11_47) rfl ?_
    exact k
  obtain ⟨cl57, Ar57, kq57, Sz57, Nn57, Hs57, Gf57⟩ := id (f37)
  have hin57 : ¬ ((1 : Int32) < 0 ∨ cl57.slots.size ≤ ((1 : Int32)).toNatClampNeg) := inb_of Sz57 (own_inb own_R1)
  obtain ⟨T58, h58, X58, e58, W58, st58⟩ := stI X54 hx hZ e54 Ar57 (j := (1 : Int32)) hin57 (g := (mkF m 48 #[.val (.ref a1), .val (.int u), .val (.int (1 : Int32)), .val (.int (σ.1 (2 : Int32)))] [(.int (σ.1 (2 : Int32))), (.int (1 : Int32)), (.ref aI)])) rfl rfl (hb hby d11_48)
  have V59 : Arv Z h58 aI ki .int 3 (own_l (own_u σ.1 (1 : Int32) (σ.1 (2 : Int32)))) (.int (0 : Int32)) := by rw [← own_l_set own_R1]; exact Arv.set Ar57 kq57 Sz57 Nn57 Hs57 Gf57 rfl W58 _ rfl (own_l_len own_R1)
  have f60 := f32.wr W58
  have f61 := f33.other W58 (Or.inl nAI)
  have f62 := f34.other W58 (Or.inl nAI)
  have f63 := f35.other W58 (Or.inl nAI)
  have f64 := f36.other W58 nKI
  have f65 := f38.other W58 (Ne.symm nIP)
  have f66 := f31.other W58 (Or.inl nAI)
  have Z67 := Nat.le_trans Z39 (Nat.le_of_eq W58.size.symm)
  have K68 := K40.wr W58 (Or.inl (List.mem_of_getElem? (i := 2) rfl))
  have N69 := Fr.snoc X58 N41 gI
  have go70 : Goes p e below s₁ (entryFrame m #[(.ref a1), (.int u)] 4) T58 (mkF m 49 #[.val (.ref a1), .val (.int u), .val (.int (1 : Int32)), .val (.int (σ.1 (2 : Int32)))] []) := fun t k => go56 t (st58 t k)
  have go71 : Goes p e below s₁ (entryFrame m #[(.ref a1), (.int u)] 4) T58 (mkF m 50 #[.val (.ref a1), .val (.int u), .val (.int (1 : Int32)), .val (.int (σ.1 (2 : Int32)))] [(.ref a1)]) := fun t k => by
    refine go70 t ?_
    refine XS.aloadN X58.here hx rfl (hb hby d11_49) rfl rfl ?_
    exact k
  obtain ⟨T72, X72, e72, st72⟩ := getF X58 hx hZ hown (host := "") (Or.inl (own_wd hw 15 rfl)) Via.refl e58 f63 (g := (mkF m 50 #[.val (.ref a1), .val (.int u), .val (.int (1 : Int32)), .val (.int (σ.1 (2 : Int32)))] [(.ref a1)])) rfl rfl (hb hby d11_50)
  have go73 : Goes p e below s₁ (entryFrame m #[(.ref a1), (.int u)] 4) T72 (mkF m 53 #[.val (.ref a1), .val (.int u), .val (.int (1 : Int32)), .val (.int (σ.1 (2 : Int32)))] [(.ref aP)]) := fun t k => go71 t (st72 t k)
  have go74 : Goes p e below s₁ (entryFrame m #[(.ref a1), (.int u)] 4) T72 (mkF m 55 #[.val (.ref a1), .val (.int u), .val (.int (1 : Int32)), .val (.int (σ.1 (2 : Int32)))] [(.int (1 : Int32)), (.int (σ.1 (2 : Int32))), (.ref aP)]) := fun t k => by
    refine go73 t ?_
    refine XS.iloadN X72.here hx rfl (hb hby d11_53) rfl ?_
    refine XS.iloadN X72.here hx rfl (hb hby d11_54) rfl ?_
    exact k
  obtain ⟨cl75, Ar75, kq75, Sz75, Nn75, Hs75, Gf75⟩ := id (f65)
  have hin75 : ¬ ((σ.1 (2 : Int32)) < 0 ∨ cl75.slots.size ≤ ((σ.1 (2 : Int32))).toNatClampNeg) := inb_of Sz75 (own_inb R2)
  obtain ⟨T76, h76, X76, e76, W76, st76⟩ := stI X72 hx hZ e72 Ar75 (j := (σ.1 (2 : Int32))) hin75 (g := (mkF m 55 #[.val (.ref a1), .val (.int u), .val (.int (1 : Int32)), .val (.int (σ.1 (2 : Int32)))] [(.int (1 : Int32)), (.int (σ.1 (2 : Int32))), (.ref aP)])) rfl rfl (hb hby d11_55)
  have V77 : Arv Z h76 aP kp .int 3 (own_l (own_u (own_u σ.2 u (-1 : Int32)) (σ.1 (2 : Int32)) (1 : Int32))) (.int (0 : Int32)) := by rw [← own_l_set R2]; exact Arv.set Ar75 kq75 Sz75 Nn75 Hs75 Gf75 rfl W76 _ rfl (own_l_len R2)
  have f78 := f60.wr W76
  have f79 := f61.other W76 (Or.inl nAP)
  have f80 := f62.other W76 (Or.inl nAP)
  have f81 := f63.other W76 (Or.inl nAP)
  have f82 := f64.other W76 nKP
  have f83 := f66.other W76 (Or.inl nAP)
  have f84 := V59.other W76 nIP
  have Z85 := Nat.le_trans Z67 (Nat.le_of_eq W76.size.symm)
  have K86 := K68.wr W76 (Or.inl (List.mem_of_getElem? (i := 3) rfl))
  have N87 := Fr.snoc X76 N69 gP
  have go88 : Goes p e below s₁ (entryFrame m #[(.ref a1), (.int u)] 4) T76 (mkF m 56 #[.val (.ref a1), .val (.int u), .val (.int (1 : Int32)), .val (.int (σ.1 (2 : Int32)))] []) := fun t k => go74 t (st76 t k)
  have go89 : Goes p e below s₁ (entryFrame m #[(.ref a1), (.int u)] 4) T76 (mkF m 58 #[.val (.ref a1), .val (.int u), .val (.int (1 : Int32)), .val (.int (σ.1 (2 : Int32)))] [(.int (1 : Int32)), (.ref a1)]) := fun t k => by
    refine go88 t ?_
    refine XS.aloadN X76.here hx rfl (hb hby d11_56) rfl rfl ?_
    refine XS.iloadN X76.here hx rfl (hb hby d11_57) rfl ?_
    exact k
  obtain ⟨cq90, q90a, q90b⟩ := f78.cell
  obtain ⟨_, _, ⟨T90, L90, k90, n90⟩, -, X90, ⟨Lc90, hQ90, l90, y90, z90⟩, st90⟩ := X76.privateBack hx (y := mN_3) hown (mvT hZ (own_wd hw 29 rfl)) (mvT hZ (own_wd hw 30 rfl)) (own_selp (y := mN_3) (by decide) (mvT hZ (own_wd hw 1 rfl)) (mvP hZ (own_wd hw 31 rfl)) (mvT hZ (own_wd hw 30 rfl))) (Cond.privateMethod_at (mvP hZ (own_wd hw 31 rfl) (args := #[]))) (mvT hZ (own_wd hw 32 rfl)) (by decide) (backOf (W := 0) (rmU1 l Z a0 hw [] a1 aK aI aP kk ki kp kf ((own_u σ.1 (1 : Int32) (σ.1 (2 : Int32))), (own_u (own_u σ.2 u (-1 : Int32)) (σ.1 (2 : Int32)) (1 : Int32))) (2 : Int32) h76 n0 Z85 f78 f79 f80 f81 f83 f82 f84 V77 nKI nKP nIP nAK nAI nAP gA gK gI gP (show own_R (own_u σ.1 (1 : Int32) (σ.1 (2 : Int32)) (1 : Int32)) from own_u_R R2 (fun h => absurd rfl h)) (show own_R (own_u σ.1 (1 : Int32) (σ.1 (2 : Int32)) (0 : Int32)) from own_u_R R2 (fun _ => R0))) hZ (own_wd hw 32 rfl) (own_wd hw 2 rfl) (by decide) (by decide)) (g := (mkF m 58 #[.val (.ref a1), .val (.int u), .val (.int (1 : Int32)), .val (.int (σ.1 (2 : Int32)))] [(.int (1 : Int32)), (.ref a1)])) rfl (by rw [hml]; rfl) (Steps.refl _) (a := a1) (by rw [e76]; exact q90a) q90b (argsL := [(.int (1 : Int32))]) (rest := []) (lenOf pd_2 rfl) rfl (by show 2 * 0 + _ ≤ _; exact Nat.le_of_eq rfl) (hb hby d11_58) (fun _ _ => ⟨rfl, e76, (by decide : 0 + 0 ≤ rO_3.cells), (by decide : 0 + 0 ≤ rO_3.slots)⟩)
  dsimp only [Pt.U, Pt.locs, Pt.cells, Pt.slots] at X90 l90 y90 z90 st90 hQ90
  subst l90 y90 z90
  obtain ⟨rfl, N90q, Kq90, VIq90, VPq90⟩ := hQ90
  have N90 := Fr.app N87 N90q
  have f91 := f78.keep Kq90
  have f92 := f79.keep Kq90 (ninS nAI (ninS nAP nin0))
  have f93 := f80.keep Kq90 (ninS nAI (ninS nAP nin0))
  have f94 := f81.keep Kq90 (ninS nAI (ninS nAP nin0))
  have f95 := f82.keep Kq90 (ninS nKI (ninS nKP nin0))
  have f96 := f83.keep Kq90 (ninS nAI (ninS nAP nin0))
  have Z97 := Nat.le_trans Z85 Kq90.1
  have K98 := K86.trans Kq90 (allS (Or.inl (List.mem_of_getElem? (i := 2) rfl)) (allS (Or.inl (List.mem_of_getElem? (i := 3) rfl)) all0))
  obtain ⟨τ90, hτ90⟩ : ∃ z, z = own_up kf ((own_u σ.1 (1 : Int32) (σ.1 (2 : Int32))), (own_u (own_u σ.2 u (-1 : Int32)) (σ.1 (2 : Int32)) (1 : Int32))) (1 : Int32) := ⟨_, rfl⟩
  rw [← hτ90] at VIq90 VPq90
  have go99 : Goes p e below s₁ (entryFrame m #[(.ref a1), (.int u)] 4) T90 (mkF m 61 #[.val (.ref a1), .val (.int u), .val (.int (1 : Int32)), .val (.int (σ.1 (2 : Int32)))] []) := fun t k => go89 t (st90.trans k)
  have go100 : Goes p e below s₁ (entryFrame m #[(.ref a1), (.int u)] 4) T90 (mkF m 63 #[.val (.ref a1), .val (.int u), .val (.int (1 : Int32)), .val (.int (σ.1 (2 : Int32)))] [(.ref a1), (.ref a1)]) := fun t k => by
    refine go99 t ?_
    refine XS.aloadN X90.here hx rfl (hb hby d11_61) rfl rfl ?_
    refine XS.aloadN X90.here hx rfl (hb hby d11_62) rfl rfl ?_
    exact k
  obtain ⟨T101, X101, e101, st101⟩ := getF X90 hx hZ hown (host := "") (Or.inl (own_wd hw 15 rfl)) Via.refl rfl f94 (g := (mkF m 63 #[.val (.ref a1), .val (.int u), .val (.int (1 : Int32)), .val (.int (σ.1 (2 : Int32)))] [(.ref a1), (.ref a1)])) rfl rfl (hb hby d11_63)
  have go102 : Goes p e below s₁ (entryFrame m #[(.ref a1), (.int u)] 4) T101 (mkF m 66 #[.val (.ref a1), .val (.int u), .val (.int (1 : Int32)), .val (.int (σ.1 (2 : Int32)))] [(.ref aP), (.ref a1)]) := fun t k => go100 t (st101 t k)
  have go103 : Goes p e below s₁ (entryFrame m #[(.ref a1), (.int u)] 4) T101 (mkF m 67 #[.val (.ref a1), .val (.int u), .val (.int (1 : Int32)), .val (.int (σ.1 (2 : Int32)))] [(.int (σ.1 (2 : Int32))), (.ref aP), (.ref a1)]) := fun t k => by
    refine go102 t ?_
    refine XS.iloadN X101.here hx rfl (hb hby d11_66) rfl ?_
    exact k
  obtain ⟨cl104, Ar104, kq104, Sz104, Nn104, Hs104, Gf104⟩ := id (VPq90)
  have hin104 : ¬ ((σ.1 (2 : Int32)) < 0 ∨ cl104.slots.size ≤ ((σ.1 (2 : Int32))).toNatClampNeg) := inb_of Sz104 (own_inb R2)
  have hat104 : cl104.slots[((σ.1 (2 : Int32))).toNatClampNeg]? = some (.int (τ90.2 (σ.1 (2 : Int32)))) := Has.at Hs104 hin104 (own_l_at R2)
  have go105 : Goes p e below s₁ (entryFrame m #[(.ref a1), (.int u)] 4) T101 (mkF m 68 #[.val (.ref a1), .val (.int u), .val (.int (1 : Int32)), .val (.int (σ.1 (2 : Int32)))] [(.int (τ90.2 (σ.1 (2 : Int32)))), (.ref a1)]) := fun t k => by
    refine go103 t ?_
    refine X101.iaload hx (j := (σ.1 (2 : Int32))) (v := (.int (τ90.2 (σ.1 (2 : Int32))))) (own_hp e101 Ar104.1) (State.isArrayOf_alike hZ.alike Ar104.2.1) Ar104.2.2 hin104 hat104 (g := (mkF m 67 #[.val (.ref a1), .val (.int u), .val (.int (1 : Int32)), .val (.int (σ.1 (2 : Int32)))] [(.int (σ.1 (2 : Int32))), (.ref aP), (.ref a1)])) rfl rfl (hb hby d11_67) _ ?_
    exact k
  have hpos : τ90.2 (σ.1 (2 : Int32)) = (1 : Int32) ∨ τ90.2 (σ.1 (2 : Int32)) = 0 := by rw [hτ90]; exact own_up_pos (show own_u σ.1 (1 : Int32) (σ.1 (2 : Int32)) (1 : Int32) = (σ.1 (2 : Int32)) from own_us)
  have hR0 : ∀ j : Int32, j < (2 : Int32) ∧ ¬ j < 0 → own_R (own_u σ.1 (1 : Int32) (σ.1 (2 : Int32)) j) := by
    intro j hj
    refine own_u_R R2 (fun _ => ?_)
    have h6 : j.toInt = 0 ∨ j.toInt = 1 := by
      have h1 := hj.1; have h2 := hj.2; rw [Int32.lt_iff_toInt_lt] at h1 h2
      have h3 : ((2 : Int32)).toInt = 2 := rfl
      have h4 : (0 : Int32).toInt = 0 := rfl
      omega
    rcases h6 with h6 | h6
    · rw [own_of_toInt h6]; exact R0
    · rw [own_of_toInt h6]; exact R1
  have hR106 : ∀ j : Int32, j < (2 : Int32) ∧ ¬ j < 0 → own_R (τ90.1 j) := fun j hj => by rw [hτ90]; exact own_up_R (hR0 (1 : Int32) (by decide)) (hR0 (0 : Int32) (by decide)) (hR0 j hj)
  rcases hpos with hp | hp
  · have go107 : Goes p e below s₁ (entryFrame m #[(.ref a1), (.int u)] 4) T101 (mkF m 68 #[.val (.ref a1), .val (.int u), .val (.int (1 : Int32)), .val (.int (σ.1 (2 : Int32)))] [(.int (1 : Int32)), (.ref a1)]) := Eq.mp (congrArg (fun zz => Goes p e below s₁ (entryFrame m #[(.ref a1), (.int u)] 4) T101 (mkF m 68 #[.val (.ref a1), .val (.int u), .val (.int (1 : Int32)), .val (.int (σ.1 (2 : Int32)))] [(.int zz), (.ref a1)])) hp) go105
    obtain ⟨cq108, q108a, q108b⟩ := f91.cell
    obtain ⟨_, _, ⟨T108, L108, k108, n108⟩, -, X108, ⟨Lc108, hQ108, l108, y108, z108⟩, st108⟩ := X101.privateBack hx (y := mN_0) hown (mvT hZ (own_wd hw 37 rfl)) (mvT hZ (own_wd hw 38 rfl)) (own_selp (y := mN_0) (by decide) (mvT hZ (own_wd hw 1 rfl)) (mvP hZ (own_wd hw 39 rfl)) (mvT hZ (own_wd hw 38 rfl))) (Cond.privateMethod_at (mvP hZ (own_wd hw 39 rfl) (args := #[]))) (mvT hZ (own_wd hw 40 rfl)) (by decide) (backOf (W := 0) (rmD12 l Z a0 hw [] a1 aK aI aP kk ki kp kf τ90 T90.heap n0 Z97 f91 f92 f93 f94 f96 f95 VIq90 VPq90 nKI nKP nIP nAK nAI nAP gA gK gI gP (hR106 (1 : Int32) (by decide))) hZ (own_wd hw 40 rfl) (own_wd hw 2 rfl) (by decide) (by decide)) (g := (mkF m 68 #[.val (.ref a1), .val (.int u), .val (.int (1 : Int32)), .val (.int (σ.1 (2 : Int32)))] [(.int (1 : Int32)), (.ref a1)])) rfl (by rw [hml]; rfl) (Steps.refl _) (a := a1) (by rw [e101]; exact q108a) q108b (argsL := [(.int (1 : Int32))]) (rest := []) (lenOf pd_2 rfl) rfl (by show 2 * 0 + _ ≤ _; exact Nat.le_of_eq rfl) (hb hby d11_68) (fun _ _ => ⟨rfl, e101, (by decide : 0 + 0 ≤ rO_3.cells), (by decide : 0 + 0 ≤ rO_3.slots)⟩)
    dsimp only [Pt.U, Pt.locs, Pt.cells, Pt.slots] at X108 l108 y108 z108 st108 hQ108
    subst l108 y108 z108
    obtain ⟨rfl, N108q, Kq108, VIq108, VPq108⟩ := hQ108
    have N108 := Fr.app N90 N108q
    have f109 := f91.keep Kq108
    have f110 := f92.keep Kq108 (ninS nAI (ninS nAP nin0))
    have f111 := f93.keep Kq108 (ninS nAI (ninS nAP nin0))
    have f112 := f94.keep Kq108 (ninS nAI (ninS nAP nin0))
    have f113 := f95.keep Kq108 (ninS nKI (ninS nKP nin0))
    have f114 := f96.keep Kq108 (ninS nAI (ninS nAP nin0))
    have Z115 := Nat.le_trans Z97 Kq108.1
    have K116 := K98.trans Kq108 (allS (Or.inl (List.mem_of_getElem? (i := 2) rfl)) (allS (Or.inl (List.mem_of_getElem? (i := 3) rfl)) all0))
    have go117 : Goes p e below s₁ (entryFrame m #[(.ref a1), (.int u)] 4) T108 (mkF m 71 #[.val (.ref a1), .val (.int u), .val (.int (1 : Int32)), .val (.int (σ.1 (2 : Int32)))] []) := fun t k => go107 t (st108.trans k)
    obtain ⟨fs, hr, hrun, hended, hW, hsame⟩ := X108.leave (v := none) (fun _ => rfl)
    have hrm : own_rmv kf σ u (1 : Int32) (3 : Int32) = own_dn kf τ90 (1 : Int32) (2 : Int32) := by
      refine (if_neg (by decide)).trans ?_
      show own_dn kf (own_up kf (own_u σ.1 (1 : Int32) (σ.1 (2 : Int32)), own_u (own_u σ.2 u (-1 : Int32)) (σ.1 (2 : Int32)) (1 : Int32)) (own_u (own_u σ.2 u (-1 : Int32)) (σ.1 (2 : Int32)) (1 : Int32) (σ.1 (2 : Int32)))) ((own_up kf (own_u σ.1 (1 : Int32) (σ.1 (2 : Int32)), own_u (own_u σ.2 u (-1 : Int32)) (σ.1 (2 : Int32)) (1 : Int32)) (own_u (own_u σ.2 u (-1 : Int32)) (σ.1 (2 : Int32)) (1 : Int32) (σ.1 (2 : Int32)))).2 (σ.1 (2 : Int32))) (2 : Int32) = _
      rw [own_us, ← hτ90, hp]
    refine ⟨_, _, go117 _ ?_, hrun, hended, _, _, rfl, ?_, ⟨_, rfl⟩, hW, hsame.mono (by decide) (by decide)⟩
    · exact X108.returnOut hx Bd.returns (hb hby d11_71) hr
    · show QRm13 Z _ _ _ _ _ _ _ _ _ _ _ _ _ T108.heap _
      exact ⟨rfl, N108, K116, f109, f110, f111, f112, f114, f113, by rw [hrm]; exact VIq108, by rw [hrm]; exact VPq108⟩
  · have go118 : Goes p e below s₁ (entryFrame m #[(.ref a1), (.int u)] 4) T101 (mkF m 68 #[.val (.ref a1), .val (.int u), .val (.int (1 : Int32)), .val (.int (σ.1 (2 : Int32)))] [(.int (0 : Int32)), (.ref a1)]) := Eq.mp (congrArg (fun zz => Goes p e below s₁ (entryFrame m #[(.ref a1), (.int u)] 4) T101 (mkF m 68 #[.val (.ref a1), .val (.int u), .val (.int (1 : Int32)), .val (.int (σ.1 (2 : Int32)))] [(.int zz), (.ref a1)])) hp) go105
    obtain ⟨cq119, q119a, q119b⟩ := f91.cell
    obtain ⟨_, _, ⟨T119, L119, k119, n119⟩, -, X119, ⟨Lc119, hQ119, l119, y119, z119⟩, st119⟩ := X101.privateBack hx (y := mN_0) hown (mvT hZ (own_wd hw 37 rfl)) (mvT hZ (own_wd hw 38 rfl)) (own_selp (y := mN_0) (by decide) (mvT hZ (own_wd hw 1 rfl)) (mvP hZ (own_wd hw 39 rfl)) (mvT hZ (own_wd hw 38 rfl))) (Cond.privateMethod_at (mvP hZ (own_wd hw 39 rfl) (args := #[]))) (mvT hZ (own_wd hw 40 rfl)) (by decide) (backOf (W := 0) (rmD02 l Z a0 hw [] a1 aK aI aP kk ki kp kf τ90 T90.heap n0 Z97 f91 f92 f93 f94 f96 f95 VIq90 VPq90 nKI nKP nIP nAK nAI nAP gA gK gI gP (hR106 (0 : Int32) (by decide)) (hR106 (1 : Int32) (by decide))) hZ (own_wd hw 40 rfl) (own_wd hw 2 rfl) (by decide) (by decide)) (g := (mkF m 68 #[.val (.ref a1), .val (.int u), .val (.int (1 : Int32)), .val (.int (σ.1 (2 : Int32)))] [(.int (0 : Int32)), (.ref a1)])) rfl (by rw [hml]; rfl) (Steps.refl _) (a := a1) (by rw [e101]; exact q119a) q119b (argsL := [(.int (0 : Int32))]) (rest := []) (lenOf pd_2 rfl) rfl (by show 2 * 0 + _ ≤ _; exact Nat.le_of_eq rfl) (hb hby d11_68) (fun _ _ => ⟨rfl, e101, (by decide : 0 + 0 ≤ rO_3.cells), (by decide : 0 + 0 ≤ rO_3.slots)⟩)
    dsimp only [Pt.U, Pt.locs, Pt.cells, Pt.slots] at X119 l119 y119 z119 st119 hQ119
    subst l119 y119 z119
    obtain ⟨rfl, N119q, Kq119, VIq119, VPq119⟩ := hQ119
    have N119 := Fr.app N90 N119q
    have f120 := f91.keep Kq119
    have f121 := f92.keep Kq119 (ninS nAI (ninS nAP nin0))
    have f122 := f93.keep Kq119 (ninS nAI (ninS nAP nin0))
    have f123 := f94.keep Kq119 (ninS nAI (ninS nAP nin0))
    have f124 := f95.keep Kq119 (ninS nKI (ninS nKP nin0))
    have f125 := f96.keep Kq119 (ninS nAI (ninS nAP nin0))
    have Z126 := Nat.le_trans Z97 Kq119.1
    have K127 := K98.trans Kq119 (allS (Or.inl (List.mem_of_getElem? (i := 2) rfl)) (allS (Or.inl (List.mem_of_getElem? (i := 3) rfl)) all0))
    have go128 : Goes p e below s₁ (entryFrame m #[(.ref a1), (.int u)] 4) T119 (mkF m 71 #[.val (.ref a1), .val (.int u), .val (.int (1 : Int32)), .val (.int (σ.1 (2 : Int32)))] []) := fun t k => go118 t (st119.trans k)
    obtain ⟨fs, hr, hrun, hended, hW, hsame⟩ := X119.leave (v := none) (fun _ => rfl)
    have hrm : own_rmv kf σ u (1 : Int32) (3 : Int32) = own_dn kf τ90 (0 : Int32) (2 : Int32) := by
      refine (if_neg (by decide)).trans ?_
      show own_dn kf (own_up kf (own_u σ.1 (1 : Int32) (σ.1 (2 : Int32)), own_u (own_u σ.2 u (-1 : Int32)) (σ.1 (2 : Int32)) (1 : Int32)) (own_u (own_u σ.2 u (-1 : Int32)) (σ.1 (2 : Int32)) (1 : Int32) (σ.1 (2 : Int32)))) ((own_up kf (own_u σ.1 (1 : Int32) (σ.1 (2 : Int32)), own_u (own_u σ.2 u (-1 : Int32)) (σ.1 (2 : Int32)) (1 : Int32)) (own_u (own_u σ.2 u (-1 : Int32)) (σ.1 (2 : Int32)) (1 : Int32) (σ.1 (2 : Int32)))).2 (σ.1 (2 : Int32))) (2 : Int32) = _
      rw [own_us, ← hτ90, hp]
    refine ⟨_, _, go128 _ ?_, hrun, hended, _, _, rfl, ?_, ⟨_, rfl⟩, hW, hsame.mono (by decide) (by decide)⟩
    · exact X119.returnOut hx Bd.returns (hb hby d11_71) hr
    · show QRm13 Z _ _ _ _ _ _ _ _ _ _ _ _ _ T119.heap _
      exact ⟨rfl, N119, K127, f120, f121, f122, f123, f125, f124, by rw [hrm]; exact VIq119, by rw [hrm]; exact VPq119⟩
theorem ef_rmRm23 (m : MethodId) (a1 : Addr) (u : Int32) : entryFrame m #[(.ref a1), (.int u)] 4 = mkF m 0 #[.val (.ref a1), .val (.int u), .unset, .unset] [] := by first | (simp [entryFrame, mkF, argsToLocals, Value.category]; done) | rfl
def QRm23 (Z : State) (a1 : Addr) (u : Int32) (aK aI aP : Addr) (kk ki kp : ClassId) (kf : Int32 → UInt64) (σ : own_P) (h0 : Heap) (n0 : Nat) (v : Option Value) (h : Heap) (L : List Loc) : Prop := v = none ∧ Fr n0 L ∧ Keep h0 h [a1, aK, aI, aP] ∧ Exa Z h a1 "com/example/covermesh/covermesh/algorithms/IndexedMinHeap" ∧ Fld Z h a1 "com/example/covermesh/covermesh/algorithms/IndexedMinHeap" "keys" "[D" (.ref aK) ∧ Fld Z h a1 "com/example/covermesh/covermesh/algorithms/IndexedMinHeap" "items" "[I" (.ref aI) ∧ Fld Z h a1 "com/example/covermesh/covermesh/algorithms/IndexedMinHeap" "positions" "[I" (.ref aP) ∧ Fld Z h a1 "com/example/covermesh/covermesh/algorithms/IndexedMinHeap" "size" "I" (.int (2 : Int32)) ∧ Arv Z h aK kk .double 3 (own_d kf) (.double (0 : UInt64)) ∧ Arv Z h aI ki .int 3 (own_l (own_rmv kf σ u (2 : Int32) (3 : Int32)).1) (.int (0 : Int32)) ∧ Arv Z h aP kp .int 3 (own_l (own_rmv kf σ u (2 : Int32) (3 : Int32)).2) (.int (0 : Int32))
set_option maxRecDepth 65536 in
set_option maxHeartbeats 40000000 in
theorem rmRm23 (l : Launch) (Z : State) (a0 : Array Value) (hw : ∀ d ∈ tables_1, d.before a0 Z = true) (ws : List Jvm.Cond) (a1 : Addr) (u : Int32) (aK aI aP : Addr) (kk ki kp : ClassId) (kf : Int32 → UInt64) (σ : own_P) (h0 : Heap) (n0 : Nat) (Z0 : n0 ≤ h0.size) (E1 : Exa Z h0 a1 "com/example/covermesh/covermesh/algorithms/IndexedMinHeap") (FK : Fld Z h0 a1 "com/example/covermesh/covermesh/algorithms/IndexedMinHeap" "keys" "[D" (.ref aK)) (FI : Fld Z h0 a1 "com/example/covermesh/covermesh/algorithms/IndexedMinHeap" "items" "[I" (.ref aI)) (FP : Fld Z h0 a1 "com/example/covermesh/covermesh/algorithms/IndexedMinHeap" "positions" "[I" (.ref aP)) (FS : Fld Z h0 a1 "com/example/covermesh/covermesh/algorithms/IndexedMinHeap" "size" "I" (.int (3 : Int32))) (VK : Arv Z h0 aK kk .double 3 (own_d kf) (.double (0 : UInt64))) (VI : Arv Z h0 aI ki .int 3 (own_l σ.1) (.int (0 : Int32))) (VP : Arv Z h0 aP kp .int 3 (own_l σ.2) (.int (0 : Int32))) (nKI : aK ≠ aI) (nKP : aK ≠ aP) (nIP : aI ≠ aP) (nAK : a1 ≠ aK) (nAI : a1 ≠ aI) (nAP : a1 ≠ aP) (gA : n0 ≤ a1) (gK : n0 ≤ aK) (gI : n0 ≤ aI) (gP : n0 ≤ aP) (Ru : own_R u) (hgu : σ.2 u = (2 : Int32)) :
    MetFree l mN_4 (head1 (Jvm.Cond.code mN_4 prog_17_method_6_code 4 none :: ws) rO_3) (fun a U => a = #[(.ref a1), (.int u)] ∧ Z.Warmed39 U.vm ∧ U.heap = h0) (fun _ _ _ _ _ => True) (fun _ U o U' => ∃ v L, o = .returned v ∧ QRm23 Z a1 u aK aI aP kk ki kp kf σ h0 n0 v U'.heap L ∧ FrameEnd U o U' L rO_3.cells rO_3.slots) := by
  refine MetFree.of_bodySF (plainFor_of_name pn_0) hisR ?_
  intro p e s m args below meth c s₁ Bd hml0 hP hK
  obtain ⟨rfl, hZ, hh⟩ := hP
  have hx := Bd.exec
  have hby := Bd.bytes
  have hml : c.maxLocals = 4 := hml0
  have hown : s.vm.findClass "com/example/covermesh/covermesh/algorithms/IndexedMinHeap" = some m.cls := findClass_of_methodNamed Bd.named
  have hnm := (name_of_methodNamed Bd.named Bd.method).1
  have X0 : Stand p l e rO_3 s m #[(.ref a1), (.int u)] below meth c s₁ [] 0 0 := Stand.of_body Bd
  have e0 : s₁.heap = h0 := by rw [← hh, Bd.state]; rfl
  have N0 := Fr.nil n0
  have K0 := Keep.refl h0 [a1, aK, aI, aP]
  have go0 : Goes p e below s₁ (entryFrame m #[(.ref a1), (.int u)] 4) s₁ (mkF m 0 #[.val (.ref a1), .val (.int u), .unset, .unset] []) := fun t k => castTop (ef_rmRm23 m a1 u) k
  have go1 : Goes p e below s₁ (entryFrame m #[(.ref a1), (.int u)] 4) s₁ (mkF m 1 #[.val (.ref a1), .val (.int u), .unset, .unset] [(.ref a1)]) := fun t k => by
    refine go0 t ?_
    refine XS.aloadN X0.here hx rfl (hb hby d11_0) rfl rfl ?_
    exact k
  obtain ⟨T2, X2, e2, st2⟩ := getF X0 hx hZ hown (host := "") (Or.inl (own_wd hw 15 rfl)) Via.refl e0 FP (g := (mkF m 1 #[.val (.ref a1), .val (.int u), .unset, .unset] [(.ref a1)])) rfl rfl (hb hby d11_1)
  have go3 : Goes p e below s₁ (entryFrame m #[(.ref a1), (.int u)] 4) T2 (mkF m 4 #[.val (.ref a1), .val (.int u), .unset, .unset] [(.ref aP)]) := fun t k => go1 t (st2 t k)
  have go4 : Goes p e below s₁ (entryFrame m #[(.ref a1), (.int u)] 4) T2 (mkF m 5 #[.val (.ref a1), .val (.int u), .unset, .unset] [(.int u), (.ref aP)]) := fun t k => by
    refine go3 t ?_
    refine XS.iloadN X2.here hx rfl (hb hby d11_4) rfl ?_
    exact k
  obtain ⟨cl5, Ar5, kq5, Sz5, Nn5, Hs5, Gf5⟩ := id (VP)
  have hin5 : ¬ (u < 0 ∨ cl5.slots.size ≤ (u).toNatClampNeg) := inb_of Sz5 (own_inb Ru)
  have hat5 : cl5.slots[(u).toNatClampNeg]? = some (.int (σ.2 u)) := Has.at Hs5 hin5 (own_l_at Ru)
  have go6 : Goes p e below s₁ (entryFrame m #[(.ref a1), (.int u)] 4) T2 (mkF m 6 #[.val (.ref a1), .val (.int u), .unset, .unset] [(.int (σ.2 u))]) := fun t k => by
    refine go4 t ?_
    refine X2.iaload hx (j := u) (v := (.int (σ.2 u))) (own_hp e2 Ar5.1) (State.isArrayOf_alike hZ.alike Ar5.2.1) Ar5.2.2 hin5 hat5 (g := (mkF m 5 #[.val (.ref a1), .val (.int u), .unset, .unset] [(.int u), (.ref aP)])) rfl rfl (hb hby d11_5) _ ?_
    exact k
  have go7 : Goes p e below s₁ (entryFrame m #[(.ref a1), (.int u)] 4) T2 (mkF m 6 #[.val (.ref a1), .val (.int u), .unset, .unset] [(.int (2 : Int32))]) := Eq.mp (congrArg (fun zz => Goes p e below s₁ (entryFrame m #[(.ref a1), (.int u)] 4) T2 (mkF m 6 #[.val (.ref a1), .val (.int u), .unset, .unset] [(.int zz)])) hgu) go6
  have go8 : Goes p e below s₁ (entryFrame m #[(.ref a1), (.int u)] 4) T2 (mkF m 8 #[.val (.ref a1), .val (.int u), .val (.int (2 : Int32)), .unset] [(.ref a1)]) := fun t k => by
    refine go7 t ?_
    refine XS.istoreN X2.here hx rfl (hb hby d11_6) rfl (l' := #[.val (.ref a1), .val (.int u), .val (.int (2 : Int32)), .unset]) rfl ?_
    refine XS.aloadN X2.here hx rfl (hb hby d11_7) rfl rfl ?_
    exact k
  obtain ⟨T9, X9, e9, st9⟩ := getF X2 hx hZ hown (host := "") (Or.inl (own_wd hw 15 rfl)) Via.refl e2 FP (g := (mkF m 8 #[.val (.ref a1), .val (.int u), .val (.int (2 : Int32)), .unset] [(.ref a1)])) rfl rfl (hb hby d11_8)
  have go10 : Goes p e below s₁ (entryFrame m #[(.ref a1), (.int u)] 4) T9 (mkF m 11 #[.val (.ref a1), .val (.int u), .val (.int (2 : Int32)), .unset] [(.ref aP)]) := fun t k => go8 t (st9 t k)
  have go11 : Goes p e below s₁ (entryFrame m #[(.ref a1), (.int u)] 4) T9 (mkF m 13 #[.val (.ref a1), .val (.int u), .val (.int (2 : Int32)), .unset] [(.int (-1 : Int32)), (.int u), (.ref aP)]) := fun t k => by
    refine go10 t ?_
    refine XS.iloadN X9.here hx rfl (hb hby d11_11) rfl ?_
    refine XS.iconst X9.here hx rfl (hb hby d11_12) ?_
    exact k
  obtain ⟨cl12, Ar12, kq12, Sz12, Nn12, Hs12, Gf12⟩ := id (VP)
  have hin12 : ¬ (u < 0 ∨ cl12.slots.size ≤ (u).toNatClampNeg) := inb_of Sz12 (own_inb Ru)
  obtain ⟨T13, h13, X13, e13, W13, st13⟩ := stI X9 hx hZ e9 Ar12 (j := u) hin12 (g := (mkF m 13 #[.val (.ref a1), .val (.int u), .val (.int (2 : Int32)), .unset] [(.int (-1 : Int32)), (.int u), (.ref aP)])) rfl rfl (hb hby d11_13)
  have V14 : Arv Z h13 aP kp .int 3 (own_l (own_u σ.2 u (-1 : Int32))) (.int (0 : Int32)) := by rw [← own_l_set Ru]; exact Arv.set Ar12 kq12 Sz12 Nn12 Hs12 Gf12 rfl W13 _ rfl (own_l_len Ru)
  have f15 := E1.wr W13
  have f16 := FK.other W13 (Or.inl nAP)
  have f17 := FI.other W13 (Or.inl nAP)
  have f18 := FP.other W13 (Or.inl nAP)
  have f19 := FS.other W13 (Or.inl nAP)
  have f20 := VK.other W13 nKP
  have f21 := VI.other W13 nIP
  have Z22 := Nat.le_trans Z0 (Nat.le_of_eq W13.size.symm)
  have K23 := K0.wr W13 (Or.inl (List.mem_of_getElem? (i := 3) rfl))
  have N24 := Fr.snoc X13 N0 gP
  have go25 : Goes p e below s₁ (entryFrame m #[(.ref a1), (.int u)] 4) T13 (mkF m 14 #[.val (.ref a1), .val (.int u), .val (.int (2 : Int32)), .unset] []) := fun t k => go11 t (st13 t k)
  have go26 : Goes p e below s₁ (entryFrame m #[(.ref a1), (.int u)] 4) T13 (mkF m 16 #[.val (.ref a1), .val (.int u), .val (.int (2 : Int32)), .unset] [(.ref a1), (.ref a1)]) := fun t k => by
    refine go25 t ?_
    refine XS.aloadN X13.here hx rfl (hb hby d11_14) rfl rfl ?_
    refine XS.dup X13.here hx rfl (hb hby d11_15) rfl rfl ?_
    exact k
  obtain ⟨T27, X27, e27, st27⟩ := getF X13 hx hZ hown (host := "") (Or.inl (own_wd hw 27 rfl)) Via.refl e13 f19 (g := (mkF m 16 #[.val (.ref a1), .val (.int u), .val (.int (2 : Int32)), .unset] [(.ref a1), (.ref a1)])) rfl rfl (hb hby d11_16)
  have go28 : Goes p e below s₁ (entryFrame m #[(.ref a1), (.int u)] 4) T27 (mkF m 19 #[.val (.ref a1), .val (.int u), .val (.int (2 : Int32)), .unset] [(.int (3 : Int32)), (.ref a1)]) := fun t k => go26 t (st27 t k)
  have go29 : Goes p e below s₁ (entryFrame m #[(.ref a1), (.int u)] 4) T27 (mkF m 21 #[.val (.ref a1), .val (.int u), .val (.int (2 : Int32)), .unset] [(.int (2 : Int32)), (.ref a1)]) := fun t k => by
    refine go28 t ?_
    refine XS.iconst X27.here hx rfl (hb hby d11_19) ?_
    refine XS.isub X27.here hx rfl (hb hby d11_20) rfl ?_
    exact k
  obtain ⟨T30, h30, X30, e30, W30, st30⟩ := putF X27 hx hZ hown (host := "") (Or.inl (own_wd hw 27 rfl)) Via.refl e27 f19 f15 (Or.inl (own_wd hw 28 rfl)) (own_wd hw 1 rfl) (ty := .int) (by decide) rfl rfl (g := (mkF m 21 #[.val (.ref a1), .val (.int u), .val (.int (2 : Int32)), .unset] [(.int (2 : Int32)), (.ref a1)])) rfl rfl (hb hby d11_21)
  have f31 := f19.same W30
  have f32 := f15.wr W30
  have f33 := f16.other W30 (Or.inr (slot_ne (Or.inr (own_wd hw 11 rfl)) (Or.inl (own_wd hw 28 rfl)) (by decide) (t := (.array .double)) (t' := .int) (by decide) (by decide)))
  have f34 := f17.other W30 (Or.inr (slot_ne (Or.inr (own_wd hw 14 rfl)) (Or.inl (own_wd hw 28 rfl)) (by decide) (t := (.array .int)) (t' := .int) (by decide) (by decide)))
  have f35 := f18.other W30 (Or.inr (slot_ne (Or.inr (own_wd hw 16 rfl)) (Or.inl (own_wd hw 28 rfl)) (by decide) (t := (.array .int)) (t' := .int) (by decide) (by decide)))
  have f36 := f20.other W30 (Ne.symm nAK)
  have f37 := f21.other W30 (Ne.symm nAI)
  have f38 := V14.other W30 (Ne.symm nAP)
  have Z39 := Nat.le_trans Z22 (Nat.le_of_eq W30.size.symm)
  have K40 := K23.wr W30 (Or.inl (List.mem_of_getElem? (i := 0) rfl))
  have N41 := Fr.snoc X30 N24 gA
  have go42 : Goes p e below s₁ (entryFrame m #[(.ref a1), (.int u)] 4) T30 (mkF m 24 #[.val (.ref a1), .val (.int u), .val (.int (2 : Int32)), .unset] []) := fun t k => go29 t (st30 t k)
  have go43 : Goes p e below s₁ (entryFrame m #[(.ref a1), (.int u)] 4) T30 (mkF m 26 #[.val (.ref a1), .val (.int u), .val (.int (2 : Int32)), .unset] [(.ref a1), (.int (2 : Int32))]) := fun t k => by
    refine go42 t ?_
    refine XS.iloadN X30.here hx rfl (hb hby d11_24) rfl ?_
    refine XS.aloadN X30.here hx rfl (hb hby d11_25) rfl rfl ?_
    exact k
  obtain ⟨T44, X44, e44, st44⟩ := getF X30 hx hZ hown (host := "") (Or.inl (own_wd hw 27 rfl)) Via.refl e30 f31 (g := (mkF m 26 #[.val (.ref a1), .val (.int u), .val (.int (2 : Int32)), .unset] [(.ref a1), (.int (2 : Int32))])) rfl rfl (hb hby d11_26)
  have go45 : Goes p e below s₁ (entryFrame m #[(.ref a1), (.int u)] 4) T44 (mkF m 29 #[.val (.ref a1), .val (.int u), .val (.int (2 : Int32)), .unset] [(.int (2 : Int32)), (.int (2 : Int32))]) := fun t k => go43 t (st44 t k)
  have go46 : Goes p e below s₁ (entryFrame m #[(.ref a1), (.int u)] 4) T44 (mkF m 71 #[.val (.ref a1), .val (.int u), .val (.int (2 : Int32)), .unset] []) := fun t k => by
    refine go45 t ?_
    refine XS.icmpYes X44.here hx rfl (pc0 := 29) (pc' := 71) rfl (hb hby d11_29) rfl (Jvm.Free.XT.ii_ge_t (by decide)) (by decide) (by decide) ?_
    exact k
  obtain ⟨fs, hr, hrun, hended, hW, hsame⟩ := X44.leave (v := none) (fun _ => rfl)
  have hrm : own_rmv kf σ u (2 : Int32) (3 : Int32) = (σ.1, (own_u σ.2 u (-1 : Int32))) := if_pos rfl
  refine ⟨_, _, go46 _ ?_, hrun, hended, _, _, rfl, ?_, ⟨_, rfl⟩, hW, hsame.mono (by decide) (by decide)⟩
  · exact X44.returnOut hx Bd.returns (hb hby d11_71) hr
  · show QRm23 Z _ _ _ _ _ _ _ _ _ _ _ _ _ T44.heap _
    rw [e44]
    exact ⟨rfl, N41, K40, f32, f33, f34, f35, f31, f36, by rw [hrm]; exact f37, by rw [hrm]; exact f38⟩
theorem ef_rmPP01 (m : MethodId) (a1 : Addr) (u : Int32) (key : UInt64) : entryFrame m #[(.ref a1), (.int u), (.double key)] 4 = mkF m 0 #[.val (.ref a1), .val (.int u), .val (.double key), .second] [] := by first | (simp [entryFrame, mkF, argsToLocals, Value.category]; done) | rfl
def QPP01 (Z : State) (a1 : Addr) (u : Int32) (key : UInt64) (aK aI aP : Addr) (kk ki kp : ClassId) (kf : Int32 → UInt64) (σ : own_P) (h0 : Heap) (n0 : Nat) (v : Option Value) (h : Heap) (L : List Loc) : Prop := v = none ∧ Fr n0 L ∧ Keep h0 h [a1, aK, aI, aP] ∧ Exa Z h a1 "com/example/covermesh/covermesh/algorithms/IndexedMinHeap" ∧ Fld Z h a1 "com/example/covermesh/covermesh/algorithms/IndexedMinHeap" "keys" "[D" (.ref aK) ∧ Fld Z h a1 "com/example/covermesh/covermesh/algorithms/IndexedMinHeap" "items" "[I" (.ref aI) ∧ Fld Z h a1 "com/example/covermesh/covermesh/algorithms/IndexedMinHeap" "positions" "[I" (.ref aP) ∧ Fld Z h a1 "com/example/covermesh/covermesh/algorithms/IndexedMinHeap" "size" "I" (.int (1 : Int32)) ∧ Arv Z h aK kk .double 3 (own_d (own_u kf u key)) (.double (0 : UInt64)) ∧ Arv Z h aI ki .int 3 (own_l (own_sift (own_u kf u key) σ u (1 : Int32)).1) (.int (0 : Int32)) ∧ Arv Z h aP kp .int 3 (own_l (own_sift (own_u kf u key) σ u (1 : Int32)).2) (.int (0 : Int32))
set_option maxRecDepth 65536 in
set_option maxHeartbeats 40000000 in
theorem rmPP01 (l : Launch) (Z : State) (a0 : Array Value) (hw : ∀ d ∈ tables_1, d.before a0 Z = true) (ws : List Jvm.Cond) (a1 : Addr) (u : Int32) (key : UInt64) (aK aI aP : Addr) (kk ki kp : ClassId) (kf : Int32 → UInt64) (σ : own_P) (h0 : Heap) (n0 : Nat) (Z0 : n0 ≤ h0.size) (E1 : Exa Z h0 a1 "com/example/covermesh/covermesh/algorithms/IndexedMinHeap") (FK : Fld Z h0 a1 "com/example/covermesh/covermesh/algorithms/IndexedMinHeap" "keys" "[D" (.ref aK)) (FI : Fld Z h0 a1 "com/example/covermesh/covermesh/algorithms/IndexedMinHeap" "items" "[I" (.ref aI)) (FP : Fld Z h0 a1 "com/example/covermesh/covermesh/algorithms/IndexedMinHeap" "positions" "[I" (.ref aP)) (FS : Fld Z h0 a1 "com/example/covermesh/covermesh/algorithms/IndexedMinHeap" "size" "I" (.int (1 : Int32))) (VK : Arv Z h0 aK kk .double 3 (own_d kf) (.double (0 : UInt64))) (VI : Arv Z h0 aI ki .int 3 (own_l σ.1) (.int (0 : Int32))) (VP : Arv Z h0 aP kp .int 3 (own_l σ.2) (.int (0 : Int32))) (nKI : aK ≠ aI) (nKP : aK ≠ aP) (nIP : aI ≠ aP) (nAK : a1 ≠ aK) (nAI : a1 ≠ aI) (nAP : a1 ≠ aP) (gA : n0 ≤ a1) (gK : n0 ≤ aK) (gI : n0 ≤ aI) (gP : n0 ≤ aP) (Ru : own_R u) (hgu : σ.2 u = (0 : Int32)) (hui : σ.1 (0 : Int32) = u) (R0 : own_R (σ.1 (0 : Int32))) :
    MetFree l mN_2 (head1 (Jvm.Cond.code mN_2 prog_17_method_4_code 4 none :: ws) rO_3) (fun a U => a = #[(.ref a1), (.int u), (.double key)] ∧ Z.Warmed39 U.vm ∧ U.heap = h0) (fun _ _ _ _ _ => True) (fun _ U o U' => ∃ v L, o = .returned v ∧ QPP01 Z a1 u key aK aI aP kk ki kp kf σ h0 n0 v U'.heap L ∧ FrameEnd U o U' L rO_3.cells rO_3.slots) := by
  refine MetFree.of_bodySF (plainFor_of_name pn_0) hisR ?_
  intro p e s m args below meth c s₁ Bd hml0 hP hK
  obtain ⟨rfl, hZ, hh⟩ := hP
  have hx := Bd.exec
  have hby := Bd.bytes
  have hml : c.maxLocals = 4 := hml0
  have hown : s.vm.findClass "com/example/covermesh/covermesh/algorithms/IndexedMinHeap" = some m.cls := findClass_of_methodNamed Bd.named
  have hnm := (name_of_methodNamed Bd.named Bd.method).1
  have X0 : Stand p l e rO_3 s m #[(.ref a1), (.int u), (.double key)] below meth c s₁ [] 0 0 := Stand.of_body Bd
  have e0 : s₁.heap = h0 := by rw [← hh, Bd.state]; rfl
  have N0 := Fr.nil n0
  have K0 := Keep.refl h0 [a1, aK, aI, aP]
  have go0 : Goes p e below s₁ (entryFrame m #[(.ref a1), (.int u), (.double key)] 4) s₁ (mkF m 0 #[.val (.ref a1), .val (.int u), .val (.double key), .second] []) := fun t k => castTop (ef_rmPP01 m a1 u key) k
  have go1 : Goes p e below s₁ (entryFrame m #[(.ref a1), (.int u), (.double key)] 4) s₁ (mkF m 1 #[.val (.ref a1), .val (.int u), .val (.double key), .second] [(.ref a1)]) := fun t k => by
    refine go0 t ?_
    refine XS.aloadN X0.here hx rfl (hb hby d4_0) rfl rfl ?_
    exact k
  obtain ⟨T2, X2, e2, st2⟩ := getF X0 hx hZ hown (host := "") (Or.inl (own_wd hw 15 rfl)) Via.refl e0 FP (g := (mkF m 1 #[.val (.ref a1), .val (.int u), .val (.double key), .second] [(.ref a1)])) rfl rfl (hb hby d4_1)
  have go3 : Goes p e below s₁ (entryFrame m #[(.ref a1), (.int u), (.double key)] 4) T2 (mkF m 4 #[.val (.ref a1), .val (.int u), .val (.double key), .second] [(.ref aP)]) := fun t k => go1 t (st2 t k)
  have go4 : Goes p e below s₁ (entryFrame m #[(.ref a1), (.int u), (.double key)] 4) T2 (mkF m 5 #[.val (.ref a1), .val (.int u), .val (.double key), .second] [(.int u), (.ref aP)]) := fun t k => by
    refine go3 t ?_
    refine XS.iloadN X2.here hx rfl (hb hby d4_4) rfl ?_
    exact k
  obtain ⟨cl5, Ar5, kq5, Sz5, Nn5, Hs5, Gf5⟩ := id (VP)
  have hin5 : ¬ (u < 0 ∨ cl5.slots.size ≤ (u).toNatClampNeg) := inb_of Sz5 (own_inb Ru)
  have hat5 : cl5.slots[(u).toNatClampNeg]? = some (.int (σ.2 u)) := Has.at Hs5 hin5 (own_l_at Ru)
  have go6 : Goes p e below s₁ (entryFrame m #[(.ref a1), (.int u), (.double key)] 4) T2 (mkF m 6 #[.val (.ref a1), .val (.int u), .val (.double key), .second] [(.int (σ.2 u))]) := fun t k => by
    refine go4 t ?_
    refine X2.iaload hx (j := u) (v := (.int (σ.2 u))) (own_hp e2 Ar5.1) (State.isArrayOf_alike hZ.alike Ar5.2.1) Ar5.2.2 hin5 hat5 (g := (mkF m 5 #[.val (.ref a1), .val (.int u), .val (.double key), .second] [(.int u), (.ref aP)])) rfl rfl (hb hby d4_5) _ ?_
    exact k
  have go7 : Goes p e below s₁ (entryFrame m #[(.ref a1), (.int u), (.double key)] 4) T2 (mkF m 6 #[.val (.ref a1), .val (.int u), .val (.double key), .second] [(.int (0 : Int32))]) := Eq.mp (congrArg (fun zz => Goes p e below s₁ (entryFrame m #[(.ref a1), (.int u), (.double key)] 4) T2 (mkF m 6 #[.val (.ref a1), .val (.int u), .val (.double key), .second] [(.int zz)])) hgu) go6
  have go8 : Goes p e below s₁ (entryFrame m #[(.ref a1), (.int u), (.double key)] 4) T2 (mkF m 37 #[.val (.ref a1), .val (.int u), .val (.double key), .second] [(.ref a1)]) := fun t k => by
    refine go7 t ?_
    refine XS.ifYes X2.here hx rfl (pc0 := 6) (pc' := 36) rfl (hb hby d4_6) rfl (Jvm.Free.XT.i0_ge_t (by decide)) (by decide) (by decide) ?_
    refine XS.aloadN X2.here hx rfl (hb hby d4_36) rfl rfl ?_
    exact k
  obtain ⟨T9, X9, e9, st9⟩ := getF X2 hx hZ hown (host := "") (Or.inl (own_wd hw 10 rfl)) Via.refl e2 FK (g := (mkF m 37 #[.val (.ref a1), .val (.int u), .val (.double key), .second] [(.ref a1)])) rfl rfl (hb hby d4_37)
  have go10 : Goes p e below s₁ (entryFrame m #[(.ref a1), (.int u), (.double key)] 4) T9 (mkF m 40 #[.val (.ref a1), .val (.int u), .val (.double key), .second] [(.ref aK)]) := fun t k => go8 t (st9 t k)
  have go11 : Goes p e below s₁ (entryFrame m #[(.ref a1), (.int u), (.double key)] 4) T9 (mkF m 42 #[.val (.ref a1), .val (.int u), .val (.double key), .second] [(.double key), (.int u), (.ref aK)]) := fun t k => by
    refine go10 t ?_
    refine XS.iloadN X9.here hx rfl (hb hby d4_40) rfl ?_
    refine Jvm.Free.XS.dloadN X9.here hx rfl (hb hby d4_41) rfl ?_
    exact k
  obtain ⟨cl12, Ar12, kq12, Sz12, Nn12, Hs12, Gf12⟩ := id (VK)
  have hin12 : ¬ (u < 0 ∨ cl12.slots.size ≤ (u).toNatClampNeg) := inb_of Sz12 (own_inb Ru)
  obtain ⟨T13, h13, X13, e13, W13, st13⟩ := stD X9 hx hZ e9 Ar12 (j := u) hin12 (g := (mkF m 42 #[.val (.ref a1), .val (.int u), .val (.double key), .second] [(.double key), (.int u), (.ref aK)])) rfl rfl (hb hby d4_42)
  have V14 : Arv Z h13 aK kk .double 3 (own_d (own_u kf u key)) (.double (0 : UInt64)) := by rw [← own_d_set Ru]; exact Arv.set Ar12 kq12 Sz12 Nn12 Hs12 Gf12 rfl W13 _ rfl (own_d_len Ru)
  have f15 := E1.wr W13
  have f16 := FK.other W13 (Or.inl nAK)
  have f17 := FI.other W13 (Or.inl nAK)
  have f18 := FP.other W13 (Or.inl nAK)
  have f19 := FS.other W13 (Or.inl nAK)
  have f20 := VI.other W13 (Ne.symm nKI)
  have f21 := VP.other W13 (Ne.symm nKP)
  have Z22 := Nat.le_trans Z0 (Nat.le_of_eq W13.size.symm)
  have K23 := K0.wr W13 (Or.inl (List.mem_of_getElem? (i := 1) rfl))
  have N24 := Fr.snoc X13 N0 gK
  have go25 : Goes p e below s₁ (entryFrame m #[(.ref a1), (.int u), (.double key)] 4) T13 (mkF m 43 #[.val (.ref a1), .val (.int u), .val (.double key), .second] []) := fun t k => go11 t (st13 t k)
  have go26 : Goes p e below s₁ (entryFrame m #[(.ref a1), (.int u), (.double key)] 4) T13 (mkF m 45 #[.val (.ref a1), .val (.int u), .val (.double key), .second] [(.ref a1), (.ref a1)]) := fun t k => by
    refine go25 t ?_
    refine XS.aloadN X13.here hx rfl (hb hby d4_43) rfl rfl ?_
    refine XS.aloadN X13.here hx rfl (hb hby d4_44) rfl rfl ?_
    exact k
  obtain ⟨T27, X27, e27, st27⟩ := getF X13 hx hZ hown (host := "") (Or.inl (own_wd hw 15 rfl)) Via.refl e13 f18 (g := (mkF m 45 #[.val (.ref a1), .val (.int u), .val (.double key), .second] [(.ref a1), (.ref a1)])) rfl rfl (hb hby d4_45)
  have go28 : Goes p e below s₁ (entryFrame m #[(.ref a1), (.int u), (.double key)] 4) T27 (mkF m 48 #[.val (.ref a1), .val (.int u), .val (.double key), .second] [(.ref aP), (.ref a1)]) := fun t k => go26 t (st27 t k)
  have go29 : Goes p e below s₁ (entryFrame m #[(.ref a1), (.int u), (.double key)] 4) T27 (mkF m 49 #[.val (.ref a1), .val (.int u), .val (.double key), .second] [(.int u), (.ref aP), (.ref a1)]) := fun t k => by
    refine go28 t ?_
    refine XS.iloadN X27.here hx rfl (hb hby d4_48) rfl ?_
    exact k
  obtain ⟨cl30, Ar30, kq30, Sz30, Nn30, Hs30, Gf30⟩ := id (f21)
  have hin30 : ¬ (u < 0 ∨ cl30.slots.size ≤ (u).toNatClampNeg) := inb_of Sz30 (own_inb Ru)
  have hat30 : cl30.slots[(u).toNatClampNeg]? = some (.int (σ.2 u)) := Has.at Hs30 hin30 (own_l_at Ru)
  have go31 : Goes p e below s₁ (entryFrame m #[(.ref a1), (.int u), (.double key)] 4) T27 (mkF m 50 #[.val (.ref a1), .val (.int u), .val (.double key), .second] [(.int (σ.2 u)), (.ref a1)]) := fun t k => by
    refine go29 t ?_
    refine X27.iaload hx (j := u) (v := (.int (σ.2 u))) (own_hp e27 Ar30.1) (State.isArrayOf_alike hZ.alike Ar30.2.1) Ar30.2.2 hin30 hat30 (g := (mkF m 49 #[.val (.ref a1), .val (.int u), .val (.double key), .second] [(.int u), (.ref aP), (.ref a1)])) rfl rfl (hb hby d4_49) _ ?_
    exact k
  have go32 : Goes p e below s₁ (entryFrame m #[(.ref a1), (.int u), (.double key)] 4) T27 (mkF m 50 #[.val (.ref a1), .val (.int u), .val (.double key), .second] [(.int (0 : Int32)), (.ref a1)]) := Eq.mp (congrArg (fun zz => Goes p e below s₁ (entryFrame m #[(.ref a1), (.int u), (.double key)] 4) T27 (mkF m 50 #[.val (.ref a1), .val (.int u), .val (.double key), .second] [(.int zz), (.ref a1)])) hgu) go31
  obtain ⟨cq33, q33a, q33b⟩ := f15.cell
  obtain ⟨_, _, ⟨T33, L33, k33, n33⟩, -, X33, ⟨Lc33, hQ33, l33, y33, z33⟩, st33⟩ := X27.privateBack hx (y := mN_3) hown (mvT hZ (own_wd hw 29 rfl)) (mvT hZ (own_wd hw 30 rfl)) (own_selp (y := mN_3) (by decide) (mvT hZ (own_wd hw 1 rfl)) (mvP hZ (own_wd hw 31 rfl)) (mvT hZ (own_wd hw 30 rfl))) (Cond.privateMethod_at (mvP hZ (own_wd hw 31 rfl) (args := #[]))) (mvT hZ (own_wd hw 32 rfl)) (by decide) (backOf (W := 0) (rmU0 l Z a0 hw [] a1 aK aI aP kk ki kp (own_u kf u key) σ (1 : Int32) h13 n0 Z22 f15 f16 f17 f18 f19 V14 f20 f21 nKI nKP nIP nAK nAI nAP gA gK gI gP R0) hZ (own_wd hw 32 rfl) (own_wd hw 2 rfl) (by decide) (by decide)) (g := (mkF m 50 #[.val (.ref a1), .val (.int u), .val (.double key), .second] [(.int (0 : Int32)), (.ref a1)])) rfl (by rw [hml]; rfl) (Steps.refl _) (a := a1) (by rw [e27]; exact q33a) q33b (argsL := [(.int (0 : Int32))]) (rest := []) (lenOf pd_2 rfl) rfl (by show 2 * 0 + _ ≤ _; exact Nat.le_of_eq rfl) (hb hby d4_50) (fun _ _ => ⟨rfl, e27, (by decide : 0 + 0 ≤ rO_3.cells), (by decide : 0 + 0 ≤ rO_3.slots)⟩)
  dsimp only [Pt.U, Pt.locs, Pt.cells, Pt.slots] at X33 l33 y33 z33 st33 hQ33
  subst l33 y33 z33
  obtain ⟨rfl, N33q, Kq33, VIq33, VPq33⟩ := hQ33
  have N33 := Fr.app N24 N33q
  have f34 := f15.keep Kq33
  have f35 := f16.keep Kq33 (ninS nAI (ninS nAP nin0))
  have f36 := f17.keep Kq33 (ninS nAI (ninS nAP nin0))
  have f37 := f18.keep Kq33 (ninS nAI (ninS nAP nin0))
  have f38 := f19.keep Kq33 (ninS nAI (ninS nAP nin0))
  have f39 := V14.keep Kq33 (ninS nKI (ninS nKP nin0))
  have Z40 := Nat.le_trans Z22 Kq33.1
  have K41 := K23.trans Kq33 (allS (Or.inl (List.mem_of_getElem? (i := 2) rfl)) (allS (Or.inl (List.mem_of_getElem? (i := 3) rfl)) all0))
  obtain ⟨τ33, hτ33⟩ : ∃ z, z = own_up (own_u kf u key) σ (0 : Int32) := ⟨_, rfl⟩
  rw [← hτ33] at VIq33 VPq33
  have go42 : Goes p e below s₁ (entryFrame m #[(.ref a1), (.int u), (.double key)] 4) T33 (mkF m 53 #[.val (.ref a1), .val (.int u), .val (.double key), .second] []) := fun t k => go32 t (st33.trans k)
  have go43 : Goes p e below s₁ (entryFrame m #[(.ref a1), (.int u), (.double key)] 4) T33 (mkF m 55 #[.val (.ref a1), .val (.int u), .val (.double key), .second] [(.ref a1), (.ref a1)]) := fun t k => by
    refine go42 t ?_
    refine XS.aloadN X33.here hx rfl (hb hby d4_53) rfl rfl ?_
    refine XS.aloadN X33.here hx rfl (hb hby d4_54) rfl rfl ?_
    exact k
  obtain ⟨T44, X44, e44, st44⟩ := getF X33 hx hZ hown (host := "") (Or.inl (own_wd hw 15 rfl)) Via.refl rfl f37 (g := (mkF m 55 #[.val (.ref a1), .val (.int u), .val (.double key), .second] [(.ref a1), (.ref a1)])) rfl rfl (hb hby d4_55)
  have go45 : Goes p e below s₁ (entryFrame m #[(.ref a1), (.int u), (.double key)] 4) T44 (mkF m 58 #[.val (.ref a1), .val (.int u), .val (.double key), .second] [(.ref aP), (.ref a1)]) := fun t k => go43 t (st44 t k)
  have go46 : Goes p e below s₁ (entryFrame m #[(.ref a1), (.int u), (.double key)] 4) T44 (mkF m 59 #[.val (.ref a1), .val (.int u), .val (.double key), .second] [(.int u), (.ref aP), (.ref a1)]) := fun t k => by
    refine go45 t ?_
    refine XS.iloadN X44.here hx rfl (hb hby d4_58) rfl ?_
    exact k
  obtain ⟨cl47, Ar47, kq47, Sz47, Nn47, Hs47, Gf47⟩ := id (VPq33)
  have hin47 : ¬ (u < 0 ∨ cl47.slots.size ≤ (u).toNatClampNeg) := inb_of Sz47 (own_inb Ru)
  have hat47 : cl47.slots[(u).toNatClampNeg]? = some (.int (τ33.2 u)) := Has.at Hs47 hin47 (own_l_at Ru)
  have go48 : Goes p e below s₁ (entryFrame m #[(.ref a1), (.int u), (.double key)] 4) T44 (mkF m 60 #[.val (.ref a1), .val (.int u), .val (.double key), .second] [(.int (τ33.2 u)), (.ref a1)]) := fun t k => by
    refine go46 t ?_
    refine X44.iaload hx (j := u) (v := (.int (τ33.2 u))) (own_hp e44 Ar47.1) (State.isArrayOf_alike hZ.alike Ar47.2.1) Ar47.2.2 hin47 hat47 (g := (mkF m 59 #[.val (.ref a1), .val (.int u), .val (.double key), .second] [(.int u), (.ref aP), (.ref a1)])) rfl rfl (hb hby d4_59) _ ?_
    exact k
  have hpos : τ33.2 u = (0 : Int32) ∨ τ33.2 u = 0 := by rw [hτ33]; exact own_up_pos hui
  have hR0 : ∀ j : Int32, j < (1 : Int32) ∧ ¬ j < 0 → own_R (σ.1 j) := by
    intro j hj
    have h6 : j.toInt = 0 := by
      have h1 := hj.1; have h2 := hj.2; rw [Int32.lt_iff_toInt_lt] at h1 h2
      have h3 : ((1 : Int32)).toInt = 1 := rfl
      have h4 : (0 : Int32).toInt = 0 := rfl
      omega
    rcases h6 with h6
    · rw [own_of_toInt h6]; exact R0
  have hR49 : ∀ j : Int32, j < (1 : Int32) ∧ ¬ j < 0 → own_R (τ33.1 j) := fun j hj => by rw [hτ33]; exact own_up_R (hR0 (0 : Int32) (by decide)) (hR0 (0 : Int32) (by decide)) (hR0 j hj)
  have hp := hpos.elim id id
  have go50 : Goes p e below s₁ (entryFrame m #[(.ref a1), (.int u), (.double key)] 4) T44 (mkF m 60 #[.val (.ref a1), .val (.int u), .val (.double key), .second] [(.int (0 : Int32)), (.ref a1)]) := Eq.mp (congrArg (fun zz => Goes p e below s₁ (entryFrame m #[(.ref a1), (.int u), (.double key)] 4) T44 (mkF m 60 #[.val (.ref a1), .val (.int u), .val (.double key), .second] [(.int zz), (.ref a1)])) hp) go48
  obtain ⟨cq51, q51a, q51b⟩ := f34.cell
  obtain ⟨_, _, ⟨T51, L51, k51, n51⟩, -, X51, ⟨Lc51, hQ51, l51, y51, z51⟩, st51⟩ := X44.privateBack hx (y := mN_0) hown (mvT hZ (own_wd hw 37 rfl)) (mvT hZ (own_wd hw 38 rfl)) (own_selp (y := mN_0) (by decide) (mvT hZ (own_wd hw 1 rfl)) (mvP hZ (own_wd hw 39 rfl)) (mvT hZ (own_wd hw 38 rfl))) (Cond.privateMethod_at (mvP hZ (own_wd hw 39 rfl) (args := #[]))) (mvT hZ (own_wd hw 40 rfl)) (by decide) (backOf (W := 0) (rmD01 l Z a0 hw [] a1 aK aI aP kk ki kp (own_u kf u key) τ33 T33.heap n0 Z40 f34 f35 f36 f37 f38 f39 VIq33 VPq33 nKI nKP nIP nAK nAI nAP gA gK gI gP (hR49 (0 : Int32) (by decide))) hZ (own_wd hw 40 rfl) (own_wd hw 2 rfl) (by decide) (by decide)) (g := (mkF m 60 #[.val (.ref a1), .val (.int u), .val (.double key), .second] [(.int (0 : Int32)), (.ref a1)])) rfl (by rw [hml]; rfl) (Steps.refl _) (a := a1) (by rw [e44]; exact q51a) q51b (argsL := [(.int (0 : Int32))]) (rest := []) (lenOf pd_2 rfl) rfl (by show 2 * 0 + _ ≤ _; exact Nat.le_of_eq rfl) (hb hby d4_60) (fun _ _ => ⟨rfl, e44, (by decide : 0 + 0 ≤ rO_3.cells), (by decide : 0 + 0 ≤ rO_3.slots)⟩)
  dsimp only [Pt.U, Pt.locs, Pt.cells, Pt.slots] at X51 l51 y51 z51 st51 hQ51
  subst l51 y51 z51
  obtain ⟨rfl, N51q, Kq51, VIq51, VPq51⟩ := hQ51
  have N51 := Fr.app N33 N51q
  have f52 := f34.keep Kq51
  have f53 := f35.keep Kq51 (ninS nAI (ninS nAP nin0))
  have f54 := f36.keep Kq51 (ninS nAI (ninS nAP nin0))
  have f55 := f37.keep Kq51 (ninS nAI (ninS nAP nin0))
  have f56 := f38.keep Kq51 (ninS nAI (ninS nAP nin0))
  have f57 := f39.keep Kq51 (ninS nKI (ninS nKP nin0))
  have Z58 := Nat.le_trans Z40 Kq51.1
  have K59 := K41.trans Kq51 (allS (Or.inl (List.mem_of_getElem? (i := 2) rfl)) (allS (Or.inl (List.mem_of_getElem? (i := 3) rfl)) all0))
  have go60 : Goes p e below s₁ (entryFrame m #[(.ref a1), (.int u), (.double key)] 4) T51 (mkF m 63 #[.val (.ref a1), .val (.int u), .val (.double key), .second] []) := fun t k => go50 t (st51.trans k)
  obtain ⟨fs, hr, hrun, hended, hW, hsame⟩ := X51.leave (v := none) (fun _ => rfl)
  have hput : own_sift (own_u kf u key) σ u (1 : Int32) = own_dn (own_u kf u key) τ33 (0 : Int32) (1 : Int32) := by
    unfold own_sift; rw [hgu, ← hτ33, hp]
  refine ⟨_, _, go60 _ ?_, hrun, hended, _, _, rfl, ?_, ⟨_, rfl⟩, hW, hsame.mono (by decide) (by decide)⟩
  · exact X51.returnOut hx Bd.returns (hb hby d4_63) hr
  · show QPP01 Z _ _ _ _ _ _ _ _ _ _ _ _ _ _ T51.heap _
    exact ⟨rfl, N51, K59, f52, f53, f54, f55, f56, f57, by rw [hput]; exact VIq51, by rw [hput]; exact VPq51⟩
theorem ef_rmPP02 (m : MethodId) (a1 : Addr) (u : Int32) (key : UInt64) : entryFrame m #[(.ref a1), (.int u), (.double key)] 4 = mkF m 0 #[.val (.ref a1), .val (.int u), .val (.double key), .second] [] := by first | (simp [entryFrame, mkF, argsToLocals, Value.category]; done) | rfl
def QPP02 (Z : State) (a1 : Addr) (u : Int32) (key : UInt64) (aK aI aP : Addr) (kk ki kp : ClassId) (kf : Int32 → UInt64) (σ : own_P) (h0 : Heap) (n0 : Nat) (v : Option Value) (h : Heap) (L : List Loc) : Prop := v = none ∧ Fr n0 L ∧ Keep h0 h [a1, aK, aI, aP] ∧ Exa Z h a1 "com/example/covermesh/covermesh/algorithms/IndexedMinHeap" ∧ Fld Z h a1 "com/example/covermesh/covermesh/algorithms/IndexedMinHeap" "keys" "[D" (.ref aK) ∧ Fld Z h a1 "com/example/covermesh/covermesh/algorithms/IndexedMinHeap" "items" "[I" (.ref aI) ∧ Fld Z h a1 "com/example/covermesh/covermesh/algorithms/IndexedMinHeap" "positions" "[I" (.ref aP) ∧ Fld Z h a1 "com/example/covermesh/covermesh/algorithms/IndexedMinHeap" "size" "I" (.int (2 : Int32)) ∧ Arv Z h aK kk .double 3 (own_d (own_u kf u key)) (.double (0 : UInt64)) ∧ Arv Z h aI ki .int 3 (own_l (own_sift (own_u kf u key) σ u (2 : Int32)).1) (.int (0 : Int32)) ∧ Arv Z h aP kp .int 3 (own_l (own_sift (own_u kf u key) σ u (2 : Int32)).2) (.int (0 : Int32))
set_option maxRecDepth 65536 in
set_option maxHeartbeats 40000000 in
theorem rmPP02 (l : Launch) (Z : State) (a0 : Array Value) (hw : ∀ d ∈ tables_1, d.before a0 Z = true) (ws : List Jvm.Cond) (a1 : Addr) (u : Int32) (key : UInt64) (aK aI aP : Addr) (kk ki kp : ClassId) (kf : Int32 → UInt64) (σ : own_P) (h0 : Heap) (n0 : Nat) (Z0 : n0 ≤ h0.size) (E1 : Exa Z h0 a1 "com/example/covermesh/covermesh/algorithms/IndexedMinHeap") (FK : Fld Z h0 a1 "com/example/covermesh/covermesh/algorithms/IndexedMinHeap" "keys" "[D" (.ref aK)) (FI : Fld Z h0 a1 "com/example/covermesh/covermesh/algorithms/IndexedMinHeap" "items" "[I" (.ref aI)) (FP : Fld Z h0 a1 "com/example/covermesh/covermesh/algorithms/IndexedMinHeap" "positions" "[I" (.ref aP)) (FS : Fld Z h0 a1 "com/example/covermesh/covermesh/algorithms/IndexedMinHeap" "size" "I" (.int (2 : Int32))) (VK : Arv Z h0 aK kk .double 3 (own_d kf) (.double (0 : UInt64))) (VI : Arv Z h0 aI ki .int 3 (own_l σ.1) (.int (0 : Int32))) (VP : Arv Z h0 aP kp .int 3 (own_l σ.2) (.int (0 : Int32))) (nKI : aK ≠ aI) (nKP : aK ≠ aP) (nIP : aI ≠ aP) (nAK : a1 ≠ aK) (nAI : a1 ≠ aI) (nAP : a1 ≠ aP) (gA : n0 ≤ a1) (gK : n0 ≤ aK) (gI : n0 ≤ aI) (gP : n0 ≤ aP) (Ru : own_R u) (hgu : σ.2 u = (0 : Int32)) (hui : σ.1 (0 : Int32) = u) (R0 : own_R (σ.1 (0 : Int32))) (R1 : own_R (σ.1 (1 : Int32))) :
    MetFree l mN_2 (head1 (Jvm.Cond.code mN_2 prog_17_method_4_code 4 none :: ws) rO_3) (fun a U => a = #[(.ref a1), (.int u), (.double key)] ∧ Z.Warmed39 U.vm ∧ U.heap = h0) (fun _ _ _ _ _ => True) (fun _ U o U' => ∃ v L, o = .returned v ∧ QPP02 Z a1 u key aK aI aP kk ki kp kf σ h0 n0 v U'.heap L ∧ FrameEnd U o U' L rO_3.cells rO_3.slots) := by
  refine MetFree.of_bodySF (plainFor_of_name pn_0) hisR ?_
  intro p e s m args below meth c s₁ Bd hml0 hP hK
  obtain ⟨rfl, hZ, hh⟩ := hP
  have hx := Bd.exec
  have hby := Bd.bytes
  have hml : c.maxLocals = 4 := hml0
  have hown : s.vm.findClass "com/example/covermesh/covermesh/algorithms/IndexedMinHeap" = some m.cls := findClass_of_methodNamed Bd.named
  have hnm := (name_of_methodNamed Bd.named Bd.method).1
  have X0 : Stand p l e rO_3 s m #[(.ref a1), (.int u), (.double key)] below meth c s₁ [] 0 0 := Stand.of_body Bd
  have e0 : s₁.heap = h0 := by rw [← hh, Bd.state]; rfl
  have N0 := Fr.nil n0
  have K0 := Keep.refl h0 [a1, aK, aI, aP]
  have go0 : Goes p e below s₁ (entryFrame m #[(.ref a1), (.int u), (.double key)] 4) s₁ (mkF m 0 #[.val (.ref a1), .val (.int u), .val (.double key), .second] []) := fun t k => castTop (ef_rmPP02 m a1 u key) k
  have go1 : Goes p e below s₁ (entryFrame m #[(.ref a1), (.int u), (.double key)] 4) s₁ (mkF m 1 #[.val (.ref a1), .val (.int u), .val (.double key), .second] [(.ref a1)]) := fun t k => by
    refine go0 t ?_
    refine XS.aloadN X0.here hx rfl (hb hby d4_0) rfl rfl ?_
    exact k
  obtain ⟨T2, X2, e2, st2⟩ := getF X0 hx hZ hown (host := "") (Or.inl (own_wd hw 15 rfl)) Via.refl e0 FP (g := (mkF m 1 #[.val (.ref a1), .val (.int u), .val (.double key), .second] [(.ref a1)])) rfl rfl (hb hby d4_1)
  have go3 : Goes p e below s₁ (entryFrame m #[(.ref a1), (.int u), (.double key)] 4) T2 (mkF m 4 #[.val (.ref a1), .val (.int u), .val (.double key), .second] [(.ref aP)]) := fun t k => go1 t (st2 t k)
  have go4 : Goes p e below s₁ (entryFrame m #[(.ref a1), (.int u), (.double key)] 4) T2 (mkF m 5 #[.val (.ref a1), .val (.int u), .val (.double key), .second] [(.int u), (.ref aP)]) := fun t k => by
    refine go3 t ?_
    refine XS.iloadN X2.here hx rfl (hb hby d4_4) rfl ?_
    exact k
  obtain ⟨cl5, Ar5, kq5, Sz5, Nn5, Hs5, Gf5⟩ := id (VP)
  have hin5 : ¬ (u < 0 ∨ cl5.slots.size ≤ (u).toNatClampNeg) := inb_of Sz5 (own_inb Ru)
  have hat5 : cl5.slots[(u).toNatClampNeg]? = some (.int (σ.2 u)) := Has.at Hs5 hin5 (own_l_at Ru)
  have go6 : Goes p e below s₁ (entryFrame m #[(.ref a1), (.int u), (.double key)] 4) T2 (mkF m 6 #[.val (.ref a1), .val (.int u), .val (.double key), .second] [(.int (σ.2 u))]) := fun t k => by
    refine go4 t ?_
    refine X2.iaload hx (j := u) (v := (.int (σ.2 u))) (own_hp e2 Ar5.1) (State.isArrayOf_alike hZ.alike Ar5.2.1) Ar5.2.2 hin5 hat5 (g := (mkF m 5 #[.val (.ref a1), .val (.int u), .val (.double key), .second] [(.int u), (.ref aP)])) rfl rfl (hb hby d4_5) _ ?_
    exact k
  have go7 : Goes p e below s₁ (entryFrame m #[(.ref a1), (.int u), (.double key)] 4) T2 (mkF m 6 #[.val (.ref a1), .val (.int u), .val (.double key), .second] [(.int (0 : Int32))]) := Eq.mp (congrArg (fun zz => Goes p e below s₁ (entryFrame m #[(.ref a1), (.int u), (.double key)] 4) T2 (mkF m 6 #[.val (.ref a1), .val (.int u), .val (.double key), .second] [(.int zz)])) hgu) go6
  have go8 : Goes p e below s₁ (entryFrame m #[(.ref a1), (.int u), (.double key)] 4) T2 (mkF m 37 #[.val (.ref a1), .val (.int u), .val (.double key), .second] [(.ref a1)]) := fun t k => by
    refine go7 t ?_
    refine XS.ifYes X2.here hx rfl (pc0 := 6) (pc' := 36) rfl (hb hby d4_6) rfl (Jvm.Free.XT.i0_ge_t (by decide)) (by decide) (by decide) ?_
    refine XS.aloadN X2.here hx rfl (hb hby d4_36) rfl rfl ?_
    exact k
  obtain ⟨T9, X9, e9, st9⟩ := getF X2 hx hZ hown (host := "") (Or.inl (own_wd hw 10 rfl)) Via.refl e2 FK (g := (mkF m 37 #[.val (.ref a1), .val (.int u), .val (.double key), .second] [(.ref a1)])) rfl rfl (hb hby d4_37)
  have go10 : Goes p e below s₁ (entryFrame m #[(.ref a1), (.int u), (.double key)] 4) T9 (mkF m 40 #[.val (.ref a1), .val (.int u), .val (.double key), .second] [(.ref aK)]) := fun t k => go8 t (st9 t k)
  have go11 : Goes p e below s₁ (entryFrame m #[(.ref a1), (.int u), (.double key)] 4) T9 (mkF m 42 #[.val (.ref a1), .val (.int u), .val (.double key), .second] [(.double key), (.int u), (.ref aK)]) := fun t k => by
    refine go10 t ?_
    refine XS.iloadN X9.here hx rfl (hb hby d4_40) rfl ?_
    refine Jvm.Free.XS.dloadN X9.here hx rfl (hb hby d4_41) rfl ?_
    exact k
  obtain ⟨cl12, Ar12, kq12, Sz12, Nn12, Hs12, Gf12⟩ := id (VK)
  have hin12 : ¬ (u < 0 ∨ cl12.slots.size ≤ (u).toNatClampNeg) := inb_of Sz12 (own_inb Ru)
  obtain ⟨T13, h13, X13, e13, W13, st13⟩ := stD X9 hx hZ e9 Ar12 (j := u) hin12 (g := (mkF m 42 #[.val (.ref a1), .val (.int u), .val (.double key), .second] [(.double key), (.int u), (.ref aK)])) rfl rfl (hb hby d4_42)
  have V14 : Arv Z h13 aK kk .double 3 (own_d (own_u kf u key)) (.double (0 : UInt64)) := by rw [← own_d_set Ru]; exact Arv.set Ar12 kq12 Sz12 Nn12 Hs12 Gf12 rfl W13 _ rfl (own_d_len Ru)
  have f15 := E1.wr W13
  have f16 := FK.other W13 (Or.inl nAK)
  have f17 := FI.other W13 (Or.inl nAK)
  have f18 := FP.other W13 (Or.inl nAK)
  have f19 := FS.other W13 (Or.inl nAK)
  have f20 := VI.other W13 (Ne.symm nKI)
  have f21 := VP.other W13 (Ne.symm nKP)
  have Z22 := Nat.le_trans Z0 (Nat.le_of_eq W13.size.symm)
  have K23 := K0.wr W13 (Or.inl (List.mem_of_getElem? (i := 1) rfl))
  have N24 := Fr.snoc X13 N0 gK
  have go25 : Goes p e below s₁ (entryFrame m #[(.ref a1), (.int u), (.double key)] 4) T13 (mkF m 43 #[.val (.ref a1), .val (.int u), .val (.double key), .second] []) := fun t k => go11 t (st13 t k)
  have go26 : Goes p e below s₁ (entryFrame m #[(.ref a1), (.int u), (.double key)] 4) T13 (mkF m 45 #[.val (.ref a1), .val (.int u), .val (.double key), .second] [(.ref a1), (.ref a1)]) := fun t k => by
    refine go25 t ?_
    refine XS.aloadN X13.here hx rfl (hb hby d4_43) rfl rfl ?_
    refine XS.aloadN X13.here hx rfl (hb hby d4_44) rfl rfl ?_
    exact k
  obtain ⟨T27, X27, e27, st27⟩ := getF X13 hx hZ hown (host := "") (Or.inl (own_wd hw 15 rfl)) Via.refl e13 f18 (g := (mkF m 45 #[.val (.ref a1), .val (.int u), .val (.double key), .second] [(.ref a1), (.ref a1)])) rfl rfl (hb hby d4_45)
  have go28 : Goes p e below s₁ (entryFrame m #[(.ref a1), (.int u), (.double key)] 4) T27 (mkF m 48 #[.val (.ref a1), .val (.int u), .val (.double key), .second] [(.ref aP), (.ref a1)]) := fun t k => go26 t (st27 t k)
  have go29 : Goes p e below s₁ (entryFrame m #[(.ref a1), (.int u), (.double key)] 4) T27 (mkF m 49 #[.val (.ref a1), .val (.int u), .val (.double key), .second] [(.int u), (.ref aP), (.ref a1)]) := fun t k => by
    refine go28 t ?_
    refine XS.iloadN X27.here hx rfl (hb hby d4_48) rfl ?_
    exact k
  obtain ⟨cl30, Ar30, kq30, Sz30, Nn30, Hs30, Gf30⟩ := id (f21)
  have hin30 : ¬ (u < 0 ∨ cl30.slots.size ≤ (u).toNatClampNeg) := inb_of Sz30 (own_inb Ru)
  have hat30 : cl30.slots[(u).toNatClampNeg]? = some (.int (σ.2 u)) := Has.at Hs30 hin30 (own_l_at Ru)
  have go31 : Goes p e below s₁ (entryFrame m #[(.ref a1), (.int u), (.double key)] 4) T27 (mkF m 50 #[.val (.ref a1), .val (.int u), .val (.double key), .second] [(.int (σ.2 u)), (.ref a1)]) := fun t k => by
    refine go29 t ?_
    refine X27.iaload hx (j := u) (v := (.int (σ.2 u))) (own_hp e27 Ar30.1) (State.isArrayOf_alike hZ.alike Ar30.2.1) Ar30.2.2 hin30 hat30 (g := (mkF m 49 #[.val (.ref a1), .val (.int u), .val (.double key), .second] [(.int u), (.ref aP), (.ref a1)])) rfl rfl (hb hby d4_49) _ ?_
    exact k
  have go32 : Goes p e below s₁ (entryFrame m #[(.ref a1), (.int u), (.double key)] 4) T27 (mkF m 50 #[.val (.ref a1), .val (.int u), .val (.double key), .second] [(.int (0 : Int32)), (.ref a1)]) := Eq.mp (congrArg (fun zz => Goes p e below s₁ (entryFrame m #[(.ref a1), (.int u), (.double key)] 4) T27 (mkF m 50 #[.val (.ref a1), .val (.int u), .val (.double key), .second] [(.int zz), (.ref a1)])) hgu) go31
  obtain ⟨cq33, q33a, q33b⟩ := f15.cell
  obtain ⟨_, _, ⟨T33, L33, k33, n33⟩, -, X33, ⟨Lc33, hQ33, l33, y33, z33⟩, st33⟩ := X27.privateBack hx (y := mN_3) hown (mvT hZ (own_wd hw 29 rfl)) (mvT hZ (own_wd hw 30 rfl)) (own_selp (y := mN_3) (by decide) (mvT hZ (own_wd hw 1 rfl)) (mvP hZ (own_wd hw 31 rfl)) (mvT hZ (own_wd hw 30 rfl))) (Cond.privateMethod_at (mvP hZ (own_wd hw 31 rfl) (args := #[]))) (mvT hZ (own_wd hw 32 rfl)) (by decide) (backOf (W := 0) (rmU0 l Z a0 hw [] a1 aK aI aP kk ki kp (own_u kf u key) σ (2 : Int32) h13 n0 Z22 f15 f16 f17 f18 f19 V14 f20 f21 nKI nKP nIP nAK nAI nAP gA gK gI gP R0) hZ (own_wd hw 32 rfl) (own_wd hw 2 rfl) (by decide) (by decide)) (g := (mkF m 50 #[.val (.ref a1), .val (.int u), .val (.double key), .second] [(.int (0 : Int32)), (.ref a1)])) rfl (by rw [hml]; rfl) (Steps.refl _) (a := a1) (by rw [e27]; exact q33a) q33b (argsL := [(.int (0 : Int32))]) (rest := []) (lenOf pd_2 rfl) rfl (by show 2 * 0 + _ ≤ _; exact Nat.le_of_eq rfl) (hb hby d4_50) (fun _ _ => ⟨rfl, e27, (by decide : 0 + 0 ≤ rO_3.cells), (by decide : 0 + 0 ≤ rO_3.slots)⟩)
  dsimp only [Pt.U, Pt.locs, Pt.cells, Pt.slots] at X33 l33 y33 z33 st33 hQ33
  subst l33 y33 z33
  obtain ⟨rfl, N33q, Kq33, VIq33, VPq33⟩ := hQ33
  have N33 := Fr.app N24 N33q
  have f34 := f15.keep Kq33
  have f35 := f16.keep Kq33 (ninS nAI (ninS nAP nin0))
  have f36 := f17.keep Kq33 (ninS nAI (ninS nAP nin0))
  have f37 := f18.keep Kq33 (ninS nAI (ninS nAP nin0))
  have f38 := f19.keep Kq33 (ninS nAI (ninS nAP nin0))
  have f39 := V14.keep Kq33 (ninS nKI (ninS nKP nin0))
  have Z40 := Nat.le_trans Z22 Kq33.1
  have K41 := K23.trans Kq33 (allS (Or.inl (List.mem_of_getElem? (i := 2) rfl)) (allS (Or.inl (List.mem_of_getElem? (i := 3) rfl)) all0))
  obtain ⟨τ33, hτ33⟩ : ∃ z, z = own_up (own_u kf u key) σ (0 : Int32) := ⟨_, rfl⟩
  rw [← hτ33] at VIq33 VPq33
  have go42 : Goes p e below s₁ (entryFrame m #[(.ref a1), (.int u), (.double key)] 4) T33 (mkF m 53 #[.val (.ref a1), .val (.int u), .val (.double key), .second] []) := fun t k => go32 t (st33.trans k)
  have go43 : Goes p e below s₁ (entryFrame m #[(.ref a1), (.int u), (.double key)] 4) T33 (mkF m 55 #[.val (.ref a1), .val (.int u), .val (.double key), .second] [(.ref a1), (.ref a1)]) := fun t k => by
    refine go42 t ?_
    refine XS.aloadN X33.here hx rfl (hb hby d4_53) rfl rfl ?_
    refine XS.aloadN X33.here hx rfl (hb hby d4_54) rfl rfl ?_
    exact k
  obtain ⟨T44, X44, e44, st44⟩ := getF X33 hx hZ hown (host := "") (Or.inl (own_wd hw 15 rfl)) Via.refl rfl f37 (g := (mkF m 55 #[.val (.ref a1), .val (.int u), .val (.double key), .second] [(.ref a1), (.ref a1)])) rfl rfl (hb hby d4_55)
  have go45 : Goes p e below s₁ (entryFrame m #[(.ref a1), (.int u), (.double key)] 4) T44 (mkF m 58 #[.val (.ref a1), .val (.int u), .val (.double key), .second] [(.ref aP), (.ref a1)]) := fun t k => go43 t (st44 t k)
  have go46 : Goes p e below s₁ (entryFrame m #[(.ref a1), (.int u), (.double key)] 4) T44 (mkF m 59 #[.val (.ref a1), .val (.int u), .val (.double key), .second] [(.int u), (.ref aP), (.ref a1)]) := fun t k => by
    refine go45 t ?_
    refine XS.iloadN X44.here hx rfl (hb hby d4_58) rfl ?_
    exact k
  obtain ⟨cl47, Ar47, kq47, Sz47, Nn47, Hs47, Gf47⟩ := id (VPq33)
  have hin47 : ¬ (u < 0 ∨ cl47.slots.size ≤ (u).toNatClampNeg) := inb_of Sz47 (own_inb Ru)
  have hat47 : cl47.slots[(u).toNatClampNeg]? = some (.int (τ33.2 u)) := Has.at Hs47 hin47 (own_l_at Ru)
  have go48 : Goes p e below s₁ (entryFrame m #[(.ref a1), (.int u), (.double key)] 4) T44 (mkF m 60 #[.val (.ref a1), .val (.int u), .val (.double key), .second] [(.int (τ33.2 u)), (.ref a1)]) := fun t k => by
    refine go46 t ?_
    refine X44.iaload hx (j := u) (v := (.int (τ33.2 u))) (own_hp e44 Ar47.1) (State.isArrayOf_alike hZ.alike Ar47.2.1) Ar47.2.2 hin47 hat47 (g := (mkF m 59 #[.val (.ref a1), .val (.int u), .val (.double key), .second] [(.int u), (.ref aP), (.ref a1)])) rfl rfl (hb hby d4_59) _ ?_
    exact k
  have hpos : τ33.2 u = (0 : Int32) ∨ τ33.2 u = 0 := by rw [hτ33]; exact own_up_pos hui
  have hR0 : ∀ j : Int32, j < (2 : Int32) ∧ ¬ j < 0 → own_R (σ.1 j) := by
    intro j hj
    have h6 : j.toInt = 0 ∨ j.toInt = 1 := by
      have h1 := hj.1; have h2 := hj.2; rw [Int32.lt_iff_toInt_lt] at h1 h2
      have h3 : ((2 : Int32)).toInt = 2 := rfl
      have h4 : (0 : Int32).toInt = 0 := rfl
      omega
    rcases h6 with h6 | h6
    · rw [own_of_toInt h6]; exact R0
    · rw [own_of_toInt h6]; exact R1
  have hR49 : ∀ j : Int32, j < (2 : Int32) ∧ ¬ j < 0 → own_R (τ33.1 j) := fun j hj => by rw [hτ33]; exact own_up_R (hR0 (0 : Int32) (by decide)) (hR0 (0 : Int32) (by decide)) (hR0 j hj)
  have hp := hpos.elim id id
  have go50 : Goes p e below s₁ (entryFrame m #[(.ref a1), (.int u), (.double key)] 4) T44 (mkF m 60 #[.val (.ref a1), .val (.int u), .val (.double key), .second] [(.int (0 : Int32)), (.ref a1)]) := Eq.mp (congrArg (fun zz => Goes p e below s₁ (entryFrame m #[(.ref a1), (.int u), (.double key)] 4) T44 (mkF m 60 #[.val (.ref a1), .val (.int u), .val (.double key), .second] [(.int zz), (.ref a1)])) hp) go48
  obtain ⟨cq51, q51a, q51b⟩ := f34.cell
  obtain ⟨_, _, ⟨T51, L51, k51, n51⟩, -, X51, ⟨Lc51, hQ51, l51, y51, z51⟩, st51⟩ := X44.privateBack hx (y := mN_0) hown (mvT hZ (own_wd hw 37 rfl)) (mvT hZ (own_wd hw 38 rfl)) (own_selp (y := mN_0) (by decide) (mvT hZ (own_wd hw 1 rfl)) (mvP hZ (own_wd hw 39 rfl)) (mvT hZ (own_wd hw 38 rfl))) (Cond.privateMethod_at (mvP hZ (own_wd hw 39 rfl) (args := #[]))) (mvT hZ (own_wd hw 40 rfl)) (by decide) (backOf (W := 0) (rmD02 l Z a0 hw [] a1 aK aI aP kk ki kp (own_u kf u key) τ33 T33.heap n0 Z40 f34 f35 f36 f37 f38 f39 VIq33 VPq33 nKI nKP nIP nAK nAI nAP gA gK gI gP (hR49 (0 : Int32) (by decide)) (hR49 (1 : Int32) (by decide))) hZ (own_wd hw 40 rfl) (own_wd hw 2 rfl) (by decide) (by decide)) (g := (mkF m 60 #[.val (.ref a1), .val (.int u), .val (.double key), .second] [(.int (0 : Int32)), (.ref a1)])) rfl (by rw [hml]; rfl) (Steps.refl _) (a := a1) (by rw [e44]; exact q51a) q51b (argsL := [(.int (0 : Int32))]) (rest := []) (lenOf pd_2 rfl) rfl (by show 2 * 0 + _ ≤ _; exact Nat.le_of_eq rfl) (hb hby d4_60) (fun _ _ => ⟨rfl, e44, (by decide : 0 + 0 ≤ rO_3.cells), (by decide : 0 + 0 ≤ rO_3.slots)⟩)
  dsimp only [Pt.U, Pt.locs, Pt.cells, Pt.slots] at X51 l51 y51 z51 st51 hQ51
  subst l51 y51 z51
  obtain ⟨rfl, N51q, Kq51, VIq51, VPq51⟩ := hQ51
  have N51 := Fr.app N33 N51q
  have f52 := f34.keep Kq51
  have f53 := f35.keep Kq51 (ninS nAI (ninS nAP nin0))
  have f54 := f36.keep Kq51 (ninS nAI (ninS nAP nin0))
  have f55 := f37.keep Kq51 (ninS nAI (ninS nAP nin0))
  have f56 := f38.keep Kq51 (ninS nAI (ninS nAP nin0))
  have f57 := f39.keep Kq51 (ninS nKI (ninS nKP nin0))
  have Z58 := Nat.le_trans Z40 Kq51.1
  have K59 := K41.trans Kq51 (allS (Or.inl (List.mem_of_getElem? (i := 2) rfl)) (allS (Or.inl (List.mem_of_getElem? (i := 3) rfl)) all0))
  have go60 : Goes p e below s₁ (entryFrame m #[(.ref a1), (.int u), (.double key)] 4) T51 (mkF m 63 #[.val (.ref a1), .val (.int u), .val (.double key), .second] []) := fun t k => go50 t (st51.trans k)
  obtain ⟨fs, hr, hrun, hended, hW, hsame⟩ := X51.leave (v := none) (fun _ => rfl)
  have hput : own_sift (own_u kf u key) σ u (2 : Int32) = own_dn (own_u kf u key) τ33 (0 : Int32) (2 : Int32) := by
    unfold own_sift; rw [hgu, ← hτ33, hp]
  refine ⟨_, _, go60 _ ?_, hrun, hended, _, _, rfl, ?_, ⟨_, rfl⟩, hW, hsame.mono (by decide) (by decide)⟩
  · exact X51.returnOut hx Bd.returns (hb hby d4_63) hr
  · show QPP02 Z _ _ _ _ _ _ _ _ _ _ _ _ _ _ T51.heap _
    exact ⟨rfl, N51, K59, f52, f53, f54, f55, f56, f57, by rw [hput]; exact VIq51, by rw [hput]; exact VPq51⟩
theorem ef_rmPP12 (m : MethodId) (a1 : Addr) (u : Int32) (key : UInt64) : entryFrame m #[(.ref a1), (.int u), (.double key)] 4 = mkF m 0 #[.val (.ref a1), .val (.int u), .val (.double key), .second] [] := by first | (simp [entryFrame, mkF, argsToLocals, Value.category]; done) | rfl
def QPP12 (Z : State) (a1 : Addr) (u : Int32) (key : UInt64) (aK aI aP : Addr) (kk ki kp : ClassId) (kf : Int32 → UInt64) (σ : own_P) (h0 : Heap) (n0 : Nat) (v : Option Value) (h : Heap) (L : List Loc) : Prop := v = none ∧ Fr n0 L ∧ Keep h0 h [a1, aK, aI, aP] ∧ Exa Z h a1 "com/example/covermesh/covermesh/algorithms/IndexedMinHeap" ∧ Fld Z h a1 "com/example/covermesh/covermesh/algorithms/IndexedMinHeap" "keys" "[D" (.ref aK) ∧ Fld Z h a1 "com/example/covermesh/covermesh/algorithms/IndexedMinHeap" "items" "[I" (.ref aI) ∧ Fld Z h a1 "com/example/covermesh/covermesh/algorithms/IndexedMinHeap" "positions" "[I" (.ref aP) ∧ Fld Z h a1 "com/example/covermesh/covermesh/algorithms/IndexedMinHeap" "size" "I" (.int (2 : Int32)) ∧ Arv Z h aK kk .double 3 (own_d (own_u kf u key)) (.double (0 : UInt64)) ∧ Arv Z h aI ki .int 3 (own_l (own_sift (own_u kf u key) σ u (2 : Int32)).1) (.int (0 : Int32)) ∧ Arv Z h aP kp .int 3 (own_l (own_sift (own_u kf u key) σ u (2 : Int32)).2) (.int (0 : Int32))
set_option maxRecDepth 65536 in
set_option maxHeartbeats 40000000 in
theorem rmPP12 (l : Launch) (Z : State) (a0 : Array Value) (hw : ∀ d ∈ tables_1, d.before a0 Z = true) (ws : List Jvm.Cond) (a1 : Addr) (u : Int32) (key : UInt64) (aK aI aP : Addr) (kk ki kp : ClassId) (kf : Int32 → UInt64) (σ : own_P) (h0 : Heap) (n0 : Nat) (Z0 : n0 ≤ h0.size) (E1 : Exa Z h0 a1 "com/example/covermesh/covermesh/algorithms/IndexedMinHeap") (FK : Fld Z h0 a1 "com/example/covermesh/covermesh/algorithms/IndexedMinHeap" "keys" "[D" (.ref aK)) (FI : Fld Z h0 a1 "com/example/covermesh/covermesh/algorithms/IndexedMinHeap" "items" "[I" (.ref aI)) (FP : Fld Z h0 a1 "com/example/covermesh/covermesh/algorithms/IndexedMinHeap" "positions" "[I" (.ref aP)) (FS : Fld Z h0 a1 "com/example/covermesh/covermesh/algorithms/IndexedMinHeap" "size" "I" (.int (2 : Int32))) (VK : Arv Z h0 aK kk .double 3 (own_d kf) (.double (0 : UInt64))) (VI : Arv Z h0 aI ki .int 3 (own_l σ.1) (.int (0 : Int32))) (VP : Arv Z h0 aP kp .int 3 (own_l σ.2) (.int (0 : Int32))) (nKI : aK ≠ aI) (nKP : aK ≠ aP) (nIP : aI ≠ aP) (nAK : a1 ≠ aK) (nAI : a1 ≠ aI) (nAP : a1 ≠ aP) (gA : n0 ≤ a1) (gK : n0 ≤ aK) (gI : n0 ≤ aI) (gP : n0 ≤ aP) (Ru : own_R u) (hgu : σ.2 u = (1 : Int32)) (hui : σ.1 (1 : Int32) = u) (R0 : own_R (σ.1 (0 : Int32))) (R1 : own_R (σ.1 (1 : Int32))) :
    MetFree l mN_2 (head1 (Jvm.Cond.code mN_2 prog_17_method_4_code 4 none :: ws) rO_3) (fun a U => a = #[(.ref a1), (.int u), (.double key)] ∧ Z.Warmed39 U.vm ∧ U.heap = h0) (fun _ _ _ _ _ => True) (fun _ U o U' => ∃ v L, o = .returned v ∧ QPP12 Z a1 u key aK aI aP kk ki kp kf σ h0 n0 v U'.heap L ∧ FrameEnd U o U' L rO_3.cells rO_3.slots) := by
  refine MetFree.of_bodySF (plainFor_of_name pn_0) hisR ?_
  intro p e s m args below meth c s₁ Bd hml0 hP hK
  obtain ⟨rfl, hZ, hh⟩ := hP
  have hx := Bd.exec
  have hby := Bd.bytes
  have hml : c.maxLocals = 4 := hml0
  have hown : s.vm.findClass "com/example/covermesh/covermesh/algorithms/IndexedMinHeap" = some m.cls := findClass_of_methodNamed Bd.named
  have hnm := (name_of_methodNamed Bd.named Bd.method).1
  have X0 : Stand p l e rO_3 s m #[(.ref a1), (.int u), (.double key)] below meth c s₁ [] 0 0 := Stand.of_body Bd
  have e0 : s₁.heap = h0 := by rw [← hh, Bd.state]; rfl
  have N0 := Fr.nil n0
  have K0 := Keep.refl h0 [a1, aK, aI, aP]
  have go0 : Goes p e below s₁ (entryFrame m #[(.ref a1), (.int u), (.double key)] 4) s₁ (mkF m 0 #[.val (.ref a1), .val (.int u), .val (.double key), .second] []) := fun t k => castTop (ef_rmPP12 m a1 u key) k
  have go1 : Goes p e below s₁ (entryFrame m #[(.ref a1), (.int u), (.double key)] 4) s₁ (mkF m 1 #[.val (.ref a1), .val (.int u), .val (.double key), .second] [(.ref a1)]) := fun t k => by
    refine go0 t ?_
    refine XS.aloadN X0.here hx rfl (hb hby d4_0) rfl rfl ?_
    exact k
  obtain ⟨T2, X2, e2, st2⟩ := getF X0 hx hZ hown (host := "") (Or.inl (own_wd hw 15 rfl)) Via.refl e0 FP (g := (mkF m 1 #[.val (.ref a1), .val (.int u), .val (.double key), .second] [(.ref a1)])) rfl rfl (hb hby d4_1)
  have go3 : Goes p e below s₁ (entryFrame m #[(.ref a1), (.int u), (.double key)] 4) T2 (mkF m 4 #[.val (.ref a1), .val (.int u), .val (.double key), .second] [(.ref aP)]) := fun t k => go1 t (st2 t k)
  have go4 : Goes p e below s₁ (entryFrame m #[(.ref a1), (.int u), (.double key)] 4) T2 (mkF m 5 #[.val (.ref a1), .val (.int u), .val (.double key), .second] [(.int u), (.ref aP)]) := fun t k => by
    refine go3 t ?_
    refine XS.iloadN X2.here hx rfl (hb hby d4_4) rfl ?_
    exact k
  obtain ⟨cl5, Ar5, kq5, Sz5, Nn5, Hs5, Gf5⟩ := id (VP)
  have hin5 : ¬ (u < 0 ∨ cl5.slots.size ≤ (u).toNatClampNeg) := inb_of Sz5 (own_inb Ru)
  have hat5 : cl5.slots[(u).toNatClampNeg]? = some (.int (σ.2 u)) := Has.at Hs5 hin5 (own_l_at Ru)
  have go6 : Goes p e below s₁ (entryFrame m #[(.ref a1), (.int u), (.double key)] 4) T2 (mkF m 6 #[.val (.ref a1), .val (.int u), .val (.double key), .second] [(.int (σ.2 u))]) := fun t k => by
    refine go4 t ?_
    refine X2.iaload hx (j := u) (v := (.int (σ.2 u))) (own_hp e2 Ar5.1) (State.isArrayOf_alike hZ.alike Ar5.2.1) Ar5.2.2 hin5 hat5 (g := (mkF m 5 #[.val (.ref a1), .val (.int u), .val (.double key), .second] [(.int u), (.ref aP)])) rfl rfl (hb hby d4_5) _ ?_
    exact k
  have go7 : Goes p e below s₁ (entryFrame m #[(.ref a1), (.int u), (.double key)] 4) T2 (mkF m 6 #[.val (.ref a1), .val (.int u), .val (.double key), .second] [(.int (1 : Int32))]) := Eq.mp (congrArg (fun zz => Goes p e below s₁ (entryFrame m #[(.ref a1), (.int u), (.double key)] 4) T2 (mkF m 6 #[.val (.ref a1), .val (.int u), .val (.double key), .second] [(.int zz)])) hgu) go6
  have go8 : Goes p e below s₁ (entryFrame m #[(.ref a1), (.int u), (.double key)] 4) T2 (mkF m 37 #[.val (.ref a1), .val (.int u), .val (.double key), .second] [(.ref a1)]) := fun t k => by
    refine go7 t ?_
    refine XS.ifYes X2.here hx rfl (pc0 := 6) (pc' := 36) rfl (hb hby d4_6) rfl (Jvm.Free.XT.i0_ge_t (by decide)) (by decide) (by decide) ?_
    refine XS.aloadN X2.here hx rfl (hb hby d4_36) rfl rfl ?_
    exact k
  obtain ⟨T9, X9, e9, st9⟩ := getF X2 hx hZ hown (host := "") (Or.inl (own_wd hw 10 rfl)) Via.refl e2 FK (g := (mkF m 37 #[.val (.ref a1), .val (.int u), .val (.double key), .second] [(.ref a1)])) rfl rfl (hb hby d4_37)
  have go10 : Goes p e below s₁ (entryFrame m #[(.ref a1), (.int u), (.double key)] 4) T9 (mkF m 40 #[.val (.ref a1), .val (.int u), .val (.double key), .second] [(.ref aK)]) := fun t k => go8 t (st9 t k)
  have go11 : Goes p e below s₁ (entryFrame m #[(.ref a1), (.int u), (.double key)] 4) T9 (mkF m 42 #[.val (.ref a1), .val (.int u), .val (.double key), .second] [(.double key), (.int u), (.ref aK)]) := fun t k => by
    refine go10 t ?_
    refine XS.iloadN X9.here hx rfl (hb hby d4_40) rfl ?_
    refine Jvm.Free.XS.dloadN X9.here hx rfl (hb hby d4_41) rfl ?_
    exact k
  obtain ⟨cl12, Ar12, kq12, Sz12, Nn12, Hs12, Gf12⟩ := id (VK)
  have hin12 : ¬ (u < 0 ∨ cl12.slots.size ≤ (u).toNatClampNeg) := inb_of Sz12 (own_inb Ru)
  obtain ⟨T13, h13, X13, e13, W13, st13⟩ := stD X9 hx hZ e9 Ar12 (j := u) hin12 (g := (mkF m 42 #[.val (.ref a1), .val (.int u), .val (.double key), .second] [(.double key), (.int u), (.ref aK)])) rfl rfl (hb hby d4_42)
  have V14 : Arv Z h13 aK kk .double 3 (own_d (own_u kf u key)) (.double (0 : UInt64)) := by rw [← own_d_set Ru]; exact Arv.set Ar12 kq12 Sz12 Nn12 Hs12 Gf12 rfl W13 _ rfl (own_d_len Ru)
  have f15 := E1.wr W13
  have f16 := FK.other W13 (Or.inl nAK)
  have f17 := FI.other W13 (Or.inl nAK)
  have f18 := FP.other W13 (Or.inl nAK)
  have f19 := FS.other W13 (Or.inl nAK)
  have f20 := VI.other W13 (Ne.symm nKI)
  have f21 := VP.other W13 (Ne.symm nKP)
  have Z22 := Nat.le_trans Z0 (Nat.le_of_eq W13.size.symm)
  have K23 := K0.wr W13 (Or.inl (List.mem_of_getElem? (i := 1) rfl))
  have N24 := Fr.snoc X13 N0 gK
  have go25 : Goes p e below s₁ (entryFrame m #[(.ref a1), (.int u), (.double key)] 4) T13 (mkF m 43 #[.val (.ref a1), .val (.int u), .val (.double key), .second] []) := fun t k => go11 t (st13 t k)
  have go26 : Goes p e below s₁ (entryFrame m #[(.ref a1), (.int u), (.double key)] 4) T13 (mkF m 45 #[.val (.ref a1), .val (.int u), .val (.double key), .second] [(.ref a1), (.ref a1)]) := fun t k => by
    refine go25 t ?_
    refine XS.aloadN X13.here hx rfl (hb hby d4_43) rfl rfl ?_
    refine XS.aloadN X13.here hx rfl (hb hby d4_44) rfl rfl ?_
    exact k
  obtain ⟨T27, X27, e27, st27⟩ := getF X13 hx hZ hown (host := "") (Or.inl (own_wd hw 15 rfl)) Via.refl e13 f18 (g := (mkF m 45 #[.val (.ref a1), .val (.int u), .val (.double key), .second] [(.ref a1), (.ref a1)])) rfl rfl (hb hby d4_45)
  have go28 : Goes p e below s₁ (entryFrame m #[(.ref a1), (.int u), (.double key)] 4) T27 (mkF m 48 #[.val (.ref a1), .val (.int u), .val (.double key), .second] [(.ref aP), (.ref a1)]) := fun t k => go26 t (st27 t k)
  have go29 : Goes p e below s₁ (entryFrame m #[(.ref a1), (.int u), (.double key)] 4) T27 (mkF m 49 #[.val (.ref a1), .val (.int u), .val (.double key), .second] [(.int u), (.ref aP), (.ref a1)]) := fun t k => by
    refine go28 t ?_
    refine XS.iloadN X27.here hx rfl (hb hby d4_48) rfl ?_
    exact k
  obtain ⟨cl30, Ar30, kq30, Sz30, Nn30, Hs30, Gf30⟩ := id (f21)
  have hin30 : ¬ (u < 0 ∨ cl30.slots.size ≤ (u).toNatClampNeg) := inb_of Sz30 (own_inb Ru)
  have hat30 : cl30.slots[(u).toNatClampNeg]? = some (.int (σ.2 u)) := Has.at Hs30 hin30 (own_l_at Ru)
  have go31 : Goes p e below s₁ (entryFrame m #[(.ref a1), (.int u), (.double key)] 4) T27 (mkF m 50 #[.val (.ref a1), .val (.int u), .val (.double key), .second] [(.int (σ.2 u)), (.ref a1)]) := fun t k => by
    refine go29 t ?_
    refine X27.iaload hx (j := u) (v := (.int (σ.2 u))) (own_hp e27 Ar30.1) (State.isArrayOf_alike hZ.alike Ar30.2.1) Ar30.2.2 hin30 hat30 (g := (mkF m 49 #[.val (.ref a1), .val (.int u), .val (.double key), .second] [(.int u), (.ref aP), (.ref a1)])) rfl rfl (hb hby d4_49) _ ?_
    exact k
  have go32 : Goes p e below s₁ (entryFrame m #[(.ref a1), (.int u), (.double key)] 4) T27 (mkF m 50 #[.val (.ref a1), .val (.int u), .val (.double key), .second] [(.int (1 : Int32)), (.ref a1)]) := Eq.mp (congrArg (fun zz => Goes p e below s₁ (entryFrame m #[(.ref a1), (.int u), (.double key)] 4) T27 (mkF m 50 #[.val (.ref a1), .val (.int u), .val (.double key), .second] [(.int zz), (.ref a1)])) hgu) go31
  obtain ⟨cq33, q33a, q33b⟩ := f15.cell
  obtain ⟨_, _, ⟨T33, L33, k33, n33⟩, -, X33, ⟨Lc33, hQ33, l33, y33, z33⟩, st33⟩ := X27.privateBack hx (y := mN_3) hown (mvT hZ (own_wd hw 29 rfl)) (mvT hZ (own_wd hw 30 rfl)) (own_selp (y := mN_3) (by decide) (mvT hZ (own_wd hw 1 rfl)) (mvP hZ (own_wd hw 31 rfl)) (mvT hZ (own_wd hw 30 rfl))) (Cond.privateMethod_at (mvP hZ (own_wd hw 31 rfl) (args := #[]))) (mvT hZ (own_wd hw 32 rfl)) (by decide) (backOf (W := 0) (rmU1 l Z a0 hw [] a1 aK aI aP kk ki kp (own_u kf u key) σ (2 : Int32) h13 n0 Z22 f15 f16 f17 f18 f19 V14 f20 f21 nKI nKP nIP nAK nAI nAP gA gK gI gP R1 R0) hZ (own_wd hw 32 rfl) (own_wd hw 2 rfl) (by decide) (by decide)) (g := (mkF m 50 #[.val (.ref a1), .val (.int u), .val (.double key), .second] [(.int (1 : Int32)), (.ref a1)])) rfl (by rw [hml]; rfl) (Steps.refl _) (a := a1) (by rw [e27]; exact q33a) q33b (argsL := [(.int (1 : Int32))]) (rest := []) (lenOf pd_2 rfl) rfl (by show 2 * 0 + _ ≤ _; exact Nat.le_of_eq rfl) (hb hby d4_50) (fun _ _ => ⟨rfl, e27, (by decide : 0 + 0 ≤ rO_3.cells), (by decide : 0 + 0 ≤ rO_3.slots)⟩)
  dsimp only [Pt.U, Pt.locs, Pt.cells, Pt.slots] at X33 l33 y33 z33 st33 hQ33
  subst l33 y33 z33
  obtain ⟨rfl, N33q, Kq33, VIq33, VPq33⟩ := hQ33
  have N33 := Fr.app N24 N33q
  have f34 := f15.keep Kq33
  have f35 := f16.keep Kq33 (ninS nAI (ninS nAP nin0))
  have f36 := f17.keep Kq33 (ninS nAI (ninS nAP nin0))
  have f37 := f18.keep Kq33 (ninS nAI (ninS nAP nin0))
  have f38 := f19.keep Kq33 (ninS nAI (ninS nAP nin0))
  have f39 := V14.keep Kq33 (ninS nKI (ninS nKP nin0))
  have Z40 := Nat.le_trans Z22 Kq33.1
  have K41 := K23.trans Kq33 (allS (Or.inl (List.mem_of_getElem? (i := 2) rfl)) (allS (Or.inl (List.mem_of_getElem? (i := 3) rfl)) all0))
  obtain ⟨τ33, hτ33⟩ : ∃ z, z = own_up (own_u kf u key) σ (1 : Int32) := ⟨_, rfl⟩
  rw [← hτ33] at VIq33 VPq33
  have go42 : Goes p e below s₁ (entryFrame m #[(.ref a1), (.int u), (.double key)] 4) T33 (mkF m 53 #[.val (.ref a1), .val (.int u), .val (.double key), .second] []) := fun t k => go32 t (st33.trans k)
  have go43 : Goes p e below s₁ (entryFrame m #[(.ref a1), (.int u), (.double key)] 4) T33 (mkF m 55 #[.val (.ref a1), .val (.int u), .val (.double key), .second] [(.ref a1), (.ref a1)]) := fun t k => by
    refine go42 t ?_
    refine XS.aloadN X33.here hx rfl (hb hby d4_53) rfl rfl ?_
    refine XS.aloadN X33.here hx rfl (hb hby d4_54) rfl rfl ?_
    exact k
  obtain ⟨T44, X44, e44, st44⟩ := getF X33 hx hZ hown (host := "") (Or.inl (own_wd hw 15 rfl)) Via.refl rfl f37 (g := (mkF m 55 #[.val (.ref a1), .val (.int u), .val (.double key), .second] [(.ref a1), (.ref a1)])) rfl rfl (hb hby d4_55)
  have go45 : Goes p e below s₁ (entryFrame m #[(.ref a1), (.int u), (.double key)] 4) T44 (mkF m 58 #[.val (.ref a1), .val (.int u), .val (.double key), .second] [(.ref aP), (.ref a1)]) := fun t k => go43 t (st44 t k)
  have go46 : Goes p e below s₁ (entryFrame m #[(.ref a1), (.int u), (.double key)] 4) T44 (mkF m 59 #[.val (.ref a1), .val (.int u), .val (.double key), .second] [(.int u), (.ref aP), (.ref a1)]) := fun t k => by
    refine go45 t ?_
    refine XS.iloadN X44.here hx rfl (hb hby d4_58) rfl ?_
    exact k
  obtain ⟨cl47, Ar47, kq47, Sz47, Nn47, Hs47, Gf47⟩ := id (VPq33)
  have hin47 : ¬ (u < 0 ∨ cl47.slots.size ≤ (u).toNatClampNeg) := inb_of Sz47 (own_inb Ru)
  have hat47 : cl47.slots[(u).toNatClampNeg]? = some (.int (τ33.2 u)) := Has.at Hs47 hin47 (own_l_at Ru)
  have go48 : Goes p e below s₁ (entryFrame m #[(.ref a1), (.int u), (.double key)] 4) T44 (mkF m 60 #[.val (.ref a1), .val (.int u), .val (.double key), .second] [(.int (τ33.2 u)), (.ref a1)]) := fun t k => by
    refine go46 t ?_
    refine X44.iaload hx (j := u) (v := (.int (τ33.2 u))) (own_hp e44 Ar47.1) (State.isArrayOf_alike hZ.alike Ar47.2.1) Ar47.2.2 hin47 hat47 (g := (mkF m 59 #[.val (.ref a1), .val (.int u), .val (.double key), .second] [(.int u), (.ref aP), (.ref a1)])) rfl rfl (hb hby d4_59) _ ?_
    exact k
  have hpos : τ33.2 u = (1 : Int32) ∨ τ33.2 u = 0 := by rw [hτ33]; exact own_up_pos hui
  have hR0 : ∀ j : Int32, j < (2 : Int32) ∧ ¬ j < 0 → own_R (σ.1 j) := by
    intro j hj
    have h6 : j.toInt = 0 ∨ j.toInt = 1 := by
      have h1 := hj.1; have h2 := hj.2; rw [Int32.lt_iff_toInt_lt] at h1 h2
      have h3 : ((2 : Int32)).toInt = 2 := rfl
      have h4 : (0 : Int32).toInt = 0 := rfl
      omega
    rcases h6 with h6 | h6
    · rw [own_of_toInt h6]; exact R0
    · rw [own_of_toInt h6]; exact R1
  have hR49 : ∀ j : Int32, j < (2 : Int32) ∧ ¬ j < 0 → own_R (τ33.1 j) := fun j hj => by rw [hτ33]; exact own_up_R (hR0 (1 : Int32) (by decide)) (hR0 (0 : Int32) (by decide)) (hR0 j hj)
  rcases hpos with hp | hp
  · have go50 : Goes p e below s₁ (entryFrame m #[(.ref a1), (.int u), (.double key)] 4) T44 (mkF m 60 #[.val (.ref a1), .val (.int u), .val (.double key), .second] [(.int (1 : Int32)), (.ref a1)]) := Eq.mp (congrArg (fun zz => Goes p e below s₁ (entryFrame m #[(.ref a1), (.int u), (.double key)] 4) T44 (mkF m 60 #[.val (.ref a1), .val (.int u), .val (.double key), .second] [(.int zz), (.ref a1)])) hp) go48
    obtain ⟨cq51, q51a, q51b⟩ := f34.cell
    obtain ⟨_, _, ⟨T51, L51, k51, n51⟩, -, X51, ⟨Lc51, hQ51, l51, y51, z51⟩, st51⟩ := X44.privateBack hx (y := mN_0) hown (mvT hZ (own_wd hw 37 rfl)) (mvT hZ (own_wd hw 38 rfl)) (own_selp (y := mN_0) (by decide) (mvT hZ (own_wd hw 1 rfl)) (mvP hZ (own_wd hw 39 rfl)) (mvT hZ (own_wd hw 38 rfl))) (Cond.privateMethod_at (mvP hZ (own_wd hw 39 rfl) (args := #[]))) (mvT hZ (own_wd hw 40 rfl)) (by decide) (backOf (W := 0) (rmD12 l Z a0 hw [] a1 aK aI aP kk ki kp (own_u kf u key) τ33 T33.heap n0 Z40 f34 f35 f36 f37 f38 f39 VIq33 VPq33 nKI nKP nIP nAK nAI nAP gA gK gI gP (hR49 (1 : Int32) (by decide))) hZ (own_wd hw 40 rfl) (own_wd hw 2 rfl) (by decide) (by decide)) (g := (mkF m 60 #[.val (.ref a1), .val (.int u), .val (.double key), .second] [(.int (1 : Int32)), (.ref a1)])) rfl (by rw [hml]; rfl) (Steps.refl _) (a := a1) (by rw [e44]; exact q51a) q51b (argsL := [(.int (1 : Int32))]) (rest := []) (lenOf pd_2 rfl) rfl (by show 2 * 0 + _ ≤ _; exact Nat.le_of_eq rfl) (hb hby d4_60) (fun _ _ => ⟨rfl, e44, (by decide : 0 + 0 ≤ rO_3.cells), (by decide : 0 + 0 ≤ rO_3.slots)⟩)
    dsimp only [Pt.U, Pt.locs, Pt.cells, Pt.slots] at X51 l51 y51 z51 st51 hQ51
    subst l51 y51 z51
    obtain ⟨rfl, N51q, Kq51, VIq51, VPq51⟩ := hQ51
    have N51 := Fr.app N33 N51q
    have f52 := f34.keep Kq51
    have f53 := f35.keep Kq51 (ninS nAI (ninS nAP nin0))
    have f54 := f36.keep Kq51 (ninS nAI (ninS nAP nin0))
    have f55 := f37.keep Kq51 (ninS nAI (ninS nAP nin0))
    have f56 := f38.keep Kq51 (ninS nAI (ninS nAP nin0))
    have f57 := f39.keep Kq51 (ninS nKI (ninS nKP nin0))
    have Z58 := Nat.le_trans Z40 Kq51.1
    have K59 := K41.trans Kq51 (allS (Or.inl (List.mem_of_getElem? (i := 2) rfl)) (allS (Or.inl (List.mem_of_getElem? (i := 3) rfl)) all0))
    have go60 : Goes p e below s₁ (entryFrame m #[(.ref a1), (.int u), (.double key)] 4) T51 (mkF m 63 #[.val (.ref a1), .val (.int u), .val (.double key), .second] []) := fun t k => go50 t (st51.trans k)
    obtain ⟨fs, hr, hrun, hended, hW, hsame⟩ := X51.leave (v := none) (fun _ => rfl)
    have hput : own_sift (own_u kf u key) σ u (2 : Int32) = own_dn (own_u kf u key) τ33 (1 : Int32) (2 : Int32) := by
      unfold own_sift; rw [hgu, ← hτ33, hp]
    refine ⟨_, _, go60 _ ?_, hrun, hended, _, _, rfl, ?_, ⟨_, rfl⟩, hW, hsame.mono (by decide) (by decide)⟩
    · exact X51.returnOut hx Bd.returns (hb hby d4_63) hr
    · show QPP12 Z _ _ _ _ _ _ _ _ _ _ _ _ _ _ T51.heap _
      exact ⟨rfl, N51, K59, f52, f53, f54, f55, f56, f57, by rw [hput]; exact VIq51, by rw [hput]; exact VPq51⟩
  · have go61 : Goes p e below s₁ (entryFrame m #[(.ref a1), (.int u), (.double key)] 4) T44 (mkF m 60 #[.val (.ref a1), .val (.int u), .val (.double key), .second] [(.int (0 : Int32)), (.ref a1)]) := Eq.mp (congrArg (fun zz => Goes p e below s₁ (entryFrame m #[(.ref a1), (.int u), (.double key)] 4) T44 (mkF m 60 #[.val (.ref a1), .val (.int u), .val (.double key), .second] [(.int zz), (.ref a1)])) hp) go48
    obtain ⟨cq62, q62a, q62b⟩ := f34.cell
    obtain ⟨_, _, ⟨T62, L62, k62, n62⟩, -, X62, ⟨Lc62, hQ62, l62, y62, z62⟩, st62⟩ := X44.privateBack hx (y := mN_0) hown (mvT hZ (own_wd hw 37 rfl)) (mvT hZ (own_wd hw 38 rfl)) (own_selp (y := mN_0) (by decide) (mvT hZ (own_wd hw 1 rfl)) (mvP hZ (own_wd hw 39 rfl)) (mvT hZ (own_wd hw 38 rfl))) (Cond.privateMethod_at (mvP hZ (own_wd hw 39 rfl) (args := #[]))) (mvT hZ (own_wd hw 40 rfl)) (by decide) (backOf (W := 0) (rmD02 l Z a0 hw [] a1 aK aI aP kk ki kp (own_u kf u key) τ33 T33.heap n0 Z40 f34 f35 f36 f37 f38 f39 VIq33 VPq33 nKI nKP nIP nAK nAI nAP gA gK gI gP (hR49 (0 : Int32) (by decide)) (hR49 (1 : Int32) (by decide))) hZ (own_wd hw 40 rfl) (own_wd hw 2 rfl) (by decide) (by decide)) (g := (mkF m 60 #[.val (.ref a1), .val (.int u), .val (.double key), .second] [(.int (0 : Int32)), (.ref a1)])) rfl (by rw [hml]; rfl) (Steps.refl _) (a := a1) (by rw [e44]; exact q62a) q62b (argsL := [(.int (0 : Int32))]) (rest := []) (lenOf pd_2 rfl) rfl (by show 2 * 0 + _ ≤ _; exact Nat.le_of_eq rfl) (hb hby d4_60) (fun _ _ => ⟨rfl, e44, (by decide : 0 + 0 ≤ rO_3.cells), (by decide : 0 + 0 ≤ rO_3.slots)⟩)
    dsimp only [Pt.U, Pt.locs, Pt.cells, Pt.slots] at X62 l62 y62 z62 st62 hQ62
    subst l62 y62 z62
    obtain ⟨rfl, N62q, Kq62, VIq62, VPq62⟩ := hQ62
    have N62 := Fr.app N33 N62q
    have f63 := f34.keep Kq62
    have f64 := f35.keep Kq62 (ninS nAI (ninS nAP nin0))
    have f65 := f36.keep Kq62 (ninS nAI (ninS nAP nin0))
    have f66 := f37.keep Kq62 (ninS nAI (ninS nAP nin0))
    have f67 := f38.keep Kq62 (ninS nAI (ninS nAP nin0))
    have f68 := f39.keep Kq62 (ninS nKI (ninS nKP nin0))
    have Z69 := Nat.le_trans Z40 Kq62.1
    have K70 := K41.trans Kq62 (allS (Or.inl (List.mem_of_getElem? (i := 2) rfl)) (allS (Or.inl (List.mem_of_getElem? (i := 3) rfl)) all0))
    have go71 : Goes p e below s₁ (entryFrame m #[(.ref a1), (.int u), (.double key)] 4) T62 (mkF m 63 #[.val (.ref a1), .val (.int u), .val (.double key), .second] []) := fun t k => go61 t (st62.trans k)
    obtain ⟨fs, hr, hrun, hended, hW, hsame⟩ := X62.leave (v := none) (fun _ => rfl)
    have hput : own_sift (own_u kf u key) σ u (2 : Int32) = own_dn (own_u kf u key) τ33 (0 : Int32) (2 : Int32) := by
      unfold own_sift; rw [hgu, ← hτ33, hp]
    refine ⟨_, _, go71 _ ?_, hrun, hended, _, _, rfl, ?_, ⟨_, rfl⟩, hW, hsame.mono (by decide) (by decide)⟩
    · exact X62.returnOut hx Bd.returns (hb hby d4_63) hr
    · show QPP12 Z _ _ _ _ _ _ _ _ _ _ _ _ _ _ T62.heap _
      exact ⟨rfl, N62, K70, f63, f64, f65, f66, f67, f68, by rw [hput]; exact VIq62, by rw [hput]; exact VPq62⟩
theorem ef_rmPP03 (m : MethodId) (a1 : Addr) (u : Int32) (key : UInt64) : entryFrame m #[(.ref a1), (.int u), (.double key)] 4 = mkF m 0 #[.val (.ref a1), .val (.int u), .val (.double key), .second] [] := by first | (simp [entryFrame, mkF, argsToLocals, Value.category]; done) | rfl
def QPP03 (Z : State) (a1 : Addr) (u : Int32) (key : UInt64) (aK aI aP : Addr) (kk ki kp : ClassId) (kf : Int32 → UInt64) (σ : own_P) (h0 : Heap) (n0 : Nat) (v : Option Value) (h : Heap) (L : List Loc) : Prop := v = none ∧ Fr n0 L ∧ Keep h0 h [a1, aK, aI, aP] ∧ Exa Z h a1 "com/example/covermesh/covermesh/algorithms/IndexedMinHeap" ∧ Fld Z h a1 "com/example/covermesh/covermesh/algorithms/IndexedMinHeap" "keys" "[D" (.ref aK) ∧ Fld Z h a1 "com/example/covermesh/covermesh/algorithms/IndexedMinHeap" "items" "[I" (.ref aI) ∧ Fld Z h a1 "com/example/covermesh/covermesh/algorithms/IndexedMinHeap" "positions" "[I" (.ref aP) ∧ Fld Z h a1 "com/example/covermesh/covermesh/algorithms/IndexedMinHeap" "size" "I" (.int (3 : Int32)) ∧ Arv Z h aK kk .double 3 (own_d (own_u kf u key)) (.double (0 : UInt64)) ∧ Arv Z h aI ki .int 3 (own_l (own_sift (own_u kf u key) σ u (3 : Int32)).1) (.int (0 : Int32)) ∧ Arv Z h aP kp .int 3 (own_l (own_sift (own_u kf u key) σ u (3 : Int32)).2) (.int (0 : Int32))
set_option maxRecDepth 65536 in
set_option maxHeartbeats 40000000 in
theorem rmPP03 (l : Launch) (Z : State) (a0 : Array Value) (hw : ∀ d ∈ tables_1, d.before a0 Z = true) (ws : List Jvm.Cond) (a1 : Addr) (u : Int32) (key : UInt64) (aK aI aP : Addr) (kk ki kp : ClassId) (kf : Int32 → UInt64) (σ : own_P) (h0 : Heap) (n0 : Nat) (Z0 : n0 ≤ h0.size) (E1 : Exa Z h0 a1 "com/example/covermesh/covermesh/algorithms/IndexedMinHeap") (FK : Fld Z h0 a1 "com/example/covermesh/covermesh/algorithms/IndexedMinHeap" "keys" "[D" (.ref aK)) (FI : Fld Z h0 a1 "com/example/covermesh/covermesh/algorithms/IndexedMinHeap" "items" "[I" (.ref aI)) (FP : Fld Z h0 a1 "com/example/covermesh/covermesh/algorithms/IndexedMinHeap" "positions" "[I" (.ref aP)) (FS : Fld Z h0 a1 "com/example/covermesh/covermesh/algorithms/IndexedMinHeap" "size" "I" (.int (3 : Int32))) (VK : Arv Z h0 aK kk .double 3 (own_d kf) (.double (0 : UInt64))) (VI : Arv Z h0 aI ki .int 3 (own_l σ.1) (.int (0 : Int32))) (VP : Arv Z h0 aP kp .int 3 (own_l σ.2) (.int (0 : Int32))) (nKI : aK ≠ aI) (nKP : aK ≠ aP) (nIP : aI ≠ aP) (nAK : a1 ≠ aK) (nAI : a1 ≠ aI) (nAP : a1 ≠ aP) (gA : n0 ≤ a1) (gK : n0 ≤ aK) (gI : n0 ≤ aI) (gP : n0 ≤ aP) (Ru : own_R u) (hgu : σ.2 u = (0 : Int32)) (hui : σ.1 (0 : Int32) = u) (R0 : own_R (σ.1 (0 : Int32))) (R1 : own_R (σ.1 (1 : Int32))) (R2 : own_R (σ.1 (2 : Int32))) :
    MetFree l mN_2 (head1 (Jvm.Cond.code mN_2 prog_17_method_4_code 4 none :: ws) rO_3) (fun a U => a = #[(.ref a1), (.int u), (.double key)] ∧ Z.Warmed39 U.vm ∧ U.heap = h0) (fun _ _ _ _ _ => True) (fun _ U o U' => ∃ v L, o = .returned v ∧ QPP03 Z a1 u key aK aI aP kk ki kp kf σ h0 n0 v U'.heap L ∧ FrameEnd U o U' L rO_3.cells rO_3.slots) := by
  refine MetFree.of_bodySF (plainFor_of_name pn_0) hisR ?_
  intro p e s m args below meth c s₁ Bd hml0 hP hK
  obtain ⟨rfl, hZ, hh⟩ := hP
  have hx := Bd.exec
  have hby := Bd.bytes
  have hml : c.maxLocals = 4 := hml0
  have hown : s.vm.findClass "com/example/covermesh/covermesh/algorithms/IndexedMinHeap" = some m.cls := findClass_of_methodNamed Bd.named
  have hnm := (name_of_methodNamed Bd.named Bd.method).1
  have X0 : Stand p l e rO_3 s m #[(.ref a1), (.int u), (.double key)] below meth c s₁ [] 0 0 := Stand.of_body Bd
  have e0 : s₁.heap = h0 := by rw [← hh, Bd.state]; rfl
  have N0 := Fr.nil n0
  have K0 := Keep.refl h0 [a1, aK, aI, aP]
  have go0 : Goes p e below s₁ (entryFrame m #[(.ref a1), (.int u), (.double key)] 4) s₁ (mkF m 0 #[.val (.ref a1), .val (.int u), .val (.double key), .second] []) := fun t k => castTop (ef_rmPP03 m a1 u key) k
  have go1 : Goes p e below s₁ (entryFrame m #[(.ref a1), (.int u), (.double key)] 4) s₁ (mkF m 1 #[.val (.ref a1), .val (.int u), .val (.double key), .second] [(.ref a1)]) := fun t k => by
    refine go0 t ?_
    refine XS.aloadN X0.here hx rfl (hb hby d4_0) rfl rfl ?_
    exact k
  obtain ⟨T2, X2, e2, st2⟩ := getF X0 hx hZ hown (host := "") (Or.inl (own_wd hw 15 rfl)) Via.refl e0 FP (g := (mkF m 1 #[.val (.ref a1), .val (.int u), .val (.double key), .second] [(.ref a1)])) rfl rfl (hb hby d4_1)
  have go3 : Goes p e below s₁ (entryFrame m #[(.ref a1), (.int u), (.double key)] 4) T2 (mkF m 4 #[.val (.ref a1), .val (.int u), .val (.double key), .second] [(.ref aP)]) := fun t k => go1 t (st2 t k)
  have go4 : Goes p e below s₁ (entryFrame m #[(.ref a1), (.int u), (.double key)] 4) T2 (mkF m 5 #[.val (.ref a1), .val (.int u), .val (.double key), .second] [(.int u), (.ref aP)]) := fun t k => by
    refine go3 t ?_
    refine XS.iloadN X2.here hx rfl (hb hby d4_4) rfl ?_
    exact k
  obtain ⟨cl5, Ar5, kq5, Sz5, Nn5, Hs5, Gf5⟩ := id (VP)
  have hin5 : ¬ (u < 0 ∨ cl5.slots.size ≤ (u).toNatClampNeg) := inb_of Sz5 (own_inb Ru)
  have hat5 : cl5.slots[(u).toNatClampNeg]? = some (.int (σ.2 u)) := Has.at Hs5 hin5 (own_l_at Ru)
  have go6 : Goes p e below s₁ (entryFrame m #[(.ref a1), (.int u), (.double key)] 4) T2 (mkF m 6 #[.val (.ref a1), .val (.int u), .val (.double key), .second] [(.int (σ.2 u))]) := fun t k => by
    refine go4 t ?_
    refine X2.iaload hx (j := u) (v := (.int (σ.2 u))) (own_hp e2 Ar5.1) (State.isArrayOf_alike hZ.alike Ar5.2.1) Ar5.2.2 hin5 hat5 (g := (mkF m 5 #[.val (.ref a1), .val (.int u), .val (.double key), .second] [(.int u), (.ref aP)])) rfl rfl (hb hby d4_5) _ ?_
    exact k
  have go7 : Goes p e below s₁ (entryFrame m #[(.ref a1), (.int u), (.double key)] 4) T2 (mkF m 6 #[.val (.ref a1), .val (.int u), .val (.double key), .second] [(.int (0 : Int32))]) := Eq.mp (congrArg (fun zz => Goes p e below s₁ (entryFrame m #[(.ref a1), (.int u), (.double key)] 4) T2 (mkF m 6 #[.val (.ref a1), .val (.int u), .val (.double key), .second] [(.int zz)])) hgu) go6
  have go8 : Goes p e below s₁ (entryFrame m #[(.ref a1), (.int u), (.double key)] 4) T2 (mkF m 37 #[.val (.ref a1), .val (.int u), .val (.double key), .second] [(.ref a1)]) := fun t k => by
    refine go7 t ?_
    refine XS.ifYes X2.here hx rfl (pc0 := 6) (pc' := 36) rfl (hb hby d4_6) rfl (Jvm.Free.XT.i0_ge_t (by decide)) (by decide) (by decide) ?_
    refine XS.aloadN X2.here hx rfl (hb hby d4_36) rfl rfl ?_
    exact k
  obtain ⟨T9, X9, e9, st9⟩ := getF X2 hx hZ hown (host := "") (Or.inl (own_wd hw 10 rfl)) Via.refl e2 FK (g := (mkF m 37 #[.val (.ref a1), .val (.int u), .val (.double key), .second] [(.ref a1)])) rfl rfl (hb hby d4_37)
  have go10 : Goes p e below s₁ (entryFrame m #[(.ref a1), (.int u), (.double key)] 4) T9 (mkF m 40 #[.val (.ref a1), .val (.int u), .val (.double key), .second] [(.ref aK)]) := fun t k => go8 t (st9 t k)
  have go11 : Goes p e below s₁ (entryFrame m #[(.ref a1), (.int u), (.double key)] 4) T9 (mkF m 42 #[.val (.ref a1), .val (.int u), .val (.double key), .second] [(.double key), (.int u), (.ref aK)]) := fun t k => by
    refine go10 t ?_
    refine XS.iloadN X9.here hx rfl (hb hby d4_40) rfl ?_
    refine Jvm.Free.XS.dloadN X9.here hx rfl (hb hby d4_41) rfl ?_
    exact k
  obtain ⟨cl12, Ar12, kq12, Sz12, Nn12, Hs12, Gf12⟩ := id (VK)
  have hin12 : ¬ (u < 0 ∨ cl12.slots.size ≤ (u).toNatClampNeg) := inb_of Sz12 (own_inb Ru)
  obtain ⟨T13, h13, X13, e13, W13, st13⟩ := stD X9 hx hZ e9 Ar12 (j := u) hin12 (g := (mkF m 42 #[.val (.ref a1), .val (.int u), .val (.double key), .second] [(.double key), (.int u), (.ref aK)])) rfl rfl (hb hby d4_42)
  have V14 : Arv Z h13 aK kk .double 3 (own_d (own_u kf u key)) (.double (0 : UInt64)) := by rw [← own_d_set Ru]; exact Arv.set Ar12 kq12 Sz12 Nn12 Hs12 Gf12 rfl W13 _ rfl (own_d_len Ru)
  have f15 := E1.wr W13
  have f16 := FK.other W13 (Or.inl nAK)
  have f17 := FI.other W13 (Or.inl nAK)
  have f18 := FP.other W13 (Or.inl nAK)
  have f19 := FS.other W13 (Or.inl nAK)
  have f20 := VI.other W13 (Ne.symm nKI)
  have f21 := VP.other W13 (Ne.symm nKP)
  have Z22 := Nat.le_trans Z0 (Nat.le_of_eq W13.size.symm)
  have K23 := K0.wr W13 (Or.inl (List.mem_of_getElem? (i := 1) rfl))
  have N24 := Fr.snoc X13 N0 gK
  have go25 : Goes p e below s₁ (entryFrame m #[(.ref a1), (.int u), (.double key)] 4) T13 (mkF m 43 #[.val (.ref a1), .val (.int u), .val (.double key), .second] []) := fun t k => go11 t (st13 t k)
  have go26 : Goes p e below s₁ (entryFrame m #[(.ref a1), (.int u), (.double key)] 4) T13 (mkF m 45 #[.val (.ref a1), .val (.int u), .val (.double key), .second] [(.ref a1), (.ref a1)]) := fun t k => by
    refine go25 t ?_
    refine XS.aloadN X13.here hx rfl (hb hby d4_43) rfl rfl ?_
    refine XS.aloadN X13.here hx rfl (hb hby d4_44) rfl rfl ?_
    exact k
  obtain ⟨T27, X27, e27, st27⟩ := getF X13 hx hZ hown (host := "") (Or.inl (own_wd hw 15 rfl)) Via.refl e13 f18 (g := (mkF m 45 #[.val (.ref a1), .val (.int u), .val (.double key), .second] [(.ref a1), (.ref a1)])) rfl rfl (hb hby d4_45)
  have go28 : Goes p e below s₁ (entryFrame m #[(.ref a1), (.int u), (.double key)] 4) T27 (mkF m 48 #[.val (.ref a1), .val (.int u), .val (.double key), .second] [(.ref aP), (.ref a1)]) := fun t k => go26 t (st27 t k)
  have go29 : Goes p e below s₁ (entryFrame m #[(.ref a1), (.int u), (.double key)] 4) T27 (mkF m 49 #[.val (.ref a1), .val (.int u), .val (.double key), .second] [(.int u), (.ref aP), (.ref a1)]) := fun t k => by
    refine go28 t ?_
    refine XS.iloadN X27.here hx rfl (hb hby d4_48) rfl ?_
    exact k
  obtain ⟨cl30, Ar30, kq30, Sz30, Nn30, Hs30, Gf30⟩ := id (f21)
  have hin30 : ¬ (u < 0 ∨ cl30.slots.size ≤ (u).toNatClampNeg) := inb_of Sz30 (own_inb Ru)
  have hat30 : cl30.slots[(u).toNatClampNeg]? = some (.int (σ.2 u)) := Has.at Hs30 hin30 (own_l_at Ru)
  have go31 : Goes p e below s₁ (entryFrame m #[(.ref a1), (.int u), (.double key)] 4) T27 (mkF m 50 #[.val (.ref a1), .val (.int u), .val (.double key), .second] [(.int (σ.2 u)), (.ref a1)]) := fun t k => by
    refine go29 t ?_
    refine X27.iaload hx (j := u) (v := (.int (σ.2 u))) (own_hp e27 Ar30.1) (State.isArrayOf_alike hZ.alike Ar30.2.1) Ar30.2.2 hin30 hat30 (g := (mkF m 49 #[.val (.ref a1), .val (.int u), .val (.double key), .second] [(.int u), (.ref aP), (.ref a1)])) rfl rfl (hb hby d4_49) _ ?_
    exact k
  have go32 : Goes p e below s₁ (entryFrame m #[(.ref a1), (.int u), (.double key)] 4) T27 (mkF m 50 #[.val (.ref a1), .val (.int u), .val (.double key), .second] [(.int (0 : Int32)), (.ref a1)]) := Eq.mp (congrArg (fun zz => Goes p e below s₁ (entryFrame m #[(.ref a1), (.int u), (.double key)] 4) T27 (mkF m 50 #[.val (.ref a1), .val (.int u), .val (.double key), .second] [(.int zz), (.ref a1)])) hgu) go31
  obtain ⟨cq33, q33a, q33b⟩ := f15.cell
  obtain ⟨_, _, ⟨T33, L33, k33, n33⟩, -, X33, ⟨Lc33, hQ33, l33, y33, z33⟩, st33⟩ := X27.privateBack hx (y := mN_3) hown (mvT hZ (own_wd hw 29 rfl)) (mvT hZ (own_wd hw 30 rfl)) (own_selp (y := mN_3) (by decide) (mvT hZ (own_wd hw 1 rfl)) (mvP hZ (own_wd hw 31 rfl)) (mvT hZ (own_wd hw 30 rfl))) (Cond.privateMethod_at (mvP hZ (own_wd hw 31 rfl) (args := #[]))) (mvT hZ (own_wd hw 32 rfl)) (by decide) (backOf (W := 0) (rmU0 l Z a0 hw [] a1 aK aI aP kk ki kp (own_u kf u key) σ (3 : Int32) h13 n0 Z22 f15 f16 f17 f18 f19 V14 f20 f21 nKI nKP nIP nAK nAI nAP gA gK gI gP R0) hZ (own_wd hw 32 rfl) (own_wd hw 2 rfl) (by decide) (by decide)) (g := (mkF m 50 #[.val (.ref a1), .val (.int u), .val (.double key), .second] [(.int (0 : Int32)), (.ref a1)])) rfl (by rw [hml]; rfl) (Steps.refl _) (a := a1) (by rw [e27]; exact q33a) q33b (argsL := [(.int (0 : Int32))]) (rest := []) (lenOf pd_2 rfl) rfl (by show 2 * 0 + _ ≤ _; exact Nat.le_of_eq rfl) (hb hby d4_50) (fun _ _ => ⟨rfl, e27, (by decide : 0 + 0 ≤ rO_3.cells), (by decide : 0 + 0 ≤ rO_3.slots)⟩)
  dsimp only [Pt.U, Pt.locs, Pt.cells, Pt.slots] at X33 l33 y33 z33 st33 hQ33
  subst l33 y33 z33
  obtain ⟨rfl, N33q, Kq33, VIq33, VPq33⟩ := hQ33
  have N33 := Fr.app N24 N33q
  have f34 := f15.keep Kq33
  have f35 := f16.keep Kq33 (ninS nAI (ninS nAP nin0))
  have f36 := f17.keep Kq33 (ninS nAI (ninS nAP nin0))
  have f37 := f18.keep Kq33 (ninS nAI (ninS nAP nin0))
  have f38 := f19.keep Kq33 (ninS nAI (ninS nAP nin0))
  have f39 := V14.keep Kq33 (ninS nKI (ninS nKP nin0))
  have Z40 := Nat.le_trans Z22 Kq33.1
  have K41 := K23.trans Kq33 (allS (Or.inl (List.mem_of_getElem? (i := 2) rfl)) (allS (Or.inl (List.mem_of_getElem? (i := 3) rfl)) all0))
  obtain ⟨τ33, hτ33⟩ : ∃ z, z = own_up (own_u kf u key) σ (0 : Int32) := ⟨_, rfl⟩
  rw [← hτ33] at VIq33 VPq33
  have go42 : Goes p e below s₁ (entryFrame m #[(.ref a1), (.int u), (.double key)] 4) T33 (mkF m 53 #[.val (.ref a1), .val (.int u), .val (.double key), .second] []) := fun t k => go32 t (st33.trans k)
  have go43 : Goes p e below s₁ (entryFrame m #[(.ref a1), (.int u), (.double key)] 4) T33 (mkF m 55 #[.val (.ref a1), .val (.int u), .val (.double key), .second] [(.ref a1), (.ref a1)]) := fun t k => by
    refine go42 t ?_
    refine XS.aloadN X33.here hx rfl (hb hby d4_53) rfl rfl ?_
    refine XS.aloadN X33.here hx rfl (hb hby d4_54) rfl rfl ?_
    exact k
  obtain ⟨T44, X44, e44, st44⟩ := getF X33 hx hZ hown (host := "") (Or.inl (own_wd hw 15 rfl)) Via.refl rfl f37 (g := (mkF m 55 #[.val (.ref a1), .val (.int u), .val (.double key), .second] [(.ref a1), (.ref a1)])) rfl rfl (hb hby d4_55)
  have go45 : Goes p e below s₁ (entryFrame m #[(.ref a1), (.int u), (.double key)] 4) T44 (mkF m 58 #[.val (.ref a1), .val (.int u), .val (.double key), .second] [(.ref aP), (.ref a1)]) := fun t k => go43 t (st44 t k)
  have go46 : Goes p e below s₁ (entryFrame m #[(.ref a1), (.int u), (.double key)] 4) T44 (mkF m 59 #[.val (.ref a1), .val (.int u), .val (.double key), .second] [(.int u), (.ref aP), (.ref a1)]) := fun t k => by
    refine go45 t ?_
    refine XS.iloadN X44.here hx rfl (hb hby d4_58) rfl ?_
    exact k
  obtain ⟨cl47, Ar47, kq47, Sz47, Nn47, Hs47, Gf47⟩ := id (VPq33)
  have hin47 : ¬ (u < 0 ∨ cl47.slots.size ≤ (u).toNatClampNeg) := inb_of Sz47 (own_inb Ru)
  have hat47 : cl47.slots[(u).toNatClampNeg]? = some (.int (τ33.2 u)) := Has.at Hs47 hin47 (own_l_at Ru)
  have go48 : Goes p e below s₁ (entryFrame m #[(.ref a1), (.int u), (.double key)] 4) T44 (mkF m 60 #[.val (.ref a1), .val (.int u), .val (.double key), .second] [(.int (τ33.2 u)), (.ref a1)]) := fun t k => by
    refine go46 t ?_
    refine X44.iaload hx (j := u) (v := (.int (τ33.2 u))) (own_hp e44 Ar47.1) (State.isArrayOf_alike hZ.alike Ar47.2.1) Ar47.2.2 hin47 hat47 (g := (mkF m 59 #[.val (.ref a1), .val (.int u), .val (.double key), .second] [(.int u), (.ref aP), (.ref a1)])) rfl rfl (hb hby d4_59) _ ?_
    exact k
  have hpos : τ33.2 u = (0 : Int32) ∨ τ33.2 u = 0 := by rw [hτ33]; exact own_up_pos hui
  have hR0 : ∀ j : Int32, j < (3 : Int32) ∧ ¬ j < 0 → own_R (σ.1 j) := by
    intro j hj
    have h6 : j.toInt = 0 ∨ j.toInt = 1 ∨ j.toInt = 2 := by
      have h1 := hj.1; have h2 := hj.2; rw [Int32.lt_iff_toInt_lt] at h1 h2
      have h3 : ((3 : Int32)).toInt = 3 := rfl
      have h4 : (0 : Int32).toInt = 0 := rfl
      omega
    rcases h6 with h6 | h6 | h6
    · rw [own_of_toInt h6]; exact R0
    · rw [own_of_toInt h6]; exact R1
    · rw [own_of_toInt h6]; exact R2
  have hR49 : ∀ j : Int32, j < (3 : Int32) ∧ ¬ j < 0 → own_R (τ33.1 j) := fun j hj => by rw [hτ33]; exact own_up_R (hR0 (0 : Int32) (by decide)) (hR0 (0 : Int32) (by decide)) (hR0 j hj)
  have hp := hpos.elim id id
  have go50 : Goes p e below s₁ (entryFrame m #[(.ref a1), (.int u), (.double key)] 4) T44 (mkF m 60 #[.val (.ref a1), .val (.int u), .val (.double key), .second] [(.int (0 : Int32)), (.ref a1)]) := Eq.mp (congrArg (fun zz => Goes p e below s₁ (entryFrame m #[(.ref a1), (.int u), (.double key)] 4) T44 (mkF m 60 #[.val (.ref a1), .val (.int u), .val (.double key), .second] [(.int zz), (.ref a1)])) hp) go48
  obtain ⟨cq51, q51a, q51b⟩ := f34.cell
  obtain ⟨_, _, ⟨T51, L51, k51, n51⟩, -, X51, ⟨Lc51, hQ51, l51, y51, z51⟩, st51⟩ := X44.privateBack hx (y := mN_0) hown (mvT hZ (own_wd hw 37 rfl)) (mvT hZ (own_wd hw 38 rfl)) (own_selp (y := mN_0) (by decide) (mvT hZ (own_wd hw 1 rfl)) (mvP hZ (own_wd hw 39 rfl)) (mvT hZ (own_wd hw 38 rfl))) (Cond.privateMethod_at (mvP hZ (own_wd hw 39 rfl) (args := #[]))) (mvT hZ (own_wd hw 40 rfl)) (by decide) (backOf (W := 0) (rmD03 l Z a0 hw [] a1 aK aI aP kk ki kp (own_u kf u key) τ33 T33.heap n0 Z40 f34 f35 f36 f37 f38 f39 VIq33 VPq33 nKI nKP nIP nAK nAI nAP gA gK gI gP (hR49 (0 : Int32) (by decide)) (hR49 (1 : Int32) (by decide)) (hR49 (2 : Int32) (by decide))) hZ (own_wd hw 40 rfl) (own_wd hw 2 rfl) (by decide) (by decide)) (g := (mkF m 60 #[.val (.ref a1), .val (.int u), .val (.double key), .second] [(.int (0 : Int32)), (.ref a1)])) rfl (by rw [hml]; rfl) (Steps.refl _) (a := a1) (by rw [e44]; exact q51a) q51b (argsL := [(.int (0 : Int32))]) (rest := []) (lenOf pd_2 rfl) rfl (by show 2 * 0 + _ ≤ _; exact Nat.le_of_eq rfl) (hb hby d4_60) (fun _ _ => ⟨rfl, e44, (by decide : 0 + 0 ≤ rO_3.cells), (by decide : 0 + 0 ≤ rO_3.slots)⟩)
  dsimp only [Pt.U, Pt.locs, Pt.cells, Pt.slots] at X51 l51 y51 z51 st51 hQ51
  subst l51 y51 z51
  obtain ⟨rfl, N51q, Kq51, VIq51, VPq51⟩ := hQ51
  have N51 := Fr.app N33 N51q
  have f52 := f34.keep Kq51
  have f53 := f35.keep Kq51 (ninS nAI (ninS nAP nin0))
  have f54 := f36.keep Kq51 (ninS nAI (ninS nAP nin0))
  have f55 := f37.keep Kq51 (ninS nAI (ninS nAP nin0))
  have f56 := f38.keep Kq51 (ninS nAI (ninS nAP nin0))
  have f57 := f39.keep Kq51 (ninS nKI (ninS nKP nin0))
  have Z58 := Nat.le_trans Z40 Kq51.1
  have K59 := K41.trans Kq51 (allS (Or.inl (List.mem_of_getElem? (i := 2) rfl)) (allS (Or.inl (List.mem_of_getElem? (i := 3) rfl)) all0))
  have go60 : Goes p e below s₁ (entryFrame m #[(.ref a1), (.int u), (.double key)] 4) T51 (mkF m 63 #[.val (.ref a1), .val (.int u), .val (.double key), .second] []) := fun t k => go50 t (st51.trans k)
  obtain ⟨fs, hr, hrun, hended, hW, hsame⟩ := X51.leave (v := none) (fun _ => rfl)
  have hput : own_sift (own_u kf u key) σ u (3 : Int32) = own_dn (own_u kf u key) τ33 (0 : Int32) (3 : Int32) := by
    unfold own_sift; rw [hgu, ← hτ33, hp]
  refine ⟨_, _, go60 _ ?_, hrun, hended, _, _, rfl, ?_, ⟨_, rfl⟩, hW, hsame.mono (by decide) (by decide)⟩
  · exact X51.returnOut hx Bd.returns (hb hby d4_63) hr
  · show QPP03 Z _ _ _ _ _ _ _ _ _ _ _ _ _ _ T51.heap _
    exact ⟨rfl, N51, K59, f52, f53, f54, f55, f56, f57, by rw [hput]; exact VIq51, by rw [hput]; exact VPq51⟩
theorem ef_rmPP13 (m : MethodId) (a1 : Addr) (u : Int32) (key : UInt64) : entryFrame m #[(.ref a1), (.int u), (.double key)] 4 = mkF m 0 #[.val (.ref a1), .val (.int u), .val (.double key), .second] [] := by first | (simp [entryFrame, mkF, argsToLocals, Value.category]; done) | rfl
def QPP13 (Z : State) (a1 : Addr) (u : Int32) (key : UInt64) (aK aI aP : Addr) (kk ki kp : ClassId) (kf : Int32 → UInt64) (σ : own_P) (h0 : Heap) (n0 : Nat) (v : Option Value) (h : Heap) (L : List Loc) : Prop := v = none ∧ Fr n0 L ∧ Keep h0 h [a1, aK, aI, aP] ∧ Exa Z h a1 "com/example/covermesh/covermesh/algorithms/IndexedMinHeap" ∧ Fld Z h a1 "com/example/covermesh/covermesh/algorithms/IndexedMinHeap" "keys" "[D" (.ref aK) ∧ Fld Z h a1 "com/example/covermesh/covermesh/algorithms/IndexedMinHeap" "items" "[I" (.ref aI) ∧ Fld Z h a1 "com/example/covermesh/covermesh/algorithms/IndexedMinHeap" "positions" "[I" (.ref aP) ∧ Fld Z h a1 "com/example/covermesh/covermesh/algorithms/IndexedMinHeap" "size" "I" (.int (3 : Int32)) ∧ Arv Z h aK kk .double 3 (own_d (own_u kf u key)) (.double (0 : UInt64)) ∧ Arv Z h aI ki .int 3 (own_l (own_sift (own_u kf u key) σ u (3 : Int32)).1) (.int (0 : Int32)) ∧ Arv Z h aP kp .int 3 (own_l (own_sift (own_u kf u key) σ u (3 : Int32)).2) (.int (0 : Int32))
set_option maxRecDepth 65536 in
set_option maxHeartbeats 40000000 in
theorem rmPP13 (l : Launch) (Z : State) (a0 : Array Value) (hw : ∀ d ∈ tables_1, d.before a0 Z = true) (ws : List Jvm.Cond) (a1 : Addr) (u : Int32) (key : UInt64) (aK aI aP : Addr) (kk ki kp : ClassId) (kf : Int32 → UInt64) (σ : own_P) (h0 : Heap) (n0 : Nat) (Z0 : n0 ≤ h0.size) (E1 : Exa Z h0 a1 "com/example/covermesh/covermesh/algorithms/IndexedMinHeap") (FK : Fld Z h0 a1 "com/example/covermesh/covermesh/algorithms/IndexedMinHeap" "keys" "[D" (.ref aK)) (FI : Fld Z h0 a1 "com/example/covermesh/covermesh/algorithms/IndexedMinHeap" "items" "[I" (.ref aI)) (FP : Fld Z h0 a1 "com/example/covermesh/covermesh/algorithms/IndexedMinHeap" "positions" "[I" (.ref aP)) (FS : Fld Z h0 a1 "com/example/covermesh/covermesh/algorithms/IndexedMinHeap" "size" "I" (.int (3 : Int32))) (VK : Arv Z h0 aK kk .double 3 (own_d kf) (.double (0 : UInt64))) (VI : Arv Z h0 aI ki .int 3 (own_l σ.1) (.int (0 : Int32))) (VP : Arv Z h0 aP kp .int 3 (own_l σ.2) (.int (0 : Int32))) (nKI : aK ≠ aI) (nKP : aK ≠ aP) (nIP : aI ≠ aP) (nAK : a1 ≠ aK) (nAI : a1 ≠ aI) (nAP : a1 ≠ aP) (gA : n0 ≤ a1) (gK : n0 ≤ aK) (gI : n0 ≤ aI) (gP : n0 ≤ aP) (Ru : own_R u) (hgu : σ.2 u = (1 : Int32)) (hui : σ.1 (1 : Int32) = u) (R0 : own_R (σ.1 (0 : Int32))) (R1 : own_R (σ.1 (1 : Int32))) (R2 : own_R (σ.1 (2 : Int32))) :
    MetFree l mN_2 (head1 (Jvm.Cond.code mN_2 prog_17_method_4_code 4 none :: ws) rO_3) (fun a U => a = #[(.ref a1), (.int u), (.double key)] ∧ Z.Warmed39 U.vm ∧ U.heap = h0) (fun _ _ _ _ _ => True) (fun _ U o U' => ∃ v L, o = .returned v ∧ QPP13 Z a1 u key aK aI aP kk ki kp kf σ h0 n0 v U'.heap L ∧ FrameEnd U o U' L rO_3.cells rO_3.slots) := by
  refine MetFree.of_bodySF (plainFor_of_name pn_0) hisR ?_
  intro p e s m args below meth c s₁ Bd hml0 hP hK
  obtain ⟨rfl, hZ, hh⟩ := hP
  have hx := Bd.exec
  have hby := Bd.bytes
  have hml : c.maxLocals = 4 := hml0
  have hown : s.vm.findClass "com/example/covermesh/covermesh/algorithms/IndexedMinHeap" = some m.cls := findClass_of_methodNamed Bd.named
  have hnm := (name_of_methodNamed Bd.named Bd.method).1
  have X0 : Stand p l e rO_3 s m #[(.ref a1), (.int u), (.double key)] below meth c s₁ [] 0 0 := Stand.of_body Bd
  have e0 : s₁.heap = h0 := by rw [← hh, Bd.state]; rfl
  have N0 := Fr.nil n0
  have K0 := Keep.refl h0 [a1, aK, aI, aP]
  have go0 : Goes p e below s₁ (entryFrame m #[(.ref a1), (.int u), (.double key)] 4) s₁ (mkF m 0 #[.val (.ref a1), .val (.int u), .val (.double key), .second] []) := fun t k => castTop (ef_rmPP13 m a1 u key) k
  have go1 : Goes p e below s₁ (entryFrame m #[(.ref a1), (.int u), (.double key)] 4) s₁ (mkF m 1 #[.val (.ref a1), .val (.int u), .val (.double key), .second] [(.ref a1)]) := fun t k => by
    refine go0 t ?_
    refine XS.aloadN X0.here hx rfl (hb hby d4_0) rfl rfl ?_
    exact k
  obtain ⟨T2, X2, e2, st2⟩ := getF X0 hx hZ hown (host := "") (Or.inl (own_wd hw 15 rfl)) Via.refl e0 FP (g := (mkF m 1 #[.val (.ref a1), .val (.int u), .val (.double key), .second] [(.ref a1)])) rfl rfl (hb hby d4_1)
  have go3 : Goes p e below s₁ (entryFrame m #[(.ref a1), (.int u), (.double key)] 4) T2 (mkF m 4 #[.val (.ref a1), .val (.int u), .val (.double key), .second] [(.ref aP)]) := fun t k => go1 t (st2 t k)
  have go4 : Goes p e below s₁ (entryFrame m #[(.ref a1), (.int u), (.double key)] 4) T2 (mkF m 5 #[.val (.ref a1), .val (.int u), .val (.double key), .second] [(.int u), (.ref aP)]) := fun t k => by
    refine go3 t ?_
    refine XS.iloadN X2.here hx rfl (hb hby d4_4) rfl ?_
    exact k
  obtain ⟨cl5, Ar5, kq5, Sz5, Nn5, Hs5, Gf5⟩ := id (VP)
  have hin5 : ¬ (u < 0 ∨ cl5.slots.size ≤ (u).toNatClampNeg) := inb_of Sz5 (own_inb Ru)
  have hat5 : cl5.slots[(u).toNatClampNeg]? = some (.int (σ.2 u)) := Has.at Hs5 hin5 (own_l_at Ru)
  have go6 : Goes p e below s₁ (entryFrame m #[(.ref a1), (.int u), (.double key)] 4) T2 (mkF m 6 #[.val (.ref a1), .val (.int u), .val (.double key), .second] [(.int (σ.2 u))]) := fun t k => by
    refine go4 t ?_
    refine X2.iaload hx (j := u) (v := (.int (σ.2 u))) (own_hp e2 Ar5.1) (State.isArrayOf_alike hZ.alike Ar5.2.1) Ar5.2.2 hin5 hat5 (g := (mkF m 5 #[.val (.ref a1), .val (.int u), .val (.double key), .second] [(.int u), (.ref aP)])) rfl rfl (hb hby d4_5) _ ?_
    exact k
  have go7 : Goes p e below s₁ (entryFrame m #[(.ref a1), (.int u), (.double key)] 4) T2 (mkF m 6 #[.val (.ref a1), .val (.int u), .val (.double key), .second] [(.int (1 : Int32))]) := Eq.mp (congrArg (fun zz => Goes p e below s₁ (entryFrame m #[(.ref a1), (.int u), (.double key)] 4) T2 (mkF m 6 #[.val (.ref a1), .val (.int u), .val (.double key), .second] [(.int zz)])) hgu) go6
  have go8 : Goes p e below s₁ (entryFrame m #[(.ref a1), (.int u), (.double key)] 4) T2 (mkF m 37 #[.val (.ref a1), .val (.int u), .val (.double key), .second] [(.ref a1)]) := fun t k => by
    refine go7 t ?_
    refine XS.ifYes X2.here hx rfl (pc0 := 6) (pc' := 36) rfl (hb hby d4_6) rfl (Jvm.Free.XT.i0_ge_t (by decide)) (by decide) (by decide) ?_
    refine XS.aloadN X2.here hx rfl (hb hby d4_36) rfl rfl ?_
    exact k
  obtain ⟨T9, X9, e9, st9⟩ := getF X2 hx hZ hown (host := "") (Or.inl (own_wd hw 10 rfl)) Via.refl e2 FK (g := (mkF m 37 #[.val (.ref a1), .val (.int u), .val (.double key), .second] [(.ref a1)])) rfl rfl (hb hby d4_37)
  have go10 : Goes p e below s₁ (entryFrame m #[(.ref a1), (.int u), (.double key)] 4) T9 (mkF m 40 #[.val (.ref a1), .val (.int u), .val (.double key), .second] [(.ref aK)]) := fun t k => go8 t (st9 t k)
  have go11 : Goes p e below s₁ (entryFrame m #[(.ref a1), (.int u), (.double key)] 4) T9 (mkF m 42 #[.val (.ref a1), .val (.int u), .val (.double key), .second] [(.double key), (.int u), (.ref aK)]) := fun t k => by
    refine go10 t ?_
    refine XS.iloadN X9.here hx rfl (hb hby d4_40) rfl ?_
    refine Jvm.Free.XS.dloadN X9.here hx rfl (hb hby d4_41) rfl ?_
    exact k
  obtain ⟨cl12, Ar12, kq12, Sz12, Nn12, Hs12, Gf12⟩ := id (VK)
  have hin12 : ¬ (u < 0 ∨ cl12.slots.size ≤ (u).toNatClampNeg) := inb_of Sz12 (own_inb Ru)
  obtain ⟨T13, h13, X13, e13, W13, st13⟩ := stD X9 hx hZ e9 Ar12 (j := u) hin12 (g := (mkF m 42 #[.val (.ref a1), .val (.int u), .val (.double key), .second] [(.double key), (.int u), (.ref aK)])) rfl rfl (hb hby d4_42)
  have V14 : Arv Z h13 aK kk .double 3 (own_d (own_u kf u key)) (.double (0 : UInt64)) := by rw [← own_d_set Ru]; exact Arv.set Ar12 kq12 Sz12 Nn12 Hs12 Gf12 rfl W13 _ rfl (own_d_len Ru)
  have f15 := E1.wr W13
  have f16 := FK.other W13 (Or.inl nAK)
  have f17 := FI.other W13 (Or.inl nAK)
  have f18 := FP.other W13 (Or.inl nAK)
  have f19 := FS.other W13 (Or.inl nAK)
  have f20 := VI.other W13 (Ne.symm nKI)
  have f21 := VP.other W13 (Ne.symm nKP)
  have Z22 := Nat.le_trans Z0 (Nat.le_of_eq W13.size.symm)
  have K23 := K0.wr W13 (Or.inl (List.mem_of_getElem? (i := 1) rfl))
  have N24 := Fr.snoc X13 N0 gK
  have go25 : Goes p e below s₁ (entryFrame m #[(.ref a1), (.int u), (.double key)] 4) T13 (mkF m 43 #[.val (.ref a1), .val (.int u), .val (.double key), .second] []) := fun t k => go11 t (st13 t k)
  have go26 : Goes p e below s₁ (entryFrame m #[(.ref a1), (.int u), (.double key)] 4) T13 (mkF m 45 #[.val (.ref a1), .val (.int u), .val (.double key), .second] [(.ref a1), (.ref a1)]) := fun t k => by
    refine go25 t ?_
    refine XS.aloadN X13.here hx rfl (hb hby d4_43) rfl rfl ?_
    refine XS.aloadN X13.here hx rfl (hb hby d4_44) rfl rfl ?_
    exact k
  obtain ⟨T27, X27, e27, st27⟩ := getF X13 hx hZ hown (host := "") (Or.inl (own_wd hw 15 rfl)) Via.refl e13 f18 (g := (mkF m 45 #[.val (.ref a1), .val (.int u), .val (.double key), .second] [(.ref a1), (.ref a1)])) rfl rfl (hb hby d4_45)
  have go28 : Goes p e below s₁ (entryFrame m #[(.ref a1), (.int u), (.double key)] 4) T27 (mkF m 48 #[.val (.ref a1), .val (.int u), .val (.double key), .second] [(.ref aP), (.ref a1)]) := fun t k => go26 t (st27 t k)
  have go29 : Goes p e below s₁ (entryFrame m #[(.ref a1), (.int u), (.double key)] 4) T27 (mkF m 49 #[.val (.ref a1), .val (.int u), .val (.double key), .second] [(.int u), (.ref aP), (.ref a1)]) := fun t k => by
    refine go28 t ?_
    refine XS.iloadN X27.here hx rfl (hb hby d4_48) rfl ?_
    exact k
  obtain ⟨cl30, Ar30, kq30, Sz30, Nn30, Hs30, Gf30⟩ := id (f21)
  have hin30 : ¬ (u < 0 ∨ cl30.slots.size ≤ (u).toNatClampNeg) := inb_of Sz30 (own_inb Ru)
  have hat30 : cl30.slots[(u).toNatClampNeg]? = some (.int (σ.2 u)) := Has.at Hs30 hin30 (own_l_at Ru)
  have go31 : Goes p e below s₁ (entryFrame m #[(.ref a1), (.int u), (.double key)] 4) T27 (mkF m 50 #[.val (.ref a1), .val (.int u), .val (.double key), .second] [(.int (σ.2 u)), (.ref a1)]) := fun t k => by
    refine go29 t ?_
    refine X27.iaload hx (j := u) (v := (.int (σ.2 u))) (own_hp e27 Ar30.1) (State.isArrayOf_alike hZ.alike Ar30.2.1) Ar30.2.2 hin30 hat30 (g := (mkF m 49 #[.val (.ref a1), .val (.int u), .val (.double key), .second] [(.int u), (.ref aP), (.ref a1)])) rfl rfl (hb hby d4_49) _ ?_
    exact k
  have go32 : Goes p e below s₁ (entryFrame m #[(.ref a1), (.int u), (.double key)] 4) T27 (mkF m 50 #[.val (.ref a1), .val (.int u), .val (.double key), .second] [(.int (1 : Int32)), (.ref a1)]) := Eq.mp (congrArg (fun zz => Goes p e below s₁ (entryFrame m #[(.ref a1), (.int u), (.double key)] 4) T27 (mkF m 50 #[.val (.ref a1), .val (.int u), .val (.double key), .second] [(.int zz), (.ref a1)])) hgu) go31
  obtain ⟨cq33, q33a, q33b⟩ := f15.cell
  obtain ⟨_, _, ⟨T33, L33, k33, n33⟩, -, X33, ⟨Lc33, hQ33, l33, y33, z33⟩, st33⟩ := X27.privateBack hx (y := mN_3) hown (mvT hZ (own_wd hw 29 rfl)) (mvT hZ (own_wd hw 30 rfl)) (own_selp (y := mN_3) (by decide) (mvT hZ (own_wd hw 1 rfl)) (mvP hZ (own_wd hw 31 rfl)) (mvT hZ (own_wd hw 30 rfl))) (Cond.privateMethod_at (mvP hZ (own_wd hw 31 rfl) (args := #[]))) (mvT hZ (own_wd hw 32 rfl)) (by decide) (backOf (W := 0) (rmU1 l Z a0 hw [] a1 aK aI aP kk ki kp (own_u kf u key) σ (3 : Int32) h13 n0 Z22 f15 f16 f17 f18 f19 V14 f20 f21 nKI nKP nIP nAK nAI nAP gA gK gI gP R1 R0) hZ (own_wd hw 32 rfl) (own_wd hw 2 rfl) (by decide) (by decide)) (g := (mkF m 50 #[.val (.ref a1), .val (.int u), .val (.double key), .second] [(.int (1 : Int32)), (.ref a1)])) rfl (by rw [hml]; rfl) (Steps.refl _) (a := a1) (by rw [e27]; exact q33a) q33b (argsL := [(.int (1 : Int32))]) (rest := []) (lenOf pd_2 rfl) rfl (by show 2 * 0 + _ ≤ _; exact Nat.le_of_eq rfl) (hb hby d4_50) (fun _ _ => ⟨rfl, e27, (by decide : 0 + 0 ≤ rO_3.cells), (by decide : 0 + 0 ≤ rO_3.slots)⟩)
  dsimp only [Pt.U, Pt.locs, Pt.cells, Pt.slots] at X33 l33 y33 z33 st33 hQ33
  subst l33 y33 z33
  obtain ⟨rfl, N33q, Kq33, VIq33, VPq33⟩ := hQ33
  have N33 := Fr.app N24 N33q
  have f34 := f15.keep Kq33
  have f35 := f16.keep Kq33 (ninS nAI (ninS nAP nin0))
  have f36 := f17.keep Kq33 (ninS nAI (ninS nAP nin0))
  have f37 := f18.keep Kq33 (ninS nAI (ninS nAP nin0))
  have f38 := f19.keep Kq33 (ninS nAI (ninS nAP nin0))
  have f39 := V14.keep Kq33 (ninS nKI (ninS nKP nin0))
  have Z40 := Nat.le_trans Z22 Kq33.1
  have K41 := K23.trans Kq33 (allS (Or.inl (List.mem_of_getElem? (i := 2) rfl)) (allS (Or.inl (List.mem_of_getElem? (i := 3) rfl)) all0))
  obtain ⟨τ33, hτ33⟩ : ∃ z, z = own_up (own_u kf u key) σ (1 : Int32) := ⟨_, rfl⟩
  rw [← hτ33] at VIq33 VPq33
  have go42 : Goes p e below s₁ (entryFrame m #[(.ref a1), (.int u), (.double key)] 4) T33 (mkF m 53 #[.val (.ref a1), .val (.int u), .val (.double key), .second] []) := fun t k => go32 t (st33.trans k)
  have go43 : Goes p e below s₁ (entryFrame m #[(.ref a1), (.int u), (.double key)] 4) T33 (mkF m 55 #[.val (.ref a1), .val (.int u), .val (.double key), .second] [(.ref a1), (.ref a1)]) := fun t k => by
    refine go42 t ?_
    refine XS.aloadN X33.here hx rfl (hb hby d4_53) rfl rfl ?_
    refine XS.aloadN X33.here hx rfl (hb hby d4_54) rfl rfl ?_
    exact k
  obtain ⟨T44, X44, e44, st44⟩ := getF X33 hx hZ hown (host := "") (Or.inl (own_wd hw 15 rfl)) Via.refl rfl f37 (g := (mkF m 55 #[.val (.ref a1), .val (.int u), .val (.double key), .second] [(.ref a1), (.ref a1)])) rfl rfl (hb hby d4_55)
  have go45 : Goes p e below s₁ (entryFrame m #[(.ref a1), (.int u), (.double key)] 4) T44 (mkF m 58 #[.val (.ref a1), .val (.int u), .val (.double key), .second] [(.ref aP), (.ref a1)]) := fun t k => go43 t (st44 t k)
  have go46 : Goes p e below s₁ (entryFrame m #[(.ref a1), (.int u), (.double key)] 4) T44 (mkF m 59 #[.val (.ref a1), .val (.int u), .val (.double key), .second] [(.int u), (.ref aP), (.ref a1)]) := fun t k => by
    refine go45 t ?_
    refine XS.iloadN X44.here hx rfl (hb hby d4_58) rfl ?_
    exact k
  obtain ⟨cl47, Ar47, kq47, Sz47, Nn47, Hs47, Gf47⟩ := id (VPq33)
  have hin47 : ¬ (u < 0 ∨ cl47.slots.size ≤ (u).toNatClampNeg) := inb_of Sz47 (own_inb Ru)
  have hat47 : cl47.slots[(u).toNatClampNeg]? = some (.int (τ33.2 u)) := Has.at Hs47 hin47 (own_l_at Ru)
  have go48 : Goes p e below s₁ (entryFrame m #[(.ref a1), (.int u), (.double key)] 4) T44 (mkF m 60 #[.val (.ref a1), .val (.int u), .val (.double key), .second] [(.int (τ33.2 u)), (.ref a1)]) := fun t k => by
    refine go46 t ?_
    refine X44.iaload hx (j := u) (v := (.int (τ33.2 u))) (own_hp e44 Ar47.1) (State.isArrayOf_alike hZ.alike Ar47.2.1) Ar47.2.2 hin47 hat47 (g := (mkF m 59 #[.val (.ref a1), .val (.int u), .val (.double key), .second] [(.int u), (.ref aP), (.ref a1)])) rfl rfl (hb hby d4_59) _ ?_
    exact k
  have hpos : τ33.2 u = (1 : Int32) ∨ τ33.2 u = 0 := by rw [hτ33]; exact own_up_pos hui
  have hR0 : ∀ j : Int32, j < (3 : Int32) ∧ ¬ j < 0 → own_R (σ.1 j) := by
    intro j hj
    have h6 : j.toInt = 0 ∨ j.toInt = 1 ∨ j.toInt = 2 := by
      have h1 := hj.1; have h2 := hj.2; rw [Int32.lt_iff_toInt_lt] at h1 h2
      have h3 : ((3 : Int32)).toInt = 3 := rfl
      have h4 : (0 : Int32).toInt = 0 := rfl
      omega
    rcases h6 with h6 | h6 | h6
    · rw [own_of_toInt h6]; exact R0
    · rw [own_of_toInt h6]; exact R1
    · rw [own_of_toInt h6]; exact R2
  have hR49 : ∀ j : Int32, j < (3 : Int32) ∧ ¬ j < 0 → own_R (τ33.1 j) := fun j hj => by rw [hτ33]; exact own_up_R (hR0 (1 : Int32) (by decide)) (hR0 (0 : Int32) (by decide)) (hR0 j hj)
  rcases hpos with hp | hp
  · have go50 : Goes p e below s₁ (entryFrame m #[(.ref a1), (.int u), (.double key)] 4) T44 (mkF m 60 #[.val (.ref a1), .val (.int u), .val (.double key), .second] [(.int (1 : Int32)), (.ref a1)]) := Eq.mp (congrArg (fun zz => Goes p e below s₁ (entryFrame m #[(.ref a1), (.int u), (.double key)] 4) T44 (mkF m 60 #[.val (.ref a1), .val (.int u), .val (.double key), .second] [(.int zz), (.ref a1)])) hp) go48
    obtain ⟨cq51, q51a, q51b⟩ := f34.cell
    obtain ⟨_, _, ⟨T51, L51, k51, n51⟩, -, X51, ⟨Lc51, hQ51, l51, y51, z51⟩, st51⟩ := X44.privateBack hx (y := mN_0) hown (mvT hZ (own_wd hw 37 rfl)) (mvT hZ (own_wd hw 38 rfl)) (own_selp (y := mN_0) (by decide) (mvT hZ (own_wd hw 1 rfl)) (mvP hZ (own_wd hw 39 rfl)) (mvT hZ (own_wd hw 38 rfl))) (Cond.privateMethod_at (mvP hZ (own_wd hw 39 rfl) (args := #[]))) (mvT hZ (own_wd hw 40 rfl)) (by decide) (backOf (W := 0) (rmD13 l Z a0 hw [] a1 aK aI aP kk ki kp (own_u kf u key) τ33 T33.heap n0 Z40 f34 f35 f36 f37 f38 f39 VIq33 VPq33 nKI nKP nIP nAK nAI nAP gA gK gI gP (hR49 (1 : Int32) (by decide))) hZ (own_wd hw 40 rfl) (own_wd hw 2 rfl) (by decide) (by decide)) (g := (mkF m 60 #[.val (.ref a1), .val (.int u), .val (.double key), .second] [(.int (1 : Int32)), (.ref a1)])) rfl (by rw [hml]; rfl) (Steps.refl _) (a := a1) (by rw [e44]; exact q51a) q51b (argsL := [(.int (1 : Int32))]) (rest := []) (lenOf pd_2 rfl) rfl (by show 2 * 0 + _ ≤ _; exact Nat.le_of_eq rfl) (hb hby d4_60) (fun _ _ => ⟨rfl, e44, (by decide : 0 + 0 ≤ rO_3.cells), (by decide : 0 + 0 ≤ rO_3.slots)⟩)
    dsimp only [Pt.U, Pt.locs, Pt.cells, Pt.slots] at X51 l51 y51 z51 st51 hQ51
    subst l51 y51 z51
    obtain ⟨rfl, N51q, Kq51, VIq51, VPq51⟩ := hQ51
    have N51 := Fr.app N33 N51q
    have f52 := f34.keep Kq51
    have f53 := f35.keep Kq51 (ninS nAI (ninS nAP nin0))
    have f54 := f36.keep Kq51 (ninS nAI (ninS nAP nin0))
    have f55 := f37.keep Kq51 (ninS nAI (ninS nAP nin0))
    have f56 := f38.keep Kq51 (ninS nAI (ninS nAP nin0))
    have f57 := f39.keep Kq51 (ninS nKI (ninS nKP nin0))
    have Z58 := Nat.le_trans Z40 Kq51.1
    have K59 := K41.trans Kq51 (allS (Or.inl (List.mem_of_getElem? (i := 2) rfl)) (allS (Or.inl (List.mem_of_getElem? (i := 3) rfl)) all0))
    have go60 : Goes p e below s₁ (entryFrame m #[(.ref a1), (.int u), (.double key)] 4) T51 (mkF m 63 #[.val (.ref a1), .val (.int u), .val (.double key), .second] []) := fun t k => go50 t (st51.trans k)
    obtain ⟨fs, hr, hrun, hended, hW, hsame⟩ := X51.leave (v := none) (fun _ => rfl)
    have hput : own_sift (own_u kf u key) σ u (3 : Int32) = own_dn (own_u kf u key) τ33 (1 : Int32) (3 : Int32) := by
      unfold own_sift; rw [hgu, ← hτ33, hp]
    refine ⟨_, _, go60 _ ?_, hrun, hended, _, _, rfl, ?_, ⟨_, rfl⟩, hW, hsame.mono (by decide) (by decide)⟩
    · exact X51.returnOut hx Bd.returns (hb hby d4_63) hr
    · show QPP13 Z _ _ _ _ _ _ _ _ _ _ _ _ _ _ T51.heap _
      exact ⟨rfl, N51, K59, f52, f53, f54, f55, f56, f57, by rw [hput]; exact VIq51, by rw [hput]; exact VPq51⟩
  · have go61 : Goes p e below s₁ (entryFrame m #[(.ref a1), (.int u), (.double key)] 4) T44 (mkF m 60 #[.val (.ref a1), .val (.int u), .val (.double key), .second] [(.int (0 : Int32)), (.ref a1)]) := Eq.mp (congrArg (fun zz => Goes p e below s₁ (entryFrame m #[(.ref a1), (.int u), (.double key)] 4) T44 (mkF m 60 #[.val (.ref a1), .val (.int u), .val (.double key), .second] [(.int zz), (.ref a1)])) hp) go48
    obtain ⟨cq62, q62a, q62b⟩ := f34.cell
    obtain ⟨_, _, ⟨T62, L62, k62, n62⟩, -, X62, ⟨Lc62, hQ62, l62, y62, z62⟩, st62⟩ := X44.privateBack hx (y := mN_0) hown (mvT hZ (own_wd hw 37 rfl)) (mvT hZ (own_wd hw 38 rfl)) (own_selp (y := mN_0) (by decide) (mvT hZ (own_wd hw 1 rfl)) (mvP hZ (own_wd hw 39 rfl)) (mvT hZ (own_wd hw 38 rfl))) (Cond.privateMethod_at (mvP hZ (own_wd hw 39 rfl) (args := #[]))) (mvT hZ (own_wd hw 40 rfl)) (by decide) (backOf (W := 0) (rmD03 l Z a0 hw [] a1 aK aI aP kk ki kp (own_u kf u key) τ33 T33.heap n0 Z40 f34 f35 f36 f37 f38 f39 VIq33 VPq33 nKI nKP nIP nAK nAI nAP gA gK gI gP (hR49 (0 : Int32) (by decide)) (hR49 (1 : Int32) (by decide)) (hR49 (2 : Int32) (by decide))) hZ (own_wd hw 40 rfl) (own_wd hw 2 rfl) (by decide) (by decide)) (g := (mkF m 60 #[.val (.ref a1), .val (.int u), .val (.double key), .second] [(.int (0 : Int32)), (.ref a1)])) rfl (by rw [hml]; rfl) (Steps.refl _) (a := a1) (by rw [e44]; exact q62a) q62b (argsL := [(.int (0 : Int32))]) (rest := []) (lenOf pd_2 rfl) rfl (by show 2 * 0 + _ ≤ _; exact Nat.le_of_eq rfl) (hb hby d4_60) (fun _ _ => ⟨rfl, e44, (by decide : 0 + 0 ≤ rO_3.cells), (by decide : 0 + 0 ≤ rO_3.slots)⟩)
    dsimp only [Pt.U, Pt.locs, Pt.cells, Pt.slots] at X62 l62 y62 z62 st62 hQ62
    subst l62 y62 z62
    obtain ⟨rfl, N62q, Kq62, VIq62, VPq62⟩ := hQ62
    have N62 := Fr.app N33 N62q
    have f63 := f34.keep Kq62
    have f64 := f35.keep Kq62 (ninS nAI (ninS nAP nin0))
    have f65 := f36.keep Kq62 (ninS nAI (ninS nAP nin0))
    have f66 := f37.keep Kq62 (ninS nAI (ninS nAP nin0))
    have f67 := f38.keep Kq62 (ninS nAI (ninS nAP nin0))
    have f68 := f39.keep Kq62 (ninS nKI (ninS nKP nin0))
    have Z69 := Nat.le_trans Z40 Kq62.1
    have K70 := K41.trans Kq62 (allS (Or.inl (List.mem_of_getElem? (i := 2) rfl)) (allS (Or.inl (List.mem_of_getElem? (i := 3) rfl)) all0))
    have go71 : Goes p e below s₁ (entryFrame m #[(.ref a1), (.int u), (.double key)] 4) T62 (mkF m 63 #[.val (.ref a1), .val (.int u), .val (.double key), .second] []) := fun t k => go61 t (st62.trans k)
    obtain ⟨fs, hr, hrun, hended, hW, hsame⟩ := X62.leave (v := none) (fun _ => rfl)
    have hput : own_sift (own_u kf u key) σ u (3 : Int32) = own_dn (own_u kf u key) τ33 (0 : Int32) (3 : Int32) := by
      unfold own_sift; rw [hgu, ← hτ33, hp]
    refine ⟨_, _, go71 _ ?_, hrun, hended, _, _, rfl, ?_, ⟨_, rfl⟩, hW, hsame.mono (by decide) (by decide)⟩
    · exact X62.returnOut hx Bd.returns (hb hby d4_63) hr
    · show QPP13 Z _ _ _ _ _ _ _ _ _ _ _ _ _ _ T62.heap _
      exact ⟨rfl, N62, K70, f63, f64, f65, f66, f67, f68, by rw [hput]; exact VIq62, by rw [hput]; exact VPq62⟩
theorem ef_rmPP23 (m : MethodId) (a1 : Addr) (u : Int32) (key : UInt64) : entryFrame m #[(.ref a1), (.int u), (.double key)] 4 = mkF m 0 #[.val (.ref a1), .val (.int u), .val (.double key), .second] [] := by first | (simp [entryFrame, mkF, argsToLocals, Value.category]; done) | rfl
def QPP23 (Z : State) (a1 : Addr) (u : Int32) (key : UInt64) (aK aI aP : Addr) (kk ki kp : ClassId) (kf : Int32 → UInt64) (σ : own_P) (h0 : Heap) (n0 : Nat) (v : Option Value) (h : Heap) (L : List Loc) : Prop := v = none ∧ Fr n0 L ∧ Keep h0 h [a1, aK, aI, aP] ∧ Exa Z h a1 "com/example/covermesh/covermesh/algorithms/IndexedMinHeap" ∧ Fld Z h a1 "com/example/covermesh/covermesh/algorithms/IndexedMinHeap" "keys" "[D" (.ref aK) ∧ Fld Z h a1 "com/example/covermesh/covermesh/algorithms/IndexedMinHeap" "items" "[I" (.ref aI) ∧ Fld Z h a1 "com/example/covermesh/covermesh/algorithms/IndexedMinHeap" "positions" "[I" (.ref aP) ∧ Fld Z h a1 "com/example/covermesh/covermesh/algorithms/IndexedMinHeap" "size" "I" (.int (3 : Int32)) ∧ Arv Z h aK kk .double 3 (own_d (own_u kf u key)) (.double (0 : UInt64)) ∧ Arv Z h aI ki .int 3 (own_l (own_sift (own_u kf u key) σ u (3 : Int32)).1) (.int (0 : Int32)) ∧ Arv Z h aP kp .int 3 (own_l (own_sift (own_u kf u key) σ u (3 : Int32)).2) (.int (0 : Int32))
set_option maxRecDepth 65536 in
set_option maxHeartbeats 40000000 in
theorem rmPP23 (l : Launch) (Z : State) (a0 : Array Value) (hw : ∀ d ∈ tables_1, d.before a0 Z = true) (ws : List Jvm.Cond) (a1 : Addr) (u : Int32) (key : UInt64) (aK aI aP : Addr) (kk ki kp : ClassId) (kf : Int32 → UInt64) (σ : own_P) (h0 : Heap) (n0 : Nat) (Z0 : n0 ≤ h0.size) (E1 : Exa Z h0 a1 "com/example/covermesh/covermesh/algorithms/IndexedMinHeap") (FK : Fld Z h0 a1 "com/example/covermesh/covermesh/algorithms/IndexedMinHeap" "keys" "[D" (.ref aK)) (FI : Fld Z h0 a1 "com/example/covermesh/covermesh/algorithms/IndexedMinHeap" "items" "[I" (.ref aI)) (FP : Fld Z h0 a1 "com/example/covermesh/covermesh/algorithms/IndexedMinHeap" "positions" "[I" (.ref aP)) (FS : Fld Z h0 a1 "com/example/covermesh/covermesh/algorithms/IndexedMinHeap" "size" "I" (.int (3 : Int32))) (VK : Arv Z h0 aK kk .double 3 (own_d kf) (.double (0 : UInt64))) (VI : Arv Z h0 aI ki .int 3 (own_l σ.1) (.int (0 : Int32))) (VP : Arv Z h0 aP kp .int 3 (own_l σ.2) (.int (0 : Int32))) (nKI : aK ≠ aI) (nKP : aK ≠ aP) (nIP : aI ≠ aP) (nAK : a1 ≠ aK) (nAI : a1 ≠ aI) (nAP : a1 ≠ aP) (gA : n0 ≤ a1) (gK : n0 ≤ aK) (gI : n0 ≤ aI) (gP : n0 ≤ aP) (Ru : own_R u) (hgu : σ.2 u = (2 : Int32)) (hui : σ.1 (2 : Int32) = u) (R0 : own_R (σ.1 (0 : Int32))) (R1 : own_R (σ.1 (1 : Int32))) (R2 : own_R (σ.1 (2 : Int32))) :
    MetFree l mN_2 (head1 (Jvm.Cond.code mN_2 prog_17_method_4_code 4 none :: ws) rO_3) (fun a U => a = #[(.ref a1), (.int u), (.double key)] ∧ Z.Warmed39 U.vm ∧ U.heap = h0) (fun _ _ _ _ _ => True) (fun _ U o U' => ∃ v L, o = .returned v ∧ QPP23 Z a1 u key aK aI aP kk ki kp kf σ h0 n0 v U'.heap L ∧ FrameEnd U o U' L rO_3.cells rO_3.slots) := by
  refine MetFree.of_bodySF (plainFor_of_name pn_0) hisR ?_
  intro p e s m args below meth c s₁ Bd hml0 hP hK
  obtain ⟨rfl, hZ, hh⟩ := hP
  have hx := Bd.exec
  have hby := Bd.bytes
  have hml : c.maxLocals = 4 := hml0
  have hown : s.vm.findClass "com/example/covermesh/covermesh/algorithms/IndexedMinHeap" = some m.cls := findClass_of_methodNamed Bd.named
  have hnm := (name_of_methodNamed Bd.named Bd.method).1
  have X0 : Stand p l e rO_3 s m #[(.ref a1), (.int u), (.double key)] below meth c s₁ [] 0 0 := Stand.of_body Bd
  have e0 : s₁.heap = h0 := by rw [← hh, Bd.state]; rfl
  have N0 := Fr.nil n0
  have K0 := Keep.refl h0 [a1, aK, aI, aP]
  have go0 : Goes p e below s₁ (entryFrame m #[(.ref a1), (.int u), (.double key)] 4) s₁ (mkF m 0 #[.val (.ref a1), .val (.int u), .val (.double key), .second] []) := fun t k => castTop (ef_rmPP23 m a1 u key) k
  have go1 : Goes p e below s₁ (entryFrame m #[(.ref a1), (.int u), (.double key)] 4) s₁ (mkF m 1 #[.val (.ref a1), .val (.int u), .val (.double key), .second] [(.ref a1)]) := fun t k => by
    refine go0 t ?_
    refine XS.aloadN X0.here hx rfl (hb hby d4_0) rfl rfl ?_
    exact k
  obtain ⟨T2, X2, e2, st2⟩ := getF X0 hx hZ hown (host := "") (Or.inl (own_wd hw 15 rfl)) Via.refl e0 FP (g := (mkF m 1 #[.val (.ref a1), .val (.int u), .val (.double key), .second] [(.ref a1)])) rfl rfl (hb hby d4_1)
  have go3 : Goes p e below s₁ (entryFrame m #[(.ref a1), (.int u), (.double key)] 4) T2 (mkF m 4 #[.val (.ref a1), .val (.int u), .val (.double key), .second] [(.ref aP)]) := fun t k => go1 t (st2 t k)
  have go4 : Goes p e below s₁ (entryFrame m #[(.ref a1), (.int u), (.double key)] 4) T2 (mkF m 5 #[.val (.ref a1), .val (.int u), .val (.double key), .second] [(.int u), (.ref aP)]) := fun t k => by
    refine go3 t ?_
    refine XS.iloadN X2.here hx rfl (hb hby d4_4) rfl ?_
    exact k
  obtain ⟨cl5, Ar5, kq5, Sz5, Nn5, Hs5, Gf5⟩ := id (VP)
  have hin5 : ¬ (u < 0 ∨ cl5.slots.size ≤ (u).toNatClampNeg) := inb_of Sz5 (own_inb Ru)
  have hat5 : cl5.slots[(u).toNatClampNeg]? = some (.int (σ.2 u)) := Has.at Hs5 hin5 (own_l_at Ru)
  have go6 : Goes p e below s₁ (entryFrame m #[(.ref a1), (.int u), (.double key)] 4) T2 (mkF m 6 #[.val (.ref a1), .val (.int u), .val (.double key), .second] [(.int (σ.2 u))]) := fun t k => by
    refine go4 t ?_
    refine X2.iaload hx (j := u) (v := (.int (σ.2 u))) (own_hp e2 Ar5.1) (State.isArrayOf_alike hZ.alike Ar5.2.1) Ar5.2.2 hin5 hat5 (g := (mkF m 5 #[.val (.ref a1), .val (.int u), .val (.double key), .second] [(.int u), (.ref aP)])) rfl rfl (hb hby d4_5) _ ?_
    exact k
  have go7 : Goes p e below s₁ (entryFrame m #[(.ref a1), (.int u), (.double key)] 4) T2 (mkF m 6 #[.val (.ref a1), .val (.int u), .val (.double key), .second] [(.int (2 : Int32))]) := Eq.mp (congrArg (fun zz => Goes p e below s₁ (entryFrame m #[(.ref a1), (.int u), (.double key)] 4) T2 (mkF m 6 #[.val (.ref a1), .val (.int u), .val (.double key), .second] [(.int zz)])) hgu) go6
  have go8 : Goes p e below s₁ (entryFrame m #[(.ref a1), (.int u), (.double key)] 4) T2 (mkF m 37 #[.val (.ref a1), .val (.int u), .val (.double key), .second] [(.ref a1)]) := fun t k => by
    refine go7 t ?_
    refine XS.ifYes X2.here hx rfl (pc0 := 6) (pc' := 36) rfl (hb hby d4_6) rfl (Jvm.Free.XT.i0_ge_t (by decide)) (by decide) (by decide) ?_
    refine XS.aloadN X2.here hx rfl (hb hby d4_36) rfl rfl ?_
    exact k
  obtain ⟨T9, X9, e9, st9⟩ := getF X2 hx hZ hown (host := "") (Or.inl (own_wd hw 10 rfl)) Via.refl e2 FK (g := (mkF m 37 #[.val (.ref a1), .val (.int u), .val (.double key), .second] [(.ref a1)])) rfl rfl (hb hby d4_37)
  have go10 : Goes p e below s₁ (entryFrame m #[(.ref a1), (.int u), (.double key)] 4) T9 (mkF m 40 #[.val (.ref a1), .val (.int u), .val (.double key), .second] [(.ref aK)]) := fun t k => go8 t (st9 t k)
  have go11 : Goes p e below s₁ (entryFrame m #[(.ref a1), (.int u), (.double key)] 4) T9 (mkF m 42 #[.val (.ref a1), .val (.int u), .val (.double key), .second] [(.double key), (.int u), (.ref aK)]) := fun t k => by
    refine go10 t ?_
    refine XS.iloadN X9.here hx rfl (hb hby d4_40) rfl ?_
    refine Jvm.Free.XS.dloadN X9.here hx rfl (hb hby d4_41) rfl ?_
    exact k
  obtain ⟨cl12, Ar12, kq12, Sz12, Nn12, Hs12, Gf12⟩ := id (VK)
  have hin12 : ¬ (u < 0 ∨ cl12.slots.size ≤ (u).toNatClampNeg) := inb_of Sz12 (own_inb Ru)
  obtain ⟨T13, h13, X13, e13, W13, st13⟩ := stD X9 hx hZ e9 Ar12 (j := u) hin12 (g := (mkF m 42 #[.val (.ref a1), .val (.int u), .val (.double key), .second] [(.double key), (.int u), (.ref aK)])) rfl rfl (hb hby d4_42)
  have V14 : Arv Z h13 aK kk .double 3 (own_d (own_u kf u key)) (.double (0 : UInt64)) := by rw [← own_d_set Ru]; exact Arv.set Ar12 kq12 Sz12 Nn12 Hs12 Gf12 rfl W13 _ rfl (own_d_len Ru)
  have f15 := E1.wr W13
  have f16 := FK.other W13 (Or.inl nAK)
  have f17 := FI.other W13 (Or.inl nAK)
  have f18 := FP.other W13 (Or.inl nAK)
  have f19 := FS.other W13 (Or.inl nAK)
  have f20 := VI.other W13 (Ne.symm nKI)
  have f21 := VP.other W13 (Ne.symm nKP)
  have Z22 := Nat.le_trans Z0 (Nat.le_of_eq W13.size.symm)
  have K23 := K0.wr W13 (Or.inl (List.mem_of_getElem? (i := 1) rfl))
  have N24 := Fr.snoc X13 N0 gK
  have go25 : Goes p e below s₁ (entryFrame m #[(.ref a1), (.int u), (.double key)] 4) T13 (mkF m 43 #[.val (.ref a1), .val (.int u), .val (.double key), .second] []) := fun t k => go11 t (st13 t k)
  have go26 : Goes p e below s₁ (entryFrame m #[(.ref a1), (.int u), (.double key)] 4) T13 (mkF m 45 #[.val (.ref a1), .val (.int u), .val (.double key), .second] [(.ref a1), (.ref a1)]) := fun t k => by
    refine go25 t ?_
    refine XS.aloadN X13.here hx rfl (hb hby d4_43) rfl rfl ?_
    refine XS.aloadN X13.here hx rfl (hb hby d4_44) rfl rfl ?_
    exact k
  obtain ⟨T27, X27, e27, st27⟩ := getF X13 hx hZ hown (host := "") (Or.inl (own_wd hw 15 rfl)) Via.refl e13 f18 (g := (mkF m 45 #[.val (.ref a1), .val (.int u), .val (.double key), .second] [(.ref a1), (.ref a1)])) rfl rfl (hb hby d4_45)
  have go28 : Goes p e below s₁ (entryFrame m #[(.ref a1), (.int u), (.double key)] 4) T27 (mkF m 48 #[.val (.ref a1), .val (.int u), .val (.double key), .second] [(.ref aP), (.ref a1)]) := fun t k => go26 t (st27 t k)
  have go29 : Goes p e below s₁ (entryFrame m #[(.ref a1), (.int u), (.double key)] 4) T27 (mkF m 49 #[.val (.ref a1), .val (.int u), .val (.double key), .second] [(.int u), (.ref aP), (.ref a1)]) := fun t k => by
    refine go28 t ?_
    refine XS.iloadN X27.here hx rfl (hb hby d4_48) rfl ?_
    exact k
  obtain ⟨cl30, Ar30, kq30, Sz30, Nn30, Hs30, Gf30⟩ := id (f21)
  have hin30 : ¬ (u < 0 ∨ cl30.slots.size ≤ (u).toNatClampNeg) := inb_of Sz30 (own_inb Ru)
  have hat30 : cl30.slots[(u).toNatClampNeg]? = some (.int (σ.2 u)) := Has.at Hs30 hin30 (own_l_at Ru)
  have go31 : Goes p e below s₁ (entryFrame m #[(.ref a1), (.int u), (.double key)] 4) T27 (mkF m 50 #[.val (.ref a1), .val (.int u), .val (.double key), .second] [(.int (σ.2 u)), (.ref a1)]) := fun t k => by
    refine go29 t ?_
    refine X27.iaload hx (j := u) (v := (.int (σ.2 u))) (own_hp e27 Ar30.1) (State.isArrayOf_alike hZ.alike Ar30.2.1) Ar30.2.2 hin30 hat30 (g := (mkF m 49 #[.val (.ref a1), .val (.int u), .val (.double key), .second] [(.int u), (.ref aP), (.ref a1)])) rfl rfl (hb hby d4_49) _ ?_
    exact k
  have go32 : Goes p e below s₁ (entryFrame m #[(.ref a1), (.int u), (.double key)] 4) T27 (mkF m 50 #[.val (.ref a1), .val (.int u), .val (.double key), .second] [(.int (2 : Int32)), (.ref a1)]) := Eq.mp (congrArg (fun zz => Goes p e below s₁ (entryFrame m #[(.ref a1), (.int u), (.double key)] 4) T27 (mkF m 50 #[.val (.ref a1), .val (.int u), .val (.double key), .second] [(.int zz), (.ref a1)])) hgu) go31
  obtain ⟨cq33, q33a, q33b⟩ := f15.cell
  obtain ⟨_, _, ⟨T33, L33, k33, n33⟩, -, X33, ⟨Lc33, hQ33, l33, y33, z33⟩, st33⟩ := X27.privateBack hx (y := mN_3) hown (mvT hZ (own_wd hw 29 rfl)) (mvT hZ (own_wd hw 30 rfl)) (own_selp (y := mN_3) (by decide) (mvT hZ (own_wd hw 1 rfl)) (mvP hZ (own_wd hw 31 rfl)) (mvT hZ (own_wd hw 30 rfl))) (Cond.privateMethod_at (mvP hZ (own_wd hw 31 rfl) (args := #[]))) (mvT hZ (own_wd hw 32 rfl)) (by decide) (backOf (W := 0) (rmU2 l Z a0 hw [] a1 aK aI aP kk ki kp (own_u kf u key) σ (3 : Int32) h13 n0 Z22 f15 f16 f17 f18 f19 V14 f20 f21 nKI nKP nIP nAK nAI nAP gA gK gI gP R2 R0) hZ (own_wd hw 32 rfl) (own_wd hw 2 rfl) (by decide) (by decide)) (g := (mkF m 50 #[.val (.ref a1), .val (.int u), .val (.double key), .second] [(.int (2 : Int32)), (.ref a1)])) rfl (by rw [hml]; rfl) (Steps.refl _) (a := a1) (by rw [e27]; exact q33a) q33b (argsL := [(.int (2 : Int32))]) (rest := []) (lenOf pd_2 rfl) rfl (by show 2 * 0 + _ ≤ _; exact Nat.le_of_eq rfl) (hb hby d4_50) (fun _ _ => ⟨rfl, e27, (by decide : 0 + 0 ≤ rO_3.cells), (by decide : 0 + 0 ≤ rO_3.slots)⟩)
  dsimp only [Pt.U, Pt.locs, Pt.cells, Pt.slots] at X33 l33 y33 z33 st33 hQ33
  subst l33 y33 z33
  obtain ⟨rfl, N33q, Kq33, VIq33, VPq33⟩ := hQ33
  have N33 := Fr.app N24 N33q
  have f34 := f15.keep Kq33
  have f35 := f16.keep Kq33 (ninS nAI (ninS nAP nin0))
  have f36 := f17.keep Kq33 (ninS nAI (ninS nAP nin0))
  have f37 := f18.keep Kq33 (ninS nAI (ninS nAP nin0))
  have f38 := f19.keep Kq33 (ninS nAI (ninS nAP nin0))
  have f39 := V14.keep Kq33 (ninS nKI (ninS nKP nin0))
  have Z40 := Nat.le_trans Z22 Kq33.1
  have K41 := K23.trans Kq33 (allS (Or.inl (List.mem_of_getElem? (i := 2) rfl)) (allS (Or.inl (List.mem_of_getElem? (i := 3) rfl)) all0))
  obtain ⟨τ33, hτ33⟩ : ∃ z, z = own_up (own_u kf u key) σ (2 : Int32) := ⟨_, rfl⟩
  rw [← hτ33] at VIq33 VPq33
  have go42 : Goes p e below s₁ (entryFrame m #[(.ref a1), (.int u), (.double key)] 4) T33 (mkF m 53 #[.val (.ref a1), .val (.int u), .val (.double key), .second] []) := fun t k => go32 t (st33.trans k)
  have go43 : Goes p e below s₁ (entryFrame m #[(.ref a1), (.int u), (.double key)] 4) T33 (mkF m 55 #[.val (.ref a1), .val (.int u), .val (.double key), .second] [(.ref a1), (.ref a1)]) := fun t k => by
    refine go42 t ?_
    refine XS.aloadN X33.here hx rfl (hb hby d4_53) rfl rfl ?_
    refine XS.aloadN X33.here hx rfl (hb hby d4_54) rfl rfl ?_
    exact k
  obtain ⟨T44, X44, e44, st44⟩ := getF X33 hx hZ hown (host := "") (Or.inl (own_wd hw 15 rfl)) Via.refl rfl f37 (g := (mkF m 55 #[.val (.ref a1), .val (.int u), .val (.double key), .second] [(.ref a1), (.ref a1)])) rfl rfl (hb hby d4_55)
  have go45 : Goes p e below s₁ (entryFrame m #[(.ref a1), (.int u), (.double key)] 4) T44 (mkF m 58 #[.val (.ref a1), .val (.int u), .val (.double key), .second] [(.ref aP), (.ref a1)]) := fun t k => go43 t (st44 t k)
  have go46 : Goes p e below s₁ (entryFrame m #[(.ref a1), (.int u), (.double key)] 4) T44 (mkF m 59 #[.val (.ref a1), .val (.int u), .val (.double key), .second] [(.int u), (.ref aP), (.ref a1)]) := fun t k => by
    refine go45 t ?_
    refine XS.iloadN X44.here hx rfl (hb hby d4_58) rfl ?_
    exact k
  obtain ⟨cl47, Ar47, kq47, Sz47, Nn47, Hs47, Gf47⟩ := id (VPq33)
  have hin47 : ¬ (u < 0 ∨ cl47.slots.size ≤ (u).toNatClampNeg) := inb_of Sz47 (own_inb Ru)
  have hat47 : cl47.slots[(u).toNatClampNeg]? = some (.int (τ33.2 u)) := Has.at Hs47 hin47 (own_l_at Ru)
  have go48 : Goes p e below s₁ (entryFrame m #[(.ref a1), (.int u), (.double key)] 4) T44 (mkF m 60 #[.val (.ref a1), .val (.int u), .val (.double key), .second] [(.int (τ33.2 u)), (.ref a1)]) := fun t k => by
    refine go46 t ?_
    refine X44.iaload hx (j := u) (v := (.int (τ33.2 u))) (own_hp e44 Ar47.1) (State.isArrayOf_alike hZ.alike Ar47.2.1) Ar47.2.2 hin47 hat47 (g := (mkF m 59 #[.val (.ref a1), .val (.int u), .val (.double key), .second] [(.int u), (.ref aP), (.ref a1)])) rfl rfl (hb hby d4_59) _ ?_
    exact k
  have hpos : τ33.2 u = (2 : Int32) ∨ τ33.2 u = 0 := by rw [hτ33]; exact own_up_pos hui
  have hR0 : ∀ j : Int32, j < (3 : Int32) ∧ ¬ j < 0 → own_R (σ.1 j) := by
    intro j hj
    have h6 : j.toInt = 0 ∨ j.toInt = 1 ∨ j.toInt = 2 := by
      have h1 := hj.1; have h2 := hj.2; rw [Int32.lt_iff_toInt_lt] at h1 h2
      have h3 : ((3 : Int32)).toInt = 3 := rfl
      have h4 : (0 : Int32).toInt = 0 := rfl
      omega
    rcases h6 with h6 | h6 | h6
    · rw [own_of_toInt h6]; exact R0
    · rw [own_of_toInt h6]; exact R1
    · rw [own_of_toInt h6]; exact R2
  have hR49 : ∀ j : Int32, j < (3 : Int32) ∧ ¬ j < 0 → own_R (τ33.1 j) := fun j hj => by rw [hτ33]; exact own_up_R (hR0 (2 : Int32) (by decide)) (hR0 (0 : Int32) (by decide)) (hR0 j hj)
  rcases hpos with hp | hp
  · have go50 : Goes p e below s₁ (entryFrame m #[(.ref a1), (.int u), (.double key)] 4) T44 (mkF m 60 #[.val (.ref a1), .val (.int u), .val (.double key), .second] [(.int (2 : Int32)), (.ref a1)]) := Eq.mp (congrArg (fun zz => Goes p e below s₁ (entryFrame m #[(.ref a1), (.int u), (.double key)] 4) T44 (mkF m 60 #[.val (.ref a1), .val (.int u), .val (.double key), .second] [(.int zz), (.ref a1)])) hp) go48
    obtain ⟨cq51, q51a, q51b⟩ := f34.cell
    obtain ⟨_, _, ⟨T51, L51, k51, n51⟩, -, X51, ⟨Lc51, hQ51, l51, y51, z51⟩, st51⟩ := X44.privateBack hx (y := mN_0) hown (mvT hZ (own_wd hw 37 rfl)) (mvT hZ (own_wd hw 38 rfl)) (own_selp (y := mN_0) (by decide) (mvT hZ (own_wd hw 1 rfl)) (mvP hZ (own_wd hw 39 rfl)) (mvT hZ (own_wd hw 38 rfl))) (Cond.privateMethod_at (mvP hZ (own_wd hw 39 rfl) (args := #[]))) (mvT hZ (own_wd hw 40 rfl)) (by decide) (backOf (W := 0) (rmD23 l Z a0 hw [] a1 aK aI aP kk ki kp (own_u kf u key) τ33 T33.heap n0 Z40 f34 f35 f36 f37 f38 f39 VIq33 VPq33 nKI nKP nIP nAK nAI nAP gA gK gI gP (hR49 (2 : Int32) (by decide))) hZ (own_wd hw 40 rfl) (own_wd hw 2 rfl) (by decide) (by decide)) (g := (mkF m 60 #[.val (.ref a1), .val (.int u), .val (.double key), .second] [(.int (2 : Int32)), (.ref a1)])) rfl (by rw [hml]; rfl) (Steps.refl _) (a := a1) (by rw [e44]; exact q51a) q51b (argsL := [(.int (2 : Int32))]) (rest := []) (lenOf pd_2 rfl) rfl (by show 2 * 0 + _ ≤ _; exact Nat.le_of_eq rfl) (hb hby d4_60) (fun _ _ => ⟨rfl, e44, (by decide : 0 + 0 ≤ rO_3.cells), (by decide : 0 + 0 ≤ rO_3.slots)⟩)
    dsimp only [Pt.U, Pt.locs, Pt.cells, Pt.slots] at X51 l51 y51 z51 st51 hQ51
    subst l51 y51 z51
    obtain ⟨rfl, N51q, Kq51, VIq51, VPq51⟩ := hQ51
    have N51 := Fr.app N33 N51q
    have f52 := f34.keep Kq51
    have f53 := f35.keep Kq51 (ninS nAI (ninS nAP nin0))
    have f54 := f36.keep Kq51 (ninS nAI (ninS nAP nin0))
    have f55 := f37.keep Kq51 (ninS nAI (ninS nAP nin0))
    have f56 := f38.keep Kq51 (ninS nAI (ninS nAP nin0))
    have f57 := f39.keep Kq51 (ninS nKI (ninS nKP nin0))
    have Z58 := Nat.le_trans Z40 Kq51.1
    have K59 := K41.trans Kq51 (allS (Or.inl (List.mem_of_getElem? (i := 2) rfl)) (allS (Or.inl (List.mem_of_getElem? (i := 3) rfl)) all0))
    have go60 : Goes p e below s₁ (entryFrame m #[(.ref a1), (.int u), (.double key)] 4) T51 (mkF m 63 #[.val (.ref a1), .val (.int u), .val (.double key), .second] []) := fun t k => go50 t (st51.trans k)
    obtain ⟨fs, hr, hrun, hended, hW, hsame⟩ := X51.leave (v := none) (fun _ => rfl)
    have hput : own_sift (own_u kf u key) σ u (3 : Int32) = own_dn (own_u kf u key) τ33 (2 : Int32) (3 : Int32) := by
      unfold own_sift; rw [hgu, ← hτ33, hp]
    refine ⟨_, _, go60 _ ?_, hrun, hended, _, _, rfl, ?_, ⟨_, rfl⟩, hW, hsame.mono (by decide) (by decide)⟩
    · exact X51.returnOut hx Bd.returns (hb hby d4_63) hr
    · show QPP23 Z _ _ _ _ _ _ _ _ _ _ _ _ _ _ T51.heap _
      exact ⟨rfl, N51, K59, f52, f53, f54, f55, f56, f57, by rw [hput]; exact VIq51, by rw [hput]; exact VPq51⟩
  · have go61 : Goes p e below s₁ (entryFrame m #[(.ref a1), (.int u), (.double key)] 4) T44 (mkF m 60 #[.val (.ref a1), .val (.int u), .val (.double key), .second] [(.int (0 : Int32)), (.ref a1)]) := Eq.mp (congrArg (fun zz => Goes p e below s₁ (entryFrame m #[(.ref a1), (.int u), (.double key)] 4) T44 (mkF m 60 #[.val (.ref a1), .val (.int u), .val (.double key), .second] [(.int zz), (.ref a1)])) hp) go48
    obtain ⟨cq62, q62a, q62b⟩ := f34.cell
    obtain ⟨_, _, ⟨T62, L62, k62, n62⟩, -, X62, ⟨Lc62, hQ62, l62, y62, z62⟩, st62⟩ := X44.privateBack hx (y := mN_0) hown (mvT hZ (own_wd hw 37 rfl)) (mvT hZ (own_wd hw 38 rfl)) (own_selp (y := mN_0) (by decide) (mvT hZ (own_wd hw 1 rfl)) (mvP hZ (own_wd hw 39 rfl)) (mvT hZ (own_wd hw 38 rfl))) (Cond.privateMethod_at (mvP hZ (own_wd hw 39 rfl) (args := #[]))) (mvT hZ (own_wd hw 40 rfl)) (by decide) (backOf (W := 0) (rmD03 l Z a0 hw [] a1 aK aI aP kk ki kp (own_u kf u key) τ33 T33.heap n0 Z40 f34 f35 f36 f37 f38 f39 VIq33 VPq33 nKI nKP nIP nAK nAI nAP gA gK gI gP (hR49 (0 : Int32) (by decide)) (hR49 (1 : Int32) (by decide)) (hR49 (2 : Int32) (by decide))) hZ (own_wd hw 40 rfl) (own_wd hw 2 rfl) (by decide) (by decide)) (g := (mkF m 60 #[.val (.ref a1), .val (.int u), .val (.double key), .second] [(.int (0 : Int32)), (.ref a1)])) rfl (by rw [hml]; rfl) (Steps.refl _) (a := a1) (by rw [e44]; exact q62a) q62b (argsL := [(.int (0 : Int32))]) (rest := []) (lenOf pd_2 rfl) rfl (by show 2 * 0 + _ ≤ _; exact Nat.le_of_eq rfl) (hb hby d4_60) (fun _ _ => ⟨rfl, e44, (by decide : 0 + 0 ≤ rO_3.cells), (by decide : 0 + 0 ≤ rO_3.slots)⟩)
    dsimp only [Pt.U, Pt.locs, Pt.cells, Pt.slots] at X62 l62 y62 z62 st62 hQ62
    subst l62 y62 z62
    obtain ⟨rfl, N62q, Kq62, VIq62, VPq62⟩ := hQ62
    have N62 := Fr.app N33 N62q
    have f63 := f34.keep Kq62
    have f64 := f35.keep Kq62 (ninS nAI (ninS nAP nin0))
    have f65 := f36.keep Kq62 (ninS nAI (ninS nAP nin0))
    have f66 := f37.keep Kq62 (ninS nAI (ninS nAP nin0))
    have f67 := f38.keep Kq62 (ninS nAI (ninS nAP nin0))
    have f68 := f39.keep Kq62 (ninS nKI (ninS nKP nin0))
    have Z69 := Nat.le_trans Z40 Kq62.1
    have K70 := K41.trans Kq62 (allS (Or.inl (List.mem_of_getElem? (i := 2) rfl)) (allS (Or.inl (List.mem_of_getElem? (i := 3) rfl)) all0))
    have go71 : Goes p e below s₁ (entryFrame m #[(.ref a1), (.int u), (.double key)] 4) T62 (mkF m 63 #[.val (.ref a1), .val (.int u), .val (.double key), .second] []) := fun t k => go61 t (st62.trans k)
    obtain ⟨fs, hr, hrun, hended, hW, hsame⟩ := X62.leave (v := none) (fun _ => rfl)
    have hput : own_sift (own_u kf u key) σ u (3 : Int32) = own_dn (own_u kf u key) τ33 (0 : Int32) (3 : Int32) := by
      unfold own_sift; rw [hgu, ← hτ33, hp]
    refine ⟨_, _, go71 _ ?_, hrun, hended, _, _, rfl, ?_, ⟨_, rfl⟩, hW, hsame.mono (by decide) (by decide)⟩
    · exact X62.returnOut hx Bd.returns (hb hby d4_63) hr
    · show QPP23 Z _ _ _ _ _ _ _ _ _ _ _ _ _ _ T62.heap _
      exact ⟨rfl, N62, K70, f63, f64, f65, f66, f67, f68, by rw [hput]; exact VIq62, by rw [hput]; exact VPq62⟩
abbrev own_G (σ : own_P) (n : Int32) (S : Int32 → Prop) : Prop := (∀ j, ¬ j < 0 → j < n → own_R (σ.1 j) ∧ S (σ.1 j) ∧ σ.2 (σ.1 j) = j) ∧ (∀ u, own_R u → S u → ¬ σ.2 u < 0 ∧ σ.2 u < n ∧ σ.1 (σ.2 u) = u) ∧ (∀ u, own_R u → ¬ S u → σ.2 u < 0)
theorem own_G.a {σ : own_P} {n : Int32} {S : Int32 → Prop} (G : own_G σ n S) : ∀ j, ¬ j < 0 → j < n → own_R (σ.1 j) ∧ S (σ.1 j) ∧ σ.2 (σ.1 j) = j := And.left G
theorem own_G.b {σ : own_P} {n : Int32} {S : Int32 → Prop} (G : own_G σ n S) : ∀ u, own_R u → S u → ¬ σ.2 u < 0 ∧ σ.2 u < n ∧ σ.1 (σ.2 u) = u := And.left (And.right G)
theorem own_G.c {σ : own_P} {n : Int32} {S : Int32 → Prop} (G : own_G σ n S) : ∀ u, own_R u → ¬ S u → σ.2 u < 0 := And.right (And.right G)
theorem own_ue {α : Type} {f : Int32 → α} {i j : Int32} {v : α} (h : i = j) : own_u f j v i = v := if_pos h
theorem own_G.swap {σ : own_P} {n : Int32} {S : Int32 → Prop} (G : own_G σ n S) {i j : Int32} (hi : ¬ i < 0 ∧ i < n) (hj : ¬ j < 0 ∧ j < n) : own_G (own_mv (own_mv σ (σ.1 j) i) (σ.1 i) j) n S := by
  have Ai := G.a i hi.1 hi.2
  have Aj := G.a j hj.1 hj.2
  refine ⟨fun k h1 h2 => ?_, fun u hu hS => ?_, fun u hu hS => ?_⟩
  · have Ak := G.a k h1 h2
    dsimp only [own_mv]
    by_cases c1 : k = j
    · subst c1; rw [own_ue rfl, own_ue rfl]; exact ⟨Ai.1, Ai.2.1, rfl⟩
    · rw [own_un c1]
      by_cases c2 : k = i
      · subst c2
        have c3 : ¬ σ.1 j = σ.1 k := fun h => c1 (by rw [← Ai.2.2, ← h, Aj.2.2])
        rw [own_ue rfl, own_un c3, own_ue rfl]; exact ⟨Aj.1, Aj.2.1, rfl⟩
      · have c3 : ¬ σ.1 k = σ.1 i := fun h => c2 (by rw [← Ak.2.2, h, Ai.2.2])
        have c4 : ¬ σ.1 k = σ.1 j := fun h => c1 (by rw [← Ak.2.2, h, Aj.2.2])
        rw [own_un c2, own_un c3, own_un c4]; exact Ak
  · have B := G.b u hu hS
    dsimp only [own_mv]
    by_cases c1 : u = σ.1 i
    · rw [own_ue c1, own_ue rfl]; exact ⟨hj.1, hj.2, c1.symm⟩
    · rw [own_un c1]
      by_cases c2 : u = σ.1 j
      · have c3 : ¬ i = j := fun h => c1 (by rw [h]; exact c2)
        rw [own_ue c2, own_un c3, own_ue rfl]; exact ⟨hi.1, hi.2, c2.symm⟩
      · have c3 : ¬ σ.2 u = j := fun h => c2 (by rw [← h]; exact B.2.2.symm)
        have c4 : ¬ σ.2 u = i := fun h => c1 (by rw [← h]; exact B.2.2.symm)
        rw [own_un c2, own_un c3, own_un c4]; exact B
  · have C := G.c u hu hS
    dsimp only [own_mv]
    have c1 : ¬ u = σ.1 i := fun h => hS (by rw [h]; exact Ai.2.1)
    have c2 : ¬ u = σ.1 j := fun h => hS (by rw [h]; exact Aj.2.1)
    rw [own_un c1, own_un c2]; exact C
theorem own_G.stay {σ : own_P} {n : Int32} {S : Int32 → Prop} (G : own_G σ n S) {i : Int32} (hi : ¬ i < 0 ∧ i < n) : own_mv σ (σ.1 i) i = σ := by
  have Ai := G.a i hi.1 hi.2
  apply Prod.ext
  · funext k; dsimp only [own_mv]; by_cases c : k = i
    · rw [own_ue c, c]
    · rw [own_un c]
  · funext k; dsimp only [own_mv]; by_cases c : k = σ.1 i
    · rw [own_ue c, c, Ai.2.2]
    · rw [own_un c]
theorem own_G.up {σ : own_P} {n : Int32} {S : Int32 → Prop} (G : own_G σ n S) (kf : Int32 → UInt64) {i : Int32} (hi : ¬ i < 0 ∧ i < n) (h0 : (0 : Int32) < n) : own_G (own_up kf σ i) n S := by
  unfold own_up; split
  · rw [G.stay hi]; exact G
  · exact G.swap hi ⟨by decide, h0⟩
theorem own_ch_lt {kf : Int32 → UInt64} {σ : own_P} {n : Int32} (hn : n = 2 ∨ n = 3) : ¬ own_ch kf σ n < 0 ∧ own_ch kf σ n < n := by
  rcases hn with rfl | rfl
  · have : own_ch kf σ 2 = 1 := if_neg (fun h => absurd h.1 (by decide))
    rw [this]; decide
  · unfold own_ch; split <;> decide
theorem own_G.dn {σ : own_P} {n : Int32} {S : Int32 → Prop} (G : own_G σ n S) (kf : Int32 → UInt64) {i : Int32} (hi : ¬ i < 0 ∧ i < n) (hn : n = 1 ∨ n = 2 ∨ n = 3) : own_G (own_dn kf σ i n) n S := by
  unfold own_dn; split
  · rename_i c
    have hn' : n = 2 ∨ n = 3 := hn.resolve_left c.2.1
    have e0 : (0 : Int32) < n := by rcases hn' with rfl | rfl <;> decide
    exact G.swap ⟨by decide, e0⟩ (own_ch_lt hn')
  · rw [G.stay hi]; exact G
theorem own_G.sift {σ : own_P} {n : Int32} {S : Int32 → Prop} (G : own_G σ n S) (kf : Int32 → UInt64) {u : Int32} (hu : own_R u) (hS : S u) (hn : n = 1 ∨ n = 2 ∨ n = 3) : own_G (own_sift kf σ u n) n S := by
  have e0 : (0 : Int32) < n := by rcases hn with rfl | rfl | rfl <;> decide
  have B := G.b u hu hS
  have G' := G.up kf ⟨B.1, B.2.1⟩ e0
  have B' := G'.b u hu hS
  exact G'.dn kf ⟨B'.1, B'.2.1⟩ hn
theorem own_lt_succ {n j : Int32} (hn : n = 0 ∨ n = 1 ∨ n = 2) (h : j < n + 1) : j = n ∨ j < n := by
  by_cases c : j = n
  · exact Or.inl c
  · right
    rw [Int32.lt_iff_toInt_lt] at h ⊢
    have c' : ¬ j.toInt = n.toInt := fun q => c (Int32.toInt_inj.mp q)
    have : (n + 1).toInt = n.toInt + 1 := by rcases hn with rfl | rfl | rfl <;> rfl
    omega
theorem own_lt_of {n j : Int32} (hn : n = 0 ∨ n = 1 ∨ n = 2) (h : j < n) : j < n + 1 := by
  rw [Int32.lt_iff_toInt_lt] at h ⊢
  have : (n + 1).toInt = n.toInt + 1 := by rcases hn with rfl | rfl | rfl <;> rfl
  omega
theorem own_irr (j : Int32) : ¬ j < j := by rw [Int32.lt_iff_toInt_lt]; omega
def own_add (S : Int32 → Prop) (u : Int32) : Int32 → Prop := fun x => x = u ∨ S x
def own_del (S : Int32 → Prop) (u : Int32) : Int32 → Prop := fun x => ¬ x = u ∧ S x
theorem own_G.base {σ : own_P} {n : Int32} {S : Int32 → Prop} (G : own_G σ n S) {u : Int32} (hu : own_R u) (hS : ¬ S u) (hn : n = 0 ∨ n = 1 ∨ n = 2) : own_G (own_u σ.1 n u, own_u σ.2 u n) (n + 1) (own_add S u) := by
  have n0 : ¬ n < 0 := by rcases hn with rfl | rfl | rfl <;> decide
  have n1 : n < n + 1 := by rcases hn with rfl | rfl | rfl <;> decide
  refine ⟨fun j h1 h2 => ?_, fun x hx hSx => ?_, fun x hx hSx => ?_⟩
  · dsimp only
    by_cases c : j = n
    · subst c; rw [own_ue rfl, own_ue rfl]; exact ⟨hu, Or.inl rfl, rfl⟩
    · have A := G.a j h1 ((own_lt_succ hn h2).resolve_left c)
      have c2 : ¬ σ.1 j = u := fun h => hS (by rw [← h]; exact A.2.1)
      rw [own_un c, own_un c2]; exact ⟨A.1, Or.inr A.2.1, A.2.2⟩
  · dsimp only
    by_cases c : x = u
    · subst c; rw [own_ue rfl, own_ue rfl]; exact ⟨n0, n1, rfl⟩
    · have B := G.b x hx (hSx.resolve_left c)
      have c2 : ¬ σ.2 x = n := fun h => own_irr n (by have := B.2.1; rw [h] at this; exact this)
      rw [own_un c, own_un c2]; exact ⟨B.1, own_lt_of hn B.2.1, B.2.2⟩
  · dsimp only
    have c : ¬ x = u := fun h => hSx (Or.inl h)
    rw [own_un c]; exact G.c x hx (fun h => hSx (Or.inr h))
theorem own_G.putA {σ : own_P} {n : Int32} {S : Int32 → Prop} (G : own_G σ n S) (kf : Int32 → UInt64) {u : Int32} (hu : own_R u) (hS : ¬ S u) (hn : n = 0 ∨ n = 1 ∨ n = 2) : own_G (own_putA kf σ u n) (n + 1) (own_add S u) :=
  (G.base hu hS hn).sift kf hu (Or.inl rfl) (by rcases hn with rfl | rfl | rfl <;> decide)
theorem own_lt_last {n i : Int32} (hn : n = 1 ∨ n = 2 ∨ n = 3) (h : i < n) : i = n - 1 ∨ i < n - 1 := by
  by_cases c : i = n - 1
  · exact Or.inl c
  · right
    rw [Int32.lt_iff_toInt_lt] at h ⊢
    have c' : ¬ i.toInt = (n - 1).toInt := fun q => c (Int32.toInt_inj.mp q)
    have : (n - 1).toInt = n.toInt - 1 := by rcases hn with rfl | rfl | rfl <;> rfl
    omega
theorem own_lt_pre {n i : Int32} (hn : n = 1 ∨ n = 2 ∨ n = 3) (h : i < n - 1) : i < n := by
  rw [Int32.lt_iff_toInt_lt] at h ⊢
  have : (n - 1).toInt = n.toInt - 1 := by rcases hn with rfl | rfl | rfl <;> rfl
  omega
theorem own_G.rmv {σ : own_P} {n : Int32} {S : Int32 → Prop} (G : own_G σ n S) (kf : Int32 → UInt64) {u : Int32} (hu : own_R u) (hS : S u) (hn : n = 1 ∨ n = 2 ∨ n = 3) : own_G (own_rmv kf σ u (σ.2 u) n) (n - 1) (own_del S u) := by
  have B := G.b u hu hS
  have l0 : ¬ n - 1 < 0 := by rcases hn with rfl | rfl | rfl <;> decide
  have l1 : n - 1 < n := by rcases hn with rfl | rfl | rfl <;> decide
  have A := G.a (n - 1) l0 l1
  unfold own_rmv; split
  · rename_i c
    refine ⟨fun j h1 h2 => ?_, fun x hx hSx => ?_, fun x hx hSx => ?_⟩
    · have Aj := G.a j h1 (own_lt_pre hn h2)
      have c1 : ¬ σ.1 j = u := fun h => own_irr j (by have := h2; rw [← c, ← h, Aj.2.2] at this; exact this)
      dsimp only; rw [own_un c1]; exact ⟨Aj.1, ⟨c1, Aj.2.1⟩, Aj.2.2⟩
    · have Bx := G.b x hx hSx.2
      dsimp only; rw [own_un hSx.1]
      refine ⟨Bx.1, (own_lt_last hn Bx.2.1).resolve_left (fun h => hSx.1 ?_), Bx.2.2⟩
      rw [← Bx.2.2, h, ← c, B.2.2]
    · dsimp only
      by_cases c1 : x = u
      · rw [own_ue c1]; decide
      · rw [own_un c1]; exact G.c x hx (fun h => hSx ⟨c1, h⟩)
  · rename_i c
    have ne : ¬ σ.1 (n - 1) = u := fun h => c (by rw [← h, A.2.2])
    have hn' : n - 1 = 1 ∨ n - 1 = 2 ∨ n - 1 = 3 := by
      rcases hn with rfl | rfl | rfl
      · exfalso
        have h1 := B.1; have h2 := B.2.1
        have c' : ¬ (σ.2 u).toInt = 0 := fun q => c (Int32.toInt_inj.mp q)
        rw [Int32.lt_iff_toInt_lt] at h1 h2
        have z1 : (1 : Int32).toInt = 1 := rfl
        have z2 : (0 : Int32).toInt = 0 := rfl
        omega
      · exact Or.inl rfl
      · exact Or.inr (Or.inl rfl)
    have i1 : σ.2 u < n - 1 := (own_lt_last hn B.2.1).resolve_left c
    refine own_G.sift ?_ kf A.1 ⟨ne, A.2.1⟩ hn'
    refine ⟨fun j h1 h2 => ?_, fun x hx hSx => ?_, fun x hx hSx => ?_⟩
    · dsimp only
      by_cases c1 : j = σ.2 u
      · rw [own_ue c1, own_ue rfl]; exact ⟨A.1, ⟨ne, A.2.1⟩, c1.symm⟩
      · have Aj := G.a j h1 (own_lt_pre hn h2)
        have c2 : ¬ σ.1 j = σ.1 (n - 1) := fun h => own_irr j (by have := h2; rw [← A.2.2, ← h, Aj.2.2] at this; exact this)
        have c3 : ¬ σ.1 j = u := fun h => c1 (by rw [← h, Aj.2.2])
        rw [own_un c1, own_un c2, own_un c3]; exact ⟨Aj.1, ⟨c3, Aj.2.1⟩, Aj.2.2⟩
    · have Bx := G.b x hx hSx.2
      dsimp only
      by_cases c1 : x = σ.1 (n - 1)
      · rw [own_ue c1, own_ue rfl]; exact ⟨B.1, i1, c1.symm⟩
      · have c2 : ¬ σ.2 x = σ.2 u := fun h => hSx.1 (by rw [← Bx.2.2, h, B.2.2])
        rw [own_un c1, own_un hSx.1, own_un c2]
        exact ⟨Bx.1, (own_lt_last hn Bx.2.1).resolve_left (fun h => c1 (by rw [← h, Bx.2.2])), Bx.2.2⟩
    · dsimp only
      have c1 : ¬ x = σ.1 (n - 1) := fun h => hSx (by rw [h]; exact ⟨ne, A.2.1⟩)
      rw [own_un c1]
      by_cases c2 : x = u
      · rw [own_ue c2]; decide
      · rw [own_un c2]; exact G.c x hx (fun h => hSx ⟨c2, h⟩)
theorem own_G.congr {σ : own_P} {n n' : Int32} {S S' : Int32 → Prop} (G : own_G σ n S) (hn : n = n') (h : ∀ u, own_R u → (S u ↔ S' u)) : own_G σ n' S' := by
  subst hn
  refine ⟨fun j h1 h2 => ?_, fun u hu hS => G.b u hu ((h u hu).mpr hS), fun u hu hS => G.c u hu (fun q => hS ((h u hu).mp q))⟩
  have A := G.a j h1 h2; exact ⟨A.1, (h _ A.1).mp A.2.1, A.2.2⟩
def own_S (a b c : Int32) : Int32 → Prop := fun u => (u = 0 ∧ a = 1) ∨ (u = 1 ∧ b = 1) ∨ (u = 2 ∧ c = 1)
theorem own_S_add0 {b c : Int32} : ∀ u, own_R u → (own_add (own_S 0 b c) 0 u ↔ own_S 1 b c u) := by rintro u (rfl | rfl | rfl) <;> simp [own_add, own_S]
theorem own_S_add1 {a c : Int32} : ∀ u, own_R u → (own_add (own_S a 0 c) 1 u ↔ own_S a 1 c u) := by rintro u (rfl | rfl | rfl) <;> simp [own_add, own_S]
theorem own_S_add2 {a b : Int32} : ∀ u, own_R u → (own_add (own_S a b 0) 2 u ↔ own_S a b 1 u) := by rintro u (rfl | rfl | rfl) <;> simp [own_add, own_S]
theorem own_S_del0 {b c : Int32} : ∀ u, own_R u → (own_del (own_S 1 b c) 0 u ↔ own_S 0 b c u) := by rintro u (rfl | rfl | rfl) <;> simp [own_del, own_S]
theorem own_S_del1 {a c : Int32} : ∀ u, own_R u → (own_del (own_S a 1 c) 1 u ↔ own_S a 0 c u) := by rintro u (rfl | rfl | rfl) <;> simp [own_del, own_S]
theorem own_S_del2 {a b : Int32} : ∀ u, own_R u → (own_del (own_S a b 1) 2 u ↔ own_S a b 0 u) := by rintro u (rfl | rfl | rfl) <;> simp [own_del, own_S]
theorem own_G_new : own_G (fun _ => 0, fun _ => -1) 0 (own_S 0 0 0) := by
  refine ⟨fun j h1 h2 => absurd h2 h1, fun u _ h => ?_, fun u _ _ => (by decide : (-1 : Int32) < 0)⟩
  exact absurd h (by simp [own_S])
def own_e (n : Int32) : Int32 := if n = 0 then 1 else 0
def QPut (Z : State) (a1 : Addr) (u : Int32) (key : UInt64) (aK aI aP : Addr) (kk ki kp : ClassId) (kf : Int32 → UInt64) (σ : own_P) (n : Int32) (S : Int32 → Prop) (h0 : Heap) (n0 : Nat) (v : Option Value) (h : Heap) (L : List Loc) : Prop := v = none ∧ Fr n0 L ∧ Keep h0 h [a1, aK, aI, aP] ∧ Exa Z h a1 "com/example/covermesh/covermesh/algorithms/IndexedMinHeap" ∧ Fld Z h a1 "com/example/covermesh/covermesh/algorithms/IndexedMinHeap" "keys" "[D" (.ref aK) ∧ Fld Z h a1 "com/example/covermesh/covermesh/algorithms/IndexedMinHeap" "items" "[I" (.ref aI) ∧ Fld Z h a1 "com/example/covermesh/covermesh/algorithms/IndexedMinHeap" "positions" "[I" (.ref aP) ∧ Fld Z h a1 "com/example/covermesh/covermesh/algorithms/IndexedMinHeap" "size" "I" (.int (n + 1)) ∧ Arv Z h aK kk .double 3 (own_d (own_u kf u key)) (.double (0 : UInt64)) ∧ Arv Z h aI ki .int 3 (own_l (own_putA (own_u kf u key) σ u n).1) (.int (0 : Int32)) ∧ Arv Z h aP kp .int 3 (own_l (own_putA (own_u kf u key) σ u n).2) (.int (0 : Int32))
theorem rmPut (l : Launch) (Z : State) (a0 : Array Value) (hw : ∀ d ∈ tables_1, d.before a0 Z = true) (ws : List Jvm.Cond) (a1 : Addr) (u : Int32) (key : UInt64) (aK aI aP : Addr) (kk ki kp : ClassId) (kf : Int32 → UInt64) (σ : own_P) (n : Int32) (S : Int32 → Prop) (h0 : Heap) (n0 : Nat) (Z0 : n0 ≤ h0.size) (E1 : Exa Z h0 a1 "com/example/covermesh/covermesh/algorithms/IndexedMinHeap") (FK : Fld Z h0 a1 "com/example/covermesh/covermesh/algorithms/IndexedMinHeap" "keys" "[D" (.ref aK)) (FI : Fld Z h0 a1 "com/example/covermesh/covermesh/algorithms/IndexedMinHeap" "items" "[I" (.ref aI)) (FP : Fld Z h0 a1 "com/example/covermesh/covermesh/algorithms/IndexedMinHeap" "positions" "[I" (.ref aP)) (FS : Fld Z h0 a1 "com/example/covermesh/covermesh/algorithms/IndexedMinHeap" "size" "I" (.int n)) (VK : Arv Z h0 aK kk .double 3 (own_d kf) (.double (0 : UInt64))) (VI : Arv Z h0 aI ki .int 3 (own_l σ.1) (.int (0 : Int32))) (VP : Arv Z h0 aP kp .int 3 (own_l σ.2) (.int (0 : Int32))) (nKI : aK ≠ aI) (nKP : aK ≠ aP) (nIP : aI ≠ aP) (nAK : a1 ≠ aK) (nAI : a1 ≠ aI) (nAP : a1 ≠ aP) (gA : n0 ≤ a1) (gK : n0 ≤ aK) (gI : n0 ≤ aI) (gP : n0 ≤ aP) (Ru : own_R u) (G : own_G σ n S) (hS : ¬ S u) (hn : n = 0 ∨ n = 1 ∨ n = 2) :
    MetFree l mN_2 (head1 (Jvm.Cond.code mN_2 prog_17_method_4_code 4 none :: ws) rO_3) (fun a U => a = #[(.ref a1), (.int u), (.double key)] ∧ Z.Warmed39 U.vm ∧ U.heap = h0) (fun _ _ _ _ _ => True) (fun _ U o U' => ∃ v L, o = .returned v ∧ QPut Z a1 u key aK aI aP kk ki kp kf σ n S h0 n0 v U'.heap L ∧ FrameEnd U o U' L rO_3.cells rO_3.slots) := by
  have hg : ∀ j, ¬ j < 0 → j < n → own_R (σ.1 j) := fun j h1 h2 => (G.a j h1 h2).1
  have hgu := G.c u Ru hS
  rcases hn with rfl | rfl | rfl
  · exact rmPA0 l Z a0 hw ws a1 u key aK aI aP kk ki kp kf σ h0 n0 Z0 E1 FK FI FP FS VK VI VP nKI nKP nIP nAK nAI nAP gA gK gI gP Ru hgu
  · exact rmPA1 l Z a0 hw ws a1 u key aK aI aP kk ki kp kf σ h0 n0 Z0 E1 FK FI FP FS VK VI VP nKI nKP nIP nAK nAI nAP gA gK gI gP Ru hgu (hg (0 : Int32) (by decide) (by decide))
  · exact rmPA2 l Z a0 hw ws a1 u key aK aI aP kk ki kp kf σ h0 n0 Z0 E1 FK FI FP FS VK VI VP nKI nKP nIP nAK nAI nAP gA gK gI gP Ru hgu (hg (0 : Int32) (by decide) (by decide)) (hg (1 : Int32) (by decide) (by decide))
def QRem (Z : State) (a1 : Addr) (u : Int32) (aK aI aP : Addr) (kk ki kp : ClassId) (kf : Int32 → UInt64) (σ : own_P) (n : Int32) (S : Int32 → Prop) (h0 : Heap) (n0 : Nat) (v : Option Value) (h : Heap) (L : List Loc) : Prop := v = none ∧ Fr n0 L ∧ Keep h0 h [a1, aK, aI, aP] ∧ Exa Z h a1 "com/example/covermesh/covermesh/algorithms/IndexedMinHeap" ∧ Fld Z h a1 "com/example/covermesh/covermesh/algorithms/IndexedMinHeap" "keys" "[D" (.ref aK) ∧ Fld Z h a1 "com/example/covermesh/covermesh/algorithms/IndexedMinHeap" "items" "[I" (.ref aI) ∧ Fld Z h a1 "com/example/covermesh/covermesh/algorithms/IndexedMinHeap" "positions" "[I" (.ref aP) ∧ Fld Z h a1 "com/example/covermesh/covermesh/algorithms/IndexedMinHeap" "size" "I" (.int (n - 1)) ∧ Arv Z h aK kk .double 3 (own_d kf) (.double (0 : UInt64)) ∧ Arv Z h aI ki .int 3 (own_l (own_rmv kf σ u (σ.2 u) n).1) (.int (0 : Int32)) ∧ Arv Z h aP kp .int 3 (own_l (own_rmv kf σ u (σ.2 u) n).2) (.int (0 : Int32))
theorem rmRem (l : Launch) (Z : State) (a0 : Array Value) (hw : ∀ d ∈ tables_1, d.before a0 Z = true) (ws : List Jvm.Cond) (a1 : Addr) (u : Int32) (aK aI aP : Addr) (kk ki kp : ClassId) (kf : Int32 → UInt64) (σ : own_P) (n : Int32) (S : Int32 → Prop) (h0 : Heap) (n0 : Nat) (Z0 : n0 ≤ h0.size) (E1 : Exa Z h0 a1 "com/example/covermesh/covermesh/algorithms/IndexedMinHeap") (FK : Fld Z h0 a1 "com/example/covermesh/covermesh/algorithms/IndexedMinHeap" "keys" "[D" (.ref aK)) (FI : Fld Z h0 a1 "com/example/covermesh/covermesh/algorithms/IndexedMinHeap" "items" "[I" (.ref aI)) (FP : Fld Z h0 a1 "com/example/covermesh/covermesh/algorithms/IndexedMinHeap" "positions" "[I" (.ref aP)) (FS : Fld Z h0 a1 "com/example/covermesh/covermesh/algorithms/IndexedMinHeap" "size" "I" (.int n)) (VK : Arv Z h0 aK kk .double 3 (own_d kf) (.double (0 : UInt64))) (VI : Arv Z h0 aI ki .int 3 (own_l σ.1) (.int (0 : Int32))) (VP : Arv Z h0 aP kp .int 3 (own_l σ.2) (.int (0 : Int32))) (nKI : aK ≠ aI) (nKP : aK ≠ aP) (nIP : aI ≠ aP) (nAK : a1 ≠ aK) (nAI : a1 ≠ aI) (nAP : a1 ≠ aP) (gA : n0 ≤ a1) (gK : n0 ≤ aK) (gI : n0 ≤ aI) (gP : n0 ≤ aP) (Ru : own_R u) (G : own_G σ n S) (hS : S u) (hn : n = 1 ∨ n = 2 ∨ n = 3) :
    MetFree l mN_4 (head1 (Jvm.Cond.code mN_4 prog_17_method_6_code 4 none :: ws) rO_3) (fun a U => a = #[(.ref a1), (.int u)] ∧ Z.Warmed39 U.vm ∧ U.heap = h0) (fun _ _ _ _ _ => True) (fun _ U o U' => ∃ v L, o = .returned v ∧ QRem Z a1 u aK aI aP kk ki kp kf σ n S h0 n0 v U'.heap L ∧ FrameEnd U o U' L rO_3.cells rO_3.slots) := by
  have hg : ∀ j, ¬ j < 0 → j < n → own_R (σ.1 j) := fun j h1 h2 => (G.a j h1 h2).1
  obtain ⟨b1, b2, -⟩ := G.b u Ru hS
  obtain ⟨i, hi⟩ : ∃ i, i = σ.2 u := ⟨_, rfl⟩
  unfold QRem
  rw [← hi] at b1 b2 ⊢
  rcases hn with rfl | rfl | rfl
  · have hk : i = 0 := by
      rw [Int32.lt_iff_toInt_lt] at b1 b2
      have z1 : ((1 : Int32)).toInt = 1 := rfl
      have z2 : (0 : Int32).toInt = 0 := rfl
      exact own_of_toInt (show i.toInt = 0 by omega)
    rcases hk with rfl
    · exact rmRm01 l Z a0 hw ws a1 u aK aI aP kk ki kp kf σ h0 n0 Z0 E1 FK FI FP FS VK VI VP nKI nKP nIP nAK nAI nAP gA gK gI gP Ru hi.symm
  · have hk : i = 0 ∨ i = 1 := by
      rw [Int32.lt_iff_toInt_lt] at b1 b2
      have z1 : ((2 : Int32)).toInt = 2 := rfl
      have z2 : (0 : Int32).toInt = 0 := rfl
      have h6 : i.toInt = 0 ∨ i.toInt = 1 := by omega
      rcases h6 with h6 | h6
      · exact Or.inl (own_of_toInt h6)
      · exact Or.inr ((own_of_toInt h6))
    rcases hk with rfl | rfl
    · exact rmRm02 l Z a0 hw ws a1 u aK aI aP kk ki kp kf σ h0 n0 Z0 E1 FK FI FP FS VK VI VP nKI nKP nIP nAK nAI nAP gA gK gI gP Ru hi.symm (hg (0 : Int32) (by decide) (by decide)) (hg (1 : Int32) (by decide) (by decide))
    · exact rmRm12 l Z a0 hw ws a1 u aK aI aP kk ki kp kf σ h0 n0 Z0 E1 FK FI FP FS VK VI VP nKI nKP nIP nAK nAI nAP gA gK gI gP Ru hi.symm
  · have hk : i = 0 ∨ i = 1 ∨ i = 2 := by
      rw [Int32.lt_iff_toInt_lt] at b1 b2
      have z1 : ((3 : Int32)).toInt = 3 := rfl
      have z2 : (0 : Int32).toInt = 0 := rfl
      have h6 : i.toInt = 0 ∨ i.toInt = 1 ∨ i.toInt = 2 := by omega
      rcases h6 with h6 | h6 | h6
      · exact Or.inl (own_of_toInt h6)
      · exact Or.inr (Or.inl (own_of_toInt h6))
      · exact Or.inr (Or.inr ((own_of_toInt h6)))
    rcases hk with rfl | rfl | rfl
    · exact rmRm03 l Z a0 hw ws a1 u aK aI aP kk ki kp kf σ h0 n0 Z0 E1 FK FI FP FS VK VI VP nKI nKP nIP nAK nAI nAP gA gK gI gP Ru hi.symm (hg (0 : Int32) (by decide) (by decide)) (hg (1 : Int32) (by decide) (by decide)) (hg (2 : Int32) (by decide) (by decide))
    · exact rmRm13 l Z a0 hw ws a1 u aK aI aP kk ki kp kf σ h0 n0 Z0 E1 FK FI FP FS VK VI VP nKI nKP nIP nAK nAI nAP gA gK gI gP Ru hi.symm (hg (0 : Int32) (by decide) (by decide)) (hg (1 : Int32) (by decide) (by decide)) (hg (2 : Int32) (by decide) (by decide))
    · exact rmRm23 l Z a0 hw ws a1 u aK aI aP kk ki kp kf σ h0 n0 Z0 E1 FK FI FP FS VK VI VP nKI nKP nIP nAK nAI nAP gA gK gI gP Ru hi.symm
theorem own_rmv_base {σ : own_P} {n : Int32} {S : Int32 → Prop} (G : own_G σ n S) {u : Int32} (hu : own_R u) (hS : S u) (hn : n = 1 ∨ n = 2 ∨ n = 3) (c : ¬ σ.2 u = n - 1) : own_G (own_u σ.1 (σ.2 u) (σ.1 (n - 1)), own_u (own_u σ.2 u (-1)) (σ.1 (n - 1)) (σ.2 u)) (n - 1) (own_del S u) ∧ ¬ σ.1 (n - 1) = u ∧ (n - 1 = 1 ∨ n - 1 = 2 ∨ n - 1 = 3) := by
  have B := G.b u hu hS
  have l0 : ¬ n - 1 < 0 := by rcases hn with rfl | rfl | rfl <;> decide
  have l1 : n - 1 < n := by rcases hn with rfl | rfl | rfl <;> decide
  have A := G.a (n - 1) l0 l1
  have ne : ¬ σ.1 (n - 1) = u := fun h => c (by rw [← h, A.2.2])
  have hn' : n - 1 = 1 ∨ n - 1 = 2 ∨ n - 1 = 3 := by
    rcases hn with rfl | rfl | rfl
    · exfalso
      have h1 := B.1; have h2 := B.2.1
      have c' : ¬ (σ.2 u).toInt = 0 := fun q => c (Int32.toInt_inj.mp q)
      rw [Int32.lt_iff_toInt_lt] at h1 h2
      have z1 : (1 : Int32).toInt = 1 := rfl
      have z2 : (0 : Int32).toInt = 0 := rfl
      omega
    · exact Or.inl rfl
    · exact Or.inr (Or.inl rfl)
  have i1 : σ.2 u < n - 1 := (own_lt_last hn B.2.1).resolve_left c
  refine ⟨?_, ne, hn'⟩
  refine ⟨fun j h1 h2 => ?_, fun x hx hSx => ?_, fun x hx hSx => ?_⟩
  · dsimp only
    by_cases c1 : j = σ.2 u
    · rw [own_ue c1, own_ue rfl]; exact ⟨A.1, ⟨ne, A.2.1⟩, c1.symm⟩
    · have Aj := G.a j h1 (own_lt_pre hn h2)
      have c2 : ¬ σ.1 j = σ.1 (n - 1) := fun h => own_irr j (by have := h2; rw [← A.2.2, ← h, Aj.2.2] at this; exact this)
      have c3 : ¬ σ.1 j = u := fun h => c1 (by rw [← h, Aj.2.2])
      rw [own_un c1, own_un c2, own_un c3]; exact ⟨Aj.1, ⟨c3, Aj.2.1⟩, Aj.2.2⟩
  · have Bx := G.b x hx hSx.2
    dsimp only
    by_cases c1 : x = σ.1 (n - 1)
    · rw [own_ue c1, own_ue rfl]; exact ⟨B.1, i1, c1.symm⟩
    · have c2 : ¬ σ.2 x = σ.2 u := fun h => hSx.1 (by rw [← Bx.2.2, h, B.2.2])
      rw [own_un c1, own_un hSx.1, own_un c2]
      exact ⟨Bx.1, (own_lt_last hn Bx.2.1).resolve_left (fun h => c1 (by rw [← h, Bx.2.2])), Bx.2.2⟩
  · dsimp only
    have c1 : ¬ x = σ.1 (n - 1) := fun h => hSx (by rw [h]; exact ⟨ne, A.2.1⟩)
    rw [own_un c1]
    by_cases c2 : x = u
    · rw [own_ue c2]; decide
    · rw [own_un c2]; exact G.c x hx (fun h => hSx ⟨c2, h⟩)
theorem own_ush (x : Int32) : 0 ≤ (Jvm.Free.XT.ushr x 2).toInt ∧ 0 ≤ (Jvm.Free.XT.ushr x 4).toInt := by
  have key : ∀ (y : BitVec 32) (k : Nat), 1 ≤ k → 0 ≤ (y >>> k).toInt := by
    intro y k hk
    have h1 : (y >>> k).toNat < 2 ^ 31 := by
      rw [BitVec.toNat_ushiftRight, Nat.shiftRight_eq_div_pow]
      have h2 := y.isLt
      have h3 : 2 ^ 1 ≤ 2 ^ k := Nat.pow_le_pow_right (by decide) hk
      have h4 : y.toNat / 2 ^ k ≤ y.toNat / 2 ^ 1 := Nat.div_le_div_left h3 (by decide)
      omega
    rw [BitVec.toInt_eq_toNat_cond]; split <;> omega
  exact ⟨key x.toBitVec 2 (by decide), key x.toBitVec 4 (by decide)⟩
theorem own_rem3 {y : Int32} (h : 0 ≤ y.toInt) : own_R (y % 3) := by
  have h1 : (y % 3).toInt = y.toInt % 3 := by rw [Int32.toInt_mod]; exact Int.tmod_eq_emod_of_nonneg h
  have h2 : (y % 3).toInt = 0 ∨ (y % 3).toInt = 1 ∨ (y % 3).toInt = 2 := by omega
  rcases h2 with h2 | h2 | h2
  · exact Or.inl (own_of_toInt h2)
  · exact Or.inr (Or.inl (own_of_toInt h2))
  · exact Or.inr (Or.inr (own_of_toInt h2))
def own_k (v : Int32 → Int32) : Int32 → UInt64 := fun x => FP.i2d (v x)
def own_z : Int32 → Int32 := fun _ => 0
def own_s0 : own_P := (fun _ => 0, fun _ => -1)
theorem own_k_new : (fun _ => 0 : Int32 → UInt64) = own_k own_z := by
  funext x; show (0 : UInt64) = FP.i2d 0; rw [Jvm.RoadKit.i2d_w]; exact Jvm.RoadKit.l2d_zero.symm
theorem own_z0 {u : Int32} : own_z u = 0 := rfl
theorem own_k_u (v : Int32 → Int32) (u k : Int32) : own_u (own_k v) u (FP.i2d k) = own_k (own_u v u k) := by
  funext x; unfold own_k own_u; dsimp only; split <;> rfl
theorem own_b53 (a : Int32) : Jvm.RoadKit.B53 a.toInt64 := by
  unfold Jvm.RoadKit.B53; rw [Int32.toInt_toInt64]; have h1 := a.minValue_le_toInt; have h2 := a.toInt_le; rw [show Int32.minValue.toInt = -2147483648 from rfl] at h1; rw [show Int32.maxValue.toInt = 2147483647 from rfl] at h2; constructor <;> omega
def own_w (v : Int32 → Int32) (x : Int32) : Int := 3 * (v x).toInt + x.toInt
theorem own_Rt {x : Int32} (h : own_R x) : 0 ≤ x.toInt ∧ x.toInt ≤ 2 := by rcases h with rfl | rfl | rfl <;> decide
theorem own_less_w {v : Int32 → Int32} {x y : Int32} (hx : own_R x) (hy : own_R y) : own_less (own_k v) x y = 0 ↔ own_w v y ≤ own_w v x := by
  have h1 := own_Rt hx
  have h2 := own_Rt hy
  unfold own_less own_k own_w
  rw [Jvm.RoadKit.i2d_w, Jvm.RoadKit.i2d_w, Jvm.RoadKit.dcmp_ws (own_b53 _) (own_b53 _), Int32.toInt_toInt64, Int32.toInt_toInt64]
  by_cases c1 : (v x).toInt < (v y).toInt
  · rw [if_pos c1, if_pos (by decide)]; constructor
    · intro h; exact absurd h (by decide)
    · intro h; omega
  · rw [if_neg c1]
    by_cases c2 : (v x).toInt = (v y).toInt
    · rw [if_pos c2, if_neg (by decide), if_neg (by decide)]
      by_cases c3 : x < y
      · rw [if_pos c3]; rw [Int32.lt_iff_toInt_lt] at c3; constructor
        · intro h; exact absurd h (by decide)
        · intro h; omega
      · rw [if_neg c3]; rw [Int32.lt_iff_toInt_lt] at c3; constructor
        · intro _; omega
        · intro _; rfl
    · rw [if_neg c2, if_neg (by decide), if_pos (by decide)]; constructor
      · intro _; omega
      · intro _; rfl
def own_top (v : Int32 → Int32) (σ : own_P) (n : Int32) : Prop := ∀ j, ¬ j < 0 → j < n → own_w v (σ.1 0) ≤ own_w v (σ.1 j)
theorem own_j3 {j n : Int32} (hn : n = 1 ∨ n = 2 ∨ n = 3) (h1 : ¬ j < 0) (h2 : j < n) : own_R j := by
  rw [Int32.lt_iff_toInt_lt] at h1 h2
  have z : (0 : Int32).toInt = 0 := rfl
  have zn : n.toInt ≤ 3 := by rcases hn with rfl | rfl | rfl <;> decide
  have h6 : j.toInt = 0 ∨ j.toInt = 1 ∨ j.toInt = 2 := by omega
  rcases h6 with h6 | h6 | h6
  · exact Or.inl (own_of_toInt h6)
  · exact Or.inr (Or.inl (own_of_toInt h6))
  · exact Or.inr (Or.inr (own_of_toInt h6))
theorem own_sw0 {σ : own_P} {j : Int32} (h : ¬ (0 : Int32) = j) : (own_mv (own_mv σ (σ.1 j) 0) (σ.1 0) j).1 0 = σ.1 j := by
  dsimp only [own_mv]; rw [own_un h, own_us]
theorem own_sw1 {σ : own_P} {j : Int32} : (own_mv (own_mv σ (σ.1 j) 0) (σ.1 0) j).1 j = σ.1 0 := by
  dsimp only [own_mv]; rw [own_us]
theorem own_sw2 {σ : own_P} {j k : Int32} (h : ¬ k = j) (h0 : ¬ k = 0) : (own_mv (own_mv σ (σ.1 j) 0) (σ.1 0) j).1 k = σ.1 k := by
  dsimp only [own_mv]; rw [own_un h, own_un h0]
theorem own_dn0 {σ : own_P} {n : Int32} {S : Int32 → Prop} (G : own_G σ n S) (v : Int32 → Int32) (hn : n = 1 ∨ n = 2 ∨ n = 3) : own_top v (own_dn (own_k v) σ 0 n) n := by
  have R0 : own_R (σ.1 0) := (G.a 0 (by decide) (by rcases hn with rfl | rfl | rfl <;> decide)).1
  have st : own_mv σ (σ.1 0) 0 = σ := G.stay ⟨by decide, by rcases hn with rfl | rfl | rfl <;> decide⟩
  intro j h1 h2
  have hj := own_j3 hn h1 h2
  rcases hn with rfl | rfl | rfl
  · have e : own_dn (own_k v) σ 0 1 = σ := (if_neg (fun h => h.2.1 rfl)).trans st
    rw [e]
    rcases hj with rfl | rfl | rfl
    · exact Int.le_refl _
    · exact absurd h2 (by decide)
    · exact absurd h2 (by decide)
  · have R1 : own_R (σ.1 1) := (G.a 1 (by decide) (by decide)).1
    have ec : own_ch (own_k v) σ 2 = 1 := if_neg (fun h => absurd h.1 (by decide))
    have L := own_less_w (v := v) R1 R0
    by_cases c : own_less (own_k v) (σ.1 1) (σ.1 0) = 0
    · have e : own_dn (own_k v) σ 0 2 = σ := (if_neg (fun h => h.2.2 (by rw [ec]; exact c))).trans st
      rw [e]
      rcases hj with rfl | rfl | rfl
      · exact Int.le_refl _
      · exact L.mp c
      · exact absurd h2 (by decide)
    · have e : own_dn (own_k v) σ 0 2 = own_mv (own_mv σ (σ.1 1) 0) (σ.1 0) 1 := by
        unfold own_dn; rw [ec]; exact if_pos ⟨rfl, by decide, c⟩
      rw [e]
      have c' : ¬ own_w v (σ.1 0) ≤ own_w v (σ.1 1) := fun h => c (L.mpr h)
      rcases hj with rfl | rfl | rfl
      · exact Int.le_refl _
      · rw [own_sw0 (by decide), own_sw1]; omega
      · exact absurd h2 (by decide)
  · have R1 : own_R (σ.1 1) := (G.a 1 (by decide) (by decide)).1
    have R2 : own_R (σ.1 2) := (G.a 2 (by decide) (by decide)).1
    have L1 := own_less_w (v := v) R1 R0
    have L2 := own_less_w (v := v) R2 R0
    have L21 := own_less_w (v := v) R2 R1
    by_cases c21 : own_less (own_k v) (σ.1 2) (σ.1 1) = 0
    · have ec : own_ch (own_k v) σ 3 = 1 := if_neg (fun h => h.2 c21)
      have k21 := L21.mp c21
      by_cases c : own_less (own_k v) (σ.1 1) (σ.1 0) = 0
      · have e : own_dn (own_k v) σ 0 3 = σ := (if_neg (fun h => h.2.2 (by rw [ec]; exact c))).trans st
        rw [e]; have k1 := L1.mp c
        rcases hj with rfl | rfl | rfl
        · exact Int.le_refl _
        · exact k1
        · omega
      · have e : own_dn (own_k v) σ 0 3 = own_mv (own_mv σ (σ.1 1) 0) (σ.1 0) 1 := by
          unfold own_dn; rw [ec]; exact if_pos ⟨rfl, by decide, c⟩
        rw [e]; have c' : ¬ own_w v (σ.1 0) ≤ own_w v (σ.1 1) := fun h => c (L1.mpr h)
        rcases hj with rfl | rfl | rfl
        · exact Int.le_refl _
        · rw [own_sw0 (by decide), own_sw1]; omega
        · rw [own_sw0 (by decide), own_sw2 (by decide) (by decide)]; omega
    · have ec : own_ch (own_k v) σ 3 = 2 := if_pos ⟨rfl, c21⟩
      have k21 : ¬ own_w v (σ.1 1) ≤ own_w v (σ.1 2) := fun h => c21 (L21.mpr h)
      by_cases c : own_less (own_k v) (σ.1 2) (σ.1 0) = 0
      · have e : own_dn (own_k v) σ 0 3 = σ := (if_neg (fun h => h.2.2 (by rw [ec]; exact c))).trans st
        rw [e]; have k2 := L2.mp c
        rcases hj with rfl | rfl | rfl
        · exact Int.le_refl _
        · omega
        · exact k2
      · have e : own_dn (own_k v) σ 0 3 = own_mv (own_mv σ (σ.1 2) 0) (σ.1 0) 2 := by
          unfold own_dn; rw [ec]; exact if_pos ⟨rfl, by decide, c⟩
        rw [e]; have c' : ¬ own_w v (σ.1 0) ≤ own_w v (σ.1 2) := fun h => c (L2.mpr h)
        rcases hj with rfl | rfl | rfl
        · exact Int.le_refl _
        · rw [own_sw0 (by decide), own_sw2 (by decide) (by decide)]; omega
        · rw [own_sw0 (by decide), own_sw1]; omega
theorem own_sift_top {σ : own_P} {n : Int32} {S : Int32 → Prop} (G : own_G σ n S) (v : Int32 → Int32) {u : Int32} (hu : own_R u) (hS : S u) (hn : n = 1 ∨ n = 2 ∨ n = 3) (h : ¬ σ.2 u = 0 → ∀ j, ¬ j < 0 → j < n → ¬ j = σ.2 u → own_w v (σ.1 0) ≤ own_w v (σ.1 j)) : own_top v (own_sift (own_k v) σ u n) n := by
  have e0 : (0 : Int32) < n := by rcases hn with rfl | rfl | rfl <;> decide
  have B := G.b u hu hS
  have R0 : own_R (σ.1 0) := (G.a 0 (by decide) e0).1
  unfold own_sift
  by_cases c0 : σ.2 u = 0
  · have e : own_up (own_k v) σ (σ.2 u) = σ := by rw [c0]; exact (if_pos (Or.inl rfl)).trans (G.stay ⟨by decide, e0⟩)
    rw [e, c0]; exact own_dn0 G v hn
  · by_cases c : own_less (own_k v) (σ.1 (σ.2 u)) (σ.1 0) = 0
    · have e : own_up (own_k v) σ (σ.2 u) = σ := (if_pos (Or.inr c)).trans (G.stay ⟨B.1, B.2.1⟩)
      have e2 : own_dn (own_k v) σ (σ.2 u) n = σ := (if_neg (fun q => c0 q.1)).trans (G.stay ⟨B.1, B.2.1⟩)
      rw [e, e2]
      intro j h1 h2
      by_cases cj : j = σ.2 u
      · rw [cj]; exact (own_less_w (by rw [B.2.2]; exact hu) R0).mp c
      · exact h c0 j h1 h2 cj
    · have G' := G.up (own_k v) ⟨B.1, B.2.1⟩ e0
      have e : (own_up (own_k v) σ (σ.2 u)).2 u = 0 := by
        have e1 : own_up (own_k v) σ (σ.2 u) = own_mv (own_mv σ (σ.1 0) (σ.2 u)) (σ.1 (σ.2 u)) 0 := if_neg (fun q => q.elim c0 c)
        rw [e1]; dsimp only [own_mv]; exact own_ue B.2.2.symm
      rw [e]; exact own_dn0 G' v hn
theorem own_w_u {v : Int32 → Int32} {u k x : Int32} (h : ¬ x = u) : own_w (own_u v u k) x = own_w v x := by unfold own_w; rw [own_un h]
theorem own_putA_top {σ : own_P} {n : Int32} {S : Int32 → Prop} (G : own_G σ n S) {v : Int32 → Int32} (T : own_top v σ n) {u : Int32} (k : Int32) (hu : own_R u) (hS : ¬ S u) (hn : n = 0 ∨ n = 1 ∨ n = 2) : own_top (own_u v u k) (own_putA (own_k (own_u v u k)) σ u n) (n + 1) := by
  refine own_sift_top (G.base hu hS hn) _ hu (Or.inl rfl) (by rcases hn with rfl | rfl | rfl <;> decide) (fun hne j h1 h2 hj => ?_)
  have e : own_u σ.2 u n u = n := own_us
  have hne' : ¬ n = 0 := fun q => hne (e.trans q)
  have hj' : ¬ j = n := fun q => hj (q.trans e.symm)
  have h2' : j < n := (own_lt_succ hn h2).resolve_left hj'
  have n0 : (0 : Int32) < n := by rcases hn with rfl | rfl | rfl; exact absurd rfl hne'; decide; decide
  have A0 := G.a 0 (by decide) n0
  have Aj := G.a j h1 h2'
  show own_w _ (own_u σ.1 n u 0) ≤ own_w _ (own_u σ.1 n u j)
  have k0 : ¬ σ.1 0 = u := fun q => hS (by rw [← q]; exact A0.2.1)
  have kj : ¬ σ.1 j = u := fun q => hS (by rw [← q]; exact Aj.2.1)
  rw [own_un (fun q => hne' q.symm), own_un hj', own_w_u k0, own_w_u kj]
  exact T j h1 h2'
theorem own_putP_top {σ : own_P} {n : Int32} {S : Int32 → Prop} (G : own_G σ n S) {v : Int32 → Int32} (T : own_top v σ n) {u : Int32} (k : Int32) (hu : own_R u) (hS : S u) (hn : n = 1 ∨ n = 2 ∨ n = 3) : own_top (own_u v u k) (own_sift (own_k (own_u v u k)) σ u n) n := by
  refine own_sift_top G _ hu hS hn (fun hne j h1 h2 hj => ?_)
  have A0 := G.a 0 (by decide) (by rcases hn with rfl | rfl | rfl <;> decide)
  have Aj := G.a j h1 h2
  rw [own_w_u (fun q => hne (by rw [← q, A0.2.2])), own_w_u (fun q => hj (by rw [← q, Aj.2.2]))]
  exact T j h1 h2
theorem own_rmv_top {σ : own_P} {n : Int32} {S : Int32 → Prop} (G : own_G σ n S) {v : Int32 → Int32} (T : own_top v σ n) {u : Int32} (hu : own_R u) (hS : S u) (hn : n = 1 ∨ n = 2 ∨ n = 3) : own_top v (own_rmv (own_k v) σ u (σ.2 u) n) (n - 1) := by
  have B := G.b u hu hS
  by_cases c : σ.2 u = n - 1
  · have e : own_rmv (own_k v) σ u (σ.2 u) n = (σ.1, own_u σ.2 u (-1)) := if_pos c
    rw [e]; intro j h1 h2; exact T j h1 (own_lt_pre hn h2)
  · have l0 : ¬ n - 1 < 0 := by rcases hn with rfl | rfl | rfl <;> decide
    have l1 : n - 1 < n := by rcases hn with rfl | rfl | rfl <;> decide
    have A := G.a (n - 1) l0 l1
    have e : own_rmv (own_k v) σ u (σ.2 u) n = own_sift (own_k v) (own_u σ.1 (σ.2 u) (σ.1 (n - 1)), own_u (own_u σ.2 u (-1)) (σ.1 (n - 1)) (σ.2 u)) (σ.1 (n - 1)) (n - 1) := if_neg c
    rw [e]
    obtain ⟨hG, ne, hn'⟩ := own_rmv_base G hu hS hn c
    refine own_sift_top hG _ A.1 ⟨ne, A.2.1⟩ hn' (fun hne j h1 h2 hj => ?_)
    have e2 : own_u (own_u σ.2 u (-1)) (σ.1 (n - 1)) (σ.2 u) (σ.1 (n - 1)) = σ.2 u := own_us
    have hne' : ¬ (0 : Int32) = σ.2 u := fun q => hne (e2.trans q.symm)
    have hj' : ¬ j = σ.2 u := fun q => hj (q.trans e2.symm)
    show own_w _ (own_u σ.1 (σ.2 u) (σ.1 (n - 1)) 0) ≤ own_w _ (own_u σ.1 (σ.2 u) (σ.1 (n - 1)) j)
    rw [own_un hne', own_un hj']; exact T j h1 (own_lt_pre hn h2)
def own_L (lv : Int32 → Int32) : Int32 → Prop := fun u => lv u = 1
def own_I (kv vv lv : Int32 → Int32) (σ : own_P) (n : Int32) : Prop := own_G σ n (own_L lv) ∧ own_top kv σ n ∧ (∀ u, own_R u → lv u = 0 ∨ lv u = 1) ∧ (∀ u, own_R u → lv u = 1 → kv u = vv u) ∧ n = lv 0 + lv 1 + lv 2
theorem own_L0 {lv : Int32 → Int32} {u : Int32} (h : lv u = 0) : ¬ own_L lv u := fun q => absurd (h.symm.trans q) (show ¬ (0 : Int32) = 1 by decide)
theorem own_I_new (vv : Int32 → Int32) : own_I own_z vv own_z own_s0 0 := by
  refine ⟨⟨fun j h1 h2 => absurd h2 h1, fun u _ h => absurd h (show ¬ (0 : Int32) = 1 by decide), fun u _ _ => (by decide : (-1 : Int32) < 0)⟩, fun j h1 h2 => absurd h2 h1, fun _ _ => Or.inl rfl, fun _ _ h => absurd h (show ¬ (0 : Int32) = 1 by decide), rfl⟩
theorem own_I.r0 {kv vv lv : Int32 → Int32} {σ : own_P} {n u : Int32} (H : own_I kv vv lv σ n) (hu : own_R u) (h : lv u = 0) : n = 0 ∨ n = 1 ∨ n = 2 := by
  obtain ⟨-, -, hl, -, hn⟩ := H
  have a := hl 0 own_R0; have b := hl 1 own_R1; have c := hl 2 own_R2
  rcases hu with rfl | rfl | rfl <;> rcases a with a | a <;> rcases b with b | b <;> rcases c with c | c <;> rw [a, b, c] at hn <;> subst hn <;> first | decide | (exfalso; revert h; rw [a]; decide) | (exfalso; revert h; rw [b]; decide) | (exfalso; revert h; rw [c]; decide)
theorem own_I.r1 {kv vv lv : Int32 → Int32} {σ : own_P} {n u : Int32} (H : own_I kv vv lv σ n) (hu : own_R u) (h : lv u = 1) : n = 1 ∨ n = 2 ∨ n = 3 := by
  obtain ⟨-, -, hl, -, hn⟩ := H
  have a := hl 0 own_R0; have b := hl 1 own_R1; have c := hl 2 own_R2
  rcases hu with rfl | rfl | rfl <;> rcases a with a | a <;> rcases b with b | b <;> rcases c with c | c <;> rw [a, b, c] at hn <;> subst hn <;> first | decide | (exfalso; revert h; rw [a]; decide) | (exfalso; revert h; rw [b]; decide) | (exfalso; revert h; rw [c]; decide)
theorem own_sum {lv : Int32 → Int32} {u x : Int32} (hu : own_R u) : own_u lv u x 0 + own_u lv u x 1 + own_u lv u x 2 = lv 0 + lv 1 + lv 2 - lv u + x := by
  rcases hu with rfl | rfl | rfl
  · rw [own_us, own_un (by decide), own_un (by decide)]
    generalize lv 0 = a; generalize lv 1 = b; generalize lv 2 = c
    have : a + b + c - a = b + c := by rw [Int32.add_assoc, Int32.add_comm a, Int32.add_sub_cancel]
    rw [this, Int32.add_assoc, Int32.add_comm x]
  · rw [own_us, own_un (by decide), own_un (by decide)]
    generalize lv 0 = a; generalize lv 1 = b; generalize lv 2 = c
    have : a + b + c - b = a + c := by rw [Int32.add_assoc, Int32.add_comm b c, ← Int32.add_assoc, Int32.add_sub_cancel]
    rw [this, Int32.add_assoc, Int32.add_comm x c, ← Int32.add_assoc]
  · rw [own_us, own_un (by decide), own_un (by decide)]
    generalize lv 0 = a; generalize lv 1 = b; generalize lv 2 = c
    rw [Int32.add_sub_cancel]
theorem own_I.putA {kv vv vv' lv : Int32 → Int32} {σ : own_P} {n u k : Int32} (H : own_I kv vv lv σ n) (hu : own_R u) (h : lv u = 0) (hv : vv' u = k) (hv' : ∀ x, own_R x → ¬ x = u → vv' x = vv x) : own_I (own_u kv u k) vv' (own_u lv u 1) (own_putA (own_k (own_u kv u k)) σ u n) (n + 1) := by
  have hn := H.r0 hu h
  obtain ⟨G, T, hl, hk, hs⟩ := H
  have hS : ¬ own_L lv u := fun q => absurd (h.symm.trans q) (by decide)
  refine ⟨(G.putA _ hu hS hn).congr rfl (fun x hx => ?_), own_putA_top G T k hu hS hn, fun x hx => ?_, fun x hx hx1 => ?_, ?_⟩
  · unfold own_add own_L
    by_cases c : x = u
    · rw [own_ue c]; exact ⟨fun _ => rfl, fun _ => Or.inl c⟩
    · rw [own_un c]; exact ⟨fun q => q.resolve_left c, Or.inr⟩
  · by_cases c : x = u
    · rw [own_ue c]; exact Or.inr rfl
    · rw [own_un c]; exact hl x hx
  · by_cases c : x = u
    · rw [own_ue c, c, hv]
    · rw [own_un c] at hx1; rw [own_un c, hk x hx hx1, hv' x hx c]
  · rw [own_sum hu, h, hs]; simp
theorem own_I.putP {kv vv vv' lv : Int32 → Int32} {σ : own_P} {n u k : Int32} (H : own_I kv vv lv σ n) (hu : own_R u) (h : lv u = 1) (hv : vv' u = k) (hv' : ∀ x, own_R x → ¬ x = u → vv' x = vv x) : own_I (own_u kv u k) vv' (own_u lv u 1) (own_sift (own_k (own_u kv u k)) σ u n) n := by
  have hn := H.r1 hu h
  obtain ⟨G, T, hl, hk, hs⟩ := H
  have e : own_u lv u 1 = lv := by funext x; by_cases c : x = u
                                   · rw [own_ue c, c, h]
                                   · rw [own_un c]
  rw [e]
  refine ⟨G.sift _ hu h hn, own_putP_top G T k hu h hn, hl, fun x hx hx1 => ?_, hs⟩
  by_cases c : x = u
  · rw [own_ue c, c, hv]
  · rw [own_un c, hk x hx hx1, hv' x hx c]
theorem own_I.rmv {kv vv lv : Int32 → Int32} {σ : own_P} {n u : Int32} (H : own_I kv vv lv σ n) (hu : own_R u) (h : lv u = 1) : own_I kv vv (own_u lv u 0) (own_rmv (own_k kv) σ u (σ.2 u) n) (n - 1) := by
  have hn := H.r1 hu h
  obtain ⟨G, T, hl, hk, hs⟩ := H
  refine ⟨(G.rmv _ hu h hn).congr rfl (fun x hx => ?_), own_rmv_top G T hu h hn, fun x hx => ?_, fun x hx hx1 => ?_, ?_⟩
  · unfold own_del own_L
    by_cases c : x = u
    · rw [own_ue c]; exact ⟨fun q => absurd c q.1, fun q => absurd q (by decide)⟩
    · rw [own_un c]; exact ⟨fun q => q.2, fun q => ⟨c, q⟩⟩
  · by_cases c : x = u
    · rw [own_ue c]; exact Or.inl rfl
    · rw [own_un c]; exact hl x hx
  · by_cases c : x = u
    · rw [own_ue c] at hx1; exact absurd hx1 (by decide)
    · rw [own_un c] at hx1; exact hk x hx hx1
  · rw [own_sum hu, h, hs]; simp
def own_min (a b : Int64) : Int64 := if b < a then b else a
theorem own_min_i (a b : Int64) : ((own_min a b).toInt = a.toInt ∧ a.toInt ≤ b.toInt) ∨ ((own_min a b).toInt = b.toInt ∧ b.toInt ≤ a.toInt) := by
  unfold own_min; split
  · rename_i h; rw [Int64.lt_iff_toInt_lt] at h; right; constructor; rfl; omega
  · rename_i h; rw [Int64.lt_iff_toInt_lt] at h; left; constructor; rfl; omega
def own_m (m : Int64) (b k : Int32) : Int64 := if b = 0 then m else own_min m k.toInt64
theorem own_I.min {kv vv lv : Int32 → Int32} {σ : own_P} {n : Int32} (H : own_I kv vv lv σ n) (hn : ¬ n = 0) : own_m (own_m (own_m 9223372036854775807 (lv 0) (vv 0)) (lv 1) (vv 1)) (lv 2) (vv 2) = (kv (σ.1 0)).toInt64 := by
  obtain ⟨G, T, hl, hk, hs⟩ := H
  have a := hl 0 own_R0; have b := hl 1 own_R1; have c := hl 2 own_R2
  have n0 : (0 : Int32) < n := by
    rcases a with a | a <;> rcases b with b | b <;> rcases c with c | c <;> rw [a, b, c] at hs <;> subst hs <;> first | decide | exact absurd rfl hn
  have A := G.a 0 (by decide) n0
  have key : ∀ u, own_R u → lv u = 1 → (kv (σ.1 0)).toInt ≤ (vv u).toInt := by
    intro u hu h
    have B := G.b u hu h
    have t := T (σ.2 u) B.1 B.2.1
    rw [B.2.2] at t; unfold own_w at t
    have h1 := own_Rt A.1; have h2 := own_Rt hu
    rw [← hk u hu h]; omega
  have ek := hk _ A.1 A.2.1
  have R := A.1
  have Lr : lv (σ.1 0) = 1 := A.2.1
  have u0 := (vv 0).toInt_le; have u1 := (vv 1).toInt_le; have u2 := (vv 2).toInt_le; have u3 := (kv (σ.1 0)).toInt_le
  apply Int64.toInt_inj.mp
  rw [Int32.toInt_toInt64]
  have M : (9223372036854775807 : Int64).toInt = 9223372036854775807 := rfl
  have zM : Int32.maxValue.toInt = 2147483647 := rfl
  rw [zM] at u0 u1 u2 u3
  have i0 := own_min_i 9223372036854775807 (vv 0).toInt64
  generalize hm1 : own_m 9223372036854775807 (lv 0) (vv 0) = m1
  have i1 := own_min_i m1 (vv 1).toInt64
  generalize hm2 : own_m m1 (lv 1) (vv 1) = m2
  have i2 := own_min_i m2 (vv 2).toInt64
  generalize hm3 : own_m m2 (lv 2) (vv 2) = m3
  unfold own_m at hm1 hm2 hm3
  rw [Int32.toInt_toInt64] at i0 i1 i2
  rw [ek] at key ⊢
  have z01 : ¬ (1 : Int32) = 0 := by decide
  rcases a with a | a <;> rcases b with b | b <;> rcases c with c | c <;> rw [a] at hm1 <;> rw [b] at hm2 <;> rw [c] at hm3 <;> simp only [z01, if_true, if_false, ↓reduceIte] at hm1 hm2 hm3 <;> subst hm1 hm2 hm3 <;> rcases R with R | R | R <;> rw [R] at Lr key ⊢ <;>
    first
      | (exfalso; rw [a] at Lr; exact absurd Lr (by decide))
      | (exfalso; rw [b] at Lr; exact absurd Lr (by decide))
      | (exfalso; rw [c] at Lr; exact absurd Lr (by decide))
      | (first | (have k0 := key 0 own_R0 a) | skip
         first | (have k1 := key 1 own_R1 b) | skip
         first | (have k2 := key 2 own_R2 c) | skip
         omega)
def QPutP (Z : State) (a1 : Addr) (u : Int32) (key : UInt64) (aK aI aP : Addr) (kk ki kp : ClassId) (kf : Int32 → UInt64) (σ : own_P) (n : Int32) (S : Int32 → Prop) (h0 : Heap) (n0 : Nat) (v : Option Value) (h : Heap) (L : List Loc) : Prop := v = none ∧ Fr n0 L ∧ Keep h0 h [a1, aK, aI, aP] ∧ Exa Z h a1 "com/example/covermesh/covermesh/algorithms/IndexedMinHeap" ∧ Fld Z h a1 "com/example/covermesh/covermesh/algorithms/IndexedMinHeap" "keys" "[D" (.ref aK) ∧ Fld Z h a1 "com/example/covermesh/covermesh/algorithms/IndexedMinHeap" "items" "[I" (.ref aI) ∧ Fld Z h a1 "com/example/covermesh/covermesh/algorithms/IndexedMinHeap" "positions" "[I" (.ref aP) ∧ Fld Z h a1 "com/example/covermesh/covermesh/algorithms/IndexedMinHeap" "size" "I" (.int n) ∧ Arv Z h aK kk .double 3 (own_d (own_u kf u key)) (.double (0 : UInt64)) ∧ Arv Z h aI ki .int 3 (own_l (own_sift (own_u kf u key) σ u n).1) (.int (0 : Int32)) ∧ Arv Z h aP kp .int 3 (own_l (own_sift (own_u kf u key) σ u n).2) (.int (0 : Int32))
theorem rmPutP (l : Launch) (Z : State) (a0 : Array Value) (hw : ∀ d ∈ tables_1, d.before a0 Z = true) (ws : List Jvm.Cond) (a1 : Addr) (u : Int32) (key : UInt64) (aK aI aP : Addr) (kk ki kp : ClassId) (kf : Int32 → UInt64) (σ : own_P) (n : Int32) (S : Int32 → Prop) (h0 : Heap) (n0 : Nat) (Z0 : n0 ≤ h0.size) (E1 : Exa Z h0 a1 "com/example/covermesh/covermesh/algorithms/IndexedMinHeap") (FK : Fld Z h0 a1 "com/example/covermesh/covermesh/algorithms/IndexedMinHeap" "keys" "[D" (.ref aK)) (FI : Fld Z h0 a1 "com/example/covermesh/covermesh/algorithms/IndexedMinHeap" "items" "[I" (.ref aI)) (FP : Fld Z h0 a1 "com/example/covermesh/covermesh/algorithms/IndexedMinHeap" "positions" "[I" (.ref aP)) (FS : Fld Z h0 a1 "com/example/covermesh/covermesh/algorithms/IndexedMinHeap" "size" "I" (.int n)) (VK : Arv Z h0 aK kk .double 3 (own_d kf) (.double (0 : UInt64))) (VI : Arv Z h0 aI ki .int 3 (own_l σ.1) (.int (0 : Int32))) (VP : Arv Z h0 aP kp .int 3 (own_l σ.2) (.int (0 : Int32))) (nKI : aK ≠ aI) (nKP : aK ≠ aP) (nIP : aI ≠ aP) (nAK : a1 ≠ aK) (nAI : a1 ≠ aI) (nAP : a1 ≠ aP) (gA : n0 ≤ a1) (gK : n0 ≤ aK) (gI : n0 ≤ aI) (gP : n0 ≤ aP) (Ru : own_R u) (G : own_G σ n S) (hS : S u) (hn : n = 1 ∨ n = 2 ∨ n = 3) :
    MetFree l mN_2 (head1 (Jvm.Cond.code mN_2 prog_17_method_4_code 4 none :: ws) rO_3) (fun a U => a = #[(.ref a1), (.int u), (.double key)] ∧ Z.Warmed39 U.vm ∧ U.heap = h0) (fun _ _ _ _ _ => True) (fun _ U o U' => ∃ v L, o = .returned v ∧ QPutP Z a1 u key aK aI aP kk ki kp kf σ n S h0 n0 v U'.heap L ∧ FrameEnd U o U' L rO_3.cells rO_3.slots) := by
  have hg : ∀ j, ¬ j < 0 → j < n → own_R (σ.1 j) := fun j h1 h2 => (G.a j h1 h2).1
  obtain ⟨b1, b2, b3⟩ := G.b u Ru hS
  obtain ⟨i, hi⟩ : ∃ i, i = σ.2 u := ⟨_, rfl⟩
  rw [← hi] at b1 b2 b3
  rcases hn with rfl | rfl | rfl
  · have hk : i = 0 := by
      rw [Int32.lt_iff_toInt_lt] at b1 b2
      have z1 : ((1 : Int32)).toInt = 1 := rfl
      have z2 : (0 : Int32).toInt = 0 := rfl
      exact own_of_toInt (show i.toInt = 0 by omega)
    rcases hk with rfl
    · exact rmPP01 l Z a0 hw ws a1 u key aK aI aP kk ki kp kf σ h0 n0 Z0 E1 FK FI FP FS VK VI VP nKI nKP nIP nAK nAI nAP gA gK gI gP Ru hi.symm b3 (hg (0 : Int32) (by decide) (by decide))
  · have hk : i = 0 ∨ i = 1 := by
      rw [Int32.lt_iff_toInt_lt] at b1 b2
      have z1 : ((2 : Int32)).toInt = 2 := rfl
      have z2 : (0 : Int32).toInt = 0 := rfl
      have h6 : i.toInt = 0 ∨ i.toInt = 1 := by omega
      rcases h6 with h6 | h6
      · exact Or.inl (own_of_toInt h6)
      · exact Or.inr ((own_of_toInt h6))
    rcases hk with rfl | rfl
    · exact rmPP02 l Z a0 hw ws a1 u key aK aI aP kk ki kp kf σ h0 n0 Z0 E1 FK FI FP FS VK VI VP nKI nKP nIP nAK nAI nAP gA gK gI gP Ru hi.symm b3 (hg (0 : Int32) (by decide) (by decide)) (hg (1 : Int32) (by decide) (by decide))
    · exact rmPP12 l Z a0 hw ws a1 u key aK aI aP kk ki kp kf σ h0 n0 Z0 E1 FK FI FP FS VK VI VP nKI nKP nIP nAK nAI nAP gA gK gI gP Ru hi.symm b3 (hg (0 : Int32) (by decide) (by decide)) (hg (1 : Int32) (by decide) (by decide))
  · have hk : i = 0 ∨ i = 1 ∨ i = 2 := by
      rw [Int32.lt_iff_toInt_lt] at b1 b2
      have z1 : ((3 : Int32)).toInt = 3 := rfl
      have z2 : (0 : Int32).toInt = 0 := rfl
      have h6 : i.toInt = 0 ∨ i.toInt = 1 ∨ i.toInt = 2 := by omega
      rcases h6 with h6 | h6 | h6
      · exact Or.inl (own_of_toInt h6)
      · exact Or.inr (Or.inl (own_of_toInt h6))
      · exact Or.inr (Or.inr ((own_of_toInt h6)))
    rcases hk with rfl | rfl | rfl
    · exact rmPP03 l Z a0 hw ws a1 u key aK aI aP kk ki kp kf σ h0 n0 Z0 E1 FK FI FP FS VK VI VP nKI nKP nIP nAK nAI nAP gA gK gI gP Ru hi.symm b3 (hg (0 : Int32) (by decide) (by decide)) (hg (1 : Int32) (by decide) (by decide)) (hg (2 : Int32) (by decide) (by decide))
    · exact rmPP13 l Z a0 hw ws a1 u key aK aI aP kk ki kp kf σ h0 n0 Z0 E1 FK FI FP FS VK VI VP nKI nKP nIP nAK nAI nAP gA gK gI gP Ru hi.symm b3 (hg (0 : Int32) (by decide) (by decide)) (hg (1 : Int32) (by decide) (by decide)) (hg (2 : Int32) (by decide) (by decide))
    · exact rmPP23 l Z a0 hw ws a1 u key aK aI aP kk ki kp kf σ h0 n0 Z0 E1 FK FI FP FS VK VI VP nKI nKP nIP nAK nAI nAP gA gK gI gP Ru hi.symm b3 (hg (0 : Int32) (by decide) (by decide)) (hg (1 : Int32) (by decide) (by decide)) (hg (2 : Int32) (by decide) (by decide))
theorem d3_0 : decode jdk_65_method_103_code 0 = .ok (.iconst 0, 1) := by decide +kernel
theorem d3_1 : decode jdk_65_method_103_code 1 = .ok (.istore_n 2, 1) := by decide +kernel
theorem d3_2 : decode jdk_65_method_103_code 2 = .ok (.aload_n 0, 1) := by decide +kernel
theorem d3_3 : decode jdk_65_method_103_code 3 = .ok (.arraylength, 1) := by decide +kernel
theorem d3_4 : decode jdk_65_method_103_code 4 = .ok (.istore_n 3, 1) := by decide +kernel
theorem d3_5 : decode jdk_65_method_103_code 5 = .ok (.iload_n 2, 1) := by decide +kernel
theorem d3_6 : decode jdk_65_method_103_code 6 = .ok (.iload_n 3, 1) := by decide +kernel
theorem d3_7 : decode jdk_65_method_103_code 7 = .ok (.if_icmp .ge 13, 3) := by decide +kernel
theorem d3_10 : decode jdk_65_method_103_code 10 = .ok (.aload_n 0, 1) := by decide +kernel
theorem d3_11 : decode jdk_65_method_103_code 11 = .ok (.iload_n 2, 1) := by decide +kernel
theorem d3_12 : decode jdk_65_method_103_code 12 = .ok (.iload_n 1, 1) := by decide +kernel
theorem d3_13 : decode jdk_65_method_103_code 13 = .ok (.iastore, 1) := by decide +kernel
theorem d3_14 : decode jdk_65_method_103_code 14 = .ok (.iinc 2 1, 3) := by decide +kernel
theorem d3_17 : decode jdk_65_method_103_code 17 = .ok (.goto (-12), 3) := by decide +kernel
theorem d3_20 : decode jdk_65_method_103_code 20 = .ok (.return_, 1) := by decide +kernel
theorem pn_1 : plainName "java/util/Arrays" = true := by first | (simp [plainName, overriddenIn]; done) | decide +kernel
theorem ef_rmF (m : MethodId) (a1 : Addr) (x : Int32) : entryFrame m #[(.ref a1), (.int x)] 4 = mkF m 0 #[.val (.ref a1), .val (.int x), .unset, .unset] [] := by first | (simp [entryFrame, mkF, argsToLocals, Value.category]; done) | rfl
def QF (Z : State) (a1 : Addr) (x : Int32) (kp : ClassId) (f : Int32 → Int32) (h0 : Heap) (n0 : Nat) (v : Option Value) (h : Heap) (L : List Loc) : Prop := v = none ∧ Fr n0 L ∧ Keep h0 h [a1] ∧ Arv Z h a1 kp .int 3 (own_l (fun _ => x)) (.int (0 : Int32))
set_option maxRecDepth 65536 in
set_option maxHeartbeats 40000000 in
theorem rmF (l : Launch) (Z : State) (a0 : Array Value) (hw : ∀ d ∈ tables_1, d.before a0 Z = true) (ws : List Jvm.Cond) (a1 : Addr) (x : Int32) (kp : ClassId) (f : Int32 → Int32) (h0 : Heap) (n0 : Nat) (Z0 : n0 ≤ h0.size) (VP : Arv Z h0 a1 kp .int 3 (own_l f) (.int (0 : Int32))) (g1 : n0 ≤ a1) :
    MetFree l (⟨"java/util/Arrays", "fill", "([II)V"⟩ : MethodName) (head1 (Jvm.Cond.code (⟨"java/util/Arrays", "fill", "([II)V"⟩ : MethodName) jdk_65_method_103_code 4 none :: ws) rO_0) (fun a U => a = #[(.ref a1), (.int x)] ∧ Z.Warmed39 U.vm ∧ U.heap = h0) (fun _ _ _ _ _ => True) (fun _ U o U' => ∃ v L, o = .returned v ∧ QF Z a1 x kp f h0 n0 v U'.heap L ∧ FrameEnd U o U' L rO_0.cells rO_0.slots) := by
  refine MetFree.of_bodySF (plainFor_of_name pn_1) hisR ?_
  intro p e s m args below meth c s₁ Bd hml0 hP hK
  obtain ⟨rfl, hZ, hh⟩ := hP
  have hx := Bd.exec
  have hby := Bd.bytes
  have hml : c.maxLocals = 4 := hml0
  have hown : s.vm.findClass "java/util/Arrays" = some m.cls := findClass_of_methodNamed Bd.named
  have hnm := (name_of_methodNamed Bd.named Bd.method).1
  have X0 : Stand p l e rO_0 s m #[(.ref a1), (.int x)] below meth c s₁ [] 0 0 := Stand.of_body Bd
  have e0 : s₁.heap = h0 := by rw [← hh, Bd.state]; rfl
  have N0 := Fr.nil n0
  have K0 := Keep.refl h0 [a1]
  have go0 : Goes p e below s₁ (entryFrame m #[(.ref a1), (.int x)] 4) s₁ (mkF m 0 #[.val (.ref a1), .val (.int x), .unset, .unset] []) := fun t k => castTop (ef_rmF m a1 x) k
  have go1 : Goes p e below s₁ (entryFrame m #[(.ref a1), (.int x)] 4) s₁ (mkF m 3 #[.val (.ref a1), .val (.int x), .val (.int (0 : Int32)), .unset] [(.ref a1)]) := fun t k => by
    refine go0 t ?_
    refine XS.iconst X0.here hx rfl (hb hby d3_0) ?_
    refine XS.istoreN X0.here hx rfl (hb hby d3_1) rfl (l' := #[.val (.ref a1), .val (.int x), .val (.int (0 : Int32)), .unset]) rfl ?_
    refine XS.aloadN X0.here hx rfl (hb hby d3_2) rfl rfl ?_
    exact k
  obtain ⟨cl2, Ar2, kq2, Sz2, Nn2, Hs2, Gf2⟩ := id (VP)
  have go3 : Goes p e below s₁ (entryFrame m #[(.ref a1), (.int x)] 4) s₁ (mkF m 7 #[.val (.ref a1), .val (.int x), .val (.int (0 : Int32)), .val (.int (3 : Int32))] [(.int (3 : Int32)), (.int (0 : Int32))]) := fun t k => by
    refine go1 t ?_
    refine X0.arraylength hx (own_hp e0 Ar2.1) (State.isArrayOf_alike hZ.alike Ar2.2.1) (g := (mkF m 3 #[.val (.ref a1), .val (.int x), .val (.int (0 : Int32)), .unset] [(.ref a1)])) rfl rfl (hb hby d3_3) _ ?_
    rw [len_of Sz2 Nn2]
    refine XS.istoreN X0.here hx rfl (hb hby d3_4) rfl (l' := #[.val (.ref a1), .val (.int x), .val (.int (0 : Int32)), .val (.int (3 : Int32))]) rfl ?_
    refine XS.iloadN X0.here hx rfl (hb hby d3_5) rfl ?_
    refine XS.iloadN X0.here hx rfl (hb hby d3_6) rfl ?_
    exact k
  have go4 : Goes p e below s₁ (entryFrame m #[(.ref a1), (.int x)] 4) s₁ (mkF m 13 #[.val (.ref a1), .val (.int x), .val (.int (0 : Int32)), .val (.int (3 : Int32))] [(.int x), (.int (0 : Int32)), (.ref a1)]) := fun t k => by
    refine go3 t ?_
    refine XS.icmpNo X0.here hx rfl (hb hby d3_7) rfl (Jvm.Free.XT.ii_ge_f (by decide)) ?_
    refine XS.aloadN X0.here hx rfl (hb hby d3_10) rfl rfl ?_
    refine XS.iloadN X0.here hx rfl (hb hby d3_11) rfl ?_
    refine XS.iloadN X0.here hx rfl (hb hby d3_12) rfl ?_
    exact k
  obtain ⟨cl5, Ar5, kq5, Sz5, Nn5, Hs5, Gf5⟩ := id (VP)
  have hin5 : ¬ ((0 : Int32) < 0 ∨ cl5.slots.size ≤ ((0 : Int32)).toNatClampNeg) := inb_of Sz5 (own_inb own_R0)
  obtain ⟨T6, h6, X6, e6, W6, st6⟩ := stI X0 hx hZ e0 Ar5 (j := (0 : Int32)) hin5 (g := (mkF m 13 #[.val (.ref a1), .val (.int x), .val (.int (0 : Int32)), .val (.int (3 : Int32))] [(.int x), (.int (0 : Int32)), (.ref a1)])) rfl rfl (hb hby d3_13)
  have V7 : Arv Z h6 a1 kp .int (3 : Int32) (own_l (own_u f (0 : Int32) x)) (.int (0 : Int32)) := by rw [← own_l_set own_R0]; exact Arv.set Ar5 kq5 Sz5 Nn5 Hs5 Gf5 rfl W6 _ rfl (own_l_len own_R0)
  have Z8 := Nat.le_trans Z0 (Nat.le_of_eq W6.size.symm)
  have K9 := K0.wr W6 (Or.inl (List.mem_of_getElem? (i := 0) rfl))
  have N10 := Fr.snoc X6 N0 g1
  have go11 : Goes p e below s₁ (entryFrame m #[(.ref a1), (.int x)] 4) T6 (mkF m 14 #[.val (.ref a1), .val (.int x), .val (.int (0 : Int32)), .val (.int (3 : Int32))] []) := fun t k => go4 t (st6 t k)
  have go12 : Goes p e below s₁ (entryFrame m #[(.ref a1), (.int x)] 4) T6 (mkF m 7 #[.val (.ref a1), .val (.int x), .val (.int (1 : Int32)), .val (.int (3 : Int32))] [(.int (3 : Int32)), (.int (1 : Int32))]) := fun t k => by
    refine go11 t ?_
    refine XS.iinc X6.here hx rfl (hb hby d3_14) rfl (l' := #[.val (.ref a1), .val (.int x), .val (.int (1 : Int32)), .val (.int (3 : Int32))]) rfl ?_
    refine XS.goto X6.here hx rfl (pc0 := 17) (pc' := 5) rfl (hb hby d3_17) (by decide) (by decide) ?_
    refine XS.iloadN X6.here hx rfl (hb hby d3_5) rfl ?_
    refine XS.iloadN X6.here hx rfl (hb hby d3_6) rfl ?_
    exact k
  have go13 : Goes p e below s₁ (entryFrame m #[(.ref a1), (.int x)] 4) T6 (mkF m 13 #[.val (.ref a1), .val (.int x), .val (.int (1 : Int32)), .val (.int (3 : Int32))] [(.int x), (.int (1 : Int32)), (.ref a1)]) := fun t k => by
    refine go12 t ?_
    refine XS.icmpNo X6.here hx rfl (hb hby d3_7) rfl (Jvm.Free.XT.ii_ge_f (by decide)) ?_
    refine XS.aloadN X6.here hx rfl (hb hby d3_10) rfl rfl ?_
    refine XS.iloadN X6.here hx rfl (hb hby d3_11) rfl ?_
    refine XS.iloadN X6.here hx rfl (hb hby d3_12) rfl ?_
    exact k
  obtain ⟨cl14, Ar14, kq14, Sz14, Nn14, Hs14, Gf14⟩ := id (V7)
  have hin14 : ¬ ((1 : Int32) < 0 ∨ cl14.slots.size ≤ ((1 : Int32)).toNatClampNeg) := inb_of Sz14 (own_inb own_R1)
  obtain ⟨T15, h15, X15, e15, W15, st15⟩ := stI X6 hx hZ e6 Ar14 (j := (1 : Int32)) hin14 (g := (mkF m 13 #[.val (.ref a1), .val (.int x), .val (.int (1 : Int32)), .val (.int (3 : Int32))] [(.int x), (.int (1 : Int32)), (.ref a1)])) rfl rfl (hb hby d3_13)
  have V16 : Arv Z h15 a1 kp .int (3 : Int32) (own_l (own_u (own_u f (0 : Int32) x) (1 : Int32) x)) (.int (0 : Int32)) := by rw [← own_l_set own_R1]; exact Arv.set Ar14 kq14 Sz14 Nn14 Hs14 Gf14 rfl W15 _ rfl (own_l_len own_R1)
  have Z17 := Nat.le_trans Z8 (Nat.le_of_eq W15.size.symm)
  have K18 := K9.wr W15 (Or.inl (List.mem_of_getElem? (i := 0) rfl))
  have N19 := Fr.snoc X15 N10 g1
  have go20 : Goes p e below s₁ (entryFrame m #[(.ref a1), (.int x)] 4) T15 (mkF m 14 #[.val (.ref a1), .val (.int x), .val (.int (1 : Int32)), .val (.int (3 : Int32))] []) := fun t k => go13 t (st15 t k)
  have go21 : Goes p e below s₁ (entryFrame m #[(.ref a1), (.int x)] 4) T15 (mkF m 7 #[.val (.ref a1), .val (.int x), .val (.int (2 : Int32)), .val (.int (3 : Int32))] [(.int (3 : Int32)), (.int (2 : Int32))]) := fun t k => by
    refine go20 t ?_
    refine XS.iinc X15.here hx rfl (hb hby d3_14) rfl (l' := #[.val (.ref a1), .val (.int x), .val (.int (2 : Int32)), .val (.int (3 : Int32))]) rfl ?_
    refine XS.goto X15.here hx rfl (pc0 := 17) (pc' := 5) rfl (hb hby d3_17) (by decide) (by decide) ?_
    refine XS.iloadN X15.here hx rfl (hb hby d3_5) rfl ?_
    refine XS.iloadN X15.here hx rfl (hb hby d3_6) rfl ?_
    exact k
  have go22 : Goes p e below s₁ (entryFrame m #[(.ref a1), (.int x)] 4) T15 (mkF m 13 #[.val (.ref a1), .val (.int x), .val (.int (2 : Int32)), .val (.int (3 : Int32))] [(.int x), (.int (2 : Int32)), (.ref a1)]) := fun t k => by
    refine go21 t ?_
    refine XS.icmpNo X15.here hx rfl (hb hby d3_7) rfl (Jvm.Free.XT.ii_ge_f (by decide)) ?_
    refine XS.aloadN X15.here hx rfl (hb hby d3_10) rfl rfl ?_
    refine XS.iloadN X15.here hx rfl (hb hby d3_11) rfl ?_
    refine XS.iloadN X15.here hx rfl (hb hby d3_12) rfl ?_
    exact k
  obtain ⟨cl23, Ar23, kq23, Sz23, Nn23, Hs23, Gf23⟩ := id (V16)
  have hin23 : ¬ ((2 : Int32) < 0 ∨ cl23.slots.size ≤ ((2 : Int32)).toNatClampNeg) := inb_of Sz23 (own_inb own_R2)
  obtain ⟨T24, h24, X24, e24, W24, st24⟩ := stI X15 hx hZ e15 Ar23 (j := (2 : Int32)) hin23 (g := (mkF m 13 #[.val (.ref a1), .val (.int x), .val (.int (2 : Int32)), .val (.int (3 : Int32))] [(.int x), (.int (2 : Int32)), (.ref a1)])) rfl rfl (hb hby d3_13)
  have V25 : Arv Z h24 a1 kp .int (3 : Int32) (own_l (own_u (own_u (own_u f (0 : Int32) x) (1 : Int32) x) (2 : Int32) x)) (.int (0 : Int32)) := by rw [← own_l_set own_R2]; exact Arv.set Ar23 kq23 Sz23 Nn23 Hs23 Gf23 rfl W24 _ rfl (own_l_len own_R2)
  have Z26 := Nat.le_trans Z17 (Nat.le_of_eq W24.size.symm)
  have K27 := K18.wr W24 (Or.inl (List.mem_of_getElem? (i := 0) rfl))
  have N28 := Fr.snoc X24 N19 g1
  have go29 : Goes p e below s₁ (entryFrame m #[(.ref a1), (.int x)] 4) T24 (mkF m 14 #[.val (.ref a1), .val (.int x), .val (.int (2 : Int32)), .val (.int (3 : Int32))] []) := fun t k => go22 t (st24 t k)
  have go30 : Goes p e below s₁ (entryFrame m #[(.ref a1), (.int x)] 4) T24 (mkF m 7 #[.val (.ref a1), .val (.int x), .val (.int (3 : Int32)), .val (.int (3 : Int32))] [(.int (3 : Int32)), (.int (3 : Int32))]) := fun t k => by
    refine go29 t ?_
    refine XS.iinc X24.here hx rfl (hb hby d3_14) rfl (l' := #[.val (.ref a1), .val (.int x), .val (.int (3 : Int32)), .val (.int (3 : Int32))]) rfl ?_
    refine XS.goto X24.here hx rfl (pc0 := 17) (pc' := 5) rfl (hb hby d3_17) (by decide) (by decide) ?_
    refine XS.iloadN X24.here hx rfl (hb hby d3_5) rfl ?_
    refine XS.iloadN X24.here hx rfl (hb hby d3_6) rfl ?_
    exact k
  have go31 : Goes p e below s₁ (entryFrame m #[(.ref a1), (.int x)] 4) T24 (mkF m 20 #[.val (.ref a1), .val (.int x), .val (.int (3 : Int32)), .val (.int (3 : Int32))] []) := fun t k => by
    refine go30 t ?_
    refine XS.icmpYes X24.here hx rfl (pc0 := 7) (pc' := 20) rfl (hb hby d3_7) rfl (Jvm.Free.XT.ii_ge_t (by decide)) (by decide) (by decide) ?_
    exact k
  obtain ⟨fs, hr, hrun, hended, hW, hsame⟩ := X24.leave (v := none) (fun _ => rfl)
  refine ⟨_, _, go31 _ ?_, hrun, hended, _, _, rfl, ?_, ⟨_, rfl⟩, hW, hsame.mono (by decide) (by decide)⟩
  · exact X24.returnOut hx Bd.returns (hb hby d3_20) hr
  · show QF Z _ _ _ _ _ _ _ T24.heap _
    rw [e24]
    exact ⟨rfl, N28, K27, V25⟩
theorem pd_3 : parseMethodDescriptor "([II)V" = some ⟨[(.array .int), .int], none⟩ := by decide +kernel
theorem d1_0 : decode prog_17_method_1_code 0 = .ok (.aload_n 0, 1) := by decide +kernel
theorem d1_1 : decode prog_17_method_1_code 1 = .ok (.invokespecial 1, 3) := by decide +kernel
theorem d1_4 : decode prog_17_method_1_code 4 = .ok (.aload_n 0, 1) := by decide +kernel
theorem d1_5 : decode prog_17_method_1_code 5 = .ok (.iload_n 1, 1) := by decide +kernel
theorem d1_6 : decode prog_17_method_1_code 6 = .ok (.newarray .double, 2) := by decide +kernel
theorem d1_8 : decode prog_17_method_1_code 8 = .ok (.putfield 7, 3) := by decide +kernel
theorem d1_11 : decode prog_17_method_1_code 11 = .ok (.aload_n 0, 1) := by decide +kernel
theorem d1_12 : decode prog_17_method_1_code 12 = .ok (.iload_n 1, 1) := by decide +kernel
theorem d1_13 : decode prog_17_method_1_code 13 = .ok (.newarray .int, 2) := by decide +kernel
theorem d1_15 : decode prog_17_method_1_code 15 = .ok (.putfield 13, 3) := by decide +kernel
theorem d1_18 : decode prog_17_method_1_code 18 = .ok (.aload_n 0, 1) := by decide +kernel
theorem d1_19 : decode prog_17_method_1_code 19 = .ok (.iload_n 1, 1) := by decide +kernel
theorem d1_20 : decode prog_17_method_1_code 20 = .ok (.newarray .int, 2) := by decide +kernel
theorem d1_22 : decode prog_17_method_1_code 22 = .ok (.putfield 17, 3) := by decide +kernel
theorem d1_25 : decode prog_17_method_1_code 25 = .ok (.aload_n 0, 1) := by decide +kernel
theorem d1_26 : decode prog_17_method_1_code 26 = .ok (.getfield 17, 3) := by decide +kernel
theorem d1_29 : decode prog_17_method_1_code 29 = .ok (.iconst (-1), 1) := by decide +kernel
theorem d1_30 : decode prog_17_method_1_code 30 = .ok (.invokestatic 20, 3) := by decide +kernel
theorem d1_33 : decode prog_17_method_1_code 33 = .ok (.return_, 1) := by decide +kernel
theorem ef_rmN (m : MethodId) (a1 : Addr) : entryFrame m #[(.ref a1), (.int (3 : Int32))] 2 = mkF m 0 #[.val (.ref a1), .val (.int (3 : Int32))] [] := by first | (simp [entryFrame, mkF, argsToLocals, Value.category]; done) | rfl
def QN (Z : State) (a1 : Addr) (h0 : Heap) (n0 : Nat) (v : Option Value) (h : Heap) (L : List Loc) : Prop := v = none ∧ Fr n0 L ∧ Keep h0 h [a1] ∧ ∃ (aK aI aP : Addr) (kk ki kp : ClassId), h0.size ≤ aK ∧ h0.size ≤ aI ∧ h0.size ≤ aP ∧ aK ≠ aI ∧ aK ≠ aP ∧ aI ≠ aP ∧ Exa Z h a1 "com/example/covermesh/covermesh/algorithms/IndexedMinHeap" ∧ Fld Z h a1 "com/example/covermesh/covermesh/algorithms/IndexedMinHeap" "keys" "[D" (.ref aK) ∧ Fld Z h a1 "com/example/covermesh/covermesh/algorithms/IndexedMinHeap" "items" "[I" (.ref aI) ∧ Fld Z h a1 "com/example/covermesh/covermesh/algorithms/IndexedMinHeap" "positions" "[I" (.ref aP) ∧ Fld Z h a1 "com/example/covermesh/covermesh/algorithms/IndexedMinHeap" "size" "I" (.int (0 : Int32)) ∧ Arv Z h aK kk .double 3 (own_d (fun _ => 0)) (.double (0 : UInt64)) ∧ Arv Z h aI ki .int 3 (own_l (fun _ => 0)) (.int (0 : Int32)) ∧ Arv Z h aP kp .int 3 (own_l (fun _ => -1)) (.int (0 : Int32))
set_option maxRecDepth 65536 in
set_option maxHeartbeats 40000000 in
theorem rmN (l : Launch) (Z : State) (a0 : Array Value) (hw : ∀ d ∈ tables_1, d.before a0 Z = true) (ws : List Jvm.Cond) (a1 : Addr) (h0 : Heap) (n0 : Nat) (Z0 : n0 ≤ h0.size) (E1 : Exa Z h0 a1 "com/example/covermesh/covermesh/algorithms/IndexedMinHeap") (FK : Fld Z h0 a1 "com/example/covermesh/covermesh/algorithms/IndexedMinHeap" "keys" "[D" .null) (FI : Fld Z h0 a1 "com/example/covermesh/covermesh/algorithms/IndexedMinHeap" "items" "[I" .null) (FP : Fld Z h0 a1 "com/example/covermesh/covermesh/algorithms/IndexedMinHeap" "positions" "[I" .null) (FS : Fld Z h0 a1 "com/example/covermesh/covermesh/algorithms/IndexedMinHeap" "size" "I" (.int (0 : Int32))) (gA : n0 ≤ a1) :
    MetFree l (⟨"com/example/covermesh/covermesh/algorithms/IndexedMinHeap", "<init>", "(I)V"⟩ : MethodName) (head1 (Jvm.Cond.code (⟨"com/example/covermesh/covermesh/algorithms/IndexedMinHeap", "<init>", "(I)V"⟩ : MethodName) prog_17_method_1_code 2 none :: ws) rO_2) (fun a U => a = #[(.ref a1), (.int (3 : Int32))] ∧ Z.Warmed39 U.vm ∧ U.heap = h0) (fun _ _ _ _ _ => True) (fun _ U o U' => ∃ v L, o = .returned v ∧ QN Z a1 h0 n0 v U'.heap L ∧ FrameEnd U o U' L rO_2.cells rO_2.slots) := by
  refine MetFree.of_bodySF (plainFor_of_name pn_0) hisR ?_
  intro p e s m args below meth c s₁ Bd hml0 hP hK
  obtain ⟨rfl, hZ, hh⟩ := hP
  have hx := Bd.exec
  have hby := Bd.bytes
  have hml : c.maxLocals = 2 := hml0
  have hown : s.vm.findClass "com/example/covermesh/covermesh/algorithms/IndexedMinHeap" = some m.cls := findClass_of_methodNamed Bd.named
  have hnm := (name_of_methodNamed Bd.named Bd.method).1
  have X0 : Stand p l e rO_2 s m #[(.ref a1), (.int (3 : Int32))] below meth c s₁ [] 0 0 := Stand.of_body Bd
  have e0 : s₁.heap = h0 := by rw [← hh, Bd.state]; rfl
  have N0 := Fr.nil n0
  have K0 := Keep.refl h0 [a1]
  have go0 : Goes p e below s₁ (entryFrame m #[(.ref a1), (.int (3 : Int32))] 2) s₁ (mkF m 0 #[.val (.ref a1), .val (.int (3 : Int32))] []) := fun t k => castTop (ef_rmN m a1) k
  have go1 : Goes p e below s₁ (entryFrame m #[(.ref a1), (.int (3 : Int32))] 2) s₁ (mkF m 1 #[.val (.ref a1), .val (.int (3 : Int32))] [(.ref a1)]) := fun t k => by
    refine go0 t ?_
    refine XS.aloadN X0.here hx rfl (hb hby d1_0) rfl rfl ?_
    exact k
  obtain ⟨T2, X2, e2, st2⟩ := initO X0 hx hZ hown (own_wd hw 6 rfl) (own_wd hw 7 rfl) (own_wd hw 8 rfl) e0 (g := (mkF m 1 #[.val (.ref a1), .val (.int (3 : Int32))] [(.ref a1)])) rfl (by rw [hml]; rfl) rfl (hb hby d1_1) (by decide) (W := 0) (by show 2 * 0 + _ ≤ _; exact Nat.le_of_eq rfl) (by decide)
  have go3 : Goes p e below s₁ (entryFrame m #[(.ref a1), (.int (3 : Int32))] 2) T2 (mkF m 4 #[.val (.ref a1), .val (.int (3 : Int32))] []) := fun t k => go1 t (st2 t k)
  have go4 : Goes p e below s₁ (entryFrame m #[(.ref a1), (.int (3 : Int32))] 2) T2 (mkF m 6 #[.val (.ref a1), .val (.int (3 : Int32))] [(.int (3 : Int32)), (.ref a1)]) := fun t k => by
    refine go3 t ?_
    refine XS.aloadN X2.here hx rfl (hb hby d1_4) rfl rfl ?_
    refine XS.iloadN X2.here hx rfl (hb hby d1_5) rfl ?_
    exact k
  obtain ⟨T5, h5, k5, X5, e5, E5, A5, st5⟩ := newP X2 hx hZ (own_wd hw 9 rfl) e2 (g := (mkF m 6 #[.val (.ref a1), .val (.int (3 : Int32))] [(.int (3 : Int32)), (.ref a1)])) rfl (hb hby d1_6) rfl (by decide) (cap := 3) (by decide) (by decide) (by decide) (by decide)
  obtain ⟨b5, g_b_b5⟩ : ∃ z, z = h0.size := ⟨_, rfl⟩
  have le_b5 : h0.size ≤ b5 := Nat.le_of_eq g_b_b5.symm
  have gn_b5 : n0 ≤ b5 := Nat.le_trans Z0 le_b5
  have sz_b5 : h0.size ≤ b5 := Nat.le_trans K0.1 le_b5
  rw [← g_b_b5] at A5 st5
  have f6 := E1.ext E5
  have f7 := FK.ext E5
  have f8 := FI.ext E5
  have f9 := FP.ext E5
  have f10 := FS.ext E5
  have Z11 := Nat.le_trans Z0 E5.1
  have K12 := K0.ext E5
  have V13 : Arv Z h5 b5 k5 .double (3 : Int32) [(.double (0 : UInt64)), (.double (0 : UInt64)), (.double (0 : UInt64))] (.double (0 : UInt64)) := (Arv.new A5 (by decide)).pad (pad_rep [] (.double (0 : UInt64)) 3)
  have go14 : Goes p e below s₁ (entryFrame m #[(.ref a1), (.int (3 : Int32))] 2) T5 (mkF m 8 #[.val (.ref a1), .val (.int (3 : Int32))] [(.ref b5), (.ref a1)]) := fun t k => go4 t (st5 t k)
  obtain ⟨T15, h15, X15, e15, W15, st15⟩ := putF X5 hx hZ hown (host := "") (Or.inl (own_wd hw 10 rfl)) Via.refl e5 f7 f6 (Or.inr ⟨(own_wd hw 11 rfl), rfl, hnm⟩) (own_wd hw 1 rfl) (ty := (.array .double)) (by decide) rfl rfl (g := (mkF m 8 #[.val (.ref a1), .val (.int (3 : Int32))] [(.ref b5), (.ref a1)])) rfl rfl (hb hby d1_8)
  have f16 := f7.same W15
  have f17 := f6.wr W15
  have f18 := f8.other W15 (Or.inr (slot_ne (Or.inr (own_wd hw 14 rfl)) (Or.inr (own_wd hw 11 rfl)) (by decide) (t := (.array .int)) (t' := (.array .double)) (by decide) (by decide)))
  have f19 := f9.other W15 (Or.inr (slot_ne (Or.inr (own_wd hw 16 rfl)) (Or.inr (own_wd hw 11 rfl)) (by decide) (t := (.array .int)) (t' := (.array .double)) (by decide) (by decide)))
  have f20 := f10.other W15 (Or.inr (slot_ne (Or.inl (own_wd hw 28 rfl)) (Or.inr (own_wd hw 11 rfl)) (by decide) (t := .int) (t' := (.array .double)) (by decide) (by decide)))
  have f21 := V13.other W15 (Ne.symm (Nat.ne_of_lt (Nat.lt_of_lt_of_le FS.lt le_b5)))
  have Z22 := Nat.le_trans Z11 (Nat.le_of_eq W15.size.symm)
  have K23 := K12.wr W15 (Or.inl (List.mem_of_getElem? (i := 0) rfl))
  have N24 := Fr.snoc X15 N0 gA
  have go25 : Goes p e below s₁ (entryFrame m #[(.ref a1), (.int (3 : Int32))] 2) T15 (mkF m 11 #[.val (.ref a1), .val (.int (3 : Int32))] []) := fun t k => go14 t (st15 t k)
  have go26 : Goes p e below s₁ (entryFrame m #[(.ref a1), (.int (3 : Int32))] 2) T15 (mkF m 13 #[.val (.ref a1), .val (.int (3 : Int32))] [(.int (3 : Int32)), (.ref a1)]) := fun t k => by
    refine go25 t ?_
    refine XS.aloadN X15.here hx rfl (hb hby d1_11) rfl rfl ?_
    refine XS.iloadN X15.here hx rfl (hb hby d1_12) rfl ?_
    exact k
  obtain ⟨T27, h27, k27, X27, e27, E27, A27, st27⟩ := newP X15 hx hZ (own_wd hw 12 rfl) e15 (g := (mkF m 13 #[.val (.ref a1), .val (.int (3 : Int32))] [(.int (3 : Int32)), (.ref a1)])) rfl (hb hby d1_13) rfl (by decide) (cap := 3) (by decide) (by decide) (by decide) (by decide)
  obtain ⟨b27, g_b_b27⟩ : ∃ z, z = h15.size := ⟨_, rfl⟩
  have le_b27 : h15.size ≤ b27 := Nat.le_of_eq g_b_b27.symm
  have gn_b27 : n0 ≤ b27 := Nat.le_trans Z22 le_b27
  have sz_b27 : h0.size ≤ b27 := Nat.le_trans K23.1 le_b27
  rw [← g_b_b27] at A27 st27
  have f28 := f17.ext E27
  have f29 := f18.ext E27
  have f30 := f19.ext E27
  have f31 := f20.ext E27
  have f32 := f21.ext E27
  have f33 := f16.ext E27
  have Z34 := Nat.le_trans Z22 E27.1
  have K35 := K23.ext E27
  have V36 : Arv Z h27 b27 k27 .int (3 : Int32) [(.int (0 : Int32)), (.int (0 : Int32)), (.int (0 : Int32))] (.int (0 : Int32)) := (Arv.new A27 (by decide)).pad (pad_rep [] (.int (0 : Int32)) 3)
  have go37 : Goes p e below s₁ (entryFrame m #[(.ref a1), (.int (3 : Int32))] 2) T27 (mkF m 15 #[.val (.ref a1), .val (.int (3 : Int32))] [(.ref b27), (.ref a1)]) := fun t k => go26 t (st27 t k)
  obtain ⟨T38, h38, X38, e38, W38, st38⟩ := putF X27 hx hZ hown (host := "") (Or.inl (own_wd hw 13 rfl)) Via.refl e27 f29 f28 (Or.inr ⟨(own_wd hw 14 rfl), rfl, hnm⟩) (own_wd hw 1 rfl) (ty := (.array .int)) (by decide) rfl rfl (g := (mkF m 15 #[.val (.ref a1), .val (.int (3 : Int32))] [(.ref b27), (.ref a1)])) rfl rfl (hb hby d1_15)
  have f39 := f29.same W38
  have f40 := f28.wr W38
  have f41 := f30.other W38 (Or.inr (slot_ne (Or.inr (own_wd hw 16 rfl)) (Or.inr (own_wd hw 14 rfl)) (by decide) (t := (.array .int)) (t' := (.array .int)) (by decide) (by decide)))
  have f42 := f31.other W38 (Or.inr (slot_ne (Or.inl (own_wd hw 28 rfl)) (Or.inr (own_wd hw 14 rfl)) (by decide) (t := .int) (t' := (.array .int)) (by decide) (by decide)))
  have f43 := f32.other W38 (Ne.symm (Nat.ne_of_lt (Nat.lt_of_lt_of_le FS.lt le_b5)))
  have f44 := f33.other W38 (Or.inr (slot_ne (Or.inr (own_wd hw 11 rfl)) (Or.inr (own_wd hw 14 rfl)) (by decide) (t := (.array .double)) (t' := (.array .int)) (by decide) (by decide)))
  have f45 := V36.other W38 (Ne.symm (Nat.ne_of_lt (Nat.lt_of_lt_of_le f16.lt le_b27)))
  have Z46 := Nat.le_trans Z34 (Nat.le_of_eq W38.size.symm)
  have K47 := K35.wr W38 (Or.inl (List.mem_of_getElem? (i := 0) rfl))
  have N48 := Fr.snoc X38 N24 gA
  have go49 : Goes p e below s₁ (entryFrame m #[(.ref a1), (.int (3 : Int32))] 2) T38 (mkF m 18 #[.val (.ref a1), .val (.int (3 : Int32))] []) := fun t k => go37 t (st38 t k)
  have go50 : Goes p e below s₁ (entryFrame m #[(.ref a1), (.int (3 : Int32))] 2) T38 (mkF m 20 #[.val (.ref a1), .val (.int (3 : Int32))] [(.int (3 : Int32)), (.ref a1)]) := fun t k => by
    refine go49 t ?_
    refine XS.aloadN X38.here hx rfl (hb hby d1_18) rfl rfl ?_
    refine XS.iloadN X38.here hx rfl (hb hby d1_19) rfl ?_
    exact k
  obtain ⟨T51, h51, k51, X51, e51, E51, A51, st51⟩ := newP X38 hx hZ (own_wd hw 12 rfl) e38 (g := (mkF m 20 #[.val (.ref a1), .val (.int (3 : Int32))] [(.int (3 : Int32)), (.ref a1)])) rfl (hb hby d1_20) rfl (by decide) (cap := 3) (by decide) (by decide) (by decide) (by decide)
  obtain ⟨b51, g_b_b51⟩ : ∃ z, z = h38.size := ⟨_, rfl⟩
  have le_b51 : h38.size ≤ b51 := Nat.le_of_eq g_b_b51.symm
  have gn_b51 : n0 ≤ b51 := Nat.le_trans Z46 le_b51
  have sz_b51 : h0.size ≤ b51 := Nat.le_trans K47.1 le_b51
  rw [← g_b_b51] at A51 st51
  have f52 := f40.ext E51
  have f53 := f41.ext E51
  have f54 := f42.ext E51
  have f55 := f43.ext E51
  have f56 := f44.ext E51
  have f57 := f45.ext E51
  have f58 := f39.ext E51
  have Z59 := Nat.le_trans Z46 E51.1
  have K60 := K47.ext E51
  have V61 : Arv Z h51 b51 k51 .int (3 : Int32) [(.int (0 : Int32)), (.int (0 : Int32)), (.int (0 : Int32))] (.int (0 : Int32)) := (Arv.new A51 (by decide)).pad (pad_rep [] (.int (0 : Int32)) 3)
  have go62 : Goes p e below s₁ (entryFrame m #[(.ref a1), (.int (3 : Int32))] 2) T51 (mkF m 22 #[.val (.ref a1), .val (.int (3 : Int32))] [(.ref b51), (.ref a1)]) := fun t k => go50 t (st51 t k)
  obtain ⟨T63, h63, X63, e63, W63, st63⟩ := putF X51 hx hZ hown (host := "") (Or.inl (own_wd hw 15 rfl)) Via.refl e51 f53 f52 (Or.inr ⟨(own_wd hw 16 rfl), rfl, hnm⟩) (own_wd hw 1 rfl) (ty := (.array .int)) (by decide) rfl rfl (g := (mkF m 22 #[.val (.ref a1), .val (.int (3 : Int32))] [(.ref b51), (.ref a1)])) rfl rfl (hb hby d1_22)
  have f64 := f53.same W63
  have f65 := f52.wr W63
  have f66 := f54.other W63 (Or.inr (slot_ne (Or.inl (own_wd hw 28 rfl)) (Or.inr (own_wd hw 16 rfl)) (by decide) (t := .int) (t' := (.array .int)) (by decide) (by decide)))
  have f67 := f55.other W63 (Ne.symm (Nat.ne_of_lt (Nat.lt_of_lt_of_le FS.lt le_b5)))
  have f68 := f56.other W63 (Or.inr (slot_ne (Or.inr (own_wd hw 11 rfl)) (Or.inr (own_wd hw 16 rfl)) (by decide) (t := (.array .double)) (t' := (.array .int)) (by decide) (by decide)))
  have f69 := f57.other W63 (Ne.symm (Nat.ne_of_lt (Nat.lt_of_lt_of_le f16.lt le_b27)))
  have f70 := f58.other W63 (Or.inr (slot_ne (Or.inr (own_wd hw 14 rfl)) (Or.inr (own_wd hw 16 rfl)) (by decide) (t := (.array .int)) (t' := (.array .int)) (by decide) (by decide)))
  have f71 := V61.other W63 (Ne.symm (Nat.ne_of_lt (Nat.lt_of_lt_of_le f39.lt le_b51)))
  have Z72 := Nat.le_trans Z59 (Nat.le_of_eq W63.size.symm)
  have K73 := K60.wr W63 (Or.inl (List.mem_of_getElem? (i := 0) rfl))
  have N74 := Fr.snoc X63 N48 gA
  have go75 : Goes p e below s₁ (entryFrame m #[(.ref a1), (.int (3 : Int32))] 2) T63 (mkF m 25 #[.val (.ref a1), .val (.int (3 : Int32))] []) := fun t k => go62 t (st63 t k)
  have go76 : Goes p e below s₁ (entryFrame m #[(.ref a1), (.int (3 : Int32))] 2) T63 (mkF m 26 #[.val (.ref a1), .val (.int (3 : Int32))] [(.ref a1)]) := fun t k => by
    refine go75 t ?_
    refine XS.aloadN X63.here hx rfl (hb hby d1_25) rfl rfl ?_
    exact k
  obtain ⟨T77, X77, e77, st77⟩ := getF X63 hx hZ hown (host := "") (Or.inl (own_wd hw 15 rfl)) Via.refl e63 f64 (g := (mkF m 26 #[.val (.ref a1), .val (.int (3 : Int32))] [(.ref a1)])) rfl rfl (hb hby d1_26)
  have go78 : Goes p e below s₁ (entryFrame m #[(.ref a1), (.int (3 : Int32))] 2) T77 (mkF m 29 #[.val (.ref a1), .val (.int (3 : Int32))] [(.ref b51)]) := fun t k => go76 t (st77 t k)
  have go79 : Goes p e below s₁ (entryFrame m #[(.ref a1), (.int (3 : Int32))] 2) T77 (mkF m 30 #[.val (.ref a1), .val (.int (3 : Int32))] [(.int (-1 : Int32)), (.ref b51)]) := fun t k => by
    refine go78 t ?_
    refine XS.iconst X77.here hx rfl (hb hby d1_29) ?_
    exact k
  obtain ⟨_, _, ⟨T80, L80, k80, n80⟩, -, X80, ⟨Lc80, hQ80, l80, y80, z80⟩, st80⟩ := Jvm.LawKit.callS X77 hx (y := (⟨"java/util/Arrays", "fill", "([II)V"⟩ : MethodName)) hown (mvT hZ (own_wd hw 17 rfl)) (mvT hZ (own_wd hw 18 rfl)) (mvT hZ (own_wd hw 19 rfl)) (mvT hZ (own_wd hw 20 rfl)) (by decide) (backOf (W := 0) (rmF l Z a0 hw [] b51 (-1 : Int32) k51 (fun _ => 0) h63 n0 Z72 f71 gn_b51) hZ (own_wd hw 20 rfl) (own_wd hw 19 rfl) (by decide) (by decide)) (g := (mkF m 30 #[.val (.ref a1), .val (.int (3 : Int32))] [(.int (-1 : Int32)), (.ref b51)])) rfl (by rw [hml]; rfl) (argsL := [(.ref b51), (.int (-1 : Int32))]) (rest := []) (lenOf pd_3 rfl) rfl (by show 2 * 0 + _ ≤ _; exact Nat.le_of_eq rfl) (hb hby d1_30) (fun _ _ => ⟨rfl, e77, (by decide : 3 + 0 ≤ rO_2.cells), (by decide : 9 + 0 ≤ rO_2.slots)⟩)
  dsimp only [Pt.U, Pt.locs, Pt.cells, Pt.slots] at X80 l80 y80 z80 st80 hQ80
  subst l80 y80 z80
  obtain ⟨rfl, N80q, Kq80, Vq80⟩ := hQ80
  have N80 := Fr.app N74 N80q
  have f81 := f65.keep Kq80
  have f82 := f66.keep Kq80 (ninS (Nat.ne_of_lt (Nat.lt_of_lt_of_le f39.lt le_b51)) nin0)
  have f83 := f67.keep Kq80 (ninS (Nat.ne_of_lt (Nat.lt_of_lt_of_le f43.lt le_b51)) nin0)
  have f84 := f68.keep Kq80 (ninS (Nat.ne_of_lt (Nat.lt_of_lt_of_le f39.lt le_b51)) nin0)
  have f85 := f69.keep Kq80 (ninS (Nat.ne_of_lt (Nat.lt_of_lt_of_le f45.lt le_b51)) nin0)
  have f86 := f70.keep Kq80 (ninS (Nat.ne_of_lt (Nat.lt_of_lt_of_le f39.lt le_b51)) nin0)
  have f87 := f64.keep Kq80 (ninS (Nat.ne_of_lt (Nat.lt_of_lt_of_le f39.lt le_b51)) nin0)
  have Z88 := Nat.le_trans Z72 Kq80.1
  have K89 := K73.trans Kq80 (allS (Or.inr sz_b51) all0)
  have go90 : Goes p e below s₁ (entryFrame m #[(.ref a1), (.int (3 : Int32))] 2) T80 (mkF m 33 #[.val (.ref a1), .val (.int (3 : Int32))] []) := fun t k => go79 t (st80 t k)
  obtain ⟨fs, hr, hrun, hended, hW, hsame⟩ := X80.leave (v := none) (fun _ => rfl)
  refine ⟨_, _, go90 _ ?_, hrun, hended, _, _, rfl, ?_, ⟨_, rfl⟩, hW, hsame.mono (by decide) (by decide)⟩
  · exact X80.returnOut hx Bd.returns (hb hby d1_33) hr
  · show QN Z _ _ _ _ T80.heap _
    exact ⟨rfl, N80, K89, b5, b27, b51, _, _, _, sz_b5, sz_b27, sz_b51, (Nat.ne_of_lt (Nat.lt_of_lt_of_le f21.lt le_b27)), (Nat.ne_of_lt (Nat.lt_of_lt_of_le f43.lt le_b51)), (Nat.ne_of_lt (Nat.lt_of_lt_of_le f45.lt le_b51)), f81, f84, f86, f87, f82, f83, f85, Vq80⟩
theorem d9_0 : decode prog_17_method_3_code 0 = .ok (.aload_n 0, 1) := by decide +kernel
theorem d9_1 : decode prog_17_method_3_code 1 = .ok (.getfield 7, 3) := by decide +kernel
theorem d9_4 : decode prog_17_method_3_code 4 = .ok (.aload_n 0, 1) := by decide +kernel
theorem d9_5 : decode prog_17_method_3_code 5 = .ok (.getfield 13, 3) := by decide +kernel
theorem d9_8 : decode prog_17_method_3_code 8 = .ok (.iconst 0, 1) := by decide +kernel
theorem d9_9 : decode prog_17_method_3_code 9 = .ok (.iaload, 1) := by decide +kernel
theorem d9_10 : decode prog_17_method_3_code 10 = .ok (.daload, 1) := by decide +kernel
theorem d9_11 : decode prog_17_method_3_code 11 = .ok (.dreturn, 1) := by decide +kernel
theorem ef_rmM (m : MethodId) (a1 : Addr) : entryFrame m #[(.ref a1)] 1 = mkF m 0 #[.val (.ref a1)] [] := by first | (simp [entryFrame, mkF, argsToLocals, Value.category]; done) | rfl
def QM (Z : State) (a1 : Addr) (aK aI : Addr) (kk ki : ClassId) (kf : Int32 → UInt64) (g : Int32 → Int32) (h0 : Heap) (n0 : Nat) (v : Option Value) (h : Heap) (L : List Loc) : Prop := v = some (.double (kf (g (0 : Int32)))) ∧ Fr n0 L ∧ h = h0
set_option maxRecDepth 65536 in
set_option maxHeartbeats 40000000 in
theorem rmM (l : Launch) (Z : State) (a0 : Array Value) (hw : ∀ d ∈ tables_1, d.before a0 Z = true) (ws : List Jvm.Cond) (a1 : Addr) (aK aI : Addr) (kk ki : ClassId) (kf : Int32 → UInt64) (g : Int32 → Int32) (h0 : Heap) (n0 : Nat) (Z0 : n0 ≤ h0.size) (FK : Fld Z h0 a1 "com/example/covermesh/covermesh/algorithms/IndexedMinHeap" "keys" "[D" (.ref aK)) (FI : Fld Z h0 a1 "com/example/covermesh/covermesh/algorithms/IndexedMinHeap" "items" "[I" (.ref aI)) (VK : Arv Z h0 aK kk .double 3 (own_d kf) (.double (0 : UInt64))) (VI : Arv Z h0 aI ki .int 3 (own_l g) (.int (0 : Int32))) (Rg : own_R (g (0 : Int32))) :
    MetFree l mN_7 (head1 (Jvm.Cond.code mN_7 prog_17_method_3_code 1 (some .double) :: ws) rO_0) (fun a U => a = #[(.ref a1)] ∧ Z.Warmed39 U.vm ∧ U.heap = h0) (fun _ _ _ _ _ => True) (fun _ U o U' => ∃ v L, o = .returned v ∧ QM Z a1 aK aI kk ki kf g h0 n0 v U'.heap L ∧ FrameEnd U o U' L rO_0.cells rO_0.slots) := by
  refine MetFree.of_bodySF (plainFor_of_name pn_0) hisR ?_
  intro p e s m args below meth c s₁ Bd hml0 hP hK
  obtain ⟨rfl, hZ, hh⟩ := hP
  have hx := Bd.exec
  have hby := Bd.bytes
  have hml : c.maxLocals = 1 := hml0
  have hown : s.vm.findClass "com/example/covermesh/covermesh/algorithms/IndexedMinHeap" = some m.cls := findClass_of_methodNamed Bd.named
  have hnm := (name_of_methodNamed Bd.named Bd.method).1
  have X0 : Stand p l e rO_0 s m #[(.ref a1)] below meth c s₁ [] 0 0 := Stand.of_body Bd
  have e0 : s₁.heap = h0 := by rw [← hh, Bd.state]; rfl
  have N0 := Fr.nil n0
  have K0 := Keep.refl h0 []
  have go0 : Goes p e below s₁ (entryFrame m #[(.ref a1)] 1) s₁ (mkF m 0 #[.val (.ref a1)] []) := fun t k => castTop (ef_rmM m a1) k
  have go1 : Goes p e below s₁ (entryFrame m #[(.ref a1)] 1) s₁ (mkF m 1 #[.val (.ref a1)] [(.ref a1)]) := fun t k => by
    refine go0 t ?_
    refine XS.aloadN X0.here hx rfl (hb hby d9_0) rfl rfl ?_
    exact k
  obtain ⟨T2, X2, e2, st2⟩ := getF X0 hx hZ hown (host := "") (Or.inl (own_wd hw 10 rfl)) Via.refl e0 FK (g := (mkF m 1 #[.val (.ref a1)] [(.ref a1)])) rfl rfl (hb hby d9_1)
  have go3 : Goes p e below s₁ (entryFrame m #[(.ref a1)] 1) T2 (mkF m 4 #[.val (.ref a1)] [(.ref aK)]) := fun t k => go1 t (st2 t k)
  have go4 : Goes p e below s₁ (entryFrame m #[(.ref a1)] 1) T2 (mkF m 5 #[.val (.ref a1)] [(.ref a1), (.ref aK)]) := fun t k => by
    refine go3 t ?_
    refine XS.aloadN X2.here hx rfl (hb hby d9_4) rfl rfl ?_
    exact k
  obtain ⟨T5, X5, e5, st5⟩ := getF X2 hx hZ hown (host := "") (Or.inl (own_wd hw 13 rfl)) Via.refl e2 FI (g := (mkF m 5 #[.val (.ref a1)] [(.ref a1), (.ref aK)])) rfl rfl (hb hby d9_5)
  have go6 : Goes p e below s₁ (entryFrame m #[(.ref a1)] 1) T5 (mkF m 8 #[.val (.ref a1)] [(.ref aI), (.ref aK)]) := fun t k => go4 t (st5 t k)
  have go7 : Goes p e below s₁ (entryFrame m #[(.ref a1)] 1) T5 (mkF m 9 #[.val (.ref a1)] [(.int (0 : Int32)), (.ref aI), (.ref aK)]) := fun t k => by
    refine go6 t ?_
    refine XS.iconst X5.here hx rfl (hb hby d9_8) ?_
    exact k
  obtain ⟨cl8, Ar8, kq8, Sz8, Nn8, Hs8, Gf8⟩ := id (VI)
  have hin8 : ¬ ((0 : Int32) < 0 ∨ cl8.slots.size ≤ ((0 : Int32)).toNatClampNeg) := inb_of Sz8 (own_inb own_R0)
  have hat8 : cl8.slots[((0 : Int32)).toNatClampNeg]? = some (.int (g (0 : Int32))) := Has.at Hs8 hin8 (own_l_at own_R0)
  have go9 : Goes p e below s₁ (entryFrame m #[(.ref a1)] 1) T5 (mkF m 10 #[.val (.ref a1)] [(.int (g (0 : Int32))), (.ref aK)]) := fun t k => by
    refine go7 t ?_
    refine X5.iaload hx (j := (0 : Int32)) (v := (.int (g (0 : Int32)))) (own_hp e5 Ar8.1) (State.isArrayOf_alike hZ.alike Ar8.2.1) Ar8.2.2 hin8 hat8 (g := (mkF m 9 #[.val (.ref a1)] [(.int (0 : Int32)), (.ref aI), (.ref aK)])) rfl rfl (hb hby d9_9) _ ?_
    exact k
  obtain ⟨cl10, Ar10, kq10, Sz10, Nn10, Hs10, Gf10⟩ := id (VK)
  have hin10 : ¬ ((g (0 : Int32)) < 0 ∨ cl10.slots.size ≤ ((g (0 : Int32))).toNatClampNeg) := inb_of Sz10 (own_inb Rg)
  have hat10 : cl10.slots[((g (0 : Int32))).toNatClampNeg]? = some (.double (kf (g (0 : Int32)))) := Has.at Hs10 hin10 (own_d_at Rg)
  have go11 : Goes p e below s₁ (entryFrame m #[(.ref a1)] 1) T5 (mkF m 11 #[.val (.ref a1)] [(.double (kf (g (0 : Int32))))]) := fun t k => by
    refine go9 t ?_
    refine X5.daload hx (j := (g (0 : Int32))) (v := (.double (kf (g (0 : Int32))))) (own_hp e5 Ar10.1) (State.isArrayOf_alike hZ.alike Ar10.2.1) Ar10.2.2 hin10 hat10 (g := (mkF m 10 #[.val (.ref a1)] [(.int (g (0 : Int32))), (.ref aK)])) rfl rfl (hb hby d9_10) _ ?_
    exact k
  obtain ⟨fs, hr, hrun, hended, hW, hsame⟩ := X5.leave (v := some (.double (kf (g (0 : Int32))))) (fun h => by rw [Bd.returns] at h; cases h)
  refine ⟨_, _, go11 _ ?_, hrun, hended, _, _, rfl, ?_, ⟨_, rfl⟩, hW, hsame.mono (by decide) (by decide)⟩
  · jvm_step X5.here [X5.here.top, hx, (hb hby d9_11), X5.method', Bd.returns, narrow]
    first | (intro acts; rw [hr _ acts rfl rfl rfl]) | rw [hr _ _ rfl rfl rfl]
    exact Steps.refl _
  · show QM Z _ _ _ _ _ _ _ _ _ _ T5.heap _
    rw [e5]
    exact ⟨rfl, N0, rfl⟩
theorem d8_0 : decode jdk_29_method_70_code 0 = .ok (.lload_n 0, 1) := by decide +kernel
theorem d8_1 : decode jdk_29_method_70_code 1 = .ok (.lload_n 2, 1) := by decide +kernel
theorem d8_2 : decode jdk_29_method_70_code 2 = .ok (.lcmp, 1) := by decide +kernel
theorem d8_3 : decode jdk_29_method_70_code 3 = .ok (.ifCond .gt 7, 3) := by decide +kernel
theorem d8_6 : decode jdk_29_method_70_code 6 = .ok (.lload_n 0, 1) := by decide +kernel
theorem d8_7 : decode jdk_29_method_70_code 7 = .ok (.goto 4, 3) := by decide +kernel
theorem d8_10 : decode jdk_29_method_70_code 10 = .ok (.lload_n 2, 1) := by decide +kernel
theorem d8_11 : decode jdk_29_method_70_code 11 = .ok (.lreturn, 1) := by decide +kernel
theorem ef_rmMin (m : MethodId) (x : Int64) (y : Int64) : entryFrame m #[(.long x), (.long y)] 4 = mkF m 0 #[.val (.long x), .second, .val (.long y), .second] [] := by first | (simp [entryFrame, mkF, argsToLocals, Value.category]; done) | rfl
def QMin (Z : State) (x : Int64) (y : Int64) (h0 : Heap) (n0 : Nat) (v : Option Value) (h : Heap) (L : List Loc) : Prop := v = some (.long (own_min x y)) ∧ Fr n0 L ∧ h = h0
set_option maxRecDepth 65536 in
set_option maxHeartbeats 40000000 in
theorem rmMin (l : Launch) (Z : State) (a0 : Array Value) (hw : ∀ d ∈ tables_1, d.before a0 Z = true) (ws : List Jvm.Cond) (x : Int64) (y : Int64) (h0 : Heap) (n0 : Nat) (Z0 : n0 ≤ h0.size) :
    MetFree l mN_6 (head1 (Jvm.Cond.code mN_6 jdk_29_method_70_code 4 (some .long) :: ws) rO_0) (fun a U => a = #[(.long x), (.long y)] ∧ Z.Warmed39 U.vm ∧ U.heap = h0) (fun _ _ _ _ _ => True) (fun _ U o U' => ∃ v L, o = .returned v ∧ QMin Z x y h0 n0 v U'.heap L ∧ FrameEnd U o U' L rO_0.cells rO_0.slots) := by
  refine MetFree.of_bodySF (Jvm.Free.JP.mathPlain rfl (by decide +kernel)) hisR ?_
  intro p e s m args below meth c s₁ Bd hml0 hP hK
  obtain ⟨rfl, hZ, hh⟩ := hP
  have hx := Bd.exec
  have hby := Bd.bytes
  have hml : c.maxLocals = 4 := hml0
  have hown : s.vm.findClass "java/lang/Math" = some m.cls := findClass_of_methodNamed Bd.named
  have hnm := (name_of_methodNamed Bd.named Bd.method).1
  have X0 : Stand p l e rO_0 s m #[(.long x), (.long y)] below meth c s₁ [] 0 0 := Stand.of_body Bd
  have e0 : s₁.heap = h0 := by rw [← hh, Bd.state]; rfl
  have N0 := Fr.nil n0
  have K0 := Keep.refl h0 []
  have go0 : Goes p e below s₁ (entryFrame m #[(.long x), (.long y)] 4) s₁ (mkF m 0 #[.val (.long x), .second, .val (.long y), .second] []) := fun t k => castTop (ef_rmMin m x y) k
  have go1 : Goes p e below s₁ (entryFrame m #[(.long x), (.long y)] 4) s₁ (mkF m 3 #[.val (.long x), .second, .val (.long y), .second] [(.int (Jvm.Free.XT.cmpL x y))]) := fun t k => by
    refine go0 t ?_
    refine XS.lloadN X0.here hx rfl (hb hby d8_0) rfl ?_
    refine XS.lloadN X0.here hx rfl (hb hby d8_1) rfl ?_
    refine XS.lcmp X0.here hx rfl (hb hby d8_2) rfl ?_
    exact k
  by_cases hc2 : y < x
  · have go3 : Goes p e below s₁ (entryFrame m #[(.long x), (.long y)] 4) s₁ (mkF m 11 #[.val (.long x), .second, .val (.long y), .second] [(.long y)]) := fun t k => by
      refine go1 t ?_
      refine XS.ifYes X0.here hx rfl (pc0 := 3) (pc' := 10) rfl (hb hby d8_3) rfl (Jvm.Free.XT.ll_gt_t hc2) (by decide) (by decide) ?_
      refine XS.lloadN X0.here hx rfl (hb hby d8_10) rfl ?_
      exact k
    obtain ⟨fs, hr, hrun, hended, hW, hsame⟩ := X0.leave (v := some (.long y)) (fun h => by rw [Bd.returns] at h; cases h)
    refine ⟨_, _, go3 _ ?_, hrun, hended, _, _, rfl, ?_, ⟨_, rfl⟩, hW, hsame.mono (by decide) (by decide)⟩
    · jvm_step X0.here [X0.here.top, hx, (hb hby d8_11), X0.method', Bd.returns, narrow]
      first | (intro acts; rw [hr _ acts rfl rfl rfl]) | rw [hr _ _ rfl rfl rfl]
      exact Steps.refl _
    · show QMin Z _ _ _ _ _ s₁.heap _
      rw [e0]
      exact ⟨by simp [own_min, hc2], N0, rfl⟩
  · have go4 : Goes p e below s₁ (entryFrame m #[(.long x), (.long y)] 4) s₁ (mkF m 11 #[.val (.long x), .second, .val (.long y), .second] [(.long x)]) := fun t k => by
      refine go1 t ?_
      refine XS.ifNo X0.here hx rfl (hb hby d8_3) rfl (Jvm.Free.XT.ll_gt_f hc2) ?_
      refine XS.lloadN X0.here hx rfl (hb hby d8_6) rfl ?_
      refine XS.goto X0.here hx rfl (pc0 := 7) (pc' := 11) rfl (hb hby d8_7) (by decide) (by decide) ?_
      exact k
    obtain ⟨fs, hr, hrun, hended, hW, hsame⟩ := X0.leave (v := some (.long x)) (fun h => by rw [Bd.returns] at h; cases h)
    refine ⟨_, _, go4 _ ?_, hrun, hended, _, _, rfl, ?_, ⟨_, rfl⟩, hW, hsame.mono (by decide) (by decide)⟩
    · jvm_step X0.here [X0.here.top, hx, (hb hby d8_11), X0.method', Bd.returns, narrow]
      first | (intro acts; rw [hr _ acts rfl rfl rfl]) | rw [hr _ _ rfl rfl rfl]
      exact Steps.refl _
    · show QMin Z _ _ _ _ _ s₁.heap _
      rw [e0]
      exact ⟨by simp [own_min, hc2], N0, rfl⟩
theorem own_ge2 {n a b c : Int32} (h : n = 1 ∨ n = 2 ∨ n = 3) (e : n = a + b + c) (h2 : ¬ a + b + c < 2) : ¬ n - 1 = 0 := by
  rw [← e] at h2; rcases h with rfl | rfl | rfl
  · exact absurd (by decide) h2
  · decide
  · decide
theorem own_I.rng {kv vv lv : Int32 → Int32} {σ : own_P} {n : Int32} (H : own_I kv vv lv σ n) : n = 0 ∨ n = 1 ∨ n = 2 ∨ n = 3 := by
  obtain ⟨-, -, hl, -, hn⟩ := H
  have a := hl 0 own_R0; have b := hl 1 own_R1; have c := hl 2 own_R2
  rcases a with a | a <;> rcases b with b | b <;> rcases c with c | c <;> rw [a, b, c] at hn <;> subst hn <;> decide
theorem own_pos {n : Int32} (h : n = 0 ∨ n = 1 ∨ n = 2 ∨ n = 3) (h0 : ¬ n = 0) : (0 : Int32) < n := by
  rcases h with rfl | rfl | rfl | rfl
  · exact absurd rfl h0
  · decide
  · decide
  · decide
theorem own_fin {kv vv lv : Int32 → Int32} {σ : own_P} {n : Int32} {m0 m1 m2 : Int64} (H : own_I kv vv lv σ n) (hn : ¬ n = 0) (h0 : m0 = own_m 9223372036854775807 (lv 0) (vv 0)) (h1 : m1 = own_m m0 (lv 1) (vv 1)) (h2 : m2 = own_m m1 (lv 2) (vv 2)) : cmpValue (FP.dcmp (own_k kv (σ.1 0)) (FP.l2d m2)) .l = 0 := by
  have e : m2 = (kv (σ.1 0)).toInt64 := by rw [h2, h1, h0]; exact H.min hn
  rw [e]; unfold own_k; rw [Jvm.RoadKit.i2d_w]; exact Jvm.RoadKit.dcmpV_self (Jvm.RoadKit.nn_w rfl) .l
theorem pd_4 : parseMethodDescriptor "(ID)V" = some ⟨[.int, .double], none⟩ := by decide +kernel
theorem pd_5 : parseMethodDescriptor "(JJ)J" = some ⟨[.long, .long], some .long⟩ := by decide +kernel
theorem pd_6 : parseMethodDescriptor "()D" = some ⟨[], some .double⟩ := by decide +kernel
theorem pn_2 : plainName "com/example/covermesh/covermesh/algorithms/IndexedMinHeapMinKeyPinLaw" = true := by first | (simp [plainName, overriddenIn]; done) | decide +kernel
theorem ef_rm0 (m : MethodId) (ka : Int32) (kb : Int32) (kc : Int32) (kd : Int32) (fl : Int32) : entryFrame m #[(.int ka), (.int kb), (.int kc), (.int kd), (.int fl)] maxLocals = mkF m 0 #[.val (.int ka), .val (.int kb), .val (.int kc), .val (.int kd), .val (.int fl), .unset, .unset, .unset, .unset, .unset, .unset] [] := by first | (simp [entryFrame, mkF, argsToLocals, Value.category, maxLocals]; done) | rfl
def Q0 (Z : State) (ka : Int32) (kb : Int32) (kc : Int32) (kd : Int32) (fl : Int32) (h0 : Heap) (n0 : Nat) (v : Option Value) (h : Heap) (L : List Loc) : Prop := v = some (.int 1) ∧ Fr n0 L
set_option maxRecDepth 65536 in
set_option maxHeartbeats 40000000 in
theorem rm0 (l : Launch) (Z : State) (a0 : Array Value) (hw : ∀ d ∈ tables_1, d.before a0 Z = true) (ws : List Jvm.Cond) (ka : Int32) (kb : Int32) (kc : Int32) (kd : Int32) (fl : Int32) (h0 : Heap) (n0 : Nat) (Z0 : n0 ≤ h0.size) :
    MetFree l x (head1 (Jvm.Cond.code x code maxLocals ret :: ws) room_1) (fun a U => a = #[(.int ka), (.int kb), (.int kc), (.int kd), (.int fl)] ∧ Z.Warmed39 U.vm ∧ U.heap = h0) (fun _ _ _ _ _ => True) (fun _ U o U' => ∃ v L, o = .returned v ∧ Q0 Z ka kb kc kd fl h0 n0 v U'.heap L ∧ FrameEnd U o U' L room_1.cells room_1.slots) := by
  refine MetFree.of_bodySF (plainFor_of_name pn_2) hisR ?_
  intro p e s m args below meth c s₁ Bd hml0 hP hK
  obtain ⟨rfl, hZ, hh⟩ := hP
  have hx := Bd.exec
  have hby := Bd.bytes
  have hml : c.maxLocals = 11 := hml0
  have hown : s.vm.findClass "com/example/covermesh/covermesh/algorithms/IndexedMinHeapMinKeyPinLaw" = some m.cls := findClass_of_methodNamed Bd.named
  have hnm := (name_of_methodNamed Bd.named Bd.method).1
  have X0 : Stand p l e room_1 s m #[(.int ka), (.int kb), (.int kc), (.int kd), (.int fl)] below meth c s₁ [] 0 0 := Stand.of_body Bd
  have e0 : s₁.heap = h0 := by rw [← hh, Bd.state]; rfl
  have N0 := Fr.nil n0
  have K0 := Keep.refl h0 []
  have go0 : Goes p e below s₁ (entryFrame m #[(.int ka), (.int kb), (.int kc), (.int kd), (.int fl)] maxLocals) s₁ (mkF m 0 #[.val (.int ka), .val (.int kb), .val (.int kc), .val (.int kd), .val (.int fl), .unset, .unset, .unset, .unset, .unset, .unset] []) := fun t k => castTop (ef_rm0 m ka kb kc kd fl) k
  obtain ⟨T1, h1, X1, e1, E1, A1, D1, -, st1⟩ := newO X0 hx hZ hown (own_wd hw 0 rfl) (own_wd hw 1 rfl) (own_wd hw 2 rfl) e0 (g := (mkF m 0 #[.val (.int ka), .val (.int kb), .val (.int kc), .val (.int kd), .val (.int fl), .unset, .unset, .unset, .unset, .unset, .unset] [])) rfl (hb hby at_0) (by decide) (by decide)
  obtain ⟨b1, g_b_b1⟩ : ∃ z, z = h0.size := ⟨_, rfl⟩
  have le_b1 : h0.size ≤ b1 := Nat.le_of_eq g_b_b1.symm
  have gn_b1 : n0 ≤ b1 := Nat.le_trans Z0 le_b1
  have sz_b1 : h0.size ≤ b1 := Nat.le_trans K0.1 le_b1
  rw [← g_b_b1] at A1 D1 st1
  have Z2 := Nat.le_trans Z0 E1.1
  have K3 := K0.ext E1
  have f4 : Fld Z h1 b1 "com/example/covermesh/covermesh/algorithms/IndexedMinHeap" "keys" "[D" .null := D1 (Or.inr (own_wd hw 11 rfl)) (ty := (.array .double)) (by decide)
  have f5 : Fld Z h1 b1 "com/example/covermesh/covermesh/algorithms/IndexedMinHeap" "items" "[I" .null := D1 (Or.inr (own_wd hw 14 rfl)) (ty := (.array .int)) (by decide)
  have f6 : Fld Z h1 b1 "com/example/covermesh/covermesh/algorithms/IndexedMinHeap" "positions" "[I" .null := D1 (Or.inr (own_wd hw 16 rfl)) (ty := (.array .int)) (by decide)
  have f7 : Fld Z h1 b1 "com/example/covermesh/covermesh/algorithms/IndexedMinHeap" "size" "I" (.int (0 : Int32)) := D1 (Or.inl (own_wd hw 28 rfl)) (ty := .int) (by decide)
  have go8 : Goes p e below s₁ (entryFrame m #[(.int ka), (.int kb), (.int kc), (.int kd), (.int fl)] maxLocals) T1 (mkF m 3 #[.val (.int ka), .val (.int kb), .val (.int kc), .val (.int kd), .val (.int fl), .unset, .unset, .unset, .unset, .unset, .unset] [(.ref b1)]) := fun t k => go0 t (st1 t k)
  have go9 : Goes p e below s₁ (entryFrame m #[(.int ka), (.int kb), (.int kc), (.int kd), (.int fl)] maxLocals) T1 (mkF m 5 #[.val (.int ka), .val (.int kb), .val (.int kc), .val (.int kd), .val (.int fl), .unset, .unset, .unset, .unset, .unset, .unset] [(.int (3 : Int32)), (.ref b1), (.ref b1)]) := fun t k => by
    refine go8 t ?_
    refine XS.dup X1.here hx rfl (hb hby at_3) rfl rfl ?_
    refine XS.iconst X1.here hx rfl (hb hby at_4) ?_
    exact k
  obtain ⟨_, _, ⟨T10, L10, k10, n10⟩, -, X10, ⟨Lc10, hQ10, l10, y10, z10⟩, st10⟩ := X1.specialBack hx (y := (⟨"com/example/covermesh/covermesh/algorithms/IndexedMinHeap", "<init>", "(I)V"⟩ : MethodName)) rfl hown (mvT hZ (own_wd hw 3 rfl)) (mvT hZ (own_wd hw 4 rfl)) (mvT hZ (own_wd hw 5 rfl)) (by decide) (backOf (W := 1) (rmN l Z a0 hw [] b1 h1 n0 Z2 A1 f4 f5 f6 f7 gn_b1) hZ (own_wd hw 5 rfl) (own_wd hw 2 rfl) (by decide) (by decide)) (g := (mkF m 5 #[.val (.int ka), .val (.int kb), .val (.int kc), .val (.int kd), .val (.int fl), .unset, .unset, .unset, .unset, .unset, .unset] [(.int (3 : Int32)), (.ref b1), (.ref b1)])) rfl (by rw [hml]; rfl) (Steps.refl _) (a := b1) (argsL := [(.int (3 : Int32))]) (rest := [(.ref b1)]) (lenOf pd_2 rfl) rfl (by show 2 * 0 + _ ≤ _; exact Nat.le_of_eq rfl) (hb hby at_5) (fun _ _ => ⟨rfl, e1, (by decide : 1 + 3 ≤ room_1.cells), (by decide : 4 + 9 ≤ room_1.slots)⟩)
  dsimp only [Pt.U, Pt.locs, Pt.cells, Pt.slots] at X10 l10 y10 z10 st10 hQ10
  subst l10 y10 z10
  obtain ⟨rfl, N10q, Kq10, Vq10⟩ := hQ10
  have N10 := Fr.app N0 N10q
  obtain ⟨aK, aI, aP, kk, ki, kp, le_aK, le_aI, le_aP, nKI, nKP, nIP, E1, FKo, FIo, FPo, FSo, VK, VI, VP⟩ := Vq10
  have gn_aK : n0 ≤ aK := Nat.le_trans Z2 le_aK
  have sz_aK : h0.size ≤ aK := Nat.le_trans K3.1 le_aK
  have gn_aI : n0 ≤ aI := Nat.le_trans Z2 le_aI
  have sz_aI : h0.size ≤ aI := Nat.le_trans K3.1 le_aI
  have gn_aP : n0 ≤ aP := Nat.le_trans Z2 le_aP
  have sz_aP : h0.size ≤ aP := Nat.le_trans K3.1 le_aP
  have nAK : b1 ≠ aK := (Nat.ne_of_lt (Nat.lt_of_lt_of_le f7.lt le_aK))
  have nAI : b1 ≠ aI := (Nat.ne_of_lt (Nat.lt_of_lt_of_le f7.lt le_aI))
  have nAP : b1 ≠ aP := (Nat.ne_of_lt (Nat.lt_of_lt_of_le f7.lt le_aP))
  have gA : n0 ≤ b1 := gn_b1
  have gK := gn_aK
  have gI := gn_aI
  have gP := gn_aP
  have f11 := A1.keep Kq10
  have Z12 := Nat.le_trans Z2 Kq10.1
  have K13 := K3.trans Kq10 (allS (Or.inr sz_b1) all0)
  have go14 : Goes p e below s₁ (entryFrame m #[(.int ka), (.int kb), (.int kc), (.int kd), (.int fl)] maxLocals) T10 (mkF m 8 #[.val (.int ka), .val (.int kb), .val (.int kc), .val (.int kd), .val (.int fl), .unset, .unset, .unset, .unset, .unset, .unset] [(.ref b1)]) := fun t k => go9 t (st10.trans k)
  rw [own_k_new] at VK
  have VI : Arv Z T10.heap aI ki .int 3 (own_l own_s0.1) (.int (0 : Int32)) := VI
  have VP : Arv Z T10.heap aP kp .int 3 (own_l own_s0.2) (.int (0 : Int32)) := VP
  have go15 : Goes p e below s₁ (entryFrame m #[(.int ka), (.int kb), (.int kc), (.int kd), (.int fl)] maxLocals) T10 (mkF m 11 #[.val (.int ka), .val (.int kb), .val (.int kc), .val (.int kd), .val (.int fl), .val (.ref b1), .unset, .unset, .unset, .unset, .unset] [(.int (3 : Int32))]) := fun t k => by
    refine go14 t ?_
    refine XS.astore X10.here hx rfl (hb hby at_8) rfl rfl (l' := #[.val (.int ka), .val (.int kb), .val (.int kc), .val (.int kd), .val (.int fl), .val (.ref b1), .unset, .unset, .unset, .unset, .unset]) rfl ?_
    refine XS.iconst X10.here hx rfl (hb hby at_10) ?_
    exact k
  obtain ⟨T16, h16, k16, X16, e16, E16, A16, st16⟩ := newP X10 hx hZ (own_wd hw 12 rfl) rfl (g := (mkF m 11 #[.val (.int ka), .val (.int kb), .val (.int kc), .val (.int kd), .val (.int fl), .val (.ref b1), .unset, .unset, .unset, .unset, .unset] [(.int (3 : Int32))])) rfl (hb hby at_11) rfl (by decide) (cap := 3) (by decide) (by decide) (by decide) (by decide)
  obtain ⟨b16, g_b_b16⟩ : ∃ z, z = T10.heap.size := ⟨_, rfl⟩
  have le_b16 : T10.heap.size ≤ b16 := Nat.le_of_eq g_b_b16.symm
  have gn_b16 : n0 ≤ b16 := Nat.le_trans Z12 le_b16
  have sz_b16 : h0.size ≤ b16 := Nat.le_trans K13.1 le_b16
  rw [← g_b_b16] at A16 st16
  have f17 := E1.ext E16
  have f18 := FKo.ext E16
  have f19 := FIo.ext E16
  have f20 := FPo.ext E16
  have f21 := FSo.ext E16
  have f22 := VK.ext E16
  have f23 := VI.ext E16
  have f24 := VP.ext E16
  have Z25 := Nat.le_trans Z12 E16.1
  have K26 := K13.ext E16
  have V27 : Arv Z h16 b16 k16 .int (3 : Int32) [(.int (0 : Int32)), (.int (0 : Int32)), (.int (0 : Int32))] (.int (0 : Int32)) := (Arv.new A16 (by decide)).pad (pad_rep [] (.int (0 : Int32)) 3)
  have go28 : Goes p e below s₁ (entryFrame m #[(.int ka), (.int kb), (.int kc), (.int kd), (.int fl)] maxLocals) T16 (mkF m 13 #[.val (.int ka), .val (.int kb), .val (.int kc), .val (.int kd), .val (.int fl), .val (.ref b1), .unset, .unset, .unset, .unset, .unset] [(.ref b16)]) := fun t k => go15 t (st16 t k)
  have V29 : Arv Z h16 b16 k16 .int (3 : Int32) (own_l own_z) (.int (0 : Int32)) := V27
  have go30 : Goes p e below s₁ (entryFrame m #[(.int ka), (.int kb), (.int kc), (.int kd), (.int fl)] maxLocals) T16 (mkF m 16 #[.val (.int ka), .val (.int kb), .val (.int kc), .val (.int kd), .val (.int fl), .val (.ref b1), .unset, .unset, .unset, .unset, .unset] [(.int ka), (.int (0 : Int32)), (.ref b16), (.ref b16)]) := fun t k => by
    refine go28 t ?_
    refine XS.dup X16.here hx rfl (hb hby at_13) rfl rfl ?_
    refine XS.iconst X16.here hx rfl (hb hby at_14) ?_
    refine XS.iloadN X16.here hx rfl (hb hby at_15) rfl ?_
    exact k
  obtain ⟨cl31, Ar31, kq31, Sz31, Nn31, Hs31, Gf31⟩ := id (V29)
  have hin31 : ¬ ((0 : Int32) < 0 ∨ cl31.slots.size ≤ ((0 : Int32)).toNatClampNeg) := inb_of Sz31 (own_inb own_R0)
  obtain ⟨T32, h32, X32, e32, W32, st32⟩ := stI X16 hx hZ e16 Ar31 (j := (0 : Int32)) hin31 (g := (mkF m 16 #[.val (.int ka), .val (.int kb), .val (.int kc), .val (.int kd), .val (.int fl), .val (.ref b1), .unset, .unset, .unset, .unset, .unset] [(.int ka), (.int (0 : Int32)), (.ref b16), (.ref b16)])) rfl rfl (hb hby at_16)
  have V33 : Arv Z h32 b16 k16 .int (3 : Int32) (own_l (own_u own_z (0 : Int32) ka)) (.int (0 : Int32)) := by rw [← own_l_set own_R0]; exact Arv.set Ar31 kq31 Sz31 Nn31 Hs31 Gf31 rfl W32 _ rfl (own_l_len own_R0)
  have f34 := f17.wr W32
  have f35 := f18.other W32 (Or.inl (Nat.ne_of_lt (Nat.lt_of_lt_of_le FSo.lt le_b16)))
  have f36 := f19.other W32 (Or.inl (Nat.ne_of_lt (Nat.lt_of_lt_of_le FSo.lt le_b16)))
  have f37 := f20.other W32 (Or.inl (Nat.ne_of_lt (Nat.lt_of_lt_of_le FSo.lt le_b16)))
  have f38 := f21.other W32 (Or.inl (Nat.ne_of_lt (Nat.lt_of_lt_of_le FSo.lt le_b16)))
  have f39 := f22.other W32 (Nat.ne_of_lt (Nat.lt_of_lt_of_le VK.lt le_b16))
  have f40 := f23.other W32 (Nat.ne_of_lt (Nat.lt_of_lt_of_le VI.lt le_b16))
  have f41 := f24.other W32 (Nat.ne_of_lt (Nat.lt_of_lt_of_le VP.lt le_b16))
  have Z42 := Nat.le_trans Z25 (Nat.le_of_eq W32.size.symm)
  have K43 := K26.wr W32 (Or.inr sz_b16)
  have N44 := Fr.snoc X32 N10 gn_b16
  have go45 : Goes p e below s₁ (entryFrame m #[(.int ka), (.int kb), (.int kc), (.int kd), (.int fl)] maxLocals) T32 (mkF m 17 #[.val (.int ka), .val (.int kb), .val (.int kc), .val (.int kd), .val (.int fl), .val (.ref b1), .unset, .unset, .unset, .unset, .unset] [(.ref b16)]) := fun t k => go30 t (st32 t k)
  have go46 : Goes p e below s₁ (entryFrame m #[(.int ka), (.int kb), (.int kc), (.int kd), (.int fl)] maxLocals) T32 (mkF m 20 #[.val (.int ka), .val (.int kb), .val (.int kc), .val (.int kd), .val (.int fl), .val (.ref b1), .unset, .unset, .unset, .unset, .unset] [(.int kb), (.int (1 : Int32)), (.ref b16), (.ref b16)]) := fun t k => by
    refine go45 t ?_
    refine XS.dup X32.here hx rfl (hb hby at_17) rfl rfl ?_
    refine XS.iconst X32.here hx rfl (hb hby at_18) ?_
    refine XS.iloadN X32.here hx rfl (hb hby at_19) rfl ?_
    exact k
  obtain ⟨cl47, Ar47, kq47, Sz47, Nn47, Hs47, Gf47⟩ := id (V33)
  have hin47 : ¬ ((1 : Int32) < 0 ∨ cl47.slots.size ≤ ((1 : Int32)).toNatClampNeg) := inb_of Sz47 (own_inb own_R1)
  obtain ⟨T48, h48, X48, e48, W48, st48⟩ := stI X32 hx hZ e32 Ar47 (j := (1 : Int32)) hin47 (g := (mkF m 20 #[.val (.int ka), .val (.int kb), .val (.int kc), .val (.int kd), .val (.int fl), .val (.ref b1), .unset, .unset, .unset, .unset, .unset] [(.int kb), (.int (1 : Int32)), (.ref b16), (.ref b16)])) rfl rfl (hb hby at_20)
  have V49 : Arv Z h48 b16 k16 .int (3 : Int32) (own_l (own_u (own_u own_z (0 : Int32) ka) (1 : Int32) kb)) (.int (0 : Int32)) := by rw [← own_l_set own_R1]; exact Arv.set Ar47 kq47 Sz47 Nn47 Hs47 Gf47 rfl W48 _ rfl (own_l_len own_R1)
  have f50 := f34.wr W48
  have f51 := f35.other W48 (Or.inl (Nat.ne_of_lt (Nat.lt_of_lt_of_le FSo.lt le_b16)))
  have f52 := f36.other W48 (Or.inl (Nat.ne_of_lt (Nat.lt_of_lt_of_le FSo.lt le_b16)))
  have f53 := f37.other W48 (Or.inl (Nat.ne_of_lt (Nat.lt_of_lt_of_le FSo.lt le_b16)))
  have f54 := f38.other W48 (Or.inl (Nat.ne_of_lt (Nat.lt_of_lt_of_le FSo.lt le_b16)))
  have f55 := f39.other W48 (Nat.ne_of_lt (Nat.lt_of_lt_of_le VK.lt le_b16))
  have f56 := f40.other W48 (Nat.ne_of_lt (Nat.lt_of_lt_of_le VI.lt le_b16))
  have f57 := f41.other W48 (Nat.ne_of_lt (Nat.lt_of_lt_of_le VP.lt le_b16))
  have Z58 := Nat.le_trans Z42 (Nat.le_of_eq W48.size.symm)
  have K59 := K43.wr W48 (Or.inr sz_b16)
  have N60 := Fr.snoc X48 N44 gn_b16
  have go61 : Goes p e below s₁ (entryFrame m #[(.int ka), (.int kb), (.int kc), (.int kd), (.int fl)] maxLocals) T48 (mkF m 21 #[.val (.int ka), .val (.int kb), .val (.int kc), .val (.int kd), .val (.int fl), .val (.ref b1), .unset, .unset, .unset, .unset, .unset] [(.ref b16)]) := fun t k => go46 t (st48 t k)
  have go62 : Goes p e below s₁ (entryFrame m #[(.int ka), (.int kb), (.int kc), (.int kd), (.int fl)] maxLocals) T48 (mkF m 24 #[.val (.int ka), .val (.int kb), .val (.int kc), .val (.int kd), .val (.int fl), .val (.ref b1), .unset, .unset, .unset, .unset, .unset] [(.int kc), (.int (2 : Int32)), (.ref b16), (.ref b16)]) := fun t k => by
    refine go61 t ?_
    refine XS.dup X48.here hx rfl (hb hby at_21) rfl rfl ?_
    refine XS.iconst X48.here hx rfl (hb hby at_22) ?_
    refine XS.iloadN X48.here hx rfl (hb hby at_23) rfl ?_
    exact k
  obtain ⟨cl63, Ar63, kq63, Sz63, Nn63, Hs63, Gf63⟩ := id (V49)
  have hin63 : ¬ ((2 : Int32) < 0 ∨ cl63.slots.size ≤ ((2 : Int32)).toNatClampNeg) := inb_of Sz63 (own_inb own_R2)
  obtain ⟨T64, h64, X64, e64, W64, st64⟩ := stI X48 hx hZ e48 Ar63 (j := (2 : Int32)) hin63 (g := (mkF m 24 #[.val (.int ka), .val (.int kb), .val (.int kc), .val (.int kd), .val (.int fl), .val (.ref b1), .unset, .unset, .unset, .unset, .unset] [(.int kc), (.int (2 : Int32)), (.ref b16), (.ref b16)])) rfl rfl (hb hby at_24)
  have V65 : Arv Z h64 b16 k16 .int (3 : Int32) (own_l (own_u (own_u (own_u own_z (0 : Int32) ka) (1 : Int32) kb) (2 : Int32) kc)) (.int (0 : Int32)) := by rw [← own_l_set own_R2]; exact Arv.set Ar63 kq63 Sz63 Nn63 Hs63 Gf63 rfl W64 _ rfl (own_l_len own_R2)
  have f66 := f50.wr W64
  have f67 := f51.other W64 (Or.inl (Nat.ne_of_lt (Nat.lt_of_lt_of_le FSo.lt le_b16)))
  have f68 := f52.other W64 (Or.inl (Nat.ne_of_lt (Nat.lt_of_lt_of_le FSo.lt le_b16)))
  have f69 := f53.other W64 (Or.inl (Nat.ne_of_lt (Nat.lt_of_lt_of_le FSo.lt le_b16)))
  have f70 := f54.other W64 (Or.inl (Nat.ne_of_lt (Nat.lt_of_lt_of_le FSo.lt le_b16)))
  have f71 := f55.other W64 (Nat.ne_of_lt (Nat.lt_of_lt_of_le VK.lt le_b16))
  have f72 := f56.other W64 (Nat.ne_of_lt (Nat.lt_of_lt_of_le VI.lt le_b16))
  have f73 := f57.other W64 (Nat.ne_of_lt (Nat.lt_of_lt_of_le VP.lt le_b16))
  have Z74 := Nat.le_trans Z58 (Nat.le_of_eq W64.size.symm)
  have K75 := K59.wr W64 (Or.inr sz_b16)
  have N76 := Fr.snoc X64 N60 gn_b16
  have go77 : Goes p e below s₁ (entryFrame m #[(.int ka), (.int kb), (.int kc), (.int kd), (.int fl)] maxLocals) T64 (mkF m 25 #[.val (.int ka), .val (.int kb), .val (.int kc), .val (.int kd), .val (.int fl), .val (.ref b1), .unset, .unset, .unset, .unset, .unset] [(.ref b16)]) := fun t k => go62 t (st64 t k)
  have go78 : Goes p e below s₁ (entryFrame m #[(.int ka), (.int kb), (.int kc), (.int kd), (.int fl)] maxLocals) T64 (mkF m 28 #[.val (.int ka), .val (.int kb), .val (.int kc), .val (.int kd), .val (.int fl), .val (.ref b1), .val (.ref b16), .unset, .unset, .unset, .unset] [(.int (3 : Int32))]) := fun t k => by
    refine go77 t ?_
    refine XS.astore X64.here hx rfl (hb hby at_25) rfl rfl (l' := #[.val (.int ka), .val (.int kb), .val (.int kc), .val (.int kd), .val (.int fl), .val (.ref b1), .val (.ref b16), .unset, .unset, .unset, .unset]) rfl ?_
    refine XS.iconst X64.here hx rfl (hb hby at_27) ?_
    exact k
  obtain ⟨T79, h79, k79, X79, e79, E79, A79, st79⟩ := newP X64 hx hZ (own_wd hw 21 rfl) e64 (g := (mkF m 28 #[.val (.int ka), .val (.int kb), .val (.int kc), .val (.int kd), .val (.int fl), .val (.ref b1), .val (.ref b16), .unset, .unset, .unset, .unset] [(.int (3 : Int32))])) rfl (hb hby at_28) rfl (by decide) (cap := 3) (by decide) (by decide) (by decide) (by decide)
  obtain ⟨b79, g_b_b79⟩ : ∃ z, z = h64.size := ⟨_, rfl⟩
  have le_b79 : h64.size ≤ b79 := Nat.le_of_eq g_b_b79.symm
  have gn_b79 : n0 ≤ b79 := Nat.le_trans Z74 le_b79
  have sz_b79 : h0.size ≤ b79 := Nat.le_trans K75.1 le_b79
  rw [← g_b_b79] at A79 st79
  have f80 := f66.ext E79
  have f81 := f67.ext E79
  have f82 := f68.ext E79
  have f83 := f69.ext E79
  have f84 := f70.ext E79
  have f85 := f71.ext E79
  have f86 := f72.ext E79
  have f87 := f73.ext E79
  have f88 := V65.ext E79
  have Z89 := Nat.le_trans Z74 E79.1
  have K90 := K75.ext E79
  have V91 : Arv Z h79 b79 k79 .boolean (3 : Int32) [(.int (0 : Int32)), (.int (0 : Int32)), (.int (0 : Int32))] (.int (0 : Int32)) := (Arv.new A79 (by decide)).pad (pad_rep [] (.int (0 : Int32)) 3)
  have go92 : Goes p e below s₁ (entryFrame m #[(.int ka), (.int kb), (.int kc), (.int kd), (.int fl)] maxLocals) T79 (mkF m 30 #[.val (.int ka), .val (.int kb), .val (.int kc), .val (.int kd), .val (.int fl), .val (.ref b1), .val (.ref b16), .unset, .unset, .unset, .unset] [(.ref b79)]) := fun t k => go78 t (st79 t k)
  have V93 : Arv Z h79 b79 k79 .boolean (3 : Int32) (own_l own_z) (.int (0 : Int32)) := V91
  have go94 : Goes p e below s₁ (entryFrame m #[(.int ka), (.int kb), (.int kc), (.int kd), (.int fl)] maxLocals) T79 (mkF m 43 #[.val (.int ka), .val (.int kb), .val (.int kc), .val (.int kd), .val (.int fl), .val (.ref b1), .val (.ref b16), .val (.ref b79), .val (.int ((1 : Int32) + ((Jvm.Free.XT.ushr fl (6 : Int32)) % (3 : Int32)))), .unset, .unset] []) := fun t k => by
    refine go92 t ?_
    refine XS.astore X79.here hx rfl (hb hby at_30) rfl rfl (l' := #[.val (.int ka), .val (.int kb), .val (.int kc), .val (.int kd), .val (.int fl), .val (.ref b1), .val (.ref b16), .val (.ref b79), .unset, .unset, .unset]) rfl ?_
    refine XS.iconst X79.here hx rfl (hb hby at_32) ?_
    refine XS.iload X79.here hx rfl (hb hby at_33) rfl ?_
    refine XS.bipush X79.here hx rfl (hb hby at_35) ?_
    refine XS.iushr X79.here hx rfl (hb hby at_37) rfl ?_
    refine XS.iconst X79.here hx rfl (hb hby at_38) ?_
    show Steps p.tables e below (T79.setTop (mkF m 39 #[.val (.int ka), .val (.int kb), .val (.int kc), .val (.int kd), .val (.int fl), .val (.ref b1), .val (.ref b16), .val (.ref b79), .unset, .unset, .unset] [(.int (3 : Int32)), (.int (Jvm.Free.XT.ushr fl (6 : Int32))), (.int (1 : Int32))])) _
    refine iremM X79 hx rfl (hb hby at_39) rfl (by decide) ?_
    refine XS.iadd X79.here hx rfl (hb hby at_40) rfl ?_
    refine XS.istore X79.here hx rfl (hb hby at_41) rfl (l' := #[.val (.int ka), .val (.int kb), .val (.int kc), .val (.int kd), .val (.int fl), .val (.ref b1), .val (.ref b16), .val (.ref b79), .val (.int ((1 : Int32) + ((Jvm.Free.XT.ushr fl (6 : Int32)) % (3 : Int32)))), .unset, .unset]) rfl ?_
    exact k
  obtain ⟨T95, h95, lo95, kva, lva, sga, nza, X95, e95, Z95, N95, fj95_0, fj95_1, fj95_2, fj95_3, fj95_4, fj95_5, fj95_6, fj95_7, fj95_8, fj95_9, hj95, go95j⟩ : ∃ (T' : State) (h' : Heap) (lo' : List Loc) (kva : Int32 → Int32) (lva : Int32 → Int32) (sga : own_P) (nza : Int32), Stand p l e room_1 s m #[(.int ka), (.int kb), (.int kc), (.int kd), (.int fl)] below meth c T' lo' 6 19 ∧ T'.heap = h' ∧ n0 ≤ h'.size ∧ Fr n0 lo' ∧ (Exa Z h' b1 "com/example/covermesh/covermesh/algorithms/IndexedMinHeap") ∧ (Fld Z h' b1 "com/example/covermesh/covermesh/algorithms/IndexedMinHeap" "keys" "[D" (.ref aK)) ∧ (Fld Z h' b1 "com/example/covermesh/covermesh/algorithms/IndexedMinHeap" "items" "[I" (.ref aI)) ∧ (Fld Z h' b1 "com/example/covermesh/covermesh/algorithms/IndexedMinHeap" "positions" "[I" (.ref aP)) ∧ (Fld Z h' b1 "com/example/covermesh/covermesh/algorithms/IndexedMinHeap" "size" "I" (.int nza)) ∧ (Arv Z h' aK kk .double 3 (own_d (own_k kva)) (.double (0 : UInt64))) ∧ (Arv Z h' aI ki .int 3 (own_l sga.1) (.int (0 : Int32))) ∧ (Arv Z h' aP kp .int 3 (own_l sga.2) (.int (0 : Int32))) ∧ (Arv Z h' b16 k16 .int (3 : Int32) (own_l (own_u (own_u (own_u own_z (0 : Int32) ka) (1 : Int32) kb) (2 : Int32) kc)) (.int (0 : Int32))) ∧ (Arv Z h' b79 k79 .boolean (3 : Int32) (own_l lva) (.int (0 : Int32))) ∧ (own_I kva (own_u (own_u (own_u own_z (0 : Int32) ka) (1 : Int32) kb) (2 : Int32) kc) lva sga nza ∧ ¬ nza = 0 ∧ lva (1 : Int32) = 0 ∧ lva (2 : Int32) = 0) ∧ Goes p e below s₁ (entryFrame m #[(.int ka), (.int kb), (.int kc), (.int kd), (.int fl)] maxLocals) T' (mkF m 56 #[.val (.int ka), .val (.int kb), .val (.int kc), .val (.int kd), .val (.int fl), .val (.ref b1), .val (.ref b16), .val (.ref b79), .val (.int ((1 : Int32) + ((Jvm.Free.XT.ushr fl (6 : Int32)) % (3 : Int32)))), .unset, .unset] []) := by
    have go96 : Goes p e below s₁ (entryFrame m #[(.int ka), (.int kb), (.int kc), (.int kd), (.int fl)] maxLocals) T79 (mkF m 48 #[.val (.int ka), .val (.int kb), .val (.int kc), .val (.int kd), .val (.int fl), .val (.ref b1), .val (.ref b16), .val (.ref b79), .val (.int ((1 : Int32) + ((Jvm.Free.XT.ushr fl (6 : Int32)) % (3 : Int32)))), .unset, .unset] [(.double (FP.i2d ka)), (.int (0 : Int32)), (.ref b1)]) := fun t k => by
      refine go94 t ?_
      refine XS.aload X79.here hx rfl (hb hby at_43) rfl rfl ?_
      refine XS.iconst X79.here hx rfl (hb hby at_45) ?_
      refine XS.iloadN X79.here hx rfl (hb hby at_46) rfl ?_
      refine XS.i2dS X79.here hx rfl (hb hby at_47) rfl rfl ?_
      exact k
    obtain ⟨cq97, kq97, q97a, q97b, q97c⟩ := isOf hZ e79 f80
    obtain ⟨_, _, ⟨T97, L97, k97, n97⟩, -, X97, ⟨Lc97, hQ97, l97, y97, z97⟩, st97⟩ := X79.virtualBack hx (y := mN_2) (z := mN_2) hown (mvT hZ (own_wd hw 22 rfl)) (mvT hZ (own_wd hw 23 rfl)) (notFace_of_selects (args := #[]) (mvT hZ (own_wd hw 25 rfl))) (mvT hZ (own_wd hw 25 rfl)) (mvT hZ (own_wd hw 24 rfl)) (by decide) (backOf (W := 0) (rmPut l Z a0 hw [] b1 (0 : Int32) (FP.i2d ka) aK aI aP kk ki kp (own_k own_z) own_s0 (0 : Int32) (own_L own_z) h79 n0 Z89 f80 f81 f82 f83 f84 f85 f86 f87 nKI nKP nIP nAK nAI nAP gA gK gI gP own_R0 (own_I_new (own_u (own_u (own_u own_z (0 : Int32) ka) (1 : Int32) kb) (2 : Int32) kc)).1 (own_L0 own_z0) ((own_I_new (own_u (own_u (own_u own_z (0 : Int32) ka) (1 : Int32) kb) (2 : Int32) kc)).r0 own_R0 own_z0)) hZ (own_wd hw 26 rfl) (own_wd hw 2 rfl) (by decide) (by decide)) q97a q97c (g := (mkF m 48 #[.val (.int ka), .val (.int kb), .val (.int kc), .val (.int kd), .val (.int fl), .val (.ref b1), .val (.ref b16), .val (.ref b79), .val (.int ((1 : Int32) + ((Jvm.Free.XT.ushr fl (6 : Int32)) % (3 : Int32)))), .unset, .unset] [(.double (FP.i2d ka)), (.int (0 : Int32)), (.ref b1)])) rfl (by rw [hml]; rfl) (Steps.refl _) (argsL := [(.int (0 : Int32)), (.double (FP.i2d ka))]) (rest := []) (lenOf pd_4 rfl) rfl (by show 2 * 0 + _ ≤ _; exact Nat.le_of_eq rfl) (hb hby at_48) (fun _ _ => ⟨rfl, e79, (by decide : 6 + 0 ≤ room_1.cells), (by decide : 19 + 0 ≤ room_1.slots)⟩)
    dsimp only [Pt.U, Pt.locs, Pt.cells, Pt.slots] at X97 l97 y97 z97 st97 hQ97
    subst l97 y97 z97
    obtain ⟨rfl, N97q, Kq97, E1q97, FKq97, FIq97, FPq97, FSq97, VKq97, VIq97, VPq97⟩ := hQ97
    have N97 := Fr.app N76 N97q
    rw [own_k_u] at VKq97 VIq97 VPq97
    have f98 := f80.keep Kq97
    have f99 := f88.keep Kq97 (ninS (Ne.symm (Nat.ne_of_lt (Nat.lt_of_lt_of_le FSo.lt le_b16))) (ninS (Ne.symm (Nat.ne_of_lt (Nat.lt_of_lt_of_le VK.lt le_b16))) (ninS (Ne.symm (Nat.ne_of_lt (Nat.lt_of_lt_of_le VI.lt le_b16))) (ninS (Ne.symm (Nat.ne_of_lt (Nat.lt_of_lt_of_le VP.lt le_b16))) nin0))))
    have f100 := V93.keep Kq97 (ninS (Ne.symm (Nat.ne_of_lt (Nat.lt_of_lt_of_le f70.lt le_b79))) (ninS (Ne.symm (Nat.ne_of_lt (Nat.lt_of_lt_of_le f71.lt le_b79))) (ninS (Ne.symm (Nat.ne_of_lt (Nat.lt_of_lt_of_le f72.lt le_b79))) (ninS (Ne.symm (Nat.ne_of_lt (Nat.lt_of_lt_of_le f73.lt le_b79))) nin0))))
    have Z101 := Nat.le_trans Z89 Kq97.1
    have K102 := K90.trans Kq97 (allS (Or.inr sz_b1) (allS (Or.inr sz_aK) (allS (Or.inr sz_aI) (allS (Or.inr sz_aP) all0))))
    have go103 : Goes p e below s₁ (entryFrame m #[(.int ka), (.int kb), (.int kc), (.int kd), (.int fl)] maxLocals) T97 (mkF m 51 #[.val (.int ka), .val (.int kb), .val (.int kc), .val (.int kd), .val (.int fl), .val (.ref b1), .val (.ref b16), .val (.ref b79), .val (.int ((1 : Int32) + ((Jvm.Free.XT.ushr fl (6 : Int32)) % (3 : Int32)))), .unset, .unset] []) := fun t k => go96 t (st97.trans k)
    have go104 : Goes p e below s₁ (entryFrame m #[(.int ka), (.int kb), (.int kc), (.int kd), (.int fl)] maxLocals) T97 (mkF m 55 #[.val (.int ka), .val (.int kb), .val (.int kc), .val (.int kd), .val (.int fl), .val (.ref b1), .val (.ref b16), .val (.ref b79), .val (.int ((1 : Int32) + ((Jvm.Free.XT.ushr fl (6 : Int32)) % (3 : Int32)))), .unset, .unset] [(.int (1 : Int32)), (.int (0 : Int32)), (.ref b79)]) := fun t k => by
      refine go103 t ?_
      refine XS.aload X97.here hx rfl (hb hby at_51) rfl rfl ?_
      refine XS.iconst X97.here hx rfl (hb hby at_53) ?_
      refine XS.iconst X97.here hx rfl (hb hby at_54) ?_
      exact k
    obtain ⟨cl105, Ar105, kq105, Sz105, Nn105, Hs105, Gf105⟩ := id (f100)
    have hin105 : ¬ ((0 : Int32) < 0 ∨ cl105.slots.size ≤ ((0 : Int32)).toNatClampNeg) := inb_of Sz105 (own_inb own_R0)
    obtain ⟨T106, h106, X106, e106, W106, st106⟩ := stZ X97 hx hZ rfl Ar105 (j := (0 : Int32)) hin105 (g := (mkF m 55 #[.val (.int ka), .val (.int kb), .val (.int kc), .val (.int kd), .val (.int fl), .val (.ref b1), .val (.ref b16), .val (.ref b79), .val (.int ((1 : Int32) + ((Jvm.Free.XT.ushr fl (6 : Int32)) % (3 : Int32)))), .unset, .unset] [(.int (1 : Int32)), (.int (0 : Int32)), (.ref b79)])) rfl rfl (hb hby at_55)
    have V107 : Arv Z h106 b79 k79 .boolean (3 : Int32) (own_l (own_u own_z (0 : Int32) (1 : Int32))) (.int (0 : Int32)) := by rw [← own_l_set own_R0]; exact Arv.set Ar105 kq105 Sz105 Nn105 Hs105 Gf105 rfl W106 _ rfl (own_l_len own_R0)
    have f108 := f98.wr W106
    have f109 := f99.other W106 (Nat.ne_of_lt (Nat.lt_of_lt_of_le V65.lt le_b79))
    have f110 := FKq97.other W106 (Or.inl (Nat.ne_of_lt (Nat.lt_of_lt_of_le f70.lt le_b79)))
    have f111 := FIq97.other W106 (Or.inl (Nat.ne_of_lt (Nat.lt_of_lt_of_le f70.lt le_b79)))
    have f112 := FPq97.other W106 (Or.inl (Nat.ne_of_lt (Nat.lt_of_lt_of_le f70.lt le_b79)))
    have f113 := FSq97.other W106 (Or.inl (Nat.ne_of_lt (Nat.lt_of_lt_of_le f70.lt le_b79)))
    have f114 := VKq97.other W106 (Nat.ne_of_lt (Nat.lt_of_lt_of_le f71.lt le_b79))
    have f115 := VIq97.other W106 (Nat.ne_of_lt (Nat.lt_of_lt_of_le f72.lt le_b79))
    have f116 := VPq97.other W106 (Nat.ne_of_lt (Nat.lt_of_lt_of_le f73.lt le_b79))
    have Z117 := Nat.le_trans Z101 (Nat.le_of_eq W106.size.symm)
    have K118 := K102.wr W106 (Or.inr sz_b79)
    have N119 := Fr.snoc X106 N97 gn_b79
    have go120 : Goes p e below s₁ (entryFrame m #[(.int ka), (.int kb), (.int kc), (.int kd), (.int fl)] maxLocals) T106 (mkF m 56 #[.val (.int ka), .val (.int kb), .val (.int kc), .val (.int kd), .val (.int fl), .val (.ref b1), .val (.ref b16), .val (.ref b79), .val (.int ((1 : Int32) + ((Jvm.Free.XT.ushr fl (6 : Int32)) % (3 : Int32)))), .unset, .unset] []) := fun t k => go104 t (st106 t k)
    exact ⟨T106, h106, (((((L10 ++ [⟨b16, ((0 : Int32)).toNatClampNeg⟩]) ++ [⟨b16, ((1 : Int32)).toNatClampNeg⟩]) ++ [⟨b16, ((2 : Int32)).toNatClampNeg⟩]) ++ Lc97) ++ [⟨b79, ((0 : Int32)).toNatClampNeg⟩]), (own_u own_z (0 : Int32) ka), (own_u own_z (0 : Int32) (1 : Int32)), (own_putA (own_k (own_u own_z (0 : Int32) ka)) own_s0 (0 : Int32) (0 : Int32)), ((0 : Int32) + 1), X106, e106, Z117, N119, f108, f110, f111, f112, f113, f114, f115, f116, f109, V107, ⟨((own_I_new (own_u (own_u (own_u own_z (0 : Int32) ka) (1 : Int32) kb) (2 : Int32) kc)).putA own_R0 own_z0 (by simp [own_u, own_z]) (fun _ _ _ => rfl)), (by decide), own_un (by decide), own_un (by decide)⟩, go120⟩
  have go121 : Goes p e below s₁ (entryFrame m #[(.int ka), (.int kb), (.int kc), (.int kd), (.int fl)] maxLocals) T95 (mkF m 59 #[.val (.int ka), .val (.int kb), .val (.int kc), .val (.int kd), .val (.int fl), .val (.ref b1), .val (.ref b16), .val (.ref b79), .val (.int ((1 : Int32) + ((Jvm.Free.XT.ushr fl (6 : Int32)) % (3 : Int32)))), .unset, .unset] [(.int (2 : Int32)), (.int ((1 : Int32) + ((Jvm.Free.XT.ushr fl (6 : Int32)) % (3 : Int32))))]) := fun t k => by
    refine go95j t ?_
    refine XS.iload X95.here hx rfl (hb hby at_56) rfl ?_
    refine XS.iconst X95.here hx rfl (hb hby at_58) ?_
    exact k
  obtain ⟨T122, h122, lo122, kvb, lvb, sgb, nzb, X122, e122, Z122, N122, fj122_0, fj122_1, fj122_2, fj122_3, fj122_4, fj122_5, fj122_6, fj122_7, fj122_8, fj122_9, hj122, go122j⟩ : ∃ (T' : State) (h' : Heap) (lo' : List Loc) (kvb : Int32 → Int32) (lvb : Int32 → Int32) (sgb : own_P) (nzb : Int32), Stand p l e room_1 s m #[(.int ka), (.int kb), (.int kc), (.int kd), (.int fl)] below meth c T' lo' 6 19 ∧ T'.heap = h' ∧ n0 ≤ h'.size ∧ Fr n0 lo' ∧ (Exa Z h' b1 "com/example/covermesh/covermesh/algorithms/IndexedMinHeap") ∧ (Fld Z h' b1 "com/example/covermesh/covermesh/algorithms/IndexedMinHeap" "keys" "[D" (.ref aK)) ∧ (Fld Z h' b1 "com/example/covermesh/covermesh/algorithms/IndexedMinHeap" "items" "[I" (.ref aI)) ∧ (Fld Z h' b1 "com/example/covermesh/covermesh/algorithms/IndexedMinHeap" "positions" "[I" (.ref aP)) ∧ (Fld Z h' b1 "com/example/covermesh/covermesh/algorithms/IndexedMinHeap" "size" "I" (.int nzb)) ∧ (Arv Z h' aK kk .double 3 (own_d (own_k kvb)) (.double (0 : UInt64))) ∧ (Arv Z h' aI ki .int 3 (own_l sgb.1) (.int (0 : Int32))) ∧ (Arv Z h' aP kp .int 3 (own_l sgb.2) (.int (0 : Int32))) ∧ (Arv Z h' b16 k16 .int (3 : Int32) (own_l (own_u (own_u (own_u own_z (0 : Int32) ka) (1 : Int32) kb) (2 : Int32) kc)) (.int (0 : Int32))) ∧ (Arv Z h' b79 k79 .boolean (3 : Int32) (own_l lvb) (.int (0 : Int32))) ∧ (own_I kvb (own_u (own_u (own_u own_z (0 : Int32) ka) (1 : Int32) kb) (2 : Int32) kc) lvb sgb nzb ∧ ¬ nzb = 0 ∧ lvb (2 : Int32) = 0) ∧ Goes p e below s₁ (entryFrame m #[(.int ka), (.int kb), (.int kc), (.int kd), (.int fl)] maxLocals) T' (mkF m 75 #[.val (.int ka), .val (.int kb), .val (.int kc), .val (.int kd), .val (.int fl), .val (.ref b1), .val (.ref b16), .val (.ref b79), .val (.int ((1 : Int32) + ((Jvm.Free.XT.ushr fl (6 : Int32)) % (3 : Int32)))), .unset, .unset] []) := by
    by_cases hc123 : ((1 : Int32) + ((Jvm.Free.XT.ushr fl (6 : Int32)) % (3 : Int32))) < (2 : Int32)
    · have go124 : Goes p e below s₁ (entryFrame m #[(.int ka), (.int kb), (.int kc), (.int kd), (.int fl)] maxLocals) T95 (mkF m 75 #[.val (.int ka), .val (.int kb), .val (.int kc), .val (.int kd), .val (.int fl), .val (.ref b1), .val (.ref b16), .val (.ref b79), .val (.int ((1 : Int32) + ((Jvm.Free.XT.ushr fl (6 : Int32)) % (3 : Int32)))), .unset, .unset] []) := fun t k => by
        refine go121 t ?_
        refine XS.icmpYes X95.here hx rfl (pc0 := 59) (pc' := 75) rfl (hb hby at_59) rfl (Jvm.Free.XT.ii_lt_t hc123) (by decide) (by decide) ?_
        exact k
      exact ⟨T95, h95, lo95, kva, lva, sga, nza, X95, e95, Z95, N95, fj95_0, fj95_1, fj95_2, fj95_3, fj95_4, fj95_5, fj95_6, fj95_7, fj95_8, fj95_9, ⟨hj95.1, hj95.2.1, hj95.2.2.2⟩, go124⟩
    · have go125 : Goes p e below s₁ (entryFrame m #[(.int ka), (.int kb), (.int kc), (.int kd), (.int fl)] maxLocals) T95 (mkF m 67 #[.val (.int ka), .val (.int kb), .val (.int kc), .val (.int kd), .val (.int fl), .val (.ref b1), .val (.ref b16), .val (.ref b79), .val (.int ((1 : Int32) + ((Jvm.Free.XT.ushr fl (6 : Int32)) % (3 : Int32)))), .unset, .unset] [(.double (FP.i2d kb)), (.int (1 : Int32)), (.ref b1)]) := fun t k => by
        refine go121 t ?_
        refine XS.icmpNo X95.here hx rfl (hb hby at_59) rfl (Jvm.Free.XT.ii_lt_f hc123) ?_
        refine XS.aload X95.here hx rfl (hb hby at_62) rfl rfl ?_
        refine XS.iconst X95.here hx rfl (hb hby at_64) ?_
        refine XS.iloadN X95.here hx rfl (hb hby at_65) rfl ?_
        refine XS.i2dS X95.here hx rfl (hb hby at_66) rfl rfl ?_
        exact k
      obtain ⟨cq126, kq126, q126a, q126b, q126c⟩ := isOf hZ e95 fj95_0
      obtain ⟨_, _, ⟨T126, L126, k126, n126⟩, -, X126, ⟨Lc126, hQ126, l126, y126, z126⟩, st126⟩ := X95.virtualBack hx (y := mN_2) (z := mN_2) hown (mvT hZ (own_wd hw 22 rfl)) (mvT hZ (own_wd hw 23 rfl)) (notFace_of_selects (args := #[]) (mvT hZ (own_wd hw 25 rfl))) (mvT hZ (own_wd hw 25 rfl)) (mvT hZ (own_wd hw 24 rfl)) (by decide) (backOf (W := 0) (rmPut l Z a0 hw [] b1 (1 : Int32) (FP.i2d kb) aK aI aP kk ki kp (own_k kva) sga nza (own_L lva) h95 n0 Z95 fj95_0 fj95_1 fj95_2 fj95_3 fj95_4 fj95_5 fj95_6 fj95_7 nKI nKP nIP nAK nAI nAP gA gK gI gP own_R1 hj95.1.1 (own_L0 hj95.2.2.1) (hj95.1.r0 own_R1 hj95.2.2.1)) hZ (own_wd hw 26 rfl) (own_wd hw 2 rfl) (by decide) (by decide)) q126a q126c (g := (mkF m 67 #[.val (.int ka), .val (.int kb), .val (.int kc), .val (.int kd), .val (.int fl), .val (.ref b1), .val (.ref b16), .val (.ref b79), .val (.int ((1 : Int32) + ((Jvm.Free.XT.ushr fl (6 : Int32)) % (3 : Int32)))), .unset, .unset] [(.double (FP.i2d kb)), (.int (1 : Int32)), (.ref b1)])) rfl (by rw [hml]; rfl) (Steps.refl _) (argsL := [(.int (1 : Int32)), (.double (FP.i2d kb))]) (rest := []) (lenOf pd_4 rfl) rfl (by show 2 * 0 + _ ≤ _; exact Nat.le_of_eq rfl) (hb hby at_67) (fun _ _ => ⟨rfl, e95, (by decide : 6 + 0 ≤ room_1.cells), (by decide : 19 + 0 ≤ room_1.slots)⟩)
      dsimp only [Pt.U, Pt.locs, Pt.cells, Pt.slots] at X126 l126 y126 z126 st126 hQ126
      subst l126 y126 z126
      obtain ⟨rfl, N126q, Kq126, E1q126, FKq126, FIq126, FPq126, FSq126, VKq126, VIq126, VPq126⟩ := hQ126
      have N126 := Fr.app N95 N126q
      rw [own_k_u] at VKq126 VIq126 VPq126
      have f127 := fj95_0.keep Kq126
      have f128 := fj95_8.keep Kq126 (ninS (Ne.symm (Nat.ne_of_lt (Nat.lt_of_lt_of_le FSo.lt le_b16))) (ninS (Ne.symm (Nat.ne_of_lt (Nat.lt_of_lt_of_le VK.lt le_b16))) (ninS (Ne.symm (Nat.ne_of_lt (Nat.lt_of_lt_of_le VI.lt le_b16))) (ninS (Ne.symm (Nat.ne_of_lt (Nat.lt_of_lt_of_le VP.lt le_b16))) nin0))))
      have f129 := fj95_9.keep Kq126 (ninS (Ne.symm (Nat.ne_of_lt (Nat.lt_of_lt_of_le f70.lt le_b79))) (ninS (Ne.symm (Nat.ne_of_lt (Nat.lt_of_lt_of_le f71.lt le_b79))) (ninS (Ne.symm (Nat.ne_of_lt (Nat.lt_of_lt_of_le f72.lt le_b79))) (ninS (Ne.symm (Nat.ne_of_lt (Nat.lt_of_lt_of_le f73.lt le_b79))) nin0))))
      have Z130 := Nat.le_trans Z95 Kq126.1
      have go131 : Goes p e below s₁ (entryFrame m #[(.int ka), (.int kb), (.int kc), (.int kd), (.int fl)] maxLocals) T126 (mkF m 70 #[.val (.int ka), .val (.int kb), .val (.int kc), .val (.int kd), .val (.int fl), .val (.ref b1), .val (.ref b16), .val (.ref b79), .val (.int ((1 : Int32) + ((Jvm.Free.XT.ushr fl (6 : Int32)) % (3 : Int32)))), .unset, .unset] []) := fun t k => go125 t (st126.trans k)
      have go132 : Goes p e below s₁ (entryFrame m #[(.int ka), (.int kb), (.int kc), (.int kd), (.int fl)] maxLocals) T126 (mkF m 74 #[.val (.int ka), .val (.int kb), .val (.int kc), .val (.int kd), .val (.int fl), .val (.ref b1), .val (.ref b16), .val (.ref b79), .val (.int ((1 : Int32) + ((Jvm.Free.XT.ushr fl (6 : Int32)) % (3 : Int32)))), .unset, .unset] [(.int (1 : Int32)), (.int (1 : Int32)), (.ref b79)]) := fun t k => by
        refine go131 t ?_
        refine XS.aload X126.here hx rfl (hb hby at_70) rfl rfl ?_
        refine XS.iconst X126.here hx rfl (hb hby at_72) ?_
        refine XS.iconst X126.here hx rfl (hb hby at_73) ?_
        exact k
      obtain ⟨cl133, Ar133, kq133, Sz133, Nn133, Hs133, Gf133⟩ := id (f129)
      have hin133 : ¬ ((1 : Int32) < 0 ∨ cl133.slots.size ≤ ((1 : Int32)).toNatClampNeg) := inb_of Sz133 (own_inb own_R1)
      obtain ⟨T134, h134, X134, e134, W134, st134⟩ := stZ X126 hx hZ rfl Ar133 (j := (1 : Int32)) hin133 (g := (mkF m 74 #[.val (.int ka), .val (.int kb), .val (.int kc), .val (.int kd), .val (.int fl), .val (.ref b1), .val (.ref b16), .val (.ref b79), .val (.int ((1 : Int32) + ((Jvm.Free.XT.ushr fl (6 : Int32)) % (3 : Int32)))), .unset, .unset] [(.int (1 : Int32)), (.int (1 : Int32)), (.ref b79)])) rfl rfl (hb hby at_74)
      have V135 : Arv Z h134 b79 k79 .boolean (3 : Int32) (own_l (own_u lva (1 : Int32) (1 : Int32))) (.int (0 : Int32)) := by rw [← own_l_set own_R1]; exact Arv.set Ar133 kq133 Sz133 Nn133 Hs133 Gf133 rfl W134 _ rfl (own_l_len own_R1)
      have f136 := f127.wr W134
      have f137 := f128.other W134 (Nat.ne_of_lt (Nat.lt_of_lt_of_le V65.lt le_b79))
      have f138 := FKq126.other W134 (Or.inl (Nat.ne_of_lt (Nat.lt_of_lt_of_le f70.lt le_b79)))
      have f139 := FIq126.other W134 (Or.inl (Nat.ne_of_lt (Nat.lt_of_lt_of_le f70.lt le_b79)))
      have f140 := FPq126.other W134 (Or.inl (Nat.ne_of_lt (Nat.lt_of_lt_of_le f70.lt le_b79)))
      have f141 := FSq126.other W134 (Or.inl (Nat.ne_of_lt (Nat.lt_of_lt_of_le f70.lt le_b79)))
      have f142 := VKq126.other W134 (Nat.ne_of_lt (Nat.lt_of_lt_of_le f71.lt le_b79))
      have f143 := VIq126.other W134 (Nat.ne_of_lt (Nat.lt_of_lt_of_le f72.lt le_b79))
      have f144 := VPq126.other W134 (Nat.ne_of_lt (Nat.lt_of_lt_of_le f73.lt le_b79))
      have Z145 := Nat.le_trans Z130 (Nat.le_of_eq W134.size.symm)
      have N146 := Fr.snoc X134 N126 gn_b79
      have go147 : Goes p e below s₁ (entryFrame m #[(.int ka), (.int kb), (.int kc), (.int kd), (.int fl)] maxLocals) T134 (mkF m 75 #[.val (.int ka), .val (.int kb), .val (.int kc), .val (.int kd), .val (.int fl), .val (.ref b1), .val (.ref b16), .val (.ref b79), .val (.int ((1 : Int32) + ((Jvm.Free.XT.ushr fl (6 : Int32)) % (3 : Int32)))), .unset, .unset] []) := fun t k => go132 t (st134 t k)
      exact ⟨T134, h134, ((lo95 ++ Lc126) ++ [⟨b79, ((1 : Int32)).toNatClampNeg⟩]), (own_u kva (1 : Int32) kb), (own_u lva (1 : Int32) (1 : Int32)), (own_putA (own_k (own_u kva (1 : Int32) kb)) sga (1 : Int32) nza), (nza + 1), X134, e134, Z145, N146, f136, f138, f139, f140, f141, f142, f143, f144, f137, V135, ⟨(hj95.1.putA own_R1 hj95.2.2.1 (by simp [own_u, own_z]) (fun _ _ _ => rfl)), (by rcases (hj95.1.r0 own_R1 hj95.2.2.1) with q | q | q <;> rw [q] <;> decide), (own_un (by decide)).trans hj95.2.2.2⟩, go147⟩
  have go148 : Goes p e below s₁ (entryFrame m #[(.int ka), (.int kb), (.int kc), (.int kd), (.int fl)] maxLocals) T122 (mkF m 78 #[.val (.int ka), .val (.int kb), .val (.int kc), .val (.int kd), .val (.int fl), .val (.ref b1), .val (.ref b16), .val (.ref b79), .val (.int ((1 : Int32) + ((Jvm.Free.XT.ushr fl (6 : Int32)) % (3 : Int32)))), .unset, .unset] [(.int (3 : Int32)), (.int ((1 : Int32) + ((Jvm.Free.XT.ushr fl (6 : Int32)) % (3 : Int32))))]) := fun t k => by
    refine go122j t ?_
    refine XS.iload X122.here hx rfl (hb hby at_75) rfl ?_
    refine XS.iconst X122.here hx rfl (hb hby at_77) ?_
    exact k
  obtain ⟨T149, h149, lo149, kvc, lvc, sgc, nzc, X149, e149, Z149, N149, fj149_0, fj149_1, fj149_2, fj149_3, fj149_4, fj149_5, fj149_6, fj149_7, fj149_8, fj149_9, hj149, go149j⟩ : ∃ (T' : State) (h' : Heap) (lo' : List Loc) (kvc : Int32 → Int32) (lvc : Int32 → Int32) (sgc : own_P) (nzc : Int32), Stand p l e room_1 s m #[(.int ka), (.int kb), (.int kc), (.int kd), (.int fl)] below meth c T' lo' 6 19 ∧ T'.heap = h' ∧ n0 ≤ h'.size ∧ Fr n0 lo' ∧ (Exa Z h' b1 "com/example/covermesh/covermesh/algorithms/IndexedMinHeap") ∧ (Fld Z h' b1 "com/example/covermesh/covermesh/algorithms/IndexedMinHeap" "keys" "[D" (.ref aK)) ∧ (Fld Z h' b1 "com/example/covermesh/covermesh/algorithms/IndexedMinHeap" "items" "[I" (.ref aI)) ∧ (Fld Z h' b1 "com/example/covermesh/covermesh/algorithms/IndexedMinHeap" "positions" "[I" (.ref aP)) ∧ (Fld Z h' b1 "com/example/covermesh/covermesh/algorithms/IndexedMinHeap" "size" "I" (.int nzc)) ∧ (Arv Z h' aK kk .double 3 (own_d (own_k kvc)) (.double (0 : UInt64))) ∧ (Arv Z h' aI ki .int 3 (own_l sgc.1) (.int (0 : Int32))) ∧ (Arv Z h' aP kp .int 3 (own_l sgc.2) (.int (0 : Int32))) ∧ (Arv Z h' b16 k16 .int (3 : Int32) (own_l (own_u (own_u (own_u own_z (0 : Int32) ka) (1 : Int32) kb) (2 : Int32) kc)) (.int (0 : Int32))) ∧ (Arv Z h' b79 k79 .boolean (3 : Int32) (own_l lvc) (.int (0 : Int32))) ∧ (own_I kvc (own_u (own_u (own_u own_z (0 : Int32) ka) (1 : Int32) kb) (2 : Int32) kc) lvc sgc nzc ∧ ¬ nzc = 0) ∧ Goes p e below s₁ (entryFrame m #[(.int ka), (.int kb), (.int kc), (.int kd), (.int fl)] maxLocals) T' (mkF m 94 #[.val (.int ka), .val (.int kb), .val (.int kc), .val (.int kd), .val (.int fl), .val (.ref b1), .val (.ref b16), .val (.ref b79), .val (.int ((1 : Int32) + ((Jvm.Free.XT.ushr fl (6 : Int32)) % (3 : Int32)))), .unset, .unset] []) := by
    by_cases hc150 : ((1 : Int32) + ((Jvm.Free.XT.ushr fl (6 : Int32)) % (3 : Int32))) < (3 : Int32)
    · have go151 : Goes p e below s₁ (entryFrame m #[(.int ka), (.int kb), (.int kc), (.int kd), (.int fl)] maxLocals) T122 (mkF m 94 #[.val (.int ka), .val (.int kb), .val (.int kc), .val (.int kd), .val (.int fl), .val (.ref b1), .val (.ref b16), .val (.ref b79), .val (.int ((1 : Int32) + ((Jvm.Free.XT.ushr fl (6 : Int32)) % (3 : Int32)))), .unset, .unset] []) := fun t k => by
        refine go148 t ?_
        refine XS.icmpYes X122.here hx rfl (pc0 := 78) (pc' := 94) rfl (hb hby at_78) rfl (Jvm.Free.XT.ii_lt_t hc150) (by decide) (by decide) ?_
        exact k
      exact ⟨T122, h122, lo122, kvb, lvb, sgb, nzb, X122, e122, Z122, N122, fj122_0, fj122_1, fj122_2, fj122_3, fj122_4, fj122_5, fj122_6, fj122_7, fj122_8, fj122_9, ⟨hj122.1, hj122.2.1⟩, go151⟩
    · have go152 : Goes p e below s₁ (entryFrame m #[(.int ka), (.int kb), (.int kc), (.int kd), (.int fl)] maxLocals) T122 (mkF m 86 #[.val (.int ka), .val (.int kb), .val (.int kc), .val (.int kd), .val (.int fl), .val (.ref b1), .val (.ref b16), .val (.ref b79), .val (.int ((1 : Int32) + ((Jvm.Free.XT.ushr fl (6 : Int32)) % (3 : Int32)))), .unset, .unset] [(.double (FP.i2d kc)), (.int (2 : Int32)), (.ref b1)]) := fun t k => by
        refine go148 t ?_
        refine XS.icmpNo X122.here hx rfl (hb hby at_78) rfl (Jvm.Free.XT.ii_lt_f hc150) ?_
        refine XS.aload X122.here hx rfl (hb hby at_81) rfl rfl ?_
        refine XS.iconst X122.here hx rfl (hb hby at_83) ?_
        refine XS.iloadN X122.here hx rfl (hb hby at_84) rfl ?_
        refine XS.i2dS X122.here hx rfl (hb hby at_85) rfl rfl ?_
        exact k
      obtain ⟨cq153, kq153, q153a, q153b, q153c⟩ := isOf hZ e122 fj122_0
      obtain ⟨_, _, ⟨T153, L153, k153, n153⟩, -, X153, ⟨Lc153, hQ153, l153, y153, z153⟩, st153⟩ := X122.virtualBack hx (y := mN_2) (z := mN_2) hown (mvT hZ (own_wd hw 22 rfl)) (mvT hZ (own_wd hw 23 rfl)) (notFace_of_selects (args := #[]) (mvT hZ (own_wd hw 25 rfl))) (mvT hZ (own_wd hw 25 rfl)) (mvT hZ (own_wd hw 24 rfl)) (by decide) (backOf (W := 0) (rmPut l Z a0 hw [] b1 (2 : Int32) (FP.i2d kc) aK aI aP kk ki kp (own_k kvb) sgb nzb (own_L lvb) h122 n0 Z122 fj122_0 fj122_1 fj122_2 fj122_3 fj122_4 fj122_5 fj122_6 fj122_7 nKI nKP nIP nAK nAI nAP gA gK gI gP own_R2 hj122.1.1 (own_L0 hj122.2.2) (hj122.1.r0 own_R2 hj122.2.2)) hZ (own_wd hw 26 rfl) (own_wd hw 2 rfl) (by decide) (by decide)) q153a q153c (g := (mkF m 86 #[.val (.int ka), .val (.int kb), .val (.int kc), .val (.int kd), .val (.int fl), .val (.ref b1), .val (.ref b16), .val (.ref b79), .val (.int ((1 : Int32) + ((Jvm.Free.XT.ushr fl (6 : Int32)) % (3 : Int32)))), .unset, .unset] [(.double (FP.i2d kc)), (.int (2 : Int32)), (.ref b1)])) rfl (by rw [hml]; rfl) (Steps.refl _) (argsL := [(.int (2 : Int32)), (.double (FP.i2d kc))]) (rest := []) (lenOf pd_4 rfl) rfl (by show 2 * 0 + _ ≤ _; exact Nat.le_of_eq rfl) (hb hby at_86) (fun _ _ => ⟨rfl, e122, (by decide : 6 + 0 ≤ room_1.cells), (by decide : 19 + 0 ≤ room_1.slots)⟩)
      dsimp only [Pt.U, Pt.locs, Pt.cells, Pt.slots] at X153 l153 y153 z153 st153 hQ153
      subst l153 y153 z153
      obtain ⟨rfl, N153q, Kq153, E1q153, FKq153, FIq153, FPq153, FSq153, VKq153, VIq153, VPq153⟩ := hQ153
      have N153 := Fr.app N122 N153q
      rw [own_k_u] at VKq153 VIq153 VPq153
      have f154 := fj122_0.keep Kq153
      have f155 := fj122_8.keep Kq153 (ninS (Ne.symm (Nat.ne_of_lt (Nat.lt_of_lt_of_le FSo.lt le_b16))) (ninS (Ne.symm (Nat.ne_of_lt (Nat.lt_of_lt_of_le VK.lt le_b16))) (ninS (Ne.symm (Nat.ne_of_lt (Nat.lt_of_lt_of_le VI.lt le_b16))) (ninS (Ne.symm (Nat.ne_of_lt (Nat.lt_of_lt_of_le VP.lt le_b16))) nin0))))
      have f156 := fj122_9.keep Kq153 (ninS (Ne.symm (Nat.ne_of_lt (Nat.lt_of_lt_of_le f70.lt le_b79))) (ninS (Ne.symm (Nat.ne_of_lt (Nat.lt_of_lt_of_le f71.lt le_b79))) (ninS (Ne.symm (Nat.ne_of_lt (Nat.lt_of_lt_of_le f72.lt le_b79))) (ninS (Ne.symm (Nat.ne_of_lt (Nat.lt_of_lt_of_le f73.lt le_b79))) nin0))))
      have Z157 := Nat.le_trans Z122 Kq153.1
      have go158 : Goes p e below s₁ (entryFrame m #[(.int ka), (.int kb), (.int kc), (.int kd), (.int fl)] maxLocals) T153 (mkF m 89 #[.val (.int ka), .val (.int kb), .val (.int kc), .val (.int kd), .val (.int fl), .val (.ref b1), .val (.ref b16), .val (.ref b79), .val (.int ((1 : Int32) + ((Jvm.Free.XT.ushr fl (6 : Int32)) % (3 : Int32)))), .unset, .unset] []) := fun t k => go152 t (st153.trans k)
      have go159 : Goes p e below s₁ (entryFrame m #[(.int ka), (.int kb), (.int kc), (.int kd), (.int fl)] maxLocals) T153 (mkF m 93 #[.val (.int ka), .val (.int kb), .val (.int kc), .val (.int kd), .val (.int fl), .val (.ref b1), .val (.ref b16), .val (.ref b79), .val (.int ((1 : Int32) + ((Jvm.Free.XT.ushr fl (6 : Int32)) % (3 : Int32)))), .unset, .unset] [(.int (1 : Int32)), (.int (2 : Int32)), (.ref b79)]) := fun t k => by
        refine go158 t ?_
        refine XS.aload X153.here hx rfl (hb hby at_89) rfl rfl ?_
        refine XS.iconst X153.here hx rfl (hb hby at_91) ?_
        refine XS.iconst X153.here hx rfl (hb hby at_92) ?_
        exact k
      obtain ⟨cl160, Ar160, kq160, Sz160, Nn160, Hs160, Gf160⟩ := id (f156)
      have hin160 : ¬ ((2 : Int32) < 0 ∨ cl160.slots.size ≤ ((2 : Int32)).toNatClampNeg) := inb_of Sz160 (own_inb own_R2)
      obtain ⟨T161, h161, X161, e161, W161, st161⟩ := stZ X153 hx hZ rfl Ar160 (j := (2 : Int32)) hin160 (g := (mkF m 93 #[.val (.int ka), .val (.int kb), .val (.int kc), .val (.int kd), .val (.int fl), .val (.ref b1), .val (.ref b16), .val (.ref b79), .val (.int ((1 : Int32) + ((Jvm.Free.XT.ushr fl (6 : Int32)) % (3 : Int32)))), .unset, .unset] [(.int (1 : Int32)), (.int (2 : Int32)), (.ref b79)])) rfl rfl (hb hby at_93)
      have V162 : Arv Z h161 b79 k79 .boolean (3 : Int32) (own_l (own_u lvb (2 : Int32) (1 : Int32))) (.int (0 : Int32)) := by rw [← own_l_set own_R2]; exact Arv.set Ar160 kq160 Sz160 Nn160 Hs160 Gf160 rfl W161 _ rfl (own_l_len own_R2)
      have f163 := f154.wr W161
      have f164 := f155.other W161 (Nat.ne_of_lt (Nat.lt_of_lt_of_le V65.lt le_b79))
      have f165 := FKq153.other W161 (Or.inl (Nat.ne_of_lt (Nat.lt_of_lt_of_le f70.lt le_b79)))
      have f166 := FIq153.other W161 (Or.inl (Nat.ne_of_lt (Nat.lt_of_lt_of_le f70.lt le_b79)))
      have f167 := FPq153.other W161 (Or.inl (Nat.ne_of_lt (Nat.lt_of_lt_of_le f70.lt le_b79)))
      have f168 := FSq153.other W161 (Or.inl (Nat.ne_of_lt (Nat.lt_of_lt_of_le f70.lt le_b79)))
      have f169 := VKq153.other W161 (Nat.ne_of_lt (Nat.lt_of_lt_of_le f71.lt le_b79))
      have f170 := VIq153.other W161 (Nat.ne_of_lt (Nat.lt_of_lt_of_le f72.lt le_b79))
      have f171 := VPq153.other W161 (Nat.ne_of_lt (Nat.lt_of_lt_of_le f73.lt le_b79))
      have Z172 := Nat.le_trans Z157 (Nat.le_of_eq W161.size.symm)
      have N173 := Fr.snoc X161 N153 gn_b79
      have go174 : Goes p e below s₁ (entryFrame m #[(.int ka), (.int kb), (.int kc), (.int kd), (.int fl)] maxLocals) T161 (mkF m 94 #[.val (.int ka), .val (.int kb), .val (.int kc), .val (.int kd), .val (.int fl), .val (.ref b1), .val (.ref b16), .val (.ref b79), .val (.int ((1 : Int32) + ((Jvm.Free.XT.ushr fl (6 : Int32)) % (3 : Int32)))), .unset, .unset] []) := fun t k => go159 t (st161 t k)
      exact ⟨T161, h161, ((lo122 ++ Lc153) ++ [⟨b79, ((2 : Int32)).toNatClampNeg⟩]), (own_u kvb (2 : Int32) kc), (own_u lvb (2 : Int32) (1 : Int32)), (own_putA (own_k (own_u kvb (2 : Int32) kc)) sgb (2 : Int32) nzb), (nzb + 1), X161, e161, Z172, N173, f163, f165, f166, f167, f168, f169, f170, f171, f164, V162, ⟨(hj122.1.putA own_R2 hj122.2.2 (by simp [own_u, own_z]) (fun _ _ _ => rfl)), (by rcases (hj122.1.r0 own_R2 hj122.2.2) with q | q | q <;> rw [q] <;> decide)⟩, go174⟩
  have go175 : Goes p e below s₁ (entryFrame m #[(.int ka), (.int kb), (.int kc), (.int kd), (.int fl)] maxLocals) T149 (mkF m 98 #[.val (.int ka), .val (.int kb), .val (.int kc), .val (.int kd), .val (.int fl), .val (.ref b1), .val (.ref b16), .val (.ref b79), .val (.int ((1 : Int32) + ((Jvm.Free.XT.ushr fl (6 : Int32)) % (3 : Int32)))), .unset, .unset] [(.int (fl &&& (1 : Int32)))]) := fun t k => by
    refine go149j t ?_
    refine XS.iload X149.here hx rfl (hb hby at_94) rfl ?_
    refine XS.iconst X149.here hx rfl (hb hby at_96) ?_
    refine XS.iand X149.here hx rfl (hb hby at_97) rfl ?_
    exact k
  obtain ⟨T176, h176, lo176, kvd, vvd, lvd, sgd, nzd, sl9, X176, e176, Z176, N176, fj176_0, fj176_1, fj176_2, fj176_3, fj176_4, fj176_5, fj176_6, fj176_7, fj176_8, fj176_9, hs_sl9, hj176, go176j⟩ : ∃ (T' : State) (h' : Heap) (lo' : List Loc) (kvd : Int32 → Int32) (vvd : Int32 → Int32) (lvd : Int32 → Int32) (sgd : own_P) (nzd : Int32) (sl9 : Slot), Stand p l e room_1 s m #[(.int ka), (.int kb), (.int kc), (.int kd), (.int fl)] below meth c T' lo' 6 19 ∧ T'.heap = h' ∧ n0 ≤ h'.size ∧ Fr n0 lo' ∧ (Exa Z h' b1 "com/example/covermesh/covermesh/algorithms/IndexedMinHeap") ∧ (Fld Z h' b1 "com/example/covermesh/covermesh/algorithms/IndexedMinHeap" "keys" "[D" (.ref aK)) ∧ (Fld Z h' b1 "com/example/covermesh/covermesh/algorithms/IndexedMinHeap" "items" "[I" (.ref aI)) ∧ (Fld Z h' b1 "com/example/covermesh/covermesh/algorithms/IndexedMinHeap" "positions" "[I" (.ref aP)) ∧ (Fld Z h' b1 "com/example/covermesh/covermesh/algorithms/IndexedMinHeap" "size" "I" (.int nzd)) ∧ (Arv Z h' aK kk .double 3 (own_d (own_k kvd)) (.double (0 : UInt64))) ∧ (Arv Z h' aI ki .int 3 (own_l sgd.1) (.int (0 : Int32))) ∧ (Arv Z h' aP kp .int 3 (own_l sgd.2) (.int (0 : Int32))) ∧ (Arv Z h' b16 k16 .int (3 : Int32) (own_l vvd) (.int (0 : Int32))) ∧ (Arv Z h' b79 k79 .boolean (3 : Int32) (own_l lvd) (.int (0 : Int32))) ∧ (sl9 = .unset ∨ ∃ x : Int32, sl9 = .val (.int x)) ∧ (own_I kvd vvd lvd sgd nzd ∧ ¬ nzd = 0) ∧ Goes p e below s₁ (entryFrame m #[(.int ka), (.int kb), (.int kc), (.int kd), (.int fl)] maxLocals) T' (mkF m 130 #[.val (.int ka), .val (.int kb), .val (.int kc), .val (.int kd), .val (.int fl), .val (.ref b1), .val (.ref b16), .val (.ref b79), .val (.int ((1 : Int32) + ((Jvm.Free.XT.ushr fl (6 : Int32)) % (3 : Int32)))), sl9, .unset] []) := by
    by_cases hc177 : (fl &&& (1 : Int32)) = (0 : Int32)
    · have go178 : Goes p e below s₁ (entryFrame m #[(.int ka), (.int kb), (.int kc), (.int kd), (.int fl)] maxLocals) T149 (mkF m 130 #[.val (.int ka), .val (.int kb), .val (.int kc), .val (.int kd), .val (.int fl), .val (.ref b1), .val (.ref b16), .val (.ref b79), .val (.int ((1 : Int32) + ((Jvm.Free.XT.ushr fl (6 : Int32)) % (3 : Int32)))), .unset, .unset] []) := fun t k => by
        refine go175 t ?_
        refine XS.ifYes X149.here hx rfl (pc0 := 98) (pc' := 130) rfl (hb hby at_98) rfl (Jvm.Free.XT.i0_eq_t hc177) (by decide) (by decide) ?_
        exact k
      exact ⟨T149, h149, lo149, kvc, (own_u (own_u (own_u own_z (0 : Int32) ka) (1 : Int32) kb) (2 : Int32) kc), lvc, sgc, nzc, (.unset), X149, e149, Z149, N149, fj149_0, fj149_1, fj149_2, fj149_3, fj149_4, fj149_5, fj149_6, fj149_7, fj149_8, fj149_9, Or.inl rfl, ⟨hj149.1, hj149.2⟩, go178⟩
    · have go179 : Goes p e below s₁ (entryFrame m #[(.int ka), (.int kb), (.int kc), (.int kd), (.int fl)] maxLocals) T149 (mkF m 107 #[.val (.int ka), .val (.int kb), .val (.int kc), .val (.int kd), .val (.int fl), .val (.ref b1), .val (.ref b16), .val (.ref b79), .val (.int ((1 : Int32) + ((Jvm.Free.XT.ushr fl (6 : Int32)) % (3 : Int32)))), .unset, .unset] [(.int ((Jvm.Free.XT.ushr fl (2 : Int32)) % (3 : Int32)))]) := fun t k => by
        refine go175 t ?_
        refine XS.ifNo X149.here hx rfl (hb hby at_98) rfl (Jvm.Free.XT.i0_eq_f hc177) ?_
        refine XS.iload X149.here hx rfl (hb hby at_101) rfl ?_
        refine XS.iconst X149.here hx rfl (hb hby at_103) ?_
        refine XS.iushr X149.here hx rfl (hb hby at_104) rfl ?_
        refine XS.iconst X149.here hx rfl (hb hby at_105) ?_
        refine iremM X149 hx rfl (hb hby at_106) rfl (by decide) ?_
        exact k
      obtain ⟨uu, h_uu⟩ : ∃ z : Int32, z = ((Jvm.Free.XT.ushr fl (2 : Int32)) % (3 : Int32)) := ⟨_, rfl⟩
      have go180 : Goes p e below s₁ (entryFrame m #[(.int ka), (.int kb), (.int kc), (.int kd), (.int fl)] maxLocals) T149 (mkF m 107 #[.val (.int ka), .val (.int kb), .val (.int kc), .val (.int kd), .val (.int fl), .val (.ref b1), .val (.ref b16), .val (.ref b79), .val (.int ((1 : Int32) + ((Jvm.Free.XT.ushr fl (6 : Int32)) % (3 : Int32)))), .unset, .unset] [(.int uu)]) := by rw [h_uu]; exact go179
      have Ruu : own_R uu := by rw [h_uu]; exact own_rem3 (own_ush fl).1
      have go181 : Goes p e below s₁ (entryFrame m #[(.int ka), (.int kb), (.int kc), (.int kd), (.int fl)] maxLocals) T149 (mkF m 115 #[.val (.int ka), .val (.int kb), .val (.int kc), .val (.int kd), .val (.int fl), .val (.ref b1), .val (.ref b16), .val (.ref b79), .val (.int ((1 : Int32) + ((Jvm.Free.XT.ushr fl (6 : Int32)) % (3 : Int32)))), .val (.int uu), .unset] [(.double (FP.i2d kd)), (.int uu), (.ref b1)]) := fun t k => by
        refine go180 t ?_
        refine XS.istore X149.here hx rfl (hb hby at_107) rfl (l' := #[.val (.int ka), .val (.int kb), .val (.int kc), .val (.int kd), .val (.int fl), .val (.ref b1), .val (.ref b16), .val (.ref b79), .val (.int ((1 : Int32) + ((Jvm.Free.XT.ushr fl (6 : Int32)) % (3 : Int32)))), .val (.int uu), .unset]) rfl ?_
        refine XS.aload X149.here hx rfl (hb hby at_109) rfl rfl ?_
        refine XS.iload X149.here hx rfl (hb hby at_111) rfl ?_
        refine XS.iloadN X149.here hx rfl (hb hby at_113) rfl ?_
        refine XS.i2dS X149.here hx rfl (hb hby at_114) rfl rfl ?_
        exact k
      rcases hj149.1.2.2.1 uu Ruu with hz | hz
      · obtain ⟨cq182, kq182, q182a, q182b, q182c⟩ := isOf hZ e149 fj149_0
        obtain ⟨_, _, ⟨T182, L182, k182, n182⟩, -, X182, ⟨Lc182, hQ182, l182, y182, z182⟩, st182⟩ := X149.virtualBack hx (y := mN_2) (z := mN_2) hown (mvT hZ (own_wd hw 22 rfl)) (mvT hZ (own_wd hw 23 rfl)) (notFace_of_selects (args := #[]) (mvT hZ (own_wd hw 25 rfl))) (mvT hZ (own_wd hw 25 rfl)) (mvT hZ (own_wd hw 24 rfl)) (by decide) (backOf (W := 0) (rmPut l Z a0 hw [] b1 uu (FP.i2d kd) aK aI aP kk ki kp (own_k kvc) sgc nzc (own_L lvc) h149 n0 Z149 fj149_0 fj149_1 fj149_2 fj149_3 fj149_4 fj149_5 fj149_6 fj149_7 nKI nKP nIP nAK nAI nAP gA gK gI gP Ruu hj149.1.1 (own_L0 hz) (hj149.1.r0 Ruu hz)) hZ (own_wd hw 26 rfl) (own_wd hw 2 rfl) (by decide) (by decide)) q182a q182c (g := (mkF m 115 #[.val (.int ka), .val (.int kb), .val (.int kc), .val (.int kd), .val (.int fl), .val (.ref b1), .val (.ref b16), .val (.ref b79), .val (.int ((1 : Int32) + ((Jvm.Free.XT.ushr fl (6 : Int32)) % (3 : Int32)))), .val (.int uu), .unset] [(.double (FP.i2d kd)), (.int uu), (.ref b1)])) rfl (by rw [hml]; rfl) (Steps.refl _) (argsL := [(.int uu), (.double (FP.i2d kd))]) (rest := []) (lenOf pd_4 rfl) rfl (by show 2 * 0 + _ ≤ _; exact Nat.le_of_eq rfl) (hb hby at_115) (fun _ _ => ⟨rfl, e149, (by decide : 6 + 0 ≤ room_1.cells), (by decide : 19 + 0 ≤ room_1.slots)⟩)
        dsimp only [Pt.U, Pt.locs, Pt.cells, Pt.slots] at X182 l182 y182 z182 st182 hQ182
        subst l182 y182 z182
        obtain ⟨rfl, N182q, Kq182, E1q182, FKq182, FIq182, FPq182, FSq182, VKq182, VIq182, VPq182⟩ := hQ182
        have N182 := Fr.app N149 N182q
        rw [own_k_u] at VKq182 VIq182 VPq182
        have f183 := fj149_0.keep Kq182
        have f184 := fj149_8.keep Kq182 (ninS (Ne.symm (Nat.ne_of_lt (Nat.lt_of_lt_of_le FSo.lt le_b16))) (ninS (Ne.symm (Nat.ne_of_lt (Nat.lt_of_lt_of_le VK.lt le_b16))) (ninS (Ne.symm (Nat.ne_of_lt (Nat.lt_of_lt_of_le VI.lt le_b16))) (ninS (Ne.symm (Nat.ne_of_lt (Nat.lt_of_lt_of_le VP.lt le_b16))) nin0))))
        have f185 := fj149_9.keep Kq182 (ninS (Ne.symm (Nat.ne_of_lt (Nat.lt_of_lt_of_le f70.lt le_b79))) (ninS (Ne.symm (Nat.ne_of_lt (Nat.lt_of_lt_of_le f71.lt le_b79))) (ninS (Ne.symm (Nat.ne_of_lt (Nat.lt_of_lt_of_le f72.lt le_b79))) (ninS (Ne.symm (Nat.ne_of_lt (Nat.lt_of_lt_of_le f73.lt le_b79))) nin0))))
        have Z186 := Nat.le_trans Z149 Kq182.1
        have go187 : Goes p e below s₁ (entryFrame m #[(.int ka), (.int kb), (.int kc), (.int kd), (.int fl)] maxLocals) T182 (mkF m 118 #[.val (.int ka), .val (.int kb), .val (.int kc), .val (.int kd), .val (.int fl), .val (.ref b1), .val (.ref b16), .val (.ref b79), .val (.int ((1 : Int32) + ((Jvm.Free.XT.ushr fl (6 : Int32)) % (3 : Int32)))), .val (.int uu), .unset] []) := fun t k => go181 t (st182.trans k)
        have go188 : Goes p e below s₁ (entryFrame m #[(.int ka), (.int kb), (.int kc), (.int kd), (.int fl)] maxLocals) T182 (mkF m 123 #[.val (.int ka), .val (.int kb), .val (.int kc), .val (.int kd), .val (.int fl), .val (.ref b1), .val (.ref b16), .val (.ref b79), .val (.int ((1 : Int32) + ((Jvm.Free.XT.ushr fl (6 : Int32)) % (3 : Int32)))), .val (.int uu), .unset] [(.int kd), (.int uu), (.ref b16)]) := fun t k => by
          refine go187 t ?_
          refine XS.aload X182.here hx rfl (hb hby at_118) rfl rfl ?_
          refine XS.iload X182.here hx rfl (hb hby at_120) rfl ?_
          refine XS.iloadN X182.here hx rfl (hb hby at_122) rfl ?_
          exact k
        obtain ⟨cl189, Ar189, kq189, Sz189, Nn189, Hs189, Gf189⟩ := id (f184)
        have hin189 : ¬ (uu < 0 ∨ cl189.slots.size ≤ (uu).toNatClampNeg) := inb_of Sz189 (own_inb Ruu)
        obtain ⟨T190, h190, X190, e190, W190, st190⟩ := stI X182 hx hZ rfl Ar189 (j := uu) hin189 (g := (mkF m 123 #[.val (.int ka), .val (.int kb), .val (.int kc), .val (.int kd), .val (.int fl), .val (.ref b1), .val (.ref b16), .val (.ref b79), .val (.int ((1 : Int32) + ((Jvm.Free.XT.ushr fl (6 : Int32)) % (3 : Int32)))), .val (.int uu), .unset] [(.int kd), (.int uu), (.ref b16)])) rfl rfl (hb hby at_123)
        have V191 : Arv Z h190 b16 k16 .int (3 : Int32) (own_l (own_u (own_u (own_u (own_u own_z (0 : Int32) ka) (1 : Int32) kb) (2 : Int32) kc) uu kd)) (.int (0 : Int32)) := by rw [← own_l_set Ruu]; exact Arv.set Ar189 kq189 Sz189 Nn189 Hs189 Gf189 rfl W190 _ rfl (own_l_len Ruu)
        have f192 := f183.wr W190
        have f193 := f185.other W190 (Ne.symm (Nat.ne_of_lt (Nat.lt_of_lt_of_le V65.lt le_b79)))
        have f194 := FKq182.other W190 (Or.inl (Nat.ne_of_lt (Nat.lt_of_lt_of_le FSo.lt le_b16)))
        have f195 := FIq182.other W190 (Or.inl (Nat.ne_of_lt (Nat.lt_of_lt_of_le FSo.lt le_b16)))
        have f196 := FPq182.other W190 (Or.inl (Nat.ne_of_lt (Nat.lt_of_lt_of_le FSo.lt le_b16)))
        have f197 := FSq182.other W190 (Or.inl (Nat.ne_of_lt (Nat.lt_of_lt_of_le FSo.lt le_b16)))
        have f198 := VKq182.other W190 (Nat.ne_of_lt (Nat.lt_of_lt_of_le VK.lt le_b16))
        have f199 := VIq182.other W190 (Nat.ne_of_lt (Nat.lt_of_lt_of_le VI.lt le_b16))
        have f200 := VPq182.other W190 (Nat.ne_of_lt (Nat.lt_of_lt_of_le VP.lt le_b16))
        have Z201 := Nat.le_trans Z186 (Nat.le_of_eq W190.size.symm)
        have N202 := Fr.snoc X190 N182 gn_b16
        have go203 : Goes p e below s₁ (entryFrame m #[(.int ka), (.int kb), (.int kc), (.int kd), (.int fl)] maxLocals) T190 (mkF m 124 #[.val (.int ka), .val (.int kb), .val (.int kc), .val (.int kd), .val (.int fl), .val (.ref b1), .val (.ref b16), .val (.ref b79), .val (.int ((1 : Int32) + ((Jvm.Free.XT.ushr fl (6 : Int32)) % (3 : Int32)))), .val (.int uu), .unset] []) := fun t k => go188 t (st190 t k)
        have go204 : Goes p e below s₁ (entryFrame m #[(.int ka), (.int kb), (.int kc), (.int kd), (.int fl)] maxLocals) T190 (mkF m 129 #[.val (.int ka), .val (.int kb), .val (.int kc), .val (.int kd), .val (.int fl), .val (.ref b1), .val (.ref b16), .val (.ref b79), .val (.int ((1 : Int32) + ((Jvm.Free.XT.ushr fl (6 : Int32)) % (3 : Int32)))), .val (.int uu), .unset] [(.int (1 : Int32)), (.int uu), (.ref b79)]) := fun t k => by
          refine go203 t ?_
          refine XS.aload X190.here hx rfl (hb hby at_124) rfl rfl ?_
          refine XS.iload X190.here hx rfl (hb hby at_126) rfl ?_
          refine XS.iconst X190.here hx rfl (hb hby at_128) ?_
          exact k
        obtain ⟨cl205, Ar205, kq205, Sz205, Nn205, Hs205, Gf205⟩ := id (f193)
        have hin205 : ¬ (uu < 0 ∨ cl205.slots.size ≤ (uu).toNatClampNeg) := inb_of Sz205 (own_inb Ruu)
        obtain ⟨T206, h206, X206, e206, W206, st206⟩ := stZ X190 hx hZ e190 Ar205 (j := uu) hin205 (g := (mkF m 129 #[.val (.int ka), .val (.int kb), .val (.int kc), .val (.int kd), .val (.int fl), .val (.ref b1), .val (.ref b16), .val (.ref b79), .val (.int ((1 : Int32) + ((Jvm.Free.XT.ushr fl (6 : Int32)) % (3 : Int32)))), .val (.int uu), .unset] [(.int (1 : Int32)), (.int uu), (.ref b79)])) rfl rfl (hb hby at_129)
        have V207 : Arv Z h206 b79 k79 .boolean (3 : Int32) (own_l (own_u lvc uu (1 : Int32))) (.int (0 : Int32)) := by rw [← own_l_set Ruu]; exact Arv.set Ar205 kq205 Sz205 Nn205 Hs205 Gf205 rfl W206 _ rfl (own_l_len Ruu)
        have f208 := f192.wr W206
        have f209 := f194.other W206 (Or.inl (Nat.ne_of_lt (Nat.lt_of_lt_of_le f70.lt le_b79)))
        have f210 := f195.other W206 (Or.inl (Nat.ne_of_lt (Nat.lt_of_lt_of_le f70.lt le_b79)))
        have f211 := f196.other W206 (Or.inl (Nat.ne_of_lt (Nat.lt_of_lt_of_le f70.lt le_b79)))
        have f212 := f197.other W206 (Or.inl (Nat.ne_of_lt (Nat.lt_of_lt_of_le f70.lt le_b79)))
        have f213 := f198.other W206 (Nat.ne_of_lt (Nat.lt_of_lt_of_le f71.lt le_b79))
        have f214 := f199.other W206 (Nat.ne_of_lt (Nat.lt_of_lt_of_le f72.lt le_b79))
        have f215 := f200.other W206 (Nat.ne_of_lt (Nat.lt_of_lt_of_le f73.lt le_b79))
        have f216 := V191.other W206 (Nat.ne_of_lt (Nat.lt_of_lt_of_le V65.lt le_b79))
        have Z217 := Nat.le_trans Z201 (Nat.le_of_eq W206.size.symm)
        have N218 := Fr.snoc X206 N202 gn_b79
        have go219 : Goes p e below s₁ (entryFrame m #[(.int ka), (.int kb), (.int kc), (.int kd), (.int fl)] maxLocals) T206 (mkF m 130 #[.val (.int ka), .val (.int kb), .val (.int kc), .val (.int kd), .val (.int fl), .val (.ref b1), .val (.ref b16), .val (.ref b79), .val (.int ((1 : Int32) + ((Jvm.Free.XT.ushr fl (6 : Int32)) % (3 : Int32)))), .val (.int uu), .unset] []) := fun t k => go204 t (st206 t k)
        exact ⟨T206, h206, (((lo149 ++ Lc182) ++ [⟨b16, (uu).toNatClampNeg⟩]) ++ [⟨b79, (uu).toNatClampNeg⟩]), (own_u kvc uu kd), (own_u (own_u (own_u (own_u own_z (0 : Int32) ka) (1 : Int32) kb) (2 : Int32) kc) uu kd), (own_u lvc uu (1 : Int32)), (own_putA (own_k (own_u kvc uu kd)) sgc uu nzc), (nzc + 1), (.val (.int uu)), X206, e206, Z217, N218, f208, f209, f210, f211, f212, f213, f214, f215, f216, V207, Or.inr ⟨_, rfl⟩, ⟨(hj149.1.putA Ruu hz own_us (fun _ _ q => own_un q)), (by rcases (hj149.1.r0 Ruu hz) with q | q | q <;> rw [q] <;> decide)⟩, go219⟩
      · obtain ⟨cq220, kq220, q220a, q220b, q220c⟩ := isOf hZ e149 fj149_0
        obtain ⟨_, _, ⟨T220, L220, k220, n220⟩, -, X220, ⟨Lc220, hQ220, l220, y220, z220⟩, st220⟩ := X149.virtualBack hx (y := mN_2) (z := mN_2) hown (mvT hZ (own_wd hw 22 rfl)) (mvT hZ (own_wd hw 23 rfl)) (notFace_of_selects (args := #[]) (mvT hZ (own_wd hw 25 rfl))) (mvT hZ (own_wd hw 25 rfl)) (mvT hZ (own_wd hw 24 rfl)) (by decide) (backOf (W := 0) (rmPutP l Z a0 hw [] b1 uu (FP.i2d kd) aK aI aP kk ki kp (own_k kvc) sgc nzc (own_L lvc) h149 n0 Z149 fj149_0 fj149_1 fj149_2 fj149_3 fj149_4 fj149_5 fj149_6 fj149_7 nKI nKP nIP nAK nAI nAP gA gK gI gP Ruu hj149.1.1 hz (hj149.1.r1 Ruu hz)) hZ (own_wd hw 26 rfl) (own_wd hw 2 rfl) (by decide) (by decide)) q220a q220c (g := (mkF m 115 #[.val (.int ka), .val (.int kb), .val (.int kc), .val (.int kd), .val (.int fl), .val (.ref b1), .val (.ref b16), .val (.ref b79), .val (.int ((1 : Int32) + ((Jvm.Free.XT.ushr fl (6 : Int32)) % (3 : Int32)))), .val (.int uu), .unset] [(.double (FP.i2d kd)), (.int uu), (.ref b1)])) rfl (by rw [hml]; rfl) (Steps.refl _) (argsL := [(.int uu), (.double (FP.i2d kd))]) (rest := []) (lenOf pd_4 rfl) rfl (by show 2 * 0 + _ ≤ _; exact Nat.le_of_eq rfl) (hb hby at_115) (fun _ _ => ⟨rfl, e149, (by decide : 6 + 0 ≤ room_1.cells), (by decide : 19 + 0 ≤ room_1.slots)⟩)
        dsimp only [Pt.U, Pt.locs, Pt.cells, Pt.slots] at X220 l220 y220 z220 st220 hQ220
        subst l220 y220 z220
        obtain ⟨rfl, N220q, Kq220, E1q220, FKq220, FIq220, FPq220, FSq220, VKq220, VIq220, VPq220⟩ := hQ220
        have N220 := Fr.app N149 N220q
        rw [own_k_u] at VKq220 VIq220 VPq220
        have f221 := fj149_0.keep Kq220
        have f222 := fj149_8.keep Kq220 (ninS (Ne.symm (Nat.ne_of_lt (Nat.lt_of_lt_of_le FSo.lt le_b16))) (ninS (Ne.symm (Nat.ne_of_lt (Nat.lt_of_lt_of_le VK.lt le_b16))) (ninS (Ne.symm (Nat.ne_of_lt (Nat.lt_of_lt_of_le VI.lt le_b16))) (ninS (Ne.symm (Nat.ne_of_lt (Nat.lt_of_lt_of_le VP.lt le_b16))) nin0))))
        have f223 := fj149_9.keep Kq220 (ninS (Ne.symm (Nat.ne_of_lt (Nat.lt_of_lt_of_le f70.lt le_b79))) (ninS (Ne.symm (Nat.ne_of_lt (Nat.lt_of_lt_of_le f71.lt le_b79))) (ninS (Ne.symm (Nat.ne_of_lt (Nat.lt_of_lt_of_le f72.lt le_b79))) (ninS (Ne.symm (Nat.ne_of_lt (Nat.lt_of_lt_of_le f73.lt le_b79))) nin0))))
        have Z224 := Nat.le_trans Z149 Kq220.1
        have go225 : Goes p e below s₁ (entryFrame m #[(.int ka), (.int kb), (.int kc), (.int kd), (.int fl)] maxLocals) T220 (mkF m 118 #[.val (.int ka), .val (.int kb), .val (.int kc), .val (.int kd), .val (.int fl), .val (.ref b1), .val (.ref b16), .val (.ref b79), .val (.int ((1 : Int32) + ((Jvm.Free.XT.ushr fl (6 : Int32)) % (3 : Int32)))), .val (.int uu), .unset] []) := fun t k => go181 t (st220.trans k)
        have go226 : Goes p e below s₁ (entryFrame m #[(.int ka), (.int kb), (.int kc), (.int kd), (.int fl)] maxLocals) T220 (mkF m 123 #[.val (.int ka), .val (.int kb), .val (.int kc), .val (.int kd), .val (.int fl), .val (.ref b1), .val (.ref b16), .val (.ref b79), .val (.int ((1 : Int32) + ((Jvm.Free.XT.ushr fl (6 : Int32)) % (3 : Int32)))), .val (.int uu), .unset] [(.int kd), (.int uu), (.ref b16)]) := fun t k => by
          refine go225 t ?_
          refine XS.aload X220.here hx rfl (hb hby at_118) rfl rfl ?_
          refine XS.iload X220.here hx rfl (hb hby at_120) rfl ?_
          refine XS.iloadN X220.here hx rfl (hb hby at_122) rfl ?_
          exact k
        obtain ⟨cl227, Ar227, kq227, Sz227, Nn227, Hs227, Gf227⟩ := id (f222)
        have hin227 : ¬ (uu < 0 ∨ cl227.slots.size ≤ (uu).toNatClampNeg) := inb_of Sz227 (own_inb Ruu)
        obtain ⟨T228, h228, X228, e228, W228, st228⟩ := stI X220 hx hZ rfl Ar227 (j := uu) hin227 (g := (mkF m 123 #[.val (.int ka), .val (.int kb), .val (.int kc), .val (.int kd), .val (.int fl), .val (.ref b1), .val (.ref b16), .val (.ref b79), .val (.int ((1 : Int32) + ((Jvm.Free.XT.ushr fl (6 : Int32)) % (3 : Int32)))), .val (.int uu), .unset] [(.int kd), (.int uu), (.ref b16)])) rfl rfl (hb hby at_123)
        have V229 : Arv Z h228 b16 k16 .int (3 : Int32) (own_l (own_u (own_u (own_u (own_u own_z (0 : Int32) ka) (1 : Int32) kb) (2 : Int32) kc) uu kd)) (.int (0 : Int32)) := by rw [← own_l_set Ruu]; exact Arv.set Ar227 kq227 Sz227 Nn227 Hs227 Gf227 rfl W228 _ rfl (own_l_len Ruu)
        have f230 := f221.wr W228
        have f231 := f223.other W228 (Ne.symm (Nat.ne_of_lt (Nat.lt_of_lt_of_le V65.lt le_b79)))
        have f232 := FKq220.other W228 (Or.inl (Nat.ne_of_lt (Nat.lt_of_lt_of_le FSo.lt le_b16)))
        have f233 := FIq220.other W228 (Or.inl (Nat.ne_of_lt (Nat.lt_of_lt_of_le FSo.lt le_b16)))
        have f234 := FPq220.other W228 (Or.inl (Nat.ne_of_lt (Nat.lt_of_lt_of_le FSo.lt le_b16)))
        have f235 := FSq220.other W228 (Or.inl (Nat.ne_of_lt (Nat.lt_of_lt_of_le FSo.lt le_b16)))
        have f236 := VKq220.other W228 (Nat.ne_of_lt (Nat.lt_of_lt_of_le VK.lt le_b16))
        have f237 := VIq220.other W228 (Nat.ne_of_lt (Nat.lt_of_lt_of_le VI.lt le_b16))
        have f238 := VPq220.other W228 (Nat.ne_of_lt (Nat.lt_of_lt_of_le VP.lt le_b16))
        have Z239 := Nat.le_trans Z224 (Nat.le_of_eq W228.size.symm)
        have N240 := Fr.snoc X228 N220 gn_b16
        have go241 : Goes p e below s₁ (entryFrame m #[(.int ka), (.int kb), (.int kc), (.int kd), (.int fl)] maxLocals) T228 (mkF m 124 #[.val (.int ka), .val (.int kb), .val (.int kc), .val (.int kd), .val (.int fl), .val (.ref b1), .val (.ref b16), .val (.ref b79), .val (.int ((1 : Int32) + ((Jvm.Free.XT.ushr fl (6 : Int32)) % (3 : Int32)))), .val (.int uu), .unset] []) := fun t k => go226 t (st228 t k)
        have go242 : Goes p e below s₁ (entryFrame m #[(.int ka), (.int kb), (.int kc), (.int kd), (.int fl)] maxLocals) T228 (mkF m 129 #[.val (.int ka), .val (.int kb), .val (.int kc), .val (.int kd), .val (.int fl), .val (.ref b1), .val (.ref b16), .val (.ref b79), .val (.int ((1 : Int32) + ((Jvm.Free.XT.ushr fl (6 : Int32)) % (3 : Int32)))), .val (.int uu), .unset] [(.int (1 : Int32)), (.int uu), (.ref b79)]) := fun t k => by
          refine go241 t ?_
          refine XS.aload X228.here hx rfl (hb hby at_124) rfl rfl ?_
          refine XS.iload X228.here hx rfl (hb hby at_126) rfl ?_
          refine XS.iconst X228.here hx rfl (hb hby at_128) ?_
          exact k
        obtain ⟨cl243, Ar243, kq243, Sz243, Nn243, Hs243, Gf243⟩ := id (f231)
        have hin243 : ¬ (uu < 0 ∨ cl243.slots.size ≤ (uu).toNatClampNeg) := inb_of Sz243 (own_inb Ruu)
        obtain ⟨T244, h244, X244, e244, W244, st244⟩ := stZ X228 hx hZ e228 Ar243 (j := uu) hin243 (g := (mkF m 129 #[.val (.int ka), .val (.int kb), .val (.int kc), .val (.int kd), .val (.int fl), .val (.ref b1), .val (.ref b16), .val (.ref b79), .val (.int ((1 : Int32) + ((Jvm.Free.XT.ushr fl (6 : Int32)) % (3 : Int32)))), .val (.int uu), .unset] [(.int (1 : Int32)), (.int uu), (.ref b79)])) rfl rfl (hb hby at_129)
        have V245 : Arv Z h244 b79 k79 .boolean (3 : Int32) (own_l (own_u lvc uu (1 : Int32))) (.int (0 : Int32)) := by rw [← own_l_set Ruu]; exact Arv.set Ar243 kq243 Sz243 Nn243 Hs243 Gf243 rfl W244 _ rfl (own_l_len Ruu)
        have f246 := f230.wr W244
        have f247 := f232.other W244 (Or.inl (Nat.ne_of_lt (Nat.lt_of_lt_of_le f70.lt le_b79)))
        have f248 := f233.other W244 (Or.inl (Nat.ne_of_lt (Nat.lt_of_lt_of_le f70.lt le_b79)))
        have f249 := f234.other W244 (Or.inl (Nat.ne_of_lt (Nat.lt_of_lt_of_le f70.lt le_b79)))
        have f250 := f235.other W244 (Or.inl (Nat.ne_of_lt (Nat.lt_of_lt_of_le f70.lt le_b79)))
        have f251 := f236.other W244 (Nat.ne_of_lt (Nat.lt_of_lt_of_le f71.lt le_b79))
        have f252 := f237.other W244 (Nat.ne_of_lt (Nat.lt_of_lt_of_le f72.lt le_b79))
        have f253 := f238.other W244 (Nat.ne_of_lt (Nat.lt_of_lt_of_le f73.lt le_b79))
        have f254 := V229.other W244 (Nat.ne_of_lt (Nat.lt_of_lt_of_le V65.lt le_b79))
        have Z255 := Nat.le_trans Z239 (Nat.le_of_eq W244.size.symm)
        have N256 := Fr.snoc X244 N240 gn_b79
        have go257 : Goes p e below s₁ (entryFrame m #[(.int ka), (.int kb), (.int kc), (.int kd), (.int fl)] maxLocals) T244 (mkF m 130 #[.val (.int ka), .val (.int kb), .val (.int kc), .val (.int kd), .val (.int fl), .val (.ref b1), .val (.ref b16), .val (.ref b79), .val (.int ((1 : Int32) + ((Jvm.Free.XT.ushr fl (6 : Int32)) % (3 : Int32)))), .val (.int uu), .unset] []) := fun t k => go242 t (st244 t k)
        exact ⟨T244, h244, (((lo149 ++ Lc220) ++ [⟨b16, (uu).toNatClampNeg⟩]) ++ [⟨b79, (uu).toNatClampNeg⟩]), (own_u kvc uu kd), (own_u (own_u (own_u (own_u own_z (0 : Int32) ka) (1 : Int32) kb) (2 : Int32) kc) uu kd), (own_u lvc uu (1 : Int32)), (own_sift (own_k (own_u kvc uu kd)) sgc uu nzc), nzc, (.val (.int uu)), X244, e244, Z255, N256, f246, f247, f248, f249, f250, f251, f252, f253, f254, V245, Or.inr ⟨_, rfl⟩, ⟨(hj149.1.putP Ruu hz own_us (fun _ _ q => own_un q)), hj149.2⟩, go257⟩
  have go258 : Goes p e below s₁ (entryFrame m #[(.int ka), (.int kb), (.int kc), (.int kd), (.int fl)] maxLocals) T176 (mkF m 134 #[.val (.int ka), .val (.int kb), .val (.int kc), .val (.int kd), .val (.int fl), .val (.ref b1), .val (.ref b16), .val (.ref b79), .val (.int ((1 : Int32) + ((Jvm.Free.XT.ushr fl (6 : Int32)) % (3 : Int32)))), sl9, .unset] [(.int (fl &&& (2 : Int32)))]) := fun t k => by
    refine go176j t ?_
    refine XS.iload X176.here hx rfl (hb hby at_130) rfl ?_
    refine XS.iconst X176.here hx rfl (hb hby at_132) ?_
    refine XS.iand X176.here hx rfl (hb hby at_133) rfl ?_
    exact k
  obtain ⟨T259, h259, lo259, kve, vve, lve, sge, nze, sm9, sm10, X259, e259, Z259, N259, fj259_0, fj259_1, fj259_2, fj259_3, fj259_4, fj259_5, fj259_6, fj259_7, fj259_8, fj259_9, hs_sm9, hs_sm10, hj259, go259j⟩ : ∃ (T' : State) (h' : Heap) (lo' : List Loc) (kve : Int32 → Int32) (vve : Int32 → Int32) (lve : Int32 → Int32) (sge : own_P) (nze : Int32) (sm9 : Slot) (sm10 : Slot), Stand p l e room_1 s m #[(.int ka), (.int kb), (.int kc), (.int kd), (.int fl)] below meth c T' lo' 6 19 ∧ T'.heap = h' ∧ n0 ≤ h'.size ∧ Fr n0 lo' ∧ (Exa Z h' b1 "com/example/covermesh/covermesh/algorithms/IndexedMinHeap") ∧ (Fld Z h' b1 "com/example/covermesh/covermesh/algorithms/IndexedMinHeap" "keys" "[D" (.ref aK)) ∧ (Fld Z h' b1 "com/example/covermesh/covermesh/algorithms/IndexedMinHeap" "items" "[I" (.ref aI)) ∧ (Fld Z h' b1 "com/example/covermesh/covermesh/algorithms/IndexedMinHeap" "positions" "[I" (.ref aP)) ∧ (Fld Z h' b1 "com/example/covermesh/covermesh/algorithms/IndexedMinHeap" "size" "I" (.int nze)) ∧ (Arv Z h' aK kk .double 3 (own_d (own_k kve)) (.double (0 : UInt64))) ∧ (Arv Z h' aI ki .int 3 (own_l sge.1) (.int (0 : Int32))) ∧ (Arv Z h' aP kp .int 3 (own_l sge.2) (.int (0 : Int32))) ∧ (Arv Z h' b16 k16 .int (3 : Int32) (own_l vve) (.int (0 : Int32))) ∧ (Arv Z h' b79 k79 .boolean (3 : Int32) (own_l lve) (.int (0 : Int32))) ∧ (sm9 = .unset ∨ ∃ x : Int32, sm9 = .val (.int x)) ∧ (sm10 = .unset ∨ ∃ x : Int32, sm10 = .val (.int x)) ∧ (own_I kve vve lve sge nze ∧ ¬ nze = 0) ∧ Goes p e below s₁ (entryFrame m #[(.int ka), (.int kb), (.int kc), (.int kd), (.int fl)] maxLocals) T' (mkF m 212 #[.val (.int ka), .val (.int kb), .val (.int kc), .val (.int kd), .val (.int fl), .val (.ref b1), .val (.ref b16), .val (.ref b79), .val (.int ((1 : Int32) + ((Jvm.Free.XT.ushr fl (6 : Int32)) % (3 : Int32)))), sm9, sm10] []) := by
    by_cases hc260 : (fl &&& (2 : Int32)) = (0 : Int32)
    · have go261 : Goes p e below s₁ (entryFrame m #[(.int ka), (.int kb), (.int kc), (.int kd), (.int fl)] maxLocals) T176 (mkF m 212 #[.val (.int ka), .val (.int kb), .val (.int kc), .val (.int kd), .val (.int fl), .val (.ref b1), .val (.ref b16), .val (.ref b79), .val (.int ((1 : Int32) + ((Jvm.Free.XT.ushr fl (6 : Int32)) % (3 : Int32)))), sl9, .unset] []) := fun t k => by
        refine go258 t ?_
        refine XS.ifYes X176.here hx rfl (pc0 := 134) (pc' := 212) rfl (hb hby at_134) rfl (Jvm.Free.XT.i0_eq_t hc260) (by decide) (by decide) ?_
        exact k
      exact ⟨T176, h176, lo176, kvd, vvd, lvd, sgd, nzd, (sl9), (.unset), X176, e176, Z176, N176, fj176_0, fj176_1, fj176_2, fj176_3, fj176_4, fj176_5, fj176_6, fj176_7, fj176_8, fj176_9, hs_sl9, Or.inl rfl, ⟨hj176.1, hj176.2⟩, go261⟩
    · have go262 : Goes p e below s₁ (entryFrame m #[(.int ka), (.int kb), (.int kc), (.int kd), (.int fl)] maxLocals) T176 (mkF m 143 #[.val (.int ka), .val (.int kb), .val (.int kc), .val (.int kd), .val (.int fl), .val (.ref b1), .val (.ref b16), .val (.ref b79), .val (.int ((1 : Int32) + ((Jvm.Free.XT.ushr fl (6 : Int32)) % (3 : Int32)))), sl9, .unset] [(.int ((Jvm.Free.XT.ushr fl (4 : Int32)) % (3 : Int32)))]) := fun t k => by
        refine go258 t ?_
        refine XS.ifNo X176.here hx rfl (hb hby at_134) rfl (Jvm.Free.XT.i0_eq_f hc260) ?_
        refine XS.iload X176.here hx rfl (hb hby at_137) rfl ?_
        refine XS.iconst X176.here hx rfl (hb hby at_139) ?_
        refine XS.iushr X176.here hx rfl (hb hby at_140) rfl ?_
        refine XS.iconst X176.here hx rfl (hb hby at_141) ?_
        refine iremM X176 hx rfl (hb hby at_142) rfl (by decide) ?_
        exact k
      obtain ⟨rr, h_rr⟩ : ∃ z : Int32, z = ((Jvm.Free.XT.ushr fl (4 : Int32)) % (3 : Int32)) := ⟨_, rfl⟩
      have go263 : Goes p e below s₁ (entryFrame m #[(.int ka), (.int kb), (.int kc), (.int kd), (.int fl)] maxLocals) T176 (mkF m 143 #[.val (.int ka), .val (.int kb), .val (.int kc), .val (.int kd), .val (.int fl), .val (.ref b1), .val (.ref b16), .val (.ref b79), .val (.int ((1 : Int32) + ((Jvm.Free.XT.ushr fl (6 : Int32)) % (3 : Int32)))), sl9, .unset] [(.int rr)]) := by rw [h_rr]; exact go262
      have Rrr : own_R rr := by rw [h_rr]; exact own_rem3 (own_ush fl).2
      have go264 : Goes p e below s₁ (entryFrame m #[(.int ka), (.int kb), (.int kc), (.int kd), (.int fl)] maxLocals) T176 (mkF m 148 #[.val (.int ka), .val (.int kb), .val (.int kc), .val (.int kd), .val (.int fl), .val (.ref b1), .val (.ref b16), .val (.ref b79), .val (.int ((1 : Int32) + ((Jvm.Free.XT.ushr fl (6 : Int32)) % (3 : Int32)))), .val (.int rr), .unset] [(.int (0 : Int32)), (.ref b79)]) := fun t k => by
        refine go263 t ?_
        refine XS.istore X176.here hx rfl (hb hby at_143) rfl (l' := #[.val (.int ka), .val (.int kb), .val (.int kc), .val (.int kd), .val (.int fl), .val (.ref b1), .val (.ref b16), .val (.ref b79), .val (.int ((1 : Int32) + ((Jvm.Free.XT.ushr fl (6 : Int32)) % (3 : Int32)))), .val (.int rr), .unset]) (by rcases hs_sl9 with rfl | ⟨_, rfl⟩ <;> rfl) ?_
        refine XS.aload X176.here hx rfl (hb hby at_145) rfl rfl ?_
        refine XS.iconst X176.here hx rfl (hb hby at_147) ?_
        exact k
      obtain ⟨cl265, Ar265, kq265, Sz265, Nn265, Hs265, Gf265⟩ := id (fj176_9)
      have hin265 : ¬ ((0 : Int32) < 0 ∨ cl265.slots.size ≤ ((0 : Int32)).toNatClampNeg) := inb_of Sz265 (own_inb own_R0)
      have hat265 : cl265.slots[((0 : Int32)).toNatClampNeg]? = some (.int (lvd (0 : Int32))) := Has.at Hs265 hin265 (own_l_at own_R0)
      have go266 : Goes p e below s₁ (entryFrame m #[(.int ka), (.int kb), (.int kc), (.int kd), (.int fl)] maxLocals) T176 (mkF m 149 #[.val (.int ka), .val (.int kb), .val (.int kc), .val (.int kd), .val (.int fl), .val (.ref b1), .val (.ref b16), .val (.ref b79), .val (.int ((1 : Int32) + ((Jvm.Free.XT.ushr fl (6 : Int32)) % (3 : Int32)))), .val (.int rr), .unset] [(.int (lvd (0 : Int32)))]) := fun t k => by
        refine go264 t ?_
        refine X176.baloadBooleans hx (j := (0 : Int32)) (v := (.int (lvd (0 : Int32)))) (own_hp e176 Ar265.1) (State.isArrayOf_alike hZ.alike Ar265.2.1) Ar265.2.2 hin265 hat265 (g := (mkF m 148 #[.val (.int ka), .val (.int kb), .val (.int kc), .val (.int kd), .val (.int fl), .val (.ref b1), .val (.ref b16), .val (.ref b79), .val (.int ((1 : Int32) + ((Jvm.Free.XT.ushr fl (6 : Int32)) % (3 : Int32)))), .val (.int rr), .unset] [(.int (0 : Int32)), (.ref b79)])) rfl rfl (hb hby at_148) _ ?_
        exact k
      obtain ⟨T267, c0_, X267, e267, hj267, go267j⟩ : ∃ (T' : State) (c0_ : Int32), Stand p l e room_1 s m #[(.int ka), (.int kb), (.int kc), (.int kd), (.int fl)] below meth c T' lo176 6 19 ∧ T'.heap = h176 ∧ (c0_ = (lvd (0 : Int32))) ∧ Goes p e below s₁ (entryFrame m #[(.int ka), (.int kb), (.int kc), (.int kd), (.int fl)] maxLocals) T' (mkF m 157 #[.val (.int ka), .val (.int kb), .val (.int kc), .val (.int kd), .val (.int fl), .val (.ref b1), .val (.ref b16), .val (.ref b79), .val (.int ((1 : Int32) + ((Jvm.Free.XT.ushr fl (6 : Int32)) % (3 : Int32)))), .val (.int rr), .unset] [(.int c0_)]) := by
        by_cases hc268 : (lvd (0 : Int32)) = (0 : Int32)
        · have go269 : Goes p e below s₁ (entryFrame m #[(.int ka), (.int kb), (.int kc), (.int kd), (.int fl)] maxLocals) T176 (mkF m 157 #[.val (.int ka), .val (.int kb), .val (.int kc), .val (.int kd), .val (.int fl), .val (.ref b1), .val (.ref b16), .val (.ref b79), .val (.int ((1 : Int32) + ((Jvm.Free.XT.ushr fl (6 : Int32)) % (3 : Int32)))), .val (.int rr), .unset] [(.int (0 : Int32))]) := fun t k => by
            refine go266 t ?_
            refine XS.ifYes X176.here hx rfl (pc0 := 149) (pc' := 156) rfl (hb hby at_149) rfl (Jvm.Free.XT.i0_eq_t hc268) (by decide) (by decide) ?_
            refine XS.iconst X176.here hx rfl (hb hby at_156) ?_
            exact k
          exact ⟨T176, (0 : Int32), X176, e176, hc268.symm, go269⟩
        · have go270 : Goes p e below s₁ (entryFrame m #[(.int ka), (.int kb), (.int kc), (.int kd), (.int fl)] maxLocals) T176 (mkF m 157 #[.val (.int ka), .val (.int kb), .val (.int kc), .val (.int kd), .val (.int fl), .val (.ref b1), .val (.ref b16), .val (.ref b79), .val (.int ((1 : Int32) + ((Jvm.Free.XT.ushr fl (6 : Int32)) % (3 : Int32)))), .val (.int rr), .unset] [(.int (1 : Int32))]) := fun t k => by
            refine go266 t ?_
            refine XS.ifNo X176.here hx rfl (hb hby at_149) rfl (Jvm.Free.XT.i0_eq_f hc268) ?_
            refine XS.iconst X176.here hx rfl (hb hby at_152) ?_
            refine XS.goto X176.here hx rfl (pc0 := 153) (pc' := 157) rfl (hb hby at_153) (by decide) (by decide) ?_
            exact k
          exact ⟨T176, (1 : Int32), X176, e176, ((hj176.1.2.2.1 _ own_R0).resolve_left hc268).symm, go270⟩
      have go271 : Goes p e below s₁ (entryFrame m #[(.int ka), (.int kb), (.int kc), (.int kd), (.int fl)] maxLocals) T267 (mkF m 157 #[.val (.int ka), .val (.int kb), .val (.int kc), .val (.int kd), .val (.int fl), .val (.ref b1), .val (.ref b16), .val (.ref b79), .val (.int ((1 : Int32) + ((Jvm.Free.XT.ushr fl (6 : Int32)) % (3 : Int32)))), .val (.int rr), .unset] [(.int (lvd (0 : Int32)))]) := Eq.mp (congrArg (fun zz => Goes p e below s₁ (entryFrame m #[(.int ka), (.int kb), (.int kc), (.int kd), (.int fl)] maxLocals) T267 (mkF m 157 #[.val (.int ka), .val (.int kb), .val (.int kc), .val (.int kd), .val (.int fl), .val (.ref b1), .val (.ref b16), .val (.ref b79), .val (.int ((1 : Int32) + ((Jvm.Free.XT.ushr fl (6 : Int32)) % (3 : Int32)))), .val (.int rr), .unset] [(.int zz)])) hj267) go267j
      have go272 : Goes p e below s₁ (entryFrame m #[(.int ka), (.int kb), (.int kc), (.int kd), (.int fl)] maxLocals) T267 (mkF m 160 #[.val (.int ka), .val (.int kb), .val (.int kc), .val (.int kd), .val (.int fl), .val (.ref b1), .val (.ref b16), .val (.ref b79), .val (.int ((1 : Int32) + ((Jvm.Free.XT.ushr fl (6 : Int32)) % (3 : Int32)))), .val (.int rr), .unset] [(.int (1 : Int32)), (.ref b79), (.int (lvd (0 : Int32)))]) := fun t k => by
        refine go271 t ?_
        refine XS.aload X267.here hx rfl (hb hby at_157) rfl rfl ?_
        refine XS.iconst X267.here hx rfl (hb hby at_159) ?_
        exact k
      obtain ⟨cl273, Ar273, kq273, Sz273, Nn273, Hs273, Gf273⟩ := id (fj176_9)
      have hin273 : ¬ ((1 : Int32) < 0 ∨ cl273.slots.size ≤ ((1 : Int32)).toNatClampNeg) := inb_of Sz273 (own_inb own_R1)
      have hat273 : cl273.slots[((1 : Int32)).toNatClampNeg]? = some (.int (lvd (1 : Int32))) := Has.at Hs273 hin273 (own_l_at own_R1)
      have go274 : Goes p e below s₁ (entryFrame m #[(.int ka), (.int kb), (.int kc), (.int kd), (.int fl)] maxLocals) T267 (mkF m 161 #[.val (.int ka), .val (.int kb), .val (.int kc), .val (.int kd), .val (.int fl), .val (.ref b1), .val (.ref b16), .val (.ref b79), .val (.int ((1 : Int32) + ((Jvm.Free.XT.ushr fl (6 : Int32)) % (3 : Int32)))), .val (.int rr), .unset] [(.int (lvd (1 : Int32))), (.int (lvd (0 : Int32)))]) := fun t k => by
        refine go272 t ?_
        refine X267.baloadBooleans hx (j := (1 : Int32)) (v := (.int (lvd (1 : Int32)))) (own_hp e267 Ar273.1) (State.isArrayOf_alike hZ.alike Ar273.2.1) Ar273.2.2 hin273 hat273 (g := (mkF m 160 #[.val (.int ka), .val (.int kb), .val (.int kc), .val (.int kd), .val (.int fl), .val (.ref b1), .val (.ref b16), .val (.ref b79), .val (.int ((1 : Int32) + ((Jvm.Free.XT.ushr fl (6 : Int32)) % (3 : Int32)))), .val (.int rr), .unset] [(.int (1 : Int32)), (.ref b79), (.int (lvd (0 : Int32)))])) rfl rfl (hb hby at_160) _ ?_
        exact k
      obtain ⟨T275, c1_, X275, e275, hj275, go275j⟩ : ∃ (T' : State) (c1_ : Int32), Stand p l e room_1 s m #[(.int ka), (.int kb), (.int kc), (.int kd), (.int fl)] below meth c T' lo176 6 19 ∧ T'.heap = h176 ∧ (c1_ = (lvd (1 : Int32))) ∧ Goes p e below s₁ (entryFrame m #[(.int ka), (.int kb), (.int kc), (.int kd), (.int fl)] maxLocals) T' (mkF m 169 #[.val (.int ka), .val (.int kb), .val (.int kc), .val (.int kd), .val (.int fl), .val (.ref b1), .val (.ref b16), .val (.ref b79), .val (.int ((1 : Int32) + ((Jvm.Free.XT.ushr fl (6 : Int32)) % (3 : Int32)))), .val (.int rr), .unset] [(.int c1_), (.int (lvd (0 : Int32)))]) := by
        by_cases hc276 : (lvd (1 : Int32)) = (0 : Int32)
        · have go277 : Goes p e below s₁ (entryFrame m #[(.int ka), (.int kb), (.int kc), (.int kd), (.int fl)] maxLocals) T267 (mkF m 169 #[.val (.int ka), .val (.int kb), .val (.int kc), .val (.int kd), .val (.int fl), .val (.ref b1), .val (.ref b16), .val (.ref b79), .val (.int ((1 : Int32) + ((Jvm.Free.XT.ushr fl (6 : Int32)) % (3 : Int32)))), .val (.int rr), .unset] [(.int (0 : Int32)), (.int (lvd (0 : Int32)))]) := fun t k => by
            refine go274 t ?_
            refine XS.ifYes X267.here hx rfl (pc0 := 161) (pc' := 168) rfl (hb hby at_161) rfl (Jvm.Free.XT.i0_eq_t hc276) (by decide) (by decide) ?_
            refine XS.iconst X267.here hx rfl (hb hby at_168) ?_
            exact k
          exact ⟨T267, (0 : Int32), X267, e267, hc276.symm, go277⟩
        · have go278 : Goes p e below s₁ (entryFrame m #[(.int ka), (.int kb), (.int kc), (.int kd), (.int fl)] maxLocals) T267 (mkF m 169 #[.val (.int ka), .val (.int kb), .val (.int kc), .val (.int kd), .val (.int fl), .val (.ref b1), .val (.ref b16), .val (.ref b79), .val (.int ((1 : Int32) + ((Jvm.Free.XT.ushr fl (6 : Int32)) % (3 : Int32)))), .val (.int rr), .unset] [(.int (1 : Int32)), (.int (lvd (0 : Int32)))]) := fun t k => by
            refine go274 t ?_
            refine XS.ifNo X267.here hx rfl (hb hby at_161) rfl (Jvm.Free.XT.i0_eq_f hc276) ?_
            refine XS.iconst X267.here hx rfl (hb hby at_164) ?_
            refine XS.goto X267.here hx rfl (pc0 := 165) (pc' := 169) rfl (hb hby at_165) (by decide) (by decide) ?_
            exact k
          exact ⟨T267, (1 : Int32), X267, e267, ((hj176.1.2.2.1 _ own_R1).resolve_left hc276).symm, go278⟩
      have go279 : Goes p e below s₁ (entryFrame m #[(.int ka), (.int kb), (.int kc), (.int kd), (.int fl)] maxLocals) T275 (mkF m 169 #[.val (.int ka), .val (.int kb), .val (.int kc), .val (.int kd), .val (.int fl), .val (.ref b1), .val (.ref b16), .val (.ref b79), .val (.int ((1 : Int32) + ((Jvm.Free.XT.ushr fl (6 : Int32)) % (3 : Int32)))), .val (.int rr), .unset] [(.int (lvd (1 : Int32))), (.int (lvd (0 : Int32)))]) := Eq.mp (congrArg (fun zz => Goes p e below s₁ (entryFrame m #[(.int ka), (.int kb), (.int kc), (.int kd), (.int fl)] maxLocals) T275 (mkF m 169 #[.val (.int ka), .val (.int kb), .val (.int kc), .val (.int kd), .val (.int fl), .val (.ref b1), .val (.ref b16), .val (.ref b79), .val (.int ((1 : Int32) + ((Jvm.Free.XT.ushr fl (6 : Int32)) % (3 : Int32)))), .val (.int rr), .unset] [(.int zz), (.int (lvd (0 : Int32)))])) hj275) go275j
      have go280 : Goes p e below s₁ (entryFrame m #[(.int ka), (.int kb), (.int kc), (.int kd), (.int fl)] maxLocals) T275 (mkF m 173 #[.val (.int ka), .val (.int kb), .val (.int kc), .val (.int kd), .val (.int fl), .val (.ref b1), .val (.ref b16), .val (.ref b79), .val (.int ((1 : Int32) + ((Jvm.Free.XT.ushr fl (6 : Int32)) % (3 : Int32)))), .val (.int rr), .unset] [(.int (2 : Int32)), (.ref b79), (.int ((lvd (0 : Int32)) + (lvd (1 : Int32))))]) := fun t k => by
        refine go279 t ?_
        refine XS.iadd X275.here hx rfl (hb hby at_169) rfl ?_
        refine XS.aload X275.here hx rfl (hb hby at_170) rfl rfl ?_
        refine XS.iconst X275.here hx rfl (hb hby at_172) ?_
        exact k
      obtain ⟨cl281, Ar281, kq281, Sz281, Nn281, Hs281, Gf281⟩ := id (fj176_9)
      have hin281 : ¬ ((2 : Int32) < 0 ∨ cl281.slots.size ≤ ((2 : Int32)).toNatClampNeg) := inb_of Sz281 (own_inb own_R2)
      have hat281 : cl281.slots[((2 : Int32)).toNatClampNeg]? = some (.int (lvd (2 : Int32))) := Has.at Hs281 hin281 (own_l_at own_R2)
      have go282 : Goes p e below s₁ (entryFrame m #[(.int ka), (.int kb), (.int kc), (.int kd), (.int fl)] maxLocals) T275 (mkF m 174 #[.val (.int ka), .val (.int kb), .val (.int kc), .val (.int kd), .val (.int fl), .val (.ref b1), .val (.ref b16), .val (.ref b79), .val (.int ((1 : Int32) + ((Jvm.Free.XT.ushr fl (6 : Int32)) % (3 : Int32)))), .val (.int rr), .unset] [(.int (lvd (2 : Int32))), (.int ((lvd (0 : Int32)) + (lvd (1 : Int32))))]) := fun t k => by
        refine go280 t ?_
        refine X275.baloadBooleans hx (j := (2 : Int32)) (v := (.int (lvd (2 : Int32)))) (own_hp e275 Ar281.1) (State.isArrayOf_alike hZ.alike Ar281.2.1) Ar281.2.2 hin281 hat281 (g := (mkF m 173 #[.val (.int ka), .val (.int kb), .val (.int kc), .val (.int kd), .val (.int fl), .val (.ref b1), .val (.ref b16), .val (.ref b79), .val (.int ((1 : Int32) + ((Jvm.Free.XT.ushr fl (6 : Int32)) % (3 : Int32)))), .val (.int rr), .unset] [(.int (2 : Int32)), (.ref b79), (.int ((lvd (0 : Int32)) + (lvd (1 : Int32))))])) rfl rfl (hb hby at_173) _ ?_
        exact k
      obtain ⟨T283, c2_, X283, e283, hj283, go283j⟩ : ∃ (T' : State) (c2_ : Int32), Stand p l e room_1 s m #[(.int ka), (.int kb), (.int kc), (.int kd), (.int fl)] below meth c T' lo176 6 19 ∧ T'.heap = h176 ∧ (c2_ = (lvd (2 : Int32))) ∧ Goes p e below s₁ (entryFrame m #[(.int ka), (.int kb), (.int kc), (.int kd), (.int fl)] maxLocals) T' (mkF m 182 #[.val (.int ka), .val (.int kb), .val (.int kc), .val (.int kd), .val (.int fl), .val (.ref b1), .val (.ref b16), .val (.ref b79), .val (.int ((1 : Int32) + ((Jvm.Free.XT.ushr fl (6 : Int32)) % (3 : Int32)))), .val (.int rr), .unset] [(.int c2_), (.int ((lvd (0 : Int32)) + (lvd (1 : Int32))))]) := by
        by_cases hc284 : (lvd (2 : Int32)) = (0 : Int32)
        · have go285 : Goes p e below s₁ (entryFrame m #[(.int ka), (.int kb), (.int kc), (.int kd), (.int fl)] maxLocals) T275 (mkF m 182 #[.val (.int ka), .val (.int kb), .val (.int kc), .val (.int kd), .val (.int fl), .val (.ref b1), .val (.ref b16), .val (.ref b79), .val (.int ((1 : Int32) + ((Jvm.Free.XT.ushr fl (6 : Int32)) % (3 : Int32)))), .val (.int rr), .unset] [(.int (0 : Int32)), (.int ((lvd (0 : Int32)) + (lvd (1 : Int32))))]) := fun t k => by
            refine go282 t ?_
            refine XS.ifYes X275.here hx rfl (pc0 := 174) (pc' := 181) rfl (hb hby at_174) rfl (Jvm.Free.XT.i0_eq_t hc284) (by decide) (by decide) ?_
            refine XS.iconst X275.here hx rfl (hb hby at_181) ?_
            exact k
          exact ⟨T275, (0 : Int32), X275, e275, hc284.symm, go285⟩
        · have go286 : Goes p e below s₁ (entryFrame m #[(.int ka), (.int kb), (.int kc), (.int kd), (.int fl)] maxLocals) T275 (mkF m 182 #[.val (.int ka), .val (.int kb), .val (.int kc), .val (.int kd), .val (.int fl), .val (.ref b1), .val (.ref b16), .val (.ref b79), .val (.int ((1 : Int32) + ((Jvm.Free.XT.ushr fl (6 : Int32)) % (3 : Int32)))), .val (.int rr), .unset] [(.int (1 : Int32)), (.int ((lvd (0 : Int32)) + (lvd (1 : Int32))))]) := fun t k => by
            refine go282 t ?_
            refine XS.ifNo X275.here hx rfl (hb hby at_174) rfl (Jvm.Free.XT.i0_eq_f hc284) ?_
            refine XS.iconst X275.here hx rfl (hb hby at_177) ?_
            refine XS.goto X275.here hx rfl (pc0 := 178) (pc' := 182) rfl (hb hby at_178) (by decide) (by decide) ?_
            exact k
          exact ⟨T275, (1 : Int32), X275, e275, ((hj176.1.2.2.1 _ own_R2).resolve_left hc284).symm, go286⟩
      have go287 : Goes p e below s₁ (entryFrame m #[(.int ka), (.int kb), (.int kc), (.int kd), (.int fl)] maxLocals) T283 (mkF m 182 #[.val (.int ka), .val (.int kb), .val (.int kc), .val (.int kd), .val (.int fl), .val (.ref b1), .val (.ref b16), .val (.ref b79), .val (.int ((1 : Int32) + ((Jvm.Free.XT.ushr fl (6 : Int32)) % (3 : Int32)))), .val (.int rr), .unset] [(.int (lvd (2 : Int32))), (.int ((lvd (0 : Int32)) + (lvd (1 : Int32))))]) := Eq.mp (congrArg (fun zz => Goes p e below s₁ (entryFrame m #[(.int ka), (.int kb), (.int kc), (.int kd), (.int fl)] maxLocals) T283 (mkF m 182 #[.val (.int ka), .val (.int kb), .val (.int kc), .val (.int kd), .val (.int fl), .val (.ref b1), .val (.ref b16), .val (.ref b79), .val (.int ((1 : Int32) + ((Jvm.Free.XT.ushr fl (6 : Int32)) % (3 : Int32)))), .val (.int rr), .unset] [(.int zz), (.int ((lvd (0 : Int32)) + (lvd (1 : Int32))))])) hj283) go283j
      have go288 : Goes p e below s₁ (entryFrame m #[(.int ka), (.int kb), (.int kc), (.int kd), (.int fl)] maxLocals) T283 (mkF m 189 #[.val (.int ka), .val (.int kb), .val (.int kc), .val (.int kd), .val (.int fl), .val (.ref b1), .val (.ref b16), .val (.ref b79), .val (.int ((1 : Int32) + ((Jvm.Free.XT.ushr fl (6 : Int32)) % (3 : Int32)))), .val (.int rr), .val (.int (((lvd (0 : Int32)) + (lvd (1 : Int32))) + (lvd (2 : Int32))))] [(.int rr), (.ref b79)]) := fun t k => by
        refine go287 t ?_
        refine XS.iadd X283.here hx rfl (hb hby at_182) rfl ?_
        refine XS.istore X283.here hx rfl (hb hby at_183) rfl (l' := #[.val (.int ka), .val (.int kb), .val (.int kc), .val (.int kd), .val (.int fl), .val (.ref b1), .val (.ref b16), .val (.ref b79), .val (.int ((1 : Int32) + ((Jvm.Free.XT.ushr fl (6 : Int32)) % (3 : Int32)))), .val (.int rr), .val (.int (((lvd (0 : Int32)) + (lvd (1 : Int32))) + (lvd (2 : Int32))))]) rfl ?_
        refine XS.aload X283.here hx rfl (hb hby at_185) rfl rfl ?_
        refine XS.iload X283.here hx rfl (hb hby at_187) rfl ?_
        exact k
      obtain ⟨cl289, Ar289, kq289, Sz289, Nn289, Hs289, Gf289⟩ := id (fj176_9)
      have hin289 : ¬ (rr < 0 ∨ cl289.slots.size ≤ (rr).toNatClampNeg) := inb_of Sz289 (own_inb Rrr)
      have hat289 : cl289.slots[(rr).toNatClampNeg]? = some (.int (lvd rr)) := Has.at Hs289 hin289 (own_l_at Rrr)
      have go290 : Goes p e below s₁ (entryFrame m #[(.int ka), (.int kb), (.int kc), (.int kd), (.int fl)] maxLocals) T283 (mkF m 190 #[.val (.int ka), .val (.int kb), .val (.int kc), .val (.int kd), .val (.int fl), .val (.ref b1), .val (.ref b16), .val (.ref b79), .val (.int ((1 : Int32) + ((Jvm.Free.XT.ushr fl (6 : Int32)) % (3 : Int32)))), .val (.int rr), .val (.int (((lvd (0 : Int32)) + (lvd (1 : Int32))) + (lvd (2 : Int32))))] [(.int (lvd rr))]) := fun t k => by
        refine go288 t ?_
        refine X283.baloadBooleans hx (j := rr) (v := (.int (lvd rr))) (own_hp e283 Ar289.1) (State.isArrayOf_alike hZ.alike Ar289.2.1) Ar289.2.2 hin289 hat289 (g := (mkF m 189 #[.val (.int ka), .val (.int kb), .val (.int kc), .val (.int kd), .val (.int fl), .val (.ref b1), .val (.ref b16), .val (.ref b79), .val (.int ((1 : Int32) + ((Jvm.Free.XT.ushr fl (6 : Int32)) % (3 : Int32)))), .val (.int rr), .val (.int (((lvd (0 : Int32)) + (lvd (1 : Int32))) + (lvd (2 : Int32))))] [(.int rr), (.ref b79)])) rfl rfl (hb hby at_189) _ ?_
        exact k
      by_cases hc291 : (lvd rr) = (0 : Int32)
      · have go292 : Goes p e below s₁ (entryFrame m #[(.int ka), (.int kb), (.int kc), (.int kd), (.int fl)] maxLocals) T283 (mkF m 212 #[.val (.int ka), .val (.int kb), .val (.int kc), .val (.int kd), .val (.int fl), .val (.ref b1), .val (.ref b16), .val (.ref b79), .val (.int ((1 : Int32) + ((Jvm.Free.XT.ushr fl (6 : Int32)) % (3 : Int32)))), .val (.int rr), .val (.int (((lvd (0 : Int32)) + (lvd (1 : Int32))) + (lvd (2 : Int32))))] []) := fun t k => by
          refine go290 t ?_
          refine XS.ifYes X283.here hx rfl (pc0 := 190) (pc' := 212) rfl (hb hby at_190) rfl (Jvm.Free.XT.i0_eq_t hc291) (by decide) (by decide) ?_
          exact k
        exact ⟨T283, h176, lo176, kvd, vvd, lvd, sgd, nzd, (.val (.int rr)), (.val (.int (((lvd (0 : Int32)) + (lvd (1 : Int32))) + (lvd (2 : Int32))))), X283, e283, Z176, N176, fj176_0, fj176_1, fj176_2, fj176_3, fj176_4, fj176_5, fj176_6, fj176_7, fj176_8, fj176_9, Or.inr ⟨_, rfl⟩, Or.inr ⟨_, rfl⟩, ⟨hj176.1, hj176.2⟩, go292⟩
      · have go293 : Goes p e below s₁ (entryFrame m #[(.int ka), (.int kb), (.int kc), (.int kd), (.int fl)] maxLocals) T283 (mkF m 196 #[.val (.int ka), .val (.int kb), .val (.int kc), .val (.int kd), .val (.int fl), .val (.ref b1), .val (.ref b16), .val (.ref b79), .val (.int ((1 : Int32) + ((Jvm.Free.XT.ushr fl (6 : Int32)) % (3 : Int32)))), .val (.int rr), .val (.int (((lvd (0 : Int32)) + (lvd (1 : Int32))) + (lvd (2 : Int32))))] [(.int (2 : Int32)), (.int (((lvd (0 : Int32)) + (lvd (1 : Int32))) + (lvd (2 : Int32))))]) := fun t k => by
          refine go290 t ?_
          refine XS.ifNo X283.here hx rfl (hb hby at_190) rfl (Jvm.Free.XT.i0_eq_f hc291) ?_
          refine XS.iload X283.here hx rfl (hb hby at_193) rfl ?_
          refine XS.iconst X283.here hx rfl (hb hby at_195) ?_
          exact k
        by_cases hc294 : (((lvd (0 : Int32)) + (lvd (1 : Int32))) + (lvd (2 : Int32))) < (2 : Int32)
        · have go295 : Goes p e below s₁ (entryFrame m #[(.int ka), (.int kb), (.int kc), (.int kd), (.int fl)] maxLocals) T283 (mkF m 212 #[.val (.int ka), .val (.int kb), .val (.int kc), .val (.int kd), .val (.int fl), .val (.ref b1), .val (.ref b16), .val (.ref b79), .val (.int ((1 : Int32) + ((Jvm.Free.XT.ushr fl (6 : Int32)) % (3 : Int32)))), .val (.int rr), .val (.int (((lvd (0 : Int32)) + (lvd (1 : Int32))) + (lvd (2 : Int32))))] []) := fun t k => by
            refine go293 t ?_
            refine XS.icmpYes X283.here hx rfl (pc0 := 196) (pc' := 212) rfl (hb hby at_196) rfl (Jvm.Free.XT.ii_lt_t hc294) (by decide) (by decide) ?_
            exact k
          exact ⟨T283, h176, lo176, kvd, vvd, lvd, sgd, nzd, (.val (.int rr)), (.val (.int (((lvd (0 : Int32)) + (lvd (1 : Int32))) + (lvd (2 : Int32))))), X283, e283, Z176, N176, fj176_0, fj176_1, fj176_2, fj176_3, fj176_4, fj176_5, fj176_6, fj176_7, fj176_8, fj176_9, Or.inr ⟨_, rfl⟩, Or.inr ⟨_, rfl⟩, ⟨hj176.1, hj176.2⟩, go295⟩
        · have hrr : lvd rr = 1 := (hj176.1.2.2.1 rr Rrr).resolve_left hc291
          have go296 : Goes p e below s₁ (entryFrame m #[(.int ka), (.int kb), (.int kc), (.int kd), (.int fl)] maxLocals) T283 (mkF m 203 #[.val (.int ka), .val (.int kb), .val (.int kc), .val (.int kd), .val (.int fl), .val (.ref b1), .val (.ref b16), .val (.ref b79), .val (.int ((1 : Int32) + ((Jvm.Free.XT.ushr fl (6 : Int32)) % (3 : Int32)))), .val (.int rr), .val (.int (((lvd (0 : Int32)) + (lvd (1 : Int32))) + (lvd (2 : Int32))))] [(.int rr), (.ref b1)]) := fun t k => by
            refine go293 t ?_
            refine XS.icmpNo X283.here hx rfl (hb hby at_196) rfl (Jvm.Free.XT.ii_lt_f hc294) ?_
            refine XS.aload X283.here hx rfl (hb hby at_199) rfl rfl ?_
            refine XS.iload X283.here hx rfl (hb hby at_201) rfl ?_
            exact k
          obtain ⟨cq297, kq297, q297a, q297b, q297c⟩ := isOf hZ e283 fj176_0
          obtain ⟨_, _, ⟨T297, L297, k297, n297⟩, -, X297, ⟨Lc297, hQ297, l297, y297, z297⟩, st297⟩ := X283.virtualBack hx (y := mN_4) (z := mN_4) hown (mvT hZ (own_wd hw 55 rfl)) (mvT hZ (own_wd hw 56 rfl)) (notFace_of_selects (args := #[]) (mvT hZ (own_wd hw 58 rfl))) (mvT hZ (own_wd hw 58 rfl)) (mvT hZ (own_wd hw 57 rfl)) (by decide) (backOf (W := 0) (rmRem l Z a0 hw [] b1 rr aK aI aP kk ki kp (own_k kvd) sgd nzd (own_L lvd) h176 n0 Z176 fj176_0 fj176_1 fj176_2 fj176_3 fj176_4 fj176_5 fj176_6 fj176_7 nKI nKP nIP nAK nAI nAP gA gK gI gP Rrr hj176.1.1 hrr (hj176.1.r1 Rrr hrr)) hZ (own_wd hw 59 rfl) (own_wd hw 2 rfl) (by decide) (by decide)) q297a q297c (g := (mkF m 203 #[.val (.int ka), .val (.int kb), .val (.int kc), .val (.int kd), .val (.int fl), .val (.ref b1), .val (.ref b16), .val (.ref b79), .val (.int ((1 : Int32) + ((Jvm.Free.XT.ushr fl (6 : Int32)) % (3 : Int32)))), .val (.int rr), .val (.int (((lvd (0 : Int32)) + (lvd (1 : Int32))) + (lvd (2 : Int32))))] [(.int rr), (.ref b1)])) rfl (by rw [hml]; rfl) (Steps.refl _) (argsL := [(.int rr)]) (rest := []) (lenOf pd_2 rfl) rfl (by show 2 * 0 + _ ≤ _; exact Nat.le_of_eq rfl) (hb hby at_203) (fun _ _ => ⟨rfl, e283, (by decide : 6 + 0 ≤ room_1.cells), (by decide : 19 + 0 ≤ room_1.slots)⟩)
          dsimp only [Pt.U, Pt.locs, Pt.cells, Pt.slots] at X297 l297 y297 z297 st297 hQ297
          subst l297 y297 z297
          obtain ⟨rfl, N297q, Kq297, E1q297, FKq297, FIq297, FPq297, FSq297, VKq297, VIq297, VPq297⟩ := hQ297
          have N297 := Fr.app N176 N297q
          have f298 := fj176_0.keep Kq297
          have f299 := fj176_8.keep Kq297 (ninS (Ne.symm (Nat.ne_of_lt (Nat.lt_of_lt_of_le FSo.lt le_b16))) (ninS (Ne.symm (Nat.ne_of_lt (Nat.lt_of_lt_of_le VK.lt le_b16))) (ninS (Ne.symm (Nat.ne_of_lt (Nat.lt_of_lt_of_le VI.lt le_b16))) (ninS (Ne.symm (Nat.ne_of_lt (Nat.lt_of_lt_of_le VP.lt le_b16))) nin0))))
          have f300 := fj176_9.keep Kq297 (ninS (Ne.symm (Nat.ne_of_lt (Nat.lt_of_lt_of_le f70.lt le_b79))) (ninS (Ne.symm (Nat.ne_of_lt (Nat.lt_of_lt_of_le f71.lt le_b79))) (ninS (Ne.symm (Nat.ne_of_lt (Nat.lt_of_lt_of_le f72.lt le_b79))) (ninS (Ne.symm (Nat.ne_of_lt (Nat.lt_of_lt_of_le f73.lt le_b79))) nin0))))
          have Z301 := Nat.le_trans Z176 Kq297.1
          have go302 : Goes p e below s₁ (entryFrame m #[(.int ka), (.int kb), (.int kc), (.int kd), (.int fl)] maxLocals) T297 (mkF m 206 #[.val (.int ka), .val (.int kb), .val (.int kc), .val (.int kd), .val (.int fl), .val (.ref b1), .val (.ref b16), .val (.ref b79), .val (.int ((1 : Int32) + ((Jvm.Free.XT.ushr fl (6 : Int32)) % (3 : Int32)))), .val (.int rr), .val (.int (((lvd (0 : Int32)) + (lvd (1 : Int32))) + (lvd (2 : Int32))))] []) := fun t k => go296 t (st297.trans k)
          have go303 : Goes p e below s₁ (entryFrame m #[(.int ka), (.int kb), (.int kc), (.int kd), (.int fl)] maxLocals) T297 (mkF m 211 #[.val (.int ka), .val (.int kb), .val (.int kc), .val (.int kd), .val (.int fl), .val (.ref b1), .val (.ref b16), .val (.ref b79), .val (.int ((1 : Int32) + ((Jvm.Free.XT.ushr fl (6 : Int32)) % (3 : Int32)))), .val (.int rr), .val (.int (((lvd (0 : Int32)) + (lvd (1 : Int32))) + (lvd (2 : Int32))))] [(.int (0 : Int32)), (.int rr), (.ref b79)]) := fun t k => by
            refine go302 t ?_
            refine XS.aload X297.here hx rfl (hb hby at_206) rfl rfl ?_
            refine XS.iload X297.here hx rfl (hb hby at_208) rfl ?_
            refine XS.iconst X297.here hx rfl (hb hby at_210) ?_
            exact k
          obtain ⟨cl304, Ar304, kq304, Sz304, Nn304, Hs304, Gf304⟩ := id (f300)
          have hin304 : ¬ (rr < 0 ∨ cl304.slots.size ≤ (rr).toNatClampNeg) := inb_of Sz304 (own_inb Rrr)
          obtain ⟨T305, h305, X305, e305, W305, st305⟩ := stZ X297 hx hZ rfl Ar304 (j := rr) hin304 (g := (mkF m 211 #[.val (.int ka), .val (.int kb), .val (.int kc), .val (.int kd), .val (.int fl), .val (.ref b1), .val (.ref b16), .val (.ref b79), .val (.int ((1 : Int32) + ((Jvm.Free.XT.ushr fl (6 : Int32)) % (3 : Int32)))), .val (.int rr), .val (.int (((lvd (0 : Int32)) + (lvd (1 : Int32))) + (lvd (2 : Int32))))] [(.int (0 : Int32)), (.int rr), (.ref b79)])) rfl rfl (hb hby at_211)
          have V306 : Arv Z h305 b79 k79 .boolean (3 : Int32) (own_l (own_u lvd rr (0 : Int32))) (.int (0 : Int32)) := by rw [← own_l_set Rrr]; exact Arv.set Ar304 kq304 Sz304 Nn304 Hs304 Gf304 rfl W305 _ rfl (own_l_len Rrr)
          have f307 := f298.wr W305
          have f308 := f299.other W305 (Nat.ne_of_lt (Nat.lt_of_lt_of_le V65.lt le_b79))
          have f309 := FKq297.other W305 (Or.inl (Nat.ne_of_lt (Nat.lt_of_lt_of_le f70.lt le_b79)))
          have f310 := FIq297.other W305 (Or.inl (Nat.ne_of_lt (Nat.lt_of_lt_of_le f70.lt le_b79)))
          have f311 := FPq297.other W305 (Or.inl (Nat.ne_of_lt (Nat.lt_of_lt_of_le f70.lt le_b79)))
          have f312 := FSq297.other W305 (Or.inl (Nat.ne_of_lt (Nat.lt_of_lt_of_le f70.lt le_b79)))
          have f313 := VKq297.other W305 (Nat.ne_of_lt (Nat.lt_of_lt_of_le f71.lt le_b79))
          have f314 := VIq297.other W305 (Nat.ne_of_lt (Nat.lt_of_lt_of_le f72.lt le_b79))
          have f315 := VPq297.other W305 (Nat.ne_of_lt (Nat.lt_of_lt_of_le f73.lt le_b79))
          have Z316 := Nat.le_trans Z301 (Nat.le_of_eq W305.size.symm)
          have N317 := Fr.snoc X305 N297 gn_b79
          have go318 : Goes p e below s₁ (entryFrame m #[(.int ka), (.int kb), (.int kc), (.int kd), (.int fl)] maxLocals) T305 (mkF m 212 #[.val (.int ka), .val (.int kb), .val (.int kc), .val (.int kd), .val (.int fl), .val (.ref b1), .val (.ref b16), .val (.ref b79), .val (.int ((1 : Int32) + ((Jvm.Free.XT.ushr fl (6 : Int32)) % (3 : Int32)))), .val (.int rr), .val (.int (((lvd (0 : Int32)) + (lvd (1 : Int32))) + (lvd (2 : Int32))))] []) := fun t k => go303 t (st305 t k)
          exact ⟨T305, h305, ((lo176 ++ Lc297) ++ [⟨b79, (rr).toNatClampNeg⟩]), kvd, vvd, (own_u lvd rr (0 : Int32)), (own_rmv (own_k kvd) sgd rr (sgd.2 rr) nzd), (nzd - 1), (.val (.int rr)), (.val (.int (((lvd (0 : Int32)) + (lvd (1 : Int32))) + (lvd (2 : Int32))))), X305, e305, Z316, N317, f307, f309, f310, f311, f312, f313, f314, f315, f308, V306, Or.inr ⟨_, rfl⟩, Or.inr ⟨_, rfl⟩, ⟨hj176.1.rmv Rrr hrr, own_ge2 (hj176.1.r1 Rrr hrr) hj176.1.2.2.2.2 hc294⟩, go318⟩
  have go319 : Goes p e below s₁ (entryFrame m #[(.int ka), (.int kb), (.int kc), (.int kd), (.int fl)] maxLocals) T259 (mkF m 220 #[.val (.int ka), .val (.int kb), .val (.int kc), .val (.int kd), .val (.int fl), .val (.ref b1), .val (.ref b16), .val (.ref b79), .val (.int ((1 : Int32) + ((Jvm.Free.XT.ushr fl (6 : Int32)) % (3 : Int32)))), .val (.long (9223372036854775807 : Int64)), .second] [(.int (0 : Int32)), (.ref b79)]) := fun t k => by
    refine go259j t ?_
    refine X259.ldc2Long hx hown (mvT hZ (own_wd hw 41 rfl)) (g := (mkF m 212 #[.val (.int ka), .val (.int kb), .val (.int kc), .val (.int kd), .val (.int fl), .val (.ref b1), .val (.ref b16), .val (.ref b79), .val (.int ((1 : Int32) + ((Jvm.Free.XT.ushr fl (6 : Int32)) % (3 : Int32)))), sm9, sm10] [])) rfl (hb hby at_212) _ ?_
    refine XS.lstore X259.here hx rfl (hb hby at_215) rfl (l' := #[.val (.int ka), .val (.int kb), .val (.int kc), .val (.int kd), .val (.int fl), .val (.ref b1), .val (.ref b16), .val (.ref b79), .val (.int ((1 : Int32) + ((Jvm.Free.XT.ushr fl (6 : Int32)) % (3 : Int32)))), .val (.long (9223372036854775807 : Int64)), .second]) (by rcases hs_sm10 with rfl | ⟨_, rfl⟩ <;> rcases hs_sm9 with rfl | ⟨_, rfl⟩ <;> rfl) ?_
    refine XS.aload X259.here hx rfl (hb hby at_217) rfl rfl ?_
    refine XS.iconst X259.here hx rfl (hb hby at_219) ?_
    exact k
  obtain ⟨cl320, Ar320, kq320, Sz320, Nn320, Hs320, Gf320⟩ := id (fj259_9)
  have hin320 : ¬ ((0 : Int32) < 0 ∨ cl320.slots.size ≤ ((0 : Int32)).toNatClampNeg) := inb_of Sz320 (own_inb own_R0)
  have hat320 : cl320.slots[((0 : Int32)).toNatClampNeg]? = some (.int (lve (0 : Int32))) := Has.at Hs320 hin320 (own_l_at own_R0)
  have go321 : Goes p e below s₁ (entryFrame m #[(.int ka), (.int kb), (.int kc), (.int kd), (.int fl)] maxLocals) T259 (mkF m 221 #[.val (.int ka), .val (.int kb), .val (.int kc), .val (.int kd), .val (.int fl), .val (.ref b1), .val (.ref b16), .val (.ref b79), .val (.int ((1 : Int32) + ((Jvm.Free.XT.ushr fl (6 : Int32)) % (3 : Int32)))), .val (.long (9223372036854775807 : Int64)), .second] [(.int (lve (0 : Int32)))]) := fun t k => by
    refine go319 t ?_
    refine X259.baloadBooleans hx (j := (0 : Int32)) (v := (.int (lve (0 : Int32)))) (own_hp e259 Ar320.1) (State.isArrayOf_alike hZ.alike Ar320.2.1) Ar320.2.2 hin320 hat320 (g := (mkF m 220 #[.val (.int ka), .val (.int kb), .val (.int kc), .val (.int kd), .val (.int fl), .val (.ref b1), .val (.ref b16), .val (.ref b79), .val (.int ((1 : Int32) + ((Jvm.Free.XT.ushr fl (6 : Int32)) % (3 : Int32)))), .val (.long (9223372036854775807 : Int64)), .second] [(.int (0 : Int32)), (.ref b79)])) rfl rfl (hb hby at_220) _ ?_
    exact k
  obtain ⟨T322, lo322, mm0, Nj322, X322, e322, hj322, go322j⟩ : ∃ (T' : State) (lo' : List Loc) (mm0 : Int64), Fr n0 lo' ∧ Stand p l e room_1 s m #[(.int ka), (.int kb), (.int kc), (.int kd), (.int fl)] below meth c T' lo' 6 19 ∧ T'.heap = h259 ∧ (mm0 = own_m (9223372036854775807 : Int64) (lve (0 : Int32)) (vve (0 : Int32))) ∧ Goes p e below s₁ (entryFrame m #[(.int ka), (.int kb), (.int kc), (.int kd), (.int fl)] maxLocals) T' (mkF m 236 #[.val (.int ka), .val (.int kb), .val (.int kc), .val (.int kd), .val (.int fl), .val (.ref b1), .val (.ref b16), .val (.ref b79), .val (.int ((1 : Int32) + ((Jvm.Free.XT.ushr fl (6 : Int32)) % (3 : Int32)))), .val (.long mm0), .second] []) := by
    by_cases hc323 : (lve (0 : Int32)) = (0 : Int32)
    · have go324 : Goes p e below s₁ (entryFrame m #[(.int ka), (.int kb), (.int kc), (.int kd), (.int fl)] maxLocals) T259 (mkF m 236 #[.val (.int ka), .val (.int kb), .val (.int kc), .val (.int kd), .val (.int fl), .val (.ref b1), .val (.ref b16), .val (.ref b79), .val (.int ((1 : Int32) + ((Jvm.Free.XT.ushr fl (6 : Int32)) % (3 : Int32)))), .val (.long (9223372036854775807 : Int64)), .second] []) := fun t k => by
        refine go321 t ?_
        refine XS.ifYes X259.here hx rfl (pc0 := 221) (pc' := 236) rfl (hb hby at_221) rfl (Jvm.Free.XT.i0_eq_t hc323) (by decide) (by decide) ?_
        exact k
      exact ⟨T259, lo259, (9223372036854775807 : Int64), N259, X259, e259, (if_pos hc323).symm, go324⟩
    · have go325 : Goes p e below s₁ (entryFrame m #[(.int ka), (.int kb), (.int kc), (.int kd), (.int fl)] maxLocals) T259 (mkF m 229 #[.val (.int ka), .val (.int kb), .val (.int kc), .val (.int kd), .val (.int fl), .val (.ref b1), .val (.ref b16), .val (.ref b79), .val (.int ((1 : Int32) + ((Jvm.Free.XT.ushr fl (6 : Int32)) % (3 : Int32)))), .val (.long (9223372036854775807 : Int64)), .second] [(.int (0 : Int32)), (.ref b16), (.long (9223372036854775807 : Int64))]) := fun t k => by
        refine go321 t ?_
        refine XS.ifNo X259.here hx rfl (hb hby at_221) rfl (Jvm.Free.XT.i0_eq_f hc323) ?_
        refine XS.lload X259.here hx rfl (hb hby at_224) rfl ?_
        refine XS.aload X259.here hx rfl (hb hby at_226) rfl rfl ?_
        refine XS.iconst X259.here hx rfl (hb hby at_228) ?_
        exact k
      obtain ⟨cl326, Ar326, kq326, Sz326, Nn326, Hs326, Gf326⟩ := id (fj259_8)
      have hin326 : ¬ ((0 : Int32) < 0 ∨ cl326.slots.size ≤ ((0 : Int32)).toNatClampNeg) := inb_of Sz326 (own_inb own_R0)
      have hat326 : cl326.slots[((0 : Int32)).toNatClampNeg]? = some (.int (vve (0 : Int32))) := Has.at Hs326 hin326 (own_l_at own_R0)
      have go327 : Goes p e below s₁ (entryFrame m #[(.int ka), (.int kb), (.int kc), (.int kd), (.int fl)] maxLocals) T259 (mkF m 231 #[.val (.int ka), .val (.int kb), .val (.int kc), .val (.int kd), .val (.int fl), .val (.ref b1), .val (.ref b16), .val (.ref b79), .val (.int ((1 : Int32) + ((Jvm.Free.XT.ushr fl (6 : Int32)) % (3 : Int32)))), .val (.long (9223372036854775807 : Int64)), .second] [(.long ((vve (0 : Int32)).toInt64)), (.long (9223372036854775807 : Int64))]) := fun t k => by
        refine go325 t ?_
        refine X259.iaload hx (j := (0 : Int32)) (v := (.int (vve (0 : Int32)))) (own_hp e259 Ar326.1) (State.isArrayOf_alike hZ.alike Ar326.2.1) Ar326.2.2 hin326 hat326 (g := (mkF m 229 #[.val (.int ka), .val (.int kb), .val (.int kc), .val (.int kd), .val (.int fl), .val (.ref b1), .val (.ref b16), .val (.ref b79), .val (.int ((1 : Int32) + ((Jvm.Free.XT.ushr fl (6 : Int32)) % (3 : Int32)))), .val (.long (9223372036854775807 : Int64)), .second] [(.int (0 : Int32)), (.ref b16), (.long (9223372036854775807 : Int64))])) rfl rfl (hb hby at_229) _ ?_
        refine XS.i2l X259.here hx rfl (hb hby at_230) rfl ?_
        exact k
      obtain ⟨_, _, ⟨T328, L328, k328, n328⟩, -, X328, ⟨Lc328, hQ328, l328, y328, z328⟩, st328⟩ := Jvm.LawKit.callS X259 hx (y := mN_6) hown (mvT hZ (own_wd hw 42 rfl)) (mvT hZ (own_wd hw 43 rfl)) (mvT hZ (own_wd hw 44 rfl)) (mvT hZ (own_wd hw 45 rfl)) (by decide) (backOf (W := 0) (rmMin l Z a0 hw [] (9223372036854775807 : Int64) ((vve (0 : Int32)).toInt64) h259 n0 Z259) hZ (own_wd hw 45 rfl) (own_wd hw 44 rfl) (by decide) (by decide)) (g := (mkF m 231 #[.val (.int ka), .val (.int kb), .val (.int kc), .val (.int kd), .val (.int fl), .val (.ref b1), .val (.ref b16), .val (.ref b79), .val (.int ((1 : Int32) + ((Jvm.Free.XT.ushr fl (6 : Int32)) % (3 : Int32)))), .val (.long (9223372036854775807 : Int64)), .second] [(.long ((vve (0 : Int32)).toInt64)), (.long (9223372036854775807 : Int64))])) rfl (by rw [hml]; rfl) (argsL := [(.long (9223372036854775807 : Int64)), (.long ((vve (0 : Int32)).toInt64))]) (rest := []) (lenOf pd_5 rfl) rfl (by show 2 * 0 + _ ≤ _; exact Nat.le_of_eq rfl) (hb hby at_231) (fun _ _ => ⟨rfl, e259, (by decide : 6 + 0 ≤ room_1.cells), (by decide : 19 + 0 ≤ room_1.slots)⟩)
      dsimp only [Pt.U, Pt.locs, Pt.cells, Pt.slots] at X328 l328 y328 z328 st328 hQ328
      subst l328 y328 z328
      obtain ⟨rfl, N328q, e328⟩ := hQ328
      have N328 := Fr.app N259 N328q
      have go329 : Goes p e below s₁ (entryFrame m #[(.int ka), (.int kb), (.int kc), (.int kd), (.int fl)] maxLocals) T328 (mkF m 234 #[.val (.int ka), .val (.int kb), .val (.int kc), .val (.int kd), .val (.int fl), .val (.ref b1), .val (.ref b16), .val (.ref b79), .val (.int ((1 : Int32) + ((Jvm.Free.XT.ushr fl (6 : Int32)) % (3 : Int32)))), .val (.long (9223372036854775807 : Int64)), .second] [(.long (own_min (9223372036854775807 : Int64) ((vve (0 : Int32)).toInt64)))]) := fun t k => go327 t (st328 t k)
      have go330 : Goes p e below s₁ (entryFrame m #[(.int ka), (.int kb), (.int kc), (.int kd), (.int fl)] maxLocals) T328 (mkF m 236 #[.val (.int ka), .val (.int kb), .val (.int kc), .val (.int kd), .val (.int fl), .val (.ref b1), .val (.ref b16), .val (.ref b79), .val (.int ((1 : Int32) + ((Jvm.Free.XT.ushr fl (6 : Int32)) % (3 : Int32)))), .val (.long (own_min (9223372036854775807 : Int64) ((vve (0 : Int32)).toInt64))), .second] []) := fun t k => by
        refine go329 t ?_
        refine XS.lstore X328.here hx rfl (hb hby at_234) rfl (l' := #[.val (.int ka), .val (.int kb), .val (.int kc), .val (.int kd), .val (.int fl), .val (.ref b1), .val (.ref b16), .val (.ref b79), .val (.int ((1 : Int32) + ((Jvm.Free.XT.ushr fl (6 : Int32)) % (3 : Int32)))), .val (.long (own_min (9223372036854775807 : Int64) ((vve (0 : Int32)).toInt64))), .second]) rfl ?_
        exact k
      exact ⟨T328, (lo259 ++ Lc328), (own_min (9223372036854775807 : Int64) ((vve (0 : Int32)).toInt64)), N328, X328, e328, (if_neg hc323).symm, go330⟩
  have go331 : Goes p e below s₁ (entryFrame m #[(.int ka), (.int kb), (.int kc), (.int kd), (.int fl)] maxLocals) T322 (mkF m 239 #[.val (.int ka), .val (.int kb), .val (.int kc), .val (.int kd), .val (.int fl), .val (.ref b1), .val (.ref b16), .val (.ref b79), .val (.int ((1 : Int32) + ((Jvm.Free.XT.ushr fl (6 : Int32)) % (3 : Int32)))), .val (.long mm0), .second] [(.int (1 : Int32)), (.ref b79)]) := fun t k => by
    refine go322j t ?_
    refine XS.aload X322.here hx rfl (hb hby at_236) rfl rfl ?_
    refine XS.iconst X322.here hx rfl (hb hby at_238) ?_
    exact k
  obtain ⟨cl332, Ar332, kq332, Sz332, Nn332, Hs332, Gf332⟩ := id (fj259_9)
  have hin332 : ¬ ((1 : Int32) < 0 ∨ cl332.slots.size ≤ ((1 : Int32)).toNatClampNeg) := inb_of Sz332 (own_inb own_R1)
  have hat332 : cl332.slots[((1 : Int32)).toNatClampNeg]? = some (.int (lve (1 : Int32))) := Has.at Hs332 hin332 (own_l_at own_R1)
  have go333 : Goes p e below s₁ (entryFrame m #[(.int ka), (.int kb), (.int kc), (.int kd), (.int fl)] maxLocals) T322 (mkF m 240 #[.val (.int ka), .val (.int kb), .val (.int kc), .val (.int kd), .val (.int fl), .val (.ref b1), .val (.ref b16), .val (.ref b79), .val (.int ((1 : Int32) + ((Jvm.Free.XT.ushr fl (6 : Int32)) % (3 : Int32)))), .val (.long mm0), .second] [(.int (lve (1 : Int32)))]) := fun t k => by
    refine go331 t ?_
    refine X322.baloadBooleans hx (j := (1 : Int32)) (v := (.int (lve (1 : Int32)))) (own_hp e322 Ar332.1) (State.isArrayOf_alike hZ.alike Ar332.2.1) Ar332.2.2 hin332 hat332 (g := (mkF m 239 #[.val (.int ka), .val (.int kb), .val (.int kc), .val (.int kd), .val (.int fl), .val (.ref b1), .val (.ref b16), .val (.ref b79), .val (.int ((1 : Int32) + ((Jvm.Free.XT.ushr fl (6 : Int32)) % (3 : Int32)))), .val (.long mm0), .second] [(.int (1 : Int32)), (.ref b79)])) rfl rfl (hb hby at_239) _ ?_
    exact k
  obtain ⟨T334, lo334, mm1, Nj334, X334, e334, hj334, go334j⟩ : ∃ (T' : State) (lo' : List Loc) (mm1 : Int64), Fr n0 lo' ∧ Stand p l e room_1 s m #[(.int ka), (.int kb), (.int kc), (.int kd), (.int fl)] below meth c T' lo' 6 19 ∧ T'.heap = h259 ∧ (mm1 = own_m mm0 (lve (1 : Int32)) (vve (1 : Int32))) ∧ Goes p e below s₁ (entryFrame m #[(.int ka), (.int kb), (.int kc), (.int kd), (.int fl)] maxLocals) T' (mkF m 255 #[.val (.int ka), .val (.int kb), .val (.int kc), .val (.int kd), .val (.int fl), .val (.ref b1), .val (.ref b16), .val (.ref b79), .val (.int ((1 : Int32) + ((Jvm.Free.XT.ushr fl (6 : Int32)) % (3 : Int32)))), .val (.long mm1), .second] []) := by
    by_cases hc335 : (lve (1 : Int32)) = (0 : Int32)
    · have go336 : Goes p e below s₁ (entryFrame m #[(.int ka), (.int kb), (.int kc), (.int kd), (.int fl)] maxLocals) T322 (mkF m 255 #[.val (.int ka), .val (.int kb), .val (.int kc), .val (.int kd), .val (.int fl), .val (.ref b1), .val (.ref b16), .val (.ref b79), .val (.int ((1 : Int32) + ((Jvm.Free.XT.ushr fl (6 : Int32)) % (3 : Int32)))), .val (.long mm0), .second] []) := fun t k => by
        refine go333 t ?_
        refine XS.ifYes X322.here hx rfl (pc0 := 240) (pc' := 255) rfl (hb hby at_240) rfl (Jvm.Free.XT.i0_eq_t hc335) (by decide) (by decide) ?_
        exact k
      exact ⟨T322, lo322, mm0, Nj322, X322, e322, (if_pos hc335).symm, go336⟩
    · have go337 : Goes p e below s₁ (entryFrame m #[(.int ka), (.int kb), (.int kc), (.int kd), (.int fl)] maxLocals) T322 (mkF m 248 #[.val (.int ka), .val (.int kb), .val (.int kc), .val (.int kd), .val (.int fl), .val (.ref b1), .val (.ref b16), .val (.ref b79), .val (.int ((1 : Int32) + ((Jvm.Free.XT.ushr fl (6 : Int32)) % (3 : Int32)))), .val (.long mm0), .second] [(.int (1 : Int32)), (.ref b16), (.long mm0)]) := fun t k => by
        refine go333 t ?_
        refine XS.ifNo X322.here hx rfl (hb hby at_240) rfl (Jvm.Free.XT.i0_eq_f hc335) ?_
        refine XS.lload X322.here hx rfl (hb hby at_243) rfl ?_
        refine XS.aload X322.here hx rfl (hb hby at_245) rfl rfl ?_
        refine XS.iconst X322.here hx rfl (hb hby at_247) ?_
        exact k
      obtain ⟨cl338, Ar338, kq338, Sz338, Nn338, Hs338, Gf338⟩ := id (fj259_8)
      have hin338 : ¬ ((1 : Int32) < 0 ∨ cl338.slots.size ≤ ((1 : Int32)).toNatClampNeg) := inb_of Sz338 (own_inb own_R1)
      have hat338 : cl338.slots[((1 : Int32)).toNatClampNeg]? = some (.int (vve (1 : Int32))) := Has.at Hs338 hin338 (own_l_at own_R1)
      have go339 : Goes p e below s₁ (entryFrame m #[(.int ka), (.int kb), (.int kc), (.int kd), (.int fl)] maxLocals) T322 (mkF m 250 #[.val (.int ka), .val (.int kb), .val (.int kc), .val (.int kd), .val (.int fl), .val (.ref b1), .val (.ref b16), .val (.ref b79), .val (.int ((1 : Int32) + ((Jvm.Free.XT.ushr fl (6 : Int32)) % (3 : Int32)))), .val (.long mm0), .second] [(.long ((vve (1 : Int32)).toInt64)), (.long mm0)]) := fun t k => by
        refine go337 t ?_
        refine X322.iaload hx (j := (1 : Int32)) (v := (.int (vve (1 : Int32)))) (own_hp e322 Ar338.1) (State.isArrayOf_alike hZ.alike Ar338.2.1) Ar338.2.2 hin338 hat338 (g := (mkF m 248 #[.val (.int ka), .val (.int kb), .val (.int kc), .val (.int kd), .val (.int fl), .val (.ref b1), .val (.ref b16), .val (.ref b79), .val (.int ((1 : Int32) + ((Jvm.Free.XT.ushr fl (6 : Int32)) % (3 : Int32)))), .val (.long mm0), .second] [(.int (1 : Int32)), (.ref b16), (.long mm0)])) rfl rfl (hb hby at_248) _ ?_
        refine XS.i2l X322.here hx rfl (hb hby at_249) rfl ?_
        exact k
      obtain ⟨_, _, ⟨T340, L340, k340, n340⟩, -, X340, ⟨Lc340, hQ340, l340, y340, z340⟩, st340⟩ := Jvm.LawKit.callS X322 hx (y := mN_6) hown (mvT hZ (own_wd hw 42 rfl)) (mvT hZ (own_wd hw 43 rfl)) (mvT hZ (own_wd hw 44 rfl)) (mvT hZ (own_wd hw 45 rfl)) (by decide) (backOf (W := 0) (rmMin l Z a0 hw [] mm0 ((vve (1 : Int32)).toInt64) h259 n0 Z259) hZ (own_wd hw 45 rfl) (own_wd hw 44 rfl) (by decide) (by decide)) (g := (mkF m 250 #[.val (.int ka), .val (.int kb), .val (.int kc), .val (.int kd), .val (.int fl), .val (.ref b1), .val (.ref b16), .val (.ref b79), .val (.int ((1 : Int32) + ((Jvm.Free.XT.ushr fl (6 : Int32)) % (3 : Int32)))), .val (.long mm0), .second] [(.long ((vve (1 : Int32)).toInt64)), (.long mm0)])) rfl (by rw [hml]; rfl) (argsL := [(.long mm0), (.long ((vve (1 : Int32)).toInt64))]) (rest := []) (lenOf pd_5 rfl) rfl (by show 2 * 0 + _ ≤ _; exact Nat.le_of_eq rfl) (hb hby at_250) (fun _ _ => ⟨rfl, e322, (by decide : 6 + 0 ≤ room_1.cells), (by decide : 19 + 0 ≤ room_1.slots)⟩)
      dsimp only [Pt.U, Pt.locs, Pt.cells, Pt.slots] at X340 l340 y340 z340 st340 hQ340
      subst l340 y340 z340
      obtain ⟨rfl, N340q, e340⟩ := hQ340
      have N340 := Fr.app Nj322 N340q
      have go341 : Goes p e below s₁ (entryFrame m #[(.int ka), (.int kb), (.int kc), (.int kd), (.int fl)] maxLocals) T340 (mkF m 253 #[.val (.int ka), .val (.int kb), .val (.int kc), .val (.int kd), .val (.int fl), .val (.ref b1), .val (.ref b16), .val (.ref b79), .val (.int ((1 : Int32) + ((Jvm.Free.XT.ushr fl (6 : Int32)) % (3 : Int32)))), .val (.long mm0), .second] [(.long (own_min mm0 ((vve (1 : Int32)).toInt64)))]) := fun t k => go339 t (st340 t k)
      have go342 : Goes p e below s₁ (entryFrame m #[(.int ka), (.int kb), (.int kc), (.int kd), (.int fl)] maxLocals) T340 (mkF m 255 #[.val (.int ka), .val (.int kb), .val (.int kc), .val (.int kd), .val (.int fl), .val (.ref b1), .val (.ref b16), .val (.ref b79), .val (.int ((1 : Int32) + ((Jvm.Free.XT.ushr fl (6 : Int32)) % (3 : Int32)))), .val (.long (own_min mm0 ((vve (1 : Int32)).toInt64))), .second] []) := fun t k => by
        refine go341 t ?_
        refine XS.lstore X340.here hx rfl (hb hby at_253) rfl (l' := #[.val (.int ka), .val (.int kb), .val (.int kc), .val (.int kd), .val (.int fl), .val (.ref b1), .val (.ref b16), .val (.ref b79), .val (.int ((1 : Int32) + ((Jvm.Free.XT.ushr fl (6 : Int32)) % (3 : Int32)))), .val (.long (own_min mm0 ((vve (1 : Int32)).toInt64))), .second]) rfl ?_
        exact k
      exact ⟨T340, (lo322 ++ Lc340), (own_min mm0 ((vve (1 : Int32)).toInt64)), N340, X340, e340, (if_neg hc335).symm, go342⟩
  have go343 : Goes p e below s₁ (entryFrame m #[(.int ka), (.int kb), (.int kc), (.int kd), (.int fl)] maxLocals) T334 (mkF m 258 #[.val (.int ka), .val (.int kb), .val (.int kc), .val (.int kd), .val (.int fl), .val (.ref b1), .val (.ref b16), .val (.ref b79), .val (.int ((1 : Int32) + ((Jvm.Free.XT.ushr fl (6 : Int32)) % (3 : Int32)))), .val (.long mm1), .second] [(.int (2 : Int32)), (.ref b79)]) := fun t k => by
    refine go334j t ?_
    refine XS.aload X334.here hx rfl (hb hby at_255) rfl rfl ?_
    refine XS.iconst X334.here hx rfl (hb hby at_257) ?_
    exact k
  obtain ⟨cl344, Ar344, kq344, Sz344, Nn344, Hs344, Gf344⟩ := id (fj259_9)
  have hin344 : ¬ ((2 : Int32) < 0 ∨ cl344.slots.size ≤ ((2 : Int32)).toNatClampNeg) := inb_of Sz344 (own_inb own_R2)
  have hat344 : cl344.slots[((2 : Int32)).toNatClampNeg]? = some (.int (lve (2 : Int32))) := Has.at Hs344 hin344 (own_l_at own_R2)
  have go345 : Goes p e below s₁ (entryFrame m #[(.int ka), (.int kb), (.int kc), (.int kd), (.int fl)] maxLocals) T334 (mkF m 259 #[.val (.int ka), .val (.int kb), .val (.int kc), .val (.int kd), .val (.int fl), .val (.ref b1), .val (.ref b16), .val (.ref b79), .val (.int ((1 : Int32) + ((Jvm.Free.XT.ushr fl (6 : Int32)) % (3 : Int32)))), .val (.long mm1), .second] [(.int (lve (2 : Int32)))]) := fun t k => by
    refine go343 t ?_
    refine X334.baloadBooleans hx (j := (2 : Int32)) (v := (.int (lve (2 : Int32)))) (own_hp e334 Ar344.1) (State.isArrayOf_alike hZ.alike Ar344.2.1) Ar344.2.2 hin344 hat344 (g := (mkF m 258 #[.val (.int ka), .val (.int kb), .val (.int kc), .val (.int kd), .val (.int fl), .val (.ref b1), .val (.ref b16), .val (.ref b79), .val (.int ((1 : Int32) + ((Jvm.Free.XT.ushr fl (6 : Int32)) % (3 : Int32)))), .val (.long mm1), .second] [(.int (2 : Int32)), (.ref b79)])) rfl rfl (hb hby at_258) _ ?_
    exact k
  obtain ⟨T346, lo346, mm2, Nj346, X346, e346, hj346, go346j⟩ : ∃ (T' : State) (lo' : List Loc) (mm2 : Int64), Fr n0 lo' ∧ Stand p l e room_1 s m #[(.int ka), (.int kb), (.int kc), (.int kd), (.int fl)] below meth c T' lo' 6 19 ∧ T'.heap = h259 ∧ (mm2 = own_m mm1 (lve (2 : Int32)) (vve (2 : Int32))) ∧ Goes p e below s₁ (entryFrame m #[(.int ka), (.int kb), (.int kc), (.int kd), (.int fl)] maxLocals) T' (mkF m 274 #[.val (.int ka), .val (.int kb), .val (.int kc), .val (.int kd), .val (.int fl), .val (.ref b1), .val (.ref b16), .val (.ref b79), .val (.int ((1 : Int32) + ((Jvm.Free.XT.ushr fl (6 : Int32)) % (3 : Int32)))), .val (.long mm2), .second] []) := by
    by_cases hc347 : (lve (2 : Int32)) = (0 : Int32)
    · have go348 : Goes p e below s₁ (entryFrame m #[(.int ka), (.int kb), (.int kc), (.int kd), (.int fl)] maxLocals) T334 (mkF m 274 #[.val (.int ka), .val (.int kb), .val (.int kc), .val (.int kd), .val (.int fl), .val (.ref b1), .val (.ref b16), .val (.ref b79), .val (.int ((1 : Int32) + ((Jvm.Free.XT.ushr fl (6 : Int32)) % (3 : Int32)))), .val (.long mm1), .second] []) := fun t k => by
        refine go345 t ?_
        refine XS.ifYes X334.here hx rfl (pc0 := 259) (pc' := 274) rfl (hb hby at_259) rfl (Jvm.Free.XT.i0_eq_t hc347) (by decide) (by decide) ?_
        exact k
      exact ⟨T334, lo334, mm1, Nj334, X334, e334, (if_pos hc347).symm, go348⟩
    · have go349 : Goes p e below s₁ (entryFrame m #[(.int ka), (.int kb), (.int kc), (.int kd), (.int fl)] maxLocals) T334 (mkF m 267 #[.val (.int ka), .val (.int kb), .val (.int kc), .val (.int kd), .val (.int fl), .val (.ref b1), .val (.ref b16), .val (.ref b79), .val (.int ((1 : Int32) + ((Jvm.Free.XT.ushr fl (6 : Int32)) % (3 : Int32)))), .val (.long mm1), .second] [(.int (2 : Int32)), (.ref b16), (.long mm1)]) := fun t k => by
        refine go345 t ?_
        refine XS.ifNo X334.here hx rfl (hb hby at_259) rfl (Jvm.Free.XT.i0_eq_f hc347) ?_
        refine XS.lload X334.here hx rfl (hb hby at_262) rfl ?_
        refine XS.aload X334.here hx rfl (hb hby at_264) rfl rfl ?_
        refine XS.iconst X334.here hx rfl (hb hby at_266) ?_
        exact k
      obtain ⟨cl350, Ar350, kq350, Sz350, Nn350, Hs350, Gf350⟩ := id (fj259_8)
      have hin350 : ¬ ((2 : Int32) < 0 ∨ cl350.slots.size ≤ ((2 : Int32)).toNatClampNeg) := inb_of Sz350 (own_inb own_R2)
      have hat350 : cl350.slots[((2 : Int32)).toNatClampNeg]? = some (.int (vve (2 : Int32))) := Has.at Hs350 hin350 (own_l_at own_R2)
      have go351 : Goes p e below s₁ (entryFrame m #[(.int ka), (.int kb), (.int kc), (.int kd), (.int fl)] maxLocals) T334 (mkF m 269 #[.val (.int ka), .val (.int kb), .val (.int kc), .val (.int kd), .val (.int fl), .val (.ref b1), .val (.ref b16), .val (.ref b79), .val (.int ((1 : Int32) + ((Jvm.Free.XT.ushr fl (6 : Int32)) % (3 : Int32)))), .val (.long mm1), .second] [(.long ((vve (2 : Int32)).toInt64)), (.long mm1)]) := fun t k => by
        refine go349 t ?_
        refine X334.iaload hx (j := (2 : Int32)) (v := (.int (vve (2 : Int32)))) (own_hp e334 Ar350.1) (State.isArrayOf_alike hZ.alike Ar350.2.1) Ar350.2.2 hin350 hat350 (g := (mkF m 267 #[.val (.int ka), .val (.int kb), .val (.int kc), .val (.int kd), .val (.int fl), .val (.ref b1), .val (.ref b16), .val (.ref b79), .val (.int ((1 : Int32) + ((Jvm.Free.XT.ushr fl (6 : Int32)) % (3 : Int32)))), .val (.long mm1), .second] [(.int (2 : Int32)), (.ref b16), (.long mm1)])) rfl rfl (hb hby at_267) _ ?_
        refine XS.i2l X334.here hx rfl (hb hby at_268) rfl ?_
        exact k
      obtain ⟨_, _, ⟨T352, L352, k352, n352⟩, -, X352, ⟨Lc352, hQ352, l352, y352, z352⟩, st352⟩ := Jvm.LawKit.callS X334 hx (y := mN_6) hown (mvT hZ (own_wd hw 42 rfl)) (mvT hZ (own_wd hw 43 rfl)) (mvT hZ (own_wd hw 44 rfl)) (mvT hZ (own_wd hw 45 rfl)) (by decide) (backOf (W := 0) (rmMin l Z a0 hw [] mm1 ((vve (2 : Int32)).toInt64) h259 n0 Z259) hZ (own_wd hw 45 rfl) (own_wd hw 44 rfl) (by decide) (by decide)) (g := (mkF m 269 #[.val (.int ka), .val (.int kb), .val (.int kc), .val (.int kd), .val (.int fl), .val (.ref b1), .val (.ref b16), .val (.ref b79), .val (.int ((1 : Int32) + ((Jvm.Free.XT.ushr fl (6 : Int32)) % (3 : Int32)))), .val (.long mm1), .second] [(.long ((vve (2 : Int32)).toInt64)), (.long mm1)])) rfl (by rw [hml]; rfl) (argsL := [(.long mm1), (.long ((vve (2 : Int32)).toInt64))]) (rest := []) (lenOf pd_5 rfl) rfl (by show 2 * 0 + _ ≤ _; exact Nat.le_of_eq rfl) (hb hby at_269) (fun _ _ => ⟨rfl, e334, (by decide : 6 + 0 ≤ room_1.cells), (by decide : 19 + 0 ≤ room_1.slots)⟩)
      dsimp only [Pt.U, Pt.locs, Pt.cells, Pt.slots] at X352 l352 y352 z352 st352 hQ352
      subst l352 y352 z352
      obtain ⟨rfl, N352q, e352⟩ := hQ352
      have N352 := Fr.app Nj334 N352q
      have go353 : Goes p e below s₁ (entryFrame m #[(.int ka), (.int kb), (.int kc), (.int kd), (.int fl)] maxLocals) T352 (mkF m 272 #[.val (.int ka), .val (.int kb), .val (.int kc), .val (.int kd), .val (.int fl), .val (.ref b1), .val (.ref b16), .val (.ref b79), .val (.int ((1 : Int32) + ((Jvm.Free.XT.ushr fl (6 : Int32)) % (3 : Int32)))), .val (.long mm1), .second] [(.long (own_min mm1 ((vve (2 : Int32)).toInt64)))]) := fun t k => go351 t (st352 t k)
      have go354 : Goes p e below s₁ (entryFrame m #[(.int ka), (.int kb), (.int kc), (.int kd), (.int fl)] maxLocals) T352 (mkF m 274 #[.val (.int ka), .val (.int kb), .val (.int kc), .val (.int kd), .val (.int fl), .val (.ref b1), .val (.ref b16), .val (.ref b79), .val (.int ((1 : Int32) + ((Jvm.Free.XT.ushr fl (6 : Int32)) % (3 : Int32)))), .val (.long (own_min mm1 ((vve (2 : Int32)).toInt64))), .second] []) := fun t k => by
        refine go353 t ?_
        refine XS.lstore X352.here hx rfl (hb hby at_272) rfl (l' := #[.val (.int ka), .val (.int kb), .val (.int kc), .val (.int kd), .val (.int fl), .val (.ref b1), .val (.ref b16), .val (.ref b79), .val (.int ((1 : Int32) + ((Jvm.Free.XT.ushr fl (6 : Int32)) % (3 : Int32)))), .val (.long (own_min mm1 ((vve (2 : Int32)).toInt64))), .second]) rfl ?_
        exact k
      exact ⟨T352, (lo334 ++ Lc352), (own_min mm1 ((vve (2 : Int32)).toInt64)), N352, X352, e352, (if_neg hc347).symm, go354⟩
  have n0p : (0 : Int32) < nze := own_pos (own_I.rng hj259.1) hj259.2
  have go355 : Goes p e below s₁ (entryFrame m #[(.int ka), (.int kb), (.int kc), (.int kd), (.int fl)] maxLocals) T346 (mkF m 276 #[.val (.int ka), .val (.int kb), .val (.int kc), .val (.int kd), .val (.int fl), .val (.ref b1), .val (.ref b16), .val (.ref b79), .val (.int ((1 : Int32) + ((Jvm.Free.XT.ushr fl (6 : Int32)) % (3 : Int32)))), .val (.long mm2), .second] [(.ref b1)]) := fun t k => by
    refine go346j t ?_
    refine XS.aload X346.here hx rfl (hb hby at_274) rfl rfl ?_
    exact k
  obtain ⟨cq356, kq356, q356a, q356b, q356c⟩ := isOf hZ e346 fj259_0
  obtain ⟨_, _, ⟨T356, L356, k356, n356⟩, -, X356, ⟨Lc356, hQ356, l356, y356, z356⟩, st356⟩ := X346.virtualBack hx (y := mN_7) (z := mN_7) hown (mvT hZ (own_wd hw 46 rfl)) (mvT hZ (own_wd hw 47 rfl)) (notFace_of_selects (args := #[]) (mvT hZ (own_wd hw 49 rfl))) (mvT hZ (own_wd hw 49 rfl)) (mvT hZ (own_wd hw 48 rfl)) (by decide) (backOf (W := 0) (rmM l Z a0 hw [] b1 aK aI kk ki (own_k kve) sge.1 h259 n0 Z259 fj259_1 fj259_2 fj259_5 fj259_6 (hj259.1.1.a 0 (by decide) n0p).1) hZ (own_wd hw 50 rfl) (own_wd hw 2 rfl) (by decide) (by decide)) q356a q356c (g := (mkF m 276 #[.val (.int ka), .val (.int kb), .val (.int kc), .val (.int kd), .val (.int fl), .val (.ref b1), .val (.ref b16), .val (.ref b79), .val (.int ((1 : Int32) + ((Jvm.Free.XT.ushr fl (6 : Int32)) % (3 : Int32)))), .val (.long mm2), .second] [(.ref b1)])) rfl (by rw [hml]; rfl) (Steps.refl _) (argsL := []) (rest := []) (lenOf pd_6 rfl) rfl (by show 2 * 0 + _ ≤ _; exact Nat.le_of_eq rfl) (hb hby at_276) (fun _ _ => ⟨rfl, e346, (by decide : 6 + 0 ≤ room_1.cells), (by decide : 19 + 0 ≤ room_1.slots)⟩)
  dsimp only [Pt.U, Pt.locs, Pt.cells, Pt.slots] at X356 l356 y356 z356 st356 hQ356
  subst l356 y356 z356
  obtain ⟨rfl, N356q, e356⟩ := hQ356
  have N356 := Fr.app Nj346 N356q
  have go357 : Goes p e below s₁ (entryFrame m #[(.int ka), (.int kb), (.int kc), (.int kd), (.int fl)] maxLocals) T356 (mkF m 279 #[.val (.int ka), .val (.int kb), .val (.int kc), .val (.int kd), .val (.int fl), .val (.ref b1), .val (.ref b16), .val (.ref b79), .val (.int ((1 : Int32) + ((Jvm.Free.XT.ushr fl (6 : Int32)) % (3 : Int32)))), .val (.long mm2), .second] [(.double (own_k kve (sge.1 (0 : Int32))))]) := fun t k => go355 t (st356.trans k)
  have go358 : Goes p e below s₁ (entryFrame m #[(.int ka), (.int kb), (.int kc), (.int kd), (.int fl)] maxLocals) T356 (mkF m 283 #[.val (.int ka), .val (.int kb), .val (.int kc), .val (.int kd), .val (.int fl), .val (.ref b1), .val (.ref b16), .val (.ref b79), .val (.int ((1 : Int32) + ((Jvm.Free.XT.ushr fl (6 : Int32)) % (3 : Int32)))), .val (.long mm2), .second] [(.int (cmpValue (FP.dcmp (own_k kve (sge.1 (0 : Int32))) (FP.l2d mm2)) .l))]) := fun t k => by
    refine go357 t ?_
    refine XS.lload X356.here hx rfl (hb hby at_279) rfl ?_
    refine XS.l2dS X356.here hx rfl (hb hby at_281) rfl rfl ?_
    refine XS.dcmpS X356.here hx rfl (hb hby at_282) rfl rfl ?_
    exact k
  have go359 : Goes p e below s₁ (entryFrame m #[(.int ka), (.int kb), (.int kc), (.int kd), (.int fl)] maxLocals) T356 (mkF m 291 #[.val (.int ka), .val (.int kb), .val (.int kc), .val (.int kd), .val (.int fl), .val (.ref b1), .val (.ref b16), .val (.ref b79), .val (.int ((1 : Int32) + ((Jvm.Free.XT.ushr fl (6 : Int32)) % (3 : Int32)))), .val (.long mm2), .second] [(.int (1 : Int32))]) := fun t k => by
    refine go358 t ?_
    refine XS.ifNo X356.here hx rfl (hb hby at_283) rfl (Jvm.Free.XT.i0_ne_f (own_fin hj259.1 hj259.2 hj322 hj334 hj346)) ?_
    refine XS.iconst X356.here hx rfl (hb hby at_286) ?_
    refine XS.goto X356.here hx rfl (pc0 := 287) (pc' := 291) rfl (hb hby at_287) (by decide) (by decide) ?_
    exact k
  obtain ⟨fs, hr, hrun, hended, hW, hsame⟩ := X356.leave (v := some (.int (1 : Int32))) (fun h => by rw [Bd.returns] at h; cases h)
  refine ⟨_, _, go359 _ ?_, hrun, hended, _, _, rfl, ?_, ⟨_, rfl⟩, hW, hsame.mono (by decide) (by decide)⟩
  · exact retN X356 hx (t := .boolean) Bd.returns (by simp) (hb hby at_291) hr
  · show Q0 Z _ _ _ _ _ _ _ _ T356.heap _
    rw [e356]
    exact ⟨rfl, N356⟩
set_option maxRecDepth 65536 in
set_option maxHeartbeats 40000000 in
theorem comes_1 {Post : Tables → Env → Array Value → State → Outcome → State → Prop} (hpost : ∀ tb e args s v u, (limb_1_1.after args s (.returned v) u = true ∧ limb_1_2.after args s (.returned v) u = true ∧ True) → FrameEnd s (.returned v) u (Jvm.fieldLocs frame_1_writes args s ++ Jvm.arrayLocs frame_1_arrays args s ++ Jvm.staticLocs frame_1_statics s) 24 128 → Post tb e args s (.returned v) u) :
    ArmFor flags0 classFile x code maxLocals ret World_1 tables_1 room_1 Calls_1 rest_1 Pre_1 Post := by
  intro l hfl _ _ p e ha hc hk s m args below hf hA hF happ hP
  obtain ⟨hcalls, hrest, hpre⟩ := hP
  obtain ⟨-, -, -, hnamed, -, -, -, hat⟩ := (Spec.applies_iff hf).mp happ
  obtain ⟨hg, hn⟩ := and_e (Cond.before_iff.mp (show (Jvm.Cond.and given_1 narrow_1).before args s = true from hpre))
  obtain ⟨hg0, hg⟩ := and_e hg
  obtain ⟨ga0, hg⟩ := and_e hg
  obtain ⟨ga1, hg⟩ := and_e hg
  obtain ⟨ga2, hg⟩ := and_e hg
  obtain ⟨ga3, hg⟩ := and_e hg
  have ga4 := hg
  obtain ⟨w0, w1, w2, w3, w4, rfl⟩ : ∃ w0 w1 w2 w3 w4 : Value, args = #[w0, w1, w2, w3, w4] := by
    have hs : args.size = 5 := by simpa [Cond.value, given_1] using hg0
    obtain ⟨L⟩ := args
    match L, hs with
    | [w0, w1, w2, w3, w4], _ => exact ⟨w0, w1, w2, w3, w4, rfl⟩
  have hw := fun d (hd : d ∈ tables_1) => atoms_spec (ws := Jvm.Cond.code x code maxLocals ret :: tables_1) hat d (List.mem_cons_of_mem _ hd)
  have hfit : Fit s := fun {y c} hc i hi => by
    obtain ⟨ha, rfl⟩ := Array.getElem?_eq_some_iff.mp hc
    have q := List.all_eq_true.mp ((Array.all_eq_true_iff_forall_mem.mp hF) _ (Array.getElem_mem ha)) i (List.mem_range.mpr hi)
    simpa [Array.getElem?_eq_getElem hi] using q
  obtain ⟨i0, ei0⟩ := is_v ga0
  obtain rfl : w0 = (.int i0) := Option.some.inj ei0
  obtain ⟨i1, ei1⟩ := is_v ga1
  obtain rfl : w1 = (.int i1) := Option.some.inj ei1
  obtain ⟨i2, ei2⟩ := is_v ga2
  obtain rfl : w2 = (.int i2) := Option.some.inj ei2
  obtain ⟨i3, ei3⟩ := is_v ga3
  obtain rfl : w3 = (.int i3) := Option.some.inj ei3
  obtain ⟨i4, ei4⟩ := is_v ga4
  obtain rfl : w4 = (.int i4) := Option.some.inj ei4
  obtain ⟨n, o, h1, h2, h3, _, L, rfl, ⟨rfl, N⟩, hq⟩ := rm0 l s _ hw tables_1 i0 i1 i2 i3 i4 s.heap s.heap.size (Nat.le_refl _) p e ha hc hk s m _ below hf ((Spec.applies_iff_loose hf).mp happ).1 ⟨rfl, State.Warmed39.refl s, rfl⟩ trivial
  refine ⟨n, _, h1, h2, h3, hpost _ _ _ _ _ _ ⟨Cond.after_iff.mpr rfl, Cond.after_iff.mpr (eq_i res_at (Term.int_eval (1)) rfl), trivial⟩ ⟨hq.1, hq.2.1, (hq.2.2.sift fun y hy => Or.inr (N y hy)).mono (by decide) (by decide)⟩⟩
theorem main_1_1 : Claimed_1_1 := comes_1 fun _ _ _ _ _ _ h hF => ⟨h.1, hF⟩
theorem main_1_2 : Claimed_1_2 := comes_1 fun _ _ _ _ _ _ h hF => ⟨h.2.1, hF⟩
end Jvm.Pilot.@@N@@
namespace Jvm.Pilot.@@N@@
open Jvm Jvm.ClassFile Sem Op Lib Jvm.Free Jvm.Stand Jvm.Pilot.@@N@@.Jvm.D
/-! MADE BY PROGRAM (witnessworld.py) out of the Statement's table words and the real class files: 13 classes; the members and pool entries that the words name. The judged class is class 1, her method 1. -/
namespace start1
open Jvm.ClassFile
def u (s : String) : CpInfo := .utf8 (stringToUtf16 s)
/-- a pool by its gaps: so many unusable entries, then the entry; so many at the end -/
def gap : Nat → List CpInfo → List CpInfo
  | 0, r => r
  | n + 1, r => .unusable :: gap n r
def poolList (es : List (Nat × CpInfo)) (last : Nat) : List CpInfo := es.foldr (fun e r => gap e.1 (e.2 :: r)) (gap last [])
def pool (es : List (Nat × CpInfo)) (last : Nat) : Array CpInfo := ⟨poolList es last⟩
def fileOf (pool : Array CpInfo) (this : Nat) (attrs : Array Attribute := #[]) (ms : Array MethodInfo := #[]) (fl : Nat := 33) (sup : Nat := 0) (ifs : Array Nat := #[]) (fds : Array FieldInfo := #[]) : ClassFile where
  minorVersion := 0
  majorVersion := 65
  constantPool := pool
  accessFlags := fl
  thisClass := this
  superClass := sup
  interfaces := ifs
  fields := fds
  methods := ms
  attributes := attrs
def plain (name : String) (sup : Option ClassId) : Class where
  name := name
  kind := .ordinary
  loader := none
  accessFlags := 33
  super := sup
  interfaces := #[]
  cf := none
  fields := #[]
  methods := #[]
  instanceTypes := #[]
  staticTypes := #[]
  resolved := #[]
  callSites := []
  init := .initialized
  statics := none
  mirror := none

def pool0 : Array CpInfo := pool [(5, u "<init>"), (0, u "()V"), (1, .class_ 10), (1, u "java/lang/Object")] 113

def k0c0 : Code := { maxStack := 0, maxLocals := 1, code := object_method_1_code, exceptionTable := #[], attributes := #[] }
def k0m0 : Method := { name := "<init>", desc := "()V", sig := { parameters := [], returnType := none }, accessFlags := 1, code := some k0c0 }
/-- java/lang/Object -/
def k0 : Class := { plain "java/lang/Object" none with
  accessFlags := 33
  interfaces := #[]
  cf := some (fileOf pool0 8 #[] #[{ accessFlags := 1, nameIndex := 5, descriptorIndex := 6, attributes := #[] }] 33 0 #[] #[])
  fields := #[]
  methods := #[k0m0]
  instanceTypes := #[]
  staticTypes := #[]
  resolved := Array.replicate 124 none
  statics := none }

def pool1 : Array CpInfo := pool [(2, .class_ 4), (1, u "java/lang/Object"), (0, u "<init>"), (0, u "()V"), (0, .class_ 8), (0, u "com/example/covermesh/covermesh/algorithms/IndexedMinHeap"), (0, .methodref 7 10), (0, .nameAndType 5 11), (0, u "(I)V"), (0, .methodref 7 13), (0, .nameAndType 14 15), (0, u "put"), (0, u "(ID)V"), (0, .methodref 7 17), (0, .nameAndType 18 11), (0, u "remove"), (2, .long 9223372036854775807), (1, .methodref 24 25), (0, .class_ 26), (0, .nameAndType 27 28), (0, u "java/lang/Math"), (0, u "min"), (0, u "(JJ)J"), (0, .methodref 7 30), (0, .nameAndType 31 32), (0, u "minKey"), (0, u "()D"), (0, .class_ 34), (0, u "com/example/covermesh/covermesh/algorithms/IndexedMinHeapMinKeyPinLaw"), (2, u "law"), (0, u "(IIIII)Z")] 7

def k1m0 : Method := { name := "<init>", desc := "()V", sig := { parameters := [], returnType := none }, accessFlags := 1, code := none }
def k1c1 : Code := { maxStack := 4, maxLocals := 11, code := code, exceptionTable := #[], attributes := #[] }
def k1m1 : Method := { name := "law", desc := "(IIIII)Z", sig := { parameters := [.int, .int, .int, .int, .int], returnType := some .boolean }, accessFlags := 9, code := some k1c1 }
/-- com/example/covermesh/covermesh/algorithms/IndexedMinHeapMinKeyPinLaw -/
def k1 : Class := { plain "com/example/covermesh/covermesh/algorithms/IndexedMinHeapMinKeyPinLaw" (some 0) with
  accessFlags := 49
  interfaces := #[]
  cf := some (fileOf pool1 33 #[] #[{ accessFlags := 1, nameIndex := 5, descriptorIndex := 6, attributes := #[] }, { accessFlags := 9, nameIndex := 37, descriptorIndex := 38, attributes := #[] }] 49 2 #[] #[])
  fields := #[]
  methods := #[k1m0, k1m1]
  instanceTypes := #[]
  staticTypes := #[]
  resolved := Array.replicate 46 none
  statics := none }

def pool2 : Array CpInfo := pool [(1, .methodref 2 3), (0, .class_ 4), (0, .nameAndType 5 6), (0, u "java/lang/Object"), (0, u "<init>"), (0, u "()V"), (0, .fieldref 8 9), (0, .class_ 10), (0, .nameAndType 11 12), (0, u "com/example/covermesh/covermesh/algorithms/IndexedMinHeap"), (0, u "keys"), (0, u "[D"), (0, .fieldref 8 14), (0, .nameAndType 15 16), (0, u "items"), (0, u "[I"), (0, .fieldref 8 18), (0, .nameAndType 19 16), (0, u "positions"), (0, .methodref 21 22), (0, .class_ 23), (0, .nameAndType 24 25), (0, u "java/util/Arrays"), (0, u "fill"), (0, u "([II)V"), (0, .fieldref 8 27), (0, .nameAndType 28 29), (0, u "size"), (0, u "I"), (0, .methodref 8 31), (0, .nameAndType 32 33), (0, u "siftUp"), (0, u "(I)V"), (0, .methodref 8 35), (0, .nameAndType 36 33), (0, u "siftDown"), (2, u "remove"), (0, .methodref 8 41), (0, .nameAndType 42 43), (0, u "less"), (0, u "(II)Z"), (0, .methodref 8 45), (0, .nameAndType 46 47), (0, u "move"), (0, u "(II)V"), (5, u "minKey"), (0, u "()D"), (0, u "put"), (0, u "(ID)V")] 4

def k2c0 : Code := { maxStack := 2, maxLocals := 2, code := prog_17_method_1_code, exceptionTable := #[], attributes := #[] }
def k2m0 : Method := { name := "<init>", desc := "(I)V", sig := { parameters := [.int], returnType := none }, accessFlags := 0, code := some k2c0 }
def k2c1 : Code := { maxStack := 3, maxLocals := 1, code := prog_17_method_3_code, exceptionTable := #[], attributes := #[] }
def k2m1 : Method := { name := "minKey", desc := "()D", sig := { parameters := [], returnType := some .double }, accessFlags := 0, code := some k2c1 }
def k2c2 : Code := { maxStack := 6, maxLocals := 4, code := prog_17_method_4_code, exceptionTable := #[], attributes := #[] }
def k2m2 : Method := { name := "put", desc := "(ID)V", sig := { parameters := [.int, .double], returnType := none }, accessFlags := 0, code := some k2c2 }
def k2c3 : Code := { maxStack := 3, maxLocals := 4, code := prog_17_method_6_code, exceptionTable := #[], attributes := #[] }
def k2m3 : Method := { name := "remove", desc := "(I)V", sig := { parameters := [.int], returnType := none }, accessFlags := 0, code := some k2c3 }
def k2c4 : Code := { maxStack := 5, maxLocals := 4, code := prog_17_method_7_code, exceptionTable := #[], attributes := #[] }
def k2m4 : Method := { name := "siftUp", desc := "(I)V", sig := { parameters := [.int], returnType := none }, accessFlags := 2, code := some k2c4 }
def k2c5 : Code := { maxStack := 4, maxLocals := 4, code := prog_17_method_8_code, exceptionTable := #[], attributes := #[] }
def k2m5 : Method := { name := "siftDown", desc := "(I)V", sig := { parameters := [.int], returnType := none }, accessFlags := 2, code := some k2c5 }
def k2c6 : Code := { maxStack := 3, maxLocals := 3, code := prog_17_method_9_code, exceptionTable := #[], attributes := #[] }
def k2m6 : Method := { name := "move", desc := "(II)V", sig := { parameters := [.int, .int], returnType := none }, accessFlags := 2, code := some k2c6 }
def k2c7 : Code := { maxStack := 4, maxLocals := 3, code := prog_17_method_10_code, exceptionTable := #[], attributes := #[] }
def k2m7 : Method := { name := "less", desc := "(II)Z", sig := { parameters := [.int, .int], returnType := some .boolean }, accessFlags := 2, code := some k2c7 }
/-- com/example/covermesh/covermesh/algorithms/IndexedMinHeap -/
def k2 : Class := { plain "com/example/covermesh/covermesh/algorithms/IndexedMinHeap" (some 0) with
  accessFlags := 48
  interfaces := #[]
  cf := some (fileOf pool2 8 #[] #[{ accessFlags := 0, nameIndex := 5, descriptorIndex := 33, attributes := #[] }, { accessFlags := 0, nameIndex := 53, descriptorIndex := 54, attributes := #[] }, { accessFlags := 0, nameIndex := 55, descriptorIndex := 56, attributes := #[] }, { accessFlags := 0, nameIndex := 39, descriptorIndex := 33, attributes := #[] }, { accessFlags := 2, nameIndex := 32, descriptorIndex := 33, attributes := #[] }, { accessFlags := 2, nameIndex := 36, descriptorIndex := 33, attributes := #[] }, { accessFlags := 2, nameIndex := 46, descriptorIndex := 47, attributes := #[] }, { accessFlags := 2, nameIndex := 42, descriptorIndex := 43, attributes := #[] }] 48 2 #[] #[{ accessFlags := 18, nameIndex := 11, descriptorIndex := 12, attributes := #[] }, { accessFlags := 18, nameIndex := 15, descriptorIndex := 16, attributes := #[] }, { accessFlags := 18, nameIndex := 19, descriptorIndex := 16, attributes := #[] }, { accessFlags := 2, nameIndex := 28, descriptorIndex := 29, attributes := #[] }])
  fields := #[{ name := "keys", type := (.array .double), accessFlags := 18, slot := 0, constantValue := 0 }, { name := "items", type := (.array .int), accessFlags := 18, slot := 1, constantValue := 0 }, { name := "positions", type := (.array .int), accessFlags := 18, slot := 2, constantValue := 0 }, { name := "size", type := .int, accessFlags := 2, slot := 3, constantValue := 0 }]
  methods := #[k2m0, k2m1, k2m2, k2m3, k2m4, k2m5, k2m6, k2m7]
  instanceTypes := #[(.array .double), (.array .int), (.array .int), .int]
  staticTypes := #[]
  resolved := Array.replicate 61 none
  statics := none }

def pool3 : Array CpInfo := pool [(2, .class_ 4), (1, u "java/lang/Object"), (0, u "<init>"), (0, u "()V"), (7, .class_ 16), (1, u "java/util/Arrays"), (57, .class_ 76), (1, u "java/util/Arrays$NaturalOrder"), (36, .class_ 115), (1, u "java/util/Arrays$LegacyMergeSort"), (1, u "Z"), (257, .class_ 376), (0, u "java/util/Arrays$ArrayList"), (68, u "$assertionsDisabled"), (269, u "MIN_ARRAY_SORT_GRAN"), (0, u "I"), (2, u "INSERTIONSORT_THRESHOLD"), (120, u "fill"), (4, u "([II)V"), (129, .class_ 976), (0, u "java/util/Arrays$ArrayItr")] 52

def k3m0 : Method := { name := "<init>", desc := "()V", sig := { parameters := [], returnType := none }, accessFlags := 2, code := none }
def k3c1 : Code := { maxStack := 3, maxLocals := 4, code := jdk_65_method_103_code, exceptionTable := #[], attributes := #[] }
def k3m1 : Method := { name := "fill", desc := "([II)V", sig := { parameters := [(.array .int), .int], returnType := none }, accessFlags := 9, code := some k3c1 }
/-- java/util/Arrays -/
def k3 : Class := { plain "java/util/Arrays" (some 0) with
  accessFlags := 49
  interfaces := #[]
  cf := some (fileOf pool3 14 #[.nestMembers #[975, 375, 113, 74]] #[{ accessFlags := 2, nameIndex := 5, descriptorIndex := 6, attributes := #[] }, { accessFlags := 9, nameIndex := 840, descriptorIndex := 845, attributes := #[] }] 49 2 #[] #[{ accessFlags := 26, nameIndex := 715, descriptorIndex := 716, attributes := #[] }, { accessFlags := 26, nameIndex := 719, descriptorIndex := 716, attributes := #[] }, { accessFlags := 4120, nameIndex := 445, descriptorIndex := 117, attributes := #[] }])
  fields := #[{ name := "MIN_ARRAY_SORT_GRAN", type := .int, accessFlags := 26, slot := 0, constantValue := 0 }, { name := "INSERTIONSORT_THRESHOLD", type := .int, accessFlags := 26, slot := 1, constantValue := 0 }, { name := "$assertionsDisabled", type := .boolean, accessFlags := 4120, slot := 2, constantValue := 0 }]
  methods := #[k3m0, k3m1]
  instanceTypes := #[]
  staticTypes := #[.int, .int, .boolean]
  resolved := Array.replicate 1029 none
  statics := none }

def pool4 : Array CpInfo := pool [(1, .class_ 2), (0, u "java/lang/Math"), (1, .class_ 6), (1, u "java/lang/Object"), (0, u "<init>"), (0, u "()V"), (89, .class_ 100), (1, u "java/lang/Math$RandomNumberGeneratorHolder"), (20, u "(JJ)J"), (50, u "negativeZeroFloatBits"), (0, u "J"), (2, u "negativeZeroDoubleBits"), (24, u "min"), (43, u "$assertionsDisabled"), (0, u "Z"), (91, u "twoToTheDoubleScaleDown"), (0, u "D"), (4, u "twoToTheDoubleScaleUp"), (9, u "E"), (3, u "PI"), (2, u "TAU"), (2, u "DEGREES_TO_RADIANS"), (0, u "RADIANS_TO_DEGREES")] 94

def k4m0 : Method := { name := "<init>", desc := "()V", sig := { parameters := [], returnType := none }, accessFlags := 2, code := none }
def k4c1 : Code := { maxStack := 4, maxLocals := 4, code := jdk_29_method_70_code, exceptionTable := #[], attributes := #[] }
def k4m1 : Method := { name := "min", desc := "(JJ)J", sig := { parameters := [.long, .long], returnType := some .long }, accessFlags := 9, code := some k4c1 }
/-- java/lang/Math -/
def k4 : Class := { plain "java/lang/Math" (some 0) with
  accessFlags := 49
  interfaces := #[]
  cf := some (fileOf pool4 1 #[.nestMembers #[98]] #[{ accessFlags := 2, nameIndex := 7, descriptorIndex := 8, attributes := #[] }, { accessFlags := 9, nameIndex := 201, descriptorIndex := 121, attributes := #[] }] 49 4 #[] #[{ accessFlags := 25, nameIndex := 354, descriptorIndex := 339, attributes := #[] }, { accessFlags := 25, nameIndex := 358, descriptorIndex := 339, attributes := #[] }, { accessFlags := 25, nameIndex := 361, descriptorIndex := 339, attributes := #[] }, { accessFlags := 26, nameIndex := 364, descriptorIndex := 339, attributes := #[] }, { accessFlags := 26, nameIndex := 365, descriptorIndex := 339, attributes := #[] }, { accessFlags := 26, nameIndex := 172, descriptorIndex := 173, attributes := #[] }, { accessFlags := 26, nameIndex := 176, descriptorIndex := 173, attributes := #[] }, { accessFlags := 8, nameIndex := 344, descriptorIndex := 339, attributes := #[] }, { accessFlags := 8, nameIndex := 338, descriptorIndex := 339, attributes := #[] }, { accessFlags := 4120, nameIndex := 245, descriptorIndex := 246, attributes := #[] }])
  fields := #[{ name := "E", type := .double, accessFlags := 25, slot := 0, constantValue := 0 }, { name := "PI", type := .double, accessFlags := 25, slot := 1, constantValue := 0 }, { name := "TAU", type := .double, accessFlags := 25, slot := 2, constantValue := 0 }, { name := "DEGREES_TO_RADIANS", type := .double, accessFlags := 26, slot := 3, constantValue := 0 }, { name := "RADIANS_TO_DEGREES", type := .double, accessFlags := 26, slot := 4, constantValue := 0 }, { name := "negativeZeroFloatBits", type := .long, accessFlags := 26, slot := 5, constantValue := 0 }, { name := "negativeZeroDoubleBits", type := .long, accessFlags := 26, slot := 6, constantValue := 0 }, { name := "twoToTheDoubleScaleUp", type := .double, accessFlags := 8, slot := 7, constantValue := 0 }, { name := "twoToTheDoubleScaleDown", type := .double, accessFlags := 8, slot := 8, constantValue := 0 }, { name := "$assertionsDisabled", type := .boolean, accessFlags := 4120, slot := 9, constantValue := 0 }]
  methods := #[k4m0, k4m1]
  instanceTypes := #[]
  staticTypes := #[.double, .double, .double, .double, .double, .long, .long, .double, .double, .boolean]
  resolved := Array.replicate 460 none
  statics := none }

def pool5 : Array CpInfo := pool [(1, u "java/lang/Cloneable"), (0, .class_ 1), (0, u "java/lang/Object"), (0, .class_ 3)] 3

/-- java/lang/Cloneable -/
def k5 : Class := { plain "java/lang/Cloneable" (some 0) with
  accessFlags := 1537
  interfaces := #[]
  cf := some (fileOf pool5 2 #[] #[] 1537 4 #[] #[])
  fields := #[]
  methods := #[]
  instanceTypes := #[]
  staticTypes := #[]
  resolved := Array.replicate 8 none
  statics := none }

def pool6 : Array CpInfo := pool [(1, u "java/io/Serializable"), (0, .class_ 1), (0, u "java/lang/Object"), (0, .class_ 3)] 3

/-- java/io/Serializable -/
def k6 : Class := { plain "java/io/Serializable" (some 0) with
  accessFlags := 1537
  interfaces := #[]
  cf := some (fileOf pool6 2 #[] #[] 1537 4 #[] #[])
  fields := #[]
  methods := #[]
  instanceTypes := #[]
  staticTypes := #[]
  resolved := Array.replicate 8 none
  statics := none }

/-- the primitive boolean -/
def k7 : Class := { plain "boolean" none with kind := .primitive 'Z', accessFlags := 0x411 }
/-- [Z -/
def k8 : Class := { plain "[Z" (some 0) with kind := .array 7 .boolean, interfaces := #[5, 6], accessFlags := 1041 }

/-- the primitive byte -/
def k9 : Class := { plain "byte" none with kind := .primitive 'B', accessFlags := 0x411 }
/-- [B -/
def k10 : Class := { plain "[B" (some 0) with kind := .array 9 .byte, interfaces := #[5, 6], accessFlags := 1041 }

/-- the primitive int -/
def k11 : Class := { plain "int" none with kind := .primitive 'I', accessFlags := 0x411 }
/-- [I -/
def k12 : Class := { plain "[I" (some 0) with kind := .array 11 .int, interfaces := #[5, 6], accessFlags := 1041 }

def heap : Heap := #[]
def k13 : Class := { plain "double" none with kind := .primitive 'D', accessFlags := 0x411 }
def k14 : Class := { plain "[D" (some 0) with kind := .array 13 .double, interfaces := #[5, 6], accessFlags := 1041 }
def classes : Array Class := #[k0, k1, k2, k3, k4, k5, k6, k7, k8, k9, k10, k11, k12, k13, k14]
def interned : List (Array UInt16 × Addr) := []
def slotsUsed : Nat := 0
def theMethod : MethodId := ⟨1, 1⟩
def args0 : Array Value := #[.int 5, .int 3, .int 9, .int 7, .int 3]
def aboutOver (below : List Frame) : State where
  vm := { classes := classes, interned := interned.toArray }
  heap := heap
  slotsUsed := slotsUsed
  threads := #[{ frames := .invoking theMethod args0 :: below }]
def below0 : List Frame := [.native { method := ⟨0, 0⟩, args := #[] }]
def about1 : State := aboutOver below0
def p0 : Program := .bare "" "" ""
def e0 : Env := launch0.env 0 0 0
theorem w_frames : about1.frames = Frame.invoking theMethod args0 :: below0 := rfl
set_option maxRecDepth 65536 in
theorem w_args : argsFit about1.vm theMethod args0 = true := by decide +kernel
set_option maxRecDepth 65536 in
theorem w_heap : heapFits about1 = true := by decide +kernel
set_option maxRecDepth 65536 in
theorem w_runnable : about1.curStatus? = some .runnable := by decide +kernel
set_option maxRecDepth 65536 in
theorem w_alone : about1.alone = true := by decide +kernel
set_option maxRecDepth 65536 in
theorem w_named : about1.methodNamed? x = some theMethod := by decide +kernel
set_option maxRecDepth 65536 in
theorem w_hears : about1.hears theMethod below0 = true := by decide +kernel
set_option maxRecDepth 65536 in
theorem w_ripe : about1.ripe theMethod args0 below0 = true := by decide +kernel
theorem w_running : about1.status = .running := rfl
set_option maxRecDepth 65536 in
theorem w_room : about1.hasRoom e0.platform room_1 = true :=
  launch0.hasRoom_least _ room_1 (by decide +kernel) (by decide +kernel) (by decide +kernel) (by decide +kernel) (by decide +kernel) (by decide +kernel)
theorem allAtoms_all (ts : List Jvm.Cond) (a : Array Jvm.Value) (st : Jvm.State) : (allAtoms ts).before a st = ts.all (fun c => c.before a st) := by
  induction ts with
  | nil => rfl
  | cons c t ih =>
    show (Jvm.Cond.and c (allAtoms t)).before a st = _
    rw [Jvm.Cond.before_and, ih, List.all_cons]
def words1 : List Jvm.Cond := Jvm.Cond.code x code maxLocals ret :: tables_1
/-- a 'code' word, met by the world's own term for the bytes: nothing is compared byte by byte -/
theorem code_word {y : MethodName} {bytes : ByteArray} {mx : Nat} {rt : Option FieldType} {a : Array Value} {s : State} {m : MethodId} {meth : Method} {c : Code} (h1 : s.methodNamed? y = some m) (h2 : s.vm.method? m = some meth) (h3 : meth.code = some c) (h4 : c.code = bytes)
    (h5 : (c.maxLocals == mx && c.exceptionTable.isEmpty && decide (c.maxStack ≤ mostOperands) && decide (meth.sig.returnType = rt) && !meth.locks && decide (parseMethodDescriptor y.desc = some meth.sig)) = true) : (Jvm.Cond.code y bytes mx rt).before a s = true := by
  simp only [Bool.and_eq_true, beq_iff_eq, Bool.not_eq_true', decide_eq_true_eq] at h5
  obtain ⟨⟨⟨⟨⟨g1, g2⟩, g3⟩, g4⟩, g5⟩, g6⟩ := h5
  simp [Cond.before, Cond.holds, Cond.value, h1, h2, h3, h4, g1, g2, g3, g4, g5, g6]
def isCode : Jvm.Cond → Bool
  | .code _ _ _ _ => true
  | _ => false
theorem all_split {L : List Jvm.Cond} {P : Jvm.Cond → Bool} (h1 : L.all (fun c => isCode c || P c) = true) (h2 : ∀ c ∈ L.filter isCode, P c = true) : L.all P = true := by
  refine List.all_eq_true.mpr fun c hc => ?_
  have h := List.all_eq_true.mp h1 c hc
  rcases Bool.eq_false_or_eq_true (isCode c) with hi | hi
  · exact h2 c (List.mem_filter.mpr ⟨hc, hi⟩)
  · simpa [hi] using h
set_option maxRecDepth 65536 in
theorem w_c0 : (Jvm.Cond.code x code maxLocals ret).before args0 about1 = true := code_word (m := ⟨1, 1⟩) (meth := k1m1) (c := k1c1) (by decide +kernel) rfl rfl rfl (by decide +kernel)
set_option maxRecDepth 65536 in
theorem w_c1 : (Jvm.Cond.code ({ cls := "com/example/covermesh/covermesh/algorithms/IndexedMinHeap", name := "<init>", desc := "(I)V" } : Jvm.MethodName) prog_17_method_1_code (2 : Nat) (Option.none : Option Jvm.ClassFile.FieldType)).before args0 about1 = true := code_word (m := ⟨2, 0⟩) (meth := k2m0) (c := k2c0) (by decide +kernel) rfl rfl rfl (by decide +kernel)
set_option maxRecDepth 65536 in
theorem w_c2 : (Jvm.Cond.code ({ cls := "java/lang/Object", name := "<init>", desc := "()V" } : Jvm.MethodName) object_method_1_code (1 : Nat) (Option.none : Option Jvm.ClassFile.FieldType)).before args0 about1 = true := code_word (m := ⟨0, 0⟩) (meth := k0m0) (c := k0c0) (by decide +kernel) rfl rfl rfl (by decide +kernel)
set_option maxRecDepth 65536 in
theorem w_c3 : (Jvm.Cond.code ({ cls := "java/util/Arrays", name := "fill", desc := "([II)V" } : Jvm.MethodName) jdk_65_method_103_code (4 : Nat) (Option.none : Option Jvm.ClassFile.FieldType)).before args0 about1 = true := code_word (m := ⟨3, 1⟩) (meth := k3m1) (c := k3c1) (by decide +kernel) rfl rfl rfl (by decide +kernel)
set_option maxRecDepth 65536 in
theorem w_c4 : (Jvm.Cond.code ({ cls := "com/example/covermesh/covermesh/algorithms/IndexedMinHeap", name := "put", desc := "(ID)V" } : Jvm.MethodName) prog_17_method_4_code (4 : Nat) (Option.none : Option Jvm.ClassFile.FieldType)).before args0 about1 = true := code_word (m := ⟨2, 2⟩) (meth := k2m2) (c := k2c2) (by decide +kernel) rfl rfl rfl (by decide +kernel)
set_option maxRecDepth 65536 in
theorem w_c5 : (Jvm.Cond.code ({ cls := "com/example/covermesh/covermesh/algorithms/IndexedMinHeap", name := "siftUp", desc := "(I)V" } : Jvm.MethodName) prog_17_method_7_code (4 : Nat) (Option.none : Option Jvm.ClassFile.FieldType)).before args0 about1 = true := code_word (m := ⟨2, 4⟩) (meth := k2m4) (c := k2c4) (by decide +kernel) rfl rfl rfl (by decide +kernel)
set_option maxRecDepth 65536 in
theorem w_c6 : (Jvm.Cond.code ({ cls := "com/example/covermesh/covermesh/algorithms/IndexedMinHeap", name := "move", desc := "(II)V" } : Jvm.MethodName) prog_17_method_9_code (3 : Nat) (Option.none : Option Jvm.ClassFile.FieldType)).before args0 about1 = true := code_word (m := ⟨2, 6⟩) (meth := k2m6) (c := k2c6) (by decide +kernel) rfl rfl rfl (by decide +kernel)
set_option maxRecDepth 65536 in
theorem w_c7 : (Jvm.Cond.code ({ cls := "com/example/covermesh/covermesh/algorithms/IndexedMinHeap", name := "siftDown", desc := "(I)V" } : Jvm.MethodName) prog_17_method_8_code (4 : Nat) (Option.none : Option Jvm.ClassFile.FieldType)).before args0 about1 = true := code_word (m := ⟨2, 5⟩) (meth := k2m5) (c := k2c5) (by decide +kernel) rfl rfl rfl (by decide +kernel)
set_option maxRecDepth 65536 in
theorem w_c8 : (Jvm.Cond.code ({ cls := "java/lang/Math", name := "min", desc := "(JJ)J" } : Jvm.MethodName) jdk_29_method_70_code (4 : Nat) (Option.some Jvm.ClassFile.FieldType.long)).before args0 about1 = true := code_word (m := ⟨4, 1⟩) (meth := k4m1) (c := k4c1) (by decide +kernel) rfl rfl rfl (by decide +kernel)
set_option maxRecDepth 65536 in
theorem w_c9 : (Jvm.Cond.code ({ cls := "com/example/covermesh/covermesh/algorithms/IndexedMinHeap", name := "minKey", desc := "()D" } : Jvm.MethodName) prog_17_method_3_code (1 : Nat) (Option.some Jvm.ClassFile.FieldType.double)).before args0 about1 = true := code_word (m := ⟨2, 1⟩) (meth := k2m1) (c := k2c1) (by decide +kernel) rfl rfl rfl (by decide +kernel)
set_option maxRecDepth 65536 in
theorem w_c10 : (Jvm.Cond.code ({ cls := "com/example/covermesh/covermesh/algorithms/IndexedMinHeap", name := "less", desc := "(II)Z" } : Jvm.MethodName) prog_17_method_10_code (3 : Nat) (Option.some Jvm.ClassFile.FieldType.boolean)).before args0 about1 = true := code_word (m := ⟨2, 7⟩) (meth := k2m7) (c := k2c7) (by decide +kernel) rfl rfl rfl (by decide +kernel)
set_option maxRecDepth 65536 in
theorem w_c11 : (Jvm.Cond.code ({ cls := "com/example/covermesh/covermesh/algorithms/IndexedMinHeap", name := "remove", desc := "(I)V" } : Jvm.MethodName) prog_17_method_6_code (4 : Nat) (Option.none : Option Jvm.ClassFile.FieldType)).before args0 about1 = true := code_word (m := ⟨2, 3⟩) (meth := k2m3) (c := k2c3) (by decide +kernel) rfl rfl rfl (by decide +kernel)
def codes1 : List Jvm.Cond := [Jvm.Cond.code x code maxLocals ret, Jvm.Cond.code ({ cls := "com/example/covermesh/covermesh/algorithms/IndexedMinHeap", name := "<init>", desc := "(I)V" } : Jvm.MethodName) prog_17_method_1_code (2 : Nat) (Option.none : Option Jvm.ClassFile.FieldType), Jvm.Cond.code ({ cls := "java/lang/Object", name := "<init>", desc := "()V" } : Jvm.MethodName) object_method_1_code (1 : Nat) (Option.none : Option Jvm.ClassFile.FieldType), Jvm.Cond.code ({ cls := "java/util/Arrays", name := "fill", desc := "([II)V" } : Jvm.MethodName) jdk_65_method_103_code (4 : Nat) (Option.none : Option Jvm.ClassFile.FieldType), Jvm.Cond.code ({ cls := "com/example/covermesh/covermesh/algorithms/IndexedMinHeap", name := "put", desc := "(ID)V" } : Jvm.MethodName) prog_17_method_4_code (4 : Nat) (Option.none : Option Jvm.ClassFile.FieldType), Jvm.Cond.code ({ cls := "com/example/covermesh/covermesh/algorithms/IndexedMinHeap", name := "siftUp", desc := "(I)V" } : Jvm.MethodName) prog_17_method_7_code (4 : Nat) (Option.none : Option Jvm.ClassFile.FieldType), Jvm.Cond.code ({ cls := "com/example/covermesh/covermesh/algorithms/IndexedMinHeap", name := "move", desc := "(II)V" } : Jvm.MethodName) prog_17_method_9_code (3 : Nat) (Option.none : Option Jvm.ClassFile.FieldType), Jvm.Cond.code ({ cls := "com/example/covermesh/covermesh/algorithms/IndexedMinHeap", name := "siftDown", desc := "(I)V" } : Jvm.MethodName) prog_17_method_8_code (4 : Nat) (Option.none : Option Jvm.ClassFile.FieldType), Jvm.Cond.code ({ cls := "java/lang/Math", name := "min", desc := "(JJ)J" } : Jvm.MethodName) jdk_29_method_70_code (4 : Nat) (Option.some Jvm.ClassFile.FieldType.long), Jvm.Cond.code ({ cls := "com/example/covermesh/covermesh/algorithms/IndexedMinHeap", name := "minKey", desc := "()D" } : Jvm.MethodName) prog_17_method_3_code (1 : Nat) (Option.some Jvm.ClassFile.FieldType.double), Jvm.Cond.code ({ cls := "com/example/covermesh/covermesh/algorithms/IndexedMinHeap", name := "less", desc := "(II)Z" } : Jvm.MethodName) prog_17_method_10_code (3 : Nat) (Option.some Jvm.ClassFile.FieldType.boolean), Jvm.Cond.code ({ cls := "com/example/covermesh/covermesh/algorithms/IndexedMinHeap", name := "remove", desc := "(I)V" } : Jvm.MethodName) prog_17_method_6_code (4 : Nat) (Option.none : Option Jvm.ClassFile.FieldType)]
set_option maxRecDepth 65536 in
theorem codes_eq : words1.filter isCode = codes1 := rfl
theorem w_codes : ∀ c ∈ words1.filter isCode, c.before args0 about1 = true := by
  rw [codes_eq]
  intro c hc
  simp only [codes1, List.mem_cons, List.not_mem_nil, or_false] at hc
  rcases hc with rfl | rfl | rfl | rfl | rfl | rfl | rfl | rfl | rfl | rfl | rfl | rfl
  · exact w_c0
  · exact w_c1
  · exact w_c2
  · exact w_c3
  · exact w_c4
  · exact w_c5
  · exact w_c6
  · exact w_c7
  · exact w_c8
  · exact w_c9
  · exact w_c10
  · exact w_c11
set_option maxRecDepth 65536 in
theorem w_t1 : (words1.take 24).all (fun c => isCode c || c.before args0 about1) = true := by decide +kernel
set_option maxRecDepth 65536 in
theorem w_t2 : ((words1.drop 24).take 24).all (fun c => isCode c || c.before args0 about1) = true := by decide +kernel
set_option maxRecDepth 65536 in
theorem w_t3 : ((words1.drop 24).drop 24).all (fun c => isCode c || c.before args0 about1) = true := by decide +kernel
theorem w_tables : (allAtoms (Jvm.Cond.code x code maxLocals ret :: tables_1)).before args0 about1 = true := by
  rw [allAtoms_all]
  show words1.all (fun c => c.before args0 about1) = true
  refine all_split ?_ w_codes
  rw [← List.take_append_drop 24 words1, List.all_append, w_t1, ← List.take_append_drop 24 (words1.drop 24), List.all_append, w_t2, w_t3]
  rfl
set_option maxRecDepth 65536 in
theorem w_case : (Jvm.Cond.and given_1 narrow_1).before args0 about1 = true := by decide +kernel
theorem w_applies : (headSpec (Jvm.Cond.code x code maxLocals ret :: tables_1) room_1).applies x e0.platform about1 = true :=
  (Spec.applies_iff w_frames).mpr ⟨w_running, w_runnable, w_alone, w_named, w_hears, w_ripe, w_room, w_tables⟩
theorem atStart : AtStart classFile x code maxLocals ret World_1 tables_1 room_1 Calls_1 rest_1 Pre_1 launch0 p0 e0 about1 theMethod args0 below0 :=
  ⟨lists_1, trivial, launch0.admits_env _ _ _, launch0.least_env, fairChoices_fair.cas, fairChoices_fair.clock, w_frames, w_args, w_heap, w_applies, trivial, trivial, w_case⟩
end start1
theorem witness_1 : WitnessClaimed_1 := ⟨start1.p0, start1.e0, start1.about1, start1.theMethod, start1.args0, start1.below0, start1.atStart⟩
end Jvm.Pilot.@@N@@
